import JvmDerived
import JvmDerived.Pilot.@@N@@Statement
import JvmDerived.Pilot.@@N@@Code
set_option linter.unusedVariables false
set_option linter.unusedSimpArgs false
set_option maxRecDepth 65536
set_option maxHeartbeats 20000000
namespace Jvm.Pilot.@@N@@
open Jvm Jvm.ClassFile Sem Op Lib Jvm.Free Jvm.Stand Jvm.LawKit Jvm.RoadKit Bundle Jvm.Pilot.@@N@@.Jvm.D
section OwnKit
variable {p : Program} {l : Launch} {e : Env} {R : Room} {s : State} {m : MethodId} {args : Array Value} {below : List Frame} {meth : Method} {c : Code} {T : State} {locs : List Loc} {cells slots : Nat} {Z : State} {a0 : Array Value} {h0 : Heap}
/-- from this state the run comes to the end of the invocation, and there P holds -/
def own_G (p : Program) (e : Env) (below : List Frame) (P : Outcome → State → Prop) (st : State) : Prop :=
  ∃ (u : State) (o : Outcome), Steps p.tables e below st u ∧ u.status = .running ∧ Ended u below o ∧ P o u
theorem own_via {P : Outcome → State → Prop} {st st' : State} (k : ∀ t, Steps p.tables e below st' t → Steps p.tables e below st t) (h : own_G p e below P st') : own_G p e below P st := by
  obtain ⟨u, o, h1, h2⟩ := h
  exact ⟨u, o, k _ h1, h2⟩
/-- what a contract says of the end -/
def own_P (s : State) (Q : Option Value → Heap → List Loc → Prop) (k n : Nat) : Outcome → State → Prop := fun o u => ∃ v L, o = .returned v ∧ Q v u.heap L ∧ FrameEnd s o u L k n
/-- it returns w and leaves the heap as it was -/
def own_Q (w : Value) (h0 : Heap) : Option Value → Heap → List Loc → Prop := fun v h L => v = some w ∧ L = [] ∧ h = h0
/-- a contract -/
def own_C (l : Launch) (Z : State) (y : MethodName) (bytes : ByteArray) (maxL : Nat) (ret : Option FieldType) (ws : List Jvm.Cond) (rm : Room) (as : Array Value) (h0 : Heap) (Q : Option Value → Heap → List Loc → Prop) : Prop :=
  MetFree l y (head1 (Jvm.Cond.code y bytes maxL ret :: ws) rm) (fun a U => a = as ∧ Z.Warmed39 U.vm ∧ U.heap = h0) (fun _ _ _ _ _ => True) (fun _ U o U' => ∃ v L, o = .returned v ∧ Q v U'.heap L ∧ FrameEnd U o U' L rm.cells rm.slots)
theorem own_ret {v : Option Value} {Q : Option Value → Heap → List Loc → Prop} {k n : Nat} {st : State} (X : Stand p l e R s m args below meth c T locs cells slots) (hv : meth.sig.returnType = none → v = none) (hlocks : meth.locks = false)
    (hst : ∀ fs, (∀ (f : JFrame) (acts : List Action), f.method = m → f.locked = none → f.entered = [] → (doReturn e (T.setTop f) acts v).1 = T.setFrames fs) → Steps p.tables e below st (T.setFrames fs))
    (hQ : Q v T.heap locs) (hk : cells ≤ k) (hn : slots ≤ n) : own_G p e below (own_P s Q k n) st := by
  obtain ⟨fs, hr, hrun, hended, hW, hsame⟩ := X.leave (v := v) hv hlocks
  exact ⟨_, _, hst fs hr, hrun, hended, _, _, rfl, hQ, ⟨_, rfl⟩, hW, hsame.mono hk hn⟩
theorem own_retI {Q : Option Value → Heap → List Loc → Prop} {k n : Nat} (X : Stand p l e R s m args below meth c T locs cells slots) (hx : p.tables.exec = Jvm.exec) {pc : Nat} {Ls : Array Slot} {z : Int32} {rest : List Value} (hret : meth.sig.returnType = some .int) (hlocks : meth.locks = false) (hd : decode c.code pc = .ok (.ireturn, 1))
    (hQ : Q (some (.int z)) T.heap locs) (hk : cells ≤ k) (hn : slots ≤ n) : own_G p e below (own_P s Q k n) (T.setTop (mkF m pc Ls (.int z :: rest))) := by
  refine own_ret X (fun h => by rw [hret] at h; cases h) hlocks (fun fs hr => ?_) hQ hk hn
  have hm' : T.vm.method? m = some meth := X.method'
  have hn : narrow .int (.int z) = .int z := rfl
  show Steps p.tables e below (T.setTop { method := m, pc := pc, locals := Ls, stack := _ :: rest, locked := none }) _
  jvm_step X.here [X.here.top, hx, hd, hm', hret, hn]
  first | (intro acts; rw [hr _ acts rfl rfl rfl]) | rw [hr _ _ rfl rfl rfl]
  exact Steps.refl _
theorem own_retN {Q : Option Value → Heap → List Loc → Prop} {k n : Nat} {t : FieldType} (X : Stand p l e R s m args below meth c T locs cells slots) (hx : p.tables.exec = Jvm.exec) {pc : Nat} {Ls : Array Slot} {z : Int32} {rest : List Value} (hret : meth.sig.returnType = some t) (ht : t = .boolean ∨ t = .byte ∨ t = .char ∨ t = .short) (hlocks : meth.locks = false) (hd : decode c.code pc = .ok (.ireturn, 1))
    (hQ : Q (some (.int (nar t z))) T.heap locs) (hk : cells ≤ k) (hn : slots ≤ n) : own_G p e below (own_P s Q k n) (T.setTop (mkF m pc Ls (.int z :: rest))) :=
  own_ret X (fun h => by rw [hret] at h; cases h) hlocks (fun fs hr => retN X hx hret ht hd hr) hQ hk hn
theorem own_retV {Q : Option Value → Heap → List Loc → Prop} {k n : Nat} (X : Stand p l e R s m args below meth c T locs cells slots) (hx : p.tables.exec = Jvm.exec) {pc : Nat} {Ls : Array Slot} (hret : meth.sig.returnType = none) (hlocks : meth.locks = false) (hd : decode c.code pc = .ok (.return_, 1))
    (hQ : Q none T.heap locs) (hk : cells ≤ k) (hn : slots ≤ n) : own_G p e below (own_P s Q k n) (T.setTop (mkF m pc Ls [])) :=
  own_ret X (fun _ => rfl) hlocks (fun fs hr => X.returnOut hx hret hd hr) hQ hk hn
theorem own_retA {Q : Option Value → Heap → List Loc → Prop} {k n : Nat} {t : FieldType} {v : Value} (X : Stand p l e R s m args below meth c T locs cells slots) (hx : p.tables.exec = Jvm.exec) {pc : Nat} {Ls : Array Slot} {rest : List Value} (hret : meth.sig.returnType = some t) (ht : t.isReference = true) (hv : v.isRef = true) (hlocks : meth.locks = false) (hd : decode c.code pc = .ok (.areturn, 1))
    (hQ : Q (some v) T.heap locs) (hk : cells ≤ k) (hn : slots ≤ n) : own_G p e below (own_P s Q k n) (T.setTop (mkF m pc Ls (v :: rest))) := by
  refine own_ret X (fun h => by rw [hret] at h; cases h) hlocks (fun fs hr => ?_) hQ hk hn
  have hm' : T.vm.method? m = some meth := X.method'
  show Steps p.tables e below (T.setTop { method := m, pc := pc, locals := Ls, stack := _ :: rest, locked := none }) _
  jvm_step X.here [X.here.top, hx, hd, hm', hret, ht, hv]
  first | (intro acts; rw [hr _ acts rfl rfl rfl]) | rw [hr _ _ rfl rfl rfl]
  exact Steps.refl _
/-- a static method by its contract -/
theorem own_callS {own : String} {index : Nat} {y : MethodName} {bytes : ByteArray} {maxL W : Nat} {ret : Option FieldType} {rm : Room} {as : Array Value} {Q : Option Value → Heap → List Loc → Prop}
    (X : Stand p l e R s m args below meth c T locs cells slots) (hx : p.tables.exec = Jvm.exec) (hZ : Z.Warmed39 s.vm) (hown : s.vm.findClass own = some m.cls)
    (w1 : (Jvm.Cond.methodLink own index y).before a0 Z = true) (w2 : (Jvm.Cond.static y).before a0 Z = true) (w3 : (Jvm.Cond.initialized y.cls).before a0 Z = true) (w4 : (Jvm.Cond.code y bytes maxL ret).before a0 Z = true)
    (hy : y.cls ≠ "java/lang/invoke/MethodHandle" ∧ y.cls ≠ "java/lang/invoke/VarHandle") (hM : own_C l Z y bytes maxL ret [] rm as h0 Q)
    (hf : rm.frames + 1 ≤ R.frames) (hl : W + (maxL + 11) + rm.locals ≤ R.locals) (hcc : cells + rm.cells ≤ R.cells) (hss : slots + rm.slots ≤ R.slots) (e0 : T.heap = h0)
    {pc : Nat} {Ls : Array Slot} {st argsL rest : List Value} (hsize : Ls.size = c.maxLocals) (hlen : ∀ sig, parseMethodDescriptor y.desc = some sig → argsL.length = sig.parameters.length) (has : argsL.toArray = as)
    (hst : st = argsL.reverse ++ rest) (hW : 2 * 0 + (rest.map fun v => v.category).sum ≤ W) (hd : decode c.code pc = .ok (.invokestatic index, 3)) :
    ∃ (v : Option Value) (T' : State) (L : List Loc), Stand p l e R s m args below meth c T' (locs ++ L) (cells + rm.cells) (slots + rm.slots) ∧ Q v T'.heap L ∧
      ∀ target, Steps p.tables e below (T'.setTop (mkF m (pc + 3) Ls (v.toList ++ rest))) target → Steps p.tables e below (T.setTop (mkF m pc Ls st)) target := by
  obtain ⟨v, _, ⟨T', L', k', n'⟩, -, X', ⟨Lc, hQ, h1, h2, h3⟩, stp⟩ := Jvm.LawKit.callS X hx (y := y) hown (mvT hZ w1) (mvT hZ w2) (mvT hZ w3) (mvT hZ w4) hy
    (backOf (W := W) hM hZ w4 w3 hf hl) (g := mkF m pc Ls st) rfl hsize (argsL := argsL) (rest := rest) hlen hst hW hd (fun _ _ => ⟨has, e0, hcc, hss⟩)
  dsimp only [Pt.U, Pt.locs, Pt.cells, Pt.slots] at X' h1 h2 h3 stp hQ
  subst h1 h2 h3
  exact ⟨v, T', Lc, X', hQ, stp⟩
/-- a static method that leaves the heap as it was -/
theorem own_callP {own : String} {index : Nat} {y : MethodName} {bytes : ByteArray} {maxL W : Nat} {ret : Option FieldType} {rm : Room} {as : Array Value} {w : Value}
    (X : Stand p l e R s m args below meth c T locs cells slots) (hx : p.tables.exec = Jvm.exec) (hZ : Z.Warmed39 s.vm) (hown : s.vm.findClass own = some m.cls)
    (w1 : (Jvm.Cond.methodLink own index y).before a0 Z = true) (w2 : (Jvm.Cond.static y).before a0 Z = true) (w3 : (Jvm.Cond.initialized y.cls).before a0 Z = true) (w4 : (Jvm.Cond.code y bytes maxL ret).before a0 Z = true)
    (hy : y.cls ≠ "java/lang/invoke/MethodHandle" ∧ y.cls ≠ "java/lang/invoke/VarHandle") (hM : own_C l Z y bytes maxL ret [] rm as h0 (own_Q w h0))
    (hf : rm.frames + 1 ≤ R.frames) (hl : W + (maxL + 11) + rm.locals ≤ R.locals) (hrc : rm.cells = 0) (hrs : rm.slots = 0) (hcc : cells + rm.cells ≤ R.cells) (hss : slots + rm.slots ≤ R.slots) (e0 : T.heap = h0)
    {pc : Nat} {Ls : Array Slot} {st argsL rest : List Value} (hsize : Ls.size = c.maxLocals) (hlen : ∀ sig, parseMethodDescriptor y.desc = some sig → argsL.length = sig.parameters.length) (has : argsL.toArray = as)
    (hst : st = argsL.reverse ++ rest) (hW : 2 * 0 + (rest.map fun v => v.category).sum ≤ W) (hd : decode c.code pc = .ok (.invokestatic index, 3)) :
    ∃ (T' : State), Stand p l e R s m args below meth c T' locs cells slots ∧ T'.heap = h0 ∧
      ∀ target, Steps p.tables e below (T'.setTop (mkF m (pc + 3) Ls (w :: rest))) target → Steps p.tables e below (T.setTop (mkF m pc Ls st)) target := by
  obtain ⟨v, T', L, X', ⟨rfl, rfl, hh⟩, stp⟩ := own_callS X hx hZ hown w1 w2 w3 w4 hy hM hf hl hcc hss e0 hsize hlen has hst hW hd
  rw [List.append_nil, hrc, hrs] at X'
  exact ⟨T', X', hh, stp⟩
end OwnKit
section OwnHeap
variable {p : Program} {l : Launch} {e : Env} {R : Room} {s : State} {m : MethodId} {args : Array Value} {below : List Frame} {meth : Method} {c : Code} {T : State} {locs : List Loc} {cells slots : Nat} {Z : State} {a0 : Array Value} {h0 h : Heap} {n0 : Nat}
/-- the writes lie at or above n0, and q says the rest -/
def own_W (n0 : Nat) (q : Option Value → Heap → Prop) : Option Value → Heap → List Loc → Prop := fun v h L => Fr n0 L ∧ q v h
theorem own_newA (X : Stand p l e R s m args below meth c T locs cells slots) (hx : p.tables.exec = Jvm.exec) (hZ : Z.Warmed39 s.vm) {aty : ArrayType} (w : (Jvm.Cond.arrayClass (newarray.typeOf aty)).before a0 Z = true) (eT : T.heap = h) {pc : Nat} {Ls : Array Slot} (hd : decode c.code pc = .ok (.newarray aty, 2)) {n : Int32} {rest : List Value}
    (hn : ¬ n < 0) {cap : Nat} (hcap : n.toNatClampNeg ≤ cap) (hb : cap * 8 ≤ 536870912) (hc : cells + 1 ≤ R.cells) (hl : slots + cap ≤ R.slots) (len : Nat) {ad : String} (had : "[" ++ (newarray.typeOf aty).toString = ad) :
    ∃ T' h' k a, Stand p l e R s m args below meth c T' locs (cells + 1) (slots + cap) ∧ T'.heap = h' ∧ Ext h h' ∧ a = h.size ∧ Arv Z h' a k (newarray.typeOf aty) n (List.replicate len (defaultValue (newarray.typeOf aty))) (defaultValue (newarray.typeOf aty)) ∧ Exa Z h' a ad ∧
      ∀ target, Steps p.tables e below (T'.setTop (mkF m (pc + 2) Ls (.ref a :: rest))) target → Steps p.tables e below (T.setTop (mkF m pc Ls (.int n :: rest))) target := by
  obtain ⟨T', h', k, X', e', E, A, Ex, st⟩ := newPE X hx hZ w eT (g := mkF m pc Ls (.int n :: rest)) rfl hd rfl hn hcap hb hc hl had
  exact ⟨T', h', k, h.size, X', e', E, rfl, (Arv.new A hn).pad (fun i => by have := pad_rep [] (defaultValue (newarray.typeOf aty)) len i; rwa [List.nil_append] at this), Ex, st⟩
theorem own_stI (X : Stand p l e R s m args below meth c T locs cells slots) (N : Fr n0 locs) (hx : p.tables.exec = Jvm.exec) (hZ : Z.Warmed39 s.vm) (eT : T.heap = h) {a : Addr} {k : ClassId} {z : Int32} {vs : List Value} {d : Value} (V : Arv Z h a k .int z vs d) (ga : n0 ≤ a) {j x : Int32} {i : Nat} (hj : ¬ j < 0 ∧ j < z) (hi : j.toNatClampNeg = i) (hl : i < vs.length)
    {pc : Nat} {Ls : Array Slot} {rest : List Value} (hd : decode c.code pc = .ok (.iastore, 1)) :
    ∃ T' h' L', Stand p l e R s m args below meth c T' L' cells slots ∧ Fr n0 L' ∧ T'.heap = h' ∧ Wr h h' a i (.int x) ∧ Arv Z h' a k .int z (vs.set i (.int x)) d ∧
      ∀ target, Steps p.tables e below (T'.setTop (mkF m (pc + 1) Ls rest)) target → Steps p.tables e below (T.setTop (mkF m pc Ls (.int x :: .int j :: .ref a :: rest))) target := by
  obtain ⟨cl, Ar, q, S, Nn, H, G⟩ := V
  obtain ⟨T', h', X', e', W, st⟩ := stI X hx hZ eT Ar (j := j) (x := x) (inb_of S hj) (g := mkF m pc Ls (.int x :: .int j :: .ref a :: rest)) rfl rfl hd
  subst hi
  exact ⟨T', h', _, X', Fr.snoc X' N ga, e', W, Arv.set Ar q S Nn H G rfl W _ rfl hl, st⟩
theorem own_ldI (X : Stand p l e R s m args below meth c T locs cells slots) (hx : p.tables.exec = Jvm.exec) (hZ : Z.Warmed39 s.vm) (eT : T.heap = h) {a : Addr} {k : ClassId} {z : Int32} {vs : List Value} {d v : Value} (V : Arv Z h a k .int z vs d) {j : Int32} (hj : ¬ j < 0 ∧ j < z) (hv : vs.getD j.toNatClampNeg d = v)
    {pc : Nat} {Ls : Array Slot} {rest : List Value} (hd : decode c.code pc = .ok (.iaload, 1)) (target : State) (hr : Steps p.tables e below (T.setTop (mkF m (pc + 1) Ls (v :: rest))) target) : Steps p.tables e below (T.setTop (mkF m pc Ls (.int j :: .ref a :: rest))) target := by
  obtain ⟨cl, Ar, q, S, Nn, H, G⟩ := V
  have hin := inb_of S hj
  refine X.iaload hx (j := j) (v := v) (by rw [eT]; exact Ar.1) (State.isArrayOf_alike hZ.alike Ar.2.1) Ar.2.2 hin ?_ (g := mkF m pc Ls (.int j :: .ref a :: rest)) rfl rfl hd _ hr
  rw [H _ (Nat.lt_of_not_le fun q => hin (Or.inr q)), hv]
theorem own_len (X : Stand p l e R s m args below meth c T locs cells slots) (hx : p.tables.exec = Jvm.exec) (hZ : Z.Warmed39 s.vm) (eT : T.heap = h) {a : Addr} {k : ClassId} {ty : FieldType} {z : Int32} {vs : List Value} {d : Value} (V : Arv Z h a k ty z vs d)
    {pc : Nat} {Ls : Array Slot} {rest : List Value} (hd : decode c.code pc = .ok (.arraylength, 1)) (target : State) (hr : Steps p.tables e below (T.setTop (mkF m (pc + 1) Ls (.int z :: rest))) target) : Steps p.tables e below (T.setTop (mkF m pc Ls (.ref a :: rest))) target := by
  obtain ⟨cl, Ar, q, S, Nn, H, G⟩ := V
  refine X.arraylength hx (by rw [eT]; exact Ar.1) (State.isArrayOf_alike hZ.alike Ar.2.1) (g := mkF m pc Ls (.ref a :: rest)) rfl rfl hd _ ?_
  rw [len_of S Nn]
  exact hr
/-- a field written -/
theorem own_putF (X : Stand p l e R s m args below meth c T locs cells slots) (N : Fr n0 locs) (hx : p.tables.exec = Jvm.exec) (hZ : Z.Warmed39 s.vm) {own O n d C : String} {index kk : Nat} {ty : FieldType} (hown : s.vm.findClass own = some m.cls) (w : (Jvm.Cond.fieldLink own index O n d).before a0 Z = true)
    (eT : T.heap = h) {a : Addr} {v old : Value} (F : Fld Z h a O n d old) (E : Exa Z h a C) (L : (Jvm.Cond.lays C O n d).before a0 Z = true ∨ ((Jvm.Cond.laysFinal C O n d).before a0 Z = true ∧ own = O ∧ meth.name = "<init>")) (wi : (Jvm.Cond.instantiable C kk).before a0 Z = true) (ga : n0 ≤ a)
    (hty : parseFieldDescriptor d = some ty) (hn : narrow ty v = v) (hf : fits ty v = true) {pc : Nat} {Ls : Array Slot} {rest : List Value} (hd : decode c.code pc = .ok (.putfield index, 3)) :
    ∃ T' h' L', Stand p l e R s m args below meth c T' L' cells slots ∧ Fr n0 L' ∧ T'.heap = h' ∧ Wr h h' a (Jvm.RoadKit.slotOf Z O n d) v ∧ Fld Z h' a O n d v ∧
      ∀ target, Steps p.tables e below (T'.setTop (mkF m (pc + 3) Ls rest)) target → Steps p.tables e below (T.setTop (mkF m pc Ls (v :: .ref a :: rest))) target := by
  obtain ⟨T', h', X', e', W, st⟩ := putF X hx hZ hown (host := "") (Or.inl w) Via.refl eT F E L wi hty hn hf (g := mkF m pc Ls (v :: .ref a :: rest)) rfl rfl hd
  exact ⟨T', h', _, X', Fr.snoc X' N ga, e', W, F.same W, st⟩
theorem own_putFN (X : Stand p l e R s m args below meth c T locs cells slots) (N : Fr n0 locs) (hx : p.tables.exec = Jvm.exec) (hZ : Z.Warmed39 s.vm) {own O n d C : String} {index kk : Nat} {ty : FieldType} (hown : s.vm.findClass own = some m.cls) (w : (Jvm.Cond.fieldLink own index O n d).before a0 Z = true)
    (eT : T.heap = h) {a : Addr} {v v' old : Value} (F : Fld Z h a O n d old) (E : Exa Z h a C) (L : (Jvm.Cond.lays C O n d).before a0 Z = true ∨ ((Jvm.Cond.laysFinal C O n d).before a0 Z = true ∧ own = O ∧ meth.name = "<init>")) (wi : (Jvm.Cond.instantiable C kk).before a0 Z = true) (ga : n0 ≤ a)
    (hty : parseFieldDescriptor d = some ty) (hn : narrow ty v = v') (hf : fits ty v' = true) {pc : Nat} {Ls : Array Slot} {rest : List Value} (hd : decode c.code pc = .ok (.putfield index, 3)) :
    ∃ T' h' L', Stand p l e R s m args below meth c T' L' cells slots ∧ Fr n0 L' ∧ T'.heap = h' ∧ Wr h h' a (Jvm.RoadKit.slotOf Z O n d) v' ∧ Fld Z h' a O n d v' ∧
      ∀ target, Steps p.tables e below (T'.setTop (mkF m (pc + 3) Ls rest)) target → Steps p.tables e below (T.setTop (mkF m pc Ls (v :: .ref a :: rest))) target := by
  obtain ⟨T', h', X', e', W, st⟩ := putFN X hx hZ hown w Via.refl eT F E L wi hty hn hf (g := mkF m pc Ls (v :: .ref a :: rest)) rfl rfl hd
  exact ⟨T', h', _, X', Fr.snoc X' N ga, e', W, F.same W, st⟩
/-- new -/
theorem own_newO (X : Stand p l e R s m args below meth c T locs cells slots) (hx : p.tables.exec = Jvm.exec) (hZ : Z.Warmed39 s.vm) {own C : String} {index n : Nat} (hown : s.vm.findClass own = some m.cls) (w : (Jvm.Cond.classLink own index C).before a0 Z = true) (wi : (Jvm.Cond.instantiable C n).before a0 Z = true) (wz : (Jvm.Cond.initialized C).before a0 Z = true) (eT : T.heap = h)
    {pc : Nat} {Ls : Array Slot} {rest : List Value} (hd : decode c.code pc = .ok (.new index, 3)) (hc : cells + 1 ≤ R.cells) (hl : slots + n ≤ R.slots) :
    ∃ T' h' a, Stand p l e R s m args below meth c T' locs (cells + 1) (slots + n) ∧ T'.heap = h' ∧ Ext h h' ∧ a = h.size ∧ Exa Z h' a C ∧ (∀ {O nm d : String} {ty : FieldType}, Laid Z a0 C O nm d → parseFieldDescriptor d = some ty → Fld Z h' a O nm d (defaultValue ty)) ∧
      ∀ target, Steps p.tables e below (T'.setTop (mkF m (pc + 3) Ls (.ref a :: rest))) target → Steps p.tables e below (T.setTop (mkF m pc Ls rest)) target := by
  obtain ⟨T', h', X', e', E, A, D, -, st⟩ := newO X hx hZ hown w wi wz eT (g := mkF m pc Ls rest) rfl hd hc hl
  exact ⟨T', h', h.size, X', e', E, rfl, A, D, st⟩
/-- a static method that may write and make -/
theorem own_callSW {own : String} {index : Nat} {y : MethodName} {bytes : ByteArray} {maxL W : Nat} {ret : Option FieldType} {rm : Room} {as : Array Value} {q : Option Value → Heap → Prop}
    (X : Stand p l e R s m args below meth c T locs cells slots) (N : Fr n0 locs) (hx : p.tables.exec = Jvm.exec) (hZ : Z.Warmed39 s.vm) (hown : s.vm.findClass own = some m.cls)
    (w1 : (Jvm.Cond.methodLink own index y).before a0 Z = true) (w2 : (Jvm.Cond.static y).before a0 Z = true) (w3 : (Jvm.Cond.initialized y.cls).before a0 Z = true) (w4 : (Jvm.Cond.code y bytes maxL ret).before a0 Z = true)
    (hy : y.cls ≠ "java/lang/invoke/MethodHandle" ∧ y.cls ≠ "java/lang/invoke/VarHandle") (hM : own_C l Z y bytes maxL ret [] rm as h (own_W n0 q))
    (hf : rm.frames + 1 ≤ R.frames) (hl : W + (maxL + 11) + rm.locals ≤ R.locals) (hcc : cells + rm.cells ≤ R.cells) (hss : slots + rm.slots ≤ R.slots) (e0 : T.heap = h)
    {pc : Nat} {Ls : Array Slot} {st argsL rest : List Value} (hsize : Ls.size = c.maxLocals) (hlen : ∀ sig, parseMethodDescriptor y.desc = some sig → argsL.length = sig.parameters.length) (has : argsL.toArray = as)
    (hst : st = argsL.reverse ++ rest) (hW : 2 * 0 + (rest.map fun v => v.category).sum ≤ W) (hd : decode c.code pc = .ok (.invokestatic index, 3)) :
    ∃ (v : Option Value) (T' : State) (h' : Heap) (L' : List Loc), Stand p l e R s m args below meth c T' L' (cells + rm.cells) (slots + rm.slots) ∧ Fr n0 L' ∧ T'.heap = h' ∧ q v h' ∧
      ∀ target, Steps p.tables e below (T'.setTop (mkF m (pc + 3) Ls (v.toList ++ rest))) target → Steps p.tables e below (T.setTop (mkF m pc Ls st)) target := by
  obtain ⟨v, T', L, X', ⟨N', hq⟩, stp⟩ := own_callS X hx hZ hown w1 w2 w3 w4 hy hM hf hl hcc hss e0 hsize hlen has hst hW hd
  exact ⟨v, T', _, _, X', N.app N', rfl, hq, stp⟩
/-- a constructor by its contract -/
theorem own_callI {own : String} {index : Nat} {y : MethodName} {bytes : ByteArray} {maxL W : Nat} {rm : Room} {as : Array Value} {q : Option Value → Heap → Prop} {a : Addr}
    (X : Stand p l e R s m args below meth c T locs cells slots) (N : Fr n0 locs) (hx : p.tables.exec = Jvm.exec) (hZ : Z.Warmed39 s.vm) (hy1 : y.name = "<init>") (hown : s.vm.findClass own = some m.cls)
    (w1 : (Jvm.Cond.methodLink own index y).before a0 Z = true) (w2 : (Jvm.Cond.instanceMethod y).before a0 Z = true) (w3 : (Jvm.Cond.initialized y.cls).before a0 Z = true) (w4 : (Jvm.Cond.code y bytes maxL none).before a0 Z = true)
    (hy : y.cls ≠ "java/lang/invoke/MethodHandle" ∧ y.cls ≠ "java/lang/invoke/VarHandle") (hM : own_C l Z y bytes maxL none [] rm as h (own_W n0 q))
    (hf : rm.frames + 1 ≤ R.frames) (hl : W + (maxL + 11) + rm.locals ≤ R.locals) (hcc : cells + rm.cells ≤ R.cells) (hss : slots + rm.slots ≤ R.slots) (e0 : T.heap = h)
    {pc : Nat} {Ls : Array Slot} {st argsL rest : List Value} (hsize : Ls.size = c.maxLocals) (hlen : ∀ sig, parseMethodDescriptor y.desc = some sig → argsL.length = sig.parameters.length) (has : (Value.ref a :: argsL).toArray = as)
    (hst : st = argsL.reverse ++ .ref a :: rest) (hW : 2 * 0 + (rest.map fun v => v.category).sum ≤ W) (hd : decode c.code pc = .ok (.invokespecial index, 3)) :
    ∃ (v : Option Value) (T' : State) (h' : Heap) (L' : List Loc), Stand p l e R s m args below meth c T' L' (cells + rm.cells) (slots + rm.slots) ∧ Fr n0 L' ∧ T'.heap = h' ∧ q v h' ∧
      ∀ target, Steps p.tables e below (T'.setTop (mkF m (pc + 3) Ls (v.toList ++ rest))) target → Steps p.tables e below (T.setTop (mkF m pc Ls st)) target := by
  obtain ⟨v, _, ⟨T', L', k', n'⟩, -, X', ⟨Lc, ⟨N', hq⟩, h1, h2, h3⟩, stp⟩ := X.specialBack hx (y := y) hy1 hown (mvT hZ w1) (mvT hZ w2) (mvT hZ w4) hy
    (backOf (W := W) hM hZ w4 w3 hf hl) (g := mkF m pc Ls st) rfl hsize (Steps.refl _) (a := a) (argsL := argsL) (rest := rest) hlen hst hW hd (fun _ _ => ⟨has, e0, hcc, hss⟩)
  dsimp only [Pt.U, Pt.locs, Pt.cells, Pt.slots] at X' h1 h2 h3 stp hq
  subst h1 h2 h3
  exact ⟨v, T', _, _, X', N.app N', rfl, hq, fun t k => stp.trans k⟩
/-- an instance method by its contract -/
theorem own_callV {own C : String} {index : Nat} {y z : MethodName} {bytes : ByteArray} {maxL W : Nat} {ret : Option FieldType} {rm : Room} {as : Array Value} {q : Option Value → Heap → Prop} {a : Addr}
    (X : Stand p l e R s m args below meth c T locs cells slots) (N : Fr n0 locs) (hx : p.tables.exec = Jvm.exec) (hZ : Z.Warmed39 s.vm) (hown : s.vm.findClass own = some m.cls)
    (w1 : (Jvm.Cond.methodLink own index y).before a0 Z = true) (w2 : (Jvm.Cond.declares y).before a0 Z = true) (hnf : NotFace s y) (ws : (Jvm.Cond.selects C y z).before a0 Z = true) (wi : (Jvm.Cond.instanceMethod z).before a0 Z = true) (w3 : (Jvm.Cond.initialized z.cls).before a0 Z = true) (w4 : (Jvm.Cond.code z bytes maxL ret).before a0 Z = true)
    (hy : y.cls ≠ "java/lang/invoke/MethodHandle" ∧ y.cls ≠ "java/lang/invoke/VarHandle") (hM : own_C l Z z bytes maxL ret [] rm as h (own_W n0 q))
    (hf : rm.frames + 1 ≤ R.frames) (hl : W + (maxL + 11) + rm.locals ≤ R.locals) (hcc : cells + rm.cells ≤ R.cells) (hss : slots + rm.slots ≤ R.slots) (e0 : T.heap = h) (E : Exa Z h a C)
    {pc : Nat} {Ls : Array Slot} {st argsL rest : List Value} (hsize : Ls.size = c.maxLocals) (hlen : ∀ sig, parseMethodDescriptor y.desc = some sig → argsL.length = sig.parameters.length) (has : (Value.ref a :: argsL).toArray = as)
    (hst : st = argsL.reverse ++ .ref a :: rest) (hW : 2 * 0 + (rest.map fun v => v.category).sum ≤ W) (hd : decode c.code pc = .ok (.invokevirtual index, 3)) :
    ∃ (v : Option Value) (T' : State) (h' : Heap) (L' : List Loc), Stand p l e R s m args below meth c T' L' (cells + rm.cells) (slots + rm.slots) ∧ Fr n0 L' ∧ T'.heap = h' ∧ q v h' ∧
      ∀ target, Steps p.tables e below (T'.setTop (mkF m (pc + 3) Ls (v.toList ++ rest))) target → Steps p.tables e below (T.setTop (mkF m pc Ls st)) target := by
  obtain ⟨cq, kq, qa, qb, qc⟩ := isOf hZ e0 E
  obtain ⟨v, _, ⟨T', L', k', n'⟩, -, X', ⟨Lc, ⟨N', hq⟩, h1, h2, h3⟩, stp⟩ := X.virtualBack hx (y := y) (z := z) hown (mvT hZ w1) (mvT hZ w2) hnf (mvT hZ ws) (mvT hZ wi) hy
    (backOf (W := W) hM hZ w4 w3 hf hl) qa qc (g := mkF m pc Ls st) rfl hsize (Steps.refl _) (argsL := argsL) (rest := rest) hlen hst hW hd (fun _ _ => ⟨has, e0, hcc, hss⟩)
  dsimp only [Pt.U, Pt.locs, Pt.cells, Pt.slots] at X' h1 h2 h3 stp hq
  subst h1 h2 h3
  exact ⟨v, T', _, _, X', N.app N', rfl, hq, fun t k => stp.trans k⟩
/-- an instance method that leaves the heap as it was -/
theorem own_callVP {own C : String} {index : Nat} {y z : MethodName} {bytes : ByteArray} {maxL W : Nat} {ret : Option FieldType} {rm : Room} {as : Array Value} {w : Value} {a : Addr}
    (X : Stand p l e R s m args below meth c T locs cells slots) (hx : p.tables.exec = Jvm.exec) (hZ : Z.Warmed39 s.vm) (hown : s.vm.findClass own = some m.cls)
    (w1 : (Jvm.Cond.methodLink own index y).before a0 Z = true) (w2 : (Jvm.Cond.declares y).before a0 Z = true) (hnf : NotFace s y) (ws : (Jvm.Cond.selects C y z).before a0 Z = true) (wi : (Jvm.Cond.instanceMethod z).before a0 Z = true) (w3 : (Jvm.Cond.initialized z.cls).before a0 Z = true) (w4 : (Jvm.Cond.code z bytes maxL ret).before a0 Z = true)
    (hy : y.cls ≠ "java/lang/invoke/MethodHandle" ∧ y.cls ≠ "java/lang/invoke/VarHandle") (hM : own_C l Z z bytes maxL ret [] rm as h (own_Q w h))
    (hf : rm.frames + 1 ≤ R.frames) (hl : W + (maxL + 11) + rm.locals ≤ R.locals) (hrc : rm.cells = 0) (hrs : rm.slots = 0) (hcc : cells + rm.cells ≤ R.cells) (hss : slots + rm.slots ≤ R.slots) (e0 : T.heap = h) (E : Exa Z h a C)
    {pc : Nat} {Ls : Array Slot} {st argsL rest : List Value} (hsize : Ls.size = c.maxLocals) (hlen : ∀ sig, parseMethodDescriptor y.desc = some sig → argsL.length = sig.parameters.length) (has : (Value.ref a :: argsL).toArray = as)
    (hst : st = argsL.reverse ++ .ref a :: rest) (hW : 2 * 0 + (rest.map fun v => v.category).sum ≤ W) (hd : decode c.code pc = .ok (.invokevirtual index, 3)) :
    ∃ (T' : State), Stand p l e R s m args below meth c T' locs cells slots ∧ T'.heap = h ∧
      ∀ target, Steps p.tables e below (T'.setTop (mkF m (pc + 3) Ls (w :: rest))) target → Steps p.tables e below (T.setTop (mkF m pc Ls st)) target := by
  obtain ⟨cq, kq, qa, qb, qc⟩ := isOf hZ e0 E
  obtain ⟨v, _, ⟨T', L', k', n'⟩, -, X', ⟨Lc, ⟨rfl, rfl, hh⟩, h1, h2, h3⟩, stp⟩ := X.virtualBack hx (y := y) (z := z) hown (mvT hZ w1) (mvT hZ w2) hnf (mvT hZ ws) (mvT hZ wi) hy
    (backOf (W := W) hM hZ w4 w3 hf hl) qa qc (g := mkF m pc Ls st) rfl hsize (Steps.refl _) (argsL := argsL) (rest := rest) hlen hst hW hd (fun _ _ => ⟨has, e0, hcc, hss⟩)
  dsimp only [Pt.U, Pt.locs, Pt.cells, Pt.slots] at X' h1 h2 h3 stp hh
  subst h1 h2 h3
  rw [List.append_nil, hrc, hrs] at X'
  exact ⟨T', X', hh, fun t k => stp.trans k⟩
theorem own_ke {h h' : Heap} (K : Keep h h' []) : Ext h h' := ⟨K.1, fun a c q => K.2.1 a c q (by simp)⟩
end OwnHeap
/-- own_G, told by its parts -/
abbrev own_H {p : Program} {e : Env} {below : List Frame} {P : Outcome → State → Prop} {m : MethodId} (T : State) (pc : Nat) (Ls : Array Slot) (st : List Value) : Prop := own_G p e below P (T.setTop (mkF m pc Ls st))
section OwnThird
variable {p : Program} {l : Launch} {e : Env} {R : Room} {s : State} {m : MethodId} {args : Array Value} {below : List Frame} {meth : Method} {c : Code} {T : State} {locs : List Loc} {cells slots : Nat} {Z : State} {a0 : Array Value} {h0 h : Heap} {n0 : Nat}
theorem own_u {a0 : Array Value} {Z : State} (hw : ∀ d ∈ tables_1, d.before a0 Z = true) {d : Jvm.Cond} (i : Nat) (h : tables_1[i]? = some d) : d.before a0 Z = true := hw _ (List.mem_of_getElem? h)
/-- int arrays at places that aren't literals -/
def own_set (L : List Int32) (j x : Int32) : List Int32 := L.set j.toNatClampNeg x
def own_get (L : List Int32) (j : Int32) : Int32 := L.getD j.toNatClampNeg 0
def own_take (L : List Int32) (n : Nat) : List Int32 := (List.range n).map fun i => L.getD i 0
def own_in (L : List Int32) (j z : Int32) : Prop := (¬ j < 0 ∧ j < z) ∧ j.toNatClampNeg < L.length
instance (L : List Int32) (j z : Int32) : Decidable (own_in L j z) := by unfold own_in; infer_instance
theorem own_getD (L : List Int32) (i : Nat) : (L.map Value.int).getD i (.int 0) = .int (L.getD i 0) := by
  simp only [List.getD_eq_getElem?_getD, List.getElem?_map]
  cases L[i]? <;> rfl
theorem own_stS (X : Stand p l e R s m args below meth c T locs cells slots) (N : Fr n0 locs) (hx : p.tables.exec = Jvm.exec) (hZ : Z.Warmed39 s.vm) (eT : T.heap = h) {a : Addr} {k : ClassId} {z : Int32} {L : List Int32} {d : Value} (V : Arv Z h a k .int z (L.map Value.int) d) (ga : n0 ≤ a) {j x : Int32} (hj : own_in L j z)
    {pc : Nat} {Ls : Array Slot} {rest : List Value} (hd : decode c.code pc = .ok (.iastore, 1)) :
    ∃ T' h' L', Stand p l e R s m args below meth c T' L' cells slots ∧ Fr n0 L' ∧ T'.heap = h' ∧ Wr h h' a j.toNatClampNeg (.int x) ∧ Arv Z h' a k .int z ((own_set L j x).map Value.int) d ∧
      ∀ target, Steps p.tables e below (T'.setTop (mkF m (pc + 1) Ls rest)) target → Steps p.tables e below (T.setTop (mkF m pc Ls (.int x :: .int j :: .ref a :: rest))) target := by
  have r := own_stI X N hx hZ eT V ga (x := x) hj.1 rfl (by rw [List.length_map]; exact hj.2) (Ls := Ls) (rest := rest) hd
  have q : (own_set L j x).map Value.int = (L.map Value.int).set j.toNatClampNeg (.int x) := by simp [own_set, List.map_set]
  rw [q]; exact r
theorem own_ldS (X : Stand p l e R s m args below meth c T locs cells slots) (hx : p.tables.exec = Jvm.exec) (hZ : Z.Warmed39 s.vm) (eT : T.heap = h) {a : Addr} {k : ClassId} {z : Int32} {L : List Int32} (V : Arv Z h a k .int z (L.map Value.int) (.int 0)) {j : Int32} (hj : ¬ j < 0 ∧ j < z)
    {pc : Nat} {Ls : Array Slot} {rest : List Value} (hd : decode c.code pc = .ok (.iaload, 1)) (target : State) (hr : Steps p.tables e below (T.setTop (mkF m (pc + 1) Ls (.int (own_get L j) :: rest))) target) : Steps p.tables e below (T.setTop (mkF m pc Ls (.int j :: .ref a :: rest))) target :=
  own_ldI X hx hZ eT V hj (own_getD L _) hd target hr
theorem own_stJ (X : Stand p l e R s m args below meth c T locs cells slots) (N : Fr n0 locs) (hx : p.tables.exec = Jvm.exec) (hZ : Z.Warmed39 s.vm) (eT : T.heap = h) {a : Addr} {k : ClassId} {z : Int32} {vs : List Value} {d : Value} (V : Arv Z h a k .long z vs d) (ga : n0 ≤ a) {j : Int32} {x : Int64} {i : Nat} (hj : ¬ j < 0 ∧ j < z) (hi : j.toNatClampNeg = i) (hl : i < vs.length)
    {pc : Nat} {Ls : Array Slot} {rest : List Value} (hd : decode c.code pc = .ok (.lastore, 1)) :
    ∃ T' h' L', Stand p l e R s m args below meth c T' L' cells slots ∧ Fr n0 L' ∧ T'.heap = h' ∧ Wr h h' a i (.long x) ∧ Arv Z h' a k .long z (vs.set i (.long x)) d ∧
      ∀ target, Steps p.tables e below (T'.setTop (mkF m (pc + 1) Ls rest)) target → Steps p.tables e below (T.setTop (mkF m pc Ls (.long x :: .int j :: .ref a :: rest))) target := by
  obtain ⟨cl, Ar, q, S, Nn, H, G⟩ := V
  obtain ⟨T', h', X', e', W, st⟩ := stJ X hx hZ eT Ar (j := j) (x := x) (inb_of S hj) (g := mkF m pc Ls (.long x :: .int j :: .ref a :: rest)) rfl rfl hd
  subst hi
  exact ⟨T', h', _, X', Fr.snoc X' N ga, e', W, Arv.set Ar q S Nn H G rfl W _ rfl hl, st⟩
theorem own_ldJ (X : Stand p l e R s m args below meth c T locs cells slots) (hx : p.tables.exec = Jvm.exec) (hZ : Z.Warmed39 s.vm) (eT : T.heap = h) {a : Addr} {k : ClassId} {z : Int32} {vs : List Value} {d v : Value} (V : Arv Z h a k .long z vs d) {j : Int32} (hj : ¬ j < 0 ∧ j < z) (hv : vs.getD j.toNatClampNeg d = v)
    {pc : Nat} {Ls : Array Slot} {rest : List Value} (hd : decode c.code pc = .ok (.laload, 1)) (target : State) (hr : Steps p.tables e below (T.setTop (mkF m (pc + 1) Ls (v :: rest))) target) : Steps p.tables e below (T.setTop (mkF m pc Ls (.int j :: .ref a :: rest))) target := by
  obtain ⟨cl, Ar, q, S, Nn, H, G⟩ := V
  have hin := inb_of S hj
  refine X.laload hx (j := j) (v := v) (by rw [eT]; exact Ar.1) (State.isArrayOf_alike hZ.alike Ar.2.1) Ar.2.2 hin ?_ (g := mkF m pc Ls (.int j :: .ref a :: rest)) rfl rfl hd _ hr
  rw [H _ (Nat.lt_of_not_le fun q => hin (Or.inr q)), hv]
theorem own_dup2 (X : Stand p l e R s m args below meth c T locs cells slots) (hx : p.tables.exec = Jvm.exec) {pc : Nat} {Ls : Array Slot} {x y : Value} {rest : List Value} (hc : x.category = 1) (hc' : y.category = 1) (hd : decode c.code pc = .ok (.dup2, 1)) (target : State)
    (hr : Steps p.tables e below (T.setTop (mkF m (pc + 1) Ls (x :: y :: x :: y :: rest))) target) : Steps p.tables e below (T.setTop (mkF m pc Ls (x :: y :: rest))) target := by
  have h := X.here
  unfold mkF at *
  jvm_step h [h.top, hx, hd, hc, hc']
  exact hr
theorem own_dupx2 (X : Stand p l e R s m args below meth c T locs cells slots) (hx : p.tables.exec = Jvm.exec) {pc : Nat} {Ls : Array Slot} {x y z : Value} {rest : List Value} (hc : x.category = 1) (hc' : y.category = 1) (hc'' : z.category = 1) (hd : decode c.code pc = .ok (.dup_x2, 1)) (target : State)
    (hr : Steps p.tables e below (T.setTop (mkF m (pc + 1) Ls (x :: y :: z :: x :: rest))) target) : Steps p.tables e below (T.setTop (mkF m pc Ls (x :: y :: z :: rest))) target := by
  have h := X.here
  unfold mkF at *
  jvm_step h [h.top, hx, hd, hc, hc', hc'']
  exact hr
theorem own_nfw {W k : Nat} (h : W + 40 ≤ k) : W + (nativeFrameWords "java/lang/System" "arraycopy" 5 + 11) ≤ k := by
  have : nativeFrameWords "java/lang/System" "arraycopy" 5 + 11 ≤ 40 := by decide
  omega
/-- arraycopy of the first n ints into a fresh array of n -/
theorem own_cp (X : Stand p l e R s m args below meth c T locs cells slots) (N : Fr n0 locs) (hx : p.tables.exec = Jvm.exec) (hZ : Z.Warmed39 s.vm) {own : String} {index : Nat} (hown : s.vm.findClass own = some m.cls)
    (w1 : (Jvm.Cond.methodLink own index Jvm.Stand.acN).before a0 Z = true) (w2 : (Jvm.Cond.native Jvm.Stand.acN).before a0 Z = true) (w3 : (Jvm.Cond.static Jvm.Stand.acN).before a0 Z = true) (w4 : (Jvm.Cond.initialized "java/lang/System").before a0 Z = true) (eT : T.heap = h)
    {a b : Addr} {k k' : ClassId} {z z' nn : Int32} {L : List Int32} {vd : List Value} {dd : Value} (A : Arv Z h a k .int z (L.map Value.int) (.int 0)) (B : Arv Z h b k' .int z' vd dd) (ge : n0 ≤ b)
    {n : Nat} (hn : nn.toNatClampNeg = n) (h3 : ¬ nn < 0) (h4 : n ≤ z.toNatClampNeg) (h5 : z'.toNatClampNeg = n) (h6 : vd.length = n)
    {pc : Nat} {Ls : Array Slot} {rest : List Value} (hsize : Ls.size = c.maxLocals) (hd : decode c.code pc = .ok (.invokestatic index, 3)) (hf : 1 ≤ R.frames) {W : Nat} (hW : 2 * 0 + (rest.map fun v => v.category).sum ≤ W) (hlo : W + 40 ≤ R.locals) :
    ∃ T' h' L', Stand p l e R s m args below meth c T' L' cells slots ∧ Fr n0 L' ∧ T'.heap = h' ∧ Keep h h' [b] ∧ Arv Z h' b k' .int z' ((own_take L n).map Value.int) dd ∧
      ∀ target, Steps p.tables e below (T'.setTop (mkF m (pc + 3) Ls rest)) target → Steps p.tables e below (T.setTop (mkF m pc Ls (.int nn :: .int 0 :: .ref b :: .int 0 :: .ref a :: rest))) target := by
  obtain ⟨T', h', L', X', e', N', K, V, st⟩ := cpA X hx hZ hown w1 w2 w3 w4 eT A B (Or.inl ⟨rfl, rfl⟩) (sp := 0) (dp := 0) (nn := nn) (by decide) (by decide) h3 (by rw [hn]; simpa using h4) (by rw [hn, h5]; simp) rfl (by rw [hn, h6]; simp) N ge
    (g := mkF m pc Ls (.int nn :: .int 0 :: .ref b :: .int 0 :: .ref a :: rest)) rfl hsize rfl hd hf hW (own_nfw hlo)
  refine ⟨T', h', L', X', N', e', K, ?_, st⟩
  have q : vd.take (0 : Int32).toNatClampNeg ++ ((List.range nn.toNatClampNeg).map fun i => (L.map Value.int).getD ((0 : Int32).toNatClampNeg + i) (.int 0)) ++ vd.drop ((0 : Int32).toNatClampNeg + nn.toNatClampNeg) = (own_take L n).map Value.int := by
    rw [show (0 : Int32).toNatClampNeg = 0 from rfl, hn, Nat.zero_add, List.drop_eq_nil_of_le (Nat.le_of_eq h6)]
    simp only [List.take_zero, List.nil_append, List.append_nil, own_take, List.map_map, Nat.zero_add]
    exact List.map_congr_left fun i _ => own_getD L i
  rw [q] at V; exact V
/-- a private method selects itself -/
theorem own_selP {y : MethodName} {k : Nat} (wi : (Jvm.Cond.instantiable y.cls k).before a0 Z = true) (wp : (Jvm.Cond.privateMethod y).before a0 Z = true) (wm : (Jvm.Cond.instanceMethod y).before a0 Z = true) (hy : y.cls ≠ "java/lang/invoke/MethodHandle" ∧ y.cls ≠ "java/lang/invoke/VarHandle") : (Jvm.Cond.selects y.cls y y).before a0 Z = true := by
  obtain ⟨c, k, h1, h2, -, h3, -⟩ := Cond.instantiable_spec wi
  exact selects_self_of_private h1 h2 (by rw [Bool.or_eq_false_iff] at h3; exact h3.1) (Cond.privateMethod_at wp) wm hy
/-- a private instance method by its contract -/
theorem own_callR {own C : String} {index : Nat} {y : MethodName} {bytes : ByteArray} {maxL W : Nat} {ret : Option FieldType} {rm : Room} {as : Array Value} {q : Option Value → Heap → Prop} {a : Addr}
    (X : Stand p l e R s m args below meth c T locs cells slots) (N : Fr n0 locs) (hx : p.tables.exec = Jvm.exec) (hZ : Z.Warmed39 s.vm) (hown : s.vm.findClass own = some m.cls)
    (w1 : (Jvm.Cond.methodLink own index y).before a0 Z = true) (wi : (Jvm.Cond.instanceMethod y).before a0 Z = true) (ws : (Jvm.Cond.selects y.cls y y).before a0 Z = true) (wp : (Jvm.Cond.privateMethod y).before a0 Z = true) (w3 : (Jvm.Cond.initialized y.cls).before a0 Z = true) (w4 : (Jvm.Cond.code y bytes maxL ret).before a0 Z = true)
    (hy : y.cls ≠ "java/lang/invoke/MethodHandle" ∧ y.cls ≠ "java/lang/invoke/VarHandle") (hM : own_C l Z y bytes maxL ret [] rm as h (own_W n0 q))
    (hf : rm.frames + 1 ≤ R.frames) (hl : W + (maxL + 11) + rm.locals ≤ R.locals) (hcc : cells + rm.cells ≤ R.cells) (hss : slots + rm.slots ≤ R.slots) (e0 : T.heap = h) (E : Exa Z h a C)
    {pc : Nat} {Ls : Array Slot} {st argsL rest : List Value} (hsize : Ls.size = c.maxLocals) (hlen : ∀ sig, parseMethodDescriptor y.desc = some sig → argsL.length = sig.parameters.length) (has : (Value.ref a :: argsL).toArray = as)
    (hst : st = argsL.reverse ++ .ref a :: rest) (hW : 2 * 0 + (rest.map fun v => v.category).sum ≤ W) (hd : decode c.code pc = .ok (.invokevirtual index, 3)) :
    ∃ (v : Option Value) (T' : State) (h' : Heap) (L' : List Loc), Stand p l e R s m args below meth c T' L' (cells + rm.cells) (slots + rm.slots) ∧ Fr n0 L' ∧ T'.heap = h' ∧ q v h' ∧
      ∀ target, Steps p.tables e below (T'.setTop (mkF m (pc + 3) Ls (v.toList ++ rest))) target → Steps p.tables e below (T.setTop (mkF m pc Ls st)) target := by
  obtain ⟨qcell, qk, qa, -, -, qd, -⟩ := E
  have qa' : T.heap[a]? = some qcell := by rw [e0]; exact qa
  have qb : ∀ q, qcell.vm ≠ .statics q := fun q r => by rw [r] at qd; cases qd
  obtain ⟨v, _, ⟨T', L', k', n'⟩, -, X', ⟨Lc, ⟨N', hq⟩, h1, h2, h3⟩, stp⟩ := X.privateBack hx (y := y) hown (mvT hZ w1) (mvT hZ wi) (mvT hZ ws) (Cond.privateMethod_at (args := args) (mvT hZ wp)) (mvT hZ w4) hy
    (backOf (W := W) hM hZ w4 w3 hf hl) (g := mkF m pc Ls st) rfl hsize (Steps.refl _) qa' qb (argsL := argsL) (rest := rest) hlen hst hW hd (fun _ _ => ⟨has, e0, hcc, hss⟩)
  dsimp only [Pt.U, Pt.locs, Pt.cells, Pt.slots] at X' h1 h2 h3 stp hq
  subst h1 h2 h3
  exact ⟨v, T', _, _, X', N.app N', rfl, hq, fun t k => stp.trans k⟩
/-- a constructor whose entry has been resolved -/
theorem own_callIR {own : String} {index : Nat} {y : MethodName} {bytes : ByteArray} {maxL W : Nat} {rm : Room} {as : Array Value} {q : Option Value → Heap → Prop} {a : Addr}
    (X : Stand p l e R s m args below meth c T locs cells slots) (N : Fr n0 locs) (hx : p.tables.exec = Jvm.exec) (hZ : Z.Warmed39 s.vm) (hy1 : y.name = "<init>") (hown : s.vm.findClass own = some m.cls)
    (w1 : (Jvm.Cond.methodRef own index y).before a0 Z = true) (w2 : (Jvm.Cond.instanceMethod y).before a0 Z = true) (w3 : (Jvm.Cond.initialized y.cls).before a0 Z = true) (w4 : (Jvm.Cond.code y bytes maxL none).before a0 Z = true)
    (hy : y.cls ≠ "java/lang/invoke/MethodHandle" ∧ y.cls ≠ "java/lang/invoke/VarHandle") (hM : own_C l Z y bytes maxL none [] rm as h (own_W n0 q))
    (hf : rm.frames + 1 ≤ R.frames) (hl : W + (maxL + 11) + rm.locals ≤ R.locals) (hcc : cells + rm.cells ≤ R.cells) (hss : slots + rm.slots ≤ R.slots) (e0 : T.heap = h)
    {pc : Nat} {Ls : Array Slot} {st argsL rest : List Value} (hsize : Ls.size = c.maxLocals) (hlen : ∀ sig, parseMethodDescriptor y.desc = some sig → argsL.length = sig.parameters.length) (has : (Value.ref a :: argsL).toArray = as)
    (hst : st = argsL.reverse ++ .ref a :: rest) (hW : 2 * 0 + (rest.map fun v => v.category).sum ≤ W) (hd : decode c.code pc = .ok (.invokespecial index, 3)) :
    ∃ (v : Option Value) (T' : State) (h' : Heap) (L' : List Loc), Stand p l e R s m args below meth c T' L' (cells + rm.cells) (slots + rm.slots) ∧ Fr n0 L' ∧ T'.heap = h' ∧ q v h' ∧
      ∀ target, Steps p.tables e below (T'.setTop (mkF m (pc + 3) Ls (v.toList ++ rest))) target → Steps p.tables e below (T.setTop (mkF m pc Ls st)) target := by
  obtain ⟨objZ, -, hnZ, -, -, -⟩ := Cond.instanceMethod_spec w2
  have hT39 : Z.Warmed39 T.vm := wtrans hZ X.warmed
  have w1' := Cond.methodRef_warmed39 hT39 hnZ hy w1
  have hinst : (Jvm.Cond.instanceMethod y).before args s = true := mvT hZ w2
  have hcode : (Jvm.Cond.code y bytes maxL none).before args s = true := mvT hZ w4
  obtain ⟨obj, methO, hnO, hmO, hstO, habO⟩ := Cond.instanceMethod_spec hinst
  obtain ⟨methO', cO, hmO', -, -, -, -, -, -, hsigO⟩ := Cond.code_spec hnO hcode
  cases hmO.symm.trans hmO'
  obtain ⟨kO, hkO, -⟩ := className_of_methodNamed hnO
  obtain ⟨hnameMO, hdescO⟩ := name_of_methodNamed hnO hmO
  have hal := X.warmed.alike
  have hcurT : (Z.setVm T.vm).vm.findClass own = some m.cls := by show T.vm.findClass own = _; rw [hal.findClass]; exact hown
  obtain ⟨g', cC', hfC, hready, hfindC, hnamedC⟩ := Cond.methodRef_named e hcurT w1'
  have hnT : (Z.setVm T.vm).methodNamed? y = some obj := by
    have : (s.setVm T.vm).methodNamed? y = some obj := by rw [State.methodNamed?_setVm hal]; exact hnO
    exact this
  cases (State.methodFound?_of_named hnT hy).symm.trans hfC
  have hcls : cC' = obj.cls := Option.some.inj (hfindC.symm.trans (findClass_of_methodNamed hnT))
  subst hcls
  obtain ⟨kT, hkT, -⟩ := hal.2.2 _ _ hkO
  have hmT : T.vm.method? obj = some methO := by rw [hal.method?]; exact hmO
  have hfound : lookupSpecial T.vm obj.cls "<init>" methO.desc = .method obj := by
    rw [hal.lookupSpecial, hdescO, ← hy1]; exact lookupSpecial_of_named hnO hmO hstO
  have hK := backOf (len := 3) (W := W) hM hZ w4 w3 hf hl (p := p) (e := e) (below := below) (args := args) (s := s)
  obtain ⟨v, ⟨T', L', k', n'⟩, X', ⟨Lc, ⟨N', hq⟩, h1, h2, h3⟩, stp⟩ := hK m meth c ⟨T, locs, cells, slots⟩ (mkF m pc Ls rest) (.invokespecial index) obj (.ref a :: argsL).toArray X rfl hsize hd hW (X.named hnO) ⟨has, e0, hcc, hss⟩
  dsimp only [Pt.U, Pt.locs, Pt.cells, Pt.slots] at X' h1 h2 h3 stp hq
  subst h1 h2 h3
  refine ⟨v, T', _, _, X', N.app N', rfl, hq, fun t k => ?_⟩
  have h := X.here
  have hst' : (mkF m pc Ls st).stack = argsL.reverse ++ .ref a :: rest := hst
  have hd' : decode c.code (mkF m pc Ls st).pc = .ok (.invokespecial index, 3) := hd
  jvm_step h [hx, hd', invokespecial.wp_init (e := e) (s := T) (k := kT) (meth := methO) (m := obj) (a := a) (args := argsL) (rest := rest) (f := mkF m pc Ls st) h.top hnamedC hready hkT hmT (by rw [hnameMO]; exact hy1) hstO habO hfound (hlen _ hsigO) hst']
  intro acts
  rw [doInvoke_state]
  exact stp.trans k
theorem own_staK {C n d : String} {w : Value} {h' : Heap} {ws : List Addr} (F : Sta Z h C n d w) (K : Keep h h' ws) (q : ∀ x ∈ ws, ∀ cell : Cell, h[x]? = some cell → cell.vm.isStatics = false) : Sta Z h' C n d w := by
  obtain ⟨cf, i, k, f, st, cell, h1, h2, h3, h4, h5, h6, h7⟩ := F
  exact ⟨cf, i, k, f, st, cell, h1, h2, h3, h4, K.2.1 st cell h5 (fun hm => by have r := q st hm cell h5; rw [h6] at r; cases r), h6, h7⟩
end OwnThird
theorem own_pd0 : parseMethodDescriptor "(I)I" = some ⟨[.int], some .int⟩ := by decide +kernel
theorem own_pd1 : parseMethodDescriptor "(I)V" = some ⟨[.int], none⟩ := by decide +kernel
theorem own_pd2 : parseMethodDescriptor "()V" = some ⟨[], none⟩ := by decide +kernel
theorem own_pd3 : parseMethodDescriptor "(IZ)V" = some ⟨[.int, .boolean], none⟩ := by decide +kernel
theorem own_pd4 : parseMethodDescriptor "()[I" = some ⟨[], some (.array .int)⟩ := by decide +kernel
theorem own_pd5 : parseMethodDescriptor "(II)V" = some ⟨[.int, .int], none⟩ := by decide +kernel
theorem own_pd6 : parseMethodDescriptor "()I" = some ⟨[], some .int⟩ := by decide +kernel
theorem own_pd7 : parseMethodDescriptor "(II)I" = some ⟨[.int, .int], some .int⟩ := by decide +kernel
theorem own_pd8 : parseMethodDescriptor "([II)[I" = some ⟨[(.array .int), .int], some (.array .int)⟩ := by decide +kernel
theorem own_pd9 : parseMethodDescriptor "(Lcom/example/dissoc/dissoc/mincut/FlowNetwork;[I)V" = some ⟨[(.object "com/example/dissoc/dissoc/mincut/FlowNetwork"), (.array .int)], none⟩ := by decide +kernel
theorem own_pd10 : parseMethodDescriptor "(III)I" = some ⟨[.int, .int, .int], some .int⟩ := by decide +kernel
theorem own_pd11 : parseMethodDescriptor "()Lcom/example/dissoc/dissoc/mincut/Flow;" = some ⟨[], some (.object "com/example/dissoc/dissoc/mincut/Flow")⟩ := by decide +kernel
theorem own_pd12 : parseMethodDescriptor "(I)Z" = some ⟨[.int], some .boolean⟩ := by decide +kernel
def own_b (u : Bool) : Int32 := match u with | true => 1 | false => 0
/-- one to four -/
def own_c4 (c : Int32) : Prop := c = 1 ∨ c = 2 ∨ c = 3 ∨ c = 4
/-- a place of c -/
def own_pl (c t : Int32) : Prop := 0 ≤ t.toInt ∧ t.toInt < c.toInt
def own_Rn (n a b c d : Int32) : Prop := own_c4 n ∧ own_pl n a ∧ own_pl n b ∧ own_pl n c ∧ own_pl n d
theorem own_one {n : Nat} {m : Int32} (hm : m.toInt = n) {P : Int32 → Prop} (h : ∀ a : Fin n, P (Int32.ofNat a.val)) (t : Int32) (ht : own_pl m t) : P t := by
  obtain ⟨h0, h1⟩ := ht
  have hr := rng32 t
  have q := h ⟨t.toInt.toNat, by omega⟩
  have e : Int32.ofNat t.toInt.toNat = t := by
    rw [← Int32.toInt_inj, Int32.toInt_ofNat_of_lt (by omega)]
    omega
  rw [← e]; exact q
theorem own_all4 (n : Nat) {m : Int32} (hm : m.toInt = n) (P : Int32 → Int32 → Int32 → Int32 → Prop) (h : ∀ a b c d : Fin n, P (Int32.ofNat a.val) (Int32.ofNat b.val) (Int32.ofNat c.val) (Int32.ofNat d.val)) (a b c d : Int32) (hr : own_Rn m a b c d) : P a b c d :=
  own_one hm (P := fun a => P a b c d) (fun a => own_one hm (P := fun b => P _ b c d) (fun b => own_one hm (P := fun c => P _ _ c d) (fun c => own_one hm (P := fun d => P _ _ _ d) (fun d => h a b c d) d hr.2.2.2.2) c hr.2.2.2.1) b hr.2.2.1) a hr.2.1
theorem own_all (P : Int32 → Int32 → Int32 → Int32 → Int32 → Prop) (h : ∀ n : Fin 4, ∀ a b c d : Fin (n.val + 1), P (Int32.ofNat (n.val + 1)) (Int32.ofNat a.val) (Int32.ofNat b.val) (Int32.ofNat c.val) (Int32.ofNat d.val)) (n a b c d : Int32) (hr : own_Rn n a b c d) : P n a b c d := by
  rcases hr.1 with rfl | rfl | rfl | rfl
  · exact own_all4 1 (by decide) (P 1) (h 0) a b c d hr
  · exact own_all4 2 (by decide) (P 2) (h 1) a b c d hr
  · exact own_all4 3 (by decide) (P 3) (h 2) a b c d hr
  · exact own_all4 4 (by decide) (P 4) (h 3) a b c d hr
theorem own_n {p v : Int32} (h : (1 : Int32) + (p &&& (3 : Int32)) = v) : own_c4 v := by
  subst h
  have h := c_mask p 3 2 (by decide) (by decide)
  have g := c_iadd 1 (p &&& (3 : Int32))
  have r := rng32 (1 + (p &&& (3 : Int32)))
  unfold own_c4
  simp only [← Int32.toInt_inj, show (1 : Int32).toInt = 1 from rfl, show (2 : Int32).toInt = 2 from rfl, show (3 : Int32).toInt = 3 from rfl, show (4 : Int32).toInt = 4 from rfl] at *
  omega
theorem own_nz {c : Int32} (h : own_c4 c) : c ≠ 0 := by rcases h with rfl | rfl | rfl | rfl <;> decide
theorem own_t {a n v : Int32} (hn : own_c4 n) (h : ((a &&& (2147483647 : Int32)) - ((a &&& (2147483647 : Int32)) / n) * n) = v) : own_pl n v := by
  subst h
  have p := (c_and a 2147483647 (by decide)).1
  have q : 0 < n.toInt := by rcases hn with rfl | rfl | rfl | rfl <;> decide
  generalize (a &&& (2147483647 : Int32)) = x at *
  rw [irem_eq_mod]
  have h := (c_iremV x n).1 (by omega) (by omega)
  exact ⟨by omega, by omega⟩
theorem own_four (L : List Int32) (h : L.length = 4) : L.map Value.int = [.int (own_get L 0), .int (own_get L 1), .int (own_get L 2), .int (own_get L 3)] := by
  match L, h with
  | [a, b, c, d], _ => rfl
theorem own_eqv {args : Array Value} {s : State} {t : Term} (h : (Jvm.Cond.eq t (.int 1)).value args s none s [] = some true) : t.eval args s none [] s = some (.int 1) := by
  cases e : t.eval args s none [] s with
  | none => simp [Cond.value, e, Term.eval] at h
  | some v => cases v <;> simp [Cond.value, e, Term.eval] at h <;> first | (subst h; rfl) | (rw [h])
abbrev own_cN : String := "com/example/dissoc/dissoc/mincut/FlowNetwork"
abbrev own_cF : String := "com/example/dissoc/dissoc/mincut/Flow"
abbrev own_cS : String := "com/example/dissoc/dissoc/mincut/Flow$Side"
abbrev own_cB : String := "java/util/BitSet"
abbrev own_dB : String := "Ljava/util/BitSet;"
abbrev own_dN : String := "Lcom/example/dissoc/dissoc/mincut/FlowNetwork;"
abbrev own_dS : String := "Lcom/example/dissoc/dissoc/mincut/Flow$Side;"
theorem own_d4_0 : decode jdk_29_method_69_code 0 = .ok (.iload_n 0, 1) := by decide +kernel
theorem own_d4_1 : decode jdk_29_method_69_code 1 = .ok (.iload_n 1, 1) := by decide +kernel
theorem own_d4_2 : decode jdk_29_method_69_code 2 = .ok (.if_icmp .gt 7, 3) := by decide +kernel
theorem own_d4_5 : decode jdk_29_method_69_code 5 = .ok (.iload_n 0, 1) := by decide +kernel
theorem own_d4_6 : decode jdk_29_method_69_code 6 = .ok (.goto 4, 3) := by decide +kernel
theorem own_d4_9 : decode jdk_29_method_69_code 9 = .ok (.iload_n 1, 1) := by decide +kernel
theorem own_d4_10 : decode jdk_29_method_69_code 10 = .ok (.ireturn, 1) := by decide +kernel
abbrev own_R4 : Room := { frames := 0, cells := 0, slots := 0, locals := 0 }
theorem own_pn4 : plainFor (⟨"java/lang/Math", "min", "(II)I"⟩ : MethodName) = true := Jvm.Free.JP.mathPlain rfl (by decide +kernel)
theorem own_ef4 (m : MethodId) (p0 : Int32) (p1 : Int32) : entryFrame m #[(.int p0), (.int p1)] 2 = mkF m 0 #[.val (.int p0), .val (.int p1)] [] := by first | (simp [entryFrame, mkF, argsToLocals, Value.category]; done) | rfl
def own_F4 (p0 : Int32) (p1 : Int32) : Int32 := (if p1 < p0 then p1 else p0)
set_option maxRecDepth 65536 in
set_option maxHeartbeats 40000000 in
theorem own_rm4 (l : Launch) (Z : State) (a0 : Array Value) (hw : ∀ d ∈ tables_1, d.before a0 Z = true) (ws : List Jvm.Cond) (p0 : Int32) (p1 : Int32) (h0 : Heap) :
    own_C l Z (⟨"java/lang/Math", "min", "(II)I"⟩ : MethodName) jdk_29_method_69_code 2 (some .int) ws own_R4 #[(.int p0), (.int p1)] h0 (own_Q (.int (own_F4 p0 p1)) h0) := by
  refine MetFree.of_bodySF own_pn4 hisR ?_
  intro p e s m args below meth c s₁ Bd hml0 hP hK
  obtain ⟨rfl, hZ, hh⟩ := hP
  have hx := Bd.exec
  have hby := Bd.bytes
  have hml : c.maxLocals = 2 := hml0
  have hown : s.vm.findClass "java/lang/Math" = some m.cls := findClass_of_methodNamed Bd.named
  have X0 : Stand p l e own_R4 s m #[(.int p0), (.int p1)] below meth c s₁ [] 0 0 := Stand.of_body Bd
  have e0 : s₁.heap = h0 := by rw [← hh, Bd.state]; rfl
  show own_G p e below (own_P s (own_Q (.int (own_F4 p0 p1)) h0) own_R4.cells own_R4.slots) (s₁.setTop (entryFrame m #[(.int p0), (.int p1)] 2))
  rw [own_ef4 m p0 p1]
  show own_H s₁ 0 #[.val (.int p0), .val (.int p1)] []
  refine own_via (fun t k => XS.iloadN X0.here hx rfl (hb hby own_d4_0) rfl k) ?_
  refine own_via (fun t k => XS.iloadN X0.here hx rfl (hb hby own_d4_1) rfl k) ?_
  show own_H s₁ 2 #[.val (.int p0), .val (.int p1)] [(.int p1), (.int p0)]
  by_cases hc1 : p1 < p0
  ·
    refine own_via (fun t k => XS.icmpYes X0.here hx rfl (pc0 := 2) (pc' := 9) rfl (hb hby own_d4_2) rfl (tlt hc1).2.2.1 (by decide) (by decide) k) ?_
    show own_H s₁ 9 #[.val (.int p0), .val (.int p1)] []
    refine own_via (fun t k => XS.iloadN X0.here hx rfl (hb hby own_d4_9) rfl k) ?_
    show own_H s₁ 10 #[.val (.int p0), .val (.int p1)] [(.int p1)]
    exact own_retI X0 hx Bd.returns Bd.notSynchronized (hb hby own_d4_10) ⟨by show (some (.int p1) : Option Value) = some (.int (own_F4 p0 p1)); simp only [own_F4, if_pos hc1], rfl, e0⟩ (by decide) (by decide)
  ·
    refine own_via (fun t k => XS.icmpNo X0.here hx rfl (hb hby own_d4_2) rfl (flt hc1).2.2.1 k) ?_
    show own_H s₁ 5 #[.val (.int p0), .val (.int p1)] []
    refine own_via (fun t k => XS.iloadN X0.here hx rfl (hb hby own_d4_5) rfl k) ?_
    show own_H s₁ 6 #[.val (.int p0), .val (.int p1)] [(.int p0)]
    refine own_via (fun t k => XS.goto X0.here hx rfl (pc0 := 6) (pc' := 10) rfl (hb hby own_d4_6) (by decide) (by decide) k) ?_
    show own_H s₁ 10 #[.val (.int p0), .val (.int p1)] [(.int p0)]
    exact own_retI X0 hx Bd.returns Bd.notSynchronized (hb hby own_d4_10) ⟨by show (some (.int p0) : Option Value) = some (.int (own_F4 p0 p1)); simp only [own_F4, if_neg hc1], rfl, e0⟩ (by decide) (by decide)
theorem own_d11_0 : decode jdk_92_method_1_code 0 = .ok (.iload_n 0, 1) := by decide +kernel
theorem own_d11_1 : decode jdk_92_method_1_code 1 = .ok (.bipush 6, 2) := by decide +kernel
theorem own_d11_3 : decode jdk_92_method_1_code 3 = .ok (.ishr, 1) := by decide +kernel
theorem own_d11_4 : decode jdk_92_method_1_code 4 = .ok (.ireturn, 1) := by decide +kernel
abbrev own_R11 : Room := { frames := 0, cells := 0, slots := 0, locals := 0 }
theorem own_pn11 : plainFor (⟨"java/util/BitSet", "wordIndex", "(I)I"⟩ : MethodName) = true := plainFor_of_name (by first | (simp [plainName, overriddenIn]; done) | decide +kernel)
theorem own_ef11 (m : MethodId) (p0 : Int32) : entryFrame m #[(.int p0)] 1 = mkF m 0 #[.val (.int p0)] [] := by first | (simp [entryFrame, mkF, argsToLocals, Value.category]; done) | rfl
def own_F11 (p0 : Int32) : Int32 := (p0 >>> ((6 : Int32) &&& 31))
set_option maxRecDepth 65536 in
set_option maxHeartbeats 40000000 in
theorem own_rm11 (l : Launch) (Z : State) (a0 : Array Value) (hw : ∀ d ∈ tables_1, d.before a0 Z = true) (ws : List Jvm.Cond) (p0 : Int32) (h0 : Heap) :
    own_C l Z (⟨"java/util/BitSet", "wordIndex", "(I)I"⟩ : MethodName) jdk_92_method_1_code 1 (some .int) ws own_R11 #[(.int p0)] h0 (own_Q (.int (own_F11 p0)) h0) := by
  refine MetFree.of_bodySF own_pn11 hisR ?_
  intro p e s m args below meth c s₁ Bd hml0 hP hK
  obtain ⟨rfl, hZ, hh⟩ := hP
  have hx := Bd.exec
  have hby := Bd.bytes
  have hml : c.maxLocals = 1 := hml0
  have hown : s.vm.findClass "java/util/BitSet" = some m.cls := findClass_of_methodNamed Bd.named
  have X0 : Stand p l e own_R11 s m #[(.int p0)] below meth c s₁ [] 0 0 := Stand.of_body Bd
  have e0 : s₁.heap = h0 := by rw [← hh, Bd.state]; rfl
  show own_G p e below (own_P s (own_Q (.int (own_F11 p0)) h0) own_R11.cells own_R11.slots) (s₁.setTop (entryFrame m #[(.int p0)] 1))
  rw [own_ef11 m p0]
  show own_H s₁ 0 #[.val (.int p0)] []
  refine own_via (fun t k => XS.iloadN X0.here hx rfl (hb hby own_d11_0) rfl k) ?_
  refine own_via (fun t k => XS.bipush X0.here hx rfl (hb hby own_d11_1) k) ?_
  show own_H s₁ 3 #[.val (.int p0)] [(.int (6 : Int32)), (.int p0)]
  refine own_via (fun t k => XS.ishr X0.here hx rfl (hb hby own_d11_3) rfl k) ?_
  show own_H s₁ 4 #[.val (.int p0)] [(.int (p0 >>> ((6 : Int32) &&& 31)))]
  exact own_retI X0 hx Bd.returns Bd.notSynchronized (hb hby own_d11_4) ⟨by show (some (.int (p0 >>> ((6 : Int32) &&& 31))) : Option Value) = some (.int (own_F11 p0)); simp only [own_F11], rfl, e0⟩ (by decide) (by decide)
theorem own_d26_0 : decode method_2_code 0 = .ok (.iload_n 0, 1) := by decide +kernel
theorem own_d26_1 : decode method_2_code 1 = .ok (.ifCond .lt 12, 3) := by decide +kernel
theorem own_d26_4 : decode method_2_code 4 = .ok (.iload_n 0, 1) := by decide +kernel
theorem own_d26_5 : decode method_2_code 5 = .ok (.iconst 4, 1) := by decide +kernel
theorem own_d26_6 : decode method_2_code 6 = .ok (.if_icmp .ge 7, 3) := by decide +kernel
theorem own_d26_9 : decode method_2_code 9 = .ok (.iconst 1, 1) := by decide +kernel
theorem own_d26_10 : decode method_2_code 10 = .ok (.goto 4, 3) := by decide +kernel
theorem own_d26_13 : decode method_2_code 13 = .ok (.iconst 0, 1) := by decide +kernel
theorem own_d26_14 : decode method_2_code 14 = .ok (.ireturn, 1) := by decide +kernel
abbrev own_R26 : Room := { frames := 0, cells := 0, slots := 0, locals := 0 }
theorem own_pn26 : plainFor (⟨"com/example/dissoc/dissoc/mincut/FlowNetworkIsForwardPinLaw", "inRange", "(I)Z"⟩ : MethodName) = true := plainFor_of_name (by first | (simp [plainName, overriddenIn]; done) | decide +kernel)
theorem own_ef26 (m : MethodId) (p0 : Int32) : entryFrame m #[(.int p0)] 1 = mkF m 0 #[.val (.int p0)] [] := by first | (simp [entryFrame, mkF, argsToLocals, Value.category]; done) | rfl
def own_F26 (p0 : Int32) : Int32 := (if p0 < (0 : Int32) then (0 : Int32) else (if p0 < (4 : Int32) then (1 : Int32) else (0 : Int32)))
set_option maxRecDepth 65536 in
set_option maxHeartbeats 40000000 in
theorem own_rm26 (l : Launch) (Z : State) (a0 : Array Value) (hw : ∀ d ∈ tables_1, d.before a0 Z = true) (ws : List Jvm.Cond) (p0 : Int32) (h0 : Heap) :
    own_C l Z (⟨"com/example/dissoc/dissoc/mincut/FlowNetworkIsForwardPinLaw", "inRange", "(I)Z"⟩ : MethodName) method_2_code 1 (some .boolean) ws own_R26 #[(.int p0)] h0 (own_Q (.int (own_F26 p0)) h0) := by
  refine MetFree.of_bodySF own_pn26 hisR ?_
  intro p e s m args below meth c s₁ Bd hml0 hP hK
  obtain ⟨rfl, hZ, hh⟩ := hP
  have hx := Bd.exec
  have hby := Bd.bytes
  have hml : c.maxLocals = 1 := hml0
  have hown : s.vm.findClass "com/example/dissoc/dissoc/mincut/FlowNetworkIsForwardPinLaw" = some m.cls := findClass_of_methodNamed Bd.named
  have X0 : Stand p l e own_R26 s m #[(.int p0)] below meth c s₁ [] 0 0 := Stand.of_body Bd
  have e0 : s₁.heap = h0 := by rw [← hh, Bd.state]; rfl
  show own_G p e below (own_P s (own_Q (.int (own_F26 p0)) h0) own_R26.cells own_R26.slots) (s₁.setTop (entryFrame m #[(.int p0)] 1))
  rw [own_ef26 m p0]
  show own_H s₁ 0 #[.val (.int p0)] []
  refine own_via (fun t k => XS.iloadN X0.here hx rfl (hb hby own_d26_0) rfl k) ?_
  show own_H s₁ 1 #[.val (.int p0)] [(.int p0)]
  by_cases hc1 : p0 < (0 : Int32)
  ·
    refine own_via (fun t k => XS.ifYes X0.here hx rfl (pc0 := 1) (pc' := 13) rfl (hb hby own_d26_1) rfl ((if0 _ _).trans (tlt hc1).1) (by decide) (by decide) k) ?_
    show own_H s₁ 13 #[.val (.int p0)] []
    refine own_via (fun t k => XS.iconst X0.here hx rfl (hb hby own_d26_13) k) ?_
    show own_H s₁ 14 #[.val (.int p0)] [(.int (0 : Int32))]
    exact own_retN (t := .boolean) X0 hx Bd.returns (by simp) Bd.notSynchronized (hb hby own_d26_14) ⟨by show (some (.int (0 : Int32)) : Option Value) = some (.int (own_F26 p0)); simp only [own_F26, if_pos hc1], rfl, e0⟩ (by decide) (by decide)
  ·
    refine own_via (fun t k => XS.ifNo X0.here hx rfl (hb hby own_d26_1) rfl ((if0 _ _).trans (flt hc1).1) k) ?_
    show own_H s₁ 4 #[.val (.int p0)] []
    refine own_via (fun t k => XS.iloadN X0.here hx rfl (hb hby own_d26_4) rfl k) ?_
    refine own_via (fun t k => XS.iconst X0.here hx rfl (hb hby own_d26_5) k) ?_
    show own_H s₁ 6 #[.val (.int p0)] [(.int (4 : Int32)), (.int p0)]
    by_cases hc2 : p0 < (4 : Int32)
    ·
      refine own_via (fun t k => XS.icmpNo X0.here hx rfl (hb hby own_d26_6) rfl (tlt hc2).2.1 k) ?_
      show own_H s₁ 9 #[.val (.int p0)] []
      refine own_via (fun t k => XS.iconst X0.here hx rfl (hb hby own_d26_9) k) ?_
      show own_H s₁ 10 #[.val (.int p0)] [(.int (1 : Int32))]
      refine own_via (fun t k => XS.goto X0.here hx rfl (pc0 := 10) (pc' := 14) rfl (hb hby own_d26_10) (by decide) (by decide) k) ?_
      show own_H s₁ 14 #[.val (.int p0)] [(.int (1 : Int32))]
      exact own_retN (t := .boolean) X0 hx Bd.returns (by simp) Bd.notSynchronized (hb hby own_d26_14) ⟨by show (some (.int (1 : Int32)) : Option Value) = some (.int (own_F26 p0)); simp only [own_F26, if_neg hc1, if_pos hc2], rfl, e0⟩ (by decide) (by decide)
    ·
      refine own_via (fun t k => XS.icmpYes X0.here hx rfl (pc0 := 6) (pc' := 13) rfl (hb hby own_d26_6) rfl (flt hc2).2.1 (by decide) (by decide) k) ?_
      show own_H s₁ 13 #[.val (.int p0)] []
      refine own_via (fun t k => XS.iconst X0.here hx rfl (hb hby own_d26_13) k) ?_
      show own_H s₁ 14 #[.val (.int p0)] [(.int (0 : Int32))]
      exact own_retN (t := .boolean) X0 hx Bd.returns (by simp) Bd.notSynchronized (hb hby own_d26_14) ⟨by show (some (.int (0 : Int32)) : Option Value) = some (.int (own_F26 p0)); simp only [own_F26, if_neg hc1, if_neg hc2], rfl, e0⟩ (by decide) (by decide)
theorem own_d10_0 : decode jdk_92_method_6_code 0 = .ok (.aload_n 0, 1) := by decide +kernel
theorem own_d10_1 : decode jdk_92_method_6_code 1 = .ok (.iload_n 1, 1) := by decide +kernel
theorem own_d10_2 : decode jdk_92_method_6_code 2 = .ok (.iconst 1, 1) := by decide +kernel
theorem own_d10_3 : decode jdk_92_method_6_code 3 = .ok (.isub, 1) := by decide +kernel
theorem own_d10_4 : decode jdk_92_method_6_code 4 = .ok (.invokestatic 52, 3) := by decide +kernel
theorem own_d10_7 : decode jdk_92_method_6_code 7 = .ok (.iconst 1, 1) := by decide +kernel
theorem own_d10_8 : decode jdk_92_method_6_code 8 = .ok (.iadd, 1) := by decide +kernel
theorem own_d10_9 : decode jdk_92_method_6_code 9 = .ok (.newarray .long, 2) := by decide +kernel
theorem own_d10_11 : decode jdk_92_method_6_code 11 = .ok (.putfield 11, 3) := by decide +kernel
theorem own_d10_14 : decode jdk_92_method_6_code 14 = .ok (.return_, 1) := by decide +kernel
abbrev own_iw_R : Room := { frames := 1, cells := 1, slots := 1, locals := 13 }
theorem own_pn10 : plainFor (⟨"java/util/BitSet", "initWords", "(I)V"⟩ : MethodName) = true := plainFor_of_name (by first | (simp [plainName, overriddenIn]; done) | decide +kernel)
theorem own_iw_ef (m : MethodId) (a1 : Addr) : entryFrame m #[(.ref a1), (.int (64 : Int32))] 2 = mkF m 0 #[.val (.ref a1), .val (.int (64 : Int32))] [] := by first | (simp [entryFrame, mkF, argsToLocals, Value.category]; done) | rfl
def own_iw_q (Z : State) (a1 : Addr) (u1 : Value) (u2 : Value) (u3 : Value) (h0 : Heap) (v : Option Value) (h : Heap) : Prop := ∃ (x : Addr) (kx : ClassId), v = none ∧ Keep h0 h [a1] ∧ h0.size ≤ x ∧ Exa Z h a1 own_cB ∧ Fld Z h a1 own_cB "words" "[J" (.ref x) ∧ Arv Z h x kx .long (1 : Int32) [(.long (0 : Int64))] (.long (0 : Int64)) ∧ Fld Z h a1 own_cB "wordsInUse" "I" u2 ∧ Fld Z h a1 own_cB "sizeIsSticky" "Z" u3
set_option maxRecDepth 65536 in
set_option maxHeartbeats 40000000 in
theorem own_iw (l : Launch) (Z : State) (a0 : Array Value) (hw : ∀ d ∈ tables_1, d.before a0 Z = true) (ws : List Jvm.Cond) (a1 : Addr) (u1 : Value) (u2 : Value) (u3 : Value) (h0 : Heap) (n0 : Nat) (Z0 : n0 ≤ h0.size) (i_E1 : Exa Z h0 a1 own_cB) (i_F1 : Fld Z h0 a1 own_cB "words" "[J" u1) (i_F2 : Fld Z h0 a1 own_cB "wordsInUse" "I" u2) (i_F3 : Fld Z h0 a1 own_cB "sizeIsSticky" "Z" u3) (g_a1 : n0 ≤ a1) :
    own_C l Z (⟨"java/util/BitSet", "initWords", "(I)V"⟩ : MethodName) jdk_92_method_6_code 2 none ws own_iw_R #[(.ref a1), (.int (64 : Int32))] h0 (own_W n0 (own_iw_q Z a1 u1 u2 u3 h0)) := by
  refine MetFree.of_bodySF own_pn10 hisR ?_
  intro p e s m args below meth c s₁ Bd hml0 hP hK
  obtain ⟨rfl, hZ, hh⟩ := hP
  have hx := Bd.exec
  have hby := Bd.bytes
  have hml : c.maxLocals = 2 := hml0
  have hown : s.vm.findClass "java/util/BitSet" = some m.cls := findClass_of_methodNamed Bd.named
  have hnm := (name_of_methodNamed Bd.named Bd.method).1
  have X0 : Stand p l e own_iw_R s m #[(.ref a1), (.int (64 : Int32))] below meth c s₁ [] 0 0 := Stand.of_body Bd
  have e0 : s₁.heap = h0 := by rw [← hh, Bd.state]; rfl
  have N0 := Fr.nil n0
  have K0 : Keep h0 h0 [a1] := Keep.refl h0 _
  show own_G p e below (own_P s (own_W n0 (own_iw_q Z a1 u1 u2 u3 h0)) own_iw_R.cells own_iw_R.slots) (s₁.setTop (entryFrame m #[(.ref a1), (.int (64 : Int32))] 2))
  rw [own_iw_ef m a1]
  show own_H s₁ 0 #[.val (.ref a1), .val (.int (64 : Int32))] []
  refine own_via (fun t k => XS.aloadN X0.here hx rfl (hb hby own_d10_0) rfl rfl k) ?_
  refine own_via (fun t k => XS.iloadN X0.here hx rfl (hb hby own_d10_1) rfl k) ?_
  refine own_via (fun t k => XS.iconst X0.here hx rfl (hb hby own_d10_2) k) ?_
  show own_H s₁ 3 #[.val (.ref a1), .val (.int (64 : Int32))] [(.int (1 : Int32)), (.int (64 : Int32)), (.ref a1)]
  refine own_via (fun t k => XS.isub X0.here hx rfl (hb hby own_d10_3) rfl k) ?_
  show own_H s₁ 4 #[.val (.ref a1), .val (.int (64 : Int32))] [(.int (63 : Int32)), (.ref a1)]
  obtain ⟨T1, X1, e1, st1⟩ := own_callP (y := (⟨"java/util/BitSet", "wordIndex", "(I)I"⟩ : MethodName)) (W := 1) X0 hx hZ hown (own_u hw 82 rfl) (own_u hw 83 rfl) (own_u hw 68 rfl) (own_u hw 84 rfl) (by decide) (own_rm11 l Z a0 hw [] (63 : Int32) h0) (by decide) (by decide) rfl rfl (by decide) (by decide) e0 (pc := 4) (Ls := #[.val (.ref a1), .val (.int (64 : Int32))]) (st := [(.int (63 : Int32)), (.ref a1)]) (argsL := [(.int (63 : Int32))]) (rest := [(.ref a1)]) (by rw [hml]; rfl) (lenOf own_pd0 rfl) rfl rfl (Nat.le_of_eq rfl) (hb hby own_d10_4)
  refine own_via st1 ?_
  show own_H T1 7 #[.val (.ref a1), .val (.int (64 : Int32))] [(.int (own_F11 (63 : Int32))), (.ref a1)]
  rw [show (own_F11 (63 : Int32)) = (0 : Int32) from (by decide)]
  show own_H T1 7 #[.val (.ref a1), .val (.int (64 : Int32))] [(.int (0 : Int32)), (.ref a1)]
  refine own_via (fun t k => XS.iconst X1.here hx rfl (hb hby own_d10_7) k) ?_
  show own_H T1 8 #[.val (.ref a1), .val (.int (64 : Int32))] [(.int (1 : Int32)), (.int (0 : Int32)), (.ref a1)]
  refine own_via (fun t k => XS.iadd X1.here hx rfl (hb hby own_d10_8) rfl k) ?_
  show own_H T1 9 #[.val (.ref a1), .val (.int (64 : Int32))] [(.int (1 : Int32)), (.ref a1)]
  obtain ⟨T2, h2, k2, b2, X2, e2, E2, ga2, V2, Ex2, st2⟩ := own_newA X1 hx hZ (own_u hw 85 rfl) e1 (pc := 9) (Ls := #[.val (.ref a1), .val (.int (64 : Int32))]) (rest := [(.ref a1)]) (hb hby own_d10_9) (n := (1 : Int32)) (by decide) (cap := 1) (by decide) (by decide) (by decide) (by decide) 1 rfl
  refine own_via st2 ?_
  have sz_b2 : h0.size ≤ b2 := Nat.le_trans K0.1 (Nat.le_of_eq ga2.symm)
  have ne3 : a1 ≠ b2 := Nat.ne_of_lt (Nat.lt_of_lt_of_le i_E1.lt (Nat.le_of_eq ga2.symm))
  have f4 := i_E1.ext E2
  have f5 := i_F1.ext E2
  have f6 := i_F2.ext E2
  have f7 := i_F3.ext E2
  have Kp8 := K0.ext E2
  have f9 : Arv Z h2 b2 k2 .long (1 : Int32) [(.long (0 : Int64))] (.long (0 : Int64)) := V2
  show own_H T2 11 #[.val (.ref a1), .val (.int (64 : Int32))] [(.ref b2), (.ref a1)]
  clear i_E1 i_F1 i_F2 i_F3 K0
  obtain ⟨T11, h11, L11, X11, N11, e11, W11, F11, st11⟩ := own_putF X2 N0 hx hZ hown (own_u hw 86 rfl) e2 f5 f4 (Or.inl (own_u hw 87 rfl)) (own_u hw 67 rfl) g_a1 (ty := (.array .long)) (v := (.ref b2)) (by decide) rfl rfl (pc := 11) (Ls := #[.val (.ref a1), .val (.int (64 : Int32))]) (rest := []) (hb hby own_d10_11)
  refine own_via st11 ?_
  have f12 := f4.wr W11
  have f13 := f6.other W11 (Or.inr (slot_ne (Or.inl (own_u hw 74 rfl)) (Or.inl (own_u hw 87 rfl)) (by decide) rfl rfl))
  have f14 := f7.other W11 (Or.inr (slot_ne (Or.inl (own_u hw 76 rfl)) (Or.inl (own_u hw 87 rfl)) (by decide) rfl rfl))
  have f15 := f9.other W11 (Ne.symm ne3)
  have Kp16 := Kp8.wr W11 (Or.inl (List.mem_of_getElem? (i := 0) rfl))
  show own_H T11 14 #[.val (.ref a1), .val (.int (64 : Int32))] []
  clear f4 f5 f6 f7 f9 Kp8
  exact own_retV X11 hx Bd.returns Bd.notSynchronized (hb hby own_d10_14) (by rw [e11]; exact ⟨N11, b2, k2, rfl, Kp16, sz_b2, f12, F11, f15, f13, f14⟩) (by decide) (by decide)
theorem own_d9_0 : decode jdk_92_method_4_code 0 = .ok (.aload_n 0, 1) := by decide +kernel
theorem own_d9_1 : decode jdk_92_method_4_code 1 = .ok (.invokespecial 21, 3) := by decide +kernel
theorem own_d9_4 : decode jdk_92_method_4_code 4 = .ok (.aload_n 0, 1) := by decide +kernel
theorem own_d9_5 : decode jdk_92_method_4_code 5 = .ok (.iconst 0, 1) := by decide +kernel
theorem own_d9_6 : decode jdk_92_method_4_code 6 = .ok (.putfield 7, 3) := by decide +kernel
theorem own_d9_9 : decode jdk_92_method_4_code 9 = .ok (.aload_n 0, 1) := by decide +kernel
theorem own_d9_10 : decode jdk_92_method_4_code 10 = .ok (.iconst 0, 1) := by decide +kernel
theorem own_d9_11 : decode jdk_92_method_4_code 11 = .ok (.putfield 24, 3) := by decide +kernel
theorem own_d9_14 : decode jdk_92_method_4_code 14 = .ok (.aload_n 0, 1) := by decide +kernel
theorem own_d9_15 : decode jdk_92_method_4_code 15 = .ok (.bipush 64, 2) := by decide +kernel
theorem own_d9_17 : decode jdk_92_method_4_code 17 = .ok (.invokevirtual 27, 3) := by decide +kernel
theorem own_d9_20 : decode jdk_92_method_4_code 20 = .ok (.aload_n 0, 1) := by decide +kernel
theorem own_d9_21 : decode jdk_92_method_4_code 21 = .ok (.iconst 0, 1) := by decide +kernel
theorem own_d9_22 : decode jdk_92_method_4_code 22 = .ok (.putfield 24, 3) := by decide +kernel
theorem own_d9_25 : decode jdk_92_method_4_code 25 = .ok (.return_, 1) := by decide +kernel
abbrev own_bi_R : Room := { frames := 2, cells := 1, slots := 1, locals := 26 }
theorem own_pn9 : plainFor (⟨"java/util/BitSet", "<init>", "()V"⟩ : MethodName) = true := plainFor_of_name (by first | (simp [plainName, overriddenIn]; done) | decide +kernel)
theorem own_bi_ef (m : MethodId) (a1 : Addr) : entryFrame m #[(.ref a1)] 1 = mkF m 0 #[.val (.ref a1)] [] := by first | (simp [entryFrame, mkF, argsToLocals, Value.category]; done) | rfl
def own_bi_q (Z : State) (a1 : Addr) (u1 : Value) (u2 : Value) (u3 : Value) (h0 : Heap) (v : Option Value) (h : Heap) : Prop := ∃ (x : Addr) (kx : ClassId), v = none ∧ Keep h0 h [a1] ∧ h0.size ≤ x ∧ Exa Z h a1 own_cB ∧ Fld Z h a1 own_cB "words" "[J" (.ref x) ∧ Arv Z h x kx .long (1 : Int32) [(.long (0 : Int64))] (.long (0 : Int64)) ∧ Fld Z h a1 own_cB "wordsInUse" "I" (.int (0 : Int32))
set_option maxRecDepth 65536 in
set_option maxHeartbeats 40000000 in
theorem own_bi (l : Launch) (Z : State) (a0 : Array Value) (hw : ∀ d ∈ tables_1, d.before a0 Z = true) (ws : List Jvm.Cond) (a1 : Addr) (u1 : Value) (u2 : Value) (u3 : Value) (h0 : Heap) (n0 : Nat) (Z0 : n0 ≤ h0.size) (i_E1 : Exa Z h0 a1 own_cB) (i_F1 : Fld Z h0 a1 own_cB "words" "[J" u1) (i_F2 : Fld Z h0 a1 own_cB "wordsInUse" "I" u2) (i_F3 : Fld Z h0 a1 own_cB "sizeIsSticky" "Z" u3) (g_a1 : n0 ≤ a1) :
    own_C l Z (⟨"java/util/BitSet", "<init>", "()V"⟩ : MethodName) jdk_92_method_4_code 1 none ws own_bi_R #[(.ref a1)] h0 (own_W n0 (own_bi_q Z a1 u1 u2 u3 h0)) := by
  refine MetFree.of_bodySF own_pn9 hisR ?_
  intro p e s m args below meth c s₁ Bd hml0 hP hK
  obtain ⟨rfl, hZ, hh⟩ := hP
  have hx := Bd.exec
  have hby := Bd.bytes
  have hml : c.maxLocals = 1 := hml0
  have hown : s.vm.findClass "java/util/BitSet" = some m.cls := findClass_of_methodNamed Bd.named
  have hnm := (name_of_methodNamed Bd.named Bd.method).1
  have X0 : Stand p l e own_bi_R s m #[(.ref a1)] below meth c s₁ [] 0 0 := Stand.of_body Bd
  have e0 : s₁.heap = h0 := by rw [← hh, Bd.state]; rfl
  have N0 := Fr.nil n0
  have K0 : Keep h0 h0 [a1] := Keep.refl h0 _
  show own_G p e below (own_P s (own_W n0 (own_bi_q Z a1 u1 u2 u3 h0)) own_bi_R.cells own_bi_R.slots) (s₁.setTop (entryFrame m #[(.ref a1)] 1))
  rw [own_bi_ef m a1]
  show own_H s₁ 0 #[.val (.ref a1)] []
  refine own_via (fun t k => XS.aloadN X0.here hx rfl (hb hby own_d9_0) rfl rfl k) ?_
  show own_H s₁ 1 #[.val (.ref a1)] [(.ref a1)]
  obtain ⟨T1, X1, e1, st1⟩ := initO X0 hx hZ hown (own_u hw 72 rfl) (own_u hw 8 rfl) (own_u hw 9 rfl) e0 (g := (mkF m 1 #[.val (.ref a1)] [(.ref a1)])) rfl (by rw [hml]; rfl) rfl (hb hby own_d9_1) (by decide) (W := 0) (by show 2 * 0 + _ ≤ _; exact Nat.le_of_eq rfl) (by decide)
  refine own_via st1 ?_
  show own_H T1 4 #[.val (.ref a1)] []
  refine own_via (fun t k => XS.aloadN X1.here hx rfl (hb hby own_d9_4) rfl rfl k) ?_
  refine own_via (fun t k => XS.iconst X1.here hx rfl (hb hby own_d9_5) k) ?_
  show own_H T1 6 #[.val (.ref a1)] [(.int (0 : Int32)), (.ref a1)]
  obtain ⟨T2, h2, L2, X2, N2, e2, W2, F2, st2⟩ := own_putF X1 N0 hx hZ hown (own_u hw 73 rfl) e1 i_F2 i_E1 (Or.inl (own_u hw 74 rfl)) (own_u hw 67 rfl) g_a1 (ty := .int) (v := (.int (0 : Int32))) (by decide) rfl rfl (pc := 6) (Ls := #[.val (.ref a1)]) (rest := []) (hb hby own_d9_6)
  refine own_via st2 ?_
  have f3 := i_E1.wr W2
  have f4 := i_F1.other W2 (Or.inr (slot_ne (Or.inl (own_u hw 87 rfl)) (Or.inl (own_u hw 74 rfl)) (by decide) rfl rfl))
  have f5 := i_F3.other W2 (Or.inr (slot_ne (Or.inl (own_u hw 76 rfl)) (Or.inl (own_u hw 74 rfl)) (by decide) rfl rfl))
  have Kp6 := K0.wr W2 (Or.inl (List.mem_of_getElem? (i := 0) rfl))
  have Zs7 : n0 ≤ h2.size := by rw [W2.size]; exact Z0
  show own_H T2 9 #[.val (.ref a1)] []
  clear i_E1 i_F1 i_F2 i_F3 K0
  refine own_via (fun t k => XS.aloadN X2.here hx rfl (hb hby own_d9_9) rfl rfl k) ?_
  refine own_via (fun t k => XS.iconst X2.here hx rfl (hb hby own_d9_10) k) ?_
  show own_H T2 11 #[.val (.ref a1)] [(.int (0 : Int32)), (.ref a1)]
  obtain ⟨T8, h8, L8, X8, N8, e8, W8, F8, st8⟩ := own_putFN X2 N2 hx hZ hown (own_u hw 75 rfl) e2 f5 f3 (Or.inl (own_u hw 76 rfl)) (own_u hw 67 rfl) g_a1 (ty := .boolean) (v := (.int (0 : Int32))) (v' := (.int (0 : Int32))) (by decide) rfl (by decide) (pc := 11) (Ls := #[.val (.ref a1)]) (rest := []) (hb hby own_d9_11)
  refine own_via st8 ?_
  have f9 := f3.wr W8
  have f10 := f4.other W8 (Or.inr (slot_ne (Or.inl (own_u hw 87 rfl)) (Or.inl (own_u hw 76 rfl)) (by decide) rfl rfl))
  have f11 := F2.other W8 (Or.inr (slot_ne (Or.inl (own_u hw 74 rfl)) (Or.inl (own_u hw 76 rfl)) (by decide) rfl rfl))
  have Kp12 := Kp6.wr W8 (Or.inl (List.mem_of_getElem? (i := 0) rfl))
  have Zs13 : n0 ≤ h8.size := by rw [W8.size]; exact Zs7
  show own_H T8 14 #[.val (.ref a1)] []
  clear f3 f4 f5 F2 Kp6 Zs7
  refine own_via (fun t k => XS.aloadN X8.here hx rfl (hb hby own_d9_14) rfl rfl k) ?_
  refine own_via (fun t k => XS.bipush X8.here hx rfl (hb hby own_d9_15) k) ?_
  show own_H T8 17 #[.val (.ref a1)] [(.int (64 : Int32)), (.ref a1)]
  obtain ⟨v14, T14, h14, L14, X14, N14, e14, hq14, st14⟩ := own_callR (y := (⟨"java/util/BitSet", "initWords", "(I)V"⟩ : MethodName)) (W := 0) (a := a1) X8 N8 hx hZ hown (own_u hw 77 rfl) (own_u hw 78 rfl) (own_u hw 80 rfl) (own_u hw 79 rfl) (own_u hw 68 rfl) (own_u hw 81 rfl) (by decide) (own_iw l Z a0 hw [] a1 u1 (.int (0 : Int32)) (.int (0 : Int32)) h8 n0 Zs13 f9 f10 f11 F8 g_a1) (by decide) (by decide) (by decide) (by decide) e8 f9 (pc := 17) (Ls := #[.val (.ref a1)]) (st := [(.int (64 : Int32)), (.ref a1)]) (argsL := [(.int (64 : Int32))]) (rest := []) (by rw [hml]; rfl) (lenOf own_pd1 rfl) rfl rfl (Nat.le_of_eq rfl) (hb hby own_d9_17)
  obtain ⟨x14, kx14, rfl, K14, zf_x14, o14_0, o14_1, o14_2, o14_3, o14_4⟩ := hq14
  refine own_via st14 ?_
  have ne15 : a1 ≠ x14 := Nat.ne_of_lt (Nat.lt_of_lt_of_le f9.lt zf_x14)
  have sz_x14 : h0.size ≤ x14 := Nat.le_trans Kp12.1 zf_x14
  have Kp17 := Kp12.trans K14 (fun x hx => by simp only [List.mem_cons, List.not_mem_nil, or_false] at hx; rcases hx with rfl <;> first | exact (Or.inl (List.mem_of_getElem? (i := 0) rfl)))
  show own_H T14 20 #[.val (.ref a1)] []
  clear f9 f10 f11 F8 Kp12 Zs13
  refine own_via (fun t k => XS.aloadN X14.here hx rfl (hb hby own_d9_20) rfl rfl k) ?_
  refine own_via (fun t k => XS.iconst X14.here hx rfl (hb hby own_d9_21) k) ?_
  show own_H T14 22 #[.val (.ref a1)] [(.int (0 : Int32)), (.ref a1)]
  obtain ⟨T19, h19, L19, X19, N19, e19, W19, F19, st19⟩ := own_putFN X14 N14 hx hZ hown (own_u hw 75 rfl) e14 o14_4 o14_0 (Or.inl (own_u hw 76 rfl)) (own_u hw 67 rfl) g_a1 (ty := .boolean) (v := (.int (0 : Int32))) (v' := (.int (0 : Int32))) (by decide) rfl (by decide) (pc := 22) (Ls := #[.val (.ref a1)]) (rest := []) (hb hby own_d9_22)
  refine own_via st19 ?_
  have f20 := o14_0.wr W19
  have f21 := o14_1.other W19 (Or.inr (slot_ne (Or.inl (own_u hw 87 rfl)) (Or.inl (own_u hw 76 rfl)) (by decide) rfl rfl))
  have f22 := o14_2.other W19 (Ne.symm ne15)
  have f23 := o14_3.other W19 (Or.inr (slot_ne (Or.inl (own_u hw 74 rfl)) (Or.inl (own_u hw 76 rfl)) (by decide) rfl rfl))
  have Kp24 := Kp17.wr W19 (Or.inl (List.mem_of_getElem? (i := 0) rfl))
  show own_H T19 25 #[.val (.ref a1)] []
  clear o14_0 o14_1 o14_2 o14_3 o14_4 Kp17
  exact own_retV X19 hx Bd.returns Bd.notSynchronized (hb hby own_d9_25) (by rw [e19]; exact ⟨N19, x14, kx14, rfl, Kp24, sz_x14, f20, f21, f22, f23⟩) (by decide) (by decide)
theorem own_d20_0 : decode jdk_92_method_14_code 0 = .ok (.aload_n 0, 1) := by decide +kernel
theorem own_d20_1 : decode jdk_92_method_14_code 1 = .ok (.getfield 11, 3) := by decide +kernel
theorem own_d20_4 : decode jdk_92_method_14_code 4 = .ok (.arraylength, 1) := by decide +kernel
theorem own_d20_5 : decode jdk_92_method_14_code 5 = .ok (.iload_n 1, 1) := by decide +kernel
theorem own_d20_6 : decode jdk_92_method_14_code 6 = .ok (.if_icmp .ge 32, 3) := by decide +kernel
theorem own_d20_38 : decode jdk_92_method_14_code 38 = .ok (.return_, 1) := by decide +kernel
abbrev own_ec_R : Room := { frames := 0, cells := 0, slots := 0, locals := 0 }
theorem own_pn20 : plainFor (⟨"java/util/BitSet", "ensureCapacity", "(I)V"⟩ : MethodName) = true := plainFor_of_name (by first | (simp [plainName, overriddenIn]; done) | decide +kernel)
theorem own_ec_ef (m : MethodId) (a1 : Addr) : entryFrame m #[(.ref a1), (.int (1 : Int32))] 3 = mkF m 0 #[.val (.ref a1), .val (.int (1 : Int32)), .unset] [] := by first | (simp [entryFrame, mkF, argsToLocals, Value.category]; done) | rfl
def own_ec_q (Z : State) (a1 : Addr) (w_1 : Addr) (k_1 : ClassId) (W_1 : Int64) (h0 : Heap) (v : Option Value) (h : Heap) : Prop := v = none ∧ Keep h0 h []
set_option maxRecDepth 65536 in
set_option maxHeartbeats 40000000 in
theorem own_ec (l : Launch) (Z : State) (a0 : Array Value) (hw : ∀ d ∈ tables_1, d.before a0 Z = true) (ws : List Jvm.Cond) (a1 : Addr) (w_1 : Addr) (k_1 : ClassId) (W_1 : Int64) (h0 : Heap) (n0 : Nat) (Z0 : n0 ≤ h0.size) (i_E : Exa Z h0 a1 own_cB) (i_Fw : Fld Z h0 a1 own_cB "words" "[J" (.ref w_1)) (i_A : Arv Z h0 w_1 k_1 .long (1 : Int32) [(.long W_1)] (.long (0 : Int64))) (i_Fu : Fld Z h0 a1 own_cB "wordsInUse" "I" (.int (0 : Int32))) :
    own_C l Z (⟨"java/util/BitSet", "ensureCapacity", "(I)V"⟩ : MethodName) jdk_92_method_14_code 3 none ws own_ec_R #[(.ref a1), (.int (1 : Int32))] h0 (own_W n0 (own_ec_q Z a1 w_1 k_1 W_1 h0)) := by
  refine MetFree.of_bodySF own_pn20 hisR ?_
  intro p e s m args below meth c s₁ Bd hml0 hP hK
  obtain ⟨rfl, hZ, hh⟩ := hP
  have hx := Bd.exec
  have hby := Bd.bytes
  have hml : c.maxLocals = 3 := hml0
  have hown : s.vm.findClass "java/util/BitSet" = some m.cls := findClass_of_methodNamed Bd.named
  have hnm := (name_of_methodNamed Bd.named Bd.method).1
  have X0 : Stand p l e own_ec_R s m #[(.ref a1), (.int (1 : Int32))] below meth c s₁ [] 0 0 := Stand.of_body Bd
  have e0 : s₁.heap = h0 := by rw [← hh, Bd.state]; rfl
  have N0 := Fr.nil n0
  have K0 : Keep h0 h0 [] := Keep.refl h0 _
  show own_G p e below (own_P s (own_W n0 (own_ec_q Z a1 w_1 k_1 W_1 h0)) own_ec_R.cells own_ec_R.slots) (s₁.setTop (entryFrame m #[(.ref a1), (.int (1 : Int32))] 3))
  rw [own_ec_ef m a1]
  show own_H s₁ 0 #[.val (.ref a1), .val (.int (1 : Int32)), .unset] []
  refine own_via (fun t k => XS.aloadN X0.here hx rfl (hb hby own_d20_0) rfl rfl k) ?_
  show own_H s₁ 1 #[.val (.ref a1), .val (.int (1 : Int32)), .unset] [(.ref a1)]
  obtain ⟨T1, X1, e1, st1⟩ := getF X0 hx hZ hown (host := "") (Or.inl (own_u hw 86 rfl)) Via.refl e0 i_Fw (g := (mkF m 1 #[.val (.ref a1), .val (.int (1 : Int32)), .unset] [(.ref a1)])) rfl rfl (hb hby own_d20_1)
  refine own_via st1 ?_
  show own_H T1 4 #[.val (.ref a1), .val (.int (1 : Int32)), .unset] [(.ref w_1)]
  refine own_via (own_len X1 hx hZ e1 i_A (pc := 4) (Ls := #[.val (.ref a1), .val (.int (1 : Int32)), .unset]) (rest := []) (hb hby own_d20_4)) ?_
  show own_H T1 5 #[.val (.ref a1), .val (.int (1 : Int32)), .unset] [(.int (1 : Int32))]
  refine own_via (fun t k => XS.iloadN X1.here hx rfl (hb hby own_d20_5) rfl k) ?_
  show own_H T1 6 #[.val (.ref a1), .val (.int (1 : Int32)), .unset] [(.int (1 : Int32)), (.int (1 : Int32))]
  refine own_via (fun t k => XS.icmpYes X1.here hx rfl (pc0 := 6) (pc' := 38) rfl (hb hby own_d20_6) rfl (flt (by decide : ¬ ((1 : Int32) < (1 : Int32)))).2.1 (by decide) (by decide) k) ?_
  show own_H T1 38 #[.val (.ref a1), .val (.int (1 : Int32)), .unset] []
  exact own_retV X1 hx Bd.returns Bd.notSynchronized (hb hby own_d20_38) (by rw [e1]; exact ⟨N0, rfl, K0⟩) (by decide) (by decide)
theorem own_d19_0 : decode jdk_92_method_15_code 0 = .ok (.iload_n 1, 1) := by decide +kernel
theorem own_d19_1 : decode jdk_92_method_15_code 1 = .ok (.iconst 1, 1) := by decide +kernel
theorem own_d19_2 : decode jdk_92_method_15_code 2 = .ok (.iadd, 1) := by decide +kernel
theorem own_d19_3 : decode jdk_92_method_15_code 3 = .ok (.istore_n 2, 1) := by decide +kernel
theorem own_d19_4 : decode jdk_92_method_15_code 4 = .ok (.aload_n 0, 1) := by decide +kernel
theorem own_d19_5 : decode jdk_92_method_15_code 5 = .ok (.getfield 7, 3) := by decide +kernel
theorem own_d19_8 : decode jdk_92_method_15_code 8 = .ok (.iload_n 2, 1) := by decide +kernel
theorem own_d19_9 : decode jdk_92_method_15_code 9 = .ok (.if_icmp .ge 13, 3) := by decide +kernel
theorem own_d19_12 : decode jdk_92_method_15_code 12 = .ok (.aload_n 0, 1) := by decide +kernel
theorem own_d19_13 : decode jdk_92_method_15_code 13 = .ok (.iload_n 2, 1) := by decide +kernel
theorem own_d19_14 : decode jdk_92_method_15_code 14 = .ok (.invokevirtual 139, 3) := by decide +kernel
theorem own_d19_17 : decode jdk_92_method_15_code 17 = .ok (.aload_n 0, 1) := by decide +kernel
theorem own_d19_18 : decode jdk_92_method_15_code 18 = .ok (.iload_n 2, 1) := by decide +kernel
theorem own_d19_19 : decode jdk_92_method_15_code 19 = .ok (.putfield 7, 3) := by decide +kernel
theorem own_d19_22 : decode jdk_92_method_15_code 22 = .ok (.return_, 1) := by decide +kernel
abbrev own_ex_R : Room := { frames := 1, cells := 0, slots := 0, locals := 14 }
theorem own_pn19 : plainFor (⟨"java/util/BitSet", "expandTo", "(I)V"⟩ : MethodName) = true := plainFor_of_name (by first | (simp [plainName, overriddenIn]; done) | decide +kernel)
theorem own_ex_ef (m : MethodId) (a1 : Addr) : entryFrame m #[(.ref a1), (.int (0 : Int32))] 3 = mkF m 0 #[.val (.ref a1), .val (.int (0 : Int32)), .unset] [] := by first | (simp [entryFrame, mkF, argsToLocals, Value.category]; done) | rfl
def own_ex_q (Z : State) (a1 : Addr) (w_1 : Addr) (k_1 : ClassId) (W_1 : Int64) (h0 : Heap) (v : Option Value) (h : Heap) : Prop := v = none ∧ Keep h0 h [a1] ∧ Exa Z h a1 own_cB ∧ Fld Z h a1 own_cB "words" "[J" (.ref w_1) ∧ Arv Z h w_1 k_1 .long (1 : Int32) [(.long W_1)] (.long (0 : Int64)) ∧ Fld Z h a1 own_cB "wordsInUse" "I" (.int (1 : Int32))
set_option maxRecDepth 65536 in
set_option maxHeartbeats 40000000 in
theorem own_ex (l : Launch) (Z : State) (a0 : Array Value) (hw : ∀ d ∈ tables_1, d.before a0 Z = true) (ws : List Jvm.Cond) (a1 : Addr) (w_1 : Addr) (k_1 : ClassId) (W_1 : Int64) (h0 : Heap) (n0 : Nat) (Z0 : n0 ≤ h0.size) (i_E : Exa Z h0 a1 own_cB) (i_Fw : Fld Z h0 a1 own_cB "words" "[J" (.ref w_1)) (i_A : Arv Z h0 w_1 k_1 .long (1 : Int32) [(.long W_1)] (.long (0 : Int64))) (i_Fu : Fld Z h0 a1 own_cB "wordsInUse" "I" (.int (0 : Int32))) (g_a1 : n0 ≤ a1) (ne_a1_w_1 : a1 ≠ w_1) :
    own_C l Z (⟨"java/util/BitSet", "expandTo", "(I)V"⟩ : MethodName) jdk_92_method_15_code 3 none ws own_ex_R #[(.ref a1), (.int (0 : Int32))] h0 (own_W n0 (own_ex_q Z a1 w_1 k_1 W_1 h0)) := by
  refine MetFree.of_bodySF own_pn19 hisR ?_
  intro p e s m args below meth c s₁ Bd hml0 hP hK
  obtain ⟨rfl, hZ, hh⟩ := hP
  have hx := Bd.exec
  have hby := Bd.bytes
  have hml : c.maxLocals = 3 := hml0
  have hown : s.vm.findClass "java/util/BitSet" = some m.cls := findClass_of_methodNamed Bd.named
  have hnm := (name_of_methodNamed Bd.named Bd.method).1
  have X0 : Stand p l e own_ex_R s m #[(.ref a1), (.int (0 : Int32))] below meth c s₁ [] 0 0 := Stand.of_body Bd
  have e0 : s₁.heap = h0 := by rw [← hh, Bd.state]; rfl
  have N0 := Fr.nil n0
  have K0 : Keep h0 h0 [a1] := Keep.refl h0 _
  show own_G p e below (own_P s (own_W n0 (own_ex_q Z a1 w_1 k_1 W_1 h0)) own_ex_R.cells own_ex_R.slots) (s₁.setTop (entryFrame m #[(.ref a1), (.int (0 : Int32))] 3))
  rw [own_ex_ef m a1]
  show own_H s₁ 0 #[.val (.ref a1), .val (.int (0 : Int32)), .unset] []
  refine own_via (fun t k => XS.iloadN X0.here hx rfl (hb hby own_d19_0) rfl k) ?_
  refine own_via (fun t k => XS.iconst X0.here hx rfl (hb hby own_d19_1) k) ?_
  show own_H s₁ 2 #[.val (.ref a1), .val (.int (0 : Int32)), .unset] [(.int (1 : Int32)), (.int (0 : Int32))]
  refine own_via (fun t k => XS.iadd X0.here hx rfl (hb hby own_d19_2) rfl k) ?_
  show own_H s₁ 3 #[.val (.ref a1), .val (.int (0 : Int32)), .unset] [(.int (1 : Int32))]
  refine own_via (fun t k => XS.istoreN X0.here hx rfl (hb hby own_d19_3) rfl (l' := #[.val (.ref a1), .val (.int (0 : Int32)), .val (.int (1 : Int32))]) rfl k) ?_
  refine own_via (fun t k => XS.aloadN X0.here hx rfl (hb hby own_d19_4) rfl rfl k) ?_
  show own_H s₁ 5 #[.val (.ref a1), .val (.int (0 : Int32)), .val (.int (1 : Int32))] [(.ref a1)]
  obtain ⟨T1, X1, e1, st1⟩ := getF X0 hx hZ hown (host := "") (Or.inl (own_u hw 73 rfl)) Via.refl e0 i_Fu (g := (mkF m 5 #[.val (.ref a1), .val (.int (0 : Int32)), .val (.int (1 : Int32))] [(.ref a1)])) rfl rfl (hb hby own_d19_5)
  refine own_via st1 ?_
  show own_H T1 8 #[.val (.ref a1), .val (.int (0 : Int32)), .val (.int (1 : Int32))] [(.int (0 : Int32))]
  refine own_via (fun t k => XS.iloadN X1.here hx rfl (hb hby own_d19_8) rfl k) ?_
  show own_H T1 9 #[.val (.ref a1), .val (.int (0 : Int32)), .val (.int (1 : Int32))] [(.int (1 : Int32)), (.int (0 : Int32))]
  refine own_via (fun t k => XS.icmpNo X1.here hx rfl (hb hby own_d19_9) rfl (tlt (by decide : (0 : Int32) < (1 : Int32))).2.1 k) ?_
  show own_H T1 12 #[.val (.ref a1), .val (.int (0 : Int32)), .val (.int (1 : Int32))] []
  refine own_via (fun t k => XS.aloadN X1.here hx rfl (hb hby own_d19_12) rfl rfl k) ?_
  refine own_via (fun t k => XS.iloadN X1.here hx rfl (hb hby own_d19_13) rfl k) ?_
  show own_H T1 14 #[.val (.ref a1), .val (.int (0 : Int32)), .val (.int (1 : Int32))] [(.int (1 : Int32)), (.ref a1)]
  obtain ⟨v2, T2, h2, L2, X2, N2, e2, hq2, st2⟩ := own_callR (y := (⟨"java/util/BitSet", "ensureCapacity", "(I)V"⟩ : MethodName)) (W := 0) (a := a1) X1 N0 hx hZ hown (own_u hw 158 rfl) (own_u hw 159 rfl) (own_u hw 161 rfl) (own_u hw 160 rfl) (own_u hw 68 rfl) (own_u hw 162 rfl) (by decide) (own_ec l Z a0 hw [] a1 w_1 k_1 W_1 h0 n0 Z0 i_E i_Fw i_A i_Fu) (by decide) (by decide) (by decide) (by decide) e1 i_E (pc := 14) (Ls := #[.val (.ref a1), .val (.int (0 : Int32)), .val (.int (1 : Int32))]) (st := [(.int (1 : Int32)), (.ref a1)]) (argsL := [(.int (1 : Int32))]) (rest := []) (by rw [hml]; rfl) (lenOf own_pd1 rfl) rfl rfl (Nat.le_of_eq rfl) (hb hby own_d19_14)
  obtain ⟨rfl, K2⟩ := hq2
  refine own_via st2 ?_
  have f3 := i_E.ext (own_ke K2)
  have f4 := i_Fw.ext (own_ke K2)
  have f5 := i_A.ext (own_ke K2)
  have f6 := i_Fu.ext (own_ke K2)
  have Kp7 := K0.trans K2 (fun x hx => nomatch hx)
  show own_H T2 17 #[.val (.ref a1), .val (.int (0 : Int32)), .val (.int (1 : Int32))] []
  clear i_E i_Fw i_A i_Fu K0
  refine own_via (fun t k => XS.aloadN X2.here hx rfl (hb hby own_d19_17) rfl rfl k) ?_
  refine own_via (fun t k => XS.iloadN X2.here hx rfl (hb hby own_d19_18) rfl k) ?_
  show own_H T2 19 #[.val (.ref a1), .val (.int (0 : Int32)), .val (.int (1 : Int32))] [(.int (1 : Int32)), (.ref a1)]
  obtain ⟨T9, h9, L9, X9, N9, e9, W9, F9, st9⟩ := own_putF X2 N2 hx hZ hown (own_u hw 73 rfl) e2 f6 f3 (Or.inl (own_u hw 74 rfl)) (own_u hw 67 rfl) g_a1 (ty := .int) (v := (.int (1 : Int32))) (by decide) rfl rfl (pc := 19) (Ls := #[.val (.ref a1), .val (.int (0 : Int32)), .val (.int (1 : Int32))]) (rest := []) (hb hby own_d19_19)
  refine own_via st9 ?_
  have f10 := f3.wr W9
  have f11 := f4.other W9 (Or.inr (slot_ne (Or.inl (own_u hw 87 rfl)) (Or.inl (own_u hw 74 rfl)) (by decide) rfl rfl))
  have f12 := f5.other W9 (Ne.symm ne_a1_w_1)
  have Kp13 := Kp7.wr W9 (Or.inl (List.mem_of_getElem? (i := 0) rfl))
  show own_H T9 22 #[.val (.ref a1), .val (.int (0 : Int32)), .val (.int (1 : Int32))] []
  clear f3 f4 f5 f6 Kp7
  exact own_retV X9 hx Bd.returns Bd.notSynchronized (hb hby own_d19_22) (by rw [e9]; exact ⟨N9, rfl, Kp13, f10, f11, f12, F9⟩) (by decide) (by decide)
abbrev own_e1_R : Room := { frames := 0, cells := 0, slots := 0, locals := 0 }
theorem own_e1_ef (m : MethodId) (a1 : Addr) : entryFrame m #[(.ref a1), (.int (0 : Int32))] 3 = mkF m 0 #[.val (.ref a1), .val (.int (0 : Int32)), .unset] [] := by first | (simp [entryFrame, mkF, argsToLocals, Value.category]; done) | rfl
def own_e1_q (Z : State) (a1 : Addr) (w_1 : Addr) (k_1 : ClassId) (W_1 : Int64) (h0 : Heap) (v : Option Value) (h : Heap) : Prop := v = none ∧ Keep h0 h []
set_option maxRecDepth 65536 in
set_option maxHeartbeats 40000000 in
theorem own_e1 (l : Launch) (Z : State) (a0 : Array Value) (hw : ∀ d ∈ tables_1, d.before a0 Z = true) (ws : List Jvm.Cond) (a1 : Addr) (w_1 : Addr) (k_1 : ClassId) (W_1 : Int64) (h0 : Heap) (n0 : Nat) (Z0 : n0 ≤ h0.size) (i_E : Exa Z h0 a1 own_cB) (i_Fw : Fld Z h0 a1 own_cB "words" "[J" (.ref w_1)) (i_A : Arv Z h0 w_1 k_1 .long (1 : Int32) [(.long W_1)] (.long (0 : Int64))) (i_Fu : Fld Z h0 a1 own_cB "wordsInUse" "I" (.int (1 : Int32))) :
    own_C l Z (⟨"java/util/BitSet", "expandTo", "(I)V"⟩ : MethodName) jdk_92_method_15_code 3 none ws own_e1_R #[(.ref a1), (.int (0 : Int32))] h0 (own_W n0 (own_e1_q Z a1 w_1 k_1 W_1 h0)) := by
  refine MetFree.of_bodySF own_pn19 hisR ?_
  intro p e s m args below meth c s₁ Bd hml0 hP hK
  obtain ⟨rfl, hZ, hh⟩ := hP
  have hx := Bd.exec
  have hby := Bd.bytes
  have hml : c.maxLocals = 3 := hml0
  have hown : s.vm.findClass "java/util/BitSet" = some m.cls := findClass_of_methodNamed Bd.named
  have hnm := (name_of_methodNamed Bd.named Bd.method).1
  have X0 : Stand p l e own_e1_R s m #[(.ref a1), (.int (0 : Int32))] below meth c s₁ [] 0 0 := Stand.of_body Bd
  have e0 : s₁.heap = h0 := by rw [← hh, Bd.state]; rfl
  have N0 := Fr.nil n0
  have K0 : Keep h0 h0 [] := Keep.refl h0 _
  show own_G p e below (own_P s (own_W n0 (own_e1_q Z a1 w_1 k_1 W_1 h0)) own_e1_R.cells own_e1_R.slots) (s₁.setTop (entryFrame m #[(.ref a1), (.int (0 : Int32))] 3))
  rw [own_e1_ef m a1]
  show own_H s₁ 0 #[.val (.ref a1), .val (.int (0 : Int32)), .unset] []
  refine own_via (fun t k => XS.iloadN X0.here hx rfl (hb hby own_d19_0) rfl k) ?_
  refine own_via (fun t k => XS.iconst X0.here hx rfl (hb hby own_d19_1) k) ?_
  show own_H s₁ 2 #[.val (.ref a1), .val (.int (0 : Int32)), .unset] [(.int (1 : Int32)), (.int (0 : Int32))]
  refine own_via (fun t k => XS.iadd X0.here hx rfl (hb hby own_d19_2) rfl k) ?_
  show own_H s₁ 3 #[.val (.ref a1), .val (.int (0 : Int32)), .unset] [(.int (1 : Int32))]
  refine own_via (fun t k => XS.istoreN X0.here hx rfl (hb hby own_d19_3) rfl (l' := #[.val (.ref a1), .val (.int (0 : Int32)), .val (.int (1 : Int32))]) rfl k) ?_
  refine own_via (fun t k => XS.aloadN X0.here hx rfl (hb hby own_d19_4) rfl rfl k) ?_
  show own_H s₁ 5 #[.val (.ref a1), .val (.int (0 : Int32)), .val (.int (1 : Int32))] [(.ref a1)]
  obtain ⟨T1, X1, e1, st1⟩ := getF X0 hx hZ hown (host := "") (Or.inl (own_u hw 73 rfl)) Via.refl e0 i_Fu (g := (mkF m 5 #[.val (.ref a1), .val (.int (0 : Int32)), .val (.int (1 : Int32))] [(.ref a1)])) rfl rfl (hb hby own_d19_5)
  refine own_via st1 ?_
  show own_H T1 8 #[.val (.ref a1), .val (.int (0 : Int32)), .val (.int (1 : Int32))] [(.int (1 : Int32))]
  refine own_via (fun t k => XS.iloadN X1.here hx rfl (hb hby own_d19_8) rfl k) ?_
  show own_H T1 9 #[.val (.ref a1), .val (.int (0 : Int32)), .val (.int (1 : Int32))] [(.int (1 : Int32)), (.int (1 : Int32))]
  refine own_via (fun t k => XS.icmpYes X1.here hx rfl (pc0 := 9) (pc' := 22) rfl (hb hby own_d19_9) rfl (flt (by decide : ¬ ((1 : Int32) < (1 : Int32)))).2.1 (by decide) (by decide) k) ?_
  show own_H T1 22 #[.val (.ref a1), .val (.int (0 : Int32)), .val (.int (1 : Int32))] []
  exact own_retV X1 hx Bd.returns Bd.notSynchronized (hb hby own_d19_22) (by rw [e1]; exact ⟨N0, rfl, K0⟩) (by decide) (by decide)
theorem own_d21_0 : decode jdk_92_method_2_code 0 = .ok (.getstatic 3, 3) := by decide +kernel
theorem own_d21_3 : decode jdk_92_method_2_code 3 = .ok (.ifCond .ne 34, 3) := by decide +kernel
theorem own_d21_37 : decode jdk_92_method_2_code 37 = .ok (.getstatic 3, 3) := by decide +kernel
theorem own_d21_40 : decode jdk_92_method_2_code 40 = .ok (.ifCond .ne 30, 3) := by decide +kernel
theorem own_d21_70 : decode jdk_92_method_2_code 70 = .ok (.getstatic 3, 3) := by decide +kernel
theorem own_d21_73 : decode jdk_92_method_2_code 73 = .ok (.ifCond .ne 37, 3) := by decide +kernel
theorem own_d21_110 : decode jdk_92_method_2_code 110 = .ok (.return_, 1) := by decide +kernel
abbrev own_ck_R : Room := { frames := 0, cells := 0, slots := 0, locals := 0 }
theorem own_pn21 : plainFor (⟨"java/util/BitSet", "checkInvariants", "()V"⟩ : MethodName) = true := plainFor_of_name (by first | (simp [plainName, overriddenIn]; done) | decide +kernel)
theorem own_ck_ef (m : MethodId) (a1 : Addr) : entryFrame m #[(.ref a1)] 1 = mkF m 0 #[.val (.ref a1)] [] := by first | (simp [entryFrame, mkF, argsToLocals, Value.category]; done) | rfl
def own_ck_q (Z : State) (a1 : Addr)  (h0 : Heap) (v : Option Value) (h : Heap) : Prop := v = none ∧ Keep h0 h []
set_option maxRecDepth 65536 in
set_option maxHeartbeats 40000000 in
theorem own_ck (l : Launch) (Z : State) (a0 : Array Value) (hw : ∀ d ∈ tables_1, d.before a0 Z = true) (ws : List Jvm.Cond) (a1 : Addr)  (h0 : Heap) (n0 : Nat) (Z0 : n0 ≤ h0.size) (i_S1 : Sta Z h0 own_cB "$assertionsDisabled" "Z" (.int (1 : Int32))) :
    own_C l Z (⟨"java/util/BitSet", "checkInvariants", "()V"⟩ : MethodName) jdk_92_method_2_code 1 none ws own_ck_R #[(.ref a1)] h0 (own_W n0 (own_ck_q Z a1 h0)) := by
  refine MetFree.of_bodySF own_pn21 hisR ?_
  intro p e s m args below meth c s₁ Bd hml0 hP hK
  obtain ⟨rfl, hZ, hh⟩ := hP
  have hx := Bd.exec
  have hby := Bd.bytes
  have hml : c.maxLocals = 1 := hml0
  have hown : s.vm.findClass "java/util/BitSet" = some m.cls := findClass_of_methodNamed Bd.named
  have hnm := (name_of_methodNamed Bd.named Bd.method).1
  have X0 : Stand p l e own_ck_R s m #[(.ref a1)] below meth c s₁ [] 0 0 := Stand.of_body Bd
  have e0 : s₁.heap = h0 := by rw [← hh, Bd.state]; rfl
  have N0 := Fr.nil n0
  have K0 : Keep h0 h0 [] := Keep.refl h0 _
  show own_G p e below (own_P s (own_W n0 (own_ck_q Z a1 h0)) own_ck_R.cells own_ck_R.slots) (s₁.setTop (entryFrame m #[(.ref a1)] 1))
  rw [own_ck_ef m a1]
  show own_H s₁ 0 #[.val (.ref a1)] []
  obtain ⟨T1, X1, e1, st1⟩ := getS2 X0 hx hZ hown (host := "") (Or.inl (own_u hw 168 rfl)) Via.refl e0 i_S1 (g := (mkF m 0 #[.val (.ref a1)] [])) rfl (hb hby own_d21_0)
  refine own_via st1 ?_
  show own_H T1 3 #[.val (.ref a1)] [(.int (1 : Int32))]
  refine own_via (fun t k => XS.ifYes X1.here hx rfl (pc0 := 3) (pc' := 37) rfl (hb hby own_d21_3) rfl ((if0 _ _).trans (feq (by decide : ¬ ((1 : Int32) = (0 : Int32)))).2) (by decide) (by decide) k) ?_
  show own_H T1 37 #[.val (.ref a1)] []
  obtain ⟨T2, X2, e2, st2⟩ := getS2 X1 hx hZ hown (host := "") (Or.inl (own_u hw 168 rfl)) Via.refl e1 i_S1 (g := (mkF m 37 #[.val (.ref a1)] [])) rfl (hb hby own_d21_37)
  refine own_via st2 ?_
  show own_H T2 40 #[.val (.ref a1)] [(.int (1 : Int32))]
  refine own_via (fun t k => XS.ifYes X2.here hx rfl (pc0 := 40) (pc' := 70) rfl (hb hby own_d21_40) rfl ((if0 _ _).trans (feq (by decide : ¬ ((1 : Int32) = (0 : Int32)))).2) (by decide) (by decide) k) ?_
  show own_H T2 70 #[.val (.ref a1)] []
  obtain ⟨T3, X3, e3, st3⟩ := getS2 X2 hx hZ hown (host := "") (Or.inl (own_u hw 168 rfl)) Via.refl e2 i_S1 (g := (mkF m 70 #[.val (.ref a1)] [])) rfl (hb hby own_d21_70)
  refine own_via st3 ?_
  show own_H T3 73 #[.val (.ref a1)] [(.int (1 : Int32))]
  refine own_via (fun t k => XS.ifYes X3.here hx rfl (pc0 := 73) (pc' := 110) rfl (hb hby own_d21_73) rfl ((if0 _ _).trans (feq (by decide : ¬ ((1 : Int32) = (0 : Int32)))).2) (by decide) (by decide) k) ?_
  show own_H T3 110 #[.val (.ref a1)] []
  exact own_retV X3 hx Bd.returns Bd.notSynchronized (hb hby own_d21_110) (by rw [e3]; exact ⟨N0, rfl, K0⟩) (by decide) (by decide)
theorem own_d23_0 : decode jdk_92_method_3_code 0 = .ok (.aload_n 0, 1) := by decide +kernel
theorem own_d23_1 : decode jdk_92_method_3_code 1 = .ok (.getfield 7, 3) := by decide +kernel
theorem own_d23_4 : decode jdk_92_method_3_code 4 = .ok (.iconst 1, 1) := by decide +kernel
theorem own_d23_5 : decode jdk_92_method_3_code 5 = .ok (.isub, 1) := by decide +kernel
theorem own_d23_6 : decode jdk_92_method_3_code 6 = .ok (.istore_n 1, 1) := by decide +kernel
theorem own_d23_7 : decode jdk_92_method_3_code 7 = .ok (.iload_n 1, 1) := by decide +kernel
theorem own_d23_8 : decode jdk_92_method_3_code 8 = .ok (.ifCond .lt 23, 3) := by decide +kernel
theorem own_d23_11 : decode jdk_92_method_3_code 11 = .ok (.aload_n 0, 1) := by decide +kernel
theorem own_d23_12 : decode jdk_92_method_3_code 12 = .ok (.getfield 11, 3) := by decide +kernel
theorem own_d23_15 : decode jdk_92_method_3_code 15 = .ok (.iload_n 1, 1) := by decide +kernel
theorem own_d23_16 : decode jdk_92_method_3_code 16 = .ok (.laload, 1) := by decide +kernel
theorem own_d23_17 : decode jdk_92_method_3_code 17 = .ok (.lconst 0, 1) := by decide +kernel
theorem own_d23_18 : decode jdk_92_method_3_code 18 = .ok (.lcmp, 1) := by decide +kernel
theorem own_d23_19 : decode jdk_92_method_3_code 19 = .ok (.ifCond .eq 6, 3) := by decide +kernel
theorem own_d23_22 : decode jdk_92_method_3_code 22 = .ok (.goto 9, 3) := by decide +kernel
theorem own_d23_25 : decode jdk_92_method_3_code 25 = .ok (.iinc 1 (-1), 3) := by decide +kernel
theorem own_d23_28 : decode jdk_92_method_3_code 28 = .ok (.goto (-21), 3) := by decide +kernel
theorem own_d23_31 : decode jdk_92_method_3_code 31 = .ok (.aload_n 0, 1) := by decide +kernel
theorem own_d23_32 : decode jdk_92_method_3_code 32 = .ok (.iload_n 1, 1) := by decide +kernel
theorem own_d23_33 : decode jdk_92_method_3_code 33 = .ok (.iconst 1, 1) := by decide +kernel
theorem own_d23_34 : decode jdk_92_method_3_code 34 = .ok (.iadd, 1) := by decide +kernel
theorem own_d23_35 : decode jdk_92_method_3_code 35 = .ok (.putfield 7, 3) := by decide +kernel
theorem own_d23_38 : decode jdk_92_method_3_code 38 = .ok (.return_, 1) := by decide +kernel
abbrev own_rc_R : Room := { frames := 0, cells := 0, slots := 0, locals := 0 }
theorem own_pn23 : plainFor (⟨"java/util/BitSet", "recalculateWordsInUse", "()V"⟩ : MethodName) = true := plainFor_of_name (by first | (simp [plainName, overriddenIn]; done) | decide +kernel)
theorem own_rc_ef (m : MethodId) (a1 : Addr) : entryFrame m #[(.ref a1)] 2 = mkF m 0 #[.val (.ref a1), .unset] [] := by first | (simp [entryFrame, mkF, argsToLocals, Value.category]; done) | rfl
def own_rc_q (Z : State) (a1 : Addr) (w_1 : Addr) (k_1 : ClassId) (W_1 : Int64) (h0 : Heap) (v : Option Value) (h : Heap) : Prop := ∃ (u2 : Bool), v = none ∧ Keep h0 h [a1] ∧ Exa Z h a1 own_cB ∧ Fld Z h a1 own_cB "words" "[J" (.ref w_1) ∧ Arv Z h w_1 k_1 .long (1 : Int32) [(.long W_1)] (.long (0 : Int64)) ∧ Fld Z h a1 own_cB "wordsInUse" "I" (.int (own_b u2))
set_option maxRecDepth 65536 in
set_option maxHeartbeats 40000000 in
theorem own_rc (l : Launch) (Z : State) (a0 : Array Value) (hw : ∀ d ∈ tables_1, d.before a0 Z = true) (ws : List Jvm.Cond) (a1 : Addr) (w_1 : Addr) (k_1 : ClassId) (W_1 : Int64) (h0 : Heap) (n0 : Nat) (Z0 : n0 ≤ h0.size) (i_E : Exa Z h0 a1 own_cB) (i_Fw : Fld Z h0 a1 own_cB "words" "[J" (.ref w_1)) (i_A : Arv Z h0 w_1 k_1 .long (1 : Int32) [(.long W_1)] (.long (0 : Int64))) (i_Fu : Fld Z h0 a1 own_cB "wordsInUse" "I" (.int (1 : Int32))) (g_a1 : n0 ≤ a1) (ne_a1_w_1 : a1 ≠ w_1) :
    own_C l Z (⟨"java/util/BitSet", "recalculateWordsInUse", "()V"⟩ : MethodName) jdk_92_method_3_code 2 none ws own_rc_R #[(.ref a1)] h0 (own_W n0 (own_rc_q Z a1 w_1 k_1 W_1 h0)) := by
  refine MetFree.of_bodySF own_pn23 hisR ?_
  intro p e s m args below meth c s₁ Bd hml0 hP hK
  obtain ⟨rfl, hZ, hh⟩ := hP
  have hx := Bd.exec
  have hby := Bd.bytes
  have hml : c.maxLocals = 2 := hml0
  have hown : s.vm.findClass "java/util/BitSet" = some m.cls := findClass_of_methodNamed Bd.named
  have hnm := (name_of_methodNamed Bd.named Bd.method).1
  have X0 : Stand p l e own_rc_R s m #[(.ref a1)] below meth c s₁ [] 0 0 := Stand.of_body Bd
  have e0 : s₁.heap = h0 := by rw [← hh, Bd.state]; rfl
  have N0 := Fr.nil n0
  have K0 : Keep h0 h0 [a1] := Keep.refl h0 _
  show own_G p e below (own_P s (own_W n0 (own_rc_q Z a1 w_1 k_1 W_1 h0)) own_rc_R.cells own_rc_R.slots) (s₁.setTop (entryFrame m #[(.ref a1)] 2))
  rw [own_rc_ef m a1]
  show own_H s₁ 0 #[.val (.ref a1), .unset] []
  refine own_via (fun t k => XS.aloadN X0.here hx rfl (hb hby own_d23_0) rfl rfl k) ?_
  show own_H s₁ 1 #[.val (.ref a1), .unset] [(.ref a1)]
  obtain ⟨T1, X1, e1, st1⟩ := getF X0 hx hZ hown (host := "") (Or.inl (own_u hw 73 rfl)) Via.refl e0 i_Fu (g := (mkF m 1 #[.val (.ref a1), .unset] [(.ref a1)])) rfl rfl (hb hby own_d23_1)
  refine own_via st1 ?_
  show own_H T1 4 #[.val (.ref a1), .unset] [(.int (1 : Int32))]
  refine own_via (fun t k => XS.iconst X1.here hx rfl (hb hby own_d23_4) k) ?_
  show own_H T1 5 #[.val (.ref a1), .unset] [(.int (1 : Int32)), (.int (1 : Int32))]
  refine own_via (fun t k => XS.isub X1.here hx rfl (hb hby own_d23_5) rfl k) ?_
  show own_H T1 6 #[.val (.ref a1), .unset] [(.int (0 : Int32))]
  refine own_via (fun t k => XS.istoreN X1.here hx rfl (hb hby own_d23_6) rfl (l' := #[.val (.ref a1), .val (.int (0 : Int32))]) rfl k) ?_
  refine own_via (fun t k => XS.iloadN X1.here hx rfl (hb hby own_d23_7) rfl k) ?_
  show own_H T1 8 #[.val (.ref a1), .val (.int (0 : Int32))] [(.int (0 : Int32))]
  refine own_via (fun t k => XS.ifNo X1.here hx rfl (hb hby own_d23_8) rfl ((if0 _ _).trans (flt (by decide : ¬ ((0 : Int32) < (0 : Int32)))).1) k) ?_
  show own_H T1 11 #[.val (.ref a1), .val (.int (0 : Int32))] []
  refine own_via (fun t k => XS.aloadN X1.here hx rfl (hb hby own_d23_11) rfl rfl k) ?_
  show own_H T1 12 #[.val (.ref a1), .val (.int (0 : Int32))] [(.ref a1)]
  obtain ⟨T2, X2, e2, st2⟩ := getF X1 hx hZ hown (host := "") (Or.inl (own_u hw 86 rfl)) Via.refl e1 i_Fw (g := (mkF m 12 #[.val (.ref a1), .val (.int (0 : Int32))] [(.ref a1)])) rfl rfl (hb hby own_d23_12)
  refine own_via st2 ?_
  show own_H T2 15 #[.val (.ref a1), .val (.int (0 : Int32))] [(.ref w_1)]
  refine own_via (fun t k => XS.iloadN X2.here hx rfl (hb hby own_d23_15) rfl k) ?_
  show own_H T2 16 #[.val (.ref a1), .val (.int (0 : Int32))] [(.int (0 : Int32)), (.ref w_1)]
  refine own_via (own_ldJ X2 hx hZ e2 i_A (j := (0 : Int32)) ⟨by decide, by decide⟩ (v := (.long W_1)) rfl (pc := 16) (Ls := #[.val (.ref a1), .val (.int (0 : Int32))]) (rest := []) (hb hby own_d23_16)) ?_
  show own_H T2 17 #[.val (.ref a1), .val (.int (0 : Int32))] [(.long W_1)]
  refine own_via (fun t k => XS.lconst X2.here hx rfl (hb hby own_d23_17) k) ?_
  show own_H T2 18 #[.val (.ref a1), .val (.int (0 : Int32))] [(.long (0 : Int64)), (.long W_1)]
  refine own_via (fun t k => XS.lcmp X2.here hx rfl (hb hby own_d23_18) rfl k) ?_
  show own_H T2 19 #[.val (.ref a1), .val (.int (0 : Int32))] [(.int (lcmpW W_1 (0 : Int64)))]
  by_cases hc3 : W_1 = (0 : Int64)
  ·
    refine own_via (fun t k => XS.ifYes X2.here hx rfl (pc0 := 19) (pc' := 25) rfl (hb hby own_d23_19) rfl ((if0 _ _).trans (teq ((lw_eq _ _).mpr hc3)).1) (by decide) (by decide) k) ?_
    show own_H T2 25 #[.val (.ref a1), .val (.int (0 : Int32))] []
    refine own_via (fun t k => XS.iinc X2.here hx rfl (hb hby own_d23_25) rfl (l' := #[.val (.ref a1), .val (.int (-1 : Int32))]) rfl k) ?_
    show own_H T2 28 #[.val (.ref a1), .val (.int (-1 : Int32))] []
    refine own_via (fun t k => XS.goto X2.here hx rfl (pc0 := 28) (pc' := 7) rfl (hb hby own_d23_28) (by decide) (by decide) k) ?_
    refine own_via (fun t k => XS.iloadN X2.here hx rfl (hb hby own_d23_7) rfl k) ?_
    show own_H T2 8 #[.val (.ref a1), .val (.int (-1 : Int32))] [(.int (-1 : Int32))]
    refine own_via (fun t k => XS.ifYes X2.here hx rfl (pc0 := 8) (pc' := 31) rfl (hb hby own_d23_8) rfl ((if0 _ _).trans (tlt (by decide : (-1 : Int32) < (0 : Int32))).1) (by decide) (by decide) k) ?_
    show own_H T2 31 #[.val (.ref a1), .val (.int (-1 : Int32))] []
    refine own_via (fun t k => XS.aloadN X2.here hx rfl (hb hby own_d23_31) rfl rfl k) ?_
    refine own_via (fun t k => XS.iloadN X2.here hx rfl (hb hby own_d23_32) rfl k) ?_
    refine own_via (fun t k => XS.iconst X2.here hx rfl (hb hby own_d23_33) k) ?_
    show own_H T2 34 #[.val (.ref a1), .val (.int (-1 : Int32))] [(.int (1 : Int32)), (.int (-1 : Int32)), (.ref a1)]
    refine own_via (fun t k => XS.iadd X2.here hx rfl (hb hby own_d23_34) rfl k) ?_
    show own_H T2 35 #[.val (.ref a1), .val (.int (-1 : Int32))] [(.int (0 : Int32)), (.ref a1)]
    obtain ⟨T4, h4, L4, X4, N4, e4, W4, F4, st4⟩ := own_putF X2 N0 hx hZ hown (own_u hw 73 rfl) e2 i_Fu i_E (Or.inl (own_u hw 74 rfl)) (own_u hw 67 rfl) g_a1 (ty := .int) (v := (.int (0 : Int32))) (by decide) rfl rfl (pc := 35) (Ls := #[.val (.ref a1), .val (.int (-1 : Int32))]) (rest := []) (hb hby own_d23_35)
    refine own_via st4 ?_
    have f5 := i_E.wr W4
    have f6 := i_Fw.other W4 (Or.inr (slot_ne (Or.inl (own_u hw 87 rfl)) (Or.inl (own_u hw 74 rfl)) (by decide) rfl rfl))
    have f7 := i_A.other W4 (Ne.symm ne_a1_w_1)
    have Kp8 := K0.wr W4 (Or.inl (List.mem_of_getElem? (i := 0) rfl))
    show own_H T4 38 #[.val (.ref a1), .val (.int (-1 : Int32))] []
    clear i_E i_Fw i_A i_Fu K0
    exact own_retV X4 hx Bd.returns Bd.notSynchronized (hb hby own_d23_38) (by rw [e4]; exact ⟨N4, false, rfl, Kp8, f5, f6, f7, F4⟩) (by decide) (by decide)
  ·
    refine own_via (fun t k => XS.ifNo X2.here hx rfl (hb hby own_d23_19) rfl ((if0 _ _).trans (feq (fun q => hc3 ((lw_eq _ _).mp q))).1) k) ?_
    show own_H T2 22 #[.val (.ref a1), .val (.int (0 : Int32))] []
    refine own_via (fun t k => XS.goto X2.here hx rfl (pc0 := 22) (pc' := 31) rfl (hb hby own_d23_22) (by decide) (by decide) k) ?_
    refine own_via (fun t k => XS.aloadN X2.here hx rfl (hb hby own_d23_31) rfl rfl k) ?_
    refine own_via (fun t k => XS.iloadN X2.here hx rfl (hb hby own_d23_32) rfl k) ?_
    refine own_via (fun t k => XS.iconst X2.here hx rfl (hb hby own_d23_33) k) ?_
    show own_H T2 34 #[.val (.ref a1), .val (.int (0 : Int32))] [(.int (1 : Int32)), (.int (0 : Int32)), (.ref a1)]
    refine own_via (fun t k => XS.iadd X2.here hx rfl (hb hby own_d23_34) rfl k) ?_
    show own_H T2 35 #[.val (.ref a1), .val (.int (0 : Int32))] [(.int (1 : Int32)), (.ref a1)]
    obtain ⟨T10, h10, L10, X10, N10, e10, W10, F10, st10⟩ := own_putF X2 N0 hx hZ hown (own_u hw 73 rfl) e2 i_Fu i_E (Or.inl (own_u hw 74 rfl)) (own_u hw 67 rfl) g_a1 (ty := .int) (v := (.int (1 : Int32))) (by decide) rfl rfl (pc := 35) (Ls := #[.val (.ref a1), .val (.int (0 : Int32))]) (rest := []) (hb hby own_d23_35)
    refine own_via st10 ?_
    have f11 := i_E.wr W10
    have f12 := i_Fw.other W10 (Or.inr (slot_ne (Or.inl (own_u hw 87 rfl)) (Or.inl (own_u hw 74 rfl)) (by decide) rfl rfl))
    have f13 := i_A.other W10 (Ne.symm ne_a1_w_1)
    have Kp14 := K0.wr W10 (Or.inl (List.mem_of_getElem? (i := 0) rfl))
    show own_H T10 38 #[.val (.ref a1), .val (.int (0 : Int32))] []
    clear i_E i_Fw i_A i_Fu K0
    exact own_retV X10 hx Bd.returns Bd.notSynchronized (hb hby own_d23_38) (by rw [e10]; exact ⟨N10, true, rfl, Kp14, f11, f12, f13, F10⟩) (by decide) (by decide)
theorem own_d18_0 : decode jdk_92_method_19_code 0 = .ok (.iload_n 1, 1) := by decide +kernel
theorem own_d18_1 : decode jdk_92_method_19_code 1 = .ok (.ifCond .ge 30, 3) := by decide +kernel
theorem own_d18_31 : decode jdk_92_method_19_code 31 = .ok (.iload_n 1, 1) := by decide +kernel
theorem own_d18_32 : decode jdk_92_method_19_code 32 = .ok (.invokestatic 52, 3) := by decide +kernel
theorem own_d18_35 : decode jdk_92_method_19_code 35 = .ok (.istore_n 2, 1) := by decide +kernel
theorem own_d18_36 : decode jdk_92_method_19_code 36 = .ok (.aload_n 0, 1) := by decide +kernel
theorem own_d18_37 : decode jdk_92_method_19_code 37 = .ok (.iload_n 2, 1) := by decide +kernel
theorem own_d18_38 : decode jdk_92_method_19_code 38 = .ok (.invokevirtual 155, 3) := by decide +kernel
theorem own_d18_41 : decode jdk_92_method_19_code 41 = .ok (.aload_n 0, 1) := by decide +kernel
theorem own_d18_42 : decode jdk_92_method_19_code 42 = .ok (.getfield 11, 3) := by decide +kernel
theorem own_d18_45 : decode jdk_92_method_19_code 45 = .ok (.iload_n 2, 1) := by decide +kernel
theorem own_d18_46 : decode jdk_92_method_19_code 46 = .ok (.dup2, 1) := by decide +kernel
theorem own_d18_47 : decode jdk_92_method_19_code 47 = .ok (.laload, 1) := by decide +kernel
theorem own_d18_48 : decode jdk_92_method_19_code 48 = .ok (.lconst 1, 1) := by decide +kernel
theorem own_d18_49 : decode jdk_92_method_19_code 49 = .ok (.iload_n 1, 1) := by decide +kernel
theorem own_d18_50 : decode jdk_92_method_19_code 50 = .ok (.lshl, 1) := by decide +kernel
theorem own_d18_51 : decode jdk_92_method_19_code 51 = .ok (.lor, 1) := by decide +kernel
theorem own_d18_52 : decode jdk_92_method_19_code 52 = .ok (.lastore, 1) := by decide +kernel
theorem own_d18_53 : decode jdk_92_method_19_code 53 = .ok (.aload_n 0, 1) := by decide +kernel
theorem own_d18_54 : decode jdk_92_method_19_code 54 = .ok (.invokevirtual 56, 3) := by decide +kernel
theorem own_d18_57 : decode jdk_92_method_19_code 57 = .ok (.return_, 1) := by decide +kernel
abbrev own_se_R : Room := { frames := 2, cells := 0, slots := 0, locals := 28 }
theorem own_pn18 : plainFor (⟨"java/util/BitSet", "set", "(I)V"⟩ : MethodName) = true := plainFor_of_name (by first | (simp [plainName, overriddenIn]; done) | decide +kernel)
theorem own_se_ef (m : MethodId) (a1 : Addr) (j1 : Int32) : entryFrame m #[(.ref a1), (.int j1)] 3 = mkF m 0 #[.val (.ref a1), .val (.int j1), .unset] [] := by first | (simp [entryFrame, mkF, argsToLocals, Value.category]; done) | rfl
def own_se_q (Z : State) (a1 : Addr) (j1 : Int32) (w_1 : Addr) (k_1 : ClassId) (W_1 : Int64) (u1 : Bool) (h0 : Heap) (v : Option Value) (h : Heap) : Prop := ∃ (W_2 : Int64) (u2 : Bool), v = none ∧ Keep h0 h [a1, w_1] ∧ Exa Z h a1 own_cB ∧ Fld Z h a1 own_cB "words" "[J" (.ref w_1) ∧ Arv Z h w_1 k_1 .long (1 : Int32) [(.long W_2)] (.long (0 : Int64)) ∧ Fld Z h a1 own_cB "wordsInUse" "I" (.int (own_b u2))
set_option maxRecDepth 65536 in
set_option maxHeartbeats 40000000 in
theorem own_se (l : Launch) (Z : State) (a0 : Array Value) (hw : ∀ d ∈ tables_1, d.before a0 Z = true) (ws : List Jvm.Cond) (a1 : Addr) (j1 : Int32) (w_1 : Addr) (k_1 : ClassId) (W_1 : Int64) (u1 : Bool) (h0 : Heap) (n0 : Nat) (Z0 : n0 ≤ h0.size) (i_E : Exa Z h0 a1 own_cB) (i_Fw : Fld Z h0 a1 own_cB "words" "[J" (.ref w_1)) (i_A : Arv Z h0 w_1 k_1 .long (1 : Int32) [(.long W_1)] (.long (0 : Int64))) (i_Fu : Fld Z h0 a1 own_cB "wordsInUse" "I" (.int (own_b u1))) (i_S1 : Sta Z h0 own_cB "$assertionsDisabled" "Z" (.int (1 : Int32))) (g_a1 : n0 ≤ a1) (g_w_1 : n0 ≤ w_1) (ne_a1_w_1 : a1 ≠ w_1) (hp_h1 : ¬ (j1 < (0 : Int32))) (hp_h2 : (own_F11 j1) = (0 : Int32)) :
    own_C l Z (⟨"java/util/BitSet", "set", "(I)V"⟩ : MethodName) jdk_92_method_19_code 3 none ws own_se_R #[(.ref a1), (.int j1)] h0 (own_W n0 (own_se_q Z a1 j1 w_1 k_1 W_1 u1 h0)) := by
  refine MetFree.of_bodySF own_pn18 hisR ?_
  intro p e s m args below meth c s₁ Bd hml0 hP hK
  obtain ⟨rfl, hZ, hh⟩ := hP
  have hx := Bd.exec
  have hby := Bd.bytes
  have hml : c.maxLocals = 3 := hml0
  have hown : s.vm.findClass "java/util/BitSet" = some m.cls := findClass_of_methodNamed Bd.named
  have hnm := (name_of_methodNamed Bd.named Bd.method).1
  have X0 : Stand p l e own_se_R s m #[(.ref a1), (.int j1)] below meth c s₁ [] 0 0 := Stand.of_body Bd
  have e0 : s₁.heap = h0 := by rw [← hh, Bd.state]; rfl
  have N0 := Fr.nil n0
  have K0 : Keep h0 h0 [a1, w_1] := Keep.refl h0 _
  show own_G p e below (own_P s (own_W n0 (own_se_q Z a1 j1 w_1 k_1 W_1 u1 h0)) own_se_R.cells own_se_R.slots) (s₁.setTop (entryFrame m #[(.ref a1), (.int j1)] 3))
  rw [own_se_ef m a1 j1]
  show own_H s₁ 0 #[.val (.ref a1), .val (.int j1), .unset] []
  cases u1
  ·
    have f1 : Fld Z h0 a1 own_cB "wordsInUse" "I" (.int (0 : Int32)) := i_Fu
    show own_H s₁ 0 #[.val (.ref a1), .val (.int j1), .unset] []
    refine own_via (fun t k => XS.iloadN X0.here hx rfl (hb hby own_d18_0) rfl k) ?_
    show own_H s₁ 1 #[.val (.ref a1), .val (.int j1), .unset] [(.int j1)]
    refine own_via (fun t k => XS.ifYes X0.here hx rfl (pc0 := 1) (pc' := 31) rfl (hb hby own_d18_1) rfl ((if0 _ _).trans (flt hp_h1).2.1) (by decide) (by decide) k) ?_
    show own_H s₁ 31 #[.val (.ref a1), .val (.int j1), .unset] []
    refine own_via (fun t k => XS.iloadN X0.here hx rfl (hb hby own_d18_31) rfl k) ?_
    show own_H s₁ 32 #[.val (.ref a1), .val (.int j1), .unset] [(.int j1)]
    obtain ⟨T2, X2, e2, st2⟩ := own_callP (y := (⟨"java/util/BitSet", "wordIndex", "(I)I"⟩ : MethodName)) (W := 0) X0 hx hZ hown (own_u hw 82 rfl) (own_u hw 83 rfl) (own_u hw 68 rfl) (own_u hw 84 rfl) (by decide) (own_rm11 l Z a0 hw [] j1 h0) (by decide) (by decide) rfl rfl (by decide) (by decide) e0 (pc := 32) (Ls := #[.val (.ref a1), .val (.int j1), .unset]) (st := [(.int j1)]) (argsL := [(.int j1)]) (rest := []) (by rw [hml]; rfl) (lenOf own_pd0 rfl) rfl rfl (Nat.le_of_eq rfl) (hb hby own_d18_32)
    refine own_via st2 ?_
    show own_H T2 35 #[.val (.ref a1), .val (.int j1), .unset] [(.int (own_F11 j1))]
    rw [show (own_F11 j1) = (0 : Int32) from hp_h2]
    show own_H T2 35 #[.val (.ref a1), .val (.int j1), .unset] [(.int (0 : Int32))]
    refine own_via (fun t k => XS.istoreN X2.here hx rfl (hb hby own_d18_35) rfl (l' := #[.val (.ref a1), .val (.int j1), .val (.int (0 : Int32))]) rfl k) ?_
    refine own_via (fun t k => XS.aloadN X2.here hx rfl (hb hby own_d18_36) rfl rfl k) ?_
    refine own_via (fun t k => XS.iloadN X2.here hx rfl (hb hby own_d18_37) rfl k) ?_
    show own_H T2 38 #[.val (.ref a1), .val (.int j1), .val (.int (0 : Int32))] [(.int (0 : Int32)), (.ref a1)]
    obtain ⟨v3, T3, h3, L3, X3, N3, e3, hq3, st3⟩ := own_callR (y := (⟨"java/util/BitSet", "expandTo", "(I)V"⟩ : MethodName)) (W := 0) (a := a1) X2 N0 hx hZ hown (own_u hw 153 rfl) (own_u hw 154 rfl) (own_u hw 156 rfl) (own_u hw 155 rfl) (own_u hw 68 rfl) (own_u hw 157 rfl) (by decide) (own_ex l Z a0 hw [] a1 w_1 k_1 W_1 h0 n0 Z0 i_E i_Fw i_A f1 g_a1 ne_a1_w_1) (by decide) (by decide) (by decide) (by decide) e2 i_E (pc := 38) (Ls := #[.val (.ref a1), .val (.int j1), .val (.int (0 : Int32))]) (st := [(.int (0 : Int32)), (.ref a1)]) (argsL := [(.int (0 : Int32))]) (rest := []) (by rw [hml]; rfl) (lenOf own_pd1 rfl) rfl rfl (Nat.le_of_eq rfl) (hb hby own_d18_38)
    obtain ⟨rfl, K3, o3_0, o3_1, o3_2, o3_3⟩ := hq3
    refine own_via st3 ?_
    have f6 := own_staK i_S1 K3 (fun x hx => by simp only [List.mem_cons, List.not_mem_nil, or_false] at hx; rcases hx with rfl <;> first | exact i_E.nostat)
    have Kp7 := K0.trans K3 (fun x hx => by simp only [List.mem_cons, List.not_mem_nil, or_false] at hx; rcases hx with rfl <;> first | exact (Or.inl (List.mem_of_getElem? (i := 0) rfl)))
    have Zs8 : n0 ≤ h3.size := Nat.le_trans Z0 K3.1
    show own_H T3 41 #[.val (.ref a1), .val (.int j1), .val (.int (0 : Int32))] []
    clear i_E i_Fw i_A f1 i_S1 K0
    refine own_via (fun t k => XS.aloadN X3.here hx rfl (hb hby own_d18_41) rfl rfl k) ?_
    show own_H T3 42 #[.val (.ref a1), .val (.int j1), .val (.int (0 : Int32))] [(.ref a1)]
    obtain ⟨T9, X9, e9, st9⟩ := getF X3 hx hZ hown (host := "") (Or.inl (own_u hw 86 rfl)) Via.refl e3 o3_1 (g := (mkF m 42 #[.val (.ref a1), .val (.int j1), .val (.int (0 : Int32))] [(.ref a1)])) rfl rfl (hb hby own_d18_42)
    refine own_via st9 ?_
    show own_H T9 45 #[.val (.ref a1), .val (.int j1), .val (.int (0 : Int32))] [(.ref w_1)]
    refine own_via (fun t k => XS.iloadN X9.here hx rfl (hb hby own_d18_45) rfl k) ?_
    show own_H T9 46 #[.val (.ref a1), .val (.int j1), .val (.int (0 : Int32))] [(.int (0 : Int32)), (.ref w_1)]
    refine own_via (own_dup2 X9 hx rfl rfl (hb hby own_d18_46)) ?_
    show own_H T9 47 #[.val (.ref a1), .val (.int j1), .val (.int (0 : Int32))] [(.int (0 : Int32)), (.ref w_1), (.int (0 : Int32)), (.ref w_1)]
    refine own_via (own_ldJ X9 hx hZ e9 o3_2 (j := (0 : Int32)) ⟨by decide, by decide⟩ (v := (.long W_1)) rfl (pc := 47) (Ls := #[.val (.ref a1), .val (.int j1), .val (.int (0 : Int32))]) (rest := [(.int (0 : Int32)), (.ref w_1)]) (hb hby own_d18_47)) ?_
    show own_H T9 48 #[.val (.ref a1), .val (.int j1), .val (.int (0 : Int32))] [(.long W_1), (.int (0 : Int32)), (.ref w_1)]
    refine own_via (fun t k => XS.lconst X9.here hx rfl (hb hby own_d18_48) k) ?_
    refine own_via (fun t k => XS.iloadN X9.here hx rfl (hb hby own_d18_49) rfl k) ?_
    show own_H T9 50 #[.val (.ref a1), .val (.int j1), .val (.int (0 : Int32))] [(.int j1), (.long (1 : Int64)), (.long W_1), (.int (0 : Int32)), (.ref w_1)]
    refine own_via (fun t k => XS.lshl X9.here hx rfl (hb hby own_d18_50) rfl k) ?_
    show own_H T9 51 #[.val (.ref a1), .val (.int j1), .val (.int (0 : Int32))] [(.long ((1 : Int64) <<< (j1 &&& 0x3f).toInt64)), (.long W_1), (.int (0 : Int32)), (.ref w_1)]
    refine own_via (fun t k => XS.lor X9.here hx rfl (hb hby own_d18_51) rfl k) ?_
    show own_H T9 52 #[.val (.ref a1), .val (.int j1), .val (.int (0 : Int32))] [(.long (W_1 ||| ((1 : Int64) <<< (j1 &&& 0x3f).toInt64))), (.int (0 : Int32)), (.ref w_1)]
    obtain ⟨T10, h10, L10, X10, N10, e10, W10, V10, st10⟩ := own_stJ X9 N3 hx hZ e9 o3_2 g_w_1 (j := (0 : Int32)) (x := (W_1 ||| ((1 : Int64) <<< (j1 &&& 0x3f).toInt64))) (i := 0) ⟨by decide, by decide⟩ rfl (Nat.le_of_ble_eq_true rfl) (pc := 52) (Ls := #[.val (.ref a1), .val (.int j1), .val (.int (0 : Int32))]) (rest := []) (hb hby own_d18_52)
    refine own_via st10 ?_
    have f11 := o3_0.wr W10
    have f12 := f6.wr W10
    have f13 := o3_1.other W10 (Or.inl ne_a1_w_1)
    have f14 := o3_3.other W10 (Or.inl ne_a1_w_1)
    have Kp15 := Kp7.wr W10 (Or.inl (List.mem_of_getElem? (i := 1) rfl))
    have f16 : Arv Z h10 w_1 k_1 .long (1 : Int32) [(.long (W_1 ||| ((1 : Int64) <<< (j1 &&& 0x3f).toInt64)))] (.long (0 : Int64)) := V10
    have Zs17 : n0 ≤ h10.size := by rw [W10.size]; exact Zs8
    show own_H T10 53 #[.val (.ref a1), .val (.int j1), .val (.int (0 : Int32))] []
    clear o3_0 o3_2 f6 o3_1 o3_3 Kp7 Zs8
    refine own_via (fun t k => XS.aloadN X10.here hx rfl (hb hby own_d18_53) rfl rfl k) ?_
    show own_H T10 54 #[.val (.ref a1), .val (.int j1), .val (.int (0 : Int32))] [(.ref a1)]
    obtain ⟨v18, T18, h18, L18, X18, N18, e18, hq18, st18⟩ := own_callR (y := (⟨"java/util/BitSet", "checkInvariants", "()V"⟩ : MethodName)) (W := 0) (a := a1) X10 N10 hx hZ hown (own_u hw 163 rfl) (own_u hw 164 rfl) (own_u hw 166 rfl) (own_u hw 165 rfl) (own_u hw 68 rfl) (own_u hw 167 rfl) (by decide) (own_ck l Z a0 hw [] a1 h10 n0 Zs17 f12) (by decide) (by decide) (by decide) (by decide) e10 f11 (pc := 54) (Ls := #[.val (.ref a1), .val (.int j1), .val (.int (0 : Int32))]) (st := [(.ref a1)]) (argsL := []) (rest := []) (by rw [hml]; rfl) (lenOf own_pd2 rfl) rfl rfl (Nat.le_of_eq rfl) (hb hby own_d18_54)
    obtain ⟨rfl, K18⟩ := hq18
    refine own_via st18 ?_
    have f19 := f11.ext (own_ke K18)
    have f21 := f13.ext (own_ke K18)
    have f22 := f14.ext (own_ke K18)
    have f23 := f16.ext (own_ke K18)
    have Kp24 := Kp15.trans K18 (fun x hx => nomatch hx)
    show own_H T18 57 #[.val (.ref a1), .val (.int j1), .val (.int (0 : Int32))] []
    clear f11 f12 f13 f14 f16 Kp15 Zs17
    exact own_retV X18 hx Bd.returns Bd.notSynchronized (hb hby own_d18_57) (by rw [e18]; exact ⟨N18, (W_1 ||| ((1 : Int64) <<< (j1 &&& 0x3f).toInt64)), true, rfl, Kp24, f19, f21, f23, f22⟩) (by decide) (by decide)
  ·
    have f26 : Fld Z h0 a1 own_cB "wordsInUse" "I" (.int (1 : Int32)) := i_Fu
    show own_H s₁ 0 #[.val (.ref a1), .val (.int j1), .unset] []
    refine own_via (fun t k => XS.iloadN X0.here hx rfl (hb hby own_d18_0) rfl k) ?_
    show own_H s₁ 1 #[.val (.ref a1), .val (.int j1), .unset] [(.int j1)]
    refine own_via (fun t k => XS.ifYes X0.here hx rfl (pc0 := 1) (pc' := 31) rfl (hb hby own_d18_1) rfl ((if0 _ _).trans (flt hp_h1).2.1) (by decide) (by decide) k) ?_
    show own_H s₁ 31 #[.val (.ref a1), .val (.int j1), .unset] []
    refine own_via (fun t k => XS.iloadN X0.here hx rfl (hb hby own_d18_31) rfl k) ?_
    show own_H s₁ 32 #[.val (.ref a1), .val (.int j1), .unset] [(.int j1)]
    obtain ⟨T27, X27, e27, st27⟩ := own_callP (y := (⟨"java/util/BitSet", "wordIndex", "(I)I"⟩ : MethodName)) (W := 0) X0 hx hZ hown (own_u hw 82 rfl) (own_u hw 83 rfl) (own_u hw 68 rfl) (own_u hw 84 rfl) (by decide) (own_rm11 l Z a0 hw [] j1 h0) (by decide) (by decide) rfl rfl (by decide) (by decide) e0 (pc := 32) (Ls := #[.val (.ref a1), .val (.int j1), .unset]) (st := [(.int j1)]) (argsL := [(.int j1)]) (rest := []) (by rw [hml]; rfl) (lenOf own_pd0 rfl) rfl rfl (Nat.le_of_eq rfl) (hb hby own_d18_32)
    refine own_via st27 ?_
    show own_H T27 35 #[.val (.ref a1), .val (.int j1), .unset] [(.int (own_F11 j1))]
    rw [show (own_F11 j1) = (0 : Int32) from hp_h2]
    show own_H T27 35 #[.val (.ref a1), .val (.int j1), .unset] [(.int (0 : Int32))]
    refine own_via (fun t k => XS.istoreN X27.here hx rfl (hb hby own_d18_35) rfl (l' := #[.val (.ref a1), .val (.int j1), .val (.int (0 : Int32))]) rfl k) ?_
    refine own_via (fun t k => XS.aloadN X27.here hx rfl (hb hby own_d18_36) rfl rfl k) ?_
    refine own_via (fun t k => XS.iloadN X27.here hx rfl (hb hby own_d18_37) rfl k) ?_
    show own_H T27 38 #[.val (.ref a1), .val (.int j1), .val (.int (0 : Int32))] [(.int (0 : Int32)), (.ref a1)]
    obtain ⟨v28, T28, h28, L28, X28, N28, e28, hq28, st28⟩ := own_callR (y := (⟨"java/util/BitSet", "expandTo", "(I)V"⟩ : MethodName)) (W := 0) (a := a1) X27 N0 hx hZ hown (own_u hw 153 rfl) (own_u hw 154 rfl) (own_u hw 156 rfl) (own_u hw 155 rfl) (own_u hw 68 rfl) (own_u hw 157 rfl) (by decide) (own_e1 l Z a0 hw [] a1 w_1 k_1 W_1 h0 n0 Z0 i_E i_Fw i_A f26) (by decide) (by decide) (by decide) (by decide) e27 i_E (pc := 38) (Ls := #[.val (.ref a1), .val (.int j1), .val (.int (0 : Int32))]) (st := [(.int (0 : Int32)), (.ref a1)]) (argsL := [(.int (0 : Int32))]) (rest := []) (by rw [hml]; rfl) (lenOf own_pd1 rfl) rfl rfl (Nat.le_of_eq rfl) (hb hby own_d18_38)
    obtain ⟨rfl, K28⟩ := hq28
    refine own_via st28 ?_
    have f29 := i_E.ext (own_ke K28)
    have f30 := i_Fw.ext (own_ke K28)
    have f31 := i_A.ext (own_ke K28)
    have f32 := f26.ext (own_ke K28)
    have f33 := i_S1.ext (own_ke K28)
    have Kp34 := K0.trans K28 (fun x hx => nomatch hx)
    have Zs35 : n0 ≤ h28.size := Nat.le_trans Z0 K28.1
    show own_H T28 41 #[.val (.ref a1), .val (.int j1), .val (.int (0 : Int32))] []
    clear i_E i_Fw i_A f26 i_S1 K0
    refine own_via (fun t k => XS.aloadN X28.here hx rfl (hb hby own_d18_41) rfl rfl k) ?_
    show own_H T28 42 #[.val (.ref a1), .val (.int j1), .val (.int (0 : Int32))] [(.ref a1)]
    obtain ⟨T36, X36, e36, st36⟩ := getF X28 hx hZ hown (host := "") (Or.inl (own_u hw 86 rfl)) Via.refl e28 f30 (g := (mkF m 42 #[.val (.ref a1), .val (.int j1), .val (.int (0 : Int32))] [(.ref a1)])) rfl rfl (hb hby own_d18_42)
    refine own_via st36 ?_
    show own_H T36 45 #[.val (.ref a1), .val (.int j1), .val (.int (0 : Int32))] [(.ref w_1)]
    refine own_via (fun t k => XS.iloadN X36.here hx rfl (hb hby own_d18_45) rfl k) ?_
    show own_H T36 46 #[.val (.ref a1), .val (.int j1), .val (.int (0 : Int32))] [(.int (0 : Int32)), (.ref w_1)]
    refine own_via (own_dup2 X36 hx rfl rfl (hb hby own_d18_46)) ?_
    show own_H T36 47 #[.val (.ref a1), .val (.int j1), .val (.int (0 : Int32))] [(.int (0 : Int32)), (.ref w_1), (.int (0 : Int32)), (.ref w_1)]
    refine own_via (own_ldJ X36 hx hZ e36 f31 (j := (0 : Int32)) ⟨by decide, by decide⟩ (v := (.long W_1)) rfl (pc := 47) (Ls := #[.val (.ref a1), .val (.int j1), .val (.int (0 : Int32))]) (rest := [(.int (0 : Int32)), (.ref w_1)]) (hb hby own_d18_47)) ?_
    show own_H T36 48 #[.val (.ref a1), .val (.int j1), .val (.int (0 : Int32))] [(.long W_1), (.int (0 : Int32)), (.ref w_1)]
    refine own_via (fun t k => XS.lconst X36.here hx rfl (hb hby own_d18_48) k) ?_
    refine own_via (fun t k => XS.iloadN X36.here hx rfl (hb hby own_d18_49) rfl k) ?_
    show own_H T36 50 #[.val (.ref a1), .val (.int j1), .val (.int (0 : Int32))] [(.int j1), (.long (1 : Int64)), (.long W_1), (.int (0 : Int32)), (.ref w_1)]
    refine own_via (fun t k => XS.lshl X36.here hx rfl (hb hby own_d18_50) rfl k) ?_
    show own_H T36 51 #[.val (.ref a1), .val (.int j1), .val (.int (0 : Int32))] [(.long ((1 : Int64) <<< (j1 &&& 0x3f).toInt64)), (.long W_1), (.int (0 : Int32)), (.ref w_1)]
    refine own_via (fun t k => XS.lor X36.here hx rfl (hb hby own_d18_51) rfl k) ?_
    show own_H T36 52 #[.val (.ref a1), .val (.int j1), .val (.int (0 : Int32))] [(.long (W_1 ||| ((1 : Int64) <<< (j1 &&& 0x3f).toInt64))), (.int (0 : Int32)), (.ref w_1)]
    obtain ⟨T37, h37, L37, X37, N37, e37, W37, V37, st37⟩ := own_stJ X36 N28 hx hZ e36 f31 g_w_1 (j := (0 : Int32)) (x := (W_1 ||| ((1 : Int64) <<< (j1 &&& 0x3f).toInt64))) (i := 0) ⟨by decide, by decide⟩ rfl (Nat.le_of_ble_eq_true rfl) (pc := 52) (Ls := #[.val (.ref a1), .val (.int j1), .val (.int (0 : Int32))]) (rest := []) (hb hby own_d18_52)
    refine own_via st37 ?_
    have f38 := f29.wr W37
    have f39 := f30.other W37 (Or.inl ne_a1_w_1)
    have f40 := f32.other W37 (Or.inl ne_a1_w_1)
    have f41 := f33.wr W37
    have Kp42 := Kp34.wr W37 (Or.inl (List.mem_of_getElem? (i := 1) rfl))
    have f43 : Arv Z h37 w_1 k_1 .long (1 : Int32) [(.long (W_1 ||| ((1 : Int64) <<< (j1 &&& 0x3f).toInt64)))] (.long (0 : Int64)) := V37
    have Zs44 : n0 ≤ h37.size := by rw [W37.size]; exact Zs35
    show own_H T37 53 #[.val (.ref a1), .val (.int j1), .val (.int (0 : Int32))] []
    clear f29 f30 f31 f32 f33 Kp34 Zs35
    refine own_via (fun t k => XS.aloadN X37.here hx rfl (hb hby own_d18_53) rfl rfl k) ?_
    show own_H T37 54 #[.val (.ref a1), .val (.int j1), .val (.int (0 : Int32))] [(.ref a1)]
    obtain ⟨v45, T45, h45, L45, X45, N45, e45, hq45, st45⟩ := own_callR (y := (⟨"java/util/BitSet", "checkInvariants", "()V"⟩ : MethodName)) (W := 0) (a := a1) X37 N37 hx hZ hown (own_u hw 163 rfl) (own_u hw 164 rfl) (own_u hw 166 rfl) (own_u hw 165 rfl) (own_u hw 68 rfl) (own_u hw 167 rfl) (by decide) (own_ck l Z a0 hw [] a1 h37 n0 Zs44 f41) (by decide) (by decide) (by decide) (by decide) e37 f38 (pc := 54) (Ls := #[.val (.ref a1), .val (.int j1), .val (.int (0 : Int32))]) (st := [(.ref a1)]) (argsL := []) (rest := []) (by rw [hml]; rfl) (lenOf own_pd2 rfl) rfl rfl (Nat.le_of_eq rfl) (hb hby own_d18_54)
    obtain ⟨rfl, K45⟩ := hq45
    refine own_via st45 ?_
    have f46 := f38.ext (own_ke K45)
    have f47 := f39.ext (own_ke K45)
    have f48 := f40.ext (own_ke K45)
    have f50 := f43.ext (own_ke K45)
    have Kp51 := Kp42.trans K45 (fun x hx => nomatch hx)
    show own_H T45 57 #[.val (.ref a1), .val (.int j1), .val (.int (0 : Int32))] []
    clear f38 f39 f40 f41 f43 Kp42 Zs44
    exact own_retV X45 hx Bd.returns Bd.notSynchronized (hb hby own_d18_57) (by rw [e45]; exact ⟨N45, (W_1 ||| ((1 : Int64) <<< (j1 &&& 0x3f).toInt64)), true, rfl, Kp51, f46, f47, f50, f48⟩) (by decide) (by decide)
theorem own_d22_0 : decode jdk_92_method_23_code 0 = .ok (.iload_n 1, 1) := by decide +kernel
theorem own_d22_1 : decode jdk_92_method_23_code 1 = .ok (.ifCond .ge 30, 3) := by decide +kernel
theorem own_d22_31 : decode jdk_92_method_23_code 31 = .ok (.iload_n 1, 1) := by decide +kernel
theorem own_d22_32 : decode jdk_92_method_23_code 32 = .ok (.invokestatic 52, 3) := by decide +kernel
theorem own_d22_35 : decode jdk_92_method_23_code 35 = .ok (.istore_n 2, 1) := by decide +kernel
theorem own_d22_36 : decode jdk_92_method_23_code 36 = .ok (.iload_n 2, 1) := by decide +kernel
theorem own_d22_37 : decode jdk_92_method_23_code 37 = .ok (.aload_n 0, 1) := by decide +kernel
theorem own_d22_38 : decode jdk_92_method_23_code 38 = .ok (.getfield 7, 3) := by decide +kernel
theorem own_d22_41 : decode jdk_92_method_23_code 41 = .ok (.if_icmp .lt 4, 3) := by decide +kernel
theorem own_d22_44 : decode jdk_92_method_23_code 44 = .ok (.return_, 1) := by decide +kernel
theorem own_d22_45 : decode jdk_92_method_23_code 45 = .ok (.aload_n 0, 1) := by decide +kernel
theorem own_d22_46 : decode jdk_92_method_23_code 46 = .ok (.getfield 11, 3) := by decide +kernel
theorem own_d22_49 : decode jdk_92_method_23_code 49 = .ok (.iload_n 2, 1) := by decide +kernel
theorem own_d22_50 : decode jdk_92_method_23_code 50 = .ok (.dup2, 1) := by decide +kernel
theorem own_d22_51 : decode jdk_92_method_23_code 51 = .ok (.laload, 1) := by decide +kernel
theorem own_d22_52 : decode jdk_92_method_23_code 52 = .ok (.lconst 1, 1) := by decide +kernel
theorem own_d22_53 : decode jdk_92_method_23_code 53 = .ok (.iload_n 1, 1) := by decide +kernel
theorem own_d22_54 : decode jdk_92_method_23_code 54 = .ok (.lshl, 1) := by decide +kernel
theorem own_d22_55 : decode jdk_92_method_23_code 55 = .ok (.ldc2_w 165, 3) := by decide +kernel
theorem own_d22_58 : decode jdk_92_method_23_code 58 = .ok (.lxor, 1) := by decide +kernel
theorem own_d22_59 : decode jdk_92_method_23_code 59 = .ok (.land, 1) := by decide +kernel
theorem own_d22_60 : decode jdk_92_method_23_code 60 = .ok (.lastore, 1) := by decide +kernel
theorem own_d22_61 : decode jdk_92_method_23_code 61 = .ok (.aload_n 0, 1) := by decide +kernel
theorem own_d22_62 : decode jdk_92_method_23_code 62 = .ok (.invokevirtual 158, 3) := by decide +kernel
theorem own_d22_65 : decode jdk_92_method_23_code 65 = .ok (.aload_n 0, 1) := by decide +kernel
theorem own_d22_66 : decode jdk_92_method_23_code 66 = .ok (.invokevirtual 56, 3) := by decide +kernel
theorem own_d22_69 : decode jdk_92_method_23_code 69 = .ok (.return_, 1) := by decide +kernel
abbrev own_cl_R : Room := { frames := 1, cells := 0, slots := 0, locals := 13 }
theorem own_pn22 : plainFor (⟨"java/util/BitSet", "clear", "(I)V"⟩ : MethodName) = true := plainFor_of_name (by first | (simp [plainName, overriddenIn]; done) | decide +kernel)
theorem own_cl_ef (m : MethodId) (a1 : Addr) (j1 : Int32) : entryFrame m #[(.ref a1), (.int j1)] 3 = mkF m 0 #[.val (.ref a1), .val (.int j1), .unset] [] := by first | (simp [entryFrame, mkF, argsToLocals, Value.category]; done) | rfl
def own_cl_q (Z : State) (a1 : Addr) (j1 : Int32) (w_1 : Addr) (k_1 : ClassId) (W_1 : Int64) (u1 : Bool) (h0 : Heap) (v : Option Value) (h : Heap) : Prop := ∃ (W_2 : Int64) (u2 : Bool), v = none ∧ Keep h0 h [a1, w_1] ∧ Exa Z h a1 own_cB ∧ Fld Z h a1 own_cB "words" "[J" (.ref w_1) ∧ Arv Z h w_1 k_1 .long (1 : Int32) [(.long W_2)] (.long (0 : Int64)) ∧ Fld Z h a1 own_cB "wordsInUse" "I" (.int (own_b u2))
set_option maxRecDepth 65536 in
set_option maxHeartbeats 40000000 in
theorem own_cl (l : Launch) (Z : State) (a0 : Array Value) (hw : ∀ d ∈ tables_1, d.before a0 Z = true) (ws : List Jvm.Cond) (a1 : Addr) (j1 : Int32) (w_1 : Addr) (k_1 : ClassId) (W_1 : Int64) (u1 : Bool) (h0 : Heap) (n0 : Nat) (Z0 : n0 ≤ h0.size) (i_E : Exa Z h0 a1 own_cB) (i_Fw : Fld Z h0 a1 own_cB "words" "[J" (.ref w_1)) (i_A : Arv Z h0 w_1 k_1 .long (1 : Int32) [(.long W_1)] (.long (0 : Int64))) (i_Fu : Fld Z h0 a1 own_cB "wordsInUse" "I" (.int (own_b u1))) (i_S1 : Sta Z h0 own_cB "$assertionsDisabled" "Z" (.int (1 : Int32))) (g_a1 : n0 ≤ a1) (g_w_1 : n0 ≤ w_1) (ne_a1_w_1 : a1 ≠ w_1) (hp_h1 : ¬ (j1 < (0 : Int32))) (hp_h2 : (own_F11 j1) = (0 : Int32)) :
    own_C l Z (⟨"java/util/BitSet", "clear", "(I)V"⟩ : MethodName) jdk_92_method_23_code 3 none ws own_cl_R #[(.ref a1), (.int j1)] h0 (own_W n0 (own_cl_q Z a1 j1 w_1 k_1 W_1 u1 h0)) := by
  refine MetFree.of_bodySF own_pn22 hisR ?_
  intro p e s m args below meth c s₁ Bd hml0 hP hK
  obtain ⟨rfl, hZ, hh⟩ := hP
  have hx := Bd.exec
  have hby := Bd.bytes
  have hml : c.maxLocals = 3 := hml0
  have hown : s.vm.findClass "java/util/BitSet" = some m.cls := findClass_of_methodNamed Bd.named
  have hnm := (name_of_methodNamed Bd.named Bd.method).1
  have X0 : Stand p l e own_cl_R s m #[(.ref a1), (.int j1)] below meth c s₁ [] 0 0 := Stand.of_body Bd
  have e0 : s₁.heap = h0 := by rw [← hh, Bd.state]; rfl
  have N0 := Fr.nil n0
  have K0 : Keep h0 h0 [a1, w_1] := Keep.refl h0 _
  show own_G p e below (own_P s (own_W n0 (own_cl_q Z a1 j1 w_1 k_1 W_1 u1 h0)) own_cl_R.cells own_cl_R.slots) (s₁.setTop (entryFrame m #[(.ref a1), (.int j1)] 3))
  rw [own_cl_ef m a1 j1]
  show own_H s₁ 0 #[.val (.ref a1), .val (.int j1), .unset] []
  cases u1
  ·
    have f1 : Fld Z h0 a1 own_cB "wordsInUse" "I" (.int (0 : Int32)) := i_Fu
    show own_H s₁ 0 #[.val (.ref a1), .val (.int j1), .unset] []
    refine own_via (fun t k => XS.iloadN X0.here hx rfl (hb hby own_d22_0) rfl k) ?_
    show own_H s₁ 1 #[.val (.ref a1), .val (.int j1), .unset] [(.int j1)]
    refine own_via (fun t k => XS.ifYes X0.here hx rfl (pc0 := 1) (pc' := 31) rfl (hb hby own_d22_1) rfl ((if0 _ _).trans (flt hp_h1).2.1) (by decide) (by decide) k) ?_
    show own_H s₁ 31 #[.val (.ref a1), .val (.int j1), .unset] []
    refine own_via (fun t k => XS.iloadN X0.here hx rfl (hb hby own_d22_31) rfl k) ?_
    show own_H s₁ 32 #[.val (.ref a1), .val (.int j1), .unset] [(.int j1)]
    obtain ⟨T2, X2, e2, st2⟩ := own_callP (y := (⟨"java/util/BitSet", "wordIndex", "(I)I"⟩ : MethodName)) (W := 0) X0 hx hZ hown (own_u hw 82 rfl) (own_u hw 83 rfl) (own_u hw 68 rfl) (own_u hw 84 rfl) (by decide) (own_rm11 l Z a0 hw [] j1 h0) (by decide) (by decide) rfl rfl (by decide) (by decide) e0 (pc := 32) (Ls := #[.val (.ref a1), .val (.int j1), .unset]) (st := [(.int j1)]) (argsL := [(.int j1)]) (rest := []) (by rw [hml]; rfl) (lenOf own_pd0 rfl) rfl rfl (Nat.le_of_eq rfl) (hb hby own_d22_32)
    refine own_via st2 ?_
    show own_H T2 35 #[.val (.ref a1), .val (.int j1), .unset] [(.int (own_F11 j1))]
    rw [show (own_F11 j1) = (0 : Int32) from hp_h2]
    show own_H T2 35 #[.val (.ref a1), .val (.int j1), .unset] [(.int (0 : Int32))]
    refine own_via (fun t k => XS.istoreN X2.here hx rfl (hb hby own_d22_35) rfl (l' := #[.val (.ref a1), .val (.int j1), .val (.int (0 : Int32))]) rfl k) ?_
    refine own_via (fun t k => XS.iloadN X2.here hx rfl (hb hby own_d22_36) rfl k) ?_
    refine own_via (fun t k => XS.aloadN X2.here hx rfl (hb hby own_d22_37) rfl rfl k) ?_
    show own_H T2 38 #[.val (.ref a1), .val (.int j1), .val (.int (0 : Int32))] [(.ref a1), (.int (0 : Int32))]
    obtain ⟨T3, X3, e3, st3⟩ := getF X2 hx hZ hown (host := "") (Or.inl (own_u hw 73 rfl)) Via.refl e2 f1 (g := (mkF m 38 #[.val (.ref a1), .val (.int j1), .val (.int (0 : Int32))] [(.ref a1), (.int (0 : Int32))])) rfl rfl (hb hby own_d22_38)
    refine own_via st3 ?_
    show own_H T3 41 #[.val (.ref a1), .val (.int j1), .val (.int (0 : Int32))] [(.int (0 : Int32)), (.int (0 : Int32))]
    refine own_via (fun t k => XS.icmpNo X3.here hx rfl (hb hby own_d22_41) rfl (flt (by decide : ¬ ((0 : Int32) < (0 : Int32)))).1 k) ?_
    show own_H T3 44 #[.val (.ref a1), .val (.int j1), .val (.int (0 : Int32))] []
    exact own_retV X3 hx Bd.returns Bd.notSynchronized (hb hby own_d22_44) (by rw [e3]; exact ⟨N0, W_1, false, rfl, K0, i_E, i_Fw, i_A, f1⟩) (by decide) (by decide)
  ·
    have f4 : Fld Z h0 a1 own_cB "wordsInUse" "I" (.int (1 : Int32)) := i_Fu
    show own_H s₁ 0 #[.val (.ref a1), .val (.int j1), .unset] []
    refine own_via (fun t k => XS.iloadN X0.here hx rfl (hb hby own_d22_0) rfl k) ?_
    show own_H s₁ 1 #[.val (.ref a1), .val (.int j1), .unset] [(.int j1)]
    refine own_via (fun t k => XS.ifYes X0.here hx rfl (pc0 := 1) (pc' := 31) rfl (hb hby own_d22_1) rfl ((if0 _ _).trans (flt hp_h1).2.1) (by decide) (by decide) k) ?_
    show own_H s₁ 31 #[.val (.ref a1), .val (.int j1), .unset] []
    refine own_via (fun t k => XS.iloadN X0.here hx rfl (hb hby own_d22_31) rfl k) ?_
    show own_H s₁ 32 #[.val (.ref a1), .val (.int j1), .unset] [(.int j1)]
    obtain ⟨T5, X5, e5, st5⟩ := own_callP (y := (⟨"java/util/BitSet", "wordIndex", "(I)I"⟩ : MethodName)) (W := 0) X0 hx hZ hown (own_u hw 82 rfl) (own_u hw 83 rfl) (own_u hw 68 rfl) (own_u hw 84 rfl) (by decide) (own_rm11 l Z a0 hw [] j1 h0) (by decide) (by decide) rfl rfl (by decide) (by decide) e0 (pc := 32) (Ls := #[.val (.ref a1), .val (.int j1), .unset]) (st := [(.int j1)]) (argsL := [(.int j1)]) (rest := []) (by rw [hml]; rfl) (lenOf own_pd0 rfl) rfl rfl (Nat.le_of_eq rfl) (hb hby own_d22_32)
    refine own_via st5 ?_
    show own_H T5 35 #[.val (.ref a1), .val (.int j1), .unset] [(.int (own_F11 j1))]
    rw [show (own_F11 j1) = (0 : Int32) from hp_h2]
    show own_H T5 35 #[.val (.ref a1), .val (.int j1), .unset] [(.int (0 : Int32))]
    refine own_via (fun t k => XS.istoreN X5.here hx rfl (hb hby own_d22_35) rfl (l' := #[.val (.ref a1), .val (.int j1), .val (.int (0 : Int32))]) rfl k) ?_
    refine own_via (fun t k => XS.iloadN X5.here hx rfl (hb hby own_d22_36) rfl k) ?_
    refine own_via (fun t k => XS.aloadN X5.here hx rfl (hb hby own_d22_37) rfl rfl k) ?_
    show own_H T5 38 #[.val (.ref a1), .val (.int j1), .val (.int (0 : Int32))] [(.ref a1), (.int (0 : Int32))]
    obtain ⟨T6, X6, e6, st6⟩ := getF X5 hx hZ hown (host := "") (Or.inl (own_u hw 73 rfl)) Via.refl e5 f4 (g := (mkF m 38 #[.val (.ref a1), .val (.int j1), .val (.int (0 : Int32))] [(.ref a1), (.int (0 : Int32))])) rfl rfl (hb hby own_d22_38)
    refine own_via st6 ?_
    show own_H T6 41 #[.val (.ref a1), .val (.int j1), .val (.int (0 : Int32))] [(.int (1 : Int32)), (.int (0 : Int32))]
    refine own_via (fun t k => XS.icmpYes X6.here hx rfl (pc0 := 41) (pc' := 45) rfl (hb hby own_d22_41) rfl (tlt (by decide : (0 : Int32) < (1 : Int32))).1 (by decide) (by decide) k) ?_
    show own_H T6 45 #[.val (.ref a1), .val (.int j1), .val (.int (0 : Int32))] []
    refine own_via (fun t k => XS.aloadN X6.here hx rfl (hb hby own_d22_45) rfl rfl k) ?_
    show own_H T6 46 #[.val (.ref a1), .val (.int j1), .val (.int (0 : Int32))] [(.ref a1)]
    obtain ⟨T7, X7, e7, st7⟩ := getF X6 hx hZ hown (host := "") (Or.inl (own_u hw 86 rfl)) Via.refl e6 i_Fw (g := (mkF m 46 #[.val (.ref a1), .val (.int j1), .val (.int (0 : Int32))] [(.ref a1)])) rfl rfl (hb hby own_d22_46)
    refine own_via st7 ?_
    show own_H T7 49 #[.val (.ref a1), .val (.int j1), .val (.int (0 : Int32))] [(.ref w_1)]
    refine own_via (fun t k => XS.iloadN X7.here hx rfl (hb hby own_d22_49) rfl k) ?_
    show own_H T7 50 #[.val (.ref a1), .val (.int j1), .val (.int (0 : Int32))] [(.int (0 : Int32)), (.ref w_1)]
    refine own_via (own_dup2 X7 hx rfl rfl (hb hby own_d22_50)) ?_
    show own_H T7 51 #[.val (.ref a1), .val (.int j1), .val (.int (0 : Int32))] [(.int (0 : Int32)), (.ref w_1), (.int (0 : Int32)), (.ref w_1)]
    refine own_via (own_ldJ X7 hx hZ e7 i_A (j := (0 : Int32)) ⟨by decide, by decide⟩ (v := (.long W_1)) rfl (pc := 51) (Ls := #[.val (.ref a1), .val (.int j1), .val (.int (0 : Int32))]) (rest := [(.int (0 : Int32)), (.ref w_1)]) (hb hby own_d22_51)) ?_
    show own_H T7 52 #[.val (.ref a1), .val (.int j1), .val (.int (0 : Int32))] [(.long W_1), (.int (0 : Int32)), (.ref w_1)]
    refine own_via (fun t k => XS.lconst X7.here hx rfl (hb hby own_d22_52) k) ?_
    refine own_via (fun t k => XS.iloadN X7.here hx rfl (hb hby own_d22_53) rfl k) ?_
    show own_H T7 54 #[.val (.ref a1), .val (.int j1), .val (.int (0 : Int32))] [(.int j1), (.long (1 : Int64)), (.long W_1), (.int (0 : Int32)), (.ref w_1)]
    refine own_via (fun t k => XS.lshl X7.here hx rfl (hb hby own_d22_54) rfl k) ?_
    show own_H T7 55 #[.val (.ref a1), .val (.int j1), .val (.int (0 : Int32))] [(.long ((1 : Int64) <<< (j1 &&& 0x3f).toInt64)), (.long W_1), (.int (0 : Int32)), (.ref w_1)]
    refine own_via (X7.ldc2Long hx hown (mvT hZ (own_u hw 174 rfl)) (g := (mkF m 55 #[.val (.ref a1), .val (.int j1), .val (.int (0 : Int32))] [(.long ((1 : Int64) <<< (j1 &&& 0x3f).toInt64)), (.long W_1), (.int (0 : Int32)), (.ref w_1)])) rfl (hb hby own_d22_55)) ?_
    show own_H T7 58 #[.val (.ref a1), .val (.int j1), .val (.int (0 : Int32))] [(.long (-1 : Int64)), (.long ((1 : Int64) <<< (j1 &&& 0x3f).toInt64)), (.long W_1), (.int (0 : Int32)), (.ref w_1)]
    refine own_via (fun t k => XS.lxor X7.here hx rfl (hb hby own_d22_58) rfl k) ?_
    show own_H T7 59 #[.val (.ref a1), .val (.int j1), .val (.int (0 : Int32))] [(.long (((1 : Int64) <<< (j1 &&& 0x3f).toInt64) ^^^ (-1 : Int64))), (.long W_1), (.int (0 : Int32)), (.ref w_1)]
    refine own_via (fun t k => XS.land X7.here hx rfl (hb hby own_d22_59) rfl k) ?_
    show own_H T7 60 #[.val (.ref a1), .val (.int j1), .val (.int (0 : Int32))] [(.long (W_1 &&& (((1 : Int64) <<< (j1 &&& 0x3f).toInt64) ^^^ (-1 : Int64)))), (.int (0 : Int32)), (.ref w_1)]
    obtain ⟨T8, h8, L8, X8, N8, e8, W8, V8, st8⟩ := own_stJ X7 N0 hx hZ e7 i_A g_w_1 (j := (0 : Int32)) (x := (W_1 &&& (((1 : Int64) <<< (j1 &&& 0x3f).toInt64) ^^^ (-1 : Int64)))) (i := 0) ⟨by decide, by decide⟩ rfl (Nat.le_of_ble_eq_true rfl) (pc := 60) (Ls := #[.val (.ref a1), .val (.int j1), .val (.int (0 : Int32))]) (rest := []) (hb hby own_d22_60)
    refine own_via st8 ?_
    have f9 := i_E.wr W8
    have f10 := i_Fw.other W8 (Or.inl ne_a1_w_1)
    have f11 := f4.other W8 (Or.inl ne_a1_w_1)
    have f12 := i_S1.wr W8
    have Kp13 := K0.wr W8 (Or.inl (List.mem_of_getElem? (i := 1) rfl))
    have f14 : Arv Z h8 w_1 k_1 .long (1 : Int32) [(.long (W_1 &&& (((1 : Int64) <<< (j1 &&& 0x3f).toInt64) ^^^ (-1 : Int64))))] (.long (0 : Int64)) := V8
    have Zs15 : n0 ≤ h8.size := by rw [W8.size]; exact Z0
    show own_H T8 61 #[.val (.ref a1), .val (.int j1), .val (.int (0 : Int32))] []
    clear i_E i_Fw i_A f4 i_S1 K0
    refine own_via (fun t k => XS.aloadN X8.here hx rfl (hb hby own_d22_61) rfl rfl k) ?_
    show own_H T8 62 #[.val (.ref a1), .val (.int j1), .val (.int (0 : Int32))] [(.ref a1)]
    obtain ⟨v16, T16, h16, L16, X16, N16, e16, hq16, st16⟩ := own_callR (y := (⟨"java/util/BitSet", "recalculateWordsInUse", "()V"⟩ : MethodName)) (W := 0) (a := a1) X8 N8 hx hZ hown (own_u hw 175 rfl) (own_u hw 176 rfl) (own_u hw 178 rfl) (own_u hw 177 rfl) (own_u hw 68 rfl) (own_u hw 179 rfl) (by decide) (own_rc l Z a0 hw [] a1 w_1 k_1 (W_1 &&& (((1 : Int64) <<< (j1 &&& 0x3f).toInt64) ^^^ (-1 : Int64))) h8 n0 Zs15 f9 f10 f14 f11 g_a1 ne_a1_w_1) (by decide) (by decide) (by decide) (by decide) e8 f9 (pc := 62) (Ls := #[.val (.ref a1), .val (.int j1), .val (.int (0 : Int32))]) (st := [(.ref a1)]) (argsL := []) (rest := []) (by rw [hml]; rfl) (lenOf own_pd2 rfl) rfl rfl (Nat.le_of_eq rfl) (hb hby own_d22_62)
    obtain ⟨u216, rfl, K16, o16_0, o16_1, o16_2, o16_3⟩ := hq16
    refine own_via st16 ?_
    have f18 := own_staK f12 K16 (fun x hx => by simp only [List.mem_cons, List.not_mem_nil, or_false] at hx; rcases hx with rfl <;> first | exact f9.nostat)
    have Kp20 := Kp13.trans K16 (fun x hx => by simp only [List.mem_cons, List.not_mem_nil, or_false] at hx; rcases hx with rfl <;> first | exact (Or.inl (List.mem_of_getElem? (i := 0) rfl)))
    have Zs21 : n0 ≤ h16.size := Nat.le_trans Zs15 K16.1
    show own_H T16 65 #[.val (.ref a1), .val (.int j1), .val (.int (0 : Int32))] []
    clear f9 f10 f11 f12 f14 Kp13 Zs15
    refine own_via (fun t k => XS.aloadN X16.here hx rfl (hb hby own_d22_65) rfl rfl k) ?_
    show own_H T16 66 #[.val (.ref a1), .val (.int j1), .val (.int (0 : Int32))] [(.ref a1)]
    obtain ⟨v22, T22, h22, L22, X22, N22, e22, hq22, st22⟩ := own_callR (y := (⟨"java/util/BitSet", "checkInvariants", "()V"⟩ : MethodName)) (W := 0) (a := a1) X16 N16 hx hZ hown (own_u hw 163 rfl) (own_u hw 164 rfl) (own_u hw 166 rfl) (own_u hw 165 rfl) (own_u hw 68 rfl) (own_u hw 167 rfl) (by decide) (own_ck l Z a0 hw [] a1 h16 n0 Zs21 f18) (by decide) (by decide) (by decide) (by decide) e16 o16_0 (pc := 66) (Ls := #[.val (.ref a1), .val (.int j1), .val (.int (0 : Int32))]) (st := [(.ref a1)]) (argsL := []) (rest := []) (by rw [hml]; rfl) (lenOf own_pd2 rfl) rfl rfl (Nat.le_of_eq rfl) (hb hby own_d22_66)
    obtain ⟨rfl, K22⟩ := hq22
    refine own_via st22 ?_
    have f23 := o16_0.ext (own_ke K22)
    have f25 := o16_2.ext (own_ke K22)
    have f26 := o16_1.ext (own_ke K22)
    have f27 := o16_3.ext (own_ke K22)
    have Kp28 := Kp20.trans K22 (fun x hx => nomatch hx)
    show own_H T22 69 #[.val (.ref a1), .val (.int j1), .val (.int (0 : Int32))] []
    clear o16_0 f18 o16_2 o16_1 o16_3 Kp20 Zs21
    exact own_retV X22 hx Bd.returns Bd.notSynchronized (hb hby own_d22_69) (by rw [e22]; exact ⟨N22, (W_1 &&& (((1 : Int64) <<< (j1 &&& 0x3f).toInt64) ^^^ (-1 : Int64))), u216, rfl, Kp28, f23, f26, f25, f27⟩) (by decide) (by decide)
theorem own_d17_0 : decode jdk_92_method_20_code 0 = .ok (.iload_n 2, 1) := by decide +kernel
theorem own_d17_1 : decode jdk_92_method_20_code 1 = .ok (.ifCond .eq 11, 3) := by decide +kernel
theorem own_d17_4 : decode jdk_92_method_20_code 4 = .ok (.aload_n 0, 1) := by decide +kernel
theorem own_d17_5 : decode jdk_92_method_20_code 5 = .ok (.iload_n 1, 1) := by decide +kernel
theorem own_d17_6 : decode jdk_92_method_20_code 6 = .ok (.invokevirtual 167, 3) := by decide +kernel
theorem own_d17_9 : decode jdk_92_method_20_code 9 = .ok (.goto 8, 3) := by decide +kernel
theorem own_d17_12 : decode jdk_92_method_20_code 12 = .ok (.aload_n 0, 1) := by decide +kernel
theorem own_d17_13 : decode jdk_92_method_20_code 13 = .ok (.iload_n 1, 1) := by decide +kernel
theorem own_d17_14 : decode jdk_92_method_20_code 14 = .ok (.invokevirtual 170, 3) := by decide +kernel
theorem own_d17_17 : decode jdk_92_method_20_code 17 = .ok (.return_, 1) := by decide +kernel
abbrev own_sz_R : Room := { frames := 3, cells := 0, slots := 0, locals := 42 }
theorem own_pn17 : plainFor (⟨"java/util/BitSet", "set", "(IZ)V"⟩ : MethodName) = true := plainFor_of_name (by first | (simp [plainName, overriddenIn]; done) | decide +kernel)
theorem own_sz_ef (m : MethodId) (a1 : Addr) (j1 : Int32) (z1 : Int32) : entryFrame m #[(.ref a1), (.int j1), (.int z1)] 3 = mkF m 0 #[.val (.ref a1), .val (.int j1), .val (.int z1)] [] := by first | (simp [entryFrame, mkF, argsToLocals, Value.category]; done) | rfl
def own_sz_q (Z : State) (a1 : Addr) (j1 : Int32) (z1 : Int32) (w_1 : Addr) (k_1 : ClassId) (W_1 : Int64) (u1 : Bool) (h0 : Heap) (v : Option Value) (h : Heap) : Prop := ∃ (W_2 : Int64) (u2 : Bool), v = none ∧ Keep h0 h [a1, w_1] ∧ Exa Z h a1 own_cB ∧ Fld Z h a1 own_cB "words" "[J" (.ref w_1) ∧ Arv Z h w_1 k_1 .long (1 : Int32) [(.long W_2)] (.long (0 : Int64)) ∧ Fld Z h a1 own_cB "wordsInUse" "I" (.int (own_b u2))
set_option maxRecDepth 65536 in
set_option maxHeartbeats 40000000 in
theorem own_sz (l : Launch) (Z : State) (a0 : Array Value) (hw : ∀ d ∈ tables_1, d.before a0 Z = true) (ws : List Jvm.Cond) (a1 : Addr) (j1 : Int32) (z1 : Int32) (w_1 : Addr) (k_1 : ClassId) (W_1 : Int64) (u1 : Bool) (h0 : Heap) (n0 : Nat) (Z0 : n0 ≤ h0.size) (i_E : Exa Z h0 a1 own_cB) (i_Fw : Fld Z h0 a1 own_cB "words" "[J" (.ref w_1)) (i_A : Arv Z h0 w_1 k_1 .long (1 : Int32) [(.long W_1)] (.long (0 : Int64))) (i_Fu : Fld Z h0 a1 own_cB "wordsInUse" "I" (.int (own_b u1))) (i_S1 : Sta Z h0 own_cB "$assertionsDisabled" "Z" (.int (1 : Int32))) (g_a1 : n0 ≤ a1) (g_w_1 : n0 ≤ w_1) (ne_a1_w_1 : a1 ≠ w_1) (hp_h1 : ¬ (j1 < (0 : Int32))) (hp_h2 : (own_F11 j1) = (0 : Int32)) :
    own_C l Z (⟨"java/util/BitSet", "set", "(IZ)V"⟩ : MethodName) jdk_92_method_20_code 3 none ws own_sz_R #[(.ref a1), (.int j1), (.int z1)] h0 (own_W n0 (own_sz_q Z a1 j1 z1 w_1 k_1 W_1 u1 h0)) := by
  refine MetFree.of_bodySF own_pn17 hisR ?_
  intro p e s m args below meth c s₁ Bd hml0 hP hK
  obtain ⟨rfl, hZ, hh⟩ := hP
  have hx := Bd.exec
  have hby := Bd.bytes
  have hml : c.maxLocals = 3 := hml0
  have hown : s.vm.findClass "java/util/BitSet" = some m.cls := findClass_of_methodNamed Bd.named
  have hnm := (name_of_methodNamed Bd.named Bd.method).1
  have X0 : Stand p l e own_sz_R s m #[(.ref a1), (.int j1), (.int z1)] below meth c s₁ [] 0 0 := Stand.of_body Bd
  have e0 : s₁.heap = h0 := by rw [← hh, Bd.state]; rfl
  have N0 := Fr.nil n0
  have K0 : Keep h0 h0 [a1, w_1] := Keep.refl h0 _
  show own_G p e below (own_P s (own_W n0 (own_sz_q Z a1 j1 z1 w_1 k_1 W_1 u1 h0)) own_sz_R.cells own_sz_R.slots) (s₁.setTop (entryFrame m #[(.ref a1), (.int j1), (.int z1)] 3))
  rw [own_sz_ef m a1 j1 z1]
  show own_H s₁ 0 #[.val (.ref a1), .val (.int j1), .val (.int z1)] []
  refine own_via (fun t k => XS.iloadN X0.here hx rfl (hb hby own_d17_0) rfl k) ?_
  show own_H s₁ 1 #[.val (.ref a1), .val (.int j1), .val (.int z1)] [(.int z1)]
  by_cases hc1 : z1 = (0 : Int32)
  ·
    refine own_via (fun t k => XS.ifYes X0.here hx rfl (pc0 := 1) (pc' := 12) rfl (hb hby own_d17_1) rfl ((if0 _ _).trans (teq hc1).1) (by decide) (by decide) k) ?_
    show own_H s₁ 12 #[.val (.ref a1), .val (.int j1), .val (.int z1)] []
    refine own_via (fun t k => XS.aloadN X0.here hx rfl (hb hby own_d17_12) rfl rfl k) ?_
    refine own_via (fun t k => XS.iloadN X0.here hx rfl (hb hby own_d17_13) rfl k) ?_
    show own_H s₁ 14 #[.val (.ref a1), .val (.int j1), .val (.int z1)] [(.int j1), (.ref a1)]
    obtain ⟨v2, T2, h2, L2, X2, N2, e2, hq2, st2⟩ := own_callV (y := (⟨"java/util/BitSet", "clear", "(I)V"⟩ : MethodName)) (z := (⟨"java/util/BitSet", "clear", "(I)V"⟩ : MethodName)) (W := 0) (a := a1) X0 N0 hx hZ hown (own_u hw 169 rfl) (own_u hw 170 rfl) (notFace_of_selects (args := #[]) (mvT hZ (own_u hw 172 rfl))) (own_u hw 172 rfl) (own_u hw 171 rfl) (own_u hw 68 rfl) (own_u hw 173 rfl) (by decide) (own_cl l Z a0 hw [] a1 j1 w_1 k_1 W_1 u1 h0 n0 Z0 i_E i_Fw i_A i_Fu i_S1 g_a1 g_w_1 ne_a1_w_1 hp_h1 hp_h2) (by decide) (by decide) (by decide) (by decide) e0 i_E (pc := 14) (Ls := #[.val (.ref a1), .val (.int j1), .val (.int z1)]) (st := [(.int j1), (.ref a1)]) (argsL := [(.int j1)]) (rest := []) (by rw [hml]; rfl) (lenOf own_pd1 rfl) rfl rfl (Nat.le_of_eq rfl) (hb hby own_d17_14)
    obtain ⟨W_22, u22, rfl, K2, o2_0, o2_1, o2_2, o2_3⟩ := hq2
    refine own_via st2 ?_
    have Kp5 := K0.trans K2 (fun x hx => by simp only [List.mem_cons, List.not_mem_nil, or_false] at hx; rcases hx with rfl | rfl <;> first | exact (Or.inl (List.mem_of_getElem? (i := 0) rfl)) | exact (Or.inl (List.mem_of_getElem? (i := 1) rfl)))
    show own_H T2 17 #[.val (.ref a1), .val (.int j1), .val (.int z1)] []
    clear i_E i_Fw i_A i_Fu i_S1 K0
    exact own_retV X2 hx Bd.returns Bd.notSynchronized (hb hby own_d17_17) (by rw [e2]; exact ⟨N2, W_22, u22, rfl, Kp5, o2_0, o2_1, o2_2, o2_3⟩) (by decide) (by decide)
  ·
    refine own_via (fun t k => XS.ifNo X0.here hx rfl (hb hby own_d17_1) rfl ((if0 _ _).trans (feq hc1).1) k) ?_
    show own_H s₁ 4 #[.val (.ref a1), .val (.int j1), .val (.int z1)] []
    refine own_via (fun t k => XS.aloadN X0.here hx rfl (hb hby own_d17_4) rfl rfl k) ?_
    refine own_via (fun t k => XS.iloadN X0.here hx rfl (hb hby own_d17_5) rfl k) ?_
    show own_H s₁ 6 #[.val (.ref a1), .val (.int j1), .val (.int z1)] [(.int j1), (.ref a1)]
    obtain ⟨v7, T7, h7, L7, X7, N7, e7, hq7, st7⟩ := own_callV (y := (⟨"java/util/BitSet", "set", "(I)V"⟩ : MethodName)) (z := (⟨"java/util/BitSet", "set", "(I)V"⟩ : MethodName)) (W := 0) (a := a1) X0 N0 hx hZ hown (own_u hw 148 rfl) (own_u hw 149 rfl) (notFace_of_selects (args := #[]) (mvT hZ (own_u hw 151 rfl))) (own_u hw 151 rfl) (own_u hw 150 rfl) (own_u hw 68 rfl) (own_u hw 152 rfl) (by decide) (own_se l Z a0 hw [] a1 j1 w_1 k_1 W_1 u1 h0 n0 Z0 i_E i_Fw i_A i_Fu i_S1 g_a1 g_w_1 ne_a1_w_1 hp_h1 hp_h2) (by decide) (by decide) (by decide) (by decide) e0 i_E (pc := 6) (Ls := #[.val (.ref a1), .val (.int j1), .val (.int z1)]) (st := [(.int j1), (.ref a1)]) (argsL := [(.int j1)]) (rest := []) (by rw [hml]; rfl) (lenOf own_pd1 rfl) rfl rfl (Nat.le_of_eq rfl) (hb hby own_d17_6)
    obtain ⟨W_27, u27, rfl, K7, o7_0, o7_1, o7_2, o7_3⟩ := hq7
    refine own_via st7 ?_
    have Kp10 := K0.trans K7 (fun x hx => by simp only [List.mem_cons, List.not_mem_nil, or_false] at hx; rcases hx with rfl | rfl <;> first | exact (Or.inl (List.mem_of_getElem? (i := 0) rfl)) | exact (Or.inl (List.mem_of_getElem? (i := 1) rfl)))
    show own_H T7 9 #[.val (.ref a1), .val (.int j1), .val (.int z1)] []
    clear i_E i_Fw i_A i_Fu i_S1 K0
    refine own_via (fun t k => XS.goto X7.here hx rfl (pc0 := 9) (pc' := 17) rfl (hb hby own_d17_9) (by decide) (by decide) k) ?_
    show own_H T7 17 #[.val (.ref a1), .val (.int j1), .val (.int z1)] []
    exact own_retV X7 hx Bd.returns Bd.notSynchronized (hb hby own_d17_17) (by rw [e7]; exact ⟨N7, W_27, u27, rfl, Kp10, o7_0, o7_1, o7_2, o7_3⟩) (by decide) (by decide)
theorem own_d12_0 : decode prog_27_method_1_code 0 = .ok (.aload_n 0, 1) := by decide +kernel
theorem own_d12_1 : decode prog_27_method_1_code 1 = .ok (.invokespecial 1, 3) := by decide +kernel
theorem own_d12_4 : decode prog_27_method_1_code 4 = .ok (.aload_n 0, 1) := by decide +kernel
theorem own_d12_5 : decode prog_27_method_1_code 5 = .ok (.ldc2_w 7, 3) := by decide +kernel
theorem own_d12_8 : decode prog_27_method_1_code 8 = .ok (.putfield 9, 3) := by decide +kernel
theorem own_d12_11 : decode prog_27_method_1_code 11 = .ok (.aload_n 0, 1) := by decide +kernel
theorem own_d12_12 : decode prog_27_method_1_code 12 = .ok (.new 15, 3) := by decide +kernel
theorem own_d12_15 : decode prog_27_method_1_code 15 = .ok (.dup, 1) := by decide +kernel
theorem own_d12_16 : decode prog_27_method_1_code 16 = .ok (.invokespecial 17, 3) := by decide +kernel
theorem own_d12_19 : decode prog_27_method_1_code 19 = .ok (.putfield 18, 3) := by decide +kernel
theorem own_d12_22 : decode prog_27_method_1_code 22 = .ok (.return_, 1) := by decide +kernel
abbrev own_si_R : Room := { frames := 3, cells := 2, slots := 4, locals := 40 }
theorem own_pn12 : plainFor (⟨"com/example/dissoc/dissoc/mincut/Flow$Side", "<init>", "()V"⟩ : MethodName) = true := plainFor_of_name (by first | (simp [plainName, overriddenIn]; done) | decide +kernel)
theorem own_si_ef (m : MethodId) (a1 : Addr) : entryFrame m #[(.ref a1)] 1 = mkF m 0 #[.val (.ref a1)] [] := by first | (simp [entryFrame, mkF, argsToLocals, Value.category]; done) | rfl
def own_si_q (Z : State) (a1 : Addr) (u1 : Value) (u2 : Value) (h0 : Heap) (v : Option Value) (h : Heap) : Prop := v = none ∧ Keep h0 h [a1]
set_option maxRecDepth 65536 in
set_option maxHeartbeats 40000000 in
theorem own_si (l : Launch) (Z : State) (a0 : Array Value) (hw : ∀ d ∈ tables_1, d.before a0 Z = true) (ws : List Jvm.Cond) (a1 : Addr) (u1 : Value) (u2 : Value) (h0 : Heap) (n0 : Nat) (Z0 : n0 ≤ h0.size) (i_E1 : Exa Z h0 a1 own_cS) (i_F1 : Fld Z h0 a1 own_cS "version" "J" u1) (i_F2 : Fld Z h0 a1 own_cS "nodes" own_dB u2) (g_a1 : n0 ≤ a1) :
    own_C l Z (⟨"com/example/dissoc/dissoc/mincut/Flow$Side", "<init>", "()V"⟩ : MethodName) prog_27_method_1_code 1 none ws own_si_R #[(.ref a1)] h0 (own_W n0 (own_si_q Z a1 u1 u2 h0)) := by
  refine MetFree.of_bodySF own_pn12 hisR ?_
  intro p e s m args below meth c s₁ Bd hml0 hP hK
  obtain ⟨rfl, hZ, hh⟩ := hP
  have hx := Bd.exec
  have hby := Bd.bytes
  have hml : c.maxLocals = 1 := hml0
  have hown : s.vm.findClass "com/example/dissoc/dissoc/mincut/Flow$Side" = some m.cls := findClass_of_methodNamed Bd.named
  have hnm := (name_of_methodNamed Bd.named Bd.method).1
  have X0 : Stand p l e own_si_R s m #[(.ref a1)] below meth c s₁ [] 0 0 := Stand.of_body Bd
  have e0 : s₁.heap = h0 := by rw [← hh, Bd.state]; rfl
  have N0 := Fr.nil n0
  have K0 : Keep h0 h0 [a1] := Keep.refl h0 _
  show own_G p e below (own_P s (own_W n0 (own_si_q Z a1 u1 u2 h0)) own_si_R.cells own_si_R.slots) (s₁.setTop (entryFrame m #[(.ref a1)] 1))
  rw [own_si_ef m a1]
  show own_H s₁ 0 #[.val (.ref a1)] []
  refine own_via (fun t k => XS.aloadN X0.here hx rfl (hb hby own_d12_0) rfl rfl k) ?_
  show own_H s₁ 1 #[.val (.ref a1)] [(.ref a1)]
  obtain ⟨T1, X1, e1, st1⟩ := initO X0 hx hZ hown (own_u hw 102 rfl) (own_u hw 8 rfl) (own_u hw 9 rfl) e0 (g := (mkF m 1 #[.val (.ref a1)] [(.ref a1)])) rfl (by rw [hml]; rfl) rfl (hb hby own_d12_1) (by decide) (W := 0) (by show 2 * 0 + _ ≤ _; exact Nat.le_of_eq rfl) (by decide)
  refine own_via st1 ?_
  show own_H T1 4 #[.val (.ref a1)] []
  refine own_via (fun t k => XS.aloadN X1.here hx rfl (hb hby own_d12_4) rfl rfl k) ?_
  show own_H T1 5 #[.val (.ref a1)] [(.ref a1)]
  refine own_via (X1.ldc2Long hx hown (mvT hZ (own_u hw 103 rfl)) (g := (mkF m 5 #[.val (.ref a1)] [(.ref a1)])) rfl (hb hby own_d12_5)) ?_
  show own_H T1 8 #[.val (.ref a1)] [(.long (-1 : Int64)), (.ref a1)]
  obtain ⟨T2, h2, L2, X2, N2, e2, W2, F2, st2⟩ := own_putF X1 N0 hx hZ hown (own_u hw 104 rfl) e1 i_F1 i_E1 (Or.inl (own_u hw 105 rfl)) (own_u hw 97 rfl) g_a1 (ty := .long) (v := (.long (-1 : Int64))) (by decide) rfl rfl (pc := 8) (Ls := #[.val (.ref a1)]) (rest := []) (hb hby own_d12_8)
  refine own_via st2 ?_
  have f3 := i_E1.wr W2
  have f4 := i_F2.other W2 (Or.inr (slot_ne (Or.inl (own_u hw 109 rfl)) (Or.inl (own_u hw 105 rfl)) (by decide) rfl rfl))
  have Kp5 := K0.wr W2 (Or.inl (List.mem_of_getElem? (i := 0) rfl))
  have Zs6 : n0 ≤ h2.size := by rw [W2.size]; exact Z0
  show own_H T2 11 #[.val (.ref a1)] []
  clear i_E1 i_F1 i_F2 K0
  refine own_via (fun t k => XS.aloadN X2.here hx rfl (hb hby own_d12_11) rfl rfl k) ?_
  show own_H T2 12 #[.val (.ref a1)] [(.ref a1)]
  obtain ⟨T7, h7, b7, X7, e7, E7, ga7, A7, D7, st7⟩ := own_newO X2 hx hZ hown (own_u hw 106 rfl) (own_u hw 67 rfl) (own_u hw 68 rfl) e2 (pc := 12) (Ls := #[.val (.ref a1)]) (rest := [(.ref a1)]) (hb hby own_d12_12) (by decide) (by decide)
  refine own_via st7 ?_
  have sz_b7 : h0.size ≤ b7 := Nat.le_trans Kp5.1 (Nat.le_of_eq ga7.symm)
  have ne8 : a1 ≠ b7 := Nat.ne_of_lt (Nat.lt_of_lt_of_le f3.lt (Nat.le_of_eq ga7.symm))
  have f9 := f3.ext E7
  have f10 := f4.ext E7
  have Kp12 := Kp5.ext E7
  have f13 : Fld Z h7 b7 own_cB "wordsInUse" "I" (.int (0 : Int32)) := D7 (Or.inl (own_u hw 74 rfl)) (ty := .int) (by decide)
  have f14 : Fld Z h7 b7 own_cB "sizeIsSticky" "Z" (.int (0 : Int32)) := D7 (Or.inl (own_u hw 76 rfl)) (ty := .boolean) (by decide)
  have f15 : Fld Z h7 b7 own_cB "words" "[J" .null := D7 (Or.inl (own_u hw 87 rfl)) (ty := (.array .long)) (by decide)
  have g_b7 : n0 ≤ b7 := Nat.le_trans Zs6 (Nat.le_of_eq ga7.symm)
  have Zs16 : n0 ≤ h7.size := Nat.le_trans Zs6 E7.1
  show own_H T7 15 #[.val (.ref a1)] [(.ref b7), (.ref a1)]
  clear f3 f4 F2 Kp5 Zs6
  refine own_via (fun t k => XS.dup X7.here hx rfl (hb hby own_d12_15) rfl rfl k) ?_
  show own_H T7 16 #[.val (.ref a1)] [(.ref b7), (.ref b7), (.ref a1)]
  obtain ⟨v17, T17, h17, L17, X17, N17, e17, hq17, st17⟩ := own_callI (y := (⟨"java/util/BitSet", "<init>", "()V"⟩ : MethodName)) (W := 2) (a := b7) X7 N2 hx hZ rfl hown (own_u hw 107 rfl) (own_u hw 70 rfl) (own_u hw 68 rfl) (own_u hw 71 rfl) (by decide) (own_bi l Z a0 hw [] b7 (.null) (.int (0 : Int32)) (.int (0 : Int32)) h7 n0 Zs16 A7 f15 f13 f14 g_b7) (by decide) (by decide) (by decide) (by decide) e7 (pc := 16) (Ls := #[.val (.ref a1)]) (st := [(.ref b7), (.ref b7), (.ref a1)]) (argsL := []) (rest := [(.ref b7), (.ref a1)]) (by rw [hml]; rfl) (lenOf own_pd2 rfl) rfl rfl (Nat.le_of_eq rfl) (hb hby own_d12_16)
  obtain ⟨x17, kx17, rfl, K17, zf_x17, o17_0, o17_1, o17_2, o17_3⟩ := hq17
  refine own_via st17 ?_
  have f20 := f9.keep K17
  have f21 := f10.keep K17 (by simp only [List.mem_cons, List.not_mem_nil, or_false, not_or]; exact ne8)
  have Kp24 := Kp12.trans K17 (fun x hx => by simp only [List.mem_cons, List.not_mem_nil, or_false] at hx; rcases hx with rfl <;> first | exact (Or.inr sz_b7))
  show own_H T17 19 #[.val (.ref a1)] [(.ref b7), (.ref a1)]
  clear f9 f10 A7 f13 f14 f15 Kp12 Zs16
  obtain ⟨T26, h26, L26, X26, N26, e26, W26, F26, st26⟩ := own_putF X17 N17 hx hZ hown (own_u hw 108 rfl) e17 f21 f20 (Or.inl (own_u hw 109 rfl)) (own_u hw 97 rfl) g_a1 (ty := (.object "java/util/BitSet")) (v := (.ref b7)) (by decide) rfl rfl (pc := 19) (Ls := #[.val (.ref a1)]) (rest := []) (hb hby own_d12_19)
  refine own_via st26 ?_
  have Kp33 := Kp24.wr W26 (Or.inl (List.mem_of_getElem? (i := 0) rfl))
  show own_H T26 22 #[.val (.ref a1)] []
  clear f20 f21 o17_0 o17_1 o17_2 o17_3 Kp24
  exact own_retV X26 hx Bd.returns Bd.notSynchronized (hb hby own_d12_22) (by rw [e26]; exact ⟨N26, rfl, Kp33⟩) (by decide) (by decide)
theorem own_d16_0 : decode prog_24_method_20_code 0 = .ok (.aload_n 0, 1) := by decide +kernel
theorem own_d16_1 : decode prog_24_method_20_code 1 = .ok (.getfield 40, 3) := by decide +kernel
theorem own_d16_4 : decode prog_24_method_20_code 4 = .ok (.iload_n 1, 1) := by decide +kernel
theorem own_d16_5 : decode prog_24_method_20_code 5 = .ok (.iload_n 2, 1) := by decide +kernel
theorem own_d16_6 : decode prog_24_method_20_code 6 = .ok (.iastore, 1) := by decide +kernel
theorem own_d16_7 : decode prog_24_method_20_code 7 = .ok (.aload_n 0, 1) := by decide +kernel
theorem own_d16_8 : decode prog_24_method_20_code 8 = .ok (.getfield 10, 3) := by decide +kernel
theorem own_d16_11 : decode prog_24_method_20_code 11 = .ok (.iload_n 1, 1) := by decide +kernel
theorem own_d16_12 : decode prog_24_method_20_code 12 = .ok (.iload_n 2, 1) := by decide +kernel
theorem own_d16_13 : decode prog_24_method_20_code 13 = .ok (.ifCond .le 7, 3) := by decide +kernel
theorem own_d16_16 : decode prog_24_method_20_code 16 = .ok (.iconst 1, 1) := by decide +kernel
theorem own_d16_17 : decode prog_24_method_20_code 17 = .ok (.goto 4, 3) := by decide +kernel
theorem own_d16_20 : decode prog_24_method_20_code 20 = .ok (.iconst 0, 1) := by decide +kernel
theorem own_d16_21 : decode prog_24_method_20_code 21 = .ok (.invokevirtual 240, 3) := by decide +kernel
theorem own_d16_24 : decode prog_24_method_20_code 24 = .ok (.aload_n 0, 1) := by decide +kernel
theorem own_d16_25 : decode prog_24_method_20_code 25 = .ok (.getfield 16, 3) := by decide +kernel
theorem own_d16_28 : decode prog_24_method_20_code 28 = .ok (.aload_n 0, 1) := by decide +kernel
theorem own_d16_29 : decode prog_24_method_20_code 29 = .ok (.getfield 61, 3) := by decide +kernel
theorem own_d16_32 : decode prog_24_method_20_code 32 = .ok (.iload_n 1, 1) := by decide +kernel
theorem own_d16_33 : decode prog_24_method_20_code 33 = .ok (.iaload, 1) := by decide +kernel
theorem own_d16_34 : decode prog_24_method_20_code 34 = .ok (.iload_n 2, 1) := by decide +kernel
theorem own_d16_35 : decode prog_24_method_20_code 35 = .ok (.ifCond .le 7, 3) := by decide +kernel
theorem own_d16_38 : decode prog_24_method_20_code 38 = .ok (.iconst 1, 1) := by decide +kernel
theorem own_d16_39 : decode prog_24_method_20_code 39 = .ok (.goto 4, 3) := by decide +kernel
theorem own_d16_42 : decode prog_24_method_20_code 42 = .ok (.iconst 0, 1) := by decide +kernel
theorem own_d16_43 : decode prog_24_method_20_code 43 = .ok (.invokevirtual 240, 3) := by decide +kernel
theorem own_d16_46 : decode prog_24_method_20_code 46 = .ok (.return_, 1) := by decide +kernel
abbrev own_sr0_R : Room := { frames := 4, cells := 0, slots := 0, locals := 56 }
theorem own_pn16 : plainFor (⟨"com/example/dissoc/dissoc/mincut/Flow", "setResidual", "(II)V"⟩ : MethodName) = true := plainFor_of_name (by first | (simp [plainName, overriddenIn]; done) | decide +kernel)
theorem own_sr0_ef (m : MethodId) (a1 : Addr) (r0 : Int32) : entryFrame m #[(.ref a1), (.int (0 : Int32)), (.int r0)] 3 = mkF m 0 #[.val (.ref a1), .val (.int (0 : Int32)), .val (.int r0)] [] := by first | (simp [entryFrame, mkF, argsToLocals, Value.category]; done) | rfl
def own_sr0_q (Z : State) (a1 : Addr) (r0 : Int32) (ra : Addr) (va : Addr) (b_1 : Addr) (w_1 : Addr) (b_2 : Addr) (w_2 : Addr) (kr : ClassId) (kv : ClassId) (k_1 : ClassId) (k_2 : ClassId) (W_1 : Int64) (W_2 : Int64) (u1 : Bool) (u2 : Bool) (r1 : Int32) (r2 : Int32) (r3 : Int32) (v_0 : Int32) (v_1 : Int32) (v_2 : Int32) (v_3 : Int32) (h0 : Heap) (v : Option Value) (h : Heap) : Prop := ∃ (W_3 : Int64) (u3 : Bool) (W_4 : Int64) (u4 : Bool), v = none ∧ Keep h0 h [ra, b_1, w_1, b_2, w_2] ∧ Arv Z h ra kr .int (4 : Int32) [(.int r0), (.int r1), (.int r2), (.int r3)] (.int (0 : Int32)) ∧ Exa Z h b_1 own_cB ∧ Fld Z h b_1 own_cB "words" "[J" (.ref w_1) ∧ Arv Z h w_1 k_1 .long (1 : Int32) [(.long W_3)] (.long (0 : Int64)) ∧ Fld Z h b_1 own_cB "wordsInUse" "I" (.int (own_b u3)) ∧ Exa Z h b_2 own_cB ∧ Fld Z h b_2 own_cB "words" "[J" (.ref w_2) ∧ Arv Z h w_2 k_2 .long (1 : Int32) [(.long W_4)] (.long (0 : Int64)) ∧ Fld Z h b_2 own_cB "wordsInUse" "I" (.int (own_b u4))
set_option maxRecDepth 65536 in
set_option maxHeartbeats 40000000 in
theorem own_sr0 (l : Launch) (Z : State) (a0 : Array Value) (hw : ∀ d ∈ tables_1, d.before a0 Z = true) (ws : List Jvm.Cond) (a1 : Addr) (r0 : Int32) (ra : Addr) (va : Addr) (b_1 : Addr) (w_1 : Addr) (b_2 : Addr) (w_2 : Addr) (kr : ClassId) (kv : ClassId) (k_1 : ClassId) (k_2 : ClassId) (W_1 : Int64) (W_2 : Int64) (u1 : Bool) (u2 : Bool) (r1 : Int32) (r2 : Int32) (r3 : Int32) (v_0 : Int32) (v_1 : Int32) (v_2 : Int32) (v_3 : Int32) (h0 : Heap) (n0 : Nat) (Z0 : n0 ≤ h0.size) (i_Ea : Exa Z h0 a1 own_cF) (i_Fr : Fld Z h0 a1 own_cF "residual" "[I" (.ref ra)) (i_Fv : Fld Z h0 a1 own_cF "reverse" "[I" (.ref va)) (i_Fo : Fld Z h0 a1 own_cF "open" own_dB (.ref b_1)) (i_Fq : Fld Z h0 a1 own_cF "openReverse" own_dB (.ref b_2)) (i_Ar : Arv Z h0 ra kr .int (4 : Int32) [(.int r0), (.int r1), (.int r2), (.int r3)] (.int (0 : Int32))) (i_Av : Arv Z h0 va kv .int (4 : Int32) [(.int v_0), (.int v_1), (.int v_2), (.int v_3)] (.int (0 : Int32))) (i_E1 : Exa Z h0 b_1 own_cB) (i_Fw1 : Fld Z h0 b_1 own_cB "words" "[J" (.ref w_1)) (i_A1 : Arv Z h0 w_1 k_1 .long (1 : Int32) [(.long W_1)] (.long (0 : Int64))) (i_Fu1 : Fld Z h0 b_1 own_cB "wordsInUse" "I" (.int (own_b u1))) (i_E2 : Exa Z h0 b_2 own_cB) (i_Fw2 : Fld Z h0 b_2 own_cB "words" "[J" (.ref w_2)) (i_A2 : Arv Z h0 w_2 k_2 .long (1 : Int32) [(.long W_2)] (.long (0 : Int64))) (i_Fu2 : Fld Z h0 b_2 own_cB "wordsInUse" "I" (.int (own_b u2))) (i_S1 : Sta Z h0 own_cB "$assertionsDisabled" "Z" (.int (1 : Int32))) (g_ra : n0 ≤ ra) (g_b_1 : n0 ≤ b_1) (g_w_1 : n0 ≤ w_1) (g_b_2 : n0 ≤ b_2) (g_w_2 : n0 ≤ w_2) (ne_a1_ra : a1 ≠ ra) (ne_a1_va : a1 ≠ va) (ne_a1_b_1 : a1 ≠ b_1) (ne_a1_w_1 : a1 ≠ w_1) (ne_a1_b_2 : a1 ≠ b_2) (ne_a1_w_2 : a1 ≠ w_2) (ne_ra_va : ra ≠ va) (ne_ra_b_1 : ra ≠ b_1) (ne_ra_w_1 : ra ≠ w_1) (ne_ra_b_2 : ra ≠ b_2) (ne_ra_w_2 : ra ≠ w_2) (ne_va_b_1 : va ≠ b_1) (ne_va_w_1 : va ≠ w_1) (ne_va_b_2 : va ≠ b_2) (ne_va_w_2 : va ≠ w_2) (ne_b_1_w_1 : b_1 ≠ w_1) (ne_b_1_b_2 : b_1 ≠ b_2) (ne_b_1_w_2 : b_1 ≠ w_2) (ne_w_1_b_2 : w_1 ≠ b_2) (ne_w_1_w_2 : w_1 ≠ w_2) (ne_b_2_w_2 : b_2 ≠ w_2) (hp_h1 : ¬ (v_0 < (0 : Int32))) (hp_h2 : (own_F11 v_0) = (0 : Int32)) :
    own_C l Z (⟨"com/example/dissoc/dissoc/mincut/Flow", "setResidual", "(II)V"⟩ : MethodName) prog_24_method_20_code 3 none ws own_sr0_R #[(.ref a1), (.int (0 : Int32)), (.int r0)] h0 (own_W n0 (own_sr0_q Z a1 r0 ra va b_1 w_1 b_2 w_2 kr kv k_1 k_2 W_1 W_2 u1 u2 r1 r2 r3 v_0 v_1 v_2 v_3 h0)) := by
  refine MetFree.of_bodySF own_pn16 hisR ?_
  intro p e s m args below meth c s₁ Bd hml0 hP hK
  obtain ⟨rfl, hZ, hh⟩ := hP
  have hx := Bd.exec
  have hby := Bd.bytes
  have hml : c.maxLocals = 3 := hml0
  have hown : s.vm.findClass "com/example/dissoc/dissoc/mincut/Flow" = some m.cls := findClass_of_methodNamed Bd.named
  have hnm := (name_of_methodNamed Bd.named Bd.method).1
  have X0 : Stand p l e own_sr0_R s m #[(.ref a1), (.int (0 : Int32)), (.int r0)] below meth c s₁ [] 0 0 := Stand.of_body Bd
  have e0 : s₁.heap = h0 := by rw [← hh, Bd.state]; rfl
  have N0 := Fr.nil n0
  have K0 : Keep h0 h0 [ra, b_1, w_1, b_2, w_2] := Keep.refl h0 _
  show own_G p e below (own_P s (own_W n0 (own_sr0_q Z a1 r0 ra va b_1 w_1 b_2 w_2 kr kv k_1 k_2 W_1 W_2 u1 u2 r1 r2 r3 v_0 v_1 v_2 v_3 h0)) own_sr0_R.cells own_sr0_R.slots) (s₁.setTop (entryFrame m #[(.ref a1), (.int (0 : Int32)), (.int r0)] 3))
  rw [own_sr0_ef m a1 r0]
  show own_H s₁ 0 #[.val (.ref a1), .val (.int (0 : Int32)), .val (.int r0)] []
  refine own_via (fun t k => XS.aloadN X0.here hx rfl (hb hby own_d16_0) rfl rfl k) ?_
  show own_H s₁ 1 #[.val (.ref a1), .val (.int (0 : Int32)), .val (.int r0)] [(.ref a1)]
  obtain ⟨T1, X1, e1, st1⟩ := getF X0 hx hZ hown (host := "") (Or.inl (own_u hw 116 rfl)) Via.refl e0 i_Fr (g := (mkF m 1 #[.val (.ref a1), .val (.int (0 : Int32)), .val (.int r0)] [(.ref a1)])) rfl rfl (hb hby own_d16_1)
  refine own_via st1 ?_
  show own_H T1 4 #[.val (.ref a1), .val (.int (0 : Int32)), .val (.int r0)] [(.ref ra)]
  refine own_via (fun t k => XS.iloadN X1.here hx rfl (hb hby own_d16_4) rfl k) ?_
  refine own_via (fun t k => XS.iloadN X1.here hx rfl (hb hby own_d16_5) rfl k) ?_
  show own_H T1 6 #[.val (.ref a1), .val (.int (0 : Int32)), .val (.int r0)] [(.int r0), (.int (0 : Int32)), (.ref ra)]
  obtain ⟨T2, h2, L2, X2, N2, e2, W2, V2, st2⟩ := own_stI X1 N0 hx hZ e1 i_Ar g_ra (j := (0 : Int32)) (x := r0) (i := 0) ⟨by decide, by decide⟩ rfl (Nat.le_of_ble_eq_true rfl) (pc := 6) (Ls := #[.val (.ref a1), .val (.int (0 : Int32)), .val (.int r0)]) (rest := []) (hb hby own_d16_6)
  refine own_via st2 ?_
  have f5 := i_Fv.other W2 (Or.inl ne_a1_ra)
  have f6 := i_Fo.other W2 (Or.inl ne_a1_ra)
  have f7 := i_Fq.other W2 (Or.inl ne_a1_ra)
  have f8 := i_Av.other W2 (Ne.symm ne_ra_va)
  have f9 := i_E1.wr W2
  have f10 := i_Fw1.other W2 (Or.inl (Ne.symm ne_ra_b_1))
  have f11 := i_A1.other W2 (Ne.symm ne_ra_w_1)
  have f12 := i_Fu1.other W2 (Or.inl (Ne.symm ne_ra_b_1))
  have f13 := i_E2.wr W2
  have f14 := i_Fw2.other W2 (Or.inl (Ne.symm ne_ra_b_2))
  have f15 := i_A2.other W2 (Ne.symm ne_ra_w_2)
  have f16 := i_Fu2.other W2 (Or.inl (Ne.symm ne_ra_b_2))
  have f17 := i_S1.wr W2
  have Kp18 := K0.wr W2 (Or.inl (List.mem_of_getElem? (i := 0) rfl))
  have f19 : Arv Z h2 ra kr .int (4 : Int32) [(.int r0), (.int r1), (.int r2), (.int r3)] (.int (0 : Int32)) := V2
  have Zs20 : n0 ≤ h2.size := by rw [W2.size]; exact Z0
  show own_H T2 7 #[.val (.ref a1), .val (.int (0 : Int32)), .val (.int r0)] []
  clear i_Ea i_Fr i_Fv i_Fo i_Fq i_Ar i_Av i_E1 i_Fw1 i_A1 i_Fu1 i_E2 i_Fw2 i_A2 i_Fu2 i_S1 K0
  refine own_via (fun t k => XS.aloadN X2.here hx rfl (hb hby own_d16_7) rfl rfl k) ?_
  show own_H T2 8 #[.val (.ref a1), .val (.int (0 : Int32)), .val (.int r0)] [(.ref a1)]
  obtain ⟨T21, X21, e21, st21⟩ := getF X2 hx hZ hown (host := "") (Or.inl (own_u hw 88 rfl)) Via.refl e2 f6 (g := (mkF m 8 #[.val (.ref a1), .val (.int (0 : Int32)), .val (.int r0)] [(.ref a1)])) rfl rfl (hb hby own_d16_8)
  refine own_via st21 ?_
  show own_H T21 11 #[.val (.ref a1), .val (.int (0 : Int32)), .val (.int r0)] [(.ref b_1)]
  refine own_via (fun t k => XS.iloadN X21.here hx rfl (hb hby own_d16_11) rfl k) ?_
  refine own_via (fun t k => XS.iloadN X21.here hx rfl (hb hby own_d16_12) rfl k) ?_
  show own_H T21 13 #[.val (.ref a1), .val (.int (0 : Int32)), .val (.int r0)] [(.int r0), (.int (0 : Int32)), (.ref b_1)]
  have J22 : ∀ (TJ22 : State) (XJ22 : Stand p l e own_sr0_R s m #[(.ref a1), (.int (0 : Int32)), (.int r0)] below meth c TJ22 L2 0 0) (EJ22 : TJ22.heap = h2) (zj23 : Int32), zj23 = (if (0 : Int32) < r0 then (1 : Int32) else (0 : Int32)) → own_G p e below (own_P s (own_W n0 (own_sr0_q Z a1 r0 ra va b_1 w_1 b_2 w_2 kr kv k_1 k_2 W_1 W_2 u1 u2 r1 r2 r3 v_0 v_1 v_2 v_3 h0)) own_sr0_R.cells own_sr0_R.slots) (TJ22.setTop (mkF m 21 #[.val (.ref a1), .val (.int (0 : Int32)), .val (.int r0)] [(.int zj23), (.int (0 : Int32)), (.ref b_1)])) := by
    intro TJ22 XJ22 EJ22 zj23 hzj23
    obtain ⟨v24, T24, h24, L24, X24, N24, e24, hq24, st24⟩ := own_callV (y := (⟨"java/util/BitSet", "set", "(IZ)V"⟩ : MethodName)) (z := (⟨"java/util/BitSet", "set", "(IZ)V"⟩ : MethodName)) (W := 0) (a := b_1) XJ22 N2 hx hZ hown (own_u hw 143 rfl) (own_u hw 144 rfl) (notFace_of_selects (args := #[]) (mvT hZ (own_u hw 146 rfl))) (own_u hw 146 rfl) (own_u hw 145 rfl) (own_u hw 68 rfl) (own_u hw 147 rfl) (by decide) (own_sz l Z a0 hw [] b_1 (0 : Int32) zj23 w_1 k_1 W_1 u1 h2 n0 Zs20 f9 f10 f11 f12 f17 g_b_1 g_w_1 ne_b_1_w_1 (by decide) (by decide)) (by decide) (by decide) (by decide) (by decide) EJ22 f9 (pc := 21) (Ls := #[.val (.ref a1), .val (.int (0 : Int32)), .val (.int r0)]) (st := [(.int zj23), (.int (0 : Int32)), (.ref b_1)]) (argsL := [(.int (0 : Int32)), (.int zj23)]) (rest := []) (by rw [hml]; rfl) (lenOf own_pd3 rfl) rfl rfl (Nat.le_of_eq rfl) (hb hby own_d16_21)
    obtain ⟨W_224, u224, rfl, K24, o24_0, o24_1, o24_2, o24_3⟩ := hq24
    refine own_via st24 ?_
    have f27 := f5.keep K24 (by simp only [List.mem_cons, List.not_mem_nil, or_false, not_or]; exact ⟨ne_a1_b_1, ne_a1_w_1⟩)
    have f29 := f7.keep K24 (by simp only [List.mem_cons, List.not_mem_nil, or_false, not_or]; exact ⟨ne_a1_b_1, ne_a1_w_1⟩)
    have f30 := f8.keep K24 (by simp only [List.mem_cons, List.not_mem_nil, or_false, not_or]; exact ⟨ne_va_b_1, ne_va_w_1⟩)
    have f32 := f13.keep K24
    have f33 := f14.keep K24 (by simp only [List.mem_cons, List.not_mem_nil, or_false, not_or]; exact ⟨(Ne.symm ne_b_1_b_2), (Ne.symm ne_w_1_b_2)⟩)
    have f34 := f15.keep K24 (by simp only [List.mem_cons, List.not_mem_nil, or_false, not_or]; exact ⟨(Ne.symm ne_b_1_w_2), (Ne.symm ne_w_1_w_2)⟩)
    have f35 := f16.keep K24 (by simp only [List.mem_cons, List.not_mem_nil, or_false, not_or]; exact ⟨(Ne.symm ne_b_1_b_2), (Ne.symm ne_w_1_b_2)⟩)
    have f36 := own_staK f17 K24 (fun x hx => by simp only [List.mem_cons, List.not_mem_nil, or_false] at hx; rcases hx with rfl | rfl <;> first | exact f9.nostat | exact f11.nostat)
    have f37 := f19.keep K24 (by simp only [List.mem_cons, List.not_mem_nil, or_false, not_or]; exact ⟨ne_ra_b_1, ne_ra_w_1⟩)
    have Kp38 := Kp18.trans K24 (fun x hx => by simp only [List.mem_cons, List.not_mem_nil, or_false] at hx; rcases hx with rfl | rfl <;> first | exact (Or.inl (List.mem_of_getElem? (i := 1) rfl)) | exact (Or.inl (List.mem_of_getElem? (i := 2) rfl)))
    have Zs39 : n0 ≤ h24.size := Nat.le_trans Zs20 K24.1
    show own_H T24 24 #[.val (.ref a1), .val (.int (0 : Int32)), .val (.int r0)] []
    clear f5 f6 f7 f8 f9 f10 f11 f12 f13 f14 f15 f16 f17 f19 Kp18 Zs20
    refine own_via (fun t k => XS.aloadN X24.here hx rfl (hb hby own_d16_24) rfl rfl k) ?_
    show own_H T24 25 #[.val (.ref a1), .val (.int (0 : Int32)), .val (.int r0)] [(.ref a1)]
    obtain ⟨T40, X40, e40, st40⟩ := getF X24 hx hZ hown (host := "") (Or.inl (own_u hw 90 rfl)) Via.refl e24 f29 (g := (mkF m 25 #[.val (.ref a1), .val (.int (0 : Int32)), .val (.int r0)] [(.ref a1)])) rfl rfl (hb hby own_d16_25)
    refine own_via st40 ?_
    show own_H T40 28 #[.val (.ref a1), .val (.int (0 : Int32)), .val (.int r0)] [(.ref b_2)]
    refine own_via (fun t k => XS.aloadN X40.here hx rfl (hb hby own_d16_28) rfl rfl k) ?_
    show own_H T40 29 #[.val (.ref a1), .val (.int (0 : Int32)), .val (.int r0)] [(.ref a1), (.ref b_2)]
    obtain ⟨T41, X41, e41, st41⟩ := getF X40 hx hZ hown (host := "") (Or.inl (own_u hw 137 rfl)) Via.refl e40 f27 (g := (mkF m 29 #[.val (.ref a1), .val (.int (0 : Int32)), .val (.int r0)] [(.ref a1), (.ref b_2)])) rfl rfl (hb hby own_d16_29)
    refine own_via st41 ?_
    show own_H T41 32 #[.val (.ref a1), .val (.int (0 : Int32)), .val (.int r0)] [(.ref va), (.ref b_2)]
    refine own_via (fun t k => XS.iloadN X41.here hx rfl (hb hby own_d16_32) rfl k) ?_
    show own_H T41 33 #[.val (.ref a1), .val (.int (0 : Int32)), .val (.int r0)] [(.int (0 : Int32)), (.ref va), (.ref b_2)]
    refine own_via (own_ldI X41 hx hZ e41 f30 (j := (0 : Int32)) ⟨by decide, by decide⟩ (v := (.int v_0)) rfl (pc := 33) (Ls := #[.val (.ref a1), .val (.int (0 : Int32)), .val (.int r0)]) (rest := [(.ref b_2)]) (hb hby own_d16_33)) ?_
    show own_H T41 34 #[.val (.ref a1), .val (.int (0 : Int32)), .val (.int r0)] [(.int v_0), (.ref b_2)]
    refine own_via (fun t k => XS.iloadN X41.here hx rfl (hb hby own_d16_34) rfl k) ?_
    show own_H T41 35 #[.val (.ref a1), .val (.int (0 : Int32)), .val (.int r0)] [(.int r0), (.int v_0), (.ref b_2)]
    have J42 : ∀ (TJ42 : State) (XJ42 : Stand p l e own_sr0_R s m #[(.ref a1), (.int (0 : Int32)), (.int r0)] below meth c TJ42 L24 0 0) (EJ42 : TJ42.heap = h24) (zj43 : Int32), zj43 = (if (0 : Int32) < r0 then (1 : Int32) else (0 : Int32)) → own_G p e below (own_P s (own_W n0 (own_sr0_q Z a1 r0 ra va b_1 w_1 b_2 w_2 kr kv k_1 k_2 W_1 W_2 u1 u2 r1 r2 r3 v_0 v_1 v_2 v_3 h0)) own_sr0_R.cells own_sr0_R.slots) (TJ42.setTop (mkF m 43 #[.val (.ref a1), .val (.int (0 : Int32)), .val (.int r0)] [(.int zj43), (.int v_0), (.ref b_2)])) := by
      intro TJ42 XJ42 EJ42 zj43 hzj43
      obtain ⟨v44, T44, h44, L44, X44, N44, e44, hq44, st44⟩ := own_callV (y := (⟨"java/util/BitSet", "set", "(IZ)V"⟩ : MethodName)) (z := (⟨"java/util/BitSet", "set", "(IZ)V"⟩ : MethodName)) (W := 0) (a := b_2) XJ42 N24 hx hZ hown (own_u hw 143 rfl) (own_u hw 144 rfl) (notFace_of_selects (args := #[]) (mvT hZ (own_u hw 146 rfl))) (own_u hw 146 rfl) (own_u hw 145 rfl) (own_u hw 68 rfl) (own_u hw 147 rfl) (by decide) (own_sz l Z a0 hw [] b_2 v_0 zj43 w_2 k_2 W_2 u2 h24 n0 Zs39 f32 f33 f34 f35 f36 g_b_2 g_w_2 ne_b_2_w_2 hp_h1 hp_h2) (by decide) (by decide) (by decide) (by decide) EJ42 f32 (pc := 43) (Ls := #[.val (.ref a1), .val (.int (0 : Int32)), .val (.int r0)]) (st := [(.int zj43), (.int v_0), (.ref b_2)]) (argsL := [(.int v_0), (.int zj43)]) (rest := []) (by rw [hml]; rfl) (lenOf own_pd3 rfl) rfl rfl (Nat.le_of_eq rfl) (hb hby own_d16_43)
      obtain ⟨W_244, u244, rfl, K44, o44_0, o44_1, o44_2, o44_3⟩ := hq44
      refine own_via st44 ?_
      have f51 := o24_0.keep K44
      have f54 := f37.keep K44 (by simp only [List.mem_cons, List.not_mem_nil, or_false, not_or]; exact ⟨ne_ra_b_2, ne_ra_w_2⟩)
      have f55 := o24_1.keep K44 (by simp only [List.mem_cons, List.not_mem_nil, or_false, not_or]; exact ⟨ne_b_1_b_2, ne_b_1_w_2⟩)
      have f56 := o24_2.keep K44 (by simp only [List.mem_cons, List.not_mem_nil, or_false, not_or]; exact ⟨ne_w_1_b_2, ne_w_1_w_2⟩)
      have f57 := o24_3.keep K44 (by simp only [List.mem_cons, List.not_mem_nil, or_false, not_or]; exact ⟨ne_b_1_b_2, ne_b_1_w_2⟩)
      have Kp58 := Kp38.trans K44 (fun x hx => by simp only [List.mem_cons, List.not_mem_nil, or_false] at hx; rcases hx with rfl | rfl <;> first | exact (Or.inl (List.mem_of_getElem? (i := 3) rfl)) | exact (Or.inl (List.mem_of_getElem? (i := 4) rfl)))
      show own_H T44 46 #[.val (.ref a1), .val (.int (0 : Int32)), .val (.int r0)] []
      clear f27 f29 f30 o24_0 f32 f33 f34 f35 f36 f37 o24_1 o24_2 o24_3 Kp38 Zs39
      exact own_retV X44 hx Bd.returns Bd.notSynchronized (hb hby own_d16_46) (by rw [e44]; exact ⟨N44, W_224, u224, W_244, u244, rfl, Kp58, f54, f51, f55, f56, f57, o44_0, o44_1, o44_2, o44_3⟩) (by decide) (by decide)
    by_cases hc60 : (0 : Int32) < r0
    ·
      refine own_via (fun t k => XS.ifNo X41.here hx rfl (hb hby own_d16_35) rfl ((if0 _ _).trans (tlt hc60).2.2.2) k) ?_
      show own_H T41 38 #[.val (.ref a1), .val (.int (0 : Int32)), .val (.int r0)] [(.int v_0), (.ref b_2)]
      refine own_via (fun t k => XS.iconst X41.here hx rfl (hb hby own_d16_38) k) ?_
      show own_H T41 39 #[.val (.ref a1), .val (.int (0 : Int32)), .val (.int r0)] [(.int (1 : Int32)), (.int v_0), (.ref b_2)]
      refine own_via (fun t k => XS.goto X41.here hx rfl (pc0 := 39) (pc' := 43) rfl (hb hby own_d16_39) (by decide) (by decide) k) ?_
      show own_H T41 43 #[.val (.ref a1), .val (.int (0 : Int32)), .val (.int r0)] [(.int (1 : Int32)), (.int v_0), (.ref b_2)]
      exact J42 _ X41 e41 _ (by simp only [if_pos hc60])
    ·
      refine own_via (fun t k => XS.ifYes X41.here hx rfl (pc0 := 35) (pc' := 42) rfl (hb hby own_d16_35) rfl ((if0 _ _).trans (flt hc60).2.2.2) (by decide) (by decide) k) ?_
      show own_H T41 42 #[.val (.ref a1), .val (.int (0 : Int32)), .val (.int r0)] [(.int v_0), (.ref b_2)]
      refine own_via (fun t k => XS.iconst X41.here hx rfl (hb hby own_d16_42) k) ?_
      show own_H T41 43 #[.val (.ref a1), .val (.int (0 : Int32)), .val (.int r0)] [(.int (0 : Int32)), (.int v_0), (.ref b_2)]
      exact J42 _ X41 e41 _ (by simp only [if_neg hc60])
  by_cases hc61 : (0 : Int32) < r0
  ·
    refine own_via (fun t k => XS.ifNo X21.here hx rfl (hb hby own_d16_13) rfl ((if0 _ _).trans (tlt hc61).2.2.2) k) ?_
    show own_H T21 16 #[.val (.ref a1), .val (.int (0 : Int32)), .val (.int r0)] [(.int (0 : Int32)), (.ref b_1)]
    refine own_via (fun t k => XS.iconst X21.here hx rfl (hb hby own_d16_16) k) ?_
    show own_H T21 17 #[.val (.ref a1), .val (.int (0 : Int32)), .val (.int r0)] [(.int (1 : Int32)), (.int (0 : Int32)), (.ref b_1)]
    refine own_via (fun t k => XS.goto X21.here hx rfl (pc0 := 17) (pc' := 21) rfl (hb hby own_d16_17) (by decide) (by decide) k) ?_
    show own_H T21 21 #[.val (.ref a1), .val (.int (0 : Int32)), .val (.int r0)] [(.int (1 : Int32)), (.int (0 : Int32)), (.ref b_1)]
    exact J22 _ X21 e21 _ (by simp only [if_pos hc61])
  ·
    refine own_via (fun t k => XS.ifYes X21.here hx rfl (pc0 := 13) (pc' := 20) rfl (hb hby own_d16_13) rfl ((if0 _ _).trans (flt hc61).2.2.2) (by decide) (by decide) k) ?_
    show own_H T21 20 #[.val (.ref a1), .val (.int (0 : Int32)), .val (.int r0)] [(.int (0 : Int32)), (.ref b_1)]
    refine own_via (fun t k => XS.iconst X21.here hx rfl (hb hby own_d16_20) k) ?_
    show own_H T21 21 #[.val (.ref a1), .val (.int (0 : Int32)), .val (.int r0)] [(.int (0 : Int32)), (.int (0 : Int32)), (.ref b_1)]
    exact J22 _ X21 e21 _ (by simp only [if_neg hc61])
abbrev own_sr1_R : Room := { frames := 4, cells := 0, slots := 0, locals := 56 }
theorem own_sr1_ef (m : MethodId) (a1 : Addr) (r1 : Int32) : entryFrame m #[(.ref a1), (.int (1 : Int32)), (.int r1)] 3 = mkF m 0 #[.val (.ref a1), .val (.int (1 : Int32)), .val (.int r1)] [] := by first | (simp [entryFrame, mkF, argsToLocals, Value.category]; done) | rfl
def own_sr1_q (Z : State) (a1 : Addr) (r1 : Int32) (ra : Addr) (va : Addr) (b_1 : Addr) (w_1 : Addr) (b_2 : Addr) (w_2 : Addr) (kr : ClassId) (kv : ClassId) (k_1 : ClassId) (k_2 : ClassId) (W_1 : Int64) (W_2 : Int64) (u1 : Bool) (u2 : Bool) (r0 : Int32) (r2 : Int32) (r3 : Int32) (v_0 : Int32) (v_1 : Int32) (v_2 : Int32) (v_3 : Int32) (h0 : Heap) (v : Option Value) (h : Heap) : Prop := ∃ (W_3 : Int64) (u3 : Bool) (W_4 : Int64) (u4 : Bool), v = none ∧ Keep h0 h [ra, b_1, w_1, b_2, w_2] ∧ Arv Z h ra kr .int (4 : Int32) [(.int r0), (.int r1), (.int r2), (.int r3)] (.int (0 : Int32)) ∧ Exa Z h b_1 own_cB ∧ Fld Z h b_1 own_cB "words" "[J" (.ref w_1) ∧ Arv Z h w_1 k_1 .long (1 : Int32) [(.long W_3)] (.long (0 : Int64)) ∧ Fld Z h b_1 own_cB "wordsInUse" "I" (.int (own_b u3)) ∧ Exa Z h b_2 own_cB ∧ Fld Z h b_2 own_cB "words" "[J" (.ref w_2) ∧ Arv Z h w_2 k_2 .long (1 : Int32) [(.long W_4)] (.long (0 : Int64)) ∧ Fld Z h b_2 own_cB "wordsInUse" "I" (.int (own_b u4))
set_option maxRecDepth 65536 in
set_option maxHeartbeats 40000000 in
theorem own_sr1 (l : Launch) (Z : State) (a0 : Array Value) (hw : ∀ d ∈ tables_1, d.before a0 Z = true) (ws : List Jvm.Cond) (a1 : Addr) (r1 : Int32) (ra : Addr) (va : Addr) (b_1 : Addr) (w_1 : Addr) (b_2 : Addr) (w_2 : Addr) (kr : ClassId) (kv : ClassId) (k_1 : ClassId) (k_2 : ClassId) (W_1 : Int64) (W_2 : Int64) (u1 : Bool) (u2 : Bool) (r0 : Int32) (r2 : Int32) (r3 : Int32) (v_0 : Int32) (v_1 : Int32) (v_2 : Int32) (v_3 : Int32) (h0 : Heap) (n0 : Nat) (Z0 : n0 ≤ h0.size) (i_Ea : Exa Z h0 a1 own_cF) (i_Fr : Fld Z h0 a1 own_cF "residual" "[I" (.ref ra)) (i_Fv : Fld Z h0 a1 own_cF "reverse" "[I" (.ref va)) (i_Fo : Fld Z h0 a1 own_cF "open" own_dB (.ref b_1)) (i_Fq : Fld Z h0 a1 own_cF "openReverse" own_dB (.ref b_2)) (i_Ar : Arv Z h0 ra kr .int (4 : Int32) [(.int r0), (.int r1), (.int r2), (.int r3)] (.int (0 : Int32))) (i_Av : Arv Z h0 va kv .int (4 : Int32) [(.int v_0), (.int v_1), (.int v_2), (.int v_3)] (.int (0 : Int32))) (i_E1 : Exa Z h0 b_1 own_cB) (i_Fw1 : Fld Z h0 b_1 own_cB "words" "[J" (.ref w_1)) (i_A1 : Arv Z h0 w_1 k_1 .long (1 : Int32) [(.long W_1)] (.long (0 : Int64))) (i_Fu1 : Fld Z h0 b_1 own_cB "wordsInUse" "I" (.int (own_b u1))) (i_E2 : Exa Z h0 b_2 own_cB) (i_Fw2 : Fld Z h0 b_2 own_cB "words" "[J" (.ref w_2)) (i_A2 : Arv Z h0 w_2 k_2 .long (1 : Int32) [(.long W_2)] (.long (0 : Int64))) (i_Fu2 : Fld Z h0 b_2 own_cB "wordsInUse" "I" (.int (own_b u2))) (i_S1 : Sta Z h0 own_cB "$assertionsDisabled" "Z" (.int (1 : Int32))) (g_ra : n0 ≤ ra) (g_b_1 : n0 ≤ b_1) (g_w_1 : n0 ≤ w_1) (g_b_2 : n0 ≤ b_2) (g_w_2 : n0 ≤ w_2) (ne_a1_ra : a1 ≠ ra) (ne_a1_va : a1 ≠ va) (ne_a1_b_1 : a1 ≠ b_1) (ne_a1_w_1 : a1 ≠ w_1) (ne_a1_b_2 : a1 ≠ b_2) (ne_a1_w_2 : a1 ≠ w_2) (ne_ra_va : ra ≠ va) (ne_ra_b_1 : ra ≠ b_1) (ne_ra_w_1 : ra ≠ w_1) (ne_ra_b_2 : ra ≠ b_2) (ne_ra_w_2 : ra ≠ w_2) (ne_va_b_1 : va ≠ b_1) (ne_va_w_1 : va ≠ w_1) (ne_va_b_2 : va ≠ b_2) (ne_va_w_2 : va ≠ w_2) (ne_b_1_w_1 : b_1 ≠ w_1) (ne_b_1_b_2 : b_1 ≠ b_2) (ne_b_1_w_2 : b_1 ≠ w_2) (ne_w_1_b_2 : w_1 ≠ b_2) (ne_w_1_w_2 : w_1 ≠ w_2) (ne_b_2_w_2 : b_2 ≠ w_2) (hp_h1 : ¬ (v_1 < (0 : Int32))) (hp_h2 : (own_F11 v_1) = (0 : Int32)) :
    own_C l Z (⟨"com/example/dissoc/dissoc/mincut/Flow", "setResidual", "(II)V"⟩ : MethodName) prog_24_method_20_code 3 none ws own_sr1_R #[(.ref a1), (.int (1 : Int32)), (.int r1)] h0 (own_W n0 (own_sr1_q Z a1 r1 ra va b_1 w_1 b_2 w_2 kr kv k_1 k_2 W_1 W_2 u1 u2 r0 r2 r3 v_0 v_1 v_2 v_3 h0)) := by
  refine MetFree.of_bodySF own_pn16 hisR ?_
  intro p e s m args below meth c s₁ Bd hml0 hP hK
  obtain ⟨rfl, hZ, hh⟩ := hP
  have hx := Bd.exec
  have hby := Bd.bytes
  have hml : c.maxLocals = 3 := hml0
  have hown : s.vm.findClass "com/example/dissoc/dissoc/mincut/Flow" = some m.cls := findClass_of_methodNamed Bd.named
  have hnm := (name_of_methodNamed Bd.named Bd.method).1
  have X0 : Stand p l e own_sr1_R s m #[(.ref a1), (.int (1 : Int32)), (.int r1)] below meth c s₁ [] 0 0 := Stand.of_body Bd
  have e0 : s₁.heap = h0 := by rw [← hh, Bd.state]; rfl
  have N0 := Fr.nil n0
  have K0 : Keep h0 h0 [ra, b_1, w_1, b_2, w_2] := Keep.refl h0 _
  show own_G p e below (own_P s (own_W n0 (own_sr1_q Z a1 r1 ra va b_1 w_1 b_2 w_2 kr kv k_1 k_2 W_1 W_2 u1 u2 r0 r2 r3 v_0 v_1 v_2 v_3 h0)) own_sr1_R.cells own_sr1_R.slots) (s₁.setTop (entryFrame m #[(.ref a1), (.int (1 : Int32)), (.int r1)] 3))
  rw [own_sr1_ef m a1 r1]
  show own_H s₁ 0 #[.val (.ref a1), .val (.int (1 : Int32)), .val (.int r1)] []
  refine own_via (fun t k => XS.aloadN X0.here hx rfl (hb hby own_d16_0) rfl rfl k) ?_
  show own_H s₁ 1 #[.val (.ref a1), .val (.int (1 : Int32)), .val (.int r1)] [(.ref a1)]
  obtain ⟨T1, X1, e1, st1⟩ := getF X0 hx hZ hown (host := "") (Or.inl (own_u hw 116 rfl)) Via.refl e0 i_Fr (g := (mkF m 1 #[.val (.ref a1), .val (.int (1 : Int32)), .val (.int r1)] [(.ref a1)])) rfl rfl (hb hby own_d16_1)
  refine own_via st1 ?_
  show own_H T1 4 #[.val (.ref a1), .val (.int (1 : Int32)), .val (.int r1)] [(.ref ra)]
  refine own_via (fun t k => XS.iloadN X1.here hx rfl (hb hby own_d16_4) rfl k) ?_
  refine own_via (fun t k => XS.iloadN X1.here hx rfl (hb hby own_d16_5) rfl k) ?_
  show own_H T1 6 #[.val (.ref a1), .val (.int (1 : Int32)), .val (.int r1)] [(.int r1), (.int (1 : Int32)), (.ref ra)]
  obtain ⟨T2, h2, L2, X2, N2, e2, W2, V2, st2⟩ := own_stI X1 N0 hx hZ e1 i_Ar g_ra (j := (1 : Int32)) (x := r1) (i := 1) ⟨by decide, by decide⟩ rfl (Nat.le_of_ble_eq_true rfl) (pc := 6) (Ls := #[.val (.ref a1), .val (.int (1 : Int32)), .val (.int r1)]) (rest := []) (hb hby own_d16_6)
  refine own_via st2 ?_
  have f5 := i_Fv.other W2 (Or.inl ne_a1_ra)
  have f6 := i_Fo.other W2 (Or.inl ne_a1_ra)
  have f7 := i_Fq.other W2 (Or.inl ne_a1_ra)
  have f8 := i_Av.other W2 (Ne.symm ne_ra_va)
  have f9 := i_E1.wr W2
  have f10 := i_Fw1.other W2 (Or.inl (Ne.symm ne_ra_b_1))
  have f11 := i_A1.other W2 (Ne.symm ne_ra_w_1)
  have f12 := i_Fu1.other W2 (Or.inl (Ne.symm ne_ra_b_1))
  have f13 := i_E2.wr W2
  have f14 := i_Fw2.other W2 (Or.inl (Ne.symm ne_ra_b_2))
  have f15 := i_A2.other W2 (Ne.symm ne_ra_w_2)
  have f16 := i_Fu2.other W2 (Or.inl (Ne.symm ne_ra_b_2))
  have f17 := i_S1.wr W2
  have Kp18 := K0.wr W2 (Or.inl (List.mem_of_getElem? (i := 0) rfl))
  have f19 : Arv Z h2 ra kr .int (4 : Int32) [(.int r0), (.int r1), (.int r2), (.int r3)] (.int (0 : Int32)) := V2
  have Zs20 : n0 ≤ h2.size := by rw [W2.size]; exact Z0
  show own_H T2 7 #[.val (.ref a1), .val (.int (1 : Int32)), .val (.int r1)] []
  clear i_Ea i_Fr i_Fv i_Fo i_Fq i_Ar i_Av i_E1 i_Fw1 i_A1 i_Fu1 i_E2 i_Fw2 i_A2 i_Fu2 i_S1 K0
  refine own_via (fun t k => XS.aloadN X2.here hx rfl (hb hby own_d16_7) rfl rfl k) ?_
  show own_H T2 8 #[.val (.ref a1), .val (.int (1 : Int32)), .val (.int r1)] [(.ref a1)]
  obtain ⟨T21, X21, e21, st21⟩ := getF X2 hx hZ hown (host := "") (Or.inl (own_u hw 88 rfl)) Via.refl e2 f6 (g := (mkF m 8 #[.val (.ref a1), .val (.int (1 : Int32)), .val (.int r1)] [(.ref a1)])) rfl rfl (hb hby own_d16_8)
  refine own_via st21 ?_
  show own_H T21 11 #[.val (.ref a1), .val (.int (1 : Int32)), .val (.int r1)] [(.ref b_1)]
  refine own_via (fun t k => XS.iloadN X21.here hx rfl (hb hby own_d16_11) rfl k) ?_
  refine own_via (fun t k => XS.iloadN X21.here hx rfl (hb hby own_d16_12) rfl k) ?_
  show own_H T21 13 #[.val (.ref a1), .val (.int (1 : Int32)), .val (.int r1)] [(.int r1), (.int (1 : Int32)), (.ref b_1)]
  have J22 : ∀ (TJ22 : State) (XJ22 : Stand p l e own_sr1_R s m #[(.ref a1), (.int (1 : Int32)), (.int r1)] below meth c TJ22 L2 0 0) (EJ22 : TJ22.heap = h2) (zj23 : Int32), zj23 = (if (0 : Int32) < r1 then (1 : Int32) else (0 : Int32)) → own_G p e below (own_P s (own_W n0 (own_sr1_q Z a1 r1 ra va b_1 w_1 b_2 w_2 kr kv k_1 k_2 W_1 W_2 u1 u2 r0 r2 r3 v_0 v_1 v_2 v_3 h0)) own_sr1_R.cells own_sr1_R.slots) (TJ22.setTop (mkF m 21 #[.val (.ref a1), .val (.int (1 : Int32)), .val (.int r1)] [(.int zj23), (.int (1 : Int32)), (.ref b_1)])) := by
    intro TJ22 XJ22 EJ22 zj23 hzj23
    obtain ⟨v24, T24, h24, L24, X24, N24, e24, hq24, st24⟩ := own_callV (y := (⟨"java/util/BitSet", "set", "(IZ)V"⟩ : MethodName)) (z := (⟨"java/util/BitSet", "set", "(IZ)V"⟩ : MethodName)) (W := 0) (a := b_1) XJ22 N2 hx hZ hown (own_u hw 143 rfl) (own_u hw 144 rfl) (notFace_of_selects (args := #[]) (mvT hZ (own_u hw 146 rfl))) (own_u hw 146 rfl) (own_u hw 145 rfl) (own_u hw 68 rfl) (own_u hw 147 rfl) (by decide) (own_sz l Z a0 hw [] b_1 (1 : Int32) zj23 w_1 k_1 W_1 u1 h2 n0 Zs20 f9 f10 f11 f12 f17 g_b_1 g_w_1 ne_b_1_w_1 (by decide) (by decide)) (by decide) (by decide) (by decide) (by decide) EJ22 f9 (pc := 21) (Ls := #[.val (.ref a1), .val (.int (1 : Int32)), .val (.int r1)]) (st := [(.int zj23), (.int (1 : Int32)), (.ref b_1)]) (argsL := [(.int (1 : Int32)), (.int zj23)]) (rest := []) (by rw [hml]; rfl) (lenOf own_pd3 rfl) rfl rfl (Nat.le_of_eq rfl) (hb hby own_d16_21)
    obtain ⟨W_224, u224, rfl, K24, o24_0, o24_1, o24_2, o24_3⟩ := hq24
    refine own_via st24 ?_
    have f27 := f5.keep K24 (by simp only [List.mem_cons, List.not_mem_nil, or_false, not_or]; exact ⟨ne_a1_b_1, ne_a1_w_1⟩)
    have f29 := f7.keep K24 (by simp only [List.mem_cons, List.not_mem_nil, or_false, not_or]; exact ⟨ne_a1_b_1, ne_a1_w_1⟩)
    have f30 := f8.keep K24 (by simp only [List.mem_cons, List.not_mem_nil, or_false, not_or]; exact ⟨ne_va_b_1, ne_va_w_1⟩)
    have f32 := f13.keep K24
    have f33 := f14.keep K24 (by simp only [List.mem_cons, List.not_mem_nil, or_false, not_or]; exact ⟨(Ne.symm ne_b_1_b_2), (Ne.symm ne_w_1_b_2)⟩)
    have f34 := f15.keep K24 (by simp only [List.mem_cons, List.not_mem_nil, or_false, not_or]; exact ⟨(Ne.symm ne_b_1_w_2), (Ne.symm ne_w_1_w_2)⟩)
    have f35 := f16.keep K24 (by simp only [List.mem_cons, List.not_mem_nil, or_false, not_or]; exact ⟨(Ne.symm ne_b_1_b_2), (Ne.symm ne_w_1_b_2)⟩)
    have f36 := own_staK f17 K24 (fun x hx => by simp only [List.mem_cons, List.not_mem_nil, or_false] at hx; rcases hx with rfl | rfl <;> first | exact f9.nostat | exact f11.nostat)
    have f37 := f19.keep K24 (by simp only [List.mem_cons, List.not_mem_nil, or_false, not_or]; exact ⟨ne_ra_b_1, ne_ra_w_1⟩)
    have Kp38 := Kp18.trans K24 (fun x hx => by simp only [List.mem_cons, List.not_mem_nil, or_false] at hx; rcases hx with rfl | rfl <;> first | exact (Or.inl (List.mem_of_getElem? (i := 1) rfl)) | exact (Or.inl (List.mem_of_getElem? (i := 2) rfl)))
    have Zs39 : n0 ≤ h24.size := Nat.le_trans Zs20 K24.1
    show own_H T24 24 #[.val (.ref a1), .val (.int (1 : Int32)), .val (.int r1)] []
    clear f5 f6 f7 f8 f9 f10 f11 f12 f13 f14 f15 f16 f17 f19 Kp18 Zs20
    refine own_via (fun t k => XS.aloadN X24.here hx rfl (hb hby own_d16_24) rfl rfl k) ?_
    show own_H T24 25 #[.val (.ref a1), .val (.int (1 : Int32)), .val (.int r1)] [(.ref a1)]
    obtain ⟨T40, X40, e40, st40⟩ := getF X24 hx hZ hown (host := "") (Or.inl (own_u hw 90 rfl)) Via.refl e24 f29 (g := (mkF m 25 #[.val (.ref a1), .val (.int (1 : Int32)), .val (.int r1)] [(.ref a1)])) rfl rfl (hb hby own_d16_25)
    refine own_via st40 ?_
    show own_H T40 28 #[.val (.ref a1), .val (.int (1 : Int32)), .val (.int r1)] [(.ref b_2)]
    refine own_via (fun t k => XS.aloadN X40.here hx rfl (hb hby own_d16_28) rfl rfl k) ?_
    show own_H T40 29 #[.val (.ref a1), .val (.int (1 : Int32)), .val (.int r1)] [(.ref a1), (.ref b_2)]
    obtain ⟨T41, X41, e41, st41⟩ := getF X40 hx hZ hown (host := "") (Or.inl (own_u hw 137 rfl)) Via.refl e40 f27 (g := (mkF m 29 #[.val (.ref a1), .val (.int (1 : Int32)), .val (.int r1)] [(.ref a1), (.ref b_2)])) rfl rfl (hb hby own_d16_29)
    refine own_via st41 ?_
    show own_H T41 32 #[.val (.ref a1), .val (.int (1 : Int32)), .val (.int r1)] [(.ref va), (.ref b_2)]
    refine own_via (fun t k => XS.iloadN X41.here hx rfl (hb hby own_d16_32) rfl k) ?_
    show own_H T41 33 #[.val (.ref a1), .val (.int (1 : Int32)), .val (.int r1)] [(.int (1 : Int32)), (.ref va), (.ref b_2)]
    refine own_via (own_ldI X41 hx hZ e41 f30 (j := (1 : Int32)) ⟨by decide, by decide⟩ (v := (.int v_1)) rfl (pc := 33) (Ls := #[.val (.ref a1), .val (.int (1 : Int32)), .val (.int r1)]) (rest := [(.ref b_2)]) (hb hby own_d16_33)) ?_
    show own_H T41 34 #[.val (.ref a1), .val (.int (1 : Int32)), .val (.int r1)] [(.int v_1), (.ref b_2)]
    refine own_via (fun t k => XS.iloadN X41.here hx rfl (hb hby own_d16_34) rfl k) ?_
    show own_H T41 35 #[.val (.ref a1), .val (.int (1 : Int32)), .val (.int r1)] [(.int r1), (.int v_1), (.ref b_2)]
    have J42 : ∀ (TJ42 : State) (XJ42 : Stand p l e own_sr1_R s m #[(.ref a1), (.int (1 : Int32)), (.int r1)] below meth c TJ42 L24 0 0) (EJ42 : TJ42.heap = h24) (zj43 : Int32), zj43 = (if (0 : Int32) < r1 then (1 : Int32) else (0 : Int32)) → own_G p e below (own_P s (own_W n0 (own_sr1_q Z a1 r1 ra va b_1 w_1 b_2 w_2 kr kv k_1 k_2 W_1 W_2 u1 u2 r0 r2 r3 v_0 v_1 v_2 v_3 h0)) own_sr1_R.cells own_sr1_R.slots) (TJ42.setTop (mkF m 43 #[.val (.ref a1), .val (.int (1 : Int32)), .val (.int r1)] [(.int zj43), (.int v_1), (.ref b_2)])) := by
      intro TJ42 XJ42 EJ42 zj43 hzj43
      obtain ⟨v44, T44, h44, L44, X44, N44, e44, hq44, st44⟩ := own_callV (y := (⟨"java/util/BitSet", "set", "(IZ)V"⟩ : MethodName)) (z := (⟨"java/util/BitSet", "set", "(IZ)V"⟩ : MethodName)) (W := 0) (a := b_2) XJ42 N24 hx hZ hown (own_u hw 143 rfl) (own_u hw 144 rfl) (notFace_of_selects (args := #[]) (mvT hZ (own_u hw 146 rfl))) (own_u hw 146 rfl) (own_u hw 145 rfl) (own_u hw 68 rfl) (own_u hw 147 rfl) (by decide) (own_sz l Z a0 hw [] b_2 v_1 zj43 w_2 k_2 W_2 u2 h24 n0 Zs39 f32 f33 f34 f35 f36 g_b_2 g_w_2 ne_b_2_w_2 hp_h1 hp_h2) (by decide) (by decide) (by decide) (by decide) EJ42 f32 (pc := 43) (Ls := #[.val (.ref a1), .val (.int (1 : Int32)), .val (.int r1)]) (st := [(.int zj43), (.int v_1), (.ref b_2)]) (argsL := [(.int v_1), (.int zj43)]) (rest := []) (by rw [hml]; rfl) (lenOf own_pd3 rfl) rfl rfl (Nat.le_of_eq rfl) (hb hby own_d16_43)
      obtain ⟨W_244, u244, rfl, K44, o44_0, o44_1, o44_2, o44_3⟩ := hq44
      refine own_via st44 ?_
      have f51 := o24_0.keep K44
      have f54 := f37.keep K44 (by simp only [List.mem_cons, List.not_mem_nil, or_false, not_or]; exact ⟨ne_ra_b_2, ne_ra_w_2⟩)
      have f55 := o24_1.keep K44 (by simp only [List.mem_cons, List.not_mem_nil, or_false, not_or]; exact ⟨ne_b_1_b_2, ne_b_1_w_2⟩)
      have f56 := o24_2.keep K44 (by simp only [List.mem_cons, List.not_mem_nil, or_false, not_or]; exact ⟨ne_w_1_b_2, ne_w_1_w_2⟩)
      have f57 := o24_3.keep K44 (by simp only [List.mem_cons, List.not_mem_nil, or_false, not_or]; exact ⟨ne_b_1_b_2, ne_b_1_w_2⟩)
      have Kp58 := Kp38.trans K44 (fun x hx => by simp only [List.mem_cons, List.not_mem_nil, or_false] at hx; rcases hx with rfl | rfl <;> first | exact (Or.inl (List.mem_of_getElem? (i := 3) rfl)) | exact (Or.inl (List.mem_of_getElem? (i := 4) rfl)))
      show own_H T44 46 #[.val (.ref a1), .val (.int (1 : Int32)), .val (.int r1)] []
      clear f27 f29 f30 o24_0 f32 f33 f34 f35 f36 f37 o24_1 o24_2 o24_3 Kp38 Zs39
      exact own_retV X44 hx Bd.returns Bd.notSynchronized (hb hby own_d16_46) (by rw [e44]; exact ⟨N44, W_224, u224, W_244, u244, rfl, Kp58, f54, f51, f55, f56, f57, o44_0, o44_1, o44_2, o44_3⟩) (by decide) (by decide)
    by_cases hc60 : (0 : Int32) < r1
    ·
      refine own_via (fun t k => XS.ifNo X41.here hx rfl (hb hby own_d16_35) rfl ((if0 _ _).trans (tlt hc60).2.2.2) k) ?_
      show own_H T41 38 #[.val (.ref a1), .val (.int (1 : Int32)), .val (.int r1)] [(.int v_1), (.ref b_2)]
      refine own_via (fun t k => XS.iconst X41.here hx rfl (hb hby own_d16_38) k) ?_
      show own_H T41 39 #[.val (.ref a1), .val (.int (1 : Int32)), .val (.int r1)] [(.int (1 : Int32)), (.int v_1), (.ref b_2)]
      refine own_via (fun t k => XS.goto X41.here hx rfl (pc0 := 39) (pc' := 43) rfl (hb hby own_d16_39) (by decide) (by decide) k) ?_
      show own_H T41 43 #[.val (.ref a1), .val (.int (1 : Int32)), .val (.int r1)] [(.int (1 : Int32)), (.int v_1), (.ref b_2)]
      exact J42 _ X41 e41 _ (by simp only [if_pos hc60])
    ·
      refine own_via (fun t k => XS.ifYes X41.here hx rfl (pc0 := 35) (pc' := 42) rfl (hb hby own_d16_35) rfl ((if0 _ _).trans (flt hc60).2.2.2) (by decide) (by decide) k) ?_
      show own_H T41 42 #[.val (.ref a1), .val (.int (1 : Int32)), .val (.int r1)] [(.int v_1), (.ref b_2)]
      refine own_via (fun t k => XS.iconst X41.here hx rfl (hb hby own_d16_42) k) ?_
      show own_H T41 43 #[.val (.ref a1), .val (.int (1 : Int32)), .val (.int r1)] [(.int (0 : Int32)), (.int v_1), (.ref b_2)]
      exact J42 _ X41 e41 _ (by simp only [if_neg hc60])
  by_cases hc61 : (0 : Int32) < r1
  ·
    refine own_via (fun t k => XS.ifNo X21.here hx rfl (hb hby own_d16_13) rfl ((if0 _ _).trans (tlt hc61).2.2.2) k) ?_
    show own_H T21 16 #[.val (.ref a1), .val (.int (1 : Int32)), .val (.int r1)] [(.int (1 : Int32)), (.ref b_1)]
    refine own_via (fun t k => XS.iconst X21.here hx rfl (hb hby own_d16_16) k) ?_
    show own_H T21 17 #[.val (.ref a1), .val (.int (1 : Int32)), .val (.int r1)] [(.int (1 : Int32)), (.int (1 : Int32)), (.ref b_1)]
    refine own_via (fun t k => XS.goto X21.here hx rfl (pc0 := 17) (pc' := 21) rfl (hb hby own_d16_17) (by decide) (by decide) k) ?_
    show own_H T21 21 #[.val (.ref a1), .val (.int (1 : Int32)), .val (.int r1)] [(.int (1 : Int32)), (.int (1 : Int32)), (.ref b_1)]
    exact J22 _ X21 e21 _ (by simp only [if_pos hc61])
  ·
    refine own_via (fun t k => XS.ifYes X21.here hx rfl (pc0 := 13) (pc' := 20) rfl (hb hby own_d16_13) rfl ((if0 _ _).trans (flt hc61).2.2.2) (by decide) (by decide) k) ?_
    show own_H T21 20 #[.val (.ref a1), .val (.int (1 : Int32)), .val (.int r1)] [(.int (1 : Int32)), (.ref b_1)]
    refine own_via (fun t k => XS.iconst X21.here hx rfl (hb hby own_d16_20) k) ?_
    show own_H T21 21 #[.val (.ref a1), .val (.int (1 : Int32)), .val (.int r1)] [(.int (0 : Int32)), (.int (1 : Int32)), (.ref b_1)]
    exact J22 _ X21 e21 _ (by simp only [if_neg hc61])
abbrev own_sr2_R : Room := { frames := 4, cells := 0, slots := 0, locals := 56 }
theorem own_sr2_ef (m : MethodId) (a1 : Addr) (r2 : Int32) : entryFrame m #[(.ref a1), (.int (2 : Int32)), (.int r2)] 3 = mkF m 0 #[.val (.ref a1), .val (.int (2 : Int32)), .val (.int r2)] [] := by first | (simp [entryFrame, mkF, argsToLocals, Value.category]; done) | rfl
def own_sr2_q (Z : State) (a1 : Addr) (r2 : Int32) (ra : Addr) (va : Addr) (b_1 : Addr) (w_1 : Addr) (b_2 : Addr) (w_2 : Addr) (kr : ClassId) (kv : ClassId) (k_1 : ClassId) (k_2 : ClassId) (W_1 : Int64) (W_2 : Int64) (u1 : Bool) (u2 : Bool) (r0 : Int32) (r1 : Int32) (r3 : Int32) (v_0 : Int32) (v_1 : Int32) (v_2 : Int32) (v_3 : Int32) (h0 : Heap) (v : Option Value) (h : Heap) : Prop := ∃ (W_3 : Int64) (u3 : Bool) (W_4 : Int64) (u4 : Bool), v = none ∧ Keep h0 h [ra, b_1, w_1, b_2, w_2] ∧ Arv Z h ra kr .int (4 : Int32) [(.int r0), (.int r1), (.int r2), (.int r3)] (.int (0 : Int32)) ∧ Exa Z h b_1 own_cB ∧ Fld Z h b_1 own_cB "words" "[J" (.ref w_1) ∧ Arv Z h w_1 k_1 .long (1 : Int32) [(.long W_3)] (.long (0 : Int64)) ∧ Fld Z h b_1 own_cB "wordsInUse" "I" (.int (own_b u3)) ∧ Exa Z h b_2 own_cB ∧ Fld Z h b_2 own_cB "words" "[J" (.ref w_2) ∧ Arv Z h w_2 k_2 .long (1 : Int32) [(.long W_4)] (.long (0 : Int64)) ∧ Fld Z h b_2 own_cB "wordsInUse" "I" (.int (own_b u4))
set_option maxRecDepth 65536 in
set_option maxHeartbeats 40000000 in
theorem own_sr2 (l : Launch) (Z : State) (a0 : Array Value) (hw : ∀ d ∈ tables_1, d.before a0 Z = true) (ws : List Jvm.Cond) (a1 : Addr) (r2 : Int32) (ra : Addr) (va : Addr) (b_1 : Addr) (w_1 : Addr) (b_2 : Addr) (w_2 : Addr) (kr : ClassId) (kv : ClassId) (k_1 : ClassId) (k_2 : ClassId) (W_1 : Int64) (W_2 : Int64) (u1 : Bool) (u2 : Bool) (r0 : Int32) (r1 : Int32) (r3 : Int32) (v_0 : Int32) (v_1 : Int32) (v_2 : Int32) (v_3 : Int32) (h0 : Heap) (n0 : Nat) (Z0 : n0 ≤ h0.size) (i_Ea : Exa Z h0 a1 own_cF) (i_Fr : Fld Z h0 a1 own_cF "residual" "[I" (.ref ra)) (i_Fv : Fld Z h0 a1 own_cF "reverse" "[I" (.ref va)) (i_Fo : Fld Z h0 a1 own_cF "open" own_dB (.ref b_1)) (i_Fq : Fld Z h0 a1 own_cF "openReverse" own_dB (.ref b_2)) (i_Ar : Arv Z h0 ra kr .int (4 : Int32) [(.int r0), (.int r1), (.int r2), (.int r3)] (.int (0 : Int32))) (i_Av : Arv Z h0 va kv .int (4 : Int32) [(.int v_0), (.int v_1), (.int v_2), (.int v_3)] (.int (0 : Int32))) (i_E1 : Exa Z h0 b_1 own_cB) (i_Fw1 : Fld Z h0 b_1 own_cB "words" "[J" (.ref w_1)) (i_A1 : Arv Z h0 w_1 k_1 .long (1 : Int32) [(.long W_1)] (.long (0 : Int64))) (i_Fu1 : Fld Z h0 b_1 own_cB "wordsInUse" "I" (.int (own_b u1))) (i_E2 : Exa Z h0 b_2 own_cB) (i_Fw2 : Fld Z h0 b_2 own_cB "words" "[J" (.ref w_2)) (i_A2 : Arv Z h0 w_2 k_2 .long (1 : Int32) [(.long W_2)] (.long (0 : Int64))) (i_Fu2 : Fld Z h0 b_2 own_cB "wordsInUse" "I" (.int (own_b u2))) (i_S1 : Sta Z h0 own_cB "$assertionsDisabled" "Z" (.int (1 : Int32))) (g_ra : n0 ≤ ra) (g_b_1 : n0 ≤ b_1) (g_w_1 : n0 ≤ w_1) (g_b_2 : n0 ≤ b_2) (g_w_2 : n0 ≤ w_2) (ne_a1_ra : a1 ≠ ra) (ne_a1_va : a1 ≠ va) (ne_a1_b_1 : a1 ≠ b_1) (ne_a1_w_1 : a1 ≠ w_1) (ne_a1_b_2 : a1 ≠ b_2) (ne_a1_w_2 : a1 ≠ w_2) (ne_ra_va : ra ≠ va) (ne_ra_b_1 : ra ≠ b_1) (ne_ra_w_1 : ra ≠ w_1) (ne_ra_b_2 : ra ≠ b_2) (ne_ra_w_2 : ra ≠ w_2) (ne_va_b_1 : va ≠ b_1) (ne_va_w_1 : va ≠ w_1) (ne_va_b_2 : va ≠ b_2) (ne_va_w_2 : va ≠ w_2) (ne_b_1_w_1 : b_1 ≠ w_1) (ne_b_1_b_2 : b_1 ≠ b_2) (ne_b_1_w_2 : b_1 ≠ w_2) (ne_w_1_b_2 : w_1 ≠ b_2) (ne_w_1_w_2 : w_1 ≠ w_2) (ne_b_2_w_2 : b_2 ≠ w_2) (hp_h1 : ¬ (v_2 < (0 : Int32))) (hp_h2 : (own_F11 v_2) = (0 : Int32)) :
    own_C l Z (⟨"com/example/dissoc/dissoc/mincut/Flow", "setResidual", "(II)V"⟩ : MethodName) prog_24_method_20_code 3 none ws own_sr2_R #[(.ref a1), (.int (2 : Int32)), (.int r2)] h0 (own_W n0 (own_sr2_q Z a1 r2 ra va b_1 w_1 b_2 w_2 kr kv k_1 k_2 W_1 W_2 u1 u2 r0 r1 r3 v_0 v_1 v_2 v_3 h0)) := by
  refine MetFree.of_bodySF own_pn16 hisR ?_
  intro p e s m args below meth c s₁ Bd hml0 hP hK
  obtain ⟨rfl, hZ, hh⟩ := hP
  have hx := Bd.exec
  have hby := Bd.bytes
  have hml : c.maxLocals = 3 := hml0
  have hown : s.vm.findClass "com/example/dissoc/dissoc/mincut/Flow" = some m.cls := findClass_of_methodNamed Bd.named
  have hnm := (name_of_methodNamed Bd.named Bd.method).1
  have X0 : Stand p l e own_sr2_R s m #[(.ref a1), (.int (2 : Int32)), (.int r2)] below meth c s₁ [] 0 0 := Stand.of_body Bd
  have e0 : s₁.heap = h0 := by rw [← hh, Bd.state]; rfl
  have N0 := Fr.nil n0
  have K0 : Keep h0 h0 [ra, b_1, w_1, b_2, w_2] := Keep.refl h0 _
  show own_G p e below (own_P s (own_W n0 (own_sr2_q Z a1 r2 ra va b_1 w_1 b_2 w_2 kr kv k_1 k_2 W_1 W_2 u1 u2 r0 r1 r3 v_0 v_1 v_2 v_3 h0)) own_sr2_R.cells own_sr2_R.slots) (s₁.setTop (entryFrame m #[(.ref a1), (.int (2 : Int32)), (.int r2)] 3))
  rw [own_sr2_ef m a1 r2]
  show own_H s₁ 0 #[.val (.ref a1), .val (.int (2 : Int32)), .val (.int r2)] []
  refine own_via (fun t k => XS.aloadN X0.here hx rfl (hb hby own_d16_0) rfl rfl k) ?_
  show own_H s₁ 1 #[.val (.ref a1), .val (.int (2 : Int32)), .val (.int r2)] [(.ref a1)]
  obtain ⟨T1, X1, e1, st1⟩ := getF X0 hx hZ hown (host := "") (Or.inl (own_u hw 116 rfl)) Via.refl e0 i_Fr (g := (mkF m 1 #[.val (.ref a1), .val (.int (2 : Int32)), .val (.int r2)] [(.ref a1)])) rfl rfl (hb hby own_d16_1)
  refine own_via st1 ?_
  show own_H T1 4 #[.val (.ref a1), .val (.int (2 : Int32)), .val (.int r2)] [(.ref ra)]
  refine own_via (fun t k => XS.iloadN X1.here hx rfl (hb hby own_d16_4) rfl k) ?_
  refine own_via (fun t k => XS.iloadN X1.here hx rfl (hb hby own_d16_5) rfl k) ?_
  show own_H T1 6 #[.val (.ref a1), .val (.int (2 : Int32)), .val (.int r2)] [(.int r2), (.int (2 : Int32)), (.ref ra)]
  obtain ⟨T2, h2, L2, X2, N2, e2, W2, V2, st2⟩ := own_stI X1 N0 hx hZ e1 i_Ar g_ra (j := (2 : Int32)) (x := r2) (i := 2) ⟨by decide, by decide⟩ rfl (Nat.le_of_ble_eq_true rfl) (pc := 6) (Ls := #[.val (.ref a1), .val (.int (2 : Int32)), .val (.int r2)]) (rest := []) (hb hby own_d16_6)
  refine own_via st2 ?_
  have f5 := i_Fv.other W2 (Or.inl ne_a1_ra)
  have f6 := i_Fo.other W2 (Or.inl ne_a1_ra)
  have f7 := i_Fq.other W2 (Or.inl ne_a1_ra)
  have f8 := i_Av.other W2 (Ne.symm ne_ra_va)
  have f9 := i_E1.wr W2
  have f10 := i_Fw1.other W2 (Or.inl (Ne.symm ne_ra_b_1))
  have f11 := i_A1.other W2 (Ne.symm ne_ra_w_1)
  have f12 := i_Fu1.other W2 (Or.inl (Ne.symm ne_ra_b_1))
  have f13 := i_E2.wr W2
  have f14 := i_Fw2.other W2 (Or.inl (Ne.symm ne_ra_b_2))
  have f15 := i_A2.other W2 (Ne.symm ne_ra_w_2)
  have f16 := i_Fu2.other W2 (Or.inl (Ne.symm ne_ra_b_2))
  have f17 := i_S1.wr W2
  have Kp18 := K0.wr W2 (Or.inl (List.mem_of_getElem? (i := 0) rfl))
  have f19 : Arv Z h2 ra kr .int (4 : Int32) [(.int r0), (.int r1), (.int r2), (.int r3)] (.int (0 : Int32)) := V2
  have Zs20 : n0 ≤ h2.size := by rw [W2.size]; exact Z0
  show own_H T2 7 #[.val (.ref a1), .val (.int (2 : Int32)), .val (.int r2)] []
  clear i_Ea i_Fr i_Fv i_Fo i_Fq i_Ar i_Av i_E1 i_Fw1 i_A1 i_Fu1 i_E2 i_Fw2 i_A2 i_Fu2 i_S1 K0
  refine own_via (fun t k => XS.aloadN X2.here hx rfl (hb hby own_d16_7) rfl rfl k) ?_
  show own_H T2 8 #[.val (.ref a1), .val (.int (2 : Int32)), .val (.int r2)] [(.ref a1)]
  obtain ⟨T21, X21, e21, st21⟩ := getF X2 hx hZ hown (host := "") (Or.inl (own_u hw 88 rfl)) Via.refl e2 f6 (g := (mkF m 8 #[.val (.ref a1), .val (.int (2 : Int32)), .val (.int r2)] [(.ref a1)])) rfl rfl (hb hby own_d16_8)
  refine own_via st21 ?_
  show own_H T21 11 #[.val (.ref a1), .val (.int (2 : Int32)), .val (.int r2)] [(.ref b_1)]
  refine own_via (fun t k => XS.iloadN X21.here hx rfl (hb hby own_d16_11) rfl k) ?_
  refine own_via (fun t k => XS.iloadN X21.here hx rfl (hb hby own_d16_12) rfl k) ?_
  show own_H T21 13 #[.val (.ref a1), .val (.int (2 : Int32)), .val (.int r2)] [(.int r2), (.int (2 : Int32)), (.ref b_1)]
  have J22 : ∀ (TJ22 : State) (XJ22 : Stand p l e own_sr2_R s m #[(.ref a1), (.int (2 : Int32)), (.int r2)] below meth c TJ22 L2 0 0) (EJ22 : TJ22.heap = h2) (zj23 : Int32), zj23 = (if (0 : Int32) < r2 then (1 : Int32) else (0 : Int32)) → own_G p e below (own_P s (own_W n0 (own_sr2_q Z a1 r2 ra va b_1 w_1 b_2 w_2 kr kv k_1 k_2 W_1 W_2 u1 u2 r0 r1 r3 v_0 v_1 v_2 v_3 h0)) own_sr2_R.cells own_sr2_R.slots) (TJ22.setTop (mkF m 21 #[.val (.ref a1), .val (.int (2 : Int32)), .val (.int r2)] [(.int zj23), (.int (2 : Int32)), (.ref b_1)])) := by
    intro TJ22 XJ22 EJ22 zj23 hzj23
    obtain ⟨v24, T24, h24, L24, X24, N24, e24, hq24, st24⟩ := own_callV (y := (⟨"java/util/BitSet", "set", "(IZ)V"⟩ : MethodName)) (z := (⟨"java/util/BitSet", "set", "(IZ)V"⟩ : MethodName)) (W := 0) (a := b_1) XJ22 N2 hx hZ hown (own_u hw 143 rfl) (own_u hw 144 rfl) (notFace_of_selects (args := #[]) (mvT hZ (own_u hw 146 rfl))) (own_u hw 146 rfl) (own_u hw 145 rfl) (own_u hw 68 rfl) (own_u hw 147 rfl) (by decide) (own_sz l Z a0 hw [] b_1 (2 : Int32) zj23 w_1 k_1 W_1 u1 h2 n0 Zs20 f9 f10 f11 f12 f17 g_b_1 g_w_1 ne_b_1_w_1 (by decide) (by decide)) (by decide) (by decide) (by decide) (by decide) EJ22 f9 (pc := 21) (Ls := #[.val (.ref a1), .val (.int (2 : Int32)), .val (.int r2)]) (st := [(.int zj23), (.int (2 : Int32)), (.ref b_1)]) (argsL := [(.int (2 : Int32)), (.int zj23)]) (rest := []) (by rw [hml]; rfl) (lenOf own_pd3 rfl) rfl rfl (Nat.le_of_eq rfl) (hb hby own_d16_21)
    obtain ⟨W_224, u224, rfl, K24, o24_0, o24_1, o24_2, o24_3⟩ := hq24
    refine own_via st24 ?_
    have f27 := f5.keep K24 (by simp only [List.mem_cons, List.not_mem_nil, or_false, not_or]; exact ⟨ne_a1_b_1, ne_a1_w_1⟩)
    have f29 := f7.keep K24 (by simp only [List.mem_cons, List.not_mem_nil, or_false, not_or]; exact ⟨ne_a1_b_1, ne_a1_w_1⟩)
    have f30 := f8.keep K24 (by simp only [List.mem_cons, List.not_mem_nil, or_false, not_or]; exact ⟨ne_va_b_1, ne_va_w_1⟩)
    have f32 := f13.keep K24
    have f33 := f14.keep K24 (by simp only [List.mem_cons, List.not_mem_nil, or_false, not_or]; exact ⟨(Ne.symm ne_b_1_b_2), (Ne.symm ne_w_1_b_2)⟩)
    have f34 := f15.keep K24 (by simp only [List.mem_cons, List.not_mem_nil, or_false, not_or]; exact ⟨(Ne.symm ne_b_1_w_2), (Ne.symm ne_w_1_w_2)⟩)
    have f35 := f16.keep K24 (by simp only [List.mem_cons, List.not_mem_nil, or_false, not_or]; exact ⟨(Ne.symm ne_b_1_b_2), (Ne.symm ne_w_1_b_2)⟩)
    have f36 := own_staK f17 K24 (fun x hx => by simp only [List.mem_cons, List.not_mem_nil, or_false] at hx; rcases hx with rfl | rfl <;> first | exact f9.nostat | exact f11.nostat)
    have f37 := f19.keep K24 (by simp only [List.mem_cons, List.not_mem_nil, or_false, not_or]; exact ⟨ne_ra_b_1, ne_ra_w_1⟩)
    have Kp38 := Kp18.trans K24 (fun x hx => by simp only [List.mem_cons, List.not_mem_nil, or_false] at hx; rcases hx with rfl | rfl <;> first | exact (Or.inl (List.mem_of_getElem? (i := 1) rfl)) | exact (Or.inl (List.mem_of_getElem? (i := 2) rfl)))
    have Zs39 : n0 ≤ h24.size := Nat.le_trans Zs20 K24.1
    show own_H T24 24 #[.val (.ref a1), .val (.int (2 : Int32)), .val (.int r2)] []
    clear f5 f6 f7 f8 f9 f10 f11 f12 f13 f14 f15 f16 f17 f19 Kp18 Zs20
    refine own_via (fun t k => XS.aloadN X24.here hx rfl (hb hby own_d16_24) rfl rfl k) ?_
    show own_H T24 25 #[.val (.ref a1), .val (.int (2 : Int32)), .val (.int r2)] [(.ref a1)]
    obtain ⟨T40, X40, e40, st40⟩ := getF X24 hx hZ hown (host := "") (Or.inl (own_u hw 90 rfl)) Via.refl e24 f29 (g := (mkF m 25 #[.val (.ref a1), .val (.int (2 : Int32)), .val (.int r2)] [(.ref a1)])) rfl rfl (hb hby own_d16_25)
    refine own_via st40 ?_
    show own_H T40 28 #[.val (.ref a1), .val (.int (2 : Int32)), .val (.int r2)] [(.ref b_2)]
    refine own_via (fun t k => XS.aloadN X40.here hx rfl (hb hby own_d16_28) rfl rfl k) ?_
    show own_H T40 29 #[.val (.ref a1), .val (.int (2 : Int32)), .val (.int r2)] [(.ref a1), (.ref b_2)]
    obtain ⟨T41, X41, e41, st41⟩ := getF X40 hx hZ hown (host := "") (Or.inl (own_u hw 137 rfl)) Via.refl e40 f27 (g := (mkF m 29 #[.val (.ref a1), .val (.int (2 : Int32)), .val (.int r2)] [(.ref a1), (.ref b_2)])) rfl rfl (hb hby own_d16_29)
    refine own_via st41 ?_
    show own_H T41 32 #[.val (.ref a1), .val (.int (2 : Int32)), .val (.int r2)] [(.ref va), (.ref b_2)]
    refine own_via (fun t k => XS.iloadN X41.here hx rfl (hb hby own_d16_32) rfl k) ?_
    show own_H T41 33 #[.val (.ref a1), .val (.int (2 : Int32)), .val (.int r2)] [(.int (2 : Int32)), (.ref va), (.ref b_2)]
    refine own_via (own_ldI X41 hx hZ e41 f30 (j := (2 : Int32)) ⟨by decide, by decide⟩ (v := (.int v_2)) rfl (pc := 33) (Ls := #[.val (.ref a1), .val (.int (2 : Int32)), .val (.int r2)]) (rest := [(.ref b_2)]) (hb hby own_d16_33)) ?_
    show own_H T41 34 #[.val (.ref a1), .val (.int (2 : Int32)), .val (.int r2)] [(.int v_2), (.ref b_2)]
    refine own_via (fun t k => XS.iloadN X41.here hx rfl (hb hby own_d16_34) rfl k) ?_
    show own_H T41 35 #[.val (.ref a1), .val (.int (2 : Int32)), .val (.int r2)] [(.int r2), (.int v_2), (.ref b_2)]
    have J42 : ∀ (TJ42 : State) (XJ42 : Stand p l e own_sr2_R s m #[(.ref a1), (.int (2 : Int32)), (.int r2)] below meth c TJ42 L24 0 0) (EJ42 : TJ42.heap = h24) (zj43 : Int32), zj43 = (if (0 : Int32) < r2 then (1 : Int32) else (0 : Int32)) → own_G p e below (own_P s (own_W n0 (own_sr2_q Z a1 r2 ra va b_1 w_1 b_2 w_2 kr kv k_1 k_2 W_1 W_2 u1 u2 r0 r1 r3 v_0 v_1 v_2 v_3 h0)) own_sr2_R.cells own_sr2_R.slots) (TJ42.setTop (mkF m 43 #[.val (.ref a1), .val (.int (2 : Int32)), .val (.int r2)] [(.int zj43), (.int v_2), (.ref b_2)])) := by
      intro TJ42 XJ42 EJ42 zj43 hzj43
      obtain ⟨v44, T44, h44, L44, X44, N44, e44, hq44, st44⟩ := own_callV (y := (⟨"java/util/BitSet", "set", "(IZ)V"⟩ : MethodName)) (z := (⟨"java/util/BitSet", "set", "(IZ)V"⟩ : MethodName)) (W := 0) (a := b_2) XJ42 N24 hx hZ hown (own_u hw 143 rfl) (own_u hw 144 rfl) (notFace_of_selects (args := #[]) (mvT hZ (own_u hw 146 rfl))) (own_u hw 146 rfl) (own_u hw 145 rfl) (own_u hw 68 rfl) (own_u hw 147 rfl) (by decide) (own_sz l Z a0 hw [] b_2 v_2 zj43 w_2 k_2 W_2 u2 h24 n0 Zs39 f32 f33 f34 f35 f36 g_b_2 g_w_2 ne_b_2_w_2 hp_h1 hp_h2) (by decide) (by decide) (by decide) (by decide) EJ42 f32 (pc := 43) (Ls := #[.val (.ref a1), .val (.int (2 : Int32)), .val (.int r2)]) (st := [(.int zj43), (.int v_2), (.ref b_2)]) (argsL := [(.int v_2), (.int zj43)]) (rest := []) (by rw [hml]; rfl) (lenOf own_pd3 rfl) rfl rfl (Nat.le_of_eq rfl) (hb hby own_d16_43)
      obtain ⟨W_244, u244, rfl, K44, o44_0, o44_1, o44_2, o44_3⟩ := hq44
      refine own_via st44 ?_
      have f51 := o24_0.keep K44
      have f54 := f37.keep K44 (by simp only [List.mem_cons, List.not_mem_nil, or_false, not_or]; exact ⟨ne_ra_b_2, ne_ra_w_2⟩)
      have f55 := o24_1.keep K44 (by simp only [List.mem_cons, List.not_mem_nil, or_false, not_or]; exact ⟨ne_b_1_b_2, ne_b_1_w_2⟩)
      have f56 := o24_2.keep K44 (by simp only [List.mem_cons, List.not_mem_nil, or_false, not_or]; exact ⟨ne_w_1_b_2, ne_w_1_w_2⟩)
      have f57 := o24_3.keep K44 (by simp only [List.mem_cons, List.not_mem_nil, or_false, not_or]; exact ⟨ne_b_1_b_2, ne_b_1_w_2⟩)
      have Kp58 := Kp38.trans K44 (fun x hx => by simp only [List.mem_cons, List.not_mem_nil, or_false] at hx; rcases hx with rfl | rfl <;> first | exact (Or.inl (List.mem_of_getElem? (i := 3) rfl)) | exact (Or.inl (List.mem_of_getElem? (i := 4) rfl)))
      show own_H T44 46 #[.val (.ref a1), .val (.int (2 : Int32)), .val (.int r2)] []
      clear f27 f29 f30 o24_0 f32 f33 f34 f35 f36 f37 o24_1 o24_2 o24_3 Kp38 Zs39
      exact own_retV X44 hx Bd.returns Bd.notSynchronized (hb hby own_d16_46) (by rw [e44]; exact ⟨N44, W_224, u224, W_244, u244, rfl, Kp58, f54, f51, f55, f56, f57, o44_0, o44_1, o44_2, o44_3⟩) (by decide) (by decide)
    by_cases hc60 : (0 : Int32) < r2
    ·
      refine own_via (fun t k => XS.ifNo X41.here hx rfl (hb hby own_d16_35) rfl ((if0 _ _).trans (tlt hc60).2.2.2) k) ?_
      show own_H T41 38 #[.val (.ref a1), .val (.int (2 : Int32)), .val (.int r2)] [(.int v_2), (.ref b_2)]
      refine own_via (fun t k => XS.iconst X41.here hx rfl (hb hby own_d16_38) k) ?_
      show own_H T41 39 #[.val (.ref a1), .val (.int (2 : Int32)), .val (.int r2)] [(.int (1 : Int32)), (.int v_2), (.ref b_2)]
      refine own_via (fun t k => XS.goto X41.here hx rfl (pc0 := 39) (pc' := 43) rfl (hb hby own_d16_39) (by decide) (by decide) k) ?_
      show own_H T41 43 #[.val (.ref a1), .val (.int (2 : Int32)), .val (.int r2)] [(.int (1 : Int32)), (.int v_2), (.ref b_2)]
      exact J42 _ X41 e41 _ (by simp only [if_pos hc60])
    ·
      refine own_via (fun t k => XS.ifYes X41.here hx rfl (pc0 := 35) (pc' := 42) rfl (hb hby own_d16_35) rfl ((if0 _ _).trans (flt hc60).2.2.2) (by decide) (by decide) k) ?_
      show own_H T41 42 #[.val (.ref a1), .val (.int (2 : Int32)), .val (.int r2)] [(.int v_2), (.ref b_2)]
      refine own_via (fun t k => XS.iconst X41.here hx rfl (hb hby own_d16_42) k) ?_
      show own_H T41 43 #[.val (.ref a1), .val (.int (2 : Int32)), .val (.int r2)] [(.int (0 : Int32)), (.int v_2), (.ref b_2)]
      exact J42 _ X41 e41 _ (by simp only [if_neg hc60])
  by_cases hc61 : (0 : Int32) < r2
  ·
    refine own_via (fun t k => XS.ifNo X21.here hx rfl (hb hby own_d16_13) rfl ((if0 _ _).trans (tlt hc61).2.2.2) k) ?_
    show own_H T21 16 #[.val (.ref a1), .val (.int (2 : Int32)), .val (.int r2)] [(.int (2 : Int32)), (.ref b_1)]
    refine own_via (fun t k => XS.iconst X21.here hx rfl (hb hby own_d16_16) k) ?_
    show own_H T21 17 #[.val (.ref a1), .val (.int (2 : Int32)), .val (.int r2)] [(.int (1 : Int32)), (.int (2 : Int32)), (.ref b_1)]
    refine own_via (fun t k => XS.goto X21.here hx rfl (pc0 := 17) (pc' := 21) rfl (hb hby own_d16_17) (by decide) (by decide) k) ?_
    show own_H T21 21 #[.val (.ref a1), .val (.int (2 : Int32)), .val (.int r2)] [(.int (1 : Int32)), (.int (2 : Int32)), (.ref b_1)]
    exact J22 _ X21 e21 _ (by simp only [if_pos hc61])
  ·
    refine own_via (fun t k => XS.ifYes X21.here hx rfl (pc0 := 13) (pc' := 20) rfl (hb hby own_d16_13) rfl ((if0 _ _).trans (flt hc61).2.2.2) (by decide) (by decide) k) ?_
    show own_H T21 20 #[.val (.ref a1), .val (.int (2 : Int32)), .val (.int r2)] [(.int (2 : Int32)), (.ref b_1)]
    refine own_via (fun t k => XS.iconst X21.here hx rfl (hb hby own_d16_20) k) ?_
    show own_H T21 21 #[.val (.ref a1), .val (.int (2 : Int32)), .val (.int r2)] [(.int (0 : Int32)), (.int (2 : Int32)), (.ref b_1)]
    exact J22 _ X21 e21 _ (by simp only [if_neg hc61])
abbrev own_sr3_R : Room := { frames := 4, cells := 0, slots := 0, locals := 56 }
theorem own_sr3_ef (m : MethodId) (a1 : Addr) (r3 : Int32) : entryFrame m #[(.ref a1), (.int (3 : Int32)), (.int r3)] 3 = mkF m 0 #[.val (.ref a1), .val (.int (3 : Int32)), .val (.int r3)] [] := by first | (simp [entryFrame, mkF, argsToLocals, Value.category]; done) | rfl
def own_sr3_q (Z : State) (a1 : Addr) (r3 : Int32) (ra : Addr) (va : Addr) (b_1 : Addr) (w_1 : Addr) (b_2 : Addr) (w_2 : Addr) (kr : ClassId) (kv : ClassId) (k_1 : ClassId) (k_2 : ClassId) (W_1 : Int64) (W_2 : Int64) (u1 : Bool) (u2 : Bool) (r0 : Int32) (r1 : Int32) (r2 : Int32) (v_0 : Int32) (v_1 : Int32) (v_2 : Int32) (v_3 : Int32) (h0 : Heap) (v : Option Value) (h : Heap) : Prop := ∃ (W_3 : Int64) (u3 : Bool) (W_4 : Int64) (u4 : Bool), v = none ∧ Keep h0 h [ra, b_1, w_1, b_2, w_2] ∧ Arv Z h ra kr .int (4 : Int32) [(.int r0), (.int r1), (.int r2), (.int r3)] (.int (0 : Int32)) ∧ Exa Z h b_1 own_cB ∧ Fld Z h b_1 own_cB "words" "[J" (.ref w_1) ∧ Arv Z h w_1 k_1 .long (1 : Int32) [(.long W_3)] (.long (0 : Int64)) ∧ Fld Z h b_1 own_cB "wordsInUse" "I" (.int (own_b u3)) ∧ Exa Z h b_2 own_cB ∧ Fld Z h b_2 own_cB "words" "[J" (.ref w_2) ∧ Arv Z h w_2 k_2 .long (1 : Int32) [(.long W_4)] (.long (0 : Int64)) ∧ Fld Z h b_2 own_cB "wordsInUse" "I" (.int (own_b u4))
set_option maxRecDepth 65536 in
set_option maxHeartbeats 40000000 in
theorem own_sr3 (l : Launch) (Z : State) (a0 : Array Value) (hw : ∀ d ∈ tables_1, d.before a0 Z = true) (ws : List Jvm.Cond) (a1 : Addr) (r3 : Int32) (ra : Addr) (va : Addr) (b_1 : Addr) (w_1 : Addr) (b_2 : Addr) (w_2 : Addr) (kr : ClassId) (kv : ClassId) (k_1 : ClassId) (k_2 : ClassId) (W_1 : Int64) (W_2 : Int64) (u1 : Bool) (u2 : Bool) (r0 : Int32) (r1 : Int32) (r2 : Int32) (v_0 : Int32) (v_1 : Int32) (v_2 : Int32) (v_3 : Int32) (h0 : Heap) (n0 : Nat) (Z0 : n0 ≤ h0.size) (i_Ea : Exa Z h0 a1 own_cF) (i_Fr : Fld Z h0 a1 own_cF "residual" "[I" (.ref ra)) (i_Fv : Fld Z h0 a1 own_cF "reverse" "[I" (.ref va)) (i_Fo : Fld Z h0 a1 own_cF "open" own_dB (.ref b_1)) (i_Fq : Fld Z h0 a1 own_cF "openReverse" own_dB (.ref b_2)) (i_Ar : Arv Z h0 ra kr .int (4 : Int32) [(.int r0), (.int r1), (.int r2), (.int r3)] (.int (0 : Int32))) (i_Av : Arv Z h0 va kv .int (4 : Int32) [(.int v_0), (.int v_1), (.int v_2), (.int v_3)] (.int (0 : Int32))) (i_E1 : Exa Z h0 b_1 own_cB) (i_Fw1 : Fld Z h0 b_1 own_cB "words" "[J" (.ref w_1)) (i_A1 : Arv Z h0 w_1 k_1 .long (1 : Int32) [(.long W_1)] (.long (0 : Int64))) (i_Fu1 : Fld Z h0 b_1 own_cB "wordsInUse" "I" (.int (own_b u1))) (i_E2 : Exa Z h0 b_2 own_cB) (i_Fw2 : Fld Z h0 b_2 own_cB "words" "[J" (.ref w_2)) (i_A2 : Arv Z h0 w_2 k_2 .long (1 : Int32) [(.long W_2)] (.long (0 : Int64))) (i_Fu2 : Fld Z h0 b_2 own_cB "wordsInUse" "I" (.int (own_b u2))) (i_S1 : Sta Z h0 own_cB "$assertionsDisabled" "Z" (.int (1 : Int32))) (g_ra : n0 ≤ ra) (g_b_1 : n0 ≤ b_1) (g_w_1 : n0 ≤ w_1) (g_b_2 : n0 ≤ b_2) (g_w_2 : n0 ≤ w_2) (ne_a1_ra : a1 ≠ ra) (ne_a1_va : a1 ≠ va) (ne_a1_b_1 : a1 ≠ b_1) (ne_a1_w_1 : a1 ≠ w_1) (ne_a1_b_2 : a1 ≠ b_2) (ne_a1_w_2 : a1 ≠ w_2) (ne_ra_va : ra ≠ va) (ne_ra_b_1 : ra ≠ b_1) (ne_ra_w_1 : ra ≠ w_1) (ne_ra_b_2 : ra ≠ b_2) (ne_ra_w_2 : ra ≠ w_2) (ne_va_b_1 : va ≠ b_1) (ne_va_w_1 : va ≠ w_1) (ne_va_b_2 : va ≠ b_2) (ne_va_w_2 : va ≠ w_2) (ne_b_1_w_1 : b_1 ≠ w_1) (ne_b_1_b_2 : b_1 ≠ b_2) (ne_b_1_w_2 : b_1 ≠ w_2) (ne_w_1_b_2 : w_1 ≠ b_2) (ne_w_1_w_2 : w_1 ≠ w_2) (ne_b_2_w_2 : b_2 ≠ w_2) (hp_h1 : ¬ (v_3 < (0 : Int32))) (hp_h2 : (own_F11 v_3) = (0 : Int32)) :
    own_C l Z (⟨"com/example/dissoc/dissoc/mincut/Flow", "setResidual", "(II)V"⟩ : MethodName) prog_24_method_20_code 3 none ws own_sr3_R #[(.ref a1), (.int (3 : Int32)), (.int r3)] h0 (own_W n0 (own_sr3_q Z a1 r3 ra va b_1 w_1 b_2 w_2 kr kv k_1 k_2 W_1 W_2 u1 u2 r0 r1 r2 v_0 v_1 v_2 v_3 h0)) := by
  refine MetFree.of_bodySF own_pn16 hisR ?_
  intro p e s m args below meth c s₁ Bd hml0 hP hK
  obtain ⟨rfl, hZ, hh⟩ := hP
  have hx := Bd.exec
  have hby := Bd.bytes
  have hml : c.maxLocals = 3 := hml0
  have hown : s.vm.findClass "com/example/dissoc/dissoc/mincut/Flow" = some m.cls := findClass_of_methodNamed Bd.named
  have hnm := (name_of_methodNamed Bd.named Bd.method).1
  have X0 : Stand p l e own_sr3_R s m #[(.ref a1), (.int (3 : Int32)), (.int r3)] below meth c s₁ [] 0 0 := Stand.of_body Bd
  have e0 : s₁.heap = h0 := by rw [← hh, Bd.state]; rfl
  have N0 := Fr.nil n0
  have K0 : Keep h0 h0 [ra, b_1, w_1, b_2, w_2] := Keep.refl h0 _
  show own_G p e below (own_P s (own_W n0 (own_sr3_q Z a1 r3 ra va b_1 w_1 b_2 w_2 kr kv k_1 k_2 W_1 W_2 u1 u2 r0 r1 r2 v_0 v_1 v_2 v_3 h0)) own_sr3_R.cells own_sr3_R.slots) (s₁.setTop (entryFrame m #[(.ref a1), (.int (3 : Int32)), (.int r3)] 3))
  rw [own_sr3_ef m a1 r3]
  show own_H s₁ 0 #[.val (.ref a1), .val (.int (3 : Int32)), .val (.int r3)] []
  refine own_via (fun t k => XS.aloadN X0.here hx rfl (hb hby own_d16_0) rfl rfl k) ?_
  show own_H s₁ 1 #[.val (.ref a1), .val (.int (3 : Int32)), .val (.int r3)] [(.ref a1)]
  obtain ⟨T1, X1, e1, st1⟩ := getF X0 hx hZ hown (host := "") (Or.inl (own_u hw 116 rfl)) Via.refl e0 i_Fr (g := (mkF m 1 #[.val (.ref a1), .val (.int (3 : Int32)), .val (.int r3)] [(.ref a1)])) rfl rfl (hb hby own_d16_1)
  refine own_via st1 ?_
  show own_H T1 4 #[.val (.ref a1), .val (.int (3 : Int32)), .val (.int r3)] [(.ref ra)]
  refine own_via (fun t k => XS.iloadN X1.here hx rfl (hb hby own_d16_4) rfl k) ?_
  refine own_via (fun t k => XS.iloadN X1.here hx rfl (hb hby own_d16_5) rfl k) ?_
  show own_H T1 6 #[.val (.ref a1), .val (.int (3 : Int32)), .val (.int r3)] [(.int r3), (.int (3 : Int32)), (.ref ra)]
  obtain ⟨T2, h2, L2, X2, N2, e2, W2, V2, st2⟩ := own_stI X1 N0 hx hZ e1 i_Ar g_ra (j := (3 : Int32)) (x := r3) (i := 3) ⟨by decide, by decide⟩ rfl (Nat.le_of_ble_eq_true rfl) (pc := 6) (Ls := #[.val (.ref a1), .val (.int (3 : Int32)), .val (.int r3)]) (rest := []) (hb hby own_d16_6)
  refine own_via st2 ?_
  have f5 := i_Fv.other W2 (Or.inl ne_a1_ra)
  have f6 := i_Fo.other W2 (Or.inl ne_a1_ra)
  have f7 := i_Fq.other W2 (Or.inl ne_a1_ra)
  have f8 := i_Av.other W2 (Ne.symm ne_ra_va)
  have f9 := i_E1.wr W2
  have f10 := i_Fw1.other W2 (Or.inl (Ne.symm ne_ra_b_1))
  have f11 := i_A1.other W2 (Ne.symm ne_ra_w_1)
  have f12 := i_Fu1.other W2 (Or.inl (Ne.symm ne_ra_b_1))
  have f13 := i_E2.wr W2
  have f14 := i_Fw2.other W2 (Or.inl (Ne.symm ne_ra_b_2))
  have f15 := i_A2.other W2 (Ne.symm ne_ra_w_2)
  have f16 := i_Fu2.other W2 (Or.inl (Ne.symm ne_ra_b_2))
  have f17 := i_S1.wr W2
  have Kp18 := K0.wr W2 (Or.inl (List.mem_of_getElem? (i := 0) rfl))
  have f19 : Arv Z h2 ra kr .int (4 : Int32) [(.int r0), (.int r1), (.int r2), (.int r3)] (.int (0 : Int32)) := V2
  have Zs20 : n0 ≤ h2.size := by rw [W2.size]; exact Z0
  show own_H T2 7 #[.val (.ref a1), .val (.int (3 : Int32)), .val (.int r3)] []
  clear i_Ea i_Fr i_Fv i_Fo i_Fq i_Ar i_Av i_E1 i_Fw1 i_A1 i_Fu1 i_E2 i_Fw2 i_A2 i_Fu2 i_S1 K0
  refine own_via (fun t k => XS.aloadN X2.here hx rfl (hb hby own_d16_7) rfl rfl k) ?_
  show own_H T2 8 #[.val (.ref a1), .val (.int (3 : Int32)), .val (.int r3)] [(.ref a1)]
  obtain ⟨T21, X21, e21, st21⟩ := getF X2 hx hZ hown (host := "") (Or.inl (own_u hw 88 rfl)) Via.refl e2 f6 (g := (mkF m 8 #[.val (.ref a1), .val (.int (3 : Int32)), .val (.int r3)] [(.ref a1)])) rfl rfl (hb hby own_d16_8)
  refine own_via st21 ?_
  show own_H T21 11 #[.val (.ref a1), .val (.int (3 : Int32)), .val (.int r3)] [(.ref b_1)]
  refine own_via (fun t k => XS.iloadN X21.here hx rfl (hb hby own_d16_11) rfl k) ?_
  refine own_via (fun t k => XS.iloadN X21.here hx rfl (hb hby own_d16_12) rfl k) ?_
  show own_H T21 13 #[.val (.ref a1), .val (.int (3 : Int32)), .val (.int r3)] [(.int r3), (.int (3 : Int32)), (.ref b_1)]
  have J22 : ∀ (TJ22 : State) (XJ22 : Stand p l e own_sr3_R s m #[(.ref a1), (.int (3 : Int32)), (.int r3)] below meth c TJ22 L2 0 0) (EJ22 : TJ22.heap = h2) (zj23 : Int32), zj23 = (if (0 : Int32) < r3 then (1 : Int32) else (0 : Int32)) → own_G p e below (own_P s (own_W n0 (own_sr3_q Z a1 r3 ra va b_1 w_1 b_2 w_2 kr kv k_1 k_2 W_1 W_2 u1 u2 r0 r1 r2 v_0 v_1 v_2 v_3 h0)) own_sr3_R.cells own_sr3_R.slots) (TJ22.setTop (mkF m 21 #[.val (.ref a1), .val (.int (3 : Int32)), .val (.int r3)] [(.int zj23), (.int (3 : Int32)), (.ref b_1)])) := by
    intro TJ22 XJ22 EJ22 zj23 hzj23
    obtain ⟨v24, T24, h24, L24, X24, N24, e24, hq24, st24⟩ := own_callV (y := (⟨"java/util/BitSet", "set", "(IZ)V"⟩ : MethodName)) (z := (⟨"java/util/BitSet", "set", "(IZ)V"⟩ : MethodName)) (W := 0) (a := b_1) XJ22 N2 hx hZ hown (own_u hw 143 rfl) (own_u hw 144 rfl) (notFace_of_selects (args := #[]) (mvT hZ (own_u hw 146 rfl))) (own_u hw 146 rfl) (own_u hw 145 rfl) (own_u hw 68 rfl) (own_u hw 147 rfl) (by decide) (own_sz l Z a0 hw [] b_1 (3 : Int32) zj23 w_1 k_1 W_1 u1 h2 n0 Zs20 f9 f10 f11 f12 f17 g_b_1 g_w_1 ne_b_1_w_1 (by decide) (by decide)) (by decide) (by decide) (by decide) (by decide) EJ22 f9 (pc := 21) (Ls := #[.val (.ref a1), .val (.int (3 : Int32)), .val (.int r3)]) (st := [(.int zj23), (.int (3 : Int32)), (.ref b_1)]) (argsL := [(.int (3 : Int32)), (.int zj23)]) (rest := []) (by rw [hml]; rfl) (lenOf own_pd3 rfl) rfl rfl (Nat.le_of_eq rfl) (hb hby own_d16_21)
    obtain ⟨W_224, u224, rfl, K24, o24_0, o24_1, o24_2, o24_3⟩ := hq24
    refine own_via st24 ?_
    have f27 := f5.keep K24 (by simp only [List.mem_cons, List.not_mem_nil, or_false, not_or]; exact ⟨ne_a1_b_1, ne_a1_w_1⟩)
    have f29 := f7.keep K24 (by simp only [List.mem_cons, List.not_mem_nil, or_false, not_or]; exact ⟨ne_a1_b_1, ne_a1_w_1⟩)
    have f30 := f8.keep K24 (by simp only [List.mem_cons, List.not_mem_nil, or_false, not_or]; exact ⟨ne_va_b_1, ne_va_w_1⟩)
    have f32 := f13.keep K24
    have f33 := f14.keep K24 (by simp only [List.mem_cons, List.not_mem_nil, or_false, not_or]; exact ⟨(Ne.symm ne_b_1_b_2), (Ne.symm ne_w_1_b_2)⟩)
    have f34 := f15.keep K24 (by simp only [List.mem_cons, List.not_mem_nil, or_false, not_or]; exact ⟨(Ne.symm ne_b_1_w_2), (Ne.symm ne_w_1_w_2)⟩)
    have f35 := f16.keep K24 (by simp only [List.mem_cons, List.not_mem_nil, or_false, not_or]; exact ⟨(Ne.symm ne_b_1_b_2), (Ne.symm ne_w_1_b_2)⟩)
    have f36 := own_staK f17 K24 (fun x hx => by simp only [List.mem_cons, List.not_mem_nil, or_false] at hx; rcases hx with rfl | rfl <;> first | exact f9.nostat | exact f11.nostat)
    have f37 := f19.keep K24 (by simp only [List.mem_cons, List.not_mem_nil, or_false, not_or]; exact ⟨ne_ra_b_1, ne_ra_w_1⟩)
    have Kp38 := Kp18.trans K24 (fun x hx => by simp only [List.mem_cons, List.not_mem_nil, or_false] at hx; rcases hx with rfl | rfl <;> first | exact (Or.inl (List.mem_of_getElem? (i := 1) rfl)) | exact (Or.inl (List.mem_of_getElem? (i := 2) rfl)))
    have Zs39 : n0 ≤ h24.size := Nat.le_trans Zs20 K24.1
    show own_H T24 24 #[.val (.ref a1), .val (.int (3 : Int32)), .val (.int r3)] []
    clear f5 f6 f7 f8 f9 f10 f11 f12 f13 f14 f15 f16 f17 f19 Kp18 Zs20
    refine own_via (fun t k => XS.aloadN X24.here hx rfl (hb hby own_d16_24) rfl rfl k) ?_
    show own_H T24 25 #[.val (.ref a1), .val (.int (3 : Int32)), .val (.int r3)] [(.ref a1)]
    obtain ⟨T40, X40, e40, st40⟩ := getF X24 hx hZ hown (host := "") (Or.inl (own_u hw 90 rfl)) Via.refl e24 f29 (g := (mkF m 25 #[.val (.ref a1), .val (.int (3 : Int32)), .val (.int r3)] [(.ref a1)])) rfl rfl (hb hby own_d16_25)
    refine own_via st40 ?_
    show own_H T40 28 #[.val (.ref a1), .val (.int (3 : Int32)), .val (.int r3)] [(.ref b_2)]
    refine own_via (fun t k => XS.aloadN X40.here hx rfl (hb hby own_d16_28) rfl rfl k) ?_
    show own_H T40 29 #[.val (.ref a1), .val (.int (3 : Int32)), .val (.int r3)] [(.ref a1), (.ref b_2)]
    obtain ⟨T41, X41, e41, st41⟩ := getF X40 hx hZ hown (host := "") (Or.inl (own_u hw 137 rfl)) Via.refl e40 f27 (g := (mkF m 29 #[.val (.ref a1), .val (.int (3 : Int32)), .val (.int r3)] [(.ref a1), (.ref b_2)])) rfl rfl (hb hby own_d16_29)
    refine own_via st41 ?_
    show own_H T41 32 #[.val (.ref a1), .val (.int (3 : Int32)), .val (.int r3)] [(.ref va), (.ref b_2)]
    refine own_via (fun t k => XS.iloadN X41.here hx rfl (hb hby own_d16_32) rfl k) ?_
    show own_H T41 33 #[.val (.ref a1), .val (.int (3 : Int32)), .val (.int r3)] [(.int (3 : Int32)), (.ref va), (.ref b_2)]
    refine own_via (own_ldI X41 hx hZ e41 f30 (j := (3 : Int32)) ⟨by decide, by decide⟩ (v := (.int v_3)) rfl (pc := 33) (Ls := #[.val (.ref a1), .val (.int (3 : Int32)), .val (.int r3)]) (rest := [(.ref b_2)]) (hb hby own_d16_33)) ?_
    show own_H T41 34 #[.val (.ref a1), .val (.int (3 : Int32)), .val (.int r3)] [(.int v_3), (.ref b_2)]
    refine own_via (fun t k => XS.iloadN X41.here hx rfl (hb hby own_d16_34) rfl k) ?_
    show own_H T41 35 #[.val (.ref a1), .val (.int (3 : Int32)), .val (.int r3)] [(.int r3), (.int v_3), (.ref b_2)]
    have J42 : ∀ (TJ42 : State) (XJ42 : Stand p l e own_sr3_R s m #[(.ref a1), (.int (3 : Int32)), (.int r3)] below meth c TJ42 L24 0 0) (EJ42 : TJ42.heap = h24) (zj43 : Int32), zj43 = (if (0 : Int32) < r3 then (1 : Int32) else (0 : Int32)) → own_G p e below (own_P s (own_W n0 (own_sr3_q Z a1 r3 ra va b_1 w_1 b_2 w_2 kr kv k_1 k_2 W_1 W_2 u1 u2 r0 r1 r2 v_0 v_1 v_2 v_3 h0)) own_sr3_R.cells own_sr3_R.slots) (TJ42.setTop (mkF m 43 #[.val (.ref a1), .val (.int (3 : Int32)), .val (.int r3)] [(.int zj43), (.int v_3), (.ref b_2)])) := by
      intro TJ42 XJ42 EJ42 zj43 hzj43
      obtain ⟨v44, T44, h44, L44, X44, N44, e44, hq44, st44⟩ := own_callV (y := (⟨"java/util/BitSet", "set", "(IZ)V"⟩ : MethodName)) (z := (⟨"java/util/BitSet", "set", "(IZ)V"⟩ : MethodName)) (W := 0) (a := b_2) XJ42 N24 hx hZ hown (own_u hw 143 rfl) (own_u hw 144 rfl) (notFace_of_selects (args := #[]) (mvT hZ (own_u hw 146 rfl))) (own_u hw 146 rfl) (own_u hw 145 rfl) (own_u hw 68 rfl) (own_u hw 147 rfl) (by decide) (own_sz l Z a0 hw [] b_2 v_3 zj43 w_2 k_2 W_2 u2 h24 n0 Zs39 f32 f33 f34 f35 f36 g_b_2 g_w_2 ne_b_2_w_2 hp_h1 hp_h2) (by decide) (by decide) (by decide) (by decide) EJ42 f32 (pc := 43) (Ls := #[.val (.ref a1), .val (.int (3 : Int32)), .val (.int r3)]) (st := [(.int zj43), (.int v_3), (.ref b_2)]) (argsL := [(.int v_3), (.int zj43)]) (rest := []) (by rw [hml]; rfl) (lenOf own_pd3 rfl) rfl rfl (Nat.le_of_eq rfl) (hb hby own_d16_43)
      obtain ⟨W_244, u244, rfl, K44, o44_0, o44_1, o44_2, o44_3⟩ := hq44
      refine own_via st44 ?_
      have f51 := o24_0.keep K44
      have f54 := f37.keep K44 (by simp only [List.mem_cons, List.not_mem_nil, or_false, not_or]; exact ⟨ne_ra_b_2, ne_ra_w_2⟩)
      have f55 := o24_1.keep K44 (by simp only [List.mem_cons, List.not_mem_nil, or_false, not_or]; exact ⟨ne_b_1_b_2, ne_b_1_w_2⟩)
      have f56 := o24_2.keep K44 (by simp only [List.mem_cons, List.not_mem_nil, or_false, not_or]; exact ⟨ne_w_1_b_2, ne_w_1_w_2⟩)
      have f57 := o24_3.keep K44 (by simp only [List.mem_cons, List.not_mem_nil, or_false, not_or]; exact ⟨ne_b_1_b_2, ne_b_1_w_2⟩)
      have Kp58 := Kp38.trans K44 (fun x hx => by simp only [List.mem_cons, List.not_mem_nil, or_false] at hx; rcases hx with rfl | rfl <;> first | exact (Or.inl (List.mem_of_getElem? (i := 3) rfl)) | exact (Or.inl (List.mem_of_getElem? (i := 4) rfl)))
      show own_H T44 46 #[.val (.ref a1), .val (.int (3 : Int32)), .val (.int r3)] []
      clear f27 f29 f30 o24_0 f32 f33 f34 f35 f36 f37 o24_1 o24_2 o24_3 Kp38 Zs39
      exact own_retV X44 hx Bd.returns Bd.notSynchronized (hb hby own_d16_46) (by rw [e44]; exact ⟨N44, W_224, u224, W_244, u244, rfl, Kp58, f54, f51, f55, f56, f57, o44_0, o44_1, o44_2, o44_3⟩) (by decide) (by decide)
    by_cases hc60 : (0 : Int32) < r3
    ·
      refine own_via (fun t k => XS.ifNo X41.here hx rfl (hb hby own_d16_35) rfl ((if0 _ _).trans (tlt hc60).2.2.2) k) ?_
      show own_H T41 38 #[.val (.ref a1), .val (.int (3 : Int32)), .val (.int r3)] [(.int v_3), (.ref b_2)]
      refine own_via (fun t k => XS.iconst X41.here hx rfl (hb hby own_d16_38) k) ?_
      show own_H T41 39 #[.val (.ref a1), .val (.int (3 : Int32)), .val (.int r3)] [(.int (1 : Int32)), (.int v_3), (.ref b_2)]
      refine own_via (fun t k => XS.goto X41.here hx rfl (pc0 := 39) (pc' := 43) rfl (hb hby own_d16_39) (by decide) (by decide) k) ?_
      show own_H T41 43 #[.val (.ref a1), .val (.int (3 : Int32)), .val (.int r3)] [(.int (1 : Int32)), (.int v_3), (.ref b_2)]
      exact J42 _ X41 e41 _ (by simp only [if_pos hc60])
    ·
      refine own_via (fun t k => XS.ifYes X41.here hx rfl (pc0 := 35) (pc' := 42) rfl (hb hby own_d16_35) rfl ((if0 _ _).trans (flt hc60).2.2.2) (by decide) (by decide) k) ?_
      show own_H T41 42 #[.val (.ref a1), .val (.int (3 : Int32)), .val (.int r3)] [(.int v_3), (.ref b_2)]
      refine own_via (fun t k => XS.iconst X41.here hx rfl (hb hby own_d16_42) k) ?_
      show own_H T41 43 #[.val (.ref a1), .val (.int (3 : Int32)), .val (.int r3)] [(.int (0 : Int32)), (.int v_3), (.ref b_2)]
      exact J42 _ X41 e41 _ (by simp only [if_neg hc60])
  by_cases hc61 : (0 : Int32) < r3
  ·
    refine own_via (fun t k => XS.ifNo X21.here hx rfl (hb hby own_d16_13) rfl ((if0 _ _).trans (tlt hc61).2.2.2) k) ?_
    show own_H T21 16 #[.val (.ref a1), .val (.int (3 : Int32)), .val (.int r3)] [(.int (3 : Int32)), (.ref b_1)]
    refine own_via (fun t k => XS.iconst X21.here hx rfl (hb hby own_d16_16) k) ?_
    show own_H T21 17 #[.val (.ref a1), .val (.int (3 : Int32)), .val (.int r3)] [(.int (1 : Int32)), (.int (3 : Int32)), (.ref b_1)]
    refine own_via (fun t k => XS.goto X21.here hx rfl (pc0 := 17) (pc' := 21) rfl (hb hby own_d16_17) (by decide) (by decide) k) ?_
    show own_H T21 21 #[.val (.ref a1), .val (.int (3 : Int32)), .val (.int r3)] [(.int (1 : Int32)), (.int (3 : Int32)), (.ref b_1)]
    exact J22 _ X21 e21 _ (by simp only [if_pos hc61])
  ·
    refine own_via (fun t k => XS.ifYes X21.here hx rfl (pc0 := 13) (pc' := 20) rfl (hb hby own_d16_13) rfl ((if0 _ _).trans (flt hc61).2.2.2) (by decide) (by decide) k) ?_
    show own_H T21 20 #[.val (.ref a1), .val (.int (3 : Int32)), .val (.int r3)] [(.int (3 : Int32)), (.ref b_1)]
    refine own_via (fun t k => XS.iconst X21.here hx rfl (hb hby own_d16_20) k) ?_
    show own_H T21 21 #[.val (.ref a1), .val (.int (3 : Int32)), .val (.int r3)] [(.int (0 : Int32)), (.int (3 : Int32)), (.ref b_1)]
    exact J22 _ X21 e21 _ (by simp only [if_neg hc61])
theorem own_d13_0 : decode prog_28_method_9_code 0 = .ok (.aload_n 0, 1) := by decide +kernel
theorem own_d13_1 : decode prog_28_method_9_code 1 = .ok (.getfield 25, 3) := by decide +kernel
theorem own_d13_4 : decode prog_28_method_9_code 4 = .ok (.areturn, 1) := by decide +kernel
abbrev own_g_firstArcs_R : Room := { frames := 0, cells := 0, slots := 0, locals := 0 }
theorem own_pn13 : plainFor (⟨"com/example/dissoc/dissoc/mincut/FlowNetwork", "firstArcs", "()[I"⟩ : MethodName) = true := plainFor_of_name (by first | (simp [plainName, overriddenIn]; done) | decide +kernel)
theorem own_g_firstArcs_ef (m : MethodId) (a1 : Addr) : entryFrame m #[(.ref a1)] 1 = mkF m 0 #[.val (.ref a1)] [] := by first | (simp [entryFrame, mkF, argsToLocals, Value.category]; done) | rfl
set_option maxRecDepth 65536 in
set_option maxHeartbeats 40000000 in
theorem own_g_firstArcs (l : Launch) (Z : State) (a0 : Array Value) (hw : ∀ d ∈ tables_1, d.before a0 Z = true) (ws : List Jvm.Cond) (a1 : Addr) (x1 : Addr) (h0 : Heap)  (i_F1 : Fld Z h0 a1 own_cN "firstArc" "[I" (.ref x1)) :
    own_C l Z (⟨"com/example/dissoc/dissoc/mincut/FlowNetwork", "firstArcs", "()[I"⟩ : MethodName) prog_28_method_9_code 1 (some (.array .int)) ws own_g_firstArcs_R #[(.ref a1)] h0 (own_Q (.ref x1) h0) := by
  refine MetFree.of_bodySF own_pn13 hisR ?_
  intro p e s m args below meth c s₁ Bd hml0 hP hK
  obtain ⟨rfl, hZ, hh⟩ := hP
  have hx := Bd.exec
  have hby := Bd.bytes
  have hml : c.maxLocals = 1 := hml0
  have hown : s.vm.findClass "com/example/dissoc/dissoc/mincut/FlowNetwork" = some m.cls := findClass_of_methodNamed Bd.named
  have hnm := (name_of_methodNamed Bd.named Bd.method).1
  have X0 : Stand p l e own_g_firstArcs_R s m #[(.ref a1)] below meth c s₁ [] 0 0 := Stand.of_body Bd
  have e0 : s₁.heap = h0 := by rw [← hh, Bd.state]; rfl
  show own_G p e below (own_P s (own_Q (.ref x1) h0) own_g_firstArcs_R.cells own_g_firstArcs_R.slots) (s₁.setTop (entryFrame m #[(.ref a1)] 1))
  rw [own_g_firstArcs_ef m a1]
  show own_H s₁ 0 #[.val (.ref a1)] []
  refine own_via (fun t k => XS.aloadN X0.here hx rfl (hb hby own_d13_0) rfl rfl k) ?_
  show own_H s₁ 1 #[.val (.ref a1)] [(.ref a1)]
  obtain ⟨T1, X1, e1, st1⟩ := getF X0 hx hZ hown (host := "") (Or.inl (own_u hw 24 rfl)) Via.refl e0 i_F1 (g := (mkF m 1 #[.val (.ref a1)] [(.ref a1)])) rfl rfl (hb hby own_d13_1)
  refine own_via st1 ?_
  show own_H T1 4 #[.val (.ref a1)] [(.ref x1)]
  exact own_retA X1 hx Bd.returns rfl rfl Bd.notSynchronized (hb hby own_d13_4) ⟨rfl, rfl, e1⟩ (by decide) (by decide)
theorem own_d14_0 : decode prog_28_method_10_code 0 = .ok (.aload_n 0, 1) := by decide +kernel
theorem own_d14_1 : decode prog_28_method_10_code 1 = .ok (.getfield 62, 3) := by decide +kernel
theorem own_d14_4 : decode prog_28_method_10_code 4 = .ok (.areturn, 1) := by decide +kernel
abbrev own_g_targets_R : Room := { frames := 0, cells := 0, slots := 0, locals := 0 }
theorem own_pn14 : plainFor (⟨"com/example/dissoc/dissoc/mincut/FlowNetwork", "targets", "()[I"⟩ : MethodName) = true := plainFor_of_name (by first | (simp [plainName, overriddenIn]; done) | decide +kernel)
theorem own_g_targets_ef (m : MethodId) (a1 : Addr) : entryFrame m #[(.ref a1)] 1 = mkF m 0 #[.val (.ref a1)] [] := by first | (simp [entryFrame, mkF, argsToLocals, Value.category]; done) | rfl
set_option maxRecDepth 65536 in
set_option maxHeartbeats 40000000 in
theorem own_g_targets (l : Launch) (Z : State) (a0 : Array Value) (hw : ∀ d ∈ tables_1, d.before a0 Z = true) (ws : List Jvm.Cond) (a1 : Addr) (x1 : Addr) (h0 : Heap)  (i_F1 : Fld Z h0 a1 own_cN "target" "[I" (.ref x1)) :
    own_C l Z (⟨"com/example/dissoc/dissoc/mincut/FlowNetwork", "targets", "()[I"⟩ : MethodName) prog_28_method_10_code 1 (some (.array .int)) ws own_g_targets_R #[(.ref a1)] h0 (own_Q (.ref x1) h0) := by
  refine MetFree.of_bodySF own_pn14 hisR ?_
  intro p e s m args below meth c s₁ Bd hml0 hP hK
  obtain ⟨rfl, hZ, hh⟩ := hP
  have hx := Bd.exec
  have hby := Bd.bytes
  have hml : c.maxLocals = 1 := hml0
  have hown : s.vm.findClass "com/example/dissoc/dissoc/mincut/FlowNetwork" = some m.cls := findClass_of_methodNamed Bd.named
  have hnm := (name_of_methodNamed Bd.named Bd.method).1
  have X0 : Stand p l e own_g_targets_R s m #[(.ref a1)] below meth c s₁ [] 0 0 := Stand.of_body Bd
  have e0 : s₁.heap = h0 := by rw [← hh, Bd.state]; rfl
  show own_G p e below (own_P s (own_Q (.ref x1) h0) own_g_targets_R.cells own_g_targets_R.slots) (s₁.setTop (entryFrame m #[(.ref a1)] 1))
  rw [own_g_targets_ef m a1]
  show own_H s₁ 0 #[.val (.ref a1)] []
  refine own_via (fun t k => XS.aloadN X0.here hx rfl (hb hby own_d14_0) rfl rfl k) ?_
  show own_H s₁ 1 #[.val (.ref a1)] [(.ref a1)]
  obtain ⟨T1, X1, e1, st1⟩ := getF X0 hx hZ hown (host := "") (Or.inl (own_u hw 42 rfl)) Via.refl e0 i_F1 (g := (mkF m 1 #[.val (.ref a1)] [(.ref a1)])) rfl rfl (hb hby own_d14_1)
  refine own_via st1 ?_
  show own_H T1 4 #[.val (.ref a1)] [(.ref x1)]
  exact own_retA X1 hx Bd.returns rfl rfl Bd.notSynchronized (hb hby own_d14_4) ⟨rfl, rfl, e1⟩ (by decide) (by decide)
theorem own_d15_0 : decode prog_28_method_11_code 0 = .ok (.aload_n 0, 1) := by decide +kernel
theorem own_d15_1 : decode prog_28_method_11_code 1 = .ok (.getfield 65, 3) := by decide +kernel
theorem own_d15_4 : decode prog_28_method_11_code 4 = .ok (.areturn, 1) := by decide +kernel
abbrev own_g_reverses_R : Room := { frames := 0, cells := 0, slots := 0, locals := 0 }
theorem own_pn15 : plainFor (⟨"com/example/dissoc/dissoc/mincut/FlowNetwork", "reverses", "()[I"⟩ : MethodName) = true := plainFor_of_name (by first | (simp [plainName, overriddenIn]; done) | decide +kernel)
theorem own_g_reverses_ef (m : MethodId) (a1 : Addr) : entryFrame m #[(.ref a1)] 1 = mkF m 0 #[.val (.ref a1)] [] := by first | (simp [entryFrame, mkF, argsToLocals, Value.category]; done) | rfl
set_option maxRecDepth 65536 in
set_option maxHeartbeats 40000000 in
theorem own_g_reverses (l : Launch) (Z : State) (a0 : Array Value) (hw : ∀ d ∈ tables_1, d.before a0 Z = true) (ws : List Jvm.Cond) (a1 : Addr) (x1 : Addr) (h0 : Heap)  (i_F1 : Fld Z h0 a1 own_cN "reverse" "[I" (.ref x1)) :
    own_C l Z (⟨"com/example/dissoc/dissoc/mincut/FlowNetwork", "reverses", "()[I"⟩ : MethodName) prog_28_method_11_code 1 (some (.array .int)) ws own_g_reverses_R #[(.ref a1)] h0 (own_Q (.ref x1) h0) := by
  refine MetFree.of_bodySF own_pn15 hisR ?_
  intro p e s m args below meth c s₁ Bd hml0 hP hK
  obtain ⟨rfl, hZ, hh⟩ := hP
  have hx := Bd.exec
  have hby := Bd.bytes
  have hml : c.maxLocals = 1 := hml0
  have hown : s.vm.findClass "com/example/dissoc/dissoc/mincut/FlowNetwork" = some m.cls := findClass_of_methodNamed Bd.named
  have hnm := (name_of_methodNamed Bd.named Bd.method).1
  have X0 : Stand p l e own_g_reverses_R s m #[(.ref a1)] below meth c s₁ [] 0 0 := Stand.of_body Bd
  have e0 : s₁.heap = h0 := by rw [← hh, Bd.state]; rfl
  show own_G p e below (own_P s (own_Q (.ref x1) h0) own_g_reverses_R.cells own_g_reverses_R.slots) (s₁.setTop (entryFrame m #[(.ref a1)] 1))
  rw [own_g_reverses_ef m a1]
  show own_H s₁ 0 #[.val (.ref a1)] []
  refine own_via (fun t k => XS.aloadN X0.here hx rfl (hb hby own_d15_0) rfl rfl k) ?_
  show own_H s₁ 1 #[.val (.ref a1)] [(.ref a1)]
  obtain ⟨T1, X1, e1, st1⟩ := getF X0 hx hZ hown (host := "") (Or.inl (own_u hw 46 rfl)) Via.refl e0 i_F1 (g := (mkF m 1 #[.val (.ref a1)] [(.ref a1)])) rfl rfl (hb hby own_d15_1)
  refine own_via st1 ?_
  show own_H T1 4 #[.val (.ref a1)] [(.ref x1)]
  exact own_retA X1 hx Bd.returns rfl rfl Bd.notSynchronized (hb hby own_d15_4) ⟨rfl, rfl, e1⟩ (by decide) (by decide)
theorem own_d24_0 : decode prog_28_method_3_code 0 = .ok (.aload_n 0, 1) := by decide +kernel
theorem own_d24_1 : decode prog_28_method_3_code 1 = .ok (.getfield 21, 3) := by decide +kernel
theorem own_d24_4 : decode prog_28_method_3_code 4 = .ok (.ireturn, 1) := by decide +kernel
abbrev own_g_nodes_R : Room := { frames := 0, cells := 0, slots := 0, locals := 0 }
theorem own_pn24 : plainFor (⟨"com/example/dissoc/dissoc/mincut/FlowNetwork", "nodes", "()I"⟩ : MethodName) = true := plainFor_of_name (by first | (simp [plainName, overriddenIn]; done) | decide +kernel)
theorem own_g_nodes_ef (m : MethodId) (a1 : Addr) : entryFrame m #[(.ref a1)] 1 = mkF m 0 #[.val (.ref a1)] [] := by first | (simp [entryFrame, mkF, argsToLocals, Value.category]; done) | rfl
set_option maxRecDepth 65536 in
set_option maxHeartbeats 40000000 in
theorem own_g_nodes (l : Launch) (Z : State) (a0 : Array Value) (hw : ∀ d ∈ tables_1, d.before a0 Z = true) (ws : List Jvm.Cond) (a1 : Addr) (n1 : Int32) (h0 : Heap)  (i_F1 : Fld Z h0 a1 own_cN "nodes" "I" (.int n1)) :
    own_C l Z (⟨"com/example/dissoc/dissoc/mincut/FlowNetwork", "nodes", "()I"⟩ : MethodName) prog_28_method_3_code 1 (some .int) ws own_g_nodes_R #[(.ref a1)] h0 (own_Q (.int n1) h0) := by
  refine MetFree.of_bodySF own_pn24 hisR ?_
  intro p e s m args below meth c s₁ Bd hml0 hP hK
  obtain ⟨rfl, hZ, hh⟩ := hP
  have hx := Bd.exec
  have hby := Bd.bytes
  have hml : c.maxLocals = 1 := hml0
  have hown : s.vm.findClass "com/example/dissoc/dissoc/mincut/FlowNetwork" = some m.cls := findClass_of_methodNamed Bd.named
  have hnm := (name_of_methodNamed Bd.named Bd.method).1
  have X0 : Stand p l e own_g_nodes_R s m #[(.ref a1)] below meth c s₁ [] 0 0 := Stand.of_body Bd
  have e0 : s₁.heap = h0 := by rw [← hh, Bd.state]; rfl
  show own_G p e below (own_P s (own_Q (.int n1) h0) own_g_nodes_R.cells own_g_nodes_R.slots) (s₁.setTop (entryFrame m #[(.ref a1)] 1))
  rw [own_g_nodes_ef m a1]
  show own_H s₁ 0 #[.val (.ref a1)] []
  refine own_via (fun t k => XS.aloadN X0.here hx rfl (hb hby own_d24_0) rfl rfl k) ?_
  show own_H s₁ 1 #[.val (.ref a1)] [(.ref a1)]
  obtain ⟨T1, X1, e1, st1⟩ := getF X0 hx hZ hown (host := "") (Or.inl (own_u hw 17 rfl)) Via.refl e0 i_F1 (g := (mkF m 1 #[.val (.ref a1)] [(.ref a1)])) rfl rfl (hb hby own_d24_1)
  refine own_via st1 ?_
  show own_H T1 4 #[.val (.ref a1)] [(.int n1)]
  exact own_retI X1 hx Bd.returns Bd.notSynchronized (hb hby own_d24_4) ⟨rfl, rfl, e1⟩ (by decide) (by decide)
theorem own_d8_0 : decode prog_24_method_1_code 0 = .ok (.aload_n 0, 1) := by decide +kernel
theorem own_d8_1 : decode prog_24_method_1_code 1 = .ok (.invokespecial 1, 3) := by decide +kernel
theorem own_d8_4 : decode prog_24_method_1_code 4 = .ok (.aload_n 0, 1) := by decide +kernel
theorem own_d8_5 : decode prog_24_method_1_code 5 = .ok (.new 7, 3) := by decide +kernel
theorem own_d8_8 : decode prog_24_method_1_code 8 = .ok (.dup, 1) := by decide +kernel
theorem own_d8_9 : decode prog_24_method_1_code 9 = .ok (.invokespecial 9, 3) := by decide +kernel
theorem own_d8_12 : decode prog_24_method_1_code 12 = .ok (.putfield 10, 3) := by decide +kernel
theorem own_d8_15 : decode prog_24_method_1_code 15 = .ok (.aload_n 0, 1) := by decide +kernel
theorem own_d8_16 : decode prog_24_method_1_code 16 = .ok (.new 7, 3) := by decide +kernel
theorem own_d8_19 : decode prog_24_method_1_code 19 = .ok (.dup, 1) := by decide +kernel
theorem own_d8_20 : decode prog_24_method_1_code 20 = .ok (.invokespecial 9, 3) := by decide +kernel
theorem own_d8_23 : decode prog_24_method_1_code 23 = .ok (.putfield 16, 3) := by decide +kernel
theorem own_d8_26 : decode prog_24_method_1_code 26 = .ok (.aload_n 0, 1) := by decide +kernel
theorem own_d8_27 : decode prog_24_method_1_code 27 = .ok (.new 7, 3) := by decide +kernel
theorem own_d8_30 : decode prog_24_method_1_code 30 = .ok (.dup, 1) := by decide +kernel
theorem own_d8_31 : decode prog_24_method_1_code 31 = .ok (.invokespecial 9, 3) := by decide +kernel
theorem own_d8_34 : decode prog_24_method_1_code 34 = .ok (.putfield 19, 3) := by decide +kernel
theorem own_d8_37 : decode prog_24_method_1_code 37 = .ok (.aload_n 0, 1) := by decide +kernel
theorem own_d8_38 : decode prog_24_method_1_code 38 = .ok (.bipush 64, 2) := by decide +kernel
theorem own_d8_40 : decode prog_24_method_1_code 40 = .ok (.newarray .int, 2) := by decide +kernel
theorem own_d8_42 : decode prog_24_method_1_code 42 = .ok (.putfield 22, 3) := by decide +kernel
theorem own_d8_45 : decode prog_24_method_1_code 45 = .ok (.aload_n 0, 1) := by decide +kernel
theorem own_d8_46 : decode prog_24_method_1_code 46 = .ok (.new 26, 3) := by decide +kernel
theorem own_d8_49 : decode prog_24_method_1_code 49 = .ok (.dup, 1) := by decide +kernel
theorem own_d8_50 : decode prog_24_method_1_code 50 = .ok (.invokespecial 28, 3) := by decide +kernel
theorem own_d8_53 : decode prog_24_method_1_code 53 = .ok (.putfield 29, 3) := by decide +kernel
theorem own_d8_56 : decode prog_24_method_1_code 56 = .ok (.aload_n 0, 1) := by decide +kernel
theorem own_d8_57 : decode prog_24_method_1_code 57 = .ok (.new 26, 3) := by decide +kernel
theorem own_d8_60 : decode prog_24_method_1_code 60 = .ok (.dup, 1) := by decide +kernel
theorem own_d8_61 : decode prog_24_method_1_code 61 = .ok (.invokespecial 28, 3) := by decide +kernel
theorem own_d8_64 : decode prog_24_method_1_code 64 = .ok (.putfield 33, 3) := by decide +kernel
theorem own_d8_67 : decode prog_24_method_1_code 67 = .ok (.aload_n 0, 1) := by decide +kernel
theorem own_d8_68 : decode prog_24_method_1_code 68 = .ok (.aload_n 1, 1) := by decide +kernel
theorem own_d8_69 : decode prog_24_method_1_code 69 = .ok (.putfield 36, 3) := by decide +kernel
theorem own_d8_72 : decode prog_24_method_1_code 72 = .ok (.aload_n 0, 1) := by decide +kernel
theorem own_d8_73 : decode prog_24_method_1_code 73 = .ok (.aload_n 2, 1) := by decide +kernel
theorem own_d8_74 : decode prog_24_method_1_code 74 = .ok (.putfield 40, 3) := by decide +kernel
theorem own_d8_77 : decode prog_24_method_1_code 77 = .ok (.aload_n 0, 1) := by decide +kernel
theorem own_d8_78 : decode prog_24_method_1_code 78 = .ok (.aload_n 1, 1) := by decide +kernel
theorem own_d8_79 : decode prog_24_method_1_code 79 = .ok (.invokevirtual 43, 3) := by decide +kernel
theorem own_d8_82 : decode prog_24_method_1_code 82 = .ok (.putfield 49, 3) := by decide +kernel
theorem own_d8_85 : decode prog_24_method_1_code 85 = .ok (.aload_n 0, 1) := by decide +kernel
theorem own_d8_86 : decode prog_24_method_1_code 86 = .ok (.aload_n 1, 1) := by decide +kernel
theorem own_d8_87 : decode prog_24_method_1_code 87 = .ok (.invokevirtual 52, 3) := by decide +kernel
theorem own_d8_90 : decode prog_24_method_1_code 90 = .ok (.putfield 55, 3) := by decide +kernel
theorem own_d8_93 : decode prog_24_method_1_code 93 = .ok (.aload_n 0, 1) := by decide +kernel
theorem own_d8_94 : decode prog_24_method_1_code 94 = .ok (.aload_n 1, 1) := by decide +kernel
theorem own_d8_95 : decode prog_24_method_1_code 95 = .ok (.invokevirtual 58, 3) := by decide +kernel
theorem own_d8_98 : decode prog_24_method_1_code 98 = .ok (.putfield 61, 3) := by decide +kernel
theorem own_d8_101 : decode prog_24_method_1_code 101 = .ok (.iconst 0, 1) := by decide +kernel
theorem own_d8_102 : decode prog_24_method_1_code 102 = .ok (.istore_n 3, 1) := by decide +kernel
theorem own_d8_103 : decode prog_24_method_1_code 103 = .ok (.iload_n 3, 1) := by decide +kernel
theorem own_d8_104 : decode prog_24_method_1_code 104 = .ok (.aload_n 2, 1) := by decide +kernel
theorem own_d8_105 : decode prog_24_method_1_code 105 = .ok (.arraylength, 1) := by decide +kernel
theorem own_d8_106 : decode prog_24_method_1_code 106 = .ok (.if_icmp .ge 17, 3) := by decide +kernel
theorem own_d8_109 : decode prog_24_method_1_code 109 = .ok (.aload_n 0, 1) := by decide +kernel
theorem own_d8_110 : decode prog_24_method_1_code 110 = .ok (.iload_n 3, 1) := by decide +kernel
theorem own_d8_111 : decode prog_24_method_1_code 111 = .ok (.aload_n 2, 1) := by decide +kernel
theorem own_d8_112 : decode prog_24_method_1_code 112 = .ok (.iload_n 3, 1) := by decide +kernel
theorem own_d8_113 : decode prog_24_method_1_code 113 = .ok (.iaload, 1) := by decide +kernel
theorem own_d8_114 : decode prog_24_method_1_code 114 = .ok (.invokevirtual 64, 3) := by decide +kernel
theorem own_d8_117 : decode prog_24_method_1_code 117 = .ok (.iinc 3 1, 3) := by decide +kernel
theorem own_d8_120 : decode prog_24_method_1_code 120 = .ok (.goto (-17), 3) := by decide +kernel
theorem own_d8_123 : decode prog_24_method_1_code 123 = .ok (.aload_n 1, 1) := by decide +kernel
theorem own_d8_124 : decode prog_24_method_1_code 124 = .ok (.invokevirtual 68, 3) := by decide +kernel
theorem own_d8_127 : decode prog_24_method_1_code 127 = .ok (.istore_n 3, 1) := by decide +kernel
theorem own_d8_128 : decode prog_24_method_1_code 128 = .ok (.aload_n 0, 1) := by decide +kernel
theorem own_d8_129 : decode prog_24_method_1_code 129 = .ok (.iload_n 3, 1) := by decide +kernel
theorem own_d8_130 : decode prog_24_method_1_code 130 = .ok (.newarray .int, 2) := by decide +kernel
theorem own_d8_132 : decode prog_24_method_1_code 132 = .ok (.putfield 72, 3) := by decide +kernel
theorem own_d8_135 : decode prog_24_method_1_code 135 = .ok (.aload_n 0, 1) := by decide +kernel
theorem own_d8_136 : decode prog_24_method_1_code 136 = .ok (.iload_n 3, 1) := by decide +kernel
theorem own_d8_137 : decode prog_24_method_1_code 137 = .ok (.newarray .int, 2) := by decide +kernel
theorem own_d8_139 : decode prog_24_method_1_code 139 = .ok (.putfield 75, 3) := by decide +kernel
theorem own_d8_142 : decode prog_24_method_1_code 142 = .ok (.aload_n 0, 1) := by decide +kernel
theorem own_d8_143 : decode prog_24_method_1_code 143 = .ok (.iload_n 3, 1) := by decide +kernel
theorem own_d8_144 : decode prog_24_method_1_code 144 = .ok (.newarray .int, 2) := by decide +kernel
theorem own_d8_146 : decode prog_24_method_1_code 146 = .ok (.putfield 78, 3) := by decide +kernel
theorem own_d8_149 : decode prog_24_method_1_code 149 = .ok (.aload_n 0, 1) := by decide +kernel
theorem own_d8_150 : decode prog_24_method_1_code 150 = .ok (.iload_n 3, 1) := by decide +kernel
theorem own_d8_151 : decode prog_24_method_1_code 151 = .ok (.newarray .int, 2) := by decide +kernel
theorem own_d8_153 : decode prog_24_method_1_code 153 = .ok (.putfield 81, 3) := by decide +kernel
theorem own_d8_156 : decode prog_24_method_1_code 156 = .ok (.aload_n 0, 1) := by decide +kernel
theorem own_d8_157 : decode prog_24_method_1_code 157 = .ok (.iload_n 3, 1) := by decide +kernel
theorem own_d8_158 : decode prog_24_method_1_code 158 = .ok (.newarray .int, 2) := by decide +kernel
theorem own_d8_160 : decode prog_24_method_1_code 160 = .ok (.putfield 84, 3) := by decide +kernel
theorem own_d8_163 : decode prog_24_method_1_code 163 = .ok (.aload_n 0, 1) := by decide +kernel
theorem own_d8_164 : decode prog_24_method_1_code 164 = .ok (.iload_n 3, 1) := by decide +kernel
theorem own_d8_165 : decode prog_24_method_1_code 165 = .ok (.newarray .int, 2) := by decide +kernel
theorem own_d8_167 : decode prog_24_method_1_code 167 = .ok (.putfield 87, 3) := by decide +kernel
theorem own_d8_170 : decode prog_24_method_1_code 170 = .ok (.aload_n 0, 1) := by decide +kernel
theorem own_d8_171 : decode prog_24_method_1_code 171 = .ok (.iload_n 3, 1) := by decide +kernel
theorem own_d8_172 : decode prog_24_method_1_code 172 = .ok (.newarray .int, 2) := by decide +kernel
theorem own_d8_174 : decode prog_24_method_1_code 174 = .ok (.putfield 90, 3) := by decide +kernel
theorem own_d8_177 : decode prog_24_method_1_code 177 = .ok (.aload_n 0, 1) := by decide +kernel
theorem own_d8_178 : decode prog_24_method_1_code 178 = .ok (.iload_n 3, 1) := by decide +kernel
theorem own_d8_179 : decode prog_24_method_1_code 179 = .ok (.newarray .int, 2) := by decide +kernel
theorem own_d8_181 : decode prog_24_method_1_code 181 = .ok (.putfield 93, 3) := by decide +kernel
theorem own_d8_184 : decode prog_24_method_1_code 184 = .ok (.return_, 1) := by decide +kernel
abbrev own_fi_R : Room := { frames := 5, cells := 21, slots := 122, locals := 70 }
theorem own_pn8 : plainFor (⟨"com/example/dissoc/dissoc/mincut/Flow", "<init>", "(Lcom/example/dissoc/dissoc/mincut/FlowNetwork;[I)V"⟩ : MethodName) = true := plainFor_of_name (by first | (simp [plainName, overriddenIn]; done) | decide +kernel)
theorem own_fi_ef (m : MethodId) (a1 : Addr) (n1 : Addr) (ra : Addr) : entryFrame m #[(.ref a1), (.ref n1), (.ref ra)] 4 = mkF m 0 #[.val (.ref a1), .val (.ref n1), .val (.ref ra), .unset] [] := by first | (simp [entryFrame, mkF, argsToLocals, Value.category]; done) | rfl
def own_fi_q (Z : State) (a1 : Addr) (n1 : Addr) (ra : Addr) (c1 : Int32) (fa : Addr) (ta : Addr) (va : Addr) (kr : ClassId) (kv : ClassId) (r0 : Int32) (r1 : Int32) (r2 : Int32) (r3 : Int32) (v_0 : Int32) (v_1 : Int32) (v_2 : Int32) (v_3 : Int32) (h0 : Heap) (v : Option Value) (h : Heap) : Prop := v = none ∧ Keep h0 h [a1, ra]
set_option maxRecDepth 65536 in
set_option maxHeartbeats 40000000 in
theorem own_fi (l : Launch) (Z : State) (a0 : Array Value) (hw : ∀ d ∈ tables_1, d.before a0 Z = true) (ws : List Jvm.Cond) (a1 : Addr) (n1 : Addr) (ra : Addr) (c1 : Int32) (fa : Addr) (ta : Addr) (va : Addr) (kr : ClassId) (kv : ClassId) (r0 : Int32) (r1 : Int32) (r2 : Int32) (r3 : Int32) (v_0 : Int32) (v_1 : Int32) (v_2 : Int32) (v_3 : Int32) (h0 : Heap) (n0 : Nat) (Z0 : n0 ≤ h0.size) (i_Ea : Exa Z h0 a1 own_cF) (i_F_open : Fld Z h0 a1 own_cF "open" own_dB .null) (i_F_openReverse : Fld Z h0 a1 own_cF "openReverse" own_dB .null) (i_F_removed : Fld Z h0 a1 own_cF "removed" own_dB .null) (i_F_journal : Fld Z h0 a1 own_cF "journal" "[I" .null) (i_F_reachable : Fld Z h0 a1 own_cF "reachable" own_dS .null) (i_F_reaching : Fld Z h0 a1 own_cF "reaching" own_dS .null) (i_F_network : Fld Z h0 a1 own_cF "network" own_dN .null) (i_F_residual : Fld Z h0 a1 own_cF "residual" "[I" .null) (i_F_firstArc : Fld Z h0 a1 own_cF "firstArc" "[I" .null) (i_F_target : Fld Z h0 a1 own_cF "target" "[I" .null) (i_F_reverse : Fld Z h0 a1 own_cF "reverse" "[I" .null) (i_F_fromSources : Fld Z h0 a1 own_cF "fromSources" "[I" .null) (i_F_towardsSinks : Fld Z h0 a1 own_cF "towardsSinks" "[I" .null) (i_F_stampFrom : Fld Z h0 a1 own_cF "stampFrom" "[I" .null) (i_F_stampTowards : Fld Z h0 a1 own_cF "stampTowards" "[I" .null) (i_F_queueFrom : Fld Z h0 a1 own_cF "queueFrom" "[I" .null) (i_F_queueTowards : Fld Z h0 a1 own_cF "queueTowards" "[I" .null) (i_F_pathBack : Fld Z h0 a1 own_cF "pathBack" "[I" .null) (i_F_pathAhead : Fld Z h0 a1 own_cF "pathAhead" "[I" .null) (i_En : Exa Z h0 n1 own_cN) (i_Fn : Fld Z h0 n1 own_cN "nodes" "I" (.int c1)) (i_Fa : Fld Z h0 n1 own_cN "firstArc" "[I" (.ref fa)) (i_Ft : Fld Z h0 n1 own_cN "target" "[I" (.ref ta)) (i_Fv : Fld Z h0 n1 own_cN "reverse" "[I" (.ref va)) (i_Ar : Arv Z h0 ra kr .int (4 : Int32) [(.int r0), (.int r1), (.int r2), (.int r3)] (.int (0 : Int32))) (i_Av : Arv Z h0 va kv .int (4 : Int32) [(.int v_0), (.int v_1), (.int v_2), (.int v_3)] (.int (0 : Int32))) (i_S1 : Sta Z h0 own_cB "$assertionsDisabled" "Z" (.int (1 : Int32))) (g_a1 : n0 ≤ a1) (g_ra : n0 ≤ ra) (ne_a1_n1 : a1 ≠ n1) (ne_a1_ra : a1 ≠ ra) (ne_a1_va : a1 ≠ va) (ne_n1_ra : n1 ≠ ra) (ne_n1_va : n1 ≠ va) (ne_ra_va : ra ≠ va) (hp_c0 : ¬ (c1 < (0 : Int32))) (hp_c4 : c1.toNatClampNeg ≤ 4) (hp_a0 : ¬ (v_0 < (0 : Int32))) (hp_b0 : (own_F11 v_0) = (0 : Int32)) (hp_a1 : ¬ (v_1 < (0 : Int32))) (hp_b1 : (own_F11 v_1) = (0 : Int32)) (hp_a2 : ¬ (v_2 < (0 : Int32))) (hp_b2 : (own_F11 v_2) = (0 : Int32)) (hp_a3 : ¬ (v_3 < (0 : Int32))) (hp_b3 : (own_F11 v_3) = (0 : Int32)) :
    own_C l Z (⟨"com/example/dissoc/dissoc/mincut/Flow", "<init>", "(Lcom/example/dissoc/dissoc/mincut/FlowNetwork;[I)V"⟩ : MethodName) prog_24_method_1_code 4 none ws own_fi_R #[(.ref a1), (.ref n1), (.ref ra)] h0 (own_W n0 (own_fi_q Z a1 n1 ra c1 fa ta va kr kv r0 r1 r2 r3 v_0 v_1 v_2 v_3 h0)) := by
  refine MetFree.of_bodySF own_pn8 hisR ?_
  intro p e s m args below meth c s₁ Bd hml0 hP hK
  obtain ⟨rfl, hZ, hh⟩ := hP
  have hx := Bd.exec
  have hby := Bd.bytes
  have hml : c.maxLocals = 4 := hml0
  have hown : s.vm.findClass "com/example/dissoc/dissoc/mincut/Flow" = some m.cls := findClass_of_methodNamed Bd.named
  have hnm := (name_of_methodNamed Bd.named Bd.method).1
  have X0 : Stand p l e own_fi_R s m #[(.ref a1), (.ref n1), (.ref ra)] below meth c s₁ [] 0 0 := Stand.of_body Bd
  have e0 : s₁.heap = h0 := by rw [← hh, Bd.state]; rfl
  have N0 := Fr.nil n0
  have K0 : Keep h0 h0 [a1, ra] := Keep.refl h0 _
  show own_G p e below (own_P s (own_W n0 (own_fi_q Z a1 n1 ra c1 fa ta va kr kv r0 r1 r2 r3 v_0 v_1 v_2 v_3 h0)) own_fi_R.cells own_fi_R.slots) (s₁.setTop (entryFrame m #[(.ref a1), (.ref n1), (.ref ra)] 4))
  rw [own_fi_ef m a1 n1 ra]
  show own_H s₁ 0 #[.val (.ref a1), .val (.ref n1), .val (.ref ra), .unset] []
  refine own_via (fun t k => XS.aloadN X0.here hx rfl (hb hby own_d8_0) rfl rfl k) ?_
  show own_H s₁ 1 #[.val (.ref a1), .val (.ref n1), .val (.ref ra), .unset] [(.ref a1)]
  obtain ⟨T1, X1, e1, st1⟩ := initO X0 hx hZ hown (own_u hw 65 rfl) (own_u hw 8 rfl) (own_u hw 9 rfl) e0 (g := (mkF m 1 #[.val (.ref a1), .val (.ref n1), .val (.ref ra), .unset] [(.ref a1)])) rfl (by rw [hml]; rfl) rfl (hb hby own_d8_1) (by decide) (W := 0) (by show 2 * 0 + _ ≤ _; exact Nat.le_of_eq rfl) (by decide)
  refine own_via st1 ?_
  show own_H T1 4 #[.val (.ref a1), .val (.ref n1), .val (.ref ra), .unset] []
  refine own_via (fun t k => XS.aloadN X1.here hx rfl (hb hby own_d8_4) rfl rfl k) ?_
  show own_H T1 5 #[.val (.ref a1), .val (.ref n1), .val (.ref ra), .unset] [(.ref a1)]
  obtain ⟨T2, h2, b2, X2, e2, E2, ga2, A2, D2, st2⟩ := own_newO X1 hx hZ hown (own_u hw 66 rfl) (own_u hw 67 rfl) (own_u hw 68 rfl) e1 (pc := 5) (Ls := #[.val (.ref a1), .val (.ref n1), .val (.ref ra), .unset]) (rest := [(.ref a1)]) (hb hby own_d8_5) (by decide) (by decide)
  refine own_via st2 ?_
  have sz_b2 : h0.size ≤ b2 := Nat.le_trans K0.1 (Nat.le_of_eq ga2.symm)
  have ne3 : a1 ≠ b2 := Nat.ne_of_lt (Nat.lt_of_lt_of_le i_Ea.lt (Nat.le_of_eq ga2.symm))
  have ne4 : n1 ≠ b2 := Nat.ne_of_lt (Nat.lt_of_lt_of_le i_En.lt (Nat.le_of_eq ga2.symm))
  have ne5 : ra ≠ b2 := Nat.ne_of_lt (Nat.lt_of_lt_of_le i_Ar.lt (Nat.le_of_eq ga2.symm))
  have ne6 : va ≠ b2 := Nat.ne_of_lt (Nat.lt_of_lt_of_le i_Av.lt (Nat.le_of_eq ga2.symm))
  have f7 := i_Ea.ext E2
  have f8 := i_F_open.ext E2
  have f9 := i_F_openReverse.ext E2
  have f10 := i_F_removed.ext E2
  have f11 := i_F_journal.ext E2
  have f12 := i_F_reachable.ext E2
  have f13 := i_F_reaching.ext E2
  have f14 := i_F_network.ext E2
  have f15 := i_F_residual.ext E2
  have f16 := i_F_firstArc.ext E2
  have f17 := i_F_target.ext E2
  have f18 := i_F_reverse.ext E2
  have f19 := i_F_fromSources.ext E2
  have f20 := i_F_towardsSinks.ext E2
  have f21 := i_F_stampFrom.ext E2
  have f22 := i_F_stampTowards.ext E2
  have f23 := i_F_queueFrom.ext E2
  have f24 := i_F_queueTowards.ext E2
  have f25 := i_F_pathBack.ext E2
  have f26 := i_F_pathAhead.ext E2
  have f27 := i_En.ext E2
  have f28 := i_Fn.ext E2
  have f29 := i_Fa.ext E2
  have f30 := i_Ft.ext E2
  have f31 := i_Fv.ext E2
  have f32 := i_Ar.ext E2
  have f33 := i_Av.ext E2
  have f34 := i_S1.ext E2
  have Kp35 := K0.ext E2
  have f36 : Fld Z h2 b2 own_cB "wordsInUse" "I" (.int (0 : Int32)) := D2 (Or.inl (own_u hw 74 rfl)) (ty := .int) (by decide)
  have f37 : Fld Z h2 b2 own_cB "sizeIsSticky" "Z" (.int (0 : Int32)) := D2 (Or.inl (own_u hw 76 rfl)) (ty := .boolean) (by decide)
  have f38 : Fld Z h2 b2 own_cB "words" "[J" .null := D2 (Or.inl (own_u hw 87 rfl)) (ty := (.array .long)) (by decide)
  have g_b2 : n0 ≤ b2 := Nat.le_trans Z0 (Nat.le_of_eq ga2.symm)
  have Zs39 : n0 ≤ h2.size := Nat.le_trans Z0 E2.1
  show own_H T2 8 #[.val (.ref a1), .val (.ref n1), .val (.ref ra), .unset] [(.ref b2), (.ref a1)]
  clear i_Ea i_F_open i_F_openReverse i_F_removed i_F_journal i_F_reachable i_F_reaching i_F_network i_F_residual i_F_firstArc i_F_target i_F_reverse i_F_fromSources i_F_towardsSinks i_F_stampFrom i_F_stampTowards i_F_queueFrom i_F_queueTowards i_F_pathBack i_F_pathAhead i_En i_Fn i_Fa i_Ft i_Fv i_Ar i_Av i_S1 K0
  refine own_via (fun t k => XS.dup X2.here hx rfl (hb hby own_d8_8) rfl rfl k) ?_
  show own_H T2 9 #[.val (.ref a1), .val (.ref n1), .val (.ref ra), .unset] [(.ref b2), (.ref b2), (.ref a1)]
  obtain ⟨v40, T40, h40, L40, X40, N40, e40, hq40, st40⟩ := own_callI (y := (⟨"java/util/BitSet", "<init>", "()V"⟩ : MethodName)) (W := 2) (a := b2) X2 N0 hx hZ rfl hown (own_u hw 69 rfl) (own_u hw 70 rfl) (own_u hw 68 rfl) (own_u hw 71 rfl) (by decide) (own_bi l Z a0 hw [] b2 (.null) (.int (0 : Int32)) (.int (0 : Int32)) h2 n0 Zs39 A2 f38 f36 f37 g_b2) (by decide) (by decide) (by decide) (by decide) e2 (pc := 9) (Ls := #[.val (.ref a1), .val (.ref n1), .val (.ref ra), .unset]) (st := [(.ref b2), (.ref b2), (.ref a1)]) (argsL := []) (rest := [(.ref b2), (.ref a1)]) (by rw [hml]; rfl) (lenOf own_pd2 rfl) rfl rfl (Nat.le_of_eq rfl) (hb hby own_d8_9)
  obtain ⟨x40, kx40, rfl, K40, zf_x40, o40_0, o40_1, o40_2, o40_3⟩ := hq40
  refine own_via st40 ?_
  have ne41 : a1 ≠ x40 := Nat.ne_of_lt (Nat.lt_of_lt_of_le f7.lt zf_x40)
  have ne42 : n1 ≠ x40 := Nat.ne_of_lt (Nat.lt_of_lt_of_le f27.lt zf_x40)
  have ne43 : ra ≠ x40 := Nat.ne_of_lt (Nat.lt_of_lt_of_le f32.lt zf_x40)
  have ne44 : va ≠ x40 := Nat.ne_of_lt (Nat.lt_of_lt_of_le f33.lt zf_x40)
  have ne45 : b2 ≠ x40 := Nat.ne_of_lt (Nat.lt_of_lt_of_le A2.lt zf_x40)
  have g_x40 : n0 ≤ x40 := Nat.le_trans Zs39 zf_x40
  have sz_x40 : h0.size ≤ x40 := Nat.le_trans Kp35.1 zf_x40
  have f46 := f7.keep K40
  have f47 := f8.keep K40 (by simp only [List.mem_cons, List.not_mem_nil, or_false, not_or]; exact ne3)
  have f48 := f9.keep K40 (by simp only [List.mem_cons, List.not_mem_nil, or_false, not_or]; exact ne3)
  have f49 := f10.keep K40 (by simp only [List.mem_cons, List.not_mem_nil, or_false, not_or]; exact ne3)
  have f50 := f11.keep K40 (by simp only [List.mem_cons, List.not_mem_nil, or_false, not_or]; exact ne3)
  have f51 := f12.keep K40 (by simp only [List.mem_cons, List.not_mem_nil, or_false, not_or]; exact ne3)
  have f52 := f13.keep K40 (by simp only [List.mem_cons, List.not_mem_nil, or_false, not_or]; exact ne3)
  have f53 := f14.keep K40 (by simp only [List.mem_cons, List.not_mem_nil, or_false, not_or]; exact ne3)
  have f54 := f15.keep K40 (by simp only [List.mem_cons, List.not_mem_nil, or_false, not_or]; exact ne3)
  have f55 := f16.keep K40 (by simp only [List.mem_cons, List.not_mem_nil, or_false, not_or]; exact ne3)
  have f56 := f17.keep K40 (by simp only [List.mem_cons, List.not_mem_nil, or_false, not_or]; exact ne3)
  have f57 := f18.keep K40 (by simp only [List.mem_cons, List.not_mem_nil, or_false, not_or]; exact ne3)
  have f58 := f19.keep K40 (by simp only [List.mem_cons, List.not_mem_nil, or_false, not_or]; exact ne3)
  have f59 := f20.keep K40 (by simp only [List.mem_cons, List.not_mem_nil, or_false, not_or]; exact ne3)
  have f60 := f21.keep K40 (by simp only [List.mem_cons, List.not_mem_nil, or_false, not_or]; exact ne3)
  have f61 := f22.keep K40 (by simp only [List.mem_cons, List.not_mem_nil, or_false, not_or]; exact ne3)
  have f62 := f23.keep K40 (by simp only [List.mem_cons, List.not_mem_nil, or_false, not_or]; exact ne3)
  have f63 := f24.keep K40 (by simp only [List.mem_cons, List.not_mem_nil, or_false, not_or]; exact ne3)
  have f64 := f25.keep K40 (by simp only [List.mem_cons, List.not_mem_nil, or_false, not_or]; exact ne3)
  have f65 := f26.keep K40 (by simp only [List.mem_cons, List.not_mem_nil, or_false, not_or]; exact ne3)
  have f66 := f27.keep K40
  have f67 := f28.keep K40 (by simp only [List.mem_cons, List.not_mem_nil, or_false, not_or]; exact ne4)
  have f68 := f29.keep K40 (by simp only [List.mem_cons, List.not_mem_nil, or_false, not_or]; exact ne4)
  have f69 := f30.keep K40 (by simp only [List.mem_cons, List.not_mem_nil, or_false, not_or]; exact ne4)
  have f70 := f31.keep K40 (by simp only [List.mem_cons, List.not_mem_nil, or_false, not_or]; exact ne4)
  have f71 := f32.keep K40 (by simp only [List.mem_cons, List.not_mem_nil, or_false, not_or]; exact ne5)
  have f72 := f33.keep K40 (by simp only [List.mem_cons, List.not_mem_nil, or_false, not_or]; exact ne6)
  have f73 := own_staK f34 K40 (fun x hx => by simp only [List.mem_cons, List.not_mem_nil, or_false] at hx; rcases hx with rfl <;> first | exact A2.nostat)
  have Kp75 := Kp35.trans K40 (fun x hx => by simp only [List.mem_cons, List.not_mem_nil, or_false] at hx; rcases hx with rfl <;> first | exact (Or.inr sz_b2))
  have Zs76 : n0 ≤ h40.size := Nat.le_trans Zs39 K40.1
  show own_H T40 12 #[.val (.ref a1), .val (.ref n1), .val (.ref ra), .unset] [(.ref b2), (.ref a1)]
  clear f7 f8 f9 f10 f11 f12 f13 f14 f15 f16 f17 f18 f19 f20 f21 f22 f23 f24 f25 f26 f27 f28 f29 f30 f31 f32 f33 f34 A2 f36 f37 f38 Kp35 Zs39
  obtain ⟨T77, h77, L77, X77, N77, e77, W77, F77, st77⟩ := own_putF X40 N40 hx hZ hown (own_u hw 88 rfl) e40 f47 f46 (Or.inr ⟨(own_u hw 89 rfl), rfl, hnm⟩) (own_u hw 60 rfl) g_a1 (ty := (.object "java/util/BitSet")) (v := (.ref b2)) (by decide) rfl rfl (pc := 12) (Ls := #[.val (.ref a1), .val (.ref n1), .val (.ref ra), .unset]) (rest := []) (hb hby own_d8_12)
  refine own_via st77 ?_
  have f78 := f46.wr W77
  have f79 := f48.other W77 (Or.inr (slot_ne (Or.inr (own_u hw 91 rfl)) (Or.inr (own_u hw 89 rfl)) (by decide) rfl rfl))
  have f80 := f49.other W77 (Or.inr (slot_ne (Or.inr (own_u hw 93 rfl)) (Or.inr (own_u hw 89 rfl)) (by decide) rfl rfl))
  have f81 := f50.other W77 (Or.inr (slot_ne (Or.inl (own_u hw 95 rfl)) (Or.inr (own_u hw 89 rfl)) (by decide) rfl rfl))
  have f82 := f51.other W77 (Or.inr (slot_ne (Or.inr (own_u hw 111 rfl)) (Or.inr (own_u hw 89 rfl)) (by decide) rfl rfl))
  have f83 := f52.other W77 (Or.inr (slot_ne (Or.inr (own_u hw 113 rfl)) (Or.inr (own_u hw 89 rfl)) (by decide) rfl rfl))
  have f84 := f53.other W77 (Or.inr (slot_ne (Or.inr (own_u hw 115 rfl)) (Or.inr (own_u hw 89 rfl)) (by decide) rfl rfl))
  have f85 := f54.other W77 (Or.inr (slot_ne (Or.inr (own_u hw 117 rfl)) (Or.inr (own_u hw 89 rfl)) (by decide) rfl rfl))
  have f86 := f55.other W77 (Or.inr (slot_ne (Or.inr (own_u hw 124 rfl)) (Or.inr (own_u hw 89 rfl)) (by decide) rfl rfl))
  have f87 := f56.other W77 (Or.inr (slot_ne (Or.inr (own_u hw 131 rfl)) (Or.inr (own_u hw 89 rfl)) (by decide) rfl rfl))
  have f88 := f57.other W77 (Or.inr (slot_ne (Or.inr (own_u hw 138 rfl)) (Or.inr (own_u hw 89 rfl)) (by decide) rfl rfl))
  have f89 := f58.other W77 (Or.inr (slot_ne (Or.inr (own_u hw 186 rfl)) (Or.inr (own_u hw 89 rfl)) (by decide) rfl rfl))
  have f90 := f59.other W77 (Or.inr (slot_ne (Or.inr (own_u hw 188 rfl)) (Or.inr (own_u hw 89 rfl)) (by decide) rfl rfl))
  have f91 := f60.other W77 (Or.inr (slot_ne (Or.inr (own_u hw 190 rfl)) (Or.inr (own_u hw 89 rfl)) (by decide) rfl rfl))
  have f92 := f61.other W77 (Or.inr (slot_ne (Or.inr (own_u hw 192 rfl)) (Or.inr (own_u hw 89 rfl)) (by decide) rfl rfl))
  have f93 := f62.other W77 (Or.inr (slot_ne (Or.inr (own_u hw 194 rfl)) (Or.inr (own_u hw 89 rfl)) (by decide) rfl rfl))
  have f94 := f63.other W77 (Or.inr (slot_ne (Or.inr (own_u hw 196 rfl)) (Or.inr (own_u hw 89 rfl)) (by decide) rfl rfl))
  have f95 := f64.other W77 (Or.inr (slot_ne (Or.inr (own_u hw 198 rfl)) (Or.inr (own_u hw 89 rfl)) (by decide) rfl rfl))
  have f96 := f65.other W77 (Or.inr (slot_ne (Or.inr (own_u hw 200 rfl)) (Or.inr (own_u hw 89 rfl)) (by decide) rfl rfl))
  have f97 := f66.wr W77
  have f98 := f67.other W77 (Or.inl (Ne.symm ne_a1_n1))
  have f99 := f68.other W77 (Or.inl (Ne.symm ne_a1_n1))
  have f100 := f69.other W77 (Or.inl (Ne.symm ne_a1_n1))
  have f101 := f70.other W77 (Or.inl (Ne.symm ne_a1_n1))
  have f102 := f71.other W77 (Ne.symm ne_a1_ra)
  have f103 := f72.other W77 (Ne.symm ne_a1_va)
  have f104 := f73.wr W77
  have f105 := o40_0.wr W77
  have f106 := o40_1.other W77 (Or.inl (Ne.symm ne3))
  have f107 := o40_2.other W77 (Ne.symm ne41)
  have f108 := o40_3.other W77 (Or.inl (Ne.symm ne3))
  have Kp109 := Kp75.wr W77 (Or.inl (List.mem_of_getElem? (i := 0) rfl))
  have Zs110 : n0 ≤ h77.size := by rw [W77.size]; exact Zs76
  show own_H T77 15 #[.val (.ref a1), .val (.ref n1), .val (.ref ra), .unset] []
  clear f46 f47 f48 f49 f50 f51 f52 f53 f54 f55 f56 f57 f58 f59 f60 f61 f62 f63 f64 f65 f66 f67 f68 f69 f70 f71 f72 f73 o40_0 o40_1 o40_2 o40_3 Kp75 Zs76
  refine own_via (fun t k => XS.aloadN X77.here hx rfl (hb hby own_d8_15) rfl rfl k) ?_
  show own_H T77 16 #[.val (.ref a1), .val (.ref n1), .val (.ref ra), .unset] [(.ref a1)]
  obtain ⟨T111, h111, b111, X111, e111, E111, ga111, A111, D111, st111⟩ := own_newO X77 hx hZ hown (own_u hw 66 rfl) (own_u hw 67 rfl) (own_u hw 68 rfl) e77 (pc := 16) (Ls := #[.val (.ref a1), .val (.ref n1), .val (.ref ra), .unset]) (rest := [(.ref a1)]) (hb hby own_d8_16) (by decide) (by decide)
  refine own_via st111 ?_
  have sz_b111 : h0.size ≤ b111 := Nat.le_trans Kp109.1 (Nat.le_of_eq ga111.symm)
  have ne112 : a1 ≠ b111 := Nat.ne_of_lt (Nat.lt_of_lt_of_le f78.lt (Nat.le_of_eq ga111.symm))
  have ne113 : n1 ≠ b111 := Nat.ne_of_lt (Nat.lt_of_lt_of_le f97.lt (Nat.le_of_eq ga111.symm))
  have ne114 : ra ≠ b111 := Nat.ne_of_lt (Nat.lt_of_lt_of_le f102.lt (Nat.le_of_eq ga111.symm))
  have ne115 : va ≠ b111 := Nat.ne_of_lt (Nat.lt_of_lt_of_le f103.lt (Nat.le_of_eq ga111.symm))
  have ne116 : b2 ≠ b111 := Nat.ne_of_lt (Nat.lt_of_lt_of_le f105.lt (Nat.le_of_eq ga111.symm))
  have ne117 : x40 ≠ b111 := Nat.ne_of_lt (Nat.lt_of_lt_of_le f107.lt (Nat.le_of_eq ga111.symm))
  have f118 := f78.ext E111
  have f119 := f79.ext E111
  have f120 := f80.ext E111
  have f121 := f81.ext E111
  have f122 := f82.ext E111
  have f123 := f83.ext E111
  have f124 := f84.ext E111
  have f125 := f85.ext E111
  have f126 := f86.ext E111
  have f127 := f87.ext E111
  have f128 := f88.ext E111
  have f129 := f89.ext E111
  have f130 := f90.ext E111
  have f131 := f91.ext E111
  have f132 := f92.ext E111
  have f133 := f93.ext E111
  have f134 := f94.ext E111
  have f135 := f95.ext E111
  have f136 := f96.ext E111
  have f137 := f97.ext E111
  have f138 := f98.ext E111
  have f139 := f99.ext E111
  have f140 := f100.ext E111
  have f141 := f101.ext E111
  have f142 := f102.ext E111
  have f143 := f103.ext E111
  have f144 := f104.ext E111
  have f145 := f105.ext E111
  have f146 := f106.ext E111
  have f147 := f107.ext E111
  have f148 := f108.ext E111
  have f149 := F77.ext E111
  have Kp150 := Kp109.ext E111
  have f151 : Fld Z h111 b111 own_cB "wordsInUse" "I" (.int (0 : Int32)) := D111 (Or.inl (own_u hw 74 rfl)) (ty := .int) (by decide)
  have f152 : Fld Z h111 b111 own_cB "sizeIsSticky" "Z" (.int (0 : Int32)) := D111 (Or.inl (own_u hw 76 rfl)) (ty := .boolean) (by decide)
  have f153 : Fld Z h111 b111 own_cB "words" "[J" .null := D111 (Or.inl (own_u hw 87 rfl)) (ty := (.array .long)) (by decide)
  have g_b111 : n0 ≤ b111 := Nat.le_trans Zs110 (Nat.le_of_eq ga111.symm)
  have Zs154 : n0 ≤ h111.size := Nat.le_trans Zs110 E111.1
  show own_H T111 19 #[.val (.ref a1), .val (.ref n1), .val (.ref ra), .unset] [(.ref b111), (.ref a1)]
  clear f78 f79 f80 f81 f82 f83 f84 f85 f86 f87 f88 f89 f90 f91 f92 f93 f94 f95 f96 f97 f98 f99 f100 f101 f102 f103 f104 f105 f106 f107 f108 F77 Kp109 Zs110
  refine own_via (fun t k => XS.dup X111.here hx rfl (hb hby own_d8_19) rfl rfl k) ?_
  show own_H T111 20 #[.val (.ref a1), .val (.ref n1), .val (.ref ra), .unset] [(.ref b111), (.ref b111), (.ref a1)]
  obtain ⟨v155, T155, h155, L155, X155, N155, e155, hq155, st155⟩ := own_callI (y := (⟨"java/util/BitSet", "<init>", "()V"⟩ : MethodName)) (W := 2) (a := b111) X111 N77 hx hZ rfl hown (own_u hw 69 rfl) (own_u hw 70 rfl) (own_u hw 68 rfl) (own_u hw 71 rfl) (by decide) (own_bi l Z a0 hw [] b111 (.null) (.int (0 : Int32)) (.int (0 : Int32)) h111 n0 Zs154 A111 f153 f151 f152 g_b111) (by decide) (by decide) (by decide) (by decide) e111 (pc := 20) (Ls := #[.val (.ref a1), .val (.ref n1), .val (.ref ra), .unset]) (st := [(.ref b111), (.ref b111), (.ref a1)]) (argsL := []) (rest := [(.ref b111), (.ref a1)]) (by rw [hml]; rfl) (lenOf own_pd2 rfl) rfl rfl (Nat.le_of_eq rfl) (hb hby own_d8_20)
  obtain ⟨x155, kx155, rfl, K155, zf_x155, o155_0, o155_1, o155_2, o155_3⟩ := hq155
  refine own_via st155 ?_
  have ne156 : a1 ≠ x155 := Nat.ne_of_lt (Nat.lt_of_lt_of_le f118.lt zf_x155)
  have ne157 : n1 ≠ x155 := Nat.ne_of_lt (Nat.lt_of_lt_of_le f137.lt zf_x155)
  have ne158 : ra ≠ x155 := Nat.ne_of_lt (Nat.lt_of_lt_of_le f142.lt zf_x155)
  have ne159 : va ≠ x155 := Nat.ne_of_lt (Nat.lt_of_lt_of_le f143.lt zf_x155)
  have ne160 : b2 ≠ x155 := Nat.ne_of_lt (Nat.lt_of_lt_of_le f145.lt zf_x155)
  have ne161 : x40 ≠ x155 := Nat.ne_of_lt (Nat.lt_of_lt_of_le f147.lt zf_x155)
  have ne162 : b111 ≠ x155 := Nat.ne_of_lt (Nat.lt_of_lt_of_le A111.lt zf_x155)
  have g_x155 : n0 ≤ x155 := Nat.le_trans Zs154 zf_x155
  have sz_x155 : h0.size ≤ x155 := Nat.le_trans Kp150.1 zf_x155
  have f163 := f118.keep K155
  have f164 := f119.keep K155 (by simp only [List.mem_cons, List.not_mem_nil, or_false, not_or]; exact ne112)
  have f165 := f120.keep K155 (by simp only [List.mem_cons, List.not_mem_nil, or_false, not_or]; exact ne112)
  have f166 := f121.keep K155 (by simp only [List.mem_cons, List.not_mem_nil, or_false, not_or]; exact ne112)
  have f167 := f122.keep K155 (by simp only [List.mem_cons, List.not_mem_nil, or_false, not_or]; exact ne112)
  have f168 := f123.keep K155 (by simp only [List.mem_cons, List.not_mem_nil, or_false, not_or]; exact ne112)
  have f169 := f124.keep K155 (by simp only [List.mem_cons, List.not_mem_nil, or_false, not_or]; exact ne112)
  have f170 := f125.keep K155 (by simp only [List.mem_cons, List.not_mem_nil, or_false, not_or]; exact ne112)
  have f171 := f126.keep K155 (by simp only [List.mem_cons, List.not_mem_nil, or_false, not_or]; exact ne112)
  have f172 := f127.keep K155 (by simp only [List.mem_cons, List.not_mem_nil, or_false, not_or]; exact ne112)
  have f173 := f128.keep K155 (by simp only [List.mem_cons, List.not_mem_nil, or_false, not_or]; exact ne112)
  have f174 := f129.keep K155 (by simp only [List.mem_cons, List.not_mem_nil, or_false, not_or]; exact ne112)
  have f175 := f130.keep K155 (by simp only [List.mem_cons, List.not_mem_nil, or_false, not_or]; exact ne112)
  have f176 := f131.keep K155 (by simp only [List.mem_cons, List.not_mem_nil, or_false, not_or]; exact ne112)
  have f177 := f132.keep K155 (by simp only [List.mem_cons, List.not_mem_nil, or_false, not_or]; exact ne112)
  have f178 := f133.keep K155 (by simp only [List.mem_cons, List.not_mem_nil, or_false, not_or]; exact ne112)
  have f179 := f134.keep K155 (by simp only [List.mem_cons, List.not_mem_nil, or_false, not_or]; exact ne112)
  have f180 := f135.keep K155 (by simp only [List.mem_cons, List.not_mem_nil, or_false, not_or]; exact ne112)
  have f181 := f136.keep K155 (by simp only [List.mem_cons, List.not_mem_nil, or_false, not_or]; exact ne112)
  have f182 := f137.keep K155
  have f183 := f138.keep K155 (by simp only [List.mem_cons, List.not_mem_nil, or_false, not_or]; exact ne113)
  have f184 := f139.keep K155 (by simp only [List.mem_cons, List.not_mem_nil, or_false, not_or]; exact ne113)
  have f185 := f140.keep K155 (by simp only [List.mem_cons, List.not_mem_nil, or_false, not_or]; exact ne113)
  have f186 := f141.keep K155 (by simp only [List.mem_cons, List.not_mem_nil, or_false, not_or]; exact ne113)
  have f187 := f142.keep K155 (by simp only [List.mem_cons, List.not_mem_nil, or_false, not_or]; exact ne114)
  have f188 := f143.keep K155 (by simp only [List.mem_cons, List.not_mem_nil, or_false, not_or]; exact ne115)
  have f189 := own_staK f144 K155 (fun x hx => by simp only [List.mem_cons, List.not_mem_nil, or_false] at hx; rcases hx with rfl <;> first | exact A111.nostat)
  have f190 := f145.keep K155
  have f191 := f146.keep K155 (by simp only [List.mem_cons, List.not_mem_nil, or_false, not_or]; exact ne116)
  have f192 := f147.keep K155 (by simp only [List.mem_cons, List.not_mem_nil, or_false, not_or]; exact ne117)
  have f193 := f148.keep K155 (by simp only [List.mem_cons, List.not_mem_nil, or_false, not_or]; exact ne116)
  have f194 := f149.keep K155 (by simp only [List.mem_cons, List.not_mem_nil, or_false, not_or]; exact ne112)
  have Kp196 := Kp150.trans K155 (fun x hx => by simp only [List.mem_cons, List.not_mem_nil, or_false] at hx; rcases hx with rfl <;> first | exact (Or.inr sz_b111))
  have Zs197 : n0 ≤ h155.size := Nat.le_trans Zs154 K155.1
  show own_H T155 23 #[.val (.ref a1), .val (.ref n1), .val (.ref ra), .unset] [(.ref b111), (.ref a1)]
  clear f118 f119 f120 f121 f122 f123 f124 f125 f126 f127 f128 f129 f130 f131 f132 f133 f134 f135 f136 f137 f138 f139 f140 f141 f142 f143 f144 f145 f146 f147 f148 f149 A111 f151 f152 f153 Kp150 Zs154
  obtain ⟨T198, h198, L198, X198, N198, e198, W198, F198, st198⟩ := own_putF X155 N155 hx hZ hown (own_u hw 90 rfl) e155 f164 f163 (Or.inr ⟨(own_u hw 91 rfl), rfl, hnm⟩) (own_u hw 60 rfl) g_a1 (ty := (.object "java/util/BitSet")) (v := (.ref b111)) (by decide) rfl rfl (pc := 23) (Ls := #[.val (.ref a1), .val (.ref n1), .val (.ref ra), .unset]) (rest := []) (hb hby own_d8_23)
  refine own_via st198 ?_
  have f199 := f163.wr W198
  have f200 := f165.other W198 (Or.inr (slot_ne (Or.inr (own_u hw 93 rfl)) (Or.inr (own_u hw 91 rfl)) (by decide) rfl rfl))
  have f201 := f166.other W198 (Or.inr (slot_ne (Or.inl (own_u hw 95 rfl)) (Or.inr (own_u hw 91 rfl)) (by decide) rfl rfl))
  have f202 := f167.other W198 (Or.inr (slot_ne (Or.inr (own_u hw 111 rfl)) (Or.inr (own_u hw 91 rfl)) (by decide) rfl rfl))
  have f203 := f168.other W198 (Or.inr (slot_ne (Or.inr (own_u hw 113 rfl)) (Or.inr (own_u hw 91 rfl)) (by decide) rfl rfl))
  have f204 := f169.other W198 (Or.inr (slot_ne (Or.inr (own_u hw 115 rfl)) (Or.inr (own_u hw 91 rfl)) (by decide) rfl rfl))
  have f205 := f170.other W198 (Or.inr (slot_ne (Or.inr (own_u hw 117 rfl)) (Or.inr (own_u hw 91 rfl)) (by decide) rfl rfl))
  have f206 := f171.other W198 (Or.inr (slot_ne (Or.inr (own_u hw 124 rfl)) (Or.inr (own_u hw 91 rfl)) (by decide) rfl rfl))
  have f207 := f172.other W198 (Or.inr (slot_ne (Or.inr (own_u hw 131 rfl)) (Or.inr (own_u hw 91 rfl)) (by decide) rfl rfl))
  have f208 := f173.other W198 (Or.inr (slot_ne (Or.inr (own_u hw 138 rfl)) (Or.inr (own_u hw 91 rfl)) (by decide) rfl rfl))
  have f209 := f174.other W198 (Or.inr (slot_ne (Or.inr (own_u hw 186 rfl)) (Or.inr (own_u hw 91 rfl)) (by decide) rfl rfl))
  have f210 := f175.other W198 (Or.inr (slot_ne (Or.inr (own_u hw 188 rfl)) (Or.inr (own_u hw 91 rfl)) (by decide) rfl rfl))
  have f211 := f176.other W198 (Or.inr (slot_ne (Or.inr (own_u hw 190 rfl)) (Or.inr (own_u hw 91 rfl)) (by decide) rfl rfl))
  have f212 := f177.other W198 (Or.inr (slot_ne (Or.inr (own_u hw 192 rfl)) (Or.inr (own_u hw 91 rfl)) (by decide) rfl rfl))
  have f213 := f178.other W198 (Or.inr (slot_ne (Or.inr (own_u hw 194 rfl)) (Or.inr (own_u hw 91 rfl)) (by decide) rfl rfl))
  have f214 := f179.other W198 (Or.inr (slot_ne (Or.inr (own_u hw 196 rfl)) (Or.inr (own_u hw 91 rfl)) (by decide) rfl rfl))
  have f215 := f180.other W198 (Or.inr (slot_ne (Or.inr (own_u hw 198 rfl)) (Or.inr (own_u hw 91 rfl)) (by decide) rfl rfl))
  have f216 := f181.other W198 (Or.inr (slot_ne (Or.inr (own_u hw 200 rfl)) (Or.inr (own_u hw 91 rfl)) (by decide) rfl rfl))
  have f217 := f182.wr W198
  have f218 := f183.other W198 (Or.inl (Ne.symm ne_a1_n1))
  have f219 := f184.other W198 (Or.inl (Ne.symm ne_a1_n1))
  have f220 := f185.other W198 (Or.inl (Ne.symm ne_a1_n1))
  have f221 := f186.other W198 (Or.inl (Ne.symm ne_a1_n1))
  have f222 := f187.other W198 (Ne.symm ne_a1_ra)
  have f223 := f188.other W198 (Ne.symm ne_a1_va)
  have f224 := f189.wr W198
  have f225 := f190.wr W198
  have f226 := f191.other W198 (Or.inl (Ne.symm ne3))
  have f227 := f192.other W198 (Ne.symm ne41)
  have f228 := f193.other W198 (Or.inl (Ne.symm ne3))
  have f229 := f194.other W198 (Or.inr (slot_ne (Or.inr (own_u hw 89 rfl)) (Or.inr (own_u hw 91 rfl)) (by decide) rfl rfl))
  have f230 := o155_0.wr W198
  have f231 := o155_1.other W198 (Or.inl (Ne.symm ne112))
  have f232 := o155_2.other W198 (Ne.symm ne156)
  have f233 := o155_3.other W198 (Or.inl (Ne.symm ne112))
  have Kp234 := Kp196.wr W198 (Or.inl (List.mem_of_getElem? (i := 0) rfl))
  have Zs235 : n0 ≤ h198.size := by rw [W198.size]; exact Zs197
  show own_H T198 26 #[.val (.ref a1), .val (.ref n1), .val (.ref ra), .unset] []
  clear f163 f164 f165 f166 f167 f168 f169 f170 f171 f172 f173 f174 f175 f176 f177 f178 f179 f180 f181 f182 f183 f184 f185 f186 f187 f188 f189 f190 f191 f192 f193 f194 o155_0 o155_1 o155_2 o155_3 Kp196 Zs197
  refine own_via (fun t k => XS.aloadN X198.here hx rfl (hb hby own_d8_26) rfl rfl k) ?_
  show own_H T198 27 #[.val (.ref a1), .val (.ref n1), .val (.ref ra), .unset] [(.ref a1)]
  obtain ⟨T236, h236, b236, X236, e236, E236, ga236, A236, D236, st236⟩ := own_newO X198 hx hZ hown (own_u hw 66 rfl) (own_u hw 67 rfl) (own_u hw 68 rfl) e198 (pc := 27) (Ls := #[.val (.ref a1), .val (.ref n1), .val (.ref ra), .unset]) (rest := [(.ref a1)]) (hb hby own_d8_27) (by decide) (by decide)
  refine own_via st236 ?_
  have sz_b236 : h0.size ≤ b236 := Nat.le_trans Kp234.1 (Nat.le_of_eq ga236.symm)
  have ne237 : a1 ≠ b236 := Nat.ne_of_lt (Nat.lt_of_lt_of_le f199.lt (Nat.le_of_eq ga236.symm))
  have ne238 : n1 ≠ b236 := Nat.ne_of_lt (Nat.lt_of_lt_of_le f217.lt (Nat.le_of_eq ga236.symm))
  have ne239 : ra ≠ b236 := Nat.ne_of_lt (Nat.lt_of_lt_of_le f222.lt (Nat.le_of_eq ga236.symm))
  have ne240 : va ≠ b236 := Nat.ne_of_lt (Nat.lt_of_lt_of_le f223.lt (Nat.le_of_eq ga236.symm))
  have ne241 : b2 ≠ b236 := Nat.ne_of_lt (Nat.lt_of_lt_of_le f225.lt (Nat.le_of_eq ga236.symm))
  have ne242 : x40 ≠ b236 := Nat.ne_of_lt (Nat.lt_of_lt_of_le f227.lt (Nat.le_of_eq ga236.symm))
  have ne243 : b111 ≠ b236 := Nat.ne_of_lt (Nat.lt_of_lt_of_le f230.lt (Nat.le_of_eq ga236.symm))
  have ne244 : x155 ≠ b236 := Nat.ne_of_lt (Nat.lt_of_lt_of_le f232.lt (Nat.le_of_eq ga236.symm))
  have f245 := f199.ext E236
  have f246 := f200.ext E236
  have f247 := f201.ext E236
  have f248 := f202.ext E236
  have f249 := f203.ext E236
  have f250 := f204.ext E236
  have f251 := f205.ext E236
  have f252 := f206.ext E236
  have f253 := f207.ext E236
  have f254 := f208.ext E236
  have f255 := f209.ext E236
  have f256 := f210.ext E236
  have f257 := f211.ext E236
  have f258 := f212.ext E236
  have f259 := f213.ext E236
  have f260 := f214.ext E236
  have f261 := f215.ext E236
  have f262 := f216.ext E236
  have f263 := f217.ext E236
  have f264 := f218.ext E236
  have f265 := f219.ext E236
  have f266 := f220.ext E236
  have f267 := f221.ext E236
  have f268 := f222.ext E236
  have f269 := f223.ext E236
  have f270 := f224.ext E236
  have f271 := f225.ext E236
  have f272 := f226.ext E236
  have f273 := f227.ext E236
  have f274 := f228.ext E236
  have f275 := f229.ext E236
  have f276 := f230.ext E236
  have f277 := f231.ext E236
  have f278 := f232.ext E236
  have f279 := f233.ext E236
  have f280 := F198.ext E236
  have Kp281 := Kp234.ext E236
  have f282 : Fld Z h236 b236 own_cB "wordsInUse" "I" (.int (0 : Int32)) := D236 (Or.inl (own_u hw 74 rfl)) (ty := .int) (by decide)
  have f283 : Fld Z h236 b236 own_cB "sizeIsSticky" "Z" (.int (0 : Int32)) := D236 (Or.inl (own_u hw 76 rfl)) (ty := .boolean) (by decide)
  have f284 : Fld Z h236 b236 own_cB "words" "[J" .null := D236 (Or.inl (own_u hw 87 rfl)) (ty := (.array .long)) (by decide)
  have g_b236 : n0 ≤ b236 := Nat.le_trans Zs235 (Nat.le_of_eq ga236.symm)
  have Zs285 : n0 ≤ h236.size := Nat.le_trans Zs235 E236.1
  show own_H T236 30 #[.val (.ref a1), .val (.ref n1), .val (.ref ra), .unset] [(.ref b236), (.ref a1)]
  clear f199 f200 f201 f202 f203 f204 f205 f206 f207 f208 f209 f210 f211 f212 f213 f214 f215 f216 f217 f218 f219 f220 f221 f222 f223 f224 f225 f226 f227 f228 f229 f230 f231 f232 f233 F198 Kp234 Zs235
  refine own_via (fun t k => XS.dup X236.here hx rfl (hb hby own_d8_30) rfl rfl k) ?_
  show own_H T236 31 #[.val (.ref a1), .val (.ref n1), .val (.ref ra), .unset] [(.ref b236), (.ref b236), (.ref a1)]
  obtain ⟨v286, T286, h286, L286, X286, N286, e286, hq286, st286⟩ := own_callI (y := (⟨"java/util/BitSet", "<init>", "()V"⟩ : MethodName)) (W := 2) (a := b236) X236 N198 hx hZ rfl hown (own_u hw 69 rfl) (own_u hw 70 rfl) (own_u hw 68 rfl) (own_u hw 71 rfl) (by decide) (own_bi l Z a0 hw [] b236 (.null) (.int (0 : Int32)) (.int (0 : Int32)) h236 n0 Zs285 A236 f284 f282 f283 g_b236) (by decide) (by decide) (by decide) (by decide) e236 (pc := 31) (Ls := #[.val (.ref a1), .val (.ref n1), .val (.ref ra), .unset]) (st := [(.ref b236), (.ref b236), (.ref a1)]) (argsL := []) (rest := [(.ref b236), (.ref a1)]) (by rw [hml]; rfl) (lenOf own_pd2 rfl) rfl rfl (Nat.le_of_eq rfl) (hb hby own_d8_31)
  obtain ⟨x286, kx286, rfl, K286, zf_x286, o286_0, o286_1, o286_2, o286_3⟩ := hq286
  refine own_via st286 ?_
  have f296 := f245.keep K286
  have f297 := f246.keep K286 (by simp only [List.mem_cons, List.not_mem_nil, or_false, not_or]; exact ne237)
  have f298 := f247.keep K286 (by simp only [List.mem_cons, List.not_mem_nil, or_false, not_or]; exact ne237)
  have f299 := f248.keep K286 (by simp only [List.mem_cons, List.not_mem_nil, or_false, not_or]; exact ne237)
  have f300 := f249.keep K286 (by simp only [List.mem_cons, List.not_mem_nil, or_false, not_or]; exact ne237)
  have f301 := f250.keep K286 (by simp only [List.mem_cons, List.not_mem_nil, or_false, not_or]; exact ne237)
  have f302 := f251.keep K286 (by simp only [List.mem_cons, List.not_mem_nil, or_false, not_or]; exact ne237)
  have f303 := f252.keep K286 (by simp only [List.mem_cons, List.not_mem_nil, or_false, not_or]; exact ne237)
  have f304 := f253.keep K286 (by simp only [List.mem_cons, List.not_mem_nil, or_false, not_or]; exact ne237)
  have f305 := f254.keep K286 (by simp only [List.mem_cons, List.not_mem_nil, or_false, not_or]; exact ne237)
  have f306 := f255.keep K286 (by simp only [List.mem_cons, List.not_mem_nil, or_false, not_or]; exact ne237)
  have f307 := f256.keep K286 (by simp only [List.mem_cons, List.not_mem_nil, or_false, not_or]; exact ne237)
  have f308 := f257.keep K286 (by simp only [List.mem_cons, List.not_mem_nil, or_false, not_or]; exact ne237)
  have f309 := f258.keep K286 (by simp only [List.mem_cons, List.not_mem_nil, or_false, not_or]; exact ne237)
  have f310 := f259.keep K286 (by simp only [List.mem_cons, List.not_mem_nil, or_false, not_or]; exact ne237)
  have f311 := f260.keep K286 (by simp only [List.mem_cons, List.not_mem_nil, or_false, not_or]; exact ne237)
  have f312 := f261.keep K286 (by simp only [List.mem_cons, List.not_mem_nil, or_false, not_or]; exact ne237)
  have f313 := f262.keep K286 (by simp only [List.mem_cons, List.not_mem_nil, or_false, not_or]; exact ne237)
  have f314 := f263.keep K286
  have f315 := f264.keep K286 (by simp only [List.mem_cons, List.not_mem_nil, or_false, not_or]; exact ne238)
  have f316 := f265.keep K286 (by simp only [List.mem_cons, List.not_mem_nil, or_false, not_or]; exact ne238)
  have f317 := f266.keep K286 (by simp only [List.mem_cons, List.not_mem_nil, or_false, not_or]; exact ne238)
  have f318 := f267.keep K286 (by simp only [List.mem_cons, List.not_mem_nil, or_false, not_or]; exact ne238)
  have f319 := f268.keep K286 (by simp only [List.mem_cons, List.not_mem_nil, or_false, not_or]; exact ne239)
  have f320 := f269.keep K286 (by simp only [List.mem_cons, List.not_mem_nil, or_false, not_or]; exact ne240)
  have f321 := own_staK f270 K286 (fun x hx => by simp only [List.mem_cons, List.not_mem_nil, or_false] at hx; rcases hx with rfl <;> first | exact A236.nostat)
  have f322 := f271.keep K286
  have f323 := f272.keep K286 (by simp only [List.mem_cons, List.not_mem_nil, or_false, not_or]; exact ne241)
  have f324 := f273.keep K286 (by simp only [List.mem_cons, List.not_mem_nil, or_false, not_or]; exact ne242)
  have f325 := f274.keep K286 (by simp only [List.mem_cons, List.not_mem_nil, or_false, not_or]; exact ne241)
  have f326 := f275.keep K286 (by simp only [List.mem_cons, List.not_mem_nil, or_false, not_or]; exact ne237)
  have f327 := f276.keep K286
  have f328 := f277.keep K286 (by simp only [List.mem_cons, List.not_mem_nil, or_false, not_or]; exact ne243)
  have f329 := f278.keep K286 (by simp only [List.mem_cons, List.not_mem_nil, or_false, not_or]; exact ne244)
  have f330 := f279.keep K286 (by simp only [List.mem_cons, List.not_mem_nil, or_false, not_or]; exact ne243)
  have f331 := f280.keep K286 (by simp only [List.mem_cons, List.not_mem_nil, or_false, not_or]; exact ne237)
  have Kp333 := Kp281.trans K286 (fun x hx => by simp only [List.mem_cons, List.not_mem_nil, or_false] at hx; rcases hx with rfl <;> first | exact (Or.inr sz_b236))
  have Zs334 : n0 ≤ h286.size := Nat.le_trans Zs285 K286.1
  show own_H T286 34 #[.val (.ref a1), .val (.ref n1), .val (.ref ra), .unset] [(.ref b236), (.ref a1)]
  clear f245 f246 f247 f248 f249 f250 f251 f252 f253 f254 f255 f256 f257 f258 f259 f260 f261 f262 f263 f264 f265 f266 f267 f268 f269 f270 f271 f272 f273 f274 f275 f276 f277 f278 f279 f280 A236 f282 f283 f284 Kp281 Zs285
  obtain ⟨T335, h335, L335, X335, N335, e335, W335, F335, st335⟩ := own_putF X286 N286 hx hZ hown (own_u hw 92 rfl) e286 f297 f296 (Or.inr ⟨(own_u hw 93 rfl), rfl, hnm⟩) (own_u hw 60 rfl) g_a1 (ty := (.object "java/util/BitSet")) (v := (.ref b236)) (by decide) rfl rfl (pc := 34) (Ls := #[.val (.ref a1), .val (.ref n1), .val (.ref ra), .unset]) (rest := []) (hb hby own_d8_34)
  refine own_via st335 ?_
  have f336 := f296.wr W335
  have f337 := f298.other W335 (Or.inr (slot_ne (Or.inl (own_u hw 95 rfl)) (Or.inr (own_u hw 93 rfl)) (by decide) rfl rfl))
  have f338 := f299.other W335 (Or.inr (slot_ne (Or.inr (own_u hw 111 rfl)) (Or.inr (own_u hw 93 rfl)) (by decide) rfl rfl))
  have f339 := f300.other W335 (Or.inr (slot_ne (Or.inr (own_u hw 113 rfl)) (Or.inr (own_u hw 93 rfl)) (by decide) rfl rfl))
  have f340 := f301.other W335 (Or.inr (slot_ne (Or.inr (own_u hw 115 rfl)) (Or.inr (own_u hw 93 rfl)) (by decide) rfl rfl))
  have f341 := f302.other W335 (Or.inr (slot_ne (Or.inr (own_u hw 117 rfl)) (Or.inr (own_u hw 93 rfl)) (by decide) rfl rfl))
  have f342 := f303.other W335 (Or.inr (slot_ne (Or.inr (own_u hw 124 rfl)) (Or.inr (own_u hw 93 rfl)) (by decide) rfl rfl))
  have f343 := f304.other W335 (Or.inr (slot_ne (Or.inr (own_u hw 131 rfl)) (Or.inr (own_u hw 93 rfl)) (by decide) rfl rfl))
  have f344 := f305.other W335 (Or.inr (slot_ne (Or.inr (own_u hw 138 rfl)) (Or.inr (own_u hw 93 rfl)) (by decide) rfl rfl))
  have f345 := f306.other W335 (Or.inr (slot_ne (Or.inr (own_u hw 186 rfl)) (Or.inr (own_u hw 93 rfl)) (by decide) rfl rfl))
  have f346 := f307.other W335 (Or.inr (slot_ne (Or.inr (own_u hw 188 rfl)) (Or.inr (own_u hw 93 rfl)) (by decide) rfl rfl))
  have f347 := f308.other W335 (Or.inr (slot_ne (Or.inr (own_u hw 190 rfl)) (Or.inr (own_u hw 93 rfl)) (by decide) rfl rfl))
  have f348 := f309.other W335 (Or.inr (slot_ne (Or.inr (own_u hw 192 rfl)) (Or.inr (own_u hw 93 rfl)) (by decide) rfl rfl))
  have f349 := f310.other W335 (Or.inr (slot_ne (Or.inr (own_u hw 194 rfl)) (Or.inr (own_u hw 93 rfl)) (by decide) rfl rfl))
  have f350 := f311.other W335 (Or.inr (slot_ne (Or.inr (own_u hw 196 rfl)) (Or.inr (own_u hw 93 rfl)) (by decide) rfl rfl))
  have f351 := f312.other W335 (Or.inr (slot_ne (Or.inr (own_u hw 198 rfl)) (Or.inr (own_u hw 93 rfl)) (by decide) rfl rfl))
  have f352 := f313.other W335 (Or.inr (slot_ne (Or.inr (own_u hw 200 rfl)) (Or.inr (own_u hw 93 rfl)) (by decide) rfl rfl))
  have f353 := f314.wr W335
  have f354 := f315.other W335 (Or.inl (Ne.symm ne_a1_n1))
  have f355 := f316.other W335 (Or.inl (Ne.symm ne_a1_n1))
  have f356 := f317.other W335 (Or.inl (Ne.symm ne_a1_n1))
  have f357 := f318.other W335 (Or.inl (Ne.symm ne_a1_n1))
  have f358 := f319.other W335 (Ne.symm ne_a1_ra)
  have f359 := f320.other W335 (Ne.symm ne_a1_va)
  have f360 := f321.wr W335
  have f361 := f322.wr W335
  have f362 := f323.other W335 (Or.inl (Ne.symm ne3))
  have f363 := f324.other W335 (Ne.symm ne41)
  have f364 := f325.other W335 (Or.inl (Ne.symm ne3))
  have f365 := f326.other W335 (Or.inr (slot_ne (Or.inr (own_u hw 89 rfl)) (Or.inr (own_u hw 93 rfl)) (by decide) rfl rfl))
  have f366 := f327.wr W335
  have f367 := f328.other W335 (Or.inl (Ne.symm ne112))
  have f368 := f329.other W335 (Ne.symm ne156)
  have f369 := f330.other W335 (Or.inl (Ne.symm ne112))
  have f370 := f331.other W335 (Or.inr (slot_ne (Or.inr (own_u hw 91 rfl)) (Or.inr (own_u hw 93 rfl)) (by decide) rfl rfl))
  have Kp375 := Kp333.wr W335 (Or.inl (List.mem_of_getElem? (i := 0) rfl))
  have Zs376 : n0 ≤ h335.size := by rw [W335.size]; exact Zs334
  show own_H T335 37 #[.val (.ref a1), .val (.ref n1), .val (.ref ra), .unset] []
  clear f296 f297 f298 f299 f300 f301 f302 f303 f304 f305 f306 f307 f308 f309 f310 f311 f312 f313 f314 f315 f316 f317 f318 f319 f320 f321 f322 f323 f324 f325 f326 f327 f328 f329 f330 f331 o286_0 o286_1 o286_2 o286_3 Kp333 Zs334
  refine own_via (fun t k => XS.aloadN X335.here hx rfl (hb hby own_d8_37) rfl rfl k) ?_
  refine own_via (fun t k => XS.bipush X335.here hx rfl (hb hby own_d8_38) k) ?_
  show own_H T335 40 #[.val (.ref a1), .val (.ref n1), .val (.ref ra), .unset] [(.int (64 : Int32)), (.ref a1)]
  obtain ⟨T377, h377, k377, b377, X377, e377, E377, ga377, V377, Ex377, st377⟩ := own_newA X335 hx hZ (own_u hw 10 rfl) e335 (pc := 40) (Ls := #[.val (.ref a1), .val (.ref n1), .val (.ref ra), .unset]) (rest := [(.ref a1)]) (hb hby own_d8_40) (n := (64 : Int32)) (by decide) (cap := 64) (by decide) (by decide) (by decide) (by decide) 64 rfl
  refine own_via st377 ?_
  have f388 := f336.ext E377
  have f389 := f337.ext E377
  have f390 := f338.ext E377
  have f391 := f339.ext E377
  have f392 := f340.ext E377
  have f393 := f341.ext E377
  have f394 := f342.ext E377
  have f395 := f343.ext E377
  have f396 := f344.ext E377
  have f397 := f345.ext E377
  have f398 := f346.ext E377
  have f399 := f347.ext E377
  have f400 := f348.ext E377
  have f401 := f349.ext E377
  have f402 := f350.ext E377
  have f403 := f351.ext E377
  have f404 := f352.ext E377
  have f405 := f353.ext E377
  have f406 := f354.ext E377
  have f407 := f355.ext E377
  have f408 := f356.ext E377
  have f409 := f357.ext E377
  have f410 := f358.ext E377
  have f411 := f359.ext E377
  have f412 := f360.ext E377
  have f413 := f361.ext E377
  have f414 := f362.ext E377
  have f415 := f363.ext E377
  have f416 := f364.ext E377
  have f417 := f365.ext E377
  have f418 := f366.ext E377
  have f419 := f367.ext E377
  have f420 := f368.ext E377
  have f421 := f369.ext E377
  have f422 := f370.ext E377
  have Kp428 := Kp375.ext E377
  have Zs430 : n0 ≤ h377.size := Nat.le_trans Zs376 E377.1
  show own_H T377 42 #[.val (.ref a1), .val (.ref n1), .val (.ref ra), .unset] [(.ref b377), (.ref a1)]
  clear f336 f337 f338 f339 f340 f341 f342 f343 f344 f345 f346 f347 f348 f349 f350 f351 f352 f353 f354 f355 f356 f357 f358 f359 f360 f361 f362 f363 f364 f365 f366 f367 f368 f369 f370 F335 Kp375 Zs376
  obtain ⟨T431, h431, L431, X431, N431, e431, W431, F431, st431⟩ := own_putF X377 N335 hx hZ hown (own_u hw 94 rfl) e377 f389 f388 (Or.inl (own_u hw 95 rfl)) (own_u hw 60 rfl) g_a1 (ty := (.array .int)) (v := (.ref b377)) (by decide) rfl rfl (pc := 42) (Ls := #[.val (.ref a1), .val (.ref n1), .val (.ref ra), .unset]) (rest := []) (hb hby own_d8_42)
  refine own_via st431 ?_
  have f432 := f388.wr W431
  have f433 := f390.other W431 (Or.inr (slot_ne (Or.inr (own_u hw 111 rfl)) (Or.inl (own_u hw 95 rfl)) (by decide) rfl rfl))
  have f434 := f391.other W431 (Or.inr (slot_ne (Or.inr (own_u hw 113 rfl)) (Or.inl (own_u hw 95 rfl)) (by decide) rfl rfl))
  have f435 := f392.other W431 (Or.inr (slot_ne (Or.inr (own_u hw 115 rfl)) (Or.inl (own_u hw 95 rfl)) (by decide) rfl rfl))
  have f436 := f393.other W431 (Or.inr (slot_ne (Or.inr (own_u hw 117 rfl)) (Or.inl (own_u hw 95 rfl)) (by decide) rfl rfl))
  have f437 := f394.other W431 (Or.inr (slot_ne (Or.inr (own_u hw 124 rfl)) (Or.inl (own_u hw 95 rfl)) (by decide) rfl rfl))
  have f438 := f395.other W431 (Or.inr (slot_ne (Or.inr (own_u hw 131 rfl)) (Or.inl (own_u hw 95 rfl)) (by decide) rfl rfl))
  have f439 := f396.other W431 (Or.inr (slot_ne (Or.inr (own_u hw 138 rfl)) (Or.inl (own_u hw 95 rfl)) (by decide) rfl rfl))
  have f440 := f397.other W431 (Or.inr (slot_ne (Or.inr (own_u hw 186 rfl)) (Or.inl (own_u hw 95 rfl)) (by decide) rfl rfl))
  have f441 := f398.other W431 (Or.inr (slot_ne (Or.inr (own_u hw 188 rfl)) (Or.inl (own_u hw 95 rfl)) (by decide) rfl rfl))
  have f442 := f399.other W431 (Or.inr (slot_ne (Or.inr (own_u hw 190 rfl)) (Or.inl (own_u hw 95 rfl)) (by decide) rfl rfl))
  have f443 := f400.other W431 (Or.inr (slot_ne (Or.inr (own_u hw 192 rfl)) (Or.inl (own_u hw 95 rfl)) (by decide) rfl rfl))
  have f444 := f401.other W431 (Or.inr (slot_ne (Or.inr (own_u hw 194 rfl)) (Or.inl (own_u hw 95 rfl)) (by decide) rfl rfl))
  have f445 := f402.other W431 (Or.inr (slot_ne (Or.inr (own_u hw 196 rfl)) (Or.inl (own_u hw 95 rfl)) (by decide) rfl rfl))
  have f446 := f403.other W431 (Or.inr (slot_ne (Or.inr (own_u hw 198 rfl)) (Or.inl (own_u hw 95 rfl)) (by decide) rfl rfl))
  have f447 := f404.other W431 (Or.inr (slot_ne (Or.inr (own_u hw 200 rfl)) (Or.inl (own_u hw 95 rfl)) (by decide) rfl rfl))
  have f448 := f405.wr W431
  have f449 := f406.other W431 (Or.inl (Ne.symm ne_a1_n1))
  have f450 := f407.other W431 (Or.inl (Ne.symm ne_a1_n1))
  have f451 := f408.other W431 (Or.inl (Ne.symm ne_a1_n1))
  have f452 := f409.other W431 (Or.inl (Ne.symm ne_a1_n1))
  have f453 := f410.other W431 (Ne.symm ne_a1_ra)
  have f454 := f411.other W431 (Ne.symm ne_a1_va)
  have f455 := f412.wr W431
  have f456 := f413.wr W431
  have f457 := f414.other W431 (Or.inl (Ne.symm ne3))
  have f458 := f415.other W431 (Ne.symm ne41)
  have f459 := f416.other W431 (Or.inl (Ne.symm ne3))
  have f460 := f417.other W431 (Or.inr (slot_ne (Or.inr (own_u hw 89 rfl)) (Or.inl (own_u hw 95 rfl)) (by decide) rfl rfl))
  have f461 := f418.wr W431
  have f462 := f419.other W431 (Or.inl (Ne.symm ne112))
  have f463 := f420.other W431 (Ne.symm ne156)
  have f464 := f421.other W431 (Or.inl (Ne.symm ne112))
  have f465 := f422.other W431 (Or.inr (slot_ne (Or.inr (own_u hw 91 rfl)) (Or.inl (own_u hw 95 rfl)) (by decide) rfl rfl))
  have Kp472 := Kp428.wr W431 (Or.inl (List.mem_of_getElem? (i := 0) rfl))
  have Zs473 : n0 ≤ h431.size := by rw [W431.size]; exact Zs430
  show own_H T431 45 #[.val (.ref a1), .val (.ref n1), .val (.ref ra), .unset] []
  clear f388 f389 f390 f391 f392 f393 f394 f395 f396 f397 f398 f399 f400 f401 f402 f403 f404 f405 f406 f407 f408 f409 f410 f411 f412 f413 f414 f415 f416 f417 f418 f419 f420 f421 f422 Kp428 Zs430
  refine own_via (fun t k => XS.aloadN X431.here hx rfl (hb hby own_d8_45) rfl rfl k) ?_
  show own_H T431 46 #[.val (.ref a1), .val (.ref n1), .val (.ref ra), .unset] [(.ref a1)]
  obtain ⟨T474, h474, b474, X474, e474, E474, ga474, A474, D474, st474⟩ := own_newO X431 hx hZ hown (own_u hw 96 rfl) (own_u hw 97 rfl) (own_u hw 98 rfl) e431 (pc := 46) (Ls := #[.val (.ref a1), .val (.ref n1), .val (.ref ra), .unset]) (rest := [(.ref a1)]) (hb hby own_d8_46) (by decide) (by decide)
  refine own_via st474 ?_
  have sz_b474 : h0.size ≤ b474 := Nat.le_trans Kp472.1 (Nat.le_of_eq ga474.symm)
  have ne475 : a1 ≠ b474 := Nat.ne_of_lt (Nat.lt_of_lt_of_le f432.lt (Nat.le_of_eq ga474.symm))
  have ne476 : n1 ≠ b474 := Nat.ne_of_lt (Nat.lt_of_lt_of_le f448.lt (Nat.le_of_eq ga474.symm))
  have ne477 : ra ≠ b474 := Nat.ne_of_lt (Nat.lt_of_lt_of_le f453.lt (Nat.le_of_eq ga474.symm))
  have ne478 : va ≠ b474 := Nat.ne_of_lt (Nat.lt_of_lt_of_le f454.lt (Nat.le_of_eq ga474.symm))
  have ne479 : b2 ≠ b474 := Nat.ne_of_lt (Nat.lt_of_lt_of_le f456.lt (Nat.le_of_eq ga474.symm))
  have ne480 : x40 ≠ b474 := Nat.ne_of_lt (Nat.lt_of_lt_of_le f458.lt (Nat.le_of_eq ga474.symm))
  have ne481 : b111 ≠ b474 := Nat.ne_of_lt (Nat.lt_of_lt_of_le f461.lt (Nat.le_of_eq ga474.symm))
  have ne482 : x155 ≠ b474 := Nat.ne_of_lt (Nat.lt_of_lt_of_le f463.lt (Nat.le_of_eq ga474.symm))
  have f486 := f432.ext E474
  have f487 := f433.ext E474
  have f488 := f434.ext E474
  have f489 := f435.ext E474
  have f490 := f436.ext E474
  have f491 := f437.ext E474
  have f492 := f438.ext E474
  have f493 := f439.ext E474
  have f494 := f440.ext E474
  have f495 := f441.ext E474
  have f496 := f442.ext E474
  have f497 := f443.ext E474
  have f498 := f444.ext E474
  have f499 := f445.ext E474
  have f500 := f446.ext E474
  have f501 := f447.ext E474
  have f502 := f448.ext E474
  have f503 := f449.ext E474
  have f504 := f450.ext E474
  have f505 := f451.ext E474
  have f506 := f452.ext E474
  have f507 := f453.ext E474
  have f508 := f454.ext E474
  have f509 := f455.ext E474
  have f510 := f456.ext E474
  have f511 := f457.ext E474
  have f512 := f458.ext E474
  have f513 := f459.ext E474
  have f514 := f460.ext E474
  have f515 := f461.ext E474
  have f516 := f462.ext E474
  have f517 := f463.ext E474
  have f518 := f464.ext E474
  have f519 := f465.ext E474
  have Kp527 := Kp472.ext E474
  have f528 : Fld Z h474 b474 own_cS "version" "J" (.long (0 : Int64)) := D474 (Or.inl (own_u hw 105 rfl)) (ty := .long) (by decide)
  have f529 : Fld Z h474 b474 own_cS "nodes" own_dB .null := D474 (Or.inl (own_u hw 109 rfl)) (ty := (.object "java/util/BitSet")) (by decide)
  have g_b474 : n0 ≤ b474 := Nat.le_trans Zs473 (Nat.le_of_eq ga474.symm)
  have Zs530 : n0 ≤ h474.size := Nat.le_trans Zs473 E474.1
  show own_H T474 49 #[.val (.ref a1), .val (.ref n1), .val (.ref ra), .unset] [(.ref b474), (.ref a1)]
  clear f432 f433 f434 f435 f436 f437 f438 f439 f440 f441 f442 f443 f444 f445 f446 f447 f448 f449 f450 f451 f452 f453 f454 f455 f456 f457 f458 f459 f460 f461 f462 f463 f464 f465 F431 Kp472 Zs473
  refine own_via (fun t k => XS.dup X474.here hx rfl (hb hby own_d8_49) rfl rfl k) ?_
  show own_H T474 50 #[.val (.ref a1), .val (.ref n1), .val (.ref ra), .unset] [(.ref b474), (.ref b474), (.ref a1)]
  obtain ⟨v531, T531, h531, L531, X531, N531, e531, hq531, st531⟩ := own_callIR (y := (⟨"com/example/dissoc/dissoc/mincut/Flow$Side", "<init>", "()V"⟩ : MethodName)) (W := 2) (a := b474) X474 N431 hx hZ rfl hown (own_u hw 99 rfl) (own_u hw 100 rfl) (own_u hw 98 rfl) (own_u hw 101 rfl) (by decide) (own_si l Z a0 hw [] b474 (.long (0 : Int64)) (.null) h474 n0 Zs530 A474 f528 f529 g_b474) (by decide) (by decide) (by decide) (by decide) e474 (pc := 50) (Ls := #[.val (.ref a1), .val (.ref n1), .val (.ref ra), .unset]) (st := [(.ref b474), (.ref b474), (.ref a1)]) (argsL := []) (rest := [(.ref b474), (.ref a1)]) (by rw [hml]; rfl) (lenOf own_pd2 rfl) rfl rfl (Nat.le_of_eq rfl) (hb hby own_d8_50)
  obtain ⟨rfl, K531⟩ := hq531
  refine own_via st531 ?_
  have f532 := f486.keep K531
  have f533 := f487.keep K531 (by simp only [List.mem_cons, List.not_mem_nil, or_false, not_or]; exact ne475)
  have f534 := f488.keep K531 (by simp only [List.mem_cons, List.not_mem_nil, or_false, not_or]; exact ne475)
  have f535 := f489.keep K531 (by simp only [List.mem_cons, List.not_mem_nil, or_false, not_or]; exact ne475)
  have f536 := f490.keep K531 (by simp only [List.mem_cons, List.not_mem_nil, or_false, not_or]; exact ne475)
  have f537 := f491.keep K531 (by simp only [List.mem_cons, List.not_mem_nil, or_false, not_or]; exact ne475)
  have f538 := f492.keep K531 (by simp only [List.mem_cons, List.not_mem_nil, or_false, not_or]; exact ne475)
  have f539 := f493.keep K531 (by simp only [List.mem_cons, List.not_mem_nil, or_false, not_or]; exact ne475)
  have f540 := f494.keep K531 (by simp only [List.mem_cons, List.not_mem_nil, or_false, not_or]; exact ne475)
  have f541 := f495.keep K531 (by simp only [List.mem_cons, List.not_mem_nil, or_false, not_or]; exact ne475)
  have f542 := f496.keep K531 (by simp only [List.mem_cons, List.not_mem_nil, or_false, not_or]; exact ne475)
  have f543 := f497.keep K531 (by simp only [List.mem_cons, List.not_mem_nil, or_false, not_or]; exact ne475)
  have f544 := f498.keep K531 (by simp only [List.mem_cons, List.not_mem_nil, or_false, not_or]; exact ne475)
  have f545 := f499.keep K531 (by simp only [List.mem_cons, List.not_mem_nil, or_false, not_or]; exact ne475)
  have f546 := f500.keep K531 (by simp only [List.mem_cons, List.not_mem_nil, or_false, not_or]; exact ne475)
  have f547 := f501.keep K531 (by simp only [List.mem_cons, List.not_mem_nil, or_false, not_or]; exact ne475)
  have f548 := f502.keep K531
  have f549 := f503.keep K531 (by simp only [List.mem_cons, List.not_mem_nil, or_false, not_or]; exact ne476)
  have f550 := f504.keep K531 (by simp only [List.mem_cons, List.not_mem_nil, or_false, not_or]; exact ne476)
  have f551 := f505.keep K531 (by simp only [List.mem_cons, List.not_mem_nil, or_false, not_or]; exact ne476)
  have f552 := f506.keep K531 (by simp only [List.mem_cons, List.not_mem_nil, or_false, not_or]; exact ne476)
  have f553 := f507.keep K531 (by simp only [List.mem_cons, List.not_mem_nil, or_false, not_or]; exact ne477)
  have f554 := f508.keep K531 (by simp only [List.mem_cons, List.not_mem_nil, or_false, not_or]; exact ne478)
  have f555 := own_staK f509 K531 (fun x hx => by simp only [List.mem_cons, List.not_mem_nil, or_false] at hx; rcases hx with rfl <;> first | exact A474.nostat)
  have f556 := f510.keep K531
  have f557 := f511.keep K531 (by simp only [List.mem_cons, List.not_mem_nil, or_false, not_or]; exact ne479)
  have f558 := f512.keep K531 (by simp only [List.mem_cons, List.not_mem_nil, or_false, not_or]; exact ne480)
  have f559 := f513.keep K531 (by simp only [List.mem_cons, List.not_mem_nil, or_false, not_or]; exact ne479)
  have f560 := f514.keep K531 (by simp only [List.mem_cons, List.not_mem_nil, or_false, not_or]; exact ne475)
  have f561 := f515.keep K531
  have f562 := f516.keep K531 (by simp only [List.mem_cons, List.not_mem_nil, or_false, not_or]; exact ne481)
  have f563 := f517.keep K531 (by simp only [List.mem_cons, List.not_mem_nil, or_false, not_or]; exact ne482)
  have f564 := f518.keep K531 (by simp only [List.mem_cons, List.not_mem_nil, or_false, not_or]; exact ne481)
  have f565 := f519.keep K531 (by simp only [List.mem_cons, List.not_mem_nil, or_false, not_or]; exact ne475)
  have Kp574 := Kp527.trans K531 (fun x hx => by simp only [List.mem_cons, List.not_mem_nil, or_false] at hx; rcases hx with rfl <;> first | exact (Or.inr sz_b474))
  have Zs575 : n0 ≤ h531.size := Nat.le_trans Zs530 K531.1
  show own_H T531 53 #[.val (.ref a1), .val (.ref n1), .val (.ref ra), .unset] [(.ref b474), (.ref a1)]
  clear f486 f487 f488 f489 f490 f491 f492 f493 f494 f495 f496 f497 f498 f499 f500 f501 f502 f503 f504 f505 f506 f507 f508 f509 f510 f511 f512 f513 f514 f515 f516 f517 f518 f519 A474 f528 f529 Kp527 Zs530
  obtain ⟨T576, h576, L576, X576, N576, e576, W576, F576, st576⟩ := own_putF X531 N531 hx hZ hown (own_u hw 110 rfl) e531 f533 f532 (Or.inr ⟨(own_u hw 111 rfl), rfl, hnm⟩) (own_u hw 60 rfl) g_a1 (ty := (.object "com/example/dissoc/dissoc/mincut/Flow$Side")) (v := (.ref b474)) (by decide) rfl rfl (pc := 53) (Ls := #[.val (.ref a1), .val (.ref n1), .val (.ref ra), .unset]) (rest := []) (hb hby own_d8_53)
  refine own_via st576 ?_
  have f577 := f532.wr W576
  have f578 := f534.other W576 (Or.inr (slot_ne (Or.inr (own_u hw 113 rfl)) (Or.inr (own_u hw 111 rfl)) (by decide) rfl rfl))
  have f579 := f535.other W576 (Or.inr (slot_ne (Or.inr (own_u hw 115 rfl)) (Or.inr (own_u hw 111 rfl)) (by decide) rfl rfl))
  have f580 := f536.other W576 (Or.inr (slot_ne (Or.inr (own_u hw 117 rfl)) (Or.inr (own_u hw 111 rfl)) (by decide) rfl rfl))
  have f581 := f537.other W576 (Or.inr (slot_ne (Or.inr (own_u hw 124 rfl)) (Or.inr (own_u hw 111 rfl)) (by decide) rfl rfl))
  have f582 := f538.other W576 (Or.inr (slot_ne (Or.inr (own_u hw 131 rfl)) (Or.inr (own_u hw 111 rfl)) (by decide) rfl rfl))
  have f583 := f539.other W576 (Or.inr (slot_ne (Or.inr (own_u hw 138 rfl)) (Or.inr (own_u hw 111 rfl)) (by decide) rfl rfl))
  have f584 := f540.other W576 (Or.inr (slot_ne (Or.inr (own_u hw 186 rfl)) (Or.inr (own_u hw 111 rfl)) (by decide) rfl rfl))
  have f585 := f541.other W576 (Or.inr (slot_ne (Or.inr (own_u hw 188 rfl)) (Or.inr (own_u hw 111 rfl)) (by decide) rfl rfl))
  have f586 := f542.other W576 (Or.inr (slot_ne (Or.inr (own_u hw 190 rfl)) (Or.inr (own_u hw 111 rfl)) (by decide) rfl rfl))
  have f587 := f543.other W576 (Or.inr (slot_ne (Or.inr (own_u hw 192 rfl)) (Or.inr (own_u hw 111 rfl)) (by decide) rfl rfl))
  have f588 := f544.other W576 (Or.inr (slot_ne (Or.inr (own_u hw 194 rfl)) (Or.inr (own_u hw 111 rfl)) (by decide) rfl rfl))
  have f589 := f545.other W576 (Or.inr (slot_ne (Or.inr (own_u hw 196 rfl)) (Or.inr (own_u hw 111 rfl)) (by decide) rfl rfl))
  have f590 := f546.other W576 (Or.inr (slot_ne (Or.inr (own_u hw 198 rfl)) (Or.inr (own_u hw 111 rfl)) (by decide) rfl rfl))
  have f591 := f547.other W576 (Or.inr (slot_ne (Or.inr (own_u hw 200 rfl)) (Or.inr (own_u hw 111 rfl)) (by decide) rfl rfl))
  have f592 := f548.wr W576
  have f593 := f549.other W576 (Or.inl (Ne.symm ne_a1_n1))
  have f594 := f550.other W576 (Or.inl (Ne.symm ne_a1_n1))
  have f595 := f551.other W576 (Or.inl (Ne.symm ne_a1_n1))
  have f596 := f552.other W576 (Or.inl (Ne.symm ne_a1_n1))
  have f597 := f553.other W576 (Ne.symm ne_a1_ra)
  have f598 := f554.other W576 (Ne.symm ne_a1_va)
  have f599 := f555.wr W576
  have f600 := f556.wr W576
  have f601 := f557.other W576 (Or.inl (Ne.symm ne3))
  have f602 := f558.other W576 (Ne.symm ne41)
  have f603 := f559.other W576 (Or.inl (Ne.symm ne3))
  have f604 := f560.other W576 (Or.inr (slot_ne (Or.inr (own_u hw 89 rfl)) (Or.inr (own_u hw 111 rfl)) (by decide) rfl rfl))
  have f605 := f561.wr W576
  have f606 := f562.other W576 (Or.inl (Ne.symm ne112))
  have f607 := f563.other W576 (Ne.symm ne156)
  have f608 := f564.other W576 (Or.inl (Ne.symm ne112))
  have f609 := f565.other W576 (Or.inr (slot_ne (Or.inr (own_u hw 91 rfl)) (Or.inr (own_u hw 111 rfl)) (by decide) rfl rfl))
  have Kp618 := Kp574.wr W576 (Or.inl (List.mem_of_getElem? (i := 0) rfl))
  have Zs619 : n0 ≤ h576.size := by rw [W576.size]; exact Zs575
  show own_H T576 56 #[.val (.ref a1), .val (.ref n1), .val (.ref ra), .unset] []
  clear f532 f533 f534 f535 f536 f537 f538 f539 f540 f541 f542 f543 f544 f545 f546 f547 f548 f549 f550 f551 f552 f553 f554 f555 f556 f557 f558 f559 f560 f561 f562 f563 f564 f565 Kp574 Zs575
  refine own_via (fun t k => XS.aloadN X576.here hx rfl (hb hby own_d8_56) rfl rfl k) ?_
  show own_H T576 57 #[.val (.ref a1), .val (.ref n1), .val (.ref ra), .unset] [(.ref a1)]
  obtain ⟨T620, h620, b620, X620, e620, E620, ga620, A620, D620, st620⟩ := own_newO X576 hx hZ hown (own_u hw 96 rfl) (own_u hw 97 rfl) (own_u hw 98 rfl) e576 (pc := 57) (Ls := #[.val (.ref a1), .val (.ref n1), .val (.ref ra), .unset]) (rest := [(.ref a1)]) (hb hby own_d8_57) (by decide) (by decide)
  refine own_via st620 ?_
  have sz_b620 : h0.size ≤ b620 := Nat.le_trans Kp618.1 (Nat.le_of_eq ga620.symm)
  have ne621 : a1 ≠ b620 := Nat.ne_of_lt (Nat.lt_of_lt_of_le f577.lt (Nat.le_of_eq ga620.symm))
  have ne622 : n1 ≠ b620 := Nat.ne_of_lt (Nat.lt_of_lt_of_le f592.lt (Nat.le_of_eq ga620.symm))
  have ne623 : ra ≠ b620 := Nat.ne_of_lt (Nat.lt_of_lt_of_le f597.lt (Nat.le_of_eq ga620.symm))
  have ne624 : va ≠ b620 := Nat.ne_of_lt (Nat.lt_of_lt_of_le f598.lt (Nat.le_of_eq ga620.symm))
  have ne625 : b2 ≠ b620 := Nat.ne_of_lt (Nat.lt_of_lt_of_le f600.lt (Nat.le_of_eq ga620.symm))
  have ne626 : x40 ≠ b620 := Nat.ne_of_lt (Nat.lt_of_lt_of_le f602.lt (Nat.le_of_eq ga620.symm))
  have ne627 : b111 ≠ b620 := Nat.ne_of_lt (Nat.lt_of_lt_of_le f605.lt (Nat.le_of_eq ga620.symm))
  have ne628 : x155 ≠ b620 := Nat.ne_of_lt (Nat.lt_of_lt_of_le f607.lt (Nat.le_of_eq ga620.symm))
  have f633 := f577.ext E620
  have f634 := f578.ext E620
  have f635 := f579.ext E620
  have f636 := f580.ext E620
  have f637 := f581.ext E620
  have f638 := f582.ext E620
  have f639 := f583.ext E620
  have f640 := f584.ext E620
  have f641 := f585.ext E620
  have f642 := f586.ext E620
  have f643 := f587.ext E620
  have f644 := f588.ext E620
  have f645 := f589.ext E620
  have f646 := f590.ext E620
  have f647 := f591.ext E620
  have f648 := f592.ext E620
  have f649 := f593.ext E620
  have f650 := f594.ext E620
  have f651 := f595.ext E620
  have f652 := f596.ext E620
  have f653 := f597.ext E620
  have f654 := f598.ext E620
  have f655 := f599.ext E620
  have f656 := f600.ext E620
  have f657 := f601.ext E620
  have f658 := f602.ext E620
  have f659 := f603.ext E620
  have f660 := f604.ext E620
  have f661 := f605.ext E620
  have f662 := f606.ext E620
  have f663 := f607.ext E620
  have f664 := f608.ext E620
  have f665 := f609.ext E620
  have Kp675 := Kp618.ext E620
  have f676 : Fld Z h620 b620 own_cS "version" "J" (.long (0 : Int64)) := D620 (Or.inl (own_u hw 105 rfl)) (ty := .long) (by decide)
  have f677 : Fld Z h620 b620 own_cS "nodes" own_dB .null := D620 (Or.inl (own_u hw 109 rfl)) (ty := (.object "java/util/BitSet")) (by decide)
  have g_b620 : n0 ≤ b620 := Nat.le_trans Zs619 (Nat.le_of_eq ga620.symm)
  have Zs678 : n0 ≤ h620.size := Nat.le_trans Zs619 E620.1
  show own_H T620 60 #[.val (.ref a1), .val (.ref n1), .val (.ref ra), .unset] [(.ref b620), (.ref a1)]
  clear f577 f578 f579 f580 f581 f582 f583 f584 f585 f586 f587 f588 f589 f590 f591 f592 f593 f594 f595 f596 f597 f598 f599 f600 f601 f602 f603 f604 f605 f606 f607 f608 f609 F576 Kp618 Zs619
  refine own_via (fun t k => XS.dup X620.here hx rfl (hb hby own_d8_60) rfl rfl k) ?_
  show own_H T620 61 #[.val (.ref a1), .val (.ref n1), .val (.ref ra), .unset] [(.ref b620), (.ref b620), (.ref a1)]
  obtain ⟨v679, T679, h679, L679, X679, N679, e679, hq679, st679⟩ := own_callIR (y := (⟨"com/example/dissoc/dissoc/mincut/Flow$Side", "<init>", "()V"⟩ : MethodName)) (W := 2) (a := b620) X620 N576 hx hZ rfl hown (own_u hw 99 rfl) (own_u hw 100 rfl) (own_u hw 98 rfl) (own_u hw 101 rfl) (by decide) (own_si l Z a0 hw [] b620 (.long (0 : Int64)) (.null) h620 n0 Zs678 A620 f676 f677 g_b620) (by decide) (by decide) (by decide) (by decide) e620 (pc := 61) (Ls := #[.val (.ref a1), .val (.ref n1), .val (.ref ra), .unset]) (st := [(.ref b620), (.ref b620), (.ref a1)]) (argsL := []) (rest := [(.ref b620), (.ref a1)]) (by rw [hml]; rfl) (lenOf own_pd2 rfl) rfl rfl (Nat.le_of_eq rfl) (hb hby own_d8_61)
  obtain ⟨rfl, K679⟩ := hq679
  refine own_via st679 ?_
  have f680 := f633.keep K679
  have f681 := f634.keep K679 (by simp only [List.mem_cons, List.not_mem_nil, or_false, not_or]; exact ne621)
  have f682 := f635.keep K679 (by simp only [List.mem_cons, List.not_mem_nil, or_false, not_or]; exact ne621)
  have f683 := f636.keep K679 (by simp only [List.mem_cons, List.not_mem_nil, or_false, not_or]; exact ne621)
  have f684 := f637.keep K679 (by simp only [List.mem_cons, List.not_mem_nil, or_false, not_or]; exact ne621)
  have f685 := f638.keep K679 (by simp only [List.mem_cons, List.not_mem_nil, or_false, not_or]; exact ne621)
  have f686 := f639.keep K679 (by simp only [List.mem_cons, List.not_mem_nil, or_false, not_or]; exact ne621)
  have f687 := f640.keep K679 (by simp only [List.mem_cons, List.not_mem_nil, or_false, not_or]; exact ne621)
  have f688 := f641.keep K679 (by simp only [List.mem_cons, List.not_mem_nil, or_false, not_or]; exact ne621)
  have f689 := f642.keep K679 (by simp only [List.mem_cons, List.not_mem_nil, or_false, not_or]; exact ne621)
  have f690 := f643.keep K679 (by simp only [List.mem_cons, List.not_mem_nil, or_false, not_or]; exact ne621)
  have f691 := f644.keep K679 (by simp only [List.mem_cons, List.not_mem_nil, or_false, not_or]; exact ne621)
  have f692 := f645.keep K679 (by simp only [List.mem_cons, List.not_mem_nil, or_false, not_or]; exact ne621)
  have f693 := f646.keep K679 (by simp only [List.mem_cons, List.not_mem_nil, or_false, not_or]; exact ne621)
  have f694 := f647.keep K679 (by simp only [List.mem_cons, List.not_mem_nil, or_false, not_or]; exact ne621)
  have f695 := f648.keep K679
  have f696 := f649.keep K679 (by simp only [List.mem_cons, List.not_mem_nil, or_false, not_or]; exact ne622)
  have f697 := f650.keep K679 (by simp only [List.mem_cons, List.not_mem_nil, or_false, not_or]; exact ne622)
  have f698 := f651.keep K679 (by simp only [List.mem_cons, List.not_mem_nil, or_false, not_or]; exact ne622)
  have f699 := f652.keep K679 (by simp only [List.mem_cons, List.not_mem_nil, or_false, not_or]; exact ne622)
  have f700 := f653.keep K679 (by simp only [List.mem_cons, List.not_mem_nil, or_false, not_or]; exact ne623)
  have f701 := f654.keep K679 (by simp only [List.mem_cons, List.not_mem_nil, or_false, not_or]; exact ne624)
  have f702 := own_staK f655 K679 (fun x hx => by simp only [List.mem_cons, List.not_mem_nil, or_false] at hx; rcases hx with rfl <;> first | exact A620.nostat)
  have f703 := f656.keep K679
  have f704 := f657.keep K679 (by simp only [List.mem_cons, List.not_mem_nil, or_false, not_or]; exact ne625)
  have f705 := f658.keep K679 (by simp only [List.mem_cons, List.not_mem_nil, or_false, not_or]; exact ne626)
  have f706 := f659.keep K679 (by simp only [List.mem_cons, List.not_mem_nil, or_false, not_or]; exact ne625)
  have f707 := f660.keep K679 (by simp only [List.mem_cons, List.not_mem_nil, or_false, not_or]; exact ne621)
  have f708 := f661.keep K679
  have f709 := f662.keep K679 (by simp only [List.mem_cons, List.not_mem_nil, or_false, not_or]; exact ne627)
  have f710 := f663.keep K679 (by simp only [List.mem_cons, List.not_mem_nil, or_false, not_or]; exact ne628)
  have f711 := f664.keep K679 (by simp only [List.mem_cons, List.not_mem_nil, or_false, not_or]; exact ne627)
  have f712 := f665.keep K679 (by simp only [List.mem_cons, List.not_mem_nil, or_false, not_or]; exact ne621)
  have Kp723 := Kp675.trans K679 (fun x hx => by simp only [List.mem_cons, List.not_mem_nil, or_false] at hx; rcases hx with rfl <;> first | exact (Or.inr sz_b620))
  have Zs724 : n0 ≤ h679.size := Nat.le_trans Zs678 K679.1
  show own_H T679 64 #[.val (.ref a1), .val (.ref n1), .val (.ref ra), .unset] [(.ref b620), (.ref a1)]
  clear f633 f634 f635 f636 f637 f638 f639 f640 f641 f642 f643 f644 f645 f646 f647 f648 f649 f650 f651 f652 f653 f654 f655 f656 f657 f658 f659 f660 f661 f662 f663 f664 f665 A620 f676 f677 Kp675 Zs678
  obtain ⟨T725, h725, L725, X725, N725, e725, W725, F725, st725⟩ := own_putF X679 N679 hx hZ hown (own_u hw 112 rfl) e679 f681 f680 (Or.inr ⟨(own_u hw 113 rfl), rfl, hnm⟩) (own_u hw 60 rfl) g_a1 (ty := (.object "com/example/dissoc/dissoc/mincut/Flow$Side")) (v := (.ref b620)) (by decide) rfl rfl (pc := 64) (Ls := #[.val (.ref a1), .val (.ref n1), .val (.ref ra), .unset]) (rest := []) (hb hby own_d8_64)
  refine own_via st725 ?_
  have f726 := f680.wr W725
  have f727 := f682.other W725 (Or.inr (slot_ne (Or.inr (own_u hw 115 rfl)) (Or.inr (own_u hw 113 rfl)) (by decide) rfl rfl))
  have f728 := f683.other W725 (Or.inr (slot_ne (Or.inr (own_u hw 117 rfl)) (Or.inr (own_u hw 113 rfl)) (by decide) rfl rfl))
  have f729 := f684.other W725 (Or.inr (slot_ne (Or.inr (own_u hw 124 rfl)) (Or.inr (own_u hw 113 rfl)) (by decide) rfl rfl))
  have f730 := f685.other W725 (Or.inr (slot_ne (Or.inr (own_u hw 131 rfl)) (Or.inr (own_u hw 113 rfl)) (by decide) rfl rfl))
  have f731 := f686.other W725 (Or.inr (slot_ne (Or.inr (own_u hw 138 rfl)) (Or.inr (own_u hw 113 rfl)) (by decide) rfl rfl))
  have f732 := f687.other W725 (Or.inr (slot_ne (Or.inr (own_u hw 186 rfl)) (Or.inr (own_u hw 113 rfl)) (by decide) rfl rfl))
  have f733 := f688.other W725 (Or.inr (slot_ne (Or.inr (own_u hw 188 rfl)) (Or.inr (own_u hw 113 rfl)) (by decide) rfl rfl))
  have f734 := f689.other W725 (Or.inr (slot_ne (Or.inr (own_u hw 190 rfl)) (Or.inr (own_u hw 113 rfl)) (by decide) rfl rfl))
  have f735 := f690.other W725 (Or.inr (slot_ne (Or.inr (own_u hw 192 rfl)) (Or.inr (own_u hw 113 rfl)) (by decide) rfl rfl))
  have f736 := f691.other W725 (Or.inr (slot_ne (Or.inr (own_u hw 194 rfl)) (Or.inr (own_u hw 113 rfl)) (by decide) rfl rfl))
  have f737 := f692.other W725 (Or.inr (slot_ne (Or.inr (own_u hw 196 rfl)) (Or.inr (own_u hw 113 rfl)) (by decide) rfl rfl))
  have f738 := f693.other W725 (Or.inr (slot_ne (Or.inr (own_u hw 198 rfl)) (Or.inr (own_u hw 113 rfl)) (by decide) rfl rfl))
  have f739 := f694.other W725 (Or.inr (slot_ne (Or.inr (own_u hw 200 rfl)) (Or.inr (own_u hw 113 rfl)) (by decide) rfl rfl))
  have f740 := f695.wr W725
  have f741 := f696.other W725 (Or.inl (Ne.symm ne_a1_n1))
  have f742 := f697.other W725 (Or.inl (Ne.symm ne_a1_n1))
  have f743 := f698.other W725 (Or.inl (Ne.symm ne_a1_n1))
  have f744 := f699.other W725 (Or.inl (Ne.symm ne_a1_n1))
  have f745 := f700.other W725 (Ne.symm ne_a1_ra)
  have f746 := f701.other W725 (Ne.symm ne_a1_va)
  have f747 := f702.wr W725
  have f748 := f703.wr W725
  have f749 := f704.other W725 (Or.inl (Ne.symm ne3))
  have f750 := f705.other W725 (Ne.symm ne41)
  have f751 := f706.other W725 (Or.inl (Ne.symm ne3))
  have f752 := f707.other W725 (Or.inr (slot_ne (Or.inr (own_u hw 89 rfl)) (Or.inr (own_u hw 113 rfl)) (by decide) rfl rfl))
  have f753 := f708.wr W725
  have f754 := f709.other W725 (Or.inl (Ne.symm ne112))
  have f755 := f710.other W725 (Ne.symm ne156)
  have f756 := f711.other W725 (Or.inl (Ne.symm ne112))
  have f757 := f712.other W725 (Or.inr (slot_ne (Or.inr (own_u hw 91 rfl)) (Or.inr (own_u hw 113 rfl)) (by decide) rfl rfl))
  have Kp768 := Kp723.wr W725 (Or.inl (List.mem_of_getElem? (i := 0) rfl))
  have Zs769 : n0 ≤ h725.size := by rw [W725.size]; exact Zs724
  show own_H T725 67 #[.val (.ref a1), .val (.ref n1), .val (.ref ra), .unset] []
  clear f680 f681 f682 f683 f684 f685 f686 f687 f688 f689 f690 f691 f692 f693 f694 f695 f696 f697 f698 f699 f700 f701 f702 f703 f704 f705 f706 f707 f708 f709 f710 f711 f712 Kp723 Zs724
  refine own_via (fun t k => XS.aloadN X725.here hx rfl (hb hby own_d8_67) rfl rfl k) ?_
  refine own_via (fun t k => XS.aloadN X725.here hx rfl (hb hby own_d8_68) rfl rfl k) ?_
  show own_H T725 69 #[.val (.ref a1), .val (.ref n1), .val (.ref ra), .unset] [(.ref n1), (.ref a1)]
  obtain ⟨T770, h770, L770, X770, N770, e770, W770, F770, st770⟩ := own_putF X725 N725 hx hZ hown (own_u hw 114 rfl) e725 f727 f726 (Or.inr ⟨(own_u hw 115 rfl), rfl, hnm⟩) (own_u hw 60 rfl) g_a1 (ty := (.object "com/example/dissoc/dissoc/mincut/FlowNetwork")) (v := (.ref n1)) (by decide) rfl rfl (pc := 69) (Ls := #[.val (.ref a1), .val (.ref n1), .val (.ref ra), .unset]) (rest := []) (hb hby own_d8_69)
  refine own_via st770 ?_
  have f771 := f726.wr W770
  have f772 := f728.other W770 (Or.inr (slot_ne (Or.inr (own_u hw 117 rfl)) (Or.inr (own_u hw 115 rfl)) (by decide) rfl rfl))
  have f773 := f729.other W770 (Or.inr (slot_ne (Or.inr (own_u hw 124 rfl)) (Or.inr (own_u hw 115 rfl)) (by decide) rfl rfl))
  have f774 := f730.other W770 (Or.inr (slot_ne (Or.inr (own_u hw 131 rfl)) (Or.inr (own_u hw 115 rfl)) (by decide) rfl rfl))
  have f775 := f731.other W770 (Or.inr (slot_ne (Or.inr (own_u hw 138 rfl)) (Or.inr (own_u hw 115 rfl)) (by decide) rfl rfl))
  have f776 := f732.other W770 (Or.inr (slot_ne (Or.inr (own_u hw 186 rfl)) (Or.inr (own_u hw 115 rfl)) (by decide) rfl rfl))
  have f777 := f733.other W770 (Or.inr (slot_ne (Or.inr (own_u hw 188 rfl)) (Or.inr (own_u hw 115 rfl)) (by decide) rfl rfl))
  have f778 := f734.other W770 (Or.inr (slot_ne (Or.inr (own_u hw 190 rfl)) (Or.inr (own_u hw 115 rfl)) (by decide) rfl rfl))
  have f779 := f735.other W770 (Or.inr (slot_ne (Or.inr (own_u hw 192 rfl)) (Or.inr (own_u hw 115 rfl)) (by decide) rfl rfl))
  have f780 := f736.other W770 (Or.inr (slot_ne (Or.inr (own_u hw 194 rfl)) (Or.inr (own_u hw 115 rfl)) (by decide) rfl rfl))
  have f781 := f737.other W770 (Or.inr (slot_ne (Or.inr (own_u hw 196 rfl)) (Or.inr (own_u hw 115 rfl)) (by decide) rfl rfl))
  have f782 := f738.other W770 (Or.inr (slot_ne (Or.inr (own_u hw 198 rfl)) (Or.inr (own_u hw 115 rfl)) (by decide) rfl rfl))
  have f783 := f739.other W770 (Or.inr (slot_ne (Or.inr (own_u hw 200 rfl)) (Or.inr (own_u hw 115 rfl)) (by decide) rfl rfl))
  have f784 := f740.wr W770
  have f785 := f741.other W770 (Or.inl (Ne.symm ne_a1_n1))
  have f786 := f742.other W770 (Or.inl (Ne.symm ne_a1_n1))
  have f787 := f743.other W770 (Or.inl (Ne.symm ne_a1_n1))
  have f788 := f744.other W770 (Or.inl (Ne.symm ne_a1_n1))
  have f789 := f745.other W770 (Ne.symm ne_a1_ra)
  have f790 := f746.other W770 (Ne.symm ne_a1_va)
  have f791 := f747.wr W770
  have f792 := f748.wr W770
  have f793 := f749.other W770 (Or.inl (Ne.symm ne3))
  have f794 := f750.other W770 (Ne.symm ne41)
  have f795 := f751.other W770 (Or.inl (Ne.symm ne3))
  have f796 := f752.other W770 (Or.inr (slot_ne (Or.inr (own_u hw 89 rfl)) (Or.inr (own_u hw 115 rfl)) (by decide) rfl rfl))
  have f797 := f753.wr W770
  have f798 := f754.other W770 (Or.inl (Ne.symm ne112))
  have f799 := f755.other W770 (Ne.symm ne156)
  have f800 := f756.other W770 (Or.inl (Ne.symm ne112))
  have f801 := f757.other W770 (Or.inr (slot_ne (Or.inr (own_u hw 91 rfl)) (Or.inr (own_u hw 115 rfl)) (by decide) rfl rfl))
  have Kp813 := Kp768.wr W770 (Or.inl (List.mem_of_getElem? (i := 0) rfl))
  have Zs814 : n0 ≤ h770.size := by rw [W770.size]; exact Zs769
  show own_H T770 72 #[.val (.ref a1), .val (.ref n1), .val (.ref ra), .unset] []
  clear f726 f727 f728 f729 f730 f731 f732 f733 f734 f735 f736 f737 f738 f739 f740 f741 f742 f743 f744 f745 f746 f747 f748 f749 f750 f751 f752 f753 f754 f755 f756 f757 F725 Kp768 Zs769
  refine own_via (fun t k => XS.aloadN X770.here hx rfl (hb hby own_d8_72) rfl rfl k) ?_
  refine own_via (fun t k => XS.aloadN X770.here hx rfl (hb hby own_d8_73) rfl rfl k) ?_
  show own_H T770 74 #[.val (.ref a1), .val (.ref n1), .val (.ref ra), .unset] [(.ref ra), (.ref a1)]
  obtain ⟨T815, h815, L815, X815, N815, e815, W815, F815, st815⟩ := own_putF X770 N770 hx hZ hown (own_u hw 116 rfl) e770 f772 f771 (Or.inr ⟨(own_u hw 117 rfl), rfl, hnm⟩) (own_u hw 60 rfl) g_a1 (ty := (.array .int)) (v := (.ref ra)) (by decide) rfl rfl (pc := 74) (Ls := #[.val (.ref a1), .val (.ref n1), .val (.ref ra), .unset]) (rest := []) (hb hby own_d8_74)
  refine own_via st815 ?_
  have f816 := f771.wr W815
  have f817 := f773.other W815 (Or.inr (slot_ne (Or.inr (own_u hw 124 rfl)) (Or.inr (own_u hw 117 rfl)) (by decide) rfl rfl))
  have f818 := f774.other W815 (Or.inr (slot_ne (Or.inr (own_u hw 131 rfl)) (Or.inr (own_u hw 117 rfl)) (by decide) rfl rfl))
  have f819 := f775.other W815 (Or.inr (slot_ne (Or.inr (own_u hw 138 rfl)) (Or.inr (own_u hw 117 rfl)) (by decide) rfl rfl))
  have f820 := f776.other W815 (Or.inr (slot_ne (Or.inr (own_u hw 186 rfl)) (Or.inr (own_u hw 117 rfl)) (by decide) rfl rfl))
  have f821 := f777.other W815 (Or.inr (slot_ne (Or.inr (own_u hw 188 rfl)) (Or.inr (own_u hw 117 rfl)) (by decide) rfl rfl))
  have f822 := f778.other W815 (Or.inr (slot_ne (Or.inr (own_u hw 190 rfl)) (Or.inr (own_u hw 117 rfl)) (by decide) rfl rfl))
  have f823 := f779.other W815 (Or.inr (slot_ne (Or.inr (own_u hw 192 rfl)) (Or.inr (own_u hw 117 rfl)) (by decide) rfl rfl))
  have f824 := f780.other W815 (Or.inr (slot_ne (Or.inr (own_u hw 194 rfl)) (Or.inr (own_u hw 117 rfl)) (by decide) rfl rfl))
  have f825 := f781.other W815 (Or.inr (slot_ne (Or.inr (own_u hw 196 rfl)) (Or.inr (own_u hw 117 rfl)) (by decide) rfl rfl))
  have f826 := f782.other W815 (Or.inr (slot_ne (Or.inr (own_u hw 198 rfl)) (Or.inr (own_u hw 117 rfl)) (by decide) rfl rfl))
  have f827 := f783.other W815 (Or.inr (slot_ne (Or.inr (own_u hw 200 rfl)) (Or.inr (own_u hw 117 rfl)) (by decide) rfl rfl))
  have f828 := f784.wr W815
  have f829 := f785.other W815 (Or.inl (Ne.symm ne_a1_n1))
  have f830 := f786.other W815 (Or.inl (Ne.symm ne_a1_n1))
  have f831 := f787.other W815 (Or.inl (Ne.symm ne_a1_n1))
  have f832 := f788.other W815 (Or.inl (Ne.symm ne_a1_n1))
  have f833 := f789.other W815 (Ne.symm ne_a1_ra)
  have f834 := f790.other W815 (Ne.symm ne_a1_va)
  have f835 := f791.wr W815
  have f836 := f792.wr W815
  have f837 := f793.other W815 (Or.inl (Ne.symm ne3))
  have f838 := f794.other W815 (Ne.symm ne41)
  have f839 := f795.other W815 (Or.inl (Ne.symm ne3))
  have f840 := f796.other W815 (Or.inr (slot_ne (Or.inr (own_u hw 89 rfl)) (Or.inr (own_u hw 117 rfl)) (by decide) rfl rfl))
  have f841 := f797.wr W815
  have f842 := f798.other W815 (Or.inl (Ne.symm ne112))
  have f843 := f799.other W815 (Ne.symm ne156)
  have f844 := f800.other W815 (Or.inl (Ne.symm ne112))
  have f845 := f801.other W815 (Or.inr (slot_ne (Or.inr (own_u hw 91 rfl)) (Or.inr (own_u hw 117 rfl)) (by decide) rfl rfl))
  have Kp858 := Kp813.wr W815 (Or.inl (List.mem_of_getElem? (i := 0) rfl))
  have Zs859 : n0 ≤ h815.size := by rw [W815.size]; exact Zs814
  show own_H T815 77 #[.val (.ref a1), .val (.ref n1), .val (.ref ra), .unset] []
  clear f771 f772 f773 f774 f775 f776 f777 f778 f779 f780 f781 f782 f783 f784 f785 f786 f787 f788 f789 f790 f791 f792 f793 f794 f795 f796 f797 f798 f799 f800 f801 F770 Kp813 Zs814
  refine own_via (fun t k => XS.aloadN X815.here hx rfl (hb hby own_d8_77) rfl rfl k) ?_
  refine own_via (fun t k => XS.aloadN X815.here hx rfl (hb hby own_d8_78) rfl rfl k) ?_
  show own_H T815 79 #[.val (.ref a1), .val (.ref n1), .val (.ref ra), .unset] [(.ref n1), (.ref a1)]
  obtain ⟨T860, X860, e860, st860⟩ := own_callVP (y := (⟨"com/example/dissoc/dissoc/mincut/FlowNetwork", "firstArcs", "()[I"⟩ : MethodName)) (z := (⟨"com/example/dissoc/dissoc/mincut/FlowNetwork", "firstArcs", "()[I"⟩ : MethodName)) (W := 1) (a := n1) X815 hx hZ hown (own_u hw 118 rfl) (own_u hw 119 rfl) (notFace_of_selects (args := #[]) (mvT hZ (own_u hw 121 rfl))) (own_u hw 121 rfl) (own_u hw 120 rfl) (own_u hw 3 rfl) (own_u hw 122 rfl) (by decide) (own_g_firstArcs l Z a0 hw [] n1 fa h815 f830) (by decide) (by decide) rfl rfl (by decide) (by decide) e815 f828 (pc := 79) (Ls := #[.val (.ref a1), .val (.ref n1), .val (.ref ra), .unset]) (st := [(.ref n1), (.ref a1)]) (argsL := []) (rest := [(.ref a1)]) (by rw [hml]; rfl) (lenOf own_pd4 rfl) rfl rfl (Nat.le_of_eq rfl) (hb hby own_d8_79)
  refine own_via st860 ?_
  show own_H T860 82 #[.val (.ref a1), .val (.ref n1), .val (.ref ra), .unset] [(.ref fa), (.ref a1)]
  obtain ⟨T861, h861, L861, X861, N861, e861, W861, F861, st861⟩ := own_putF X860 N815 hx hZ hown (own_u hw 123 rfl) e860 f817 f816 (Or.inr ⟨(own_u hw 124 rfl), rfl, hnm⟩) (own_u hw 60 rfl) g_a1 (ty := (.array .int)) (v := (.ref fa)) (by decide) rfl rfl (pc := 82) (Ls := #[.val (.ref a1), .val (.ref n1), .val (.ref ra), .unset]) (rest := []) (hb hby own_d8_82)
  refine own_via st861 ?_
  have f862 := f816.wr W861
  have f863 := f818.other W861 (Or.inr (slot_ne (Or.inr (own_u hw 131 rfl)) (Or.inr (own_u hw 124 rfl)) (by decide) rfl rfl))
  have f864 := f819.other W861 (Or.inr (slot_ne (Or.inr (own_u hw 138 rfl)) (Or.inr (own_u hw 124 rfl)) (by decide) rfl rfl))
  have f865 := f820.other W861 (Or.inr (slot_ne (Or.inr (own_u hw 186 rfl)) (Or.inr (own_u hw 124 rfl)) (by decide) rfl rfl))
  have f866 := f821.other W861 (Or.inr (slot_ne (Or.inr (own_u hw 188 rfl)) (Or.inr (own_u hw 124 rfl)) (by decide) rfl rfl))
  have f867 := f822.other W861 (Or.inr (slot_ne (Or.inr (own_u hw 190 rfl)) (Or.inr (own_u hw 124 rfl)) (by decide) rfl rfl))
  have f868 := f823.other W861 (Or.inr (slot_ne (Or.inr (own_u hw 192 rfl)) (Or.inr (own_u hw 124 rfl)) (by decide) rfl rfl))
  have f869 := f824.other W861 (Or.inr (slot_ne (Or.inr (own_u hw 194 rfl)) (Or.inr (own_u hw 124 rfl)) (by decide) rfl rfl))
  have f870 := f825.other W861 (Or.inr (slot_ne (Or.inr (own_u hw 196 rfl)) (Or.inr (own_u hw 124 rfl)) (by decide) rfl rfl))
  have f871 := f826.other W861 (Or.inr (slot_ne (Or.inr (own_u hw 198 rfl)) (Or.inr (own_u hw 124 rfl)) (by decide) rfl rfl))
  have f872 := f827.other W861 (Or.inr (slot_ne (Or.inr (own_u hw 200 rfl)) (Or.inr (own_u hw 124 rfl)) (by decide) rfl rfl))
  have f873 := f828.wr W861
  have f874 := f829.other W861 (Or.inl (Ne.symm ne_a1_n1))
  have f876 := f831.other W861 (Or.inl (Ne.symm ne_a1_n1))
  have f877 := f832.other W861 (Or.inl (Ne.symm ne_a1_n1))
  have f878 := f833.other W861 (Ne.symm ne_a1_ra)
  have f879 := f834.other W861 (Ne.symm ne_a1_va)
  have f880 := f835.wr W861
  have f881 := f836.wr W861
  have f882 := f837.other W861 (Or.inl (Ne.symm ne3))
  have f883 := f838.other W861 (Ne.symm ne41)
  have f884 := f839.other W861 (Or.inl (Ne.symm ne3))
  have f885 := f840.other W861 (Or.inr (slot_ne (Or.inr (own_u hw 89 rfl)) (Or.inr (own_u hw 124 rfl)) (by decide) rfl rfl))
  have f886 := f841.wr W861
  have f887 := f842.other W861 (Or.inl (Ne.symm ne112))
  have f888 := f843.other W861 (Ne.symm ne156)
  have f889 := f844.other W861 (Or.inl (Ne.symm ne112))
  have f890 := f845.other W861 (Or.inr (slot_ne (Or.inr (own_u hw 91 rfl)) (Or.inr (own_u hw 124 rfl)) (by decide) rfl rfl))
  have f903 := F815.other W861 (Or.inr (slot_ne (Or.inr (own_u hw 117 rfl)) (Or.inr (own_u hw 124 rfl)) (by decide) rfl rfl))
  have Kp904 := Kp858.wr W861 (Or.inl (List.mem_of_getElem? (i := 0) rfl))
  have Zs905 : n0 ≤ h861.size := by rw [W861.size]; exact Zs859
  show own_H T861 85 #[.val (.ref a1), .val (.ref n1), .val (.ref ra), .unset] []
  clear f816 f817 f818 f819 f820 f821 f822 f823 f824 f825 f826 f827 f828 f829 f830 f831 f832 f833 f834 f835 f836 f837 f838 f839 f840 f841 f842 f843 f844 f845 F815 Kp858 Zs859
  refine own_via (fun t k => XS.aloadN X861.here hx rfl (hb hby own_d8_85) rfl rfl k) ?_
  refine own_via (fun t k => XS.aloadN X861.here hx rfl (hb hby own_d8_86) rfl rfl k) ?_
  show own_H T861 87 #[.val (.ref a1), .val (.ref n1), .val (.ref ra), .unset] [(.ref n1), (.ref a1)]
  obtain ⟨T906, X906, e906, st906⟩ := own_callVP (y := (⟨"com/example/dissoc/dissoc/mincut/FlowNetwork", "targets", "()[I"⟩ : MethodName)) (z := (⟨"com/example/dissoc/dissoc/mincut/FlowNetwork", "targets", "()[I"⟩ : MethodName)) (W := 1) (a := n1) X861 hx hZ hown (own_u hw 125 rfl) (own_u hw 126 rfl) (notFace_of_selects (args := #[]) (mvT hZ (own_u hw 128 rfl))) (own_u hw 128 rfl) (own_u hw 127 rfl) (own_u hw 3 rfl) (own_u hw 129 rfl) (by decide) (own_g_targets l Z a0 hw [] n1 ta h861 f876) (by decide) (by decide) rfl rfl (by decide) (by decide) e861 f873 (pc := 87) (Ls := #[.val (.ref a1), .val (.ref n1), .val (.ref ra), .unset]) (st := [(.ref n1), (.ref a1)]) (argsL := []) (rest := [(.ref a1)]) (by rw [hml]; rfl) (lenOf own_pd4 rfl) rfl rfl (Nat.le_of_eq rfl) (hb hby own_d8_87)
  refine own_via st906 ?_
  show own_H T906 90 #[.val (.ref a1), .val (.ref n1), .val (.ref ra), .unset] [(.ref ta), (.ref a1)]
  obtain ⟨T907, h907, L907, X907, N907, e907, W907, F907, st907⟩ := own_putF X906 N861 hx hZ hown (own_u hw 130 rfl) e906 f863 f862 (Or.inr ⟨(own_u hw 131 rfl), rfl, hnm⟩) (own_u hw 60 rfl) g_a1 (ty := (.array .int)) (v := (.ref ta)) (by decide) rfl rfl (pc := 90) (Ls := #[.val (.ref a1), .val (.ref n1), .val (.ref ra), .unset]) (rest := []) (hb hby own_d8_90)
  refine own_via st907 ?_
  have f908 := f862.wr W907
  have f909 := f864.other W907 (Or.inr (slot_ne (Or.inr (own_u hw 138 rfl)) (Or.inr (own_u hw 131 rfl)) (by decide) rfl rfl))
  have f910 := f865.other W907 (Or.inr (slot_ne (Or.inr (own_u hw 186 rfl)) (Or.inr (own_u hw 131 rfl)) (by decide) rfl rfl))
  have f911 := f866.other W907 (Or.inr (slot_ne (Or.inr (own_u hw 188 rfl)) (Or.inr (own_u hw 131 rfl)) (by decide) rfl rfl))
  have f912 := f867.other W907 (Or.inr (slot_ne (Or.inr (own_u hw 190 rfl)) (Or.inr (own_u hw 131 rfl)) (by decide) rfl rfl))
  have f913 := f868.other W907 (Or.inr (slot_ne (Or.inr (own_u hw 192 rfl)) (Or.inr (own_u hw 131 rfl)) (by decide) rfl rfl))
  have f914 := f869.other W907 (Or.inr (slot_ne (Or.inr (own_u hw 194 rfl)) (Or.inr (own_u hw 131 rfl)) (by decide) rfl rfl))
  have f915 := f870.other W907 (Or.inr (slot_ne (Or.inr (own_u hw 196 rfl)) (Or.inr (own_u hw 131 rfl)) (by decide) rfl rfl))
  have f916 := f871.other W907 (Or.inr (slot_ne (Or.inr (own_u hw 198 rfl)) (Or.inr (own_u hw 131 rfl)) (by decide) rfl rfl))
  have f917 := f872.other W907 (Or.inr (slot_ne (Or.inr (own_u hw 200 rfl)) (Or.inr (own_u hw 131 rfl)) (by decide) rfl rfl))
  have f918 := f873.wr W907
  have f919 := f874.other W907 (Or.inl (Ne.symm ne_a1_n1))
  have f922 := f877.other W907 (Or.inl (Ne.symm ne_a1_n1))
  have f923 := f878.other W907 (Ne.symm ne_a1_ra)
  have f924 := f879.other W907 (Ne.symm ne_a1_va)
  have f925 := f880.wr W907
  have f926 := f881.wr W907
  have f927 := f882.other W907 (Or.inl (Ne.symm ne3))
  have f928 := f883.other W907 (Ne.symm ne41)
  have f929 := f884.other W907 (Or.inl (Ne.symm ne3))
  have f930 := f885.other W907 (Or.inr (slot_ne (Or.inr (own_u hw 89 rfl)) (Or.inr (own_u hw 131 rfl)) (by decide) rfl rfl))
  have f931 := f886.wr W907
  have f932 := f887.other W907 (Or.inl (Ne.symm ne112))
  have f933 := f888.other W907 (Ne.symm ne156)
  have f934 := f889.other W907 (Or.inl (Ne.symm ne112))
  have f935 := f890.other W907 (Or.inr (slot_ne (Or.inr (own_u hw 91 rfl)) (Or.inr (own_u hw 131 rfl)) (by decide) rfl rfl))
  have f948 := f903.other W907 (Or.inr (slot_ne (Or.inr (own_u hw 117 rfl)) (Or.inr (own_u hw 131 rfl)) (by decide) rfl rfl))
  have Kp950 := Kp904.wr W907 (Or.inl (List.mem_of_getElem? (i := 0) rfl))
  have Zs951 : n0 ≤ h907.size := by rw [W907.size]; exact Zs905
  show own_H T907 93 #[.val (.ref a1), .val (.ref n1), .val (.ref ra), .unset] []
  clear f862 f863 f864 f865 f866 f867 f868 f869 f870 f871 f872 f873 f874 f876 f877 f878 f879 f880 f881 f882 f883 f884 f885 f886 f887 f888 f889 f890 f903 F861 Kp904 Zs905
  refine own_via (fun t k => XS.aloadN X907.here hx rfl (hb hby own_d8_93) rfl rfl k) ?_
  refine own_via (fun t k => XS.aloadN X907.here hx rfl (hb hby own_d8_94) rfl rfl k) ?_
  show own_H T907 95 #[.val (.ref a1), .val (.ref n1), .val (.ref ra), .unset] [(.ref n1), (.ref a1)]
  obtain ⟨T952, X952, e952, st952⟩ := own_callVP (y := (⟨"com/example/dissoc/dissoc/mincut/FlowNetwork", "reverses", "()[I"⟩ : MethodName)) (z := (⟨"com/example/dissoc/dissoc/mincut/FlowNetwork", "reverses", "()[I"⟩ : MethodName)) (W := 1) (a := n1) X907 hx hZ hown (own_u hw 132 rfl) (own_u hw 133 rfl) (notFace_of_selects (args := #[]) (mvT hZ (own_u hw 135 rfl))) (own_u hw 135 rfl) (own_u hw 134 rfl) (own_u hw 3 rfl) (own_u hw 136 rfl) (by decide) (own_g_reverses l Z a0 hw [] n1 va h907 f922) (by decide) (by decide) rfl rfl (by decide) (by decide) e907 f918 (pc := 95) (Ls := #[.val (.ref a1), .val (.ref n1), .val (.ref ra), .unset]) (st := [(.ref n1), (.ref a1)]) (argsL := []) (rest := [(.ref a1)]) (by rw [hml]; rfl) (lenOf own_pd4 rfl) rfl rfl (Nat.le_of_eq rfl) (hb hby own_d8_95)
  refine own_via st952 ?_
  show own_H T952 98 #[.val (.ref a1), .val (.ref n1), .val (.ref ra), .unset] [(.ref va), (.ref a1)]
  obtain ⟨T953, h953, L953, X953, N953, e953, W953, F953, st953⟩ := own_putF X952 N907 hx hZ hown (own_u hw 137 rfl) e952 f909 f908 (Or.inr ⟨(own_u hw 138 rfl), rfl, hnm⟩) (own_u hw 60 rfl) g_a1 (ty := (.array .int)) (v := (.ref va)) (by decide) rfl rfl (pc := 98) (Ls := #[.val (.ref a1), .val (.ref n1), .val (.ref ra), .unset]) (rest := []) (hb hby own_d8_98)
  refine own_via st953 ?_
  have f954 := f908.wr W953
  have f955 := f910.other W953 (Or.inr (slot_ne (Or.inr (own_u hw 186 rfl)) (Or.inr (own_u hw 138 rfl)) (by decide) rfl rfl))
  have f956 := f911.other W953 (Or.inr (slot_ne (Or.inr (own_u hw 188 rfl)) (Or.inr (own_u hw 138 rfl)) (by decide) rfl rfl))
  have f957 := f912.other W953 (Or.inr (slot_ne (Or.inr (own_u hw 190 rfl)) (Or.inr (own_u hw 138 rfl)) (by decide) rfl rfl))
  have f958 := f913.other W953 (Or.inr (slot_ne (Or.inr (own_u hw 192 rfl)) (Or.inr (own_u hw 138 rfl)) (by decide) rfl rfl))
  have f959 := f914.other W953 (Or.inr (slot_ne (Or.inr (own_u hw 194 rfl)) (Or.inr (own_u hw 138 rfl)) (by decide) rfl rfl))
  have f960 := f915.other W953 (Or.inr (slot_ne (Or.inr (own_u hw 196 rfl)) (Or.inr (own_u hw 138 rfl)) (by decide) rfl rfl))
  have f961 := f916.other W953 (Or.inr (slot_ne (Or.inr (own_u hw 198 rfl)) (Or.inr (own_u hw 138 rfl)) (by decide) rfl rfl))
  have f962 := f917.other W953 (Or.inr (slot_ne (Or.inr (own_u hw 200 rfl)) (Or.inr (own_u hw 138 rfl)) (by decide) rfl rfl))
  have f963 := f918.wr W953
  have f964 := f919.other W953 (Or.inl (Ne.symm ne_a1_n1))
  have f968 := f923.other W953 (Ne.symm ne_a1_ra)
  have f969 := f924.other W953 (Ne.symm ne_a1_va)
  have f970 := f925.wr W953
  have f971 := f926.wr W953
  have f972 := f927.other W953 (Or.inl (Ne.symm ne3))
  have f973 := f928.other W953 (Ne.symm ne41)
  have f974 := f929.other W953 (Or.inl (Ne.symm ne3))
  have f975 := f930.other W953 (Or.inr (slot_ne (Or.inr (own_u hw 89 rfl)) (Or.inr (own_u hw 138 rfl)) (by decide) rfl rfl))
  have f976 := f931.wr W953
  have f977 := f932.other W953 (Or.inl (Ne.symm ne112))
  have f978 := f933.other W953 (Ne.symm ne156)
  have f979 := f934.other W953 (Or.inl (Ne.symm ne112))
  have f980 := f935.other W953 (Or.inr (slot_ne (Or.inr (own_u hw 91 rfl)) (Or.inr (own_u hw 138 rfl)) (by decide) rfl rfl))
  have f993 := f948.other W953 (Or.inr (slot_ne (Or.inr (own_u hw 117 rfl)) (Or.inr (own_u hw 138 rfl)) (by decide) rfl rfl))
  have Kp996 := Kp950.wr W953 (Or.inl (List.mem_of_getElem? (i := 0) rfl))
  have Zs997 : n0 ≤ h953.size := by rw [W953.size]; exact Zs951
  show own_H T953 101 #[.val (.ref a1), .val (.ref n1), .val (.ref ra), .unset] []
  clear f908 f909 f910 f911 f912 f913 f914 f915 f916 f917 f918 f919 f922 f923 f924 f925 f926 f927 f928 f929 f930 f931 f932 f933 f934 f935 f948 F907 Kp950 Zs951
  refine own_via (fun t k => XS.iconst X953.here hx rfl (hb hby own_d8_101) k) ?_
  show own_H T953 102 #[.val (.ref a1), .val (.ref n1), .val (.ref ra), .unset] [(.int (0 : Int32))]
  refine own_via (fun t k => XS.istoreN X953.here hx rfl (hb hby own_d8_102) rfl (l' := #[.val (.ref a1), .val (.ref n1), .val (.ref ra), .val (.int (0 : Int32))]) rfl k) ?_
  refine own_via (fun t k => XS.iloadN X953.here hx rfl (hb hby own_d8_103) rfl k) ?_
  refine own_via (fun t k => XS.aloadN X953.here hx rfl (hb hby own_d8_104) rfl rfl k) ?_
  show own_H T953 105 #[.val (.ref a1), .val (.ref n1), .val (.ref ra), .val (.int (0 : Int32))] [(.ref ra), (.int (0 : Int32))]
  refine own_via (own_len X953 hx hZ e953 f968 (pc := 105) (Ls := #[.val (.ref a1), .val (.ref n1), .val (.ref ra), .val (.int (0 : Int32))]) (rest := [(.int (0 : Int32))]) (hb hby own_d8_105)) ?_
  show own_H T953 106 #[.val (.ref a1), .val (.ref n1), .val (.ref ra), .val (.int (0 : Int32))] [(.int (4 : Int32)), (.int (0 : Int32))]
  refine own_via (fun t k => XS.icmpNo X953.here hx rfl (hb hby own_d8_106) rfl (tlt (by decide : (0 : Int32) < (4 : Int32))).2.1 k) ?_
  show own_H T953 109 #[.val (.ref a1), .val (.ref n1), .val (.ref ra), .val (.int (0 : Int32))] []
  refine own_via (fun t k => XS.aloadN X953.here hx rfl (hb hby own_d8_109) rfl rfl k) ?_
  refine own_via (fun t k => XS.iloadN X953.here hx rfl (hb hby own_d8_110) rfl k) ?_
  refine own_via (fun t k => XS.aloadN X953.here hx rfl (hb hby own_d8_111) rfl rfl k) ?_
  refine own_via (fun t k => XS.iloadN X953.here hx rfl (hb hby own_d8_112) rfl k) ?_
  show own_H T953 113 #[.val (.ref a1), .val (.ref n1), .val (.ref ra), .val (.int (0 : Int32))] [(.int (0 : Int32)), (.ref ra), (.int (0 : Int32)), (.ref a1)]
  refine own_via (own_ldI X953 hx hZ e953 f968 (j := (0 : Int32)) ⟨by decide, by decide⟩ (v := (.int r0)) rfl (pc := 113) (Ls := #[.val (.ref a1), .val (.ref n1), .val (.ref ra), .val (.int (0 : Int32))]) (rest := [(.int (0 : Int32)), (.ref a1)]) (hb hby own_d8_113)) ?_
  show own_H T953 114 #[.val (.ref a1), .val (.ref n1), .val (.ref ra), .val (.int (0 : Int32))] [(.int r0), (.int (0 : Int32)), (.ref a1)]
  obtain ⟨v998, T998, h998, L998, X998, N998, e998, hq998, st998⟩ := own_callR (y := (⟨"com/example/dissoc/dissoc/mincut/Flow", "setResidual", "(II)V"⟩ : MethodName)) (W := 0) (a := a1) X953 N953 hx hZ hown (own_u hw 139 rfl) (own_u hw 140 rfl) (own_selP (y := (⟨"com/example/dissoc/dissoc/mincut/Flow", "setResidual", "(II)V"⟩ : MethodName)) (own_u hw 60 rfl) (own_u hw 141 rfl) (own_u hw 140 rfl) (by decide)) (own_u hw 141 rfl) (own_u hw 61 rfl) (own_u hw 142 rfl) (by decide) (own_sr0 l Z a0 hw [] a1 r0 ra va b2 x40 b111 x155 kr kv kx40 kx155 (0 : Int64) (0 : Int64) false false r1 r2 r3 v_0 v_1 v_2 v_3 h953 n0 Zs997 f954 f993 F953 f975 f980 f968 f969 f971 f972 f973 f974 f976 f977 f978 f979 f970 g_ra g_b2 g_x40 g_b111 g_x155 ne_a1_ra ne_a1_va ne3 ne41 ne112 ne156 ne_ra_va ne5 ne43 ne114 ne158 ne6 ne44 ne115 ne159 ne45 ne116 ne160 ne117 ne161 ne162 hp_a0 hp_b0) (by decide) (by decide) (by decide) (by decide) e953 f954 (pc := 114) (Ls := #[.val (.ref a1), .val (.ref n1), .val (.ref ra), .val (.int (0 : Int32))]) (st := [(.int r0), (.int (0 : Int32)), (.ref a1)]) (argsL := [(.int (0 : Int32)), (.int r0)]) (rest := []) (by rw [hml]; rfl) (lenOf own_pd5 rfl) rfl rfl (Nat.le_of_eq rfl) (hb hby own_d8_114)
  obtain ⟨W_3998, u3998, W_4998, u4998, rfl, K998, o998_0, o998_1, o998_2, o998_3, o998_4, o998_5, o998_6, o998_7, o998_8⟩ := hq998
  refine own_via st998 ?_
  have f999 := f954.keep K998
  have f1000 := f955.keep K998 (by simp only [List.mem_cons, List.not_mem_nil, or_false, not_or]; exact ⟨ne_a1_ra, ne3, ne41, ne112, ne156⟩)
  have f1001 := f956.keep K998 (by simp only [List.mem_cons, List.not_mem_nil, or_false, not_or]; exact ⟨ne_a1_ra, ne3, ne41, ne112, ne156⟩)
  have f1002 := f957.keep K998 (by simp only [List.mem_cons, List.not_mem_nil, or_false, not_or]; exact ⟨ne_a1_ra, ne3, ne41, ne112, ne156⟩)
  have f1003 := f958.keep K998 (by simp only [List.mem_cons, List.not_mem_nil, or_false, not_or]; exact ⟨ne_a1_ra, ne3, ne41, ne112, ne156⟩)
  have f1004 := f959.keep K998 (by simp only [List.mem_cons, List.not_mem_nil, or_false, not_or]; exact ⟨ne_a1_ra, ne3, ne41, ne112, ne156⟩)
  have f1005 := f960.keep K998 (by simp only [List.mem_cons, List.not_mem_nil, or_false, not_or]; exact ⟨ne_a1_ra, ne3, ne41, ne112, ne156⟩)
  have f1006 := f961.keep K998 (by simp only [List.mem_cons, List.not_mem_nil, or_false, not_or]; exact ⟨ne_a1_ra, ne3, ne41, ne112, ne156⟩)
  have f1007 := f962.keep K998 (by simp only [List.mem_cons, List.not_mem_nil, or_false, not_or]; exact ⟨ne_a1_ra, ne3, ne41, ne112, ne156⟩)
  have f1008 := f963.keep K998
  have f1009 := f964.keep K998 (by simp only [List.mem_cons, List.not_mem_nil, or_false, not_or]; exact ⟨ne_n1_ra, ne4, ne42, ne113, ne157⟩)
  have f1013 := f969.keep K998 (by simp only [List.mem_cons, List.not_mem_nil, or_false, not_or]; exact ⟨(Ne.symm ne_ra_va), ne6, ne44, ne115, ne159⟩)
  have f1014 := own_staK f970 K998 (fun x hx => by simp only [List.mem_cons, List.not_mem_nil, or_false] at hx; rcases hx with rfl | rfl | rfl | rfl | rfl <;> first | exact f968.nostat | exact f971.nostat | exact f973.nostat | exact f976.nostat | exact f978.nostat)
  have f1016 := f975.keep K998 (by simp only [List.mem_cons, List.not_mem_nil, or_false, not_or]; exact ⟨ne_a1_ra, ne3, ne41, ne112, ne156⟩)
  have f1018 := f980.keep K998 (by simp only [List.mem_cons, List.not_mem_nil, or_false, not_or]; exact ⟨ne_a1_ra, ne3, ne41, ne112, ne156⟩)
  have f1031 := f993.keep K998 (by simp only [List.mem_cons, List.not_mem_nil, or_false, not_or]; exact ⟨ne_a1_ra, ne3, ne41, ne112, ne156⟩)
  have f1034 := F953.keep K998 (by simp only [List.mem_cons, List.not_mem_nil, or_false, not_or]; exact ⟨ne_a1_ra, ne3, ne41, ne112, ne156⟩)
  have Kp1035 := Kp996.trans K998 (fun x hx => by simp only [List.mem_cons, List.not_mem_nil, or_false] at hx; rcases hx with rfl | rfl | rfl | rfl | rfl <;> first | exact (Or.inl (List.mem_of_getElem? (i := 1) rfl)) | exact (Or.inr sz_b2) | exact (Or.inr sz_x40) | exact (Or.inr sz_b111) | exact (Or.inr sz_x155))
  have Zs1036 : n0 ≤ h998.size := Nat.le_trans Zs997 K998.1
  show own_H T998 117 #[.val (.ref a1), .val (.ref n1), .val (.ref ra), .val (.int (0 : Int32))] []
  clear f954 f955 f956 f957 f958 f959 f960 f961 f962 f963 f964 f968 f969 f970 f971 f972 f973 f974 f975 f976 f977 f978 f979 f980 f993 F953 Kp996 Zs997
  refine own_via (fun t k => XS.iinc X998.here hx rfl (hb hby own_d8_117) rfl (l' := #[.val (.ref a1), .val (.ref n1), .val (.ref ra), .val (.int (1 : Int32))]) rfl k) ?_
  show own_H T998 120 #[.val (.ref a1), .val (.ref n1), .val (.ref ra), .val (.int (1 : Int32))] []
  refine own_via (fun t k => XS.goto X998.here hx rfl (pc0 := 120) (pc' := 103) rfl (hb hby own_d8_120) (by decide) (by decide) k) ?_
  refine own_via (fun t k => XS.iloadN X998.here hx rfl (hb hby own_d8_103) rfl k) ?_
  refine own_via (fun t k => XS.aloadN X998.here hx rfl (hb hby own_d8_104) rfl rfl k) ?_
  show own_H T998 105 #[.val (.ref a1), .val (.ref n1), .val (.ref ra), .val (.int (1 : Int32))] [(.ref ra), (.int (1 : Int32))]
  refine own_via (own_len X998 hx hZ e998 o998_0 (pc := 105) (Ls := #[.val (.ref a1), .val (.ref n1), .val (.ref ra), .val (.int (1 : Int32))]) (rest := [(.int (1 : Int32))]) (hb hby own_d8_105)) ?_
  show own_H T998 106 #[.val (.ref a1), .val (.ref n1), .val (.ref ra), .val (.int (1 : Int32))] [(.int (4 : Int32)), (.int (1 : Int32))]
  refine own_via (fun t k => XS.icmpNo X998.here hx rfl (hb hby own_d8_106) rfl (tlt (by decide : (1 : Int32) < (4 : Int32))).2.1 k) ?_
  show own_H T998 109 #[.val (.ref a1), .val (.ref n1), .val (.ref ra), .val (.int (1 : Int32))] []
  refine own_via (fun t k => XS.aloadN X998.here hx rfl (hb hby own_d8_109) rfl rfl k) ?_
  refine own_via (fun t k => XS.iloadN X998.here hx rfl (hb hby own_d8_110) rfl k) ?_
  refine own_via (fun t k => XS.aloadN X998.here hx rfl (hb hby own_d8_111) rfl rfl k) ?_
  refine own_via (fun t k => XS.iloadN X998.here hx rfl (hb hby own_d8_112) rfl k) ?_
  show own_H T998 113 #[.val (.ref a1), .val (.ref n1), .val (.ref ra), .val (.int (1 : Int32))] [(.int (1 : Int32)), (.ref ra), (.int (1 : Int32)), (.ref a1)]
  refine own_via (own_ldI X998 hx hZ e998 o998_0 (j := (1 : Int32)) ⟨by decide, by decide⟩ (v := (.int r1)) rfl (pc := 113) (Ls := #[.val (.ref a1), .val (.ref n1), .val (.ref ra), .val (.int (1 : Int32))]) (rest := [(.int (1 : Int32)), (.ref a1)]) (hb hby own_d8_113)) ?_
  show own_H T998 114 #[.val (.ref a1), .val (.ref n1), .val (.ref ra), .val (.int (1 : Int32))] [(.int r1), (.int (1 : Int32)), (.ref a1)]
  obtain ⟨v1037, T1037, h1037, L1037, X1037, N1037, e1037, hq1037, st1037⟩ := own_callR (y := (⟨"com/example/dissoc/dissoc/mincut/Flow", "setResidual", "(II)V"⟩ : MethodName)) (W := 0) (a := a1) X998 N998 hx hZ hown (own_u hw 139 rfl) (own_u hw 140 rfl) (own_selP (y := (⟨"com/example/dissoc/dissoc/mincut/Flow", "setResidual", "(II)V"⟩ : MethodName)) (own_u hw 60 rfl) (own_u hw 141 rfl) (own_u hw 140 rfl) (by decide)) (own_u hw 141 rfl) (own_u hw 61 rfl) (own_u hw 142 rfl) (by decide) (own_sr1 l Z a0 hw [] a1 r1 ra va b2 x40 b111 x155 kr kv kx40 kx155 W_3998 W_4998 u3998 u4998 r0 r2 r3 v_0 v_1 v_2 v_3 h998 n0 Zs1036 f999 f1031 f1034 f1016 f1018 o998_0 f1013 o998_1 o998_2 o998_3 o998_4 o998_5 o998_6 o998_7 o998_8 f1014 g_ra g_b2 g_x40 g_b111 g_x155 ne_a1_ra ne_a1_va ne3 ne41 ne112 ne156 ne_ra_va ne5 ne43 ne114 ne158 ne6 ne44 ne115 ne159 ne45 ne116 ne160 ne117 ne161 ne162 hp_a1 hp_b1) (by decide) (by decide) (by decide) (by decide) e998 f999 (pc := 114) (Ls := #[.val (.ref a1), .val (.ref n1), .val (.ref ra), .val (.int (1 : Int32))]) (st := [(.int r1), (.int (1 : Int32)), (.ref a1)]) (argsL := [(.int (1 : Int32)), (.int r1)]) (rest := []) (by rw [hml]; rfl) (lenOf own_pd5 rfl) rfl rfl (Nat.le_of_eq rfl) (hb hby own_d8_114)
  obtain ⟨W_31037, u31037, W_41037, u41037, rfl, K1037, o1037_0, o1037_1, o1037_2, o1037_3, o1037_4, o1037_5, o1037_6, o1037_7, o1037_8⟩ := hq1037
  refine own_via st1037 ?_
  have f1038 := f999.keep K1037
  have f1039 := f1000.keep K1037 (by simp only [List.mem_cons, List.not_mem_nil, or_false, not_or]; exact ⟨ne_a1_ra, ne3, ne41, ne112, ne156⟩)
  have f1040 := f1001.keep K1037 (by simp only [List.mem_cons, List.not_mem_nil, or_false, not_or]; exact ⟨ne_a1_ra, ne3, ne41, ne112, ne156⟩)
  have f1041 := f1002.keep K1037 (by simp only [List.mem_cons, List.not_mem_nil, or_false, not_or]; exact ⟨ne_a1_ra, ne3, ne41, ne112, ne156⟩)
  have f1042 := f1003.keep K1037 (by simp only [List.mem_cons, List.not_mem_nil, or_false, not_or]; exact ⟨ne_a1_ra, ne3, ne41, ne112, ne156⟩)
  have f1043 := f1004.keep K1037 (by simp only [List.mem_cons, List.not_mem_nil, or_false, not_or]; exact ⟨ne_a1_ra, ne3, ne41, ne112, ne156⟩)
  have f1044 := f1005.keep K1037 (by simp only [List.mem_cons, List.not_mem_nil, or_false, not_or]; exact ⟨ne_a1_ra, ne3, ne41, ne112, ne156⟩)
  have f1045 := f1006.keep K1037 (by simp only [List.mem_cons, List.not_mem_nil, or_false, not_or]; exact ⟨ne_a1_ra, ne3, ne41, ne112, ne156⟩)
  have f1046 := f1007.keep K1037 (by simp only [List.mem_cons, List.not_mem_nil, or_false, not_or]; exact ⟨ne_a1_ra, ne3, ne41, ne112, ne156⟩)
  have f1047 := f1008.keep K1037
  have f1048 := f1009.keep K1037 (by simp only [List.mem_cons, List.not_mem_nil, or_false, not_or]; exact ⟨ne_n1_ra, ne4, ne42, ne113, ne157⟩)
  have f1052 := f1013.keep K1037 (by simp only [List.mem_cons, List.not_mem_nil, or_false, not_or]; exact ⟨(Ne.symm ne_ra_va), ne6, ne44, ne115, ne159⟩)
  have f1053 := own_staK f1014 K1037 (fun x hx => by simp only [List.mem_cons, List.not_mem_nil, or_false] at hx; rcases hx with rfl | rfl | rfl | rfl | rfl <;> first | exact o998_0.nostat | exact o998_1.nostat | exact o998_3.nostat | exact o998_5.nostat | exact o998_7.nostat)
  have f1055 := f1016.keep K1037 (by simp only [List.mem_cons, List.not_mem_nil, or_false, not_or]; exact ⟨ne_a1_ra, ne3, ne41, ne112, ne156⟩)
  have f1057 := f1018.keep K1037 (by simp only [List.mem_cons, List.not_mem_nil, or_false, not_or]; exact ⟨ne_a1_ra, ne3, ne41, ne112, ne156⟩)
  have f1070 := f1031.keep K1037 (by simp only [List.mem_cons, List.not_mem_nil, or_false, not_or]; exact ⟨ne_a1_ra, ne3, ne41, ne112, ne156⟩)
  have f1073 := f1034.keep K1037 (by simp only [List.mem_cons, List.not_mem_nil, or_false, not_or]; exact ⟨ne_a1_ra, ne3, ne41, ne112, ne156⟩)
  have Kp1074 := Kp1035.trans K1037 (fun x hx => by simp only [List.mem_cons, List.not_mem_nil, or_false] at hx; rcases hx with rfl | rfl | rfl | rfl | rfl <;> first | exact (Or.inl (List.mem_of_getElem? (i := 1) rfl)) | exact (Or.inr sz_b2) | exact (Or.inr sz_x40) | exact (Or.inr sz_b111) | exact (Or.inr sz_x155))
  have Zs1075 : n0 ≤ h1037.size := Nat.le_trans Zs1036 K1037.1
  show own_H T1037 117 #[.val (.ref a1), .val (.ref n1), .val (.ref ra), .val (.int (1 : Int32))] []
  clear f999 f1000 f1001 f1002 f1003 f1004 f1005 f1006 f1007 f1008 f1009 f1013 f1014 o998_1 f1016 o998_5 f1018 f1031 f1034 o998_0 o998_2 o998_3 o998_4 o998_6 o998_7 o998_8 Kp1035 Zs1036
  refine own_via (fun t k => XS.iinc X1037.here hx rfl (hb hby own_d8_117) rfl (l' := #[.val (.ref a1), .val (.ref n1), .val (.ref ra), .val (.int (2 : Int32))]) rfl k) ?_
  show own_H T1037 120 #[.val (.ref a1), .val (.ref n1), .val (.ref ra), .val (.int (2 : Int32))] []
  refine own_via (fun t k => XS.goto X1037.here hx rfl (pc0 := 120) (pc' := 103) rfl (hb hby own_d8_120) (by decide) (by decide) k) ?_
  refine own_via (fun t k => XS.iloadN X1037.here hx rfl (hb hby own_d8_103) rfl k) ?_
  refine own_via (fun t k => XS.aloadN X1037.here hx rfl (hb hby own_d8_104) rfl rfl k) ?_
  show own_H T1037 105 #[.val (.ref a1), .val (.ref n1), .val (.ref ra), .val (.int (2 : Int32))] [(.ref ra), (.int (2 : Int32))]
  refine own_via (own_len X1037 hx hZ e1037 o1037_0 (pc := 105) (Ls := #[.val (.ref a1), .val (.ref n1), .val (.ref ra), .val (.int (2 : Int32))]) (rest := [(.int (2 : Int32))]) (hb hby own_d8_105)) ?_
  show own_H T1037 106 #[.val (.ref a1), .val (.ref n1), .val (.ref ra), .val (.int (2 : Int32))] [(.int (4 : Int32)), (.int (2 : Int32))]
  refine own_via (fun t k => XS.icmpNo X1037.here hx rfl (hb hby own_d8_106) rfl (tlt (by decide : (2 : Int32) < (4 : Int32))).2.1 k) ?_
  show own_H T1037 109 #[.val (.ref a1), .val (.ref n1), .val (.ref ra), .val (.int (2 : Int32))] []
  refine own_via (fun t k => XS.aloadN X1037.here hx rfl (hb hby own_d8_109) rfl rfl k) ?_
  refine own_via (fun t k => XS.iloadN X1037.here hx rfl (hb hby own_d8_110) rfl k) ?_
  refine own_via (fun t k => XS.aloadN X1037.here hx rfl (hb hby own_d8_111) rfl rfl k) ?_
  refine own_via (fun t k => XS.iloadN X1037.here hx rfl (hb hby own_d8_112) rfl k) ?_
  show own_H T1037 113 #[.val (.ref a1), .val (.ref n1), .val (.ref ra), .val (.int (2 : Int32))] [(.int (2 : Int32)), (.ref ra), (.int (2 : Int32)), (.ref a1)]
  refine own_via (own_ldI X1037 hx hZ e1037 o1037_0 (j := (2 : Int32)) ⟨by decide, by decide⟩ (v := (.int r2)) rfl (pc := 113) (Ls := #[.val (.ref a1), .val (.ref n1), .val (.ref ra), .val (.int (2 : Int32))]) (rest := [(.int (2 : Int32)), (.ref a1)]) (hb hby own_d8_113)) ?_
  show own_H T1037 114 #[.val (.ref a1), .val (.ref n1), .val (.ref ra), .val (.int (2 : Int32))] [(.int r2), (.int (2 : Int32)), (.ref a1)]
  obtain ⟨v1076, T1076, h1076, L1076, X1076, N1076, e1076, hq1076, st1076⟩ := own_callR (y := (⟨"com/example/dissoc/dissoc/mincut/Flow", "setResidual", "(II)V"⟩ : MethodName)) (W := 0) (a := a1) X1037 N1037 hx hZ hown (own_u hw 139 rfl) (own_u hw 140 rfl) (own_selP (y := (⟨"com/example/dissoc/dissoc/mincut/Flow", "setResidual", "(II)V"⟩ : MethodName)) (own_u hw 60 rfl) (own_u hw 141 rfl) (own_u hw 140 rfl) (by decide)) (own_u hw 141 rfl) (own_u hw 61 rfl) (own_u hw 142 rfl) (by decide) (own_sr2 l Z a0 hw [] a1 r2 ra va b2 x40 b111 x155 kr kv kx40 kx155 W_31037 W_41037 u31037 u41037 r0 r1 r3 v_0 v_1 v_2 v_3 h1037 n0 Zs1075 f1038 f1070 f1073 f1055 f1057 o1037_0 f1052 o1037_1 o1037_2 o1037_3 o1037_4 o1037_5 o1037_6 o1037_7 o1037_8 f1053 g_ra g_b2 g_x40 g_b111 g_x155 ne_a1_ra ne_a1_va ne3 ne41 ne112 ne156 ne_ra_va ne5 ne43 ne114 ne158 ne6 ne44 ne115 ne159 ne45 ne116 ne160 ne117 ne161 ne162 hp_a2 hp_b2) (by decide) (by decide) (by decide) (by decide) e1037 f1038 (pc := 114) (Ls := #[.val (.ref a1), .val (.ref n1), .val (.ref ra), .val (.int (2 : Int32))]) (st := [(.int r2), (.int (2 : Int32)), (.ref a1)]) (argsL := [(.int (2 : Int32)), (.int r2)]) (rest := []) (by rw [hml]; rfl) (lenOf own_pd5 rfl) rfl rfl (Nat.le_of_eq rfl) (hb hby own_d8_114)
  obtain ⟨W_31076, u31076, W_41076, u41076, rfl, K1076, o1076_0, o1076_1, o1076_2, o1076_3, o1076_4, o1076_5, o1076_6, o1076_7, o1076_8⟩ := hq1076
  refine own_via st1076 ?_
  have f1077 := f1038.keep K1076
  have f1078 := f1039.keep K1076 (by simp only [List.mem_cons, List.not_mem_nil, or_false, not_or]; exact ⟨ne_a1_ra, ne3, ne41, ne112, ne156⟩)
  have f1079 := f1040.keep K1076 (by simp only [List.mem_cons, List.not_mem_nil, or_false, not_or]; exact ⟨ne_a1_ra, ne3, ne41, ne112, ne156⟩)
  have f1080 := f1041.keep K1076 (by simp only [List.mem_cons, List.not_mem_nil, or_false, not_or]; exact ⟨ne_a1_ra, ne3, ne41, ne112, ne156⟩)
  have f1081 := f1042.keep K1076 (by simp only [List.mem_cons, List.not_mem_nil, or_false, not_or]; exact ⟨ne_a1_ra, ne3, ne41, ne112, ne156⟩)
  have f1082 := f1043.keep K1076 (by simp only [List.mem_cons, List.not_mem_nil, or_false, not_or]; exact ⟨ne_a1_ra, ne3, ne41, ne112, ne156⟩)
  have f1083 := f1044.keep K1076 (by simp only [List.mem_cons, List.not_mem_nil, or_false, not_or]; exact ⟨ne_a1_ra, ne3, ne41, ne112, ne156⟩)
  have f1084 := f1045.keep K1076 (by simp only [List.mem_cons, List.not_mem_nil, or_false, not_or]; exact ⟨ne_a1_ra, ne3, ne41, ne112, ne156⟩)
  have f1085 := f1046.keep K1076 (by simp only [List.mem_cons, List.not_mem_nil, or_false, not_or]; exact ⟨ne_a1_ra, ne3, ne41, ne112, ne156⟩)
  have f1086 := f1047.keep K1076
  have f1087 := f1048.keep K1076 (by simp only [List.mem_cons, List.not_mem_nil, or_false, not_or]; exact ⟨ne_n1_ra, ne4, ne42, ne113, ne157⟩)
  have f1091 := f1052.keep K1076 (by simp only [List.mem_cons, List.not_mem_nil, or_false, not_or]; exact ⟨(Ne.symm ne_ra_va), ne6, ne44, ne115, ne159⟩)
  have f1092 := own_staK f1053 K1076 (fun x hx => by simp only [List.mem_cons, List.not_mem_nil, or_false] at hx; rcases hx with rfl | rfl | rfl | rfl | rfl <;> first | exact o1037_0.nostat | exact o1037_1.nostat | exact o1037_3.nostat | exact o1037_5.nostat | exact o1037_7.nostat)
  have f1094 := f1055.keep K1076 (by simp only [List.mem_cons, List.not_mem_nil, or_false, not_or]; exact ⟨ne_a1_ra, ne3, ne41, ne112, ne156⟩)
  have f1096 := f1057.keep K1076 (by simp only [List.mem_cons, List.not_mem_nil, or_false, not_or]; exact ⟨ne_a1_ra, ne3, ne41, ne112, ne156⟩)
  have f1109 := f1070.keep K1076 (by simp only [List.mem_cons, List.not_mem_nil, or_false, not_or]; exact ⟨ne_a1_ra, ne3, ne41, ne112, ne156⟩)
  have f1112 := f1073.keep K1076 (by simp only [List.mem_cons, List.not_mem_nil, or_false, not_or]; exact ⟨ne_a1_ra, ne3, ne41, ne112, ne156⟩)
  have Kp1113 := Kp1074.trans K1076 (fun x hx => by simp only [List.mem_cons, List.not_mem_nil, or_false] at hx; rcases hx with rfl | rfl | rfl | rfl | rfl <;> first | exact (Or.inl (List.mem_of_getElem? (i := 1) rfl)) | exact (Or.inr sz_b2) | exact (Or.inr sz_x40) | exact (Or.inr sz_b111) | exact (Or.inr sz_x155))
  have Zs1114 : n0 ≤ h1076.size := Nat.le_trans Zs1075 K1076.1
  show own_H T1076 117 #[.val (.ref a1), .val (.ref n1), .val (.ref ra), .val (.int (2 : Int32))] []
  clear f1038 f1039 f1040 f1041 f1042 f1043 f1044 f1045 f1046 f1047 f1048 f1052 f1053 o1037_1 f1055 o1037_5 f1057 f1070 f1073 o1037_0 o1037_2 o1037_3 o1037_4 o1037_6 o1037_7 o1037_8 Kp1074 Zs1075
  refine own_via (fun t k => XS.iinc X1076.here hx rfl (hb hby own_d8_117) rfl (l' := #[.val (.ref a1), .val (.ref n1), .val (.ref ra), .val (.int (3 : Int32))]) rfl k) ?_
  show own_H T1076 120 #[.val (.ref a1), .val (.ref n1), .val (.ref ra), .val (.int (3 : Int32))] []
  refine own_via (fun t k => XS.goto X1076.here hx rfl (pc0 := 120) (pc' := 103) rfl (hb hby own_d8_120) (by decide) (by decide) k) ?_
  refine own_via (fun t k => XS.iloadN X1076.here hx rfl (hb hby own_d8_103) rfl k) ?_
  refine own_via (fun t k => XS.aloadN X1076.here hx rfl (hb hby own_d8_104) rfl rfl k) ?_
  show own_H T1076 105 #[.val (.ref a1), .val (.ref n1), .val (.ref ra), .val (.int (3 : Int32))] [(.ref ra), (.int (3 : Int32))]
  refine own_via (own_len X1076 hx hZ e1076 o1076_0 (pc := 105) (Ls := #[.val (.ref a1), .val (.ref n1), .val (.ref ra), .val (.int (3 : Int32))]) (rest := [(.int (3 : Int32))]) (hb hby own_d8_105)) ?_
  show own_H T1076 106 #[.val (.ref a1), .val (.ref n1), .val (.ref ra), .val (.int (3 : Int32))] [(.int (4 : Int32)), (.int (3 : Int32))]
  refine own_via (fun t k => XS.icmpNo X1076.here hx rfl (hb hby own_d8_106) rfl (tlt (by decide : (3 : Int32) < (4 : Int32))).2.1 k) ?_
  show own_H T1076 109 #[.val (.ref a1), .val (.ref n1), .val (.ref ra), .val (.int (3 : Int32))] []
  refine own_via (fun t k => XS.aloadN X1076.here hx rfl (hb hby own_d8_109) rfl rfl k) ?_
  refine own_via (fun t k => XS.iloadN X1076.here hx rfl (hb hby own_d8_110) rfl k) ?_
  refine own_via (fun t k => XS.aloadN X1076.here hx rfl (hb hby own_d8_111) rfl rfl k) ?_
  refine own_via (fun t k => XS.iloadN X1076.here hx rfl (hb hby own_d8_112) rfl k) ?_
  show own_H T1076 113 #[.val (.ref a1), .val (.ref n1), .val (.ref ra), .val (.int (3 : Int32))] [(.int (3 : Int32)), (.ref ra), (.int (3 : Int32)), (.ref a1)]
  refine own_via (own_ldI X1076 hx hZ e1076 o1076_0 (j := (3 : Int32)) ⟨by decide, by decide⟩ (v := (.int r3)) rfl (pc := 113) (Ls := #[.val (.ref a1), .val (.ref n1), .val (.ref ra), .val (.int (3 : Int32))]) (rest := [(.int (3 : Int32)), (.ref a1)]) (hb hby own_d8_113)) ?_
  show own_H T1076 114 #[.val (.ref a1), .val (.ref n1), .val (.ref ra), .val (.int (3 : Int32))] [(.int r3), (.int (3 : Int32)), (.ref a1)]
  obtain ⟨v1115, T1115, h1115, L1115, X1115, N1115, e1115, hq1115, st1115⟩ := own_callR (y := (⟨"com/example/dissoc/dissoc/mincut/Flow", "setResidual", "(II)V"⟩ : MethodName)) (W := 0) (a := a1) X1076 N1076 hx hZ hown (own_u hw 139 rfl) (own_u hw 140 rfl) (own_selP (y := (⟨"com/example/dissoc/dissoc/mincut/Flow", "setResidual", "(II)V"⟩ : MethodName)) (own_u hw 60 rfl) (own_u hw 141 rfl) (own_u hw 140 rfl) (by decide)) (own_u hw 141 rfl) (own_u hw 61 rfl) (own_u hw 142 rfl) (by decide) (own_sr3 l Z a0 hw [] a1 r3 ra va b2 x40 b111 x155 kr kv kx40 kx155 W_31076 W_41076 u31076 u41076 r0 r1 r2 v_0 v_1 v_2 v_3 h1076 n0 Zs1114 f1077 f1109 f1112 f1094 f1096 o1076_0 f1091 o1076_1 o1076_2 o1076_3 o1076_4 o1076_5 o1076_6 o1076_7 o1076_8 f1092 g_ra g_b2 g_x40 g_b111 g_x155 ne_a1_ra ne_a1_va ne3 ne41 ne112 ne156 ne_ra_va ne5 ne43 ne114 ne158 ne6 ne44 ne115 ne159 ne45 ne116 ne160 ne117 ne161 ne162 hp_a3 hp_b3) (by decide) (by decide) (by decide) (by decide) e1076 f1077 (pc := 114) (Ls := #[.val (.ref a1), .val (.ref n1), .val (.ref ra), .val (.int (3 : Int32))]) (st := [(.int r3), (.int (3 : Int32)), (.ref a1)]) (argsL := [(.int (3 : Int32)), (.int r3)]) (rest := []) (by rw [hml]; rfl) (lenOf own_pd5 rfl) rfl rfl (Nat.le_of_eq rfl) (hb hby own_d8_114)
  obtain ⟨W_31115, u31115, W_41115, u41115, rfl, K1115, o1115_0, o1115_1, o1115_2, o1115_3, o1115_4, o1115_5, o1115_6, o1115_7, o1115_8⟩ := hq1115
  refine own_via st1115 ?_
  have f1116 := f1077.keep K1115
  have f1117 := f1078.keep K1115 (by simp only [List.mem_cons, List.not_mem_nil, or_false, not_or]; exact ⟨ne_a1_ra, ne3, ne41, ne112, ne156⟩)
  have f1118 := f1079.keep K1115 (by simp only [List.mem_cons, List.not_mem_nil, or_false, not_or]; exact ⟨ne_a1_ra, ne3, ne41, ne112, ne156⟩)
  have f1119 := f1080.keep K1115 (by simp only [List.mem_cons, List.not_mem_nil, or_false, not_or]; exact ⟨ne_a1_ra, ne3, ne41, ne112, ne156⟩)
  have f1120 := f1081.keep K1115 (by simp only [List.mem_cons, List.not_mem_nil, or_false, not_or]; exact ⟨ne_a1_ra, ne3, ne41, ne112, ne156⟩)
  have f1121 := f1082.keep K1115 (by simp only [List.mem_cons, List.not_mem_nil, or_false, not_or]; exact ⟨ne_a1_ra, ne3, ne41, ne112, ne156⟩)
  have f1122 := f1083.keep K1115 (by simp only [List.mem_cons, List.not_mem_nil, or_false, not_or]; exact ⟨ne_a1_ra, ne3, ne41, ne112, ne156⟩)
  have f1123 := f1084.keep K1115 (by simp only [List.mem_cons, List.not_mem_nil, or_false, not_or]; exact ⟨ne_a1_ra, ne3, ne41, ne112, ne156⟩)
  have f1124 := f1085.keep K1115 (by simp only [List.mem_cons, List.not_mem_nil, or_false, not_or]; exact ⟨ne_a1_ra, ne3, ne41, ne112, ne156⟩)
  have f1125 := f1086.keep K1115
  have f1126 := f1087.keep K1115 (by simp only [List.mem_cons, List.not_mem_nil, or_false, not_or]; exact ⟨ne_n1_ra, ne4, ne42, ne113, ne157⟩)
  have Kp1152 := Kp1113.trans K1115 (fun x hx => by simp only [List.mem_cons, List.not_mem_nil, or_false] at hx; rcases hx with rfl | rfl | rfl | rfl | rfl <;> first | exact (Or.inl (List.mem_of_getElem? (i := 1) rfl)) | exact (Or.inr sz_b2) | exact (Or.inr sz_x40) | exact (Or.inr sz_b111) | exact (Or.inr sz_x155))
  show own_H T1115 117 #[.val (.ref a1), .val (.ref n1), .val (.ref ra), .val (.int (3 : Int32))] []
  clear f1077 f1078 f1079 f1080 f1081 f1082 f1083 f1084 f1085 f1086 f1087 f1091 f1092 o1076_1 f1094 o1076_5 f1096 f1109 f1112 o1076_0 o1076_2 o1076_3 o1076_4 o1076_6 o1076_7 o1076_8 Kp1113 Zs1114
  refine own_via (fun t k => XS.iinc X1115.here hx rfl (hb hby own_d8_117) rfl (l' := #[.val (.ref a1), .val (.ref n1), .val (.ref ra), .val (.int (4 : Int32))]) rfl k) ?_
  show own_H T1115 120 #[.val (.ref a1), .val (.ref n1), .val (.ref ra), .val (.int (4 : Int32))] []
  refine own_via (fun t k => XS.goto X1115.here hx rfl (pc0 := 120) (pc' := 103) rfl (hb hby own_d8_120) (by decide) (by decide) k) ?_
  refine own_via (fun t k => XS.iloadN X1115.here hx rfl (hb hby own_d8_103) rfl k) ?_
  refine own_via (fun t k => XS.aloadN X1115.here hx rfl (hb hby own_d8_104) rfl rfl k) ?_
  show own_H T1115 105 #[.val (.ref a1), .val (.ref n1), .val (.ref ra), .val (.int (4 : Int32))] [(.ref ra), (.int (4 : Int32))]
  refine own_via (own_len X1115 hx hZ e1115 o1115_0 (pc := 105) (Ls := #[.val (.ref a1), .val (.ref n1), .val (.ref ra), .val (.int (4 : Int32))]) (rest := [(.int (4 : Int32))]) (hb hby own_d8_105)) ?_
  show own_H T1115 106 #[.val (.ref a1), .val (.ref n1), .val (.ref ra), .val (.int (4 : Int32))] [(.int (4 : Int32)), (.int (4 : Int32))]
  refine own_via (fun t k => XS.icmpYes X1115.here hx rfl (pc0 := 106) (pc' := 123) rfl (hb hby own_d8_106) rfl (flt (by decide : ¬ ((4 : Int32) < (4 : Int32)))).2.1 (by decide) (by decide) k) ?_
  show own_H T1115 123 #[.val (.ref a1), .val (.ref n1), .val (.ref ra), .val (.int (4 : Int32))] []
  refine own_via (fun t k => XS.aloadN X1115.here hx rfl (hb hby own_d8_123) rfl rfl k) ?_
  show own_H T1115 124 #[.val (.ref a1), .val (.ref n1), .val (.ref ra), .val (.int (4 : Int32))] [(.ref n1)]
  obtain ⟨T1154, X1154, e1154, st1154⟩ := own_callVP (y := (⟨"com/example/dissoc/dissoc/mincut/FlowNetwork", "nodes", "()I"⟩ : MethodName)) (z := (⟨"com/example/dissoc/dissoc/mincut/FlowNetwork", "nodes", "()I"⟩ : MethodName)) (W := 0) (a := n1) X1115 hx hZ hown (own_u hw 180 rfl) (own_u hw 181 rfl) (notFace_of_selects (args := #[]) (mvT hZ (own_u hw 183 rfl))) (own_u hw 183 rfl) (own_u hw 182 rfl) (own_u hw 3 rfl) (own_u hw 184 rfl) (by decide) (own_g_nodes l Z a0 hw [] n1 c1 h1115 f1126) (by decide) (by decide) rfl rfl (by decide) (by decide) e1115 f1125 (pc := 124) (Ls := #[.val (.ref a1), .val (.ref n1), .val (.ref ra), .val (.int (4 : Int32))]) (st := [(.ref n1)]) (argsL := []) (rest := []) (by rw [hml]; rfl) (lenOf own_pd6 rfl) rfl rfl (Nat.le_of_eq rfl) (hb hby own_d8_124)
  refine own_via st1154 ?_
  show own_H T1154 127 #[.val (.ref a1), .val (.ref n1), .val (.ref ra), .val (.int (4 : Int32))] [(.int c1)]
  refine own_via (fun t k => XS.istoreN X1154.here hx rfl (hb hby own_d8_127) rfl (l' := #[.val (.ref a1), .val (.ref n1), .val (.ref ra), .val (.int c1)]) rfl k) ?_
  refine own_via (fun t k => XS.aloadN X1154.here hx rfl (hb hby own_d8_128) rfl rfl k) ?_
  refine own_via (fun t k => XS.iloadN X1154.here hx rfl (hb hby own_d8_129) rfl k) ?_
  show own_H T1154 130 #[.val (.ref a1), .val (.ref n1), .val (.ref ra), .val (.int c1)] [(.int c1), (.ref a1)]
  obtain ⟨T1155, h1155, k1155, b1155, X1155, e1155, E1155, ga1155, V1155, Ex1155, st1155⟩ := own_newA X1154 hx hZ (own_u hw 10 rfl) e1154 (pc := 130) (Ls := #[.val (.ref a1), .val (.ref n1), .val (.ref ra), .val (.int c1)]) (rest := [(.ref a1)]) (hb hby own_d8_130) (n := c1) hp_c0 (cap := 4) hp_c4 (by decide) (by decide) (by decide) 0 rfl
  refine own_via st1155 ?_
  have f1169 := f1116.ext E1155
  have f1170 := f1117.ext E1155
  have f1171 := f1118.ext E1155
  have f1172 := f1119.ext E1155
  have f1173 := f1120.ext E1155
  have f1174 := f1121.ext E1155
  have f1175 := f1122.ext E1155
  have f1176 := f1123.ext E1155
  have f1177 := f1124.ext E1155
  have Kp1212 := Kp1152.ext E1155
  show own_H T1155 132 #[.val (.ref a1), .val (.ref n1), .val (.ref ra), .val (.int c1)] [(.ref b1155), (.ref a1)]
  clear f1116 f1117 f1118 f1119 f1120 f1121 f1122 f1123 f1124 f1125 f1126 o1115_1 o1115_5 o1115_0 o1115_2 o1115_3 o1115_4 o1115_6 o1115_7 o1115_8 Kp1152
  obtain ⟨T1215, h1215, L1215, X1215, N1215, e1215, W1215, F1215, st1215⟩ := own_putF X1155 N1115 hx hZ hown (own_u hw 185 rfl) e1155 f1170 f1169 (Or.inr ⟨(own_u hw 186 rfl), rfl, hnm⟩) (own_u hw 60 rfl) g_a1 (ty := (.array .int)) (v := (.ref b1155)) (by decide) rfl rfl (pc := 132) (Ls := #[.val (.ref a1), .val (.ref n1), .val (.ref ra), .val (.int c1)]) (rest := []) (hb hby own_d8_132)
  refine own_via st1215 ?_
  have f1216 := f1169.wr W1215
  have f1217 := f1171.other W1215 (Or.inr (slot_ne (Or.inr (own_u hw 188 rfl)) (Or.inr (own_u hw 186 rfl)) (by decide) rfl rfl))
  have f1218 := f1172.other W1215 (Or.inr (slot_ne (Or.inr (own_u hw 190 rfl)) (Or.inr (own_u hw 186 rfl)) (by decide) rfl rfl))
  have f1219 := f1173.other W1215 (Or.inr (slot_ne (Or.inr (own_u hw 192 rfl)) (Or.inr (own_u hw 186 rfl)) (by decide) rfl rfl))
  have f1220 := f1174.other W1215 (Or.inr (slot_ne (Or.inr (own_u hw 194 rfl)) (Or.inr (own_u hw 186 rfl)) (by decide) rfl rfl))
  have f1221 := f1175.other W1215 (Or.inr (slot_ne (Or.inr (own_u hw 196 rfl)) (Or.inr (own_u hw 186 rfl)) (by decide) rfl rfl))
  have f1222 := f1176.other W1215 (Or.inr (slot_ne (Or.inr (own_u hw 198 rfl)) (Or.inr (own_u hw 186 rfl)) (by decide) rfl rfl))
  have f1223 := f1177.other W1215 (Or.inr (slot_ne (Or.inr (own_u hw 200 rfl)) (Or.inr (own_u hw 186 rfl)) (by decide) rfl rfl))
  have Kp1259 := Kp1212.wr W1215 (Or.inl (List.mem_of_getElem? (i := 0) rfl))
  show own_H T1215 135 #[.val (.ref a1), .val (.ref n1), .val (.ref ra), .val (.int c1)] []
  clear f1169 f1170 f1171 f1172 f1173 f1174 f1175 f1176 f1177 Kp1212
  refine own_via (fun t k => XS.aloadN X1215.here hx rfl (hb hby own_d8_135) rfl rfl k) ?_
  refine own_via (fun t k => XS.iloadN X1215.here hx rfl (hb hby own_d8_136) rfl k) ?_
  show own_H T1215 137 #[.val (.ref a1), .val (.ref n1), .val (.ref ra), .val (.int c1)] [(.int c1), (.ref a1)]
  obtain ⟨T1261, h1261, k1261, b1261, X1261, e1261, E1261, ga1261, V1261, Ex1261, st1261⟩ := own_newA X1215 hx hZ (own_u hw 10 rfl) e1215 (pc := 137) (Ls := #[.val (.ref a1), .val (.ref n1), .val (.ref ra), .val (.int c1)]) (rest := [(.ref a1)]) (hb hby own_d8_137) (n := c1) hp_c0 (cap := 4) hp_c4 (by decide) (by decide) (by decide) 0 rfl
  refine own_via st1261 ?_
  have f1276 := f1216.ext E1261
  have f1277 := f1217.ext E1261
  have f1278 := f1218.ext E1261
  have f1279 := f1219.ext E1261
  have f1280 := f1220.ext E1261
  have f1281 := f1221.ext E1261
  have f1282 := f1222.ext E1261
  have f1283 := f1223.ext E1261
  have Kp1320 := Kp1259.ext E1261
  show own_H T1261 139 #[.val (.ref a1), .val (.ref n1), .val (.ref ra), .val (.int c1)] [(.ref b1261), (.ref a1)]
  clear f1216 f1217 f1218 f1219 f1220 f1221 f1222 f1223 F1215 Kp1259
  obtain ⟨T1323, h1323, L1323, X1323, N1323, e1323, W1323, F1323, st1323⟩ := own_putF X1261 N1215 hx hZ hown (own_u hw 187 rfl) e1261 f1277 f1276 (Or.inr ⟨(own_u hw 188 rfl), rfl, hnm⟩) (own_u hw 60 rfl) g_a1 (ty := (.array .int)) (v := (.ref b1261)) (by decide) rfl rfl (pc := 139) (Ls := #[.val (.ref a1), .val (.ref n1), .val (.ref ra), .val (.int c1)]) (rest := []) (hb hby own_d8_139)
  refine own_via st1323 ?_
  have f1324 := f1276.wr W1323
  have f1325 := f1278.other W1323 (Or.inr (slot_ne (Or.inr (own_u hw 190 rfl)) (Or.inr (own_u hw 188 rfl)) (by decide) rfl rfl))
  have f1326 := f1279.other W1323 (Or.inr (slot_ne (Or.inr (own_u hw 192 rfl)) (Or.inr (own_u hw 188 rfl)) (by decide) rfl rfl))
  have f1327 := f1280.other W1323 (Or.inr (slot_ne (Or.inr (own_u hw 194 rfl)) (Or.inr (own_u hw 188 rfl)) (by decide) rfl rfl))
  have f1328 := f1281.other W1323 (Or.inr (slot_ne (Or.inr (own_u hw 196 rfl)) (Or.inr (own_u hw 188 rfl)) (by decide) rfl rfl))
  have f1329 := f1282.other W1323 (Or.inr (slot_ne (Or.inr (own_u hw 198 rfl)) (Or.inr (own_u hw 188 rfl)) (by decide) rfl rfl))
  have f1330 := f1283.other W1323 (Or.inr (slot_ne (Or.inr (own_u hw 200 rfl)) (Or.inr (own_u hw 188 rfl)) (by decide) rfl rfl))
  have Kp1368 := Kp1320.wr W1323 (Or.inl (List.mem_of_getElem? (i := 0) rfl))
  show own_H T1323 142 #[.val (.ref a1), .val (.ref n1), .val (.ref ra), .val (.int c1)] []
  clear f1276 f1277 f1278 f1279 f1280 f1281 f1282 f1283 Kp1320
  refine own_via (fun t k => XS.aloadN X1323.here hx rfl (hb hby own_d8_142) rfl rfl k) ?_
  refine own_via (fun t k => XS.iloadN X1323.here hx rfl (hb hby own_d8_143) rfl k) ?_
  show own_H T1323 144 #[.val (.ref a1), .val (.ref n1), .val (.ref ra), .val (.int c1)] [(.int c1), (.ref a1)]
  obtain ⟨T1370, h1370, k1370, b1370, X1370, e1370, E1370, ga1370, V1370, Ex1370, st1370⟩ := own_newA X1323 hx hZ (own_u hw 10 rfl) e1323 (pc := 144) (Ls := #[.val (.ref a1), .val (.ref n1), .val (.ref ra), .val (.int c1)]) (rest := [(.ref a1)]) (hb hby own_d8_144) (n := c1) hp_c0 (cap := 4) hp_c4 (by decide) (by decide) (by decide) 0 rfl
  refine own_via st1370 ?_
  have f1386 := f1324.ext E1370
  have f1387 := f1325.ext E1370
  have f1388 := f1326.ext E1370
  have f1389 := f1327.ext E1370
  have f1390 := f1328.ext E1370
  have f1391 := f1329.ext E1370
  have f1392 := f1330.ext E1370
  have Kp1431 := Kp1368.ext E1370
  show own_H T1370 146 #[.val (.ref a1), .val (.ref n1), .val (.ref ra), .val (.int c1)] [(.ref b1370), (.ref a1)]
  clear f1324 f1325 f1326 f1327 f1328 f1329 f1330 F1323 Kp1368
  obtain ⟨T1434, h1434, L1434, X1434, N1434, e1434, W1434, F1434, st1434⟩ := own_putF X1370 N1323 hx hZ hown (own_u hw 189 rfl) e1370 f1387 f1386 (Or.inr ⟨(own_u hw 190 rfl), rfl, hnm⟩) (own_u hw 60 rfl) g_a1 (ty := (.array .int)) (v := (.ref b1370)) (by decide) rfl rfl (pc := 146) (Ls := #[.val (.ref a1), .val (.ref n1), .val (.ref ra), .val (.int c1)]) (rest := []) (hb hby own_d8_146)
  refine own_via st1434 ?_
  have f1435 := f1386.wr W1434
  have f1436 := f1388.other W1434 (Or.inr (slot_ne (Or.inr (own_u hw 192 rfl)) (Or.inr (own_u hw 190 rfl)) (by decide) rfl rfl))
  have f1437 := f1389.other W1434 (Or.inr (slot_ne (Or.inr (own_u hw 194 rfl)) (Or.inr (own_u hw 190 rfl)) (by decide) rfl rfl))
  have f1438 := f1390.other W1434 (Or.inr (slot_ne (Or.inr (own_u hw 196 rfl)) (Or.inr (own_u hw 190 rfl)) (by decide) rfl rfl))
  have f1439 := f1391.other W1434 (Or.inr (slot_ne (Or.inr (own_u hw 198 rfl)) (Or.inr (own_u hw 190 rfl)) (by decide) rfl rfl))
  have f1440 := f1392.other W1434 (Or.inr (slot_ne (Or.inr (own_u hw 200 rfl)) (Or.inr (own_u hw 190 rfl)) (by decide) rfl rfl))
  have Kp1480 := Kp1431.wr W1434 (Or.inl (List.mem_of_getElem? (i := 0) rfl))
  show own_H T1434 149 #[.val (.ref a1), .val (.ref n1), .val (.ref ra), .val (.int c1)] []
  clear f1386 f1387 f1388 f1389 f1390 f1391 f1392 Kp1431
  refine own_via (fun t k => XS.aloadN X1434.here hx rfl (hb hby own_d8_149) rfl rfl k) ?_
  refine own_via (fun t k => XS.iloadN X1434.here hx rfl (hb hby own_d8_150) rfl k) ?_
  show own_H T1434 151 #[.val (.ref a1), .val (.ref n1), .val (.ref ra), .val (.int c1)] [(.int c1), (.ref a1)]
  obtain ⟨T1482, h1482, k1482, b1482, X1482, e1482, E1482, ga1482, V1482, Ex1482, st1482⟩ := own_newA X1434 hx hZ (own_u hw 10 rfl) e1434 (pc := 151) (Ls := #[.val (.ref a1), .val (.ref n1), .val (.ref ra), .val (.int c1)]) (rest := [(.ref a1)]) (hb hby own_d8_151) (n := c1) hp_c0 (cap := 4) hp_c4 (by decide) (by decide) (by decide) 0 rfl
  refine own_via st1482 ?_
  have f1499 := f1435.ext E1482
  have f1500 := f1436.ext E1482
  have f1501 := f1437.ext E1482
  have f1502 := f1438.ext E1482
  have f1503 := f1439.ext E1482
  have f1504 := f1440.ext E1482
  have Kp1545 := Kp1480.ext E1482
  show own_H T1482 153 #[.val (.ref a1), .val (.ref n1), .val (.ref ra), .val (.int c1)] [(.ref b1482), (.ref a1)]
  clear f1435 f1436 f1437 f1438 f1439 f1440 F1434 Kp1480
  obtain ⟨T1548, h1548, L1548, X1548, N1548, e1548, W1548, F1548, st1548⟩ := own_putF X1482 N1434 hx hZ hown (own_u hw 191 rfl) e1482 f1500 f1499 (Or.inr ⟨(own_u hw 192 rfl), rfl, hnm⟩) (own_u hw 60 rfl) g_a1 (ty := (.array .int)) (v := (.ref b1482)) (by decide) rfl rfl (pc := 153) (Ls := #[.val (.ref a1), .val (.ref n1), .val (.ref ra), .val (.int c1)]) (rest := []) (hb hby own_d8_153)
  refine own_via st1548 ?_
  have f1549 := f1499.wr W1548
  have f1550 := f1501.other W1548 (Or.inr (slot_ne (Or.inr (own_u hw 194 rfl)) (Or.inr (own_u hw 192 rfl)) (by decide) rfl rfl))
  have f1551 := f1502.other W1548 (Or.inr (slot_ne (Or.inr (own_u hw 196 rfl)) (Or.inr (own_u hw 192 rfl)) (by decide) rfl rfl))
  have f1552 := f1503.other W1548 (Or.inr (slot_ne (Or.inr (own_u hw 198 rfl)) (Or.inr (own_u hw 192 rfl)) (by decide) rfl rfl))
  have f1553 := f1504.other W1548 (Or.inr (slot_ne (Or.inr (own_u hw 200 rfl)) (Or.inr (own_u hw 192 rfl)) (by decide) rfl rfl))
  have Kp1595 := Kp1545.wr W1548 (Or.inl (List.mem_of_getElem? (i := 0) rfl))
  show own_H T1548 156 #[.val (.ref a1), .val (.ref n1), .val (.ref ra), .val (.int c1)] []
  clear f1499 f1500 f1501 f1502 f1503 f1504 Kp1545
  refine own_via (fun t k => XS.aloadN X1548.here hx rfl (hb hby own_d8_156) rfl rfl k) ?_
  refine own_via (fun t k => XS.iloadN X1548.here hx rfl (hb hby own_d8_157) rfl k) ?_
  show own_H T1548 158 #[.val (.ref a1), .val (.ref n1), .val (.ref ra), .val (.int c1)] [(.int c1), (.ref a1)]
  obtain ⟨T1597, h1597, k1597, b1597, X1597, e1597, E1597, ga1597, V1597, Ex1597, st1597⟩ := own_newA X1548 hx hZ (own_u hw 10 rfl) e1548 (pc := 158) (Ls := #[.val (.ref a1), .val (.ref n1), .val (.ref ra), .val (.int c1)]) (rest := [(.ref a1)]) (hb hby own_d8_158) (n := c1) hp_c0 (cap := 4) hp_c4 (by decide) (by decide) (by decide) 0 rfl
  refine own_via st1597 ?_
  have f1615 := f1549.ext E1597
  have f1616 := f1550.ext E1597
  have f1617 := f1551.ext E1597
  have f1618 := f1552.ext E1597
  have f1619 := f1553.ext E1597
  have Kp1662 := Kp1595.ext E1597
  show own_H T1597 160 #[.val (.ref a1), .val (.ref n1), .val (.ref ra), .val (.int c1)] [(.ref b1597), (.ref a1)]
  clear f1549 f1550 f1551 f1552 f1553 F1548 Kp1595
  obtain ⟨T1665, h1665, L1665, X1665, N1665, e1665, W1665, F1665, st1665⟩ := own_putF X1597 N1548 hx hZ hown (own_u hw 193 rfl) e1597 f1616 f1615 (Or.inr ⟨(own_u hw 194 rfl), rfl, hnm⟩) (own_u hw 60 rfl) g_a1 (ty := (.array .int)) (v := (.ref b1597)) (by decide) rfl rfl (pc := 160) (Ls := #[.val (.ref a1), .val (.ref n1), .val (.ref ra), .val (.int c1)]) (rest := []) (hb hby own_d8_160)
  refine own_via st1665 ?_
  have f1666 := f1615.wr W1665
  have f1667 := f1617.other W1665 (Or.inr (slot_ne (Or.inr (own_u hw 196 rfl)) (Or.inr (own_u hw 194 rfl)) (by decide) rfl rfl))
  have f1668 := f1618.other W1665 (Or.inr (slot_ne (Or.inr (own_u hw 198 rfl)) (Or.inr (own_u hw 194 rfl)) (by decide) rfl rfl))
  have f1669 := f1619.other W1665 (Or.inr (slot_ne (Or.inr (own_u hw 200 rfl)) (Or.inr (own_u hw 194 rfl)) (by decide) rfl rfl))
  have Kp1713 := Kp1662.wr W1665 (Or.inl (List.mem_of_getElem? (i := 0) rfl))
  show own_H T1665 163 #[.val (.ref a1), .val (.ref n1), .val (.ref ra), .val (.int c1)] []
  clear f1615 f1616 f1617 f1618 f1619 Kp1662
  refine own_via (fun t k => XS.aloadN X1665.here hx rfl (hb hby own_d8_163) rfl rfl k) ?_
  refine own_via (fun t k => XS.iloadN X1665.here hx rfl (hb hby own_d8_164) rfl k) ?_
  show own_H T1665 165 #[.val (.ref a1), .val (.ref n1), .val (.ref ra), .val (.int c1)] [(.int c1), (.ref a1)]
  obtain ⟨T1715, h1715, k1715, b1715, X1715, e1715, E1715, ga1715, V1715, Ex1715, st1715⟩ := own_newA X1665 hx hZ (own_u hw 10 rfl) e1665 (pc := 165) (Ls := #[.val (.ref a1), .val (.ref n1), .val (.ref ra), .val (.int c1)]) (rest := [(.ref a1)]) (hb hby own_d8_165) (n := c1) hp_c0 (cap := 4) hp_c4 (by decide) (by decide) (by decide) 0 rfl
  refine own_via st1715 ?_
  have f1734 := f1666.ext E1715
  have f1735 := f1667.ext E1715
  have f1736 := f1668.ext E1715
  have f1737 := f1669.ext E1715
  have Kp1782 := Kp1713.ext E1715
  show own_H T1715 167 #[.val (.ref a1), .val (.ref n1), .val (.ref ra), .val (.int c1)] [(.ref b1715), (.ref a1)]
  clear f1666 f1667 f1668 f1669 F1665 Kp1713
  obtain ⟨T1785, h1785, L1785, X1785, N1785, e1785, W1785, F1785, st1785⟩ := own_putF X1715 N1665 hx hZ hown (own_u hw 195 rfl) e1715 f1735 f1734 (Or.inr ⟨(own_u hw 196 rfl), rfl, hnm⟩) (own_u hw 60 rfl) g_a1 (ty := (.array .int)) (v := (.ref b1715)) (by decide) rfl rfl (pc := 167) (Ls := #[.val (.ref a1), .val (.ref n1), .val (.ref ra), .val (.int c1)]) (rest := []) (hb hby own_d8_167)
  refine own_via st1785 ?_
  have f1786 := f1734.wr W1785
  have f1787 := f1736.other W1785 (Or.inr (slot_ne (Or.inr (own_u hw 198 rfl)) (Or.inr (own_u hw 196 rfl)) (by decide) rfl rfl))
  have f1788 := f1737.other W1785 (Or.inr (slot_ne (Or.inr (own_u hw 200 rfl)) (Or.inr (own_u hw 196 rfl)) (by decide) rfl rfl))
  have Kp1834 := Kp1782.wr W1785 (Or.inl (List.mem_of_getElem? (i := 0) rfl))
  show own_H T1785 170 #[.val (.ref a1), .val (.ref n1), .val (.ref ra), .val (.int c1)] []
  clear f1734 f1735 f1736 f1737 Kp1782
  refine own_via (fun t k => XS.aloadN X1785.here hx rfl (hb hby own_d8_170) rfl rfl k) ?_
  refine own_via (fun t k => XS.iloadN X1785.here hx rfl (hb hby own_d8_171) rfl k) ?_
  show own_H T1785 172 #[.val (.ref a1), .val (.ref n1), .val (.ref ra), .val (.int c1)] [(.int c1), (.ref a1)]
  obtain ⟨T1836, h1836, k1836, b1836, X1836, e1836, E1836, ga1836, V1836, Ex1836, st1836⟩ := own_newA X1785 hx hZ (own_u hw 10 rfl) e1785 (pc := 172) (Ls := #[.val (.ref a1), .val (.ref n1), .val (.ref ra), .val (.int c1)]) (rest := [(.ref a1)]) (hb hby own_d8_172) (n := c1) hp_c0 (cap := 4) hp_c4 (by decide) (by decide) (by decide) 0 rfl
  refine own_via st1836 ?_
  have f1856 := f1786.ext E1836
  have f1857 := f1787.ext E1836
  have f1858 := f1788.ext E1836
  have Kp1905 := Kp1834.ext E1836
  show own_H T1836 174 #[.val (.ref a1), .val (.ref n1), .val (.ref ra), .val (.int c1)] [(.ref b1836), (.ref a1)]
  clear f1786 f1787 f1788 F1785 Kp1834
  obtain ⟨T1908, h1908, L1908, X1908, N1908, e1908, W1908, F1908, st1908⟩ := own_putF X1836 N1785 hx hZ hown (own_u hw 197 rfl) e1836 f1857 f1856 (Or.inr ⟨(own_u hw 198 rfl), rfl, hnm⟩) (own_u hw 60 rfl) g_a1 (ty := (.array .int)) (v := (.ref b1836)) (by decide) rfl rfl (pc := 174) (Ls := #[.val (.ref a1), .val (.ref n1), .val (.ref ra), .val (.int c1)]) (rest := []) (hb hby own_d8_174)
  refine own_via st1908 ?_
  have f1909 := f1856.wr W1908
  have f1910 := f1858.other W1908 (Or.inr (slot_ne (Or.inr (own_u hw 200 rfl)) (Or.inr (own_u hw 198 rfl)) (by decide) rfl rfl))
  have Kp1958 := Kp1905.wr W1908 (Or.inl (List.mem_of_getElem? (i := 0) rfl))
  show own_H T1908 177 #[.val (.ref a1), .val (.ref n1), .val (.ref ra), .val (.int c1)] []
  clear f1856 f1857 f1858 Kp1905
  refine own_via (fun t k => XS.aloadN X1908.here hx rfl (hb hby own_d8_177) rfl rfl k) ?_
  refine own_via (fun t k => XS.iloadN X1908.here hx rfl (hb hby own_d8_178) rfl k) ?_
  show own_H T1908 179 #[.val (.ref a1), .val (.ref n1), .val (.ref ra), .val (.int c1)] [(.int c1), (.ref a1)]
  obtain ⟨T1960, h1960, k1960, b1960, X1960, e1960, E1960, ga1960, V1960, Ex1960, st1960⟩ := own_newA X1908 hx hZ (own_u hw 10 rfl) e1908 (pc := 179) (Ls := #[.val (.ref a1), .val (.ref n1), .val (.ref ra), .val (.int c1)]) (rest := [(.ref a1)]) (hb hby own_d8_179) (n := c1) hp_c0 (cap := 4) hp_c4 (by decide) (by decide) (by decide) 0 rfl
  refine own_via st1960 ?_
  have f1981 := f1909.ext E1960
  have f1982 := f1910.ext E1960
  have Kp2031 := Kp1958.ext E1960
  show own_H T1960 181 #[.val (.ref a1), .val (.ref n1), .val (.ref ra), .val (.int c1)] [(.ref b1960), (.ref a1)]
  clear f1909 f1910 F1908 Kp1958
  obtain ⟨T2034, h2034, L2034, X2034, N2034, e2034, W2034, F2034, st2034⟩ := own_putF X1960 N1908 hx hZ hown (own_u hw 199 rfl) e1960 f1982 f1981 (Or.inr ⟨(own_u hw 200 rfl), rfl, hnm⟩) (own_u hw 60 rfl) g_a1 (ty := (.array .int)) (v := (.ref b1960)) (by decide) rfl rfl (pc := 181) (Ls := #[.val (.ref a1), .val (.ref n1), .val (.ref ra), .val (.int c1)]) (rest := []) (hb hby own_d8_181)
  refine own_via st2034 ?_
  have Kp2085 := Kp2031.wr W2034 (Or.inl (List.mem_of_getElem? (i := 0) rfl))
  show own_H T2034 184 #[.val (.ref a1), .val (.ref n1), .val (.ref ra), .val (.int c1)] []
  clear f1981 f1982 Kp2031
  exact own_retV X2034 hx Bd.returns Bd.notSynchronized (hb hby own_d8_184) (by rw [e2034]; exact ⟨N2034, rfl, Kp2085⟩) (by decide) (by decide)
theorem own_d1_0 : decode prog_28_method_1_code 0 = .ok (.aload_n 0, 1) := by decide +kernel
theorem own_d1_1 : decode prog_28_method_1_code 1 = .ok (.invokespecial 3, 3) := by decide +kernel
theorem own_d1_4 : decode prog_28_method_1_code 4 = .ok (.aload_n 0, 1) := by decide +kernel
theorem own_d1_5 : decode prog_28_method_1_code 5 = .ok (.bipush 16, 2) := by decide +kernel
theorem own_d1_7 : decode prog_28_method_1_code 7 = .ok (.newarray .int, 2) := by decide +kernel
theorem own_d1_9 : decode prog_28_method_1_code 9 = .ok (.putfield 9, 3) := by decide +kernel
theorem own_d1_12 : decode prog_28_method_1_code 12 = .ok (.aload_n 0, 1) := by decide +kernel
theorem own_d1_13 : decode prog_28_method_1_code 13 = .ok (.bipush 16, 2) := by decide +kernel
theorem own_d1_15 : decode prog_28_method_1_code 15 = .ok (.newarray .int, 2) := by decide +kernel
theorem own_d1_17 : decode prog_28_method_1_code 17 = .ok (.putfield 15, 3) := by decide +kernel
theorem own_d1_20 : decode prog_28_method_1_code 20 = .ok (.aload_n 0, 1) := by decide +kernel
theorem own_d1_21 : decode prog_28_method_1_code 21 = .ok (.bipush 16, 2) := by decide +kernel
theorem own_d1_23 : decode prog_28_method_1_code 23 = .ok (.newarray .int, 2) := by decide +kernel
theorem own_d1_25 : decode prog_28_method_1_code 25 = .ok (.putfield 18, 3) := by decide +kernel
theorem own_d1_28 : decode prog_28_method_1_code 28 = .ok (.aload_n 0, 1) := by decide +kernel
theorem own_d1_29 : decode prog_28_method_1_code 29 = .ok (.iload_n 1, 1) := by decide +kernel
theorem own_d1_30 : decode prog_28_method_1_code 30 = .ok (.putfield 21, 3) := by decide +kernel
theorem own_d1_33 : decode prog_28_method_1_code 33 = .ok (.return_, 1) := by decide +kernel
abbrev own_ni_R : Room := { frames := 1, cells := 3, slots := 48, locals := 12 }
theorem own_pn1 : plainFor (⟨"com/example/dissoc/dissoc/mincut/FlowNetwork", "<init>", "(I)V"⟩ : MethodName) = true := plainFor_of_name (by first | (simp [plainName, overriddenIn]; done) | decide +kernel)
theorem own_ni_ef (m : MethodId) (a1 : Addr) (c1 : Int32) : entryFrame m #[(.ref a1), (.int c1)] 2 = mkF m 0 #[.val (.ref a1), .val (.int c1)] [] := by first | (simp [entryFrame, mkF, argsToLocals, Value.category]; done) | rfl
def own_ni_q (Z : State) (a1 : Addr) (c1 : Int32)  (h0 : Heap) (v : Option Value) (h : Heap) : Prop := ∃ (fb : Addr) (tb : Addr) (cb : Addr) (k_fb : ClassId) (k_tb : ClassId) (k_cb : ClassId), v = none ∧ Keep h0 h [a1] ∧ h0.size ≤ fb ∧ h0.size ≤ tb ∧ h0.size ≤ cb ∧ fb ≠ tb ∧ fb ≠ cb ∧ tb ≠ cb ∧ Exa Z h a1 own_cN ∧ Fld Z h a1 own_cN "from" "[I" (.ref fb) ∧ Fld Z h a1 own_cN "to" "[I" (.ref tb) ∧ Fld Z h a1 own_cN "capacity" "[I" (.ref cb) ∧ Fld Z h a1 own_cN "nodes" "I" (.int c1) ∧ Fld Z h a1 own_cN "firstArc" "[I" .null ∧ Fld Z h a1 own_cN "edges" "I" (.int (0 : Int32)) ∧ Fld Z h a1 own_cN "target" "[I" .null ∧ Fld Z h a1 own_cN "edgeAt" "[I" .null ∧ Fld Z h a1 own_cN "reverse" "[I" .null ∧ Fld Z h a1 own_cN "forward" "[I" .null ∧ Arv Z h fb k_fb .int (16 : Int32) [(.int (0 : Int32)), (.int (0 : Int32)), (.int (0 : Int32)), (.int (0 : Int32)), (.int (0 : Int32)), (.int (0 : Int32)), (.int (0 : Int32)), (.int (0 : Int32)), (.int (0 : Int32)), (.int (0 : Int32)), (.int (0 : Int32)), (.int (0 : Int32)), (.int (0 : Int32)), (.int (0 : Int32)), (.int (0 : Int32)), (.int (0 : Int32))] (.int (0 : Int32)) ∧ Arv Z h tb k_tb .int (16 : Int32) [(.int (0 : Int32)), (.int (0 : Int32)), (.int (0 : Int32)), (.int (0 : Int32)), (.int (0 : Int32)), (.int (0 : Int32)), (.int (0 : Int32)), (.int (0 : Int32)), (.int (0 : Int32)), (.int (0 : Int32)), (.int (0 : Int32)), (.int (0 : Int32)), (.int (0 : Int32)), (.int (0 : Int32)), (.int (0 : Int32)), (.int (0 : Int32))] (.int (0 : Int32)) ∧ Arv Z h cb k_cb .int (16 : Int32) [(.int (0 : Int32)), (.int (0 : Int32)), (.int (0 : Int32)), (.int (0 : Int32)), (.int (0 : Int32)), (.int (0 : Int32)), (.int (0 : Int32)), (.int (0 : Int32)), (.int (0 : Int32)), (.int (0 : Int32)), (.int (0 : Int32)), (.int (0 : Int32)), (.int (0 : Int32)), (.int (0 : Int32)), (.int (0 : Int32)), (.int (0 : Int32))] (.int (0 : Int32))
set_option maxRecDepth 65536 in
set_option maxHeartbeats 40000000 in
theorem own_ni (l : Launch) (Z : State) (a0 : Array Value) (hw : ∀ d ∈ tables_1, d.before a0 Z = true) (ws : List Jvm.Cond) (a1 : Addr) (c1 : Int32)  (h0 : Heap) (n0 : Nat) (Z0 : n0 ≤ h0.size) (i_En : Exa Z h0 a1 own_cN) (i_N_from : Fld Z h0 a1 own_cN "from" "[I" .null) (i_N_to : Fld Z h0 a1 own_cN "to" "[I" .null) (i_N_capacity : Fld Z h0 a1 own_cN "capacity" "[I" .null) (i_N_nodes : Fld Z h0 a1 own_cN "nodes" "I" (.int (0 : Int32))) (i_N_firstArc : Fld Z h0 a1 own_cN "firstArc" "[I" .null) (i_N_edges : Fld Z h0 a1 own_cN "edges" "I" (.int (0 : Int32))) (i_N_target : Fld Z h0 a1 own_cN "target" "[I" .null) (i_N_edgeAt : Fld Z h0 a1 own_cN "edgeAt" "[I" .null) (i_N_reverse : Fld Z h0 a1 own_cN "reverse" "[I" .null) (i_N_forward : Fld Z h0 a1 own_cN "forward" "[I" .null) (g_a1 : n0 ≤ a1) :
    own_C l Z (⟨"com/example/dissoc/dissoc/mincut/FlowNetwork", "<init>", "(I)V"⟩ : MethodName) prog_28_method_1_code 2 none ws own_ni_R #[(.ref a1), (.int c1)] h0 (own_W n0 (own_ni_q Z a1 c1 h0)) := by
  refine MetFree.of_bodySF own_pn1 hisR ?_
  intro p e s m args below meth c s₁ Bd hml0 hP hK
  obtain ⟨rfl, hZ, hh⟩ := hP
  have hx := Bd.exec
  have hby := Bd.bytes
  have hml : c.maxLocals = 2 := hml0
  have hown : s.vm.findClass "com/example/dissoc/dissoc/mincut/FlowNetwork" = some m.cls := findClass_of_methodNamed Bd.named
  have hnm := (name_of_methodNamed Bd.named Bd.method).1
  have X0 : Stand p l e own_ni_R s m #[(.ref a1), (.int c1)] below meth c s₁ [] 0 0 := Stand.of_body Bd
  have e0 : s₁.heap = h0 := by rw [← hh, Bd.state]; rfl
  have N0 := Fr.nil n0
  have K0 : Keep h0 h0 [a1] := Keep.refl h0 _
  show own_G p e below (own_P s (own_W n0 (own_ni_q Z a1 c1 h0)) own_ni_R.cells own_ni_R.slots) (s₁.setTop (entryFrame m #[(.ref a1), (.int c1)] 2))
  rw [own_ni_ef m a1 c1]
  show own_H s₁ 0 #[.val (.ref a1), .val (.int c1)] []
  refine own_via (fun t k => XS.aloadN X0.here hx rfl (hb hby own_d1_0) rfl rfl k) ?_
  show own_H s₁ 1 #[.val (.ref a1), .val (.int c1)] [(.ref a1)]
  obtain ⟨T1, X1, e1, st1⟩ := initO X0 hx hZ hown (own_u hw 7 rfl) (own_u hw 8 rfl) (own_u hw 9 rfl) e0 (g := (mkF m 1 #[.val (.ref a1), .val (.int c1)] [(.ref a1)])) rfl (by rw [hml]; rfl) rfl (hb hby own_d1_1) (by decide) (W := 0) (by show 2 * 0 + _ ≤ _; exact Nat.le_of_eq rfl) (by decide)
  refine own_via st1 ?_
  show own_H T1 4 #[.val (.ref a1), .val (.int c1)] []
  refine own_via (fun t k => XS.aloadN X1.here hx rfl (hb hby own_d1_4) rfl rfl k) ?_
  refine own_via (fun t k => XS.bipush X1.here hx rfl (hb hby own_d1_5) k) ?_
  show own_H T1 7 #[.val (.ref a1), .val (.int c1)] [(.int (16 : Int32)), (.ref a1)]
  obtain ⟨T2, h2, k2, b2, X2, e2, E2, ga2, V2, Ex2, st2⟩ := own_newA X1 hx hZ (own_u hw 10 rfl) e1 (pc := 7) (Ls := #[.val (.ref a1), .val (.int c1)]) (rest := [(.ref a1)]) (hb hby own_d1_7) (n := (16 : Int32)) (by decide) (cap := 16) (by decide) (by decide) (by decide) (by decide) 16 rfl
  refine own_via st2 ?_
  have sz_b2 : h0.size ≤ b2 := Nat.le_trans K0.1 (Nat.le_of_eq ga2.symm)
  have ne3 : a1 ≠ b2 := Nat.ne_of_lt (Nat.lt_of_lt_of_le i_En.lt (Nat.le_of_eq ga2.symm))
  have f4 := i_En.ext E2
  have f5 := i_N_from.ext E2
  have f6 := i_N_to.ext E2
  have f7 := i_N_capacity.ext E2
  have f8 := i_N_nodes.ext E2
  have f9 := i_N_firstArc.ext E2
  have f10 := i_N_edges.ext E2
  have f11 := i_N_target.ext E2
  have f12 := i_N_edgeAt.ext E2
  have f13 := i_N_reverse.ext E2
  have f14 := i_N_forward.ext E2
  have Kp15 := K0.ext E2
  have f16 : Arv Z h2 b2 k2 .int (16 : Int32) [(.int (0 : Int32)), (.int (0 : Int32)), (.int (0 : Int32)), (.int (0 : Int32)), (.int (0 : Int32)), (.int (0 : Int32)), (.int (0 : Int32)), (.int (0 : Int32)), (.int (0 : Int32)), (.int (0 : Int32)), (.int (0 : Int32)), (.int (0 : Int32)), (.int (0 : Int32)), (.int (0 : Int32)), (.int (0 : Int32)), (.int (0 : Int32))] (.int (0 : Int32)) := V2
  show own_H T2 9 #[.val (.ref a1), .val (.int c1)] [(.ref b2), (.ref a1)]
  clear i_En i_N_from i_N_to i_N_capacity i_N_nodes i_N_firstArc i_N_edges i_N_target i_N_edgeAt i_N_reverse i_N_forward K0
  obtain ⟨T18, h18, L18, X18, N18, e18, W18, F18, st18⟩ := own_putF X2 N0 hx hZ hown (own_u hw 11 rfl) e2 f5 f4 (Or.inl (own_u hw 12 rfl)) (own_u hw 2 rfl) g_a1 (ty := (.array .int)) (v := (.ref b2)) (by decide) rfl rfl (pc := 9) (Ls := #[.val (.ref a1), .val (.int c1)]) (rest := []) (hb hby own_d1_9)
  refine own_via st18 ?_
  have f19 := f4.wr W18
  have f20 := f6.other W18 (Or.inr (slot_ne (Or.inl (own_u hw 14 rfl)) (Or.inl (own_u hw 12 rfl)) (by decide) rfl rfl))
  have f21 := f7.other W18 (Or.inr (slot_ne (Or.inl (own_u hw 16 rfl)) (Or.inl (own_u hw 12 rfl)) (by decide) rfl rfl))
  have f22 := f8.other W18 (Or.inr (slot_ne (Or.inr (own_u hw 18 rfl)) (Or.inl (own_u hw 12 rfl)) (by decide) rfl rfl))
  have f23 := f9.other W18 (Or.inr (slot_ne (Or.inl (own_u hw 25 rfl)) (Or.inl (own_u hw 12 rfl)) (by decide) rfl rfl))
  have f24 := f10.other W18 (Or.inr (slot_ne (Or.inl (own_u hw 27 rfl)) (Or.inl (own_u hw 12 rfl)) (by decide) rfl rfl))
  have f25 := f11.other W18 (Or.inr (slot_ne (Or.inl (own_u hw 43 rfl)) (Or.inl (own_u hw 12 rfl)) (by decide) rfl rfl))
  have f26 := f12.other W18 (Or.inr (slot_ne (Or.inl (own_u hw 45 rfl)) (Or.inl (own_u hw 12 rfl)) (by decide) rfl rfl))
  have f27 := f13.other W18 (Or.inr (slot_ne (Or.inl (own_u hw 47 rfl)) (Or.inl (own_u hw 12 rfl)) (by decide) rfl rfl))
  have f28 := f14.other W18 (Or.inr (slot_ne (Or.inl (own_u hw 49 rfl)) (Or.inl (own_u hw 12 rfl)) (by decide) rfl rfl))
  have f29 := f16.other W18 (Ne.symm ne3)
  have Kp30 := Kp15.wr W18 (Or.inl (List.mem_of_getElem? (i := 0) rfl))
  show own_H T18 12 #[.val (.ref a1), .val (.int c1)] []
  clear f4 f5 f6 f7 f8 f9 f10 f11 f12 f13 f14 f16 Kp15
  refine own_via (fun t k => XS.aloadN X18.here hx rfl (hb hby own_d1_12) rfl rfl k) ?_
  refine own_via (fun t k => XS.bipush X18.here hx rfl (hb hby own_d1_13) k) ?_
  show own_H T18 15 #[.val (.ref a1), .val (.int c1)] [(.int (16 : Int32)), (.ref a1)]
  obtain ⟨T32, h32, k32, b32, X32, e32, E32, ga32, V32, Ex32, st32⟩ := own_newA X18 hx hZ (own_u hw 10 rfl) e18 (pc := 15) (Ls := #[.val (.ref a1), .val (.int c1)]) (rest := [(.ref a1)]) (hb hby own_d1_15) (n := (16 : Int32)) (by decide) (cap := 16) (by decide) (by decide) (by decide) (by decide) 16 rfl
  refine own_via st32 ?_
  have sz_b32 : h0.size ≤ b32 := Nat.le_trans Kp30.1 (Nat.le_of_eq ga32.symm)
  have ne33 : a1 ≠ b32 := Nat.ne_of_lt (Nat.lt_of_lt_of_le f19.lt (Nat.le_of_eq ga32.symm))
  have ne34 : b2 ≠ b32 := Nat.ne_of_lt (Nat.lt_of_lt_of_le f29.lt (Nat.le_of_eq ga32.symm))
  have f35 := f19.ext E32
  have f36 := f20.ext E32
  have f37 := f21.ext E32
  have f38 := f22.ext E32
  have f39 := f23.ext E32
  have f40 := f24.ext E32
  have f41 := f25.ext E32
  have f42 := f26.ext E32
  have f43 := f27.ext E32
  have f44 := f28.ext E32
  have f45 := f29.ext E32
  have f46 := F18.ext E32
  have Kp47 := Kp30.ext E32
  have f48 : Arv Z h32 b32 k32 .int (16 : Int32) [(.int (0 : Int32)), (.int (0 : Int32)), (.int (0 : Int32)), (.int (0 : Int32)), (.int (0 : Int32)), (.int (0 : Int32)), (.int (0 : Int32)), (.int (0 : Int32)), (.int (0 : Int32)), (.int (0 : Int32)), (.int (0 : Int32)), (.int (0 : Int32)), (.int (0 : Int32)), (.int (0 : Int32)), (.int (0 : Int32)), (.int (0 : Int32))] (.int (0 : Int32)) := V32
  show own_H T32 17 #[.val (.ref a1), .val (.int c1)] [(.ref b32), (.ref a1)]
  clear f19 f20 f21 f22 f23 f24 f25 f26 f27 f28 f29 F18 Kp30
  obtain ⟨T50, h50, L50, X50, N50, e50, W50, F50, st50⟩ := own_putF X32 N18 hx hZ hown (own_u hw 13 rfl) e32 f36 f35 (Or.inl (own_u hw 14 rfl)) (own_u hw 2 rfl) g_a1 (ty := (.array .int)) (v := (.ref b32)) (by decide) rfl rfl (pc := 17) (Ls := #[.val (.ref a1), .val (.int c1)]) (rest := []) (hb hby own_d1_17)
  refine own_via st50 ?_
  have f51 := f35.wr W50
  have f52 := f37.other W50 (Or.inr (slot_ne (Or.inl (own_u hw 16 rfl)) (Or.inl (own_u hw 14 rfl)) (by decide) rfl rfl))
  have f53 := f38.other W50 (Or.inr (slot_ne (Or.inr (own_u hw 18 rfl)) (Or.inl (own_u hw 14 rfl)) (by decide) rfl rfl))
  have f54 := f39.other W50 (Or.inr (slot_ne (Or.inl (own_u hw 25 rfl)) (Or.inl (own_u hw 14 rfl)) (by decide) rfl rfl))
  have f55 := f40.other W50 (Or.inr (slot_ne (Or.inl (own_u hw 27 rfl)) (Or.inl (own_u hw 14 rfl)) (by decide) rfl rfl))
  have f56 := f41.other W50 (Or.inr (slot_ne (Or.inl (own_u hw 43 rfl)) (Or.inl (own_u hw 14 rfl)) (by decide) rfl rfl))
  have f57 := f42.other W50 (Or.inr (slot_ne (Or.inl (own_u hw 45 rfl)) (Or.inl (own_u hw 14 rfl)) (by decide) rfl rfl))
  have f58 := f43.other W50 (Or.inr (slot_ne (Or.inl (own_u hw 47 rfl)) (Or.inl (own_u hw 14 rfl)) (by decide) rfl rfl))
  have f59 := f44.other W50 (Or.inr (slot_ne (Or.inl (own_u hw 49 rfl)) (Or.inl (own_u hw 14 rfl)) (by decide) rfl rfl))
  have f60 := f45.other W50 (Ne.symm ne3)
  have f61 := f46.other W50 (Or.inr (slot_ne (Or.inl (own_u hw 12 rfl)) (Or.inl (own_u hw 14 rfl)) (by decide) rfl rfl))
  have f62 := f48.other W50 (Ne.symm ne33)
  have Kp63 := Kp47.wr W50 (Or.inl (List.mem_of_getElem? (i := 0) rfl))
  show own_H T50 20 #[.val (.ref a1), .val (.int c1)] []
  clear f35 f36 f37 f38 f39 f40 f41 f42 f43 f44 f45 f46 f48 Kp47
  refine own_via (fun t k => XS.aloadN X50.here hx rfl (hb hby own_d1_20) rfl rfl k) ?_
  refine own_via (fun t k => XS.bipush X50.here hx rfl (hb hby own_d1_21) k) ?_
  show own_H T50 23 #[.val (.ref a1), .val (.int c1)] [(.int (16 : Int32)), (.ref a1)]
  obtain ⟨T65, h65, k65, b65, X65, e65, E65, ga65, V65, Ex65, st65⟩ := own_newA X50 hx hZ (own_u hw 10 rfl) e50 (pc := 23) (Ls := #[.val (.ref a1), .val (.int c1)]) (rest := [(.ref a1)]) (hb hby own_d1_23) (n := (16 : Int32)) (by decide) (cap := 16) (by decide) (by decide) (by decide) (by decide) 16 rfl
  refine own_via st65 ?_
  have sz_b65 : h0.size ≤ b65 := Nat.le_trans Kp63.1 (Nat.le_of_eq ga65.symm)
  have ne66 : a1 ≠ b65 := Nat.ne_of_lt (Nat.lt_of_lt_of_le f51.lt (Nat.le_of_eq ga65.symm))
  have ne67 : b2 ≠ b65 := Nat.ne_of_lt (Nat.lt_of_lt_of_le f60.lt (Nat.le_of_eq ga65.symm))
  have ne68 : b32 ≠ b65 := Nat.ne_of_lt (Nat.lt_of_lt_of_le f62.lt (Nat.le_of_eq ga65.symm))
  have f69 := f51.ext E65
  have f70 := f52.ext E65
  have f71 := f53.ext E65
  have f72 := f54.ext E65
  have f73 := f55.ext E65
  have f74 := f56.ext E65
  have f75 := f57.ext E65
  have f76 := f58.ext E65
  have f77 := f59.ext E65
  have f78 := f60.ext E65
  have f79 := f61.ext E65
  have f80 := f62.ext E65
  have f81 := F50.ext E65
  have Kp82 := Kp63.ext E65
  have f83 : Arv Z h65 b65 k65 .int (16 : Int32) [(.int (0 : Int32)), (.int (0 : Int32)), (.int (0 : Int32)), (.int (0 : Int32)), (.int (0 : Int32)), (.int (0 : Int32)), (.int (0 : Int32)), (.int (0 : Int32)), (.int (0 : Int32)), (.int (0 : Int32)), (.int (0 : Int32)), (.int (0 : Int32)), (.int (0 : Int32)), (.int (0 : Int32)), (.int (0 : Int32)), (.int (0 : Int32))] (.int (0 : Int32)) := V65
  show own_H T65 25 #[.val (.ref a1), .val (.int c1)] [(.ref b65), (.ref a1)]
  clear f51 f52 f53 f54 f55 f56 f57 f58 f59 f60 f61 f62 F50 Kp63
  obtain ⟨T85, h85, L85, X85, N85, e85, W85, F85, st85⟩ := own_putF X65 N50 hx hZ hown (own_u hw 15 rfl) e65 f70 f69 (Or.inl (own_u hw 16 rfl)) (own_u hw 2 rfl) g_a1 (ty := (.array .int)) (v := (.ref b65)) (by decide) rfl rfl (pc := 25) (Ls := #[.val (.ref a1), .val (.int c1)]) (rest := []) (hb hby own_d1_25)
  refine own_via st85 ?_
  have f86 := f69.wr W85
  have f87 := f71.other W85 (Or.inr (slot_ne (Or.inr (own_u hw 18 rfl)) (Or.inl (own_u hw 16 rfl)) (by decide) rfl rfl))
  have f88 := f72.other W85 (Or.inr (slot_ne (Or.inl (own_u hw 25 rfl)) (Or.inl (own_u hw 16 rfl)) (by decide) rfl rfl))
  have f89 := f73.other W85 (Or.inr (slot_ne (Or.inl (own_u hw 27 rfl)) (Or.inl (own_u hw 16 rfl)) (by decide) rfl rfl))
  have f90 := f74.other W85 (Or.inr (slot_ne (Or.inl (own_u hw 43 rfl)) (Or.inl (own_u hw 16 rfl)) (by decide) rfl rfl))
  have f91 := f75.other W85 (Or.inr (slot_ne (Or.inl (own_u hw 45 rfl)) (Or.inl (own_u hw 16 rfl)) (by decide) rfl rfl))
  have f92 := f76.other W85 (Or.inr (slot_ne (Or.inl (own_u hw 47 rfl)) (Or.inl (own_u hw 16 rfl)) (by decide) rfl rfl))
  have f93 := f77.other W85 (Or.inr (slot_ne (Or.inl (own_u hw 49 rfl)) (Or.inl (own_u hw 16 rfl)) (by decide) rfl rfl))
  have f94 := f78.other W85 (Ne.symm ne3)
  have f95 := f79.other W85 (Or.inr (slot_ne (Or.inl (own_u hw 12 rfl)) (Or.inl (own_u hw 16 rfl)) (by decide) rfl rfl))
  have f96 := f80.other W85 (Ne.symm ne33)
  have f97 := f81.other W85 (Or.inr (slot_ne (Or.inl (own_u hw 14 rfl)) (Or.inl (own_u hw 16 rfl)) (by decide) rfl rfl))
  have f98 := f83.other W85 (Ne.symm ne66)
  have Kp99 := Kp82.wr W85 (Or.inl (List.mem_of_getElem? (i := 0) rfl))
  show own_H T85 28 #[.val (.ref a1), .val (.int c1)] []
  clear f69 f70 f71 f72 f73 f74 f75 f76 f77 f78 f79 f80 f81 f83 Kp82
  refine own_via (fun t k => XS.aloadN X85.here hx rfl (hb hby own_d1_28) rfl rfl k) ?_
  refine own_via (fun t k => XS.iloadN X85.here hx rfl (hb hby own_d1_29) rfl k) ?_
  show own_H T85 30 #[.val (.ref a1), .val (.int c1)] [(.int c1), (.ref a1)]
  obtain ⟨T101, h101, L101, X101, N101, e101, W101, F101, st101⟩ := own_putF X85 N85 hx hZ hown (own_u hw 17 rfl) e85 f87 f86 (Or.inr ⟨(own_u hw 18 rfl), rfl, hnm⟩) (own_u hw 2 rfl) g_a1 (ty := .int) (v := (.int c1)) (by decide) rfl rfl (pc := 30) (Ls := #[.val (.ref a1), .val (.int c1)]) (rest := []) (hb hby own_d1_30)
  refine own_via st101 ?_
  have f102 := f86.wr W101
  have f103 := f88.other W101 (Or.inr (slot_ne (Or.inl (own_u hw 25 rfl)) (Or.inr (own_u hw 18 rfl)) (by decide) rfl rfl))
  have f104 := f89.other W101 (Or.inr (slot_ne (Or.inl (own_u hw 27 rfl)) (Or.inr (own_u hw 18 rfl)) (by decide) rfl rfl))
  have f105 := f90.other W101 (Or.inr (slot_ne (Or.inl (own_u hw 43 rfl)) (Or.inr (own_u hw 18 rfl)) (by decide) rfl rfl))
  have f106 := f91.other W101 (Or.inr (slot_ne (Or.inl (own_u hw 45 rfl)) (Or.inr (own_u hw 18 rfl)) (by decide) rfl rfl))
  have f107 := f92.other W101 (Or.inr (slot_ne (Or.inl (own_u hw 47 rfl)) (Or.inr (own_u hw 18 rfl)) (by decide) rfl rfl))
  have f108 := f93.other W101 (Or.inr (slot_ne (Or.inl (own_u hw 49 rfl)) (Or.inr (own_u hw 18 rfl)) (by decide) rfl rfl))
  have f109 := f94.other W101 (Ne.symm ne3)
  have f110 := f95.other W101 (Or.inr (slot_ne (Or.inl (own_u hw 12 rfl)) (Or.inr (own_u hw 18 rfl)) (by decide) rfl rfl))
  have f111 := f96.other W101 (Ne.symm ne33)
  have f112 := f97.other W101 (Or.inr (slot_ne (Or.inl (own_u hw 14 rfl)) (Or.inr (own_u hw 18 rfl)) (by decide) rfl rfl))
  have f113 := f98.other W101 (Ne.symm ne66)
  have f114 := F85.other W101 (Or.inr (slot_ne (Or.inl (own_u hw 16 rfl)) (Or.inr (own_u hw 18 rfl)) (by decide) rfl rfl))
  have Kp115 := Kp99.wr W101 (Or.inl (List.mem_of_getElem? (i := 0) rfl))
  show own_H T101 33 #[.val (.ref a1), .val (.int c1)] []
  clear f86 f87 f88 f89 f90 f91 f92 f93 f94 f95 f96 f97 f98 F85 Kp99
  exact own_retV X101 hx Bd.returns Bd.notSynchronized (hb hby own_d1_33) (by rw [e101]; exact ⟨N101, b2, b32, b65, k2, k32, k65, rfl, Kp115, sz_b2, sz_b32, sz_b65, ne34, ne67, ne68, f102, f110, f112, f114, F101, f103, f104, f105, f106, f107, f108, f109, f111, f113⟩) (by decide) (by decide)
theorem own_d3_0 : decode prog_28_method_2_code 0 = .ok (.aload_n 0, 1) := by decide +kernel
theorem own_d3_1 : decode prog_28_method_2_code 1 = .ok (.getfield 25, 3) := by decide +kernel
theorem own_d3_4 : decode prog_28_method_2_code 4 = .ok (.ifnull 13, 3) := by decide +kernel
theorem own_d3_17 : decode prog_28_method_2_code 17 = .ok (.aload_n 0, 1) := by decide +kernel
theorem own_d3_18 : decode prog_28_method_2_code 18 = .ok (.getfield 35, 3) := by decide +kernel
theorem own_d3_21 : decode prog_28_method_2_code 21 = .ok (.aload_n 0, 1) := by decide +kernel
theorem own_d3_22 : decode prog_28_method_2_code 22 = .ok (.getfield 9, 3) := by decide +kernel
theorem own_d3_25 : decode prog_28_method_2_code 25 = .ok (.arraylength, 1) := by decide +kernel
theorem own_d3_26 : decode prog_28_method_2_code 26 = .ok (.if_icmp .ne 54, 3) := by decide +kernel
theorem own_d3_80 : decode prog_28_method_2_code 80 = .ok (.aload_n 0, 1) := by decide +kernel
theorem own_d3_81 : decode prog_28_method_2_code 81 = .ok (.getfield 9, 3) := by decide +kernel
theorem own_d3_84 : decode prog_28_method_2_code 84 = .ok (.aload_n 0, 1) := by decide +kernel
theorem own_d3_85 : decode prog_28_method_2_code 85 = .ok (.getfield 35, 3) := by decide +kernel
theorem own_d3_88 : decode prog_28_method_2_code 88 = .ok (.iload_n 1, 1) := by decide +kernel
theorem own_d3_89 : decode prog_28_method_2_code 89 = .ok (.iastore, 1) := by decide +kernel
theorem own_d3_90 : decode prog_28_method_2_code 90 = .ok (.aload_n 0, 1) := by decide +kernel
theorem own_d3_91 : decode prog_28_method_2_code 91 = .ok (.getfield 15, 3) := by decide +kernel
theorem own_d3_94 : decode prog_28_method_2_code 94 = .ok (.aload_n 0, 1) := by decide +kernel
theorem own_d3_95 : decode prog_28_method_2_code 95 = .ok (.getfield 35, 3) := by decide +kernel
theorem own_d3_98 : decode prog_28_method_2_code 98 = .ok (.iload_n 2, 1) := by decide +kernel
theorem own_d3_99 : decode prog_28_method_2_code 99 = .ok (.iastore, 1) := by decide +kernel
theorem own_d3_100 : decode prog_28_method_2_code 100 = .ok (.aload_n 0, 1) := by decide +kernel
theorem own_d3_101 : decode prog_28_method_2_code 101 = .ok (.getfield 18, 3) := by decide +kernel
theorem own_d3_104 : decode prog_28_method_2_code 104 = .ok (.aload_n 0, 1) := by decide +kernel
theorem own_d3_105 : decode prog_28_method_2_code 105 = .ok (.getfield 35, 3) := by decide +kernel
theorem own_d3_108 : decode prog_28_method_2_code 108 = .ok (.iload_n 3, 1) := by decide +kernel
theorem own_d3_109 : decode prog_28_method_2_code 109 = .ok (.ldc 44, 2) := by decide +kernel
theorem own_d3_111 : decode prog_28_method_2_code 111 = .ok (.invokestatic 45, 3) := by decide +kernel
theorem own_d3_114 : decode prog_28_method_2_code 114 = .ok (.iastore, 1) := by decide +kernel
theorem own_d3_115 : decode prog_28_method_2_code 115 = .ok (.aload_n 0, 1) := by decide +kernel
theorem own_d3_116 : decode prog_28_method_2_code 116 = .ok (.dup, 1) := by decide +kernel
theorem own_d3_117 : decode prog_28_method_2_code 117 = .ok (.getfield 35, 3) := by decide +kernel
theorem own_d3_120 : decode prog_28_method_2_code 120 = .ok (.dup_x1, 1) := by decide +kernel
theorem own_d3_121 : decode prog_28_method_2_code 121 = .ok (.iconst 1, 1) := by decide +kernel
theorem own_d3_122 : decode prog_28_method_2_code 122 = .ok (.iadd, 1) := by decide +kernel
theorem own_d3_123 : decode prog_28_method_2_code 123 = .ok (.putfield 35, 3) := by decide +kernel
theorem own_d3_126 : decode prog_28_method_2_code 126 = .ok (.ireturn, 1) := by decide +kernel
abbrev own_ae0_R : Room := { frames := 1, cells := 0, slots := 0, locals := 15 }
theorem own_pn3 : plainFor (⟨"com/example/dissoc/dissoc/mincut/FlowNetwork", "addEdge", "(III)I"⟩ : MethodName) = true := plainFor_of_name (by first | (simp [plainName, overriddenIn]; done) | decide +kernel)
theorem own_ae0_ef (m : MethodId) (a1 : Addr) (t9 : Int32) (h9 : Int32) : entryFrame m #[(.ref a1), (.int t9), (.int h9), (.int (1 : Int32))] 4 = mkF m 0 #[.val (.ref a1), .val (.int t9), .val (.int h9), .val (.int (1 : Int32))] [] := by first | (simp [entryFrame, mkF, argsToLocals, Value.category]; done) | rfl
def own_ae0_q (Z : State) (a1 : Addr) (t9 : Int32) (h9 : Int32) (c1 : Int32) (fb : Addr) (tb : Addr) (cb : Addr) (k_fb : ClassId) (k_tb : ClassId) (k_cb : ClassId) (h0 : Heap) (v : Option Value) (h : Heap) : Prop := v = some (.int (0 : Int32)) ∧ Keep h0 h [a1, fb, tb, cb] ∧ Exa Z h a1 own_cN ∧ Fld Z h a1 own_cN "from" "[I" (.ref fb) ∧ Fld Z h a1 own_cN "to" "[I" (.ref tb) ∧ Fld Z h a1 own_cN "capacity" "[I" (.ref cb) ∧ Fld Z h a1 own_cN "nodes" "I" (.int c1) ∧ Fld Z h a1 own_cN "firstArc" "[I" .null ∧ Fld Z h a1 own_cN "edges" "I" (.int (1 : Int32)) ∧ Fld Z h a1 own_cN "target" "[I" .null ∧ Fld Z h a1 own_cN "edgeAt" "[I" .null ∧ Fld Z h a1 own_cN "reverse" "[I" .null ∧ Fld Z h a1 own_cN "forward" "[I" .null ∧ Arv Z h fb k_fb .int (16 : Int32) [(.int t9), (.int (0 : Int32)), (.int (0 : Int32)), (.int (0 : Int32)), (.int (0 : Int32)), (.int (0 : Int32)), (.int (0 : Int32)), (.int (0 : Int32)), (.int (0 : Int32)), (.int (0 : Int32)), (.int (0 : Int32)), (.int (0 : Int32)), (.int (0 : Int32)), (.int (0 : Int32)), (.int (0 : Int32)), (.int (0 : Int32))] (.int (0 : Int32)) ∧ Arv Z h tb k_tb .int (16 : Int32) [(.int h9), (.int (0 : Int32)), (.int (0 : Int32)), (.int (0 : Int32)), (.int (0 : Int32)), (.int (0 : Int32)), (.int (0 : Int32)), (.int (0 : Int32)), (.int (0 : Int32)), (.int (0 : Int32)), (.int (0 : Int32)), (.int (0 : Int32)), (.int (0 : Int32)), (.int (0 : Int32)), (.int (0 : Int32)), (.int (0 : Int32))] (.int (0 : Int32)) ∧ Arv Z h cb k_cb .int (16 : Int32) [(.int (own_F4 (1 : Int32) (536870911 : Int32))), (.int (0 : Int32)), (.int (0 : Int32)), (.int (0 : Int32)), (.int (0 : Int32)), (.int (0 : Int32)), (.int (0 : Int32)), (.int (0 : Int32)), (.int (0 : Int32)), (.int (0 : Int32)), (.int (0 : Int32)), (.int (0 : Int32)), (.int (0 : Int32)), (.int (0 : Int32)), (.int (0 : Int32)), (.int (0 : Int32))] (.int (0 : Int32))
set_option maxRecDepth 65536 in
set_option maxHeartbeats 40000000 in
theorem own_ae0 (l : Launch) (Z : State) (a0 : Array Value) (hw : ∀ d ∈ tables_1, d.before a0 Z = true) (ws : List Jvm.Cond) (a1 : Addr) (t9 : Int32) (h9 : Int32) (c1 : Int32) (fb : Addr) (tb : Addr) (cb : Addr) (k_fb : ClassId) (k_tb : ClassId) (k_cb : ClassId) (h0 : Heap) (n0 : Nat) (Z0 : n0 ≤ h0.size) (i_En : Exa Z h0 a1 own_cN) (i_N_from : Fld Z h0 a1 own_cN "from" "[I" (.ref fb)) (i_N_to : Fld Z h0 a1 own_cN "to" "[I" (.ref tb)) (i_N_capacity : Fld Z h0 a1 own_cN "capacity" "[I" (.ref cb)) (i_N_nodes : Fld Z h0 a1 own_cN "nodes" "I" (.int c1)) (i_N_firstArc : Fld Z h0 a1 own_cN "firstArc" "[I" .null) (i_N_edges : Fld Z h0 a1 own_cN "edges" "I" (.int (0 : Int32))) (i_N_target : Fld Z h0 a1 own_cN "target" "[I" .null) (i_N_edgeAt : Fld Z h0 a1 own_cN "edgeAt" "[I" .null) (i_N_reverse : Fld Z h0 a1 own_cN "reverse" "[I" .null) (i_N_forward : Fld Z h0 a1 own_cN "forward" "[I" .null) (i_Afb : Arv Z h0 fb k_fb .int (16 : Int32) [(.int (0 : Int32)), (.int (0 : Int32)), (.int (0 : Int32)), (.int (0 : Int32)), (.int (0 : Int32)), (.int (0 : Int32)), (.int (0 : Int32)), (.int (0 : Int32)), (.int (0 : Int32)), (.int (0 : Int32)), (.int (0 : Int32)), (.int (0 : Int32)), (.int (0 : Int32)), (.int (0 : Int32)), (.int (0 : Int32)), (.int (0 : Int32))] (.int (0 : Int32))) (i_Atb : Arv Z h0 tb k_tb .int (16 : Int32) [(.int (0 : Int32)), (.int (0 : Int32)), (.int (0 : Int32)), (.int (0 : Int32)), (.int (0 : Int32)), (.int (0 : Int32)), (.int (0 : Int32)), (.int (0 : Int32)), (.int (0 : Int32)), (.int (0 : Int32)), (.int (0 : Int32)), (.int (0 : Int32)), (.int (0 : Int32)), (.int (0 : Int32)), (.int (0 : Int32)), (.int (0 : Int32))] (.int (0 : Int32))) (i_Acb : Arv Z h0 cb k_cb .int (16 : Int32) [(.int (0 : Int32)), (.int (0 : Int32)), (.int (0 : Int32)), (.int (0 : Int32)), (.int (0 : Int32)), (.int (0 : Int32)), (.int (0 : Int32)), (.int (0 : Int32)), (.int (0 : Int32)), (.int (0 : Int32)), (.int (0 : Int32)), (.int (0 : Int32)), (.int (0 : Int32)), (.int (0 : Int32)), (.int (0 : Int32)), (.int (0 : Int32))] (.int (0 : Int32))) (g_a1 : n0 ≤ a1) (g_fb : n0 ≤ fb) (g_tb : n0 ≤ tb) (g_cb : n0 ≤ cb) (ne_a1_fb : a1 ≠ fb) (ne_a1_tb : a1 ≠ tb) (ne_a1_cb : a1 ≠ cb) (ne_fb_tb : fb ≠ tb) (ne_fb_cb : fb ≠ cb) (ne_tb_cb : tb ≠ cb) :
    own_C l Z (⟨"com/example/dissoc/dissoc/mincut/FlowNetwork", "addEdge", "(III)I"⟩ : MethodName) prog_28_method_2_code 4 (some .int) ws own_ae0_R #[(.ref a1), (.int t9), (.int h9), (.int (1 : Int32))] h0 (own_W n0 (own_ae0_q Z a1 t9 h9 c1 fb tb cb k_fb k_tb k_cb h0)) := by
  refine MetFree.of_bodySF own_pn3 hisR ?_
  intro p e s m args below meth c s₁ Bd hml0 hP hK
  obtain ⟨rfl, hZ, hh⟩ := hP
  have hx := Bd.exec
  have hby := Bd.bytes
  have hml : c.maxLocals = 4 := hml0
  have hown : s.vm.findClass "com/example/dissoc/dissoc/mincut/FlowNetwork" = some m.cls := findClass_of_methodNamed Bd.named
  have hnm := (name_of_methodNamed Bd.named Bd.method).1
  have X0 : Stand p l e own_ae0_R s m #[(.ref a1), (.int t9), (.int h9), (.int (1 : Int32))] below meth c s₁ [] 0 0 := Stand.of_body Bd
  have e0 : s₁.heap = h0 := by rw [← hh, Bd.state]; rfl
  have N0 := Fr.nil n0
  have K0 : Keep h0 h0 [a1, fb, tb, cb] := Keep.refl h0 _
  show own_G p e below (own_P s (own_W n0 (own_ae0_q Z a1 t9 h9 c1 fb tb cb k_fb k_tb k_cb h0)) own_ae0_R.cells own_ae0_R.slots) (s₁.setTop (entryFrame m #[(.ref a1), (.int t9), (.int h9), (.int (1 : Int32))] 4))
  rw [own_ae0_ef m a1 t9 h9]
  show own_H s₁ 0 #[.val (.ref a1), .val (.int t9), .val (.int h9), .val (.int (1 : Int32))] []
  refine own_via (fun t k => XS.aloadN X0.here hx rfl (hb hby own_d3_0) rfl rfl k) ?_
  show own_H s₁ 1 #[.val (.ref a1), .val (.int t9), .val (.int h9), .val (.int (1 : Int32))] [(.ref a1)]
  obtain ⟨T1, X1, e1, st1⟩ := getF X0 hx hZ hown (host := "") (Or.inl (own_u hw 24 rfl)) Via.refl e0 i_N_firstArc (g := (mkF m 1 #[.val (.ref a1), .val (.int t9), .val (.int h9), .val (.int (1 : Int32))] [(.ref a1)])) rfl rfl (hb hby own_d3_1)
  refine own_via st1 ?_
  show own_H T1 4 #[.val (.ref a1), .val (.int t9), .val (.int h9), .val (.int (1 : Int32))] [.null]
  refine own_via (fun t k => XS.ifnullYes X1.here hx rfl (pc0 := 4) (pc' := 17) rfl (hb hby own_d3_4) rfl (by decide) (by decide) k) ?_
  show own_H T1 17 #[.val (.ref a1), .val (.int t9), .val (.int h9), .val (.int (1 : Int32))] []
  refine own_via (fun t k => XS.aloadN X1.here hx rfl (hb hby own_d3_17) rfl rfl k) ?_
  show own_H T1 18 #[.val (.ref a1), .val (.int t9), .val (.int h9), .val (.int (1 : Int32))] [(.ref a1)]
  obtain ⟨T2, X2, e2, st2⟩ := getF X1 hx hZ hown (host := "") (Or.inl (own_u hw 26 rfl)) Via.refl e1 i_N_edges (g := (mkF m 18 #[.val (.ref a1), .val (.int t9), .val (.int h9), .val (.int (1 : Int32))] [(.ref a1)])) rfl rfl (hb hby own_d3_18)
  refine own_via st2 ?_
  show own_H T2 21 #[.val (.ref a1), .val (.int t9), .val (.int h9), .val (.int (1 : Int32))] [(.int (0 : Int32))]
  refine own_via (fun t k => XS.aloadN X2.here hx rfl (hb hby own_d3_21) rfl rfl k) ?_
  show own_H T2 22 #[.val (.ref a1), .val (.int t9), .val (.int h9), .val (.int (1 : Int32))] [(.ref a1), (.int (0 : Int32))]
  obtain ⟨T3, X3, e3, st3⟩ := getF X2 hx hZ hown (host := "") (Or.inl (own_u hw 11 rfl)) Via.refl e2 i_N_from (g := (mkF m 22 #[.val (.ref a1), .val (.int t9), .val (.int h9), .val (.int (1 : Int32))] [(.ref a1), (.int (0 : Int32))])) rfl rfl (hb hby own_d3_22)
  refine own_via st3 ?_
  show own_H T3 25 #[.val (.ref a1), .val (.int t9), .val (.int h9), .val (.int (1 : Int32))] [(.ref fb), (.int (0 : Int32))]
  refine own_via (own_len X3 hx hZ e3 i_Afb (pc := 25) (Ls := #[.val (.ref a1), .val (.int t9), .val (.int h9), .val (.int (1 : Int32))]) (rest := [(.int (0 : Int32))]) (hb hby own_d3_25)) ?_
  show own_H T3 26 #[.val (.ref a1), .val (.int t9), .val (.int h9), .val (.int (1 : Int32))] [(.int (16 : Int32)), (.int (0 : Int32))]
  refine own_via (fun t k => XS.icmpYes X3.here hx rfl (pc0 := 26) (pc' := 80) rfl (hb hby own_d3_26) rfl (feq (by decide : ¬ ((0 : Int32) = (16 : Int32)))).2 (by decide) (by decide) k) ?_
  show own_H T3 80 #[.val (.ref a1), .val (.int t9), .val (.int h9), .val (.int (1 : Int32))] []
  refine own_via (fun t k => XS.aloadN X3.here hx rfl (hb hby own_d3_80) rfl rfl k) ?_
  show own_H T3 81 #[.val (.ref a1), .val (.int t9), .val (.int h9), .val (.int (1 : Int32))] [(.ref a1)]
  obtain ⟨T4, X4, e4, st4⟩ := getF X3 hx hZ hown (host := "") (Or.inl (own_u hw 11 rfl)) Via.refl e3 i_N_from (g := (mkF m 81 #[.val (.ref a1), .val (.int t9), .val (.int h9), .val (.int (1 : Int32))] [(.ref a1)])) rfl rfl (hb hby own_d3_81)
  refine own_via st4 ?_
  show own_H T4 84 #[.val (.ref a1), .val (.int t9), .val (.int h9), .val (.int (1 : Int32))] [(.ref fb)]
  refine own_via (fun t k => XS.aloadN X4.here hx rfl (hb hby own_d3_84) rfl rfl k) ?_
  show own_H T4 85 #[.val (.ref a1), .val (.int t9), .val (.int h9), .val (.int (1 : Int32))] [(.ref a1), (.ref fb)]
  obtain ⟨T5, X5, e5, st5⟩ := getF X4 hx hZ hown (host := "") (Or.inl (own_u hw 26 rfl)) Via.refl e4 i_N_edges (g := (mkF m 85 #[.val (.ref a1), .val (.int t9), .val (.int h9), .val (.int (1 : Int32))] [(.ref a1), (.ref fb)])) rfl rfl (hb hby own_d3_85)
  refine own_via st5 ?_
  show own_H T5 88 #[.val (.ref a1), .val (.int t9), .val (.int h9), .val (.int (1 : Int32))] [(.int (0 : Int32)), (.ref fb)]
  refine own_via (fun t k => XS.iloadN X5.here hx rfl (hb hby own_d3_88) rfl k) ?_
  show own_H T5 89 #[.val (.ref a1), .val (.int t9), .val (.int h9), .val (.int (1 : Int32))] [(.int t9), (.int (0 : Int32)), (.ref fb)]
  obtain ⟨T6, h6, L6, X6, N6, e6, W6, V6, st6⟩ := own_stI X5 N0 hx hZ e5 i_Afb g_fb (j := (0 : Int32)) (x := t9) (i := 0) ⟨by decide, by decide⟩ rfl (Nat.le_of_ble_eq_true rfl) (pc := 89) (Ls := #[.val (.ref a1), .val (.int t9), .val (.int h9), .val (.int (1 : Int32))]) (rest := []) (hb hby own_d3_89)
  refine own_via st6 ?_
  have f7 := i_En.wr W6
  have f8 := i_N_from.other W6 (Or.inl ne_a1_fb)
  have f9 := i_N_to.other W6 (Or.inl ne_a1_fb)
  have f10 := i_N_capacity.other W6 (Or.inl ne_a1_fb)
  have f11 := i_N_nodes.other W6 (Or.inl ne_a1_fb)
  have f12 := i_N_firstArc.other W6 (Or.inl ne_a1_fb)
  have f13 := i_N_edges.other W6 (Or.inl ne_a1_fb)
  have f14 := i_N_target.other W6 (Or.inl ne_a1_fb)
  have f15 := i_N_edgeAt.other W6 (Or.inl ne_a1_fb)
  have f16 := i_N_reverse.other W6 (Or.inl ne_a1_fb)
  have f17 := i_N_forward.other W6 (Or.inl ne_a1_fb)
  have f18 := i_Atb.other W6 (Ne.symm ne_fb_tb)
  have f19 := i_Acb.other W6 (Ne.symm ne_fb_cb)
  have Kp20 := K0.wr W6 (Or.inl (List.mem_of_getElem? (i := 1) rfl))
  have f21 : Arv Z h6 fb k_fb .int (16 : Int32) [(.int t9), (.int (0 : Int32)), (.int (0 : Int32)), (.int (0 : Int32)), (.int (0 : Int32)), (.int (0 : Int32)), (.int (0 : Int32)), (.int (0 : Int32)), (.int (0 : Int32)), (.int (0 : Int32)), (.int (0 : Int32)), (.int (0 : Int32)), (.int (0 : Int32)), (.int (0 : Int32)), (.int (0 : Int32)), (.int (0 : Int32))] (.int (0 : Int32)) := V6
  show own_H T6 90 #[.val (.ref a1), .val (.int t9), .val (.int h9), .val (.int (1 : Int32))] []
  clear i_En i_N_from i_N_to i_N_capacity i_N_nodes i_N_firstArc i_N_edges i_N_target i_N_edgeAt i_N_reverse i_N_forward i_Afb i_Atb i_Acb K0
  refine own_via (fun t k => XS.aloadN X6.here hx rfl (hb hby own_d3_90) rfl rfl k) ?_
  show own_H T6 91 #[.val (.ref a1), .val (.int t9), .val (.int h9), .val (.int (1 : Int32))] [(.ref a1)]
  obtain ⟨T23, X23, e23, st23⟩ := getF X6 hx hZ hown (host := "") (Or.inl (own_u hw 13 rfl)) Via.refl e6 f9 (g := (mkF m 91 #[.val (.ref a1), .val (.int t9), .val (.int h9), .val (.int (1 : Int32))] [(.ref a1)])) rfl rfl (hb hby own_d3_91)
  refine own_via st23 ?_
  show own_H T23 94 #[.val (.ref a1), .val (.int t9), .val (.int h9), .val (.int (1 : Int32))] [(.ref tb)]
  refine own_via (fun t k => XS.aloadN X23.here hx rfl (hb hby own_d3_94) rfl rfl k) ?_
  show own_H T23 95 #[.val (.ref a1), .val (.int t9), .val (.int h9), .val (.int (1 : Int32))] [(.ref a1), (.ref tb)]
  obtain ⟨T24, X24, e24, st24⟩ := getF X23 hx hZ hown (host := "") (Or.inl (own_u hw 26 rfl)) Via.refl e23 f13 (g := (mkF m 95 #[.val (.ref a1), .val (.int t9), .val (.int h9), .val (.int (1 : Int32))] [(.ref a1), (.ref tb)])) rfl rfl (hb hby own_d3_95)
  refine own_via st24 ?_
  show own_H T24 98 #[.val (.ref a1), .val (.int t9), .val (.int h9), .val (.int (1 : Int32))] [(.int (0 : Int32)), (.ref tb)]
  refine own_via (fun t k => XS.iloadN X24.here hx rfl (hb hby own_d3_98) rfl k) ?_
  show own_H T24 99 #[.val (.ref a1), .val (.int t9), .val (.int h9), .val (.int (1 : Int32))] [(.int h9), (.int (0 : Int32)), (.ref tb)]
  obtain ⟨T25, h25, L25, X25, N25, e25, W25, V25, st25⟩ := own_stI X24 N6 hx hZ e24 f18 g_tb (j := (0 : Int32)) (x := h9) (i := 0) ⟨by decide, by decide⟩ rfl (Nat.le_of_ble_eq_true rfl) (pc := 99) (Ls := #[.val (.ref a1), .val (.int t9), .val (.int h9), .val (.int (1 : Int32))]) (rest := []) (hb hby own_d3_99)
  refine own_via st25 ?_
  have f26 := f7.wr W25
  have f27 := f8.other W25 (Or.inl ne_a1_tb)
  have f28 := f9.other W25 (Or.inl ne_a1_tb)
  have f29 := f10.other W25 (Or.inl ne_a1_tb)
  have f30 := f11.other W25 (Or.inl ne_a1_tb)
  have f31 := f12.other W25 (Or.inl ne_a1_tb)
  have f32 := f13.other W25 (Or.inl ne_a1_tb)
  have f33 := f14.other W25 (Or.inl ne_a1_tb)
  have f34 := f15.other W25 (Or.inl ne_a1_tb)
  have f35 := f16.other W25 (Or.inl ne_a1_tb)
  have f36 := f17.other W25 (Or.inl ne_a1_tb)
  have f37 := f19.other W25 (Ne.symm ne_tb_cb)
  have f38 := f21.other W25 ne_fb_tb
  have Kp39 := Kp20.wr W25 (Or.inl (List.mem_of_getElem? (i := 2) rfl))
  have f40 : Arv Z h25 tb k_tb .int (16 : Int32) [(.int h9), (.int (0 : Int32)), (.int (0 : Int32)), (.int (0 : Int32)), (.int (0 : Int32)), (.int (0 : Int32)), (.int (0 : Int32)), (.int (0 : Int32)), (.int (0 : Int32)), (.int (0 : Int32)), (.int (0 : Int32)), (.int (0 : Int32)), (.int (0 : Int32)), (.int (0 : Int32)), (.int (0 : Int32)), (.int (0 : Int32))] (.int (0 : Int32)) := V25
  show own_H T25 100 #[.val (.ref a1), .val (.int t9), .val (.int h9), .val (.int (1 : Int32))] []
  clear f7 f8 f9 f10 f11 f12 f13 f14 f15 f16 f17 f18 f19 f21 Kp20
  refine own_via (fun t k => XS.aloadN X25.here hx rfl (hb hby own_d3_100) rfl rfl k) ?_
  show own_H T25 101 #[.val (.ref a1), .val (.int t9), .val (.int h9), .val (.int (1 : Int32))] [(.ref a1)]
  obtain ⟨T42, X42, e42, st42⟩ := getF X25 hx hZ hown (host := "") (Or.inl (own_u hw 15 rfl)) Via.refl e25 f29 (g := (mkF m 101 #[.val (.ref a1), .val (.int t9), .val (.int h9), .val (.int (1 : Int32))] [(.ref a1)])) rfl rfl (hb hby own_d3_101)
  refine own_via st42 ?_
  show own_H T42 104 #[.val (.ref a1), .val (.int t9), .val (.int h9), .val (.int (1 : Int32))] [(.ref cb)]
  refine own_via (fun t k => XS.aloadN X42.here hx rfl (hb hby own_d3_104) rfl rfl k) ?_
  show own_H T42 105 #[.val (.ref a1), .val (.int t9), .val (.int h9), .val (.int (1 : Int32))] [(.ref a1), (.ref cb)]
  obtain ⟨T43, X43, e43, st43⟩ := getF X42 hx hZ hown (host := "") (Or.inl (own_u hw 26 rfl)) Via.refl e42 f32 (g := (mkF m 105 #[.val (.ref a1), .val (.int t9), .val (.int h9), .val (.int (1 : Int32))] [(.ref a1), (.ref cb)])) rfl rfl (hb hby own_d3_105)
  refine own_via st43 ?_
  show own_H T43 108 #[.val (.ref a1), .val (.int t9), .val (.int h9), .val (.int (1 : Int32))] [(.int (0 : Int32)), (.ref cb)]
  refine own_via (fun t k => XS.iloadN X43.here hx rfl (hb hby own_d3_108) rfl k) ?_
  show own_H T43 109 #[.val (.ref a1), .val (.int t9), .val (.int h9), .val (.int (1 : Int32))] [(.int (1 : Int32)), (.int (0 : Int32)), (.ref cb)]
  refine own_via (X43.ldcInt hx hown (mvT hZ (own_u hw 28 rfl)) (g := (mkF m 109 #[.val (.ref a1), .val (.int t9), .val (.int h9), .val (.int (1 : Int32))] [(.int (1 : Int32)), (.int (0 : Int32)), (.ref cb)])) rfl (hb hby own_d3_109)) ?_
  show own_H T43 111 #[.val (.ref a1), .val (.int t9), .val (.int h9), .val (.int (1 : Int32))] [(.int (536870911 : Int32)), (.int (1 : Int32)), (.int (0 : Int32)), (.ref cb)]
  obtain ⟨T44, X44, e44, st44⟩ := own_callP (y := (⟨"java/lang/Math", "min", "(II)I"⟩ : MethodName)) (W := 2) X43 hx hZ hown (own_u hw 29 rfl) (own_u hw 30 rfl) (own_u hw 31 rfl) (own_u hw 32 rfl) (by decide) (own_rm4 l Z a0 hw [] (1 : Int32) (536870911 : Int32) h25) (by decide) (by decide) rfl rfl (by decide) (by decide) e43 (pc := 111) (Ls := #[.val (.ref a1), .val (.int t9), .val (.int h9), .val (.int (1 : Int32))]) (st := [(.int (536870911 : Int32)), (.int (1 : Int32)), (.int (0 : Int32)), (.ref cb)]) (argsL := [(.int (1 : Int32)), (.int (536870911 : Int32))]) (rest := [(.int (0 : Int32)), (.ref cb)]) (by rw [hml]; rfl) (lenOf own_pd7 rfl) rfl rfl (Nat.le_of_eq rfl) (hb hby own_d3_111)
  refine own_via st44 ?_
  show own_H T44 114 #[.val (.ref a1), .val (.int t9), .val (.int h9), .val (.int (1 : Int32))] [(.int (own_F4 (1 : Int32) (536870911 : Int32))), (.int (0 : Int32)), (.ref cb)]
  obtain ⟨T45, h45, L45, X45, N45, e45, W45, V45, st45⟩ := own_stI X44 N25 hx hZ e44 f37 g_cb (j := (0 : Int32)) (x := (own_F4 (1 : Int32) (536870911 : Int32))) (i := 0) ⟨by decide, by decide⟩ rfl (Nat.le_of_ble_eq_true rfl) (pc := 114) (Ls := #[.val (.ref a1), .val (.int t9), .val (.int h9), .val (.int (1 : Int32))]) (rest := []) (hb hby own_d3_114)
  refine own_via st45 ?_
  have f46 := f26.wr W45
  have f47 := f27.other W45 (Or.inl ne_a1_cb)
  have f48 := f28.other W45 (Or.inl ne_a1_cb)
  have f49 := f29.other W45 (Or.inl ne_a1_cb)
  have f50 := f30.other W45 (Or.inl ne_a1_cb)
  have f51 := f31.other W45 (Or.inl ne_a1_cb)
  have f52 := f32.other W45 (Or.inl ne_a1_cb)
  have f53 := f33.other W45 (Or.inl ne_a1_cb)
  have f54 := f34.other W45 (Or.inl ne_a1_cb)
  have f55 := f35.other W45 (Or.inl ne_a1_cb)
  have f56 := f36.other W45 (Or.inl ne_a1_cb)
  have f57 := f38.other W45 ne_fb_cb
  have f58 := f40.other W45 ne_tb_cb
  have Kp59 := Kp39.wr W45 (Or.inl (List.mem_of_getElem? (i := 3) rfl))
  have f60 : Arv Z h45 cb k_cb .int (16 : Int32) [(.int (own_F4 (1 : Int32) (536870911 : Int32))), (.int (0 : Int32)), (.int (0 : Int32)), (.int (0 : Int32)), (.int (0 : Int32)), (.int (0 : Int32)), (.int (0 : Int32)), (.int (0 : Int32)), (.int (0 : Int32)), (.int (0 : Int32)), (.int (0 : Int32)), (.int (0 : Int32)), (.int (0 : Int32)), (.int (0 : Int32)), (.int (0 : Int32)), (.int (0 : Int32))] (.int (0 : Int32)) := V45
  show own_H T45 115 #[.val (.ref a1), .val (.int t9), .val (.int h9), .val (.int (1 : Int32))] []
  clear f26 f27 f28 f29 f30 f31 f32 f33 f34 f35 f36 f37 f38 f40 Kp39
  refine own_via (fun t k => XS.aloadN X45.here hx rfl (hb hby own_d3_115) rfl rfl k) ?_
  refine own_via (fun t k => XS.dup X45.here hx rfl (hb hby own_d3_116) rfl rfl k) ?_
  show own_H T45 117 #[.val (.ref a1), .val (.int t9), .val (.int h9), .val (.int (1 : Int32))] [(.ref a1), (.ref a1)]
  obtain ⟨T62, X62, e62, st62⟩ := getF X45 hx hZ hown (host := "") (Or.inl (own_u hw 26 rfl)) Via.refl e45 f52 (g := (mkF m 117 #[.val (.ref a1), .val (.int t9), .val (.int h9), .val (.int (1 : Int32))] [(.ref a1), (.ref a1)])) rfl rfl (hb hby own_d3_117)
  refine own_via st62 ?_
  show own_H T62 120 #[.val (.ref a1), .val (.int t9), .val (.int h9), .val (.int (1 : Int32))] [(.int (0 : Int32)), (.ref a1)]
  refine own_via (fun t k => XS.dupX1 X62.here hx rfl (hb hby own_d3_120) rfl rfl rfl k) ?_
  refine own_via (fun t k => XS.iconst X62.here hx rfl (hb hby own_d3_121) k) ?_
  show own_H T62 122 #[.val (.ref a1), .val (.int t9), .val (.int h9), .val (.int (1 : Int32))] [(.int (1 : Int32)), (.int (0 : Int32)), (.ref a1), (.int (0 : Int32))]
  refine own_via (fun t k => XS.iadd X62.here hx rfl (hb hby own_d3_122) rfl k) ?_
  show own_H T62 123 #[.val (.ref a1), .val (.int t9), .val (.int h9), .val (.int (1 : Int32))] [(.int (1 : Int32)), (.ref a1), (.int (0 : Int32))]
  obtain ⟨T63, h63, L63, X63, N63, e63, W63, F63, st63⟩ := own_putF X62 N45 hx hZ hown (own_u hw 26 rfl) e62 f52 f46 (Or.inl (own_u hw 27 rfl)) (own_u hw 2 rfl) g_a1 (ty := .int) (v := (.int (1 : Int32))) (by decide) rfl rfl (pc := 123) (Ls := #[.val (.ref a1), .val (.int t9), .val (.int h9), .val (.int (1 : Int32))]) (rest := [(.int (0 : Int32))]) (hb hby own_d3_123)
  refine own_via st63 ?_
  have f64 := f46.wr W63
  have f65 := f47.other W63 (Or.inr (slot_ne (Or.inl (own_u hw 12 rfl)) (Or.inl (own_u hw 27 rfl)) (by decide) rfl rfl))
  have f66 := f48.other W63 (Or.inr (slot_ne (Or.inl (own_u hw 14 rfl)) (Or.inl (own_u hw 27 rfl)) (by decide) rfl rfl))
  have f67 := f49.other W63 (Or.inr (slot_ne (Or.inl (own_u hw 16 rfl)) (Or.inl (own_u hw 27 rfl)) (by decide) rfl rfl))
  have f68 := f50.other W63 (Or.inr (slot_ne (Or.inr (own_u hw 18 rfl)) (Or.inl (own_u hw 27 rfl)) (by decide) rfl rfl))
  have f69 := f51.other W63 (Or.inr (slot_ne (Or.inl (own_u hw 25 rfl)) (Or.inl (own_u hw 27 rfl)) (by decide) rfl rfl))
  have f70 := f53.other W63 (Or.inr (slot_ne (Or.inl (own_u hw 43 rfl)) (Or.inl (own_u hw 27 rfl)) (by decide) rfl rfl))
  have f71 := f54.other W63 (Or.inr (slot_ne (Or.inl (own_u hw 45 rfl)) (Or.inl (own_u hw 27 rfl)) (by decide) rfl rfl))
  have f72 := f55.other W63 (Or.inr (slot_ne (Or.inl (own_u hw 47 rfl)) (Or.inl (own_u hw 27 rfl)) (by decide) rfl rfl))
  have f73 := f56.other W63 (Or.inr (slot_ne (Or.inl (own_u hw 49 rfl)) (Or.inl (own_u hw 27 rfl)) (by decide) rfl rfl))
  have f74 := f57.other W63 (Ne.symm ne_a1_fb)
  have f75 := f58.other W63 (Ne.symm ne_a1_tb)
  have f76 := f60.other W63 (Ne.symm ne_a1_cb)
  have Kp77 := Kp59.wr W63 (Or.inl (List.mem_of_getElem? (i := 0) rfl))
  show own_H T63 126 #[.val (.ref a1), .val (.int t9), .val (.int h9), .val (.int (1 : Int32))] [(.int (0 : Int32))]
  clear f46 f47 f48 f49 f50 f51 f52 f53 f54 f55 f56 f57 f58 f60 Kp59
  exact own_retI X63 hx Bd.returns Bd.notSynchronized (hb hby own_d3_126) (by rw [e63]; exact ⟨N63, rfl, Kp77, f64, f65, f66, f67, f68, f69, F63, f70, f71, f72, f73, f74, f75, f76⟩) (by decide) (by decide)
abbrev own_ae1_R : Room := { frames := 1, cells := 0, slots := 0, locals := 15 }
theorem own_ae1_ef (m : MethodId) (a1 : Addr) (t9 : Int32) (h9 : Int32) : entryFrame m #[(.ref a1), (.int t9), (.int h9), (.int (1 : Int32))] 4 = mkF m 0 #[.val (.ref a1), .val (.int t9), .val (.int h9), .val (.int (1 : Int32))] [] := by first | (simp [entryFrame, mkF, argsToLocals, Value.category]; done) | rfl
def own_ae1_q (Z : State) (a1 : Addr) (t9 : Int32) (h9 : Int32) (c1 : Int32) (fb : Addr) (tb : Addr) (cb : Addr) (k_fb : ClassId) (k_tb : ClassId) (k_cb : ClassId) (t0 : Int32) (h0_ : Int32) (h0 : Heap) (v : Option Value) (h : Heap) : Prop := v = some (.int (1 : Int32)) ∧ Keep h0 h [a1, fb, tb, cb] ∧ Exa Z h a1 own_cN ∧ Fld Z h a1 own_cN "from" "[I" (.ref fb) ∧ Fld Z h a1 own_cN "to" "[I" (.ref tb) ∧ Fld Z h a1 own_cN "capacity" "[I" (.ref cb) ∧ Fld Z h a1 own_cN "nodes" "I" (.int c1) ∧ Fld Z h a1 own_cN "firstArc" "[I" .null ∧ Fld Z h a1 own_cN "edges" "I" (.int (2 : Int32)) ∧ Fld Z h a1 own_cN "target" "[I" .null ∧ Fld Z h a1 own_cN "edgeAt" "[I" .null ∧ Fld Z h a1 own_cN "reverse" "[I" .null ∧ Fld Z h a1 own_cN "forward" "[I" .null ∧ Arv Z h fb k_fb .int (16 : Int32) [(.int t0), (.int t9), (.int (0 : Int32)), (.int (0 : Int32)), (.int (0 : Int32)), (.int (0 : Int32)), (.int (0 : Int32)), (.int (0 : Int32)), (.int (0 : Int32)), (.int (0 : Int32)), (.int (0 : Int32)), (.int (0 : Int32)), (.int (0 : Int32)), (.int (0 : Int32)), (.int (0 : Int32)), (.int (0 : Int32))] (.int (0 : Int32)) ∧ Arv Z h tb k_tb .int (16 : Int32) [(.int h0_), (.int h9), (.int (0 : Int32)), (.int (0 : Int32)), (.int (0 : Int32)), (.int (0 : Int32)), (.int (0 : Int32)), (.int (0 : Int32)), (.int (0 : Int32)), (.int (0 : Int32)), (.int (0 : Int32)), (.int (0 : Int32)), (.int (0 : Int32)), (.int (0 : Int32)), (.int (0 : Int32)), (.int (0 : Int32))] (.int (0 : Int32)) ∧ Arv Z h cb k_cb .int (16 : Int32) [(.int (own_F4 (1 : Int32) (536870911 : Int32))), (.int (own_F4 (1 : Int32) (536870911 : Int32))), (.int (0 : Int32)), (.int (0 : Int32)), (.int (0 : Int32)), (.int (0 : Int32)), (.int (0 : Int32)), (.int (0 : Int32)), (.int (0 : Int32)), (.int (0 : Int32)), (.int (0 : Int32)), (.int (0 : Int32)), (.int (0 : Int32)), (.int (0 : Int32)), (.int (0 : Int32)), (.int (0 : Int32))] (.int (0 : Int32))
set_option maxRecDepth 65536 in
set_option maxHeartbeats 40000000 in
theorem own_ae1 (l : Launch) (Z : State) (a0 : Array Value) (hw : ∀ d ∈ tables_1, d.before a0 Z = true) (ws : List Jvm.Cond) (a1 : Addr) (t9 : Int32) (h9 : Int32) (c1 : Int32) (fb : Addr) (tb : Addr) (cb : Addr) (k_fb : ClassId) (k_tb : ClassId) (k_cb : ClassId) (t0 : Int32) (h0_ : Int32) (h0 : Heap) (n0 : Nat) (Z0 : n0 ≤ h0.size) (i_En : Exa Z h0 a1 own_cN) (i_N_from : Fld Z h0 a1 own_cN "from" "[I" (.ref fb)) (i_N_to : Fld Z h0 a1 own_cN "to" "[I" (.ref tb)) (i_N_capacity : Fld Z h0 a1 own_cN "capacity" "[I" (.ref cb)) (i_N_nodes : Fld Z h0 a1 own_cN "nodes" "I" (.int c1)) (i_N_firstArc : Fld Z h0 a1 own_cN "firstArc" "[I" .null) (i_N_edges : Fld Z h0 a1 own_cN "edges" "I" (.int (1 : Int32))) (i_N_target : Fld Z h0 a1 own_cN "target" "[I" .null) (i_N_edgeAt : Fld Z h0 a1 own_cN "edgeAt" "[I" .null) (i_N_reverse : Fld Z h0 a1 own_cN "reverse" "[I" .null) (i_N_forward : Fld Z h0 a1 own_cN "forward" "[I" .null) (i_Afb : Arv Z h0 fb k_fb .int (16 : Int32) [(.int t0), (.int (0 : Int32)), (.int (0 : Int32)), (.int (0 : Int32)), (.int (0 : Int32)), (.int (0 : Int32)), (.int (0 : Int32)), (.int (0 : Int32)), (.int (0 : Int32)), (.int (0 : Int32)), (.int (0 : Int32)), (.int (0 : Int32)), (.int (0 : Int32)), (.int (0 : Int32)), (.int (0 : Int32)), (.int (0 : Int32))] (.int (0 : Int32))) (i_Atb : Arv Z h0 tb k_tb .int (16 : Int32) [(.int h0_), (.int (0 : Int32)), (.int (0 : Int32)), (.int (0 : Int32)), (.int (0 : Int32)), (.int (0 : Int32)), (.int (0 : Int32)), (.int (0 : Int32)), (.int (0 : Int32)), (.int (0 : Int32)), (.int (0 : Int32)), (.int (0 : Int32)), (.int (0 : Int32)), (.int (0 : Int32)), (.int (0 : Int32)), (.int (0 : Int32))] (.int (0 : Int32))) (i_Acb : Arv Z h0 cb k_cb .int (16 : Int32) [(.int (own_F4 (1 : Int32) (536870911 : Int32))), (.int (0 : Int32)), (.int (0 : Int32)), (.int (0 : Int32)), (.int (0 : Int32)), (.int (0 : Int32)), (.int (0 : Int32)), (.int (0 : Int32)), (.int (0 : Int32)), (.int (0 : Int32)), (.int (0 : Int32)), (.int (0 : Int32)), (.int (0 : Int32)), (.int (0 : Int32)), (.int (0 : Int32)), (.int (0 : Int32))] (.int (0 : Int32))) (g_a1 : n0 ≤ a1) (g_fb : n0 ≤ fb) (g_tb : n0 ≤ tb) (g_cb : n0 ≤ cb) (ne_a1_fb : a1 ≠ fb) (ne_a1_tb : a1 ≠ tb) (ne_a1_cb : a1 ≠ cb) (ne_fb_tb : fb ≠ tb) (ne_fb_cb : fb ≠ cb) (ne_tb_cb : tb ≠ cb) :
    own_C l Z (⟨"com/example/dissoc/dissoc/mincut/FlowNetwork", "addEdge", "(III)I"⟩ : MethodName) prog_28_method_2_code 4 (some .int) ws own_ae1_R #[(.ref a1), (.int t9), (.int h9), (.int (1 : Int32))] h0 (own_W n0 (own_ae1_q Z a1 t9 h9 c1 fb tb cb k_fb k_tb k_cb t0 h0_ h0)) := by
  refine MetFree.of_bodySF own_pn3 hisR ?_
  intro p e s m args below meth c s₁ Bd hml0 hP hK
  obtain ⟨rfl, hZ, hh⟩ := hP
  have hx := Bd.exec
  have hby := Bd.bytes
  have hml : c.maxLocals = 4 := hml0
  have hown : s.vm.findClass "com/example/dissoc/dissoc/mincut/FlowNetwork" = some m.cls := findClass_of_methodNamed Bd.named
  have hnm := (name_of_methodNamed Bd.named Bd.method).1
  have X0 : Stand p l e own_ae1_R s m #[(.ref a1), (.int t9), (.int h9), (.int (1 : Int32))] below meth c s₁ [] 0 0 := Stand.of_body Bd
  have e0 : s₁.heap = h0 := by rw [← hh, Bd.state]; rfl
  have N0 := Fr.nil n0
  have K0 : Keep h0 h0 [a1, fb, tb, cb] := Keep.refl h0 _
  show own_G p e below (own_P s (own_W n0 (own_ae1_q Z a1 t9 h9 c1 fb tb cb k_fb k_tb k_cb t0 h0_ h0)) own_ae1_R.cells own_ae1_R.slots) (s₁.setTop (entryFrame m #[(.ref a1), (.int t9), (.int h9), (.int (1 : Int32))] 4))
  rw [own_ae1_ef m a1 t9 h9]
  show own_H s₁ 0 #[.val (.ref a1), .val (.int t9), .val (.int h9), .val (.int (1 : Int32))] []
  refine own_via (fun t k => XS.aloadN X0.here hx rfl (hb hby own_d3_0) rfl rfl k) ?_
  show own_H s₁ 1 #[.val (.ref a1), .val (.int t9), .val (.int h9), .val (.int (1 : Int32))] [(.ref a1)]
  obtain ⟨T1, X1, e1, st1⟩ := getF X0 hx hZ hown (host := "") (Or.inl (own_u hw 24 rfl)) Via.refl e0 i_N_firstArc (g := (mkF m 1 #[.val (.ref a1), .val (.int t9), .val (.int h9), .val (.int (1 : Int32))] [(.ref a1)])) rfl rfl (hb hby own_d3_1)
  refine own_via st1 ?_
  show own_H T1 4 #[.val (.ref a1), .val (.int t9), .val (.int h9), .val (.int (1 : Int32))] [.null]
  refine own_via (fun t k => XS.ifnullYes X1.here hx rfl (pc0 := 4) (pc' := 17) rfl (hb hby own_d3_4) rfl (by decide) (by decide) k) ?_
  show own_H T1 17 #[.val (.ref a1), .val (.int t9), .val (.int h9), .val (.int (1 : Int32))] []
  refine own_via (fun t k => XS.aloadN X1.here hx rfl (hb hby own_d3_17) rfl rfl k) ?_
  show own_H T1 18 #[.val (.ref a1), .val (.int t9), .val (.int h9), .val (.int (1 : Int32))] [(.ref a1)]
  obtain ⟨T2, X2, e2, st2⟩ := getF X1 hx hZ hown (host := "") (Or.inl (own_u hw 26 rfl)) Via.refl e1 i_N_edges (g := (mkF m 18 #[.val (.ref a1), .val (.int t9), .val (.int h9), .val (.int (1 : Int32))] [(.ref a1)])) rfl rfl (hb hby own_d3_18)
  refine own_via st2 ?_
  show own_H T2 21 #[.val (.ref a1), .val (.int t9), .val (.int h9), .val (.int (1 : Int32))] [(.int (1 : Int32))]
  refine own_via (fun t k => XS.aloadN X2.here hx rfl (hb hby own_d3_21) rfl rfl k) ?_
  show own_H T2 22 #[.val (.ref a1), .val (.int t9), .val (.int h9), .val (.int (1 : Int32))] [(.ref a1), (.int (1 : Int32))]
  obtain ⟨T3, X3, e3, st3⟩ := getF X2 hx hZ hown (host := "") (Or.inl (own_u hw 11 rfl)) Via.refl e2 i_N_from (g := (mkF m 22 #[.val (.ref a1), .val (.int t9), .val (.int h9), .val (.int (1 : Int32))] [(.ref a1), (.int (1 : Int32))])) rfl rfl (hb hby own_d3_22)
  refine own_via st3 ?_
  show own_H T3 25 #[.val (.ref a1), .val (.int t9), .val (.int h9), .val (.int (1 : Int32))] [(.ref fb), (.int (1 : Int32))]
  refine own_via (own_len X3 hx hZ e3 i_Afb (pc := 25) (Ls := #[.val (.ref a1), .val (.int t9), .val (.int h9), .val (.int (1 : Int32))]) (rest := [(.int (1 : Int32))]) (hb hby own_d3_25)) ?_
  show own_H T3 26 #[.val (.ref a1), .val (.int t9), .val (.int h9), .val (.int (1 : Int32))] [(.int (16 : Int32)), (.int (1 : Int32))]
  refine own_via (fun t k => XS.icmpYes X3.here hx rfl (pc0 := 26) (pc' := 80) rfl (hb hby own_d3_26) rfl (feq (by decide : ¬ ((1 : Int32) = (16 : Int32)))).2 (by decide) (by decide) k) ?_
  show own_H T3 80 #[.val (.ref a1), .val (.int t9), .val (.int h9), .val (.int (1 : Int32))] []
  refine own_via (fun t k => XS.aloadN X3.here hx rfl (hb hby own_d3_80) rfl rfl k) ?_
  show own_H T3 81 #[.val (.ref a1), .val (.int t9), .val (.int h9), .val (.int (1 : Int32))] [(.ref a1)]
  obtain ⟨T4, X4, e4, st4⟩ := getF X3 hx hZ hown (host := "") (Or.inl (own_u hw 11 rfl)) Via.refl e3 i_N_from (g := (mkF m 81 #[.val (.ref a1), .val (.int t9), .val (.int h9), .val (.int (1 : Int32))] [(.ref a1)])) rfl rfl (hb hby own_d3_81)
  refine own_via st4 ?_
  show own_H T4 84 #[.val (.ref a1), .val (.int t9), .val (.int h9), .val (.int (1 : Int32))] [(.ref fb)]
  refine own_via (fun t k => XS.aloadN X4.here hx rfl (hb hby own_d3_84) rfl rfl k) ?_
  show own_H T4 85 #[.val (.ref a1), .val (.int t9), .val (.int h9), .val (.int (1 : Int32))] [(.ref a1), (.ref fb)]
  obtain ⟨T5, X5, e5, st5⟩ := getF X4 hx hZ hown (host := "") (Or.inl (own_u hw 26 rfl)) Via.refl e4 i_N_edges (g := (mkF m 85 #[.val (.ref a1), .val (.int t9), .val (.int h9), .val (.int (1 : Int32))] [(.ref a1), (.ref fb)])) rfl rfl (hb hby own_d3_85)
  refine own_via st5 ?_
  show own_H T5 88 #[.val (.ref a1), .val (.int t9), .val (.int h9), .val (.int (1 : Int32))] [(.int (1 : Int32)), (.ref fb)]
  refine own_via (fun t k => XS.iloadN X5.here hx rfl (hb hby own_d3_88) rfl k) ?_
  show own_H T5 89 #[.val (.ref a1), .val (.int t9), .val (.int h9), .val (.int (1 : Int32))] [(.int t9), (.int (1 : Int32)), (.ref fb)]
  obtain ⟨T6, h6, L6, X6, N6, e6, W6, V6, st6⟩ := own_stI X5 N0 hx hZ e5 i_Afb g_fb (j := (1 : Int32)) (x := t9) (i := 1) ⟨by decide, by decide⟩ rfl (Nat.le_of_ble_eq_true rfl) (pc := 89) (Ls := #[.val (.ref a1), .val (.int t9), .val (.int h9), .val (.int (1 : Int32))]) (rest := []) (hb hby own_d3_89)
  refine own_via st6 ?_
  have f7 := i_En.wr W6
  have f8 := i_N_from.other W6 (Or.inl ne_a1_fb)
  have f9 := i_N_to.other W6 (Or.inl ne_a1_fb)
  have f10 := i_N_capacity.other W6 (Or.inl ne_a1_fb)
  have f11 := i_N_nodes.other W6 (Or.inl ne_a1_fb)
  have f12 := i_N_firstArc.other W6 (Or.inl ne_a1_fb)
  have f13 := i_N_edges.other W6 (Or.inl ne_a1_fb)
  have f14 := i_N_target.other W6 (Or.inl ne_a1_fb)
  have f15 := i_N_edgeAt.other W6 (Or.inl ne_a1_fb)
  have f16 := i_N_reverse.other W6 (Or.inl ne_a1_fb)
  have f17 := i_N_forward.other W6 (Or.inl ne_a1_fb)
  have f18 := i_Atb.other W6 (Ne.symm ne_fb_tb)
  have f19 := i_Acb.other W6 (Ne.symm ne_fb_cb)
  have Kp20 := K0.wr W6 (Or.inl (List.mem_of_getElem? (i := 1) rfl))
  have f21 : Arv Z h6 fb k_fb .int (16 : Int32) [(.int t0), (.int t9), (.int (0 : Int32)), (.int (0 : Int32)), (.int (0 : Int32)), (.int (0 : Int32)), (.int (0 : Int32)), (.int (0 : Int32)), (.int (0 : Int32)), (.int (0 : Int32)), (.int (0 : Int32)), (.int (0 : Int32)), (.int (0 : Int32)), (.int (0 : Int32)), (.int (0 : Int32)), (.int (0 : Int32))] (.int (0 : Int32)) := V6
  show own_H T6 90 #[.val (.ref a1), .val (.int t9), .val (.int h9), .val (.int (1 : Int32))] []
  clear i_En i_N_from i_N_to i_N_capacity i_N_nodes i_N_firstArc i_N_edges i_N_target i_N_edgeAt i_N_reverse i_N_forward i_Afb i_Atb i_Acb K0
  refine own_via (fun t k => XS.aloadN X6.here hx rfl (hb hby own_d3_90) rfl rfl k) ?_
  show own_H T6 91 #[.val (.ref a1), .val (.int t9), .val (.int h9), .val (.int (1 : Int32))] [(.ref a1)]
  obtain ⟨T23, X23, e23, st23⟩ := getF X6 hx hZ hown (host := "") (Or.inl (own_u hw 13 rfl)) Via.refl e6 f9 (g := (mkF m 91 #[.val (.ref a1), .val (.int t9), .val (.int h9), .val (.int (1 : Int32))] [(.ref a1)])) rfl rfl (hb hby own_d3_91)
  refine own_via st23 ?_
  show own_H T23 94 #[.val (.ref a1), .val (.int t9), .val (.int h9), .val (.int (1 : Int32))] [(.ref tb)]
  refine own_via (fun t k => XS.aloadN X23.here hx rfl (hb hby own_d3_94) rfl rfl k) ?_
  show own_H T23 95 #[.val (.ref a1), .val (.int t9), .val (.int h9), .val (.int (1 : Int32))] [(.ref a1), (.ref tb)]
  obtain ⟨T24, X24, e24, st24⟩ := getF X23 hx hZ hown (host := "") (Or.inl (own_u hw 26 rfl)) Via.refl e23 f13 (g := (mkF m 95 #[.val (.ref a1), .val (.int t9), .val (.int h9), .val (.int (1 : Int32))] [(.ref a1), (.ref tb)])) rfl rfl (hb hby own_d3_95)
  refine own_via st24 ?_
  show own_H T24 98 #[.val (.ref a1), .val (.int t9), .val (.int h9), .val (.int (1 : Int32))] [(.int (1 : Int32)), (.ref tb)]
  refine own_via (fun t k => XS.iloadN X24.here hx rfl (hb hby own_d3_98) rfl k) ?_
  show own_H T24 99 #[.val (.ref a1), .val (.int t9), .val (.int h9), .val (.int (1 : Int32))] [(.int h9), (.int (1 : Int32)), (.ref tb)]
  obtain ⟨T25, h25, L25, X25, N25, e25, W25, V25, st25⟩ := own_stI X24 N6 hx hZ e24 f18 g_tb (j := (1 : Int32)) (x := h9) (i := 1) ⟨by decide, by decide⟩ rfl (Nat.le_of_ble_eq_true rfl) (pc := 99) (Ls := #[.val (.ref a1), .val (.int t9), .val (.int h9), .val (.int (1 : Int32))]) (rest := []) (hb hby own_d3_99)
  refine own_via st25 ?_
  have f26 := f7.wr W25
  have f27 := f8.other W25 (Or.inl ne_a1_tb)
  have f28 := f9.other W25 (Or.inl ne_a1_tb)
  have f29 := f10.other W25 (Or.inl ne_a1_tb)
  have f30 := f11.other W25 (Or.inl ne_a1_tb)
  have f31 := f12.other W25 (Or.inl ne_a1_tb)
  have f32 := f13.other W25 (Or.inl ne_a1_tb)
  have f33 := f14.other W25 (Or.inl ne_a1_tb)
  have f34 := f15.other W25 (Or.inl ne_a1_tb)
  have f35 := f16.other W25 (Or.inl ne_a1_tb)
  have f36 := f17.other W25 (Or.inl ne_a1_tb)
  have f37 := f19.other W25 (Ne.symm ne_tb_cb)
  have f38 := f21.other W25 ne_fb_tb
  have Kp39 := Kp20.wr W25 (Or.inl (List.mem_of_getElem? (i := 2) rfl))
  have f40 : Arv Z h25 tb k_tb .int (16 : Int32) [(.int h0_), (.int h9), (.int (0 : Int32)), (.int (0 : Int32)), (.int (0 : Int32)), (.int (0 : Int32)), (.int (0 : Int32)), (.int (0 : Int32)), (.int (0 : Int32)), (.int (0 : Int32)), (.int (0 : Int32)), (.int (0 : Int32)), (.int (0 : Int32)), (.int (0 : Int32)), (.int (0 : Int32)), (.int (0 : Int32))] (.int (0 : Int32)) := V25
  show own_H T25 100 #[.val (.ref a1), .val (.int t9), .val (.int h9), .val (.int (1 : Int32))] []
  clear f7 f8 f9 f10 f11 f12 f13 f14 f15 f16 f17 f18 f19 f21 Kp20
  refine own_via (fun t k => XS.aloadN X25.here hx rfl (hb hby own_d3_100) rfl rfl k) ?_
  show own_H T25 101 #[.val (.ref a1), .val (.int t9), .val (.int h9), .val (.int (1 : Int32))] [(.ref a1)]
  obtain ⟨T42, X42, e42, st42⟩ := getF X25 hx hZ hown (host := "") (Or.inl (own_u hw 15 rfl)) Via.refl e25 f29 (g := (mkF m 101 #[.val (.ref a1), .val (.int t9), .val (.int h9), .val (.int (1 : Int32))] [(.ref a1)])) rfl rfl (hb hby own_d3_101)
  refine own_via st42 ?_
  show own_H T42 104 #[.val (.ref a1), .val (.int t9), .val (.int h9), .val (.int (1 : Int32))] [(.ref cb)]
  refine own_via (fun t k => XS.aloadN X42.here hx rfl (hb hby own_d3_104) rfl rfl k) ?_
  show own_H T42 105 #[.val (.ref a1), .val (.int t9), .val (.int h9), .val (.int (1 : Int32))] [(.ref a1), (.ref cb)]
  obtain ⟨T43, X43, e43, st43⟩ := getF X42 hx hZ hown (host := "") (Or.inl (own_u hw 26 rfl)) Via.refl e42 f32 (g := (mkF m 105 #[.val (.ref a1), .val (.int t9), .val (.int h9), .val (.int (1 : Int32))] [(.ref a1), (.ref cb)])) rfl rfl (hb hby own_d3_105)
  refine own_via st43 ?_
  show own_H T43 108 #[.val (.ref a1), .val (.int t9), .val (.int h9), .val (.int (1 : Int32))] [(.int (1 : Int32)), (.ref cb)]
  refine own_via (fun t k => XS.iloadN X43.here hx rfl (hb hby own_d3_108) rfl k) ?_
  show own_H T43 109 #[.val (.ref a1), .val (.int t9), .val (.int h9), .val (.int (1 : Int32))] [(.int (1 : Int32)), (.int (1 : Int32)), (.ref cb)]
  refine own_via (X43.ldcInt hx hown (mvT hZ (own_u hw 28 rfl)) (g := (mkF m 109 #[.val (.ref a1), .val (.int t9), .val (.int h9), .val (.int (1 : Int32))] [(.int (1 : Int32)), (.int (1 : Int32)), (.ref cb)])) rfl (hb hby own_d3_109)) ?_
  show own_H T43 111 #[.val (.ref a1), .val (.int t9), .val (.int h9), .val (.int (1 : Int32))] [(.int (536870911 : Int32)), (.int (1 : Int32)), (.int (1 : Int32)), (.ref cb)]
  obtain ⟨T44, X44, e44, st44⟩ := own_callP (y := (⟨"java/lang/Math", "min", "(II)I"⟩ : MethodName)) (W := 2) X43 hx hZ hown (own_u hw 29 rfl) (own_u hw 30 rfl) (own_u hw 31 rfl) (own_u hw 32 rfl) (by decide) (own_rm4 l Z a0 hw [] (1 : Int32) (536870911 : Int32) h25) (by decide) (by decide) rfl rfl (by decide) (by decide) e43 (pc := 111) (Ls := #[.val (.ref a1), .val (.int t9), .val (.int h9), .val (.int (1 : Int32))]) (st := [(.int (536870911 : Int32)), (.int (1 : Int32)), (.int (1 : Int32)), (.ref cb)]) (argsL := [(.int (1 : Int32)), (.int (536870911 : Int32))]) (rest := [(.int (1 : Int32)), (.ref cb)]) (by rw [hml]; rfl) (lenOf own_pd7 rfl) rfl rfl (Nat.le_of_eq rfl) (hb hby own_d3_111)
  refine own_via st44 ?_
  show own_H T44 114 #[.val (.ref a1), .val (.int t9), .val (.int h9), .val (.int (1 : Int32))] [(.int (own_F4 (1 : Int32) (536870911 : Int32))), (.int (1 : Int32)), (.ref cb)]
  obtain ⟨T45, h45, L45, X45, N45, e45, W45, V45, st45⟩ := own_stI X44 N25 hx hZ e44 f37 g_cb (j := (1 : Int32)) (x := (own_F4 (1 : Int32) (536870911 : Int32))) (i := 1) ⟨by decide, by decide⟩ rfl (Nat.le_of_ble_eq_true rfl) (pc := 114) (Ls := #[.val (.ref a1), .val (.int t9), .val (.int h9), .val (.int (1 : Int32))]) (rest := []) (hb hby own_d3_114)
  refine own_via st45 ?_
  have f46 := f26.wr W45
  have f47 := f27.other W45 (Or.inl ne_a1_cb)
  have f48 := f28.other W45 (Or.inl ne_a1_cb)
  have f49 := f29.other W45 (Or.inl ne_a1_cb)
  have f50 := f30.other W45 (Or.inl ne_a1_cb)
  have f51 := f31.other W45 (Or.inl ne_a1_cb)
  have f52 := f32.other W45 (Or.inl ne_a1_cb)
  have f53 := f33.other W45 (Or.inl ne_a1_cb)
  have f54 := f34.other W45 (Or.inl ne_a1_cb)
  have f55 := f35.other W45 (Or.inl ne_a1_cb)
  have f56 := f36.other W45 (Or.inl ne_a1_cb)
  have f57 := f38.other W45 ne_fb_cb
  have f58 := f40.other W45 ne_tb_cb
  have Kp59 := Kp39.wr W45 (Or.inl (List.mem_of_getElem? (i := 3) rfl))
  have f60 : Arv Z h45 cb k_cb .int (16 : Int32) [(.int (own_F4 (1 : Int32) (536870911 : Int32))), (.int (own_F4 (1 : Int32) (536870911 : Int32))), (.int (0 : Int32)), (.int (0 : Int32)), (.int (0 : Int32)), (.int (0 : Int32)), (.int (0 : Int32)), (.int (0 : Int32)), (.int (0 : Int32)), (.int (0 : Int32)), (.int (0 : Int32)), (.int (0 : Int32)), (.int (0 : Int32)), (.int (0 : Int32)), (.int (0 : Int32)), (.int (0 : Int32))] (.int (0 : Int32)) := V45
  show own_H T45 115 #[.val (.ref a1), .val (.int t9), .val (.int h9), .val (.int (1 : Int32))] []
  clear f26 f27 f28 f29 f30 f31 f32 f33 f34 f35 f36 f37 f38 f40 Kp39
  refine own_via (fun t k => XS.aloadN X45.here hx rfl (hb hby own_d3_115) rfl rfl k) ?_
  refine own_via (fun t k => XS.dup X45.here hx rfl (hb hby own_d3_116) rfl rfl k) ?_
  show own_H T45 117 #[.val (.ref a1), .val (.int t9), .val (.int h9), .val (.int (1 : Int32))] [(.ref a1), (.ref a1)]
  obtain ⟨T62, X62, e62, st62⟩ := getF X45 hx hZ hown (host := "") (Or.inl (own_u hw 26 rfl)) Via.refl e45 f52 (g := (mkF m 117 #[.val (.ref a1), .val (.int t9), .val (.int h9), .val (.int (1 : Int32))] [(.ref a1), (.ref a1)])) rfl rfl (hb hby own_d3_117)
  refine own_via st62 ?_
  show own_H T62 120 #[.val (.ref a1), .val (.int t9), .val (.int h9), .val (.int (1 : Int32))] [(.int (1 : Int32)), (.ref a1)]
  refine own_via (fun t k => XS.dupX1 X62.here hx rfl (hb hby own_d3_120) rfl rfl rfl k) ?_
  refine own_via (fun t k => XS.iconst X62.here hx rfl (hb hby own_d3_121) k) ?_
  show own_H T62 122 #[.val (.ref a1), .val (.int t9), .val (.int h9), .val (.int (1 : Int32))] [(.int (1 : Int32)), (.int (1 : Int32)), (.ref a1), (.int (1 : Int32))]
  refine own_via (fun t k => XS.iadd X62.here hx rfl (hb hby own_d3_122) rfl k) ?_
  show own_H T62 123 #[.val (.ref a1), .val (.int t9), .val (.int h9), .val (.int (1 : Int32))] [(.int (2 : Int32)), (.ref a1), (.int (1 : Int32))]
  obtain ⟨T63, h63, L63, X63, N63, e63, W63, F63, st63⟩ := own_putF X62 N45 hx hZ hown (own_u hw 26 rfl) e62 f52 f46 (Or.inl (own_u hw 27 rfl)) (own_u hw 2 rfl) g_a1 (ty := .int) (v := (.int (2 : Int32))) (by decide) rfl rfl (pc := 123) (Ls := #[.val (.ref a1), .val (.int t9), .val (.int h9), .val (.int (1 : Int32))]) (rest := [(.int (1 : Int32))]) (hb hby own_d3_123)
  refine own_via st63 ?_
  have f64 := f46.wr W63
  have f65 := f47.other W63 (Or.inr (slot_ne (Or.inl (own_u hw 12 rfl)) (Or.inl (own_u hw 27 rfl)) (by decide) rfl rfl))
  have f66 := f48.other W63 (Or.inr (slot_ne (Or.inl (own_u hw 14 rfl)) (Or.inl (own_u hw 27 rfl)) (by decide) rfl rfl))
  have f67 := f49.other W63 (Or.inr (slot_ne (Or.inl (own_u hw 16 rfl)) (Or.inl (own_u hw 27 rfl)) (by decide) rfl rfl))
  have f68 := f50.other W63 (Or.inr (slot_ne (Or.inr (own_u hw 18 rfl)) (Or.inl (own_u hw 27 rfl)) (by decide) rfl rfl))
  have f69 := f51.other W63 (Or.inr (slot_ne (Or.inl (own_u hw 25 rfl)) (Or.inl (own_u hw 27 rfl)) (by decide) rfl rfl))
  have f70 := f53.other W63 (Or.inr (slot_ne (Or.inl (own_u hw 43 rfl)) (Or.inl (own_u hw 27 rfl)) (by decide) rfl rfl))
  have f71 := f54.other W63 (Or.inr (slot_ne (Or.inl (own_u hw 45 rfl)) (Or.inl (own_u hw 27 rfl)) (by decide) rfl rfl))
  have f72 := f55.other W63 (Or.inr (slot_ne (Or.inl (own_u hw 47 rfl)) (Or.inl (own_u hw 27 rfl)) (by decide) rfl rfl))
  have f73 := f56.other W63 (Or.inr (slot_ne (Or.inl (own_u hw 49 rfl)) (Or.inl (own_u hw 27 rfl)) (by decide) rfl rfl))
  have f74 := f57.other W63 (Ne.symm ne_a1_fb)
  have f75 := f58.other W63 (Ne.symm ne_a1_tb)
  have f76 := f60.other W63 (Ne.symm ne_a1_cb)
  have Kp77 := Kp59.wr W63 (Or.inl (List.mem_of_getElem? (i := 0) rfl))
  show own_H T63 126 #[.val (.ref a1), .val (.int t9), .val (.int h9), .val (.int (1 : Int32))] [(.int (1 : Int32))]
  clear f46 f47 f48 f49 f50 f51 f52 f53 f54 f55 f56 f57 f58 f60 Kp59
  exact own_retI X63 hx Bd.returns Bd.notSynchronized (hb hby own_d3_126) (by rw [e63]; exact ⟨N63, rfl, Kp77, f64, f65, f66, f67, f68, f69, F63, f70, f71, f72, f73, f74, f75, f76⟩) (by decide) (by decide)
theorem own_d7_0 : decode jdk_65_method_123_code 0 = .ok (.iload_n 1, 1) := by decide +kernel
theorem own_d7_1 : decode jdk_65_method_123_code 1 = .ok (.aload_n 0, 1) := by decide +kernel
theorem own_d7_2 : decode jdk_65_method_123_code 2 = .ok (.arraylength, 1) := by decide +kernel
theorem own_d7_3 : decode jdk_65_method_123_code 3 = .ok (.if_icmp .ne 11, 3) := by decide +kernel
theorem own_d7_14 : decode jdk_65_method_123_code 14 = .ok (.iload_n 1, 1) := by decide +kernel
theorem own_d7_15 : decode jdk_65_method_123_code 15 = .ok (.newarray .int, 2) := by decide +kernel
theorem own_d7_17 : decode jdk_65_method_123_code 17 = .ok (.astore_n 2, 1) := by decide +kernel
theorem own_d7_18 : decode jdk_65_method_123_code 18 = .ok (.aload_n 0, 1) := by decide +kernel
theorem own_d7_19 : decode jdk_65_method_123_code 19 = .ok (.iconst 0, 1) := by decide +kernel
theorem own_d7_20 : decode jdk_65_method_123_code 20 = .ok (.aload_n 2, 1) := by decide +kernel
theorem own_d7_21 : decode jdk_65_method_123_code 21 = .ok (.iconst 0, 1) := by decide +kernel
theorem own_d7_22 : decode jdk_65_method_123_code 22 = .ok (.aload_n 0, 1) := by decide +kernel
theorem own_d7_23 : decode jdk_65_method_123_code 23 = .ok (.arraylength, 1) := by decide +kernel
theorem own_d7_24 : decode jdk_65_method_123_code 24 = .ok (.iload_n 1, 1) := by decide +kernel
theorem own_d7_25 : decode jdk_65_method_123_code 25 = .ok (.invokestatic 304, 3) := by decide +kernel
theorem own_d7_28 : decode jdk_65_method_123_code 28 = .ok (.invokestatic 150, 3) := by decide +kernel
theorem own_d7_31 : decode jdk_65_method_123_code 31 = .ok (.aload_n 2, 1) := by decide +kernel
theorem own_d7_32 : decode jdk_65_method_123_code 32 = .ok (.areturn, 1) := by decide +kernel
abbrev own_co1_R : Room := { frames := 1, cells := 1, slots := 4, locals := 40 }
theorem own_pn7 : plainFor (⟨"java/util/Arrays", "copyOf", "([II)[I"⟩ : MethodName) = true := plainFor_of_name (by first | (simp [plainName, overriddenIn]; done) | decide +kernel)
theorem own_co1_ef (m : MethodId) (a1 : Addr) : entryFrame m #[(.ref a1), (.int (1 : Int32))] 3 = mkF m 0 #[.val (.ref a1), .val (.int (1 : Int32)), .unset] [] := by first | (simp [entryFrame, mkF, argsToLocals, Value.category]; done) | rfl
def own_co1_q (Z : State) (a1 : Addr) (k_1 : ClassId) (L : List Int32) (h0 : Heap) (v : Option Value) (h : Heap) : Prop := ∃ (x : Addr) (kx : ClassId), v = some (.ref x) ∧ Keep h0 h [] ∧ h0.size ≤ x ∧ Arv Z h x kx .int (1 : Int32) ((own_take L 1).map Value.int) (.int (0 : Int32))
set_option maxRecDepth 65536 in
set_option maxHeartbeats 40000000 in
theorem own_co1 (l : Launch) (Z : State) (a0 : Array Value) (hw : ∀ d ∈ tables_1, d.before a0 Z = true) (ws : List Jvm.Cond) (a1 : Addr) (k_1 : ClassId) (L : List Int32) (h0 : Heap) (n0 : Nat) (Z0 : n0 ≤ h0.size) (i_A1 : Arv Z h0 a1 k_1 .int ((1 : Int32) + (1 : Int32)) (L.map Value.int) (.int (0 : Int32))) :
    own_C l Z (⟨"java/util/Arrays", "copyOf", "([II)[I"⟩ : MethodName) jdk_65_method_123_code 3 (some (.array .int)) ws own_co1_R #[(.ref a1), (.int (1 : Int32))] h0 (own_W n0 (own_co1_q Z a1 k_1 L h0)) := by
  refine MetFree.of_bodySF own_pn7 hisR ?_
  intro p e s m args below meth c s₁ Bd hml0 hP hK
  obtain ⟨rfl, hZ, hh⟩ := hP
  have hx := Bd.exec
  have hby := Bd.bytes
  have hml : c.maxLocals = 3 := hml0
  have hown : s.vm.findClass "java/util/Arrays" = some m.cls := findClass_of_methodNamed Bd.named
  have hnm := (name_of_methodNamed Bd.named Bd.method).1
  have X0 : Stand p l e own_co1_R s m #[(.ref a1), (.int (1 : Int32))] below meth c s₁ [] 0 0 := Stand.of_body Bd
  have e0 : s₁.heap = h0 := by rw [← hh, Bd.state]; rfl
  have N0 := Fr.nil n0
  have K0 : Keep h0 h0 [] := Keep.refl h0 _
  show own_G p e below (own_P s (own_W n0 (own_co1_q Z a1 k_1 L h0)) own_co1_R.cells own_co1_R.slots) (s₁.setTop (entryFrame m #[(.ref a1), (.int (1 : Int32))] 3))
  rw [own_co1_ef m a1]
  show own_H s₁ 0 #[.val (.ref a1), .val (.int (1 : Int32)), .unset] []
  refine own_via (fun t k => XS.iloadN X0.here hx rfl (hb hby own_d7_0) rfl k) ?_
  refine own_via (fun t k => XS.aloadN X0.here hx rfl (hb hby own_d7_1) rfl rfl k) ?_
  show own_H s₁ 2 #[.val (.ref a1), .val (.int (1 : Int32)), .unset] [(.ref a1), (.int (1 : Int32))]
  refine own_via (own_len X0 hx hZ e0 i_A1 (pc := 2) (Ls := #[.val (.ref a1), .val (.int (1 : Int32)), .unset]) (rest := [(.int (1 : Int32))]) (hb hby own_d7_2)) ?_
  show own_H s₁ 3 #[.val (.ref a1), .val (.int (1 : Int32)), .unset] [(.int ((1 : Int32) + (1 : Int32))), (.int (1 : Int32))]
  refine own_via (fun t k => XS.icmpYes X0.here hx rfl (pc0 := 3) (pc' := 14) rfl (hb hby own_d7_3) rfl (feq (by decide : ¬ ((1 : Int32) = ((1 : Int32) + (1 : Int32))))).2 (by decide) (by decide) k) ?_
  show own_H s₁ 14 #[.val (.ref a1), .val (.int (1 : Int32)), .unset] []
  refine own_via (fun t k => XS.iloadN X0.here hx rfl (hb hby own_d7_14) rfl k) ?_
  show own_H s₁ 15 #[.val (.ref a1), .val (.int (1 : Int32)), .unset] [(.int (1 : Int32))]
  obtain ⟨T1, h1, k1, b1, X1, e1, E1, ga1, V1, Ex1, st1⟩ := own_newA X0 hx hZ (own_u hw 10 rfl) e0 (pc := 15) (Ls := #[.val (.ref a1), .val (.int (1 : Int32)), .unset]) (rest := []) (hb hby own_d7_15) (n := (1 : Int32)) (by decide) (cap := 1) (by decide) (by decide) (by decide) (by decide) 1 rfl
  refine own_via st1 ?_
  have sz_b1 : h0.size ≤ b1 := Nat.le_trans K0.1 (Nat.le_of_eq ga1.symm)
  have f3 := i_A1.ext E1
  have Kp4 := K0.ext E1
  have f5 : Arv Z h1 b1 k1 .int (1 : Int32) [(.int (0 : Int32))] (.int (0 : Int32)) := V1
  have g_b1 : n0 ≤ b1 := Nat.le_trans Z0 (Nat.le_of_eq ga1.symm)
  show own_H T1 17 #[.val (.ref a1), .val (.int (1 : Int32)), .unset] [(.ref b1)]
  clear i_A1 K0
  refine own_via (fun t k => XS.astoreN X1.here hx rfl (hb hby own_d7_17) rfl rfl (l' := #[.val (.ref a1), .val (.int (1 : Int32)), .val (.ref b1)]) rfl k) ?_
  refine own_via (fun t k => XS.aloadN X1.here hx rfl (hb hby own_d7_18) rfl rfl k) ?_
  refine own_via (fun t k => XS.iconst X1.here hx rfl (hb hby own_d7_19) k) ?_
  refine own_via (fun t k => XS.aloadN X1.here hx rfl (hb hby own_d7_20) rfl rfl k) ?_
  refine own_via (fun t k => XS.iconst X1.here hx rfl (hb hby own_d7_21) k) ?_
  show own_H T1 22 #[.val (.ref a1), .val (.int (1 : Int32)), .val (.ref b1)] [(.int (0 : Int32)), (.ref b1), (.int (0 : Int32)), (.ref a1)]
  refine own_via (fun t k => XS.aloadN X1.here hx rfl (hb hby own_d7_22) rfl rfl k) ?_
  show own_H T1 23 #[.val (.ref a1), .val (.int (1 : Int32)), .val (.ref b1)] [(.ref a1), (.int (0 : Int32)), (.ref b1), (.int (0 : Int32)), (.ref a1)]
  refine own_via (own_len X1 hx hZ e1 f3 (pc := 23) (Ls := #[.val (.ref a1), .val (.int (1 : Int32)), .val (.ref b1)]) (rest := [(.int (0 : Int32)), (.ref b1), (.int (0 : Int32)), (.ref a1)]) (hb hby own_d7_23)) ?_
  show own_H T1 24 #[.val (.ref a1), .val (.int (1 : Int32)), .val (.ref b1)] [(.int ((1 : Int32) + (1 : Int32))), (.int (0 : Int32)), (.ref b1), (.int (0 : Int32)), (.ref a1)]
  refine own_via (fun t k => XS.iloadN X1.here hx rfl (hb hby own_d7_24) rfl k) ?_
  show own_H T1 25 #[.val (.ref a1), .val (.int (1 : Int32)), .val (.ref b1)] [(.int (1 : Int32)), (.int ((1 : Int32) + (1 : Int32))), (.int (0 : Int32)), (.ref b1), (.int (0 : Int32)), (.ref a1)]
  obtain ⟨T7, X7, e7, st7⟩ := own_callP (y := (⟨"java/lang/Math", "min", "(II)I"⟩ : MethodName)) (W := 4) X1 hx hZ hown (own_u hw 54 rfl) (own_u hw 30 rfl) (own_u hw 31 rfl) (own_u hw 32 rfl) (by decide) (own_rm4 l Z a0 hw [] ((1 : Int32) + (1 : Int32)) (1 : Int32) h1) (by decide) (by decide) rfl rfl (by decide) (by decide) e1 (pc := 25) (Ls := #[.val (.ref a1), .val (.int (1 : Int32)), .val (.ref b1)]) (st := [(.int (1 : Int32)), (.int ((1 : Int32) + (1 : Int32))), (.int (0 : Int32)), (.ref b1), (.int (0 : Int32)), (.ref a1)]) (argsL := [(.int ((1 : Int32) + (1 : Int32))), (.int (1 : Int32))]) (rest := [(.int (0 : Int32)), (.ref b1), (.int (0 : Int32)), (.ref a1)]) (by rw [hml]; rfl) (lenOf own_pd7 rfl) rfl rfl (Nat.le_of_eq rfl) (hb hby own_d7_25)
  refine own_via st7 ?_
  show own_H T7 28 #[.val (.ref a1), .val (.int (1 : Int32)), .val (.ref b1)] [(.int (own_F4 ((1 : Int32) + (1 : Int32)) (1 : Int32))), (.int (0 : Int32)), (.ref b1), (.int (0 : Int32)), (.ref a1)]
  obtain ⟨T8, h8, L8, X8, N8, e8, K8, V8, st8⟩ := own_cp (L := L) X7 N0 hx hZ hown (own_u hw 55 rfl) (own_u hw 58 rfl) (own_u hw 56 rfl) (own_u hw 57 rfl) e7 f3 f5 g_b1 (nn := (own_F4 ((1 : Int32) + (1 : Int32)) (1 : Int32))) (n := 1) (by decide) (by decide) (by decide) rfl rfl (pc := 28) (Ls := #[.val (.ref a1), .val (.int (1 : Int32)), .val (.ref b1)]) (rest := []) (by rw [hml]; rfl) (hb hby own_d7_28) (by decide) (W := 0) (Nat.le_of_eq rfl) (by decide)
  refine own_via st8 ?_
  have Kp10 := Kp4.trans K8 (fun x hx => by simp only [List.mem_cons, List.not_mem_nil, or_false] at hx; rcases hx with rfl <;> first | exact (Or.inr sz_b1))
  show own_H T8 31 #[.val (.ref a1), .val (.int (1 : Int32)), .val (.ref b1)] []
  clear f3 f5 Kp4
  refine own_via (fun t k => XS.aloadN X8.here hx rfl (hb hby own_d7_31) rfl rfl k) ?_
  show own_H T8 32 #[.val (.ref a1), .val (.int (1 : Int32)), .val (.ref b1)] [(.ref b1)]
  exact own_retA X8 hx Bd.returns rfl rfl Bd.notSynchronized (hb hby own_d7_32) (by rw [e8]; exact ⟨N8, b1, k1, rfl, Kp10, sz_b1, V8⟩) (by decide) (by decide)
abbrev own_co2_R : Room := { frames := 1, cells := 1, slots := 4, locals := 40 }
theorem own_co2_ef (m : MethodId) (a1 : Addr) : entryFrame m #[(.ref a1), (.int (2 : Int32))] 3 = mkF m 0 #[.val (.ref a1), .val (.int (2 : Int32)), .unset] [] := by first | (simp [entryFrame, mkF, argsToLocals, Value.category]; done) | rfl
def own_co2_q (Z : State) (a1 : Addr) (k_1 : ClassId) (L : List Int32) (h0 : Heap) (v : Option Value) (h : Heap) : Prop := ∃ (x : Addr) (kx : ClassId), v = some (.ref x) ∧ Keep h0 h [] ∧ h0.size ≤ x ∧ Arv Z h x kx .int (2 : Int32) ((own_take L 2).map Value.int) (.int (0 : Int32))
set_option maxRecDepth 65536 in
set_option maxHeartbeats 40000000 in
theorem own_co2 (l : Launch) (Z : State) (a0 : Array Value) (hw : ∀ d ∈ tables_1, d.before a0 Z = true) (ws : List Jvm.Cond) (a1 : Addr) (k_1 : ClassId) (L : List Int32) (h0 : Heap) (n0 : Nat) (Z0 : n0 ≤ h0.size) (i_A1 : Arv Z h0 a1 k_1 .int ((2 : Int32) + (1 : Int32)) (L.map Value.int) (.int (0 : Int32))) :
    own_C l Z (⟨"java/util/Arrays", "copyOf", "([II)[I"⟩ : MethodName) jdk_65_method_123_code 3 (some (.array .int)) ws own_co2_R #[(.ref a1), (.int (2 : Int32))] h0 (own_W n0 (own_co2_q Z a1 k_1 L h0)) := by
  refine MetFree.of_bodySF own_pn7 hisR ?_
  intro p e s m args below meth c s₁ Bd hml0 hP hK
  obtain ⟨rfl, hZ, hh⟩ := hP
  have hx := Bd.exec
  have hby := Bd.bytes
  have hml : c.maxLocals = 3 := hml0
  have hown : s.vm.findClass "java/util/Arrays" = some m.cls := findClass_of_methodNamed Bd.named
  have hnm := (name_of_methodNamed Bd.named Bd.method).1
  have X0 : Stand p l e own_co2_R s m #[(.ref a1), (.int (2 : Int32))] below meth c s₁ [] 0 0 := Stand.of_body Bd
  have e0 : s₁.heap = h0 := by rw [← hh, Bd.state]; rfl
  have N0 := Fr.nil n0
  have K0 : Keep h0 h0 [] := Keep.refl h0 _
  show own_G p e below (own_P s (own_W n0 (own_co2_q Z a1 k_1 L h0)) own_co2_R.cells own_co2_R.slots) (s₁.setTop (entryFrame m #[(.ref a1), (.int (2 : Int32))] 3))
  rw [own_co2_ef m a1]
  show own_H s₁ 0 #[.val (.ref a1), .val (.int (2 : Int32)), .unset] []
  refine own_via (fun t k => XS.iloadN X0.here hx rfl (hb hby own_d7_0) rfl k) ?_
  refine own_via (fun t k => XS.aloadN X0.here hx rfl (hb hby own_d7_1) rfl rfl k) ?_
  show own_H s₁ 2 #[.val (.ref a1), .val (.int (2 : Int32)), .unset] [(.ref a1), (.int (2 : Int32))]
  refine own_via (own_len X0 hx hZ e0 i_A1 (pc := 2) (Ls := #[.val (.ref a1), .val (.int (2 : Int32)), .unset]) (rest := [(.int (2 : Int32))]) (hb hby own_d7_2)) ?_
  show own_H s₁ 3 #[.val (.ref a1), .val (.int (2 : Int32)), .unset] [(.int ((2 : Int32) + (1 : Int32))), (.int (2 : Int32))]
  refine own_via (fun t k => XS.icmpYes X0.here hx rfl (pc0 := 3) (pc' := 14) rfl (hb hby own_d7_3) rfl (feq (by decide : ¬ ((2 : Int32) = ((2 : Int32) + (1 : Int32))))).2 (by decide) (by decide) k) ?_
  show own_H s₁ 14 #[.val (.ref a1), .val (.int (2 : Int32)), .unset] []
  refine own_via (fun t k => XS.iloadN X0.here hx rfl (hb hby own_d7_14) rfl k) ?_
  show own_H s₁ 15 #[.val (.ref a1), .val (.int (2 : Int32)), .unset] [(.int (2 : Int32))]
  obtain ⟨T1, h1, k1, b1, X1, e1, E1, ga1, V1, Ex1, st1⟩ := own_newA X0 hx hZ (own_u hw 10 rfl) e0 (pc := 15) (Ls := #[.val (.ref a1), .val (.int (2 : Int32)), .unset]) (rest := []) (hb hby own_d7_15) (n := (2 : Int32)) (by decide) (cap := 2) (by decide) (by decide) (by decide) (by decide) 2 rfl
  refine own_via st1 ?_
  have sz_b1 : h0.size ≤ b1 := Nat.le_trans K0.1 (Nat.le_of_eq ga1.symm)
  have f3 := i_A1.ext E1
  have Kp4 := K0.ext E1
  have f5 : Arv Z h1 b1 k1 .int (2 : Int32) [(.int (0 : Int32)), (.int (0 : Int32))] (.int (0 : Int32)) := V1
  have g_b1 : n0 ≤ b1 := Nat.le_trans Z0 (Nat.le_of_eq ga1.symm)
  show own_H T1 17 #[.val (.ref a1), .val (.int (2 : Int32)), .unset] [(.ref b1)]
  clear i_A1 K0
  refine own_via (fun t k => XS.astoreN X1.here hx rfl (hb hby own_d7_17) rfl rfl (l' := #[.val (.ref a1), .val (.int (2 : Int32)), .val (.ref b1)]) rfl k) ?_
  refine own_via (fun t k => XS.aloadN X1.here hx rfl (hb hby own_d7_18) rfl rfl k) ?_
  refine own_via (fun t k => XS.iconst X1.here hx rfl (hb hby own_d7_19) k) ?_
  refine own_via (fun t k => XS.aloadN X1.here hx rfl (hb hby own_d7_20) rfl rfl k) ?_
  refine own_via (fun t k => XS.iconst X1.here hx rfl (hb hby own_d7_21) k) ?_
  show own_H T1 22 #[.val (.ref a1), .val (.int (2 : Int32)), .val (.ref b1)] [(.int (0 : Int32)), (.ref b1), (.int (0 : Int32)), (.ref a1)]
  refine own_via (fun t k => XS.aloadN X1.here hx rfl (hb hby own_d7_22) rfl rfl k) ?_
  show own_H T1 23 #[.val (.ref a1), .val (.int (2 : Int32)), .val (.ref b1)] [(.ref a1), (.int (0 : Int32)), (.ref b1), (.int (0 : Int32)), (.ref a1)]
  refine own_via (own_len X1 hx hZ e1 f3 (pc := 23) (Ls := #[.val (.ref a1), .val (.int (2 : Int32)), .val (.ref b1)]) (rest := [(.int (0 : Int32)), (.ref b1), (.int (0 : Int32)), (.ref a1)]) (hb hby own_d7_23)) ?_
  show own_H T1 24 #[.val (.ref a1), .val (.int (2 : Int32)), .val (.ref b1)] [(.int ((2 : Int32) + (1 : Int32))), (.int (0 : Int32)), (.ref b1), (.int (0 : Int32)), (.ref a1)]
  refine own_via (fun t k => XS.iloadN X1.here hx rfl (hb hby own_d7_24) rfl k) ?_
  show own_H T1 25 #[.val (.ref a1), .val (.int (2 : Int32)), .val (.ref b1)] [(.int (2 : Int32)), (.int ((2 : Int32) + (1 : Int32))), (.int (0 : Int32)), (.ref b1), (.int (0 : Int32)), (.ref a1)]
  obtain ⟨T7, X7, e7, st7⟩ := own_callP (y := (⟨"java/lang/Math", "min", "(II)I"⟩ : MethodName)) (W := 4) X1 hx hZ hown (own_u hw 54 rfl) (own_u hw 30 rfl) (own_u hw 31 rfl) (own_u hw 32 rfl) (by decide) (own_rm4 l Z a0 hw [] ((2 : Int32) + (1 : Int32)) (2 : Int32) h1) (by decide) (by decide) rfl rfl (by decide) (by decide) e1 (pc := 25) (Ls := #[.val (.ref a1), .val (.int (2 : Int32)), .val (.ref b1)]) (st := [(.int (2 : Int32)), (.int ((2 : Int32) + (1 : Int32))), (.int (0 : Int32)), (.ref b1), (.int (0 : Int32)), (.ref a1)]) (argsL := [(.int ((2 : Int32) + (1 : Int32))), (.int (2 : Int32))]) (rest := [(.int (0 : Int32)), (.ref b1), (.int (0 : Int32)), (.ref a1)]) (by rw [hml]; rfl) (lenOf own_pd7 rfl) rfl rfl (Nat.le_of_eq rfl) (hb hby own_d7_25)
  refine own_via st7 ?_
  show own_H T7 28 #[.val (.ref a1), .val (.int (2 : Int32)), .val (.ref b1)] [(.int (own_F4 ((2 : Int32) + (1 : Int32)) (2 : Int32))), (.int (0 : Int32)), (.ref b1), (.int (0 : Int32)), (.ref a1)]
  obtain ⟨T8, h8, L8, X8, N8, e8, K8, V8, st8⟩ := own_cp (L := L) X7 N0 hx hZ hown (own_u hw 55 rfl) (own_u hw 58 rfl) (own_u hw 56 rfl) (own_u hw 57 rfl) e7 f3 f5 g_b1 (nn := (own_F4 ((2 : Int32) + (1 : Int32)) (2 : Int32))) (n := 2) (by decide) (by decide) (by decide) rfl rfl (pc := 28) (Ls := #[.val (.ref a1), .val (.int (2 : Int32)), .val (.ref b1)]) (rest := []) (by rw [hml]; rfl) (hb hby own_d7_28) (by decide) (W := 0) (Nat.le_of_eq rfl) (by decide)
  refine own_via st8 ?_
  have Kp10 := Kp4.trans K8 (fun x hx => by simp only [List.mem_cons, List.not_mem_nil, or_false] at hx; rcases hx with rfl <;> first | exact (Or.inr sz_b1))
  show own_H T8 31 #[.val (.ref a1), .val (.int (2 : Int32)), .val (.ref b1)] []
  clear f3 f5 Kp4
  refine own_via (fun t k => XS.aloadN X8.here hx rfl (hb hby own_d7_31) rfl rfl k) ?_
  show own_H T8 32 #[.val (.ref a1), .val (.int (2 : Int32)), .val (.ref b1)] [(.ref b1)]
  exact own_retA X8 hx Bd.returns rfl rfl Bd.notSynchronized (hb hby own_d7_32) (by rw [e8]; exact ⟨N8, b1, k1, rfl, Kp10, sz_b1, V8⟩) (by decide) (by decide)
abbrev own_co3_R : Room := { frames := 1, cells := 1, slots := 4, locals := 40 }
theorem own_co3_ef (m : MethodId) (a1 : Addr) : entryFrame m #[(.ref a1), (.int (3 : Int32))] 3 = mkF m 0 #[.val (.ref a1), .val (.int (3 : Int32)), .unset] [] := by first | (simp [entryFrame, mkF, argsToLocals, Value.category]; done) | rfl
def own_co3_q (Z : State) (a1 : Addr) (k_1 : ClassId) (L : List Int32) (h0 : Heap) (v : Option Value) (h : Heap) : Prop := ∃ (x : Addr) (kx : ClassId), v = some (.ref x) ∧ Keep h0 h [] ∧ h0.size ≤ x ∧ Arv Z h x kx .int (3 : Int32) ((own_take L 3).map Value.int) (.int (0 : Int32))
set_option maxRecDepth 65536 in
set_option maxHeartbeats 40000000 in
theorem own_co3 (l : Launch) (Z : State) (a0 : Array Value) (hw : ∀ d ∈ tables_1, d.before a0 Z = true) (ws : List Jvm.Cond) (a1 : Addr) (k_1 : ClassId) (L : List Int32) (h0 : Heap) (n0 : Nat) (Z0 : n0 ≤ h0.size) (i_A1 : Arv Z h0 a1 k_1 .int ((3 : Int32) + (1 : Int32)) (L.map Value.int) (.int (0 : Int32))) :
    own_C l Z (⟨"java/util/Arrays", "copyOf", "([II)[I"⟩ : MethodName) jdk_65_method_123_code 3 (some (.array .int)) ws own_co3_R #[(.ref a1), (.int (3 : Int32))] h0 (own_W n0 (own_co3_q Z a1 k_1 L h0)) := by
  refine MetFree.of_bodySF own_pn7 hisR ?_
  intro p e s m args below meth c s₁ Bd hml0 hP hK
  obtain ⟨rfl, hZ, hh⟩ := hP
  have hx := Bd.exec
  have hby := Bd.bytes
  have hml : c.maxLocals = 3 := hml0
  have hown : s.vm.findClass "java/util/Arrays" = some m.cls := findClass_of_methodNamed Bd.named
  have hnm := (name_of_methodNamed Bd.named Bd.method).1
  have X0 : Stand p l e own_co3_R s m #[(.ref a1), (.int (3 : Int32))] below meth c s₁ [] 0 0 := Stand.of_body Bd
  have e0 : s₁.heap = h0 := by rw [← hh, Bd.state]; rfl
  have N0 := Fr.nil n0
  have K0 : Keep h0 h0 [] := Keep.refl h0 _
  show own_G p e below (own_P s (own_W n0 (own_co3_q Z a1 k_1 L h0)) own_co3_R.cells own_co3_R.slots) (s₁.setTop (entryFrame m #[(.ref a1), (.int (3 : Int32))] 3))
  rw [own_co3_ef m a1]
  show own_H s₁ 0 #[.val (.ref a1), .val (.int (3 : Int32)), .unset] []
  refine own_via (fun t k => XS.iloadN X0.here hx rfl (hb hby own_d7_0) rfl k) ?_
  refine own_via (fun t k => XS.aloadN X0.here hx rfl (hb hby own_d7_1) rfl rfl k) ?_
  show own_H s₁ 2 #[.val (.ref a1), .val (.int (3 : Int32)), .unset] [(.ref a1), (.int (3 : Int32))]
  refine own_via (own_len X0 hx hZ e0 i_A1 (pc := 2) (Ls := #[.val (.ref a1), .val (.int (3 : Int32)), .unset]) (rest := [(.int (3 : Int32))]) (hb hby own_d7_2)) ?_
  show own_H s₁ 3 #[.val (.ref a1), .val (.int (3 : Int32)), .unset] [(.int ((3 : Int32) + (1 : Int32))), (.int (3 : Int32))]
  refine own_via (fun t k => XS.icmpYes X0.here hx rfl (pc0 := 3) (pc' := 14) rfl (hb hby own_d7_3) rfl (feq (by decide : ¬ ((3 : Int32) = ((3 : Int32) + (1 : Int32))))).2 (by decide) (by decide) k) ?_
  show own_H s₁ 14 #[.val (.ref a1), .val (.int (3 : Int32)), .unset] []
  refine own_via (fun t k => XS.iloadN X0.here hx rfl (hb hby own_d7_14) rfl k) ?_
  show own_H s₁ 15 #[.val (.ref a1), .val (.int (3 : Int32)), .unset] [(.int (3 : Int32))]
  obtain ⟨T1, h1, k1, b1, X1, e1, E1, ga1, V1, Ex1, st1⟩ := own_newA X0 hx hZ (own_u hw 10 rfl) e0 (pc := 15) (Ls := #[.val (.ref a1), .val (.int (3 : Int32)), .unset]) (rest := []) (hb hby own_d7_15) (n := (3 : Int32)) (by decide) (cap := 3) (by decide) (by decide) (by decide) (by decide) 3 rfl
  refine own_via st1 ?_
  have sz_b1 : h0.size ≤ b1 := Nat.le_trans K0.1 (Nat.le_of_eq ga1.symm)
  have f3 := i_A1.ext E1
  have Kp4 := K0.ext E1
  have f5 : Arv Z h1 b1 k1 .int (3 : Int32) [(.int (0 : Int32)), (.int (0 : Int32)), (.int (0 : Int32))] (.int (0 : Int32)) := V1
  have g_b1 : n0 ≤ b1 := Nat.le_trans Z0 (Nat.le_of_eq ga1.symm)
  show own_H T1 17 #[.val (.ref a1), .val (.int (3 : Int32)), .unset] [(.ref b1)]
  clear i_A1 K0
  refine own_via (fun t k => XS.astoreN X1.here hx rfl (hb hby own_d7_17) rfl rfl (l' := #[.val (.ref a1), .val (.int (3 : Int32)), .val (.ref b1)]) rfl k) ?_
  refine own_via (fun t k => XS.aloadN X1.here hx rfl (hb hby own_d7_18) rfl rfl k) ?_
  refine own_via (fun t k => XS.iconst X1.here hx rfl (hb hby own_d7_19) k) ?_
  refine own_via (fun t k => XS.aloadN X1.here hx rfl (hb hby own_d7_20) rfl rfl k) ?_
  refine own_via (fun t k => XS.iconst X1.here hx rfl (hb hby own_d7_21) k) ?_
  show own_H T1 22 #[.val (.ref a1), .val (.int (3 : Int32)), .val (.ref b1)] [(.int (0 : Int32)), (.ref b1), (.int (0 : Int32)), (.ref a1)]
  refine own_via (fun t k => XS.aloadN X1.here hx rfl (hb hby own_d7_22) rfl rfl k) ?_
  show own_H T1 23 #[.val (.ref a1), .val (.int (3 : Int32)), .val (.ref b1)] [(.ref a1), (.int (0 : Int32)), (.ref b1), (.int (0 : Int32)), (.ref a1)]
  refine own_via (own_len X1 hx hZ e1 f3 (pc := 23) (Ls := #[.val (.ref a1), .val (.int (3 : Int32)), .val (.ref b1)]) (rest := [(.int (0 : Int32)), (.ref b1), (.int (0 : Int32)), (.ref a1)]) (hb hby own_d7_23)) ?_
  show own_H T1 24 #[.val (.ref a1), .val (.int (3 : Int32)), .val (.ref b1)] [(.int ((3 : Int32) + (1 : Int32))), (.int (0 : Int32)), (.ref b1), (.int (0 : Int32)), (.ref a1)]
  refine own_via (fun t k => XS.iloadN X1.here hx rfl (hb hby own_d7_24) rfl k) ?_
  show own_H T1 25 #[.val (.ref a1), .val (.int (3 : Int32)), .val (.ref b1)] [(.int (3 : Int32)), (.int ((3 : Int32) + (1 : Int32))), (.int (0 : Int32)), (.ref b1), (.int (0 : Int32)), (.ref a1)]
  obtain ⟨T7, X7, e7, st7⟩ := own_callP (y := (⟨"java/lang/Math", "min", "(II)I"⟩ : MethodName)) (W := 4) X1 hx hZ hown (own_u hw 54 rfl) (own_u hw 30 rfl) (own_u hw 31 rfl) (own_u hw 32 rfl) (by decide) (own_rm4 l Z a0 hw [] ((3 : Int32) + (1 : Int32)) (3 : Int32) h1) (by decide) (by decide) rfl rfl (by decide) (by decide) e1 (pc := 25) (Ls := #[.val (.ref a1), .val (.int (3 : Int32)), .val (.ref b1)]) (st := [(.int (3 : Int32)), (.int ((3 : Int32) + (1 : Int32))), (.int (0 : Int32)), (.ref b1), (.int (0 : Int32)), (.ref a1)]) (argsL := [(.int ((3 : Int32) + (1 : Int32))), (.int (3 : Int32))]) (rest := [(.int (0 : Int32)), (.ref b1), (.int (0 : Int32)), (.ref a1)]) (by rw [hml]; rfl) (lenOf own_pd7 rfl) rfl rfl (Nat.le_of_eq rfl) (hb hby own_d7_25)
  refine own_via st7 ?_
  show own_H T7 28 #[.val (.ref a1), .val (.int (3 : Int32)), .val (.ref b1)] [(.int (own_F4 ((3 : Int32) + (1 : Int32)) (3 : Int32))), (.int (0 : Int32)), (.ref b1), (.int (0 : Int32)), (.ref a1)]
  obtain ⟨T8, h8, L8, X8, N8, e8, K8, V8, st8⟩ := own_cp (L := L) X7 N0 hx hZ hown (own_u hw 55 rfl) (own_u hw 58 rfl) (own_u hw 56 rfl) (own_u hw 57 rfl) e7 f3 f5 g_b1 (nn := (own_F4 ((3 : Int32) + (1 : Int32)) (3 : Int32))) (n := 3) (by decide) (by decide) (by decide) rfl rfl (pc := 28) (Ls := #[.val (.ref a1), .val (.int (3 : Int32)), .val (.ref b1)]) (rest := []) (by rw [hml]; rfl) (hb hby own_d7_28) (by decide) (W := 0) (Nat.le_of_eq rfl) (by decide)
  refine own_via st8 ?_
  have Kp10 := Kp4.trans K8 (fun x hx => by simp only [List.mem_cons, List.not_mem_nil, or_false] at hx; rcases hx with rfl <;> first | exact (Or.inr sz_b1))
  show own_H T8 31 #[.val (.ref a1), .val (.int (3 : Int32)), .val (.ref b1)] []
  clear f3 f5 Kp4
  refine own_via (fun t k => XS.aloadN X8.here hx rfl (hb hby own_d7_31) rfl rfl k) ?_
  show own_H T8 32 #[.val (.ref a1), .val (.int (3 : Int32)), .val (.ref b1)] [(.ref b1)]
  exact own_retA X8 hx Bd.returns rfl rfl Bd.notSynchronized (hb hby own_d7_32) (by rw [e8]; exact ⟨N8, b1, k1, rfl, Kp10, sz_b1, V8⟩) (by decide) (by decide)
abbrev own_co4_R : Room := { frames := 1, cells := 1, slots := 4, locals := 40 }
theorem own_co4_ef (m : MethodId) (a1 : Addr) : entryFrame m #[(.ref a1), (.int (4 : Int32))] 3 = mkF m 0 #[.val (.ref a1), .val (.int (4 : Int32)), .unset] [] := by first | (simp [entryFrame, mkF, argsToLocals, Value.category]; done) | rfl
def own_co4_q (Z : State) (a1 : Addr) (k_1 : ClassId) (L : List Int32) (h0 : Heap) (v : Option Value) (h : Heap) : Prop := ∃ (x : Addr) (kx : ClassId), v = some (.ref x) ∧ Keep h0 h [] ∧ h0.size ≤ x ∧ Arv Z h x kx .int (4 : Int32) ((own_take L 4).map Value.int) (.int (0 : Int32))
set_option maxRecDepth 65536 in
set_option maxHeartbeats 40000000 in
theorem own_co4 (l : Launch) (Z : State) (a0 : Array Value) (hw : ∀ d ∈ tables_1, d.before a0 Z = true) (ws : List Jvm.Cond) (a1 : Addr) (k_1 : ClassId) (L : List Int32) (h0 : Heap) (n0 : Nat) (Z0 : n0 ≤ h0.size) (i_A1 : Arv Z h0 a1 k_1 .int ((4 : Int32) + (1 : Int32)) (L.map Value.int) (.int (0 : Int32))) :
    own_C l Z (⟨"java/util/Arrays", "copyOf", "([II)[I"⟩ : MethodName) jdk_65_method_123_code 3 (some (.array .int)) ws own_co4_R #[(.ref a1), (.int (4 : Int32))] h0 (own_W n0 (own_co4_q Z a1 k_1 L h0)) := by
  refine MetFree.of_bodySF own_pn7 hisR ?_
  intro p e s m args below meth c s₁ Bd hml0 hP hK
  obtain ⟨rfl, hZ, hh⟩ := hP
  have hx := Bd.exec
  have hby := Bd.bytes
  have hml : c.maxLocals = 3 := hml0
  have hown : s.vm.findClass "java/util/Arrays" = some m.cls := findClass_of_methodNamed Bd.named
  have hnm := (name_of_methodNamed Bd.named Bd.method).1
  have X0 : Stand p l e own_co4_R s m #[(.ref a1), (.int (4 : Int32))] below meth c s₁ [] 0 0 := Stand.of_body Bd
  have e0 : s₁.heap = h0 := by rw [← hh, Bd.state]; rfl
  have N0 := Fr.nil n0
  have K0 : Keep h0 h0 [] := Keep.refl h0 _
  show own_G p e below (own_P s (own_W n0 (own_co4_q Z a1 k_1 L h0)) own_co4_R.cells own_co4_R.slots) (s₁.setTop (entryFrame m #[(.ref a1), (.int (4 : Int32))] 3))
  rw [own_co4_ef m a1]
  show own_H s₁ 0 #[.val (.ref a1), .val (.int (4 : Int32)), .unset] []
  refine own_via (fun t k => XS.iloadN X0.here hx rfl (hb hby own_d7_0) rfl k) ?_
  refine own_via (fun t k => XS.aloadN X0.here hx rfl (hb hby own_d7_1) rfl rfl k) ?_
  show own_H s₁ 2 #[.val (.ref a1), .val (.int (4 : Int32)), .unset] [(.ref a1), (.int (4 : Int32))]
  refine own_via (own_len X0 hx hZ e0 i_A1 (pc := 2) (Ls := #[.val (.ref a1), .val (.int (4 : Int32)), .unset]) (rest := [(.int (4 : Int32))]) (hb hby own_d7_2)) ?_
  show own_H s₁ 3 #[.val (.ref a1), .val (.int (4 : Int32)), .unset] [(.int ((4 : Int32) + (1 : Int32))), (.int (4 : Int32))]
  refine own_via (fun t k => XS.icmpYes X0.here hx rfl (pc0 := 3) (pc' := 14) rfl (hb hby own_d7_3) rfl (feq (by decide : ¬ ((4 : Int32) = ((4 : Int32) + (1 : Int32))))).2 (by decide) (by decide) k) ?_
  show own_H s₁ 14 #[.val (.ref a1), .val (.int (4 : Int32)), .unset] []
  refine own_via (fun t k => XS.iloadN X0.here hx rfl (hb hby own_d7_14) rfl k) ?_
  show own_H s₁ 15 #[.val (.ref a1), .val (.int (4 : Int32)), .unset] [(.int (4 : Int32))]
  obtain ⟨T1, h1, k1, b1, X1, e1, E1, ga1, V1, Ex1, st1⟩ := own_newA X0 hx hZ (own_u hw 10 rfl) e0 (pc := 15) (Ls := #[.val (.ref a1), .val (.int (4 : Int32)), .unset]) (rest := []) (hb hby own_d7_15) (n := (4 : Int32)) (by decide) (cap := 4) (by decide) (by decide) (by decide) (by decide) 4 rfl
  refine own_via st1 ?_
  have sz_b1 : h0.size ≤ b1 := Nat.le_trans K0.1 (Nat.le_of_eq ga1.symm)
  have f3 := i_A1.ext E1
  have Kp4 := K0.ext E1
  have f5 : Arv Z h1 b1 k1 .int (4 : Int32) [(.int (0 : Int32)), (.int (0 : Int32)), (.int (0 : Int32)), (.int (0 : Int32))] (.int (0 : Int32)) := V1
  have g_b1 : n0 ≤ b1 := Nat.le_trans Z0 (Nat.le_of_eq ga1.symm)
  show own_H T1 17 #[.val (.ref a1), .val (.int (4 : Int32)), .unset] [(.ref b1)]
  clear i_A1 K0
  refine own_via (fun t k => XS.astoreN X1.here hx rfl (hb hby own_d7_17) rfl rfl (l' := #[.val (.ref a1), .val (.int (4 : Int32)), .val (.ref b1)]) rfl k) ?_
  refine own_via (fun t k => XS.aloadN X1.here hx rfl (hb hby own_d7_18) rfl rfl k) ?_
  refine own_via (fun t k => XS.iconst X1.here hx rfl (hb hby own_d7_19) k) ?_
  refine own_via (fun t k => XS.aloadN X1.here hx rfl (hb hby own_d7_20) rfl rfl k) ?_
  refine own_via (fun t k => XS.iconst X1.here hx rfl (hb hby own_d7_21) k) ?_
  show own_H T1 22 #[.val (.ref a1), .val (.int (4 : Int32)), .val (.ref b1)] [(.int (0 : Int32)), (.ref b1), (.int (0 : Int32)), (.ref a1)]
  refine own_via (fun t k => XS.aloadN X1.here hx rfl (hb hby own_d7_22) rfl rfl k) ?_
  show own_H T1 23 #[.val (.ref a1), .val (.int (4 : Int32)), .val (.ref b1)] [(.ref a1), (.int (0 : Int32)), (.ref b1), (.int (0 : Int32)), (.ref a1)]
  refine own_via (own_len X1 hx hZ e1 f3 (pc := 23) (Ls := #[.val (.ref a1), .val (.int (4 : Int32)), .val (.ref b1)]) (rest := [(.int (0 : Int32)), (.ref b1), (.int (0 : Int32)), (.ref a1)]) (hb hby own_d7_23)) ?_
  show own_H T1 24 #[.val (.ref a1), .val (.int (4 : Int32)), .val (.ref b1)] [(.int ((4 : Int32) + (1 : Int32))), (.int (0 : Int32)), (.ref b1), (.int (0 : Int32)), (.ref a1)]
  refine own_via (fun t k => XS.iloadN X1.here hx rfl (hb hby own_d7_24) rfl k) ?_
  show own_H T1 25 #[.val (.ref a1), .val (.int (4 : Int32)), .val (.ref b1)] [(.int (4 : Int32)), (.int ((4 : Int32) + (1 : Int32))), (.int (0 : Int32)), (.ref b1), (.int (0 : Int32)), (.ref a1)]
  obtain ⟨T7, X7, e7, st7⟩ := own_callP (y := (⟨"java/lang/Math", "min", "(II)I"⟩ : MethodName)) (W := 4) X1 hx hZ hown (own_u hw 54 rfl) (own_u hw 30 rfl) (own_u hw 31 rfl) (own_u hw 32 rfl) (by decide) (own_rm4 l Z a0 hw [] ((4 : Int32) + (1 : Int32)) (4 : Int32) h1) (by decide) (by decide) rfl rfl (by decide) (by decide) e1 (pc := 25) (Ls := #[.val (.ref a1), .val (.int (4 : Int32)), .val (.ref b1)]) (st := [(.int (4 : Int32)), (.int ((4 : Int32) + (1 : Int32))), (.int (0 : Int32)), (.ref b1), (.int (0 : Int32)), (.ref a1)]) (argsL := [(.int ((4 : Int32) + (1 : Int32))), (.int (4 : Int32))]) (rest := [(.int (0 : Int32)), (.ref b1), (.int (0 : Int32)), (.ref a1)]) (by rw [hml]; rfl) (lenOf own_pd7 rfl) rfl rfl (Nat.le_of_eq rfl) (hb hby own_d7_25)
  refine own_via st7 ?_
  show own_H T7 28 #[.val (.ref a1), .val (.int (4 : Int32)), .val (.ref b1)] [(.int (own_F4 ((4 : Int32) + (1 : Int32)) (4 : Int32))), (.int (0 : Int32)), (.ref b1), (.int (0 : Int32)), (.ref a1)]
  obtain ⟨T8, h8, L8, X8, N8, e8, K8, V8, st8⟩ := own_cp (L := L) X7 N0 hx hZ hown (own_u hw 55 rfl) (own_u hw 58 rfl) (own_u hw 56 rfl) (own_u hw 57 rfl) e7 f3 f5 g_b1 (nn := (own_F4 ((4 : Int32) + (1 : Int32)) (4 : Int32))) (n := 4) (by decide) (by decide) (by decide) rfl rfl (pc := 28) (Ls := #[.val (.ref a1), .val (.int (4 : Int32)), .val (.ref b1)]) (rest := []) (by rw [hml]; rfl) (hb hby own_d7_28) (by decide) (W := 0) (Nat.le_of_eq rfl) (by decide)
  refine own_via st8 ?_
  have Kp10 := Kp4.trans K8 (fun x hx => by simp only [List.mem_cons, List.not_mem_nil, or_false] at hx; rcases hx with rfl <;> first | exact (Or.inr sz_b1))
  show own_H T8 31 #[.val (.ref a1), .val (.int (4 : Int32)), .val (.ref b1)] []
  clear f3 f5 Kp4
  refine own_via (fun t k => XS.aloadN X8.here hx rfl (hb hby own_d7_31) rfl rfl k) ?_
  show own_H T8 32 #[.val (.ref a1), .val (.int (4 : Int32)), .val (.ref b1)] [(.ref b1)]
  exact own_retA X8 hx Bd.returns rfl rfl Bd.notSynchronized (hb hby own_d7_32) (by rw [e8]; exact ⟨N8, b1, k1, rfl, Kp10, sz_b1, V8⟩) (by decide) (by decide)
abbrev own_co_R : Room := { frames := 1, cells := 1, slots := 4, locals := 40 }
def own_co_q (Z : State) (a1 : Addr) (c1 : Int32) (k_1 : ClassId) (L : List Int32) (h0 : Heap) (v : Option Value) (h : Heap) : Prop := ∃ (x : Addr) (kx : ClassId), v = some (.ref x) ∧ Keep h0 h [] ∧ h0.size ≤ x ∧ Arv Z h x kx .int c1 ((own_take L c1.toNatClampNeg).map Value.int) (.int (0 : Int32))
set_option maxRecDepth 65536 in
set_option maxHeartbeats 40000000 in
theorem own_co (l : Launch) (Z : State) (a0 : Array Value) (hw : ∀ d ∈ tables_1, d.before a0 Z = true) (ws : List Jvm.Cond) (a1 : Addr) (c1 : Int32) (k_1 : ClassId) (L : List Int32) (h0 : Heap) (n0 : Nat) (Z0 : n0 ≤ h0.size) (i_A1 : Arv Z h0 a1 k_1 .int (c1 + (1 : Int32)) (L.map Value.int) (.int (0 : Int32))) (hp_hc : own_c4 c1) :
    own_C l Z (⟨"java/util/Arrays", "copyOf", "([II)[I"⟩ : MethodName) jdk_65_method_123_code 3 (some (.array .int)) ws own_co_R #[(.ref a1), (.int c1)] h0 (own_W n0 (own_co_q Z a1 c1 k_1 L h0)) := by
  rcases hp_hc with rfl | rfl | rfl | rfl
  · exact own_co1 l Z a0 hw ws a1 k_1 L h0 n0 Z0 i_A1
  · exact own_co2 l Z a0 hw ws a1 k_1 L h0 n0 Z0 i_A1
  · exact own_co3 l Z a0 hw ws a1 k_1 L h0 n0 Z0 i_A1
  · exact own_co4 l Z a0 hw ws a1 k_1 L h0 n0 Z0 i_A1
theorem own_Hig_0 : ∀ (c1 t0 h0_ t1 h1_ : Int32) (hr : own_Rn c1 t0 h0_ t1 h1_), ¬ ((c1 + (1 : Int32)) < (0 : Int32)) := own_all _ (by decide +kernel)
theorem own_Hig_1 : ∀ (c1 t0 h0_ t1 h1_ : Int32) (hr : own_Rn c1 t0 h0_ t1 h1_), (c1 + (1 : Int32)).toNatClampNeg ≤ 5 := own_all _ (by decide +kernel)
theorem own_Hig_2 : ∀ (c1 t0 h0_ t1 h1_ : Int32) (hr : own_Rn c1 t0 h0_ t1 h1_), own_in ([(0 : Int32), (0 : Int32), (0 : Int32), (0 : Int32), (0 : Int32)] : List Int32) (t0 + (1 : Int32)) (c1 + (1 : Int32)) := own_all _ (by decide +kernel)
def own_Vig_3 (c1 t0 h0_ t1 h1_ : Int32) : Int32 := own_get ([(0 : Int32), (0 : Int32), (0 : Int32), (0 : Int32), (0 : Int32)] : List Int32) (t0 + (1 : Int32))
def own_Aig_4 (c1 t0 h0_ t1 h1_ : Int32) : List Int32 := own_set ([(0 : Int32), (0 : Int32), (0 : Int32), (0 : Int32), (0 : Int32)] : List Int32) (t0 + (1 : Int32)) ((own_Vig_3 c1 t0 h0_ t1 h1_) + (1 : Int32))
theorem own_Hig_5 : ∀ (c1 t0 h0_ t1 h1_ : Int32) (hr : own_Rn c1 t0 h0_ t1 h1_), own_in (own_Aig_4 c1 t0 h0_ t1 h1_) (h0_ + (1 : Int32)) (c1 + (1 : Int32)) := own_all _ (by decide +kernel)
def own_Vig_6 (c1 t0 h0_ t1 h1_ : Int32) : Int32 := own_get (own_Aig_4 c1 t0 h0_ t1 h1_) (h0_ + (1 : Int32))
def own_Aig_7 (c1 t0 h0_ t1 h1_ : Int32) : List Int32 := own_set (own_Aig_4 c1 t0 h0_ t1 h1_) (h0_ + (1 : Int32)) ((own_Vig_6 c1 t0 h0_ t1 h1_) + (1 : Int32))
theorem own_Hig_8 : ∀ (c1 t0 h0_ t1 h1_ : Int32) (hr : own_Rn c1 t0 h0_ t1 h1_), own_in (own_Aig_7 c1 t0 h0_ t1 h1_) (t1 + (1 : Int32)) (c1 + (1 : Int32)) := own_all _ (by decide +kernel)
def own_Vig_9 (c1 t0 h0_ t1 h1_ : Int32) : Int32 := own_get (own_Aig_7 c1 t0 h0_ t1 h1_) (t1 + (1 : Int32))
def own_Aig_10 (c1 t0 h0_ t1 h1_ : Int32) : List Int32 := own_set (own_Aig_7 c1 t0 h0_ t1 h1_) (t1 + (1 : Int32)) ((own_Vig_9 c1 t0 h0_ t1 h1_) + (1 : Int32))
theorem own_Hig_11 : ∀ (c1 t0 h0_ t1 h1_ : Int32) (hr : own_Rn c1 t0 h0_ t1 h1_), own_in (own_Aig_10 c1 t0 h0_ t1 h1_) (h1_ + (1 : Int32)) (c1 + (1 : Int32)) := own_all _ (by decide +kernel)
def own_Vig_12 (c1 t0 h0_ t1 h1_ : Int32) : Int32 := own_get (own_Aig_10 c1 t0 h0_ t1 h1_) (h1_ + (1 : Int32))
def own_Aig_13 (c1 t0 h0_ t1 h1_ : Int32) : List Int32 := own_set (own_Aig_10 c1 t0 h0_ t1 h1_) (h1_ + (1 : Int32)) ((own_Vig_12 c1 t0 h0_ t1 h1_) + (1 : Int32))
theorem own_Hi1_14 : ∀ (t0 h0_ t1 h1_ : Int32) (hr : own_Rn (1 : Int32) t0 h0_ t1 h1_), own_in (own_Aig_13 (1 : Int32) t0 h0_ t1 h1_) (1 : Int32) ((1 : Int32) + (1 : Int32)) := own_all4 1 (m := (1 : Int32)) (by decide) _ (by decide +kernel)
def own_Vi1_15 (t0 h0_ t1 h1_ : Int32) : Int32 := own_get (own_Aig_13 (1 : Int32) t0 h0_ t1 h1_) (1 : Int32)
theorem own_Hi1_16 : ∀ (t0 h0_ t1 h1_ : Int32) (hr : own_Rn (1 : Int32) t0 h0_ t1 h1_), own_in (own_Aig_13 (1 : Int32) t0 h0_ t1 h1_) (0 : Int32) ((1 : Int32) + (1 : Int32)) := own_all4 1 (m := (1 : Int32)) (by decide) _ (by decide +kernel)
def own_Vi1_17 (t0 h0_ t1 h1_ : Int32) : Int32 := own_get (own_Aig_13 (1 : Int32) t0 h0_ t1 h1_) (0 : Int32)
def own_Ai1_18 (t0 h0_ t1 h1_ : Int32) : List Int32 := own_set (own_Aig_13 (1 : Int32) t0 h0_ t1 h1_) (1 : Int32) ((own_Vi1_15 t0 h0_ t1 h1_) + (own_Vi1_17 t0 h0_ t1 h1_))
theorem own_Hi2_19 : ∀ (t0 h0_ t1 h1_ : Int32) (hr : own_Rn (2 : Int32) t0 h0_ t1 h1_), own_in (own_Aig_13 (2 : Int32) t0 h0_ t1 h1_) (1 : Int32) ((2 : Int32) + (1 : Int32)) := own_all4 2 (m := (2 : Int32)) (by decide) _ (by decide +kernel)
def own_Vi2_20 (t0 h0_ t1 h1_ : Int32) : Int32 := own_get (own_Aig_13 (2 : Int32) t0 h0_ t1 h1_) (1 : Int32)
theorem own_Hi2_21 : ∀ (t0 h0_ t1 h1_ : Int32) (hr : own_Rn (2 : Int32) t0 h0_ t1 h1_), own_in (own_Aig_13 (2 : Int32) t0 h0_ t1 h1_) (0 : Int32) ((2 : Int32) + (1 : Int32)) := own_all4 2 (m := (2 : Int32)) (by decide) _ (by decide +kernel)
def own_Vi2_22 (t0 h0_ t1 h1_ : Int32) : Int32 := own_get (own_Aig_13 (2 : Int32) t0 h0_ t1 h1_) (0 : Int32)
def own_Ai2_23 (t0 h0_ t1 h1_ : Int32) : List Int32 := own_set (own_Aig_13 (2 : Int32) t0 h0_ t1 h1_) (1 : Int32) ((own_Vi2_20 t0 h0_ t1 h1_) + (own_Vi2_22 t0 h0_ t1 h1_))
theorem own_Hi2_24 : ∀ (t0 h0_ t1 h1_ : Int32) (hr : own_Rn (2 : Int32) t0 h0_ t1 h1_), own_in (own_Ai2_23 t0 h0_ t1 h1_) (2 : Int32) ((2 : Int32) + (1 : Int32)) := own_all4 2 (m := (2 : Int32)) (by decide) _ (by decide +kernel)
def own_Vi2_25 (t0 h0_ t1 h1_ : Int32) : Int32 := own_get (own_Ai2_23 t0 h0_ t1 h1_) (2 : Int32)
theorem own_Hi2_26 : ∀ (t0 h0_ t1 h1_ : Int32) (hr : own_Rn (2 : Int32) t0 h0_ t1 h1_), own_in (own_Ai2_23 t0 h0_ t1 h1_) (1 : Int32) ((2 : Int32) + (1 : Int32)) := own_all4 2 (m := (2 : Int32)) (by decide) _ (by decide +kernel)
def own_Vi2_27 (t0 h0_ t1 h1_ : Int32) : Int32 := own_get (own_Ai2_23 t0 h0_ t1 h1_) (1 : Int32)
def own_Ai2_28 (t0 h0_ t1 h1_ : Int32) : List Int32 := own_set (own_Ai2_23 t0 h0_ t1 h1_) (2 : Int32) ((own_Vi2_25 t0 h0_ t1 h1_) + (own_Vi2_27 t0 h0_ t1 h1_))
theorem own_Hi3_29 : ∀ (t0 h0_ t1 h1_ : Int32) (hr : own_Rn (3 : Int32) t0 h0_ t1 h1_), own_in (own_Aig_13 (3 : Int32) t0 h0_ t1 h1_) (1 : Int32) ((3 : Int32) + (1 : Int32)) := own_all4 3 (m := (3 : Int32)) (by decide) _ (by decide +kernel)
def own_Vi3_30 (t0 h0_ t1 h1_ : Int32) : Int32 := own_get (own_Aig_13 (3 : Int32) t0 h0_ t1 h1_) (1 : Int32)
theorem own_Hi3_31 : ∀ (t0 h0_ t1 h1_ : Int32) (hr : own_Rn (3 : Int32) t0 h0_ t1 h1_), own_in (own_Aig_13 (3 : Int32) t0 h0_ t1 h1_) (0 : Int32) ((3 : Int32) + (1 : Int32)) := own_all4 3 (m := (3 : Int32)) (by decide) _ (by decide +kernel)
def own_Vi3_32 (t0 h0_ t1 h1_ : Int32) : Int32 := own_get (own_Aig_13 (3 : Int32) t0 h0_ t1 h1_) (0 : Int32)
def own_Ai3_33 (t0 h0_ t1 h1_ : Int32) : List Int32 := own_set (own_Aig_13 (3 : Int32) t0 h0_ t1 h1_) (1 : Int32) ((own_Vi3_30 t0 h0_ t1 h1_) + (own_Vi3_32 t0 h0_ t1 h1_))
theorem own_Hi3_34 : ∀ (t0 h0_ t1 h1_ : Int32) (hr : own_Rn (3 : Int32) t0 h0_ t1 h1_), own_in (own_Ai3_33 t0 h0_ t1 h1_) (2 : Int32) ((3 : Int32) + (1 : Int32)) := own_all4 3 (m := (3 : Int32)) (by decide) _ (by decide +kernel)
def own_Vi3_35 (t0 h0_ t1 h1_ : Int32) : Int32 := own_get (own_Ai3_33 t0 h0_ t1 h1_) (2 : Int32)
theorem own_Hi3_36 : ∀ (t0 h0_ t1 h1_ : Int32) (hr : own_Rn (3 : Int32) t0 h0_ t1 h1_), own_in (own_Ai3_33 t0 h0_ t1 h1_) (1 : Int32) ((3 : Int32) + (1 : Int32)) := own_all4 3 (m := (3 : Int32)) (by decide) _ (by decide +kernel)
def own_Vi3_37 (t0 h0_ t1 h1_ : Int32) : Int32 := own_get (own_Ai3_33 t0 h0_ t1 h1_) (1 : Int32)
def own_Ai3_38 (t0 h0_ t1 h1_ : Int32) : List Int32 := own_set (own_Ai3_33 t0 h0_ t1 h1_) (2 : Int32) ((own_Vi3_35 t0 h0_ t1 h1_) + (own_Vi3_37 t0 h0_ t1 h1_))
theorem own_Hi3_39 : ∀ (t0 h0_ t1 h1_ : Int32) (hr : own_Rn (3 : Int32) t0 h0_ t1 h1_), own_in (own_Ai3_38 t0 h0_ t1 h1_) (3 : Int32) ((3 : Int32) + (1 : Int32)) := own_all4 3 (m := (3 : Int32)) (by decide) _ (by decide +kernel)
def own_Vi3_40 (t0 h0_ t1 h1_ : Int32) : Int32 := own_get (own_Ai3_38 t0 h0_ t1 h1_) (3 : Int32)
theorem own_Hi3_41 : ∀ (t0 h0_ t1 h1_ : Int32) (hr : own_Rn (3 : Int32) t0 h0_ t1 h1_), own_in (own_Ai3_38 t0 h0_ t1 h1_) (2 : Int32) ((3 : Int32) + (1 : Int32)) := own_all4 3 (m := (3 : Int32)) (by decide) _ (by decide +kernel)
def own_Vi3_42 (t0 h0_ t1 h1_ : Int32) : Int32 := own_get (own_Ai3_38 t0 h0_ t1 h1_) (2 : Int32)
def own_Ai3_43 (t0 h0_ t1 h1_ : Int32) : List Int32 := own_set (own_Ai3_38 t0 h0_ t1 h1_) (3 : Int32) ((own_Vi3_40 t0 h0_ t1 h1_) + (own_Vi3_42 t0 h0_ t1 h1_))
theorem own_Hi4_44 : ∀ (t0 h0_ t1 h1_ : Int32) (hr : own_Rn (4 : Int32) t0 h0_ t1 h1_), own_in (own_Aig_13 (4 : Int32) t0 h0_ t1 h1_) (1 : Int32) ((4 : Int32) + (1 : Int32)) := own_all4 4 (m := (4 : Int32)) (by decide) _ (by decide +kernel)
def own_Vi4_45 (t0 h0_ t1 h1_ : Int32) : Int32 := own_get (own_Aig_13 (4 : Int32) t0 h0_ t1 h1_) (1 : Int32)
theorem own_Hi4_46 : ∀ (t0 h0_ t1 h1_ : Int32) (hr : own_Rn (4 : Int32) t0 h0_ t1 h1_), own_in (own_Aig_13 (4 : Int32) t0 h0_ t1 h1_) (0 : Int32) ((4 : Int32) + (1 : Int32)) := own_all4 4 (m := (4 : Int32)) (by decide) _ (by decide +kernel)
def own_Vi4_47 (t0 h0_ t1 h1_ : Int32) : Int32 := own_get (own_Aig_13 (4 : Int32) t0 h0_ t1 h1_) (0 : Int32)
def own_Ai4_48 (t0 h0_ t1 h1_ : Int32) : List Int32 := own_set (own_Aig_13 (4 : Int32) t0 h0_ t1 h1_) (1 : Int32) ((own_Vi4_45 t0 h0_ t1 h1_) + (own_Vi4_47 t0 h0_ t1 h1_))
theorem own_Hi4_49 : ∀ (t0 h0_ t1 h1_ : Int32) (hr : own_Rn (4 : Int32) t0 h0_ t1 h1_), own_in (own_Ai4_48 t0 h0_ t1 h1_) (2 : Int32) ((4 : Int32) + (1 : Int32)) := own_all4 4 (m := (4 : Int32)) (by decide) _ (by decide +kernel)
def own_Vi4_50 (t0 h0_ t1 h1_ : Int32) : Int32 := own_get (own_Ai4_48 t0 h0_ t1 h1_) (2 : Int32)
theorem own_Hi4_51 : ∀ (t0 h0_ t1 h1_ : Int32) (hr : own_Rn (4 : Int32) t0 h0_ t1 h1_), own_in (own_Ai4_48 t0 h0_ t1 h1_) (1 : Int32) ((4 : Int32) + (1 : Int32)) := own_all4 4 (m := (4 : Int32)) (by decide) _ (by decide +kernel)
def own_Vi4_52 (t0 h0_ t1 h1_ : Int32) : Int32 := own_get (own_Ai4_48 t0 h0_ t1 h1_) (1 : Int32)
def own_Ai4_53 (t0 h0_ t1 h1_ : Int32) : List Int32 := own_set (own_Ai4_48 t0 h0_ t1 h1_) (2 : Int32) ((own_Vi4_50 t0 h0_ t1 h1_) + (own_Vi4_52 t0 h0_ t1 h1_))
theorem own_Hi4_54 : ∀ (t0 h0_ t1 h1_ : Int32) (hr : own_Rn (4 : Int32) t0 h0_ t1 h1_), own_in (own_Ai4_53 t0 h0_ t1 h1_) (3 : Int32) ((4 : Int32) + (1 : Int32)) := own_all4 4 (m := (4 : Int32)) (by decide) _ (by decide +kernel)
def own_Vi4_55 (t0 h0_ t1 h1_ : Int32) : Int32 := own_get (own_Ai4_53 t0 h0_ t1 h1_) (3 : Int32)
theorem own_Hi4_56 : ∀ (t0 h0_ t1 h1_ : Int32) (hr : own_Rn (4 : Int32) t0 h0_ t1 h1_), own_in (own_Ai4_53 t0 h0_ t1 h1_) (2 : Int32) ((4 : Int32) + (1 : Int32)) := own_all4 4 (m := (4 : Int32)) (by decide) _ (by decide +kernel)
def own_Vi4_57 (t0 h0_ t1 h1_ : Int32) : Int32 := own_get (own_Ai4_53 t0 h0_ t1 h1_) (2 : Int32)
def own_Ai4_58 (t0 h0_ t1 h1_ : Int32) : List Int32 := own_set (own_Ai4_53 t0 h0_ t1 h1_) (3 : Int32) ((own_Vi4_55 t0 h0_ t1 h1_) + (own_Vi4_57 t0 h0_ t1 h1_))
theorem own_Hi4_59 : ∀ (t0 h0_ t1 h1_ : Int32) (hr : own_Rn (4 : Int32) t0 h0_ t1 h1_), own_in (own_Ai4_58 t0 h0_ t1 h1_) (4 : Int32) ((4 : Int32) + (1 : Int32)) := own_all4 4 (m := (4 : Int32)) (by decide) _ (by decide +kernel)
def own_Vi4_60 (t0 h0_ t1 h1_ : Int32) : Int32 := own_get (own_Ai4_58 t0 h0_ t1 h1_) (4 : Int32)
theorem own_Hi4_61 : ∀ (t0 h0_ t1 h1_ : Int32) (hr : own_Rn (4 : Int32) t0 h0_ t1 h1_), own_in (own_Ai4_58 t0 h0_ t1 h1_) (3 : Int32) ((4 : Int32) + (1 : Int32)) := own_all4 4 (m := (4 : Int32)) (by decide) _ (by decide +kernel)
def own_Vi4_62 (t0 h0_ t1 h1_ : Int32) : Int32 := own_get (own_Ai4_58 t0 h0_ t1 h1_) (3 : Int32)
def own_Ai4_63 (t0 h0_ t1 h1_ : Int32) : List Int32 := own_set (own_Ai4_58 t0 h0_ t1 h1_) (4 : Int32) ((own_Vi4_60 t0 h0_ t1 h1_) + (own_Vi4_62 t0 h0_ t1 h1_))
def own_Aig_64 (c1 t0 h0_ t1 h1_ : Int32) : List Int32 := if c1 = (1 : Int32) then (own_Ai1_18 t0 h0_ t1 h1_) else if c1 = (2 : Int32) then (own_Ai2_28 t0 h0_ t1 h1_) else if c1 = (3 : Int32) then (own_Ai3_43 t0 h0_ t1 h1_) else (own_Ai4_63 t0 h0_ t1 h1_)
theorem own_Hig_65 : ∀ (c1 t0 h0_ t1 h1_ : Int32) (hr : own_Rn c1 t0 h0_ t1 h1_), own_in (own_take (own_Aig_64 c1 t0 h0_ t1 h1_) c1.toNatClampNeg) t0 c1 := own_all _ (by decide +kernel)
def own_Vig_66 (c1 t0 h0_ t1 h1_ : Int32) : Int32 := own_get (own_take (own_Aig_64 c1 t0 h0_ t1 h1_) c1.toNatClampNeg) t0
def own_Aig_67 (c1 t0 h0_ t1 h1_ : Int32) : List Int32 := own_set (own_take (own_Aig_64 c1 t0 h0_ t1 h1_) c1.toNatClampNeg) t0 ((own_Vig_66 c1 t0 h0_ t1 h1_) + (1 : Int32))
theorem own_Hig_68 : ∀ (c1 t0 h0_ t1 h1_ : Int32) (hr : own_Rn c1 t0 h0_ t1 h1_), own_in (own_Aig_67 c1 t0 h0_ t1 h1_) h0_ c1 := own_all _ (by decide +kernel)
def own_Vig_69 (c1 t0 h0_ t1 h1_ : Int32) : Int32 := own_get (own_Aig_67 c1 t0 h0_ t1 h1_) h0_
def own_Aig_70 (c1 t0 h0_ t1 h1_ : Int32) : List Int32 := own_set (own_Aig_67 c1 t0 h0_ t1 h1_) h0_ ((own_Vig_69 c1 t0 h0_ t1 h1_) + (1 : Int32))
theorem own_Hig_71 : ∀ (c1 t0 h0_ t1 h1_ : Int32) (hr : own_Rn c1 t0 h0_ t1 h1_), own_in ([(0 : Int32), (0 : Int32), (0 : Int32), (0 : Int32)] : List Int32) (own_Vig_66 c1 t0 h0_ t1 h1_) (4 : Int32) := own_all _ (by decide +kernel)
def own_Aig_72 (c1 t0 h0_ t1 h1_ : Int32) : List Int32 := own_set ([(0 : Int32), (0 : Int32), (0 : Int32), (0 : Int32)] : List Int32) (own_Vig_66 c1 t0 h0_ t1 h1_) h0_
theorem own_Hig_73 : ∀ (c1 t0 h0_ t1 h1_ : Int32) (hr : own_Rn c1 t0 h0_ t1 h1_), own_in (own_Aig_72 c1 t0 h0_ t1 h1_) (own_Vig_69 c1 t0 h0_ t1 h1_) (4 : Int32) := own_all _ (by decide +kernel)
def own_Aig_74 (c1 t0 h0_ t1 h1_ : Int32) : List Int32 := own_set (own_Aig_72 c1 t0 h0_ t1 h1_) (own_Vig_69 c1 t0 h0_ t1 h1_) t0
def own_Aig_75 (c1 t0 h0_ t1 h1_ : Int32) : List Int32 := own_set ([(0 : Int32), (0 : Int32), (0 : Int32), (0 : Int32)] : List Int32) (own_Vig_66 c1 t0 h0_ t1 h1_) (0 : Int32)
theorem own_Hig_76 : ∀ (c1 t0 h0_ t1 h1_ : Int32) (hr : own_Rn c1 t0 h0_ t1 h1_), own_in (own_Aig_75 c1 t0 h0_ t1 h1_) (own_Vig_69 c1 t0 h0_ t1 h1_) (4 : Int32) := own_all _ (by decide +kernel)
def own_Aig_77 (c1 t0 h0_ t1 h1_ : Int32) : List Int32 := own_set (own_Aig_75 c1 t0 h0_ t1 h1_) (own_Vig_69 c1 t0 h0_ t1 h1_) (0 : Int32)
def own_Aig_78 (c1 t0 h0_ t1 h1_ : Int32) : List Int32 := own_set ([(0 : Int32), (0 : Int32), (0 : Int32), (0 : Int32)] : List Int32) (own_Vig_66 c1 t0 h0_ t1 h1_) (own_Vig_69 c1 t0 h0_ t1 h1_)
theorem own_Hig_79 : ∀ (c1 t0 h0_ t1 h1_ : Int32) (hr : own_Rn c1 t0 h0_ t1 h1_), own_in (own_Aig_78 c1 t0 h0_ t1 h1_) (own_Vig_69 c1 t0 h0_ t1 h1_) (4 : Int32) := own_all _ (by decide +kernel)
def own_Aig_80 (c1 t0 h0_ t1 h1_ : Int32) : List Int32 := own_set (own_Aig_78 c1 t0 h0_ t1 h1_) (own_Vig_69 c1 t0 h0_ t1 h1_) (own_Vig_66 c1 t0 h0_ t1 h1_)
theorem own_Hig_81 : ∀ (c1 t0 h0_ t1 h1_ : Int32) (hr : own_Rn c1 t0 h0_ t1 h1_), own_in (own_Aig_70 c1 t0 h0_ t1 h1_) t1 c1 := own_all _ (by decide +kernel)
def own_Vig_82 (c1 t0 h0_ t1 h1_ : Int32) : Int32 := own_get (own_Aig_70 c1 t0 h0_ t1 h1_) t1
def own_Aig_83 (c1 t0 h0_ t1 h1_ : Int32) : List Int32 := own_set (own_Aig_70 c1 t0 h0_ t1 h1_) t1 ((own_Vig_82 c1 t0 h0_ t1 h1_) + (1 : Int32))
theorem own_Hig_84 : ∀ (c1 t0 h0_ t1 h1_ : Int32) (hr : own_Rn c1 t0 h0_ t1 h1_), own_in (own_Aig_83 c1 t0 h0_ t1 h1_) h1_ c1 := own_all _ (by decide +kernel)
def own_Vig_85 (c1 t0 h0_ t1 h1_ : Int32) : Int32 := own_get (own_Aig_83 c1 t0 h0_ t1 h1_) h1_
def own_Aig_86 (c1 t0 h0_ t1 h1_ : Int32) : List Int32 := own_set (own_Aig_83 c1 t0 h0_ t1 h1_) h1_ ((own_Vig_85 c1 t0 h0_ t1 h1_) + (1 : Int32))
theorem own_Hig_87 : ∀ (c1 t0 h0_ t1 h1_ : Int32) (hr : own_Rn c1 t0 h0_ t1 h1_), own_in (own_Aig_74 c1 t0 h0_ t1 h1_) (own_Vig_82 c1 t0 h0_ t1 h1_) (4 : Int32) := own_all _ (by decide +kernel)
def own_Aig_88 (c1 t0 h0_ t1 h1_ : Int32) : List Int32 := own_set (own_Aig_74 c1 t0 h0_ t1 h1_) (own_Vig_82 c1 t0 h0_ t1 h1_) h1_
theorem own_Hig_89 : ∀ (c1 t0 h0_ t1 h1_ : Int32) (hr : own_Rn c1 t0 h0_ t1 h1_), own_in (own_Aig_88 c1 t0 h0_ t1 h1_) (own_Vig_85 c1 t0 h0_ t1 h1_) (4 : Int32) := own_all _ (by decide +kernel)
def own_Aig_90 (c1 t0 h0_ t1 h1_ : Int32) : List Int32 := own_set (own_Aig_88 c1 t0 h0_ t1 h1_) (own_Vig_85 c1 t0 h0_ t1 h1_) t1
theorem own_Hig_91 : ∀ (c1 t0 h0_ t1 h1_ : Int32) (hr : own_Rn c1 t0 h0_ t1 h1_), own_in (own_Aig_77 c1 t0 h0_ t1 h1_) (own_Vig_82 c1 t0 h0_ t1 h1_) (4 : Int32) := own_all _ (by decide +kernel)
def own_Aig_92 (c1 t0 h0_ t1 h1_ : Int32) : List Int32 := own_set (own_Aig_77 c1 t0 h0_ t1 h1_) (own_Vig_82 c1 t0 h0_ t1 h1_) (1 : Int32)
theorem own_Hig_93 : ∀ (c1 t0 h0_ t1 h1_ : Int32) (hr : own_Rn c1 t0 h0_ t1 h1_), own_in (own_Aig_92 c1 t0 h0_ t1 h1_) (own_Vig_85 c1 t0 h0_ t1 h1_) (4 : Int32) := own_all _ (by decide +kernel)
def own_Aig_94 (c1 t0 h0_ t1 h1_ : Int32) : List Int32 := own_set (own_Aig_92 c1 t0 h0_ t1 h1_) (own_Vig_85 c1 t0 h0_ t1 h1_) (1 : Int32)
theorem own_Hig_95 : ∀ (c1 t0 h0_ t1 h1_ : Int32) (hr : own_Rn c1 t0 h0_ t1 h1_), own_in (own_Aig_80 c1 t0 h0_ t1 h1_) (own_Vig_82 c1 t0 h0_ t1 h1_) (4 : Int32) := own_all _ (by decide +kernel)
def own_Aig_96 (c1 t0 h0_ t1 h1_ : Int32) : List Int32 := own_set (own_Aig_80 c1 t0 h0_ t1 h1_) (own_Vig_82 c1 t0 h0_ t1 h1_) (own_Vig_85 c1 t0 h0_ t1 h1_)
theorem own_Hig_97 : ∀ (c1 t0 h0_ t1 h1_ : Int32) (hr : own_Rn c1 t0 h0_ t1 h1_), own_in (own_Aig_96 c1 t0 h0_ t1 h1_) (own_Vig_85 c1 t0 h0_ t1 h1_) (4 : Int32) := own_all _ (by decide +kernel)
def own_Aig_98 (c1 t0 h0_ t1 h1_ : Int32) : List Int32 := own_set (own_Aig_96 c1 t0 h0_ t1 h1_) (own_Vig_85 c1 t0 h0_ t1 h1_) (own_Vig_82 c1 t0 h0_ t1 h1_)
theorem own_d6_0 : decode prog_28_method_14_code 0 = .ok (.aload_n 0, 1) := by decide +kernel
theorem own_d6_1 : decode prog_28_method_14_code 1 = .ok (.aload_n 0, 1) := by decide +kernel
theorem own_d6_2 : decode prog_28_method_14_code 2 = .ok (.getfield 21, 3) := by decide +kernel
theorem own_d6_5 : decode prog_28_method_14_code 5 = .ok (.iconst 1, 1) := by decide +kernel
theorem own_d6_6 : decode prog_28_method_14_code 6 = .ok (.iadd, 1) := by decide +kernel
theorem own_d6_7 : decode prog_28_method_14_code 7 = .ok (.newarray .int, 2) := by decide +kernel
theorem own_d6_9 : decode prog_28_method_14_code 9 = .ok (.putfield 25, 3) := by decide +kernel
theorem own_d6_12 : decode prog_28_method_14_code 12 = .ok (.iconst 0, 1) := by decide +kernel
theorem own_d6_13 : decode prog_28_method_14_code 13 = .ok (.istore_n 1, 1) := by decide +kernel
theorem own_d6_14 : decode prog_28_method_14_code 14 = .ok (.iload_n 1, 1) := by decide +kernel
theorem own_d6_15 : decode prog_28_method_14_code 15 = .ok (.aload_n 0, 1) := by decide +kernel
theorem own_d6_16 : decode prog_28_method_14_code 16 = .ok (.getfield 35, 3) := by decide +kernel
theorem own_d6_19 : decode prog_28_method_14_code 19 = .ok (.if_icmp .ge 43, 3) := by decide +kernel
theorem own_d6_22 : decode prog_28_method_14_code 22 = .ok (.aload_n 0, 1) := by decide +kernel
theorem own_d6_23 : decode prog_28_method_14_code 23 = .ok (.getfield 25, 3) := by decide +kernel
theorem own_d6_26 : decode prog_28_method_14_code 26 = .ok (.aload_n 0, 1) := by decide +kernel
theorem own_d6_27 : decode prog_28_method_14_code 27 = .ok (.getfield 9, 3) := by decide +kernel
theorem own_d6_30 : decode prog_28_method_14_code 30 = .ok (.iload_n 1, 1) := by decide +kernel
theorem own_d6_31 : decode prog_28_method_14_code 31 = .ok (.iaload, 1) := by decide +kernel
theorem own_d6_32 : decode prog_28_method_14_code 32 = .ok (.iconst 1, 1) := by decide +kernel
theorem own_d6_33 : decode prog_28_method_14_code 33 = .ok (.iadd, 1) := by decide +kernel
theorem own_d6_34 : decode prog_28_method_14_code 34 = .ok (.dup2, 1) := by decide +kernel
theorem own_d6_35 : decode prog_28_method_14_code 35 = .ok (.iaload, 1) := by decide +kernel
theorem own_d6_36 : decode prog_28_method_14_code 36 = .ok (.iconst 1, 1) := by decide +kernel
theorem own_d6_37 : decode prog_28_method_14_code 37 = .ok (.iadd, 1) := by decide +kernel
theorem own_d6_38 : decode prog_28_method_14_code 38 = .ok (.iastore, 1) := by decide +kernel
theorem own_d6_39 : decode prog_28_method_14_code 39 = .ok (.aload_n 0, 1) := by decide +kernel
theorem own_d6_40 : decode prog_28_method_14_code 40 = .ok (.getfield 25, 3) := by decide +kernel
theorem own_d6_43 : decode prog_28_method_14_code 43 = .ok (.aload_n 0, 1) := by decide +kernel
theorem own_d6_44 : decode prog_28_method_14_code 44 = .ok (.getfield 15, 3) := by decide +kernel
theorem own_d6_47 : decode prog_28_method_14_code 47 = .ok (.iload_n 1, 1) := by decide +kernel
theorem own_d6_48 : decode prog_28_method_14_code 48 = .ok (.iaload, 1) := by decide +kernel
theorem own_d6_49 : decode prog_28_method_14_code 49 = .ok (.iconst 1, 1) := by decide +kernel
theorem own_d6_50 : decode prog_28_method_14_code 50 = .ok (.iadd, 1) := by decide +kernel
theorem own_d6_51 : decode prog_28_method_14_code 51 = .ok (.dup2, 1) := by decide +kernel
theorem own_d6_52 : decode prog_28_method_14_code 52 = .ok (.iaload, 1) := by decide +kernel
theorem own_d6_53 : decode prog_28_method_14_code 53 = .ok (.iconst 1, 1) := by decide +kernel
theorem own_d6_54 : decode prog_28_method_14_code 54 = .ok (.iadd, 1) := by decide +kernel
theorem own_d6_55 : decode prog_28_method_14_code 55 = .ok (.iastore, 1) := by decide +kernel
theorem own_d6_56 : decode prog_28_method_14_code 56 = .ok (.iinc 1 1, 3) := by decide +kernel
theorem own_d6_59 : decode prog_28_method_14_code 59 = .ok (.goto (-45), 3) := by decide +kernel
theorem own_d6_62 : decode prog_28_method_14_code 62 = .ok (.iconst 0, 1) := by decide +kernel
theorem own_d6_63 : decode prog_28_method_14_code 63 = .ok (.istore_n 1, 1) := by decide +kernel
theorem own_d6_64 : decode prog_28_method_14_code 64 = .ok (.iload_n 1, 1) := by decide +kernel
theorem own_d6_65 : decode prog_28_method_14_code 65 = .ok (.aload_n 0, 1) := by decide +kernel
theorem own_d6_66 : decode prog_28_method_14_code 66 = .ok (.getfield 21, 3) := by decide +kernel
theorem own_d6_69 : decode prog_28_method_14_code 69 = .ok (.if_icmp .ge 26, 3) := by decide +kernel
theorem own_d6_72 : decode prog_28_method_14_code 72 = .ok (.aload_n 0, 1) := by decide +kernel
theorem own_d6_73 : decode prog_28_method_14_code 73 = .ok (.getfield 25, 3) := by decide +kernel
theorem own_d6_76 : decode prog_28_method_14_code 76 = .ok (.iload_n 1, 1) := by decide +kernel
theorem own_d6_77 : decode prog_28_method_14_code 77 = .ok (.iconst 1, 1) := by decide +kernel
theorem own_d6_78 : decode prog_28_method_14_code 78 = .ok (.iadd, 1) := by decide +kernel
theorem own_d6_79 : decode prog_28_method_14_code 79 = .ok (.dup2, 1) := by decide +kernel
theorem own_d6_80 : decode prog_28_method_14_code 80 = .ok (.iaload, 1) := by decide +kernel
theorem own_d6_81 : decode prog_28_method_14_code 81 = .ok (.aload_n 0, 1) := by decide +kernel
theorem own_d6_82 : decode prog_28_method_14_code 82 = .ok (.getfield 25, 3) := by decide +kernel
theorem own_d6_85 : decode prog_28_method_14_code 85 = .ok (.iload_n 1, 1) := by decide +kernel
theorem own_d6_86 : decode prog_28_method_14_code 86 = .ok (.iaload, 1) := by decide +kernel
theorem own_d6_87 : decode prog_28_method_14_code 87 = .ok (.iadd, 1) := by decide +kernel
theorem own_d6_88 : decode prog_28_method_14_code 88 = .ok (.iastore, 1) := by decide +kernel
theorem own_d6_89 : decode prog_28_method_14_code 89 = .ok (.iinc 1 1, 3) := by decide +kernel
theorem own_d6_92 : decode prog_28_method_14_code 92 = .ok (.goto (-28), 3) := by decide +kernel
theorem own_d6_95 : decode prog_28_method_14_code 95 = .ok (.aload_n 0, 1) := by decide +kernel
theorem own_d6_96 : decode prog_28_method_14_code 96 = .ok (.iconst 2, 1) := by decide +kernel
theorem own_d6_97 : decode prog_28_method_14_code 97 = .ok (.aload_n 0, 1) := by decide +kernel
theorem own_d6_98 : decode prog_28_method_14_code 98 = .ok (.getfield 35, 3) := by decide +kernel
theorem own_d6_101 : decode prog_28_method_14_code 101 = .ok (.imul, 1) := by decide +kernel
theorem own_d6_102 : decode prog_28_method_14_code 102 = .ok (.newarray .int, 2) := by decide +kernel
theorem own_d6_104 : decode prog_28_method_14_code 104 = .ok (.putfield 62, 3) := by decide +kernel
theorem own_d6_107 : decode prog_28_method_14_code 107 = .ok (.aload_n 0, 1) := by decide +kernel
theorem own_d6_108 : decode prog_28_method_14_code 108 = .ok (.iconst 2, 1) := by decide +kernel
theorem own_d6_109 : decode prog_28_method_14_code 109 = .ok (.aload_n 0, 1) := by decide +kernel
theorem own_d6_110 : decode prog_28_method_14_code 110 = .ok (.getfield 35, 3) := by decide +kernel
theorem own_d6_113 : decode prog_28_method_14_code 113 = .ok (.imul, 1) := by decide +kernel
theorem own_d6_114 : decode prog_28_method_14_code 114 = .ok (.newarray .int, 2) := by decide +kernel
theorem own_d6_116 : decode prog_28_method_14_code 116 = .ok (.putfield 68, 3) := by decide +kernel
theorem own_d6_119 : decode prog_28_method_14_code 119 = .ok (.aload_n 0, 1) := by decide +kernel
theorem own_d6_120 : decode prog_28_method_14_code 120 = .ok (.iconst 2, 1) := by decide +kernel
theorem own_d6_121 : decode prog_28_method_14_code 121 = .ok (.aload_n 0, 1) := by decide +kernel
theorem own_d6_122 : decode prog_28_method_14_code 122 = .ok (.getfield 35, 3) := by decide +kernel
theorem own_d6_125 : decode prog_28_method_14_code 125 = .ok (.imul, 1) := by decide +kernel
theorem own_d6_126 : decode prog_28_method_14_code 126 = .ok (.newarray .int, 2) := by decide +kernel
theorem own_d6_128 : decode prog_28_method_14_code 128 = .ok (.putfield 65, 3) := by decide +kernel
theorem own_d6_131 : decode prog_28_method_14_code 131 = .ok (.aload_n 0, 1) := by decide +kernel
theorem own_d6_132 : decode prog_28_method_14_code 132 = .ok (.aload_n 0, 1) := by decide +kernel
theorem own_d6_133 : decode prog_28_method_14_code 133 = .ok (.getfield 35, 3) := by decide +kernel
theorem own_d6_136 : decode prog_28_method_14_code 136 = .ok (.newarray .int, 2) := by decide +kernel
theorem own_d6_138 : decode prog_28_method_14_code 138 = .ok (.putfield 54, 3) := by decide +kernel
theorem own_d6_141 : decode prog_28_method_14_code 141 = .ok (.aload_n 0, 1) := by decide +kernel
theorem own_d6_142 : decode prog_28_method_14_code 142 = .ok (.getfield 25, 3) := by decide +kernel
theorem own_d6_145 : decode prog_28_method_14_code 145 = .ok (.aload_n 0, 1) := by decide +kernel
theorem own_d6_146 : decode prog_28_method_14_code 146 = .ok (.getfield 21, 3) := by decide +kernel
theorem own_d6_149 : decode prog_28_method_14_code 149 = .ok (.invokestatic 38, 3) := by decide +kernel
theorem own_d6_152 : decode prog_28_method_14_code 152 = .ok (.astore_n 1, 1) := by decide +kernel
theorem own_d6_153 : decode prog_28_method_14_code 153 = .ok (.iconst 0, 1) := by decide +kernel
theorem own_d6_154 : decode prog_28_method_14_code 154 = .ok (.istore_n 2, 1) := by decide +kernel
theorem own_d6_155 : decode prog_28_method_14_code 155 = .ok (.iload_n 2, 1) := by decide +kernel
theorem own_d6_156 : decode prog_28_method_14_code 156 = .ok (.aload_n 0, 1) := by decide +kernel
theorem own_d6_157 : decode prog_28_method_14_code 157 = .ok (.getfield 35, 3) := by decide +kernel
theorem own_d6_160 : decode prog_28_method_14_code 160 = .ok (.if_icmp .ge 101, 3) := by decide +kernel
theorem own_d6_163 : decode prog_28_method_14_code 163 = .ok (.aload_n 1, 1) := by decide +kernel
theorem own_d6_164 : decode prog_28_method_14_code 164 = .ok (.aload_n 0, 1) := by decide +kernel
theorem own_d6_165 : decode prog_28_method_14_code 165 = .ok (.getfield 9, 3) := by decide +kernel
theorem own_d6_168 : decode prog_28_method_14_code 168 = .ok (.iload_n 2, 1) := by decide +kernel
theorem own_d6_169 : decode prog_28_method_14_code 169 = .ok (.iaload, 1) := by decide +kernel
theorem own_d6_170 : decode prog_28_method_14_code 170 = .ok (.dup2, 1) := by decide +kernel
theorem own_d6_171 : decode prog_28_method_14_code 171 = .ok (.iaload, 1) := by decide +kernel
theorem own_d6_172 : decode prog_28_method_14_code 172 = .ok (.dup_x2, 1) := by decide +kernel
theorem own_d6_173 : decode prog_28_method_14_code 173 = .ok (.iconst 1, 1) := by decide +kernel
theorem own_d6_174 : decode prog_28_method_14_code 174 = .ok (.iadd, 1) := by decide +kernel
theorem own_d6_175 : decode prog_28_method_14_code 175 = .ok (.iastore, 1) := by decide +kernel
theorem own_d6_176 : decode prog_28_method_14_code 176 = .ok (.istore_n 3, 1) := by decide +kernel
theorem own_d6_177 : decode prog_28_method_14_code 177 = .ok (.aload_n 1, 1) := by decide +kernel
theorem own_d6_178 : decode prog_28_method_14_code 178 = .ok (.aload_n 0, 1) := by decide +kernel
theorem own_d6_179 : decode prog_28_method_14_code 179 = .ok (.getfield 15, 3) := by decide +kernel
theorem own_d6_182 : decode prog_28_method_14_code 182 = .ok (.iload_n 2, 1) := by decide +kernel
theorem own_d6_183 : decode prog_28_method_14_code 183 = .ok (.iaload, 1) := by decide +kernel
theorem own_d6_184 : decode prog_28_method_14_code 184 = .ok (.dup2, 1) := by decide +kernel
theorem own_d6_185 : decode prog_28_method_14_code 185 = .ok (.iaload, 1) := by decide +kernel
theorem own_d6_186 : decode prog_28_method_14_code 186 = .ok (.dup_x2, 1) := by decide +kernel
theorem own_d6_187 : decode prog_28_method_14_code 187 = .ok (.iconst 1, 1) := by decide +kernel
theorem own_d6_188 : decode prog_28_method_14_code 188 = .ok (.iadd, 1) := by decide +kernel
theorem own_d6_189 : decode prog_28_method_14_code 189 = .ok (.iastore, 1) := by decide +kernel
theorem own_d6_190 : decode prog_28_method_14_code 190 = .ok (.istore 4, 2) := by decide +kernel
theorem own_d6_192 : decode prog_28_method_14_code 192 = .ok (.aload_n 0, 1) := by decide +kernel
theorem own_d6_193 : decode prog_28_method_14_code 193 = .ok (.getfield 62, 3) := by decide +kernel
theorem own_d6_196 : decode prog_28_method_14_code 196 = .ok (.iload_n 3, 1) := by decide +kernel
theorem own_d6_197 : decode prog_28_method_14_code 197 = .ok (.aload_n 0, 1) := by decide +kernel
theorem own_d6_198 : decode prog_28_method_14_code 198 = .ok (.getfield 15, 3) := by decide +kernel
theorem own_d6_201 : decode prog_28_method_14_code 201 = .ok (.iload_n 2, 1) := by decide +kernel
theorem own_d6_202 : decode prog_28_method_14_code 202 = .ok (.iaload, 1) := by decide +kernel
theorem own_d6_203 : decode prog_28_method_14_code 203 = .ok (.iastore, 1) := by decide +kernel
theorem own_d6_204 : decode prog_28_method_14_code 204 = .ok (.aload_n 0, 1) := by decide +kernel
theorem own_d6_205 : decode prog_28_method_14_code 205 = .ok (.getfield 62, 3) := by decide +kernel
theorem own_d6_208 : decode prog_28_method_14_code 208 = .ok (.iload 4, 2) := by decide +kernel
theorem own_d6_210 : decode prog_28_method_14_code 210 = .ok (.aload_n 0, 1) := by decide +kernel
theorem own_d6_211 : decode prog_28_method_14_code 211 = .ok (.getfield 9, 3) := by decide +kernel
theorem own_d6_214 : decode prog_28_method_14_code 214 = .ok (.iload_n 2, 1) := by decide +kernel
theorem own_d6_215 : decode prog_28_method_14_code 215 = .ok (.iaload, 1) := by decide +kernel
theorem own_d6_216 : decode prog_28_method_14_code 216 = .ok (.iastore, 1) := by decide +kernel
theorem own_d6_217 : decode prog_28_method_14_code 217 = .ok (.aload_n 0, 1) := by decide +kernel
theorem own_d6_218 : decode prog_28_method_14_code 218 = .ok (.getfield 68, 3) := by decide +kernel
theorem own_d6_221 : decode prog_28_method_14_code 221 = .ok (.iload_n 3, 1) := by decide +kernel
theorem own_d6_222 : decode prog_28_method_14_code 222 = .ok (.iload_n 2, 1) := by decide +kernel
theorem own_d6_223 : decode prog_28_method_14_code 223 = .ok (.iastore, 1) := by decide +kernel
theorem own_d6_224 : decode prog_28_method_14_code 224 = .ok (.aload_n 0, 1) := by decide +kernel
theorem own_d6_225 : decode prog_28_method_14_code 225 = .ok (.getfield 68, 3) := by decide +kernel
theorem own_d6_228 : decode prog_28_method_14_code 228 = .ok (.iload 4, 2) := by decide +kernel
theorem own_d6_230 : decode prog_28_method_14_code 230 = .ok (.iload_n 2, 1) := by decide +kernel
theorem own_d6_231 : decode prog_28_method_14_code 231 = .ok (.iastore, 1) := by decide +kernel
theorem own_d6_232 : decode prog_28_method_14_code 232 = .ok (.aload_n 0, 1) := by decide +kernel
theorem own_d6_233 : decode prog_28_method_14_code 233 = .ok (.getfield 65, 3) := by decide +kernel
theorem own_d6_236 : decode prog_28_method_14_code 236 = .ok (.iload_n 3, 1) := by decide +kernel
theorem own_d6_237 : decode prog_28_method_14_code 237 = .ok (.iload 4, 2) := by decide +kernel
theorem own_d6_239 : decode prog_28_method_14_code 239 = .ok (.iastore, 1) := by decide +kernel
theorem own_d6_240 : decode prog_28_method_14_code 240 = .ok (.aload_n 0, 1) := by decide +kernel
theorem own_d6_241 : decode prog_28_method_14_code 241 = .ok (.getfield 65, 3) := by decide +kernel
theorem own_d6_244 : decode prog_28_method_14_code 244 = .ok (.iload 4, 2) := by decide +kernel
theorem own_d6_246 : decode prog_28_method_14_code 246 = .ok (.iload_n 3, 1) := by decide +kernel
theorem own_d6_247 : decode prog_28_method_14_code 247 = .ok (.iastore, 1) := by decide +kernel
theorem own_d6_248 : decode prog_28_method_14_code 248 = .ok (.aload_n 0, 1) := by decide +kernel
theorem own_d6_249 : decode prog_28_method_14_code 249 = .ok (.getfield 54, 3) := by decide +kernel
theorem own_d6_252 : decode prog_28_method_14_code 252 = .ok (.iload_n 2, 1) := by decide +kernel
theorem own_d6_253 : decode prog_28_method_14_code 253 = .ok (.iload_n 3, 1) := by decide +kernel
theorem own_d6_254 : decode prog_28_method_14_code 254 = .ok (.iastore, 1) := by decide +kernel
theorem own_d6_255 : decode prog_28_method_14_code 255 = .ok (.iinc 2 1, 3) := by decide +kernel
theorem own_d6_258 : decode prog_28_method_14_code 258 = .ok (.goto (-103), 3) := by decide +kernel
theorem own_d6_261 : decode prog_28_method_14_code 261 = .ok (.return_, 1) := by decide +kernel
abbrev own_ix_R : Room := { frames := 2, cells := 6, slots := 23, locals := 54 }
theorem own_pn6 : plainFor (⟨"com/example/dissoc/dissoc/mincut/FlowNetwork", "index", "()V"⟩ : MethodName) = true := plainFor_of_name (by first | (simp [plainName, overriddenIn]; done) | decide +kernel)
theorem own_ix_ef (m : MethodId) (a1 : Addr) : entryFrame m #[(.ref a1)] 5 = mkF m 0 #[.val (.ref a1), .unset, .unset, .unset, .unset] [] := by first | (simp [entryFrame, mkF, argsToLocals, Value.category]; done) | rfl
def own_ix_q (Z : State) (a1 : Addr) (c1 : Int32) (t0 : Int32) (h0_ : Int32) (t1 : Int32) (h1_ : Int32) (fb : Addr) (tb : Addr) (k_fb : ClassId) (k_tb : ClassId) (cb : Addr) (h0 : Heap) (v : Option Value) (h : Heap) : Prop := ∃ (fa : Addr) (ta : Addr) (ea : Addr) (va : Addr) (fo : Addr) (ke : ClassId) (kv : ClassId) (ko : ClassId), v = none ∧ Keep h0 h [a1] ∧ h0.size ≤ fa ∧ h0.size ≤ ta ∧ h0.size ≤ ea ∧ h0.size ≤ va ∧ h0.size ≤ fo ∧ Exa Z h a1 own_cN ∧ Fld Z h a1 own_cN "from" "[I" (.ref fb) ∧ Fld Z h a1 own_cN "to" "[I" (.ref tb) ∧ Fld Z h a1 own_cN "capacity" "[I" (.ref cb) ∧ Fld Z h a1 own_cN "nodes" "I" (.int c1) ∧ Fld Z h a1 own_cN "firstArc" "[I" (.ref fa) ∧ Fld Z h a1 own_cN "edges" "I" (.int (2 : Int32)) ∧ Fld Z h a1 own_cN "target" "[I" (.ref ta) ∧ Fld Z h a1 own_cN "edgeAt" "[I" (.ref ea) ∧ Fld Z h a1 own_cN "reverse" "[I" (.ref va) ∧ Fld Z h a1 own_cN "forward" "[I" (.ref fo) ∧ Arv Z h ea ke .int (4 : Int32) ((own_Aig_94 c1 t0 h0_ t1 h1_).map Value.int) (.int (0 : Int32)) ∧ Arv Z h va kv .int (4 : Int32) ((own_Aig_98 c1 t0 h0_ t1 h1_).map Value.int) (.int (0 : Int32)) ∧ Arv Z h fo ko .int (2 : Int32) [(.int (own_Vig_66 c1 t0 h0_ t1 h1_)), (.int (own_Vig_82 c1 t0 h0_ t1 h1_))] (.int (0 : Int32))
set_option maxRecDepth 65536 in
set_option maxHeartbeats 40000000 in
theorem own_ix (l : Launch) (Z : State) (a0 : Array Value) (hw : ∀ d ∈ tables_1, d.before a0 Z = true) (ws : List Jvm.Cond) (a1 : Addr) (c1 : Int32) (t0 : Int32) (h0_ : Int32) (t1 : Int32) (h1_ : Int32) (fb : Addr) (tb : Addr) (k_fb : ClassId) (k_tb : ClassId) (cb : Addr) (h0 : Heap) (n0 : Nat) (Z0 : n0 ≤ h0.size) (i_En : Exa Z h0 a1 own_cN) (i_N_from : Fld Z h0 a1 own_cN "from" "[I" (.ref fb)) (i_N_to : Fld Z h0 a1 own_cN "to" "[I" (.ref tb)) (i_N_capacity : Fld Z h0 a1 own_cN "capacity" "[I" (.ref cb)) (i_N_nodes : Fld Z h0 a1 own_cN "nodes" "I" (.int c1)) (i_N_firstArc : Fld Z h0 a1 own_cN "firstArc" "[I" .null) (i_N_edges : Fld Z h0 a1 own_cN "edges" "I" (.int (2 : Int32))) (i_N_target : Fld Z h0 a1 own_cN "target" "[I" .null) (i_N_edgeAt : Fld Z h0 a1 own_cN "edgeAt" "[I" .null) (i_N_reverse : Fld Z h0 a1 own_cN "reverse" "[I" .null) (i_N_forward : Fld Z h0 a1 own_cN "forward" "[I" .null) (i_Afb : Arv Z h0 fb k_fb .int (16 : Int32) [(.int t0), (.int t1), (.int (0 : Int32)), (.int (0 : Int32)), (.int (0 : Int32)), (.int (0 : Int32)), (.int (0 : Int32)), (.int (0 : Int32)), (.int (0 : Int32)), (.int (0 : Int32)), (.int (0 : Int32)), (.int (0 : Int32)), (.int (0 : Int32)), (.int (0 : Int32)), (.int (0 : Int32)), (.int (0 : Int32))] (.int (0 : Int32))) (i_Atb : Arv Z h0 tb k_tb .int (16 : Int32) [(.int h0_), (.int h1_), (.int (0 : Int32)), (.int (0 : Int32)), (.int (0 : Int32)), (.int (0 : Int32)), (.int (0 : Int32)), (.int (0 : Int32)), (.int (0 : Int32)), (.int (0 : Int32)), (.int (0 : Int32)), (.int (0 : Int32)), (.int (0 : Int32)), (.int (0 : Int32)), (.int (0 : Int32)), (.int (0 : Int32))] (.int (0 : Int32))) (g_a1 : n0 ≤ a1) (ne_a1_fb : a1 ≠ fb) (ne_a1_tb : a1 ≠ tb) (hp_hr : own_Rn c1 t0 h0_ t1 h1_) :
    own_C l Z (⟨"com/example/dissoc/dissoc/mincut/FlowNetwork", "index", "()V"⟩ : MethodName) prog_28_method_14_code 5 none ws own_ix_R #[(.ref a1)] h0 (own_W n0 (own_ix_q Z a1 c1 t0 h0_ t1 h1_ fb tb k_fb k_tb cb h0)) := by
  refine MetFree.of_bodySF own_pn6 hisR ?_
  intro p e s m args below meth c s₁ Bd hml0 hP hK
  obtain ⟨rfl, hZ, hh⟩ := hP
  have hx := Bd.exec
  have hby := Bd.bytes
  have hml : c.maxLocals = 5 := hml0
  have hown : s.vm.findClass "com/example/dissoc/dissoc/mincut/FlowNetwork" = some m.cls := findClass_of_methodNamed Bd.named
  have hnm := (name_of_methodNamed Bd.named Bd.method).1
  have X0 : Stand p l e own_ix_R s m #[(.ref a1)] below meth c s₁ [] 0 0 := Stand.of_body Bd
  have e0 : s₁.heap = h0 := by rw [← hh, Bd.state]; rfl
  have N0 := Fr.nil n0
  have K0 : Keep h0 h0 [a1] := Keep.refl h0 _
  show own_G p e below (own_P s (own_W n0 (own_ix_q Z a1 c1 t0 h0_ t1 h1_ fb tb k_fb k_tb cb h0)) own_ix_R.cells own_ix_R.slots) (s₁.setTop (entryFrame m #[(.ref a1)] 5))
  rw [own_ix_ef m a1]
  show own_H s₁ 0 #[.val (.ref a1), .unset, .unset, .unset, .unset] []
  refine own_via (fun t k => XS.aloadN X0.here hx rfl (hb hby own_d6_0) rfl rfl k) ?_
  refine own_via (fun t k => XS.aloadN X0.here hx rfl (hb hby own_d6_1) rfl rfl k) ?_
  show own_H s₁ 2 #[.val (.ref a1), .unset, .unset, .unset, .unset] [(.ref a1), (.ref a1)]
  obtain ⟨T1, X1, e1, st1⟩ := getF X0 hx hZ hown (host := "") (Or.inl (own_u hw 17 rfl)) Via.refl e0 i_N_nodes (g := (mkF m 2 #[.val (.ref a1), .unset, .unset, .unset, .unset] [(.ref a1), (.ref a1)])) rfl rfl (hb hby own_d6_2)
  refine own_via st1 ?_
  show own_H T1 5 #[.val (.ref a1), .unset, .unset, .unset, .unset] [(.int c1), (.ref a1)]
  refine own_via (fun t k => XS.iconst X1.here hx rfl (hb hby own_d6_5) k) ?_
  show own_H T1 6 #[.val (.ref a1), .unset, .unset, .unset, .unset] [(.int (1 : Int32)), (.int c1), (.ref a1)]
  refine own_via (fun t k => XS.iadd X1.here hx rfl (hb hby own_d6_6) rfl k) ?_
  show own_H T1 7 #[.val (.ref a1), .unset, .unset, .unset, .unset] [(.int (c1 + (1 : Int32))), (.ref a1)]
  obtain ⟨T2, h2, k2, b2, X2, e2, E2, ga2, V2, Ex2, st2⟩ := own_newA X1 hx hZ (own_u hw 10 rfl) e1 (pc := 7) (Ls := #[.val (.ref a1), .unset, .unset, .unset, .unset]) (rest := [(.ref a1)]) (hb hby own_d6_7) (n := (c1 + (1 : Int32))) (own_Hig_0 c1 t0 h0_ t1 h1_ hp_hr) (cap := 5) (own_Hig_1 c1 t0 h0_ t1 h1_ hp_hr) (by decide) (by decide) (by decide) 5 rfl
  refine own_via st2 ?_
  have sz_b2 : h0.size ≤ b2 := Nat.le_trans K0.1 (Nat.le_of_eq ga2.symm)
  have ne3 : a1 ≠ b2 := Nat.ne_of_lt (Nat.lt_of_lt_of_le i_En.lt (Nat.le_of_eq ga2.symm))
  have ne4 : fb ≠ b2 := Nat.ne_of_lt (Nat.lt_of_lt_of_le i_Afb.lt (Nat.le_of_eq ga2.symm))
  have ne5 : tb ≠ b2 := Nat.ne_of_lt (Nat.lt_of_lt_of_le i_Atb.lt (Nat.le_of_eq ga2.symm))
  have f6 := i_En.ext E2
  have f7 := i_N_from.ext E2
  have f8 := i_N_to.ext E2
  have f9 := i_N_capacity.ext E2
  have f10 := i_N_nodes.ext E2
  have f11 := i_N_firstArc.ext E2
  have f12 := i_N_edges.ext E2
  have f13 := i_N_target.ext E2
  have f14 := i_N_edgeAt.ext E2
  have f15 := i_N_reverse.ext E2
  have f16 := i_N_forward.ext E2
  have f17 := i_Afb.ext E2
  have f18 := i_Atb.ext E2
  have Kp19 := K0.ext E2
  have f20 : Arv Z h2 b2 k2 .int (c1 + (1 : Int32)) [(.int (0 : Int32)), (.int (0 : Int32)), (.int (0 : Int32)), (.int (0 : Int32)), (.int (0 : Int32))] (.int (0 : Int32)) := V2
  have g_b2 : n0 ≤ b2 := Nat.le_trans Z0 (Nat.le_of_eq ga2.symm)
  have Zs21 : n0 ≤ h2.size := Nat.le_trans Z0 E2.1
  show own_H T2 9 #[.val (.ref a1), .unset, .unset, .unset, .unset] [(.ref b2), (.ref a1)]
  clear i_En i_N_from i_N_to i_N_capacity i_N_nodes i_N_firstArc i_N_edges i_N_target i_N_edgeAt i_N_reverse i_N_forward i_Afb i_Atb K0
  obtain ⟨T22, h22, L22, X22, N22, e22, W22, F22, st22⟩ := own_putF X2 N0 hx hZ hown (own_u hw 24 rfl) e2 f11 f6 (Or.inl (own_u hw 25 rfl)) (own_u hw 2 rfl) g_a1 (ty := (.array .int)) (v := (.ref b2)) (by decide) rfl rfl (pc := 9) (Ls := #[.val (.ref a1), .unset, .unset, .unset, .unset]) (rest := []) (hb hby own_d6_9)
  refine own_via st22 ?_
  have f23 := f6.wr W22
  have f24 := f7.other W22 (Or.inr (slot_ne (Or.inl (own_u hw 12 rfl)) (Or.inl (own_u hw 25 rfl)) (by decide) rfl rfl))
  have f25 := f8.other W22 (Or.inr (slot_ne (Or.inl (own_u hw 14 rfl)) (Or.inl (own_u hw 25 rfl)) (by decide) rfl rfl))
  have f26 := f9.other W22 (Or.inr (slot_ne (Or.inl (own_u hw 16 rfl)) (Or.inl (own_u hw 25 rfl)) (by decide) rfl rfl))
  have f27 := f10.other W22 (Or.inr (slot_ne (Or.inr (own_u hw 18 rfl)) (Or.inl (own_u hw 25 rfl)) (by decide) rfl rfl))
  have f28 := f12.other W22 (Or.inr (slot_ne (Or.inl (own_u hw 27 rfl)) (Or.inl (own_u hw 25 rfl)) (by decide) rfl rfl))
  have f29 := f13.other W22 (Or.inr (slot_ne (Or.inl (own_u hw 43 rfl)) (Or.inl (own_u hw 25 rfl)) (by decide) rfl rfl))
  have f30 := f14.other W22 (Or.inr (slot_ne (Or.inl (own_u hw 45 rfl)) (Or.inl (own_u hw 25 rfl)) (by decide) rfl rfl))
  have f31 := f15.other W22 (Or.inr (slot_ne (Or.inl (own_u hw 47 rfl)) (Or.inl (own_u hw 25 rfl)) (by decide) rfl rfl))
  have f32 := f16.other W22 (Or.inr (slot_ne (Or.inl (own_u hw 49 rfl)) (Or.inl (own_u hw 25 rfl)) (by decide) rfl rfl))
  have f33 := f17.other W22 (Ne.symm ne_a1_fb)
  have f34 := f18.other W22 (Ne.symm ne_a1_tb)
  have f35 := f20.other W22 (Ne.symm ne3)
  have Kp36 := Kp19.wr W22 (Or.inl (List.mem_of_getElem? (i := 0) rfl))
  have Zs37 : n0 ≤ h22.size := by rw [W22.size]; exact Zs21
  show own_H T22 12 #[.val (.ref a1), .unset, .unset, .unset, .unset] []
  clear f6 f7 f8 f9 f10 f11 f12 f13 f14 f15 f16 f17 f18 f20 Kp19 Zs21
  refine own_via (fun t k => XS.iconst X22.here hx rfl (hb hby own_d6_12) k) ?_
  show own_H T22 13 #[.val (.ref a1), .unset, .unset, .unset, .unset] [(.int (0 : Int32))]
  refine own_via (fun t k => XS.istoreN X22.here hx rfl (hb hby own_d6_13) rfl (l' := #[.val (.ref a1), .val (.int (0 : Int32)), .unset, .unset, .unset]) rfl k) ?_
  refine own_via (fun t k => XS.iloadN X22.here hx rfl (hb hby own_d6_14) rfl k) ?_
  refine own_via (fun t k => XS.aloadN X22.here hx rfl (hb hby own_d6_15) rfl rfl k) ?_
  show own_H T22 16 #[.val (.ref a1), .val (.int (0 : Int32)), .unset, .unset, .unset] [(.ref a1), (.int (0 : Int32))]
  obtain ⟨T38, X38, e38, st38⟩ := getF X22 hx hZ hown (host := "") (Or.inl (own_u hw 26 rfl)) Via.refl e22 f28 (g := (mkF m 16 #[.val (.ref a1), .val (.int (0 : Int32)), .unset, .unset, .unset] [(.ref a1), (.int (0 : Int32))])) rfl rfl (hb hby own_d6_16)
  refine own_via st38 ?_
  show own_H T38 19 #[.val (.ref a1), .val (.int (0 : Int32)), .unset, .unset, .unset] [(.int (2 : Int32)), (.int (0 : Int32))]
  refine own_via (fun t k => XS.icmpNo X38.here hx rfl (hb hby own_d6_19) rfl (tlt (by decide : (0 : Int32) < (2 : Int32))).2.1 k) ?_
  show own_H T38 22 #[.val (.ref a1), .val (.int (0 : Int32)), .unset, .unset, .unset] []
  refine own_via (fun t k => XS.aloadN X38.here hx rfl (hb hby own_d6_22) rfl rfl k) ?_
  show own_H T38 23 #[.val (.ref a1), .val (.int (0 : Int32)), .unset, .unset, .unset] [(.ref a1)]
  obtain ⟨T39, X39, e39, st39⟩ := getF X38 hx hZ hown (host := "") (Or.inl (own_u hw 24 rfl)) Via.refl e38 F22 (g := (mkF m 23 #[.val (.ref a1), .val (.int (0 : Int32)), .unset, .unset, .unset] [(.ref a1)])) rfl rfl (hb hby own_d6_23)
  refine own_via st39 ?_
  show own_H T39 26 #[.val (.ref a1), .val (.int (0 : Int32)), .unset, .unset, .unset] [(.ref b2)]
  refine own_via (fun t k => XS.aloadN X39.here hx rfl (hb hby own_d6_26) rfl rfl k) ?_
  show own_H T39 27 #[.val (.ref a1), .val (.int (0 : Int32)), .unset, .unset, .unset] [(.ref a1), (.ref b2)]
  obtain ⟨T40, X40, e40, st40⟩ := getF X39 hx hZ hown (host := "") (Or.inl (own_u hw 11 rfl)) Via.refl e39 f24 (g := (mkF m 27 #[.val (.ref a1), .val (.int (0 : Int32)), .unset, .unset, .unset] [(.ref a1), (.ref b2)])) rfl rfl (hb hby own_d6_27)
  refine own_via st40 ?_
  show own_H T40 30 #[.val (.ref a1), .val (.int (0 : Int32)), .unset, .unset, .unset] [(.ref fb), (.ref b2)]
  refine own_via (fun t k => XS.iloadN X40.here hx rfl (hb hby own_d6_30) rfl k) ?_
  show own_H T40 31 #[.val (.ref a1), .val (.int (0 : Int32)), .unset, .unset, .unset] [(.int (0 : Int32)), (.ref fb), (.ref b2)]
  refine own_via (own_ldI X40 hx hZ e40 f33 (j := (0 : Int32)) ⟨by decide, by decide⟩ (v := (.int t0)) rfl (pc := 31) (Ls := #[.val (.ref a1), .val (.int (0 : Int32)), .unset, .unset, .unset]) (rest := [(.ref b2)]) (hb hby own_d6_31)) ?_
  show own_H T40 32 #[.val (.ref a1), .val (.int (0 : Int32)), .unset, .unset, .unset] [(.int t0), (.ref b2)]
  refine own_via (fun t k => XS.iconst X40.here hx rfl (hb hby own_d6_32) k) ?_
  show own_H T40 33 #[.val (.ref a1), .val (.int (0 : Int32)), .unset, .unset, .unset] [(.int (1 : Int32)), (.int t0), (.ref b2)]
  refine own_via (fun t k => XS.iadd X40.here hx rfl (hb hby own_d6_33) rfl k) ?_
  show own_H T40 34 #[.val (.ref a1), .val (.int (0 : Int32)), .unset, .unset, .unset] [(.int (t0 + (1 : Int32))), (.ref b2)]
  refine own_via (own_dup2 X40 hx rfl rfl (hb hby own_d6_34)) ?_
  show own_H T40 35 #[.val (.ref a1), .val (.int (0 : Int32)), .unset, .unset, .unset] [(.int (t0 + (1 : Int32))), (.ref b2), (.int (t0 + (1 : Int32))), (.ref b2)]
  refine own_via (own_ldS (L := ([(0 : Int32), (0 : Int32), (0 : Int32), (0 : Int32), (0 : Int32)] : List Int32)) X40 hx hZ e40 f35 (j := (t0 + (1 : Int32))) (own_Hig_2 c1 t0 h0_ t1 h1_ hp_hr).1 (pc := 35) (Ls := #[.val (.ref a1), .val (.int (0 : Int32)), .unset, .unset, .unset]) (rest := [(.int (t0 + (1 : Int32))), (.ref b2)]) (hb hby own_d6_35)) ?_
  show own_H T40 36 #[.val (.ref a1), .val (.int (0 : Int32)), .unset, .unset, .unset] [(.int (own_Vig_3 c1 t0 h0_ t1 h1_)), (.int (t0 + (1 : Int32))), (.ref b2)]
  refine own_via (fun t k => XS.iconst X40.here hx rfl (hb hby own_d6_36) k) ?_
  show own_H T40 37 #[.val (.ref a1), .val (.int (0 : Int32)), .unset, .unset, .unset] [(.int (1 : Int32)), (.int (own_Vig_3 c1 t0 h0_ t1 h1_)), (.int (t0 + (1 : Int32))), (.ref b2)]
  refine own_via (fun t k => XS.iadd X40.here hx rfl (hb hby own_d6_37) rfl k) ?_
  show own_H T40 38 #[.val (.ref a1), .val (.int (0 : Int32)), .unset, .unset, .unset] [(.int ((own_Vig_3 c1 t0 h0_ t1 h1_) + (1 : Int32))), (.int (t0 + (1 : Int32))), (.ref b2)]
  obtain ⟨T41, h41, L41, X41, N41, e41, W41, V41, st41⟩ := own_stS (L := ([(0 : Int32), (0 : Int32), (0 : Int32), (0 : Int32), (0 : Int32)] : List Int32)) X40 N22 hx hZ e40 f35 g_b2 (j := (t0 + (1 : Int32))) (x := ((own_Vig_3 c1 t0 h0_ t1 h1_) + (1 : Int32))) (own_Hig_2 c1 t0 h0_ t1 h1_ hp_hr) (pc := 38) (Ls := #[.val (.ref a1), .val (.int (0 : Int32)), .unset, .unset, .unset]) (rest := []) (hb hby own_d6_38)
  refine own_via st41 ?_
  have f42 := f23.wr W41
  have f43 := f24.other W41 (Or.inl ne3)
  have f44 := f25.other W41 (Or.inl ne3)
  have f45 := f26.other W41 (Or.inl ne3)
  have f46 := f27.other W41 (Or.inl ne3)
  have f47 := f28.other W41 (Or.inl ne3)
  have f48 := f29.other W41 (Or.inl ne3)
  have f49 := f30.other W41 (Or.inl ne3)
  have f50 := f31.other W41 (Or.inl ne3)
  have f51 := f32.other W41 (Or.inl ne3)
  have f52 := f33.other W41 ne4
  have f53 := f34.other W41 ne5
  have f54 := F22.other W41 (Or.inl ne3)
  have Kp55 := Kp36.wr W41 (Or.inr sz_b2)
  have f56 : Arv Z h41 b2 k2 .int (c1 + (1 : Int32)) ((own_Aig_4 c1 t0 h0_ t1 h1_).map Value.int) (.int (0 : Int32)) := V41
  have Zs57 : n0 ≤ h41.size := by rw [W41.size]; exact Zs37
  show own_H T41 39 #[.val (.ref a1), .val (.int (0 : Int32)), .unset, .unset, .unset] []
  clear f23 f24 f25 f26 f27 f28 f29 f30 f31 f32 f33 f34 f35 F22 Kp36 Zs37
  refine own_via (fun t k => XS.aloadN X41.here hx rfl (hb hby own_d6_39) rfl rfl k) ?_
  show own_H T41 40 #[.val (.ref a1), .val (.int (0 : Int32)), .unset, .unset, .unset] [(.ref a1)]
  obtain ⟨T58, X58, e58, st58⟩ := getF X41 hx hZ hown (host := "") (Or.inl (own_u hw 24 rfl)) Via.refl e41 f54 (g := (mkF m 40 #[.val (.ref a1), .val (.int (0 : Int32)), .unset, .unset, .unset] [(.ref a1)])) rfl rfl (hb hby own_d6_40)
  refine own_via st58 ?_
  show own_H T58 43 #[.val (.ref a1), .val (.int (0 : Int32)), .unset, .unset, .unset] [(.ref b2)]
  refine own_via (fun t k => XS.aloadN X58.here hx rfl (hb hby own_d6_43) rfl rfl k) ?_
  show own_H T58 44 #[.val (.ref a1), .val (.int (0 : Int32)), .unset, .unset, .unset] [(.ref a1), (.ref b2)]
  obtain ⟨T59, X59, e59, st59⟩ := getF X58 hx hZ hown (host := "") (Or.inl (own_u hw 13 rfl)) Via.refl e58 f44 (g := (mkF m 44 #[.val (.ref a1), .val (.int (0 : Int32)), .unset, .unset, .unset] [(.ref a1), (.ref b2)])) rfl rfl (hb hby own_d6_44)
  refine own_via st59 ?_
  show own_H T59 47 #[.val (.ref a1), .val (.int (0 : Int32)), .unset, .unset, .unset] [(.ref tb), (.ref b2)]
  refine own_via (fun t k => XS.iloadN X59.here hx rfl (hb hby own_d6_47) rfl k) ?_
  show own_H T59 48 #[.val (.ref a1), .val (.int (0 : Int32)), .unset, .unset, .unset] [(.int (0 : Int32)), (.ref tb), (.ref b2)]
  refine own_via (own_ldI X59 hx hZ e59 f53 (j := (0 : Int32)) ⟨by decide, by decide⟩ (v := (.int h0_)) rfl (pc := 48) (Ls := #[.val (.ref a1), .val (.int (0 : Int32)), .unset, .unset, .unset]) (rest := [(.ref b2)]) (hb hby own_d6_48)) ?_
  show own_H T59 49 #[.val (.ref a1), .val (.int (0 : Int32)), .unset, .unset, .unset] [(.int h0_), (.ref b2)]
  refine own_via (fun t k => XS.iconst X59.here hx rfl (hb hby own_d6_49) k) ?_
  show own_H T59 50 #[.val (.ref a1), .val (.int (0 : Int32)), .unset, .unset, .unset] [(.int (1 : Int32)), (.int h0_), (.ref b2)]
  refine own_via (fun t k => XS.iadd X59.here hx rfl (hb hby own_d6_50) rfl k) ?_
  show own_H T59 51 #[.val (.ref a1), .val (.int (0 : Int32)), .unset, .unset, .unset] [(.int (h0_ + (1 : Int32))), (.ref b2)]
  refine own_via (own_dup2 X59 hx rfl rfl (hb hby own_d6_51)) ?_
  show own_H T59 52 #[.val (.ref a1), .val (.int (0 : Int32)), .unset, .unset, .unset] [(.int (h0_ + (1 : Int32))), (.ref b2), (.int (h0_ + (1 : Int32))), (.ref b2)]
  refine own_via (own_ldS (L := (own_Aig_4 c1 t0 h0_ t1 h1_)) X59 hx hZ e59 f56 (j := (h0_ + (1 : Int32))) (own_Hig_5 c1 t0 h0_ t1 h1_ hp_hr).1 (pc := 52) (Ls := #[.val (.ref a1), .val (.int (0 : Int32)), .unset, .unset, .unset]) (rest := [(.int (h0_ + (1 : Int32))), (.ref b2)]) (hb hby own_d6_52)) ?_
  show own_H T59 53 #[.val (.ref a1), .val (.int (0 : Int32)), .unset, .unset, .unset] [(.int (own_Vig_6 c1 t0 h0_ t1 h1_)), (.int (h0_ + (1 : Int32))), (.ref b2)]
  refine own_via (fun t k => XS.iconst X59.here hx rfl (hb hby own_d6_53) k) ?_
  show own_H T59 54 #[.val (.ref a1), .val (.int (0 : Int32)), .unset, .unset, .unset] [(.int (1 : Int32)), (.int (own_Vig_6 c1 t0 h0_ t1 h1_)), (.int (h0_ + (1 : Int32))), (.ref b2)]
  refine own_via (fun t k => XS.iadd X59.here hx rfl (hb hby own_d6_54) rfl k) ?_
  show own_H T59 55 #[.val (.ref a1), .val (.int (0 : Int32)), .unset, .unset, .unset] [(.int ((own_Vig_6 c1 t0 h0_ t1 h1_) + (1 : Int32))), (.int (h0_ + (1 : Int32))), (.ref b2)]
  obtain ⟨T60, h60, L60, X60, N60, e60, W60, V60, st60⟩ := own_stS (L := (own_Aig_4 c1 t0 h0_ t1 h1_)) X59 N41 hx hZ e59 f56 g_b2 (j := (h0_ + (1 : Int32))) (x := ((own_Vig_6 c1 t0 h0_ t1 h1_) + (1 : Int32))) (own_Hig_5 c1 t0 h0_ t1 h1_ hp_hr) (pc := 55) (Ls := #[.val (.ref a1), .val (.int (0 : Int32)), .unset, .unset, .unset]) (rest := []) (hb hby own_d6_55)
  refine own_via st60 ?_
  have f61 := f42.wr W60
  have f62 := f43.other W60 (Or.inl ne3)
  have f63 := f44.other W60 (Or.inl ne3)
  have f64 := f45.other W60 (Or.inl ne3)
  have f65 := f46.other W60 (Or.inl ne3)
  have f66 := f47.other W60 (Or.inl ne3)
  have f67 := f48.other W60 (Or.inl ne3)
  have f68 := f49.other W60 (Or.inl ne3)
  have f69 := f50.other W60 (Or.inl ne3)
  have f70 := f51.other W60 (Or.inl ne3)
  have f71 := f52.other W60 ne4
  have f72 := f53.other W60 ne5
  have f73 := f54.other W60 (Or.inl ne3)
  have Kp74 := Kp55.wr W60 (Or.inr sz_b2)
  have f75 : Arv Z h60 b2 k2 .int (c1 + (1 : Int32)) ((own_Aig_7 c1 t0 h0_ t1 h1_).map Value.int) (.int (0 : Int32)) := V60
  have Zs76 : n0 ≤ h60.size := by rw [W60.size]; exact Zs57
  show own_H T60 56 #[.val (.ref a1), .val (.int (0 : Int32)), .unset, .unset, .unset] []
  clear f42 f43 f44 f45 f46 f47 f48 f49 f50 f51 f52 f53 f54 f56 Kp55 Zs57
  refine own_via (fun t k => XS.iinc X60.here hx rfl (hb hby own_d6_56) rfl (l' := #[.val (.ref a1), .val (.int (1 : Int32)), .unset, .unset, .unset]) rfl k) ?_
  show own_H T60 59 #[.val (.ref a1), .val (.int (1 : Int32)), .unset, .unset, .unset] []
  refine own_via (fun t k => XS.goto X60.here hx rfl (pc0 := 59) (pc' := 14) rfl (hb hby own_d6_59) (by decide) (by decide) k) ?_
  refine own_via (fun t k => XS.iloadN X60.here hx rfl (hb hby own_d6_14) rfl k) ?_
  refine own_via (fun t k => XS.aloadN X60.here hx rfl (hb hby own_d6_15) rfl rfl k) ?_
  show own_H T60 16 #[.val (.ref a1), .val (.int (1 : Int32)), .unset, .unset, .unset] [(.ref a1), (.int (1 : Int32))]
  obtain ⟨T77, X77, e77, st77⟩ := getF X60 hx hZ hown (host := "") (Or.inl (own_u hw 26 rfl)) Via.refl e60 f66 (g := (mkF m 16 #[.val (.ref a1), .val (.int (1 : Int32)), .unset, .unset, .unset] [(.ref a1), (.int (1 : Int32))])) rfl rfl (hb hby own_d6_16)
  refine own_via st77 ?_
  show own_H T77 19 #[.val (.ref a1), .val (.int (1 : Int32)), .unset, .unset, .unset] [(.int (2 : Int32)), (.int (1 : Int32))]
  refine own_via (fun t k => XS.icmpNo X77.here hx rfl (hb hby own_d6_19) rfl (tlt (by decide : (1 : Int32) < (2 : Int32))).2.1 k) ?_
  show own_H T77 22 #[.val (.ref a1), .val (.int (1 : Int32)), .unset, .unset, .unset] []
  refine own_via (fun t k => XS.aloadN X77.here hx rfl (hb hby own_d6_22) rfl rfl k) ?_
  show own_H T77 23 #[.val (.ref a1), .val (.int (1 : Int32)), .unset, .unset, .unset] [(.ref a1)]
  obtain ⟨T78, X78, e78, st78⟩ := getF X77 hx hZ hown (host := "") (Or.inl (own_u hw 24 rfl)) Via.refl e77 f73 (g := (mkF m 23 #[.val (.ref a1), .val (.int (1 : Int32)), .unset, .unset, .unset] [(.ref a1)])) rfl rfl (hb hby own_d6_23)
  refine own_via st78 ?_
  show own_H T78 26 #[.val (.ref a1), .val (.int (1 : Int32)), .unset, .unset, .unset] [(.ref b2)]
  refine own_via (fun t k => XS.aloadN X78.here hx rfl (hb hby own_d6_26) rfl rfl k) ?_
  show own_H T78 27 #[.val (.ref a1), .val (.int (1 : Int32)), .unset, .unset, .unset] [(.ref a1), (.ref b2)]
  obtain ⟨T79, X79, e79, st79⟩ := getF X78 hx hZ hown (host := "") (Or.inl (own_u hw 11 rfl)) Via.refl e78 f62 (g := (mkF m 27 #[.val (.ref a1), .val (.int (1 : Int32)), .unset, .unset, .unset] [(.ref a1), (.ref b2)])) rfl rfl (hb hby own_d6_27)
  refine own_via st79 ?_
  show own_H T79 30 #[.val (.ref a1), .val (.int (1 : Int32)), .unset, .unset, .unset] [(.ref fb), (.ref b2)]
  refine own_via (fun t k => XS.iloadN X79.here hx rfl (hb hby own_d6_30) rfl k) ?_
  show own_H T79 31 #[.val (.ref a1), .val (.int (1 : Int32)), .unset, .unset, .unset] [(.int (1 : Int32)), (.ref fb), (.ref b2)]
  refine own_via (own_ldI X79 hx hZ e79 f71 (j := (1 : Int32)) ⟨by decide, by decide⟩ (v := (.int t1)) rfl (pc := 31) (Ls := #[.val (.ref a1), .val (.int (1 : Int32)), .unset, .unset, .unset]) (rest := [(.ref b2)]) (hb hby own_d6_31)) ?_
  show own_H T79 32 #[.val (.ref a1), .val (.int (1 : Int32)), .unset, .unset, .unset] [(.int t1), (.ref b2)]
  refine own_via (fun t k => XS.iconst X79.here hx rfl (hb hby own_d6_32) k) ?_
  show own_H T79 33 #[.val (.ref a1), .val (.int (1 : Int32)), .unset, .unset, .unset] [(.int (1 : Int32)), (.int t1), (.ref b2)]
  refine own_via (fun t k => XS.iadd X79.here hx rfl (hb hby own_d6_33) rfl k) ?_
  show own_H T79 34 #[.val (.ref a1), .val (.int (1 : Int32)), .unset, .unset, .unset] [(.int (t1 + (1 : Int32))), (.ref b2)]
  refine own_via (own_dup2 X79 hx rfl rfl (hb hby own_d6_34)) ?_
  show own_H T79 35 #[.val (.ref a1), .val (.int (1 : Int32)), .unset, .unset, .unset] [(.int (t1 + (1 : Int32))), (.ref b2), (.int (t1 + (1 : Int32))), (.ref b2)]
  refine own_via (own_ldS (L := (own_Aig_7 c1 t0 h0_ t1 h1_)) X79 hx hZ e79 f75 (j := (t1 + (1 : Int32))) (own_Hig_8 c1 t0 h0_ t1 h1_ hp_hr).1 (pc := 35) (Ls := #[.val (.ref a1), .val (.int (1 : Int32)), .unset, .unset, .unset]) (rest := [(.int (t1 + (1 : Int32))), (.ref b2)]) (hb hby own_d6_35)) ?_
  show own_H T79 36 #[.val (.ref a1), .val (.int (1 : Int32)), .unset, .unset, .unset] [(.int (own_Vig_9 c1 t0 h0_ t1 h1_)), (.int (t1 + (1 : Int32))), (.ref b2)]
  refine own_via (fun t k => XS.iconst X79.here hx rfl (hb hby own_d6_36) k) ?_
  show own_H T79 37 #[.val (.ref a1), .val (.int (1 : Int32)), .unset, .unset, .unset] [(.int (1 : Int32)), (.int (own_Vig_9 c1 t0 h0_ t1 h1_)), (.int (t1 + (1 : Int32))), (.ref b2)]
  refine own_via (fun t k => XS.iadd X79.here hx rfl (hb hby own_d6_37) rfl k) ?_
  show own_H T79 38 #[.val (.ref a1), .val (.int (1 : Int32)), .unset, .unset, .unset] [(.int ((own_Vig_9 c1 t0 h0_ t1 h1_) + (1 : Int32))), (.int (t1 + (1 : Int32))), (.ref b2)]
  obtain ⟨T80, h80, L80, X80, N80, e80, W80, V80, st80⟩ := own_stS (L := (own_Aig_7 c1 t0 h0_ t1 h1_)) X79 N60 hx hZ e79 f75 g_b2 (j := (t1 + (1 : Int32))) (x := ((own_Vig_9 c1 t0 h0_ t1 h1_) + (1 : Int32))) (own_Hig_8 c1 t0 h0_ t1 h1_ hp_hr) (pc := 38) (Ls := #[.val (.ref a1), .val (.int (1 : Int32)), .unset, .unset, .unset]) (rest := []) (hb hby own_d6_38)
  refine own_via st80 ?_
  have f81 := f61.wr W80
  have f82 := f62.other W80 (Or.inl ne3)
  have f83 := f63.other W80 (Or.inl ne3)
  have f84 := f64.other W80 (Or.inl ne3)
  have f85 := f65.other W80 (Or.inl ne3)
  have f86 := f66.other W80 (Or.inl ne3)
  have f87 := f67.other W80 (Or.inl ne3)
  have f88 := f68.other W80 (Or.inl ne3)
  have f89 := f69.other W80 (Or.inl ne3)
  have f90 := f70.other W80 (Or.inl ne3)
  have f91 := f71.other W80 ne4
  have f92 := f72.other W80 ne5
  have f93 := f73.other W80 (Or.inl ne3)
  have Kp94 := Kp74.wr W80 (Or.inr sz_b2)
  have f95 : Arv Z h80 b2 k2 .int (c1 + (1 : Int32)) ((own_Aig_10 c1 t0 h0_ t1 h1_).map Value.int) (.int (0 : Int32)) := V80
  have Zs96 : n0 ≤ h80.size := by rw [W80.size]; exact Zs76
  show own_H T80 39 #[.val (.ref a1), .val (.int (1 : Int32)), .unset, .unset, .unset] []
  clear f61 f62 f63 f64 f65 f66 f67 f68 f69 f70 f71 f72 f73 f75 Kp74 Zs76
  refine own_via (fun t k => XS.aloadN X80.here hx rfl (hb hby own_d6_39) rfl rfl k) ?_
  show own_H T80 40 #[.val (.ref a1), .val (.int (1 : Int32)), .unset, .unset, .unset] [(.ref a1)]
  obtain ⟨T97, X97, e97, st97⟩ := getF X80 hx hZ hown (host := "") (Or.inl (own_u hw 24 rfl)) Via.refl e80 f93 (g := (mkF m 40 #[.val (.ref a1), .val (.int (1 : Int32)), .unset, .unset, .unset] [(.ref a1)])) rfl rfl (hb hby own_d6_40)
  refine own_via st97 ?_
  show own_H T97 43 #[.val (.ref a1), .val (.int (1 : Int32)), .unset, .unset, .unset] [(.ref b2)]
  refine own_via (fun t k => XS.aloadN X97.here hx rfl (hb hby own_d6_43) rfl rfl k) ?_
  show own_H T97 44 #[.val (.ref a1), .val (.int (1 : Int32)), .unset, .unset, .unset] [(.ref a1), (.ref b2)]
  obtain ⟨T98, X98, e98, st98⟩ := getF X97 hx hZ hown (host := "") (Or.inl (own_u hw 13 rfl)) Via.refl e97 f83 (g := (mkF m 44 #[.val (.ref a1), .val (.int (1 : Int32)), .unset, .unset, .unset] [(.ref a1), (.ref b2)])) rfl rfl (hb hby own_d6_44)
  refine own_via st98 ?_
  show own_H T98 47 #[.val (.ref a1), .val (.int (1 : Int32)), .unset, .unset, .unset] [(.ref tb), (.ref b2)]
  refine own_via (fun t k => XS.iloadN X98.here hx rfl (hb hby own_d6_47) rfl k) ?_
  show own_H T98 48 #[.val (.ref a1), .val (.int (1 : Int32)), .unset, .unset, .unset] [(.int (1 : Int32)), (.ref tb), (.ref b2)]
  refine own_via (own_ldI X98 hx hZ e98 f92 (j := (1 : Int32)) ⟨by decide, by decide⟩ (v := (.int h1_)) rfl (pc := 48) (Ls := #[.val (.ref a1), .val (.int (1 : Int32)), .unset, .unset, .unset]) (rest := [(.ref b2)]) (hb hby own_d6_48)) ?_
  show own_H T98 49 #[.val (.ref a1), .val (.int (1 : Int32)), .unset, .unset, .unset] [(.int h1_), (.ref b2)]
  refine own_via (fun t k => XS.iconst X98.here hx rfl (hb hby own_d6_49) k) ?_
  show own_H T98 50 #[.val (.ref a1), .val (.int (1 : Int32)), .unset, .unset, .unset] [(.int (1 : Int32)), (.int h1_), (.ref b2)]
  refine own_via (fun t k => XS.iadd X98.here hx rfl (hb hby own_d6_50) rfl k) ?_
  show own_H T98 51 #[.val (.ref a1), .val (.int (1 : Int32)), .unset, .unset, .unset] [(.int (h1_ + (1 : Int32))), (.ref b2)]
  refine own_via (own_dup2 X98 hx rfl rfl (hb hby own_d6_51)) ?_
  show own_H T98 52 #[.val (.ref a1), .val (.int (1 : Int32)), .unset, .unset, .unset] [(.int (h1_ + (1 : Int32))), (.ref b2), (.int (h1_ + (1 : Int32))), (.ref b2)]
  refine own_via (own_ldS (L := (own_Aig_10 c1 t0 h0_ t1 h1_)) X98 hx hZ e98 f95 (j := (h1_ + (1 : Int32))) (own_Hig_11 c1 t0 h0_ t1 h1_ hp_hr).1 (pc := 52) (Ls := #[.val (.ref a1), .val (.int (1 : Int32)), .unset, .unset, .unset]) (rest := [(.int (h1_ + (1 : Int32))), (.ref b2)]) (hb hby own_d6_52)) ?_
  show own_H T98 53 #[.val (.ref a1), .val (.int (1 : Int32)), .unset, .unset, .unset] [(.int (own_Vig_12 c1 t0 h0_ t1 h1_)), (.int (h1_ + (1 : Int32))), (.ref b2)]
  refine own_via (fun t k => XS.iconst X98.here hx rfl (hb hby own_d6_53) k) ?_
  show own_H T98 54 #[.val (.ref a1), .val (.int (1 : Int32)), .unset, .unset, .unset] [(.int (1 : Int32)), (.int (own_Vig_12 c1 t0 h0_ t1 h1_)), (.int (h1_ + (1 : Int32))), (.ref b2)]
  refine own_via (fun t k => XS.iadd X98.here hx rfl (hb hby own_d6_54) rfl k) ?_
  show own_H T98 55 #[.val (.ref a1), .val (.int (1 : Int32)), .unset, .unset, .unset] [(.int ((own_Vig_12 c1 t0 h0_ t1 h1_) + (1 : Int32))), (.int (h1_ + (1 : Int32))), (.ref b2)]
  obtain ⟨T99, h99, L99, X99, N99, e99, W99, V99, st99⟩ := own_stS (L := (own_Aig_10 c1 t0 h0_ t1 h1_)) X98 N80 hx hZ e98 f95 g_b2 (j := (h1_ + (1 : Int32))) (x := ((own_Vig_12 c1 t0 h0_ t1 h1_) + (1 : Int32))) (own_Hig_11 c1 t0 h0_ t1 h1_ hp_hr) (pc := 55) (Ls := #[.val (.ref a1), .val (.int (1 : Int32)), .unset, .unset, .unset]) (rest := []) (hb hby own_d6_55)
  refine own_via st99 ?_
  have f100 := f81.wr W99
  have f101 := f82.other W99 (Or.inl ne3)
  have f102 := f83.other W99 (Or.inl ne3)
  have f103 := f84.other W99 (Or.inl ne3)
  have f104 := f85.other W99 (Or.inl ne3)
  have f105 := f86.other W99 (Or.inl ne3)
  have f106 := f87.other W99 (Or.inl ne3)
  have f107 := f88.other W99 (Or.inl ne3)
  have f108 := f89.other W99 (Or.inl ne3)
  have f109 := f90.other W99 (Or.inl ne3)
  have f110 := f91.other W99 ne4
  have f111 := f92.other W99 ne5
  have f112 := f93.other W99 (Or.inl ne3)
  have Kp113 := Kp94.wr W99 (Or.inr sz_b2)
  have f114 : Arv Z h99 b2 k2 .int (c1 + (1 : Int32)) ((own_Aig_13 c1 t0 h0_ t1 h1_).map Value.int) (.int (0 : Int32)) := V99
  have Zs115 : n0 ≤ h99.size := by rw [W99.size]; exact Zs96
  show own_H T99 56 #[.val (.ref a1), .val (.int (1 : Int32)), .unset, .unset, .unset] []
  clear f81 f82 f83 f84 f85 f86 f87 f88 f89 f90 f91 f92 f93 f95 Kp94 Zs96
  refine own_via (fun t k => XS.iinc X99.here hx rfl (hb hby own_d6_56) rfl (l' := #[.val (.ref a1), .val (.int (2 : Int32)), .unset, .unset, .unset]) rfl k) ?_
  show own_H T99 59 #[.val (.ref a1), .val (.int (2 : Int32)), .unset, .unset, .unset] []
  refine own_via (fun t k => XS.goto X99.here hx rfl (pc0 := 59) (pc' := 14) rfl (hb hby own_d6_59) (by decide) (by decide) k) ?_
  refine own_via (fun t k => XS.iloadN X99.here hx rfl (hb hby own_d6_14) rfl k) ?_
  refine own_via (fun t k => XS.aloadN X99.here hx rfl (hb hby own_d6_15) rfl rfl k) ?_
  show own_H T99 16 #[.val (.ref a1), .val (.int (2 : Int32)), .unset, .unset, .unset] [(.ref a1), (.int (2 : Int32))]
  obtain ⟨T116, X116, e116, st116⟩ := getF X99 hx hZ hown (host := "") (Or.inl (own_u hw 26 rfl)) Via.refl e99 f105 (g := (mkF m 16 #[.val (.ref a1), .val (.int (2 : Int32)), .unset, .unset, .unset] [(.ref a1), (.int (2 : Int32))])) rfl rfl (hb hby own_d6_16)
  refine own_via st116 ?_
  show own_H T116 19 #[.val (.ref a1), .val (.int (2 : Int32)), .unset, .unset, .unset] [(.int (2 : Int32)), (.int (2 : Int32))]
  refine own_via (fun t k => XS.icmpYes X116.here hx rfl (pc0 := 19) (pc' := 62) rfl (hb hby own_d6_19) rfl (flt (by decide : ¬ ((2 : Int32) < (2 : Int32)))).2.1 (by decide) (by decide) k) ?_
  show own_H T116 62 #[.val (.ref a1), .val (.int (2 : Int32)), .unset, .unset, .unset] []
  have J117 : ∀ (TJ117 : State) (hJ117 : Heap) (LJ117 : List Loc) (XJ117 : Stand p l e own_ix_R s m #[(.ref a1)] below meth c TJ117 LJ117 1 5) (NJ117 : Fr n0 LJ117) (eJ117 : TJ117.heap = hJ117) (KJ117 : Keep h0 hJ117 [a1]) (ZJ117 : n0 ≤ hJ117.size) (fJ117_0 : Exa Z hJ117 a1 own_cN) (fJ117_1 : Fld Z hJ117 a1 own_cN "from" "[I" (.ref fb)) (fJ117_2 : Fld Z hJ117 a1 own_cN "to" "[I" (.ref tb)) (fJ117_3 : Fld Z hJ117 a1 own_cN "capacity" "[I" (.ref cb)) (fJ117_4 : Fld Z hJ117 a1 own_cN "nodes" "I" (.int c1)) (fJ117_5 : Fld Z hJ117 a1 own_cN "edges" "I" (.int (2 : Int32))) (fJ117_6 : Fld Z hJ117 a1 own_cN "target" "[I" .null) (fJ117_7 : Fld Z hJ117 a1 own_cN "edgeAt" "[I" .null) (fJ117_8 : Fld Z hJ117 a1 own_cN "reverse" "[I" .null) (fJ117_9 : Fld Z hJ117 a1 own_cN "forward" "[I" .null) (fJ117_10 : Arv Z hJ117 fb k_fb .int (16 : Int32) [(.int t0), (.int t1), (.int (0 : Int32)), (.int (0 : Int32)), (.int (0 : Int32)), (.int (0 : Int32)), (.int (0 : Int32)), (.int (0 : Int32)), (.int (0 : Int32)), (.int (0 : Int32)), (.int (0 : Int32)), (.int (0 : Int32)), (.int (0 : Int32)), (.int (0 : Int32)), (.int (0 : Int32)), (.int (0 : Int32))] (.int (0 : Int32))) (fJ117_11 : Arv Z hJ117 tb k_tb .int (16 : Int32) [(.int h0_), (.int h1_), (.int (0 : Int32)), (.int (0 : Int32)), (.int (0 : Int32)), (.int (0 : Int32)), (.int (0 : Int32)), (.int (0 : Int32)), (.int (0 : Int32)), (.int (0 : Int32)), (.int (0 : Int32)), (.int (0 : Int32)), (.int (0 : Int32)), (.int (0 : Int32)), (.int (0 : Int32)), (.int (0 : Int32))] (.int (0 : Int32))) (fJ117_12 : Fld Z hJ117 a1 own_cN "firstArc" "[I" (.ref b2)) (fJ117_13 : Arv Z hJ117 b2 k2 .int (c1 + (1 : Int32)) ((own_Aig_64 c1 t0 h0_ t1 h1_).map Value.int) (.int (0 : Int32))), own_G p e below (own_P s (own_W n0 (own_ix_q Z a1 c1 t0 h0_ t1 h1_ fb tb k_fb k_tb cb h0)) own_ix_R.cells own_ix_R.slots) (TJ117.setTop (mkF m 95 #[.val (.ref a1), .val (.int c1), .unset, .unset, .unset] [])) := by
    intro TJ117 hJ117 LJ117 XJ117 NJ117 eJ117 KJ117 ZJ117 fJ117_0 fJ117_1 fJ117_2 fJ117_3 fJ117_4 fJ117_5 fJ117_6 fJ117_7 fJ117_8 fJ117_9 fJ117_10 fJ117_11 fJ117_12 fJ117_13
    show own_H TJ117 95 #[.val (.ref a1), .val (.int c1), .unset, .unset, .unset] []
    refine own_via (fun t k => XS.aloadN XJ117.here hx rfl (hb hby own_d6_95) rfl rfl k) ?_
    refine own_via (fun t k => XS.iconst XJ117.here hx rfl (hb hby own_d6_96) k) ?_
    refine own_via (fun t k => XS.aloadN XJ117.here hx rfl (hb hby own_d6_97) rfl rfl k) ?_
    show own_H TJ117 98 #[.val (.ref a1), .val (.int c1), .unset, .unset, .unset] [(.ref a1), (.int (2 : Int32)), (.ref a1)]
    obtain ⟨T118, X118, e118, st118⟩ := getF XJ117 hx hZ hown (host := "") (Or.inl (own_u hw 26 rfl)) Via.refl eJ117 fJ117_5 (g := (mkF m 98 #[.val (.ref a1), .val (.int c1), .unset, .unset, .unset] [(.ref a1), (.int (2 : Int32)), (.ref a1)])) rfl rfl (hb hby own_d6_98)
    refine own_via st118 ?_
    show own_H T118 101 #[.val (.ref a1), .val (.int c1), .unset, .unset, .unset] [(.int (2 : Int32)), (.int (2 : Int32)), (.ref a1)]
    refine own_via (fun t k => XS.imul X118.here hx rfl (hb hby own_d6_101) rfl k) ?_
    show own_H T118 102 #[.val (.ref a1), .val (.int c1), .unset, .unset, .unset] [(.int (4 : Int32)), (.ref a1)]
    obtain ⟨T119, h119, k119, b119, X119, e119, E119, ga119, V119, Ex119, st119⟩ := own_newA X118 hx hZ (own_u hw 10 rfl) e118 (pc := 102) (Ls := #[.val (.ref a1), .val (.int c1), .unset, .unset, .unset]) (rest := [(.ref a1)]) (hb hby own_d6_102) (n := (4 : Int32)) (by decide) (cap := 4) (by decide) (by decide) (by decide) (by decide) 4 rfl
    refine own_via st119 ?_
    have sz_b119 : h0.size ≤ b119 := Nat.le_trans KJ117.1 (Nat.le_of_eq ga119.symm)
    have ne120 : a1 ≠ b119 := Nat.ne_of_lt (Nat.lt_of_lt_of_le fJ117_0.lt (Nat.le_of_eq ga119.symm))
    have ne121 : fb ≠ b119 := Nat.ne_of_lt (Nat.lt_of_lt_of_le fJ117_10.lt (Nat.le_of_eq ga119.symm))
    have ne122 : tb ≠ b119 := Nat.ne_of_lt (Nat.lt_of_lt_of_le fJ117_11.lt (Nat.le_of_eq ga119.symm))
    have f124 := fJ117_0.ext E119
    have f125 := fJ117_1.ext E119
    have f126 := fJ117_2.ext E119
    have f127 := fJ117_3.ext E119
    have f128 := fJ117_4.ext E119
    have f129 := fJ117_5.ext E119
    have f130 := fJ117_6.ext E119
    have f131 := fJ117_7.ext E119
    have f132 := fJ117_8.ext E119
    have f133 := fJ117_9.ext E119
    have f134 := fJ117_10.ext E119
    have f135 := fJ117_11.ext E119
    have f136 := fJ117_12.ext E119
    have f137 := fJ117_13.ext E119
    have Kp138 := KJ117.ext E119
    have f139 : Arv Z h119 b119 k119 .int (4 : Int32) [(.int (0 : Int32)), (.int (0 : Int32)), (.int (0 : Int32)), (.int (0 : Int32))] (.int (0 : Int32)) := V119
    have g_b119 : n0 ≤ b119 := Nat.le_trans ZJ117 (Nat.le_of_eq ga119.symm)
    have Zs140 : n0 ≤ h119.size := Nat.le_trans ZJ117 E119.1
    show own_H T119 104 #[.val (.ref a1), .val (.int c1), .unset, .unset, .unset] [(.ref b119), (.ref a1)]
    clear fJ117_0 fJ117_1 fJ117_2 fJ117_3 fJ117_4 fJ117_5 fJ117_6 fJ117_7 fJ117_8 fJ117_9 fJ117_10 fJ117_11 fJ117_12 fJ117_13 KJ117 ZJ117
    obtain ⟨T141, h141, L141, X141, N141, e141, W141, F141, st141⟩ := own_putF X119 NJ117 hx hZ hown (own_u hw 42 rfl) e119 f130 f124 (Or.inl (own_u hw 43 rfl)) (own_u hw 2 rfl) g_a1 (ty := (.array .int)) (v := (.ref b119)) (by decide) rfl rfl (pc := 104) (Ls := #[.val (.ref a1), .val (.int c1), .unset, .unset, .unset]) (rest := []) (hb hby own_d6_104)
    refine own_via st141 ?_
    have f142 := f124.wr W141
    have f143 := f125.other W141 (Or.inr (slot_ne (Or.inl (own_u hw 12 rfl)) (Or.inl (own_u hw 43 rfl)) (by decide) rfl rfl))
    have f144 := f126.other W141 (Or.inr (slot_ne (Or.inl (own_u hw 14 rfl)) (Or.inl (own_u hw 43 rfl)) (by decide) rfl rfl))
    have f145 := f127.other W141 (Or.inr (slot_ne (Or.inl (own_u hw 16 rfl)) (Or.inl (own_u hw 43 rfl)) (by decide) rfl rfl))
    have f146 := f128.other W141 (Or.inr (slot_ne (Or.inr (own_u hw 18 rfl)) (Or.inl (own_u hw 43 rfl)) (by decide) rfl rfl))
    have f147 := f129.other W141 (Or.inr (slot_ne (Or.inl (own_u hw 27 rfl)) (Or.inl (own_u hw 43 rfl)) (by decide) rfl rfl))
    have f148 := f131.other W141 (Or.inr (slot_ne (Or.inl (own_u hw 45 rfl)) (Or.inl (own_u hw 43 rfl)) (by decide) rfl rfl))
    have f149 := f132.other W141 (Or.inr (slot_ne (Or.inl (own_u hw 47 rfl)) (Or.inl (own_u hw 43 rfl)) (by decide) rfl rfl))
    have f150 := f133.other W141 (Or.inr (slot_ne (Or.inl (own_u hw 49 rfl)) (Or.inl (own_u hw 43 rfl)) (by decide) rfl rfl))
    have f151 := f134.other W141 (Ne.symm ne_a1_fb)
    have f152 := f135.other W141 (Ne.symm ne_a1_tb)
    have f153 := f136.other W141 (Or.inr (slot_ne (Or.inl (own_u hw 25 rfl)) (Or.inl (own_u hw 43 rfl)) (by decide) rfl rfl))
    have f154 := f137.other W141 (Ne.symm ne3)
    have f155 := f139.other W141 (Ne.symm ne120)
    have Kp156 := Kp138.wr W141 (Or.inl (List.mem_of_getElem? (i := 0) rfl))
    have Zs157 : n0 ≤ h141.size := by rw [W141.size]; exact Zs140
    show own_H T141 107 #[.val (.ref a1), .val (.int c1), .unset, .unset, .unset] []
    clear f124 f125 f126 f127 f128 f129 f130 f131 f132 f133 f134 f135 f136 f137 f139 Kp138 Zs140
    refine own_via (fun t k => XS.aloadN X141.here hx rfl (hb hby own_d6_107) rfl rfl k) ?_
    refine own_via (fun t k => XS.iconst X141.here hx rfl (hb hby own_d6_108) k) ?_
    refine own_via (fun t k => XS.aloadN X141.here hx rfl (hb hby own_d6_109) rfl rfl k) ?_
    show own_H T141 110 #[.val (.ref a1), .val (.int c1), .unset, .unset, .unset] [(.ref a1), (.int (2 : Int32)), (.ref a1)]
    obtain ⟨T158, X158, e158, st158⟩ := getF X141 hx hZ hown (host := "") (Or.inl (own_u hw 26 rfl)) Via.refl e141 f147 (g := (mkF m 110 #[.val (.ref a1), .val (.int c1), .unset, .unset, .unset] [(.ref a1), (.int (2 : Int32)), (.ref a1)])) rfl rfl (hb hby own_d6_110)
    refine own_via st158 ?_
    show own_H T158 113 #[.val (.ref a1), .val (.int c1), .unset, .unset, .unset] [(.int (2 : Int32)), (.int (2 : Int32)), (.ref a1)]
    refine own_via (fun t k => XS.imul X158.here hx rfl (hb hby own_d6_113) rfl k) ?_
    show own_H T158 114 #[.val (.ref a1), .val (.int c1), .unset, .unset, .unset] [(.int (4 : Int32)), (.ref a1)]
    obtain ⟨T159, h159, k159, b159, X159, e159, E159, ga159, V159, Ex159, st159⟩ := own_newA X158 hx hZ (own_u hw 10 rfl) e158 (pc := 114) (Ls := #[.val (.ref a1), .val (.int c1), .unset, .unset, .unset]) (rest := [(.ref a1)]) (hb hby own_d6_114) (n := (4 : Int32)) (by decide) (cap := 4) (by decide) (by decide) (by decide) (by decide) 4 rfl
    refine own_via st159 ?_
    have sz_b159 : h0.size ≤ b159 := Nat.le_trans Kp156.1 (Nat.le_of_eq ga159.symm)
    have ne160 : a1 ≠ b159 := Nat.ne_of_lt (Nat.lt_of_lt_of_le f142.lt (Nat.le_of_eq ga159.symm))
    have ne161 : fb ≠ b159 := Nat.ne_of_lt (Nat.lt_of_lt_of_le f151.lt (Nat.le_of_eq ga159.symm))
    have ne162 : tb ≠ b159 := Nat.ne_of_lt (Nat.lt_of_lt_of_le f152.lt (Nat.le_of_eq ga159.symm))
    have ne164 : b119 ≠ b159 := Nat.ne_of_lt (Nat.lt_of_lt_of_le f155.lt (Nat.le_of_eq ga159.symm))
    have f165 := f142.ext E159
    have f166 := f143.ext E159
    have f167 := f144.ext E159
    have f168 := f145.ext E159
    have f169 := f146.ext E159
    have f170 := f147.ext E159
    have f171 := f148.ext E159
    have f172 := f149.ext E159
    have f173 := f150.ext E159
    have f174 := f151.ext E159
    have f175 := f152.ext E159
    have f176 := f153.ext E159
    have f177 := f154.ext E159
    have f178 := f155.ext E159
    have f179 := F141.ext E159
    have Kp180 := Kp156.ext E159
    have f181 : Arv Z h159 b159 k159 .int (4 : Int32) [(.int (0 : Int32)), (.int (0 : Int32)), (.int (0 : Int32)), (.int (0 : Int32))] (.int (0 : Int32)) := V159
    have g_b159 : n0 ≤ b159 := Nat.le_trans Zs157 (Nat.le_of_eq ga159.symm)
    have Zs182 : n0 ≤ h159.size := Nat.le_trans Zs157 E159.1
    show own_H T159 116 #[.val (.ref a1), .val (.int c1), .unset, .unset, .unset] [(.ref b159), (.ref a1)]
    clear f142 f143 f144 f145 f146 f147 f148 f149 f150 f151 f152 f153 f154 f155 F141 Kp156 Zs157
    obtain ⟨T183, h183, L183, X183, N183, e183, W183, F183, st183⟩ := own_putF X159 N141 hx hZ hown (own_u hw 44 rfl) e159 f171 f165 (Or.inl (own_u hw 45 rfl)) (own_u hw 2 rfl) g_a1 (ty := (.array .int)) (v := (.ref b159)) (by decide) rfl rfl (pc := 116) (Ls := #[.val (.ref a1), .val (.int c1), .unset, .unset, .unset]) (rest := []) (hb hby own_d6_116)
    refine own_via st183 ?_
    have f184 := f165.wr W183
    have f185 := f166.other W183 (Or.inr (slot_ne (Or.inl (own_u hw 12 rfl)) (Or.inl (own_u hw 45 rfl)) (by decide) rfl rfl))
    have f186 := f167.other W183 (Or.inr (slot_ne (Or.inl (own_u hw 14 rfl)) (Or.inl (own_u hw 45 rfl)) (by decide) rfl rfl))
    have f187 := f168.other W183 (Or.inr (slot_ne (Or.inl (own_u hw 16 rfl)) (Or.inl (own_u hw 45 rfl)) (by decide) rfl rfl))
    have f188 := f169.other W183 (Or.inr (slot_ne (Or.inr (own_u hw 18 rfl)) (Or.inl (own_u hw 45 rfl)) (by decide) rfl rfl))
    have f189 := f170.other W183 (Or.inr (slot_ne (Or.inl (own_u hw 27 rfl)) (Or.inl (own_u hw 45 rfl)) (by decide) rfl rfl))
    have f190 := f172.other W183 (Or.inr (slot_ne (Or.inl (own_u hw 47 rfl)) (Or.inl (own_u hw 45 rfl)) (by decide) rfl rfl))
    have f191 := f173.other W183 (Or.inr (slot_ne (Or.inl (own_u hw 49 rfl)) (Or.inl (own_u hw 45 rfl)) (by decide) rfl rfl))
    have f192 := f174.other W183 (Ne.symm ne_a1_fb)
    have f193 := f175.other W183 (Ne.symm ne_a1_tb)
    have f194 := f176.other W183 (Or.inr (slot_ne (Or.inl (own_u hw 25 rfl)) (Or.inl (own_u hw 45 rfl)) (by decide) rfl rfl))
    have f195 := f177.other W183 (Ne.symm ne3)
    have f196 := f178.other W183 (Ne.symm ne120)
    have f197 := f179.other W183 (Or.inr (slot_ne (Or.inl (own_u hw 43 rfl)) (Or.inl (own_u hw 45 rfl)) (by decide) rfl rfl))
    have f198 := f181.other W183 (Ne.symm ne160)
    have Kp199 := Kp180.wr W183 (Or.inl (List.mem_of_getElem? (i := 0) rfl))
    have Zs200 : n0 ≤ h183.size := by rw [W183.size]; exact Zs182
    show own_H T183 119 #[.val (.ref a1), .val (.int c1), .unset, .unset, .unset] []
    clear f165 f166 f167 f168 f169 f170 f171 f172 f173 f174 f175 f176 f177 f178 f179 f181 Kp180 Zs182
    refine own_via (fun t k => XS.aloadN X183.here hx rfl (hb hby own_d6_119) rfl rfl k) ?_
    refine own_via (fun t k => XS.iconst X183.here hx rfl (hb hby own_d6_120) k) ?_
    refine own_via (fun t k => XS.aloadN X183.here hx rfl (hb hby own_d6_121) rfl rfl k) ?_
    show own_H T183 122 #[.val (.ref a1), .val (.int c1), .unset, .unset, .unset] [(.ref a1), (.int (2 : Int32)), (.ref a1)]
    obtain ⟨T201, X201, e201, st201⟩ := getF X183 hx hZ hown (host := "") (Or.inl (own_u hw 26 rfl)) Via.refl e183 f189 (g := (mkF m 122 #[.val (.ref a1), .val (.int c1), .unset, .unset, .unset] [(.ref a1), (.int (2 : Int32)), (.ref a1)])) rfl rfl (hb hby own_d6_122)
    refine own_via st201 ?_
    show own_H T201 125 #[.val (.ref a1), .val (.int c1), .unset, .unset, .unset] [(.int (2 : Int32)), (.int (2 : Int32)), (.ref a1)]
    refine own_via (fun t k => XS.imul X201.here hx rfl (hb hby own_d6_125) rfl k) ?_
    show own_H T201 126 #[.val (.ref a1), .val (.int c1), .unset, .unset, .unset] [(.int (4 : Int32)), (.ref a1)]
    obtain ⟨T202, h202, k202, b202, X202, e202, E202, ga202, V202, Ex202, st202⟩ := own_newA X201 hx hZ (own_u hw 10 rfl) e201 (pc := 126) (Ls := #[.val (.ref a1), .val (.int c1), .unset, .unset, .unset]) (rest := [(.ref a1)]) (hb hby own_d6_126) (n := (4 : Int32)) (by decide) (cap := 4) (by decide) (by decide) (by decide) (by decide) 4 rfl
    refine own_via st202 ?_
    have sz_b202 : h0.size ≤ b202 := Nat.le_trans Kp199.1 (Nat.le_of_eq ga202.symm)
    have ne203 : a1 ≠ b202 := Nat.ne_of_lt (Nat.lt_of_lt_of_le f184.lt (Nat.le_of_eq ga202.symm))
    have ne204 : fb ≠ b202 := Nat.ne_of_lt (Nat.lt_of_lt_of_le f192.lt (Nat.le_of_eq ga202.symm))
    have ne205 : tb ≠ b202 := Nat.ne_of_lt (Nat.lt_of_lt_of_le f193.lt (Nat.le_of_eq ga202.symm))
    have ne207 : b119 ≠ b202 := Nat.ne_of_lt (Nat.lt_of_lt_of_le f196.lt (Nat.le_of_eq ga202.symm))
    have ne208 : b159 ≠ b202 := Nat.ne_of_lt (Nat.lt_of_lt_of_le f198.lt (Nat.le_of_eq ga202.symm))
    have f209 := f184.ext E202
    have f210 := f185.ext E202
    have f211 := f186.ext E202
    have f212 := f187.ext E202
    have f213 := f188.ext E202
    have f214 := f189.ext E202
    have f215 := f190.ext E202
    have f216 := f191.ext E202
    have f217 := f192.ext E202
    have f218 := f193.ext E202
    have f219 := f194.ext E202
    have f220 := f195.ext E202
    have f221 := f196.ext E202
    have f222 := f197.ext E202
    have f223 := f198.ext E202
    have f224 := F183.ext E202
    have Kp225 := Kp199.ext E202
    have f226 : Arv Z h202 b202 k202 .int (4 : Int32) [(.int (0 : Int32)), (.int (0 : Int32)), (.int (0 : Int32)), (.int (0 : Int32))] (.int (0 : Int32)) := V202
    have g_b202 : n0 ≤ b202 := Nat.le_trans Zs200 (Nat.le_of_eq ga202.symm)
    have Zs227 : n0 ≤ h202.size := Nat.le_trans Zs200 E202.1
    show own_H T202 128 #[.val (.ref a1), .val (.int c1), .unset, .unset, .unset] [(.ref b202), (.ref a1)]
    clear f184 f185 f186 f187 f188 f189 f190 f191 f192 f193 f194 f195 f196 f197 f198 F183 Kp199 Zs200
    obtain ⟨T228, h228, L228, X228, N228, e228, W228, F228, st228⟩ := own_putF X202 N183 hx hZ hown (own_u hw 46 rfl) e202 f215 f209 (Or.inl (own_u hw 47 rfl)) (own_u hw 2 rfl) g_a1 (ty := (.array .int)) (v := (.ref b202)) (by decide) rfl rfl (pc := 128) (Ls := #[.val (.ref a1), .val (.int c1), .unset, .unset, .unset]) (rest := []) (hb hby own_d6_128)
    refine own_via st228 ?_
    have f229 := f209.wr W228
    have f230 := f210.other W228 (Or.inr (slot_ne (Or.inl (own_u hw 12 rfl)) (Or.inl (own_u hw 47 rfl)) (by decide) rfl rfl))
    have f231 := f211.other W228 (Or.inr (slot_ne (Or.inl (own_u hw 14 rfl)) (Or.inl (own_u hw 47 rfl)) (by decide) rfl rfl))
    have f232 := f212.other W228 (Or.inr (slot_ne (Or.inl (own_u hw 16 rfl)) (Or.inl (own_u hw 47 rfl)) (by decide) rfl rfl))
    have f233 := f213.other W228 (Or.inr (slot_ne (Or.inr (own_u hw 18 rfl)) (Or.inl (own_u hw 47 rfl)) (by decide) rfl rfl))
    have f234 := f214.other W228 (Or.inr (slot_ne (Or.inl (own_u hw 27 rfl)) (Or.inl (own_u hw 47 rfl)) (by decide) rfl rfl))
    have f235 := f216.other W228 (Or.inr (slot_ne (Or.inl (own_u hw 49 rfl)) (Or.inl (own_u hw 47 rfl)) (by decide) rfl rfl))
    have f236 := f217.other W228 (Ne.symm ne_a1_fb)
    have f237 := f218.other W228 (Ne.symm ne_a1_tb)
    have f238 := f219.other W228 (Or.inr (slot_ne (Or.inl (own_u hw 25 rfl)) (Or.inl (own_u hw 47 rfl)) (by decide) rfl rfl))
    have f239 := f220.other W228 (Ne.symm ne3)
    have f240 := f221.other W228 (Ne.symm ne120)
    have f241 := f222.other W228 (Or.inr (slot_ne (Or.inl (own_u hw 43 rfl)) (Or.inl (own_u hw 47 rfl)) (by decide) rfl rfl))
    have f242 := f223.other W228 (Ne.symm ne160)
    have f243 := f224.other W228 (Or.inr (slot_ne (Or.inl (own_u hw 45 rfl)) (Or.inl (own_u hw 47 rfl)) (by decide) rfl rfl))
    have f244 := f226.other W228 (Ne.symm ne203)
    have Kp245 := Kp225.wr W228 (Or.inl (List.mem_of_getElem? (i := 0) rfl))
    have Zs246 : n0 ≤ h228.size := by rw [W228.size]; exact Zs227
    show own_H T228 131 #[.val (.ref a1), .val (.int c1), .unset, .unset, .unset] []
    clear f209 f210 f211 f212 f213 f214 f215 f216 f217 f218 f219 f220 f221 f222 f223 f224 f226 Kp225 Zs227
    refine own_via (fun t k => XS.aloadN X228.here hx rfl (hb hby own_d6_131) rfl rfl k) ?_
    refine own_via (fun t k => XS.aloadN X228.here hx rfl (hb hby own_d6_132) rfl rfl k) ?_
    show own_H T228 133 #[.val (.ref a1), .val (.int c1), .unset, .unset, .unset] [(.ref a1), (.ref a1)]
    obtain ⟨T247, X247, e247, st247⟩ := getF X228 hx hZ hown (host := "") (Or.inl (own_u hw 26 rfl)) Via.refl e228 f234 (g := (mkF m 133 #[.val (.ref a1), .val (.int c1), .unset, .unset, .unset] [(.ref a1), (.ref a1)])) rfl rfl (hb hby own_d6_133)
    refine own_via st247 ?_
    show own_H T247 136 #[.val (.ref a1), .val (.int c1), .unset, .unset, .unset] [(.int (2 : Int32)), (.ref a1)]
    obtain ⟨T248, h248, k248, b248, X248, e248, E248, ga248, V248, Ex248, st248⟩ := own_newA X247 hx hZ (own_u hw 10 rfl) e247 (pc := 136) (Ls := #[.val (.ref a1), .val (.int c1), .unset, .unset, .unset]) (rest := [(.ref a1)]) (hb hby own_d6_136) (n := (2 : Int32)) (by decide) (cap := 2) (by decide) (by decide) (by decide) (by decide) 2 rfl
    refine own_via st248 ?_
    have sz_b248 : h0.size ≤ b248 := Nat.le_trans Kp245.1 (Nat.le_of_eq ga248.symm)
    have ne249 : a1 ≠ b248 := Nat.ne_of_lt (Nat.lt_of_lt_of_le f229.lt (Nat.le_of_eq ga248.symm))
    have ne250 : fb ≠ b248 := Nat.ne_of_lt (Nat.lt_of_lt_of_le f236.lt (Nat.le_of_eq ga248.symm))
    have ne251 : tb ≠ b248 := Nat.ne_of_lt (Nat.lt_of_lt_of_le f237.lt (Nat.le_of_eq ga248.symm))
    have ne253 : b119 ≠ b248 := Nat.ne_of_lt (Nat.lt_of_lt_of_le f240.lt (Nat.le_of_eq ga248.symm))
    have ne254 : b159 ≠ b248 := Nat.ne_of_lt (Nat.lt_of_lt_of_le f242.lt (Nat.le_of_eq ga248.symm))
    have ne255 : b202 ≠ b248 := Nat.ne_of_lt (Nat.lt_of_lt_of_le f244.lt (Nat.le_of_eq ga248.symm))
    have f256 := f229.ext E248
    have f257 := f230.ext E248
    have f258 := f231.ext E248
    have f259 := f232.ext E248
    have f260 := f233.ext E248
    have f261 := f234.ext E248
    have f262 := f235.ext E248
    have f263 := f236.ext E248
    have f264 := f237.ext E248
    have f265 := f238.ext E248
    have f266 := f239.ext E248
    have f267 := f240.ext E248
    have f268 := f241.ext E248
    have f269 := f242.ext E248
    have f270 := f243.ext E248
    have f271 := f244.ext E248
    have f272 := F228.ext E248
    have Kp273 := Kp245.ext E248
    have f274 : Arv Z h248 b248 k248 .int (2 : Int32) [(.int (0 : Int32)), (.int (0 : Int32))] (.int (0 : Int32)) := V248
    have g_b248 : n0 ≤ b248 := Nat.le_trans Zs246 (Nat.le_of_eq ga248.symm)
    have Zs275 : n0 ≤ h248.size := Nat.le_trans Zs246 E248.1
    show own_H T248 138 #[.val (.ref a1), .val (.int c1), .unset, .unset, .unset] [(.ref b248), (.ref a1)]
    clear f229 f230 f231 f232 f233 f234 f235 f236 f237 f238 f239 f240 f241 f242 f243 f244 F228 Kp245 Zs246
    obtain ⟨T276, h276, L276, X276, N276, e276, W276, F276, st276⟩ := own_putF X248 N228 hx hZ hown (own_u hw 48 rfl) e248 f262 f256 (Or.inl (own_u hw 49 rfl)) (own_u hw 2 rfl) g_a1 (ty := (.array .int)) (v := (.ref b248)) (by decide) rfl rfl (pc := 138) (Ls := #[.val (.ref a1), .val (.int c1), .unset, .unset, .unset]) (rest := []) (hb hby own_d6_138)
    refine own_via st276 ?_
    have f277 := f256.wr W276
    have f278 := f257.other W276 (Or.inr (slot_ne (Or.inl (own_u hw 12 rfl)) (Or.inl (own_u hw 49 rfl)) (by decide) rfl rfl))
    have f279 := f258.other W276 (Or.inr (slot_ne (Or.inl (own_u hw 14 rfl)) (Or.inl (own_u hw 49 rfl)) (by decide) rfl rfl))
    have f280 := f259.other W276 (Or.inr (slot_ne (Or.inl (own_u hw 16 rfl)) (Or.inl (own_u hw 49 rfl)) (by decide) rfl rfl))
    have f281 := f260.other W276 (Or.inr (slot_ne (Or.inr (own_u hw 18 rfl)) (Or.inl (own_u hw 49 rfl)) (by decide) rfl rfl))
    have f282 := f261.other W276 (Or.inr (slot_ne (Or.inl (own_u hw 27 rfl)) (Or.inl (own_u hw 49 rfl)) (by decide) rfl rfl))
    have f283 := f263.other W276 (Ne.symm ne_a1_fb)
    have f284 := f264.other W276 (Ne.symm ne_a1_tb)
    have f285 := f265.other W276 (Or.inr (slot_ne (Or.inl (own_u hw 25 rfl)) (Or.inl (own_u hw 49 rfl)) (by decide) rfl rfl))
    have f286 := f266.other W276 (Ne.symm ne3)
    have f287 := f267.other W276 (Ne.symm ne120)
    have f288 := f268.other W276 (Or.inr (slot_ne (Or.inl (own_u hw 43 rfl)) (Or.inl (own_u hw 49 rfl)) (by decide) rfl rfl))
    have f289 := f269.other W276 (Ne.symm ne160)
    have f290 := f270.other W276 (Or.inr (slot_ne (Or.inl (own_u hw 45 rfl)) (Or.inl (own_u hw 49 rfl)) (by decide) rfl rfl))
    have f291 := f271.other W276 (Ne.symm ne203)
    have f292 := f272.other W276 (Or.inr (slot_ne (Or.inl (own_u hw 47 rfl)) (Or.inl (own_u hw 49 rfl)) (by decide) rfl rfl))
    have f293 := f274.other W276 (Ne.symm ne249)
    have Kp294 := Kp273.wr W276 (Or.inl (List.mem_of_getElem? (i := 0) rfl))
    have Zs295 : n0 ≤ h276.size := by rw [W276.size]; exact Zs275
    show own_H T276 141 #[.val (.ref a1), .val (.int c1), .unset, .unset, .unset] []
    clear f256 f257 f258 f259 f260 f261 f262 f263 f264 f265 f266 f267 f268 f269 f270 f271 f272 f274 Kp273 Zs275
    refine own_via (fun t k => XS.aloadN X276.here hx rfl (hb hby own_d6_141) rfl rfl k) ?_
    show own_H T276 142 #[.val (.ref a1), .val (.int c1), .unset, .unset, .unset] [(.ref a1)]
    obtain ⟨T296, X296, e296, st296⟩ := getF X276 hx hZ hown (host := "") (Or.inl (own_u hw 24 rfl)) Via.refl e276 f285 (g := (mkF m 142 #[.val (.ref a1), .val (.int c1), .unset, .unset, .unset] [(.ref a1)])) rfl rfl (hb hby own_d6_142)
    refine own_via st296 ?_
    show own_H T296 145 #[.val (.ref a1), .val (.int c1), .unset, .unset, .unset] [(.ref b2)]
    refine own_via (fun t k => XS.aloadN X296.here hx rfl (hb hby own_d6_145) rfl rfl k) ?_
    show own_H T296 146 #[.val (.ref a1), .val (.int c1), .unset, .unset, .unset] [(.ref a1), (.ref b2)]
    obtain ⟨T297, X297, e297, st297⟩ := getF X296 hx hZ hown (host := "") (Or.inl (own_u hw 17 rfl)) Via.refl e296 f281 (g := (mkF m 146 #[.val (.ref a1), .val (.int c1), .unset, .unset, .unset] [(.ref a1), (.ref b2)])) rfl rfl (hb hby own_d6_146)
    refine own_via st297 ?_
    show own_H T297 149 #[.val (.ref a1), .val (.int c1), .unset, .unset, .unset] [(.int c1), (.ref b2)]
    obtain ⟨v298, T298, h298, L298, X298, N298, e298, hq298, st298⟩ := own_callSW (y := (⟨"java/util/Arrays", "copyOf", "([II)[I"⟩ : MethodName)) (W := 0) X297 N276 hx hZ hown (own_u hw 50 rfl) (own_u hw 51 rfl) (own_u hw 52 rfl) (own_u hw 53 rfl) (by decide) (own_co l Z a0 hw [] b2 c1 k2 (own_Aig_64 c1 t0 h0_ t1 h1_) h276 n0 Zs295 f286 hp_hr.1) (by decide) (by decide) (by decide) (by decide) e297 (pc := 149) (Ls := #[.val (.ref a1), .val (.int c1), .unset, .unset, .unset]) (st := [(.int c1), (.ref b2)]) (argsL := [(.ref b2), (.int c1)]) (rest := []) (by rw [hml]; rfl) (lenOf own_pd8 rfl) rfl rfl (Nat.le_of_eq rfl) (hb hby own_d6_149)
    obtain ⟨x298, kx298, rfl, K298, zf_x298, o298_0⟩ := hq298
    refine own_via st298 ?_
    have ne299 : a1 ≠ x298 := Nat.ne_of_lt (Nat.lt_of_lt_of_le f277.lt zf_x298)
    have ne300 : fb ≠ x298 := Nat.ne_of_lt (Nat.lt_of_lt_of_le f283.lt zf_x298)
    have ne301 : tb ≠ x298 := Nat.ne_of_lt (Nat.lt_of_lt_of_le f284.lt zf_x298)
    have ne303 : b119 ≠ x298 := Nat.ne_of_lt (Nat.lt_of_lt_of_le f287.lt zf_x298)
    have ne304 : b159 ≠ x298 := Nat.ne_of_lt (Nat.lt_of_lt_of_le f289.lt zf_x298)
    have ne305 : b202 ≠ x298 := Nat.ne_of_lt (Nat.lt_of_lt_of_le f291.lt zf_x298)
    have ne306 : b248 ≠ x298 := Nat.ne_of_lt (Nat.lt_of_lt_of_le f293.lt zf_x298)
    have g_x298 : n0 ≤ x298 := Nat.le_trans Zs295 zf_x298
    have sz_x298 : h0.size ≤ x298 := Nat.le_trans Kp294.1 zf_x298
    have f307 := f277.ext (own_ke K298)
    have f308 := f278.ext (own_ke K298)
    have f309 := f279.ext (own_ke K298)
    have f310 := f280.ext (own_ke K298)
    have f311 := f281.ext (own_ke K298)
    have f312 := f282.ext (own_ke K298)
    have f313 := f283.ext (own_ke K298)
    have f314 := f284.ext (own_ke K298)
    have f315 := f285.ext (own_ke K298)
    have f317 := f287.ext (own_ke K298)
    have f318 := f288.ext (own_ke K298)
    have f319 := f289.ext (own_ke K298)
    have f320 := f290.ext (own_ke K298)
    have f321 := f291.ext (own_ke K298)
    have f322 := f292.ext (own_ke K298)
    have f323 := f293.ext (own_ke K298)
    have f324 := F276.ext (own_ke K298)
    have Kp325 := Kp294.trans K298 (fun x hx => nomatch hx)
    show own_H T298 152 #[.val (.ref a1), .val (.int c1), .unset, .unset, .unset] [(.ref x298)]
    clear f277 f278 f279 f280 f281 f282 f283 f284 f285 f286 f287 f288 f289 f290 f291 f292 f293 F276 Kp294 Zs295
    refine own_via (fun t k => XS.astoreN X298.here hx rfl (hb hby own_d6_152) rfl rfl (l' := #[.val (.ref a1), .val (.ref x298), .unset, .unset, .unset]) rfl k) ?_
    refine own_via (fun t k => XS.iconst X298.here hx rfl (hb hby own_d6_153) k) ?_
    show own_H T298 154 #[.val (.ref a1), .val (.ref x298), .unset, .unset, .unset] [(.int (0 : Int32))]
    refine own_via (fun t k => XS.istoreN X298.here hx rfl (hb hby own_d6_154) rfl (l' := #[.val (.ref a1), .val (.ref x298), .val (.int (0 : Int32)), .unset, .unset]) rfl k) ?_
    refine own_via (fun t k => XS.iloadN X298.here hx rfl (hb hby own_d6_155) rfl k) ?_
    refine own_via (fun t k => XS.aloadN X298.here hx rfl (hb hby own_d6_156) rfl rfl k) ?_
    show own_H T298 157 #[.val (.ref a1), .val (.ref x298), .val (.int (0 : Int32)), .unset, .unset] [(.ref a1), (.int (0 : Int32))]
    obtain ⟨T327, X327, e327, st327⟩ := getF X298 hx hZ hown (host := "") (Or.inl (own_u hw 26 rfl)) Via.refl e298 f312 (g := (mkF m 157 #[.val (.ref a1), .val (.ref x298), .val (.int (0 : Int32)), .unset, .unset] [(.ref a1), (.int (0 : Int32))])) rfl rfl (hb hby own_d6_157)
    refine own_via st327 ?_
    show own_H T327 160 #[.val (.ref a1), .val (.ref x298), .val (.int (0 : Int32)), .unset, .unset] [(.int (2 : Int32)), (.int (0 : Int32))]
    refine own_via (fun t k => XS.icmpNo X327.here hx rfl (hb hby own_d6_160) rfl (tlt (by decide : (0 : Int32) < (2 : Int32))).2.1 k) ?_
    show own_H T327 163 #[.val (.ref a1), .val (.ref x298), .val (.int (0 : Int32)), .unset, .unset] []
    refine own_via (fun t k => XS.aloadN X327.here hx rfl (hb hby own_d6_163) rfl rfl k) ?_
    refine own_via (fun t k => XS.aloadN X327.here hx rfl (hb hby own_d6_164) rfl rfl k) ?_
    show own_H T327 165 #[.val (.ref a1), .val (.ref x298), .val (.int (0 : Int32)), .unset, .unset] [(.ref a1), (.ref x298)]
    obtain ⟨T328, X328, e328, st328⟩ := getF X327 hx hZ hown (host := "") (Or.inl (own_u hw 11 rfl)) Via.refl e327 f308 (g := (mkF m 165 #[.val (.ref a1), .val (.ref x298), .val (.int (0 : Int32)), .unset, .unset] [(.ref a1), (.ref x298)])) rfl rfl (hb hby own_d6_165)
    refine own_via st328 ?_
    show own_H T328 168 #[.val (.ref a1), .val (.ref x298), .val (.int (0 : Int32)), .unset, .unset] [(.ref fb), (.ref x298)]
    refine own_via (fun t k => XS.iloadN X328.here hx rfl (hb hby own_d6_168) rfl k) ?_
    show own_H T328 169 #[.val (.ref a1), .val (.ref x298), .val (.int (0 : Int32)), .unset, .unset] [(.int (0 : Int32)), (.ref fb), (.ref x298)]
    refine own_via (own_ldI X328 hx hZ e328 f313 (j := (0 : Int32)) ⟨by decide, by decide⟩ (v := (.int t0)) rfl (pc := 169) (Ls := #[.val (.ref a1), .val (.ref x298), .val (.int (0 : Int32)), .unset, .unset]) (rest := [(.ref x298)]) (hb hby own_d6_169)) ?_
    show own_H T328 170 #[.val (.ref a1), .val (.ref x298), .val (.int (0 : Int32)), .unset, .unset] [(.int t0), (.ref x298)]
    refine own_via (own_dup2 X328 hx rfl rfl (hb hby own_d6_170)) ?_
    show own_H T328 171 #[.val (.ref a1), .val (.ref x298), .val (.int (0 : Int32)), .unset, .unset] [(.int t0), (.ref x298), (.int t0), (.ref x298)]
    refine own_via (own_ldS (L := (own_take (own_Aig_64 c1 t0 h0_ t1 h1_) c1.toNatClampNeg)) X328 hx hZ e328 o298_0 (j := t0) (own_Hig_65 c1 t0 h0_ t1 h1_ hp_hr).1 (pc := 171) (Ls := #[.val (.ref a1), .val (.ref x298), .val (.int (0 : Int32)), .unset, .unset]) (rest := [(.int t0), (.ref x298)]) (hb hby own_d6_171)) ?_
    show own_H T328 172 #[.val (.ref a1), .val (.ref x298), .val (.int (0 : Int32)), .unset, .unset] [(.int (own_Vig_66 c1 t0 h0_ t1 h1_)), (.int t0), (.ref x298)]
    refine own_via (own_dupx2 X328 hx rfl rfl rfl (hb hby own_d6_172)) ?_
    refine own_via (fun t k => XS.iconst X328.here hx rfl (hb hby own_d6_173) k) ?_
    show own_H T328 174 #[.val (.ref a1), .val (.ref x298), .val (.int (0 : Int32)), .unset, .unset] [(.int (1 : Int32)), (.int (own_Vig_66 c1 t0 h0_ t1 h1_)), (.int t0), (.ref x298), (.int (own_Vig_66 c1 t0 h0_ t1 h1_))]
    refine own_via (fun t k => XS.iadd X328.here hx rfl (hb hby own_d6_174) rfl k) ?_
    show own_H T328 175 #[.val (.ref a1), .val (.ref x298), .val (.int (0 : Int32)), .unset, .unset] [(.int ((own_Vig_66 c1 t0 h0_ t1 h1_) + (1 : Int32))), (.int t0), (.ref x298), (.int (own_Vig_66 c1 t0 h0_ t1 h1_))]
    obtain ⟨T329, h329, L329, X329, N329, e329, W329, V329, st329⟩ := own_stS (L := (own_take (own_Aig_64 c1 t0 h0_ t1 h1_) c1.toNatClampNeg)) X328 N298 hx hZ e328 o298_0 g_x298 (j := t0) (x := ((own_Vig_66 c1 t0 h0_ t1 h1_) + (1 : Int32))) (own_Hig_65 c1 t0 h0_ t1 h1_ hp_hr) (pc := 175) (Ls := #[.val (.ref a1), .val (.ref x298), .val (.int (0 : Int32)), .unset, .unset]) (rest := [(.int (own_Vig_66 c1 t0 h0_ t1 h1_))]) (hb hby own_d6_175)
    refine own_via st329 ?_
    have f330 := f307.wr W329
    have f331 := f308.other W329 (Or.inl ne299)
    have f332 := f309.other W329 (Or.inl ne299)
    have f333 := f310.other W329 (Or.inl ne299)
    have f334 := f311.other W329 (Or.inl ne299)
    have f335 := f312.other W329 (Or.inl ne299)
    have f336 := f313.other W329 ne300
    have f337 := f314.other W329 ne301
    have f338 := f315.other W329 (Or.inl ne299)
    have f340 := f317.other W329 ne303
    have f341 := f318.other W329 (Or.inl ne299)
    have f342 := f319.other W329 ne304
    have f343 := f320.other W329 (Or.inl ne299)
    have f344 := f321.other W329 ne305
    have f345 := f322.other W329 (Or.inl ne299)
    have f346 := f323.other W329 ne306
    have f347 := f324.other W329 (Or.inl ne299)
    have Kp348 := Kp325.wr W329 (Or.inr sz_x298)
    have f349 : Arv Z h329 x298 kx298 .int c1 ((own_Aig_67 c1 t0 h0_ t1 h1_).map Value.int) (.int (0 : Int32)) := V329
    show own_H T329 176 #[.val (.ref a1), .val (.ref x298), .val (.int (0 : Int32)), .unset, .unset] [(.int (own_Vig_66 c1 t0 h0_ t1 h1_))]
    clear f307 f308 f309 f310 f311 f312 f313 f314 f315 f317 f318 f319 f320 f321 f322 f323 f324 o298_0 Kp325
    refine own_via (fun t k => XS.istoreN X329.here hx rfl (hb hby own_d6_176) rfl (l' := #[.val (.ref a1), .val (.ref x298), .val (.int (0 : Int32)), .val (.int (own_Vig_66 c1 t0 h0_ t1 h1_)), .unset]) rfl k) ?_
    refine own_via (fun t k => XS.aloadN X329.here hx rfl (hb hby own_d6_177) rfl rfl k) ?_
    refine own_via (fun t k => XS.aloadN X329.here hx rfl (hb hby own_d6_178) rfl rfl k) ?_
    show own_H T329 179 #[.val (.ref a1), .val (.ref x298), .val (.int (0 : Int32)), .val (.int (own_Vig_66 c1 t0 h0_ t1 h1_)), .unset] [(.ref a1), (.ref x298)]
    obtain ⟨T351, X351, e351, st351⟩ := getF X329 hx hZ hown (host := "") (Or.inl (own_u hw 13 rfl)) Via.refl e329 f332 (g := (mkF m 179 #[.val (.ref a1), .val (.ref x298), .val (.int (0 : Int32)), .val (.int (own_Vig_66 c1 t0 h0_ t1 h1_)), .unset] [(.ref a1), (.ref x298)])) rfl rfl (hb hby own_d6_179)
    refine own_via st351 ?_
    show own_H T351 182 #[.val (.ref a1), .val (.ref x298), .val (.int (0 : Int32)), .val (.int (own_Vig_66 c1 t0 h0_ t1 h1_)), .unset] [(.ref tb), (.ref x298)]
    refine own_via (fun t k => XS.iloadN X351.here hx rfl (hb hby own_d6_182) rfl k) ?_
    show own_H T351 183 #[.val (.ref a1), .val (.ref x298), .val (.int (0 : Int32)), .val (.int (own_Vig_66 c1 t0 h0_ t1 h1_)), .unset] [(.int (0 : Int32)), (.ref tb), (.ref x298)]
    refine own_via (own_ldI X351 hx hZ e351 f337 (j := (0 : Int32)) ⟨by decide, by decide⟩ (v := (.int h0_)) rfl (pc := 183) (Ls := #[.val (.ref a1), .val (.ref x298), .val (.int (0 : Int32)), .val (.int (own_Vig_66 c1 t0 h0_ t1 h1_)), .unset]) (rest := [(.ref x298)]) (hb hby own_d6_183)) ?_
    show own_H T351 184 #[.val (.ref a1), .val (.ref x298), .val (.int (0 : Int32)), .val (.int (own_Vig_66 c1 t0 h0_ t1 h1_)), .unset] [(.int h0_), (.ref x298)]
    refine own_via (own_dup2 X351 hx rfl rfl (hb hby own_d6_184)) ?_
    show own_H T351 185 #[.val (.ref a1), .val (.ref x298), .val (.int (0 : Int32)), .val (.int (own_Vig_66 c1 t0 h0_ t1 h1_)), .unset] [(.int h0_), (.ref x298), (.int h0_), (.ref x298)]
    refine own_via (own_ldS (L := (own_Aig_67 c1 t0 h0_ t1 h1_)) X351 hx hZ e351 f349 (j := h0_) (own_Hig_68 c1 t0 h0_ t1 h1_ hp_hr).1 (pc := 185) (Ls := #[.val (.ref a1), .val (.ref x298), .val (.int (0 : Int32)), .val (.int (own_Vig_66 c1 t0 h0_ t1 h1_)), .unset]) (rest := [(.int h0_), (.ref x298)]) (hb hby own_d6_185)) ?_
    show own_H T351 186 #[.val (.ref a1), .val (.ref x298), .val (.int (0 : Int32)), .val (.int (own_Vig_66 c1 t0 h0_ t1 h1_)), .unset] [(.int (own_Vig_69 c1 t0 h0_ t1 h1_)), (.int h0_), (.ref x298)]
    refine own_via (own_dupx2 X351 hx rfl rfl rfl (hb hby own_d6_186)) ?_
    refine own_via (fun t k => XS.iconst X351.here hx rfl (hb hby own_d6_187) k) ?_
    show own_H T351 188 #[.val (.ref a1), .val (.ref x298), .val (.int (0 : Int32)), .val (.int (own_Vig_66 c1 t0 h0_ t1 h1_)), .unset] [(.int (1 : Int32)), (.int (own_Vig_69 c1 t0 h0_ t1 h1_)), (.int h0_), (.ref x298), (.int (own_Vig_69 c1 t0 h0_ t1 h1_))]
    refine own_via (fun t k => XS.iadd X351.here hx rfl (hb hby own_d6_188) rfl k) ?_
    show own_H T351 189 #[.val (.ref a1), .val (.ref x298), .val (.int (0 : Int32)), .val (.int (own_Vig_66 c1 t0 h0_ t1 h1_)), .unset] [(.int ((own_Vig_69 c1 t0 h0_ t1 h1_) + (1 : Int32))), (.int h0_), (.ref x298), (.int (own_Vig_69 c1 t0 h0_ t1 h1_))]
    obtain ⟨T352, h352, L352, X352, N352, e352, W352, V352, st352⟩ := own_stS (L := (own_Aig_67 c1 t0 h0_ t1 h1_)) X351 N329 hx hZ e351 f349 g_x298 (j := h0_) (x := ((own_Vig_69 c1 t0 h0_ t1 h1_) + (1 : Int32))) (own_Hig_68 c1 t0 h0_ t1 h1_ hp_hr) (pc := 189) (Ls := #[.val (.ref a1), .val (.ref x298), .val (.int (0 : Int32)), .val (.int (own_Vig_66 c1 t0 h0_ t1 h1_)), .unset]) (rest := [(.int (own_Vig_69 c1 t0 h0_ t1 h1_))]) (hb hby own_d6_189)
    refine own_via st352 ?_
    have f353 := f330.wr W352
    have f354 := f331.other W352 (Or.inl ne299)
    have f355 := f332.other W352 (Or.inl ne299)
    have f356 := f333.other W352 (Or.inl ne299)
    have f357 := f334.other W352 (Or.inl ne299)
    have f358 := f335.other W352 (Or.inl ne299)
    have f359 := f336.other W352 ne300
    have f360 := f337.other W352 ne301
    have f361 := f338.other W352 (Or.inl ne299)
    have f363 := f340.other W352 ne303
    have f364 := f341.other W352 (Or.inl ne299)
    have f365 := f342.other W352 ne304
    have f366 := f343.other W352 (Or.inl ne299)
    have f367 := f344.other W352 ne305
    have f368 := f345.other W352 (Or.inl ne299)
    have f369 := f346.other W352 ne306
    have f370 := f347.other W352 (Or.inl ne299)
    have Kp371 := Kp348.wr W352 (Or.inr sz_x298)
    have f372 : Arv Z h352 x298 kx298 .int c1 ((own_Aig_70 c1 t0 h0_ t1 h1_).map Value.int) (.int (0 : Int32)) := V352
    show own_H T352 190 #[.val (.ref a1), .val (.ref x298), .val (.int (0 : Int32)), .val (.int (own_Vig_66 c1 t0 h0_ t1 h1_)), .unset] [(.int (own_Vig_69 c1 t0 h0_ t1 h1_))]
    clear f330 f331 f332 f333 f334 f335 f336 f337 f338 f340 f341 f342 f343 f344 f345 f346 f347 f349 Kp348
    refine own_via (fun t k => XS.istore X352.here hx rfl (hb hby own_d6_190) rfl (l' := #[.val (.ref a1), .val (.ref x298), .val (.int (0 : Int32)), .val (.int (own_Vig_66 c1 t0 h0_ t1 h1_)), .val (.int (own_Vig_69 c1 t0 h0_ t1 h1_))]) rfl k) ?_
    refine own_via (fun t k => XS.aloadN X352.here hx rfl (hb hby own_d6_192) rfl rfl k) ?_
    show own_H T352 193 #[.val (.ref a1), .val (.ref x298), .val (.int (0 : Int32)), .val (.int (own_Vig_66 c1 t0 h0_ t1 h1_)), .val (.int (own_Vig_69 c1 t0 h0_ t1 h1_))] [(.ref a1)]
    obtain ⟨T374, X374, e374, st374⟩ := getF X352 hx hZ hown (host := "") (Or.inl (own_u hw 42 rfl)) Via.refl e352 f364 (g := (mkF m 193 #[.val (.ref a1), .val (.ref x298), .val (.int (0 : Int32)), .val (.int (own_Vig_66 c1 t0 h0_ t1 h1_)), .val (.int (own_Vig_69 c1 t0 h0_ t1 h1_))] [(.ref a1)])) rfl rfl (hb hby own_d6_193)
    refine own_via st374 ?_
    show own_H T374 196 #[.val (.ref a1), .val (.ref x298), .val (.int (0 : Int32)), .val (.int (own_Vig_66 c1 t0 h0_ t1 h1_)), .val (.int (own_Vig_69 c1 t0 h0_ t1 h1_))] [(.ref b119)]
    refine own_via (fun t k => XS.iloadN X374.here hx rfl (hb hby own_d6_196) rfl k) ?_
    refine own_via (fun t k => XS.aloadN X374.here hx rfl (hb hby own_d6_197) rfl rfl k) ?_
    show own_H T374 198 #[.val (.ref a1), .val (.ref x298), .val (.int (0 : Int32)), .val (.int (own_Vig_66 c1 t0 h0_ t1 h1_)), .val (.int (own_Vig_69 c1 t0 h0_ t1 h1_))] [(.ref a1), (.int (own_Vig_66 c1 t0 h0_ t1 h1_)), (.ref b119)]
    obtain ⟨T375, X375, e375, st375⟩ := getF X374 hx hZ hown (host := "") (Or.inl (own_u hw 13 rfl)) Via.refl e374 f355 (g := (mkF m 198 #[.val (.ref a1), .val (.ref x298), .val (.int (0 : Int32)), .val (.int (own_Vig_66 c1 t0 h0_ t1 h1_)), .val (.int (own_Vig_69 c1 t0 h0_ t1 h1_))] [(.ref a1), (.int (own_Vig_66 c1 t0 h0_ t1 h1_)), (.ref b119)])) rfl rfl (hb hby own_d6_198)
    refine own_via st375 ?_
    show own_H T375 201 #[.val (.ref a1), .val (.ref x298), .val (.int (0 : Int32)), .val (.int (own_Vig_66 c1 t0 h0_ t1 h1_)), .val (.int (own_Vig_69 c1 t0 h0_ t1 h1_))] [(.ref tb), (.int (own_Vig_66 c1 t0 h0_ t1 h1_)), (.ref b119)]
    refine own_via (fun t k => XS.iloadN X375.here hx rfl (hb hby own_d6_201) rfl k) ?_
    show own_H T375 202 #[.val (.ref a1), .val (.ref x298), .val (.int (0 : Int32)), .val (.int (own_Vig_66 c1 t0 h0_ t1 h1_)), .val (.int (own_Vig_69 c1 t0 h0_ t1 h1_))] [(.int (0 : Int32)), (.ref tb), (.int (own_Vig_66 c1 t0 h0_ t1 h1_)), (.ref b119)]
    refine own_via (own_ldI X375 hx hZ e375 f360 (j := (0 : Int32)) ⟨by decide, by decide⟩ (v := (.int h0_)) rfl (pc := 202) (Ls := #[.val (.ref a1), .val (.ref x298), .val (.int (0 : Int32)), .val (.int (own_Vig_66 c1 t0 h0_ t1 h1_)), .val (.int (own_Vig_69 c1 t0 h0_ t1 h1_))]) (rest := [(.int (own_Vig_66 c1 t0 h0_ t1 h1_)), (.ref b119)]) (hb hby own_d6_202)) ?_
    show own_H T375 203 #[.val (.ref a1), .val (.ref x298), .val (.int (0 : Int32)), .val (.int (own_Vig_66 c1 t0 h0_ t1 h1_)), .val (.int (own_Vig_69 c1 t0 h0_ t1 h1_))] [(.int h0_), (.int (own_Vig_66 c1 t0 h0_ t1 h1_)), (.ref b119)]
    obtain ⟨T376, h376, L376, X376, N376, e376, W376, V376, st376⟩ := own_stS (L := ([(0 : Int32), (0 : Int32), (0 : Int32), (0 : Int32)] : List Int32)) X375 N352 hx hZ e375 f363 g_b119 (j := (own_Vig_66 c1 t0 h0_ t1 h1_)) (x := h0_) (own_Hig_71 c1 t0 h0_ t1 h1_ hp_hr) (pc := 203) (Ls := #[.val (.ref a1), .val (.ref x298), .val (.int (0 : Int32)), .val (.int (own_Vig_66 c1 t0 h0_ t1 h1_)), .val (.int (own_Vig_69 c1 t0 h0_ t1 h1_))]) (rest := []) (hb hby own_d6_203)
    refine own_via st376 ?_
    have f377 := f353.wr W376
    have f378 := f354.other W376 (Or.inl ne120)
    have f379 := f355.other W376 (Or.inl ne120)
    have f380 := f356.other W376 (Or.inl ne120)
    have f381 := f357.other W376 (Or.inl ne120)
    have f382 := f358.other W376 (Or.inl ne120)
    have f383 := f359.other W376 ne121
    have f384 := f360.other W376 ne122
    have f385 := f361.other W376 (Or.inl ne120)
    have f387 := f364.other W376 (Or.inl ne120)
    have f388 := f365.other W376 (Ne.symm ne164)
    have f389 := f366.other W376 (Or.inl ne120)
    have f390 := f367.other W376 (Ne.symm ne207)
    have f391 := f368.other W376 (Or.inl ne120)
    have f392 := f369.other W376 (Ne.symm ne253)
    have f393 := f370.other W376 (Or.inl ne120)
    have f394 := f372.other W376 (Ne.symm ne303)
    have Kp395 := Kp371.wr W376 (Or.inr sz_b119)
    have f396 : Arv Z h376 b119 k119 .int (4 : Int32) ((own_Aig_72 c1 t0 h0_ t1 h1_).map Value.int) (.int (0 : Int32)) := V376
    show own_H T376 204 #[.val (.ref a1), .val (.ref x298), .val (.int (0 : Int32)), .val (.int (own_Vig_66 c1 t0 h0_ t1 h1_)), .val (.int (own_Vig_69 c1 t0 h0_ t1 h1_))] []
    clear f353 f354 f355 f356 f357 f358 f359 f360 f361 f363 f364 f365 f366 f367 f368 f369 f370 f372 Kp371
    refine own_via (fun t k => XS.aloadN X376.here hx rfl (hb hby own_d6_204) rfl rfl k) ?_
    show own_H T376 205 #[.val (.ref a1), .val (.ref x298), .val (.int (0 : Int32)), .val (.int (own_Vig_66 c1 t0 h0_ t1 h1_)), .val (.int (own_Vig_69 c1 t0 h0_ t1 h1_))] [(.ref a1)]
    obtain ⟨T398, X398, e398, st398⟩ := getF X376 hx hZ hown (host := "") (Or.inl (own_u hw 42 rfl)) Via.refl e376 f387 (g := (mkF m 205 #[.val (.ref a1), .val (.ref x298), .val (.int (0 : Int32)), .val (.int (own_Vig_66 c1 t0 h0_ t1 h1_)), .val (.int (own_Vig_69 c1 t0 h0_ t1 h1_))] [(.ref a1)])) rfl rfl (hb hby own_d6_205)
    refine own_via st398 ?_
    show own_H T398 208 #[.val (.ref a1), .val (.ref x298), .val (.int (0 : Int32)), .val (.int (own_Vig_66 c1 t0 h0_ t1 h1_)), .val (.int (own_Vig_69 c1 t0 h0_ t1 h1_))] [(.ref b119)]
    refine own_via (fun t k => XS.iload X398.here hx rfl (hb hby own_d6_208) rfl k) ?_
    refine own_via (fun t k => XS.aloadN X398.here hx rfl (hb hby own_d6_210) rfl rfl k) ?_
    show own_H T398 211 #[.val (.ref a1), .val (.ref x298), .val (.int (0 : Int32)), .val (.int (own_Vig_66 c1 t0 h0_ t1 h1_)), .val (.int (own_Vig_69 c1 t0 h0_ t1 h1_))] [(.ref a1), (.int (own_Vig_69 c1 t0 h0_ t1 h1_)), (.ref b119)]
    obtain ⟨T399, X399, e399, st399⟩ := getF X398 hx hZ hown (host := "") (Or.inl (own_u hw 11 rfl)) Via.refl e398 f378 (g := (mkF m 211 #[.val (.ref a1), .val (.ref x298), .val (.int (0 : Int32)), .val (.int (own_Vig_66 c1 t0 h0_ t1 h1_)), .val (.int (own_Vig_69 c1 t0 h0_ t1 h1_))] [(.ref a1), (.int (own_Vig_69 c1 t0 h0_ t1 h1_)), (.ref b119)])) rfl rfl (hb hby own_d6_211)
    refine own_via st399 ?_
    show own_H T399 214 #[.val (.ref a1), .val (.ref x298), .val (.int (0 : Int32)), .val (.int (own_Vig_66 c1 t0 h0_ t1 h1_)), .val (.int (own_Vig_69 c1 t0 h0_ t1 h1_))] [(.ref fb), (.int (own_Vig_69 c1 t0 h0_ t1 h1_)), (.ref b119)]
    refine own_via (fun t k => XS.iloadN X399.here hx rfl (hb hby own_d6_214) rfl k) ?_
    show own_H T399 215 #[.val (.ref a1), .val (.ref x298), .val (.int (0 : Int32)), .val (.int (own_Vig_66 c1 t0 h0_ t1 h1_)), .val (.int (own_Vig_69 c1 t0 h0_ t1 h1_))] [(.int (0 : Int32)), (.ref fb), (.int (own_Vig_69 c1 t0 h0_ t1 h1_)), (.ref b119)]
    refine own_via (own_ldI X399 hx hZ e399 f383 (j := (0 : Int32)) ⟨by decide, by decide⟩ (v := (.int t0)) rfl (pc := 215) (Ls := #[.val (.ref a1), .val (.ref x298), .val (.int (0 : Int32)), .val (.int (own_Vig_66 c1 t0 h0_ t1 h1_)), .val (.int (own_Vig_69 c1 t0 h0_ t1 h1_))]) (rest := [(.int (own_Vig_69 c1 t0 h0_ t1 h1_)), (.ref b119)]) (hb hby own_d6_215)) ?_
    show own_H T399 216 #[.val (.ref a1), .val (.ref x298), .val (.int (0 : Int32)), .val (.int (own_Vig_66 c1 t0 h0_ t1 h1_)), .val (.int (own_Vig_69 c1 t0 h0_ t1 h1_))] [(.int t0), (.int (own_Vig_69 c1 t0 h0_ t1 h1_)), (.ref b119)]
    obtain ⟨T400, h400, L400, X400, N400, e400, W400, V400, st400⟩ := own_stS (L := (own_Aig_72 c1 t0 h0_ t1 h1_)) X399 N376 hx hZ e399 f396 g_b119 (j := (own_Vig_69 c1 t0 h0_ t1 h1_)) (x := t0) (own_Hig_73 c1 t0 h0_ t1 h1_ hp_hr) (pc := 216) (Ls := #[.val (.ref a1), .val (.ref x298), .val (.int (0 : Int32)), .val (.int (own_Vig_66 c1 t0 h0_ t1 h1_)), .val (.int (own_Vig_69 c1 t0 h0_ t1 h1_))]) (rest := []) (hb hby own_d6_216)
    refine own_via st400 ?_
    have f401 := f377.wr W400
    have f402 := f378.other W400 (Or.inl ne120)
    have f403 := f379.other W400 (Or.inl ne120)
    have f404 := f380.other W400 (Or.inl ne120)
    have f405 := f381.other W400 (Or.inl ne120)
    have f406 := f382.other W400 (Or.inl ne120)
    have f407 := f383.other W400 ne121
    have f408 := f384.other W400 ne122
    have f409 := f385.other W400 (Or.inl ne120)
    have f411 := f387.other W400 (Or.inl ne120)
    have f412 := f388.other W400 (Ne.symm ne164)
    have f413 := f389.other W400 (Or.inl ne120)
    have f414 := f390.other W400 (Ne.symm ne207)
    have f415 := f391.other W400 (Or.inl ne120)
    have f416 := f392.other W400 (Ne.symm ne253)
    have f417 := f393.other W400 (Or.inl ne120)
    have f418 := f394.other W400 (Ne.symm ne303)
    have Kp419 := Kp395.wr W400 (Or.inr sz_b119)
    have f420 : Arv Z h400 b119 k119 .int (4 : Int32) ((own_Aig_74 c1 t0 h0_ t1 h1_).map Value.int) (.int (0 : Int32)) := V400
    show own_H T400 217 #[.val (.ref a1), .val (.ref x298), .val (.int (0 : Int32)), .val (.int (own_Vig_66 c1 t0 h0_ t1 h1_)), .val (.int (own_Vig_69 c1 t0 h0_ t1 h1_))] []
    clear f377 f378 f379 f380 f381 f382 f383 f384 f385 f387 f388 f389 f390 f391 f392 f393 f394 f396 Kp395
    refine own_via (fun t k => XS.aloadN X400.here hx rfl (hb hby own_d6_217) rfl rfl k) ?_
    show own_H T400 218 #[.val (.ref a1), .val (.ref x298), .val (.int (0 : Int32)), .val (.int (own_Vig_66 c1 t0 h0_ t1 h1_)), .val (.int (own_Vig_69 c1 t0 h0_ t1 h1_))] [(.ref a1)]
    obtain ⟨T422, X422, e422, st422⟩ := getF X400 hx hZ hown (host := "") (Or.inl (own_u hw 44 rfl)) Via.refl e400 f413 (g := (mkF m 218 #[.val (.ref a1), .val (.ref x298), .val (.int (0 : Int32)), .val (.int (own_Vig_66 c1 t0 h0_ t1 h1_)), .val (.int (own_Vig_69 c1 t0 h0_ t1 h1_))] [(.ref a1)])) rfl rfl (hb hby own_d6_218)
    refine own_via st422 ?_
    show own_H T422 221 #[.val (.ref a1), .val (.ref x298), .val (.int (0 : Int32)), .val (.int (own_Vig_66 c1 t0 h0_ t1 h1_)), .val (.int (own_Vig_69 c1 t0 h0_ t1 h1_))] [(.ref b159)]
    refine own_via (fun t k => XS.iloadN X422.here hx rfl (hb hby own_d6_221) rfl k) ?_
    refine own_via (fun t k => XS.iloadN X422.here hx rfl (hb hby own_d6_222) rfl k) ?_
    show own_H T422 223 #[.val (.ref a1), .val (.ref x298), .val (.int (0 : Int32)), .val (.int (own_Vig_66 c1 t0 h0_ t1 h1_)), .val (.int (own_Vig_69 c1 t0 h0_ t1 h1_))] [(.int (0 : Int32)), (.int (own_Vig_66 c1 t0 h0_ t1 h1_)), (.ref b159)]
    obtain ⟨T423, h423, L423, X423, N423, e423, W423, V423, st423⟩ := own_stS (L := ([(0 : Int32), (0 : Int32), (0 : Int32), (0 : Int32)] : List Int32)) X422 N400 hx hZ e422 f412 g_b159 (j := (own_Vig_66 c1 t0 h0_ t1 h1_)) (x := (0 : Int32)) (own_Hig_71 c1 t0 h0_ t1 h1_ hp_hr) (pc := 223) (Ls := #[.val (.ref a1), .val (.ref x298), .val (.int (0 : Int32)), .val (.int (own_Vig_66 c1 t0 h0_ t1 h1_)), .val (.int (own_Vig_69 c1 t0 h0_ t1 h1_))]) (rest := []) (hb hby own_d6_223)
    refine own_via st423 ?_
    have f424 := f401.wr W423
    have f425 := f402.other W423 (Or.inl ne160)
    have f426 := f403.other W423 (Or.inl ne160)
    have f427 := f404.other W423 (Or.inl ne160)
    have f428 := f405.other W423 (Or.inl ne160)
    have f429 := f406.other W423 (Or.inl ne160)
    have f430 := f407.other W423 ne161
    have f431 := f408.other W423 ne162
    have f432 := f409.other W423 (Or.inl ne160)
    have f434 := f411.other W423 (Or.inl ne160)
    have f435 := f413.other W423 (Or.inl ne160)
    have f436 := f414.other W423 (Ne.symm ne208)
    have f437 := f415.other W423 (Or.inl ne160)
    have f438 := f416.other W423 (Ne.symm ne254)
    have f439 := f417.other W423 (Or.inl ne160)
    have f440 := f418.other W423 (Ne.symm ne304)
    have f441 := f420.other W423 ne164
    have Kp442 := Kp419.wr W423 (Or.inr sz_b159)
    have f443 : Arv Z h423 b159 k159 .int (4 : Int32) ((own_Aig_75 c1 t0 h0_ t1 h1_).map Value.int) (.int (0 : Int32)) := V423
    show own_H T423 224 #[.val (.ref a1), .val (.ref x298), .val (.int (0 : Int32)), .val (.int (own_Vig_66 c1 t0 h0_ t1 h1_)), .val (.int (own_Vig_69 c1 t0 h0_ t1 h1_))] []
    clear f401 f402 f403 f404 f405 f406 f407 f408 f409 f411 f412 f413 f414 f415 f416 f417 f418 f420 Kp419
    refine own_via (fun t k => XS.aloadN X423.here hx rfl (hb hby own_d6_224) rfl rfl k) ?_
    show own_H T423 225 #[.val (.ref a1), .val (.ref x298), .val (.int (0 : Int32)), .val (.int (own_Vig_66 c1 t0 h0_ t1 h1_)), .val (.int (own_Vig_69 c1 t0 h0_ t1 h1_))] [(.ref a1)]
    obtain ⟨T445, X445, e445, st445⟩ := getF X423 hx hZ hown (host := "") (Or.inl (own_u hw 44 rfl)) Via.refl e423 f435 (g := (mkF m 225 #[.val (.ref a1), .val (.ref x298), .val (.int (0 : Int32)), .val (.int (own_Vig_66 c1 t0 h0_ t1 h1_)), .val (.int (own_Vig_69 c1 t0 h0_ t1 h1_))] [(.ref a1)])) rfl rfl (hb hby own_d6_225)
    refine own_via st445 ?_
    show own_H T445 228 #[.val (.ref a1), .val (.ref x298), .val (.int (0 : Int32)), .val (.int (own_Vig_66 c1 t0 h0_ t1 h1_)), .val (.int (own_Vig_69 c1 t0 h0_ t1 h1_))] [(.ref b159)]
    refine own_via (fun t k => XS.iload X445.here hx rfl (hb hby own_d6_228) rfl k) ?_
    refine own_via (fun t k => XS.iloadN X445.here hx rfl (hb hby own_d6_230) rfl k) ?_
    show own_H T445 231 #[.val (.ref a1), .val (.ref x298), .val (.int (0 : Int32)), .val (.int (own_Vig_66 c1 t0 h0_ t1 h1_)), .val (.int (own_Vig_69 c1 t0 h0_ t1 h1_))] [(.int (0 : Int32)), (.int (own_Vig_69 c1 t0 h0_ t1 h1_)), (.ref b159)]
    obtain ⟨T446, h446, L446, X446, N446, e446, W446, V446, st446⟩ := own_stS (L := (own_Aig_75 c1 t0 h0_ t1 h1_)) X445 N423 hx hZ e445 f443 g_b159 (j := (own_Vig_69 c1 t0 h0_ t1 h1_)) (x := (0 : Int32)) (own_Hig_76 c1 t0 h0_ t1 h1_ hp_hr) (pc := 231) (Ls := #[.val (.ref a1), .val (.ref x298), .val (.int (0 : Int32)), .val (.int (own_Vig_66 c1 t0 h0_ t1 h1_)), .val (.int (own_Vig_69 c1 t0 h0_ t1 h1_))]) (rest := []) (hb hby own_d6_231)
    refine own_via st446 ?_
    have f447 := f424.wr W446
    have f448 := f425.other W446 (Or.inl ne160)
    have f449 := f426.other W446 (Or.inl ne160)
    have f450 := f427.other W446 (Or.inl ne160)
    have f451 := f428.other W446 (Or.inl ne160)
    have f452 := f429.other W446 (Or.inl ne160)
    have f453 := f430.other W446 ne161
    have f454 := f431.other W446 ne162
    have f455 := f432.other W446 (Or.inl ne160)
    have f457 := f434.other W446 (Or.inl ne160)
    have f458 := f435.other W446 (Or.inl ne160)
    have f459 := f436.other W446 (Ne.symm ne208)
    have f460 := f437.other W446 (Or.inl ne160)
    have f461 := f438.other W446 (Ne.symm ne254)
    have f462 := f439.other W446 (Or.inl ne160)
    have f463 := f440.other W446 (Ne.symm ne304)
    have f464 := f441.other W446 ne164
    have Kp465 := Kp442.wr W446 (Or.inr sz_b159)
    have f466 : Arv Z h446 b159 k159 .int (4 : Int32) ((own_Aig_77 c1 t0 h0_ t1 h1_).map Value.int) (.int (0 : Int32)) := V446
    show own_H T446 232 #[.val (.ref a1), .val (.ref x298), .val (.int (0 : Int32)), .val (.int (own_Vig_66 c1 t0 h0_ t1 h1_)), .val (.int (own_Vig_69 c1 t0 h0_ t1 h1_))] []
    clear f424 f425 f426 f427 f428 f429 f430 f431 f432 f434 f435 f436 f437 f438 f439 f440 f441 f443 Kp442
    refine own_via (fun t k => XS.aloadN X446.here hx rfl (hb hby own_d6_232) rfl rfl k) ?_
    show own_H T446 233 #[.val (.ref a1), .val (.ref x298), .val (.int (0 : Int32)), .val (.int (own_Vig_66 c1 t0 h0_ t1 h1_)), .val (.int (own_Vig_69 c1 t0 h0_ t1 h1_))] [(.ref a1)]
    obtain ⟨T468, X468, e468, st468⟩ := getF X446 hx hZ hown (host := "") (Or.inl (own_u hw 46 rfl)) Via.refl e446 f460 (g := (mkF m 233 #[.val (.ref a1), .val (.ref x298), .val (.int (0 : Int32)), .val (.int (own_Vig_66 c1 t0 h0_ t1 h1_)), .val (.int (own_Vig_69 c1 t0 h0_ t1 h1_))] [(.ref a1)])) rfl rfl (hb hby own_d6_233)
    refine own_via st468 ?_
    show own_H T468 236 #[.val (.ref a1), .val (.ref x298), .val (.int (0 : Int32)), .val (.int (own_Vig_66 c1 t0 h0_ t1 h1_)), .val (.int (own_Vig_69 c1 t0 h0_ t1 h1_))] [(.ref b202)]
    refine own_via (fun t k => XS.iloadN X468.here hx rfl (hb hby own_d6_236) rfl k) ?_
    refine own_via (fun t k => XS.iload X468.here hx rfl (hb hby own_d6_237) rfl k) ?_
    show own_H T468 239 #[.val (.ref a1), .val (.ref x298), .val (.int (0 : Int32)), .val (.int (own_Vig_66 c1 t0 h0_ t1 h1_)), .val (.int (own_Vig_69 c1 t0 h0_ t1 h1_))] [(.int (own_Vig_69 c1 t0 h0_ t1 h1_)), (.int (own_Vig_66 c1 t0 h0_ t1 h1_)), (.ref b202)]
    obtain ⟨T469, h469, L469, X469, N469, e469, W469, V469, st469⟩ := own_stS (L := ([(0 : Int32), (0 : Int32), (0 : Int32), (0 : Int32)] : List Int32)) X468 N446 hx hZ e468 f459 g_b202 (j := (own_Vig_66 c1 t0 h0_ t1 h1_)) (x := (own_Vig_69 c1 t0 h0_ t1 h1_)) (own_Hig_71 c1 t0 h0_ t1 h1_ hp_hr) (pc := 239) (Ls := #[.val (.ref a1), .val (.ref x298), .val (.int (0 : Int32)), .val (.int (own_Vig_66 c1 t0 h0_ t1 h1_)), .val (.int (own_Vig_69 c1 t0 h0_ t1 h1_))]) (rest := []) (hb hby own_d6_239)
    refine own_via st469 ?_
    have f470 := f447.wr W469
    have f471 := f448.other W469 (Or.inl ne203)
    have f472 := f449.other W469 (Or.inl ne203)
    have f473 := f450.other W469 (Or.inl ne203)
    have f474 := f451.other W469 (Or.inl ne203)
    have f475 := f452.other W469 (Or.inl ne203)
    have f476 := f453.other W469 ne204
    have f477 := f454.other W469 ne205
    have f478 := f455.other W469 (Or.inl ne203)
    have f480 := f457.other W469 (Or.inl ne203)
    have f481 := f458.other W469 (Or.inl ne203)
    have f482 := f460.other W469 (Or.inl ne203)
    have f483 := f461.other W469 (Ne.symm ne255)
    have f484 := f462.other W469 (Or.inl ne203)
    have f485 := f463.other W469 (Ne.symm ne305)
    have f486 := f464.other W469 ne207
    have f487 := f466.other W469 ne208
    have Kp488 := Kp465.wr W469 (Or.inr sz_b202)
    have f489 : Arv Z h469 b202 k202 .int (4 : Int32) ((own_Aig_78 c1 t0 h0_ t1 h1_).map Value.int) (.int (0 : Int32)) := V469
    show own_H T469 240 #[.val (.ref a1), .val (.ref x298), .val (.int (0 : Int32)), .val (.int (own_Vig_66 c1 t0 h0_ t1 h1_)), .val (.int (own_Vig_69 c1 t0 h0_ t1 h1_))] []
    clear f447 f448 f449 f450 f451 f452 f453 f454 f455 f457 f458 f459 f460 f461 f462 f463 f464 f466 Kp465
    refine own_via (fun t k => XS.aloadN X469.here hx rfl (hb hby own_d6_240) rfl rfl k) ?_
    show own_H T469 241 #[.val (.ref a1), .val (.ref x298), .val (.int (0 : Int32)), .val (.int (own_Vig_66 c1 t0 h0_ t1 h1_)), .val (.int (own_Vig_69 c1 t0 h0_ t1 h1_))] [(.ref a1)]
    obtain ⟨T491, X491, e491, st491⟩ := getF X469 hx hZ hown (host := "") (Or.inl (own_u hw 46 rfl)) Via.refl e469 f482 (g := (mkF m 241 #[.val (.ref a1), .val (.ref x298), .val (.int (0 : Int32)), .val (.int (own_Vig_66 c1 t0 h0_ t1 h1_)), .val (.int (own_Vig_69 c1 t0 h0_ t1 h1_))] [(.ref a1)])) rfl rfl (hb hby own_d6_241)
    refine own_via st491 ?_
    show own_H T491 244 #[.val (.ref a1), .val (.ref x298), .val (.int (0 : Int32)), .val (.int (own_Vig_66 c1 t0 h0_ t1 h1_)), .val (.int (own_Vig_69 c1 t0 h0_ t1 h1_))] [(.ref b202)]
    refine own_via (fun t k => XS.iload X491.here hx rfl (hb hby own_d6_244) rfl k) ?_
    refine own_via (fun t k => XS.iloadN X491.here hx rfl (hb hby own_d6_246) rfl k) ?_
    show own_H T491 247 #[.val (.ref a1), .val (.ref x298), .val (.int (0 : Int32)), .val (.int (own_Vig_66 c1 t0 h0_ t1 h1_)), .val (.int (own_Vig_69 c1 t0 h0_ t1 h1_))] [(.int (own_Vig_66 c1 t0 h0_ t1 h1_)), (.int (own_Vig_69 c1 t0 h0_ t1 h1_)), (.ref b202)]
    obtain ⟨T492, h492, L492, X492, N492, e492, W492, V492, st492⟩ := own_stS (L := (own_Aig_78 c1 t0 h0_ t1 h1_)) X491 N469 hx hZ e491 f489 g_b202 (j := (own_Vig_69 c1 t0 h0_ t1 h1_)) (x := (own_Vig_66 c1 t0 h0_ t1 h1_)) (own_Hig_79 c1 t0 h0_ t1 h1_ hp_hr) (pc := 247) (Ls := #[.val (.ref a1), .val (.ref x298), .val (.int (0 : Int32)), .val (.int (own_Vig_66 c1 t0 h0_ t1 h1_)), .val (.int (own_Vig_69 c1 t0 h0_ t1 h1_))]) (rest := []) (hb hby own_d6_247)
    refine own_via st492 ?_
    have f493 := f470.wr W492
    have f494 := f471.other W492 (Or.inl ne203)
    have f495 := f472.other W492 (Or.inl ne203)
    have f496 := f473.other W492 (Or.inl ne203)
    have f497 := f474.other W492 (Or.inl ne203)
    have f498 := f475.other W492 (Or.inl ne203)
    have f499 := f476.other W492 ne204
    have f500 := f477.other W492 ne205
    have f501 := f478.other W492 (Or.inl ne203)
    have f503 := f480.other W492 (Or.inl ne203)
    have f504 := f481.other W492 (Or.inl ne203)
    have f505 := f482.other W492 (Or.inl ne203)
    have f506 := f483.other W492 (Ne.symm ne255)
    have f507 := f484.other W492 (Or.inl ne203)
    have f508 := f485.other W492 (Ne.symm ne305)
    have f509 := f486.other W492 ne207
    have f510 := f487.other W492 ne208
    have Kp511 := Kp488.wr W492 (Or.inr sz_b202)
    have f512 : Arv Z h492 b202 k202 .int (4 : Int32) ((own_Aig_80 c1 t0 h0_ t1 h1_).map Value.int) (.int (0 : Int32)) := V492
    show own_H T492 248 #[.val (.ref a1), .val (.ref x298), .val (.int (0 : Int32)), .val (.int (own_Vig_66 c1 t0 h0_ t1 h1_)), .val (.int (own_Vig_69 c1 t0 h0_ t1 h1_))] []
    clear f470 f471 f472 f473 f474 f475 f476 f477 f478 f480 f481 f482 f483 f484 f485 f486 f487 f489 Kp488
    refine own_via (fun t k => XS.aloadN X492.here hx rfl (hb hby own_d6_248) rfl rfl k) ?_
    show own_H T492 249 #[.val (.ref a1), .val (.ref x298), .val (.int (0 : Int32)), .val (.int (own_Vig_66 c1 t0 h0_ t1 h1_)), .val (.int (own_Vig_69 c1 t0 h0_ t1 h1_))] [(.ref a1)]
    obtain ⟨T514, X514, e514, st514⟩ := getF X492 hx hZ hown (host := "") (Or.inl (own_u hw 48 rfl)) Via.refl e492 f507 (g := (mkF m 249 #[.val (.ref a1), .val (.ref x298), .val (.int (0 : Int32)), .val (.int (own_Vig_66 c1 t0 h0_ t1 h1_)), .val (.int (own_Vig_69 c1 t0 h0_ t1 h1_))] [(.ref a1)])) rfl rfl (hb hby own_d6_249)
    refine own_via st514 ?_
    show own_H T514 252 #[.val (.ref a1), .val (.ref x298), .val (.int (0 : Int32)), .val (.int (own_Vig_66 c1 t0 h0_ t1 h1_)), .val (.int (own_Vig_69 c1 t0 h0_ t1 h1_))] [(.ref b248)]
    refine own_via (fun t k => XS.iloadN X514.here hx rfl (hb hby own_d6_252) rfl k) ?_
    refine own_via (fun t k => XS.iloadN X514.here hx rfl (hb hby own_d6_253) rfl k) ?_
    show own_H T514 254 #[.val (.ref a1), .val (.ref x298), .val (.int (0 : Int32)), .val (.int (own_Vig_66 c1 t0 h0_ t1 h1_)), .val (.int (own_Vig_69 c1 t0 h0_ t1 h1_))] [(.int (own_Vig_66 c1 t0 h0_ t1 h1_)), (.int (0 : Int32)), (.ref b248)]
    obtain ⟨T515, h515, L515, X515, N515, e515, W515, V515, st515⟩ := own_stI X514 N492 hx hZ e514 f506 g_b248 (j := (0 : Int32)) (x := (own_Vig_66 c1 t0 h0_ t1 h1_)) (i := 0) ⟨by decide, by decide⟩ rfl (Nat.le_of_ble_eq_true rfl) (pc := 254) (Ls := #[.val (.ref a1), .val (.ref x298), .val (.int (0 : Int32)), .val (.int (own_Vig_66 c1 t0 h0_ t1 h1_)), .val (.int (own_Vig_69 c1 t0 h0_ t1 h1_))]) (rest := []) (hb hby own_d6_254)
    refine own_via st515 ?_
    have f516 := f493.wr W515
    have f517 := f494.other W515 (Or.inl ne249)
    have f518 := f495.other W515 (Or.inl ne249)
    have f519 := f496.other W515 (Or.inl ne249)
    have f520 := f497.other W515 (Or.inl ne249)
    have f521 := f498.other W515 (Or.inl ne249)
    have f522 := f499.other W515 ne250
    have f523 := f500.other W515 ne251
    have f524 := f501.other W515 (Or.inl ne249)
    have f526 := f503.other W515 (Or.inl ne249)
    have f527 := f504.other W515 (Or.inl ne249)
    have f528 := f505.other W515 (Or.inl ne249)
    have f529 := f507.other W515 (Or.inl ne249)
    have f530 := f508.other W515 (Ne.symm ne306)
    have f531 := f509.other W515 ne253
    have f532 := f510.other W515 ne254
    have f533 := f512.other W515 ne255
    have Kp534 := Kp511.wr W515 (Or.inr sz_b248)
    have f535 : Arv Z h515 b248 k248 .int (2 : Int32) [(.int (own_Vig_66 c1 t0 h0_ t1 h1_)), (.int (0 : Int32))] (.int (0 : Int32)) := V515
    show own_H T515 255 #[.val (.ref a1), .val (.ref x298), .val (.int (0 : Int32)), .val (.int (own_Vig_66 c1 t0 h0_ t1 h1_)), .val (.int (own_Vig_69 c1 t0 h0_ t1 h1_))] []
    clear f493 f494 f495 f496 f497 f498 f499 f500 f501 f503 f504 f505 f506 f507 f508 f509 f510 f512 Kp511
    refine own_via (fun t k => XS.iinc X515.here hx rfl (hb hby own_d6_255) rfl (l' := #[.val (.ref a1), .val (.ref x298), .val (.int (1 : Int32)), .val (.int (own_Vig_66 c1 t0 h0_ t1 h1_)), .val (.int (own_Vig_69 c1 t0 h0_ t1 h1_))]) rfl k) ?_
    show own_H T515 258 #[.val (.ref a1), .val (.ref x298), .val (.int (1 : Int32)), .val (.int (own_Vig_66 c1 t0 h0_ t1 h1_)), .val (.int (own_Vig_69 c1 t0 h0_ t1 h1_))] []
    refine own_via (fun t k => XS.goto X515.here hx rfl (pc0 := 258) (pc' := 155) rfl (hb hby own_d6_258) (by decide) (by decide) k) ?_
    refine own_via (fun t k => XS.iloadN X515.here hx rfl (hb hby own_d6_155) rfl k) ?_
    refine own_via (fun t k => XS.aloadN X515.here hx rfl (hb hby own_d6_156) rfl rfl k) ?_
    show own_H T515 157 #[.val (.ref a1), .val (.ref x298), .val (.int (1 : Int32)), .val (.int (own_Vig_66 c1 t0 h0_ t1 h1_)), .val (.int (own_Vig_69 c1 t0 h0_ t1 h1_))] [(.ref a1), (.int (1 : Int32))]
    obtain ⟨T537, X537, e537, st537⟩ := getF X515 hx hZ hown (host := "") (Or.inl (own_u hw 26 rfl)) Via.refl e515 f521 (g := (mkF m 157 #[.val (.ref a1), .val (.ref x298), .val (.int (1 : Int32)), .val (.int (own_Vig_66 c1 t0 h0_ t1 h1_)), .val (.int (own_Vig_69 c1 t0 h0_ t1 h1_))] [(.ref a1), (.int (1 : Int32))])) rfl rfl (hb hby own_d6_157)
    refine own_via st537 ?_
    show own_H T537 160 #[.val (.ref a1), .val (.ref x298), .val (.int (1 : Int32)), .val (.int (own_Vig_66 c1 t0 h0_ t1 h1_)), .val (.int (own_Vig_69 c1 t0 h0_ t1 h1_))] [(.int (2 : Int32)), (.int (1 : Int32))]
    refine own_via (fun t k => XS.icmpNo X537.here hx rfl (hb hby own_d6_160) rfl (tlt (by decide : (1 : Int32) < (2 : Int32))).2.1 k) ?_
    show own_H T537 163 #[.val (.ref a1), .val (.ref x298), .val (.int (1 : Int32)), .val (.int (own_Vig_66 c1 t0 h0_ t1 h1_)), .val (.int (own_Vig_69 c1 t0 h0_ t1 h1_))] []
    refine own_via (fun t k => XS.aloadN X537.here hx rfl (hb hby own_d6_163) rfl rfl k) ?_
    refine own_via (fun t k => XS.aloadN X537.here hx rfl (hb hby own_d6_164) rfl rfl k) ?_
    show own_H T537 165 #[.val (.ref a1), .val (.ref x298), .val (.int (1 : Int32)), .val (.int (own_Vig_66 c1 t0 h0_ t1 h1_)), .val (.int (own_Vig_69 c1 t0 h0_ t1 h1_))] [(.ref a1), (.ref x298)]
    obtain ⟨T538, X538, e538, st538⟩ := getF X537 hx hZ hown (host := "") (Or.inl (own_u hw 11 rfl)) Via.refl e537 f517 (g := (mkF m 165 #[.val (.ref a1), .val (.ref x298), .val (.int (1 : Int32)), .val (.int (own_Vig_66 c1 t0 h0_ t1 h1_)), .val (.int (own_Vig_69 c1 t0 h0_ t1 h1_))] [(.ref a1), (.ref x298)])) rfl rfl (hb hby own_d6_165)
    refine own_via st538 ?_
    show own_H T538 168 #[.val (.ref a1), .val (.ref x298), .val (.int (1 : Int32)), .val (.int (own_Vig_66 c1 t0 h0_ t1 h1_)), .val (.int (own_Vig_69 c1 t0 h0_ t1 h1_))] [(.ref fb), (.ref x298)]
    refine own_via (fun t k => XS.iloadN X538.here hx rfl (hb hby own_d6_168) rfl k) ?_
    show own_H T538 169 #[.val (.ref a1), .val (.ref x298), .val (.int (1 : Int32)), .val (.int (own_Vig_66 c1 t0 h0_ t1 h1_)), .val (.int (own_Vig_69 c1 t0 h0_ t1 h1_))] [(.int (1 : Int32)), (.ref fb), (.ref x298)]
    refine own_via (own_ldI X538 hx hZ e538 f522 (j := (1 : Int32)) ⟨by decide, by decide⟩ (v := (.int t1)) rfl (pc := 169) (Ls := #[.val (.ref a1), .val (.ref x298), .val (.int (1 : Int32)), .val (.int (own_Vig_66 c1 t0 h0_ t1 h1_)), .val (.int (own_Vig_69 c1 t0 h0_ t1 h1_))]) (rest := [(.ref x298)]) (hb hby own_d6_169)) ?_
    show own_H T538 170 #[.val (.ref a1), .val (.ref x298), .val (.int (1 : Int32)), .val (.int (own_Vig_66 c1 t0 h0_ t1 h1_)), .val (.int (own_Vig_69 c1 t0 h0_ t1 h1_))] [(.int t1), (.ref x298)]
    refine own_via (own_dup2 X538 hx rfl rfl (hb hby own_d6_170)) ?_
    show own_H T538 171 #[.val (.ref a1), .val (.ref x298), .val (.int (1 : Int32)), .val (.int (own_Vig_66 c1 t0 h0_ t1 h1_)), .val (.int (own_Vig_69 c1 t0 h0_ t1 h1_))] [(.int t1), (.ref x298), (.int t1), (.ref x298)]
    refine own_via (own_ldS (L := (own_Aig_70 c1 t0 h0_ t1 h1_)) X538 hx hZ e538 f530 (j := t1) (own_Hig_81 c1 t0 h0_ t1 h1_ hp_hr).1 (pc := 171) (Ls := #[.val (.ref a1), .val (.ref x298), .val (.int (1 : Int32)), .val (.int (own_Vig_66 c1 t0 h0_ t1 h1_)), .val (.int (own_Vig_69 c1 t0 h0_ t1 h1_))]) (rest := [(.int t1), (.ref x298)]) (hb hby own_d6_171)) ?_
    show own_H T538 172 #[.val (.ref a1), .val (.ref x298), .val (.int (1 : Int32)), .val (.int (own_Vig_66 c1 t0 h0_ t1 h1_)), .val (.int (own_Vig_69 c1 t0 h0_ t1 h1_))] [(.int (own_Vig_82 c1 t0 h0_ t1 h1_)), (.int t1), (.ref x298)]
    refine own_via (own_dupx2 X538 hx rfl rfl rfl (hb hby own_d6_172)) ?_
    refine own_via (fun t k => XS.iconst X538.here hx rfl (hb hby own_d6_173) k) ?_
    show own_H T538 174 #[.val (.ref a1), .val (.ref x298), .val (.int (1 : Int32)), .val (.int (own_Vig_66 c1 t0 h0_ t1 h1_)), .val (.int (own_Vig_69 c1 t0 h0_ t1 h1_))] [(.int (1 : Int32)), (.int (own_Vig_82 c1 t0 h0_ t1 h1_)), (.int t1), (.ref x298), (.int (own_Vig_82 c1 t0 h0_ t1 h1_))]
    refine own_via (fun t k => XS.iadd X538.here hx rfl (hb hby own_d6_174) rfl k) ?_
    show own_H T538 175 #[.val (.ref a1), .val (.ref x298), .val (.int (1 : Int32)), .val (.int (own_Vig_66 c1 t0 h0_ t1 h1_)), .val (.int (own_Vig_69 c1 t0 h0_ t1 h1_))] [(.int ((own_Vig_82 c1 t0 h0_ t1 h1_) + (1 : Int32))), (.int t1), (.ref x298), (.int (own_Vig_82 c1 t0 h0_ t1 h1_))]
    obtain ⟨T539, h539, L539, X539, N539, e539, W539, V539, st539⟩ := own_stS (L := (own_Aig_70 c1 t0 h0_ t1 h1_)) X538 N515 hx hZ e538 f530 g_x298 (j := t1) (x := ((own_Vig_82 c1 t0 h0_ t1 h1_) + (1 : Int32))) (own_Hig_81 c1 t0 h0_ t1 h1_ hp_hr) (pc := 175) (Ls := #[.val (.ref a1), .val (.ref x298), .val (.int (1 : Int32)), .val (.int (own_Vig_66 c1 t0 h0_ t1 h1_)), .val (.int (own_Vig_69 c1 t0 h0_ t1 h1_))]) (rest := [(.int (own_Vig_82 c1 t0 h0_ t1 h1_))]) (hb hby own_d6_175)
    refine own_via st539 ?_
    have f540 := f516.wr W539
    have f541 := f517.other W539 (Or.inl ne299)
    have f542 := f518.other W539 (Or.inl ne299)
    have f543 := f519.other W539 (Or.inl ne299)
    have f544 := f520.other W539 (Or.inl ne299)
    have f545 := f521.other W539 (Or.inl ne299)
    have f546 := f522.other W539 ne300
    have f547 := f523.other W539 ne301
    have f548 := f524.other W539 (Or.inl ne299)
    have f550 := f526.other W539 (Or.inl ne299)
    have f551 := f527.other W539 (Or.inl ne299)
    have f552 := f528.other W539 (Or.inl ne299)
    have f553 := f529.other W539 (Or.inl ne299)
    have f554 := f531.other W539 ne303
    have f555 := f532.other W539 ne304
    have f556 := f533.other W539 ne305
    have f557 := f535.other W539 ne306
    have Kp558 := Kp534.wr W539 (Or.inr sz_x298)
    have f559 : Arv Z h539 x298 kx298 .int c1 ((own_Aig_83 c1 t0 h0_ t1 h1_).map Value.int) (.int (0 : Int32)) := V539
    show own_H T539 176 #[.val (.ref a1), .val (.ref x298), .val (.int (1 : Int32)), .val (.int (own_Vig_66 c1 t0 h0_ t1 h1_)), .val (.int (own_Vig_69 c1 t0 h0_ t1 h1_))] [(.int (own_Vig_82 c1 t0 h0_ t1 h1_))]
    clear f516 f517 f518 f519 f520 f521 f522 f523 f524 f526 f527 f528 f529 f530 f531 f532 f533 f535 Kp534
    refine own_via (fun t k => XS.istoreN X539.here hx rfl (hb hby own_d6_176) rfl (l' := #[.val (.ref a1), .val (.ref x298), .val (.int (1 : Int32)), .val (.int (own_Vig_82 c1 t0 h0_ t1 h1_)), .val (.int (own_Vig_69 c1 t0 h0_ t1 h1_))]) rfl k) ?_
    refine own_via (fun t k => XS.aloadN X539.here hx rfl (hb hby own_d6_177) rfl rfl k) ?_
    refine own_via (fun t k => XS.aloadN X539.here hx rfl (hb hby own_d6_178) rfl rfl k) ?_
    show own_H T539 179 #[.val (.ref a1), .val (.ref x298), .val (.int (1 : Int32)), .val (.int (own_Vig_82 c1 t0 h0_ t1 h1_)), .val (.int (own_Vig_69 c1 t0 h0_ t1 h1_))] [(.ref a1), (.ref x298)]
    obtain ⟨T561, X561, e561, st561⟩ := getF X539 hx hZ hown (host := "") (Or.inl (own_u hw 13 rfl)) Via.refl e539 f542 (g := (mkF m 179 #[.val (.ref a1), .val (.ref x298), .val (.int (1 : Int32)), .val (.int (own_Vig_82 c1 t0 h0_ t1 h1_)), .val (.int (own_Vig_69 c1 t0 h0_ t1 h1_))] [(.ref a1), (.ref x298)])) rfl rfl (hb hby own_d6_179)
    refine own_via st561 ?_
    show own_H T561 182 #[.val (.ref a1), .val (.ref x298), .val (.int (1 : Int32)), .val (.int (own_Vig_82 c1 t0 h0_ t1 h1_)), .val (.int (own_Vig_69 c1 t0 h0_ t1 h1_))] [(.ref tb), (.ref x298)]
    refine own_via (fun t k => XS.iloadN X561.here hx rfl (hb hby own_d6_182) rfl k) ?_
    show own_H T561 183 #[.val (.ref a1), .val (.ref x298), .val (.int (1 : Int32)), .val (.int (own_Vig_82 c1 t0 h0_ t1 h1_)), .val (.int (own_Vig_69 c1 t0 h0_ t1 h1_))] [(.int (1 : Int32)), (.ref tb), (.ref x298)]
    refine own_via (own_ldI X561 hx hZ e561 f547 (j := (1 : Int32)) ⟨by decide, by decide⟩ (v := (.int h1_)) rfl (pc := 183) (Ls := #[.val (.ref a1), .val (.ref x298), .val (.int (1 : Int32)), .val (.int (own_Vig_82 c1 t0 h0_ t1 h1_)), .val (.int (own_Vig_69 c1 t0 h0_ t1 h1_))]) (rest := [(.ref x298)]) (hb hby own_d6_183)) ?_
    show own_H T561 184 #[.val (.ref a1), .val (.ref x298), .val (.int (1 : Int32)), .val (.int (own_Vig_82 c1 t0 h0_ t1 h1_)), .val (.int (own_Vig_69 c1 t0 h0_ t1 h1_))] [(.int h1_), (.ref x298)]
    refine own_via (own_dup2 X561 hx rfl rfl (hb hby own_d6_184)) ?_
    show own_H T561 185 #[.val (.ref a1), .val (.ref x298), .val (.int (1 : Int32)), .val (.int (own_Vig_82 c1 t0 h0_ t1 h1_)), .val (.int (own_Vig_69 c1 t0 h0_ t1 h1_))] [(.int h1_), (.ref x298), (.int h1_), (.ref x298)]
    refine own_via (own_ldS (L := (own_Aig_83 c1 t0 h0_ t1 h1_)) X561 hx hZ e561 f559 (j := h1_) (own_Hig_84 c1 t0 h0_ t1 h1_ hp_hr).1 (pc := 185) (Ls := #[.val (.ref a1), .val (.ref x298), .val (.int (1 : Int32)), .val (.int (own_Vig_82 c1 t0 h0_ t1 h1_)), .val (.int (own_Vig_69 c1 t0 h0_ t1 h1_))]) (rest := [(.int h1_), (.ref x298)]) (hb hby own_d6_185)) ?_
    show own_H T561 186 #[.val (.ref a1), .val (.ref x298), .val (.int (1 : Int32)), .val (.int (own_Vig_82 c1 t0 h0_ t1 h1_)), .val (.int (own_Vig_69 c1 t0 h0_ t1 h1_))] [(.int (own_Vig_85 c1 t0 h0_ t1 h1_)), (.int h1_), (.ref x298)]
    refine own_via (own_dupx2 X561 hx rfl rfl rfl (hb hby own_d6_186)) ?_
    refine own_via (fun t k => XS.iconst X561.here hx rfl (hb hby own_d6_187) k) ?_
    show own_H T561 188 #[.val (.ref a1), .val (.ref x298), .val (.int (1 : Int32)), .val (.int (own_Vig_82 c1 t0 h0_ t1 h1_)), .val (.int (own_Vig_69 c1 t0 h0_ t1 h1_))] [(.int (1 : Int32)), (.int (own_Vig_85 c1 t0 h0_ t1 h1_)), (.int h1_), (.ref x298), (.int (own_Vig_85 c1 t0 h0_ t1 h1_))]
    refine own_via (fun t k => XS.iadd X561.here hx rfl (hb hby own_d6_188) rfl k) ?_
    show own_H T561 189 #[.val (.ref a1), .val (.ref x298), .val (.int (1 : Int32)), .val (.int (own_Vig_82 c1 t0 h0_ t1 h1_)), .val (.int (own_Vig_69 c1 t0 h0_ t1 h1_))] [(.int ((own_Vig_85 c1 t0 h0_ t1 h1_) + (1 : Int32))), (.int h1_), (.ref x298), (.int (own_Vig_85 c1 t0 h0_ t1 h1_))]
    obtain ⟨T562, h562, L562, X562, N562, e562, W562, V562, st562⟩ := own_stS (L := (own_Aig_83 c1 t0 h0_ t1 h1_)) X561 N539 hx hZ e561 f559 g_x298 (j := h1_) (x := ((own_Vig_85 c1 t0 h0_ t1 h1_) + (1 : Int32))) (own_Hig_84 c1 t0 h0_ t1 h1_ hp_hr) (pc := 189) (Ls := #[.val (.ref a1), .val (.ref x298), .val (.int (1 : Int32)), .val (.int (own_Vig_82 c1 t0 h0_ t1 h1_)), .val (.int (own_Vig_69 c1 t0 h0_ t1 h1_))]) (rest := [(.int (own_Vig_85 c1 t0 h0_ t1 h1_))]) (hb hby own_d6_189)
    refine own_via st562 ?_
    have f563 := f540.wr W562
    have f564 := f541.other W562 (Or.inl ne299)
    have f565 := f542.other W562 (Or.inl ne299)
    have f566 := f543.other W562 (Or.inl ne299)
    have f567 := f544.other W562 (Or.inl ne299)
    have f568 := f545.other W562 (Or.inl ne299)
    have f569 := f546.other W562 ne300
    have f570 := f547.other W562 ne301
    have f571 := f548.other W562 (Or.inl ne299)
    have f573 := f550.other W562 (Or.inl ne299)
    have f574 := f551.other W562 (Or.inl ne299)
    have f575 := f552.other W562 (Or.inl ne299)
    have f576 := f553.other W562 (Or.inl ne299)
    have f577 := f554.other W562 ne303
    have f578 := f555.other W562 ne304
    have f579 := f556.other W562 ne305
    have f580 := f557.other W562 ne306
    have Kp581 := Kp558.wr W562 (Or.inr sz_x298)
    show own_H T562 190 #[.val (.ref a1), .val (.ref x298), .val (.int (1 : Int32)), .val (.int (own_Vig_82 c1 t0 h0_ t1 h1_)), .val (.int (own_Vig_69 c1 t0 h0_ t1 h1_))] [(.int (own_Vig_85 c1 t0 h0_ t1 h1_))]
    clear f540 f541 f542 f543 f544 f545 f546 f547 f548 f550 f551 f552 f553 f554 f555 f556 f557 f559 Kp558
    refine own_via (fun t k => XS.istore X562.here hx rfl (hb hby own_d6_190) rfl (l' := #[.val (.ref a1), .val (.ref x298), .val (.int (1 : Int32)), .val (.int (own_Vig_82 c1 t0 h0_ t1 h1_)), .val (.int (own_Vig_85 c1 t0 h0_ t1 h1_))]) rfl k) ?_
    refine own_via (fun t k => XS.aloadN X562.here hx rfl (hb hby own_d6_192) rfl rfl k) ?_
    show own_H T562 193 #[.val (.ref a1), .val (.ref x298), .val (.int (1 : Int32)), .val (.int (own_Vig_82 c1 t0 h0_ t1 h1_)), .val (.int (own_Vig_85 c1 t0 h0_ t1 h1_))] [(.ref a1)]
    obtain ⟨T584, X584, e584, st584⟩ := getF X562 hx hZ hown (host := "") (Or.inl (own_u hw 42 rfl)) Via.refl e562 f573 (g := (mkF m 193 #[.val (.ref a1), .val (.ref x298), .val (.int (1 : Int32)), .val (.int (own_Vig_82 c1 t0 h0_ t1 h1_)), .val (.int (own_Vig_85 c1 t0 h0_ t1 h1_))] [(.ref a1)])) rfl rfl (hb hby own_d6_193)
    refine own_via st584 ?_
    show own_H T584 196 #[.val (.ref a1), .val (.ref x298), .val (.int (1 : Int32)), .val (.int (own_Vig_82 c1 t0 h0_ t1 h1_)), .val (.int (own_Vig_85 c1 t0 h0_ t1 h1_))] [(.ref b119)]
    refine own_via (fun t k => XS.iloadN X584.here hx rfl (hb hby own_d6_196) rfl k) ?_
    refine own_via (fun t k => XS.aloadN X584.here hx rfl (hb hby own_d6_197) rfl rfl k) ?_
    show own_H T584 198 #[.val (.ref a1), .val (.ref x298), .val (.int (1 : Int32)), .val (.int (own_Vig_82 c1 t0 h0_ t1 h1_)), .val (.int (own_Vig_85 c1 t0 h0_ t1 h1_))] [(.ref a1), (.int (own_Vig_82 c1 t0 h0_ t1 h1_)), (.ref b119)]
    obtain ⟨T585, X585, e585, st585⟩ := getF X584 hx hZ hown (host := "") (Or.inl (own_u hw 13 rfl)) Via.refl e584 f565 (g := (mkF m 198 #[.val (.ref a1), .val (.ref x298), .val (.int (1 : Int32)), .val (.int (own_Vig_82 c1 t0 h0_ t1 h1_)), .val (.int (own_Vig_85 c1 t0 h0_ t1 h1_))] [(.ref a1), (.int (own_Vig_82 c1 t0 h0_ t1 h1_)), (.ref b119)])) rfl rfl (hb hby own_d6_198)
    refine own_via st585 ?_
    show own_H T585 201 #[.val (.ref a1), .val (.ref x298), .val (.int (1 : Int32)), .val (.int (own_Vig_82 c1 t0 h0_ t1 h1_)), .val (.int (own_Vig_85 c1 t0 h0_ t1 h1_))] [(.ref tb), (.int (own_Vig_82 c1 t0 h0_ t1 h1_)), (.ref b119)]
    refine own_via (fun t k => XS.iloadN X585.here hx rfl (hb hby own_d6_201) rfl k) ?_
    show own_H T585 202 #[.val (.ref a1), .val (.ref x298), .val (.int (1 : Int32)), .val (.int (own_Vig_82 c1 t0 h0_ t1 h1_)), .val (.int (own_Vig_85 c1 t0 h0_ t1 h1_))] [(.int (1 : Int32)), (.ref tb), (.int (own_Vig_82 c1 t0 h0_ t1 h1_)), (.ref b119)]
    refine own_via (own_ldI X585 hx hZ e585 f570 (j := (1 : Int32)) ⟨by decide, by decide⟩ (v := (.int h1_)) rfl (pc := 202) (Ls := #[.val (.ref a1), .val (.ref x298), .val (.int (1 : Int32)), .val (.int (own_Vig_82 c1 t0 h0_ t1 h1_)), .val (.int (own_Vig_85 c1 t0 h0_ t1 h1_))]) (rest := [(.int (own_Vig_82 c1 t0 h0_ t1 h1_)), (.ref b119)]) (hb hby own_d6_202)) ?_
    show own_H T585 203 #[.val (.ref a1), .val (.ref x298), .val (.int (1 : Int32)), .val (.int (own_Vig_82 c1 t0 h0_ t1 h1_)), .val (.int (own_Vig_85 c1 t0 h0_ t1 h1_))] [(.int h1_), (.int (own_Vig_82 c1 t0 h0_ t1 h1_)), (.ref b119)]
    obtain ⟨T586, h586, L586, X586, N586, e586, W586, V586, st586⟩ := own_stS (L := (own_Aig_74 c1 t0 h0_ t1 h1_)) X585 N562 hx hZ e585 f577 g_b119 (j := (own_Vig_82 c1 t0 h0_ t1 h1_)) (x := h1_) (own_Hig_87 c1 t0 h0_ t1 h1_ hp_hr) (pc := 203) (Ls := #[.val (.ref a1), .val (.ref x298), .val (.int (1 : Int32)), .val (.int (own_Vig_82 c1 t0 h0_ t1 h1_)), .val (.int (own_Vig_85 c1 t0 h0_ t1 h1_))]) (rest := []) (hb hby own_d6_203)
    refine own_via st586 ?_
    have f587 := f563.wr W586
    have f588 := f564.other W586 (Or.inl ne120)
    have f589 := f565.other W586 (Or.inl ne120)
    have f590 := f566.other W586 (Or.inl ne120)
    have f591 := f567.other W586 (Or.inl ne120)
    have f592 := f568.other W586 (Or.inl ne120)
    have f593 := f569.other W586 ne121
    have f595 := f571.other W586 (Or.inl ne120)
    have f597 := f573.other W586 (Or.inl ne120)
    have f598 := f574.other W586 (Or.inl ne120)
    have f599 := f575.other W586 (Or.inl ne120)
    have f600 := f576.other W586 (Or.inl ne120)
    have f601 := f578.other W586 (Ne.symm ne164)
    have f602 := f579.other W586 (Ne.symm ne207)
    have f603 := f580.other W586 (Ne.symm ne253)
    have Kp605 := Kp581.wr W586 (Or.inr sz_b119)
    have f606 : Arv Z h586 b119 k119 .int (4 : Int32) ((own_Aig_88 c1 t0 h0_ t1 h1_).map Value.int) (.int (0 : Int32)) := V586
    show own_H T586 204 #[.val (.ref a1), .val (.ref x298), .val (.int (1 : Int32)), .val (.int (own_Vig_82 c1 t0 h0_ t1 h1_)), .val (.int (own_Vig_85 c1 t0 h0_ t1 h1_))] []
    clear f563 f564 f565 f566 f567 f568 f569 f570 f571 f573 f574 f575 f576 f577 f578 f579 f580 Kp581
    refine own_via (fun t k => XS.aloadN X586.here hx rfl (hb hby own_d6_204) rfl rfl k) ?_
    show own_H T586 205 #[.val (.ref a1), .val (.ref x298), .val (.int (1 : Int32)), .val (.int (own_Vig_82 c1 t0 h0_ t1 h1_)), .val (.int (own_Vig_85 c1 t0 h0_ t1 h1_))] [(.ref a1)]
    obtain ⟨T608, X608, e608, st608⟩ := getF X586 hx hZ hown (host := "") (Or.inl (own_u hw 42 rfl)) Via.refl e586 f597 (g := (mkF m 205 #[.val (.ref a1), .val (.ref x298), .val (.int (1 : Int32)), .val (.int (own_Vig_82 c1 t0 h0_ t1 h1_)), .val (.int (own_Vig_85 c1 t0 h0_ t1 h1_))] [(.ref a1)])) rfl rfl (hb hby own_d6_205)
    refine own_via st608 ?_
    show own_H T608 208 #[.val (.ref a1), .val (.ref x298), .val (.int (1 : Int32)), .val (.int (own_Vig_82 c1 t0 h0_ t1 h1_)), .val (.int (own_Vig_85 c1 t0 h0_ t1 h1_))] [(.ref b119)]
    refine own_via (fun t k => XS.iload X608.here hx rfl (hb hby own_d6_208) rfl k) ?_
    refine own_via (fun t k => XS.aloadN X608.here hx rfl (hb hby own_d6_210) rfl rfl k) ?_
    show own_H T608 211 #[.val (.ref a1), .val (.ref x298), .val (.int (1 : Int32)), .val (.int (own_Vig_82 c1 t0 h0_ t1 h1_)), .val (.int (own_Vig_85 c1 t0 h0_ t1 h1_))] [(.ref a1), (.int (own_Vig_85 c1 t0 h0_ t1 h1_)), (.ref b119)]
    obtain ⟨T609, X609, e609, st609⟩ := getF X608 hx hZ hown (host := "") (Or.inl (own_u hw 11 rfl)) Via.refl e608 f588 (g := (mkF m 211 #[.val (.ref a1), .val (.ref x298), .val (.int (1 : Int32)), .val (.int (own_Vig_82 c1 t0 h0_ t1 h1_)), .val (.int (own_Vig_85 c1 t0 h0_ t1 h1_))] [(.ref a1), (.int (own_Vig_85 c1 t0 h0_ t1 h1_)), (.ref b119)])) rfl rfl (hb hby own_d6_211)
    refine own_via st609 ?_
    show own_H T609 214 #[.val (.ref a1), .val (.ref x298), .val (.int (1 : Int32)), .val (.int (own_Vig_82 c1 t0 h0_ t1 h1_)), .val (.int (own_Vig_85 c1 t0 h0_ t1 h1_))] [(.ref fb), (.int (own_Vig_85 c1 t0 h0_ t1 h1_)), (.ref b119)]
    refine own_via (fun t k => XS.iloadN X609.here hx rfl (hb hby own_d6_214) rfl k) ?_
    show own_H T609 215 #[.val (.ref a1), .val (.ref x298), .val (.int (1 : Int32)), .val (.int (own_Vig_82 c1 t0 h0_ t1 h1_)), .val (.int (own_Vig_85 c1 t0 h0_ t1 h1_))] [(.int (1 : Int32)), (.ref fb), (.int (own_Vig_85 c1 t0 h0_ t1 h1_)), (.ref b119)]
    refine own_via (own_ldI X609 hx hZ e609 f593 (j := (1 : Int32)) ⟨by decide, by decide⟩ (v := (.int t1)) rfl (pc := 215) (Ls := #[.val (.ref a1), .val (.ref x298), .val (.int (1 : Int32)), .val (.int (own_Vig_82 c1 t0 h0_ t1 h1_)), .val (.int (own_Vig_85 c1 t0 h0_ t1 h1_))]) (rest := [(.int (own_Vig_85 c1 t0 h0_ t1 h1_)), (.ref b119)]) (hb hby own_d6_215)) ?_
    show own_H T609 216 #[.val (.ref a1), .val (.ref x298), .val (.int (1 : Int32)), .val (.int (own_Vig_82 c1 t0 h0_ t1 h1_)), .val (.int (own_Vig_85 c1 t0 h0_ t1 h1_))] [(.int t1), (.int (own_Vig_85 c1 t0 h0_ t1 h1_)), (.ref b119)]
    obtain ⟨T610, h610, L610, X610, N610, e610, W610, V610, st610⟩ := own_stS (L := (own_Aig_88 c1 t0 h0_ t1 h1_)) X609 N586 hx hZ e609 f606 g_b119 (j := (own_Vig_85 c1 t0 h0_ t1 h1_)) (x := t1) (own_Hig_89 c1 t0 h0_ t1 h1_ hp_hr) (pc := 216) (Ls := #[.val (.ref a1), .val (.ref x298), .val (.int (1 : Int32)), .val (.int (own_Vig_82 c1 t0 h0_ t1 h1_)), .val (.int (own_Vig_85 c1 t0 h0_ t1 h1_))]) (rest := []) (hb hby own_d6_216)
    refine own_via st610 ?_
    have f611 := f587.wr W610
    have f612 := f588.other W610 (Or.inl ne120)
    have f613 := f589.other W610 (Or.inl ne120)
    have f614 := f590.other W610 (Or.inl ne120)
    have f615 := f591.other W610 (Or.inl ne120)
    have f616 := f592.other W610 (Or.inl ne120)
    have f619 := f595.other W610 (Or.inl ne120)
    have f621 := f597.other W610 (Or.inl ne120)
    have f622 := f598.other W610 (Or.inl ne120)
    have f623 := f599.other W610 (Or.inl ne120)
    have f624 := f600.other W610 (Or.inl ne120)
    have f625 := f601.other W610 (Ne.symm ne164)
    have f626 := f602.other W610 (Ne.symm ne207)
    have f627 := f603.other W610 (Ne.symm ne253)
    have Kp629 := Kp605.wr W610 (Or.inr sz_b119)
    show own_H T610 217 #[.val (.ref a1), .val (.ref x298), .val (.int (1 : Int32)), .val (.int (own_Vig_82 c1 t0 h0_ t1 h1_)), .val (.int (own_Vig_85 c1 t0 h0_ t1 h1_))] []
    clear f587 f588 f589 f590 f591 f592 f593 f595 f597 f598 f599 f600 f601 f602 f603 f606 Kp605
    refine own_via (fun t k => XS.aloadN X610.here hx rfl (hb hby own_d6_217) rfl rfl k) ?_
    show own_H T610 218 #[.val (.ref a1), .val (.ref x298), .val (.int (1 : Int32)), .val (.int (own_Vig_82 c1 t0 h0_ t1 h1_)), .val (.int (own_Vig_85 c1 t0 h0_ t1 h1_))] [(.ref a1)]
    obtain ⟨T632, X632, e632, st632⟩ := getF X610 hx hZ hown (host := "") (Or.inl (own_u hw 44 rfl)) Via.refl e610 f622 (g := (mkF m 218 #[.val (.ref a1), .val (.ref x298), .val (.int (1 : Int32)), .val (.int (own_Vig_82 c1 t0 h0_ t1 h1_)), .val (.int (own_Vig_85 c1 t0 h0_ t1 h1_))] [(.ref a1)])) rfl rfl (hb hby own_d6_218)
    refine own_via st632 ?_
    show own_H T632 221 #[.val (.ref a1), .val (.ref x298), .val (.int (1 : Int32)), .val (.int (own_Vig_82 c1 t0 h0_ t1 h1_)), .val (.int (own_Vig_85 c1 t0 h0_ t1 h1_))] [(.ref b159)]
    refine own_via (fun t k => XS.iloadN X632.here hx rfl (hb hby own_d6_221) rfl k) ?_
    refine own_via (fun t k => XS.iloadN X632.here hx rfl (hb hby own_d6_222) rfl k) ?_
    show own_H T632 223 #[.val (.ref a1), .val (.ref x298), .val (.int (1 : Int32)), .val (.int (own_Vig_82 c1 t0 h0_ t1 h1_)), .val (.int (own_Vig_85 c1 t0 h0_ t1 h1_))] [(.int (1 : Int32)), (.int (own_Vig_82 c1 t0 h0_ t1 h1_)), (.ref b159)]
    obtain ⟨T633, h633, L633, X633, N633, e633, W633, V633, st633⟩ := own_stS (L := (own_Aig_77 c1 t0 h0_ t1 h1_)) X632 N610 hx hZ e632 f625 g_b159 (j := (own_Vig_82 c1 t0 h0_ t1 h1_)) (x := (1 : Int32)) (own_Hig_91 c1 t0 h0_ t1 h1_ hp_hr) (pc := 223) (Ls := #[.val (.ref a1), .val (.ref x298), .val (.int (1 : Int32)), .val (.int (own_Vig_82 c1 t0 h0_ t1 h1_)), .val (.int (own_Vig_85 c1 t0 h0_ t1 h1_))]) (rest := []) (hb hby own_d6_223)
    refine own_via st633 ?_
    have f634 := f611.wr W633
    have f635 := f612.other W633 (Or.inl ne160)
    have f636 := f613.other W633 (Or.inl ne160)
    have f637 := f614.other W633 (Or.inl ne160)
    have f638 := f615.other W633 (Or.inl ne160)
    have f639 := f616.other W633 (Or.inl ne160)
    have f642 := f619.other W633 (Or.inl ne160)
    have f644 := f621.other W633 (Or.inl ne160)
    have f645 := f622.other W633 (Or.inl ne160)
    have f646 := f623.other W633 (Or.inl ne160)
    have f647 := f624.other W633 (Or.inl ne160)
    have f648 := f626.other W633 (Ne.symm ne208)
    have f649 := f627.other W633 (Ne.symm ne254)
    have Kp652 := Kp629.wr W633 (Or.inr sz_b159)
    have f653 : Arv Z h633 b159 k159 .int (4 : Int32) ((own_Aig_92 c1 t0 h0_ t1 h1_).map Value.int) (.int (0 : Int32)) := V633
    show own_H T633 224 #[.val (.ref a1), .val (.ref x298), .val (.int (1 : Int32)), .val (.int (own_Vig_82 c1 t0 h0_ t1 h1_)), .val (.int (own_Vig_85 c1 t0 h0_ t1 h1_))] []
    clear f611 f612 f613 f614 f615 f616 f619 f621 f622 f623 f624 f625 f626 f627 Kp629
    refine own_via (fun t k => XS.aloadN X633.here hx rfl (hb hby own_d6_224) rfl rfl k) ?_
    show own_H T633 225 #[.val (.ref a1), .val (.ref x298), .val (.int (1 : Int32)), .val (.int (own_Vig_82 c1 t0 h0_ t1 h1_)), .val (.int (own_Vig_85 c1 t0 h0_ t1 h1_))] [(.ref a1)]
    obtain ⟨T655, X655, e655, st655⟩ := getF X633 hx hZ hown (host := "") (Or.inl (own_u hw 44 rfl)) Via.refl e633 f645 (g := (mkF m 225 #[.val (.ref a1), .val (.ref x298), .val (.int (1 : Int32)), .val (.int (own_Vig_82 c1 t0 h0_ t1 h1_)), .val (.int (own_Vig_85 c1 t0 h0_ t1 h1_))] [(.ref a1)])) rfl rfl (hb hby own_d6_225)
    refine own_via st655 ?_
    show own_H T655 228 #[.val (.ref a1), .val (.ref x298), .val (.int (1 : Int32)), .val (.int (own_Vig_82 c1 t0 h0_ t1 h1_)), .val (.int (own_Vig_85 c1 t0 h0_ t1 h1_))] [(.ref b159)]
    refine own_via (fun t k => XS.iload X655.here hx rfl (hb hby own_d6_228) rfl k) ?_
    refine own_via (fun t k => XS.iloadN X655.here hx rfl (hb hby own_d6_230) rfl k) ?_
    show own_H T655 231 #[.val (.ref a1), .val (.ref x298), .val (.int (1 : Int32)), .val (.int (own_Vig_82 c1 t0 h0_ t1 h1_)), .val (.int (own_Vig_85 c1 t0 h0_ t1 h1_))] [(.int (1 : Int32)), (.int (own_Vig_85 c1 t0 h0_ t1 h1_)), (.ref b159)]
    obtain ⟨T656, h656, L656, X656, N656, e656, W656, V656, st656⟩ := own_stS (L := (own_Aig_92 c1 t0 h0_ t1 h1_)) X655 N633 hx hZ e655 f653 g_b159 (j := (own_Vig_85 c1 t0 h0_ t1 h1_)) (x := (1 : Int32)) (own_Hig_93 c1 t0 h0_ t1 h1_ hp_hr) (pc := 231) (Ls := #[.val (.ref a1), .val (.ref x298), .val (.int (1 : Int32)), .val (.int (own_Vig_82 c1 t0 h0_ t1 h1_)), .val (.int (own_Vig_85 c1 t0 h0_ t1 h1_))]) (rest := []) (hb hby own_d6_231)
    refine own_via st656 ?_
    have f657 := f634.wr W656
    have f658 := f635.other W656 (Or.inl ne160)
    have f659 := f636.other W656 (Or.inl ne160)
    have f660 := f637.other W656 (Or.inl ne160)
    have f661 := f638.other W656 (Or.inl ne160)
    have f662 := f639.other W656 (Or.inl ne160)
    have f665 := f642.other W656 (Or.inl ne160)
    have f667 := f644.other W656 (Or.inl ne160)
    have f668 := f645.other W656 (Or.inl ne160)
    have f669 := f646.other W656 (Or.inl ne160)
    have f670 := f647.other W656 (Or.inl ne160)
    have f671 := f648.other W656 (Ne.symm ne208)
    have f672 := f649.other W656 (Ne.symm ne254)
    have Kp675 := Kp652.wr W656 (Or.inr sz_b159)
    have f676 : Arv Z h656 b159 k159 .int (4 : Int32) ((own_Aig_94 c1 t0 h0_ t1 h1_).map Value.int) (.int (0 : Int32)) := V656
    show own_H T656 232 #[.val (.ref a1), .val (.ref x298), .val (.int (1 : Int32)), .val (.int (own_Vig_82 c1 t0 h0_ t1 h1_)), .val (.int (own_Vig_85 c1 t0 h0_ t1 h1_))] []
    clear f634 f635 f636 f637 f638 f639 f642 f644 f645 f646 f647 f648 f649 f653 Kp652
    refine own_via (fun t k => XS.aloadN X656.here hx rfl (hb hby own_d6_232) rfl rfl k) ?_
    show own_H T656 233 #[.val (.ref a1), .val (.ref x298), .val (.int (1 : Int32)), .val (.int (own_Vig_82 c1 t0 h0_ t1 h1_)), .val (.int (own_Vig_85 c1 t0 h0_ t1 h1_))] [(.ref a1)]
    obtain ⟨T678, X678, e678, st678⟩ := getF X656 hx hZ hown (host := "") (Or.inl (own_u hw 46 rfl)) Via.refl e656 f669 (g := (mkF m 233 #[.val (.ref a1), .val (.ref x298), .val (.int (1 : Int32)), .val (.int (own_Vig_82 c1 t0 h0_ t1 h1_)), .val (.int (own_Vig_85 c1 t0 h0_ t1 h1_))] [(.ref a1)])) rfl rfl (hb hby own_d6_233)
    refine own_via st678 ?_
    show own_H T678 236 #[.val (.ref a1), .val (.ref x298), .val (.int (1 : Int32)), .val (.int (own_Vig_82 c1 t0 h0_ t1 h1_)), .val (.int (own_Vig_85 c1 t0 h0_ t1 h1_))] [(.ref b202)]
    refine own_via (fun t k => XS.iloadN X678.here hx rfl (hb hby own_d6_236) rfl k) ?_
    refine own_via (fun t k => XS.iload X678.here hx rfl (hb hby own_d6_237) rfl k) ?_
    show own_H T678 239 #[.val (.ref a1), .val (.ref x298), .val (.int (1 : Int32)), .val (.int (own_Vig_82 c1 t0 h0_ t1 h1_)), .val (.int (own_Vig_85 c1 t0 h0_ t1 h1_))] [(.int (own_Vig_85 c1 t0 h0_ t1 h1_)), (.int (own_Vig_82 c1 t0 h0_ t1 h1_)), (.ref b202)]
    obtain ⟨T679, h679, L679, X679, N679, e679, W679, V679, st679⟩ := own_stS (L := (own_Aig_80 c1 t0 h0_ t1 h1_)) X678 N656 hx hZ e678 f671 g_b202 (j := (own_Vig_82 c1 t0 h0_ t1 h1_)) (x := (own_Vig_85 c1 t0 h0_ t1 h1_)) (own_Hig_95 c1 t0 h0_ t1 h1_ hp_hr) (pc := 239) (Ls := #[.val (.ref a1), .val (.ref x298), .val (.int (1 : Int32)), .val (.int (own_Vig_82 c1 t0 h0_ t1 h1_)), .val (.int (own_Vig_85 c1 t0 h0_ t1 h1_))]) (rest := []) (hb hby own_d6_239)
    refine own_via st679 ?_
    have f680 := f657.wr W679
    have f681 := f658.other W679 (Or.inl ne203)
    have f682 := f659.other W679 (Or.inl ne203)
    have f683 := f660.other W679 (Or.inl ne203)
    have f684 := f661.other W679 (Or.inl ne203)
    have f685 := f662.other W679 (Or.inl ne203)
    have f688 := f665.other W679 (Or.inl ne203)
    have f690 := f667.other W679 (Or.inl ne203)
    have f691 := f668.other W679 (Or.inl ne203)
    have f692 := f669.other W679 (Or.inl ne203)
    have f693 := f670.other W679 (Or.inl ne203)
    have f694 := f672.other W679 (Ne.symm ne255)
    have f697 := f676.other W679 ne208
    have Kp698 := Kp675.wr W679 (Or.inr sz_b202)
    have f699 : Arv Z h679 b202 k202 .int (4 : Int32) ((own_Aig_96 c1 t0 h0_ t1 h1_).map Value.int) (.int (0 : Int32)) := V679
    show own_H T679 240 #[.val (.ref a1), .val (.ref x298), .val (.int (1 : Int32)), .val (.int (own_Vig_82 c1 t0 h0_ t1 h1_)), .val (.int (own_Vig_85 c1 t0 h0_ t1 h1_))] []
    clear f657 f658 f659 f660 f661 f662 f665 f667 f668 f669 f670 f671 f672 f676 Kp675
    refine own_via (fun t k => XS.aloadN X679.here hx rfl (hb hby own_d6_240) rfl rfl k) ?_
    show own_H T679 241 #[.val (.ref a1), .val (.ref x298), .val (.int (1 : Int32)), .val (.int (own_Vig_82 c1 t0 h0_ t1 h1_)), .val (.int (own_Vig_85 c1 t0 h0_ t1 h1_))] [(.ref a1)]
    obtain ⟨T701, X701, e701, st701⟩ := getF X679 hx hZ hown (host := "") (Or.inl (own_u hw 46 rfl)) Via.refl e679 f692 (g := (mkF m 241 #[.val (.ref a1), .val (.ref x298), .val (.int (1 : Int32)), .val (.int (own_Vig_82 c1 t0 h0_ t1 h1_)), .val (.int (own_Vig_85 c1 t0 h0_ t1 h1_))] [(.ref a1)])) rfl rfl (hb hby own_d6_241)
    refine own_via st701 ?_
    show own_H T701 244 #[.val (.ref a1), .val (.ref x298), .val (.int (1 : Int32)), .val (.int (own_Vig_82 c1 t0 h0_ t1 h1_)), .val (.int (own_Vig_85 c1 t0 h0_ t1 h1_))] [(.ref b202)]
    refine own_via (fun t k => XS.iload X701.here hx rfl (hb hby own_d6_244) rfl k) ?_
    refine own_via (fun t k => XS.iloadN X701.here hx rfl (hb hby own_d6_246) rfl k) ?_
    show own_H T701 247 #[.val (.ref a1), .val (.ref x298), .val (.int (1 : Int32)), .val (.int (own_Vig_82 c1 t0 h0_ t1 h1_)), .val (.int (own_Vig_85 c1 t0 h0_ t1 h1_))] [(.int (own_Vig_82 c1 t0 h0_ t1 h1_)), (.int (own_Vig_85 c1 t0 h0_ t1 h1_)), (.ref b202)]
    obtain ⟨T702, h702, L702, X702, N702, e702, W702, V702, st702⟩ := own_stS (L := (own_Aig_96 c1 t0 h0_ t1 h1_)) X701 N679 hx hZ e701 f699 g_b202 (j := (own_Vig_85 c1 t0 h0_ t1 h1_)) (x := (own_Vig_82 c1 t0 h0_ t1 h1_)) (own_Hig_97 c1 t0 h0_ t1 h1_ hp_hr) (pc := 247) (Ls := #[.val (.ref a1), .val (.ref x298), .val (.int (1 : Int32)), .val (.int (own_Vig_82 c1 t0 h0_ t1 h1_)), .val (.int (own_Vig_85 c1 t0 h0_ t1 h1_))]) (rest := []) (hb hby own_d6_247)
    refine own_via st702 ?_
    have f703 := f680.wr W702
    have f704 := f681.other W702 (Or.inl ne203)
    have f705 := f682.other W702 (Or.inl ne203)
    have f706 := f683.other W702 (Or.inl ne203)
    have f707 := f684.other W702 (Or.inl ne203)
    have f708 := f685.other W702 (Or.inl ne203)
    have f711 := f688.other W702 (Or.inl ne203)
    have f713 := f690.other W702 (Or.inl ne203)
    have f714 := f691.other W702 (Or.inl ne203)
    have f715 := f692.other W702 (Or.inl ne203)
    have f716 := f693.other W702 (Or.inl ne203)
    have f717 := f694.other W702 (Ne.symm ne255)
    have f720 := f697.other W702 ne208
    have Kp721 := Kp698.wr W702 (Or.inr sz_b202)
    have f722 : Arv Z h702 b202 k202 .int (4 : Int32) ((own_Aig_98 c1 t0 h0_ t1 h1_).map Value.int) (.int (0 : Int32)) := V702
    show own_H T702 248 #[.val (.ref a1), .val (.ref x298), .val (.int (1 : Int32)), .val (.int (own_Vig_82 c1 t0 h0_ t1 h1_)), .val (.int (own_Vig_85 c1 t0 h0_ t1 h1_))] []
    clear f680 f681 f682 f683 f684 f685 f688 f690 f691 f692 f693 f694 f697 f699 Kp698
    refine own_via (fun t k => XS.aloadN X702.here hx rfl (hb hby own_d6_248) rfl rfl k) ?_
    show own_H T702 249 #[.val (.ref a1), .val (.ref x298), .val (.int (1 : Int32)), .val (.int (own_Vig_82 c1 t0 h0_ t1 h1_)), .val (.int (own_Vig_85 c1 t0 h0_ t1 h1_))] [(.ref a1)]
    obtain ⟨T724, X724, e724, st724⟩ := getF X702 hx hZ hown (host := "") (Or.inl (own_u hw 48 rfl)) Via.refl e702 f716 (g := (mkF m 249 #[.val (.ref a1), .val (.ref x298), .val (.int (1 : Int32)), .val (.int (own_Vig_82 c1 t0 h0_ t1 h1_)), .val (.int (own_Vig_85 c1 t0 h0_ t1 h1_))] [(.ref a1)])) rfl rfl (hb hby own_d6_249)
    refine own_via st724 ?_
    show own_H T724 252 #[.val (.ref a1), .val (.ref x298), .val (.int (1 : Int32)), .val (.int (own_Vig_82 c1 t0 h0_ t1 h1_)), .val (.int (own_Vig_85 c1 t0 h0_ t1 h1_))] [(.ref b248)]
    refine own_via (fun t k => XS.iloadN X724.here hx rfl (hb hby own_d6_252) rfl k) ?_
    refine own_via (fun t k => XS.iloadN X724.here hx rfl (hb hby own_d6_253) rfl k) ?_
    show own_H T724 254 #[.val (.ref a1), .val (.ref x298), .val (.int (1 : Int32)), .val (.int (own_Vig_82 c1 t0 h0_ t1 h1_)), .val (.int (own_Vig_85 c1 t0 h0_ t1 h1_))] [(.int (own_Vig_82 c1 t0 h0_ t1 h1_)), (.int (1 : Int32)), (.ref b248)]
    obtain ⟨T725, h725, L725, X725, N725, e725, W725, V725, st725⟩ := own_stI X724 N702 hx hZ e724 f717 g_b248 (j := (1 : Int32)) (x := (own_Vig_82 c1 t0 h0_ t1 h1_)) (i := 1) ⟨by decide, by decide⟩ rfl (Nat.le_of_ble_eq_true rfl) (pc := 254) (Ls := #[.val (.ref a1), .val (.ref x298), .val (.int (1 : Int32)), .val (.int (own_Vig_82 c1 t0 h0_ t1 h1_)), .val (.int (own_Vig_85 c1 t0 h0_ t1 h1_))]) (rest := []) (hb hby own_d6_254)
    refine own_via st725 ?_
    have f726 := f703.wr W725
    have f727 := f704.other W725 (Or.inl ne249)
    have f728 := f705.other W725 (Or.inl ne249)
    have f729 := f706.other W725 (Or.inl ne249)
    have f730 := f707.other W725 (Or.inl ne249)
    have f731 := f708.other W725 (Or.inl ne249)
    have f734 := f711.other W725 (Or.inl ne249)
    have f736 := f713.other W725 (Or.inl ne249)
    have f737 := f714.other W725 (Or.inl ne249)
    have f738 := f715.other W725 (Or.inl ne249)
    have f739 := f716.other W725 (Or.inl ne249)
    have f742 := f720.other W725 ne254
    have f743 := f722.other W725 ne255
    have Kp744 := Kp721.wr W725 (Or.inr sz_b248)
    have f745 : Arv Z h725 b248 k248 .int (2 : Int32) [(.int (own_Vig_66 c1 t0 h0_ t1 h1_)), (.int (own_Vig_82 c1 t0 h0_ t1 h1_))] (.int (0 : Int32)) := V725
    show own_H T725 255 #[.val (.ref a1), .val (.ref x298), .val (.int (1 : Int32)), .val (.int (own_Vig_82 c1 t0 h0_ t1 h1_)), .val (.int (own_Vig_85 c1 t0 h0_ t1 h1_))] []
    clear f703 f704 f705 f706 f707 f708 f711 f713 f714 f715 f716 f717 f720 f722 Kp721
    refine own_via (fun t k => XS.iinc X725.here hx rfl (hb hby own_d6_255) rfl (l' := #[.val (.ref a1), .val (.ref x298), .val (.int (2 : Int32)), .val (.int (own_Vig_82 c1 t0 h0_ t1 h1_)), .val (.int (own_Vig_85 c1 t0 h0_ t1 h1_))]) rfl k) ?_
    show own_H T725 258 #[.val (.ref a1), .val (.ref x298), .val (.int (2 : Int32)), .val (.int (own_Vig_82 c1 t0 h0_ t1 h1_)), .val (.int (own_Vig_85 c1 t0 h0_ t1 h1_))] []
    refine own_via (fun t k => XS.goto X725.here hx rfl (pc0 := 258) (pc' := 155) rfl (hb hby own_d6_258) (by decide) (by decide) k) ?_
    refine own_via (fun t k => XS.iloadN X725.here hx rfl (hb hby own_d6_155) rfl k) ?_
    refine own_via (fun t k => XS.aloadN X725.here hx rfl (hb hby own_d6_156) rfl rfl k) ?_
    show own_H T725 157 #[.val (.ref a1), .val (.ref x298), .val (.int (2 : Int32)), .val (.int (own_Vig_82 c1 t0 h0_ t1 h1_)), .val (.int (own_Vig_85 c1 t0 h0_ t1 h1_))] [(.ref a1), (.int (2 : Int32))]
    obtain ⟨T747, X747, e747, st747⟩ := getF X725 hx hZ hown (host := "") (Or.inl (own_u hw 26 rfl)) Via.refl e725 f731 (g := (mkF m 157 #[.val (.ref a1), .val (.ref x298), .val (.int (2 : Int32)), .val (.int (own_Vig_82 c1 t0 h0_ t1 h1_)), .val (.int (own_Vig_85 c1 t0 h0_ t1 h1_))] [(.ref a1), (.int (2 : Int32))])) rfl rfl (hb hby own_d6_157)
    refine own_via st747 ?_
    show own_H T747 160 #[.val (.ref a1), .val (.ref x298), .val (.int (2 : Int32)), .val (.int (own_Vig_82 c1 t0 h0_ t1 h1_)), .val (.int (own_Vig_85 c1 t0 h0_ t1 h1_))] [(.int (2 : Int32)), (.int (2 : Int32))]
    refine own_via (fun t k => XS.icmpYes X747.here hx rfl (pc0 := 160) (pc' := 261) rfl (hb hby own_d6_160) rfl (flt (by decide : ¬ ((2 : Int32) < (2 : Int32)))).2.1 (by decide) (by decide) k) ?_
    show own_H T747 261 #[.val (.ref a1), .val (.ref x298), .val (.int (2 : Int32)), .val (.int (own_Vig_82 c1 t0 h0_ t1 h1_)), .val (.int (own_Vig_85 c1 t0 h0_ t1 h1_))] []
    exact own_retV X747 hx Bd.returns Bd.notSynchronized (hb hby own_d6_261) (by rw [e747]; exact ⟨N725, b2, b119, b159, b202, b248, k159, k202, k248, rfl, Kp744, sz_b2, sz_b119, sz_b159, sz_b202, sz_b248, f726, f727, f728, f729, f730, f734, f731, f736, f737, f738, f739, f742, f743, f745⟩) (by decide) (by decide)
  rcases hp_hr.1 with rfl | rfl | rfl | rfl
  ·
    show own_H T116 62 #[.val (.ref a1), .val (.int (2 : Int32)), .unset, .unset, .unset] []
    refine own_via (fun t k => XS.iconst X116.here hx rfl (hb hby own_d6_62) k) ?_
    show own_H T116 63 #[.val (.ref a1), .val (.int (2 : Int32)), .unset, .unset, .unset] [(.int (0 : Int32))]
    refine own_via (fun t k => XS.istoreN X116.here hx rfl (hb hby own_d6_63) rfl (l' := #[.val (.ref a1), .val (.int (0 : Int32)), .unset, .unset, .unset]) rfl k) ?_
    refine own_via (fun t k => XS.iloadN X116.here hx rfl (hb hby own_d6_64) rfl k) ?_
    refine own_via (fun t k => XS.aloadN X116.here hx rfl (hb hby own_d6_65) rfl rfl k) ?_
    show own_H T116 66 #[.val (.ref a1), .val (.int (0 : Int32)), .unset, .unset, .unset] [(.ref a1), (.int (0 : Int32))]
    obtain ⟨T748, X748, e748, st748⟩ := getF X116 hx hZ hown (host := "") (Or.inl (own_u hw 17 rfl)) Via.refl e116 f104 (g := (mkF m 66 #[.val (.ref a1), .val (.int (0 : Int32)), .unset, .unset, .unset] [(.ref a1), (.int (0 : Int32))])) rfl rfl (hb hby own_d6_66)
    refine own_via st748 ?_
    show own_H T748 69 #[.val (.ref a1), .val (.int (0 : Int32)), .unset, .unset, .unset] [(.int (1 : Int32)), (.int (0 : Int32))]
    refine own_via (fun t k => XS.icmpNo X748.here hx rfl (hb hby own_d6_69) rfl (tlt (by decide : (0 : Int32) < (1 : Int32))).2.1 k) ?_
    show own_H T748 72 #[.val (.ref a1), .val (.int (0 : Int32)), .unset, .unset, .unset] []
    refine own_via (fun t k => XS.aloadN X748.here hx rfl (hb hby own_d6_72) rfl rfl k) ?_
    show own_H T748 73 #[.val (.ref a1), .val (.int (0 : Int32)), .unset, .unset, .unset] [(.ref a1)]
    obtain ⟨T749, X749, e749, st749⟩ := getF X748 hx hZ hown (host := "") (Or.inl (own_u hw 24 rfl)) Via.refl e748 f112 (g := (mkF m 73 #[.val (.ref a1), .val (.int (0 : Int32)), .unset, .unset, .unset] [(.ref a1)])) rfl rfl (hb hby own_d6_73)
    refine own_via st749 ?_
    show own_H T749 76 #[.val (.ref a1), .val (.int (0 : Int32)), .unset, .unset, .unset] [(.ref b2)]
    refine own_via (fun t k => XS.iloadN X749.here hx rfl (hb hby own_d6_76) rfl k) ?_
    refine own_via (fun t k => XS.iconst X749.here hx rfl (hb hby own_d6_77) k) ?_
    show own_H T749 78 #[.val (.ref a1), .val (.int (0 : Int32)), .unset, .unset, .unset] [(.int (1 : Int32)), (.int (0 : Int32)), (.ref b2)]
    refine own_via (fun t k => XS.iadd X749.here hx rfl (hb hby own_d6_78) rfl k) ?_
    show own_H T749 79 #[.val (.ref a1), .val (.int (0 : Int32)), .unset, .unset, .unset] [(.int (1 : Int32)), (.ref b2)]
    refine own_via (own_dup2 X749 hx rfl rfl (hb hby own_d6_79)) ?_
    show own_H T749 80 #[.val (.ref a1), .val (.int (0 : Int32)), .unset, .unset, .unset] [(.int (1 : Int32)), (.ref b2), (.int (1 : Int32)), (.ref b2)]
    refine own_via (own_ldS (L := (own_Aig_13 (1 : Int32) t0 h0_ t1 h1_)) X749 hx hZ e749 f114 (j := (1 : Int32)) (own_Hi1_14 t0 h0_ t1 h1_ hp_hr).1 (pc := 80) (Ls := #[.val (.ref a1), .val (.int (0 : Int32)), .unset, .unset, .unset]) (rest := [(.int (1 : Int32)), (.ref b2)]) (hb hby own_d6_80)) ?_
    show own_H T749 81 #[.val (.ref a1), .val (.int (0 : Int32)), .unset, .unset, .unset] [(.int (own_Vi1_15 t0 h0_ t1 h1_)), (.int (1 : Int32)), (.ref b2)]
    refine own_via (fun t k => XS.aloadN X749.here hx rfl (hb hby own_d6_81) rfl rfl k) ?_
    show own_H T749 82 #[.val (.ref a1), .val (.int (0 : Int32)), .unset, .unset, .unset] [(.ref a1), (.int (own_Vi1_15 t0 h0_ t1 h1_)), (.int (1 : Int32)), (.ref b2)]
    obtain ⟨T750, X750, e750, st750⟩ := getF X749 hx hZ hown (host := "") (Or.inl (own_u hw 24 rfl)) Via.refl e749 f112 (g := (mkF m 82 #[.val (.ref a1), .val (.int (0 : Int32)), .unset, .unset, .unset] [(.ref a1), (.int (own_Vi1_15 t0 h0_ t1 h1_)), (.int (1 : Int32)), (.ref b2)])) rfl rfl (hb hby own_d6_82)
    refine own_via st750 ?_
    show own_H T750 85 #[.val (.ref a1), .val (.int (0 : Int32)), .unset, .unset, .unset] [(.ref b2), (.int (own_Vi1_15 t0 h0_ t1 h1_)), (.int (1 : Int32)), (.ref b2)]
    refine own_via (fun t k => XS.iloadN X750.here hx rfl (hb hby own_d6_85) rfl k) ?_
    show own_H T750 86 #[.val (.ref a1), .val (.int (0 : Int32)), .unset, .unset, .unset] [(.int (0 : Int32)), (.ref b2), (.int (own_Vi1_15 t0 h0_ t1 h1_)), (.int (1 : Int32)), (.ref b2)]
    refine own_via (own_ldS (L := (own_Aig_13 (1 : Int32) t0 h0_ t1 h1_)) X750 hx hZ e750 f114 (j := (0 : Int32)) (own_Hi1_16 t0 h0_ t1 h1_ hp_hr).1 (pc := 86) (Ls := #[.val (.ref a1), .val (.int (0 : Int32)), .unset, .unset, .unset]) (rest := [(.int (own_Vi1_15 t0 h0_ t1 h1_)), (.int (1 : Int32)), (.ref b2)]) (hb hby own_d6_86)) ?_
    show own_H T750 87 #[.val (.ref a1), .val (.int (0 : Int32)), .unset, .unset, .unset] [(.int (own_Vi1_17 t0 h0_ t1 h1_)), (.int (own_Vi1_15 t0 h0_ t1 h1_)), (.int (1 : Int32)), (.ref b2)]
    refine own_via (fun t k => XS.iadd X750.here hx rfl (hb hby own_d6_87) rfl k) ?_
    show own_H T750 88 #[.val (.ref a1), .val (.int (0 : Int32)), .unset, .unset, .unset] [(.int ((own_Vi1_15 t0 h0_ t1 h1_) + (own_Vi1_17 t0 h0_ t1 h1_))), (.int (1 : Int32)), (.ref b2)]
    obtain ⟨T751, h751, L751, X751, N751, e751, W751, V751, st751⟩ := own_stS (L := (own_Aig_13 (1 : Int32) t0 h0_ t1 h1_)) X750 N99 hx hZ e750 f114 g_b2 (j := (1 : Int32)) (x := ((own_Vi1_15 t0 h0_ t1 h1_) + (own_Vi1_17 t0 h0_ t1 h1_))) (own_Hi1_14 t0 h0_ t1 h1_ hp_hr) (pc := 88) (Ls := #[.val (.ref a1), .val (.int (0 : Int32)), .unset, .unset, .unset]) (rest := []) (hb hby own_d6_88)
    refine own_via st751 ?_
    have f752 := f100.wr W751
    have f753 := f101.other W751 (Or.inl ne3)
    have f754 := f102.other W751 (Or.inl ne3)
    have f755 := f103.other W751 (Or.inl ne3)
    have f756 := f104.other W751 (Or.inl ne3)
    have f757 := f105.other W751 (Or.inl ne3)
    have f758 := f106.other W751 (Or.inl ne3)
    have f759 := f107.other W751 (Or.inl ne3)
    have f760 := f108.other W751 (Or.inl ne3)
    have f761 := f109.other W751 (Or.inl ne3)
    have f762 := f110.other W751 ne4
    have f763 := f111.other W751 ne5
    have f764 := f112.other W751 (Or.inl ne3)
    have Kp765 := Kp113.wr W751 (Or.inr sz_b2)
    have f766 : Arv Z h751 b2 k2 .int ((1 : Int32) + (1 : Int32)) ((own_Ai1_18 t0 h0_ t1 h1_).map Value.int) (.int (0 : Int32)) := V751
    have Zs767 : n0 ≤ h751.size := by rw [W751.size]; exact Zs115
    show own_H T751 89 #[.val (.ref a1), .val (.int (0 : Int32)), .unset, .unset, .unset] []
    clear f100 f101 f102 f103 f104 f105 f106 f107 f108 f109 f110 f111 f112 f114 Kp113 Zs115
    refine own_via (fun t k => XS.iinc X751.here hx rfl (hb hby own_d6_89) rfl (l' := #[.val (.ref a1), .val (.int (1 : Int32)), .unset, .unset, .unset]) rfl k) ?_
    show own_H T751 92 #[.val (.ref a1), .val (.int (1 : Int32)), .unset, .unset, .unset] []
    refine own_via (fun t k => XS.goto X751.here hx rfl (pc0 := 92) (pc' := 64) rfl (hb hby own_d6_92) (by decide) (by decide) k) ?_
    refine own_via (fun t k => XS.iloadN X751.here hx rfl (hb hby own_d6_64) rfl k) ?_
    refine own_via (fun t k => XS.aloadN X751.here hx rfl (hb hby own_d6_65) rfl rfl k) ?_
    show own_H T751 66 #[.val (.ref a1), .val (.int (1 : Int32)), .unset, .unset, .unset] [(.ref a1), (.int (1 : Int32))]
    obtain ⟨T768, X768, e768, st768⟩ := getF X751 hx hZ hown (host := "") (Or.inl (own_u hw 17 rfl)) Via.refl e751 f756 (g := (mkF m 66 #[.val (.ref a1), .val (.int (1 : Int32)), .unset, .unset, .unset] [(.ref a1), (.int (1 : Int32))])) rfl rfl (hb hby own_d6_66)
    refine own_via st768 ?_
    show own_H T768 69 #[.val (.ref a1), .val (.int (1 : Int32)), .unset, .unset, .unset] [(.int (1 : Int32)), (.int (1 : Int32))]
    refine own_via (fun t k => XS.icmpYes X768.here hx rfl (pc0 := 69) (pc' := 95) rfl (hb hby own_d6_69) rfl (flt (by decide : ¬ ((1 : Int32) < (1 : Int32)))).2.1 (by decide) (by decide) k) ?_
    show own_H T768 95 #[.val (.ref a1), .val (.int (1 : Int32)), .unset, .unset, .unset] []
    exact J117 _ _ _ X768 N751 e768 Kp765 Zs767 f752 f753 f754 f755 f756 f757 f758 f759 f760 f761 f762 f763 f764 f766
  ·
    show own_H T116 62 #[.val (.ref a1), .val (.int (2 : Int32)), .unset, .unset, .unset] []
    refine own_via (fun t k => XS.iconst X116.here hx rfl (hb hby own_d6_62) k) ?_
    show own_H T116 63 #[.val (.ref a1), .val (.int (2 : Int32)), .unset, .unset, .unset] [(.int (0 : Int32))]
    refine own_via (fun t k => XS.istoreN X116.here hx rfl (hb hby own_d6_63) rfl (l' := #[.val (.ref a1), .val (.int (0 : Int32)), .unset, .unset, .unset]) rfl k) ?_
    refine own_via (fun t k => XS.iloadN X116.here hx rfl (hb hby own_d6_64) rfl k) ?_
    refine own_via (fun t k => XS.aloadN X116.here hx rfl (hb hby own_d6_65) rfl rfl k) ?_
    show own_H T116 66 #[.val (.ref a1), .val (.int (0 : Int32)), .unset, .unset, .unset] [(.ref a1), (.int (0 : Int32))]
    obtain ⟨T769, X769, e769, st769⟩ := getF X116 hx hZ hown (host := "") (Or.inl (own_u hw 17 rfl)) Via.refl e116 f104 (g := (mkF m 66 #[.val (.ref a1), .val (.int (0 : Int32)), .unset, .unset, .unset] [(.ref a1), (.int (0 : Int32))])) rfl rfl (hb hby own_d6_66)
    refine own_via st769 ?_
    show own_H T769 69 #[.val (.ref a1), .val (.int (0 : Int32)), .unset, .unset, .unset] [(.int (2 : Int32)), (.int (0 : Int32))]
    refine own_via (fun t k => XS.icmpNo X769.here hx rfl (hb hby own_d6_69) rfl (tlt (by decide : (0 : Int32) < (2 : Int32))).2.1 k) ?_
    show own_H T769 72 #[.val (.ref a1), .val (.int (0 : Int32)), .unset, .unset, .unset] []
    refine own_via (fun t k => XS.aloadN X769.here hx rfl (hb hby own_d6_72) rfl rfl k) ?_
    show own_H T769 73 #[.val (.ref a1), .val (.int (0 : Int32)), .unset, .unset, .unset] [(.ref a1)]
    obtain ⟨T770, X770, e770, st770⟩ := getF X769 hx hZ hown (host := "") (Or.inl (own_u hw 24 rfl)) Via.refl e769 f112 (g := (mkF m 73 #[.val (.ref a1), .val (.int (0 : Int32)), .unset, .unset, .unset] [(.ref a1)])) rfl rfl (hb hby own_d6_73)
    refine own_via st770 ?_
    show own_H T770 76 #[.val (.ref a1), .val (.int (0 : Int32)), .unset, .unset, .unset] [(.ref b2)]
    refine own_via (fun t k => XS.iloadN X770.here hx rfl (hb hby own_d6_76) rfl k) ?_
    refine own_via (fun t k => XS.iconst X770.here hx rfl (hb hby own_d6_77) k) ?_
    show own_H T770 78 #[.val (.ref a1), .val (.int (0 : Int32)), .unset, .unset, .unset] [(.int (1 : Int32)), (.int (0 : Int32)), (.ref b2)]
    refine own_via (fun t k => XS.iadd X770.here hx rfl (hb hby own_d6_78) rfl k) ?_
    show own_H T770 79 #[.val (.ref a1), .val (.int (0 : Int32)), .unset, .unset, .unset] [(.int (1 : Int32)), (.ref b2)]
    refine own_via (own_dup2 X770 hx rfl rfl (hb hby own_d6_79)) ?_
    show own_H T770 80 #[.val (.ref a1), .val (.int (0 : Int32)), .unset, .unset, .unset] [(.int (1 : Int32)), (.ref b2), (.int (1 : Int32)), (.ref b2)]
    refine own_via (own_ldS (L := (own_Aig_13 (2 : Int32) t0 h0_ t1 h1_)) X770 hx hZ e770 f114 (j := (1 : Int32)) (own_Hi2_19 t0 h0_ t1 h1_ hp_hr).1 (pc := 80) (Ls := #[.val (.ref a1), .val (.int (0 : Int32)), .unset, .unset, .unset]) (rest := [(.int (1 : Int32)), (.ref b2)]) (hb hby own_d6_80)) ?_
    show own_H T770 81 #[.val (.ref a1), .val (.int (0 : Int32)), .unset, .unset, .unset] [(.int (own_Vi2_20 t0 h0_ t1 h1_)), (.int (1 : Int32)), (.ref b2)]
    refine own_via (fun t k => XS.aloadN X770.here hx rfl (hb hby own_d6_81) rfl rfl k) ?_
    show own_H T770 82 #[.val (.ref a1), .val (.int (0 : Int32)), .unset, .unset, .unset] [(.ref a1), (.int (own_Vi2_20 t0 h0_ t1 h1_)), (.int (1 : Int32)), (.ref b2)]
    obtain ⟨T771, X771, e771, st771⟩ := getF X770 hx hZ hown (host := "") (Or.inl (own_u hw 24 rfl)) Via.refl e770 f112 (g := (mkF m 82 #[.val (.ref a1), .val (.int (0 : Int32)), .unset, .unset, .unset] [(.ref a1), (.int (own_Vi2_20 t0 h0_ t1 h1_)), (.int (1 : Int32)), (.ref b2)])) rfl rfl (hb hby own_d6_82)
    refine own_via st771 ?_
    show own_H T771 85 #[.val (.ref a1), .val (.int (0 : Int32)), .unset, .unset, .unset] [(.ref b2), (.int (own_Vi2_20 t0 h0_ t1 h1_)), (.int (1 : Int32)), (.ref b2)]
    refine own_via (fun t k => XS.iloadN X771.here hx rfl (hb hby own_d6_85) rfl k) ?_
    show own_H T771 86 #[.val (.ref a1), .val (.int (0 : Int32)), .unset, .unset, .unset] [(.int (0 : Int32)), (.ref b2), (.int (own_Vi2_20 t0 h0_ t1 h1_)), (.int (1 : Int32)), (.ref b2)]
    refine own_via (own_ldS (L := (own_Aig_13 (2 : Int32) t0 h0_ t1 h1_)) X771 hx hZ e771 f114 (j := (0 : Int32)) (own_Hi2_21 t0 h0_ t1 h1_ hp_hr).1 (pc := 86) (Ls := #[.val (.ref a1), .val (.int (0 : Int32)), .unset, .unset, .unset]) (rest := [(.int (own_Vi2_20 t0 h0_ t1 h1_)), (.int (1 : Int32)), (.ref b2)]) (hb hby own_d6_86)) ?_
    show own_H T771 87 #[.val (.ref a1), .val (.int (0 : Int32)), .unset, .unset, .unset] [(.int (own_Vi2_22 t0 h0_ t1 h1_)), (.int (own_Vi2_20 t0 h0_ t1 h1_)), (.int (1 : Int32)), (.ref b2)]
    refine own_via (fun t k => XS.iadd X771.here hx rfl (hb hby own_d6_87) rfl k) ?_
    show own_H T771 88 #[.val (.ref a1), .val (.int (0 : Int32)), .unset, .unset, .unset] [(.int ((own_Vi2_20 t0 h0_ t1 h1_) + (own_Vi2_22 t0 h0_ t1 h1_))), (.int (1 : Int32)), (.ref b2)]
    obtain ⟨T772, h772, L772, X772, N772, e772, W772, V772, st772⟩ := own_stS (L := (own_Aig_13 (2 : Int32) t0 h0_ t1 h1_)) X771 N99 hx hZ e771 f114 g_b2 (j := (1 : Int32)) (x := ((own_Vi2_20 t0 h0_ t1 h1_) + (own_Vi2_22 t0 h0_ t1 h1_))) (own_Hi2_19 t0 h0_ t1 h1_ hp_hr) (pc := 88) (Ls := #[.val (.ref a1), .val (.int (0 : Int32)), .unset, .unset, .unset]) (rest := []) (hb hby own_d6_88)
    refine own_via st772 ?_
    have f773 := f100.wr W772
    have f774 := f101.other W772 (Or.inl ne3)
    have f775 := f102.other W772 (Or.inl ne3)
    have f776 := f103.other W772 (Or.inl ne3)
    have f777 := f104.other W772 (Or.inl ne3)
    have f778 := f105.other W772 (Or.inl ne3)
    have f779 := f106.other W772 (Or.inl ne3)
    have f780 := f107.other W772 (Or.inl ne3)
    have f781 := f108.other W772 (Or.inl ne3)
    have f782 := f109.other W772 (Or.inl ne3)
    have f783 := f110.other W772 ne4
    have f784 := f111.other W772 ne5
    have f785 := f112.other W772 (Or.inl ne3)
    have Kp786 := Kp113.wr W772 (Or.inr sz_b2)
    have f787 : Arv Z h772 b2 k2 .int ((2 : Int32) + (1 : Int32)) ((own_Ai2_23 t0 h0_ t1 h1_).map Value.int) (.int (0 : Int32)) := V772
    have Zs788 : n0 ≤ h772.size := by rw [W772.size]; exact Zs115
    show own_H T772 89 #[.val (.ref a1), .val (.int (0 : Int32)), .unset, .unset, .unset] []
    clear f100 f101 f102 f103 f104 f105 f106 f107 f108 f109 f110 f111 f112 f114 Kp113 Zs115
    refine own_via (fun t k => XS.iinc X772.here hx rfl (hb hby own_d6_89) rfl (l' := #[.val (.ref a1), .val (.int (1 : Int32)), .unset, .unset, .unset]) rfl k) ?_
    show own_H T772 92 #[.val (.ref a1), .val (.int (1 : Int32)), .unset, .unset, .unset] []
    refine own_via (fun t k => XS.goto X772.here hx rfl (pc0 := 92) (pc' := 64) rfl (hb hby own_d6_92) (by decide) (by decide) k) ?_
    refine own_via (fun t k => XS.iloadN X772.here hx rfl (hb hby own_d6_64) rfl k) ?_
    refine own_via (fun t k => XS.aloadN X772.here hx rfl (hb hby own_d6_65) rfl rfl k) ?_
    show own_H T772 66 #[.val (.ref a1), .val (.int (1 : Int32)), .unset, .unset, .unset] [(.ref a1), (.int (1 : Int32))]
    obtain ⟨T789, X789, e789, st789⟩ := getF X772 hx hZ hown (host := "") (Or.inl (own_u hw 17 rfl)) Via.refl e772 f777 (g := (mkF m 66 #[.val (.ref a1), .val (.int (1 : Int32)), .unset, .unset, .unset] [(.ref a1), (.int (1 : Int32))])) rfl rfl (hb hby own_d6_66)
    refine own_via st789 ?_
    show own_H T789 69 #[.val (.ref a1), .val (.int (1 : Int32)), .unset, .unset, .unset] [(.int (2 : Int32)), (.int (1 : Int32))]
    refine own_via (fun t k => XS.icmpNo X789.here hx rfl (hb hby own_d6_69) rfl (tlt (by decide : (1 : Int32) < (2 : Int32))).2.1 k) ?_
    show own_H T789 72 #[.val (.ref a1), .val (.int (1 : Int32)), .unset, .unset, .unset] []
    refine own_via (fun t k => XS.aloadN X789.here hx rfl (hb hby own_d6_72) rfl rfl k) ?_
    show own_H T789 73 #[.val (.ref a1), .val (.int (1 : Int32)), .unset, .unset, .unset] [(.ref a1)]
    obtain ⟨T790, X790, e790, st790⟩ := getF X789 hx hZ hown (host := "") (Or.inl (own_u hw 24 rfl)) Via.refl e789 f785 (g := (mkF m 73 #[.val (.ref a1), .val (.int (1 : Int32)), .unset, .unset, .unset] [(.ref a1)])) rfl rfl (hb hby own_d6_73)
    refine own_via st790 ?_
    show own_H T790 76 #[.val (.ref a1), .val (.int (1 : Int32)), .unset, .unset, .unset] [(.ref b2)]
    refine own_via (fun t k => XS.iloadN X790.here hx rfl (hb hby own_d6_76) rfl k) ?_
    refine own_via (fun t k => XS.iconst X790.here hx rfl (hb hby own_d6_77) k) ?_
    show own_H T790 78 #[.val (.ref a1), .val (.int (1 : Int32)), .unset, .unset, .unset] [(.int (1 : Int32)), (.int (1 : Int32)), (.ref b2)]
    refine own_via (fun t k => XS.iadd X790.here hx rfl (hb hby own_d6_78) rfl k) ?_
    show own_H T790 79 #[.val (.ref a1), .val (.int (1 : Int32)), .unset, .unset, .unset] [(.int (2 : Int32)), (.ref b2)]
    refine own_via (own_dup2 X790 hx rfl rfl (hb hby own_d6_79)) ?_
    show own_H T790 80 #[.val (.ref a1), .val (.int (1 : Int32)), .unset, .unset, .unset] [(.int (2 : Int32)), (.ref b2), (.int (2 : Int32)), (.ref b2)]
    refine own_via (own_ldS (L := (own_Ai2_23 t0 h0_ t1 h1_)) X790 hx hZ e790 f787 (j := (2 : Int32)) (own_Hi2_24 t0 h0_ t1 h1_ hp_hr).1 (pc := 80) (Ls := #[.val (.ref a1), .val (.int (1 : Int32)), .unset, .unset, .unset]) (rest := [(.int (2 : Int32)), (.ref b2)]) (hb hby own_d6_80)) ?_
    show own_H T790 81 #[.val (.ref a1), .val (.int (1 : Int32)), .unset, .unset, .unset] [(.int (own_Vi2_25 t0 h0_ t1 h1_)), (.int (2 : Int32)), (.ref b2)]
    refine own_via (fun t k => XS.aloadN X790.here hx rfl (hb hby own_d6_81) rfl rfl k) ?_
    show own_H T790 82 #[.val (.ref a1), .val (.int (1 : Int32)), .unset, .unset, .unset] [(.ref a1), (.int (own_Vi2_25 t0 h0_ t1 h1_)), (.int (2 : Int32)), (.ref b2)]
    obtain ⟨T791, X791, e791, st791⟩ := getF X790 hx hZ hown (host := "") (Or.inl (own_u hw 24 rfl)) Via.refl e790 f785 (g := (mkF m 82 #[.val (.ref a1), .val (.int (1 : Int32)), .unset, .unset, .unset] [(.ref a1), (.int (own_Vi2_25 t0 h0_ t1 h1_)), (.int (2 : Int32)), (.ref b2)])) rfl rfl (hb hby own_d6_82)
    refine own_via st791 ?_
    show own_H T791 85 #[.val (.ref a1), .val (.int (1 : Int32)), .unset, .unset, .unset] [(.ref b2), (.int (own_Vi2_25 t0 h0_ t1 h1_)), (.int (2 : Int32)), (.ref b2)]
    refine own_via (fun t k => XS.iloadN X791.here hx rfl (hb hby own_d6_85) rfl k) ?_
    show own_H T791 86 #[.val (.ref a1), .val (.int (1 : Int32)), .unset, .unset, .unset] [(.int (1 : Int32)), (.ref b2), (.int (own_Vi2_25 t0 h0_ t1 h1_)), (.int (2 : Int32)), (.ref b2)]
    refine own_via (own_ldS (L := (own_Ai2_23 t0 h0_ t1 h1_)) X791 hx hZ e791 f787 (j := (1 : Int32)) (own_Hi2_26 t0 h0_ t1 h1_ hp_hr).1 (pc := 86) (Ls := #[.val (.ref a1), .val (.int (1 : Int32)), .unset, .unset, .unset]) (rest := [(.int (own_Vi2_25 t0 h0_ t1 h1_)), (.int (2 : Int32)), (.ref b2)]) (hb hby own_d6_86)) ?_
    show own_H T791 87 #[.val (.ref a1), .val (.int (1 : Int32)), .unset, .unset, .unset] [(.int (own_Vi2_27 t0 h0_ t1 h1_)), (.int (own_Vi2_25 t0 h0_ t1 h1_)), (.int (2 : Int32)), (.ref b2)]
    refine own_via (fun t k => XS.iadd X791.here hx rfl (hb hby own_d6_87) rfl k) ?_
    show own_H T791 88 #[.val (.ref a1), .val (.int (1 : Int32)), .unset, .unset, .unset] [(.int ((own_Vi2_25 t0 h0_ t1 h1_) + (own_Vi2_27 t0 h0_ t1 h1_))), (.int (2 : Int32)), (.ref b2)]
    obtain ⟨T792, h792, L792, X792, N792, e792, W792, V792, st792⟩ := own_stS (L := (own_Ai2_23 t0 h0_ t1 h1_)) X791 N772 hx hZ e791 f787 g_b2 (j := (2 : Int32)) (x := ((own_Vi2_25 t0 h0_ t1 h1_) + (own_Vi2_27 t0 h0_ t1 h1_))) (own_Hi2_24 t0 h0_ t1 h1_ hp_hr) (pc := 88) (Ls := #[.val (.ref a1), .val (.int (1 : Int32)), .unset, .unset, .unset]) (rest := []) (hb hby own_d6_88)
    refine own_via st792 ?_
    have f793 := f773.wr W792
    have f794 := f774.other W792 (Or.inl ne3)
    have f795 := f775.other W792 (Or.inl ne3)
    have f796 := f776.other W792 (Or.inl ne3)
    have f797 := f777.other W792 (Or.inl ne3)
    have f798 := f778.other W792 (Or.inl ne3)
    have f799 := f779.other W792 (Or.inl ne3)
    have f800 := f780.other W792 (Or.inl ne3)
    have f801 := f781.other W792 (Or.inl ne3)
    have f802 := f782.other W792 (Or.inl ne3)
    have f803 := f783.other W792 ne4
    have f804 := f784.other W792 ne5
    have f805 := f785.other W792 (Or.inl ne3)
    have Kp806 := Kp786.wr W792 (Or.inr sz_b2)
    have f807 : Arv Z h792 b2 k2 .int ((2 : Int32) + (1 : Int32)) ((own_Ai2_28 t0 h0_ t1 h1_).map Value.int) (.int (0 : Int32)) := V792
    have Zs808 : n0 ≤ h792.size := by rw [W792.size]; exact Zs788
    show own_H T792 89 #[.val (.ref a1), .val (.int (1 : Int32)), .unset, .unset, .unset] []
    clear f773 f774 f775 f776 f777 f778 f779 f780 f781 f782 f783 f784 f785 f787 Kp786 Zs788
    refine own_via (fun t k => XS.iinc X792.here hx rfl (hb hby own_d6_89) rfl (l' := #[.val (.ref a1), .val (.int (2 : Int32)), .unset, .unset, .unset]) rfl k) ?_
    show own_H T792 92 #[.val (.ref a1), .val (.int (2 : Int32)), .unset, .unset, .unset] []
    refine own_via (fun t k => XS.goto X792.here hx rfl (pc0 := 92) (pc' := 64) rfl (hb hby own_d6_92) (by decide) (by decide) k) ?_
    refine own_via (fun t k => XS.iloadN X792.here hx rfl (hb hby own_d6_64) rfl k) ?_
    refine own_via (fun t k => XS.aloadN X792.here hx rfl (hb hby own_d6_65) rfl rfl k) ?_
    show own_H T792 66 #[.val (.ref a1), .val (.int (2 : Int32)), .unset, .unset, .unset] [(.ref a1), (.int (2 : Int32))]
    obtain ⟨T809, X809, e809, st809⟩ := getF X792 hx hZ hown (host := "") (Or.inl (own_u hw 17 rfl)) Via.refl e792 f797 (g := (mkF m 66 #[.val (.ref a1), .val (.int (2 : Int32)), .unset, .unset, .unset] [(.ref a1), (.int (2 : Int32))])) rfl rfl (hb hby own_d6_66)
    refine own_via st809 ?_
    show own_H T809 69 #[.val (.ref a1), .val (.int (2 : Int32)), .unset, .unset, .unset] [(.int (2 : Int32)), (.int (2 : Int32))]
    refine own_via (fun t k => XS.icmpYes X809.here hx rfl (pc0 := 69) (pc' := 95) rfl (hb hby own_d6_69) rfl (flt (by decide : ¬ ((2 : Int32) < (2 : Int32)))).2.1 (by decide) (by decide) k) ?_
    show own_H T809 95 #[.val (.ref a1), .val (.int (2 : Int32)), .unset, .unset, .unset] []
    exact J117 _ _ _ X809 N792 e809 Kp806 Zs808 f793 f794 f795 f796 f797 f798 f799 f800 f801 f802 f803 f804 f805 f807
  ·
    show own_H T116 62 #[.val (.ref a1), .val (.int (2 : Int32)), .unset, .unset, .unset] []
    refine own_via (fun t k => XS.iconst X116.here hx rfl (hb hby own_d6_62) k) ?_
    show own_H T116 63 #[.val (.ref a1), .val (.int (2 : Int32)), .unset, .unset, .unset] [(.int (0 : Int32))]
    refine own_via (fun t k => XS.istoreN X116.here hx rfl (hb hby own_d6_63) rfl (l' := #[.val (.ref a1), .val (.int (0 : Int32)), .unset, .unset, .unset]) rfl k) ?_
    refine own_via (fun t k => XS.iloadN X116.here hx rfl (hb hby own_d6_64) rfl k) ?_
    refine own_via (fun t k => XS.aloadN X116.here hx rfl (hb hby own_d6_65) rfl rfl k) ?_
    show own_H T116 66 #[.val (.ref a1), .val (.int (0 : Int32)), .unset, .unset, .unset] [(.ref a1), (.int (0 : Int32))]
    obtain ⟨T810, X810, e810, st810⟩ := getF X116 hx hZ hown (host := "") (Or.inl (own_u hw 17 rfl)) Via.refl e116 f104 (g := (mkF m 66 #[.val (.ref a1), .val (.int (0 : Int32)), .unset, .unset, .unset] [(.ref a1), (.int (0 : Int32))])) rfl rfl (hb hby own_d6_66)
    refine own_via st810 ?_
    show own_H T810 69 #[.val (.ref a1), .val (.int (0 : Int32)), .unset, .unset, .unset] [(.int (3 : Int32)), (.int (0 : Int32))]
    refine own_via (fun t k => XS.icmpNo X810.here hx rfl (hb hby own_d6_69) rfl (tlt (by decide : (0 : Int32) < (3 : Int32))).2.1 k) ?_
    show own_H T810 72 #[.val (.ref a1), .val (.int (0 : Int32)), .unset, .unset, .unset] []
    refine own_via (fun t k => XS.aloadN X810.here hx rfl (hb hby own_d6_72) rfl rfl k) ?_
    show own_H T810 73 #[.val (.ref a1), .val (.int (0 : Int32)), .unset, .unset, .unset] [(.ref a1)]
    obtain ⟨T811, X811, e811, st811⟩ := getF X810 hx hZ hown (host := "") (Or.inl (own_u hw 24 rfl)) Via.refl e810 f112 (g := (mkF m 73 #[.val (.ref a1), .val (.int (0 : Int32)), .unset, .unset, .unset] [(.ref a1)])) rfl rfl (hb hby own_d6_73)
    refine own_via st811 ?_
    show own_H T811 76 #[.val (.ref a1), .val (.int (0 : Int32)), .unset, .unset, .unset] [(.ref b2)]
    refine own_via (fun t k => XS.iloadN X811.here hx rfl (hb hby own_d6_76) rfl k) ?_
    refine own_via (fun t k => XS.iconst X811.here hx rfl (hb hby own_d6_77) k) ?_
    show own_H T811 78 #[.val (.ref a1), .val (.int (0 : Int32)), .unset, .unset, .unset] [(.int (1 : Int32)), (.int (0 : Int32)), (.ref b2)]
    refine own_via (fun t k => XS.iadd X811.here hx rfl (hb hby own_d6_78) rfl k) ?_
    show own_H T811 79 #[.val (.ref a1), .val (.int (0 : Int32)), .unset, .unset, .unset] [(.int (1 : Int32)), (.ref b2)]
    refine own_via (own_dup2 X811 hx rfl rfl (hb hby own_d6_79)) ?_
    show own_H T811 80 #[.val (.ref a1), .val (.int (0 : Int32)), .unset, .unset, .unset] [(.int (1 : Int32)), (.ref b2), (.int (1 : Int32)), (.ref b2)]
    refine own_via (own_ldS (L := (own_Aig_13 (3 : Int32) t0 h0_ t1 h1_)) X811 hx hZ e811 f114 (j := (1 : Int32)) (own_Hi3_29 t0 h0_ t1 h1_ hp_hr).1 (pc := 80) (Ls := #[.val (.ref a1), .val (.int (0 : Int32)), .unset, .unset, .unset]) (rest := [(.int (1 : Int32)), (.ref b2)]) (hb hby own_d6_80)) ?_
    show own_H T811 81 #[.val (.ref a1), .val (.int (0 : Int32)), .unset, .unset, .unset] [(.int (own_Vi3_30 t0 h0_ t1 h1_)), (.int (1 : Int32)), (.ref b2)]
    refine own_via (fun t k => XS.aloadN X811.here hx rfl (hb hby own_d6_81) rfl rfl k) ?_
    show own_H T811 82 #[.val (.ref a1), .val (.int (0 : Int32)), .unset, .unset, .unset] [(.ref a1), (.int (own_Vi3_30 t0 h0_ t1 h1_)), (.int (1 : Int32)), (.ref b2)]
    obtain ⟨T812, X812, e812, st812⟩ := getF X811 hx hZ hown (host := "") (Or.inl (own_u hw 24 rfl)) Via.refl e811 f112 (g := (mkF m 82 #[.val (.ref a1), .val (.int (0 : Int32)), .unset, .unset, .unset] [(.ref a1), (.int (own_Vi3_30 t0 h0_ t1 h1_)), (.int (1 : Int32)), (.ref b2)])) rfl rfl (hb hby own_d6_82)
    refine own_via st812 ?_
    show own_H T812 85 #[.val (.ref a1), .val (.int (0 : Int32)), .unset, .unset, .unset] [(.ref b2), (.int (own_Vi3_30 t0 h0_ t1 h1_)), (.int (1 : Int32)), (.ref b2)]
    refine own_via (fun t k => XS.iloadN X812.here hx rfl (hb hby own_d6_85) rfl k) ?_
    show own_H T812 86 #[.val (.ref a1), .val (.int (0 : Int32)), .unset, .unset, .unset] [(.int (0 : Int32)), (.ref b2), (.int (own_Vi3_30 t0 h0_ t1 h1_)), (.int (1 : Int32)), (.ref b2)]
    refine own_via (own_ldS (L := (own_Aig_13 (3 : Int32) t0 h0_ t1 h1_)) X812 hx hZ e812 f114 (j := (0 : Int32)) (own_Hi3_31 t0 h0_ t1 h1_ hp_hr).1 (pc := 86) (Ls := #[.val (.ref a1), .val (.int (0 : Int32)), .unset, .unset, .unset]) (rest := [(.int (own_Vi3_30 t0 h0_ t1 h1_)), (.int (1 : Int32)), (.ref b2)]) (hb hby own_d6_86)) ?_
    show own_H T812 87 #[.val (.ref a1), .val (.int (0 : Int32)), .unset, .unset, .unset] [(.int (own_Vi3_32 t0 h0_ t1 h1_)), (.int (own_Vi3_30 t0 h0_ t1 h1_)), (.int (1 : Int32)), (.ref b2)]
    refine own_via (fun t k => XS.iadd X812.here hx rfl (hb hby own_d6_87) rfl k) ?_
    show own_H T812 88 #[.val (.ref a1), .val (.int (0 : Int32)), .unset, .unset, .unset] [(.int ((own_Vi3_30 t0 h0_ t1 h1_) + (own_Vi3_32 t0 h0_ t1 h1_))), (.int (1 : Int32)), (.ref b2)]
    obtain ⟨T813, h813, L813, X813, N813, e813, W813, V813, st813⟩ := own_stS (L := (own_Aig_13 (3 : Int32) t0 h0_ t1 h1_)) X812 N99 hx hZ e812 f114 g_b2 (j := (1 : Int32)) (x := ((own_Vi3_30 t0 h0_ t1 h1_) + (own_Vi3_32 t0 h0_ t1 h1_))) (own_Hi3_29 t0 h0_ t1 h1_ hp_hr) (pc := 88) (Ls := #[.val (.ref a1), .val (.int (0 : Int32)), .unset, .unset, .unset]) (rest := []) (hb hby own_d6_88)
    refine own_via st813 ?_
    have f814 := f100.wr W813
    have f815 := f101.other W813 (Or.inl ne3)
    have f816 := f102.other W813 (Or.inl ne3)
    have f817 := f103.other W813 (Or.inl ne3)
    have f818 := f104.other W813 (Or.inl ne3)
    have f819 := f105.other W813 (Or.inl ne3)
    have f820 := f106.other W813 (Or.inl ne3)
    have f821 := f107.other W813 (Or.inl ne3)
    have f822 := f108.other W813 (Or.inl ne3)
    have f823 := f109.other W813 (Or.inl ne3)
    have f824 := f110.other W813 ne4
    have f825 := f111.other W813 ne5
    have f826 := f112.other W813 (Or.inl ne3)
    have Kp827 := Kp113.wr W813 (Or.inr sz_b2)
    have f828 : Arv Z h813 b2 k2 .int ((3 : Int32) + (1 : Int32)) ((own_Ai3_33 t0 h0_ t1 h1_).map Value.int) (.int (0 : Int32)) := V813
    have Zs829 : n0 ≤ h813.size := by rw [W813.size]; exact Zs115
    show own_H T813 89 #[.val (.ref a1), .val (.int (0 : Int32)), .unset, .unset, .unset] []
    clear f100 f101 f102 f103 f104 f105 f106 f107 f108 f109 f110 f111 f112 f114 Kp113 Zs115
    refine own_via (fun t k => XS.iinc X813.here hx rfl (hb hby own_d6_89) rfl (l' := #[.val (.ref a1), .val (.int (1 : Int32)), .unset, .unset, .unset]) rfl k) ?_
    show own_H T813 92 #[.val (.ref a1), .val (.int (1 : Int32)), .unset, .unset, .unset] []
    refine own_via (fun t k => XS.goto X813.here hx rfl (pc0 := 92) (pc' := 64) rfl (hb hby own_d6_92) (by decide) (by decide) k) ?_
    refine own_via (fun t k => XS.iloadN X813.here hx rfl (hb hby own_d6_64) rfl k) ?_
    refine own_via (fun t k => XS.aloadN X813.here hx rfl (hb hby own_d6_65) rfl rfl k) ?_
    show own_H T813 66 #[.val (.ref a1), .val (.int (1 : Int32)), .unset, .unset, .unset] [(.ref a1), (.int (1 : Int32))]
    obtain ⟨T830, X830, e830, st830⟩ := getF X813 hx hZ hown (host := "") (Or.inl (own_u hw 17 rfl)) Via.refl e813 f818 (g := (mkF m 66 #[.val (.ref a1), .val (.int (1 : Int32)), .unset, .unset, .unset] [(.ref a1), (.int (1 : Int32))])) rfl rfl (hb hby own_d6_66)
    refine own_via st830 ?_
    show own_H T830 69 #[.val (.ref a1), .val (.int (1 : Int32)), .unset, .unset, .unset] [(.int (3 : Int32)), (.int (1 : Int32))]
    refine own_via (fun t k => XS.icmpNo X830.here hx rfl (hb hby own_d6_69) rfl (tlt (by decide : (1 : Int32) < (3 : Int32))).2.1 k) ?_
    show own_H T830 72 #[.val (.ref a1), .val (.int (1 : Int32)), .unset, .unset, .unset] []
    refine own_via (fun t k => XS.aloadN X830.here hx rfl (hb hby own_d6_72) rfl rfl k) ?_
    show own_H T830 73 #[.val (.ref a1), .val (.int (1 : Int32)), .unset, .unset, .unset] [(.ref a1)]
    obtain ⟨T831, X831, e831, st831⟩ := getF X830 hx hZ hown (host := "") (Or.inl (own_u hw 24 rfl)) Via.refl e830 f826 (g := (mkF m 73 #[.val (.ref a1), .val (.int (1 : Int32)), .unset, .unset, .unset] [(.ref a1)])) rfl rfl (hb hby own_d6_73)
    refine own_via st831 ?_
    show own_H T831 76 #[.val (.ref a1), .val (.int (1 : Int32)), .unset, .unset, .unset] [(.ref b2)]
    refine own_via (fun t k => XS.iloadN X831.here hx rfl (hb hby own_d6_76) rfl k) ?_
    refine own_via (fun t k => XS.iconst X831.here hx rfl (hb hby own_d6_77) k) ?_
    show own_H T831 78 #[.val (.ref a1), .val (.int (1 : Int32)), .unset, .unset, .unset] [(.int (1 : Int32)), (.int (1 : Int32)), (.ref b2)]
    refine own_via (fun t k => XS.iadd X831.here hx rfl (hb hby own_d6_78) rfl k) ?_
    show own_H T831 79 #[.val (.ref a1), .val (.int (1 : Int32)), .unset, .unset, .unset] [(.int (2 : Int32)), (.ref b2)]
    refine own_via (own_dup2 X831 hx rfl rfl (hb hby own_d6_79)) ?_
    show own_H T831 80 #[.val (.ref a1), .val (.int (1 : Int32)), .unset, .unset, .unset] [(.int (2 : Int32)), (.ref b2), (.int (2 : Int32)), (.ref b2)]
    refine own_via (own_ldS (L := (own_Ai3_33 t0 h0_ t1 h1_)) X831 hx hZ e831 f828 (j := (2 : Int32)) (own_Hi3_34 t0 h0_ t1 h1_ hp_hr).1 (pc := 80) (Ls := #[.val (.ref a1), .val (.int (1 : Int32)), .unset, .unset, .unset]) (rest := [(.int (2 : Int32)), (.ref b2)]) (hb hby own_d6_80)) ?_
    show own_H T831 81 #[.val (.ref a1), .val (.int (1 : Int32)), .unset, .unset, .unset] [(.int (own_Vi3_35 t0 h0_ t1 h1_)), (.int (2 : Int32)), (.ref b2)]
    refine own_via (fun t k => XS.aloadN X831.here hx rfl (hb hby own_d6_81) rfl rfl k) ?_
    show own_H T831 82 #[.val (.ref a1), .val (.int (1 : Int32)), .unset, .unset, .unset] [(.ref a1), (.int (own_Vi3_35 t0 h0_ t1 h1_)), (.int (2 : Int32)), (.ref b2)]
    obtain ⟨T832, X832, e832, st832⟩ := getF X831 hx hZ hown (host := "") (Or.inl (own_u hw 24 rfl)) Via.refl e831 f826 (g := (mkF m 82 #[.val (.ref a1), .val (.int (1 : Int32)), .unset, .unset, .unset] [(.ref a1), (.int (own_Vi3_35 t0 h0_ t1 h1_)), (.int (2 : Int32)), (.ref b2)])) rfl rfl (hb hby own_d6_82)
    refine own_via st832 ?_
    show own_H T832 85 #[.val (.ref a1), .val (.int (1 : Int32)), .unset, .unset, .unset] [(.ref b2), (.int (own_Vi3_35 t0 h0_ t1 h1_)), (.int (2 : Int32)), (.ref b2)]
    refine own_via (fun t k => XS.iloadN X832.here hx rfl (hb hby own_d6_85) rfl k) ?_
    show own_H T832 86 #[.val (.ref a1), .val (.int (1 : Int32)), .unset, .unset, .unset] [(.int (1 : Int32)), (.ref b2), (.int (own_Vi3_35 t0 h0_ t1 h1_)), (.int (2 : Int32)), (.ref b2)]
    refine own_via (own_ldS (L := (own_Ai3_33 t0 h0_ t1 h1_)) X832 hx hZ e832 f828 (j := (1 : Int32)) (own_Hi3_36 t0 h0_ t1 h1_ hp_hr).1 (pc := 86) (Ls := #[.val (.ref a1), .val (.int (1 : Int32)), .unset, .unset, .unset]) (rest := [(.int (own_Vi3_35 t0 h0_ t1 h1_)), (.int (2 : Int32)), (.ref b2)]) (hb hby own_d6_86)) ?_
    show own_H T832 87 #[.val (.ref a1), .val (.int (1 : Int32)), .unset, .unset, .unset] [(.int (own_Vi3_37 t0 h0_ t1 h1_)), (.int (own_Vi3_35 t0 h0_ t1 h1_)), (.int (2 : Int32)), (.ref b2)]
    refine own_via (fun t k => XS.iadd X832.here hx rfl (hb hby own_d6_87) rfl k) ?_
    show own_H T832 88 #[.val (.ref a1), .val (.int (1 : Int32)), .unset, .unset, .unset] [(.int ((own_Vi3_35 t0 h0_ t1 h1_) + (own_Vi3_37 t0 h0_ t1 h1_))), (.int (2 : Int32)), (.ref b2)]
    obtain ⟨T833, h833, L833, X833, N833, e833, W833, V833, st833⟩ := own_stS (L := (own_Ai3_33 t0 h0_ t1 h1_)) X832 N813 hx hZ e832 f828 g_b2 (j := (2 : Int32)) (x := ((own_Vi3_35 t0 h0_ t1 h1_) + (own_Vi3_37 t0 h0_ t1 h1_))) (own_Hi3_34 t0 h0_ t1 h1_ hp_hr) (pc := 88) (Ls := #[.val (.ref a1), .val (.int (1 : Int32)), .unset, .unset, .unset]) (rest := []) (hb hby own_d6_88)
    refine own_via st833 ?_
    have f834 := f814.wr W833
    have f835 := f815.other W833 (Or.inl ne3)
    have f836 := f816.other W833 (Or.inl ne3)
    have f837 := f817.other W833 (Or.inl ne3)
    have f838 := f818.other W833 (Or.inl ne3)
    have f839 := f819.other W833 (Or.inl ne3)
    have f840 := f820.other W833 (Or.inl ne3)
    have f841 := f821.other W833 (Or.inl ne3)
    have f842 := f822.other W833 (Or.inl ne3)
    have f843 := f823.other W833 (Or.inl ne3)
    have f844 := f824.other W833 ne4
    have f845 := f825.other W833 ne5
    have f846 := f826.other W833 (Or.inl ne3)
    have Kp847 := Kp827.wr W833 (Or.inr sz_b2)
    have f848 : Arv Z h833 b2 k2 .int ((3 : Int32) + (1 : Int32)) ((own_Ai3_38 t0 h0_ t1 h1_).map Value.int) (.int (0 : Int32)) := V833
    have Zs849 : n0 ≤ h833.size := by rw [W833.size]; exact Zs829
    show own_H T833 89 #[.val (.ref a1), .val (.int (1 : Int32)), .unset, .unset, .unset] []
    clear f814 f815 f816 f817 f818 f819 f820 f821 f822 f823 f824 f825 f826 f828 Kp827 Zs829
    refine own_via (fun t k => XS.iinc X833.here hx rfl (hb hby own_d6_89) rfl (l' := #[.val (.ref a1), .val (.int (2 : Int32)), .unset, .unset, .unset]) rfl k) ?_
    show own_H T833 92 #[.val (.ref a1), .val (.int (2 : Int32)), .unset, .unset, .unset] []
    refine own_via (fun t k => XS.goto X833.here hx rfl (pc0 := 92) (pc' := 64) rfl (hb hby own_d6_92) (by decide) (by decide) k) ?_
    refine own_via (fun t k => XS.iloadN X833.here hx rfl (hb hby own_d6_64) rfl k) ?_
    refine own_via (fun t k => XS.aloadN X833.here hx rfl (hb hby own_d6_65) rfl rfl k) ?_
    show own_H T833 66 #[.val (.ref a1), .val (.int (2 : Int32)), .unset, .unset, .unset] [(.ref a1), (.int (2 : Int32))]
    obtain ⟨T850, X850, e850, st850⟩ := getF X833 hx hZ hown (host := "") (Or.inl (own_u hw 17 rfl)) Via.refl e833 f838 (g := (mkF m 66 #[.val (.ref a1), .val (.int (2 : Int32)), .unset, .unset, .unset] [(.ref a1), (.int (2 : Int32))])) rfl rfl (hb hby own_d6_66)
    refine own_via st850 ?_
    show own_H T850 69 #[.val (.ref a1), .val (.int (2 : Int32)), .unset, .unset, .unset] [(.int (3 : Int32)), (.int (2 : Int32))]
    refine own_via (fun t k => XS.icmpNo X850.here hx rfl (hb hby own_d6_69) rfl (tlt (by decide : (2 : Int32) < (3 : Int32))).2.1 k) ?_
    show own_H T850 72 #[.val (.ref a1), .val (.int (2 : Int32)), .unset, .unset, .unset] []
    refine own_via (fun t k => XS.aloadN X850.here hx rfl (hb hby own_d6_72) rfl rfl k) ?_
    show own_H T850 73 #[.val (.ref a1), .val (.int (2 : Int32)), .unset, .unset, .unset] [(.ref a1)]
    obtain ⟨T851, X851, e851, st851⟩ := getF X850 hx hZ hown (host := "") (Or.inl (own_u hw 24 rfl)) Via.refl e850 f846 (g := (mkF m 73 #[.val (.ref a1), .val (.int (2 : Int32)), .unset, .unset, .unset] [(.ref a1)])) rfl rfl (hb hby own_d6_73)
    refine own_via st851 ?_
    show own_H T851 76 #[.val (.ref a1), .val (.int (2 : Int32)), .unset, .unset, .unset] [(.ref b2)]
    refine own_via (fun t k => XS.iloadN X851.here hx rfl (hb hby own_d6_76) rfl k) ?_
    refine own_via (fun t k => XS.iconst X851.here hx rfl (hb hby own_d6_77) k) ?_
    show own_H T851 78 #[.val (.ref a1), .val (.int (2 : Int32)), .unset, .unset, .unset] [(.int (1 : Int32)), (.int (2 : Int32)), (.ref b2)]
    refine own_via (fun t k => XS.iadd X851.here hx rfl (hb hby own_d6_78) rfl k) ?_
    show own_H T851 79 #[.val (.ref a1), .val (.int (2 : Int32)), .unset, .unset, .unset] [(.int (3 : Int32)), (.ref b2)]
    refine own_via (own_dup2 X851 hx rfl rfl (hb hby own_d6_79)) ?_
    show own_H T851 80 #[.val (.ref a1), .val (.int (2 : Int32)), .unset, .unset, .unset] [(.int (3 : Int32)), (.ref b2), (.int (3 : Int32)), (.ref b2)]
    refine own_via (own_ldS (L := (own_Ai3_38 t0 h0_ t1 h1_)) X851 hx hZ e851 f848 (j := (3 : Int32)) (own_Hi3_39 t0 h0_ t1 h1_ hp_hr).1 (pc := 80) (Ls := #[.val (.ref a1), .val (.int (2 : Int32)), .unset, .unset, .unset]) (rest := [(.int (3 : Int32)), (.ref b2)]) (hb hby own_d6_80)) ?_
    show own_H T851 81 #[.val (.ref a1), .val (.int (2 : Int32)), .unset, .unset, .unset] [(.int (own_Vi3_40 t0 h0_ t1 h1_)), (.int (3 : Int32)), (.ref b2)]
    refine own_via (fun t k => XS.aloadN X851.here hx rfl (hb hby own_d6_81) rfl rfl k) ?_
    show own_H T851 82 #[.val (.ref a1), .val (.int (2 : Int32)), .unset, .unset, .unset] [(.ref a1), (.int (own_Vi3_40 t0 h0_ t1 h1_)), (.int (3 : Int32)), (.ref b2)]
    obtain ⟨T852, X852, e852, st852⟩ := getF X851 hx hZ hown (host := "") (Or.inl (own_u hw 24 rfl)) Via.refl e851 f846 (g := (mkF m 82 #[.val (.ref a1), .val (.int (2 : Int32)), .unset, .unset, .unset] [(.ref a1), (.int (own_Vi3_40 t0 h0_ t1 h1_)), (.int (3 : Int32)), (.ref b2)])) rfl rfl (hb hby own_d6_82)
    refine own_via st852 ?_
    show own_H T852 85 #[.val (.ref a1), .val (.int (2 : Int32)), .unset, .unset, .unset] [(.ref b2), (.int (own_Vi3_40 t0 h0_ t1 h1_)), (.int (3 : Int32)), (.ref b2)]
    refine own_via (fun t k => XS.iloadN X852.here hx rfl (hb hby own_d6_85) rfl k) ?_
    show own_H T852 86 #[.val (.ref a1), .val (.int (2 : Int32)), .unset, .unset, .unset] [(.int (2 : Int32)), (.ref b2), (.int (own_Vi3_40 t0 h0_ t1 h1_)), (.int (3 : Int32)), (.ref b2)]
    refine own_via (own_ldS (L := (own_Ai3_38 t0 h0_ t1 h1_)) X852 hx hZ e852 f848 (j := (2 : Int32)) (own_Hi3_41 t0 h0_ t1 h1_ hp_hr).1 (pc := 86) (Ls := #[.val (.ref a1), .val (.int (2 : Int32)), .unset, .unset, .unset]) (rest := [(.int (own_Vi3_40 t0 h0_ t1 h1_)), (.int (3 : Int32)), (.ref b2)]) (hb hby own_d6_86)) ?_
    show own_H T852 87 #[.val (.ref a1), .val (.int (2 : Int32)), .unset, .unset, .unset] [(.int (own_Vi3_42 t0 h0_ t1 h1_)), (.int (own_Vi3_40 t0 h0_ t1 h1_)), (.int (3 : Int32)), (.ref b2)]
    refine own_via (fun t k => XS.iadd X852.here hx rfl (hb hby own_d6_87) rfl k) ?_
    show own_H T852 88 #[.val (.ref a1), .val (.int (2 : Int32)), .unset, .unset, .unset] [(.int ((own_Vi3_40 t0 h0_ t1 h1_) + (own_Vi3_42 t0 h0_ t1 h1_))), (.int (3 : Int32)), (.ref b2)]
    obtain ⟨T853, h853, L853, X853, N853, e853, W853, V853, st853⟩ := own_stS (L := (own_Ai3_38 t0 h0_ t1 h1_)) X852 N833 hx hZ e852 f848 g_b2 (j := (3 : Int32)) (x := ((own_Vi3_40 t0 h0_ t1 h1_) + (own_Vi3_42 t0 h0_ t1 h1_))) (own_Hi3_39 t0 h0_ t1 h1_ hp_hr) (pc := 88) (Ls := #[.val (.ref a1), .val (.int (2 : Int32)), .unset, .unset, .unset]) (rest := []) (hb hby own_d6_88)
    refine own_via st853 ?_
    have f854 := f834.wr W853
    have f855 := f835.other W853 (Or.inl ne3)
    have f856 := f836.other W853 (Or.inl ne3)
    have f857 := f837.other W853 (Or.inl ne3)
    have f858 := f838.other W853 (Or.inl ne3)
    have f859 := f839.other W853 (Or.inl ne3)
    have f860 := f840.other W853 (Or.inl ne3)
    have f861 := f841.other W853 (Or.inl ne3)
    have f862 := f842.other W853 (Or.inl ne3)
    have f863 := f843.other W853 (Or.inl ne3)
    have f864 := f844.other W853 ne4
    have f865 := f845.other W853 ne5
    have f866 := f846.other W853 (Or.inl ne3)
    have Kp867 := Kp847.wr W853 (Or.inr sz_b2)
    have f868 : Arv Z h853 b2 k2 .int ((3 : Int32) + (1 : Int32)) ((own_Ai3_43 t0 h0_ t1 h1_).map Value.int) (.int (0 : Int32)) := V853
    have Zs869 : n0 ≤ h853.size := by rw [W853.size]; exact Zs849
    show own_H T853 89 #[.val (.ref a1), .val (.int (2 : Int32)), .unset, .unset, .unset] []
    clear f834 f835 f836 f837 f838 f839 f840 f841 f842 f843 f844 f845 f846 f848 Kp847 Zs849
    refine own_via (fun t k => XS.iinc X853.here hx rfl (hb hby own_d6_89) rfl (l' := #[.val (.ref a1), .val (.int (3 : Int32)), .unset, .unset, .unset]) rfl k) ?_
    show own_H T853 92 #[.val (.ref a1), .val (.int (3 : Int32)), .unset, .unset, .unset] []
    refine own_via (fun t k => XS.goto X853.here hx rfl (pc0 := 92) (pc' := 64) rfl (hb hby own_d6_92) (by decide) (by decide) k) ?_
    refine own_via (fun t k => XS.iloadN X853.here hx rfl (hb hby own_d6_64) rfl k) ?_
    refine own_via (fun t k => XS.aloadN X853.here hx rfl (hb hby own_d6_65) rfl rfl k) ?_
    show own_H T853 66 #[.val (.ref a1), .val (.int (3 : Int32)), .unset, .unset, .unset] [(.ref a1), (.int (3 : Int32))]
    obtain ⟨T870, X870, e870, st870⟩ := getF X853 hx hZ hown (host := "") (Or.inl (own_u hw 17 rfl)) Via.refl e853 f858 (g := (mkF m 66 #[.val (.ref a1), .val (.int (3 : Int32)), .unset, .unset, .unset] [(.ref a1), (.int (3 : Int32))])) rfl rfl (hb hby own_d6_66)
    refine own_via st870 ?_
    show own_H T870 69 #[.val (.ref a1), .val (.int (3 : Int32)), .unset, .unset, .unset] [(.int (3 : Int32)), (.int (3 : Int32))]
    refine own_via (fun t k => XS.icmpYes X870.here hx rfl (pc0 := 69) (pc' := 95) rfl (hb hby own_d6_69) rfl (flt (by decide : ¬ ((3 : Int32) < (3 : Int32)))).2.1 (by decide) (by decide) k) ?_
    show own_H T870 95 #[.val (.ref a1), .val (.int (3 : Int32)), .unset, .unset, .unset] []
    exact J117 _ _ _ X870 N853 e870 Kp867 Zs869 f854 f855 f856 f857 f858 f859 f860 f861 f862 f863 f864 f865 f866 f868
  ·
    show own_H T116 62 #[.val (.ref a1), .val (.int (2 : Int32)), .unset, .unset, .unset] []
    refine own_via (fun t k => XS.iconst X116.here hx rfl (hb hby own_d6_62) k) ?_
    show own_H T116 63 #[.val (.ref a1), .val (.int (2 : Int32)), .unset, .unset, .unset] [(.int (0 : Int32))]
    refine own_via (fun t k => XS.istoreN X116.here hx rfl (hb hby own_d6_63) rfl (l' := #[.val (.ref a1), .val (.int (0 : Int32)), .unset, .unset, .unset]) rfl k) ?_
    refine own_via (fun t k => XS.iloadN X116.here hx rfl (hb hby own_d6_64) rfl k) ?_
    refine own_via (fun t k => XS.aloadN X116.here hx rfl (hb hby own_d6_65) rfl rfl k) ?_
    show own_H T116 66 #[.val (.ref a1), .val (.int (0 : Int32)), .unset, .unset, .unset] [(.ref a1), (.int (0 : Int32))]
    obtain ⟨T871, X871, e871, st871⟩ := getF X116 hx hZ hown (host := "") (Or.inl (own_u hw 17 rfl)) Via.refl e116 f104 (g := (mkF m 66 #[.val (.ref a1), .val (.int (0 : Int32)), .unset, .unset, .unset] [(.ref a1), (.int (0 : Int32))])) rfl rfl (hb hby own_d6_66)
    refine own_via st871 ?_
    show own_H T871 69 #[.val (.ref a1), .val (.int (0 : Int32)), .unset, .unset, .unset] [(.int (4 : Int32)), (.int (0 : Int32))]
    refine own_via (fun t k => XS.icmpNo X871.here hx rfl (hb hby own_d6_69) rfl (tlt (by decide : (0 : Int32) < (4 : Int32))).2.1 k) ?_
    show own_H T871 72 #[.val (.ref a1), .val (.int (0 : Int32)), .unset, .unset, .unset] []
    refine own_via (fun t k => XS.aloadN X871.here hx rfl (hb hby own_d6_72) rfl rfl k) ?_
    show own_H T871 73 #[.val (.ref a1), .val (.int (0 : Int32)), .unset, .unset, .unset] [(.ref a1)]
    obtain ⟨T872, X872, e872, st872⟩ := getF X871 hx hZ hown (host := "") (Or.inl (own_u hw 24 rfl)) Via.refl e871 f112 (g := (mkF m 73 #[.val (.ref a1), .val (.int (0 : Int32)), .unset, .unset, .unset] [(.ref a1)])) rfl rfl (hb hby own_d6_73)
    refine own_via st872 ?_
    show own_H T872 76 #[.val (.ref a1), .val (.int (0 : Int32)), .unset, .unset, .unset] [(.ref b2)]
    refine own_via (fun t k => XS.iloadN X872.here hx rfl (hb hby own_d6_76) rfl k) ?_
    refine own_via (fun t k => XS.iconst X872.here hx rfl (hb hby own_d6_77) k) ?_
    show own_H T872 78 #[.val (.ref a1), .val (.int (0 : Int32)), .unset, .unset, .unset] [(.int (1 : Int32)), (.int (0 : Int32)), (.ref b2)]
    refine own_via (fun t k => XS.iadd X872.here hx rfl (hb hby own_d6_78) rfl k) ?_
    show own_H T872 79 #[.val (.ref a1), .val (.int (0 : Int32)), .unset, .unset, .unset] [(.int (1 : Int32)), (.ref b2)]
    refine own_via (own_dup2 X872 hx rfl rfl (hb hby own_d6_79)) ?_
    show own_H T872 80 #[.val (.ref a1), .val (.int (0 : Int32)), .unset, .unset, .unset] [(.int (1 : Int32)), (.ref b2), (.int (1 : Int32)), (.ref b2)]
    refine own_via (own_ldS (L := (own_Aig_13 (4 : Int32) t0 h0_ t1 h1_)) X872 hx hZ e872 f114 (j := (1 : Int32)) (own_Hi4_44 t0 h0_ t1 h1_ hp_hr).1 (pc := 80) (Ls := #[.val (.ref a1), .val (.int (0 : Int32)), .unset, .unset, .unset]) (rest := [(.int (1 : Int32)), (.ref b2)]) (hb hby own_d6_80)) ?_
    show own_H T872 81 #[.val (.ref a1), .val (.int (0 : Int32)), .unset, .unset, .unset] [(.int (own_Vi4_45 t0 h0_ t1 h1_)), (.int (1 : Int32)), (.ref b2)]
    refine own_via (fun t k => XS.aloadN X872.here hx rfl (hb hby own_d6_81) rfl rfl k) ?_
    show own_H T872 82 #[.val (.ref a1), .val (.int (0 : Int32)), .unset, .unset, .unset] [(.ref a1), (.int (own_Vi4_45 t0 h0_ t1 h1_)), (.int (1 : Int32)), (.ref b2)]
    obtain ⟨T873, X873, e873, st873⟩ := getF X872 hx hZ hown (host := "") (Or.inl (own_u hw 24 rfl)) Via.refl e872 f112 (g := (mkF m 82 #[.val (.ref a1), .val (.int (0 : Int32)), .unset, .unset, .unset] [(.ref a1), (.int (own_Vi4_45 t0 h0_ t1 h1_)), (.int (1 : Int32)), (.ref b2)])) rfl rfl (hb hby own_d6_82)
    refine own_via st873 ?_
    show own_H T873 85 #[.val (.ref a1), .val (.int (0 : Int32)), .unset, .unset, .unset] [(.ref b2), (.int (own_Vi4_45 t0 h0_ t1 h1_)), (.int (1 : Int32)), (.ref b2)]
    refine own_via (fun t k => XS.iloadN X873.here hx rfl (hb hby own_d6_85) rfl k) ?_
    show own_H T873 86 #[.val (.ref a1), .val (.int (0 : Int32)), .unset, .unset, .unset] [(.int (0 : Int32)), (.ref b2), (.int (own_Vi4_45 t0 h0_ t1 h1_)), (.int (1 : Int32)), (.ref b2)]
    refine own_via (own_ldS (L := (own_Aig_13 (4 : Int32) t0 h0_ t1 h1_)) X873 hx hZ e873 f114 (j := (0 : Int32)) (own_Hi4_46 t0 h0_ t1 h1_ hp_hr).1 (pc := 86) (Ls := #[.val (.ref a1), .val (.int (0 : Int32)), .unset, .unset, .unset]) (rest := [(.int (own_Vi4_45 t0 h0_ t1 h1_)), (.int (1 : Int32)), (.ref b2)]) (hb hby own_d6_86)) ?_
    show own_H T873 87 #[.val (.ref a1), .val (.int (0 : Int32)), .unset, .unset, .unset] [(.int (own_Vi4_47 t0 h0_ t1 h1_)), (.int (own_Vi4_45 t0 h0_ t1 h1_)), (.int (1 : Int32)), (.ref b2)]
    refine own_via (fun t k => XS.iadd X873.here hx rfl (hb hby own_d6_87) rfl k) ?_
    show own_H T873 88 #[.val (.ref a1), .val (.int (0 : Int32)), .unset, .unset, .unset] [(.int ((own_Vi4_45 t0 h0_ t1 h1_) + (own_Vi4_47 t0 h0_ t1 h1_))), (.int (1 : Int32)), (.ref b2)]
    obtain ⟨T874, h874, L874, X874, N874, e874, W874, V874, st874⟩ := own_stS (L := (own_Aig_13 (4 : Int32) t0 h0_ t1 h1_)) X873 N99 hx hZ e873 f114 g_b2 (j := (1 : Int32)) (x := ((own_Vi4_45 t0 h0_ t1 h1_) + (own_Vi4_47 t0 h0_ t1 h1_))) (own_Hi4_44 t0 h0_ t1 h1_ hp_hr) (pc := 88) (Ls := #[.val (.ref a1), .val (.int (0 : Int32)), .unset, .unset, .unset]) (rest := []) (hb hby own_d6_88)
    refine own_via st874 ?_
    have f875 := f100.wr W874
    have f876 := f101.other W874 (Or.inl ne3)
    have f877 := f102.other W874 (Or.inl ne3)
    have f878 := f103.other W874 (Or.inl ne3)
    have f879 := f104.other W874 (Or.inl ne3)
    have f880 := f105.other W874 (Or.inl ne3)
    have f881 := f106.other W874 (Or.inl ne3)
    have f882 := f107.other W874 (Or.inl ne3)
    have f883 := f108.other W874 (Or.inl ne3)
    have f884 := f109.other W874 (Or.inl ne3)
    have f885 := f110.other W874 ne4
    have f886 := f111.other W874 ne5
    have f887 := f112.other W874 (Or.inl ne3)
    have Kp888 := Kp113.wr W874 (Or.inr sz_b2)
    have f889 : Arv Z h874 b2 k2 .int ((4 : Int32) + (1 : Int32)) ((own_Ai4_48 t0 h0_ t1 h1_).map Value.int) (.int (0 : Int32)) := V874
    have Zs890 : n0 ≤ h874.size := by rw [W874.size]; exact Zs115
    show own_H T874 89 #[.val (.ref a1), .val (.int (0 : Int32)), .unset, .unset, .unset] []
    clear f100 f101 f102 f103 f104 f105 f106 f107 f108 f109 f110 f111 f112 f114 Kp113 Zs115
    refine own_via (fun t k => XS.iinc X874.here hx rfl (hb hby own_d6_89) rfl (l' := #[.val (.ref a1), .val (.int (1 : Int32)), .unset, .unset, .unset]) rfl k) ?_
    show own_H T874 92 #[.val (.ref a1), .val (.int (1 : Int32)), .unset, .unset, .unset] []
    refine own_via (fun t k => XS.goto X874.here hx rfl (pc0 := 92) (pc' := 64) rfl (hb hby own_d6_92) (by decide) (by decide) k) ?_
    refine own_via (fun t k => XS.iloadN X874.here hx rfl (hb hby own_d6_64) rfl k) ?_
    refine own_via (fun t k => XS.aloadN X874.here hx rfl (hb hby own_d6_65) rfl rfl k) ?_
    show own_H T874 66 #[.val (.ref a1), .val (.int (1 : Int32)), .unset, .unset, .unset] [(.ref a1), (.int (1 : Int32))]
    obtain ⟨T891, X891, e891, st891⟩ := getF X874 hx hZ hown (host := "") (Or.inl (own_u hw 17 rfl)) Via.refl e874 f879 (g := (mkF m 66 #[.val (.ref a1), .val (.int (1 : Int32)), .unset, .unset, .unset] [(.ref a1), (.int (1 : Int32))])) rfl rfl (hb hby own_d6_66)
    refine own_via st891 ?_
    show own_H T891 69 #[.val (.ref a1), .val (.int (1 : Int32)), .unset, .unset, .unset] [(.int (4 : Int32)), (.int (1 : Int32))]
    refine own_via (fun t k => XS.icmpNo X891.here hx rfl (hb hby own_d6_69) rfl (tlt (by decide : (1 : Int32) < (4 : Int32))).2.1 k) ?_
    show own_H T891 72 #[.val (.ref a1), .val (.int (1 : Int32)), .unset, .unset, .unset] []
    refine own_via (fun t k => XS.aloadN X891.here hx rfl (hb hby own_d6_72) rfl rfl k) ?_
    show own_H T891 73 #[.val (.ref a1), .val (.int (1 : Int32)), .unset, .unset, .unset] [(.ref a1)]
    obtain ⟨T892, X892, e892, st892⟩ := getF X891 hx hZ hown (host := "") (Or.inl (own_u hw 24 rfl)) Via.refl e891 f887 (g := (mkF m 73 #[.val (.ref a1), .val (.int (1 : Int32)), .unset, .unset, .unset] [(.ref a1)])) rfl rfl (hb hby own_d6_73)
    refine own_via st892 ?_
    show own_H T892 76 #[.val (.ref a1), .val (.int (1 : Int32)), .unset, .unset, .unset] [(.ref b2)]
    refine own_via (fun t k => XS.iloadN X892.here hx rfl (hb hby own_d6_76) rfl k) ?_
    refine own_via (fun t k => XS.iconst X892.here hx rfl (hb hby own_d6_77) k) ?_
    show own_H T892 78 #[.val (.ref a1), .val (.int (1 : Int32)), .unset, .unset, .unset] [(.int (1 : Int32)), (.int (1 : Int32)), (.ref b2)]
    refine own_via (fun t k => XS.iadd X892.here hx rfl (hb hby own_d6_78) rfl k) ?_
    show own_H T892 79 #[.val (.ref a1), .val (.int (1 : Int32)), .unset, .unset, .unset] [(.int (2 : Int32)), (.ref b2)]
    refine own_via (own_dup2 X892 hx rfl rfl (hb hby own_d6_79)) ?_
    show own_H T892 80 #[.val (.ref a1), .val (.int (1 : Int32)), .unset, .unset, .unset] [(.int (2 : Int32)), (.ref b2), (.int (2 : Int32)), (.ref b2)]
    refine own_via (own_ldS (L := (own_Ai4_48 t0 h0_ t1 h1_)) X892 hx hZ e892 f889 (j := (2 : Int32)) (own_Hi4_49 t0 h0_ t1 h1_ hp_hr).1 (pc := 80) (Ls := #[.val (.ref a1), .val (.int (1 : Int32)), .unset, .unset, .unset]) (rest := [(.int (2 : Int32)), (.ref b2)]) (hb hby own_d6_80)) ?_
    show own_H T892 81 #[.val (.ref a1), .val (.int (1 : Int32)), .unset, .unset, .unset] [(.int (own_Vi4_50 t0 h0_ t1 h1_)), (.int (2 : Int32)), (.ref b2)]
    refine own_via (fun t k => XS.aloadN X892.here hx rfl (hb hby own_d6_81) rfl rfl k) ?_
    show own_H T892 82 #[.val (.ref a1), .val (.int (1 : Int32)), .unset, .unset, .unset] [(.ref a1), (.int (own_Vi4_50 t0 h0_ t1 h1_)), (.int (2 : Int32)), (.ref b2)]
    obtain ⟨T893, X893, e893, st893⟩ := getF X892 hx hZ hown (host := "") (Or.inl (own_u hw 24 rfl)) Via.refl e892 f887 (g := (mkF m 82 #[.val (.ref a1), .val (.int (1 : Int32)), .unset, .unset, .unset] [(.ref a1), (.int (own_Vi4_50 t0 h0_ t1 h1_)), (.int (2 : Int32)), (.ref b2)])) rfl rfl (hb hby own_d6_82)
    refine own_via st893 ?_
    show own_H T893 85 #[.val (.ref a1), .val (.int (1 : Int32)), .unset, .unset, .unset] [(.ref b2), (.int (own_Vi4_50 t0 h0_ t1 h1_)), (.int (2 : Int32)), (.ref b2)]
    refine own_via (fun t k => XS.iloadN X893.here hx rfl (hb hby own_d6_85) rfl k) ?_
    show own_H T893 86 #[.val (.ref a1), .val (.int (1 : Int32)), .unset, .unset, .unset] [(.int (1 : Int32)), (.ref b2), (.int (own_Vi4_50 t0 h0_ t1 h1_)), (.int (2 : Int32)), (.ref b2)]
    refine own_via (own_ldS (L := (own_Ai4_48 t0 h0_ t1 h1_)) X893 hx hZ e893 f889 (j := (1 : Int32)) (own_Hi4_51 t0 h0_ t1 h1_ hp_hr).1 (pc := 86) (Ls := #[.val (.ref a1), .val (.int (1 : Int32)), .unset, .unset, .unset]) (rest := [(.int (own_Vi4_50 t0 h0_ t1 h1_)), (.int (2 : Int32)), (.ref b2)]) (hb hby own_d6_86)) ?_
    show own_H T893 87 #[.val (.ref a1), .val (.int (1 : Int32)), .unset, .unset, .unset] [(.int (own_Vi4_52 t0 h0_ t1 h1_)), (.int (own_Vi4_50 t0 h0_ t1 h1_)), (.int (2 : Int32)), (.ref b2)]
    refine own_via (fun t k => XS.iadd X893.here hx rfl (hb hby own_d6_87) rfl k) ?_
    show own_H T893 88 #[.val (.ref a1), .val (.int (1 : Int32)), .unset, .unset, .unset] [(.int ((own_Vi4_50 t0 h0_ t1 h1_) + (own_Vi4_52 t0 h0_ t1 h1_))), (.int (2 : Int32)), (.ref b2)]
    obtain ⟨T894, h894, L894, X894, N894, e894, W894, V894, st894⟩ := own_stS (L := (own_Ai4_48 t0 h0_ t1 h1_)) X893 N874 hx hZ e893 f889 g_b2 (j := (2 : Int32)) (x := ((own_Vi4_50 t0 h0_ t1 h1_) + (own_Vi4_52 t0 h0_ t1 h1_))) (own_Hi4_49 t0 h0_ t1 h1_ hp_hr) (pc := 88) (Ls := #[.val (.ref a1), .val (.int (1 : Int32)), .unset, .unset, .unset]) (rest := []) (hb hby own_d6_88)
    refine own_via st894 ?_
    have f895 := f875.wr W894
    have f896 := f876.other W894 (Or.inl ne3)
    have f897 := f877.other W894 (Or.inl ne3)
    have f898 := f878.other W894 (Or.inl ne3)
    have f899 := f879.other W894 (Or.inl ne3)
    have f900 := f880.other W894 (Or.inl ne3)
    have f901 := f881.other W894 (Or.inl ne3)
    have f902 := f882.other W894 (Or.inl ne3)
    have f903 := f883.other W894 (Or.inl ne3)
    have f904 := f884.other W894 (Or.inl ne3)
    have f905 := f885.other W894 ne4
    have f906 := f886.other W894 ne5
    have f907 := f887.other W894 (Or.inl ne3)
    have Kp908 := Kp888.wr W894 (Or.inr sz_b2)
    have f909 : Arv Z h894 b2 k2 .int ((4 : Int32) + (1 : Int32)) ((own_Ai4_53 t0 h0_ t1 h1_).map Value.int) (.int (0 : Int32)) := V894
    have Zs910 : n0 ≤ h894.size := by rw [W894.size]; exact Zs890
    show own_H T894 89 #[.val (.ref a1), .val (.int (1 : Int32)), .unset, .unset, .unset] []
    clear f875 f876 f877 f878 f879 f880 f881 f882 f883 f884 f885 f886 f887 f889 Kp888 Zs890
    refine own_via (fun t k => XS.iinc X894.here hx rfl (hb hby own_d6_89) rfl (l' := #[.val (.ref a1), .val (.int (2 : Int32)), .unset, .unset, .unset]) rfl k) ?_
    show own_H T894 92 #[.val (.ref a1), .val (.int (2 : Int32)), .unset, .unset, .unset] []
    refine own_via (fun t k => XS.goto X894.here hx rfl (pc0 := 92) (pc' := 64) rfl (hb hby own_d6_92) (by decide) (by decide) k) ?_
    refine own_via (fun t k => XS.iloadN X894.here hx rfl (hb hby own_d6_64) rfl k) ?_
    refine own_via (fun t k => XS.aloadN X894.here hx rfl (hb hby own_d6_65) rfl rfl k) ?_
    show own_H T894 66 #[.val (.ref a1), .val (.int (2 : Int32)), .unset, .unset, .unset] [(.ref a1), (.int (2 : Int32))]
    obtain ⟨T911, X911, e911, st911⟩ := getF X894 hx hZ hown (host := "") (Or.inl (own_u hw 17 rfl)) Via.refl e894 f899 (g := (mkF m 66 #[.val (.ref a1), .val (.int (2 : Int32)), .unset, .unset, .unset] [(.ref a1), (.int (2 : Int32))])) rfl rfl (hb hby own_d6_66)
    refine own_via st911 ?_
    show own_H T911 69 #[.val (.ref a1), .val (.int (2 : Int32)), .unset, .unset, .unset] [(.int (4 : Int32)), (.int (2 : Int32))]
    refine own_via (fun t k => XS.icmpNo X911.here hx rfl (hb hby own_d6_69) rfl (tlt (by decide : (2 : Int32) < (4 : Int32))).2.1 k) ?_
    show own_H T911 72 #[.val (.ref a1), .val (.int (2 : Int32)), .unset, .unset, .unset] []
    refine own_via (fun t k => XS.aloadN X911.here hx rfl (hb hby own_d6_72) rfl rfl k) ?_
    show own_H T911 73 #[.val (.ref a1), .val (.int (2 : Int32)), .unset, .unset, .unset] [(.ref a1)]
    obtain ⟨T912, X912, e912, st912⟩ := getF X911 hx hZ hown (host := "") (Or.inl (own_u hw 24 rfl)) Via.refl e911 f907 (g := (mkF m 73 #[.val (.ref a1), .val (.int (2 : Int32)), .unset, .unset, .unset] [(.ref a1)])) rfl rfl (hb hby own_d6_73)
    refine own_via st912 ?_
    show own_H T912 76 #[.val (.ref a1), .val (.int (2 : Int32)), .unset, .unset, .unset] [(.ref b2)]
    refine own_via (fun t k => XS.iloadN X912.here hx rfl (hb hby own_d6_76) rfl k) ?_
    refine own_via (fun t k => XS.iconst X912.here hx rfl (hb hby own_d6_77) k) ?_
    show own_H T912 78 #[.val (.ref a1), .val (.int (2 : Int32)), .unset, .unset, .unset] [(.int (1 : Int32)), (.int (2 : Int32)), (.ref b2)]
    refine own_via (fun t k => XS.iadd X912.here hx rfl (hb hby own_d6_78) rfl k) ?_
    show own_H T912 79 #[.val (.ref a1), .val (.int (2 : Int32)), .unset, .unset, .unset] [(.int (3 : Int32)), (.ref b2)]
    refine own_via (own_dup2 X912 hx rfl rfl (hb hby own_d6_79)) ?_
    show own_H T912 80 #[.val (.ref a1), .val (.int (2 : Int32)), .unset, .unset, .unset] [(.int (3 : Int32)), (.ref b2), (.int (3 : Int32)), (.ref b2)]
    refine own_via (own_ldS (L := (own_Ai4_53 t0 h0_ t1 h1_)) X912 hx hZ e912 f909 (j := (3 : Int32)) (own_Hi4_54 t0 h0_ t1 h1_ hp_hr).1 (pc := 80) (Ls := #[.val (.ref a1), .val (.int (2 : Int32)), .unset, .unset, .unset]) (rest := [(.int (3 : Int32)), (.ref b2)]) (hb hby own_d6_80)) ?_
    show own_H T912 81 #[.val (.ref a1), .val (.int (2 : Int32)), .unset, .unset, .unset] [(.int (own_Vi4_55 t0 h0_ t1 h1_)), (.int (3 : Int32)), (.ref b2)]
    refine own_via (fun t k => XS.aloadN X912.here hx rfl (hb hby own_d6_81) rfl rfl k) ?_
    show own_H T912 82 #[.val (.ref a1), .val (.int (2 : Int32)), .unset, .unset, .unset] [(.ref a1), (.int (own_Vi4_55 t0 h0_ t1 h1_)), (.int (3 : Int32)), (.ref b2)]
    obtain ⟨T913, X913, e913, st913⟩ := getF X912 hx hZ hown (host := "") (Or.inl (own_u hw 24 rfl)) Via.refl e912 f907 (g := (mkF m 82 #[.val (.ref a1), .val (.int (2 : Int32)), .unset, .unset, .unset] [(.ref a1), (.int (own_Vi4_55 t0 h0_ t1 h1_)), (.int (3 : Int32)), (.ref b2)])) rfl rfl (hb hby own_d6_82)
    refine own_via st913 ?_
    show own_H T913 85 #[.val (.ref a1), .val (.int (2 : Int32)), .unset, .unset, .unset] [(.ref b2), (.int (own_Vi4_55 t0 h0_ t1 h1_)), (.int (3 : Int32)), (.ref b2)]
    refine own_via (fun t k => XS.iloadN X913.here hx rfl (hb hby own_d6_85) rfl k) ?_
    show own_H T913 86 #[.val (.ref a1), .val (.int (2 : Int32)), .unset, .unset, .unset] [(.int (2 : Int32)), (.ref b2), (.int (own_Vi4_55 t0 h0_ t1 h1_)), (.int (3 : Int32)), (.ref b2)]
    refine own_via (own_ldS (L := (own_Ai4_53 t0 h0_ t1 h1_)) X913 hx hZ e913 f909 (j := (2 : Int32)) (own_Hi4_56 t0 h0_ t1 h1_ hp_hr).1 (pc := 86) (Ls := #[.val (.ref a1), .val (.int (2 : Int32)), .unset, .unset, .unset]) (rest := [(.int (own_Vi4_55 t0 h0_ t1 h1_)), (.int (3 : Int32)), (.ref b2)]) (hb hby own_d6_86)) ?_
    show own_H T913 87 #[.val (.ref a1), .val (.int (2 : Int32)), .unset, .unset, .unset] [(.int (own_Vi4_57 t0 h0_ t1 h1_)), (.int (own_Vi4_55 t0 h0_ t1 h1_)), (.int (3 : Int32)), (.ref b2)]
    refine own_via (fun t k => XS.iadd X913.here hx rfl (hb hby own_d6_87) rfl k) ?_
    show own_H T913 88 #[.val (.ref a1), .val (.int (2 : Int32)), .unset, .unset, .unset] [(.int ((own_Vi4_55 t0 h0_ t1 h1_) + (own_Vi4_57 t0 h0_ t1 h1_))), (.int (3 : Int32)), (.ref b2)]
    obtain ⟨T914, h914, L914, X914, N914, e914, W914, V914, st914⟩ := own_stS (L := (own_Ai4_53 t0 h0_ t1 h1_)) X913 N894 hx hZ e913 f909 g_b2 (j := (3 : Int32)) (x := ((own_Vi4_55 t0 h0_ t1 h1_) + (own_Vi4_57 t0 h0_ t1 h1_))) (own_Hi4_54 t0 h0_ t1 h1_ hp_hr) (pc := 88) (Ls := #[.val (.ref a1), .val (.int (2 : Int32)), .unset, .unset, .unset]) (rest := []) (hb hby own_d6_88)
    refine own_via st914 ?_
    have f915 := f895.wr W914
    have f916 := f896.other W914 (Or.inl ne3)
    have f917 := f897.other W914 (Or.inl ne3)
    have f918 := f898.other W914 (Or.inl ne3)
    have f919 := f899.other W914 (Or.inl ne3)
    have f920 := f900.other W914 (Or.inl ne3)
    have f921 := f901.other W914 (Or.inl ne3)
    have f922 := f902.other W914 (Or.inl ne3)
    have f923 := f903.other W914 (Or.inl ne3)
    have f924 := f904.other W914 (Or.inl ne3)
    have f925 := f905.other W914 ne4
    have f926 := f906.other W914 ne5
    have f927 := f907.other W914 (Or.inl ne3)
    have Kp928 := Kp908.wr W914 (Or.inr sz_b2)
    have f929 : Arv Z h914 b2 k2 .int ((4 : Int32) + (1 : Int32)) ((own_Ai4_58 t0 h0_ t1 h1_).map Value.int) (.int (0 : Int32)) := V914
    have Zs930 : n0 ≤ h914.size := by rw [W914.size]; exact Zs910
    show own_H T914 89 #[.val (.ref a1), .val (.int (2 : Int32)), .unset, .unset, .unset] []
    clear f895 f896 f897 f898 f899 f900 f901 f902 f903 f904 f905 f906 f907 f909 Kp908 Zs910
    refine own_via (fun t k => XS.iinc X914.here hx rfl (hb hby own_d6_89) rfl (l' := #[.val (.ref a1), .val (.int (3 : Int32)), .unset, .unset, .unset]) rfl k) ?_
    show own_H T914 92 #[.val (.ref a1), .val (.int (3 : Int32)), .unset, .unset, .unset] []
    refine own_via (fun t k => XS.goto X914.here hx rfl (pc0 := 92) (pc' := 64) rfl (hb hby own_d6_92) (by decide) (by decide) k) ?_
    refine own_via (fun t k => XS.iloadN X914.here hx rfl (hb hby own_d6_64) rfl k) ?_
    refine own_via (fun t k => XS.aloadN X914.here hx rfl (hb hby own_d6_65) rfl rfl k) ?_
    show own_H T914 66 #[.val (.ref a1), .val (.int (3 : Int32)), .unset, .unset, .unset] [(.ref a1), (.int (3 : Int32))]
    obtain ⟨T931, X931, e931, st931⟩ := getF X914 hx hZ hown (host := "") (Or.inl (own_u hw 17 rfl)) Via.refl e914 f919 (g := (mkF m 66 #[.val (.ref a1), .val (.int (3 : Int32)), .unset, .unset, .unset] [(.ref a1), (.int (3 : Int32))])) rfl rfl (hb hby own_d6_66)
    refine own_via st931 ?_
    show own_H T931 69 #[.val (.ref a1), .val (.int (3 : Int32)), .unset, .unset, .unset] [(.int (4 : Int32)), (.int (3 : Int32))]
    refine own_via (fun t k => XS.icmpNo X931.here hx rfl (hb hby own_d6_69) rfl (tlt (by decide : (3 : Int32) < (4 : Int32))).2.1 k) ?_
    show own_H T931 72 #[.val (.ref a1), .val (.int (3 : Int32)), .unset, .unset, .unset] []
    refine own_via (fun t k => XS.aloadN X931.here hx rfl (hb hby own_d6_72) rfl rfl k) ?_
    show own_H T931 73 #[.val (.ref a1), .val (.int (3 : Int32)), .unset, .unset, .unset] [(.ref a1)]
    obtain ⟨T932, X932, e932, st932⟩ := getF X931 hx hZ hown (host := "") (Or.inl (own_u hw 24 rfl)) Via.refl e931 f927 (g := (mkF m 73 #[.val (.ref a1), .val (.int (3 : Int32)), .unset, .unset, .unset] [(.ref a1)])) rfl rfl (hb hby own_d6_73)
    refine own_via st932 ?_
    show own_H T932 76 #[.val (.ref a1), .val (.int (3 : Int32)), .unset, .unset, .unset] [(.ref b2)]
    refine own_via (fun t k => XS.iloadN X932.here hx rfl (hb hby own_d6_76) rfl k) ?_
    refine own_via (fun t k => XS.iconst X932.here hx rfl (hb hby own_d6_77) k) ?_
    show own_H T932 78 #[.val (.ref a1), .val (.int (3 : Int32)), .unset, .unset, .unset] [(.int (1 : Int32)), (.int (3 : Int32)), (.ref b2)]
    refine own_via (fun t k => XS.iadd X932.here hx rfl (hb hby own_d6_78) rfl k) ?_
    show own_H T932 79 #[.val (.ref a1), .val (.int (3 : Int32)), .unset, .unset, .unset] [(.int (4 : Int32)), (.ref b2)]
    refine own_via (own_dup2 X932 hx rfl rfl (hb hby own_d6_79)) ?_
    show own_H T932 80 #[.val (.ref a1), .val (.int (3 : Int32)), .unset, .unset, .unset] [(.int (4 : Int32)), (.ref b2), (.int (4 : Int32)), (.ref b2)]
    refine own_via (own_ldS (L := (own_Ai4_58 t0 h0_ t1 h1_)) X932 hx hZ e932 f929 (j := (4 : Int32)) (own_Hi4_59 t0 h0_ t1 h1_ hp_hr).1 (pc := 80) (Ls := #[.val (.ref a1), .val (.int (3 : Int32)), .unset, .unset, .unset]) (rest := [(.int (4 : Int32)), (.ref b2)]) (hb hby own_d6_80)) ?_
    show own_H T932 81 #[.val (.ref a1), .val (.int (3 : Int32)), .unset, .unset, .unset] [(.int (own_Vi4_60 t0 h0_ t1 h1_)), (.int (4 : Int32)), (.ref b2)]
    refine own_via (fun t k => XS.aloadN X932.here hx rfl (hb hby own_d6_81) rfl rfl k) ?_
    show own_H T932 82 #[.val (.ref a1), .val (.int (3 : Int32)), .unset, .unset, .unset] [(.ref a1), (.int (own_Vi4_60 t0 h0_ t1 h1_)), (.int (4 : Int32)), (.ref b2)]
    obtain ⟨T933, X933, e933, st933⟩ := getF X932 hx hZ hown (host := "") (Or.inl (own_u hw 24 rfl)) Via.refl e932 f927 (g := (mkF m 82 #[.val (.ref a1), .val (.int (3 : Int32)), .unset, .unset, .unset] [(.ref a1), (.int (own_Vi4_60 t0 h0_ t1 h1_)), (.int (4 : Int32)), (.ref b2)])) rfl rfl (hb hby own_d6_82)
    refine own_via st933 ?_
    show own_H T933 85 #[.val (.ref a1), .val (.int (3 : Int32)), .unset, .unset, .unset] [(.ref b2), (.int (own_Vi4_60 t0 h0_ t1 h1_)), (.int (4 : Int32)), (.ref b2)]
    refine own_via (fun t k => XS.iloadN X933.here hx rfl (hb hby own_d6_85) rfl k) ?_
    show own_H T933 86 #[.val (.ref a1), .val (.int (3 : Int32)), .unset, .unset, .unset] [(.int (3 : Int32)), (.ref b2), (.int (own_Vi4_60 t0 h0_ t1 h1_)), (.int (4 : Int32)), (.ref b2)]
    refine own_via (own_ldS (L := (own_Ai4_58 t0 h0_ t1 h1_)) X933 hx hZ e933 f929 (j := (3 : Int32)) (own_Hi4_61 t0 h0_ t1 h1_ hp_hr).1 (pc := 86) (Ls := #[.val (.ref a1), .val (.int (3 : Int32)), .unset, .unset, .unset]) (rest := [(.int (own_Vi4_60 t0 h0_ t1 h1_)), (.int (4 : Int32)), (.ref b2)]) (hb hby own_d6_86)) ?_
    show own_H T933 87 #[.val (.ref a1), .val (.int (3 : Int32)), .unset, .unset, .unset] [(.int (own_Vi4_62 t0 h0_ t1 h1_)), (.int (own_Vi4_60 t0 h0_ t1 h1_)), (.int (4 : Int32)), (.ref b2)]
    refine own_via (fun t k => XS.iadd X933.here hx rfl (hb hby own_d6_87) rfl k) ?_
    show own_H T933 88 #[.val (.ref a1), .val (.int (3 : Int32)), .unset, .unset, .unset] [(.int ((own_Vi4_60 t0 h0_ t1 h1_) + (own_Vi4_62 t0 h0_ t1 h1_))), (.int (4 : Int32)), (.ref b2)]
    obtain ⟨T934, h934, L934, X934, N934, e934, W934, V934, st934⟩ := own_stS (L := (own_Ai4_58 t0 h0_ t1 h1_)) X933 N914 hx hZ e933 f929 g_b2 (j := (4 : Int32)) (x := ((own_Vi4_60 t0 h0_ t1 h1_) + (own_Vi4_62 t0 h0_ t1 h1_))) (own_Hi4_59 t0 h0_ t1 h1_ hp_hr) (pc := 88) (Ls := #[.val (.ref a1), .val (.int (3 : Int32)), .unset, .unset, .unset]) (rest := []) (hb hby own_d6_88)
    refine own_via st934 ?_
    have f935 := f915.wr W934
    have f936 := f916.other W934 (Or.inl ne3)
    have f937 := f917.other W934 (Or.inl ne3)
    have f938 := f918.other W934 (Or.inl ne3)
    have f939 := f919.other W934 (Or.inl ne3)
    have f940 := f920.other W934 (Or.inl ne3)
    have f941 := f921.other W934 (Or.inl ne3)
    have f942 := f922.other W934 (Or.inl ne3)
    have f943 := f923.other W934 (Or.inl ne3)
    have f944 := f924.other W934 (Or.inl ne3)
    have f945 := f925.other W934 ne4
    have f946 := f926.other W934 ne5
    have f947 := f927.other W934 (Or.inl ne3)
    have Kp948 := Kp928.wr W934 (Or.inr sz_b2)
    have f949 : Arv Z h934 b2 k2 .int ((4 : Int32) + (1 : Int32)) ((own_Ai4_63 t0 h0_ t1 h1_).map Value.int) (.int (0 : Int32)) := V934
    have Zs950 : n0 ≤ h934.size := by rw [W934.size]; exact Zs930
    show own_H T934 89 #[.val (.ref a1), .val (.int (3 : Int32)), .unset, .unset, .unset] []
    clear f915 f916 f917 f918 f919 f920 f921 f922 f923 f924 f925 f926 f927 f929 Kp928 Zs930
    refine own_via (fun t k => XS.iinc X934.here hx rfl (hb hby own_d6_89) rfl (l' := #[.val (.ref a1), .val (.int (4 : Int32)), .unset, .unset, .unset]) rfl k) ?_
    show own_H T934 92 #[.val (.ref a1), .val (.int (4 : Int32)), .unset, .unset, .unset] []
    refine own_via (fun t k => XS.goto X934.here hx rfl (pc0 := 92) (pc' := 64) rfl (hb hby own_d6_92) (by decide) (by decide) k) ?_
    refine own_via (fun t k => XS.iloadN X934.here hx rfl (hb hby own_d6_64) rfl k) ?_
    refine own_via (fun t k => XS.aloadN X934.here hx rfl (hb hby own_d6_65) rfl rfl k) ?_
    show own_H T934 66 #[.val (.ref a1), .val (.int (4 : Int32)), .unset, .unset, .unset] [(.ref a1), (.int (4 : Int32))]
    obtain ⟨T951, X951, e951, st951⟩ := getF X934 hx hZ hown (host := "") (Or.inl (own_u hw 17 rfl)) Via.refl e934 f939 (g := (mkF m 66 #[.val (.ref a1), .val (.int (4 : Int32)), .unset, .unset, .unset] [(.ref a1), (.int (4 : Int32))])) rfl rfl (hb hby own_d6_66)
    refine own_via st951 ?_
    show own_H T951 69 #[.val (.ref a1), .val (.int (4 : Int32)), .unset, .unset, .unset] [(.int (4 : Int32)), (.int (4 : Int32))]
    refine own_via (fun t k => XS.icmpYes X951.here hx rfl (pc0 := 69) (pc' := 95) rfl (hb hby own_d6_69) rfl (flt (by decide : ¬ ((4 : Int32) < (4 : Int32)))).2.1 (by decide) (by decide) k) ?_
    show own_H T951 95 #[.val (.ref a1), .val (.int (4 : Int32)), .unset, .unset, .unset] []
    exact J117 _ _ _ X951 N934 e951 Kp948 Zs950 f935 f936 f937 f938 f939 f940 f941 f942 f943 f944 f945 f946 f947 f949
theorem own_Hzg_0 : ∀ (c1 t0 h0_ t1 h1_ : Int32) (hr : own_Rn c1 t0 h0_ t1 h1_), own_in ([(0 : Int32), (0 : Int32), (0 : Int32), (0 : Int32)] : List Int32) (own_Vig_66 c1 t0 h0_ t1 h1_) (4 : Int32) := own_all _ (by decide +kernel)
def own_Azg_1 (c1 t0 h0_ t1 h1_ : Int32) : List Int32 := own_set ([(0 : Int32), (0 : Int32), (0 : Int32), (0 : Int32)] : List Int32) (own_Vig_66 c1 t0 h0_ t1 h1_) (own_F4 (1 : Int32) (536870911 : Int32))
theorem own_Hzg_2 : ∀ (c1 t0 h0_ t1 h1_ : Int32) (hr : own_Rn c1 t0 h0_ t1 h1_), own_in (own_Azg_1 c1 t0 h0_ t1 h1_) (own_Vig_82 c1 t0 h0_ t1 h1_) (4 : Int32) := own_all _ (by decide +kernel)
def own_Azg_3 (c1 t0 h0_ t1 h1_ : Int32) : List Int32 := own_set (own_Azg_1 c1 t0 h0_ t1 h1_) (own_Vig_82 c1 t0 h0_ t1 h1_) (own_F4 (1 : Int32) (536870911 : Int32))
theorem own_Hzg_4 : ∀ (c1 t0 h0_ t1 h1_ : Int32) (hr : own_Rn c1 t0 h0_ t1 h1_), (own_Azg_3 c1 t0 h0_ t1 h1_).length = 4 := own_all _ (by decide +kernel)
theorem own_Hzg_5 : ∀ (c1 t0 h0_ t1 h1_ : Int32) (hr : own_Rn c1 t0 h0_ t1 h1_), (own_Aig_98 c1 t0 h0_ t1 h1_).length = 4 := own_all _ (by decide +kernel)
theorem own_Hzg_6 : ∀ (c1 t0 h0_ t1 h1_ : Int32) (hr : own_Rn c1 t0 h0_ t1 h1_), ¬ (c1 < (0 : Int32)) := own_all _ (by decide +kernel)
theorem own_Hzg_7 : ∀ (c1 t0 h0_ t1 h1_ : Int32) (hr : own_Rn c1 t0 h0_ t1 h1_), c1.toNatClampNeg ≤ 4 := own_all _ (by decide +kernel)
theorem own_Hzg_8 : ∀ (c1 t0 h0_ t1 h1_ : Int32) (hr : own_Rn c1 t0 h0_ t1 h1_), ¬ ((own_get (own_Aig_98 c1 t0 h0_ t1 h1_) (0 : Int32)) < (0 : Int32)) := own_all _ (by decide +kernel)
theorem own_Hzg_9 : ∀ (c1 t0 h0_ t1 h1_ : Int32) (hr : own_Rn c1 t0 h0_ t1 h1_), (own_F11 (own_get (own_Aig_98 c1 t0 h0_ t1 h1_) (0 : Int32))) = (0 : Int32) := own_all _ (by decide +kernel)
theorem own_Hzg_10 : ∀ (c1 t0 h0_ t1 h1_ : Int32) (hr : own_Rn c1 t0 h0_ t1 h1_), ¬ ((own_get (own_Aig_98 c1 t0 h0_ t1 h1_) (1 : Int32)) < (0 : Int32)) := own_all _ (by decide +kernel)
theorem own_Hzg_11 : ∀ (c1 t0 h0_ t1 h1_ : Int32) (hr : own_Rn c1 t0 h0_ t1 h1_), (own_F11 (own_get (own_Aig_98 c1 t0 h0_ t1 h1_) (1 : Int32))) = (0 : Int32) := own_all _ (by decide +kernel)
theorem own_Hzg_12 : ∀ (c1 t0 h0_ t1 h1_ : Int32) (hr : own_Rn c1 t0 h0_ t1 h1_), ¬ ((own_get (own_Aig_98 c1 t0 h0_ t1 h1_) (2 : Int32)) < (0 : Int32)) := own_all _ (by decide +kernel)
theorem own_Hzg_13 : ∀ (c1 t0 h0_ t1 h1_ : Int32) (hr : own_Rn c1 t0 h0_ t1 h1_), (own_F11 (own_get (own_Aig_98 c1 t0 h0_ t1 h1_) (2 : Int32))) = (0 : Int32) := own_all _ (by decide +kernel)
theorem own_Hzg_14 : ∀ (c1 t0 h0_ t1 h1_ : Int32) (hr : own_Rn c1 t0 h0_ t1 h1_), ¬ ((own_get (own_Aig_98 c1 t0 h0_ t1 h1_) (3 : Int32)) < (0 : Int32)) := own_all _ (by decide +kernel)
theorem own_Hzg_15 : ∀ (c1 t0 h0_ t1 h1_ : Int32) (hr : own_Rn c1 t0 h0_ t1 h1_), (own_F11 (own_get (own_Aig_98 c1 t0 h0_ t1 h1_) (3 : Int32))) = (0 : Int32) := own_all _ (by decide +kernel)
theorem own_d5_0 : decode prog_28_method_8_code 0 = .ok (.aload_n 0, 1) := by decide +kernel
theorem own_d5_1 : decode prog_28_method_8_code 1 = .ok (.getfield 25, 3) := by decide +kernel
theorem own_d5_4 : decode prog_28_method_8_code 4 = .ok (.ifnonnull 7, 3) := by decide +kernel
theorem own_d5_7 : decode prog_28_method_8_code 7 = .ok (.aload_n 0, 1) := by decide +kernel
theorem own_d5_8 : decode prog_28_method_8_code 8 = .ok (.invokevirtual 51, 3) := by decide +kernel
theorem own_d5_11 : decode prog_28_method_8_code 11 = .ok (.iconst 2, 1) := by decide +kernel
theorem own_d5_12 : decode prog_28_method_8_code 12 = .ok (.aload_n 0, 1) := by decide +kernel
theorem own_d5_13 : decode prog_28_method_8_code 13 = .ok (.getfield 35, 3) := by decide +kernel
theorem own_d5_16 : decode prog_28_method_8_code 16 = .ok (.imul, 1) := by decide +kernel
theorem own_d5_17 : decode prog_28_method_8_code 17 = .ok (.newarray .int, 2) := by decide +kernel
theorem own_d5_19 : decode prog_28_method_8_code 19 = .ok (.astore_n 1, 1) := by decide +kernel
theorem own_d5_20 : decode prog_28_method_8_code 20 = .ok (.iconst 0, 1) := by decide +kernel
theorem own_d5_21 : decode prog_28_method_8_code 21 = .ok (.istore_n 2, 1) := by decide +kernel
theorem own_d5_22 : decode prog_28_method_8_code 22 = .ok (.iload_n 2, 1) := by decide +kernel
theorem own_d5_23 : decode prog_28_method_8_code 23 = .ok (.aload_n 0, 1) := by decide +kernel
theorem own_d5_24 : decode prog_28_method_8_code 24 = .ok (.getfield 35, 3) := by decide +kernel
theorem own_d5_27 : decode prog_28_method_8_code 27 = .ok (.if_icmp .ge 23, 3) := by decide +kernel
theorem own_d5_30 : decode prog_28_method_8_code 30 = .ok (.aload_n 1, 1) := by decide +kernel
theorem own_d5_31 : decode prog_28_method_8_code 31 = .ok (.aload_n 0, 1) := by decide +kernel
theorem own_d5_32 : decode prog_28_method_8_code 32 = .ok (.getfield 54, 3) := by decide +kernel
theorem own_d5_35 : decode prog_28_method_8_code 35 = .ok (.iload_n 2, 1) := by decide +kernel
theorem own_d5_36 : decode prog_28_method_8_code 36 = .ok (.iaload, 1) := by decide +kernel
theorem own_d5_37 : decode prog_28_method_8_code 37 = .ok (.aload_n 0, 1) := by decide +kernel
theorem own_d5_38 : decode prog_28_method_8_code 38 = .ok (.getfield 18, 3) := by decide +kernel
theorem own_d5_41 : decode prog_28_method_8_code 41 = .ok (.iload_n 2, 1) := by decide +kernel
theorem own_d5_42 : decode prog_28_method_8_code 42 = .ok (.iaload, 1) := by decide +kernel
theorem own_d5_43 : decode prog_28_method_8_code 43 = .ok (.iastore, 1) := by decide +kernel
theorem own_d5_44 : decode prog_28_method_8_code 44 = .ok (.iinc 2 1, 3) := by decide +kernel
theorem own_d5_47 : decode prog_28_method_8_code 47 = .ok (.goto (-25), 3) := by decide +kernel
theorem own_d5_50 : decode prog_28_method_8_code 50 = .ok (.new 57, 3) := by decide +kernel
theorem own_d5_53 : decode prog_28_method_8_code 53 = .ok (.dup, 1) := by decide +kernel
theorem own_d5_54 : decode prog_28_method_8_code 54 = .ok (.aload_n 0, 1) := by decide +kernel
theorem own_d5_55 : decode prog_28_method_8_code 55 = .ok (.aload_n 1, 1) := by decide +kernel
theorem own_d5_56 : decode prog_28_method_8_code 56 = .ok (.invokespecial 59, 3) := by decide +kernel
theorem own_d5_59 : decode prog_28_method_8_code 59 = .ok (.areturn, 1) := by decide +kernel
abbrev own_zf_R : Room := { frames := 6, cells := 29, slots := 174, locals := 86 }
theorem own_pn5 : plainFor (⟨"com/example/dissoc/dissoc/mincut/FlowNetwork", "zeroFlow", "()Lcom/example/dissoc/dissoc/mincut/Flow;"⟩ : MethodName) = true := plainFor_of_name (by first | (simp [plainName, overriddenIn]; done) | decide +kernel)
theorem own_zf_ef (m : MethodId) (a1 : Addr) : entryFrame m #[(.ref a1)] 3 = mkF m 0 #[.val (.ref a1), .unset, .unset] [] := by first | (simp [entryFrame, mkF, argsToLocals, Value.category]; done) | rfl
def own_zf_q (Z : State) (a1 : Addr) (c1 : Int32) (t0 : Int32) (h0_ : Int32) (t1 : Int32) (h1_ : Int32) (fb : Addr) (tb : Addr) (cb : Addr) (k_fb : ClassId) (k_tb : ClassId) (k_cb : ClassId) (h0 : Heap) (v : Option Value) (h : Heap) : Prop := ∃ (x : Addr) (ea : Addr) (va : Addr) (fo : Addr) (ke : ClassId) (kv : ClassId) (ko : ClassId), v = some (.ref x) ∧ Keep h0 h [a1] ∧ h0.size ≤ x ∧ h0.size ≤ ea ∧ h0.size ≤ va ∧ h0.size ≤ fo ∧ Exa Z h a1 own_cN ∧ Fld Z h a1 own_cN "edgeAt" "[I" (.ref ea) ∧ Fld Z h a1 own_cN "reverse" "[I" (.ref va) ∧ Fld Z h a1 own_cN "forward" "[I" (.ref fo) ∧ Arv Z h ea ke .int (4 : Int32) ((own_Aig_94 c1 t0 h0_ t1 h1_).map Value.int) (.int (0 : Int32)) ∧ Arv Z h va kv .int (4 : Int32) [(.int (own_get (own_Aig_98 c1 t0 h0_ t1 h1_) (0 : Int32))), (.int (own_get (own_Aig_98 c1 t0 h0_ t1 h1_) (1 : Int32))), (.int (own_get (own_Aig_98 c1 t0 h0_ t1 h1_) (2 : Int32))), (.int (own_get (own_Aig_98 c1 t0 h0_ t1 h1_) (3 : Int32)))] (.int (0 : Int32)) ∧ Arv Z h fo ko .int (2 : Int32) [(.int (own_Vig_66 c1 t0 h0_ t1 h1_)), (.int (own_Vig_82 c1 t0 h0_ t1 h1_))] (.int (0 : Int32))
set_option maxRecDepth 65536 in
set_option maxHeartbeats 40000000 in
theorem own_zf (l : Launch) (Z : State) (a0 : Array Value) (hw : ∀ d ∈ tables_1, d.before a0 Z = true) (ws : List Jvm.Cond) (a1 : Addr) (c1 : Int32) (t0 : Int32) (h0_ : Int32) (t1 : Int32) (h1_ : Int32) (fb : Addr) (tb : Addr) (cb : Addr) (k_fb : ClassId) (k_tb : ClassId) (k_cb : ClassId) (h0 : Heap) (n0 : Nat) (Z0 : n0 ≤ h0.size) (i_En : Exa Z h0 a1 own_cN) (i_N_from : Fld Z h0 a1 own_cN "from" "[I" (.ref fb)) (i_N_to : Fld Z h0 a1 own_cN "to" "[I" (.ref tb)) (i_N_capacity : Fld Z h0 a1 own_cN "capacity" "[I" (.ref cb)) (i_N_nodes : Fld Z h0 a1 own_cN "nodes" "I" (.int c1)) (i_N_firstArc : Fld Z h0 a1 own_cN "firstArc" "[I" .null) (i_N_edges : Fld Z h0 a1 own_cN "edges" "I" (.int (2 : Int32))) (i_N_target : Fld Z h0 a1 own_cN "target" "[I" .null) (i_N_edgeAt : Fld Z h0 a1 own_cN "edgeAt" "[I" .null) (i_N_reverse : Fld Z h0 a1 own_cN "reverse" "[I" .null) (i_N_forward : Fld Z h0 a1 own_cN "forward" "[I" .null) (i_Afb : Arv Z h0 fb k_fb .int (16 : Int32) [(.int t0), (.int t1), (.int (0 : Int32)), (.int (0 : Int32)), (.int (0 : Int32)), (.int (0 : Int32)), (.int (0 : Int32)), (.int (0 : Int32)), (.int (0 : Int32)), (.int (0 : Int32)), (.int (0 : Int32)), (.int (0 : Int32)), (.int (0 : Int32)), (.int (0 : Int32)), (.int (0 : Int32)), (.int (0 : Int32))] (.int (0 : Int32))) (i_Atb : Arv Z h0 tb k_tb .int (16 : Int32) [(.int h0_), (.int h1_), (.int (0 : Int32)), (.int (0 : Int32)), (.int (0 : Int32)), (.int (0 : Int32)), (.int (0 : Int32)), (.int (0 : Int32)), (.int (0 : Int32)), (.int (0 : Int32)), (.int (0 : Int32)), (.int (0 : Int32)), (.int (0 : Int32)), (.int (0 : Int32)), (.int (0 : Int32)), (.int (0 : Int32))] (.int (0 : Int32))) (i_Acb : Arv Z h0 cb k_cb .int (16 : Int32) [(.int (own_F4 (1 : Int32) (536870911 : Int32))), (.int (own_F4 (1 : Int32) (536870911 : Int32))), (.int (0 : Int32)), (.int (0 : Int32)), (.int (0 : Int32)), (.int (0 : Int32)), (.int (0 : Int32)), (.int (0 : Int32)), (.int (0 : Int32)), (.int (0 : Int32)), (.int (0 : Int32)), (.int (0 : Int32)), (.int (0 : Int32)), (.int (0 : Int32)), (.int (0 : Int32)), (.int (0 : Int32))] (.int (0 : Int32))) (i_S1 : Sta Z h0 own_cB "$assertionsDisabled" "Z" (.int (1 : Int32))) (g_a1 : n0 ≤ a1) (ne_a1_fb : a1 ≠ fb) (ne_a1_tb : a1 ≠ tb) (ne_a1_cb : a1 ≠ cb) (hp_hr : own_Rn c1 t0 h0_ t1 h1_) :
    own_C l Z (⟨"com/example/dissoc/dissoc/mincut/FlowNetwork", "zeroFlow", "()Lcom/example/dissoc/dissoc/mincut/Flow;"⟩ : MethodName) prog_28_method_8_code 3 (some (.object "com/example/dissoc/dissoc/mincut/Flow")) ws own_zf_R #[(.ref a1)] h0 (own_W n0 (own_zf_q Z a1 c1 t0 h0_ t1 h1_ fb tb cb k_fb k_tb k_cb h0)) := by
  refine MetFree.of_bodySF own_pn5 hisR ?_
  intro p e s m args below meth c s₁ Bd hml0 hP hK
  obtain ⟨rfl, hZ, hh⟩ := hP
  have hx := Bd.exec
  have hby := Bd.bytes
  have hml : c.maxLocals = 3 := hml0
  have hown : s.vm.findClass "com/example/dissoc/dissoc/mincut/FlowNetwork" = some m.cls := findClass_of_methodNamed Bd.named
  have hnm := (name_of_methodNamed Bd.named Bd.method).1
  have X0 : Stand p l e own_zf_R s m #[(.ref a1)] below meth c s₁ [] 0 0 := Stand.of_body Bd
  have e0 : s₁.heap = h0 := by rw [← hh, Bd.state]; rfl
  have N0 := Fr.nil n0
  have K0 : Keep h0 h0 [a1] := Keep.refl h0 _
  show own_G p e below (own_P s (own_W n0 (own_zf_q Z a1 c1 t0 h0_ t1 h1_ fb tb cb k_fb k_tb k_cb h0)) own_zf_R.cells own_zf_R.slots) (s₁.setTop (entryFrame m #[(.ref a1)] 3))
  rw [own_zf_ef m a1]
  show own_H s₁ 0 #[.val (.ref a1), .unset, .unset] []
  refine own_via (fun t k => XS.aloadN X0.here hx rfl (hb hby own_d5_0) rfl rfl k) ?_
  show own_H s₁ 1 #[.val (.ref a1), .unset, .unset] [(.ref a1)]
  obtain ⟨T1, X1, e1, st1⟩ := getF X0 hx hZ hown (host := "") (Or.inl (own_u hw 24 rfl)) Via.refl e0 i_N_firstArc (g := (mkF m 1 #[.val (.ref a1), .unset, .unset] [(.ref a1)])) rfl rfl (hb hby own_d5_1)
  refine own_via st1 ?_
  show own_H T1 4 #[.val (.ref a1), .unset, .unset] [.null]
  refine own_via (fun t k => XS.ifnonnullNo X1.here hx rfl (hb hby own_d5_4) rfl k) ?_
  show own_H T1 7 #[.val (.ref a1), .unset, .unset] []
  refine own_via (fun t k => XS.aloadN X1.here hx rfl (hb hby own_d5_7) rfl rfl k) ?_
  show own_H T1 8 #[.val (.ref a1), .unset, .unset] [(.ref a1)]
  obtain ⟨v2, T2, h2, L2, X2, N2, e2, hq2, st2⟩ := own_callR (y := (⟨"com/example/dissoc/dissoc/mincut/FlowNetwork", "index", "()V"⟩ : MethodName)) (W := 0) (a := a1) X1 N0 hx hZ hown (own_u hw 38 rfl) (own_u hw 39 rfl) (own_selP (y := (⟨"com/example/dissoc/dissoc/mincut/FlowNetwork", "index", "()V"⟩ : MethodName)) (own_u hw 2 rfl) (own_u hw 40 rfl) (own_u hw 39 rfl) (by decide)) (own_u hw 40 rfl) (own_u hw 3 rfl) (own_u hw 41 rfl) (by decide) (own_ix l Z a0 hw [] a1 c1 t0 h0_ t1 h1_ fb tb k_fb k_tb cb h0 n0 Z0 i_En i_N_from i_N_to i_N_capacity i_N_nodes i_N_firstArc i_N_edges i_N_target i_N_edgeAt i_N_reverse i_N_forward i_Afb i_Atb g_a1 ne_a1_fb ne_a1_tb hp_hr) (by decide) (by decide) (by decide) (by decide) e1 i_En (pc := 8) (Ls := #[.val (.ref a1), .unset, .unset]) (st := [(.ref a1)]) (argsL := []) (rest := []) (by rw [hml]; rfl) (lenOf own_pd2 rfl) rfl rfl (Nat.le_of_eq rfl) (hb hby own_d5_8)
  obtain ⟨fa2, ta2, ea2, va2, fo2, ke2, kv2, ko2, rfl, K2, zf_fa2, zf_ta2, zf_ea2, zf_va2, zf_fo2, o2_0, o2_1, o2_2, o2_3, o2_4, o2_5, o2_6, o2_7, o2_8, o2_9, o2_10, o2_11, o2_12, o2_13⟩ := hq2
  refine own_via st2 ?_
  have sz_ea2 : h0.size ≤ ea2 := Nat.le_trans K0.1 zf_ea2
  have ne15 : a1 ≠ va2 := Nat.ne_of_lt (Nat.lt_of_lt_of_le i_En.lt zf_va2)
  have sz_va2 : h0.size ≤ va2 := Nat.le_trans K0.1 zf_va2
  have sz_fo2 : h0.size ≤ fo2 := Nat.le_trans K0.1 zf_fo2
  have f26 := i_Acb.keep K2 (by simp only [List.mem_cons, List.not_mem_nil, or_false, not_or]; exact (Ne.symm ne_a1_cb))
  have f27 := own_staK i_S1 K2 (fun x hx => by simp only [List.mem_cons, List.not_mem_nil, or_false] at hx; rcases hx with rfl <;> first | exact i_En.nostat)
  have Kp28 := K0.trans K2 (fun x hx => by simp only [List.mem_cons, List.not_mem_nil, or_false] at hx; rcases hx with rfl <;> first | exact (Or.inl (List.mem_of_getElem? (i := 0) rfl)))
  have Zs29 : n0 ≤ h2.size := Nat.le_trans Z0 K2.1
  show own_H T2 11 #[.val (.ref a1), .unset, .unset] []
  clear i_En i_N_from i_N_to i_N_capacity i_N_nodes i_N_firstArc i_N_edges i_N_target i_N_edgeAt i_N_reverse i_N_forward i_Afb i_Atb i_Acb i_S1 K0
  refine own_via (fun t k => XS.iconst X2.here hx rfl (hb hby own_d5_11) k) ?_
  refine own_via (fun t k => XS.aloadN X2.here hx rfl (hb hby own_d5_12) rfl rfl k) ?_
  show own_H T2 13 #[.val (.ref a1), .unset, .unset] [(.ref a1), (.int (2 : Int32))]
  obtain ⟨T30, X30, e30, st30⟩ := getF X2 hx hZ hown (host := "") (Or.inl (own_u hw 26 rfl)) Via.refl e2 o2_6 (g := (mkF m 13 #[.val (.ref a1), .unset, .unset] [(.ref a1), (.int (2 : Int32))])) rfl rfl (hb hby own_d5_13)
  refine own_via st30 ?_
  show own_H T30 16 #[.val (.ref a1), .unset, .unset] [(.int (2 : Int32)), (.int (2 : Int32))]
  refine own_via (fun t k => XS.imul X30.here hx rfl (hb hby own_d5_16) rfl k) ?_
  show own_H T30 17 #[.val (.ref a1), .unset, .unset] [(.int (4 : Int32))]
  obtain ⟨T31, h31, k31, b31, X31, e31, E31, ga31, V31, Ex31, st31⟩ := own_newA X30 hx hZ (own_u hw 10 rfl) e30 (pc := 17) (Ls := #[.val (.ref a1), .unset, .unset]) (rest := []) (hb hby own_d5_17) (n := (4 : Int32)) (by decide) (cap := 4) (by decide) (by decide) (by decide) (by decide) 4 rfl
  refine own_via st31 ?_
  have sz_b31 : h0.size ≤ b31 := Nat.le_trans Kp28.1 (Nat.le_of_eq ga31.symm)
  have ne32 : a1 ≠ b31 := Nat.ne_of_lt (Nat.lt_of_lt_of_le o2_0.lt (Nat.le_of_eq ga31.symm))
  have ne35 : cb ≠ b31 := Nat.ne_of_lt (Nat.lt_of_lt_of_le f26.lt (Nat.le_of_eq ga31.symm))
  have ne36 : ea2 ≠ b31 := Nat.ne_of_lt (Nat.lt_of_lt_of_le o2_11.lt (Nat.le_of_eq ga31.symm))
  have ne37 : va2 ≠ b31 := Nat.ne_of_lt (Nat.lt_of_lt_of_le o2_12.lt (Nat.le_of_eq ga31.symm))
  have ne38 : fo2 ≠ b31 := Nat.ne_of_lt (Nat.lt_of_lt_of_le o2_13.lt (Nat.le_of_eq ga31.symm))
  have f39 := o2_0.ext E31
  have f42 := f26.ext E31
  have f43 := f27.ext E31
  have f46 := o2_3.ext E31
  have f47 := o2_4.ext E31
  have f48 := o2_5.ext E31
  have f49 := o2_6.ext E31
  have f50 := o2_7.ext E31
  have f51 := o2_8.ext E31
  have f52 := o2_9.ext E31
  have f53 := o2_10.ext E31
  have f54 := o2_11.ext E31
  have f55 := o2_12.ext E31
  have f56 := o2_13.ext E31
  have Kp57 := Kp28.ext E31
  have f58 : Arv Z h31 b31 k31 .int (4 : Int32) [(.int (0 : Int32)), (.int (0 : Int32)), (.int (0 : Int32)), (.int (0 : Int32))] (.int (0 : Int32)) := V31
  have g_b31 : n0 ≤ b31 := Nat.le_trans Zs29 (Nat.le_of_eq ga31.symm)
  have Zs59 : n0 ≤ h31.size := Nat.le_trans Zs29 E31.1
  show own_H T31 19 #[.val (.ref a1), .unset, .unset] [(.ref b31)]
  clear o2_0 f26 f27 o2_1 o2_2 o2_3 o2_4 o2_5 o2_6 o2_7 o2_8 o2_9 o2_10 o2_11 o2_12 o2_13 Kp28 Zs29
  refine own_via (fun t k => XS.astoreN X31.here hx rfl (hb hby own_d5_19) rfl rfl (l' := #[.val (.ref a1), .val (.ref b31), .unset]) rfl k) ?_
  refine own_via (fun t k => XS.iconst X31.here hx rfl (hb hby own_d5_20) k) ?_
  show own_H T31 21 #[.val (.ref a1), .val (.ref b31), .unset] [(.int (0 : Int32))]
  refine own_via (fun t k => XS.istoreN X31.here hx rfl (hb hby own_d5_21) rfl (l' := #[.val (.ref a1), .val (.ref b31), .val (.int (0 : Int32))]) rfl k) ?_
  refine own_via (fun t k => XS.iloadN X31.here hx rfl (hb hby own_d5_22) rfl k) ?_
  refine own_via (fun t k => XS.aloadN X31.here hx rfl (hb hby own_d5_23) rfl rfl k) ?_
  show own_H T31 24 #[.val (.ref a1), .val (.ref b31), .val (.int (0 : Int32))] [(.ref a1), (.int (0 : Int32))]
  obtain ⟨T60, X60, e60, st60⟩ := getF X31 hx hZ hown (host := "") (Or.inl (own_u hw 26 rfl)) Via.refl e31 f49 (g := (mkF m 24 #[.val (.ref a1), .val (.ref b31), .val (.int (0 : Int32))] [(.ref a1), (.int (0 : Int32))])) rfl rfl (hb hby own_d5_24)
  refine own_via st60 ?_
  show own_H T60 27 #[.val (.ref a1), .val (.ref b31), .val (.int (0 : Int32))] [(.int (2 : Int32)), (.int (0 : Int32))]
  refine own_via (fun t k => XS.icmpNo X60.here hx rfl (hb hby own_d5_27) rfl (tlt (by decide : (0 : Int32) < (2 : Int32))).2.1 k) ?_
  show own_H T60 30 #[.val (.ref a1), .val (.ref b31), .val (.int (0 : Int32))] []
  refine own_via (fun t k => XS.aloadN X60.here hx rfl (hb hby own_d5_30) rfl rfl k) ?_
  refine own_via (fun t k => XS.aloadN X60.here hx rfl (hb hby own_d5_31) rfl rfl k) ?_
  show own_H T60 32 #[.val (.ref a1), .val (.ref b31), .val (.int (0 : Int32))] [(.ref a1), (.ref b31)]
  obtain ⟨T61, X61, e61, st61⟩ := getF X60 hx hZ hown (host := "") (Or.inl (own_u hw 48 rfl)) Via.refl e60 f53 (g := (mkF m 32 #[.val (.ref a1), .val (.ref b31), .val (.int (0 : Int32))] [(.ref a1), (.ref b31)])) rfl rfl (hb hby own_d5_32)
  refine own_via st61 ?_
  show own_H T61 35 #[.val (.ref a1), .val (.ref b31), .val (.int (0 : Int32))] [(.ref fo2), (.ref b31)]
  refine own_via (fun t k => XS.iloadN X61.here hx rfl (hb hby own_d5_35) rfl k) ?_
  show own_H T61 36 #[.val (.ref a1), .val (.ref b31), .val (.int (0 : Int32))] [(.int (0 : Int32)), (.ref fo2), (.ref b31)]
  refine own_via (own_ldI X61 hx hZ e61 f56 (j := (0 : Int32)) ⟨by decide, by decide⟩ (v := (.int (own_Vig_66 c1 t0 h0_ t1 h1_))) rfl (pc := 36) (Ls := #[.val (.ref a1), .val (.ref b31), .val (.int (0 : Int32))]) (rest := [(.ref b31)]) (hb hby own_d5_36)) ?_
  show own_H T61 37 #[.val (.ref a1), .val (.ref b31), .val (.int (0 : Int32))] [(.int (own_Vig_66 c1 t0 h0_ t1 h1_)), (.ref b31)]
  refine own_via (fun t k => XS.aloadN X61.here hx rfl (hb hby own_d5_37) rfl rfl k) ?_
  show own_H T61 38 #[.val (.ref a1), .val (.ref b31), .val (.int (0 : Int32))] [(.ref a1), (.int (own_Vig_66 c1 t0 h0_ t1 h1_)), (.ref b31)]
  obtain ⟨T62, X62, e62, st62⟩ := getF X61 hx hZ hown (host := "") (Or.inl (own_u hw 15 rfl)) Via.refl e61 f46 (g := (mkF m 38 #[.val (.ref a1), .val (.ref b31), .val (.int (0 : Int32))] [(.ref a1), (.int (own_Vig_66 c1 t0 h0_ t1 h1_)), (.ref b31)])) rfl rfl (hb hby own_d5_38)
  refine own_via st62 ?_
  show own_H T62 41 #[.val (.ref a1), .val (.ref b31), .val (.int (0 : Int32))] [(.ref cb), (.int (own_Vig_66 c1 t0 h0_ t1 h1_)), (.ref b31)]
  refine own_via (fun t k => XS.iloadN X62.here hx rfl (hb hby own_d5_41) rfl k) ?_
  show own_H T62 42 #[.val (.ref a1), .val (.ref b31), .val (.int (0 : Int32))] [(.int (0 : Int32)), (.ref cb), (.int (own_Vig_66 c1 t0 h0_ t1 h1_)), (.ref b31)]
  refine own_via (own_ldI X62 hx hZ e62 f42 (j := (0 : Int32)) ⟨by decide, by decide⟩ (v := (.int (own_F4 (1 : Int32) (536870911 : Int32)))) rfl (pc := 42) (Ls := #[.val (.ref a1), .val (.ref b31), .val (.int (0 : Int32))]) (rest := [(.int (own_Vig_66 c1 t0 h0_ t1 h1_)), (.ref b31)]) (hb hby own_d5_42)) ?_
  show own_H T62 43 #[.val (.ref a1), .val (.ref b31), .val (.int (0 : Int32))] [(.int (own_F4 (1 : Int32) (536870911 : Int32))), (.int (own_Vig_66 c1 t0 h0_ t1 h1_)), (.ref b31)]
  obtain ⟨T63, h63, L63, X63, N63, e63, W63, V63, st63⟩ := own_stS (L := ([(0 : Int32), (0 : Int32), (0 : Int32), (0 : Int32)] : List Int32)) X62 N2 hx hZ e62 f58 g_b31 (j := (own_Vig_66 c1 t0 h0_ t1 h1_)) (x := (own_F4 (1 : Int32) (536870911 : Int32))) (own_Hzg_0 c1 t0 h0_ t1 h1_ hp_hr) (pc := 43) (Ls := #[.val (.ref a1), .val (.ref b31), .val (.int (0 : Int32))]) (rest := []) (hb hby own_d5_43)
  refine own_via st63 ?_
  have f64 := f39.wr W63
  have f67 := f42.other W63 ne35
  have f68 := f43.wr W63
  have f71 := f46.other W63 (Or.inl ne32)
  have f72 := f47.other W63 (Or.inl ne32)
  have f73 := f48.other W63 (Or.inl ne32)
  have f74 := f49.other W63 (Or.inl ne32)
  have f75 := f50.other W63 (Or.inl ne32)
  have f76 := f51.other W63 (Or.inl ne32)
  have f77 := f52.other W63 (Or.inl ne32)
  have f78 := f53.other W63 (Or.inl ne32)
  have f79 := f54.other W63 ne36
  have f80 := f55.other W63 ne37
  have f81 := f56.other W63 ne38
  have Kp82 := Kp57.wr W63 (Or.inr sz_b31)
  have f83 : Arv Z h63 b31 k31 .int (4 : Int32) ((own_Azg_1 c1 t0 h0_ t1 h1_).map Value.int) (.int (0 : Int32)) := V63
  have Zs84 : n0 ≤ h63.size := by rw [W63.size]; exact Zs59
  show own_H T63 44 #[.val (.ref a1), .val (.ref b31), .val (.int (0 : Int32))] []
  clear f39 f42 f43 f46 f47 f48 f49 f50 f51 f52 f53 f54 f55 f56 f58 Kp57 Zs59
  refine own_via (fun t k => XS.iinc X63.here hx rfl (hb hby own_d5_44) rfl (l' := #[.val (.ref a1), .val (.ref b31), .val (.int (1 : Int32))]) rfl k) ?_
  show own_H T63 47 #[.val (.ref a1), .val (.ref b31), .val (.int (1 : Int32))] []
  refine own_via (fun t k => XS.goto X63.here hx rfl (pc0 := 47) (pc' := 22) rfl (hb hby own_d5_47) (by decide) (by decide) k) ?_
  refine own_via (fun t k => XS.iloadN X63.here hx rfl (hb hby own_d5_22) rfl k) ?_
  refine own_via (fun t k => XS.aloadN X63.here hx rfl (hb hby own_d5_23) rfl rfl k) ?_
  show own_H T63 24 #[.val (.ref a1), .val (.ref b31), .val (.int (1 : Int32))] [(.ref a1), (.int (1 : Int32))]
  obtain ⟨T85, X85, e85, st85⟩ := getF X63 hx hZ hown (host := "") (Or.inl (own_u hw 26 rfl)) Via.refl e63 f74 (g := (mkF m 24 #[.val (.ref a1), .val (.ref b31), .val (.int (1 : Int32))] [(.ref a1), (.int (1 : Int32))])) rfl rfl (hb hby own_d5_24)
  refine own_via st85 ?_
  show own_H T85 27 #[.val (.ref a1), .val (.ref b31), .val (.int (1 : Int32))] [(.int (2 : Int32)), (.int (1 : Int32))]
  refine own_via (fun t k => XS.icmpNo X85.here hx rfl (hb hby own_d5_27) rfl (tlt (by decide : (1 : Int32) < (2 : Int32))).2.1 k) ?_
  show own_H T85 30 #[.val (.ref a1), .val (.ref b31), .val (.int (1 : Int32))] []
  refine own_via (fun t k => XS.aloadN X85.here hx rfl (hb hby own_d5_30) rfl rfl k) ?_
  refine own_via (fun t k => XS.aloadN X85.here hx rfl (hb hby own_d5_31) rfl rfl k) ?_
  show own_H T85 32 #[.val (.ref a1), .val (.ref b31), .val (.int (1 : Int32))] [(.ref a1), (.ref b31)]
  obtain ⟨T86, X86, e86, st86⟩ := getF X85 hx hZ hown (host := "") (Or.inl (own_u hw 48 rfl)) Via.refl e85 f78 (g := (mkF m 32 #[.val (.ref a1), .val (.ref b31), .val (.int (1 : Int32))] [(.ref a1), (.ref b31)])) rfl rfl (hb hby own_d5_32)
  refine own_via st86 ?_
  show own_H T86 35 #[.val (.ref a1), .val (.ref b31), .val (.int (1 : Int32))] [(.ref fo2), (.ref b31)]
  refine own_via (fun t k => XS.iloadN X86.here hx rfl (hb hby own_d5_35) rfl k) ?_
  show own_H T86 36 #[.val (.ref a1), .val (.ref b31), .val (.int (1 : Int32))] [(.int (1 : Int32)), (.ref fo2), (.ref b31)]
  refine own_via (own_ldI X86 hx hZ e86 f81 (j := (1 : Int32)) ⟨by decide, by decide⟩ (v := (.int (own_Vig_82 c1 t0 h0_ t1 h1_))) rfl (pc := 36) (Ls := #[.val (.ref a1), .val (.ref b31), .val (.int (1 : Int32))]) (rest := [(.ref b31)]) (hb hby own_d5_36)) ?_
  show own_H T86 37 #[.val (.ref a1), .val (.ref b31), .val (.int (1 : Int32))] [(.int (own_Vig_82 c1 t0 h0_ t1 h1_)), (.ref b31)]
  refine own_via (fun t k => XS.aloadN X86.here hx rfl (hb hby own_d5_37) rfl rfl k) ?_
  show own_H T86 38 #[.val (.ref a1), .val (.ref b31), .val (.int (1 : Int32))] [(.ref a1), (.int (own_Vig_82 c1 t0 h0_ t1 h1_)), (.ref b31)]
  obtain ⟨T87, X87, e87, st87⟩ := getF X86 hx hZ hown (host := "") (Or.inl (own_u hw 15 rfl)) Via.refl e86 f71 (g := (mkF m 38 #[.val (.ref a1), .val (.ref b31), .val (.int (1 : Int32))] [(.ref a1), (.int (own_Vig_82 c1 t0 h0_ t1 h1_)), (.ref b31)])) rfl rfl (hb hby own_d5_38)
  refine own_via st87 ?_
  show own_H T87 41 #[.val (.ref a1), .val (.ref b31), .val (.int (1 : Int32))] [(.ref cb), (.int (own_Vig_82 c1 t0 h0_ t1 h1_)), (.ref b31)]
  refine own_via (fun t k => XS.iloadN X87.here hx rfl (hb hby own_d5_41) rfl k) ?_
  show own_H T87 42 #[.val (.ref a1), .val (.ref b31), .val (.int (1 : Int32))] [(.int (1 : Int32)), (.ref cb), (.int (own_Vig_82 c1 t0 h0_ t1 h1_)), (.ref b31)]
  refine own_via (own_ldI X87 hx hZ e87 f67 (j := (1 : Int32)) ⟨by decide, by decide⟩ (v := (.int (own_F4 (1 : Int32) (536870911 : Int32)))) rfl (pc := 42) (Ls := #[.val (.ref a1), .val (.ref b31), .val (.int (1 : Int32))]) (rest := [(.int (own_Vig_82 c1 t0 h0_ t1 h1_)), (.ref b31)]) (hb hby own_d5_42)) ?_
  show own_H T87 43 #[.val (.ref a1), .val (.ref b31), .val (.int (1 : Int32))] [(.int (own_F4 (1 : Int32) (536870911 : Int32))), (.int (own_Vig_82 c1 t0 h0_ t1 h1_)), (.ref b31)]
  obtain ⟨T88, h88, L88, X88, N88, e88, W88, V88, st88⟩ := own_stS (L := (own_Azg_1 c1 t0 h0_ t1 h1_)) X87 N63 hx hZ e87 f83 g_b31 (j := (own_Vig_82 c1 t0 h0_ t1 h1_)) (x := (own_F4 (1 : Int32) (536870911 : Int32))) (own_Hzg_2 c1 t0 h0_ t1 h1_ hp_hr) (pc := 43) (Ls := #[.val (.ref a1), .val (.ref b31), .val (.int (1 : Int32))]) (rest := []) (hb hby own_d5_43)
  refine own_via st88 ?_
  have f89 := f64.wr W88
  have f93 := f68.wr W88
  have f97 := f72.other W88 (Or.inl ne32)
  have f98 := f73.other W88 (Or.inl ne32)
  have f99 := f74.other W88 (Or.inl ne32)
  have f100 := f75.other W88 (Or.inl ne32)
  have f101 := f76.other W88 (Or.inl ne32)
  have f102 := f77.other W88 (Or.inl ne32)
  have f103 := f78.other W88 (Or.inl ne32)
  have f104 := f79.other W88 ne36
  have f105 := f80.other W88 ne37
  have f106 := f81.other W88 ne38
  have Kp107 := Kp82.wr W88 (Or.inr sz_b31)
  have f108 : Arv Z h88 b31 k31 .int (4 : Int32) ((own_Azg_3 c1 t0 h0_ t1 h1_).map Value.int) (.int (0 : Int32)) := V88
  have Zs109 : n0 ≤ h88.size := by rw [W88.size]; exact Zs84
  show own_H T88 44 #[.val (.ref a1), .val (.ref b31), .val (.int (1 : Int32))] []
  clear f64 f67 f68 f71 f72 f73 f74 f75 f76 f77 f78 f79 f80 f81 f83 Kp82 Zs84
  refine own_via (fun t k => XS.iinc X88.here hx rfl (hb hby own_d5_44) rfl (l' := #[.val (.ref a1), .val (.ref b31), .val (.int (2 : Int32))]) rfl k) ?_
  show own_H T88 47 #[.val (.ref a1), .val (.ref b31), .val (.int (2 : Int32))] []
  refine own_via (fun t k => XS.goto X88.here hx rfl (pc0 := 47) (pc' := 22) rfl (hb hby own_d5_47) (by decide) (by decide) k) ?_
  refine own_via (fun t k => XS.iloadN X88.here hx rfl (hb hby own_d5_22) rfl k) ?_
  refine own_via (fun t k => XS.aloadN X88.here hx rfl (hb hby own_d5_23) rfl rfl k) ?_
  show own_H T88 24 #[.val (.ref a1), .val (.ref b31), .val (.int (2 : Int32))] [(.ref a1), (.int (2 : Int32))]
  obtain ⟨T110, X110, e110, st110⟩ := getF X88 hx hZ hown (host := "") (Or.inl (own_u hw 26 rfl)) Via.refl e88 f99 (g := (mkF m 24 #[.val (.ref a1), .val (.ref b31), .val (.int (2 : Int32))] [(.ref a1), (.int (2 : Int32))])) rfl rfl (hb hby own_d5_24)
  refine own_via st110 ?_
  show own_H T110 27 #[.val (.ref a1), .val (.ref b31), .val (.int (2 : Int32))] [(.int (2 : Int32)), (.int (2 : Int32))]
  refine own_via (fun t k => XS.icmpYes X110.here hx rfl (pc0 := 27) (pc' := 50) rfl (hb hby own_d5_27) rfl (flt (by decide : ¬ ((2 : Int32) < (2 : Int32)))).2.1 (by decide) (by decide) k) ?_
  show own_H T110 50 #[.val (.ref a1), .val (.ref b31), .val (.int (2 : Int32))] []
  obtain ⟨T111, h111, b111, X111, e111, E111, ga111, A111, D111, st111⟩ := own_newO X110 hx hZ hown (own_u hw 59 rfl) (own_u hw 60 rfl) (own_u hw 61 rfl) e110 (pc := 50) (Ls := #[.val (.ref a1), .val (.ref b31), .val (.int (2 : Int32))]) (rest := []) (hb hby own_d5_50) (by decide) (by decide)
  refine own_via st111 ?_
  have sz_b111 : h0.size ≤ b111 := Nat.le_trans Kp107.1 (Nat.le_of_eq ga111.symm)
  have ne112 : a1 ≠ b111 := Nat.ne_of_lt (Nat.lt_of_lt_of_le f89.lt (Nat.le_of_eq ga111.symm))
  have ne116 : ea2 ≠ b111 := Nat.ne_of_lt (Nat.lt_of_lt_of_le f104.lt (Nat.le_of_eq ga111.symm))
  have ne117 : va2 ≠ b111 := Nat.ne_of_lt (Nat.lt_of_lt_of_le f105.lt (Nat.le_of_eq ga111.symm))
  have ne118 : fo2 ≠ b111 := Nat.ne_of_lt (Nat.lt_of_lt_of_le f106.lt (Nat.le_of_eq ga111.symm))
  have ne119 : b31 ≠ b111 := Nat.ne_of_lt (Nat.lt_of_lt_of_le f108.lt (Nat.le_of_eq ga111.symm))
  have f120 := f89.ext E111
  have f124 := f93.ext E111
  have f128 := f97.ext E111
  have f129 := f98.ext E111
  have f131 := f100.ext E111
  have f132 := f101.ext E111
  have f133 := f102.ext E111
  have f134 := f103.ext E111
  have f135 := f104.ext E111
  have f136 := f105.ext E111
  have f137 := f106.ext E111
  have f138 := f108.ext E111
  have Kp139 := Kp107.ext E111
  have f140 : Fld Z h111 b111 own_cF "open" own_dB .null := D111 (Or.inr (own_u hw 89 rfl)) (ty := (.object "java/util/BitSet")) (by decide)
  have f141 : Fld Z h111 b111 own_cF "openReverse" own_dB .null := D111 (Or.inr (own_u hw 91 rfl)) (ty := (.object "java/util/BitSet")) (by decide)
  have f142 : Fld Z h111 b111 own_cF "removed" own_dB .null := D111 (Or.inr (own_u hw 93 rfl)) (ty := (.object "java/util/BitSet")) (by decide)
  have f143 : Fld Z h111 b111 own_cF "journal" "[I" .null := D111 (Or.inl (own_u hw 95 rfl)) (ty := (.array .int)) (by decide)
  have f144 : Fld Z h111 b111 own_cF "reachable" own_dS .null := D111 (Or.inr (own_u hw 111 rfl)) (ty := (.object "com/example/dissoc/dissoc/mincut/Flow$Side")) (by decide)
  have f145 : Fld Z h111 b111 own_cF "reaching" own_dS .null := D111 (Or.inr (own_u hw 113 rfl)) (ty := (.object "com/example/dissoc/dissoc/mincut/Flow$Side")) (by decide)
  have f146 : Fld Z h111 b111 own_cF "network" own_dN .null := D111 (Or.inr (own_u hw 115 rfl)) (ty := (.object "com/example/dissoc/dissoc/mincut/FlowNetwork")) (by decide)
  have f147 : Fld Z h111 b111 own_cF "residual" "[I" .null := D111 (Or.inr (own_u hw 117 rfl)) (ty := (.array .int)) (by decide)
  have f148 : Fld Z h111 b111 own_cF "firstArc" "[I" .null := D111 (Or.inr (own_u hw 124 rfl)) (ty := (.array .int)) (by decide)
  have f149 : Fld Z h111 b111 own_cF "target" "[I" .null := D111 (Or.inr (own_u hw 131 rfl)) (ty := (.array .int)) (by decide)
  have f150 : Fld Z h111 b111 own_cF "reverse" "[I" .null := D111 (Or.inr (own_u hw 138 rfl)) (ty := (.array .int)) (by decide)
  have f151 : Fld Z h111 b111 own_cF "fromSources" "[I" .null := D111 (Or.inr (own_u hw 186 rfl)) (ty := (.array .int)) (by decide)
  have f152 : Fld Z h111 b111 own_cF "towardsSinks" "[I" .null := D111 (Or.inr (own_u hw 188 rfl)) (ty := (.array .int)) (by decide)
  have f153 : Fld Z h111 b111 own_cF "stampFrom" "[I" .null := D111 (Or.inr (own_u hw 190 rfl)) (ty := (.array .int)) (by decide)
  have f154 : Fld Z h111 b111 own_cF "stampTowards" "[I" .null := D111 (Or.inr (own_u hw 192 rfl)) (ty := (.array .int)) (by decide)
  have f155 : Fld Z h111 b111 own_cF "queueFrom" "[I" .null := D111 (Or.inr (own_u hw 194 rfl)) (ty := (.array .int)) (by decide)
  have f156 : Fld Z h111 b111 own_cF "queueTowards" "[I" .null := D111 (Or.inr (own_u hw 196 rfl)) (ty := (.array .int)) (by decide)
  have f157 : Fld Z h111 b111 own_cF "pathBack" "[I" .null := D111 (Or.inr (own_u hw 198 rfl)) (ty := (.array .int)) (by decide)
  have f158 : Fld Z h111 b111 own_cF "pathAhead" "[I" .null := D111 (Or.inr (own_u hw 200 rfl)) (ty := (.array .int)) (by decide)
  have g_b111 : n0 ≤ b111 := Nat.le_trans Zs109 (Nat.le_of_eq ga111.symm)
  have Zs159 : n0 ≤ h111.size := Nat.le_trans Zs109 E111.1
  show own_H T111 53 #[.val (.ref a1), .val (.ref b31), .val (.int (2 : Int32))] [(.ref b111)]
  clear f89 f93 f97 f98 f99 f100 f101 f102 f103 f104 f105 f106 f108 Kp107 Zs109
  refine own_via (fun t k => XS.dup X111.here hx rfl (hb hby own_d5_53) rfl rfl k) ?_
  refine own_via (fun t k => XS.aloadN X111.here hx rfl (hb hby own_d5_54) rfl rfl k) ?_
  refine own_via (fun t k => XS.aloadN X111.here hx rfl (hb hby own_d5_55) rfl rfl k) ?_
  show own_H T111 56 #[.val (.ref a1), .val (.ref b31), .val (.int (2 : Int32))] [(.ref b31), (.ref a1), (.ref b111), (.ref b111)]
  have f160 : Arv Z h111 b31 k31 .int (4 : Int32) [(.int (own_get (own_Azg_3 c1 t0 h0_ t1 h1_) (0 : Int32))), (.int (own_get (own_Azg_3 c1 t0 h0_ t1 h1_) (1 : Int32))), (.int (own_get (own_Azg_3 c1 t0 h0_ t1 h1_) (2 : Int32))), (.int (own_get (own_Azg_3 c1 t0 h0_ t1 h1_) (3 : Int32)))] (.int (0 : Int32)) := by have q := f138; rw [own_four _ (own_Hzg_4 c1 t0 h0_ t1 h1_ hp_hr)] at q; exact q
  have f161 : Arv Z h111 va2 kv2 .int (4 : Int32) [(.int (own_get (own_Aig_98 c1 t0 h0_ t1 h1_) (0 : Int32))), (.int (own_get (own_Aig_98 c1 t0 h0_ t1 h1_) (1 : Int32))), (.int (own_get (own_Aig_98 c1 t0 h0_ t1 h1_) (2 : Int32))), (.int (own_get (own_Aig_98 c1 t0 h0_ t1 h1_) (3 : Int32)))] (.int (0 : Int32)) := by have q := f136; rw [own_four _ (own_Hzg_5 c1 t0 h0_ t1 h1_ hp_hr)] at q; exact q
  obtain ⟨v162, T162, h162, L162, X162, N162, e162, hq162, st162⟩ := own_callI (y := (⟨"com/example/dissoc/dissoc/mincut/Flow", "<init>", "(Lcom/example/dissoc/dissoc/mincut/FlowNetwork;[I)V"⟩ : MethodName)) (W := 1) (a := b111) X111 N88 hx hZ rfl hown (own_u hw 62 rfl) (own_u hw 63 rfl) (own_u hw 61 rfl) (own_u hw 64 rfl) (by decide) (own_fi l Z a0 hw [] b111 a1 b31 c1 fa2 ta2 va2 k31 kv2 (own_get (own_Azg_3 c1 t0 h0_ t1 h1_) (0 : Int32)) (own_get (own_Azg_3 c1 t0 h0_ t1 h1_) (1 : Int32)) (own_get (own_Azg_3 c1 t0 h0_ t1 h1_) (2 : Int32)) (own_get (own_Azg_3 c1 t0 h0_ t1 h1_) (3 : Int32)) (own_get (own_Aig_98 c1 t0 h0_ t1 h1_) (0 : Int32)) (own_get (own_Aig_98 c1 t0 h0_ t1 h1_) (1 : Int32)) (own_get (own_Aig_98 c1 t0 h0_ t1 h1_) (2 : Int32)) (own_get (own_Aig_98 c1 t0 h0_ t1 h1_) (3 : Int32)) h111 n0 Zs159 A111 f140 f141 f142 f143 f144 f145 f146 f147 f148 f149 f150 f151 f152 f153 f154 f155 f156 f157 f158 f120 f128 f129 f131 f133 f160 f161 f124 g_b111 g_b31 (Ne.symm ne112) (Ne.symm ne119) (Ne.symm ne117) ne32 ne15 (Ne.symm ne37) (own_Hzg_6 c1 t0 h0_ t1 h1_ hp_hr) (own_Hzg_7 c1 t0 h0_ t1 h1_ hp_hr) (own_Hzg_8 c1 t0 h0_ t1 h1_ hp_hr) (own_Hzg_9 c1 t0 h0_ t1 h1_ hp_hr) (own_Hzg_10 c1 t0 h0_ t1 h1_ hp_hr) (own_Hzg_11 c1 t0 h0_ t1 h1_ hp_hr) (own_Hzg_12 c1 t0 h0_ t1 h1_ hp_hr) (own_Hzg_13 c1 t0 h0_ t1 h1_ hp_hr) (own_Hzg_14 c1 t0 h0_ t1 h1_ hp_hr) (own_Hzg_15 c1 t0 h0_ t1 h1_ hp_hr)) (by decide) (by decide) (by decide) (by decide) e111 (pc := 56) (Ls := #[.val (.ref a1), .val (.ref b31), .val (.int (2 : Int32))]) (st := [(.ref b31), (.ref a1), (.ref b111), (.ref b111)]) (argsL := [(.ref a1), (.ref b31)]) (rest := [(.ref b111)]) (by rw [hml]; rfl) (lenOf own_pd9 rfl) rfl rfl (Nat.le_of_eq rfl) (hb hby own_d5_56)
  obtain ⟨rfl, K162⟩ := hq162
  refine own_via st162 ?_
  have f163 := f120.keep K162
  have f175 := f132.keep K162 (by simp only [List.mem_cons, List.not_mem_nil, or_false, not_or]; exact ⟨ne112, ne32⟩)
  have f176 := f133.keep K162 (by simp only [List.mem_cons, List.not_mem_nil, or_false, not_or]; exact ⟨ne112, ne32⟩)
  have f177 := f134.keep K162 (by simp only [List.mem_cons, List.not_mem_nil, or_false, not_or]; exact ⟨ne112, ne32⟩)
  have f178 := f135.keep K162 (by simp only [List.mem_cons, List.not_mem_nil, or_false, not_or]; exact ⟨ne116, ne36⟩)
  have f179 := f161.keep K162 (by simp only [List.mem_cons, List.not_mem_nil, or_false, not_or]; exact ⟨ne117, ne37⟩)
  have f180 := f137.keep K162 (by simp only [List.mem_cons, List.not_mem_nil, or_false, not_or]; exact ⟨ne118, ne38⟩)
  have Kp182 := Kp139.trans K162 (fun x hx => by simp only [List.mem_cons, List.not_mem_nil, or_false] at hx; rcases hx with rfl | rfl <;> first | exact (Or.inr sz_b111) | exact (Or.inr sz_b31))
  show own_H T162 59 #[.val (.ref a1), .val (.ref b31), .val (.int (2 : Int32))] [(.ref b111)]
  clear f120 f124 f128 f129 f131 f132 f133 f134 f135 f161 f137 f160 A111 f140 f141 f142 f143 f144 f145 f146 f147 f148 f149 f150 f151 f152 f153 f154 f155 f156 f157 f158 Kp139 Zs159
  exact own_retA X162 hx Bd.returns rfl rfl Bd.notSynchronized (hb hby own_d5_59) (by rw [e162]; exact ⟨N162, b111, ea2, va2, fo2, ke2, kv2, ko2, rfl, Kp182, sz_b111, sz_ea2, sz_va2, sz_fo2, f163, f175, f176, f177, f178, f179, f180⟩) (by decide) (by decide)
theorem own_d25_0 : decode prog_28_method_12_code 0 = .ok (.aload_n 0, 1) := by decide +kernel
theorem own_d25_1 : decode prog_28_method_12_code 1 = .ok (.getfield 54, 3) := by decide +kernel
theorem own_d25_4 : decode prog_28_method_12_code 4 = .ok (.iload_n 1, 1) := by decide +kernel
theorem own_d25_5 : decode prog_28_method_12_code 5 = .ok (.iaload, 1) := by decide +kernel
theorem own_d25_6 : decode prog_28_method_12_code 6 = .ok (.ireturn, 1) := by decide +kernel
abbrev own_fw0_R : Room := { frames := 0, cells := 0, slots := 0, locals := 0 }
theorem own_pn25 : plainFor (⟨"com/example/dissoc/dissoc/mincut/FlowNetwork", "forwardArc", "(I)I"⟩ : MethodName) = true := plainFor_of_name (by first | (simp [plainName, overriddenIn]; done) | decide +kernel)
theorem own_fw0_ef (m : MethodId) (a1 : Addr) : entryFrame m #[(.ref a1), (.int (0 : Int32))] 2 = mkF m 0 #[.val (.ref a1), .val (.int (0 : Int32))] [] := by first | (simp [entryFrame, mkF, argsToLocals, Value.category]; done) | rfl
set_option maxRecDepth 65536 in
set_option maxHeartbeats 40000000 in
theorem own_fw0 (l : Launch) (Z : State) (a0 : Array Value) (hw : ∀ d ∈ tables_1, d.before a0 Z = true) (ws : List Jvm.Cond) (a1 : Addr) (fo : Addr) (ko : ClassId) (f_0 : Int32) (f_1 : Int32) (h0 : Heap)  (i_N_f : Fld Z h0 a1 own_cN "forward" "[I" (.ref fo)) (i_A_fo : Arv Z h0 fo ko .int (2 : Int32) [(.int f_0), (.int f_1)] (.int (0 : Int32))) :
    own_C l Z (⟨"com/example/dissoc/dissoc/mincut/FlowNetwork", "forwardArc", "(I)I"⟩ : MethodName) prog_28_method_12_code 2 (some .int) ws own_fw0_R #[(.ref a1), (.int (0 : Int32))] h0 (own_Q (.int f_0) h0) := by
  refine MetFree.of_bodySF own_pn25 hisR ?_
  intro p e s m args below meth c s₁ Bd hml0 hP hK
  obtain ⟨rfl, hZ, hh⟩ := hP
  have hx := Bd.exec
  have hby := Bd.bytes
  have hml : c.maxLocals = 2 := hml0
  have hown : s.vm.findClass "com/example/dissoc/dissoc/mincut/FlowNetwork" = some m.cls := findClass_of_methodNamed Bd.named
  have hnm := (name_of_methodNamed Bd.named Bd.method).1
  have X0 : Stand p l e own_fw0_R s m #[(.ref a1), (.int (0 : Int32))] below meth c s₁ [] 0 0 := Stand.of_body Bd
  have e0 : s₁.heap = h0 := by rw [← hh, Bd.state]; rfl
  show own_G p e below (own_P s (own_Q (.int f_0) h0) own_fw0_R.cells own_fw0_R.slots) (s₁.setTop (entryFrame m #[(.ref a1), (.int (0 : Int32))] 2))
  rw [own_fw0_ef m a1]
  show own_H s₁ 0 #[.val (.ref a1), .val (.int (0 : Int32))] []
  refine own_via (fun t k => XS.aloadN X0.here hx rfl (hb hby own_d25_0) rfl rfl k) ?_
  show own_H s₁ 1 #[.val (.ref a1), .val (.int (0 : Int32))] [(.ref a1)]
  obtain ⟨T1, X1, e1, st1⟩ := getF X0 hx hZ hown (host := "") (Or.inl (own_u hw 48 rfl)) Via.refl e0 i_N_f (g := (mkF m 1 #[.val (.ref a1), .val (.int (0 : Int32))] [(.ref a1)])) rfl rfl (hb hby own_d25_1)
  refine own_via st1 ?_
  show own_H T1 4 #[.val (.ref a1), .val (.int (0 : Int32))] [(.ref fo)]
  refine own_via (fun t k => XS.iloadN X1.here hx rfl (hb hby own_d25_4) rfl k) ?_
  show own_H T1 5 #[.val (.ref a1), .val (.int (0 : Int32))] [(.int (0 : Int32)), (.ref fo)]
  refine own_via (own_ldI X1 hx hZ e1 i_A_fo (j := (0 : Int32)) ⟨by decide, by decide⟩ (v := (.int f_0)) rfl (pc := 5) (Ls := #[.val (.ref a1), .val (.int (0 : Int32))]) (rest := []) (hb hby own_d25_5)) ?_
  show own_H T1 6 #[.val (.ref a1), .val (.int (0 : Int32))] [(.int f_0)]
  exact own_retI X1 hx Bd.returns Bd.notSynchronized (hb hby own_d25_6) ⟨rfl, rfl, e1⟩ (by decide) (by decide)
abbrev own_fw1_R : Room := { frames := 0, cells := 0, slots := 0, locals := 0 }
theorem own_fw1_ef (m : MethodId) (a1 : Addr) : entryFrame m #[(.ref a1), (.int (1 : Int32))] 2 = mkF m 0 #[.val (.ref a1), .val (.int (1 : Int32))] [] := by first | (simp [entryFrame, mkF, argsToLocals, Value.category]; done) | rfl
set_option maxRecDepth 65536 in
set_option maxHeartbeats 40000000 in
theorem own_fw1 (l : Launch) (Z : State) (a0 : Array Value) (hw : ∀ d ∈ tables_1, d.before a0 Z = true) (ws : List Jvm.Cond) (a1 : Addr) (fo : Addr) (ko : ClassId) (f_0 : Int32) (f_1 : Int32) (h0 : Heap)  (i_N_f : Fld Z h0 a1 own_cN "forward" "[I" (.ref fo)) (i_A_fo : Arv Z h0 fo ko .int (2 : Int32) [(.int f_0), (.int f_1)] (.int (0 : Int32))) :
    own_C l Z (⟨"com/example/dissoc/dissoc/mincut/FlowNetwork", "forwardArc", "(I)I"⟩ : MethodName) prog_28_method_12_code 2 (some .int) ws own_fw1_R #[(.ref a1), (.int (1 : Int32))] h0 (own_Q (.int f_1) h0) := by
  refine MetFree.of_bodySF own_pn25 hisR ?_
  intro p e s m args below meth c s₁ Bd hml0 hP hK
  obtain ⟨rfl, hZ, hh⟩ := hP
  have hx := Bd.exec
  have hby := Bd.bytes
  have hml : c.maxLocals = 2 := hml0
  have hown : s.vm.findClass "com/example/dissoc/dissoc/mincut/FlowNetwork" = some m.cls := findClass_of_methodNamed Bd.named
  have hnm := (name_of_methodNamed Bd.named Bd.method).1
  have X0 : Stand p l e own_fw1_R s m #[(.ref a1), (.int (1 : Int32))] below meth c s₁ [] 0 0 := Stand.of_body Bd
  have e0 : s₁.heap = h0 := by rw [← hh, Bd.state]; rfl
  show own_G p e below (own_P s (own_Q (.int f_1) h0) own_fw1_R.cells own_fw1_R.slots) (s₁.setTop (entryFrame m #[(.ref a1), (.int (1 : Int32))] 2))
  rw [own_fw1_ef m a1]
  show own_H s₁ 0 #[.val (.ref a1), .val (.int (1 : Int32))] []
  refine own_via (fun t k => XS.aloadN X0.here hx rfl (hb hby own_d25_0) rfl rfl k) ?_
  show own_H s₁ 1 #[.val (.ref a1), .val (.int (1 : Int32))] [(.ref a1)]
  obtain ⟨T1, X1, e1, st1⟩ := getF X0 hx hZ hown (host := "") (Or.inl (own_u hw 48 rfl)) Via.refl e0 i_N_f (g := (mkF m 1 #[.val (.ref a1), .val (.int (1 : Int32))] [(.ref a1)])) rfl rfl (hb hby own_d25_1)
  refine own_via st1 ?_
  show own_H T1 4 #[.val (.ref a1), .val (.int (1 : Int32))] [(.ref fo)]
  refine own_via (fun t k => XS.iloadN X1.here hx rfl (hb hby own_d25_4) rfl k) ?_
  show own_H T1 5 #[.val (.ref a1), .val (.int (1 : Int32))] [(.int (1 : Int32)), (.ref fo)]
  refine own_via (own_ldI X1 hx hZ e1 i_A_fo (j := (1 : Int32)) ⟨by decide, by decide⟩ (v := (.int f_1)) rfl (pc := 5) (Ls := #[.val (.ref a1), .val (.int (1 : Int32))]) (rest := []) (hb hby own_d25_5)) ?_
  show own_H T1 6 #[.val (.ref a1), .val (.int (1 : Int32))] [(.int f_1)]
  exact own_retI X1 hx Bd.returns Bd.notSynchronized (hb hby own_d25_6) ⟨rfl, rfl, e1⟩ (by decide) (by decide)
theorem own_d27_0 : decode prog_28_method_13_code 0 = .ok (.aload_n 0, 1) := by decide +kernel
theorem own_d27_1 : decode prog_28_method_13_code 1 = .ok (.getfield 54, 3) := by decide +kernel
theorem own_d27_4 : decode prog_28_method_13_code 4 = .ok (.aload_n 0, 1) := by decide +kernel
theorem own_d27_5 : decode prog_28_method_13_code 5 = .ok (.getfield 68, 3) := by decide +kernel
theorem own_d27_8 : decode prog_28_method_13_code 8 = .ok (.iload_n 1, 1) := by decide +kernel
theorem own_d27_9 : decode prog_28_method_13_code 9 = .ok (.iaload, 1) := by decide +kernel
theorem own_d27_10 : decode prog_28_method_13_code 10 = .ok (.iaload, 1) := by decide +kernel
theorem own_d27_11 : decode prog_28_method_13_code 11 = .ok (.iload_n 1, 1) := by decide +kernel
theorem own_d27_12 : decode prog_28_method_13_code 12 = .ok (.if_icmp .ne 7, 3) := by decide +kernel
theorem own_d27_15 : decode prog_28_method_13_code 15 = .ok (.iconst 1, 1) := by decide +kernel
theorem own_d27_16 : decode prog_28_method_13_code 16 = .ok (.goto 4, 3) := by decide +kernel
theorem own_d27_19 : decode prog_28_method_13_code 19 = .ok (.iconst 0, 1) := by decide +kernel
theorem own_d27_20 : decode prog_28_method_13_code 20 = .ok (.ireturn, 1) := by decide +kernel
abbrev own_isf_R : Room := { frames := 0, cells := 0, slots := 0, locals := 0 }
theorem own_pn27 : plainFor (⟨"com/example/dissoc/dissoc/mincut/FlowNetwork", "isForward", "(I)Z"⟩ : MethodName) = true := plainFor_of_name (by first | (simp [plainName, overriddenIn]; done) | decide +kernel)
theorem own_isf_ef (m : MethodId) (a1 : Addr) (p1 : Int32) : entryFrame m #[(.ref a1), (.int p1)] 2 = mkF m 0 #[.val (.ref a1), .val (.int p1)] [] := by first | (simp [entryFrame, mkF, argsToLocals, Value.category]; done) | rfl
def own_Fif (p1 : Int32) (L1 : List Int32) (L2 : List Int32) : Int32 := (if (own_get L1 (own_get L2 p1)) = p1 then (1 : Int32) else (0 : Int32))
set_option maxRecDepth 65536 in
set_option maxHeartbeats 40000000 in
theorem own_isf (l : Launch) (Z : State) (a0 : Array Value) (hw : ∀ d ∈ tables_1, d.before a0 Z = true) (ws : List Jvm.Cond) (a1 : Addr) (p1 : Int32) (fo : Addr) (ko : ClassId) (ea : Addr) (ke : ClassId) (L1 : List Int32) (L2 : List Int32) (h0 : Heap)  (i_N_f : Fld Z h0 a1 own_cN "forward" "[I" (.ref fo)) (i_A_fo : Arv Z h0 fo ko .int (2 : Int32) (L1.map Value.int) (.int (0 : Int32))) (i_N_e : Fld Z h0 a1 own_cN "edgeAt" "[I" (.ref ea)) (i_A_ea : Arv Z h0 ea ke .int (4 : Int32) (L2.map Value.int) (.int (0 : Int32))) (hp_h1 : own_in L2 p1 (4 : Int32)) (hp_h2 : own_in L1 (own_get L2 p1) (2 : Int32)) :
    own_C l Z (⟨"com/example/dissoc/dissoc/mincut/FlowNetwork", "isForward", "(I)Z"⟩ : MethodName) prog_28_method_13_code 2 (some .boolean) ws own_isf_R #[(.ref a1), (.int p1)] h0 (own_Q (.int (own_Fif p1 L1 L2)) h0) := by
  refine MetFree.of_bodySF own_pn27 hisR ?_
  intro p e s m args below meth c s₁ Bd hml0 hP hK
  obtain ⟨rfl, hZ, hh⟩ := hP
  have hx := Bd.exec
  have hby := Bd.bytes
  have hml : c.maxLocals = 2 := hml0
  have hown : s.vm.findClass "com/example/dissoc/dissoc/mincut/FlowNetwork" = some m.cls := findClass_of_methodNamed Bd.named
  have hnm := (name_of_methodNamed Bd.named Bd.method).1
  have X0 : Stand p l e own_isf_R s m #[(.ref a1), (.int p1)] below meth c s₁ [] 0 0 := Stand.of_body Bd
  have e0 : s₁.heap = h0 := by rw [← hh, Bd.state]; rfl
  show own_G p e below (own_P s (own_Q (.int (own_Fif p1 L1 L2)) h0) own_isf_R.cells own_isf_R.slots) (s₁.setTop (entryFrame m #[(.ref a1), (.int p1)] 2))
  rw [own_isf_ef m a1 p1]
  show own_H s₁ 0 #[.val (.ref a1), .val (.int p1)] []
  refine own_via (fun t k => XS.aloadN X0.here hx rfl (hb hby own_d27_0) rfl rfl k) ?_
  show own_H s₁ 1 #[.val (.ref a1), .val (.int p1)] [(.ref a1)]
  obtain ⟨T1, X1, e1, st1⟩ := getF X0 hx hZ hown (host := "") (Or.inl (own_u hw 48 rfl)) Via.refl e0 i_N_f (g := (mkF m 1 #[.val (.ref a1), .val (.int p1)] [(.ref a1)])) rfl rfl (hb hby own_d27_1)
  refine own_via st1 ?_
  show own_H T1 4 #[.val (.ref a1), .val (.int p1)] [(.ref fo)]
  refine own_via (fun t k => XS.aloadN X1.here hx rfl (hb hby own_d27_4) rfl rfl k) ?_
  show own_H T1 5 #[.val (.ref a1), .val (.int p1)] [(.ref a1), (.ref fo)]
  obtain ⟨T2, X2, e2, st2⟩ := getF X1 hx hZ hown (host := "") (Or.inl (own_u hw 44 rfl)) Via.refl e1 i_N_e (g := (mkF m 5 #[.val (.ref a1), .val (.int p1)] [(.ref a1), (.ref fo)])) rfl rfl (hb hby own_d27_5)
  refine own_via st2 ?_
  show own_H T2 8 #[.val (.ref a1), .val (.int p1)] [(.ref ea), (.ref fo)]
  refine own_via (fun t k => XS.iloadN X2.here hx rfl (hb hby own_d27_8) rfl k) ?_
  show own_H T2 9 #[.val (.ref a1), .val (.int p1)] [(.int p1), (.ref ea), (.ref fo)]
  refine own_via (own_ldS (L := L2) X2 hx hZ e2 i_A_ea (j := p1) hp_h1.1 (pc := 9) (Ls := #[.val (.ref a1), .val (.int p1)]) (rest := [(.ref fo)]) (hb hby own_d27_9)) ?_
  show own_H T2 10 #[.val (.ref a1), .val (.int p1)] [(.int (own_get L2 p1)), (.ref fo)]
  refine own_via (own_ldS (L := L1) X2 hx hZ e2 i_A_fo (j := (own_get L2 p1)) hp_h2.1 (pc := 10) (Ls := #[.val (.ref a1), .val (.int p1)]) (rest := []) (hb hby own_d27_10)) ?_
  show own_H T2 11 #[.val (.ref a1), .val (.int p1)] [(.int (own_get L1 (own_get L2 p1)))]
  refine own_via (fun t k => XS.iloadN X2.here hx rfl (hb hby own_d27_11) rfl k) ?_
  show own_H T2 12 #[.val (.ref a1), .val (.int p1)] [(.int p1), (.int (own_get L1 (own_get L2 p1)))]
  by_cases hc3 : (own_get L1 (own_get L2 p1)) = p1
  ·
    refine own_via (fun t k => XS.icmpNo X2.here hx rfl (hb hby own_d27_12) rfl (teq hc3).2 k) ?_
    show own_H T2 15 #[.val (.ref a1), .val (.int p1)] []
    refine own_via (fun t k => XS.iconst X2.here hx rfl (hb hby own_d27_15) k) ?_
    show own_H T2 16 #[.val (.ref a1), .val (.int p1)] [(.int (1 : Int32))]
    refine own_via (fun t k => XS.goto X2.here hx rfl (pc0 := 16) (pc' := 20) rfl (hb hby own_d27_16) (by decide) (by decide) k) ?_
    show own_H T2 20 #[.val (.ref a1), .val (.int p1)] [(.int (1 : Int32))]
    exact own_retN (t := .boolean) X2 hx Bd.returns (by simp) Bd.notSynchronized (hb hby own_d27_20) ⟨(by show (some (.int (1 : Int32)) : Option Value) = some (.int (own_Fif p1 L1 L2)); simp only [own_Fif, if_pos hp_h1, if_pos hp_h2, if_pos hc3]), rfl, e2⟩ (by decide) (by decide)
  ·
    refine own_via (fun t k => XS.icmpYes X2.here hx rfl (pc0 := 12) (pc' := 19) rfl (hb hby own_d27_12) rfl (feq hc3).2 (by decide) (by decide) k) ?_
    show own_H T2 19 #[.val (.ref a1), .val (.int p1)] []
    refine own_via (fun t k => XS.iconst X2.here hx rfl (hb hby own_d27_19) k) ?_
    show own_H T2 20 #[.val (.ref a1), .val (.int p1)] [(.int (0 : Int32))]
    exact own_retN (t := .boolean) X2 hx Bd.returns (by simp) Bd.notSynchronized (hb hby own_d27_20) ⟨(by show (some (.int (0 : Int32)) : Option Value) = some (.int (own_Fif p1 L1 L2)); simp only [own_Fif, if_pos hp_h1, if_pos hp_h2, if_neg hc3]), rfl, e2⟩ (by decide) (by decide)
theorem own_HL_0 : ∀ (vg1 vg2 vg3 vg4 vg5 : Int32) (hr : own_Rn vg1 vg2 vg3 vg4 vg5), ¬ ((own_F26 (own_Vig_66 vg1 vg2 vg3 vg4 vg5)) = (0 : Int32)) := own_all _ (by decide +kernel)
theorem own_HL_1 : ∀ (vg1 vg2 vg3 vg4 vg5 : Int32) (hr : own_Rn vg1 vg2 vg3 vg4 vg5), ¬ ((own_F26 (own_Vig_82 vg1 vg2 vg3 vg4 vg5)) = (0 : Int32)) := own_all _ (by decide +kernel)
theorem own_HL_2 : ∀ (vg1 vg2 vg3 vg4 vg5 : Int32) (hr : own_Rn vg1 vg2 vg3 vg4 vg5), ¬ ((own_Vig_66 vg1 vg2 vg3 vg4 vg5) = (own_Vig_82 vg1 vg2 vg3 vg4 vg5)) := own_all _ (by decide +kernel)
theorem own_HL_3 : ∀ (vg1 vg2 vg3 vg4 vg5 : Int32) (hr : own_Rn vg1 vg2 vg3 vg4 vg5), own_in ([(own_get (own_Aig_98 vg1 vg2 vg3 vg4 vg5) (0 : Int32)), (own_get (own_Aig_98 vg1 vg2 vg3 vg4 vg5) (1 : Int32)), (own_get (own_Aig_98 vg1 vg2 vg3 vg4 vg5) (2 : Int32)), (own_get (own_Aig_98 vg1 vg2 vg3 vg4 vg5) (3 : Int32))] : List Int32) (own_Vig_66 vg1 vg2 vg3 vg4 vg5) (4 : Int32) := own_all _ (by decide +kernel)
def own_VL_4 (vg1 vg2 vg3 vg4 vg5 : Int32) : Int32 := own_get ([(own_get (own_Aig_98 vg1 vg2 vg3 vg4 vg5) (0 : Int32)), (own_get (own_Aig_98 vg1 vg2 vg3 vg4 vg5) (1 : Int32)), (own_get (own_Aig_98 vg1 vg2 vg3 vg4 vg5) (2 : Int32)), (own_get (own_Aig_98 vg1 vg2 vg3 vg4 vg5) (3 : Int32))] : List Int32) (own_Vig_66 vg1 vg2 vg3 vg4 vg5)
theorem own_HL_5 : ∀ (vg1 vg2 vg3 vg4 vg5 : Int32) (hr : own_Rn vg1 vg2 vg3 vg4 vg5), own_in ([(own_get (own_Aig_98 vg1 vg2 vg3 vg4 vg5) (0 : Int32)), (own_get (own_Aig_98 vg1 vg2 vg3 vg4 vg5) (1 : Int32)), (own_get (own_Aig_98 vg1 vg2 vg3 vg4 vg5) (2 : Int32)), (own_get (own_Aig_98 vg1 vg2 vg3 vg4 vg5) (3 : Int32))] : List Int32) (own_Vig_82 vg1 vg2 vg3 vg4 vg5) (4 : Int32) := own_all _ (by decide +kernel)
def own_VL_6 (vg1 vg2 vg3 vg4 vg5 : Int32) : Int32 := own_get ([(own_get (own_Aig_98 vg1 vg2 vg3 vg4 vg5) (0 : Int32)), (own_get (own_Aig_98 vg1 vg2 vg3 vg4 vg5) (1 : Int32)), (own_get (own_Aig_98 vg1 vg2 vg3 vg4 vg5) (2 : Int32)), (own_get (own_Aig_98 vg1 vg2 vg3 vg4 vg5) (3 : Int32))] : List Int32) (own_Vig_82 vg1 vg2 vg3 vg4 vg5)
theorem own_HL_7 : ∀ (vg1 vg2 vg3 vg4 vg5 : Int32) (hr : own_Rn vg1 vg2 vg3 vg4 vg5), ¬ ((own_F26 (own_VL_4 vg1 vg2 vg3 vg4 vg5)) = (0 : Int32)) := own_all _ (by decide +kernel)
theorem own_HL_8 : ∀ (vg1 vg2 vg3 vg4 vg5 : Int32) (hr : own_Rn vg1 vg2 vg3 vg4 vg5), ¬ ((own_F26 (own_VL_6 vg1 vg2 vg3 vg4 vg5)) = (0 : Int32)) := own_all _ (by decide +kernel)
theorem own_HL_9 : ∀ (vg1 vg2 vg3 vg4 vg5 : Int32) (hr : own_Rn vg1 vg2 vg3 vg4 vg5), ¬ ((own_VL_4 vg1 vg2 vg3 vg4 vg5) = (own_VL_6 vg1 vg2 vg3 vg4 vg5)) := own_all _ (by decide +kernel)
theorem own_HL_10 : ∀ (vg1 vg2 vg3 vg4 vg5 : Int32) (hr : own_Rn vg1 vg2 vg3 vg4 vg5), ¬ ((own_VL_4 vg1 vg2 vg3 vg4 vg5) = (own_Vig_66 vg1 vg2 vg3 vg4 vg5)) := own_all _ (by decide +kernel)
theorem own_HL_11 : ∀ (vg1 vg2 vg3 vg4 vg5 : Int32) (hr : own_Rn vg1 vg2 vg3 vg4 vg5), ¬ ((own_VL_4 vg1 vg2 vg3 vg4 vg5) = (own_Vig_82 vg1 vg2 vg3 vg4 vg5)) := own_all _ (by decide +kernel)
theorem own_HL_12 : ∀ (vg1 vg2 vg3 vg4 vg5 : Int32) (hr : own_Rn vg1 vg2 vg3 vg4 vg5), ¬ ((own_VL_6 vg1 vg2 vg3 vg4 vg5) = (own_Vig_66 vg1 vg2 vg3 vg4 vg5)) := own_all _ (by decide +kernel)
theorem own_HL_13 : ∀ (vg1 vg2 vg3 vg4 vg5 : Int32) (hr : own_Rn vg1 vg2 vg3 vg4 vg5), ¬ ((own_VL_6 vg1 vg2 vg3 vg4 vg5) = (own_Vig_82 vg1 vg2 vg3 vg4 vg5)) := own_all _ (by decide +kernel)
theorem own_HL_14 : ∀ (vg1 vg2 vg3 vg4 vg5 : Int32) (hr : own_Rn vg1 vg2 vg3 vg4 vg5), own_in (own_Aig_94 vg1 vg2 vg3 vg4 vg5) (own_Vig_66 vg1 vg2 vg3 vg4 vg5) (4 : Int32) := own_all _ (by decide +kernel)
theorem own_HL_15 : ∀ (vg1 vg2 vg3 vg4 vg5 : Int32) (hr : own_Rn vg1 vg2 vg3 vg4 vg5), own_in ([(own_Vig_66 vg1 vg2 vg3 vg4 vg5), (own_Vig_82 vg1 vg2 vg3 vg4 vg5)] : List Int32) (own_get (own_Aig_94 vg1 vg2 vg3 vg4 vg5) (own_Vig_66 vg1 vg2 vg3 vg4 vg5)) (2 : Int32) := own_all _ (by decide +kernel)
theorem own_HL_16 : ∀ (vg1 vg2 vg3 vg4 vg5 : Int32) (hr : own_Rn vg1 vg2 vg3 vg4 vg5), own_in (own_Aig_94 vg1 vg2 vg3 vg4 vg5) (own_Vig_82 vg1 vg2 vg3 vg4 vg5) (4 : Int32) := own_all _ (by decide +kernel)
theorem own_HL_17 : ∀ (vg1 vg2 vg3 vg4 vg5 : Int32) (hr : own_Rn vg1 vg2 vg3 vg4 vg5), own_in ([(own_Vig_66 vg1 vg2 vg3 vg4 vg5), (own_Vig_82 vg1 vg2 vg3 vg4 vg5)] : List Int32) (own_get (own_Aig_94 vg1 vg2 vg3 vg4 vg5) (own_Vig_82 vg1 vg2 vg3 vg4 vg5)) (2 : Int32) := own_all _ (by decide +kernel)
theorem own_HL_18 : ∀ (vg1 vg2 vg3 vg4 vg5 : Int32) (hr : own_Rn vg1 vg2 vg3 vg4 vg5), own_in (own_Aig_94 vg1 vg2 vg3 vg4 vg5) (own_VL_4 vg1 vg2 vg3 vg4 vg5) (4 : Int32) := own_all _ (by decide +kernel)
theorem own_HL_19 : ∀ (vg1 vg2 vg3 vg4 vg5 : Int32) (hr : own_Rn vg1 vg2 vg3 vg4 vg5), own_in ([(own_Vig_66 vg1 vg2 vg3 vg4 vg5), (own_Vig_82 vg1 vg2 vg3 vg4 vg5)] : List Int32) (own_get (own_Aig_94 vg1 vg2 vg3 vg4 vg5) (own_VL_4 vg1 vg2 vg3 vg4 vg5)) (2 : Int32) := own_all _ (by decide +kernel)
theorem own_HL_20 : ∀ (vg1 vg2 vg3 vg4 vg5 : Int32) (hr : own_Rn vg1 vg2 vg3 vg4 vg5), own_in (own_Aig_94 vg1 vg2 vg3 vg4 vg5) (own_VL_6 vg1 vg2 vg3 vg4 vg5) (4 : Int32) := own_all _ (by decide +kernel)
theorem own_HL_21 : ∀ (vg1 vg2 vg3 vg4 vg5 : Int32) (hr : own_Rn vg1 vg2 vg3 vg4 vg5), own_in ([(own_Vig_66 vg1 vg2 vg3 vg4 vg5), (own_Vig_82 vg1 vg2 vg3 vg4 vg5)] : List Int32) (own_get (own_Aig_94 vg1 vg2 vg3 vg4 vg5) (own_VL_6 vg1 vg2 vg3 vg4 vg5)) (2 : Int32) := own_all _ (by decide +kernel)
theorem own_HL_22 : ∀ (vg1 vg2 vg3 vg4 vg5 : Int32) (hr : own_Rn vg1 vg2 vg3 vg4 vg5), ¬ ((own_Fif (own_Vig_66 vg1 vg2 vg3 vg4 vg5) ([(own_Vig_66 vg1 vg2 vg3 vg4 vg5), (own_Vig_82 vg1 vg2 vg3 vg4 vg5)] : List Int32) (own_Aig_94 vg1 vg2 vg3 vg4 vg5)) = (0 : Int32)) := own_all _ (by decide +kernel)
theorem own_HL_23 : ∀ (vg1 vg2 vg3 vg4 vg5 : Int32) (hr : own_Rn vg1 vg2 vg3 vg4 vg5), ¬ ((own_Fif (own_Vig_82 vg1 vg2 vg3 vg4 vg5) ([(own_Vig_66 vg1 vg2 vg3 vg4 vg5), (own_Vig_82 vg1 vg2 vg3 vg4 vg5)] : List Int32) (own_Aig_94 vg1 vg2 vg3 vg4 vg5)) = (0 : Int32)) := own_all _ (by decide +kernel)
theorem own_HL_24 : ∀ (vg1 vg2 vg3 vg4 vg5 : Int32) (hr : own_Rn vg1 vg2 vg3 vg4 vg5), (own_Fif (own_VL_4 vg1 vg2 vg3 vg4 vg5) ([(own_Vig_66 vg1 vg2 vg3 vg4 vg5), (own_Vig_82 vg1 vg2 vg3 vg4 vg5)] : List Int32) (own_Aig_94 vg1 vg2 vg3 vg4 vg5)) = (0 : Int32) := own_all _ (by decide +kernel)
theorem own_HL_25 : ∀ (vg1 vg2 vg3 vg4 vg5 : Int32) (hr : own_Rn vg1 vg2 vg3 vg4 vg5), (own_Fif (own_VL_6 vg1 vg2 vg3 vg4 vg5) ([(own_Vig_66 vg1 vg2 vg3 vg4 vg5), (own_Vig_82 vg1 vg2 vg3 vg4 vg5)] : List Int32) (own_Aig_94 vg1 vg2 vg3 vg4 vg5)) = (0 : Int32) := own_all _ (by decide +kernel)
theorem own_pn0 : plainFor x = true := plainFor_of_name (by first | (simp [plainName, overriddenIn]; done) | decide +kernel)
theorem own_rm0_ef (m : MethodId) (p0 : Int32) (p1 : Int32) (p2 : Int32) (p3 : Int32) (p4 : Int32) : entryFrame m #[(.int p0), (.int p1), (.int p2), (.int p3), (.int p4)] maxLocals = mkF m 0 #[.val (.int p0), .val (.int p1), .val (.int p2), .val (.int p3), .val (.int p4), .unset, .unset, .unset, .unset, .unset, .unset, .unset, .unset, .unset, .unset, .unset, .unset, .unset, .unset, .unset] [] := by first | (simp [entryFrame, mkF, argsToLocals, Value.category, maxLocals]; done) | rfl
set_option maxRecDepth 65536 in
set_option maxHeartbeats 40000000 in
theorem own_rm0 (l : Launch) (Z : State) (a0 : Array Value) (hw : ∀ d ∈ tables_1, d.before a0 Z = true) (ws : List Jvm.Cond) (p0 : Int32) (p1 : Int32) (p2 : Int32) (p3 : Int32) (p4 : Int32)  (h0 : Heap) (n0 : Nat) (Z0 : n0 ≤ h0.size) (i_S1 : Sta Z h0 own_cB "$assertionsDisabled" "Z" (.int (1 : Int32))) :
    own_C l Z x code maxLocals ret ws room_1 #[(.int p0), (.int p1), (.int p2), (.int p3), (.int p4)] h0 (own_W n0 (fun v _ => v = some (.int 1))) := by
  refine MetFree.of_bodySF own_pn0 hisR ?_
  intro p e s m args below meth c s₁ Bd hml0 hP hK
  obtain ⟨rfl, hZ, hh⟩ := hP
  have hx := Bd.exec
  have hby := Bd.bytes
  have hml : c.maxLocals = 20 := hml0
  have hown : s.vm.findClass "com/example/dissoc/dissoc/mincut/FlowNetworkIsForwardPinLaw" = some m.cls := findClass_of_methodNamed Bd.named
  have hnm := (name_of_methodNamed Bd.named Bd.method).1
  have X0 : Stand p l e room_1 s m #[(.int p0), (.int p1), (.int p2), (.int p3), (.int p4)] below meth c s₁ [] 0 0 := Stand.of_body Bd
  have e0 : s₁.heap = h0 := by rw [← hh, Bd.state]; rfl
  have N0 := Fr.nil n0
  show own_G p e below (own_P s (own_W n0 (fun v _ => v = some (.int 1))) room_1.cells room_1.slots) (s₁.setTop (entryFrame m #[(.int p0), (.int p1), (.int p2), (.int p3), (.int p4)] maxLocals))
  rw [own_rm0_ef m p0 p1 p2 p3 p4]
  show own_H s₁ 0 #[.val (.int p0), .val (.int p1), .val (.int p2), .val (.int p3), .val (.int p4), .unset, .unset, .unset, .unset, .unset, .unset, .unset, .unset, .unset, .unset, .unset, .unset, .unset, .unset, .unset] []
  refine own_via (fun t k => XS.iconst X0.here hx rfl (hb hby at_0) k) ?_
  refine own_via (fun t k => XS.iloadN X0.here hx rfl (hb hby at_1) rfl k) ?_
  refine own_via (fun t k => XS.iconst X0.here hx rfl (hb hby at_2) k) ?_
  show own_H s₁ 3 #[.val (.int p0), .val (.int p1), .val (.int p2), .val (.int p3), .val (.int p4), .unset, .unset, .unset, .unset, .unset, .unset, .unset, .unset, .unset, .unset, .unset, .unset, .unset, .unset, .unset] [(.int (3 : Int32)), (.int p0), (.int (1 : Int32))]
  refine own_via (fun t k => XS.iand X0.here hx rfl (hb hby at_3) rfl k) ?_
  show own_H s₁ 4 #[.val (.int p0), .val (.int p1), .val (.int p2), .val (.int p3), .val (.int p4), .unset, .unset, .unset, .unset, .unset, .unset, .unset, .unset, .unset, .unset, .unset, .unset, .unset, .unset, .unset] [(.int (p0 &&& (3 : Int32))), (.int (1 : Int32))]
  refine own_via (fun t k => XS.iadd X0.here hx rfl (hb hby at_4) rfl k) ?_
  show own_H s₁ 5 #[.val (.int p0), .val (.int p1), .val (.int p2), .val (.int p3), .val (.int p4), .unset, .unset, .unset, .unset, .unset, .unset, .unset, .unset, .unset, .unset, .unset, .unset, .unset, .unset, .unset] [(.int ((1 : Int32) + (p0 &&& (3 : Int32))))]
  generalize hvg1 : ((1 : Int32) + (p0 &&& (3 : Int32))) = vg1
  show own_H s₁ 5 #[.val (.int p0), .val (.int p1), .val (.int p2), .val (.int p3), .val (.int p4), .unset, .unset, .unset, .unset, .unset, .unset, .unset, .unset, .unset, .unset, .unset, .unset, .unset, .unset, .unset] [(.int vg1)]
  refine own_via (fun t k => XS.istore X0.here hx rfl (hb hby at_5) rfl (l' := #[.val (.int p0), .val (.int p1), .val (.int p2), .val (.int p3), .val (.int p4), .val (.int vg1), .unset, .unset, .unset, .unset, .unset, .unset, .unset, .unset, .unset, .unset, .unset, .unset, .unset, .unset]) rfl k) ?_
  refine own_via (fun t k => XS.iloadN X0.here hx rfl (hb hby at_7) rfl k) ?_
  show own_H s₁ 8 #[.val (.int p0), .val (.int p1), .val (.int p2), .val (.int p3), .val (.int p4), .val (.int vg1), .unset, .unset, .unset, .unset, .unset, .unset, .unset, .unset, .unset, .unset, .unset, .unset, .unset, .unset] [(.int p1)]
  refine own_via (X0.ldcInt hx hown (mvT hZ (own_u hw 0 rfl)) (g := (mkF m 8 #[.val (.int p0), .val (.int p1), .val (.int p2), .val (.int p3), .val (.int p4), .val (.int vg1), .unset, .unset, .unset, .unset, .unset, .unset, .unset, .unset, .unset, .unset, .unset, .unset, .unset, .unset] [(.int p1)])) rfl (hb hby at_8)) ?_
  show own_H s₁ 10 #[.val (.int p0), .val (.int p1), .val (.int p2), .val (.int p3), .val (.int p4), .val (.int vg1), .unset, .unset, .unset, .unset, .unset, .unset, .unset, .unset, .unset, .unset, .unset, .unset, .unset, .unset] [(.int (2147483647 : Int32)), (.int p1)]
  refine own_via (fun t k => XS.iand X0.here hx rfl (hb hby at_10) rfl k) ?_
  refine own_via (fun t k => XS.iload X0.here hx rfl (hb hby at_11) rfl k) ?_
  show own_H s₁ 13 #[.val (.int p0), .val (.int p1), .val (.int p2), .val (.int p3), .val (.int p4), .val (.int vg1), .unset, .unset, .unset, .unset, .unset, .unset, .unset, .unset, .unset, .unset, .unset, .unset, .unset, .unset] [(.int vg1), (.int (p1 &&& (2147483647 : Int32)))]
  refine own_via (fun t k => XS.irem X0.here hx rfl (hb hby at_13) rfl (own_nz (own_n hvg1)) k) ?_
  show own_H s₁ 14 #[.val (.int p0), .val (.int p1), .val (.int p2), .val (.int p3), .val (.int p4), .val (.int vg1), .unset, .unset, .unset, .unset, .unset, .unset, .unset, .unset, .unset, .unset, .unset, .unset, .unset, .unset] [(.int ((p1 &&& (2147483647 : Int32)) - ((p1 &&& (2147483647 : Int32)) / vg1) * vg1))]
  generalize hvg2 : ((p1 &&& (2147483647 : Int32)) - ((p1 &&& (2147483647 : Int32)) / vg1) * vg1) = vg2
  show own_H s₁ 14 #[.val (.int p0), .val (.int p1), .val (.int p2), .val (.int p3), .val (.int p4), .val (.int vg1), .unset, .unset, .unset, .unset, .unset, .unset, .unset, .unset, .unset, .unset, .unset, .unset, .unset, .unset] [(.int vg2)]
  refine own_via (fun t k => XS.istore X0.here hx rfl (hb hby at_14) rfl (l' := #[.val (.int p0), .val (.int p1), .val (.int p2), .val (.int p3), .val (.int p4), .val (.int vg1), .val (.int vg2), .unset, .unset, .unset, .unset, .unset, .unset, .unset, .unset, .unset, .unset, .unset, .unset, .unset]) rfl k) ?_
  refine own_via (fun t k => XS.iloadN X0.here hx rfl (hb hby at_16) rfl k) ?_
  show own_H s₁ 17 #[.val (.int p0), .val (.int p1), .val (.int p2), .val (.int p3), .val (.int p4), .val (.int vg1), .val (.int vg2), .unset, .unset, .unset, .unset, .unset, .unset, .unset, .unset, .unset, .unset, .unset, .unset, .unset] [(.int p2)]
  refine own_via (X0.ldcInt hx hown (mvT hZ (own_u hw 0 rfl)) (g := (mkF m 17 #[.val (.int p0), .val (.int p1), .val (.int p2), .val (.int p3), .val (.int p4), .val (.int vg1), .val (.int vg2), .unset, .unset, .unset, .unset, .unset, .unset, .unset, .unset, .unset, .unset, .unset, .unset, .unset] [(.int p2)])) rfl (hb hby at_17)) ?_
  show own_H s₁ 19 #[.val (.int p0), .val (.int p1), .val (.int p2), .val (.int p3), .val (.int p4), .val (.int vg1), .val (.int vg2), .unset, .unset, .unset, .unset, .unset, .unset, .unset, .unset, .unset, .unset, .unset, .unset, .unset] [(.int (2147483647 : Int32)), (.int p2)]
  refine own_via (fun t k => XS.iand X0.here hx rfl (hb hby at_19) rfl k) ?_
  refine own_via (fun t k => XS.iload X0.here hx rfl (hb hby at_20) rfl k) ?_
  show own_H s₁ 22 #[.val (.int p0), .val (.int p1), .val (.int p2), .val (.int p3), .val (.int p4), .val (.int vg1), .val (.int vg2), .unset, .unset, .unset, .unset, .unset, .unset, .unset, .unset, .unset, .unset, .unset, .unset, .unset] [(.int vg1), (.int (p2 &&& (2147483647 : Int32)))]
  refine own_via (fun t k => XS.irem X0.here hx rfl (hb hby at_22) rfl (own_nz (own_n hvg1)) k) ?_
  show own_H s₁ 23 #[.val (.int p0), .val (.int p1), .val (.int p2), .val (.int p3), .val (.int p4), .val (.int vg1), .val (.int vg2), .unset, .unset, .unset, .unset, .unset, .unset, .unset, .unset, .unset, .unset, .unset, .unset, .unset] [(.int ((p2 &&& (2147483647 : Int32)) - ((p2 &&& (2147483647 : Int32)) / vg1) * vg1))]
  generalize hvg3 : ((p2 &&& (2147483647 : Int32)) - ((p2 &&& (2147483647 : Int32)) / vg1) * vg1) = vg3
  show own_H s₁ 23 #[.val (.int p0), .val (.int p1), .val (.int p2), .val (.int p3), .val (.int p4), .val (.int vg1), .val (.int vg2), .unset, .unset, .unset, .unset, .unset, .unset, .unset, .unset, .unset, .unset, .unset, .unset, .unset] [(.int vg3)]
  refine own_via (fun t k => XS.istore X0.here hx rfl (hb hby at_23) rfl (l' := #[.val (.int p0), .val (.int p1), .val (.int p2), .val (.int p3), .val (.int p4), .val (.int vg1), .val (.int vg2), .val (.int vg3), .unset, .unset, .unset, .unset, .unset, .unset, .unset, .unset, .unset, .unset, .unset, .unset]) rfl k) ?_
  refine own_via (fun t k => XS.iloadN X0.here hx rfl (hb hby at_25) rfl k) ?_
  show own_H s₁ 26 #[.val (.int p0), .val (.int p1), .val (.int p2), .val (.int p3), .val (.int p4), .val (.int vg1), .val (.int vg2), .val (.int vg3), .unset, .unset, .unset, .unset, .unset, .unset, .unset, .unset, .unset, .unset, .unset, .unset] [(.int p3)]
  refine own_via (X0.ldcInt hx hown (mvT hZ (own_u hw 0 rfl)) (g := (mkF m 26 #[.val (.int p0), .val (.int p1), .val (.int p2), .val (.int p3), .val (.int p4), .val (.int vg1), .val (.int vg2), .val (.int vg3), .unset, .unset, .unset, .unset, .unset, .unset, .unset, .unset, .unset, .unset, .unset, .unset] [(.int p3)])) rfl (hb hby at_26)) ?_
  show own_H s₁ 28 #[.val (.int p0), .val (.int p1), .val (.int p2), .val (.int p3), .val (.int p4), .val (.int vg1), .val (.int vg2), .val (.int vg3), .unset, .unset, .unset, .unset, .unset, .unset, .unset, .unset, .unset, .unset, .unset, .unset] [(.int (2147483647 : Int32)), (.int p3)]
  refine own_via (fun t k => XS.iand X0.here hx rfl (hb hby at_28) rfl k) ?_
  refine own_via (fun t k => XS.iload X0.here hx rfl (hb hby at_29) rfl k) ?_
  show own_H s₁ 31 #[.val (.int p0), .val (.int p1), .val (.int p2), .val (.int p3), .val (.int p4), .val (.int vg1), .val (.int vg2), .val (.int vg3), .unset, .unset, .unset, .unset, .unset, .unset, .unset, .unset, .unset, .unset, .unset, .unset] [(.int vg1), (.int (p3 &&& (2147483647 : Int32)))]
  refine own_via (fun t k => XS.irem X0.here hx rfl (hb hby at_31) rfl (own_nz (own_n hvg1)) k) ?_
  show own_H s₁ 32 #[.val (.int p0), .val (.int p1), .val (.int p2), .val (.int p3), .val (.int p4), .val (.int vg1), .val (.int vg2), .val (.int vg3), .unset, .unset, .unset, .unset, .unset, .unset, .unset, .unset, .unset, .unset, .unset, .unset] [(.int ((p3 &&& (2147483647 : Int32)) - ((p3 &&& (2147483647 : Int32)) / vg1) * vg1))]
  generalize hvg4 : ((p3 &&& (2147483647 : Int32)) - ((p3 &&& (2147483647 : Int32)) / vg1) * vg1) = vg4
  show own_H s₁ 32 #[.val (.int p0), .val (.int p1), .val (.int p2), .val (.int p3), .val (.int p4), .val (.int vg1), .val (.int vg2), .val (.int vg3), .unset, .unset, .unset, .unset, .unset, .unset, .unset, .unset, .unset, .unset, .unset, .unset] [(.int vg4)]
  refine own_via (fun t k => XS.istore X0.here hx rfl (hb hby at_32) rfl (l' := #[.val (.int p0), .val (.int p1), .val (.int p2), .val (.int p3), .val (.int p4), .val (.int vg1), .val (.int vg2), .val (.int vg3), .val (.int vg4), .unset, .unset, .unset, .unset, .unset, .unset, .unset, .unset, .unset, .unset, .unset]) rfl k) ?_
  refine own_via (fun t k => XS.iload X0.here hx rfl (hb hby at_34) rfl k) ?_
  show own_H s₁ 36 #[.val (.int p0), .val (.int p1), .val (.int p2), .val (.int p3), .val (.int p4), .val (.int vg1), .val (.int vg2), .val (.int vg3), .val (.int vg4), .unset, .unset, .unset, .unset, .unset, .unset, .unset, .unset, .unset, .unset, .unset] [(.int p4)]
  refine own_via (X0.ldcInt hx hown (mvT hZ (own_u hw 0 rfl)) (g := (mkF m 36 #[.val (.int p0), .val (.int p1), .val (.int p2), .val (.int p3), .val (.int p4), .val (.int vg1), .val (.int vg2), .val (.int vg3), .val (.int vg4), .unset, .unset, .unset, .unset, .unset, .unset, .unset, .unset, .unset, .unset, .unset] [(.int p4)])) rfl (hb hby at_36)) ?_
  show own_H s₁ 38 #[.val (.int p0), .val (.int p1), .val (.int p2), .val (.int p3), .val (.int p4), .val (.int vg1), .val (.int vg2), .val (.int vg3), .val (.int vg4), .unset, .unset, .unset, .unset, .unset, .unset, .unset, .unset, .unset, .unset, .unset] [(.int (2147483647 : Int32)), (.int p4)]
  refine own_via (fun t k => XS.iand X0.here hx rfl (hb hby at_38) rfl k) ?_
  refine own_via (fun t k => XS.iload X0.here hx rfl (hb hby at_39) rfl k) ?_
  show own_H s₁ 41 #[.val (.int p0), .val (.int p1), .val (.int p2), .val (.int p3), .val (.int p4), .val (.int vg1), .val (.int vg2), .val (.int vg3), .val (.int vg4), .unset, .unset, .unset, .unset, .unset, .unset, .unset, .unset, .unset, .unset, .unset] [(.int vg1), (.int (p4 &&& (2147483647 : Int32)))]
  refine own_via (fun t k => XS.irem X0.here hx rfl (hb hby at_41) rfl (own_nz (own_n hvg1)) k) ?_
  show own_H s₁ 42 #[.val (.int p0), .val (.int p1), .val (.int p2), .val (.int p3), .val (.int p4), .val (.int vg1), .val (.int vg2), .val (.int vg3), .val (.int vg4), .unset, .unset, .unset, .unset, .unset, .unset, .unset, .unset, .unset, .unset, .unset] [(.int ((p4 &&& (2147483647 : Int32)) - ((p4 &&& (2147483647 : Int32)) / vg1) * vg1))]
  generalize hvg5 : ((p4 &&& (2147483647 : Int32)) - ((p4 &&& (2147483647 : Int32)) / vg1) * vg1) = vg5
  show own_H s₁ 42 #[.val (.int p0), .val (.int p1), .val (.int p2), .val (.int p3), .val (.int p4), .val (.int vg1), .val (.int vg2), .val (.int vg3), .val (.int vg4), .unset, .unset, .unset, .unset, .unset, .unset, .unset, .unset, .unset, .unset, .unset] [(.int vg5)]
  refine own_via (fun t k => XS.istore X0.here hx rfl (hb hby at_42) rfl (l' := #[.val (.int p0), .val (.int p1), .val (.int p2), .val (.int p3), .val (.int p4), .val (.int vg1), .val (.int vg2), .val (.int vg3), .val (.int vg4), .val (.int vg5), .unset, .unset, .unset, .unset, .unset, .unset, .unset, .unset, .unset, .unset]) rfl k) ?_
  show own_H s₁ 44 #[.val (.int p0), .val (.int p1), .val (.int p2), .val (.int p3), .val (.int p4), .val (.int vg1), .val (.int vg2), .val (.int vg3), .val (.int vg4), .val (.int vg5), .unset, .unset, .unset, .unset, .unset, .unset, .unset, .unset, .unset, .unset] []
  obtain ⟨T6, h6, b6, X6, e6, E6, ga6, A6, D6, st6⟩ := own_newO X0 hx hZ hown (own_u hw 1 rfl) (own_u hw 2 rfl) (own_u hw 3 rfl) e0 (pc := 44) (Ls := #[.val (.int p0), .val (.int p1), .val (.int p2), .val (.int p3), .val (.int p4), .val (.int vg1), .val (.int vg2), .val (.int vg3), .val (.int vg4), .val (.int vg5), .unset, .unset, .unset, .unset, .unset, .unset, .unset, .unset, .unset, .unset]) (rest := []) (hb hby at_44) (by decide) (by decide)
  refine own_via st6 ?_
  have f7 := i_S1.ext E6
  have f8 : Fld Z h6 b6 own_cN "from" "[I" .null := D6 (Or.inl (own_u hw 12 rfl)) (ty := (.array .int)) (by decide)
  have f9 : Fld Z h6 b6 own_cN "to" "[I" .null := D6 (Or.inl (own_u hw 14 rfl)) (ty := (.array .int)) (by decide)
  have f10 : Fld Z h6 b6 own_cN "capacity" "[I" .null := D6 (Or.inl (own_u hw 16 rfl)) (ty := (.array .int)) (by decide)
  have f11 : Fld Z h6 b6 own_cN "nodes" "I" (.int (0 : Int32)) := D6 (Or.inr (own_u hw 18 rfl)) (ty := .int) (by decide)
  have f12 : Fld Z h6 b6 own_cN "firstArc" "[I" .null := D6 (Or.inl (own_u hw 25 rfl)) (ty := (.array .int)) (by decide)
  have f13 : Fld Z h6 b6 own_cN "edges" "I" (.int (0 : Int32)) := D6 (Or.inl (own_u hw 27 rfl)) (ty := .int) (by decide)
  have f14 : Fld Z h6 b6 own_cN "target" "[I" .null := D6 (Or.inl (own_u hw 43 rfl)) (ty := (.array .int)) (by decide)
  have f15 : Fld Z h6 b6 own_cN "edgeAt" "[I" .null := D6 (Or.inl (own_u hw 45 rfl)) (ty := (.array .int)) (by decide)
  have f16 : Fld Z h6 b6 own_cN "reverse" "[I" .null := D6 (Or.inl (own_u hw 47 rfl)) (ty := (.array .int)) (by decide)
  have f17 : Fld Z h6 b6 own_cN "forward" "[I" .null := D6 (Or.inl (own_u hw 49 rfl)) (ty := (.array .int)) (by decide)
  have g_b6 : n0 ≤ b6 := Nat.le_trans Z0 (Nat.le_of_eq ga6.symm)
  have Zs18 : n0 ≤ h6.size := Nat.le_trans Z0 E6.1
  show own_H T6 47 #[.val (.int p0), .val (.int p1), .val (.int p2), .val (.int p3), .val (.int p4), .val (.int vg1), .val (.int vg2), .val (.int vg3), .val (.int vg4), .val (.int vg5), .unset, .unset, .unset, .unset, .unset, .unset, .unset, .unset, .unset, .unset] [(.ref b6)]
  clear i_S1
  refine own_via (fun t k => XS.dup X6.here hx rfl (hb hby at_47) rfl rfl k) ?_
  refine own_via (fun t k => XS.iload X6.here hx rfl (hb hby at_48) rfl k) ?_
  show own_H T6 50 #[.val (.int p0), .val (.int p1), .val (.int p2), .val (.int p3), .val (.int p4), .val (.int vg1), .val (.int vg2), .val (.int vg3), .val (.int vg4), .val (.int vg5), .unset, .unset, .unset, .unset, .unset, .unset, .unset, .unset, .unset, .unset] [(.int vg1), (.ref b6), (.ref b6)]
  obtain ⟨v19, T19, h19, L19, X19, N19, e19, hq19, st19⟩ := own_callI (y := (⟨"com/example/dissoc/dissoc/mincut/FlowNetwork", "<init>", "(I)V"⟩ : MethodName)) (W := 1) (a := b6) X6 N0 hx hZ rfl hown (own_u hw 4 rfl) (own_u hw 5 rfl) (own_u hw 3 rfl) (own_u hw 6 rfl) (by decide) (own_ni l Z a0 hw [] b6 vg1 h6 n0 Zs18 A6 f8 f9 f10 f11 f12 f13 f14 f15 f16 f17 g_b6) (by decide) (by decide) (by decide) (by decide) e6 (pc := 50) (Ls := #[.val (.int p0), .val (.int p1), .val (.int p2), .val (.int p3), .val (.int p4), .val (.int vg1), .val (.int vg2), .val (.int vg3), .val (.int vg4), .val (.int vg5), .unset, .unset, .unset, .unset, .unset, .unset, .unset, .unset, .unset, .unset]) (st := [(.int vg1), (.ref b6), (.ref b6)]) (argsL := [(.int vg1)]) (rest := [(.ref b6)]) (by rw [hml]; rfl) (lenOf own_pd1 rfl) rfl rfl (Nat.le_of_eq rfl) (hb hby at_50)
  obtain ⟨fb19, tb19, cb19, k_fb19, k_tb19, k_cb19, rfl, K19, zf_fb19, zf_tb19, zf_cb19, xn19_0, xn19_1, xn19_2, o19_0, o19_1, o19_2, o19_3, o19_4, o19_5, o19_6, o19_7, o19_8, o19_9, o19_10, o19_11, o19_12, o19_13⟩ := hq19
  refine own_via st19 ?_
  have ne20 : b6 ≠ fb19 := Nat.ne_of_lt (Nat.lt_of_lt_of_le A6.lt zf_fb19)
  have g_fb19 : n0 ≤ fb19 := Nat.le_trans Zs18 zf_fb19
  have ne21 : b6 ≠ tb19 := Nat.ne_of_lt (Nat.lt_of_lt_of_le A6.lt zf_tb19)
  have g_tb19 : n0 ≤ tb19 := Nat.le_trans Zs18 zf_tb19
  have ne22 : b6 ≠ cb19 := Nat.ne_of_lt (Nat.lt_of_lt_of_le A6.lt zf_cb19)
  have g_cb19 : n0 ≤ cb19 := Nat.le_trans Zs18 zf_cb19
  have f23 := own_staK f7 K19 (fun x hx => by simp only [List.mem_cons, List.not_mem_nil, or_false] at hx; rcases hx with rfl <;> first | exact A6.nostat)
  have Zs25 : n0 ≤ h19.size := Nat.le_trans Zs18 K19.1
  show own_H T19 53 #[.val (.int p0), .val (.int p1), .val (.int p2), .val (.int p3), .val (.int p4), .val (.int vg1), .val (.int vg2), .val (.int vg3), .val (.int vg4), .val (.int vg5), .unset, .unset, .unset, .unset, .unset, .unset, .unset, .unset, .unset, .unset] [(.ref b6)]
  clear f7 A6 f8 f9 f10 f11 f12 f13 f14 f15 f16 f17 Zs18
  refine own_via (fun t k => XS.astore X19.here hx rfl (hb hby at_53) rfl rfl (l' := #[.val (.int p0), .val (.int p1), .val (.int p2), .val (.int p3), .val (.int p4), .val (.int vg1), .val (.int vg2), .val (.int vg3), .val (.int vg4), .val (.int vg5), .val (.ref b6), .unset, .unset, .unset, .unset, .unset, .unset, .unset, .unset, .unset]) rfl k) ?_
  refine own_via (fun t k => XS.aload X19.here hx rfl (hb hby at_55) rfl rfl k) ?_
  refine own_via (fun t k => XS.iload X19.here hx rfl (hb hby at_57) rfl k) ?_
  refine own_via (fun t k => XS.iload X19.here hx rfl (hb hby at_59) rfl k) ?_
  refine own_via (fun t k => XS.iconst X19.here hx rfl (hb hby at_61) k) ?_
  show own_H T19 62 #[.val (.int p0), .val (.int p1), .val (.int p2), .val (.int p3), .val (.int p4), .val (.int vg1), .val (.int vg2), .val (.int vg3), .val (.int vg4), .val (.int vg5), .val (.ref b6), .unset, .unset, .unset, .unset, .unset, .unset, .unset, .unset, .unset] [(.int (1 : Int32)), (.int vg3), (.int vg2), (.ref b6)]
  obtain ⟨v26, T26, h26, L26, X26, N26, e26, hq26, st26⟩ := own_callV (y := (⟨"com/example/dissoc/dissoc/mincut/FlowNetwork", "addEdge", "(III)I"⟩ : MethodName)) (z := (⟨"com/example/dissoc/dissoc/mincut/FlowNetwork", "addEdge", "(III)I"⟩ : MethodName)) (W := 0) (a := b6) X19 N19 hx hZ hown (own_u hw 19 rfl) (own_u hw 20 rfl) (notFace_of_selects (args := #[]) (mvT hZ (own_u hw 22 rfl))) (own_u hw 22 rfl) (own_u hw 21 rfl) (own_u hw 3 rfl) (own_u hw 23 rfl) (by decide) (own_ae0 l Z a0 hw [] b6 vg2 vg3 vg1 fb19 tb19 cb19 k_fb19 k_tb19 k_cb19 h19 n0 Zs25 o19_0 o19_1 o19_2 o19_3 o19_4 o19_5 o19_6 o19_7 o19_8 o19_9 o19_10 o19_11 o19_12 o19_13 g_b6 g_fb19 g_tb19 g_cb19 ne20 ne21 ne22 xn19_0 xn19_1 xn19_2) (by decide) (by decide) (by decide) (by decide) e19 o19_0 (pc := 62) (Ls := #[.val (.int p0), .val (.int p1), .val (.int p2), .val (.int p3), .val (.int p4), .val (.int vg1), .val (.int vg2), .val (.int vg3), .val (.int vg4), .val (.int vg5), .val (.ref b6), .unset, .unset, .unset, .unset, .unset, .unset, .unset, .unset, .unset]) (st := [(.int (1 : Int32)), (.int vg3), (.int vg2), (.ref b6)]) (argsL := [(.int vg2), (.int vg3), (.int (1 : Int32))]) (rest := []) (by rw [hml]; rfl) (lenOf own_pd10 rfl) rfl rfl (Nat.le_of_eq rfl) (hb hby at_62)
  obtain ⟨rfl, K26, o26_0, o26_1, o26_2, o26_3, o26_4, o26_5, o26_6, o26_7, o26_8, o26_9, o26_10, o26_11, o26_12, o26_13⟩ := hq26
  refine own_via st26 ?_
  have f27 := own_staK f23 K26 (fun x hx => by simp only [List.mem_cons, List.not_mem_nil, or_false] at hx; rcases hx with rfl | rfl | rfl | rfl <;> first | exact o19_0.nostat | exact o19_11.nostat | exact o19_12.nostat | exact o19_13.nostat)
  have Zs29 : n0 ≤ h26.size := Nat.le_trans Zs25 K26.1
  show own_H T26 65 #[.val (.int p0), .val (.int p1), .val (.int p2), .val (.int p3), .val (.int p4), .val (.int vg1), .val (.int vg2), .val (.int vg3), .val (.int vg4), .val (.int vg5), .val (.ref b6), .unset, .unset, .unset, .unset, .unset, .unset, .unset, .unset, .unset] [(.int (0 : Int32))]
  clear f23 o19_0 o19_1 o19_2 o19_3 o19_4 o19_5 o19_6 o19_7 o19_8 o19_9 o19_10 o19_11 o19_12 o19_13 Zs25
  refine own_via (fun t k => XS.pop X26.here hx rfl (hb hby at_65) rfl rfl k) ?_
  refine own_via (fun t k => XS.aload X26.here hx rfl (hb hby at_66) rfl rfl k) ?_
  refine own_via (fun t k => XS.iload X26.here hx rfl (hb hby at_68) rfl k) ?_
  refine own_via (fun t k => XS.iload X26.here hx rfl (hb hby at_70) rfl k) ?_
  refine own_via (fun t k => XS.iconst X26.here hx rfl (hb hby at_72) k) ?_
  show own_H T26 73 #[.val (.int p0), .val (.int p1), .val (.int p2), .val (.int p3), .val (.int p4), .val (.int vg1), .val (.int vg2), .val (.int vg3), .val (.int vg4), .val (.int vg5), .val (.ref b6), .unset, .unset, .unset, .unset, .unset, .unset, .unset, .unset, .unset] [(.int (1 : Int32)), (.int vg5), (.int vg4), (.ref b6)]
  obtain ⟨v30, T30, h30, L30, X30, N30, e30, hq30, st30⟩ := own_callV (y := (⟨"com/example/dissoc/dissoc/mincut/FlowNetwork", "addEdge", "(III)I"⟩ : MethodName)) (z := (⟨"com/example/dissoc/dissoc/mincut/FlowNetwork", "addEdge", "(III)I"⟩ : MethodName)) (W := 0) (a := b6) X26 N26 hx hZ hown (own_u hw 19 rfl) (own_u hw 20 rfl) (notFace_of_selects (args := #[]) (mvT hZ (own_u hw 22 rfl))) (own_u hw 22 rfl) (own_u hw 21 rfl) (own_u hw 3 rfl) (own_u hw 23 rfl) (by decide) (own_ae1 l Z a0 hw [] b6 vg4 vg5 vg1 fb19 tb19 cb19 k_fb19 k_tb19 k_cb19 vg2 vg3 h26 n0 Zs29 o26_0 o26_1 o26_2 o26_3 o26_4 o26_5 o26_6 o26_7 o26_8 o26_9 o26_10 o26_11 o26_12 o26_13 g_b6 g_fb19 g_tb19 g_cb19 ne20 ne21 ne22 xn19_0 xn19_1 xn19_2) (by decide) (by decide) (by decide) (by decide) e26 o26_0 (pc := 73) (Ls := #[.val (.int p0), .val (.int p1), .val (.int p2), .val (.int p3), .val (.int p4), .val (.int vg1), .val (.int vg2), .val (.int vg3), .val (.int vg4), .val (.int vg5), .val (.ref b6), .unset, .unset, .unset, .unset, .unset, .unset, .unset, .unset, .unset]) (st := [(.int (1 : Int32)), (.int vg5), (.int vg4), (.ref b6)]) (argsL := [(.int vg4), (.int vg5), (.int (1 : Int32))]) (rest := []) (by rw [hml]; rfl) (lenOf own_pd10 rfl) rfl rfl (Nat.le_of_eq rfl) (hb hby at_73)
  obtain ⟨rfl, K30, o30_0, o30_1, o30_2, o30_3, o30_4, o30_5, o30_6, o30_7, o30_8, o30_9, o30_10, o30_11, o30_12, o30_13⟩ := hq30
  refine own_via st30 ?_
  have f31 := own_staK f27 K30 (fun x hx => by simp only [List.mem_cons, List.not_mem_nil, or_false] at hx; rcases hx with rfl | rfl | rfl | rfl <;> first | exact o26_0.nostat | exact o26_11.nostat | exact o26_12.nostat | exact o26_13.nostat)
  have Zs33 : n0 ≤ h30.size := Nat.le_trans Zs29 K30.1
  show own_H T30 76 #[.val (.int p0), .val (.int p1), .val (.int p2), .val (.int p3), .val (.int p4), .val (.int vg1), .val (.int vg2), .val (.int vg3), .val (.int vg4), .val (.int vg5), .val (.ref b6), .unset, .unset, .unset, .unset, .unset, .unset, .unset, .unset, .unset] [(.int (1 : Int32))]
  clear f27 o26_0 o26_1 o26_2 o26_3 o26_4 o26_5 o26_6 o26_7 o26_8 o26_9 o26_10 o26_11 o26_12 o26_13 Zs29
  refine own_via (fun t k => XS.pop X30.here hx rfl (hb hby at_76) rfl rfl k) ?_
  refine own_via (fun t k => XS.aload X30.here hx rfl (hb hby at_77) rfl rfl k) ?_
  show own_H T30 79 #[.val (.int p0), .val (.int p1), .val (.int p2), .val (.int p3), .val (.int p4), .val (.int vg1), .val (.int vg2), .val (.int vg3), .val (.int vg4), .val (.int vg5), .val (.ref b6), .unset, .unset, .unset, .unset, .unset, .unset, .unset, .unset, .unset] [(.ref b6)]
  obtain ⟨v34, T34, h34, L34, X34, N34, e34, hq34, st34⟩ := own_callV (y := (⟨"com/example/dissoc/dissoc/mincut/FlowNetwork", "zeroFlow", "()Lcom/example/dissoc/dissoc/mincut/Flow;"⟩ : MethodName)) (z := (⟨"com/example/dissoc/dissoc/mincut/FlowNetwork", "zeroFlow", "()Lcom/example/dissoc/dissoc/mincut/Flow;"⟩ : MethodName)) (W := 0) (a := b6) X30 N30 hx hZ hown (own_u hw 33 rfl) (own_u hw 34 rfl) (notFace_of_selects (args := #[]) (mvT hZ (own_u hw 36 rfl))) (own_u hw 36 rfl) (own_u hw 35 rfl) (own_u hw 3 rfl) (own_u hw 37 rfl) (by decide) (own_zf l Z a0 hw [] b6 vg1 vg2 vg3 vg4 vg5 fb19 tb19 cb19 k_fb19 k_tb19 k_cb19 h30 n0 Zs33 o30_0 o30_1 o30_2 o30_3 o30_4 o30_5 o30_6 o30_7 o30_8 o30_9 o30_10 o30_11 o30_12 o30_13 f31 g_b6 ne20 ne21 ne22 ⟨(own_n hvg1), own_t (own_n hvg1) hvg2, own_t (own_n hvg1) hvg3, own_t (own_n hvg1) hvg4, own_t (own_n hvg1) hvg5⟩) (by decide) (by decide) (by decide) (by decide) e30 o30_0 (pc := 79) (Ls := #[.val (.int p0), .val (.int p1), .val (.int p2), .val (.int p3), .val (.int p4), .val (.int vg1), .val (.int vg2), .val (.int vg3), .val (.int vg4), .val (.int vg5), .val (.ref b6), .unset, .unset, .unset, .unset, .unset, .unset, .unset, .unset, .unset]) (st := [(.ref b6)]) (argsL := []) (rest := []) (by rw [hml]; rfl) (lenOf own_pd11 rfl) rfl rfl (Nat.le_of_eq rfl) (hb hby at_79)
  obtain ⟨x34, ea34, va34, fo34, ke34, kv34, ko34, rfl, K34, zf_x34, zf_ea34, zf_va34, zf_fo34, o34_0, o34_1, o34_2, o34_3, o34_4, o34_5, o34_6⟩ := hq34
  refine own_via st34 ?_
  show own_H T34 82 #[.val (.int p0), .val (.int p1), .val (.int p2), .val (.int p3), .val (.int p4), .val (.int vg1), .val (.int vg2), .val (.int vg3), .val (.int vg4), .val (.int vg5), .val (.ref b6), .unset, .unset, .unset, .unset, .unset, .unset, .unset, .unset, .unset] [(.ref x34)]
  clear f31 o30_0 o30_1 o30_2 o30_3 o30_4 o30_5 o30_6 o30_7 o30_8 o30_9 o30_10 o30_11 o30_12 o30_13 Zs33
  refine own_via (fun t k => XS.pop X34.here hx rfl (hb hby at_82) rfl rfl k) ?_
  refine own_via (fun t k => XS.aload X34.here hx rfl (hb hby at_83) rfl rfl k) ?_
  refine own_via (fun t k => XS.iconst X34.here hx rfl (hb hby at_85) k) ?_
  show own_H T34 86 #[.val (.int p0), .val (.int p1), .val (.int p2), .val (.int p3), .val (.int p4), .val (.int vg1), .val (.int vg2), .val (.int vg3), .val (.int vg4), .val (.int vg5), .val (.ref b6), .unset, .unset, .unset, .unset, .unset, .unset, .unset, .unset, .unset] [(.int (0 : Int32)), (.ref b6)]
  obtain ⟨T57, X57, e57, st57⟩ := own_callVP (y := (⟨"com/example/dissoc/dissoc/mincut/FlowNetwork", "forwardArc", "(I)I"⟩ : MethodName)) (z := (⟨"com/example/dissoc/dissoc/mincut/FlowNetwork", "forwardArc", "(I)I"⟩ : MethodName)) (W := 0) (a := b6) X34 hx hZ hown (own_u hw 201 rfl) (own_u hw 202 rfl) (notFace_of_selects (args := #[]) (mvT hZ (own_u hw 204 rfl))) (own_u hw 204 rfl) (own_u hw 203 rfl) (own_u hw 3 rfl) (own_u hw 205 rfl) (by decide) (own_fw0 l Z a0 hw [] b6 fo34 ko34 (own_Vig_66 vg1 vg2 vg3 vg4 vg5) (own_Vig_82 vg1 vg2 vg3 vg4 vg5) h34 o34_3 o34_6) (by decide) (by decide) rfl rfl (by decide) (by decide) e34 o34_0 (pc := 86) (Ls := #[.val (.int p0), .val (.int p1), .val (.int p2), .val (.int p3), .val (.int p4), .val (.int vg1), .val (.int vg2), .val (.int vg3), .val (.int vg4), .val (.int vg5), .val (.ref b6), .unset, .unset, .unset, .unset, .unset, .unset, .unset, .unset, .unset]) (st := [(.int (0 : Int32)), (.ref b6)]) (argsL := [(.int (0 : Int32))]) (rest := []) (by rw [hml]; rfl) (lenOf own_pd0 rfl) rfl rfl (Nat.le_of_eq rfl) (hb hby at_86)
  refine own_via st57 ?_
  show own_H T57 89 #[.val (.int p0), .val (.int p1), .val (.int p2), .val (.int p3), .val (.int p4), .val (.int vg1), .val (.int vg2), .val (.int vg3), .val (.int vg4), .val (.int vg5), .val (.ref b6), .unset, .unset, .unset, .unset, .unset, .unset, .unset, .unset, .unset] [(.int (own_Vig_66 vg1 vg2 vg3 vg4 vg5))]
  refine own_via (fun t k => XS.istore X57.here hx rfl (hb hby at_89) rfl (l' := #[.val (.int p0), .val (.int p1), .val (.int p2), .val (.int p3), .val (.int p4), .val (.int vg1), .val (.int vg2), .val (.int vg3), .val (.int vg4), .val (.int vg5), .val (.ref b6), .val (.int (own_Vig_66 vg1 vg2 vg3 vg4 vg5)), .unset, .unset, .unset, .unset, .unset, .unset, .unset, .unset]) rfl k) ?_
  refine own_via (fun t k => XS.aload X57.here hx rfl (hb hby at_91) rfl rfl k) ?_
  refine own_via (fun t k => XS.iconst X57.here hx rfl (hb hby at_93) k) ?_
  show own_H T57 94 #[.val (.int p0), .val (.int p1), .val (.int p2), .val (.int p3), .val (.int p4), .val (.int vg1), .val (.int vg2), .val (.int vg3), .val (.int vg4), .val (.int vg5), .val (.ref b6), .val (.int (own_Vig_66 vg1 vg2 vg3 vg4 vg5)), .unset, .unset, .unset, .unset, .unset, .unset, .unset, .unset] [(.int (1 : Int32)), (.ref b6)]
  obtain ⟨T58, X58, e58, st58⟩ := own_callVP (y := (⟨"com/example/dissoc/dissoc/mincut/FlowNetwork", "forwardArc", "(I)I"⟩ : MethodName)) (z := (⟨"com/example/dissoc/dissoc/mincut/FlowNetwork", "forwardArc", "(I)I"⟩ : MethodName)) (W := 0) (a := b6) X57 hx hZ hown (own_u hw 201 rfl) (own_u hw 202 rfl) (notFace_of_selects (args := #[]) (mvT hZ (own_u hw 204 rfl))) (own_u hw 204 rfl) (own_u hw 203 rfl) (own_u hw 3 rfl) (own_u hw 205 rfl) (by decide) (own_fw1 l Z a0 hw [] b6 fo34 ko34 (own_Vig_66 vg1 vg2 vg3 vg4 vg5) (own_Vig_82 vg1 vg2 vg3 vg4 vg5) h34 o34_3 o34_6) (by decide) (by decide) rfl rfl (by decide) (by decide) e57 o34_0 (pc := 94) (Ls := #[.val (.int p0), .val (.int p1), .val (.int p2), .val (.int p3), .val (.int p4), .val (.int vg1), .val (.int vg2), .val (.int vg3), .val (.int vg4), .val (.int vg5), .val (.ref b6), .val (.int (own_Vig_66 vg1 vg2 vg3 vg4 vg5)), .unset, .unset, .unset, .unset, .unset, .unset, .unset, .unset]) (st := [(.int (1 : Int32)), (.ref b6)]) (argsL := [(.int (1 : Int32))]) (rest := []) (by rw [hml]; rfl) (lenOf own_pd0 rfl) rfl rfl (Nat.le_of_eq rfl) (hb hby at_94)
  refine own_via st58 ?_
  show own_H T58 97 #[.val (.int p0), .val (.int p1), .val (.int p2), .val (.int p3), .val (.int p4), .val (.int vg1), .val (.int vg2), .val (.int vg3), .val (.int vg4), .val (.int vg5), .val (.ref b6), .val (.int (own_Vig_66 vg1 vg2 vg3 vg4 vg5)), .unset, .unset, .unset, .unset, .unset, .unset, .unset, .unset] [(.int (own_Vig_82 vg1 vg2 vg3 vg4 vg5))]
  refine own_via (fun t k => XS.istore X58.here hx rfl (hb hby at_97) rfl (l' := #[.val (.int p0), .val (.int p1), .val (.int p2), .val (.int p3), .val (.int p4), .val (.int vg1), .val (.int vg2), .val (.int vg3), .val (.int vg4), .val (.int vg5), .val (.ref b6), .val (.int (own_Vig_66 vg1 vg2 vg3 vg4 vg5)), .val (.int (own_Vig_82 vg1 vg2 vg3 vg4 vg5)), .unset, .unset, .unset, .unset, .unset, .unset, .unset]) rfl k) ?_
  refine own_via (fun t k => XS.aload X58.here hx rfl (hb hby at_99) rfl rfl k) ?_
  show own_H T58 101 #[.val (.int p0), .val (.int p1), .val (.int p2), .val (.int p3), .val (.int p4), .val (.int vg1), .val (.int vg2), .val (.int vg3), .val (.int vg4), .val (.int vg5), .val (.ref b6), .val (.int (own_Vig_66 vg1 vg2 vg3 vg4 vg5)), .val (.int (own_Vig_82 vg1 vg2 vg3 vg4 vg5)), .unset, .unset, .unset, .unset, .unset, .unset, .unset] [(.ref b6)]
  obtain ⟨T59, X59, e59, st59⟩ := own_callVP (y := (⟨"com/example/dissoc/dissoc/mincut/FlowNetwork", "reverses", "()[I"⟩ : MethodName)) (z := (⟨"com/example/dissoc/dissoc/mincut/FlowNetwork", "reverses", "()[I"⟩ : MethodName)) (W := 0) (a := b6) X58 hx hZ hown (own_u hw 206 rfl) (own_u hw 133 rfl) (notFace_of_selects (args := #[]) (mvT hZ (own_u hw 135 rfl))) (own_u hw 135 rfl) (own_u hw 134 rfl) (own_u hw 3 rfl) (own_u hw 136 rfl) (by decide) (own_g_reverses l Z a0 hw [] b6 va34 h34 o34_2) (by decide) (by decide) rfl rfl (by decide) (by decide) e58 o34_0 (pc := 101) (Ls := #[.val (.int p0), .val (.int p1), .val (.int p2), .val (.int p3), .val (.int p4), .val (.int vg1), .val (.int vg2), .val (.int vg3), .val (.int vg4), .val (.int vg5), .val (.ref b6), .val (.int (own_Vig_66 vg1 vg2 vg3 vg4 vg5)), .val (.int (own_Vig_82 vg1 vg2 vg3 vg4 vg5)), .unset, .unset, .unset, .unset, .unset, .unset, .unset]) (st := [(.ref b6)]) (argsL := []) (rest := []) (by rw [hml]; rfl) (lenOf own_pd4 rfl) rfl rfl (Nat.le_of_eq rfl) (hb hby at_101)
  refine own_via st59 ?_
  show own_H T59 104 #[.val (.int p0), .val (.int p1), .val (.int p2), .val (.int p3), .val (.int p4), .val (.int vg1), .val (.int vg2), .val (.int vg3), .val (.int vg4), .val (.int vg5), .val (.ref b6), .val (.int (own_Vig_66 vg1 vg2 vg3 vg4 vg5)), .val (.int (own_Vig_82 vg1 vg2 vg3 vg4 vg5)), .unset, .unset, .unset, .unset, .unset, .unset, .unset] [(.ref va34)]
  refine own_via (fun t k => XS.astore X59.here hx rfl (hb hby at_104) rfl rfl (l' := #[.val (.int p0), .val (.int p1), .val (.int p2), .val (.int p3), .val (.int p4), .val (.int vg1), .val (.int vg2), .val (.int vg3), .val (.int vg4), .val (.int vg5), .val (.ref b6), .val (.int (own_Vig_66 vg1 vg2 vg3 vg4 vg5)), .val (.int (own_Vig_82 vg1 vg2 vg3 vg4 vg5)), .val (.ref va34), .unset, .unset, .unset, .unset, .unset, .unset]) rfl k) ?_
  refine own_via (fun t k => XS.iload X59.here hx rfl (hb hby at_106) rfl k) ?_
  show own_H T59 108 #[.val (.int p0), .val (.int p1), .val (.int p2), .val (.int p3), .val (.int p4), .val (.int vg1), .val (.int vg2), .val (.int vg3), .val (.int vg4), .val (.int vg5), .val (.ref b6), .val (.int (own_Vig_66 vg1 vg2 vg3 vg4 vg5)), .val (.int (own_Vig_82 vg1 vg2 vg3 vg4 vg5)), .val (.ref va34), .unset, .unset, .unset, .unset, .unset, .unset] [(.int (own_Vig_66 vg1 vg2 vg3 vg4 vg5))]
  obtain ⟨T60, X60, e60, st60⟩ := own_callP (y := (⟨"com/example/dissoc/dissoc/mincut/FlowNetworkIsForwardPinLaw", "inRange", "(I)Z"⟩ : MethodName)) (W := 0) X59 hx hZ hown (own_u hw 207 rfl) (own_u hw 208 rfl) (own_u hw 209 rfl) (own_u hw 210 rfl) (by decide) (own_rm26 l Z a0 hw [] (own_Vig_66 vg1 vg2 vg3 vg4 vg5) h34) (by decide) (by decide) rfl rfl (by decide) (by decide) e59 (pc := 108) (Ls := #[.val (.int p0), .val (.int p1), .val (.int p2), .val (.int p3), .val (.int p4), .val (.int vg1), .val (.int vg2), .val (.int vg3), .val (.int vg4), .val (.int vg5), .val (.ref b6), .val (.int (own_Vig_66 vg1 vg2 vg3 vg4 vg5)), .val (.int (own_Vig_82 vg1 vg2 vg3 vg4 vg5)), .val (.ref va34), .unset, .unset, .unset, .unset, .unset, .unset]) (st := [(.int (own_Vig_66 vg1 vg2 vg3 vg4 vg5))]) (argsL := [(.int (own_Vig_66 vg1 vg2 vg3 vg4 vg5))]) (rest := []) (by rw [hml]; rfl) (lenOf own_pd12 rfl) rfl rfl (Nat.le_of_eq rfl) (hb hby at_108)
  refine own_via st60 ?_
  show own_H T60 111 #[.val (.int p0), .val (.int p1), .val (.int p2), .val (.int p3), .val (.int p4), .val (.int vg1), .val (.int vg2), .val (.int vg3), .val (.int vg4), .val (.int vg5), .val (.ref b6), .val (.int (own_Vig_66 vg1 vg2 vg3 vg4 vg5)), .val (.int (own_Vig_82 vg1 vg2 vg3 vg4 vg5)), .val (.ref va34), .unset, .unset, .unset, .unset, .unset, .unset] [(.int (own_F26 (own_Vig_66 vg1 vg2 vg3 vg4 vg5)))]
  refine own_via (fun t k => XS.ifNo X60.here hx rfl (hb hby at_111) rfl ((if0 _ _).trans (feq (own_HL_0 vg1 vg2 vg3 vg4 vg5 ⟨(own_n hvg1), own_t (own_n hvg1) hvg2, own_t (own_n hvg1) hvg3, own_t (own_n hvg1) hvg4, own_t (own_n hvg1) hvg5⟩)).1) k) ?_
  show own_H T60 114 #[.val (.int p0), .val (.int p1), .val (.int p2), .val (.int p3), .val (.int p4), .val (.int vg1), .val (.int vg2), .val (.int vg3), .val (.int vg4), .val (.int vg5), .val (.ref b6), .val (.int (own_Vig_66 vg1 vg2 vg3 vg4 vg5)), .val (.int (own_Vig_82 vg1 vg2 vg3 vg4 vg5)), .val (.ref va34), .unset, .unset, .unset, .unset, .unset, .unset] []
  refine own_via (fun t k => XS.iload X60.here hx rfl (hb hby at_114) rfl k) ?_
  show own_H T60 116 #[.val (.int p0), .val (.int p1), .val (.int p2), .val (.int p3), .val (.int p4), .val (.int vg1), .val (.int vg2), .val (.int vg3), .val (.int vg4), .val (.int vg5), .val (.ref b6), .val (.int (own_Vig_66 vg1 vg2 vg3 vg4 vg5)), .val (.int (own_Vig_82 vg1 vg2 vg3 vg4 vg5)), .val (.ref va34), .unset, .unset, .unset, .unset, .unset, .unset] [(.int (own_Vig_82 vg1 vg2 vg3 vg4 vg5))]
  obtain ⟨T61, X61, e61, st61⟩ := own_callP (y := (⟨"com/example/dissoc/dissoc/mincut/FlowNetworkIsForwardPinLaw", "inRange", "(I)Z"⟩ : MethodName)) (W := 0) X60 hx hZ hown (own_u hw 207 rfl) (own_u hw 208 rfl) (own_u hw 209 rfl) (own_u hw 210 rfl) (by decide) (own_rm26 l Z a0 hw [] (own_Vig_82 vg1 vg2 vg3 vg4 vg5) h34) (by decide) (by decide) rfl rfl (by decide) (by decide) e60 (pc := 116) (Ls := #[.val (.int p0), .val (.int p1), .val (.int p2), .val (.int p3), .val (.int p4), .val (.int vg1), .val (.int vg2), .val (.int vg3), .val (.int vg4), .val (.int vg5), .val (.ref b6), .val (.int (own_Vig_66 vg1 vg2 vg3 vg4 vg5)), .val (.int (own_Vig_82 vg1 vg2 vg3 vg4 vg5)), .val (.ref va34), .unset, .unset, .unset, .unset, .unset, .unset]) (st := [(.int (own_Vig_82 vg1 vg2 vg3 vg4 vg5))]) (argsL := [(.int (own_Vig_82 vg1 vg2 vg3 vg4 vg5))]) (rest := []) (by rw [hml]; rfl) (lenOf own_pd12 rfl) rfl rfl (Nat.le_of_eq rfl) (hb hby at_116)
  refine own_via st61 ?_
  show own_H T61 119 #[.val (.int p0), .val (.int p1), .val (.int p2), .val (.int p3), .val (.int p4), .val (.int vg1), .val (.int vg2), .val (.int vg3), .val (.int vg4), .val (.int vg5), .val (.ref b6), .val (.int (own_Vig_66 vg1 vg2 vg3 vg4 vg5)), .val (.int (own_Vig_82 vg1 vg2 vg3 vg4 vg5)), .val (.ref va34), .unset, .unset, .unset, .unset, .unset, .unset] [(.int (own_F26 (own_Vig_82 vg1 vg2 vg3 vg4 vg5)))]
  refine own_via (fun t k => XS.ifNo X61.here hx rfl (hb hby at_119) rfl ((if0 _ _).trans (feq (own_HL_1 vg1 vg2 vg3 vg4 vg5 ⟨(own_n hvg1), own_t (own_n hvg1) hvg2, own_t (own_n hvg1) hvg3, own_t (own_n hvg1) hvg4, own_t (own_n hvg1) hvg5⟩)).1) k) ?_
  show own_H T61 122 #[.val (.int p0), .val (.int p1), .val (.int p2), .val (.int p3), .val (.int p4), .val (.int vg1), .val (.int vg2), .val (.int vg3), .val (.int vg4), .val (.int vg5), .val (.ref b6), .val (.int (own_Vig_66 vg1 vg2 vg3 vg4 vg5)), .val (.int (own_Vig_82 vg1 vg2 vg3 vg4 vg5)), .val (.ref va34), .unset, .unset, .unset, .unset, .unset, .unset] []
  refine own_via (fun t k => XS.iload X61.here hx rfl (hb hby at_122) rfl k) ?_
  refine own_via (fun t k => XS.iload X61.here hx rfl (hb hby at_124) rfl k) ?_
  show own_H T61 126 #[.val (.int p0), .val (.int p1), .val (.int p2), .val (.int p3), .val (.int p4), .val (.int vg1), .val (.int vg2), .val (.int vg3), .val (.int vg4), .val (.int vg5), .val (.ref b6), .val (.int (own_Vig_66 vg1 vg2 vg3 vg4 vg5)), .val (.int (own_Vig_82 vg1 vg2 vg3 vg4 vg5)), .val (.ref va34), .unset, .unset, .unset, .unset, .unset, .unset] [(.int (own_Vig_82 vg1 vg2 vg3 vg4 vg5)), (.int (own_Vig_66 vg1 vg2 vg3 vg4 vg5))]
  refine own_via (fun t k => XS.icmpYes X61.here hx rfl (pc0 := 126) (pc' := 131) rfl (hb hby at_126) rfl (feq (own_HL_2 vg1 vg2 vg3 vg4 vg5 ⟨(own_n hvg1), own_t (own_n hvg1) hvg2, own_t (own_n hvg1) hvg3, own_t (own_n hvg1) hvg4, own_t (own_n hvg1) hvg5⟩)).2 (by decide) (by decide) k) ?_
  show own_H T61 131 #[.val (.int p0), .val (.int p1), .val (.int p2), .val (.int p3), .val (.int p4), .val (.int vg1), .val (.int vg2), .val (.int vg3), .val (.int vg4), .val (.int vg5), .val (.ref b6), .val (.int (own_Vig_66 vg1 vg2 vg3 vg4 vg5)), .val (.int (own_Vig_82 vg1 vg2 vg3 vg4 vg5)), .val (.ref va34), .unset, .unset, .unset, .unset, .unset, .unset] []
  refine own_via (fun t k => XS.aload X61.here hx rfl (hb hby at_131) rfl rfl k) ?_
  refine own_via (fun t k => XS.iload X61.here hx rfl (hb hby at_133) rfl k) ?_
  show own_H T61 135 #[.val (.int p0), .val (.int p1), .val (.int p2), .val (.int p3), .val (.int p4), .val (.int vg1), .val (.int vg2), .val (.int vg3), .val (.int vg4), .val (.int vg5), .val (.ref b6), .val (.int (own_Vig_66 vg1 vg2 vg3 vg4 vg5)), .val (.int (own_Vig_82 vg1 vg2 vg3 vg4 vg5)), .val (.ref va34), .unset, .unset, .unset, .unset, .unset, .unset] [(.int (own_Vig_66 vg1 vg2 vg3 vg4 vg5)), (.ref va34)]
  refine own_via (own_ldS (L := ([(own_get (own_Aig_98 vg1 vg2 vg3 vg4 vg5) (0 : Int32)), (own_get (own_Aig_98 vg1 vg2 vg3 vg4 vg5) (1 : Int32)), (own_get (own_Aig_98 vg1 vg2 vg3 vg4 vg5) (2 : Int32)), (own_get (own_Aig_98 vg1 vg2 vg3 vg4 vg5) (3 : Int32))] : List Int32)) X61 hx hZ e61 o34_5 (j := (own_Vig_66 vg1 vg2 vg3 vg4 vg5)) (own_HL_3 vg1 vg2 vg3 vg4 vg5 ⟨(own_n hvg1), own_t (own_n hvg1) hvg2, own_t (own_n hvg1) hvg3, own_t (own_n hvg1) hvg4, own_t (own_n hvg1) hvg5⟩).1 (pc := 135) (Ls := #[.val (.int p0), .val (.int p1), .val (.int p2), .val (.int p3), .val (.int p4), .val (.int vg1), .val (.int vg2), .val (.int vg3), .val (.int vg4), .val (.int vg5), .val (.ref b6), .val (.int (own_Vig_66 vg1 vg2 vg3 vg4 vg5)), .val (.int (own_Vig_82 vg1 vg2 vg3 vg4 vg5)), .val (.ref va34), .unset, .unset, .unset, .unset, .unset, .unset]) (rest := []) (hb hby at_135)) ?_
  show own_H T61 136 #[.val (.int p0), .val (.int p1), .val (.int p2), .val (.int p3), .val (.int p4), .val (.int vg1), .val (.int vg2), .val (.int vg3), .val (.int vg4), .val (.int vg5), .val (.ref b6), .val (.int (own_Vig_66 vg1 vg2 vg3 vg4 vg5)), .val (.int (own_Vig_82 vg1 vg2 vg3 vg4 vg5)), .val (.ref va34), .unset, .unset, .unset, .unset, .unset, .unset] [(.int (own_VL_4 vg1 vg2 vg3 vg4 vg5))]
  refine own_via (fun t k => XS.istore X61.here hx rfl (hb hby at_136) rfl (l' := #[.val (.int p0), .val (.int p1), .val (.int p2), .val (.int p3), .val (.int p4), .val (.int vg1), .val (.int vg2), .val (.int vg3), .val (.int vg4), .val (.int vg5), .val (.ref b6), .val (.int (own_Vig_66 vg1 vg2 vg3 vg4 vg5)), .val (.int (own_Vig_82 vg1 vg2 vg3 vg4 vg5)), .val (.ref va34), .val (.int (own_VL_4 vg1 vg2 vg3 vg4 vg5)), .unset, .unset, .unset, .unset, .unset]) rfl k) ?_
  refine own_via (fun t k => XS.aload X61.here hx rfl (hb hby at_138) rfl rfl k) ?_
  refine own_via (fun t k => XS.iload X61.here hx rfl (hb hby at_140) rfl k) ?_
  show own_H T61 142 #[.val (.int p0), .val (.int p1), .val (.int p2), .val (.int p3), .val (.int p4), .val (.int vg1), .val (.int vg2), .val (.int vg3), .val (.int vg4), .val (.int vg5), .val (.ref b6), .val (.int (own_Vig_66 vg1 vg2 vg3 vg4 vg5)), .val (.int (own_Vig_82 vg1 vg2 vg3 vg4 vg5)), .val (.ref va34), .val (.int (own_VL_4 vg1 vg2 vg3 vg4 vg5)), .unset, .unset, .unset, .unset, .unset] [(.int (own_Vig_82 vg1 vg2 vg3 vg4 vg5)), (.ref va34)]
  refine own_via (own_ldS (L := ([(own_get (own_Aig_98 vg1 vg2 vg3 vg4 vg5) (0 : Int32)), (own_get (own_Aig_98 vg1 vg2 vg3 vg4 vg5) (1 : Int32)), (own_get (own_Aig_98 vg1 vg2 vg3 vg4 vg5) (2 : Int32)), (own_get (own_Aig_98 vg1 vg2 vg3 vg4 vg5) (3 : Int32))] : List Int32)) X61 hx hZ e61 o34_5 (j := (own_Vig_82 vg1 vg2 vg3 vg4 vg5)) (own_HL_5 vg1 vg2 vg3 vg4 vg5 ⟨(own_n hvg1), own_t (own_n hvg1) hvg2, own_t (own_n hvg1) hvg3, own_t (own_n hvg1) hvg4, own_t (own_n hvg1) hvg5⟩).1 (pc := 142) (Ls := #[.val (.int p0), .val (.int p1), .val (.int p2), .val (.int p3), .val (.int p4), .val (.int vg1), .val (.int vg2), .val (.int vg3), .val (.int vg4), .val (.int vg5), .val (.ref b6), .val (.int (own_Vig_66 vg1 vg2 vg3 vg4 vg5)), .val (.int (own_Vig_82 vg1 vg2 vg3 vg4 vg5)), .val (.ref va34), .val (.int (own_VL_4 vg1 vg2 vg3 vg4 vg5)), .unset, .unset, .unset, .unset, .unset]) (rest := []) (hb hby at_142)) ?_
  show own_H T61 143 #[.val (.int p0), .val (.int p1), .val (.int p2), .val (.int p3), .val (.int p4), .val (.int vg1), .val (.int vg2), .val (.int vg3), .val (.int vg4), .val (.int vg5), .val (.ref b6), .val (.int (own_Vig_66 vg1 vg2 vg3 vg4 vg5)), .val (.int (own_Vig_82 vg1 vg2 vg3 vg4 vg5)), .val (.ref va34), .val (.int (own_VL_4 vg1 vg2 vg3 vg4 vg5)), .unset, .unset, .unset, .unset, .unset] [(.int (own_VL_6 vg1 vg2 vg3 vg4 vg5))]
  refine own_via (fun t k => XS.istore X61.here hx rfl (hb hby at_143) rfl (l' := #[.val (.int p0), .val (.int p1), .val (.int p2), .val (.int p3), .val (.int p4), .val (.int vg1), .val (.int vg2), .val (.int vg3), .val (.int vg4), .val (.int vg5), .val (.ref b6), .val (.int (own_Vig_66 vg1 vg2 vg3 vg4 vg5)), .val (.int (own_Vig_82 vg1 vg2 vg3 vg4 vg5)), .val (.ref va34), .val (.int (own_VL_4 vg1 vg2 vg3 vg4 vg5)), .val (.int (own_VL_6 vg1 vg2 vg3 vg4 vg5)), .unset, .unset, .unset, .unset]) rfl k) ?_
  refine own_via (fun t k => XS.iload X61.here hx rfl (hb hby at_145) rfl k) ?_
  show own_H T61 147 #[.val (.int p0), .val (.int p1), .val (.int p2), .val (.int p3), .val (.int p4), .val (.int vg1), .val (.int vg2), .val (.int vg3), .val (.int vg4), .val (.int vg5), .val (.ref b6), .val (.int (own_Vig_66 vg1 vg2 vg3 vg4 vg5)), .val (.int (own_Vig_82 vg1 vg2 vg3 vg4 vg5)), .val (.ref va34), .val (.int (own_VL_4 vg1 vg2 vg3 vg4 vg5)), .val (.int (own_VL_6 vg1 vg2 vg3 vg4 vg5)), .unset, .unset, .unset, .unset] [(.int (own_VL_4 vg1 vg2 vg3 vg4 vg5))]
  obtain ⟨T62, X62, e62, st62⟩ := own_callP (y := (⟨"com/example/dissoc/dissoc/mincut/FlowNetworkIsForwardPinLaw", "inRange", "(I)Z"⟩ : MethodName)) (W := 0) X61 hx hZ hown (own_u hw 207 rfl) (own_u hw 208 rfl) (own_u hw 209 rfl) (own_u hw 210 rfl) (by decide) (own_rm26 l Z a0 hw [] (own_VL_4 vg1 vg2 vg3 vg4 vg5) h34) (by decide) (by decide) rfl rfl (by decide) (by decide) e61 (pc := 147) (Ls := #[.val (.int p0), .val (.int p1), .val (.int p2), .val (.int p3), .val (.int p4), .val (.int vg1), .val (.int vg2), .val (.int vg3), .val (.int vg4), .val (.int vg5), .val (.ref b6), .val (.int (own_Vig_66 vg1 vg2 vg3 vg4 vg5)), .val (.int (own_Vig_82 vg1 vg2 vg3 vg4 vg5)), .val (.ref va34), .val (.int (own_VL_4 vg1 vg2 vg3 vg4 vg5)), .val (.int (own_VL_6 vg1 vg2 vg3 vg4 vg5)), .unset, .unset, .unset, .unset]) (st := [(.int (own_VL_4 vg1 vg2 vg3 vg4 vg5))]) (argsL := [(.int (own_VL_4 vg1 vg2 vg3 vg4 vg5))]) (rest := []) (by rw [hml]; rfl) (lenOf own_pd12 rfl) rfl rfl (Nat.le_of_eq rfl) (hb hby at_147)
  refine own_via st62 ?_
  show own_H T62 150 #[.val (.int p0), .val (.int p1), .val (.int p2), .val (.int p3), .val (.int p4), .val (.int vg1), .val (.int vg2), .val (.int vg3), .val (.int vg4), .val (.int vg5), .val (.ref b6), .val (.int (own_Vig_66 vg1 vg2 vg3 vg4 vg5)), .val (.int (own_Vig_82 vg1 vg2 vg3 vg4 vg5)), .val (.ref va34), .val (.int (own_VL_4 vg1 vg2 vg3 vg4 vg5)), .val (.int (own_VL_6 vg1 vg2 vg3 vg4 vg5)), .unset, .unset, .unset, .unset] [(.int (own_F26 (own_VL_4 vg1 vg2 vg3 vg4 vg5)))]
  refine own_via (fun t k => XS.ifNo X62.here hx rfl (hb hby at_150) rfl ((if0 _ _).trans (feq (own_HL_7 vg1 vg2 vg3 vg4 vg5 ⟨(own_n hvg1), own_t (own_n hvg1) hvg2, own_t (own_n hvg1) hvg3, own_t (own_n hvg1) hvg4, own_t (own_n hvg1) hvg5⟩)).1) k) ?_
  show own_H T62 153 #[.val (.int p0), .val (.int p1), .val (.int p2), .val (.int p3), .val (.int p4), .val (.int vg1), .val (.int vg2), .val (.int vg3), .val (.int vg4), .val (.int vg5), .val (.ref b6), .val (.int (own_Vig_66 vg1 vg2 vg3 vg4 vg5)), .val (.int (own_Vig_82 vg1 vg2 vg3 vg4 vg5)), .val (.ref va34), .val (.int (own_VL_4 vg1 vg2 vg3 vg4 vg5)), .val (.int (own_VL_6 vg1 vg2 vg3 vg4 vg5)), .unset, .unset, .unset, .unset] []
  refine own_via (fun t k => XS.iload X62.here hx rfl (hb hby at_153) rfl k) ?_
  show own_H T62 155 #[.val (.int p0), .val (.int p1), .val (.int p2), .val (.int p3), .val (.int p4), .val (.int vg1), .val (.int vg2), .val (.int vg3), .val (.int vg4), .val (.int vg5), .val (.ref b6), .val (.int (own_Vig_66 vg1 vg2 vg3 vg4 vg5)), .val (.int (own_Vig_82 vg1 vg2 vg3 vg4 vg5)), .val (.ref va34), .val (.int (own_VL_4 vg1 vg2 vg3 vg4 vg5)), .val (.int (own_VL_6 vg1 vg2 vg3 vg4 vg5)), .unset, .unset, .unset, .unset] [(.int (own_VL_6 vg1 vg2 vg3 vg4 vg5))]
  obtain ⟨T63, X63, e63, st63⟩ := own_callP (y := (⟨"com/example/dissoc/dissoc/mincut/FlowNetworkIsForwardPinLaw", "inRange", "(I)Z"⟩ : MethodName)) (W := 0) X62 hx hZ hown (own_u hw 207 rfl) (own_u hw 208 rfl) (own_u hw 209 rfl) (own_u hw 210 rfl) (by decide) (own_rm26 l Z a0 hw [] (own_VL_6 vg1 vg2 vg3 vg4 vg5) h34) (by decide) (by decide) rfl rfl (by decide) (by decide) e62 (pc := 155) (Ls := #[.val (.int p0), .val (.int p1), .val (.int p2), .val (.int p3), .val (.int p4), .val (.int vg1), .val (.int vg2), .val (.int vg3), .val (.int vg4), .val (.int vg5), .val (.ref b6), .val (.int (own_Vig_66 vg1 vg2 vg3 vg4 vg5)), .val (.int (own_Vig_82 vg1 vg2 vg3 vg4 vg5)), .val (.ref va34), .val (.int (own_VL_4 vg1 vg2 vg3 vg4 vg5)), .val (.int (own_VL_6 vg1 vg2 vg3 vg4 vg5)), .unset, .unset, .unset, .unset]) (st := [(.int (own_VL_6 vg1 vg2 vg3 vg4 vg5))]) (argsL := [(.int (own_VL_6 vg1 vg2 vg3 vg4 vg5))]) (rest := []) (by rw [hml]; rfl) (lenOf own_pd12 rfl) rfl rfl (Nat.le_of_eq rfl) (hb hby at_155)
  refine own_via st63 ?_
  show own_H T63 158 #[.val (.int p0), .val (.int p1), .val (.int p2), .val (.int p3), .val (.int p4), .val (.int vg1), .val (.int vg2), .val (.int vg3), .val (.int vg4), .val (.int vg5), .val (.ref b6), .val (.int (own_Vig_66 vg1 vg2 vg3 vg4 vg5)), .val (.int (own_Vig_82 vg1 vg2 vg3 vg4 vg5)), .val (.ref va34), .val (.int (own_VL_4 vg1 vg2 vg3 vg4 vg5)), .val (.int (own_VL_6 vg1 vg2 vg3 vg4 vg5)), .unset, .unset, .unset, .unset] [(.int (own_F26 (own_VL_6 vg1 vg2 vg3 vg4 vg5)))]
  refine own_via (fun t k => XS.ifYes X63.here hx rfl (pc0 := 158) (pc' := 163) rfl (hb hby at_158) rfl ((if0 _ _).trans (feq (own_HL_8 vg1 vg2 vg3 vg4 vg5 ⟨(own_n hvg1), own_t (own_n hvg1) hvg2, own_t (own_n hvg1) hvg3, own_t (own_n hvg1) hvg4, own_t (own_n hvg1) hvg5⟩)).2) (by decide) (by decide) k) ?_
  show own_H T63 163 #[.val (.int p0), .val (.int p1), .val (.int p2), .val (.int p3), .val (.int p4), .val (.int vg1), .val (.int vg2), .val (.int vg3), .val (.int vg4), .val (.int vg5), .val (.ref b6), .val (.int (own_Vig_66 vg1 vg2 vg3 vg4 vg5)), .val (.int (own_Vig_82 vg1 vg2 vg3 vg4 vg5)), .val (.ref va34), .val (.int (own_VL_4 vg1 vg2 vg3 vg4 vg5)), .val (.int (own_VL_6 vg1 vg2 vg3 vg4 vg5)), .unset, .unset, .unset, .unset] []
  refine own_via (fun t k => XS.iload X63.here hx rfl (hb hby at_163) rfl k) ?_
  refine own_via (fun t k => XS.iload X63.here hx rfl (hb hby at_165) rfl k) ?_
  show own_H T63 167 #[.val (.int p0), .val (.int p1), .val (.int p2), .val (.int p3), .val (.int p4), .val (.int vg1), .val (.int vg2), .val (.int vg3), .val (.int vg4), .val (.int vg5), .val (.ref b6), .val (.int (own_Vig_66 vg1 vg2 vg3 vg4 vg5)), .val (.int (own_Vig_82 vg1 vg2 vg3 vg4 vg5)), .val (.ref va34), .val (.int (own_VL_4 vg1 vg2 vg3 vg4 vg5)), .val (.int (own_VL_6 vg1 vg2 vg3 vg4 vg5)), .unset, .unset, .unset, .unset] [(.int (own_VL_6 vg1 vg2 vg3 vg4 vg5)), (.int (own_VL_4 vg1 vg2 vg3 vg4 vg5))]
  refine own_via (fun t k => XS.icmpNo X63.here hx rfl (hb hby at_167) rfl (feq (own_HL_9 vg1 vg2 vg3 vg4 vg5 ⟨(own_n hvg1), own_t (own_n hvg1) hvg2, own_t (own_n hvg1) hvg3, own_t (own_n hvg1) hvg4, own_t (own_n hvg1) hvg5⟩)).1 k) ?_
  show own_H T63 170 #[.val (.int p0), .val (.int p1), .val (.int p2), .val (.int p3), .val (.int p4), .val (.int vg1), .val (.int vg2), .val (.int vg3), .val (.int vg4), .val (.int vg5), .val (.ref b6), .val (.int (own_Vig_66 vg1 vg2 vg3 vg4 vg5)), .val (.int (own_Vig_82 vg1 vg2 vg3 vg4 vg5)), .val (.ref va34), .val (.int (own_VL_4 vg1 vg2 vg3 vg4 vg5)), .val (.int (own_VL_6 vg1 vg2 vg3 vg4 vg5)), .unset, .unset, .unset, .unset] []
  refine own_via (fun t k => XS.iload X63.here hx rfl (hb hby at_170) rfl k) ?_
  refine own_via (fun t k => XS.iload X63.here hx rfl (hb hby at_172) rfl k) ?_
  show own_H T63 174 #[.val (.int p0), .val (.int p1), .val (.int p2), .val (.int p3), .val (.int p4), .val (.int vg1), .val (.int vg2), .val (.int vg3), .val (.int vg4), .val (.int vg5), .val (.ref b6), .val (.int (own_Vig_66 vg1 vg2 vg3 vg4 vg5)), .val (.int (own_Vig_82 vg1 vg2 vg3 vg4 vg5)), .val (.ref va34), .val (.int (own_VL_4 vg1 vg2 vg3 vg4 vg5)), .val (.int (own_VL_6 vg1 vg2 vg3 vg4 vg5)), .unset, .unset, .unset, .unset] [(.int (own_Vig_66 vg1 vg2 vg3 vg4 vg5)), (.int (own_VL_4 vg1 vg2 vg3 vg4 vg5))]
  refine own_via (fun t k => XS.icmpNo X63.here hx rfl (hb hby at_174) rfl (feq (own_HL_10 vg1 vg2 vg3 vg4 vg5 ⟨(own_n hvg1), own_t (own_n hvg1) hvg2, own_t (own_n hvg1) hvg3, own_t (own_n hvg1) hvg4, own_t (own_n hvg1) hvg5⟩)).1 k) ?_
  show own_H T63 177 #[.val (.int p0), .val (.int p1), .val (.int p2), .val (.int p3), .val (.int p4), .val (.int vg1), .val (.int vg2), .val (.int vg3), .val (.int vg4), .val (.int vg5), .val (.ref b6), .val (.int (own_Vig_66 vg1 vg2 vg3 vg4 vg5)), .val (.int (own_Vig_82 vg1 vg2 vg3 vg4 vg5)), .val (.ref va34), .val (.int (own_VL_4 vg1 vg2 vg3 vg4 vg5)), .val (.int (own_VL_6 vg1 vg2 vg3 vg4 vg5)), .unset, .unset, .unset, .unset] []
  refine own_via (fun t k => XS.iload X63.here hx rfl (hb hby at_177) rfl k) ?_
  refine own_via (fun t k => XS.iload X63.here hx rfl (hb hby at_179) rfl k) ?_
  show own_H T63 181 #[.val (.int p0), .val (.int p1), .val (.int p2), .val (.int p3), .val (.int p4), .val (.int vg1), .val (.int vg2), .val (.int vg3), .val (.int vg4), .val (.int vg5), .val (.ref b6), .val (.int (own_Vig_66 vg1 vg2 vg3 vg4 vg5)), .val (.int (own_Vig_82 vg1 vg2 vg3 vg4 vg5)), .val (.ref va34), .val (.int (own_VL_4 vg1 vg2 vg3 vg4 vg5)), .val (.int (own_VL_6 vg1 vg2 vg3 vg4 vg5)), .unset, .unset, .unset, .unset] [(.int (own_Vig_82 vg1 vg2 vg3 vg4 vg5)), (.int (own_VL_4 vg1 vg2 vg3 vg4 vg5))]
  refine own_via (fun t k => XS.icmpNo X63.here hx rfl (hb hby at_181) rfl (feq (own_HL_11 vg1 vg2 vg3 vg4 vg5 ⟨(own_n hvg1), own_t (own_n hvg1) hvg2, own_t (own_n hvg1) hvg3, own_t (own_n hvg1) hvg4, own_t (own_n hvg1) hvg5⟩)).1 k) ?_
  show own_H T63 184 #[.val (.int p0), .val (.int p1), .val (.int p2), .val (.int p3), .val (.int p4), .val (.int vg1), .val (.int vg2), .val (.int vg3), .val (.int vg4), .val (.int vg5), .val (.ref b6), .val (.int (own_Vig_66 vg1 vg2 vg3 vg4 vg5)), .val (.int (own_Vig_82 vg1 vg2 vg3 vg4 vg5)), .val (.ref va34), .val (.int (own_VL_4 vg1 vg2 vg3 vg4 vg5)), .val (.int (own_VL_6 vg1 vg2 vg3 vg4 vg5)), .unset, .unset, .unset, .unset] []
  refine own_via (fun t k => XS.iload X63.here hx rfl (hb hby at_184) rfl k) ?_
  refine own_via (fun t k => XS.iload X63.here hx rfl (hb hby at_186) rfl k) ?_
  show own_H T63 188 #[.val (.int p0), .val (.int p1), .val (.int p2), .val (.int p3), .val (.int p4), .val (.int vg1), .val (.int vg2), .val (.int vg3), .val (.int vg4), .val (.int vg5), .val (.ref b6), .val (.int (own_Vig_66 vg1 vg2 vg3 vg4 vg5)), .val (.int (own_Vig_82 vg1 vg2 vg3 vg4 vg5)), .val (.ref va34), .val (.int (own_VL_4 vg1 vg2 vg3 vg4 vg5)), .val (.int (own_VL_6 vg1 vg2 vg3 vg4 vg5)), .unset, .unset, .unset, .unset] [(.int (own_Vig_66 vg1 vg2 vg3 vg4 vg5)), (.int (own_VL_6 vg1 vg2 vg3 vg4 vg5))]
  refine own_via (fun t k => XS.icmpNo X63.here hx rfl (hb hby at_188) rfl (feq (own_HL_12 vg1 vg2 vg3 vg4 vg5 ⟨(own_n hvg1), own_t (own_n hvg1) hvg2, own_t (own_n hvg1) hvg3, own_t (own_n hvg1) hvg4, own_t (own_n hvg1) hvg5⟩)).1 k) ?_
  show own_H T63 191 #[.val (.int p0), .val (.int p1), .val (.int p2), .val (.int p3), .val (.int p4), .val (.int vg1), .val (.int vg2), .val (.int vg3), .val (.int vg4), .val (.int vg5), .val (.ref b6), .val (.int (own_Vig_66 vg1 vg2 vg3 vg4 vg5)), .val (.int (own_Vig_82 vg1 vg2 vg3 vg4 vg5)), .val (.ref va34), .val (.int (own_VL_4 vg1 vg2 vg3 vg4 vg5)), .val (.int (own_VL_6 vg1 vg2 vg3 vg4 vg5)), .unset, .unset, .unset, .unset] []
  refine own_via (fun t k => XS.iload X63.here hx rfl (hb hby at_191) rfl k) ?_
  refine own_via (fun t k => XS.iload X63.here hx rfl (hb hby at_193) rfl k) ?_
  show own_H T63 195 #[.val (.int p0), .val (.int p1), .val (.int p2), .val (.int p3), .val (.int p4), .val (.int vg1), .val (.int vg2), .val (.int vg3), .val (.int vg4), .val (.int vg5), .val (.ref b6), .val (.int (own_Vig_66 vg1 vg2 vg3 vg4 vg5)), .val (.int (own_Vig_82 vg1 vg2 vg3 vg4 vg5)), .val (.ref va34), .val (.int (own_VL_4 vg1 vg2 vg3 vg4 vg5)), .val (.int (own_VL_6 vg1 vg2 vg3 vg4 vg5)), .unset, .unset, .unset, .unset] [(.int (own_Vig_82 vg1 vg2 vg3 vg4 vg5)), (.int (own_VL_6 vg1 vg2 vg3 vg4 vg5))]
  refine own_via (fun t k => XS.icmpYes X63.here hx rfl (pc0 := 195) (pc' := 200) rfl (hb hby at_195) rfl (feq (own_HL_13 vg1 vg2 vg3 vg4 vg5 ⟨(own_n hvg1), own_t (own_n hvg1) hvg2, own_t (own_n hvg1) hvg3, own_t (own_n hvg1) hvg4, own_t (own_n hvg1) hvg5⟩)).2 (by decide) (by decide) k) ?_
  show own_H T63 200 #[.val (.int p0), .val (.int p1), .val (.int p2), .val (.int p3), .val (.int p4), .val (.int vg1), .val (.int vg2), .val (.int vg3), .val (.int vg4), .val (.int vg5), .val (.ref b6), .val (.int (own_Vig_66 vg1 vg2 vg3 vg4 vg5)), .val (.int (own_Vig_82 vg1 vg2 vg3 vg4 vg5)), .val (.ref va34), .val (.int (own_VL_4 vg1 vg2 vg3 vg4 vg5)), .val (.int (own_VL_6 vg1 vg2 vg3 vg4 vg5)), .unset, .unset, .unset, .unset] []
  refine own_via (fun t k => XS.aload X63.here hx rfl (hb hby at_200) rfl rfl k) ?_
  refine own_via (fun t k => XS.iload X63.here hx rfl (hb hby at_202) rfl k) ?_
  show own_H T63 204 #[.val (.int p0), .val (.int p1), .val (.int p2), .val (.int p3), .val (.int p4), .val (.int vg1), .val (.int vg2), .val (.int vg3), .val (.int vg4), .val (.int vg5), .val (.ref b6), .val (.int (own_Vig_66 vg1 vg2 vg3 vg4 vg5)), .val (.int (own_Vig_82 vg1 vg2 vg3 vg4 vg5)), .val (.ref va34), .val (.int (own_VL_4 vg1 vg2 vg3 vg4 vg5)), .val (.int (own_VL_6 vg1 vg2 vg3 vg4 vg5)), .unset, .unset, .unset, .unset] [(.int (own_Vig_66 vg1 vg2 vg3 vg4 vg5)), (.ref b6)]
  obtain ⟨T64, X64, e64, st64⟩ := own_callVP (y := (⟨"com/example/dissoc/dissoc/mincut/FlowNetwork", "isForward", "(I)Z"⟩ : MethodName)) (z := (⟨"com/example/dissoc/dissoc/mincut/FlowNetwork", "isForward", "(I)Z"⟩ : MethodName)) (W := 0) (a := b6) X63 hx hZ hown (own_u hw 211 rfl) (own_u hw 212 rfl) (notFace_of_selects (args := #[]) (mvT hZ (own_u hw 214 rfl))) (own_u hw 214 rfl) (own_u hw 213 rfl) (own_u hw 3 rfl) (own_u hw 215 rfl) (by decide) (own_isf l Z a0 hw [] b6 (own_Vig_66 vg1 vg2 vg3 vg4 vg5) fo34 ko34 ea34 ke34 ([(own_Vig_66 vg1 vg2 vg3 vg4 vg5), (own_Vig_82 vg1 vg2 vg3 vg4 vg5)] : List Int32) (own_Aig_94 vg1 vg2 vg3 vg4 vg5) h34 o34_3 o34_6 o34_1 o34_4 (own_HL_14 vg1 vg2 vg3 vg4 vg5 ⟨(own_n hvg1), own_t (own_n hvg1) hvg2, own_t (own_n hvg1) hvg3, own_t (own_n hvg1) hvg4, own_t (own_n hvg1) hvg5⟩) (own_HL_15 vg1 vg2 vg3 vg4 vg5 ⟨(own_n hvg1), own_t (own_n hvg1) hvg2, own_t (own_n hvg1) hvg3, own_t (own_n hvg1) hvg4, own_t (own_n hvg1) hvg5⟩)) (by decide) (by decide) rfl rfl (by decide) (by decide) e63 o34_0 (pc := 204) (Ls := #[.val (.int p0), .val (.int p1), .val (.int p2), .val (.int p3), .val (.int p4), .val (.int vg1), .val (.int vg2), .val (.int vg3), .val (.int vg4), .val (.int vg5), .val (.ref b6), .val (.int (own_Vig_66 vg1 vg2 vg3 vg4 vg5)), .val (.int (own_Vig_82 vg1 vg2 vg3 vg4 vg5)), .val (.ref va34), .val (.int (own_VL_4 vg1 vg2 vg3 vg4 vg5)), .val (.int (own_VL_6 vg1 vg2 vg3 vg4 vg5)), .unset, .unset, .unset, .unset]) (st := [(.int (own_Vig_66 vg1 vg2 vg3 vg4 vg5)), (.ref b6)]) (argsL := [(.int (own_Vig_66 vg1 vg2 vg3 vg4 vg5))]) (rest := []) (by rw [hml]; rfl) (lenOf own_pd12 rfl) rfl rfl (Nat.le_of_eq rfl) (hb hby at_204)
  refine own_via st64 ?_
  show own_H T64 207 #[.val (.int p0), .val (.int p1), .val (.int p2), .val (.int p3), .val (.int p4), .val (.int vg1), .val (.int vg2), .val (.int vg3), .val (.int vg4), .val (.int vg5), .val (.ref b6), .val (.int (own_Vig_66 vg1 vg2 vg3 vg4 vg5)), .val (.int (own_Vig_82 vg1 vg2 vg3 vg4 vg5)), .val (.ref va34), .val (.int (own_VL_4 vg1 vg2 vg3 vg4 vg5)), .val (.int (own_VL_6 vg1 vg2 vg3 vg4 vg5)), .unset, .unset, .unset, .unset] [(.int (own_Fif (own_Vig_66 vg1 vg2 vg3 vg4 vg5) ([(own_Vig_66 vg1 vg2 vg3 vg4 vg5), (own_Vig_82 vg1 vg2 vg3 vg4 vg5)] : List Int32) (own_Aig_94 vg1 vg2 vg3 vg4 vg5)))]
  refine own_via (fun t k => XS.istore X64.here hx rfl (hb hby at_207) rfl (l' := #[.val (.int p0), .val (.int p1), .val (.int p2), .val (.int p3), .val (.int p4), .val (.int vg1), .val (.int vg2), .val (.int vg3), .val (.int vg4), .val (.int vg5), .val (.ref b6), .val (.int (own_Vig_66 vg1 vg2 vg3 vg4 vg5)), .val (.int (own_Vig_82 vg1 vg2 vg3 vg4 vg5)), .val (.ref va34), .val (.int (own_VL_4 vg1 vg2 vg3 vg4 vg5)), .val (.int (own_VL_6 vg1 vg2 vg3 vg4 vg5)), .val (.int (own_Fif (own_Vig_66 vg1 vg2 vg3 vg4 vg5) ([(own_Vig_66 vg1 vg2 vg3 vg4 vg5), (own_Vig_82 vg1 vg2 vg3 vg4 vg5)] : List Int32) (own_Aig_94 vg1 vg2 vg3 vg4 vg5))), .unset, .unset, .unset]) rfl k) ?_
  refine own_via (fun t k => XS.aload X64.here hx rfl (hb hby at_209) rfl rfl k) ?_
  refine own_via (fun t k => XS.iload X64.here hx rfl (hb hby at_211) rfl k) ?_
  show own_H T64 213 #[.val (.int p0), .val (.int p1), .val (.int p2), .val (.int p3), .val (.int p4), .val (.int vg1), .val (.int vg2), .val (.int vg3), .val (.int vg4), .val (.int vg5), .val (.ref b6), .val (.int (own_Vig_66 vg1 vg2 vg3 vg4 vg5)), .val (.int (own_Vig_82 vg1 vg2 vg3 vg4 vg5)), .val (.ref va34), .val (.int (own_VL_4 vg1 vg2 vg3 vg4 vg5)), .val (.int (own_VL_6 vg1 vg2 vg3 vg4 vg5)), .val (.int (own_Fif (own_Vig_66 vg1 vg2 vg3 vg4 vg5) ([(own_Vig_66 vg1 vg2 vg3 vg4 vg5), (own_Vig_82 vg1 vg2 vg3 vg4 vg5)] : List Int32) (own_Aig_94 vg1 vg2 vg3 vg4 vg5))), .unset, .unset, .unset] [(.int (own_Vig_82 vg1 vg2 vg3 vg4 vg5)), (.ref b6)]
  obtain ⟨T65, X65, e65, st65⟩ := own_callVP (y := (⟨"com/example/dissoc/dissoc/mincut/FlowNetwork", "isForward", "(I)Z"⟩ : MethodName)) (z := (⟨"com/example/dissoc/dissoc/mincut/FlowNetwork", "isForward", "(I)Z"⟩ : MethodName)) (W := 0) (a := b6) X64 hx hZ hown (own_u hw 211 rfl) (own_u hw 212 rfl) (notFace_of_selects (args := #[]) (mvT hZ (own_u hw 214 rfl))) (own_u hw 214 rfl) (own_u hw 213 rfl) (own_u hw 3 rfl) (own_u hw 215 rfl) (by decide) (own_isf l Z a0 hw [] b6 (own_Vig_82 vg1 vg2 vg3 vg4 vg5) fo34 ko34 ea34 ke34 ([(own_Vig_66 vg1 vg2 vg3 vg4 vg5), (own_Vig_82 vg1 vg2 vg3 vg4 vg5)] : List Int32) (own_Aig_94 vg1 vg2 vg3 vg4 vg5) h34 o34_3 o34_6 o34_1 o34_4 (own_HL_16 vg1 vg2 vg3 vg4 vg5 ⟨(own_n hvg1), own_t (own_n hvg1) hvg2, own_t (own_n hvg1) hvg3, own_t (own_n hvg1) hvg4, own_t (own_n hvg1) hvg5⟩) (own_HL_17 vg1 vg2 vg3 vg4 vg5 ⟨(own_n hvg1), own_t (own_n hvg1) hvg2, own_t (own_n hvg1) hvg3, own_t (own_n hvg1) hvg4, own_t (own_n hvg1) hvg5⟩)) (by decide) (by decide) rfl rfl (by decide) (by decide) e64 o34_0 (pc := 213) (Ls := #[.val (.int p0), .val (.int p1), .val (.int p2), .val (.int p3), .val (.int p4), .val (.int vg1), .val (.int vg2), .val (.int vg3), .val (.int vg4), .val (.int vg5), .val (.ref b6), .val (.int (own_Vig_66 vg1 vg2 vg3 vg4 vg5)), .val (.int (own_Vig_82 vg1 vg2 vg3 vg4 vg5)), .val (.ref va34), .val (.int (own_VL_4 vg1 vg2 vg3 vg4 vg5)), .val (.int (own_VL_6 vg1 vg2 vg3 vg4 vg5)), .val (.int (own_Fif (own_Vig_66 vg1 vg2 vg3 vg4 vg5) ([(own_Vig_66 vg1 vg2 vg3 vg4 vg5), (own_Vig_82 vg1 vg2 vg3 vg4 vg5)] : List Int32) (own_Aig_94 vg1 vg2 vg3 vg4 vg5))), .unset, .unset, .unset]) (st := [(.int (own_Vig_82 vg1 vg2 vg3 vg4 vg5)), (.ref b6)]) (argsL := [(.int (own_Vig_82 vg1 vg2 vg3 vg4 vg5))]) (rest := []) (by rw [hml]; rfl) (lenOf own_pd12 rfl) rfl rfl (Nat.le_of_eq rfl) (hb hby at_213)
  refine own_via st65 ?_
  show own_H T65 216 #[.val (.int p0), .val (.int p1), .val (.int p2), .val (.int p3), .val (.int p4), .val (.int vg1), .val (.int vg2), .val (.int vg3), .val (.int vg4), .val (.int vg5), .val (.ref b6), .val (.int (own_Vig_66 vg1 vg2 vg3 vg4 vg5)), .val (.int (own_Vig_82 vg1 vg2 vg3 vg4 vg5)), .val (.ref va34), .val (.int (own_VL_4 vg1 vg2 vg3 vg4 vg5)), .val (.int (own_VL_6 vg1 vg2 vg3 vg4 vg5)), .val (.int (own_Fif (own_Vig_66 vg1 vg2 vg3 vg4 vg5) ([(own_Vig_66 vg1 vg2 vg3 vg4 vg5), (own_Vig_82 vg1 vg2 vg3 vg4 vg5)] : List Int32) (own_Aig_94 vg1 vg2 vg3 vg4 vg5))), .unset, .unset, .unset] [(.int (own_Fif (own_Vig_82 vg1 vg2 vg3 vg4 vg5) ([(own_Vig_66 vg1 vg2 vg3 vg4 vg5), (own_Vig_82 vg1 vg2 vg3 vg4 vg5)] : List Int32) (own_Aig_94 vg1 vg2 vg3 vg4 vg5)))]
  refine own_via (fun t k => XS.istore X65.here hx rfl (hb hby at_216) rfl (l' := #[.val (.int p0), .val (.int p1), .val (.int p2), .val (.int p3), .val (.int p4), .val (.int vg1), .val (.int vg2), .val (.int vg3), .val (.int vg4), .val (.int vg5), .val (.ref b6), .val (.int (own_Vig_66 vg1 vg2 vg3 vg4 vg5)), .val (.int (own_Vig_82 vg1 vg2 vg3 vg4 vg5)), .val (.ref va34), .val (.int (own_VL_4 vg1 vg2 vg3 vg4 vg5)), .val (.int (own_VL_6 vg1 vg2 vg3 vg4 vg5)), .val (.int (own_Fif (own_Vig_66 vg1 vg2 vg3 vg4 vg5) ([(own_Vig_66 vg1 vg2 vg3 vg4 vg5), (own_Vig_82 vg1 vg2 vg3 vg4 vg5)] : List Int32) (own_Aig_94 vg1 vg2 vg3 vg4 vg5))), .val (.int (own_Fif (own_Vig_82 vg1 vg2 vg3 vg4 vg5) ([(own_Vig_66 vg1 vg2 vg3 vg4 vg5), (own_Vig_82 vg1 vg2 vg3 vg4 vg5)] : List Int32) (own_Aig_94 vg1 vg2 vg3 vg4 vg5))), .unset, .unset]) rfl k) ?_
  refine own_via (fun t k => XS.aload X65.here hx rfl (hb hby at_218) rfl rfl k) ?_
  refine own_via (fun t k => XS.iload X65.here hx rfl (hb hby at_220) rfl k) ?_
  show own_H T65 222 #[.val (.int p0), .val (.int p1), .val (.int p2), .val (.int p3), .val (.int p4), .val (.int vg1), .val (.int vg2), .val (.int vg3), .val (.int vg4), .val (.int vg5), .val (.ref b6), .val (.int (own_Vig_66 vg1 vg2 vg3 vg4 vg5)), .val (.int (own_Vig_82 vg1 vg2 vg3 vg4 vg5)), .val (.ref va34), .val (.int (own_VL_4 vg1 vg2 vg3 vg4 vg5)), .val (.int (own_VL_6 vg1 vg2 vg3 vg4 vg5)), .val (.int (own_Fif (own_Vig_66 vg1 vg2 vg3 vg4 vg5) ([(own_Vig_66 vg1 vg2 vg3 vg4 vg5), (own_Vig_82 vg1 vg2 vg3 vg4 vg5)] : List Int32) (own_Aig_94 vg1 vg2 vg3 vg4 vg5))), .val (.int (own_Fif (own_Vig_82 vg1 vg2 vg3 vg4 vg5) ([(own_Vig_66 vg1 vg2 vg3 vg4 vg5), (own_Vig_82 vg1 vg2 vg3 vg4 vg5)] : List Int32) (own_Aig_94 vg1 vg2 vg3 vg4 vg5))), .unset, .unset] [(.int (own_VL_4 vg1 vg2 vg3 vg4 vg5)), (.ref b6)]
  obtain ⟨T66, X66, e66, st66⟩ := own_callVP (y := (⟨"com/example/dissoc/dissoc/mincut/FlowNetwork", "isForward", "(I)Z"⟩ : MethodName)) (z := (⟨"com/example/dissoc/dissoc/mincut/FlowNetwork", "isForward", "(I)Z"⟩ : MethodName)) (W := 0) (a := b6) X65 hx hZ hown (own_u hw 211 rfl) (own_u hw 212 rfl) (notFace_of_selects (args := #[]) (mvT hZ (own_u hw 214 rfl))) (own_u hw 214 rfl) (own_u hw 213 rfl) (own_u hw 3 rfl) (own_u hw 215 rfl) (by decide) (own_isf l Z a0 hw [] b6 (own_VL_4 vg1 vg2 vg3 vg4 vg5) fo34 ko34 ea34 ke34 ([(own_Vig_66 vg1 vg2 vg3 vg4 vg5), (own_Vig_82 vg1 vg2 vg3 vg4 vg5)] : List Int32) (own_Aig_94 vg1 vg2 vg3 vg4 vg5) h34 o34_3 o34_6 o34_1 o34_4 (own_HL_18 vg1 vg2 vg3 vg4 vg5 ⟨(own_n hvg1), own_t (own_n hvg1) hvg2, own_t (own_n hvg1) hvg3, own_t (own_n hvg1) hvg4, own_t (own_n hvg1) hvg5⟩) (own_HL_19 vg1 vg2 vg3 vg4 vg5 ⟨(own_n hvg1), own_t (own_n hvg1) hvg2, own_t (own_n hvg1) hvg3, own_t (own_n hvg1) hvg4, own_t (own_n hvg1) hvg5⟩)) (by decide) (by decide) rfl rfl (by decide) (by decide) e65 o34_0 (pc := 222) (Ls := #[.val (.int p0), .val (.int p1), .val (.int p2), .val (.int p3), .val (.int p4), .val (.int vg1), .val (.int vg2), .val (.int vg3), .val (.int vg4), .val (.int vg5), .val (.ref b6), .val (.int (own_Vig_66 vg1 vg2 vg3 vg4 vg5)), .val (.int (own_Vig_82 vg1 vg2 vg3 vg4 vg5)), .val (.ref va34), .val (.int (own_VL_4 vg1 vg2 vg3 vg4 vg5)), .val (.int (own_VL_6 vg1 vg2 vg3 vg4 vg5)), .val (.int (own_Fif (own_Vig_66 vg1 vg2 vg3 vg4 vg5) ([(own_Vig_66 vg1 vg2 vg3 vg4 vg5), (own_Vig_82 vg1 vg2 vg3 vg4 vg5)] : List Int32) (own_Aig_94 vg1 vg2 vg3 vg4 vg5))), .val (.int (own_Fif (own_Vig_82 vg1 vg2 vg3 vg4 vg5) ([(own_Vig_66 vg1 vg2 vg3 vg4 vg5), (own_Vig_82 vg1 vg2 vg3 vg4 vg5)] : List Int32) (own_Aig_94 vg1 vg2 vg3 vg4 vg5))), .unset, .unset]) (st := [(.int (own_VL_4 vg1 vg2 vg3 vg4 vg5)), (.ref b6)]) (argsL := [(.int (own_VL_4 vg1 vg2 vg3 vg4 vg5))]) (rest := []) (by rw [hml]; rfl) (lenOf own_pd12 rfl) rfl rfl (Nat.le_of_eq rfl) (hb hby at_222)
  refine own_via st66 ?_
  show own_H T66 225 #[.val (.int p0), .val (.int p1), .val (.int p2), .val (.int p3), .val (.int p4), .val (.int vg1), .val (.int vg2), .val (.int vg3), .val (.int vg4), .val (.int vg5), .val (.ref b6), .val (.int (own_Vig_66 vg1 vg2 vg3 vg4 vg5)), .val (.int (own_Vig_82 vg1 vg2 vg3 vg4 vg5)), .val (.ref va34), .val (.int (own_VL_4 vg1 vg2 vg3 vg4 vg5)), .val (.int (own_VL_6 vg1 vg2 vg3 vg4 vg5)), .val (.int (own_Fif (own_Vig_66 vg1 vg2 vg3 vg4 vg5) ([(own_Vig_66 vg1 vg2 vg3 vg4 vg5), (own_Vig_82 vg1 vg2 vg3 vg4 vg5)] : List Int32) (own_Aig_94 vg1 vg2 vg3 vg4 vg5))), .val (.int (own_Fif (own_Vig_82 vg1 vg2 vg3 vg4 vg5) ([(own_Vig_66 vg1 vg2 vg3 vg4 vg5), (own_Vig_82 vg1 vg2 vg3 vg4 vg5)] : List Int32) (own_Aig_94 vg1 vg2 vg3 vg4 vg5))), .unset, .unset] [(.int (own_Fif (own_VL_4 vg1 vg2 vg3 vg4 vg5) ([(own_Vig_66 vg1 vg2 vg3 vg4 vg5), (own_Vig_82 vg1 vg2 vg3 vg4 vg5)] : List Int32) (own_Aig_94 vg1 vg2 vg3 vg4 vg5)))]
  refine own_via (fun t k => XS.istore X66.here hx rfl (hb hby at_225) rfl (l' := #[.val (.int p0), .val (.int p1), .val (.int p2), .val (.int p3), .val (.int p4), .val (.int vg1), .val (.int vg2), .val (.int vg3), .val (.int vg4), .val (.int vg5), .val (.ref b6), .val (.int (own_Vig_66 vg1 vg2 vg3 vg4 vg5)), .val (.int (own_Vig_82 vg1 vg2 vg3 vg4 vg5)), .val (.ref va34), .val (.int (own_VL_4 vg1 vg2 vg3 vg4 vg5)), .val (.int (own_VL_6 vg1 vg2 vg3 vg4 vg5)), .val (.int (own_Fif (own_Vig_66 vg1 vg2 vg3 vg4 vg5) ([(own_Vig_66 vg1 vg2 vg3 vg4 vg5), (own_Vig_82 vg1 vg2 vg3 vg4 vg5)] : List Int32) (own_Aig_94 vg1 vg2 vg3 vg4 vg5))), .val (.int (own_Fif (own_Vig_82 vg1 vg2 vg3 vg4 vg5) ([(own_Vig_66 vg1 vg2 vg3 vg4 vg5), (own_Vig_82 vg1 vg2 vg3 vg4 vg5)] : List Int32) (own_Aig_94 vg1 vg2 vg3 vg4 vg5))), .val (.int (own_Fif (own_VL_4 vg1 vg2 vg3 vg4 vg5) ([(own_Vig_66 vg1 vg2 vg3 vg4 vg5), (own_Vig_82 vg1 vg2 vg3 vg4 vg5)] : List Int32) (own_Aig_94 vg1 vg2 vg3 vg4 vg5))), .unset]) rfl k) ?_
  refine own_via (fun t k => XS.aload X66.here hx rfl (hb hby at_227) rfl rfl k) ?_
  refine own_via (fun t k => XS.iload X66.here hx rfl (hb hby at_229) rfl k) ?_
  show own_H T66 231 #[.val (.int p0), .val (.int p1), .val (.int p2), .val (.int p3), .val (.int p4), .val (.int vg1), .val (.int vg2), .val (.int vg3), .val (.int vg4), .val (.int vg5), .val (.ref b6), .val (.int (own_Vig_66 vg1 vg2 vg3 vg4 vg5)), .val (.int (own_Vig_82 vg1 vg2 vg3 vg4 vg5)), .val (.ref va34), .val (.int (own_VL_4 vg1 vg2 vg3 vg4 vg5)), .val (.int (own_VL_6 vg1 vg2 vg3 vg4 vg5)), .val (.int (own_Fif (own_Vig_66 vg1 vg2 vg3 vg4 vg5) ([(own_Vig_66 vg1 vg2 vg3 vg4 vg5), (own_Vig_82 vg1 vg2 vg3 vg4 vg5)] : List Int32) (own_Aig_94 vg1 vg2 vg3 vg4 vg5))), .val (.int (own_Fif (own_Vig_82 vg1 vg2 vg3 vg4 vg5) ([(own_Vig_66 vg1 vg2 vg3 vg4 vg5), (own_Vig_82 vg1 vg2 vg3 vg4 vg5)] : List Int32) (own_Aig_94 vg1 vg2 vg3 vg4 vg5))), .val (.int (own_Fif (own_VL_4 vg1 vg2 vg3 vg4 vg5) ([(own_Vig_66 vg1 vg2 vg3 vg4 vg5), (own_Vig_82 vg1 vg2 vg3 vg4 vg5)] : List Int32) (own_Aig_94 vg1 vg2 vg3 vg4 vg5))), .unset] [(.int (own_VL_6 vg1 vg2 vg3 vg4 vg5)), (.ref b6)]
  obtain ⟨T67, X67, e67, st67⟩ := own_callVP (y := (⟨"com/example/dissoc/dissoc/mincut/FlowNetwork", "isForward", "(I)Z"⟩ : MethodName)) (z := (⟨"com/example/dissoc/dissoc/mincut/FlowNetwork", "isForward", "(I)Z"⟩ : MethodName)) (W := 0) (a := b6) X66 hx hZ hown (own_u hw 211 rfl) (own_u hw 212 rfl) (notFace_of_selects (args := #[]) (mvT hZ (own_u hw 214 rfl))) (own_u hw 214 rfl) (own_u hw 213 rfl) (own_u hw 3 rfl) (own_u hw 215 rfl) (by decide) (own_isf l Z a0 hw [] b6 (own_VL_6 vg1 vg2 vg3 vg4 vg5) fo34 ko34 ea34 ke34 ([(own_Vig_66 vg1 vg2 vg3 vg4 vg5), (own_Vig_82 vg1 vg2 vg3 vg4 vg5)] : List Int32) (own_Aig_94 vg1 vg2 vg3 vg4 vg5) h34 o34_3 o34_6 o34_1 o34_4 (own_HL_20 vg1 vg2 vg3 vg4 vg5 ⟨(own_n hvg1), own_t (own_n hvg1) hvg2, own_t (own_n hvg1) hvg3, own_t (own_n hvg1) hvg4, own_t (own_n hvg1) hvg5⟩) (own_HL_21 vg1 vg2 vg3 vg4 vg5 ⟨(own_n hvg1), own_t (own_n hvg1) hvg2, own_t (own_n hvg1) hvg3, own_t (own_n hvg1) hvg4, own_t (own_n hvg1) hvg5⟩)) (by decide) (by decide) rfl rfl (by decide) (by decide) e66 o34_0 (pc := 231) (Ls := #[.val (.int p0), .val (.int p1), .val (.int p2), .val (.int p3), .val (.int p4), .val (.int vg1), .val (.int vg2), .val (.int vg3), .val (.int vg4), .val (.int vg5), .val (.ref b6), .val (.int (own_Vig_66 vg1 vg2 vg3 vg4 vg5)), .val (.int (own_Vig_82 vg1 vg2 vg3 vg4 vg5)), .val (.ref va34), .val (.int (own_VL_4 vg1 vg2 vg3 vg4 vg5)), .val (.int (own_VL_6 vg1 vg2 vg3 vg4 vg5)), .val (.int (own_Fif (own_Vig_66 vg1 vg2 vg3 vg4 vg5) ([(own_Vig_66 vg1 vg2 vg3 vg4 vg5), (own_Vig_82 vg1 vg2 vg3 vg4 vg5)] : List Int32) (own_Aig_94 vg1 vg2 vg3 vg4 vg5))), .val (.int (own_Fif (own_Vig_82 vg1 vg2 vg3 vg4 vg5) ([(own_Vig_66 vg1 vg2 vg3 vg4 vg5), (own_Vig_82 vg1 vg2 vg3 vg4 vg5)] : List Int32) (own_Aig_94 vg1 vg2 vg3 vg4 vg5))), .val (.int (own_Fif (own_VL_4 vg1 vg2 vg3 vg4 vg5) ([(own_Vig_66 vg1 vg2 vg3 vg4 vg5), (own_Vig_82 vg1 vg2 vg3 vg4 vg5)] : List Int32) (own_Aig_94 vg1 vg2 vg3 vg4 vg5))), .unset]) (st := [(.int (own_VL_6 vg1 vg2 vg3 vg4 vg5)), (.ref b6)]) (argsL := [(.int (own_VL_6 vg1 vg2 vg3 vg4 vg5))]) (rest := []) (by rw [hml]; rfl) (lenOf own_pd12 rfl) rfl rfl (Nat.le_of_eq rfl) (hb hby at_231)
  refine own_via st67 ?_
  show own_H T67 234 #[.val (.int p0), .val (.int p1), .val (.int p2), .val (.int p3), .val (.int p4), .val (.int vg1), .val (.int vg2), .val (.int vg3), .val (.int vg4), .val (.int vg5), .val (.ref b6), .val (.int (own_Vig_66 vg1 vg2 vg3 vg4 vg5)), .val (.int (own_Vig_82 vg1 vg2 vg3 vg4 vg5)), .val (.ref va34), .val (.int (own_VL_4 vg1 vg2 vg3 vg4 vg5)), .val (.int (own_VL_6 vg1 vg2 vg3 vg4 vg5)), .val (.int (own_Fif (own_Vig_66 vg1 vg2 vg3 vg4 vg5) ([(own_Vig_66 vg1 vg2 vg3 vg4 vg5), (own_Vig_82 vg1 vg2 vg3 vg4 vg5)] : List Int32) (own_Aig_94 vg1 vg2 vg3 vg4 vg5))), .val (.int (own_Fif (own_Vig_82 vg1 vg2 vg3 vg4 vg5) ([(own_Vig_66 vg1 vg2 vg3 vg4 vg5), (own_Vig_82 vg1 vg2 vg3 vg4 vg5)] : List Int32) (own_Aig_94 vg1 vg2 vg3 vg4 vg5))), .val (.int (own_Fif (own_VL_4 vg1 vg2 vg3 vg4 vg5) ([(own_Vig_66 vg1 vg2 vg3 vg4 vg5), (own_Vig_82 vg1 vg2 vg3 vg4 vg5)] : List Int32) (own_Aig_94 vg1 vg2 vg3 vg4 vg5))), .unset] [(.int (own_Fif (own_VL_6 vg1 vg2 vg3 vg4 vg5) ([(own_Vig_66 vg1 vg2 vg3 vg4 vg5), (own_Vig_82 vg1 vg2 vg3 vg4 vg5)] : List Int32) (own_Aig_94 vg1 vg2 vg3 vg4 vg5)))]
  refine own_via (fun t k => XS.istore X67.here hx rfl (hb hby at_234) rfl (l' := #[.val (.int p0), .val (.int p1), .val (.int p2), .val (.int p3), .val (.int p4), .val (.int vg1), .val (.int vg2), .val (.int vg3), .val (.int vg4), .val (.int vg5), .val (.ref b6), .val (.int (own_Vig_66 vg1 vg2 vg3 vg4 vg5)), .val (.int (own_Vig_82 vg1 vg2 vg3 vg4 vg5)), .val (.ref va34), .val (.int (own_VL_4 vg1 vg2 vg3 vg4 vg5)), .val (.int (own_VL_6 vg1 vg2 vg3 vg4 vg5)), .val (.int (own_Fif (own_Vig_66 vg1 vg2 vg3 vg4 vg5) ([(own_Vig_66 vg1 vg2 vg3 vg4 vg5), (own_Vig_82 vg1 vg2 vg3 vg4 vg5)] : List Int32) (own_Aig_94 vg1 vg2 vg3 vg4 vg5))), .val (.int (own_Fif (own_Vig_82 vg1 vg2 vg3 vg4 vg5) ([(own_Vig_66 vg1 vg2 vg3 vg4 vg5), (own_Vig_82 vg1 vg2 vg3 vg4 vg5)] : List Int32) (own_Aig_94 vg1 vg2 vg3 vg4 vg5))), .val (.int (own_Fif (own_VL_4 vg1 vg2 vg3 vg4 vg5) ([(own_Vig_66 vg1 vg2 vg3 vg4 vg5), (own_Vig_82 vg1 vg2 vg3 vg4 vg5)] : List Int32) (own_Aig_94 vg1 vg2 vg3 vg4 vg5))), .val (.int (own_Fif (own_VL_6 vg1 vg2 vg3 vg4 vg5) ([(own_Vig_66 vg1 vg2 vg3 vg4 vg5), (own_Vig_82 vg1 vg2 vg3 vg4 vg5)] : List Int32) (own_Aig_94 vg1 vg2 vg3 vg4 vg5)))]) rfl k) ?_
  refine own_via (fun t k => XS.iload X67.here hx rfl (hb hby at_236) rfl k) ?_
  show own_H T67 238 #[.val (.int p0), .val (.int p1), .val (.int p2), .val (.int p3), .val (.int p4), .val (.int vg1), .val (.int vg2), .val (.int vg3), .val (.int vg4), .val (.int vg5), .val (.ref b6), .val (.int (own_Vig_66 vg1 vg2 vg3 vg4 vg5)), .val (.int (own_Vig_82 vg1 vg2 vg3 vg4 vg5)), .val (.ref va34), .val (.int (own_VL_4 vg1 vg2 vg3 vg4 vg5)), .val (.int (own_VL_6 vg1 vg2 vg3 vg4 vg5)), .val (.int (own_Fif (own_Vig_66 vg1 vg2 vg3 vg4 vg5) ([(own_Vig_66 vg1 vg2 vg3 vg4 vg5), (own_Vig_82 vg1 vg2 vg3 vg4 vg5)] : List Int32) (own_Aig_94 vg1 vg2 vg3 vg4 vg5))), .val (.int (own_Fif (own_Vig_82 vg1 vg2 vg3 vg4 vg5) ([(own_Vig_66 vg1 vg2 vg3 vg4 vg5), (own_Vig_82 vg1 vg2 vg3 vg4 vg5)] : List Int32) (own_Aig_94 vg1 vg2 vg3 vg4 vg5))), .val (.int (own_Fif (own_VL_4 vg1 vg2 vg3 vg4 vg5) ([(own_Vig_66 vg1 vg2 vg3 vg4 vg5), (own_Vig_82 vg1 vg2 vg3 vg4 vg5)] : List Int32) (own_Aig_94 vg1 vg2 vg3 vg4 vg5))), .val (.int (own_Fif (own_VL_6 vg1 vg2 vg3 vg4 vg5) ([(own_Vig_66 vg1 vg2 vg3 vg4 vg5), (own_Vig_82 vg1 vg2 vg3 vg4 vg5)] : List Int32) (own_Aig_94 vg1 vg2 vg3 vg4 vg5)))] [(.int (own_Fif (own_Vig_66 vg1 vg2 vg3 vg4 vg5) ([(own_Vig_66 vg1 vg2 vg3 vg4 vg5), (own_Vig_82 vg1 vg2 vg3 vg4 vg5)] : List Int32) (own_Aig_94 vg1 vg2 vg3 vg4 vg5)))]
  refine own_via (fun t k => XS.ifNo X67.here hx rfl (hb hby at_238) rfl ((if0 _ _).trans (feq (own_HL_22 vg1 vg2 vg3 vg4 vg5 ⟨(own_n hvg1), own_t (own_n hvg1) hvg2, own_t (own_n hvg1) hvg3, own_t (own_n hvg1) hvg4, own_t (own_n hvg1) hvg5⟩)).1) k) ?_
  show own_H T67 241 #[.val (.int p0), .val (.int p1), .val (.int p2), .val (.int p3), .val (.int p4), .val (.int vg1), .val (.int vg2), .val (.int vg3), .val (.int vg4), .val (.int vg5), .val (.ref b6), .val (.int (own_Vig_66 vg1 vg2 vg3 vg4 vg5)), .val (.int (own_Vig_82 vg1 vg2 vg3 vg4 vg5)), .val (.ref va34), .val (.int (own_VL_4 vg1 vg2 vg3 vg4 vg5)), .val (.int (own_VL_6 vg1 vg2 vg3 vg4 vg5)), .val (.int (own_Fif (own_Vig_66 vg1 vg2 vg3 vg4 vg5) ([(own_Vig_66 vg1 vg2 vg3 vg4 vg5), (own_Vig_82 vg1 vg2 vg3 vg4 vg5)] : List Int32) (own_Aig_94 vg1 vg2 vg3 vg4 vg5))), .val (.int (own_Fif (own_Vig_82 vg1 vg2 vg3 vg4 vg5) ([(own_Vig_66 vg1 vg2 vg3 vg4 vg5), (own_Vig_82 vg1 vg2 vg3 vg4 vg5)] : List Int32) (own_Aig_94 vg1 vg2 vg3 vg4 vg5))), .val (.int (own_Fif (own_VL_4 vg1 vg2 vg3 vg4 vg5) ([(own_Vig_66 vg1 vg2 vg3 vg4 vg5), (own_Vig_82 vg1 vg2 vg3 vg4 vg5)] : List Int32) (own_Aig_94 vg1 vg2 vg3 vg4 vg5))), .val (.int (own_Fif (own_VL_6 vg1 vg2 vg3 vg4 vg5) ([(own_Vig_66 vg1 vg2 vg3 vg4 vg5), (own_Vig_82 vg1 vg2 vg3 vg4 vg5)] : List Int32) (own_Aig_94 vg1 vg2 vg3 vg4 vg5)))] []
  refine own_via (fun t k => XS.iload X67.here hx rfl (hb hby at_241) rfl k) ?_
  show own_H T67 243 #[.val (.int p0), .val (.int p1), .val (.int p2), .val (.int p3), .val (.int p4), .val (.int vg1), .val (.int vg2), .val (.int vg3), .val (.int vg4), .val (.int vg5), .val (.ref b6), .val (.int (own_Vig_66 vg1 vg2 vg3 vg4 vg5)), .val (.int (own_Vig_82 vg1 vg2 vg3 vg4 vg5)), .val (.ref va34), .val (.int (own_VL_4 vg1 vg2 vg3 vg4 vg5)), .val (.int (own_VL_6 vg1 vg2 vg3 vg4 vg5)), .val (.int (own_Fif (own_Vig_66 vg1 vg2 vg3 vg4 vg5) ([(own_Vig_66 vg1 vg2 vg3 vg4 vg5), (own_Vig_82 vg1 vg2 vg3 vg4 vg5)] : List Int32) (own_Aig_94 vg1 vg2 vg3 vg4 vg5))), .val (.int (own_Fif (own_Vig_82 vg1 vg2 vg3 vg4 vg5) ([(own_Vig_66 vg1 vg2 vg3 vg4 vg5), (own_Vig_82 vg1 vg2 vg3 vg4 vg5)] : List Int32) (own_Aig_94 vg1 vg2 vg3 vg4 vg5))), .val (.int (own_Fif (own_VL_4 vg1 vg2 vg3 vg4 vg5) ([(own_Vig_66 vg1 vg2 vg3 vg4 vg5), (own_Vig_82 vg1 vg2 vg3 vg4 vg5)] : List Int32) (own_Aig_94 vg1 vg2 vg3 vg4 vg5))), .val (.int (own_Fif (own_VL_6 vg1 vg2 vg3 vg4 vg5) ([(own_Vig_66 vg1 vg2 vg3 vg4 vg5), (own_Vig_82 vg1 vg2 vg3 vg4 vg5)] : List Int32) (own_Aig_94 vg1 vg2 vg3 vg4 vg5)))] [(.int (own_Fif (own_Vig_82 vg1 vg2 vg3 vg4 vg5) ([(own_Vig_66 vg1 vg2 vg3 vg4 vg5), (own_Vig_82 vg1 vg2 vg3 vg4 vg5)] : List Int32) (own_Aig_94 vg1 vg2 vg3 vg4 vg5)))]
  refine own_via (fun t k => XS.ifNo X67.here hx rfl (hb hby at_243) rfl ((if0 _ _).trans (feq (own_HL_23 vg1 vg2 vg3 vg4 vg5 ⟨(own_n hvg1), own_t (own_n hvg1) hvg2, own_t (own_n hvg1) hvg3, own_t (own_n hvg1) hvg4, own_t (own_n hvg1) hvg5⟩)).1) k) ?_
  show own_H T67 246 #[.val (.int p0), .val (.int p1), .val (.int p2), .val (.int p3), .val (.int p4), .val (.int vg1), .val (.int vg2), .val (.int vg3), .val (.int vg4), .val (.int vg5), .val (.ref b6), .val (.int (own_Vig_66 vg1 vg2 vg3 vg4 vg5)), .val (.int (own_Vig_82 vg1 vg2 vg3 vg4 vg5)), .val (.ref va34), .val (.int (own_VL_4 vg1 vg2 vg3 vg4 vg5)), .val (.int (own_VL_6 vg1 vg2 vg3 vg4 vg5)), .val (.int (own_Fif (own_Vig_66 vg1 vg2 vg3 vg4 vg5) ([(own_Vig_66 vg1 vg2 vg3 vg4 vg5), (own_Vig_82 vg1 vg2 vg3 vg4 vg5)] : List Int32) (own_Aig_94 vg1 vg2 vg3 vg4 vg5))), .val (.int (own_Fif (own_Vig_82 vg1 vg2 vg3 vg4 vg5) ([(own_Vig_66 vg1 vg2 vg3 vg4 vg5), (own_Vig_82 vg1 vg2 vg3 vg4 vg5)] : List Int32) (own_Aig_94 vg1 vg2 vg3 vg4 vg5))), .val (.int (own_Fif (own_VL_4 vg1 vg2 vg3 vg4 vg5) ([(own_Vig_66 vg1 vg2 vg3 vg4 vg5), (own_Vig_82 vg1 vg2 vg3 vg4 vg5)] : List Int32) (own_Aig_94 vg1 vg2 vg3 vg4 vg5))), .val (.int (own_Fif (own_VL_6 vg1 vg2 vg3 vg4 vg5) ([(own_Vig_66 vg1 vg2 vg3 vg4 vg5), (own_Vig_82 vg1 vg2 vg3 vg4 vg5)] : List Int32) (own_Aig_94 vg1 vg2 vg3 vg4 vg5)))] []
  refine own_via (fun t k => XS.iload X67.here hx rfl (hb hby at_246) rfl k) ?_
  show own_H T67 248 #[.val (.int p0), .val (.int p1), .val (.int p2), .val (.int p3), .val (.int p4), .val (.int vg1), .val (.int vg2), .val (.int vg3), .val (.int vg4), .val (.int vg5), .val (.ref b6), .val (.int (own_Vig_66 vg1 vg2 vg3 vg4 vg5)), .val (.int (own_Vig_82 vg1 vg2 vg3 vg4 vg5)), .val (.ref va34), .val (.int (own_VL_4 vg1 vg2 vg3 vg4 vg5)), .val (.int (own_VL_6 vg1 vg2 vg3 vg4 vg5)), .val (.int (own_Fif (own_Vig_66 vg1 vg2 vg3 vg4 vg5) ([(own_Vig_66 vg1 vg2 vg3 vg4 vg5), (own_Vig_82 vg1 vg2 vg3 vg4 vg5)] : List Int32) (own_Aig_94 vg1 vg2 vg3 vg4 vg5))), .val (.int (own_Fif (own_Vig_82 vg1 vg2 vg3 vg4 vg5) ([(own_Vig_66 vg1 vg2 vg3 vg4 vg5), (own_Vig_82 vg1 vg2 vg3 vg4 vg5)] : List Int32) (own_Aig_94 vg1 vg2 vg3 vg4 vg5))), .val (.int (own_Fif (own_VL_4 vg1 vg2 vg3 vg4 vg5) ([(own_Vig_66 vg1 vg2 vg3 vg4 vg5), (own_Vig_82 vg1 vg2 vg3 vg4 vg5)] : List Int32) (own_Aig_94 vg1 vg2 vg3 vg4 vg5))), .val (.int (own_Fif (own_VL_6 vg1 vg2 vg3 vg4 vg5) ([(own_Vig_66 vg1 vg2 vg3 vg4 vg5), (own_Vig_82 vg1 vg2 vg3 vg4 vg5)] : List Int32) (own_Aig_94 vg1 vg2 vg3 vg4 vg5)))] [(.int (own_Fif (own_VL_4 vg1 vg2 vg3 vg4 vg5) ([(own_Vig_66 vg1 vg2 vg3 vg4 vg5), (own_Vig_82 vg1 vg2 vg3 vg4 vg5)] : List Int32) (own_Aig_94 vg1 vg2 vg3 vg4 vg5)))]
  refine own_via (fun t k => XS.ifNo X67.here hx rfl (hb hby at_248) rfl ((if0 _ _).trans (teq (own_HL_24 vg1 vg2 vg3 vg4 vg5 ⟨(own_n hvg1), own_t (own_n hvg1) hvg2, own_t (own_n hvg1) hvg3, own_t (own_n hvg1) hvg4, own_t (own_n hvg1) hvg5⟩)).2) k) ?_
  show own_H T67 251 #[.val (.int p0), .val (.int p1), .val (.int p2), .val (.int p3), .val (.int p4), .val (.int vg1), .val (.int vg2), .val (.int vg3), .val (.int vg4), .val (.int vg5), .val (.ref b6), .val (.int (own_Vig_66 vg1 vg2 vg3 vg4 vg5)), .val (.int (own_Vig_82 vg1 vg2 vg3 vg4 vg5)), .val (.ref va34), .val (.int (own_VL_4 vg1 vg2 vg3 vg4 vg5)), .val (.int (own_VL_6 vg1 vg2 vg3 vg4 vg5)), .val (.int (own_Fif (own_Vig_66 vg1 vg2 vg3 vg4 vg5) ([(own_Vig_66 vg1 vg2 vg3 vg4 vg5), (own_Vig_82 vg1 vg2 vg3 vg4 vg5)] : List Int32) (own_Aig_94 vg1 vg2 vg3 vg4 vg5))), .val (.int (own_Fif (own_Vig_82 vg1 vg2 vg3 vg4 vg5) ([(own_Vig_66 vg1 vg2 vg3 vg4 vg5), (own_Vig_82 vg1 vg2 vg3 vg4 vg5)] : List Int32) (own_Aig_94 vg1 vg2 vg3 vg4 vg5))), .val (.int (own_Fif (own_VL_4 vg1 vg2 vg3 vg4 vg5) ([(own_Vig_66 vg1 vg2 vg3 vg4 vg5), (own_Vig_82 vg1 vg2 vg3 vg4 vg5)] : List Int32) (own_Aig_94 vg1 vg2 vg3 vg4 vg5))), .val (.int (own_Fif (own_VL_6 vg1 vg2 vg3 vg4 vg5) ([(own_Vig_66 vg1 vg2 vg3 vg4 vg5), (own_Vig_82 vg1 vg2 vg3 vg4 vg5)] : List Int32) (own_Aig_94 vg1 vg2 vg3 vg4 vg5)))] []
  refine own_via (fun t k => XS.iload X67.here hx rfl (hb hby at_251) rfl k) ?_
  show own_H T67 253 #[.val (.int p0), .val (.int p1), .val (.int p2), .val (.int p3), .val (.int p4), .val (.int vg1), .val (.int vg2), .val (.int vg3), .val (.int vg4), .val (.int vg5), .val (.ref b6), .val (.int (own_Vig_66 vg1 vg2 vg3 vg4 vg5)), .val (.int (own_Vig_82 vg1 vg2 vg3 vg4 vg5)), .val (.ref va34), .val (.int (own_VL_4 vg1 vg2 vg3 vg4 vg5)), .val (.int (own_VL_6 vg1 vg2 vg3 vg4 vg5)), .val (.int (own_Fif (own_Vig_66 vg1 vg2 vg3 vg4 vg5) ([(own_Vig_66 vg1 vg2 vg3 vg4 vg5), (own_Vig_82 vg1 vg2 vg3 vg4 vg5)] : List Int32) (own_Aig_94 vg1 vg2 vg3 vg4 vg5))), .val (.int (own_Fif (own_Vig_82 vg1 vg2 vg3 vg4 vg5) ([(own_Vig_66 vg1 vg2 vg3 vg4 vg5), (own_Vig_82 vg1 vg2 vg3 vg4 vg5)] : List Int32) (own_Aig_94 vg1 vg2 vg3 vg4 vg5))), .val (.int (own_Fif (own_VL_4 vg1 vg2 vg3 vg4 vg5) ([(own_Vig_66 vg1 vg2 vg3 vg4 vg5), (own_Vig_82 vg1 vg2 vg3 vg4 vg5)] : List Int32) (own_Aig_94 vg1 vg2 vg3 vg4 vg5))), .val (.int (own_Fif (own_VL_6 vg1 vg2 vg3 vg4 vg5) ([(own_Vig_66 vg1 vg2 vg3 vg4 vg5), (own_Vig_82 vg1 vg2 vg3 vg4 vg5)] : List Int32) (own_Aig_94 vg1 vg2 vg3 vg4 vg5)))] [(.int (own_Fif (own_VL_6 vg1 vg2 vg3 vg4 vg5) ([(own_Vig_66 vg1 vg2 vg3 vg4 vg5), (own_Vig_82 vg1 vg2 vg3 vg4 vg5)] : List Int32) (own_Aig_94 vg1 vg2 vg3 vg4 vg5)))]
  refine own_via (fun t k => XS.ifNo X67.here hx rfl (hb hby at_253) rfl ((if0 _ _).trans (teq (own_HL_25 vg1 vg2 vg3 vg4 vg5 ⟨(own_n hvg1), own_t (own_n hvg1) hvg2, own_t (own_n hvg1) hvg3, own_t (own_n hvg1) hvg4, own_t (own_n hvg1) hvg5⟩)).2) k) ?_
  show own_H T67 256 #[.val (.int p0), .val (.int p1), .val (.int p2), .val (.int p3), .val (.int p4), .val (.int vg1), .val (.int vg2), .val (.int vg3), .val (.int vg4), .val (.int vg5), .val (.ref b6), .val (.int (own_Vig_66 vg1 vg2 vg3 vg4 vg5)), .val (.int (own_Vig_82 vg1 vg2 vg3 vg4 vg5)), .val (.ref va34), .val (.int (own_VL_4 vg1 vg2 vg3 vg4 vg5)), .val (.int (own_VL_6 vg1 vg2 vg3 vg4 vg5)), .val (.int (own_Fif (own_Vig_66 vg1 vg2 vg3 vg4 vg5) ([(own_Vig_66 vg1 vg2 vg3 vg4 vg5), (own_Vig_82 vg1 vg2 vg3 vg4 vg5)] : List Int32) (own_Aig_94 vg1 vg2 vg3 vg4 vg5))), .val (.int (own_Fif (own_Vig_82 vg1 vg2 vg3 vg4 vg5) ([(own_Vig_66 vg1 vg2 vg3 vg4 vg5), (own_Vig_82 vg1 vg2 vg3 vg4 vg5)] : List Int32) (own_Aig_94 vg1 vg2 vg3 vg4 vg5))), .val (.int (own_Fif (own_VL_4 vg1 vg2 vg3 vg4 vg5) ([(own_Vig_66 vg1 vg2 vg3 vg4 vg5), (own_Vig_82 vg1 vg2 vg3 vg4 vg5)] : List Int32) (own_Aig_94 vg1 vg2 vg3 vg4 vg5))), .val (.int (own_Fif (own_VL_6 vg1 vg2 vg3 vg4 vg5) ([(own_Vig_66 vg1 vg2 vg3 vg4 vg5), (own_Vig_82 vg1 vg2 vg3 vg4 vg5)] : List Int32) (own_Aig_94 vg1 vg2 vg3 vg4 vg5)))] []
  refine own_via (fun t k => XS.iconst X67.here hx rfl (hb hby at_256) k) ?_
  show own_H T67 257 #[.val (.int p0), .val (.int p1), .val (.int p2), .val (.int p3), .val (.int p4), .val (.int vg1), .val (.int vg2), .val (.int vg3), .val (.int vg4), .val (.int vg5), .val (.ref b6), .val (.int (own_Vig_66 vg1 vg2 vg3 vg4 vg5)), .val (.int (own_Vig_82 vg1 vg2 vg3 vg4 vg5)), .val (.ref va34), .val (.int (own_VL_4 vg1 vg2 vg3 vg4 vg5)), .val (.int (own_VL_6 vg1 vg2 vg3 vg4 vg5)), .val (.int (own_Fif (own_Vig_66 vg1 vg2 vg3 vg4 vg5) ([(own_Vig_66 vg1 vg2 vg3 vg4 vg5), (own_Vig_82 vg1 vg2 vg3 vg4 vg5)] : List Int32) (own_Aig_94 vg1 vg2 vg3 vg4 vg5))), .val (.int (own_Fif (own_Vig_82 vg1 vg2 vg3 vg4 vg5) ([(own_Vig_66 vg1 vg2 vg3 vg4 vg5), (own_Vig_82 vg1 vg2 vg3 vg4 vg5)] : List Int32) (own_Aig_94 vg1 vg2 vg3 vg4 vg5))), .val (.int (own_Fif (own_VL_4 vg1 vg2 vg3 vg4 vg5) ([(own_Vig_66 vg1 vg2 vg3 vg4 vg5), (own_Vig_82 vg1 vg2 vg3 vg4 vg5)] : List Int32) (own_Aig_94 vg1 vg2 vg3 vg4 vg5))), .val (.int (own_Fif (own_VL_6 vg1 vg2 vg3 vg4 vg5) ([(own_Vig_66 vg1 vg2 vg3 vg4 vg5), (own_Vig_82 vg1 vg2 vg3 vg4 vg5)] : List Int32) (own_Aig_94 vg1 vg2 vg3 vg4 vg5)))] [(.int (1 : Int32))]
  refine own_via (fun t k => XS.goto X67.here hx rfl (pc0 := 257) (pc' := 261) rfl (hb hby at_257) (by decide) (by decide) k) ?_
  show own_H T67 261 #[.val (.int p0), .val (.int p1), .val (.int p2), .val (.int p3), .val (.int p4), .val (.int vg1), .val (.int vg2), .val (.int vg3), .val (.int vg4), .val (.int vg5), .val (.ref b6), .val (.int (own_Vig_66 vg1 vg2 vg3 vg4 vg5)), .val (.int (own_Vig_82 vg1 vg2 vg3 vg4 vg5)), .val (.ref va34), .val (.int (own_VL_4 vg1 vg2 vg3 vg4 vg5)), .val (.int (own_VL_6 vg1 vg2 vg3 vg4 vg5)), .val (.int (own_Fif (own_Vig_66 vg1 vg2 vg3 vg4 vg5) ([(own_Vig_66 vg1 vg2 vg3 vg4 vg5), (own_Vig_82 vg1 vg2 vg3 vg4 vg5)] : List Int32) (own_Aig_94 vg1 vg2 vg3 vg4 vg5))), .val (.int (own_Fif (own_Vig_82 vg1 vg2 vg3 vg4 vg5) ([(own_Vig_66 vg1 vg2 vg3 vg4 vg5), (own_Vig_82 vg1 vg2 vg3 vg4 vg5)] : List Int32) (own_Aig_94 vg1 vg2 vg3 vg4 vg5))), .val (.int (own_Fif (own_VL_4 vg1 vg2 vg3 vg4 vg5) ([(own_Vig_66 vg1 vg2 vg3 vg4 vg5), (own_Vig_82 vg1 vg2 vg3 vg4 vg5)] : List Int32) (own_Aig_94 vg1 vg2 vg3 vg4 vg5))), .val (.int (own_Fif (own_VL_6 vg1 vg2 vg3 vg4 vg5) ([(own_Vig_66 vg1 vg2 vg3 vg4 vg5), (own_Vig_82 vg1 vg2 vg3 vg4 vg5)] : List Int32) (own_Aig_94 vg1 vg2 vg3 vg4 vg5)))] [(.int (1 : Int32))]
  exact own_retN (t := .boolean) X67 hx Bd.returns (by simp) Bd.notSynchronized (hb hby at_261) ⟨N34, rfl⟩ (by decide) (by decide)
set_option maxRecDepth 65536 in
set_option maxHeartbeats 40000000 in
theorem comes_1 {Post : Tables → Env → Array Value → State → Outcome → State → Prop} (hpost : ∀ tb e args s v u, (limb_1_1.after args s (.returned v) u = true ∧ limb_1_2.after args s (.returned v) u = true) → FrameEnd s (.returned v) u (Jvm.fieldLocs frame_1_writes args s ++ Jvm.arrayLocs frame_1_arrays args s ++ Jvm.staticLocs frame_1_statics s) 80 576 → Post tb e args s (.returned v) u) :
    ArmFor flags0 classFile x code maxLocals ret World_1 tables_1 room_1 Calls_1 rest_1 Pre_1 Post := by
  intro l hfl _ _ p e ha hc hk s m args below hf hA hF happ hP
  obtain ⟨hcalls, hrest, hpre⟩ := hP
  obtain ⟨-, -, -, hnamed, -, -, -, hat⟩ := (Spec.applies_iff hf).mp happ
  obtain ⟨hg, hn⟩ := and_e (Cond.before_iff.mp (show (Jvm.Cond.and given_1 narrow_1).before args s = true from hpre))
  obtain ⟨g1, g2⟩ := and_e hg
  obtain ⟨g3, g4⟩ := and_e g2
  obtain ⟨g5, g6⟩ := and_e g4
  obtain ⟨g7, g8⟩ := and_e g6
  obtain ⟨g9, g10⟩ := and_e g8
  obtain ⟨w0, w1, w2, w3, w4, rfl⟩ : ∃ w0 w1 w2 w3 w4 : Value, args = #[w0, w1, w2, w3, w4] := by
    have hs : args.size = 5 := by simpa [Cond.value, given_1] using g1
    obtain ⟨L⟩ := args
    match L, hs with
    | [w0, w1, w2, w3, w4], _ => exact ⟨w0, w1, w2, w3, w4, rfl⟩
  have hw := fun d (hd : d ∈ tables_1) => atoms_spec (ws := Jvm.Cond.code x code maxLocals ret :: tables_1) hat d (List.mem_cons_of_mem _ hd)
  obtain ⟨i0, ei0⟩ := is_v g3
  obtain rfl : w0 = (.int i0) := Option.some.inj ei0
  obtain ⟨i1, ei1⟩ := is_v g5
  obtain rfl : w1 = (.int i1) := Option.some.inj ei1
  obtain ⟨i2, ei2⟩ := is_v g7
  obtain rfl : w2 = (.int i2) := Option.some.inj ei2
  obtain ⟨i3, ei3⟩ := is_v g9
  obtain rfl : w3 = (.int i3) := Option.some.inj ei3
  obtain ⟨i4, ei4⟩ := is_v g10
  obtain rfl : w4 = (.int i4) := Option.some.inj ei4
  obtain ⟨hsets, hown0⟩ := atoms_of _ (rest_1_c_eq ▸ (show rest_1_c.before _ s = true from hrest))
  have S1 := Sta.start (own_eqv (Cond.before_iff.mp (hsets _ (List.mem_of_getElem? (i := 2) rfl)))) (Or.inl (hsets _ (List.mem_of_getElem? (i := 1) rfl)))
  obtain ⟨n, o, h1, h2, h3, _, L, rfl, ⟨N, rfl⟩, hq⟩ := own_rm0 l s _ hw tables_1 i0 i1 i2 i3 i4 s.heap s.heap.size (Nat.le_refl _) S1 p e ha hc hk s m _ below hf ((Spec.applies_iff_loose hf).mp happ).1 ⟨rfl, State.Warmed39.refl s, rfl⟩ trivial
  refine ⟨n, _, h1, h2, h3, hpost _ _ _ _ _ _ ⟨Cond.after_iff.mpr rfl, Cond.after_iff.mpr (eq_i res_at (Term.int_eval (1)) rfl)⟩ ⟨hq.1, hq.2.1, (hq.2.2.sift fun y hy => Or.inr (N y hy)).mono (by decide) (by decide)⟩⟩
theorem main_1_1 : Claimed_1_1 := comes_1 fun _ _ _ _ _ _ h hF => ⟨h.1, hF⟩
theorem main_1_2 : Claimed_1_2 := comes_1 fun _ _ _ _ _ _ h hF => ⟨h.2, hF⟩
end Jvm.Pilot.@@N@@
namespace Jvm.Pilot.@@N@@
open Jvm Jvm.ClassFile Sem Op Lib Jvm.Free Jvm.Stand Jvm.Pilot.@@N@@.Jvm.D
/-! MADE BY PROGRAM (witnessworld.py) out of the Statement's table words and the real class files: 17 classes; the members and pool entries that the words name. The judged class is class 1, her method 2. -/
namespace start1
open Jvm.ClassFile
def u (s : String) : CpInfo := .utf8 (stringToUtf16 s)
/-- a pool by its gaps: so many unusable entries, then the entry; so many at the end -/
def gap : Nat → List CpInfo → List CpInfo
  | 0, r => r
  | n + 1, r => .unusable :: gap n r
def poolList (es : List (Nat × CpInfo)) (last : Nat) : List CpInfo := es.foldr (fun e r => gap e.1 (e.2 :: r)) (gap last [])
def pool (es : List (Nat × CpInfo)) (last : Nat) : Array CpInfo := ⟨poolList es last⟩
def fileOf (pool : Array CpInfo) (this : Nat) (attrs : Array Attribute := #[]) (ms : Array MethodInfo := #[]) (fl : Nat := 33) (sup : Nat := 0) (ifs : Array Nat := #[]) (fds : Array FieldInfo := #[]) : ClassFile where
  minorVersion := 0
  majorVersion := 65
  constantPool := pool
  accessFlags := fl
  thisClass := this
  superClass := sup
  interfaces := ifs
  fields := fds
  methods := ms
  attributes := attrs
def plain (name : String) (sup : Option ClassId) : Class where
  name := name
  kind := .ordinary
  loader := none
  accessFlags := 33
  super := sup
  interfaces := #[]
  cf := none
  fields := #[]
  methods := #[]
  instanceTypes := #[]
  staticTypes := #[]
  resolved := #[]
  callSites := []
  init := .initialized
  statics := none
  mirror := none

def pool0 : Array CpInfo := pool [(5, u "<init>"), (0, u "()V"), (1, .class_ 10), (1, u "java/lang/Object")] 113

def k0c0 : Code := { maxStack := 0, maxLocals := 1, code := object_method_1_code, exceptionTable := #[], attributes := #[] }
def k0m0 : Method := { name := "<init>", desc := "()V", sig := { parameters := [], returnType := none }, accessFlags := 1, code := some k0c0 }
/-- java/lang/Object -/
def k0 : Class := { plain "java/lang/Object" none with
  accessFlags := 33
  interfaces := #[]
  cf := some (fileOf pool0 8 #[] #[{ accessFlags := 1, nameIndex := 5, descriptorIndex := 6, attributes := #[] }] 33 0 #[] #[])
  fields := #[]
  methods := #[k0m0]
  instanceTypes := #[]
  staticTypes := #[]
  resolved := Array.replicate 124 none
  statics := none }

def pool1 : Array CpInfo := pool [(2, .class_ 4), (1, u "java/lang/Object"), (0, u "<init>"), (0, u "()V"), (0, .integer 2147483647), (0, .class_ 9), (0, u "com/example/dissoc/dissoc/mincut/FlowNetwork"), (0, .methodref 8 11), (0, .nameAndType 5 12), (0, u "(I)V"), (0, .methodref 8 14), (0, .nameAndType 15 16), (0, u "addEdge"), (0, u "(III)I"), (0, .methodref 8 18), (0, .nameAndType 19 20), (0, u "zeroFlow"), (0, u "()Lcom/example/dissoc/dissoc/mincut/Flow;"), (0, .methodref 8 22), (0, .nameAndType 23 24), (0, u "forwardArc"), (0, u "(I)I"), (0, .methodref 8 26), (0, .nameAndType 27 28), (0, u "reverses"), (0, u "()[I"), (0, .methodref 30 31), (0, .class_ 32), (0, .nameAndType 33 34), (0, u "com/example/dissoc/dissoc/mincut/FlowNetworkIsForwardPinLaw"), (0, u "inRange"), (0, u "(I)Z"), (0, .methodref 8 36), (0, .nameAndType 37 34), (0, u "isForward"), (3, u "law"), (0, u "(IIIII)Z")] 4

def k1m0 : Method := { name := "<init>", desc := "()V", sig := { parameters := [], returnType := none }, accessFlags := 1, code := none }
def k1c1 : Code := { maxStack := 2, maxLocals := 1, code := method_2_code, exceptionTable := #[], attributes := #[] }
def k1m1 : Method := { name := "inRange", desc := "(I)Z", sig := { parameters := [.int], returnType := some .boolean }, accessFlags := 10, code := some k1c1 }
def k1c2 : Code := { maxStack := 4, maxLocals := 20, code := code, exceptionTable := #[], attributes := #[] }
def k1m2 : Method := { name := "law", desc := "(IIIII)Z", sig := { parameters := [.int, .int, .int, .int, .int], returnType := some .boolean }, accessFlags := 9, code := some k1c2 }
/-- com/example/dissoc/dissoc/mincut/FlowNetworkIsForwardPinLaw -/
def k1 : Class := { plain "com/example/dissoc/dissoc/mincut/FlowNetworkIsForwardPinLaw" (some 0) with
  accessFlags := 49
  interfaces := #[]
  cf := some (fileOf pool1 30 #[] #[{ accessFlags := 1, nameIndex := 5, descriptorIndex := 6, attributes := #[] }, { accessFlags := 10, nameIndex := 33, descriptorIndex := 34, attributes := #[] }, { accessFlags := 9, nameIndex := 41, descriptorIndex := 42, attributes := #[] }] 49 2 #[] #[])
  fields := #[]
  methods := #[k1m0, k1m1, k1m2]
  instanceTypes := #[]
  staticTypes := #[]
  resolved := Array.replicate 47 none
  statics := none }

def pool2 : Array CpInfo := pool [(3, .methodref 4 5), (0, .class_ 6), (0, .nameAndType 7 8), (0, u "java/lang/Object"), (0, u "<init>"), (0, u "()V"), (0, .fieldref 10 11), (0, .class_ 12), (0, .nameAndType 13 14), (0, u "com/example/dissoc/dissoc/mincut/FlowNetwork"), (0, u "from"), (0, u "[I"), (0, .fieldref 10 16), (0, .nameAndType 17 14), (0, u "to"), (0, .fieldref 10 19), (0, .nameAndType 20 14), (0, u "capacity"), (0, .fieldref 10 22), (0, .nameAndType 23 24), (0, u "nodes"), (0, u "I"), (0, .fieldref 10 26), (0, .nameAndType 27 14), (0, u "firstArc"), (7, .fieldref 10 36), (0, .nameAndType 37 24), (0, u "edges"), (0, .methodref 39 40), (0, .class_ 41), (0, .nameAndType 42 43), (0, u "java/util/Arrays"), (0, u "copyOf"), (0, u "([II)[I"), (0, .integer 536870911), (0, .methodref 46 47), (0, .class_ 48), (0, .nameAndType 49 50), (0, u "java/lang/Math"), (0, u "min"), (0, u "(II)I"), (0, .methodref 10 52), (0, .nameAndType 53 8), (0, u "index"), (0, .fieldref 10 55), (0, .nameAndType 56 14), (0, u "forward"), (0, .class_ 58), (0, u "com/example/dissoc/dissoc/mincut/Flow"), (0, .methodref 57 60), (0, .nameAndType 7 61), (0, u "(Lcom/example/dissoc/dissoc/mincut/FlowNetwork;[I)V"), (0, .fieldref 10 63), (0, .nameAndType 64 14), (0, u "target"), (0, .fieldref 10 66), (0, .nameAndType 67 14), (0, u "reverse"), (0, .fieldref 10 69), (0, .nameAndType 70 14), (0, u "edgeAt"), (0, u "UNLIMITED"), (1, u "(I)V"), (2, u "addEdge"), (0, u "(III)I"), (1, u "()I"), (1, u "(I)I"), (1, u "zeroFlow"), (0, u "()Lcom/example/dissoc/dissoc/mincut/Flow;"), (1, u "firstArcs"), (0, u "()[I"), (0, u "targets"), (0, u "reverses"), (0, u "forwardArc"), (0, u "isForward"), (0, u "(I)Z")] 2

def k2c0 : Code := { maxStack := 2, maxLocals := 2, code := prog_28_method_1_code, exceptionTable := #[], attributes := #[] }
def k2m0 : Method := { name := "<init>", desc := "(I)V", sig := { parameters := [.int], returnType := none }, accessFlags := 1, code := some k2c0 }
def k2c1 : Code := { maxStack := 4, maxLocals := 4, code := prog_28_method_2_code, exceptionTable := #[], attributes := #[] }
def k2m1 : Method := { name := "addEdge", desc := "(III)I", sig := { parameters := [.int, .int, .int], returnType := some .int }, accessFlags := 1, code := some k2c1 }
def k2c2 : Code := { maxStack := 1, maxLocals := 1, code := prog_28_method_3_code, exceptionTable := #[], attributes := #[] }
def k2m2 : Method := { name := "nodes", desc := "()I", sig := { parameters := [], returnType := some .int }, accessFlags := 1, code := some k2c2 }
def k2c3 : Code := { maxStack := 4, maxLocals := 3, code := prog_28_method_8_code, exceptionTable := #[], attributes := #[] }
def k2m3 : Method := { name := "zeroFlow", desc := "()Lcom/example/dissoc/dissoc/mincut/Flow;", sig := { parameters := [], returnType := some (.object "com/example/dissoc/dissoc/mincut/Flow") }, accessFlags := 1, code := some k2c3 }
def k2c4 : Code := { maxStack := 1, maxLocals := 1, code := prog_28_method_9_code, exceptionTable := #[], attributes := #[] }
def k2m4 : Method := { name := "firstArcs", desc := "()[I", sig := { parameters := [], returnType := some (.array .int) }, accessFlags := 0, code := some k2c4 }
def k2c5 : Code := { maxStack := 1, maxLocals := 1, code := prog_28_method_10_code, exceptionTable := #[], attributes := #[] }
def k2m5 : Method := { name := "targets", desc := "()[I", sig := { parameters := [], returnType := some (.array .int) }, accessFlags := 0, code := some k2c5 }
def k2c6 : Code := { maxStack := 1, maxLocals := 1, code := prog_28_method_11_code, exceptionTable := #[], attributes := #[] }
def k2m6 : Method := { name := "reverses", desc := "()[I", sig := { parameters := [], returnType := some (.array .int) }, accessFlags := 0, code := some k2c6 }
def k2c7 : Code := { maxStack := 2, maxLocals := 2, code := prog_28_method_12_code, exceptionTable := #[], attributes := #[] }
def k2m7 : Method := { name := "forwardArc", desc := "(I)I", sig := { parameters := [.int], returnType := some .int }, accessFlags := 0, code := some k2c7 }
def k2c8 : Code := { maxStack := 3, maxLocals := 2, code := prog_28_method_13_code, exceptionTable := #[], attributes := #[] }
def k2m8 : Method := { name := "isForward", desc := "(I)Z", sig := { parameters := [.int], returnType := some .boolean }, accessFlags := 0, code := some k2c8 }
def k2c9 : Code := { maxStack := 5, maxLocals := 5, code := prog_28_method_14_code, exceptionTable := #[], attributes := #[] }
def k2m9 : Method := { name := "index", desc := "()V", sig := { parameters := [], returnType := none }, accessFlags := 2, code := some k2c9 }
/-- com/example/dissoc/dissoc/mincut/FlowNetwork -/
def k2 : Class := { plain "com/example/dissoc/dissoc/mincut/FlowNetwork" (some 0) with
  accessFlags := 49
  interfaces := #[]
  cf := some (fileOf pool2 10 #[] #[{ accessFlags := 1, nameIndex := 7, descriptorIndex := 73, attributes := #[] }, { accessFlags := 1, nameIndex := 76, descriptorIndex := 77, attributes := #[] }, { accessFlags := 1, nameIndex := 23, descriptorIndex := 79, attributes := #[] }, { accessFlags := 1, nameIndex := 83, descriptorIndex := 84, attributes := #[] }, { accessFlags := 0, nameIndex := 86, descriptorIndex := 87, attributes := #[] }, { accessFlags := 0, nameIndex := 88, descriptorIndex := 87, attributes := #[] }, { accessFlags := 0, nameIndex := 89, descriptorIndex := 87, attributes := #[] }, { accessFlags := 0, nameIndex := 90, descriptorIndex := 81, attributes := #[] }, { accessFlags := 0, nameIndex := 91, descriptorIndex := 92, attributes := #[] }, { accessFlags := 2, nameIndex := 53, descriptorIndex := 8, attributes := #[] }] 49 4 #[] #[{ accessFlags := 25, nameIndex := 71, descriptorIndex := 24, attributes := #[] }, { accessFlags := 18, nameIndex := 23, descriptorIndex := 24, attributes := #[] }, { accessFlags := 2, nameIndex := 37, descriptorIndex := 24, attributes := #[] }, { accessFlags := 2, nameIndex := 13, descriptorIndex := 14, attributes := #[] }, { accessFlags := 2, nameIndex := 17, descriptorIndex := 14, attributes := #[] }, { accessFlags := 2, nameIndex := 20, descriptorIndex := 14, attributes := #[] }, { accessFlags := 2, nameIndex := 27, descriptorIndex := 14, attributes := #[] }, { accessFlags := 2, nameIndex := 64, descriptorIndex := 14, attributes := #[] }, { accessFlags := 2, nameIndex := 70, descriptorIndex := 14, attributes := #[] }, { accessFlags := 2, nameIndex := 67, descriptorIndex := 14, attributes := #[] }, { accessFlags := 2, nameIndex := 56, descriptorIndex := 14, attributes := #[] }])
  fields := #[{ name := "UNLIMITED", type := .int, accessFlags := 25, slot := 0, constantValue := 0 }, { name := "nodes", type := .int, accessFlags := 18, slot := 0, constantValue := 0 }, { name := "edges", type := .int, accessFlags := 2, slot := 1, constantValue := 0 }, { name := "from", type := (.array .int), accessFlags := 2, slot := 2, constantValue := 0 }, { name := "to", type := (.array .int), accessFlags := 2, slot := 3, constantValue := 0 }, { name := "capacity", type := (.array .int), accessFlags := 2, slot := 4, constantValue := 0 }, { name := "firstArc", type := (.array .int), accessFlags := 2, slot := 5, constantValue := 0 }, { name := "target", type := (.array .int), accessFlags := 2, slot := 6, constantValue := 0 }, { name := "edgeAt", type := (.array .int), accessFlags := 2, slot := 7, constantValue := 0 }, { name := "reverse", type := (.array .int), accessFlags := 2, slot := 8, constantValue := 0 }, { name := "forward", type := (.array .int), accessFlags := 2, slot := 9, constantValue := 0 }]
  methods := #[k2m0, k2m1, k2m2, k2m3, k2m4, k2m5, k2m6, k2m7, k2m8, k2m9]
  instanceTypes := #[.int, .int, (.array .int), (.array .int), (.array .int), (.array .int), (.array .int), (.array .int), (.array .int), (.array .int)]
  staticTypes := #[.int]
  resolved := Array.replicate 95 none
  statics := none }

def pool3 : Array CpInfo := pool [(1, .class_ 2), (0, u "java/lang/Math"), (1, .class_ 6), (1, u "java/lang/Object"), (0, u "<init>"), (0, u "()V"), (89, .class_ 100), (1, u "java/lang/Math$RandomNumberGeneratorHolder"), (71, u "negativeZeroFloatBits"), (0, u "J"), (2, u "negativeZeroDoubleBits"), (24, u "min"), (43, u "$assertionsDisabled"), (0, u "Z"), (88, u "(II)I"), (2, u "twoToTheDoubleScaleDown"), (0, u "D"), (4, u "twoToTheDoubleScaleUp"), (9, u "E"), (3, u "PI"), (2, u "TAU"), (2, u "DEGREES_TO_RADIANS"), (0, u "RADIANS_TO_DEGREES")] 94

def k3m0 : Method := { name := "<init>", desc := "()V", sig := { parameters := [], returnType := none }, accessFlags := 2, code := none }
def k3c1 : Code := { maxStack := 2, maxLocals := 2, code := jdk_29_method_69_code, exceptionTable := #[], attributes := #[] }
def k3m1 : Method := { name := "min", desc := "(II)I", sig := { parameters := [.int, .int], returnType := some .int }, accessFlags := 9, code := some k3c1 }
/-- java/lang/Math -/
def k3 : Class := { plain "java/lang/Math" (some 0) with
  accessFlags := 49
  interfaces := #[]
  cf := some (fileOf pool3 1 #[.nestMembers #[98]] #[{ accessFlags := 2, nameIndex := 7, descriptorIndex := 8, attributes := #[] }, { accessFlags := 9, nameIndex := 201, descriptorIndex := 335, attributes := #[] }] 49 4 #[] #[{ accessFlags := 25, nameIndex := 354, descriptorIndex := 339, attributes := #[] }, { accessFlags := 25, nameIndex := 358, descriptorIndex := 339, attributes := #[] }, { accessFlags := 25, nameIndex := 361, descriptorIndex := 339, attributes := #[] }, { accessFlags := 26, nameIndex := 364, descriptorIndex := 339, attributes := #[] }, { accessFlags := 26, nameIndex := 365, descriptorIndex := 339, attributes := #[] }, { accessFlags := 26, nameIndex := 172, descriptorIndex := 173, attributes := #[] }, { accessFlags := 26, nameIndex := 176, descriptorIndex := 173, attributes := #[] }, { accessFlags := 8, nameIndex := 344, descriptorIndex := 339, attributes := #[] }, { accessFlags := 8, nameIndex := 338, descriptorIndex := 339, attributes := #[] }, { accessFlags := 4120, nameIndex := 245, descriptorIndex := 246, attributes := #[] }])
  fields := #[{ name := "E", type := .double, accessFlags := 25, slot := 0, constantValue := 0 }, { name := "PI", type := .double, accessFlags := 25, slot := 1, constantValue := 0 }, { name := "TAU", type := .double, accessFlags := 25, slot := 2, constantValue := 0 }, { name := "DEGREES_TO_RADIANS", type := .double, accessFlags := 26, slot := 3, constantValue := 0 }, { name := "RADIANS_TO_DEGREES", type := .double, accessFlags := 26, slot := 4, constantValue := 0 }, { name := "negativeZeroFloatBits", type := .long, accessFlags := 26, slot := 5, constantValue := 0 }, { name := "negativeZeroDoubleBits", type := .long, accessFlags := 26, slot := 6, constantValue := 0 }, { name := "twoToTheDoubleScaleUp", type := .double, accessFlags := 8, slot := 7, constantValue := 0 }, { name := "twoToTheDoubleScaleDown", type := .double, accessFlags := 8, slot := 8, constantValue := 0 }, { name := "$assertionsDisabled", type := .boolean, accessFlags := 4120, slot := 9, constantValue := 0 }]
  methods := #[k3m0, k3m1]
  instanceTypes := #[]
  staticTypes := #[.double, .double, .double, .double, .double, .long, .long, .double, .double, .boolean]
  resolved := Array.replicate 460 none
  statics := none }

def pool4 : Array CpInfo := pool [(2, .class_ 4), (1, u "java/lang/Object"), (0, u "<init>"), (0, u "()V"), (7, .class_ 16), (1, u "java/util/Arrays"), (57, .class_ 76), (1, u "java/util/Arrays$NaturalOrder"), (36, .class_ 115), (1, u "java/util/Arrays$LegacyMergeSort"), (1, u "Z"), (32, .methodref 151 152), (0, .class_ 153), (0, .nameAndType 154 155), (0, u "java/lang/System"), (0, u "arraycopy"), (0, u "(Ljava/lang/Object;ILjava/lang/Object;II)V"), (146, u "copyOf"), (1, .methodref 305 306), (0, .class_ 307), (0, .nameAndType 308 309), (0, u "java/lang/Math"), (0, u "min"), (0, u "(II)I"), (65, .class_ 376), (0, u "java/util/Arrays$ArrayList"), (68, u "$assertionsDisabled"), (269, u "MIN_ARRAY_SORT_GRAN"), (0, u "I"), (2, u "INSERTIONSORT_THRESHOLD"), (151, u "([II)[I"), (103, .class_ 976), (0, u "java/util/Arrays$ArrayItr")] 52

def k4m0 : Method := { name := "<init>", desc := "()V", sig := { parameters := [], returnType := none }, accessFlags := 2, code := none }
def k4c1 : Code := { maxStack := 6, maxLocals := 3, code := jdk_65_method_123_code, exceptionTable := #[], attributes := #[] }
def k4m1 : Method := { name := "copyOf", desc := "([II)[I", sig := { parameters := [(.array .int), .int], returnType := some (.array .int) }, accessFlags := 9, code := some k4c1 }
/-- java/util/Arrays -/
def k4 : Class := { plain "java/util/Arrays" (some 0) with
  accessFlags := 49
  interfaces := #[]
  cf := some (fileOf pool4 14 #[.nestMembers #[975, 375, 113, 74]] #[{ accessFlags := 2, nameIndex := 5, descriptorIndex := 6, attributes := #[] }, { accessFlags := 9, nameIndex := 302, descriptorIndex := 871, attributes := #[] }] 49 2 #[] #[{ accessFlags := 26, nameIndex := 715, descriptorIndex := 716, attributes := #[] }, { accessFlags := 26, nameIndex := 719, descriptorIndex := 716, attributes := #[] }, { accessFlags := 4120, nameIndex := 445, descriptorIndex := 117, attributes := #[] }])
  fields := #[{ name := "MIN_ARRAY_SORT_GRAN", type := .int, accessFlags := 26, slot := 0, constantValue := 0 }, { name := "INSERTIONSORT_THRESHOLD", type := .int, accessFlags := 26, slot := 1, constantValue := 0 }, { name := "$assertionsDisabled", type := .boolean, accessFlags := 4120, slot := 2, constantValue := 0 }]
  methods := #[k4m0, k4m1]
  instanceTypes := #[]
  staticTypes := #[.int, .int, .boolean]
  resolved := Array.replicate 1029 none
  statics := none }

def pool5 : Array CpInfo := pool [(2, .class_ 4), (1, u "java/lang/Object"), (0, u "<init>"), (0, u "()V"), (1, .class_ 10), (1, u "java/lang/System"), (0, u "allowSecurityManager"), (0, u "I"), (16, u "cons"), (0, u "Ljava/io/Console;"), (77, .class_ 110), (1, u "java/lang/System$CallersHolder"), (43, u "initialErrStream"), (0, u "Ljava/io/PrintStream;"), (19, u "security"), (0, u "Ljava/lang/SecurityManager;"), (31, .class_ 209), (0, u "java/lang/System$1"), (7, u "props"), (0, u "Ljava/util/Properties;"), (2, u "lineSeparator"), (0, u "Ljava/lang/String;"), (96, .class_ 321), (1, u "java/lang/System$LoggerFinder"), (5, .class_ 328), (0, u "java/lang/System$Logger"), (67, u "err"), (2, u "out"), (91, u "notSupportedJnuEncoding"), (15, u "in"), (17, u "initialIn"), (0, u "Ljava/io/InputStream;"), (35, u "bootLayer"), (0, u "Ljava/lang/ModuleLayer;"), (99, .class_ 664), (0, u "java/lang/System$2"), (9, u "NEVER"), (2, u "MAYBE"), (49, u "arraycopy"), (0, u "(Ljava/lang/Object;ILjava/lang/Object;II)V"), (72, .class_ 802), (0, u "java/lang/System$Logger$Level")] 31

def k5m0 : Method := { name := "<init>", desc := "()V", sig := { parameters := [], returnType := none }, accessFlags := 2, code := none }
def k5m1 : Method := { name := "arraycopy", desc := "(Ljava/lang/Object;ILjava/lang/Object;II)V", sig := { parameters := [(.object "java/lang/Object"), .int, (.object "java/lang/Object"), .int, .int], returnType := none }, accessFlags := 265, code := none }
/-- java/lang/System -/
def k5 : Class := { plain "java/lang/System" (some 0) with
  accessFlags := 49
  interfaces := #[]
  cf := some (fileOf pool5 8 #[.nestMembers #[319, 327, 801, 108, 663, 208]] #[{ accessFlags := 2, nameIndex := 5, descriptorIndex := 6, attributes := #[] }, { accessFlags := 265, nameIndex := 727, descriptorIndex := 728, attributes := #[] }] 49 2 #[] #[{ accessFlags := 25, nameIndex := 507, descriptorIndex := 526, attributes := #[] }, { accessFlags := 25, nameIndex := 399, descriptorIndex := 155, attributes := #[] }, { accessFlags := 25, nameIndex := 396, descriptorIndex := 155, attributes := #[] }, { accessFlags := 10, nameIndex := 525, descriptorIndex := 526, attributes := #[] }, { accessFlags := 26, nameIndex := 674, descriptorIndex := 12, attributes := #[] }, { accessFlags := 26, nameIndex := 677, descriptorIndex := 12, attributes := #[] }, { accessFlags := 10, nameIndex := 11, descriptorIndex := 12, attributes := #[] }, { accessFlags := 74, nameIndex := 175, descriptorIndex := 176, attributes := #[] }, { accessFlags := 10, nameIndex := 491, descriptorIndex := 222, attributes := #[] }, { accessFlags := 74, nameIndex := 29, descriptorIndex := 30, attributes := #[] }, { accessFlags := 74, nameIndex := 154, descriptorIndex := 155, attributes := #[] }, { accessFlags := 10, nameIndex := 217, descriptorIndex := 218, attributes := #[] }, { accessFlags := 10, nameIndex := 221, descriptorIndex := 222, attributes := #[] }, { accessFlags := 8, nameIndex := 562, descriptorIndex := 563, attributes := #[] }])
  fields := #[{ name := "in", type := (.object "java/io/InputStream"), accessFlags := 25, slot := 0, constantValue := 0 }, { name := "out", type := (.object "java/io/PrintStream"), accessFlags := 25, slot := 1, constantValue := 0 }, { name := "err", type := (.object "java/io/PrintStream"), accessFlags := 25, slot := 2, constantValue := 0 }, { name := "initialIn", type := (.object "java/io/InputStream"), accessFlags := 10, slot := 3, constantValue := 0 }, { name := "NEVER", type := .int, accessFlags := 26, slot := 4, constantValue := 0 }, { name := "MAYBE", type := .int, accessFlags := 26, slot := 5, constantValue := 0 }, { name := "allowSecurityManager", type := .int, accessFlags := 10, slot := 6, constantValue := 0 }, { name := "security", type := (.object "java/lang/SecurityManager"), accessFlags := 74, slot := 7, constantValue := 0 }, { name := "notSupportedJnuEncoding", type := (.object "java/lang/String"), accessFlags := 10, slot := 8, constantValue := 0 }, { name := "cons", type := (.object "java/io/Console"), accessFlags := 74, slot := 9, constantValue := 0 }, { name := "initialErrStream", type := (.object "java/io/PrintStream"), accessFlags := 74, slot := 10, constantValue := 0 }, { name := "props", type := (.object "java/util/Properties"), accessFlags := 10, slot := 11, constantValue := 0 }, { name := "lineSeparator", type := (.object "java/lang/String"), accessFlags := 10, slot := 12, constantValue := 0 }, { name := "bootLayer", type := (.object "java/lang/ModuleLayer"), accessFlags := 8, slot := 13, constantValue := 0 }]
  methods := #[k5m0, k5m1]
  instanceTypes := #[]
  staticTypes := #[(.object "java/io/InputStream"), (.object "java/io/PrintStream"), (.object "java/io/PrintStream"), (.object "java/io/InputStream"), .int, .int, .int, (.object "java/lang/SecurityManager"), (.object "java/lang/String"), (.object "java/io/Console"), (.object "java/io/PrintStream"), (.object "java/util/Properties"), (.object "java/lang/String"), (.object "java/lang/ModuleLayer")]
  resolved := Array.replicate 834 none
  statics := none }

def pool6 : Array CpInfo := pool [(1, .methodref 2 3), (0, .class_ 4), (0, .nameAndType 5 6), (0, u "java/lang/Object"), (0, u "<init>"), (0, u "()V"), (0, .class_ 8), (0, u "java/util/BitSet"), (0, .methodref 7 3), (0, .fieldref 11 12), (0, .class_ 13), (0, .nameAndType 14 15), (0, u "com/example/dissoc/dissoc/mincut/Flow"), (0, u "open"), (0, u "Ljava/util/BitSet;"), (0, .fieldref 11 17), (0, .nameAndType 18 15), (0, u "openReverse"), (0, .fieldref 11 20), (0, .nameAndType 21 15), (0, u "removed"), (0, .fieldref 11 23), (0, .nameAndType 24 25), (0, u "journal"), (0, u "[I"), (0, .class_ 27), (0, u "com/example/dissoc/dissoc/mincut/Flow$Side"), (0, .methodref 26 3), (0, .fieldref 11 30), (0, .nameAndType 31 32), (0, u "reachable"), (0, u "Lcom/example/dissoc/dissoc/mincut/Flow$Side;"), (0, .fieldref 11 34), (0, .nameAndType 35 32), (0, u "reaching"), (0, .fieldref 11 37), (0, .nameAndType 38 39), (0, u "network"), (0, u "Lcom/example/dissoc/dissoc/mincut/FlowNetwork;"), (0, .fieldref 11 41), (0, .nameAndType 42 25), (0, u "residual"), (0, .methodref 44 45), (0, .class_ 46), (0, .nameAndType 47 48), (0, u "com/example/dissoc/dissoc/mincut/FlowNetwork"), (0, u "firstArcs"), (0, u "()[I"), (0, .fieldref 11 50), (0, .nameAndType 51 25), (0, u "firstArc"), (0, .methodref 44 53), (0, .nameAndType 54 48), (0, u "targets"), (0, .fieldref 11 56), (0, .nameAndType 57 25), (0, u "target"), (0, .methodref 44 59), (0, .nameAndType 60 48), (0, u "reverses"), (0, .fieldref 11 62), (0, .nameAndType 63 25), (0, u "reverse"), (0, .methodref 11 65), (0, .nameAndType 66 67), (0, u "setResidual"), (0, u "(II)V"), (0, .methodref 44 69), (0, .nameAndType 70 71), (0, u "nodes"), (0, u "()I"), (0, .fieldref 11 73), (0, .nameAndType 74 25), (0, u "fromSources"), (0, .fieldref 11 76), (0, .nameAndType 77 25), (0, u "towardsSinks"), (0, .fieldref 11 79), (0, .nameAndType 80 25), (0, u "stampFrom"), (0, .fieldref 11 82), (0, .nameAndType 83 25), (0, u "stampTowards"), (0, .fieldref 11 85), (0, .nameAndType 86 25), (0, u "queueFrom"), (0, .fieldref 11 88), (0, .nameAndType 89 25), (0, u "queueTowards"), (0, .fieldref 11 91), (0, .nameAndType 92 25), (0, u "pathBack"), (0, .fieldref 11 94), (0, .nameAndType 95 25), (0, u "pathAhead"), (2, u "value"), (0, u "J"), (4, .class_ 105), (0, u "com/example/dissoc/dissoc/mincut/Flow$Mark"), (2, u "logged"), (0, u "I"), (14, u "version"), (2, u "anchor"), (0, u "Lcom/example/dissoc/dissoc/mincut/Flow$Anchor;"), (1, .class_ 131), (0, u "com/example/dissoc/dissoc/mincut/Flow$Anchor"), (51, u "set"), (33, u "stamp"), (13, u "meeting"), (8, .methodref 7 241), (0, .nameAndType 183 242), (0, u "(IZ)V"), (14, u "(Lcom/example/dissoc/dissoc/mincut/FlowNetwork;[I)V")] 21

def k6c0 : Code := { maxStack := 4, maxLocals := 4, code := prog_24_method_1_code, exceptionTable := #[], attributes := #[] }
def k6m0 : Method := { name := "<init>", desc := "(Lcom/example/dissoc/dissoc/mincut/FlowNetwork;[I)V", sig := { parameters := [(.object "com/example/dissoc/dissoc/mincut/FlowNetwork"), (.array .int)], returnType := none }, accessFlags := 0, code := some k6c0 }
def k6c1 : Code := { maxStack := 3, maxLocals := 3, code := prog_24_method_20_code, exceptionTable := #[], attributes := #[] }
def k6m1 : Method := { name := "setResidual", desc := "(II)V", sig := { parameters := [.int, .int], returnType := none }, accessFlags := 2, code := some k6c1 }
/-- com/example/dissoc/dissoc/mincut/Flow -/
def k6 : Class := { plain "com/example/dissoc/dissoc/mincut/Flow" (some 0) with
  accessFlags := 49
  interfaces := #[]
  cf := some (fileOf pool6 11 #[.nestMembers #[130, 26, 104]] #[{ accessFlags := 0, nameIndex := 5, descriptorIndex := 257, attributes := #[] }, { accessFlags := 2, nameIndex := 66, descriptorIndex := 67, attributes := #[] }] 49 2 #[] #[{ accessFlags := 18, nameIndex := 38, descriptorIndex := 39, attributes := #[] }, { accessFlags := 18, nameIndex := 51, descriptorIndex := 25, attributes := #[] }, { accessFlags := 18, nameIndex := 57, descriptorIndex := 25, attributes := #[] }, { accessFlags := 18, nameIndex := 63, descriptorIndex := 25, attributes := #[] }, { accessFlags := 18, nameIndex := 42, descriptorIndex := 25, attributes := #[] }, { accessFlags := 18, nameIndex := 14, descriptorIndex := 15, attributes := #[] }, { accessFlags := 18, nameIndex := 18, descriptorIndex := 15, attributes := #[] }, { accessFlags := 18, nameIndex := 21, descriptorIndex := 15, attributes := #[] }, { accessFlags := 2, nameIndex := 98, descriptorIndex := 99, attributes := #[] }, { accessFlags := 2, nameIndex := 24, descriptorIndex := 25, attributes := #[] }, { accessFlags := 2, nameIndex := 108, descriptorIndex := 109, attributes := #[] }, { accessFlags := 2, nameIndex := 124, descriptorIndex := 99, attributes := #[] }, { accessFlags := 18, nameIndex := 31, descriptorIndex := 32, attributes := #[] }, { accessFlags := 18, nameIndex := 35, descriptorIndex := 32, attributes := #[] }, { accessFlags := 18, nameIndex := 74, descriptorIndex := 25, attributes := #[] }, { accessFlags := 18, nameIndex := 77, descriptorIndex := 25, attributes := #[] }, { accessFlags := 18, nameIndex := 80, descriptorIndex := 25, attributes := #[] }, { accessFlags := 18, nameIndex := 83, descriptorIndex := 25, attributes := #[] }, { accessFlags := 2, nameIndex := 217, descriptorIndex := 109, attributes := #[] }, { accessFlags := 18, nameIndex := 86, descriptorIndex := 25, attributes := #[] }, { accessFlags := 18, nameIndex := 89, descriptorIndex := 25, attributes := #[] }, { accessFlags := 2, nameIndex := 231, descriptorIndex := 109, attributes := #[] }, { accessFlags := 2, nameIndex := 127, descriptorIndex := 128, attributes := #[] }, { accessFlags := 18, nameIndex := 92, descriptorIndex := 25, attributes := #[] }, { accessFlags := 18, nameIndex := 95, descriptorIndex := 25, attributes := #[] }])
  fields := #[{ name := "network", type := (.object "com/example/dissoc/dissoc/mincut/FlowNetwork"), accessFlags := 18, slot := 0, constantValue := 0 }, { name := "firstArc", type := (.array .int), accessFlags := 18, slot := 1, constantValue := 0 }, { name := "target", type := (.array .int), accessFlags := 18, slot := 2, constantValue := 0 }, { name := "reverse", type := (.array .int), accessFlags := 18, slot := 3, constantValue := 0 }, { name := "residual", type := (.array .int), accessFlags := 18, slot := 4, constantValue := 0 }, { name := "open", type := (.object "java/util/BitSet"), accessFlags := 18, slot := 5, constantValue := 0 }, { name := "openReverse", type := (.object "java/util/BitSet"), accessFlags := 18, slot := 6, constantValue := 0 }, { name := "removed", type := (.object "java/util/BitSet"), accessFlags := 18, slot := 7, constantValue := 0 }, { name := "value", type := .long, accessFlags := 2, slot := 8, constantValue := 0 }, { name := "journal", type := (.array .int), accessFlags := 2, slot := 9, constantValue := 0 }, { name := "logged", type := .int, accessFlags := 2, slot := 10, constantValue := 0 }, { name := "version", type := .long, accessFlags := 2, slot := 11, constantValue := 0 }, { name := "reachable", type := (.object "com/example/dissoc/dissoc/mincut/Flow$Side"), accessFlags := 18, slot := 12, constantValue := 0 }, { name := "reaching", type := (.object "com/example/dissoc/dissoc/mincut/Flow$Side"), accessFlags := 18, slot := 13, constantValue := 0 }, { name := "fromSources", type := (.array .int), accessFlags := 18, slot := 14, constantValue := 0 }, { name := "towardsSinks", type := (.array .int), accessFlags := 18, slot := 15, constantValue := 0 }, { name := "stampFrom", type := (.array .int), accessFlags := 18, slot := 16, constantValue := 0 }, { name := "stampTowards", type := (.array .int), accessFlags := 18, slot := 17, constantValue := 0 }, { name := "stamp", type := .int, accessFlags := 2, slot := 18, constantValue := 0 }, { name := "queueFrom", type := (.array .int), accessFlags := 18, slot := 19, constantValue := 0 }, { name := "queueTowards", type := (.array .int), accessFlags := 18, slot := 20, constantValue := 0 }, { name := "meeting", type := .int, accessFlags := 2, slot := 21, constantValue := 0 }, { name := "anchor", type := (.object "com/example/dissoc/dissoc/mincut/Flow$Anchor"), accessFlags := 2, slot := 22, constantValue := 0 }, { name := "pathBack", type := (.array .int), accessFlags := 18, slot := 23, constantValue := 0 }, { name := "pathAhead", type := (.array .int), accessFlags := 18, slot := 24, constantValue := 0 }]
  methods := #[k6m0, k6m1]
  instanceTypes := #[(.object "com/example/dissoc/dissoc/mincut/FlowNetwork"), (.array .int), (.array .int), (.array .int), (.array .int), (.object "java/util/BitSet"), (.object "java/util/BitSet"), (.object "java/util/BitSet"), .long, (.array .int), .int, .long, (.object "com/example/dissoc/dissoc/mincut/Flow$Side"), (.object "com/example/dissoc/dissoc/mincut/Flow$Side"), (.array .int), (.array .int), (.array .int), (.array .int), .int, (.array .int), (.array .int), .int, (.object "com/example/dissoc/dissoc/mincut/Flow$Anchor"), (.array .int), (.array .int)]
  staticTypes := #[]
  resolved := ⟨List.replicate 26 none ++ [some (.cls 10), none, some (.method ⟨10, 0⟩)] ++ List.replicate 250 none⟩
  statics := none }

def pool7 : Array CpInfo := pool [(1, .class_ 2), (0, u "java/lang/Cloneable"), (0, .class_ 4), (0, u "java/lang/Object")] 2

/-- java/lang/Cloneable -/
def k7 : Class := { plain "java/lang/Cloneable" (some 0) with
  accessFlags := 1537
  interfaces := #[]
  cf := some (fileOf pool7 1 #[] #[] 1537 3 #[] #[])
  fields := #[]
  methods := #[]
  instanceTypes := #[]
  staticTypes := #[]
  resolved := Array.replicate 7 none
  statics := none }

def pool8 : Array CpInfo := pool [(1, .class_ 2), (0, u "java/io/Serializable"), (0, .class_ 4), (0, u "java/lang/Object")] 2

/-- java/io/Serializable -/
def k8 : Class := { plain "java/io/Serializable" (some 0) with
  accessFlags := 1537
  interfaces := #[]
  cf := some (fileOf pool8 1 #[] #[] 1537 3 #[] #[])
  fields := #[]
  methods := #[]
  instanceTypes := #[]
  staticTypes := #[]
  resolved := Array.replicate 7 none
  statics := none }

def pool9 : Array CpInfo := pool [(1, .class_ 2), (0, u "java/util/BitSet"), (0, .fieldref 1 4), (0, .nameAndType 5 6), (0, u "$assertionsDisabled"), (0, u "Z"), (0, .fieldref 1 8), (0, .nameAndType 9 10), (0, u "wordsInUse"), (0, u "I"), (0, .fieldref 1 12), (0, .nameAndType 13 14), (0, u "words"), (0, u "[J"), (3, .nameAndType 19 20), (0, u "<init>"), (0, u "()V"), (0, .methodref 22 18), (0, .class_ 23), (0, u "java/lang/Object"), (0, .fieldref 1 25), (0, .nameAndType 26 6), (0, u "sizeIsSticky"), (0, .methodref 1 28), (0, .nameAndType 29 30), (0, u "initWords"), (0, u "(I)V"), (21, .methodref 1 53), (0, .nameAndType 54 55), (0, u "wordIndex"), (0, u "(I)I"), (0, .methodref 1 57), (0, .nameAndType 58 20), (0, u "checkInvariants"), (80, .methodref 1 140), (0, .nameAndType 141 30), (0, u "ensureCapacity"), (13, .methodref 1 156), (0, .nameAndType 157 30), (0, u "expandTo"), (0, .methodref 1 159), (0, .nameAndType 160 20), (0, u "recalculateWordsInUse"), (4, .long 18446744073709551615), (1, .methodref 1 168), (0, .nameAndType 169 30), (0, u "set"), (0, .methodref 1 171), (0, .nameAndType 172 30), (0, u "clear"), (96, .class_ 270), (0, u "java/util/BitSet$1BitSetSpliterator"), (22, u "serialPersistentFields"), (0, u "[Ljava/io/ObjectStreamField;"), (0, .class_ 296), (0, u "java/lang/Cloneable"), (0, .class_ 298), (0, u "java/io/Serializable"), (0, u "ADDRESS_BITS_PER_WORD"), (2, u "BITS_PER_WORD"), (1, u "BIT_INDEX_MASK"), (1, u "WORD_MASK"), (0, u "J"), (0, u "serialVersionUID"), (39, u "(IZ)V")] 68

def k9c0 : Code := { maxStack := 2, maxLocals := 1, code := jdk_92_method_1_code, exceptionTable := #[], attributes := #[] }
def k9m0 : Method := { name := "wordIndex", desc := "(I)I", sig := { parameters := [.int], returnType := some .int }, accessFlags := 10, code := some k9c0 }
def k9c1 : Code := { maxStack := 4, maxLocals := 1, code := jdk_92_method_2_code, exceptionTable := #[], attributes := #[] }
def k9m1 : Method := { name := "checkInvariants", desc := "()V", sig := { parameters := [], returnType := none }, accessFlags := 2, code := some k9c1 }
def k9c2 : Code := { maxStack := 4, maxLocals := 2, code := jdk_92_method_3_code, exceptionTable := #[], attributes := #[] }
def k9m2 : Method := { name := "recalculateWordsInUse", desc := "()V", sig := { parameters := [], returnType := none }, accessFlags := 2, code := some k9c2 }
def k9c3 : Code := { maxStack := 2, maxLocals := 1, code := jdk_92_method_4_code, exceptionTable := #[], attributes := #[] }
def k9m3 : Method := { name := "<init>", desc := "()V", sig := { parameters := [], returnType := none }, accessFlags := 1, code := some k9c3 }
def k9c4 : Code := { maxStack := 3, maxLocals := 2, code := jdk_92_method_6_code, exceptionTable := #[], attributes := #[] }
def k9m4 : Method := { name := "initWords", desc := "(I)V", sig := { parameters := [.int], returnType := none }, accessFlags := 2, code := some k9c4 }
def k9c5 : Code := { maxStack := 3, maxLocals := 3, code := jdk_92_method_14_code, exceptionTable := #[], attributes := #[] }
def k9m5 : Method := { name := "ensureCapacity", desc := "(I)V", sig := { parameters := [.int], returnType := none }, accessFlags := 2, code := some k9c5 }
def k9c6 : Code := { maxStack := 2, maxLocals := 3, code := jdk_92_method_15_code, exceptionTable := #[], attributes := #[] }
def k9m6 : Method := { name := "expandTo", desc := "(I)V", sig := { parameters := [.int], returnType := none }, accessFlags := 2, code := some k9c6 }
def k9c7 : Code := { maxStack := 7, maxLocals := 3, code := jdk_92_method_19_code, exceptionTable := #[], attributes := #[] }
def k9m7 : Method := { name := "set", desc := "(I)V", sig := { parameters := [.int], returnType := none }, accessFlags := 1, code := some k9c7 }
def k9c8 : Code := { maxStack := 2, maxLocals := 3, code := jdk_92_method_20_code, exceptionTable := #[], attributes := #[] }
def k9m8 : Method := { name := "set", desc := "(IZ)V", sig := { parameters := [.int, .boolean], returnType := none }, accessFlags := 1, code := some k9c8 }
def k9c9 : Code := { maxStack := 8, maxLocals := 3, code := jdk_92_method_23_code, exceptionTable := #[], attributes := #[] }
def k9m9 : Method := { name := "clear", desc := "(I)V", sig := { parameters := [.int], returnType := none }, accessFlags := 1, code := some k9c9 }
/-- java/util/BitSet -/
def k9 : Class := { plain "java/util/BitSet" (some 0) with
  accessFlags := 33
  interfaces := #[7, 8]
  cf := some (fileOf pool9 1 #[.nestMembers #[269]] #[{ accessFlags := 10, nameIndex := 54, descriptorIndex := 55, attributes := #[] }, { accessFlags := 2, nameIndex := 58, descriptorIndex := 20, attributes := #[] }, { accessFlags := 2, nameIndex := 160, descriptorIndex := 20, attributes := #[] }, { accessFlags := 1, nameIndex := 19, descriptorIndex := 20, attributes := #[] }, { accessFlags := 2, nameIndex := 29, descriptorIndex := 30, attributes := #[] }, { accessFlags := 2, nameIndex := 141, descriptorIndex := 30, attributes := #[] }, { accessFlags := 2, nameIndex := 157, descriptorIndex := 30, attributes := #[] }, { accessFlags := 1, nameIndex := 169, descriptorIndex := 30, attributes := #[] }, { accessFlags := 1, nameIndex := 169, descriptorIndex := 348, attributes := #[] }, { accessFlags := 1, nameIndex := 172, descriptorIndex := 30, attributes := #[] }] 33 22 #[295, 297] #[{ accessFlags := 26, nameIndex := 299, descriptorIndex := 10, attributes := #[] }, { accessFlags := 26, nameIndex := 302, descriptorIndex := 10, attributes := #[] }, { accessFlags := 26, nameIndex := 304, descriptorIndex := 10, attributes := #[] }, { accessFlags := 26, nameIndex := 306, descriptorIndex := 307, attributes := #[] }, { accessFlags := 26, nameIndex := 293, descriptorIndex := 294, attributes := #[] }, { accessFlags := 2, nameIndex := 13, descriptorIndex := 14, attributes := #[] }, { accessFlags := 130, nameIndex := 9, descriptorIndex := 10, attributes := #[] }, { accessFlags := 130, nameIndex := 26, descriptorIndex := 6, attributes := #[] }, { accessFlags := 26, nameIndex := 308, descriptorIndex := 307, attributes := #[] }, { accessFlags := 4120, nameIndex := 5, descriptorIndex := 6, attributes := #[] }])
  fields := #[{ name := "ADDRESS_BITS_PER_WORD", type := .int, accessFlags := 26, slot := 0, constantValue := 0 }, { name := "BITS_PER_WORD", type := .int, accessFlags := 26, slot := 1, constantValue := 0 }, { name := "BIT_INDEX_MASK", type := .int, accessFlags := 26, slot := 2, constantValue := 0 }, { name := "WORD_MASK", type := .long, accessFlags := 26, slot := 3, constantValue := 0 }, { name := "serialPersistentFields", type := (.array (.object "java/io/ObjectStreamField")), accessFlags := 26, slot := 4, constantValue := 0 }, { name := "words", type := (.array .long), accessFlags := 2, slot := 0, constantValue := 0 }, { name := "wordsInUse", type := .int, accessFlags := 130, slot := 1, constantValue := 0 }, { name := "sizeIsSticky", type := .boolean, accessFlags := 130, slot := 2, constantValue := 0 }, { name := "serialVersionUID", type := .long, accessFlags := 26, slot := 5, constantValue := 0 }, { name := "$assertionsDisabled", type := .boolean, accessFlags := 4120, slot := 6, constantValue := 0 }]
  methods := #[k9m0, k9m1, k9m2, k9m3, k9m4, k9m5, k9m6, k9m7, k9m8, k9m9]
  instanceTypes := #[(.array .long), .int, .boolean]
  staticTypes := #[.int, .int, .int, .long, (.array (.object "java/io/ObjectStreamField")), .long, .boolean]
  resolved := Array.replicate 417 none
  statics := some 0 }

def pool10 : Array CpInfo := pool [(1, .methodref 2 3), (0, .class_ 4), (0, .nameAndType 5 6), (0, u "java/lang/Object"), (0, u "<init>"), (0, u "()V"), (0, .long 18446744073709551615), (1, .fieldref 10 11), (0, .class_ 12), (0, .nameAndType 13 14), (0, u "com/example/dissoc/dissoc/mincut/Flow$Side"), (0, u "version"), (0, u "J"), (0, .class_ 16), (0, u "java/util/BitSet"), (0, .methodref 15 3), (0, .fieldref 10 19), (0, .nameAndType 20 21), (0, u "nodes"), (0, u "Ljava/util/BitSet;"), (2, u "from"), (25, .class_ 51), (0, u "com/example/dissoc/dissoc/mincut/Flow")] 2

def k10c0 : Code := { maxStack := 3, maxLocals := 1, code := prog_27_method_1_code, exceptionTable := #[], attributes := #[] }
def k10m0 : Method := { name := "<init>", desc := "()V", sig := { parameters := [], returnType := none }, accessFlags := 2, code := some k10c0 }
/-- com/example/dissoc/dissoc/mincut/Flow$Side -/
def k10 : Class := { plain "com/example/dissoc/dissoc/mincut/Flow$Side" (some 0) with
  accessFlags := 48
  interfaces := #[]
  cf := some (fileOf pool10 10 #[.nestHost 50] #[{ accessFlags := 2, nameIndex := 5, descriptorIndex := 6, attributes := #[] }] 48 2 #[] #[{ accessFlags := 2, nameIndex := 24, descriptorIndex := 21, attributes := #[] }, { accessFlags := 2, nameIndex := 13, descriptorIndex := 14, attributes := #[] }, { accessFlags := 2, nameIndex := 20, descriptorIndex := 21, attributes := #[] }])
  fields := #[{ name := "from", type := (.object "java/util/BitSet"), accessFlags := 2, slot := 0, constantValue := 0 }, { name := "version", type := .long, accessFlags := 2, slot := 1, constantValue := 0 }, { name := "nodes", type := (.object "java/util/BitSet"), accessFlags := 2, slot := 2, constantValue := 0 }]
  methods := #[k10m0]
  instanceTypes := #[(.object "java/util/BitSet"), .long, (.object "java/util/BitSet")]
  staticTypes := #[]
  resolved := Array.replicate 54 none
  statics := none }

/-- the primitive byte -/
def k11 : Class := { plain "byte" none with kind := .primitive 'B', accessFlags := 0x411 }
/-- [B -/
def k12 : Class := { plain "[B" (some 0) with kind := .array 11 .byte, interfaces := #[7, 8], accessFlags := 1041 }

/-- the primitive int -/
def k13 : Class := { plain "int" none with kind := .primitive 'I', accessFlags := 0x411 }
/-- [I -/
def k14 : Class := { plain "[I" (some 0) with kind := .array 13 .int, interfaces := #[7, 8], accessFlags := 1041 }

/-- the primitive long -/
def k15 : Class := { plain "long" none with kind := .primitive 'J', accessFlags := 0x411 }
/-- [J -/
def k16 : Class := { plain "[J" (some 0) with kind := .array 15 .long, interfaces := #[7, 8], accessFlags := 1041 }

def heap : Heap := #[{ cls := 9, slots := #[.int 0, .int 0, .int 0, .long 0, .null, .long 0, .int 1], vm := .statics 9 }]
def classes : Array Class := #[k0, k1, k2, k3, k4, k5, k6, k7, k8, k9, k10, k11, k12, k13, k14, k15, k16]
def interned : List (Array UInt16 × Addr) := []
def slotsUsed : Nat := 7
def theMethod : MethodId := ⟨1, 2⟩
def args0 : Array Value := #[.int 5, .int 300, .int 7, .int 2, .int 5]
def aboutOver (below : List Frame) : State where
  vm := { classes := classes, interned := interned.toArray }
  heap := heap
  slotsUsed := slotsUsed
  threads := #[{ frames := .invoking theMethod args0 :: below }]
def below0 : List Frame := [.native { method := ⟨0, 0⟩, args := #[] }]
def about1 : State := aboutOver below0
def p0 : Program := .bare "" "" ""
def e0 : Env := launch0.env 0 0 0
theorem w_frames : about1.frames = Frame.invoking theMethod args0 :: below0 := rfl
set_option maxRecDepth 65536 in
theorem w_args : argsFit about1.vm theMethod args0 = true := by decide +kernel
set_option maxRecDepth 65536 in
theorem w_heap : heapFits about1 = true := by decide +kernel
set_option maxRecDepth 65536 in
theorem w_runnable : about1.curStatus? = some .runnable := by decide +kernel
set_option maxRecDepth 65536 in
theorem w_alone : about1.alone = true := by decide +kernel
set_option maxRecDepth 65536 in
theorem w_named : about1.methodNamed? x = some theMethod := by decide +kernel
set_option maxRecDepth 65536 in
theorem w_hears : about1.hears theMethod below0 = true := by decide +kernel
set_option maxRecDepth 65536 in
theorem w_ripe : about1.ripe theMethod args0 below0 = true := by decide +kernel
theorem w_running : about1.status = .running := rfl
set_option maxRecDepth 65536 in
theorem w_room : about1.hasRoom e0.platform room_1 = true :=
  launch0.hasRoom_least _ room_1 (by decide +kernel) (by decide +kernel) (by decide +kernel) (by decide +kernel) (by decide +kernel) (by decide +kernel)
theorem allAtoms_all (ts : List Jvm.Cond) (a : Array Jvm.Value) (st : Jvm.State) : (allAtoms ts).before a st = ts.all (fun c => c.before a st) := by
  induction ts with
  | nil => rfl
  | cons c t ih =>
    show (Jvm.Cond.and c (allAtoms t)).before a st = _
    rw [Jvm.Cond.before_and, ih, List.all_cons]
def words1 : List Jvm.Cond := Jvm.Cond.code x code maxLocals ret :: tables_1
/-- a 'code' word, met by the world's own term for the bytes: nothing is compared byte by byte -/
theorem code_word {y : MethodName} {bytes : ByteArray} {mx : Nat} {rt : Option FieldType} {a : Array Value} {s : State} {m : MethodId} {meth : Method} {c : Code} (h1 : s.methodNamed? y = some m) (h2 : s.vm.method? m = some meth) (h3 : meth.code = some c) (h4 : c.code = bytes)
    (h5 : (c.maxLocals == mx && c.exceptionTable.isEmpty && decide (c.maxStack ≤ mostOperands) && decide (meth.sig.returnType = rt) && !meth.locks && decide (parseMethodDescriptor y.desc = some meth.sig)) = true) : (Jvm.Cond.code y bytes mx rt).before a s = true := by
  simp only [Bool.and_eq_true, beq_iff_eq, Bool.not_eq_true', decide_eq_true_eq] at h5
  obtain ⟨⟨⟨⟨⟨g1, g2⟩, g3⟩, g4⟩, g5⟩, g6⟩ := h5
  simp [Cond.before, Cond.holds, Cond.value, h1, h2, h3, h4, g1, g2, g3, g4, g5, g6]
def isCode : Jvm.Cond → Bool
  | .code _ _ _ _ => true
  | _ => false
theorem all_split {L : List Jvm.Cond} {P : Jvm.Cond → Bool} (h1 : L.all (fun c => isCode c || P c) = true) (h2 : ∀ c ∈ L.filter isCode, P c = true) : L.all P = true := by
  refine List.all_eq_true.mpr fun c hc => ?_
  have h := List.all_eq_true.mp h1 c hc
  rcases Bool.eq_false_or_eq_true (isCode c) with hi | hi
  · exact h2 c (List.mem_filter.mpr ⟨hc, hi⟩)
  · simpa [hi] using h
set_option maxRecDepth 65536 in
theorem w_c0 : (Jvm.Cond.code x code maxLocals ret).before args0 about1 = true := code_word (m := ⟨1, 2⟩) (meth := k1m2) (c := k1c2) (by decide +kernel) rfl rfl rfl (by decide +kernel)
set_option maxRecDepth 65536 in
theorem w_c1 : (Jvm.Cond.code ({ cls := "com/example/dissoc/dissoc/mincut/FlowNetwork", name := "<init>", desc := "(I)V" } : Jvm.MethodName) prog_28_method_1_code (2 : Nat) (Option.none : Option Jvm.ClassFile.FieldType)).before args0 about1 = true := code_word (m := ⟨2, 0⟩) (meth := k2m0) (c := k2c0) (by decide +kernel) rfl rfl rfl (by decide +kernel)
set_option maxRecDepth 65536 in
theorem w_c2 : (Jvm.Cond.code ({ cls := "java/lang/Object", name := "<init>", desc := "()V" } : Jvm.MethodName) object_method_1_code (1 : Nat) (Option.none : Option Jvm.ClassFile.FieldType)).before args0 about1 = true := code_word (m := ⟨0, 0⟩) (meth := k0m0) (c := k0c0) (by decide +kernel) rfl rfl rfl (by decide +kernel)
set_option maxRecDepth 65536 in
theorem w_c3 : (Jvm.Cond.code ({ cls := "com/example/dissoc/dissoc/mincut/FlowNetwork", name := "addEdge", desc := "(III)I" } : Jvm.MethodName) prog_28_method_2_code (4 : Nat) (Option.some Jvm.ClassFile.FieldType.int)).before args0 about1 = true := code_word (m := ⟨2, 1⟩) (meth := k2m1) (c := k2c1) (by decide +kernel) rfl rfl rfl (by decide +kernel)
set_option maxRecDepth 65536 in
theorem w_c4 : (Jvm.Cond.code ({ cls := "java/lang/Math", name := "min", desc := "(II)I" } : Jvm.MethodName) jdk_29_method_69_code (2 : Nat) (Option.some Jvm.ClassFile.FieldType.int)).before args0 about1 = true := code_word (m := ⟨3, 1⟩) (meth := k3m1) (c := k3c1) (by decide +kernel) rfl rfl rfl (by decide +kernel)
set_option maxRecDepth 65536 in
theorem w_c5 : (Jvm.Cond.code ({ cls := "com/example/dissoc/dissoc/mincut/FlowNetwork", name := "zeroFlow", desc := "()Lcom/example/dissoc/dissoc/mincut/Flow;" } : Jvm.MethodName) prog_28_method_8_code (3 : Nat) (Option.some (Jvm.ClassFile.FieldType.object "com/example/dissoc/dissoc/mincut/Flow"))).before args0 about1 = true := code_word (m := ⟨2, 3⟩) (meth := k2m3) (c := k2c3) (by decide +kernel) rfl rfl rfl (by decide +kernel)
set_option maxRecDepth 65536 in
theorem w_c6 : (Jvm.Cond.code ({ cls := "com/example/dissoc/dissoc/mincut/FlowNetwork", name := "index", desc := "()V" } : Jvm.MethodName) prog_28_method_14_code (5 : Nat) (Option.none : Option Jvm.ClassFile.FieldType)).before args0 about1 = true := code_word (m := ⟨2, 9⟩) (meth := k2m9) (c := k2c9) (by decide +kernel) rfl rfl rfl (by decide +kernel)
set_option maxRecDepth 65536 in
theorem w_c7 : (Jvm.Cond.code ({ cls := "java/util/Arrays", name := "copyOf", desc := "([II)[I" } : Jvm.MethodName) jdk_65_method_123_code (3 : Nat) (Option.some (Jvm.ClassFile.FieldType.array Jvm.ClassFile.FieldType.int))).before args0 about1 = true := code_word (m := ⟨4, 1⟩) (meth := k4m1) (c := k4c1) (by decide +kernel) rfl rfl rfl (by decide +kernel)
set_option maxRecDepth 65536 in
theorem w_c8 : (Jvm.Cond.code ({ cls := "com/example/dissoc/dissoc/mincut/Flow", name := "<init>", desc := "(Lcom/example/dissoc/dissoc/mincut/FlowNetwork;[I)V" } : Jvm.MethodName) prog_24_method_1_code (4 : Nat) (Option.none : Option Jvm.ClassFile.FieldType)).before args0 about1 = true := code_word (m := ⟨6, 0⟩) (meth := k6m0) (c := k6c0) (by decide +kernel) rfl rfl rfl (by decide +kernel)
set_option maxRecDepth 65536 in
theorem w_c9 : (Jvm.Cond.code ({ cls := "java/util/BitSet", name := "<init>", desc := "()V" } : Jvm.MethodName) jdk_92_method_4_code (1 : Nat) (Option.none : Option Jvm.ClassFile.FieldType)).before args0 about1 = true := code_word (m := ⟨9, 3⟩) (meth := k9m3) (c := k9c3) (by decide +kernel) rfl rfl rfl (by decide +kernel)
set_option maxRecDepth 65536 in
theorem w_c10 : (Jvm.Cond.code ({ cls := "java/util/BitSet", name := "initWords", desc := "(I)V" } : Jvm.MethodName) jdk_92_method_6_code (2 : Nat) (Option.none : Option Jvm.ClassFile.FieldType)).before args0 about1 = true := code_word (m := ⟨9, 4⟩) (meth := k9m4) (c := k9c4) (by decide +kernel) rfl rfl rfl (by decide +kernel)
set_option maxRecDepth 65536 in
theorem w_c11 : (Jvm.Cond.code ({ cls := "java/util/BitSet", name := "wordIndex", desc := "(I)I" } : Jvm.MethodName) jdk_92_method_1_code (1 : Nat) (Option.some Jvm.ClassFile.FieldType.int)).before args0 about1 = true := code_word (m := ⟨9, 0⟩) (meth := k9m0) (c := k9c0) (by decide +kernel) rfl rfl rfl (by decide +kernel)
set_option maxRecDepth 65536 in
theorem w_c12 : (Jvm.Cond.code ({ cls := "com/example/dissoc/dissoc/mincut/Flow$Side", name := "<init>", desc := "()V" } : Jvm.MethodName) prog_27_method_1_code (1 : Nat) (Option.none : Option Jvm.ClassFile.FieldType)).before args0 about1 = true := code_word (m := ⟨10, 0⟩) (meth := k10m0) (c := k10c0) (by decide +kernel) rfl rfl rfl (by decide +kernel)
set_option maxRecDepth 65536 in
theorem w_c13 : (Jvm.Cond.code ({ cls := "com/example/dissoc/dissoc/mincut/FlowNetwork", name := "firstArcs", desc := "()[I" } : Jvm.MethodName) prog_28_method_9_code (1 : Nat) (Option.some (Jvm.ClassFile.FieldType.array Jvm.ClassFile.FieldType.int))).before args0 about1 = true := code_word (m := ⟨2, 4⟩) (meth := k2m4) (c := k2c4) (by decide +kernel) rfl rfl rfl (by decide +kernel)
set_option maxRecDepth 65536 in
theorem w_c14 : (Jvm.Cond.code ({ cls := "com/example/dissoc/dissoc/mincut/FlowNetwork", name := "targets", desc := "()[I" } : Jvm.MethodName) prog_28_method_10_code (1 : Nat) (Option.some (Jvm.ClassFile.FieldType.array Jvm.ClassFile.FieldType.int))).before args0 about1 = true := code_word (m := ⟨2, 5⟩) (meth := k2m5) (c := k2c5) (by decide +kernel) rfl rfl rfl (by decide +kernel)
set_option maxRecDepth 65536 in
theorem w_c15 : (Jvm.Cond.code ({ cls := "com/example/dissoc/dissoc/mincut/FlowNetwork", name := "reverses", desc := "()[I" } : Jvm.MethodName) prog_28_method_11_code (1 : Nat) (Option.some (Jvm.ClassFile.FieldType.array Jvm.ClassFile.FieldType.int))).before args0 about1 = true := code_word (m := ⟨2, 6⟩) (meth := k2m6) (c := k2c6) (by decide +kernel) rfl rfl rfl (by decide +kernel)
set_option maxRecDepth 65536 in
theorem w_c16 : (Jvm.Cond.code ({ cls := "com/example/dissoc/dissoc/mincut/Flow", name := "setResidual", desc := "(II)V" } : Jvm.MethodName) prog_24_method_20_code (3 : Nat) (Option.none : Option Jvm.ClassFile.FieldType)).before args0 about1 = true := code_word (m := ⟨6, 1⟩) (meth := k6m1) (c := k6c1) (by decide +kernel) rfl rfl rfl (by decide +kernel)
set_option maxRecDepth 65536 in
theorem w_c17 : (Jvm.Cond.code ({ cls := "java/util/BitSet", name := "set", desc := "(IZ)V" } : Jvm.MethodName) jdk_92_method_20_code (3 : Nat) (Option.none : Option Jvm.ClassFile.FieldType)).before args0 about1 = true := code_word (m := ⟨9, 8⟩) (meth := k9m8) (c := k9c8) (by decide +kernel) rfl rfl rfl (by decide +kernel)
set_option maxRecDepth 65536 in
theorem w_c18 : (Jvm.Cond.code ({ cls := "java/util/BitSet", name := "set", desc := "(I)V" } : Jvm.MethodName) jdk_92_method_19_code (3 : Nat) (Option.none : Option Jvm.ClassFile.FieldType)).before args0 about1 = true := code_word (m := ⟨9, 7⟩) (meth := k9m7) (c := k9c7) (by decide +kernel) rfl rfl rfl (by decide +kernel)
set_option maxRecDepth 65536 in
theorem w_c19 : (Jvm.Cond.code ({ cls := "java/util/BitSet", name := "expandTo", desc := "(I)V" } : Jvm.MethodName) jdk_92_method_15_code (3 : Nat) (Option.none : Option Jvm.ClassFile.FieldType)).before args0 about1 = true := code_word (m := ⟨9, 6⟩) (meth := k9m6) (c := k9c6) (by decide +kernel) rfl rfl rfl (by decide +kernel)
set_option maxRecDepth 65536 in
theorem w_c20 : (Jvm.Cond.code ({ cls := "java/util/BitSet", name := "ensureCapacity", desc := "(I)V" } : Jvm.MethodName) jdk_92_method_14_code (3 : Nat) (Option.none : Option Jvm.ClassFile.FieldType)).before args0 about1 = true := code_word (m := ⟨9, 5⟩) (meth := k9m5) (c := k9c5) (by decide +kernel) rfl rfl rfl (by decide +kernel)
set_option maxRecDepth 65536 in
theorem w_c21 : (Jvm.Cond.code ({ cls := "java/util/BitSet", name := "checkInvariants", desc := "()V" } : Jvm.MethodName) jdk_92_method_2_code (1 : Nat) (Option.none : Option Jvm.ClassFile.FieldType)).before args0 about1 = true := code_word (m := ⟨9, 1⟩) (meth := k9m1) (c := k9c1) (by decide +kernel) rfl rfl rfl (by decide +kernel)
set_option maxRecDepth 65536 in
theorem w_c22 : (Jvm.Cond.code ({ cls := "java/util/BitSet", name := "clear", desc := "(I)V" } : Jvm.MethodName) jdk_92_method_23_code (3 : Nat) (Option.none : Option Jvm.ClassFile.FieldType)).before args0 about1 = true := code_word (m := ⟨9, 9⟩) (meth := k9m9) (c := k9c9) (by decide +kernel) rfl rfl rfl (by decide +kernel)
set_option maxRecDepth 65536 in
theorem w_c23 : (Jvm.Cond.code ({ cls := "java/util/BitSet", name := "recalculateWordsInUse", desc := "()V" } : Jvm.MethodName) jdk_92_method_3_code (2 : Nat) (Option.none : Option Jvm.ClassFile.FieldType)).before args0 about1 = true := code_word (m := ⟨9, 2⟩) (meth := k9m2) (c := k9c2) (by decide +kernel) rfl rfl rfl (by decide +kernel)
set_option maxRecDepth 65536 in
theorem w_c24 : (Jvm.Cond.code ({ cls := "com/example/dissoc/dissoc/mincut/FlowNetwork", name := "nodes", desc := "()I" } : Jvm.MethodName) prog_28_method_3_code (1 : Nat) (Option.some Jvm.ClassFile.FieldType.int)).before args0 about1 = true := code_word (m := ⟨2, 2⟩) (meth := k2m2) (c := k2c2) (by decide +kernel) rfl rfl rfl (by decide +kernel)
set_option maxRecDepth 65536 in
theorem w_c25 : (Jvm.Cond.code ({ cls := "com/example/dissoc/dissoc/mincut/FlowNetwork", name := "forwardArc", desc := "(I)I" } : Jvm.MethodName) prog_28_method_12_code (2 : Nat) (Option.some Jvm.ClassFile.FieldType.int)).before args0 about1 = true := code_word (m := ⟨2, 7⟩) (meth := k2m7) (c := k2c7) (by decide +kernel) rfl rfl rfl (by decide +kernel)
set_option maxRecDepth 65536 in
theorem w_c26 : (Jvm.Cond.code ({ cls := "com/example/dissoc/dissoc/mincut/FlowNetworkIsForwardPinLaw", name := "inRange", desc := "(I)Z" } : Jvm.MethodName) method_2_code (1 : Nat) (Option.some Jvm.ClassFile.FieldType.boolean)).before args0 about1 = true := code_word (m := ⟨1, 1⟩) (meth := k1m1) (c := k1c1) (by decide +kernel) rfl rfl rfl (by decide +kernel)
set_option maxRecDepth 65536 in
theorem w_c27 : (Jvm.Cond.code ({ cls := "com/example/dissoc/dissoc/mincut/FlowNetwork", name := "isForward", desc := "(I)Z" } : Jvm.MethodName) prog_28_method_13_code (2 : Nat) (Option.some Jvm.ClassFile.FieldType.boolean)).before args0 about1 = true := code_word (m := ⟨2, 8⟩) (meth := k2m8) (c := k2c8) (by decide +kernel) rfl rfl rfl (by decide +kernel)
def codes1 : List Jvm.Cond := [Jvm.Cond.code x code maxLocals ret, Jvm.Cond.code ({ cls := "com/example/dissoc/dissoc/mincut/FlowNetwork", name := "<init>", desc := "(I)V" } : Jvm.MethodName) prog_28_method_1_code (2 : Nat) (Option.none : Option Jvm.ClassFile.FieldType), Jvm.Cond.code ({ cls := "java/lang/Object", name := "<init>", desc := "()V" } : Jvm.MethodName) object_method_1_code (1 : Nat) (Option.none : Option Jvm.ClassFile.FieldType), Jvm.Cond.code ({ cls := "com/example/dissoc/dissoc/mincut/FlowNetwork", name := "addEdge", desc := "(III)I" } : Jvm.MethodName) prog_28_method_2_code (4 : Nat) (Option.some Jvm.ClassFile.FieldType.int), Jvm.Cond.code ({ cls := "java/lang/Math", name := "min", desc := "(II)I" } : Jvm.MethodName) jdk_29_method_69_code (2 : Nat) (Option.some Jvm.ClassFile.FieldType.int), Jvm.Cond.code ({ cls := "com/example/dissoc/dissoc/mincut/FlowNetwork", name := "zeroFlow", desc := "()Lcom/example/dissoc/dissoc/mincut/Flow;" } : Jvm.MethodName) prog_28_method_8_code (3 : Nat) (Option.some (Jvm.ClassFile.FieldType.object "com/example/dissoc/dissoc/mincut/Flow")), Jvm.Cond.code ({ cls := "com/example/dissoc/dissoc/mincut/FlowNetwork", name := "index", desc := "()V" } : Jvm.MethodName) prog_28_method_14_code (5 : Nat) (Option.none : Option Jvm.ClassFile.FieldType), Jvm.Cond.code ({ cls := "java/util/Arrays", name := "copyOf", desc := "([II)[I" } : Jvm.MethodName) jdk_65_method_123_code (3 : Nat) (Option.some (Jvm.ClassFile.FieldType.array Jvm.ClassFile.FieldType.int)), Jvm.Cond.code ({ cls := "com/example/dissoc/dissoc/mincut/Flow", name := "<init>", desc := "(Lcom/example/dissoc/dissoc/mincut/FlowNetwork;[I)V" } : Jvm.MethodName) prog_24_method_1_code (4 : Nat) (Option.none : Option Jvm.ClassFile.FieldType), Jvm.Cond.code ({ cls := "java/util/BitSet", name := "<init>", desc := "()V" } : Jvm.MethodName) jdk_92_method_4_code (1 : Nat) (Option.none : Option Jvm.ClassFile.FieldType), Jvm.Cond.code ({ cls := "java/util/BitSet", name := "initWords", desc := "(I)V" } : Jvm.MethodName) jdk_92_method_6_code (2 : Nat) (Option.none : Option Jvm.ClassFile.FieldType), Jvm.Cond.code ({ cls := "java/util/BitSet", name := "wordIndex", desc := "(I)I" } : Jvm.MethodName) jdk_92_method_1_code (1 : Nat) (Option.some Jvm.ClassFile.FieldType.int), Jvm.Cond.code ({ cls := "com/example/dissoc/dissoc/mincut/Flow$Side", name := "<init>", desc := "()V" } : Jvm.MethodName) prog_27_method_1_code (1 : Nat) (Option.none : Option Jvm.ClassFile.FieldType), Jvm.Cond.code ({ cls := "com/example/dissoc/dissoc/mincut/FlowNetwork", name := "firstArcs", desc := "()[I" } : Jvm.MethodName) prog_28_method_9_code (1 : Nat) (Option.some (Jvm.ClassFile.FieldType.array Jvm.ClassFile.FieldType.int)), Jvm.Cond.code ({ cls := "com/example/dissoc/dissoc/mincut/FlowNetwork", name := "targets", desc := "()[I" } : Jvm.MethodName) prog_28_method_10_code (1 : Nat) (Option.some (Jvm.ClassFile.FieldType.array Jvm.ClassFile.FieldType.int)), Jvm.Cond.code ({ cls := "com/example/dissoc/dissoc/mincut/FlowNetwork", name := "reverses", desc := "()[I" } : Jvm.MethodName) prog_28_method_11_code (1 : Nat) (Option.some (Jvm.ClassFile.FieldType.array Jvm.ClassFile.FieldType.int)), Jvm.Cond.code ({ cls := "com/example/dissoc/dissoc/mincut/Flow", name := "setResidual", desc := "(II)V" } : Jvm.MethodName) prog_24_method_20_code (3 : Nat) (Option.none : Option Jvm.ClassFile.FieldType), Jvm.Cond.code ({ cls := "java/util/BitSet", name := "set", desc := "(IZ)V" } : Jvm.MethodName) jdk_92_method_20_code (3 : Nat) (Option.none : Option Jvm.ClassFile.FieldType), Jvm.Cond.code ({ cls := "java/util/BitSet", name := "set", desc := "(I)V" } : Jvm.MethodName) jdk_92_method_19_code (3 : Nat) (Option.none : Option Jvm.ClassFile.FieldType), Jvm.Cond.code ({ cls := "java/util/BitSet", name := "expandTo", desc := "(I)V" } : Jvm.MethodName) jdk_92_method_15_code (3 : Nat) (Option.none : Option Jvm.ClassFile.FieldType), Jvm.Cond.code ({ cls := "java/util/BitSet", name := "ensureCapacity", desc := "(I)V" } : Jvm.MethodName) jdk_92_method_14_code (3 : Nat) (Option.none : Option Jvm.ClassFile.FieldType), Jvm.Cond.code ({ cls := "java/util/BitSet", name := "checkInvariants", desc := "()V" } : Jvm.MethodName) jdk_92_method_2_code (1 : Nat) (Option.none : Option Jvm.ClassFile.FieldType), Jvm.Cond.code ({ cls := "java/util/BitSet", name := "clear", desc := "(I)V" } : Jvm.MethodName) jdk_92_method_23_code (3 : Nat) (Option.none : Option Jvm.ClassFile.FieldType), Jvm.Cond.code ({ cls := "java/util/BitSet", name := "recalculateWordsInUse", desc := "()V" } : Jvm.MethodName) jdk_92_method_3_code (2 : Nat) (Option.none : Option Jvm.ClassFile.FieldType), Jvm.Cond.code ({ cls := "com/example/dissoc/dissoc/mincut/FlowNetwork", name := "nodes", desc := "()I" } : Jvm.MethodName) prog_28_method_3_code (1 : Nat) (Option.some Jvm.ClassFile.FieldType.int), Jvm.Cond.code ({ cls := "com/example/dissoc/dissoc/mincut/FlowNetwork", name := "forwardArc", desc := "(I)I" } : Jvm.MethodName) prog_28_method_12_code (2 : Nat) (Option.some Jvm.ClassFile.FieldType.int), Jvm.Cond.code ({ cls := "com/example/dissoc/dissoc/mincut/FlowNetworkIsForwardPinLaw", name := "inRange", desc := "(I)Z" } : Jvm.MethodName) method_2_code (1 : Nat) (Option.some Jvm.ClassFile.FieldType.boolean), Jvm.Cond.code ({ cls := "com/example/dissoc/dissoc/mincut/FlowNetwork", name := "isForward", desc := "(I)Z" } : Jvm.MethodName) prog_28_method_13_code (2 : Nat) (Option.some Jvm.ClassFile.FieldType.boolean)]
set_option maxRecDepth 65536 in
theorem codes_eq : words1.filter isCode = codes1 := rfl
theorem w_codes : ∀ c ∈ words1.filter isCode, c.before args0 about1 = true := by
  rw [codes_eq]
  intro c hc
  simp only [codes1, List.mem_cons, List.not_mem_nil, or_false] at hc
  rcases hc with rfl | rfl | rfl | rfl | rfl | rfl | rfl | rfl | rfl | rfl | rfl | rfl | rfl | rfl | rfl | rfl | rfl | rfl | rfl | rfl | rfl | rfl | rfl | rfl | rfl | rfl | rfl | rfl
  · exact w_c0
  · exact w_c1
  · exact w_c2
  · exact w_c3
  · exact w_c4
  · exact w_c5
  · exact w_c6
  · exact w_c7
  · exact w_c8
  · exact w_c9
  · exact w_c10
  · exact w_c11
  · exact w_c12
  · exact w_c13
  · exact w_c14
  · exact w_c15
  · exact w_c16
  · exact w_c17
  · exact w_c18
  · exact w_c19
  · exact w_c20
  · exact w_c21
  · exact w_c22
  · exact w_c23
  · exact w_c24
  · exact w_c25
  · exact w_c26
  · exact w_c27
set_option maxRecDepth 65536 in
theorem w_t1 : (words1.take 24).all (fun c => isCode c || c.before args0 about1) = true := by decide +kernel
set_option maxRecDepth 65536 in
theorem w_t2 : ((words1.drop 24).take 24).all (fun c => isCode c || c.before args0 about1) = true := by decide +kernel
set_option maxRecDepth 65536 in
theorem w_t3 : (((words1.drop 24).drop 24).take 24).all (fun c => isCode c || c.before args0 about1) = true := by decide +kernel
set_option maxRecDepth 65536 in
theorem w_t4 : ((((words1.drop 24).drop 24).drop 24).take 24).all (fun c => isCode c || c.before args0 about1) = true := by decide +kernel
set_option maxRecDepth 65536 in
theorem w_t5 : (((((words1.drop 24).drop 24).drop 24).drop 24).take 24).all (fun c => isCode c || c.before args0 about1) = true := by decide +kernel
set_option maxRecDepth 65536 in
theorem w_t6 : ((((((words1.drop 24).drop 24).drop 24).drop 24).drop 24).take 24).all (fun c => isCode c || c.before args0 about1) = true := by decide +kernel
set_option maxRecDepth 65536 in
theorem w_t7 : (((((((words1.drop 24).drop 24).drop 24).drop 24).drop 24).drop 24).take 24).all (fun c => isCode c || c.before args0 about1) = true := by decide +kernel
set_option maxRecDepth 65536 in
theorem w_t8 : ((((((((words1.drop 24).drop 24).drop 24).drop 24).drop 24).drop 24).drop 24).take 24).all (fun c => isCode c || c.before args0 about1) = true := by decide +kernel
set_option maxRecDepth 65536 in
theorem w_t9 : (((((((((words1.drop 24).drop 24).drop 24).drop 24).drop 24).drop 24).drop 24).drop 24).take 24).all (fun c => isCode c || c.before args0 about1) = true := by decide +kernel
set_option maxRecDepth 65536 in
theorem w_t10 : (((((((((words1.drop 24).drop 24).drop 24).drop 24).drop 24).drop 24).drop 24).drop 24).drop 24).all (fun c => isCode c || c.before args0 about1) = true := by decide +kernel
theorem w_tables : (allAtoms (Jvm.Cond.code x code maxLocals ret :: tables_1)).before args0 about1 = true := by
  rw [allAtoms_all]
  show words1.all (fun c => c.before args0 about1) = true
  refine all_split ?_ w_codes
  rw [← List.take_append_drop 24 words1, List.all_append, w_t1, ← List.take_append_drop 24 (words1.drop 24), List.all_append, w_t2, ← List.take_append_drop 24 ((words1.drop 24).drop 24), List.all_append, w_t3, ← List.take_append_drop 24 (((words1.drop 24).drop 24).drop 24), List.all_append, w_t4, ← List.take_append_drop 24 ((((words1.drop 24).drop 24).drop 24).drop 24), List.all_append, w_t5, ← List.take_append_drop 24 (((((words1.drop 24).drop 24).drop 24).drop 24).drop 24), List.all_append, w_t6, ← List.take_append_drop 24 ((((((words1.drop 24).drop 24).drop 24).drop 24).drop 24).drop 24), List.all_append, w_t7, ← List.take_append_drop 24 (((((((words1.drop 24).drop 24).drop 24).drop 24).drop 24).drop 24).drop 24), List.all_append, w_t8, ← List.take_append_drop 24 ((((((((words1.drop 24).drop 24).drop 24).drop 24).drop 24).drop 24).drop 24).drop 24), List.all_append, w_t9, w_t10]
  rfl
set_option maxRecDepth 65536 in
theorem w_rest : rest_1_c.before args0 about1 = true := by decide +kernel
set_option maxRecDepth 65536 in
theorem w_case : (Jvm.Cond.and given_1 narrow_1).before args0 about1 = true := by decide +kernel
theorem w_applies : (headSpec (Jvm.Cond.code x code maxLocals ret :: tables_1) room_1).applies x e0.platform about1 = true :=
  (Spec.applies_iff w_frames).mpr ⟨w_running, w_runnable, w_alone, w_named, w_hears, w_ripe, w_room, w_tables⟩
theorem atStart : AtStart classFile x code maxLocals ret World_1 tables_1 room_1 Calls_1 rest_1 Pre_1 launch0 p0 e0 about1 theMethod args0 below0 :=
  ⟨lists_1, trivial, launch0.admits_env _ _ _, launch0.least_env, fairChoices_fair.cas, fairChoices_fair.clock, w_frames, w_args, w_heap, w_applies, trivial, w_rest, w_case⟩
end start1
theorem witness_1 : WitnessClaimed_1 := ⟨start1.p0, start1.e0, start1.about1, start1.theMethod, start1.args0, start1.below0, start1.atStart⟩
end Jvm.Pilot.@@N@@
