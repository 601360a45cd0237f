import JvmDerived
import JvmDerived.Pilot.@@N@@Statement
import JvmDerived.Pilot.@@N@@Code
set_option linter.unusedVariables false
set_option linter.unusedSimpArgs false
set_option maxRecDepth 65536
set_option maxHeartbeats 40000000
namespace Jvm.Pilot.@@N@@
open Jvm Jvm.ClassFile Sem Op Lib Jvm.Free Jvm.Stand Jvm.LawKit Jvm.RoadKit Bundle Jvm.Pilot.@@N@@.Jvm.D
section OwnKit
variable {p : Program} {l : Launch} {e : Env} {R : Room} {s : State} {m : MethodId} {args : Array Value} {below : List Frame} {meth : Method} {c : Code} {T : State} {locs : List Loc} {cells slots : Nat} {Z : State} {a0 : Array Value} {h0 : Heap}
def own_G (p : Program) (e : Env) (below : List Frame) (P : Outcome → State → Prop) (st : State) : Prop :=
  ∃ (u : State) (o : Outcome), Steps p.tables e below st u ∧ u.status = .running ∧ Ended u below o ∧ P o u
theorem own_via {P : Outcome → State → Prop} {st st' : State} (k : ∀ t, Steps p.tables e below st' t → Steps p.tables e below st t) (h : own_G p e below P st') : own_G p e below P st := by
  obtain ⟨u, o, h1, h2⟩ := h
  exact ⟨u, o, k _ h1, h2⟩
def own_P (s : State) (Q : Option Value → Heap → List Loc → Prop) (k n : Nat) : Outcome → State → Prop := fun o u => ∃ v L, o = .returned v ∧ Q v u.heap L ∧ FrameEnd s o u L k n
def own_Q (w : Value) (h0 : Heap) : Option Value → Heap → List Loc → Prop := fun v h L => v = some w ∧ L = [] ∧ h = h0
def own_C (l : Launch) (Z : State) (y : MethodName) (bytes : ByteArray) (maxL : Nat) (ret : Option FieldType) (ws : List Jvm.Cond) (rm : Room) (as : Array Value) (h0 : Heap) (Q : Option Value → Heap → List Loc → Prop) : Prop :=
  MetFree l y (head1 (Jvm.Cond.code y bytes maxL ret :: ws) rm) (fun a U => a = as ∧ Z.Warmed39 U.vm ∧ U.heap = h0) (fun _ _ _ _ _ => True) (fun _ U o U' => ∃ v L, o = .returned v ∧ Q v U'.heap L ∧ FrameEnd U o U' L rm.cells rm.slots)
theorem own_ret {v : Option Value} {Q : Option Value → Heap → List Loc → Prop} {k n : Nat} {st : State} (X : Stand p l e R s m args below meth c T locs cells slots) (hv : meth.sig.returnType = none → v = none) (hlocks : meth.locks = false)
    (hst : ∀ fs, (∀ (f : JFrame) (acts : List Action), f.method = m → f.locked = none → f.entered = [] → (doReturn e (T.setTop f) acts v).1 = T.setFrames fs) → Steps p.tables e below st (T.setFrames fs))
    (hQ : Q v T.heap locs) (hk : cells ≤ k) (hn : slots ≤ n) : own_G p e below (own_P s Q k n) st := by
  obtain ⟨fs, hr, hrun, hended, hW, hsame⟩ := X.leave (v := v) hv hlocks
  exact ⟨_, _, hst fs hr, hrun, hended, _, _, rfl, hQ, ⟨_, rfl⟩, hW, hsame.mono hk hn⟩
theorem own_retI {Q : Option Value → Heap → List Loc → Prop} {k n : Nat} (X : Stand p l e R s m args below meth c T locs cells slots) (hx : p.tables.exec = Jvm.exec) {pc : Nat} {Ls : Array Slot} {z : Int32} {rest : List Value} (hret : meth.sig.returnType = some .int) (hlocks : meth.locks = false) (hd : decode c.code pc = .ok (.ireturn, 1))
    (hQ : Q (some (.int z)) T.heap locs) (hk : cells ≤ k) (hn : slots ≤ n) : own_G p e below (own_P s Q k n) (T.setTop (mkF m pc Ls (.int z :: rest))) := by
  refine own_ret X (fun h => by rw [hret] at h; cases h) hlocks (fun fs hr => ?_) hQ hk hn
  have hm' : T.vm.method? m = some meth := X.method'
  have hn : narrow .int (.int z) = .int z := rfl
  show Steps p.tables e below (T.setTop { method := m, pc := pc, locals := Ls, stack := _ :: rest, locked := none }) _
  jvm_step X.here [X.here.top, hx, hd, hm', hret, hn]
  first | (intro acts; rw [hr _ acts rfl rfl rfl]) | rw [hr _ _ rfl rfl rfl]
  exact Steps.refl _
theorem own_retN {Q : Option Value → Heap → List Loc → Prop} {k n : Nat} {t : FieldType} (X : Stand p l e R s m args below meth c T locs cells slots) (hx : p.tables.exec = Jvm.exec) {pc : Nat} {Ls : Array Slot} {z : Int32} {rest : List Value} (hret : meth.sig.returnType = some t) (ht : t = .boolean ∨ t = .byte ∨ t = .char ∨ t = .short) (hlocks : meth.locks = false) (hd : decode c.code pc = .ok (.ireturn, 1))
    (hQ : Q (some (.int (nar t z))) T.heap locs) (hk : cells ≤ k) (hn : slots ≤ n) : own_G p e below (own_P s Q k n) (T.setTop (mkF m pc Ls (.int z :: rest))) :=
  own_ret X (fun h => by rw [hret] at h; cases h) hlocks (fun fs hr => retN X hx hret ht hd hr) hQ hk hn
theorem own_retV {Q : Option Value → Heap → List Loc → Prop} {k n : Nat} (X : Stand p l e R s m args below meth c T locs cells slots) (hx : p.tables.exec = Jvm.exec) {pc : Nat} {Ls : Array Slot} (hret : meth.sig.returnType = none) (hlocks : meth.locks = false) (hd : decode c.code pc = .ok (.return_, 1))
    (hQ : Q none T.heap locs) (hk : cells ≤ k) (hn : slots ≤ n) : own_G p e below (own_P s Q k n) (T.setTop (mkF m pc Ls [])) :=
  own_ret X (fun _ => rfl) hlocks (fun fs hr => X.returnOut hx hret hd hr) hQ hk hn
theorem own_retA {Q : Option Value → Heap → List Loc → Prop} {k n : Nat} {t : FieldType} {v : Value} (X : Stand p l e R s m args below meth c T locs cells slots) (hx : p.tables.exec = Jvm.exec) {pc : Nat} {Ls : Array Slot} {rest : List Value} (hret : meth.sig.returnType = some t) (ht : t.isReference = true) (hv : v.isRef = true) (hlocks : meth.locks = false) (hd : decode c.code pc = .ok (.areturn, 1))
    (hQ : Q (some v) T.heap locs) (hk : cells ≤ k) (hn : slots ≤ n) : own_G p e below (own_P s Q k n) (T.setTop (mkF m pc Ls (v :: rest))) := by
  refine own_ret X (fun h => by rw [hret] at h; cases h) hlocks (fun fs hr => ?_) hQ hk hn
  have hm' : T.vm.method? m = some meth := X.method'
  show Steps p.tables e below (T.setTop { method := m, pc := pc, locals := Ls, stack := _ :: rest, locked := none }) _
  jvm_step X.here [X.here.top, hx, hd, hm', hret, ht, hv]
  first | (intro acts; rw [hr _ acts rfl rfl rfl]) | rw [hr _ _ rfl rfl rfl]
  exact Steps.refl _
theorem own_callS {own : String} {index : Nat} {y : MethodName} {bytes : ByteArray} {maxL W : Nat} {ret : Option FieldType} {rm : Room} {as : Array Value} {Q : Option Value → Heap → List Loc → Prop}
    (X : Stand p l e R s m args below meth c T locs cells slots) (hx : p.tables.exec = Jvm.exec) (hZ : Z.Warmed39 s.vm) (hown : s.vm.findClass own = some m.cls)
    (w1 : (Jvm.Cond.methodLink own index y).before a0 Z = true) (w2 : (Jvm.Cond.static y).before a0 Z = true) (w3 : (Jvm.Cond.initialized y.cls).before a0 Z = true) (w4 : (Jvm.Cond.code y bytes maxL ret).before a0 Z = true)
    (hy : y.cls ≠ "java/lang/invoke/MethodHandle" ∧ y.cls ≠ "java/lang/invoke/VarHandle") (hM : own_C l Z y bytes maxL ret [] rm as h0 Q)
    (hf : rm.frames + 1 ≤ R.frames) (hl : W + (maxL + 11) + rm.locals ≤ R.locals) (hcc : cells + rm.cells ≤ R.cells) (hss : slots + rm.slots ≤ R.slots) (e0 : T.heap = h0)
    {pc : Nat} {Ls : Array Slot} {st argsL rest : List Value} (hsize : Ls.size = c.maxLocals) (hlen : ∀ sig, parseMethodDescriptor y.desc = some sig → argsL.length = sig.parameters.length) (has : argsL.toArray = as)
    (hst : st = argsL.reverse ++ rest) (hW : 2 * 0 + (rest.map fun v => v.category).sum ≤ W) (hd : decode c.code pc = .ok (.invokestatic index, 3)) :
    ∃ (v : Option Value) (T' : State) (L : List Loc), Stand p l e R s m args below meth c T' (locs ++ L) (cells + rm.cells) (slots + rm.slots) ∧ Q v T'.heap L ∧
      ∀ target, Steps p.tables e below (T'.setTop (mkF m (pc + 3) Ls (v.toList ++ rest))) target → Steps p.tables e below (T.setTop (mkF m pc Ls st)) target := by
  obtain ⟨v, _, ⟨T', L', k', n'⟩, -, X', ⟨Lc, hQ, h1, h2, h3⟩, stp⟩ := Jvm.LawKit.callS X hx (y := y) hown (mvT hZ w1) (mvT hZ w2) (mvT hZ w3) (mvT hZ w4) hy
    (backOf (W := W) hM hZ w4 w3 hf hl) (g := mkF m pc Ls st) rfl hsize (argsL := argsL) (rest := rest) hlen hst hW hd (fun _ _ => ⟨has, e0, hcc, hss⟩)
  dsimp only [Pt.U, Pt.locs, Pt.cells, Pt.slots] at X' h1 h2 h3 stp hQ
  subst h1 h2 h3
  exact ⟨v, T', Lc, X', hQ, stp⟩
theorem own_callP {own : String} {index : Nat} {y : MethodName} {bytes : ByteArray} {maxL W : Nat} {ret : Option FieldType} {rm : Room} {as : Array Value} {w : Value}
    (X : Stand p l e R s m args below meth c T locs cells slots) (hx : p.tables.exec = Jvm.exec) (hZ : Z.Warmed39 s.vm) (hown : s.vm.findClass own = some m.cls)
    (w1 : (Jvm.Cond.methodLink own index y).before a0 Z = true) (w2 : (Jvm.Cond.static y).before a0 Z = true) (w3 : (Jvm.Cond.initialized y.cls).before a0 Z = true) (w4 : (Jvm.Cond.code y bytes maxL ret).before a0 Z = true)
    (hy : y.cls ≠ "java/lang/invoke/MethodHandle" ∧ y.cls ≠ "java/lang/invoke/VarHandle") (hM : own_C l Z y bytes maxL ret [] rm as h0 (own_Q w h0))
    (hf : rm.frames + 1 ≤ R.frames) (hl : W + (maxL + 11) + rm.locals ≤ R.locals) (hrc : rm.cells = 0) (hrs : rm.slots = 0) (hcc : cells + rm.cells ≤ R.cells) (hss : slots + rm.slots ≤ R.slots) (e0 : T.heap = h0)
    {pc : Nat} {Ls : Array Slot} {st argsL rest : List Value} (hsize : Ls.size = c.maxLocals) (hlen : ∀ sig, parseMethodDescriptor y.desc = some sig → argsL.length = sig.parameters.length) (has : argsL.toArray = as)
    (hst : st = argsL.reverse ++ rest) (hW : 2 * 0 + (rest.map fun v => v.category).sum ≤ W) (hd : decode c.code pc = .ok (.invokestatic index, 3)) :
    ∃ (T' : State), Stand p l e R s m args below meth c T' locs cells slots ∧ T'.heap = h0 ∧
      ∀ target, Steps p.tables e below (T'.setTop (mkF m (pc + 3) Ls (w :: rest))) target → Steps p.tables e below (T.setTop (mkF m pc Ls st)) target := by
  obtain ⟨v, T', L, X', ⟨rfl, rfl, hh⟩, stp⟩ := own_callS X hx hZ hown w1 w2 w3 w4 hy hM hf hl hcc hss e0 hsize hlen has hst hW hd
  rw [List.append_nil, hrc, hrs] at X'
  exact ⟨T', X', hh, stp⟩
end OwnKit
section OwnHeap
variable {p : Program} {l : Launch} {e : Env} {R : Room} {s : State} {m : MethodId} {args : Array Value} {below : List Frame} {meth : Method} {c : Code} {T : State} {locs : List Loc} {cells slots : Nat} {Z : State} {a0 : Array Value} {h0 h : Heap} {n0 : Nat}
def own_W (n0 : Nat) (q : Option Value → Heap → Prop) : Option Value → Heap → List Loc → Prop := fun v h L => Fr n0 L ∧ q v h
theorem own_newA (X : Stand p l e R s m args below meth c T locs cells slots) (hx : p.tables.exec = Jvm.exec) (hZ : Z.Warmed39 s.vm) {aty : ArrayType} (w : (Jvm.Cond.arrayClass (newarray.typeOf aty)).before a0 Z = true) (eT : T.heap = h) {pc : Nat} {Ls : Array Slot} (hd : decode c.code pc = .ok (.newarray aty, 2)) {n : Int32} {rest : List Value}
    (hn : ¬ n < 0) {cap : Nat} (hcap : n.toNatClampNeg ≤ cap) (hb : cap * 8 ≤ 536870912) (hc : cells + 1 ≤ R.cells) (hl : slots + cap ≤ R.slots) (len : Nat) {ad : String} (had : "[" ++ (newarray.typeOf aty).toString = ad) :
    ∃ T' h' k a, Stand p l e R s m args below meth c T' locs (cells + 1) (slots + cap) ∧ T'.heap = h' ∧ Ext h h' ∧ a = h.size ∧ Arv Z h' a k (newarray.typeOf aty) n (List.replicate len (defaultValue (newarray.typeOf aty))) (defaultValue (newarray.typeOf aty)) ∧ Exa Z h' a ad ∧
      ∀ target, Steps p.tables e below (T'.setTop (mkF m (pc + 2) Ls (.ref a :: rest))) target → Steps p.tables e below (T.setTop (mkF m pc Ls (.int n :: rest))) target := by
  obtain ⟨T', h', k, X', e', E, A, Ex, st⟩ := newPE X hx hZ w eT (g := mkF m pc Ls (.int n :: rest)) rfl hd rfl hn hcap hb hc hl had
  exact ⟨T', h', k, h.size, X', e', E, rfl, (Arv.new A hn).pad (fun i => by have := pad_rep [] (defaultValue (newarray.typeOf aty)) len i; rwa [List.nil_append] at this), Ex, st⟩
theorem own_stB (X : Stand p l e R s m args below meth c T locs cells slots) (N : Fr n0 locs) (hx : p.tables.exec = Jvm.exec) (hZ : Z.Warmed39 s.vm) (eT : T.heap = h) {a : Addr} {k : ClassId} {z : Int32} {vs : List Value} {d : Value} (V : Arv Z h a k .byte z vs d) (ga : n0 ≤ a) {j x : Int32} {i : Nat} (hj : ¬ j < 0 ∧ j < z) (hi : j.toNatClampNeg = i) (hl : i < vs.length)
    {pc : Nat} {Ls : Array Slot} {rest : List Value} (hd : decode c.code pc = .ok (.bastore, 1)) :
    ∃ T' h' L', Stand p l e R s m args below meth c T' L' cells slots ∧ Fr n0 L' ∧ T'.heap = h' ∧ Wr h h' a i (.int x.toInt8.toInt32) ∧ Arv Z h' a k .byte z (vs.set i (.int x.toInt8.toInt32)) d ∧
      ∀ target, Steps p.tables e below (T'.setTop (mkF m (pc + 1) Ls rest)) target → Steps p.tables e below (T.setTop (mkF m pc Ls (.int x :: .int j :: .ref a :: rest))) target := by
  obtain ⟨cl, Ar, q, S, Nn, H, G⟩ := V
  obtain ⟨T', h', X', e', W, st⟩ := stB X hx hZ eT Ar (j := j) (x := x) (inb_of S hj) (g := mkF m pc Ls (.int x :: .int j :: .ref a :: rest)) rfl rfl hd
  subst hi
  exact ⟨T', h', _, X', Fr.snoc X' N ga, e', W, Arv.set Ar q S Nn H G (fits_nar_byte x) W _ rfl hl, st⟩
theorem own_stC (X : Stand p l e R s m args below meth c T locs cells slots) (N : Fr n0 locs) (hx : p.tables.exec = Jvm.exec) (hZ : Z.Warmed39 s.vm) (eT : T.heap = h) {a : Addr} {k : ClassId} {z : Int32} {vs : List Value} {d : Value} (V : Arv Z h a k .char z vs d) (ga : n0 ≤ a) {j x : Int32} {i : Nat} (hj : ¬ j < 0 ∧ j < z) (hi : j.toNatClampNeg = i) (hl : i < vs.length)
    {pc : Nat} {Ls : Array Slot} {rest : List Value} (hd : decode c.code pc = .ok (.castore, 1)) :
    ∃ T' h' L', Stand p l e R s m args below meth c T' L' cells slots ∧ Fr n0 L' ∧ T'.heap = h' ∧ Wr h h' a i (.int (nar .char x)) ∧ Arv Z h' a k .char z (vs.set i (.int (nar .char x))) d ∧
      ∀ target, Steps p.tables e below (T'.setTop (mkF m (pc + 1) Ls rest)) target → Steps p.tables e below (T.setTop (mkF m pc Ls (.int x :: .int j :: .ref a :: rest))) target := by
  obtain ⟨cl, Ar, q, S, Nn, H, G⟩ := V
  obtain ⟨T', h', X', e', W, st⟩ := stC X hx hZ eT Ar (j := j) (x := x) (inb_of S hj) (g := mkF m pc Ls (.int x :: .int j :: .ref a :: rest)) rfl rfl hd
  subst hi
  exact ⟨T', h', _, X', Fr.snoc X' N ga, e', W, Arv.set Ar q S Nn H G (fits_nar_char x) W _ rfl hl, st⟩
theorem own_ldB (X : Stand p l e R s m args below meth c T locs cells slots) (hx : p.tables.exec = Jvm.exec) (hZ : Z.Warmed39 s.vm) (eT : T.heap = h) {a : Addr} {k : ClassId} {z : Int32} {vs : List Value} {d v : Value} (V : Arv Z h a k .byte z vs d) {j : Int32} (hj : ¬ j < 0 ∧ j < z) (hv : vs.getD j.toNatClampNeg d = v)
    {pc : Nat} {Ls : Array Slot} {rest : List Value} (hd : decode c.code pc = .ok (.baload, 1)) (target : State) (hr : Steps p.tables e below (T.setTop (mkF m (pc + 1) Ls (v :: rest))) target) : Steps p.tables e below (T.setTop (mkF m pc Ls (.int j :: .ref a :: rest))) target := by
  obtain ⟨cl, Ar, q, S, Nn, H, G⟩ := V
  have hin := inb_of S hj
  refine X.baloadBytes hx (j := j) (v := v) (by rw [eT]; exact Ar.1) (State.isArrayOf_alike hZ.alike Ar.2.1) Ar.2.2 hin ?_ (g := mkF m pc Ls (.int j :: .ref a :: rest)) rfl rfl hd _ hr
  rw [H _ (Nat.lt_of_not_le fun q => hin (Or.inr q)), hv]
theorem own_ldC (X : Stand p l e R s m args below meth c T locs cells slots) (hx : p.tables.exec = Jvm.exec) (hZ : Z.Warmed39 s.vm) (eT : T.heap = h) {a : Addr} {k : ClassId} {z : Int32} {vs : List Value} {d v : Value} (V : Arv Z h a k .char z vs d) {j : Int32} (hj : ¬ j < 0 ∧ j < z) (hv : vs.getD j.toNatClampNeg d = v)
    {pc : Nat} {Ls : Array Slot} {rest : List Value} (hd : decode c.code pc = .ok (.caload, 1)) (target : State) (hr : Steps p.tables e below (T.setTop (mkF m (pc + 1) Ls (v :: rest))) target) : Steps p.tables e below (T.setTop (mkF m pc Ls (.int j :: .ref a :: rest))) target := by
  obtain ⟨cl, Ar, q, S, Nn, H, G⟩ := V
  have hin := inb_of S hj
  refine X.caload hx (j := j) (v := v) (by rw [eT]; exact Ar.1) (State.isArrayOf_alike hZ.alike Ar.2.1) Ar.2.2 hin ?_ (g := mkF m pc Ls (.int j :: .ref a :: rest)) rfl rfl hd _ hr
  rw [H _ (Nat.lt_of_not_le fun q => hin (Or.inr q)), hv]
theorem own_len (X : Stand p l e R s m args below meth c T locs cells slots) (hx : p.tables.exec = Jvm.exec) (hZ : Z.Warmed39 s.vm) (eT : T.heap = h) {a : Addr} {k : ClassId} {ty : FieldType} {z : Int32} {vs : List Value} {d : Value} (V : Arv Z h a k ty z vs d)
    {pc : Nat} {Ls : Array Slot} {rest : List Value} (hd : decode c.code pc = .ok (.arraylength, 1)) (target : State) (hr : Steps p.tables e below (T.setTop (mkF m (pc + 1) Ls (.int z :: rest))) target) : Steps p.tables e below (T.setTop (mkF m pc Ls (.ref a :: rest))) target := by
  obtain ⟨cl, Ar, q, S, Nn, H, G⟩ := V
  refine X.arraylength hx (by rw [eT]; exact Ar.1) (State.isArrayOf_alike hZ.alike Ar.2.1) (g := mkF m pc Ls (.ref a :: rest)) rfl rfl hd _ ?_
  rw [len_of S Nn]
  exact hr
theorem own_putF (X : Stand p l e R s m args below meth c T locs cells slots) (N : Fr n0 locs) (hx : p.tables.exec = Jvm.exec) (hZ : Z.Warmed39 s.vm) {own O n d C : String} {index kk : Nat} {ty : FieldType} (hown : s.vm.findClass own = some m.cls) (w : (Jvm.Cond.fieldLink own index O n d).before a0 Z = true)
    (eT : T.heap = h) {a : Addr} {v old : Value} (F : Fld Z h a O n d old) (E : Exa Z h a C) (L : (Jvm.Cond.lays C O n d).before a0 Z = true ∨ ((Jvm.Cond.laysFinal C O n d).before a0 Z = true ∧ own = O ∧ meth.name = "<init>")) (wi : (Jvm.Cond.instantiable C kk).before a0 Z = true) (ga : n0 ≤ a)
    (hty : parseFieldDescriptor d = some ty) (hn : narrow ty v = v) (hf : fits ty v = true) {pc : Nat} {Ls : Array Slot} {rest : List Value} (hd : decode c.code pc = .ok (.putfield index, 3)) :
    ∃ T' h' L', Stand p l e R s m args below meth c T' L' cells slots ∧ Fr n0 L' ∧ T'.heap = h' ∧ Wr h h' a (Jvm.RoadKit.slotOf Z O n d) v ∧ Fld Z h' a O n d v ∧
      ∀ target, Steps p.tables e below (T'.setTop (mkF m (pc + 3) Ls rest)) target → Steps p.tables e below (T.setTop (mkF m pc Ls (v :: .ref a :: rest))) target := by
  obtain ⟨T', h', X', e', W, st⟩ := putF X hx hZ hown (host := "") (Or.inl w) Via.refl eT F E L wi hty hn hf (g := mkF m pc Ls (v :: .ref a :: rest)) rfl rfl hd
  exact ⟨T', h', _, X', Fr.snoc X' N ga, e', W, F.same W, st⟩
theorem own_putFN (X : Stand p l e R s m args below meth c T locs cells slots) (N : Fr n0 locs) (hx : p.tables.exec = Jvm.exec) (hZ : Z.Warmed39 s.vm) {own O n d C : String} {index kk : Nat} {ty : FieldType} (hown : s.vm.findClass own = some m.cls) (w : (Jvm.Cond.fieldLink own index O n d).before a0 Z = true)
    (eT : T.heap = h) {a : Addr} {v v' old : Value} (F : Fld Z h a O n d old) (E : Exa Z h a C) (L : (Jvm.Cond.lays C O n d).before a0 Z = true ∨ ((Jvm.Cond.laysFinal C O n d).before a0 Z = true ∧ own = O ∧ meth.name = "<init>")) (wi : (Jvm.Cond.instantiable C kk).before a0 Z = true) (ga : n0 ≤ a)
    (hty : parseFieldDescriptor d = some ty) (hn : narrow ty v = v') (hf : fits ty v' = true) {pc : Nat} {Ls : Array Slot} {rest : List Value} (hd : decode c.code pc = .ok (.putfield index, 3)) :
    ∃ T' h' L', Stand p l e R s m args below meth c T' L' cells slots ∧ Fr n0 L' ∧ T'.heap = h' ∧ Wr h h' a (Jvm.RoadKit.slotOf Z O n d) v' ∧ Fld Z h' a O n d v' ∧
      ∀ target, Steps p.tables e below (T'.setTop (mkF m (pc + 3) Ls rest)) target → Steps p.tables e below (T.setTop (mkF m pc Ls (v :: .ref a :: rest))) target := by
  obtain ⟨T', h', X', e', W, st⟩ := putFN X hx hZ hown w Via.refl eT F E L wi hty hn hf (g := mkF m pc Ls (v :: .ref a :: rest)) rfl rfl hd
  exact ⟨T', h', _, X', Fr.snoc X' N ga, e', W, F.same W, st⟩
theorem own_newO (X : Stand p l e R s m args below meth c T locs cells slots) (hx : p.tables.exec = Jvm.exec) (hZ : Z.Warmed39 s.vm) {own C : String} {index n : Nat} (hown : s.vm.findClass own = some m.cls) (w : (Jvm.Cond.classLink own index C).before a0 Z = true) (wi : (Jvm.Cond.instantiable C n).before a0 Z = true) (wz : (Jvm.Cond.initialized C).before a0 Z = true) (eT : T.heap = h)
    {pc : Nat} {Ls : Array Slot} {rest : List Value} (hd : decode c.code pc = .ok (.new index, 3)) (hc : cells + 1 ≤ R.cells) (hl : slots + n ≤ R.slots) :
    ∃ T' h' a, Stand p l e R s m args below meth c T' locs (cells + 1) (slots + n) ∧ T'.heap = h' ∧ Ext h h' ∧ a = h.size ∧ Exa Z h' a C ∧ (∀ {O nm d : String} {ty : FieldType}, Laid Z a0 C O nm d → parseFieldDescriptor d = some ty → Fld Z h' a O nm d (defaultValue ty)) ∧
      ∀ target, Steps p.tables e below (T'.setTop (mkF m (pc + 3) Ls (.ref a :: rest))) target → Steps p.tables e below (T.setTop (mkF m pc Ls rest)) target := by
  obtain ⟨T', h', X', e', E, A, D, -, st⟩ := newO X hx hZ hown w wi wz eT (g := mkF m pc Ls rest) rfl hd hc hl
  exact ⟨T', h', h.size, X', e', E, rfl, A, D, st⟩
theorem own_callSW {own : String} {index : Nat} {y : MethodName} {bytes : ByteArray} {maxL W : Nat} {ret : Option FieldType} {rm : Room} {as : Array Value} {q : Option Value → Heap → Prop}
    (X : Stand p l e R s m args below meth c T locs cells slots) (N : Fr n0 locs) (hx : p.tables.exec = Jvm.exec) (hZ : Z.Warmed39 s.vm) (hown : s.vm.findClass own = some m.cls)
    (w1 : (Jvm.Cond.methodLink own index y).before a0 Z = true) (w2 : (Jvm.Cond.static y).before a0 Z = true) (w3 : (Jvm.Cond.initialized y.cls).before a0 Z = true) (w4 : (Jvm.Cond.code y bytes maxL ret).before a0 Z = true)
    (hy : y.cls ≠ "java/lang/invoke/MethodHandle" ∧ y.cls ≠ "java/lang/invoke/VarHandle") (hM : own_C l Z y bytes maxL ret [] rm as h (own_W n0 q))
    (hf : rm.frames + 1 ≤ R.frames) (hl : W + (maxL + 11) + rm.locals ≤ R.locals) (hcc : cells + rm.cells ≤ R.cells) (hss : slots + rm.slots ≤ R.slots) (e0 : T.heap = h)
    {pc : Nat} {Ls : Array Slot} {st argsL rest : List Value} (hsize : Ls.size = c.maxLocals) (hlen : ∀ sig, parseMethodDescriptor y.desc = some sig → argsL.length = sig.parameters.length) (has : argsL.toArray = as)
    (hst : st = argsL.reverse ++ rest) (hW : 2 * 0 + (rest.map fun v => v.category).sum ≤ W) (hd : decode c.code pc = .ok (.invokestatic index, 3)) :
    ∃ (v : Option Value) (T' : State) (h' : Heap) (L' : List Loc), Stand p l e R s m args below meth c T' L' (cells + rm.cells) (slots + rm.slots) ∧ Fr n0 L' ∧ T'.heap = h' ∧ q v h' ∧
      ∀ target, Steps p.tables e below (T'.setTop (mkF m (pc + 3) Ls (v.toList ++ rest))) target → Steps p.tables e below (T.setTop (mkF m pc Ls st)) target := by
  obtain ⟨v, T', L, X', ⟨N', hq⟩, stp⟩ := own_callS X hx hZ hown w1 w2 w3 w4 hy hM hf hl hcc hss e0 hsize hlen has hst hW hd
  exact ⟨v, T', _, _, X', N.app N', rfl, hq, stp⟩
theorem own_callI {own : String} {index : Nat} {y : MethodName} {bytes : ByteArray} {maxL W : Nat} {rm : Room} {as : Array Value} {q : Option Value → Heap → Prop} {a : Addr}
    (X : Stand p l e R s m args below meth c T locs cells slots) (N : Fr n0 locs) (hx : p.tables.exec = Jvm.exec) (hZ : Z.Warmed39 s.vm) (hy1 : y.name = "<init>") (hown : s.vm.findClass own = some m.cls)
    (w1 : (Jvm.Cond.methodLink own index y).before a0 Z = true) (w2 : (Jvm.Cond.instanceMethod y).before a0 Z = true) (w3 : (Jvm.Cond.initialized y.cls).before a0 Z = true) (w4 : (Jvm.Cond.code y bytes maxL none).before a0 Z = true)
    (hy : y.cls ≠ "java/lang/invoke/MethodHandle" ∧ y.cls ≠ "java/lang/invoke/VarHandle") (hM : own_C l Z y bytes maxL none [] rm as h (own_W n0 q))
    (hf : rm.frames + 1 ≤ R.frames) (hl : W + (maxL + 11) + rm.locals ≤ R.locals) (hcc : cells + rm.cells ≤ R.cells) (hss : slots + rm.slots ≤ R.slots) (e0 : T.heap = h)
    {pc : Nat} {Ls : Array Slot} {st argsL rest : List Value} (hsize : Ls.size = c.maxLocals) (hlen : ∀ sig, parseMethodDescriptor y.desc = some sig → argsL.length = sig.parameters.length) (has : (Value.ref a :: argsL).toArray = as)
    (hst : st = argsL.reverse ++ .ref a :: rest) (hW : 2 * 0 + (rest.map fun v => v.category).sum ≤ W) (hd : decode c.code pc = .ok (.invokespecial index, 3)) :
    ∃ (v : Option Value) (T' : State) (h' : Heap) (L' : List Loc), Stand p l e R s m args below meth c T' L' (cells + rm.cells) (slots + rm.slots) ∧ Fr n0 L' ∧ T'.heap = h' ∧ q v h' ∧
      ∀ target, Steps p.tables e below (T'.setTop (mkF m (pc + 3) Ls (v.toList ++ rest))) target → Steps p.tables e below (T.setTop (mkF m pc Ls st)) target := by
  obtain ⟨v, _, ⟨T', L', k', n'⟩, -, X', ⟨Lc, ⟨N', hq⟩, h1, h2, h3⟩, stp⟩ := X.specialBack hx (y := y) hy1 hown (mvT hZ w1) (mvT hZ w2) (mvT hZ w4) hy
    (backOf (W := W) hM hZ w4 w3 hf hl) (g := mkF m pc Ls st) rfl hsize (Steps.refl _) (a := a) (argsL := argsL) (rest := rest) hlen hst hW hd (fun _ _ => ⟨has, e0, hcc, hss⟩)
  dsimp only [Pt.U, Pt.locs, Pt.cells, Pt.slots] at X' h1 h2 h3 stp hq
  subst h1 h2 h3
  exact ⟨v, T', _, _, X', N.app N', rfl, hq, fun t k => stp.trans k⟩
theorem own_callV {own C : String} {index : Nat} {y z : MethodName} {bytes : ByteArray} {maxL W : Nat} {ret : Option FieldType} {rm : Room} {as : Array Value} {q : Option Value → Heap → Prop} {a : Addr}
    (X : Stand p l e R s m args below meth c T locs cells slots) (N : Fr n0 locs) (hx : p.tables.exec = Jvm.exec) (hZ : Z.Warmed39 s.vm) (hown : s.vm.findClass own = some m.cls)
    (w1 : (Jvm.Cond.methodLink own index y).before a0 Z = true) (w2 : (Jvm.Cond.declares y).before a0 Z = true) (hnf : NotFace s y) (ws : (Jvm.Cond.selects C y z).before a0 Z = true) (wi : (Jvm.Cond.instanceMethod z).before a0 Z = true) (w3 : (Jvm.Cond.initialized z.cls).before a0 Z = true) (w4 : (Jvm.Cond.code z bytes maxL ret).before a0 Z = true)
    (hy : y.cls ≠ "java/lang/invoke/MethodHandle" ∧ y.cls ≠ "java/lang/invoke/VarHandle") (hM : own_C l Z z bytes maxL ret [] rm as h (own_W n0 q))
    (hf : rm.frames + 1 ≤ R.frames) (hl : W + (maxL + 11) + rm.locals ≤ R.locals) (hcc : cells + rm.cells ≤ R.cells) (hss : slots + rm.slots ≤ R.slots) (e0 : T.heap = h) (E : Exa Z h a C)
    {pc : Nat} {Ls : Array Slot} {st argsL rest : List Value} (hsize : Ls.size = c.maxLocals) (hlen : ∀ sig, parseMethodDescriptor y.desc = some sig → argsL.length = sig.parameters.length) (has : (Value.ref a :: argsL).toArray = as)
    (hst : st = argsL.reverse ++ .ref a :: rest) (hW : 2 * 0 + (rest.map fun v => v.category).sum ≤ W) (hd : decode c.code pc = .ok (.invokevirtual index, 3)) :
    ∃ (v : Option Value) (T' : State) (h' : Heap) (L' : List Loc), Stand p l e R s m args below meth c T' L' (cells + rm.cells) (slots + rm.slots) ∧ Fr n0 L' ∧ T'.heap = h' ∧ q v h' ∧
      ∀ target, Steps p.tables e below (T'.setTop (mkF m (pc + 3) Ls (v.toList ++ rest))) target → Steps p.tables e below (T.setTop (mkF m pc Ls st)) target := by
  obtain ⟨cq, kq, qa, qb, qc⟩ := isOf hZ e0 E
  obtain ⟨v, _, ⟨T', L', k', n'⟩, -, X', ⟨Lc, ⟨N', hq⟩, h1, h2, h3⟩, stp⟩ := X.virtualBack hx (y := y) (z := z) hown (mvT hZ w1) (mvT hZ w2) hnf (mvT hZ ws) (mvT hZ wi) hy
    (backOf (W := W) hM hZ w4 w3 hf hl) qa qc (g := mkF m pc Ls st) rfl hsize (Steps.refl _) (argsL := argsL) (rest := rest) hlen hst hW hd (fun _ _ => ⟨has, e0, hcc, hss⟩)
  dsimp only [Pt.U, Pt.locs, Pt.cells, Pt.slots] at X' h1 h2 h3 stp hq
  subst h1 h2 h3
  exact ⟨v, T', _, _, X', N.app N', rfl, hq, fun t k => stp.trans k⟩
theorem own_callVP {own C : String} {index : Nat} {y z : MethodName} {bytes : ByteArray} {maxL W : Nat} {ret : Option FieldType} {rm : Room} {as : Array Value} {w : Value} {a : Addr}
    (X : Stand p l e R s m args below meth c T locs cells slots) (hx : p.tables.exec = Jvm.exec) (hZ : Z.Warmed39 s.vm) (hown : s.vm.findClass own = some m.cls)
    (w1 : (Jvm.Cond.methodLink own index y).before a0 Z = true) (w2 : (Jvm.Cond.declares y).before a0 Z = true) (hnf : NotFace s y) (ws : (Jvm.Cond.selects C y z).before a0 Z = true) (wi : (Jvm.Cond.instanceMethod z).before a0 Z = true) (w3 : (Jvm.Cond.initialized z.cls).before a0 Z = true) (w4 : (Jvm.Cond.code z bytes maxL ret).before a0 Z = true)
    (hy : y.cls ≠ "java/lang/invoke/MethodHandle" ∧ y.cls ≠ "java/lang/invoke/VarHandle") (hM : own_C l Z z bytes maxL ret [] rm as h (own_Q w h))
    (hf : rm.frames + 1 ≤ R.frames) (hl : W + (maxL + 11) + rm.locals ≤ R.locals) (hrc : rm.cells = 0) (hrs : rm.slots = 0) (hcc : cells + rm.cells ≤ R.cells) (hss : slots + rm.slots ≤ R.slots) (e0 : T.heap = h) (E : Exa Z h a C)
    {pc : Nat} {Ls : Array Slot} {st argsL rest : List Value} (hsize : Ls.size = c.maxLocals) (hlen : ∀ sig, parseMethodDescriptor y.desc = some sig → argsL.length = sig.parameters.length) (has : (Value.ref a :: argsL).toArray = as)
    (hst : st = argsL.reverse ++ .ref a :: rest) (hW : 2 * 0 + (rest.map fun v => v.category).sum ≤ W) (hd : decode c.code pc = .ok (.invokevirtual index, 3)) :
    ∃ (T' : State), Stand p l e R s m args below meth c T' locs cells slots ∧ T'.heap = h ∧
      ∀ target, Steps p.tables e below (T'.setTop (mkF m (pc + 3) Ls (w :: rest))) target → Steps p.tables e below (T.setTop (mkF m pc Ls st)) target := by
  obtain ⟨cq, kq, qa, qb, qc⟩ := isOf hZ e0 E
  obtain ⟨v, _, ⟨T', L', k', n'⟩, -, X', ⟨Lc, ⟨rfl, rfl, hh⟩, h1, h2, h3⟩, stp⟩ := X.virtualBack hx (y := y) (z := z) hown (mvT hZ w1) (mvT hZ w2) hnf (mvT hZ ws) (mvT hZ wi) hy
    (backOf (W := W) hM hZ w4 w3 hf hl) qa qc (g := mkF m pc Ls st) rfl hsize (Steps.refl _) (argsL := argsL) (rest := rest) hlen hst hW hd (fun _ _ => ⟨has, e0, hcc, hss⟩)
  dsimp only [Pt.U, Pt.locs, Pt.cells, Pt.slots] at X' h1 h2 h3 stp hh
  subst h1 h2 h3
  rw [List.append_nil, hrc, hrs] at X'
  exact ⟨T', X', hh, fun t k => stp.trans k⟩
theorem own_ke {h h' : Heap} (K : Keep h h' []) : Ext h h' := ⟨K.1, fun a c q => K.2.1 a c q (by simp)⟩
end OwnHeap
abbrev own_H {p : Program} {e : Env} {below : List Frame} {P : Outcome → State → Prop} {m : MethodId} (T : State) (pc : Nat) (Ls : Array Slot) (st : List Value) : Prop := own_G p e below P (T.setTop (mkF m pc Ls st))
section OwnThird
variable {p : Program} {l : Launch} {e : Env} {R : Room} {s : State} {m : MethodId} {args : Array Value} {below : List Frame} {meth : Method} {c : Code} {T : State} {locs : List Loc} {cells slots : Nat} {Z : State} {a0 : Array Value} {h0 h : Heap} {n0 : Nat}
theorem own_u {a0 : Array Value} {Z : State} (hw : ∀ d ∈ tables_1, d.before a0 Z = true) {d : Jvm.Cond} (i : Nat) (h : tables_1[i]? = some d) : d.before a0 Z = true := hw _ (List.mem_of_getElem? h)
def own_set (L : List Int32) (j x : Int32) : List Int32 := L.set j.toNatClampNeg x
def own_get (L : List Int32) (j : Int32) : Int32 := L.getD j.toNatClampNeg 0
def own_take (L : List Int32) (n : Nat) : List Int32 := (List.range n).map fun i => L.getD i 0
def own_in (L : List Int32) (j z : Int32) : Prop := (¬ j < 0 ∧ j < z) ∧ j.toNatClampNeg < L.length
instance (L : List Int32) (j z : Int32) : Decidable (own_in L j z) := by unfold own_in; infer_instance
theorem own_getD (L : List Int32) (i : Nat) : (L.map Value.int).getD i (.int 0) = .int (L.getD i 0) := by
  simp only [List.getD_eq_getElem?_getD, List.getElem?_map]
  cases L[i]? <;> rfl
theorem own_nfw {W k : Nat} (h : W + 40 ≤ k) : W + (nativeFrameWords "java/lang/System" "arraycopy" 5 + 11) ≤ k := by
  have : nativeFrameWords "java/lang/System" "arraycopy" 5 + 11 ≤ 40 := by decide
  omega
theorem own_selP {y : MethodName} {k : Nat} (wi : (Jvm.Cond.instantiable y.cls k).before a0 Z = true) (wp : (Jvm.Cond.privateMethod y).before a0 Z = true) (wm : (Jvm.Cond.instanceMethod y).before a0 Z = true) (hy : y.cls ≠ "java/lang/invoke/MethodHandle" ∧ y.cls ≠ "java/lang/invoke/VarHandle") : (Jvm.Cond.selects y.cls y y).before a0 Z = true := by
  obtain ⟨c, k, h1, h2, -, h3, -⟩ := Cond.instantiable_spec wi
  exact selects_self_of_private h1 h2 (by rw [Bool.or_eq_false_iff] at h3; exact h3.1) (Cond.privateMethod_at wp) wm hy
theorem own_callR {own C : String} {index : Nat} {y : MethodName} {bytes : ByteArray} {maxL W : Nat} {ret : Option FieldType} {rm : Room} {as : Array Value} {q : Option Value → Heap → Prop} {a : Addr}
    (X : Stand p l e R s m args below meth c T locs cells slots) (N : Fr n0 locs) (hx : p.tables.exec = Jvm.exec) (hZ : Z.Warmed39 s.vm) (hown : s.vm.findClass own = some m.cls)
    (w1 : (Jvm.Cond.methodLink own index y).before a0 Z = true) (wi : (Jvm.Cond.instanceMethod y).before a0 Z = true) (ws : (Jvm.Cond.selects y.cls y y).before a0 Z = true) (wp : (Jvm.Cond.privateMethod y).before a0 Z = true) (w3 : (Jvm.Cond.initialized y.cls).before a0 Z = true) (w4 : (Jvm.Cond.code y bytes maxL ret).before a0 Z = true)
    (hy : y.cls ≠ "java/lang/invoke/MethodHandle" ∧ y.cls ≠ "java/lang/invoke/VarHandle") (hM : own_C l Z y bytes maxL ret [] rm as h (own_W n0 q))
    (hf : rm.frames + 1 ≤ R.frames) (hl : W + (maxL + 11) + rm.locals ≤ R.locals) (hcc : cells + rm.cells ≤ R.cells) (hss : slots + rm.slots ≤ R.slots) (e0 : T.heap = h) (E : Exa Z h a C)
    {pc : Nat} {Ls : Array Slot} {st argsL rest : List Value} (hsize : Ls.size = c.maxLocals) (hlen : ∀ sig, parseMethodDescriptor y.desc = some sig → argsL.length = sig.parameters.length) (has : (Value.ref a :: argsL).toArray = as)
    (hst : st = argsL.reverse ++ .ref a :: rest) (hW : 2 * 0 + (rest.map fun v => v.category).sum ≤ W) (hd : decode c.code pc = .ok (.invokevirtual index, 3)) :
    ∃ (v : Option Value) (T' : State) (h' : Heap) (L' : List Loc), Stand p l e R s m args below meth c T' L' (cells + rm.cells) (slots + rm.slots) ∧ Fr n0 L' ∧ T'.heap = h' ∧ q v h' ∧
      ∀ target, Steps p.tables e below (T'.setTop (mkF m (pc + 3) Ls (v.toList ++ rest))) target → Steps p.tables e below (T.setTop (mkF m pc Ls st)) target := by
  obtain ⟨qcell, qk, qa, -, -, qd, -⟩ := E
  have qa' : T.heap[a]? = some qcell := by rw [e0]; exact qa
  have qb : ∀ q, qcell.vm ≠ .statics q := fun q r => by rw [r] at qd; cases qd
  obtain ⟨v, _, ⟨T', L', k', n'⟩, -, X', ⟨Lc, ⟨N', hq⟩, h1, h2, h3⟩, stp⟩ := X.privateBack hx (y := y) hown (mvT hZ w1) (mvT hZ wi) (mvT hZ ws) (Cond.privateMethod_at (args := args) (mvT hZ wp)) (mvT hZ w4) hy
    (backOf (W := W) hM hZ w4 w3 hf hl) (g := mkF m pc Ls st) rfl hsize (Steps.refl _) qa' qb (argsL := argsL) (rest := rest) hlen hst hW hd (fun _ _ => ⟨has, e0, hcc, hss⟩)
  dsimp only [Pt.U, Pt.locs, Pt.cells, Pt.slots] at X' h1 h2 h3 stp hq
  subst h1 h2 h3
  exact ⟨v, T', _, _, X', N.app N', rfl, hq, fun t k => stp.trans k⟩
theorem own_staK {C n d : String} {w : Value} {h' : Heap} {ws : List Addr} (F : Sta Z h C n d w) (K : Keep h h' ws) (q : ∀ x ∈ ws, ∀ cell : Cell, h[x]? = some cell → cell.vm.isStatics = false) : Sta Z h' C n d w := by
  obtain ⟨cf, i, k, f, st, cell, h1, h2, h3, h4, h5, h6, h7⟩ := F
  exact ⟨cf, i, k, f, st, cell, h1, h2, h3, h4, K.2.1 st cell h5 (fun hm => by have r := q st hm cell h5; rw [h6] at r; cases r), h6, h7⟩
end OwnThird
section OwnWide
variable {p : Program} {l : Launch} {e : Env} {R : Room} {s s0 : State} {m : MethodId} {args : Array Value} {below : List Frame} {meth : Method} {c : Code} {T : State} {locs : List Loc} {cells slots : Nat} {Z : State} {a0 : Array Value} {h0 h : Heap} {n0 k0 : Nat}
def own_S (s0 s : State) (n : Nat) : Prop := ∃ vm, s = s0.setVm vm ∧ s0.Since vm n
theorem own_S0 (s : State) : own_S s s 0 := ⟨s.vm, rfl, State.WarmedH.since (State.WarmedH.refl s) 0⟩
end OwnWide
section OwnHeldC
variable {p : Program} {l : Launch} {e : Env} {R : Room} {s s0 : State} {m : MethodId} {args : Array Value} {below : List Frame} {meth : Method} {c : Code} {T : State} {locs : List Loc} {cells slots : Nat} {Z : State} {a0 : Array Value} {h0 h : Heap} {n0 k0 : Nat} {EL : List (String × Nat)}
def own_PH (Z : State) (EL : List (String × Nat)) (s : State) (Q : Option Value → Heap → List Loc → Prop) (k n : Nat) : Outcome → State → Prop := fun o u => ∃ v L, o = .returned v ∧ Q v u.heap L ∧ CHr Z EL s.vm s.heap u.vm u.heap ∧ ReturnedEndW s o u L k n
def own_CH (l : Launch) (Z : State) (EL : List (String × Nat)) (y : MethodName) (bytes : ByteArray) (maxL : Nat) (ret : Option FieldType) (ws : List Jvm.Cond) (rm : Room) (as : Array Value) (h0 : Heap) (Q : Option Value → Heap → List Loc → Prop) : Prop :=
  MetFree l y (head1 (Jvm.Cond.code y bytes maxL ret :: ws) rm) (fun a U => a = as ∧ Z.Warmed39 U.vm ∧ U.heap = h0 ∧ CHv Z EL U.vm h0) (fun _ _ _ _ _ => True) (fun _ U o U' => ∃ v L, o = .returned v ∧ Q v U'.heap L ∧ CHr Z EL U.vm U.heap U'.vm U'.heap ∧ ReturnedEndW U o U' L rm.cells rm.slots)
theorem own_held {Q : Option Value → Heap → List Loc → Prop} {k n : Nat} {st : State} (S : own_S s0 s k0) (hh : s0.heap = h0) (hZ : Z.Warmed39 s.vm) (hEL : EW Z a0 EL)
    (H : own_G p e below (own_P s (fun v h L => Q v h L ∧ k0 ≤ h.size ∧ CHr Z EL s0.vm h0 s.vm h) k n) st) : own_G p e below (own_PH Z EL s0 Q k n) st := by
  obtain ⟨vm, rfl, hS⟩ := S
  obtain ⟨u, o, h1, h2, h3, v, L, ho, ⟨hQ, hk, hC⟩, hr, hW, hs⟩ := H
  obtain ⟨a, b, c'⟩ := hS.ended (U := u) hW hk hs
  have q := CHv.later (h' := u.heap) hZ (hW := (show (Wst Z vm u.heap).Warmed39 u.vm from hW.wide)) hEL ⟨Nat.le_refl _, fun _ _ q => q⟩ (Or.inl hW.interned_eq) hC.1
  subst hh
  exact ⟨u, o, h1, h2, h3, v, L, ho, hQ, CHr.trans hC ⟨q.1, Nat.le_refl _, q.2⟩, hr, a, b, c'⟩
theorem own_ldcH (S : own_S s0 s k0) (hk : k0 ≤ h.size) (CR : CHr Z EL s0.vm h0 s.vm h) (hEL : EW Z a0 EL) (X : Stand p l e R s m args below meth c T locs cells slots) (hx : p.tables.exec = Jvm.exec) (hZ : Z.Warmed39 s.vm) {own text : String} {index : Nat} (hmem : (own, index) ∈ EL) (hown : s.vm.findClass own = some m.cls)
    (w : (Jvm.Cond.stringLink own index text).before a0 Z = true) (wS : ∀ a ∈ Bundle.stringAtoms, a.before a0 Z = true) (eT : T.heap = h) {vs : List Value} {z : Int32} (ht : (∀ c ∈ text.toList, c.toNat < 256) ∧ text.toList.map (fun c => Value.int (Jvm.Lit.byteI c.toNat.toUInt16)) = vs) (hz : ¬ z < 0) (hzl : z.toNatClampNeg = vs.length)
    {pc : Nat} {Ls : Array Slot} {rest : List Value} (hd : decode c.code pc = .ok (.ldc index, 2)) {n : Nat} (hn : 4 * text.toList.length ≤ n) (hbig : n ≤ 536870912) (hc : cells + 2 ≤ R.cells) (hl : slots + (n + 4) ≤ R.slots) :
    ∃ (a : Addr) (T' : State) (h' : Heap) (s' : State) (k1 : Nat) (b : Addr) (k : ClassId), Stand p l e R s' m args below meth c T' locs (cells + 2) (slots + (n + 4)) ∧ T'.heap = h' ∧ Ext h h' ∧ own_S s0 s' k1 ∧ k1 ≤ h'.size ∧ Z.Warmed39 s'.vm ∧ s'.vm.findClass own = some m.cls ∧
      Exa Z h' a "java/lang/String" ∧ Fld Z h' a "java/lang/String" "coder" "B" (.int 0) ∧ Fld Z h' a "java/lang/String" "value" "[B" (.ref b) ∧ Arv Z h' b k .byte z vs (.int 0) ∧ CHr Z EL s0.vm h0 s'.vm h' ∧ (∀ x, Safe Z EL s'.vm h' x → x ≠ a ∧ x ≠ b) ∧
      ∀ target, Steps p.tables e below (T'.setTop (mkF m (pc + 2) Ls (.ref a :: rest))) target → Steps p.tables e below (T.setTop (mkF m pc Ls rest)) target := by
  obtain ⟨vm, rfl, hS⟩ := S
  obtain ⟨a, T', h', k1, b, k, X', e', E, hS', hk', hZ', hown', r1, r2, r3, r4, -, -, hC, -, hne, st⟩ := ldcCH X hx hZ hown w wS eT hS hk hEL hmem CR.1 ht hz hzl (g := mkF m pc Ls rest) rfl hd hn hbig hc hl
  exact ⟨a, T', h', _, k1, b, k, X', e', E, ⟨_, rfl, hS'⟩, hk', hZ', hown', r1, r2, r3, r4, CR.trans hC, hne, st⟩
theorem own_safeN {x : Addr} {vm : Vm} (hal : Z.vm.Alike vm) (E : Exa Z h x "java/lang/String") (F : Fld Z h x "java/lang/String" "value" "[B" .null) : Safe Z EL vm h x := fun B => by
  obtain ⟨p, -, u, a, -, q, -, G, hx⟩ := B
  rcases hx with rfl | rfl
  · obtain ⟨cell, cf, kf, i, f, g1, g2, g3, -, -, -, g7⟩ := F
    have ha : h[q.sa]? = some q.sC := G.ha
    cases ha.symm.trans g1
    obtain ⟨cS, ⟨⟨-, -, -, ⟨c1, k1, i1, f1, -⟩, -, -, -, v1, -⟩, -⟩, -⟩ := G
    obtain ⟨k2, e2⟩ := ff_back (U := Wst Z vm h) hal f1
    have e3 := g2.symm.trans e2
    simp only [Option.some.injEq, Prod.mk.injEq] at e3
    rw [← e3.2.2.2] at v1
    rw [v1] at g7
    cases g7
  · obtain ⟨cell, k, e1, e2, e3, -, -⟩ := E
    have hd : h[q.sd]? = some q.SA := G.hd
    cases hd.symm.trans e1
    obtain ⟨cS, -, -, f, -⟩ := G
    have f' : vm.findClass "[B" = some q.SA.cls := f
    rw [hal.findClass] at f'
    obtain ⟨k1, q1, q2⟩ := Vm.findClass_spec f'
    obtain ⟨k2, q3, q4⟩ := Vm.findClass_spec e2
    cases q1.symm.trans q3
    have := q2.symm.trans q4
    exact absurd this (by decide)
theorem own_safeA {x : Addr} {vm : Vm} (hal : Z.vm.Alike vm) {k : ClassId} {ty : FieldType} {z : Int32} {vs : List Value} {d : Value} (V : Arv Z h x k ty z vs d) (ht : ty ≠ .byte) : Safe Z EL vm h x := by
  obtain ⟨cl, Ar, -⟩ := V
  exact Safe.arr hal Ar ht
theorem own_safeZ {x : Addr} {vm : Vm} (hW : Z.Warmed39 vm) {own : String} {index : Nat} (w : (Jvm.Cond.stringLink own index "").before a0 Z = true) {k : ClassId} {z : Int32} {vs : List Value} {d : Value} (V : Arv Z h x k .byte z vs d) (hz : z.toNatClampNeg ≠ 0) : Safe Z [(own, index)] vm h x := fun B => by
  obtain ⟨cl, Ar, q0, S, -⟩ := V
  obtain ⟨p, hp, u, a, hB, q, hq, G, hx⟩ := B
  obtain rfl : p = (own, index) := by simpa using hp
  have hal := hW.alike
  rcases hx with rfl | rfl
  · obtain ⟨A1, ⟨-, kA, hkA, compA, hkindA⟩, -⟩ := Ar
    obtain ⟨kA', hkA', ekA⟩ := hal.2.2 _ _ hkA
    have ha : h[q.sa]? = some q.sC := G.ha
    cases ha.symm.trans A1
    obtain ⟨cS, ⟨-, -, e⟩, ⟨kS, g1, g2, -⟩, -⟩ := G
    subst e
    cases (show vm.classes[q.sC.cls]? = some kS from g1).symm.trans hkA'
    rw [ekA] at g2
    have := hkindA.symm.trans g2
    cases this
  · have hd : h[q.sd]? = some q.SA := G.hd
    cases hd.symm.trans Ar.1
    obtain ⟨cS, -, -, -, hb⟩ := G
    obtain ⟨c, kk, cf, i, hf, hkx, hcf, hp1, hp2, -⟩ := hB
    have w2 : (Jvm.Cond.stringLink own index "").before a0 (Wst Z vm h) = true := mvS (s := { Z with heap := h }) hW w
    obtain ⟨k0', cf', i', units, hkx', hcf', hp', hu, -, htext, -⟩ := Cond.stringLink_spec (s := Wst Z vm h) hf w2
    cases (show vm.classes[c]? = some k0' from hkx').symm.trans hkx
    cases hcf.symm.trans hcf'
    cases hp1.symm.trans hp'
    cases hp2.symm.trans hu
    have hl := Jvm.ClassFile.units_of_text htext (by intro c hc; cases hc)
    have h0 : u = #[] := by
      cases u with | mk l => simpa using hl
    subst h0
    rw [hb] at S
    rw [Jvm.Free.SBG.stringBytes_lat (by simp)] at S
    exact hz (S.symm.trans (by simp))
section
variable {own C : String} {index : Nat} {y z : MethodName} {bytes : ByteArray} {maxL W : Nat} {ret : Option FieldType} {rm : Room} {as : Array Value} {q : Option Value → Heap → Prop} {a : Addr}
theorem own_callSH (S : own_S s0 s k0) (hk : k0 ≤ h.size) (CR : CHr Z EL s0.vm h0 s.vm h) (hEL : EW Z a0 EL)
    (X : Stand p l e R s m args below meth c T locs cells slots) (N : Fr n0 locs) (hx : p.tables.exec = Jvm.exec) (hZ : Z.Warmed39 s.vm) (hown : s.vm.findClass own = some m.cls)
    (w1 : (Jvm.Cond.methodLink own index y).before a0 Z = true) (w2 : (Jvm.Cond.static y).before a0 Z = true) (w3 : (Jvm.Cond.initialized y.cls).before a0 Z = true) (w4 : (Jvm.Cond.code y bytes maxL ret).before a0 Z = true)
    (hy : y.cls ≠ "java/lang/invoke/MethodHandle" ∧ y.cls ≠ "java/lang/invoke/VarHandle") (hM : own_CH l Z EL y bytes maxL ret [] rm as h (own_W n0 q))
    (hf : rm.frames + 1 ≤ R.frames) (hl : W + (maxL + 11) + rm.locals ≤ R.locals) (hcc : cells + rm.cells ≤ R.cells) (hss : slots + rm.slots ≤ R.slots) (e0 : T.heap = h)
    {pc : Nat} {Ls : Array Slot} {st argsL rest : List Value} (hsize : Ls.size = c.maxLocals) (hlen : ∀ sig, parseMethodDescriptor y.desc = some sig → argsL.length = sig.parameters.length) (has : argsL.toArray = as)
    (hst : st = argsL.reverse ++ rest) (hW : 2 * 0 + (rest.map fun v => v.category).sum ≤ W) (hd : decode c.code pc = .ok (.invokestatic index, 3)) :
    ∃ (v : Option Value) (T' : State) (h' : Heap) (L' : List Loc) (s' : State) (k1 : Nat), Stand p l e R s' m args below meth c T' L' (cells + rm.cells) (slots + rm.slots) ∧ Fr n0 L' ∧ T'.heap = h' ∧ q v h' ∧ own_S s0 s' k1 ∧ k1 ≤ h'.size ∧ CHr Z EL s0.vm h0 s'.vm h' ∧ Z.Warmed39 s'.vm ∧ s'.vm.findClass own = some m.cls ∧
      ∀ target, Steps p.tables e below (T'.setTop (mkF m (pc + 3) Ls (v.toList ++ rest))) target → Steps p.tables e below (T.setTop (mkF m pc Ls st)) target := by
  obtain ⟨vm, rfl, hS⟩ := S
  obtain ⟨v, _, ⟨T', L', k', n'⟩, -, X', hS', hgr, ⟨Lc, ⟨N', hq⟩, h1, h2, h3, hC⟩, stp⟩ := callSS X hx (y := y) hown (mvT hZ w1) (mvT hZ w2) (mvT hZ w3) (mvT hZ w4) hy
    (backOfSH (s := s0) (W := W) hM hZ w4 w3 hf hl hEL CR.1) (g := mkF m pc Ls st) rfl hsize (argsL := argsL) (rest := rest) hlen hst hW hd (fun _ _ => ⟨has, e0, hcc, hss⟩)
  dsimp only [Pt.U, Pt.locs, Pt.cells, Pt.slots] at X' h1 h2 h3 stp hq hS' hgr hC
  subst h1 h2 h3
  exact ⟨v, T', _, _, _, _, X', N.app N', rfl, hq, ⟨_, rfl, hS.trans hS' (Nat.le_trans hk (e0 ▸ hgr))⟩, Nat.le_refl _, CR.trans hC, State.Warmed39.trans (t := s0.setVm vm) hZ hS'.1, by show T'.vm.findClass own = _; rw [hS'.1.alike.findClass]; exact hown, fun t k => stp.trans k⟩
theorem own_callIH (S : own_S s0 s k0) (hk : k0 ≤ h.size) (CR : CHr Z EL s0.vm h0 s.vm h) (hEL : EW Z a0 EL)
    (X : Stand p l e R s m args below meth c T locs cells slots) (N : Fr n0 locs) (hx : p.tables.exec = Jvm.exec) (hZ : Z.Warmed39 s.vm) (hy1 : y.name = "<init>") (hown : s.vm.findClass own = some m.cls)
    (w1 : (Jvm.Cond.methodLink own index y).before a0 Z = true) (w2 : (Jvm.Cond.instanceMethod y).before a0 Z = true) (w3 : (Jvm.Cond.initialized y.cls).before a0 Z = true) (w4 : (Jvm.Cond.code y bytes maxL none).before a0 Z = true)
    (hy : y.cls ≠ "java/lang/invoke/MethodHandle" ∧ y.cls ≠ "java/lang/invoke/VarHandle") (hM : own_CH l Z EL y bytes maxL none [] rm as h (own_W n0 q))
    (hf : rm.frames + 1 ≤ R.frames) (hl : W + (maxL + 11) + rm.locals ≤ R.locals) (hcc : cells + rm.cells ≤ R.cells) (hss : slots + rm.slots ≤ R.slots) (e0 : T.heap = h)
    {pc : Nat} {Ls : Array Slot} {st argsL rest : List Value} (hsize : Ls.size = c.maxLocals) (hlen : ∀ sig, parseMethodDescriptor y.desc = some sig → argsL.length = sig.parameters.length) (has : (Value.ref a :: argsL).toArray = as)
    (hst : st = argsL.reverse ++ .ref a :: rest) (hW : 2 * 0 + (rest.map fun v => v.category).sum ≤ W) (hd : decode c.code pc = .ok (.invokespecial index, 3)) :
    ∃ (v : Option Value) (T' : State) (h' : Heap) (L' : List Loc) (s' : State) (k1 : Nat), Stand p l e R s' m args below meth c T' L' (cells + rm.cells) (slots + rm.slots) ∧ Fr n0 L' ∧ T'.heap = h' ∧ q v h' ∧ own_S s0 s' k1 ∧ k1 ≤ h'.size ∧ CHr Z EL s0.vm h0 s'.vm h' ∧ Z.Warmed39 s'.vm ∧ s'.vm.findClass own = some m.cls ∧
      ∀ target, Steps p.tables e below (T'.setTop (mkF m (pc + 3) Ls (v.toList ++ rest))) target → Steps p.tables e below (T.setTop (mkF m pc Ls st)) target := by
  obtain ⟨vm, rfl, hS⟩ := S
  obtain ⟨v, _, ⟨T', L', k', n'⟩, -, X', hS', hgr, ⟨Lc, ⟨N', hq⟩, h1, h2, h3, hC⟩, stp⟩ := X.specialBackS hx (y := y) hy1 hown (mvT hZ w1) (mvT hZ w2) (mvT hZ w4) hy
    (backOfSH (s := s0) (W := W) hM hZ w4 w3 hf hl hEL CR.1) (g := mkF m pc Ls st) rfl hsize (Steps.refl _) (a := a) (argsL := argsL) (rest := rest) hlen hst hW hd (fun _ _ => ⟨has, e0, hcc, hss⟩)
  dsimp only [Pt.U, Pt.locs, Pt.cells, Pt.slots] at X' h1 h2 h3 stp hq hS' hgr hC
  subst h1 h2 h3
  exact ⟨v, T', _, _, _, _, X', N.app N', rfl, hq, ⟨_, rfl, hS.trans hS' (Nat.le_trans hk (e0 ▸ hgr))⟩, Nat.le_refl _, CR.trans hC, State.Warmed39.trans (t := s0.setVm vm) hZ hS'.1, by show T'.vm.findClass own = _; rw [hS'.1.alike.findClass]; exact hown, fun t k => stp.trans k⟩
theorem own_callVH (S : own_S s0 s k0) (hk : k0 ≤ h.size) (CR : CHr Z EL s0.vm h0 s.vm h) (hEL : EW Z a0 EL)
    (X : Stand p l e R s m args below meth c T locs cells slots) (N : Fr n0 locs) (hx : p.tables.exec = Jvm.exec) (hZ : Z.Warmed39 s.vm) (hown : s.vm.findClass own = some m.cls)
    (w1 : (Jvm.Cond.methodLink own index y).before a0 Z = true) (w2 : (Jvm.Cond.declares y).before a0 Z = true) (hnf : NotFace s y) (ws : (Jvm.Cond.selects C y z).before a0 Z = true) (wi : (Jvm.Cond.instanceMethod z).before a0 Z = true) (w3 : (Jvm.Cond.initialized z.cls).before a0 Z = true) (w4 : (Jvm.Cond.code z bytes maxL ret).before a0 Z = true)
    (hy : y.cls ≠ "java/lang/invoke/MethodHandle" ∧ y.cls ≠ "java/lang/invoke/VarHandle") (hM : own_CH l Z EL z bytes maxL ret [] rm as h (own_W n0 q))
    (hf : rm.frames + 1 ≤ R.frames) (hl : W + (maxL + 11) + rm.locals ≤ R.locals) (hcc : cells + rm.cells ≤ R.cells) (hss : slots + rm.slots ≤ R.slots) (e0 : T.heap = h) (E : Exa Z h a C)
    {pc : Nat} {Ls : Array Slot} {st argsL rest : List Value} (hsize : Ls.size = c.maxLocals) (hlen : ∀ sig, parseMethodDescriptor y.desc = some sig → argsL.length = sig.parameters.length) (has : (Value.ref a :: argsL).toArray = as)
    (hst : st = argsL.reverse ++ .ref a :: rest) (hW : 2 * 0 + (rest.map fun v => v.category).sum ≤ W) (hd : decode c.code pc = .ok (.invokevirtual index, 3)) :
    ∃ (v : Option Value) (T' : State) (h' : Heap) (L' : List Loc) (s' : State) (k1 : Nat), Stand p l e R s' m args below meth c T' L' (cells + rm.cells) (slots + rm.slots) ∧ Fr n0 L' ∧ T'.heap = h' ∧ q v h' ∧ own_S s0 s' k1 ∧ k1 ≤ h'.size ∧ CHr Z EL s0.vm h0 s'.vm h' ∧ Z.Warmed39 s'.vm ∧ s'.vm.findClass own = some m.cls ∧
      ∀ target, Steps p.tables e below (T'.setTop (mkF m (pc + 3) Ls (v.toList ++ rest))) target → Steps p.tables e below (T.setTop (mkF m pc Ls st)) target := by
  obtain ⟨cq, kq, qa, qb, qc⟩ := isOf hZ e0 E
  obtain ⟨vm, rfl, hS⟩ := S
  obtain ⟨v, _, ⟨T', L', k', n'⟩, -, X', hS', hgr, ⟨Lc, ⟨N', hq⟩, h1, h2, h3, hC⟩, stp⟩ := X.virtualBackS hx (y := y) (z := z) hown (mvT hZ w1) (mvT hZ w2) hnf (mvT hZ ws) (mvT hZ wi) hy
    (backOfSH (s := s0) (W := W) hM hZ w4 w3 hf hl hEL CR.1) qa qc (g := mkF m pc Ls st) rfl hsize (Steps.refl _) (argsL := argsL) (rest := rest) hlen hst hW hd (fun _ _ => ⟨has, e0, hcc, hss⟩)
  dsimp only [Pt.U, Pt.locs, Pt.cells, Pt.slots] at X' h1 h2 h3 stp hq hS' hgr hC
  subst h1 h2 h3
  exact ⟨v, T', _, _, _, _, X', N.app N', rfl, hq, ⟨_, rfl, hS.trans hS' (Nat.le_trans hk (e0 ▸ hgr))⟩, Nat.le_refl _, CR.trans hC, State.Warmed39.trans (t := s0.setVm vm) hZ hS'.1, by show T'.vm.findClass own = _; rw [hS'.1.alike.findClass]; exact hown, fun t k => stp.trans k⟩
theorem own_callRH (S : own_S s0 s k0) (hk : k0 ≤ h.size) (CR : CHr Z EL s0.vm h0 s.vm h) (hEL : EW Z a0 EL)
    (X : Stand p l e R s m args below meth c T locs cells slots) (N : Fr n0 locs) (hx : p.tables.exec = Jvm.exec) (hZ : Z.Warmed39 s.vm) (hown : s.vm.findClass own = some m.cls)
    (w1 : (Jvm.Cond.methodLink own index y).before a0 Z = true) (wi : (Jvm.Cond.instanceMethod y).before a0 Z = true) (ws : (Jvm.Cond.selects y.cls y y).before a0 Z = true) (wp : (Jvm.Cond.privateMethod y).before a0 Z = true) (w3 : (Jvm.Cond.initialized y.cls).before a0 Z = true) (w4 : (Jvm.Cond.code y bytes maxL ret).before a0 Z = true)
    (hy : y.cls ≠ "java/lang/invoke/MethodHandle" ∧ y.cls ≠ "java/lang/invoke/VarHandle") (hM : own_CH l Z EL y bytes maxL ret [] rm as h (own_W n0 q))
    (hf : rm.frames + 1 ≤ R.frames) (hl : W + (maxL + 11) + rm.locals ≤ R.locals) (hcc : cells + rm.cells ≤ R.cells) (hss : slots + rm.slots ≤ R.slots) (e0 : T.heap = h) (E : Exa Z h a C)
    {pc : Nat} {Ls : Array Slot} {st argsL rest : List Value} (hsize : Ls.size = c.maxLocals) (hlen : ∀ sig, parseMethodDescriptor y.desc = some sig → argsL.length = sig.parameters.length) (has : (Value.ref a :: argsL).toArray = as)
    (hst : st = argsL.reverse ++ .ref a :: rest) (hW : 2 * 0 + (rest.map fun v => v.category).sum ≤ W) (hd : decode c.code pc = .ok (.invokevirtual index, 3)) :
    ∃ (v : Option Value) (T' : State) (h' : Heap) (L' : List Loc) (s' : State) (k1 : Nat), Stand p l e R s' m args below meth c T' L' (cells + rm.cells) (slots + rm.slots) ∧ Fr n0 L' ∧ T'.heap = h' ∧ q v h' ∧ own_S s0 s' k1 ∧ k1 ≤ h'.size ∧ CHr Z EL s0.vm h0 s'.vm h' ∧ Z.Warmed39 s'.vm ∧ s'.vm.findClass own = some m.cls ∧
      ∀ target, Steps p.tables e below (T'.setTop (mkF m (pc + 3) Ls (v.toList ++ rest))) target → Steps p.tables e below (T.setTop (mkF m pc Ls st)) target := by
  obtain ⟨qcell, qk, qa, -, -, qd, -⟩ := E
  have qa' : T.heap[a]? = some qcell := by rw [e0]; exact qa
  have qb : ∀ q, qcell.vm ≠ .statics q := fun q r => by rw [r] at qd; cases qd
  obtain ⟨vm, rfl, hS⟩ := S
  obtain ⟨v, _, ⟨T', L', k', n'⟩, -, X', hS', hgr, ⟨Lc, ⟨N', hq⟩, h1, h2, h3, hC⟩, stp⟩ := X.privateBackS hx (y := y) hown (mvT hZ w1) (mvT hZ wi) (mvT hZ ws) (Cond.privateMethod_at (args := args) (mvT hZ wp)) (mvT hZ w4) hy
    (backOfSH (s := s0) (W := W) hM hZ w4 w3 hf hl hEL CR.1) (g := mkF m pc Ls st) rfl hsize (Steps.refl _) qa' qb (argsL := argsL) (rest := rest) hlen hst hW hd (fun _ _ => ⟨has, e0, hcc, hss⟩)
  dsimp only [Pt.U, Pt.locs, Pt.cells, Pt.slots] at X' h1 h2 h3 stp hq hS' hgr hC
  subst h1 h2 h3
  exact ⟨v, T', _, _, _, _, X', N.app N', rfl, hq, ⟨_, rfl, hS.trans hS' (Nat.le_trans hk (e0 ▸ hgr))⟩, Nat.le_refl _, CR.trans hC, State.Warmed39.trans (t := s0.setVm vm) hZ hS'.1, by show T'.vm.findClass own = _; rw [hS'.1.alike.findClass]; exact hown, fun t k => stp.trans k⟩
end
def own_QN (h0 : Heap) : Option Value → Heap → List Loc → Prop := fun v h L => v = none ∧ L = [] ∧ h = h0
theorem own_callPN {own : String} {index : Nat} {y : MethodName} {bytes : ByteArray} {maxL W : Nat} {ret : Option FieldType} {rm : Room} {as : Array Value}
    (X : Stand p l e R s m args below meth c T locs cells slots) (hx : p.tables.exec = Jvm.exec) (hZ : Z.Warmed39 s.vm) (hown : s.vm.findClass own = some m.cls)
    (w1 : (Jvm.Cond.methodLink own index y).before a0 Z = true) (w2 : (Jvm.Cond.static y).before a0 Z = true) (w3 : (Jvm.Cond.initialized y.cls).before a0 Z = true) (w4 : (Jvm.Cond.code y bytes maxL ret).before a0 Z = true)
    (hy : y.cls ≠ "java/lang/invoke/MethodHandle" ∧ y.cls ≠ "java/lang/invoke/VarHandle") (hM : own_C l Z y bytes maxL ret [] rm as h0 (own_QN h0))
    (hf : rm.frames + 1 ≤ R.frames) (hl : W + (maxL + 11) + rm.locals ≤ R.locals) (hrc : rm.cells = 0) (hrs : rm.slots = 0) (hcc : cells + rm.cells ≤ R.cells) (hss : slots + rm.slots ≤ R.slots) (e0 : T.heap = h0)
    {pc : Nat} {Ls : Array Slot} {st argsL rest : List Value} (hsize : Ls.size = c.maxLocals) (hlen : ∀ sig, parseMethodDescriptor y.desc = some sig → argsL.length = sig.parameters.length) (has : argsL.toArray = as)
    (hst : st = argsL.reverse ++ rest) (hW : 2 * 0 + (rest.map fun v => v.category).sum ≤ W) (hd : decode c.code pc = .ok (.invokestatic index, 3)) :
    ∃ (T' : State), Stand p l e R s m args below meth c T' locs cells slots ∧ T'.heap = h0 ∧
      ∀ target, Steps p.tables e below (T'.setTop (mkF m (pc + 3) Ls rest)) target → Steps p.tables e below (T.setTop (mkF m pc Ls st)) target := by
  obtain ⟨v, T', L, X', ⟨rfl, rfl, hh⟩, stp⟩ := own_callS X hx hZ hown w1 w2 w3 w4 hy hM hf hl hcc hss e0 hsize hlen has hst hW hd
  rw [List.append_nil, hrc, hrs] at X'
  exact ⟨T', X', hh, stp⟩
end OwnHeldC
section OwnWith
variable {p : Program} {l : Launch} {e : Env} {R : Room} {s s0 : State} {m : MethodId} {args : Array Value} {below : List Frame} {meth : Method} {c : Code} {T : State} {locs : List Loc} {cells slots : Nat} {Z : State} {a0 : Array Value} {h0 h : Heap} {n0 k0 : Nat} {EL : List (String × Nat)}
variable {own C : String} {index : Nat} {y z : MethodName} {bytes : ByteArray} {maxL W : Nat} {ret : Option FieldType} {hs : List (Nat × Nat × Nat × Nat)} {rm : Room} {as : Array Value} {q : Option Value → Heap → Prop} {a : Addr}
def own_CC (l : Launch) (Z : State) (y : MethodName) (bytes : ByteArray) (maxL : Nat) (ret : Option FieldType) (hs : List (Nat × Nat × Nat × Nat)) (ws : List Jvm.Cond) (rm : Room) (as : Array Value) (h0 : Heap) (Q : Option Value → Heap → List Loc → Prop) : Prop :=
  MetFree l y (head1 (Jvm.Cond.codeWith y bytes maxL ret hs :: ws) rm) (fun a U => a = as ∧ Z.Warmed39 U.vm ∧ U.heap = h0) (fun _ _ _ _ _ => True) (fun _ U o U' => ∃ v L, o = .returned v ∧ Q v U'.heap L ∧ FrameEnd U o U' L rm.cells rm.slots)
def own_CCH (l : Launch) (Z : State) (EL : List (String × Nat)) (y : MethodName) (bytes : ByteArray) (maxL : Nat) (ret : Option FieldType) (hs : List (Nat × Nat × Nat × Nat)) (ws : List Jvm.Cond) (rm : Room) (as : Array Value) (h0 : Heap) (Q : Option Value → Heap → List Loc → Prop) : Prop :=
  MetFree l y (head1 (Jvm.Cond.codeWith y bytes maxL ret hs :: ws) rm) (fun a U => a = as ∧ Z.Warmed39 U.vm ∧ U.heap = h0 ∧ CHv Z EL U.vm h0) (fun _ _ _ _ _ => True) (fun _ U o U' => ∃ v L, o = .returned v ∧ Q v U'.heap L ∧ CHr Z EL U.vm U.heap U'.vm U'.heap ∧ ReturnedEndW U o U' L rm.cells rm.slots)
theorem own_hisW {ws : List Jvm.Cond} : ∀ args (s : State) m, (head1 (Jvm.Cond.codeWith y bytes maxL ret hs :: ws) rm).pre.before args s = true → s.methodNamed? y = some m →
    ∃ meth c, s.vm.method? m = some meth ∧ meth.code = some c ∧ c.code = bytes ∧ c.maxLocals = maxL ∧ meth.sig.returnType = ret ∧ meth.locks = false := fun args s m hh hn => by
  obtain ⟨m', meth, c, q1, h1, h2, h3, h4, -, h5, h6, -⟩ := Cond.codeWith_spec (atoms_spec (ws := Jvm.Cond.codeWith y bytes maxL ret hs :: ws) hh _ (List.mem_cons_self ..))
  cases hn.symm.trans q1
  exact ⟨meth, c, h1, h2, h3, h4, h5, h6⟩
theorem own_callIC (X : Stand p l e R s m args below meth c T locs cells slots) (N : Fr n0 locs) (hx : p.tables.exec = Jvm.exec) (hZ : Z.Warmed39 s.vm) (hy1 : y.name = "<init>") (hown : s.vm.findClass own = some m.cls)
    (w1 : (Jvm.Cond.methodLink own index y).before a0 Z = true) (w2 : (Jvm.Cond.instanceMethod y).before a0 Z = true) (w3 : (Jvm.Cond.initialized y.cls).before a0 Z = true) (w4 : (Jvm.Cond.codeWith y bytes maxL none hs).before a0 Z = true)
    (hy : y.cls ≠ "java/lang/invoke/MethodHandle" ∧ y.cls ≠ "java/lang/invoke/VarHandle") (hM : own_CC l Z y bytes maxL none hs [] rm as h (own_W n0 q))
    (hf : rm.frames + 1 ≤ R.frames) (hl : W + (maxL + 11) + rm.locals ≤ R.locals) (hcc : cells + rm.cells ≤ R.cells) (hss : slots + rm.slots ≤ R.slots) (e0 : T.heap = h)
    {pc : Nat} {Ls : Array Slot} {st argsL rest : List Value} (hsize : Ls.size = c.maxLocals) (hlen : ∀ sig, parseMethodDescriptor y.desc = some sig → argsL.length = sig.parameters.length) (has : (Value.ref a :: argsL).toArray = as)
    (hst : st = argsL.reverse ++ .ref a :: rest) (hW : 2 * 0 + (rest.map fun v => v.category).sum ≤ W) (hd : decode c.code pc = .ok (.invokespecial index, 3)) :
    ∃ (v : Option Value) (T' : State) (h' : Heap) (L' : List Loc), Stand p l e R s m args below meth c T' L' (cells + rm.cells) (slots + rm.slots) ∧ Fr n0 L' ∧ T'.heap = h' ∧ q v h' ∧
      ∀ target, Steps p.tables e below (T'.setTop (mkF m (pc + 3) Ls (v.toList ++ rest))) target → Steps p.tables e below (T.setTop (mkF m pc Ls st)) target := by
  have hK : Back l R p e below s args y 3 W (fun A a => a = as ∧ A.U.heap = h ∧ A.cells + rm.cells ≤ R.cells ∧ A.slots + rm.slots ≤ R.slots)
      (fun A _ v B => ∃ L, own_W n0 q v B.U.heap L ∧ B.locs = A.locs ++ L ∧ B.cells = A.cells + rm.cells ∧ B.slots = A.slots + rm.slots) :=
    Back.of_freeWith (handlers := hs) (bytes := bytes) (maxL := maxL) (ret := none) (E := fun _ _ o t L k n => k = rm.cells ∧ n = rm.slots ∧ ∃ v, o = .returned v ∧ own_W n0 q v t.heap L) hM hf hl
      (fun m meth c A a Y hp => have hU : Z.Warmed39 A.U.vm := wtrans hZ Y.warmed
        ⟨by show (Jvm.Cond.and _ .tt).before a A.U = true; rw [Cond.before_and, mv hU w4]; rfl, mv hU w4, mv hU w3, hp.2.2.1, hp.2.2.2⟩)
      (fun m meth c A a g mk Y hp => ⟨hp.1, wtrans hZ Y.warmed, hp.2.1⟩) (fun _ _ _ _ _ _ _ _ _ => trivial)
      (fun _ _ _ _ ⟨v, L, h1, h2, h3⟩ => ⟨L, _, _, h3, rfl, rfl, v, h1, h2⟩)
      (fun m meth c A a g mk v t L k n Y hp _ _ ⟨e1, e2, v', e3, e4⟩ => by cases e3; subst e1 e2; exact ⟨L, e4, rfl, rfl, rfl⟩)
  obtain ⟨v, _, ⟨T', L', k', n'⟩, -, X', ⟨Lc, ⟨N', hq⟩, h1, h2, h3⟩, stp⟩ := X.specialBackH hx (y := y) hy1 hown (mvT hZ w1) (mvT hZ w2) (mvT hZ w4) hy hK (g := mkF m pc Ls st) rfl hsize (Steps.refl _) (a := a) (argsL := argsL) (rest := rest) hlen hst hW hd (fun _ _ => ⟨has, e0, hcc, hss⟩)
  dsimp only [Pt.U, Pt.locs, Pt.cells, Pt.slots] at X' h1 h2 h3 stp hq
  subst h1 h2 h3
  exact ⟨v, T', _, _, X', N.app N', rfl, hq, fun t k => stp.trans k⟩
theorem own_backCH {len : Nat} {vm0 : Vm} {Q : Option Value → Heap → List Loc → Prop} (hM : own_CCH l Z EL y bytes maxL ret hs [] rm as h Q) (hZ : Z.Warmed39 vm0) (w4 : (Jvm.Cond.codeWith y bytes maxL ret hs).before a0 Z = true) (w3 : (Jvm.Cond.initialized y.cls).before a0 Z = true)
    (hf : rm.frames + 1 ≤ R.frames) (hl : W + (maxL + 11) + rm.locals ≤ R.locals) (hEL : EW Z a0 EL) (H : CHv Z EL vm0 h) :
    BackS l R p e below (s.setVm vm0) args y len W (fun A a => a = as ∧ A.U.heap = h ∧ A.cells + rm.cells ≤ R.cells ∧ A.slots + rm.slots ≤ R.slots)
      (fun A _ v B => ∃ L, Q v B.U.heap L ∧ B.locs = A.locs ++ L ∧ B.cells = A.cells + rm.cells ∧ B.slots = A.slots + rm.slots ∧ CHr Z EL vm0 h B.U.vm B.U.heap) := by
  rintro m meth c ⟨U, Ls, c0, z0⟩ g ig mk a X hg hsize hdg hW hn ⟨rfl, rfl, h4, h5⟩
  dsimp only [Pt.U, Pt.locs, Pt.cells, Pt.slots] at h4 h5 X hn H ⊢
  have hU : Z.Warmed39 U.vm := wtrans (s := s.setVm vm0) hZ X.warmed
  have h2 : (Jvm.Cond.codeWith y bytes maxL ret hs).before a U = true := mv hU w4
  obtain ⟨mY, methY, cY, hnY, hmY, hcY, -, hlY, -, -, -, -⟩ := Cond.codeWith_spec h2
  cases hn.symm.trans hnY
  obtain ⟨kY, hkY, -⟩ := className_of_methodNamed hn
  have hinY : kY.init = .initialized := Cond.initialized_spec (findClass_of_methodNamed hn) hkY (mv (args := a) hU w3)
  subst hg
  have hat : At U g.method c below := X.here
  have happ := Spec.appliesLoose_calling (S := head1 [Jvm.Cond.codeWith y bytes maxL ret hs] rm) (args := a) (g := g) hat hdg hn hkY hinY (X.room_calling (g := g) (R' := rm) hsize hmY hcY hf (by rw [hlY]; omega) h4 h5)
    (by show (Jvm.Cond.and _ .tt).before a U = true; rw [Cond.before_and, h2]; rfl)
  obtain ⟨mid, hmid⟩ := hat.above
  have hfr : (U.setTop g).frames = (.java g :: mid) ++ below := by rw [State.frames_setTop' g hat.top, hmid]; rfl
  obtain ⟨o, u, hst, -, hend, v, L, rfl, hQ, hC, hE⟩ := Steps.callFree hM p X.admits X.cas X.clock (acts := []) hfr happ ⟨rfl, hU, rfl, (CHv.at X hZ hEL H).1⟩ trivial
  rw [State.frames_setTop' g hat.top] at hend
  have hE' : ReturnedEndW (U.calling g mk a) (.returned v) u L rm.cells rm.slots := hE
  obtain ⟨-, hW2, hB2, e2, q2, q3, q4, q5, q6⟩ := id hE'
  have e3 : u = ({ (U.calling g mk a).setFrames u.frames with heap := u.heap, slotsUsed := u.slotsUsed } : State).setVm u.vm := by
    have r : u = ({ u with vm := (U.calling g mk a).vm } : State).setVm u.vm := rfl
    rw [e2] at r
    exact r
  obtain ⟨c2, i2, len2, hc2, hd2, hf2⟩ := hend
  have hWU : U.Warmed39 u.vm := hW2
  obtain rfl : c2 = c := by
    have r : u.code? g.method = U.code? g.method := by rw [State.code?_eq, State.code?_eq, hWU.alike.method?]
    exact Option.some.inj (hc2.symm.trans (r.trans hat.code))
  obtain rfl : len2 = len := by rw [hdg] at hd2; cases hd2; rfl
  obtain ⟨g0, hg0⟩ := Option.isSome_iff_exists.mp hat.top
  obtain ⟨fr, hr⟩ := State.topJava?_eq_some.mp hg0
  have hu : u = (({ U with heap := u.heap, slotsUsed := u.slotsUsed } : State).setVm u.vm).setTop { g with pc := g.pc + len2, stack := v.toList ++ g.stack } := by
    have hr' : (({ U with heap := u.heap, slotsUsed := u.slotsUsed } : State).setVm u.vm).frames = .java g0 :: fr := hr
    refine e3.trans ?_
    rw [hf2, State.calling_eq hat.top, State.setFrames_setFrames, State.setTop_of_frames _ hr', hr]
    rfl
  have hsame : U.sameButNew ({ U with heap := u.heap, slotsUsed := u.slotsUsed } : State) L rm.cells rm.slots := by
    refine ⟨?_, q2, q3, q4, q5, q6⟩
    obtain ⟨t, ht, -⟩ := State.frames_cons hr
    show ({ U with heap := u.heap, slotsUsed := u.slotsUsed } : State) = { U.setFrames U.frames with heap := u.heap, slotsUsed := u.slotsUsed }
    rw [State.setFrames_self ht]
  obtain ⟨X', hS⟩ := X.movedW (T₂ := (({ U with heap := u.heap, slotsUsed := u.slotsUsed } : State).setVm u.vm)) ((X.here.setHeapUsed u.heap u.slotsUsed).setVm hWU.alike) X.tail rfl rfl hWU hB2 hsame
  refine ⟨v, ⟨(({ U with heap := u.heap, slotsUsed := u.slotsUsed } : State).setVm u.vm), Ls ++ L, c0 + rm.cells, z0 + rm.slots⟩, X', hS, hsame.2.1, ⟨L, hQ, rfl, rfl, rfl, (CHv.at X hZ hEL H).trans hC⟩, ?_⟩
  show Steps p.tables e below _ ((({ U with heap := u.heap, slotsUsed := u.slotsUsed } : State).setVm u.vm).setTop { g with pc := g.pc + len2, stack := v.toList ++ g.stack })
  rw [← hu]
  exact hst
theorem own_callICH (S : own_S s0 s k0) (hk : k0 ≤ h.size) (CR : CHr Z EL s0.vm h0 s.vm h) (hEL : EW Z a0 EL)
    (X : Stand p l e R s m args below meth c T locs cells slots) (N : Fr n0 locs) (hx : p.tables.exec = Jvm.exec) (hZ : Z.Warmed39 s.vm) (hy1 : y.name = "<init>") (hown : s.vm.findClass own = some m.cls)
    (w1 : (Jvm.Cond.methodLink own index y).before a0 Z = true) (w2 : (Jvm.Cond.instanceMethod y).before a0 Z = true) (w3 : (Jvm.Cond.initialized y.cls).before a0 Z = true) (w4 : (Jvm.Cond.codeWith y bytes maxL none hs).before a0 Z = true)
    (hy : y.cls ≠ "java/lang/invoke/MethodHandle" ∧ y.cls ≠ "java/lang/invoke/VarHandle") (hM : own_CCH l Z EL y bytes maxL none hs [] rm as h (own_W n0 q))
    (hf : rm.frames + 1 ≤ R.frames) (hl : W + (maxL + 11) + rm.locals ≤ R.locals) (hcc : cells + rm.cells ≤ R.cells) (hss : slots + rm.slots ≤ R.slots) (e0 : T.heap = h)
    {pc : Nat} {Ls : Array Slot} {st argsL rest : List Value} (hsize : Ls.size = c.maxLocals) (hlen : ∀ sig, parseMethodDescriptor y.desc = some sig → argsL.length = sig.parameters.length) (has : (Value.ref a :: argsL).toArray = as)
    (hst : st = argsL.reverse ++ .ref a :: rest) (hW : 2 * 0 + (rest.map fun v => v.category).sum ≤ W) (hd : decode c.code pc = .ok (.invokespecial index, 3)) :
    ∃ (v : Option Value) (T' : State) (h' : Heap) (L' : List Loc) (s' : State) (k1 : Nat), Stand p l e R s' m args below meth c T' L' (cells + rm.cells) (slots + rm.slots) ∧ Fr n0 L' ∧ T'.heap = h' ∧ q v h' ∧ own_S s0 s' k1 ∧ k1 ≤ h'.size ∧ CHr Z EL s0.vm h0 s'.vm h' ∧ Z.Warmed39 s'.vm ∧ s'.vm.findClass own = some m.cls ∧
      ∀ target, Steps p.tables e below (T'.setTop (mkF m (pc + 3) Ls (v.toList ++ rest))) target → Steps p.tables e below (T.setTop (mkF m pc Ls st)) target := by
  obtain ⟨vm, rfl, hS⟩ := S
  have hK := own_backCH (s := s0) (args := args) (p := p) (e := e) (below := below) (R := R) (W := W) (len := 3) hM hZ w4 w3 hf hl hEL CR.1
  have hpl : e.platform.magicAccessors = ({} : Platform).magicAccessors := by rw [X.admits.platform]
  obtain ⟨mk, methM, cM, kP, vm₁, hnamed, hmethM, -, -, -, -, hkP, -, hW₁, hstep₁⟩ := Steps.initColdArgsH (args := args) (e := e) X.here hx X.warmed hpl hown hy1 hy (mvT hZ w1) (mvT hZ w2) (mvT hZ w4) (f := mkF m pc Ls st) rfl hlen hst hd
  have X₁ := X.noted hW₁
  obtain ⟨v, ⟨T', L', k', n'⟩, X', hS', hgr, ⟨Lc, ⟨N', hq⟩, h1, h2, h3, hC⟩, stp⟩ := hK m meth c ⟨T.setVm vm₁, locs, cells, slots⟩ { mkF m pc Ls st with stack := rest } (.invokespecial index) mk (.ref a :: argsL).toArray X₁ rfl hsize hd hW (X₁.named hnamed) ⟨has, e0, hcc, hss⟩
  dsimp only [Pt.U, Pt.locs, Pt.cells, Pt.slots] at X' h1 h2 h3 stp hq hS' hgr hC
  subst h1 h2 h3
  exact ⟨v, T', _, _, _, _, X', N.app N', rfl, hq, ⟨_, rfl, hS.trans hS' (Nat.le_trans hk (e0 ▸ hgr))⟩, Nat.le_refl _, CR.trans hC, State.Warmed39.trans (t := s0.setVm vm) hZ hS'.1, by show T'.vm.findClass own = _; rw [hS'.1.alike.findClass]; exact hown, fun t k => (hstep₁ _ fun acts => by rw [doInvoke_state]; exact Steps.refl _).trans (stp.trans k)⟩
end OwnWith
section OwnList
variable {p : Program} {l : Launch} {e : Env} {R : Room} {s : State} {m : MethodId} {args : Array Value} {below : List Frame} {meth : Method} {c : Code} {T : State} {locs : List Loc} {cells slots : Nat} {Z : State} {a0 : Array Value} {h0 h : Heap} {n0 : Nat}
theorem own_newR (X : Stand p l e R s m args below meth c T locs cells slots) (hx : p.tables.exec = Jvm.exec) (hZ : Z.Warmed39 s.vm) {own C : String} {index : Nat} (hown : s.vm.findClass own = some m.cls) (w1 : (Jvm.Cond.classLink own index C).before a0 Z = true) (w2 : (Jvm.Cond.arrayOver (.object C)).before a0 Z = true) (eT : T.heap = h)
    {pc : Nat} {Ls : Array Slot} {n : Int32} {rest : List Value} (hd : decode c.code pc = .ok (.anewarray index, 3)) (hn : ¬ n < 0) {cap : Nat} (hcap : n.toNatClampNeg ≤ cap) (hb : cap * 8 ≤ 536870912) (hc : cells + 1 ≤ R.cells) (hl : slots + cap ≤ R.slots) (len : Nat) :
    ∃ T' h' k a, Stand p l e R s m args below meth c T' locs (cells + 1) (slots + cap) ∧ T'.heap = h' ∧ Ext h h' ∧ a = h.size ∧ Arv Z h' a k (.object C) n (List.replicate len .null) .null ∧ Ovr Z k C ∧
      ∀ target, Steps p.tables e below (T'.setTop (mkF m (pc + 3) Ls (.ref a :: rest))) target → Steps p.tables e below (T.setTop (mkF m pc Ls (.int n :: rest))) target := by
  obtain ⟨T', h', k, X', e', E, A, O, st⟩ := newR X hx hZ hown w1 w2 eT (g := mkF m pc Ls (.int n :: rest)) rfl hd rfl hn hcap hb hc hl
  exact ⟨T', h', k, h.size, X', e', E, rfl, (Arv.new A hn).pad (fun i => by have := pad_rep [] (.null : Value) len i; rwa [List.nil_append] at this), O, st⟩
theorem own_stR (X : Stand p l e R s m args below meth c T locs cells slots) (N : Fr n0 locs) (hx : p.tables.exec = Jvm.exec) (hZ : Z.Warmed39 s.vm) (eT : T.heap = h) {a y : Addr} {k : ClassId} {C : String} {z : Int32} {vs : List Value} {d : Value} (V : Arv Z h a k (.object C) z vs d) (O : Ovr Z k C) (I : Ins Z h y C true) (ga : n0 ≤ a) {j : Int32} {i : Nat} (hj : ¬ j < 0 ∧ j < z) (hi : j.toNatClampNeg = i) (hl : i < vs.length)
    {pc : Nat} {Ls : Array Slot} {rest : List Value} (hd : decode c.code pc = .ok (.aastore, 1)) :
    ∃ T' h' L', Stand p l e R s m args below meth c T' L' cells slots ∧ Fr n0 L' ∧ T'.heap = h' ∧ Wr h h' a i (.ref y) ∧ Arv Z h' a k (.object C) z (vs.set i (.ref y)) d ∧
      ∀ target, Steps p.tables e below (T'.setTop (mkF m (pc + 1) Ls rest)) target → Steps p.tables e below (T.setTop (mkF m pc Ls (.ref y :: .int j :: .ref a :: rest))) target := by
  obtain ⟨cl, Ar, q, S, Nn, H, G⟩ := V
  subst q
  obtain ⟨T', h', X', e', W, st⟩ := stR X hx hZ eT Ar (j := j) (v := .ref y) (inb_of S hj) rfl (Sto.of Ar O I) (g := mkF m pc Ls (.ref y :: .int j :: .ref a :: rest)) rfl rfl hd
  subst hi
  exact ⟨T', h', _, X', Fr.snoc X' N ga, e', W, Arv.set Ar rfl S Nn H G rfl W _ rfl hl, st⟩
theorem own_callF {own C : String} {index count : Nat} {y z : MethodName} {bytes : ByteArray} {maxL W : Nat} {ret : Option FieldType} {rm : Room} {as : Array Value} {q : Option Value → Heap → Prop} {a : Addr}
    (X : Stand p l e R s m args below meth c T locs cells slots) (N : Fr n0 locs) (hx : p.tables.exec = Jvm.exec) (hZ : Z.Warmed39 s.vm) (hown : s.vm.findClass own = some m.cls)
    (w1 : (Jvm.Cond.methodLink own index y).before a0 Z = true) (w2 : (Jvm.Cond.declares y).before a0 Z = true) (wf : (Jvm.Cond.interfaceMethod y.cls y.cls y.name y.desc).before a0 Z = true) (kf : ((Jvm.Cond.interfaceMethod y.cls y.cls y.name y.desc).onTables && (Jvm.Cond.interfaceMethod y.cls y.cls y.name y.desc).keepsFace) = true) (ws : (Jvm.Cond.selects C y z).before a0 Z = true) (wi : (Jvm.Cond.instanceMethod z).before a0 Z = true) (wp : (Jvm.Cond.publicMethod z).before a0 Z = true) (wu : (Jvm.Cond.unhidden C y.name y.desc).before a0 Z = true) (wc : (Jvm.Cond.castable C y.cls).before a0 Z = true)
    (w3 : (Jvm.Cond.initialized z.cls).before a0 Z = true) (w4 : (Jvm.Cond.code z bytes maxL ret).before a0 Z = true)
    (hy : y.cls ≠ "java/lang/invoke/MethodHandle" ∧ y.cls ≠ "java/lang/invoke/VarHandle") (hM : own_C l Z z bytes maxL ret [] rm as h (own_W n0 q))
    (hf : rm.frames + 1 ≤ R.frames) (hl : W + (maxL + 11) + rm.locals ≤ R.locals) (hcc : cells + rm.cells ≤ R.cells) (hss : slots + rm.slots ≤ R.slots) (e0 : T.heap = h) (E : Exa Z h a C)
    {pc : Nat} {Ls : Array Slot} {st argsL rest : List Value} (hsize : Ls.size = c.maxLocals) (hlen : ∀ sig, parseMethodDescriptor y.desc = some sig → argsL.length = sig.parameters.length) (has : (Value.ref a :: argsL).toArray = as)
    (hst : st = argsL.reverse ++ .ref a :: rest) (hW : 2 * 0 + (rest.map fun v => v.category).sum ≤ W) (hd : decode c.code pc = .ok (.invokeinterface index count, 5)) :
    ∃ (v : Option Value) (T' : State) (h' : Heap) (L' : List Loc), Stand p l e R s m args below meth c T' L' (cells + rm.cells) (slots + rm.slots) ∧ Fr n0 L' ∧ T'.heap = h' ∧ q v h' ∧
      ∀ target, Steps p.tables e below (T'.setTop (mkF m (pc + 5) Ls (v.toList ++ rest))) target → Steps p.tables e below (T.setTop (mkF m pc Ls st)) target := by
  obtain ⟨cq, kq, qa, qb, qc⟩ := isOf hZ e0 E
  obtain ⟨v, _, ⟨T', L', k', n'⟩, -, X', ⟨Lc, ⟨N', hq⟩, h1, h2, h3⟩, stp⟩ := X.interfaceBack hx (xi := y) (y := z) hown (mvT hZ w1) (mvT hZ w2) (mvT hZ wf kf) (mvT hZ ws) (mvT hZ wi) (mvT hZ wp) (mvT hZ wu) (mvT hZ wc) hy
    (backOf (W := W) hM hZ w4 w3 hf hl) qa qb qc (g := mkF m pc Ls st) rfl hsize (Steps.refl _) (argsL := argsL) (rest := rest) hlen hst hW hd (fun _ _ => ⟨has, e0, hcc, hss⟩)
  dsimp only [Pt.U, Pt.locs, Pt.cells, Pt.slots] at X' h1 h2 h3 stp hq
  subst h1 h2 h3
  exact ⟨v, T', _, _, X', N.app N', rfl, hq, fun t k => stp.trans k⟩
theorem own_putFV (X : Stand p l e R s m args below meth c T locs cells slots) (N : Fr n0 locs) (hx : p.tables.exec = Jvm.exec) (hZ : Z.Warmed39 s.vm) {own O1 O n d C : String} {index kk : Nat} {ty : FieldType} (hown : s.vm.findClass own = some m.cls) (w : (Jvm.Cond.fieldLink own index O1 n d).before a0 Z = true) (vi : Via Z O1 O n d)
    (eT : T.heap = h) {a : Addr} {v old : Value} (F : Fld Z h a O n d old) (E : Exa Z h a C) (L : (Jvm.Cond.lays C O n d).before a0 Z = true ∨ ((Jvm.Cond.laysFinal C O n d).before a0 Z = true ∧ own = O ∧ meth.name = "<init>")) (wi : (Jvm.Cond.instantiable C kk).before a0 Z = true) (ga : n0 ≤ a)
    (hty : parseFieldDescriptor d = some ty) (hn : narrow ty v = v) (hf : fits ty v = true) {pc : Nat} {Ls : Array Slot} {rest : List Value} (hd : decode c.code pc = .ok (.putfield index, 3)) :
    ∃ T' h' L', Stand p l e R s m args below meth c T' L' cells slots ∧ Fr n0 L' ∧ T'.heap = h' ∧ Wr h h' a (Jvm.RoadKit.slotOf Z O n d) v ∧ Fld Z h' a O n d v ∧
      ∀ target, Steps p.tables e below (T'.setTop (mkF m (pc + 3) Ls rest)) target → Steps p.tables e below (T.setTop (mkF m pc Ls (v :: .ref a :: rest))) target := by
  obtain ⟨T', h', X', e', W, st⟩ := putF X hx hZ hown (host := "") (Or.inl w) vi eT F E L wi hty hn hf (g := mkF m pc Ls (v :: .ref a :: rest)) rfl rfl hd
  exact ⟨T', h', _, X', Fr.snoc X' N ga, e', W, F.same W, st⟩
end OwnList
theorem own_pd0 : parseMethodDescriptor "(IILjava/util/function/BiFunction;)I" = some ⟨[.int, .int, (.object "java/util/function/BiFunction")], some .int⟩ := by decide +kernel
theorem own_pd1 : parseMethodDescriptor "(IIILjava/util/function/BiFunction;)I" = some ⟨[.int, .int, .int, (.object "java/util/function/BiFunction")], some .int⟩ := by decide +kernel
theorem own_pd2 : parseMethodDescriptor "()B" = some ⟨[], some .byte⟩ := by decide +kernel
theorem own_pd3 : parseMethodDescriptor "(II)V" = some ⟨[.int, .int], none⟩ := by decide +kernel
theorem own_pd4 : parseMethodDescriptor "()Z" = some ⟨[], some .boolean⟩ := by decide +kernel
theorem own_pd5 : parseMethodDescriptor "([BI)C" = some ⟨[(.array .byte), .int], some .char⟩ := by decide +kernel
theorem own_pd6 : parseMethodDescriptor "([B)I" = some ⟨[(.array .byte)], some .int⟩ := by decide +kernel
theorem own_pd7 : parseMethodDescriptor "(I[B)V" = some ⟨[.int, (.array .byte)], none⟩ := by decide +kernel
theorem own_pd8 : parseMethodDescriptor "(I)I" = some ⟨[.int], some .int⟩ := by decide +kernel
theorem own_pd9 : parseMethodDescriptor "(I)[B" = some ⟨[.int], some (.array .byte)⟩ := by decide +kernel
theorem own_pd10 : parseMethodDescriptor "([BII)V" = some ⟨[(.array .byte), .int, .int], none⟩ := by decide +kernel
theorem own_pd11 : parseMethodDescriptor "([CI[BII)I" = some ⟨[(.array .char), .int, (.array .byte), .int, .int], some .int⟩ := by decide +kernel
theorem own_pd12 : parseMethodDescriptor "([CII)[B" = some ⟨[(.array .char), .int, .int], some (.array .byte)⟩ := by decide +kernel
theorem own_pd13 : parseMethodDescriptor "([BI)B" = some ⟨[(.array .byte), .int], some .byte⟩ := by decide +kernel
theorem own_pd14 : parseMethodDescriptor "([CIILjava/lang/Void;)V" = some ⟨[(.array .char), .int, .int, (.object "java/lang/Void")], none⟩ := by decide +kernel
theorem own_pd15 : parseMethodDescriptor "([C)V" = some ⟨[(.array .char)], none⟩ := by decide +kernel
theorem own_pd16 : parseMethodDescriptor "(II)I" = some ⟨[.int, .int], some .int⟩ := by decide +kernel
theorem own_pd17 : parseMethodDescriptor "([BII)[B" = some ⟨[(.array .byte), .int, .int], some (.array .byte)⟩ := by decide +kernel
theorem own_pd18 : parseMethodDescriptor "(Ljava/lang/Object;)Ljava/lang/Object;" = some ⟨[(.object "java/lang/Object")], some (.object "java/lang/Object")⟩ := by decide +kernel
theorem own_pd19 : parseMethodDescriptor "(III)I" = some ⟨[.int, .int, .int], some .int⟩ := by decide +kernel
theorem own_pd20 : parseMethodDescriptor "(Ljava/nio/charset/Charset;[BII)V" = some ⟨[(.object "java/nio/charset/Charset"), (.array .byte), .int, .int], none⟩ := by decide +kernel
theorem own_pd21 : parseMethodDescriptor "()I" = some ⟨[], some .int⟩ := by decide +kernel
theorem own_pd22 : parseMethodDescriptor "(III)V" = some ⟨[.int, .int, .int], none⟩ := by decide +kernel
theorem own_pd23 : parseMethodDescriptor "([BII[BI)V" = some ⟨[(.array .byte), .int, .int, (.array .byte), .int], none⟩ := by decide +kernel
theorem own_pd24 : parseMethodDescriptor "(II[BI)V" = some ⟨[.int, .int, (.array .byte), .int], none⟩ := by decide +kernel
theorem own_pd25 : parseMethodDescriptor "(Ljava/lang/String;II)V" = some ⟨[(.object "java/lang/String"), .int, .int], none⟩ := by decide +kernel
theorem own_pd26 : parseMethodDescriptor "(Ljava/lang/String;IIZ)V" = some ⟨[(.object "java/lang/String"), .int, .int, .boolean], none⟩ := by decide +kernel
theorem own_pd27 : parseMethodDescriptor "(I)C" = some ⟨[.int], some .char⟩ := by decide +kernel
theorem own_pd28 : parseMethodDescriptor "()V" = some ⟨[], none⟩ := by decide +kernel
theorem own_pd29 : parseMethodDescriptor "(I)[Ljava/lang/Object;" = some ⟨[.int], some (.array (.object "java/lang/Object"))⟩ := by decide +kernel
theorem own_pd30 : parseMethodDescriptor "()[Ljava/lang/Object;" = some ⟨[], some (.array (.object "java/lang/Object"))⟩ := by decide +kernel
theorem own_pd31 : parseMethodDescriptor "(Ljava/lang/Object;[Ljava/lang/Object;I)V" = some ⟨[(.object "java/lang/Object"), (.array (.object "java/lang/Object")), .int], none⟩ := by decide +kernel
theorem own_pd32 : parseMethodDescriptor "(I)V" = some ⟨[.int], none⟩ := by decide +kernel
theorem own_pd33 : parseMethodDescriptor "(Ljava/lang/Object;)Z" = some ⟨[(.object "java/lang/Object")], some .boolean⟩ := by decide +kernel
theorem own_pd34 : parseMethodDescriptor "([BIILjava/nio/charset/Charset;)V" = some ⟨[(.array .byte), .int, .int, (.object "java/nio/charset/Charset")], none⟩ := by decide +kernel
theorem own_pd35 : parseMethodDescriptor "()Ljava/lang/String;" = some ⟨[], some (.object "java/lang/String")⟩ := by decide +kernel
theorem own_pd36 : parseMethodDescriptor "(Ljava/lang/String;)V" = some ⟨[(.object "java/lang/String")], none⟩ := by decide +kernel
theorem own_pd37 : parseMethodDescriptor "(II)Ljava/lang/String;" = some ⟨[.int, .int], some (.object "java/lang/String")⟩ := by decide +kernel
theorem own_pd38 : parseMethodDescriptor "([BI[CII)V" = some ⟨[(.array .byte), .int, (.array .char), .int, .int], none⟩ := by decide +kernel
theorem own_pd39 : parseMethodDescriptor "([BII[CI)V" = some ⟨[(.array .byte), .int, .int, (.array .char), .int], none⟩ := by decide +kernel
theorem own_pd40 : parseMethodDescriptor "(II[CI)V" = some ⟨[.int, .int, (.array .char), .int], none⟩ := by decide +kernel
theorem own_pd41 : parseMethodDescriptor "(II[B)V" = some ⟨[.int, .int, (.array .byte)], none⟩ := by decide +kernel
theorem own_pd42 : parseMethodDescriptor "([CII)Ljava/lang/Void;" = some ⟨[(.array .char), .int, .int], some (.object "java/lang/Void")⟩ := by decide +kernel
theorem own_pd43 : parseMethodDescriptor "([CII)V" = some ⟨[(.array .char), .int, .int], none⟩ := by decide +kernel
theorem own_pd44 : parseMethodDescriptor "(C)V" = some ⟨[.char], none⟩ := by decide +kernel
theorem own_pd45 : parseMethodDescriptor "(III)Ljava/lang/String;" = some ⟨[.int, .int, .int], some (.object "java/lang/String")⟩ := by decide +kernel
theorem own_sh0 (x : Int32) : x >>> ((0 : Int32) &&& 31) = x := by
  rw [show ((0 : Int32) &&& 31) = 0 from rfl]
  exact Int32.toBitVec_inj.mp (by simp [Int32.toBitVec_shiftRight])
theorem own_ldBs {p : Program} {l : Launch} {e : Env} {R : Room} {s : State} {m : MethodId} {args : Array Value} {below : List Frame} {meth : Method} {c : Code} {T : State} {locs : List Loc} {cells slots : Nat} {Z : State} {h : Heap} (X : Stand p l e R s m args below meth c T locs cells slots) (hx : p.tables.exec = Jvm.exec) (hZ : Z.Warmed39 s.vm) (eT : T.heap = h) {a : Addr} {k : ClassId} {z : Int32} {L : List Int32} (V : Arv Z h a k .byte z (L.map Value.int) (.int 0)) {j : Int32} (hj : ¬ j < 0 ∧ j < z)
    {pc : Nat} {Ls : Array Slot} {rest : List Value} (hd : decode c.code pc = .ok (.baload, 1)) (target : State) (hr : Steps p.tables e below (T.setTop (mkF m (pc + 1) Ls (.int (own_get L j) :: rest))) target) : Steps p.tables e below (T.setTop (mkF m pc Ls (.int j :: .ref a :: rest))) target :=
  own_ldB X hx hZ eT V hj (own_getD L _) hd target hr
theorem own_ldCs {p : Program} {l : Launch} {e : Env} {R : Room} {s : State} {m : MethodId} {args : Array Value} {below : List Frame} {meth : Method} {c : Code} {T : State} {locs : List Loc} {cells slots : Nat} {Z : State} {h : Heap} (X : Stand p l e R s m args below meth c T locs cells slots) (hx : p.tables.exec = Jvm.exec) (hZ : Z.Warmed39 s.vm) (eT : T.heap = h) {a : Addr} {k : ClassId} {z : Int32} {L : List Int32} (V : Arv Z h a k .char z (L.map Value.int) (.int 0)) {j : Int32} (hj : ¬ j < 0 ∧ j < z)
    {pc : Nat} {Ls : Array Slot} {rest : List Value} (hd : decode c.code pc = .ok (.caload, 1)) (target : State) (hr : Steps p.tables e below (T.setTop (mkF m (pc + 1) Ls (.int (own_get L j) :: rest))) target) : Steps p.tables e below (T.setTop (mkF m pc Ls (.int j :: .ref a :: rest))) target :=
  own_ldC X hx hZ eT V hj (own_getD L _) hd target hr
theorem own_stBs {p : Program} {l : Launch} {e : Env} {R : Room} {s : State} {m : MethodId} {args : Array Value} {below : List Frame} {meth : Method} {c : Code} {T : State} {locs : List Loc} {cells slots : Nat} {Z : State} {h : Heap} {n0 : Nat} (X : Stand p l e R s m args below meth c T locs cells slots) (N : Fr n0 locs) (hx : p.tables.exec = Jvm.exec) (hZ : Z.Warmed39 s.vm) (eT : T.heap = h) {a : Addr} {k : ClassId} {z : Int32} {L : List Int32} {d : Value} (V : Arv Z h a k .byte z (L.map Value.int) d) (ga : n0 ≤ a) {j x : Int32} (hj : own_in L j z)
    {pc : Nat} {Ls : Array Slot} {rest : List Value} (hd : decode c.code pc = .ok (.bastore, 1)) :
    ∃ T' h' L', Stand p l e R s m args below meth c T' L' cells slots ∧ Fr n0 L' ∧ T'.heap = h' ∧ Wr h h' a j.toNatClampNeg (.int x.toInt8.toInt32) ∧ Arv Z h' a k .byte z ((own_set L j x.toInt8.toInt32).map Value.int) d ∧
      ∀ target, Steps p.tables e below (T'.setTop (mkF m (pc + 1) Ls rest)) target → Steps p.tables e below (T.setTop (mkF m pc Ls (.int x :: .int j :: .ref a :: rest))) target := by
  have r := own_stB X N hx hZ eT V ga (x := x) hj.1 rfl (by rw [List.length_map]; exact hj.2) (Ls := Ls) (rest := rest) hd
  have q : (own_set L j x.toInt8.toInt32).map Value.int = (L.map Value.int).set j.toNatClampNeg (.int x.toInt8.toInt32) := by simp [own_set, List.map_set]
  rw [q]; exact r
theorem own_stCs {p : Program} {l : Launch} {e : Env} {R : Room} {s : State} {m : MethodId} {args : Array Value} {below : List Frame} {meth : Method} {c : Code} {T : State} {locs : List Loc} {cells slots : Nat} {Z : State} {h : Heap} {n0 : Nat} (X : Stand p l e R s m args below meth c T locs cells slots) (N : Fr n0 locs) (hx : p.tables.exec = Jvm.exec) (hZ : Z.Warmed39 s.vm) (eT : T.heap = h) {a : Addr} {k : ClassId} {z : Int32} {L : List Int32} {d : Value} (V : Arv Z h a k .char z (L.map Value.int) d) (ga : n0 ≤ a) {j x : Int32} (hj : own_in L j z)
    {pc : Nat} {Ls : Array Slot} {rest : List Value} (hd : decode c.code pc = .ok (.castore, 1)) :
    ∃ T' h' L', Stand p l e R s m args below meth c T' L' cells slots ∧ Fr n0 L' ∧ T'.heap = h' ∧ Wr h h' a j.toNatClampNeg (.int (nar .char x)) ∧ Arv Z h' a k .char z ((own_set L j (nar .char x)).map Value.int) d ∧
      ∀ target, Steps p.tables e below (T'.setTop (mkF m (pc + 1) Ls rest)) target → Steps p.tables e below (T.setTop (mkF m pc Ls (.int x :: .int j :: .ref a :: rest))) target := by
  have r := own_stC X N hx hZ eT V ga (x := x) hj.1 rfl (by rw [List.length_map]; exact hj.2) (Ls := Ls) (rest := rest) hd
  have q : (own_set L j (nar .char x)).map Value.int = (L.map Value.int).set j.toNatClampNeg (.int (nar .char x)) := by simp [own_set, List.map_set]
  rw [q]; exact r
theorem own_sl {L : List Int32} {n : Nat} (h : L.length = n) (j x : Int32) : (own_set L j x).length = n := by simp [own_set, h]
def own_gc (x y : Int32) : Int32 := (nar .char ((((x &&& (255 : Int32)) <<< ((0 : Int32) &&& 31)) ||| ((y &&& (255 : Int32)) <<< ((8 : Int32) &&& 31))).toUInt32.toUInt16.toUInt32.toInt32))
def own_lo (c : Int32) : Int32 := (((c >>> ((0 : Int32) &&& 31)).toInt8.toInt32).toInt8.toInt32)
def own_hi (c : Int32) : Int32 := (((c >>> ((8 : Int32) &&& 31)).toInt8.toInt32).toInt8.toInt32)
theorem own_gn (j : Int32) : ¬ ((255 : Int32) < (own_get ([] : List Int32) j)) := by
  have e : own_get ([] : List Int32) j = 0 := by simp [own_get]
  rw [e]; decide
def own_cpl (L M : List Int32) (nn : Int32) : List Int32 := own_take L nn.toNatClampNeg ++ M.drop nn.toNatClampNeg
theorem own_cpll {L M : List Int32} {nn : Int32} (h : nn.toNatClampNeg ≤ M.length) : (own_cpl L M nn).length = M.length := by
  simp only [own_cpl, own_take, List.length_append, List.length_map, List.length_range, List.length_drop]; omega
theorem own_cpB {p : Program} {l : Launch} {e : Env} {R : Room} {s : State} {m : MethodId} {args : Array Value} {below : List Frame} {meth : Method} {c : Code} {T : State} {locs : List Loc} {cells slots : Nat} {Z : State} {a0 : Array Value} {h : Heap} {n0 : Nat}
    (X : Stand p l e R s m args below meth c T locs cells slots) (N : Fr n0 locs) (hx : p.tables.exec = Jvm.exec) (hZ : Z.Warmed39 s.vm) {own : String} {index : Nat} (hown : s.vm.findClass own = some m.cls)
    (w1 : (Jvm.Cond.methodLink own index Jvm.Stand.acN).before a0 Z = true) (w2 : (Jvm.Cond.native Jvm.Stand.acN).before a0 Z = true) (w3 : (Jvm.Cond.static Jvm.Stand.acN).before a0 Z = true) (w4 : (Jvm.Cond.initialized "java/lang/System").before a0 Z = true) (eT : T.heap = h)
    {a b : Addr} {k k' : ClassId} {z z' nn : Int32} {L M : List Int32} (A : Arv Z h a k .byte z (L.map Value.int) (.int 0)) (B : Arv Z h b k' .byte z' (M.map Value.int) (.int 0)) (ge : n0 ≤ b)
    (h3 : ¬ nn < 0) (h4 : nn.toNatClampNeg ≤ z.toNatClampNeg) (h5 : nn.toNatClampNeg ≤ z'.toNatClampNeg) (h6 : nn.toNatClampNeg ≤ M.length)
    {pc : Nat} {Ls : Array Slot} {rest : List Value} (hsize : Ls.size = c.maxLocals) (hd : decode c.code pc = .ok (.invokestatic index, 3)) (hf : 1 ≤ R.frames) {W : Nat} (hW : 2 * 0 + (rest.map fun v => v.category).sum ≤ W) (hlo : W + 40 ≤ R.locals) :
    ∃ T' h' L', Stand p l e R s m args below meth c T' L' cells slots ∧ Fr n0 L' ∧ T'.heap = h' ∧ Keep h h' [b] ∧ Arv Z h' b k' .byte z' ((own_cpl L M nn).map Value.int) (.int 0) ∧
      ∀ target, Steps p.tables e below (T'.setTop (mkF m (pc + 3) Ls rest)) target → Steps p.tables e below (T.setTop (mkF m pc Ls (.int nn :: .int 0 :: .ref b :: .int 0 :: .ref a :: rest))) target := by
  have q0 : (0 : Int32).toNatClampNeg = 0 := rfl
  obtain ⟨T', h', L', X', e', N', K, V, st⟩ := cpA X hx hZ hown w1 w2 w3 w4 eT A B (Or.inl ⟨rfl, rfl⟩) (sp := 0) (dp := 0) (nn := nn) (by decide) (by decide) h3 (by rw [q0]; omega) (by rw [q0]; omega) rfl (by rw [q0, List.length_map]; omega) N ge
    (g := mkF m pc Ls (.int nn :: .int 0 :: .ref b :: .int 0 :: .ref a :: rest)) rfl hsize rfl hd hf hW (own_nfw hlo)
  refine ⟨T', h', L', X', N', e', K, ?_, st⟩
  have q : (M.map Value.int).take (0 : Int32).toNatClampNeg ++ ((List.range nn.toNatClampNeg).map fun i => (L.map Value.int).getD ((0 : Int32).toNatClampNeg + i) (.int 0)) ++ (M.map Value.int).drop ((0 : Int32).toNatClampNeg + nn.toNatClampNeg) = (own_cpl L M nn).map Value.int := by
    rw [q0, Nat.zero_add]
    simp only [List.take_zero, List.nil_append, own_cpl, own_take, List.map_append, List.map_map, List.map_drop, Nat.zero_add]
    congr 1
    exact List.map_congr_left fun i _ => own_getD L i
  rw [q] at V; exact V
theorem own_mn {j : Int32} (h0 : ¬ j < 0) (h : j.toNatClampNeg ≤ 3) : ¬ (64 : Int32) < j := by
  rw [Int32.lt_iff_toInt_lt] at *
  have e0 : (0 : Int32).toInt = 0 := rfl
  have e1 : (64 : Int32).toInt = 64 := rfl
  rw [Int32.toNatClampNeg] at h
  omega
theorem own_s0 (x : Int32) : x - (0 : Int32) = x := by simp
theorem own_a0 (x : Int32) : (0 : Int32) + x = x := by simp
theorem own_lt64 {j : Int32} (h0 : ¬ j < 0) (h : j.toNatClampNeg ≤ 3) : j < (64 : Int32) := by
  rw [Int32.lt_iff_toInt_lt] at *
  have e0 : (0 : Int32).toInt = 0 := rfl
  have e1 : (64 : Int32).toInt = 64 := rfl
  rw [Int32.toNatClampNeg] at h
  omega
theorem own_le64 {j : Int32} (h : j.toNatClampNeg ≤ 3) : j.toNatClampNeg ≤ (64 : Int32).toNatClampNeg := Nat.le_trans h (by decide)
theorem own_ne64 {j : Int32} (h0 : ¬ j < 0) (h : j.toNatClampNeg ≤ 3) : ¬ j = (64 : Int32) := fun e => by
  subst e; exact absurd h (by decide)
theorem own_three {j : Int32} (h0 : ¬ j < 0) (h : j.toNatClampNeg ≤ 3) : j = 0 ∨ j = 1 ∨ j = 2 ∨ j = 3 := by
  rw [Int32.lt_iff_toInt_lt] at *
  rw [Int32.toNatClampNeg] at h
  simp only [← Int32.toInt_inj, show (0 : Int32).toInt = 0 from rfl, show (1 : Int32).toInt = 1 from rfl, show (2 : Int32).toInt = 2 from rfl, show (3 : Int32).toInt = 3 from rfl] at *
  omega
theorem own_or64 {j : Int32} (h0 : ¬ j < 0) (h : j.toNatClampNeg ≤ 3) : ¬ ((((64 : Int32) ||| (0 : Int32)) ||| j) < (0 : Int32)) := by
  rcases own_three h0 h with rfl | rfl | rfl | rfl <;> decide
theorem own_irr (x : Int32) : ¬ x < x := by rw [Int32.lt_iff_toInt_lt]; omega
def own_al (n1 : Int32) : Nat → Int32 → Prop
  | 0, i => ¬ i < n1
  | f + 1, i => i < n1 ∧ ¬ i < (0 : Int32) ∧ own_al n1 f (i + 1)
theorem own_alf (n1 : Int32) : ∀ (f : Nat) (i : Int32), 0 ≤ i.toInt → i.toInt + f = n1.toInt → own_al n1 f i
  | 0, i, _, h => by
    show ¬ i < n1
    rw [Int32.lt_iff_toInt_lt]; omega
  | f + 1, i, h0, h => by
    have r1 := rng32 n1
    refine ⟨?_, ?_, own_alf n1 f (i + 1) ?_ ?_⟩
    · rw [Int32.lt_iff_toInt_lt]; omega
    · rw [Int32.lt_iff_toInt_lt, show (0 : Int32).toInt = 0 from rfl]; omega
    all_goals
      have g := c_iadd i 1
      have r := rng32 (i + 1)
      have e1 : (1 : Int32).toInt = 1 := rfl
      omega
theorem own_al0 {n1 : Int32} (h : ¬ n1 < (0 : Int32)) : own_al n1 n1.toNatClampNeg (0 : Int32) := by
  rw [Int32.lt_iff_toInt_lt, show (0 : Int32).toInt = 0 from rfl] at h
  refine own_alf n1 _ 0 (by decide) ?_
  rw [Int32.toNatClampNeg, show (0 : Int32).toInt = 0 from rfl]; omega
theorem own_ql3 {j : Int32} (h0 : ¬ j < 0) (h : j.toNatClampNeg ≤ 3) : ¬ ((2147483639 : Int64) < ((0 : Int64) + (j.toInt64))) := by
  rcases own_three h0 h with rfl | rfl | rfl | rfl <;> decide
theorem own_inn {L : List Int32} {i n : Int32} (h0 : ¬ i < (0 : Int32)) (h1 : i < n) (hl : L.length = n.toNatClampNeg) : own_in L i n := by
  refine ⟨⟨h0, h1⟩, ?_⟩
  rw [Int32.lt_iff_toInt_lt] at h0 h1
  have e0 : (0 : Int32).toInt = 0 := rfl
  rw [hl, Int32.toNatClampNeg, Int32.toNatClampNeg]; omega
theorem own_ltM {j : Int32} (h0 : ¬ j < 0) (h : j.toNatClampNeg ≤ 3) : j < (1073741823 : Int32) := by
  rcases own_three h0 h with rfl | rfl | rfl | rfl <;> decide
theorem own_sh6 {j : Int32} (h0 : ¬ j < 0) (h : j.toNatClampNeg ≤ 3) : ¬ ((j <<< ((1 : Int32) &&& 31)) < (0 : Int32)) ∧ (j <<< ((1 : Int32) &&& 31)).toNatClampNeg ≤ 6 := by
  rcases own_three h0 h with rfl | rfl | rfl | rfl <;> decide
theorem own_shh {j : Int32} (h0 : ¬ j < 0) (h : j.toNatClampNeg ≤ 3) : ((j <<< ((1 : Int32) &&& 31)) >>> ((1 : Int32) &&& 31)) = j := by
  rcases own_three h0 h with rfl | rfl | rfl | rfl <;> decide
theorem own_or3 {j : Int32} (h0 : ¬ j < 0) (h : j.toNatClampNeg ≤ 3) : ¬ (((((j <<< ((1 : Int32) &&& 31)) >>> ((1 : Int32) &&& 31)) ||| (0 : Int32)) ||| j) < (0 : Int32)) := by
  rcases own_three h0 h with rfl | rfl | rfl | rfl <;> decide
theorem own_sb3 {j : Int32} (h0 : ¬ j < 0) (h : j.toNatClampNeg ≤ 3) : ¬ ((((j <<< ((1 : Int32) &&& 31)) >>> ((1 : Int32) &&& 31)) - (0 : Int32)) < j) := by
  rcases own_three h0 h with rfl | rfl | rfl | rfl <;> decide
theorem own_k16 {j : Int32} (h0 : ¬ j < 0) (h : j.toNatClampNeg ≤ 3) : ¬ ((16384 : Int32) < ((0 : Int32) + j)) := by
  rcases own_three h0 h with rfl | rfl | rfl | rfl <;> decide
theorem own_k16' {j : Int32} (h0 : ¬ j < 0) (h : j.toNatClampNeg ≤ 3) : ¬ ((16384 : Int32) < j) := by
  rcases own_three h0 h with rfl | rfl | rfl | rfl <;> decide
theorem own_i64 {C : List Int32} {i n : Int32} (h0 : ¬ i < (0 : Int32)) (h1 : i < n) (h3 : n.toNatClampNeg ≤ 3) (hl : C.length = 64) : own_in C i (64 : Int32) := by
  rw [Int32.lt_iff_toInt_lt] at h0 h1
  rw [Int32.toNatClampNeg] at h3
  have e0 : (0 : Int32).toInt = 0 := rfl
  have e1 : (64 : Int32).toInt = 64 := rfl
  refine ⟨⟨?_, ?_⟩, ?_⟩
  · rw [Int32.lt_iff_toInt_lt]; exact h0
  · rw [Int32.lt_iff_toInt_lt]; omega
  · rw [hl, Int32.toNatClampNeg]; omega
theorem own_j64 {C : List Int32} {j : Int32} (h0 : ¬ j < (0 : Int32)) (h3 : j.toNatClampNeg ≤ 3) (hl : C.length = 64) : own_in C j (64 : Int32) :=
  ⟨⟨h0, own_lt64 h0 h3⟩, by rw [hl]; exact Nat.lt_of_le_of_lt h3 (by decide)⟩
theorem own_k17 {j : Int32} (h0 : ¬ j < 0) (h : j.toNatClampNeg ≤ 3) : ¬ ((16384 : Int32) < (j + (1 : Int32))) := by
  rcases own_three h0 h with rfl | rfl | rfl | rfl <;> decide
theorem own_l64 {j : Int32} (h0 : ¬ j < 0) (h : j.toNatClampNeg ≤ 3) : ¬ (((64 : Int32) - j) < (1 : Int32)) := by
  rcases own_three h0 h with rfl | rfl | rfl | rfl <;> decide
abbrev own_cS : String := "java/lang/String"
abbrev own_cT : String := "com/example/fields_in_tables/fieldsintables/TextBuilder"
abbrev own_cU : String := "java/lang/StringUTF16"
abbrev own_cP : String := "jdk/internal/util/Preconditions"
abbrev own_cA : String := "java/util/ArrayList"
abbrev own_R66 : Room := { frames := 0, cells := 0, slots := 0, locals := 0 }
theorem own_pn66 : plainFor (⟨"java/lang/Math", "min", "(II)I"⟩ : MethodName) = true := Jvm.Free.JP.mathPlain rfl (by decide +kernel)
def own_F66 (p0 : Int32) (p1 : Int32) : Int32 := (if p1 < p0 then p1 else p0)
abbrev own_EL : List (String × Nat) := [("java/lang/String", 7)]
abbrev own_eS0 (Z : State) (h : Heap) (v : Value) : Prop := Sta Z h own_cP "SIOOBE_FORMATTER" "Ljava/util/function/BiFunction;" v
abbrev own_eS1 (Z : State) (h : Heap) (v : Value) : Prop := Sta Z h own_cS "COMPACT_STRINGS" "Z" v
abbrev own_eS2 (Z : State) (h : Heap) (v : Value) : Prop := Sta Z h own_cU "$assertionsDisabled" "Z" v
abbrev own_eS3 (Z : State) (h : Heap) (v : Value) : Prop := Sta Z h own_cU "HI_BYTE_SHIFT" "I" v
abbrev own_eS4 (Z : State) (h : Heap) (v : Value) : Prop := Sta Z h own_cU "LO_BYTE_SHIFT" "I" v
abbrev own_eS5 (Z : State) (h : Heap) (v : Value) : Prop := Sta Z h "sun/nio/cs/UTF_8" "INSTANCE" "Lsun/nio/cs/UTF_8;" v
abbrev own_eS6 (Z : State) (h : Heap) (v : Value) : Prop := Sta Z h "sun/nio/cs/ISO_8859_1" "INSTANCE" "Lsun/nio/cs/ISO_8859_1;" v
abbrev own_eS7 (Z : State) (h : Heap) (v : Value) : Prop := Sta Z h own_cA "DEFAULTCAPACITY_EMPTY_ELEMENTDATA" "[Ljava/lang/Object;" v
abbrev own_eS8 (Z : State) (h : Heap) (v : Value) : Prop := Sta Z h "java/nio/charset/StandardCharsets" "ISO_8859_1" "Ljava/nio/charset/Charset;" v
abbrev own_eF9 (Z : State) (h : Heap) (a : Addr) (v : Value) : Prop := Fld Z h a own_cS "coder" "B" v
abbrev own_eF10 (Z : State) (h : Heap) (a : Addr) (v : Value) : Prop := Fld Z h a own_cS "value" "[B" v
abbrev own_eF11 (Z : State) (h : Heap) (a : Addr) (v : Value) : Prop := Fld Z h a own_cT "latin1" "[B" v
abbrev own_eF12 (Z : State) (h : Heap) (a : Addr) (v : Value) : Prop := Fld Z h a own_cT "setAsideLength" "J" v
abbrev own_eF13 (Z : State) (h : Heap) (a : Addr) (v : Value) : Prop := Fld Z h a own_cT "length" "I" v
abbrev own_eF14 (Z : State) (h : Heap) (a : Addr) (v : Value) : Prop := Fld Z h a own_cT "chars" "[C" v
abbrev own_eF15 (Z : State) (h : Heap) (a : Addr) (v : Value) : Prop := Fld Z h a own_cT "spareChars" "[C" v
abbrev own_eF16 (Z : State) (h : Heap) (a : Addr) (v : Value) : Prop := Fld Z h a own_cT "setAside" "Ljava/util/List;" v
abbrev own_eF17 (Z : State) (h : Heap) (a : Addr) (v : Value) : Prop := Fld Z h a "java/util/AbstractList" "modCount" "I" v
abbrev own_eF18 (Z : State) (h : Heap) (a : Addr) (v : Value) : Prop := Fld Z h a own_cA "elementData" "[Ljava/lang/Object;" v
abbrev own_eF19 (Z : State) (h : Heap) (a : Addr) (v : Value) : Prop := Fld Z h a own_cA "size" "I" v
abbrev own_aB (Z : State) (h : Heap) (a : Addr) (k : ClassId) (n : Int32) (L : List Int32) : Prop := Arv Z h a k .byte n (L.map Value.int) (.int 0)
abbrev own_aC (Z : State) (h : Heap) (a : Addr) (k : ClassId) (n : Int32) (L : List Int32) : Prop := Arv Z h a k .char n (L.map Value.int) (.int 0)
abbrev own_y0 : MethodName := ⟨"com/example/fields_in_tables/fieldsintables/TextBuilder", "<init>", "()V"⟩
abbrev own_y1 : MethodName := ⟨"com/example/fields_in_tables/fieldsintables/TextBuilder", "append", "(C)V"⟩
abbrev own_y2 : MethodName := ⟨"com/example/fields_in_tables/fieldsintables/TextBuilder", "append", "(Ljava/lang/String;)V"⟩
abbrev own_y3 : MethodName := ⟨"com/example/fields_in_tables/fieldsintables/TextBuilder", "append", "(Ljava/lang/String;II)V"⟩
abbrev own_y4 : MethodName := ⟨"com/example/fields_in_tables/fieldsintables/TextBuilder", "appendKnown", "(Ljava/lang/String;IIZ)V"⟩
abbrev own_y5 : MethodName := ⟨"com/example/fields_in_tables/fieldsintables/TextBuilder", "appendKnownMakingRoom", "(Ljava/lang/String;IIZ)V"⟩
abbrev own_y6 : MethodName := ⟨"com/example/fields_in_tables/fieldsintables/TextBuilder", "appendMakingRoom", "(C)V"⟩
abbrev own_y7 : MethodName := ⟨"com/example/fields_in_tables/fieldsintables/TextBuilder", "checkLength", "(I)V"⟩
abbrev own_y8 : MethodName := ⟨"com/example/fields_in_tables/fieldsintables/TextBuilder", "chunkText", "()Ljava/lang/String;"⟩
abbrev own_y9 : MethodName := ⟨"com/example/fields_in_tables/fieldsintables/TextBuilder", "copyLowBytes", "(Ljava/lang/String;II)V"⟩
abbrev own_y10 : MethodName := ⟨"com/example/fields_in_tables/fieldsintables/TextBuilder", "inflate", "(I)V"⟩
abbrev own_y11 : MethodName := ⟨"com/example/fields_in_tables/fieldsintables/TextBuilder", "isEmpty", "()Z"⟩
abbrev own_y12 : MethodName := ⟨"com/example/fields_in_tables/fieldsintables/TextBuilder", "keepWithinChunk", "(I)V"⟩
abbrev own_y13 : MethodName := ⟨"com/example/fields_in_tables/fieldsintables/TextBuilder", "setAside", "(Ljava/lang/String;)V"⟩
abbrev own_y14 : MethodName := ⟨"com/example/fields_in_tables/fieldsintables/TextBuilder", "setChunkAside", "()V"⟩
abbrev own_y15 : MethodName := ⟨"com/example/fields_in_tables/fieldsintables/TextBuilder", "widen", "(I)V"⟩
abbrev own_y16 : MethodName := ⟨"com/example/fields_in_tables/fieldsintables/TextBuilderIsEmptyPinLaw", "drawn", "(III)Ljava/lang/String;"⟩
abbrev own_y17 : MethodName := ⟨"java/lang/Math", "max", "(II)I"⟩
abbrev own_y18 : MethodName := ⟨"java/lang/Math", "min", "(II)I"⟩
abbrev own_y19 : MethodName := ⟨"java/lang/String", "<init>", "(Ljava/nio/charset/Charset;[BII)V"⟩
abbrev own_y20 : MethodName := ⟨"java/lang/String", "<init>", "([BIILjava/nio/charset/Charset;)V"⟩
abbrev own_y21 : MethodName := ⟨"java/lang/String", "<init>", "([C)V"⟩
abbrev own_y22 : MethodName := ⟨"java/lang/String", "<init>", "([CII)V"⟩
abbrev own_y23 : MethodName := ⟨"java/lang/String", "<init>", "([CIILjava/lang/Void;)V"⟩
abbrev own_y24 : MethodName := ⟨"java/lang/String", "charAt", "(I)C"⟩
abbrev own_y25 : MethodName := ⟨"java/lang/String", "checkBoundsBeginEnd", "(III)V"⟩
abbrev own_y26 : MethodName := ⟨"java/lang/String", "checkBoundsOffCount", "(III)I"⟩
abbrev own_y27 : MethodName := ⟨"java/lang/String", "checkIndex", "(II)V"⟩
abbrev own_y28 : MethodName := ⟨"java/lang/String", "coder", "()B"⟩
abbrev own_y29 : MethodName := ⟨"java/lang/String", "getBytes", "(II[BI)V"⟩
abbrev own_y30 : MethodName := ⟨"java/lang/String", "getChars", "(II[CI)V"⟩
abbrev own_y31 : MethodName := ⟨"java/lang/String", "isLatin1", "()Z"⟩
abbrev own_y32 : MethodName := ⟨"java/lang/String", "length", "()I"⟩
abbrev own_y33 : MethodName := ⟨"java/lang/String", "rangeCheck", "([CII)Ljava/lang/Void;"⟩
abbrev own_y34 : MethodName := ⟨"java/lang/String", "substring", "(II)Ljava/lang/String;"⟩
abbrev own_y35 : MethodName := ⟨"java/lang/StringLatin1", "charAt", "([BI)C"⟩
abbrev own_y36 : MethodName := ⟨"java/lang/StringLatin1", "getBytes", "([BII[BI)V"⟩
abbrev own_y37 : MethodName := ⟨"java/lang/StringLatin1", "getChars", "([BII[CI)V"⟩
abbrev own_y38 : MethodName := ⟨"java/lang/StringLatin1", "inflate", "([BI[CII)V"⟩
abbrev own_y39 : MethodName := ⟨"java/lang/StringUTF16", "charAt", "([BI)C"⟩
abbrev own_y40 : MethodName := ⟨"java/lang/StringUTF16", "checkBoundsOffCount", "(II[B)V"⟩
abbrev own_y41 : MethodName := ⟨"java/lang/StringUTF16", "checkIndex", "(I[B)V"⟩
abbrev own_y42 : MethodName := ⟨"java/lang/StringUTF16", "coderFromArrayLen", "([BI)B"⟩
abbrev own_y43 : MethodName := ⟨"java/lang/StringUTF16", "compress", "([CII)[B"⟩
abbrev own_y44 : MethodName := ⟨"java/lang/StringUTF16", "compress", "([CI[BII)I"⟩
abbrev own_y45 : MethodName := ⟨"java/lang/StringUTF16", "getChar", "([BI)C"⟩
abbrev own_y46 : MethodName := ⟨"java/lang/StringUTF16", "getChars", "([BII[CI)V"⟩
abbrev own_y47 : MethodName := ⟨"java/lang/StringUTF16", "length", "([B)I"⟩
abbrev own_y48 : MethodName := ⟨"java/lang/StringUTF16", "newBytesFor", "(I)[B"⟩
abbrev own_y49 : MethodName := ⟨"java/lang/StringUTF16", "newBytesLength", "(I)I"⟩
abbrev own_y50 : MethodName := ⟨"java/lang/StringUTF16", "putChar", "([BII)V"⟩
abbrev own_y51 : MethodName := ⟨"java/lang/StringUTF16", "toBytes", "([CII)[B"⟩
abbrev own_y52 : MethodName := ⟨"java/util/AbstractCollection", "<init>", "()V"⟩
abbrev own_y53 : MethodName := ⟨"java/util/AbstractList", "<init>", "()V"⟩
abbrev own_y54 : MethodName := ⟨"java/util/ArrayList", "<init>", "()V"⟩
abbrev own_y55 : MethodName := ⟨"java/util/ArrayList", "add", "(Ljava/lang/Object;)Z"⟩
abbrev own_y56 : MethodName := ⟨"java/util/ArrayList", "add", "(Ljava/lang/Object;[Ljava/lang/Object;I)V"⟩
abbrev own_y57 : MethodName := ⟨"java/util/ArrayList", "grow", "()[Ljava/lang/Object;"⟩
abbrev own_y58 : MethodName := ⟨"java/util/ArrayList", "grow", "(I)[Ljava/lang/Object;"⟩
abbrev own_y59 : MethodName := ⟨"java/util/Arrays", "checkLength", "(II)V"⟩
abbrev own_y60 : MethodName := ⟨"java/util/Arrays", "copyOfRange", "([BII)[B"⟩
abbrev own_y61 : MethodName := ⟨"java/util/Arrays", "copyOfRangeByte", "([BII)[B"⟩
abbrev own_y62 : MethodName := ⟨"java/util/List", "add", "(Ljava/lang/Object;)Z"⟩
abbrev own_y63 : MethodName := ⟨"java/util/Objects", "requireNonNull", "(Ljava/lang/Object;)Ljava/lang/Object;"⟩
abbrev own_y64 : MethodName := ⟨"jdk/internal/util/Preconditions", "checkFromIndexSize", "(IIILjava/util/function/BiFunction;)I"⟩
abbrev own_y65 : MethodName := ⟨"jdk/internal/util/Preconditions", "checkFromToIndex", "(IIILjava/util/function/BiFunction;)I"⟩
abbrev own_y66 : MethodName := ⟨"jdk/internal/util/Preconditions", "checkIndex", "(IILjava/util/function/BiFunction;)I"⟩
abbrev own_Row : Type := Nat × Instr × Nat × Nat × Int32
def own_rc (pc : Nat) : Instr × Nat × Nat × Int32 → Bool
  | (.iconst i, n, q, v) => decide (Int32.ofInt i = v) && (Nat.beq n 1 && Nat.beq q (pc + 1))
  | (.bipush i, n, q, v) => decide ((Int8.ofInt i).toInt32 = v) && (Nat.beq n 2 && Nat.beq q (pc + 2))
  | (.sipush i, n, q, v) => decide ((Int16.ofInt i).toInt32 = v) && (Nat.beq n 3 && Nat.beq q (pc + 3))
  | (.iinc _ i, n, q, v) => decide (Int32.ofInt i = v) && (Nat.beq n 3 && Nat.beq q (pc + 3))
  | (.goto o, n, q, _) => Nat.beq n 3 && decide (0 ≤ (pc : Int) + o ∧ ((pc : Int) + o).toNat = q)
  | (.ifCond _ o, n, q, _) => Nat.beq n 3 && decide (0 ≤ (pc : Int) + o ∧ ((pc : Int) + o).toNat = q)
  | (.if_icmp _ o, n, q, _) => Nat.beq n 3 && decide (0 ≤ (pc : Int) + o ∧ ((pc : Int) + o).toNat = q)
  | (.ifnull o, n, q, _) => Nat.beq n 3 && decide (0 ≤ (pc : Int) + o ∧ ((pc : Int) + o).toNat = q)
  | (.ifnonnull o, n, q, _) => Nat.beq n 3 && decide (0 ≤ (pc : Int) + o ∧ ((pc : Int) + o).toNat = q)
  | (.iload _, n, q, _) => Nat.beq n 2 && Nat.beq q (pc + 2)
  | (.aload _, n, q, _) => Nat.beq n 2 && Nat.beq q (pc + 2)
  | (.istore _, n, q, _) => Nat.beq n 2 && Nat.beq q (pc + 2)
  | (.astore _, n, q, _) => Nat.beq n 2 && Nat.beq q (pc + 2)
  | (.iload_n _, n, q, _) => Nat.beq n 1 && Nat.beq q (pc + 1)
  | (.aload_n _, n, q, _) => Nat.beq n 1 && Nat.beq q (pc + 1)
  | (.istore_n _, n, q, _) => Nat.beq n 1 && Nat.beq q (pc + 1)
  | (.astore_n _, n, q, _) => Nat.beq n 1 && Nat.beq q (pc + 1)
  | (.aconst_null, n, q, _) => Nat.beq n 1 && Nat.beq q (pc + 1)
  | (.iadd, n, q, _) => Nat.beq n 1 && Nat.beq q (pc + 1)
  | (.isub, n, q, _) => Nat.beq n 1 && Nat.beq q (pc + 1)
  | (.iand, n, q, _) => Nat.beq n 1 && Nat.beq q (pc + 1)
  | (.ior, n, q, _) => Nat.beq n 1 && Nat.beq q (pc + 1)
  | (.ishl, n, q, _) => Nat.beq n 1 && Nat.beq q (pc + 1)
  | (.ishr, n, q, _) => Nat.beq n 1 && Nat.beq q (pc + 1)
  | (.iushr, n, q, _) => Nat.beq n 1 && Nat.beq q (pc + 1)
  | (.i2c, n, q, _) => Nat.beq n 1 && Nat.beq q (pc + 1)
  | (.i2b, n, q, _) => Nat.beq n 1 && Nat.beq q (pc + 1)
  | (.dup, n, q, _) => Nat.beq n 1 && Nat.beq q (pc + 1)
  | (.dup_x1, n, q, _) => Nat.beq n 1 && Nat.beq q (pc + 1)
  | (.pop, n, q, _) => Nat.beq n 1 && Nat.beq q (pc + 1)
  | _ => true
theorem own_bq {n k q r : Nat} (h : (Nat.beq n k && Nat.beq q r) = true) : n = k ∧ q = r := by
  have h' := (Bool.and_eq_true _ _).mp h
  exact ⟨Nat.eq_of_beq_eq_true h'.1, Nat.eq_of_beq_eq_true h'.2⟩
theorem own_bW {n k q r : Nat} {x y : Int32} (h : (decide (x = y) && (Nat.beq n k && Nat.beq q r)) = true) : x = y ∧ n = k ∧ q = r := by
  have h' := (Bool.and_eq_true _ _).mp h
  exact ⟨of_decide_eq_true h'.1, own_bq h'.2⟩
theorem own_bj {n k : Nat} {A : Prop} [Decidable A] (h : (Nat.beq n k && decide A) = true) : n = k ∧ A := by
  have h' := (Bool.and_eq_true _ _).mp h
  exact ⟨Nat.eq_of_beq_eq_true h'.1, of_decide_eq_true h'.2⟩
def own_ok (bs : ByteArray) (B : List own_Row) : Bool := B.all fun x => decide (decode bs x.1 = .ok (x.2.1, x.2.2.1)) && own_rc x.1 x.2
def own_lk : List own_Row → Nat → Option (Instr × Nat × Nat × Int32)
  | [], _ => none
  | x :: t, pc => match Nat.beq x.1 pc with
    | true => some x.2
    | false => own_lk t pc
theorem own_lkT {bs : ByteArray} {B : List own_Row} {pc : Nat} {r : Instr × Nat × Nat × Int32} (ho : own_ok bs B = true) (h : own_lk B pc = some r) : decode bs pc = .ok (r.1, r.2.1) ∧ own_rc pc r = true := by
  induction B with
  | nil => cases h
  | cons x t ih =>
    have h1 := (Bool.and_eq_true _ _).mp (show ((decide (decode bs x.1 = .ok (x.2.1, x.2.2.1)) && own_rc x.1 x.2) && own_ok bs t) = true from ho)
    have h2 := (Bool.and_eq_true _ _).mp h1.1
    cases hq : Nat.beq x.1 pc with
    | true =>
      simp only [own_lk, hq] at h
      cases h
      have := Nat.eq_of_beq_eq_true hq
      subst this
      exact ⟨of_decide_eq_true h2.1, h2.2⟩
    | false =>
      simp only [own_lk, hq] at h
      exact ih h1.2 h
def own_TB (p : Program) (c : Code) (B : List own_Row) : Prop := p.tables.exec = Jvm.exec ∧ ∀ (pc : Nat) (r : Instr × Nat × Nat × Int32), own_lk B pc = some r → decode c.code pc = .ok (r.1, r.2.1) ∧ own_rc pc r = true
theorem own_TBI {p : Program} {c : Code} {bs : ByteArray} {B : List own_Row} (hx : p.tables.exec = Jvm.exec) (hb' : c.code = bs) (ho : own_ok bs B = true) : own_TB p c B := ⟨hx, fun _ _ h => by rw [hb']; exact own_lkT ho h⟩
theorem own_dd {p : Program} {c : Code} {B : List own_Row} (D : own_TB p c B) {pc n q : Nat} {i : Instr} {v : Int32} (h : own_lk B pc = some (i, n, q, v)) : decode c.code pc = .ok (i, n) := (D.2 _ _ h).1
def own_nf {α β : Type} : List α → (List α → β) → β
  | [], K => K []
  | x :: t, K => own_nf t fun t' => K (x :: t')
theorem own_nfE {α β : Type} {L : List α} {K : List α → β} : own_nf L K = K L := by
  induction L generalizing K with
  | nil => rfl
  | cons x t ih => exact ih
section
variable {ρ : Type}
def own_gI (L : List Slot) (k : Nat) (K : Int32 → Option ρ) : Option ρ := match L.toArray[k]? with
  | some (.val (.int x)) => K x
  | _ => none
def own_gR (L : List Slot) (k : Nat) (K : Value → Option ρ) : Option ρ := match L.toArray[k]? with
  | some (.val (.ref a)) => K (.ref a)
  | some (.val .null) => K .null
  | _ => none
def own_pL (L : List Slot) (k : Nat) (v : Value) (K : List Slot → Option ρ) : Option ρ := match storeLocals L.toArray k v with
  | some l' => own_nf l'.toList K
  | none => none
def own_c1 (x : Value) (r : Option ρ) : Option ρ := match Nat.beq x.category 1 with
  | true => r
  | false => none
def own_s1 (st : List Value) (K : Int32 → List Value → Option ρ) : Option ρ := match st with
  | .int x :: t => K x t
  | _ => none
def own_s2 (st : List Value) (K : Int32 → Int32 → List Value → Option ρ) : Option ρ := match st with
  | .int y :: .int x :: t => K x y t
  | _ => none
def own_sR (st : List Value) (K : Value → List Value → Option ρ) : Option ρ := match st with
  | .ref a :: t => K (.ref a) t
  | .null :: t => K .null t
  | _ => none
theorem own_gIe {L : List Slot} {k : Nat} {K : Int32 → Option ρ} {r : ρ} (h : own_gI L k K = some r) : ∃ x, L.toArray[k]? = some (.val (.int x)) ∧ K x = some r := by
  unfold own_gI at h
  split at h
  · rename_i x hx; exact ⟨x, hx, h⟩
  · cases h
theorem own_gRe {L : List Slot} {k : Nat} {K : Value → Option ρ} {r : ρ} (h : own_gR L k K = some r) : ∃ x, L.toArray[k]? = some (.val x) ∧ x.isRef = true ∧ K x = some r := by
  unfold own_gR at h
  split at h
  · rename_i x hx; exact ⟨_, hx, rfl, h⟩
  · rename_i hx; exact ⟨_, hx, rfl, h⟩
  · cases h
theorem own_pLe {L : List Slot} {k : Nat} {v : Value} {K : List Slot → Option ρ} {r : ρ} (h : own_pL L k v K = some r) : ∃ L' : List Slot, storeLocals L.toArray k v = some L'.toArray ∧ K L' = some r := by
  unfold own_pL at h
  split at h
  · rename_i l' hl; rw [own_nfE] at h; exact ⟨l'.toList, hl.trans (by simp), h⟩
  · cases h
theorem own_c1e {x : Value} {q : Option ρ} {r : ρ} (h : own_c1 x q = some r) : x.category = 1 ∧ q = some r := by
  unfold own_c1 at h
  split at h
  · rename_i hx; exact ⟨Nat.eq_of_beq_eq_true hx, h⟩
  · cases h
theorem own_s1e {st : List Value} {K : Int32 → List Value → Option ρ} {r : ρ} (h : own_s1 st K = some r) : ∃ x t, st = .int x :: t ∧ K x t = some r := by
  unfold own_s1 at h
  split at h
  · exact ⟨_, _, rfl, h⟩
  · cases h
theorem own_s2e {st : List Value} {K : Int32 → Int32 → List Value → Option ρ} {r : ρ} (h : own_s2 st K = some r) : ∃ x y t, st = .int y :: .int x :: t ∧ K x y t = some r := by
  unfold own_s2 at h
  split at h
  · exact ⟨_, _, _, rfl, h⟩
  · cases h
theorem own_sRe {st : List Value} {K : Value → List Value → Option ρ} {r : ρ} (h : own_sR st K = some r) : ∃ x t, st = x :: t ∧ x.isRef = true ∧ K x t = some r := by
  unfold own_sR at h
  split at h
  · exact ⟨_, _, rfl, rfl, h⟩
  · exact ⟨_, _, rfl, rfl, h⟩
  · cases h
def own_st (i : Instr) (v : Int32) (L : List Slot) (st : List Value) (K : List Slot → List Value → Option ρ) : Option ρ := match i with
  | .iload_n k => own_gI L k.val fun x => K L (.int x :: st)
  | .iload k => own_gI L k fun x => K L (.int x :: st)
  | .aload_n k => own_gR L k.val fun x => K L (x :: st)
  | .aload k => own_gR L k fun x => K L (x :: st)
  | .iconst _ => K L (.int v :: st)
  | .bipush _ => K L (.int v :: st)
  | .sipush _ => K L (.int v :: st)
  | .aconst_null => K L (.null :: st)
  | .iadd => own_s2 st fun x y t => K L (.int (x + y) :: t)
  | .isub => own_s2 st fun x y t => K L (.int (x - y) :: t)
  | .iand => own_s2 st fun x y t => K L (.int (x &&& y) :: t)
  | .ior => own_s2 st fun x y t => K L (.int (x ||| y) :: t)
  | .ishl => own_s2 st fun x y t => K L (.int (x <<< (y &&& 31)) :: t)
  | .ishr => own_s2 st fun x y t => K L (.int (x >>> (y &&& 31)) :: t)
  | .iushr => own_s2 st fun x y t => K L (.int ((x.toUInt32 >>> (y &&& 31).toUInt32).toInt32) :: t)
  | .i2c => own_s1 st fun x t => K L (.int (x.toUInt32.toUInt16.toUInt32.toInt32) :: t)
  | .i2b => own_s1 st fun x t => K L (.int (x.toInt8.toInt32) :: t)
  | .dup => match st with
    | x :: t => own_c1 x (K L (x :: x :: t))
    | _ => none
  | .dup_x1 => match st with
    | x :: y :: t => own_c1 x (own_c1 y (K L (x :: y :: x :: t)))
    | _ => none
  | .pop => match st with
    | x :: t => own_c1 x (K L t)
    | _ => none
  | .istore_n k => own_s1 st fun x t => own_pL L k.val (.int x) fun L' => K L' t
  | .istore k => own_s1 st fun x t => own_pL L k (.int x) fun L' => K L' t
  | .astore_n k => own_sR st fun x t => own_pL L k.val x fun L' => K L' t
  | .astore k => own_sR st fun x t => own_pL L k x fun L' => K L' t
  | .iinc k _ => own_gI L k fun x => own_pL L k (.int (x + v)) fun L' => K L' st
  | .goto _ => K L st
  | _ => none
end
def own_run (B : List own_Row) : Nat → Nat → List Slot → List Value → Option (Nat × List Slot × List Value)
  | 0, pc, L, st => some (pc, L, st)
  | k + 1, pc, L, st => match own_lk B pc with
    | some (i, _, q, v) => own_st i v L st fun L' st' => own_run B k q L' st'
    | none => none
section OwnRun
variable {p : Program} {l : Launch} {e : Env} {R : Room} {s : State} {m : MethodId} {args : Array Value} {below : List Frame} {meth : Method} {c : Code} {T : State} {locs : List Loc} {cells slots : Nat} {Z : State} {a0 : Array Value} {h0 h : Heap} {n0 : Nat} {P : Outcome → State → Prop} {pc : Nat} {Ls : Array Slot} {st : List Value} {B : List own_Row}
theorem own_sSt {ρ : Type} (X : Stand p l e R s m args below meth c T locs cells slots) (hx : p.tables.exec = Jvm.exec) {i : Instr} {n q : Nat} {v : Int32} (hd : decode c.code pc = .ok (i, n)) (hr : own_rc pc (i, n, q, v) = true) {L : List Slot} {K : List Slot → List Value → Option ρ} {r : ρ} (h : own_st i v L st K = some r) :
    ∃ L' st', K L' st' = some r ∧ (own_G p e below P (T.setTop (mkF m q L'.toArray st')) → own_G p e below P (T.setTop (mkF m pc L.toArray st))) := by
  cases i with
  | iload_n k =>
    obtain ⟨rfl, rfl⟩ := own_bq hr
    obtain ⟨x, hl, h⟩ := own_gIe h
    exact ⟨_, _, h, fun H => own_via (fun t k => XS.iloadN X.here hx rfl hd hl k) H⟩
  | iload k =>
    obtain ⟨rfl, rfl⟩ := own_bq hr
    obtain ⟨x, hl, h⟩ := own_gIe h
    exact ⟨_, _, h, fun H => own_via (fun t k => XS.iload X.here hx rfl hd hl k) H⟩
  | aload_n k =>
    obtain ⟨rfl, rfl⟩ := own_bq hr
    obtain ⟨x, hl, hv, h⟩ := own_gRe (show own_gR L k.val (fun x => K L (x :: st)) = some r from h)
    exact ⟨_, _, h, fun H => own_via (fun t k => XS.aloadN X.here hx rfl hd hl hv k) H⟩
  | aload k =>
    obtain ⟨rfl, rfl⟩ := own_bq hr
    obtain ⟨x, hl, hv, h⟩ := own_gRe (show own_gR L k (fun x => K L (x :: st)) = some r from h)
    exact ⟨_, _, h, fun H => own_via (fun t k => XS.aload X.here hx rfl hd hl hv k) H⟩
  | iconst i =>
    obtain ⟨rfl, rfl, rfl⟩ := own_bW hr
    exact ⟨_, _, h, fun H => own_via (fun t k => XS.iconst X.here hx rfl hd k) H⟩
  | bipush i =>
    obtain ⟨rfl, rfl, rfl⟩ := own_bW hr
    exact ⟨_, _, h, fun H => own_via (fun t k => XS.bipush X.here hx rfl hd k) H⟩
  | sipush i =>
    obtain ⟨rfl, rfl, rfl⟩ := own_bW hr
    exact ⟨_, _, h, fun H => own_via (fun t k => XS.sipush X.here hx rfl hd k) H⟩
  | aconst_null =>
    obtain ⟨rfl, rfl⟩ := own_bq hr
    exact ⟨_, _, h, fun H => own_via (fun t k => XS.aconstNull X.here hx rfl hd k) H⟩
  | iadd =>
    obtain ⟨rfl, rfl⟩ := own_bq hr
    obtain ⟨x, y, t, rfl, h⟩ := own_s2e h
    exact ⟨_, _, h, fun H => own_via (fun t k => XS.iadd X.here hx rfl hd rfl k) H⟩
  | isub =>
    obtain ⟨rfl, rfl⟩ := own_bq hr
    obtain ⟨x, y, t, rfl, h⟩ := own_s2e h
    exact ⟨_, _, h, fun H => own_via (fun t k => XS.isub X.here hx rfl hd rfl k) H⟩
  | iand =>
    obtain ⟨rfl, rfl⟩ := own_bq hr
    obtain ⟨x, y, t, rfl, h⟩ := own_s2e h
    exact ⟨_, _, h, fun H => own_via (fun t k => XS.iand X.here hx rfl hd rfl k) H⟩
  | ior =>
    obtain ⟨rfl, rfl⟩ := own_bq hr
    obtain ⟨x, y, t, rfl, h⟩ := own_s2e h
    exact ⟨_, _, h, fun H => own_via (fun t k => XS.ior X.here hx rfl hd rfl k) H⟩
  | ishl =>
    obtain ⟨rfl, rfl⟩ := own_bq hr
    obtain ⟨x, y, t, rfl, h⟩ := own_s2e h
    exact ⟨_, _, h, fun H => own_via (fun t k => XS.ishl X.here hx rfl hd rfl k) H⟩
  | ishr =>
    obtain ⟨rfl, rfl⟩ := own_bq hr
    obtain ⟨x, y, t, rfl, h⟩ := own_s2e h
    exact ⟨_, _, h, fun H => own_via (fun t k => XS.ishr X.here hx rfl hd rfl k) H⟩
  | iushr =>
    obtain ⟨rfl, rfl⟩ := own_bq hr
    obtain ⟨x, y, t, rfl, h⟩ := own_s2e h
    exact ⟨_, _, h, fun H => own_via (fun t k => XS.iushr X.here hx rfl hd rfl k) H⟩
  | i2c =>
    obtain ⟨rfl, rfl⟩ := own_bq hr
    obtain ⟨x, t, rfl, h⟩ := own_s1e h
    exact ⟨_, _, h, fun H => own_via (fun t k => XS.i2c X.here hx rfl hd rfl k) H⟩
  | i2b =>
    obtain ⟨rfl, rfl⟩ := own_bq hr
    obtain ⟨x, t, rfl, h⟩ := own_s1e h
    exact ⟨_, _, h, fun H => own_via (fun t k => XS.i2b X.here hx rfl hd rfl k) H⟩
  | dup =>
    obtain ⟨rfl, rfl⟩ := own_bq hr
    cases st with
    | nil => cases h
    | cons x t =>
      obtain ⟨hc, h⟩ := own_c1e (show own_c1 x (K L (x :: x :: t)) = some r from h)
      exact ⟨_, _, h, fun H => own_via (fun t k => XS.dup X.here hx rfl hd rfl hc k) H⟩
  | pop =>
    obtain ⟨rfl, rfl⟩ := own_bq hr
    cases st with
    | nil => cases h
    | cons x t =>
      obtain ⟨hc, h⟩ := own_c1e (show own_c1 x (K L t) = some r from h)
      exact ⟨_, _, h, fun H => own_via (fun t k => XS.pop X.here hx rfl hd rfl hc k) H⟩
  | dup_x1 =>
    obtain ⟨rfl, rfl⟩ := own_bq hr
    cases st with
    | nil => cases h
    | cons x t =>
      cases t with
      | nil => cases h
      | cons y t =>
        obtain ⟨hc, h⟩ := own_c1e (show own_c1 x (own_c1 y (K L (x :: y :: x :: t))) = some r from h)
        obtain ⟨hc', h⟩ := own_c1e h
        exact ⟨_, _, h, fun H => own_via (fun t k => XS.dupX1 X.here hx rfl hd rfl hc hc' k) H⟩
  | istore_n k =>
    obtain ⟨rfl, rfl⟩ := own_bq hr
    obtain ⟨x, t, rfl, h⟩ := own_s1e h
    obtain ⟨L', hl, h⟩ := own_pLe h
    exact ⟨_, _, h, fun H => own_via (fun t k => XS.istoreN X.here hx rfl hd rfl hl k) H⟩
  | istore k =>
    obtain ⟨rfl, rfl⟩ := own_bq hr
    obtain ⟨x, t, rfl, h⟩ := own_s1e h
    obtain ⟨L', hl, h⟩ := own_pLe h
    exact ⟨_, _, h, fun H => own_via (fun t k => XS.istore X.here hx rfl hd rfl hl k) H⟩
  | astore_n k =>
    obtain ⟨rfl, rfl⟩ := own_bq hr
    obtain ⟨x, t, rfl, hv, h⟩ := own_sRe (show own_sR st (fun x t => own_pL L k.val x fun L' => K L' t) = some r from h)
    obtain ⟨L', hl, h⟩ := own_pLe h
    exact ⟨_, _, h, fun H => own_via (fun t k => XS.astoreN X.here hx rfl hd rfl hv hl k) H⟩
  | astore k =>
    obtain ⟨rfl, rfl⟩ := own_bq hr
    obtain ⟨x, t, rfl, hv, h⟩ := own_sRe (show own_sR st (fun x t => own_pL L k x fun L' => K L' t) = some r from h)
    obtain ⟨L', hl, h⟩ := own_pLe h
    exact ⟨_, _, h, fun H => own_via (fun t k => XS.astore X.here hx rfl hd rfl hv hl k) H⟩
  | iinc k i =>
    obtain ⟨rfl, rfl, rfl⟩ := own_bW hr
    obtain ⟨x, hl, h⟩ := own_gIe h
    obtain ⟨L', hl', h⟩ := own_pLe h
    exact ⟨_, _, h, fun H => own_via (fun t k => XS.iinc X.here hx rfl hd hl hl' k) H⟩
  | goto o =>
    obtain ⟨rfl, ho, rfl⟩ := own_bj hr
    exact ⟨_, _, h, fun H => own_via (fun t k => XS.goto X.here hx rfl rfl hd ho rfl k) H⟩
  | _ => cases h
theorem own_rS (X : Stand p l e R s m args below meth c T locs cells slots) (D : own_TB p c B) {L' : List Slot} {st' : List Value} {q : Nat} (H : own_G p e below P (T.setTop (mkF m q L'.toArray st'))) :
    ∀ (k pc : Nat) (L : List Slot) (st : List Value), own_run B k pc L st = some (q, L', st') → own_G p e below P (T.setTop (mkF m pc L.toArray st)) := by
  intro k
  induction k with
  | zero => intro pc L st h; cases h; exact H
  | succ k ih =>
    intro pc L st h
    unfold own_run at h
    split at h
    · rename_i i n q1 v hl
      obtain ⟨h1, h2⟩ := D.2 _ _ hl
      obtain ⟨L1, st1, h, G⟩ := own_sSt (P := P) (i := i) (n := n) (q := q1) (v := v) X D.1 h1 h2 h
      exact G (ih _ _ _ h)
    · cases h
theorem own_r (X : Stand p l e R s m args below meth c T locs cells slots) (D : own_TB p c B) (k : Nat) {L L' : List Slot} {st' : List Value} {q : Nat} (h : own_run B k pc L st = some (q, L', st')) (H : own_G p e below P (T.setTop (mkF m q L'.toArray st'))) : own_G p e below P (T.setTop (mkF m pc L.toArray st)) := own_rS X D H k pc L st h
theorem own_fY (X : Stand p l e R s m args below meth c T locs cells slots) (D : own_TB p c B) {cd : ClassFile.Cond} {x : Int32} {o : Int} {q n : Nat} {v : Int32} (hd : own_lk B pc = some (.ifCond cd o, n, q, v)) (hc : if_icmp.holds cd x 0 = true) (H : own_G p e below P (T.setTop (mkF m q Ls st))) : own_G p e below P (T.setTop (mkF m pc Ls (.int x :: st))) := by
  obtain ⟨h1, h2⟩ := D.2 _ _ hd
  obtain ⟨rfl, ho, rfl⟩ := own_bj h2
  exact own_via (fun t k => XS.ifYes X.here D.1 rfl rfl h1 rfl ((if0 _ _).trans hc) ho rfl k) H
theorem own_fN (X : Stand p l e R s m args below meth c T locs cells slots) (D : own_TB p c B) {cd : ClassFile.Cond} {x : Int32} {o : Int} {q n : Nat} {v : Int32} (hd : own_lk B pc = some (.ifCond cd o, n, q, v)) (hc : if_icmp.holds cd x 0 = false) (H : own_G p e below P (T.setTop (mkF m (pc + 3) Ls st))) : own_G p e below P (T.setTop (mkF m pc Ls (.int x :: st))) := by
  obtain ⟨h1, h2⟩ := D.2 _ _ hd
  obtain ⟨rfl, ho, rfl⟩ := own_bj h2
  exact own_via (fun t k => XS.ifNo X.here D.1 rfl h1 rfl ((if0 _ _).trans hc) k) H
theorem own_cY (X : Stand p l e R s m args below meth c T locs cells slots) (D : own_TB p c B) {cd : ClassFile.Cond} {x y : Int32} {o : Int} {q n : Nat} {v : Int32} (hd : own_lk B pc = some (.if_icmp cd o, n, q, v)) (hc : if_icmp.holds cd x y = true) (H : own_G p e below P (T.setTop (mkF m q Ls st))) : own_G p e below P (T.setTop (mkF m pc Ls (.int y :: .int x :: st))) := by
  obtain ⟨h1, h2⟩ := D.2 _ _ hd
  obtain ⟨rfl, ho, rfl⟩ := own_bj h2
  exact own_via (fun t k => XS.icmpYes X.here D.1 rfl rfl h1 rfl hc ho rfl k) H
theorem own_cN (X : Stand p l e R s m args below meth c T locs cells slots) (D : own_TB p c B) {cd : ClassFile.Cond} {x y : Int32} {o : Int} {q n : Nat} {v : Int32} (hd : own_lk B pc = some (.if_icmp cd o, n, q, v)) (hc : if_icmp.holds cd x y = false) (H : own_G p e below P (T.setTop (mkF m (pc + 3) Ls st))) : own_G p e below P (T.setTop (mkF m pc Ls (.int y :: .int x :: st))) := by
  obtain ⟨h1, h2⟩ := D.2 _ _ hd
  obtain ⟨rfl, ho, rfl⟩ := own_bj h2
  exact own_via (fun t k => XS.icmpNo X.here D.1 rfl h1 rfl hc k) H
theorem own_nY (X : Stand p l e R s m args below meth c T locs cells slots) (D : own_TB p c B) {o : Int} {q n : Nat} {v : Int32} (hd : own_lk B pc = some (.ifnull o, n, q, v)) (H : own_G p e below P (T.setTop (mkF m q Ls st))) : own_G p e below P (T.setTop (mkF m pc Ls (.null :: st))) := by
  obtain ⟨h1, h2⟩ := D.2 _ _ hd
  obtain ⟨rfl, ho, rfl⟩ := own_bj h2
  exact own_via (fun t k => XS.ifnullYes X.here D.1 rfl rfl h1 rfl ho rfl k) H
theorem own_nN (X : Stand p l e R s m args below meth c T locs cells slots) (D : own_TB p c B) {a : Addr} {o : Int} {q n : Nat} {v : Int32} (hd : own_lk B pc = some (.ifnull o, n, q, v)) (H : own_G p e below P (T.setTop (mkF m (pc + 3) Ls st))) : own_G p e below P (T.setTop (mkF m pc Ls (.ref a :: st))) := by
  obtain ⟨h1, h2⟩ := D.2 _ _ hd
  obtain ⟨rfl, ho, rfl⟩ := own_bj h2
  exact own_via (fun t k => XS.ifnullNo X.here D.1 rfl h1 rfl k) H
theorem own_oY (X : Stand p l e R s m args below meth c T locs cells slots) (D : own_TB p c B) {a : Addr} {o : Int} {q n : Nat} {v : Int32} (hd : own_lk B pc = some (.ifnonnull o, n, q, v)) (H : own_G p e below P (T.setTop (mkF m q Ls st))) : own_G p e below P (T.setTop (mkF m pc Ls (.ref a :: st))) := by
  obtain ⟨h1, h2⟩ := D.2 _ _ hd
  obtain ⟨rfl, ho, rfl⟩ := own_bj h2
  exact own_via (fun t k => XS.ifnonnullYes X.here D.1 rfl rfl h1 rfl ho rfl k) H
theorem own_oN (X : Stand p l e R s m args below meth c T locs cells slots) (D : own_TB p c B) {o : Int} {q n : Nat} {v : Int32} (hd : own_lk B pc = some (.ifnonnull o, n, q, v)) (H : own_G p e below P (T.setTop (mkF m (pc + 3) Ls st))) : own_G p e below P (T.setTop (mkF m pc Ls (.null :: st))) := by
  obtain ⟨h1, h2⟩ := D.2 _ _ hd
  obtain ⟨rfl, ho, rfl⟩ := own_bj h2
  exact own_via (fun t k => XS.ifnonnullNo X.here D.1 rfl h1 rfl k) H
theorem own_gF (X : Stand p l e R s m args below meth c T locs cells slots) (D : own_TB p c B) (hZ : Z.Warmed39 s.vm) {own R0 O n d : String} {index q : Nat} {i : Int32} (hown : s.vm.findClass own = some m.cls) (w : (Jvm.Cond.fieldLink own index R0 n d).before a0 Z = true) (via : Via Z R0 O n d) (eT : T.heap = h) {a : Addr} {v : Value} (F : Fld Z h a O n d v) (hd : own_lk B pc = some (.getfield index, 3, q, i)) (H : ∀ T', Stand p l e R s m args below meth c T' locs cells slots → T'.heap = h → own_G p e below P (T'.setTop (mkF m (pc + 3) Ls (v :: st)))) : own_G p e below P (T.setTop (mkF m pc Ls (.ref a :: st))) := by
  obtain ⟨T', X', e', k⟩ := getF X D.1 hZ hown (host := "") (Or.inl w) via eT F (g := mkF m pc Ls (.ref a :: st)) rfl rfl (own_dd D hd)
  exact own_via k (H T' X' e')
theorem own_gS (X : Stand p l e R s m args below meth c T locs cells slots) (D : own_TB p c B) (hZ : Z.Warmed39 s.vm) {own O n d : String} {index q : Nat} {i : Int32} (hown : s.vm.findClass own = some m.cls) (w : (Jvm.Cond.fieldLink own index O n d).before a0 Z = true) (eT : T.heap = h) {v : Value} (F : Sta Z h O n d v) (hd : own_lk B pc = some (.getstatic index, 3, q, i)) (H : ∀ T', Stand p l e R s m args below meth c T' locs cells slots → T'.heap = h → own_G p e below P (T'.setTop (mkF m (pc + 3) Ls (v :: st)))) : own_G p e below P (T.setTop (mkF m pc Ls st)) := by
  obtain ⟨T', X', e', k⟩ := getS2 X D.1 hZ hown (host := "") (Or.inl w) Via.refl eT F (g := mkF m pc Ls st) rfl (own_dd D hd)
  exact own_via k (H T' X' e')
end OwnRun
section OwnCalls
variable {p : Program} {l : Launch} {e : Env} {R : Room} {s s0 : State} {m : MethodId} {args : Array Value} {below : List Frame} {meth : Method} {c : Code} {T : State} {locs : List Loc} {cells slots : Nat} {Z : State} {a0 : Array Value} {h0 h : Heap} {n0 k0 : Nat} {EL : List (String × Nat)} {P : Outcome → State → Prop} {pc : Nat} {Ls : Array Slot} {st argsL rest : List Value} {B : List own_Row} {own C : String} {index ML k j : Nat} {iv : Int32} {y z : MethodName} {bytes : ByteArray} {maxL : Nat} {ret : Option FieldType} {rm : Room} {as : Array Value} {q : Option Value → Heap → Prop} {w : Value} {a : Addr}
def own_pkS (a0 : Array Value) (Z : State) (y : MethodName) (bytes : ByteArray) (maxL : Nat) (ret : Option FieldType) (k : Nat) : Prop := (Jvm.Cond.static y).before a0 Z = true ∧ (Jvm.Cond.initialized y.cls).before a0 Z = true ∧ (Jvm.Cond.code y bytes maxL ret).before a0 Z = true ∧ (y.cls ≠ "java/lang/invoke/MethodHandle" ∧ y.cls ≠ "java/lang/invoke/VarHandle") ∧ (∀ sig, parseMethodDescriptor y.desc = some sig → k = sig.parameters.length)
def own_pkV (a0 : Array Value) (Z : State) (y : MethodName) (C : String) (bytes : ByteArray) (maxL : Nat) (ret : Option FieldType) (k : Nat) : Prop := (Jvm.Cond.declares y).before a0 Z = true ∧ (Jvm.Cond.selects C y y).before a0 Z = true ∧ (Jvm.Cond.instanceMethod y).before a0 Z = true ∧ (Jvm.Cond.initialized y.cls).before a0 Z = true ∧ (Jvm.Cond.code y bytes maxL ret).before a0 Z = true ∧ (y.cls ≠ "java/lang/invoke/MethodHandle" ∧ y.cls ≠ "java/lang/invoke/VarHandle") ∧ (∀ sig, parseMethodDescriptor y.desc = some sig → k = sig.parameters.length)
def own_pkR (a0 : Array Value) (Z : State) (y : MethodName) (bytes : ByteArray) (maxL : Nat) (ret : Option FieldType) (k : Nat) : Prop := (Jvm.Cond.instanceMethod y).before a0 Z = true ∧ (Jvm.Cond.selects y.cls y y).before a0 Z = true ∧ (Jvm.Cond.privateMethod y).before a0 Z = true ∧ (Jvm.Cond.initialized y.cls).before a0 Z = true ∧ (Jvm.Cond.code y bytes maxL ret).before a0 Z = true ∧ (y.cls ≠ "java/lang/invoke/MethodHandle" ∧ y.cls ≠ "java/lang/invoke/VarHandle") ∧ (∀ sig, parseMethodDescriptor y.desc = some sig → k = sig.parameters.length)
def own_pkI (a0 : Array Value) (Z : State) (y : MethodName) (bytes : ByteArray) (maxL : Nat) (k : Nat) : Prop := (Jvm.Cond.instanceMethod y).before a0 Z = true ∧ (Jvm.Cond.initialized y.cls).before a0 Z = true ∧ (Jvm.Cond.code y bytes maxL none).before a0 Z = true ∧ (y.cls ≠ "java/lang/invoke/MethodHandle" ∧ y.cls ≠ "java/lang/invoke/VarHandle") ∧ y.name = "<init>" ∧ (∀ sig, parseMethodDescriptor y.desc = some sig → k = sig.parameters.length)
theorem own_xP (X : Stand p l e R s m args below meth c T locs cells slots) (D : own_TB p c B) (hZ : Z.Warmed39 s.vm) (hown : s.vm.findClass own = some m.cls) (hml : c.maxLocals = ML) (w1 : (Jvm.Cond.methodLink own index y).before a0 Z = true) (K : own_pkS a0 Z y bytes maxL ret k) (hM : own_C l Z y bytes maxL ret [] rm as h (own_Q w h)) (W : Nat) (hn : rm.frames + 1 ≤ R.frames ∧ W + (maxL + 11) + rm.locals ≤ R.locals ∧ rm.cells = 0 ∧ rm.slots = 0 ∧ cells + rm.cells ≤ R.cells ∧ slots + rm.slots ≤ R.slots) (eT : T.heap = h) (hs : (argsL.toArray, st, Ls.size, argsL.length, 2 * 0 + (rest.map fun v => v.category).sum) = (as, argsL.reverse ++ rest, ML, k, W)) (hd : own_lk B pc = some (.invokestatic index, 3, j, iv)) (H : ∀ T', Stand p l e R s m args below meth c T' locs cells slots → T'.heap = h → own_G p e below P (T'.setTop (mkF m (pc + 3) Ls (w :: rest)))) : own_G p e below P (T.setTop (mkF m pc Ls st)) := by
  injection hs with h1 hs
  injection hs with h2 hs
  injection hs with h3 hs
  injection hs with h4 h5
  obtain ⟨k1, k2, k3, k4, k5⟩ := K
  obtain ⟨T', X', e', stp⟩ := own_callP (W := W) X D.1 hZ hown w1 k1 k2 k3 k4 hM hn.1 hn.2.1 hn.2.2.1 hn.2.2.2.1 hn.2.2.2.2.1 hn.2.2.2.2.2 eT (h3.trans hml.symm) (fun sig hq => h4.trans (k5 sig hq)) h1 h2 (Nat.le_of_eq h5) (own_dd D hd)
  exact own_via stp (H T' X' e')
theorem own_xPN (X : Stand p l e R s m args below meth c T locs cells slots) (D : own_TB p c B) (hZ : Z.Warmed39 s.vm) (hown : s.vm.findClass own = some m.cls) (hml : c.maxLocals = ML) (w1 : (Jvm.Cond.methodLink own index y).before a0 Z = true) (K : own_pkS a0 Z y bytes maxL ret k) (hM : own_C l Z y bytes maxL ret [] rm as h (own_QN h)) (W : Nat) (hn : rm.frames + 1 ≤ R.frames ∧ W + (maxL + 11) + rm.locals ≤ R.locals ∧ rm.cells = 0 ∧ rm.slots = 0 ∧ cells + rm.cells ≤ R.cells ∧ slots + rm.slots ≤ R.slots) (eT : T.heap = h) (hs : (argsL.toArray, st, Ls.size, argsL.length, 2 * 0 + (rest.map fun v => v.category).sum) = (as, argsL.reverse ++ rest, ML, k, W)) (hd : own_lk B pc = some (.invokestatic index, 3, j, iv)) (H : ∀ T', Stand p l e R s m args below meth c T' locs cells slots → T'.heap = h → own_G p e below P (T'.setTop (mkF m (pc + 3) Ls rest))) : own_G p e below P (T.setTop (mkF m pc Ls st)) := by
  injection hs with h1 hs
  injection hs with h2 hs
  injection hs with h3 hs
  injection hs with h4 h5
  obtain ⟨k1, k2, k3, k4, k5⟩ := K
  obtain ⟨T', X', e', stp⟩ := own_callPN (W := W) X D.1 hZ hown w1 k1 k2 k3 k4 hM hn.1 hn.2.1 hn.2.2.1 hn.2.2.2.1 hn.2.2.2.2.1 hn.2.2.2.2.2 eT (h3.trans hml.symm) (fun sig hq => h4.trans (k5 sig hq)) h1 h2 (Nat.le_of_eq h5) (own_dd D hd)
  exact own_via stp (H T' X' e')
theorem own_xS (X : Stand p l e R s m args below meth c T locs cells slots) (N : Fr n0 locs) (D : own_TB p c B) (hZ : Z.Warmed39 s.vm) (hown : s.vm.findClass own = some m.cls) (hml : c.maxLocals = ML) (w1 : (Jvm.Cond.methodLink own index y).before a0 Z = true) (K : own_pkS a0 Z y bytes maxL ret k) (hM : own_C l Z y bytes maxL ret [] rm as h (own_W n0 q)) (W : Nat) (hn : rm.frames + 1 ≤ R.frames ∧ W + (maxL + 11) + rm.locals ≤ R.locals ∧ cells + rm.cells ≤ R.cells ∧ slots + rm.slots ≤ R.slots) (eT : T.heap = h) (hs : (argsL.toArray, st, Ls.size, argsL.length, 2 * 0 + (rest.map fun v => v.category).sum) = (as, argsL.reverse ++ rest, ML, k, W)) (hd : own_lk B pc = some (.invokestatic index, 3, j, iv)) (H : ∀ v T' h' L', Stand p l e R s m args below meth c T' L' (cells + rm.cells) (slots + rm.slots) → Fr n0 L' → T'.heap = h' → q v h' → own_G p e below P (T'.setTop (mkF m (pc + 3) Ls (v.toList ++ rest)))) : own_G p e below P (T.setTop (mkF m pc Ls st)) := by
  injection hs with h1 hs
  injection hs with h2 hs
  injection hs with h3 hs
  injection hs with h4 h5
  obtain ⟨k1, k2, k3, k4, k5⟩ := K
  obtain ⟨v, T', h', L', X', N', e', hq, stp⟩ := own_callSW (W := W) X N D.1 hZ hown w1 k1 k2 k3 k4 hM hn.1 hn.2.1 hn.2.2.1 hn.2.2.2 eT (h3.trans hml.symm) (fun sig hq => h4.trans (k5 sig hq)) h1 h2 (Nat.le_of_eq h5) (own_dd D hd)
  exact own_via stp (H v T' h' L' X' N' e' hq)
theorem own_xVP (X : Stand p l e R s m args below meth c T locs cells slots) (D : own_TB p c B) (hZ : Z.Warmed39 s.vm) (hown : s.vm.findClass own = some m.cls) (hml : c.maxLocals = ML) (w1 : (Jvm.Cond.methodLink own index y).before a0 Z = true) (K : own_pkV a0 Z y C bytes maxL ret k) (hM : own_C l Z y bytes maxL ret [] rm as h (own_Q w h)) (W : Nat) (hn : rm.frames + 1 ≤ R.frames ∧ W + (maxL + 11) + rm.locals ≤ R.locals ∧ rm.cells = 0 ∧ rm.slots = 0 ∧ cells + rm.cells ≤ R.cells ∧ slots + rm.slots ≤ R.slots) (eT : T.heap = h) (E : Exa Z h a C) (hs : ((Value.ref a :: argsL).toArray, st, Ls.size, argsL.length, 2 * 0 + (rest.map fun v => v.category).sum) = (as, argsL.reverse ++ .ref a :: rest, ML, k, W)) (hd : own_lk B pc = some (.invokevirtual index, 3, j, iv)) (H : ∀ T', Stand p l e R s m args below meth c T' locs cells slots → T'.heap = h → own_G p e below P (T'.setTop (mkF m (pc + 3) Ls (w :: rest)))) : own_G p e below P (T.setTop (mkF m pc Ls st)) := by
  injection hs with h1 hs
  injection hs with h2 hs
  injection hs with h3 hs
  injection hs with h4 h5
  obtain ⟨k1, k2, k3, k6, k7, k4, k5⟩ := K
  obtain ⟨T', X', e', stp⟩ := own_callVP (W := W) X D.1 hZ hown w1 k1 (notFace_of_selects (args := #[]) (mvT hZ k2)) k2 k3 k6 k7 k4 hM hn.1 hn.2.1 hn.2.2.1 hn.2.2.2.1 hn.2.2.2.2.1 hn.2.2.2.2.2 eT E (h3.trans hml.symm) (fun sig hq => h4.trans (k5 sig hq)) h1 h2 (Nat.le_of_eq h5) (own_dd D hd)
  exact own_via stp (H T' X' e')
theorem own_xV (X : Stand p l e R s m args below meth c T locs cells slots) (N : Fr n0 locs) (D : own_TB p c B) (hZ : Z.Warmed39 s.vm) (hown : s.vm.findClass own = some m.cls) (hml : c.maxLocals = ML) (w1 : (Jvm.Cond.methodLink own index y).before a0 Z = true) (K : own_pkV a0 Z y C bytes maxL ret k) (hM : own_C l Z y bytes maxL ret [] rm as h (own_W n0 q)) (W : Nat) (hn : rm.frames + 1 ≤ R.frames ∧ W + (maxL + 11) + rm.locals ≤ R.locals ∧ cells + rm.cells ≤ R.cells ∧ slots + rm.slots ≤ R.slots) (eT : T.heap = h) (E : Exa Z h a C) (hs : ((Value.ref a :: argsL).toArray, st, Ls.size, argsL.length, 2 * 0 + (rest.map fun v => v.category).sum) = (as, argsL.reverse ++ .ref a :: rest, ML, k, W)) (hd : own_lk B pc = some (.invokevirtual index, 3, j, iv)) (H : ∀ v T' h' L', Stand p l e R s m args below meth c T' L' (cells + rm.cells) (slots + rm.slots) → Fr n0 L' → T'.heap = h' → q v h' → own_G p e below P (T'.setTop (mkF m (pc + 3) Ls (v.toList ++ rest)))) : own_G p e below P (T.setTop (mkF m pc Ls st)) := by
  injection hs with h1 hs
  injection hs with h2 hs
  injection hs with h3 hs
  injection hs with h4 h5
  obtain ⟨k1, k2, k3, k6, k7, k4, k5⟩ := K
  obtain ⟨v, T', h', L', X', N', e', hq, stp⟩ := own_callV (W := W) X N D.1 hZ hown w1 k1 (notFace_of_selects (args := #[]) (mvT hZ k2)) k2 k3 k6 k7 k4 hM hn.1 hn.2.1 hn.2.2.1 hn.2.2.2 eT E (h3.trans hml.symm) (fun sig hq => h4.trans (k5 sig hq)) h1 h2 (Nat.le_of_eq h5) (own_dd D hd)
  exact own_via stp (H v T' h' L' X' N' e' hq)
theorem own_xR (X : Stand p l e R s m args below meth c T locs cells slots) (N : Fr n0 locs) (D : own_TB p c B) (hZ : Z.Warmed39 s.vm) (hown : s.vm.findClass own = some m.cls) (hml : c.maxLocals = ML) (w1 : (Jvm.Cond.methodLink own index y).before a0 Z = true) (K : own_pkR a0 Z y bytes maxL ret k) (hM : own_C l Z y bytes maxL ret [] rm as h (own_W n0 q)) (W : Nat) (hn : rm.frames + 1 ≤ R.frames ∧ W + (maxL + 11) + rm.locals ≤ R.locals ∧ cells + rm.cells ≤ R.cells ∧ slots + rm.slots ≤ R.slots) (eT : T.heap = h) (E : Exa Z h a C) (hs : ((Value.ref a :: argsL).toArray, st, Ls.size, argsL.length, 2 * 0 + (rest.map fun v => v.category).sum) = (as, argsL.reverse ++ .ref a :: rest, ML, k, W)) (hd : own_lk B pc = some (.invokevirtual index, 3, j, iv)) (H : ∀ v T' h' L', Stand p l e R s m args below meth c T' L' (cells + rm.cells) (slots + rm.slots) → Fr n0 L' → T'.heap = h' → q v h' → own_G p e below P (T'.setTop (mkF m (pc + 3) Ls (v.toList ++ rest)))) : own_G p e below P (T.setTop (mkF m pc Ls st)) := by
  injection hs with h1 hs
  injection hs with h2 hs
  injection hs with h3 hs
  injection hs with h4 h5
  obtain ⟨k1, k2, k3, k6, k7, k4, k5⟩ := K
  obtain ⟨v, T', h', L', X', N', e', hq, stp⟩ := own_callR (W := W) X N D.1 hZ hown w1 k1 k2 k3 k6 k7 k4 hM hn.1 hn.2.1 hn.2.2.1 hn.2.2.2 eT E (h3.trans hml.symm) (fun sig hq => h4.trans (k5 sig hq)) h1 h2 (Nat.le_of_eq h5) (own_dd D hd)
  exact own_via stp (H v T' h' L' X' N' e' hq)
theorem own_xI (X : Stand p l e R s m args below meth c T locs cells slots) (N : Fr n0 locs) (D : own_TB p c B) (hZ : Z.Warmed39 s.vm) (hown : s.vm.findClass own = some m.cls) (hml : c.maxLocals = ML) (w1 : (Jvm.Cond.methodLink own index y).before a0 Z = true) (K : own_pkI a0 Z y bytes maxL k) (hM : own_C l Z y bytes maxL none [] rm as h (own_W n0 q)) (W : Nat) (hn : rm.frames + 1 ≤ R.frames ∧ W + (maxL + 11) + rm.locals ≤ R.locals ∧ cells + rm.cells ≤ R.cells ∧ slots + rm.slots ≤ R.slots) (eT : T.heap = h) (hs : ((Value.ref a :: argsL).toArray, st, Ls.size, argsL.length, 2 * 0 + (rest.map fun v => v.category).sum) = (as, argsL.reverse ++ .ref a :: rest, ML, k, W)) (hd : own_lk B pc = some (.invokespecial index, 3, j, iv)) (H : ∀ v T' h' L', Stand p l e R s m args below meth c T' L' (cells + rm.cells) (slots + rm.slots) → Fr n0 L' → T'.heap = h' → q v h' → own_G p e below P (T'.setTop (mkF m (pc + 3) Ls (v.toList ++ rest)))) : own_G p e below P (T.setTop (mkF m pc Ls st)) := by
  injection hs with h1 hs
  injection hs with h2 hs
  injection hs with h3 hs
  injection hs with h4 h5
  obtain ⟨k1, k2, k3, k4, k6, k5⟩ := K
  obtain ⟨v, T', h', L', X', N', e', hq, stp⟩ := own_callI (W := W) X N D.1 hZ k6 hown w1 k1 k2 k3 k4 hM hn.1 hn.2.1 hn.2.2.1 hn.2.2.2 eT (h3.trans hml.symm) (fun sig hq => h4.trans (k5 sig hq)) h1 h2 (Nat.le_of_eq h5) (own_dd D hd)
  exact own_via stp (H v T' h' L' X' N' e' hq)
theorem own_xVH (S : own_S s0 s k0) (hk : k0 ≤ h.size) (CR : CHr Z EL s0.vm h0 s.vm h) (hEL : EW Z a0 EL) (X : Stand p l e R s m args below meth c T locs cells slots) (N : Fr n0 locs) (D : own_TB p c B) (hZ : Z.Warmed39 s.vm) (hown : s.vm.findClass own = some m.cls) (hml : c.maxLocals = ML) (w1 : (Jvm.Cond.methodLink own index y).before a0 Z = true) (K : own_pkV a0 Z y C bytes maxL ret k) (hM : own_CH l Z EL y bytes maxL ret [] rm as h (own_W n0 q)) (W : Nat) (hn : rm.frames + 1 ≤ R.frames ∧ W + (maxL + 11) + rm.locals ≤ R.locals ∧ cells + rm.cells ≤ R.cells ∧ slots + rm.slots ≤ R.slots) (eT : T.heap = h) (E : Exa Z h a C) (hs : ((Value.ref a :: argsL).toArray, st, Ls.size, argsL.length, 2 * 0 + (rest.map fun v => v.category).sum) = (as, argsL.reverse ++ .ref a :: rest, ML, k, W)) (hd : own_lk B pc = some (.invokevirtual index, 3, j, iv)) (H : ∀ v T' h' L' s' k1, Stand p l e R s' m args below meth c T' L' (cells + rm.cells) (slots + rm.slots) → Fr n0 L' → T'.heap = h' → q v h' → own_S s0 s' k1 → k1 ≤ h'.size → CHr Z EL s0.vm h0 s'.vm h' → Z.Warmed39 s'.vm → s'.vm.findClass own = some m.cls → own_G p e below P (T'.setTop (mkF m (pc + 3) Ls (v.toList ++ rest)))) : own_G p e below P (T.setTop (mkF m pc Ls st)) := by
  injection hs with h1 hs
  injection hs with h2 hs
  injection hs with h3 hs
  injection hs with h4 h5
  obtain ⟨k1, k2, k3, k6, k7, k4, k5⟩ := K
  obtain ⟨v, T', h', L', s', k1, X', N', e', hq, S', hk', CR', hZ', ho', stp⟩ := own_callVH (W := W) S hk CR hEL X N D.1 hZ hown w1 k1 (notFace_of_selects (args := #[]) (mvT hZ k2)) k2 k3 k6 k7 k4 hM hn.1 hn.2.1 hn.2.2.1 hn.2.2.2 eT E (h3.trans hml.symm) (fun sig hq => h4.trans (k5 sig hq)) h1 h2 (Nat.le_of_eq h5) (own_dd D hd)
  exact own_via stp (H v T' h' L' s' k1 X' N' e' hq S' hk' CR' hZ' ho')
theorem own_xRH (S : own_S s0 s k0) (hk : k0 ≤ h.size) (CR : CHr Z EL s0.vm h0 s.vm h) (hEL : EW Z a0 EL) (X : Stand p l e R s m args below meth c T locs cells slots) (N : Fr n0 locs) (D : own_TB p c B) (hZ : Z.Warmed39 s.vm) (hown : s.vm.findClass own = some m.cls) (hml : c.maxLocals = ML) (w1 : (Jvm.Cond.methodLink own index y).before a0 Z = true) (K : own_pkR a0 Z y bytes maxL ret k) (hM : own_CH l Z EL y bytes maxL ret [] rm as h (own_W n0 q)) (W : Nat) (hn : rm.frames + 1 ≤ R.frames ∧ W + (maxL + 11) + rm.locals ≤ R.locals ∧ cells + rm.cells ≤ R.cells ∧ slots + rm.slots ≤ R.slots) (eT : T.heap = h) (E : Exa Z h a C) (hs : ((Value.ref a :: argsL).toArray, st, Ls.size, argsL.length, 2 * 0 + (rest.map fun v => v.category).sum) = (as, argsL.reverse ++ .ref a :: rest, ML, k, W)) (hd : own_lk B pc = some (.invokevirtual index, 3, j, iv)) (H : ∀ v T' h' L' s' k1, Stand p l e R s' m args below meth c T' L' (cells + rm.cells) (slots + rm.slots) → Fr n0 L' → T'.heap = h' → q v h' → own_S s0 s' k1 → k1 ≤ h'.size → CHr Z EL s0.vm h0 s'.vm h' → Z.Warmed39 s'.vm → s'.vm.findClass own = some m.cls → own_G p e below P (T'.setTop (mkF m (pc + 3) Ls (v.toList ++ rest)))) : own_G p e below P (T.setTop (mkF m pc Ls st)) := by
  injection hs with h1 hs
  injection hs with h2 hs
  injection hs with h3 hs
  injection hs with h4 h5
  obtain ⟨k1, k2, k3, k6, k7, k4, k5⟩ := K
  obtain ⟨v, T', h', L', s', k1, X', N', e', hq, S', hk', CR', hZ', ho', stp⟩ := own_callRH (W := W) S hk CR hEL X N D.1 hZ hown w1 k1 k2 k3 k6 k7 k4 hM hn.1 hn.2.1 hn.2.2.1 hn.2.2.2 eT E (h3.trans hml.symm) (fun sig hq => h4.trans (k5 sig hq)) h1 h2 (Nat.le_of_eq h5) (own_dd D hd)
  exact own_via stp (H v T' h' L' s' k1 X' N' e' hq S' hk' CR' hZ' ho')
theorem own_xIH (S : own_S s0 s k0) (hk : k0 ≤ h.size) (CR : CHr Z EL s0.vm h0 s.vm h) (hEL : EW Z a0 EL) (X : Stand p l e R s m args below meth c T locs cells slots) (N : Fr n0 locs) (D : own_TB p c B) (hZ : Z.Warmed39 s.vm) (hown : s.vm.findClass own = some m.cls) (hml : c.maxLocals = ML) (w1 : (Jvm.Cond.methodLink own index y).before a0 Z = true) (K : own_pkI a0 Z y bytes maxL k) (hM : own_CH l Z EL y bytes maxL none [] rm as h (own_W n0 q)) (W : Nat) (hn : rm.frames + 1 ≤ R.frames ∧ W + (maxL + 11) + rm.locals ≤ R.locals ∧ cells + rm.cells ≤ R.cells ∧ slots + rm.slots ≤ R.slots) (eT : T.heap = h) (hs : ((Value.ref a :: argsL).toArray, st, Ls.size, argsL.length, 2 * 0 + (rest.map fun v => v.category).sum) = (as, argsL.reverse ++ .ref a :: rest, ML, k, W)) (hd : own_lk B pc = some (.invokespecial index, 3, j, iv)) (H : ∀ v T' h' L' s' k1, Stand p l e R s' m args below meth c T' L' (cells + rm.cells) (slots + rm.slots) → Fr n0 L' → T'.heap = h' → q v h' → own_S s0 s' k1 → k1 ≤ h'.size → CHr Z EL s0.vm h0 s'.vm h' → Z.Warmed39 s'.vm → s'.vm.findClass own = some m.cls → own_G p e below P (T'.setTop (mkF m (pc + 3) Ls (v.toList ++ rest)))) : own_G p e below P (T.setTop (mkF m pc Ls st)) := by
  injection hs with h1 hs
  injection hs with h2 hs
  injection hs with h3 hs
  injection hs with h4 h5
  obtain ⟨k1, k2, k3, k4, k6, k5⟩ := K
  obtain ⟨v, T', h', L', s', k1, X', N', e', hq, S', hk', CR', hZ', ho', stp⟩ := own_callIH (W := W) S hk CR hEL X N D.1 hZ k6 hown w1 k1 k2 k3 k4 hM hn.1 hn.2.1 hn.2.2.1 hn.2.2.2 eT (h3.trans hml.symm) (fun sig hq => h4.trans (k5 sig hq)) h1 h2 (Nat.le_of_eq h5) (own_dd D hd)
  exact own_via stp (H v T' h' L' s' k1 X' N' e' hq S' hk' CR' hZ' ho')
end OwnCalls
theorem own_go {l : Launch} {Z : State} {y : MethodName} {bytes : ByteArray} {maxL : Nat} {ret : Option FieldType} {ws : List Jvm.Cond} {R : Room} {as : Array Value} {h0 : Heap} {B : List own_Row} {Q : Option Value → Heap → List Loc → Prop} (hp : plainFor y = true) (ho : own_ok bytes B = true) (Ls : Array Slot) (hef : ∀ m, entryFrame m as maxL = mkF m 0 Ls []) (H : ∀ (p : Program) (e : Env) (s : State) (m : MethodId) (below : List Frame) (meth : Method) (c : Code) (s₁ : State), BodyLoose p l y (head1 (Jvm.Cond.code y bytes maxL ret :: ws) R) bytes maxL ret e s m as below meth c s₁ → own_TB p c B → c.maxLocals = maxL → Z.Warmed39 s.vm → s.vm.findClass y.cls = some m.cls → Stand p l e R s m as below meth c s₁ [] 0 0 → s₁.heap = h0 → own_G p e below (own_P s Q R.cells R.slots) (s₁.setTop (mkF m 0 Ls []))) : own_C l Z y bytes maxL ret ws R as h0 Q := by
  refine MetFree.of_bodySF hp hisR ?_
  intro p e s m args below meth c s₁ Bd hml0 hP hK
  obtain ⟨rfl, hZ, hh⟩ := hP
  have hG := H p e s m below meth c s₁ Bd (own_TBI Bd.exec Bd.bytes ho) hml0 hZ (findClass_of_methodNamed Bd.named) (Stand.of_body Bd) (by rw [← hh, Bd.state]; rfl)
  rw [← hef] at hG
  exact hG
theorem own_goW {l : Launch} {Z : State} {y : MethodName} {bytes : ByteArray} {maxL : Nat} {ret : Option FieldType} {ws : List Jvm.Cond} {R : Room} {as : Array Value} {h0 : Heap} {B : List own_Row} {n0 : Nat} {q : Option Value → Heap → Prop} (hp : plainFor y = true) (ho : own_ok bytes B = true) (Ls : Array Slot) (hef : ∀ m, entryFrame m as maxL = mkF m 0 Ls []) (H : ∀ (p : Program) (e : Env) (s : State) (m : MethodId) (below : List Frame) (meth : Method) (c : Code) (s₁ : State), BodyLoose p l y (head1 (Jvm.Cond.code y bytes maxL ret :: ws) R) bytes maxL ret e s m as below meth c s₁ → own_TB p c B → c.maxLocals = maxL → Z.Warmed39 s.vm → s.vm.findClass y.cls = some m.cls → Stand p l e R s m as below meth c s₁ [] 0 0 → s₁.heap = h0 → Fr n0 [] → own_G p e below (own_P s (own_W n0 q) R.cells R.slots) (s₁.setTop (mkF m 0 Ls []))) : own_C l Z y bytes maxL ret ws R as h0 (own_W n0 q) :=
  own_go hp ho Ls hef fun p e s m below meth c s₁ Bd D hml hZ hown X e0 => H p e s m below meth c s₁ Bd D hml hZ hown X e0 (Fr.nil n0)
theorem own_goH {l : Launch} {Z : State} {y : MethodName} {bytes : ByteArray} {maxL : Nat} {ret : Option FieldType} {ws : List Jvm.Cond} {R : Room} {as : Array Value} {h0 : Heap} {B : List own_Row} {EL : List (String × Nat)} {n0 : Nat} {q : Option Value → Heap → Prop} (hp : plainFor y = true) (ho : own_ok bytes B = true) (Ls : Array Slot) (hef : ∀ m, entryFrame m as maxL = mkF m 0 Ls []) (H : ∀ (p : Program) (e : Env) (s : State) (m : MethodId) (below : List Frame) (meth : Method) (c : Code) (s₁ : State), BodyLoose p l y (head1 (Jvm.Cond.code y bytes maxL ret :: ws) R) bytes maxL ret e s m as below meth c s₁ → own_TB p c B → c.maxLocals = maxL → Z.Warmed39 s.vm → s.vm.findClass y.cls = some m.cls → Stand p l e R s m as below meth c s₁ [] 0 0 → s₁.heap = h0 → Fr n0 [] → s.heap = h0 → CHr Z EL s.vm h0 s.vm h0 → own_S s s 0 → 0 ≤ h0.size → ∀ Pw, Pw = own_PH Z EL s (own_W n0 q) R.cells R.slots → own_G p e below Pw (s₁.setTop (mkF m 0 Ls []))) : own_CH l Z EL y bytes maxL ret ws R as h0 (own_W n0 q) := by
  refine MetFree.of_bodySF hp hisR ?_
  intro p e s m args below meth c s₁ Bd hml0 hP hK
  obtain ⟨rfl, hZ, hh, hCH⟩ := hP
  have hG := H p e s m below meth c s₁ Bd (own_TBI Bd.exec Bd.bytes ho) hml0 hZ (findClass_of_methodNamed Bd.named) (Stand.of_body Bd) (by rw [← hh, Bd.state]; rfl) (Fr.nil n0) hh (CHr.refl hCH) (own_S0 s) (Nat.zero_le _) _ rfl
  rw [← hef] at hG
  exact hG
section OwnK
variable {p : Program} {l : Launch} {e : Env} {R : Room} {s s0 : State} {m : MethodId} {args : Array Value} {below : List Frame} {meth : Method} {c : Code} {T : State} {locs : List Loc} {cells slots : Nat} {Z : State} {a0 : Array Value} {h0 h : Heap} {n0 k0 : Nat} {xEL : List (String × Nat)} {P : Outcome → State → Prop} {pc : Nat} {Ls : Array Slot} {st argsL rest : List Value} {B : List own_Row} {own C : String} {index ML k j : Nat} {iv : Int32} {y z : MethodName} {bytes : ByteArray} {maxL : Nat} {ret : Option FieldType} {rm : Room} {as : Array Value} {q : Option Value → Heap → Prop} {w : Value} {a : Addr}
theorem own_newOk (X : Stand p l e R s m args below meth c T locs cells slots) (hx : p.tables.exec = Jvm.exec) (hZ : Z.Warmed39 s.vm) {own C : String} {index n : Nat} (hown : s.vm.findClass own = some m.cls) (w : (Jvm.Cond.classLink own index C).before a0 Z = true) (wi : (Jvm.Cond.instantiable C n).before a0 Z = true) (wz : (Jvm.Cond.initialized C).before a0 Z = true) (eT : T.heap = h) {pc : Nat} {Ls : Array Slot} {rest : List Value} (hd : decode c.code pc = .ok (.new index, 3)) (hc : cells + 1 ≤ R.cells) (hl : slots + n ≤ R.slots) {P : Outcome → State → Prop} (H : ∀ T' h' a, Stand p l e R s m args below meth c T' locs (cells + 1) (slots + n) → T'.heap = h' → Ext h h' → a = h.size → Exa Z h' a C → ((∀ {O nm d : String} {ty : FieldType}, Laid Z a0 C O nm d → parseFieldDescriptor d = some ty → Fld Z h' a O nm d (defaultValue ty))) → own_G p e below P (T'.setTop (mkF m (pc + 3) Ls (.ref a :: rest)))) : own_G p e below P (T.setTop (mkF m pc Ls rest)) := by
  obtain ⟨T', h', a, c0, c1, c2, c3, c4, c5, stp⟩ := own_newO X hx hZ hown w wi wz eT hd hc hl (own := own) (C := C) (index := index) (n := n) (pc := pc) (Ls := Ls) (rest := rest)
  exact own_via stp (H _ _ _ c0 c1 c2 c3 c4 c5)
theorem own_newAk (X : Stand p l e R s m args below meth c T locs cells slots) (hx : p.tables.exec = Jvm.exec) (hZ : Z.Warmed39 s.vm) {aty : ArrayType} (w : (Jvm.Cond.arrayClass (newarray.typeOf aty)).before a0 Z = true) (eT : T.heap = h) {pc : Nat} {Ls : Array Slot} (hd : decode c.code pc = .ok (.newarray aty, 2)) {n : Int32} {rest : List Value} (hn : ¬ n < 0) {cap : Nat} (hcap : n.toNatClampNeg ≤ cap) (hb : cap * 8 ≤ 536870912) (hc : cells + 1 ≤ R.cells) (hl : slots + cap ≤ R.slots) (len : Nat) {ad : String} (had : "[" ++ (newarray.typeOf aty).toString = ad) {P : Outcome → State → Prop} (H : ∀ T' h' k a, Stand p l e R s m args below meth c T' locs (cells + 1) (slots + cap) → T'.heap = h' → Ext h h' → a = h.size → Arv Z h' a k (newarray.typeOf aty) n (List.replicate len (defaultValue (newarray.typeOf aty))) (defaultValue (newarray.typeOf aty)) → Exa Z h' a ad → own_G p e below P (T'.setTop (mkF m (pc + 2) Ls (.ref a :: rest)))) : own_G p e below P (T.setTop (mkF m pc Ls (.int n :: rest))) := by
  obtain ⟨T', h', k, a, c0, c1, c2, c3, c4, c5, stp⟩ := own_newA X hx hZ w eT hd hn hcap hb hc hl len had (aty := aty) (pc := pc) (Ls := Ls) (n := n) (rest := rest) (cap := cap) (ad := ad)
  exact own_via stp (H _ _ _ _ c0 c1 c2 c3 c4 c5)
theorem own_putFk (X : Stand p l e R s m args below meth c T locs cells slots) (N : Fr n0 locs) (hx : p.tables.exec = Jvm.exec) (hZ : Z.Warmed39 s.vm) {own O n d C : String} {index kk : Nat} {ty : FieldType} (hown : s.vm.findClass own = some m.cls) (w : (Jvm.Cond.fieldLink own index O n d).before a0 Z = true) (eT : T.heap = h) {a : Addr} {v old : Value} (F : Fld Z h a O n d old) (E : Exa Z h a C) (L : (Jvm.Cond.lays C O n d).before a0 Z = true ∨ ((Jvm.Cond.laysFinal C O n d).before a0 Z = true ∧ own = O ∧ meth.name = "<init>")) (wi : (Jvm.Cond.instantiable C kk).before a0 Z = true) (ga : n0 ≤ a) (hty : parseFieldDescriptor d = some ty) (hn : narrow ty v = v) (hf : fits ty v = true) {pc : Nat} {Ls : Array Slot} {rest : List Value} (hd : decode c.code pc = .ok (.putfield index, 3)) {P : Outcome → State → Prop} (H : ∀ T' h' L', Stand p l e R s m args below meth c T' L' cells slots → Fr n0 L' → T'.heap = h' → Wr h h' a (Jvm.RoadKit.slotOf Z O n d) v → Fld Z h' a O n d v → own_G p e below P (T'.setTop (mkF m (pc + 3) Ls rest))) : own_G p e below P (T.setTop (mkF m pc Ls (v :: .ref a :: rest))) := by
  obtain ⟨T', h', L', c0, c1, c2, c3, c4, stp⟩ := own_putF X N hx hZ hown w eT F E L wi ga hty hn hf hd (own := own) (O := O) (n := n) (d := d) (C := C) (index := index) (kk := kk) (ty := ty) (a := a) (v := v) (old := old) (pc := pc) (Ls := Ls) (rest := rest)
  exact own_via stp (H _ _ _ c0 c1 c2 c3 c4)
theorem own_putFNk (X : Stand p l e R s m args below meth c T locs cells slots) (N : Fr n0 locs) (hx : p.tables.exec = Jvm.exec) (hZ : Z.Warmed39 s.vm) {own O n d C : String} {index kk : Nat} {ty : FieldType} (hown : s.vm.findClass own = some m.cls) (w : (Jvm.Cond.fieldLink own index O n d).before a0 Z = true) (eT : T.heap = h) {a : Addr} {v v' old : Value} (F : Fld Z h a O n d old) (E : Exa Z h a C) (L : (Jvm.Cond.lays C O n d).before a0 Z = true ∨ ((Jvm.Cond.laysFinal C O n d).before a0 Z = true ∧ own = O ∧ meth.name = "<init>")) (wi : (Jvm.Cond.instantiable C kk).before a0 Z = true) (ga : n0 ≤ a) (hty : parseFieldDescriptor d = some ty) (hn : narrow ty v = v') (hf : fits ty v' = true) {pc : Nat} {Ls : Array Slot} {rest : List Value} (hd : decode c.code pc = .ok (.putfield index, 3)) {P : Outcome → State → Prop} (H : ∀ T' h' L', Stand p l e R s m args below meth c T' L' cells slots → Fr n0 L' → T'.heap = h' → Wr h h' a (Jvm.RoadKit.slotOf Z O n d) v' → Fld Z h' a O n d v' → own_G p e below P (T'.setTop (mkF m (pc + 3) Ls rest))) : own_G p e below P (T.setTop (mkF m pc Ls (v :: .ref a :: rest))) := by
  obtain ⟨T', h', L', c0, c1, c2, c3, c4, stp⟩ := own_putFN X N hx hZ hown w eT F E L wi ga hty hn hf hd (own := own) (O := O) (n := n) (d := d) (C := C) (index := index) (kk := kk) (ty := ty) (a := a) (v := v) (v' := v') (old := old) (pc := pc) (Ls := Ls) (rest := rest)
  exact own_via stp (H _ _ _ c0 c1 c2 c3 c4)
theorem own_stCk (X : Stand p l e R s m args below meth c T locs cells slots) (N : Fr n0 locs) (hx : p.tables.exec = Jvm.exec) (hZ : Z.Warmed39 s.vm) (eT : T.heap = h) {a : Addr} {k : ClassId} {z : Int32} {vs : List Value} {d : Value} (V : Arv Z h a k .char z vs d) (ga : n0 ≤ a) {j x : Int32} {i : Nat} (hj : ¬ j < 0 ∧ j < z) (hi : j.toNatClampNeg = i) (hl : i < vs.length) {pc : Nat} {Ls : Array Slot} {rest : List Value} (hd : decode c.code pc = .ok (.castore, 1)) {P : Outcome → State → Prop} (H : ∀ T' h' L', Stand p l e R s m args below meth c T' L' cells slots → Fr n0 L' → T'.heap = h' → Wr h h' a i (.int (nar .char x)) → Arv Z h' a k .char z (vs.set i (.int (nar .char x))) d → own_G p e below P (T'.setTop (mkF m (pc + 1) Ls rest))) : own_G p e below P (T.setTop (mkF m pc Ls (.int x :: .int j :: .ref a :: rest))) := by
  obtain ⟨T', h', L', c0, c1, c2, c3, c4, stp⟩ := own_stC X N hx hZ eT V ga hj hi hl hd (a := a) (k := k) (z := z) (vs := vs) (d := d) (j := j) (x := x) (i := i) (pc := pc) (Ls := Ls) (rest := rest)
  exact own_via stp (H _ _ _ c0 c1 c2 c3 c4)
theorem own_stCsk {p : Program} {l : Launch} {e : Env} {R : Room} {s : State} {m : MethodId} {args : Array Value} {below : List Frame} {meth : Method} {c : Code} {T : State} {locs : List Loc} {cells slots : Nat} {Z : State} {h : Heap} {n0 : Nat} (X : Stand p l e R s m args below meth c T locs cells slots) (N : Fr n0 locs) (hx : p.tables.exec = Jvm.exec) (hZ : Z.Warmed39 s.vm) (eT : T.heap = h) {a : Addr} {k : ClassId} {z : Int32} {L : List Int32} {d : Value} (V : Arv Z h a k .char z (L.map Value.int) d) (ga : n0 ≤ a) {j x : Int32} (hj : own_in L j z) {pc : Nat} {Ls : Array Slot} {rest : List Value} (hd : decode c.code pc = .ok (.castore, 1)) {P : Outcome → State → Prop} (H : ∀ T' h' L', Stand p l e R s m args below meth c T' L' cells slots → Fr n0 L' → T'.heap = h' → Wr h h' a j.toNatClampNeg (.int (nar .char x)) → Arv Z h' a k .char z ((own_set L j (nar .char x)).map Value.int) d → own_G p e below P (T'.setTop (mkF m (pc + 1) Ls rest))) : own_G p e below P (T.setTop (mkF m pc Ls (.int x :: .int j :: .ref a :: rest))) := by
  obtain ⟨T', h', L', c0, c1, c2, c3, c4, stp⟩ := own_stCs X N hx hZ eT V ga hj hd (a := a) (k := k) (z := z) (L := L) (d := d) (j := j) (x := x) (pc := pc) (Ls := Ls) (rest := rest)
  exact own_via stp (H _ _ _ c0 c1 c2 c3 c4)
theorem own_stBsk {p : Program} {l : Launch} {e : Env} {R : Room} {s : State} {m : MethodId} {args : Array Value} {below : List Frame} {meth : Method} {c : Code} {T : State} {locs : List Loc} {cells slots : Nat} {Z : State} {h : Heap} {n0 : Nat} (X : Stand p l e R s m args below meth c T locs cells slots) (N : Fr n0 locs) (hx : p.tables.exec = Jvm.exec) (hZ : Z.Warmed39 s.vm) (eT : T.heap = h) {a : Addr} {k : ClassId} {z : Int32} {L : List Int32} {d : Value} (V : Arv Z h a k .byte z (L.map Value.int) d) (ga : n0 ≤ a) {j x : Int32} (hj : own_in L j z) {pc : Nat} {Ls : Array Slot} {rest : List Value} (hd : decode c.code pc = .ok (.bastore, 1)) {P : Outcome → State → Prop} (H : ∀ T' h' L', Stand p l e R s m args below meth c T' L' cells slots → Fr n0 L' → T'.heap = h' → Wr h h' a j.toNatClampNeg (.int x.toInt8.toInt32) → Arv Z h' a k .byte z ((own_set L j x.toInt8.toInt32).map Value.int) d → own_G p e below P (T'.setTop (mkF m (pc + 1) Ls rest))) : own_G p e below P (T.setTop (mkF m pc Ls (.int x :: .int j :: .ref a :: rest))) := by
  obtain ⟨T', h', L', c0, c1, c2, c3, c4, stp⟩ := own_stBs X N hx hZ eT V ga hj hd (a := a) (k := k) (z := z) (L := L) (d := d) (j := j) (x := x) (pc := pc) (Ls := Ls) (rest := rest)
  exact own_via stp (H _ _ _ c0 c1 c2 c3 c4)
end OwnK
theorem own_lnk {d : String} {ps : List FieldType} {r : Option FieldType} {k : Nat} (hd : parseMethodDescriptor d = some ⟨ps, r⟩) (hl : k = ps.length) : ∀ sig, parseMethodDescriptor d = some sig → k = sig.parameters.length := fun sig h => by
  rw [hd] at h
  cases h
  exact hl
section OwnRet
variable {p : Program} {l : Launch} {e : Env} {R : Room} {s s' : State} {m : MethodId} {args args' : Array Value} {below : List Frame} {meth : Method} {c : Code} {T s₁ : State} {locs : List Loc} {cells slots : Nat} {h : Heap} {pc q : Nat} {Ls : Array Slot} {rest : List Value} {B : List own_Row} {iv z : Int32} {v : Value} {Q : Option Value → Heap → List Loc → Prop} {k n ml : Nat} {y : MethodName} {SS : Spec} {code : ByteArray} {t : FieldType}
theorem own_rV (X : Stand p l e R s m args below meth c T locs cells slots) (D : own_TB p c B) (Bd : BodyLoose p l y SS code ml none e s' m args' below meth c s₁) (hd : own_lk B pc = some (.return_, 1, q, iv)) (eT : T.heap = h) (hQ : Q none h locs) (hk : cells ≤ k ∧ slots ≤ n) : own_G p e below (own_P s Q k n) (T.setTop (mkF m pc Ls [])) :=
  own_retV X D.1 Bd.returns Bd.notSynchronized (own_dd D hd) (by rw [eT]; exact hQ) hk.1 hk.2
theorem own_rI (X : Stand p l e R s m args below meth c T locs cells slots) (D : own_TB p c B) (Bd : BodyLoose p l y SS code ml (some .int) e s' m args' below meth c s₁) (hd : own_lk B pc = some (.ireturn, 1, q, iv)) (eT : T.heap = h) (hQ : Q (some (.int z)) h locs) (hk : cells ≤ k ∧ slots ≤ n) : own_G p e below (own_P s Q k n) (T.setTop (mkF m pc Ls (.int z :: rest))) :=
  own_retI X D.1 Bd.returns Bd.notSynchronized (own_dd D hd) (by rw [eT]; exact hQ) hk.1 hk.2
theorem own_rA (X : Stand p l e R s m args below meth c T locs cells slots) (D : own_TB p c B) (Bd : BodyLoose p l y SS code ml (some t) e s' m args' below meth c s₁) (ht : t.isReference = true) (hv : v.isRef = true) (hd : own_lk B pc = some (.areturn, 1, q, iv)) (eT : T.heap = h) (hQ : Q (some v) h locs) (hk : cells ≤ k ∧ slots ≤ n) : own_G p e below (own_P s Q k n) (T.setTop (mkF m pc Ls (v :: rest))) :=
  own_retA X D.1 Bd.returns ht hv Bd.notSynchronized (own_dd D hd) (by rw [eT]; exact hQ) hk.1 hk.2
theorem own_rN (X : Stand p l e R s m args below meth c T locs cells slots) (D : own_TB p c B) (Bd : BodyLoose p l y SS code ml (some t) e s' m args' below meth c s₁) (ht : t = .boolean ∨ t = .byte ∨ t = .char ∨ t = .short) (hd : own_lk B pc = some (.ireturn, 1, q, iv)) (eT : T.heap = h) (hQ : Q (some (.int (nar t z))) h locs) (hk : cells ≤ k ∧ slots ≤ n) : own_G p e below (own_P s Q k n) (T.setTop (mkF m pc Ls (.int z :: rest))) :=
  own_retN X D.1 Bd.returns ht Bd.notSynchronized (own_dd D hd) (by rw [eT]; exact hQ) hk.1 hk.2
end OwnRet
theorem own_al1 {P : Addr → Prop} {a : Addr} (h : P a) : ∀ x, x ∈ [a] → P x := fun x hx => by
  rw [List.mem_singleton] at hx; subst hx; exact h
theorem own_al2 {P : Addr → Prop} {a b : Addr} (h : P a) (h' : P b) : ∀ x, x ∈ [a, b] → P x := fun x hx => by
  simp only [List.mem_cons, List.not_mem_nil, or_false] at hx
  rcases hx with rfl | rfl
  · exact h
  · exact h'
theorem own_nm1 {a b : Addr} (h : a ≠ b) : ¬ a ∈ [b] := by simpa using h
theorem own_nm2 {a b c : Addr} (h : a ≠ b) (h' : a ≠ c) : ¬ a ∈ [b, c] := by
  simp only [List.mem_cons, List.not_mem_nil, or_false, not_or]; exact ⟨h, h'⟩
theorem own_m0 {a : Addr} {l : List Addr} : a ∈ a :: l := List.mem_cons_self ..
theorem own_m1 {a b : Addr} {l : List Addr} : b ∈ a :: b :: l := List.mem_cons_of_mem _ (List.mem_cons_self ..)
theorem own_ne1 {a b n : Addr} (h : a < n) (g : b = n) : a ≠ b := g ▸ Nat.ne_of_lt h
theorem own_ne2 {a b n : Addr} (h : a < n) (g : n ≤ b) : a ≠ b := Nat.ne_of_lt (Nat.lt_of_lt_of_le h g)
theorem own_ge {a b : Addr} {n : Nat} (h : n ≤ a) (g : b = a) : n ≤ b := g ▸ h
def own_B0 : List own_Row := [(0,.iload_n 1,1,1,0),(1,.iconst 3,1,2,3),(2,.iand,1,3,0),(3,.istore 4,2,5,0),(5,.iload_n 2,1,6,0),(6,.iconst 1,1,7,1),(7,.iand,1,8,0),(8,.ifCond .eq 7,3,15,0),(11,.iconst 1,1,12,1),(12,.goto 4,3,16,0),(15,.iconst 0,1,16,0),(16,.istore 5,2,18,0),(18,.iload_n 2,1,19,0),(19,.iconst 2,1,20,2),(20,.iand,1,21,0),(21,.ifCond .eq 7,3,28,0),(24,.iconst 1,1,25,1),(25,.goto 4,3,29,0),(28,.iconst 0,1,29,0),(29,.istore 6,2,31,0),(31,.iload 4,2,33,0),(33,.iload_n 0,1,34,0),(34,.iload_n 1,1,35,0),(35,.invokestatic 12,3,38,0),(38,.astore 7,2,40,0),(40,.new 7,3,43,0),(43,.dup,1,44,0),(44,.sipush 16385,3,47,16385),(47,.newarray .char,2,49,0),(49,.invokespecial 9,3,52,0),(52,.astore 8,2,54,0),(54,.iload_n 3,1,55,0),(55,.i2c,1,56,0),(56,.istore 9,2,58,0),(58,.new 18,3,61,0),(61,.dup,1,62,0),(62,.invokespecial 20,3,65,0),(65,.astore 10,2,67,0),(67,.aload 10,2,69,0),(69,.invokevirtual 21,3,72,0),(72,.istore 11,2,74,0),(74,.aload 10,2,76,0),(76,.aload 7,2,78,0),(78,.invokevirtual 25,3,81,0),(81,.iload 11,2,83,0),(83,.aload 10,2,85,0),(85,.invokevirtual 21,3,88,0),(88,.iload 4,2,90,0),(90,.ifCond .ne 7,3,97,0),(93,.iconst 1,1,94,1),(94,.goto 4,3,98,0),(97,.iconst 0,1,98,0),(98,.if_icmp .ne 7,3,105,0),(101,.iconst 1,1,102,1),(102,.goto 4,3,106,0),(106,.iand,1,107,0),(107,.istore 11,2,109,0),(109,.iload 5,2,111,0),(111,.ifCond .eq 10,3,121,0),(114,.aload 10,2,116,0),(116,.aload 8,2,118,0),(118,.invokevirtual 25,3,121,0),(121,.iload 11,2,123,0),(123,.aload 10,2,125,0),(125,.invokevirtual 21,3,128,0),(128,.iload 4,2,130,0),(130,.ifCond .ne 12,3,142,0),(133,.iload 5,2,135,0),(135,.ifCond .ne 7,3,142,0),(138,.iconst 1,1,139,1),(139,.goto 4,3,143,0),(142,.iconst 0,1,143,0),(143,.if_icmp .ne 7,3,150,0),(146,.iconst 1,1,147,1),(147,.goto 4,3,151,0),(151,.iand,1,152,0),(152,.istore 11,2,154,0),(154,.iload 6,2,156,0),(156,.ifCond .eq 10,3,166,0),(159,.aload 10,2,161,0),(161,.iload 9,2,163,0),(163,.invokevirtual 29,3,166,0),(166,.iload 11,2,168,0),(168,.aload 10,2,170,0),(170,.invokevirtual 21,3,173,0),(173,.iload 4,2,175,0),(175,.ifCond .ne 17,3,192,0),(178,.iload 5,2,180,0),(180,.ifCond .ne 12,3,192,0),(183,.iload 6,2,185,0),(185,.ifCond .ne 7,3,192,0),(188,.iconst 1,1,189,1),(189,.goto 4,3,193,0),(192,.iconst 0,1,193,0),(193,.if_icmp .ne 7,3,200,0),(196,.iconst 1,1,197,1),(197,.goto 4,3,201,0),(201,.iand,1,202,0),(202,.istore 11,2,204,0),(204,.iload 11,2,206,0),(206,.ireturn,1,207,0)]
theorem own_o0 : own_ok code own_B0 = true := by decide +kernel
def own_B1 : List own_Row := [(0,.iload_n 1,1,1,0),(1,.i2c,1,2,0),(2,.istore_n 3,1,3,0),(3,.iload_n 1,1,4,0),(4,.bipush 16,2,6,16),(6,.iushr,1,7,0),(7,.i2c,1,8,0),(8,.istore 4,2,10,0),(10,.iload_n 2,1,11,0),(11,.bipush 16,2,13,16),(13,.iushr,1,14,0),(14,.i2c,1,15,0),(15,.istore 5,2,17,0),(17,.iload_n 0,1,18,0),(18,.ifCond .ne 14,3,32,0),(21,.new 7,3,24,0),(24,.dup,1,25,0),(25,.iconst 0,1,26,0),(26,.newarray .char,2,28,0),(28,.invokespecial 9,3,31,0),(31,.areturn,1,32,0),(32,.iload_n 0,1,33,0),(33,.iconst 1,1,34,1),(34,.if_icmp .ne 18,3,52,0),(37,.new 7,3,40,0),(40,.dup,1,41,0),(41,.iconst 1,1,42,1),(42,.newarray .char,2,44,0),(44,.dup,1,45,0),(45,.iconst 0,1,46,0),(46,.iload_n 3,1,47,0),(47,.castore,1,48,0),(48,.invokespecial 9,3,51,0),(51,.areturn,1,52,0),(52,.iload_n 0,1,53,0),(53,.iconst 2,1,54,2),(54,.if_icmp .ne 23,3,77,0),(57,.new 7,3,60,0),(60,.dup,1,61,0),(61,.iconst 2,1,62,2),(62,.newarray .char,2,64,0),(64,.dup,1,65,0),(65,.iconst 0,1,66,0),(66,.iload_n 3,1,67,0),(67,.castore,1,68,0),(68,.dup,1,69,0),(69,.iconst 1,1,70,1),(70,.iload 4,2,72,0),(72,.castore,1,73,0),(73,.invokespecial 9,3,76,0),(76,.areturn,1,77,0),(77,.new 7,3,80,0),(80,.dup,1,81,0),(81,.iconst 3,1,82,3),(82,.newarray .char,2,84,0),(84,.dup,1,85,0),(85,.iconst 0,1,86,0),(86,.iload_n 3,1,87,0),(87,.castore,1,88,0),(88,.dup,1,89,0),(89,.iconst 1,1,90,1),(90,.iload 4,2,92,0),(92,.castore,1,93,0),(93,.dup,1,94,0),(94,.iconst 2,1,95,2),(95,.iload 5,2,97,0),(97,.castore,1,98,0),(98,.invokespecial 9,3,101,0),(101,.areturn,1,102,0)]
theorem own_o1 : own_ok method_2_code own_B1 = true := by decide +kernel
def own_B2 : List own_Row := [(0,.aload_n 0,1,1,0),(1,.aload_n 1,1,2,0),(2,.iconst 0,1,3,0),(3,.aload_n 1,1,4,0),(4,.arraylength,1,5,0),(5,.aconst_null,1,6,0),(6,.invokespecial 27,3,9,0),(9,.return_,1,10,0)]
theorem own_o2 : own_ok jdk_42_method_3_code own_B2 = true := by decide +kernel
def own_B3 : List own_Row := [(0,.aload_n 0,1,1,0),(1,.invokespecial 1,3,4,0),(4,.iload_n 3,1,5,0),(5,.ifCond .ne 22,3,27,0),(8,.aload_n 0,1,9,0),(9,.ldc 7,2,11,0),(11,.getfield 9,3,14,0),(14,.putfield 9,3,17,0),(17,.aload_n 0,1,18,0),(18,.ldc 7,2,20,0),(20,.getfield 15,3,23,0),(23,.putfield 15,3,26,0),(26,.return_,1,27,0),(27,.getstatic 38,3,30,0),(30,.ifCond .eq 28,3,58,0),(33,.aload_n 1,1,34,0),(34,.iload_n 2,1,35,0),(35,.iload_n 3,1,36,0),(36,.invokestatic 177,3,39,0),(39,.astore 5,2,41,0),(41,.aload_n 0,1,42,0),(42,.aload 5,2,44,0),(44,.iload_n 3,1,45,0),(45,.invokestatic 47,3,48,0),(48,.putfield 15,3,51,0),(51,.aload_n 0,1,52,0),(52,.aload 5,2,54,0),(54,.putfield 9,3,57,0),(57,.return_,1,58,0)]
theorem own_o3 : own_ok jdk_42_method_149_code own_B3 = true := by decide +kernel
def own_B5 : List own_Row := [(0,.iload_n 2,1,1,0),(1,.newarray .byte,2,3,0),(3,.astore_n 3,1,4,0),(4,.aload_n 0,1,5,0),(5,.iload_n 1,1,6,0),(6,.aload_n 3,1,7,0),(7,.iconst 0,1,8,0),(8,.iload_n 2,1,9,0),(9,.invokestatic 115,3,12,0),(12,.istore 4,2,14,0),(14,.iload 4,2,16,0),(16,.iload_n 2,1,17,0),(17,.if_icmp .eq 40,3,57,0),(20,.aload_n 0,1,21,0),(21,.iload_n 1,1,22,0),(22,.iload_n 2,1,23,0),(23,.invokestatic 119,3,26,0),(26,.astore 5,2,28,0),(28,.aload 5,2,30,0),(30,.iload 4,2,32,0),(32,.invokestatic 71,3,35,0),(35,.sipush 255,3,38,255),(38,.if_icmp .gt 16,3,54,0),(54,.aload 5,2,56,0),(56,.areturn,1,57,0),(57,.aload_n 3,1,58,0),(58,.areturn,1,59,0)]
theorem own_o5 : own_ok jdk_52_method_16_code own_B5 = true := by decide +kernel
def own_B6 : List own_Row := [(0,.iconst 0,1,1,0),(1,.istore 5,2,3,0),(3,.iload 5,2,5,0),(5,.iload 4,2,7,0),(7,.if_icmp .ge 37,3,44,0),(10,.aload_n 0,1,11,0),(11,.iload_n 1,1,12,0),(12,.caload,1,13,0),(13,.istore 6,2,15,0),(15,.iload 6,2,17,0),(17,.sipush 255,3,20,255),(20,.if_icmp .le 6,3,26,0),(23,.iload 5,2,25,0),(25,.ireturn,1,26,0),(26,.aload_n 2,1,27,0),(27,.iload_n 3,1,28,0),(28,.iload 6,2,30,0),(30,.i2b,1,31,0),(31,.bastore,1,32,0),(32,.iinc 1 1,3,35,1),(35,.iinc 3 1,3,38,1),(38,.iinc 5 1,3,41,1),(41,.goto (-38),3,3,0),(44,.iload 4,2,46,0),(46,.ireturn,1,47,0)]
theorem own_o6 : own_ok jdk_52_method_21_code own_B6 = true := by decide +kernel
def own_B7 : List own_Row := [(0,.iload_n 1,1,1,0),(1,.aload_n 0,1,2,0),(2,.arraylength,1,3,0),(3,.isub,1,4,0),(4,.bipush 31,2,6,31),(6,.iushr,1,7,0),(7,.i2b,1,8,0),(8,.ireturn,1,9,0)]
theorem own_o7 : own_ok jdk_52_method_15_code own_B7 = true := by decide +kernel
def own_B8 : List own_Row := [(0,.aload_n 0,1,1,0),(1,.invokespecial 3,3,4,0),(4,.aload_n 0,1,5,0),(5,.bipush 64,2,7,64),(7,.newarray .byte,2,9,0),(9,.putfield 9,3,12,0),(12,.return_,1,13,0)]
theorem own_o8 : own_ok prog_37_method_1_code own_B8 = true := by decide +kernel
def own_B9 : List own_Row := [(0,.aload_n 0,1,1,0),(1,.getfield 85,3,4,0),(4,.lconst 0,1,5,0),(5,.lcmp,1,6,0),(6,.ifCond .ne 14,3,20,0),(9,.aload_n 0,1,10,0),(10,.getfield 19,3,13,0),(13,.ifCond .ne 7,3,20,0),(16,.iconst 1,1,17,1),(17,.goto 4,3,21,0),(20,.iconst 0,1,21,0),(21,.ireturn,1,22,0)]
theorem own_o9 : own_ok prog_37_method_13_code own_B9 = true := by decide +kernel
def own_B10 : List own_Row := [(0,.aload_n 0,1,1,0),(1,.aload_n 1,1,2,0),(2,.iconst 0,1,3,0),(3,.aload_n 1,1,4,0),(4,.invokevirtual 27,3,7,0),(7,.invokevirtual 32,3,10,0),(10,.return_,1,11,0)]
theorem own_o10 : own_ok prog_37_method_3_code own_B10 = true := by decide +kernel
def own_B11 : List own_Row := [(0,.aload_n 0,1,1,0),(1,.getfield 9,3,4,0),(4,.arraylength,1,5,0),(5,.aload_n 0,1,6,0),(6,.invokevirtual 335,3,9,0),(9,.ishr,1,10,0),(10,.ireturn,1,11,0)]
theorem own_o11 : own_ok jdk_42_method_54_code own_B11 = true := by decide +kernel
def own_B12 : List own_Row := [(0,.getstatic 38,3,3,0),(3,.ifCond .eq 10,3,13,0),(6,.aload_n 0,1,7,0),(7,.getfield 15,3,10,0),(10,.goto 4,3,14,0),(14,.ireturn,1,15,0)]
theorem own_o12 : own_ok jdk_42_method_152_code own_B12 = true := by decide +kernel
def own_B13 : List own_Row := [(0,.iconst 1,1,1,1),(1,.istore 4,2,3,0),(3,.iload_n 2,1,4,0),(4,.istore 5,2,6,0),(6,.aload_n 0,1,7,0),(7,.getfield 15,3,10,0),(10,.ifnonnull 39,3,49,0),(13,.iload 4,2,15,0),(15,.ifCond .eq 34,3,49,0),(18,.iload 5,2,20,0),(20,.iload_n 3,1,21,0),(21,.if_icmp .ge 28,3,49,0),(24,.aload_n 1,1,25,0),(25,.iload 5,2,27,0),(27,.invokevirtual 36,3,30,0),(30,.sipush 255,3,33,255),(33,.if_icmp .gt 7,3,40,0),(36,.iconst 1,1,37,1),(37,.goto 4,3,41,0),(40,.iconst 0,1,41,0),(41,.istore 4,2,43,0),(43,.iinc 5 1,3,46,1),(46,.goto (-40),3,6,0),(49,.aload_n 0,1,50,0),(50,.aload_n 1,1,51,0),(51,.iload_n 2,1,52,0),(52,.iload_n 3,1,53,0),(53,.iload 4,2,55,0),(55,.invokevirtual 40,3,58,0),(58,.return_,1,59,0)]
theorem own_o13 : own_ok prog_37_method_4_code own_B13 = true := by decide +kernel
def own_B14 : List own_Row := [(0,.aload_n 0,1,1,0),(1,.invokevirtual 492,3,4,0),(4,.ifCond .eq 12,3,16,0),(7,.aload_n 0,1,8,0),(8,.getfield 9,3,11,0),(11,.iload_n 1,1,12,0),(12,.invokestatic 495,3,15,0),(15,.ireturn,1,16,0),(16,.aload_n 0,1,17,0),(17,.getfield 9,3,20,0),(20,.iload_n 1,1,21,0),(21,.invokestatic 498,3,24,0),(24,.ireturn,1,25,0)]
theorem own_o14 : own_ok jdk_42_method_56_code own_B14 = true := by decide +kernel
def own_B15 : List own_Row := [(0,.getstatic 38,3,3,0),(3,.ifCond .eq 14,3,17,0),(6,.aload_n 0,1,7,0),(7,.getfield 15,3,10,0),(10,.ifCond .ne 7,3,17,0),(13,.iconst 1,1,14,1),(14,.goto 4,3,18,0),(17,.iconst 0,1,18,0),(18,.ireturn,1,19,0)]
theorem own_o15 : own_ok jdk_42_method_154_code own_B15 = true := by decide +kernel
def own_B16 : List own_Row := [(0,.iload_n 1,1,1,0),(1,.aload_n 0,1,2,0),(2,.arraylength,1,3,0),(3,.invokestatic 9,3,6,0),(6,.aload_n 0,1,7,0),(7,.iload_n 1,1,8,0),(8,.baload,1,9,0),(9,.sipush 255,3,12,255),(12,.iand,1,13,0),(13,.i2c,1,14,0),(14,.ireturn,1,15,0)]
theorem own_o16 : own_ok jdk_43_method_2_code own_B16 = true := by decide +kernel
def own_B17 : List own_Row := [(0,.iload_n 0,1,1,0),(1,.iload_n 1,1,2,0),(2,.getstatic 1053,3,5,0),(5,.invokestatic 1059,3,8,0),(8,.pop,1,9,0),(9,.return_,1,10,0)]
theorem own_o17 : own_ok jdk_42_method_155_code own_B17 = true := by decide +kernel
def own_B18 : List own_Row := [(0,.iload_n 0,1,1,0),(1,.ifCond .lt 8,3,9,0),(4,.iload_n 0,1,5,0),(5,.iload_n 1,1,6,0),(6,.if_icmp .lt 10,3,16,0),(16,.iload_n 0,1,17,0),(17,.ireturn,1,18,0)]
theorem own_o18 : own_ok jdk_41_method_11_code own_B18 = true := by decide +kernel
def own_B19 : List own_Row := [(0,.iload_n 3,1,1,0),(1,.iload_n 2,1,2,0),(2,.isub,1,3,0),(3,.istore 5,2,5,0),(5,.aload_n 0,1,6,0),(6,.getfield 15,3,9,0),(9,.ifnonnull 44,3,53,0),(12,.iload 4,2,14,0),(14,.ifCond .eq 39,3,53,0),(17,.iload 5,2,19,0),(19,.aload_n 0,1,20,0),(20,.getfield 9,3,23,0),(23,.arraylength,1,24,0),(24,.aload_n 0,1,25,0),(25,.getfield 19,3,28,0),(28,.isub,1,29,0),(29,.if_icmp .gt 24,3,53,0),(32,.aload_n 0,1,33,0),(33,.aload_n 1,1,34,0),(34,.iload_n 2,1,35,0),(35,.iload_n 3,1,36,0),(36,.invokevirtual 44,3,39,0),(39,.aload_n 0,1,40,0),(40,.dup,1,41,0),(41,.getfield 19,3,44,0),(44,.iload 5,2,46,0),(46,.iadd,1,47,0),(47,.putfield 19,3,50,0),(50,.goto 62,3,112,0),(53,.aload_n 0,1,54,0),(54,.getfield 15,3,57,0),(57,.ifnull 46,3,103,0),(60,.iload 5,2,62,0),(62,.aload_n 0,1,63,0),(63,.getfield 15,3,66,0),(66,.arraylength,1,67,0),(67,.aload_n 0,1,68,0),(68,.getfield 19,3,71,0),(71,.isub,1,72,0),(72,.if_icmp .gt 31,3,103,0),(103,.aload_n 0,1,104,0),(104,.aload_n 1,1,105,0),(105,.iload_n 2,1,106,0),(106,.iload_n 3,1,107,0),(107,.iload 4,2,109,0),(109,.invokevirtual 51,3,112,0),(112,.return_,1,113,0)]
theorem own_o19 : own_ok prog_37_method_6_code own_B19 = true := by decide +kernel
def own_B20 : List own_Row := [(0,.aload_n 1,1,1,0),(1,.iload_n 2,1,2,0),(2,.iload_n 3,1,3,0),(3,.aload_n 0,1,4,0),(4,.getfield 9,3,7,0),(7,.aload_n 0,1,8,0),(8,.getfield 19,3,11,0),(11,.invokevirtual 116,3,14,0),(14,.return_,1,15,0)]
theorem own_o20 : own_ok prog_37_method_15_code own_B20 = true := by decide +kernel
def own_B21 : List own_Row := [(0,.iload_n 1,1,1,0),(1,.iload_n 2,1,2,0),(2,.aload_n 0,1,3,0),(3,.invokevirtual 505,3,6,0),(6,.invokestatic 521,3,9,0),(9,.aload_n 3,1,10,0),(10,.invokestatic 78,3,13,0),(13,.pop,1,14,0),(14,.iload 4,2,16,0),(16,.iload_n 2,1,17,0),(17,.iload_n 1,1,18,0),(18,.isub,1,19,0),(19,.aload_n 3,1,20,0),(20,.arraylength,1,21,0),(21,.invokestatic 34,3,24,0),(24,.pop,1,25,0),(25,.aload_n 0,1,26,0),(26,.invokevirtual 492,3,29,0),(29,.ifCond .eq 18,3,47,0),(32,.aload_n 0,1,33,0),(33,.getfield 9,3,36,0),(36,.iload_n 1,1,37,0),(37,.iload_n 2,1,38,0),(38,.aload_n 3,1,39,0),(39,.iload 4,2,41,0),(41,.invokestatic 530,3,44,0),(44,.goto 15,3,59,0),(59,.return_,1,60,0)]
theorem own_o21 : own_ok jdk_42_method_62_code own_B21 = true := by decide +kernel
def own_B22 : List own_Row := [(0,.iload_n 0,1,1,0),(1,.iload_n 1,1,2,0),(2,.iload_n 2,1,3,0),(3,.getstatic 1053,3,6,0),(6,.invokestatic 1062,3,9,0),(9,.pop,1,10,0),(10,.return_,1,11,0)]
theorem own_o22 : own_ok jdk_42_method_158_code own_B22 = true := by decide +kernel
def own_B23 : List own_Row := [(0,.iload_n 0,1,1,0),(1,.ifCond .lt 13,3,14,0),(4,.iload_n 0,1,5,0),(5,.iload_n 1,1,6,0),(6,.if_icmp .gt 8,3,14,0),(9,.iload_n 1,1,10,0),(10,.iload_n 2,1,11,0),(11,.if_icmp .le 11,3,22,0),(22,.iload_n 0,1,23,0),(23,.ireturn,1,24,0)]
theorem own_o23 : own_ok jdk_41_method_12_code own_B23 = true := by decide +kernel
def own_B24 : List own_Row := [(0,.aload_n 0,1,1,0),(1,.ifnonnull 11,3,12,0),(12,.aload_n 0,1,13,0),(13,.areturn,1,14,0)]
theorem own_o24 : own_ok jdk_31_method_10_code own_B24 = true := by decide +kernel
def own_B25 : List own_Row := [(0,.iload_n 0,1,1,0),(1,.iload_n 1,1,2,0),(2,.iload_n 2,1,3,0),(3,.getstatic 1053,3,6,0),(6,.invokestatic 1065,3,9,0),(9,.ireturn,1,10,0)]
theorem own_o25 : own_ok jdk_42_method_157_code own_B25 = true := by decide +kernel
def own_B26 : List own_Row := [(0,.iload_n 2,1,1,0),(1,.iload_n 0,1,2,0),(2,.ior,1,3,0),(3,.iload_n 1,1,4,0),(4,.ior,1,5,0),(5,.ifCond .lt 10,3,15,0),(8,.iload_n 1,1,9,0),(9,.iload_n 2,1,10,0),(10,.iload_n 0,1,11,0),(11,.isub,1,12,0),(12,.if_icmp .le 11,3,23,0),(23,.iload_n 0,1,24,0),(24,.ireturn,1,25,0)]
theorem own_o26 : own_ok jdk_41_method_13_code own_B26 = true := by decide +kernel
def own_B27 : List own_Row := [(0,.aload_n 0,1,1,0),(1,.iload_n 1,1,2,0),(2,.aload_n 3,1,3,0),(3,.iload 4,2,5,0),(5,.iload_n 2,1,6,0),(6,.iload_n 1,1,7,0),(7,.isub,1,8,0),(8,.invokestatic 28,3,11,0),(11,.return_,1,12,0)]
theorem own_o27 : own_ok jdk_43_method_12_code own_B27 = true := by decide +kernel
def own_B28 : List own_Row := [(0,.aload_n 0,1,1,0),(1,.getfield 15,3,4,0),(4,.ifnonnull 43,3,47,0),(7,.iload_n 1,1,8,0),(8,.sipush 255,3,11,255),(11,.if_icmp .gt 36,3,47,0),(14,.aload_n 0,1,15,0),(15,.getfield 19,3,18,0),(18,.aload_n 0,1,19,0),(19,.getfield 9,3,22,0),(22,.arraylength,1,23,0),(23,.if_icmp .ge 24,3,47,0),(26,.aload_n 0,1,27,0),(27,.getfield 9,3,30,0),(30,.aload_n 0,1,31,0),(31,.dup,1,32,0),(32,.getfield 19,3,35,0),(35,.dup_x1,1,36,0),(36,.iconst 1,1,37,1),(37,.iadd,1,38,0),(38,.putfield 19,3,41,0),(41,.iload_n 1,1,42,0),(42,.i2b,1,43,0),(43,.bastore,1,44,0),(44,.goto 8,3,52,0),(47,.aload_n 0,1,48,0),(48,.iload_n 1,1,49,0),(49,.invokevirtual 23,3,52,0),(52,.return_,1,53,0)]
theorem own_o28 : own_ok prog_37_method_2_code own_B28 = true := by decide +kernel
def own_B29 : List own_Row := [(0,.iload_n 2,1,1,0),(1,.invokestatic 107,3,4,0),(4,.astore_n 3,1,5,0),(5,.iconst 0,1,6,0),(6,.istore 4,2,8,0),(8,.iload 4,2,10,0),(10,.iload_n 2,1,11,0),(11,.if_icmp .ge 21,3,32,0),(14,.aload_n 3,1,15,0),(15,.iload 4,2,17,0),(17,.aload_n 0,1,18,0),(18,.iload_n 1,1,19,0),(19,.caload,1,20,0),(20,.invokestatic 111,3,23,0),(23,.iinc 1 1,3,26,1),(26,.iinc 4 1,3,29,1),(29,.goto (-21),3,8,0),(32,.aload_n 3,1,33,0),(33,.areturn,1,34,0)]
theorem own_o29 : own_ok jdk_52_method_14_code own_B29 = true := by decide +kernel
def own_B30 : List own_Row := [(0,.iload_n 0,1,1,0),(1,.invokestatic 11,3,4,0),(4,.newarray .byte,2,6,0),(6,.areturn,1,7,0)]
theorem own_o30 : own_ok jdk_52_method_2_code own_B30 = true := by decide +kernel
def own_B31 : List own_Row := [(0,.iload_n 0,1,1,0),(1,.ifCond .ge 11,3,12,0),(12,.iload_n 0,1,13,0),(13,.ldc 20,2,15,0),(15,.if_icmp .lt 40,3,55,0),(55,.iload_n 0,1,56,0),(56,.iconst 1,1,57,1),(57,.ishl,1,58,0),(58,.ireturn,1,59,0)]
theorem own_o31 : own_ok jdk_52_method_3_code own_B31 = true := by decide +kernel
def own_B32 : List own_Row := [(0,.getstatic 44,3,3,0),(3,.ifCond .ne 25,3,28,0),(28,.iload_n 1,1,29,0),(29,.iconst 1,1,30,1),(30,.ishl,1,31,0),(31,.istore_n 1,1,32,0),(32,.aload_n 0,1,33,0),(33,.iload_n 1,1,34,0),(34,.iinc 1 1,3,37,1),(37,.iload_n 2,1,38,0),(38,.getstatic 59,3,41,0),(41,.ishr,1,42,0),(42,.i2b,1,43,0),(43,.bastore,1,44,0),(44,.aload_n 0,1,45,0),(45,.iload_n 1,1,46,0),(46,.iload_n 2,1,47,0),(47,.getstatic 63,3,50,0),(50,.ishr,1,51,0),(51,.i2b,1,52,0),(52,.bastore,1,53,0),(53,.return_,1,54,0)]
theorem own_o32 : own_ok jdk_52_method_4_code own_B32 = true := by decide +kernel
def own_B33 : List own_Row := [(0,.getstatic 44,3,3,0),(3,.ifCond .ne 25,3,28,0),(28,.iload_n 1,1,29,0),(29,.iconst 1,1,30,1),(30,.ishl,1,31,0),(31,.istore_n 1,1,32,0),(32,.aload_n 0,1,33,0),(33,.iload_n 1,1,34,0),(34,.iinc 1 1,3,37,1),(37,.baload,1,38,0),(38,.sipush 255,3,41,255),(41,.iand,1,42,0),(42,.getstatic 59,3,45,0),(45,.ishl,1,46,0),(46,.aload_n 0,1,47,0),(47,.iload_n 1,1,48,0),(48,.baload,1,49,0),(49,.sipush 255,3,52,255),(52,.iand,1,53,0),(53,.getstatic 63,3,56,0),(56,.ishl,1,57,0),(57,.ior,1,58,0),(58,.i2c,1,59,0),(59,.ireturn,1,60,0)]
theorem own_o33 : own_ok jdk_52_method_5_code own_B33 = true := by decide +kernel
def own_B34 : List own_Row := [(0,.iload_n 1,1,1,0),(1,.aload_n 0,1,2,0),(2,.invokestatic 67,3,5,0),(5,.aload_n 0,1,6,0),(6,.iload_n 1,1,7,0),(7,.invokestatic 71,3,10,0),(10,.ireturn,1,11,0)]
theorem own_o34 : own_ok jdk_52_method_83_code own_B34 = true := by decide +kernel
def own_B35 : List own_Row := [(0,.iload_n 0,1,1,0),(1,.aload_n 1,1,2,0),(2,.invokestatic 48,3,5,0),(5,.invokestatic 414,3,8,0),(8,.return_,1,9,0)]
theorem own_o35 : own_ok jdk_52_method_91_code own_B35 = true := by decide +kernel
def own_B36 : List own_Row := [(0,.aload_n 0,1,1,0),(1,.arraylength,1,2,0),(2,.iconst 1,1,3,1),(3,.ishr,1,4,0),(4,.ireturn,1,5,0)]
theorem own_o36 : own_ok jdk_52_method_6_code own_B36 = true := by decide +kernel
def own_B37 : List own_Row := [(0,.iload_n 3,1,1,0),(1,.iload_n 2,1,2,0),(2,.isub,1,3,0),(3,.istore 5,2,5,0),(5,.iload 5,2,7,0),(7,.sipush 16384,3,10,16384),(10,.if_icmp .le 20,3,30,0),(13,.aload_n 0,1,14,0),(14,.invokevirtual 54,3,17,0),(17,.aload_n 0,1,18,0),(18,.aload_n 1,1,19,0),(19,.iload_n 2,1,20,0),(20,.iload_n 3,1,21,0),(21,.invokevirtual 57,3,24,0),(24,.invokevirtual 61,3,27,0),(27,.goto 73,3,100,0),(30,.aload_n 0,1,31,0),(31,.getfield 15,3,34,0),(34,.ifnonnull 35,3,69,0),(37,.iload 4,2,39,0),(39,.ifCond .eq 30,3,69,0),(69,.aload_n 0,1,70,0),(70,.iload 5,2,72,0),(72,.invokevirtual 69,3,75,0),(75,.aload_n 1,1,76,0),(76,.iload_n 2,1,77,0),(77,.iload_n 3,1,78,0),(78,.aload_n 0,1,79,0),(79,.getfield 15,3,82,0),(82,.aload_n 0,1,83,0),(83,.getfield 19,3,86,0),(86,.invokevirtual 47,3,89,0),(89,.aload_n 0,1,90,0),(90,.dup,1,91,0),(91,.getfield 19,3,94,0),(94,.iload 5,2,96,0),(96,.iadd,1,97,0),(97,.putfield 19,3,100,0),(100,.return_,1,101,0)]
theorem own_o37 : own_ok prog_37_method_7_code own_B37 = true := by decide +kernel
def own_B38 : List own_Row := [(0,.aload_n 0,1,1,0),(1,.getfield 15,3,4,0),(4,.ifnull 17,3,21,0),(7,.iload_n 1,1,8,0),(8,.aload_n 0,1,9,0),(9,.getfield 15,3,12,0),(12,.arraylength,1,13,0),(13,.aload_n 0,1,14,0),(14,.getfield 19,3,17,0),(17,.isub,1,18,0),(18,.if_icmp .le 8,3,26,0),(21,.aload_n 0,1,22,0),(22,.iload_n 1,1,23,0),(23,.invokevirtual 120,3,26,0),(26,.aload_n 0,1,27,0),(27,.getfield 15,3,30,0),(30,.ifnonnull 11,3,41,0),(33,.aload_n 0,1,34,0),(34,.iload_n 1,1,35,0),(35,.invokevirtual 135,3,38,0),(38,.goto 44,3,82,0),(41,.iload_n 1,1,42,0),(42,.aload_n 0,1,43,0),(43,.getfield 15,3,46,0),(46,.arraylength,1,47,0),(47,.aload_n 0,1,48,0),(48,.getfield 19,3,51,0),(51,.isub,1,52,0),(52,.if_icmp .le 30,3,82,0),(82,.return_,1,83,0)]
theorem own_o38 : own_ok prog_37_method_19_code own_B38 = true := by decide +kernel
def own_B39 : List own_Row := [(0,.aload_n 0,1,1,0),(1,.getfield 19,3,4,0),(4,.iload_n 1,1,5,0),(5,.iadd,1,6,0),(6,.sipush 16384,3,9,16384),(9,.if_icmp .le 7,3,16,0),(16,.return_,1,17,0)]
theorem own_o39 : own_ok prog_37_method_21_code own_B39 = true := by decide +kernel
def own_B40 : List own_Row := [(0,.aload_n 0,1,1,0),(1,.getfield 9,3,4,0),(4,.arraylength,1,5,0),(5,.aload_n 0,1,6,0),(6,.getfield 19,3,9,0),(9,.iload_n 1,1,10,0),(10,.iadd,1,11,0),(11,.invokestatic 123,3,14,0),(14,.istore_n 2,1,15,0),(15,.aload_n 0,1,16,0),(16,.aload_n 0,1,17,0),(17,.getfield 141,3,20,0),(20,.ifnull 19,3,39,0),(23,.aload_n 0,1,24,0),(24,.getfield 141,3,27,0),(27,.arraylength,1,28,0),(28,.iload_n 2,1,29,0),(29,.if_icmp .lt 10,3,39,0),(32,.aload_n 0,1,33,0),(33,.getfield 141,3,36,0),(36,.goto 6,3,42,0),(39,.iload_n 2,1,40,0),(40,.newarray .char,2,42,0),(42,.putfield 15,3,45,0),(45,.new 28,3,48,0),(48,.dup,1,49,0),(49,.aload_n 0,1,50,0),(50,.getfield 9,3,53,0),(53,.iconst 0,1,54,0),(54,.aload_n 0,1,55,0),(55,.getfield 19,3,58,0),(58,.getstatic 144,3,61,0),(61,.invokespecial 150,3,64,0),(64,.iconst 0,1,65,0),(65,.aload_n 0,1,66,0),(66,.getfield 19,3,69,0),(69,.aload_n 0,1,70,0),(70,.getfield 15,3,73,0),(73,.iconst 0,1,74,0),(74,.invokevirtual 47,3,77,0),(77,.return_,1,78,0)]
theorem own_o40 : own_ok prog_37_method_20_code own_B40 = true := by decide +kernel
def own_B41 : List own_Row := [(0,.iload_n 0,1,1,0),(1,.iload_n 1,1,2,0),(2,.if_icmp .lt 7,3,9,0),(5,.iload_n 0,1,6,0),(6,.goto 4,3,10,0),(9,.iload_n 1,1,10,0),(10,.ireturn,1,11,0)]
theorem own_o41 : own_ok jdk_29_method_65_code own_B41 = true := by decide +kernel
def own_B42 : List own_Row := [(0,.aload_n 0,1,1,0),(1,.aload 4,2,3,0),(3,.invokestatic 78,3,6,0),(6,.checkcast 84,3,9,0),(9,.aload_n 1,1,10,0),(10,.iload_n 2,1,11,0),(11,.iload_n 3,1,12,0),(12,.aload_n 1,1,13,0),(13,.arraylength,1,14,0),(14,.invokestatic 34,3,17,0),(17,.iload_n 3,1,18,0),(18,.invokespecial 75,3,21,0),(21,.return_,1,22,0)]
theorem own_o42 : own_ok jdk_42_method_10_code own_B42 = true := by decide +kernel
def own_B43 : List own_Row := [(0,.iload_n 1,1,1,0),(1,.iload_n 2,1,2,0),(2,.aload_n 0,1,3,0),(3,.invokevirtual 505,3,6,0),(6,.invokestatic 521,3,9,0),(9,.iload 4,2,11,0),(11,.iload_n 2,1,12,0),(12,.iload_n 1,1,13,0),(13,.isub,1,14,0),(14,.aload_n 3,1,15,0),(15,.arraylength,1,16,0),(16,.invokestatic 34,3,19,0),(19,.pop,1,20,0),(20,.aload_n 0,1,21,0),(21,.invokevirtual 492,3,24,0),(24,.ifCond .eq 18,3,42,0),(27,.aload_n 0,1,28,0),(28,.getfield 9,3,31,0),(31,.iload_n 1,1,32,0),(32,.iload_n 2,1,33,0),(33,.aload_n 3,1,34,0),(34,.iload 4,2,36,0),(36,.invokestatic 525,3,39,0),(39,.goto 15,3,54,0),(42,.aload_n 0,1,43,0),(43,.getfield 9,3,46,0),(46,.iload_n 1,1,47,0),(47,.iload_n 2,1,48,0),(48,.aload_n 3,1,49,0),(49,.iload 4,2,51,0),(51,.invokestatic 529,3,54,0),(54,.return_,1,55,0)]
theorem own_o43 : own_ok jdk_42_method_61_code own_B43 = true := by decide +kernel
def own_B44 : List own_Row := [(0,.aload_n 0,1,1,0),(1,.iload_n 1,1,2,0),(2,.aload_n 3,1,3,0),(3,.iload 4,2,5,0),(5,.iload_n 2,1,6,0),(6,.iload_n 1,1,7,0),(7,.isub,1,8,0),(8,.invokestatic 13,3,11,0),(11,.return_,1,12,0)]
theorem own_o44 : own_ok jdk_43_method_11_code own_B44 = true := by decide +kernel
def own_B45 : List own_Row := [(0,.iconst 0,1,1,0),(1,.istore 5,2,3,0),(3,.iload 5,2,5,0),(5,.iload 4,2,7,0),(7,.if_icmp .ge 26,3,33,0),(10,.aload_n 2,1,11,0),(11,.iload_n 3,1,12,0),(12,.iinc 3 1,3,15,1),(15,.aload_n 0,1,16,0),(16,.iload_n 1,1,17,0),(17,.iinc 1 1,3,20,1),(20,.baload,1,21,0),(21,.sipush 255,3,24,255),(24,.iand,1,25,0),(25,.i2c,1,26,0),(26,.castore,1,27,0),(27,.iinc 5 1,3,30,1),(30,.goto (-27),3,3,0),(33,.return_,1,34,0)]
theorem own_o45 : own_ok jdk_43_method_49_code own_B45 = true := by decide +kernel
def own_B46 : List own_Row := [(0,.iload_n 1,1,1,0),(1,.iload_n 2,1,2,0),(2,.if_icmp .ge 11,3,13,0),(5,.iload_n 1,1,6,0),(6,.iload_n 2,1,7,0),(7,.iload_n 1,1,8,0),(8,.isub,1,9,0),(9,.aload_n 0,1,10,0),(10,.invokestatic 173,3,13,0),(13,.iload_n 1,1,14,0),(14,.istore 5,2,16,0),(16,.iload 5,2,18,0),(18,.iload_n 2,1,19,0),(19,.if_icmp .ge 22,3,41,0),(22,.aload_n 3,1,23,0),(23,.iload 4,2,25,0),(25,.iinc 4 1,3,28,1),(28,.aload_n 0,1,29,0),(29,.iload 5,2,31,0),(31,.invokestatic 71,3,34,0),(34,.castore,1,35,0),(35,.iinc 5 1,3,38,1),(38,.goto (-22),3,16,0),(41,.return_,1,42,0)]
theorem own_o46 : own_ok jdk_52_method_26_code own_B46 = true := by decide +kernel
def own_B47 : List own_Row := [(0,.iload_n 0,1,1,0),(1,.iload_n 1,1,2,0),(2,.aload_n 2,1,3,0),(3,.invokestatic 48,3,6,0),(6,.invokestatic 419,3,9,0),(9,.pop,1,10,0),(10,.return_,1,11,0)]
theorem own_o47 : own_ok jdk_52_method_94_code own_B47 = true := by decide +kernel
def own_B48 : List own_Row := [(0,.aload_n 0,1,1,0),(1,.getfield 19,3,4,0),(4,.ifCond .le 36,3,40,0),(7,.aload_n 0,1,8,0),(8,.aload_n 0,1,9,0),(9,.invokevirtual 92,3,12,0),(12,.invokevirtual 61,3,15,0),(15,.aload_n 0,1,16,0),(16,.iconst 0,1,17,0),(17,.putfield 19,3,20,0),(20,.aload_n 0,1,21,0),(21,.getfield 15,3,24,0),(24,.ifnull 16,3,40,0),(27,.aload_n 0,1,28,0),(28,.aload_n 0,1,29,0),(29,.getfield 15,3,32,0),(32,.putfield 141,3,35,0),(35,.aload_n 0,1,36,0),(36,.aconst_null,1,37,0),(37,.putfield 15,3,40,0),(40,.return_,1,41,0)]
theorem own_o48 : own_ok prog_37_method_22_code own_B48 = true := by decide +kernel
def own_B49 : List own_Row := [(0,.aload_n 0,1,1,0),(1,.getfield 15,3,4,0),(4,.ifnonnull 25,3,29,0),(7,.new 28,3,10,0),(10,.dup,1,11,0),(11,.aload_n 0,1,12,0),(12,.getfield 9,3,15,0),(15,.iconst 0,1,16,0),(16,.aload_n 0,1,17,0),(17,.getfield 19,3,20,0),(20,.getstatic 144,3,23,0),(23,.invokespecial 150,3,26,0),(26,.goto 19,3,45,0),(29,.new 28,3,32,0),(32,.dup,1,33,0),(33,.aload_n 0,1,34,0),(34,.getfield 15,3,37,0),(37,.iconst 0,1,38,0),(38,.aload_n 0,1,39,0),(39,.getfield 19,3,42,0),(42,.invokespecial 170,3,45,0),(45,.areturn,1,46,0)]
theorem own_o49 : own_ok prog_37_method_25_code own_B49 = true := by decide +kernel
def own_B50 : List own_Row := [(0,.aload_n 0,1,1,0),(1,.aload_n 1,1,2,0),(2,.iload_n 2,1,3,0),(3,.iload_n 3,1,4,0),(4,.aload_n 1,1,5,0),(5,.iload_n 2,1,6,0),(6,.iload_n 3,1,7,0),(7,.invokestatic 30,3,10,0),(10,.invokespecial 27,3,13,0),(13,.return_,1,14,0)]
theorem own_o50 : own_ok jdk_42_method_4_code own_B50 = true := by decide +kernel
def own_B51 : List own_Row := [(0,.iload_n 1,1,1,0),(1,.iload_n 2,1,2,0),(2,.aload_n 0,1,3,0),(3,.arraylength,1,4,0),(4,.invokestatic 34,3,7,0),(7,.pop,1,8,0),(8,.aconst_null,1,9,0),(9,.areturn,1,10,0)]
theorem own_o51 : own_ok jdk_42_method_5_code own_B51 = true := by decide +kernel
def own_B52 : List own_Row := [(0,.aload_n 0,1,1,0),(1,.aload_n 1,1,2,0),(2,.invokevirtual 27,3,5,0),(5,.invokevirtual 96,3,8,0),(8,.aload_n 0,1,9,0),(9,.getfield 89,3,12,0),(12,.ifnonnull 14,3,26,0),(15,.aload_n 0,1,16,0),(16,.new 153,3,19,0),(19,.dup,1,20,0),(20,.invokespecial 155,3,23,0),(23,.putfield 89,3,26,0),(26,.aload_n 0,1,27,0),(27,.getfield 89,3,30,0),(30,.aload_n 1,1,31,0),(31,.invokeinterface 156 2,5,36,0),(36,.pop,1,37,0),(37,.aload_n 0,1,38,0),(38,.dup,1,39,0),(39,.getfield 85,3,42,0),(42,.aload_n 1,1,43,0),(43,.invokevirtual 27,3,46,0),(46,.i2l,1,47,0),(47,.ladd,1,48,0),(48,.putfield 85,3,51,0),(51,.return_,1,52,0)]
theorem own_o52 : own_ok prog_37_method_23_code own_B52 = true := by decide +kernel
def own_B53 : List own_Row := [(0,.aload_n 0,1,1,0),(1,.getfield 85,3,4,0),(4,.iload_n 1,1,5,0),(5,.i2l,1,6,0),(6,.ladd,1,7,0),(7,.ldc2_w 160,3,10,0),(10,.lcmp,1,11,0),(11,.ifCond .le 23,3,34,0),(34,.return_,1,35,0)]
theorem own_o53 : own_ok prog_37_method_24_code own_B53 = true := by decide +kernel
def own_B54 : List own_Row := [(0,.aload_n 0,1,1,0),(1,.invokespecial 1,3,4,0),(4,.aload_n 0,1,5,0),(5,.getstatic 39,3,8,0),(8,.putfield 9,3,11,0),(11,.return_,1,12,0)]
theorem own_o54 : own_ok jdk_38_method_2_code own_B54 = true := by decide +kernel
def own_B55 : List own_Row := [(0,.aload_n 0,1,1,0),(1,.invokespecial 1,3,4,0),(4,.aload_n 0,1,5,0),(5,.iconst 0,1,6,0),(6,.putfield 7,3,9,0),(9,.return_,1,10,0)]
theorem own_o55 : own_ok jdk_39_method_1_code own_B55 = true := by decide +kernel
def own_B56 : List own_Row := [(0,.aload_n 0,1,1,0),(1,.invokespecial 1,3,4,0),(4,.return_,1,5,0)]
theorem own_o56 : own_ok jdk_22_method_1_code own_B56 = true := by decide +kernel
def own_B57 : List own_Row := [(0,.aload_n 0,1,1,0),(1,.dup,1,2,0),(2,.getfield 63,3,5,0),(5,.iconst 1,1,6,1),(6,.iadd,1,7,0),(7,.putfield 63,3,10,0),(10,.aload_n 0,1,11,0),(11,.aload_n 1,1,12,0),(12,.aload_n 0,1,13,0),(13,.getfield 9,3,16,0),(16,.aload_n 0,1,17,0),(17,.getfield 48,3,20,0),(20,.invokevirtual 131,3,23,0),(23,.iconst 1,1,24,1),(24,.ireturn,1,25,0)]
theorem own_o57 : own_ok jdk_38_method_25_code own_B57 = true := by decide +kernel
def own_B58 : List own_Row := [(0,.iload_n 3,1,1,0),(1,.aload_n 2,1,2,0),(2,.arraylength,1,3,0),(3,.if_icmp .ne 8,3,11,0),(6,.aload_n 0,1,7,0),(7,.invokevirtual 129,3,10,0),(10,.astore_n 2,1,11,0),(11,.aload_n 2,1,12,0),(12,.iload_n 3,1,13,0),(13,.aload_n 1,1,14,0),(14,.aastore,1,15,0),(15,.aload_n 0,1,16,0),(16,.iload_n 3,1,17,0),(17,.iconst 1,1,18,1),(18,.iadd,1,19,0),(19,.putfield 48,3,22,0),(22,.return_,1,23,0)]
theorem own_o58 : own_ok jdk_38_method_24_code own_B58 = true := by decide +kernel
def own_B59 : List own_Row := [(0,.aload_n 0,1,1,0),(1,.aload_n 0,1,2,0),(2,.getfield 48,3,5,0),(5,.iconst 1,1,6,1),(6,.iadd,1,7,0),(7,.invokevirtual 69,3,10,0),(10,.areturn,1,11,0)]
theorem own_o59 : own_ok jdk_38_method_7_code own_B59 = true := by decide +kernel
def own_B60 : List own_Row := [(0,.aload_n 0,1,1,0),(1,.getfield 9,3,4,0),(4,.arraylength,1,5,0),(5,.istore_n 2,1,6,0),(6,.iload_n 2,1,7,0),(7,.ifCond .gt 13,3,20,0),(10,.aload_n 0,1,11,0),(11,.getfield 9,3,14,0),(14,.getstatic 39,3,17,0),(17,.if_acmp .eq 28,3,20,0),(45,.aload_n 0,1,46,0),(46,.bipush 10,2,48,10),(48,.iload_n 1,1,49,0),(49,.invokestatic 79,3,52,0),(52,.anewarray 7,3,55,0),(55,.dup_x1,1,56,0),(56,.putfield 9,3,59,0),(59,.areturn,1,60,0)]
theorem own_o60 : own_ok jdk_38_method_6_code own_B60 = true := by decide +kernel
def own_B61 : List own_Row := [(0,.aload_n 0,1,1,0),(1,.invokevirtual 505,3,4,0),(4,.istore_n 3,1,5,0),(5,.iload_n 1,1,6,0),(6,.iload_n 2,1,7,0),(7,.iload_n 3,1,8,0),(8,.invokestatic 521,3,11,0),(11,.iload_n 1,1,12,0),(12,.ifCond .ne 10,3,22,0),(15,.iload_n 2,1,16,0),(16,.iload_n 3,1,17,0),(17,.if_icmp .ne 5,3,22,0),(20,.aload_n 0,1,21,0),(21,.areturn,1,22,0)]
theorem own_o61 : own_ok jdk_42_method_92_code own_B61 = true := by decide +kernel
def own_B62 : List own_Row := [(0,.aload_n 0,1,1,0),(1,.getfield 15,3,4,0),(4,.ifnonnull 36,3,40,0),(7,.iload_n 1,1,8,0),(8,.sipush 255,3,11,255),(11,.if_icmp .gt 29,3,40,0),(40,.aload_n 0,1,41,0),(41,.iconst 1,1,42,1),(42,.invokevirtual 69,3,45,0),(45,.aload_n 0,1,46,0),(46,.getfield 15,3,49,0),(49,.aload_n 0,1,50,0),(50,.dup,1,51,0),(51,.getfield 19,3,54,0),(54,.dup_x1,1,55,0),(55,.iconst 1,1,56,1),(56,.iadd,1,57,0),(57,.putfield 19,3,60,0),(60,.iload_n 1,1,61,0),(61,.castore,1,62,0),(62,.return_,1,63,0)]
theorem own_o62 : own_ok prog_37_method_16_code own_B62 = true := by decide +kernel
def own_B63 : List own_Row := [(0,.iload_n 1,1,1,0),(1,.ifCond .ne 9,3,10,0),(4,.iload_n 2,1,5,0),(5,.aload_n 0,1,6,0),(6,.arraylength,1,7,0),(7,.if_icmp .eq 10,3,17,0),(10,.aload_n 0,1,11,0),(11,.iload_n 1,1,12,0),(12,.iload_n 2,1,13,0),(13,.invokestatic 339,3,16,0),(16,.areturn,1,17,0)]
theorem own_o63 : own_ok jdk_65_method_132_code own_B63 = true := by decide +kernel
def own_B64 : List own_Row := [(0,.iload_n 1,1,1,0),(1,.iload_n 2,1,2,0),(2,.invokestatic 343,3,5,0),(5,.iload_n 2,1,6,0),(6,.iload_n 1,1,7,0),(7,.isub,1,8,0),(8,.istore_n 3,1,9,0),(9,.iload_n 3,1,10,0),(10,.newarray .byte,2,12,0),(12,.astore 4,2,14,0),(14,.aload_n 0,1,15,0),(15,.iload_n 1,1,16,0),(16,.aload 4,2,18,0),(18,.iconst 0,1,19,0),(19,.aload_n 0,1,20,0),(20,.arraylength,1,21,0),(21,.iload_n 1,1,22,0),(22,.isub,1,23,0),(23,.iload_n 3,1,24,0),(24,.invokestatic 304,3,27,0),(27,.invokestatic 150,3,30,0),(30,.aload 4,2,32,0),(32,.areturn,1,33,0)]
theorem own_o64 : own_ok jdk_65_method_133_code own_B64 = true := by decide +kernel
def own_B65 : List own_Row := [(0,.iload_n 1,1,1,0),(1,.iload_n 0,1,2,0),(2,.if_icmp .ge 35,3,37,0),(37,.return_,1,38,0)]
theorem own_o65 : own_ok jdk_65_method_131_code own_B65 = true := by decide +kernel
def own_B66 : List own_Row := [(0,.iload_n 0,1,1,0),(1,.iload_n 1,1,2,0),(2,.if_icmp .gt 7,3,9,0),(5,.iload_n 0,1,6,0),(6,.goto 4,3,10,0),(9,.iload_n 1,1,10,0),(10,.ireturn,1,11,0)]
theorem own_o66 : own_ok jdk_29_method_69_code own_B66 = true := by decide +kernel
def own_B67 : List own_Row := [(0,.aload_n 0,1,1,0),(1,.invokespecial 1,3,4,0),(4,.iload 4,2,6,0),(6,.ifCond .ne 24,3,30,0),(9,.aload_n 0,1,10,0),(10,.ldc 7,2,12,0),(12,.getfield 9,3,15,0),(15,.putfield 9,3,18,0),(18,.aload_n 0,1,19,0),(19,.ldc 7,2,21,0),(21,.getfield 15,3,24,0),(24,.putfield 15,3,27,0),(27,.goto 852,3,879,0),(30,.aload_n 1,1,31,0),(31,.getstatic 86,3,34,0),(34,.if_acmp .ne 312,3,37,0),(346,.aload_n 1,1,347,0),(347,.getstatic 116,3,350,0),(350,.if_acmp .ne 49,3,353,0),(353,.getstatic 38,3,356,0),(356,.ifCond .eq 24,3,380,0),(359,.aload_n 0,1,360,0),(360,.aload_n 2,1,361,0),(361,.iload_n 3,1,362,0),(362,.iload_n 3,1,363,0),(363,.iload 4,2,365,0),(365,.iadd,1,366,0),(366,.invokestatic 54,3,369,0),(369,.putfield 9,3,372,0),(372,.aload_n 0,1,373,0),(373,.iconst 0,1,374,0),(374,.putfield 15,3,377,0),(377,.goto 502,3,879,0),(879,.return_,1,880,0)]
theorem own_o67 : own_ok jdk_42_method_11_code own_B67 = true := by decide +kernel
section OwnPk
abbrev own_hw (a0 : Array Value) (Z : State) : Prop := ∀ d ∈ tables_1, d.before a0 Z = true
variable {a0 : Array Value} {Z : State}
theorem own_K0 (hw : own_hw a0 Z) : own_pkS a0 Z own_y66 jdk_41_method_11_code 3 (some .int) 3 := ⟨(own_u hw 94 rfl), (own_u hw 92 rfl), (own_u hw 95 rfl), by decide, own_lnk own_pd0 rfl⟩
theorem own_K1 (hw : own_hw a0 Z) : own_pkS a0 Z own_y65 jdk_41_method_12_code 4 (some .int) 4 := ⟨(own_u hw 115 rfl), (own_u hw 92 rfl), (own_u hw 116 rfl), by decide, own_lnk own_pd1 rfl⟩
theorem own_K2 (hw : own_hw a0 Z) : own_pkS a0 Z own_y64 jdk_41_method_13_code 4 (some .int) 4 := ⟨(own_u hw 125 rfl), (own_u hw 92 rfl), (own_u hw 126 rfl), by decide, own_lnk own_pd1 rfl⟩
theorem own_K3 (hw : own_hw a0 Z) : own_pkV a0 Z own_y28 "java/lang/String" jdk_42_method_152_code 1 (some .byte) 0 := ⟨(own_u hw 63 rfl), (own_u hw 65 rfl), (own_u hw 64 rfl), (own_u hw 6 rfl), (own_u hw 66 rfl), by decide, own_lnk own_pd2 rfl⟩
theorem own_K4 (hw : own_hw a0 Z) : own_pkS a0 Z own_y27 jdk_42_method_155_code 2 none 2 := ⟨(own_u hw 89 rfl), (own_u hw 6 rfl), (own_u hw 90 rfl), by decide, own_lnk own_pd3 rfl⟩
theorem own_K5 (hw : own_hw a0 Z) : own_pkV a0 Z own_y31 "java/lang/String" jdk_42_method_154_code 1 (some .boolean) 0 := ⟨(own_u hw 80 rfl), (own_u hw 82 rfl), (own_u hw 81 rfl), (own_u hw 6 rfl), (own_u hw 83 rfl), by decide, own_lnk own_pd4 rfl⟩
theorem own_K6 (hw : own_hw a0 Z) : own_pkS a0 Z own_y35 jdk_43_method_2_code 2 (some .char) 2 := ⟨(own_u hw 85 rfl), (own_u hw 86 rfl), (own_u hw 87 rfl), by decide, own_lnk own_pd5 rfl⟩
theorem own_K7 (hw : own_hw a0 Z) : own_pkS a0 Z own_y47 jdk_52_method_6_code 1 (some .int) 1 := ⟨(own_u hw 165 rfl), (own_u hw 21 rfl), (own_u hw 166 rfl), by decide, own_lnk own_pd6 rfl⟩
theorem own_K8 (hw : own_hw a0 Z) : own_pkS a0 Z own_y41 jdk_52_method_91_code 2 none 2 := ⟨(own_u hw 162 rfl), (own_u hw 21 rfl), (own_u hw 163 rfl), by decide, own_lnk own_pd7 rfl⟩
theorem own_K9 (hw : own_hw a0 Z) : own_pkS a0 Z own_y45 jdk_52_method_5_code 2 (some .char) 2 := ⟨(own_u hw 156 rfl), (own_u hw 21 rfl), (own_u hw 157 rfl), by decide, own_lnk own_pd5 rfl⟩
theorem own_K10 (hw : own_hw a0 Z) : own_pkS a0 Z own_y39 jdk_52_method_83_code 2 (some .char) 2 := ⟨(own_u hw 159 rfl), (own_u hw 21 rfl), (own_u hw 160 rfl), by decide, own_lnk own_pd5 rfl⟩
theorem own_K11 (hw : own_hw a0 Z) : own_pkS a0 Z own_y49 jdk_52_method_3_code 1 (some .int) 1 := ⟨(own_u hw 146 rfl), (own_u hw 21 rfl), (own_u hw 147 rfl), by decide, own_lnk own_pd8 rfl⟩
theorem own_K12 (hw : own_hw a0 Z) : own_pkS a0 Z own_y48 jdk_52_method_2_code 1 (some (.array .byte)) 1 := ⟨(own_u hw 143 rfl), (own_u hw 21 rfl), (own_u hw 144 rfl), by decide, own_lnk own_pd9 rfl⟩
theorem own_K13 (hw : own_hw a0 Z) : own_pkS a0 Z own_y50 jdk_52_method_4_code 3 none 3 := ⟨(own_u hw 150 rfl), (own_u hw 21 rfl), (own_u hw 151 rfl), by decide, own_lnk own_pd10 rfl⟩
theorem own_K14 (hw : own_hw a0 Z) : own_pkS a0 Z own_y44 jdk_52_method_21_code 7 (some .int) 5 := ⟨(own_u hw 25 rfl), (own_u hw 21 rfl), (own_u hw 26 rfl), by decide, own_lnk own_pd11 rfl⟩
theorem own_K15 (hw : own_hw a0 Z) : own_pkS a0 Z own_y51 jdk_52_method_14_code 5 (some (.array .byte)) 3 := ⟨(own_u hw 140 rfl), (own_u hw 21 rfl), (own_u hw 141 rfl), by decide, own_lnk own_pd12 rfl⟩
theorem own_K16 (hw : own_hw a0 Z) : own_pkS a0 Z own_y43 jdk_52_method_16_code 6 (some (.array .byte)) 3 := ⟨(own_u hw 20 rfl), (own_u hw 21 rfl), (own_u hw 22 rfl), by decide, own_lnk own_pd12 rfl⟩
theorem own_K17 (hw : own_hw a0 Z) : own_pkS a0 Z own_y42 jdk_52_method_15_code 2 (some .byte) 2 := ⟨(own_u hw 28 rfl), (own_u hw 21 rfl), (own_u hw 29 rfl), by decide, own_lnk own_pd13 rfl⟩
theorem own_K18 (hw : own_hw a0 Z) : own_pkI a0 Z own_y23 jdk_42_method_149_code 6 4 := ⟨(own_u hw 12 rfl), (own_u hw 6 rfl), (own_u hw 14 rfl), by decide, rfl, own_lnk own_pd14 rfl⟩
theorem own_K19 (hw : own_hw a0 Z) : own_pkI a0 Z own_y21 jdk_42_method_3_code 2 1 := ⟨(own_u hw 9 rfl), (own_u hw 6 rfl), (own_u hw 10 rfl), by decide, rfl, own_lnk own_pd15 rfl⟩
theorem own_K20 (hw : own_hw a0 Z) : own_pkS a0 Z own_y59 jdk_65_method_131_code 2 none 2 := ⟨(own_u hw 324 rfl), (own_u hw 318 rfl), (own_u hw 325 rfl), by decide, own_lnk own_pd3 rfl⟩
theorem own_K21 (hw : own_hw a0 Z) : own_pkS a0 Z own_y18 jdk_29_method_69_code 2 (some .int) 2 := ⟨(own_u hw 327 rfl), (own_u hw 186 rfl), (own_u hw 328 rfl), by decide, own_lnk own_pd16 rfl⟩
theorem own_K22 (hw : own_hw a0 Z) : own_pkS a0 Z own_y61 jdk_65_method_133_code 5 (some (.array .byte)) 3 := ⟨(own_u hw 321 rfl), (own_u hw 318 rfl), (own_u hw 322 rfl), by decide, own_lnk own_pd17 rfl⟩
theorem own_K23 (hw : own_hw a0 Z) : own_pkS a0 Z own_y60 jdk_65_method_132_code 3 (some (.array .byte)) 3 := ⟨(own_u hw 317 rfl), (own_u hw 318 rfl), (own_u hw 319 rfl), by decide, own_lnk own_pd17 rfl⟩
theorem own_K24 (hw : own_hw a0 Z) : own_pkS a0 Z own_y63 jdk_31_method_10_code 1 (some (.object "java/lang/Object")) 1 := ⟨(own_u hw 118 rfl), (own_u hw 119 rfl), (own_u hw 120 rfl), by decide, own_lnk own_pd18 rfl⟩
theorem own_K25 (hw : own_hw a0 Z) : own_pkS a0 Z own_y26 jdk_42_method_157_code 3 (some .int) 3 := ⟨(own_u hw 122 rfl), (own_u hw 6 rfl), (own_u hw 123 rfl), by decide, own_lnk own_pd19 rfl⟩
theorem own_K26 (hw : own_hw a0 Z) : own_pkV a0 Z own_y32 "java/lang/String" jdk_42_method_54_code 1 (some .int) 0 := ⟨(own_u hw 58 rfl), (own_u hw 60 rfl), (own_u hw 59 rfl), (own_u hw 6 rfl), (own_u hw 61 rfl), by decide, own_lnk own_pd21 rfl⟩
theorem own_K27 (hw : own_hw a0 Z) : own_pkS a0 Z own_y25 jdk_42_method_158_code 3 none 3 := ⟨(own_u hw 112 rfl), (own_u hw 6 rfl), (own_u hw 113 rfl), by decide, own_lnk own_pd22 rfl⟩
theorem own_K28 (hw : own_hw a0 Z) : own_pkS a0 Z own_y36 jdk_43_method_12_code 5 none 5 := ⟨(own_u hw 128 rfl), (own_u hw 86 rfl), (own_u hw 129 rfl), by decide, own_lnk own_pd23 rfl⟩
theorem own_K29 (hw : own_hw a0 Z) : own_pkV a0 Z own_y29 "java/lang/String" jdk_42_method_62_code 5 none 4 := ⟨(own_u hw 106 rfl), (own_u hw 108 rfl), (own_u hw 107 rfl), (own_u hw 6 rfl), (own_u hw 109 rfl), by decide, own_lnk own_pd24 rfl⟩
theorem own_K30 (hw : own_hw a0 Z) : own_pkR a0 Z own_y9 prog_37_method_15_code 4 none 3 := ⟨(own_u hw 102 rfl), (own_selP (y := own_y9) (own_u hw 35 rfl) (own_u hw 103 rfl) (own_u hw 102 rfl) (by decide)), (own_u hw 103 rfl), (own_u hw 36 rfl), (own_u hw 104 rfl), by decide, own_lnk own_pd25 rfl⟩
theorem own_K31 (hw : own_hw a0 Z) : own_pkV a0 Z own_y4 "com/example/fields_in_tables/fieldsintables/TextBuilder" prog_37_method_6_code 6 none 4 := ⟨(own_u hw 97 rfl), (own_u hw 99 rfl), (own_u hw 98 rfl), (own_u hw 36 rfl), (own_u hw 100 rfl), by decide, own_lnk own_pd26 rfl⟩
theorem own_K32 (hw : own_hw a0 Z) : own_pkV a0 Z own_y24 "java/lang/String" jdk_42_method_56_code 2 (some .char) 1 := ⟨(own_u hw 75 rfl), (own_u hw 77 rfl), (own_u hw 76 rfl), (own_u hw 6 rfl), (own_u hw 78 rfl), by decide, own_lnk own_pd27 rfl⟩
theorem own_K33 (hw : own_hw a0 Z) : own_pkV a0 Z own_y3 "com/example/fields_in_tables/fieldsintables/TextBuilder" prog_37_method_4_code 6 none 3 := ⟨(own_u hw 68 rfl), (own_u hw 70 rfl), (own_u hw 69 rfl), (own_u hw 36 rfl), (own_u hw 71 rfl), by decide, own_lnk own_pd25 rfl⟩
theorem own_K34 (hw : own_hw a0 Z) : own_pkI a0 Z own_y52 jdk_22_method_1_code 1 0 := ⟨(own_u hw 260 rfl), (own_u hw 263 rfl), (own_u hw 264 rfl), by decide, rfl, own_lnk own_pd28 rfl⟩
theorem own_K35 (hw : own_hw a0 Z) : own_pkI a0 Z own_y53 jdk_39_method_1_code 1 0 := ⟨(own_u hw 254 rfl), (own_u hw 257 rfl), (own_u hw 258 rfl), by decide, rfl, own_lnk own_pd28 rfl⟩
theorem own_K36 (hw : own_hw a0 Z) : own_pkS a0 Z own_y17 jdk_29_method_65_code 2 (some .int) 2 := ⟨(own_u hw 185 rfl), (own_u hw 186 rfl), (own_u hw 187 rfl), by decide, own_lnk own_pd16 rfl⟩
theorem own_K37 (hw : own_hw a0 Z) : own_pkR a0 Z own_y58 jdk_38_method_6_code 4 (some (.array (.object "java/lang/Object"))) 1 := ⟨(own_u hw 295 rfl), (own_u hw 297 rfl), (own_u hw 296 rfl), (own_u hw 249 rfl), (own_u hw 298 rfl), by decide, own_lnk own_pd29 rfl⟩
theorem own_K38 (hw : own_hw a0 Z) : own_pkR a0 Z own_y57 jdk_38_method_7_code 1 (some (.array (.object "java/lang/Object"))) 0 := ⟨(own_u hw 290 rfl), (own_u hw 292 rfl), (own_u hw 291 rfl), (own_u hw 249 rfl), (own_u hw 293 rfl), by decide, own_lnk own_pd30 rfl⟩
theorem own_K39 (hw : own_hw a0 Z) : own_pkR a0 Z own_y56 jdk_38_method_24_code 4 none 3 := ⟨(own_u hw 285 rfl), (own_u hw 287 rfl), (own_u hw 286 rfl), (own_u hw 249 rfl), (own_u hw 288 rfl), by decide, own_lnk own_pd31 rfl⟩
theorem own_K40 (hw : own_hw a0 Z) : own_pkR a0 Z own_y7 prog_37_method_24_code 2 none 1 := ⟨(own_u hw 241 rfl), (own_selP (y := own_y7) (own_u hw 35 rfl) (own_u hw 242 rfl) (own_u hw 241 rfl) (by decide)), (own_u hw 242 rfl), (own_u hw 36 rfl), (own_u hw 243 rfl), by decide, own_lnk own_pd32 rfl⟩
theorem own_K41 (hw : own_hw a0 Z) : own_pkI a0 Z own_y54 jdk_38_method_2_code 1 0 := ⟨(own_u hw 251 rfl), (own_u hw 249 rfl), (own_u hw 252 rfl), by decide, rfl, own_lnk own_pd28 rfl⟩
theorem own_K42 (hw : own_hw a0 Z) : own_pkI a0 Z own_y20 jdk_42_method_10_code 5 4 := ⟨(own_u hw 194 rfl), (own_u hw 6 rfl), (own_u hw 195 rfl), by decide, rfl, own_lnk own_pd34 rfl⟩
theorem own_K43 (hw : own_hw a0 Z) : own_pkR a0 Z own_y8 prog_37_method_25_code 1 (some (.object "java/lang/String")) 0 := ⟨(own_u hw 227 rfl), (own_selP (y := own_y8) (own_u hw 35 rfl) (own_u hw 228 rfl) (own_u hw 227 rfl) (by decide)), (own_u hw 228 rfl), (own_u hw 36 rfl), (own_u hw 229 rfl), by decide, own_lnk own_pd35 rfl⟩
theorem own_K44 (hw : own_hw a0 Z) : own_pkR a0 Z own_y13 prog_37_method_23_code 2 none 1 := ⟨(own_u hw 237 rfl), (own_selP (y := own_y13) (own_u hw 35 rfl) (own_u hw 238 rfl) (own_u hw 237 rfl) (by decide)), (own_u hw 238 rfl), (own_u hw 36 rfl), (own_u hw 239 rfl), by decide, own_lnk own_pd36 rfl⟩
theorem own_K45 (hw : own_hw a0 Z) : own_pkR a0 Z own_y14 prog_37_method_22_code 1 none 0 := ⟨(own_u hw 223 rfl), (own_selP (y := own_y14) (own_u hw 35 rfl) (own_u hw 224 rfl) (own_u hw 223 rfl) (by decide)), (own_u hw 224 rfl), (own_u hw 36 rfl), (own_u hw 225 rfl), by decide, own_lnk own_pd28 rfl⟩
theorem own_K46 (hw : own_hw a0 Z) : own_pkV a0 Z own_y34 "java/lang/String" jdk_42_method_92_code 5 (some (.object "java/lang/String")) 2 := ⟨(own_u hw 304 rfl), (own_u hw 306 rfl), (own_u hw 305 rfl), (own_u hw 6 rfl), (own_u hw 307 rfl), by decide, own_lnk own_pd37 rfl⟩
theorem own_K47 (hw : own_hw a0 Z) : own_pkR a0 Z own_y5 prog_37_method_7_code 6 none 4 := ⟨(own_u hw 169 rfl), (own_selP (y := own_y5) (own_u hw 35 rfl) (own_u hw 170 rfl) (own_u hw 169 rfl) (by decide)), (own_u hw 170 rfl), (own_u hw 36 rfl), (own_u hw 171 rfl), by decide, own_lnk own_pd26 rfl⟩
theorem own_K48 (hw : own_hw a0 Z) : own_pkS a0 Z own_y38 jdk_43_method_49_code 6 none 5 := ⟨(own_u hw 213 rfl), (own_u hw 86 rfl), (own_u hw 214 rfl), by decide, own_lnk own_pd38 rfl⟩
theorem own_K49 (hw : own_hw a0 Z) : own_pkS a0 Z own_y37 jdk_43_method_11_code 5 none 5 := ⟨(own_u hw 210 rfl), (own_u hw 86 rfl), (own_u hw 211 rfl), by decide, own_lnk own_pd39 rfl⟩
theorem own_K50 (hw : own_hw a0 Z) : own_pkV a0 Z own_y30 "java/lang/String" jdk_42_method_61_code 5 none 4 := ⟨(own_u hw 205 rfl), (own_u hw 207 rfl), (own_u hw 206 rfl), (own_u hw 6 rfl), (own_u hw 208 rfl), by decide, own_lnk own_pd40 rfl⟩
theorem own_K51 (hw : own_hw a0 Z) : own_pkR a0 Z own_y12 prog_37_method_21_code 2 none 1 := ⟨(own_u hw 177 rfl), (own_selP (y := own_y12) (own_u hw 35 rfl) (own_u hw 178 rfl) (own_u hw 177 rfl) (by decide)), (own_u hw 178 rfl), (own_u hw 36 rfl), (own_u hw 179 rfl), by decide, own_lnk own_pd32 rfl⟩
theorem own_K52 (hw : own_hw a0 Z) : own_pkR a0 Z own_y10 prog_37_method_20_code 3 none 1 := ⟨(own_u hw 181 rfl), (own_selP (y := own_y10) (own_u hw 35 rfl) (own_u hw 182 rfl) (own_u hw 181 rfl) (by decide)), (own_u hw 182 rfl), (own_u hw 36 rfl), (own_u hw 183 rfl), by decide, own_lnk own_pd32 rfl⟩
theorem own_K53 (hw : own_hw a0 Z) : own_pkS a0 Z own_y40 jdk_52_method_94_code 3 none 3 := ⟨(own_u hw 219 rfl), (own_u hw 21 rfl), (own_u hw 220 rfl), by decide, own_lnk own_pd41 rfl⟩
theorem own_K54 (hw : own_hw a0 Z) : own_pkS a0 Z own_y46 jdk_52_method_26_code 6 none 5 := ⟨(own_u hw 216 rfl), (own_u hw 21 rfl), (own_u hw 217 rfl), by decide, own_lnk own_pd39 rfl⟩
theorem own_K55 (hw : own_hw a0 Z) : own_pkR a0 Z own_y15 prog_37_method_19_code 2 none 1 := ⟨(own_u hw 173 rfl), (own_selP (y := own_y15) (own_u hw 35 rfl) (own_u hw 174 rfl) (own_u hw 173 rfl) (by decide)), (own_u hw 174 rfl), (own_u hw 36 rfl), (own_u hw 175 rfl), by decide, own_lnk own_pd32 rfl⟩
theorem own_K56 (hw : own_hw a0 Z) : own_pkS a0 Z own_y33 jdk_42_method_5_code 3 (some (.object "java/lang/Void")) 3 := ⟨(own_u hw 234 rfl), (own_u hw 6 rfl), (own_u hw 235 rfl), by decide, own_lnk own_pd42 rfl⟩
theorem own_K57 (hw : own_hw a0 Z) : own_pkI a0 Z own_y22 jdk_42_method_4_code 4 3 := ⟨(own_u hw 231 rfl), (own_u hw 6 rfl), (own_u hw 232 rfl), by decide, rfl, own_lnk own_pd43 rfl⟩
theorem own_K58 (hw : own_hw a0 Z) : own_pkR a0 Z own_y6 prog_37_method_16_code 2 none 1 := ⟨(own_u hw 309 rfl), (own_selP (y := own_y6) (own_u hw 35 rfl) (own_u hw 310 rfl) (own_u hw 309 rfl) (by decide)), (own_u hw 310 rfl), (own_u hw 36 rfl), (own_u hw 311 rfl), by decide, own_lnk own_pd44 rfl⟩
theorem own_K59 (hw : own_hw a0 Z) : own_pkV a0 Z own_y11 "com/example/fields_in_tables/fieldsintables/TextBuilder" prog_37_method_13_code 1 (some .boolean) 0 := ⟨(own_u hw 44 rfl), (own_u hw 46 rfl), (own_u hw 45 rfl), (own_u hw 36 rfl), (own_u hw 47 rfl), by decide, own_lnk own_pd4 rfl⟩
theorem own_K60 (hw : own_hw a0 Z) : own_pkI a0 Z own_y0 prog_37_method_1_code 1 0 := ⟨(own_u hw 38 rfl), (own_u hw 36 rfl), (own_u hw 39 rfl), by decide, rfl, own_lnk own_pd28 rfl⟩
theorem own_K61 (hw : own_hw a0 Z) : own_pkV a0 Z own_y2 "com/example/fields_in_tables/fieldsintables/TextBuilder" prog_37_method_3_code 2 none 1 := ⟨(own_u hw 53 rfl), (own_u hw 55 rfl), (own_u hw 54 rfl), (own_u hw 36 rfl), (own_u hw 56 rfl), by decide, own_lnk own_pd36 rfl⟩
theorem own_K62 (hw : own_hw a0 Z) : own_pkV a0 Z own_y1 "com/example/fields_in_tables/fieldsintables/TextBuilder" prog_37_method_2_code 2 none 1 := ⟨(own_u hw 135 rfl), (own_u hw 137 rfl), (own_u hw 136 rfl), (own_u hw 36 rfl), (own_u hw 138 rfl), by decide, own_lnk own_pd44 rfl⟩
theorem own_K63 (hw : own_hw a0 Z) : own_pkS a0 Z own_y16 method_2_code 6 (some (.object "java/lang/String")) 3 := ⟨(own_u hw 1 rfl), (own_u hw 2 rfl), (own_u hw 3 rfl), by decide, own_lnk own_pd45 rfl⟩
theorem own_hEL (hw : own_hw a0 Z) : EW Z a0 own_EL := EW.cons (own_u hw 201 rfl) (fun c hc => by cases hc) EW.nil
end OwnPk
section OwnAll
variable {l : Launch} {Z : State} {a0 : Array Value} {ws : List Jvm.Cond} {c1 cs i1 j1 m1 mc n1 p0 p1 p2 p3 r1 : Int32} {h0 : Heap} {fm u1 u2 u3 u4 u5 v0 : Value} {a1 a2 a3 b_1 ca de la li t1 u8 x1 : Addr} {k_1 k_2 kc kd kl kx1 : ClassId} {CM LL L_1 M_1 : List Int32} {jj jv n0 : Nat} {q1 : Int64}
theorem own_rm66 (hw : own_hw a0 Z) :
    own_C l Z own_y18 jdk_29_method_69_code 2 (some .int) ws own_R66 #[(.int p0), (.int p1)] h0 (own_Q (.int (own_F66 p0 p1)) h0) := by
  refine own_go own_pn66 own_o66 #[.val (.int p0), .val (.int p1)] (fun _ => rfl) fun p e s m below meth c s₁ Bd D hml hZ hown X0 e0 => ?_
  have hx := D.1
  refine own_r X0 D 2 rfl ?_
  by_cases hc1 : p1 < p0
  ·
    refine own_cY X0 D rfl (tlt hc1).2.2.1 ?_
    refine own_r X0 D 1 rfl ?_
    exact own_retI X0 hx Bd.returns Bd.notSynchronized (own_dd D rfl) ⟨by show (some (.int p1) : Option Value) = some (.int (own_F66 p0 p1)); simp only [own_F66, if_pos hc1], rfl, e0⟩ (by decide) (by decide)
  ·
    refine own_cN X0 D rfl (flt hc1).2.2.1 ?_
    refine own_r X0 D 2 rfl ?_
    exact own_retI X0 hx Bd.returns Bd.notSynchronized (own_dd D rfl) ⟨by show (some (.int p0) : Option Value) = some (.int (own_F66 p0 p1)); simp only [own_F66, if_neg hc1], rfl, e0⟩ (by decide) (by decide)
abbrev own_R41 : Room := { frames := 0, cells := 0, slots := 0, locals := 0 }
theorem own_pn41 : plainFor own_y17 = true := Jvm.Free.JP.mathPlain rfl (by decide +kernel)
def own_F41 (p0 : Int32) (p1 : Int32) : Int32 := (if p0 < p1 then p1 else p0)
theorem own_rm41 (hw : own_hw a0 Z) :
    own_C l Z own_y17 jdk_29_method_65_code 2 (some .int) ws own_R41 #[(.int p0), (.int p1)] h0 (own_Q (.int (own_F41 p0 p1)) h0) := by
  refine own_go own_pn41 own_o41 #[.val (.int p0), .val (.int p1)] (fun _ => rfl) fun p e s m below meth c s₁ Bd D hml hZ hown X0 e0 => ?_
  have hx := D.1
  refine own_r X0 D 2 rfl ?_
  by_cases hc1 : p0 < p1
  ·
    refine own_cY X0 D rfl (tlt hc1).1 ?_
    refine own_r X0 D 1 rfl ?_
    exact own_retI X0 hx Bd.returns Bd.notSynchronized (own_dd D rfl) ⟨by show (some (.int p1) : Option Value) = some (.int (own_F41 p0 p1)); simp only [own_F41, if_pos hc1], rfl, e0⟩ (by decide) (by decide)
  ·
    refine own_cN X0 D rfl (flt hc1).1 ?_
    refine own_r X0 D 2 rfl ?_
    exact own_retI X0 hx Bd.returns Bd.notSynchronized (own_dd D rfl) ⟨by show (some (.int p0) : Option Value) = some (.int (own_F41 p0 p1)); simp only [own_F41, if_neg hc1], rfl, e0⟩ (by decide) (by decide)
abbrev own_ci_R : Room := { frames := 0, cells := 0, slots := 0, locals := 0 }
theorem own_pn18 : plainFor own_y66 = true := plainFor_of_name (by first | (simp [plainName, overriddenIn]; done) | decide +kernel)
theorem own_ci_ef (m : MethodId) (i1 : Int32) (n1 : Int32) (fm : Value) (hvr : fm.isRef = true) : entryFrame m #[(.int i1), (.int n1), fm] 3 = mkF m 0 #[.val (.int i1), .val (.int n1), .val fm] [] := by rcases ref_cases hvr with rfl | ⟨z, rfl⟩ <;> first | (simp [entryFrame, mkF, argsToLocals, Value.category]; done) | rfl
theorem own_ci (hw : own_hw a0 Z) (hp_fm : fm.isRef = true) (hp_h0 : ¬ (i1 < (0 : Int32))) (hp_h1 : i1 < n1) :
    own_C l Z own_y66 jdk_41_method_11_code 3 (some .int) ws own_ci_R #[(.int i1), (.int n1), fm] h0 (own_Q (.int i1) h0) := by
  refine own_go own_pn18 own_o18 #[.val (.int i1), .val (.int n1), .val fm] (fun m => own_ci_ef m i1 n1 fm hp_fm) fun p e s m below meth c s₁ Bd D hml hZ hown X0 e0 => ?_
  have hx := D.1
  refine own_r X0 D 1 rfl ?_
  refine own_fN X0 D rfl (flt hp_h0).1 ?_
  refine own_r X0 D 2 rfl ?_
  refine own_cY X0 D rfl (tlt hp_h1).1 ?_
  refine own_r X0 D 1 rfl ?_
  exact own_retI X0 hx Bd.returns Bd.notSynchronized (own_dd D rfl) ⟨rfl, rfl, e0⟩ (by decide) (by decide)
abbrev own_sci_R : Room := { frames := 1, cells := 0, slots := 0, locals := 14 }
theorem own_pn17 : plainFor own_y27 = true := plainFor_of_name (by first | (simp [plainName, overriddenIn]; done) | decide +kernel)
theorem own_sci (hw : own_hw a0 Z) (i_SF : own_eS0 Z h0 fm) (hp_fm : fm.isRef = true) (hp_h0 : ¬ (i1 < (0 : Int32))) (hp_h1 : i1 < n1) :
    own_C l Z own_y27 jdk_42_method_155_code 2 none ws own_sci_R #[(.int i1), (.int n1)] h0 (own_QN h0) := by
  refine own_go own_pn17 own_o17 #[.val (.int i1), .val (.int n1)] (fun _ => rfl) fun p e s m below meth c s₁ Bd D hml hZ hown X0 e0 => ?_
  have hx := D.1
  refine own_r X0 D 2 rfl ?_
  refine own_gS X0 D hZ hown (own_u hw 91 rfl) e0 i_SF rfl fun T1 X1 e1 => ?_
  refine own_xP X1 D hZ hown hml (own_u hw 93 rfl) (own_K0 hw) (own_ci hw hp_fm hp_h0 hp_h1) 0 (by decide) e1 rfl rfl fun T2 X2 e2 => ?_
  refine own_r X2 D 1 rfl ?_
  exact own_retV X2 hx Bd.returns Bd.notSynchronized (own_dd D rfl) ⟨rfl, rfl, e2⟩ (by decide) (by decide)
abbrev own_cft_R : Room := { frames := 0, cells := 0, slots := 0, locals := 0 }
theorem own_pn23 : plainFor own_y65 = true := plainFor_of_name (by first | (simp [plainName, overriddenIn]; done) | decide +kernel)
theorem own_cft_ef (m : MethodId) (i1 : Int32) (j1 : Int32) (n1 : Int32) (fm : Value) (hvr : fm.isRef = true) : entryFrame m #[(.int i1), (.int j1), (.int n1), fm] 4 = mkF m 0 #[.val (.int i1), .val (.int j1), .val (.int n1), .val fm] [] := by rcases ref_cases hvr with rfl | ⟨z, rfl⟩ <;> first | (simp [entryFrame, mkF, argsToLocals, Value.category]; done) | rfl
theorem own_cft (hw : own_hw a0 Z) (hp_fm : fm.isRef = true) (hp_h0 : ¬ (i1 < (0 : Int32))) (hp_h1 : ¬ (j1 < i1)) (hp_h2 : ¬ (n1 < j1)) :
    own_C l Z own_y65 jdk_41_method_12_code 4 (some .int) ws own_cft_R #[(.int i1), (.int j1), (.int n1), fm] h0 (own_Q (.int i1) h0) := by
  refine own_go own_pn23 own_o23 #[.val (.int i1), .val (.int j1), .val (.int n1), .val fm] (fun m => own_cft_ef m i1 j1 n1 fm hp_fm) fun p e s m below meth c s₁ Bd D hml hZ hown X0 e0 => ?_
  have hx := D.1
  refine own_r X0 D 1 rfl ?_
  refine own_fN X0 D rfl (flt hp_h0).1 ?_
  refine own_r X0 D 2 rfl ?_
  refine own_cN X0 D rfl (flt hp_h1).2.2.1 ?_
  refine own_r X0 D 2 rfl ?_
  refine own_cY X0 D rfl (flt hp_h2).2.2.2 ?_
  refine own_r X0 D 1 rfl ?_
  exact own_retI X0 hx Bd.returns Bd.notSynchronized (own_dd D rfl) ⟨rfl, rfl, e0⟩ (by decide) (by decide)
abbrev own_cbe_R : Room := { frames := 1, cells := 0, slots := 0, locals := 15 }
theorem own_pn22 : plainFor own_y25 = true := plainFor_of_name (by first | (simp [plainName, overriddenIn]; done) | decide +kernel)
theorem own_cbe (hw : own_hw a0 Z) (i_SF : own_eS0 Z h0 fm) (hp_fm : fm.isRef = true) (hp_h0 : ¬ (i1 < (0 : Int32))) (hp_h1 : ¬ (j1 < i1)) (hp_h2 : ¬ (n1 < j1)) :
    own_C l Z own_y25 jdk_42_method_158_code 3 none ws own_cbe_R #[(.int i1), (.int j1), (.int n1)] h0 (own_QN h0) := by
  refine own_go own_pn22 own_o22 #[.val (.int i1), .val (.int j1), .val (.int n1)] (fun _ => rfl) fun p e s m below meth c s₁ Bd D hml hZ hown X0 e0 => ?_
  have hx := D.1
  refine own_r X0 D 3 rfl ?_
  refine own_gS X0 D hZ hown (own_u hw 91 rfl) e0 i_SF rfl fun T1 X1 e1 => ?_
  refine own_xP X1 D hZ hown hml (own_u hw 114 rfl) (own_K1 hw) (own_cft hw hp_fm hp_h0 hp_h1 hp_h2) 0 (by decide) e1 rfl rfl fun T2 X2 e2 => ?_
  refine own_r X2 D 1 rfl ?_
  exact own_retV X2 hx Bd.returns Bd.notSynchronized (own_dd D rfl) ⟨rfl, rfl, e2⟩ (by decide) (by decide)
abbrev own_cfs_R : Room := { frames := 0, cells := 0, slots := 0, locals := 0 }
theorem own_pn26 : plainFor own_y64 = true := plainFor_of_name (by first | (simp [plainName, overriddenIn]; done) | decide +kernel)
theorem own_cfs_ef (m : MethodId) (i1 : Int32) (j1 : Int32) (n1 : Int32) (fm : Value) (hvr : fm.isRef = true) : entryFrame m #[(.int i1), (.int j1), (.int n1), fm] 4 = mkF m 0 #[.val (.int i1), .val (.int j1), .val (.int n1), .val fm] [] := by rcases ref_cases hvr with rfl | ⟨z, rfl⟩ <;> first | (simp [entryFrame, mkF, argsToLocals, Value.category]; done) | rfl
theorem own_cfs (hw : own_hw a0 Z) (hp_fm : fm.isRef = true) (hp_h0 : ¬ (((n1 ||| i1) ||| j1) < (0 : Int32))) (hp_h1 : ¬ ((n1 - i1) < j1)) :
    own_C l Z own_y64 jdk_41_method_13_code 4 (some .int) ws own_cfs_R #[(.int i1), (.int j1), (.int n1), fm] h0 (own_Q (.int i1) h0) := by
  refine own_go own_pn26 own_o26 #[.val (.int i1), .val (.int j1), .val (.int n1), .val fm] (fun m => own_cfs_ef m i1 j1 n1 fm hp_fm) fun p e s m below meth c s₁ Bd D hml hZ hown X0 e0 => ?_
  have hx := D.1
  refine own_r X0 D 5 rfl ?_
  refine own_fN X0 D rfl (flt hp_h0).1 ?_
  refine own_r X0 D 4 rfl ?_
  refine own_cY X0 D rfl (flt hp_h1).2.2.2 ?_
  refine own_r X0 D 1 rfl ?_
  exact own_retI X0 hx Bd.returns Bd.notSynchronized (own_dd D rfl) ⟨rfl, rfl, e0⟩ (by decide) (by decide)
abbrev own_coc_R : Room := { frames := 1, cells := 0, slots := 0, locals := 15 }
theorem own_pn25 : plainFor own_y26 = true := plainFor_of_name (by first | (simp [plainName, overriddenIn]; done) | decide +kernel)
theorem own_coc (hw : own_hw a0 Z) (i_SF : own_eS0 Z h0 fm) (hp_fm : fm.isRef = true) (hp_h0 : ¬ (((n1 ||| i1) ||| j1) < (0 : Int32))) (hp_h1 : ¬ ((n1 - i1) < j1)) :
    own_C l Z own_y26 jdk_42_method_157_code 3 (some .int) ws own_coc_R #[(.int i1), (.int j1), (.int n1)] h0 (own_Q (.int i1) h0) := by
  refine own_go own_pn25 own_o25 #[.val (.int i1), .val (.int j1), .val (.int n1)] (fun _ => rfl) fun p e s m below meth c s₁ Bd D hml hZ hown X0 e0 => ?_
  have hx := D.1
  refine own_r X0 D 3 rfl ?_
  refine own_gS X0 D hZ hown (own_u hw 91 rfl) e0 i_SF rfl fun T1 X1 e1 => ?_
  refine own_xP X1 D hZ hown hml (own_u hw 124 rfl) (own_K2 hw) (own_cfs hw hp_fm hp_h0 hp_h1) 0 (by decide) e1 rfl rfl fun T2 X2 e2 => ?_
  exact own_retI X2 hx Bd.returns Bd.notSynchronized (own_dd D rfl) ⟨rfl, rfl, e2⟩ (by decide) (by decide)
abbrev own_rn_R : Room := { frames := 0, cells := 0, slots := 0, locals := 0 }
theorem own_pn24 : plainFor own_y63 = true := plainFor_of_name (by first | (simp [plainName, overriddenIn]; done) | decide +kernel)
theorem own_rn (hw : own_hw a0 Z) :
    own_C l Z own_y63 jdk_31_method_10_code 1 (some (.object "java/lang/Object")) ws own_rn_R #[(.ref a1)] h0 (own_Q (.ref a1) h0) := by
  refine own_go own_pn24 own_o24 #[.val (.ref a1)] (fun _ => rfl) fun p e s m below meth c s₁ Bd D hml hZ hown X0 e0 => ?_
  have hx := D.1
  refine own_r X0 D 1 rfl ?_
  refine own_oY X0 D rfl ?_
  refine own_r X0 D 1 rfl ?_
  exact own_retA X0 hx Bd.returns rfl rfl Bd.notSynchronized (own_dd D rfl) ⟨rfl, rfl, e0⟩ (by decide) (by decide)
abbrev own_isl0_R : Room := { frames := 0, cells := 0, slots := 0, locals := 0 }
theorem own_pn15 : plainFor own_y31 = true := plainFor_of_name (by first | (simp [plainName, overriddenIn]; done) | decide +kernel)
theorem own_isl0 (hw : own_hw a0 Z) (i_SC : own_eS1 Z h0 (.int cs)) (i_Fc : own_eF9 Z h0 a1 (.int 0)) (hp_cs : ¬ (cs = (0 : Int32))) :
    own_C l Z own_y31 jdk_42_method_154_code 1 (some .boolean) ws own_isl0_R #[(.ref a1)] h0 (own_Q (.int 1) h0) := by
  refine own_go own_pn15 own_o15 #[.val (.ref a1)] (fun _ => rfl) fun p e s m below meth c s₁ Bd D hml hZ hown X0 e0 => ?_
  have hx := D.1
  refine own_gS X0 D hZ hown (own_u hw 18 rfl) e0 i_SC rfl fun T1 X1 e1 => ?_
  refine own_fN X1 D rfl (feq hp_cs).1 ?_
  refine own_r X1 D 1 rfl ?_
  refine own_gF X1 D hZ hown (own_u hw 30 rfl) Via.refl e1 i_Fc rfl fun T2 X2 e2 => ?_
  refine own_fN X2 D rfl (teq (by decide : (0 : Int32) = (0 : Int32))).2 ?_
  refine own_r X2 D 2 rfl ?_
  exact own_retN (t := .boolean) X2 hx Bd.returns (by simp) Bd.notSynchronized (own_dd D rfl) ⟨rfl, rfl, e2⟩ (by decide) (by decide)
abbrev own_cod0_R : Room := { frames := 0, cells := 0, slots := 0, locals := 0 }
theorem own_pn12 : plainFor own_y28 = true := plainFor_of_name (by first | (simp [plainName, overriddenIn]; done) | decide +kernel)
theorem own_cod0 (hw : own_hw a0 Z) (i_SC : own_eS1 Z h0 (.int cs)) (i_Fc : own_eF9 Z h0 a1 (.int 0)) (hp_cs : ¬ (cs = (0 : Int32))) :
    own_C l Z own_y28 jdk_42_method_152_code 1 (some .byte) ws own_cod0_R #[(.ref a1)] h0 (own_Q (.int 0) h0) := by
  refine own_go own_pn12 own_o12 #[.val (.ref a1)] (fun _ => rfl) fun p e s m below meth c s₁ Bd D hml hZ hown X0 e0 => ?_
  have hx := D.1
  refine own_gS X0 D hZ hown (own_u hw 18 rfl) e0 i_SC rfl fun T1 X1 e1 => ?_
  refine own_fN X1 D rfl (feq hp_cs).1 ?_
  refine own_r X1 D 1 rfl ?_
  refine own_gF X1 D hZ hown (own_u hw 30 rfl) Via.refl e1 i_Fc rfl fun T2 X2 e2 => ?_
  refine own_r X2 D 1 rfl ?_
  exact own_retN (t := .byte) X2 hx Bd.returns (by simp) Bd.notSynchronized (own_dd D rfl) ⟨rfl, rfl, e2⟩ (by decide) (by decide)
abbrev own_isl1_R : Room := { frames := 0, cells := 0, slots := 0, locals := 0 }
theorem own_isl1 (hw : own_hw a0 Z) (i_SC : own_eS1 Z h0 (.int cs)) (i_Fc : own_eF9 Z h0 a1 (.int 1)) (hp_cs : ¬ (cs = (0 : Int32))) :
    own_C l Z own_y31 jdk_42_method_154_code 1 (some .boolean) ws own_isl1_R #[(.ref a1)] h0 (own_Q (.int 0) h0) := by
  refine own_go own_pn15 own_o15 #[.val (.ref a1)] (fun _ => rfl) fun p e s m below meth c s₁ Bd D hml hZ hown X0 e0 => ?_
  have hx := D.1
  refine own_gS X0 D hZ hown (own_u hw 18 rfl) e0 i_SC rfl fun T1 X1 e1 => ?_
  refine own_fN X1 D rfl (feq hp_cs).1 ?_
  refine own_r X1 D 1 rfl ?_
  refine own_gF X1 D hZ hown (own_u hw 30 rfl) Via.refl e1 i_Fc rfl fun T2 X2 e2 => ?_
  refine own_fY X2 D rfl (feq (by decide : ¬ ((1 : Int32) = (0 : Int32)))).2 ?_
  refine own_r X2 D 1 rfl ?_
  exact own_retN (t := .boolean) X2 hx Bd.returns (by simp) Bd.notSynchronized (own_dd D rfl) ⟨rfl, rfl, e2⟩ (by decide) (by decide)
abbrev own_cod1_R : Room := { frames := 0, cells := 0, slots := 0, locals := 0 }
theorem own_cod1 (hw : own_hw a0 Z) (i_SC : own_eS1 Z h0 (.int cs)) (i_Fc : own_eF9 Z h0 a1 (.int 1)) (hp_cs : ¬ (cs = (0 : Int32))) :
    own_C l Z own_y28 jdk_42_method_152_code 1 (some .byte) ws own_cod1_R #[(.ref a1)] h0 (own_Q (.int 1) h0) := by
  refine own_go own_pn12 own_o12 #[.val (.ref a1)] (fun _ => rfl) fun p e s m below meth c s₁ Bd D hml hZ hown X0 e0 => ?_
  have hx := D.1
  refine own_gS X0 D hZ hown (own_u hw 18 rfl) e0 i_SC rfl fun T1 X1 e1 => ?_
  refine own_fN X1 D rfl (feq hp_cs).1 ?_
  refine own_r X1 D 1 rfl ?_
  refine own_gF X1 D hZ hown (own_u hw 30 rfl) Via.refl e1 i_Fc rfl fun T2 X2 e2 => ?_
  refine own_r X2 D 1 rfl ?_
  exact own_retN (t := .byte) X2 hx Bd.returns (by simp) Bd.notSynchronized (own_dd D rfl) ⟨rfl, rfl, e2⟩ (by decide) (by decide)
abbrev own_len0_R : Room := { frames := 1, cells := 0, slots := 0, locals := 13 }
theorem own_pn11 : plainFor own_y32 = true := plainFor_of_name (by first | (simp [plainName, overriddenIn]; done) | decide +kernel)
theorem own_len0 (hw : own_hw a0 Z) (i_SC : own_eS1 Z h0 (.int cs)) (i_Es : Exa Z h0 a1 own_cS) (i_Fv : own_eF10 Z h0 a1 (.ref b_1)) (i_Fc : own_eF9 Z h0 a1 (.int 0)) (i_Ab : own_aB Z h0 b_1 k_1 n1 L_1) (hp_cs : ¬ (cs = (0 : Int32))) :
    own_C l Z own_y32 jdk_42_method_54_code 1 (some .int) ws own_len0_R #[(.ref a1)] h0 (own_Q (.int n1) h0) := by
  refine own_go own_pn11 own_o11 #[.val (.ref a1)] (fun _ => rfl) fun p e s m below meth c s₁ Bd D hml hZ hown X0 e0 => ?_
  have hx := D.1
  refine own_r X0 D 1 rfl ?_
  refine own_gF X0 D hZ hown (own_u hw 32 rfl) Via.refl e0 i_Fv rfl fun T1 X1 e1 => ?_
  refine own_via (own_len X1 hx hZ e1 i_Ab (own_dd D rfl)) ?_
  refine own_r X1 D 1 rfl ?_
  refine own_xVP X1 D hZ hown hml (own_u hw 62 rfl) (own_K3 hw) (own_cod0 hw i_SC i_Fc hp_cs) 1 (by decide) e1 i_Es rfl rfl fun T2 X2 e2 => ?_
  refine own_r X2 D 1 rfl ?_
  show own_H T2 10 #[.val (.ref a1)] [(.int (n1 >>> ((0 : Int32) &&& 31)))]
  rw [show (n1 >>> ((0 : Int32) &&& 31)) = n1 from (own_sh0 n1)]
  exact own_retI X2 hx Bd.returns Bd.notSynchronized (own_dd D rfl) ⟨rfl, rfl, e2⟩ (by decide) (by decide)
abbrev own_ch1_R : Room := { frames := 2, cells := 0, slots := 0, locals := 27 }
theorem own_pn16 : plainFor own_y35 = true := plainFor_of_name (by first | (simp [plainName, overriddenIn]; done) | decide +kernel)
def own_Fc1 (i1 : Int32) (L_1 : List Int32) : Int32 := (nar .char (((own_get L_1 i1) &&& (255 : Int32)).toUInt32.toUInt16.toUInt32.toInt32))
theorem own_ch1 (hw : own_hw a0 Z) (i_SF : own_eS0 Z h0 fm) (i_Ab : own_aB Z h0 a1 k_1 n1 L_1) (hp_fm : fm.isRef = true) (hp_h0 : ¬ (i1 < (0 : Int32))) (hp_h1 : i1 < n1) :
    own_C l Z own_y35 jdk_43_method_2_code 2 (some .char) ws own_ch1_R #[(.ref a1), (.int i1)] h0 (own_Q (.int (own_Fc1 i1 L_1)) h0) := by
  refine own_go own_pn16 own_o16 #[.val (.ref a1), .val (.int i1)] (fun _ => rfl) fun p e s m below meth c s₁ Bd D hml hZ hown X0 e0 => ?_
  have hx := D.1
  refine own_r X0 D 2 rfl ?_
  refine own_via (own_len X0 hx hZ e0 i_Ab (own_dd D rfl)) ?_
  refine own_xPN X0 D hZ hown hml (own_u hw 88 rfl) (own_K4 hw) (own_sci hw i_SF hp_fm hp_h0 hp_h1) 0 (by decide) e0 rfl rfl fun T1 X1 e1 => ?_
  refine own_r X1 D 2 rfl ?_
  refine own_via (own_ldBs X1 hx hZ e1 i_Ab (And.intro (And.intro hp_h0 hp_h1) trivial : (¬ i1 < 0 ∧ i1 < n1) ∧ True).1 (own_dd D rfl)) ?_
  refine own_r X1 D 3 rfl ?_
  exact own_retN (t := .char) X1 hx Bd.returns (by simp) Bd.notSynchronized (own_dd D rfl) ⟨(by show (some (.int (nar .char (((own_get L_1 i1) &&& (255 : Int32)).toUInt32.toUInt16.toUInt32.toInt32))) : Option Value) = some (.int (own_Fc1 i1 L_1)); simp only [own_Fc1, if_pos hp_fm, if_neg hp_h0, if_pos hp_h1]), rfl, e1⟩ (by decide) (by decide)
abbrev own_sch1_R : Room := { frames := 3, cells := 0, slots := 0, locals := 40 }
theorem own_pn14 : plainFor own_y24 = true := plainFor_of_name (by first | (simp [plainName, overriddenIn]; done) | decide +kernel)
theorem own_sch1 (hw : own_hw a0 Z) (i_SC : own_eS1 Z h0 (.int cs)) (i_SF : own_eS0 Z h0 fm) (i_Es : Exa Z h0 a1 own_cS) (i_Fv : own_eF10 Z h0 a1 (.ref b_1)) (i_Fc : own_eF9 Z h0 a1 (.int 0)) (i_Ab : own_aB Z h0 b_1 k_1 n1 L_1) (hp_cs : ¬ (cs = (0 : Int32))) (hp_fm : fm.isRef = true) (hp_h0 : ¬ (i1 < (0 : Int32))) (hp_h1 : i1 < n1) :
    own_C l Z own_y24 jdk_42_method_56_code 2 (some .char) ws own_sch1_R #[(.ref a1), (.int i1)] h0 (own_Q (.int (nar .char (own_Fc1 i1 L_1))) h0) := by
  refine own_go own_pn14 own_o14 #[.val (.ref a1), .val (.int i1)] (fun _ => rfl) fun p e s m below meth c s₁ Bd D hml hZ hown X0 e0 => ?_
  have hx := D.1
  refine own_r X0 D 1 rfl ?_
  refine own_xVP X0 D hZ hown hml (own_u hw 79 rfl) (own_K5 hw) (own_isl0 hw i_SC i_Fc hp_cs) 0 (by decide) e0 i_Es rfl rfl fun T1 X1 e1 => ?_
  refine own_fN X1 D rfl (feq (by decide : ¬ ((1 : Int32) = (0 : Int32)))).1 ?_
  refine own_r X1 D 1 rfl ?_
  refine own_gF X1 D hZ hown (own_u hw 32 rfl) Via.refl e1 i_Fv rfl fun T2 X2 e2 => ?_
  refine own_r X2 D 1 rfl ?_
  refine own_xP X2 D hZ hown hml (own_u hw 84 rfl) (own_K6 hw) (own_ch1 hw i_SF i_Ab hp_fm hp_h0 hp_h1) 0 (by decide) e2 rfl rfl fun T3 X3 e3 => ?_
  exact own_retN (t := .char) X3 hx Bd.returns (by simp) Bd.notSynchronized (own_dd D rfl) ⟨rfl, rfl, e3⟩ (by decide) (by decide)
abbrev own_ul_R : Room := { frames := 0, cells := 0, slots := 0, locals := 0 }
theorem own_pn36 : plainFor own_y47 = true := plainFor_of_name (by first | (simp [plainName, overriddenIn]; done) | decide +kernel)
theorem own_ul (hw : own_hw a0 Z) (i_Ab : own_aB Z h0 a1 k_1 n1 L_1) :
    own_C l Z own_y47 jdk_52_method_6_code 1 (some .int) ws own_ul_R #[(.ref a1)] h0 (own_Q (.int (n1 >>> ((1 : Int32) &&& 31))) h0) := by
  refine own_go own_pn36 own_o36 #[.val (.ref a1)] (fun _ => rfl) fun p e s m below meth c s₁ Bd D hml hZ hown X0 e0 => ?_
  have hx := D.1
  refine own_r X0 D 1 rfl ?_
  refine own_via (own_len X0 hx hZ e0 i_Ab (own_dd D rfl)) ?_
  refine own_r X0 D 2 rfl ?_
  exact own_retI X0 hx Bd.returns Bd.notSynchronized (own_dd D rfl) ⟨rfl, rfl, e0⟩ (by decide) (by decide)
abbrev own_gch_R : Room := { frames := 0, cells := 0, slots := 0, locals := 0 }
theorem own_pn33 : plainFor own_y45 = true := plainFor_of_name (by first | (simp [plainName, overriddenIn]; done) | decide +kernel)
theorem own_gch (hw : own_hw a0 Z) (i_SA : own_eS2 Z h0 (.int 1)) (i_SH : own_eS3 Z h0 (.int 0)) (i_SL : own_eS4 Z h0 (.int 8)) (i_Ab : own_aB Z h0 a1 k_1 n1 L_1) (hp_j0 : ¬ ((i1 <<< ((1 : Int32) &&& 31)) < (0 : Int32))) (hp_j1 : (i1 <<< ((1 : Int32) &&& 31)) < n1) (hp_k0 : ¬ (((i1 <<< ((1 : Int32) &&& 31)) + (1 : Int32)) < (0 : Int32))) (hp_k1 : ((i1 <<< ((1 : Int32) &&& 31)) + (1 : Int32)) < n1) :
    own_C l Z own_y45 jdk_52_method_5_code 2 (some .char) ws own_gch_R #[(.ref a1), (.int i1)] h0 (own_Q (.int (own_gc (own_get L_1 (i1 <<< ((1 : Int32) &&& 31))) (own_get L_1 ((i1 <<< ((1 : Int32) &&& 31)) + (1 : Int32))))) h0) := by
  refine own_go own_pn33 own_o33 #[.val (.ref a1), .val (.int i1)] (fun _ => rfl) fun p e s m below meth c s₁ Bd D hml hZ hown X0 e0 => ?_
  have hx := D.1
  refine own_gS X0 D hZ hown (own_u hw 152 rfl) e0 i_SA rfl fun T1 X1 e1 => ?_
  refine own_fY X1 D rfl (feq (by decide : ¬ ((1 : Int32) = (0 : Int32)))).2 ?_
  refine own_r X1 D 7 rfl ?_
  refine own_via (own_ldBs X1 hx hZ e1 i_Ab (And.intro (And.intro hp_j0 hp_j1) trivial : (¬ (i1 <<< ((1 : Int32) &&& 31)) < (0 : Int32) ∧ (i1 <<< ((1 : Int32) &&& 31)) < n1) ∧ True).1 (own_dd D rfl)) ?_
  refine own_r X1 D 2 rfl ?_
  refine own_gS X1 D hZ hown (own_u hw 153 rfl) e1 i_SH rfl fun T2 X2 e2 => ?_
  refine own_r X2 D 3 rfl ?_
  refine own_via (own_ldBs X2 hx hZ e2 i_Ab (And.intro (And.intro hp_k0 hp_k1) trivial : (¬ ((i1 <<< ((1 : Int32) &&& 31)) + (1 : Int32)) < (0 : Int32) ∧ ((i1 <<< ((1 : Int32) &&& 31)) + (1 : Int32)) < n1) ∧ True).1 (own_dd D rfl)) ?_
  refine own_r X2 D 2 rfl ?_
  refine own_gS X2 D hZ hown (own_u hw 154 rfl) e2 i_SL rfl fun T3 X3 e3 => ?_
  refine own_r X3 D 3 rfl ?_
  exact own_retN (t := .char) X3 hx Bd.returns (by simp) Bd.notSynchronized (own_dd D rfl) ⟨rfl, rfl, e3⟩ (by decide) (by decide)
abbrev own_uci_R : Room := { frames := 2, cells := 0, slots := 0, locals := 27 }
theorem own_pn35 : plainFor own_y41 = true := plainFor_of_name (by first | (simp [plainName, overriddenIn]; done) | decide +kernel)
theorem own_uci (hw : own_hw a0 Z) (i_SF : own_eS0 Z h0 fm) (i_Ab : own_aB Z h0 a1 k_1 n1 L_1) (hp_fm : fm.isRef = true) (hp_h0 : ¬ (i1 < (0 : Int32))) (hp_h1 : i1 < (n1 >>> ((1 : Int32) &&& 31))) :
    own_C l Z own_y41 jdk_52_method_91_code 2 none ws own_uci_R #[(.int i1), (.ref a1)] h0 (own_QN h0) := by
  refine own_go own_pn35 own_o35 #[.val (.int i1), .val (.ref a1)] (fun _ => rfl) fun p e s m below meth c s₁ Bd D hml hZ hown X0 e0 => ?_
  have hx := D.1
  refine own_r X0 D 2 rfl ?_
  refine own_xP X0 D hZ hown hml (own_u hw 164 rfl) (own_K7 hw) (own_ul hw i_Ab) 1 (by decide) e0 rfl rfl fun T1 X1 e1 => ?_
  refine own_xPN X1 D hZ hown hml (own_u hw 167 rfl) (own_K4 hw) (own_sci (n1 := (n1 >>> ((1 : Int32) &&& 31))) hw i_SF hp_fm hp_h0 hp_h1) 0 (by decide) e1 rfl rfl fun T2 X2 e2 => ?_
  exact own_retV X2 hx Bd.returns Bd.notSynchronized (own_dd D rfl) ⟨rfl, rfl, e2⟩ (by decide) (by decide)
abbrev own_uch_R : Room := { frames := 3, cells := 0, slots := 0, locals := 40 }
theorem own_pn34 : plainFor own_y39 = true := plainFor_of_name (by first | (simp [plainName, overriddenIn]; done) | decide +kernel)
theorem own_uch (hw : own_hw a0 Z) (i_SF : own_eS0 Z h0 fm) (i_SA : own_eS2 Z h0 (.int 1)) (i_SH : own_eS3 Z h0 (.int 0)) (i_SL : own_eS4 Z h0 (.int 8)) (i_Ab : own_aB Z h0 a1 k_1 n1 L_1) (hp_fm : fm.isRef = true) (hp_h0 : ¬ (i1 < (0 : Int32))) (hp_h1 : i1 < (n1 >>> ((1 : Int32) &&& 31))) (hp_j0 : ¬ ((i1 <<< ((1 : Int32) &&& 31)) < (0 : Int32))) (hp_j1 : (i1 <<< ((1 : Int32) &&& 31)) < n1) (hp_k0 : ¬ (((i1 <<< ((1 : Int32) &&& 31)) + (1 : Int32)) < (0 : Int32))) (hp_k1 : ((i1 <<< ((1 : Int32) &&& 31)) + (1 : Int32)) < n1) :
    own_C l Z own_y39 jdk_52_method_83_code 2 (some .char) ws own_uch_R #[(.ref a1), (.int i1)] h0 (own_Q (.int (nar .char (own_gc (own_get L_1 (i1 <<< ((1 : Int32) &&& 31))) (own_get L_1 ((i1 <<< ((1 : Int32) &&& 31)) + (1 : Int32)))))) h0) := by
  refine own_go own_pn34 own_o34 #[.val (.ref a1), .val (.int i1)] (fun _ => rfl) fun p e s m below meth c s₁ Bd D hml hZ hown X0 e0 => ?_
  have hx := D.1
  refine own_r X0 D 2 rfl ?_
  refine own_xPN X0 D hZ hown hml (own_u hw 161 rfl) (own_K8 hw) (own_uci hw i_SF i_Ab hp_fm hp_h0 hp_h1) 0 (by decide) e0 rfl rfl fun T1 X1 e1 => ?_
  refine own_r X1 D 2 rfl ?_
  refine own_xP X1 D hZ hown hml (own_u hw 155 rfl) (own_K9 hw) (own_gch hw i_SA i_SH i_SL i_Ab hp_j0 hp_j1 hp_k0 hp_k1) 0 (by decide) e1 rfl rfl fun T2 X2 e2 => ?_
  exact own_retN (t := .char) X2 hx Bd.returns (by simp) Bd.notSynchronized (own_dd D rfl) ⟨rfl, rfl, e2⟩ (by decide) (by decide)
abbrev own_sch2_R : Room := { frames := 4, cells := 0, slots := 0, locals := 53 }
theorem own_sch2 (hw : own_hw a0 Z) (i_SC : own_eS1 Z h0 (.int cs)) (i_SF : own_eS0 Z h0 fm) (i_SA : own_eS2 Z h0 (.int 1)) (i_SH : own_eS3 Z h0 (.int 0)) (i_SL : own_eS4 Z h0 (.int 8)) (i_Es : Exa Z h0 a1 own_cS) (i_Fv : own_eF10 Z h0 a1 (.ref b_1)) (i_Fc : own_eF9 Z h0 a1 (.int 1)) (i_Ab : own_aB Z h0 b_1 k_1 n1 L_1) (hp_cs : ¬ (cs = (0 : Int32))) (hp_fm : fm.isRef = true) (hp_h0 : ¬ (i1 < (0 : Int32))) (hp_h1 : i1 < (n1 >>> ((1 : Int32) &&& 31))) (hp_j0 : ¬ ((i1 <<< ((1 : Int32) &&& 31)) < (0 : Int32))) (hp_j1 : (i1 <<< ((1 : Int32) &&& 31)) < n1) (hp_k0 : ¬ (((i1 <<< ((1 : Int32) &&& 31)) + (1 : Int32)) < (0 : Int32))) (hp_k1 : ((i1 <<< ((1 : Int32) &&& 31)) + (1 : Int32)) < n1) :
    own_C l Z own_y24 jdk_42_method_56_code 2 (some .char) ws own_sch2_R #[(.ref a1), (.int i1)] h0 (own_Q (.int (nar .char (nar .char (own_gc (own_get L_1 (i1 <<< ((1 : Int32) &&& 31))) (own_get L_1 ((i1 <<< ((1 : Int32) &&& 31)) + (1 : Int32))))))) h0) := by
  refine own_go own_pn14 own_o14 #[.val (.ref a1), .val (.int i1)] (fun _ => rfl) fun p e s m below meth c s₁ Bd D hml hZ hown X0 e0 => ?_
  have hx := D.1
  refine own_r X0 D 1 rfl ?_
  refine own_xVP X0 D hZ hown hml (own_u hw 79 rfl) (own_K5 hw) (own_isl1 hw i_SC i_Fc hp_cs) 0 (by decide) e0 i_Es rfl rfl fun T1 X1 e1 => ?_
  refine own_fY X1 D rfl (teq (by decide : (0 : Int32) = (0 : Int32))).1 ?_
  refine own_r X1 D 1 rfl ?_
  refine own_gF X1 D hZ hown (own_u hw 32 rfl) Via.refl e1 i_Fv rfl fun T2 X2 e2 => ?_
  refine own_r X2 D 1 rfl ?_
  refine own_xP X2 D hZ hown hml (own_u hw 158 rfl) (own_K10 hw) (own_uch hw i_SF i_SA i_SH i_SL i_Ab hp_fm hp_h0 hp_h1 hp_j0 hp_j1 hp_k0 hp_k1) 0 (by decide) e2 rfl rfl fun T3 X3 e3 => ?_
  exact own_retN (t := .char) X3 hx Bd.returns (by simp) Bd.notSynchronized (own_dd D rfl) ⟨rfl, rfl, e3⟩ (by decide) (by decide)
abbrev own_pch_R : Room := { frames := 0, cells := 0, slots := 0, locals := 0 }
theorem own_pn32 : plainFor own_y50 = true := plainFor_of_name (by first | (simp [plainName, overriddenIn]; done) | decide +kernel)
def own_pch_q (Z : State) (a1 : Addr) (i1 : Int32) (c1 : Int32) (k_1 : ClassId) (L_1 : List Int32) (n1 : Int32) (h0 : Heap) (v : Option Value) (h : Heap) : Prop := v = none ∧ Keep h0 h [a1] ∧ own_aB Z h a1 k_1 n1 (own_set (own_set L_1 (i1 <<< ((1 : Int32) &&& 31)) (own_lo c1)) ((i1 <<< ((1 : Int32) &&& 31)) + (1 : Int32)) (own_hi c1))
theorem own_pch (hw : own_hw a0 Z) (Z0 : n0 ≤ h0.size) (i_SA : own_eS2 Z h0 (.int 1)) (i_SH : own_eS3 Z h0 (.int 0)) (i_SL : own_eS4 Z h0 (.int 8)) (i_Ab : own_aB Z h0 a1 k_1 n1 L_1) (g_a1 : n0 ≤ a1) (hp_hj : own_in L_1 (i1 <<< ((1 : Int32) &&& 31)) n1) (hp_hk : own_in (own_set L_1 (i1 <<< ((1 : Int32) &&& 31)) (own_lo c1)) ((i1 <<< ((1 : Int32) &&& 31)) + (1 : Int32)) n1) :
    own_C l Z own_y50 jdk_52_method_4_code 3 none ws own_pch_R #[(.ref a1), (.int i1), (.int c1)] h0 (own_W n0 (own_pch_q Z a1 i1 c1 k_1 L_1 n1 h0)) := by
  refine own_goW own_pn32 own_o32 #[.val (.ref a1), .val (.int i1), .val (.int c1)] (fun _ => rfl) fun p e s m below meth c s₁ Bd D hml hZ hown X0 e0 N0 => ?_
  have hx := D.1
  have K0 : Keep h0 h0 [a1] := Keep.refl h0 _
  refine own_gS X0 D hZ hown (own_u hw 152 rfl) e0 i_SA rfl fun T1 X1 e1 => ?_
  refine own_fY X1 D rfl (feq (by decide : ¬ ((1 : Int32) = (0 : Int32)))).2 ?_
  refine own_r X1 D 8 rfl ?_
  refine own_gS X1 D hZ hown (own_u hw 153 rfl) e1 i_SH rfl fun T2 X2 e2 => ?_
  refine own_r X2 D 2 rfl ?_
  refine own_stBsk X2 N0 hx hZ e2 i_Ab g_a1 hp_hj (own_dd D rfl) fun T3 h3 L3 X3 N3 e3 W3 V3 => ?_
  have f6 := i_SL.wr W3
  have Kp7 := K0.wr W3 (Or.inl own_m0)
  have f8 : own_aB Z h3 a1 k_1 n1 (own_set L_1 (i1 <<< ((1 : Int32) &&& 31)) (((c1 >>> ((0 : Int32) &&& 31)).toInt8.toInt32).toInt8.toInt32)) := V3
  refine own_r X3 D 3 rfl ?_
  refine own_gS X3 D hZ hown (own_u hw 154 rfl) e3 f6 rfl fun T10 X10 e10 => ?_
  refine own_r X10 D 2 rfl ?_
  refine own_stBsk X10 N3 hx hZ e10 f8 g_a1 hp_hk (own_dd D rfl) fun T11 h11 L11 X11 N11 e11 W11 V11 => ?_
  have Kp15 := Kp7.wr W11 (Or.inl own_m0)
  have f16 : own_aB Z h11 a1 k_1 n1 (own_set (own_set L_1 (i1 <<< ((1 : Int32) &&& 31)) (((c1 >>> ((0 : Int32) &&& 31)).toInt8.toInt32).toInt8.toInt32)) ((i1 <<< ((1 : Int32) &&& 31)) + (1 : Int32)) (((c1 >>> ((8 : Int32) &&& 31)).toInt8.toInt32).toInt8.toInt32)) := V11
  exact own_rV X11 D Bd rfl e11 ⟨N11, rfl, Kp15, f16⟩ (by decide)
abbrev own_nbl_R : Room := { frames := 0, cells := 0, slots := 0, locals := 0 }
theorem own_pn31 : plainFor own_y49 = true := plainFor_of_name (by first | (simp [plainName, overriddenIn]; done) | decide +kernel)
theorem own_nbl (hw : own_hw a0 Z) (hp_d0 : ¬ (n1 < (0 : Int32))) (hp_d3 : n1.toNatClampNeg ≤ 3) :
    own_C l Z own_y49 jdk_52_method_3_code 1 (some .int) ws own_nbl_R #[(.int n1)] h0 (own_Q (.int (n1 <<< ((1 : Int32) &&& 31))) h0) := by
  refine own_go own_pn31 own_o31 #[.val (.int n1)] (fun _ => rfl) fun p e s m below meth c s₁ Bd D hml hZ hown X0 e0 => ?_
  have hx := D.1
  refine own_r X0 D 1 rfl ?_
  refine own_fY X0 D rfl (flt hp_d0).2.1 ?_
  refine own_r X0 D 1 rfl ?_
  refine own_via (X0.ldcInt hx hown (mvT hZ (own_u hw 148 rfl)) (g := (mkF m 13 #[.val (.int n1)] [(.int n1)])) rfl (own_dd D rfl)) ?_
  show own_H s₁ 15 #[.val (.int n1)] [(.int 1073741823), (.int n1)]
  refine own_cY X0 D rfl (tlt (own_ltM hp_d0 hp_d3)).1 ?_
  refine own_r X0 D 3 rfl ?_
  exact own_retI X0 hx Bd.returns Bd.notSynchronized (own_dd D rfl) ⟨rfl, rfl, e0⟩ (by decide) (by decide)
abbrev own_nbf_R : Room := { frames := 1, cells := 1, slots := 6, locals := 12 }
theorem own_pn30 : plainFor own_y48 = true := plainFor_of_name (by first | (simp [plainName, overriddenIn]; done) | decide +kernel)
def own_nbf_q (Z : State) (n1 : Int32)  (h0 : Heap) (v : Option Value) (h : Heap) : Prop := ∃ (x : Addr) (kx : ClassId), v = some (.ref x) ∧ Keep h0 h [] ∧ h0.size ≤ x ∧ own_aB Z h x kx (n1 <<< ((1 : Int32) &&& 31)) (List.replicate (n1 <<< ((1 : Int32) &&& 31)).toNatClampNeg (0 : Int32))
theorem own_nbf (hw : own_hw a0 Z) (Z0 : n0 ≤ h0.size) (hp_d0 : ¬ (n1 < (0 : Int32))) (hp_d3 : n1.toNatClampNeg ≤ 3) :
    own_C l Z own_y48 jdk_52_method_2_code 1 (some (.array .byte)) ws own_nbf_R #[(.int n1)] h0 (own_W n0 (own_nbf_q Z n1 h0)) := by
  refine own_goW own_pn30 own_o30 #[.val (.int n1)] (fun _ => rfl) fun p e s m below meth c s₁ Bd D hml hZ hown X0 e0 N0 => ?_
  have hx := D.1
  have K0 : Keep h0 h0 [] := Keep.refl h0 _
  refine own_r X0 D 1 rfl ?_
  refine own_xP X0 D hZ hown hml (own_u hw 145 rfl) (own_K11 hw) (own_nbl hw hp_d0 hp_d3) 0 (by decide) e0 rfl rfl fun T1 X1 e1 => ?_
  refine own_newAk X1 hx hZ (own_u hw 23 rfl) e1 (own_dd D rfl) (own_sh6 hp_d0 hp_d3).1 (cap := 6) (own_sh6 hp_d0 hp_d3).2 (by decide) (by decide) (by decide) (n1 <<< ((1 : Int32) &&& 31)).toNatClampNeg rfl fun T2 h2 k2 b2 X2 e2 E2 ga2 V2 Ex2 => ?_
  have sz_b2 := own_ge K0.1 ga2
  have Kp3 := K0.ext E2
  have f4 : Arv Z h2 b2 k2 .byte (n1 <<< ((1 : Int32) &&& 31)) ((List.replicate (n1 <<< ((1 : Int32) &&& 31)).toNatClampNeg (0 : Int32)).map Value.int) (.int 0) := by rw [List.map_replicate]; exact V2
  exact own_rA X2 D Bd rfl rfl rfl e2 ⟨N0, b2, k2, rfl, Kp3, sz_b2, f4⟩ (by decide)
def own_tbl (M : List Int32) : Nat → Int32 → List Int32 → List Int32
  | 0, _, L => L
  | f + 1, i, L => own_tbl M f (i + 1) (own_set (own_set L (i <<< ((1 : Int32) &&& 31)) (own_lo (own_get M i))) ((i <<< ((1 : Int32) &&& 31)) + (1 : Int32)) (own_hi (own_get M i)))
def own_tbo (M : List Int32) (n m z : Int32) : Nat → Int32 → List Int32 → Prop
  | 0, i, _ => ¬ i < n
  | f + 1, i, L => i < n ∧ (¬ i < (0 : Int32) ∧ i < m) ∧ own_in L (i <<< ((1 : Int32) &&& 31)) z ∧ own_in (own_set L (i <<< ((1 : Int32) &&& 31)) (own_lo (own_get M i))) ((i <<< ((1 : Int32) &&& 31)) + (1 : Int32)) z ∧ own_tbo M n m z f (i + 1) (own_set (own_set L (i <<< ((1 : Int32) &&& 31)) (own_lo (own_get M i))) ((i <<< ((1 : Int32) &&& 31)) + (1 : Int32)) (own_hi (own_get M i)))
abbrev own_tb_R : Room := { frames := 2, cells := 1, slots := 6, locals := 24 }
theorem own_pn29 : plainFor own_y51 = true := plainFor_of_name (by first | (simp [plainName, overriddenIn]; done) | decide +kernel)
def own_tb_q (Z : State) (a1 : Addr) (n1 : Int32) (k_1 : ClassId) (M_1 : List Int32) (m1 : Int32) (h0 : Heap) (v : Option Value) (h : Heap) : Prop := ∃ (x : Addr) (kx : ClassId), v = some (.ref x) ∧ Keep h0 h [] ∧ h0.size ≤ x ∧ own_aB Z h x kx (n1 <<< ((1 : Int32) &&& 31)) (own_tbl M_1 n1.toNatClampNeg (0 : Int32) (List.replicate (n1 <<< ((1 : Int32) &&& 31)).toNatClampNeg (0 : Int32)))
theorem own_tb (hw : own_hw a0 Z) (Z0 : n0 ≤ h0.size) (i_SA : own_eS2 Z h0 (.int 1)) (i_SH : own_eS3 Z h0 (.int 0)) (i_SL : own_eS4 Z h0 (.int 8)) (i_Ac : own_aC Z h0 a1 k_1 m1 M_1) (hp_d0 : ¬ (n1 < (0 : Int32))) (hp_d3 : n1.toNatClampNeg ≤ 3) (hp_ho : own_tbo M_1 n1 m1 (n1 <<< ((1 : Int32) &&& 31)) n1.toNatClampNeg (0 : Int32) (List.replicate (n1 <<< ((1 : Int32) &&& 31)).toNatClampNeg (0 : Int32))) :
    own_C l Z own_y51 jdk_52_method_14_code 5 (some (.array .byte)) ws own_tb_R #[(.ref a1), (.int 0), (.int n1)] h0 (own_W n0 (own_tb_q Z a1 n1 k_1 M_1 m1 h0)) := by
  refine own_goW own_pn29 own_o29 #[.val (.ref a1), .val (.int 0), .val (.int n1), .unset, .unset] (fun _ => rfl) fun p e s m below meth c s₁ Bd D hml hZ hown X0 e0 N0 => ?_
  have hx := D.1
  have K0 : Keep h0 h0 [] := Keep.refl h0 _
  refine own_r X0 D 1 rfl ?_
  refine own_xS X0 N0 D hZ hown hml (own_u hw 142 rfl) (own_K12 hw) (own_nbf hw Z0 hp_d0 hp_d3) 0 (by decide) e0 rfl rfl ?_
  rintro v1 T1 h1 L1 X1 N1 e1 ⟨x1, kx1, rfl, K1, zf_x1, o1_0⟩
  have ne2 := own_ne2 i_Ac.lt zf_x1
  have g_x1 := Nat.le_trans Z0 zf_x1
  have sz_x1 := Nat.le_trans K0.1 zf_x1
  have f3 := i_SA.ext (own_ke K1)
  have f4 := i_SH.ext (own_ke K1)
  have f5 := i_SL.ext (own_ke K1)
  have f6 := i_Ac.ext (own_ke K1)
  have Kp7 := K0.trans K1 (fun x hx => nomatch hx)
  have Zs8 := Nat.le_trans Z0 K1.1
  refine own_r X1 D 3 rfl ?_
  have J9 : ∀ (f : Nat) (i : Int32) (L : List Int32) (TJ9 : State) (hJ9 : Heap) (LJ9 : List Loc) (XJ9 : Stand p l e own_tb_R s m #[(.ref a1), (.int 0), (.int n1)] below meth c TJ9 LJ9 1 6) (NJ9 : Fr n0 LJ9) (eJ9 : TJ9.heap = hJ9) (KJ9 : Keep h0 hJ9 []) (ZJ9 : n0 ≤ hJ9.size) (fJ9_0 : own_eS2 Z hJ9 (.int 1)) (fJ9_1 : own_eS3 Z hJ9 (.int 0)) (fJ9_2 : own_eS4 Z hJ9 (.int 8)) (fJ9_3 : own_aC Z hJ9 a1 k_1 m1 M_1) (fJ9_4 : own_aB Z hJ9 x1 kx1 (n1 <<< ((1 : Int32) &&& 31)) L) (hI : own_tbo M_1 n1 m1 (n1 <<< ((1 : Int32) &&& 31)) f i L) (hE : own_tbl M_1 f i L = (own_tbl M_1 n1.toNatClampNeg (0 : Int32) (List.replicate (n1 <<< ((1 : Int32) &&& 31)).toNatClampNeg (0 : Int32)))), own_G p e below (own_P s (own_W n0 (own_tb_q Z a1 n1 k_1 M_1 m1 h0)) own_tb_R.cells own_tb_R.slots) (TJ9.setTop (mkF m 8 #[.val (.ref a1), .val (.int i), .val (.int n1), .val (.ref x1), .val (.int i)] [])) := by
    intro f
    induction f with
    | zero =>
      intro i L TJ9 hJ9 LJ9 XJ9 NJ9 eJ9 KJ9 ZJ9 fJ9_0 fJ9_1 fJ9_2 fJ9_3 fJ9_4 hI hE
      have hJ : ¬ i < n1 := hI
      refine own_r XJ9 D 2 rfl ?_
      refine own_cY XJ9 D rfl (flt hJ).2.1 ?_
      refine own_r XJ9 D 1 rfl ?_
      have fo10 : Arv Z hJ9 x1 kx1 .byte (n1 <<< ((1 : Int32) &&& 31)) ((own_tbl M_1 n1.toNatClampNeg (0 : Int32) (List.replicate (n1 <<< ((1 : Int32) &&& 31)).toNatClampNeg (0 : Int32))).map Value.int) (.int 0) := by rw [← hE]; exact fJ9_4
      exact own_rA XJ9 D Bd rfl rfl rfl eJ9 ⟨NJ9, x1, kx1, rfl, KJ9, sz_x1, fo10⟩ (by decide)
    | succ f ih =>
      intro i L TJ9 hJ9 LJ9 XJ9 NJ9 eJ9 KJ9 ZJ9 fJ9_0 fJ9_1 fJ9_2 fJ9_3 fJ9_4 hI hE
      have hJ : i < n1 ∧ (¬ i < (0 : Int32) ∧ i < m1) ∧ own_in L (i <<< ((1 : Int32) &&& 31)) (n1 <<< ((1 : Int32) &&& 31)) ∧ own_in (own_set L (i <<< ((1 : Int32) &&& 31)) (own_lo (own_get M_1 i))) ((i <<< ((1 : Int32) &&& 31)) + (1 : Int32)) (n1 <<< ((1 : Int32) &&& 31)) ∧ own_tbo M_1 n1 m1 (n1 <<< ((1 : Int32) &&& 31)) f (i + 1) (own_set (own_set L (i <<< ((1 : Int32) &&& 31)) (own_lo (own_get M_1 i))) ((i <<< ((1 : Int32) &&& 31)) + (1 : Int32)) (own_hi (own_get M_1 i))) := hI
      refine own_r XJ9 D 2 rfl ?_
      refine own_cN XJ9 D rfl (tlt hJ.1).2.1 ?_
      refine own_r XJ9 D 4 rfl ?_
      refine own_via (own_ldCs XJ9 hx hZ eJ9 fJ9_3 (And.intro (And.intro hJ.2.1.1 hJ.2.1.2) trivial : (¬ i < (0 : Int32) ∧ i < m1) ∧ True).1 (own_dd D rfl)) ?_
      refine own_xS XJ9 NJ9 D hZ hown hml (own_u hw 149 rfl) (own_K13 hw) (own_pch (c1 := (own_get M_1 i)) (n1 := (n1 <<< ((1 : Int32) &&& 31))) hw ZJ9 fJ9_0 fJ9_1 fJ9_2 fJ9_4 g_x1 hJ.2.2.1 hJ.2.2.2.1) 0 (by decide) eJ9 rfl rfl ?_
      rintro v11 T11 h11 L11 X11 N11 e11 ⟨rfl, K11, o11_0⟩
      have f12 := own_staK fJ9_0 K11 (own_al1 fJ9_4.nostat)
      have f13 := own_staK fJ9_1 K11 (own_al1 fJ9_4.nostat)
      have f14 := own_staK fJ9_2 K11 (own_al1 fJ9_4.nostat)
      have f15 := fJ9_3.keep K11 (own_nm1 ne2)
      have Kp16 := KJ9.trans K11 (own_al1 (Or.inr sz_x1))
      have Zs17 := Nat.le_trans ZJ9 K11.1
      refine own_r X11 D 3 rfl ?_
      exact ih  (i + (1 : Int32)) (own_set (own_set L (i <<< ((1 : Int32) &&& 31)) (own_lo (own_get M_1 i))) ((i <<< ((1 : Int32) &&& 31)) + (1 : Int32)) (own_hi (own_get M_1 i))) _ _ _ X11 N11 e11 Kp16 Zs17 f12 f13 f14 f15 o11_0 hJ.2.2.2.2 hE
  exact J9 n1.toNatClampNeg (0 : Int32) (List.replicate (n1 <<< ((1 : Int32) &&& 31)).toNatClampNeg (0 : Int32)) _ _ _ X1 N1 e1 Kp7 Zs8 f3 f4 f5 f6 o1_0 hp_ho rfl
def own_ca (M : List Int32) (n m : Int32) : Nat → Int32 → Prop
  | 0, i => ¬ i < n
  | f + 1, i => i < n ∧ (¬ i < (0 : Int32) ∧ i < m) ∧ ¬ ((255 : Int32) < (own_get M i)) ∧ own_ca M n m f (i + 1)
def own_cf (M : List Int32) (n m r : Int32) : Nat → Int32 → Prop
  | 0, i => i = r ∧ i < n ∧ (¬ i < (0 : Int32) ∧ i < m) ∧ (255 : Int32) < (own_get M i)
  | f + 1, i => i < n ∧ (¬ i < (0 : Int32) ∧ i < m) ∧ ¬ ((255 : Int32) < (own_get M i)) ∧ own_cf M n m r f (i + 1)
abbrev own_c5A_R : Room := { frames := 0, cells := 0, slots := 0, locals := 0 }
theorem own_pn6 : plainFor own_y44 = true := plainFor_of_name (by first | (simp [plainName, overriddenIn]; done) | decide +kernel)
def own_c5A_q (Z : State) (a1 : Addr) (a2 : Addr) (n1 : Int32) (k_1 : ClassId) (M_1 : List Int32) (m1 : Int32) (k_2 : ClassId) (L_1 : List Int32) (h0 : Heap) (v : Option Value) (h : Heap) : Prop := ∃ (L_2 : List Int32), v = some (.int n1) ∧ Keep h0 h [a2] ∧ own_aB Z h a2 k_2 n1 L_2
theorem own_c5A (hw : own_hw a0 Z) (Z0 : n0 ≤ h0.size) (i_Ac : own_aC Z h0 a1 k_1 m1 M_1) (i_Ab : own_aB Z h0 a2 k_2 n1 L_1) (g_a2 : n0 ≤ a2) (ne_a1_a2 : a1 ≠ a2) (hp_hl : L_1.length = n1.toNatClampNeg) (hp_ho : own_ca M_1 n1 m1 n1.toNatClampNeg (0 : Int32)) :
    own_C l Z own_y44 jdk_52_method_21_code 7 (some .int) ws own_c5A_R #[(.ref a1), (.int 0), (.ref a2), (.int 0), (.int n1)] h0 (own_W n0 (own_c5A_q Z a1 a2 n1 k_1 M_1 m1 k_2 L_1 h0)) := by
  refine own_goW own_pn6 own_o6 #[.val (.ref a1), .val (.int 0), .val (.ref a2), .val (.int 0), .val (.int n1), .unset, .unset] (fun _ => rfl) fun p e s m below meth c s₁ Bd D hml hZ hown X0 e0 N0 => ?_
  have hx := D.1
  have K0 : Keep h0 h0 [a2] := Keep.refl h0 _
  refine own_r X0 D 2 rfl ?_
  have J1 : ∀ (f : Nat) (i : Int32) (L : List Int32) (w6 : Slot) (TJ1 : State) (hJ1 : Heap) (LJ1 : List Loc) (XJ1 : Stand p l e own_c5A_R s m #[(.ref a1), (.int 0), (.ref a2), (.int 0), (.int n1)] below meth c TJ1 LJ1 0 0) (NJ1 : Fr n0 LJ1) (eJ1 : TJ1.heap = hJ1) (KJ1 : Keep h0 hJ1 [a2]) (ZJ1 : n0 ≤ hJ1.size) (fJ1_0 : own_aC Z hJ1 a1 k_1 m1 M_1) (fJ1_1 : own_aB Z hJ1 a2 k_2 n1 L) (hw6 : w6 = .unset ∨ ∃ v : Int32, w6 = .val (.int v)) (hL : L.length = n1.toNatClampNeg) (hI : own_ca M_1 n1 m1 f i), own_G p e below (own_P s (own_W n0 (own_c5A_q Z a1 a2 n1 k_1 M_1 m1 k_2 L_1 h0)) own_c5A_R.cells own_c5A_R.slots) (TJ1.setTop (mkF m 3 #[.val (.ref a1), .val (.int i), .val (.ref a2), .val (.int i), .val (.int n1), .val (.int i), w6] [])) := by
    intro f
    induction f with
    | zero =>
      intro i L w6 TJ1 hJ1 LJ1 XJ1 NJ1 eJ1 KJ1 ZJ1 fJ1_0 fJ1_1 hw6 hL hI
      have hJ : ¬ i < n1 := hI
      refine own_r XJ1 D 2 rfl ?_
      refine own_cY XJ1 D rfl (flt hJ).2.1 ?_
      refine own_r XJ1 D 1 rfl ?_
      exact own_rI XJ1 D Bd rfl eJ1 ⟨NJ1, L, rfl, KJ1, fJ1_1⟩ (by decide)
    | succ f ih =>
      intro i L w6 TJ1 hJ1 LJ1 XJ1 NJ1 eJ1 KJ1 ZJ1 fJ1_0 fJ1_1 hw6 hL hI
      have hJ : i < n1 ∧ (¬ i < (0 : Int32) ∧ i < m1) ∧ ¬ ((255 : Int32) < (own_get M_1 i)) ∧ own_ca M_1 n1 m1 f (i + 1) := hI
      refine own_r XJ1 D 2 rfl ?_
      refine own_cN XJ1 D rfl (tlt hJ.1).2.1 ?_
      refine own_r XJ1 D 2 rfl ?_
      refine own_via (own_ldCs XJ1 hx hZ eJ1 fJ1_0 (And.intro (And.intro hJ.2.1.1 hJ.2.1.2) trivial : (¬ i < (0 : Int32) ∧ i < m1) ∧ True).1 (own_dd D rfl)) ?_
      refine own_via (fun t k => XS.istore XJ1.here hx rfl (own_dd D rfl) rfl (l' := #[.val (.ref a1), .val (.int i), .val (.ref a2), .val (.int i), .val (.int n1), .val (.int i), .val (.int (own_get M_1 i))]) (by rcases hw6 with h | ⟨v, h⟩ <;> subst h <;> rfl) k) ?_
      refine own_via (fun t k => XS.iload XJ1.here hx rfl (own_dd D rfl) rfl k) ?_
      refine own_via (fun t k => XS.sipush XJ1.here hx rfl (own_dd D rfl) k) ?_
      show own_H TJ1 20 #[.val (.ref a1), .val (.int i), .val (.ref a2), .val (.int i), .val (.int n1), .val (.int i), .val (.int (own_get M_1 i))] [(.int 255), (.int (own_get M_1 i))]
      refine own_cY XJ1 D rfl (flt hJ.2.2.1).2.2.2 ?_
      refine own_r XJ1 D 4 rfl ?_
      refine own_stBsk XJ1 NJ1 hx hZ eJ1 fJ1_1 g_a2 (own_inn hJ.2.1.1 hJ.1 hL) (own_dd D rfl) fun T2 h2 L2 X2 N2 e2 W2 V2 => ?_
      have f3 := fJ1_0.other W2 ne_a1_a2
      have Kp4 := KJ1.wr W2 (Or.inl own_m0)
      have f5 : own_aB Z h2 a2 k_2 n1 (own_set L i (((own_get M_1 i).toInt8.toInt32).toInt8.toInt32)) := V2
      have Zs6 : n0 ≤ h2.size := by rw [W2.size]; exact ZJ1
      refine own_r X2 D 4 rfl ?_
      exact ih  (i + (1 : Int32)) (own_set L i (((own_get M_1 i).toInt8.toInt32).toInt8.toInt32)) (.val (.int (own_get M_1 i))) _ _ _ X2 N2 e2 Kp4 Zs6 f3 f5 (Or.inr ⟨_, rfl⟩) (own_sl hL _ _) hJ.2.2.2
  exact J1 n1.toNatClampNeg (0 : Int32) L_1 .unset _ _ _ X0 N0 e0 K0 Z0 i_Ac i_Ab (Or.inl rfl) hp_hl hp_ho
abbrev own_c5F_R : Room := { frames := 0, cells := 0, slots := 0, locals := 0 }
def own_c5F_q (Z : State) (a1 : Addr) (a2 : Addr) (n1 : Int32) (k_1 : ClassId) (M_1 : List Int32) (m1 : Int32) (k_2 : ClassId) (L_1 : List Int32) (r1 : Int32) (jj : Nat) (h0 : Heap) (v : Option Value) (h : Heap) : Prop := v = some (.int r1) ∧ Keep h0 h [a2]
theorem own_c5F (hw : own_hw a0 Z) (Z0 : n0 ≤ h0.size) (i_Ac : own_aC Z h0 a1 k_1 m1 M_1) (i_Ab : own_aB Z h0 a2 k_2 n1 L_1) (g_a2 : n0 ≤ a2) (ne_a1_a2 : a1 ≠ a2) (hp_hl : L_1.length = n1.toNatClampNeg) (hp_ho : own_cf M_1 n1 m1 r1 jj (0 : Int32)) :
    own_C l Z own_y44 jdk_52_method_21_code 7 (some .int) ws own_c5F_R #[(.ref a1), (.int 0), (.ref a2), (.int 0), (.int n1)] h0 (own_W n0 (own_c5F_q Z a1 a2 n1 k_1 M_1 m1 k_2 L_1 r1 jj h0)) := by
  refine own_goW own_pn6 own_o6 #[.val (.ref a1), .val (.int 0), .val (.ref a2), .val (.int 0), .val (.int n1), .unset, .unset] (fun _ => rfl) fun p e s m below meth c s₁ Bd D hml hZ hown X0 e0 N0 => ?_
  have hx := D.1
  have K0 : Keep h0 h0 [a2] := Keep.refl h0 _
  refine own_r X0 D 2 rfl ?_
  have J1 : ∀ (f : Nat) (i : Int32) (L : List Int32) (w6 : Slot) (TJ1 : State) (hJ1 : Heap) (LJ1 : List Loc) (XJ1 : Stand p l e own_c5F_R s m #[(.ref a1), (.int 0), (.ref a2), (.int 0), (.int n1)] below meth c TJ1 LJ1 0 0) (NJ1 : Fr n0 LJ1) (eJ1 : TJ1.heap = hJ1) (KJ1 : Keep h0 hJ1 [a2]) (ZJ1 : n0 ≤ hJ1.size) (fJ1_0 : own_aC Z hJ1 a1 k_1 m1 M_1) (fJ1_1 : own_aB Z hJ1 a2 k_2 n1 L) (hw6 : w6 = .unset ∨ ∃ v : Int32, w6 = .val (.int v)) (hL : L.length = n1.toNatClampNeg) (hI : own_cf M_1 n1 m1 r1 f i), own_G p e below (own_P s (own_W n0 (own_c5F_q Z a1 a2 n1 k_1 M_1 m1 k_2 L_1 r1 jj h0)) own_c5F_R.cells own_c5F_R.slots) (TJ1.setTop (mkF m 3 #[.val (.ref a1), .val (.int i), .val (.ref a2), .val (.int i), .val (.int n1), .val (.int i), w6] [])) := by
    intro f
    induction f with
    | zero =>
      intro i L w6 TJ1 hJ1 LJ1 XJ1 NJ1 eJ1 KJ1 ZJ1 fJ1_0 fJ1_1 hw6 hL hI
      have hJ : i = r1 ∧ i < n1 ∧ (¬ i < (0 : Int32) ∧ i < m1) ∧ (255 : Int32) < (own_get M_1 i) := hI
      obtain ⟨rfl, hJ⟩ := hJ
      refine own_r XJ1 D 2 rfl ?_
      refine own_cN XJ1 D rfl (tlt hJ.1).2.1 ?_
      refine own_r XJ1 D 2 rfl ?_
      refine own_via (own_ldCs XJ1 hx hZ eJ1 fJ1_0 (And.intro (And.intro hJ.2.1.1 hJ.2.1.2) trivial : (¬ i < (0 : Int32) ∧ i < m1) ∧ True).1 (own_dd D rfl)) ?_
      refine own_via (fun t k => XS.istore XJ1.here hx rfl (own_dd D rfl) rfl (l' := #[.val (.ref a1), .val (.int i), .val (.ref a2), .val (.int i), .val (.int n1), .val (.int i), .val (.int (own_get M_1 i))]) (by rcases hw6 with h | ⟨v, h⟩ <;> subst h <;> rfl) k) ?_
      refine own_via (fun t k => XS.iload XJ1.here hx rfl (own_dd D rfl) rfl k) ?_
      refine own_via (fun t k => XS.sipush XJ1.here hx rfl (own_dd D rfl) k) ?_
      show own_H TJ1 20 #[.val (.ref a1), .val (.int i), .val (.ref a2), .val (.int i), .val (.int n1), .val (.int i), .val (.int (own_get M_1 i))] [(.int 255), (.int (own_get M_1 i))]
      refine own_cN XJ1 D rfl (tlt hJ.2.2).2.2.2 ?_
      refine own_r XJ1 D 1 rfl ?_
      exact own_rI XJ1 D Bd rfl eJ1 ⟨NJ1, rfl, KJ1⟩ (by decide)
    | succ f ih =>
      intro i L w6 TJ1 hJ1 LJ1 XJ1 NJ1 eJ1 KJ1 ZJ1 fJ1_0 fJ1_1 hw6 hL hI
      have hJ : i < n1 ∧ (¬ i < (0 : Int32) ∧ i < m1) ∧ ¬ ((255 : Int32) < (own_get M_1 i)) ∧ own_cf M_1 n1 m1 r1 f (i + 1) := hI
      refine own_r XJ1 D 2 rfl ?_
      refine own_cN XJ1 D rfl (tlt hJ.1).2.1 ?_
      refine own_r XJ1 D 2 rfl ?_
      refine own_via (own_ldCs XJ1 hx hZ eJ1 fJ1_0 (And.intro (And.intro hJ.2.1.1 hJ.2.1.2) trivial : (¬ i < (0 : Int32) ∧ i < m1) ∧ True).1 (own_dd D rfl)) ?_
      refine own_via (fun t k => XS.istore XJ1.here hx rfl (own_dd D rfl) rfl (l' := #[.val (.ref a1), .val (.int i), .val (.ref a2), .val (.int i), .val (.int n1), .val (.int i), .val (.int (own_get M_1 i))]) (by rcases hw6 with h | ⟨v, h⟩ <;> subst h <;> rfl) k) ?_
      refine own_via (fun t k => XS.iload XJ1.here hx rfl (own_dd D rfl) rfl k) ?_
      refine own_via (fun t k => XS.sipush XJ1.here hx rfl (own_dd D rfl) k) ?_
      show own_H TJ1 20 #[.val (.ref a1), .val (.int i), .val (.ref a2), .val (.int i), .val (.int n1), .val (.int i), .val (.int (own_get M_1 i))] [(.int 255), (.int (own_get M_1 i))]
      refine own_cY XJ1 D rfl (flt hJ.2.2.1).2.2.2 ?_
      refine own_r XJ1 D 4 rfl ?_
      refine own_stBsk XJ1 NJ1 hx hZ eJ1 fJ1_1 g_a2 (own_inn hJ.2.1.1 hJ.1 hL) (own_dd D rfl) fun T2 h2 L2 X2 N2 e2 W2 V2 => ?_
      have f3 := fJ1_0.other W2 ne_a1_a2
      have Kp4 := KJ1.wr W2 (Or.inl own_m0)
      have f5 : own_aB Z h2 a2 k_2 n1 (own_set L i (((own_get M_1 i).toInt8.toInt32).toInt8.toInt32)) := V2
      have Zs6 : n0 ≤ h2.size := by rw [W2.size]; exact ZJ1
      refine own_r X2 D 4 rfl ?_
      exact ih  (i + (1 : Int32)) (own_set L i (((own_get M_1 i).toInt8.toInt32).toInt8.toInt32)) (.val (.int (own_get M_1 i))) _ _ _ X2 N2 e2 Kp4 Zs6 f3 f5 (Or.inr ⟨_, rfl⟩) (own_sl hL _ _) hJ.2.2.2
  exact J1 jj (0 : Int32) L_1 .unset _ _ _ X0 N0 e0 K0 Z0 i_Ac i_Ab (Or.inl rfl) hp_hl hp_ho
abbrev own_c3S_R : Room := { frames := 1, cells := 1, slots := 3, locals := 18 }
theorem own_pn5 : plainFor own_y43 = true := plainFor_of_name (by first | (simp [plainName, overriddenIn]; done) | decide +kernel)
def own_c3S_q (Z : State) (a1 : Addr) (n1 : Int32) (k_1 : ClassId) (M_1 : List Int32) (m1 : Int32) (h0 : Heap) (v : Option Value) (h : Heap) : Prop := ∃ (x : Addr) (kx : ClassId) (L_2 : List Int32), v = some (.ref x) ∧ Keep h0 h [] ∧ h0.size ≤ x ∧ own_aB Z h x kx n1 L_2
theorem own_c3S (hw : own_hw a0 Z) (Z0 : n0 ≤ h0.size) (i_Ac : own_aC Z h0 a1 k_1 m1 M_1) (hp_d0 : ¬ (n1 < (0 : Int32))) (hp_cap : n1.toNatClampNeg ≤ 3) (hp_ho : own_ca M_1 n1 m1 n1.toNatClampNeg (0 : Int32)) :
    own_C l Z own_y43 jdk_52_method_16_code 6 (some (.array .byte)) ws own_c3S_R #[(.ref a1), (.int 0), (.int n1)] h0 (own_W n0 (own_c3S_q Z a1 n1 k_1 M_1 m1 h0)) := by
  refine own_goW own_pn5 own_o5 #[.val (.ref a1), .val (.int 0), .val (.int n1), .unset, .unset, .unset] (fun _ => rfl) fun p e s m below meth c s₁ Bd D hml hZ hown X0 e0 N0 => ?_
  have hx := D.1
  have K0 : Keep h0 h0 [] := Keep.refl h0 _
  refine own_r X0 D 1 rfl ?_
  refine own_newAk X0 hx hZ (own_u hw 23 rfl) e0 (own_dd D rfl) hp_d0 (cap := 3) hp_cap (by decide) (by decide) (by decide) n1.toNatClampNeg rfl fun T1 h1 k1 b1 X1 e1 E1 ga1 V1 Ex1 => ?_
  have sz_b1 := own_ge K0.1 ga1
  have ne2 := own_ne1 i_Ac.lt ga1
  have f3 := i_Ac.ext E1
  have Kp4 := K0.ext E1
  have f5 : Arv Z h1 b1 k1 .byte n1 ((List.replicate n1.toNatClampNeg (0 : Int32)).map Value.int) (.int 0) := by rw [List.map_replicate]; exact V1
  have g_b1 := own_ge Z0 ga1
  have Zs6 := Nat.le_trans Z0 E1.1
  refine own_r X1 D 6 rfl ?_
  refine own_xS X1 N0 D hZ hown hml (own_u hw 24 rfl) (own_K14 hw) (own_c5A (L_1 := (List.replicate n1.toNatClampNeg (0 : Int32))) hw Zs6 f3 f5 g_b1 ne2 List.length_replicate hp_ho) 0 (by decide) e1 rfl rfl ?_
  rintro v7 T7 h7 L7 X7 N7 e7 ⟨L_27, rfl, K7, o7_0⟩
  have Kp9 := Kp4.trans K7 (own_al1 (Or.inr sz_b1))
  refine own_r X7 D 3 rfl ?_
  refine own_cY X7 D rfl (teq rfl).1 ?_
  refine own_r X7 D 1 rfl ?_
  exact own_rA X7 D Bd rfl rfl rfl e7 ⟨N7, b1, k1, L_27, rfl, Kp9, sz_b1, o7_0⟩ (by decide)
abbrev own_c3B_R : Room := { frames := 1, cells := 1, slots := 16385, locals := 18 }
def own_c3B_q (Z : State) (a1 : Addr) (n1 : Int32) (k_1 : ClassId) (M_1 : List Int32) (m1 : Int32) (h0 : Heap) (v : Option Value) (h : Heap) : Prop := ∃ (x : Addr) (kx : ClassId) (L_2 : List Int32), v = some (.ref x) ∧ Keep h0 h [] ∧ h0.size ≤ x ∧ own_aB Z h x kx n1 L_2
theorem own_c3B (hw : own_hw a0 Z) (Z0 : n0 ≤ h0.size) (i_Ac : own_aC Z h0 a1 k_1 m1 M_1) (hp_d0 : ¬ (n1 < (0 : Int32))) (hp_cap : n1.toNatClampNeg ≤ 16385) (hp_ho : own_ca M_1 n1 m1 n1.toNatClampNeg (0 : Int32)) :
    own_C l Z own_y43 jdk_52_method_16_code 6 (some (.array .byte)) ws own_c3B_R #[(.ref a1), (.int 0), (.int n1)] h0 (own_W n0 (own_c3B_q Z a1 n1 k_1 M_1 m1 h0)) := by
  refine own_goW own_pn5 own_o5 #[.val (.ref a1), .val (.int 0), .val (.int n1), .unset, .unset, .unset] (fun _ => rfl) fun p e s m below meth c s₁ Bd D hml hZ hown X0 e0 N0 => ?_
  have hx := D.1
  have K0 : Keep h0 h0 [] := Keep.refl h0 _
  refine own_r X0 D 1 rfl ?_
  refine own_newAk X0 hx hZ (own_u hw 23 rfl) e0 (own_dd D rfl) hp_d0 (cap := 16385) hp_cap (by decide) (by decide) (by decide) n1.toNatClampNeg rfl fun T1 h1 k1 b1 X1 e1 E1 ga1 V1 Ex1 => ?_
  have sz_b1 := own_ge K0.1 ga1
  have ne2 := own_ne1 i_Ac.lt ga1
  have f3 := i_Ac.ext E1
  have Kp4 := K0.ext E1
  have f5 : Arv Z h1 b1 k1 .byte n1 ((List.replicate n1.toNatClampNeg (0 : Int32)).map Value.int) (.int 0) := by rw [List.map_replicate]; exact V1
  have g_b1 := own_ge Z0 ga1
  have Zs6 := Nat.le_trans Z0 E1.1
  refine own_r X1 D 6 rfl ?_
  refine own_xS X1 N0 D hZ hown hml (own_u hw 24 rfl) (own_K14 hw) (own_c5A (L_1 := (List.replicate n1.toNatClampNeg (0 : Int32))) hw Zs6 f3 f5 g_b1 ne2 List.length_replicate hp_ho) 0 (by decide) e1 rfl rfl ?_
  rintro v7 T7 h7 L7 X7 N7 e7 ⟨L_27, rfl, K7, o7_0⟩
  have Kp9 := Kp4.trans K7 (own_al1 (Or.inr sz_b1))
  refine own_r X7 D 3 rfl ?_
  refine own_cY X7 D rfl (teq rfl).1 ?_
  refine own_r X7 D 1 rfl ?_
  exact own_rA X7 D Bd rfl rfl rfl e7 ⟨N7, b1, k1, L_27, rfl, Kp9, sz_b1, o7_0⟩ (by decide)
abbrev own_c3U_R : Room := { frames := 3, cells := 2, slots := 9, locals := 40 }
def own_c3U_q (Z : State) (a1 : Addr) (n1 : Int32) (k_1 : ClassId) (M_1 : List Int32) (m1 : Int32) (r1 : Int32) (jj : Nat) (h0 : Heap) (v : Option Value) (h : Heap) : Prop := ∃ (x : Addr) (kx : ClassId), v = some (.ref x) ∧ Keep h0 h [] ∧ h0.size ≤ x ∧ own_aB Z h x kx (n1 <<< ((1 : Int32) &&& 31)) (own_tbl M_1 n1.toNatClampNeg (0 : Int32) (List.replicate (n1 <<< ((1 : Int32) &&& 31)).toNatClampNeg (0 : Int32)))
theorem own_c3U (hw : own_hw a0 Z) (Z0 : n0 ≤ h0.size) (i_SA : own_eS2 Z h0 (.int 1)) (i_SH : own_eS3 Z h0 (.int 0)) (i_SL : own_eS4 Z h0 (.int 8)) (i_Ac : own_aC Z h0 a1 k_1 m1 M_1) (hp_d0 : ¬ (n1 < (0 : Int32))) (hp_d3 : n1.toNatClampNeg ≤ 3) (hp_hf : own_cf M_1 n1 m1 r1 jj (0 : Int32)) (hp_ht : own_tbo M_1 n1 m1 (n1 <<< ((1 : Int32) &&& 31)) n1.toNatClampNeg (0 : Int32) (List.replicate (n1 <<< ((1 : Int32) &&& 31)).toNatClampNeg (0 : Int32))) (hp_rn : ¬ (r1 = n1)) (hp_j0 : ¬ ((r1 <<< ((1 : Int32) &&& 31)) < (0 : Int32))) (hp_j1 : (r1 <<< ((1 : Int32) &&& 31)) < (n1 <<< ((1 : Int32) &&& 31))) (hp_k0 : ¬ (((r1 <<< ((1 : Int32) &&& 31)) + (1 : Int32)) < (0 : Int32))) (hp_k1 : ((r1 <<< ((1 : Int32) &&& 31)) + (1 : Int32)) < (n1 <<< ((1 : Int32) &&& 31))) (hp_g : (255 : Int32) < (own_gc (own_get (own_tbl M_1 n1.toNatClampNeg (0 : Int32) (List.replicate (n1 <<< ((1 : Int32) &&& 31)).toNatClampNeg (0 : Int32))) (r1 <<< ((1 : Int32) &&& 31))) (own_get (own_tbl M_1 n1.toNatClampNeg (0 : Int32) (List.replicate (n1 <<< ((1 : Int32) &&& 31)).toNatClampNeg (0 : Int32))) ((r1 <<< ((1 : Int32) &&& 31)) + (1 : Int32))))) :
    own_C l Z own_y43 jdk_52_method_16_code 6 (some (.array .byte)) ws own_c3U_R #[(.ref a1), (.int 0), (.int n1)] h0 (own_W n0 (own_c3U_q Z a1 n1 k_1 M_1 m1 r1 jj h0)) := by
  refine own_goW own_pn5 own_o5 #[.val (.ref a1), .val (.int 0), .val (.int n1), .unset, .unset, .unset] (fun _ => rfl) fun p e s m below meth c s₁ Bd D hml hZ hown X0 e0 N0 => ?_
  have hx := D.1
  have K0 : Keep h0 h0 [] := Keep.refl h0 _
  refine own_r X0 D 1 rfl ?_
  refine own_newAk X0 hx hZ (own_u hw 23 rfl) e0 (own_dd D rfl) hp_d0 (cap := 3) hp_d3 (by decide) (by decide) (by decide) n1.toNatClampNeg rfl fun T1 h1 k1 b1 X1 e1 E1 ga1 V1 Ex1 => ?_
  have sz_b1 := own_ge K0.1 ga1
  have ne2 := own_ne1 i_Ac.lt ga1
  have f3 := i_SA.ext E1
  have f4 := i_SH.ext E1
  have f5 := i_SL.ext E1
  have f6 := i_Ac.ext E1
  have Kp7 := K0.ext E1
  have f8 : Arv Z h1 b1 k1 .byte n1 ((List.replicate n1.toNatClampNeg (0 : Int32)).map Value.int) (.int 0) := by rw [List.map_replicate]; exact V1
  have g_b1 := own_ge Z0 ga1
  have Zs9 := Nat.le_trans Z0 E1.1
  refine own_r X1 D 6 rfl ?_
  refine own_xS X1 N0 D hZ hown hml (own_u hw 24 rfl) (own_K14 hw) (own_c5F (L_1 := (List.replicate n1.toNatClampNeg (0 : Int32))) hw Zs9 f6 f8 g_b1 ne2 List.length_replicate hp_hf) 0 (by decide) e1 rfl rfl ?_
  rintro v10 T10 h10 L10 X10 N10 e10 ⟨rfl, K10⟩
  have f11 := own_staK f3 K10 (own_al1 f8.nostat)
  have f12 := own_staK f4 K10 (own_al1 f8.nostat)
  have f13 := own_staK f5 K10 (own_al1 f8.nostat)
  have f14 := f6.keep K10 (own_nm1 ne2)
  have Kp15 := Kp7.trans K10 (own_al1 (Or.inr sz_b1))
  have Zs16 := Nat.le_trans Zs9 K10.1
  refine own_r X10 D 3 rfl ?_
  refine own_cN X10 D rfl (feq hp_rn).1 ?_
  refine own_r X10 D 3 rfl ?_
  refine own_xS X10 N10 D hZ hown hml (own_u hw 139 rfl) (own_K15 hw) (own_tb hw Zs16 f11 f12 f13 f14 hp_d0 hp_d3 hp_ht) 0 (by decide) e10 rfl rfl ?_
  rintro v17 T17 h17 L17 X17 N17 e17 ⟨x17, kx17, rfl, K17, zf_x17, o17_0⟩
  have sz_x17 := Nat.le_trans Kp15.1 zf_x17
  have f19 := f11.ext (own_ke K17)
  have f20 := f12.ext (own_ke K17)
  have f21 := f13.ext (own_ke K17)
  have Kp23 := Kp15.trans K17 (fun x hx => nomatch hx)
  refine own_r X17 D 3 rfl ?_
  refine own_xP X17 D hZ hown hml (own_u hw 155 rfl) (own_K9 hw) (own_gch (L_1 := (own_tbl M_1 n1.toNatClampNeg (0 : Int32) (List.replicate (n1 <<< ((1 : Int32) &&& 31)).toNatClampNeg (0 : Int32)))) (n1 := (n1 <<< ((1 : Int32) &&& 31))) hw f19 f20 f21 o17_0 hp_j0 hp_j1 hp_k0 hp_k1) 0 (by decide) e17 rfl rfl fun T25 X25 e25 => ?_
  refine own_r X25 D 1 rfl ?_
  refine own_cY X25 D rfl (tlt hp_g).2.2.1 ?_
  refine own_r X25 D 1 rfl ?_
  exact own_rA X25 D Bd rfl rfl rfl e25 ⟨N17, x17, kx17, rfl, Kp23, sz_x17, o17_0⟩ (by decide)
theorem own_fc0 (n1 : Int32) : (nar .byte ((((n1 - n1).toUInt32 >>> ((31 : Int32) &&& 31).toUInt32).toInt32).toInt8.toInt32)) = 0 := by
  rw [show n1 - n1 = 0 from by simp]; decide
theorem own_fc1 {n1 : Int32} (h0 : ¬ n1 < 0) (h : n1.toNatClampNeg ≤ 3) (hz : ¬ n1 = 0) : (nar .byte ((((n1 - (n1 <<< ((1 : Int32) &&& 31))).toUInt32 >>> ((31 : Int32) &&& 31).toUInt32).toInt32).toInt8.toInt32)) = 1 := by
  rcases own_three h0 h with rfl | rfl | rfl | rfl
  · exact absurd rfl hz
  all_goals decide
abbrev own_cal_R : Room := { frames := 0, cells := 0, slots := 0, locals := 0 }
theorem own_pn7 : plainFor own_y42 = true := plainFor_of_name (by first | (simp [plainName, overriddenIn]; done) | decide +kernel)
theorem own_cal (hw : own_hw a0 Z) (i_Ab : own_aB Z h0 a1 k_1 n1 L_1) :
    own_C l Z own_y42 jdk_52_method_15_code 2 (some .byte) ws own_cal_R #[(.ref a1), (.int j1)] h0 (own_Q (.int (nar .byte ((((j1 - n1).toUInt32 >>> ((31 : Int32) &&& 31).toUInt32).toInt32).toInt8.toInt32))) h0) := by
  refine own_go own_pn7 own_o7 #[.val (.ref a1), .val (.int j1)] (fun _ => rfl) fun p e s m below meth c s₁ Bd D hml hZ hown X0 e0 => ?_
  have hx := D.1
  refine own_r X0 D 2 rfl ?_
  refine own_via (own_len X0 hx hZ e0 i_Ab (own_dd D rfl)) ?_
  refine own_r X0 D 4 rfl ?_
  exact own_retN (t := .byte) X0 hx Bd.returns (by simp) Bd.notSynchronized (own_dd D rfl) ⟨rfl, rfl, e0⟩ (by decide) (by decide)
abbrev own_viS_R : Room := { frames := 2, cells := 1, slots := 3, locals := 35 }
theorem own_pn3 : plainFor own_y23 = true := plainFor_of_name (by first | (simp [plainName, overriddenIn]; done) | decide +kernel)
def own_viS_q (Z : State) (a1 : Addr) (a2 : Addr) (n1 : Int32) (cs : Int32) (u1 : Value) (u2 : Value) (k_1 : ClassId) (M_1 : List Int32) (m1 : Int32) (h0 : Heap) (v : Option Value) (h : Heap) : Prop := ∃ (x : Addr) (kx : ClassId) (L_2 : List Int32), v = none ∧ Keep h0 h [a1] ∧ h0.size ≤ x ∧ Exa Z h a1 own_cS ∧ own_eF10 Z h a1 (.ref x) ∧ own_eF9 Z h a1 (.int 0) ∧ own_aB Z h x kx n1 L_2
theorem own_viS (hw : own_hw a0 Z) (Z0 : n0 ≤ h0.size) (i_SC : own_eS1 Z h0 (.int cs)) (i_Es : Exa Z h0 a1 own_cS) (i_Fv : own_eF10 Z h0 a1 u1) (i_Fc : own_eF9 Z h0 a1 u2) (i_Ac : own_aC Z h0 a2 k_1 m1 M_1) (g_a1 : n0 ≤ a1) (ne_a1_a2 : a1 ≠ a2) (hp_cs : ¬ (cs = (0 : Int32))) (hp_z : ¬ (n1 = (0 : Int32))) (hp_d0 : ¬ (n1 < (0 : Int32))) (hp_cap : n1.toNatClampNeg ≤ 3) (hp_ho : own_ca M_1 n1 m1 n1.toNatClampNeg (0 : Int32)) :
    own_C l Z own_y23 jdk_42_method_149_code 6 none ws own_viS_R #[(.ref a1), (.ref a2), (.int 0), (.int n1), .null] h0 (own_W n0 (own_viS_q Z a1 a2 n1 cs u1 u2 k_1 M_1 m1 h0)) := by
  refine own_goW own_pn3 own_o3 #[.val (.ref a1), .val (.ref a2), .val (.int 0), .val (.int n1), .val .null, .unset] (fun _ => rfl) fun p e s m below meth c s₁ Bd D hml hZ hown X0 e0 N0 => ?_
  have hx := D.1
  have hnm := (name_of_methodNamed Bd.named Bd.method).1
  have K0 : Keep h0 h0 [a1] := Keep.refl h0 _
  refine own_r X0 D 1 rfl ?_
  obtain ⟨T1, X1, e1, st1⟩ := initO X0 hx hZ hown (own_u hw 15 rfl) (own_u hw 16 rfl) (own_u hw 17 rfl) e0 (g := (mkF m 1 #[.val (.ref a1), .val (.ref a2), .val (.int 0), .val (.int n1), .val .null, .unset] [(.ref a1)])) rfl (by rw [hml]; rfl) rfl (own_dd D rfl) (by decide) (W := 0) (by show 2 * 0 + _ ≤ _; exact Nat.le_of_eq rfl) (by decide)
  refine own_via st1 ?_
  show own_H T1 4 #[.val (.ref a1), .val (.ref a2), .val (.int 0), .val (.int n1), .val .null, .unset] []
  refine own_r X1 D 1 rfl ?_
  refine own_fY X1 D rfl (feq hp_z).2 ?_
  refine own_gS X1 D hZ hown (own_u hw 18 rfl) e1 i_SC rfl fun T2 X2 e2 => ?_
  refine own_fN X2 D rfl (feq hp_cs).1 ?_
  refine own_r X2 D 3 rfl ?_
  refine own_xS X2 N0 D hZ hown hml (own_u hw 19 rfl) (own_K16 hw) (own_c3S hw Z0 i_Ac hp_d0 hp_cap hp_ho) 0 (by decide) e2 rfl rfl ?_
  rintro v3 T3 h3 L3 X3 N3 e3 ⟨x3, kx3, L_23, rfl, K3, zf_x3, o3_0⟩
  have ne4 := own_ne2 i_Es.lt zf_x3
  have sz_x3 := Nat.le_trans K0.1 zf_x3
  have f7 := i_Es.ext (own_ke K3)
  have f8 := i_Fv.ext (own_ke K3)
  have f9 := i_Fc.ext (own_ke K3)
  have Kp11 := K0.trans K3 (fun x hx => nomatch hx)
  refine own_r X3 D 4 rfl ?_
  refine own_xP X3 D hZ hown hml (own_u hw 27 rfl) (own_K17 hw) (own_cal hw o3_0) 1 (by decide) e3 rfl rfl fun T13 X13 e13 => ?_
  show own_H T13 48 #[.val (.ref a1), .val (.ref a2), .val (.int 0), .val (.int n1), .val .null, .val (.ref x3)] [(.int (nar .byte ((((n1 - n1).toUInt32 >>> ((31 : Int32) &&& 31).toUInt32).toInt32).toInt8.toInt32))), (.ref a1)]
  rw [show (nar .byte ((((n1 - n1).toUInt32 >>> ((31 : Int32) &&& 31).toUInt32).toInt32).toInt8.toInt32)) = (0 : Int32) from (own_fc0 n1)]
  refine own_putFNk X13 N3 hx hZ hown (own_u hw 30 rfl) e13 f9 f7 (Or.inr ⟨(own_u hw 31 rfl), rfl, hnm⟩) (own_u hw 5 rfl) g_a1 (ty := .byte) (by decide) rfl (by decide) (own_dd D rfl) fun T14 h14 L14 X14 N14 e14 W14 F14 => ?_
  have f16 := f7.wr W14
  have f17 := f8.other W14 (Or.inr (slot_ne (Or.inr (own_u hw 33 rfl)) (Or.inr (own_u hw 31 rfl)) (by decide) rfl rfl))
  have f19 := o3_0.other W14 (Ne.symm ne4)
  have Kp20 := Kp11.wr W14 (Or.inl own_m0)
  refine own_r X14 D 2 rfl ?_
  refine own_putFk X14 N14 hx hZ hown (own_u hw 32 rfl) e14 f17 f16 (Or.inr ⟨(own_u hw 33 rfl), rfl, hnm⟩) (own_u hw 5 rfl) g_a1 (ty := (.array .byte)) (by decide) rfl rfl (own_dd D rfl) fun T22 h22 L22 X22 N22 e22 W22 F22 => ?_
  have f24 := f16.wr W22
  have f26 := f19.other W22 (Ne.symm ne4)
  have f27 := F14.other W22 (Or.inr (slot_ne (Or.inr (own_u hw 31 rfl)) (Or.inr (own_u hw 33 rfl)) (by decide) rfl rfl))
  have Kp28 := Kp20.wr W22 (Or.inl own_m0)
  exact own_rV X22 D Bd rfl e22 ⟨N22, x3, kx3, L_23, rfl, Kp28, sz_x3, f24, F22, f27, f26⟩ (by decide)
abbrev own_ccS_R : Room := { frames := 3, cells := 1, slots := 3, locals := 52 }
theorem own_pn2 : plainFor own_y21 = true := plainFor_of_name (by first | (simp [plainName, overriddenIn]; done) | decide +kernel)
def own_ccS_q (Z : State) (a1 : Addr) (a2 : Addr) (cs : Int32) (u1 : Value) (u2 : Value) (k_1 : ClassId) (M_1 : List Int32) (n1 : Int32) (h0 : Heap) (v : Option Value) (h : Heap) : Prop := ∃ (x : Addr) (kx : ClassId) (L_2 : List Int32), v = none ∧ Keep h0 h [a1] ∧ h0.size ≤ x ∧ Exa Z h a1 own_cS ∧ own_eF10 Z h a1 (.ref x) ∧ own_eF9 Z h a1 (.int 0) ∧ own_aB Z h x kx n1 L_2
theorem own_ccS (hw : own_hw a0 Z) (Z0 : n0 ≤ h0.size) (i_SC : own_eS1 Z h0 (.int cs)) (i_Es : Exa Z h0 a1 own_cS) (i_Fv : own_eF10 Z h0 a1 u1) (i_Fc : own_eF9 Z h0 a1 u2) (i_Ac : own_aC Z h0 a2 k_1 n1 M_1) (g_a1 : n0 ≤ a1) (ne_a1_a2 : a1 ≠ a2) (hp_cs : ¬ (cs = (0 : Int32))) (hp_z : ¬ (n1 = (0 : Int32))) (hp_d0 : ¬ (n1 < (0 : Int32))) (hp_cap : n1.toNatClampNeg ≤ 3) (hp_ho : own_ca M_1 n1 n1 n1.toNatClampNeg (0 : Int32)) :
    own_C l Z own_y21 jdk_42_method_3_code 2 none ws own_ccS_R #[(.ref a1), (.ref a2)] h0 (own_W n0 (own_ccS_q Z a1 a2 cs u1 u2 k_1 M_1 n1 h0)) := by
  refine own_goW own_pn2 own_o2 #[.val (.ref a1), .val (.ref a2)] (fun _ => rfl) fun p e s m below meth c s₁ Bd D hml hZ hown X0 e0 N0 => ?_
  have hx := D.1
  have K0 : Keep h0 h0 [a1] := Keep.refl h0 _
  refine own_r X0 D 4 rfl ?_
  refine own_via (own_len X0 hx hZ e0 i_Ac (own_dd D rfl)) ?_
  refine own_r X0 D 1 rfl ?_
  refine own_xI X0 N0 D hZ hown hml (own_u hw 11 rfl) (own_K18 hw) (own_viS hw Z0 i_SC i_Es i_Fv i_Fc i_Ac g_a1 ne_a1_a2 hp_cs hp_z hp_d0 hp_cap hp_ho) 0 (by decide) e0 rfl rfl ?_
  rintro v1 T1 h1 L1 X1 N1 e1 ⟨x1, kx1, L_21, rfl, K1, zf_x1, o1_0, o1_1, o1_2, o1_3⟩
  have sz_x1 := Nat.le_trans K0.1 zf_x1
  have Kp7 := K0.trans K1 (own_al1 (Or.inl own_m0))
  exact own_rV X1 D Bd rfl e1 ⟨N1, x1, kx1, L_21, rfl, Kp7, sz_x1, o1_0, o1_1, o1_2, o1_3⟩ (by decide)
abbrev own_viB_R : Room := { frames := 2, cells := 1, slots := 16385, locals := 35 }
def own_viB_q (Z : State) (a1 : Addr) (a2 : Addr) (n1 : Int32) (cs : Int32) (u1 : Value) (u2 : Value) (k_1 : ClassId) (M_1 : List Int32) (m1 : Int32) (h0 : Heap) (v : Option Value) (h : Heap) : Prop := ∃ (x : Addr) (kx : ClassId) (L_2 : List Int32), v = none ∧ Keep h0 h [a1] ∧ h0.size ≤ x ∧ Exa Z h a1 own_cS ∧ own_eF10 Z h a1 (.ref x) ∧ own_eF9 Z h a1 (.int 0) ∧ own_aB Z h x kx n1 L_2
theorem own_viB (hw : own_hw a0 Z) (Z0 : n0 ≤ h0.size) (i_SC : own_eS1 Z h0 (.int cs)) (i_Es : Exa Z h0 a1 own_cS) (i_Fv : own_eF10 Z h0 a1 u1) (i_Fc : own_eF9 Z h0 a1 u2) (i_Ac : own_aC Z h0 a2 k_1 m1 M_1) (g_a1 : n0 ≤ a1) (ne_a1_a2 : a1 ≠ a2) (hp_cs : ¬ (cs = (0 : Int32))) (hp_z : ¬ (n1 = (0 : Int32))) (hp_d0 : ¬ (n1 < (0 : Int32))) (hp_cap : n1.toNatClampNeg ≤ 16385) (hp_ho : own_ca M_1 n1 m1 n1.toNatClampNeg (0 : Int32)) :
    own_C l Z own_y23 jdk_42_method_149_code 6 none ws own_viB_R #[(.ref a1), (.ref a2), (.int 0), (.int n1), .null] h0 (own_W n0 (own_viB_q Z a1 a2 n1 cs u1 u2 k_1 M_1 m1 h0)) := by
  refine own_goW own_pn3 own_o3 #[.val (.ref a1), .val (.ref a2), .val (.int 0), .val (.int n1), .val .null, .unset] (fun _ => rfl) fun p e s m below meth c s₁ Bd D hml hZ hown X0 e0 N0 => ?_
  have hx := D.1
  have hnm := (name_of_methodNamed Bd.named Bd.method).1
  have K0 : Keep h0 h0 [a1] := Keep.refl h0 _
  refine own_r X0 D 1 rfl ?_
  obtain ⟨T1, X1, e1, st1⟩ := initO X0 hx hZ hown (own_u hw 15 rfl) (own_u hw 16 rfl) (own_u hw 17 rfl) e0 (g := (mkF m 1 #[.val (.ref a1), .val (.ref a2), .val (.int 0), .val (.int n1), .val .null, .unset] [(.ref a1)])) rfl (by rw [hml]; rfl) rfl (own_dd D rfl) (by decide) (W := 0) (by show 2 * 0 + _ ≤ _; exact Nat.le_of_eq rfl) (by decide)
  refine own_via st1 ?_
  show own_H T1 4 #[.val (.ref a1), .val (.ref a2), .val (.int 0), .val (.int n1), .val .null, .unset] []
  refine own_r X1 D 1 rfl ?_
  refine own_fY X1 D rfl (feq hp_z).2 ?_
  refine own_gS X1 D hZ hown (own_u hw 18 rfl) e1 i_SC rfl fun T2 X2 e2 => ?_
  refine own_fN X2 D rfl (feq hp_cs).1 ?_
  refine own_r X2 D 3 rfl ?_
  refine own_xS X2 N0 D hZ hown hml (own_u hw 19 rfl) (own_K16 hw) (own_c3B hw Z0 i_Ac hp_d0 hp_cap hp_ho) 0 (by decide) e2 rfl rfl ?_
  rintro v3 T3 h3 L3 X3 N3 e3 ⟨x3, kx3, L_23, rfl, K3, zf_x3, o3_0⟩
  have ne4 := own_ne2 i_Es.lt zf_x3
  have sz_x3 := Nat.le_trans K0.1 zf_x3
  have f7 := i_Es.ext (own_ke K3)
  have f8 := i_Fv.ext (own_ke K3)
  have f9 := i_Fc.ext (own_ke K3)
  have Kp11 := K0.trans K3 (fun x hx => nomatch hx)
  refine own_r X3 D 4 rfl ?_
  refine own_xP X3 D hZ hown hml (own_u hw 27 rfl) (own_K17 hw) (own_cal hw o3_0) 1 (by decide) e3 rfl rfl fun T13 X13 e13 => ?_
  show own_H T13 48 #[.val (.ref a1), .val (.ref a2), .val (.int 0), .val (.int n1), .val .null, .val (.ref x3)] [(.int (nar .byte ((((n1 - n1).toUInt32 >>> ((31 : Int32) &&& 31).toUInt32).toInt32).toInt8.toInt32))), (.ref a1)]
  rw [show (nar .byte ((((n1 - n1).toUInt32 >>> ((31 : Int32) &&& 31).toUInt32).toInt32).toInt8.toInt32)) = (0 : Int32) from (own_fc0 n1)]
  refine own_putFNk X13 N3 hx hZ hown (own_u hw 30 rfl) e13 f9 f7 (Or.inr ⟨(own_u hw 31 rfl), rfl, hnm⟩) (own_u hw 5 rfl) g_a1 (ty := .byte) (by decide) rfl (by decide) (own_dd D rfl) fun T14 h14 L14 X14 N14 e14 W14 F14 => ?_
  have f16 := f7.wr W14
  have f17 := f8.other W14 (Or.inr (slot_ne (Or.inr (own_u hw 33 rfl)) (Or.inr (own_u hw 31 rfl)) (by decide) rfl rfl))
  have f19 := o3_0.other W14 (Ne.symm ne4)
  have Kp20 := Kp11.wr W14 (Or.inl own_m0)
  refine own_r X14 D 2 rfl ?_
  refine own_putFk X14 N14 hx hZ hown (own_u hw 32 rfl) e14 f17 f16 (Or.inr ⟨(own_u hw 33 rfl), rfl, hnm⟩) (own_u hw 5 rfl) g_a1 (ty := (.array .byte)) (by decide) rfl rfl (own_dd D rfl) fun T22 h22 L22 X22 N22 e22 W22 F22 => ?_
  have f24 := f16.wr W22
  have f26 := f19.other W22 (Ne.symm ne4)
  have f27 := F14.other W22 (Or.inr (slot_ne (Or.inr (own_u hw 31 rfl)) (Or.inr (own_u hw 33 rfl)) (by decide) rfl rfl))
  have Kp28 := Kp20.wr W22 (Or.inl own_m0)
  exact own_rV X22 D Bd rfl e22 ⟨N22, x3, kx3, L_23, rfl, Kp28, sz_x3, f24, F22, f27, f26⟩ (by decide)
abbrev own_ccB_R : Room := { frames := 3, cells := 1, slots := 16385, locals := 52 }
def own_ccB_q (Z : State) (a1 : Addr) (a2 : Addr) (cs : Int32) (u1 : Value) (u2 : Value) (k_1 : ClassId) (M_1 : List Int32) (n1 : Int32) (h0 : Heap) (v : Option Value) (h : Heap) : Prop := ∃ (x : Addr) (kx : ClassId) (L_2 : List Int32), v = none ∧ Keep h0 h [a1] ∧ h0.size ≤ x ∧ Exa Z h a1 own_cS ∧ own_eF10 Z h a1 (.ref x) ∧ own_eF9 Z h a1 (.int 0) ∧ own_aB Z h x kx n1 L_2
theorem own_ccB (hw : own_hw a0 Z) (Z0 : n0 ≤ h0.size) (i_SC : own_eS1 Z h0 (.int cs)) (i_Es : Exa Z h0 a1 own_cS) (i_Fv : own_eF10 Z h0 a1 u1) (i_Fc : own_eF9 Z h0 a1 u2) (i_Ac : own_aC Z h0 a2 k_1 n1 M_1) (g_a1 : n0 ≤ a1) (ne_a1_a2 : a1 ≠ a2) (hp_cs : ¬ (cs = (0 : Int32))) (hp_z : ¬ (n1 = (0 : Int32))) (hp_d0 : ¬ (n1 < (0 : Int32))) (hp_cap : n1.toNatClampNeg ≤ 16385) (hp_ho : own_ca M_1 n1 n1 n1.toNatClampNeg (0 : Int32)) :
    own_C l Z own_y21 jdk_42_method_3_code 2 none ws own_ccB_R #[(.ref a1), (.ref a2)] h0 (own_W n0 (own_ccB_q Z a1 a2 cs u1 u2 k_1 M_1 n1 h0)) := by
  refine own_goW own_pn2 own_o2 #[.val (.ref a1), .val (.ref a2)] (fun _ => rfl) fun p e s m below meth c s₁ Bd D hml hZ hown X0 e0 N0 => ?_
  have hx := D.1
  have K0 : Keep h0 h0 [a1] := Keep.refl h0 _
  refine own_r X0 D 4 rfl ?_
  refine own_via (own_len X0 hx hZ e0 i_Ac (own_dd D rfl)) ?_
  refine own_r X0 D 1 rfl ?_
  refine own_xI X0 N0 D hZ hown hml (own_u hw 11 rfl) (own_K18 hw) (own_viB hw Z0 i_SC i_Es i_Fv i_Fc i_Ac g_a1 ne_a1_a2 hp_cs hp_z hp_d0 hp_cap hp_ho) 0 (by decide) e0 rfl rfl ?_
  rintro v1 T1 h1 L1 X1 N1 e1 ⟨x1, kx1, L_21, rfl, K1, zf_x1, o1_0, o1_1, o1_2, o1_3⟩
  have sz_x1 := Nat.le_trans K0.1 zf_x1
  have Kp7 := K0.trans K1 (own_al1 (Or.inl own_m0))
  exact own_rV X1 D Bd rfl e1 ⟨N1, x1, kx1, L_21, rfl, Kp7, sz_x1, o1_0, o1_1, o1_2, o1_3⟩ (by decide)
abbrev own_viU_R : Room := { frames := 4, cells := 2, slots := 9, locals := 57 }
def own_viU_q (Z : State) (a1 : Addr) (a2 : Addr) (n1 : Int32) (cs : Int32) (u1 : Value) (u2 : Value) (k_1 : ClassId) (M_1 : List Int32) (m1 : Int32) (r1 : Int32) (jj : Nat) (h0 : Heap) (v : Option Value) (h : Heap) : Prop := ∃ (x : Addr) (kx : ClassId), v = none ∧ Keep h0 h [a1] ∧ h0.size ≤ x ∧ Exa Z h a1 own_cS ∧ own_eF10 Z h a1 (.ref x) ∧ own_eF9 Z h a1 (.int 1) ∧ own_aB Z h x kx (n1 <<< ((1 : Int32) &&& 31)) (own_tbl M_1 n1.toNatClampNeg (0 : Int32) (List.replicate (n1 <<< ((1 : Int32) &&& 31)).toNatClampNeg (0 : Int32)))
theorem own_viU (hw : own_hw a0 Z) (Z0 : n0 ≤ h0.size) (i_SC : own_eS1 Z h0 (.int cs)) (i_Es : Exa Z h0 a1 own_cS) (i_Fv : own_eF10 Z h0 a1 u1) (i_Fc : own_eF9 Z h0 a1 u2) (i_SA : own_eS2 Z h0 (.int 1)) (i_SH : own_eS3 Z h0 (.int 0)) (i_SL : own_eS4 Z h0 (.int 8)) (i_Ac : own_aC Z h0 a2 k_1 m1 M_1) (g_a1 : n0 ≤ a1) (ne_a1_a2 : a1 ≠ a2) (hp_cs : ¬ (cs = (0 : Int32))) (hp_z : ¬ (n1 = (0 : Int32))) (hp_d0 : ¬ (n1 < (0 : Int32))) (hp_d3 : n1.toNatClampNeg ≤ 3) (hp_hf : own_cf M_1 n1 m1 r1 jj (0 : Int32)) (hp_ht : own_tbo M_1 n1 m1 (n1 <<< ((1 : Int32) &&& 31)) n1.toNatClampNeg (0 : Int32) (List.replicate (n1 <<< ((1 : Int32) &&& 31)).toNatClampNeg (0 : Int32))) (hp_rn : ¬ (r1 = n1)) (hp_j0 : ¬ ((r1 <<< ((1 : Int32) &&& 31)) < (0 : Int32))) (hp_j1 : (r1 <<< ((1 : Int32) &&& 31)) < (n1 <<< ((1 : Int32) &&& 31))) (hp_k0 : ¬ (((r1 <<< ((1 : Int32) &&& 31)) + (1 : Int32)) < (0 : Int32))) (hp_k1 : ((r1 <<< ((1 : Int32) &&& 31)) + (1 : Int32)) < (n1 <<< ((1 : Int32) &&& 31))) (hp_g : (255 : Int32) < (own_gc (own_get (own_tbl M_1 n1.toNatClampNeg (0 : Int32) (List.replicate (n1 <<< ((1 : Int32) &&& 31)).toNatClampNeg (0 : Int32))) (r1 <<< ((1 : Int32) &&& 31))) (own_get (own_tbl M_1 n1.toNatClampNeg (0 : Int32) (List.replicate (n1 <<< ((1 : Int32) &&& 31)).toNatClampNeg (0 : Int32))) ((r1 <<< ((1 : Int32) &&& 31)) + (1 : Int32))))) :
    own_C l Z own_y23 jdk_42_method_149_code 6 none ws own_viU_R #[(.ref a1), (.ref a2), (.int 0), (.int n1), .null] h0 (own_W n0 (own_viU_q Z a1 a2 n1 cs u1 u2 k_1 M_1 m1 r1 jj h0)) := by
  refine own_goW own_pn3 own_o3 #[.val (.ref a1), .val (.ref a2), .val (.int 0), .val (.int n1), .val .null, .unset] (fun _ => rfl) fun p e s m below meth c s₁ Bd D hml hZ hown X0 e0 N0 => ?_
  have hx := D.1
  have hnm := (name_of_methodNamed Bd.named Bd.method).1
  have K0 : Keep h0 h0 [a1] := Keep.refl h0 _
  refine own_r X0 D 1 rfl ?_
  obtain ⟨T1, X1, e1, st1⟩ := initO X0 hx hZ hown (own_u hw 15 rfl) (own_u hw 16 rfl) (own_u hw 17 rfl) e0 (g := (mkF m 1 #[.val (.ref a1), .val (.ref a2), .val (.int 0), .val (.int n1), .val .null, .unset] [(.ref a1)])) rfl (by rw [hml]; rfl) rfl (own_dd D rfl) (by decide) (W := 0) (by show 2 * 0 + _ ≤ _; exact Nat.le_of_eq rfl) (by decide)
  refine own_via st1 ?_
  show own_H T1 4 #[.val (.ref a1), .val (.ref a2), .val (.int 0), .val (.int n1), .val .null, .unset] []
  refine own_r X1 D 1 rfl ?_
  refine own_fY X1 D rfl (feq hp_z).2 ?_
  refine own_gS X1 D hZ hown (own_u hw 18 rfl) e1 i_SC rfl fun T2 X2 e2 => ?_
  refine own_fN X2 D rfl (feq hp_cs).1 ?_
  refine own_r X2 D 3 rfl ?_
  refine own_xS X2 N0 D hZ hown hml (own_u hw 19 rfl) (own_K16 hw) (own_c3U hw Z0 i_SA i_SH i_SL i_Ac hp_d0 hp_d3 hp_hf hp_ht hp_rn hp_j0 hp_j1 hp_k0 hp_k1 hp_g) 0 (by decide) e2 rfl rfl ?_
  rintro v3 T3 h3 L3 X3 N3 e3 ⟨x3, kx3, rfl, K3, zf_x3, o3_0⟩
  have ne4 := own_ne2 i_Es.lt zf_x3
  have sz_x3 := Nat.le_trans K0.1 zf_x3
  have f7 := i_Es.ext (own_ke K3)
  have f8 := i_Fv.ext (own_ke K3)
  have f9 := i_Fc.ext (own_ke K3)
  have Kp14 := K0.trans K3 (fun x hx => nomatch hx)
  refine own_r X3 D 4 rfl ?_
  refine own_xP X3 D hZ hown hml (own_u hw 27 rfl) (own_K17 hw) (own_cal (L_1 := (own_tbl M_1 n1.toNatClampNeg (0 : Int32) (List.replicate (n1 <<< ((1 : Int32) &&& 31)).toNatClampNeg (0 : Int32)))) (n1 := (n1 <<< ((1 : Int32) &&& 31))) hw o3_0) 1 (by decide) e3 rfl rfl fun T16 X16 e16 => ?_
  show own_H T16 48 #[.val (.ref a1), .val (.ref a2), .val (.int 0), .val (.int n1), .val .null, .val (.ref x3)] [(.int (nar .byte ((((n1 - (n1 <<< ((1 : Int32) &&& 31))).toUInt32 >>> ((31 : Int32) &&& 31).toUInt32).toInt32).toInt8.toInt32))), (.ref a1)]
  rw [show (nar .byte ((((n1 - (n1 <<< ((1 : Int32) &&& 31))).toUInt32 >>> ((31 : Int32) &&& 31).toUInt32).toInt32).toInt8.toInt32)) = (1 : Int32) from (own_fc1 hp_d0 hp_d3 hp_z)]
  refine own_putFNk X16 N3 hx hZ hown (own_u hw 30 rfl) e16 f9 f7 (Or.inr ⟨(own_u hw 31 rfl), rfl, hnm⟩) (own_u hw 5 rfl) g_a1 (ty := .byte) (by decide) rfl (by decide) (own_dd D rfl) fun T17 h17 L17 X17 N17 e17 W17 F17 => ?_
  have f19 := f7.wr W17
  have f20 := f8.other W17 (Or.inr (slot_ne (Or.inr (own_u hw 33 rfl)) (Or.inr (own_u hw 31 rfl)) (by decide) rfl rfl))
  have f25 := o3_0.other W17 (Ne.symm ne4)
  have Kp26 := Kp14.wr W17 (Or.inl own_m0)
  refine own_r X17 D 2 rfl ?_
  refine own_putFk X17 N17 hx hZ hown (own_u hw 32 rfl) e17 f20 f19 (Or.inr ⟨(own_u hw 33 rfl), rfl, hnm⟩) (own_u hw 5 rfl) g_a1 (ty := (.array .byte)) (by decide) rfl rfl (own_dd D rfl) fun T28 h28 L28 X28 N28 e28 W28 F28 => ?_
  have f30 := f19.wr W28
  have f35 := f25.other W28 (Ne.symm ne4)
  have f36 := F17.other W28 (Or.inr (slot_ne (Or.inr (own_u hw 31 rfl)) (Or.inr (own_u hw 33 rfl)) (by decide) rfl rfl))
  have Kp37 := Kp26.wr W28 (Or.inl own_m0)
  exact own_rV X28 D Bd rfl e28 ⟨N28, x3, kx3, rfl, Kp37, sz_x3, f30, F28, f36, f35⟩ (by decide)
abbrev own_ccU_R : Room := { frames := 5, cells := 2, slots := 9, locals := 74 }
def own_ccU_q (Z : State) (a1 : Addr) (a2 : Addr) (cs : Int32) (u1 : Value) (u2 : Value) (k_1 : ClassId) (M_1 : List Int32) (n1 : Int32) (r1 : Int32) (jj : Nat) (h0 : Heap) (v : Option Value) (h : Heap) : Prop := ∃ (x : Addr) (kx : ClassId), v = none ∧ Keep h0 h [a1] ∧ h0.size ≤ x ∧ Exa Z h a1 own_cS ∧ own_eF10 Z h a1 (.ref x) ∧ own_eF9 Z h a1 (.int 1) ∧ own_aB Z h x kx (n1 <<< ((1 : Int32) &&& 31)) (own_tbl M_1 n1.toNatClampNeg (0 : Int32) (List.replicate (n1 <<< ((1 : Int32) &&& 31)).toNatClampNeg (0 : Int32)))
theorem own_ccU (hw : own_hw a0 Z) (Z0 : n0 ≤ h0.size) (i_SC : own_eS1 Z h0 (.int cs)) (i_Es : Exa Z h0 a1 own_cS) (i_Fv : own_eF10 Z h0 a1 u1) (i_Fc : own_eF9 Z h0 a1 u2) (i_SA : own_eS2 Z h0 (.int 1)) (i_SH : own_eS3 Z h0 (.int 0)) (i_SL : own_eS4 Z h0 (.int 8)) (i_Ac : own_aC Z h0 a2 k_1 n1 M_1) (g_a1 : n0 ≤ a1) (ne_a1_a2 : a1 ≠ a2) (hp_cs : ¬ (cs = (0 : Int32))) (hp_z : ¬ (n1 = (0 : Int32))) (hp_d0 : ¬ (n1 < (0 : Int32))) (hp_d3 : n1.toNatClampNeg ≤ 3) (hp_hf : own_cf M_1 n1 n1 r1 jj (0 : Int32)) (hp_ht : own_tbo M_1 n1 n1 (n1 <<< ((1 : Int32) &&& 31)) n1.toNatClampNeg (0 : Int32) (List.replicate (n1 <<< ((1 : Int32) &&& 31)).toNatClampNeg (0 : Int32))) (hp_rn : ¬ (r1 = n1)) (hp_j0 : ¬ ((r1 <<< ((1 : Int32) &&& 31)) < (0 : Int32))) (hp_j1 : (r1 <<< ((1 : Int32) &&& 31)) < (n1 <<< ((1 : Int32) &&& 31))) (hp_k0 : ¬ (((r1 <<< ((1 : Int32) &&& 31)) + (1 : Int32)) < (0 : Int32))) (hp_k1 : ((r1 <<< ((1 : Int32) &&& 31)) + (1 : Int32)) < (n1 <<< ((1 : Int32) &&& 31))) (hp_g : (255 : Int32) < (own_gc (own_get (own_tbl M_1 n1.toNatClampNeg (0 : Int32) (List.replicate (n1 <<< ((1 : Int32) &&& 31)).toNatClampNeg (0 : Int32))) (r1 <<< ((1 : Int32) &&& 31))) (own_get (own_tbl M_1 n1.toNatClampNeg (0 : Int32) (List.replicate (n1 <<< ((1 : Int32) &&& 31)).toNatClampNeg (0 : Int32))) ((r1 <<< ((1 : Int32) &&& 31)) + (1 : Int32))))) :
    own_C l Z own_y21 jdk_42_method_3_code 2 none ws own_ccU_R #[(.ref a1), (.ref a2)] h0 (own_W n0 (own_ccU_q Z a1 a2 cs u1 u2 k_1 M_1 n1 r1 jj h0)) := by
  refine own_goW own_pn2 own_o2 #[.val (.ref a1), .val (.ref a2)] (fun _ => rfl) fun p e s m below meth c s₁ Bd D hml hZ hown X0 e0 N0 => ?_
  have hx := D.1
  have K0 : Keep h0 h0 [a1] := Keep.refl h0 _
  refine own_r X0 D 4 rfl ?_
  refine own_via (own_len X0 hx hZ e0 i_Ac (own_dd D rfl)) ?_
  refine own_r X0 D 1 rfl ?_
  refine own_xI X0 N0 D hZ hown hml (own_u hw 11 rfl) (own_K18 hw) (own_viU hw Z0 i_SC i_Es i_Fv i_Fc i_SA i_SH i_SL i_Ac g_a1 ne_a1_a2 hp_cs hp_z hp_d0 hp_d3 hp_hf hp_ht hp_rn hp_j0 hp_j1 hp_k0 hp_k1 hp_g) 0 (by decide) e0 rfl rfl ?_
  rintro v1 T1 h1 L1 X1 N1 e1 ⟨x1, kx1, rfl, K1, zf_x1, o1_0, o1_1, o1_2, o1_3⟩
  have sz_x1 := Nat.le_trans K0.1 zf_x1
  have Kp10 := K0.trans K1 (own_al1 (Or.inl own_m0))
  exact own_rV X1 D Bd rfl e1 ⟨N1, x1, kx1, rfl, Kp10, sz_x1, o1_0, o1_1, o1_2, o1_3⟩ (by decide)
abbrev own_len1_R : Room := { frames := 1, cells := 0, slots := 0, locals := 13 }
theorem own_len1 (hw : own_hw a0 Z) (i_SC : own_eS1 Z h0 (.int cs)) (i_Es : Exa Z h0 a1 own_cS) (i_Fv : own_eF10 Z h0 a1 (.ref b_1)) (i_Fc : own_eF9 Z h0 a1 (.int 1)) (i_Ab : own_aB Z h0 b_1 k_1 (n1 <<< ((1 : Int32) &&& 31)) L_1) (hp_cs : ¬ (cs = (0 : Int32))) (hp_d0 : ¬ (n1 < (0 : Int32))) (hp_d3 : n1.toNatClampNeg ≤ 3) :
    own_C l Z own_y32 jdk_42_method_54_code 1 (some .int) ws own_len1_R #[(.ref a1)] h0 (own_Q (.int n1) h0) := by
  refine own_go own_pn11 own_o11 #[.val (.ref a1)] (fun _ => rfl) fun p e s m below meth c s₁ Bd D hml hZ hown X0 e0 => ?_
  have hx := D.1
  refine own_r X0 D 1 rfl ?_
  refine own_gF X0 D hZ hown (own_u hw 32 rfl) Via.refl e0 i_Fv rfl fun T1 X1 e1 => ?_
  refine own_via (own_len X1 hx hZ e1 i_Ab (own_dd D rfl)) ?_
  refine own_r X1 D 1 rfl ?_
  refine own_xVP X1 D hZ hown hml (own_u hw 62 rfl) (own_K3 hw) (own_cod1 hw i_SC i_Fc hp_cs) 1 (by decide) e1 i_Es rfl rfl fun T2 X2 e2 => ?_
  refine own_r X2 D 1 rfl ?_
  show own_H T2 10 #[.val (.ref a1)] [(.int ((n1 <<< ((1 : Int32) &&& 31)) >>> ((1 : Int32) &&& 31)))]
  rw [show ((n1 <<< ((1 : Int32) &&& 31)) >>> ((1 : Int32) &&& 31)) = n1 from (own_shh hp_d0 hp_d3)]
  exact own_retI X2 hx Bd.returns Bd.notSynchronized (own_dd D rfl) ⟨rfl, rfl, e2⟩ (by decide) (by decide)
theorem own_wS {a0 : Array Value} {Z : State} (hw : own_hw a0 Z) : ∀ a ∈ Bundle.stringAtoms, a.before a0 Z = true := by
  intro a ha
  simp only [Bundle.stringAtoms, List.mem_cons, List.not_mem_nil, or_false] at ha
  rcases ha with rfl | rfl | rfl | rfl | rfl | rfl | rfl
  · exact (own_u hw 6 rfl)
  · exact (own_u hw 5 rfl)
  · exact (own_u hw 23 rfl)
  · exact (own_u hw 33 rfl)
  · exact (own_u hw 31 rfl)
  · exact (own_u hw 202 rfl)
  · exact (own_u hw 203 rfl)
abbrev own_vi0_R : Room := { frames := 1, cells := 4, slots := 8, locals := 12 }
def own_vi0_q (Z : State) (a1 : Addr) (a2 : Addr)  (h0 : Heap) (v : Option Value) (h : Heap) : Prop := ∃ (x : Addr) (kx : ClassId), v = none ∧ Keep h0 h [a1] ∧ Exa Z h a1 own_cS ∧ own_eF10 Z h a1 (.ref x) ∧ own_eF9 Z h a1 (.int 0) ∧ own_aB Z h x kx (0 : Int32) ([] : List Int32)
theorem own_vi0 (hw : own_hw a0 Z) (Z0 : n0 ≤ h0.size) (i_Es : Exa Z h0 a1 own_cS) (i_Fv : own_eF10 Z h0 a1 .null) (i_Fc : own_eF9 Z h0 a1 (.int 0)) (g_a1 : n0 ≤ a1) :
    own_CH l Z own_EL own_y23 jdk_42_method_149_code 6 none ws own_vi0_R #[(.ref a1), (.ref a2), (.int 0), (.int 0), .null] h0 (own_W n0 (own_vi0_q Z a1 a2 h0)) := by
  refine own_goH own_pn3 own_o3 #[.val (.ref a1), .val (.ref a2), .val (.int 0), .val (.int 0), .val .null, .unset] (fun _ => rfl) fun p e s m below meth c s₁ Bd D hml hZ hown X0 e0 N0 hh CR0 S0 W0 Pw hPw => ?_
  have hx := D.1
  have hnm := (name_of_methodNamed Bd.named Bd.method).1
  have K0 : Keep h0 h0 [a1] := Keep.refl h0 _
  have hEL := own_hEL hw
  have lt_a1 := i_Es.lt
  have sf_a1 : Safe Z own_EL s.vm h0 a1 := own_safeN hZ.alike i_Es i_Fv
  refine own_r X0 D 1 rfl ?_
  obtain ⟨T1, X1, e1, st1⟩ := initO X0 hx hZ hown (own_u hw 15 rfl) (own_u hw 16 rfl) (own_u hw 17 rfl) e0 (g := (mkF m 1 #[.val (.ref a1), .val (.ref a2), .val (.int 0), .val (.int 0), .val .null, .unset] [(.ref a1)])) rfl (by rw [hml]; rfl) rfl (own_dd D rfl) (by decide) (W := 0) (by show 2 * 0 + _ ≤ _; exact Nat.le_of_eq rfl) (by decide)
  refine own_via st1 ?_
  show own_H T1 4 #[.val (.ref a1), .val (.ref a2), .val (.int 0), .val (.int 0), .val .null, .unset] []
  refine own_r X1 D 1 rfl ?_
  refine own_fN X1 D rfl (teq (by decide : (0 : Int32) = (0 : Int32))).2 ?_
  refine own_r X1 D 1 rfl ?_
  obtain ⟨b2, T2, h2, s, kw2, c2, k2, X2, e2, E2, S2, Wk2, hZ, hown, f2E, f2C, f2V, f2A, CR2, hn2, st2⟩ := own_ldcH S0 W0 CR0 hEL X1 hx hZ (by simp) hown (own_u hw 201 rfl) (own_wS hw) e1 (vs := []) (z := (0 : Int32)) ⟨fun c hc => (by cases hc), rfl⟩ (by decide) rfl (pc := 9) (Ls := #[.val (.ref a1), .val (.ref a2), .val (.int 0), .val (.int 0), .val .null, .unset]) (rest := [(.ref a1)]) (own_dd D rfl) (n := 0) (by decide) (by decide) (by decide) (by decide)
  refine own_via st2 ?_
  have f3 := i_Es.ext E2
  have f4 := i_Fv.ext E2
  have f5 := i_Fc.ext E2
  have Kp6 := K0.ext E2
  have ne9 := (hn2 a1 (CHr.safe CR2 lt_a1 sf_a1)).2
  refine own_gF X2 D hZ hown (own_u hw 32 rfl) Via.refl e2 f2V rfl fun T10 X10 e10 => ?_
  refine own_putFk X10 N0 hx hZ hown (own_u hw 32 rfl) e10 f4 f3 (Or.inr ⟨(own_u hw 33 rfl), rfl, hnm⟩) (own_u hw 5 rfl) g_a1 (ty := (.array .byte)) (by decide) rfl rfl (own_dd D rfl) fun T11 h11 L11 X11 N11 e11 W11 F11 => ?_
  have CR18 := CHr.trans CR2 (CHr.wr W11 (CHr.safe CR2 lt_a1 sf_a1) CR2.1)
  have f12 := f3.wr W11
  have f13 := f5.other W11 (Or.inr (slot_ne (Or.inr (own_u hw 31 rfl)) (Or.inr (own_u hw 33 rfl)) (by decide) rfl rfl))
  have f17 := f2A.other W11 (Ne.symm ne9)
  have Kp19 := Kp6.wr W11 (Or.inl own_m0)
  have Wk20 : kw2 ≤ h11.size := by rw [W11.size]; exact Wk2
  refine own_r X11 D 1 rfl ?_
  obtain ⟨b22, T22, h22, s, kw22, c22, k22, X22, e22, E22, S22, Wk22, hZ, hown, f22E, f22C, f22V, f22A, CR22, hn22, st22⟩ := own_ldcH S2 Wk20 CR18 hEL X11 hx hZ (by simp) hown (own_u hw 201 rfl) (own_wS hw) e11 (vs := []) (z := (0 : Int32)) ⟨fun c hc => (by cases hc), rfl⟩ (by decide) rfl (pc := 18) (Ls := #[.val (.ref a1), .val (.ref a2), .val (.int 0), .val (.int 0), .val .null, .unset]) (rest := [(.ref a1)]) (own_dd D rfl) (n := 0) (by decide) (by decide) (by decide) (by decide)
  refine own_via st22 ?_
  have f23 := f12.ext E22
  have f24 := f13.ext E22
  have f28 := f17.ext E22
  have f29 := F11.ext E22
  have Kp30 := Kp19.ext E22
  refine own_gF X22 D hZ hown (own_u hw 30 rfl) Via.refl e22 f22C rfl fun T34 X34 e34 => ?_
  refine own_putFNk X34 N11 hx hZ hown (own_u hw 30 rfl) e34 f24 f23 (Or.inr ⟨(own_u hw 31 rfl), rfl, hnm⟩) (own_u hw 5 rfl) g_a1 (ty := .byte) (by decide) rfl (by decide) (own_dd D rfl) fun T35 h35 L35 X35 N35 e35 W35 F35 => ?_
  have CR46 := CHr.trans CR22 (CHr.wr W35 (CHr.safe CR22 lt_a1 sf_a1) CR22.1)
  have f36 := f23.wr W35
  have f40 := f28.other W35 (Ne.symm ne9)
  have f41 := f29.other W35 (Or.inr (slot_ne (Or.inr (own_u hw 33 rfl)) (Or.inr (own_u hw 31 rfl)) (by decide) rfl rfl))
  have Kp47 := Kp30.wr W35 (Or.inl own_m0)
  have Wk48 : kw22 ≤ h35.size := by rw [W35.size]; exact Wk22
  rw [hPw]
  refine own_held S22 hh hZ hEL ?_
  exact own_rV X35 D Bd rfl e35 ⟨⟨N35, c2, k2, rfl, Kp47, f36, f41, F35, f40⟩, Wk48, CR46⟩ (by decide)
abbrev own_cc0_R : Room := { frames := 2, cells := 4, slots := 8, locals := 29 }
def own_cc0_q (Z : State) (a1 : Addr) (a2 : Addr) (k_1 : ClassId) (h0 : Heap) (v : Option Value) (h : Heap) : Prop := ∃ (x : Addr) (kx : ClassId), v = none ∧ Keep h0 h [a1] ∧ Exa Z h a1 own_cS ∧ own_eF10 Z h a1 (.ref x) ∧ own_eF9 Z h a1 (.int 0) ∧ own_aB Z h x kx (0 : Int32) ([] : List Int32)
theorem own_cc0 (hw : own_hw a0 Z) (Z0 : n0 ≤ h0.size) (i_Es : Exa Z h0 a1 own_cS) (i_Fv : own_eF10 Z h0 a1 .null) (i_Fc : own_eF9 Z h0 a1 (.int 0)) (i_Ac : Arv Z h0 a2 k_1 .char (0 : Int32) [] (.int 0)) (g_a1 : n0 ≤ a1) (ne_a1_a2 : a1 ≠ a2) :
    own_CH l Z own_EL own_y21 jdk_42_method_3_code 2 none ws own_cc0_R #[(.ref a1), (.ref a2)] h0 (own_W n0 (own_cc0_q Z a1 a2 k_1 h0)) := by
  refine own_goH own_pn2 own_o2 #[.val (.ref a1), .val (.ref a2)] (fun _ => rfl) fun p e s m below meth c s₁ Bd D hml hZ hown X0 e0 N0 hh CR0 S0 W0 Pw hPw => ?_
  have hx := D.1
  have K0 : Keep h0 h0 [a1] := Keep.refl h0 _
  have hEL := own_hEL hw
  refine own_r X0 D 4 rfl ?_
  refine own_via (own_len X0 hx hZ e0 i_Ac (own_dd D rfl)) ?_
  refine own_r X0 D 1 rfl ?_
  refine own_xIH S0 W0 CR0 hEL X0 N0 D hZ hown hml (own_u hw 11 rfl) (own_K18 hw) (own_vi0 hw Z0 i_Es i_Fv i_Fc g_a1) 0 (by decide) e0 rfl rfl ?_
  rintro v1 T1 h1 L1 s kw1 X1 N1 e1 ⟨x1, kx1, rfl, K1, o1_0, o1_1, o1_2, o1_3⟩ S1 Wk1 CR1 hZ hown
  have Kp4 := K0.trans K1 (own_al1 (Or.inl own_m0))
  rw [hPw]
  refine own_held S1 hh hZ hEL ?_
  exact own_rV X1 D Bd rfl e1 ⟨⟨N1, x1, kx1, rfl, Kp4, o1_0, o1_1, o1_2, o1_3⟩, Wk1, CR1⟩ (by decide)
def own_d_0 (p : Int32) : Int32 := (p.toUInt32.toUInt16.toUInt32.toInt32)
def own_d_1 (p : Int32) : Int32 := (((p.toUInt32 >>> ((16 : Int32) &&& 31).toUInt32).toInt32).toUInt32.toUInt16.toUInt32.toInt32)
def own_d_2 (p : Int32) : Int32 := (((p.toUInt32 >>> ((16 : Int32) &&& 31).toUInt32).toInt32).toUInt32.toUInt16.toUInt32.toInt32)
def own_M1 (p2 p3 : Int32) : List Int32 := [(nar .char (own_d_0 p2))]
def own_M2 (p2 p3 : Int32) : List Int32 := [(nar .char (own_d_0 p2)), (nar .char (own_d_1 p2))]
def own_M3 (p2 p3 : Int32) : List Int32 := [(nar .char (own_d_0 p2)), (nar .char (own_d_1 p2)), (nar .char (own_d_2 p3))]
abbrev own_dr0_R : Room := { frames := 3, cells := 6, slots := 12, locals := 43 }
theorem own_pn1 : plainFor own_y16 = true := plainFor_of_name (by first | (simp [plainName, overriddenIn]; done) | decide +kernel)
def own_dr0_q (Z : State) (p1 : Int32) (p2 : Int32) (p3 : Int32)  (h0 : Heap) (v : Option Value) (h : Heap) : Prop := ∃ (x : Addr) (y : Addr) (ky : ClassId), v = some (.ref x) ∧ Keep h0 h [] ∧ h0.size ≤ x ∧ Exa Z h x own_cS ∧ own_eF10 Z h x (.ref y) ∧ own_eF9 Z h x (.int 0) ∧ own_aB Z h y ky (0 : Int32) ([] : List Int32)
theorem own_dr0 (hw : own_hw a0 Z) (Z0 : n0 ≤ h0.size) (hp_n0 : p1 = (0 : Int32)) :
    own_CH l Z own_EL own_y16 method_2_code 6 (some (.object "java/lang/String")) ws own_dr0_R #[(.int p1), (.int p2), (.int p3)] h0 (own_W n0 (own_dr0_q Z p1 p2 p3 h0)) := by
  refine own_goH own_pn1 own_o1 #[.val (.int p1), .val (.int p2), .val (.int p3), .unset, .unset, .unset] (fun _ => rfl) fun p e s m below meth c s₁ Bd D hml hZ hown X0 e0 N0 hh CR0 S0 W0 Pw hPw => ?_
  have hx := D.1
  have K0 : Keep h0 h0 [] := Keep.refl h0 _
  have hEL := own_hEL hw
  refine own_r X0 D 2 rfl ?_
  show own_H s₁ 2 #[.val (.int p1), .val (.int p2), .val (.int p3), .unset, .unset, .unset] [(.int (p2.toUInt32.toUInt16.toUInt32.toInt32))]
  rw [show (p2.toUInt32.toUInt16.toUInt32.toInt32) = (own_d_0 p2) from rfl]
  refine own_r X0 D 5 rfl ?_
  show own_H s₁ 8 #[.val (.int p1), .val (.int p2), .val (.int p3), .val (.int (own_d_0 p2)), .unset, .unset] [(.int (((p2.toUInt32 >>> ((16 : Int32) &&& 31).toUInt32).toInt32).toUInt32.toUInt16.toUInt32.toInt32))]
  rw [show (((p2.toUInt32 >>> ((16 : Int32) &&& 31).toUInt32).toInt32).toUInt32.toUInt16.toUInt32.toInt32) = (own_d_1 p2) from rfl]
  refine own_r X0 D 5 rfl ?_
  show own_H s₁ 15 #[.val (.int p1), .val (.int p2), .val (.int p3), .val (.int (own_d_0 p2)), .val (.int (own_d_1 p2)), .unset] [(.int (((p3.toUInt32 >>> ((16 : Int32) &&& 31).toUInt32).toInt32).toUInt32.toUInt16.toUInt32.toInt32))]
  rw [show (((p3.toUInt32 >>> ((16 : Int32) &&& 31).toUInt32).toInt32).toUInt32.toUInt16.toUInt32.toInt32) = (own_d_2 p3) from rfl]
  refine own_r X0 D 2 rfl ?_
  refine own_fN X0 D rfl (teq hp_n0).2 ?_
  refine own_newOk X0 hx hZ hown (own_u hw 4 rfl) (own_u hw 5 rfl) (own_u hw 6 rfl) e0 (own_dd D rfl) (by decide) (by decide) fun T1 h1 b1 X1 e1 E1 ga1 A1 D1 => ?_
  have sz_b1 := own_ge K0.1 ga1
  have CR2 := CHr.trans CR0 (CHr.ext E1 CR0.1)
  have Kp3 := K0.ext E1
  have f4 : own_eF9 Z h1 b1 (.int 0) := D1 (Or.inr (own_u hw 31 rfl)) (ty := .byte) (by decide)
  have f5 : own_eF10 Z h1 b1 .null := D1 (Or.inr (own_u hw 33 rfl)) (ty := (.array .byte)) (by decide)
  have g_b1 := own_ge Z0 ga1
  have Wk6 := Nat.le_trans W0 E1.1
  have Zs7 := Nat.le_trans Z0 E1.1
  refine own_r X1 D 2 rfl ?_
  refine own_newAk X1 hx hZ (own_u hw 7 rfl) e1 (own_dd D rfl) (by decide) (cap := 0) (by decide) (by decide) (by decide) (by decide) 0 rfl fun T8 h8 k8 b8 X8 e8 E8 ga8 V8 Ex8 => ?_
  have ne9 := own_ne1 A1.lt ga8
  have CR13 := CHr.trans CR2 (CHr.ext E8 CR2.1)
  have f10 := A1.ext E8
  have f11 := f4.ext E8
  have f12 := f5.ext E8
  have Kp14 := Kp3.ext E8
  have f15 : Arv Z h8 b8 k8 .char (0 : Int32) [] (.int 0) := V8
  have Wk16 := Nat.le_trans Wk6 E8.1
  have Zs17 := Nat.le_trans Zs7 E8.1
  refine own_xIH S0 Wk16 CR13 hEL X8 N0 D hZ hown hml (own_u hw 8 rfl) (own_K19 hw) (own_cc0 hw Zs17 f10 f12 f11 f15 g_b1 ne9) 1 (by decide) e8 rfl rfl ?_
  rintro v18 T18 h18 L18 s kw18 X18 N18 e18 ⟨x18, kx18, rfl, K18, o18_0, o18_1, o18_2, o18_3⟩ S18 Wk18 CR18 hZ hown
  have Kp21 := Kp14.trans K18 (own_al1 (Or.inr sz_b1))
  rw [hPw]
  refine own_held S18 hh hZ hEL ?_
  exact own_rA X18 D Bd rfl rfl rfl e18 ⟨⟨N18, b1, x18, kx18, rfl, Kp21, sz_b1, o18_0, o18_1, o18_2, o18_3⟩, Wk18, CR18⟩ (by decide)
abbrev own_drS1_R : Room := { frames := 4, cells := 3, slots := 8, locals := 66 }
def own_drS1_q (Z : State) (p1 : Int32) (p2 : Int32) (p3 : Int32) (cs : Int32) (h0 : Heap) (v : Option Value) (h : Heap) : Prop := ∃ (x : Addr) (y : Addr) (ky : ClassId) (L_2 : List Int32), v = some (.ref x) ∧ Keep h0 h [] ∧ h0.size ≤ x ∧ h0.size ≤ y ∧ Exa Z h x own_cS ∧ own_eF10 Z h x (.ref y) ∧ own_eF9 Z h x (.int 0) ∧ own_aB Z h y ky (1 : Int32) L_2
theorem own_drS1 (hw : own_hw a0 Z) (Z0 : n0 ≤ h0.size) (i_SC : own_eS1 Z h0 (.int cs)) (hp_cs : ¬ (cs = (0 : Int32))) (hp_n0 : ¬ (p1 = (0 : Int32))) (hp_n1 : p1 = (1 : Int32)) (hp_xho : own_ca (own_M1 p2 p3) (1 : Int32) (1 : Int32) (1 : Int32).toNatClampNeg (0 : Int32)) :
    own_C l Z own_y16 method_2_code 6 (some (.object "java/lang/String")) ws own_drS1_R #[(.int p1), (.int p2), (.int p3)] h0 (own_W n0 (own_drS1_q Z p1 p2 p3 cs h0)) := by
  refine own_goW own_pn1 own_o1 #[.val (.int p1), .val (.int p2), .val (.int p3), .unset, .unset, .unset] (fun _ => rfl) fun p e s m below meth c s₁ Bd D hml hZ hown X0 e0 N0 => ?_
  have hx := D.1
  have K0 : Keep h0 h0 [] := Keep.refl h0 _
  refine own_r X0 D 2 rfl ?_
  show own_H s₁ 2 #[.val (.int p1), .val (.int p2), .val (.int p3), .unset, .unset, .unset] [(.int (p2.toUInt32.toUInt16.toUInt32.toInt32))]
  rw [show (p2.toUInt32.toUInt16.toUInt32.toInt32) = (own_d_0 p2) from rfl]
  refine own_r X0 D 5 rfl ?_
  show own_H s₁ 8 #[.val (.int p1), .val (.int p2), .val (.int p3), .val (.int (own_d_0 p2)), .unset, .unset] [(.int (((p2.toUInt32 >>> ((16 : Int32) &&& 31).toUInt32).toInt32).toUInt32.toUInt16.toUInt32.toInt32))]
  rw [show (((p2.toUInt32 >>> ((16 : Int32) &&& 31).toUInt32).toInt32).toUInt32.toUInt16.toUInt32.toInt32) = (own_d_1 p2) from rfl]
  refine own_r X0 D 5 rfl ?_
  show own_H s₁ 15 #[.val (.int p1), .val (.int p2), .val (.int p3), .val (.int (own_d_0 p2)), .val (.int (own_d_1 p2)), .unset] [(.int (((p3.toUInt32 >>> ((16 : Int32) &&& 31).toUInt32).toInt32).toUInt32.toUInt16.toUInt32.toInt32))]
  rw [show (((p3.toUInt32 >>> ((16 : Int32) &&& 31).toUInt32).toInt32).toUInt32.toUInt16.toUInt32.toInt32) = (own_d_2 p3) from rfl]
  refine own_r X0 D 2 rfl ?_
  refine own_fY X0 D rfl (feq hp_n0).2 ?_
  refine own_r X0 D 2 rfl ?_
  refine own_cN X0 D rfl (teq hp_n1).2 ?_
  refine own_newOk X0 hx hZ hown (own_u hw 4 rfl) (own_u hw 5 rfl) (own_u hw 6 rfl) e0 (own_dd D rfl) (by decide) (by decide) fun T1 h1 b1 X1 e1 E1 ga1 A1 D1 => ?_
  have sz_b1 := own_ge K0.1 ga1
  have f2 := i_SC.ext E1
  have Kp3 := K0.ext E1
  have f4 : own_eF9 Z h1 b1 (.int 0) := D1 (Or.inr (own_u hw 31 rfl)) (ty := .byte) (by decide)
  have f5 : own_eF10 Z h1 b1 .null := D1 (Or.inr (own_u hw 33 rfl)) (ty := (.array .byte)) (by decide)
  have g_b1 := own_ge Z0 ga1
  have Zs6 := Nat.le_trans Z0 E1.1
  refine own_r X1 D 2 rfl ?_
  refine own_newAk X1 hx hZ (own_u hw 7 rfl) e1 (own_dd D rfl) (by decide) (cap := 1) (by decide) (by decide) (by decide) (by decide) 1 rfl fun T7 h7 k7 b7 X7 e7 E7 ga7 V7 Ex7 => ?_
  have sz_b7 := own_ge Kp3.1 ga7
  have ne8 := own_ne1 A1.lt ga7
  have f9 := f2.ext E7
  have f10 := A1.ext E7
  have f11 := f4.ext E7
  have f12 := f5.ext E7
  have Kp13 := Kp3.ext E7
  have f14 : Arv Z h7 b7 k7 .char (1 : Int32) [(.int 0)] (.int 0) := V7
  have g_b7 := own_ge Zs6 ga7
  have Zs15 := Nat.le_trans Zs6 E7.1
  refine own_r X7 D 3 rfl ?_
  refine own_stCk X7 N0 hx hZ e7 f14 g_b7 (i := 0) ⟨by decide, by decide⟩ rfl (Nat.le_of_ble_eq_true rfl) (own_dd D rfl) fun T16 h16 L16 X16 N16 e16 W16 V16 => ?_
  have f17 := f9.wr W16
  have f18 := f10.wr W16
  have f19 := f11.other W16 (Or.inl ne8)
  have f20 := f12.other W16 (Or.inl ne8)
  have Kp21 := Kp13.wr W16 (Or.inr sz_b7)
  have f22 : Arv Z h16 b7 k7 .char (1 : Int32) [(.int (nar .char (own_d_0 p2)))] (.int 0) := V16
  have Zs23 : n0 ≤ h16.size := by rw [W16.size]; exact Zs15
  have f24 : own_aC Z h16 b7 k7 (1 : Int32) (own_M1 p2 p3) := f22
  refine own_xI X16 N16 D hZ hown hml (own_u hw 8 rfl) (own_K19 hw) (own_ccS (u1 := (.null)) (u2 := (.int 0)) (M_1 := (own_M1 p2 p3)) (n1 := (1 : Int32)) hw Zs23 f17 f18 f20 f19 f24 g_b1 ne8 hp_cs (by decide : ¬ ((1 : Int32) = (0 : Int32))) (by decide : ¬ ((1 : Int32) < (0 : Int32))) (by decide : (1 : Int32).toNatClampNeg ≤ 3) hp_xho) 1 (by decide) e16 rfl rfl ?_
  rintro v25 T25 h25 L25 X25 N25 e25 ⟨x25, kx25, L_225, rfl, K25, zf_x25, o25_0, o25_1, o25_2, o25_3⟩
  have sz_x25 := Nat.le_trans Kp21.1 zf_x25
  have Kp31 := Kp21.trans K25 (own_al1 (Or.inr sz_b1))
  exact own_rA X25 D Bd rfl rfl rfl e25 ⟨N25, b1, x25, kx25, L_225, rfl, Kp31, sz_b1, sz_x25, o25_0, o25_1, o25_2, o25_3⟩ (by decide)
abbrev own_drS2_R : Room := { frames := 4, cells := 3, slots := 9, locals := 66 }
def own_drS2_q (Z : State) (p1 : Int32) (p2 : Int32) (p3 : Int32) (cs : Int32) (h0 : Heap) (v : Option Value) (h : Heap) : Prop := ∃ (x : Addr) (y : Addr) (ky : ClassId) (L_2 : List Int32), v = some (.ref x) ∧ Keep h0 h [] ∧ h0.size ≤ x ∧ h0.size ≤ y ∧ Exa Z h x own_cS ∧ own_eF10 Z h x (.ref y) ∧ own_eF9 Z h x (.int 0) ∧ own_aB Z h y ky (2 : Int32) L_2
theorem own_drS2 (hw : own_hw a0 Z) (Z0 : n0 ≤ h0.size) (i_SC : own_eS1 Z h0 (.int cs)) (hp_cs : ¬ (cs = (0 : Int32))) (hp_n0 : ¬ (p1 = (0 : Int32))) (hp_n1 : ¬ (p1 = (1 : Int32))) (hp_n2 : p1 = (2 : Int32)) (hp_xho : own_ca (own_M2 p2 p3) (2 : Int32) (2 : Int32) (2 : Int32).toNatClampNeg (0 : Int32)) :
    own_C l Z own_y16 method_2_code 6 (some (.object "java/lang/String")) ws own_drS2_R #[(.int p1), (.int p2), (.int p3)] h0 (own_W n0 (own_drS2_q Z p1 p2 p3 cs h0)) := by
  refine own_goW own_pn1 own_o1 #[.val (.int p1), .val (.int p2), .val (.int p3), .unset, .unset, .unset] (fun _ => rfl) fun p e s m below meth c s₁ Bd D hml hZ hown X0 e0 N0 => ?_
  have hx := D.1
  have K0 : Keep h0 h0 [] := Keep.refl h0 _
  refine own_r X0 D 2 rfl ?_
  show own_H s₁ 2 #[.val (.int p1), .val (.int p2), .val (.int p3), .unset, .unset, .unset] [(.int (p2.toUInt32.toUInt16.toUInt32.toInt32))]
  rw [show (p2.toUInt32.toUInt16.toUInt32.toInt32) = (own_d_0 p2) from rfl]
  refine own_r X0 D 5 rfl ?_
  show own_H s₁ 8 #[.val (.int p1), .val (.int p2), .val (.int p3), .val (.int (own_d_0 p2)), .unset, .unset] [(.int (((p2.toUInt32 >>> ((16 : Int32) &&& 31).toUInt32).toInt32).toUInt32.toUInt16.toUInt32.toInt32))]
  rw [show (((p2.toUInt32 >>> ((16 : Int32) &&& 31).toUInt32).toInt32).toUInt32.toUInt16.toUInt32.toInt32) = (own_d_1 p2) from rfl]
  refine own_r X0 D 5 rfl ?_
  show own_H s₁ 15 #[.val (.int p1), .val (.int p2), .val (.int p3), .val (.int (own_d_0 p2)), .val (.int (own_d_1 p2)), .unset] [(.int (((p3.toUInt32 >>> ((16 : Int32) &&& 31).toUInt32).toInt32).toUInt32.toUInt16.toUInt32.toInt32))]
  rw [show (((p3.toUInt32 >>> ((16 : Int32) &&& 31).toUInt32).toInt32).toUInt32.toUInt16.toUInt32.toInt32) = (own_d_2 p3) from rfl]
  refine own_r X0 D 2 rfl ?_
  refine own_fY X0 D rfl (feq hp_n0).2 ?_
  refine own_r X0 D 2 rfl ?_
  refine own_cY X0 D rfl (feq hp_n1).2 ?_
  refine own_r X0 D 2 rfl ?_
  refine own_cN X0 D rfl (teq hp_n2).2 ?_
  refine own_newOk X0 hx hZ hown (own_u hw 4 rfl) (own_u hw 5 rfl) (own_u hw 6 rfl) e0 (own_dd D rfl) (by decide) (by decide) fun T1 h1 b1 X1 e1 E1 ga1 A1 D1 => ?_
  have sz_b1 := own_ge K0.1 ga1
  have f2 := i_SC.ext E1
  have Kp3 := K0.ext E1
  have f4 : own_eF9 Z h1 b1 (.int 0) := D1 (Or.inr (own_u hw 31 rfl)) (ty := .byte) (by decide)
  have f5 : own_eF10 Z h1 b1 .null := D1 (Or.inr (own_u hw 33 rfl)) (ty := (.array .byte)) (by decide)
  have g_b1 := own_ge Z0 ga1
  have Zs6 := Nat.le_trans Z0 E1.1
  refine own_r X1 D 2 rfl ?_
  refine own_newAk X1 hx hZ (own_u hw 7 rfl) e1 (own_dd D rfl) (by decide) (cap := 2) (by decide) (by decide) (by decide) (by decide) 2 rfl fun T7 h7 k7 b7 X7 e7 E7 ga7 V7 Ex7 => ?_
  have sz_b7 := own_ge Kp3.1 ga7
  have ne8 := own_ne1 A1.lt ga7
  have f9 := f2.ext E7
  have f10 := A1.ext E7
  have f11 := f4.ext E7
  have f12 := f5.ext E7
  have Kp13 := Kp3.ext E7
  have f14 : Arv Z h7 b7 k7 .char (2 : Int32) [(.int 0), (.int 0)] (.int 0) := V7
  have g_b7 := own_ge Zs6 ga7
  have Zs15 := Nat.le_trans Zs6 E7.1
  refine own_r X7 D 3 rfl ?_
  refine own_stCk X7 N0 hx hZ e7 f14 g_b7 (i := 0) ⟨by decide, by decide⟩ rfl (Nat.le_of_ble_eq_true rfl) (own_dd D rfl) fun T16 h16 L16 X16 N16 e16 W16 V16 => ?_
  have f17 := f9.wr W16
  have f18 := f10.wr W16
  have f19 := f11.other W16 (Or.inl ne8)
  have f20 := f12.other W16 (Or.inl ne8)
  have Kp21 := Kp13.wr W16 (Or.inr sz_b7)
  have f22 : Arv Z h16 b7 k7 .char (2 : Int32) [(.int (nar .char (own_d_0 p2))), (.int 0)] (.int 0) := V16
  have Zs23 : n0 ≤ h16.size := by rw [W16.size]; exact Zs15
  refine own_r X16 D 3 rfl ?_
  refine own_stCk X16 N16 hx hZ e16 f22 g_b7 (i := 1) ⟨by decide, by decide⟩ rfl (Nat.le_of_ble_eq_true rfl) (own_dd D rfl) fun T24 h24 L24 X24 N24 e24 W24 V24 => ?_
  have f25 := f17.wr W24
  have f26 := f18.wr W24
  have f27 := f19.other W24 (Or.inl ne8)
  have f28 := f20.other W24 (Or.inl ne8)
  have Kp29 := Kp21.wr W24 (Or.inr sz_b7)
  have f30 : Arv Z h24 b7 k7 .char (2 : Int32) [(.int (nar .char (own_d_0 p2))), (.int (nar .char (own_d_1 p2)))] (.int 0) := V24
  have Zs31 : n0 ≤ h24.size := by rw [W24.size]; exact Zs23
  have f32 : own_aC Z h24 b7 k7 (2 : Int32) (own_M2 p2 p3) := f30
  refine own_xI X24 N24 D hZ hown hml (own_u hw 8 rfl) (own_K19 hw) (own_ccS (u1 := (.null)) (u2 := (.int 0)) (M_1 := (own_M2 p2 p3)) (n1 := (2 : Int32)) hw Zs31 f25 f26 f28 f27 f32 g_b1 ne8 hp_cs (by decide : ¬ ((2 : Int32) = (0 : Int32))) (by decide : ¬ ((2 : Int32) < (0 : Int32))) (by decide : (2 : Int32).toNatClampNeg ≤ 3) hp_xho) 1 (by decide) e24 rfl rfl ?_
  rintro v33 T33 h33 L33 X33 N33 e33 ⟨x33, kx33, L_233, rfl, K33, zf_x33, o33_0, o33_1, o33_2, o33_3⟩
  have sz_x33 := Nat.le_trans Kp29.1 zf_x33
  have Kp39 := Kp29.trans K33 (own_al1 (Or.inr sz_b1))
  exact own_rA X33 D Bd rfl rfl rfl e33 ⟨N33, b1, x33, kx33, L_233, rfl, Kp39, sz_b1, sz_x33, o33_0, o33_1, o33_2, o33_3⟩ (by decide)
abbrev own_drS3_R : Room := { frames := 4, cells := 3, slots := 10, locals := 66 }
def own_drS3_q (Z : State) (p1 : Int32) (p2 : Int32) (p3 : Int32) (cs : Int32) (h0 : Heap) (v : Option Value) (h : Heap) : Prop := ∃ (x : Addr) (y : Addr) (ky : ClassId) (L_2 : List Int32), v = some (.ref x) ∧ Keep h0 h [] ∧ h0.size ≤ x ∧ h0.size ≤ y ∧ Exa Z h x own_cS ∧ own_eF10 Z h x (.ref y) ∧ own_eF9 Z h x (.int 0) ∧ own_aB Z h y ky (3 : Int32) L_2
theorem own_drS3 (hw : own_hw a0 Z) (Z0 : n0 ≤ h0.size) (i_SC : own_eS1 Z h0 (.int cs)) (hp_cs : ¬ (cs = (0 : Int32))) (hp_n0 : ¬ (p1 = (0 : Int32))) (hp_n1 : ¬ (p1 = (1 : Int32))) (hp_n2 : ¬ (p1 = (2 : Int32))) (hp_xho : own_ca (own_M3 p2 p3) (3 : Int32) (3 : Int32) (3 : Int32).toNatClampNeg (0 : Int32)) :
    own_C l Z own_y16 method_2_code 6 (some (.object "java/lang/String")) ws own_drS3_R #[(.int p1), (.int p2), (.int p3)] h0 (own_W n0 (own_drS3_q Z p1 p2 p3 cs h0)) := by
  refine own_goW own_pn1 own_o1 #[.val (.int p1), .val (.int p2), .val (.int p3), .unset, .unset, .unset] (fun _ => rfl) fun p e s m below meth c s₁ Bd D hml hZ hown X0 e0 N0 => ?_
  have hx := D.1
  have K0 : Keep h0 h0 [] := Keep.refl h0 _
  refine own_r X0 D 2 rfl ?_
  show own_H s₁ 2 #[.val (.int p1), .val (.int p2), .val (.int p3), .unset, .unset, .unset] [(.int (p2.toUInt32.toUInt16.toUInt32.toInt32))]
  rw [show (p2.toUInt32.toUInt16.toUInt32.toInt32) = (own_d_0 p2) from rfl]
  refine own_r X0 D 5 rfl ?_
  show own_H s₁ 8 #[.val (.int p1), .val (.int p2), .val (.int p3), .val (.int (own_d_0 p2)), .unset, .unset] [(.int (((p2.toUInt32 >>> ((16 : Int32) &&& 31).toUInt32).toInt32).toUInt32.toUInt16.toUInt32.toInt32))]
  rw [show (((p2.toUInt32 >>> ((16 : Int32) &&& 31).toUInt32).toInt32).toUInt32.toUInt16.toUInt32.toInt32) = (own_d_1 p2) from rfl]
  refine own_r X0 D 5 rfl ?_
  show own_H s₁ 15 #[.val (.int p1), .val (.int p2), .val (.int p3), .val (.int (own_d_0 p2)), .val (.int (own_d_1 p2)), .unset] [(.int (((p3.toUInt32 >>> ((16 : Int32) &&& 31).toUInt32).toInt32).toUInt32.toUInt16.toUInt32.toInt32))]
  rw [show (((p3.toUInt32 >>> ((16 : Int32) &&& 31).toUInt32).toInt32).toUInt32.toUInt16.toUInt32.toInt32) = (own_d_2 p3) from rfl]
  refine own_r X0 D 2 rfl ?_
  refine own_fY X0 D rfl (feq hp_n0).2 ?_
  refine own_r X0 D 2 rfl ?_
  refine own_cY X0 D rfl (feq hp_n1).2 ?_
  refine own_r X0 D 2 rfl ?_
  refine own_cY X0 D rfl (feq hp_n2).2 ?_
  refine own_newOk X0 hx hZ hown (own_u hw 4 rfl) (own_u hw 5 rfl) (own_u hw 6 rfl) e0 (own_dd D rfl) (by decide) (by decide) fun T1 h1 b1 X1 e1 E1 ga1 A1 D1 => ?_
  have sz_b1 := own_ge K0.1 ga1
  have f2 := i_SC.ext E1
  have Kp3 := K0.ext E1
  have f4 : own_eF9 Z h1 b1 (.int 0) := D1 (Or.inr (own_u hw 31 rfl)) (ty := .byte) (by decide)
  have f5 : own_eF10 Z h1 b1 .null := D1 (Or.inr (own_u hw 33 rfl)) (ty := (.array .byte)) (by decide)
  have g_b1 := own_ge Z0 ga1
  have Zs6 := Nat.le_trans Z0 E1.1
  refine own_r X1 D 2 rfl ?_
  refine own_newAk X1 hx hZ (own_u hw 7 rfl) e1 (own_dd D rfl) (by decide) (cap := 3) (by decide) (by decide) (by decide) (by decide) 3 rfl fun T7 h7 k7 b7 X7 e7 E7 ga7 V7 Ex7 => ?_
  have sz_b7 := own_ge Kp3.1 ga7
  have ne8 := own_ne1 A1.lt ga7
  have f9 := f2.ext E7
  have f10 := A1.ext E7
  have f11 := f4.ext E7
  have f12 := f5.ext E7
  have Kp13 := Kp3.ext E7
  have f14 : Arv Z h7 b7 k7 .char (3 : Int32) [(.int 0), (.int 0), (.int 0)] (.int 0) := V7
  have g_b7 := own_ge Zs6 ga7
  have Zs15 := Nat.le_trans Zs6 E7.1
  refine own_r X7 D 3 rfl ?_
  refine own_stCk X7 N0 hx hZ e7 f14 g_b7 (i := 0) ⟨by decide, by decide⟩ rfl (Nat.le_of_ble_eq_true rfl) (own_dd D rfl) fun T16 h16 L16 X16 N16 e16 W16 V16 => ?_
  have f17 := f9.wr W16
  have f18 := f10.wr W16
  have f19 := f11.other W16 (Or.inl ne8)
  have f20 := f12.other W16 (Or.inl ne8)
  have Kp21 := Kp13.wr W16 (Or.inr sz_b7)
  have f22 : Arv Z h16 b7 k7 .char (3 : Int32) [(.int (nar .char (own_d_0 p2))), (.int 0), (.int 0)] (.int 0) := V16
  have Zs23 : n0 ≤ h16.size := by rw [W16.size]; exact Zs15
  refine own_r X16 D 3 rfl ?_
  refine own_stCk X16 N16 hx hZ e16 f22 g_b7 (i := 1) ⟨by decide, by decide⟩ rfl (Nat.le_of_ble_eq_true rfl) (own_dd D rfl) fun T24 h24 L24 X24 N24 e24 W24 V24 => ?_
  have f25 := f17.wr W24
  have f26 := f18.wr W24
  have f27 := f19.other W24 (Or.inl ne8)
  have f28 := f20.other W24 (Or.inl ne8)
  have Kp29 := Kp21.wr W24 (Or.inr sz_b7)
  have f30 : Arv Z h24 b7 k7 .char (3 : Int32) [(.int (nar .char (own_d_0 p2))), (.int (nar .char (own_d_1 p2))), (.int 0)] (.int 0) := V24
  have Zs31 : n0 ≤ h24.size := by rw [W24.size]; exact Zs23
  refine own_r X24 D 3 rfl ?_
  refine own_stCk X24 N24 hx hZ e24 f30 g_b7 (i := 2) ⟨by decide, by decide⟩ rfl (Nat.le_of_ble_eq_true rfl) (own_dd D rfl) fun T32 h32 L32 X32 N32 e32 W32 V32 => ?_
  have f33 := f25.wr W32
  have f34 := f26.wr W32
  have f35 := f27.other W32 (Or.inl ne8)
  have f36 := f28.other W32 (Or.inl ne8)
  have Kp37 := Kp29.wr W32 (Or.inr sz_b7)
  have f38 : Arv Z h32 b7 k7 .char (3 : Int32) [(.int (nar .char (own_d_0 p2))), (.int (nar .char (own_d_1 p2))), (.int (nar .char (own_d_2 p3)))] (.int 0) := V32
  have Zs39 : n0 ≤ h32.size := by rw [W32.size]; exact Zs31
  have f40 : own_aC Z h32 b7 k7 (3 : Int32) (own_M3 p2 p3) := f38
  refine own_xI X32 N32 D hZ hown hml (own_u hw 8 rfl) (own_K19 hw) (own_ccS (u1 := (.null)) (u2 := (.int 0)) (M_1 := (own_M3 p2 p3)) (n1 := (3 : Int32)) hw Zs39 f33 f34 f36 f35 f40 g_b1 ne8 hp_cs (by decide : ¬ ((3 : Int32) = (0 : Int32))) (by decide : ¬ ((3 : Int32) < (0 : Int32))) (by decide : (3 : Int32).toNatClampNeg ≤ 3) hp_xho) 1 (by decide) e32 rfl rfl ?_
  rintro v41 T41 h41 L41 X41 N41 e41 ⟨x41, kx41, L_241, rfl, K41, zf_x41, o41_0, o41_1, o41_2, o41_3⟩
  have sz_x41 := Nat.le_trans Kp37.1 zf_x41
  have Kp47 := Kp37.trans K41 (own_al1 (Or.inr sz_b1))
  exact own_rA X41 D Bd rfl rfl rfl e41 ⟨N41, b1, x41, kx41, L_241, rfl, Kp47, sz_b1, sz_x41, o41_0, o41_1, o41_2, o41_3⟩ (by decide)
abbrev own_drU1_R : Room := { frames := 6, cells := 4, slots := 14, locals := 88 }
def own_drU1_q (Z : State) (p1 : Int32) (p2 : Int32) (p3 : Int32) (cs : Int32) (r1 : Int32) (jj : Nat) (h0 : Heap) (v : Option Value) (h : Heap) : Prop := ∃ (x : Addr) (y : Addr) (ky : ClassId), v = some (.ref x) ∧ Keep h0 h [] ∧ h0.size ≤ x ∧ h0.size ≤ y ∧ Exa Z h x own_cS ∧ own_eF10 Z h x (.ref y) ∧ own_eF9 Z h x (.int 1) ∧ own_aB Z h y ky ((1 : Int32) <<< ((1 : Int32) &&& 31)) (own_tbl (own_M1 p2 p3) (1 : Int32).toNatClampNeg (0 : Int32) (List.replicate ((1 : Int32) <<< ((1 : Int32) &&& 31)).toNatClampNeg (0 : Int32)))
theorem own_drU1 (hw : own_hw a0 Z) (Z0 : n0 ≤ h0.size) (i_SC : own_eS1 Z h0 (.int cs)) (i_SA : own_eS2 Z h0 (.int 1)) (i_SH : own_eS3 Z h0 (.int 0)) (i_SL : own_eS4 Z h0 (.int 8)) (hp_cs : ¬ (cs = (0 : Int32))) (hp_n0 : ¬ (p1 = (0 : Int32))) (hp_n1 : p1 = (1 : Int32)) (hp_xhf : own_cf (own_M1 p2 p3) (1 : Int32) (1 : Int32) r1 jj (0 : Int32)) (hp_xht : own_tbo (own_M1 p2 p3) (1 : Int32) (1 : Int32) ((1 : Int32) <<< ((1 : Int32) &&& 31)) (1 : Int32).toNatClampNeg (0 : Int32) (List.replicate ((1 : Int32) <<< ((1 : Int32) &&& 31)).toNatClampNeg (0 : Int32))) (hp_xrn : ¬ (r1 = (1 : Int32))) (hp_xj0 : ¬ ((r1 <<< ((1 : Int32) &&& 31)) < (0 : Int32))) (hp_xj1 : (r1 <<< ((1 : Int32) &&& 31)) < ((1 : Int32) <<< ((1 : Int32) &&& 31))) (hp_xk0 : ¬ (((r1 <<< ((1 : Int32) &&& 31)) + (1 : Int32)) < (0 : Int32))) (hp_xk1 : ((r1 <<< ((1 : Int32) &&& 31)) + (1 : Int32)) < ((1 : Int32) <<< ((1 : Int32) &&& 31))) (hp_xg : (255 : Int32) < (own_gc (own_get (own_tbl (own_M1 p2 p3) (1 : Int32).toNatClampNeg (0 : Int32) (List.replicate ((1 : Int32) <<< ((1 : Int32) &&& 31)).toNatClampNeg (0 : Int32))) (r1 <<< ((1 : Int32) &&& 31))) (own_get (own_tbl (own_M1 p2 p3) (1 : Int32).toNatClampNeg (0 : Int32) (List.replicate ((1 : Int32) <<< ((1 : Int32) &&& 31)).toNatClampNeg (0 : Int32))) ((r1 <<< ((1 : Int32) &&& 31)) + (1 : Int32))))) :
    own_C l Z own_y16 method_2_code 6 (some (.object "java/lang/String")) ws own_drU1_R #[(.int p1), (.int p2), (.int p3)] h0 (own_W n0 (own_drU1_q Z p1 p2 p3 cs r1 jj h0)) := by
  refine own_goW own_pn1 own_o1 #[.val (.int p1), .val (.int p2), .val (.int p3), .unset, .unset, .unset] (fun _ => rfl) fun p e s m below meth c s₁ Bd D hml hZ hown X0 e0 N0 => ?_
  have hx := D.1
  have K0 : Keep h0 h0 [] := Keep.refl h0 _
  refine own_r X0 D 2 rfl ?_
  show own_H s₁ 2 #[.val (.int p1), .val (.int p2), .val (.int p3), .unset, .unset, .unset] [(.int (p2.toUInt32.toUInt16.toUInt32.toInt32))]
  rw [show (p2.toUInt32.toUInt16.toUInt32.toInt32) = (own_d_0 p2) from rfl]
  refine own_r X0 D 5 rfl ?_
  show own_H s₁ 8 #[.val (.int p1), .val (.int p2), .val (.int p3), .val (.int (own_d_0 p2)), .unset, .unset] [(.int (((p2.toUInt32 >>> ((16 : Int32) &&& 31).toUInt32).toInt32).toUInt32.toUInt16.toUInt32.toInt32))]
  rw [show (((p2.toUInt32 >>> ((16 : Int32) &&& 31).toUInt32).toInt32).toUInt32.toUInt16.toUInt32.toInt32) = (own_d_1 p2) from rfl]
  refine own_r X0 D 5 rfl ?_
  show own_H s₁ 15 #[.val (.int p1), .val (.int p2), .val (.int p3), .val (.int (own_d_0 p2)), .val (.int (own_d_1 p2)), .unset] [(.int (((p3.toUInt32 >>> ((16 : Int32) &&& 31).toUInt32).toInt32).toUInt32.toUInt16.toUInt32.toInt32))]
  rw [show (((p3.toUInt32 >>> ((16 : Int32) &&& 31).toUInt32).toInt32).toUInt32.toUInt16.toUInt32.toInt32) = (own_d_2 p3) from rfl]
  refine own_r X0 D 2 rfl ?_
  refine own_fY X0 D rfl (feq hp_n0).2 ?_
  refine own_r X0 D 2 rfl ?_
  refine own_cN X0 D rfl (teq hp_n1).2 ?_
  refine own_newOk X0 hx hZ hown (own_u hw 4 rfl) (own_u hw 5 rfl) (own_u hw 6 rfl) e0 (own_dd D rfl) (by decide) (by decide) fun T1 h1 b1 X1 e1 E1 ga1 A1 D1 => ?_
  have sz_b1 := own_ge K0.1 ga1
  have f2 := i_SC.ext E1
  have f3 := i_SA.ext E1
  have f4 := i_SH.ext E1
  have f5 := i_SL.ext E1
  have Kp6 := K0.ext E1
  have f7 : own_eF9 Z h1 b1 (.int 0) := D1 (Or.inr (own_u hw 31 rfl)) (ty := .byte) (by decide)
  have f8 : own_eF10 Z h1 b1 .null := D1 (Or.inr (own_u hw 33 rfl)) (ty := (.array .byte)) (by decide)
  have g_b1 := own_ge Z0 ga1
  have Zs9 := Nat.le_trans Z0 E1.1
  refine own_r X1 D 2 rfl ?_
  refine own_newAk X1 hx hZ (own_u hw 7 rfl) e1 (own_dd D rfl) (by decide) (cap := 1) (by decide) (by decide) (by decide) (by decide) 1 rfl fun T10 h10 k10 b10 X10 e10 E10 ga10 V10 Ex10 => ?_
  have sz_b10 := own_ge Kp6.1 ga10
  have ne11 := own_ne1 A1.lt ga10
  have f12 := f2.ext E10
  have f13 := f3.ext E10
  have f14 := f4.ext E10
  have f15 := f5.ext E10
  have f16 := A1.ext E10
  have f17 := f7.ext E10
  have f18 := f8.ext E10
  have Kp19 := Kp6.ext E10
  have f20 : Arv Z h10 b10 k10 .char (1 : Int32) [(.int 0)] (.int 0) := V10
  have g_b10 := own_ge Zs9 ga10
  have Zs21 := Nat.le_trans Zs9 E10.1
  refine own_r X10 D 3 rfl ?_
  refine own_stCk X10 N0 hx hZ e10 f20 g_b10 (i := 0) ⟨by decide, by decide⟩ rfl (Nat.le_of_ble_eq_true rfl) (own_dd D rfl) fun T22 h22 L22 X22 N22 e22 W22 V22 => ?_
  have f23 := f12.wr W22
  have f24 := f13.wr W22
  have f25 := f14.wr W22
  have f26 := f15.wr W22
  have f27 := f16.wr W22
  have f28 := f17.other W22 (Or.inl ne11)
  have f29 := f18.other W22 (Or.inl ne11)
  have Kp30 := Kp19.wr W22 (Or.inr sz_b10)
  have f31 : Arv Z h22 b10 k10 .char (1 : Int32) [(.int (nar .char (own_d_0 p2)))] (.int 0) := V22
  have Zs32 : n0 ≤ h22.size := by rw [W22.size]; exact Zs21
  have f33 : own_aC Z h22 b10 k10 (1 : Int32) (own_M1 p2 p3) := f31
  refine own_xI X22 N22 D hZ hown hml (own_u hw 8 rfl) (own_K19 hw) (own_ccU (u1 := (.null)) (u2 := (.int 0)) (M_1 := (own_M1 p2 p3)) (n1 := (1 : Int32)) hw Zs32 f23 f27 f29 f28 f24 f25 f26 f33 g_b1 ne11 hp_cs (by decide : ¬ ((1 : Int32) = (0 : Int32))) (by decide : ¬ ((1 : Int32) < (0 : Int32))) (by decide : (1 : Int32).toNatClampNeg ≤ 3) hp_xhf hp_xht hp_xrn hp_xj0 hp_xj1 hp_xk0 hp_xk1 hp_xg) 1 (by decide) e22 rfl rfl ?_
  rintro v34 T34 h34 L34 X34 N34 e34 ⟨x34, kx34, rfl, K34, zf_x34, o34_0, o34_1, o34_2, o34_3⟩
  have sz_x34 := Nat.le_trans Kp30.1 zf_x34
  have Kp43 := Kp30.trans K34 (own_al1 (Or.inr sz_b1))
  exact own_rA X34 D Bd rfl rfl rfl e34 ⟨N34, b1, x34, kx34, rfl, Kp43, sz_b1, sz_x34, o34_0, o34_1, o34_2, o34_3⟩ (by decide)
abbrev own_drU2_R : Room := { frames := 6, cells := 4, slots := 15, locals := 88 }
def own_drU2_q (Z : State) (p1 : Int32) (p2 : Int32) (p3 : Int32) (cs : Int32) (r1 : Int32) (jj : Nat) (h0 : Heap) (v : Option Value) (h : Heap) : Prop := ∃ (x : Addr) (y : Addr) (ky : ClassId), v = some (.ref x) ∧ Keep h0 h [] ∧ h0.size ≤ x ∧ h0.size ≤ y ∧ Exa Z h x own_cS ∧ own_eF10 Z h x (.ref y) ∧ own_eF9 Z h x (.int 1) ∧ own_aB Z h y ky ((2 : Int32) <<< ((1 : Int32) &&& 31)) (own_tbl (own_M2 p2 p3) (2 : Int32).toNatClampNeg (0 : Int32) (List.replicate ((2 : Int32) <<< ((1 : Int32) &&& 31)).toNatClampNeg (0 : Int32)))
theorem own_drU2 (hw : own_hw a0 Z) (Z0 : n0 ≤ h0.size) (i_SC : own_eS1 Z h0 (.int cs)) (i_SA : own_eS2 Z h0 (.int 1)) (i_SH : own_eS3 Z h0 (.int 0)) (i_SL : own_eS4 Z h0 (.int 8)) (hp_cs : ¬ (cs = (0 : Int32))) (hp_n0 : ¬ (p1 = (0 : Int32))) (hp_n1 : ¬ (p1 = (1 : Int32))) (hp_n2 : p1 = (2 : Int32)) (hp_xhf : own_cf (own_M2 p2 p3) (2 : Int32) (2 : Int32) r1 jj (0 : Int32)) (hp_xht : own_tbo (own_M2 p2 p3) (2 : Int32) (2 : Int32) ((2 : Int32) <<< ((1 : Int32) &&& 31)) (2 : Int32).toNatClampNeg (0 : Int32) (List.replicate ((2 : Int32) <<< ((1 : Int32) &&& 31)).toNatClampNeg (0 : Int32))) (hp_xrn : ¬ (r1 = (2 : Int32))) (hp_xj0 : ¬ ((r1 <<< ((1 : Int32) &&& 31)) < (0 : Int32))) (hp_xj1 : (r1 <<< ((1 : Int32) &&& 31)) < ((2 : Int32) <<< ((1 : Int32) &&& 31))) (hp_xk0 : ¬ (((r1 <<< ((1 : Int32) &&& 31)) + (1 : Int32)) < (0 : Int32))) (hp_xk1 : ((r1 <<< ((1 : Int32) &&& 31)) + (1 : Int32)) < ((2 : Int32) <<< ((1 : Int32) &&& 31))) (hp_xg : (255 : Int32) < (own_gc (own_get (own_tbl (own_M2 p2 p3) (2 : Int32).toNatClampNeg (0 : Int32) (List.replicate ((2 : Int32) <<< ((1 : Int32) &&& 31)).toNatClampNeg (0 : Int32))) (r1 <<< ((1 : Int32) &&& 31))) (own_get (own_tbl (own_M2 p2 p3) (2 : Int32).toNatClampNeg (0 : Int32) (List.replicate ((2 : Int32) <<< ((1 : Int32) &&& 31)).toNatClampNeg (0 : Int32))) ((r1 <<< ((1 : Int32) &&& 31)) + (1 : Int32))))) :
    own_C l Z own_y16 method_2_code 6 (some (.object "java/lang/String")) ws own_drU2_R #[(.int p1), (.int p2), (.int p3)] h0 (own_W n0 (own_drU2_q Z p1 p2 p3 cs r1 jj h0)) := by
  refine own_goW own_pn1 own_o1 #[.val (.int p1), .val (.int p2), .val (.int p3), .unset, .unset, .unset] (fun _ => rfl) fun p e s m below meth c s₁ Bd D hml hZ hown X0 e0 N0 => ?_
  have hx := D.1
  have K0 : Keep h0 h0 [] := Keep.refl h0 _
  refine own_r X0 D 2 rfl ?_
  show own_H s₁ 2 #[.val (.int p1), .val (.int p2), .val (.int p3), .unset, .unset, .unset] [(.int (p2.toUInt32.toUInt16.toUInt32.toInt32))]
  rw [show (p2.toUInt32.toUInt16.toUInt32.toInt32) = (own_d_0 p2) from rfl]
  refine own_r X0 D 5 rfl ?_
  show own_H s₁ 8 #[.val (.int p1), .val (.int p2), .val (.int p3), .val (.int (own_d_0 p2)), .unset, .unset] [(.int (((p2.toUInt32 >>> ((16 : Int32) &&& 31).toUInt32).toInt32).toUInt32.toUInt16.toUInt32.toInt32))]
  rw [show (((p2.toUInt32 >>> ((16 : Int32) &&& 31).toUInt32).toInt32).toUInt32.toUInt16.toUInt32.toInt32) = (own_d_1 p2) from rfl]
  refine own_r X0 D 5 rfl ?_
  show own_H s₁ 15 #[.val (.int p1), .val (.int p2), .val (.int p3), .val (.int (own_d_0 p2)), .val (.int (own_d_1 p2)), .unset] [(.int (((p3.toUInt32 >>> ((16 : Int32) &&& 31).toUInt32).toInt32).toUInt32.toUInt16.toUInt32.toInt32))]
  rw [show (((p3.toUInt32 >>> ((16 : Int32) &&& 31).toUInt32).toInt32).toUInt32.toUInt16.toUInt32.toInt32) = (own_d_2 p3) from rfl]
  refine own_r X0 D 2 rfl ?_
  refine own_fY X0 D rfl (feq hp_n0).2 ?_
  refine own_r X0 D 2 rfl ?_
  refine own_cY X0 D rfl (feq hp_n1).2 ?_
  refine own_r X0 D 2 rfl ?_
  refine own_cN X0 D rfl (teq hp_n2).2 ?_
  refine own_newOk X0 hx hZ hown (own_u hw 4 rfl) (own_u hw 5 rfl) (own_u hw 6 rfl) e0 (own_dd D rfl) (by decide) (by decide) fun T1 h1 b1 X1 e1 E1 ga1 A1 D1 => ?_
  have sz_b1 := own_ge K0.1 ga1
  have f2 := i_SC.ext E1
  have f3 := i_SA.ext E1
  have f4 := i_SH.ext E1
  have f5 := i_SL.ext E1
  have Kp6 := K0.ext E1
  have f7 : own_eF9 Z h1 b1 (.int 0) := D1 (Or.inr (own_u hw 31 rfl)) (ty := .byte) (by decide)
  have f8 : own_eF10 Z h1 b1 .null := D1 (Or.inr (own_u hw 33 rfl)) (ty := (.array .byte)) (by decide)
  have g_b1 := own_ge Z0 ga1
  have Zs9 := Nat.le_trans Z0 E1.1
  refine own_r X1 D 2 rfl ?_
  refine own_newAk X1 hx hZ (own_u hw 7 rfl) e1 (own_dd D rfl) (by decide) (cap := 2) (by decide) (by decide) (by decide) (by decide) 2 rfl fun T10 h10 k10 b10 X10 e10 E10 ga10 V10 Ex10 => ?_
  have sz_b10 := own_ge Kp6.1 ga10
  have ne11 := own_ne1 A1.lt ga10
  have f12 := f2.ext E10
  have f13 := f3.ext E10
  have f14 := f4.ext E10
  have f15 := f5.ext E10
  have f16 := A1.ext E10
  have f17 := f7.ext E10
  have f18 := f8.ext E10
  have Kp19 := Kp6.ext E10
  have f20 : Arv Z h10 b10 k10 .char (2 : Int32) [(.int 0), (.int 0)] (.int 0) := V10
  have g_b10 := own_ge Zs9 ga10
  have Zs21 := Nat.le_trans Zs9 E10.1
  refine own_r X10 D 3 rfl ?_
  refine own_stCk X10 N0 hx hZ e10 f20 g_b10 (i := 0) ⟨by decide, by decide⟩ rfl (Nat.le_of_ble_eq_true rfl) (own_dd D rfl) fun T22 h22 L22 X22 N22 e22 W22 V22 => ?_
  have f23 := f12.wr W22
  have f24 := f13.wr W22
  have f25 := f14.wr W22
  have f26 := f15.wr W22
  have f27 := f16.wr W22
  have f28 := f17.other W22 (Or.inl ne11)
  have f29 := f18.other W22 (Or.inl ne11)
  have Kp30 := Kp19.wr W22 (Or.inr sz_b10)
  have f31 : Arv Z h22 b10 k10 .char (2 : Int32) [(.int (nar .char (own_d_0 p2))), (.int 0)] (.int 0) := V22
  have Zs32 : n0 ≤ h22.size := by rw [W22.size]; exact Zs21
  refine own_r X22 D 3 rfl ?_
  refine own_stCk X22 N22 hx hZ e22 f31 g_b10 (i := 1) ⟨by decide, by decide⟩ rfl (Nat.le_of_ble_eq_true rfl) (own_dd D rfl) fun T33 h33 L33 X33 N33 e33 W33 V33 => ?_
  have f34 := f23.wr W33
  have f35 := f24.wr W33
  have f36 := f25.wr W33
  have f37 := f26.wr W33
  have f38 := f27.wr W33
  have f39 := f28.other W33 (Or.inl ne11)
  have f40 := f29.other W33 (Or.inl ne11)
  have Kp41 := Kp30.wr W33 (Or.inr sz_b10)
  have f42 : Arv Z h33 b10 k10 .char (2 : Int32) [(.int (nar .char (own_d_0 p2))), (.int (nar .char (own_d_1 p2)))] (.int 0) := V33
  have Zs43 : n0 ≤ h33.size := by rw [W33.size]; exact Zs32
  have f44 : own_aC Z h33 b10 k10 (2 : Int32) (own_M2 p2 p3) := f42
  refine own_xI X33 N33 D hZ hown hml (own_u hw 8 rfl) (own_K19 hw) (own_ccU (u1 := (.null)) (u2 := (.int 0)) (M_1 := (own_M2 p2 p3)) (n1 := (2 : Int32)) hw Zs43 f34 f38 f40 f39 f35 f36 f37 f44 g_b1 ne11 hp_cs (by decide : ¬ ((2 : Int32) = (0 : Int32))) (by decide : ¬ ((2 : Int32) < (0 : Int32))) (by decide : (2 : Int32).toNatClampNeg ≤ 3) hp_xhf hp_xht hp_xrn hp_xj0 hp_xj1 hp_xk0 hp_xk1 hp_xg) 1 (by decide) e33 rfl rfl ?_
  rintro v45 T45 h45 L45 X45 N45 e45 ⟨x45, kx45, rfl, K45, zf_x45, o45_0, o45_1, o45_2, o45_3⟩
  have sz_x45 := Nat.le_trans Kp41.1 zf_x45
  have Kp54 := Kp41.trans K45 (own_al1 (Or.inr sz_b1))
  exact own_rA X45 D Bd rfl rfl rfl e45 ⟨N45, b1, x45, kx45, rfl, Kp54, sz_b1, sz_x45, o45_0, o45_1, o45_2, o45_3⟩ (by decide)
abbrev own_drU3_R : Room := { frames := 6, cells := 4, slots := 16, locals := 88 }
def own_drU3_q (Z : State) (p1 : Int32) (p2 : Int32) (p3 : Int32) (cs : Int32) (r1 : Int32) (jj : Nat) (h0 : Heap) (v : Option Value) (h : Heap) : Prop := ∃ (x : Addr) (y : Addr) (ky : ClassId), v = some (.ref x) ∧ Keep h0 h [] ∧ h0.size ≤ x ∧ h0.size ≤ y ∧ Exa Z h x own_cS ∧ own_eF10 Z h x (.ref y) ∧ own_eF9 Z h x (.int 1) ∧ own_aB Z h y ky ((3 : Int32) <<< ((1 : Int32) &&& 31)) (own_tbl (own_M3 p2 p3) (3 : Int32).toNatClampNeg (0 : Int32) (List.replicate ((3 : Int32) <<< ((1 : Int32) &&& 31)).toNatClampNeg (0 : Int32)))
theorem own_drU3 (hw : own_hw a0 Z) (Z0 : n0 ≤ h0.size) (i_SC : own_eS1 Z h0 (.int cs)) (i_SA : own_eS2 Z h0 (.int 1)) (i_SH : own_eS3 Z h0 (.int 0)) (i_SL : own_eS4 Z h0 (.int 8)) (hp_cs : ¬ (cs = (0 : Int32))) (hp_n0 : ¬ (p1 = (0 : Int32))) (hp_n1 : ¬ (p1 = (1 : Int32))) (hp_n2 : ¬ (p1 = (2 : Int32))) (hp_xhf : own_cf (own_M3 p2 p3) (3 : Int32) (3 : Int32) r1 jj (0 : Int32)) (hp_xht : own_tbo (own_M3 p2 p3) (3 : Int32) (3 : Int32) ((3 : Int32) <<< ((1 : Int32) &&& 31)) (3 : Int32).toNatClampNeg (0 : Int32) (List.replicate ((3 : Int32) <<< ((1 : Int32) &&& 31)).toNatClampNeg (0 : Int32))) (hp_xrn : ¬ (r1 = (3 : Int32))) (hp_xj0 : ¬ ((r1 <<< ((1 : Int32) &&& 31)) < (0 : Int32))) (hp_xj1 : (r1 <<< ((1 : Int32) &&& 31)) < ((3 : Int32) <<< ((1 : Int32) &&& 31))) (hp_xk0 : ¬ (((r1 <<< ((1 : Int32) &&& 31)) + (1 : Int32)) < (0 : Int32))) (hp_xk1 : ((r1 <<< ((1 : Int32) &&& 31)) + (1 : Int32)) < ((3 : Int32) <<< ((1 : Int32) &&& 31))) (hp_xg : (255 : Int32) < (own_gc (own_get (own_tbl (own_M3 p2 p3) (3 : Int32).toNatClampNeg (0 : Int32) (List.replicate ((3 : Int32) <<< ((1 : Int32) &&& 31)).toNatClampNeg (0 : Int32))) (r1 <<< ((1 : Int32) &&& 31))) (own_get (own_tbl (own_M3 p2 p3) (3 : Int32).toNatClampNeg (0 : Int32) (List.replicate ((3 : Int32) <<< ((1 : Int32) &&& 31)).toNatClampNeg (0 : Int32))) ((r1 <<< ((1 : Int32) &&& 31)) + (1 : Int32))))) :
    own_C l Z own_y16 method_2_code 6 (some (.object "java/lang/String")) ws own_drU3_R #[(.int p1), (.int p2), (.int p3)] h0 (own_W n0 (own_drU3_q Z p1 p2 p3 cs r1 jj h0)) := by
  refine own_goW own_pn1 own_o1 #[.val (.int p1), .val (.int p2), .val (.int p3), .unset, .unset, .unset] (fun _ => rfl) fun p e s m below meth c s₁ Bd D hml hZ hown X0 e0 N0 => ?_
  have hx := D.1
  have K0 : Keep h0 h0 [] := Keep.refl h0 _
  refine own_r X0 D 2 rfl ?_
  show own_H s₁ 2 #[.val (.int p1), .val (.int p2), .val (.int p3), .unset, .unset, .unset] [(.int (p2.toUInt32.toUInt16.toUInt32.toInt32))]
  rw [show (p2.toUInt32.toUInt16.toUInt32.toInt32) = (own_d_0 p2) from rfl]
  refine own_r X0 D 5 rfl ?_
  show own_H s₁ 8 #[.val (.int p1), .val (.int p2), .val (.int p3), .val (.int (own_d_0 p2)), .unset, .unset] [(.int (((p2.toUInt32 >>> ((16 : Int32) &&& 31).toUInt32).toInt32).toUInt32.toUInt16.toUInt32.toInt32))]
  rw [show (((p2.toUInt32 >>> ((16 : Int32) &&& 31).toUInt32).toInt32).toUInt32.toUInt16.toUInt32.toInt32) = (own_d_1 p2) from rfl]
  refine own_r X0 D 5 rfl ?_
  show own_H s₁ 15 #[.val (.int p1), .val (.int p2), .val (.int p3), .val (.int (own_d_0 p2)), .val (.int (own_d_1 p2)), .unset] [(.int (((p3.toUInt32 >>> ((16 : Int32) &&& 31).toUInt32).toInt32).toUInt32.toUInt16.toUInt32.toInt32))]
  rw [show (((p3.toUInt32 >>> ((16 : Int32) &&& 31).toUInt32).toInt32).toUInt32.toUInt16.toUInt32.toInt32) = (own_d_2 p3) from rfl]
  refine own_r X0 D 2 rfl ?_
  refine own_fY X0 D rfl (feq hp_n0).2 ?_
  refine own_r X0 D 2 rfl ?_
  refine own_cY X0 D rfl (feq hp_n1).2 ?_
  refine own_r X0 D 2 rfl ?_
  refine own_cY X0 D rfl (feq hp_n2).2 ?_
  refine own_newOk X0 hx hZ hown (own_u hw 4 rfl) (own_u hw 5 rfl) (own_u hw 6 rfl) e0 (own_dd D rfl) (by decide) (by decide) fun T1 h1 b1 X1 e1 E1 ga1 A1 D1 => ?_
  have sz_b1 := own_ge K0.1 ga1
  have f2 := i_SC.ext E1
  have f3 := i_SA.ext E1
  have f4 := i_SH.ext E1
  have f5 := i_SL.ext E1
  have Kp6 := K0.ext E1
  have f7 : own_eF9 Z h1 b1 (.int 0) := D1 (Or.inr (own_u hw 31 rfl)) (ty := .byte) (by decide)
  have f8 : own_eF10 Z h1 b1 .null := D1 (Or.inr (own_u hw 33 rfl)) (ty := (.array .byte)) (by decide)
  have g_b1 := own_ge Z0 ga1
  have Zs9 := Nat.le_trans Z0 E1.1
  refine own_r X1 D 2 rfl ?_
  refine own_newAk X1 hx hZ (own_u hw 7 rfl) e1 (own_dd D rfl) (by decide) (cap := 3) (by decide) (by decide) (by decide) (by decide) 3 rfl fun T10 h10 k10 b10 X10 e10 E10 ga10 V10 Ex10 => ?_
  have sz_b10 := own_ge Kp6.1 ga10
  have ne11 := own_ne1 A1.lt ga10
  have f12 := f2.ext E10
  have f13 := f3.ext E10
  have f14 := f4.ext E10
  have f15 := f5.ext E10
  have f16 := A1.ext E10
  have f17 := f7.ext E10
  have f18 := f8.ext E10
  have Kp19 := Kp6.ext E10
  have f20 : Arv Z h10 b10 k10 .char (3 : Int32) [(.int 0), (.int 0), (.int 0)] (.int 0) := V10
  have g_b10 := own_ge Zs9 ga10
  have Zs21 := Nat.le_trans Zs9 E10.1
  refine own_r X10 D 3 rfl ?_
  refine own_stCk X10 N0 hx hZ e10 f20 g_b10 (i := 0) ⟨by decide, by decide⟩ rfl (Nat.le_of_ble_eq_true rfl) (own_dd D rfl) fun T22 h22 L22 X22 N22 e22 W22 V22 => ?_
  have f23 := f12.wr W22
  have f24 := f13.wr W22
  have f25 := f14.wr W22
  have f26 := f15.wr W22
  have f27 := f16.wr W22
  have f28 := f17.other W22 (Or.inl ne11)
  have f29 := f18.other W22 (Or.inl ne11)
  have Kp30 := Kp19.wr W22 (Or.inr sz_b10)
  have f31 : Arv Z h22 b10 k10 .char (3 : Int32) [(.int (nar .char (own_d_0 p2))), (.int 0), (.int 0)] (.int 0) := V22
  have Zs32 : n0 ≤ h22.size := by rw [W22.size]; exact Zs21
  refine own_r X22 D 3 rfl ?_
  refine own_stCk X22 N22 hx hZ e22 f31 g_b10 (i := 1) ⟨by decide, by decide⟩ rfl (Nat.le_of_ble_eq_true rfl) (own_dd D rfl) fun T33 h33 L33 X33 N33 e33 W33 V33 => ?_
  have f34 := f23.wr W33
  have f35 := f24.wr W33
  have f36 := f25.wr W33
  have f37 := f26.wr W33
  have f38 := f27.wr W33
  have f39 := f28.other W33 (Or.inl ne11)
  have f40 := f29.other W33 (Or.inl ne11)
  have Kp41 := Kp30.wr W33 (Or.inr sz_b10)
  have f42 : Arv Z h33 b10 k10 .char (3 : Int32) [(.int (nar .char (own_d_0 p2))), (.int (nar .char (own_d_1 p2))), (.int 0)] (.int 0) := V33
  have Zs43 : n0 ≤ h33.size := by rw [W33.size]; exact Zs32
  refine own_r X33 D 3 rfl ?_
  refine own_stCk X33 N33 hx hZ e33 f42 g_b10 (i := 2) ⟨by decide, by decide⟩ rfl (Nat.le_of_ble_eq_true rfl) (own_dd D rfl) fun T44 h44 L44 X44 N44 e44 W44 V44 => ?_
  have f45 := f34.wr W44
  have f46 := f35.wr W44
  have f47 := f36.wr W44
  have f48 := f37.wr W44
  have f49 := f38.wr W44
  have f50 := f39.other W44 (Or.inl ne11)
  have f51 := f40.other W44 (Or.inl ne11)
  have Kp52 := Kp41.wr W44 (Or.inr sz_b10)
  have f53 : Arv Z h44 b10 k10 .char (3 : Int32) [(.int (nar .char (own_d_0 p2))), (.int (nar .char (own_d_1 p2))), (.int (nar .char (own_d_2 p3)))] (.int 0) := V44
  have Zs54 : n0 ≤ h44.size := by rw [W44.size]; exact Zs43
  have f55 : own_aC Z h44 b10 k10 (3 : Int32) (own_M3 p2 p3) := f53
  refine own_xI X44 N44 D hZ hown hml (own_u hw 8 rfl) (own_K19 hw) (own_ccU (u1 := (.null)) (u2 := (.int 0)) (M_1 := (own_M3 p2 p3)) (n1 := (3 : Int32)) hw Zs54 f45 f49 f51 f50 f46 f47 f48 f55 g_b1 ne11 hp_cs (by decide : ¬ ((3 : Int32) = (0 : Int32))) (by decide : ¬ ((3 : Int32) < (0 : Int32))) (by decide : (3 : Int32).toNatClampNeg ≤ 3) hp_xhf hp_xht hp_xrn hp_xj0 hp_xj1 hp_xk0 hp_xk1 hp_xg) 1 (by decide) e44 rfl rfl ?_
  rintro v56 T56 h56 L56 X56 N56 e56 ⟨x56, kx56, rfl, K56, zf_x56, o56_0, o56_1, o56_2, o56_3⟩
  have sz_x56 := Nat.le_trans Kp52.1 zf_x56
  have Kp65 := Kp52.trans K56 (own_al1 (Or.inr sz_b1))
  exact own_rA X56 D Bd rfl rfl rfl e56 ⟨N56, b1, x56, kx56, rfl, Kp65, sz_b1, sz_x56, o56_0, o56_1, o56_2, o56_3⟩ (by decide)
abbrev own_acl_R : Room := { frames := 0, cells := 0, slots := 0, locals := 0 }
theorem own_pn65 : plainFor own_y59 = true := plainFor_of_name (by first | (simp [plainName, overriddenIn]; done) | decide +kernel)
theorem own_acl (hw : own_hw a0 Z) (hp_h0 : ¬ (j1 < i1)) :
    own_C l Z own_y59 jdk_65_method_131_code 2 none ws own_acl_R #[(.int i1), (.int j1)] h0 (own_QN h0) := by
  refine own_go own_pn65 own_o65 #[.val (.int i1), .val (.int j1)] (fun _ => rfl) fun p e s m below meth c s₁ Bd D hml hZ hown X0 e0 => ?_
  have hx := D.1
  refine own_r X0 D 2 rfl ?_
  refine own_cY X0 D rfl (flt hp_h0).2.1 ?_
  exact own_retV X0 hx Bd.returns Bd.notSynchronized (own_dd D rfl) ⟨rfl, rfl, e0⟩ (by decide) (by decide)
theorem own_mn64 {n1 : Int32} (h0 : ¬ n1 < 0) (h : n1.toNatClampNeg ≤ 3) : own_F66 64 n1 = n1 := by
  have q := own_lt64 h0 h
  unfold own_F66
  split <;> first | rfl | (exact absurd q (by assumption))
abbrev own_crb_R : Room := { frames := 1, cells := 1, slots := 3, locals := 40 }
theorem own_pn64 : plainFor own_y61 = true := plainFor_of_name (by first | (simp [plainName, overriddenIn]; done) | decide +kernel)
def own_crb_q (Z : State) (a1 : Addr) (n1 : Int32) (k_1 : ClassId) (L_1 : List Int32) (h0 : Heap) (v : Option Value) (h : Heap) : Prop := ∃ (x : Addr) (kx : ClassId) (L_2 : List Int32), v = some (.ref x) ∧ Keep h0 h [] ∧ h0.size ≤ x ∧ own_aB Z h x kx n1 L_2
theorem own_crb (hw : own_hw a0 Z) (Z0 : n0 ≤ h0.size) (i_Ab : own_aB Z h0 a1 k_1 (64 : Int32) L_1) (hp_d0 : ¬ (n1 < (0 : Int32))) (hp_d3 : n1.toNatClampNeg ≤ 3) :
    own_C l Z own_y61 jdk_65_method_133_code 5 (some (.array .byte)) ws own_crb_R #[(.ref a1), (.int 0), (.int n1)] h0 (own_W n0 (own_crb_q Z a1 n1 k_1 L_1 h0)) := by
  refine own_goW own_pn64 own_o64 #[.val (.ref a1), .val (.int 0), .val (.int n1), .unset, .unset] (fun _ => rfl) fun p e s m below meth c s₁ Bd D hml hZ hown X0 e0 N0 => ?_
  have hx := D.1
  have K0 : Keep h0 h0 [] := Keep.refl h0 _
  refine own_r X0 D 2 rfl ?_
  refine own_xPN X0 D hZ hown hml (own_u hw 323 rfl) (own_K20 hw) (own_acl (i1 := (0 : Int32)) hw hp_d0) 0 (by decide) e0 rfl rfl fun T1 X1 e1 => ?_
  refine own_r X1 D 3 rfl ?_
  show own_H T1 8 #[.val (.ref a1), .val (.int 0), .val (.int n1), .unset, .unset] [(.int (n1 - (0 : Int32)))]
  rw [show (n1 - (0 : Int32)) = n1 from (own_s0 n1)]
  refine own_r X1 D 2 rfl ?_
  refine own_newAk X1 hx hZ (own_u hw 23 rfl) e1 (own_dd D rfl) hp_d0 (cap := 3) hp_d3 (by decide) (by decide) (by decide) n1.toNatClampNeg rfl fun T2 h2 k2 b2 X2 e2 E2 ga2 V2 Ex2 => ?_
  have sz_b2 := own_ge K0.1 ga2
  have f4 := i_Ab.ext E2
  have Kp5 := K0.ext E2
  have f6 : Arv Z h2 b2 k2 .byte n1 ((List.replicate n1.toNatClampNeg (0 : Int32)).map Value.int) (.int 0) := by rw [List.map_replicate]; exact V2
  have g_b2 := own_ge Z0 ga2
  refine own_r X2 D 6 rfl ?_
  refine own_via (own_len X2 hx hZ e2 f4 (own_dd D rfl)) ?_
  refine own_r X2 D 3 rfl ?_
  show own_H T2 24 #[.val (.ref a1), .val (.int 0), .val (.int n1), .val (.int n1), .val (.ref b2)] [(.int n1), (.int 64), (.int 0), (.ref b2), (.int 0), (.ref a1)]
  refine own_xP X2 D hZ hown hml (own_u hw 326 rfl) (own_K21 hw) (own_rm66 (p0 := (64 : Int32)) hw) 4 (by decide) e2 rfl rfl fun T8 X8 e8 => ?_
  show own_H T8 27 #[.val (.ref a1), .val (.int 0), .val (.int n1), .val (.int n1), .val (.ref b2)] [(.int (own_F66 (64 : Int32) n1)), (.int 0), (.ref b2), (.int 0), (.ref a1)]
  rw [show (own_F66 (64 : Int32) n1) = n1 from (own_mn64 hp_d0 hp_d3)]
  obtain ⟨T9, h9, L9, X9, N9, e9, K9, V9, st9⟩ := own_cpB (L := L_1) (M := (List.replicate n1.toNatClampNeg (0 : Int32))) X8 N0 hx hZ hown (own_u hw 329 rfl) (own_u hw 133 rfl) (own_u hw 131 rfl) (own_u hw 132 rfl) e8 f4 f6 g_b2 (nn := n1) hp_d0 (own_le64 hp_d3) (Nat.le_refl _) (Nat.le_of_eq List.length_replicate.symm) (pc := 27) (Ls := #[.val (.ref a1), .val (.int 0), .val (.int n1), .val (.int n1), .val (.ref b2)]) (rest := []) (by rw [hml]; rfl) (own_dd D rfl) (by decide) (W := 0) (Nat.le_of_eq rfl) (by decide)
  refine own_via st9 ?_
  have Kp11 := Kp5.trans K9 (own_al1 (Or.inr sz_b2))
  refine own_r X9 D 1 rfl ?_
  exact own_rA X9 D Bd rfl rfl rfl e9 ⟨N9, b2, k2, (own_cpl L_1 (List.replicate n1.toNatClampNeg (0 : Int32)) n1), rfl, Kp11, sz_b2, V9⟩ (by decide)
abbrev own_crr_R : Room := { frames := 2, cells := 1, slots := 3, locals := 56 }
theorem own_pn63 : plainFor own_y60 = true := plainFor_of_name (by first | (simp [plainName, overriddenIn]; done) | decide +kernel)
def own_crr_q (Z : State) (a1 : Addr) (n1 : Int32) (k_1 : ClassId) (L_1 : List Int32) (h0 : Heap) (v : Option Value) (h : Heap) : Prop := ∃ (x : Addr) (kx : ClassId) (L_2 : List Int32), v = some (.ref x) ∧ Keep h0 h [] ∧ h0.size ≤ x ∧ own_aB Z h x kx n1 L_2
theorem own_crr (hw : own_hw a0 Z) (Z0 : n0 ≤ h0.size) (i_Ab : own_aB Z h0 a1 k_1 (64 : Int32) L_1) (hp_d0 : ¬ (n1 < (0 : Int32))) (hp_d3 : n1.toNatClampNeg ≤ 3) :
    own_C l Z own_y60 jdk_65_method_132_code 3 (some (.array .byte)) ws own_crr_R #[(.ref a1), (.int 0), (.int n1)] h0 (own_W n0 (own_crr_q Z a1 n1 k_1 L_1 h0)) := by
  refine own_goW own_pn63 own_o63 #[.val (.ref a1), .val (.int 0), .val (.int n1)] (fun _ => rfl) fun p e s m below meth c s₁ Bd D hml hZ hown X0 e0 N0 => ?_
  have hx := D.1
  have K0 : Keep h0 h0 [] := Keep.refl h0 _
  refine own_r X0 D 1 rfl ?_
  refine own_fN X0 D rfl (teq (by decide : (0 : Int32) = (0 : Int32))).2 ?_
  refine own_r X0 D 2 rfl ?_
  refine own_via (own_len X0 hx hZ e0 i_Ab (own_dd D rfl)) ?_
  refine own_cN X0 D rfl (feq (own_ne64 hp_d0 hp_d3)).1 ?_
  refine own_r X0 D 3 rfl ?_
  refine own_xS X0 N0 D hZ hown hml (own_u hw 320 rfl) (own_K22 hw) (own_crb hw Z0 i_Ab hp_d0 hp_d3) 0 (by decide) e0 rfl rfl ?_
  rintro v1 T1 h1 L1 X1 N1 e1 ⟨x1, kx1, L_21, rfl, K1, zf_x1, o1_0⟩
  have sz_x1 := Nat.le_trans K0.1 zf_x1
  have Kp4 := K0.trans K1 (fun x hx => nomatch hx)
  exact own_rA X1 D Bd rfl rfl rfl e1 ⟨N1, x1, kx1, L_21, rfl, Kp4, sz_x1, o1_0⟩ (by decide)
abbrev own_xi_R : Room := { frames := 3, cells := 1, slots := 3, locals := 71 }
theorem own_pn67 : plainFor own_y19 = true := plainFor_of_name (by first | (simp [plainName, overriddenIn]; done) | decide +kernel)
theorem own_xi_ef (m : MethodId) (a1 : Addr) (a3 : Addr) (a2 : Addr) (n1 : Int32) : entryFrame m #[(.ref a1), (.ref a3), (.ref a2), (.int 0), (.int n1)] 11 = mkF m 0 #[.val (.ref a1), .val (.ref a3), .val (.ref a2), .val (.int 0), .val (.int n1), .unset, .unset, .unset, .unset, .unset, .unset] [] := by first | (simp [entryFrame, mkF, argsToLocals, Value.category]; done) | rfl
def own_xi_q (Z : State) (a1 : Addr) (a3 : Addr) (a2 : Addr) (n1 : Int32) (cs : Int32) (u8 : Addr) (u1 : Value) (u2 : Value) (k_1 : ClassId) (L_1 : List Int32) (h0 : Heap) (v : Option Value) (h : Heap) : Prop := ∃ (x : Addr) (kx : ClassId) (L_2 : List Int32), v = none ∧ Keep h0 h [a1] ∧ h0.size ≤ x ∧ Exa Z h a1 own_cS ∧ own_eF10 Z h a1 (.ref x) ∧ own_eF9 Z h a1 (.int 0) ∧ own_aB Z h x kx n1 L_2
theorem own_xi (hw : own_hw a0 Z) (Z0 : n0 ≤ h0.size) (i_SC : own_eS1 Z h0 (.int cs)) (i_S8 : own_eS5 Z h0 (.ref u8)) (i_SI : own_eS6 Z h0 (.ref a3)) (i_Es : Exa Z h0 a1 own_cS) (i_Fv : own_eF10 Z h0 a1 u1) (i_Fc : own_eF9 Z h0 a1 u2) (i_Ab : own_aB Z h0 a2 k_1 (64 : Int32) L_1) (g_a1 : n0 ≤ a1) (ne_a1_a2 : a1 ≠ a2) (ne_a3_u8 : a3 ≠ u8) (hp_cs : ¬ (cs = (0 : Int32))) (hp_z : ¬ (n1 = (0 : Int32))) (hp_d0 : ¬ (n1 < (0 : Int32))) (hp_d3 : n1.toNatClampNeg ≤ 3) :
    own_CC l Z own_y19 jdk_42_method_11_code 11 none [(800, 813, 816, 202)] ws own_xi_R #[(.ref a1), (.ref a3), (.ref a2), (.int 0), (.int n1)] h0 (own_W n0 (own_xi_q Z a1 a3 a2 n1 cs u8 u1 u2 k_1 L_1 h0)) := by
  refine MetFree.of_bodySF own_pn67 own_hisW ?_
  intro p e s m args below meth c s₁ Bd hml0 hP hK
  obtain ⟨rfl, hZ, hh⟩ := hP
  have hx := Bd.exec
  have hby := Bd.bytes
  have D := own_TBI hx hby own_o67
  have hml : c.maxLocals = 11 := hml0
  have hown : s.vm.findClass "java/lang/String" = some m.cls := findClass_of_methodNamed Bd.named
  have hnm := (name_of_methodNamed Bd.named Bd.method).1
  have X0 : Stand p l e own_xi_R s m #[(.ref a1), (.ref a3), (.ref a2), (.int 0), (.int n1)] below meth c s₁ [] 0 0 := Stand.of_body Bd
  have e0 : s₁.heap = h0 := by rw [← hh, Bd.state]; rfl
  have N0 := Fr.nil n0
  have K0 : Keep h0 h0 [a1] := Keep.refl h0 _
  show own_G p e below (own_P s (own_W n0 (own_xi_q Z a1 a3 a2 n1 cs u8 u1 u2 k_1 L_1 h0)) own_xi_R.cells own_xi_R.slots) (s₁.setTop (entryFrame m #[(.ref a1), (.ref a3), (.ref a2), (.int 0), (.int n1)] 11))
  rw [own_xi_ef m a1 a3 a2 n1]
  refine own_r X0 D 1 rfl ?_
  obtain ⟨T1, X1, e1, st1⟩ := initO X0 hx hZ hown (own_u hw 15 rfl) (own_u hw 16 rfl) (own_u hw 17 rfl) e0 (g := (mkF m 1 #[.val (.ref a1), .val (.ref a3), .val (.ref a2), .val (.int 0), .val (.int n1), .unset, .unset, .unset, .unset, .unset, .unset] [(.ref a1)])) rfl (by rw [hml]; rfl) rfl (own_dd D rfl) (by decide) (W := 0) (by show 2 * 0 + _ ≤ _; exact Nat.le_of_eq rfl) (by decide)
  refine own_via st1 ?_
  show own_H T1 4 #[.val (.ref a1), .val (.ref a3), .val (.ref a2), .val (.int 0), .val (.int n1), .unset, .unset, .unset, .unset, .unset, .unset] []
  refine own_r X1 D 1 rfl ?_
  refine own_fY X1 D rfl (feq hp_z).2 ?_
  refine own_r X1 D 1 rfl ?_
  refine own_gS X1 D hZ hown (own_u hw 312 rfl) e1 i_S8 rfl fun T2 X2 e2 => ?_
  refine own_via (fun t k => Jvm.RoadKit.acmp (g := (mkF m 34 #[.val (.ref a1), .val (.ref a3), .val (.ref a2), .val (.int 0), .val (.int n1), .unset, .unset, .unset, .unset, .unset, .unset] [(.ref u8), (.ref a3)])) X2 hx rfl rfl rfl (pc0 := 34) (pc' := 346) (same := false) rfl (own_dd D rfl) rfl (decide_eq_false fun q => ne_a3_u8 (Value.ref.inj q)) (by decide) (by decide) k) ?_
  show own_H T2 346 #[.val (.ref a1), .val (.ref a3), .val (.ref a2), .val (.int 0), .val (.int n1), .unset, .unset, .unset, .unset, .unset, .unset] []
  refine own_r X2 D 1 rfl ?_
  refine own_gS X2 D hZ hown (own_u hw 314 rfl) e2 i_SI rfl fun T3 X3 e3 => ?_
  refine own_via (fun t k => Jvm.RoadKit.acmp (g := (mkF m 350 #[.val (.ref a1), .val (.ref a3), .val (.ref a2), .val (.int 0), .val (.int n1), .unset, .unset, .unset, .unset, .unset, .unset] [(.ref a3), (.ref a3)])) X3 hx rfl rfl rfl (pc0 := 350) (pc' := 353) (same := true) rfl (own_dd D rfl) rfl (decide_eq_true rfl) (by decide) (by decide) k) ?_
  show own_H T3 353 #[.val (.ref a1), .val (.ref a3), .val (.ref a2), .val (.int 0), .val (.int n1), .unset, .unset, .unset, .unset, .unset, .unset] []
  refine own_gS X3 D hZ hown (own_u hw 18 rfl) e3 i_SC rfl fun T4 X4 e4 => ?_
  refine own_fN X4 D rfl (feq hp_cs).1 ?_
  refine own_r X4 D 6 rfl ?_
  show own_H T4 366 #[.val (.ref a1), .val (.ref a3), .val (.ref a2), .val (.int 0), .val (.int n1), .unset, .unset, .unset, .unset, .unset, .unset] [(.int ((0 : Int32) + n1)), (.int 0), (.ref a2), (.ref a1)]
  rw [show ((0 : Int32) + n1) = n1 from (own_a0 n1)]
  refine own_xS X4 N0 D hZ hown hml (own_u hw 316 rfl) (own_K23 hw) (own_crr hw Z0 i_Ab hp_d0 hp_d3) 1 (by decide) e4 rfl rfl ?_
  rintro v5 T5 h5 L5 X5 N5 e5 ⟨x5, kx5, L_25, rfl, K5, zf_x5, o5_0⟩
  have ne6 := own_ne2 i_Es.lt zf_x5
  have sz_x5 := Nat.le_trans K0.1 zf_x5
  have f11 := i_Es.ext (own_ke K5)
  have f12 := i_Fv.ext (own_ke K5)
  have f13 := i_Fc.ext (own_ke K5)
  have Kp15 := K0.trans K5 (fun x hx => nomatch hx)
  refine own_putFk X5 N5 hx hZ hown (own_u hw 32 rfl) e5 f12 f11 (Or.inr ⟨(own_u hw 33 rfl), rfl, hnm⟩) (own_u hw 5 rfl) g_a1 (ty := (.array .byte)) (by decide) rfl rfl (own_dd D rfl) fun T17 h17 L17 X17 N17 e17 W17 F17 => ?_
  have f21 := f11.wr W17
  have f22 := f13.other W17 (Or.inr (slot_ne (Or.inr (own_u hw 31 rfl)) (Or.inr (own_u hw 33 rfl)) (by decide) rfl rfl))
  have f24 := o5_0.other W17 (Ne.symm ne6)
  have Kp25 := Kp15.wr W17 (Or.inl own_m0)
  refine own_r X17 D 2 rfl ?_
  refine own_putFNk X17 N17 hx hZ hown (own_u hw 30 rfl) e17 f22 f21 (Or.inr ⟨(own_u hw 31 rfl), rfl, hnm⟩) (own_u hw 5 rfl) g_a1 (ty := .byte) (by decide) rfl (by decide) (own_dd D rfl) fun T27 h27 L27 X27 N27 e27 W27 F27 => ?_
  have f31 := f21.wr W27
  have f33 := f24.other W27 (Ne.symm ne6)
  have f34 := F17.other W27 (Or.inr (slot_ne (Or.inr (own_u hw 33 rfl)) (Or.inr (own_u hw 31 rfl)) (by decide) rfl rfl))
  have Kp35 := Kp25.wr W27 (Or.inl own_m0)
  refine own_r X27 D 1 rfl ?_
  exact own_rV X27 D Bd rfl e27 ⟨N27, x5, kx5, L_25, rfl, Kp35, sz_x5, f31, f34, F27, f33⟩ (by decide)
abbrev own_xb_R : Room := { frames := 4, cells := 1, slots := 3, locals := 93 }
theorem own_pn42 : plainFor own_y20 = true := plainFor_of_name (by first | (simp [plainName, overriddenIn]; done) | decide +kernel)
def own_xb_q (Z : State) (a1 : Addr) (a2 : Addr) (n1 : Int32) (a3 : Addr) (cs : Int32) (fm : Value) (u8 : Addr) (u1 : Value) (u2 : Value) (k_1 : ClassId) (L_1 : List Int32) (h0 : Heap) (v : Option Value) (h : Heap) : Prop := ∃ (x : Addr) (kx : ClassId) (L_2 : List Int32), v = none ∧ Keep h0 h [a1] ∧ h0.size ≤ x ∧ Exa Z h a1 own_cS ∧ own_eF10 Z h a1 (.ref x) ∧ own_eF9 Z h a1 (.int 0) ∧ own_aB Z h x kx n1 L_2
theorem own_xb (hw : own_hw a0 Z) (Z0 : n0 ≤ h0.size) (i_SC : own_eS1 Z h0 (.int cs)) (i_SF : own_eS0 Z h0 fm) (i_S8 : own_eS5 Z h0 (.ref u8)) (i_SI : own_eS6 Z h0 (.ref a3)) (i_E3 : Exa Z h0 a3 "sun/nio/cs/ISO_8859_1") (i_Es : Exa Z h0 a1 own_cS) (i_Fv : own_eF10 Z h0 a1 u1) (i_Fc : own_eF9 Z h0 a1 u2) (i_Ab : own_aB Z h0 a2 k_1 (64 : Int32) L_1) (g_a1 : n0 ≤ a1) (ne_a1_a2 : a1 ≠ a2) (ne_a3_u8 : a3 ≠ u8) (hp_cs : ¬ (cs = (0 : Int32))) (hp_fm : fm.isRef = true) (hp_z : ¬ (n1 = (0 : Int32))) (hp_d0 : ¬ (n1 < (0 : Int32))) (hp_d3 : n1.toNatClampNeg ≤ 3) :
    own_C l Z own_y20 jdk_42_method_10_code 5 none ws own_xb_R #[(.ref a1), (.ref a2), (.int 0), (.int n1), (.ref a3)] h0 (own_W n0 (own_xb_q Z a1 a2 n1 a3 cs fm u8 u1 u2 k_1 L_1 h0)) := by
  refine own_goW own_pn42 own_o42 #[.val (.ref a1), .val (.ref a2), .val (.int 0), .val (.int n1), .val (.ref a3)] (fun _ => rfl) fun p e s m below meth c s₁ Bd D hml hZ hown X0 e0 N0 => ?_
  have hx := D.1
  have K0 : Keep h0 h0 [a1] := Keep.refl h0 _
  refine own_r X0 D 2 rfl ?_
  refine own_xP X0 D hZ hown hml (own_u hw 117 rfl) (own_K24 hw) (own_rn hw) 1 (by decide) e0 rfl rfl fun T1 X1 e1 => ?_
  obtain ⟨T2, X2, e2, st2⟩ := castY X1 hx hZ hown (own_u hw 196 rfl) e1 (Ins.of_exa i_E3 (own_u hw 197 rfl)) (g := (mkF m 6 #[.val (.ref a1), .val (.ref a2), .val (.int 0), .val (.int n1), .val (.ref a3)] [(.ref a3), (.ref a1)])) rfl rfl (own_dd D rfl)
  refine own_via st2 ?_
  refine own_r X2 D 4 rfl ?_
  refine own_via (own_len X2 hx hZ e2 i_Ab (own_dd D rfl)) ?_
  refine own_xP X2 D hZ hown hml (own_u hw 121 rfl) (own_K25 hw) (own_coc (i1 := (0 : Int32)) (n1 := (64 : Int32)) hw i_SF hp_fm (own_or64 hp_d0 hp_d3) (own_mn hp_d0 hp_d3)) 3 (by decide) e2 rfl rfl fun T3 X3 e3 => ?_
  refine own_r X3 D 1 rfl ?_
  obtain ⟨v4, T4, h4, L4, X4, N4, e4, hq4, st4⟩ := own_callIC (y := own_y19) (W := 0) (a := a1) X3 N0 hx hZ rfl hown (own_u hw 198 rfl) (own_u hw 199 rfl) (own_u hw 6 rfl) (own_u hw 200 rfl) (by decide) (own_xi hw Z0 i_SC i_S8 i_SI i_Es i_Fv i_Fc i_Ab g_a1 ne_a1_a2 ne_a3_u8 hp_cs hp_z hp_d0 hp_d3) (by decide) (by decide) (by decide) (by decide) e3 (pc := 18) (Ls := #[.val (.ref a1), .val (.ref a2), .val (.int 0), .val (.int n1), .val (.ref a3)]) (st := [(.int n1), (.int 0), (.ref a2), (.ref a3), (.ref a1)]) (argsL := [(.ref a3), (.ref a2), (.int 0), (.int n1)]) (rest := []) (by rw [hml]; rfl) (lenOf own_pd20 rfl) rfl rfl (Nat.le_of_eq rfl) (own_dd D rfl)
  obtain ⟨x4, kx4, L_24, rfl, K4, zf_x4, o4_0, o4_1, o4_2, o4_3⟩ := hq4
  refine own_via st4 ?_
  have sz_x4 := Nat.le_trans K0.1 zf_x4
  have Kp15 := K0.trans K4 (own_al1 (Or.inl own_m0))
  exact own_rV X4 D Bd rfl e4 ⟨N4, x4, kx4, L_24, rfl, Kp15, sz_x4, o4_0, o4_1, o4_2, o4_3⟩ (by decide)
abbrev own_xi0_R : Room := { frames := 1, cells := 4, slots := 8, locals := 12 }
theorem own_xi0_ef (m : MethodId) (a1 : Addr) (a3 : Addr) (a2 : Addr) : entryFrame m #[(.ref a1), (.ref a3), (.ref a2), (.int 0), (.int 0)] 11 = mkF m 0 #[.val (.ref a1), .val (.ref a3), .val (.ref a2), .val (.int 0), .val (.int 0), .unset, .unset, .unset, .unset, .unset, .unset] [] := by first | (simp [entryFrame, mkF, argsToLocals, Value.category]; done) | rfl
def own_xi0_q (Z : State) (a1 : Addr) (a3 : Addr) (a2 : Addr)  (h0 : Heap) (v : Option Value) (h : Heap) : Prop := ∃ (x : Addr) (kx : ClassId), v = none ∧ Keep h0 h [a1] ∧ Exa Z h a1 own_cS ∧ own_eF10 Z h a1 (.ref x) ∧ own_eF9 Z h a1 (.int 0) ∧ own_aB Z h x kx (0 : Int32) ([] : List Int32)
theorem own_xi0 (hw : own_hw a0 Z) (Z0 : n0 ≤ h0.size) (i_Es : Exa Z h0 a1 own_cS) (i_Fv : own_eF10 Z h0 a1 .null) (i_Fc : own_eF9 Z h0 a1 (.int 0)) (g_a1 : n0 ≤ a1) :
    own_CCH l Z own_EL own_y19 jdk_42_method_11_code 11 none [(800, 813, 816, 202)] ws own_xi0_R #[(.ref a1), (.ref a3), (.ref a2), (.int 0), (.int 0)] h0 (own_W n0 (own_xi0_q Z a1 a3 a2 h0)) := by
  refine MetFree.of_bodySF own_pn67 own_hisW ?_
  intro p e s m args below meth c s₁ Bd hml0 hP hK
  obtain ⟨rfl, hZ, hh, hCH⟩ := hP
  have hx := Bd.exec
  have hby := Bd.bytes
  have D := own_TBI hx hby own_o67
  have hml : c.maxLocals = 11 := hml0
  have hown : s.vm.findClass "java/lang/String" = some m.cls := findClass_of_methodNamed Bd.named
  have hnm := (name_of_methodNamed Bd.named Bd.method).1
  have X0 : Stand p l e own_xi0_R s m #[(.ref a1), (.ref a3), (.ref a2), (.int 0), (.int 0)] below meth c s₁ [] 0 0 := Stand.of_body Bd
  have e0 : s₁.heap = h0 := by rw [← hh, Bd.state]; rfl
  have N0 := Fr.nil n0
  have K0 : Keep h0 h0 [a1] := Keep.refl h0 _
  have CR0 : CHr Z own_EL s.vm h0 s.vm h0 := CHr.refl hCH
  have hEL := own_hEL hw
  have lt_a1 := i_Es.lt
  have sf_a1 : Safe Z own_EL s.vm h0 a1 := own_safeN hZ.alike i_Es i_Fv
  have S0 := own_S0 s
  have W0 : 0 ≤ h0.size := Nat.zero_le _
  obtain ⟨Pw, hPw⟩ : ∃ P, P = (own_PH Z own_EL s (own_W n0 (own_xi0_q Z a1 a3 a2 h0)) own_xi0_R.cells own_xi0_R.slots) := ⟨_, rfl⟩
  show own_G p e below (own_PH Z own_EL s (own_W n0 (own_xi0_q Z a1 a3 a2 h0)) own_xi0_R.cells own_xi0_R.slots) (s₁.setTop (entryFrame m #[(.ref a1), (.ref a3), (.ref a2), (.int 0), (.int 0)] 11))
  rw [← hPw]
  rw [own_xi0_ef m a1 a3 a2]
  refine own_r X0 D 1 rfl ?_
  obtain ⟨T1, X1, e1, st1⟩ := initO X0 hx hZ hown (own_u hw 15 rfl) (own_u hw 16 rfl) (own_u hw 17 rfl) e0 (g := (mkF m 1 #[.val (.ref a1), .val (.ref a3), .val (.ref a2), .val (.int 0), .val (.int 0), .unset, .unset, .unset, .unset, .unset, .unset] [(.ref a1)])) rfl (by rw [hml]; rfl) rfl (own_dd D rfl) (by decide) (W := 0) (by show 2 * 0 + _ ≤ _; exact Nat.le_of_eq rfl) (by decide)
  refine own_via st1 ?_
  show own_H T1 4 #[.val (.ref a1), .val (.ref a3), .val (.ref a2), .val (.int 0), .val (.int 0), .unset, .unset, .unset, .unset, .unset, .unset] []
  refine own_r X1 D 1 rfl ?_
  refine own_fN X1 D rfl (teq (by decide : (0 : Int32) = (0 : Int32))).2 ?_
  refine own_r X1 D 1 rfl ?_
  obtain ⟨b2, T2, h2, s, kw2, c2, k2, X2, e2, E2, S2, Wk2, hZ, hown, f2E, f2C, f2V, f2A, CR2, hn2, st2⟩ := own_ldcH S0 W0 CR0 hEL X1 hx hZ (by simp) hown (own_u hw 201 rfl) (own_wS hw) e1 (vs := []) (z := (0 : Int32)) ⟨fun c hc => (by cases hc), rfl⟩ (by decide) rfl (pc := 10) (Ls := #[.val (.ref a1), .val (.ref a3), .val (.ref a2), .val (.int 0), .val (.int 0), .unset, .unset, .unset, .unset, .unset, .unset]) (rest := [(.ref a1)]) (own_dd D rfl) (n := 0) (by decide) (by decide) (by decide) (by decide)
  refine own_via st2 ?_
  have f3 := i_Es.ext E2
  have f4 := i_Fv.ext E2
  have f5 := i_Fc.ext E2
  have Kp6 := K0.ext E2
  have ne9 := (hn2 a1 (CHr.safe CR2 lt_a1 sf_a1)).2
  refine own_gF X2 D hZ hown (own_u hw 32 rfl) Via.refl e2 f2V rfl fun T10 X10 e10 => ?_
  refine own_putFk X10 N0 hx hZ hown (own_u hw 32 rfl) e10 f4 f3 (Or.inr ⟨(own_u hw 33 rfl), rfl, hnm⟩) (own_u hw 5 rfl) g_a1 (ty := (.array .byte)) (by decide) rfl rfl (own_dd D rfl) fun T11 h11 L11 X11 N11 e11 W11 F11 => ?_
  have CR18 := CHr.trans CR2 (CHr.wr W11 (CHr.safe CR2 lt_a1 sf_a1) CR2.1)
  have f12 := f3.wr W11
  have f13 := f5.other W11 (Or.inr (slot_ne (Or.inr (own_u hw 31 rfl)) (Or.inr (own_u hw 33 rfl)) (by decide) rfl rfl))
  have f17 := f2A.other W11 (Ne.symm ne9)
  have Kp19 := Kp6.wr W11 (Or.inl own_m0)
  have Wk20 : kw2 ≤ h11.size := by rw [W11.size]; exact Wk2
  refine own_r X11 D 1 rfl ?_
  obtain ⟨b22, T22, h22, s, kw22, c22, k22, X22, e22, E22, S22, Wk22, hZ, hown, f22E, f22C, f22V, f22A, CR22, hn22, st22⟩ := own_ldcH S2 Wk20 CR18 hEL X11 hx hZ (by simp) hown (own_u hw 201 rfl) (own_wS hw) e11 (vs := []) (z := (0 : Int32)) ⟨fun c hc => (by cases hc), rfl⟩ (by decide) rfl (pc := 19) (Ls := #[.val (.ref a1), .val (.ref a3), .val (.ref a2), .val (.int 0), .val (.int 0), .unset, .unset, .unset, .unset, .unset, .unset]) (rest := [(.ref a1)]) (own_dd D rfl) (n := 0) (by decide) (by decide) (by decide) (by decide)
  refine own_via st22 ?_
  have f23 := f12.ext E22
  have f24 := f13.ext E22
  have f28 := f17.ext E22
  have f29 := F11.ext E22
  have Kp30 := Kp19.ext E22
  refine own_gF X22 D hZ hown (own_u hw 30 rfl) Via.refl e22 f22C rfl fun T34 X34 e34 => ?_
  refine own_putFNk X34 N11 hx hZ hown (own_u hw 30 rfl) e34 f24 f23 (Or.inr ⟨(own_u hw 31 rfl), rfl, hnm⟩) (own_u hw 5 rfl) g_a1 (ty := .byte) (by decide) rfl (by decide) (own_dd D rfl) fun T35 h35 L35 X35 N35 e35 W35 F35 => ?_
  have CR46 := CHr.trans CR22 (CHr.wr W35 (CHr.safe CR22 lt_a1 sf_a1) CR22.1)
  have f36 := f23.wr W35
  have f40 := f28.other W35 (Ne.symm ne9)
  have f41 := f29.other W35 (Or.inr (slot_ne (Or.inr (own_u hw 33 rfl)) (Or.inr (own_u hw 31 rfl)) (by decide) rfl rfl))
  have Kp47 := Kp30.wr W35 (Or.inl own_m0)
  have Wk48 : kw22 ≤ h35.size := by rw [W35.size]; exact Wk22
  refine own_r X35 D 1 rfl ?_
  rw [hPw]
  refine own_held S22 hh hZ hEL ?_
  exact own_rV X35 D Bd rfl e35 ⟨⟨N35, c2, k2, rfl, Kp47, f36, f41, F35, f40⟩, Wk48, CR46⟩ (by decide)
abbrev own_xb0_R : Room := { frames := 2, cells := 4, slots := 8, locals := 34 }
def own_xb0_q (Z : State) (a1 : Addr) (a2 : Addr) (a3 : Addr) (fm : Value) (k_1 : ClassId) (L_1 : List Int32) (h0 : Heap) (v : Option Value) (h : Heap) : Prop := ∃ (x : Addr) (kx : ClassId), v = none ∧ Keep h0 h [a1] ∧ Exa Z h a1 own_cS ∧ own_eF10 Z h a1 (.ref x) ∧ own_eF9 Z h a1 (.int 0) ∧ own_aB Z h x kx (0 : Int32) ([] : List Int32)
theorem own_xb0 (hw : own_hw a0 Z) (Z0 : n0 ≤ h0.size) (i_SF : own_eS0 Z h0 fm) (i_E3 : Exa Z h0 a3 "sun/nio/cs/ISO_8859_1") (i_Es : Exa Z h0 a1 own_cS) (i_Fv : own_eF10 Z h0 a1 .null) (i_Fc : own_eF9 Z h0 a1 (.int 0)) (i_Ab : own_aB Z h0 a2 k_1 (64 : Int32) L_1) (g_a1 : n0 ≤ a1) (ne_a1_a2 : a1 ≠ a2) (hp_fm : fm.isRef = true) :
    own_CH l Z own_EL own_y20 jdk_42_method_10_code 5 none ws own_xb0_R #[(.ref a1), (.ref a2), (.int 0), (.int 0), (.ref a3)] h0 (own_W n0 (own_xb0_q Z a1 a2 a3 fm k_1 L_1 h0)) := by
  refine own_goH own_pn42 own_o42 #[.val (.ref a1), .val (.ref a2), .val (.int 0), .val (.int 0), .val (.ref a3)] (fun _ => rfl) fun p e s m below meth c s₁ Bd D hml hZ hown X0 e0 N0 hh CR0 S0 W0 Pw hPw => ?_
  have hx := D.1
  have K0 : Keep h0 h0 [a1] := Keep.refl h0 _
  have hEL := own_hEL hw
  refine own_r X0 D 2 rfl ?_
  refine own_xP X0 D hZ hown hml (own_u hw 117 rfl) (own_K24 hw) (own_rn hw) 1 (by decide) e0 rfl rfl fun T1 X1 e1 => ?_
  obtain ⟨T2, X2, e2, st2⟩ := castY X1 hx hZ hown (own_u hw 196 rfl) e1 (Ins.of_exa i_E3 (own_u hw 197 rfl)) (g := (mkF m 6 #[.val (.ref a1), .val (.ref a2), .val (.int 0), .val (.int 0), .val (.ref a3)] [(.ref a3), (.ref a1)])) rfl rfl (own_dd D rfl)
  refine own_via st2 ?_
  refine own_r X2 D 4 rfl ?_
  refine own_via (own_len X2 hx hZ e2 i_Ab (own_dd D rfl)) ?_
  refine own_xP X2 D hZ hown hml (own_u hw 121 rfl) (own_K25 hw) (own_coc (i1 := (0 : Int32)) (j1 := (0 : Int32)) (n1 := (64 : Int32)) hw i_SF hp_fm (by decide : ¬ ((((64 : Int32) ||| (0 : Int32)) ||| (0 : Int32)) < (0 : Int32))) (by decide : ¬ (((64 : Int32) - (0 : Int32)) < (0 : Int32)))) 3 (by decide) e2 rfl rfl fun T3 X3 e3 => ?_
  refine own_r X3 D 1 rfl ?_
  obtain ⟨v4, T4, h4, L4, s, kw4, X4, N4, e4, hq4, S4, Wk4, CR4, hZ, hown, st4⟩ := own_callICH (y := own_y19) (W := 0) (a := a1) S0 W0 CR0 hEL X3 N0 hx hZ rfl hown (own_u hw 198 rfl) (own_u hw 199 rfl) (own_u hw 6 rfl) (own_u hw 200 rfl) (by decide) (own_xi0 hw Z0 i_Es i_Fv i_Fc g_a1) (by decide) (by decide) (by decide) (by decide) e3 (pc := 18) (Ls := #[.val (.ref a1), .val (.ref a2), .val (.int 0), .val (.int 0), .val (.ref a3)]) (st := [(.int 0), (.int 0), (.ref a2), (.ref a3), (.ref a1)]) (argsL := [(.ref a3), (.ref a2), (.int 0), (.int 0)]) (rest := []) (by rw [hml]; rfl) (lenOf own_pd20 rfl) rfl rfl (Nat.le_of_eq rfl) (own_dd D rfl)
  obtain ⟨x4, kx4, rfl, K4, o4_0, o4_1, o4_2, o4_3⟩ := hq4
  refine own_via st4 ?_
  have Kp9 := K0.trans K4 (own_al1 (Or.inl own_m0))
  rw [hPw]
  refine own_held S4 hh hZ hEL ?_
  exact own_rV X4 D Bd rfl e4 ⟨⟨N4, x4, kx4, rfl, Kp9, o4_0, o4_1, o4_2, o4_3⟩, Wk4, CR4⟩ (by decide)
abbrev own_tbi_R : Room := { frames := 1, cells := 1, slots := 64, locals := 12 }
theorem own_pn8 : plainFor own_y0 = true := plainFor_of_name (by first | (simp [plainName, overriddenIn]; done) | decide +kernel)
def own_tbi_q (Z : State) (t1 : Addr)  (h0 : Heap) (v : Option Value) (h : Heap) : Prop := ∃ (la : Addr) (kl : ClassId), v = none ∧ Keep h0 h [t1] ∧ h0.size ≤ la ∧ Exa Z h t1 own_cT ∧ own_eF11 Z h t1 (.ref la) ∧ own_eF12 Z h t1 (.long (0 : Int64)) ∧ own_eF13 Z h t1 (.int 0) ∧ own_eF14 Z h t1 .null ∧ own_eF15 Z h t1 .null ∧ own_eF16 Z h t1 .null ∧ own_aB Z h la kl (64 : Int32) (List.replicate 64 (0 : Int32))
theorem own_tbi (hw : own_hw a0 Z) (Z0 : n0 ≤ h0.size) (i_Et : Exa Z h0 t1 own_cT) (i_Tl : own_eF11 Z h0 t1 .null) (i_Ts : own_eF12 Z h0 t1 (.long (0 : Int64))) (i_Tn : own_eF13 Z h0 t1 (.int 0)) (i_Tc : own_eF14 Z h0 t1 .null) (i_Tp : own_eF15 Z h0 t1 .null) (i_Ta : own_eF16 Z h0 t1 .null) (g_t1 : n0 ≤ t1) :
    own_C l Z own_y0 prog_37_method_1_code 1 none ws own_tbi_R #[(.ref t1)] h0 (own_W n0 (own_tbi_q Z t1 h0)) := by
  refine own_goW own_pn8 own_o8 #[.val (.ref t1)] (fun _ => rfl) fun p e s m below meth c s₁ Bd D hml hZ hown X0 e0 N0 => ?_
  have hx := D.1
  have K0 : Keep h0 h0 [t1] := Keep.refl h0 _
  refine own_r X0 D 1 rfl ?_
  obtain ⟨T1, X1, e1, st1⟩ := initO X0 hx hZ hown (own_u hw 40 rfl) (own_u hw 16 rfl) (own_u hw 17 rfl) e0 (g := (mkF m 1 #[.val (.ref t1)] [(.ref t1)])) rfl (by rw [hml]; rfl) rfl (own_dd D rfl) (by decide) (W := 0) (by show 2 * 0 + _ ≤ _; exact Nat.le_of_eq rfl) (by decide)
  refine own_via st1 ?_
  show own_H T1 4 #[.val (.ref t1)] []
  refine own_r X1 D 2 rfl ?_
  refine own_newAk X1 hx hZ (own_u hw 23 rfl) e1 (own_dd D rfl) (by decide) (cap := 64) (by decide) (by decide) (by decide) (by decide) 64 rfl fun T2 h2 k2 b2 X2 e2 E2 ga2 V2 Ex2 => ?_
  have sz_b2 := own_ge K0.1 ga2
  have ne3 := own_ne1 i_Et.lt ga2
  have f4 := i_Et.ext E2
  have f5 := i_Tl.ext E2
  have f6 := i_Ts.ext E2
  have f7 := i_Tn.ext E2
  have f8 := i_Tc.ext E2
  have f9 := i_Tp.ext E2
  have f10 := i_Ta.ext E2
  have Kp11 := K0.ext E2
  have f12 : Arv Z h2 b2 k2 .byte (64 : Int32) ((List.replicate 64 (0 : Int32)).map Value.int) (.int 0) := by rw [List.map_replicate]; exact V2
  refine own_putFk X2 N0 hx hZ hown (own_u hw 41 rfl) e2 f5 f4 (Or.inl (own_u hw 42 rfl)) (own_u hw 35 rfl) g_t1 (ty := (.array .byte)) (by decide) rfl rfl (own_dd D rfl) fun T14 h14 L14 X14 N14 e14 W14 F14 => ?_
  have f15 := f4.wr W14
  have f16 := f6.other W14 (Or.inr (slot_ne (Or.inl (own_u hw 49 rfl)) (Or.inl (own_u hw 42 rfl)) (by decide) rfl rfl))
  have f17 := f7.other W14 (Or.inr (slot_ne (Or.inl (own_u hw 51 rfl)) (Or.inl (own_u hw 42 rfl)) (by decide) rfl rfl))
  have f18 := f8.other W14 (Or.inr (slot_ne (Or.inl (own_u hw 73 rfl)) (Or.inl (own_u hw 42 rfl)) (by decide) rfl rfl))
  have f19 := f9.other W14 (Or.inr (slot_ne (Or.inl (own_u hw 189 rfl)) (Or.inl (own_u hw 42 rfl)) (by decide) rfl rfl))
  have f20 := f10.other W14 (Or.inr (slot_ne (Or.inl (own_u hw 246 rfl)) (Or.inl (own_u hw 42 rfl)) (by decide) rfl rfl))
  have f21 := f12.other W14 (Ne.symm ne3)
  have Kp22 := Kp11.wr W14 (Or.inl own_m0)
  exact own_rV X14 D Bd rfl e14 ⟨N14, b2, k2, rfl, Kp22, sz_b2, f15, F14, f16, f17, f18, f19, f20, f21⟩ (by decide)
abbrev own_ie_R : Room := { frames := 0, cells := 0, slots := 0, locals := 0 }
theorem own_pn9 : plainFor own_y11 = true := plainFor_of_name (by first | (simp [plainName, overriddenIn]; done) | decide +kernel)
def own_Fie (q1 : Int64) (n1 : Int32) : Int32 := (if q1 = (0 : Int64) then (if n1 = (0 : Int32) then (1 : Int32) else (0 : Int32)) else (0 : Int32))
theorem own_ie (hw : own_hw a0 Z) (i_Ts : own_eF12 Z h0 t1 (.long q1)) (i_Tn : own_eF13 Z h0 t1 (.int n1)) :
    own_C l Z own_y11 prog_37_method_13_code 1 (some .boolean) ws own_ie_R #[(.ref t1)] h0 (own_Q (.int (own_Fie q1 n1)) h0) := by
  refine own_go own_pn9 own_o9 #[.val (.ref t1)] (fun _ => rfl) fun p e s m below meth c s₁ Bd D hml hZ hown X0 e0 => ?_
  have hx := D.1
  refine own_r X0 D 1 rfl ?_
  refine own_gF X0 D hZ hown (own_u hw 48 rfl) Via.refl e0 i_Ts rfl fun T1 X1 e1 => ?_
  refine own_via (fun t k => XS.lconst X1.here hx rfl (own_dd D rfl) k) ?_
  show own_H T1 5 #[.val (.ref t1)] [(.long (0 : Int64)), (.long q1)]
  refine own_via (fun t k => XS.lcmp X1.here hx rfl (own_dd D rfl) rfl k) ?_
  show own_H T1 6 #[.val (.ref t1)] [(.int (lcmpW q1 (0 : Int64)))]
  by_cases hc2 : q1 = (0 : Int64)
  ·
    refine own_fN X1 D rfl (teq ((lw_eq _ _).mpr hc2)).2 ?_
    refine own_r X1 D 1 rfl ?_
    refine own_gF X1 D hZ hown (own_u hw 50 rfl) Via.refl e1 i_Tn rfl fun T3 X3 e3 => ?_
    by_cases hc4 : n1 = (0 : Int32)
    ·
      refine own_fN X3 D rfl (teq hc4).2 ?_
      refine own_r X3 D 2 rfl ?_
      exact own_retN (t := .boolean) X3 hx Bd.returns (by simp) Bd.notSynchronized (own_dd D rfl) ⟨(by show (some (.int 1) : Option Value) = some (.int (own_Fie q1 n1)); simp only [own_Fie, if_pos hc2, if_pos hc4]), rfl, e3⟩ (by decide) (by decide)
    ·
      refine own_fY X3 D rfl (feq hc4).2 ?_
      refine own_r X3 D 1 rfl ?_
      exact own_retN (t := .boolean) X3 hx Bd.returns (by simp) Bd.notSynchronized (own_dd D rfl) ⟨(by show (some (.int 0) : Option Value) = some (.int (own_Fie q1 n1)); simp only [own_Fie, if_pos hc2, if_neg hc4]), rfl, e3⟩ (by decide) (by decide)
  ·
    refine own_fY X1 D rfl (feq (fun q => hc2 ((lw_eq _ _).mp q))).2 ?_
    refine own_r X1 D 1 rfl ?_
    exact own_retN (t := .boolean) X1 hx Bd.returns (by simp) Bd.notSynchronized (own_dd D rfl) ⟨(by show (some (.int 0) : Option Value) = some (.int (own_Fie q1 n1)); simp only [own_Fie, if_neg hc2]), rfl, e1⟩ (by decide) (by decide)
abbrev own_gb1_R : Room := { frames := 1, cells := 0, slots := 0, locals := 40 }
theorem own_pn27 : plainFor own_y36 = true := plainFor_of_name (by first | (simp [plainName, overriddenIn]; done) | decide +kernel)
def own_gb1_q (Z : State) (b_1 : Addr) (n1 : Int32) (la : Addr) (k_1 : ClassId) (L_1 : List Int32) (kl : ClassId) (LL : List Int32) (h0 : Heap) (v : Option Value) (h : Heap) : Prop := v = none ∧ Keep h0 h [la] ∧ own_aB Z h la kl (64 : Int32) (own_cpl L_1 LL n1)
theorem own_gb1 (hw : own_hw a0 Z) (Z0 : n0 ≤ h0.size) (i_Ab : own_aB Z h0 b_1 k_1 n1 L_1) (i_Al : own_aB Z h0 la kl (64 : Int32) LL) (g_la : n0 ≤ la) (ne_b_1_la : b_1 ≠ la) (hp_d0 : ¬ (n1 < (0 : Int32))) (hp_d3 : n1.toNatClampNeg ≤ 3) (hp_hl : LL.length = 64) :
    own_C l Z own_y36 jdk_43_method_12_code 5 none ws own_gb1_R #[(.ref b_1), (.int 0), (.int n1), (.ref la), (.int 0)] h0 (own_W n0 (own_gb1_q Z b_1 n1 la k_1 L_1 kl LL h0)) := by
  refine own_goW own_pn27 own_o27 #[.val (.ref b_1), .val (.int 0), .val (.int n1), .val (.ref la), .val (.int 0)] (fun _ => rfl) fun p e s m below meth c s₁ Bd D hml hZ hown X0 e0 N0 => ?_
  have hx := D.1
  have K0 : Keep h0 h0 [la] := Keep.refl h0 _
  refine own_r X0 D 7 rfl ?_
  show own_H s₁ 8 #[.val (.ref b_1), .val (.int 0), .val (.int n1), .val (.ref la), .val (.int 0)] [(.int (n1 - (0 : Int32))), (.int 0), (.ref la), (.int 0), (.ref b_1)]
  rw [show (n1 - (0 : Int32)) = n1 from (own_s0 n1)]
  obtain ⟨T1, h1, L1, X1, N1, e1, K1, V1, st1⟩ := own_cpB (L := L_1) (M := LL) X0 N0 hx hZ hown (own_u hw 130 rfl) (own_u hw 133 rfl) (own_u hw 131 rfl) (own_u hw 132 rfl) e0 i_Ab i_Al g_la (nn := n1) hp_d0 (Nat.le_refl _) (own_le64 hp_d3) (by rw [hp_hl]; exact Nat.le_trans hp_d3 (by decide)) (pc := 8) (Ls := #[.val (.ref b_1), .val (.int 0), .val (.int n1), .val (.ref la), .val (.int 0)]) (rest := []) (by rw [hml]; rfl) (own_dd D rfl) (by decide) (W := 0) (Nat.le_of_eq rfl) (by decide)
  refine own_via st1 ?_
  have Kp3 := K0.trans K1 (own_al1 (Or.inl own_m0))
  exact own_rV X1 D Bd rfl e1 ⟨N1, rfl, Kp3, V1⟩ (by decide)
abbrev own_gbs_R : Room := { frames := 2, cells := 0, slots := 0, locals := 56 }
theorem own_pn21 : plainFor own_y29 = true := plainFor_of_name (by first | (simp [plainName, overriddenIn]; done) | decide +kernel)
def own_gbs_q (Z : State) (a1 : Addr) (n1 : Int32) (la : Addr) (cs : Int32) (fm : Value) (b_1 : Addr) (k_1 : ClassId) (L_1 : List Int32) (kl : ClassId) (LL : List Int32) (h0 : Heap) (v : Option Value) (h : Heap) : Prop := v = none ∧ Keep h0 h [la] ∧ own_aB Z h la kl (64 : Int32) (own_cpl L_1 LL n1)
theorem own_gbs (hw : own_hw a0 Z) (Z0 : n0 ≤ h0.size) (i_SC : own_eS1 Z h0 (.int cs)) (i_SF : own_eS0 Z h0 fm) (i_Es : Exa Z h0 a1 own_cS) (i_Fv : own_eF10 Z h0 a1 (.ref b_1)) (i_Fc : own_eF9 Z h0 a1 (.int 0)) (i_Ab : own_aB Z h0 b_1 k_1 n1 L_1) (i_Al : own_aB Z h0 la kl (64 : Int32) LL) (g_la : n0 ≤ la) (ne_b_1_la : b_1 ≠ la) (hp_cs : ¬ (cs = (0 : Int32))) (hp_fm : fm.isRef = true) (hp_d0 : ¬ (n1 < (0 : Int32))) (hp_d3 : n1.toNatClampNeg ≤ 3) (hp_hl : LL.length = 64) :
    own_C l Z own_y29 jdk_42_method_62_code 5 none ws own_gbs_R #[(.ref a1), (.int 0), (.int n1), (.ref la), (.int 0)] h0 (own_W n0 (own_gbs_q Z a1 n1 la cs fm b_1 k_1 L_1 kl LL h0)) := by
  refine own_goW own_pn21 own_o21 #[.val (.ref a1), .val (.int 0), .val (.int n1), .val (.ref la), .val (.int 0)] (fun _ => rfl) fun p e s m below meth c s₁ Bd D hml hZ hown X0 e0 N0 => ?_
  have hx := D.1
  have K0 : Keep h0 h0 [la] := Keep.refl h0 _
  refine own_r X0 D 3 rfl ?_
  refine own_xVP X0 D hZ hown hml (own_u hw 110 rfl) (own_K26 hw) (own_len0 hw i_SC i_Es i_Fv i_Fc i_Ab hp_cs) 2 (by decide) e0 i_Es rfl rfl fun T1 X1 e1 => ?_
  refine own_xPN X1 D hZ hown hml (own_u hw 111 rfl) (own_K27 hw) (own_cbe (i1 := (0 : Int32)) hw i_SF hp_fm (by decide : ¬ ((0 : Int32) < (0 : Int32))) hp_d0 (own_irr n1)) 0 (by decide) e1 rfl rfl fun T2 X2 e2 => ?_
  refine own_r X2 D 1 rfl ?_
  refine own_xP X2 D hZ hown hml (own_u hw 117 rfl) (own_K24 hw) (own_rn hw) 0 (by decide) e2 rfl rfl fun T3 X3 e3 => ?_
  refine own_r X3 D 6 rfl ?_
  refine own_via (own_len X3 hx hZ e3 i_Al (own_dd D rfl)) ?_
  show own_H T3 21 #[.val (.ref a1), .val (.int 0), .val (.int n1), .val (.ref la), .val (.int 0)] [(.int 64), (.int (n1 - (0 : Int32))), (.int 0)]
  rw [show (n1 - (0 : Int32)) = n1 from (own_s0 n1)]
  refine own_xP X3 D hZ hown hml (own_u hw 121 rfl) (own_K25 hw) (own_coc (i1 := (0 : Int32)) (n1 := (64 : Int32)) hw i_SF hp_fm (own_or64 hp_d0 hp_d3) (own_mn hp_d0 hp_d3)) 0 (by decide) e3 rfl rfl fun T4 X4 e4 => ?_
  refine own_r X4 D 2 rfl ?_
  refine own_xVP X4 D hZ hown hml (own_u hw 79 rfl) (own_K5 hw) (own_isl0 hw i_SC i_Fc hp_cs) 0 (by decide) e4 i_Es rfl rfl fun T5 X5 e5 => ?_
  refine own_fN X5 D rfl (feq (by decide : ¬ ((1 : Int32) = (0 : Int32)))).1 ?_
  refine own_r X5 D 1 rfl ?_
  refine own_gF X5 D hZ hown (own_u hw 32 rfl) Via.refl e5 i_Fv rfl fun T6 X6 e6 => ?_
  refine own_r X6 D 4 rfl ?_
  refine own_xS X6 N0 D hZ hown hml (own_u hw 127 rfl) (own_K28 hw) (own_gb1 hw Z0 i_Ab i_Al g_la ne_b_1_la hp_d0 hp_d3 hp_hl) 0 (by decide) e6 rfl rfl ?_
  rintro v7 T7 h7 L7 X7 N7 e7 ⟨rfl, K7, o7_0⟩
  have Kp12 := K0.trans K7 (own_al1 (Or.inl own_m0))
  refine own_r X7 D 1 rfl ?_
  exact own_rV X7 D Bd rfl e7 ⟨N7, rfl, Kp12, o7_0⟩ (by decide)
abbrev own_clb_R : Room := { frames := 3, cells := 0, slots := 0, locals := 72 }
theorem own_pn20 : plainFor own_y9 = true := plainFor_of_name (by first | (simp [plainName, overriddenIn]; done) | decide +kernel)
def own_clb_q (Z : State) (t1 : Addr) (a2 : Addr) (n1 : Int32) (cs : Int32) (fm : Value) (b_1 : Addr) (k_1 : ClassId) (L_1 : List Int32) (la : Addr) (kl : ClassId) (LL : List Int32) (h0 : Heap) (v : Option Value) (h : Heap) : Prop := v = none ∧ Keep h0 h [la] ∧ own_aB Z h la kl (64 : Int32) (own_cpl L_1 LL n1)
theorem own_clb (hw : own_hw a0 Z) (Z0 : n0 ≤ h0.size) (i_SC : own_eS1 Z h0 (.int cs)) (i_SF : own_eS0 Z h0 fm) (i_Et : Exa Z h0 t1 own_cT) (i_Tl : own_eF11 Z h0 t1 (.ref la)) (i_Ts : own_eF12 Z h0 t1 (.long (0 : Int64))) (i_Tn : own_eF13 Z h0 t1 (.int 0)) (i_Tc : own_eF14 Z h0 t1 .null) (i_Tp : own_eF15 Z h0 t1 .null) (i_Ta : own_eF16 Z h0 t1 .null) (i_Es : Exa Z h0 a2 own_cS) (i_Fv : own_eF10 Z h0 a2 (.ref b_1)) (i_Fc : own_eF9 Z h0 a2 (.int 0)) (i_Ab : own_aB Z h0 b_1 k_1 n1 L_1) (i_Al : own_aB Z h0 la kl (64 : Int32) LL) (g_la : n0 ≤ la) (ne_b_1_la : b_1 ≠ la) (ne_t1_la : t1 ≠ la) (ne_t1_b_1 : t1 ≠ b_1) (hp_cs : ¬ (cs = (0 : Int32))) (hp_fm : fm.isRef = true) (hp_d0 : ¬ (n1 < (0 : Int32))) (hp_d3 : n1.toNatClampNeg ≤ 3) (hp_hl : LL.length = 64) :
    own_C l Z own_y9 prog_37_method_15_code 4 none ws own_clb_R #[(.ref t1), (.ref a2), (.int 0), (.int n1)] h0 (own_W n0 (own_clb_q Z t1 a2 n1 cs fm b_1 k_1 L_1 la kl LL h0)) := by
  refine own_goW own_pn20 own_o20 #[.val (.ref t1), .val (.ref a2), .val (.int 0), .val (.int n1)] (fun _ => rfl) fun p e s m below meth c s₁ Bd D hml hZ hown X0 e0 N0 => ?_
  have hx := D.1
  have K0 : Keep h0 h0 [la] := Keep.refl h0 _
  refine own_r X0 D 4 rfl ?_
  refine own_gF X0 D hZ hown (own_u hw 41 rfl) Via.refl e0 i_Tl rfl fun T1 X1 e1 => ?_
  refine own_r X1 D 1 rfl ?_
  refine own_gF X1 D hZ hown (own_u hw 50 rfl) Via.refl e1 i_Tn rfl fun T2 X2 e2 => ?_
  refine own_xV X2 N0 D hZ hown hml (own_u hw 105 rfl) (own_K29 hw) (own_gbs hw Z0 i_SC i_SF i_Es i_Fv i_Fc i_Ab i_Al g_la ne_b_1_la hp_cs hp_fm hp_d0 hp_d3 hp_hl) 0 (by decide) e2 i_Es rfl rfl ?_
  rintro v3 T3 h3 L3 X3 N3 e3 ⟨rfl, K3, o3_0⟩
  have Kp15 := K0.trans K3 (own_al1 (Or.inl own_m0))
  exact own_rV X3 D Bd rfl e3 ⟨N3, rfl, Kp15, o3_0⟩ (by decide)
abbrev own_akL_R : Room := { frames := 4, cells := 0, slots := 0, locals := 87 }
theorem own_pn19 : plainFor own_y4 = true := plainFor_of_name (by first | (simp [plainName, overriddenIn]; done) | decide +kernel)
def own_akL_q (Z : State) (t1 : Addr) (a2 : Addr) (n1 : Int32) (cs : Int32) (fm : Value) (b_1 : Addr) (k_1 : ClassId) (L_1 : List Int32) (la : Addr) (kl : ClassId) (LL : List Int32) (h0 : Heap) (v : Option Value) (h : Heap) : Prop := v = none ∧ Keep h0 h [t1, la] ∧ Exa Z h t1 own_cT ∧ own_eF11 Z h t1 (.ref la) ∧ own_eF12 Z h t1 (.long (0 : Int64)) ∧ own_eF13 Z h t1 (.int n1) ∧ own_eF14 Z h t1 .null ∧ own_eF15 Z h t1 .null ∧ own_eF16 Z h t1 .null ∧ own_aB Z h la kl (64 : Int32) (own_cpl L_1 LL n1)
theorem own_akL (hw : own_hw a0 Z) (Z0 : n0 ≤ h0.size) (i_SC : own_eS1 Z h0 (.int cs)) (i_SF : own_eS0 Z h0 fm) (i_Et : Exa Z h0 t1 own_cT) (i_Tl : own_eF11 Z h0 t1 (.ref la)) (i_Ts : own_eF12 Z h0 t1 (.long (0 : Int64))) (i_Tn : own_eF13 Z h0 t1 (.int 0)) (i_Tc : own_eF14 Z h0 t1 .null) (i_Tp : own_eF15 Z h0 t1 .null) (i_Ta : own_eF16 Z h0 t1 .null) (i_Es : Exa Z h0 a2 own_cS) (i_Fv : own_eF10 Z h0 a2 (.ref b_1)) (i_Fc : own_eF9 Z h0 a2 (.int 0)) (i_Ab : own_aB Z h0 b_1 k_1 n1 L_1) (i_Al : own_aB Z h0 la kl (64 : Int32) LL) (g_t1 : n0 ≤ t1) (g_la : n0 ≤ la) (ne_b_1_la : b_1 ≠ la) (ne_t1_la : t1 ≠ la) (ne_t1_b_1 : t1 ≠ b_1) (ne_t1_a2 : t1 ≠ a2) (ne_a2_la : a2 ≠ la) (hp_cs : ¬ (cs = (0 : Int32))) (hp_fm : fm.isRef = true) (hp_d0 : ¬ (n1 < (0 : Int32))) (hp_d3 : n1.toNatClampNeg ≤ 3) (hp_hl : LL.length = 64) :
    own_C l Z own_y4 prog_37_method_6_code 6 none ws own_akL_R #[(.ref t1), (.ref a2), (.int 0), (.int n1), (.int 1)] h0 (own_W n0 (own_akL_q Z t1 a2 n1 cs fm b_1 k_1 L_1 la kl LL h0)) := by
  refine own_goW own_pn19 own_o19 #[.val (.ref t1), .val (.ref a2), .val (.int 0), .val (.int n1), .val (.int 1), .unset] (fun _ => rfl) fun p e s m below meth c s₁ Bd D hml hZ hown X0 e0 N0 => ?_
  have hx := D.1
  have K0 : Keep h0 h0 [t1, la] := Keep.refl h0 _
  refine own_r X0 D 3 rfl ?_
  show own_H s₁ 3 #[.val (.ref t1), .val (.ref a2), .val (.int 0), .val (.int n1), .val (.int 1), .unset] [(.int (n1 - (0 : Int32)))]
  rw [show (n1 - (0 : Int32)) = n1 from (own_s0 n1)]
  refine own_r X0 D 2 rfl ?_
  refine own_gF X0 D hZ hown (own_u hw 72 rfl) Via.refl e0 i_Tc rfl fun T1 X1 e1 => ?_
  refine own_oN X1 D rfl ?_
  refine own_r X1 D 1 rfl ?_
  refine own_fN X1 D rfl (feq (by decide : ¬ ((1 : Int32) = (0 : Int32)))).1 ?_
  refine own_r X1 D 2 rfl ?_
  refine own_gF X1 D hZ hown (own_u hw 41 rfl) Via.refl e1 i_Tl rfl fun T2 X2 e2 => ?_
  refine own_via (own_len X2 hx hZ e2 i_Al (own_dd D rfl)) ?_
  refine own_r X2 D 1 rfl ?_
  refine own_gF X2 D hZ hown (own_u hw 50 rfl) Via.refl e2 i_Tn rfl fun T3 X3 e3 => ?_
  refine own_r X3 D 1 rfl ?_
  show own_H T3 29 #[.val (.ref t1), .val (.ref a2), .val (.int 0), .val (.int n1), .val (.int 1), .val (.int n1)] [(.int 64), (.int n1)]
  refine own_cN X3 D rfl (flt (own_mn hp_d0 hp_d3)).2.2.1 ?_
  refine own_r X3 D 4 rfl ?_
  refine own_xR X3 N0 D hZ hown hml (own_u hw 101 rfl) (own_K30 hw) (own_clb hw Z0 i_SC i_SF i_Et i_Tl i_Ts i_Tn i_Tc i_Tp i_Ta i_Es i_Fv i_Fc i_Ab i_Al g_la ne_b_1_la ne_t1_la ne_t1_b_1 hp_cs hp_fm hp_d0 hp_d3 hp_hl) 0 (by decide) e3 i_Et rfl rfl ?_
  rintro v4 T4 h4 L4 X4 N4 e4 ⟨rfl, K4, o4_0⟩
  have f7 := i_Et.keep K4
  have f8 := i_Tl.keep K4 (own_nm1 ne_t1_la)
  have f9 := i_Ts.keep K4 (own_nm1 ne_t1_la)
  have f10 := i_Tn.keep K4 (own_nm1 ne_t1_la)
  have f11 := i_Tc.keep K4 (own_nm1 ne_t1_la)
  have f12 := i_Tp.keep K4 (own_nm1 ne_t1_la)
  have f13 := i_Ta.keep K4 (own_nm1 ne_t1_la)
  have Kp18 := K0.trans K4 (own_al1 (Or.inl own_m1))
  refine own_r X4 D 2 rfl ?_
  refine own_gF X4 D hZ hown (own_u hw 50 rfl) Via.refl e4 f10 rfl fun T20 X20 e20 => ?_
  refine own_r X20 D 2 rfl ?_
  show own_H T20 47 #[.val (.ref t1), .val (.ref a2), .val (.int 0), .val (.int n1), .val (.int 1), .val (.int n1)] [(.int ((0 : Int32) + n1)), (.ref t1)]
  rw [show ((0 : Int32) + n1) = n1 from (own_a0 n1)]
  refine own_putFk X20 N4 hx hZ hown (own_u hw 50 rfl) e20 f10 f7 (Or.inl (own_u hw 51 rfl)) (own_u hw 35 rfl) g_t1 (ty := .int) (by decide) rfl rfl (own_dd D rfl) fun T21 h21 L21 X21 N21 e21 W21 F21 => ?_
  have f24 := f7.wr W21
  have f25 := f8.other W21 (Or.inr (slot_ne (Or.inl (own_u hw 42 rfl)) (Or.inl (own_u hw 51 rfl)) (by decide) rfl rfl))
  have f26 := f9.other W21 (Or.inr (slot_ne (Or.inl (own_u hw 49 rfl)) (Or.inl (own_u hw 51 rfl)) (by decide) rfl rfl))
  have f27 := f11.other W21 (Or.inr (slot_ne (Or.inl (own_u hw 73 rfl)) (Or.inl (own_u hw 51 rfl)) (by decide) rfl rfl))
  have f28 := f12.other W21 (Or.inr (slot_ne (Or.inl (own_u hw 189 rfl)) (Or.inl (own_u hw 51 rfl)) (by decide) rfl rfl))
  have f29 := f13.other W21 (Or.inr (slot_ne (Or.inl (own_u hw 246 rfl)) (Or.inl (own_u hw 51 rfl)) (by decide) rfl rfl))
  have f34 := o4_0.other W21 (Ne.symm ne_t1_la)
  have Kp35 := Kp18.wr W21 (Or.inl own_m0)
  refine own_r X21 D 1 rfl ?_
  exact own_rV X21 D Bd rfl e21 ⟨N21, rfl, Kp35, f24, f25, f26, F21, f27, f28, f29, f34⟩ (by decide)
theorem own_c255 (i : Int32) (L : List Int32) : ¬ ((255 : Int32) < (nar .char (own_Fc1 i L))) := by
  have h := i2c_mask (own_get L i)
  have q := c_mask (own_get L i) 255 8 (by decide) (by decide)
  have e : own_Fc1 i L = nar .char ((own_get L i &&& (255 : Int32)).toUInt32.toUInt16.toUInt32.toInt32) := rfl
  have e2 : ∀ x : Int32, nar .char x = x.toUInt32.toUInt16.toUInt32.toInt32 := fun _ => rfl
  rw [e, e2, e2, h, h, h, Int32.lt_iff_toInt_lt, show (255 : Int32).toInt = 255 from rfl]
  omega
abbrev own_a3L_R : Room := { frames := 5, cells := 0, slots := 0, locals := 104 }
theorem own_pn13 : plainFor own_y3 = true := plainFor_of_name (by first | (simp [plainName, overriddenIn]; done) | decide +kernel)
def own_a3L_q (Z : State) (t1 : Addr) (a2 : Addr) (n1 : Int32) (cs : Int32) (fm : Value) (b_1 : Addr) (k_1 : ClassId) (L_1 : List Int32) (la : Addr) (kl : ClassId) (LL : List Int32) (h0 : Heap) (v : Option Value) (h : Heap) : Prop := v = none ∧ Keep h0 h [t1, la] ∧ Exa Z h t1 own_cT ∧ own_eF11 Z h t1 (.ref la) ∧ own_eF12 Z h t1 (.long (0 : Int64)) ∧ own_eF13 Z h t1 (.int n1) ∧ own_eF14 Z h t1 .null ∧ own_eF15 Z h t1 .null ∧ own_eF16 Z h t1 .null ∧ own_aB Z h la kl (64 : Int32) (own_cpl L_1 LL n1)
theorem own_a3L (hw : own_hw a0 Z) (Z0 : n0 ≤ h0.size) (i_SC : own_eS1 Z h0 (.int cs)) (i_SF : own_eS0 Z h0 fm) (i_Et : Exa Z h0 t1 own_cT) (i_Tl : own_eF11 Z h0 t1 (.ref la)) (i_Ts : own_eF12 Z h0 t1 (.long (0 : Int64))) (i_Tn : own_eF13 Z h0 t1 (.int 0)) (i_Tc : own_eF14 Z h0 t1 .null) (i_Tp : own_eF15 Z h0 t1 .null) (i_Ta : own_eF16 Z h0 t1 .null) (i_Es : Exa Z h0 a2 own_cS) (i_Fv : own_eF10 Z h0 a2 (.ref b_1)) (i_Fc : own_eF9 Z h0 a2 (.int 0)) (i_Ab : own_aB Z h0 b_1 k_1 n1 L_1) (i_Al : own_aB Z h0 la kl (64 : Int32) LL) (g_t1 : n0 ≤ t1) (g_la : n0 ≤ la) (ne_b_1_la : b_1 ≠ la) (ne_t1_la : t1 ≠ la) (ne_t1_b_1 : t1 ≠ b_1) (ne_t1_a2 : t1 ≠ a2) (ne_a2_la : a2 ≠ la) (hp_cs : ¬ (cs = (0 : Int32))) (hp_fm : fm.isRef = true) (hp_d0 : ¬ (n1 < (0 : Int32))) (hp_d3 : n1.toNatClampNeg ≤ 3) (hp_hl : LL.length = 64) :
    own_C l Z own_y3 prog_37_method_4_code 6 none ws own_a3L_R #[(.ref t1), (.ref a2), (.int 0), (.int n1)] h0 (own_W n0 (own_a3L_q Z t1 a2 n1 cs fm b_1 k_1 L_1 la kl LL h0)) := by
  refine own_goW own_pn13 own_o13 #[.val (.ref t1), .val (.ref a2), .val (.int 0), .val (.int n1), .unset, .unset] (fun _ => rfl) fun p e s m below meth c s₁ Bd D hml hZ hown X0 e0 N0 => ?_
  have hx := D.1
  have K0 : Keep h0 h0 [t1, la] := Keep.refl h0 _
  refine own_r X0 D 4 rfl ?_
  have J1 : ∀ (f : Nat) (i : Int32) (TJ1 : State) (hJ1 : Heap) (LJ1 : List Loc) (XJ1 : Stand p l e own_a3L_R s m #[(.ref t1), (.ref a2), (.int 0), (.int n1)] below meth c TJ1 LJ1 0 0) (NJ1 : Fr n0 LJ1) (eJ1 : TJ1.heap = hJ1) (KJ1 : Keep h0 hJ1 [t1, la]) (ZJ1 : n0 ≤ hJ1.size) (fJ1_0 : own_eS1 Z hJ1 (.int cs)) (fJ1_1 : own_eS0 Z hJ1 fm) (fJ1_2 : Exa Z hJ1 t1 own_cT) (fJ1_3 : own_eF11 Z hJ1 t1 (.ref la)) (fJ1_4 : own_eF12 Z hJ1 t1 (.long (0 : Int64))) (fJ1_5 : own_eF13 Z hJ1 t1 (.int 0)) (fJ1_6 : own_eF14 Z hJ1 t1 .null) (fJ1_7 : own_eF15 Z hJ1 t1 .null) (fJ1_8 : own_eF16 Z hJ1 t1 .null) (fJ1_9 : Exa Z hJ1 a2 own_cS) (fJ1_10 : own_eF10 Z hJ1 a2 (.ref b_1)) (fJ1_11 : own_eF9 Z hJ1 a2 (.int 0)) (fJ1_12 : own_aB Z hJ1 b_1 k_1 n1 L_1) (fJ1_13 : own_aB Z hJ1 la kl (64 : Int32) LL) (hI : own_al n1 f i), own_G p e below (own_P s (own_W n0 (own_a3L_q Z t1 a2 n1 cs fm b_1 k_1 L_1 la kl LL h0)) own_a3L_R.cells own_a3L_R.slots) (TJ1.setTop (mkF m 6 #[.val (.ref t1), .val (.ref a2), .val (.int 0), .val (.int n1), .val (.int 1), .val (.int i)] [])) := by
    intro f
    induction f with
    | zero =>
      intro i TJ1 hJ1 LJ1 XJ1 NJ1 eJ1 KJ1 ZJ1 fJ1_0 fJ1_1 fJ1_2 fJ1_3 fJ1_4 fJ1_5 fJ1_6 fJ1_7 fJ1_8 fJ1_9 fJ1_10 fJ1_11 fJ1_12 fJ1_13 hI
      have hJ : ¬ i < n1 := hI
      refine own_r XJ1 D 1 rfl ?_
      refine own_gF XJ1 D hZ hown (own_u hw 72 rfl) Via.refl eJ1 fJ1_6 rfl fun T2 X2 e2 => ?_
      refine own_oN X2 D rfl ?_
      refine own_r X2 D 1 rfl ?_
      refine own_fN X2 D rfl (feq (by decide : ¬ ((1 : Int32) = (0 : Int32)))).1 ?_
      refine own_r X2 D 2 rfl ?_
      refine own_cY X2 D rfl (flt hJ).2.1 ?_
      refine own_r X2 D 5 rfl ?_
      refine own_xV X2 NJ1 D hZ hown hml (own_u hw 96 rfl) (own_K31 hw) (own_akL hw ZJ1 fJ1_0 fJ1_1 fJ1_2 fJ1_3 fJ1_4 fJ1_5 fJ1_6 fJ1_7 fJ1_8 fJ1_9 fJ1_10 fJ1_11 fJ1_12 fJ1_13 g_t1 g_la ne_b_1_la ne_t1_la ne_t1_b_1 ne_t1_a2 ne_a2_la hp_cs hp_fm hp_d0 hp_d3 hp_hl) 0 (by decide) e2 fJ1_2 rfl rfl ?_
      rintro v3 T3 h3 L3 X3 N3 e3 ⟨rfl, K3, o3_0, o3_1, o3_2, o3_3, o3_4, o3_5, o3_6, o3_7⟩
      have Kp11 := KJ1.trans K3 (own_al2 (Or.inl own_m0) (Or.inl own_m1))
      exact own_rV X3 D Bd rfl e3 ⟨N3, rfl, Kp11, o3_0, o3_1, o3_2, o3_3, o3_4, o3_5, o3_6, o3_7⟩ (by decide)
    | succ f ih =>
      intro i TJ1 hJ1 LJ1 XJ1 NJ1 eJ1 KJ1 ZJ1 fJ1_0 fJ1_1 fJ1_2 fJ1_3 fJ1_4 fJ1_5 fJ1_6 fJ1_7 fJ1_8 fJ1_9 fJ1_10 fJ1_11 fJ1_12 fJ1_13 hI
      have hJ : i < n1 ∧ ¬ i < (0 : Int32) ∧ own_al n1 f (i + 1) := hI
      refine own_r XJ1 D 1 rfl ?_
      refine own_gF XJ1 D hZ hown (own_u hw 72 rfl) Via.refl eJ1 fJ1_6 rfl fun T13 X13 e13 => ?_
      refine own_oN X13 D rfl ?_
      refine own_r X13 D 1 rfl ?_
      refine own_fN X13 D rfl (feq (by decide : ¬ ((1 : Int32) = (0 : Int32)))).1 ?_
      refine own_r X13 D 2 rfl ?_
      refine own_cN X13 D rfl (tlt hJ.1).2.1 ?_
      refine own_r X13 D 2 rfl ?_
      refine own_xVP X13 D hZ hown hml (own_u hw 74 rfl) (own_K32 hw) (own_sch1 hw fJ1_0 fJ1_1 fJ1_9 fJ1_10 fJ1_11 fJ1_12 hp_cs hp_fm hJ.2.1 hJ.1) 0 (by decide) e13 fJ1_9 rfl rfl fun T14 X14 e14 => ?_
      refine own_r X14 D 1 rfl ?_
      refine own_cN X14 D rfl (flt (own_c255 _ _)).2.2.1 ?_
      refine own_r X14 D 5 rfl ?_
      exact ih  (i + (1 : Int32)) _ _ _ X14 NJ1 e14 KJ1 ZJ1 fJ1_0 fJ1_1 fJ1_2 fJ1_3 fJ1_4 fJ1_5 fJ1_6 fJ1_7 fJ1_8 fJ1_9 fJ1_10 fJ1_11 fJ1_12 fJ1_13 hJ.2.2
  exact J1 n1.toNatClampNeg (0 : Int32) _ _ _ X0 N0 e0 K0 Z0 i_SC i_SF i_Et i_Tl i_Ts i_Tn i_Tc i_Tp i_Ta i_Es i_Fv i_Fc i_Ab i_Al (own_al0 hp_d0)
abbrev own_a1L_R : Room := { frames := 6, cells := 0, slots := 0, locals := 121 }
theorem own_pn10 : plainFor own_y2 = true := plainFor_of_name (by first | (simp [plainName, overriddenIn]; done) | decide +kernel)
def own_a1L_q (Z : State) (t1 : Addr) (a2 : Addr) (cs : Int32) (fm : Value) (n1 : Int32) (b_1 : Addr) (k_1 : ClassId) (L_1 : List Int32) (la : Addr) (kl : ClassId) (LL : List Int32) (h0 : Heap) (v : Option Value) (h : Heap) : Prop := v = none ∧ Keep h0 h [t1, la] ∧ Exa Z h t1 own_cT ∧ own_eF11 Z h t1 (.ref la) ∧ own_eF12 Z h t1 (.long (0 : Int64)) ∧ own_eF13 Z h t1 (.int n1) ∧ own_eF14 Z h t1 .null ∧ own_eF15 Z h t1 .null ∧ own_eF16 Z h t1 .null ∧ own_aB Z h la kl (64 : Int32) (own_cpl L_1 LL n1)
theorem own_a1L (hw : own_hw a0 Z) (Z0 : n0 ≤ h0.size) (i_SC : own_eS1 Z h0 (.int cs)) (i_SF : own_eS0 Z h0 fm) (i_Et : Exa Z h0 t1 own_cT) (i_Tl : own_eF11 Z h0 t1 (.ref la)) (i_Ts : own_eF12 Z h0 t1 (.long (0 : Int64))) (i_Tn : own_eF13 Z h0 t1 (.int 0)) (i_Tc : own_eF14 Z h0 t1 .null) (i_Tp : own_eF15 Z h0 t1 .null) (i_Ta : own_eF16 Z h0 t1 .null) (i_Es : Exa Z h0 a2 own_cS) (i_Fv : own_eF10 Z h0 a2 (.ref b_1)) (i_Fc : own_eF9 Z h0 a2 (.int 0)) (i_Ab : own_aB Z h0 b_1 k_1 n1 L_1) (i_Al : own_aB Z h0 la kl (64 : Int32) LL) (g_t1 : n0 ≤ t1) (g_la : n0 ≤ la) (ne_b_1_la : b_1 ≠ la) (ne_t1_la : t1 ≠ la) (ne_t1_b_1 : t1 ≠ b_1) (ne_t1_a2 : t1 ≠ a2) (ne_a2_la : a2 ≠ la) (hp_cs : ¬ (cs = (0 : Int32))) (hp_fm : fm.isRef = true) (hp_d0 : ¬ (n1 < (0 : Int32))) (hp_d3 : n1.toNatClampNeg ≤ 3) (hp_hl : LL.length = 64) :
    own_C l Z own_y2 prog_37_method_3_code 2 none ws own_a1L_R #[(.ref t1), (.ref a2)] h0 (own_W n0 (own_a1L_q Z t1 a2 cs fm n1 b_1 k_1 L_1 la kl LL h0)) := by
  refine own_goW own_pn10 own_o10 #[.val (.ref t1), .val (.ref a2)] (fun _ => rfl) fun p e s m below meth c s₁ Bd D hml hZ hown X0 e0 N0 => ?_
  have hx := D.1
  have K0 : Keep h0 h0 [t1, la] := Keep.refl h0 _
  refine own_r X0 D 4 rfl ?_
  refine own_xVP X0 D hZ hown hml (own_u hw 57 rfl) (own_K26 hw) (own_len0 hw i_SC i_Es i_Fv i_Fc i_Ab hp_cs) 3 (by decide) e0 i_Es rfl rfl fun T1 X1 e1 => ?_
  refine own_xV X1 N0 D hZ hown hml (own_u hw 67 rfl) (own_K33 hw) (own_a3L hw Z0 i_SC i_SF i_Et i_Tl i_Ts i_Tn i_Tc i_Tp i_Ta i_Es i_Fv i_Fc i_Ab i_Al g_t1 g_la ne_b_1_la ne_t1_la ne_t1_b_1 ne_t1_a2 ne_a2_la hp_cs hp_fm hp_d0 hp_d3 hp_hl) 0 (by decide) e1 i_Et rfl rfl ?_
  rintro v2 T2 h2 L2 X2 N2 e2 ⟨rfl, K2, o2_0, o2_1, o2_2, o2_3, o2_4, o2_5, o2_6, o2_7⟩
  have Kp10 := K0.trans K2 (own_al2 (Or.inl own_m0) (Or.inl own_m1))
  exact own_rV X2 D Bd rfl e2 ⟨N2, rfl, Kp10, o2_0, o2_1, o2_2, o2_3, o2_4, o2_5, o2_6, o2_7⟩ (by decide)
abbrev own_aci_R : Room := { frames := 1, cells := 0, slots := 0, locals := 12 }
theorem own_pn56 : plainFor own_y52 = true := plainFor_of_name (by first | (simp [plainName, overriddenIn]; done) | decide +kernel)
def own_aci_q (Z : State) (a1 : Addr)  (h0 : Heap) (v : Option Value) (h : Heap) : Prop := v = none ∧ Keep h0 h []
theorem own_aci (hw : own_hw a0 Z) (Z0 : n0 ≤ h0.size) :
    own_C l Z own_y52 jdk_22_method_1_code 1 none ws own_aci_R #[(.ref a1)] h0 (own_W n0 (own_aci_q Z a1 h0)) := by
  refine own_goW own_pn56 own_o56 #[.val (.ref a1)] (fun _ => rfl) fun p e s m below meth c s₁ Bd D hml hZ hown X0 e0 N0 => ?_
  have hx := D.1
  have K0 : Keep h0 h0 [] := Keep.refl h0 _
  refine own_r X0 D 1 rfl ?_
  obtain ⟨T1, X1, e1, st1⟩ := initO X0 hx hZ hown (own_u hw 265 rfl) (own_u hw 16 rfl) (own_u hw 17 rfl) e0 (g := (mkF m 1 #[.val (.ref a1)] [(.ref a1)])) rfl (by rw [hml]; rfl) rfl (own_dd D rfl) (by decide) (W := 0) (by show 2 * 0 + _ ≤ _; exact Nat.le_of_eq rfl) (by decide)
  refine own_via st1 ?_
  show own_H T1 4 #[.val (.ref a1)] []
  exact own_rV X1 D Bd rfl e1 ⟨N0, rfl, K0⟩ (by decide)
abbrev own_ali_R : Room := { frames := 2, cells := 0, slots := 0, locals := 24 }
theorem own_pn55 : plainFor own_y53 = true := plainFor_of_name (by first | (simp [plainName, overriddenIn]; done) | decide +kernel)
def own_ali_q (Z : State) (a1 : Addr) (u1 : Value) (u2 : Value) (h0 : Heap) (v : Option Value) (h : Heap) : Prop := v = none ∧ Keep h0 h [a1] ∧ Exa Z h a1 own_cA ∧ own_eF17 Z h a1 (.int 0) ∧ own_eF18 Z h a1 u2 ∧ own_eF19 Z h a1 (.int 0)
theorem own_ali (hw : own_hw a0 Z) (Z0 : n0 ≤ h0.size) (i_Ea : Exa Z h0 a1 own_cA) (i_Lm : own_eF17 Z h0 a1 u1) (i_Le : own_eF18 Z h0 a1 u2) (i_Lz : own_eF19 Z h0 a1 (.int 0)) (g_a1 : n0 ≤ a1) :
    own_C l Z own_y53 jdk_39_method_1_code 1 none ws own_ali_R #[(.ref a1)] h0 (own_W n0 (own_ali_q Z a1 u1 u2 h0)) := by
  refine own_goW own_pn55 own_o55 #[.val (.ref a1)] (fun _ => rfl) fun p e s m below meth c s₁ Bd D hml hZ hown X0 e0 N0 => ?_
  have hx := D.1
  have K0 : Keep h0 h0 [a1] := Keep.refl h0 _
  refine own_r X0 D 1 rfl ?_
  refine own_xI X0 N0 D hZ hown hml (own_u hw 259 rfl) (own_K34 hw) (own_aci hw Z0) 0 (by decide) e0 rfl rfl ?_
  rintro v1 T1 h1 L1 X1 N1 e1 ⟨rfl, K1⟩
  have f2 := i_Ea.ext (own_ke K1)
  have f3 := i_Lm.ext (own_ke K1)
  have f4 := i_Le.ext (own_ke K1)
  have f5 := i_Lz.ext (own_ke K1)
  have Kp6 := K0.trans K1 (fun x hx => nomatch hx)
  refine own_r X1 D 2 rfl ?_
  refine own_putFk X1 N1 hx hZ hown (own_u hw 266 rfl) e1 f3 f2 (Or.inl (own_u hw 267 rfl)) (own_u hw 248 rfl) g_a1 (ty := .int) (by decide) rfl rfl (own_dd D rfl) fun T8 h8 L8 X8 N8 e8 W8 F8 => ?_
  have f9 := f2.wr W8
  have f10 := f4.other W8 (Or.inr (slot_ne (Or.inl (own_u hw 270 rfl)) (Or.inl (own_u hw 267 rfl)) (by decide) rfl rfl))
  have f11 := f5.other W8 (Or.inr (slot_ne (Or.inl (own_u hw 283 rfl)) (Or.inl (own_u hw 267 rfl)) (by decide) rfl rfl))
  have Kp12 := Kp6.wr W8 (Or.inl own_m0)
  exact own_rV X8 D Bd rfl e8 ⟨N8, rfl, Kp12, f9, F8, f10, f11⟩ (by decide)
abbrev own_afi_R : Room := { frames := 3, cells := 0, slots := 0, locals := 36 }
theorem own_pn54 : plainFor own_y54 = true := plainFor_of_name (by first | (simp [plainName, overriddenIn]; done) | decide +kernel)
def own_afi_q (Z : State) (a1 : Addr) (de : Addr) (u1 : Value) (u2 : Value) (h0 : Heap) (v : Option Value) (h : Heap) : Prop := v = none ∧ Keep h0 h [a1] ∧ Exa Z h a1 own_cA ∧ own_eF17 Z h a1 (.int 0) ∧ own_eF18 Z h a1 (.ref de) ∧ own_eF19 Z h a1 (.int 0)
theorem own_afi (hw : own_hw a0 Z) (Z0 : n0 ≤ h0.size) (i_SD : own_eS7 Z h0 (.ref de)) (i_Ea : Exa Z h0 a1 own_cA) (i_Lm : own_eF17 Z h0 a1 u1) (i_Le : own_eF18 Z h0 a1 u2) (i_Lz : own_eF19 Z h0 a1 (.int 0)) (g_a1 : n0 ≤ a1) :
    own_C l Z own_y54 jdk_38_method_2_code 1 none ws own_afi_R #[(.ref a1)] h0 (own_W n0 (own_afi_q Z a1 de u1 u2 h0)) := by
  refine own_goW own_pn54 own_o54 #[.val (.ref a1)] (fun _ => rfl) fun p e s m below meth c s₁ Bd D hml hZ hown X0 e0 N0 => ?_
  have hx := D.1
  have K0 : Keep h0 h0 [a1] := Keep.refl h0 _
  refine own_r X0 D 1 rfl ?_
  refine own_xI X0 N0 D hZ hown hml (own_u hw 253 rfl) (own_K35 hw) (own_ali hw Z0 i_Ea i_Lm i_Le i_Lz g_a1) 0 (by decide) e0 rfl rfl ?_
  rintro v1 T1 h1 L1 X1 N1 e1 ⟨rfl, K1, o1_0, o1_1, o1_2, o1_3⟩
  have f2 := own_staK i_SD K1 (own_al1 i_Ea.nostat)
  have Kp4 := K0.trans K1 (own_al1 (Or.inl own_m0))
  refine own_r X1 D 1 rfl ?_
  refine own_gS X1 D hZ hown (own_u hw 268 rfl) e1 f2 rfl fun T6 X6 e6 => ?_
  refine own_putFk X6 N1 hx hZ hown (own_u hw 269 rfl) e6 o1_2 o1_0 (Or.inl (own_u hw 270 rfl)) (own_u hw 248 rfl) g_a1 (ty := (.array (.object "java/lang/Object"))) (by decide) rfl rfl (own_dd D rfl) fun T7 h7 L7 X7 N7 e7 W7 F7 => ?_
  have f9 := o1_0.wr W7
  have f10 := o1_1.other W7 (Or.inr (slot_ne (Or.inl (own_u hw 267 rfl)) (Or.inl (own_u hw 270 rfl)) (by decide) rfl rfl))
  have f11 := o1_3.other W7 (Or.inr (slot_ne (Or.inl (own_u hw 283 rfl)) (Or.inl (own_u hw 270 rfl)) (by decide) rfl rfl))
  have Kp12 := Kp4.wr W7 (Or.inl own_m0)
  exact own_rV X7 D Bd rfl e7 ⟨N7, rfl, Kp12, f9, f10, F7, f11⟩ (by decide)
abbrev own_grI_R : Room := { frames := 1, cells := 1, slots := 10, locals := 14 }
theorem own_pn60 : plainFor own_y58 = true := plainFor_of_name (by first | (simp [plainName, overriddenIn]; done) | decide +kernel)
def own_grI_q (Z : State) (a1 : Addr) (de : Addr) (mc : Int32) (kd : ClassId) (h0 : Heap) (v : Option Value) (h : Heap) : Prop := ∃ (x : Addr) (kx : ClassId), v = some (.ref x) ∧ Keep h0 h [a1] ∧ h0.size ≤ x ∧ Ovr Z kx "java/lang/Object" ∧ Exa Z h a1 own_cA ∧ own_eF17 Z h a1 (.int mc) ∧ own_eF18 Z h a1 (.ref x) ∧ own_eF19 Z h a1 (.int 0) ∧ Arv Z h x kx (.object "java/lang/Object") (10 : Int32) [.null, .null] .null
theorem own_grI (hw : own_hw a0 Z) (Z0 : n0 ≤ h0.size) (i_SD : own_eS7 Z h0 (.ref de)) (i_Ea : Exa Z h0 a1 own_cA) (i_Lm : own_eF17 Z h0 a1 (.int mc)) (i_Le : own_eF18 Z h0 a1 (.ref de)) (i_Lz : own_eF19 Z h0 a1 (.int 0)) (i_Ad : Arv Z h0 de kd (.object "java/lang/Object") (0 : Int32) [] .null) (g_a1 : n0 ≤ a1) (ne_a1_de : a1 ≠ de) :
    own_C l Z own_y58 jdk_38_method_6_code 4 (some (.array (.object "java/lang/Object"))) ws own_grI_R #[(.ref a1), (.int 1)] h0 (own_W n0 (own_grI_q Z a1 de mc kd h0)) := by
  refine own_goW own_pn60 own_o60 #[.val (.ref a1), .val (.int 1), .unset, .unset] (fun _ => rfl) fun p e s m below meth c s₁ Bd D hml hZ hown X0 e0 N0 => ?_
  have hx := D.1
  have K0 : Keep h0 h0 [a1] := Keep.refl h0 _
  refine own_r X0 D 1 rfl ?_
  refine own_gF X0 D hZ hown (own_u hw 269 rfl) Via.refl e0 i_Le rfl fun T1 X1 e1 => ?_
  refine own_via (own_len X1 hx hZ e1 i_Ad (own_dd D rfl)) ?_
  refine own_r X1 D 2 rfl ?_
  refine own_fN X1 D rfl (flt (by decide : ¬ ((0 : Int32) < (0 : Int32)))).2.2.1 ?_
  refine own_r X1 D 1 rfl ?_
  refine own_gF X1 D hZ hown (own_u hw 269 rfl) Via.refl e1 i_Le rfl fun T2 X2 e2 => ?_
  refine own_gS X2 D hZ hown (own_u hw 268 rfl) e2 i_SD rfl fun T3 X3 e3 => ?_
  refine own_via (fun t k => Jvm.RoadKit.acmp (g := (mkF m 17 #[.val (.ref a1), .val (.int 1), .val (.int 0), .unset] [(.ref de), (.ref de)])) X3 hx rfl rfl rfl (pc0 := 17) (pc' := 45) (same := true) rfl (own_dd D rfl) rfl (decide_eq_true rfl) (by decide) (by decide) k) ?_
  show own_H T3 45 #[.val (.ref a1), .val (.int 1), .val (.int 0), .unset] []
  refine own_r X3 D 3 rfl ?_
  refine own_xP X3 D hZ hown hml (own_u hw 299 rfl) (own_K36 hw) (own_rm41 (p0 := (10 : Int32)) (p1 := (1 : Int32)) hw) 1 (by decide) e3 rfl rfl fun T4 X4 e4 => ?_
  show own_H T4 52 #[.val (.ref a1), .val (.int 1), .val (.int 0), .unset] [(.int (own_F41 (10 : Int32) (1 : Int32))), (.ref a1)]
  rw [show (own_F41 (10 : Int32) (1 : Int32)) = (10 : Int32) from (by decide)]
  obtain ⟨T5, h5, k5, b5, X5, e5, E5, ga5, V5, O5, st5⟩ := own_newR X4 hx hZ hown (own_u hw 300 rfl) (own_u hw 301 rfl) e4 (pc := 52) (Ls := #[.val (.ref a1), .val (.int 1), .val (.int 0), .unset]) (rest := [(.ref a1)]) (own_dd D rfl) (n := (10 : Int32)) (by decide) (cap := 10) (by decide) (by decide) (by decide) (by decide) 2
  refine own_via st5 ?_
  have sz_b5 := own_ge K0.1 ga5
  have ne6 := own_ne1 i_Ea.lt ga5
  have f9 := i_Ea.ext E5
  have f10 := i_Lm.ext E5
  have f11 := i_Le.ext E5
  have f12 := i_Lz.ext E5
  have Kp14 := K0.ext E5
  have f15 : Arv Z h5 b5 k5 (.object "java/lang/Object") (10 : Int32) [.null, .null] .null := V5
  refine own_r X5 D 1 rfl ?_
  refine own_putFk X5 N0 hx hZ hown (own_u hw 269 rfl) e5 f11 f9 (Or.inl (own_u hw 270 rfl)) (own_u hw 248 rfl) g_a1 (ty := (.array (.object "java/lang/Object"))) (by decide) rfl rfl (own_dd D rfl) fun T17 h17 L17 X17 N17 e17 W17 F17 => ?_
  have f19 := f9.wr W17
  have f20 := f10.other W17 (Or.inr (slot_ne (Or.inl (own_u hw 267 rfl)) (Or.inl (own_u hw 270 rfl)) (by decide) rfl rfl))
  have f21 := f12.other W17 (Or.inr (slot_ne (Or.inl (own_u hw 283 rfl)) (Or.inl (own_u hw 270 rfl)) (by decide) rfl rfl))
  have f23 := f15.other W17 (Ne.symm ne6)
  have Kp24 := Kp14.wr W17 (Or.inl own_m0)
  exact own_rA X17 D Bd rfl rfl rfl e17 ⟨N17, b5, k5, rfl, Kp24, sz_b5, O5, f19, f20, F17, f21, f23⟩ (by decide)
abbrev own_gr0_R : Room := { frames := 2, cells := 1, slots := 10, locals := 29 }
theorem own_pn59 : plainFor own_y57 = true := plainFor_of_name (by first | (simp [plainName, overriddenIn]; done) | decide +kernel)
def own_gr0_q (Z : State) (a1 : Addr) (de : Addr) (mc : Int32) (kd : ClassId) (h0 : Heap) (v : Option Value) (h : Heap) : Prop := ∃ (x : Addr) (kx : ClassId), v = some (.ref x) ∧ Keep h0 h [a1] ∧ h0.size ≤ x ∧ Ovr Z kx "java/lang/Object" ∧ Exa Z h a1 own_cA ∧ own_eF17 Z h a1 (.int mc) ∧ own_eF18 Z h a1 (.ref x) ∧ own_eF19 Z h a1 (.int 0) ∧ Arv Z h x kx (.object "java/lang/Object") (10 : Int32) [.null, .null] .null
theorem own_gr0 (hw : own_hw a0 Z) (Z0 : n0 ≤ h0.size) (i_SD : own_eS7 Z h0 (.ref de)) (i_Ea : Exa Z h0 a1 own_cA) (i_Lm : own_eF17 Z h0 a1 (.int mc)) (i_Le : own_eF18 Z h0 a1 (.ref de)) (i_Lz : own_eF19 Z h0 a1 (.int 0)) (i_Ad : Arv Z h0 de kd (.object "java/lang/Object") (0 : Int32) [] .null) (g_a1 : n0 ≤ a1) (ne_a1_de : a1 ≠ de) :
    own_C l Z own_y57 jdk_38_method_7_code 1 (some (.array (.object "java/lang/Object"))) ws own_gr0_R #[(.ref a1)] h0 (own_W n0 (own_gr0_q Z a1 de mc kd h0)) := by
  refine own_goW own_pn59 own_o59 #[.val (.ref a1)] (fun _ => rfl) fun p e s m below meth c s₁ Bd D hml hZ hown X0 e0 N0 => ?_
  have hx := D.1
  have K0 : Keep h0 h0 [a1] := Keep.refl h0 _
  refine own_r X0 D 2 rfl ?_
  refine own_gF X0 D hZ hown (own_u hw 282 rfl) Via.refl e0 i_Lz rfl fun T1 X1 e1 => ?_
  refine own_r X1 D 2 rfl ?_
  show own_H T1 7 #[.val (.ref a1)] [(.int 1), (.ref a1)]
  refine own_xR X1 N0 D hZ hown hml (own_u hw 294 rfl) (own_K37 hw) (own_grI hw Z0 i_SD i_Ea i_Lm i_Le i_Lz i_Ad g_a1 ne_a1_de) 0 (by decide) e1 i_Ea rfl rfl ?_
  rintro v2 T2 h2 L2 X2 N2 e2 ⟨x2, kx2, rfl, K2, zf_x2, xp2_0, o2_0, o2_1, o2_2, o2_3, o2_4⟩
  have sz_x2 := Nat.le_trans K0.1 zf_x2
  have Kp8 := K0.trans K2 (own_al1 (Or.inl own_m0))
  exact own_rA X2 D Bd rfl rfl rfl e2 ⟨N2, x2, kx2, rfl, Kp8, sz_x2, xp2_0, o2_0, o2_1, o2_2, o2_3, o2_4⟩ (by decide)
abbrev own_ad3_0_R : Room := { frames := 3, cells := 1, slots := 10, locals := 41 }
theorem own_pn58 : plainFor own_y56 = true := plainFor_of_name (by first | (simp [plainName, overriddenIn]; done) | decide +kernel)
def own_ad3_0_q (Z : State) (a1 : Addr) (a2 : Addr) (de : Addr) (mc : Int32) (kd : ClassId) (h0 : Heap) (v : Option Value) (h : Heap) : Prop := ∃ (x : Addr) (kx : ClassId), v = none ∧ Keep h0 h [a1] ∧ h0.size ≤ x ∧ Ovr Z kx "java/lang/Object" ∧ Exa Z h a1 own_cA ∧ own_eF17 Z h a1 (.int mc) ∧ own_eF18 Z h a1 (.ref x) ∧ own_eF19 Z h a1 (.int 1) ∧ Arv Z h x kx (.object "java/lang/Object") (10 : Int32) [(.ref a2), .null] .null
theorem own_ad3_0 (hw : own_hw a0 Z) (Z0 : n0 ≤ h0.size) (i_Ea : Exa Z h0 a1 own_cA) (i_Lm : own_eF17 Z h0 a1 (.int mc)) (i_Le : own_eF18 Z h0 a1 (.ref de)) (i_Lz : own_eF19 Z h0 a1 (.int 0)) (i_SD : own_eS7 Z h0 (.ref de)) (i_Ad : Arv Z h0 de kd (.object "java/lang/Object") (0 : Int32) [] .null) (i_Ep : Exa Z h0 a2 own_cS) (g_a1 : n0 ≤ a1) (ne_a1_de : a1 ≠ de) (ne_a1_a2 : a1 ≠ a2) (ne_a2_de : a2 ≠ de) :
    own_C l Z own_y56 jdk_38_method_24_code 4 none ws own_ad3_0_R #[(.ref a1), (.ref a2), (.ref de), (.int 0)] h0 (own_W n0 (own_ad3_0_q Z a1 a2 de mc kd h0)) := by
  refine own_goW own_pn58 own_o58 #[.val (.ref a1), .val (.ref a2), .val (.ref de), .val (.int 0)] (fun _ => rfl) fun p e s m below meth c s₁ Bd D hml hZ hown X0 e0 N0 => ?_
  have hx := D.1
  have K0 : Keep h0 h0 [a1] := Keep.refl h0 _
  refine own_r X0 D 2 rfl ?_
  refine own_via (own_len X0 hx hZ e0 i_Ad (own_dd D rfl)) ?_
  refine own_cN X0 D rfl (teq (by decide : (0 : Int32) = (0 : Int32))).2 ?_
  refine own_r X0 D 1 rfl ?_
  refine own_xR X0 N0 D hZ hown hml (own_u hw 289 rfl) (own_K38 hw) (own_gr0 hw Z0 i_SD i_Ea i_Lm i_Le i_Lz i_Ad g_a1 ne_a1_de) 0 (by decide) e0 i_Ea rfl rfl ?_
  rintro v1 T1 h1 L1 X1 N1 e1 ⟨x1, kx1, rfl, K1, zf_x1, xp1_0, o1_0, o1_1, o1_2, o1_3, o1_4⟩
  have ne2 := own_ne2 i_Ea.lt zf_x1
  have g_x1 := Nat.le_trans Z0 zf_x1
  have sz_x1 := Nat.le_trans K0.1 zf_x1
  have f8 := i_Ep.keep K1
  have Kp9 := K0.trans K1 (own_al1 (Or.inl own_m0))
  refine own_r X1 D 4 rfl ?_
  obtain ⟨T11, h11, L11, X11, N11, e11, W11, V11, st11⟩ := own_stR X1 N1 hx hZ e1 o1_4 xp1_0 (Ins.of_exa f8 (own_u hw 302 rfl)) g_x1 (j := (0 : Int32)) (i := 0) ⟨by decide, by decide⟩ rfl (Nat.le_of_ble_eq_true rfl) (pc := 14) (Ls := #[.val (.ref a1), .val (.ref a2), .val (.ref x1), .val (.int 0)]) (rest := []) (own_dd D rfl)
  refine own_via st11 ?_
  have f12 := o1_0.wr W11
  have f16 := o1_1.other W11 (Or.inl ne2)
  have f17 := o1_2.other W11 (Or.inl ne2)
  have f18 := o1_3.other W11 (Or.inl ne2)
  have Kp19 := Kp9.wr W11 (Or.inr sz_x1)
  have f20 : Arv Z h11 x1 kx1 (.object "java/lang/Object") (10 : Int32) [(.ref a2), .null] .null := V11
  refine own_r X11 D 4 rfl ?_
  show own_H T11 19 #[.val (.ref a1), .val (.ref a2), .val (.ref x1), .val (.int 0)] [(.int 1), (.ref a1)]
  refine own_putFk X11 N11 hx hZ hown (own_u hw 282 rfl) e11 f18 f12 (Or.inl (own_u hw 283 rfl)) (own_u hw 248 rfl) g_a1 (ty := .int) (by decide) rfl rfl (own_dd D rfl) fun T22 h22 L22 X22 N22 e22 W22 F22 => ?_
  have f23 := f12.wr W22
  have f27 := f16.other W22 (Or.inr (slot_ne (Or.inl (own_u hw 267 rfl)) (Or.inl (own_u hw 283 rfl)) (by decide) rfl rfl))
  have f28 := f17.other W22 (Or.inr (slot_ne (Or.inl (own_u hw 270 rfl)) (Or.inl (own_u hw 283 rfl)) (by decide) rfl rfl))
  have f29 := f20.other W22 (Ne.symm ne2)
  have Kp30 := Kp19.wr W22 (Or.inl own_m0)
  exact own_rV X22 D Bd rfl e22 ⟨N22, x1, kx1, rfl, Kp30, sz_x1, xp1_0, f23, f27, f28, F22, f29⟩ (by decide)
abbrev own_ad1_0_R : Room := { frames := 4, cells := 1, slots := 10, locals := 56 }
theorem own_pn57 : plainFor own_y55 = true := plainFor_of_name (by first | (simp [plainName, overriddenIn]; done) | decide +kernel)
def own_ad1_0_q (Z : State) (a1 : Addr) (a2 : Addr) (de : Addr) (mc : Int32) (kd : ClassId) (h0 : Heap) (v : Option Value) (h : Heap) : Prop := ∃ (x : Addr) (kx : ClassId), v = some (.int 1) ∧ Keep h0 h [a1] ∧ h0.size ≤ x ∧ Ovr Z kx "java/lang/Object" ∧ Exa Z h a1 own_cA ∧ own_eF17 Z h a1 (.int (mc + (1 : Int32))) ∧ own_eF18 Z h a1 (.ref x) ∧ own_eF19 Z h a1 (.int 1) ∧ Arv Z h x kx (.object "java/lang/Object") (10 : Int32) [(.ref a2), .null] .null
theorem own_ad1_0 (hw : own_hw a0 Z) (Z0 : n0 ≤ h0.size) (i_Ea : Exa Z h0 a1 own_cA) (i_Lm : own_eF17 Z h0 a1 (.int mc)) (i_Le : own_eF18 Z h0 a1 (.ref de)) (i_Lz : own_eF19 Z h0 a1 (.int 0)) (i_SD : own_eS7 Z h0 (.ref de)) (i_Ad : Arv Z h0 de kd (.object "java/lang/Object") (0 : Int32) [] .null) (i_Ep : Exa Z h0 a2 own_cS) (g_a1 : n0 ≤ a1) (ne_a1_de : a1 ≠ de) (ne_a1_a2 : a1 ≠ a2) (ne_a2_de : a2 ≠ de) :
    own_C l Z own_y55 jdk_38_method_25_code 2 (some .boolean) ws own_ad1_0_R #[(.ref a1), (.ref a2)] h0 (own_W n0 (own_ad1_0_q Z a1 a2 de mc kd h0)) := by
  refine own_goW own_pn57 own_o57 #[.val (.ref a1), .val (.ref a2)] (fun _ => rfl) fun p e s m below meth c s₁ Bd D hml hZ hown X0 e0 N0 => ?_
  have hx := D.1
  have K0 : Keep h0 h0 [a1] := Keep.refl h0 _
  refine own_r X0 D 2 rfl ?_
  refine own_gF X0 D hZ hown (own_u hw 280 rfl) (Via.of (own_u hw 281 rfl)) e0 i_Lm rfl fun T1 X1 e1 => ?_
  refine own_r X1 D 2 rfl ?_
  obtain ⟨T2, h2, L2, X2, N2, e2, W2, F2, st2⟩ := own_putFV X1 N0 hx hZ hown (own_u hw 280 rfl) (Via.of (own_u hw 281 rfl)) e1 i_Lm i_Ea (Or.inl (own_u hw 267 rfl)) (own_u hw 248 rfl) g_a1 (ty := .int) (v := (.int (mc + (1 : Int32)))) (by decide) rfl rfl (pc := 7) (Ls := #[.val (.ref a1), .val (.ref a2)]) (rest := []) (own_dd D rfl)
  refine own_via st2 ?_
  have f3 := i_Ea.wr W2
  have f4 := i_Le.other W2 (Or.inr (slot_ne (Or.inl (own_u hw 270 rfl)) (Or.inl (own_u hw 267 rfl)) (by decide) rfl rfl))
  have f5 := i_Lz.other W2 (Or.inr (slot_ne (Or.inl (own_u hw 283 rfl)) (Or.inl (own_u hw 267 rfl)) (by decide) rfl rfl))
  have f6 := i_SD.wr W2
  have f7 := i_Ad.other W2 (Ne.symm ne_a1_de)
  have f8 := i_Ep.wr W2
  have Kp9 := K0.wr W2 (Or.inl own_m0)
  have Zs10 : n0 ≤ h2.size := by rw [W2.size]; exact Z0
  refine own_r X2 D 3 rfl ?_
  refine own_gF X2 D hZ hown (own_u hw 269 rfl) Via.refl e2 f4 rfl fun T11 X11 e11 => ?_
  refine own_r X11 D 1 rfl ?_
  refine own_gF X11 D hZ hown (own_u hw 282 rfl) Via.refl e11 f5 rfl fun T12 X12 e12 => ?_
  refine own_xR X12 N2 D hZ hown hml (own_u hw 284 rfl) (own_K39 hw) (own_ad3_0 (mc := (mc + (1 : Int32))) hw Zs10 f3 F2 f4 f5 f6 f7 f8 g_a1 ne_a1_de ne_a1_a2 ne_a2_de) 0 (by decide) e12 f3 rfl rfl ?_
  rintro v13 T13 h13 L13 X13 N13 e13 ⟨x13, kx13, rfl, K13, zf_x13, xp13_0, o13_0, o13_1, o13_2, o13_3, o13_4⟩
  have sz_x13 := Nat.le_trans Kp9.1 zf_x13
  have Kp21 := Kp9.trans K13 (own_al1 (Or.inl own_m0))
  refine own_r X13 D 1 rfl ?_
  exact own_rN X13 D Bd (by simp) rfl e13 ⟨N13, x13, kx13, rfl, Kp21, sz_x13, xp13_0, o13_0, o13_1, o13_2, o13_3, o13_4⟩ (by decide)
abbrev own_ad3_1_R : Room := { frames := 0, cells := 0, slots := 0, locals := 0 }
def own_ad3_1_q (Z : State) (a1 : Addr) (a2 : Addr) (x1 : Addr) (mc : Int32) (kx1 : ClassId) (v0 : Value) (h0 : Heap) (v : Option Value) (h : Heap) : Prop := v = none ∧ Keep h0 h [a1, x1] ∧ Exa Z h a1 own_cA ∧ own_eF17 Z h a1 (.int mc) ∧ own_eF18 Z h a1 (.ref x1) ∧ own_eF19 Z h a1 (.int 2) ∧ Arv Z h x1 kx1 (.object "java/lang/Object") (10 : Int32) [v0, (.ref a2)] .null
theorem own_ad3_1 (hw : own_hw a0 Z) (Z0 : n0 ≤ h0.size) (i_Ea : Exa Z h0 a1 own_cA) (i_Lm : own_eF17 Z h0 a1 (.int mc)) (i_Le : own_eF18 Z h0 a1 (.ref x1)) (i_Lz : own_eF19 Z h0 a1 (.int 1)) (i_Ax : Arv Z h0 x1 kx1 (.object "java/lang/Object") (10 : Int32) [v0, .null] .null) (i_Ep : Exa Z h0 a2 own_cS) (g_a1 : n0 ≤ a1) (g_x1 : n0 ≤ x1) (ne_a1_x1 : a1 ≠ x1) (ne_a1_a2 : a1 ≠ a2) (ne_a2_x1 : a2 ≠ x1) (hp_ov : Ovr Z kx1 "java/lang/Object") :
    own_C l Z own_y56 jdk_38_method_24_code 4 none ws own_ad3_1_R #[(.ref a1), (.ref a2), (.ref x1), (.int 1)] h0 (own_W n0 (own_ad3_1_q Z a1 a2 x1 mc kx1 v0 h0)) := by
  refine own_goW own_pn58 own_o58 #[.val (.ref a1), .val (.ref a2), .val (.ref x1), .val (.int 1)] (fun _ => rfl) fun p e s m below meth c s₁ Bd D hml hZ hown X0 e0 N0 => ?_
  have hx := D.1
  have K0 : Keep h0 h0 [a1, x1] := Keep.refl h0 _
  refine own_r X0 D 2 rfl ?_
  refine own_via (own_len X0 hx hZ e0 i_Ax (own_dd D rfl)) ?_
  refine own_cY X0 D rfl (feq (by decide : ¬ ((1 : Int32) = (10 : Int32)))).2 ?_
  refine own_r X0 D 3 rfl ?_
  obtain ⟨T1, h1, L1, X1, N1, e1, W1, V1, st1⟩ := own_stR X0 N0 hx hZ e0 i_Ax hp_ov (Ins.of_exa i_Ep (own_u hw 302 rfl)) g_x1 (j := (1 : Int32)) (i := 1) ⟨by decide, by decide⟩ rfl (Nat.le_of_ble_eq_true rfl) (pc := 14) (Ls := #[.val (.ref a1), .val (.ref a2), .val (.ref x1), .val (.int 1)]) (rest := []) (own_dd D rfl)
  refine own_via st1 ?_
  have f2 := i_Ea.wr W1
  have f3 := i_Lm.other W1 (Or.inl ne_a1_x1)
  have f4 := i_Le.other W1 (Or.inl ne_a1_x1)
  have f5 := i_Lz.other W1 (Or.inl ne_a1_x1)
  have Kp7 := K0.wr W1 (Or.inl own_m1)
  have f8 : Arv Z h1 x1 kx1 (.object "java/lang/Object") (10 : Int32) [v0, (.ref a2)] .null := V1
  refine own_r X1 D 4 rfl ?_
  show own_H T1 19 #[.val (.ref a1), .val (.ref a2), .val (.ref x1), .val (.int 1)] [(.int 2), (.ref a1)]
  refine own_putFk X1 N1 hx hZ hown (own_u hw 282 rfl) e1 f5 f2 (Or.inl (own_u hw 283 rfl)) (own_u hw 248 rfl) g_a1 (ty := .int) (by decide) rfl rfl (own_dd D rfl) fun T10 h10 L10 X10 N10 e10 W10 F10 => ?_
  have f11 := f2.wr W10
  have f12 := f3.other W10 (Or.inr (slot_ne (Or.inl (own_u hw 267 rfl)) (Or.inl (own_u hw 283 rfl)) (by decide) rfl rfl))
  have f13 := f4.other W10 (Or.inr (slot_ne (Or.inl (own_u hw 270 rfl)) (Or.inl (own_u hw 283 rfl)) (by decide) rfl rfl))
  have f15 := f8.other W10 (Ne.symm ne_a1_x1)
  have Kp16 := Kp7.wr W10 (Or.inl own_m0)
  exact own_rV X10 D Bd rfl e10 ⟨N10, rfl, Kp16, f11, f12, f13, F10, f15⟩ (by decide)
abbrev own_ad1_1_R : Room := { frames := 1, cells := 0, slots := 0, locals := 15 }
def own_ad1_1_q (Z : State) (a1 : Addr) (a2 : Addr) (x1 : Addr) (mc : Int32) (kx1 : ClassId) (v0 : Value) (h0 : Heap) (v : Option Value) (h : Heap) : Prop := v = some (.int 1) ∧ Keep h0 h [a1, x1] ∧ Exa Z h a1 own_cA ∧ own_eF17 Z h a1 (.int (mc + (1 : Int32))) ∧ own_eF18 Z h a1 (.ref x1) ∧ own_eF19 Z h a1 (.int 2) ∧ Arv Z h x1 kx1 (.object "java/lang/Object") (10 : Int32) [v0, (.ref a2)] .null
theorem own_ad1_1 (hw : own_hw a0 Z) (Z0 : n0 ≤ h0.size) (i_Ea : Exa Z h0 a1 own_cA) (i_Lm : own_eF17 Z h0 a1 (.int mc)) (i_Le : own_eF18 Z h0 a1 (.ref x1)) (i_Lz : own_eF19 Z h0 a1 (.int 1)) (i_Ax : Arv Z h0 x1 kx1 (.object "java/lang/Object") (10 : Int32) [v0, .null] .null) (i_Ep : Exa Z h0 a2 own_cS) (g_a1 : n0 ≤ a1) (g_x1 : n0 ≤ x1) (ne_a1_x1 : a1 ≠ x1) (ne_a1_a2 : a1 ≠ a2) (ne_a2_x1 : a2 ≠ x1) (hp_ov : Ovr Z kx1 "java/lang/Object") :
    own_C l Z own_y55 jdk_38_method_25_code 2 (some .boolean) ws own_ad1_1_R #[(.ref a1), (.ref a2)] h0 (own_W n0 (own_ad1_1_q Z a1 a2 x1 mc kx1 v0 h0)) := by
  refine own_goW own_pn57 own_o57 #[.val (.ref a1), .val (.ref a2)] (fun _ => rfl) fun p e s m below meth c s₁ Bd D hml hZ hown X0 e0 N0 => ?_
  have hx := D.1
  have K0 : Keep h0 h0 [a1, x1] := Keep.refl h0 _
  refine own_r X0 D 2 rfl ?_
  refine own_gF X0 D hZ hown (own_u hw 280 rfl) (Via.of (own_u hw 281 rfl)) e0 i_Lm rfl fun T1 X1 e1 => ?_
  refine own_r X1 D 2 rfl ?_
  obtain ⟨T2, h2, L2, X2, N2, e2, W2, F2, st2⟩ := own_putFV X1 N0 hx hZ hown (own_u hw 280 rfl) (Via.of (own_u hw 281 rfl)) e1 i_Lm i_Ea (Or.inl (own_u hw 267 rfl)) (own_u hw 248 rfl) g_a1 (ty := .int) (v := (.int (mc + (1 : Int32)))) (by decide) rfl rfl (pc := 7) (Ls := #[.val (.ref a1), .val (.ref a2)]) (rest := []) (own_dd D rfl)
  refine own_via st2 ?_
  have f3 := i_Ea.wr W2
  have f4 := i_Le.other W2 (Or.inr (slot_ne (Or.inl (own_u hw 270 rfl)) (Or.inl (own_u hw 267 rfl)) (by decide) rfl rfl))
  have f5 := i_Lz.other W2 (Or.inr (slot_ne (Or.inl (own_u hw 283 rfl)) (Or.inl (own_u hw 267 rfl)) (by decide) rfl rfl))
  have f6 := i_Ax.other W2 (Ne.symm ne_a1_x1)
  have f7 := i_Ep.wr W2
  have Kp8 := K0.wr W2 (Or.inl own_m0)
  have Zs9 : n0 ≤ h2.size := by rw [W2.size]; exact Z0
  refine own_r X2 D 3 rfl ?_
  refine own_gF X2 D hZ hown (own_u hw 269 rfl) Via.refl e2 f4 rfl fun T10 X10 e10 => ?_
  refine own_r X10 D 1 rfl ?_
  refine own_gF X10 D hZ hown (own_u hw 282 rfl) Via.refl e10 f5 rfl fun T11 X11 e11 => ?_
  refine own_xR X11 N2 D hZ hown hml (own_u hw 284 rfl) (own_K39 hw) (own_ad3_1 (mc := (mc + (1 : Int32))) hw Zs9 f3 F2 f4 f5 f6 f7 g_a1 g_x1 ne_a1_x1 ne_a1_a2 ne_a2_x1 hp_ov) 0 (by decide) e11 f3 rfl rfl ?_
  rintro v12 T12 h12 L12 X12 N12 e12 ⟨rfl, K12, o12_0, o12_1, o12_2, o12_3, o12_4⟩
  have Kp15 := Kp8.trans K12 (own_al2 (Or.inl own_m0) (Or.inl own_m1))
  refine own_r X12 D 1 rfl ?_
  exact own_rN X12 D Bd (by simp) rfl e12 ⟨N12, rfl, Kp15, o12_0, o12_1, o12_2, o12_3, o12_4⟩ (by decide)
abbrev own_ckl_R : Room := { frames := 0, cells := 0, slots := 0, locals := 0 }
theorem own_pn53 : plainFor own_y7 = true := plainFor_of_name (by first | (simp [plainName, overriddenIn]; done) | decide +kernel)
def own_ckl_q (Z : State) (t1 : Addr) (n1 : Int32) (q1 : Int64) (h0 : Heap) (v : Option Value) (h : Heap) : Prop := v = none ∧ Keep h0 h []
theorem own_ckl (hw : own_hw a0 Z) (Z0 : n0 ≤ h0.size) (i_Ts : own_eF12 Z h0 t1 (.long q1)) (hp_q : ¬ ((2147483639 : Int64) < (q1 + (n1.toInt64)))) :
    own_C l Z own_y7 prog_37_method_24_code 2 none ws own_ckl_R #[(.ref t1), (.int n1)] h0 (own_W n0 (own_ckl_q Z t1 n1 q1 h0)) := by
  refine own_goW own_pn53 own_o53 #[.val (.ref t1), .val (.int n1)] (fun _ => rfl) fun p e s m below meth c s₁ Bd D hml hZ hown X0 e0 N0 => ?_
  have hx := D.1
  have K0 : Keep h0 h0 [] := Keep.refl h0 _
  refine own_r X0 D 1 rfl ?_
  refine own_gF X0 D hZ hown (own_u hw 48 rfl) Via.refl e0 i_Ts rfl fun T1 X1 e1 => ?_
  refine own_r X1 D 1 rfl ?_
  refine own_via (fun t k => XS.i2l X1.here hx rfl (own_dd D rfl) rfl k) ?_
  show own_H T1 6 #[.val (.ref t1), .val (.int n1)] [(.long (n1.toInt64)), (.long q1)]
  refine own_via (fun t k => XS.ladd X1.here hx rfl (own_dd D rfl) rfl k) ?_
  show own_H T1 7 #[.val (.ref t1), .val (.int n1)] [(.long (q1 + (n1.toInt64)))]
  refine own_via (X1.ldc2Long hx hown (mvT hZ (own_u hw 244 rfl)) (g := (mkF m 7 #[.val (.ref t1), .val (.int n1)] [(.long (q1 + (n1.toInt64)))])) rfl (own_dd D rfl)) ?_
  show own_H T1 10 #[.val (.ref t1), .val (.int n1)] [(.long (2147483639 : Int64)), (.long (q1 + (n1.toInt64)))]
  refine own_via (fun t k => XS.lcmp X1.here hx rfl (own_dd D rfl) rfl k) ?_
  show own_H T1 11 #[.val (.ref t1), .val (.int n1)] [(.int (lcmpW (q1 + (n1.toInt64)) (2147483639 : Int64)))]
  refine own_fY X1 D rfl (flt (fun q => hp_q ((lw_gt _ _).mp q))).2.2.2 ?_
  exact own_rV X1 D Bd rfl e1 ⟨N0, rfl, K0⟩ (by decide)
abbrev own_saN_R : Room := { frames := 5, cells := 2, slots := 13, locals := 69 }
theorem own_pn52 : plainFor own_y13 = true := plainFor_of_name (by first | (simp [plainName, overriddenIn]; done) | decide +kernel)
def own_saN_q (Z : State) (t1 : Addr) (a2 : Addr) (cs : Int32) (de : Addr) (kd : ClassId) (m1 : Int32) (q1 : Int64) (u1 : Value) (u2 : Value) (u3 : Value) (n1 : Int32) (b_1 : Addr) (k_1 : ClassId) (L_1 : List Int32) (h0 : Heap) (v : Option Value) (h : Heap) : Prop := ∃ (li : Addr) (x : Addr) (kx : ClassId), v = none ∧ Keep h0 h [t1] ∧ h0.size ≤ li ∧ h0.size ≤ x ∧ li ≠ x ∧ Ovr Z kx "java/lang/Object" ∧ Exa Z h t1 own_cT ∧ own_eF11 Z h t1 u3 ∧ own_eF12 Z h t1 (.long (q1 + (n1.toInt64))) ∧ own_eF13 Z h t1 (.int m1) ∧ own_eF14 Z h t1 u1 ∧ own_eF15 Z h t1 u2 ∧ own_eF16 Z h t1 (.ref li) ∧ Exa Z h li own_cA ∧ own_eF17 Z h li (.int ((0 : Int32) + (1 : Int32))) ∧ own_eF18 Z h li (.ref x) ∧ own_eF19 Z h li (.int 1) ∧ Arv Z h x kx (.object "java/lang/Object") (10 : Int32) [(.ref a2), .null] .null
theorem own_saN (hw : own_hw a0 Z) (Z0 : n0 ≤ h0.size) (i_SC : own_eS1 Z h0 (.int cs)) (i_SD : own_eS7 Z h0 (.ref de)) (i_Ad : Arv Z h0 de kd (.object "java/lang/Object") (0 : Int32) [] .null) (i_Et : Exa Z h0 t1 own_cT) (i_Tl : own_eF11 Z h0 t1 u3) (i_Ts : own_eF12 Z h0 t1 (.long q1)) (i_Tn : own_eF13 Z h0 t1 (.int m1)) (i_Tc : own_eF14 Z h0 t1 u1) (i_Tp : own_eF15 Z h0 t1 u2) (i_Ta : own_eF16 Z h0 t1 .null) (i_Es : Exa Z h0 a2 own_cS) (i_Fv : own_eF10 Z h0 a2 (.ref b_1)) (i_Fc : own_eF9 Z h0 a2 (.int 0)) (i_Ab : own_aB Z h0 b_1 k_1 n1 L_1) (g_t1 : n0 ≤ t1) (ne_t1_a2 : t1 ≠ a2) (ne_t1_b_1 : t1 ≠ b_1) (ne_t1_de : t1 ≠ de) (ne_a2_de : a2 ≠ de) (hp_cs : ¬ (cs = (0 : Int32))) (hp_q : ¬ ((2147483639 : Int64) < (q1 + (n1.toInt64)))) :
    own_C l Z own_y13 prog_37_method_23_code 2 none ws own_saN_R #[(.ref t1), (.ref a2)] h0 (own_W n0 (own_saN_q Z t1 a2 cs de kd m1 q1 u1 u2 u3 n1 b_1 k_1 L_1 h0)) := by
  refine own_goW own_pn52 own_o52 #[.val (.ref t1), .val (.ref a2)] (fun _ => rfl) fun p e s m below meth c s₁ Bd D hml hZ hown X0 e0 N0 => ?_
  have hx := D.1
  have K0 : Keep h0 h0 [t1] := Keep.refl h0 _
  refine own_r X0 D 2 rfl ?_
  refine own_xVP X0 D hZ hown hml (own_u hw 57 rfl) (own_K26 hw) (own_len0 hw i_SC i_Es i_Fv i_Fc i_Ab hp_cs) 1 (by decide) e0 i_Es rfl rfl fun T1 X1 e1 => ?_
  refine own_xR X1 N0 D hZ hown hml (own_u hw 240 rfl) (own_K40 hw) (own_ckl hw Z0 i_Ts hp_q) 0 (by decide) e1 i_Et rfl rfl ?_
  rintro v2 T2 h2 L2 X2 N2 e2 ⟨rfl, K2⟩
  have f3 := i_SC.ext (own_ke K2)
  have f4 := i_SD.ext (own_ke K2)
  have f5 := i_Ad.ext (own_ke K2)
  have f6 := i_Et.ext (own_ke K2)
  have f7 := i_Tl.ext (own_ke K2)
  have f8 := i_Ts.ext (own_ke K2)
  have f9 := i_Tn.ext (own_ke K2)
  have f10 := i_Tc.ext (own_ke K2)
  have f11 := i_Tp.ext (own_ke K2)
  have f12 := i_Ta.ext (own_ke K2)
  have f13 := i_Es.ext (own_ke K2)
  have f14 := i_Fv.ext (own_ke K2)
  have f15 := i_Fc.ext (own_ke K2)
  have f16 := i_Ab.ext (own_ke K2)
  have Kp17 := K0.trans K2 (fun x hx => nomatch hx)
  have Zs18 := Nat.le_trans Z0 K2.1
  refine own_r X2 D 1 rfl ?_
  refine own_gF X2 D hZ hown (own_u hw 245 rfl) Via.refl e2 f12 rfl fun T19 X19 e19 => ?_
  refine own_oN X19 D rfl ?_
  refine own_r X19 D 1 rfl ?_
  refine own_newOk X19 hx hZ hown (own_u hw 247 rfl) (own_u hw 248 rfl) (own_u hw 249 rfl) e19 (own_dd D rfl) (by decide) (by decide) fun T20 h20 b20 X20 e20 E20 ga20 A20 D20 => ?_
  have sz_b20 := own_ge Kp17.1 ga20
  have ne21 := own_ne1 f5.lt ga20
  have ne22 := own_ne1 f6.lt ga20
  have ne23 := own_ne1 f13.lt ga20
  have ne24 := own_ne1 f16.lt ga20
  have f25 := f3.ext E20
  have f26 := f4.ext E20
  have f27 := f5.ext E20
  have f28 := f6.ext E20
  have f29 := f7.ext E20
  have f30 := f8.ext E20
  have f31 := f9.ext E20
  have f32 := f10.ext E20
  have f33 := f11.ext E20
  have f34 := f12.ext E20
  have f35 := f13.ext E20
  have f36 := f14.ext E20
  have f37 := f15.ext E20
  have f38 := f16.ext E20
  have Kp39 := Kp17.ext E20
  have f40 : own_eF17 Z h20 b20 (.int 0) := D20 (Or.inl (own_u hw 267 rfl)) (ty := .int) (by decide)
  have f41 : own_eF18 Z h20 b20 .null := D20 (Or.inl (own_u hw 270 rfl)) (ty := (.array (.object "java/lang/Object"))) (by decide)
  have f42 : own_eF19 Z h20 b20 (.int 0) := D20 (Or.inl (own_u hw 283 rfl)) (ty := .int) (by decide)
  have g_b20 := own_ge Zs18 ga20
  have Zs43 := Nat.le_trans Zs18 E20.1
  refine own_r X20 D 1 rfl ?_
  refine own_xI X20 N2 D hZ hown hml (own_u hw 250 rfl) (own_K41 hw) (own_afi (u1 := (.int 0)) (u2 := (.null)) hw Zs43 f26 A20 f40 f41 f42 g_b20) 2 (by decide) e20 rfl rfl ?_
  rintro v44 T44 h44 L44 X44 N44 e44 ⟨rfl, K44, o44_0, o44_1, o44_2, o44_3⟩
  have f45 := own_staK f25 K44 (own_al1 A20.nostat)
  have f46 := own_staK f26 K44 (own_al1 A20.nostat)
  have f47 := f27.keep K44 (own_nm1 ne21)
  have f48 := f28.keep K44
  have f49 := f29.keep K44 (own_nm1 ne22)
  have f50 := f30.keep K44 (own_nm1 ne22)
  have f51 := f31.keep K44 (own_nm1 ne22)
  have f52 := f32.keep K44 (own_nm1 ne22)
  have f53 := f33.keep K44 (own_nm1 ne22)
  have f54 := f34.keep K44 (own_nm1 ne22)
  have f55 := f35.keep K44
  have f56 := f36.keep K44 (own_nm1 ne23)
  have f57 := f37.keep K44 (own_nm1 ne23)
  have f58 := f38.keep K44 (own_nm1 ne24)
  have Kp60 := Kp39.trans K44 (own_al1 (Or.inr sz_b20))
  have Zs61 := Nat.le_trans Zs43 K44.1
  refine own_putFk X44 N44 hx hZ hown (own_u hw 245 rfl) e44 f54 f48 (Or.inl (own_u hw 246 rfl)) (own_u hw 35 rfl) g_t1 (ty := (.object "java/util/List")) (by decide) rfl rfl (own_dd D rfl) fun T62 h62 L62 X62 N62 e62 W62 F62 => ?_
  have f63 := f45.wr W62
  have f64 := f46.wr W62
  have f65 := f47.other W62 (Ne.symm ne_t1_de)
  have f66 := f48.wr W62
  have f67 := f49.other W62 (Or.inr (slot_ne (Or.inl (own_u hw 42 rfl)) (Or.inl (own_u hw 246 rfl)) (by decide) rfl rfl))
  have f68 := f50.other W62 (Or.inr (slot_ne (Or.inl (own_u hw 49 rfl)) (Or.inl (own_u hw 246 rfl)) (by decide) rfl rfl))
  have f69 := f51.other W62 (Or.inr (slot_ne (Or.inl (own_u hw 51 rfl)) (Or.inl (own_u hw 246 rfl)) (by decide) rfl rfl))
  have f70 := f52.other W62 (Or.inr (slot_ne (Or.inl (own_u hw 73 rfl)) (Or.inl (own_u hw 246 rfl)) (by decide) rfl rfl))
  have f71 := f53.other W62 (Or.inr (slot_ne (Or.inl (own_u hw 189 rfl)) (Or.inl (own_u hw 246 rfl)) (by decide) rfl rfl))
  have f72 := f55.wr W62
  have f73 := f56.other W62 (Or.inl (Ne.symm ne_t1_a2))
  have f74 := f57.other W62 (Or.inl (Ne.symm ne_t1_a2))
  have f75 := f58.other W62 (Ne.symm ne_t1_b_1)
  have f76 := o44_0.wr W62
  have f77 := o44_1.other W62 (Or.inl (Ne.symm ne22))
  have f78 := o44_2.other W62 (Or.inl (Ne.symm ne22))
  have f79 := o44_3.other W62 (Or.inl (Ne.symm ne22))
  have Kp80 := Kp60.wr W62 (Or.inl own_m0)
  have Zs81 : n0 ≤ h62.size := by rw [W62.size]; exact Zs61
  refine own_r X62 D 1 rfl ?_
  refine own_gF X62 D hZ hown (own_u hw 245 rfl) Via.refl e62 F62 rfl fun T82 X82 e82 => ?_
  refine own_r X82 D 1 rfl ?_
  obtain ⟨v83, T83, h83, L83, X83, N83, e83, hq83, st83⟩ := own_callF (y := own_y62) (z := own_y55) (W := 0) (a := b20) X82 N62 hx hZ hown (own_u hw 271 rfl) (own_u hw 272 rfl) (own_u hw 273 rfl) (by first | rfl | simp [Cond.onTables, Cond.keepsFace, Cond.keeps, Cond.steady]) (own_u hw 274 rfl) (own_u hw 275 rfl) (own_u hw 276 rfl) (own_u hw 277 rfl) (own_u hw 278 rfl) (own_u hw 249 rfl) (own_u hw 279 rfl) (by decide) (own_ad1_0 (mc := (0 : Int32)) hw Zs81 f76 f77 f78 f79 f64 f65 f72 g_b20 (Ne.symm ne21) (Ne.symm ne23) ne_a2_de) (by decide) (by decide) (by decide) (by decide) e82 f76 (pc := 31) (Ls := #[.val (.ref t1), .val (.ref a2)]) (st := [(.ref a2), (.ref b20)]) (argsL := [(.ref a2)]) (rest := []) (by rw [hml]; rfl) (lenOf own_pd33 rfl) rfl rfl (Nat.le_of_eq rfl) (own_dd D rfl)
  obtain ⟨x83, kx83, rfl, K83, zf_x83, xp83_0, o83_0, o83_1, o83_2, o83_3, o83_4⟩ := hq83
  refine own_via st83 ?_
  have ne85 := own_ne2 f66.lt zf_x83
  have ne88 := own_ne2 f76.lt zf_x83
  have sz_x83 := Nat.le_trans Kp80.1 zf_x83
  have f89 := own_staK f63 K83 (own_al1 f76.nostat)
  have f92 := f66.keep K83
  have f93 := f67.keep K83 (own_nm1 ne22)
  have f94 := f68.keep K83 (own_nm1 ne22)
  have f95 := f69.keep K83 (own_nm1 ne22)
  have f96 := f70.keep K83 (own_nm1 ne22)
  have f97 := f71.keep K83 (own_nm1 ne22)
  have f98 := f72.keep K83
  have f99 := f73.keep K83 (own_nm1 ne23)
  have f100 := f74.keep K83 (own_nm1 ne23)
  have f101 := f75.keep K83 (own_nm1 ne24)
  have f103 := F62.keep K83 (own_nm1 ne22)
  have Kp104 := Kp80.trans K83 (own_al1 (Or.inr sz_b20))
  refine own_r X83 D 3 rfl ?_
  refine own_gF X83 D hZ hown (own_u hw 48 rfl) Via.refl e83 f94 rfl fun T106 X106 e106 => ?_
  refine own_r X106 D 1 rfl ?_
  refine own_xVP X106 D hZ hown hml (own_u hw 57 rfl) (own_K26 hw) (own_len0 hw f89 f98 f99 f100 f101 hp_cs) 3 (by decide) e106 f98 rfl rfl fun T107 X107 e107 => ?_
  refine own_via (fun t k => XS.i2l X107.here hx rfl (own_dd D rfl) rfl k) ?_
  show own_H T107 47 #[.val (.ref t1), .val (.ref a2)] [(.long (n1.toInt64)), (.long q1), (.ref t1)]
  refine own_via (fun t k => XS.ladd X107.here hx rfl (own_dd D rfl) rfl k) ?_
  show own_H T107 48 #[.val (.ref t1), .val (.ref a2)] [(.long (q1 + (n1.toInt64))), (.ref t1)]
  refine own_putFk X107 N83 hx hZ hown (own_u hw 48 rfl) e107 f94 f92 (Or.inl (own_u hw 49 rfl)) (own_u hw 35 rfl) g_t1 (ty := .long) (by decide) rfl rfl (own_dd D rfl) fun T108 h108 L108 X108 N108 e108 W108 F108 => ?_
  have f112 := f92.wr W108
  have f113 := f93.other W108 (Or.inr (slot_ne (Or.inl (own_u hw 42 rfl)) (Or.inl (own_u hw 49 rfl)) (by decide) rfl rfl))
  have f114 := f95.other W108 (Or.inr (slot_ne (Or.inl (own_u hw 51 rfl)) (Or.inl (own_u hw 49 rfl)) (by decide) rfl rfl))
  have f115 := f96.other W108 (Or.inr (slot_ne (Or.inl (own_u hw 73 rfl)) (Or.inl (own_u hw 49 rfl)) (by decide) rfl rfl))
  have f116 := f97.other W108 (Or.inr (slot_ne (Or.inl (own_u hw 189 rfl)) (Or.inl (own_u hw 49 rfl)) (by decide) rfl rfl))
  have f121 := o83_0.wr W108
  have f122 := f103.other W108 (Or.inr (slot_ne (Or.inl (own_u hw 246 rfl)) (Or.inl (own_u hw 49 rfl)) (by decide) rfl rfl))
  have f123 := o83_1.other W108 (Or.inl (Ne.symm ne22))
  have f124 := o83_2.other W108 (Or.inl (Ne.symm ne22))
  have f125 := o83_3.other W108 (Or.inl (Ne.symm ne22))
  have f126 := o83_4.other W108 (Ne.symm ne85)
  have Kp127 := Kp104.wr W108 (Or.inl own_m0)
  exact own_rV X108 D Bd rfl e108 ⟨N108, b20, x83, kx83, rfl, Kp127, sz_b20, sz_x83, ne88, xp83_0, f112, f113, F108, f114, f115, f116, f122, f121, f123, f124, f125, f126⟩ (by decide)
abbrev own_saL_R : Room := { frames := 2, cells := 0, slots := 0, locals := 28 }
def own_saL_q (Z : State) (t1 : Addr) (a2 : Addr) (cs : Int32) (m1 : Int32) (q1 : Int64) (u1 : Value) (u2 : Value) (u3 : Value) (li : Addr) (x1 : Addr) (kx1 : ClassId) (mc : Int32) (v0 : Value) (n1 : Int32) (b_1 : Addr) (k_1 : ClassId) (L_1 : List Int32) (h0 : Heap) (v : Option Value) (h : Heap) : Prop := v = none ∧ Keep h0 h [t1, li, x1] ∧ Exa Z h t1 own_cT ∧ own_eF11 Z h t1 u3 ∧ own_eF12 Z h t1 (.long (q1 + (n1.toInt64))) ∧ own_eF13 Z h t1 (.int m1) ∧ own_eF14 Z h t1 u1 ∧ own_eF15 Z h t1 u2 ∧ own_eF16 Z h t1 (.ref li)
theorem own_saL (hw : own_hw a0 Z) (Z0 : n0 ≤ h0.size) (i_SC : own_eS1 Z h0 (.int cs)) (i_Et : Exa Z h0 t1 own_cT) (i_Tl : own_eF11 Z h0 t1 u3) (i_Ts : own_eF12 Z h0 t1 (.long q1)) (i_Tn : own_eF13 Z h0 t1 (.int m1)) (i_Tc : own_eF14 Z h0 t1 u1) (i_Tp : own_eF15 Z h0 t1 u2) (i_Ta : own_eF16 Z h0 t1 (.ref li)) (i_Ea : Exa Z h0 li own_cA) (i_Lm : own_eF17 Z h0 li (.int mc)) (i_Le : own_eF18 Z h0 li (.ref x1)) (i_Lz : own_eF19 Z h0 li (.int 1)) (i_Ax : Arv Z h0 x1 kx1 (.object "java/lang/Object") (10 : Int32) [v0, .null] .null) (i_Es : Exa Z h0 a2 own_cS) (i_Fv : own_eF10 Z h0 a2 (.ref b_1)) (i_Fc : own_eF9 Z h0 a2 (.int 0)) (i_Ab : own_aB Z h0 b_1 k_1 n1 L_1) (g_t1 : n0 ≤ t1) (g_li : n0 ≤ li) (g_x1 : n0 ≤ x1) (ne_t1_a2 : t1 ≠ a2) (ne_t1_b_1 : t1 ≠ b_1) (ne_t1_li : t1 ≠ li) (ne_t1_x1 : t1 ≠ x1) (ne_li_x1 : li ≠ x1) (ne_li_a2 : li ≠ a2) (ne_li_b_1 : li ≠ b_1) (ne_a2_x1 : a2 ≠ x1) (ne_x1_b_1 : x1 ≠ b_1) (hp_cs : ¬ (cs = (0 : Int32))) (hp_q : ¬ ((2147483639 : Int64) < (q1 + (n1.toInt64)))) (hp_ov : Ovr Z kx1 "java/lang/Object") :
    own_C l Z own_y13 prog_37_method_23_code 2 none ws own_saL_R #[(.ref t1), (.ref a2)] h0 (own_W n0 (own_saL_q Z t1 a2 cs m1 q1 u1 u2 u3 li x1 kx1 mc v0 n1 b_1 k_1 L_1 h0)) := by
  refine own_goW own_pn52 own_o52 #[.val (.ref t1), .val (.ref a2)] (fun _ => rfl) fun p e s m below meth c s₁ Bd D hml hZ hown X0 e0 N0 => ?_
  have hx := D.1
  have K0 : Keep h0 h0 [t1, li, x1] := Keep.refl h0 _
  refine own_r X0 D 2 rfl ?_
  refine own_xVP X0 D hZ hown hml (own_u hw 57 rfl) (own_K26 hw) (own_len0 hw i_SC i_Es i_Fv i_Fc i_Ab hp_cs) 1 (by decide) e0 i_Es rfl rfl fun T1 X1 e1 => ?_
  refine own_xR X1 N0 D hZ hown hml (own_u hw 240 rfl) (own_K40 hw) (own_ckl hw Z0 i_Ts hp_q) 0 (by decide) e1 i_Et rfl rfl ?_
  rintro v2 T2 h2 L2 X2 N2 e2 ⟨rfl, K2⟩
  have f3 := i_SC.ext (own_ke K2)
  have f4 := i_Et.ext (own_ke K2)
  have f5 := i_Tl.ext (own_ke K2)
  have f6 := i_Ts.ext (own_ke K2)
  have f7 := i_Tn.ext (own_ke K2)
  have f8 := i_Tc.ext (own_ke K2)
  have f9 := i_Tp.ext (own_ke K2)
  have f10 := i_Ta.ext (own_ke K2)
  have f11 := i_Ea.ext (own_ke K2)
  have f12 := i_Lm.ext (own_ke K2)
  have f13 := i_Le.ext (own_ke K2)
  have f14 := i_Lz.ext (own_ke K2)
  have f15 := i_Ax.ext (own_ke K2)
  have f16 := i_Es.ext (own_ke K2)
  have f17 := i_Fv.ext (own_ke K2)
  have f18 := i_Fc.ext (own_ke K2)
  have f19 := i_Ab.ext (own_ke K2)
  have Kp20 := K0.trans K2 (fun x hx => nomatch hx)
  have Zs21 := Nat.le_trans Z0 K2.1
  refine own_r X2 D 1 rfl ?_
  refine own_gF X2 D hZ hown (own_u hw 245 rfl) Via.refl e2 f10 rfl fun T22 X22 e22 => ?_
  refine own_oY X22 D rfl ?_
  refine own_r X22 D 1 rfl ?_
  refine own_gF X22 D hZ hown (own_u hw 245 rfl) Via.refl e22 f10 rfl fun T23 X23 e23 => ?_
  refine own_r X23 D 1 rfl ?_
  obtain ⟨v24, T24, h24, L24, X24, N24, e24, hq24, st24⟩ := own_callF (y := own_y62) (z := own_y55) (W := 0) (a := li) X23 N2 hx hZ hown (own_u hw 271 rfl) (own_u hw 272 rfl) (own_u hw 273 rfl) (by first | rfl | simp [Cond.onTables, Cond.keepsFace, Cond.keeps, Cond.steady]) (own_u hw 274 rfl) (own_u hw 275 rfl) (own_u hw 276 rfl) (own_u hw 277 rfl) (own_u hw 278 rfl) (own_u hw 249 rfl) (own_u hw 279 rfl) (by decide) (own_ad1_1 hw Zs21 f11 f12 f13 f14 f15 f16 g_li g_x1 ne_li_x1 ne_li_a2 ne_a2_x1 hp_ov) (by decide) (by decide) (by decide) (by decide) e23 f11 (pc := 31) (Ls := #[.val (.ref t1), .val (.ref a2)]) (st := [(.ref a2), (.ref li)]) (argsL := [(.ref a2)]) (rest := []) (by rw [hml]; rfl) (lenOf own_pd33 rfl) rfl rfl (Nat.le_of_eq rfl) (own_dd D rfl)
  obtain ⟨rfl, K24, o24_0, o24_1, o24_2, o24_3, o24_4⟩ := hq24
  refine own_via st24 ?_
  have f25 := own_staK f3 K24 (own_al2 f11.nostat f15.nostat)
  have f26 := f4.keep K24
  have f27 := f5.keep K24 (own_nm2 ne_t1_li ne_t1_x1)
  have f28 := f6.keep K24 (own_nm2 ne_t1_li ne_t1_x1)
  have f29 := f7.keep K24 (own_nm2 ne_t1_li ne_t1_x1)
  have f30 := f8.keep K24 (own_nm2 ne_t1_li ne_t1_x1)
  have f31 := f9.keep K24 (own_nm2 ne_t1_li ne_t1_x1)
  have f32 := f10.keep K24 (own_nm2 ne_t1_li ne_t1_x1)
  have f34 := f16.keep K24
  have f35 := f17.keep K24 (own_nm2 (Ne.symm ne_li_a2) ne_a2_x1)
  have f36 := f18.keep K24 (own_nm2 (Ne.symm ne_li_a2) ne_a2_x1)
  have f37 := f19.keep K24 (own_nm2 (Ne.symm ne_li_b_1) (Ne.symm ne_x1_b_1))
  have Kp38 := Kp20.trans K24 (own_al2 (Or.inl own_m1) (Or.inl (List.mem_of_getElem? (i := 2) rfl)))
  refine own_r X24 D 3 rfl ?_
  refine own_gF X24 D hZ hown (own_u hw 48 rfl) Via.refl e24 f28 rfl fun T40 X40 e40 => ?_
  refine own_r X40 D 1 rfl ?_
  refine own_xVP X40 D hZ hown hml (own_u hw 57 rfl) (own_K26 hw) (own_len0 hw f25 f34 f35 f36 f37 hp_cs) 3 (by decide) e40 f34 rfl rfl fun T41 X41 e41 => ?_
  refine own_via (fun t k => XS.i2l X41.here hx rfl (own_dd D rfl) rfl k) ?_
  show own_H T41 47 #[.val (.ref t1), .val (.ref a2)] [(.long (n1.toInt64)), (.long q1), (.ref t1)]
  refine own_via (fun t k => XS.ladd X41.here hx rfl (own_dd D rfl) rfl k) ?_
  show own_H T41 48 #[.val (.ref t1), .val (.ref a2)] [(.long (q1 + (n1.toInt64))), (.ref t1)]
  refine own_putFk X41 N24 hx hZ hown (own_u hw 48 rfl) e41 f28 f26 (Or.inl (own_u hw 49 rfl)) (own_u hw 35 rfl) g_t1 (ty := .long) (by decide) rfl rfl (own_dd D rfl) fun T42 h42 L42 X42 N42 e42 W42 F42 => ?_
  have f44 := f26.wr W42
  have f45 := f27.other W42 (Or.inr (slot_ne (Or.inl (own_u hw 42 rfl)) (Or.inl (own_u hw 49 rfl)) (by decide) rfl rfl))
  have f46 := f29.other W42 (Or.inr (slot_ne (Or.inl (own_u hw 51 rfl)) (Or.inl (own_u hw 49 rfl)) (by decide) rfl rfl))
  have f47 := f30.other W42 (Or.inr (slot_ne (Or.inl (own_u hw 73 rfl)) (Or.inl (own_u hw 49 rfl)) (by decide) rfl rfl))
  have f48 := f31.other W42 (Or.inr (slot_ne (Or.inl (own_u hw 189 rfl)) (Or.inl (own_u hw 49 rfl)) (by decide) rfl rfl))
  have f49 := f32.other W42 (Or.inr (slot_ne (Or.inl (own_u hw 246 rfl)) (Or.inl (own_u hw 49 rfl)) (by decide) rfl rfl))
  have Kp59 := Kp38.wr W42 (Or.inl own_m0)
  exact own_rV X42 D Bd rfl e42 ⟨N42, rfl, Kp59, f44, f45, F42, f46, f47, f48, f49⟩ (by decide)
abbrev own_sub_R : Room := { frames := 2, cells := 0, slots := 0, locals := 29 }
theorem own_pn61 : plainFor own_y34 = true := plainFor_of_name (by first | (simp [plainName, overriddenIn]; done) | decide +kernel)
theorem own_sub (hw : own_hw a0 Z) (i_SC : own_eS1 Z h0 (.int cs)) (i_SF : own_eS0 Z h0 fm) (i_Es : Exa Z h0 a1 own_cS) (i_Fv : own_eF10 Z h0 a1 (.ref b_1)) (i_Fc : own_eF9 Z h0 a1 (.int 0)) (i_Ab : own_aB Z h0 b_1 k_1 n1 L_1) (hp_cs : ¬ (cs = (0 : Int32))) (hp_fm : fm.isRef = true) (hp_d0 : ¬ (n1 < (0 : Int32))) :
    own_C l Z own_y34 jdk_42_method_92_code 5 (some (.object "java/lang/String")) ws own_sub_R #[(.ref a1), (.int 0), (.int n1)] h0 (own_Q (.ref a1) h0) := by
  refine own_go own_pn61 own_o61 #[.val (.ref a1), .val (.int 0), .val (.int n1), .unset, .unset] (fun _ => rfl) fun p e s m below meth c s₁ Bd D hml hZ hown X0 e0 => ?_
  have hx := D.1
  refine own_r X0 D 1 rfl ?_
  refine own_xVP X0 D hZ hown hml (own_u hw 110 rfl) (own_K26 hw) (own_len0 hw i_SC i_Es i_Fv i_Fc i_Ab hp_cs) 0 (by decide) e0 i_Es rfl rfl fun T1 X1 e1 => ?_
  refine own_r X1 D 4 rfl ?_
  refine own_xPN X1 D hZ hown hml (own_u hw 111 rfl) (own_K27 hw) (own_cbe (i1 := (0 : Int32)) hw i_SF hp_fm (by decide : ¬ ((0 : Int32) < (0 : Int32))) hp_d0 (own_irr n1)) 0 (by decide) e1 rfl rfl fun T2 X2 e2 => ?_
  refine own_r X2 D 1 rfl ?_
  refine own_fN X2 D rfl (teq (by decide : (0 : Int32) = (0 : Int32))).2 ?_
  refine own_r X2 D 2 rfl ?_
  refine own_cN X2 D rfl (teq rfl).2 ?_
  refine own_r X2 D 1 rfl ?_
  exact own_retA X2 hx Bd.returns rfl rfl Bd.notSynchronized (own_dd D rfl) ⟨rfl, rfl, e2⟩ (by decide) (by decide)
abbrev own_ctA_R : Room := { frames := 5, cells := 2, slots := 7, locals := 110 }
theorem own_pn49 : plainFor own_y8 = true := plainFor_of_name (by first | (simp [plainName, overriddenIn]; done) | decide +kernel)
def own_ctA_q (Z : State) (t1 : Addr) (cs : Int32) (fm : Value) (u8 : Addr) (a3 : Addr) (n1 : Int32) (u2 : Value) (u4 : Value) (u5 : Value) (la : Addr) (kl : ClassId) (LL : List Int32) (h0 : Heap) (v : Option Value) (h : Heap) : Prop := ∃ (x : Addr) (y : Addr) (ky : ClassId) (L_2 : List Int32), v = some (.ref x) ∧ Keep h0 h [] ∧ h0.size ≤ x ∧ h0.size ≤ y ∧ Exa Z h x own_cS ∧ own_eF10 Z h x (.ref y) ∧ own_eF9 Z h x (.int 0) ∧ own_aB Z h y ky n1 L_2
theorem own_ctA (hw : own_hw a0 Z) (Z0 : n0 ≤ h0.size) (i_SC : own_eS1 Z h0 (.int cs)) (i_SF : own_eS0 Z h0 fm) (i_S8 : own_eS5 Z h0 (.ref u8)) (i_SI : own_eS6 Z h0 (.ref a3)) (i_SX : own_eS8 Z h0 (.ref a3)) (i_E3 : Exa Z h0 a3 "sun/nio/cs/ISO_8859_1") (i_Et : Exa Z h0 t1 own_cT) (i_Tl : own_eF11 Z h0 t1 (.ref la)) (i_Ts : own_eF12 Z h0 t1 u4) (i_Tn : own_eF13 Z h0 t1 (.int n1)) (i_Tc : own_eF14 Z h0 t1 .null) (i_Tp : own_eF15 Z h0 t1 u2) (i_Ta : own_eF16 Z h0 t1 u5) (i_Al : own_aB Z h0 la kl (64 : Int32) LL) (ne_a3_u8 : a3 ≠ u8) (hp_cs : ¬ (cs = (0 : Int32))) (hp_fm : fm.isRef = true) (hp_z : ¬ (n1 = (0 : Int32))) (hp_d0 : ¬ (n1 < (0 : Int32))) (hp_d3 : n1.toNatClampNeg ≤ 3) :
    own_C l Z own_y8 prog_37_method_25_code 1 (some (.object "java/lang/String")) ws own_ctA_R #[(.ref t1)] h0 (own_W n0 (own_ctA_q Z t1 cs fm u8 a3 n1 u2 u4 u5 la kl LL h0)) := by
  refine own_goW own_pn49 own_o49 #[.val (.ref t1)] (fun _ => rfl) fun p e s m below meth c s₁ Bd D hml hZ hown X0 e0 N0 => ?_
  have hx := D.1
  have K0 : Keep h0 h0 [] := Keep.refl h0 _
  refine own_r X0 D 1 rfl ?_
  refine own_gF X0 D hZ hown (own_u hw 72 rfl) Via.refl e0 i_Tc rfl fun T1 X1 e1 => ?_
  refine own_oN X1 D rfl ?_
  refine own_newOk X1 hx hZ hown (own_u hw 190 rfl) (own_u hw 5 rfl) (own_u hw 6 rfl) e1 (own_dd D rfl) (by decide) (by decide) fun T2 h2 b2 X2 e2 E2 ga2 A2 D2 => ?_
  have sz_b2 := own_ge K0.1 ga2
  have ne5 := own_ne1 i_Al.lt ga2
  have f6 := i_SC.ext E2
  have f7 := i_SF.ext E2
  have f8 := i_S8.ext E2
  have f9 := i_SI.ext E2
  have f10 := i_SX.ext E2
  have f11 := i_E3.ext E2
  have f13 := i_Tl.ext E2
  have f15 := i_Tn.ext E2
  have f19 := i_Al.ext E2
  have Kp20 := K0.ext E2
  have f21 : own_eF9 Z h2 b2 (.int 0) := D2 (Or.inr (own_u hw 31 rfl)) (ty := .byte) (by decide)
  have f22 : own_eF10 Z h2 b2 .null := D2 (Or.inr (own_u hw 33 rfl)) (ty := (.array .byte)) (by decide)
  have g_b2 := own_ge Z0 ga2
  have Zs23 := Nat.le_trans Z0 E2.1
  refine own_r X2 D 2 rfl ?_
  refine own_gF X2 D hZ hown (own_u hw 41 rfl) Via.refl e2 f13 rfl fun T24 X24 e24 => ?_
  refine own_r X24 D 2 rfl ?_
  refine own_gF X24 D hZ hown (own_u hw 50 rfl) Via.refl e24 f15 rfl fun T25 X25 e25 => ?_
  refine own_gS X25 D hZ hown (own_u hw 191 rfl) e25 f10 rfl fun T26 X26 e26 => ?_
  refine own_xI X26 N0 D hZ hown hml (own_u hw 193 rfl) (own_K42 hw) (own_xb (u1 := (.null)) (u2 := (.int 0)) hw Zs23 f6 f7 f8 f9 f11 A2 f22 f21 f19 g_b2 (Ne.symm ne5) ne_a3_u8 hp_cs hp_fm hp_z hp_d0 hp_d3) 1 (by decide) e26 rfl rfl ?_
  rintro v27 T27 h27 L27 X27 N27 e27 ⟨x27, kx27, L_227, rfl, K27, zf_x27, o27_0, o27_1, o27_2, o27_3⟩
  have sz_x27 := Nat.le_trans Kp20.1 zf_x27
  have Kp47 := Kp20.trans K27 (own_al1 (Or.inr sz_b2))
  refine own_r X27 D 1 rfl ?_
  exact own_rA X27 D Bd rfl rfl rfl e27 ⟨N27, b2, x27, kx27, L_227, rfl, Kp47, sz_b2, sz_x27, o27_0, o27_1, o27_2, o27_3⟩ (by decide)
abbrev own_sc0_R : Room := { frames := 0, cells := 0, slots := 0, locals := 0 }
theorem own_pn48 : plainFor own_y14 = true := plainFor_of_name (by first | (simp [plainName, overriddenIn]; done) | decide +kernel)
def own_sc0_q (Z : State) (t1 : Addr)  (h0 : Heap) (v : Option Value) (h : Heap) : Prop := v = none ∧ Keep h0 h []
theorem own_sc0 (hw : own_hw a0 Z) (Z0 : n0 ≤ h0.size) (i_Tn : own_eF13 Z h0 t1 (.int 0)) :
    own_C l Z own_y14 prog_37_method_22_code 1 none ws own_sc0_R #[(.ref t1)] h0 (own_W n0 (own_sc0_q Z t1 h0)) := by
  refine own_goW own_pn48 own_o48 #[.val (.ref t1)] (fun _ => rfl) fun p e s m below meth c s₁ Bd D hml hZ hown X0 e0 N0 => ?_
  have hx := D.1
  have K0 : Keep h0 h0 [] := Keep.refl h0 _
  refine own_r X0 D 1 rfl ?_
  refine own_gF X0 D hZ hown (own_u hw 50 rfl) Via.refl e0 i_Tn rfl fun T1 X1 e1 => ?_
  refine own_fY X1 D rfl (flt (by decide : ¬ ((0 : Int32) < (0 : Int32)))).2.2.2 ?_
  exact own_rV X1 D Bd rfl e1 ⟨N0, rfl, K0⟩ (by decide)
abbrev own_scA_R : Room := { frames := 6, cells := 4, slots := 20, locals := 123 }
def own_scA_q (Z : State) (t1 : Addr) (cs : Int32) (fm : Value) (u8 : Addr) (a3 : Addr) (de : Addr) (kd : ClassId) (n1 : Int32) (la : Addr) (kl : ClassId) (LL : List Int32) (h0 : Heap) (v : Option Value) (h : Heap) : Prop := ∃ (li : Addr) (x : Addr) (kx : ClassId) (v0 : Value), v = none ∧ Keep h0 h [t1] ∧ h0.size ≤ li ∧ h0.size ≤ x ∧ li ≠ x ∧ Ovr Z kx "java/lang/Object" ∧ Exa Z h t1 own_cT ∧ own_eF11 Z h t1 (.ref la) ∧ own_eF12 Z h t1 (.long ((0 : Int64) + (n1.toInt64))) ∧ own_eF13 Z h t1 (.int 0) ∧ own_eF14 Z h t1 .null ∧ own_eF15 Z h t1 .null ∧ own_eF16 Z h t1 (.ref li) ∧ Exa Z h li own_cA ∧ own_eF17 Z h li (.int ((0 : Int32) + (1 : Int32))) ∧ own_eF18 Z h li (.ref x) ∧ own_eF19 Z h li (.int 1) ∧ Arv Z h x kx (.object "java/lang/Object") (10 : Int32) [v0, .null] .null
theorem own_scA (hw : own_hw a0 Z) (Z0 : n0 ≤ h0.size) (i_SC : own_eS1 Z h0 (.int cs)) (i_SF : own_eS0 Z h0 fm) (i_S8 : own_eS5 Z h0 (.ref u8)) (i_SI : own_eS6 Z h0 (.ref a3)) (i_SX : own_eS8 Z h0 (.ref a3)) (i_E3 : Exa Z h0 a3 "sun/nio/cs/ISO_8859_1") (i_SD : own_eS7 Z h0 (.ref de)) (i_Ad : Arv Z h0 de kd (.object "java/lang/Object") (0 : Int32) [] .null) (i_Et : Exa Z h0 t1 own_cT) (i_Tl : own_eF11 Z h0 t1 (.ref la)) (i_Ts : own_eF12 Z h0 t1 (.long (0 : Int64))) (i_Tn : own_eF13 Z h0 t1 (.int n1)) (i_Tc : own_eF14 Z h0 t1 .null) (i_Tp : own_eF15 Z h0 t1 .null) (i_Ta : own_eF16 Z h0 t1 .null) (i_Al : own_aB Z h0 la kl (64 : Int32) LL) (g_t1 : n0 ≤ t1) (ne_a3_u8 : a3 ≠ u8) (ne_t1_de : t1 ≠ de) (ne_t1_la : t1 ≠ la) (hp_cs : ¬ (cs = (0 : Int32))) (hp_fm : fm.isRef = true) (hp_z : ¬ (n1 = (0 : Int32))) (hp_pos : (0 : Int32) < n1) (hp_d0 : ¬ (n1 < (0 : Int32))) (hp_d3 : n1.toNatClampNeg ≤ 3) :
    own_C l Z own_y14 prog_37_method_22_code 1 none ws own_scA_R #[(.ref t1)] h0 (own_W n0 (own_scA_q Z t1 cs fm u8 a3 de kd n1 la kl LL h0)) := by
  refine own_goW own_pn48 own_o48 #[.val (.ref t1)] (fun _ => rfl) fun p e s m below meth c s₁ Bd D hml hZ hown X0 e0 N0 => ?_
  have hx := D.1
  have K0 : Keep h0 h0 [t1] := Keep.refl h0 _
  refine own_r X0 D 1 rfl ?_
  refine own_gF X0 D hZ hown (own_u hw 50 rfl) Via.refl e0 i_Tn rfl fun T1 X1 e1 => ?_
  refine own_fN X1 D rfl (tlt hp_pos).2.2.2 ?_
  refine own_r X1 D 2 rfl ?_
  refine own_xR X1 N0 D hZ hown hml (own_u hw 226 rfl) (own_K43 hw) (own_ctA (u2 := (.null)) (u4 := (.long (0 : Int64))) (u5 := (.null)) hw Z0 i_SC i_SF i_S8 i_SI i_SX i_E3 i_Et i_Tl i_Ts i_Tn i_Tc i_Tp i_Ta i_Al ne_a3_u8 hp_cs hp_fm hp_z hp_d0 hp_d3) 1 (by decide) e1 i_Et rfl rfl ?_
  rintro v2 T2 h2 L2 X2 N2 e2 ⟨x2, y2, ky2, L_22, rfl, K2, zf_x2, zf_y2, o2_0, o2_1, o2_2, o2_3⟩
  have ne4 := own_ne2 i_Ad.lt zf_x2
  have ne5 := own_ne2 i_Et.lt zf_x2
  have ne9 := own_ne2 i_Et.lt zf_y2
  have f11 := i_SC.ext (own_ke K2)
  have f17 := i_SD.ext (own_ke K2)
  have f18 := i_Ad.ext (own_ke K2)
  have f19 := i_Et.ext (own_ke K2)
  have f20 := i_Tl.ext (own_ke K2)
  have f21 := i_Ts.ext (own_ke K2)
  have f22 := i_Tn.ext (own_ke K2)
  have f23 := i_Tc.ext (own_ke K2)
  have f24 := i_Tp.ext (own_ke K2)
  have f25 := i_Ta.ext (own_ke K2)
  have Kp27 := K0.trans K2 (fun x hx => nomatch hx)
  have Zs28 := Nat.le_trans Z0 K2.1
  refine own_xR X2 N2 D hZ hown hml (own_u hw 236 rfl) (own_K44 hw) (own_saN (q1 := (0 : Int64)) (u1 := (.null)) (u2 := (.null)) (u3 := (.ref la)) hw Zs28 f11 f17 f18 f19 f20 f21 f22 f23 f24 f25 o2_0 o2_1 o2_2 o2_3 g_t1 ne5 ne9 ne_t1_de (Ne.symm ne4) hp_cs (own_ql3 hp_d0 hp_d3)) 0 (by decide) e2 f19 rfl rfl ?_
  rintro v29 T29 h29 L29 X29 N29 e29 ⟨li29, x29, kx29, rfl, K29, zf_li29, zf_x29, xn29_0, xp29_0, o29_0, o29_1, o29_2, o29_3, o29_4, o29_5, o29_6, o29_7, o29_8, o29_9, o29_10, o29_11⟩
  have ne32 := own_ne2 f19.lt zf_li29
  have sz_li29 := Nat.le_trans Kp27.1 zf_li29
  have ne38 := own_ne2 f19.lt zf_x29
  have sz_x29 := Nat.le_trans Kp27.1 zf_x29
  have Kp56 := Kp27.trans K29 (own_al1 (Or.inl own_m0))
  refine own_r X29 D 2 rfl ?_
  refine own_putFk X29 N29 hx hZ hown (own_u hw 50 rfl) e29 o29_3 o29_0 (Or.inl (own_u hw 51 rfl)) (own_u hw 35 rfl) g_t1 (ty := .int) (by decide) rfl rfl (own_dd D rfl) fun T58 h58 L58 X58 N58 e58 W58 F58 => ?_
  have f67 := o29_0.wr W58
  have f73 := o29_1.other W58 (Or.inr (slot_ne (Or.inl (own_u hw 42 rfl)) (Or.inl (own_u hw 51 rfl)) (by decide) rfl rfl))
  have f74 := o29_2.other W58 (Or.inr (slot_ne (Or.inl (own_u hw 49 rfl)) (Or.inl (own_u hw 51 rfl)) (by decide) rfl rfl))
  have f75 := o29_4.other W58 (Or.inr (slot_ne (Or.inl (own_u hw 73 rfl)) (Or.inl (own_u hw 51 rfl)) (by decide) rfl rfl))
  have f76 := o29_5.other W58 (Or.inr (slot_ne (Or.inl (own_u hw 189 rfl)) (Or.inl (own_u hw 51 rfl)) (by decide) rfl rfl))
  have f77 := o29_6.other W58 (Or.inr (slot_ne (Or.inl (own_u hw 246 rfl)) (Or.inl (own_u hw 51 rfl)) (by decide) rfl rfl))
  have f78 := o29_7.wr W58
  have f79 := o29_8.other W58 (Or.inl (Ne.symm ne32))
  have f80 := o29_9.other W58 (Or.inl (Ne.symm ne32))
  have f81 := o29_10.other W58 (Or.inl (Ne.symm ne32))
  have f82 := o29_11.other W58 (Ne.symm ne38)
  have Kp83 := Kp56.wr W58 (Or.inl own_m0)
  refine own_r X58 D 1 rfl ?_
  refine own_gF X58 D hZ hown (own_u hw 72 rfl) Via.refl e58 f75 rfl fun T85 X85 e85 => ?_
  refine own_nY X85 D rfl ?_
  exact own_rV X85 D Bd rfl e85 ⟨N58, li29, x29, kx29, (.ref x2), rfl, Kp83, sz_li29, sz_x29, xn29_0, xp29_0, f67, f73, f74, F58, f75, f76, f77, f78, f79, f80, f81, f82⟩ (by decide)
abbrev own_kmB0_R : Room := { frames := 6, cells := 2, slots := 13, locals := 82 }
theorem own_pn37 : plainFor own_y5 = true := plainFor_of_name (by first | (simp [plainName, overriddenIn]; done) | decide +kernel)
def own_kmB0_q (Z : State) (t1 : Addr) (a2 : Addr) (m1 : Int32) (cs : Int32) (fm : Value) (de : Addr) (kd : ClassId) (b_1 : Addr) (k_1 : ClassId) (L_1 : List Int32) (la : Addr) (kl : ClassId) (LL : List Int32) (h0 : Heap) (v : Option Value) (h : Heap) : Prop := ∃ (li : Addr), v = none ∧ Keep h0 h [t1] ∧ Exa Z h t1 own_cT ∧ own_eF11 Z h t1 (.ref la) ∧ own_eF12 Z h t1 (.long ((0 : Int64) + (m1.toInt64))) ∧ own_eF13 Z h t1 (.int 0) ∧ own_eF14 Z h t1 .null ∧ own_eF15 Z h t1 .null ∧ own_eF16 Z h t1 (.ref li)
theorem own_kmB0 (hw : own_hw a0 Z) (Z0 : n0 ≤ h0.size) (i_SC : own_eS1 Z h0 (.int cs)) (i_SF : own_eS0 Z h0 fm) (i_SD : own_eS7 Z h0 (.ref de)) (i_Ad : Arv Z h0 de kd (.object "java/lang/Object") (0 : Int32) [] .null) (i_Et : Exa Z h0 t1 own_cT) (i_Tl : own_eF11 Z h0 t1 (.ref la)) (i_Ts : own_eF12 Z h0 t1 (.long (0 : Int64))) (i_Tn : own_eF13 Z h0 t1 (.int 0)) (i_Tc : own_eF14 Z h0 t1 .null) (i_Tp : own_eF15 Z h0 t1 .null) (i_Ta : own_eF16 Z h0 t1 .null) (i_Al : own_aB Z h0 la kl (64 : Int32) LL) (i_Es : Exa Z h0 a2 own_cS) (i_Fv : own_eF10 Z h0 a2 (.ref b_1)) (i_Fc : own_eF9 Z h0 a2 (.int 0)) (i_Ab : own_aB Z h0 b_1 k_1 m1 L_1) (g_t1 : n0 ≤ t1) (ne_t1_a2 : t1 ≠ a2) (ne_t1_b_1 : t1 ≠ b_1) (ne_t1_la : t1 ≠ la) (ne_t1_de : t1 ≠ de) (ne_a2_de : a2 ≠ de) (ne_a2_la : a2 ≠ la) (ne_b_1_de : b_1 ≠ de) (hp_cs : ¬ (cs = (0 : Int32))) (hp_fm : fm.isRef = true) (hp_d9 : ¬ (m1 < (0 : Int32))) (hp_bg : (16384 : Int32) < m1) (hp_q0 : ¬ ((2147483639 : Int64) < ((0 : Int64) + (m1.toInt64)))) (hp_b6 : (64 : Int32) < m1) :
    own_C l Z own_y5 prog_37_method_7_code 6 none ws own_kmB0_R #[(.ref t1), (.ref a2), (.int 0), (.int m1), (.int 1)] h0 (own_W n0 (own_kmB0_q Z t1 a2 m1 cs fm de kd b_1 k_1 L_1 la kl LL h0)) := by
  refine own_goW own_pn37 own_o37 #[.val (.ref t1), .val (.ref a2), .val (.int 0), .val (.int m1), .val (.int 1), .unset] (fun _ => rfl) fun p e s m below meth c s₁ Bd D hml hZ hown X0 e0 N0 => ?_
  have hx := D.1
  have K0 : Keep h0 h0 [t1] := Keep.refl h0 _
  refine own_r X0 D 3 rfl ?_
  show own_H s₁ 3 #[.val (.ref t1), .val (.ref a2), .val (.int 0), .val (.int m1), .val (.int 1), .unset] [(.int (m1 - (0 : Int32)))]
  rw [show (m1 - (0 : Int32)) = m1 from (own_s0 m1)]
  refine own_r X0 D 3 rfl ?_
  refine own_cN X0 D rfl (tlt hp_bg).2.2.2 ?_
  refine own_r X0 D 1 rfl ?_
  refine own_xR X0 N0 D hZ hown hml (own_u hw 222 rfl) (own_K45 hw) (own_sc0 hw Z0 i_Tn) 0 (by decide) e0 i_Et rfl rfl ?_
  rintro v1 T1 h1 L1 X1 N1 e1 ⟨rfl, K1⟩
  have f2 := i_SC.ext (own_ke K1)
  have f3 := i_SF.ext (own_ke K1)
  have f4 := i_SD.ext (own_ke K1)
  have f5 := i_Ad.ext (own_ke K1)
  have f6 := i_Et.ext (own_ke K1)
  have f7 := i_Tl.ext (own_ke K1)
  have f8 := i_Ts.ext (own_ke K1)
  have f9 := i_Tn.ext (own_ke K1)
  have f10 := i_Tc.ext (own_ke K1)
  have f11 := i_Tp.ext (own_ke K1)
  have f12 := i_Ta.ext (own_ke K1)
  have f14 := i_Es.ext (own_ke K1)
  have f15 := i_Fv.ext (own_ke K1)
  have f16 := i_Fc.ext (own_ke K1)
  have f17 := i_Ab.ext (own_ke K1)
  have Kp18 := K0.trans K1 (fun x hx => nomatch hx)
  have Zs19 := Nat.le_trans Z0 K1.1
  refine own_r X1 D 4 rfl ?_
  refine own_xVP X1 D hZ hown hml (own_u hw 303 rfl) (own_K46 hw) (own_sub hw f2 f3 f14 f15 f16 f17 hp_cs hp_fm hp_d9) 1 (by decide) e1 f14 rfl rfl fun T20 X20 e20 => ?_
  refine own_xR X20 N1 D hZ hown hml (own_u hw 236 rfl) (own_K44 hw) (own_saN (m1 := (0 : Int32)) (q1 := (0 : Int64)) (u1 := (.null)) (u2 := (.null)) (u3 := (.ref la)) hw Zs19 f2 f4 f5 f6 f7 f8 f9 f10 f11 f12 f14 f15 f16 f17 g_t1 ne_t1_a2 ne_t1_b_1 ne_t1_de ne_a2_de hp_cs hp_q0) 0 (by decide) e20 f6 rfl rfl ?_
  rintro v21 T21 h21 L21 X21 N21 e21 ⟨li21, x21, kx21, rfl, K21, zf_li21, zf_x21, xn21_0, xp21_0, o21_0, o21_1, o21_2, o21_3, o21_4, o21_5, o21_6, o21_7, o21_8, o21_9, o21_10, o21_11⟩
  have Kp42 := Kp18.trans K21 (own_al1 (Or.inl own_m0))
  refine own_r X21 D 1 rfl ?_
  exact own_rV X21 D Bd rfl e21 ⟨N21, li21, rfl, Kp42, o21_0, o21_1, o21_2, o21_3, o21_4, o21_5, o21_6⟩ (by decide)
abbrev own_akB0_R : Room := { frames := 7, cells := 2, slots := 13, locals := 99 }
def own_akB0_q (Z : State) (t1 : Addr) (a2 : Addr) (m1 : Int32) (cs : Int32) (fm : Value) (de : Addr) (kd : ClassId) (b_1 : Addr) (k_1 : ClassId) (L_1 : List Int32) (la : Addr) (kl : ClassId) (LL : List Int32) (h0 : Heap) (v : Option Value) (h : Heap) : Prop := ∃ (li : Addr), v = none ∧ Keep h0 h [t1] ∧ Exa Z h t1 own_cT ∧ own_eF11 Z h t1 (.ref la) ∧ own_eF12 Z h t1 (.long ((0 : Int64) + (m1.toInt64))) ∧ own_eF13 Z h t1 (.int 0) ∧ own_eF14 Z h t1 .null ∧ own_eF15 Z h t1 .null ∧ own_eF16 Z h t1 (.ref li)
theorem own_akB0 (hw : own_hw a0 Z) (Z0 : n0 ≤ h0.size) (i_SC : own_eS1 Z h0 (.int cs)) (i_SF : own_eS0 Z h0 fm) (i_SD : own_eS7 Z h0 (.ref de)) (i_Ad : Arv Z h0 de kd (.object "java/lang/Object") (0 : Int32) [] .null) (i_Et : Exa Z h0 t1 own_cT) (i_Tl : own_eF11 Z h0 t1 (.ref la)) (i_Ts : own_eF12 Z h0 t1 (.long (0 : Int64))) (i_Tn : own_eF13 Z h0 t1 (.int 0)) (i_Tc : own_eF14 Z h0 t1 .null) (i_Tp : own_eF15 Z h0 t1 .null) (i_Ta : own_eF16 Z h0 t1 .null) (i_Al : own_aB Z h0 la kl (64 : Int32) LL) (i_Es : Exa Z h0 a2 own_cS) (i_Fv : own_eF10 Z h0 a2 (.ref b_1)) (i_Fc : own_eF9 Z h0 a2 (.int 0)) (i_Ab : own_aB Z h0 b_1 k_1 m1 L_1) (g_t1 : n0 ≤ t1) (ne_t1_a2 : t1 ≠ a2) (ne_t1_b_1 : t1 ≠ b_1) (ne_t1_la : t1 ≠ la) (ne_t1_de : t1 ≠ de) (ne_a2_de : a2 ≠ de) (ne_a2_la : a2 ≠ la) (ne_b_1_de : b_1 ≠ de) (hp_cs : ¬ (cs = (0 : Int32))) (hp_fm : fm.isRef = true) (hp_d9 : ¬ (m1 < (0 : Int32))) (hp_bg : (16384 : Int32) < m1) (hp_q0 : ¬ ((2147483639 : Int64) < ((0 : Int64) + (m1.toInt64)))) (hp_b6 : (64 : Int32) < m1) :
    own_C l Z own_y4 prog_37_method_6_code 6 none ws own_akB0_R #[(.ref t1), (.ref a2), (.int 0), (.int m1), (.int 1)] h0 (own_W n0 (own_akB0_q Z t1 a2 m1 cs fm de kd b_1 k_1 L_1 la kl LL h0)) := by
  refine own_goW own_pn19 own_o19 #[.val (.ref t1), .val (.ref a2), .val (.int 0), .val (.int m1), .val (.int 1), .unset] (fun _ => rfl) fun p e s m below meth c s₁ Bd D hml hZ hown X0 e0 N0 => ?_
  have hx := D.1
  have K0 : Keep h0 h0 [t1] := Keep.refl h0 _
  refine own_r X0 D 3 rfl ?_
  show own_H s₁ 3 #[.val (.ref t1), .val (.ref a2), .val (.int 0), .val (.int m1), .val (.int 1), .unset] [(.int (m1 - (0 : Int32)))]
  rw [show (m1 - (0 : Int32)) = m1 from (own_s0 m1)]
  refine own_r X0 D 2 rfl ?_
  refine own_gF X0 D hZ hown (own_u hw 72 rfl) Via.refl e0 i_Tc rfl fun T1 X1 e1 => ?_
  refine own_oN X1 D rfl ?_
  refine own_r X1 D 1 rfl ?_
  refine own_fN X1 D rfl (feq (by decide : ¬ ((1 : Int32) = (0 : Int32)))).1 ?_
  refine own_r X1 D 2 rfl ?_
  refine own_gF X1 D hZ hown (own_u hw 41 rfl) Via.refl e1 i_Tl rfl fun T2 X2 e2 => ?_
  refine own_via (own_len X2 hx hZ e2 i_Al (own_dd D rfl)) ?_
  refine own_r X2 D 1 rfl ?_
  refine own_gF X2 D hZ hown (own_u hw 50 rfl) Via.refl e2 i_Tn rfl fun T3 X3 e3 => ?_
  refine own_r X3 D 1 rfl ?_
  show own_H T3 29 #[.val (.ref t1), .val (.ref a2), .val (.int 0), .val (.int m1), .val (.int 1), .val (.int m1)] [(.int 64), (.int m1)]
  refine own_cY X3 D rfl (tlt hp_b6).2.2.1 ?_
  refine own_r X3 D 1 rfl ?_
  refine own_gF X3 D hZ hown (own_u hw 72 rfl) Via.refl e3 i_Tc rfl fun T4 X4 e4 => ?_
  refine own_nY X4 D rfl ?_
  refine own_r X4 D 5 rfl ?_
  refine own_xR X4 N0 D hZ hown hml (own_u hw 168 rfl) (own_K47 hw) (own_kmB0 hw Z0 i_SC i_SF i_SD i_Ad i_Et i_Tl i_Ts i_Tn i_Tc i_Tp i_Ta i_Al i_Es i_Fv i_Fc i_Ab g_t1 ne_t1_a2 ne_t1_b_1 ne_t1_la ne_t1_de ne_a2_de ne_a2_la ne_b_1_de hp_cs hp_fm hp_d9 hp_bg hp_q0 hp_b6) 0 (by decide) e4 i_Et rfl rfl ?_
  rintro v5 T5 h5 L5 X5 N5 e5 ⟨li5, rfl, K5, o5_0, o5_1, o5_2, o5_3, o5_4, o5_5, o5_6⟩
  have Kp16 := K0.trans K5 (own_al1 (Or.inl own_m0))
  exact own_rV X5 D Bd rfl e5 ⟨N5, li5, rfl, Kp16, o5_0, o5_1, o5_2, o5_3, o5_4, o5_5, o5_6⟩ (by decide)
abbrev own_a3B0_R : Room := { frames := 8, cells := 2, slots := 13, locals := 116 }
def own_a3B0_q (Z : State) (t1 : Addr) (a2 : Addr) (m1 : Int32) (cs : Int32) (fm : Value) (de : Addr) (kd : ClassId) (b_1 : Addr) (k_1 : ClassId) (L_1 : List Int32) (la : Addr) (kl : ClassId) (LL : List Int32) (h0 : Heap) (v : Option Value) (h : Heap) : Prop := ∃ (li : Addr), v = none ∧ Keep h0 h [t1] ∧ Exa Z h t1 own_cT ∧ own_eF11 Z h t1 (.ref la) ∧ own_eF12 Z h t1 (.long ((0 : Int64) + (m1.toInt64))) ∧ own_eF13 Z h t1 (.int 0) ∧ own_eF14 Z h t1 .null ∧ own_eF15 Z h t1 .null ∧ own_eF16 Z h t1 (.ref li)
theorem own_a3B0 (hw : own_hw a0 Z) (Z0 : n0 ≤ h0.size) (i_SC : own_eS1 Z h0 (.int cs)) (i_SF : own_eS0 Z h0 fm) (i_SD : own_eS7 Z h0 (.ref de)) (i_Ad : Arv Z h0 de kd (.object "java/lang/Object") (0 : Int32) [] .null) (i_Et : Exa Z h0 t1 own_cT) (i_Tl : own_eF11 Z h0 t1 (.ref la)) (i_Ts : own_eF12 Z h0 t1 (.long (0 : Int64))) (i_Tn : own_eF13 Z h0 t1 (.int 0)) (i_Tc : own_eF14 Z h0 t1 .null) (i_Tp : own_eF15 Z h0 t1 .null) (i_Ta : own_eF16 Z h0 t1 .null) (i_Al : own_aB Z h0 la kl (64 : Int32) LL) (i_Es : Exa Z h0 a2 own_cS) (i_Fv : own_eF10 Z h0 a2 (.ref b_1)) (i_Fc : own_eF9 Z h0 a2 (.int 0)) (i_Ab : own_aB Z h0 b_1 k_1 m1 L_1) (g_t1 : n0 ≤ t1) (ne_t1_a2 : t1 ≠ a2) (ne_t1_b_1 : t1 ≠ b_1) (ne_t1_la : t1 ≠ la) (ne_t1_de : t1 ≠ de) (ne_a2_de : a2 ≠ de) (ne_a2_la : a2 ≠ la) (ne_b_1_de : b_1 ≠ de) (hp_cs : ¬ (cs = (0 : Int32))) (hp_fm : fm.isRef = true) (hp_d9 : ¬ (m1 < (0 : Int32))) (hp_bg : (16384 : Int32) < m1) (hp_q0 : ¬ ((2147483639 : Int64) < ((0 : Int64) + (m1.toInt64)))) (hp_b6 : (64 : Int32) < m1) :
    own_C l Z own_y3 prog_37_method_4_code 6 none ws own_a3B0_R #[(.ref t1), (.ref a2), (.int 0), (.int m1)] h0 (own_W n0 (own_a3B0_q Z t1 a2 m1 cs fm de kd b_1 k_1 L_1 la kl LL h0)) := by
  refine own_goW own_pn13 own_o13 #[.val (.ref t1), .val (.ref a2), .val (.int 0), .val (.int m1), .unset, .unset] (fun _ => rfl) fun p e s m below meth c s₁ Bd D hml hZ hown X0 e0 N0 => ?_
  have hx := D.1
  have K0 : Keep h0 h0 [t1] := Keep.refl h0 _
  refine own_r X0 D 4 rfl ?_
  have J1 : ∀ (f : Nat) (i : Int32) (TJ1 : State) (hJ1 : Heap) (LJ1 : List Loc) (XJ1 : Stand p l e own_a3B0_R s m #[(.ref t1), (.ref a2), (.int 0), (.int m1)] below meth c TJ1 LJ1 0 0) (NJ1 : Fr n0 LJ1) (eJ1 : TJ1.heap = hJ1) (KJ1 : Keep h0 hJ1 [t1]) (ZJ1 : n0 ≤ hJ1.size) (fJ1_0 : own_eS1 Z hJ1 (.int cs)) (fJ1_1 : own_eS0 Z hJ1 fm) (fJ1_2 : own_eS7 Z hJ1 (.ref de)) (fJ1_3 : Arv Z hJ1 de kd (.object "java/lang/Object") (0 : Int32) [] .null) (fJ1_4 : Exa Z hJ1 t1 own_cT) (fJ1_5 : own_eF11 Z hJ1 t1 (.ref la)) (fJ1_6 : own_eF12 Z hJ1 t1 (.long (0 : Int64))) (fJ1_7 : own_eF13 Z hJ1 t1 (.int 0)) (fJ1_8 : own_eF14 Z hJ1 t1 .null) (fJ1_9 : own_eF15 Z hJ1 t1 .null) (fJ1_10 : own_eF16 Z hJ1 t1 .null) (fJ1_11 : own_aB Z hJ1 la kl (64 : Int32) LL) (fJ1_12 : Exa Z hJ1 a2 own_cS) (fJ1_13 : own_eF10 Z hJ1 a2 (.ref b_1)) (fJ1_14 : own_eF9 Z hJ1 a2 (.int 0)) (fJ1_15 : own_aB Z hJ1 b_1 k_1 m1 L_1) (hI : own_al m1 f i), own_G p e below (own_P s (own_W n0 (own_a3B0_q Z t1 a2 m1 cs fm de kd b_1 k_1 L_1 la kl LL h0)) own_a3B0_R.cells own_a3B0_R.slots) (TJ1.setTop (mkF m 6 #[.val (.ref t1), .val (.ref a2), .val (.int 0), .val (.int m1), .val (.int 1), .val (.int i)] [])) := by
    intro f
    induction f with
    | zero =>
      intro i TJ1 hJ1 LJ1 XJ1 NJ1 eJ1 KJ1 ZJ1 fJ1_0 fJ1_1 fJ1_2 fJ1_3 fJ1_4 fJ1_5 fJ1_6 fJ1_7 fJ1_8 fJ1_9 fJ1_10 fJ1_11 fJ1_12 fJ1_13 fJ1_14 fJ1_15 hI
      have hJ : ¬ i < m1 := hI
      refine own_r XJ1 D 1 rfl ?_
      refine own_gF XJ1 D hZ hown (own_u hw 72 rfl) Via.refl eJ1 fJ1_8 rfl fun T2 X2 e2 => ?_
      refine own_oN X2 D rfl ?_
      refine own_r X2 D 1 rfl ?_
      refine own_fN X2 D rfl (feq (by decide : ¬ ((1 : Int32) = (0 : Int32)))).1 ?_
      refine own_r X2 D 2 rfl ?_
      refine own_cY X2 D rfl (flt hJ).2.1 ?_
      refine own_r X2 D 5 rfl ?_
      refine own_xV X2 NJ1 D hZ hown hml (own_u hw 96 rfl) (own_K31 hw) (own_akB0 hw ZJ1 fJ1_0 fJ1_1 fJ1_2 fJ1_3 fJ1_4 fJ1_5 fJ1_6 fJ1_7 fJ1_8 fJ1_9 fJ1_10 fJ1_11 fJ1_12 fJ1_13 fJ1_14 fJ1_15 g_t1 ne_t1_a2 ne_t1_b_1 ne_t1_la ne_t1_de ne_a2_de ne_a2_la ne_b_1_de hp_cs hp_fm hp_d9 hp_bg hp_q0 hp_b6) 0 (by decide) e2 fJ1_4 rfl rfl ?_
      rintro v3 T3 h3 L3 X3 N3 e3 ⟨li3, rfl, K3, o3_0, o3_1, o3_2, o3_3, o3_4, o3_5, o3_6⟩
      have Kp14 := KJ1.trans K3 (own_al1 (Or.inl own_m0))
      exact own_rV X3 D Bd rfl e3 ⟨N3, li3, rfl, Kp14, o3_0, o3_1, o3_2, o3_3, o3_4, o3_5, o3_6⟩ (by decide)
    | succ f ih =>
      intro i TJ1 hJ1 LJ1 XJ1 NJ1 eJ1 KJ1 ZJ1 fJ1_0 fJ1_1 fJ1_2 fJ1_3 fJ1_4 fJ1_5 fJ1_6 fJ1_7 fJ1_8 fJ1_9 fJ1_10 fJ1_11 fJ1_12 fJ1_13 fJ1_14 fJ1_15 hI
      have hJ : i < m1 ∧ ¬ i < (0 : Int32) ∧ own_al m1 f (i + 1) := hI
      refine own_r XJ1 D 1 rfl ?_
      refine own_gF XJ1 D hZ hown (own_u hw 72 rfl) Via.refl eJ1 fJ1_8 rfl fun T16 X16 e16 => ?_
      refine own_oN X16 D rfl ?_
      refine own_r X16 D 1 rfl ?_
      refine own_fN X16 D rfl (feq (by decide : ¬ ((1 : Int32) = (0 : Int32)))).1 ?_
      refine own_r X16 D 2 rfl ?_
      refine own_cN X16 D rfl (tlt hJ.1).2.1 ?_
      refine own_r X16 D 2 rfl ?_
      refine own_xVP X16 D hZ hown hml (own_u hw 74 rfl) (own_K32 hw) (own_sch1 hw fJ1_0 fJ1_1 fJ1_12 fJ1_13 fJ1_14 fJ1_15 hp_cs hp_fm hJ.2.1 hJ.1) 0 (by decide) e16 fJ1_12 rfl rfl fun T17 X17 e17 => ?_
      refine own_r X17 D 1 rfl ?_
      refine own_cN X17 D rfl (flt (own_c255 _ _)).2.2.1 ?_
      refine own_r X17 D 5 rfl ?_
      exact ih  (i + (1 : Int32)) _ _ _ X17 NJ1 e17 KJ1 ZJ1 fJ1_0 fJ1_1 fJ1_2 fJ1_3 fJ1_4 fJ1_5 fJ1_6 fJ1_7 fJ1_8 fJ1_9 fJ1_10 fJ1_11 fJ1_12 fJ1_13 fJ1_14 fJ1_15 hJ.2.2
  exact J1 m1.toNatClampNeg (0 : Int32) _ _ _ X0 N0 e0 K0 Z0 i_SC i_SF i_SD i_Ad i_Et i_Tl i_Ts i_Tn i_Tc i_Tp i_Ta i_Al i_Es i_Fv i_Fc i_Ab (own_al0 hp_d9)
abbrev own_a1B0_R : Room := { frames := 9, cells := 2, slots := 13, locals := 133 }
def own_a1B0_q (Z : State) (t1 : Addr) (a2 : Addr) (m1 : Int32) (cs : Int32) (fm : Value) (de : Addr) (kd : ClassId) (b_1 : Addr) (k_1 : ClassId) (L_1 : List Int32) (la : Addr) (kl : ClassId) (LL : List Int32) (h0 : Heap) (v : Option Value) (h : Heap) : Prop := ∃ (li : Addr), v = none ∧ Keep h0 h [t1] ∧ Exa Z h t1 own_cT ∧ own_eF11 Z h t1 (.ref la) ∧ own_eF12 Z h t1 (.long ((0 : Int64) + (m1.toInt64))) ∧ own_eF13 Z h t1 (.int 0) ∧ own_eF14 Z h t1 .null ∧ own_eF15 Z h t1 .null ∧ own_eF16 Z h t1 (.ref li)
theorem own_a1B0 (hw : own_hw a0 Z) (Z0 : n0 ≤ h0.size) (i_SC : own_eS1 Z h0 (.int cs)) (i_SF : own_eS0 Z h0 fm) (i_SD : own_eS7 Z h0 (.ref de)) (i_Ad : Arv Z h0 de kd (.object "java/lang/Object") (0 : Int32) [] .null) (i_Et : Exa Z h0 t1 own_cT) (i_Tl : own_eF11 Z h0 t1 (.ref la)) (i_Ts : own_eF12 Z h0 t1 (.long (0 : Int64))) (i_Tn : own_eF13 Z h0 t1 (.int 0)) (i_Tc : own_eF14 Z h0 t1 .null) (i_Tp : own_eF15 Z h0 t1 .null) (i_Ta : own_eF16 Z h0 t1 .null) (i_Al : own_aB Z h0 la kl (64 : Int32) LL) (i_Es : Exa Z h0 a2 own_cS) (i_Fv : own_eF10 Z h0 a2 (.ref b_1)) (i_Fc : own_eF9 Z h0 a2 (.int 0)) (i_Ab : own_aB Z h0 b_1 k_1 m1 L_1) (g_t1 : n0 ≤ t1) (ne_t1_a2 : t1 ≠ a2) (ne_t1_b_1 : t1 ≠ b_1) (ne_t1_la : t1 ≠ la) (ne_t1_de : t1 ≠ de) (ne_a2_de : a2 ≠ de) (ne_a2_la : a2 ≠ la) (ne_b_1_de : b_1 ≠ de) (hp_cs : ¬ (cs = (0 : Int32))) (hp_fm : fm.isRef = true) (hp_d9 : ¬ (m1 < (0 : Int32))) (hp_bg : (16384 : Int32) < m1) (hp_q0 : ¬ ((2147483639 : Int64) < ((0 : Int64) + (m1.toInt64)))) (hp_b6 : (64 : Int32) < m1) :
    own_C l Z own_y2 prog_37_method_3_code 2 none ws own_a1B0_R #[(.ref t1), (.ref a2)] h0 (own_W n0 (own_a1B0_q Z t1 a2 m1 cs fm de kd b_1 k_1 L_1 la kl LL h0)) := by
  refine own_goW own_pn10 own_o10 #[.val (.ref t1), .val (.ref a2)] (fun _ => rfl) fun p e s m below meth c s₁ Bd D hml hZ hown X0 e0 N0 => ?_
  have hx := D.1
  have K0 : Keep h0 h0 [t1] := Keep.refl h0 _
  refine own_r X0 D 4 rfl ?_
  refine own_xVP X0 D hZ hown hml (own_u hw 57 rfl) (own_K26 hw) (own_len0 hw i_SC i_Es i_Fv i_Fc i_Ab hp_cs) 3 (by decide) e0 i_Es rfl rfl fun T1 X1 e1 => ?_
  refine own_xV X1 N0 D hZ hown hml (own_u hw 67 rfl) (own_K33 hw) (own_a3B0 hw Z0 i_SC i_SF i_SD i_Ad i_Et i_Tl i_Ts i_Tn i_Tc i_Tp i_Ta i_Al i_Es i_Fv i_Fc i_Ab g_t1 ne_t1_a2 ne_t1_b_1 ne_t1_la ne_t1_de ne_a2_de ne_a2_la ne_b_1_de hp_cs hp_fm hp_d9 hp_bg hp_q0 hp_b6) 0 (by decide) e1 i_Et rfl rfl ?_
  rintro v2 T2 h2 L2 X2 N2 e2 ⟨li2, rfl, K2, o2_0, o2_1, o2_2, o2_3, o2_4, o2_5, o2_6⟩
  have Kp13 := K0.trans K2 (own_al1 (Or.inl own_m0))
  exact own_rV X2 D Bd rfl e2 ⟨N2, li2, rfl, Kp13, o2_0, o2_1, o2_2, o2_3, o2_4, o2_5, o2_6⟩ (by decide)
abbrev own_kmBA_R : Room := { frames := 7, cells := 4, slots := 20, locals := 135 }
def own_kmBA_q (Z : State) (t1 : Addr) (a2 : Addr) (m1 : Int32) (cs : Int32) (fm : Value) (u8 : Addr) (a3 : Addr) (de : Addr) (kd : ClassId) (n1 : Int32) (b_1 : Addr) (k_1 : ClassId) (L_1 : List Int32) (la : Addr) (kl : ClassId) (LL : List Int32) (h0 : Heap) (v : Option Value) (h : Heap) : Prop := ∃ (li : Addr), v = none ∧ Keep h0 h [t1] ∧ Exa Z h t1 own_cT ∧ own_eF11 Z h t1 (.ref la) ∧ own_eF12 Z h t1 (.long (((0 : Int64) + (n1.toInt64)) + (m1.toInt64))) ∧ own_eF13 Z h t1 (.int 0) ∧ own_eF14 Z h t1 .null ∧ own_eF15 Z h t1 .null ∧ own_eF16 Z h t1 (.ref li)
theorem own_kmBA (hw : own_hw a0 Z) (Z0 : n0 ≤ h0.size) (i_SC : own_eS1 Z h0 (.int cs)) (i_SF : own_eS0 Z h0 fm) (i_S8 : own_eS5 Z h0 (.ref u8)) (i_SI : own_eS6 Z h0 (.ref a3)) (i_SX : own_eS8 Z h0 (.ref a3)) (i_E3 : Exa Z h0 a3 "sun/nio/cs/ISO_8859_1") (i_SD : own_eS7 Z h0 (.ref de)) (i_Ad : Arv Z h0 de kd (.object "java/lang/Object") (0 : Int32) [] .null) (i_Et : Exa Z h0 t1 own_cT) (i_Tl : own_eF11 Z h0 t1 (.ref la)) (i_Ts : own_eF12 Z h0 t1 (.long (0 : Int64))) (i_Tn : own_eF13 Z h0 t1 (.int n1)) (i_Tc : own_eF14 Z h0 t1 .null) (i_Tp : own_eF15 Z h0 t1 .null) (i_Ta : own_eF16 Z h0 t1 .null) (i_Al : own_aB Z h0 la kl (64 : Int32) LL) (i_Es : Exa Z h0 a2 own_cS) (i_Fv : own_eF10 Z h0 a2 (.ref b_1)) (i_Fc : own_eF9 Z h0 a2 (.int 0)) (i_Ab : own_aB Z h0 b_1 k_1 m1 L_1) (g_t1 : n0 ≤ t1) (ne_t1_a2 : t1 ≠ a2) (ne_t1_b_1 : t1 ≠ b_1) (ne_t1_la : t1 ≠ la) (ne_t1_de : t1 ≠ de) (ne_a2_de : a2 ≠ de) (ne_a2_la : a2 ≠ la) (ne_b_1_de : b_1 ≠ de) (ne_a3_u8 : a3 ≠ u8) (hp_cs : ¬ (cs = (0 : Int32))) (hp_fm : fm.isRef = true) (hp_z : ¬ (n1 = (0 : Int32))) (hp_pos : (0 : Int32) < n1) (hp_d0 : ¬ (n1 < (0 : Int32))) (hp_d3 : n1.toNatClampNeg ≤ 3) (hp_d9 : ¬ (m1 < (0 : Int32))) (hp_bg : (16384 : Int32) < m1) (hp_qa : ¬ ((2147483639 : Int64) < (((0 : Int64) + (n1.toInt64)) + (m1.toInt64)))) (hp_b6 : ((64 : Int32) - n1) < m1) :
    own_C l Z own_y5 prog_37_method_7_code 6 none ws own_kmBA_R #[(.ref t1), (.ref a2), (.int 0), (.int m1), (.int 1)] h0 (own_W n0 (own_kmBA_q Z t1 a2 m1 cs fm u8 a3 de kd n1 b_1 k_1 L_1 la kl LL h0)) := by
  refine own_goW own_pn37 own_o37 #[.val (.ref t1), .val (.ref a2), .val (.int 0), .val (.int m1), .val (.int 1), .unset] (fun _ => rfl) fun p e s m below meth c s₁ Bd D hml hZ hown X0 e0 N0 => ?_
  have hx := D.1
  have K0 : Keep h0 h0 [t1] := Keep.refl h0 _
  refine own_r X0 D 3 rfl ?_
  show own_H s₁ 3 #[.val (.ref t1), .val (.ref a2), .val (.int 0), .val (.int m1), .val (.int 1), .unset] [(.int (m1 - (0 : Int32)))]
  rw [show (m1 - (0 : Int32)) = m1 from (own_s0 m1)]
  refine own_r X0 D 3 rfl ?_
  refine own_cN X0 D rfl (tlt hp_bg).2.2.2 ?_
  refine own_r X0 D 1 rfl ?_
  refine own_xR X0 N0 D hZ hown hml (own_u hw 222 rfl) (own_K45 hw) (own_scA hw Z0 i_SC i_SF i_S8 i_SI i_SX i_E3 i_SD i_Ad i_Et i_Tl i_Ts i_Tn i_Tc i_Tp i_Ta i_Al g_t1 ne_a3_u8 ne_t1_de ne_t1_la hp_cs hp_fm hp_z hp_pos hp_d0 hp_d3) 0 (by decide) e0 i_Et rfl rfl ?_
  rintro v1 T1 h1 L1 X1 N1 e1 ⟨li1, x1, kx1, v01, rfl, K1, zf_li1, zf_x1, xn1_0, xp1_0, o1_0, o1_1, o1_2, o1_3, o1_4, o1_5, o1_6, o1_7, o1_8, o1_9, o1_10, o1_11⟩
  have ne4 := own_ne2 i_Et.lt zf_li1
  have ne6 := own_ne2 i_Es.lt zf_li1
  have ne7 := own_ne2 i_Ab.lt zf_li1
  have g_li1 := Nat.le_trans Z0 zf_li1
  have sz_li1 := Nat.le_trans K0.1 zf_li1
  have ne10 := own_ne2 i_Et.lt zf_x1
  have ne12 := own_ne2 i_Es.lt zf_x1
  have ne13 := own_ne2 i_Ab.lt zf_x1
  have g_x1 := Nat.le_trans Z0 zf_x1
  have sz_x1 := Nat.le_trans K0.1 zf_x1
  have f14 := own_staK i_SC K1 (own_al1 i_Et.nostat)
  have f15 := own_staK i_SF K1 (own_al1 i_Et.nostat)
  have f24 := i_Es.keep K1
  have f25 := i_Fv.keep K1 (own_nm1 (Ne.symm ne_t1_a2))
  have f26 := i_Fc.keep K1 (own_nm1 (Ne.symm ne_t1_a2))
  have f27 := i_Ab.keep K1 (own_nm1 (Ne.symm ne_t1_b_1))
  have Kp28 := K0.trans K1 (own_al1 (Or.inl own_m0))
  have Zs29 := Nat.le_trans Z0 K1.1
  refine own_r X1 D 4 rfl ?_
  refine own_xVP X1 D hZ hown hml (own_u hw 303 rfl) (own_K46 hw) (own_sub hw f14 f15 f24 f25 f26 f27 hp_cs hp_fm hp_d9) 1 (by decide) e1 f24 rfl rfl fun T30 X30 e30 => ?_
  refine own_xR X30 N1 D hZ hown hml (own_u hw 236 rfl) (own_K44 hw) (own_saL (m1 := (0 : Int32)) (q1 := ((0 : Int64) + (n1.toInt64))) (u1 := (.null)) (u2 := (.null)) (u3 := (.ref la)) (mc := ((0 : Int32) + (1 : Int32))) hw Zs29 f14 o1_0 o1_1 o1_2 o1_3 o1_4 o1_5 o1_6 o1_7 o1_8 o1_9 o1_10 o1_11 f24 f25 f26 f27 g_t1 g_li1 g_x1 ne_t1_a2 ne_t1_b_1 ne4 ne10 xn1_0 (Ne.symm ne6) (Ne.symm ne7) ne12 (Ne.symm ne13) hp_cs hp_qa xp1_0) 0 (by decide) e30 o1_0 rfl rfl ?_
  rintro v31 T31 h31 L31 X31 N31 e31 ⟨rfl, K31, o31_0, o31_1, o31_2, o31_3, o31_4, o31_5, o31_6⟩
  have Kp47 := Kp28.trans K31 (fun x hx => by simp only [List.mem_cons, List.not_mem_nil, or_false] at hx; rcases hx with rfl | rfl | rfl <;> first | exact (Or.inl own_m0) | exact (Or.inr sz_li1) | exact (Or.inr sz_x1))
  refine own_r X31 D 1 rfl ?_
  exact own_rV X31 D Bd rfl e31 ⟨N31, li1, rfl, Kp47, o31_0, o31_1, o31_2, o31_3, o31_4, o31_5, o31_6⟩ (by decide)
abbrev own_akBA_R : Room := { frames := 8, cells := 4, slots := 20, locals := 152 }
def own_akBA_q (Z : State) (t1 : Addr) (a2 : Addr) (m1 : Int32) (cs : Int32) (fm : Value) (u8 : Addr) (a3 : Addr) (de : Addr) (kd : ClassId) (n1 : Int32) (b_1 : Addr) (k_1 : ClassId) (L_1 : List Int32) (la : Addr) (kl : ClassId) (LL : List Int32) (h0 : Heap) (v : Option Value) (h : Heap) : Prop := ∃ (li : Addr), v = none ∧ Keep h0 h [t1] ∧ Exa Z h t1 own_cT ∧ own_eF11 Z h t1 (.ref la) ∧ own_eF12 Z h t1 (.long (((0 : Int64) + (n1.toInt64)) + (m1.toInt64))) ∧ own_eF13 Z h t1 (.int 0) ∧ own_eF14 Z h t1 .null ∧ own_eF15 Z h t1 .null ∧ own_eF16 Z h t1 (.ref li)
theorem own_akBA (hw : own_hw a0 Z) (Z0 : n0 ≤ h0.size) (i_SC : own_eS1 Z h0 (.int cs)) (i_SF : own_eS0 Z h0 fm) (i_S8 : own_eS5 Z h0 (.ref u8)) (i_SI : own_eS6 Z h0 (.ref a3)) (i_SX : own_eS8 Z h0 (.ref a3)) (i_E3 : Exa Z h0 a3 "sun/nio/cs/ISO_8859_1") (i_SD : own_eS7 Z h0 (.ref de)) (i_Ad : Arv Z h0 de kd (.object "java/lang/Object") (0 : Int32) [] .null) (i_Et : Exa Z h0 t1 own_cT) (i_Tl : own_eF11 Z h0 t1 (.ref la)) (i_Ts : own_eF12 Z h0 t1 (.long (0 : Int64))) (i_Tn : own_eF13 Z h0 t1 (.int n1)) (i_Tc : own_eF14 Z h0 t1 .null) (i_Tp : own_eF15 Z h0 t1 .null) (i_Ta : own_eF16 Z h0 t1 .null) (i_Al : own_aB Z h0 la kl (64 : Int32) LL) (i_Es : Exa Z h0 a2 own_cS) (i_Fv : own_eF10 Z h0 a2 (.ref b_1)) (i_Fc : own_eF9 Z h0 a2 (.int 0)) (i_Ab : own_aB Z h0 b_1 k_1 m1 L_1) (g_t1 : n0 ≤ t1) (ne_t1_a2 : t1 ≠ a2) (ne_t1_b_1 : t1 ≠ b_1) (ne_t1_la : t1 ≠ la) (ne_t1_de : t1 ≠ de) (ne_a2_de : a2 ≠ de) (ne_a2_la : a2 ≠ la) (ne_b_1_de : b_1 ≠ de) (ne_a3_u8 : a3 ≠ u8) (hp_cs : ¬ (cs = (0 : Int32))) (hp_fm : fm.isRef = true) (hp_z : ¬ (n1 = (0 : Int32))) (hp_pos : (0 : Int32) < n1) (hp_d0 : ¬ (n1 < (0 : Int32))) (hp_d3 : n1.toNatClampNeg ≤ 3) (hp_d9 : ¬ (m1 < (0 : Int32))) (hp_bg : (16384 : Int32) < m1) (hp_qa : ¬ ((2147483639 : Int64) < (((0 : Int64) + (n1.toInt64)) + (m1.toInt64)))) (hp_b6 : ((64 : Int32) - n1) < m1) :
    own_C l Z own_y4 prog_37_method_6_code 6 none ws own_akBA_R #[(.ref t1), (.ref a2), (.int 0), (.int m1), (.int 1)] h0 (own_W n0 (own_akBA_q Z t1 a2 m1 cs fm u8 a3 de kd n1 b_1 k_1 L_1 la kl LL h0)) := by
  refine own_goW own_pn19 own_o19 #[.val (.ref t1), .val (.ref a2), .val (.int 0), .val (.int m1), .val (.int 1), .unset] (fun _ => rfl) fun p e s m below meth c s₁ Bd D hml hZ hown X0 e0 N0 => ?_
  have hx := D.1
  have K0 : Keep h0 h0 [t1] := Keep.refl h0 _
  refine own_r X0 D 3 rfl ?_
  show own_H s₁ 3 #[.val (.ref t1), .val (.ref a2), .val (.int 0), .val (.int m1), .val (.int 1), .unset] [(.int (m1 - (0 : Int32)))]
  rw [show (m1 - (0 : Int32)) = m1 from (own_s0 m1)]
  refine own_r X0 D 2 rfl ?_
  refine own_gF X0 D hZ hown (own_u hw 72 rfl) Via.refl e0 i_Tc rfl fun T1 X1 e1 => ?_
  refine own_oN X1 D rfl ?_
  refine own_r X1 D 1 rfl ?_
  refine own_fN X1 D rfl (feq (by decide : ¬ ((1 : Int32) = (0 : Int32)))).1 ?_
  refine own_r X1 D 2 rfl ?_
  refine own_gF X1 D hZ hown (own_u hw 41 rfl) Via.refl e1 i_Tl rfl fun T2 X2 e2 => ?_
  refine own_via (own_len X2 hx hZ e2 i_Al (own_dd D rfl)) ?_
  refine own_r X2 D 1 rfl ?_
  refine own_gF X2 D hZ hown (own_u hw 50 rfl) Via.refl e2 i_Tn rfl fun T3 X3 e3 => ?_
  refine own_r X3 D 1 rfl ?_
  refine own_cY X3 D rfl (tlt hp_b6).2.2.1 ?_
  refine own_r X3 D 1 rfl ?_
  refine own_gF X3 D hZ hown (own_u hw 72 rfl) Via.refl e3 i_Tc rfl fun T4 X4 e4 => ?_
  refine own_nY X4 D rfl ?_
  refine own_r X4 D 5 rfl ?_
  refine own_xR X4 N0 D hZ hown hml (own_u hw 168 rfl) (own_K47 hw) (own_kmBA hw Z0 i_SC i_SF i_S8 i_SI i_SX i_E3 i_SD i_Ad i_Et i_Tl i_Ts i_Tn i_Tc i_Tp i_Ta i_Al i_Es i_Fv i_Fc i_Ab g_t1 ne_t1_a2 ne_t1_b_1 ne_t1_la ne_t1_de ne_a2_de ne_a2_la ne_b_1_de ne_a3_u8 hp_cs hp_fm hp_z hp_pos hp_d0 hp_d3 hp_d9 hp_bg hp_qa hp_b6) 0 (by decide) e4 i_Et rfl rfl ?_
  rintro v5 T5 h5 L5 X5 N5 e5 ⟨li5, rfl, K5, o5_0, o5_1, o5_2, o5_3, o5_4, o5_5, o5_6⟩
  have Kp20 := K0.trans K5 (own_al1 (Or.inl own_m0))
  exact own_rV X5 D Bd rfl e5 ⟨N5, li5, rfl, Kp20, o5_0, o5_1, o5_2, o5_3, o5_4, o5_5, o5_6⟩ (by decide)
abbrev own_a3BA_R : Room := { frames := 9, cells := 4, slots := 20, locals := 169 }
def own_a3BA_q (Z : State) (t1 : Addr) (a2 : Addr) (m1 : Int32) (cs : Int32) (fm : Value) (u8 : Addr) (a3 : Addr) (de : Addr) (kd : ClassId) (n1 : Int32) (b_1 : Addr) (k_1 : ClassId) (L_1 : List Int32) (la : Addr) (kl : ClassId) (LL : List Int32) (h0 : Heap) (v : Option Value) (h : Heap) : Prop := ∃ (li : Addr), v = none ∧ Keep h0 h [t1] ∧ Exa Z h t1 own_cT ∧ own_eF11 Z h t1 (.ref la) ∧ own_eF12 Z h t1 (.long (((0 : Int64) + (n1.toInt64)) + (m1.toInt64))) ∧ own_eF13 Z h t1 (.int 0) ∧ own_eF14 Z h t1 .null ∧ own_eF15 Z h t1 .null ∧ own_eF16 Z h t1 (.ref li)
theorem own_a3BA (hw : own_hw a0 Z) (Z0 : n0 ≤ h0.size) (i_SC : own_eS1 Z h0 (.int cs)) (i_SF : own_eS0 Z h0 fm) (i_S8 : own_eS5 Z h0 (.ref u8)) (i_SI : own_eS6 Z h0 (.ref a3)) (i_SX : own_eS8 Z h0 (.ref a3)) (i_E3 : Exa Z h0 a3 "sun/nio/cs/ISO_8859_1") (i_SD : own_eS7 Z h0 (.ref de)) (i_Ad : Arv Z h0 de kd (.object "java/lang/Object") (0 : Int32) [] .null) (i_Et : Exa Z h0 t1 own_cT) (i_Tl : own_eF11 Z h0 t1 (.ref la)) (i_Ts : own_eF12 Z h0 t1 (.long (0 : Int64))) (i_Tn : own_eF13 Z h0 t1 (.int n1)) (i_Tc : own_eF14 Z h0 t1 .null) (i_Tp : own_eF15 Z h0 t1 .null) (i_Ta : own_eF16 Z h0 t1 .null) (i_Al : own_aB Z h0 la kl (64 : Int32) LL) (i_Es : Exa Z h0 a2 own_cS) (i_Fv : own_eF10 Z h0 a2 (.ref b_1)) (i_Fc : own_eF9 Z h0 a2 (.int 0)) (i_Ab : own_aB Z h0 b_1 k_1 m1 L_1) (g_t1 : n0 ≤ t1) (ne_t1_a2 : t1 ≠ a2) (ne_t1_b_1 : t1 ≠ b_1) (ne_t1_la : t1 ≠ la) (ne_t1_de : t1 ≠ de) (ne_a2_de : a2 ≠ de) (ne_a2_la : a2 ≠ la) (ne_b_1_de : b_1 ≠ de) (ne_a3_u8 : a3 ≠ u8) (hp_cs : ¬ (cs = (0 : Int32))) (hp_fm : fm.isRef = true) (hp_z : ¬ (n1 = (0 : Int32))) (hp_pos : (0 : Int32) < n1) (hp_d0 : ¬ (n1 < (0 : Int32))) (hp_d3 : n1.toNatClampNeg ≤ 3) (hp_d9 : ¬ (m1 < (0 : Int32))) (hp_bg : (16384 : Int32) < m1) (hp_qa : ¬ ((2147483639 : Int64) < (((0 : Int64) + (n1.toInt64)) + (m1.toInt64)))) (hp_b6 : ((64 : Int32) - n1) < m1) :
    own_C l Z own_y3 prog_37_method_4_code 6 none ws own_a3BA_R #[(.ref t1), (.ref a2), (.int 0), (.int m1)] h0 (own_W n0 (own_a3BA_q Z t1 a2 m1 cs fm u8 a3 de kd n1 b_1 k_1 L_1 la kl LL h0)) := by
  refine own_goW own_pn13 own_o13 #[.val (.ref t1), .val (.ref a2), .val (.int 0), .val (.int m1), .unset, .unset] (fun _ => rfl) fun p e s m below meth c s₁ Bd D hml hZ hown X0 e0 N0 => ?_
  have hx := D.1
  have K0 : Keep h0 h0 [t1] := Keep.refl h0 _
  refine own_r X0 D 4 rfl ?_
  have J1 : ∀ (f : Nat) (i : Int32) (TJ1 : State) (hJ1 : Heap) (LJ1 : List Loc) (XJ1 : Stand p l e own_a3BA_R s m #[(.ref t1), (.ref a2), (.int 0), (.int m1)] below meth c TJ1 LJ1 0 0) (NJ1 : Fr n0 LJ1) (eJ1 : TJ1.heap = hJ1) (KJ1 : Keep h0 hJ1 [t1]) (ZJ1 : n0 ≤ hJ1.size) (fJ1_0 : own_eS1 Z hJ1 (.int cs)) (fJ1_1 : own_eS0 Z hJ1 fm) (fJ1_2 : own_eS5 Z hJ1 (.ref u8)) (fJ1_3 : own_eS6 Z hJ1 (.ref a3)) (fJ1_4 : own_eS8 Z hJ1 (.ref a3)) (fJ1_5 : Exa Z hJ1 a3 "sun/nio/cs/ISO_8859_1") (fJ1_6 : own_eS7 Z hJ1 (.ref de)) (fJ1_7 : Arv Z hJ1 de kd (.object "java/lang/Object") (0 : Int32) [] .null) (fJ1_8 : Exa Z hJ1 t1 own_cT) (fJ1_9 : own_eF11 Z hJ1 t1 (.ref la)) (fJ1_10 : own_eF12 Z hJ1 t1 (.long (0 : Int64))) (fJ1_11 : own_eF13 Z hJ1 t1 (.int n1)) (fJ1_12 : own_eF14 Z hJ1 t1 .null) (fJ1_13 : own_eF15 Z hJ1 t1 .null) (fJ1_14 : own_eF16 Z hJ1 t1 .null) (fJ1_15 : own_aB Z hJ1 la kl (64 : Int32) LL) (fJ1_16 : Exa Z hJ1 a2 own_cS) (fJ1_17 : own_eF10 Z hJ1 a2 (.ref b_1)) (fJ1_18 : own_eF9 Z hJ1 a2 (.int 0)) (fJ1_19 : own_aB Z hJ1 b_1 k_1 m1 L_1) (hI : own_al m1 f i), own_G p e below (own_P s (own_W n0 (own_a3BA_q Z t1 a2 m1 cs fm u8 a3 de kd n1 b_1 k_1 L_1 la kl LL h0)) own_a3BA_R.cells own_a3BA_R.slots) (TJ1.setTop (mkF m 6 #[.val (.ref t1), .val (.ref a2), .val (.int 0), .val (.int m1), .val (.int 1), .val (.int i)] [])) := by
    intro f
    induction f with
    | zero =>
      intro i TJ1 hJ1 LJ1 XJ1 NJ1 eJ1 KJ1 ZJ1 fJ1_0 fJ1_1 fJ1_2 fJ1_3 fJ1_4 fJ1_5 fJ1_6 fJ1_7 fJ1_8 fJ1_9 fJ1_10 fJ1_11 fJ1_12 fJ1_13 fJ1_14 fJ1_15 fJ1_16 fJ1_17 fJ1_18 fJ1_19 hI
      have hJ : ¬ i < m1 := hI
      refine own_r XJ1 D 1 rfl ?_
      refine own_gF XJ1 D hZ hown (own_u hw 72 rfl) Via.refl eJ1 fJ1_12 rfl fun T2 X2 e2 => ?_
      refine own_oN X2 D rfl ?_
      refine own_r X2 D 1 rfl ?_
      refine own_fN X2 D rfl (feq (by decide : ¬ ((1 : Int32) = (0 : Int32)))).1 ?_
      refine own_r X2 D 2 rfl ?_
      refine own_cY X2 D rfl (flt hJ).2.1 ?_
      refine own_r X2 D 5 rfl ?_
      refine own_xV X2 NJ1 D hZ hown hml (own_u hw 96 rfl) (own_K31 hw) (own_akBA hw ZJ1 fJ1_0 fJ1_1 fJ1_2 fJ1_3 fJ1_4 fJ1_5 fJ1_6 fJ1_7 fJ1_8 fJ1_9 fJ1_10 fJ1_11 fJ1_12 fJ1_13 fJ1_14 fJ1_15 fJ1_16 fJ1_17 fJ1_18 fJ1_19 g_t1 ne_t1_a2 ne_t1_b_1 ne_t1_la ne_t1_de ne_a2_de ne_a2_la ne_b_1_de ne_a3_u8 hp_cs hp_fm hp_z hp_pos hp_d0 hp_d3 hp_d9 hp_bg hp_qa hp_b6) 0 (by decide) e2 fJ1_8 rfl rfl ?_
      rintro v3 T3 h3 L3 X3 N3 e3 ⟨li3, rfl, K3, o3_0, o3_1, o3_2, o3_3, o3_4, o3_5, o3_6⟩
      have Kp18 := KJ1.trans K3 (own_al1 (Or.inl own_m0))
      exact own_rV X3 D Bd rfl e3 ⟨N3, li3, rfl, Kp18, o3_0, o3_1, o3_2, o3_3, o3_4, o3_5, o3_6⟩ (by decide)
    | succ f ih =>
      intro i TJ1 hJ1 LJ1 XJ1 NJ1 eJ1 KJ1 ZJ1 fJ1_0 fJ1_1 fJ1_2 fJ1_3 fJ1_4 fJ1_5 fJ1_6 fJ1_7 fJ1_8 fJ1_9 fJ1_10 fJ1_11 fJ1_12 fJ1_13 fJ1_14 fJ1_15 fJ1_16 fJ1_17 fJ1_18 fJ1_19 hI
      have hJ : i < m1 ∧ ¬ i < (0 : Int32) ∧ own_al m1 f (i + 1) := hI
      refine own_r XJ1 D 1 rfl ?_
      refine own_gF XJ1 D hZ hown (own_u hw 72 rfl) Via.refl eJ1 fJ1_12 rfl fun T20 X20 e20 => ?_
      refine own_oN X20 D rfl ?_
      refine own_r X20 D 1 rfl ?_
      refine own_fN X20 D rfl (feq (by decide : ¬ ((1 : Int32) = (0 : Int32)))).1 ?_
      refine own_r X20 D 2 rfl ?_
      refine own_cN X20 D rfl (tlt hJ.1).2.1 ?_
      refine own_r X20 D 2 rfl ?_
      refine own_xVP X20 D hZ hown hml (own_u hw 74 rfl) (own_K32 hw) (own_sch1 hw fJ1_0 fJ1_1 fJ1_16 fJ1_17 fJ1_18 fJ1_19 hp_cs hp_fm hJ.2.1 hJ.1) 0 (by decide) e20 fJ1_16 rfl rfl fun T21 X21 e21 => ?_
      refine own_r X21 D 1 rfl ?_
      refine own_cN X21 D rfl (flt (own_c255 _ _)).2.2.1 ?_
      refine own_r X21 D 5 rfl ?_
      exact ih  (i + (1 : Int32)) _ _ _ X21 NJ1 e21 KJ1 ZJ1 fJ1_0 fJ1_1 fJ1_2 fJ1_3 fJ1_4 fJ1_5 fJ1_6 fJ1_7 fJ1_8 fJ1_9 fJ1_10 fJ1_11 fJ1_12 fJ1_13 fJ1_14 fJ1_15 fJ1_16 fJ1_17 fJ1_18 fJ1_19 hJ.2.2
  exact J1 m1.toNatClampNeg (0 : Int32) _ _ _ X0 N0 e0 K0 Z0 i_SC i_SF i_S8 i_SI i_SX i_E3 i_SD i_Ad i_Et i_Tl i_Ts i_Tn i_Tc i_Tp i_Ta i_Al i_Es i_Fv i_Fc i_Ab (own_al0 hp_d9)
abbrev own_a1BA_R : Room := { frames := 10, cells := 4, slots := 20, locals := 186 }
def own_a1BA_q (Z : State) (t1 : Addr) (a2 : Addr) (m1 : Int32) (cs : Int32) (fm : Value) (u8 : Addr) (a3 : Addr) (de : Addr) (kd : ClassId) (n1 : Int32) (b_1 : Addr) (k_1 : ClassId) (L_1 : List Int32) (la : Addr) (kl : ClassId) (LL : List Int32) (h0 : Heap) (v : Option Value) (h : Heap) : Prop := ∃ (li : Addr), v = none ∧ Keep h0 h [t1] ∧ Exa Z h t1 own_cT ∧ own_eF11 Z h t1 (.ref la) ∧ own_eF12 Z h t1 (.long (((0 : Int64) + (n1.toInt64)) + (m1.toInt64))) ∧ own_eF13 Z h t1 (.int 0) ∧ own_eF14 Z h t1 .null ∧ own_eF15 Z h t1 .null ∧ own_eF16 Z h t1 (.ref li)
theorem own_a1BA (hw : own_hw a0 Z) (Z0 : n0 ≤ h0.size) (i_SC : own_eS1 Z h0 (.int cs)) (i_SF : own_eS0 Z h0 fm) (i_S8 : own_eS5 Z h0 (.ref u8)) (i_SI : own_eS6 Z h0 (.ref a3)) (i_SX : own_eS8 Z h0 (.ref a3)) (i_E3 : Exa Z h0 a3 "sun/nio/cs/ISO_8859_1") (i_SD : own_eS7 Z h0 (.ref de)) (i_Ad : Arv Z h0 de kd (.object "java/lang/Object") (0 : Int32) [] .null) (i_Et : Exa Z h0 t1 own_cT) (i_Tl : own_eF11 Z h0 t1 (.ref la)) (i_Ts : own_eF12 Z h0 t1 (.long (0 : Int64))) (i_Tn : own_eF13 Z h0 t1 (.int n1)) (i_Tc : own_eF14 Z h0 t1 .null) (i_Tp : own_eF15 Z h0 t1 .null) (i_Ta : own_eF16 Z h0 t1 .null) (i_Al : own_aB Z h0 la kl (64 : Int32) LL) (i_Es : Exa Z h0 a2 own_cS) (i_Fv : own_eF10 Z h0 a2 (.ref b_1)) (i_Fc : own_eF9 Z h0 a2 (.int 0)) (i_Ab : own_aB Z h0 b_1 k_1 m1 L_1) (g_t1 : n0 ≤ t1) (ne_t1_a2 : t1 ≠ a2) (ne_t1_b_1 : t1 ≠ b_1) (ne_t1_la : t1 ≠ la) (ne_t1_de : t1 ≠ de) (ne_a2_de : a2 ≠ de) (ne_a2_la : a2 ≠ la) (ne_b_1_de : b_1 ≠ de) (ne_a3_u8 : a3 ≠ u8) (hp_cs : ¬ (cs = (0 : Int32))) (hp_fm : fm.isRef = true) (hp_z : ¬ (n1 = (0 : Int32))) (hp_pos : (0 : Int32) < n1) (hp_d0 : ¬ (n1 < (0 : Int32))) (hp_d3 : n1.toNatClampNeg ≤ 3) (hp_d9 : ¬ (m1 < (0 : Int32))) (hp_bg : (16384 : Int32) < m1) (hp_qa : ¬ ((2147483639 : Int64) < (((0 : Int64) + (n1.toInt64)) + (m1.toInt64)))) (hp_b6 : ((64 : Int32) - n1) < m1) :
    own_C l Z own_y2 prog_37_method_3_code 2 none ws own_a1BA_R #[(.ref t1), (.ref a2)] h0 (own_W n0 (own_a1BA_q Z t1 a2 m1 cs fm u8 a3 de kd n1 b_1 k_1 L_1 la kl LL h0)) := by
  refine own_goW own_pn10 own_o10 #[.val (.ref t1), .val (.ref a2)] (fun _ => rfl) fun p e s m below meth c s₁ Bd D hml hZ hown X0 e0 N0 => ?_
  have hx := D.1
  have K0 : Keep h0 h0 [t1] := Keep.refl h0 _
  refine own_r X0 D 4 rfl ?_
  refine own_xVP X0 D hZ hown hml (own_u hw 57 rfl) (own_K26 hw) (own_len0 hw i_SC i_Es i_Fv i_Fc i_Ab hp_cs) 3 (by decide) e0 i_Es rfl rfl fun T1 X1 e1 => ?_
  refine own_xV X1 N0 D hZ hown hml (own_u hw 67 rfl) (own_K33 hw) (own_a3BA hw Z0 i_SC i_SF i_S8 i_SI i_SX i_E3 i_SD i_Ad i_Et i_Tl i_Ts i_Tn i_Tc i_Tp i_Ta i_Al i_Es i_Fv i_Fc i_Ab g_t1 ne_t1_a2 ne_t1_b_1 ne_t1_la ne_t1_de ne_a2_de ne_a2_la ne_b_1_de ne_a3_u8 hp_cs hp_fm hp_z hp_pos hp_d0 hp_d3 hp_d9 hp_bg hp_qa hp_b6) 0 (by decide) e1 i_Et rfl rfl ?_
  rintro v2 T2 h2 L2 X2 N2 e2 ⟨li2, rfl, K2, o2_0, o2_1, o2_2, o2_3, o2_4, o2_5, o2_6⟩
  have Kp17 := K0.trans K2 (own_al1 (Or.inl own_m0))
  exact own_rV X2 D Bd rfl e2 ⟨N2, li2, rfl, Kp17, o2_0, o2_1, o2_2, o2_3, o2_4, o2_5, o2_6⟩ (by decide)
abbrev own_li0_R : Room := { frames := 0, cells := 0, slots := 0, locals := 0 }
theorem own_pn45 : plainFor own_y38 = true := plainFor_of_name (by first | (simp [plainName, overriddenIn]; done) | decide +kernel)
def own_li0_q (Z : State) (b_1 : Addr) (ca : Addr)  (h0 : Heap) (v : Option Value) (h : Heap) : Prop := v = none ∧ Keep h0 h []
theorem own_li0 (hw : own_hw a0 Z) (Z0 : n0 ≤ h0.size) :
    own_C l Z own_y38 jdk_43_method_49_code 6 none ws own_li0_R #[(.ref b_1), (.int 0), (.ref ca), (.int 0), (.int 0)] h0 (own_W n0 (own_li0_q Z b_1 ca h0)) := by
  refine own_goW own_pn45 own_o45 #[.val (.ref b_1), .val (.int 0), .val (.ref ca), .val (.int 0), .val (.int 0), .unset] (fun _ => rfl) fun p e s m below meth c s₁ Bd D hml hZ hown X0 e0 N0 => ?_
  have hx := D.1
  have K0 : Keep h0 h0 [] := Keep.refl h0 _
  refine own_r X0 D 4 rfl ?_
  refine own_cY X0 D rfl (flt (by decide : ¬ ((0 : Int32) < (0 : Int32)))).2.1 ?_
  exact own_rV X0 D Bd rfl e0 ⟨N0, rfl, K0⟩ (by decide)
abbrev own_lg0_R : Room := { frames := 1, cells := 0, slots := 0, locals := 17 }
theorem own_pn44 : plainFor own_y37 = true := plainFor_of_name (by first | (simp [plainName, overriddenIn]; done) | decide +kernel)
def own_lg0_q (Z : State) (b_1 : Addr) (ca : Addr)  (h0 : Heap) (v : Option Value) (h : Heap) : Prop := v = none ∧ Keep h0 h []
theorem own_lg0 (hw : own_hw a0 Z) (Z0 : n0 ≤ h0.size) :
    own_C l Z own_y37 jdk_43_method_11_code 5 none ws own_lg0_R #[(.ref b_1), (.int 0), (.int 0), (.ref ca), (.int 0)] h0 (own_W n0 (own_lg0_q Z b_1 ca h0)) := by
  refine own_goW own_pn44 own_o44 #[.val (.ref b_1), .val (.int 0), .val (.int 0), .val (.ref ca), .val (.int 0)] (fun _ => rfl) fun p e s m below meth c s₁ Bd D hml hZ hown X0 e0 N0 => ?_
  have hx := D.1
  have K0 : Keep h0 h0 [] := Keep.refl h0 _
  refine own_r X0 D 7 rfl ?_
  show own_H s₁ 8 #[.val (.ref b_1), .val (.int 0), .val (.int 0), .val (.ref ca), .val (.int 0)] [(.int 0), (.int 0), (.ref ca), (.int 0), (.ref b_1)]
  refine own_xS X0 N0 D hZ hown hml (own_u hw 212 rfl) (own_K48 hw) (own_li0 hw Z0) 0 (by decide) e0 rfl rfl ?_
  rintro v1 T1 h1 L1 X1 N1 e1 ⟨rfl, K1⟩
  have Kp2 := K0.trans K1 (fun x hx => nomatch hx)
  exact own_rV X1 D Bd rfl e1 ⟨N1, rfl, Kp2⟩ (by decide)
abbrev own_gs0_R : Room := { frames := 2, cells := 0, slots := 0, locals := 33 }
theorem own_pn43 : plainFor own_y30 = true := plainFor_of_name (by first | (simp [plainName, overriddenIn]; done) | decide +kernel)
def own_gs0_q (Z : State) (a1 : Addr) (ca : Addr) (cs : Int32) (fm : Value) (b_1 : Addr) (k_1 : ClassId) (kc : ClassId) (CM : List Int32) (h0 : Heap) (v : Option Value) (h : Heap) : Prop := v = none ∧ Keep h0 h []
theorem own_gs0 (hw : own_hw a0 Z) (Z0 : n0 ≤ h0.size) (i_SC : own_eS1 Z h0 (.int cs)) (i_SF : own_eS0 Z h0 fm) (i_Es : Exa Z h0 a1 own_cS) (i_Fv : own_eF10 Z h0 a1 (.ref b_1)) (i_Fc : own_eF9 Z h0 a1 (.int 0)) (i_Ab : own_aB Z h0 b_1 k_1 (0 : Int32) ([] : List Int32)) (i_Ach : own_aC Z h0 ca kc (64 : Int32) CM) (hp_cs : ¬ (cs = (0 : Int32))) (hp_fm : fm.isRef = true) :
    own_C l Z own_y30 jdk_42_method_61_code 5 none ws own_gs0_R #[(.ref a1), (.int 0), (.int 0), (.ref ca), (.int 0)] h0 (own_W n0 (own_gs0_q Z a1 ca cs fm b_1 k_1 kc CM h0)) := by
  refine own_goW own_pn43 own_o43 #[.val (.ref a1), .val (.int 0), .val (.int 0), .val (.ref ca), .val (.int 0)] (fun _ => rfl) fun p e s m below meth c s₁ Bd D hml hZ hown X0 e0 N0 => ?_
  have hx := D.1
  have K0 : Keep h0 h0 [] := Keep.refl h0 _
  refine own_r X0 D 3 rfl ?_
  refine own_xVP X0 D hZ hown hml (own_u hw 110 rfl) (own_K26 hw) (own_len0 (n1 := (0 : Int32)) (L_1 := ([] : List Int32)) hw i_SC i_Es i_Fv i_Fc i_Ab hp_cs) 2 (by decide) e0 i_Es rfl rfl fun T1 X1 e1 => ?_
  refine own_xPN X1 D hZ hown hml (own_u hw 111 rfl) (own_K27 hw) (own_cbe (i1 := (0 : Int32)) (j1 := (0 : Int32)) (n1 := (0 : Int32)) hw i_SF hp_fm (by decide : ¬ ((0 : Int32) < (0 : Int32))) (by decide : ¬ ((0 : Int32) < (0 : Int32))) (by decide : ¬ ((0 : Int32) < (0 : Int32)))) 0 (by decide) e1 rfl rfl fun T2 X2 e2 => ?_
  refine own_r X2 D 5 rfl ?_
  show own_H T2 15 #[.val (.ref a1), .val (.int 0), .val (.int 0), .val (.ref ca), .val (.int 0)] [(.ref ca), (.int 0), (.int 0)]
  refine own_via (own_len X2 hx hZ e2 i_Ach (own_dd D rfl)) ?_
  refine own_xP X2 D hZ hown hml (own_u hw 121 rfl) (own_K25 hw) (own_coc (i1 := (0 : Int32)) (j1 := (0 : Int32)) (n1 := (64 : Int32)) hw i_SF hp_fm (by decide : ¬ ((((64 : Int32) ||| (0 : Int32)) ||| (0 : Int32)) < (0 : Int32))) (by decide : ¬ (((64 : Int32) - (0 : Int32)) < (0 : Int32)))) 0 (by decide) e2 rfl rfl fun T3 X3 e3 => ?_
  refine own_r X3 D 2 rfl ?_
  refine own_xVP X3 D hZ hown hml (own_u hw 79 rfl) (own_K5 hw) (own_isl0 hw i_SC i_Fc hp_cs) 0 (by decide) e3 i_Es rfl rfl fun T4 X4 e4 => ?_
  refine own_fN X4 D rfl (feq (by decide : ¬ ((1 : Int32) = (0 : Int32)))).1 ?_
  refine own_r X4 D 1 rfl ?_
  refine own_gF X4 D hZ hown (own_u hw 32 rfl) Via.refl e4 i_Fv rfl fun T5 X5 e5 => ?_
  refine own_r X5 D 4 rfl ?_
  refine own_xS X5 N0 D hZ hown hml (own_u hw 209 rfl) (own_K49 hw) (own_lg0 hw Z0) 0 (by decide) e5 rfl rfl ?_
  rintro v6 T6 h6 L6 X6 N6 e6 ⟨rfl, K6⟩
  have Kp14 := K0.trans K6 (fun x hx => nomatch hx)
  refine own_r X6 D 1 rfl ?_
  exact own_rV X6 D Bd rfl e6 ⟨N6, rfl, Kp14⟩ (by decide)
abbrev own_kwc_R : Room := { frames := 0, cells := 0, slots := 0, locals := 0 }
theorem own_pn39 : plainFor own_y12 = true := plainFor_of_name (by first | (simp [plainName, overriddenIn]; done) | decide +kernel)
def own_kwc_q (Z : State) (t1 : Addr) (j1 : Int32) (m1 : Int32) (h0 : Heap) (v : Option Value) (h : Heap) : Prop := v = none ∧ Keep h0 h []
theorem own_kwc (hw : own_hw a0 Z) (Z0 : n0 ≤ h0.size) (i_Tn : own_eF13 Z h0 t1 (.int m1)) (hp_k : ¬ ((16384 : Int32) < (m1 + j1))) :
    own_C l Z own_y12 prog_37_method_21_code 2 none ws own_kwc_R #[(.ref t1), (.int j1)] h0 (own_W n0 (own_kwc_q Z t1 j1 m1 h0)) := by
  refine own_goW own_pn39 own_o39 #[.val (.ref t1), .val (.int j1)] (fun _ => rfl) fun p e s m below meth c s₁ Bd D hml hZ hown X0 e0 N0 => ?_
  have hx := D.1
  have K0 : Keep h0 h0 [] := Keep.refl h0 _
  refine own_r X0 D 1 rfl ?_
  refine own_gF X0 D hZ hown (own_u hw 50 rfl) Via.refl e0 i_Tn rfl fun T1 X1 e1 => ?_
  refine own_r X1 D 3 rfl ?_
  refine own_cY X1 D rfl (flt hp_k).2.2.2 ?_
  exact own_rV X1 D Bd rfl e1 ⟨N0, rfl, K0⟩ (by decide)
theorem own_mx {j : Int32} (h0 : ¬ j < 0) (h : j.toNatClampNeg ≤ 3) : own_F41 (64 : Int32) ((0 : Int32) + j) = 64 := by
  rcases own_three h0 h with rfl | rfl | rfl | rfl <;> decide
abbrev own_infN_R : Room := { frames := 3, cells := 6, slots := 76, locals := 51 }
theorem own_pn40 : plainFor own_y10 = true := plainFor_of_name (by first | (simp [plainName, overriddenIn]; done) | decide +kernel)
def own_infN_q (Z : State) (t1 : Addr) (j1 : Int32) (cs : Int32) (fm : Value) (a3 : Addr) (u4 : Value) (u5 : Value) (la : Addr) (kl : ClassId) (LL : List Int32) (h0 : Heap) (v : Option Value) (h : Heap) : Prop := ∃ (ca : Addr) (kc : ClassId), v = none ∧ Keep h0 h [t1] ∧ h0.size ≤ ca ∧ Exa Z h t1 own_cT ∧ own_eF11 Z h t1 (.ref la) ∧ own_eF12 Z h t1 u4 ∧ own_eF13 Z h t1 (.int 0) ∧ own_eF14 Z h t1 (.ref ca) ∧ own_eF15 Z h t1 .null ∧ own_eF16 Z h t1 u5 ∧ own_aC Z h ca kc (64 : Int32) (List.replicate 64 (0 : Int32))
theorem own_infN (hw : own_hw a0 Z) (Z0 : n0 ≤ h0.size) (i_SC : own_eS1 Z h0 (.int cs)) (i_SF : own_eS0 Z h0 fm) (i_SX : own_eS8 Z h0 (.ref a3)) (i_E3 : Exa Z h0 a3 "sun/nio/cs/ISO_8859_1") (i_Et : Exa Z h0 t1 own_cT) (i_Tl : own_eF11 Z h0 t1 (.ref la)) (i_Ts : own_eF12 Z h0 t1 u4) (i_Tn : own_eF13 Z h0 t1 (.int 0)) (i_Tc : own_eF14 Z h0 t1 .null) (i_Tp : own_eF15 Z h0 t1 .null) (i_Ta : own_eF16 Z h0 t1 u5) (i_Al : own_aB Z h0 la kl (64 : Int32) LL) (g_t1 : n0 ≤ t1) (ne_t1_la : t1 ≠ la) (hp_cs : ¬ (cs = (0 : Int32))) (hp_fm : fm.isRef = true) (hp_e0 : ¬ (j1 < (0 : Int32))) (hp_e3 : j1.toNatClampNeg ≤ 3) :
    own_CH l Z own_EL own_y10 prog_37_method_20_code 3 none ws own_infN_R #[(.ref t1), (.int j1)] h0 (own_W n0 (own_infN_q Z t1 j1 cs fm a3 u4 u5 la kl LL h0)) := by
  refine own_goH own_pn40 own_o40 #[.val (.ref t1), .val (.int j1), .unset] (fun _ => rfl) fun p e s m below meth c s₁ Bd D hml hZ hown X0 e0 N0 hh CR0 S0 W0 Pw hPw => ?_
  have hx := D.1
  have K0 : Keep h0 h0 [t1] := Keep.refl h0 _
  have hEL := own_hEL hw
  refine own_r X0 D 1 rfl ?_
  refine own_gF X0 D hZ hown (own_u hw 41 rfl) Via.refl e0 i_Tl rfl fun T1 X1 e1 => ?_
  refine own_via (own_len X1 hx hZ e1 i_Al (own_dd D rfl)) ?_
  refine own_r X1 D 1 rfl ?_
  refine own_gF X1 D hZ hown (own_u hw 50 rfl) Via.refl e1 i_Tn rfl fun T2 X2 e2 => ?_
  refine own_r X2 D 2 rfl ?_
  refine own_xP X2 D hZ hown hml (own_u hw 184 rfl) (own_K36 hw) (own_rm41 (p0 := (64 : Int32)) (p1 := ((0 : Int32) + j1)) hw) 0 (by decide) e2 rfl rfl fun T3 X3 e3 => ?_
  show own_H T3 14 #[.val (.ref t1), .val (.int j1), .unset] [(.int (own_F41 (64 : Int32) ((0 : Int32) + j1)))]
  rw [show (own_F41 (64 : Int32) ((0 : Int32) + j1)) = (64 : Int32) from (own_mx hp_e0 hp_e3)]
  refine own_r X3 D 3 rfl ?_
  refine own_gF X3 D hZ hown (own_u hw 188 rfl) Via.refl e3 i_Tp rfl fun T4 X4 e4 => ?_
  refine own_nY X4 D rfl ?_
  refine own_r X4 D 1 rfl ?_
  refine own_newAk X4 hx hZ (own_u hw 7 rfl) e4 (own_dd D rfl) (by decide) (cap := 64) (by decide) (by decide) (by decide) (by decide) 64 rfl fun T5 h5 k5 b5 X5 e5 E5 ga5 V5 Ex5 => ?_
  have sz_b5 := own_ge K0.1 ga5
  have ne7 := own_ne1 i_Et.lt ga5
  have CR21 := CHr.trans CR0 (CHr.ext E5 CR0.1)
  have f9 := i_SC.ext E5
  have f10 := i_SF.ext E5
  have f11 := i_SX.ext E5
  have f12 := i_E3.ext E5
  have f13 := i_Et.ext E5
  have f14 := i_Tl.ext E5
  have f15 := i_Ts.ext E5
  have f16 := i_Tn.ext E5
  have f17 := i_Tc.ext E5
  have f18 := i_Tp.ext E5
  have f19 := i_Ta.ext E5
  have f20 := i_Al.ext E5
  have Kp22 := K0.ext E5
  have f23 : Arv Z h5 b5 k5 .char (64 : Int32) ((List.replicate 64 (0 : Int32)).map Value.int) (.int 0) := by rw [List.map_replicate]; exact V5
  have Wk24 := Nat.le_trans W0 E5.1
  have Zs25 := Nat.le_trans Z0 E5.1
  refine own_putFk X5 N0 hx hZ hown (own_u hw 72 rfl) e5 f17 f13 (Or.inl (own_u hw 73 rfl)) (own_u hw 35 rfl) g_t1 (ty := (.array .char)) (by decide) rfl rfl (own_dd D rfl) fun T26 h26 L26 X26 N26 e26 W26 F26 => ?_
  have CR39 := CHr.trans CR21 (CHr.wr W26 (Safe.exa hZ.alike f13 (by decide) (by decide)) CR21.1)
  have f27 := f9.wr W26
  have f28 := f10.wr W26
  have f29 := f11.wr W26
  have f30 := f12.wr W26
  have f31 := f13.wr W26
  have f32 := f14.other W26 (Or.inr (slot_ne (Or.inl (own_u hw 42 rfl)) (Or.inl (own_u hw 73 rfl)) (by decide) rfl rfl))
  have f33 := f15.other W26 (Or.inr (slot_ne (Or.inl (own_u hw 49 rfl)) (Or.inl (own_u hw 73 rfl)) (by decide) rfl rfl))
  have f34 := f16.other W26 (Or.inr (slot_ne (Or.inl (own_u hw 51 rfl)) (Or.inl (own_u hw 73 rfl)) (by decide) rfl rfl))
  have f35 := f18.other W26 (Or.inr (slot_ne (Or.inl (own_u hw 189 rfl)) (Or.inl (own_u hw 73 rfl)) (by decide) rfl rfl))
  have f36 := f19.other W26 (Or.inr (slot_ne (Or.inl (own_u hw 246 rfl)) (Or.inl (own_u hw 73 rfl)) (by decide) rfl rfl))
  have f37 := f20.other W26 (Ne.symm ne_t1_la)
  have f38 := f23.other W26 (Ne.symm ne7)
  have Kp40 := Kp22.wr W26 (Or.inl own_m0)
  have Wk41 : 0 ≤ h26.size := by rw [W26.size]; exact Wk24
  have Zs42 : n0 ≤ h26.size := by rw [W26.size]; exact Zs25
  refine own_newOk X26 hx hZ hown (own_u hw 190 rfl) (own_u hw 5 rfl) (own_u hw 6 rfl) e26 (own_dd D rfl) (by decide) (by decide) fun T43 h43 b43 X43 e43 E43 ga43 A43 D43 => ?_
  have sz_b43 := own_ge Kp40.1 ga43
  have ne45 := own_ne1 f31.lt ga43
  have ne46 := own_ne1 f37.lt ga43
  have ne47 := own_ne1 f38.lt ga43
  have CR61 := CHr.trans CR39 (CHr.ext E43 CR39.1)
  have f48 := f27.ext E43
  have f49 := f28.ext E43
  have f50 := f29.ext E43
  have f51 := f30.ext E43
  have f52 := f31.ext E43
  have f53 := f32.ext E43
  have f54 := f33.ext E43
  have f55 := f34.ext E43
  have f56 := f35.ext E43
  have f57 := f36.ext E43
  have f58 := f37.ext E43
  have f59 := f38.ext E43
  have f60 := F26.ext E43
  have Kp62 := Kp40.ext E43
  have f63 : own_eF9 Z h43 b43 (.int 0) := D43 (Or.inr (own_u hw 31 rfl)) (ty := .byte) (by decide)
  have f64 : own_eF10 Z h43 b43 .null := D43 (Or.inr (own_u hw 33 rfl)) (ty := (.array .byte)) (by decide)
  have g_b43 := own_ge Zs42 ga43
  have Wk65 := Nat.le_trans Wk41 E43.1
  have Zs66 := Nat.le_trans Zs42 E43.1
  refine own_r X43 D 2 rfl ?_
  refine own_gF X43 D hZ hown (own_u hw 41 rfl) Via.refl e43 f53 rfl fun T67 X67 e67 => ?_
  refine own_r X67 D 2 rfl ?_
  refine own_gF X67 D hZ hown (own_u hw 50 rfl) Via.refl e67 f55 rfl fun T68 X68 e68 => ?_
  refine own_gS X68 D hZ hown (own_u hw 191 rfl) e68 f50 rfl fun T69 X69 e69 => ?_
  refine own_xIH S0 Wk65 CR61 hEL X69 N26 D hZ hown hml (own_u hw 193 rfl) (own_K42 hw) (own_xb0 hw Zs66 f49 f51 A43 f64 f63 f58 g_b43 (Ne.symm ne46) hp_fm) 1 (by decide) e69 rfl rfl ?_
  rintro v70 T70 h70 L70 s kw70 X70 N70 e70 ⟨x70, kx70, rfl, K70, o70_0, o70_1, o70_2, o70_3⟩ S70 Wk70 CR70 hZ hown
  have f71 := own_staK f48 K70 (own_al1 A43.nostat)
  have f72 := own_staK f49 K70 (own_al1 A43.nostat)
  have f75 := f52.keep K70
  have f76 := f53.keep K70 (own_nm1 ne45)
  have f77 := f54.keep K70 (own_nm1 ne45)
  have f78 := f55.keep K70 (own_nm1 ne45)
  have f79 := f56.keep K70 (own_nm1 ne45)
  have f80 := f57.keep K70 (own_nm1 ne45)
  have f82 := f59.keep K70 (own_nm1 ne47)
  have f83 := f60.keep K70 (own_nm1 ne45)
  have Kp85 := Kp62.trans K70 (own_al1 (Or.inr sz_b43))
  have Zs86 := Nat.le_trans Zs66 K70.1
  refine own_r X70 D 2 rfl ?_
  refine own_gF X70 D hZ hown (own_u hw 50 rfl) Via.refl e70 f78 rfl fun T87 X87 e87 => ?_
  refine own_r X87 D 1 rfl ?_
  refine own_gF X87 D hZ hown (own_u hw 72 rfl) Via.refl e87 f83 rfl fun T88 X88 e88 => ?_
  refine own_r X88 D 1 rfl ?_
  refine own_xV X88 N70 D hZ hown hml (own_u hw 204 rfl) (own_K50 hw) (own_gs0 (CM := (List.replicate 64 (0 : Int32))) hw Zs86 f71 f72 o70_0 o70_1 o70_2 o70_3 f82 hp_cs hp_fm) 0 (by decide) e88 o70_0 rfl rfl ?_
  rintro v89 T89 h89 L89 X89 N89 e89 ⟨rfl, K89⟩
  have CR107 := CHr.trans CR70 (CHr.keep K89 (fun x hx => nomatch hx) CR70.1)
  have f94 := f75.ext (own_ke K89)
  have f95 := f76.ext (own_ke K89)
  have f96 := f77.ext (own_ke K89)
  have f97 := f78.ext (own_ke K89)
  have f98 := f79.ext (own_ke K89)
  have f99 := f80.ext (own_ke K89)
  have f101 := f82.ext (own_ke K89)
  have f102 := f83.ext (own_ke K89)
  have Kp108 := Kp85.trans K89 (fun x hx => nomatch hx)
  have Wk109 := Nat.le_trans Wk70 K89.1
  rw [hPw]
  refine own_held S70 hh hZ hEL ?_
  exact own_rV X89 D Bd rfl e89 ⟨⟨N89, b5, k5, rfl, Kp108, sz_b5, f94, f95, f96, f97, f102, f98, f99, f101⟩, Wk109, CR107⟩ (by decide)
abbrev own_widN_R : Room := { frames := 4, cells := 6, slots := 76, locals := 65 }
theorem own_pn38 : plainFor own_y15 = true := plainFor_of_name (by first | (simp [plainName, overriddenIn]; done) | decide +kernel)
def own_widN_q (Z : State) (t1 : Addr) (j1 : Int32) (cs : Int32) (fm : Value) (a3 : Addr) (u4 : Value) (u5 : Value) (la : Addr) (kl : ClassId) (LL : List Int32) (h0 : Heap) (v : Option Value) (h : Heap) : Prop := ∃ (ca : Addr) (kc : ClassId), v = none ∧ Keep h0 h [t1] ∧ h0.size ≤ ca ∧ Exa Z h t1 own_cT ∧ own_eF11 Z h t1 (.ref la) ∧ own_eF12 Z h t1 u4 ∧ own_eF13 Z h t1 (.int 0) ∧ own_eF14 Z h t1 (.ref ca) ∧ own_eF15 Z h t1 .null ∧ own_eF16 Z h t1 u5 ∧ own_aC Z h ca kc (64 : Int32) (List.replicate 64 (0 : Int32))
theorem own_widN (hw : own_hw a0 Z) (Z0 : n0 ≤ h0.size) (i_SC : own_eS1 Z h0 (.int cs)) (i_SF : own_eS0 Z h0 fm) (i_SX : own_eS8 Z h0 (.ref a3)) (i_E3 : Exa Z h0 a3 "sun/nio/cs/ISO_8859_1") (i_Et : Exa Z h0 t1 own_cT) (i_Tl : own_eF11 Z h0 t1 (.ref la)) (i_Ts : own_eF12 Z h0 t1 u4) (i_Tn : own_eF13 Z h0 t1 (.int 0)) (i_Tc : own_eF14 Z h0 t1 .null) (i_Tp : own_eF15 Z h0 t1 .null) (i_Ta : own_eF16 Z h0 t1 u5) (i_Al : own_aB Z h0 la kl (64 : Int32) LL) (g_t1 : n0 ≤ t1) (ne_t1_la : t1 ≠ la) (hp_cs : ¬ (cs = (0 : Int32))) (hp_fm : fm.isRef = true) (hp_e0 : ¬ (j1 < (0 : Int32))) (hp_e3 : j1.toNatClampNeg ≤ 3) (hp_k : ¬ ((16384 : Int32) < ((0 : Int32) + j1))) :
    own_CH l Z own_EL own_y15 prog_37_method_19_code 2 none ws own_widN_R #[(.ref t1), (.int j1)] h0 (own_W n0 (own_widN_q Z t1 j1 cs fm a3 u4 u5 la kl LL h0)) := by
  refine own_goH own_pn38 own_o38 #[.val (.ref t1), .val (.int j1)] (fun _ => rfl) fun p e s m below meth c s₁ Bd D hml hZ hown X0 e0 N0 hh CR0 S0 W0 Pw hPw => ?_
  have hx := D.1
  have K0 : Keep h0 h0 [t1] := Keep.refl h0 _
  have hEL := own_hEL hw
  refine own_r X0 D 1 rfl ?_
  refine own_gF X0 D hZ hown (own_u hw 72 rfl) Via.refl e0 i_Tc rfl fun T1 X1 e1 => ?_
  refine own_nY X1 D rfl ?_
  refine own_r X1 D 2 rfl ?_
  refine own_xR X1 N0 D hZ hown hml (own_u hw 176 rfl) (own_K51 hw) (own_kwc (m1 := (0 : Int32)) hw Z0 i_Tn hp_k) 0 (by decide) e1 i_Et rfl rfl ?_
  rintro v2 T2 h2 L2 X2 N2 e2 ⟨rfl, K2⟩
  have CR15 := CHr.trans CR0 (CHr.keep K2 (fun x hx => nomatch hx) CR0.1)
  have f3 := i_SC.ext (own_ke K2)
  have f4 := i_SF.ext (own_ke K2)
  have f5 := i_SX.ext (own_ke K2)
  have f6 := i_E3.ext (own_ke K2)
  have f7 := i_Et.ext (own_ke K2)
  have f8 := i_Tl.ext (own_ke K2)
  have f9 := i_Ts.ext (own_ke K2)
  have f10 := i_Tn.ext (own_ke K2)
  have f11 := i_Tc.ext (own_ke K2)
  have f12 := i_Tp.ext (own_ke K2)
  have f13 := i_Ta.ext (own_ke K2)
  have f14 := i_Al.ext (own_ke K2)
  have Kp16 := K0.trans K2 (fun x hx => nomatch hx)
  have Wk17 := Nat.le_trans W0 K2.1
  have Zs18 := Nat.le_trans Z0 K2.1
  refine own_r X2 D 1 rfl ?_
  refine own_gF X2 D hZ hown (own_u hw 72 rfl) Via.refl e2 f11 rfl fun T19 X19 e19 => ?_
  refine own_oN X19 D rfl ?_
  refine own_r X19 D 2 rfl ?_
  refine own_xRH S0 Wk17 CR15 hEL X19 N2 D hZ hown hml (own_u hw 180 rfl) (own_K52 hw) (own_infN hw Zs18 f3 f4 f5 f6 f7 f8 f9 f10 f11 f12 f13 f14 g_t1 ne_t1_la hp_cs hp_fm hp_e0 hp_e3) 0 (by decide) e19 f7 rfl rfl ?_
  rintro v20 T20 h20 L20 s kw20 X20 N20 e20 ⟨ca20, kc20, rfl, K20, zf_ca20, o20_0, o20_1, o20_2, o20_3, o20_4, o20_5, o20_6, o20_7⟩ S20 Wk20 CR20 hZ hown
  have sz_ca20 := Nat.le_trans Kp16.1 zf_ca20
  have Kp30 := Kp16.trans K20 (own_al1 (Or.inl own_m0))
  refine own_r X20 D 1 rfl ?_
  rw [hPw]
  refine own_held S20 hh hZ hEL ?_
  exact own_rV X20 D Bd rfl e20 ⟨⟨N20, ca20, kc20, rfl, Kp30, sz_ca20, o20_0, o20_1, o20_2, o20_3, o20_4, o20_5, o20_6, o20_7⟩, Wk20, CR20⟩ (by decide)
abbrev own_infS_R : Room := { frames := 3, cells := 5, slots := 12, locals := 51 }
def own_infS_q (Z : State) (t1 : Addr) (j1 : Int32) (cs : Int32) (fm : Value) (a3 : Addr) (u4 : Value) (u5 : Value) (la : Addr) (kl : ClassId) (LL : List Int32) (ca : Addr) (kc : ClassId) (CM : List Int32) (h0 : Heap) (v : Option Value) (h : Heap) : Prop := v = none ∧ Keep h0 h [t1] ∧ Exa Z h t1 own_cT ∧ own_eF11 Z h t1 (.ref la) ∧ own_eF12 Z h t1 u4 ∧ own_eF13 Z h t1 (.int 0) ∧ own_eF14 Z h t1 (.ref ca) ∧ own_eF15 Z h t1 (.ref ca) ∧ own_eF16 Z h t1 u5 ∧ own_aC Z h ca kc (64 : Int32) CM
theorem own_infS (hw : own_hw a0 Z) (Z0 : n0 ≤ h0.size) (i_SC : own_eS1 Z h0 (.int cs)) (i_SF : own_eS0 Z h0 fm) (i_SX : own_eS8 Z h0 (.ref a3)) (i_E3 : Exa Z h0 a3 "sun/nio/cs/ISO_8859_1") (i_Et : Exa Z h0 t1 own_cT) (i_Tl : own_eF11 Z h0 t1 (.ref la)) (i_Ts : own_eF12 Z h0 t1 u4) (i_Tn : own_eF13 Z h0 t1 (.int 0)) (i_Tc : own_eF14 Z h0 t1 .null) (i_Tp : own_eF15 Z h0 t1 (.ref ca)) (i_Ta : own_eF16 Z h0 t1 u5) (i_Al : own_aB Z h0 la kl (64 : Int32) LL) (i_Ach : own_aC Z h0 ca kc (64 : Int32) CM) (g_t1 : n0 ≤ t1) (ne_t1_la : t1 ≠ la) (ne_t1_ca : t1 ≠ ca) (hp_cs : ¬ (cs = (0 : Int32))) (hp_fm : fm.isRef = true) (hp_e0 : ¬ (j1 < (0 : Int32))) (hp_e3 : j1.toNatClampNeg ≤ 3) :
    own_CH l Z own_EL own_y10 prog_37_method_20_code 3 none ws own_infS_R #[(.ref t1), (.int j1)] h0 (own_W n0 (own_infS_q Z t1 j1 cs fm a3 u4 u5 la kl LL ca kc CM h0)) := by
  refine own_goH own_pn40 own_o40 #[.val (.ref t1), .val (.int j1), .unset] (fun _ => rfl) fun p e s m below meth c s₁ Bd D hml hZ hown X0 e0 N0 hh CR0 S0 W0 Pw hPw => ?_
  have hx := D.1
  have K0 : Keep h0 h0 [t1] := Keep.refl h0 _
  have hEL := own_hEL hw
  refine own_r X0 D 1 rfl ?_
  refine own_gF X0 D hZ hown (own_u hw 41 rfl) Via.refl e0 i_Tl rfl fun T1 X1 e1 => ?_
  refine own_via (own_len X1 hx hZ e1 i_Al (own_dd D rfl)) ?_
  refine own_r X1 D 1 rfl ?_
  refine own_gF X1 D hZ hown (own_u hw 50 rfl) Via.refl e1 i_Tn rfl fun T2 X2 e2 => ?_
  refine own_r X2 D 2 rfl ?_
  refine own_xP X2 D hZ hown hml (own_u hw 184 rfl) (own_K36 hw) (own_rm41 (p0 := (64 : Int32)) (p1 := ((0 : Int32) + j1)) hw) 0 (by decide) e2 rfl rfl fun T3 X3 e3 => ?_
  show own_H T3 14 #[.val (.ref t1), .val (.int j1), .unset] [(.int (own_F41 (64 : Int32) ((0 : Int32) + j1)))]
  rw [show (own_F41 (64 : Int32) ((0 : Int32) + j1)) = (64 : Int32) from (own_mx hp_e0 hp_e3)]
  refine own_r X3 D 3 rfl ?_
  refine own_gF X3 D hZ hown (own_u hw 188 rfl) Via.refl e3 i_Tp rfl fun T4 X4 e4 => ?_
  refine own_nN X4 D rfl ?_
  refine own_r X4 D 1 rfl ?_
  refine own_gF X4 D hZ hown (own_u hw 188 rfl) Via.refl e4 i_Tp rfl fun T5 X5 e5 => ?_
  refine own_via (own_len X5 hx hZ e5 i_Ach (own_dd D rfl)) ?_
  refine own_r X5 D 1 rfl ?_
  refine own_cN X5 D rfl (flt (by decide : ¬ ((64 : Int32) < (64 : Int32)))).1 ?_
  refine own_r X5 D 1 rfl ?_
  refine own_gF X5 D hZ hown (own_u hw 188 rfl) Via.refl e5 i_Tp rfl fun T6 X6 e6 => ?_
  refine own_r X6 D 1 rfl ?_
  refine own_putFk X6 N0 hx hZ hown (own_u hw 72 rfl) e6 i_Tc i_Et (Or.inl (own_u hw 73 rfl)) (own_u hw 35 rfl) g_t1 (ty := (.array .char)) (by decide) rfl rfl (own_dd D rfl) fun T7 h7 L7 X7 N7 e7 W7 F7 => ?_
  have CR20 := CHr.trans CR0 (CHr.wr W7 (Safe.exa hZ.alike i_Et (by decide) (by decide)) CR0.1)
  have f8 := i_SC.wr W7
  have f9 := i_SF.wr W7
  have f10 := i_SX.wr W7
  have f11 := i_E3.wr W7
  have f12 := i_Et.wr W7
  have f13 := i_Tl.other W7 (Or.inr (slot_ne (Or.inl (own_u hw 42 rfl)) (Or.inl (own_u hw 73 rfl)) (by decide) rfl rfl))
  have f14 := i_Ts.other W7 (Or.inr (slot_ne (Or.inl (own_u hw 49 rfl)) (Or.inl (own_u hw 73 rfl)) (by decide) rfl rfl))
  have f15 := i_Tn.other W7 (Or.inr (slot_ne (Or.inl (own_u hw 51 rfl)) (Or.inl (own_u hw 73 rfl)) (by decide) rfl rfl))
  have f16 := i_Tp.other W7 (Or.inr (slot_ne (Or.inl (own_u hw 189 rfl)) (Or.inl (own_u hw 73 rfl)) (by decide) rfl rfl))
  have f17 := i_Ta.other W7 (Or.inr (slot_ne (Or.inl (own_u hw 246 rfl)) (Or.inl (own_u hw 73 rfl)) (by decide) rfl rfl))
  have f18 := i_Al.other W7 (Ne.symm ne_t1_la)
  have f19 := i_Ach.other W7 (Ne.symm ne_t1_ca)
  have Kp21 := K0.wr W7 (Or.inl own_m0)
  have Wk22 : 0 ≤ h7.size := by rw [W7.size]; exact W0
  have Zs23 : n0 ≤ h7.size := by rw [W7.size]; exact Z0
  refine own_newOk X7 hx hZ hown (own_u hw 190 rfl) (own_u hw 5 rfl) (own_u hw 6 rfl) e7 (own_dd D rfl) (by decide) (by decide) fun T24 h24 b24 X24 e24 E24 ga24 A24 D24 => ?_
  have sz_b24 := own_ge Kp21.1 ga24
  have ne26 := own_ne1 f12.lt ga24
  have ne27 := own_ne1 f18.lt ga24
  have ne28 := own_ne1 f19.lt ga24
  have CR42 := CHr.trans CR20 (CHr.ext E24 CR20.1)
  have f29 := f8.ext E24
  have f30 := f9.ext E24
  have f31 := f10.ext E24
  have f32 := f11.ext E24
  have f33 := f12.ext E24
  have f34 := f13.ext E24
  have f35 := f14.ext E24
  have f36 := f15.ext E24
  have f37 := f16.ext E24
  have f38 := f17.ext E24
  have f39 := f18.ext E24
  have f40 := f19.ext E24
  have f41 := F7.ext E24
  have Kp43 := Kp21.ext E24
  have f44 : own_eF9 Z h24 b24 (.int 0) := D24 (Or.inr (own_u hw 31 rfl)) (ty := .byte) (by decide)
  have f45 : own_eF10 Z h24 b24 .null := D24 (Or.inr (own_u hw 33 rfl)) (ty := (.array .byte)) (by decide)
  have g_b24 := own_ge Zs23 ga24
  have Wk46 := Nat.le_trans Wk22 E24.1
  have Zs47 := Nat.le_trans Zs23 E24.1
  refine own_r X24 D 2 rfl ?_
  refine own_gF X24 D hZ hown (own_u hw 41 rfl) Via.refl e24 f34 rfl fun T48 X48 e48 => ?_
  refine own_r X48 D 2 rfl ?_
  refine own_gF X48 D hZ hown (own_u hw 50 rfl) Via.refl e48 f36 rfl fun T49 X49 e49 => ?_
  refine own_gS X49 D hZ hown (own_u hw 191 rfl) e49 f31 rfl fun T50 X50 e50 => ?_
  refine own_xIH S0 Wk46 CR42 hEL X50 N7 D hZ hown hml (own_u hw 193 rfl) (own_K42 hw) (own_xb0 hw Zs47 f30 f32 A24 f45 f44 f39 g_b24 (Ne.symm ne27) hp_fm) 1 (by decide) e50 rfl rfl ?_
  rintro v51 T51 h51 L51 s kw51 X51 N51 e51 ⟨x51, kx51, rfl, K51, o51_0, o51_1, o51_2, o51_3⟩ S51 Wk51 CR51 hZ hown
  have f52 := own_staK f29 K51 (own_al1 A24.nostat)
  have f53 := own_staK f30 K51 (own_al1 A24.nostat)
  have f56 := f33.keep K51
  have f57 := f34.keep K51 (own_nm1 ne26)
  have f58 := f35.keep K51 (own_nm1 ne26)
  have f59 := f36.keep K51 (own_nm1 ne26)
  have f60 := f37.keep K51 (own_nm1 ne26)
  have f61 := f38.keep K51 (own_nm1 ne26)
  have f63 := f40.keep K51 (own_nm1 ne28)
  have f64 := f41.keep K51 (own_nm1 ne26)
  have Kp66 := Kp43.trans K51 (own_al1 (Or.inr sz_b24))
  have Zs67 := Nat.le_trans Zs47 K51.1
  refine own_r X51 D 2 rfl ?_
  refine own_gF X51 D hZ hown (own_u hw 50 rfl) Via.refl e51 f59 rfl fun T68 X68 e68 => ?_
  refine own_r X68 D 1 rfl ?_
  refine own_gF X68 D hZ hown (own_u hw 72 rfl) Via.refl e68 f64 rfl fun T69 X69 e69 => ?_
  refine own_r X69 D 1 rfl ?_
  refine own_xV X69 N51 D hZ hown hml (own_u hw 204 rfl) (own_K50 hw) (own_gs0 hw Zs67 f52 f53 o51_0 o51_1 o51_2 o51_3 f63 hp_cs hp_fm) 0 (by decide) e69 o51_0 rfl rfl ?_
  rintro v70 T70 h70 L70 X70 N70 e70 ⟨rfl, K70⟩
  have CR88 := CHr.trans CR51 (CHr.keep K70 (fun x hx => nomatch hx) CR51.1)
  have f75 := f56.ext (own_ke K70)
  have f76 := f57.ext (own_ke K70)
  have f77 := f58.ext (own_ke K70)
  have f78 := f59.ext (own_ke K70)
  have f79 := f60.ext (own_ke K70)
  have f80 := f61.ext (own_ke K70)
  have f82 := f63.ext (own_ke K70)
  have f83 := f64.ext (own_ke K70)
  have Kp89 := Kp66.trans K70 (fun x hx => nomatch hx)
  have Wk90 := Nat.le_trans Wk51 K70.1
  rw [hPw]
  refine own_held S51 hh hZ hEL ?_
  exact own_rV X70 D Bd rfl e70 ⟨⟨N70, rfl, Kp89, f75, f76, f77, f78, f83, f79, f80, f82⟩, Wk90, CR88⟩ (by decide)
abbrev own_widS_R : Room := { frames := 4, cells := 5, slots := 12, locals := 65 }
def own_widS_q (Z : State) (t1 : Addr) (j1 : Int32) (cs : Int32) (fm : Value) (a3 : Addr) (u4 : Value) (u5 : Value) (la : Addr) (kl : ClassId) (LL : List Int32) (ca : Addr) (kc : ClassId) (CM : List Int32) (h0 : Heap) (v : Option Value) (h : Heap) : Prop := v = none ∧ Keep h0 h [t1] ∧ Exa Z h t1 own_cT ∧ own_eF11 Z h t1 (.ref la) ∧ own_eF12 Z h t1 u4 ∧ own_eF13 Z h t1 (.int 0) ∧ own_eF14 Z h t1 (.ref ca) ∧ own_eF15 Z h t1 (.ref ca) ∧ own_eF16 Z h t1 u5 ∧ own_aC Z h ca kc (64 : Int32) CM
theorem own_widS (hw : own_hw a0 Z) (Z0 : n0 ≤ h0.size) (i_SC : own_eS1 Z h0 (.int cs)) (i_SF : own_eS0 Z h0 fm) (i_SX : own_eS8 Z h0 (.ref a3)) (i_E3 : Exa Z h0 a3 "sun/nio/cs/ISO_8859_1") (i_Et : Exa Z h0 t1 own_cT) (i_Tl : own_eF11 Z h0 t1 (.ref la)) (i_Ts : own_eF12 Z h0 t1 u4) (i_Tn : own_eF13 Z h0 t1 (.int 0)) (i_Tc : own_eF14 Z h0 t1 .null) (i_Tp : own_eF15 Z h0 t1 (.ref ca)) (i_Ta : own_eF16 Z h0 t1 u5) (i_Al : own_aB Z h0 la kl (64 : Int32) LL) (i_Ach : own_aC Z h0 ca kc (64 : Int32) CM) (g_t1 : n0 ≤ t1) (ne_t1_la : t1 ≠ la) (ne_t1_ca : t1 ≠ ca) (hp_cs : ¬ (cs = (0 : Int32))) (hp_fm : fm.isRef = true) (hp_e0 : ¬ (j1 < (0 : Int32))) (hp_e3 : j1.toNatClampNeg ≤ 3) (hp_k : ¬ ((16384 : Int32) < ((0 : Int32) + j1))) :
    own_CH l Z own_EL own_y15 prog_37_method_19_code 2 none ws own_widS_R #[(.ref t1), (.int j1)] h0 (own_W n0 (own_widS_q Z t1 j1 cs fm a3 u4 u5 la kl LL ca kc CM h0)) := by
  refine own_goH own_pn38 own_o38 #[.val (.ref t1), .val (.int j1)] (fun _ => rfl) fun p e s m below meth c s₁ Bd D hml hZ hown X0 e0 N0 hh CR0 S0 W0 Pw hPw => ?_
  have hx := D.1
  have K0 : Keep h0 h0 [t1] := Keep.refl h0 _
  have hEL := own_hEL hw
  refine own_r X0 D 1 rfl ?_
  refine own_gF X0 D hZ hown (own_u hw 72 rfl) Via.refl e0 i_Tc rfl fun T1 X1 e1 => ?_
  refine own_nY X1 D rfl ?_
  refine own_r X1 D 2 rfl ?_
  refine own_xR X1 N0 D hZ hown hml (own_u hw 176 rfl) (own_K51 hw) (own_kwc (m1 := (0 : Int32)) hw Z0 i_Tn hp_k) 0 (by decide) e1 i_Et rfl rfl ?_
  rintro v2 T2 h2 L2 X2 N2 e2 ⟨rfl, K2⟩
  have CR16 := CHr.trans CR0 (CHr.keep K2 (fun x hx => nomatch hx) CR0.1)
  have f3 := i_SC.ext (own_ke K2)
  have f4 := i_SF.ext (own_ke K2)
  have f5 := i_SX.ext (own_ke K2)
  have f6 := i_E3.ext (own_ke K2)
  have f7 := i_Et.ext (own_ke K2)
  have f8 := i_Tl.ext (own_ke K2)
  have f9 := i_Ts.ext (own_ke K2)
  have f10 := i_Tn.ext (own_ke K2)
  have f11 := i_Tc.ext (own_ke K2)
  have f12 := i_Tp.ext (own_ke K2)
  have f13 := i_Ta.ext (own_ke K2)
  have f14 := i_Al.ext (own_ke K2)
  have f15 := i_Ach.ext (own_ke K2)
  have Kp17 := K0.trans K2 (fun x hx => nomatch hx)
  have Wk18 := Nat.le_trans W0 K2.1
  have Zs19 := Nat.le_trans Z0 K2.1
  refine own_r X2 D 1 rfl ?_
  refine own_gF X2 D hZ hown (own_u hw 72 rfl) Via.refl e2 f11 rfl fun T20 X20 e20 => ?_
  refine own_oN X20 D rfl ?_
  refine own_r X20 D 2 rfl ?_
  refine own_xRH S0 Wk18 CR16 hEL X20 N2 D hZ hown hml (own_u hw 180 rfl) (own_K52 hw) (own_infS hw Zs19 f3 f4 f5 f6 f7 f8 f9 f10 f11 f12 f13 f14 f15 g_t1 ne_t1_la ne_t1_ca hp_cs hp_fm hp_e0 hp_e3) 0 (by decide) e20 f7 rfl rfl ?_
  rintro v21 T21 h21 L21 s kw21 X21 N21 e21 ⟨rfl, K21, o21_0, o21_1, o21_2, o21_3, o21_4, o21_5, o21_6, o21_7⟩ S21 Wk21 CR21 hZ hown
  have Kp29 := Kp17.trans K21 (own_al1 (Or.inl own_m0))
  refine own_r X21 D 1 rfl ?_
  rw [hPw]
  refine own_held S21 hh hZ hEL ?_
  exact own_rV X21 D Bd rfl e21 ⟨⟨N21, rfl, Kp29, o21_0, o21_1, o21_2, o21_3, o21_4, o21_5, o21_6, o21_7⟩, Wk21, CR21⟩ (by decide)
abbrev own_uco_R : Room := { frames := 2, cells := 0, slots := 0, locals := 29 }
theorem own_pn47 : plainFor own_y40 = true := plainFor_of_name (by first | (simp [plainName, overriddenIn]; done) | decide +kernel)
theorem own_uco (hw : own_hw a0 Z) (i_SF : own_eS0 Z h0 fm) (i_Ab : own_aB Z h0 a1 k_1 n1 L_1) (hp_fm : fm.isRef = true) (hp_h0 : ¬ ((((n1 >>> ((1 : Int32) &&& 31)) ||| i1) ||| j1) < (0 : Int32))) (hp_h1 : ¬ (((n1 >>> ((1 : Int32) &&& 31)) - i1) < j1)) :
    own_C l Z own_y40 jdk_52_method_94_code 3 none ws own_uco_R #[(.int i1), (.int j1), (.ref a1)] h0 (own_QN h0) := by
  refine own_go own_pn47 own_o47 #[.val (.int i1), .val (.int j1), .val (.ref a1)] (fun _ => rfl) fun p e s m below meth c s₁ Bd D hml hZ hown X0 e0 => ?_
  have hx := D.1
  refine own_r X0 D 3 rfl ?_
  refine own_xP X0 D hZ hown hml (own_u hw 164 rfl) (own_K7 hw) (own_ul hw i_Ab) 2 (by decide) e0 rfl rfl fun T1 X1 e1 => ?_
  refine own_xP X1 D hZ hown hml (own_u hw 221 rfl) (own_K25 hw) (own_coc (n1 := (n1 >>> ((1 : Int32) &&& 31))) hw i_SF hp_fm hp_h0 hp_h1) 0 (by decide) e1 rfl rfl fun T2 X2 e2 => ?_
  refine own_r X2 D 1 rfl ?_
  exact own_retV X2 hx Bd.returns Bd.notSynchronized (own_dd D rfl) ⟨rfl, rfl, e2⟩ (by decide) (by decide)
def own_gcl (L : List Int32) : Nat → Int32 → List Int32 → List Int32
  | 0, _, C => C
  | f + 1, i, C => own_gcl L f (i + 1) (own_set C i (nar .char (own_gc (own_get L (i <<< ((1 : Int32) &&& 31))) (own_get L ((i <<< ((1 : Int32) &&& 31)) + (1 : Int32))))))
def own_vr (z n i : Int32) : Prop := i < n ∧ (¬ i < (0 : Int32) ∧ i.toNatClampNeg < 64 ∧ i < (64 : Int32)) ∧ i < (z >>> ((1 : Int32) &&& 31)) ∧ (¬ ((i <<< ((1 : Int32) &&& 31)) < (0 : Int32)) ∧ (i <<< ((1 : Int32) &&& 31)) < z) ∧ ¬ (((i <<< ((1 : Int32) &&& 31)) + (1 : Int32)) < (0 : Int32)) ∧ ((i <<< ((1 : Int32) &&& 31)) + (1 : Int32)) < z
def own_vn (z n : Int32) : Nat → Int32 → Prop
  | 0, i => ¬ i < n
  | f + 1, i => own_vr z n i ∧ own_vn z n f (i + 1)
def own_vl (L : List Int32) (z n : Int32) : Nat → Int32 → Prop
  | 0, i => own_vr z n i ∧ (255 : Int32) < (nar .char (nar .char (own_gc (own_get L (i <<< ((1 : Int32) &&& 31))) (own_get L ((i <<< ((1 : Int32) &&& 31)) + (1 : Int32))))))
  | f + 1, i => own_vr z n i ∧ ¬ ((255 : Int32) < (nar .char (nar .char (own_gc (own_get L (i <<< ((1 : Int32) &&& 31))) (own_get L ((i <<< ((1 : Int32) &&& 31)) + (1 : Int32))))))) ∧ own_vl L z n f (i + 1)
abbrev own_ugc_R : Room := { frames := 3, cells := 0, slots := 0, locals := 43 }
theorem own_pn46 : plainFor own_y46 = true := plainFor_of_name (by first | (simp [plainName, overriddenIn]; done) | decide +kernel)
def own_ugc_q (Z : State) (b_1 : Addr) (n1 : Int32) (ca : Addr) (fm : Value) (k_1 : ClassId) (L_1 : List Int32) (kc : ClassId) (CM : List Int32) (h0 : Heap) (v : Option Value) (h : Heap) : Prop := v = none ∧ Keep h0 h [ca] ∧ own_aC Z h ca kc (64 : Int32) (own_gcl L_1 n1.toNatClampNeg (0 : Int32) CM)
theorem own_ugc (hw : own_hw a0 Z) (Z0 : n0 ≤ h0.size) (i_SF : own_eS0 Z h0 fm) (i_SA : own_eS2 Z h0 (.int 1)) (i_SH : own_eS3 Z h0 (.int 0)) (i_SL : own_eS4 Z h0 (.int 8)) (i_Ab : own_aB Z h0 b_1 k_1 (n1 <<< ((1 : Int32) &&& 31)) L_1) (i_Ach : own_aC Z h0 ca kc (64 : Int32) CM) (g_ca : n0 ≤ ca) (ne_b_1_ca : b_1 ≠ ca) (hp_fm : fm.isRef = true) (hp_hc : CM.length = 64) (hp_hp : (0 : Int32) < n1) (hp_hn : own_vn (n1 <<< ((1 : Int32) &&& 31)) n1 n1.toNatClampNeg (0 : Int32)) (hp_d0 : ¬ (n1 < (0 : Int32))) (hp_d3 : n1.toNatClampNeg ≤ 3) :
    own_C l Z own_y46 jdk_52_method_26_code 6 none ws own_ugc_R #[(.ref b_1), (.int 0), (.int n1), (.ref ca), (.int 0)] h0 (own_W n0 (own_ugc_q Z b_1 n1 ca fm k_1 L_1 kc CM h0)) := by
  refine own_goW own_pn46 own_o46 #[.val (.ref b_1), .val (.int 0), .val (.int n1), .val (.ref ca), .val (.int 0), .unset] (fun _ => rfl) fun p e s m below meth c s₁ Bd D hml hZ hown X0 e0 N0 => ?_
  have hx := D.1
  have K0 : Keep h0 h0 [ca] := Keep.refl h0 _
  refine own_r X0 D 2 rfl ?_
  refine own_cN X0 D rfl (tlt hp_hp).2.1 ?_
  refine own_r X0 D 5 rfl ?_
  show own_H s₁ 10 #[.val (.ref b_1), .val (.int 0), .val (.int n1), .val (.ref ca), .val (.int 0), .unset] [(.ref b_1), (.int (n1 - (0 : Int32))), (.int 0)]
  rw [show (n1 - (0 : Int32)) = n1 from (own_s0 n1)]
  refine own_xPN X0 D hZ hown hml (own_u hw 218 rfl) (own_K53 hw) (own_uco (i1 := (0 : Int32)) (n1 := (n1 <<< ((1 : Int32) &&& 31))) hw i_SF i_Ab hp_fm (own_or3 hp_d0 hp_d3) (own_sb3 hp_d0 hp_d3)) 0 (by decide) e0 rfl rfl fun T1 X1 e1 => ?_
  refine own_r X1 D 2 rfl ?_
  have J2 : ∀ (f : Nat) (i : Int32) (C : List Int32) (TJ2 : State) (hJ2 : Heap) (LJ2 : List Loc) (XJ2 : Stand p l e own_ugc_R s m #[(.ref b_1), (.int 0), (.int n1), (.ref ca), (.int 0)] below meth c TJ2 LJ2 0 0) (NJ2 : Fr n0 LJ2) (eJ2 : TJ2.heap = hJ2) (KJ2 : Keep h0 hJ2 [ca]) (ZJ2 : n0 ≤ hJ2.size) (fJ2_0 : own_eS0 Z hJ2 fm) (fJ2_1 : own_eS2 Z hJ2 (.int 1)) (fJ2_2 : own_eS3 Z hJ2 (.int 0)) (fJ2_3 : own_eS4 Z hJ2 (.int 8)) (fJ2_4 : own_aB Z hJ2 b_1 k_1 (n1 <<< ((1 : Int32) &&& 31)) L_1) (fJ2_5 : own_aC Z hJ2 ca kc (64 : Int32) C) (hL : C.length = 64) (hI : own_vn (n1 <<< ((1 : Int32) &&& 31)) n1 f i) (hE : own_gcl L_1 f i C = (own_gcl L_1 n1.toNatClampNeg (0 : Int32) CM)), own_G p e below (own_P s (own_W n0 (own_ugc_q Z b_1 n1 ca fm k_1 L_1 kc CM h0)) own_ugc_R.cells own_ugc_R.slots) (TJ2.setTop (mkF m 16 #[.val (.ref b_1), .val (.int 0), .val (.int n1), .val (.ref ca), .val (.int i), .val (.int i)] [])) := by
    intro f
    induction f with
    | zero =>
      intro i C TJ2 hJ2 LJ2 XJ2 NJ2 eJ2 KJ2 ZJ2 fJ2_0 fJ2_1 fJ2_2 fJ2_3 fJ2_4 fJ2_5 hL hI hE
      have hJ : ¬ i < n1 := hI
      refine own_r XJ2 D 2 rfl ?_
      refine own_cY XJ2 D rfl (flt hJ).2.1 ?_
      have fo3 : Arv Z hJ2 ca kc .char (64 : Int32) ((own_gcl L_1 n1.toNatClampNeg (0 : Int32) CM).map Value.int) (.int 0) := by rw [← hE]; exact fJ2_5
      exact own_rV XJ2 D Bd rfl eJ2 ⟨NJ2, rfl, KJ2, fo3⟩ (by decide)
    | succ f ih =>
      intro i C TJ2 hJ2 LJ2 XJ2 NJ2 eJ2 KJ2 ZJ2 fJ2_0 fJ2_1 fJ2_2 fJ2_3 fJ2_4 fJ2_5 hL hI hE
      have hJ : own_vr (n1 <<< ((1 : Int32) &&& 31)) n1 i ∧ own_vn (n1 <<< ((1 : Int32) &&& 31)) n1 f (i + 1) := hI
      have hR := hJ.1
      unfold own_vr at hR
      refine own_r XJ2 D 2 rfl ?_
      refine own_cN XJ2 D rfl (tlt hR.1).2.1 ?_
      refine own_r XJ2 D 5 rfl ?_
      refine own_xP XJ2 D hZ hown hml (own_u hw 155 rfl) (own_K9 hw) (own_gch (n1 := (n1 <<< ((1 : Int32) &&& 31))) hw fJ2_1 fJ2_2 fJ2_3 fJ2_4 hR.2.2.2.1.1 hR.2.2.2.1.2 hR.2.2.2.2.1 hR.2.2.2.2.2) 2 (by decide) eJ2 rfl rfl fun T4 X4 e4 => ?_
      refine own_stCsk X4 NJ2 hx hZ e4 fJ2_5 g_ca (⟨⟨hR.2.1.1, hR.2.1.2.2⟩, by rw [hL]; exact hR.2.1.2.1⟩ : own_in C i (64 : Int32)) (own_dd D rfl) fun T5 h5 L5 X5 N5 e5 W5 V5 => ?_
      have f6 := fJ2_0.wr W5
      have f7 := fJ2_1.wr W5
      have f8 := fJ2_2.wr W5
      have f9 := fJ2_3.wr W5
      have f10 := fJ2_4.other W5 ne_b_1_ca
      have Kp11 := KJ2.wr W5 (Or.inl own_m0)
      have f12 : own_aC Z h5 ca kc (64 : Int32) (own_set C i (nar .char (own_gc (own_get L_1 (i <<< ((1 : Int32) &&& 31))) (own_get L_1 ((i <<< ((1 : Int32) &&& 31)) + (1 : Int32)))))) := V5
      have Zs13 : n0 ≤ h5.size := by rw [W5.size]; exact ZJ2
      refine own_r X5 D 2 rfl ?_
      exact ih  (i + (1 : Int32)) (own_set C i (nar .char (own_gc (own_get L_1 (i <<< ((1 : Int32) &&& 31))) (own_get L_1 ((i <<< ((1 : Int32) &&& 31)) + (1 : Int32)))))) _ _ _ X5 N5 e5 Kp11 Zs13 f6 f7 f8 f9 f10 f12 (own_sl hL _ _) hJ.2 hE
  exact J2 n1.toNatClampNeg (0 : Int32) CM _ _ _ X1 N0 e1 K0 Z0 i_SF i_SA i_SH i_SL i_Ab i_Ach hp_hc hp_hn rfl
abbrev own_sgc_R : Room := { frames := 4, cells := 0, slots := 0, locals := 60 }
def own_sgc_q (Z : State) (a2 : Addr) (n1 : Int32) (ca : Addr) (cs : Int32) (fm : Value) (b_1 : Addr) (k_1 : ClassId) (L_1 : List Int32) (kc : ClassId) (CM : List Int32) (h0 : Heap) (v : Option Value) (h : Heap) : Prop := v = none ∧ Keep h0 h [ca] ∧ own_aC Z h ca kc (64 : Int32) (own_gcl L_1 n1.toNatClampNeg (0 : Int32) CM)
theorem own_sgc (hw : own_hw a0 Z) (Z0 : n0 ≤ h0.size) (i_SC : own_eS1 Z h0 (.int cs)) (i_SF : own_eS0 Z h0 fm) (i_SA : own_eS2 Z h0 (.int 1)) (i_SH : own_eS3 Z h0 (.int 0)) (i_SL : own_eS4 Z h0 (.int 8)) (i_Es : Exa Z h0 a2 own_cS) (i_Fv : own_eF10 Z h0 a2 (.ref b_1)) (i_Fc : own_eF9 Z h0 a2 (.int 1)) (i_Ab : own_aB Z h0 b_1 k_1 (n1 <<< ((1 : Int32) &&& 31)) L_1) (i_Ach : own_aC Z h0 ca kc (64 : Int32) CM) (g_ca : n0 ≤ ca) (ne_b_1_ca : b_1 ≠ ca) (ne_a2_ca : a2 ≠ ca) (hp_cs : ¬ (cs = (0 : Int32))) (hp_fm : fm.isRef = true) (hp_hc : CM.length = 64) (hp_hp : (0 : Int32) < n1) (hp_hn : own_vn (n1 <<< ((1 : Int32) &&& 31)) n1 n1.toNatClampNeg (0 : Int32)) (hp_d0 : ¬ (n1 < (0 : Int32))) (hp_d3 : n1.toNatClampNeg ≤ 3) :
    own_C l Z own_y30 jdk_42_method_61_code 5 none ws own_sgc_R #[(.ref a2), (.int 0), (.int n1), (.ref ca), (.int 0)] h0 (own_W n0 (own_sgc_q Z a2 n1 ca cs fm b_1 k_1 L_1 kc CM h0)) := by
  refine own_goW own_pn43 own_o43 #[.val (.ref a2), .val (.int 0), .val (.int n1), .val (.ref ca), .val (.int 0)] (fun _ => rfl) fun p e s m below meth c s₁ Bd D hml hZ hown X0 e0 N0 => ?_
  have hx := D.1
  have K0 : Keep h0 h0 [ca] := Keep.refl h0 _
  refine own_r X0 D 3 rfl ?_
  refine own_xVP X0 D hZ hown hml (own_u hw 110 rfl) (own_K26 hw) (own_len1 hw i_SC i_Es i_Fv i_Fc i_Ab hp_cs hp_d0 hp_d3) 2 (by decide) e0 i_Es rfl rfl fun T1 X1 e1 => ?_
  refine own_xPN X1 D hZ hown hml (own_u hw 111 rfl) (own_K27 hw) (own_cbe (i1 := (0 : Int32)) hw i_SF hp_fm (by decide : ¬ ((0 : Int32) < (0 : Int32))) hp_d0 (own_irr n1)) 0 (by decide) e1 rfl rfl fun T2 X2 e2 => ?_
  refine own_r X2 D 5 rfl ?_
  refine own_via (own_len X2 hx hZ e2 i_Ach (own_dd D rfl)) ?_
  show own_H T2 16 #[.val (.ref a2), .val (.int 0), .val (.int n1), .val (.ref ca), .val (.int 0)] [(.int 64), (.int (n1 - (0 : Int32))), (.int 0)]
  rw [show (n1 - (0 : Int32)) = n1 from (own_s0 n1)]
  refine own_xP X2 D hZ hown hml (own_u hw 121 rfl) (own_K25 hw) (own_coc (i1 := (0 : Int32)) (n1 := (64 : Int32)) hw i_SF hp_fm (own_or64 hp_d0 hp_d3) (own_mn hp_d0 hp_d3)) 0 (by decide) e2 rfl rfl fun T3 X3 e3 => ?_
  refine own_r X3 D 2 rfl ?_
  refine own_xVP X3 D hZ hown hml (own_u hw 79 rfl) (own_K5 hw) (own_isl1 hw i_SC i_Fc hp_cs) 0 (by decide) e3 i_Es rfl rfl fun T4 X4 e4 => ?_
  refine own_fY X4 D rfl (teq (by decide : (0 : Int32) = (0 : Int32))).1 ?_
  refine own_r X4 D 1 rfl ?_
  refine own_gF X4 D hZ hown (own_u hw 32 rfl) Via.refl e4 i_Fv rfl fun T5 X5 e5 => ?_
  refine own_r X5 D 4 rfl ?_
  refine own_xS X5 N0 D hZ hown hml (own_u hw 215 rfl) (own_K54 hw) (own_ugc hw Z0 i_SF i_SA i_SH i_SL i_Ab i_Ach g_ca ne_b_1_ca hp_fm hp_hc hp_hp hp_hn hp_d0 hp_d3) 0 (by decide) e5 rfl rfl ?_
  rintro v6 T6 h6 L6 X6 N6 e6 ⟨rfl, K6, o6_0⟩
  have Kp16 := K0.trans K6 (own_al1 (Or.inl own_m0))
  exact own_rV X6 D Bd rfl e6 ⟨N6, rfl, Kp16, o6_0⟩ (by decide)
abbrev own_kmU_R : Room := { frames := 5, cells := 6, slots := 76, locals := 78 }
def own_kmU_q (Z : State) (t1 : Addr) (a2 : Addr) (n1 : Int32) (cs : Int32) (fm : Value) (a3 : Addr) (b_1 : Addr) (k_1 : ClassId) (L_1 : List Int32) (la : Addr) (kl : ClassId) (LL : List Int32) (h0 : Heap) (v : Option Value) (h : Heap) : Prop := ∃ (ca : Addr) (kc : ClassId), v = none ∧ Keep h0 h [t1] ∧ h0.size ≤ ca ∧ Exa Z h t1 own_cT ∧ own_eF11 Z h t1 (.ref la) ∧ own_eF12 Z h t1 (.long (0 : Int64)) ∧ own_eF13 Z h t1 (.int n1) ∧ own_eF14 Z h t1 (.ref ca) ∧ own_eF15 Z h t1 .null ∧ own_eF16 Z h t1 .null ∧ own_aC Z h ca kc (64 : Int32) (own_gcl L_1 n1.toNatClampNeg (0 : Int32) (List.replicate 64 (0 : Int32)))
theorem own_kmU (hw : own_hw a0 Z) (Z0 : n0 ≤ h0.size) (i_SC : own_eS1 Z h0 (.int cs)) (i_SF : own_eS0 Z h0 fm) (i_SA : own_eS2 Z h0 (.int 1)) (i_SH : own_eS3 Z h0 (.int 0)) (i_SL : own_eS4 Z h0 (.int 8)) (i_SX : own_eS8 Z h0 (.ref a3)) (i_E3 : Exa Z h0 a3 "sun/nio/cs/ISO_8859_1") (i_Et : Exa Z h0 t1 own_cT) (i_Tl : own_eF11 Z h0 t1 (.ref la)) (i_Ts : own_eF12 Z h0 t1 (.long (0 : Int64))) (i_Tn : own_eF13 Z h0 t1 (.int 0)) (i_Tc : own_eF14 Z h0 t1 .null) (i_Tp : own_eF15 Z h0 t1 .null) (i_Ta : own_eF16 Z h0 t1 .null) (i_Al : own_aB Z h0 la kl (64 : Int32) LL) (i_Es : Exa Z h0 a2 own_cS) (i_Fv : own_eF10 Z h0 a2 (.ref b_1)) (i_Fc : own_eF9 Z h0 a2 (.int 1)) (i_Ab : own_aB Z h0 b_1 k_1 (n1 <<< ((1 : Int32) &&& 31)) L_1) (g_t1 : n0 ≤ t1) (ne_t1_a2 : t1 ≠ a2) (ne_t1_b_1 : t1 ≠ b_1) (ne_t1_la : t1 ≠ la) (hp_cs : ¬ (cs = (0 : Int32))) (hp_fm : fm.isRef = true) (hp_hp : (0 : Int32) < n1) (hp_hn : own_vn (n1 <<< ((1 : Int32) &&& 31)) n1 n1.toNatClampNeg (0 : Int32)) (hp_d0 : ¬ (n1 < (0 : Int32))) (hp_d3 : n1.toNatClampNeg ≤ 3) :
    own_CH l Z own_EL own_y5 prog_37_method_7_code 6 none ws own_kmU_R #[(.ref t1), (.ref a2), (.int 0), (.int n1), (.int 0)] h0 (own_W n0 (own_kmU_q Z t1 a2 n1 cs fm a3 b_1 k_1 L_1 la kl LL h0)) := by
  refine own_goH own_pn37 own_o37 #[.val (.ref t1), .val (.ref a2), .val (.int 0), .val (.int n1), .val (.int 0), .unset] (fun _ => rfl) fun p e s m below meth c s₁ Bd D hml hZ hown X0 e0 N0 hh CR0 S0 W0 Pw hPw => ?_
  have hx := D.1
  have K0 : Keep h0 h0 [t1] := Keep.refl h0 _
  have hEL := own_hEL hw
  refine own_r X0 D 3 rfl ?_
  show own_H s₁ 3 #[.val (.ref t1), .val (.ref a2), .val (.int 0), .val (.int n1), .val (.int 0), .unset] [(.int (n1 - (0 : Int32)))]
  rw [show (n1 - (0 : Int32)) = n1 from (own_s0 n1)]
  refine own_r X0 D 3 rfl ?_
  refine own_cY X0 D rfl (flt (own_k16' hp_d0 hp_d3)).2.2.2 ?_
  refine own_r X0 D 1 rfl ?_
  refine own_gF X0 D hZ hown (own_u hw 72 rfl) Via.refl e0 i_Tc rfl fun T1 X1 e1 => ?_
  refine own_oN X1 D rfl ?_
  refine own_r X1 D 1 rfl ?_
  refine own_fY X1 D rfl (teq (by decide : (0 : Int32) = (0 : Int32))).1 ?_
  refine own_r X1 D 2 rfl ?_
  refine own_xRH S0 W0 CR0 hEL X1 N0 D hZ hown hml (own_u hw 172 rfl) (own_K55 hw) (own_widN (u4 := (.long (0 : Int64))) (u5 := (.null)) hw Z0 i_SC i_SF i_SX i_E3 i_Et i_Tl i_Ts i_Tn i_Tc i_Tp i_Ta i_Al g_t1 ne_t1_la hp_cs hp_fm hp_d0 hp_d3 (own_k16 hp_d0 hp_d3)) 0 (by decide) e1 i_Et rfl rfl ?_
  rintro v2 T2 h2 L2 s kw2 X2 N2 e2 ⟨ca2, kc2, rfl, K2, zf_ca2, o2_0, o2_1, o2_2, o2_3, o2_4, o2_5, o2_6, o2_7⟩ S2 Wk2 CR2 hZ hown
  have ne4 := own_ne2 i_Et.lt zf_ca2
  have ne6 := own_ne2 i_Es.lt zf_ca2
  have ne7 := own_ne2 i_Ab.lt zf_ca2
  have g_ca2 := Nat.le_trans Z0 zf_ca2
  have sz_ca2 := Nat.le_trans K0.1 zf_ca2
  have f8 := own_staK i_SC K2 (own_al1 i_Et.nostat)
  have f9 := own_staK i_SF K2 (own_al1 i_Et.nostat)
  have f10 := own_staK i_SA K2 (own_al1 i_Et.nostat)
  have f11 := own_staK i_SH K2 (own_al1 i_Et.nostat)
  have f12 := own_staK i_SL K2 (own_al1 i_Et.nostat)
  have f17 := i_Es.keep K2
  have f18 := i_Fv.keep K2 (own_nm1 (Ne.symm ne_t1_a2))
  have f19 := i_Fc.keep K2 (own_nm1 (Ne.symm ne_t1_a2))
  have f20 := i_Ab.keep K2 (own_nm1 (Ne.symm ne_t1_b_1))
  have Kp21 := K0.trans K2 (own_al1 (Or.inl own_m0))
  have Zs22 := Nat.le_trans Z0 K2.1
  refine own_r X2 D 4 rfl ?_
  refine own_gF X2 D hZ hown (own_u hw 72 rfl) Via.refl e2 o2_4 rfl fun T23 X23 e23 => ?_
  refine own_r X23 D 1 rfl ?_
  refine own_gF X23 D hZ hown (own_u hw 50 rfl) Via.refl e23 o2_3 rfl fun T24 X24 e24 => ?_
  refine own_xV X24 N2 D hZ hown hml (own_u hw 204 rfl) (own_K50 hw) (own_sgc (CM := (List.replicate 64 (0 : Int32))) hw Zs22 f8 f9 f10 f11 f12 f17 f18 f19 f20 o2_7 g_ca2 ne7 ne6 hp_cs hp_fm List.length_replicate hp_hp hp_hn hp_d0 hp_d3) 0 (by decide) e24 f17 rfl rfl ?_
  rintro v25 T25 h25 L25 X25 N25 e25 ⟨rfl, K25, o25_0⟩
  have CR45 := CHr.trans CR2 (CHr.keep K25 (own_al1 (own_safeA hZ.alike o2_7 (by decide))) CR2.1)
  have f33 := o2_0.keep K25
  have f39 := o2_1.keep K25 (own_nm1 ne4)
  have f40 := o2_2.keep K25 (own_nm1 ne4)
  have f41 := o2_3.keep K25 (own_nm1 ne4)
  have f42 := o2_4.keep K25 (own_nm1 ne4)
  have f43 := o2_5.keep K25 (own_nm1 ne4)
  have f44 := o2_6.keep K25 (own_nm1 ne4)
  have Kp46 := Kp21.trans K25 (own_al1 (Or.inr sz_ca2))
  have Wk47 := Nat.le_trans Wk2 K25.1
  refine own_r X25 D 2 rfl ?_
  refine own_gF X25 D hZ hown (own_u hw 50 rfl) Via.refl e25 f41 rfl fun T49 X49 e49 => ?_
  refine own_r X49 D 2 rfl ?_
  show own_H T49 97 #[.val (.ref t1), .val (.ref a2), .val (.int 0), .val (.int n1), .val (.int 0), .val (.int n1)] [(.int ((0 : Int32) + n1)), (.ref t1)]
  rw [show ((0 : Int32) + n1) = n1 from (own_a0 n1)]
  refine own_putFk X49 N25 hx hZ hown (own_u hw 50 rfl) e49 f41 f33 (Or.inl (own_u hw 51 rfl)) (own_u hw 35 rfl) g_t1 (ty := .int) (by decide) rfl rfl (own_dd D rfl) fun T50 h50 L50 X50 N50 e50 W50 F50 => ?_
  have CR70 := CHr.trans CR45 (CHr.wr W50 (Safe.exa hZ.alike f33 (by decide) (by decide)) CR45.1)
  have f58 := f33.wr W50
  have f64 := f39.other W50 (Or.inr (slot_ne (Or.inl (own_u hw 42 rfl)) (Or.inl (own_u hw 51 rfl)) (by decide) rfl rfl))
  have f65 := f40.other W50 (Or.inr (slot_ne (Or.inl (own_u hw 49 rfl)) (Or.inl (own_u hw 51 rfl)) (by decide) rfl rfl))
  have f66 := f42.other W50 (Or.inr (slot_ne (Or.inl (own_u hw 73 rfl)) (Or.inl (own_u hw 51 rfl)) (by decide) rfl rfl))
  have f67 := f43.other W50 (Or.inr (slot_ne (Or.inl (own_u hw 189 rfl)) (Or.inl (own_u hw 51 rfl)) (by decide) rfl rfl))
  have f68 := f44.other W50 (Or.inr (slot_ne (Or.inl (own_u hw 246 rfl)) (Or.inl (own_u hw 51 rfl)) (by decide) rfl rfl))
  have f69 := o25_0.other W50 (Ne.symm ne4)
  have Kp71 := Kp46.wr W50 (Or.inl own_m0)
  have Wk72 : kw2 ≤ h50.size := by rw [W50.size]; exact Wk47
  rw [hPw]
  refine own_held S2 hh hZ hEL ?_
  exact own_rV X50 D Bd rfl e50 ⟨⟨N50, ca2, kc2, rfl, Kp71, sz_ca2, f58, f64, f65, F50, f66, f67, f68, f69⟩, Wk72, CR70⟩ (by decide)
abbrev own_akU_R : Room := { frames := 6, cells := 6, slots := 76, locals := 95 }
def own_akU_q (Z : State) (t1 : Addr) (a2 : Addr) (n1 : Int32) (cs : Int32) (fm : Value) (a3 : Addr) (b_1 : Addr) (k_1 : ClassId) (L_1 : List Int32) (la : Addr) (kl : ClassId) (LL : List Int32) (h0 : Heap) (v : Option Value) (h : Heap) : Prop := ∃ (ca : Addr) (kc : ClassId), v = none ∧ Keep h0 h [t1] ∧ h0.size ≤ ca ∧ Exa Z h t1 own_cT ∧ own_eF11 Z h t1 (.ref la) ∧ own_eF12 Z h t1 (.long (0 : Int64)) ∧ own_eF13 Z h t1 (.int n1) ∧ own_eF14 Z h t1 (.ref ca) ∧ own_eF15 Z h t1 .null ∧ own_eF16 Z h t1 .null ∧ own_aC Z h ca kc (64 : Int32) (own_gcl L_1 n1.toNatClampNeg (0 : Int32) (List.replicate 64 (0 : Int32)))
theorem own_akU (hw : own_hw a0 Z) (Z0 : n0 ≤ h0.size) (i_SC : own_eS1 Z h0 (.int cs)) (i_SF : own_eS0 Z h0 fm) (i_SA : own_eS2 Z h0 (.int 1)) (i_SH : own_eS3 Z h0 (.int 0)) (i_SL : own_eS4 Z h0 (.int 8)) (i_SX : own_eS8 Z h0 (.ref a3)) (i_E3 : Exa Z h0 a3 "sun/nio/cs/ISO_8859_1") (i_Et : Exa Z h0 t1 own_cT) (i_Tl : own_eF11 Z h0 t1 (.ref la)) (i_Ts : own_eF12 Z h0 t1 (.long (0 : Int64))) (i_Tn : own_eF13 Z h0 t1 (.int 0)) (i_Tc : own_eF14 Z h0 t1 .null) (i_Tp : own_eF15 Z h0 t1 .null) (i_Ta : own_eF16 Z h0 t1 .null) (i_Al : own_aB Z h0 la kl (64 : Int32) LL) (i_Es : Exa Z h0 a2 own_cS) (i_Fv : own_eF10 Z h0 a2 (.ref b_1)) (i_Fc : own_eF9 Z h0 a2 (.int 1)) (i_Ab : own_aB Z h0 b_1 k_1 (n1 <<< ((1 : Int32) &&& 31)) L_1) (g_t1 : n0 ≤ t1) (ne_t1_a2 : t1 ≠ a2) (ne_t1_b_1 : t1 ≠ b_1) (ne_t1_la : t1 ≠ la) (hp_cs : ¬ (cs = (0 : Int32))) (hp_fm : fm.isRef = true) (hp_hp : (0 : Int32) < n1) (hp_hn : own_vn (n1 <<< ((1 : Int32) &&& 31)) n1 n1.toNatClampNeg (0 : Int32)) (hp_d0 : ¬ (n1 < (0 : Int32))) (hp_d3 : n1.toNatClampNeg ≤ 3) :
    own_CH l Z own_EL own_y4 prog_37_method_6_code 6 none ws own_akU_R #[(.ref t1), (.ref a2), (.int 0), (.int n1), (.int 0)] h0 (own_W n0 (own_akU_q Z t1 a2 n1 cs fm a3 b_1 k_1 L_1 la kl LL h0)) := by
  refine own_goH own_pn19 own_o19 #[.val (.ref t1), .val (.ref a2), .val (.int 0), .val (.int n1), .val (.int 0), .unset] (fun _ => rfl) fun p e s m below meth c s₁ Bd D hml hZ hown X0 e0 N0 hh CR0 S0 W0 Pw hPw => ?_
  have hx := D.1
  have K0 : Keep h0 h0 [t1] := Keep.refl h0 _
  have hEL := own_hEL hw
  refine own_r X0 D 3 rfl ?_
  show own_H s₁ 3 #[.val (.ref t1), .val (.ref a2), .val (.int 0), .val (.int n1), .val (.int 0), .unset] [(.int (n1 - (0 : Int32)))]
  rw [show (n1 - (0 : Int32)) = n1 from (own_s0 n1)]
  refine own_r X0 D 2 rfl ?_
  refine own_gF X0 D hZ hown (own_u hw 72 rfl) Via.refl e0 i_Tc rfl fun T1 X1 e1 => ?_
  refine own_oN X1 D rfl ?_
  refine own_r X1 D 1 rfl ?_
  refine own_fY X1 D rfl (teq (by decide : (0 : Int32) = (0 : Int32))).1 ?_
  refine own_r X1 D 1 rfl ?_
  refine own_gF X1 D hZ hown (own_u hw 72 rfl) Via.refl e1 i_Tc rfl fun T2 X2 e2 => ?_
  refine own_nY X2 D rfl ?_
  refine own_r X2 D 5 rfl ?_
  refine own_xRH S0 W0 CR0 hEL X2 N0 D hZ hown hml (own_u hw 168 rfl) (own_K47 hw) (own_kmU hw Z0 i_SC i_SF i_SA i_SH i_SL i_SX i_E3 i_Et i_Tl i_Ts i_Tn i_Tc i_Tp i_Ta i_Al i_Es i_Fv i_Fc i_Ab g_t1 ne_t1_a2 ne_t1_b_1 ne_t1_la hp_cs hp_fm hp_hp hp_hn hp_d0 hp_d3) 0 (by decide) e2 i_Et rfl rfl ?_
  rintro v3 T3 h3 L3 s kw3 X3 N3 e3 ⟨ca3, kc3, rfl, K3, zf_ca3, o3_0, o3_1, o3_2, o3_3, o3_4, o3_5, o3_6, o3_7⟩ S3 Wk3 CR3 hZ hown
  have sz_ca3 := Nat.le_trans K0.1 zf_ca3
  have Kp22 := K0.trans K3 (own_al1 (Or.inl own_m0))
  rw [hPw]
  refine own_held S3 hh hZ hEL ?_
  exact own_rV X3 D Bd rfl e3 ⟨⟨N3, ca3, kc3, rfl, Kp22, sz_ca3, o3_0, o3_1, o3_2, o3_3, o3_4, o3_5, o3_6, o3_7⟩, Wk3, CR3⟩ (by decide)
abbrev own_a3U_R : Room := { frames := 7, cells := 6, slots := 76, locals := 112 }
def own_a3U_q (Z : State) (t1 : Addr) (a2 : Addr) (n1 : Int32) (cs : Int32) (fm : Value) (a3 : Addr) (b_1 : Addr) (k_1 : ClassId) (L_1 : List Int32) (la : Addr) (kl : ClassId) (LL : List Int32) (jv : Nat) (h0 : Heap) (v : Option Value) (h : Heap) : Prop := ∃ (ca : Addr) (kc : ClassId), v = none ∧ Keep h0 h [t1] ∧ h0.size ≤ ca ∧ Exa Z h t1 own_cT ∧ own_eF11 Z h t1 (.ref la) ∧ own_eF12 Z h t1 (.long (0 : Int64)) ∧ own_eF13 Z h t1 (.int n1) ∧ own_eF14 Z h t1 (.ref ca) ∧ own_eF15 Z h t1 .null ∧ own_eF16 Z h t1 .null ∧ own_aC Z h ca kc (64 : Int32) (own_gcl L_1 n1.toNatClampNeg (0 : Int32) (List.replicate 64 (0 : Int32)))
theorem own_a3U (hw : own_hw a0 Z) (Z0 : n0 ≤ h0.size) (i_SC : own_eS1 Z h0 (.int cs)) (i_SF : own_eS0 Z h0 fm) (i_SA : own_eS2 Z h0 (.int 1)) (i_SH : own_eS3 Z h0 (.int 0)) (i_SL : own_eS4 Z h0 (.int 8)) (i_SX : own_eS8 Z h0 (.ref a3)) (i_E3 : Exa Z h0 a3 "sun/nio/cs/ISO_8859_1") (i_Et : Exa Z h0 t1 own_cT) (i_Tl : own_eF11 Z h0 t1 (.ref la)) (i_Ts : own_eF12 Z h0 t1 (.long (0 : Int64))) (i_Tn : own_eF13 Z h0 t1 (.int 0)) (i_Tc : own_eF14 Z h0 t1 .null) (i_Tp : own_eF15 Z h0 t1 .null) (i_Ta : own_eF16 Z h0 t1 .null) (i_Al : own_aB Z h0 la kl (64 : Int32) LL) (i_Es : Exa Z h0 a2 own_cS) (i_Fv : own_eF10 Z h0 a2 (.ref b_1)) (i_Fc : own_eF9 Z h0 a2 (.int 1)) (i_Ab : own_aB Z h0 b_1 k_1 (n1 <<< ((1 : Int32) &&& 31)) L_1) (g_t1 : n0 ≤ t1) (ne_t1_a2 : t1 ≠ a2) (ne_t1_b_1 : t1 ≠ b_1) (ne_t1_la : t1 ≠ la) (hp_cs : ¬ (cs = (0 : Int32))) (hp_fm : fm.isRef = true) (hp_hp : (0 : Int32) < n1) (hp_hn : own_vn (n1 <<< ((1 : Int32) &&& 31)) n1 n1.toNatClampNeg (0 : Int32)) (hp_d0 : ¬ (n1 < (0 : Int32))) (hp_d3 : n1.toNatClampNeg ≤ 3) (hp_hv : own_vl L_1 (n1 <<< ((1 : Int32) &&& 31)) n1 jv (0 : Int32)) :
    own_CH l Z own_EL own_y3 prog_37_method_4_code 6 none ws own_a3U_R #[(.ref t1), (.ref a2), (.int 0), (.int n1)] h0 (own_W n0 (own_a3U_q Z t1 a2 n1 cs fm a3 b_1 k_1 L_1 la kl LL jv h0)) := by
  refine own_goH own_pn13 own_o13 #[.val (.ref t1), .val (.ref a2), .val (.int 0), .val (.int n1), .unset, .unset] (fun _ => rfl) fun p e s m below meth c s₁ Bd D hml hZ hown X0 e0 N0 hh CR0 S0 W0 Pw hPw => ?_
  have hx := D.1
  have K0 : Keep h0 h0 [t1] := Keep.refl h0 _
  have hEL := own_hEL hw
  refine own_r X0 D 4 rfl ?_
  have J1 : ∀ (f : Nat) (i : Int32) (TJ1 : State) (hJ1 : Heap) (LJ1 : List Loc) (XJ1 : Stand p l e own_a3U_R s m #[(.ref t1), (.ref a2), (.int 0), (.int n1)] below meth c TJ1 LJ1 0 0) (NJ1 : Fr n0 LJ1) (eJ1 : TJ1.heap = hJ1) (KJ1 : Keep h0 hJ1 [t1]) (ZJ1 : n0 ≤ hJ1.size) (WkJ1 : 0 ≤ hJ1.size) (CRJ1 : CHr Z own_EL s.vm h0 s.vm hJ1) (fJ1_0 : own_eS1 Z hJ1 (.int cs)) (fJ1_1 : own_eS0 Z hJ1 fm) (fJ1_2 : own_eS2 Z hJ1 (.int 1)) (fJ1_3 : own_eS3 Z hJ1 (.int 0)) (fJ1_4 : own_eS4 Z hJ1 (.int 8)) (fJ1_5 : own_eS8 Z hJ1 (.ref a3)) (fJ1_6 : Exa Z hJ1 a3 "sun/nio/cs/ISO_8859_1") (fJ1_7 : Exa Z hJ1 t1 own_cT) (fJ1_8 : own_eF11 Z hJ1 t1 (.ref la)) (fJ1_9 : own_eF12 Z hJ1 t1 (.long (0 : Int64))) (fJ1_10 : own_eF13 Z hJ1 t1 (.int 0)) (fJ1_11 : own_eF14 Z hJ1 t1 .null) (fJ1_12 : own_eF15 Z hJ1 t1 .null) (fJ1_13 : own_eF16 Z hJ1 t1 .null) (fJ1_14 : own_aB Z hJ1 la kl (64 : Int32) LL) (fJ1_15 : Exa Z hJ1 a2 own_cS) (fJ1_16 : own_eF10 Z hJ1 a2 (.ref b_1)) (fJ1_17 : own_eF9 Z hJ1 a2 (.int 1)) (fJ1_18 : own_aB Z hJ1 b_1 k_1 (n1 <<< ((1 : Int32) &&& 31)) L_1) (hI : own_vl L_1 (n1 <<< ((1 : Int32) &&& 31)) n1 f i), own_G p e below Pw (TJ1.setTop (mkF m 6 #[.val (.ref t1), .val (.ref a2), .val (.int 0), .val (.int n1), .val (.int 1), .val (.int i)] [])) := by
    intro f
    induction f with
    | zero =>
      intro i TJ1 hJ1 LJ1 XJ1 NJ1 eJ1 KJ1 ZJ1 WkJ1 CRJ1 fJ1_0 fJ1_1 fJ1_2 fJ1_3 fJ1_4 fJ1_5 fJ1_6 fJ1_7 fJ1_8 fJ1_9 fJ1_10 fJ1_11 fJ1_12 fJ1_13 fJ1_14 fJ1_15 fJ1_16 fJ1_17 fJ1_18 hI
      have hJ : own_vr (n1 <<< ((1 : Int32) &&& 31)) n1 i ∧ (255 : Int32) < (nar .char (nar .char (own_gc (own_get L_1 (i <<< ((1 : Int32) &&& 31))) (own_get L_1 ((i <<< ((1 : Int32) &&& 31)) + (1 : Int32)))))) := hI
      have hR := hJ.1
      unfold own_vr at hR
      refine own_r XJ1 D 1 rfl ?_
      refine own_gF XJ1 D hZ hown (own_u hw 72 rfl) Via.refl eJ1 fJ1_11 rfl fun T2 X2 e2 => ?_
      refine own_oN X2 D rfl ?_
      refine own_r X2 D 1 rfl ?_
      refine own_fN X2 D rfl (feq (by decide : ¬ ((1 : Int32) = (0 : Int32)))).1 ?_
      refine own_r X2 D 2 rfl ?_
      refine own_cN X2 D rfl (tlt hR.1).2.1 ?_
      refine own_r X2 D 2 rfl ?_
      refine own_xVP X2 D hZ hown hml (own_u hw 74 rfl) (own_K32 hw) (own_sch2 (n1 := (n1 <<< ((1 : Int32) &&& 31))) hw fJ1_0 fJ1_1 fJ1_2 fJ1_3 fJ1_4 fJ1_15 fJ1_16 fJ1_17 fJ1_18 hp_cs hp_fm hR.2.1.1 hR.2.2.1 hR.2.2.2.1.1 hR.2.2.2.1.2 hR.2.2.2.2.1 hR.2.2.2.2.2) 0 (by decide) e2 fJ1_15 rfl rfl fun T3 X3 e3 => ?_
      refine own_r X3 D 1 rfl ?_
      refine own_cY X3 D rfl (tlt hJ.2).2.2.1 ?_
      refine own_r X3 D 5 rfl ?_
      refine own_gF X3 D hZ hown (own_u hw 72 rfl) Via.refl e3 fJ1_11 rfl fun T4 X4 e4 => ?_
      refine own_oN X4 D rfl ?_
      refine own_r X4 D 1 rfl ?_
      refine own_fY X4 D rfl (teq (by decide : (0 : Int32) = (0 : Int32))).1 ?_
      refine own_r X4 D 5 rfl ?_
      refine own_xVH S0 WkJ1 CRJ1 hEL X4 NJ1 D hZ hown hml (own_u hw 96 rfl) (own_K31 hw) (own_akU hw ZJ1 fJ1_0 fJ1_1 fJ1_2 fJ1_3 fJ1_4 fJ1_5 fJ1_6 fJ1_7 fJ1_8 fJ1_9 fJ1_10 fJ1_11 fJ1_12 fJ1_13 fJ1_14 fJ1_15 fJ1_16 fJ1_17 fJ1_18 g_t1 ne_t1_a2 ne_t1_b_1 ne_t1_la hp_cs hp_fm hp_hp hp_hn hp_d0 hp_d3) 0 (by decide) e4 fJ1_7 rfl rfl ?_
      rintro v5 T5 h5 L5 s kw5 X5 N5 e5 ⟨ca5, kc5, rfl, K5, zf_ca5, o5_0, o5_1, o5_2, o5_3, o5_4, o5_5, o5_6, o5_7⟩ S5 Wk5 CR5 hZ hown
      have sz_ca5 := Nat.le_trans KJ1.1 zf_ca5
      have Kp24 := KJ1.trans K5 (own_al1 (Or.inl own_m0))
      rw [hPw]
      refine own_held S5 hh hZ hEL ?_
      exact own_rV X5 D Bd rfl e5 ⟨⟨N5, ca5, kc5, rfl, Kp24, sz_ca5, o5_0, o5_1, o5_2, o5_3, o5_4, o5_5, o5_6, o5_7⟩, Wk5, CR5⟩ (by decide)
    | succ f ih =>
      intro i TJ1 hJ1 LJ1 XJ1 NJ1 eJ1 KJ1 ZJ1 WkJ1 CRJ1 fJ1_0 fJ1_1 fJ1_2 fJ1_3 fJ1_4 fJ1_5 fJ1_6 fJ1_7 fJ1_8 fJ1_9 fJ1_10 fJ1_11 fJ1_12 fJ1_13 fJ1_14 fJ1_15 fJ1_16 fJ1_17 fJ1_18 hI
      have hJ : own_vr (n1 <<< ((1 : Int32) &&& 31)) n1 i ∧ ¬ ((255 : Int32) < (nar .char (nar .char (own_gc (own_get L_1 (i <<< ((1 : Int32) &&& 31))) (own_get L_1 ((i <<< ((1 : Int32) &&& 31)) + (1 : Int32))))))) ∧ own_vl L_1 (n1 <<< ((1 : Int32) &&& 31)) n1 f (i + 1) := hI
      have hR := hJ.1
      unfold own_vr at hR
      refine own_r XJ1 D 1 rfl ?_
      refine own_gF XJ1 D hZ hown (own_u hw 72 rfl) Via.refl eJ1 fJ1_11 rfl fun T26 X26 e26 => ?_
      refine own_oN X26 D rfl ?_
      refine own_r X26 D 1 rfl ?_
      refine own_fN X26 D rfl (feq (by decide : ¬ ((1 : Int32) = (0 : Int32)))).1 ?_
      refine own_r X26 D 2 rfl ?_
      refine own_cN X26 D rfl (tlt hR.1).2.1 ?_
      refine own_r X26 D 2 rfl ?_
      refine own_xVP X26 D hZ hown hml (own_u hw 74 rfl) (own_K32 hw) (own_sch2 (n1 := (n1 <<< ((1 : Int32) &&& 31))) hw fJ1_0 fJ1_1 fJ1_2 fJ1_3 fJ1_4 fJ1_15 fJ1_16 fJ1_17 fJ1_18 hp_cs hp_fm hR.2.1.1 hR.2.2.1 hR.2.2.2.1.1 hR.2.2.2.1.2 hR.2.2.2.2.1 hR.2.2.2.2.2) 0 (by decide) e26 fJ1_15 rfl rfl fun T27 X27 e27 => ?_
      refine own_r X27 D 1 rfl ?_
      refine own_cN X27 D rfl (flt hJ.2.1).2.2.1 ?_
      refine own_r X27 D 5 rfl ?_
      exact ih  (i + (1 : Int32)) _ _ _ X27 NJ1 e27 KJ1 ZJ1 WkJ1 CRJ1 fJ1_0 fJ1_1 fJ1_2 fJ1_3 fJ1_4 fJ1_5 fJ1_6 fJ1_7 fJ1_8 fJ1_9 fJ1_10 fJ1_11 fJ1_12 fJ1_13 fJ1_14 fJ1_15 fJ1_16 fJ1_17 fJ1_18 hJ.2.2
  exact J1 jv (0 : Int32) _ _ _ X0 N0 e0 K0 Z0 W0 CR0 i_SC i_SF i_SA i_SH i_SL i_SX i_E3 i_Et i_Tl i_Ts i_Tn i_Tc i_Tp i_Ta i_Al i_Es i_Fv i_Fc i_Ab hp_hv
abbrev own_a1U_R : Room := { frames := 8, cells := 6, slots := 76, locals := 129 }
def own_a1U_q (Z : State) (t1 : Addr) (a2 : Addr) (n1 : Int32) (cs : Int32) (fm : Value) (a3 : Addr) (b_1 : Addr) (k_1 : ClassId) (L_1 : List Int32) (la : Addr) (kl : ClassId) (LL : List Int32) (jv : Nat) (h0 : Heap) (v : Option Value) (h : Heap) : Prop := ∃ (ca : Addr) (kc : ClassId), v = none ∧ Keep h0 h [t1] ∧ h0.size ≤ ca ∧ Exa Z h t1 own_cT ∧ own_eF11 Z h t1 (.ref la) ∧ own_eF12 Z h t1 (.long (0 : Int64)) ∧ own_eF13 Z h t1 (.int n1) ∧ own_eF14 Z h t1 (.ref ca) ∧ own_eF15 Z h t1 .null ∧ own_eF16 Z h t1 .null ∧ own_aC Z h ca kc (64 : Int32) (own_gcl L_1 n1.toNatClampNeg (0 : Int32) (List.replicate 64 (0 : Int32)))
theorem own_a1U (hw : own_hw a0 Z) (Z0 : n0 ≤ h0.size) (i_SC : own_eS1 Z h0 (.int cs)) (i_SF : own_eS0 Z h0 fm) (i_SA : own_eS2 Z h0 (.int 1)) (i_SH : own_eS3 Z h0 (.int 0)) (i_SL : own_eS4 Z h0 (.int 8)) (i_SX : own_eS8 Z h0 (.ref a3)) (i_E3 : Exa Z h0 a3 "sun/nio/cs/ISO_8859_1") (i_Et : Exa Z h0 t1 own_cT) (i_Tl : own_eF11 Z h0 t1 (.ref la)) (i_Ts : own_eF12 Z h0 t1 (.long (0 : Int64))) (i_Tn : own_eF13 Z h0 t1 (.int 0)) (i_Tc : own_eF14 Z h0 t1 .null) (i_Tp : own_eF15 Z h0 t1 .null) (i_Ta : own_eF16 Z h0 t1 .null) (i_Al : own_aB Z h0 la kl (64 : Int32) LL) (i_Es : Exa Z h0 a2 own_cS) (i_Fv : own_eF10 Z h0 a2 (.ref b_1)) (i_Fc : own_eF9 Z h0 a2 (.int 1)) (i_Ab : own_aB Z h0 b_1 k_1 (n1 <<< ((1 : Int32) &&& 31)) L_1) (g_t1 : n0 ≤ t1) (ne_t1_a2 : t1 ≠ a2) (ne_t1_b_1 : t1 ≠ b_1) (ne_t1_la : t1 ≠ la) (hp_cs : ¬ (cs = (0 : Int32))) (hp_fm : fm.isRef = true) (hp_hp : (0 : Int32) < n1) (hp_hn : own_vn (n1 <<< ((1 : Int32) &&& 31)) n1 n1.toNatClampNeg (0 : Int32)) (hp_d0 : ¬ (n1 < (0 : Int32))) (hp_d3 : n1.toNatClampNeg ≤ 3) (hp_hv : own_vl L_1 (n1 <<< ((1 : Int32) &&& 31)) n1 jv (0 : Int32)) :
    own_CH l Z own_EL own_y2 prog_37_method_3_code 2 none ws own_a1U_R #[(.ref t1), (.ref a2)] h0 (own_W n0 (own_a1U_q Z t1 a2 n1 cs fm a3 b_1 k_1 L_1 la kl LL jv h0)) := by
  refine own_goH own_pn10 own_o10 #[.val (.ref t1), .val (.ref a2)] (fun _ => rfl) fun p e s m below meth c s₁ Bd D hml hZ hown X0 e0 N0 hh CR0 S0 W0 Pw hPw => ?_
  have hx := D.1
  have K0 : Keep h0 h0 [t1] := Keep.refl h0 _
  have hEL := own_hEL hw
  refine own_r X0 D 4 rfl ?_
  refine own_xVP X0 D hZ hown hml (own_u hw 57 rfl) (own_K26 hw) (own_len1 hw i_SC i_Es i_Fv i_Fc i_Ab hp_cs hp_d0 hp_d3) 3 (by decide) e0 i_Es rfl rfl fun T1 X1 e1 => ?_
  refine own_xVH S0 W0 CR0 hEL X1 N0 D hZ hown hml (own_u hw 67 rfl) (own_K33 hw) (own_a3U hw Z0 i_SC i_SF i_SA i_SH i_SL i_SX i_E3 i_Et i_Tl i_Ts i_Tn i_Tc i_Tp i_Ta i_Al i_Es i_Fv i_Fc i_Ab g_t1 ne_t1_a2 ne_t1_b_1 ne_t1_la hp_cs hp_fm hp_hp hp_hn hp_d0 hp_d3 hp_hv) 0 (by decide) e1 i_Et rfl rfl ?_
  rintro v2 T2 h2 L2 s kw2 X2 N2 e2 ⟨ca2, kc2, rfl, K2, zf_ca2, o2_0, o2_1, o2_2, o2_3, o2_4, o2_5, o2_6, o2_7⟩ S2 Wk2 CR2 hZ hown
  have sz_ca2 := Nat.le_trans K0.1 zf_ca2
  have Kp21 := K0.trans K2 (own_al1 (Or.inl own_m0))
  rw [hPw]
  refine own_held S2 hh hZ hEL ?_
  exact own_rV X2 D Bd rfl e2 ⟨⟨N2, ca2, kc2, rfl, Kp21, sz_ca2, o2_0, o2_1, o2_2, o2_3, o2_4, o2_5, o2_6, o2_7⟩, Wk2, CR2⟩ (by decide)
abbrev own_rck_R : Room := { frames := 2, cells := 0, slots := 0, locals := 29 }
theorem own_pn51 : plainFor own_y33 = true := plainFor_of_name (by first | (simp [plainName, overriddenIn]; done) | decide +kernel)
theorem own_rck (hw : own_hw a0 Z) (i_SF : own_eS0 Z h0 fm) (i_Ac : own_aC Z h0 a1 k_1 (64 : Int32) M_1) (hp_fm : fm.isRef = true) (hp_d0 : ¬ (n1 < (0 : Int32))) (hp_d3 : n1.toNatClampNeg ≤ 3) :
    own_C l Z own_y33 jdk_42_method_5_code 3 (some (.object "java/lang/Void")) ws own_rck_R #[(.ref a1), (.int 0), (.int n1)] h0 (own_Q .null h0) := by
  refine own_go own_pn51 own_o51 #[.val (.ref a1), .val (.int 0), .val (.int n1)] (fun _ => rfl) fun p e s m below meth c s₁ Bd D hml hZ hown X0 e0 => ?_
  have hx := D.1
  refine own_r X0 D 3 rfl ?_
  refine own_via (own_len X0 hx hZ e0 i_Ac (own_dd D rfl)) ?_
  refine own_xP X0 D hZ hown hml (own_u hw 121 rfl) (own_K25 hw) (own_coc (i1 := (0 : Int32)) (n1 := (64 : Int32)) hw i_SF hp_fm (own_or64 hp_d0 hp_d3) (own_mn hp_d0 hp_d3)) 0 (by decide) e0 rfl rfl fun T1 X1 e1 => ?_
  refine own_r X1 D 2 rfl ?_
  exact own_retA X1 hx Bd.returns rfl rfl Bd.notSynchronized (own_dd D rfl) ⟨rfl, rfl, e1⟩ (by decide) (by decide)
abbrev own_ciU_R : Room := { frames := 5, cells := 2, slots := 9, locals := 74 }
theorem own_pn50 : plainFor own_y22 = true := plainFor_of_name (by first | (simp [plainName, overriddenIn]; done) | decide +kernel)
def own_ciU_q (Z : State) (a1 : Addr) (a2 : Addr) (n1 : Int32) (cs : Int32) (fm : Value) (u1 : Value) (u2 : Value) (k_1 : ClassId) (M_1 : List Int32) (r1 : Int32) (jj : Nat) (h0 : Heap) (v : Option Value) (h : Heap) : Prop := ∃ (x : Addr) (kx : ClassId), v = none ∧ Keep h0 h [a1] ∧ h0.size ≤ x ∧ Exa Z h a1 own_cS ∧ own_eF10 Z h a1 (.ref x) ∧ own_eF9 Z h a1 (.int 1) ∧ own_aB Z h x kx (n1 <<< ((1 : Int32) &&& 31)) (own_tbl M_1 n1.toNatClampNeg (0 : Int32) (List.replicate (n1 <<< ((1 : Int32) &&& 31)).toNatClampNeg (0 : Int32)))
theorem own_ciU (hw : own_hw a0 Z) (Z0 : n0 ≤ h0.size) (i_SC : own_eS1 Z h0 (.int cs)) (i_SF : own_eS0 Z h0 fm) (i_SA : own_eS2 Z h0 (.int 1)) (i_SH : own_eS3 Z h0 (.int 0)) (i_SL : own_eS4 Z h0 (.int 8)) (i_Es : Exa Z h0 a1 own_cS) (i_Fv : own_eF10 Z h0 a1 u1) (i_Fc : own_eF9 Z h0 a1 u2) (i_Ac : own_aC Z h0 a2 k_1 (64 : Int32) M_1) (g_a1 : n0 ≤ a1) (ne_a1_a2 : a1 ≠ a2) (hp_cs : ¬ (cs = (0 : Int32))) (hp_fm : fm.isRef = true) (hp_z : ¬ (n1 = (0 : Int32))) (hp_d0 : ¬ (n1 < (0 : Int32))) (hp_d3 : n1.toNatClampNeg ≤ 3) (hp_hf : own_cf M_1 n1 (64 : Int32) r1 jj (0 : Int32)) (hp_ht : own_tbo M_1 n1 (64 : Int32) (n1 <<< ((1 : Int32) &&& 31)) n1.toNatClampNeg (0 : Int32) (List.replicate (n1 <<< ((1 : Int32) &&& 31)).toNatClampNeg (0 : Int32))) (hp_rn : ¬ (r1 = n1)) (hp_j0 : ¬ ((r1 <<< ((1 : Int32) &&& 31)) < (0 : Int32))) (hp_j1 : (r1 <<< ((1 : Int32) &&& 31)) < (n1 <<< ((1 : Int32) &&& 31))) (hp_k0 : ¬ (((r1 <<< ((1 : Int32) &&& 31)) + (1 : Int32)) < (0 : Int32))) (hp_k1 : ((r1 <<< ((1 : Int32) &&& 31)) + (1 : Int32)) < (n1 <<< ((1 : Int32) &&& 31))) (hp_g : (255 : Int32) < (own_gc (own_get (own_tbl M_1 n1.toNatClampNeg (0 : Int32) (List.replicate (n1 <<< ((1 : Int32) &&& 31)).toNatClampNeg (0 : Int32))) (r1 <<< ((1 : Int32) &&& 31))) (own_get (own_tbl M_1 n1.toNatClampNeg (0 : Int32) (List.replicate (n1 <<< ((1 : Int32) &&& 31)).toNatClampNeg (0 : Int32))) ((r1 <<< ((1 : Int32) &&& 31)) + (1 : Int32))))) :
    own_C l Z own_y22 jdk_42_method_4_code 4 none ws own_ciU_R #[(.ref a1), (.ref a2), (.int 0), (.int n1)] h0 (own_W n0 (own_ciU_q Z a1 a2 n1 cs fm u1 u2 k_1 M_1 r1 jj h0)) := by
  refine own_goW own_pn50 own_o50 #[.val (.ref a1), .val (.ref a2), .val (.int 0), .val (.int n1)] (fun _ => rfl) fun p e s m below meth c s₁ Bd D hml hZ hown X0 e0 N0 => ?_
  have hx := D.1
  have K0 : Keep h0 h0 [a1] := Keep.refl h0 _
  refine own_r X0 D 7 rfl ?_
  refine own_xP X0 D hZ hown hml (own_u hw 233 rfl) (own_K56 hw) (own_rck hw i_SF i_Ac hp_fm hp_d0 hp_d3) 4 (by decide) e0 rfl rfl fun T1 X1 e1 => ?_
  refine own_xI X1 N0 D hZ hown hml (own_u hw 11 rfl) (own_K18 hw) (own_viU (m1 := (64 : Int32)) hw Z0 i_SC i_Es i_Fv i_Fc i_SA i_SH i_SL i_Ac g_a1 ne_a1_a2 hp_cs hp_z hp_d0 hp_d3 hp_hf hp_ht hp_rn hp_j0 hp_j1 hp_k0 hp_k1 hp_g) 0 (by decide) e1 rfl rfl ?_
  rintro v2 T2 h2 L2 X2 N2 e2 ⟨x2, kx2, rfl, K2, zf_x2, o2_0, o2_1, o2_2, o2_3⟩
  have sz_x2 := Nat.le_trans K0.1 zf_x2
  have Kp12 := K0.trans K2 (own_al1 (Or.inl own_m0))
  exact own_rV X2 D Bd rfl e2 ⟨N2, x2, kx2, rfl, Kp12, sz_x2, o2_0, o2_1, o2_2, o2_3⟩ (by decide)
abbrev own_ctB_R : Room := { frames := 6, cells := 3, slots := 13, locals := 90 }
def own_ctB_q (Z : State) (t1 : Addr) (cs : Int32) (fm : Value) (ca : Addr) (n1 : Int32) (k_1 : ClassId) (M_1 : List Int32) (r1 : Int32) (jj : Nat) (u1 : Value) (u2 : Value) (u4 : Value) (u5 : Value) (h0 : Heap) (v : Option Value) (h : Heap) : Prop := ∃ (x : Addr) (y : Addr) (ky : ClassId), v = some (.ref x) ∧ Keep h0 h [] ∧ h0.size ≤ x ∧ h0.size ≤ y ∧ Exa Z h x own_cS ∧ own_eF10 Z h x (.ref y) ∧ own_eF9 Z h x (.int 1) ∧ own_aB Z h y ky (n1 <<< ((1 : Int32) &&& 31)) (own_tbl M_1 n1.toNatClampNeg (0 : Int32) (List.replicate (n1 <<< ((1 : Int32) &&& 31)).toNatClampNeg (0 : Int32)))
theorem own_ctB (hw : own_hw a0 Z) (Z0 : n0 ≤ h0.size) (i_SC : own_eS1 Z h0 (.int cs)) (i_SF : own_eS0 Z h0 fm) (i_SA : own_eS2 Z h0 (.int 1)) (i_SH : own_eS3 Z h0 (.int 0)) (i_SL : own_eS4 Z h0 (.int 8)) (i_Et : Exa Z h0 t1 own_cT) (i_Tl : own_eF11 Z h0 t1 u1) (i_Ts : own_eF12 Z h0 t1 u4) (i_Tn : own_eF13 Z h0 t1 (.int n1)) (i_Tc : own_eF14 Z h0 t1 (.ref ca)) (i_Tp : own_eF15 Z h0 t1 u2) (i_Ta : own_eF16 Z h0 t1 u5) (i_Ach : own_aC Z h0 ca k_1 (64 : Int32) M_1) (hp_cs : ¬ (cs = (0 : Int32))) (hp_fm : fm.isRef = true) (hp_z : ¬ (n1 = (0 : Int32))) (hp_d0 : ¬ (n1 < (0 : Int32))) (hp_d3 : n1.toNatClampNeg ≤ 3) (hp_hf : own_cf M_1 n1 (64 : Int32) r1 jj (0 : Int32)) (hp_ht : own_tbo M_1 n1 (64 : Int32) (n1 <<< ((1 : Int32) &&& 31)) n1.toNatClampNeg (0 : Int32) (List.replicate (n1 <<< ((1 : Int32) &&& 31)).toNatClampNeg (0 : Int32))) (hp_rn : ¬ (r1 = n1)) (hp_j0 : ¬ ((r1 <<< ((1 : Int32) &&& 31)) < (0 : Int32))) (hp_j1 : (r1 <<< ((1 : Int32) &&& 31)) < (n1 <<< ((1 : Int32) &&& 31))) (hp_k0 : ¬ (((r1 <<< ((1 : Int32) &&& 31)) + (1 : Int32)) < (0 : Int32))) (hp_k1 : ((r1 <<< ((1 : Int32) &&& 31)) + (1 : Int32)) < (n1 <<< ((1 : Int32) &&& 31))) (hp_g : (255 : Int32) < (own_gc (own_get (own_tbl M_1 n1.toNatClampNeg (0 : Int32) (List.replicate (n1 <<< ((1 : Int32) &&& 31)).toNatClampNeg (0 : Int32))) (r1 <<< ((1 : Int32) &&& 31))) (own_get (own_tbl M_1 n1.toNatClampNeg (0 : Int32) (List.replicate (n1 <<< ((1 : Int32) &&& 31)).toNatClampNeg (0 : Int32))) ((r1 <<< ((1 : Int32) &&& 31)) + (1 : Int32))))) :
    own_C l Z own_y8 prog_37_method_25_code 1 (some (.object "java/lang/String")) ws own_ctB_R #[(.ref t1)] h0 (own_W n0 (own_ctB_q Z t1 cs fm ca n1 k_1 M_1 r1 jj u1 u2 u4 u5 h0)) := by
  refine own_goW own_pn49 own_o49 #[.val (.ref t1)] (fun _ => rfl) fun p e s m below meth c s₁ Bd D hml hZ hown X0 e0 N0 => ?_
  have hx := D.1
  have K0 : Keep h0 h0 [] := Keep.refl h0 _
  refine own_r X0 D 1 rfl ?_
  refine own_gF X0 D hZ hown (own_u hw 72 rfl) Via.refl e0 i_Tc rfl fun T1 X1 e1 => ?_
  refine own_oY X1 D rfl ?_
  refine own_newOk X1 hx hZ hown (own_u hw 190 rfl) (own_u hw 5 rfl) (own_u hw 6 rfl) e1 (own_dd D rfl) (by decide) (by decide) fun T2 h2 b2 X2 e2 E2 ga2 A2 D2 => ?_
  have sz_b2 := own_ge K0.1 ga2
  have ne4 := own_ne1 i_Ach.lt ga2
  have f5 := i_SC.ext E2
  have f6 := i_SF.ext E2
  have f7 := i_SA.ext E2
  have f8 := i_SH.ext E2
  have f9 := i_SL.ext E2
  have f13 := i_Tn.ext E2
  have f14 := i_Tc.ext E2
  have f17 := i_Ach.ext E2
  have Kp18 := K0.ext E2
  have f19 : own_eF9 Z h2 b2 (.int 0) := D2 (Or.inr (own_u hw 31 rfl)) (ty := .byte) (by decide)
  have f20 : own_eF10 Z h2 b2 .null := D2 (Or.inr (own_u hw 33 rfl)) (ty := (.array .byte)) (by decide)
  have g_b2 := own_ge Z0 ga2
  have Zs21 := Nat.le_trans Z0 E2.1
  refine own_r X2 D 2 rfl ?_
  refine own_gF X2 D hZ hown (own_u hw 72 rfl) Via.refl e2 f14 rfl fun T22 X22 e22 => ?_
  refine own_r X22 D 2 rfl ?_
  refine own_gF X22 D hZ hown (own_u hw 50 rfl) Via.refl e22 f13 rfl fun T23 X23 e23 => ?_
  refine own_xI X23 N0 D hZ hown hml (own_u hw 230 rfl) (own_K57 hw) (own_ciU (u1 := (.null)) (u2 := (.int 0)) hw Zs21 f5 f6 f7 f8 f9 A2 f20 f19 f17 g_b2 (Ne.symm ne4) hp_cs hp_fm hp_z hp_d0 hp_d3 hp_hf hp_ht hp_rn hp_j0 hp_j1 hp_k0 hp_k1 hp_g) 1 (by decide) e23 rfl rfl ?_
  rintro v24 T24 h24 L24 X24 N24 e24 ⟨x24, kx24, rfl, K24, zf_x24, o24_0, o24_1, o24_2, o24_3⟩
  have sz_x24 := Nat.le_trans Kp18.1 zf_x24
  have Kp42 := Kp18.trans K24 (own_al1 (Or.inr sz_b2))
  exact own_rA X24 D Bd rfl rfl rfl e24 ⟨N24, b2, x24, kx24, rfl, Kp42, sz_b2, sz_x24, o24_0, o24_1, o24_2, o24_3⟩ (by decide)
abbrev own_saU_R : Room := { frames := 5, cells := 2, slots := 13, locals := 69 }
def own_saU_q (Z : State) (t1 : Addr) (a2 : Addr) (cs : Int32) (de : Addr) (kd : ClassId) (m1 : Int32) (q1 : Int64) (u1 : Value) (u2 : Value) (u3 : Value) (n1 : Int32) (b_1 : Addr) (k_1 : ClassId) (L_1 : List Int32) (h0 : Heap) (v : Option Value) (h : Heap) : Prop := ∃ (li : Addr) (x : Addr) (kx : ClassId), v = none ∧ Keep h0 h [t1] ∧ h0.size ≤ li ∧ h0.size ≤ x ∧ li ≠ x ∧ Ovr Z kx "java/lang/Object" ∧ Exa Z h t1 own_cT ∧ own_eF11 Z h t1 u3 ∧ own_eF12 Z h t1 (.long (q1 + (n1.toInt64))) ∧ own_eF13 Z h t1 (.int m1) ∧ own_eF14 Z h t1 u1 ∧ own_eF15 Z h t1 u2 ∧ own_eF16 Z h t1 (.ref li) ∧ Exa Z h li own_cA ∧ own_eF17 Z h li (.int ((0 : Int32) + (1 : Int32))) ∧ own_eF18 Z h li (.ref x) ∧ own_eF19 Z h li (.int 1) ∧ Arv Z h x kx (.object "java/lang/Object") (10 : Int32) [(.ref a2), .null] .null
theorem own_saU (hw : own_hw a0 Z) (Z0 : n0 ≤ h0.size) (i_SC : own_eS1 Z h0 (.int cs)) (i_SD : own_eS7 Z h0 (.ref de)) (i_Ad : Arv Z h0 de kd (.object "java/lang/Object") (0 : Int32) [] .null) (i_Et : Exa Z h0 t1 own_cT) (i_Tl : own_eF11 Z h0 t1 u3) (i_Ts : own_eF12 Z h0 t1 (.long q1)) (i_Tn : own_eF13 Z h0 t1 (.int m1)) (i_Tc : own_eF14 Z h0 t1 u1) (i_Tp : own_eF15 Z h0 t1 u2) (i_Ta : own_eF16 Z h0 t1 .null) (i_Es : Exa Z h0 a2 own_cS) (i_Fv : own_eF10 Z h0 a2 (.ref b_1)) (i_Fc : own_eF9 Z h0 a2 (.int 1)) (i_Ab : own_aB Z h0 b_1 k_1 (n1 <<< ((1 : Int32) &&& 31)) L_1) (g_t1 : n0 ≤ t1) (ne_t1_a2 : t1 ≠ a2) (ne_t1_b_1 : t1 ≠ b_1) (ne_t1_de : t1 ≠ de) (ne_a2_de : a2 ≠ de) (hp_cs : ¬ (cs = (0 : Int32))) (hp_q : ¬ ((2147483639 : Int64) < (q1 + (n1.toInt64)))) (hp_d0 : ¬ (n1 < (0 : Int32))) (hp_d3 : n1.toNatClampNeg ≤ 3) :
    own_C l Z own_y13 prog_37_method_23_code 2 none ws own_saU_R #[(.ref t1), (.ref a2)] h0 (own_W n0 (own_saU_q Z t1 a2 cs de kd m1 q1 u1 u2 u3 n1 b_1 k_1 L_1 h0)) := by
  refine own_goW own_pn52 own_o52 #[.val (.ref t1), .val (.ref a2)] (fun _ => rfl) fun p e s m below meth c s₁ Bd D hml hZ hown X0 e0 N0 => ?_
  have hx := D.1
  have K0 : Keep h0 h0 [t1] := Keep.refl h0 _
  refine own_r X0 D 2 rfl ?_
  refine own_xVP X0 D hZ hown hml (own_u hw 57 rfl) (own_K26 hw) (own_len1 hw i_SC i_Es i_Fv i_Fc i_Ab hp_cs hp_d0 hp_d3) 1 (by decide) e0 i_Es rfl rfl fun T1 X1 e1 => ?_
  refine own_xR X1 N0 D hZ hown hml (own_u hw 240 rfl) (own_K40 hw) (own_ckl hw Z0 i_Ts hp_q) 0 (by decide) e1 i_Et rfl rfl ?_
  rintro v2 T2 h2 L2 X2 N2 e2 ⟨rfl, K2⟩
  have f3 := i_SC.ext (own_ke K2)
  have f4 := i_SD.ext (own_ke K2)
  have f5 := i_Ad.ext (own_ke K2)
  have f6 := i_Et.ext (own_ke K2)
  have f7 := i_Tl.ext (own_ke K2)
  have f8 := i_Ts.ext (own_ke K2)
  have f9 := i_Tn.ext (own_ke K2)
  have f10 := i_Tc.ext (own_ke K2)
  have f11 := i_Tp.ext (own_ke K2)
  have f12 := i_Ta.ext (own_ke K2)
  have f13 := i_Es.ext (own_ke K2)
  have f14 := i_Fv.ext (own_ke K2)
  have f15 := i_Fc.ext (own_ke K2)
  have f16 := i_Ab.ext (own_ke K2)
  have Kp17 := K0.trans K2 (fun x hx => nomatch hx)
  have Zs18 := Nat.le_trans Z0 K2.1
  refine own_r X2 D 1 rfl ?_
  refine own_gF X2 D hZ hown (own_u hw 245 rfl) Via.refl e2 f12 rfl fun T19 X19 e19 => ?_
  refine own_oN X19 D rfl ?_
  refine own_r X19 D 1 rfl ?_
  refine own_newOk X19 hx hZ hown (own_u hw 247 rfl) (own_u hw 248 rfl) (own_u hw 249 rfl) e19 (own_dd D rfl) (by decide) (by decide) fun T20 h20 b20 X20 e20 E20 ga20 A20 D20 => ?_
  have sz_b20 := own_ge Kp17.1 ga20
  have ne21 := own_ne1 f5.lt ga20
  have ne22 := own_ne1 f6.lt ga20
  have ne23 := own_ne1 f13.lt ga20
  have ne24 := own_ne1 f16.lt ga20
  have f25 := f3.ext E20
  have f26 := f4.ext E20
  have f27 := f5.ext E20
  have f28 := f6.ext E20
  have f29 := f7.ext E20
  have f30 := f8.ext E20
  have f31 := f9.ext E20
  have f32 := f10.ext E20
  have f33 := f11.ext E20
  have f34 := f12.ext E20
  have f35 := f13.ext E20
  have f36 := f14.ext E20
  have f37 := f15.ext E20
  have f38 := f16.ext E20
  have Kp39 := Kp17.ext E20
  have f40 : own_eF17 Z h20 b20 (.int 0) := D20 (Or.inl (own_u hw 267 rfl)) (ty := .int) (by decide)
  have f41 : own_eF18 Z h20 b20 .null := D20 (Or.inl (own_u hw 270 rfl)) (ty := (.array (.object "java/lang/Object"))) (by decide)
  have f42 : own_eF19 Z h20 b20 (.int 0) := D20 (Or.inl (own_u hw 283 rfl)) (ty := .int) (by decide)
  have g_b20 := own_ge Zs18 ga20
  have Zs43 := Nat.le_trans Zs18 E20.1
  refine own_r X20 D 1 rfl ?_
  refine own_xI X20 N2 D hZ hown hml (own_u hw 250 rfl) (own_K41 hw) (own_afi (u1 := (.int 0)) (u2 := (.null)) hw Zs43 f26 A20 f40 f41 f42 g_b20) 2 (by decide) e20 rfl rfl ?_
  rintro v44 T44 h44 L44 X44 N44 e44 ⟨rfl, K44, o44_0, o44_1, o44_2, o44_3⟩
  have f45 := own_staK f25 K44 (own_al1 A20.nostat)
  have f46 := own_staK f26 K44 (own_al1 A20.nostat)
  have f47 := f27.keep K44 (own_nm1 ne21)
  have f48 := f28.keep K44
  have f49 := f29.keep K44 (own_nm1 ne22)
  have f50 := f30.keep K44 (own_nm1 ne22)
  have f51 := f31.keep K44 (own_nm1 ne22)
  have f52 := f32.keep K44 (own_nm1 ne22)
  have f53 := f33.keep K44 (own_nm1 ne22)
  have f54 := f34.keep K44 (own_nm1 ne22)
  have f55 := f35.keep K44
  have f56 := f36.keep K44 (own_nm1 ne23)
  have f57 := f37.keep K44 (own_nm1 ne23)
  have f58 := f38.keep K44 (own_nm1 ne24)
  have Kp60 := Kp39.trans K44 (own_al1 (Or.inr sz_b20))
  have Zs61 := Nat.le_trans Zs43 K44.1
  refine own_putFk X44 N44 hx hZ hown (own_u hw 245 rfl) e44 f54 f48 (Or.inl (own_u hw 246 rfl)) (own_u hw 35 rfl) g_t1 (ty := (.object "java/util/List")) (by decide) rfl rfl (own_dd D rfl) fun T62 h62 L62 X62 N62 e62 W62 F62 => ?_
  have f63 := f45.wr W62
  have f64 := f46.wr W62
  have f65 := f47.other W62 (Ne.symm ne_t1_de)
  have f66 := f48.wr W62
  have f67 := f49.other W62 (Or.inr (slot_ne (Or.inl (own_u hw 42 rfl)) (Or.inl (own_u hw 246 rfl)) (by decide) rfl rfl))
  have f68 := f50.other W62 (Or.inr (slot_ne (Or.inl (own_u hw 49 rfl)) (Or.inl (own_u hw 246 rfl)) (by decide) rfl rfl))
  have f69 := f51.other W62 (Or.inr (slot_ne (Or.inl (own_u hw 51 rfl)) (Or.inl (own_u hw 246 rfl)) (by decide) rfl rfl))
  have f70 := f52.other W62 (Or.inr (slot_ne (Or.inl (own_u hw 73 rfl)) (Or.inl (own_u hw 246 rfl)) (by decide) rfl rfl))
  have f71 := f53.other W62 (Or.inr (slot_ne (Or.inl (own_u hw 189 rfl)) (Or.inl (own_u hw 246 rfl)) (by decide) rfl rfl))
  have f72 := f55.wr W62
  have f73 := f56.other W62 (Or.inl (Ne.symm ne_t1_a2))
  have f74 := f57.other W62 (Or.inl (Ne.symm ne_t1_a2))
  have f75 := f58.other W62 (Ne.symm ne_t1_b_1)
  have f76 := o44_0.wr W62
  have f77 := o44_1.other W62 (Or.inl (Ne.symm ne22))
  have f78 := o44_2.other W62 (Or.inl (Ne.symm ne22))
  have f79 := o44_3.other W62 (Or.inl (Ne.symm ne22))
  have Kp80 := Kp60.wr W62 (Or.inl own_m0)
  have Zs81 : n0 ≤ h62.size := by rw [W62.size]; exact Zs61
  refine own_r X62 D 1 rfl ?_
  refine own_gF X62 D hZ hown (own_u hw 245 rfl) Via.refl e62 F62 rfl fun T82 X82 e82 => ?_
  refine own_r X82 D 1 rfl ?_
  obtain ⟨v83, T83, h83, L83, X83, N83, e83, hq83, st83⟩ := own_callF (y := own_y62) (z := own_y55) (W := 0) (a := b20) X82 N62 hx hZ hown (own_u hw 271 rfl) (own_u hw 272 rfl) (own_u hw 273 rfl) (by first | rfl | simp [Cond.onTables, Cond.keepsFace, Cond.keeps, Cond.steady]) (own_u hw 274 rfl) (own_u hw 275 rfl) (own_u hw 276 rfl) (own_u hw 277 rfl) (own_u hw 278 rfl) (own_u hw 249 rfl) (own_u hw 279 rfl) (by decide) (own_ad1_0 (mc := (0 : Int32)) hw Zs81 f76 f77 f78 f79 f64 f65 f72 g_b20 (Ne.symm ne21) (Ne.symm ne23) ne_a2_de) (by decide) (by decide) (by decide) (by decide) e82 f76 (pc := 31) (Ls := #[.val (.ref t1), .val (.ref a2)]) (st := [(.ref a2), (.ref b20)]) (argsL := [(.ref a2)]) (rest := []) (by rw [hml]; rfl) (lenOf own_pd33 rfl) rfl rfl (Nat.le_of_eq rfl) (own_dd D rfl)
  obtain ⟨x83, kx83, rfl, K83, zf_x83, xp83_0, o83_0, o83_1, o83_2, o83_3, o83_4⟩ := hq83
  refine own_via st83 ?_
  have ne85 := own_ne2 f66.lt zf_x83
  have ne88 := own_ne2 f76.lt zf_x83
  have sz_x83 := Nat.le_trans Kp80.1 zf_x83
  have f89 := own_staK f63 K83 (own_al1 f76.nostat)
  have f92 := f66.keep K83
  have f93 := f67.keep K83 (own_nm1 ne22)
  have f94 := f68.keep K83 (own_nm1 ne22)
  have f95 := f69.keep K83 (own_nm1 ne22)
  have f96 := f70.keep K83 (own_nm1 ne22)
  have f97 := f71.keep K83 (own_nm1 ne22)
  have f98 := f72.keep K83
  have f99 := f73.keep K83 (own_nm1 ne23)
  have f100 := f74.keep K83 (own_nm1 ne23)
  have f101 := f75.keep K83 (own_nm1 ne24)
  have f103 := F62.keep K83 (own_nm1 ne22)
  have Kp104 := Kp80.trans K83 (own_al1 (Or.inr sz_b20))
  refine own_r X83 D 3 rfl ?_
  refine own_gF X83 D hZ hown (own_u hw 48 rfl) Via.refl e83 f94 rfl fun T106 X106 e106 => ?_
  refine own_r X106 D 1 rfl ?_
  refine own_xVP X106 D hZ hown hml (own_u hw 57 rfl) (own_K26 hw) (own_len1 hw f89 f98 f99 f100 f101 hp_cs hp_d0 hp_d3) 3 (by decide) e106 f98 rfl rfl fun T107 X107 e107 => ?_
  refine own_via (fun t k => XS.i2l X107.here hx rfl (own_dd D rfl) rfl k) ?_
  show own_H T107 47 #[.val (.ref t1), .val (.ref a2)] [(.long (n1.toInt64)), (.long q1), (.ref t1)]
  refine own_via (fun t k => XS.ladd X107.here hx rfl (own_dd D rfl) rfl k) ?_
  show own_H T107 48 #[.val (.ref t1), .val (.ref a2)] [(.long (q1 + (n1.toInt64))), (.ref t1)]
  refine own_putFk X107 N83 hx hZ hown (own_u hw 48 rfl) e107 f94 f92 (Or.inl (own_u hw 49 rfl)) (own_u hw 35 rfl) g_t1 (ty := .long) (by decide) rfl rfl (own_dd D rfl) fun T108 h108 L108 X108 N108 e108 W108 F108 => ?_
  have f112 := f92.wr W108
  have f113 := f93.other W108 (Or.inr (slot_ne (Or.inl (own_u hw 42 rfl)) (Or.inl (own_u hw 49 rfl)) (by decide) rfl rfl))
  have f114 := f95.other W108 (Or.inr (slot_ne (Or.inl (own_u hw 51 rfl)) (Or.inl (own_u hw 49 rfl)) (by decide) rfl rfl))
  have f115 := f96.other W108 (Or.inr (slot_ne (Or.inl (own_u hw 73 rfl)) (Or.inl (own_u hw 49 rfl)) (by decide) rfl rfl))
  have f116 := f97.other W108 (Or.inr (slot_ne (Or.inl (own_u hw 189 rfl)) (Or.inl (own_u hw 49 rfl)) (by decide) rfl rfl))
  have f121 := o83_0.wr W108
  have f122 := f103.other W108 (Or.inr (slot_ne (Or.inl (own_u hw 246 rfl)) (Or.inl (own_u hw 49 rfl)) (by decide) rfl rfl))
  have f123 := o83_1.other W108 (Or.inl (Ne.symm ne22))
  have f124 := o83_2.other W108 (Or.inl (Ne.symm ne22))
  have f125 := o83_3.other W108 (Or.inl (Ne.symm ne22))
  have f126 := o83_4.other W108 (Ne.symm ne85)
  have Kp127 := Kp104.wr W108 (Or.inl own_m0)
  exact own_rV X108 D Bd rfl e108 ⟨N108, b20, x83, kx83, rfl, Kp127, sz_b20, sz_x83, ne88, xp83_0, f112, f113, F108, f114, f115, f116, f122, f121, f123, f124, f125, f126⟩ (by decide)
abbrev own_scB_R : Room := { frames := 7, cells := 5, slots := 26, locals := 103 }
def own_scB_q (Z : State) (t1 : Addr) (cs : Int32) (fm : Value) (ca : Addr) (n1 : Int32) (k_1 : ClassId) (M_1 : List Int32) (r1 : Int32) (jj : Nat) (u1 : Value) (de : Addr) (kd : ClassId) (h0 : Heap) (v : Option Value) (h : Heap) : Prop := ∃ (li : Addr) (x : Addr) (kx : ClassId) (v0 : Value), v = none ∧ Keep h0 h [t1] ∧ h0.size ≤ li ∧ h0.size ≤ x ∧ li ≠ x ∧ Ovr Z kx "java/lang/Object" ∧ Exa Z h t1 own_cT ∧ own_eF11 Z h t1 u1 ∧ own_eF12 Z h t1 (.long ((0 : Int64) + (n1.toInt64))) ∧ own_eF13 Z h t1 (.int 0) ∧ own_eF14 Z h t1 .null ∧ own_eF15 Z h t1 (.ref ca) ∧ own_eF16 Z h t1 (.ref li) ∧ Exa Z h li own_cA ∧ own_eF17 Z h li (.int ((0 : Int32) + (1 : Int32))) ∧ own_eF18 Z h li (.ref x) ∧ own_eF19 Z h li (.int 1) ∧ Arv Z h x kx (.object "java/lang/Object") (10 : Int32) [v0, .null] .null
theorem own_scB (hw : own_hw a0 Z) (Z0 : n0 ≤ h0.size) (i_SC : own_eS1 Z h0 (.int cs)) (i_SF : own_eS0 Z h0 fm) (i_SA : own_eS2 Z h0 (.int 1)) (i_SH : own_eS3 Z h0 (.int 0)) (i_SL : own_eS4 Z h0 (.int 8)) (i_SD : own_eS7 Z h0 (.ref de)) (i_Ad : Arv Z h0 de kd (.object "java/lang/Object") (0 : Int32) [] .null) (i_Et : Exa Z h0 t1 own_cT) (i_Tl : own_eF11 Z h0 t1 u1) (i_Ts : own_eF12 Z h0 t1 (.long (0 : Int64))) (i_Tn : own_eF13 Z h0 t1 (.int n1)) (i_Tc : own_eF14 Z h0 t1 (.ref ca)) (i_Tp : own_eF15 Z h0 t1 .null) (i_Ta : own_eF16 Z h0 t1 .null) (i_Ach : own_aC Z h0 ca k_1 (64 : Int32) M_1) (g_t1 : n0 ≤ t1) (ne_t1_de : t1 ≠ de) (ne_t1_ca : t1 ≠ ca) (hp_cs : ¬ (cs = (0 : Int32))) (hp_fm : fm.isRef = true) (hp_z : ¬ (n1 = (0 : Int32))) (hp_pos : (0 : Int32) < n1) (hp_d0 : ¬ (n1 < (0 : Int32))) (hp_d3 : n1.toNatClampNeg ≤ 3) (hp_hf : own_cf M_1 n1 (64 : Int32) r1 jj (0 : Int32)) (hp_ht : own_tbo M_1 n1 (64 : Int32) (n1 <<< ((1 : Int32) &&& 31)) n1.toNatClampNeg (0 : Int32) (List.replicate (n1 <<< ((1 : Int32) &&& 31)).toNatClampNeg (0 : Int32))) (hp_rn : ¬ (r1 = n1)) (hp_j0 : ¬ ((r1 <<< ((1 : Int32) &&& 31)) < (0 : Int32))) (hp_j1 : (r1 <<< ((1 : Int32) &&& 31)) < (n1 <<< ((1 : Int32) &&& 31))) (hp_k0 : ¬ (((r1 <<< ((1 : Int32) &&& 31)) + (1 : Int32)) < (0 : Int32))) (hp_k1 : ((r1 <<< ((1 : Int32) &&& 31)) + (1 : Int32)) < (n1 <<< ((1 : Int32) &&& 31))) (hp_g : (255 : Int32) < (own_gc (own_get (own_tbl M_1 n1.toNatClampNeg (0 : Int32) (List.replicate (n1 <<< ((1 : Int32) &&& 31)).toNatClampNeg (0 : Int32))) (r1 <<< ((1 : Int32) &&& 31))) (own_get (own_tbl M_1 n1.toNatClampNeg (0 : Int32) (List.replicate (n1 <<< ((1 : Int32) &&& 31)).toNatClampNeg (0 : Int32))) ((r1 <<< ((1 : Int32) &&& 31)) + (1 : Int32))))) :
    own_C l Z own_y14 prog_37_method_22_code 1 none ws own_scB_R #[(.ref t1)] h0 (own_W n0 (own_scB_q Z t1 cs fm ca n1 k_1 M_1 r1 jj u1 de kd h0)) := by
  refine own_goW own_pn48 own_o48 #[.val (.ref t1)] (fun _ => rfl) fun p e s m below meth c s₁ Bd D hml hZ hown X0 e0 N0 => ?_
  have hx := D.1
  have K0 : Keep h0 h0 [t1] := Keep.refl h0 _
  refine own_r X0 D 1 rfl ?_
  refine own_gF X0 D hZ hown (own_u hw 50 rfl) Via.refl e0 i_Tn rfl fun T1 X1 e1 => ?_
  refine own_fN X1 D rfl (tlt hp_pos).2.2.2 ?_
  refine own_r X1 D 2 rfl ?_
  refine own_xR X1 N0 D hZ hown hml (own_u hw 226 rfl) (own_K43 hw) (own_ctB (u2 := (.null)) (u4 := (.long (0 : Int64))) (u5 := (.null)) hw Z0 i_SC i_SF i_SA i_SH i_SL i_Et i_Tl i_Ts i_Tn i_Tc i_Tp i_Ta i_Ach hp_cs hp_fm hp_z hp_d0 hp_d3 hp_hf hp_ht hp_rn hp_j0 hp_j1 hp_k0 hp_k1 hp_g) 1 (by decide) e1 i_Et rfl rfl ?_
  rintro v2 T2 h2 L2 X2 N2 e2 ⟨x2, y2, ky2, rfl, K2, zf_x2, zf_y2, o2_0, o2_1, o2_2, o2_3⟩
  have ne3 := own_ne2 i_Ad.lt zf_x2
  have ne4 := own_ne2 i_Et.lt zf_x2
  have ne7 := own_ne2 i_Et.lt zf_y2
  have f9 := i_SC.ext (own_ke K2)
  have f14 := i_SD.ext (own_ke K2)
  have f15 := i_Ad.ext (own_ke K2)
  have f16 := i_Et.ext (own_ke K2)
  have f17 := i_Tl.ext (own_ke K2)
  have f18 := i_Ts.ext (own_ke K2)
  have f19 := i_Tn.ext (own_ke K2)
  have f20 := i_Tc.ext (own_ke K2)
  have f21 := i_Tp.ext (own_ke K2)
  have f22 := i_Ta.ext (own_ke K2)
  have Kp24 := K0.trans K2 (fun x hx => nomatch hx)
  have Zs25 := Nat.le_trans Z0 K2.1
  refine own_xR X2 N2 D hZ hown hml (own_u hw 236 rfl) (own_K44 hw) (own_saU (q1 := (0 : Int64)) (u1 := (.ref ca)) (u2 := (.null)) (L_1 := (own_tbl M_1 n1.toNatClampNeg (0 : Int32) (List.replicate (n1 <<< ((1 : Int32) &&& 31)).toNatClampNeg (0 : Int32)))) hw Zs25 f9 f14 f15 f16 f17 f18 f19 f20 f21 f22 o2_0 o2_1 o2_2 o2_3 g_t1 ne4 ne7 ne_t1_de (Ne.symm ne3) hp_cs (own_ql3 hp_d0 hp_d3) hp_d0 hp_d3) 0 (by decide) e2 f16 rfl rfl ?_
  rintro v26 T26 h26 L26 X26 N26 e26 ⟨li26, x26, kx26, rfl, K26, zf_li26, zf_x26, xn26_0, xp26_0, o26_0, o26_1, o26_2, o26_3, o26_4, o26_5, o26_6, o26_7, o26_8, o26_9, o26_10, o26_11⟩
  have ne28 := own_ne2 f16.lt zf_li26
  have sz_li26 := Nat.le_trans Kp24.1 zf_li26
  have ne33 := own_ne2 f16.lt zf_x26
  have sz_x26 := Nat.le_trans Kp24.1 zf_x26
  have Kp50 := Kp24.trans K26 (own_al1 (Or.inl own_m0))
  refine own_r X26 D 2 rfl ?_
  refine own_putFk X26 N26 hx hZ hown (own_u hw 50 rfl) e26 o26_3 o26_0 (Or.inl (own_u hw 51 rfl)) (own_u hw 35 rfl) g_t1 (ty := .int) (by decide) rfl rfl (own_dd D rfl) fun T52 h52 L52 X52 N52 e52 W52 F52 => ?_
  have f60 := o26_0.wr W52
  have f66 := o26_1.other W52 (Or.inr (slot_ne (Or.inl (own_u hw 42 rfl)) (Or.inl (own_u hw 51 rfl)) (by decide) rfl rfl))
  have f67 := o26_2.other W52 (Or.inr (slot_ne (Or.inl (own_u hw 49 rfl)) (Or.inl (own_u hw 51 rfl)) (by decide) rfl rfl))
  have f68 := o26_4.other W52 (Or.inr (slot_ne (Or.inl (own_u hw 73 rfl)) (Or.inl (own_u hw 51 rfl)) (by decide) rfl rfl))
  have f69 := o26_5.other W52 (Or.inr (slot_ne (Or.inl (own_u hw 189 rfl)) (Or.inl (own_u hw 51 rfl)) (by decide) rfl rfl))
  have f70 := o26_6.other W52 (Or.inr (slot_ne (Or.inl (own_u hw 246 rfl)) (Or.inl (own_u hw 51 rfl)) (by decide) rfl rfl))
  have f71 := o26_7.wr W52
  have f72 := o26_8.other W52 (Or.inl (Ne.symm ne28))
  have f73 := o26_9.other W52 (Or.inl (Ne.symm ne28))
  have f74 := o26_10.other W52 (Or.inl (Ne.symm ne28))
  have f75 := o26_11.other W52 (Ne.symm ne33)
  have Kp76 := Kp50.wr W52 (Or.inl own_m0)
  refine own_r X52 D 1 rfl ?_
  refine own_gF X52 D hZ hown (own_u hw 72 rfl) Via.refl e52 f68 rfl fun T78 X78 e78 => ?_
  refine own_nN X78 D rfl ?_
  refine own_r X78 D 2 rfl ?_
  refine own_gF X78 D hZ hown (own_u hw 72 rfl) Via.refl e78 f68 rfl fun T79 X79 e79 => ?_
  refine own_putFk X79 N52 hx hZ hown (own_u hw 188 rfl) e79 f69 f60 (Or.inl (own_u hw 189 rfl)) (own_u hw 35 rfl) g_t1 (ty := (.array .char)) (by decide) rfl rfl (own_dd D rfl) fun T80 h80 L80 X80 N80 e80 W80 F80 => ?_
  have f88 := f60.wr W80
  have f94 := f66.other W80 (Or.inr (slot_ne (Or.inl (own_u hw 42 rfl)) (Or.inl (own_u hw 189 rfl)) (by decide) rfl rfl))
  have f95 := f67.other W80 (Or.inr (slot_ne (Or.inl (own_u hw 49 rfl)) (Or.inl (own_u hw 189 rfl)) (by decide) rfl rfl))
  have f96 := f68.other W80 (Or.inr (slot_ne (Or.inl (own_u hw 73 rfl)) (Or.inl (own_u hw 189 rfl)) (by decide) rfl rfl))
  have f97 := f70.other W80 (Or.inr (slot_ne (Or.inl (own_u hw 246 rfl)) (Or.inl (own_u hw 189 rfl)) (by decide) rfl rfl))
  have f98 := f71.wr W80
  have f99 := f72.other W80 (Or.inl (Ne.symm ne28))
  have f100 := f73.other W80 (Or.inl (Ne.symm ne28))
  have f101 := f74.other W80 (Or.inl (Ne.symm ne28))
  have f102 := f75.other W80 (Ne.symm ne33)
  have f103 := F52.other W80 (Or.inr (slot_ne (Or.inl (own_u hw 51 rfl)) (Or.inl (own_u hw 189 rfl)) (by decide) rfl rfl))
  have Kp104 := Kp76.wr W80 (Or.inl own_m0)
  refine own_r X80 D 2 rfl ?_
  refine own_putFk X80 N80 hx hZ hown (own_u hw 72 rfl) e80 f96 f88 (Or.inl (own_u hw 73 rfl)) (own_u hw 35 rfl) g_t1 (ty := (.array .char)) (by decide) rfl rfl (own_dd D rfl) fun T106 h106 L106 X106 N106 e106 W106 F106 => ?_
  have f114 := f88.wr W106
  have f120 := f94.other W106 (Or.inr (slot_ne (Or.inl (own_u hw 42 rfl)) (Or.inl (own_u hw 73 rfl)) (by decide) rfl rfl))
  have f121 := f95.other W106 (Or.inr (slot_ne (Or.inl (own_u hw 49 rfl)) (Or.inl (own_u hw 73 rfl)) (by decide) rfl rfl))
  have f122 := f97.other W106 (Or.inr (slot_ne (Or.inl (own_u hw 246 rfl)) (Or.inl (own_u hw 73 rfl)) (by decide) rfl rfl))
  have f123 := f98.wr W106
  have f124 := f99.other W106 (Or.inl (Ne.symm ne28))
  have f125 := f100.other W106 (Or.inl (Ne.symm ne28))
  have f126 := f101.other W106 (Or.inl (Ne.symm ne28))
  have f127 := f102.other W106 (Ne.symm ne33)
  have f128 := f103.other W106 (Or.inr (slot_ne (Or.inl (own_u hw 51 rfl)) (Or.inl (own_u hw 73 rfl)) (by decide) rfl rfl))
  have f129 := F80.other W106 (Or.inr (slot_ne (Or.inl (own_u hw 189 rfl)) (Or.inl (own_u hw 73 rfl)) (by decide) rfl rfl))
  have Kp130 := Kp104.wr W106 (Or.inl own_m0)
  exact own_rV X106 D Bd rfl e106 ⟨N106, li26, x26, kx26, (.ref x2), rfl, Kp130, sz_li26, sz_x26, xn26_0, xp26_0, f114, f120, f121, f128, F106, f129, f122, f123, f124, f125, f126, f127⟩ (by decide)
abbrev own_kmBB_R : Room := { frames := 8, cells := 5, slots := 26, locals := 115 }
def own_kmBB_q (Z : State) (t1 : Addr) (a2 : Addr) (m1 : Int32) (cs : Int32) (fm : Value) (ca : Addr) (n1 : Int32) (k_1 : ClassId) (M_1 : List Int32) (r1 : Int32) (jj : Nat) (u1 : Value) (de : Addr) (kd : ClassId) (b_1 : Addr) (k_2 : ClassId) (L_1 : List Int32) (h0 : Heap) (v : Option Value) (h : Heap) : Prop := ∃ (li : Addr), v = none ∧ Keep h0 h [t1] ∧ Exa Z h t1 own_cT ∧ own_eF11 Z h t1 u1 ∧ own_eF12 Z h t1 (.long (((0 : Int64) + (n1.toInt64)) + (m1.toInt64))) ∧ own_eF13 Z h t1 (.int 0) ∧ own_eF14 Z h t1 .null ∧ own_eF15 Z h t1 (.ref ca) ∧ own_eF16 Z h t1 (.ref li)
theorem own_kmBB (hw : own_hw a0 Z) (Z0 : n0 ≤ h0.size) (i_SC : own_eS1 Z h0 (.int cs)) (i_SF : own_eS0 Z h0 fm) (i_SA : own_eS2 Z h0 (.int 1)) (i_SH : own_eS3 Z h0 (.int 0)) (i_SL : own_eS4 Z h0 (.int 8)) (i_SD : own_eS7 Z h0 (.ref de)) (i_Ad : Arv Z h0 de kd (.object "java/lang/Object") (0 : Int32) [] .null) (i_Et : Exa Z h0 t1 own_cT) (i_Tl : own_eF11 Z h0 t1 u1) (i_Ts : own_eF12 Z h0 t1 (.long (0 : Int64))) (i_Tn : own_eF13 Z h0 t1 (.int n1)) (i_Tc : own_eF14 Z h0 t1 (.ref ca)) (i_Tp : own_eF15 Z h0 t1 .null) (i_Ta : own_eF16 Z h0 t1 .null) (i_Ach : own_aC Z h0 ca k_1 (64 : Int32) M_1) (i_Es : Exa Z h0 a2 own_cS) (i_Fv : own_eF10 Z h0 a2 (.ref b_1)) (i_Fc : own_eF9 Z h0 a2 (.int 0)) (i_Ab : own_aB Z h0 b_1 k_2 m1 L_1) (g_t1 : n0 ≤ t1) (ne_t1_a2 : t1 ≠ a2) (ne_t1_b_1 : t1 ≠ b_1) (ne_t1_de : t1 ≠ de) (ne_t1_ca : t1 ≠ ca) (ne_a2_de : a2 ≠ de) (ne_b_1_de : b_1 ≠ de) (hp_cs : ¬ (cs = (0 : Int32))) (hp_fm : fm.isRef = true) (hp_z : ¬ (n1 = (0 : Int32))) (hp_pos : (0 : Int32) < n1) (hp_d0 : ¬ (n1 < (0 : Int32))) (hp_d3 : n1.toNatClampNeg ≤ 3) (hp_hf : own_cf M_1 n1 (64 : Int32) r1 jj (0 : Int32)) (hp_ht : own_tbo M_1 n1 (64 : Int32) (n1 <<< ((1 : Int32) &&& 31)) n1.toNatClampNeg (0 : Int32) (List.replicate (n1 <<< ((1 : Int32) &&& 31)).toNatClampNeg (0 : Int32))) (hp_rn : ¬ (r1 = n1)) (hp_j0 : ¬ ((r1 <<< ((1 : Int32) &&& 31)) < (0 : Int32))) (hp_j1 : (r1 <<< ((1 : Int32) &&& 31)) < (n1 <<< ((1 : Int32) &&& 31))) (hp_k0 : ¬ (((r1 <<< ((1 : Int32) &&& 31)) + (1 : Int32)) < (0 : Int32))) (hp_k1 : ((r1 <<< ((1 : Int32) &&& 31)) + (1 : Int32)) < (n1 <<< ((1 : Int32) &&& 31))) (hp_g : (255 : Int32) < (own_gc (own_get (own_tbl M_1 n1.toNatClampNeg (0 : Int32) (List.replicate (n1 <<< ((1 : Int32) &&& 31)).toNatClampNeg (0 : Int32))) (r1 <<< ((1 : Int32) &&& 31))) (own_get (own_tbl M_1 n1.toNatClampNeg (0 : Int32) (List.replicate (n1 <<< ((1 : Int32) &&& 31)).toNatClampNeg (0 : Int32))) ((r1 <<< ((1 : Int32) &&& 31)) + (1 : Int32))))) (hp_d9 : ¬ (m1 < (0 : Int32))) (hp_bg : (16384 : Int32) < m1) (hp_qa : ¬ ((2147483639 : Int64) < (((0 : Int64) + (n1.toInt64)) + (m1.toInt64)))) (hp_b6 : ((64 : Int32) - n1) < m1) :
    own_C l Z own_y5 prog_37_method_7_code 6 none ws own_kmBB_R #[(.ref t1), (.ref a2), (.int 0), (.int m1), (.int 1)] h0 (own_W n0 (own_kmBB_q Z t1 a2 m1 cs fm ca n1 k_1 M_1 r1 jj u1 de kd b_1 k_2 L_1 h0)) := by
  refine own_goW own_pn37 own_o37 #[.val (.ref t1), .val (.ref a2), .val (.int 0), .val (.int m1), .val (.int 1), .unset] (fun _ => rfl) fun p e s m below meth c s₁ Bd D hml hZ hown X0 e0 N0 => ?_
  have hx := D.1
  have K0 : Keep h0 h0 [t1] := Keep.refl h0 _
  refine own_r X0 D 3 rfl ?_
  show own_H s₁ 3 #[.val (.ref t1), .val (.ref a2), .val (.int 0), .val (.int m1), .val (.int 1), .unset] [(.int (m1 - (0 : Int32)))]
  rw [show (m1 - (0 : Int32)) = m1 from (own_s0 m1)]
  refine own_r X0 D 3 rfl ?_
  refine own_cN X0 D rfl (tlt hp_bg).2.2.2 ?_
  refine own_r X0 D 1 rfl ?_
  refine own_xR X0 N0 D hZ hown hml (own_u hw 222 rfl) (own_K45 hw) (own_scB hw Z0 i_SC i_SF i_SA i_SH i_SL i_SD i_Ad i_Et i_Tl i_Ts i_Tn i_Tc i_Tp i_Ta i_Ach g_t1 ne_t1_de ne_t1_ca hp_cs hp_fm hp_z hp_pos hp_d0 hp_d3 hp_hf hp_ht hp_rn hp_j0 hp_j1 hp_k0 hp_k1 hp_g) 0 (by decide) e0 i_Et rfl rfl ?_
  rintro v1 T1 h1 L1 X1 N1 e1 ⟨li1, x1, kx1, v01, rfl, K1, zf_li1, zf_x1, xn1_0, xp1_0, o1_0, o1_1, o1_2, o1_3, o1_4, o1_5, o1_6, o1_7, o1_8, o1_9, o1_10, o1_11⟩
  have ne3 := own_ne2 i_Et.lt zf_li1
  have ne5 := own_ne2 i_Es.lt zf_li1
  have ne6 := own_ne2 i_Ab.lt zf_li1
  have g_li1 := Nat.le_trans Z0 zf_li1
  have sz_li1 := Nat.le_trans K0.1 zf_li1
  have ne8 := own_ne2 i_Et.lt zf_x1
  have ne10 := own_ne2 i_Es.lt zf_x1
  have ne11 := own_ne2 i_Ab.lt zf_x1
  have g_x1 := Nat.le_trans Z0 zf_x1
  have sz_x1 := Nat.le_trans K0.1 zf_x1
  have f12 := own_staK i_SC K1 (own_al1 i_Et.nostat)
  have f13 := own_staK i_SF K1 (own_al1 i_Et.nostat)
  have f21 := i_Es.keep K1
  have f22 := i_Fv.keep K1 (own_nm1 (Ne.symm ne_t1_a2))
  have f23 := i_Fc.keep K1 (own_nm1 (Ne.symm ne_t1_a2))
  have f24 := i_Ab.keep K1 (own_nm1 (Ne.symm ne_t1_b_1))
  have Kp25 := K0.trans K1 (own_al1 (Or.inl own_m0))
  have Zs26 := Nat.le_trans Z0 K1.1
  refine own_r X1 D 4 rfl ?_
  refine own_xVP X1 D hZ hown hml (own_u hw 303 rfl) (own_K46 hw) (own_sub hw f12 f13 f21 f22 f23 f24 hp_cs hp_fm hp_d9) 1 (by decide) e1 f21 rfl rfl fun T27 X27 e27 => ?_
  refine own_xR X27 N1 D hZ hown hml (own_u hw 236 rfl) (own_K44 hw) (own_saL (m1 := (0 : Int32)) (q1 := ((0 : Int64) + (n1.toInt64))) (u1 := (.null)) (u2 := (.ref ca)) (mc := ((0 : Int32) + (1 : Int32))) hw Zs26 f12 o1_0 o1_1 o1_2 o1_3 o1_4 o1_5 o1_6 o1_7 o1_8 o1_9 o1_10 o1_11 f21 f22 f23 f24 g_t1 g_li1 g_x1 ne_t1_a2 ne_t1_b_1 ne3 ne8 xn1_0 (Ne.symm ne5) (Ne.symm ne6) ne10 (Ne.symm ne11) hp_cs hp_qa xp1_0) 0 (by decide) e27 o1_0 rfl rfl ?_
  rintro v28 T28 h28 L28 X28 N28 e28 ⟨rfl, K28, o28_0, o28_1, o28_2, o28_3, o28_4, o28_5, o28_6⟩
  have Kp43 := Kp25.trans K28 (fun x hx => by simp only [List.mem_cons, List.not_mem_nil, or_false] at hx; rcases hx with rfl | rfl | rfl <;> first | exact (Or.inl own_m0) | exact (Or.inr sz_li1) | exact (Or.inr sz_x1))
  refine own_r X28 D 1 rfl ?_
  exact own_rV X28 D Bd rfl e28 ⟨N28, li1, rfl, Kp43, o28_0, o28_1, o28_2, o28_3, o28_4, o28_5, o28_6⟩ (by decide)
abbrev own_akBB_R : Room := { frames := 9, cells := 5, slots := 26, locals := 132 }
def own_akBB_q (Z : State) (t1 : Addr) (a2 : Addr) (m1 : Int32) (cs : Int32) (fm : Value) (ca : Addr) (n1 : Int32) (k_1 : ClassId) (M_1 : List Int32) (r1 : Int32) (jj : Nat) (u1 : Value) (de : Addr) (kd : ClassId) (b_1 : Addr) (k_2 : ClassId) (L_1 : List Int32) (h0 : Heap) (v : Option Value) (h : Heap) : Prop := ∃ (li : Addr), v = none ∧ Keep h0 h [t1] ∧ Exa Z h t1 own_cT ∧ own_eF11 Z h t1 u1 ∧ own_eF12 Z h t1 (.long (((0 : Int64) + (n1.toInt64)) + (m1.toInt64))) ∧ own_eF13 Z h t1 (.int 0) ∧ own_eF14 Z h t1 .null ∧ own_eF15 Z h t1 (.ref ca) ∧ own_eF16 Z h t1 (.ref li)
theorem own_akBB (hw : own_hw a0 Z) (Z0 : n0 ≤ h0.size) (i_SC : own_eS1 Z h0 (.int cs)) (i_SF : own_eS0 Z h0 fm) (i_SA : own_eS2 Z h0 (.int 1)) (i_SH : own_eS3 Z h0 (.int 0)) (i_SL : own_eS4 Z h0 (.int 8)) (i_SD : own_eS7 Z h0 (.ref de)) (i_Ad : Arv Z h0 de kd (.object "java/lang/Object") (0 : Int32) [] .null) (i_Et : Exa Z h0 t1 own_cT) (i_Tl : own_eF11 Z h0 t1 u1) (i_Ts : own_eF12 Z h0 t1 (.long (0 : Int64))) (i_Tn : own_eF13 Z h0 t1 (.int n1)) (i_Tc : own_eF14 Z h0 t1 (.ref ca)) (i_Tp : own_eF15 Z h0 t1 .null) (i_Ta : own_eF16 Z h0 t1 .null) (i_Ach : own_aC Z h0 ca k_1 (64 : Int32) M_1) (i_Es : Exa Z h0 a2 own_cS) (i_Fv : own_eF10 Z h0 a2 (.ref b_1)) (i_Fc : own_eF9 Z h0 a2 (.int 0)) (i_Ab : own_aB Z h0 b_1 k_2 m1 L_1) (g_t1 : n0 ≤ t1) (ne_t1_a2 : t1 ≠ a2) (ne_t1_b_1 : t1 ≠ b_1) (ne_t1_de : t1 ≠ de) (ne_t1_ca : t1 ≠ ca) (ne_a2_de : a2 ≠ de) (ne_b_1_de : b_1 ≠ de) (hp_cs : ¬ (cs = (0 : Int32))) (hp_fm : fm.isRef = true) (hp_z : ¬ (n1 = (0 : Int32))) (hp_pos : (0 : Int32) < n1) (hp_d0 : ¬ (n1 < (0 : Int32))) (hp_d3 : n1.toNatClampNeg ≤ 3) (hp_hf : own_cf M_1 n1 (64 : Int32) r1 jj (0 : Int32)) (hp_ht : own_tbo M_1 n1 (64 : Int32) (n1 <<< ((1 : Int32) &&& 31)) n1.toNatClampNeg (0 : Int32) (List.replicate (n1 <<< ((1 : Int32) &&& 31)).toNatClampNeg (0 : Int32))) (hp_rn : ¬ (r1 = n1)) (hp_j0 : ¬ ((r1 <<< ((1 : Int32) &&& 31)) < (0 : Int32))) (hp_j1 : (r1 <<< ((1 : Int32) &&& 31)) < (n1 <<< ((1 : Int32) &&& 31))) (hp_k0 : ¬ (((r1 <<< ((1 : Int32) &&& 31)) + (1 : Int32)) < (0 : Int32))) (hp_k1 : ((r1 <<< ((1 : Int32) &&& 31)) + (1 : Int32)) < (n1 <<< ((1 : Int32) &&& 31))) (hp_g : (255 : Int32) < (own_gc (own_get (own_tbl M_1 n1.toNatClampNeg (0 : Int32) (List.replicate (n1 <<< ((1 : Int32) &&& 31)).toNatClampNeg (0 : Int32))) (r1 <<< ((1 : Int32) &&& 31))) (own_get (own_tbl M_1 n1.toNatClampNeg (0 : Int32) (List.replicate (n1 <<< ((1 : Int32) &&& 31)).toNatClampNeg (0 : Int32))) ((r1 <<< ((1 : Int32) &&& 31)) + (1 : Int32))))) (hp_d9 : ¬ (m1 < (0 : Int32))) (hp_bg : (16384 : Int32) < m1) (hp_qa : ¬ ((2147483639 : Int64) < (((0 : Int64) + (n1.toInt64)) + (m1.toInt64)))) (hp_b6 : ((64 : Int32) - n1) < m1) :
    own_C l Z own_y4 prog_37_method_6_code 6 none ws own_akBB_R #[(.ref t1), (.ref a2), (.int 0), (.int m1), (.int 1)] h0 (own_W n0 (own_akBB_q Z t1 a2 m1 cs fm ca n1 k_1 M_1 r1 jj u1 de kd b_1 k_2 L_1 h0)) := by
  refine own_goW own_pn19 own_o19 #[.val (.ref t1), .val (.ref a2), .val (.int 0), .val (.int m1), .val (.int 1), .unset] (fun _ => rfl) fun p e s m below meth c s₁ Bd D hml hZ hown X0 e0 N0 => ?_
  have hx := D.1
  have K0 : Keep h0 h0 [t1] := Keep.refl h0 _
  refine own_r X0 D 3 rfl ?_
  show own_H s₁ 3 #[.val (.ref t1), .val (.ref a2), .val (.int 0), .val (.int m1), .val (.int 1), .unset] [(.int (m1 - (0 : Int32)))]
  rw [show (m1 - (0 : Int32)) = m1 from (own_s0 m1)]
  refine own_r X0 D 2 rfl ?_
  refine own_gF X0 D hZ hown (own_u hw 72 rfl) Via.refl e0 i_Tc rfl fun T1 X1 e1 => ?_
  refine own_oY X1 D rfl ?_
  refine own_r X1 D 1 rfl ?_
  refine own_gF X1 D hZ hown (own_u hw 72 rfl) Via.refl e1 i_Tc rfl fun T2 X2 e2 => ?_
  refine own_nN X2 D rfl ?_
  refine own_r X2 D 2 rfl ?_
  refine own_gF X2 D hZ hown (own_u hw 72 rfl) Via.refl e2 i_Tc rfl fun T3 X3 e3 => ?_
  refine own_via (own_len X3 hx hZ e3 i_Ach (own_dd D rfl)) ?_
  refine own_r X3 D 1 rfl ?_
  refine own_gF X3 D hZ hown (own_u hw 50 rfl) Via.refl e3 i_Tn rfl fun T4 X4 e4 => ?_
  refine own_r X4 D 1 rfl ?_
  refine own_cY X4 D rfl (tlt hp_b6).2.2.1 ?_
  refine own_r X4 D 5 rfl ?_
  refine own_xR X4 N0 D hZ hown hml (own_u hw 168 rfl) (own_K47 hw) (own_kmBB hw Z0 i_SC i_SF i_SA i_SH i_SL i_SD i_Ad i_Et i_Tl i_Ts i_Tn i_Tc i_Tp i_Ta i_Ach i_Es i_Fv i_Fc i_Ab g_t1 ne_t1_a2 ne_t1_b_1 ne_t1_de ne_t1_ca ne_a2_de ne_b_1_de hp_cs hp_fm hp_z hp_pos hp_d0 hp_d3 hp_hf hp_ht hp_rn hp_j0 hp_j1 hp_k0 hp_k1 hp_g hp_d9 hp_bg hp_qa hp_b6) 0 (by decide) e4 i_Et rfl rfl ?_
  rintro v5 T5 h5 L5 X5 N5 e5 ⟨li5, rfl, K5, o5_0, o5_1, o5_2, o5_3, o5_4, o5_5, o5_6⟩
  have Kp19 := K0.trans K5 (own_al1 (Or.inl own_m0))
  exact own_rV X5 D Bd rfl e5 ⟨N5, li5, rfl, Kp19, o5_0, o5_1, o5_2, o5_3, o5_4, o5_5, o5_6⟩ (by decide)
abbrev own_a3BB_R : Room := { frames := 10, cells := 5, slots := 26, locals := 149 }
def own_a3BB_q (Z : State) (t1 : Addr) (a2 : Addr) (m1 : Int32) (cs : Int32) (fm : Value) (ca : Addr) (n1 : Int32) (k_1 : ClassId) (M_1 : List Int32) (r1 : Int32) (jj : Nat) (u1 : Value) (de : Addr) (kd : ClassId) (b_1 : Addr) (k_2 : ClassId) (L_1 : List Int32) (h0 : Heap) (v : Option Value) (h : Heap) : Prop := ∃ (li : Addr), v = none ∧ Keep h0 h [t1] ∧ Exa Z h t1 own_cT ∧ own_eF11 Z h t1 u1 ∧ own_eF12 Z h t1 (.long (((0 : Int64) + (n1.toInt64)) + (m1.toInt64))) ∧ own_eF13 Z h t1 (.int 0) ∧ own_eF14 Z h t1 .null ∧ own_eF15 Z h t1 (.ref ca) ∧ own_eF16 Z h t1 (.ref li)
theorem own_a3BB (hw : own_hw a0 Z) (Z0 : n0 ≤ h0.size) (i_SC : own_eS1 Z h0 (.int cs)) (i_SF : own_eS0 Z h0 fm) (i_SA : own_eS2 Z h0 (.int 1)) (i_SH : own_eS3 Z h0 (.int 0)) (i_SL : own_eS4 Z h0 (.int 8)) (i_SD : own_eS7 Z h0 (.ref de)) (i_Ad : Arv Z h0 de kd (.object "java/lang/Object") (0 : Int32) [] .null) (i_Et : Exa Z h0 t1 own_cT) (i_Tl : own_eF11 Z h0 t1 u1) (i_Ts : own_eF12 Z h0 t1 (.long (0 : Int64))) (i_Tn : own_eF13 Z h0 t1 (.int n1)) (i_Tc : own_eF14 Z h0 t1 (.ref ca)) (i_Tp : own_eF15 Z h0 t1 .null) (i_Ta : own_eF16 Z h0 t1 .null) (i_Ach : own_aC Z h0 ca k_1 (64 : Int32) M_1) (i_Es : Exa Z h0 a2 own_cS) (i_Fv : own_eF10 Z h0 a2 (.ref b_1)) (i_Fc : own_eF9 Z h0 a2 (.int 0)) (i_Ab : own_aB Z h0 b_1 k_2 m1 L_1) (g_t1 : n0 ≤ t1) (ne_t1_a2 : t1 ≠ a2) (ne_t1_b_1 : t1 ≠ b_1) (ne_t1_de : t1 ≠ de) (ne_t1_ca : t1 ≠ ca) (ne_a2_de : a2 ≠ de) (ne_b_1_de : b_1 ≠ de) (hp_cs : ¬ (cs = (0 : Int32))) (hp_fm : fm.isRef = true) (hp_z : ¬ (n1 = (0 : Int32))) (hp_pos : (0 : Int32) < n1) (hp_d0 : ¬ (n1 < (0 : Int32))) (hp_d3 : n1.toNatClampNeg ≤ 3) (hp_hf : own_cf M_1 n1 (64 : Int32) r1 jj (0 : Int32)) (hp_ht : own_tbo M_1 n1 (64 : Int32) (n1 <<< ((1 : Int32) &&& 31)) n1.toNatClampNeg (0 : Int32) (List.replicate (n1 <<< ((1 : Int32) &&& 31)).toNatClampNeg (0 : Int32))) (hp_rn : ¬ (r1 = n1)) (hp_j0 : ¬ ((r1 <<< ((1 : Int32) &&& 31)) < (0 : Int32))) (hp_j1 : (r1 <<< ((1 : Int32) &&& 31)) < (n1 <<< ((1 : Int32) &&& 31))) (hp_k0 : ¬ (((r1 <<< ((1 : Int32) &&& 31)) + (1 : Int32)) < (0 : Int32))) (hp_k1 : ((r1 <<< ((1 : Int32) &&& 31)) + (1 : Int32)) < (n1 <<< ((1 : Int32) &&& 31))) (hp_g : (255 : Int32) < (own_gc (own_get (own_tbl M_1 n1.toNatClampNeg (0 : Int32) (List.replicate (n1 <<< ((1 : Int32) &&& 31)).toNatClampNeg (0 : Int32))) (r1 <<< ((1 : Int32) &&& 31))) (own_get (own_tbl M_1 n1.toNatClampNeg (0 : Int32) (List.replicate (n1 <<< ((1 : Int32) &&& 31)).toNatClampNeg (0 : Int32))) ((r1 <<< ((1 : Int32) &&& 31)) + (1 : Int32))))) (hp_d9 : ¬ (m1 < (0 : Int32))) (hp_bg : (16384 : Int32) < m1) (hp_qa : ¬ ((2147483639 : Int64) < (((0 : Int64) + (n1.toInt64)) + (m1.toInt64)))) (hp_b6 : ((64 : Int32) - n1) < m1) :
    own_C l Z own_y3 prog_37_method_4_code 6 none ws own_a3BB_R #[(.ref t1), (.ref a2), (.int 0), (.int m1)] h0 (own_W n0 (own_a3BB_q Z t1 a2 m1 cs fm ca n1 k_1 M_1 r1 jj u1 de kd b_1 k_2 L_1 h0)) := by
  refine own_goW own_pn13 own_o13 #[.val (.ref t1), .val (.ref a2), .val (.int 0), .val (.int m1), .unset, .unset] (fun _ => rfl) fun p e s m below meth c s₁ Bd D hml hZ hown X0 e0 N0 => ?_
  have hx := D.1
  have K0 : Keep h0 h0 [t1] := Keep.refl h0 _
  refine own_r X0 D 5 rfl ?_
  refine own_gF X0 D hZ hown (own_u hw 72 rfl) Via.refl e0 i_Tc rfl fun T1 X1 e1 => ?_
  refine own_oY X1 D rfl ?_
  refine own_r X1 D 5 rfl ?_
  refine own_xV X1 N0 D hZ hown hml (own_u hw 96 rfl) (own_K31 hw) (own_akBB hw Z0 i_SC i_SF i_SA i_SH i_SL i_SD i_Ad i_Et i_Tl i_Ts i_Tn i_Tc i_Tp i_Ta i_Ach i_Es i_Fv i_Fc i_Ab g_t1 ne_t1_a2 ne_t1_b_1 ne_t1_de ne_t1_ca ne_a2_de ne_b_1_de hp_cs hp_fm hp_z hp_pos hp_d0 hp_d3 hp_hf hp_ht hp_rn hp_j0 hp_j1 hp_k0 hp_k1 hp_g hp_d9 hp_bg hp_qa hp_b6) 0 (by decide) e1 i_Et rfl rfl ?_
  rintro v2 T2 h2 L2 X2 N2 e2 ⟨li2, rfl, K2, o2_0, o2_1, o2_2, o2_3, o2_4, o2_5, o2_6⟩
  have Kp16 := K0.trans K2 (own_al1 (Or.inl own_m0))
  exact own_rV X2 D Bd rfl e2 ⟨N2, li2, rfl, Kp16, o2_0, o2_1, o2_2, o2_3, o2_4, o2_5, o2_6⟩ (by decide)
abbrev own_a1BB_R : Room := { frames := 11, cells := 5, slots := 26, locals := 166 }
def own_a1BB_q (Z : State) (t1 : Addr) (a2 : Addr) (m1 : Int32) (cs : Int32) (fm : Value) (ca : Addr) (n1 : Int32) (k_1 : ClassId) (M_1 : List Int32) (r1 : Int32) (jj : Nat) (u1 : Value) (de : Addr) (kd : ClassId) (b_1 : Addr) (k_2 : ClassId) (L_1 : List Int32) (h0 : Heap) (v : Option Value) (h : Heap) : Prop := ∃ (li : Addr), v = none ∧ Keep h0 h [t1] ∧ Exa Z h t1 own_cT ∧ own_eF11 Z h t1 u1 ∧ own_eF12 Z h t1 (.long (((0 : Int64) + (n1.toInt64)) + (m1.toInt64))) ∧ own_eF13 Z h t1 (.int 0) ∧ own_eF14 Z h t1 .null ∧ own_eF15 Z h t1 (.ref ca) ∧ own_eF16 Z h t1 (.ref li)
theorem own_a1BB (hw : own_hw a0 Z) (Z0 : n0 ≤ h0.size) (i_SC : own_eS1 Z h0 (.int cs)) (i_SF : own_eS0 Z h0 fm) (i_SA : own_eS2 Z h0 (.int 1)) (i_SH : own_eS3 Z h0 (.int 0)) (i_SL : own_eS4 Z h0 (.int 8)) (i_SD : own_eS7 Z h0 (.ref de)) (i_Ad : Arv Z h0 de kd (.object "java/lang/Object") (0 : Int32) [] .null) (i_Et : Exa Z h0 t1 own_cT) (i_Tl : own_eF11 Z h0 t1 u1) (i_Ts : own_eF12 Z h0 t1 (.long (0 : Int64))) (i_Tn : own_eF13 Z h0 t1 (.int n1)) (i_Tc : own_eF14 Z h0 t1 (.ref ca)) (i_Tp : own_eF15 Z h0 t1 .null) (i_Ta : own_eF16 Z h0 t1 .null) (i_Ach : own_aC Z h0 ca k_1 (64 : Int32) M_1) (i_Es : Exa Z h0 a2 own_cS) (i_Fv : own_eF10 Z h0 a2 (.ref b_1)) (i_Fc : own_eF9 Z h0 a2 (.int 0)) (i_Ab : own_aB Z h0 b_1 k_2 m1 L_1) (g_t1 : n0 ≤ t1) (ne_t1_a2 : t1 ≠ a2) (ne_t1_b_1 : t1 ≠ b_1) (ne_t1_de : t1 ≠ de) (ne_t1_ca : t1 ≠ ca) (ne_a2_de : a2 ≠ de) (ne_b_1_de : b_1 ≠ de) (hp_cs : ¬ (cs = (0 : Int32))) (hp_fm : fm.isRef = true) (hp_z : ¬ (n1 = (0 : Int32))) (hp_pos : (0 : Int32) < n1) (hp_d0 : ¬ (n1 < (0 : Int32))) (hp_d3 : n1.toNatClampNeg ≤ 3) (hp_hf : own_cf M_1 n1 (64 : Int32) r1 jj (0 : Int32)) (hp_ht : own_tbo M_1 n1 (64 : Int32) (n1 <<< ((1 : Int32) &&& 31)) n1.toNatClampNeg (0 : Int32) (List.replicate (n1 <<< ((1 : Int32) &&& 31)).toNatClampNeg (0 : Int32))) (hp_rn : ¬ (r1 = n1)) (hp_j0 : ¬ ((r1 <<< ((1 : Int32) &&& 31)) < (0 : Int32))) (hp_j1 : (r1 <<< ((1 : Int32) &&& 31)) < (n1 <<< ((1 : Int32) &&& 31))) (hp_k0 : ¬ (((r1 <<< ((1 : Int32) &&& 31)) + (1 : Int32)) < (0 : Int32))) (hp_k1 : ((r1 <<< ((1 : Int32) &&& 31)) + (1 : Int32)) < (n1 <<< ((1 : Int32) &&& 31))) (hp_g : (255 : Int32) < (own_gc (own_get (own_tbl M_1 n1.toNatClampNeg (0 : Int32) (List.replicate (n1 <<< ((1 : Int32) &&& 31)).toNatClampNeg (0 : Int32))) (r1 <<< ((1 : Int32) &&& 31))) (own_get (own_tbl M_1 n1.toNatClampNeg (0 : Int32) (List.replicate (n1 <<< ((1 : Int32) &&& 31)).toNatClampNeg (0 : Int32))) ((r1 <<< ((1 : Int32) &&& 31)) + (1 : Int32))))) (hp_d9 : ¬ (m1 < (0 : Int32))) (hp_bg : (16384 : Int32) < m1) (hp_qa : ¬ ((2147483639 : Int64) < (((0 : Int64) + (n1.toInt64)) + (m1.toInt64)))) (hp_b6 : ((64 : Int32) - n1) < m1) :
    own_C l Z own_y2 prog_37_method_3_code 2 none ws own_a1BB_R #[(.ref t1), (.ref a2)] h0 (own_W n0 (own_a1BB_q Z t1 a2 m1 cs fm ca n1 k_1 M_1 r1 jj u1 de kd b_1 k_2 L_1 h0)) := by
  refine own_goW own_pn10 own_o10 #[.val (.ref t1), .val (.ref a2)] (fun _ => rfl) fun p e s m below meth c s₁ Bd D hml hZ hown X0 e0 N0 => ?_
  have hx := D.1
  have K0 : Keep h0 h0 [t1] := Keep.refl h0 _
  refine own_r X0 D 4 rfl ?_
  refine own_xVP X0 D hZ hown hml (own_u hw 57 rfl) (own_K26 hw) (own_len0 hw i_SC i_Es i_Fv i_Fc i_Ab hp_cs) 3 (by decide) e0 i_Es rfl rfl fun T1 X1 e1 => ?_
  refine own_xV X1 N0 D hZ hown hml (own_u hw 67 rfl) (own_K33 hw) (own_a3BB hw Z0 i_SC i_SF i_SA i_SH i_SL i_SD i_Ad i_Et i_Tl i_Ts i_Tn i_Tc i_Tp i_Ta i_Ach i_Es i_Fv i_Fc i_Ab g_t1 ne_t1_a2 ne_t1_b_1 ne_t1_de ne_t1_ca ne_a2_de ne_b_1_de hp_cs hp_fm hp_z hp_pos hp_d0 hp_d3 hp_hf hp_ht hp_rn hp_j0 hp_j1 hp_k0 hp_k1 hp_g hp_d9 hp_bg hp_qa hp_b6) 0 (by decide) e1 i_Et rfl rfl ?_
  rintro v2 T2 h2 L2 X2 N2 e2 ⟨li2, rfl, K2, o2_0, o2_1, o2_2, o2_3, o2_4, o2_5, o2_6⟩
  have Kp16 := K0.trans K2 (own_al1 (Or.inl own_m0))
  exact own_rV X2 D Bd rfl e2 ⟨N2, li2, rfl, Kp16, o2_0, o2_1, o2_2, o2_3, o2_4, o2_5, o2_6⟩ (by decide)
abbrev own_li1_R : Room := { frames := 0, cells := 0, slots := 0, locals := 0 }
def own_li1_q (Z : State) (b_1 : Addr) (ca : Addr) (n1 : Int32) (k_1 : ClassId) (L_1 : List Int32) (kc : ClassId) (CM : List Int32) (h0 : Heap) (v : Option Value) (h : Heap) : Prop := ∃ (C_2 : List Int32), v = none ∧ Keep h0 h [ca] ∧ C_2.length = 64 ∧ own_aC Z h ca kc (64 : Int32) C_2
theorem own_li1 (hw : own_hw a0 Z) (Z0 : n0 ≤ h0.size) (i_Ab : own_aB Z h0 b_1 k_1 n1 L_1) (i_Ach : own_aC Z h0 ca kc (64 : Int32) CM) (g_ca : n0 ≤ ca) (ne_b_1_ca : b_1 ≠ ca) (hp_d0 : ¬ (n1 < (0 : Int32))) (hp_d3 : n1.toNatClampNeg ≤ 3) (hp_hc : CM.length = 64) :
    own_C l Z own_y38 jdk_43_method_49_code 6 none ws own_li1_R #[(.ref b_1), (.int 0), (.ref ca), (.int 0), (.int n1)] h0 (own_W n0 (own_li1_q Z b_1 ca n1 k_1 L_1 kc CM h0)) := by
  refine own_goW own_pn45 own_o45 #[.val (.ref b_1), .val (.int 0), .val (.ref ca), .val (.int 0), .val (.int n1), .unset] (fun _ => rfl) fun p e s m below meth c s₁ Bd D hml hZ hown X0 e0 N0 => ?_
  have hx := D.1
  have K0 : Keep h0 h0 [ca] := Keep.refl h0 _
  refine own_r X0 D 2 rfl ?_
  have J1 : ∀ (f : Nat) (i : Int32) (C : List Int32) (TJ1 : State) (hJ1 : Heap) (LJ1 : List Loc) (XJ1 : Stand p l e own_li1_R s m #[(.ref b_1), (.int 0), (.ref ca), (.int 0), (.int n1)] below meth c TJ1 LJ1 0 0) (NJ1 : Fr n0 LJ1) (eJ1 : TJ1.heap = hJ1) (KJ1 : Keep h0 hJ1 [ca]) (ZJ1 : n0 ≤ hJ1.size) (fJ1_0 : own_aB Z hJ1 b_1 k_1 n1 L_1) (fJ1_1 : own_aC Z hJ1 ca kc (64 : Int32) C) (hL : C.length = 64) (hI : own_al n1 f i), own_G p e below (own_P s (own_W n0 (own_li1_q Z b_1 ca n1 k_1 L_1 kc CM h0)) own_li1_R.cells own_li1_R.slots) (TJ1.setTop (mkF m 3 #[.val (.ref b_1), .val (.int i), .val (.ref ca), .val (.int i), .val (.int n1), .val (.int i)] [])) := by
    intro f
    induction f with
    | zero =>
      intro i C TJ1 hJ1 LJ1 XJ1 NJ1 eJ1 KJ1 ZJ1 fJ1_0 fJ1_1 hL hI
      have hJ : ¬ i < n1 := hI
      refine own_r XJ1 D 2 rfl ?_
      refine own_cY XJ1 D rfl (flt hJ).2.1 ?_
      exact own_rV XJ1 D Bd rfl eJ1 ⟨NJ1, C, rfl, KJ1, hL, fJ1_1⟩ (by decide)
    | succ f ih =>
      intro i C TJ1 hJ1 LJ1 XJ1 NJ1 eJ1 KJ1 ZJ1 fJ1_0 fJ1_1 hL hI
      have hJ : i < n1 ∧ ¬ i < (0 : Int32) ∧ own_al n1 f (i + 1) := hI
      refine own_r XJ1 D 2 rfl ?_
      refine own_cN XJ1 D rfl (tlt hJ.1).2.1 ?_
      refine own_r XJ1 D 6 rfl ?_
      refine own_via (own_ldBs XJ1 hx hZ eJ1 fJ1_0 (And.intro (And.intro hJ.2.1 hJ.1) trivial : (¬ i < (0 : Int32) ∧ i < n1) ∧ True).1 (own_dd D rfl)) ?_
      refine own_r XJ1 D 3 rfl ?_
      refine own_stCsk XJ1 NJ1 hx hZ eJ1 fJ1_1 g_ca (own_i64 hJ.2.1 hJ.1 hp_d3 hL) (own_dd D rfl) fun T2 h2 L2 X2 N2 e2 W2 V2 => ?_
      have f3 := fJ1_0.other W2 ne_b_1_ca
      have Kp4 := KJ1.wr W2 (Or.inl own_m0)
      have f5 : own_aC Z h2 ca kc (64 : Int32) (own_set C i (nar .char (((own_get L_1 i) &&& (255 : Int32)).toUInt32.toUInt16.toUInt32.toInt32))) := V2
      have Zs6 : n0 ≤ h2.size := by rw [W2.size]; exact ZJ1
      refine own_r X2 D 2 rfl ?_
      exact ih  (i + (1 : Int32)) (own_set C i (nar .char (((own_get L_1 i) &&& (255 : Int32)).toUInt32.toUInt16.toUInt32.toInt32))) _ _ _ X2 N2 e2 Kp4 Zs6 f3 f5 (own_sl hL _ _) hJ.2.2
  exact J1 n1.toNatClampNeg (0 : Int32) CM _ _ _ X0 N0 e0 K0 Z0 i_Ab i_Ach hp_hc (own_al0 hp_d0)
abbrev own_lg1_R : Room := { frames := 1, cells := 0, slots := 0, locals := 17 }
def own_lg1_q (Z : State) (b_1 : Addr) (n1 : Int32) (ca : Addr) (k_1 : ClassId) (L_1 : List Int32) (kc : ClassId) (CM : List Int32) (h0 : Heap) (v : Option Value) (h : Heap) : Prop := ∃ (C_2 : List Int32), v = none ∧ Keep h0 h [ca] ∧ C_2.length = 64 ∧ own_aC Z h ca kc (64 : Int32) C_2
theorem own_lg1 (hw : own_hw a0 Z) (Z0 : n0 ≤ h0.size) (i_Ab : own_aB Z h0 b_1 k_1 n1 L_1) (i_Ach : own_aC Z h0 ca kc (64 : Int32) CM) (g_ca : n0 ≤ ca) (ne_b_1_ca : b_1 ≠ ca) (hp_d0 : ¬ (n1 < (0 : Int32))) (hp_d3 : n1.toNatClampNeg ≤ 3) (hp_hc : CM.length = 64) :
    own_C l Z own_y37 jdk_43_method_11_code 5 none ws own_lg1_R #[(.ref b_1), (.int 0), (.int n1), (.ref ca), (.int 0)] h0 (own_W n0 (own_lg1_q Z b_1 n1 ca k_1 L_1 kc CM h0)) := by
  refine own_goW own_pn44 own_o44 #[.val (.ref b_1), .val (.int 0), .val (.int n1), .val (.ref ca), .val (.int 0)] (fun _ => rfl) fun p e s m below meth c s₁ Bd D hml hZ hown X0 e0 N0 => ?_
  have hx := D.1
  have K0 : Keep h0 h0 [ca] := Keep.refl h0 _
  refine own_r X0 D 7 rfl ?_
  show own_H s₁ 8 #[.val (.ref b_1), .val (.int 0), .val (.int n1), .val (.ref ca), .val (.int 0)] [(.int (n1 - (0 : Int32))), (.int 0), (.ref ca), (.int 0), (.ref b_1)]
  rw [show (n1 - (0 : Int32)) = n1 from (own_s0 n1)]
  refine own_xS X0 N0 D hZ hown hml (own_u hw 212 rfl) (own_K48 hw) (own_li1 hw Z0 i_Ab i_Ach g_ca ne_b_1_ca hp_d0 hp_d3 hp_hc) 0 (by decide) e0 rfl rfl ?_
  rintro v1 T1 h1 L1 X1 N1 e1 ⟨C_21, rfl, K1, xp1_0, o1_0⟩
  have Kp3 := K0.trans K1 (own_al1 (Or.inl own_m0))
  exact own_rV X1 D Bd rfl e1 ⟨N1, C_21, rfl, Kp3, xp1_0, o1_0⟩ (by decide)
abbrev own_gs1_R : Room := { frames := 2, cells := 0, slots := 0, locals := 33 }
def own_gs1_q (Z : State) (a1 : Addr) (n1 : Int32) (ca : Addr) (cs : Int32) (fm : Value) (b_1 : Addr) (k_1 : ClassId) (L_1 : List Int32) (kc : ClassId) (CM : List Int32) (h0 : Heap) (v : Option Value) (h : Heap) : Prop := ∃ (C_2 : List Int32), v = none ∧ Keep h0 h [ca] ∧ C_2.length = 64 ∧ own_aC Z h ca kc (64 : Int32) C_2
theorem own_gs1 (hw : own_hw a0 Z) (Z0 : n0 ≤ h0.size) (i_SC : own_eS1 Z h0 (.int cs)) (i_SF : own_eS0 Z h0 fm) (i_Es : Exa Z h0 a1 own_cS) (i_Fv : own_eF10 Z h0 a1 (.ref b_1)) (i_Fc : own_eF9 Z h0 a1 (.int 0)) (i_Ab : own_aB Z h0 b_1 k_1 n1 L_1) (i_Ach : own_aC Z h0 ca kc (64 : Int32) CM) (g_ca : n0 ≤ ca) (ne_b_1_ca : b_1 ≠ ca) (ne_a1_ca : a1 ≠ ca) (hp_cs : ¬ (cs = (0 : Int32))) (hp_fm : fm.isRef = true) (hp_d0 : ¬ (n1 < (0 : Int32))) (hp_d3 : n1.toNatClampNeg ≤ 3) (hp_hc : CM.length = 64) :
    own_C l Z own_y30 jdk_42_method_61_code 5 none ws own_gs1_R #[(.ref a1), (.int 0), (.int n1), (.ref ca), (.int 0)] h0 (own_W n0 (own_gs1_q Z a1 n1 ca cs fm b_1 k_1 L_1 kc CM h0)) := by
  refine own_goW own_pn43 own_o43 #[.val (.ref a1), .val (.int 0), .val (.int n1), .val (.ref ca), .val (.int 0)] (fun _ => rfl) fun p e s m below meth c s₁ Bd D hml hZ hown X0 e0 N0 => ?_
  have hx := D.1
  have K0 : Keep h0 h0 [ca] := Keep.refl h0 _
  refine own_r X0 D 3 rfl ?_
  refine own_xVP X0 D hZ hown hml (own_u hw 110 rfl) (own_K26 hw) (own_len0 hw i_SC i_Es i_Fv i_Fc i_Ab hp_cs) 2 (by decide) e0 i_Es rfl rfl fun T1 X1 e1 => ?_
  refine own_xPN X1 D hZ hown hml (own_u hw 111 rfl) (own_K27 hw) (own_cbe (i1 := (0 : Int32)) hw i_SF hp_fm (by decide : ¬ ((0 : Int32) < (0 : Int32))) hp_d0 (own_irr n1)) 0 (by decide) e1 rfl rfl fun T2 X2 e2 => ?_
  refine own_r X2 D 5 rfl ?_
  refine own_via (own_len X2 hx hZ e2 i_Ach (own_dd D rfl)) ?_
  show own_H T2 16 #[.val (.ref a1), .val (.int 0), .val (.int n1), .val (.ref ca), .val (.int 0)] [(.int 64), (.int (n1 - (0 : Int32))), (.int 0)]
  rw [show (n1 - (0 : Int32)) = n1 from (own_s0 n1)]
  refine own_xP X2 D hZ hown hml (own_u hw 121 rfl) (own_K25 hw) (own_coc (i1 := (0 : Int32)) (n1 := (64 : Int32)) hw i_SF hp_fm (own_or64 hp_d0 hp_d3) (own_mn hp_d0 hp_d3)) 0 (by decide) e2 rfl rfl fun T3 X3 e3 => ?_
  refine own_r X3 D 2 rfl ?_
  refine own_xVP X3 D hZ hown hml (own_u hw 79 rfl) (own_K5 hw) (own_isl0 hw i_SC i_Fc hp_cs) 0 (by decide) e3 i_Es rfl rfl fun T4 X4 e4 => ?_
  refine own_fN X4 D rfl (feq (by decide : ¬ ((1 : Int32) = (0 : Int32)))).1 ?_
  refine own_r X4 D 1 rfl ?_
  refine own_gF X4 D hZ hown (own_u hw 32 rfl) Via.refl e4 i_Fv rfl fun T5 X5 e5 => ?_
  refine own_r X5 D 4 rfl ?_
  refine own_xS X5 N0 D hZ hown hml (own_u hw 209 rfl) (own_K49 hw) (own_lg1 hw Z0 i_Ab i_Ach g_ca ne_b_1_ca hp_d0 hp_d3 hp_hc) 0 (by decide) e5 rfl rfl ?_
  rintro v6 T6 h6 L6 X6 N6 e6 ⟨C_26, rfl, K6, xp6_0, o6_0⟩
  have Kp13 := K0.trans K6 (own_al1 (Or.inl own_m0))
  refine own_r X6 D 1 rfl ?_
  exact own_rV X6 D Bd rfl e6 ⟨N6, C_26, rfl, Kp13, xp6_0, o6_0⟩ (by decide)
theorem own_mx1 {j : Int32} (h0 : ¬ j < 0) (h : j.toNatClampNeg ≤ 3) : own_F41 (64 : Int32) (j + (1 : Int32)) = 64 := by
  rcases own_three h0 h with rfl | rfl | rfl | rfl <;> decide
abbrev own_infL_R : Room := { frames := 5, cells := 3, slots := 71, locals := 110 }
def own_infL_q (Z : State) (t1 : Addr) (cs : Int32) (fm : Value) (u8 : Addr) (a3 : Addr) (n1 : Int32) (la : Addr) (kl : ClassId) (LL : List Int32) (h0 : Heap) (v : Option Value) (h : Heap) : Prop := ∃ (ca : Addr) (kc : ClassId) (C_2 : List Int32), v = none ∧ Keep h0 h [t1] ∧ h0.size ≤ ca ∧ C_2.length = 64 ∧ Exa Z h t1 own_cT ∧ own_eF11 Z h t1 (.ref la) ∧ own_eF12 Z h t1 (.long (0 : Int64)) ∧ own_eF13 Z h t1 (.int n1) ∧ own_eF14 Z h t1 (.ref ca) ∧ own_eF15 Z h t1 .null ∧ own_eF16 Z h t1 .null ∧ own_aC Z h ca kc (64 : Int32) C_2
theorem own_infL (hw : own_hw a0 Z) (Z0 : n0 ≤ h0.size) (i_SC : own_eS1 Z h0 (.int cs)) (i_SF : own_eS0 Z h0 fm) (i_S8 : own_eS5 Z h0 (.ref u8)) (i_SI : own_eS6 Z h0 (.ref a3)) (i_SX : own_eS8 Z h0 (.ref a3)) (i_E3 : Exa Z h0 a3 "sun/nio/cs/ISO_8859_1") (i_Et : Exa Z h0 t1 own_cT) (i_Tl : own_eF11 Z h0 t1 (.ref la)) (i_Ts : own_eF12 Z h0 t1 (.long (0 : Int64))) (i_Tn : own_eF13 Z h0 t1 (.int n1)) (i_Tc : own_eF14 Z h0 t1 .null) (i_Tp : own_eF15 Z h0 t1 .null) (i_Ta : own_eF16 Z h0 t1 .null) (i_Al : own_aB Z h0 la kl (64 : Int32) LL) (g_t1 : n0 ≤ t1) (ne_a3_u8 : a3 ≠ u8) (ne_t1_la : t1 ≠ la) (hp_cs : ¬ (cs = (0 : Int32))) (hp_fm : fm.isRef = true) (hp_z : ¬ (n1 = (0 : Int32))) (hp_d0 : ¬ (n1 < (0 : Int32))) (hp_d3 : n1.toNatClampNeg ≤ 3) :
    own_C l Z own_y10 prog_37_method_20_code 3 none ws own_infL_R #[(.ref t1), (.int 1)] h0 (own_W n0 (own_infL_q Z t1 cs fm u8 a3 n1 la kl LL h0)) := by
  refine own_goW own_pn40 own_o40 #[.val (.ref t1), .val (.int 1), .unset] (fun _ => rfl) fun p e s m below meth c s₁ Bd D hml hZ hown X0 e0 N0 => ?_
  have hx := D.1
  have K0 : Keep h0 h0 [t1] := Keep.refl h0 _
  refine own_r X0 D 1 rfl ?_
  refine own_gF X0 D hZ hown (own_u hw 41 rfl) Via.refl e0 i_Tl rfl fun T1 X1 e1 => ?_
  refine own_via (own_len X1 hx hZ e1 i_Al (own_dd D rfl)) ?_
  refine own_r X1 D 1 rfl ?_
  refine own_gF X1 D hZ hown (own_u hw 50 rfl) Via.refl e1 i_Tn rfl fun T2 X2 e2 => ?_
  refine own_r X2 D 2 rfl ?_
  refine own_xP X2 D hZ hown hml (own_u hw 184 rfl) (own_K36 hw) (own_rm41 (p0 := (64 : Int32)) (p1 := (n1 + (1 : Int32))) hw) 0 (by decide) e2 rfl rfl fun T3 X3 e3 => ?_
  show own_H T3 14 #[.val (.ref t1), .val (.int 1), .unset] [(.int (own_F41 (64 : Int32) (n1 + (1 : Int32))))]
  rw [show (own_F41 (64 : Int32) (n1 + (1 : Int32))) = (64 : Int32) from (own_mx1 hp_d0 hp_d3)]
  refine own_r X3 D 3 rfl ?_
  refine own_gF X3 D hZ hown (own_u hw 188 rfl) Via.refl e3 i_Tp rfl fun T4 X4 e4 => ?_
  refine own_nY X4 D rfl ?_
  refine own_r X4 D 1 rfl ?_
  refine own_newAk X4 hx hZ (own_u hw 7 rfl) e4 (own_dd D rfl) (by decide) (cap := 64) (by decide) (by decide) (by decide) (by decide) 64 rfl fun T5 h5 k5 b5 X5 e5 E5 ga5 V5 Ex5 => ?_
  have sz_b5 := own_ge K0.1 ga5
  have ne7 := own_ne1 i_Et.lt ga5
  have f9 := i_SC.ext E5
  have f10 := i_SF.ext E5
  have f11 := i_S8.ext E5
  have f12 := i_SI.ext E5
  have f13 := i_SX.ext E5
  have f14 := i_E3.ext E5
  have f15 := i_Et.ext E5
  have f16 := i_Tl.ext E5
  have f17 := i_Ts.ext E5
  have f18 := i_Tn.ext E5
  have f19 := i_Tc.ext E5
  have f20 := i_Tp.ext E5
  have f21 := i_Ta.ext E5
  have f22 := i_Al.ext E5
  have Kp23 := K0.ext E5
  have f24 : Arv Z h5 b5 k5 .char (64 : Int32) ((List.replicate 64 (0 : Int32)).map Value.int) (.int 0) := by rw [List.map_replicate]; exact V5
  have g_b5 := own_ge Z0 ga5
  have Zs25 := Nat.le_trans Z0 E5.1
  refine own_putFk X5 N0 hx hZ hown (own_u hw 72 rfl) e5 f19 f15 (Or.inl (own_u hw 73 rfl)) (own_u hw 35 rfl) g_t1 (ty := (.array .char)) (by decide) rfl rfl (own_dd D rfl) fun T26 h26 L26 X26 N26 e26 W26 F26 => ?_
  have f27 := f9.wr W26
  have f28 := f10.wr W26
  have f29 := f11.wr W26
  have f30 := f12.wr W26
  have f31 := f13.wr W26
  have f32 := f14.wr W26
  have f33 := f15.wr W26
  have f34 := f16.other W26 (Or.inr (slot_ne (Or.inl (own_u hw 42 rfl)) (Or.inl (own_u hw 73 rfl)) (by decide) rfl rfl))
  have f35 := f17.other W26 (Or.inr (slot_ne (Or.inl (own_u hw 49 rfl)) (Or.inl (own_u hw 73 rfl)) (by decide) rfl rfl))
  have f36 := f18.other W26 (Or.inr (slot_ne (Or.inl (own_u hw 51 rfl)) (Or.inl (own_u hw 73 rfl)) (by decide) rfl rfl))
  have f37 := f20.other W26 (Or.inr (slot_ne (Or.inl (own_u hw 189 rfl)) (Or.inl (own_u hw 73 rfl)) (by decide) rfl rfl))
  have f38 := f21.other W26 (Or.inr (slot_ne (Or.inl (own_u hw 246 rfl)) (Or.inl (own_u hw 73 rfl)) (by decide) rfl rfl))
  have f39 := f22.other W26 (Ne.symm ne_t1_la)
  have f40 := f24.other W26 (Ne.symm ne7)
  have Kp41 := Kp23.wr W26 (Or.inl own_m0)
  have Zs42 : n0 ≤ h26.size := by rw [W26.size]; exact Zs25
  refine own_newOk X26 hx hZ hown (own_u hw 190 rfl) (own_u hw 5 rfl) (own_u hw 6 rfl) e26 (own_dd D rfl) (by decide) (by decide) fun T43 h43 b43 X43 e43 E43 ga43 A43 D43 => ?_
  have sz_b43 := own_ge Kp41.1 ga43
  have ne45 := own_ne1 f33.lt ga43
  have ne46 := own_ne1 f39.lt ga43
  have ne47 := own_ne1 f40.lt ga43
  have f48 := f27.ext E43
  have f49 := f28.ext E43
  have f50 := f29.ext E43
  have f51 := f30.ext E43
  have f52 := f31.ext E43
  have f53 := f32.ext E43
  have f54 := f33.ext E43
  have f55 := f34.ext E43
  have f56 := f35.ext E43
  have f57 := f36.ext E43
  have f58 := f37.ext E43
  have f59 := f38.ext E43
  have f60 := f39.ext E43
  have f61 := f40.ext E43
  have f62 := F26.ext E43
  have Kp63 := Kp41.ext E43
  have f64 : own_eF9 Z h43 b43 (.int 0) := D43 (Or.inr (own_u hw 31 rfl)) (ty := .byte) (by decide)
  have f65 : own_eF10 Z h43 b43 .null := D43 (Or.inr (own_u hw 33 rfl)) (ty := (.array .byte)) (by decide)
  have g_b43 := own_ge Zs42 ga43
  have Zs66 := Nat.le_trans Zs42 E43.1
  refine own_r X43 D 2 rfl ?_
  refine own_gF X43 D hZ hown (own_u hw 41 rfl) Via.refl e43 f55 rfl fun T67 X67 e67 => ?_
  refine own_r X67 D 2 rfl ?_
  refine own_gF X67 D hZ hown (own_u hw 50 rfl) Via.refl e67 f57 rfl fun T68 X68 e68 => ?_
  refine own_gS X68 D hZ hown (own_u hw 191 rfl) e68 f52 rfl fun T69 X69 e69 => ?_
  refine own_xI X69 N26 D hZ hown hml (own_u hw 193 rfl) (own_K42 hw) (own_xb (u1 := (.null)) (u2 := (.int 0)) hw Zs66 f48 f49 f50 f51 f53 A43 f65 f64 f60 g_b43 (Ne.symm ne46) ne_a3_u8 hp_cs hp_fm hp_z hp_d0 hp_d3) 1 (by decide) e69 rfl rfl ?_
  rintro v70 T70 h70 L70 X70 N70 e70 ⟨x70, kx70, L_270, rfl, K70, zf_x70, o70_0, o70_1, o70_2, o70_3⟩
  have ne74 := own_ne2 f61.lt zf_x70
  have f76 := own_staK f48 K70 (own_al1 A43.nostat)
  have f77 := own_staK f49 K70 (own_al1 A43.nostat)
  have f82 := f54.keep K70
  have f83 := f55.keep K70 (own_nm1 ne45)
  have f84 := f56.keep K70 (own_nm1 ne45)
  have f85 := f57.keep K70 (own_nm1 ne45)
  have f86 := f58.keep K70 (own_nm1 ne45)
  have f87 := f59.keep K70 (own_nm1 ne45)
  have f89 := f61.keep K70 (own_nm1 ne47)
  have f90 := f62.keep K70 (own_nm1 ne45)
  have Kp92 := Kp63.trans K70 (own_al1 (Or.inr sz_b43))
  have Zs93 := Nat.le_trans Zs66 K70.1
  refine own_r X70 D 2 rfl ?_
  refine own_gF X70 D hZ hown (own_u hw 50 rfl) Via.refl e70 f85 rfl fun T94 X94 e94 => ?_
  refine own_r X94 D 1 rfl ?_
  refine own_gF X94 D hZ hown (own_u hw 72 rfl) Via.refl e94 f90 rfl fun T95 X95 e95 => ?_
  refine own_r X95 D 1 rfl ?_
  refine own_xV X95 N70 D hZ hown hml (own_u hw 204 rfl) (own_K50 hw) (own_gs1 (CM := (List.replicate 64 (0 : Int32))) hw Zs93 f76 f77 o70_0 o70_1 o70_2 o70_3 f89 g_b5 (Ne.symm ne74) (Ne.symm ne47) hp_cs hp_fm hp_d0 hp_d3 List.length_replicate) 0 (by decide) e95 o70_0 rfl rfl ?_
  rintro v96 T96 h96 L96 X96 N96 e96 ⟨C_296, rfl, K96, xp96_0, o96_0⟩
  have f103 := f82.keep K96
  have f104 := f83.keep K96 (own_nm1 ne7)
  have f105 := f84.keep K96 (own_nm1 ne7)
  have f106 := f85.keep K96 (own_nm1 ne7)
  have f107 := f86.keep K96 (own_nm1 ne7)
  have f108 := f87.keep K96 (own_nm1 ne7)
  have f110 := f90.keep K96 (own_nm1 ne7)
  have Kp115 := Kp92.trans K96 (own_al1 (Or.inr sz_b5))
  exact own_rV X96 D Bd rfl e96 ⟨N96, b5, k5, C_296, rfl, Kp115, sz_b5, xp96_0, f103, f104, f105, f106, f110, f107, f108, o96_0⟩ (by decide)
abbrev own_widL_R : Room := { frames := 6, cells := 3, slots := 71, locals := 124 }
def own_widL_q (Z : State) (t1 : Addr) (cs : Int32) (fm : Value) (u8 : Addr) (a3 : Addr) (n1 : Int32) (la : Addr) (kl : ClassId) (LL : List Int32) (h0 : Heap) (v : Option Value) (h : Heap) : Prop := ∃ (ca : Addr) (kc : ClassId) (C_2 : List Int32), v = none ∧ Keep h0 h [t1] ∧ h0.size ≤ ca ∧ C_2.length = 64 ∧ Exa Z h t1 own_cT ∧ own_eF11 Z h t1 (.ref la) ∧ own_eF12 Z h t1 (.long (0 : Int64)) ∧ own_eF13 Z h t1 (.int n1) ∧ own_eF14 Z h t1 (.ref ca) ∧ own_eF15 Z h t1 .null ∧ own_eF16 Z h t1 .null ∧ own_aC Z h ca kc (64 : Int32) C_2
theorem own_widL (hw : own_hw a0 Z) (Z0 : n0 ≤ h0.size) (i_SC : own_eS1 Z h0 (.int cs)) (i_SF : own_eS0 Z h0 fm) (i_S8 : own_eS5 Z h0 (.ref u8)) (i_SI : own_eS6 Z h0 (.ref a3)) (i_SX : own_eS8 Z h0 (.ref a3)) (i_E3 : Exa Z h0 a3 "sun/nio/cs/ISO_8859_1") (i_Et : Exa Z h0 t1 own_cT) (i_Tl : own_eF11 Z h0 t1 (.ref la)) (i_Ts : own_eF12 Z h0 t1 (.long (0 : Int64))) (i_Tn : own_eF13 Z h0 t1 (.int n1)) (i_Tc : own_eF14 Z h0 t1 .null) (i_Tp : own_eF15 Z h0 t1 .null) (i_Ta : own_eF16 Z h0 t1 .null) (i_Al : own_aB Z h0 la kl (64 : Int32) LL) (g_t1 : n0 ≤ t1) (ne_a3_u8 : a3 ≠ u8) (ne_t1_la : t1 ≠ la) (hp_cs : ¬ (cs = (0 : Int32))) (hp_fm : fm.isRef = true) (hp_z : ¬ (n1 = (0 : Int32))) (hp_d0 : ¬ (n1 < (0 : Int32))) (hp_d3 : n1.toNatClampNeg ≤ 3) :
    own_C l Z own_y15 prog_37_method_19_code 2 none ws own_widL_R #[(.ref t1), (.int 1)] h0 (own_W n0 (own_widL_q Z t1 cs fm u8 a3 n1 la kl LL h0)) := by
  refine own_goW own_pn38 own_o38 #[.val (.ref t1), .val (.int 1)] (fun _ => rfl) fun p e s m below meth c s₁ Bd D hml hZ hown X0 e0 N0 => ?_
  have hx := D.1
  have K0 : Keep h0 h0 [t1] := Keep.refl h0 _
  refine own_r X0 D 1 rfl ?_
  refine own_gF X0 D hZ hown (own_u hw 72 rfl) Via.refl e0 i_Tc rfl fun T1 X1 e1 => ?_
  refine own_nY X1 D rfl ?_
  refine own_r X1 D 2 rfl ?_
  refine own_xR X1 N0 D hZ hown hml (own_u hw 176 rfl) (own_K51 hw) (own_kwc (j1 := (1 : Int32)) hw Z0 i_Tn (own_k17 hp_d0 hp_d3)) 0 (by decide) e1 i_Et rfl rfl ?_
  rintro v2 T2 h2 L2 X2 N2 e2 ⟨rfl, K2⟩
  have f3 := i_SC.ext (own_ke K2)
  have f4 := i_SF.ext (own_ke K2)
  have f5 := i_S8.ext (own_ke K2)
  have f6 := i_SI.ext (own_ke K2)
  have f7 := i_SX.ext (own_ke K2)
  have f8 := i_E3.ext (own_ke K2)
  have f9 := i_Et.ext (own_ke K2)
  have f10 := i_Tl.ext (own_ke K2)
  have f11 := i_Ts.ext (own_ke K2)
  have f12 := i_Tn.ext (own_ke K2)
  have f13 := i_Tc.ext (own_ke K2)
  have f14 := i_Tp.ext (own_ke K2)
  have f15 := i_Ta.ext (own_ke K2)
  have f16 := i_Al.ext (own_ke K2)
  have Kp17 := K0.trans K2 (fun x hx => nomatch hx)
  have Zs18 := Nat.le_trans Z0 K2.1
  refine own_r X2 D 1 rfl ?_
  refine own_gF X2 D hZ hown (own_u hw 72 rfl) Via.refl e2 f13 rfl fun T19 X19 e19 => ?_
  refine own_oN X19 D rfl ?_
  refine own_r X19 D 2 rfl ?_
  refine own_xR X19 N2 D hZ hown hml (own_u hw 180 rfl) (own_K52 hw) (own_infL hw Zs18 f3 f4 f5 f6 f7 f8 f9 f10 f11 f12 f13 f14 f15 f16 g_t1 ne_a3_u8 ne_t1_la hp_cs hp_fm hp_z hp_d0 hp_d3) 0 (by decide) e19 f9 rfl rfl ?_
  rintro v20 T20 h20 L20 X20 N20 e20 ⟨ca20, kc20, C_220, rfl, K20, zf_ca20, xp20_0, o20_0, o20_1, o20_2, o20_3, o20_4, o20_5, o20_6, o20_7⟩
  have sz_ca20 := Nat.le_trans Kp17.1 zf_ca20
  have Kp32 := Kp17.trans K20 (own_al1 (Or.inl own_m0))
  refine own_r X20 D 1 rfl ?_
  exact own_rV X20 D Bd rfl e20 ⟨N20, ca20, kc20, C_220, rfl, Kp32, sz_ca20, xp20_0, o20_0, o20_1, o20_2, o20_3, o20_4, o20_5, o20_6, o20_7⟩ (by decide)
abbrev own_acL_R : Room := { frames := 0, cells := 0, slots := 0, locals := 0 }
theorem own_pn28 : plainFor own_y1 = true := plainFor_of_name (by first | (simp [plainName, overriddenIn]; done) | decide +kernel)
def own_acL_q (Z : State) (t1 : Addr) (c1 : Int32) (n1 : Int32) (u2 : Value) (u4 : Value) (u5 : Value) (la : Addr) (kl : ClassId) (LL : List Int32) (h0 : Heap) (v : Option Value) (h : Heap) : Prop := v = none ∧ Keep h0 h [t1, la] ∧ Exa Z h t1 own_cT ∧ own_eF12 Z h t1 u4 ∧ own_eF13 Z h t1 (.int (n1 + (1 : Int32)))
theorem own_acL (hw : own_hw a0 Z) (Z0 : n0 ≤ h0.size) (i_Et : Exa Z h0 t1 own_cT) (i_Tl : own_eF11 Z h0 t1 (.ref la)) (i_Ts : own_eF12 Z h0 t1 u4) (i_Tn : own_eF13 Z h0 t1 (.int n1)) (i_Tc : own_eF14 Z h0 t1 .null) (i_Tp : own_eF15 Z h0 t1 u2) (i_Ta : own_eF16 Z h0 t1 u5) (i_Al : own_aB Z h0 la kl (64 : Int32) LL) (g_t1 : n0 ≤ t1) (g_la : n0 ≤ la) (ne_t1_la : t1 ≠ la) (hp_d0 : ¬ (n1 < (0 : Int32))) (hp_d3 : n1.toNatClampNeg ≤ 3) (hp_hl : LL.length = 64) (hp_c : ¬ ((255 : Int32) < c1)) :
    own_C l Z own_y1 prog_37_method_2_code 2 none ws own_acL_R #[(.ref t1), (.int c1)] h0 (own_W n0 (own_acL_q Z t1 c1 n1 u2 u4 u5 la kl LL h0)) := by
  refine own_goW own_pn28 own_o28 #[.val (.ref t1), .val (.int c1)] (fun _ => rfl) fun p e s m below meth c s₁ Bd D hml hZ hown X0 e0 N0 => ?_
  have hx := D.1
  have K0 : Keep h0 h0 [t1, la] := Keep.refl h0 _
  refine own_r X0 D 1 rfl ?_
  refine own_gF X0 D hZ hown (own_u hw 72 rfl) Via.refl e0 i_Tc rfl fun T1 X1 e1 => ?_
  refine own_oN X1 D rfl ?_
  refine own_r X1 D 2 rfl ?_
  refine own_cN X1 D rfl (flt hp_c).2.2.1 ?_
  refine own_r X1 D 1 rfl ?_
  refine own_gF X1 D hZ hown (own_u hw 50 rfl) Via.refl e1 i_Tn rfl fun T2 X2 e2 => ?_
  refine own_r X2 D 1 rfl ?_
  refine own_gF X2 D hZ hown (own_u hw 41 rfl) Via.refl e2 i_Tl rfl fun T3 X3 e3 => ?_
  refine own_via (own_len X3 hx hZ e3 i_Al (own_dd D rfl)) ?_
  refine own_cN X3 D rfl (tlt (own_lt64 hp_d0 hp_d3)).2.1 ?_
  refine own_r X3 D 1 rfl ?_
  refine own_gF X3 D hZ hown (own_u hw 41 rfl) Via.refl e3 i_Tl rfl fun T4 X4 e4 => ?_
  refine own_r X4 D 2 rfl ?_
  refine own_gF X4 D hZ hown (own_u hw 50 rfl) Via.refl e4 i_Tn rfl fun T5 X5 e5 => ?_
  refine own_r X5 D 3 rfl ?_
  refine own_putFk X5 N0 hx hZ hown (own_u hw 50 rfl) e5 i_Tn i_Et (Or.inl (own_u hw 51 rfl)) (own_u hw 35 rfl) g_t1 (ty := .int) (by decide) rfl rfl (own_dd D rfl) fun T6 h6 L6 X6 N6 e6 W6 F6 => ?_
  have f7 := i_Et.wr W6
  have f9 := i_Ts.other W6 (Or.inr (slot_ne (Or.inl (own_u hw 49 rfl)) (Or.inl (own_u hw 51 rfl)) (by decide) rfl rfl))
  have f13 := i_Al.other W6 (Ne.symm ne_t1_la)
  have Kp14 := K0.wr W6 (Or.inl own_m0)
  refine own_r X6 D 2 rfl ?_
  refine own_stBsk X6 N6 hx hZ e6 f13 g_la (own_j64 hp_d0 hp_d3 hp_hl) (own_dd D rfl) fun T16 h16 L16 X16 N16 e16 W16 V16 => ?_
  have f17 := f7.wr W16
  have f19 := f9.other W16 (Or.inl ne_t1_la)
  have f23 := F6.other W16 (Or.inl ne_t1_la)
  have Kp24 := Kp14.wr W16 (Or.inl own_m1)
  refine own_r X16 D 1 rfl ?_
  exact own_rV X16 D Bd rfl e16 ⟨N16, rfl, Kp24, f17, f19, f23⟩ (by decide)
abbrev own_widB_R : Room := { frames := 0, cells := 0, slots := 0, locals := 0 }
def own_widB_q (Z : State) (t1 : Addr) (n1 : Int32) (u1 : Value) (u2 : Value) (u4 : Value) (u5 : Value) (ca : Addr) (kc : ClassId) (CM : List Int32) (h0 : Heap) (v : Option Value) (h : Heap) : Prop := v = none ∧ Keep h0 h []
theorem own_widB (hw : own_hw a0 Z) (Z0 : n0 ≤ h0.size) (i_Et : Exa Z h0 t1 own_cT) (i_Tl : own_eF11 Z h0 t1 u1) (i_Ts : own_eF12 Z h0 t1 u4) (i_Tn : own_eF13 Z h0 t1 (.int n1)) (i_Tc : own_eF14 Z h0 t1 (.ref ca)) (i_Tp : own_eF15 Z h0 t1 u2) (i_Ta : own_eF16 Z h0 t1 u5) (i_Ach : own_aC Z h0 ca kc (64 : Int32) CM) (hp_d0 : ¬ (n1 < (0 : Int32))) (hp_d3 : n1.toNatClampNeg ≤ 3) :
    own_C l Z own_y15 prog_37_method_19_code 2 none ws own_widB_R #[(.ref t1), (.int 1)] h0 (own_W n0 (own_widB_q Z t1 n1 u1 u2 u4 u5 ca kc CM h0)) := by
  refine own_goW own_pn38 own_o38 #[.val (.ref t1), .val (.int 1)] (fun _ => rfl) fun p e s m below meth c s₁ Bd D hml hZ hown X0 e0 N0 => ?_
  have hx := D.1
  have K0 : Keep h0 h0 [] := Keep.refl h0 _
  refine own_r X0 D 1 rfl ?_
  refine own_gF X0 D hZ hown (own_u hw 72 rfl) Via.refl e0 i_Tc rfl fun T1 X1 e1 => ?_
  refine own_nN X1 D rfl ?_
  refine own_r X1 D 2 rfl ?_
  refine own_gF X1 D hZ hown (own_u hw 72 rfl) Via.refl e1 i_Tc rfl fun T2 X2 e2 => ?_
  refine own_via (own_len X2 hx hZ e2 i_Ach (own_dd D rfl)) ?_
  refine own_r X2 D 1 rfl ?_
  refine own_gF X2 D hZ hown (own_u hw 50 rfl) Via.refl e2 i_Tn rfl fun T3 X3 e3 => ?_
  refine own_r X3 D 1 rfl ?_
  refine own_cY X3 D rfl (flt (own_l64 hp_d0 hp_d3)).2.2.2 ?_
  refine own_r X3 D 1 rfl ?_
  refine own_gF X3 D hZ hown (own_u hw 72 rfl) Via.refl e3 i_Tc rfl fun T4 X4 e4 => ?_
  refine own_oY X4 D rfl ?_
  refine own_r X4 D 2 rfl ?_
  refine own_gF X4 D hZ hown (own_u hw 72 rfl) Via.refl e4 i_Tc rfl fun T5 X5 e5 => ?_
  refine own_via (own_len X5 hx hZ e5 i_Ach (own_dd D rfl)) ?_
  refine own_r X5 D 1 rfl ?_
  refine own_gF X5 D hZ hown (own_u hw 50 rfl) Via.refl e5 i_Tn rfl fun T6 X6 e6 => ?_
  refine own_r X6 D 1 rfl ?_
  refine own_cY X6 D rfl (flt (own_l64 hp_d0 hp_d3)).2.2.2 ?_
  exact own_rV X6 D Bd rfl e6 ⟨N0, rfl, K0⟩ (by decide)
abbrev own_amN_R : Room := { frames := 5, cells := 6, slots := 76, locals := 78 }
theorem own_pn62 : plainFor own_y6 = true := plainFor_of_name (by first | (simp [plainName, overriddenIn]; done) | decide +kernel)
def own_amN_q (Z : State) (t1 : Addr) (c1 : Int32) (cs : Int32) (fm : Value) (a3 : Addr) (u4 : Value) (u5 : Value) (la : Addr) (kl : ClassId) (LL : List Int32) (h0 : Heap) (v : Option Value) (h : Heap) : Prop := v = none ∧ Keep h0 h [t1] ∧ Exa Z h t1 own_cT ∧ own_eF12 Z h t1 u4 ∧ own_eF13 Z h t1 (.int ((0 : Int32) + (1 : Int32)))
theorem own_amN (hw : own_hw a0 Z) (Z0 : n0 ≤ h0.size) (i_SC : own_eS1 Z h0 (.int cs)) (i_SF : own_eS0 Z h0 fm) (i_SX : own_eS8 Z h0 (.ref a3)) (i_E3 : Exa Z h0 a3 "sun/nio/cs/ISO_8859_1") (i_Et : Exa Z h0 t1 own_cT) (i_Tl : own_eF11 Z h0 t1 (.ref la)) (i_Ts : own_eF12 Z h0 t1 u4) (i_Tn : own_eF13 Z h0 t1 (.int 0)) (i_Tc : own_eF14 Z h0 t1 .null) (i_Tp : own_eF15 Z h0 t1 .null) (i_Ta : own_eF16 Z h0 t1 u5) (i_Al : own_aB Z h0 la kl (64 : Int32) LL) (g_t1 : n0 ≤ t1) (ne_t1_la : t1 ≠ la) (hp_cs : ¬ (cs = (0 : Int32))) (hp_fm : fm.isRef = true) (hp_c : (255 : Int32) < c1) :
    own_CH l Z own_EL own_y6 prog_37_method_16_code 2 none ws own_amN_R #[(.ref t1), (.int c1)] h0 (own_W n0 (own_amN_q Z t1 c1 cs fm a3 u4 u5 la kl LL h0)) := by
  refine own_goH own_pn62 own_o62 #[.val (.ref t1), .val (.int c1)] (fun _ => rfl) fun p e s m below meth c s₁ Bd D hml hZ hown X0 e0 N0 hh CR0 S0 W0 Pw hPw => ?_
  have hx := D.1
  have K0 : Keep h0 h0 [t1] := Keep.refl h0 _
  have hEL := own_hEL hw
  refine own_r X0 D 1 rfl ?_
  refine own_gF X0 D hZ hown (own_u hw 72 rfl) Via.refl e0 i_Tc rfl fun T1 X1 e1 => ?_
  refine own_oN X1 D rfl ?_
  refine own_r X1 D 2 rfl ?_
  refine own_cY X1 D rfl (tlt hp_c).2.2.1 ?_
  refine own_r X1 D 2 rfl ?_
  refine own_xRH S0 W0 CR0 hEL X1 N0 D hZ hown hml (own_u hw 172 rfl) (own_K55 hw) (own_widN (j1 := (1 : Int32)) hw Z0 i_SC i_SF i_SX i_E3 i_Et i_Tl i_Ts i_Tn i_Tc i_Tp i_Ta i_Al g_t1 ne_t1_la hp_cs hp_fm (by decide : ¬ ((1 : Int32) < (0 : Int32))) (by decide : (1 : Int32).toNatClampNeg ≤ 3) (by decide : ¬ ((16384 : Int32) < ((0 : Int32) + (1 : Int32))))) 0 (by decide) e1 i_Et rfl rfl ?_
  rintro v2 T2 h2 L2 s kw2 X2 N2 e2 ⟨ca2, kc2, rfl, K2, zf_ca2, o2_0, o2_1, o2_2, o2_3, o2_4, o2_5, o2_6, o2_7⟩ S2 Wk2 CR2 hZ hown
  have ne4 := own_ne2 i_Et.lt zf_ca2
  have g_ca2 := Nat.le_trans Z0 zf_ca2
  have sz_ca2 := Nat.le_trans K0.1 zf_ca2
  have Kp12 := K0.trans K2 (own_al1 (Or.inl own_m0))
  refine own_r X2 D 1 rfl ?_
  refine own_gF X2 D hZ hown (own_u hw 72 rfl) Via.refl e2 o2_4 rfl fun T14 X14 e14 => ?_
  refine own_r X14 D 2 rfl ?_
  refine own_gF X14 D hZ hown (own_u hw 50 rfl) Via.refl e14 o2_3 rfl fun T15 X15 e15 => ?_
  refine own_r X15 D 3 rfl ?_
  show own_H T15 57 #[.val (.ref t1), .val (.int c1)] [(.int 1), (.ref t1), (.int 0), (.ref ca2)]
  refine own_putFk X15 N2 hx hZ hown (own_u hw 50 rfl) e15 o2_3 o2_0 (Or.inl (own_u hw 51 rfl)) (own_u hw 35 rfl) g_t1 (ty := .int) (by decide) rfl rfl (own_dd D rfl) fun T16 h16 L16 X16 N16 e16 W16 F16 => ?_
  have CR29 := CHr.trans CR2 (CHr.wr W16 (Safe.exa hZ.alike o2_0 (by decide) (by decide)) CR2.1)
  have f21 := o2_0.wr W16
  have f24 := o2_2.other W16 (Or.inr (slot_ne (Or.inl (own_u hw 49 rfl)) (Or.inl (own_u hw 51 rfl)) (by decide) rfl rfl))
  have f28 := o2_7.other W16 (Ne.symm ne4)
  have Kp30 := Kp12.wr W16 (Or.inl own_m0)
  have Wk31 : kw2 ≤ h16.size := by rw [W16.size]; exact Wk2
  refine own_r X16 D 1 rfl ?_
  refine own_stCsk X16 N16 hx hZ e16 f28 g_ca2 (own_j64 (j := 0) (by decide) (by decide) List.length_replicate) (own_dd D rfl) fun T33 h33 L33 X33 N33 e33 W33 V33 => ?_
  have CR46 := CHr.trans CR29 (CHr.wr W33 (own_safeA hZ.alike f28 (by decide)) CR29.1)
  have f38 := f21.wr W33
  have f41 := f24.other W33 (Or.inl ne4)
  have f45 := F16.other W33 (Or.inl ne4)
  have Kp47 := Kp30.wr W33 (Or.inr sz_ca2)
  have Wk49 : kw2 ≤ h33.size := by rw [W33.size]; exact Wk31
  rw [hPw]
  refine own_held S2 hh hZ hEL ?_
  exact own_rV X33 D Bd rfl e33 ⟨⟨N33, rfl, Kp47, f38, f41, f45⟩, Wk49, CR46⟩ (by decide)
abbrev own_acNc_R : Room := { frames := 6, cells := 6, slots := 76, locals := 91 }
def own_acNc_q (Z : State) (t1 : Addr) (c1 : Int32) (cs : Int32) (fm : Value) (a3 : Addr) (u4 : Value) (u5 : Value) (la : Addr) (kl : ClassId) (LL : List Int32) (h0 : Heap) (v : Option Value) (h : Heap) : Prop := v = none ∧ Keep h0 h [t1] ∧ Exa Z h t1 own_cT ∧ own_eF12 Z h t1 u4 ∧ own_eF13 Z h t1 (.int ((0 : Int32) + (1 : Int32)))
theorem own_acNc (hw : own_hw a0 Z) (Z0 : n0 ≤ h0.size) (i_SC : own_eS1 Z h0 (.int cs)) (i_SF : own_eS0 Z h0 fm) (i_SX : own_eS8 Z h0 (.ref a3)) (i_E3 : Exa Z h0 a3 "sun/nio/cs/ISO_8859_1") (i_Et : Exa Z h0 t1 own_cT) (i_Tl : own_eF11 Z h0 t1 (.ref la)) (i_Ts : own_eF12 Z h0 t1 u4) (i_Tn : own_eF13 Z h0 t1 (.int 0)) (i_Tc : own_eF14 Z h0 t1 .null) (i_Tp : own_eF15 Z h0 t1 .null) (i_Ta : own_eF16 Z h0 t1 u5) (i_Al : own_aB Z h0 la kl (64 : Int32) LL) (g_t1 : n0 ≤ t1) (ne_t1_la : t1 ≠ la) (hp_cs : ¬ (cs = (0 : Int32))) (hp_fm : fm.isRef = true) (hp_c : (255 : Int32) < c1) :
    own_CH l Z own_EL own_y1 prog_37_method_2_code 2 none ws own_acNc_R #[(.ref t1), (.int c1)] h0 (own_W n0 (own_acNc_q Z t1 c1 cs fm a3 u4 u5 la kl LL h0)) := by
  refine own_goH own_pn28 own_o28 #[.val (.ref t1), .val (.int c1)] (fun _ => rfl) fun p e s m below meth c s₁ Bd D hml hZ hown X0 e0 N0 hh CR0 S0 W0 Pw hPw => ?_
  have hx := D.1
  have K0 : Keep h0 h0 [t1] := Keep.refl h0 _
  have hEL := own_hEL hw
  refine own_r X0 D 1 rfl ?_
  refine own_gF X0 D hZ hown (own_u hw 72 rfl) Via.refl e0 i_Tc rfl fun T1 X1 e1 => ?_
  refine own_oN X1 D rfl ?_
  refine own_r X1 D 2 rfl ?_
  refine own_cY X1 D rfl (tlt hp_c).2.2.1 ?_
  refine own_r X1 D 2 rfl ?_
  refine own_xRH S0 W0 CR0 hEL X1 N0 D hZ hown hml (own_u hw 308 rfl) (own_K58 hw) (own_amN hw Z0 i_SC i_SF i_SX i_E3 i_Et i_Tl i_Ts i_Tn i_Tc i_Tp i_Ta i_Al g_t1 ne_t1_la hp_cs hp_fm hp_c) 0 (by decide) e1 i_Et rfl rfl ?_
  rintro v2 T2 h2 L2 s kw2 X2 N2 e2 ⟨rfl, K2, o2_0, o2_1, o2_2⟩ S2 Wk2 CR2 hZ hown
  have Kp9 := K0.trans K2 (own_al1 (Or.inl own_m0))
  rw [hPw]
  refine own_held S2 hh hZ hEL ?_
  exact own_rV X2 D Bd rfl e2 ⟨⟨N2, rfl, Kp9, o2_0, o2_1, o2_2⟩, Wk2, CR2⟩ (by decide)
abbrev own_amS_R : Room := { frames := 5, cells := 5, slots := 12, locals := 78 }
def own_amS_q (Z : State) (t1 : Addr) (c1 : Int32) (cs : Int32) (fm : Value) (a3 : Addr) (u4 : Value) (u5 : Value) (la : Addr) (kl : ClassId) (LL : List Int32) (ca : Addr) (kc : ClassId) (CM : List Int32) (h0 : Heap) (v : Option Value) (h : Heap) : Prop := v = none ∧ Keep h0 h [t1, ca] ∧ Exa Z h t1 own_cT ∧ own_eF12 Z h t1 u4 ∧ own_eF13 Z h t1 (.int ((0 : Int32) + (1 : Int32)))
theorem own_amS (hw : own_hw a0 Z) (Z0 : n0 ≤ h0.size) (i_SC : own_eS1 Z h0 (.int cs)) (i_SF : own_eS0 Z h0 fm) (i_SX : own_eS8 Z h0 (.ref a3)) (i_E3 : Exa Z h0 a3 "sun/nio/cs/ISO_8859_1") (i_Et : Exa Z h0 t1 own_cT) (i_Tl : own_eF11 Z h0 t1 (.ref la)) (i_Ts : own_eF12 Z h0 t1 u4) (i_Tn : own_eF13 Z h0 t1 (.int 0)) (i_Tc : own_eF14 Z h0 t1 .null) (i_Tp : own_eF15 Z h0 t1 (.ref ca)) (i_Ta : own_eF16 Z h0 t1 u5) (i_Al : own_aB Z h0 la kl (64 : Int32) LL) (i_Ach : own_aC Z h0 ca kc (64 : Int32) CM) (g_t1 : n0 ≤ t1) (g_ca : n0 ≤ ca) (ne_t1_la : t1 ≠ la) (ne_t1_ca : t1 ≠ ca) (hp_cs : ¬ (cs = (0 : Int32))) (hp_fm : fm.isRef = true) (hp_c : (255 : Int32) < c1) (hp_hc : CM.length = 64) :
    own_CH l Z own_EL own_y6 prog_37_method_16_code 2 none ws own_amS_R #[(.ref t1), (.int c1)] h0 (own_W n0 (own_amS_q Z t1 c1 cs fm a3 u4 u5 la kl LL ca kc CM h0)) := by
  refine own_goH own_pn62 own_o62 #[.val (.ref t1), .val (.int c1)] (fun _ => rfl) fun p e s m below meth c s₁ Bd D hml hZ hown X0 e0 N0 hh CR0 S0 W0 Pw hPw => ?_
  have hx := D.1
  have K0 : Keep h0 h0 [t1, ca] := Keep.refl h0 _
  have hEL := own_hEL hw
  refine own_r X0 D 1 rfl ?_
  refine own_gF X0 D hZ hown (own_u hw 72 rfl) Via.refl e0 i_Tc rfl fun T1 X1 e1 => ?_
  refine own_oN X1 D rfl ?_
  refine own_r X1 D 2 rfl ?_
  refine own_cY X1 D rfl (tlt hp_c).2.2.1 ?_
  refine own_r X1 D 2 rfl ?_
  refine own_xRH S0 W0 CR0 hEL X1 N0 D hZ hown hml (own_u hw 172 rfl) (own_K55 hw) (own_widS (j1 := (1 : Int32)) hw Z0 i_SC i_SF i_SX i_E3 i_Et i_Tl i_Ts i_Tn i_Tc i_Tp i_Ta i_Al i_Ach g_t1 ne_t1_la ne_t1_ca hp_cs hp_fm (by decide : ¬ ((1 : Int32) < (0 : Int32))) (by decide : (1 : Int32).toNatClampNeg ≤ 3) (by decide : ¬ ((16384 : Int32) < ((0 : Int32) + (1 : Int32))))) 0 (by decide) e1 i_Et rfl rfl ?_
  rintro v2 T2 h2 L2 s kw2 X2 N2 e2 ⟨rfl, K2, o2_0, o2_1, o2_2, o2_3, o2_4, o2_5, o2_6, o2_7⟩ S2 Wk2 CR2 hZ hown
  have Kp10 := K0.trans K2 (own_al1 (Or.inl own_m0))
  refine own_r X2 D 1 rfl ?_
  refine own_gF X2 D hZ hown (own_u hw 72 rfl) Via.refl e2 o2_4 rfl fun T12 X12 e12 => ?_
  refine own_r X12 D 2 rfl ?_
  refine own_gF X12 D hZ hown (own_u hw 50 rfl) Via.refl e12 o2_3 rfl fun T13 X13 e13 => ?_
  refine own_r X13 D 3 rfl ?_
  show own_H T13 57 #[.val (.ref t1), .val (.int c1)] [(.int 1), (.ref t1), (.int 0), (.ref ca)]
  refine own_putFk X13 N2 hx hZ hown (own_u hw 50 rfl) e13 o2_3 o2_0 (Or.inl (own_u hw 51 rfl)) (own_u hw 35 rfl) g_t1 (ty := .int) (by decide) rfl rfl (own_dd D rfl) fun T14 h14 L14 X14 N14 e14 W14 F14 => ?_
  have CR27 := CHr.trans CR2 (CHr.wr W14 (Safe.exa hZ.alike o2_0 (by decide) (by decide)) CR2.1)
  have f19 := o2_0.wr W14
  have f21 := o2_7.other W14 (Ne.symm ne_t1_ca)
  have f23 := o2_2.other W14 (Or.inr (slot_ne (Or.inl (own_u hw 49 rfl)) (Or.inl (own_u hw 51 rfl)) (by decide) rfl rfl))
  have Kp28 := Kp10.wr W14 (Or.inl own_m0)
  have Wk29 : kw2 ≤ h14.size := by rw [W14.size]; exact Wk2
  refine own_r X14 D 1 rfl ?_
  refine own_stCsk X14 N14 hx hZ e14 f21 g_ca (own_j64 (j := 0) (by decide) (by decide) hp_hc) (own_dd D rfl) fun T31 h31 L31 X31 N31 e31 W31 V31 => ?_
  have CR43 := CHr.trans CR27 (CHr.wr W31 (own_safeA hZ.alike f21 (by decide)) CR27.1)
  have f36 := f19.wr W31
  have f38 := f23.other W31 (Or.inl ne_t1_ca)
  have f42 := F14.other W31 (Or.inl ne_t1_ca)
  have Kp44 := Kp28.wr W31 (Or.inl own_m1)
  have Wk46 : kw2 ≤ h31.size := by rw [W31.size]; exact Wk29
  rw [hPw]
  refine own_held S2 hh hZ hEL ?_
  exact own_rV X31 D Bd rfl e31 ⟨⟨N31, rfl, Kp44, f36, f38, f42⟩, Wk46, CR43⟩ (by decide)
abbrev own_acSc_R : Room := { frames := 6, cells := 5, slots := 12, locals := 91 }
def own_acSc_q (Z : State) (t1 : Addr) (c1 : Int32) (cs : Int32) (fm : Value) (a3 : Addr) (u4 : Value) (u5 : Value) (la : Addr) (kl : ClassId) (LL : List Int32) (ca : Addr) (kc : ClassId) (CM : List Int32) (h0 : Heap) (v : Option Value) (h : Heap) : Prop := v = none ∧ Keep h0 h [t1, ca] ∧ Exa Z h t1 own_cT ∧ own_eF12 Z h t1 u4 ∧ own_eF13 Z h t1 (.int ((0 : Int32) + (1 : Int32)))
theorem own_acSc (hw : own_hw a0 Z) (Z0 : n0 ≤ h0.size) (i_SC : own_eS1 Z h0 (.int cs)) (i_SF : own_eS0 Z h0 fm) (i_SX : own_eS8 Z h0 (.ref a3)) (i_E3 : Exa Z h0 a3 "sun/nio/cs/ISO_8859_1") (i_Et : Exa Z h0 t1 own_cT) (i_Tl : own_eF11 Z h0 t1 (.ref la)) (i_Ts : own_eF12 Z h0 t1 u4) (i_Tn : own_eF13 Z h0 t1 (.int 0)) (i_Tc : own_eF14 Z h0 t1 .null) (i_Tp : own_eF15 Z h0 t1 (.ref ca)) (i_Ta : own_eF16 Z h0 t1 u5) (i_Al : own_aB Z h0 la kl (64 : Int32) LL) (i_Ach : own_aC Z h0 ca kc (64 : Int32) CM) (g_t1 : n0 ≤ t1) (g_ca : n0 ≤ ca) (ne_t1_la : t1 ≠ la) (ne_t1_ca : t1 ≠ ca) (hp_cs : ¬ (cs = (0 : Int32))) (hp_fm : fm.isRef = true) (hp_c : (255 : Int32) < c1) (hp_hc : CM.length = 64) :
    own_CH l Z own_EL own_y1 prog_37_method_2_code 2 none ws own_acSc_R #[(.ref t1), (.int c1)] h0 (own_W n0 (own_acSc_q Z t1 c1 cs fm a3 u4 u5 la kl LL ca kc CM h0)) := by
  refine own_goH own_pn28 own_o28 #[.val (.ref t1), .val (.int c1)] (fun _ => rfl) fun p e s m below meth c s₁ Bd D hml hZ hown X0 e0 N0 hh CR0 S0 W0 Pw hPw => ?_
  have hx := D.1
  have K0 : Keep h0 h0 [t1, ca] := Keep.refl h0 _
  have hEL := own_hEL hw
  refine own_r X0 D 1 rfl ?_
  refine own_gF X0 D hZ hown (own_u hw 72 rfl) Via.refl e0 i_Tc rfl fun T1 X1 e1 => ?_
  refine own_oN X1 D rfl ?_
  refine own_r X1 D 2 rfl ?_
  refine own_cY X1 D rfl (tlt hp_c).2.2.1 ?_
  refine own_r X1 D 2 rfl ?_
  refine own_xRH S0 W0 CR0 hEL X1 N0 D hZ hown hml (own_u hw 308 rfl) (own_K58 hw) (own_amS hw Z0 i_SC i_SF i_SX i_E3 i_Et i_Tl i_Ts i_Tn i_Tc i_Tp i_Ta i_Al i_Ach g_t1 g_ca ne_t1_la ne_t1_ca hp_cs hp_fm hp_c hp_hc) 0 (by decide) e1 i_Et rfl rfl ?_
  rintro v2 T2 h2 L2 s kw2 X2 N2 e2 ⟨rfl, K2, o2_0, o2_1, o2_2⟩ S2 Wk2 CR2 hZ hown
  have Kp8 := K0.trans K2 (own_al2 (Or.inl own_m0) (Or.inl own_m1))
  rw [hPw]
  refine own_held S2 hh hZ hEL ?_
  exact own_rV X2 D Bd rfl e2 ⟨⟨N2, rfl, Kp8, o2_0, o2_1, o2_2⟩, Wk2, CR2⟩ (by decide)
abbrev own_amB_R : Room := { frames := 1, cells := 0, slots := 0, locals := 13 }
def own_amB_q (Z : State) (t1 : Addr) (c1 : Int32) (n1 : Int32) (u1 : Value) (u2 : Value) (u4 : Value) (u5 : Value) (ca : Addr) (kc : ClassId) (CM : List Int32) (h0 : Heap) (v : Option Value) (h : Heap) : Prop := v = none ∧ Keep h0 h [t1, ca] ∧ Exa Z h t1 own_cT ∧ own_eF12 Z h t1 u4 ∧ own_eF13 Z h t1 (.int (n1 + (1 : Int32)))
theorem own_amB (hw : own_hw a0 Z) (Z0 : n0 ≤ h0.size) (i_Et : Exa Z h0 t1 own_cT) (i_Tl : own_eF11 Z h0 t1 u1) (i_Ts : own_eF12 Z h0 t1 u4) (i_Tn : own_eF13 Z h0 t1 (.int n1)) (i_Tc : own_eF14 Z h0 t1 (.ref ca)) (i_Tp : own_eF15 Z h0 t1 u2) (i_Ta : own_eF16 Z h0 t1 u5) (i_Ach : own_aC Z h0 ca kc (64 : Int32) CM) (g_t1 : n0 ≤ t1) (g_ca : n0 ≤ ca) (ne_t1_ca : t1 ≠ ca) (hp_d0 : ¬ (n1 < (0 : Int32))) (hp_d3 : n1.toNatClampNeg ≤ 3) (hp_hc : CM.length = 64) :
    own_C l Z own_y6 prog_37_method_16_code 2 none ws own_amB_R #[(.ref t1), (.int c1)] h0 (own_W n0 (own_amB_q Z t1 c1 n1 u1 u2 u4 u5 ca kc CM h0)) := by
  refine own_goW own_pn62 own_o62 #[.val (.ref t1), .val (.int c1)] (fun _ => rfl) fun p e s m below meth c s₁ Bd D hml hZ hown X0 e0 N0 => ?_
  have hx := D.1
  have K0 : Keep h0 h0 [t1, ca] := Keep.refl h0 _
  refine own_r X0 D 1 rfl ?_
  refine own_gF X0 D hZ hown (own_u hw 72 rfl) Via.refl e0 i_Tc rfl fun T1 X1 e1 => ?_
  refine own_oY X1 D rfl ?_
  refine own_r X1 D 2 rfl ?_
  refine own_xR X1 N0 D hZ hown hml (own_u hw 172 rfl) (own_K55 hw) (own_widB hw Z0 i_Et i_Tl i_Ts i_Tn i_Tc i_Tp i_Ta i_Ach hp_d0 hp_d3) 0 (by decide) e1 i_Et rfl rfl ?_
  rintro v2 T2 h2 L2 X2 N2 e2 ⟨rfl, K2⟩
  have f3 := i_Et.ext (own_ke K2)
  have f5 := i_Ts.ext (own_ke K2)
  have f6 := i_Tn.ext (own_ke K2)
  have f7 := i_Tc.ext (own_ke K2)
  have f10 := i_Ach.ext (own_ke K2)
  have Kp11 := K0.trans K2 (fun x hx => nomatch hx)
  refine own_r X2 D 1 rfl ?_
  refine own_gF X2 D hZ hown (own_u hw 72 rfl) Via.refl e2 f7 rfl fun T13 X13 e13 => ?_
  refine own_r X13 D 2 rfl ?_
  refine own_gF X13 D hZ hown (own_u hw 50 rfl) Via.refl e13 f6 rfl fun T14 X14 e14 => ?_
  refine own_r X14 D 3 rfl ?_
  refine own_putFk X14 N2 hx hZ hown (own_u hw 50 rfl) e14 f6 f3 (Or.inl (own_u hw 51 rfl)) (own_u hw 35 rfl) g_t1 (ty := .int) (by decide) rfl rfl (own_dd D rfl) fun T15 h15 L15 X15 N15 e15 W15 F15 => ?_
  have f16 := f3.wr W15
  have f18 := f5.other W15 (Or.inr (slot_ne (Or.inl (own_u hw 49 rfl)) (Or.inl (own_u hw 51 rfl)) (by decide) rfl rfl))
  have f22 := f10.other W15 (Ne.symm ne_t1_ca)
  have Kp23 := Kp11.wr W15 (Or.inl own_m0)
  refine own_r X15 D 1 rfl ?_
  refine own_stCsk X15 N15 hx hZ e15 f22 g_ca (own_j64 hp_d0 hp_d3 hp_hc) (own_dd D rfl) fun T25 h25 L25 X25 N25 e25 W25 V25 => ?_
  have f26 := f16.wr W25
  have f28 := f18.other W25 (Or.inl ne_t1_ca)
  have f32 := F15.other W25 (Or.inl ne_t1_ca)
  have Kp33 := Kp23.wr W25 (Or.inl own_m1)
  exact own_rV X25 D Bd rfl e25 ⟨N25, rfl, Kp33, f26, f28, f32⟩ (by decide)
abbrev own_acBc_R : Room := { frames := 2, cells := 0, slots := 0, locals := 26 }
def own_acBc_q (Z : State) (t1 : Addr) (c1 : Int32) (n1 : Int32) (u1 : Value) (u2 : Value) (u4 : Value) (u5 : Value) (ca : Addr) (kc : ClassId) (CM : List Int32) (h0 : Heap) (v : Option Value) (h : Heap) : Prop := v = none ∧ Keep h0 h [t1, ca] ∧ Exa Z h t1 own_cT ∧ own_eF12 Z h t1 u4 ∧ own_eF13 Z h t1 (.int (n1 + (1 : Int32)))
theorem own_acBc (hw : own_hw a0 Z) (Z0 : n0 ≤ h0.size) (i_Et : Exa Z h0 t1 own_cT) (i_Tl : own_eF11 Z h0 t1 u1) (i_Ts : own_eF12 Z h0 t1 u4) (i_Tn : own_eF13 Z h0 t1 (.int n1)) (i_Tc : own_eF14 Z h0 t1 (.ref ca)) (i_Tp : own_eF15 Z h0 t1 u2) (i_Ta : own_eF16 Z h0 t1 u5) (i_Ach : own_aC Z h0 ca kc (64 : Int32) CM) (g_t1 : n0 ≤ t1) (g_ca : n0 ≤ ca) (ne_t1_ca : t1 ≠ ca) (hp_d0 : ¬ (n1 < (0 : Int32))) (hp_d3 : n1.toNatClampNeg ≤ 3) (hp_hc : CM.length = 64) :
    own_C l Z own_y1 prog_37_method_2_code 2 none ws own_acBc_R #[(.ref t1), (.int c1)] h0 (own_W n0 (own_acBc_q Z t1 c1 n1 u1 u2 u4 u5 ca kc CM h0)) := by
  refine own_goW own_pn28 own_o28 #[.val (.ref t1), .val (.int c1)] (fun _ => rfl) fun p e s m below meth c s₁ Bd D hml hZ hown X0 e0 N0 => ?_
  have hx := D.1
  have K0 : Keep h0 h0 [t1, ca] := Keep.refl h0 _
  refine own_r X0 D 1 rfl ?_
  refine own_gF X0 D hZ hown (own_u hw 72 rfl) Via.refl e0 i_Tc rfl fun T1 X1 e1 => ?_
  refine own_oY X1 D rfl ?_
  refine own_r X1 D 2 rfl ?_
  refine own_xR X1 N0 D hZ hown hml (own_u hw 308 rfl) (own_K58 hw) (own_amB hw Z0 i_Et i_Tl i_Ts i_Tn i_Tc i_Tp i_Ta i_Ach g_t1 g_ca ne_t1_ca hp_d0 hp_d3 hp_hc) 0 (by decide) e1 i_Et rfl rfl ?_
  rintro v2 T2 h2 L2 X2 N2 e2 ⟨rfl, K2, o2_0, o2_1, o2_2⟩
  have Kp4 := K0.trans K2 (own_al2 (Or.inl own_m0) (Or.inl own_m1))
  exact own_rV X2 D Bd rfl e2 ⟨N2, rfl, Kp4, o2_0, o2_1, o2_2⟩ (by decide)
abbrev own_amL_R : Room := { frames := 7, cells := 3, slots := 71, locals := 137 }
def own_amL_q (Z : State) (t1 : Addr) (c1 : Int32) (cs : Int32) (fm : Value) (u8 : Addr) (a3 : Addr) (n1 : Int32) (la : Addr) (kl : ClassId) (LL : List Int32) (h0 : Heap) (v : Option Value) (h : Heap) : Prop := v = none ∧ Keep h0 h [t1] ∧ Exa Z h t1 own_cT ∧ own_eF12 Z h t1 (.long (0 : Int64)) ∧ own_eF13 Z h t1 (.int (n1 + (1 : Int32)))
theorem own_amL (hw : own_hw a0 Z) (Z0 : n0 ≤ h0.size) (i_SC : own_eS1 Z h0 (.int cs)) (i_SF : own_eS0 Z h0 fm) (i_S8 : own_eS5 Z h0 (.ref u8)) (i_SI : own_eS6 Z h0 (.ref a3)) (i_SX : own_eS8 Z h0 (.ref a3)) (i_E3 : Exa Z h0 a3 "sun/nio/cs/ISO_8859_1") (i_Et : Exa Z h0 t1 own_cT) (i_Tl : own_eF11 Z h0 t1 (.ref la)) (i_Ts : own_eF12 Z h0 t1 (.long (0 : Int64))) (i_Tn : own_eF13 Z h0 t1 (.int n1)) (i_Tc : own_eF14 Z h0 t1 .null) (i_Tp : own_eF15 Z h0 t1 .null) (i_Ta : own_eF16 Z h0 t1 .null) (i_Al : own_aB Z h0 la kl (64 : Int32) LL) (g_t1 : n0 ≤ t1) (ne_a3_u8 : a3 ≠ u8) (ne_t1_la : t1 ≠ la) (hp_cs : ¬ (cs = (0 : Int32))) (hp_fm : fm.isRef = true) (hp_z : ¬ (n1 = (0 : Int32))) (hp_d0 : ¬ (n1 < (0 : Int32))) (hp_d3 : n1.toNatClampNeg ≤ 3) (hp_c : (255 : Int32) < c1) :
    own_C l Z own_y6 prog_37_method_16_code 2 none ws own_amL_R #[(.ref t1), (.int c1)] h0 (own_W n0 (own_amL_q Z t1 c1 cs fm u8 a3 n1 la kl LL h0)) := by
  refine own_goW own_pn62 own_o62 #[.val (.ref t1), .val (.int c1)] (fun _ => rfl) fun p e s m below meth c s₁ Bd D hml hZ hown X0 e0 N0 => ?_
  have hx := D.1
  have K0 : Keep h0 h0 [t1] := Keep.refl h0 _
  refine own_r X0 D 1 rfl ?_
  refine own_gF X0 D hZ hown (own_u hw 72 rfl) Via.refl e0 i_Tc rfl fun T1 X1 e1 => ?_
  refine own_oN X1 D rfl ?_
  refine own_r X1 D 2 rfl ?_
  refine own_cY X1 D rfl (tlt hp_c).2.2.1 ?_
  refine own_r X1 D 2 rfl ?_
  refine own_xR X1 N0 D hZ hown hml (own_u hw 172 rfl) (own_K55 hw) (own_widL hw Z0 i_SC i_SF i_S8 i_SI i_SX i_E3 i_Et i_Tl i_Ts i_Tn i_Tc i_Tp i_Ta i_Al g_t1 ne_a3_u8 ne_t1_la hp_cs hp_fm hp_z hp_d0 hp_d3) 0 (by decide) e1 i_Et rfl rfl ?_
  rintro v2 T2 h2 L2 X2 N2 e2 ⟨ca2, kc2, C_22, rfl, K2, zf_ca2, xp2_0, o2_0, o2_1, o2_2, o2_3, o2_4, o2_5, o2_6, o2_7⟩
  have ne4 := own_ne2 i_Et.lt zf_ca2
  have g_ca2 := Nat.le_trans Z0 zf_ca2
  have sz_ca2 := Nat.le_trans K0.1 zf_ca2
  have Kp14 := K0.trans K2 (own_al1 (Or.inl own_m0))
  refine own_r X2 D 1 rfl ?_
  refine own_gF X2 D hZ hown (own_u hw 72 rfl) Via.refl e2 o2_4 rfl fun T16 X16 e16 => ?_
  refine own_r X16 D 2 rfl ?_
  refine own_gF X16 D hZ hown (own_u hw 50 rfl) Via.refl e16 o2_3 rfl fun T17 X17 e17 => ?_
  refine own_r X17 D 3 rfl ?_
  refine own_putFk X17 N2 hx hZ hown (own_u hw 50 rfl) e17 o2_3 o2_0 (Or.inl (own_u hw 51 rfl)) (own_u hw 35 rfl) g_t1 (ty := .int) (by decide) rfl rfl (own_dd D rfl) fun T18 h18 L18 X18 N18 e18 W18 F18 => ?_
  have f25 := o2_0.wr W18
  have f28 := o2_2.other W18 (Or.inr (slot_ne (Or.inl (own_u hw 49 rfl)) (Or.inl (own_u hw 51 rfl)) (by decide) rfl rfl))
  have f32 := o2_7.other W18 (Ne.symm ne4)
  have Kp33 := Kp14.wr W18 (Or.inl own_m0)
  refine own_r X18 D 1 rfl ?_
  refine own_stCsk X18 N18 hx hZ e18 f32 g_ca2 (own_j64 hp_d0 hp_d3 xp2_0) (own_dd D rfl) fun T35 h35 L35 X35 N35 e35 W35 V35 => ?_
  have f42 := f25.wr W35
  have f45 := f28.other W35 (Or.inl ne4)
  have f49 := F18.other W35 (Or.inl ne4)
  have Kp50 := Kp33.wr W35 (Or.inr sz_ca2)
  exact own_rV X35 D Bd rfl e35 ⟨N35, rfl, Kp50, f42, f45, f49⟩ (by decide)
abbrev own_acLc_R : Room := { frames := 8, cells := 3, slots := 71, locals := 150 }
def own_acLc_q (Z : State) (t1 : Addr) (c1 : Int32) (cs : Int32) (fm : Value) (u8 : Addr) (a3 : Addr) (n1 : Int32) (la : Addr) (kl : ClassId) (LL : List Int32) (h0 : Heap) (v : Option Value) (h : Heap) : Prop := v = none ∧ Keep h0 h [t1] ∧ Exa Z h t1 own_cT ∧ own_eF12 Z h t1 (.long (0 : Int64)) ∧ own_eF13 Z h t1 (.int (n1 + (1 : Int32)))
theorem own_acLc (hw : own_hw a0 Z) (Z0 : n0 ≤ h0.size) (i_SC : own_eS1 Z h0 (.int cs)) (i_SF : own_eS0 Z h0 fm) (i_S8 : own_eS5 Z h0 (.ref u8)) (i_SI : own_eS6 Z h0 (.ref a3)) (i_SX : own_eS8 Z h0 (.ref a3)) (i_E3 : Exa Z h0 a3 "sun/nio/cs/ISO_8859_1") (i_Et : Exa Z h0 t1 own_cT) (i_Tl : own_eF11 Z h0 t1 (.ref la)) (i_Ts : own_eF12 Z h0 t1 (.long (0 : Int64))) (i_Tn : own_eF13 Z h0 t1 (.int n1)) (i_Tc : own_eF14 Z h0 t1 .null) (i_Tp : own_eF15 Z h0 t1 .null) (i_Ta : own_eF16 Z h0 t1 .null) (i_Al : own_aB Z h0 la kl (64 : Int32) LL) (g_t1 : n0 ≤ t1) (ne_a3_u8 : a3 ≠ u8) (ne_t1_la : t1 ≠ la) (hp_cs : ¬ (cs = (0 : Int32))) (hp_fm : fm.isRef = true) (hp_z : ¬ (n1 = (0 : Int32))) (hp_d0 : ¬ (n1 < (0 : Int32))) (hp_d3 : n1.toNatClampNeg ≤ 3) (hp_c : (255 : Int32) < c1) :
    own_C l Z own_y1 prog_37_method_2_code 2 none ws own_acLc_R #[(.ref t1), (.int c1)] h0 (own_W n0 (own_acLc_q Z t1 c1 cs fm u8 a3 n1 la kl LL h0)) := by
  refine own_goW own_pn28 own_o28 #[.val (.ref t1), .val (.int c1)] (fun _ => rfl) fun p e s m below meth c s₁ Bd D hml hZ hown X0 e0 N0 => ?_
  have hx := D.1
  have K0 : Keep h0 h0 [t1] := Keep.refl h0 _
  refine own_r X0 D 1 rfl ?_
  refine own_gF X0 D hZ hown (own_u hw 72 rfl) Via.refl e0 i_Tc rfl fun T1 X1 e1 => ?_
  refine own_oN X1 D rfl ?_
  refine own_r X1 D 2 rfl ?_
  refine own_cY X1 D rfl (tlt hp_c).2.2.1 ?_
  refine own_r X1 D 2 rfl ?_
  refine own_xR X1 N0 D hZ hown hml (own_u hw 308 rfl) (own_K58 hw) (own_amL hw Z0 i_SC i_SF i_S8 i_SI i_SX i_E3 i_Et i_Tl i_Ts i_Tn i_Tc i_Tp i_Ta i_Al g_t1 ne_a3_u8 ne_t1_la hp_cs hp_fm hp_z hp_d0 hp_d3 hp_c) 0 (by decide) e1 i_Et rfl rfl ?_
  rintro v2 T2 h2 L2 X2 N2 e2 ⟨rfl, K2, o2_0, o2_1, o2_2⟩
  have Kp11 := K0.trans K2 (own_al1 (Or.inl own_m0))
  exact own_rV X2 D Bd rfl e2 ⟨N2, rfl, Kp11, o2_0, o2_1, o2_2⟩ (by decide)
abbrev own_HU (M_1 : List Int32) (n1 m1 r1 : Int32) (jj : Nat) : Prop := own_cf M_1 n1 m1 r1 jj (0 : Int32) ∧ own_tbo M_1 n1 m1 (n1 <<< ((1 : Int32) &&& 31)) n1.toNatClampNeg (0 : Int32) (List.replicate (n1 <<< ((1 : Int32) &&& 31)).toNatClampNeg (0 : Int32)) ∧ ¬ (r1 = n1) ∧ ¬ ((r1 <<< ((1 : Int32) &&& 31)) < (0 : Int32)) ∧ (r1 <<< ((1 : Int32) &&& 31)) < (n1 <<< ((1 : Int32) &&& 31)) ∧ ¬ (((r1 <<< ((1 : Int32) &&& 31)) + (1 : Int32)) < (0 : Int32)) ∧ ((r1 <<< ((1 : Int32) &&& 31)) + (1 : Int32)) < (n1 <<< ((1 : Int32) &&& 31)) ∧ (255 : Int32) < (own_gc (own_get (own_tbl M_1 n1.toNatClampNeg (0 : Int32) (List.replicate (n1 <<< ((1 : Int32) &&& 31)).toNatClampNeg (0 : Int32))) (r1 <<< ((1 : Int32) &&& 31))) (own_get (own_tbl M_1 n1.toNatClampNeg (0 : Int32) (List.replicate (n1 <<< ((1 : Int32) &&& 31)).toNatClampNeg (0 : Int32))) ((r1 <<< ((1 : Int32) &&& 31)) + (1 : Int32))))
abbrev own_UU (L_1 : List Int32) (n1 r1 : Int32) (jj jv : Nat) : Prop := own_vn (n1 <<< ((1 : Int32) &&& 31)) n1 n1.toNatClampNeg (0 : Int32) ∧ own_vl L_1 (n1 <<< ((1 : Int32) &&& 31)) n1 jv (0 : Int32) ∧ (own_gcl L_1 n1.toNatClampNeg (0 : Int32) (List.replicate 64 (0 : Int32))).length = 64 ∧ own_HU (own_gcl L_1 n1.toNatClampNeg (0 : Int32) (List.replicate 64 (0 : Int32))) n1 (64 : Int32) r1 jj
def own_kS (n p q : Int32) : Prop := (n = 1 → own_ca (own_M1 p q) 1 1 (1 : Int32).toNatClampNeg 0) ∧ (n = 2 → own_ca (own_M2 p q) 2 2 (2 : Int32).toNatClampNeg 0) ∧ (¬ n = 1 → ¬ n = 2 → own_ca (own_M3 p q) 3 3 (3 : Int32).toNatClampNeg 0)
def own_kV (n p q r : Int32) (jj jv : Nat) : Prop := (n = 1 → own_HU (own_M1 p q) 1 1 r jj ∧ own_UU (own_tbl (own_M1 p q) (1 : Int32).toNatClampNeg (0 : Int32) (List.replicate ((1 : Int32) <<< ((1 : Int32) &&& 31)).toNatClampNeg (0 : Int32))) 1 r jj jv) ∧ (n = 2 → own_HU (own_M2 p q) 2 2 r jj ∧ own_UU (own_tbl (own_M2 p q) (2 : Int32).toNatClampNeg (0 : Int32) (List.replicate ((2 : Int32) <<< ((1 : Int32) &&& 31)).toNatClampNeg (0 : Int32))) 2 r jj jv) ∧ (¬ n = 1 → ¬ n = 2 → own_HU (own_M3 p q) 3 3 r jj ∧ own_UU (own_tbl (own_M3 p q) (3 : Int32).toNatClampNeg (0 : Int32) (List.replicate ((3 : Int32) <<< ((1 : Int32) &&& 31)).toNatClampNeg (0 : Int32))) 3 r jj jv)
def own_E (n b w : Int32) : Int32 := if n = 0 then (if b = 0 then (if w = 0 then 1 else 0) else 0) else 0
theorem own_bv (x m : BitVec 32) (hm : ∀ i, m.getLsbD i = decide (i < 8)) : ((((((BitVec.signExtend 32 (BitVec.signExtend 8 (BitVec.signExtend 32 (BitVec.signExtend 8 ((x.setWidth 16).setWidth 32))))) &&& m) ||| (((BitVec.signExtend 32 (BitVec.signExtend 8 (BitVec.signExtend 32 (BitVec.signExtend 8 (((x.setWidth 16).setWidth 32).sshiftRight 8))))) &&& m) <<< 8)).setWidth 16).setWidth 32).setWidth 16).setWidth 32 = (x.setWidth 16).setWidth 32 := by
  apply BitVec.eq_of_getLsbD_eq
  intro i hi
  simp only [BitVec.getLsbD_setWidth, BitVec.getLsbD_or, BitVec.getLsbD_and, BitVec.getLsbD_shiftLeft, BitVec.getLsbD_signExtend, BitVec.getLsbD_sshiftRight, hm]
  by_cases h8 : i < 8
  · have h16 : i < 16 := by omega
    simp [h8, h16, hi]
  · by_cases h16 : i < 16
    · have a1 : i - 8 < 8 := by omega
      have a2 : i - 8 < 32 := by omega
      have a3 : 8 + (i - 8) = i := by omega
      have a4 : ¬ 32 ≤ i - 8 := by omega
      simp [h8, h16, hi, a1, a2, a3, a4]
    · simp [h16]
theorem own_gcx (y : Int32) : own_gc (own_lo (nar .char y)) (own_hi (nar .char y)) = nar .char y := by
  have e2 : ∀ x : Int32, nar .char x = x.toUInt32.toUInt16.toUInt32.toInt32 := fun _ => rfl
  unfold own_gc own_lo own_hi
  simp only [e2, show ((0 : Int32) &&& 31) = 0 from rfl, show ((8 : Int32) &&& 31) = 8 from rfl]
  have z0 : ∀ x : Int32, x >>> (0 : Int32) = x := fun x => Int32.toBitVec_inj.mp (by simp [Int32.toBitVec_shiftRight])
  have z1 : ∀ x : Int32, x <<< (0 : Int32) = x := fun x => Int32.toBitVec_inj.mp (by simp [Int32.toBitVec_shiftLeft])
  rw [z0, z1]
  apply Int32.toBitVec_inj.mp
  refine own_bv y.toBitVec (255 : Int32).toBitVec fun i => ?_
  rw [show (255 : Int32).toBitVec = BitVec.setWidth 32 (BitVec.allOnes 8) from rfl, BitVec.getLsbD_setWidth, BitVec.getLsbD_allOnes]
  by_cases h : i < 8
  · simp [h]; omega
  · simp [h]
theorem own_ncc (y : Int32) : nar .char (nar .char y) = nar .char y := by
  have e2 : ∀ x : Int32, nar .char x = x.toUInt32.toUInt16.toUInt32.toInt32 := fun _ => rfl
  simp only [e2]
  apply Int32.toBitVec_inj.mp
  show (((y.toBitVec.setWidth 16).setWidth 32).setWidth 16).setWidth 32 = (y.toBitVec.setWidth 16).setWidth 32
  apply BitVec.eq_of_getLsbD_eq
  intro i hi
  simp only [BitVec.getLsbD_setWidth]
  by_cases h : i < 16 <;> simp [h, hi]
abbrev own_Tk (M : List Int32) (k : Int32) : List Int32 := own_tbl M k.toNatClampNeg (0 : Int32) (List.replicate (k <<< ((1 : Int32) &&& 31)).toNatClampNeg (0 : Int32))
abbrev own_gx (L : List Int32) (i : Int32) : Int32 := own_gc (own_get L (i <<< ((1 : Int32) &&& 31))) (own_get L ((i <<< ((1 : Int32) &&& 31)) + (1 : Int32)))
def own_tbB (n m z : Int32) (len : Nat) : Nat → Int32 → Bool
  | 0, i => decide (¬ i < n)
  | f + 1, i => decide (i < n ∧ (¬ i < (0 : Int32) ∧ i < m) ∧ ((¬ (i <<< ((1 : Int32) &&& 31)) < 0 ∧ (i <<< ((1 : Int32) &&& 31)) < z) ∧ (i <<< ((1 : Int32) &&& 31)).toNatClampNeg < len) ∧ ((¬ ((i <<< ((1 : Int32) &&& 31)) + (1 : Int32)) < 0 ∧ ((i <<< ((1 : Int32) &&& 31)) + (1 : Int32)) < z) ∧ ((i <<< ((1 : Int32) &&& 31)) + (1 : Int32)).toNatClampNeg < len)) && own_tbB n m z len f (i + 1)
theorem own_tbT {M : List Int32} {n m z : Int32} {len : Nat} : ∀ (f : Nat) (i : Int32) (L : List Int32), L.length = len → own_tbB n m z len f i = true → own_tbo M n m z f i L
  | 0, i, L, hl, h => of_decide_eq_true (p := ¬ i < n) h
  | f + 1, i, L, hl, h => by
    rw [own_tbB, Bool.and_eq_true] at h
    obtain ⟨h1, h2⟩ := h
    obtain ⟨a1, a2, a3, a4⟩ := of_decide_eq_true h1
    exact ⟨a1, a2, ⟨a3.1, by rw [hl]; exact a3.2⟩, ⟨a4.1, by rw [own_sl hl]; exact a4.2⟩, own_tbT f (i + 1) _ (own_sl (own_sl hl _ _) _ _) h2⟩
theorem own_gll {L : List Int32} : ∀ (f : Nat) (i : Int32) (C : List Int32), (own_gcl L f i C).length = C.length
  | 0, _, _ => rfl
  | f + 1, i, C => (own_gll f (i + 1) _).trans (own_sl rfl _ _)
theorem own_and3 {p n : Int32} (h : (p &&& (3 : Int32)) = n) : ¬ n < (0 : Int32) ∧ n.toNatClampNeg ≤ 3 := by
  have q := c_mask p 3 2 (by decide) (by decide)
  rw [h] at q
  rw [Int32.lt_iff_toInt_lt, show (0 : Int32).toInt = 0 from rfl, Int32.toNatClampNeg]
  omega
theorem own_pos {n : Int32} (h0 : ¬ n < (0 : Int32)) (h : ¬ n = (0 : Int32)) : (0 : Int32) < n := by
  rw [Int32.lt_iff_toInt_lt] at *
  rw [← Int32.toInt_inj] at h
  have e0 : (0 : Int32).toInt = 0 := rfl
  omega
theorem own_is3 {n : Int32} (h0 : ¬ n < (0 : Int32)) (h3 : n.toNatClampNeg ≤ 3) (e0 : ¬ n = (0 : Int32)) (e1 : ¬ n = (1 : Int32)) (e2 : ¬ n = (2 : Int32)) : n = (3 : Int32) := by
  rcases own_three h0 h3 with h | h | h | h
  · exact absurd h e0
  · exact absurd h e1
  · exact absurd h e2
  · exact h
theorem own_fi0 {n : Int32} (h : ¬ n = (0 : Int32)) : own_Fie (0 : Int64) n = (0 : Int32) := by
  unfold own_Fie
  rw [if_pos rfl, if_neg h]
theorem own_fi1 {n : Int32} (h0 : ¬ n < (0 : Int32)) (h3 : n.toNatClampNeg ≤ 3) : own_Fie (0 : Int64) (n + (1 : Int32)) = (0 : Int32) := by
  rcases own_three h0 h3 with rfl | rfl | rfl | rfl <;> decide
theorem own_fq {q : Int64} {n : Int32} (h : ¬ q = (0 : Int64)) : own_Fie q n = (0 : Int32) := by
  unfold own_Fie
  rw [if_neg h]
theorem own_qq3 {n : Int32} (h0 : ¬ n < (0 : Int32)) (h3 : n.toNatClampNeg ≤ 3) : ¬ (((0 : Int64) + (n.toInt64)) + ((16385 : Int32).toInt64)) = (0 : Int64) := by
  rcases own_three h0 h3 with rfl | rfl | rfl | rfl <;> decide
theorem own_qa {n : Int32} (h0 : ¬ n < (0 : Int32)) (h3 : n.toNatClampNeg ≤ 3) : ¬ ((2147483639 : Int64) < (((0 : Int64) + (n.toInt64)) + ((16385 : Int32).toInt64))) := by
  rcases own_three h0 h3 with rfl | rfl | rfl | rfl <;> decide
theorem own_qe : ¬ ((2147483639 : Int64) < ((0 : Int64) + ((16385 : Int32).toInt64))) := by decide
theorem own_bb6 {n : Int32} (h0 : ¬ n < (0 : Int32)) (h3 : n.toNatClampNeg ≤ 3) : ((64 : Int32) - n) < (16385 : Int32) := by
  rcases own_three h0 h3 with rfl | rfl | rfl | rfl <;> decide
theorem own_cab : ∀ (f : Nat) (i : Int32), f ≤ 16385 → i.toInt = 16385 - f → own_ca ([] : List Int32) (16385 : Int32) (16385 : Int32) f i
  | 0, i, _, h => by
    show ¬ i < (16385 : Int32)
    rw [Int32.lt_iff_toInt_lt, show (16385 : Int32).toInt = 16385 from rfl]; omega
  | f + 1, i, hf, h => by
    have q : i < (16385 : Int32) := by rw [Int32.lt_iff_toInt_lt, show (16385 : Int32).toInt = 16385 from rfl]; omega
    refine ⟨q, ⟨?_, q⟩, own_gn i, own_cab f (i + 1) (by omega) ?_⟩
    · rw [Int32.lt_iff_toInt_lt, show (0 : Int32).toInt = 0 from rfl]; omega
    · have g := c_iadd i 1
      have r := rng32 (i + 1)
      have e1 : (1 : Int32).toInt = 1 := rfl
      omega
theorem own_caB : own_ca ([] : List Int32) (16385 : Int32) (16385 : Int32) (16385 : Int32).toNatClampNeg (0 : Int32) := own_cab _ 0 (by decide) (by decide)
theorem own_hu10 {M : List Int32} {m : Int32} (hm : m = (1 : Int32) ∨ m = (64 : Int32)) (c : own_gc (own_lo (own_get M (0 : Int32))) (own_hi (own_get M (0 : Int32))) = own_get M (0 : Int32))  (hf : (255 : Int32) < own_get M (0 : Int32)) : own_HU M (1 : Int32) m (0 : Int32) 0 := by
  have hg : (255 : Int32) < own_gx (own_Tk M 1) (0 : Int32) := by
    show (255 : Int32) < own_gc (own_lo (own_get M (0 : Int32))) (own_hi (own_get M (0 : Int32)))
    rw [c]; exact hf
  rcases hm with rfl | rfl
  · exact ⟨(show (0 = (0 : Int32) ∧ 0 < (1 : Int32) ∧ (¬ 0 < (0 : Int32) ∧ 0 < (1 : Int32)) ∧ (255 : Int32) < own_get M (0)) from ⟨rfl, by decide, ⟨by decide, by decide⟩, hf⟩), own_tbT (len := 2) _ _ _ List.length_replicate (by decide), by decide, by decide, by decide, by decide, by decide, hg⟩
  · exact ⟨(show (0 = (0 : Int32) ∧ 0 < (1 : Int32) ∧ (¬ 0 < (0 : Int32) ∧ 0 < (64 : Int32)) ∧ (255 : Int32) < own_get M (0)) from ⟨rfl, by decide, ⟨by decide, by decide⟩, hf⟩), own_tbT (len := 2) _ _ _ List.length_replicate (by decide), by decide, by decide, by decide, by decide, by decide, hg⟩
theorem own_uu10 {M : List Int32} (c0 : own_gc (own_lo (own_get M (0 : Int32))) (own_hi (own_get M (0 : Int32))) = own_get M (0 : Int32)) (n0 : nar .char (own_get M (0 : Int32)) = own_get M (0 : Int32))  (hf : (255 : Int32) < own_get M (0 : Int32)) : own_UU (own_Tk M 1) (1 : Int32) (0 : Int32) 0 0 := by
  have e0 : own_get (own_gcl (own_Tk M 1) (1 : Int32).toNatClampNeg (0 : Int32) (List.replicate 64 (0 : Int32))) (0 : Int32) = own_get M (0 : Int32) := by
    show nar .char (own_gc (own_lo (own_get M (0 : Int32))) (own_hi (own_get M (0 : Int32)))) = own_get M (0 : Int32)
    rw [c0, n0]
  have v0 : nar .char (nar .char (own_gx (own_Tk M 1) 0)) = own_get M (0 : Int32) := by
    show nar .char (nar .char (own_gc (own_lo (own_get M (0 : Int32))) (own_hi (own_get M (0 : Int32))))) = _
    rw [c0, n0, n0]
  have R0 : own_vr ((1 : Int32) <<< ((1 : Int32) &&& 31)) (1 : Int32) 0 := ⟨by decide, ⟨by decide, by decide, by decide⟩, by decide, ⟨by decide, by decide⟩, by decide, by decide⟩
  refine ⟨(show own_vr ((1 : Int32) <<< ((1 : Int32) &&& 31)) (1 : Int32) 0 ∧ ¬ (0 + 1) < (1 : Int32) from ⟨R0, by decide⟩), (show (own_vr ((1 : Int32) <<< ((1 : Int32) &&& 31)) (1 : Int32) 0 ∧ (255 : Int32) < (nar .char (nar .char (own_gx (own_Tk M 1) 0)))) from ⟨R0, by rw [v0]; exact hf⟩), own_gll _ _ _, ?_⟩
  exact own_hu10 (Or.inr rfl) (by rw [e0]; exact c0)  (by rw [e0]; exact hf)
theorem own_hu20 {M : List Int32} {m : Int32} (hm : m = (2 : Int32) ∨ m = (64 : Int32)) (c : own_gc (own_lo (own_get M (0 : Int32))) (own_hi (own_get M (0 : Int32))) = own_get M (0 : Int32))  (hf : (255 : Int32) < own_get M (0 : Int32)) : own_HU M (2 : Int32) m (0 : Int32) 0 := by
  have hg : (255 : Int32) < own_gx (own_Tk M 2) (0 : Int32) := by
    show (255 : Int32) < own_gc (own_lo (own_get M (0 : Int32))) (own_hi (own_get M (0 : Int32)))
    rw [c]; exact hf
  rcases hm with rfl | rfl
  · exact ⟨(show (0 = (0 : Int32) ∧ 0 < (2 : Int32) ∧ (¬ 0 < (0 : Int32) ∧ 0 < (2 : Int32)) ∧ (255 : Int32) < own_get M (0)) from ⟨rfl, by decide, ⟨by decide, by decide⟩, hf⟩), own_tbT (len := 4) _ _ _ List.length_replicate (by decide), by decide, by decide, by decide, by decide, by decide, hg⟩
  · exact ⟨(show (0 = (0 : Int32) ∧ 0 < (2 : Int32) ∧ (¬ 0 < (0 : Int32) ∧ 0 < (64 : Int32)) ∧ (255 : Int32) < own_get M (0)) from ⟨rfl, by decide, ⟨by decide, by decide⟩, hf⟩), own_tbT (len := 4) _ _ _ List.length_replicate (by decide), by decide, by decide, by decide, by decide, by decide, hg⟩
theorem own_uu20 {M : List Int32} (c0 : own_gc (own_lo (own_get M (0 : Int32))) (own_hi (own_get M (0 : Int32))) = own_get M (0 : Int32)) (n0 : nar .char (own_get M (0 : Int32)) = own_get M (0 : Int32)) (c1 : own_gc (own_lo (own_get M (1 : Int32))) (own_hi (own_get M (1 : Int32))) = own_get M (1 : Int32)) (n1 : nar .char (own_get M (1 : Int32)) = own_get M (1 : Int32))  (hf : (255 : Int32) < own_get M (0 : Int32)) : own_UU (own_Tk M 2) (2 : Int32) (0 : Int32) 0 0 := by
  have e0 : own_get (own_gcl (own_Tk M 2) (2 : Int32).toNatClampNeg (0 : Int32) (List.replicate 64 (0 : Int32))) (0 : Int32) = own_get M (0 : Int32) := by
    show nar .char (own_gc (own_lo (own_get M (0 : Int32))) (own_hi (own_get M (0 : Int32)))) = own_get M (0 : Int32)
    rw [c0, n0]
  have e1 : own_get (own_gcl (own_Tk M 2) (2 : Int32).toNatClampNeg (0 : Int32) (List.replicate 64 (0 : Int32))) (1 : Int32) = own_get M (1 : Int32) := by
    show nar .char (own_gc (own_lo (own_get M (1 : Int32))) (own_hi (own_get M (1 : Int32)))) = own_get M (1 : Int32)
    rw [c1, n1]
  have v0 : nar .char (nar .char (own_gx (own_Tk M 2) 0)) = own_get M (0 : Int32) := by
    show nar .char (nar .char (own_gc (own_lo (own_get M (0 : Int32))) (own_hi (own_get M (0 : Int32))))) = _
    rw [c0, n0, n0]
  have R0 : own_vr ((2 : Int32) <<< ((1 : Int32) &&& 31)) (2 : Int32) 0 := ⟨by decide, ⟨by decide, by decide, by decide⟩, by decide, ⟨by decide, by decide⟩, by decide, by decide⟩
  have R1 : own_vr ((2 : Int32) <<< ((1 : Int32) &&& 31)) (2 : Int32) (0 + 1) := ⟨by decide, ⟨by decide, by decide, by decide⟩, by decide, ⟨by decide, by decide⟩, by decide, by decide⟩
  refine ⟨(show own_vr ((2 : Int32) <<< ((1 : Int32) &&& 31)) (2 : Int32) 0 ∧ own_vr ((2 : Int32) <<< ((1 : Int32) &&& 31)) (2 : Int32) (0 + 1) ∧ ¬ ((0 + 1) + 1) < (2 : Int32) from ⟨R0, ⟨R1, by decide⟩⟩), (show (own_vr ((2 : Int32) <<< ((1 : Int32) &&& 31)) (2 : Int32) 0 ∧ (255 : Int32) < (nar .char (nar .char (own_gx (own_Tk M 2) 0)))) from ⟨R0, by rw [v0]; exact hf⟩), own_gll _ _ _, ?_⟩
  exact own_hu20 (Or.inr rfl) (by rw [e0]; exact c0)  (by rw [e0]; exact hf)
theorem own_hu21 {M : List Int32} {m : Int32} (hm : m = (2 : Int32) ∨ m = (64 : Int32)) (c : own_gc (own_lo (own_get M (1 : Int32))) (own_hi (own_get M (1 : Int32))) = own_get M (1 : Int32)) (h0 : ¬ (255 : Int32) < own_get M (0 : Int32)) (hf : (255 : Int32) < own_get M (1 : Int32)) : own_HU M (2 : Int32) m (1 : Int32) 1 := by
  have hg : (255 : Int32) < own_gx (own_Tk M 2) (1 : Int32) := by
    show (255 : Int32) < own_gc (own_lo (own_get M (1 : Int32))) (own_hi (own_get M (1 : Int32)))
    rw [c]; exact hf
  rcases hm with rfl | rfl
  · exact ⟨(show (0 < (2 : Int32) ∧ (¬ 0 < (0 : Int32) ∧ 0 < (2 : Int32)) ∧ ¬ ((255 : Int32) < own_get M (0)) ∧ ((0 + 1) = (1 : Int32) ∧ (0 + 1) < (2 : Int32) ∧ (¬ (0 + 1) < (0 : Int32) ∧ (0 + 1) < (2 : Int32)) ∧ (255 : Int32) < own_get M ((0 + 1)))) from ⟨by decide, ⟨by decide, by decide⟩, h0, ⟨rfl, by decide, ⟨by decide, by decide⟩, hf⟩⟩), own_tbT (len := 4) _ _ _ List.length_replicate (by decide), by decide, by decide, by decide, by decide, by decide, hg⟩
  · exact ⟨(show (0 < (2 : Int32) ∧ (¬ 0 < (0 : Int32) ∧ 0 < (64 : Int32)) ∧ ¬ ((255 : Int32) < own_get M (0)) ∧ ((0 + 1) = (1 : Int32) ∧ (0 + 1) < (2 : Int32) ∧ (¬ (0 + 1) < (0 : Int32) ∧ (0 + 1) < (64 : Int32)) ∧ (255 : Int32) < own_get M ((0 + 1)))) from ⟨by decide, ⟨by decide, by decide⟩, h0, ⟨rfl, by decide, ⟨by decide, by decide⟩, hf⟩⟩), own_tbT (len := 4) _ _ _ List.length_replicate (by decide), by decide, by decide, by decide, by decide, by decide, hg⟩
theorem own_uu21 {M : List Int32} (c0 : own_gc (own_lo (own_get M (0 : Int32))) (own_hi (own_get M (0 : Int32))) = own_get M (0 : Int32)) (n0 : nar .char (own_get M (0 : Int32)) = own_get M (0 : Int32)) (c1 : own_gc (own_lo (own_get M (1 : Int32))) (own_hi (own_get M (1 : Int32))) = own_get M (1 : Int32)) (n1 : nar .char (own_get M (1 : Int32)) = own_get M (1 : Int32)) (h0 : ¬ (255 : Int32) < own_get M (0 : Int32)) (hf : (255 : Int32) < own_get M (1 : Int32)) : own_UU (own_Tk M 2) (2 : Int32) (1 : Int32) 1 1 := by
  have e0 : own_get (own_gcl (own_Tk M 2) (2 : Int32).toNatClampNeg (0 : Int32) (List.replicate 64 (0 : Int32))) (0 : Int32) = own_get M (0 : Int32) := by
    show nar .char (own_gc (own_lo (own_get M (0 : Int32))) (own_hi (own_get M (0 : Int32)))) = own_get M (0 : Int32)
    rw [c0, n0]
  have e1 : own_get (own_gcl (own_Tk M 2) (2 : Int32).toNatClampNeg (0 : Int32) (List.replicate 64 (0 : Int32))) (1 : Int32) = own_get M (1 : Int32) := by
    show nar .char (own_gc (own_lo (own_get M (1 : Int32))) (own_hi (own_get M (1 : Int32)))) = own_get M (1 : Int32)
    rw [c1, n1]
  have v0 : nar .char (nar .char (own_gx (own_Tk M 2) 0)) = own_get M (0 : Int32) := by
    show nar .char (nar .char (own_gc (own_lo (own_get M (0 : Int32))) (own_hi (own_get M (0 : Int32))))) = _
    rw [c0, n0, n0]
  have v1 : nar .char (nar .char (own_gx (own_Tk M 2) (0 + 1))) = own_get M (1 : Int32) := by
    show nar .char (nar .char (own_gc (own_lo (own_get M (1 : Int32))) (own_hi (own_get M (1 : Int32))))) = _
    rw [c1, n1, n1]
  have R0 : own_vr ((2 : Int32) <<< ((1 : Int32) &&& 31)) (2 : Int32) 0 := ⟨by decide, ⟨by decide, by decide, by decide⟩, by decide, ⟨by decide, by decide⟩, by decide, by decide⟩
  have R1 : own_vr ((2 : Int32) <<< ((1 : Int32) &&& 31)) (2 : Int32) (0 + 1) := ⟨by decide, ⟨by decide, by decide, by decide⟩, by decide, ⟨by decide, by decide⟩, by decide, by decide⟩
  refine ⟨(show own_vr ((2 : Int32) <<< ((1 : Int32) &&& 31)) (2 : Int32) 0 ∧ own_vr ((2 : Int32) <<< ((1 : Int32) &&& 31)) (2 : Int32) (0 + 1) ∧ ¬ ((0 + 1) + 1) < (2 : Int32) from ⟨R0, ⟨R1, by decide⟩⟩), (show (own_vr ((2 : Int32) <<< ((1 : Int32) &&& 31)) (2 : Int32) 0 ∧ ¬ ((255 : Int32) < (nar .char (nar .char (own_gx (own_Tk M 2) 0)))) ∧ (own_vr ((2 : Int32) <<< ((1 : Int32) &&& 31)) (2 : Int32) (0 + 1) ∧ (255 : Int32) < (nar .char (nar .char (own_gx (own_Tk M 2) (0 + 1)))))) from ⟨R0, by rw [v0]; exact h0, ⟨R1, by rw [v1]; exact hf⟩⟩), own_gll _ _ _, ?_⟩
  exact own_hu21 (Or.inr rfl) (by rw [e1]; exact c1) (by rw [e0]; exact h0) (by rw [e1]; exact hf)
theorem own_hu30 {M : List Int32} {m : Int32} (hm : m = (3 : Int32) ∨ m = (64 : Int32)) (c : own_gc (own_lo (own_get M (0 : Int32))) (own_hi (own_get M (0 : Int32))) = own_get M (0 : Int32))  (hf : (255 : Int32) < own_get M (0 : Int32)) : own_HU M (3 : Int32) m (0 : Int32) 0 := by
  have hg : (255 : Int32) < own_gx (own_Tk M 3) (0 : Int32) := by
    show (255 : Int32) < own_gc (own_lo (own_get M (0 : Int32))) (own_hi (own_get M (0 : Int32)))
    rw [c]; exact hf
  rcases hm with rfl | rfl
  · exact ⟨(show (0 = (0 : Int32) ∧ 0 < (3 : Int32) ∧ (¬ 0 < (0 : Int32) ∧ 0 < (3 : Int32)) ∧ (255 : Int32) < own_get M (0)) from ⟨rfl, by decide, ⟨by decide, by decide⟩, hf⟩), own_tbT (len := 6) _ _ _ List.length_replicate (by decide), by decide, by decide, by decide, by decide, by decide, hg⟩
  · exact ⟨(show (0 = (0 : Int32) ∧ 0 < (3 : Int32) ∧ (¬ 0 < (0 : Int32) ∧ 0 < (64 : Int32)) ∧ (255 : Int32) < own_get M (0)) from ⟨rfl, by decide, ⟨by decide, by decide⟩, hf⟩), own_tbT (len := 6) _ _ _ List.length_replicate (by decide), by decide, by decide, by decide, by decide, by decide, hg⟩
theorem own_uu30 {M : List Int32} (c0 : own_gc (own_lo (own_get M (0 : Int32))) (own_hi (own_get M (0 : Int32))) = own_get M (0 : Int32)) (n0 : nar .char (own_get M (0 : Int32)) = own_get M (0 : Int32)) (c1 : own_gc (own_lo (own_get M (1 : Int32))) (own_hi (own_get M (1 : Int32))) = own_get M (1 : Int32)) (n1 : nar .char (own_get M (1 : Int32)) = own_get M (1 : Int32)) (c2 : own_gc (own_lo (own_get M (2 : Int32))) (own_hi (own_get M (2 : Int32))) = own_get M (2 : Int32)) (n2 : nar .char (own_get M (2 : Int32)) = own_get M (2 : Int32))  (hf : (255 : Int32) < own_get M (0 : Int32)) : own_UU (own_Tk M 3) (3 : Int32) (0 : Int32) 0 0 := by
  have e0 : own_get (own_gcl (own_Tk M 3) (3 : Int32).toNatClampNeg (0 : Int32) (List.replicate 64 (0 : Int32))) (0 : Int32) = own_get M (0 : Int32) := by
    show nar .char (own_gc (own_lo (own_get M (0 : Int32))) (own_hi (own_get M (0 : Int32)))) = own_get M (0 : Int32)
    rw [c0, n0]
  have e1 : own_get (own_gcl (own_Tk M 3) (3 : Int32).toNatClampNeg (0 : Int32) (List.replicate 64 (0 : Int32))) (1 : Int32) = own_get M (1 : Int32) := by
    show nar .char (own_gc (own_lo (own_get M (1 : Int32))) (own_hi (own_get M (1 : Int32)))) = own_get M (1 : Int32)
    rw [c1, n1]
  have e2 : own_get (own_gcl (own_Tk M 3) (3 : Int32).toNatClampNeg (0 : Int32) (List.replicate 64 (0 : Int32))) (2 : Int32) = own_get M (2 : Int32) := by
    show nar .char (own_gc (own_lo (own_get M (2 : Int32))) (own_hi (own_get M (2 : Int32)))) = own_get M (2 : Int32)
    rw [c2, n2]
  have v0 : nar .char (nar .char (own_gx (own_Tk M 3) 0)) = own_get M (0 : Int32) := by
    show nar .char (nar .char (own_gc (own_lo (own_get M (0 : Int32))) (own_hi (own_get M (0 : Int32))))) = _
    rw [c0, n0, n0]
  have R0 : own_vr ((3 : Int32) <<< ((1 : Int32) &&& 31)) (3 : Int32) 0 := ⟨by decide, ⟨by decide, by decide, by decide⟩, by decide, ⟨by decide, by decide⟩, by decide, by decide⟩
  have R1 : own_vr ((3 : Int32) <<< ((1 : Int32) &&& 31)) (3 : Int32) (0 + 1) := ⟨by decide, ⟨by decide, by decide, by decide⟩, by decide, ⟨by decide, by decide⟩, by decide, by decide⟩
  have R2 : own_vr ((3 : Int32) <<< ((1 : Int32) &&& 31)) (3 : Int32) ((0 + 1) + 1) := ⟨by decide, ⟨by decide, by decide, by decide⟩, by decide, ⟨by decide, by decide⟩, by decide, by decide⟩
  refine ⟨(show own_vr ((3 : Int32) <<< ((1 : Int32) &&& 31)) (3 : Int32) 0 ∧ own_vr ((3 : Int32) <<< ((1 : Int32) &&& 31)) (3 : Int32) (0 + 1) ∧ own_vr ((3 : Int32) <<< ((1 : Int32) &&& 31)) (3 : Int32) ((0 + 1) + 1) ∧ ¬ (((0 + 1) + 1) + 1) < (3 : Int32) from ⟨R0, ⟨R1, ⟨R2, by decide⟩⟩⟩), (show (own_vr ((3 : Int32) <<< ((1 : Int32) &&& 31)) (3 : Int32) 0 ∧ (255 : Int32) < (nar .char (nar .char (own_gx (own_Tk M 3) 0)))) from ⟨R0, by rw [v0]; exact hf⟩), own_gll _ _ _, ?_⟩
  exact own_hu30 (Or.inr rfl) (by rw [e0]; exact c0)  (by rw [e0]; exact hf)
theorem own_hu31 {M : List Int32} {m : Int32} (hm : m = (3 : Int32) ∨ m = (64 : Int32)) (c : own_gc (own_lo (own_get M (1 : Int32))) (own_hi (own_get M (1 : Int32))) = own_get M (1 : Int32)) (h0 : ¬ (255 : Int32) < own_get M (0 : Int32)) (hf : (255 : Int32) < own_get M (1 : Int32)) : own_HU M (3 : Int32) m (1 : Int32) 1 := by
  have hg : (255 : Int32) < own_gx (own_Tk M 3) (1 : Int32) := by
    show (255 : Int32) < own_gc (own_lo (own_get M (1 : Int32))) (own_hi (own_get M (1 : Int32)))
    rw [c]; exact hf
  rcases hm with rfl | rfl
  · exact ⟨(show (0 < (3 : Int32) ∧ (¬ 0 < (0 : Int32) ∧ 0 < (3 : Int32)) ∧ ¬ ((255 : Int32) < own_get M (0)) ∧ ((0 + 1) = (1 : Int32) ∧ (0 + 1) < (3 : Int32) ∧ (¬ (0 + 1) < (0 : Int32) ∧ (0 + 1) < (3 : Int32)) ∧ (255 : Int32) < own_get M ((0 + 1)))) from ⟨by decide, ⟨by decide, by decide⟩, h0, ⟨rfl, by decide, ⟨by decide, by decide⟩, hf⟩⟩), own_tbT (len := 6) _ _ _ List.length_replicate (by decide), by decide, by decide, by decide, by decide, by decide, hg⟩
  · exact ⟨(show (0 < (3 : Int32) ∧ (¬ 0 < (0 : Int32) ∧ 0 < (64 : Int32)) ∧ ¬ ((255 : Int32) < own_get M (0)) ∧ ((0 + 1) = (1 : Int32) ∧ (0 + 1) < (3 : Int32) ∧ (¬ (0 + 1) < (0 : Int32) ∧ (0 + 1) < (64 : Int32)) ∧ (255 : Int32) < own_get M ((0 + 1)))) from ⟨by decide, ⟨by decide, by decide⟩, h0, ⟨rfl, by decide, ⟨by decide, by decide⟩, hf⟩⟩), own_tbT (len := 6) _ _ _ List.length_replicate (by decide), by decide, by decide, by decide, by decide, by decide, hg⟩
theorem own_uu31 {M : List Int32} (c0 : own_gc (own_lo (own_get M (0 : Int32))) (own_hi (own_get M (0 : Int32))) = own_get M (0 : Int32)) (n0 : nar .char (own_get M (0 : Int32)) = own_get M (0 : Int32)) (c1 : own_gc (own_lo (own_get M (1 : Int32))) (own_hi (own_get M (1 : Int32))) = own_get M (1 : Int32)) (n1 : nar .char (own_get M (1 : Int32)) = own_get M (1 : Int32)) (c2 : own_gc (own_lo (own_get M (2 : Int32))) (own_hi (own_get M (2 : Int32))) = own_get M (2 : Int32)) (n2 : nar .char (own_get M (2 : Int32)) = own_get M (2 : Int32)) (h0 : ¬ (255 : Int32) < own_get M (0 : Int32)) (hf : (255 : Int32) < own_get M (1 : Int32)) : own_UU (own_Tk M 3) (3 : Int32) (1 : Int32) 1 1 := by
  have e0 : own_get (own_gcl (own_Tk M 3) (3 : Int32).toNatClampNeg (0 : Int32) (List.replicate 64 (0 : Int32))) (0 : Int32) = own_get M (0 : Int32) := by
    show nar .char (own_gc (own_lo (own_get M (0 : Int32))) (own_hi (own_get M (0 : Int32)))) = own_get M (0 : Int32)
    rw [c0, n0]
  have e1 : own_get (own_gcl (own_Tk M 3) (3 : Int32).toNatClampNeg (0 : Int32) (List.replicate 64 (0 : Int32))) (1 : Int32) = own_get M (1 : Int32) := by
    show nar .char (own_gc (own_lo (own_get M (1 : Int32))) (own_hi (own_get M (1 : Int32)))) = own_get M (1 : Int32)
    rw [c1, n1]
  have e2 : own_get (own_gcl (own_Tk M 3) (3 : Int32).toNatClampNeg (0 : Int32) (List.replicate 64 (0 : Int32))) (2 : Int32) = own_get M (2 : Int32) := by
    show nar .char (own_gc (own_lo (own_get M (2 : Int32))) (own_hi (own_get M (2 : Int32)))) = own_get M (2 : Int32)
    rw [c2, n2]
  have v0 : nar .char (nar .char (own_gx (own_Tk M 3) 0)) = own_get M (0 : Int32) := by
    show nar .char (nar .char (own_gc (own_lo (own_get M (0 : Int32))) (own_hi (own_get M (0 : Int32))))) = _
    rw [c0, n0, n0]
  have v1 : nar .char (nar .char (own_gx (own_Tk M 3) (0 + 1))) = own_get M (1 : Int32) := by
    show nar .char (nar .char (own_gc (own_lo (own_get M (1 : Int32))) (own_hi (own_get M (1 : Int32))))) = _
    rw [c1, n1, n1]
  have R0 : own_vr ((3 : Int32) <<< ((1 : Int32) &&& 31)) (3 : Int32) 0 := ⟨by decide, ⟨by decide, by decide, by decide⟩, by decide, ⟨by decide, by decide⟩, by decide, by decide⟩
  have R1 : own_vr ((3 : Int32) <<< ((1 : Int32) &&& 31)) (3 : Int32) (0 + 1) := ⟨by decide, ⟨by decide, by decide, by decide⟩, by decide, ⟨by decide, by decide⟩, by decide, by decide⟩
  have R2 : own_vr ((3 : Int32) <<< ((1 : Int32) &&& 31)) (3 : Int32) ((0 + 1) + 1) := ⟨by decide, ⟨by decide, by decide, by decide⟩, by decide, ⟨by decide, by decide⟩, by decide, by decide⟩
  refine ⟨(show own_vr ((3 : Int32) <<< ((1 : Int32) &&& 31)) (3 : Int32) 0 ∧ own_vr ((3 : Int32) <<< ((1 : Int32) &&& 31)) (3 : Int32) (0 + 1) ∧ own_vr ((3 : Int32) <<< ((1 : Int32) &&& 31)) (3 : Int32) ((0 + 1) + 1) ∧ ¬ (((0 + 1) + 1) + 1) < (3 : Int32) from ⟨R0, ⟨R1, ⟨R2, by decide⟩⟩⟩), (show (own_vr ((3 : Int32) <<< ((1 : Int32) &&& 31)) (3 : Int32) 0 ∧ ¬ ((255 : Int32) < (nar .char (nar .char (own_gx (own_Tk M 3) 0)))) ∧ (own_vr ((3 : Int32) <<< ((1 : Int32) &&& 31)) (3 : Int32) (0 + 1) ∧ (255 : Int32) < (nar .char (nar .char (own_gx (own_Tk M 3) (0 + 1)))))) from ⟨R0, by rw [v0]; exact h0, ⟨R1, by rw [v1]; exact hf⟩⟩), own_gll _ _ _, ?_⟩
  exact own_hu31 (Or.inr rfl) (by rw [e1]; exact c1) (by rw [e0]; exact h0) (by rw [e1]; exact hf)
theorem own_hu32 {M : List Int32} {m : Int32} (hm : m = (3 : Int32) ∨ m = (64 : Int32)) (c : own_gc (own_lo (own_get M (2 : Int32))) (own_hi (own_get M (2 : Int32))) = own_get M (2 : Int32)) (h0 : ¬ (255 : Int32) < own_get M (0 : Int32)) (h1 : ¬ (255 : Int32) < own_get M (1 : Int32)) (hf : (255 : Int32) < own_get M (2 : Int32)) : own_HU M (3 : Int32) m (2 : Int32) 2 := by
  have hg : (255 : Int32) < own_gx (own_Tk M 3) (2 : Int32) := by
    show (255 : Int32) < own_gc (own_lo (own_get M (2 : Int32))) (own_hi (own_get M (2 : Int32)))
    rw [c]; exact hf
  rcases hm with rfl | rfl
  · exact ⟨(show (0 < (3 : Int32) ∧ (¬ 0 < (0 : Int32) ∧ 0 < (3 : Int32)) ∧ ¬ ((255 : Int32) < own_get M (0)) ∧ ((0 + 1) < (3 : Int32) ∧ (¬ (0 + 1) < (0 : Int32) ∧ (0 + 1) < (3 : Int32)) ∧ ¬ ((255 : Int32) < own_get M ((0 + 1))) ∧ (((0 + 1) + 1) = (2 : Int32) ∧ ((0 + 1) + 1) < (3 : Int32) ∧ (¬ ((0 + 1) + 1) < (0 : Int32) ∧ ((0 + 1) + 1) < (3 : Int32)) ∧ (255 : Int32) < own_get M (((0 + 1) + 1))))) from ⟨by decide, ⟨by decide, by decide⟩, h0, ⟨by decide, ⟨by decide, by decide⟩, h1, ⟨rfl, by decide, ⟨by decide, by decide⟩, hf⟩⟩⟩), own_tbT (len := 6) _ _ _ List.length_replicate (by decide), by decide, by decide, by decide, by decide, by decide, hg⟩
  · exact ⟨(show (0 < (3 : Int32) ∧ (¬ 0 < (0 : Int32) ∧ 0 < (64 : Int32)) ∧ ¬ ((255 : Int32) < own_get M (0)) ∧ ((0 + 1) < (3 : Int32) ∧ (¬ (0 + 1) < (0 : Int32) ∧ (0 + 1) < (64 : Int32)) ∧ ¬ ((255 : Int32) < own_get M ((0 + 1))) ∧ (((0 + 1) + 1) = (2 : Int32) ∧ ((0 + 1) + 1) < (3 : Int32) ∧ (¬ ((0 + 1) + 1) < (0 : Int32) ∧ ((0 + 1) + 1) < (64 : Int32)) ∧ (255 : Int32) < own_get M (((0 + 1) + 1))))) from ⟨by decide, ⟨by decide, by decide⟩, h0, ⟨by decide, ⟨by decide, by decide⟩, h1, ⟨rfl, by decide, ⟨by decide, by decide⟩, hf⟩⟩⟩), own_tbT (len := 6) _ _ _ List.length_replicate (by decide), by decide, by decide, by decide, by decide, by decide, hg⟩
theorem own_uu32 {M : List Int32} (c0 : own_gc (own_lo (own_get M (0 : Int32))) (own_hi (own_get M (0 : Int32))) = own_get M (0 : Int32)) (n0 : nar .char (own_get M (0 : Int32)) = own_get M (0 : Int32)) (c1 : own_gc (own_lo (own_get M (1 : Int32))) (own_hi (own_get M (1 : Int32))) = own_get M (1 : Int32)) (n1 : nar .char (own_get M (1 : Int32)) = own_get M (1 : Int32)) (c2 : own_gc (own_lo (own_get M (2 : Int32))) (own_hi (own_get M (2 : Int32))) = own_get M (2 : Int32)) (n2 : nar .char (own_get M (2 : Int32)) = own_get M (2 : Int32)) (h0 : ¬ (255 : Int32) < own_get M (0 : Int32)) (h1 : ¬ (255 : Int32) < own_get M (1 : Int32)) (hf : (255 : Int32) < own_get M (2 : Int32)) : own_UU (own_Tk M 3) (3 : Int32) (2 : Int32) 2 2 := by
  have e0 : own_get (own_gcl (own_Tk M 3) (3 : Int32).toNatClampNeg (0 : Int32) (List.replicate 64 (0 : Int32))) (0 : Int32) = own_get M (0 : Int32) := by
    show nar .char (own_gc (own_lo (own_get M (0 : Int32))) (own_hi (own_get M (0 : Int32)))) = own_get M (0 : Int32)
    rw [c0, n0]
  have e1 : own_get (own_gcl (own_Tk M 3) (3 : Int32).toNatClampNeg (0 : Int32) (List.replicate 64 (0 : Int32))) (1 : Int32) = own_get M (1 : Int32) := by
    show nar .char (own_gc (own_lo (own_get M (1 : Int32))) (own_hi (own_get M (1 : Int32)))) = own_get M (1 : Int32)
    rw [c1, n1]
  have e2 : own_get (own_gcl (own_Tk M 3) (3 : Int32).toNatClampNeg (0 : Int32) (List.replicate 64 (0 : Int32))) (2 : Int32) = own_get M (2 : Int32) := by
    show nar .char (own_gc (own_lo (own_get M (2 : Int32))) (own_hi (own_get M (2 : Int32)))) = own_get M (2 : Int32)
    rw [c2, n2]
  have v0 : nar .char (nar .char (own_gx (own_Tk M 3) 0)) = own_get M (0 : Int32) := by
    show nar .char (nar .char (own_gc (own_lo (own_get M (0 : Int32))) (own_hi (own_get M (0 : Int32))))) = _
    rw [c0, n0, n0]
  have v1 : nar .char (nar .char (own_gx (own_Tk M 3) (0 + 1))) = own_get M (1 : Int32) := by
    show nar .char (nar .char (own_gc (own_lo (own_get M (1 : Int32))) (own_hi (own_get M (1 : Int32))))) = _
    rw [c1, n1, n1]
  have v2 : nar .char (nar .char (own_gx (own_Tk M 3) ((0 + 1) + 1))) = own_get M (2 : Int32) := by
    show nar .char (nar .char (own_gc (own_lo (own_get M (2 : Int32))) (own_hi (own_get M (2 : Int32))))) = _
    rw [c2, n2, n2]
  have R0 : own_vr ((3 : Int32) <<< ((1 : Int32) &&& 31)) (3 : Int32) 0 := ⟨by decide, ⟨by decide, by decide, by decide⟩, by decide, ⟨by decide, by decide⟩, by decide, by decide⟩
  have R1 : own_vr ((3 : Int32) <<< ((1 : Int32) &&& 31)) (3 : Int32) (0 + 1) := ⟨by decide, ⟨by decide, by decide, by decide⟩, by decide, ⟨by decide, by decide⟩, by decide, by decide⟩
  have R2 : own_vr ((3 : Int32) <<< ((1 : Int32) &&& 31)) (3 : Int32) ((0 + 1) + 1) := ⟨by decide, ⟨by decide, by decide, by decide⟩, by decide, ⟨by decide, by decide⟩, by decide, by decide⟩
  refine ⟨(show own_vr ((3 : Int32) <<< ((1 : Int32) &&& 31)) (3 : Int32) 0 ∧ own_vr ((3 : Int32) <<< ((1 : Int32) &&& 31)) (3 : Int32) (0 + 1) ∧ own_vr ((3 : Int32) <<< ((1 : Int32) &&& 31)) (3 : Int32) ((0 + 1) + 1) ∧ ¬ (((0 + 1) + 1) + 1) < (3 : Int32) from ⟨R0, ⟨R1, ⟨R2, by decide⟩⟩⟩), (show (own_vr ((3 : Int32) <<< ((1 : Int32) &&& 31)) (3 : Int32) 0 ∧ ¬ ((255 : Int32) < (nar .char (nar .char (own_gx (own_Tk M 3) 0)))) ∧ (own_vr ((3 : Int32) <<< ((1 : Int32) &&& 31)) (3 : Int32) (0 + 1) ∧ ¬ ((255 : Int32) < (nar .char (nar .char (own_gx (own_Tk M 3) (0 + 1))))) ∧ (own_vr ((3 : Int32) <<< ((1 : Int32) &&& 31)) (3 : Int32) ((0 + 1) + 1) ∧ (255 : Int32) < (nar .char (nar .char (own_gx (own_Tk M 3) ((0 + 1) + 1))))))) from ⟨R0, by rw [v0]; exact h0, ⟨R1, by rw [v1]; exact h1, ⟨R2, by rw [v2]; exact hf⟩⟩⟩), own_gll _ _ _, ?_⟩
  exact own_hu32 (Or.inr rfl) (by rw [e2]; exact c2) (by rw [e0]; exact h0) (by rw [e1]; exact h1) (by rw [e2]; exact hf)
theorem own_kU {n p q : Int32} (h0 : ¬ n < (0 : Int32)) (h3 : n.toNatClampNeg ≤ 3) (hz : ¬ n = (0 : Int32)) (hS : ¬ own_kS n p q) : ∃ (r : Int32) (jj jv : Nat), own_kV n p q r jj jv := by
  rcases own_three h0 h3 with rfl | rfl | rfl | rfl
  · exact absurd rfl hz
  ·
    by_cases b0 : (255 : Int32) < own_get (own_M1 p q) (0 : Int32)
    · exact ⟨(0 : Int32), 0, 0, fun _ => ⟨own_hu10 (M := (own_M1 p q)) (Or.inl rfl) (own_gcx _)  b0, own_uu10 (M := (own_M1 p q)) (own_gcx _) (own_ncc _)  b0⟩, fun e => absurd e (by decide), fun e => absurd rfl e⟩
    exact absurd (show own_kS (1 : Int32) p q from ⟨fun _ => (show (0 < (1 : Int32) ∧ (¬ 0 < (0 : Int32) ∧ 0 < (1 : Int32)) ∧ ¬ ((255 : Int32) < own_get (own_M1 p q) (0)) ∧ ¬ (0 + 1) < (1 : Int32)) from ⟨by decide, ⟨by decide, by decide⟩, b0, by decide⟩), fun e => absurd e (by decide), fun e => absurd rfl e⟩) hS
  ·
    by_cases b0 : (255 : Int32) < own_get (own_M2 p q) (0 : Int32)
    · exact ⟨(0 : Int32), 0, 0, fun e => absurd e (by decide), fun _ => ⟨own_hu20 (M := (own_M2 p q)) (Or.inl rfl) (own_gcx _)  b0, own_uu20 (M := (own_M2 p q)) (own_gcx _) (own_ncc _) (own_gcx _) (own_ncc _)  b0⟩, fun _ e => absurd rfl e⟩
    by_cases b1 : (255 : Int32) < own_get (own_M2 p q) (1 : Int32)
    · exact ⟨(1 : Int32), 1, 1, fun e => absurd e (by decide), fun _ => ⟨own_hu21 (M := (own_M2 p q)) (Or.inl rfl) (own_gcx _) b0 b1, own_uu21 (M := (own_M2 p q)) (own_gcx _) (own_ncc _) (own_gcx _) (own_ncc _) b0 b1⟩, fun _ e => absurd rfl e⟩
    exact absurd (show own_kS (2 : Int32) p q from ⟨fun e => absurd e (by decide), fun _ => (show (0 < (2 : Int32) ∧ (¬ 0 < (0 : Int32) ∧ 0 < (2 : Int32)) ∧ ¬ ((255 : Int32) < own_get (own_M2 p q) (0)) ∧ ((0 + 1) < (2 : Int32) ∧ (¬ (0 + 1) < (0 : Int32) ∧ (0 + 1) < (2 : Int32)) ∧ ¬ ((255 : Int32) < own_get (own_M2 p q) ((0 + 1))) ∧ ¬ ((0 + 1) + 1) < (2 : Int32))) from ⟨by decide, ⟨by decide, by decide⟩, b0, ⟨by decide, ⟨by decide, by decide⟩, b1, by decide⟩⟩), fun _ e => absurd rfl e⟩) hS
  ·
    by_cases b0 : (255 : Int32) < own_get (own_M3 p q) (0 : Int32)
    · exact ⟨(0 : Int32), 0, 0, fun e => absurd e (by decide), fun e => absurd e (by decide), fun _ _ => ⟨own_hu30 (M := (own_M3 p q)) (Or.inl rfl) (own_gcx _)  b0, own_uu30 (M := (own_M3 p q)) (own_gcx _) (own_ncc _) (own_gcx _) (own_ncc _) (own_gcx _) (own_ncc _)  b0⟩⟩
    by_cases b1 : (255 : Int32) < own_get (own_M3 p q) (1 : Int32)
    · exact ⟨(1 : Int32), 1, 1, fun e => absurd e (by decide), fun e => absurd e (by decide), fun _ _ => ⟨own_hu31 (M := (own_M3 p q)) (Or.inl rfl) (own_gcx _) b0 b1, own_uu31 (M := (own_M3 p q)) (own_gcx _) (own_ncc _) (own_gcx _) (own_ncc _) (own_gcx _) (own_ncc _) b0 b1⟩⟩
    by_cases b2 : (255 : Int32) < own_get (own_M3 p q) (2 : Int32)
    · exact ⟨(2 : Int32), 2, 2, fun e => absurd e (by decide), fun e => absurd e (by decide), fun _ _ => ⟨own_hu32 (M := (own_M3 p q)) (Or.inl rfl) (own_gcx _) b0 b1 b2, own_uu32 (M := (own_M3 p q)) (own_gcx _) (own_ncc _) (own_gcx _) (own_ncc _) (own_gcx _) (own_ncc _) b0 b1 b2⟩⟩
    exact absurd (show own_kS (3 : Int32) p q from ⟨fun e => absurd e (by decide), fun e => absurd e (by decide), fun _ _ => (show (0 < (3 : Int32) ∧ (¬ 0 < (0 : Int32) ∧ 0 < (3 : Int32)) ∧ ¬ ((255 : Int32) < own_get (own_M3 p q) (0)) ∧ ((0 + 1) < (3 : Int32) ∧ (¬ (0 + 1) < (0 : Int32) ∧ (0 + 1) < (3 : Int32)) ∧ ¬ ((255 : Int32) < own_get (own_M3 p q) ((0 + 1))) ∧ (((0 + 1) + 1) < (3 : Int32) ∧ (¬ ((0 + 1) + 1) < (0 : Int32) ∧ ((0 + 1) + 1) < (3 : Int32)) ∧ ¬ ((255 : Int32) < own_get (own_M3 p q) (((0 + 1) + 1))) ∧ ¬ (((0 + 1) + 1) + 1) < (3 : Int32)))) from ⟨by decide, ⟨by decide, by decide⟩, b0, ⟨by decide, ⟨by decide, by decide⟩, b1, ⟨by decide, ⟨by decide, by decide⟩, b2, by decide⟩⟩⟩)⟩) hS
theorem own_pn0 : plainFor x = true := plainFor_of_name (by first | (simp [plainName, overriddenIn]; done) | decide +kernel)
end OwnAll
theorem own_rm0 (l : Launch) (Z : State) (a0 : Array Value) (hw : own_hw a0 Z) (ws : List Jvm.Cond) (p0 : Int32) (p1 : Int32) (p2 : Int32) (p3 : Int32) (cs : Int32) (fm : Value) (u8 : Addr) (a3 : Addr) (de : Addr) (kd : ClassId) (h0 : Heap) (n0 : Nat) (Z0 : n0 ≤ h0.size) (i_SC : own_eS1 Z h0 (.int cs)) (i_SF : own_eS0 Z h0 fm) (i_SA : own_eS2 Z h0 (.int 1)) (i_SH : own_eS3 Z h0 (.int 0)) (i_SL : own_eS4 Z h0 (.int 8)) (i_S8 : own_eS5 Z h0 (.ref u8)) (i_SI : own_eS6 Z h0 (.ref a3)) (i_SX : own_eS8 Z h0 (.ref a3)) (i_E3 : Exa Z h0 a3 "sun/nio/cs/ISO_8859_1") (i_SD : own_eS7 Z h0 (.ref de)) (i_Ad : Arv Z h0 de kd (.object "java/lang/Object") (0 : Int32) [] .null) (ne_a3_u8 : a3 ≠ u8) (hp_cs : ¬ (cs = (0 : Int32))) (hp_fm : fm.isRef = true) :
    own_CH l Z own_EL x code maxLocals ret ws room_1 #[(.int p0), (.int p1), (.int p2), (.int p3)] h0 (own_W n0 (fun v _ => v = some (.int 1))) := by
  refine own_goH own_pn0 own_o0 #[.val (.int p0), .val (.int p1), .val (.int p2), .val (.int p3), .unset, .unset, .unset, .unset, .unset, .unset, .unset, .unset] (fun _ => rfl) fun p e s m below meth c s₁ Bd D hml hZ hown X0 e0 N0 hh CR0 S0 W0 Pw hPw => ?_
  have hx := D.1
  have hEL := own_hEL hw
  refine own_r X0 D 3 rfl ?_
  show own_H s₁ 3 #[.val (.int p0), .val (.int p1), .val (.int p2), .val (.int p3), .unset, .unset, .unset, .unset, .unset, .unset, .unset, .unset] [(.int (p1 &&& (3 : Int32)))]
  generalize hvg1 : (p1 &&& (3 : Int32)) = vg1
  refine own_r X0 D 4 rfl ?_
  have J2 : ∀ (TJ2 : State) (XJ2 : Stand p l e room_1 s m #[(.int p0), (.int p1), (.int p2), (.int p3)] below meth c TJ2 [] 0 0) (EJ2 : TJ2.heap = h0) (zj3 : Int32), zj3 = (if (p2 &&& (1 : Int32)) = (0 : Int32) then (0 : Int32) else (1 : Int32)) → own_G p e below Pw (TJ2.setTop (mkF m 16 #[.val (.int p0), .val (.int p1), .val (.int p2), .val (.int p3), .val (.int vg1), .unset, .unset, .unset, .unset, .unset, .unset, .unset] [(.int zj3)])) := by
    intro TJ2 XJ2 EJ2 zj3 hzj3
    refine own_r XJ2 D 4 rfl ?_
    have J4 : ∀ (TJ4 : State) (XJ4 : Stand p l e room_1 s m #[(.int p0), (.int p1), (.int p2), (.int p3)] below meth c TJ4 [] 0 0) (EJ4 : TJ4.heap = h0) (zj5 : Int32), zj5 = (if (p2 &&& (2 : Int32)) = (0 : Int32) then (0 : Int32) else (1 : Int32)) → own_G p e below Pw (TJ4.setTop (mkF m 29 #[.val (.int p0), .val (.int p1), .val (.int p2), .val (.int p3), .val (.int vg1), .val (.int zj3), .unset, .unset, .unset, .unset, .unset, .unset] [(.int zj5)])) := by
      intro TJ4 XJ4 EJ4 zj5 hzj5
      refine own_r XJ4 D 4 rfl ?_
      have hd0 := (own_and3 hvg1).1
      have hd3 := (own_and3 hvg1).2
      have J6 : ∀ (x7 : Addr) (x8 : Addr) (c9 : Int32) (t1 : Addr) (q1 : Int64) (n1 : Int32) (s1 : State) (kwJ6 : Nat) (TJ6 : State) (hJ6 : Heap) (LJ6 : List Loc) (XJ6 : Stand p l e room_1 s1 m #[(.int p0), (.int p1), (.int p2), (.int p3)] below meth c TJ6 LJ6 48 67072) (NJ6 : Fr n0 LJ6) (eJ6 : TJ6.heap = hJ6) (ZJ6 : n0 ≤ hJ6.size) (SJ6 : own_S s s1 kwJ6) (WkJ6 : kwJ6 ≤ hJ6.size) (CRJ6 : CHr Z own_EL s.vm h0 s1.vm hJ6) (hZ1 : Z.Warmed39 s1.vm) (hown1 : s1.vm.findClass "com/example/fields_in_tables/fieldsintables/TextBuilderIsEmptyPinLaw" = some m.cls) (gE : Exa Z hJ6 t1 own_cT) (gs : own_eF12 Z hJ6 t1 (.long q1)) (gn : own_eF13 Z hJ6 t1 (.int n1)) (hF : own_Fie q1 n1 = own_E vg1 zj3 zj5), own_G p e below Pw (TJ6.setTop (mkF m 166 #[.val (.int p0), .val (.int p1), .val (.int p2), .val (.int p3), .val (.int vg1), .val (.int zj3), .val (.int zj5), .val (.ref x7), .val (.ref x8), .val (.int c9), .val (.ref t1), .val (.int 1)] [])) := by
        intro x7 x8 c9 t1 q1 n1 s kwJ6 TJ6 hJ6 LJ6 XJ6 NJ6 eJ6 ZJ6 SJ6 WkJ6 CRJ6 hZ hown gE gs gn hF
        refine own_r XJ6 D 2 rfl ?_
        refine own_xVP XJ6 D hZ hown hml (own_u hw 43 rfl) (own_K59 hw) (own_ie hw gs gn) 1 (by decide) eJ6 gE rfl rfl fun T7 X7 e7 => ?_
        refine own_r X7 D 1 rfl ?_
        by_cases hc8 : vg1 = (0 : Int32)
        ·
          refine own_fN X7 D rfl (teq hc8).2 ?_
          refine own_r X7 D 1 rfl ?_
          by_cases hc9 : zj3 = (0 : Int32)
          ·
            refine own_fN X7 D rfl (teq hc9).2 ?_
            refine own_r X7 D 1 rfl ?_
            by_cases hc10 : zj5 = (0 : Int32)
            ·
              refine own_fN X7 D rfl (teq hc10).2 ?_
              refine own_r X7 D 2 rfl ?_
              refine own_cN X7 D rfl (teq (hF.trans (by simp only [own_E, if_pos hc8, if_pos hc9, if_pos hc10]))).2 ?_
              refine own_r X7 D 3 rfl ?_
              show own_H T7 202 #[.val (.int p0), .val (.int p1), .val (.int p2), .val (.int p3), .val (.int vg1), .val (.int zj3), .val (.int zj5), .val (.ref x7), .val (.ref x8), .val (.int c9), .val (.ref t1), .val (.int 1)] [(.int 1)]
              refine own_r X7 D 2 rfl ?_
              rw [hPw]
              refine own_held SJ6 hh hZ hEL ?_
              exact own_rN X7 D Bd (by simp) rfl e7 ⟨⟨NJ6, rfl⟩, WkJ6, CRJ6⟩ (by decide)
            ·
              refine own_fY X7 D rfl (feq hc10).2 ?_
              refine own_r X7 D 1 rfl ?_
              refine own_cN X7 D rfl (teq (hF.trans (by simp only [own_E, if_pos hc8, if_pos hc9, if_neg hc10]))).2 ?_
              refine own_r X7 D 3 rfl ?_
              show own_H T7 202 #[.val (.int p0), .val (.int p1), .val (.int p2), .val (.int p3), .val (.int vg1), .val (.int zj3), .val (.int zj5), .val (.ref x7), .val (.ref x8), .val (.int c9), .val (.ref t1), .val (.int 1)] [(.int 1)]
              refine own_r X7 D 2 rfl ?_
              rw [hPw]
              refine own_held SJ6 hh hZ hEL ?_
              exact own_rN X7 D Bd (by simp) rfl e7 ⟨⟨NJ6, rfl⟩, WkJ6, CRJ6⟩ (by decide)
          ·
            refine own_fY X7 D rfl (feq hc9).2 ?_
            refine own_r X7 D 1 rfl ?_
            refine own_cN X7 D rfl (teq (hF.trans (by simp only [own_E, if_pos hc8, if_neg hc9]))).2 ?_
            refine own_r X7 D 3 rfl ?_
            show own_H T7 202 #[.val (.int p0), .val (.int p1), .val (.int p2), .val (.int p3), .val (.int vg1), .val (.int zj3), .val (.int zj5), .val (.ref x7), .val (.ref x8), .val (.int c9), .val (.ref t1), .val (.int 1)] [(.int 1)]
            refine own_r X7 D 2 rfl ?_
            rw [hPw]
            refine own_held SJ6 hh hZ hEL ?_
            exact own_rN X7 D Bd (by simp) rfl e7 ⟨⟨NJ6, rfl⟩, WkJ6, CRJ6⟩ (by decide)
        ·
          refine own_fY X7 D rfl (feq hc8).2 ?_
          refine own_r X7 D 1 rfl ?_
          refine own_cN X7 D rfl (teq (hF.trans (by simp only [own_E, if_neg hc8]))).2 ?_
          refine own_r X7 D 3 rfl ?_
          show own_H T7 202 #[.val (.int p0), .val (.int p1), .val (.int p2), .val (.int p3), .val (.int vg1), .val (.int zj3), .val (.int zj5), .val (.ref x7), .val (.ref x8), .val (.int c9), .val (.ref t1), .val (.int 1)] [(.int 1)]
          refine own_r X7 D 2 rfl ?_
          rw [hPw]
          refine own_held SJ6 hh hZ hEL ?_
          exact own_rN X7 D Bd (by simp) rfl e7 ⟨⟨NJ6, rfl⟩, WkJ6, CRJ6⟩ (by decide)
      by_cases hc11 : vg1 = (0 : Int32)
      ·
        obtain ⟨v12, T12, h12, L12, s, kw12, X12, N12, e12, hq12, S12, Wk12, CR12, hZ, hown, st12⟩ := own_callSH (y := own_y16) (W := 0) S0 W0 CR0 hEL XJ4 N0 hx hZ hown (own_u hw 0 rfl) (own_u hw 1 rfl) (own_u hw 2 rfl) (own_u hw 3 rfl) (by decide) (own_dr0 hw Z0 hc11) (by decide) (by decide) (by decide) (by decide) EJ4 (pc := 35) (Ls := #[.val (.int p0), .val (.int p1), .val (.int p2), .val (.int p3), .val (.int vg1), .val (.int zj3), .val (.int zj5), .unset, .unset, .unset, .unset, .unset]) (st := [(.int p1), (.int p0), (.int vg1)]) (argsL := [(.int vg1), (.int p0), (.int p1)]) (rest := []) (by rw [hml]; rfl) (lenOf own_pd45 rfl) rfl rfl (Nat.le_of_eq rfl) (own_dd D rfl)
        obtain ⟨x12, y12, ky12, rfl, K12, zf_x12, o12_0, o12_1, o12_2, o12_3⟩ := hq12
        refine own_via st12 ?_
        have f15 := i_SC.ext (own_ke K12)
        have f16 := i_SF.ext (own_ke K12)
        have f22 := i_SX.ext (own_ke K12)
        have f23 := i_E3.ext (own_ke K12)
        have f24 := i_SD.ext (own_ke K12)
        have f25 := i_Ad.ext (own_ke K12)
        have Zs26 := Nat.le_trans Z0 K12.1
        refine own_r X12 D 1 rfl ?_
        refine own_newOk X12 hx hZ hown (own_u hw 4 rfl) (own_u hw 5 rfl) (own_u hw 6 rfl) e12 (own_dd D rfl) (by decide) (by decide) fun T27 h27 b27 X27 e27 E27 ga27 A27 D27 => ?_
        have ne29 := own_ne1 f25.lt ga27
        have ne30 := own_ne1 o12_0.lt ga27
        have ne31 := own_ne1 o12_3.lt ga27
        have CR47 := CHr.trans CR12 (CHr.ext E27 CR12.1)
        have f32 := f15.ext E27
        have f33 := f16.ext E27
        have f39 := f22.ext E27
        have f40 := f23.ext E27
        have f41 := f24.ext E27
        have f42 := f25.ext E27
        have f43 := o12_0.ext E27
        have f44 := o12_1.ext E27
        have f45 := o12_2.ext E27
        have f46 := o12_3.ext E27
        have f48 : own_eF9 Z h27 b27 (.int 0) := D27 (Or.inr (own_u hw 31 rfl)) (ty := .byte) (by decide)
        have f49 : own_eF10 Z h27 b27 .null := D27 (Or.inr (own_u hw 33 rfl)) (ty := (.array .byte)) (by decide)
        have g_b27 := own_ge Zs26 ga27
        have Wk50 := Nat.le_trans Wk12 E27.1
        have Zs51 := Nat.le_trans Zs26 E27.1
        refine own_r X27 D 2 rfl ?_
        refine own_newAk X27 hx hZ (own_u hw 7 rfl) e27 (own_dd D rfl) (by decide) (cap := 16385) (by decide) (by decide) (by decide) (by decide) 0 rfl fun T52 h52 k52 b52 X52 e52 E52 ga52 V52 Ex52 => ?_
        have ne57 := own_ne1 A27.lt ga52
        have CR76 := CHr.trans CR47 (CHr.ext E52 CR47.1)
        have f58 := f32.ext E52
        have f59 := f33.ext E52
        have f65 := f39.ext E52
        have f66 := f40.ext E52
        have f67 := f41.ext E52
        have f68 := f42.ext E52
        have f69 := f43.ext E52
        have f70 := f44.ext E52
        have f71 := f45.ext E52
        have f72 := f46.ext E52
        have f73 := A27.ext E52
        have f74 := f48.ext E52
        have f75 := f49.ext E52
        have f77 : Arv Z h52 b52 k52 .char (16385 : Int32) [] (.int 0) := V52
        have Wk78 := Nat.le_trans Wk50 E52.1
        have Zs79 := Nat.le_trans Zs51 E52.1
        refine own_xI X52 N12 D hZ hown hml (own_u hw 8 rfl) (own_K19 hw) (own_ccB (u1 := (.null)) (u2 := (.int 0)) (M_1 := ([] : List Int32)) (n1 := (16385 : Int32)) hw Zs79 f58 f73 f75 f74 f77 g_b27 ne57 hp_cs (by decide : ¬ ((16385 : Int32) = (0 : Int32))) (by decide : ¬ ((16385 : Int32) < (0 : Int32))) (by decide : (16385 : Int32).toNatClampNeg ≤ 16385) own_caB) 1 (by decide) e52 rfl rfl ?_
        rintro v80 T80 h80 L80 X80 N80 e80 ⟨x80, kx80, L_280, rfl, K80, zf_x80, o80_0, o80_1, o80_2, o80_3⟩
        have ne82 := own_ne2 f68.lt zf_x80
        have CR104 := CHr.trans CR76 (CHr.keep K80 (own_al1 (own_safeN hZ.alike f73 f75)) CR76.1)
        have f87 := own_staK f58 K80 (own_al1 f73.nostat)
        have f88 := own_staK f59 K80 (own_al1 f73.nostat)
        have f94 := own_staK f65 K80 (own_al1 f73.nostat)
        have f95 := f66.keep K80
        have f96 := own_staK f67 K80 (own_al1 f73.nostat)
        have f97 := f68.keep K80 (own_nm1 ne29)
        have f98 := f69.keep K80
        have f99 := f70.keep K80 (own_nm1 ne30)
        have f100 := f71.keep K80 (own_nm1 ne30)
        have f101 := f72.keep K80 (own_nm1 ne31)
        have Wk105 := Nat.le_trans Wk78 K80.1
        have Zs106 := Nat.le_trans Zs79 K80.1
        refine own_r X80 D 3 rfl ?_
        show own_H T80 56 #[.val (.int p0), .val (.int p1), .val (.int p2), .val (.int p3), .val (.int vg1), .val (.int zj3), .val (.int zj5), .val (.ref x12), .val (.ref b27), .unset, .unset, .unset] [(.int (p3.toUInt32.toUInt16.toUInt32.toInt32))]
        generalize hvg107 : (p3.toUInt32.toUInt16.toUInt32.toInt32) = vg107
        refine own_r X80 D 1 rfl ?_
        refine own_newOk X80 hx hZ hown (own_u hw 34 rfl) (own_u hw 35 rfl) (own_u hw 36 rfl) e80 (own_dd D rfl) (by decide) (by decide) fun T108 h108 b108 X108 e108 E108 ga108 A108 D108 => ?_
        have ne110 := own_ne1 f97.lt ga108
        have ne111 := own_ne1 f98.lt ga108
        have ne112 := own_ne1 f101.lt ga108
        have ne113 := own_ne1 o80_0.lt ga108
        have ne115 := own_ne1 o80_3.lt ga108
        have CR136 := CHr.trans CR104 (CHr.ext E108 CR104.1)
        have f116 := f87.ext E108
        have f117 := f88.ext E108
        have f123 := f94.ext E108
        have f124 := f95.ext E108
        have f125 := f96.ext E108
        have f126 := f97.ext E108
        have f127 := f98.ext E108
        have f128 := f99.ext E108
        have f129 := f100.ext E108
        have f130 := f101.ext E108
        have f131 := o80_0.ext E108
        have f133 := o80_1.ext E108
        have f134 := o80_2.ext E108
        have f135 := o80_3.ext E108
        have f137 : own_eF11 Z h108 b108 .null := D108 (Or.inl (own_u hw 42 rfl)) (ty := (.array .byte)) (by decide)
        have f138 : own_eF12 Z h108 b108 (.long (0 : Int64)) := D108 (Or.inl (own_u hw 49 rfl)) (ty := .long) (by decide)
        have f139 : own_eF13 Z h108 b108 (.int 0) := D108 (Or.inl (own_u hw 51 rfl)) (ty := .int) (by decide)
        have f140 : own_eF14 Z h108 b108 .null := D108 (Or.inl (own_u hw 73 rfl)) (ty := (.array .char)) (by decide)
        have f141 : own_eF15 Z h108 b108 .null := D108 (Or.inl (own_u hw 189 rfl)) (ty := (.array .char)) (by decide)
        have f142 : own_eF16 Z h108 b108 .null := D108 (Or.inl (own_u hw 246 rfl)) (ty := (.object "java/util/List")) (by decide)
        have g_b108 := own_ge Zs106 ga108
        have Wk143 := Nat.le_trans Wk105 E108.1
        have Zs144 := Nat.le_trans Zs106 E108.1
        refine own_r X108 D 1 rfl ?_
        refine own_xI X108 N80 D hZ hown hml (own_u hw 37 rfl) (own_K60 hw) (own_tbi hw Zs144 A108 f137 f138 f139 f140 f141 f142 g_b108) 1 (by decide) e108 rfl rfl ?_
        rintro v145 T145 h145 L145 X145 N145 e145 ⟨la145, kl145, rfl, K145, zf_la145, o145_0, o145_1, o145_2, o145_3, o145_4, o145_5, o145_6, o145_7⟩
        have ne147 := own_ne2 f126.lt zf_la145
        have ne148 := own_ne2 f127.lt zf_la145
        have ne149 := own_ne2 f130.lt zf_la145
        have ne150 := own_ne2 f131.lt zf_la145
        have ne152 := own_ne2 f135.lt zf_la145
        have ne153 := own_ne2 A108.lt zf_la145
        have g_la145 := Nat.le_trans Zs144 zf_la145
        have CR175 := CHr.trans CR136 (CHr.keep K145 (own_al1 (Safe.exa hZ.alike A108 (by decide) (by decide))) CR136.1)
        have f154 := own_staK f116 K145 (own_al1 A108.nostat)
        have f155 := own_staK f117 K145 (own_al1 A108.nostat)
        have f161 := own_staK f123 K145 (own_al1 A108.nostat)
        have f162 := f124.keep K145
        have f163 := own_staK f125 K145 (own_al1 A108.nostat)
        have f164 := f126.keep K145 (own_nm1 ne110)
        have f165 := f127.keep K145
        have f166 := f128.keep K145 (own_nm1 ne111)
        have f167 := f129.keep K145 (own_nm1 ne111)
        have f168 := f130.keep K145 (own_nm1 ne112)
        have f169 := f131.keep K145
        have f171 := f133.keep K145 (own_nm1 ne113)
        have f172 := f134.keep K145 (own_nm1 ne113)
        have f173 := f135.keep K145 (own_nm1 ne115)
        have Wk176 := Nat.le_trans Wk143 K145.1
        have Zs177 := Nat.le_trans Zs144 K145.1
        refine own_r X145 D 2 rfl ?_
        refine own_xVP X145 D hZ hown hml (own_u hw 43 rfl) (own_K59 hw) (own_ie (q1 := (0 : Int64)) (n1 := (0 : Int32)) hw o145_2 o145_3) 0 (by decide) e145 o145_0 rfl rfl fun T178 X178 e178 => ?_
        show own_H T178 72 #[.val (.int p0), .val (.int p1), .val (.int p2), .val (.int p3), .val (.int vg1), .val (.int zj3), .val (.int zj5), .val (.ref x12), .val (.ref b27), .val (.int vg107), .val (.ref b108), .unset] [(.int (own_Fie (0 : Int64) (0 : Int32)))]
        rw [show (own_Fie (0 : Int64) (0 : Int32)) = (1 : Int32) from (by decide)]
        refine own_r X178 D 3 rfl ?_
        refine own_xV X178 N145 D hZ hown hml (own_u hw 52 rfl) (own_K61 hw) (own_a1L (n1 := (0 : Int32)) (L_1 := ([] : List Int32)) (LL := (List.replicate 64 (0 : Int32))) hw Zs177 f154 f155 o145_0 o145_1 o145_2 o145_3 o145_4 o145_5 o145_6 f165 f166 f167 f168 o145_7 g_b108 g_la145 ne149 ne153 (Ne.symm ne112) (Ne.symm ne111) ne148 hp_cs hp_fm (by decide : ¬ ((0 : Int32) < (0 : Int32))) (by decide : (0 : Int32).toNatClampNeg ≤ 3) List.length_replicate) 0 (by decide) e178 o145_0 rfl rfl ?_
        rintro v179 T179 h179 L179 X179 N179 e179 ⟨rfl, K179, o179_0, o179_1, o179_2, o179_3, o179_4, o179_5, o179_6, o179_7⟩
        have CR201 := CHr.trans CR175 (CHr.keep K179 (own_al2 (Safe.exa hZ.alike o145_0 (by decide) (by decide)) (own_safeZ hZ (own_u hw 201 rfl) o145_7 (by decide))) CR175.1)
        have f180 := own_staK f154 K179 (own_al2 o145_0.nostat o145_7.nostat)
        have f181 := own_staK f155 K179 (own_al2 o145_0.nostat o145_7.nostat)
        have f187 := own_staK f161 K179 (own_al2 o145_0.nostat o145_7.nostat)
        have f188 := f162.keep K179
        have f189 := own_staK f163 K179 (own_al2 o145_0.nostat o145_7.nostat)
        have f190 := f164.keep K179 (own_nm2 ne110 ne147)
        have f195 := f169.keep K179
        have f197 := f171.keep K179 (own_nm2 ne113 ne150)
        have f198 := f172.keep K179 (own_nm2 ne113 ne150)
        have f199 := f173.keep K179 (own_nm2 ne115 ne152)
        have Wk202 := Nat.le_trans Wk176 K179.1
        have Zs203 := Nat.le_trans Zs177 K179.1
        refine own_r X179 D 2 rfl ?_
        refine own_xVP X179 D hZ hown hml (own_u hw 43 rfl) (own_K59 hw) (own_ie (q1 := (0 : Int64)) (n1 := (0 : Int32)) hw o179_2 o179_3) 1 (by decide) e179 o179_0 rfl rfl fun T204 X204 e204 => ?_
        show own_H T204 88 #[.val (.int p0), .val (.int p1), .val (.int p2), .val (.int p3), .val (.int vg1), .val (.int zj3), .val (.int zj5), .val (.ref x12), .val (.ref b27), .val (.int vg107), .val (.ref b108), .val (.int 1)] [(.int (own_Fie (0 : Int64) (0 : Int32))), (.int 1)]
        rw [show (own_Fie (0 : Int64) (0 : Int32)) = (1 : Int32) from (by decide)]
        refine own_r X204 D 1 rfl ?_
        refine own_fN X204 D rfl (teq hc11).2 ?_
        refine own_r X204 D 2 rfl ?_
        refine own_cN X204 D rfl (teq (by decide : (1 : Int32) = (1 : Int32))).2 ?_
        refine own_r X204 D 3 rfl ?_
        show own_H T204 107 #[.val (.int p0), .val (.int p1), .val (.int p2), .val (.int p3), .val (.int vg1), .val (.int zj3), .val (.int zj5), .val (.ref x12), .val (.ref b27), .val (.int vg107), .val (.ref b108), .val (.int 1)] [(.int 1)]
        refine own_r X204 D 2 rfl ?_
        by_cases hc205 : zj3 = (0 : Int32)
        ·
          refine own_fY X204 D rfl (teq hc205).1 ?_
          refine own_r X204 D 2 rfl ?_
          refine own_xVP X204 D hZ hown hml (own_u hw 43 rfl) (own_K59 hw) (own_ie (q1 := (0 : Int64)) (n1 := (0 : Int32)) hw o179_2 o179_3) 1 (by decide) e204 o179_0 rfl rfl fun T206 X206 e206 => ?_
          show own_H T206 128 #[.val (.int p0), .val (.int p1), .val (.int p2), .val (.int p3), .val (.int vg1), .val (.int zj3), .val (.int zj5), .val (.ref x12), .val (.ref b27), .val (.int vg107), .val (.ref b108), .val (.int 1)] [(.int (own_Fie (0 : Int64) (0 : Int32))), (.int 1)]
          rw [show (own_Fie (0 : Int64) (0 : Int32)) = (1 : Int32) from (by decide)]
          refine own_r X206 D 1 rfl ?_
          refine own_fN X206 D rfl (teq hc11).2 ?_
          refine own_r X206 D 1 rfl ?_
          refine own_fN X206 D rfl (teq hc205).2 ?_
          refine own_r X206 D 2 rfl ?_
          refine own_cN X206 D rfl (teq (by decide : (1 : Int32) = (1 : Int32))).2 ?_
          refine own_r X206 D 3 rfl ?_
          show own_H T206 152 #[.val (.int p0), .val (.int p1), .val (.int p2), .val (.int p3), .val (.int vg1), .val (.int zj3), .val (.int zj5), .val (.ref x12), .val (.ref b27), .val (.int vg107), .val (.ref b108), .val (.int 1)] [(.int 1)]
          refine own_r X206 D 2 rfl ?_
          by_cases hc207 : zj5 = (0 : Int32)
          ·
            refine own_fY X206 D rfl (teq hc207).1 ?_
            exact J6 x12 b27 vg107 b108 (0 : Int64) (0 : Int32) _ _ _ _ _ (X206.mono (by decide) (by decide)) N179 e206 Zs203 S12 Wk202 CR201 hZ hown o179_0 o179_2 o179_3 (Eq.trans (show own_Fie (0 : Int64) (0 : Int32) = (1 : Int32) from (by decide)) (by simp only [own_E, if_pos hc11, if_pos hc205, if_pos hc207]))
          ·
            refine own_fN X206 D rfl (feq hc207).1 ?_
            refine own_r X206 D 2 rfl ?_
            by_cases hc208 : (255 : Int32) < vg107
            ·
              refine own_xVH S12 Wk202 CR201 hEL X206 N179 D hZ hown hml (own_u hw 134 rfl) (own_K62 hw) (own_acNc (u4 := (.long (0 : Int64))) (u5 := (.null)) (LL := (own_cpl ([] : List Int32) (List.replicate 64 (0 : Int32)) (0 : Int32))) hw Zs203 f180 f181 f187 f188 o179_0 o179_1 o179_2 o179_3 o179_4 o179_5 o179_6 o179_7 g_b108 ne153 hp_cs hp_fm hc208) 0 (by decide) e206 o179_0 rfl rfl ?_
              rintro v209 T209 h209 L209 s kw209 X209 N209 e209 ⟨rfl, K209, o209_0, o209_1, o209_2⟩ S209 Wk209 CR209 hZ hown
              have Zs232 := Nat.le_trans Zs203 K209.1
              exact J6 x12 b27 vg107 b108 (0 : Int64) ((0 : Int32) + (1 : Int32)) _ _ _ _ _ (X209.mono (by decide) (by decide)) N209 e209 Zs232 S209 Wk209 CR209 hZ hown o209_0 o209_1 o209_2 (Eq.trans (show own_Fie (0 : Int64) ((0 : Int32) + (1 : Int32)) = (0 : Int32) from (by decide)) (by simp only [own_E, if_pos hc11, if_pos hc205, if_neg hc207]))
            ·
              refine own_xV X206 N179 D hZ hown hml (own_u hw 134 rfl) (own_K62 hw) (own_acL (n1 := (0 : Int32)) (u2 := (.null)) (u4 := (.long (0 : Int64))) (u5 := (.null)) (LL := (own_cpl ([] : List Int32) (List.replicate 64 (0 : Int32)) (0 : Int32))) hw Zs203 o179_0 o179_1 o179_2 o179_3 o179_4 o179_5 o179_6 o179_7 g_b108 g_la145 ne153 (by decide : ¬ ((0 : Int32) < (0 : Int32))) (by decide : (0 : Int32).toNatClampNeg ≤ 3) ((own_cpll (by rw [List.length_replicate]; exact (by decide))).trans List.length_replicate) hc208) 0 (by decide) e206 o179_0 rfl rfl ?_
              rintro v233 T233 h233 L233 X233 N233 e233 ⟨rfl, K233, o233_0, o233_1, o233_2⟩
              have CR255 := CHr.trans CR201 (CHr.keep K233 (own_al2 (Safe.exa hZ.alike o179_0 (by decide) (by decide)) (own_safeZ hZ (own_u hw 201 rfl) o179_7 (by decide))) CR201.1)
              have Wk256 := Nat.le_trans Wk202 K233.1
              have Zs257 := Nat.le_trans Zs203 K233.1
              exact J6 x12 b27 vg107 b108 (0 : Int64) ((0 : Int32) + (1 : Int32)) _ _ _ _ _ (X233.mono (by decide) (by decide)) N233 e233 Zs257 S12 Wk256 CR255 hZ hown o233_0 o233_1 o233_2 (Eq.trans (show own_Fie (0 : Int64) ((0 : Int32) + (1 : Int32)) = (0 : Int32) from (by decide)) (by simp only [own_E, if_pos hc11, if_pos hc205, if_neg hc207]))
        ·
          refine own_fN X204 D rfl (feq hc205).1 ?_
          refine own_r X204 D 2 rfl ?_
          refine own_xV X204 N179 D hZ hown hml (own_u hw 52 rfl) (own_K61 hw) (own_a1B0 (m1 := (16385 : Int32)) (LL := (own_cpl ([] : List Int32) (List.replicate 64 (0 : Int32)) (0 : Int32))) hw Zs203 f180 f181 f189 f190 o179_0 o179_1 o179_2 o179_3 o179_4 o179_5 o179_6 o179_7 f195 f197 f198 f199 g_b108 (Ne.symm ne113) (Ne.symm ne115) ne153 (Ne.symm ne110) (Ne.symm ne29) ne150 (Ne.symm ne82) hp_cs hp_fm (by decide : ¬ ((16385 : Int32) < (0 : Int32))) (by decide : (16384 : Int32) < (16385 : Int32)) own_qe (by decide : (64 : Int32) < (16385 : Int32))) 0 (by decide) e204 o179_0 rfl rfl ?_
          rintro v258 T258 h258 L258 X258 N258 e258 ⟨li258, rfl, K258, o258_0, o258_1, o258_2, o258_3, o258_4, o258_5, o258_6⟩
          have CR281 := CHr.trans CR201 (CHr.keep K258 (own_al1 (Safe.exa hZ.alike o179_0 (by decide) (by decide))) CR201.1)
          have f259 := own_staK f180 K258 (own_al1 o179_0.nostat)
          have f260 := own_staK f181 K258 (own_al1 o179_0.nostat)
          have f266 := own_staK f187 K258 (own_al1 o179_0.nostat)
          have f267 := f188.keep K258
          have f280 := o179_7.keep K258 (own_nm1 (Ne.symm ne153))
          have Wk282 := Nat.le_trans Wk202 K258.1
          have Zs283 := Nat.le_trans Zs203 K258.1
          refine own_r X258 D 2 rfl ?_
          refine own_xVP X258 D hZ hown hml (own_u hw 43 rfl) (own_K59 hw) (own_ie (q1 := ((0 : Int64) + ((16385 : Int32).toInt64))) (n1 := (0 : Int32)) hw o258_2 o258_3) 1 (by decide) e258 o258_0 rfl rfl fun T284 X284 e284 => ?_
          show own_H T284 128 #[.val (.int p0), .val (.int p1), .val (.int p2), .val (.int p3), .val (.int vg1), .val (.int zj3), .val (.int zj5), .val (.ref x12), .val (.ref b27), .val (.int vg107), .val (.ref b108), .val (.int 1)] [(.int (own_Fie ((0 : Int64) + ((16385 : Int32).toInt64)) (0 : Int32))), (.int 1)]
          rw [show (own_Fie ((0 : Int64) + ((16385 : Int32).toInt64)) (0 : Int32)) = (0 : Int32) from (own_fq (by decide))]
          refine own_r X284 D 1 rfl ?_
          refine own_fN X284 D rfl (teq hc11).2 ?_
          refine own_r X284 D 1 rfl ?_
          refine own_fY X284 D rfl (feq hc205).2 ?_
          refine own_r X284 D 1 rfl ?_
          refine own_cN X284 D rfl (teq (by decide : (0 : Int32) = (0 : Int32))).2 ?_
          refine own_r X284 D 3 rfl ?_
          show own_H T284 152 #[.val (.int p0), .val (.int p1), .val (.int p2), .val (.int p3), .val (.int vg1), .val (.int zj3), .val (.int zj5), .val (.ref x12), .val (.ref b27), .val (.int vg107), .val (.ref b108), .val (.int 1)] [(.int 1)]
          refine own_r X284 D 2 rfl ?_
          by_cases hc285 : zj5 = (0 : Int32)
          ·
            refine own_fY X284 D rfl (teq hc285).1 ?_
            exact J6 x12 b27 vg107 b108 ((0 : Int64) + ((16385 : Int32).toInt64)) (0 : Int32) _ _ _ _ _ (X284.mono (by decide) (by decide)) N258 e284 Zs283 S12 Wk282 CR281 hZ hown o258_0 o258_2 o258_3 (Eq.trans (show own_Fie ((0 : Int64) + ((16385 : Int32).toInt64)) (0 : Int32) = (0 : Int32) from (own_fq (by decide))) (by simp only [own_E, if_pos hc11, if_neg hc205, if_pos hc285]))
          ·
            refine own_fN X284 D rfl (feq hc285).1 ?_
            refine own_r X284 D 2 rfl ?_
            by_cases hc286 : (255 : Int32) < vg107
            ·
              refine own_xVH S12 Wk282 CR281 hEL X284 N258 D hZ hown hml (own_u hw 134 rfl) (own_K62 hw) (own_acNc (u4 := (.long ((0 : Int64) + ((16385 : Int32).toInt64)))) (u5 := (.ref li258)) (LL := (own_cpl ([] : List Int32) (List.replicate 64 (0 : Int32)) (0 : Int32))) hw Zs283 f259 f260 f266 f267 o258_0 o258_1 o258_2 o258_3 o258_4 o258_5 o258_6 f280 g_b108 ne153 hp_cs hp_fm hc286) 0 (by decide) e284 o258_0 rfl rfl ?_
              rintro v287 T287 h287 L287 s kw287 X287 N287 e287 ⟨rfl, K287, o287_0, o287_1, o287_2⟩ S287 Wk287 CR287 hZ hown
              have Zs310 := Nat.le_trans Zs283 K287.1
              exact J6 x12 b27 vg107 b108 ((0 : Int64) + ((16385 : Int32).toInt64)) ((0 : Int32) + (1 : Int32)) _ _ _ _ _ (X287.mono (by decide) (by decide)) N287 e287 Zs310 S287 Wk287 CR287 hZ hown o287_0 o287_1 o287_2 (Eq.trans (show own_Fie ((0 : Int64) + ((16385 : Int32).toInt64)) ((0 : Int32) + (1 : Int32)) = (0 : Int32) from (own_fq (by decide))) (by simp only [own_E, if_pos hc11, if_neg hc205, if_neg hc285]))
            ·
              refine own_xV X284 N258 D hZ hown hml (own_u hw 134 rfl) (own_K62 hw) (own_acL (n1 := (0 : Int32)) (u2 := (.null)) (u4 := (.long ((0 : Int64) + ((16385 : Int32).toInt64)))) (u5 := (.ref li258)) (LL := (own_cpl ([] : List Int32) (List.replicate 64 (0 : Int32)) (0 : Int32))) hw Zs283 o258_0 o258_1 o258_2 o258_3 o258_4 o258_5 o258_6 f280 g_b108 g_la145 ne153 (by decide : ¬ ((0 : Int32) < (0 : Int32))) (by decide : (0 : Int32).toNatClampNeg ≤ 3) ((own_cpll (by rw [List.length_replicate]; exact (by decide))).trans List.length_replicate) hc286) 0 (by decide) e284 o258_0 rfl rfl ?_
              rintro v311 T311 h311 L311 X311 N311 e311 ⟨rfl, K311, o311_0, o311_1, o311_2⟩
              have CR333 := CHr.trans CR281 (CHr.keep K311 (own_al2 (Safe.exa hZ.alike o258_0 (by decide) (by decide)) (own_safeZ hZ (own_u hw 201 rfl) f280 (by decide))) CR281.1)
              have Wk334 := Nat.le_trans Wk282 K311.1
              have Zs335 := Nat.le_trans Zs283 K311.1
              exact J6 x12 b27 vg107 b108 ((0 : Int64) + ((16385 : Int32).toInt64)) ((0 : Int32) + (1 : Int32)) _ _ _ _ _ (X311.mono (by decide) (by decide)) N311 e311 Zs335 S12 Wk334 CR333 hZ hown o311_0 o311_1 o311_2 (Eq.trans (show own_Fie ((0 : Int64) + ((16385 : Int32).toInt64)) ((0 : Int32) + (1 : Int32)) = (0 : Int32) from (own_fq (by decide))) (by simp only [own_E, if_pos hc11, if_neg hc205, if_neg hc285]))
      ·
        by_cases hc336 : own_kS vg1 p0 p1
        ·
          have hpos := own_pos hd0 hc11
          have J337 : ∀ (xs : Addr) (ys : Addr) (ks : ClassId) (Ls : List Int32) (s1 : State) (kwJ337 : Nat) (TJ337 : State) (hJ337 : Heap) (LJ337 : List Loc) (XJ337 : Stand p l e room_1 s1 m #[(.int p0), (.int p1), (.int p2), (.int p3)] below meth c TJ337 LJ337 4 16) (NJ337 : Fr n0 LJ337) (eJ337 : TJ337.heap = hJ337) (ZJ337 : n0 ≤ hJ337.size) (SJ337 : own_S s s1 kwJ337) (WkJ337 : kwJ337 ≤ hJ337.size) (CRJ337 : CHr Z own_EL s.vm h0 s1.vm hJ337) (hZ1 : Z.Warmed39 s1.vm) (hown1 : s1.vm.findClass "com/example/fields_in_tables/fieldsintables/TextBuilderIsEmptyPinLaw" = some m.cls) (fJ337_0 : own_eS1 Z hJ337 (.int cs)) (fJ337_1 : own_eS0 Z hJ337 fm) (fJ337_2 : own_eS2 Z hJ337 (.int 1)) (fJ337_3 : own_eS3 Z hJ337 (.int 0)) (fJ337_4 : own_eS4 Z hJ337 (.int 8)) (fJ337_5 : own_eS5 Z hJ337 (.ref u8)) (fJ337_6 : own_eS6 Z hJ337 (.ref a3)) (fJ337_7 : own_eS8 Z hJ337 (.ref a3)) (fJ337_8 : Exa Z hJ337 a3 "sun/nio/cs/ISO_8859_1") (fJ337_9 : own_eS7 Z hJ337 (.ref de)) (fJ337_10 : Arv Z hJ337 de kd (.object "java/lang/Object") (0 : Int32) [] .null) (gEs : Exa Z hJ337 xs own_cS) (gFv : own_eF10 Z hJ337 xs (.ref ys)) (gFc : own_eF9 Z hJ337 xs (.int 0)) (gAb : own_aB Z hJ337 ys ks vg1 Ls) (nx : xs ≠ de) (ny : ys ≠ de), own_G p e below Pw (TJ337.setTop (mkF m 38 #[.val (.int p0), .val (.int p1), .val (.int p2), .val (.int p3), .val (.int vg1), .val (.int zj3), .val (.int zj5), .unset, .unset, .unset, .unset, .unset] [(.ref xs)])) := by
            intro xs ys ks Ls s kwJ337 TJ337 hJ337 LJ337 XJ337 NJ337 eJ337 ZJ337 SJ337 WkJ337 CRJ337 hZ hown fJ337_0 fJ337_1 fJ337_2 fJ337_3 fJ337_4 fJ337_5 fJ337_6 fJ337_7 fJ337_8 fJ337_9 fJ337_10 gEs gFv gFc gAb nx ny
            refine own_r XJ337 D 1 rfl ?_
            refine own_newOk XJ337 hx hZ hown (own_u hw 4 rfl) (own_u hw 5 rfl) (own_u hw 6 rfl) eJ337 (own_dd D rfl) (by decide) (by decide) fun T338 h338 b338 X338 e338 E338 ga338 A338 D338 => ?_
            have ne340 := own_ne1 fJ337_10.lt ga338
            have ne341 := own_ne1 gEs.lt ga338
            have ne342 := own_ne1 gAb.lt ga338
            have CR358 := CHr.trans CRJ337 (CHr.ext E338 CRJ337.1)
            have f343 := fJ337_0.ext E338
            have f344 := fJ337_1.ext E338
            have f348 := fJ337_5.ext E338
            have f349 := fJ337_6.ext E338
            have f350 := fJ337_7.ext E338
            have f351 := fJ337_8.ext E338
            have f352 := fJ337_9.ext E338
            have f353 := fJ337_10.ext E338
            have f354 := gEs.ext E338
            have f355 := gFv.ext E338
            have f356 := gFc.ext E338
            have f357 := gAb.ext E338
            have f359 : own_eF9 Z h338 b338 (.int 0) := D338 (Or.inr (own_u hw 31 rfl)) (ty := .byte) (by decide)
            have f360 : own_eF10 Z h338 b338 .null := D338 (Or.inr (own_u hw 33 rfl)) (ty := (.array .byte)) (by decide)
            have g_b338 := own_ge ZJ337 ga338
            have Wk361 := Nat.le_trans WkJ337 E338.1
            have Zs362 := Nat.le_trans ZJ337 E338.1
            refine own_r X338 D 2 rfl ?_
            refine own_newAk X338 hx hZ (own_u hw 7 rfl) e338 (own_dd D rfl) (by decide) (cap := 16385) (by decide) (by decide) (by decide) (by decide) 0 rfl fun T363 h363 k363 b363 X363 e363 E363 ga363 V363 Ex363 => ?_
            have ne368 := own_ne1 A338.lt ga363
            have CR387 := CHr.trans CR358 (CHr.ext E363 CR358.1)
            have f369 := f343.ext E363
            have f370 := f344.ext E363
            have f374 := f348.ext E363
            have f375 := f349.ext E363
            have f376 := f350.ext E363
            have f377 := f351.ext E363
            have f378 := f352.ext E363
            have f379 := f353.ext E363
            have f380 := f354.ext E363
            have f381 := f355.ext E363
            have f382 := f356.ext E363
            have f383 := f357.ext E363
            have f384 := A338.ext E363
            have f385 := f359.ext E363
            have f386 := f360.ext E363
            have f388 : Arv Z h363 b363 k363 .char (16385 : Int32) [] (.int 0) := V363
            have Wk389 := Nat.le_trans Wk361 E363.1
            have Zs390 := Nat.le_trans Zs362 E363.1
            refine own_xI X363 NJ337 D hZ hown hml (own_u hw 8 rfl) (own_K19 hw) (own_ccB (u1 := (.null)) (u2 := (.int 0)) (M_1 := ([] : List Int32)) (n1 := (16385 : Int32)) hw Zs390 f369 f384 f386 f385 f388 g_b338 ne368 hp_cs (by decide : ¬ ((16385 : Int32) = (0 : Int32))) (by decide : ¬ ((16385 : Int32) < (0 : Int32))) (by decide : (16385 : Int32).toNatClampNeg ≤ 16385) own_caB) 1 (by decide) e363 rfl rfl ?_
            rintro v391 T391 h391 L391 X391 N391 e391 ⟨x391, kx391, L_2391, rfl, K391, zf_x391, o391_0, o391_1, o391_2, o391_3⟩
            have ne393 := own_ne2 f379.lt zf_x391
            have CR415 := CHr.trans CR387 (CHr.keep K391 (own_al1 (own_safeN hZ.alike f384 f386)) CR387.1)
            have f398 := own_staK f369 K391 (own_al1 f384.nostat)
            have f399 := own_staK f370 K391 (own_al1 f384.nostat)
            have f403 := own_staK f374 K391 (own_al1 f384.nostat)
            have f404 := own_staK f375 K391 (own_al1 f384.nostat)
            have f405 := own_staK f376 K391 (own_al1 f384.nostat)
            have f406 := f377.keep K391
            have f407 := own_staK f378 K391 (own_al1 f384.nostat)
            have f408 := f379.keep K391 (own_nm1 ne340)
            have f409 := f380.keep K391
            have f410 := f381.keep K391 (own_nm1 ne341)
            have f411 := f382.keep K391 (own_nm1 ne341)
            have f412 := f383.keep K391 (own_nm1 ne342)
            have Wk416 := Nat.le_trans Wk389 K391.1
            have Zs417 := Nat.le_trans Zs390 K391.1
            refine own_r X391 D 3 rfl ?_
            show own_H T391 56 #[.val (.int p0), .val (.int p1), .val (.int p2), .val (.int p3), .val (.int vg1), .val (.int zj3), .val (.int zj5), .val (.ref xs), .val (.ref b338), .unset, .unset, .unset] [(.int (p3.toUInt32.toUInt16.toUInt32.toInt32))]
            generalize hvg418 : (p3.toUInt32.toUInt16.toUInt32.toInt32) = vg418
            refine own_r X391 D 1 rfl ?_
            refine own_newOk X391 hx hZ hown (own_u hw 34 rfl) (own_u hw 35 rfl) (own_u hw 36 rfl) e391 (own_dd D rfl) (by decide) (by decide) fun T419 h419 b419 X419 e419 E419 ga419 A419 D419 => ?_
            have ne421 := own_ne1 f408.lt ga419
            have ne422 := own_ne1 f409.lt ga419
            have ne423 := own_ne1 f412.lt ga419
            have ne424 := own_ne1 o391_0.lt ga419
            have ne426 := own_ne1 o391_3.lt ga419
            have CR447 := CHr.trans CR415 (CHr.ext E419 CR415.1)
            have f427 := f398.ext E419
            have f428 := f399.ext E419
            have f432 := f403.ext E419
            have f433 := f404.ext E419
            have f434 := f405.ext E419
            have f435 := f406.ext E419
            have f436 := f407.ext E419
            have f437 := f408.ext E419
            have f438 := f409.ext E419
            have f439 := f410.ext E419
            have f440 := f411.ext E419
            have f441 := f412.ext E419
            have f442 := o391_0.ext E419
            have f444 := o391_1.ext E419
            have f445 := o391_2.ext E419
            have f446 := o391_3.ext E419
            have f448 : own_eF11 Z h419 b419 .null := D419 (Or.inl (own_u hw 42 rfl)) (ty := (.array .byte)) (by decide)
            have f449 : own_eF12 Z h419 b419 (.long (0 : Int64)) := D419 (Or.inl (own_u hw 49 rfl)) (ty := .long) (by decide)
            have f450 : own_eF13 Z h419 b419 (.int 0) := D419 (Or.inl (own_u hw 51 rfl)) (ty := .int) (by decide)
            have f451 : own_eF14 Z h419 b419 .null := D419 (Or.inl (own_u hw 73 rfl)) (ty := (.array .char)) (by decide)
            have f452 : own_eF15 Z h419 b419 .null := D419 (Or.inl (own_u hw 189 rfl)) (ty := (.array .char)) (by decide)
            have f453 : own_eF16 Z h419 b419 .null := D419 (Or.inl (own_u hw 246 rfl)) (ty := (.object "java/util/List")) (by decide)
            have g_b419 := own_ge Zs417 ga419
            have Wk454 := Nat.le_trans Wk416 E419.1
            have Zs455 := Nat.le_trans Zs417 E419.1
            refine own_r X419 D 1 rfl ?_
            refine own_xI X419 N391 D hZ hown hml (own_u hw 37 rfl) (own_K60 hw) (own_tbi hw Zs455 A419 f448 f449 f450 f451 f452 f453 g_b419) 1 (by decide) e419 rfl rfl ?_
            rintro v456 T456 h456 L456 X456 N456 e456 ⟨la456, kl456, rfl, K456, zf_la456, o456_0, o456_1, o456_2, o456_3, o456_4, o456_5, o456_6, o456_7⟩
            have ne458 := own_ne2 f437.lt zf_la456
            have ne459 := own_ne2 f438.lt zf_la456
            have ne460 := own_ne2 f441.lt zf_la456
            have ne461 := own_ne2 f442.lt zf_la456
            have ne463 := own_ne2 f446.lt zf_la456
            have ne464 := own_ne2 A419.lt zf_la456
            have g_la456 := Nat.le_trans Zs455 zf_la456
            have CR486 := CHr.trans CR447 (CHr.keep K456 (own_al1 (Safe.exa hZ.alike A419 (by decide) (by decide))) CR447.1)
            have f465 := own_staK f427 K456 (own_al1 A419.nostat)
            have f466 := own_staK f428 K456 (own_al1 A419.nostat)
            have f470 := own_staK f432 K456 (own_al1 A419.nostat)
            have f471 := own_staK f433 K456 (own_al1 A419.nostat)
            have f472 := own_staK f434 K456 (own_al1 A419.nostat)
            have f473 := f435.keep K456
            have f474 := own_staK f436 K456 (own_al1 A419.nostat)
            have f475 := f437.keep K456 (own_nm1 ne421)
            have f476 := f438.keep K456
            have f477 := f439.keep K456 (own_nm1 ne422)
            have f478 := f440.keep K456 (own_nm1 ne422)
            have f479 := f441.keep K456 (own_nm1 ne423)
            have f480 := f442.keep K456
            have f482 := f444.keep K456 (own_nm1 ne424)
            have f483 := f445.keep K456 (own_nm1 ne424)
            have f484 := f446.keep K456 (own_nm1 ne426)
            have Wk487 := Nat.le_trans Wk454 K456.1
            have Zs488 := Nat.le_trans Zs455 K456.1
            refine own_r X456 D 2 rfl ?_
            refine own_xVP X456 D hZ hown hml (own_u hw 43 rfl) (own_K59 hw) (own_ie (q1 := (0 : Int64)) (n1 := (0 : Int32)) hw o456_2 o456_3) 0 (by decide) e456 o456_0 rfl rfl fun T489 X489 e489 => ?_
            show own_H T489 72 #[.val (.int p0), .val (.int p1), .val (.int p2), .val (.int p3), .val (.int vg1), .val (.int zj3), .val (.int zj5), .val (.ref xs), .val (.ref b338), .val (.int vg418), .val (.ref b419), .unset] [(.int (own_Fie (0 : Int64) (0 : Int32)))]
            rw [show (own_Fie (0 : Int64) (0 : Int32)) = (1 : Int32) from (by decide)]
            refine own_r X489 D 3 rfl ?_
            refine own_xV X489 N456 D hZ hown hml (own_u hw 52 rfl) (own_K61 hw) (own_a1L (LL := (List.replicate 64 (0 : Int32))) hw Zs488 f465 f466 o456_0 o456_1 o456_2 o456_3 o456_4 o456_5 o456_6 f476 f477 f478 f479 o456_7 g_b419 g_la456 ne460 ne464 (Ne.symm ne423) (Ne.symm ne422) ne459 hp_cs hp_fm hd0 hd3 List.length_replicate) 0 (by decide) e489 o456_0 rfl rfl ?_
            rintro v490 T490 h490 L490 X490 N490 e490 ⟨rfl, K490, o490_0, o490_1, o490_2, o490_3, o490_4, o490_5, o490_6, o490_7⟩
            have CR512 := CHr.trans CR486 (CHr.keep K490 (own_al2 (Safe.exa hZ.alike o456_0 (by decide) (by decide)) (own_safeZ hZ (own_u hw 201 rfl) o456_7 (by decide))) CR486.1)
            have f491 := own_staK f465 K490 (own_al2 o456_0.nostat o456_7.nostat)
            have f492 := own_staK f466 K490 (own_al2 o456_0.nostat o456_7.nostat)
            have f496 := own_staK f470 K490 (own_al2 o456_0.nostat o456_7.nostat)
            have f497 := own_staK f471 K490 (own_al2 o456_0.nostat o456_7.nostat)
            have f498 := own_staK f472 K490 (own_al2 o456_0.nostat o456_7.nostat)
            have f499 := f473.keep K490
            have f500 := own_staK f474 K490 (own_al2 o456_0.nostat o456_7.nostat)
            have f501 := f475.keep K490 (own_nm2 ne421 ne458)
            have f506 := f480.keep K490
            have f508 := f482.keep K490 (own_nm2 ne424 ne461)
            have f509 := f483.keep K490 (own_nm2 ne424 ne461)
            have f510 := f484.keep K490 (own_nm2 ne426 ne463)
            have Wk513 := Nat.le_trans Wk487 K490.1
            have Zs514 := Nat.le_trans Zs488 K490.1
            refine own_r X490 D 2 rfl ?_
            refine own_xVP X490 D hZ hown hml (own_u hw 43 rfl) (own_K59 hw) (own_ie (q1 := (0 : Int64)) hw o490_2 o490_3) 1 (by decide) e490 o490_0 rfl rfl fun T515 X515 e515 => ?_
            show own_H T515 88 #[.val (.int p0), .val (.int p1), .val (.int p2), .val (.int p3), .val (.int vg1), .val (.int zj3), .val (.int zj5), .val (.ref xs), .val (.ref b338), .val (.int vg418), .val (.ref b419), .val (.int 1)] [(.int (own_Fie (0 : Int64) vg1)), (.int 1)]
            rw [show (own_Fie (0 : Int64) vg1) = (0 : Int32) from (own_fi0 hc11)]
            refine own_r X515 D 1 rfl ?_
            refine own_fY X515 D rfl (feq hc11).2 ?_
            refine own_r X515 D 1 rfl ?_
            refine own_cN X515 D rfl (teq (by decide : (0 : Int32) = (0 : Int32))).2 ?_
            refine own_r X515 D 3 rfl ?_
            show own_H T515 107 #[.val (.int p0), .val (.int p1), .val (.int p2), .val (.int p3), .val (.int vg1), .val (.int zj3), .val (.int zj5), .val (.ref xs), .val (.ref b338), .val (.int vg418), .val (.ref b419), .val (.int 1)] [(.int 1)]
            refine own_r X515 D 2 rfl ?_
            by_cases hc516 : zj3 = (0 : Int32)
            ·
              refine own_fY X515 D rfl (teq hc516).1 ?_
              refine own_r X515 D 2 rfl ?_
              refine own_xVP X515 D hZ hown hml (own_u hw 43 rfl) (own_K59 hw) (own_ie (q1 := (0 : Int64)) hw o490_2 o490_3) 1 (by decide) e515 o490_0 rfl rfl fun T517 X517 e517 => ?_
              show own_H T517 128 #[.val (.int p0), .val (.int p1), .val (.int p2), .val (.int p3), .val (.int vg1), .val (.int zj3), .val (.int zj5), .val (.ref xs), .val (.ref b338), .val (.int vg418), .val (.ref b419), .val (.int 1)] [(.int (own_Fie (0 : Int64) vg1)), (.int 1)]
              rw [show (own_Fie (0 : Int64) vg1) = (0 : Int32) from (own_fi0 hc11)]
              refine own_r X517 D 1 rfl ?_
              refine own_fY X517 D rfl (feq hc11).2 ?_
              refine own_r X517 D 1 rfl ?_
              refine own_cN X517 D rfl (teq (by decide : (0 : Int32) = (0 : Int32))).2 ?_
              refine own_r X517 D 3 rfl ?_
              show own_H T517 152 #[.val (.int p0), .val (.int p1), .val (.int p2), .val (.int p3), .val (.int vg1), .val (.int zj3), .val (.int zj5), .val (.ref xs), .val (.ref b338), .val (.int vg418), .val (.ref b419), .val (.int 1)] [(.int 1)]
              refine own_r X517 D 2 rfl ?_
              by_cases hc518 : zj5 = (0 : Int32)
              ·
                refine own_fY X517 D rfl (teq hc518).1 ?_
                exact J6 xs b338 vg418 b419 (0 : Int64) vg1 _ _ _ _ _ (X517.mono (by decide) (by decide)) N490 e517 Zs514 SJ337 Wk513 CR512 hZ hown o490_0 o490_2 o490_3 (Eq.trans (show own_Fie (0 : Int64) vg1 = (0 : Int32) from (own_fi0 hc11)) (by simp only [own_E, if_neg hc11, if_pos hc516, if_pos hc518]))
              ·
                refine own_fN X517 D rfl (feq hc518).1 ?_
                refine own_r X517 D 2 rfl ?_
                by_cases hc519 : (255 : Int32) < vg418
                ·
                  refine own_xV X517 N490 D hZ hown hml (own_u hw 134 rfl) (own_K62 hw) (own_acLc (LL := (own_cpl Ls (List.replicate 64 (0 : Int32)) vg1)) hw Zs514 f491 f492 f496 f497 f498 f499 o490_0 o490_1 o490_2 o490_3 o490_4 o490_5 o490_6 o490_7 g_b419 ne_a3_u8 ne464 hp_cs hp_fm hc11 hd0 hd3 hc519) 0 (by decide) e517 o490_0 rfl rfl ?_
                  rintro v520 T520 h520 L520 X520 N520 e520 ⟨rfl, K520, o520_0, o520_1, o520_2⟩
                  have CR543 := CHr.trans CR512 (CHr.keep K520 (own_al1 (Safe.exa hZ.alike o490_0 (by decide) (by decide))) CR512.1)
                  have Wk544 := Nat.le_trans Wk513 K520.1
                  have Zs545 := Nat.le_trans Zs514 K520.1
                  exact J6 xs b338 vg418 b419 (0 : Int64) (vg1 + (1 : Int32)) _ _ _ _ _ (X520.mono (by decide) (by decide)) N520 e520 Zs545 SJ337 Wk544 CR543 hZ hown o520_0 o520_1 o520_2 (Eq.trans (show own_Fie (0 : Int64) (vg1 + (1 : Int32)) = (0 : Int32) from (own_fi1 hd0 hd3)) (by simp only [own_E, if_neg hc11, if_pos hc516, if_neg hc518]))
                ·
                  refine own_xV X517 N490 D hZ hown hml (own_u hw 134 rfl) (own_K62 hw) (own_acL (u2 := (.null)) (u4 := (.long (0 : Int64))) (u5 := (.null)) (LL := (own_cpl Ls (List.replicate 64 (0 : Int32)) vg1)) hw Zs514 o490_0 o490_1 o490_2 o490_3 o490_4 o490_5 o490_6 o490_7 g_b419 g_la456 ne464 hd0 hd3 ((own_cpll (by rw [List.length_replicate]; exact Nat.le_trans hd3 (by decide))).trans List.length_replicate) hc519) 0 (by decide) e517 o490_0 rfl rfl ?_
                  rintro v546 T546 h546 L546 X546 N546 e546 ⟨rfl, K546, o546_0, o546_1, o546_2⟩
                  have CR568 := CHr.trans CR512 (CHr.keep K546 (own_al2 (Safe.exa hZ.alike o490_0 (by decide) (by decide)) (own_safeZ hZ (own_u hw 201 rfl) o490_7 (by decide))) CR512.1)
                  have Wk569 := Nat.le_trans Wk513 K546.1
                  have Zs570 := Nat.le_trans Zs514 K546.1
                  exact J6 xs b338 vg418 b419 (0 : Int64) (vg1 + (1 : Int32)) _ _ _ _ _ (X546.mono (by decide) (by decide)) N546 e546 Zs570 SJ337 Wk569 CR568 hZ hown o546_0 o546_1 o546_2 (Eq.trans (show own_Fie (0 : Int64) (vg1 + (1 : Int32)) = (0 : Int32) from (own_fi1 hd0 hd3)) (by simp only [own_E, if_neg hc11, if_pos hc516, if_neg hc518]))
            ·
              refine own_fN X515 D rfl (feq hc516).1 ?_
              refine own_r X515 D 2 rfl ?_
              refine own_xV X515 N490 D hZ hown hml (own_u hw 52 rfl) (own_K61 hw) (own_a1BA (m1 := (16385 : Int32)) (LL := (own_cpl Ls (List.replicate 64 (0 : Int32)) vg1)) hw Zs514 f491 f492 f496 f497 f498 f499 f500 f501 o490_0 o490_1 o490_2 o490_3 o490_4 o490_5 o490_6 o490_7 f506 f508 f509 f510 g_b419 (Ne.symm ne424) (Ne.symm ne426) ne464 (Ne.symm ne421) (Ne.symm ne340) ne461 (Ne.symm ne393) ne_a3_u8 hp_cs hp_fm hc11 hpos hd0 hd3 (by decide : ¬ ((16385 : Int32) < (0 : Int32))) (by decide : (16384 : Int32) < (16385 : Int32)) (own_qa hd0 hd3) (own_bb6 hd0 hd3)) 0 (by decide) e515 o490_0 rfl rfl ?_
              rintro v571 T571 h571 L571 X571 N571 e571 ⟨li571, rfl, K571, o571_0, o571_1, o571_2, o571_3, o571_4, o571_5, o571_6⟩
              have CR594 := CHr.trans CR512 (CHr.keep K571 (own_al1 (Safe.exa hZ.alike o490_0 (by decide) (by decide))) CR512.1)
              have f572 := own_staK f491 K571 (own_al1 o490_0.nostat)
              have f573 := own_staK f492 K571 (own_al1 o490_0.nostat)
              have f579 := own_staK f498 K571 (own_al1 o490_0.nostat)
              have f580 := f499.keep K571
              have f593 := o490_7.keep K571 (own_nm1 (Ne.symm ne464))
              have Wk595 := Nat.le_trans Wk513 K571.1
              have Zs596 := Nat.le_trans Zs514 K571.1
              refine own_r X571 D 2 rfl ?_
              refine own_xVP X571 D hZ hown hml (own_u hw 43 rfl) (own_K59 hw) (own_ie (q1 := (((0 : Int64) + (vg1.toInt64)) + ((16385 : Int32).toInt64))) (n1 := (0 : Int32)) hw o571_2 o571_3) 1 (by decide) e571 o571_0 rfl rfl fun T597 X597 e597 => ?_
              show own_H T597 128 #[.val (.int p0), .val (.int p1), .val (.int p2), .val (.int p3), .val (.int vg1), .val (.int zj3), .val (.int zj5), .val (.ref xs), .val (.ref b338), .val (.int vg418), .val (.ref b419), .val (.int 1)] [(.int (own_Fie (((0 : Int64) + (vg1.toInt64)) + ((16385 : Int32).toInt64)) (0 : Int32))), (.int 1)]
              rw [show (own_Fie (((0 : Int64) + (vg1.toInt64)) + ((16385 : Int32).toInt64)) (0 : Int32)) = (0 : Int32) from (own_fq (own_qq3 hd0 hd3))]
              refine own_r X597 D 1 rfl ?_
              refine own_fY X597 D rfl (feq hc11).2 ?_
              refine own_r X597 D 1 rfl ?_
              refine own_cN X597 D rfl (teq (by decide : (0 : Int32) = (0 : Int32))).2 ?_
              refine own_r X597 D 3 rfl ?_
              show own_H T597 152 #[.val (.int p0), .val (.int p1), .val (.int p2), .val (.int p3), .val (.int vg1), .val (.int zj3), .val (.int zj5), .val (.ref xs), .val (.ref b338), .val (.int vg418), .val (.ref b419), .val (.int 1)] [(.int 1)]
              refine own_r X597 D 2 rfl ?_
              by_cases hc598 : zj5 = (0 : Int32)
              ·
                refine own_fY X597 D rfl (teq hc598).1 ?_
                exact J6 xs b338 vg418 b419 (((0 : Int64) + (vg1.toInt64)) + ((16385 : Int32).toInt64)) (0 : Int32) _ _ _ _ _ (X597.mono (by decide) (by decide)) N571 e597 Zs596 SJ337 Wk595 CR594 hZ hown o571_0 o571_2 o571_3 (Eq.trans (show own_Fie (((0 : Int64) + (vg1.toInt64)) + ((16385 : Int32).toInt64)) (0 : Int32) = (0 : Int32) from (own_fq (own_qq3 hd0 hd3))) (by simp only [own_E, if_neg hc11, if_neg hc516, if_pos hc598]))
              ·
                refine own_fN X597 D rfl (feq hc598).1 ?_
                refine own_r X597 D 2 rfl ?_
                by_cases hc599 : (255 : Int32) < vg418
                ·
                  refine own_xVH SJ337 Wk595 CR594 hEL X597 N571 D hZ hown hml (own_u hw 134 rfl) (own_K62 hw) (own_acNc (u4 := (.long (((0 : Int64) + (vg1.toInt64)) + ((16385 : Int32).toInt64)))) (u5 := (.ref li571)) (LL := (own_cpl Ls (List.replicate 64 (0 : Int32)) vg1)) hw Zs596 f572 f573 f579 f580 o571_0 o571_1 o571_2 o571_3 o571_4 o571_5 o571_6 f593 g_b419 ne464 hp_cs hp_fm hc599) 0 (by decide) e597 o571_0 rfl rfl ?_
                  rintro v600 T600 h600 L600 s kw600 X600 N600 e600 ⟨rfl, K600, o600_0, o600_1, o600_2⟩ S600 Wk600 CR600 hZ hown
                  have Zs623 := Nat.le_trans Zs596 K600.1
                  exact J6 xs b338 vg418 b419 (((0 : Int64) + (vg1.toInt64)) + ((16385 : Int32).toInt64)) ((0 : Int32) + (1 : Int32)) _ _ _ _ _ (X600.mono (by decide) (by decide)) N600 e600 Zs623 S600 Wk600 CR600 hZ hown o600_0 o600_1 o600_2 (Eq.trans (show own_Fie (((0 : Int64) + (vg1.toInt64)) + ((16385 : Int32).toInt64)) ((0 : Int32) + (1 : Int32)) = (0 : Int32) from (own_fq (own_qq3 hd0 hd3))) (by simp only [own_E, if_neg hc11, if_neg hc516, if_neg hc598]))
                ·
                  refine own_xV X597 N571 D hZ hown hml (own_u hw 134 rfl) (own_K62 hw) (own_acL (n1 := (0 : Int32)) (u2 := (.null)) (u4 := (.long (((0 : Int64) + (vg1.toInt64)) + ((16385 : Int32).toInt64)))) (u5 := (.ref li571)) (LL := (own_cpl Ls (List.replicate 64 (0 : Int32)) vg1)) hw Zs596 o571_0 o571_1 o571_2 o571_3 o571_4 o571_5 o571_6 f593 g_b419 g_la456 ne464 (by decide : ¬ ((0 : Int32) < (0 : Int32))) (by decide : (0 : Int32).toNatClampNeg ≤ 3) ((own_cpll (by rw [List.length_replicate]; exact Nat.le_trans hd3 (by decide))).trans List.length_replicate) hc599) 0 (by decide) e597 o571_0 rfl rfl ?_
                  rintro v624 T624 h624 L624 X624 N624 e624 ⟨rfl, K624, o624_0, o624_1, o624_2⟩
                  have CR646 := CHr.trans CR594 (CHr.keep K624 (own_al2 (Safe.exa hZ.alike o571_0 (by decide) (by decide)) (own_safeZ hZ (own_u hw 201 rfl) f593 (by decide))) CR594.1)
                  have Wk647 := Nat.le_trans Wk595 K624.1
                  have Zs648 := Nat.le_trans Zs596 K624.1
                  exact J6 xs b338 vg418 b419 (((0 : Int64) + (vg1.toInt64)) + ((16385 : Int32).toInt64)) ((0 : Int32) + (1 : Int32)) _ _ _ _ _ (X624.mono (by decide) (by decide)) N624 e624 Zs648 SJ337 Wk647 CR646 hZ hown o624_0 o624_1 o624_2 (Eq.trans (show own_Fie (((0 : Int64) + (vg1.toInt64)) + ((16385 : Int32).toInt64)) ((0 : Int32) + (1 : Int32)) = (0 : Int32) from (own_fq (own_qq3 hd0 hd3))) (by simp only [own_E, if_neg hc11, if_neg hc516, if_neg hc598]))
          by_cases hc649 : vg1 = (1 : Int32)
          ·
            refine own_xS XJ4 N0 D hZ hown hml (own_u hw 0 rfl) (own_K63 hw) (own_drS1 hw Z0 i_SC hp_cs hc11 hc649 (hc336.1 hc649)) 0 (by decide) EJ4 rfl rfl ?_
            rintro v650 T650 h650 L650 X650 N650 e650 ⟨x650, y650, ky650, L_2650, rfl, K650, zf_x650, zf_y650, o650_0, o650_1, o650_2, o650_3⟩
            have ne652 := own_ne2 i_Ad.lt zf_x650
            have ne654 := own_ne2 i_Ad.lt zf_y650
            have CR666 := CHr.trans CR0 (CHr.keep K650 (fun x hx => nomatch hx) CR0.1)
            have f655 := i_SC.ext (own_ke K650)
            have f656 := i_SF.ext (own_ke K650)
            have f657 := i_SA.ext (own_ke K650)
            have f658 := i_SH.ext (own_ke K650)
            have f659 := i_SL.ext (own_ke K650)
            have f660 := i_S8.ext (own_ke K650)
            have f661 := i_SI.ext (own_ke K650)
            have f662 := i_SX.ext (own_ke K650)
            have f663 := i_E3.ext (own_ke K650)
            have f664 := i_SD.ext (own_ke K650)
            have f665 := i_Ad.ext (own_ke K650)
            have Wk667 := Nat.le_trans W0 K650.1
            have Zs668 := Nat.le_trans Z0 K650.1
            exact J337 x650 y650 ky650 L_2650 _ _ _ _ _ (X650.mono (by decide) (by decide)) N650 e650 Zs668 S0 Wk667 CR666 hZ hown f655 f656 f657 f658 f659 f660 f661 f662 f663 f664 f665 o650_0 o650_1 o650_2 (by rw [hc649]; exact o650_3) (Ne.symm ne652) (Ne.symm ne654)
          ·
            by_cases hc669 : vg1 = (2 : Int32)
            ·
              refine own_xS XJ4 N0 D hZ hown hml (own_u hw 0 rfl) (own_K63 hw) (own_drS2 hw Z0 i_SC hp_cs hc11 hc649 hc669 (hc336.2.1 hc669)) 0 (by decide) EJ4 rfl rfl ?_
              rintro v670 T670 h670 L670 X670 N670 e670 ⟨x670, y670, ky670, L_2670, rfl, K670, zf_x670, zf_y670, o670_0, o670_1, o670_2, o670_3⟩
              have ne672 := own_ne2 i_Ad.lt zf_x670
              have ne674 := own_ne2 i_Ad.lt zf_y670
              have CR686 := CHr.trans CR0 (CHr.keep K670 (fun x hx => nomatch hx) CR0.1)
              have f675 := i_SC.ext (own_ke K670)
              have f676 := i_SF.ext (own_ke K670)
              have f677 := i_SA.ext (own_ke K670)
              have f678 := i_SH.ext (own_ke K670)
              have f679 := i_SL.ext (own_ke K670)
              have f680 := i_S8.ext (own_ke K670)
              have f681 := i_SI.ext (own_ke K670)
              have f682 := i_SX.ext (own_ke K670)
              have f683 := i_E3.ext (own_ke K670)
              have f684 := i_SD.ext (own_ke K670)
              have f685 := i_Ad.ext (own_ke K670)
              have Wk687 := Nat.le_trans W0 K670.1
              have Zs688 := Nat.le_trans Z0 K670.1
              exact J337 x670 y670 ky670 L_2670 _ _ _ _ _ (X670.mono (by decide) (by decide)) N670 e670 Zs688 S0 Wk687 CR686 hZ hown f675 f676 f677 f678 f679 f680 f681 f682 f683 f684 f685 o670_0 o670_1 o670_2 (by rw [hc669]; exact o670_3) (Ne.symm ne672) (Ne.symm ne674)
            ·
              refine own_xS XJ4 N0 D hZ hown hml (own_u hw 0 rfl) (own_K63 hw) (own_drS3 hw Z0 i_SC hp_cs hc11 hc649 hc669 (hc336.2.2 hc649 hc669)) 0 (by decide) EJ4 rfl rfl ?_
              rintro v689 T689 h689 L689 X689 N689 e689 ⟨x689, y689, ky689, L_2689, rfl, K689, zf_x689, zf_y689, o689_0, o689_1, o689_2, o689_3⟩
              have ne691 := own_ne2 i_Ad.lt zf_x689
              have ne693 := own_ne2 i_Ad.lt zf_y689
              have CR705 := CHr.trans CR0 (CHr.keep K689 (fun x hx => nomatch hx) CR0.1)
              have f694 := i_SC.ext (own_ke K689)
              have f695 := i_SF.ext (own_ke K689)
              have f696 := i_SA.ext (own_ke K689)
              have f697 := i_SH.ext (own_ke K689)
              have f698 := i_SL.ext (own_ke K689)
              have f699 := i_S8.ext (own_ke K689)
              have f700 := i_SI.ext (own_ke K689)
              have f701 := i_SX.ext (own_ke K689)
              have f702 := i_E3.ext (own_ke K689)
              have f703 := i_SD.ext (own_ke K689)
              have f704 := i_Ad.ext (own_ke K689)
              have Wk706 := Nat.le_trans W0 K689.1
              have Zs707 := Nat.le_trans Z0 K689.1
              exact J337 x689 y689 ky689 L_2689 _ _ _ _ _ (X689.mono (by decide) (by decide)) N689 e689 Zs707 S0 Wk706 CR705 hZ hown f694 f695 f696 f697 f698 f699 f700 f701 f702 f703 f704 o689_0 o689_1 o689_2 (by rw [(own_is3 hd0 hd3 hc11 hc649 hc669)]; exact o689_3) (Ne.symm ne691) (Ne.symm ne693)
        ·
          have hpos := own_pos hd0 hc11
          obtain ⟨ru, ju, jv, hV⟩ := own_kU hd0 hd3 hc11 hc336
          have J708 : ∀ (xs : Addr) (ys : Addr) (ks : ClassId) (Ls : List Int32) (s1 : State) (kwJ708 : Nat) (TJ708 : State) (hJ708 : Heap) (LJ708 : List Loc) (XJ708 : Stand p l e room_1 s1 m #[(.int p0), (.int p1), (.int p2), (.int p3)] below meth c TJ708 LJ708 4 16) (NJ708 : Fr n0 LJ708) (eJ708 : TJ708.heap = hJ708) (ZJ708 : n0 ≤ hJ708.size) (SJ708 : own_S s s1 kwJ708) (WkJ708 : kwJ708 ≤ hJ708.size) (CRJ708 : CHr Z own_EL s.vm h0 s1.vm hJ708) (hZ1 : Z.Warmed39 s1.vm) (hown1 : s1.vm.findClass "com/example/fields_in_tables/fieldsintables/TextBuilderIsEmptyPinLaw" = some m.cls) (fJ708_0 : own_eS1 Z hJ708 (.int cs)) (fJ708_1 : own_eS0 Z hJ708 fm) (fJ708_2 : own_eS2 Z hJ708 (.int 1)) (fJ708_3 : own_eS3 Z hJ708 (.int 0)) (fJ708_4 : own_eS4 Z hJ708 (.int 8)) (fJ708_5 : own_eS5 Z hJ708 (.ref u8)) (fJ708_6 : own_eS6 Z hJ708 (.ref a3)) (fJ708_7 : own_eS8 Z hJ708 (.ref a3)) (fJ708_8 : Exa Z hJ708 a3 "sun/nio/cs/ISO_8859_1") (fJ708_9 : own_eS7 Z hJ708 (.ref de)) (fJ708_10 : Arv Z hJ708 de kd (.object "java/lang/Object") (0 : Int32) [] .null) (gEs : Exa Z hJ708 xs own_cS) (gFv : own_eF10 Z hJ708 xs (.ref ys)) (gFc : own_eF9 Z hJ708 xs (.int 1)) (gAb : own_aB Z hJ708 ys ks (vg1 <<< ((1 : Int32) &&& 31)) Ls) (nx : xs ≠ de) (ny : ys ≠ de) (hU : own_UU Ls vg1 ru ju jv), own_G p e below Pw (TJ708.setTop (mkF m 38 #[.val (.int p0), .val (.int p1), .val (.int p2), .val (.int p3), .val (.int vg1), .val (.int zj3), .val (.int zj5), .unset, .unset, .unset, .unset, .unset] [(.ref xs)])) := by
            intro xs ys ks Ls s kwJ708 TJ708 hJ708 LJ708 XJ708 NJ708 eJ708 ZJ708 SJ708 WkJ708 CRJ708 hZ hown fJ708_0 fJ708_1 fJ708_2 fJ708_3 fJ708_4 fJ708_5 fJ708_6 fJ708_7 fJ708_8 fJ708_9 fJ708_10 gEs gFv gFc gAb nx ny hU
            refine own_r XJ708 D 1 rfl ?_
            refine own_newOk XJ708 hx hZ hown (own_u hw 4 rfl) (own_u hw 5 rfl) (own_u hw 6 rfl) eJ708 (own_dd D rfl) (by decide) (by decide) fun T709 h709 b709 X709 e709 E709 ga709 A709 D709 => ?_
            have ne711 := own_ne1 fJ708_10.lt ga709
            have ne712 := own_ne1 gEs.lt ga709
            have ne713 := own_ne1 gAb.lt ga709
            have CR729 := CHr.trans CRJ708 (CHr.ext E709 CRJ708.1)
            have f714 := fJ708_0.ext E709
            have f715 := fJ708_1.ext E709
            have f716 := fJ708_2.ext E709
            have f717 := fJ708_3.ext E709
            have f718 := fJ708_4.ext E709
            have f721 := fJ708_7.ext E709
            have f722 := fJ708_8.ext E709
            have f723 := fJ708_9.ext E709
            have f724 := fJ708_10.ext E709
            have f725 := gEs.ext E709
            have f726 := gFv.ext E709
            have f727 := gFc.ext E709
            have f728 := gAb.ext E709
            have f730 : own_eF9 Z h709 b709 (.int 0) := D709 (Or.inr (own_u hw 31 rfl)) (ty := .byte) (by decide)
            have f731 : own_eF10 Z h709 b709 .null := D709 (Or.inr (own_u hw 33 rfl)) (ty := (.array .byte)) (by decide)
            have g_b709 := own_ge ZJ708 ga709
            have Wk732 := Nat.le_trans WkJ708 E709.1
            have Zs733 := Nat.le_trans ZJ708 E709.1
            refine own_r X709 D 2 rfl ?_
            refine own_newAk X709 hx hZ (own_u hw 7 rfl) e709 (own_dd D rfl) (by decide) (cap := 16385) (by decide) (by decide) (by decide) (by decide) 0 rfl fun T734 h734 k734 b734 X734 e734 E734 ga734 V734 Ex734 => ?_
            have ne739 := own_ne1 A709.lt ga734
            have CR758 := CHr.trans CR729 (CHr.ext E734 CR729.1)
            have f740 := f714.ext E734
            have f741 := f715.ext E734
            have f742 := f716.ext E734
            have f743 := f717.ext E734
            have f744 := f718.ext E734
            have f747 := f721.ext E734
            have f748 := f722.ext E734
            have f749 := f723.ext E734
            have f750 := f724.ext E734
            have f751 := f725.ext E734
            have f752 := f726.ext E734
            have f753 := f727.ext E734
            have f754 := f728.ext E734
            have f755 := A709.ext E734
            have f756 := f730.ext E734
            have f757 := f731.ext E734
            have f759 : Arv Z h734 b734 k734 .char (16385 : Int32) [] (.int 0) := V734
            have Wk760 := Nat.le_trans Wk732 E734.1
            have Zs761 := Nat.le_trans Zs733 E734.1
            refine own_xI X734 NJ708 D hZ hown hml (own_u hw 8 rfl) (own_K19 hw) (own_ccB (u1 := (.null)) (u2 := (.int 0)) (M_1 := ([] : List Int32)) (n1 := (16385 : Int32)) hw Zs761 f740 f755 f757 f756 f759 g_b709 ne739 hp_cs (by decide : ¬ ((16385 : Int32) = (0 : Int32))) (by decide : ¬ ((16385 : Int32) < (0 : Int32))) (by decide : (16385 : Int32).toNatClampNeg ≤ 16385) own_caB) 1 (by decide) e734 rfl rfl ?_
            rintro v762 T762 h762 L762 X762 N762 e762 ⟨x762, kx762, L_2762, rfl, K762, zf_x762, o762_0, o762_1, o762_2, o762_3⟩
            have ne764 := own_ne2 f750.lt zf_x762
            have CR786 := CHr.trans CR758 (CHr.keep K762 (own_al1 (own_safeN hZ.alike f755 f757)) CR758.1)
            have f769 := own_staK f740 K762 (own_al1 f755.nostat)
            have f770 := own_staK f741 K762 (own_al1 f755.nostat)
            have f771 := own_staK f742 K762 (own_al1 f755.nostat)
            have f772 := own_staK f743 K762 (own_al1 f755.nostat)
            have f773 := own_staK f744 K762 (own_al1 f755.nostat)
            have f776 := own_staK f747 K762 (own_al1 f755.nostat)
            have f777 := f748.keep K762
            have f778 := own_staK f749 K762 (own_al1 f755.nostat)
            have f779 := f750.keep K762 (own_nm1 ne711)
            have f780 := f751.keep K762
            have f781 := f752.keep K762 (own_nm1 ne712)
            have f782 := f753.keep K762 (own_nm1 ne712)
            have f783 := f754.keep K762 (own_nm1 ne713)
            have Wk787 := Nat.le_trans Wk760 K762.1
            have Zs788 := Nat.le_trans Zs761 K762.1
            refine own_r X762 D 3 rfl ?_
            show own_H T762 56 #[.val (.int p0), .val (.int p1), .val (.int p2), .val (.int p3), .val (.int vg1), .val (.int zj3), .val (.int zj5), .val (.ref xs), .val (.ref b709), .unset, .unset, .unset] [(.int (p3.toUInt32.toUInt16.toUInt32.toInt32))]
            generalize hvg789 : (p3.toUInt32.toUInt16.toUInt32.toInt32) = vg789
            refine own_r X762 D 1 rfl ?_
            refine own_newOk X762 hx hZ hown (own_u hw 34 rfl) (own_u hw 35 rfl) (own_u hw 36 rfl) e762 (own_dd D rfl) (by decide) (by decide) fun T790 h790 b790 X790 e790 E790 ga790 A790 D790 => ?_
            have ne792 := own_ne1 f779.lt ga790
            have ne793 := own_ne1 f780.lt ga790
            have ne794 := own_ne1 f783.lt ga790
            have ne795 := own_ne1 o762_0.lt ga790
            have ne797 := own_ne1 o762_3.lt ga790
            have CR818 := CHr.trans CR786 (CHr.ext E790 CR786.1)
            have f798 := f769.ext E790
            have f799 := f770.ext E790
            have f800 := f771.ext E790
            have f801 := f772.ext E790
            have f802 := f773.ext E790
            have f805 := f776.ext E790
            have f806 := f777.ext E790
            have f807 := f778.ext E790
            have f808 := f779.ext E790
            have f809 := f780.ext E790
            have f810 := f781.ext E790
            have f811 := f782.ext E790
            have f812 := f783.ext E790
            have f813 := o762_0.ext E790
            have f815 := o762_1.ext E790
            have f816 := o762_2.ext E790
            have f817 := o762_3.ext E790
            have f819 : own_eF11 Z h790 b790 .null := D790 (Or.inl (own_u hw 42 rfl)) (ty := (.array .byte)) (by decide)
            have f820 : own_eF12 Z h790 b790 (.long (0 : Int64)) := D790 (Or.inl (own_u hw 49 rfl)) (ty := .long) (by decide)
            have f821 : own_eF13 Z h790 b790 (.int 0) := D790 (Or.inl (own_u hw 51 rfl)) (ty := .int) (by decide)
            have f822 : own_eF14 Z h790 b790 .null := D790 (Or.inl (own_u hw 73 rfl)) (ty := (.array .char)) (by decide)
            have f823 : own_eF15 Z h790 b790 .null := D790 (Or.inl (own_u hw 189 rfl)) (ty := (.array .char)) (by decide)
            have f824 : own_eF16 Z h790 b790 .null := D790 (Or.inl (own_u hw 246 rfl)) (ty := (.object "java/util/List")) (by decide)
            have g_b790 := own_ge Zs788 ga790
            have Wk825 := Nat.le_trans Wk787 E790.1
            have Zs826 := Nat.le_trans Zs788 E790.1
            refine own_r X790 D 1 rfl ?_
            refine own_xI X790 N762 D hZ hown hml (own_u hw 37 rfl) (own_K60 hw) (own_tbi hw Zs826 A790 f819 f820 f821 f822 f823 f824 g_b790) 1 (by decide) e790 rfl rfl ?_
            rintro v827 T827 h827 L827 X827 N827 e827 ⟨la827, kl827, rfl, K827, zf_la827, o827_0, o827_1, o827_2, o827_3, o827_4, o827_5, o827_6, o827_7⟩
            have ne835 := own_ne2 A790.lt zf_la827
            have g_la827 := Nat.le_trans Zs826 zf_la827
            have CR857 := CHr.trans CR818 (CHr.keep K827 (own_al1 (Safe.exa hZ.alike A790 (by decide) (by decide))) CR818.1)
            have f836 := own_staK f798 K827 (own_al1 A790.nostat)
            have f837 := own_staK f799 K827 (own_al1 A790.nostat)
            have f838 := own_staK f800 K827 (own_al1 A790.nostat)
            have f839 := own_staK f801 K827 (own_al1 A790.nostat)
            have f840 := own_staK f802 K827 (own_al1 A790.nostat)
            have f843 := own_staK f805 K827 (own_al1 A790.nostat)
            have f844 := f806.keep K827
            have f845 := own_staK f807 K827 (own_al1 A790.nostat)
            have f846 := f808.keep K827 (own_nm1 ne792)
            have f847 := f809.keep K827
            have f848 := f810.keep K827 (own_nm1 ne793)
            have f849 := f811.keep K827 (own_nm1 ne793)
            have f850 := f812.keep K827 (own_nm1 ne794)
            have f851 := f813.keep K827
            have f853 := f815.keep K827 (own_nm1 ne795)
            have f854 := f816.keep K827 (own_nm1 ne795)
            have f855 := f817.keep K827 (own_nm1 ne797)
            have Wk858 := Nat.le_trans Wk825 K827.1
            have Zs859 := Nat.le_trans Zs826 K827.1
            refine own_r X827 D 2 rfl ?_
            refine own_xVP X827 D hZ hown hml (own_u hw 43 rfl) (own_K59 hw) (own_ie (q1 := (0 : Int64)) (n1 := (0 : Int32)) hw o827_2 o827_3) 0 (by decide) e827 o827_0 rfl rfl fun T860 X860 e860 => ?_
            show own_H T860 72 #[.val (.int p0), .val (.int p1), .val (.int p2), .val (.int p3), .val (.int vg1), .val (.int zj3), .val (.int zj5), .val (.ref xs), .val (.ref b709), .val (.int vg789), .val (.ref b790), .unset] [(.int (own_Fie (0 : Int64) (0 : Int32)))]
            rw [show (own_Fie (0 : Int64) (0 : Int32)) = (1 : Int32) from (by decide)]
            refine own_r X860 D 3 rfl ?_
            refine own_xVH SJ708 Wk858 CR857 hEL X860 N827 D hZ hown hml (own_u hw 52 rfl) (own_K61 hw) (own_a1U (LL := (List.replicate 64 (0 : Int32))) hw Zs859 f836 f837 f838 f839 f840 f843 f844 o827_0 o827_1 o827_2 o827_3 o827_4 o827_5 o827_6 o827_7 f847 f848 f849 f850 g_b790 (Ne.symm ne793) (Ne.symm ne794) ne835 hp_cs hp_fm hpos hU.1 hd0 hd3 hU.2.1) 0 (by decide) e860 o827_0 rfl rfl ?_
            rintro v861 T861 h861 L861 s kw861 X861 N861 e861 ⟨ca861, kc861, rfl, K861, zf_ca861, o861_0, o861_1, o861_2, o861_3, o861_4, o861_5, o861_6, o861_7⟩ S861 Wk861 CR861 hZ hown
            have ne869 := own_ne2 o827_0.lt zf_ca861
            have g_ca861 := Nat.le_trans Zs859 zf_ca861
            have f871 := own_staK f836 K861 (own_al1 o827_0.nostat)
            have f872 := own_staK f837 K861 (own_al1 o827_0.nostat)
            have f873 := own_staK f838 K861 (own_al1 o827_0.nostat)
            have f874 := own_staK f839 K861 (own_al1 o827_0.nostat)
            have f875 := own_staK f840 K861 (own_al1 o827_0.nostat)
            have f878 := own_staK f843 K861 (own_al1 o827_0.nostat)
            have f879 := f844.keep K861
            have f880 := own_staK f845 K861 (own_al1 o827_0.nostat)
            have f881 := f846.keep K861 (own_nm1 ne792)
            have f886 := f851.keep K861
            have f888 := f853.keep K861 (own_nm1 ne795)
            have f889 := f854.keep K861 (own_nm1 ne795)
            have f890 := f855.keep K861 (own_nm1 ne797)
            have f892 := o827_7.keep K861 (own_nm1 (Ne.symm ne835))
            have Zs893 := Nat.le_trans Zs859 K861.1
            refine own_r X861 D 2 rfl ?_
            refine own_xVP X861 D hZ hown hml (own_u hw 43 rfl) (own_K59 hw) (own_ie (q1 := (0 : Int64)) hw o861_2 o861_3) 1 (by decide) e861 o861_0 rfl rfl fun T894 X894 e894 => ?_
            show own_H T894 88 #[.val (.int p0), .val (.int p1), .val (.int p2), .val (.int p3), .val (.int vg1), .val (.int zj3), .val (.int zj5), .val (.ref xs), .val (.ref b709), .val (.int vg789), .val (.ref b790), .val (.int 1)] [(.int (own_Fie (0 : Int64) vg1)), (.int 1)]
            rw [show (own_Fie (0 : Int64) vg1) = (0 : Int32) from (own_fi0 hc11)]
            refine own_r X894 D 1 rfl ?_
            refine own_fY X894 D rfl (feq hc11).2 ?_
            refine own_r X894 D 1 rfl ?_
            refine own_cN X894 D rfl (teq (by decide : (0 : Int32) = (0 : Int32))).2 ?_
            refine own_r X894 D 3 rfl ?_
            show own_H T894 107 #[.val (.int p0), .val (.int p1), .val (.int p2), .val (.int p3), .val (.int vg1), .val (.int zj3), .val (.int zj5), .val (.ref xs), .val (.ref b709), .val (.int vg789), .val (.ref b790), .val (.int 1)] [(.int 1)]
            refine own_r X894 D 2 rfl ?_
            by_cases hc895 : zj3 = (0 : Int32)
            ·
              refine own_fY X894 D rfl (teq hc895).1 ?_
              refine own_r X894 D 2 rfl ?_
              refine own_xVP X894 D hZ hown hml (own_u hw 43 rfl) (own_K59 hw) (own_ie (q1 := (0 : Int64)) hw o861_2 o861_3) 1 (by decide) e894 o861_0 rfl rfl fun T896 X896 e896 => ?_
              show own_H T896 128 #[.val (.int p0), .val (.int p1), .val (.int p2), .val (.int p3), .val (.int vg1), .val (.int zj3), .val (.int zj5), .val (.ref xs), .val (.ref b709), .val (.int vg789), .val (.ref b790), .val (.int 1)] [(.int (own_Fie (0 : Int64) vg1)), (.int 1)]
              rw [show (own_Fie (0 : Int64) vg1) = (0 : Int32) from (own_fi0 hc11)]
              refine own_r X896 D 1 rfl ?_
              refine own_fY X896 D rfl (feq hc11).2 ?_
              refine own_r X896 D 1 rfl ?_
              refine own_cN X896 D rfl (teq (by decide : (0 : Int32) = (0 : Int32))).2 ?_
              refine own_r X896 D 3 rfl ?_
              show own_H T896 152 #[.val (.int p0), .val (.int p1), .val (.int p2), .val (.int p3), .val (.int vg1), .val (.int zj3), .val (.int zj5), .val (.ref xs), .val (.ref b709), .val (.int vg789), .val (.ref b790), .val (.int 1)] [(.int 1)]
              refine own_r X896 D 2 rfl ?_
              by_cases hc897 : zj5 = (0 : Int32)
              ·
                refine own_fY X896 D rfl (teq hc897).1 ?_
                exact J6 xs b709 vg789 b790 (0 : Int64) vg1 _ _ _ _ _ (X896.mono (by decide) (by decide)) N861 e896 Zs893 S861 Wk861 CR861 hZ hown o861_0 o861_2 o861_3 (Eq.trans (show own_Fie (0 : Int64) vg1 = (0 : Int32) from (own_fi0 hc11)) (by simp only [own_E, if_neg hc11, if_pos hc895, if_pos hc897]))
              ·
                refine own_fN X896 D rfl (feq hc897).1 ?_
                refine own_r X896 D 2 rfl ?_
                refine own_xV X896 N861 D hZ hown hml (own_u hw 134 rfl) (own_K62 hw) (own_acBc (u1 := (.ref la827)) (u2 := (.null)) (u4 := (.long (0 : Int64))) (u5 := (.null)) (CM := (own_gcl Ls vg1.toNatClampNeg (0 : Int32) (List.replicate 64 (0 : Int32)))) hw Zs893 o861_0 o861_1 o861_2 o861_3 o861_4 o861_5 o861_6 o861_7 g_b790 g_ca861 ne869 hd0 hd3 hU.2.2.1) 0 (by decide) e896 o861_0 rfl rfl ?_
                rintro v898 T898 h898 L898 X898 N898 e898 ⟨rfl, K898, o898_0, o898_1, o898_2⟩
                have CR921 := CHr.trans CR861 (CHr.keep K898 (own_al2 (Safe.exa hZ.alike o861_0 (by decide) (by decide)) (own_safeA hZ.alike o861_7 (by decide))) CR861.1)
                have Wk922 := Nat.le_trans Wk861 K898.1
                have Zs923 := Nat.le_trans Zs893 K898.1
                exact J6 xs b709 vg789 b790 (0 : Int64) (vg1 + (1 : Int32)) _ _ _ _ _ (X898.mono (by decide) (by decide)) N898 e898 Zs923 S861 Wk922 CR921 hZ hown o898_0 o898_1 o898_2 (Eq.trans (show own_Fie (0 : Int64) (vg1 + (1 : Int32)) = (0 : Int32) from (own_fi1 hd0 hd3)) (by simp only [own_E, if_neg hc11, if_pos hc895, if_neg hc897]))
            ·
              refine own_fN X894 D rfl (feq hc895).1 ?_
              refine own_r X894 D 2 rfl ?_
              refine own_xV X894 N861 D hZ hown hml (own_u hw 52 rfl) (own_K61 hw) (own_a1BB (m1 := (16385 : Int32)) (M_1 := (own_gcl Ls vg1.toNatClampNeg (0 : Int32) (List.replicate 64 (0 : Int32)))) (u1 := (.ref la827)) hw Zs893 f871 f872 f873 f874 f875 f880 f881 o861_0 o861_1 o861_2 o861_3 o861_4 o861_5 o861_6 o861_7 f886 f888 f889 f890 g_b790 (Ne.symm ne795) (Ne.symm ne797) (Ne.symm ne792) ne869 (Ne.symm ne711) (Ne.symm ne764) hp_cs hp_fm hc11 hpos hd0 hd3 hU.2.2.2.1 hU.2.2.2.2.1 hU.2.2.2.2.2.1 hU.2.2.2.2.2.2.1 hU.2.2.2.2.2.2.2.1 hU.2.2.2.2.2.2.2.2.1 hU.2.2.2.2.2.2.2.2.2.1 hU.2.2.2.2.2.2.2.2.2.2 (by decide : ¬ ((16385 : Int32) < (0 : Int32))) (by decide : (16384 : Int32) < (16385 : Int32)) (own_qa hd0 hd3) (own_bb6 hd0 hd3)) 0 (by decide) e894 o861_0 rfl rfl ?_
              rintro v924 T924 h924 L924 X924 N924 e924 ⟨li924, rfl, K924, o924_0, o924_1, o924_2, o924_3, o924_4, o924_5, o924_6⟩
              have CR948 := CHr.trans CR861 (CHr.keep K924 (own_al1 (Safe.exa hZ.alike o861_0 (by decide) (by decide))) CR861.1)
              have f925 := own_staK f871 K924 (own_al1 o861_0.nostat)
              have f926 := own_staK f872 K924 (own_al1 o861_0.nostat)
              have f932 := own_staK f878 K924 (own_al1 o861_0.nostat)
              have f933 := f879.keep K924
              have f946 := f892.keep K924 (own_nm1 (Ne.symm ne835))
              have f947 := o861_7.keep K924 (own_nm1 (Ne.symm ne869))
              have Wk949 := Nat.le_trans Wk861 K924.1
              have Zs950 := Nat.le_trans Zs893 K924.1
              refine own_r X924 D 2 rfl ?_
              refine own_xVP X924 D hZ hown hml (own_u hw 43 rfl) (own_K59 hw) (own_ie (q1 := (((0 : Int64) + (vg1.toInt64)) + ((16385 : Int32).toInt64))) (n1 := (0 : Int32)) hw o924_2 o924_3) 1 (by decide) e924 o924_0 rfl rfl fun T951 X951 e951 => ?_
              show own_H T951 128 #[.val (.int p0), .val (.int p1), .val (.int p2), .val (.int p3), .val (.int vg1), .val (.int zj3), .val (.int zj5), .val (.ref xs), .val (.ref b709), .val (.int vg789), .val (.ref b790), .val (.int 1)] [(.int (own_Fie (((0 : Int64) + (vg1.toInt64)) + ((16385 : Int32).toInt64)) (0 : Int32))), (.int 1)]
              rw [show (own_Fie (((0 : Int64) + (vg1.toInt64)) + ((16385 : Int32).toInt64)) (0 : Int32)) = (0 : Int32) from (own_fq (own_qq3 hd0 hd3))]
              refine own_r X951 D 1 rfl ?_
              refine own_fY X951 D rfl (feq hc11).2 ?_
              refine own_r X951 D 1 rfl ?_
              refine own_cN X951 D rfl (teq (by decide : (0 : Int32) = (0 : Int32))).2 ?_
              refine own_r X951 D 3 rfl ?_
              show own_H T951 152 #[.val (.int p0), .val (.int p1), .val (.int p2), .val (.int p3), .val (.int vg1), .val (.int zj3), .val (.int zj5), .val (.ref xs), .val (.ref b709), .val (.int vg789), .val (.ref b790), .val (.int 1)] [(.int 1)]
              refine own_r X951 D 2 rfl ?_
              by_cases hc952 : zj5 = (0 : Int32)
              ·
                refine own_fY X951 D rfl (teq hc952).1 ?_
                exact J6 xs b709 vg789 b790 (((0 : Int64) + (vg1.toInt64)) + ((16385 : Int32).toInt64)) (0 : Int32) _ _ _ _ _ (X951.mono (by decide) (by decide)) N924 e951 Zs950 S861 Wk949 CR948 hZ hown o924_0 o924_2 o924_3 (Eq.trans (show own_Fie (((0 : Int64) + (vg1.toInt64)) + ((16385 : Int32).toInt64)) (0 : Int32) = (0 : Int32) from (own_fq (own_qq3 hd0 hd3))) (by simp only [own_E, if_neg hc11, if_neg hc895, if_pos hc952]))
              ·
                refine own_fN X951 D rfl (feq hc952).1 ?_
                refine own_r X951 D 2 rfl ?_
                by_cases hc953 : (255 : Int32) < vg789
                ·
                  refine own_xVH S861 Wk949 CR948 hEL X951 N924 D hZ hown hml (own_u hw 134 rfl) (own_K62 hw) (own_acSc (u4 := (.long (((0 : Int64) + (vg1.toInt64)) + ((16385 : Int32).toInt64)))) (u5 := (.ref li924)) (LL := (List.replicate 64 (0 : Int32))) (CM := (own_gcl Ls vg1.toNatClampNeg (0 : Int32) (List.replicate 64 (0 : Int32)))) hw Zs950 f925 f926 f932 f933 o924_0 o924_1 o924_2 o924_3 o924_4 o924_5 o924_6 f946 f947 g_b790 g_ca861 ne835 ne869 hp_cs hp_fm hc953 hU.2.2.1) 0 (by decide) e951 o924_0 rfl rfl ?_
                  rintro v954 T954 h954 L954 s kw954 X954 N954 e954 ⟨rfl, K954, o954_0, o954_1, o954_2⟩ S954 Wk954 CR954 hZ hown
                  have Zs977 := Nat.le_trans Zs950 K954.1
                  exact J6 xs b709 vg789 b790 (((0 : Int64) + (vg1.toInt64)) + ((16385 : Int32).toInt64)) ((0 : Int32) + (1 : Int32)) _ _ _ _ _ (X954.mono (by decide) (by decide)) N954 e954 Zs977 S954 Wk954 CR954 hZ hown o954_0 o954_1 o954_2 (Eq.trans (show own_Fie (((0 : Int64) + (vg1.toInt64)) + ((16385 : Int32).toInt64)) ((0 : Int32) + (1 : Int32)) = (0 : Int32) from (own_fq (own_qq3 hd0 hd3))) (by simp only [own_E, if_neg hc11, if_neg hc895, if_neg hc952]))
                ·
                  refine own_xV X951 N924 D hZ hown hml (own_u hw 134 rfl) (own_K62 hw) (own_acL (n1 := (0 : Int32)) (u2 := (.ref ca861)) (u4 := (.long (((0 : Int64) + (vg1.toInt64)) + ((16385 : Int32).toInt64)))) (u5 := (.ref li924)) (LL := (List.replicate 64 (0 : Int32))) hw Zs950 o924_0 o924_1 o924_2 o924_3 o924_4 o924_5 o924_6 f946 g_b790 g_la827 ne835 (by decide : ¬ ((0 : Int32) < (0 : Int32))) (by decide : (0 : Int32).toNatClampNeg ≤ 3) List.length_replicate hc953) 0 (by decide) e951 o924_0 rfl rfl ?_
                  rintro v978 T978 h978 L978 X978 N978 e978 ⟨rfl, K978, o978_0, o978_1, o978_2⟩
                  have CR1001 := CHr.trans CR948 (CHr.keep K978 (own_al2 (Safe.exa hZ.alike o924_0 (by decide) (by decide)) (own_safeZ hZ (own_u hw 201 rfl) f946 (by decide))) CR948.1)
                  have Wk1002 := Nat.le_trans Wk949 K978.1
                  have Zs1003 := Nat.le_trans Zs950 K978.1
                  exact J6 xs b709 vg789 b790 (((0 : Int64) + (vg1.toInt64)) + ((16385 : Int32).toInt64)) ((0 : Int32) + (1 : Int32)) _ _ _ _ _ (X978.mono (by decide) (by decide)) N978 e978 Zs1003 S861 Wk1002 CR1001 hZ hown o978_0 o978_1 o978_2 (Eq.trans (show own_Fie (((0 : Int64) + (vg1.toInt64)) + ((16385 : Int32).toInt64)) ((0 : Int32) + (1 : Int32)) = (0 : Int32) from (own_fq (own_qq3 hd0 hd3))) (by simp only [own_E, if_neg hc11, if_neg hc895, if_neg hc952]))
          by_cases hc1004 : vg1 = (1 : Int32)
          ·
            refine own_xS XJ4 N0 D hZ hown hml (own_u hw 0 rfl) (own_K63 hw) (own_drU1 hw Z0 i_SC i_SA i_SH i_SL hp_cs hc11 hc1004 (hV.1 hc1004).1.1 (hV.1 hc1004).1.2.1 (hV.1 hc1004).1.2.2.1 (hV.1 hc1004).1.2.2.2.1 (hV.1 hc1004).1.2.2.2.2.1 (hV.1 hc1004).1.2.2.2.2.2.1 (hV.1 hc1004).1.2.2.2.2.2.2.1 (hV.1 hc1004).1.2.2.2.2.2.2.2) 0 (by decide) EJ4 rfl rfl ?_
            rintro v1005 T1005 h1005 L1005 X1005 N1005 e1005 ⟨x1005, y1005, ky1005, rfl, K1005, zf_x1005, zf_y1005, o1005_0, o1005_1, o1005_2, o1005_3⟩
            have ne1007 := own_ne2 i_Ad.lt zf_x1005
            have ne1009 := own_ne2 i_Ad.lt zf_y1005
            have CR1021 := CHr.trans CR0 (CHr.keep K1005 (fun x hx => nomatch hx) CR0.1)
            have f1010 := i_SC.ext (own_ke K1005)
            have f1011 := i_SF.ext (own_ke K1005)
            have f1012 := i_SA.ext (own_ke K1005)
            have f1013 := i_SH.ext (own_ke K1005)
            have f1014 := i_SL.ext (own_ke K1005)
            have f1015 := i_S8.ext (own_ke K1005)
            have f1016 := i_SI.ext (own_ke K1005)
            have f1017 := i_SX.ext (own_ke K1005)
            have f1018 := i_E3.ext (own_ke K1005)
            have f1019 := i_SD.ext (own_ke K1005)
            have f1020 := i_Ad.ext (own_ke K1005)
            have Wk1022 := Nat.le_trans W0 K1005.1
            have Zs1023 := Nat.le_trans Z0 K1005.1
            exact J708 x1005 y1005 ky1005 (own_tbl (own_M1 p0 p1) (1 : Int32).toNatClampNeg (0 : Int32) (List.replicate ((1 : Int32) <<< ((1 : Int32) &&& 31)).toNatClampNeg (0 : Int32))) _ _ _ _ _ (X1005.mono (by decide) (by decide)) N1005 e1005 Zs1023 S0 Wk1022 CR1021 hZ hown f1010 f1011 f1012 f1013 f1014 f1015 f1016 f1017 f1018 f1019 f1020 o1005_0 o1005_1 o1005_2 (by rw [hc1004]; exact o1005_3) (Ne.symm ne1007) (Ne.symm ne1009) (by rw [hc1004]; exact (hV.1 hc1004).2)
          ·
            by_cases hc1024 : vg1 = (2 : Int32)
            ·
              refine own_xS XJ4 N0 D hZ hown hml (own_u hw 0 rfl) (own_K63 hw) (own_drU2 hw Z0 i_SC i_SA i_SH i_SL hp_cs hc11 hc1004 hc1024 (hV.2.1 hc1024).1.1 (hV.2.1 hc1024).1.2.1 (hV.2.1 hc1024).1.2.2.1 (hV.2.1 hc1024).1.2.2.2.1 (hV.2.1 hc1024).1.2.2.2.2.1 (hV.2.1 hc1024).1.2.2.2.2.2.1 (hV.2.1 hc1024).1.2.2.2.2.2.2.1 (hV.2.1 hc1024).1.2.2.2.2.2.2.2) 0 (by decide) EJ4 rfl rfl ?_
              rintro v1025 T1025 h1025 L1025 X1025 N1025 e1025 ⟨x1025, y1025, ky1025, rfl, K1025, zf_x1025, zf_y1025, o1025_0, o1025_1, o1025_2, o1025_3⟩
              have ne1027 := own_ne2 i_Ad.lt zf_x1025
              have ne1029 := own_ne2 i_Ad.lt zf_y1025
              have CR1041 := CHr.trans CR0 (CHr.keep K1025 (fun x hx => nomatch hx) CR0.1)
              have f1030 := i_SC.ext (own_ke K1025)
              have f1031 := i_SF.ext (own_ke K1025)
              have f1032 := i_SA.ext (own_ke K1025)
              have f1033 := i_SH.ext (own_ke K1025)
              have f1034 := i_SL.ext (own_ke K1025)
              have f1035 := i_S8.ext (own_ke K1025)
              have f1036 := i_SI.ext (own_ke K1025)
              have f1037 := i_SX.ext (own_ke K1025)
              have f1038 := i_E3.ext (own_ke K1025)
              have f1039 := i_SD.ext (own_ke K1025)
              have f1040 := i_Ad.ext (own_ke K1025)
              have Wk1042 := Nat.le_trans W0 K1025.1
              have Zs1043 := Nat.le_trans Z0 K1025.1
              exact J708 x1025 y1025 ky1025 (own_tbl (own_M2 p0 p1) (2 : Int32).toNatClampNeg (0 : Int32) (List.replicate ((2 : Int32) <<< ((1 : Int32) &&& 31)).toNatClampNeg (0 : Int32))) _ _ _ _ _ (X1025.mono (by decide) (by decide)) N1025 e1025 Zs1043 S0 Wk1042 CR1041 hZ hown f1030 f1031 f1032 f1033 f1034 f1035 f1036 f1037 f1038 f1039 f1040 o1025_0 o1025_1 o1025_2 (by rw [hc1024]; exact o1025_3) (Ne.symm ne1027) (Ne.symm ne1029) (by rw [hc1024]; exact (hV.2.1 hc1024).2)
            ·
              refine own_xS XJ4 N0 D hZ hown hml (own_u hw 0 rfl) (own_K63 hw) (own_drU3 hw Z0 i_SC i_SA i_SH i_SL hp_cs hc11 hc1004 hc1024 (hV.2.2 hc1004 hc1024).1.1 (hV.2.2 hc1004 hc1024).1.2.1 (hV.2.2 hc1004 hc1024).1.2.2.1 (hV.2.2 hc1004 hc1024).1.2.2.2.1 (hV.2.2 hc1004 hc1024).1.2.2.2.2.1 (hV.2.2 hc1004 hc1024).1.2.2.2.2.2.1 (hV.2.2 hc1004 hc1024).1.2.2.2.2.2.2.1 (hV.2.2 hc1004 hc1024).1.2.2.2.2.2.2.2) 0 (by decide) EJ4 rfl rfl ?_
              rintro v1044 T1044 h1044 L1044 X1044 N1044 e1044 ⟨x1044, y1044, ky1044, rfl, K1044, zf_x1044, zf_y1044, o1044_0, o1044_1, o1044_2, o1044_3⟩
              have ne1046 := own_ne2 i_Ad.lt zf_x1044
              have ne1048 := own_ne2 i_Ad.lt zf_y1044
              have CR1060 := CHr.trans CR0 (CHr.keep K1044 (fun x hx => nomatch hx) CR0.1)
              have f1049 := i_SC.ext (own_ke K1044)
              have f1050 := i_SF.ext (own_ke K1044)
              have f1051 := i_SA.ext (own_ke K1044)
              have f1052 := i_SH.ext (own_ke K1044)
              have f1053 := i_SL.ext (own_ke K1044)
              have f1054 := i_S8.ext (own_ke K1044)
              have f1055 := i_SI.ext (own_ke K1044)
              have f1056 := i_SX.ext (own_ke K1044)
              have f1057 := i_E3.ext (own_ke K1044)
              have f1058 := i_SD.ext (own_ke K1044)
              have f1059 := i_Ad.ext (own_ke K1044)
              have Wk1061 := Nat.le_trans W0 K1044.1
              have Zs1062 := Nat.le_trans Z0 K1044.1
              exact J708 x1044 y1044 ky1044 (own_tbl (own_M3 p0 p1) (3 : Int32).toNatClampNeg (0 : Int32) (List.replicate ((3 : Int32) <<< ((1 : Int32) &&& 31)).toNatClampNeg (0 : Int32))) _ _ _ _ _ (X1044.mono (by decide) (by decide)) N1044 e1044 Zs1062 S0 Wk1061 CR1060 hZ hown f1049 f1050 f1051 f1052 f1053 f1054 f1055 f1056 f1057 f1058 f1059 o1044_0 o1044_1 o1044_2 (by rw [(own_is3 hd0 hd3 hc11 hc1004 hc1024)]; exact o1044_3) (Ne.symm ne1046) (Ne.symm ne1048) (by rw [(own_is3 hd0 hd3 hc11 hc1004 hc1024)]; exact (hV.2.2 hc1004 hc1024).2)
    by_cases hc1063 : (p2 &&& (2 : Int32)) = (0 : Int32)
    ·
      refine own_fY XJ2 D rfl (teq hc1063).1 ?_
      refine own_r XJ2 D 1 rfl ?_
      exact J4 _ XJ2 EJ2 _ (by simp only [if_pos hc1063])
    ·
      refine own_fN XJ2 D rfl (feq hc1063).1 ?_
      refine own_r XJ2 D 2 rfl ?_
      exact J4 _ XJ2 EJ2 _ (by simp only [if_neg hc1063])
  by_cases hc1064 : (p2 &&& (1 : Int32)) = (0 : Int32)
  ·
    refine own_fY X0 D rfl (teq hc1064).1 ?_
    refine own_r X0 D 1 rfl ?_
    exact J2 _ X0 e0 _ (by simp only [if_pos hc1064])
  ·
    refine own_fN X0 D rfl (feq hc1064).1 ?_
    refine own_r X0 D 2 rfl ?_
    exact J2 _ X0 e0 _ (by simp only [if_neg hc1064])
theorem own_eqi {args : Array Value} {s : State} {t : Term} {n : Int32} (h : (Jvm.Cond.eq t (.int n)).value args s none s [] = some true) : t.eval args s none [] s = some (.int n) := by
  cases e : t.eval args s none [] s with
  | none => simp [Cond.value, e, Term.eval] at h
  | some v => cases v <;> simp [Cond.value, e, Term.eval] at h <;> first | (subst h; rfl) | (rw [h])
theorem own_notz {args : Array Value} {s : State} {t : Term} {z : Int32} (h : (Jvm.Cond.not (.eq t (.int 0))).value args s none s [] = some true) (e : t.eval args s none [] s = some (.int z)) : ¬ z = 0 := by
  intro q
  subst q
  have g := not_v h
  simp [Cond.value, e, Term.eval] at g
theorem own_eqr {args : Array Value} {s : State} {t u : Term} {a b : Addr} (h : (Jvm.Cond.eq t u).value args s none s [] = some true) (e1 : t.eval args s none [] s = some (.ref a)) (e2 : u.eval args s none [] s = some (.ref b)) : a = b := by
  simp [Cond.value, e1, e2] at h
  first | exact h | exact Value.ref.inj h
theorem own_exn {Z : State} {h : Heap} {a b : Addr} {C D : String} (A : Exa Z h a C) (B : Exa Z h b D) (hn : C ≠ D) : a ≠ b := fun e => by
  subst e
  obtain ⟨cell, k, e1, e2, -⟩ := A
  obtain ⟨cell', k', e1', e2', -⟩ := B
  cases e1.symm.trans e1'
  obtain ⟨k1, q1, q2⟩ := Vm.findClass_spec e2
  obtain ⟨k2, q3, q4⟩ := Vm.findClass_spec e2'
  cases q1.symm.trans q3
  exact hn (q2.symm.trans q4)
theorem own_ar0 {args : Array Value} {Z : State} {t : Term} {a : Addr} {ty : FieldType} (ev : t.eval args Z none [] Z = some (.ref a)) (ha : (Jvm.Cond.arrayOf t ty).value args Z none Z [] = some true) (hl : (Jvm.Cond.eq (.length t) (.int 0)).value args Z none Z [] = some true) (d : Value) : ∃ k, Arv Z Z.heap a k ty 0 [] d := by
  obtain ⟨c, A⟩ := Arr.start ev ha
  obtain ⟨b, cell, e1, e2, e3, e4⟩ := Jvm.Lib.length_spec (own_eqi hl)
  cases ev.symm.trans e1
  have e5 : Z.heap[a]? = some cell := by
    simp only [State.arrayAt?, Option.bind_eq_bind] at e2
    cases q : Z.heap[a]? with
    | none => rw [q] at e2; cases e2
    | some c0 =>
      rw [q] at e2
      simp only [Option.bind_some] at e2
      cases q2 : Z.vm.classes[c0.cls]? with
      | none => rw [q2] at e2; cases e2
      | some k =>
        rw [q2] at e2
        simp only [Option.bind_some] at e2
        split at e2
        · cases e2
        · split at e2 <;> first | (cases e2; rfl) | cases e2
  cases A.1.symm.trans e5
  have S : c.slots.size = 0 := by
    have q := congrArg Int32.toInt (Value.int.inj e4)
    rw [len_toInt e3] at q
    have : (0 : Int32).toInt = 0 := rfl
    omega
  exact ⟨c.cls, c, A, rfl, by rw [S]; rfl, by decide, fun i hi => absurd hi (by rw [S]; omega), fun i hi => absurd hi (by rw [S]; omega)⟩
theorem own_st0 {args : Array Value} {s : State} (hw : ∀ d ∈ tables_1, d.before args s = true) (hr : rest_1_c.before args s = true) : ∃ (cs : Int32) (fm : Value) (u8 a3 de : Addr) (kd : ClassId), Sta s s.heap "java/lang/String" "COMPACT_STRINGS" "Z" (.int cs) ∧ Sta s s.heap "jdk/internal/util/Preconditions" "SIOOBE_FORMATTER" "Ljava/util/function/BiFunction;" fm ∧ Sta s s.heap "java/lang/StringUTF16" "$assertionsDisabled" "Z" (.int 1) ∧ Sta s s.heap "java/lang/StringUTF16" "HI_BYTE_SHIFT" "I" (.int 0) ∧ Sta s s.heap "java/lang/StringUTF16" "LO_BYTE_SHIFT" "I" (.int 8) ∧ Sta s s.heap "sun/nio/cs/UTF_8" "INSTANCE" "Lsun/nio/cs/UTF_8;" (.ref u8) ∧ Sta s s.heap "sun/nio/cs/ISO_8859_1" "INSTANCE" "Lsun/nio/cs/ISO_8859_1;" (.ref a3) ∧ Sta s s.heap "java/nio/charset/StandardCharsets" "ISO_8859_1" "Ljava/nio/charset/Charset;" (.ref a3) ∧ Exa s s.heap a3 "sun/nio/cs/ISO_8859_1" ∧ Sta s s.heap "java/util/ArrayList" "DEFAULTCAPACITY_EMPTY_ELEMENTDATA" "[Ljava/lang/Object;" (.ref de) ∧ Arv s s.heap de kd (.object "java/lang/Object") (0 : Int32) [] .null ∧ a3 ≠ u8 ∧ ¬ (cs = (0 : Int32)) ∧ fm.isRef = true ∧ Jvm.Lit.compactW.before args s = true := by
  obtain ⟨hs, -⟩ := atoms_of _ (rest_1_c_eq ▸ hr)
  have w := fun {d : Jvm.Cond} (i : Nat) (h : jdkStatics_1[i]? = some d) => hs _ (List.mem_of_getElem? h)
  obtain ⟨cs, e1⟩ := is_v (Cond.before_iff.mp (w 1 rfl))
  obtain ⟨fm, e2, hf⟩ := isR_v (Cond.before_iff.mp (w 8 rfl))
  obtain ⟨u8, e3⟩ := exa_v (Cond.before_iff.mp (w 36 rfl))
  obtain ⟨a3, e4⟩ := exa_v (Cond.before_iff.mp (w 39 rfl))
  obtain ⟨a4, e5⟩ := exa_v (Cond.before_iff.mp (w 24 rfl))
  cases own_eqr (Cond.before_iff.mp (w 23 rfl)) e5 e4
  obtain ⟨de, e6⟩ := arr_v (Cond.before_iff.mp (w 31 rfl))
  obtain ⟨kd, A⟩ := own_ar0 e6 (Cond.before_iff.mp (w 31 rfl)) (Cond.before_iff.mp (w 33 rfl)) .null
  have X3 := Exa.start e4 (Cond.before_iff.mp (w 39 rfl))
  exact ⟨cs, fm, u8, a3, de, kd, Sta.start e1 (Or.inl (w 0 rfl)), Sta.start e2 (Or.inl (w 7 rfl)), Sta.start (own_eqi (Cond.before_iff.mp (w 12 rfl))) (Or.inl (w 11 rfl)), Sta.start (own_eqi (Cond.before_iff.mp (w 15 rfl))) (Or.inl (w 14 rfl)), Sta.start (own_eqi (Cond.before_iff.mp (w 18 rfl))) (Or.inl (w 17 rfl)), Sta.start e3 (Or.inl (w 35 rfl)), Sta.start e4 (Or.inl (w 38 rfl)), Sta.start e5 (Or.inl (w 20 rfl)), X3, Sta.start e6 (Or.inr ⟨own_u hw 249 rfl, w 27 rfl⟩), A, own_exn X3 (Exa.start e3 (Cond.before_iff.mp (w 36 rfl))) (by decide), own_notz (Cond.before_iff.mp (w 2 rfl)) e1, hf, w 2 rfl⟩
theorem comes_1 {Post : Tables → Env → Array Value → State → Outcome → State → Prop} (hpost : ∀ tb e args s v u, (limb_1_1.after args s (.returned v) u = true ∧ limb_1_2.after args s (.returned v) u = true) → ReturnedEndW s (.returned v) u (Jvm.fieldLocs frame_1_writes args s ++ Jvm.arrayLocs frame_1_arrays args s ++ Jvm.staticLocs frame_1_statics s) 48 67072 → Post tb e args s (.returned v) u) :
    ArmFor flags0 classFile x code maxLocals ret World_1 tables_1 room_1 Calls_1 rest_1 Pre_1 Post := by
  intro l hfl _ _ p e ha hc hk s m args below hf hA hF happ hP
  obtain ⟨hcalls, hrest, hpre⟩ := hP
  obtain ⟨-, -, -, hnamed, -, -, -, hat⟩ := (Spec.applies_iff hf).mp happ
  obtain ⟨hg, hn⟩ := and_e (Cond.before_iff.mp (show (Jvm.Cond.and given_1 narrow_1).before args s = true from hpre))
  obtain ⟨g1, g2⟩ := and_e hg
  obtain ⟨g3, g4⟩ := and_e g2
  obtain ⟨g5, g6⟩ := and_e g4
  obtain ⟨g7, g8⟩ := and_e g6
  obtain ⟨w0, w1, w2, w3, rfl⟩ : ∃ w0 w1 w2 w3 : Value, args = #[w0, w1, w2, w3] := by
    have hs : args.size = 4 := by simpa [Cond.value, given_1] using g1
    obtain ⟨L⟩ := args
    match L, hs with
    | [w0, w1, w2, w3], _ => exact ⟨w0, w1, w2, w3, rfl⟩
  have hw := fun d (hd : d ∈ tables_1) => atoms_spec (ws := Jvm.Cond.code x code maxLocals ret :: tables_1) hat d (List.mem_cons_of_mem _ hd)
  obtain ⟨i0, ei0⟩ := is_v g3
  obtain rfl : w0 = (.int i0) := Option.some.inj ei0
  obtain ⟨i1, ei1⟩ := is_v g5
  obtain rfl : w1 = (.int i1) := Option.some.inj ei1
  obtain ⟨i2, ei2⟩ := is_v g7
  obtain rfl : w2 = (.int i2) := Option.some.inj ei2
  obtain ⟨i3, ei3⟩ := is_v g8
  obtain rfl : w3 = (.int i3) := Option.some.inj ei3
  obtain ⟨cs, fm, u8, a3, de, kd, S0, S1, S2, S3, S4, S5, S6, S7, S8, S9, S10, hne, hcs, hfm, hcw⟩ := own_st0 hw (show rest_1_c.before _ s = true from hrest)
  obtain ⟨n, o, h1, h2, h3, _, L, rfl, ⟨N, rfl⟩, -, hq⟩ := own_rm0 l s _ hw tables_1 i0 i1 i2 i3 cs fm u8 a3 de kd s.heap s.heap.size (Nat.le_refl _) S0 S1 S2 S3 S4 S5 S6 S7 S8 S9 S10 hne hcs hfm p e ha hc hk s m _ below hf ((Spec.applies_iff_loose hf).mp happ).1 ⟨rfl, State.Warmed39.refl s, rfl, CHv.start (EW.cons (own_u hw 201 rfl) (fun c hc => by cases hc) EW.nil) hcalls.1 hcw (own_u hw 23 rfl) (own_u hw 5 rfl)⟩ trivial
  refine ⟨n, _, h1, h2, h3, hpost _ _ _ _ _ _ ⟨Cond.after_iff.mpr rfl, Cond.after_iff.mpr (eq_i res_at (Term.int_eval (1)) rfl)⟩ ⟨hq.1, hq.2.1, hq.2.2.1, (hq.2.2.2.sift fun y hy => Or.inr (N y hy)).mono (by decide) (by decide)⟩⟩
theorem main_1_1 : Claimed_1_1 := comes_1 fun _ _ _ _ _ _ h hF => ⟨h.1, hF⟩
theorem main_1_2 : Claimed_1_2 := comes_1 fun _ _ _ _ _ _ h hF => ⟨h.2, hF⟩
end Jvm.Pilot.@@N@@
namespace Jvm.Pilot.@@N@@
open Jvm Jvm.ClassFile Sem Op Lib Jvm.Free Jvm.Stand Jvm.Pilot.@@N@@.Jvm.D
/-! MADE BY PROGRAM (witnessworld.py) out of the Statement's table words and the real class files: 39 classes; the members and pool entries that the words name. The judged class is class 1, her method 2. -/
namespace start1
open Jvm.ClassFile
def u (s : String) : CpInfo := .utf8 (stringToUtf16 s)
/-- a pool by its gaps: so many unusable entries, then the entry; so many at the end -/
def gap : Nat → List CpInfo → List CpInfo
  | 0, r => r
  | n + 1, r => .unusable :: gap n r
def poolList (es : List (Nat × CpInfo)) (last : Nat) : List CpInfo := es.foldr (fun e r => gap e.1 (e.2 :: r)) (gap last [])
def pool (es : List (Nat × CpInfo)) (last : Nat) : Array CpInfo := ⟨poolList es last⟩
def fileOf (pool : Array CpInfo) (this : Nat) (attrs : Array Attribute := #[]) (ms : Array MethodInfo := #[]) (fl : Nat := 33) (sup : Nat := 0) (ifs : Array Nat := #[]) (fds : Array FieldInfo := #[]) : ClassFile where
  minorVersion := 0
  majorVersion := 65
  constantPool := pool
  accessFlags := fl
  thisClass := this
  superClass := sup
  interfaces := ifs
  fields := fds
  methods := ms
  attributes := attrs
def plain (name : String) (sup : Option ClassId) : Class where
  name := name
  kind := .ordinary
  loader := none
  accessFlags := 33
  super := sup
  interfaces := #[]
  cf := none
  fields := #[]
  methods := #[]
  instanceTypes := #[]
  staticTypes := #[]
  resolved := #[]
  callSites := []
  init := .initialized
  statics := none
  mirror := none

def pool0 : Array CpInfo := pool [(5, u "<init>"), (0, u "()V"), (1, .class_ 10), (1, u "java/lang/Object")] 113

def k0c0 : Code := { maxStack := 0, maxLocals := 1, code := object_method_1_code, exceptionTable := #[], attributes := #[] }
def k0m0 : Method := { name := "<init>", desc := "()V", sig := { parameters := [], returnType := none }, accessFlags := 1, code := some k0c0 }
/-- java/lang/Object -/
def k0 : Class := { plain "java/lang/Object" none with
  accessFlags := 33
  interfaces := #[]
  cf := some (fileOf pool0 8 #[] #[{ accessFlags := 1, nameIndex := 5, descriptorIndex := 6, attributes := #[] }] 33 0 #[] #[])
  fields := #[]
  methods := #[k0m0]
  instanceTypes := #[]
  staticTypes := #[]
  resolved := Array.replicate 124 none
  statics := none }

def pool1 : Array CpInfo := pool [(2, .class_ 4), (0, .nameAndType 5 6), (0, u "java/lang/Object"), (0, u "<init>"), (0, u "()V"), (0, .class_ 8), (0, u "java/lang/String"), (0, .methodref 7 10), (0, .nameAndType 5 11), (0, u "([C)V"), (0, .methodref 13 14), (0, .class_ 15), (0, .nameAndType 16 17), (0, u "com/example/fields_in_tables/fieldsintables/TextBuilderIsEmptyPinLaw"), (0, u "drawn"), (0, u "(III)Ljava/lang/String;"), (0, .class_ 19), (0, u "com/example/fields_in_tables/fieldsintables/TextBuilder"), (0, .methodref 18 3), (0, .methodref 18 22), (0, .nameAndType 23 24), (0, u "isEmpty"), (0, u "()Z"), (0, .methodref 18 26), (0, .nameAndType 27 28), (0, u "append"), (0, u "(Ljava/lang/String;)V"), (0, .methodref 18 30), (0, .nameAndType 27 31), (0, u "(C)V"), (3, u "law"), (0, u "(IIII)Z")] 2

def k1m0 : Method := { name := "<init>", desc := "()V", sig := { parameters := [], returnType := none }, accessFlags := 1, code := none }
def k1c1 : Code := { maxStack := 6, maxLocals := 6, code := method_2_code, exceptionTable := #[], attributes := #[] }
def k1m1 : Method := { name := "drawn", desc := "(III)Ljava/lang/String;", sig := { parameters := [.int, .int, .int], returnType := some (.object "java/lang/String") }, accessFlags := 10, code := some k1c1 }
def k1c2 : Code := { maxStack := 3, maxLocals := 12, code := code, exceptionTable := #[], attributes := #[] }
def k1m2 : Method := { name := "law", desc := "(IIII)Z", sig := { parameters := [.int, .int, .int, .int], returnType := some .boolean }, accessFlags := 9, code := some k1c2 }
/-- com/example/fields_in_tables/fieldsintables/TextBuilderIsEmptyPinLaw -/
def k1 : Class := { plain "com/example/fields_in_tables/fieldsintables/TextBuilderIsEmptyPinLaw" (some 0) with
  accessFlags := 49
  interfaces := #[]
  cf := some (fileOf pool1 13 #[] #[{ accessFlags := 1, nameIndex := 5, descriptorIndex := 6, attributes := #[] }, { accessFlags := 10, nameIndex := 16, descriptorIndex := 17, attributes := #[] }, { accessFlags := 9, nameIndex := 35, descriptorIndex := 36, attributes := #[] }] 49 2 #[] #[])
  fields := #[]
  methods := #[k1m0, k1m1, k1m2]
  instanceTypes := #[]
  staticTypes := #[]
  resolved := Array.replicate 39 none
  statics := none }

def pool2 : Array CpInfo := pool [(1, .class_ 2), (0, u "java/io/Serializable"), (0, .class_ 4), (0, u "java/lang/Object")] 2

/-- java/io/Serializable -/
def k2 : Class := { plain "java/io/Serializable" (some 0) with
  accessFlags := 1537
  interfaces := #[]
  cf := some (fileOf pool2 1 #[] #[] 1537 3 #[] #[])
  fields := #[]
  methods := #[]
  instanceTypes := #[]
  staticTypes := #[]
  resolved := Array.replicate 7 none
  statics := none }

def pool3 : Array CpInfo := pool [(1, .class_ 2), (0, u "java/lang/Comparable"), (0, .class_ 4), (0, u "java/lang/Object")] 7

/-- java/lang/Comparable -/
def k3 : Class := { plain "java/lang/Comparable" (some 0) with
  accessFlags := 1537
  interfaces := #[]
  cf := some (fileOf pool3 1 #[] #[] 1537 3 #[] #[])
  fields := #[]
  methods := #[]
  instanceTypes := #[]
  staticTypes := #[]
  resolved := Array.replicate 12 none
  statics := none }

def pool4 : Array CpInfo := pool [(2, .class_ 4), (1, u "java/lang/CharSequence"), (42, .class_ 48), (0, u "java/lang/CharSequence$1CodePointIterator"), (10, .class_ 60), (0, u "java/lang/CharSequence$1CharIterator"), (5, .class_ 67), (0, u "java/lang/Object")] 63

/-- java/lang/CharSequence -/
def k4 : Class := { plain "java/lang/CharSequence" (some 0) with
  accessFlags := 1537
  interfaces := #[]
  cf := some (fileOf pool4 2 #[.nestMembers #[47, 59]] #[] 1537 66 #[] #[])
  fields := #[]
  methods := #[]
  instanceTypes := #[]
  staticTypes := #[]
  resolved := Array.replicate 131 none
  statics := none }

def pool5 : Array CpInfo := pool [(1, .class_ 2), (0, u "java/lang/constant/Constable"), (0, .class_ 4), (0, u "java/lang/Object")] 6

/-- java/lang/constant/Constable -/
def k5 : Class := { plain "java/lang/constant/Constable" (some 0) with
  accessFlags := 1537
  interfaces := #[]
  cf := some (fileOf pool5 1 #[] #[] 1537 3 #[] #[])
  fields := #[]
  methods := #[]
  instanceTypes := #[]
  staticTypes := #[]
  resolved := Array.replicate 11 none
  statics := none }

def pool6 : Array CpInfo := pool [(1, .class_ 2), (0, u "java/lang/constant/ConstantDesc"), (0, .class_ 4), (0, u "java/lang/Object")] 32

/-- java/lang/constant/ConstantDesc -/
def k6 : Class := { plain "java/lang/constant/ConstantDesc" (some 0) with
  accessFlags := 1537
  interfaces := #[]
  cf := some (fileOf pool6 1 #[] #[] 1537 3 #[] #[])
  fields := #[]
  methods := #[]
  instanceTypes := #[]
  staticTypes := #[]
  resolved := Array.replicate 37 none
  statics := none }

def pool7 : Array CpInfo := pool [(1, .methodref 2 3), (0, .class_ 4), (0, .nameAndType 5 6), (0, u "java/lang/Object"), (0, u "<init>"), (0, u "()V"), (0, .string 8), (0, u ""), (0, .fieldref 10 11), (0, .class_ 12), (0, .nameAndType 13 14), (0, u "java/lang/String"), (0, u "value"), (0, u "[B"), (0, .fieldref 10 16), (0, .nameAndType 17 18), (0, u "coder"), (0, u "B"), (2, u "hash"), (0, u "I"), (2, u "hashIsZero"), (0, u "Z"), (0, .methodref 10 28), (0, .nameAndType 5 29), (0, u "([CIILjava/lang/Void;)V"), (0, .methodref 10 31), (0, .nameAndType 32 33), (0, u "rangeCheck"), (0, u "([CII)Ljava/lang/Void;"), (0, .methodref 10 35), (0, .nameAndType 36 37), (0, u "checkBoundsOffCount"), (0, u "(III)I"), (0, .fieldref 10 39), (0, .nameAndType 40 26), (0, u "COMPACT_STRINGS"), (1, .class_ 44), (1, u "java/lang/StringUTF16"), (0, u "compress"), (1, .methodref 42 48), (0, .nameAndType 49 50), (0, u "coderFromArrayLen"), (0, u "([BI)B"), (3, .methodref 55 56), (0, .class_ 57), (0, .nameAndType 58 59), (0, u "java/util/Arrays"), (0, u "copyOfRange"), (0, u "([BII)[B"), (15, .methodref 10 76), (0, .nameAndType 5 77), (0, u "(Ljava/nio/charset/Charset;[BII)V"), (0, .methodref 79 80), (0, .class_ 81), (0, .nameAndType 82 83), (0, u "java/util/Objects"), (0, u "requireNonNull"), (0, u "(Ljava/lang/Object;)Ljava/lang/Object;"), (0, .class_ 85), (0, u "java/nio/charset/Charset"), (0, .fieldref 87 88), (0, .class_ 89), (0, .nameAndType 90 91), (0, u "sun/nio/cs/UTF_8"), (0, u "INSTANCE"), (0, u "Lsun/nio/cs/UTF_8;"), (15, .class_ 109), (1, u "java/lang/StringLatin1"), (6, .fieldref 117 118), (0, .class_ 119), (0, .nameAndType 90 120), (0, u "sun/nio/cs/ISO_8859_1"), (0, u "Lsun/nio/cs/ISO_8859_1;"), (21, u "()Z"), (34, .methodref 42 178), (0, .nameAndType 45 179), (0, u "([CII)[B"), (58, u "([BIILjava/nio/charset/Charset;)V"), (95, u "()I"), (0, .methodref 10 336), (0, .nameAndType 17 337), (0, u "()B"), (25, u "([BI)C"), (27, u "(II)V"), (35, u "(I)C"), (64, .methodref 10 493), (0, .nameAndType 494 142), (0, u "isLatin1"), (0, .methodref 107 496), (0, .nameAndType 497 363), (0, u "charAt"), (0, .methodref 42 496), (2, u "checkIndex"), (3, .methodref 10 506), (0, .nameAndType 507 334), (0, u "length"), (5, u "checkFromToIndex"), (7, .methodref 10 522), (0, .nameAndType 523 524), (0, u "checkBoundsBeginEnd"), (0, u "(III)V"), (0, .methodref 107 526), (0, .nameAndType 527 528), (0, u "getChars"), (0, u "([BII[CI)V"), (0, .methodref 42 526), (0, .methodref 107 531), (0, .nameAndType 532 533), (0, u "getBytes"), (0, u "([BII[BI)V"), (41, .class_ 576), (0, u "java/lang/CharSequence"), (22, u "CASE_INSENSITIVE_ORDER"), (0, u "Ljava/util/Comparator;"), (82, u "substring"), (0, u "(II)Ljava/lang/String;"), (287, u "([CII)V"), (37, u "([C)V"), (42, .fieldref 1054 1055), (0, .class_ 1056), (0, .nameAndType 1057 1058), (0, u "jdk/internal/util/Preconditions"), (0, u "SIOOBE_FORMATTER"), (0, u "Ljava/util/function/BiFunction;"), (0, .methodref 1054 1060), (0, .nameAndType 501 1061), (0, u "(IILjava/util/function/BiFunction;)I"), (0, .methodref 1054 1063), (0, .nameAndType 513 1064), (0, u "(IIILjava/util/function/BiFunction;)I"), (0, .methodref 1054 1066), (0, .nameAndType 1067 1064), (0, u "checkFromIndexSize"), (33, u "serialPersistentFields"), (0, u "[Ljava/io/ObjectStreamField;"), (0, .class_ 1104), (0, u "java/lang/String$CaseInsensitiveComparator"), (1, .class_ 1107), (0, u "java/io/Serializable"), (0, .class_ 1109), (0, u "java/lang/Comparable"), (0, .class_ 1111), (0, u "java/lang/constant/Constable"), (0, .class_ 1113), (0, u "java/lang/constant/ConstantDesc"), (2, u "serialVersionUID"), (0, u "J"), (3, u "REPL"), (0, u "C"), (2, u "LATIN1"), (1, u "UTF16"), (112, u "(II[CI)V"), (3, u "(II[BI)V")] 206

def k7m0 : Method := { name := "<init>", desc := "()V", sig := { parameters := [], returnType := none }, accessFlags := 1, code := none }
def k7c1 : Code := { maxStack := 5, maxLocals := 2, code := jdk_42_method_3_code, exceptionTable := #[], attributes := #[] }
def k7m1 : Method := { name := "<init>", desc := "([C)V", sig := { parameters := [(.array .char)], returnType := none }, accessFlags := 1, code := some k7c1 }
def k7c2 : Code := { maxStack := 7, maxLocals := 4, code := jdk_42_method_4_code, exceptionTable := #[], attributes := #[] }
def k7m2 : Method := { name := "<init>", desc := "([CII)V", sig := { parameters := [(.array .char), .int, .int], returnType := none }, accessFlags := 1, code := some k7c2 }
def k7c3 : Code := { maxStack := 3, maxLocals := 3, code := jdk_42_method_5_code, exceptionTable := #[], attributes := #[] }
def k7m3 : Method := { name := "rangeCheck", desc := "([CII)Ljava/lang/Void;", sig := { parameters := [(.array .char), .int, .int], returnType := some (.object "java/lang/Void") }, accessFlags := 10, code := some k7c3 }
def k7c4 : Code := { maxStack := 6, maxLocals := 5, code := jdk_42_method_10_code, exceptionTable := #[], attributes := #[] }
def k7m4 : Method := { name := "<init>", desc := "([BIILjava/nio/charset/Charset;)V", sig := { parameters := [(.array .byte), .int, .int, (.object "java/nio/charset/Charset")], returnType := none }, accessFlags := 1, code := some k7c4 }
def k7c5 : Code := { maxStack := 6, maxLocals := 11, code := jdk_42_method_11_code, exceptionTable := #[{ startPc := 800, endPc := 813, handlerPc := 816, catchType := 202 }], attributes := #[] }
def k7m5 : Method := { name := "<init>", desc := "(Ljava/nio/charset/Charset;[BII)V", sig := { parameters := [(.object "java/nio/charset/Charset"), (.array .byte), .int, .int], returnType := none }, accessFlags := 2, code := some k7c5 }
def k7c6 : Code := { maxStack := 2, maxLocals := 1, code := jdk_42_method_54_code, exceptionTable := #[], attributes := #[] }
def k7m6 : Method := { name := "length", desc := "()I", sig := { parameters := [], returnType := some .int }, accessFlags := 1, code := some k7c6 }
def k7c7 : Code := { maxStack := 2, maxLocals := 2, code := jdk_42_method_56_code, exceptionTable := #[], attributes := #[] }
def k7m7 : Method := { name := "charAt", desc := "(I)C", sig := { parameters := [.int], returnType := some .char }, accessFlags := 1, code := some k7c7 }
def k7c8 : Code := { maxStack := 5, maxLocals := 5, code := jdk_42_method_61_code, exceptionTable := #[], attributes := #[] }
def k7m8 : Method := { name := "getChars", desc := "(II[CI)V", sig := { parameters := [.int, .int, (.array .char), .int], returnType := none }, accessFlags := 1, code := some k7c8 }
def k7c9 : Code := { maxStack := 5, maxLocals := 5, code := jdk_42_method_62_code, exceptionTable := #[], attributes := #[] }
def k7m9 : Method := { name := "getBytes", desc := "(II[BI)V", sig := { parameters := [.int, .int, (.array .byte), .int], returnType := none }, accessFlags := 1, code := some k7c9 }
def k7c10 : Code := { maxStack := 3, maxLocals := 5, code := jdk_42_method_92_code, exceptionTable := #[], attributes := #[] }
def k7m10 : Method := { name := "substring", desc := "(II)Ljava/lang/String;", sig := { parameters := [.int, .int], returnType := some (.object "java/lang/String") }, accessFlags := 1, code := some k7c10 }
def k7c11 : Code := { maxStack := 4, maxLocals := 6, code := jdk_42_method_149_code, exceptionTable := #[], attributes := #[] }
def k7m11 : Method := { name := "<init>", desc := "([CIILjava/lang/Void;)V", sig := { parameters := [(.array .char), .int, .int, (.object "java/lang/Void")], returnType := none }, accessFlags := 2, code := some k7c11 }
def k7c12 : Code := { maxStack := 1, maxLocals := 1, code := jdk_42_method_152_code, exceptionTable := #[], attributes := #[] }
def k7m12 : Method := { name := "coder", desc := "()B", sig := { parameters := [], returnType := some .byte }, accessFlags := 0, code := some k7c12 }
def k7c13 : Code := { maxStack := 1, maxLocals := 1, code := jdk_42_method_154_code, exceptionTable := #[], attributes := #[] }
def k7m13 : Method := { name := "isLatin1", desc := "()Z", sig := { parameters := [], returnType := some .boolean }, accessFlags := 0, code := some k7c13 }
def k7c14 : Code := { maxStack := 3, maxLocals := 2, code := jdk_42_method_155_code, exceptionTable := #[], attributes := #[] }
def k7m14 : Method := { name := "checkIndex", desc := "(II)V", sig := { parameters := [.int, .int], returnType := none }, accessFlags := 8, code := some k7c14 }
def k7c15 : Code := { maxStack := 4, maxLocals := 3, code := jdk_42_method_157_code, exceptionTable := #[], attributes := #[] }
def k7m15 : Method := { name := "checkBoundsOffCount", desc := "(III)I", sig := { parameters := [.int, .int, .int], returnType := some .int }, accessFlags := 8, code := some k7c15 }
def k7c16 : Code := { maxStack := 4, maxLocals := 3, code := jdk_42_method_158_code, exceptionTable := #[], attributes := #[] }
def k7m16 : Method := { name := "checkBoundsBeginEnd", desc := "(III)V", sig := { parameters := [.int, .int, .int], returnType := none }, accessFlags := 8, code := some k7c16 }
/-- java/lang/String -/
def k7 : Class := { plain "java/lang/String" (some 0) with
  accessFlags := 49
  interfaces := #[2, 3, 4, 5, 6]
  cf := some (fileOf pool7 10 #[.nestMembers #[1103]] #[{ accessFlags := 1, nameIndex := 5, descriptorIndex := 6, attributes := #[] }, { accessFlags := 1, nameIndex := 5, descriptorIndex := 1010, attributes := #[] }, { accessFlags := 1, nameIndex := 5, descriptorIndex := 972, attributes := #[] }, { accessFlags := 10, nameIndex := 32, descriptorIndex := 33, attributes := #[] }, { accessFlags := 1, nameIndex := 5, descriptorIndex := 238, attributes := #[] }, { accessFlags := 2, nameIndex := 5, descriptorIndex := 77, attributes := #[] }, { accessFlags := 1, nameIndex := 507, descriptorIndex := 334, attributes := #[] }, { accessFlags := 1, nameIndex := 497, descriptorIndex := 427, attributes := #[] }, { accessFlags := 1, nameIndex := 527, descriptorIndex := 1240, attributes := #[] }, { accessFlags := 1, nameIndex := 532, descriptorIndex := 1244, attributes := #[] }, { accessFlags := 1, nameIndex := 683, descriptorIndex := 684, attributes := #[] }, { accessFlags := 2, nameIndex := 5, descriptorIndex := 29, attributes := #[] }, { accessFlags := 0, nameIndex := 17, descriptorIndex := 337, attributes := #[] }, { accessFlags := 0, nameIndex := 494, descriptorIndex := 142, attributes := #[] }, { accessFlags := 8, nameIndex := 501, descriptorIndex := 391, attributes := #[] }, { accessFlags := 8, nameIndex := 36, descriptorIndex := 37, attributes := #[] }, { accessFlags := 8, nameIndex := 523, descriptorIndex := 524, attributes := #[] }] 49 2 #[1106, 1108, 575, 1110, 1112] #[{ accessFlags := 18, nameIndex := 13, descriptorIndex := 14, attributes := #[] }, { accessFlags := 18, nameIndex := 17, descriptorIndex := 18, attributes := #[] }, { accessFlags := 2, nameIndex := 21, descriptorIndex := 22, attributes := #[] }, { accessFlags := 2, nameIndex := 25, descriptorIndex := 26, attributes := #[] }, { accessFlags := 26, nameIndex := 1116, descriptorIndex := 1117, attributes := #[] }, { accessFlags := 24, nameIndex := 40, descriptorIndex := 26, attributes := #[] }, { accessFlags := 26, nameIndex := 1101, descriptorIndex := 1102, attributes := #[] }, { accessFlags := 26, nameIndex := 1121, descriptorIndex := 1122, attributes := #[] }, { accessFlags := 25, nameIndex := 599, descriptorIndex := 600, attributes := #[] }, { accessFlags := 24, nameIndex := 1125, descriptorIndex := 18, attributes := #[] }, { accessFlags := 24, nameIndex := 1127, descriptorIndex := 18, attributes := #[] }])
  fields := #[{ name := "value", type := (.array .byte), accessFlags := 18, slot := 0, constantValue := 0 }, { name := "coder", type := .byte, accessFlags := 18, slot := 1, constantValue := 0 }, { name := "hash", type := .int, accessFlags := 2, slot := 2, constantValue := 0 }, { name := "hashIsZero", type := .boolean, accessFlags := 2, slot := 3, constantValue := 0 }, { name := "serialVersionUID", type := .long, accessFlags := 26, slot := 0, constantValue := 0 }, { name := "COMPACT_STRINGS", type := .boolean, accessFlags := 24, slot := 1, constantValue := 0 }, { name := "serialPersistentFields", type := (.array (.object "java/io/ObjectStreamField")), accessFlags := 26, slot := 2, constantValue := 0 }, { name := "REPL", type := .char, accessFlags := 26, slot := 3, constantValue := 0 }, { name := "CASE_INSENSITIVE_ORDER", type := (.object "java/util/Comparator"), accessFlags := 25, slot := 4, constantValue := 0 }, { name := "LATIN1", type := .byte, accessFlags := 24, slot := 5, constantValue := 0 }, { name := "UTF16", type := .byte, accessFlags := 24, slot := 6, constantValue := 0 }]
  methods := #[k7m0, k7m1, k7m2, k7m3, k7m4, k7m5, k7m6, k7m7, k7m8, k7m9, k7m10, k7m11, k7m12, k7m13, k7m14, k7m15, k7m16]
  instanceTypes := #[(.array .byte), .byte, .int, .boolean]
  staticTypes := #[.long, .boolean, (.array (.object "java/io/ObjectStreamField")), .char, (.object "java/util/Comparator"), .byte, .byte]
  resolved := Array.replicate 1451 none
  statics := some 0 }

def pool8 : Array CpInfo := pool [(3, .class_ 4), (0, u "java/lang/String"), (1, .class_ 8), (1, u "java/lang/Object"), (0, u "<init>"), (0, u "()V"), (0, .methodref 12 13), (0, .class_ 14), (0, .nameAndType 15 16), (0, u "java/lang/StringUTF16"), (0, u "newBytesLength"), (0, u "(I)I"), (3, .integer 1073741823), (23, .fieldref 12 45), (0, .nameAndType 46 47), (0, u "$assertionsDisabled"), (0, u "Z"), (0, .methodref 12 49), (0, .nameAndType 50 51), (0, u "length"), (0, u "([B)I"), (7, .fieldref 12 60), (0, .nameAndType 61 62), (0, u "HI_BYTE_SHIFT"), (0, u "I"), (0, .fieldref 12 64), (0, .nameAndType 65 62), (0, u "LO_BYTE_SHIFT"), (1, .methodref 12 68), (0, .nameAndType 69 70), (0, u "checkIndex"), (0, u "(I[B)V"), (0, .methodref 12 72), (0, .nameAndType 73 74), (0, u "getChar"), (0, u "([BI)C"), (24, u "(II[B)V"), (5, u "getChars"), (0, u "([BII[CI)V"), (0, .methodref 12 108), (0, .nameAndType 109 110), (0, u "newBytesFor"), (0, u "(I)[B"), (0, .methodref 12 112), (0, .nameAndType 113 114), (0, u "putChar"), (0, u "([BII)V"), (0, .methodref 12 116), (0, .nameAndType 117 118), (0, u "compress"), (0, u "([CI[BII)I"), (0, .methodref 12 120), (0, .nameAndType 121 122), (0, u "toBytes"), (0, u "([CII)[B"), (50, .methodref 12 174), (0, .nameAndType 175 99), (0, u "checkBoundsOffCount"), (85, u "coderFromArrayLen"), (0, u "([BI)B"), (18, u "(III)I"), (87, .class_ 371), (1, u "java/lang/StringUTF16$LinesSpliterator"), (20, u "charAt"), (21, .methodref 3 415), (0, .nameAndType 69 416), (0, u "(II)V"), (2, .methodref 3 420), (0, .nameAndType 175 281), (9, u "MAX_LENGTH"), (196, .class_ 628), (0, u "java/lang/StringUTF16$CodePointsSpliterator"), (0, .class_ 630), (0, u "java/lang/StringUTF16$CharsSpliterator")] 4

def k8m0 : Method := { name := "<init>", desc := "()V", sig := { parameters := [], returnType := none }, accessFlags := 0, code := none }
def k8c1 : Code := { maxStack := 1, maxLocals := 1, code := jdk_52_method_2_code, exceptionTable := #[], attributes := #[] }
def k8m1 : Method := { name := "newBytesFor", desc := "(I)[B", sig := { parameters := [.int], returnType := some (.array .byte) }, accessFlags := 9, code := some k8c1 }
def k8c2 : Code := { maxStack := 4, maxLocals := 1, code := jdk_52_method_3_code, exceptionTable := #[], attributes := #[] }
def k8m2 : Method := { name := "newBytesLength", desc := "(I)I", sig := { parameters := [.int], returnType := some .int }, accessFlags := 9, code := some k8c2 }
def k8c3 : Code := { maxStack := 4, maxLocals := 3, code := jdk_52_method_4_code, exceptionTable := #[], attributes := #[] }
def k8m3 : Method := { name := "putChar", desc := "([BII)V", sig := { parameters := [(.array .byte), .int, .int], returnType := none }, accessFlags := 8, code := some k8c3 }
def k8c4 : Code := { maxStack := 3, maxLocals := 2, code := jdk_52_method_5_code, exceptionTable := #[], attributes := #[] }
def k8m4 : Method := { name := "getChar", desc := "([BI)C", sig := { parameters := [(.array .byte), .int], returnType := some .char }, accessFlags := 8, code := some k8c4 }
def k8c5 : Code := { maxStack := 2, maxLocals := 1, code := jdk_52_method_6_code, exceptionTable := #[], attributes := #[] }
def k8m5 : Method := { name := "length", desc := "([B)I", sig := { parameters := [(.array .byte)], returnType := some .int }, accessFlags := 9, code := some k8c5 }
def k8c6 : Code := { maxStack := 4, maxLocals := 5, code := jdk_52_method_14_code, exceptionTable := #[], attributes := #[] }
def k8m6 : Method := { name := "toBytes", desc := "([CII)[B", sig := { parameters := [(.array .char), .int, .int], returnType := some (.array .byte) }, accessFlags := 9, code := some k8c6 }
def k8c7 : Code := { maxStack := 2, maxLocals := 2, code := jdk_52_method_15_code, exceptionTable := #[], attributes := #[] }
def k8m7 : Method := { name := "coderFromArrayLen", desc := "([BI)B", sig := { parameters := [(.array .byte), .int], returnType := some .byte }, accessFlags := 8, code := some k8c7 }
def k8c8 : Code := { maxStack := 5, maxLocals := 6, code := jdk_52_method_16_code, exceptionTable := #[], attributes := #[] }
def k8m8 : Method := { name := "compress", desc := "([CII)[B", sig := { parameters := [(.array .char), .int, .int], returnType := some (.array .byte) }, accessFlags := 9, code := some k8c8 }
def k8c9 : Code := { maxStack := 3, maxLocals := 7, code := jdk_52_method_21_code, exceptionTable := #[], attributes := #[] }
def k8m9 : Method := { name := "compress", desc := "([CI[BII)I", sig := { parameters := [(.array .char), .int, (.array .byte), .int, .int], returnType := some .int }, accessFlags := 9, code := some k8c9 }
def k8c10 : Code := { maxStack := 4, maxLocals := 6, code := jdk_52_method_26_code, exceptionTable := #[], attributes := #[] }
def k8m10 : Method := { name := "getChars", desc := "([BII[CI)V", sig := { parameters := [(.array .byte), .int, .int, (.array .char), .int], returnType := none }, accessFlags := 9, code := some k8c10 }
def k8c11 : Code := { maxStack := 2, maxLocals := 2, code := jdk_52_method_83_code, exceptionTable := #[], attributes := #[] }
def k8m11 : Method := { name := "charAt", desc := "([BI)C", sig := { parameters := [(.array .byte), .int], returnType := some .char }, accessFlags := 9, code := some k8c11 }
def k8c12 : Code := { maxStack := 2, maxLocals := 2, code := jdk_52_method_91_code, exceptionTable := #[], attributes := #[] }
def k8m12 : Method := { name := "checkIndex", desc := "(I[B)V", sig := { parameters := [.int, (.array .byte)], returnType := none }, accessFlags := 9, code := some k8c12 }
def k8c13 : Code := { maxStack := 3, maxLocals := 3, code := jdk_52_method_94_code, exceptionTable := #[], attributes := #[] }
def k8m13 : Method := { name := "checkBoundsOffCount", desc := "(II[B)V", sig := { parameters := [.int, .int, (.array .byte)], returnType := none }, accessFlags := 9, code := some k8c13 }
/-- java/lang/StringUTF16 -/
def k8 : Class := { plain "java/lang/StringUTF16" (some 0) with
  accessFlags := 48
  interfaces := #[]
  cf := some (fileOf pool8 12 #[.nestMembers #[627, 629, 369]] #[{ accessFlags := 0, nameIndex := 9, descriptorIndex := 10, attributes := #[] }, { accessFlags := 9, nameIndex := 109, descriptorIndex := 110, attributes := #[] }, { accessFlags := 9, nameIndex := 15, descriptorIndex := 16, attributes := #[] }, { accessFlags := 8, nameIndex := 113, descriptorIndex := 114, attributes := #[] }, { accessFlags := 8, nameIndex := 73, descriptorIndex := 74, attributes := #[] }, { accessFlags := 9, nameIndex := 50, descriptorIndex := 51, attributes := #[] }, { accessFlags := 9, nameIndex := 121, descriptorIndex := 122, attributes := #[] }, { accessFlags := 8, nameIndex := 261, descriptorIndex := 262, attributes := #[] }, { accessFlags := 9, nameIndex := 117, descriptorIndex := 122, attributes := #[] }, { accessFlags := 9, nameIndex := 117, descriptorIndex := 118, attributes := #[] }, { accessFlags := 9, nameIndex := 105, descriptorIndex := 106, attributes := #[] }, { accessFlags := 9, nameIndex := 392, descriptorIndex := 74, attributes := #[] }, { accessFlags := 9, nameIndex := 69, descriptorIndex := 70, attributes := #[] }, { accessFlags := 9, nameIndex := 175, descriptorIndex := 99, attributes := #[] }] 48 6 #[] #[{ accessFlags := 26, nameIndex := 61, descriptorIndex := 62, attributes := #[] }, { accessFlags := 26, nameIndex := 65, descriptorIndex := 62, attributes := #[] }, { accessFlags := 24, nameIndex := 430, descriptorIndex := 62, attributes := #[] }, { accessFlags := 4120, nameIndex := 46, descriptorIndex := 47, attributes := #[] }])
  fields := #[{ name := "HI_BYTE_SHIFT", type := .int, accessFlags := 26, slot := 0, constantValue := 0 }, { name := "LO_BYTE_SHIFT", type := .int, accessFlags := 26, slot := 1, constantValue := 0 }, { name := "MAX_LENGTH", type := .int, accessFlags := 24, slot := 2, constantValue := 0 }, { name := "$assertionsDisabled", type := .boolean, accessFlags := 4120, slot := 3, constantValue := 0 }]
  methods := #[k8m0, k8m1, k8m2, k8m3, k8m4, k8m5, k8m6, k8m7, k8m8, k8m9, k8m10, k8m11, k8m12, k8m13]
  instanceTypes := #[]
  staticTypes := #[.int, .int, .int, .boolean]
  resolved := Array.replicate 635 none
  statics := some 1 }

def pool9 : Array CpInfo := pool [(3, .methodref 4 5), (0, .class_ 6), (0, .nameAndType 7 8), (0, u "java/lang/Object"), (0, u "<init>"), (0, u "()V"), (0, .fieldref 10 11), (0, .class_ 12), (0, .nameAndType 13 14), (0, u "com/example/fields_in_tables/fieldsintables/TextBuilder"), (0, u "latin1"), (0, u "[B"), (0, .fieldref 10 16), (0, .nameAndType 17 18), (0, u "chars"), (0, u "[C"), (0, .fieldref 10 20), (0, .nameAndType 21 22), (0, u "length"), (0, u "I"), (0, .methodref 10 24), (0, .nameAndType 25 26), (0, u "appendMakingRoom"), (0, u "(C)V"), (0, .methodref 28 29), (0, .class_ 30), (0, .nameAndType 21 31), (0, u "java/lang/String"), (0, u "()I"), (0, .methodref 10 33), (0, .nameAndType 34 35), (0, u "append"), (0, u "(Ljava/lang/String;II)V"), (0, .methodref 28 37), (0, .nameAndType 38 39), (0, u "charAt"), (0, u "(I)C"), (0, .methodref 10 41), (0, .nameAndType 42 43), (0, u "appendKnown"), (0, u "(Ljava/lang/String;IIZ)V"), (0, .methodref 10 45), (0, .nameAndType 46 35), (0, u "copyLowBytes"), (0, .methodref 28 48), (0, .nameAndType 49 50), (0, u "getChars"), (0, u "(II[CI)V"), (0, .methodref 10 52), (0, .nameAndType 53 43), (0, u "appendKnownMakingRoom"), (0, .methodref 10 55), (0, .nameAndType 56 8), (0, u "setChunkAside"), (0, .methodref 28 58), (0, .nameAndType 59 60), (0, u "substring"), (0, u "(II)Ljava/lang/String;"), (0, .methodref 10 62), (0, .nameAndType 63 64), (0, u "setAside"), (0, u "(Ljava/lang/String;)V"), (3, u "(I)V"), (0, .methodref 10 70), (0, .nameAndType 71 68), (0, u "widen"), (12, u "asciiScratch"), (0, .fieldref 10 86), (0, .nameAndType 87 88), (0, u "setAsideLength"), (0, u "J"), (0, .fieldref 10 90), (0, .nameAndType 63 91), (0, u "Ljava/util/List;"), (0, .methodref 10 93), (0, .nameAndType 94 95), (0, u "chunkText"), (0, u "()Ljava/lang/String;"), (0, .methodref 10 97), (0, .nameAndType 98 68), (0, u "checkLength"), (1, .class_ 102), (1, u "java/util/List"), (13, .methodref 28 117), (0, .nameAndType 118 119), (0, u "getBytes"), (0, u "(II[BI)V"), (0, .methodref 10 121), (0, .nameAndType 122 68), (0, u "keepWithinChunk"), (0, .methodref 124 125), (0, .class_ 126), (0, .nameAndType 127 128), (0, u "java/lang/Math"), (0, u "max"), (0, u "(II)I"), (6, .methodref 10 136), (0, .nameAndType 137 68), (0, u "inflate"), (3, .fieldref 10 142), (0, .nameAndType 143 18), (0, u "spareChars"), (0, .fieldref 145 146), (0, .class_ 147), (0, .nameAndType 148 149), (0, u "java/nio/charset/StandardCharsets"), (0, u "ISO_8859_1"), (0, u "Ljava/nio/charset/Charset;"), (0, .methodref 28 151), (0, .nameAndType 7 152), (0, u "([BIILjava/nio/charset/Charset;)V"), (0, .class_ 154), (0, u "java/util/ArrayList"), (0, .methodref 153 5), (0, .interfaceMethodref 100 157), (0, .nameAndType 158 159), (0, u "add"), (0, u "(Ljava/lang/Object;)Z"), (0, .long 2147483639), (9, .methodref 28 171), (0, .nameAndType 7 172), (0, u "([CII)V"), (0, u "CHUNK"), (2, u "MOST_CHARS"), (12, u "isEmpty"), (0, u "()Z")] 19

def k9c0 : Code := { maxStack := 2, maxLocals := 1, code := prog_37_method_1_code, exceptionTable := #[], attributes := #[] }
def k9m0 : Method := { name := "<init>", desc := "()V", sig := { parameters := [], returnType := none }, accessFlags := 0, code := some k9c0 }
def k9c1 : Code := { maxStack := 5, maxLocals := 2, code := prog_37_method_2_code, exceptionTable := #[], attributes := #[] }
def k9m1 : Method := { name := "append", desc := "(C)V", sig := { parameters := [.char], returnType := none }, accessFlags := 0, code := some k9c1 }
def k9c2 : Code := { maxStack := 4, maxLocals := 2, code := prog_37_method_3_code, exceptionTable := #[], attributes := #[] }
def k9m2 : Method := { name := "append", desc := "(Ljava/lang/String;)V", sig := { parameters := [(.object "java/lang/String")], returnType := none }, accessFlags := 0, code := some k9c2 }
def k9c3 : Code := { maxStack := 5, maxLocals := 6, code := prog_37_method_4_code, exceptionTable := #[], attributes := #[] }
def k9m3 : Method := { name := "append", desc := "(Ljava/lang/String;II)V", sig := { parameters := [(.object "java/lang/String"), .int, .int], returnType := none }, accessFlags := 0, code := some k9c3 }
def k9c4 : Code := { maxStack := 5, maxLocals := 6, code := prog_37_method_6_code, exceptionTable := #[], attributes := #[] }
def k9m4 : Method := { name := "appendKnown", desc := "(Ljava/lang/String;IIZ)V", sig := { parameters := [(.object "java/lang/String"), .int, .int, .boolean], returnType := none }, accessFlags := 0, code := some k9c4 }
def k9c5 : Code := { maxStack := 5, maxLocals := 6, code := prog_37_method_7_code, exceptionTable := #[], attributes := #[] }
def k9m5 : Method := { name := "appendKnownMakingRoom", desc := "(Ljava/lang/String;IIZ)V", sig := { parameters := [(.object "java/lang/String"), .int, .int, .boolean], returnType := none }, accessFlags := 2, code := some k9c5 }
def k9c6 : Code := { maxStack := 4, maxLocals := 1, code := prog_37_method_13_code, exceptionTable := #[], attributes := #[] }
def k9m6 : Method := { name := "isEmpty", desc := "()Z", sig := { parameters := [], returnType := some .boolean }, accessFlags := 0, code := some k9c6 }
def k9c7 : Code := { maxStack := 5, maxLocals := 4, code := prog_37_method_15_code, exceptionTable := #[], attributes := #[] }
def k9m7 : Method := { name := "copyLowBytes", desc := "(Ljava/lang/String;II)V", sig := { parameters := [(.object "java/lang/String"), .int, .int], returnType := none }, accessFlags := 2, code := some k9c7 }
def k9c8 : Code := { maxStack := 5, maxLocals := 2, code := prog_37_method_16_code, exceptionTable := #[], attributes := #[] }
def k9m8 : Method := { name := "appendMakingRoom", desc := "(C)V", sig := { parameters := [.char], returnType := none }, accessFlags := 2, code := some k9c8 }
def k9c9 : Code := { maxStack := 5, maxLocals := 2, code := prog_37_method_19_code, exceptionTable := #[], attributes := #[] }
def k9m9 : Method := { name := "widen", desc := "(I)V", sig := { parameters := [.int], returnType := none }, accessFlags := 2, code := some k9c9 }
def k9c10 : Code := { maxStack := 6, maxLocals := 3, code := prog_37_method_20_code, exceptionTable := #[], attributes := #[] }
def k9m10 : Method := { name := "inflate", desc := "(I)V", sig := { parameters := [.int], returnType := none }, accessFlags := 2, code := some k9c10 }
def k9c11 : Code := { maxStack := 2, maxLocals := 2, code := prog_37_method_21_code, exceptionTable := #[], attributes := #[] }
def k9m11 : Method := { name := "keepWithinChunk", desc := "(I)V", sig := { parameters := [.int], returnType := none }, accessFlags := 2, code := some k9c11 }
def k9c12 : Code := { maxStack := 2, maxLocals := 1, code := prog_37_method_22_code, exceptionTable := #[], attributes := #[] }
def k9m12 : Method := { name := "setChunkAside", desc := "()V", sig := { parameters := [], returnType := none }, accessFlags := 2, code := some k9c12 }
def k9c13 : Code := { maxStack := 5, maxLocals := 2, code := prog_37_method_23_code, exceptionTable := #[], attributes := #[] }
def k9m13 : Method := { name := "setAside", desc := "(Ljava/lang/String;)V", sig := { parameters := [(.object "java/lang/String")], returnType := none }, accessFlags := 2, code := some k9c13 }
def k9c14 : Code := { maxStack := 6, maxLocals := 2, code := prog_37_method_24_code, exceptionTable := #[], attributes := #[] }
def k9m14 : Method := { name := "checkLength", desc := "(I)V", sig := { parameters := [.int], returnType := none }, accessFlags := 2, code := some k9c14 }
def k9c15 : Code := { maxStack := 6, maxLocals := 1, code := prog_37_method_25_code, exceptionTable := #[], attributes := #[] }
def k9m15 : Method := { name := "chunkText", desc := "()Ljava/lang/String;", sig := { parameters := [], returnType := some (.object "java/lang/String") }, accessFlags := 2, code := some k9c15 }
/-- com/example/fields_in_tables/fieldsintables/TextBuilder -/
def k9 : Class := { plain "com/example/fields_in_tables/fieldsintables/TextBuilder" (some 0) with
  accessFlags := 32
  interfaces := #[]
  cf := some (fileOf pool9 10 #[] #[{ accessFlags := 0, nameIndex := 7, descriptorIndex := 8, attributes := #[] }, { accessFlags := 0, nameIndex := 34, descriptorIndex := 26, attributes := #[] }, { accessFlags := 0, nameIndex := 34, descriptorIndex := 64, attributes := #[] }, { accessFlags := 0, nameIndex := 34, descriptorIndex := 35, attributes := #[] }, { accessFlags := 0, nameIndex := 42, descriptorIndex := 43, attributes := #[] }, { accessFlags := 2, nameIndex := 53, descriptorIndex := 43, attributes := #[] }, { accessFlags := 0, nameIndex := 189, descriptorIndex := 190, attributes := #[] }, { accessFlags := 2, nameIndex := 46, descriptorIndex := 35, attributes := #[] }, { accessFlags := 2, nameIndex := 25, descriptorIndex := 26, attributes := #[] }, { accessFlags := 2, nameIndex := 71, descriptorIndex := 68, attributes := #[] }, { accessFlags := 2, nameIndex := 137, descriptorIndex := 68, attributes := #[] }, { accessFlags := 2, nameIndex := 122, descriptorIndex := 68, attributes := #[] }, { accessFlags := 2, nameIndex := 56, descriptorIndex := 8, attributes := #[] }, { accessFlags := 2, nameIndex := 63, descriptorIndex := 64, attributes := #[] }, { accessFlags := 2, nameIndex := 98, descriptorIndex := 68, attributes := #[] }, { accessFlags := 2, nameIndex := 94, descriptorIndex := 95, attributes := #[] }] 32 4 #[] #[{ accessFlags := 26, nameIndex := 173, descriptorIndex := 22, attributes := #[] }, { accessFlags := 26, nameIndex := 176, descriptorIndex := 88, attributes := #[] }, { accessFlags := 2, nameIndex := 63, descriptorIndex := 91, attributes := #[] }, { accessFlags := 2, nameIndex := 87, descriptorIndex := 88, attributes := #[] }, { accessFlags := 2, nameIndex := 13, descriptorIndex := 14, attributes := #[] }, { accessFlags := 2, nameIndex := 17, descriptorIndex := 18, attributes := #[] }, { accessFlags := 2, nameIndex := 143, descriptorIndex := 18, attributes := #[] }, { accessFlags := 2, nameIndex := 84, descriptorIndex := 14, attributes := #[] }, { accessFlags := 2, nameIndex := 21, descriptorIndex := 22, attributes := #[] }])
  fields := #[{ name := "CHUNK", type := .int, accessFlags := 26, slot := 0, constantValue := 0 }, { name := "MOST_CHARS", type := .long, accessFlags := 26, slot := 1, constantValue := 0 }, { name := "setAside", type := (.object "java/util/List"), accessFlags := 2, slot := 0, constantValue := 0 }, { name := "setAsideLength", type := .long, accessFlags := 2, slot := 1, constantValue := 0 }, { name := "latin1", type := (.array .byte), accessFlags := 2, slot := 2, constantValue := 0 }, { name := "chars", type := (.array .char), accessFlags := 2, slot := 3, constantValue := 0 }, { name := "spareChars", type := (.array .char), accessFlags := 2, slot := 4, constantValue := 0 }, { name := "asciiScratch", type := (.array .byte), accessFlags := 2, slot := 5, constantValue := 0 }, { name := "length", type := .int, accessFlags := 2, slot := 6, constantValue := 0 }]
  methods := #[k9m0, k9m1, k9m2, k9m3, k9m4, k9m5, k9m6, k9m7, k9m8, k9m9, k9m10, k9m11, k9m12, k9m13, k9m14, k9m15]
  instanceTypes := #[(.object "java/util/List"), .long, (.array .byte), (.array .char), (.array .char), (.array .byte), .int]
  staticTypes := #[.int, .long]
  resolved := Array.replicate 210 none
  statics := none }

def pool10 : Array CpInfo := pool [(1, .class_ 2), (0, u "java/lang/String"), (1, .class_ 6), (1, u "java/lang/Object"), (0, u "<init>"), (0, u "()V"), (0, .methodref 1 10), (0, .nameAndType 11 12), (0, u "checkIndex"), (0, u "(II)V"), (0, .methodref 14 15), (0, .class_ 16), (0, .nameAndType 17 18), (0, u "java/lang/StringLatin1"), (0, u "inflate"), (0, u "([BI[CII)V"), (9, .methodref 29 30), (0, .class_ 31), (0, .nameAndType 32 33), (0, u "java/lang/System"), (0, u "arraycopy"), (0, u "(Ljava/lang/Object;ILjava/lang/Object;II)V"), (19, u "([BI)C"), (67, u "$assertionsDisabled"), (0, u "Z"), (98, .class_ 223), (1, u "java/lang/StringLatin1$LinesSpliterator"), (28, u "charAt"), (21, u "getChars"), (0, u "([BII[CI)V"), (3, u "getBytes"), (0, u "([BII[BI)V"), (109, .class_ 391), (0, u "java/lang/StringLatin1$CharsSpliterator")] 3

def k10m0 : Method := { name := "<init>", desc := "()V", sig := { parameters := [], returnType := none }, accessFlags := 0, code := none }
def k10c1 : Code := { maxStack := 2, maxLocals := 2, code := jdk_43_method_2_code, exceptionTable := #[], attributes := #[] }
def k10m1 : Method := { name := "charAt", desc := "([BI)C", sig := { parameters := [(.array .byte), .int], returnType := some .char }, accessFlags := 9, code := some k10c1 }
def k10c2 : Code := { maxStack := 6, maxLocals := 5, code := jdk_43_method_11_code, exceptionTable := #[], attributes := #[] }
def k10m2 : Method := { name := "getChars", desc := "([BII[CI)V", sig := { parameters := [(.array .byte), .int, .int, (.array .char), .int], returnType := none }, accessFlags := 9, code := some k10c2 }
def k10c3 : Code := { maxStack := 6, maxLocals := 5, code := jdk_43_method_12_code, exceptionTable := #[], attributes := #[] }
def k10m3 : Method := { name := "getBytes", desc := "([BII[BI)V", sig := { parameters := [(.array .byte), .int, .int, (.array .byte), .int], returnType := none }, accessFlags := 9, code := some k10c3 }
def k10c4 : Code := { maxStack := 4, maxLocals := 6, code := jdk_43_method_49_code, exceptionTable := #[], attributes := #[] }
def k10m4 : Method := { name := "inflate", desc := "([BI[CII)V", sig := { parameters := [(.array .byte), .int, (.array .char), .int, .int], returnType := none }, accessFlags := 9, code := some k10c4 }
/-- java/lang/StringLatin1 -/
def k10 : Class := { plain "java/lang/StringLatin1" (some 0) with
  accessFlags := 48
  interfaces := #[]
  cf := some (fileOf pool10 14 #[.nestMembers #[390, 221]] #[{ accessFlags := 0, nameIndex := 7, descriptorIndex := 8, attributes := #[] }, { accessFlags := 9, nameIndex := 252, descriptorIndex := 53, attributes := #[] }, { accessFlags := 9, nameIndex := 274, descriptorIndex := 275, attributes := #[] }, { accessFlags := 9, nameIndex := 279, descriptorIndex := 280, attributes := #[] }, { accessFlags := 9, nameIndex := 17, descriptorIndex := 18, attributes := #[] }] 48 4 #[] #[{ accessFlags := 4120, nameIndex := 121, descriptorIndex := 122, attributes := #[] }])
  fields := #[{ name := "$assertionsDisabled", type := .boolean, accessFlags := 4120, slot := 0, constantValue := 0 }]
  methods := #[k10m0, k10m1, k10m2, k10m3, k10m4]
  instanceTypes := #[]
  staticTypes := #[.boolean]
  resolved := Array.replicate 395 none
  statics := none }

def pool11 : Array CpInfo := pool [(2, .class_ 4), (1, u "java/lang/Object"), (0, u "<init>"), (0, u "()V"), (17, .class_ 26), (1, u "jdk/internal/util/Preconditions"), (6, u "checkIndex"), (13, u "checkFromToIndex"), (1, u "checkFromIndexSize"), (5, .class_ 56), (0, u "jdk/internal/util/Preconditions$4"), (57, .class_ 115), (0, u "jdk/internal/util/Preconditions$1"), (7, u "SIOOBE_FORMATTER"), (0, u "Ljava/util/function/BiFunction;"), (0, .class_ 126), (0, u "jdk/internal/util/Preconditions$2"), (3, u "AIOOBE_FORMATTER"), (0, .class_ 132), (0, u "jdk/internal/util/Preconditions$3"), (3, u "IOOBE_FORMATTER"), (41, u "(IILjava/util/function/BiFunction;)I"), (4, u "(IIILjava/util/function/BiFunction;)I")] 10

def k11m0 : Method := { name := "<init>", desc := "()V", sig := { parameters := [], returnType := none }, accessFlags := 1, code := none }
def k11c1 : Code := { maxStack := 3, maxLocals := 3, code := jdk_41_method_11_code, exceptionTable := #[], attributes := #[] }
def k11m1 : Method := { name := "checkIndex", desc := "(IILjava/util/function/BiFunction;)I", sig := { parameters := [.int, .int, (.object "java/util/function/BiFunction")], returnType := some .int }, accessFlags := 9, code := some k11c1 }
def k11c2 : Code := { maxStack := 4, maxLocals := 4, code := jdk_41_method_12_code, exceptionTable := #[], attributes := #[] }
def k11m2 : Method := { name := "checkFromToIndex", desc := "(IIILjava/util/function/BiFunction;)I", sig := { parameters := [.int, .int, .int, (.object "java/util/function/BiFunction")], returnType := some .int }, accessFlags := 9, code := some k11c2 }
def k11c3 : Code := { maxStack := 4, maxLocals := 4, code := jdk_41_method_13_code, exceptionTable := #[], attributes := #[] }
def k11m3 : Method := { name := "checkFromIndexSize", desc := "(IIILjava/util/function/BiFunction;)I", sig := { parameters := [.int, .int, .int, (.object "java/util/function/BiFunction")], returnType := some .int }, accessFlags := 9, code := some k11c3 }
/-- jdk/internal/util/Preconditions -/
def k11 : Class := { plain "jdk/internal/util/Preconditions" (some 0) with
  accessFlags := 33
  interfaces := #[]
  cf := some (fileOf pool11 24 #[.nestMembers #[55, 131, 125, 114]] #[{ accessFlags := 1, nameIndex := 5, descriptorIndex := 6, attributes := #[] }, { accessFlags := 9, nameIndex := 33, descriptorIndex := 178, attributes := #[] }, { accessFlags := 9, nameIndex := 47, descriptorIndex := 183, attributes := #[] }, { accessFlags := 9, nameIndex := 49, descriptorIndex := 183, attributes := #[] }] 33 2 #[] #[{ accessFlags := 25, nameIndex := 123, descriptorIndex := 124, attributes := #[] }, { accessFlags := 25, nameIndex := 130, descriptorIndex := 124, attributes := #[] }, { accessFlags := 25, nameIndex := 136, descriptorIndex := 124, attributes := #[] }])
  fields := #[{ name := "SIOOBE_FORMATTER", type := (.object "java/util/function/BiFunction"), accessFlags := 25, slot := 0, constantValue := 0 }, { name := "AIOOBE_FORMATTER", type := (.object "java/util/function/BiFunction"), accessFlags := 25, slot := 1, constantValue := 0 }, { name := "IOOBE_FORMATTER", type := (.object "java/util/function/BiFunction"), accessFlags := 25, slot := 2, constantValue := 0 }]
  methods := #[k11m0, k11m1, k11m2, k11m3]
  instanceTypes := #[]
  staticTypes := #[(.object "java/util/function/BiFunction"), (.object "java/util/function/BiFunction"), (.object "java/util/function/BiFunction")]
  resolved := Array.replicate 194 none
  statics := some 2 }

def pool12 : Array CpInfo := pool [(2, .class_ 4), (1, u "java/lang/Object"), (0, u "<init>"), (0, u "()V"), (35, .class_ 44), (1, u "java/util/Objects"), (0, u "requireNonNull"), (0, u "(Ljava/lang/Object;)Ljava/lang/Object;")] 137

def k12m0 : Method := { name := "<init>", desc := "()V", sig := { parameters := [], returnType := none }, accessFlags := 2, code := none }
def k12c1 : Code := { maxStack := 2, maxLocals := 1, code := jdk_31_method_10_code, exceptionTable := #[], attributes := #[] }
def k12m1 : Method := { name := "requireNonNull", desc := "(Ljava/lang/Object;)Ljava/lang/Object;", sig := { parameters := [(.object "java/lang/Object")], returnType := some (.object "java/lang/Object") }, accessFlags := 9, code := some k12c1 }
/-- java/util/Objects -/
def k12 : Class := { plain "java/util/Objects" (some 0) with
  accessFlags := 49
  interfaces := #[]
  cf := some (fileOf pool12 42 #[] #[{ accessFlags := 2, nameIndex := 5, descriptorIndex := 6, attributes := #[] }, { accessFlags := 9, nameIndex := 45, descriptorIndex := 46, attributes := #[] }] 49 2 #[] #[])
  fields := #[]
  methods := #[k12m0, k12m1]
  instanceTypes := #[]
  staticTypes := #[]
  resolved := Array.replicate 184 none
  statics := none }

def pool13 : Array CpInfo := pool [(2, .class_ 4), (1, u "java/lang/Object"), (0, u "<init>"), (0, u "()V"), (1, .class_ 10), (1, u "java/lang/System"), (0, u "allowSecurityManager"), (0, u "I"), (16, u "cons"), (0, u "Ljava/io/Console;"), (77, .class_ 110), (1, u "java/lang/System$CallersHolder"), (43, u "initialErrStream"), (0, u "Ljava/io/PrintStream;"), (19, u "security"), (0, u "Ljava/lang/SecurityManager;"), (31, .class_ 209), (0, u "java/lang/System$1"), (7, u "props"), (0, u "Ljava/util/Properties;"), (2, u "lineSeparator"), (0, u "Ljava/lang/String;"), (96, .class_ 321), (1, u "java/lang/System$LoggerFinder"), (5, .class_ 328), (0, u "java/lang/System$Logger"), (67, u "err"), (2, u "out"), (91, u "notSupportedJnuEncoding"), (15, u "in"), (17, u "initialIn"), (0, u "Ljava/io/InputStream;"), (35, u "bootLayer"), (0, u "Ljava/lang/ModuleLayer;"), (99, .class_ 664), (0, u "java/lang/System$2"), (9, u "NEVER"), (2, u "MAYBE"), (49, u "arraycopy"), (0, u "(Ljava/lang/Object;ILjava/lang/Object;II)V"), (72, .class_ 802), (0, u "java/lang/System$Logger$Level")] 31

def k13m0 : Method := { name := "<init>", desc := "()V", sig := { parameters := [], returnType := none }, accessFlags := 2, code := none }
def k13m1 : Method := { name := "arraycopy", desc := "(Ljava/lang/Object;ILjava/lang/Object;II)V", sig := { parameters := [(.object "java/lang/Object"), .int, (.object "java/lang/Object"), .int, .int], returnType := none }, accessFlags := 265, code := none }
/-- java/lang/System -/
def k13 : Class := { plain "java/lang/System" (some 0) with
  accessFlags := 49
  interfaces := #[]
  cf := some (fileOf pool13 8 #[.nestMembers #[319, 327, 801, 108, 663, 208]] #[{ accessFlags := 2, nameIndex := 5, descriptorIndex := 6, attributes := #[] }, { accessFlags := 265, nameIndex := 727, descriptorIndex := 728, attributes := #[] }] 49 2 #[] #[{ accessFlags := 25, nameIndex := 507, descriptorIndex := 526, attributes := #[] }, { accessFlags := 25, nameIndex := 399, descriptorIndex := 155, attributes := #[] }, { accessFlags := 25, nameIndex := 396, descriptorIndex := 155, attributes := #[] }, { accessFlags := 10, nameIndex := 525, descriptorIndex := 526, attributes := #[] }, { accessFlags := 26, nameIndex := 674, descriptorIndex := 12, attributes := #[] }, { accessFlags := 26, nameIndex := 677, descriptorIndex := 12, attributes := #[] }, { accessFlags := 10, nameIndex := 11, descriptorIndex := 12, attributes := #[] }, { accessFlags := 74, nameIndex := 175, descriptorIndex := 176, attributes := #[] }, { accessFlags := 10, nameIndex := 491, descriptorIndex := 222, attributes := #[] }, { accessFlags := 74, nameIndex := 29, descriptorIndex := 30, attributes := #[] }, { accessFlags := 74, nameIndex := 154, descriptorIndex := 155, attributes := #[] }, { accessFlags := 10, nameIndex := 217, descriptorIndex := 218, attributes := #[] }, { accessFlags := 10, nameIndex := 221, descriptorIndex := 222, attributes := #[] }, { accessFlags := 8, nameIndex := 562, descriptorIndex := 563, attributes := #[] }])
  fields := #[{ name := "in", type := (.object "java/io/InputStream"), accessFlags := 25, slot := 0, constantValue := 0 }, { name := "out", type := (.object "java/io/PrintStream"), accessFlags := 25, slot := 1, constantValue := 0 }, { name := "err", type := (.object "java/io/PrintStream"), accessFlags := 25, slot := 2, constantValue := 0 }, { name := "initialIn", type := (.object "java/io/InputStream"), accessFlags := 10, slot := 3, constantValue := 0 }, { name := "NEVER", type := .int, accessFlags := 26, slot := 4, constantValue := 0 }, { name := "MAYBE", type := .int, accessFlags := 26, slot := 5, constantValue := 0 }, { name := "allowSecurityManager", type := .int, accessFlags := 10, slot := 6, constantValue := 0 }, { name := "security", type := (.object "java/lang/SecurityManager"), accessFlags := 74, slot := 7, constantValue := 0 }, { name := "notSupportedJnuEncoding", type := (.object "java/lang/String"), accessFlags := 10, slot := 8, constantValue := 0 }, { name := "cons", type := (.object "java/io/Console"), accessFlags := 74, slot := 9, constantValue := 0 }, { name := "initialErrStream", type := (.object "java/io/PrintStream"), accessFlags := 74, slot := 10, constantValue := 0 }, { name := "props", type := (.object "java/util/Properties"), accessFlags := 10, slot := 11, constantValue := 0 }, { name := "lineSeparator", type := (.object "java/lang/String"), accessFlags := 10, slot := 12, constantValue := 0 }, { name := "bootLayer", type := (.object "java/lang/ModuleLayer"), accessFlags := 8, slot := 13, constantValue := 0 }]
  methods := #[k13m0, k13m1]
  instanceTypes := #[]
  staticTypes := #[(.object "java/io/InputStream"), (.object "java/io/PrintStream"), (.object "java/io/PrintStream"), (.object "java/io/InputStream"), .int, .int, .int, (.object "java/lang/SecurityManager"), (.object "java/lang/String"), (.object "java/io/Console"), (.object "java/io/PrintStream"), (.object "java/util/Properties"), (.object "java/lang/String"), (.object "java/lang/ModuleLayer")]
  resolved := Array.replicate 834 none
  statics := none }

def pool14 : Array CpInfo := pool [(1, .class_ 2), (0, u "java/lang/Math"), (1, .class_ 6), (1, u "java/lang/Object"), (0, u "<init>"), (0, u "()V"), (89, .class_ 100), (1, u "java/lang/Math$RandomNumberGeneratorHolder"), (71, u "negativeZeroFloatBits"), (0, u "J"), (2, u "negativeZeroDoubleBits"), (21, u "max"), (2, u "min"), (43, u "$assertionsDisabled"), (0, u "Z"), (88, u "(II)I"), (2, u "twoToTheDoubleScaleDown"), (0, u "D"), (4, u "twoToTheDoubleScaleUp"), (9, u "E"), (3, u "PI"), (2, u "TAU"), (2, u "DEGREES_TO_RADIANS"), (0, u "RADIANS_TO_DEGREES")] 94

def k14m0 : Method := { name := "<init>", desc := "()V", sig := { parameters := [], returnType := none }, accessFlags := 2, code := none }
def k14c1 : Code := { maxStack := 2, maxLocals := 2, code := jdk_29_method_65_code, exceptionTable := #[], attributes := #[] }
def k14m1 : Method := { name := "max", desc := "(II)I", sig := { parameters := [.int, .int], returnType := some .int }, accessFlags := 9, code := some k14c1 }
def k14c2 : Code := { maxStack := 2, maxLocals := 2, code := jdk_29_method_69_code, exceptionTable := #[], attributes := #[] }
def k14m2 : Method := { name := "min", desc := "(II)I", sig := { parameters := [.int, .int], returnType := some .int }, accessFlags := 9, code := some k14c2 }
/-- java/lang/Math -/
def k14 : Class := { plain "java/lang/Math" (some 0) with
  accessFlags := 49
  interfaces := #[]
  cf := some (fileOf pool14 1 #[.nestMembers #[98]] #[{ accessFlags := 2, nameIndex := 7, descriptorIndex := 8, attributes := #[] }, { accessFlags := 9, nameIndex := 198, descriptorIndex := 335, attributes := #[] }, { accessFlags := 9, nameIndex := 201, descriptorIndex := 335, attributes := #[] }] 49 4 #[] #[{ accessFlags := 25, nameIndex := 354, descriptorIndex := 339, attributes := #[] }, { accessFlags := 25, nameIndex := 358, descriptorIndex := 339, attributes := #[] }, { accessFlags := 25, nameIndex := 361, descriptorIndex := 339, attributes := #[] }, { accessFlags := 26, nameIndex := 364, descriptorIndex := 339, attributes := #[] }, { accessFlags := 26, nameIndex := 365, descriptorIndex := 339, attributes := #[] }, { accessFlags := 26, nameIndex := 172, descriptorIndex := 173, attributes := #[] }, { accessFlags := 26, nameIndex := 176, descriptorIndex := 173, attributes := #[] }, { accessFlags := 8, nameIndex := 344, descriptorIndex := 339, attributes := #[] }, { accessFlags := 8, nameIndex := 338, descriptorIndex := 339, attributes := #[] }, { accessFlags := 4120, nameIndex := 245, descriptorIndex := 246, attributes := #[] }])
  fields := #[{ name := "E", type := .double, accessFlags := 25, slot := 0, constantValue := 0 }, { name := "PI", type := .double, accessFlags := 25, slot := 1, constantValue := 0 }, { name := "TAU", type := .double, accessFlags := 25, slot := 2, constantValue := 0 }, { name := "DEGREES_TO_RADIANS", type := .double, accessFlags := 26, slot := 3, constantValue := 0 }, { name := "RADIANS_TO_DEGREES", type := .double, accessFlags := 26, slot := 4, constantValue := 0 }, { name := "negativeZeroFloatBits", type := .long, accessFlags := 26, slot := 5, constantValue := 0 }, { name := "negativeZeroDoubleBits", type := .long, accessFlags := 26, slot := 6, constantValue := 0 }, { name := "twoToTheDoubleScaleUp", type := .double, accessFlags := 8, slot := 7, constantValue := 0 }, { name := "twoToTheDoubleScaleDown", type := .double, accessFlags := 8, slot := 8, constantValue := 0 }, { name := "$assertionsDisabled", type := .boolean, accessFlags := 4120, slot := 9, constantValue := 0 }]
  methods := #[k14m0, k14m1, k14m2]
  instanceTypes := #[]
  staticTypes := #[.double, .double, .double, .double, .double, .long, .long, .double, .double, .boolean]
  resolved := Array.replicate 460 none
  statics := none }

def pool15 : Array CpInfo := pool [(2, .class_ 4), (1, u "java/lang/Object"), (0, u "<init>"), (0, u "()V"), (14, .class_ 23), (1, u "java/nio/charset/StandardCharsets"), (0, u "US_ASCII"), (0, u "Ljava/nio/charset/Charset;"), (7, u "ISO_8859_1"), (7, u "UTF_8"), (5, u "UTF_16BE"), (5, u "UTF_16LE"), (5, u "UTF_16")] 8

def k15m0 : Method := { name := "<init>", desc := "()V", sig := { parameters := [], returnType := none }, accessFlags := 2, code := none }
/-- java/nio/charset/StandardCharsets -/
def k15 : Class := { plain "java/nio/charset/StandardCharsets" (some 0) with
  accessFlags := 49
  interfaces := #[]
  cf := some (fileOf pool15 21 #[] #[{ accessFlags := 2, nameIndex := 5, descriptorIndex := 6, attributes := #[] }] 49 2 #[] #[{ accessFlags := 25, nameIndex := 24, descriptorIndex := 25, attributes := #[] }, { accessFlags := 25, nameIndex := 33, descriptorIndex := 25, attributes := #[] }, { accessFlags := 25, nameIndex := 41, descriptorIndex := 25, attributes := #[] }, { accessFlags := 25, nameIndex := 47, descriptorIndex := 25, attributes := #[] }, { accessFlags := 25, nameIndex := 53, descriptorIndex := 25, attributes := #[] }, { accessFlags := 25, nameIndex := 59, descriptorIndex := 25, attributes := #[] }])
  fields := #[{ name := "US_ASCII", type := (.object "java/nio/charset/Charset"), accessFlags := 25, slot := 0, constantValue := 0 }, { name := "ISO_8859_1", type := (.object "java/nio/charset/Charset"), accessFlags := 25, slot := 1, constantValue := 0 }, { name := "UTF_8", type := (.object "java/nio/charset/Charset"), accessFlags := 25, slot := 2, constantValue := 0 }, { name := "UTF_16BE", type := (.object "java/nio/charset/Charset"), accessFlags := 25, slot := 3, constantValue := 0 }, { name := "UTF_16LE", type := (.object "java/nio/charset/Charset"), accessFlags := 25, slot := 4, constantValue := 0 }, { name := "UTF_16", type := (.object "java/nio/charset/Charset"), accessFlags := 25, slot := 5, constantValue := 0 }]
  methods := #[k15m0]
  instanceTypes := #[]
  staticTypes := #[(.object "java/nio/charset/Charset"), (.object "java/nio/charset/Charset"), (.object "java/nio/charset/Charset"), (.object "java/nio/charset/Charset"), (.object "java/nio/charset/Charset"), (.object "java/nio/charset/Charset")]
  resolved := Array.replicate 68 none
  statics := some 3 }

def pool16 : Array CpInfo := pool [(18, .class_ 20), (1, u "java/nio/charset/Charset"), (0, u "cache1"), (0, u "[Ljava/lang/Object;"), (2, u "cache2"), (0, .class_ 27), (0, u "java/lang/Object"), (0, .class_ 29), (0, u "java/nio/charset/Charset$1"), (4, .class_ 36), (1, u "java/nio/charset/Charset$ThreadTrackHolder"), (21, .class_ 59), (0, u "java/nio/charset/Charset$2"), (11, .class_ 73), (1, u "java/nio/charset/Charset$ExtendedProviderHolder"), (22, u "standardProvider"), (0, u "Ljava/nio/charset/spi/CharsetProvider;"), (29, u "name"), (7, .class_ 136), (0, u "java/nio/charset/Charset$3"), (5, u "defaultCharset"), (0, u "Ljava/nio/charset/Charset;"), (14, u "zeroAliases"), (0, u "[Ljava/lang/String;"), (29, u "Ljava/lang/String;"), (2, u "aliases"), (2, u "aliasSet"), (0, u "Ljava/util/Set;"), (82, .class_ 280), (0, u "java/lang/Comparable"), (84, .class_ 366), (0, u "java/nio/charset/Charset$ExtendedProviderHolder$1")] 3

/-- java/nio/charset/Charset -/
def k16 : Class := { plain "java/nio/charset/Charset" (some 0) with
  accessFlags := 1057
  interfaces := #[3]
  cf := some (fileOf pool16 18 #[.nestMembers #[71, 365, 34, 135, 58, 28]] #[] 1057 26 #[279] #[{ accessFlags := 26, nameIndex := 96, descriptorIndex := 97, attributes := #[] }, { accessFlags := 26, nameIndex := 158, descriptorIndex := 159, attributes := #[] }, { accessFlags := 74, nameIndex := 21, descriptorIndex := 22, attributes := #[] }, { accessFlags := 74, nameIndex := 25, descriptorIndex := 22, attributes := #[] }, { accessFlags := 10, nameIndex := 142, descriptorIndex := 143, attributes := #[] }, { accessFlags := 18, nameIndex := 127, descriptorIndex := 189, attributes := #[] }, { accessFlags := 18, nameIndex := 192, descriptorIndex := 159, attributes := #[] }, { accessFlags := 2, nameIndex := 195, descriptorIndex := 196, attributes := #[] }])
  fields := #[{ name := "standardProvider", type := (.object "java/nio/charset/spi/CharsetProvider"), accessFlags := 26, slot := 0, constantValue := 0 }, { name := "zeroAliases", type := (.array (.object "java/lang/String")), accessFlags := 26, slot := 1, constantValue := 0 }, { name := "cache1", type := (.array (.object "java/lang/Object")), accessFlags := 74, slot := 2, constantValue := 0 }, { name := "cache2", type := (.array (.object "java/lang/Object")), accessFlags := 74, slot := 3, constantValue := 0 }, { name := "defaultCharset", type := (.object "java/nio/charset/Charset"), accessFlags := 10, slot := 4, constantValue := 0 }, { name := "name", type := (.object "java/lang/String"), accessFlags := 18, slot := 0, constantValue := 0 }, { name := "aliases", type := (.array (.object "java/lang/String")), accessFlags := 18, slot := 1, constantValue := 0 }, { name := "aliasSet", type := (.object "java/util/Set"), accessFlags := 2, slot := 2, constantValue := 0 }]
  methods := #[]
  instanceTypes := #[(.object "java/lang/String"), (.array (.object "java/lang/String")), (.object "java/util/Set")]
  staticTypes := #[(.object "java/nio/charset/spi/CharsetProvider"), (.array (.object "java/lang/String")), (.array (.object "java/lang/Object")), (.array (.object "java/lang/Object")), (.object "java/nio/charset/Charset")]
  resolved := Array.replicate 370 none
  statics := none }

def pool17 : Array CpInfo := pool [(1, .class_ 2), (0, u "sun/nio/cs/HistoricallyNamedCharset"), (0, .class_ 4), (0, u "java/lang/Object")] 4

/-- sun/nio/cs/HistoricallyNamedCharset -/
def k17 : Class := { plain "sun/nio/cs/HistoricallyNamedCharset" (some 0) with
  accessFlags := 1537
  interfaces := #[]
  cf := some (fileOf pool17 1 #[] #[] 1537 3 #[] #[])
  fields := #[]
  methods := #[]
  instanceTypes := #[]
  staticTypes := #[]
  resolved := Array.replicate 9 none
  statics := none }

def pool18 : Array CpInfo := pool [(10, .class_ 12), (1, u "java/nio/charset/Charset"), (0, u "<init>"), (5, .class_ 20), (0, u "sun/nio/cs/ISO_8859_1"), (0, .class_ 22), (0, u "sun/nio/cs/ISO_8859_1$Decoder"), (3, .class_ 27), (0, u "sun/nio/cs/ISO_8859_1$Encoder"), (3, u "()V"), (2, u "INSTANCE"), (0, u "Lsun/nio/cs/ISO_8859_1;"), (0, .class_ 37), (0, u "sun/nio/cs/HistoricallyNamedCharset")] 22

def k18m0 : Method := { name := "<init>", desc := "()V", sig := { parameters := [], returnType := none }, accessFlags := 1, code := none }
/-- sun/nio/cs/ISO_8859_1 -/
def k18 : Class := { plain "sun/nio/cs/ISO_8859_1" (some 16) with
  accessFlags := 33
  interfaces := #[17]
  cf := some (fileOf pool18 19 #[.nestMembers #[26, 21]] #[{ accessFlags := 1, nameIndex := 13, descriptorIndex := 31, attributes := #[] }] 33 10 #[36] #[{ accessFlags := 25, nameIndex := 34, descriptorIndex := 35, attributes := #[] }])
  fields := #[{ name := "INSTANCE", type := (.object "sun/nio/cs/ISO_8859_1"), accessFlags := 25, slot := 0, constantValue := 0 }]
  methods := #[k18m0]
  instanceTypes := #[(.object "java/lang/String"), (.array (.object "java/lang/String")), (.object "java/util/Set")]
  staticTypes := #[(.object "sun/nio/cs/ISO_8859_1")]
  resolved := Array.replicate 60 none
  statics := some 4 }

def pool19 : Array CpInfo := pool [(8, .class_ 10), (1, u "java/lang/Iterable"), (24, .class_ 36), (0, u "java/lang/Object")] 25

/-- java/lang/Iterable -/
def k19 : Class := { plain "java/lang/Iterable" (some 0) with
  accessFlags := 1537
  interfaces := #[]
  cf := some (fileOf pool19 8 #[] #[] 1537 35 #[] #[])
  fields := #[]
  methods := #[]
  instanceTypes := #[]
  staticTypes := #[]
  resolved := Array.replicate 62 none
  statics := none }

def pool20 : Array CpInfo := pool [(10, .class_ 12), (1, u "java/util/Collection"), (47, .class_ 61), (0, u "java/lang/Object"), (0, .class_ 63), (0, u "java/lang/Iterable")] 51

/-- java/util/Collection -/
def k20 : Class := { plain "java/util/Collection" (some 0) with
  accessFlags := 1537
  interfaces := #[19]
  cf := some (fileOf pool20 10 #[] #[] 1537 60 #[62] #[])
  fields := #[]
  methods := #[]
  instanceTypes := #[]
  staticTypes := #[]
  resolved := Array.replicate 115 none
  statics := none }

def pool21 : Array CpInfo := pool [(1, .methodref 2 3), (0, .class_ 4), (0, .nameAndType 5 6), (0, u "java/lang/Object"), (0, u "<init>"), (0, u "()V"), (1, .class_ 10), (1, u "java/util/AbstractCollection"), (66, .class_ 78), (0, u "java/util/Collection")] 81

def k21c0 : Code := { maxStack := 1, maxLocals := 1, code := jdk_22_method_1_code, exceptionTable := #[], attributes := #[] }
def k21m0 : Method := { name := "<init>", desc := "()V", sig := { parameters := [], returnType := none }, accessFlags := 4, code := some k21c0 }
/-- java/util/AbstractCollection -/
def k21 : Class := { plain "java/util/AbstractCollection" (some 0) with
  accessFlags := 1057
  interfaces := #[20]
  cf := some (fileOf pool21 8 #[] #[{ accessFlags := 4, nameIndex := 5, descriptorIndex := 6, attributes := #[] }] 1057 2 #[77] #[])
  fields := #[]
  methods := #[k21m0]
  instanceTypes := #[]
  staticTypes := #[]
  resolved := Array.replicate 160 none
  statics := none }

def pool22 : Array CpInfo := pool [(8, .class_ 10), (1, u "java/util/SequencedCollection"), (15, .class_ 27), (0, u "java/lang/Object"), (0, .class_ 29), (0, u "java/util/Collection")] 27

/-- java/util/SequencedCollection -/
def k22 : Class := { plain "java/util/SequencedCollection" (some 0) with
  accessFlags := 1537
  interfaces := #[20]
  cf := some (fileOf pool22 8 #[] #[] 1537 26 #[28] #[])
  fields := #[]
  methods := #[]
  instanceTypes := #[]
  staticTypes := #[]
  resolved := Array.replicate 57 none
  statics := none }

def pool23 : Array CpInfo := pool [(8, .class_ 10), (1, u "java/util/List"), (49, u "add"), (3, u "(Ljava/lang/Object;)Z"), (38, .class_ 104), (0, u "java/lang/Object"), (15, .class_ 121), (0, u "java/util/SequencedCollection")] 129

def k23m0 : Method := { name := "add", desc := "(Ljava/lang/Object;)Z", sig := { parameters := [(.object "java/lang/Object")], returnType := some .boolean }, accessFlags := 1025, code := none }
/-- java/util/List -/
def k23 : Class := { plain "java/util/List" (some 0) with
  accessFlags := 1537
  interfaces := #[22]
  cf := some (fileOf pool23 8 #[] #[{ accessFlags := 1025, nameIndex := 60, descriptorIndex := 64, attributes := #[] }] 1537 103 #[120] #[])
  fields := #[]
  methods := #[k23m0]
  instanceTypes := #[]
  staticTypes := #[]
  resolved := Array.replicate 251 none
  statics := none }

def pool24 : Array CpInfo := pool [(1, .methodref 2 3), (0, .class_ 4), (0, .nameAndType 5 6), (0, u "java/util/AbstractCollection"), (0, u "<init>"), (0, u "()V"), (0, .fieldref 8 9), (0, .class_ 10), (0, .nameAndType 11 12), (0, u "java/util/AbstractList"), (0, u "modCount"), (0, u "I"), (64, .class_ 78), (0, u "java/util/AbstractList$Itr"), (3, .class_ 83), (0, u "java/util/AbstractList$ListItr"), (9, .class_ 94), (0, u "java/util/AbstractList$RandomAccessSubList"), (3, .class_ 99), (0, u "java/util/AbstractList$SubList"), (33, .class_ 134), (0, u "java/util/List"), (73, .class_ 209), (0, u "java/util/AbstractList$SubList$1"), (0, .class_ 211), (0, u "java/util/AbstractList$RandomAccessSpliterator")] 6

def k24c0 : Code := { maxStack := 2, maxLocals := 1, code := jdk_39_method_1_code, exceptionTable := #[], attributes := #[] }
def k24m0 : Method := { name := "<init>", desc := "()V", sig := { parameters := [], returnType := none }, accessFlags := 4, code := some k24c0 }
/-- java/util/AbstractList -/
def k24 : Class := { plain "java/util/AbstractList" (some 21) with
  accessFlags := 1057
  interfaces := #[23]
  cf := some (fileOf pool24 8 #[.nestMembers #[93, 98, 208, 210, 82, 77]] #[{ accessFlags := 4, nameIndex := 5, descriptorIndex := 6, attributes := #[] }] 1057 2 #[133] #[{ accessFlags := 132, nameIndex := 11, descriptorIndex := 12, attributes := #[] }])
  fields := #[{ name := "modCount", type := .int, accessFlags := 132, slot := 0, constantValue := 0 }]
  methods := #[k24m0]
  instanceTypes := #[.int]
  staticTypes := #[]
  resolved := Array.replicate 218 none
  statics := none }

def pool25 : Array CpInfo := pool [(1, .class_ 2), (0, u "java/util/RandomAccess"), (0, .class_ 4), (0, u "java/lang/Object")] 2

/-- java/util/RandomAccess -/
def k25 : Class := { plain "java/util/RandomAccess" (some 0) with
  accessFlags := 1537
  interfaces := #[]
  cf := some (fileOf pool25 1 #[] #[] 1537 3 #[] #[])
  fields := #[]
  methods := #[]
  instanceTypes := #[]
  staticTypes := #[]
  resolved := Array.replicate 7 none
  statics := none }

def pool26 : Array CpInfo := pool [(1, .class_ 2), (0, u "java/lang/Cloneable"), (0, .class_ 4), (0, u "java/lang/Object")] 2

/-- java/lang/Cloneable -/
def k26 : Class := { plain "java/lang/Cloneable" (some 0) with
  accessFlags := 1537
  interfaces := #[]
  cf := some (fileOf pool26 1 #[] #[] 1537 3 #[] #[])
  fields := #[]
  methods := #[]
  instanceTypes := #[]
  staticTypes := #[]
  resolved := Array.replicate 7 none
  statics := none }

def pool27 : Array CpInfo := pool [(1, .methodref 2 3), (0, .class_ 4), (0, .nameAndType 5 6), (0, u "java/util/AbstractList"), (0, u "<init>"), (0, u "()V"), (0, .class_ 8), (0, u "java/lang/Object"), (0, .fieldref 10 11), (0, .class_ 12), (0, .nameAndType 13 14), (0, u "java/util/ArrayList"), (0, u "elementData"), (0, u "[Ljava/lang/Object;"), (2, u "EMPTY_ELEMENTDATA"), (21, .fieldref 10 40), (0, .nameAndType 41 14), (0, u "DEFAULTCAPACITY_EMPTY_ELEMENTDATA"), (5, u "()[Ljava/lang/Object;"), (0, .fieldref 10 49), (0, .nameAndType 50 51), (0, u "size"), (0, u "I"), (11, .fieldref 10 64), (0, .nameAndType 65 51), (0, u "modCount"), (3, .methodref 10 70), (0, .nameAndType 71 72), (0, u "grow"), (0, u "(I)[Ljava/lang/Object;"), (6, .methodref 80 81), (0, .class_ 82), (0, .nameAndType 83 84), (0, u "java/lang/Math"), (0, u "max"), (0, u "(II)I"), (11, u "(Ljava/lang/Object;)Z"), (32, .methodref 10 130), (0, .nameAndType 71 47), (0, .methodref 10 132), (0, .nameAndType 133 134), (0, u "add"), (0, u "(Ljava/lang/Object;[Ljava/lang/Object;I)V"), (13, .class_ 149), (0, u "java/util/List"), (112, .class_ 263), (0, u "java/util/ArrayList$ListItr"), (3, .class_ 268), (0, u "java/util/ArrayList$Itr"), (7, .class_ 277), (0, u "java/util/ArrayList$SubList"), (12, .class_ 291), (0, u "java/util/ArrayList$ArrayListSpliterator"), (37, .class_ 330), (0, u "java/util/RandomAccess"), (0, .class_ 332), (0, u "java/lang/Cloneable"), (0, .class_ 334), (0, u "java/io/Serializable"), (0, u "serialVersionUID"), (0, u "J"), (3, u "DEFAULT_CAPACITY"), (159, .class_ 501), (0, u "java/util/ArrayList$SubList$2"), (0, .class_ 503), (0, u "java/util/ArrayList$SubList$1")] 5

def k27c0 : Code := { maxStack := 2, maxLocals := 1, code := jdk_38_method_2_code, exceptionTable := #[], attributes := #[] }
def k27m0 : Method := { name := "<init>", desc := "()V", sig := { parameters := [], returnType := none }, accessFlags := 1, code := some k27c0 }
def k27c1 : Code := { maxStack := 4, maxLocals := 4, code := jdk_38_method_6_code, exceptionTable := #[], attributes := #[] }
def k27m1 : Method := { name := "grow", desc := "(I)[Ljava/lang/Object;", sig := { parameters := [.int], returnType := some (.array (.object "java/lang/Object")) }, accessFlags := 2, code := some k27c1 }
def k27c2 : Code := { maxStack := 3, maxLocals := 1, code := jdk_38_method_7_code, exceptionTable := #[], attributes := #[] }
def k27m2 : Method := { name := "grow", desc := "()[Ljava/lang/Object;", sig := { parameters := [], returnType := some (.array (.object "java/lang/Object")) }, accessFlags := 2, code := some k27c2 }
def k27c3 : Code := { maxStack := 3, maxLocals := 4, code := jdk_38_method_24_code, exceptionTable := #[], attributes := #[] }
def k27m3 : Method := { name := "add", desc := "(Ljava/lang/Object;[Ljava/lang/Object;I)V", sig := { parameters := [(.object "java/lang/Object"), (.array (.object "java/lang/Object")), .int], returnType := none }, accessFlags := 2, code := some k27c3 }
def k27c4 : Code := { maxStack := 4, maxLocals := 2, code := jdk_38_method_25_code, exceptionTable := #[], attributes := #[] }
def k27m4 : Method := { name := "add", desc := "(Ljava/lang/Object;)Z", sig := { parameters := [(.object "java/lang/Object")], returnType := some .boolean }, accessFlags := 1, code := some k27c4 }
/-- java/util/ArrayList -/
def k27 : Class := { plain "java/util/ArrayList" (some 24) with
  accessFlags := 33
  interfaces := #[23, 25, 26, 2]
  cf := some (fileOf pool27 10 #[.nestMembers #[290, 276, 500, 502, 262, 267]] #[{ accessFlags := 1, nameIndex := 5, descriptorIndex := 6, attributes := #[] }, { accessFlags := 2, nameIndex := 71, descriptorIndex := 72, attributes := #[] }, { accessFlags := 2, nameIndex := 71, descriptorIndex := 47, attributes := #[] }, { accessFlags := 2, nameIndex := 133, descriptorIndex := 134, attributes := #[] }, { accessFlags := 1, nameIndex := 133, descriptorIndex := 96, attributes := #[] }] 33 2 #[148, 329, 331, 333] #[{ accessFlags := 26, nameIndex := 335, descriptorIndex := 336, attributes := #[] }, { accessFlags := 26, nameIndex := 340, descriptorIndex := 51, attributes := #[] }, { accessFlags := 26, nameIndex := 17, descriptorIndex := 14, attributes := #[] }, { accessFlags := 26, nameIndex := 41, descriptorIndex := 14, attributes := #[] }, { accessFlags := 128, nameIndex := 13, descriptorIndex := 14, attributes := #[] }, { accessFlags := 2, nameIndex := 50, descriptorIndex := 51, attributes := #[] }])
  fields := #[{ name := "serialVersionUID", type := .long, accessFlags := 26, slot := 0, constantValue := 0 }, { name := "DEFAULT_CAPACITY", type := .int, accessFlags := 26, slot := 1, constantValue := 0 }, { name := "EMPTY_ELEMENTDATA", type := (.array (.object "java/lang/Object")), accessFlags := 26, slot := 2, constantValue := 0 }, { name := "DEFAULTCAPACITY_EMPTY_ELEMENTDATA", type := (.array (.object "java/lang/Object")), accessFlags := 26, slot := 3, constantValue := 0 }, { name := "elementData", type := (.array (.object "java/lang/Object")), accessFlags := 128, slot := 1, constantValue := 0 }, { name := "size", type := .int, accessFlags := 2, slot := 2, constantValue := 0 }]
  methods := #[k27m0, k27m1, k27m2, k27m3, k27m4]
  instanceTypes := #[.int, (.array (.object "java/lang/Object")), .int]
  staticTypes := #[.long, .int, (.array (.object "java/lang/Object")), (.array (.object "java/lang/Object"))]
  resolved := Array.replicate 509 none
  statics := some 5 }

def pool28 : Array CpInfo := pool [(2, .class_ 4), (1, u "java/nio/charset/Charset"), (130, .class_ 136), (0, u "sun/nio/cs/Unicode"), (0, .class_ 138), (0, u "sun/nio/cs/HistoricallyNamedCharset")] 15

/-- sun/nio/cs/Unicode -/
def k28 : Class := { plain "sun/nio/cs/Unicode" (some 16) with
  accessFlags := 1056
  interfaces := #[17]
  cf := some (fileOf pool28 135 #[] #[] 1056 2 #[137] #[])
  fields := #[]
  methods := #[]
  instanceTypes := #[(.object "java/lang/String"), (.array (.object "java/lang/String")), (.object "java/util/Set")]
  staticTypes := #[]
  resolved := Array.replicate 154 none
  statics := none }

def pool29 : Array CpInfo := pool [(10, .class_ 12), (1, u "sun/nio/cs/Unicode"), (0, u "<init>"), (3, .class_ 18), (0, u "sun/nio/cs/UTF_8$Decoder"), (3, .class_ 23), (0, u "sun/nio/cs/UTF_8$Encoder"), (15, .class_ 40), (0, u "sun/nio/cs/UTF_8"), (2, u "()V"), (2, u "INSTANCE"), (0, u "Lsun/nio/cs/UTF_8;"), (8, u "JLA"), (0, u "Ljdk/internal/access/JavaLangAccess;")] 26

def k29m0 : Method := { name := "<init>", desc := "()V", sig := { parameters := [], returnType := none }, accessFlags := 1, code := none }
/-- sun/nio/cs/UTF_8 -/
def k29 : Class := { plain "sun/nio/cs/UTF_8" (some 28) with
  accessFlags := 49
  interfaces := #[]
  cf := some (fileOf pool29 39 #[.nestMembers #[22, 17]] #[{ accessFlags := 1, nameIndex := 13, descriptorIndex := 43, attributes := #[] }] 49 10 #[] #[{ accessFlags := 25, nameIndex := 46, descriptorIndex := 47, attributes := #[] }, { accessFlags := 26, nameIndex := 56, descriptorIndex := 57, attributes := #[] }])
  fields := #[{ name := "INSTANCE", type := (.object "sun/nio/cs/UTF_8"), accessFlags := 25, slot := 0, constantValue := 0 }, { name := "JLA", type := (.object "jdk/internal/access/JavaLangAccess"), accessFlags := 26, slot := 1, constantValue := 0 }]
  methods := #[k29m0]
  instanceTypes := #[(.object "java/lang/String"), (.array (.object "java/lang/String")), (.object "java/util/Set")]
  staticTypes := #[(.object "sun/nio/cs/UTF_8"), (.object "jdk/internal/access/JavaLangAccess")]
  resolved := Array.replicate 84 none
  statics := some 6 }

def pool30 : Array CpInfo := pool [(2, .class_ 4), (1, u "java/lang/Object"), (0, u "<init>"), (0, u "()V"), (7, .class_ 16), (1, u "java/util/Arrays"), (57, .class_ 76), (1, u "java/util/Arrays$NaturalOrder"), (36, .class_ 115), (1, u "java/util/Arrays$LegacyMergeSort"), (1, u "Z"), (21, u "copyOfRange"), (10, .methodref 151 152), (0, .class_ 153), (0, .nameAndType 154 155), (0, u "java/lang/System"), (0, u "arraycopy"), (0, u "(Ljava/lang/Object;ILjava/lang/Object;II)V"), (148, .methodref 305 306), (0, .class_ 307), (0, .nameAndType 308 309), (0, u "java/lang/Math"), (0, u "min"), (0, u "(II)I"), (29, .methodref 14 340), (0, .nameAndType 341 342), (0, u "copyOfRangeByte"), (0, u "([BII)[B"), (0, .methodref 14 344), (0, .nameAndType 345 346), (0, u "checkLength"), (0, u "(II)V"), (28, .class_ 376), (0, u "java/util/Arrays$ArrayList"), (68, u "$assertionsDisabled"), (269, u "MIN_ARRAY_SORT_GRAN"), (0, u "I"), (2, u "INSERTIONSORT_THRESHOLD"), (255, .class_ 976), (0, u "java/util/Arrays$ArrayItr")] 52

def k30m0 : Method := { name := "<init>", desc := "()V", sig := { parameters := [], returnType := none }, accessFlags := 2, code := none }
def k30c1 : Code := { maxStack := 4, maxLocals := 2, code := jdk_65_method_131_code, exceptionTable := #[], attributes := #[] }
def k30m1 : Method := { name := "checkLength", desc := "(II)V", sig := { parameters := [.int, .int], returnType := none }, accessFlags := 10, code := some k30c1 }
def k30c2 : Code := { maxStack := 3, maxLocals := 3, code := jdk_65_method_132_code, exceptionTable := #[], attributes := #[] }
def k30m2 : Method := { name := "copyOfRange", desc := "([BII)[B", sig := { parameters := [(.array .byte), .int, .int], returnType := some (.array .byte) }, accessFlags := 9, code := some k30c2 }
def k30c3 : Code := { maxStack := 6, maxLocals := 5, code := jdk_65_method_133_code, exceptionTable := #[], attributes := #[] }
def k30m3 : Method := { name := "copyOfRangeByte", desc := "([BII)[B", sig := { parameters := [(.array .byte), .int, .int], returnType := some (.array .byte) }, accessFlags := 10, code := some k30c3 }
/-- java/util/Arrays -/
def k30 : Class := { plain "java/util/Arrays" (some 0) with
  accessFlags := 49
  interfaces := #[]
  cf := some (fileOf pool30 14 #[.nestMembers #[975, 375, 113, 74]] #[{ accessFlags := 2, nameIndex := 5, descriptorIndex := 6, attributes := #[] }, { accessFlags := 10, nameIndex := 345, descriptorIndex := 346, attributes := #[] }, { accessFlags := 9, nameIndex := 139, descriptorIndex := 342, attributes := #[] }, { accessFlags := 10, nameIndex := 341, descriptorIndex := 342, attributes := #[] }] 49 2 #[] #[{ accessFlags := 26, nameIndex := 715, descriptorIndex := 716, attributes := #[] }, { accessFlags := 26, nameIndex := 719, descriptorIndex := 716, attributes := #[] }, { accessFlags := 4120, nameIndex := 445, descriptorIndex := 117, attributes := #[] }])
  fields := #[{ name := "MIN_ARRAY_SORT_GRAN", type := .int, accessFlags := 26, slot := 0, constantValue := 0 }, { name := "INSERTIONSORT_THRESHOLD", type := .int, accessFlags := 26, slot := 1, constantValue := 0 }, { name := "$assertionsDisabled", type := .boolean, accessFlags := 4120, slot := 2, constantValue := 0 }]
  methods := #[k30m0, k30m1, k30m2, k30m3]
  instanceTypes := #[]
  staticTypes := #[.int, .int, .boolean]
  resolved := Array.replicate 1029 none
  statics := none }

def pool31 : Array CpInfo := pool [(9, u "<init>"), (6, .class_ 18), (1, u "java/lang/Object"), (0, u "()V"), (1, .class_ 23), (1, u "jdk/internal/util/ArraysSupport"), (0, u "LOG2_ARRAY_LONG_INDEX_SCALE"), (0, u "I"), (2, u "U"), (0, u "Ljdk/internal/misc/Unsafe;"), (8, u "BIG_ENDIAN"), (0, u "Z"), (8, u "LOG2_BYTE_BIT_SIZE"), (4, u "LOG2_ARRAY_INT_INDEX_SCALE"), (54, u "JLA"), (0, u "Ljdk/internal/access/JavaLangAccess;"), (11, u "LOG2_ARRAY_BOOLEAN_INDEX_SCALE"), (9, u "LOG2_ARRAY_BYTE_INDEX_SCALE"), (5, u "LOG2_ARRAY_CHAR_INDEX_SCALE"), (5, u "LOG2_ARRAY_SHORT_INDEX_SCALE"), (18, u "LOG2_ARRAY_FLOAT_INDEX_SCALE"), (24, u "LOG2_ARRAY_DOUBLE_INDEX_SCALE"), (89, u "T_BOOLEAN"), (2, u "T_CHAR"), (1, u "T_FLOAT"), (1, u "T_DOUBLE"), (1, u "T_BYTE"), (1, u "T_SHORT"), (1, u "T_INT"), (1, u "T_LONG"), (1, u "SOFT_MAX_ARRAY_LENGTH")] 83

def k31m0 : Method := { name := "<init>", desc := "()V", sig := { parameters := [], returnType := none }, accessFlags := 2, code := none }
/-- jdk/internal/util/ArraysSupport -/
def k31 : Class := { plain "jdk/internal/util/ArraysSupport" (some 0) with
  accessFlags := 33
  interfaces := #[]
  cf := some (fileOf pool31 21 #[] #[{ accessFlags := 2, nameIndex := 9, descriptorIndex := 19, attributes := #[] }] 33 16 #[] #[{ accessFlags := 24, nameIndex := 28, descriptorIndex := 29, attributes := #[] }, { accessFlags := 26, nameIndex := 38, descriptorIndex := 39, attributes := #[] }, { accessFlags := 25, nameIndex := 121, descriptorIndex := 25, attributes := #[] }, { accessFlags := 25, nameIndex := 131, descriptorIndex := 25, attributes := #[] }, { accessFlags := 25, nameIndex := 137, descriptorIndex := 25, attributes := #[] }, { accessFlags := 25, nameIndex := 143, descriptorIndex := 25, attributes := #[] }, { accessFlags := 25, nameIndex := 53, descriptorIndex := 25, attributes := #[] }, { accessFlags := 25, nameIndex := 24, descriptorIndex := 25, attributes := #[] }, { accessFlags := 25, nameIndex := 162, descriptorIndex := 25, attributes := #[] }, { accessFlags := 25, nameIndex := 187, descriptorIndex := 25, attributes := #[] }, { accessFlags := 26, nameIndex := 48, descriptorIndex := 25, attributes := #[] }, { accessFlags := 25, nameIndex := 277, descriptorIndex := 25, attributes := #[] }, { accessFlags := 25, nameIndex := 280, descriptorIndex := 25, attributes := #[] }, { accessFlags := 25, nameIndex := 282, descriptorIndex := 25, attributes := #[] }, { accessFlags := 25, nameIndex := 284, descriptorIndex := 25, attributes := #[] }, { accessFlags := 25, nameIndex := 286, descriptorIndex := 25, attributes := #[] }, { accessFlags := 25, nameIndex := 288, descriptorIndex := 25, attributes := #[] }, { accessFlags := 25, nameIndex := 290, descriptorIndex := 25, attributes := #[] }, { accessFlags := 25, nameIndex := 292, descriptorIndex := 25, attributes := #[] }, { accessFlags := 26, nameIndex := 108, descriptorIndex := 109, attributes := #[] }, { accessFlags := 25, nameIndex := 294, descriptorIndex := 25, attributes := #[] }])
  fields := #[{ name := "U", type := (.object "jdk/internal/misc/Unsafe"), accessFlags := 24, slot := 0, constantValue := 0 }, { name := "BIG_ENDIAN", type := .boolean, accessFlags := 26, slot := 1, constantValue := 0 }, { name := "LOG2_ARRAY_BOOLEAN_INDEX_SCALE", type := .int, accessFlags := 25, slot := 2, constantValue := 0 }, { name := "LOG2_ARRAY_BYTE_INDEX_SCALE", type := .int, accessFlags := 25, slot := 3, constantValue := 0 }, { name := "LOG2_ARRAY_CHAR_INDEX_SCALE", type := .int, accessFlags := 25, slot := 4, constantValue := 0 }, { name := "LOG2_ARRAY_SHORT_INDEX_SCALE", type := .int, accessFlags := 25, slot := 5, constantValue := 0 }, { name := "LOG2_ARRAY_INT_INDEX_SCALE", type := .int, accessFlags := 25, slot := 6, constantValue := 0 }, { name := "LOG2_ARRAY_LONG_INDEX_SCALE", type := .int, accessFlags := 25, slot := 7, constantValue := 0 }, { name := "LOG2_ARRAY_FLOAT_INDEX_SCALE", type := .int, accessFlags := 25, slot := 8, constantValue := 0 }, { name := "LOG2_ARRAY_DOUBLE_INDEX_SCALE", type := .int, accessFlags := 25, slot := 9, constantValue := 0 }, { name := "LOG2_BYTE_BIT_SIZE", type := .int, accessFlags := 26, slot := 10, constantValue := 0 }, { name := "T_BOOLEAN", type := .int, accessFlags := 25, slot := 11, constantValue := 0 }, { name := "T_CHAR", type := .int, accessFlags := 25, slot := 12, constantValue := 0 }, { name := "T_FLOAT", type := .int, accessFlags := 25, slot := 13, constantValue := 0 }, { name := "T_DOUBLE", type := .int, accessFlags := 25, slot := 14, constantValue := 0 }, { name := "T_BYTE", type := .int, accessFlags := 25, slot := 15, constantValue := 0 }, { name := "T_SHORT", type := .int, accessFlags := 25, slot := 16, constantValue := 0 }, { name := "T_INT", type := .int, accessFlags := 25, slot := 17, constantValue := 0 }, { name := "T_LONG", type := .int, accessFlags := 25, slot := 18, constantValue := 0 }, { name := "JLA", type := (.object "jdk/internal/access/JavaLangAccess"), accessFlags := 26, slot := 19, constantValue := 0 }, { name := "SOFT_MAX_ARRAY_LENGTH", type := .int, accessFlags := 25, slot := 20, constantValue := 0 }]
  methods := #[k31m0]
  instanceTypes := #[]
  staticTypes := #[(.object "jdk/internal/misc/Unsafe"), .boolean, .int, .int, .int, .int, .int, .int, .int, .int, .int, .int, .int, .int, .int, .int, .int, .int, .int, (.object "jdk/internal/access/JavaLangAccess"), .int]
  resolved := Array.replicate 378 none
  statics := none }

/-- the primitive byte -/
def k32 : Class := { plain "byte" none with kind := .primitive 'B', accessFlags := 0x411 }
/-- [B -/
def k33 : Class := { plain "[B" (some 0) with kind := .array 32 .byte, interfaces := #[26, 2], accessFlags := 1041 }

/-- the primitive char -/
def k34 : Class := { plain "char" none with kind := .primitive 'C', accessFlags := 0x411 }
/-- [C -/
def k35 : Class := { plain "[C" (some 0) with kind := .array 34 .char, interfaces := #[26, 2], accessFlags := 1041 }

/-- the primitive int -/
def k36 : Class := { plain "int" none with kind := .primitive 'I', accessFlags := 0x411 }
/-- [I -/
def k37 : Class := { plain "[I" (some 0) with kind := .array 36 .int, interfaces := #[26, 2], accessFlags := 1041 }

/-- [Ljava/lang/Object; -/
def k38 : Class := { plain "[Ljava/lang/Object;" (some 0) with kind := .array 0 (.object "java/lang/Object"), interfaces := #[26, 2], accessFlags := 1041 }

def heap : Heap := #[{ cls := 7, slots := #[.long 0, .int 1, .null, .int 0, .null, .int 0, .int 0], vm := .statics 7 },
  { cls := 8, slots := #[.int 0, .int 8, .int 0, .int 1], vm := .statics 8 },
  { cls := 11, slots := #[.null, .null, .null], vm := .statics 11 },
  { cls := 15, slots := #[.null, .ref 7, .null, .null, .null, .null], vm := .statics 15 },
  { cls := 18, slots := #[.ref 7], vm := .statics 18 },
  { cls := 27, slots := #[.long 0, .int 0, .ref 8, .ref 9], vm := .statics 27 },
  { cls := 29, slots := #[.ref 10, .null], vm := .statics 29 },
  { cls := 18, slots := #[.null, .null, .null], vm := .none },
  { cls := 38, slots := #[], vm := .none },
  { cls := 38, slots := #[], vm := .none },
  { cls := 29, slots := #[.null, .null, .null], vm := .none }]
def classes : Array Class := #[k0, k1, k2, k3, k4, k5, k6, k7, k8, k9, k10, k11, k12, k13, k14, k15, k16, k17, k18, k19, k20, k21, k22, k23, k24, k25, k26, k27, k28, k29, k30, k31, k32, k33, k34, k35, k36, k37, k38]
def interned : List (Array UInt16 × Addr) := []
def slotsUsed : Nat := 33
def theMethod : MethodId := ⟨1, 2⟩
def args0 : Array Value := #[.int 5, .int 1, .int 7, .int 2]
def aboutOver (below : List Frame) : State where
  vm := { classes := classes, interned := interned.toArray }
  heap := heap
  slotsUsed := slotsUsed
  threads := #[{ frames := .invoking theMethod args0 :: below }]
def below0 : List Frame := [.native { method := ⟨0, 0⟩, args := #[] }]
def about1 : State := aboutOver below0
def p0 : Program := .bare "" "" ""
def e0 : Env := launch0.env 0 0 0
theorem w_frames : about1.frames = Frame.invoking theMethod args0 :: below0 := rfl
set_option maxRecDepth 65536 in
theorem w_args : argsFit about1.vm theMethod args0 = true := by decide +kernel
set_option maxRecDepth 65536 in
theorem w_heap : heapFits about1 = true := by decide +kernel
set_option maxRecDepth 65536 in
theorem w_runnable : about1.curStatus? = some .runnable := by decide +kernel
set_option maxRecDepth 65536 in
theorem w_alone : about1.alone = true := by decide +kernel
set_option maxRecDepth 65536 in
theorem w_named : about1.methodNamed? x = some theMethod := by decide +kernel
set_option maxRecDepth 65536 in
theorem w_hears : about1.hears theMethod below0 = true := by decide +kernel
set_option maxRecDepth 65536 in
theorem w_ripe : about1.ripe theMethod args0 below0 = true := by decide +kernel
theorem w_running : about1.status = .running := rfl
set_option maxRecDepth 65536 in
theorem w_room : about1.hasRoom e0.platform room_1 = true :=
  launch0.hasRoom_least _ room_1 (by decide +kernel) (by decide +kernel) (by decide +kernel) (by decide +kernel) (by decide +kernel) (by decide +kernel)
theorem allAtoms_all (ts : List Jvm.Cond) (a : Array Jvm.Value) (st : Jvm.State) : (allAtoms ts).before a st = ts.all (fun c => c.before a st) := by
  induction ts with
  | nil => rfl
  | cons c t ih =>
    show (Jvm.Cond.and c (allAtoms t)).before a st = _
    rw [Jvm.Cond.before_and, ih, List.all_cons]
def words1 : List Jvm.Cond := Jvm.Cond.code x code maxLocals ret :: tables_1
/-- a 'code' word, met by the world's own term for the bytes: nothing is compared byte by byte -/
theorem code_word {y : MethodName} {bytes : ByteArray} {mx : Nat} {rt : Option FieldType} {a : Array Value} {s : State} {m : MethodId} {meth : Method} {c : Code} (h1 : s.methodNamed? y = some m) (h2 : s.vm.method? m = some meth) (h3 : meth.code = some c) (h4 : c.code = bytes)
    (h5 : (c.maxLocals == mx && c.exceptionTable.isEmpty && decide (c.maxStack ≤ mostOperands) && decide (meth.sig.returnType = rt) && !meth.locks && decide (parseMethodDescriptor y.desc = some meth.sig)) = true) : (Jvm.Cond.code y bytes mx rt).before a s = true := by
  simp only [Bool.and_eq_true, beq_iff_eq, Bool.not_eq_true', decide_eq_true_eq] at h5
  obtain ⟨⟨⟨⟨⟨g1, g2⟩, g3⟩, g4⟩, g5⟩, g6⟩ := h5
  simp [Cond.before, Cond.holds, Cond.value, h1, h2, h3, h4, g1, g2, g3, g4, g5, g6]
theorem codeWith_word {y : MethodName} {bytes : ByteArray} {mx : Nat} {rt : Option FieldType} {hs : List (Nat × Nat × Nat × Nat)} {a : Array Value} {s : State} {m : MethodId} {meth : Method} {c : Code} (h1 : s.methodNamed? y = some m) (h2 : s.vm.method? m = some meth) (h3 : meth.code = some c) (h4 : c.code = bytes)
    (h5 : c.maxLocals = mx ∧ c.exceptionTable.toList.map (fun h => (h.startPc, h.endPc, h.handlerPc, h.catchType)) = hs ∧ c.maxStack ≤ mostOperands ∧ meth.sig.returnType = rt ∧ meth.locks = false ∧ parseMethodDescriptor y.desc = some meth.sig) : (Jvm.Cond.codeWith y bytes mx rt hs).before a s = true := by
  obtain ⟨g1, g2, g3, g4, g5, g6⟩ := h5
  subst g1 g2 g4 h4
  simp [Cond.before, Cond.holds, Cond.value, h1, h2, h3, g3, g5, g6]
def isCode : Jvm.Cond → Bool
  | .code _ _ _ _ => true
  | .codeWith _ _ _ _ _ => true
  | _ => false
theorem all_split {L : List Jvm.Cond} {P : Jvm.Cond → Bool} (h1 : L.all (fun c => isCode c || P c) = true) (h2 : ∀ c ∈ L.filter isCode, P c = true) : L.all P = true := by
  refine List.all_eq_true.mpr fun c hc => ?_
  have h := List.all_eq_true.mp h1 c hc
  rcases Bool.eq_false_or_eq_true (isCode c) with hi | hi
  · exact h2 c (List.mem_filter.mpr ⟨hc, hi⟩)
  · simpa [hi] using h
set_option maxRecDepth 65536 in
theorem w_c0 : (Jvm.Cond.code x code maxLocals ret).before args0 about1 = true := code_word (m := ⟨1, 2⟩) (meth := k1m2) (c := k1c2) (by decide +kernel) rfl rfl rfl (by decide +kernel)
set_option maxRecDepth 65536 in
theorem w_c1 : (Jvm.Cond.code ({ cls := "com/example/fields_in_tables/fieldsintables/TextBuilderIsEmptyPinLaw", name := "drawn", desc := "(III)Ljava/lang/String;" } : Jvm.MethodName) method_2_code (6 : Nat) (Option.some (Jvm.ClassFile.FieldType.object "java/lang/String"))).before args0 about1 = true := code_word (m := ⟨1, 1⟩) (meth := k1m1) (c := k1c1) (by decide +kernel) rfl rfl rfl (by decide +kernel)
set_option maxRecDepth 65536 in
theorem w_c2 : (Jvm.Cond.code ({ cls := "java/lang/String", name := "<init>", desc := "([C)V" } : Jvm.MethodName) jdk_42_method_3_code (2 : Nat) (Option.none : Option Jvm.ClassFile.FieldType)).before args0 about1 = true := code_word (m := ⟨7, 1⟩) (meth := k7m1) (c := k7c1) (by decide +kernel) rfl rfl rfl (by decide +kernel)
set_option maxRecDepth 65536 in
theorem w_c3 : (Jvm.Cond.code ({ cls := "java/lang/String", name := "<init>", desc := "([CIILjava/lang/Void;)V" } : Jvm.MethodName) jdk_42_method_149_code (6 : Nat) (Option.none : Option Jvm.ClassFile.FieldType)).before args0 about1 = true := code_word (m := ⟨7, 11⟩) (meth := k7m11) (c := k7c11) (by decide +kernel) rfl rfl rfl (by decide +kernel)
set_option maxRecDepth 65536 in
theorem w_c4 : (Jvm.Cond.code ({ cls := "java/lang/Object", name := "<init>", desc := "()V" } : Jvm.MethodName) object_method_1_code (1 : Nat) (Option.none : Option Jvm.ClassFile.FieldType)).before args0 about1 = true := code_word (m := ⟨0, 0⟩) (meth := k0m0) (c := k0c0) (by decide +kernel) rfl rfl rfl (by decide +kernel)
set_option maxRecDepth 65536 in
theorem w_c5 : (Jvm.Cond.code ({ cls := "java/lang/StringUTF16", name := "compress", desc := "([CII)[B" } : Jvm.MethodName) jdk_52_method_16_code (6 : Nat) (Option.some (Jvm.ClassFile.FieldType.array Jvm.ClassFile.FieldType.byte))).before args0 about1 = true := code_word (m := ⟨8, 8⟩) (meth := k8m8) (c := k8c8) (by decide +kernel) rfl rfl rfl (by decide +kernel)
set_option maxRecDepth 65536 in
theorem w_c6 : (Jvm.Cond.code ({ cls := "java/lang/StringUTF16", name := "compress", desc := "([CI[BII)I" } : Jvm.MethodName) jdk_52_method_21_code (7 : Nat) (Option.some Jvm.ClassFile.FieldType.int)).before args0 about1 = true := code_word (m := ⟨8, 9⟩) (meth := k8m9) (c := k8c9) (by decide +kernel) rfl rfl rfl (by decide +kernel)
set_option maxRecDepth 65536 in
theorem w_c7 : (Jvm.Cond.code ({ cls := "java/lang/StringUTF16", name := "coderFromArrayLen", desc := "([BI)B" } : Jvm.MethodName) jdk_52_method_15_code (2 : Nat) (Option.some Jvm.ClassFile.FieldType.byte)).before args0 about1 = true := code_word (m := ⟨8, 7⟩) (meth := k8m7) (c := k8c7) (by decide +kernel) rfl rfl rfl (by decide +kernel)
set_option maxRecDepth 65536 in
theorem w_c8 : (Jvm.Cond.code ({ cls := "com/example/fields_in_tables/fieldsintables/TextBuilder", name := "<init>", desc := "()V" } : Jvm.MethodName) prog_37_method_1_code (1 : Nat) (Option.none : Option Jvm.ClassFile.FieldType)).before args0 about1 = true := code_word (m := ⟨9, 0⟩) (meth := k9m0) (c := k9c0) (by decide +kernel) rfl rfl rfl (by decide +kernel)
set_option maxRecDepth 65536 in
theorem w_c9 : (Jvm.Cond.code ({ cls := "com/example/fields_in_tables/fieldsintables/TextBuilder", name := "isEmpty", desc := "()Z" } : Jvm.MethodName) prog_37_method_13_code (1 : Nat) (Option.some Jvm.ClassFile.FieldType.boolean)).before args0 about1 = true := code_word (m := ⟨9, 6⟩) (meth := k9m6) (c := k9c6) (by decide +kernel) rfl rfl rfl (by decide +kernel)
set_option maxRecDepth 65536 in
theorem w_c10 : (Jvm.Cond.code ({ cls := "com/example/fields_in_tables/fieldsintables/TextBuilder", name := "append", desc := "(Ljava/lang/String;)V" } : Jvm.MethodName) prog_37_method_3_code (2 : Nat) (Option.none : Option Jvm.ClassFile.FieldType)).before args0 about1 = true := code_word (m := ⟨9, 2⟩) (meth := k9m2) (c := k9c2) (by decide +kernel) rfl rfl rfl (by decide +kernel)
set_option maxRecDepth 65536 in
theorem w_c11 : (Jvm.Cond.code ({ cls := "java/lang/String", name := "length", desc := "()I" } : Jvm.MethodName) jdk_42_method_54_code (1 : Nat) (Option.some Jvm.ClassFile.FieldType.int)).before args0 about1 = true := code_word (m := ⟨7, 6⟩) (meth := k7m6) (c := k7c6) (by decide +kernel) rfl rfl rfl (by decide +kernel)
set_option maxRecDepth 65536 in
theorem w_c12 : (Jvm.Cond.code ({ cls := "java/lang/String", name := "coder", desc := "()B" } : Jvm.MethodName) jdk_42_method_152_code (1 : Nat) (Option.some Jvm.ClassFile.FieldType.byte)).before args0 about1 = true := code_word (m := ⟨7, 12⟩) (meth := k7m12) (c := k7c12) (by decide +kernel) rfl rfl rfl (by decide +kernel)
set_option maxRecDepth 65536 in
theorem w_c13 : (Jvm.Cond.code ({ cls := "com/example/fields_in_tables/fieldsintables/TextBuilder", name := "append", desc := "(Ljava/lang/String;II)V" } : Jvm.MethodName) prog_37_method_4_code (6 : Nat) (Option.none : Option Jvm.ClassFile.FieldType)).before args0 about1 = true := code_word (m := ⟨9, 3⟩) (meth := k9m3) (c := k9c3) (by decide +kernel) rfl rfl rfl (by decide +kernel)
set_option maxRecDepth 65536 in
theorem w_c14 : (Jvm.Cond.code ({ cls := "java/lang/String", name := "charAt", desc := "(I)C" } : Jvm.MethodName) jdk_42_method_56_code (2 : Nat) (Option.some Jvm.ClassFile.FieldType.char)).before args0 about1 = true := code_word (m := ⟨7, 7⟩) (meth := k7m7) (c := k7c7) (by decide +kernel) rfl rfl rfl (by decide +kernel)
set_option maxRecDepth 65536 in
theorem w_c15 : (Jvm.Cond.code ({ cls := "java/lang/String", name := "isLatin1", desc := "()Z" } : Jvm.MethodName) jdk_42_method_154_code (1 : Nat) (Option.some Jvm.ClassFile.FieldType.boolean)).before args0 about1 = true := code_word (m := ⟨7, 13⟩) (meth := k7m13) (c := k7c13) (by decide +kernel) rfl rfl rfl (by decide +kernel)
set_option maxRecDepth 65536 in
theorem w_c16 : (Jvm.Cond.code ({ cls := "java/lang/StringLatin1", name := "charAt", desc := "([BI)C" } : Jvm.MethodName) jdk_43_method_2_code (2 : Nat) (Option.some Jvm.ClassFile.FieldType.char)).before args0 about1 = true := code_word (m := ⟨10, 1⟩) (meth := k10m1) (c := k10c1) (by decide +kernel) rfl rfl rfl (by decide +kernel)
set_option maxRecDepth 65536 in
theorem w_c17 : (Jvm.Cond.code ({ cls := "java/lang/String", name := "checkIndex", desc := "(II)V" } : Jvm.MethodName) jdk_42_method_155_code (2 : Nat) (Option.none : Option Jvm.ClassFile.FieldType)).before args0 about1 = true := code_word (m := ⟨7, 14⟩) (meth := k7m14) (c := k7c14) (by decide +kernel) rfl rfl rfl (by decide +kernel)
set_option maxRecDepth 65536 in
theorem w_c18 : (Jvm.Cond.code ({ cls := "jdk/internal/util/Preconditions", name := "checkIndex", desc := "(IILjava/util/function/BiFunction;)I" } : Jvm.MethodName) jdk_41_method_11_code (3 : Nat) (Option.some Jvm.ClassFile.FieldType.int)).before args0 about1 = true := code_word (m := ⟨11, 1⟩) (meth := k11m1) (c := k11c1) (by decide +kernel) rfl rfl rfl (by decide +kernel)
set_option maxRecDepth 65536 in
theorem w_c19 : (Jvm.Cond.code ({ cls := "com/example/fields_in_tables/fieldsintables/TextBuilder", name := "appendKnown", desc := "(Ljava/lang/String;IIZ)V" } : Jvm.MethodName) prog_37_method_6_code (6 : Nat) (Option.none : Option Jvm.ClassFile.FieldType)).before args0 about1 = true := code_word (m := ⟨9, 4⟩) (meth := k9m4) (c := k9c4) (by decide +kernel) rfl rfl rfl (by decide +kernel)
set_option maxRecDepth 65536 in
theorem w_c20 : (Jvm.Cond.code ({ cls := "com/example/fields_in_tables/fieldsintables/TextBuilder", name := "copyLowBytes", desc := "(Ljava/lang/String;II)V" } : Jvm.MethodName) prog_37_method_15_code (4 : Nat) (Option.none : Option Jvm.ClassFile.FieldType)).before args0 about1 = true := code_word (m := ⟨9, 7⟩) (meth := k9m7) (c := k9c7) (by decide +kernel) rfl rfl rfl (by decide +kernel)
set_option maxRecDepth 65536 in
theorem w_c21 : (Jvm.Cond.code ({ cls := "java/lang/String", name := "getBytes", desc := "(II[BI)V" } : Jvm.MethodName) jdk_42_method_62_code (5 : Nat) (Option.none : Option Jvm.ClassFile.FieldType)).before args0 about1 = true := code_word (m := ⟨7, 9⟩) (meth := k7m9) (c := k7c9) (by decide +kernel) rfl rfl rfl (by decide +kernel)
set_option maxRecDepth 65536 in
theorem w_c22 : (Jvm.Cond.code ({ cls := "java/lang/String", name := "checkBoundsBeginEnd", desc := "(III)V" } : Jvm.MethodName) jdk_42_method_158_code (3 : Nat) (Option.none : Option Jvm.ClassFile.FieldType)).before args0 about1 = true := code_word (m := ⟨7, 16⟩) (meth := k7m16) (c := k7c16) (by decide +kernel) rfl rfl rfl (by decide +kernel)
set_option maxRecDepth 65536 in
theorem w_c23 : (Jvm.Cond.code ({ cls := "jdk/internal/util/Preconditions", name := "checkFromToIndex", desc := "(IIILjava/util/function/BiFunction;)I" } : Jvm.MethodName) jdk_41_method_12_code (4 : Nat) (Option.some Jvm.ClassFile.FieldType.int)).before args0 about1 = true := code_word (m := ⟨11, 2⟩) (meth := k11m2) (c := k11c2) (by decide +kernel) rfl rfl rfl (by decide +kernel)
set_option maxRecDepth 65536 in
theorem w_c24 : (Jvm.Cond.code ({ cls := "java/util/Objects", name := "requireNonNull", desc := "(Ljava/lang/Object;)Ljava/lang/Object;" } : Jvm.MethodName) jdk_31_method_10_code (1 : Nat) (Option.some (Jvm.ClassFile.FieldType.object "java/lang/Object"))).before args0 about1 = true := code_word (m := ⟨12, 1⟩) (meth := k12m1) (c := k12c1) (by decide +kernel) rfl rfl rfl (by decide +kernel)
set_option maxRecDepth 65536 in
theorem w_c25 : (Jvm.Cond.code ({ cls := "java/lang/String", name := "checkBoundsOffCount", desc := "(III)I" } : Jvm.MethodName) jdk_42_method_157_code (3 : Nat) (Option.some Jvm.ClassFile.FieldType.int)).before args0 about1 = true := code_word (m := ⟨7, 15⟩) (meth := k7m15) (c := k7c15) (by decide +kernel) rfl rfl rfl (by decide +kernel)
set_option maxRecDepth 65536 in
theorem w_c26 : (Jvm.Cond.code ({ cls := "jdk/internal/util/Preconditions", name := "checkFromIndexSize", desc := "(IIILjava/util/function/BiFunction;)I" } : Jvm.MethodName) jdk_41_method_13_code (4 : Nat) (Option.some Jvm.ClassFile.FieldType.int)).before args0 about1 = true := code_word (m := ⟨11, 3⟩) (meth := k11m3) (c := k11c3) (by decide +kernel) rfl rfl rfl (by decide +kernel)
set_option maxRecDepth 65536 in
theorem w_c27 : (Jvm.Cond.code ({ cls := "java/lang/StringLatin1", name := "getBytes", desc := "([BII[BI)V" } : Jvm.MethodName) jdk_43_method_12_code (5 : Nat) (Option.none : Option Jvm.ClassFile.FieldType)).before args0 about1 = true := code_word (m := ⟨10, 3⟩) (meth := k10m3) (c := k10c3) (by decide +kernel) rfl rfl rfl (by decide +kernel)
set_option maxRecDepth 65536 in
theorem w_c28 : (Jvm.Cond.code ({ cls := "com/example/fields_in_tables/fieldsintables/TextBuilder", name := "append", desc := "(C)V" } : Jvm.MethodName) prog_37_method_2_code (2 : Nat) (Option.none : Option Jvm.ClassFile.FieldType)).before args0 about1 = true := code_word (m := ⟨9, 1⟩) (meth := k9m1) (c := k9c1) (by decide +kernel) rfl rfl rfl (by decide +kernel)
set_option maxRecDepth 65536 in
theorem w_c29 : (Jvm.Cond.code ({ cls := "java/lang/StringUTF16", name := "toBytes", desc := "([CII)[B" } : Jvm.MethodName) jdk_52_method_14_code (5 : Nat) (Option.some (Jvm.ClassFile.FieldType.array Jvm.ClassFile.FieldType.byte))).before args0 about1 = true := code_word (m := ⟨8, 6⟩) (meth := k8m6) (c := k8c6) (by decide +kernel) rfl rfl rfl (by decide +kernel)
set_option maxRecDepth 65536 in
theorem w_c30 : (Jvm.Cond.code ({ cls := "java/lang/StringUTF16", name := "newBytesFor", desc := "(I)[B" } : Jvm.MethodName) jdk_52_method_2_code (1 : Nat) (Option.some (Jvm.ClassFile.FieldType.array Jvm.ClassFile.FieldType.byte))).before args0 about1 = true := code_word (m := ⟨8, 1⟩) (meth := k8m1) (c := k8c1) (by decide +kernel) rfl rfl rfl (by decide +kernel)
set_option maxRecDepth 65536 in
theorem w_c31 : (Jvm.Cond.code ({ cls := "java/lang/StringUTF16", name := "newBytesLength", desc := "(I)I" } : Jvm.MethodName) jdk_52_method_3_code (1 : Nat) (Option.some Jvm.ClassFile.FieldType.int)).before args0 about1 = true := code_word (m := ⟨8, 2⟩) (meth := k8m2) (c := k8c2) (by decide +kernel) rfl rfl rfl (by decide +kernel)
set_option maxRecDepth 65536 in
theorem w_c32 : (Jvm.Cond.code ({ cls := "java/lang/StringUTF16", name := "putChar", desc := "([BII)V" } : Jvm.MethodName) jdk_52_method_4_code (3 : Nat) (Option.none : Option Jvm.ClassFile.FieldType)).before args0 about1 = true := code_word (m := ⟨8, 3⟩) (meth := k8m3) (c := k8c3) (by decide +kernel) rfl rfl rfl (by decide +kernel)
set_option maxRecDepth 65536 in
theorem w_c33 : (Jvm.Cond.code ({ cls := "java/lang/StringUTF16", name := "getChar", desc := "([BI)C" } : Jvm.MethodName) jdk_52_method_5_code (2 : Nat) (Option.some Jvm.ClassFile.FieldType.char)).before args0 about1 = true := code_word (m := ⟨8, 4⟩) (meth := k8m4) (c := k8c4) (by decide +kernel) rfl rfl rfl (by decide +kernel)
set_option maxRecDepth 65536 in
theorem w_c34 : (Jvm.Cond.code ({ cls := "java/lang/StringUTF16", name := "charAt", desc := "([BI)C" } : Jvm.MethodName) jdk_52_method_83_code (2 : Nat) (Option.some Jvm.ClassFile.FieldType.char)).before args0 about1 = true := code_word (m := ⟨8, 11⟩) (meth := k8m11) (c := k8c11) (by decide +kernel) rfl rfl rfl (by decide +kernel)
set_option maxRecDepth 65536 in
theorem w_c35 : (Jvm.Cond.code ({ cls := "java/lang/StringUTF16", name := "checkIndex", desc := "(I[B)V" } : Jvm.MethodName) jdk_52_method_91_code (2 : Nat) (Option.none : Option Jvm.ClassFile.FieldType)).before args0 about1 = true := code_word (m := ⟨8, 12⟩) (meth := k8m12) (c := k8c12) (by decide +kernel) rfl rfl rfl (by decide +kernel)
set_option maxRecDepth 65536 in
theorem w_c36 : (Jvm.Cond.code ({ cls := "java/lang/StringUTF16", name := "length", desc := "([B)I" } : Jvm.MethodName) jdk_52_method_6_code (1 : Nat) (Option.some Jvm.ClassFile.FieldType.int)).before args0 about1 = true := code_word (m := ⟨8, 5⟩) (meth := k8m5) (c := k8c5) (by decide +kernel) rfl rfl rfl (by decide +kernel)
set_option maxRecDepth 65536 in
theorem w_c37 : (Jvm.Cond.code ({ cls := "com/example/fields_in_tables/fieldsintables/TextBuilder", name := "appendKnownMakingRoom", desc := "(Ljava/lang/String;IIZ)V" } : Jvm.MethodName) prog_37_method_7_code (6 : Nat) (Option.none : Option Jvm.ClassFile.FieldType)).before args0 about1 = true := code_word (m := ⟨9, 5⟩) (meth := k9m5) (c := k9c5) (by decide +kernel) rfl rfl rfl (by decide +kernel)
set_option maxRecDepth 65536 in
theorem w_c38 : (Jvm.Cond.code ({ cls := "com/example/fields_in_tables/fieldsintables/TextBuilder", name := "widen", desc := "(I)V" } : Jvm.MethodName) prog_37_method_19_code (2 : Nat) (Option.none : Option Jvm.ClassFile.FieldType)).before args0 about1 = true := code_word (m := ⟨9, 9⟩) (meth := k9m9) (c := k9c9) (by decide +kernel) rfl rfl rfl (by decide +kernel)
set_option maxRecDepth 65536 in
theorem w_c39 : (Jvm.Cond.code ({ cls := "com/example/fields_in_tables/fieldsintables/TextBuilder", name := "keepWithinChunk", desc := "(I)V" } : Jvm.MethodName) prog_37_method_21_code (2 : Nat) (Option.none : Option Jvm.ClassFile.FieldType)).before args0 about1 = true := code_word (m := ⟨9, 11⟩) (meth := k9m11) (c := k9c11) (by decide +kernel) rfl rfl rfl (by decide +kernel)
set_option maxRecDepth 65536 in
theorem w_c40 : (Jvm.Cond.code ({ cls := "com/example/fields_in_tables/fieldsintables/TextBuilder", name := "inflate", desc := "(I)V" } : Jvm.MethodName) prog_37_method_20_code (3 : Nat) (Option.none : Option Jvm.ClassFile.FieldType)).before args0 about1 = true := code_word (m := ⟨9, 10⟩) (meth := k9m10) (c := k9c10) (by decide +kernel) rfl rfl rfl (by decide +kernel)
set_option maxRecDepth 65536 in
theorem w_c41 : (Jvm.Cond.code ({ cls := "java/lang/Math", name := "max", desc := "(II)I" } : Jvm.MethodName) jdk_29_method_65_code (2 : Nat) (Option.some Jvm.ClassFile.FieldType.int)).before args0 about1 = true := code_word (m := ⟨14, 1⟩) (meth := k14m1) (c := k14c1) (by decide +kernel) rfl rfl rfl (by decide +kernel)
set_option maxRecDepth 65536 in
theorem w_cW : (Jvm.Cond.codeWith ({ cls := "java/lang/String", name := "<init>", desc := "(Ljava/nio/charset/Charset;[BII)V" } : Jvm.MethodName) jdk_42_method_11_code (11 : Nat) (Option.none : Option Jvm.ClassFile.FieldType) [((800 : Nat), (813 : Nat), (816 : Nat), (202 : Nat))]).before args0 about1 = true := codeWith_word (m := ⟨7, 5⟩) (meth := k7m5) (c := k7c5) (by decide +kernel) rfl rfl rfl (by decide +kernel)
set_option maxRecDepth 65536 in
theorem w_c42 : (Jvm.Cond.code ({ cls := "java/lang/String", name := "<init>", desc := "([BIILjava/nio/charset/Charset;)V" } : Jvm.MethodName) jdk_42_method_10_code (5 : Nat) (Option.none : Option Jvm.ClassFile.FieldType)).before args0 about1 = true := code_word (m := ⟨7, 4⟩) (meth := k7m4) (c := k7c4) (by decide +kernel) rfl rfl rfl (by decide +kernel)
set_option maxRecDepth 65536 in
theorem w_c43 : (Jvm.Cond.code ({ cls := "java/lang/String", name := "getChars", desc := "(II[CI)V" } : Jvm.MethodName) jdk_42_method_61_code (5 : Nat) (Option.none : Option Jvm.ClassFile.FieldType)).before args0 about1 = true := code_word (m := ⟨7, 8⟩) (meth := k7m8) (c := k7c8) (by decide +kernel) rfl rfl rfl (by decide +kernel)
set_option maxRecDepth 65536 in
theorem w_c44 : (Jvm.Cond.code ({ cls := "java/lang/StringLatin1", name := "getChars", desc := "([BII[CI)V" } : Jvm.MethodName) jdk_43_method_11_code (5 : Nat) (Option.none : Option Jvm.ClassFile.FieldType)).before args0 about1 = true := code_word (m := ⟨10, 2⟩) (meth := k10m2) (c := k10c2) (by decide +kernel) rfl rfl rfl (by decide +kernel)
set_option maxRecDepth 65536 in
theorem w_c45 : (Jvm.Cond.code ({ cls := "java/lang/StringLatin1", name := "inflate", desc := "([BI[CII)V" } : Jvm.MethodName) jdk_43_method_49_code (6 : Nat) (Option.none : Option Jvm.ClassFile.FieldType)).before args0 about1 = true := code_word (m := ⟨10, 4⟩) (meth := k10m4) (c := k10c4) (by decide +kernel) rfl rfl rfl (by decide +kernel)
set_option maxRecDepth 65536 in
theorem w_c46 : (Jvm.Cond.code ({ cls := "java/lang/StringUTF16", name := "getChars", desc := "([BII[CI)V" } : Jvm.MethodName) jdk_52_method_26_code (6 : Nat) (Option.none : Option Jvm.ClassFile.FieldType)).before args0 about1 = true := code_word (m := ⟨8, 10⟩) (meth := k8m10) (c := k8c10) (by decide +kernel) rfl rfl rfl (by decide +kernel)
set_option maxRecDepth 65536 in
theorem w_c47 : (Jvm.Cond.code ({ cls := "java/lang/StringUTF16", name := "checkBoundsOffCount", desc := "(II[B)V" } : Jvm.MethodName) jdk_52_method_94_code (3 : Nat) (Option.none : Option Jvm.ClassFile.FieldType)).before args0 about1 = true := code_word (m := ⟨8, 13⟩) (meth := k8m13) (c := k8c13) (by decide +kernel) rfl rfl rfl (by decide +kernel)
set_option maxRecDepth 65536 in
theorem w_c48 : (Jvm.Cond.code ({ cls := "com/example/fields_in_tables/fieldsintables/TextBuilder", name := "setChunkAside", desc := "()V" } : Jvm.MethodName) prog_37_method_22_code (1 : Nat) (Option.none : Option Jvm.ClassFile.FieldType)).before args0 about1 = true := code_word (m := ⟨9, 12⟩) (meth := k9m12) (c := k9c12) (by decide +kernel) rfl rfl rfl (by decide +kernel)
set_option maxRecDepth 65536 in
theorem w_c49 : (Jvm.Cond.code ({ cls := "com/example/fields_in_tables/fieldsintables/TextBuilder", name := "chunkText", desc := "()Ljava/lang/String;" } : Jvm.MethodName) prog_37_method_25_code (1 : Nat) (Option.some (Jvm.ClassFile.FieldType.object "java/lang/String"))).before args0 about1 = true := code_word (m := ⟨9, 15⟩) (meth := k9m15) (c := k9c15) (by decide +kernel) rfl rfl rfl (by decide +kernel)
set_option maxRecDepth 65536 in
theorem w_c50 : (Jvm.Cond.code ({ cls := "java/lang/String", name := "<init>", desc := "([CII)V" } : Jvm.MethodName) jdk_42_method_4_code (4 : Nat) (Option.none : Option Jvm.ClassFile.FieldType)).before args0 about1 = true := code_word (m := ⟨7, 2⟩) (meth := k7m2) (c := k7c2) (by decide +kernel) rfl rfl rfl (by decide +kernel)
set_option maxRecDepth 65536 in
theorem w_c51 : (Jvm.Cond.code ({ cls := "java/lang/String", name := "rangeCheck", desc := "([CII)Ljava/lang/Void;" } : Jvm.MethodName) jdk_42_method_5_code (3 : Nat) (Option.some (Jvm.ClassFile.FieldType.object "java/lang/Void"))).before args0 about1 = true := code_word (m := ⟨7, 3⟩) (meth := k7m3) (c := k7c3) (by decide +kernel) rfl rfl rfl (by decide +kernel)
set_option maxRecDepth 65536 in
theorem w_c52 : (Jvm.Cond.code ({ cls := "com/example/fields_in_tables/fieldsintables/TextBuilder", name := "setAside", desc := "(Ljava/lang/String;)V" } : Jvm.MethodName) prog_37_method_23_code (2 : Nat) (Option.none : Option Jvm.ClassFile.FieldType)).before args0 about1 = true := code_word (m := ⟨9, 13⟩) (meth := k9m13) (c := k9c13) (by decide +kernel) rfl rfl rfl (by decide +kernel)
set_option maxRecDepth 65536 in
theorem w_c53 : (Jvm.Cond.code ({ cls := "com/example/fields_in_tables/fieldsintables/TextBuilder", name := "checkLength", desc := "(I)V" } : Jvm.MethodName) prog_37_method_24_code (2 : Nat) (Option.none : Option Jvm.ClassFile.FieldType)).before args0 about1 = true := code_word (m := ⟨9, 14⟩) (meth := k9m14) (c := k9c14) (by decide +kernel) rfl rfl rfl (by decide +kernel)
set_option maxRecDepth 65536 in
theorem w_c54 : (Jvm.Cond.code ({ cls := "java/util/ArrayList", name := "<init>", desc := "()V" } : Jvm.MethodName) jdk_38_method_2_code (1 : Nat) (Option.none : Option Jvm.ClassFile.FieldType)).before args0 about1 = true := code_word (m := ⟨27, 0⟩) (meth := k27m0) (c := k27c0) (by decide +kernel) rfl rfl rfl (by decide +kernel)
set_option maxRecDepth 65536 in
theorem w_c55 : (Jvm.Cond.code ({ cls := "java/util/AbstractList", name := "<init>", desc := "()V" } : Jvm.MethodName) jdk_39_method_1_code (1 : Nat) (Option.none : Option Jvm.ClassFile.FieldType)).before args0 about1 = true := code_word (m := ⟨24, 0⟩) (meth := k24m0) (c := k24c0) (by decide +kernel) rfl rfl rfl (by decide +kernel)
set_option maxRecDepth 65536 in
theorem w_c56 : (Jvm.Cond.code ({ cls := "java/util/AbstractCollection", name := "<init>", desc := "()V" } : Jvm.MethodName) jdk_22_method_1_code (1 : Nat) (Option.none : Option Jvm.ClassFile.FieldType)).before args0 about1 = true := code_word (m := ⟨21, 0⟩) (meth := k21m0) (c := k21c0) (by decide +kernel) rfl rfl rfl (by decide +kernel)
set_option maxRecDepth 65536 in
theorem w_c57 : (Jvm.Cond.code ({ cls := "java/util/ArrayList", name := "add", desc := "(Ljava/lang/Object;)Z" } : Jvm.MethodName) jdk_38_method_25_code (2 : Nat) (Option.some Jvm.ClassFile.FieldType.boolean)).before args0 about1 = true := code_word (m := ⟨27, 4⟩) (meth := k27m4) (c := k27c4) (by decide +kernel) rfl rfl rfl (by decide +kernel)
set_option maxRecDepth 65536 in
theorem w_c58 : (Jvm.Cond.code ({ cls := "java/util/ArrayList", name := "add", desc := "(Ljava/lang/Object;[Ljava/lang/Object;I)V" } : Jvm.MethodName) jdk_38_method_24_code (4 : Nat) (Option.none : Option Jvm.ClassFile.FieldType)).before args0 about1 = true := code_word (m := ⟨27, 3⟩) (meth := k27m3) (c := k27c3) (by decide +kernel) rfl rfl rfl (by decide +kernel)
set_option maxRecDepth 65536 in
theorem w_c59 : (Jvm.Cond.code ({ cls := "java/util/ArrayList", name := "grow", desc := "()[Ljava/lang/Object;" } : Jvm.MethodName) jdk_38_method_7_code (1 : Nat) (Option.some (Jvm.ClassFile.FieldType.array (Jvm.ClassFile.FieldType.object "java/lang/Object")))).before args0 about1 = true := code_word (m := ⟨27, 2⟩) (meth := k27m2) (c := k27c2) (by decide +kernel) rfl rfl rfl (by decide +kernel)
set_option maxRecDepth 65536 in
theorem w_c60 : (Jvm.Cond.code ({ cls := "java/util/ArrayList", name := "grow", desc := "(I)[Ljava/lang/Object;" } : Jvm.MethodName) jdk_38_method_6_code (4 : Nat) (Option.some (Jvm.ClassFile.FieldType.array (Jvm.ClassFile.FieldType.object "java/lang/Object")))).before args0 about1 = true := code_word (m := ⟨27, 1⟩) (meth := k27m1) (c := k27c1) (by decide +kernel) rfl rfl rfl (by decide +kernel)
set_option maxRecDepth 65536 in
theorem w_c61 : (Jvm.Cond.code ({ cls := "java/lang/String", name := "substring", desc := "(II)Ljava/lang/String;" } : Jvm.MethodName) jdk_42_method_92_code (5 : Nat) (Option.some (Jvm.ClassFile.FieldType.object "java/lang/String"))).before args0 about1 = true := code_word (m := ⟨7, 10⟩) (meth := k7m10) (c := k7c10) (by decide +kernel) rfl rfl rfl (by decide +kernel)
set_option maxRecDepth 65536 in
theorem w_c62 : (Jvm.Cond.code ({ cls := "com/example/fields_in_tables/fieldsintables/TextBuilder", name := "appendMakingRoom", desc := "(C)V" } : Jvm.MethodName) prog_37_method_16_code (2 : Nat) (Option.none : Option Jvm.ClassFile.FieldType)).before args0 about1 = true := code_word (m := ⟨9, 8⟩) (meth := k9m8) (c := k9c8) (by decide +kernel) rfl rfl rfl (by decide +kernel)
set_option maxRecDepth 65536 in
theorem w_c63 : (Jvm.Cond.code ({ cls := "java/util/Arrays", name := "copyOfRange", desc := "([BII)[B" } : Jvm.MethodName) jdk_65_method_132_code (3 : Nat) (Option.some (Jvm.ClassFile.FieldType.array Jvm.ClassFile.FieldType.byte))).before args0 about1 = true := code_word (m := ⟨30, 2⟩) (meth := k30m2) (c := k30c2) (by decide +kernel) rfl rfl rfl (by decide +kernel)
set_option maxRecDepth 65536 in
theorem w_c64 : (Jvm.Cond.code ({ cls := "java/util/Arrays", name := "copyOfRangeByte", desc := "([BII)[B" } : Jvm.MethodName) jdk_65_method_133_code (5 : Nat) (Option.some (Jvm.ClassFile.FieldType.array Jvm.ClassFile.FieldType.byte))).before args0 about1 = true := code_word (m := ⟨30, 3⟩) (meth := k30m3) (c := k30c3) (by decide +kernel) rfl rfl rfl (by decide +kernel)
set_option maxRecDepth 65536 in
theorem w_c65 : (Jvm.Cond.code ({ cls := "java/util/Arrays", name := "checkLength", desc := "(II)V" } : Jvm.MethodName) jdk_65_method_131_code (2 : Nat) (Option.none : Option Jvm.ClassFile.FieldType)).before args0 about1 = true := code_word (m := ⟨30, 1⟩) (meth := k30m1) (c := k30c1) (by decide +kernel) rfl rfl rfl (by decide +kernel)
set_option maxRecDepth 65536 in
theorem w_c66 : (Jvm.Cond.code ({ cls := "java/lang/Math", name := "min", desc := "(II)I" } : Jvm.MethodName) jdk_29_method_69_code (2 : Nat) (Option.some Jvm.ClassFile.FieldType.int)).before args0 about1 = true := code_word (m := ⟨14, 2⟩) (meth := k14m2) (c := k14c2) (by decide +kernel) rfl rfl rfl (by decide +kernel)
def codes1 : List Jvm.Cond := [Jvm.Cond.code x code maxLocals ret, Jvm.Cond.code ({ cls := "com/example/fields_in_tables/fieldsintables/TextBuilderIsEmptyPinLaw", name := "drawn", desc := "(III)Ljava/lang/String;" } : Jvm.MethodName) method_2_code (6 : Nat) (Option.some (Jvm.ClassFile.FieldType.object "java/lang/String")), Jvm.Cond.code ({ cls := "java/lang/String", name := "<init>", desc := "([C)V" } : Jvm.MethodName) jdk_42_method_3_code (2 : Nat) (Option.none : Option Jvm.ClassFile.FieldType), Jvm.Cond.code ({ cls := "java/lang/String", name := "<init>", desc := "([CIILjava/lang/Void;)V" } : Jvm.MethodName) jdk_42_method_149_code (6 : Nat) (Option.none : Option Jvm.ClassFile.FieldType), Jvm.Cond.code ({ cls := "java/lang/Object", name := "<init>", desc := "()V" } : Jvm.MethodName) object_method_1_code (1 : Nat) (Option.none : Option Jvm.ClassFile.FieldType), Jvm.Cond.code ({ cls := "java/lang/StringUTF16", name := "compress", desc := "([CII)[B" } : Jvm.MethodName) jdk_52_method_16_code (6 : Nat) (Option.some (Jvm.ClassFile.FieldType.array Jvm.ClassFile.FieldType.byte)), Jvm.Cond.code ({ cls := "java/lang/StringUTF16", name := "compress", desc := "([CI[BII)I" } : Jvm.MethodName) jdk_52_method_21_code (7 : Nat) (Option.some Jvm.ClassFile.FieldType.int), Jvm.Cond.code ({ cls := "java/lang/StringUTF16", name := "coderFromArrayLen", desc := "([BI)B" } : Jvm.MethodName) jdk_52_method_15_code (2 : Nat) (Option.some Jvm.ClassFile.FieldType.byte), Jvm.Cond.code ({ cls := "com/example/fields_in_tables/fieldsintables/TextBuilder", name := "<init>", desc := "()V" } : Jvm.MethodName) prog_37_method_1_code (1 : Nat) (Option.none : Option Jvm.ClassFile.FieldType), Jvm.Cond.code ({ cls := "com/example/fields_in_tables/fieldsintables/TextBuilder", name := "isEmpty", desc := "()Z" } : Jvm.MethodName) prog_37_method_13_code (1 : Nat) (Option.some Jvm.ClassFile.FieldType.boolean), Jvm.Cond.code ({ cls := "com/example/fields_in_tables/fieldsintables/TextBuilder", name := "append", desc := "(Ljava/lang/String;)V" } : Jvm.MethodName) prog_37_method_3_code (2 : Nat) (Option.none : Option Jvm.ClassFile.FieldType), Jvm.Cond.code ({ cls := "java/lang/String", name := "length", desc := "()I" } : Jvm.MethodName) jdk_42_method_54_code (1 : Nat) (Option.some Jvm.ClassFile.FieldType.int), Jvm.Cond.code ({ cls := "java/lang/String", name := "coder", desc := "()B" } : Jvm.MethodName) jdk_42_method_152_code (1 : Nat) (Option.some Jvm.ClassFile.FieldType.byte), Jvm.Cond.code ({ cls := "com/example/fields_in_tables/fieldsintables/TextBuilder", name := "append", desc := "(Ljava/lang/String;II)V" } : Jvm.MethodName) prog_37_method_4_code (6 : Nat) (Option.none : Option Jvm.ClassFile.FieldType), Jvm.Cond.code ({ cls := "java/lang/String", name := "charAt", desc := "(I)C" } : Jvm.MethodName) jdk_42_method_56_code (2 : Nat) (Option.some Jvm.ClassFile.FieldType.char), Jvm.Cond.code ({ cls := "java/lang/String", name := "isLatin1", desc := "()Z" } : Jvm.MethodName) jdk_42_method_154_code (1 : Nat) (Option.some Jvm.ClassFile.FieldType.boolean), Jvm.Cond.code ({ cls := "java/lang/StringLatin1", name := "charAt", desc := "([BI)C" } : Jvm.MethodName) jdk_43_method_2_code (2 : Nat) (Option.some Jvm.ClassFile.FieldType.char), Jvm.Cond.code ({ cls := "java/lang/String", name := "checkIndex", desc := "(II)V" } : Jvm.MethodName) jdk_42_method_155_code (2 : Nat) (Option.none : Option Jvm.ClassFile.FieldType), Jvm.Cond.code ({ cls := "jdk/internal/util/Preconditions", name := "checkIndex", desc := "(IILjava/util/function/BiFunction;)I" } : Jvm.MethodName) jdk_41_method_11_code (3 : Nat) (Option.some Jvm.ClassFile.FieldType.int), Jvm.Cond.code ({ cls := "com/example/fields_in_tables/fieldsintables/TextBuilder", name := "appendKnown", desc := "(Ljava/lang/String;IIZ)V" } : Jvm.MethodName) prog_37_method_6_code (6 : Nat) (Option.none : Option Jvm.ClassFile.FieldType), Jvm.Cond.code ({ cls := "com/example/fields_in_tables/fieldsintables/TextBuilder", name := "copyLowBytes", desc := "(Ljava/lang/String;II)V" } : Jvm.MethodName) prog_37_method_15_code (4 : Nat) (Option.none : Option Jvm.ClassFile.FieldType), Jvm.Cond.code ({ cls := "java/lang/String", name := "getBytes", desc := "(II[BI)V" } : Jvm.MethodName) jdk_42_method_62_code (5 : Nat) (Option.none : Option Jvm.ClassFile.FieldType), Jvm.Cond.code ({ cls := "java/lang/String", name := "checkBoundsBeginEnd", desc := "(III)V" } : Jvm.MethodName) jdk_42_method_158_code (3 : Nat) (Option.none : Option Jvm.ClassFile.FieldType), Jvm.Cond.code ({ cls := "jdk/internal/util/Preconditions", name := "checkFromToIndex", desc := "(IIILjava/util/function/BiFunction;)I" } : Jvm.MethodName) jdk_41_method_12_code (4 : Nat) (Option.some Jvm.ClassFile.FieldType.int), Jvm.Cond.code ({ cls := "java/util/Objects", name := "requireNonNull", desc := "(Ljava/lang/Object;)Ljava/lang/Object;" } : Jvm.MethodName) jdk_31_method_10_code (1 : Nat) (Option.some (Jvm.ClassFile.FieldType.object "java/lang/Object")), Jvm.Cond.code ({ cls := "java/lang/String", name := "checkBoundsOffCount", desc := "(III)I" } : Jvm.MethodName) jdk_42_method_157_code (3 : Nat) (Option.some Jvm.ClassFile.FieldType.int), Jvm.Cond.code ({ cls := "jdk/internal/util/Preconditions", name := "checkFromIndexSize", desc := "(IIILjava/util/function/BiFunction;)I" } : Jvm.MethodName) jdk_41_method_13_code (4 : Nat) (Option.some Jvm.ClassFile.FieldType.int), Jvm.Cond.code ({ cls := "java/lang/StringLatin1", name := "getBytes", desc := "([BII[BI)V" } : Jvm.MethodName) jdk_43_method_12_code (5 : Nat) (Option.none : Option Jvm.ClassFile.FieldType), Jvm.Cond.code ({ cls := "com/example/fields_in_tables/fieldsintables/TextBuilder", name := "append", desc := "(C)V" } : Jvm.MethodName) prog_37_method_2_code (2 : Nat) (Option.none : Option Jvm.ClassFile.FieldType), Jvm.Cond.code ({ cls := "java/lang/StringUTF16", name := "toBytes", desc := "([CII)[B" } : Jvm.MethodName) jdk_52_method_14_code (5 : Nat) (Option.some (Jvm.ClassFile.FieldType.array Jvm.ClassFile.FieldType.byte)), Jvm.Cond.code ({ cls := "java/lang/StringUTF16", name := "newBytesFor", desc := "(I)[B" } : Jvm.MethodName) jdk_52_method_2_code (1 : Nat) (Option.some (Jvm.ClassFile.FieldType.array Jvm.ClassFile.FieldType.byte)), Jvm.Cond.code ({ cls := "java/lang/StringUTF16", name := "newBytesLength", desc := "(I)I" } : Jvm.MethodName) jdk_52_method_3_code (1 : Nat) (Option.some Jvm.ClassFile.FieldType.int), Jvm.Cond.code ({ cls := "java/lang/StringUTF16", name := "putChar", desc := "([BII)V" } : Jvm.MethodName) jdk_52_method_4_code (3 : Nat) (Option.none : Option Jvm.ClassFile.FieldType), Jvm.Cond.code ({ cls := "java/lang/StringUTF16", name := "getChar", desc := "([BI)C" } : Jvm.MethodName) jdk_52_method_5_code (2 : Nat) (Option.some Jvm.ClassFile.FieldType.char), Jvm.Cond.code ({ cls := "java/lang/StringUTF16", name := "charAt", desc := "([BI)C" } : Jvm.MethodName) jdk_52_method_83_code (2 : Nat) (Option.some Jvm.ClassFile.FieldType.char), Jvm.Cond.code ({ cls := "java/lang/StringUTF16", name := "checkIndex", desc := "(I[B)V" } : Jvm.MethodName) jdk_52_method_91_code (2 : Nat) (Option.none : Option Jvm.ClassFile.FieldType), Jvm.Cond.code ({ cls := "java/lang/StringUTF16", name := "length", desc := "([B)I" } : Jvm.MethodName) jdk_52_method_6_code (1 : Nat) (Option.some Jvm.ClassFile.FieldType.int), Jvm.Cond.code ({ cls := "com/example/fields_in_tables/fieldsintables/TextBuilder", name := "appendKnownMakingRoom", desc := "(Ljava/lang/String;IIZ)V" } : Jvm.MethodName) prog_37_method_7_code (6 : Nat) (Option.none : Option Jvm.ClassFile.FieldType), Jvm.Cond.code ({ cls := "com/example/fields_in_tables/fieldsintables/TextBuilder", name := "widen", desc := "(I)V" } : Jvm.MethodName) prog_37_method_19_code (2 : Nat) (Option.none : Option Jvm.ClassFile.FieldType), Jvm.Cond.code ({ cls := "com/example/fields_in_tables/fieldsintables/TextBuilder", name := "keepWithinChunk", desc := "(I)V" } : Jvm.MethodName) prog_37_method_21_code (2 : Nat) (Option.none : Option Jvm.ClassFile.FieldType), Jvm.Cond.code ({ cls := "com/example/fields_in_tables/fieldsintables/TextBuilder", name := "inflate", desc := "(I)V" } : Jvm.MethodName) prog_37_method_20_code (3 : Nat) (Option.none : Option Jvm.ClassFile.FieldType), Jvm.Cond.code ({ cls := "java/lang/Math", name := "max", desc := "(II)I" } : Jvm.MethodName) jdk_29_method_65_code (2 : Nat) (Option.some Jvm.ClassFile.FieldType.int), Jvm.Cond.code ({ cls := "java/lang/String", name := "<init>", desc := "([BIILjava/nio/charset/Charset;)V" } : Jvm.MethodName) jdk_42_method_10_code (5 : Nat) (Option.none : Option Jvm.ClassFile.FieldType), Jvm.Cond.codeWith ({ cls := "java/lang/String", name := "<init>", desc := "(Ljava/nio/charset/Charset;[BII)V" } : Jvm.MethodName) jdk_42_method_11_code (11 : Nat) (Option.none : Option Jvm.ClassFile.FieldType) [((800 : Nat), (813 : Nat), (816 : Nat), (202 : Nat))], Jvm.Cond.code ({ cls := "java/lang/String", name := "getChars", desc := "(II[CI)V" } : Jvm.MethodName) jdk_42_method_61_code (5 : Nat) (Option.none : Option Jvm.ClassFile.FieldType), Jvm.Cond.code ({ cls := "java/lang/StringLatin1", name := "getChars", desc := "([BII[CI)V" } : Jvm.MethodName) jdk_43_method_11_code (5 : Nat) (Option.none : Option Jvm.ClassFile.FieldType), Jvm.Cond.code ({ cls := "java/lang/StringLatin1", name := "inflate", desc := "([BI[CII)V" } : Jvm.MethodName) jdk_43_method_49_code (6 : Nat) (Option.none : Option Jvm.ClassFile.FieldType), Jvm.Cond.code ({ cls := "java/lang/StringUTF16", name := "getChars", desc := "([BII[CI)V" } : Jvm.MethodName) jdk_52_method_26_code (6 : Nat) (Option.none : Option Jvm.ClassFile.FieldType), Jvm.Cond.code ({ cls := "java/lang/StringUTF16", name := "checkBoundsOffCount", desc := "(II[B)V" } : Jvm.MethodName) jdk_52_method_94_code (3 : Nat) (Option.none : Option Jvm.ClassFile.FieldType), Jvm.Cond.code ({ cls := "com/example/fields_in_tables/fieldsintables/TextBuilder", name := "setChunkAside", desc := "()V" } : Jvm.MethodName) prog_37_method_22_code (1 : Nat) (Option.none : Option Jvm.ClassFile.FieldType), Jvm.Cond.code ({ cls := "com/example/fields_in_tables/fieldsintables/TextBuilder", name := "chunkText", desc := "()Ljava/lang/String;" } : Jvm.MethodName) prog_37_method_25_code (1 : Nat) (Option.some (Jvm.ClassFile.FieldType.object "java/lang/String")), Jvm.Cond.code ({ cls := "java/lang/String", name := "<init>", desc := "([CII)V" } : Jvm.MethodName) jdk_42_method_4_code (4 : Nat) (Option.none : Option Jvm.ClassFile.FieldType), Jvm.Cond.code ({ cls := "java/lang/String", name := "rangeCheck", desc := "([CII)Ljava/lang/Void;" } : Jvm.MethodName) jdk_42_method_5_code (3 : Nat) (Option.some (Jvm.ClassFile.FieldType.object "java/lang/Void")), Jvm.Cond.code ({ cls := "com/example/fields_in_tables/fieldsintables/TextBuilder", name := "setAside", desc := "(Ljava/lang/String;)V" } : Jvm.MethodName) prog_37_method_23_code (2 : Nat) (Option.none : Option Jvm.ClassFile.FieldType), Jvm.Cond.code ({ cls := "com/example/fields_in_tables/fieldsintables/TextBuilder", name := "checkLength", desc := "(I)V" } : Jvm.MethodName) prog_37_method_24_code (2 : Nat) (Option.none : Option Jvm.ClassFile.FieldType), Jvm.Cond.code ({ cls := "java/util/ArrayList", name := "<init>", desc := "()V" } : Jvm.MethodName) jdk_38_method_2_code (1 : Nat) (Option.none : Option Jvm.ClassFile.FieldType), Jvm.Cond.code ({ cls := "java/util/AbstractList", name := "<init>", desc := "()V" } : Jvm.MethodName) jdk_39_method_1_code (1 : Nat) (Option.none : Option Jvm.ClassFile.FieldType), Jvm.Cond.code ({ cls := "java/util/AbstractCollection", name := "<init>", desc := "()V" } : Jvm.MethodName) jdk_22_method_1_code (1 : Nat) (Option.none : Option Jvm.ClassFile.FieldType), Jvm.Cond.code ({ cls := "java/util/ArrayList", name := "add", desc := "(Ljava/lang/Object;)Z" } : Jvm.MethodName) jdk_38_method_25_code (2 : Nat) (Option.some Jvm.ClassFile.FieldType.boolean), Jvm.Cond.code ({ cls := "java/util/ArrayList", name := "add", desc := "(Ljava/lang/Object;[Ljava/lang/Object;I)V" } : Jvm.MethodName) jdk_38_method_24_code (4 : Nat) (Option.none : Option Jvm.ClassFile.FieldType), Jvm.Cond.code ({ cls := "java/util/ArrayList", name := "grow", desc := "()[Ljava/lang/Object;" } : Jvm.MethodName) jdk_38_method_7_code (1 : Nat) (Option.some (Jvm.ClassFile.FieldType.array (Jvm.ClassFile.FieldType.object "java/lang/Object"))), Jvm.Cond.code ({ cls := "java/util/ArrayList", name := "grow", desc := "(I)[Ljava/lang/Object;" } : Jvm.MethodName) jdk_38_method_6_code (4 : Nat) (Option.some (Jvm.ClassFile.FieldType.array (Jvm.ClassFile.FieldType.object "java/lang/Object"))), Jvm.Cond.code ({ cls := "java/lang/String", name := "substring", desc := "(II)Ljava/lang/String;" } : Jvm.MethodName) jdk_42_method_92_code (5 : Nat) (Option.some (Jvm.ClassFile.FieldType.object "java/lang/String")), Jvm.Cond.code ({ cls := "com/example/fields_in_tables/fieldsintables/TextBuilder", name := "appendMakingRoom", desc := "(C)V" } : Jvm.MethodName) prog_37_method_16_code (2 : Nat) (Option.none : Option Jvm.ClassFile.FieldType), Jvm.Cond.code ({ cls := "java/util/Arrays", name := "copyOfRange", desc := "([BII)[B" } : Jvm.MethodName) jdk_65_method_132_code (3 : Nat) (Option.some (Jvm.ClassFile.FieldType.array Jvm.ClassFile.FieldType.byte)), Jvm.Cond.code ({ cls := "java/util/Arrays", name := "copyOfRangeByte", desc := "([BII)[B" } : Jvm.MethodName) jdk_65_method_133_code (5 : Nat) (Option.some (Jvm.ClassFile.FieldType.array Jvm.ClassFile.FieldType.byte)), Jvm.Cond.code ({ cls := "java/util/Arrays", name := "checkLength", desc := "(II)V" } : Jvm.MethodName) jdk_65_method_131_code (2 : Nat) (Option.none : Option Jvm.ClassFile.FieldType), Jvm.Cond.code ({ cls := "java/lang/Math", name := "min", desc := "(II)I" } : Jvm.MethodName) jdk_29_method_69_code (2 : Nat) (Option.some Jvm.ClassFile.FieldType.int)]
set_option maxRecDepth 65536 in
theorem codes_eq : words1.filter isCode = codes1 := rfl
theorem w_codes : ∀ c ∈ words1.filter isCode, c.before args0 about1 = true := by
  rw [codes_eq]
  intro c hc
  simp only [codes1, List.mem_cons, List.not_mem_nil, or_false] at hc
  rcases hc with rfl | rfl | rfl | rfl | rfl | rfl | rfl | rfl | rfl | rfl | rfl | rfl | rfl | rfl | rfl | rfl | rfl | rfl | rfl | rfl | rfl | rfl | rfl | rfl | rfl | rfl | rfl | rfl | rfl | rfl | rfl | rfl | rfl | rfl | rfl | rfl | rfl | rfl | rfl | rfl | rfl | rfl | rfl | rfl | rfl | rfl | rfl | rfl | rfl | rfl | rfl | rfl | rfl | rfl | rfl | rfl | rfl | rfl | rfl | rfl | rfl | rfl | rfl | rfl | rfl | rfl | rfl | rfl
  · exact w_c0
  · exact w_c1
  · exact w_c2
  · exact w_c3
  · exact w_c4
  · exact w_c5
  · exact w_c6
  · exact w_c7
  · exact w_c8
  · exact w_c9
  · exact w_c10
  · exact w_c11
  · exact w_c12
  · exact w_c13
  · exact w_c14
  · exact w_c15
  · exact w_c16
  · exact w_c17
  · exact w_c18
  · exact w_c19
  · exact w_c20
  · exact w_c21
  · exact w_c22
  · exact w_c23
  · exact w_c24
  · exact w_c25
  · exact w_c26
  · exact w_c27
  · exact w_c28
  · exact w_c29
  · exact w_c30
  · exact w_c31
  · exact w_c32
  · exact w_c33
  · exact w_c34
  · exact w_c35
  · exact w_c36
  · exact w_c37
  · exact w_c38
  · exact w_c39
  · exact w_c40
  · exact w_c41
  · exact w_c42
  · exact w_cW
  · exact w_c43
  · exact w_c44
  · exact w_c45
  · exact w_c46
  · exact w_c47
  · exact w_c48
  · exact w_c49
  · exact w_c50
  · exact w_c51
  · exact w_c52
  · exact w_c53
  · exact w_c54
  · exact w_c55
  · exact w_c56
  · exact w_c57
  · exact w_c58
  · exact w_c59
  · exact w_c60
  · exact w_c61
  · exact w_c62
  · exact w_c63
  · exact w_c64
  · exact w_c65
  · exact w_c66
set_option maxRecDepth 65536 in
theorem w_t1 : (words1.take 24).all (fun c => isCode c || c.before args0 about1) = true := by decide +kernel
set_option maxRecDepth 65536 in
theorem w_t2 : ((words1.drop 24).take 24).all (fun c => isCode c || c.before args0 about1) = true := by decide +kernel
set_option maxRecDepth 65536 in
theorem w_t3 : (((words1.drop 24).drop 24).take 24).all (fun c => isCode c || c.before args0 about1) = true := by decide +kernel
set_option maxRecDepth 65536 in
theorem w_t4 : ((((words1.drop 24).drop 24).drop 24).take 24).all (fun c => isCode c || c.before args0 about1) = true := by decide +kernel
set_option maxRecDepth 65536 in
theorem w_t5 : (((((words1.drop 24).drop 24).drop 24).drop 24).take 24).all (fun c => isCode c || c.before args0 about1) = true := by decide +kernel
set_option maxRecDepth 65536 in
theorem w_t6 : ((((((words1.drop 24).drop 24).drop 24).drop 24).drop 24).take 24).all (fun c => isCode c || c.before args0 about1) = true := by decide +kernel
set_option maxRecDepth 65536 in
theorem w_t7 : (((((((words1.drop 24).drop 24).drop 24).drop 24).drop 24).drop 24).take 24).all (fun c => isCode c || c.before args0 about1) = true := by decide +kernel
set_option maxRecDepth 65536 in
theorem w_t8 : ((((((((words1.drop 24).drop 24).drop 24).drop 24).drop 24).drop 24).drop 24).take 24).all (fun c => isCode c || c.before args0 about1) = true := by decide +kernel
set_option maxRecDepth 65536 in
theorem w_t9 : (((((((((words1.drop 24).drop 24).drop 24).drop 24).drop 24).drop 24).drop 24).drop 24).take 24).all (fun c => isCode c || c.before args0 about1) = true := by decide +kernel
set_option maxRecDepth 65536 in
theorem w_t10 : ((((((((((words1.drop 24).drop 24).drop 24).drop 24).drop 24).drop 24).drop 24).drop 24).drop 24).take 24).all (fun c => isCode c || c.before args0 about1) = true := by decide +kernel
set_option maxRecDepth 65536 in
theorem w_t11 : (((((((((((words1.drop 24).drop 24).drop 24).drop 24).drop 24).drop 24).drop 24).drop 24).drop 24).drop 24).take 24).all (fun c => isCode c || c.before args0 about1) = true := by decide +kernel
set_option maxRecDepth 65536 in
theorem w_t12 : ((((((((((((words1.drop 24).drop 24).drop 24).drop 24).drop 24).drop 24).drop 24).drop 24).drop 24).drop 24).drop 24).take 24).all (fun c => isCode c || c.before args0 about1) = true := by decide +kernel
set_option maxRecDepth 65536 in
theorem w_t13 : (((((((((((((words1.drop 24).drop 24).drop 24).drop 24).drop 24).drop 24).drop 24).drop 24).drop 24).drop 24).drop 24).drop 24).take 24).all (fun c => isCode c || c.before args0 about1) = true := by decide +kernel
set_option maxRecDepth 65536 in
theorem w_t14 : (((((((((((((words1.drop 24).drop 24).drop 24).drop 24).drop 24).drop 24).drop 24).drop 24).drop 24).drop 24).drop 24).drop 24).drop 24).all (fun c => isCode c || c.before args0 about1) = true := by decide +kernel
theorem w_tables : (allAtoms (Jvm.Cond.code x code maxLocals ret :: tables_1)).before args0 about1 = true := by
  rw [allAtoms_all]
  show words1.all (fun c => c.before args0 about1) = true
  refine all_split ?_ w_codes
  rw [← List.take_append_drop 24 words1, List.all_append, w_t1, ← List.take_append_drop 24 (words1.drop 24), List.all_append, w_t2, ← List.take_append_drop 24 ((words1.drop 24).drop 24), List.all_append, w_t3, ← List.take_append_drop 24 (((words1.drop 24).drop 24).drop 24), List.all_append, w_t4, ← List.take_append_drop 24 ((((words1.drop 24).drop 24).drop 24).drop 24), List.all_append, w_t5, ← List.take_append_drop 24 (((((words1.drop 24).drop 24).drop 24).drop 24).drop 24), List.all_append, w_t6, ← List.take_append_drop 24 ((((((words1.drop 24).drop 24).drop 24).drop 24).drop 24).drop 24), List.all_append, w_t7, ← List.take_append_drop 24 (((((((words1.drop 24).drop 24).drop 24).drop 24).drop 24).drop 24).drop 24), List.all_append, w_t8, ← List.take_append_drop 24 ((((((((words1.drop 24).drop 24).drop 24).drop 24).drop 24).drop 24).drop 24).drop 24), List.all_append, w_t9, ← List.take_append_drop 24 (((((((((words1.drop 24).drop 24).drop 24).drop 24).drop 24).drop 24).drop 24).drop 24).drop 24), List.all_append, w_t10, ← List.take_append_drop 24 ((((((((((words1.drop 24).drop 24).drop 24).drop 24).drop 24).drop 24).drop 24).drop 24).drop 24).drop 24), List.all_append, w_t11, ← List.take_append_drop 24 (((((((((((words1.drop 24).drop 24).drop 24).drop 24).drop 24).drop 24).drop 24).drop 24).drop 24).drop 24).drop 24), List.all_append, w_t12, ← List.take_append_drop 24 ((((((((((((words1.drop 24).drop 24).drop 24).drop 24).drop 24).drop 24).drop 24).drop 24).drop 24).drop 24).drop 24).drop 24), List.all_append, w_t13, w_t14]
  rfl
set_option maxRecDepth 65536 in
theorem w_rest : rest_1_c.before args0 about1 = true := by decide +kernel
set_option maxRecDepth 65536 in
theorem w_case : (Jvm.Cond.and given_1 narrow_1).before args0 about1 = true := by decide +kernel
set_option maxRecDepth 65536 in
theorem w_consts : constsHeld consts_1 about1 := Jvm.Lit.constsHeldB_iff.mp (by decide +kernel)
theorem w_applies : (headSpec (Jvm.Cond.code x code maxLocals ret :: tables_1) room_1).applies x e0.platform about1 = true :=
  (Spec.applies_iff w_frames).mpr ⟨w_running, w_runnable, w_alone, w_named, w_hears, w_ripe, w_room, w_tables⟩
theorem atStart : AtStart classFile x code maxLocals ret World_1 tables_1 room_1 Calls_1 rest_1 Pre_1 launch0 p0 e0 about1 theMethod args0 below0 :=
  ⟨lists_1, trivial, launch0.admits_env _ _ _, launch0.least_env, fairChoices_fair.cas, fairChoices_fair.clock, w_frames, w_args, w_heap, w_applies, ⟨w_consts, trivial⟩, w_rest, w_case⟩
end start1
theorem witness_1 : WitnessClaimed_1 := ⟨start1.p0, start1.e0, start1.about1, start1.theMethod, start1.args0, start1.below0, start1.atStart⟩
end Jvm.Pilot.@@N@@
