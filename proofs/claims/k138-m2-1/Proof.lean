import JvmDerived
import JvmDerived.Pilot.@@N@@Statement
import JvmDerived.Pilot.@@N@@Code
set_option linter.unusedVariables false
set_option linter.unusedSimpArgs false
set_option maxRecDepth 65536
set_option maxHeartbeats 20000000
namespace Jvm.Pilot.@@N@@
open Jvm Jvm.ClassFile Sem Op Lib Jvm.Free Jvm.Stand Jvm.LawKit Jvm.RoadKit Bundle Jvm.Pilot.@@N@@.Jvm.D
section OwnKit
variable {p : Program} {l : Launch} {e : Env} {R : Room} {s : State} {m : MethodId} {args : Array Value} {below : List Frame} {meth : Method} {c : Code} {T : State} {locs : List Loc} {cells slots : Nat} {Z : State} {a0 : Array Value} {h0 : Heap}
/-- from this state the run comes to the end of the invocation, and there P holds -/
def own_G (p : Program) (e : Env) (below : List Frame) (P : Outcome → State → Prop) (st : State) : Prop :=
  ∃ (u : State) (o : Outcome), Steps p.tables e below st u ∧ u.status = .running ∧ Ended u below o ∧ P o u
theorem own_via {P : Outcome → State → Prop} {st st' : State} (k : ∀ t, Steps p.tables e below st' t → Steps p.tables e below st t) (h : own_G p e below P st') : own_G p e below P st := by
  obtain ⟨u, o, h1, h2⟩ := h
  exact ⟨u, o, k _ h1, h2⟩
/-- what a contract says of the end -/
def own_P (s : State) (Q : Option Value → Heap → List Loc → Prop) (k n : Nat) : Outcome → State → Prop := fun o u => ∃ v L, o = .returned v ∧ Q v u.heap L ∧ FrameEnd s o u L k n
/-- it returns w and leaves the heap as it was -/
def own_Q (w : Value) (h0 : Heap) : Option Value → Heap → List Loc → Prop := fun v h L => v = some w ∧ L = [] ∧ h = h0
/-- a contract -/
def own_C (l : Launch) (Z : State) (y : MethodName) (bytes : ByteArray) (maxL : Nat) (ret : Option FieldType) (ws : List Jvm.Cond) (rm : Room) (as : Array Value) (h0 : Heap) (Q : Option Value → Heap → List Loc → Prop) : Prop :=
  MetFree l y (head1 (Jvm.Cond.code y bytes maxL ret :: ws) rm) (fun a U => a = as ∧ Z.Warmed39 U.vm ∧ U.heap = h0) (fun _ _ _ _ _ => True) (fun _ U o U' => ∃ v L, o = .returned v ∧ Q v U'.heap L ∧ FrameEnd U o U' L rm.cells rm.slots)
theorem own_ret {v : Option Value} {Q : Option Value → Heap → List Loc → Prop} {k n : Nat} {st : State} (X : Stand p l e R s m args below meth c T locs cells slots) (hv : meth.sig.returnType = none → v = none) (hlocks : meth.locks = false)
    (hst : ∀ fs, (∀ (f : JFrame) (acts : List Action), f.method = m → f.locked = none → f.entered = [] → (doReturn e (T.setTop f) acts v).1 = T.setFrames fs) → Steps p.tables e below st (T.setFrames fs))
    (hQ : Q v T.heap locs) (hk : cells ≤ k) (hn : slots ≤ n) : own_G p e below (own_P s Q k n) st := by
  obtain ⟨fs, hr, hrun, hended, hW, hsame⟩ := X.leave (v := v) hv hlocks
  exact ⟨_, _, hst fs hr, hrun, hended, _, _, rfl, hQ, ⟨_, rfl⟩, hW, hsame.mono hk hn⟩
theorem own_retI {Q : Option Value → Heap → List Loc → Prop} {k n : Nat} (X : Stand p l e R s m args below meth c T locs cells slots) (hx : p.tables.exec = Jvm.exec) {pc : Nat} {Ls : Array Slot} {z : Int32} {rest : List Value} (hret : meth.sig.returnType = some .int) (hlocks : meth.locks = false) (hd : decode c.code pc = .ok (.ireturn, 1))
    (hQ : Q (some (.int z)) T.heap locs) (hk : cells ≤ k) (hn : slots ≤ n) : own_G p e below (own_P s Q k n) (T.setTop (mkF m pc Ls (.int z :: rest))) := by
  refine own_ret X (fun h => by rw [hret] at h; cases h) hlocks (fun fs hr => ?_) hQ hk hn
  have hm' : T.vm.method? m = some meth := X.method'
  have hn : narrow .int (.int z) = .int z := rfl
  show Steps p.tables e below (T.setTop { method := m, pc := pc, locals := Ls, stack := _ :: rest, locked := none }) _
  jvm_step X.here [X.here.top, hx, hd, hm', hret, hn]
  first | (intro acts; rw [hr _ acts rfl rfl rfl]) | rw [hr _ _ rfl rfl rfl]
  exact Steps.refl _
theorem own_retN {Q : Option Value → Heap → List Loc → Prop} {k n : Nat} {t : FieldType} (X : Stand p l e R s m args below meth c T locs cells slots) (hx : p.tables.exec = Jvm.exec) {pc : Nat} {Ls : Array Slot} {z : Int32} {rest : List Value} (hret : meth.sig.returnType = some t) (ht : t = .boolean ∨ t = .byte ∨ t = .char ∨ t = .short) (hlocks : meth.locks = false) (hd : decode c.code pc = .ok (.ireturn, 1))
    (hQ : Q (some (.int (nar t z))) T.heap locs) (hk : cells ≤ k) (hn : slots ≤ n) : own_G p e below (own_P s Q k n) (T.setTop (mkF m pc Ls (.int z :: rest))) :=
  own_ret X (fun h => by rw [hret] at h; cases h) hlocks (fun fs hr => retN X hx hret ht hd hr) hQ hk hn
theorem own_retL {Q : Option Value → Heap → List Loc → Prop} {k n : Nat} (X : Stand p l e R s m args below meth c T locs cells slots) (hx : p.tables.exec = Jvm.exec) {pc : Nat} {Ls : Array Slot} {z : Int64} (hret : meth.sig.returnType = some .long) (hlocks : meth.locks = false) (hd : decode c.code pc = .ok (.lreturn, 1))
    (hQ : Q (some (.long z)) T.heap locs) (hk : cells ≤ k) (hn : slots ≤ n) : own_G p e below (own_P s Q k n) (T.setTop (mkF m pc Ls [.long z])) :=
  own_ret X (fun h => by rw [hret] at h; cases h) hlocks (fun fs hr => X.lreturnOut hx hret hd hr) hQ hk hn
theorem own_retV {Q : Option Value → Heap → List Loc → Prop} {k n : Nat} (X : Stand p l e R s m args below meth c T locs cells slots) (hx : p.tables.exec = Jvm.exec) {pc : Nat} {Ls : Array Slot} (hret : meth.sig.returnType = none) (hlocks : meth.locks = false) (hd : decode c.code pc = .ok (.return_, 1))
    (hQ : Q none T.heap locs) (hk : cells ≤ k) (hn : slots ≤ n) : own_G p e below (own_P s Q k n) (T.setTop (mkF m pc Ls [])) :=
  own_ret X (fun _ => rfl) hlocks (fun fs hr => X.returnOut hx hret hd hr) hQ hk hn
theorem own_retA {Q : Option Value → Heap → List Loc → Prop} {k n : Nat} {t : FieldType} {v : Value} (X : Stand p l e R s m args below meth c T locs cells slots) (hx : p.tables.exec = Jvm.exec) {pc : Nat} {Ls : Array Slot} {rest : List Value} (hret : meth.sig.returnType = some t) (ht : t.isReference = true) (hv : v.isRef = true) (hlocks : meth.locks = false) (hd : decode c.code pc = .ok (.areturn, 1))
    (hQ : Q (some v) T.heap locs) (hk : cells ≤ k) (hn : slots ≤ n) : own_G p e below (own_P s Q k n) (T.setTop (mkF m pc Ls (v :: rest))) := by
  refine own_ret X (fun h => by rw [hret] at h; cases h) hlocks (fun fs hr => ?_) hQ hk hn
  have hm' : T.vm.method? m = some meth := X.method'
  show Steps p.tables e below (T.setTop { method := m, pc := pc, locals := Ls, stack := _ :: rest, locked := none }) _
  jvm_step X.here [X.here.top, hx, hd, hm', hret, ht, hv]
  first | (intro acts; rw [hr _ acts rfl rfl rfl]) | rw [hr _ _ rfl rfl rfl]
  exact Steps.refl _
/-- a static method by its contract -/
theorem own_callS {own : String} {index : Nat} {y : MethodName} {bytes : ByteArray} {maxL W : Nat} {ret : Option FieldType} {rm : Room} {as : Array Value} {Q : Option Value → Heap → List Loc → Prop}
    (X : Stand p l e R s m args below meth c T locs cells slots) (hx : p.tables.exec = Jvm.exec) (hZ : Z.Warmed39 s.vm) (hown : s.vm.findClass own = some m.cls)
    (w1 : (Jvm.Cond.methodLink own index y).before a0 Z = true) (w2 : (Jvm.Cond.static y).before a0 Z = true) (w3 : (Jvm.Cond.initialized y.cls).before a0 Z = true) (w4 : (Jvm.Cond.code y bytes maxL ret).before a0 Z = true)
    (hy : y.cls ≠ "java/lang/invoke/MethodHandle" ∧ y.cls ≠ "java/lang/invoke/VarHandle") (hM : own_C l Z y bytes maxL ret [] rm as h0 Q)
    (hf : rm.frames + 1 ≤ R.frames) (hl : W + (maxL + 11) + rm.locals ≤ R.locals) (hcc : cells + rm.cells ≤ R.cells) (hss : slots + rm.slots ≤ R.slots) (e0 : T.heap = h0)
    {pc : Nat} {Ls : Array Slot} {st argsL rest : List Value} (hsize : Ls.size = c.maxLocals) (hlen : ∀ sig, parseMethodDescriptor y.desc = some sig → argsL.length = sig.parameters.length) (has : argsL.toArray = as)
    (hst : st = argsL.reverse ++ rest) (hW : 2 * 0 + (rest.map fun v => v.category).sum ≤ W) (hd : decode c.code pc = .ok (.invokestatic index, 3)) :
    ∃ (v : Option Value) (T' : State) (L : List Loc), Stand p l e R s m args below meth c T' (locs ++ L) (cells + rm.cells) (slots + rm.slots) ∧ Q v T'.heap L ∧
      ∀ target, Steps p.tables e below (T'.setTop (mkF m (pc + 3) Ls (v.toList ++ rest))) target → Steps p.tables e below (T.setTop (mkF m pc Ls st)) target := by
  obtain ⟨v, _, ⟨T', L', k', n'⟩, -, X', ⟨Lc, hQ, h1, h2, h3⟩, stp⟩ := Jvm.LawKit.callS X hx (y := y) hown (mvT hZ w1) (mvT hZ w2) (mvT hZ w3) (mvT hZ w4) hy
    (backOf (W := W) hM hZ w4 w3 hf hl) (g := mkF m pc Ls st) rfl hsize (argsL := argsL) (rest := rest) hlen hst hW hd (fun _ _ => ⟨has, e0, hcc, hss⟩)
  dsimp only [Pt.U, Pt.locs, Pt.cells, Pt.slots] at X' h1 h2 h3 stp hQ
  subst h1 h2 h3
  exact ⟨v, T', Lc, X', hQ, stp⟩
/-- a static method that leaves the heap as it was -/
theorem own_callP {own : String} {index : Nat} {y : MethodName} {bytes : ByteArray} {maxL W : Nat} {ret : Option FieldType} {rm : Room} {as : Array Value} {w : Value}
    (X : Stand p l e R s m args below meth c T locs cells slots) (hx : p.tables.exec = Jvm.exec) (hZ : Z.Warmed39 s.vm) (hown : s.vm.findClass own = some m.cls)
    (w1 : (Jvm.Cond.methodLink own index y).before a0 Z = true) (w2 : (Jvm.Cond.static y).before a0 Z = true) (w3 : (Jvm.Cond.initialized y.cls).before a0 Z = true) (w4 : (Jvm.Cond.code y bytes maxL ret).before a0 Z = true)
    (hy : y.cls ≠ "java/lang/invoke/MethodHandle" ∧ y.cls ≠ "java/lang/invoke/VarHandle") (hM : own_C l Z y bytes maxL ret [] rm as h0 (own_Q w h0))
    (hf : rm.frames + 1 ≤ R.frames) (hl : W + (maxL + 11) + rm.locals ≤ R.locals) (hrc : rm.cells = 0) (hrs : rm.slots = 0) (hcc : cells + rm.cells ≤ R.cells) (hss : slots + rm.slots ≤ R.slots) (e0 : T.heap = h0)
    {pc : Nat} {Ls : Array Slot} {st argsL rest : List Value} (hsize : Ls.size = c.maxLocals) (hlen : ∀ sig, parseMethodDescriptor y.desc = some sig → argsL.length = sig.parameters.length) (has : argsL.toArray = as)
    (hst : st = argsL.reverse ++ rest) (hW : 2 * 0 + (rest.map fun v => v.category).sum ≤ W) (hd : decode c.code pc = .ok (.invokestatic index, 3)) :
    ∃ (T' : State), Stand p l e R s m args below meth c T' locs cells slots ∧ T'.heap = h0 ∧
      ∀ target, Steps p.tables e below (T'.setTop (mkF m (pc + 3) Ls (w :: rest))) target → Steps p.tables e below (T.setTop (mkF m pc Ls st)) target := by
  obtain ⟨v, T', L, X', ⟨rfl, rfl, hh⟩, stp⟩ := own_callS X hx hZ hown w1 w2 w3 w4 hy hM hf hl hcc hss e0 hsize hlen has hst hW hd
  rw [List.append_nil, hrc, hrs] at X'
  exact ⟨T', X', hh, stp⟩
theorem own_b1 {x a : Int32} (h : x < a) : x.toInt ≤ a.toInt - 1 := by rw [Int32.lt_iff_toInt_lt] at h; omega
theorem own_b2 {x a : Int32} (h : ¬ x < a) : a.toInt ≤ x.toInt := by rw [Int32.lt_iff_toInt_lt] at h; omega
theorem own_b3 {x a : Int32} (h : a < x) : a.toInt + 1 ≤ x.toInt := by rw [Int32.lt_iff_toInt_lt] at h; omega
theorem own_b4 {x a : Int32} (h : ¬ a < x) : x.toInt ≤ a.toInt := by rw [Int32.lt_iff_toInt_lt] at h; omega
theorem own_b5 {x b : Int32} {k : Int} (h : x.toInt ≤ k) (q : k < b.toInt) : x < b := by rw [Int32.lt_iff_toInt_lt]; omega
theorem own_b6 {x b : Int32} {k : Int} (h : k ≤ x.toInt) (q : b.toInt ≤ k) : ¬ x < b := by rw [Int32.lt_iff_toInt_lt]; omega
theorem own_b7 {x b : Int32} {k : Int} (h : k ≤ x.toInt) (q : b.toInt < k) : b < x := by rw [Int32.lt_iff_toInt_lt]; omega
theorem own_b8 {x b : Int32} {k : Int} (h : x.toInt ≤ k) (q : k ≤ b.toInt) : ¬ b < x := by rw [Int32.lt_iff_toInt_lt]; omega
theorem own_b9 {x b : Int32} {k : Int} (h : x.toInt ≤ k) (q : k < b.toInt) : ¬ x = b := fun e => by subst e; omega
theorem own_b10 {x b : Int32} {k : Int} (h : k ≤ x.toInt) (q : b.toInt < k) : ¬ x = b := fun e => by subst e; omega
theorem own_of_eq {x a : Int32} {P : Int32 → Prop} (h : x = a) (q : P a) : P x := h ▸ q
end OwnKit
section OwnHeap
variable {p : Program} {l : Launch} {e : Env} {R : Room} {s : State} {m : MethodId} {args : Array Value} {below : List Frame} {meth : Method} {c : Code} {T : State} {locs : List Loc} {cells slots : Nat} {Z : State} {a0 : Array Value} {h0 h : Heap} {n0 : Nat}
/-- the writes lie at or above n0, and q says the rest -/
def own_W (n0 : Nat) (q : Option Value → Heap → Prop) : Option Value → Heap → List Loc → Prop := fun v h L => Fr n0 L ∧ q v h
theorem own_newA (X : Stand p l e R s m args below meth c T locs cells slots) (hx : p.tables.exec = Jvm.exec) (hZ : Z.Warmed39 s.vm) {aty : ArrayType} (w : (Jvm.Cond.arrayClass (newarray.typeOf aty)).before a0 Z = true) (eT : T.heap = h) {pc : Nat} {Ls : Array Slot} (hd : decode c.code pc = .ok (.newarray aty, 2)) {n : Int32} {rest : List Value}
    (hn : ¬ n < 0) {cap : Nat} (hcap : n.toNatClampNeg ≤ cap) (hb : cap * 8 ≤ 536870912) (hc : cells + 1 ≤ R.cells) (hl : slots + cap ≤ R.slots) (len : Nat) {ad : String} (had : "[" ++ (newarray.typeOf aty).toString = ad) :
    ∃ T' h' k a, Stand p l e R s m args below meth c T' locs (cells + 1) (slots + cap) ∧ T'.heap = h' ∧ Ext h h' ∧ a = h.size ∧ Arv Z h' a k (newarray.typeOf aty) n (List.replicate len (defaultValue (newarray.typeOf aty))) (defaultValue (newarray.typeOf aty)) ∧ Exa Z h' a ad ∧
      ∀ target, Steps p.tables e below (T'.setTop (mkF m (pc + 2) Ls (.ref a :: rest))) target → Steps p.tables e below (T.setTop (mkF m pc Ls (.int n :: rest))) target := by
  obtain ⟨T', h', k, X', e', E, A, Ex, st⟩ := newPE X hx hZ w eT (g := mkF m pc Ls (.int n :: rest)) rfl hd rfl hn hcap hb hc hl had
  exact ⟨T', h', k, h.size, X', e', E, rfl, (Arv.new A hn).pad (fun i => by have := pad_rep [] (defaultValue (newarray.typeOf aty)) len i; rwa [List.nil_append] at this), Ex, st⟩
theorem own_stB (X : Stand p l e R s m args below meth c T locs cells slots) (N : Fr n0 locs) (hx : p.tables.exec = Jvm.exec) (hZ : Z.Warmed39 s.vm) (eT : T.heap = h) {a : Addr} {k : ClassId} {z : Int32} {vs : List Value} {d : Value} (V : Arv Z h a k .byte z vs d) (ga : n0 ≤ a) {j x : Int32} {i : Nat} (hj : ¬ j < 0 ∧ j < z) (hi : j.toNatClampNeg = i) (hl : i < vs.length)
    {pc : Nat} {Ls : Array Slot} {rest : List Value} (hd : decode c.code pc = .ok (.bastore, 1)) :
    ∃ T' h' L', Stand p l e R s m args below meth c T' L' cells slots ∧ Fr n0 L' ∧ T'.heap = h' ∧ Wr h h' a i (.int x.toInt8.toInt32) ∧ Arv Z h' a k .byte z (vs.set i (.int x.toInt8.toInt32)) d ∧
      ∀ target, Steps p.tables e below (T'.setTop (mkF m (pc + 1) Ls rest)) target → Steps p.tables e below (T.setTop (mkF m pc Ls (.int x :: .int j :: .ref a :: rest))) target := by
  obtain ⟨cl, Ar, q, S, Nn, H, G⟩ := V
  obtain ⟨T', h', X', e', W, st⟩ := stB X hx hZ eT Ar (j := j) (x := x) (inb_of S hj) (g := mkF m pc Ls (.int x :: .int j :: .ref a :: rest)) rfl rfl hd
  subst hi
  exact ⟨T', h', _, X', Fr.snoc X' N ga, e', W, Arv.set Ar q S Nn H G (fits_nar_byte x) W _ rfl hl, st⟩
theorem own_stI (X : Stand p l e R s m args below meth c T locs cells slots) (N : Fr n0 locs) (hx : p.tables.exec = Jvm.exec) (hZ : Z.Warmed39 s.vm) (eT : T.heap = h) {a : Addr} {k : ClassId} {z : Int32} {vs : List Value} {d : Value} (V : Arv Z h a k .int z vs d) (ga : n0 ≤ a) {j x : Int32} {i : Nat} (hj : ¬ j < 0 ∧ j < z) (hi : j.toNatClampNeg = i) (hl : i < vs.length)
    {pc : Nat} {Ls : Array Slot} {rest : List Value} (hd : decode c.code pc = .ok (.iastore, 1)) :
    ∃ T' h' L', Stand p l e R s m args below meth c T' L' cells slots ∧ Fr n0 L' ∧ T'.heap = h' ∧ Wr h h' a i (.int x) ∧ Arv Z h' a k .int z (vs.set i (.int x)) d ∧
      ∀ target, Steps p.tables e below (T'.setTop (mkF m (pc + 1) Ls rest)) target → Steps p.tables e below (T.setTop (mkF m pc Ls (.int x :: .int j :: .ref a :: rest))) target := by
  obtain ⟨cl, Ar, q, S, Nn, H, G⟩ := V
  obtain ⟨T', h', X', e', W, st⟩ := stI X hx hZ eT Ar (j := j) (x := x) (inb_of S hj) (g := mkF m pc Ls (.int x :: .int j :: .ref a :: rest)) rfl rfl hd
  subst hi
  exact ⟨T', h', _, X', Fr.snoc X' N ga, e', W, Arv.set Ar q S Nn H G rfl W _ rfl hl, st⟩
theorem own_stC (X : Stand p l e R s m args below meth c T locs cells slots) (N : Fr n0 locs) (hx : p.tables.exec = Jvm.exec) (hZ : Z.Warmed39 s.vm) (eT : T.heap = h) {a : Addr} {k : ClassId} {z : Int32} {vs : List Value} {d : Value} (V : Arv Z h a k .char z vs d) (ga : n0 ≤ a) {j x : Int32} {i : Nat} (hj : ¬ j < 0 ∧ j < z) (hi : j.toNatClampNeg = i) (hl : i < vs.length)
    {pc : Nat} {Ls : Array Slot} {rest : List Value} (hd : decode c.code pc = .ok (.castore, 1)) :
    ∃ T' h' L', Stand p l e R s m args below meth c T' L' cells slots ∧ Fr n0 L' ∧ T'.heap = h' ∧ Wr h h' a i (.int (nar .char x)) ∧ Arv Z h' a k .char z (vs.set i (.int (nar .char x))) d ∧
      ∀ target, Steps p.tables e below (T'.setTop (mkF m (pc + 1) Ls rest)) target → Steps p.tables e below (T.setTop (mkF m pc Ls (.int x :: .int j :: .ref a :: rest))) target := by
  obtain ⟨cl, Ar, q, S, Nn, H, G⟩ := V
  obtain ⟨T', h', X', e', W, st⟩ := stC X hx hZ eT Ar (j := j) (x := x) (inb_of S hj) (g := mkF m pc Ls (.int x :: .int j :: .ref a :: rest)) rfl rfl hd
  subst hi
  exact ⟨T', h', _, X', Fr.snoc X' N ga, e', W, Arv.set Ar q S Nn H G (fits_nar_char x) W _ rfl hl, st⟩
theorem own_ldB (X : Stand p l e R s m args below meth c T locs cells slots) (hx : p.tables.exec = Jvm.exec) (hZ : Z.Warmed39 s.vm) (eT : T.heap = h) {a : Addr} {k : ClassId} {z : Int32} {vs : List Value} {d v : Value} (V : Arv Z h a k .byte z vs d) {j : Int32} (hj : ¬ j < 0 ∧ j < z) (hv : vs.getD j.toNatClampNeg d = v)
    {pc : Nat} {Ls : Array Slot} {rest : List Value} (hd : decode c.code pc = .ok (.baload, 1)) (target : State) (hr : Steps p.tables e below (T.setTop (mkF m (pc + 1) Ls (v :: rest))) target) : Steps p.tables e below (T.setTop (mkF m pc Ls (.int j :: .ref a :: rest))) target := by
  obtain ⟨cl, Ar, q, S, Nn, H, G⟩ := V
  have hin := inb_of S hj
  refine X.baloadBytes hx (j := j) (v := v) (by rw [eT]; exact Ar.1) (State.isArrayOf_alike hZ.alike Ar.2.1) Ar.2.2 hin ?_ (g := mkF m pc Ls (.int j :: .ref a :: rest)) rfl rfl hd _ hr
  rw [H _ (Nat.lt_of_not_le fun q => hin (Or.inr q)), hv]
theorem own_ldI (X : Stand p l e R s m args below meth c T locs cells slots) (hx : p.tables.exec = Jvm.exec) (hZ : Z.Warmed39 s.vm) (eT : T.heap = h) {a : Addr} {k : ClassId} {z : Int32} {vs : List Value} {d v : Value} (V : Arv Z h a k .int z vs d) {j : Int32} (hj : ¬ j < 0 ∧ j < z) (hv : vs.getD j.toNatClampNeg d = v)
    {pc : Nat} {Ls : Array Slot} {rest : List Value} (hd : decode c.code pc = .ok (.iaload, 1)) (target : State) (hr : Steps p.tables e below (T.setTop (mkF m (pc + 1) Ls (v :: rest))) target) : Steps p.tables e below (T.setTop (mkF m pc Ls (.int j :: .ref a :: rest))) target := by
  obtain ⟨cl, Ar, q, S, Nn, H, G⟩ := V
  have hin := inb_of S hj
  refine X.iaload hx (j := j) (v := v) (by rw [eT]; exact Ar.1) (State.isArrayOf_alike hZ.alike Ar.2.1) Ar.2.2 hin ?_ (g := mkF m pc Ls (.int j :: .ref a :: rest)) rfl rfl hd _ hr
  rw [H _ (Nat.lt_of_not_le fun q => hin (Or.inr q)), hv]
theorem own_ldC (X : Stand p l e R s m args below meth c T locs cells slots) (hx : p.tables.exec = Jvm.exec) (hZ : Z.Warmed39 s.vm) (eT : T.heap = h) {a : Addr} {k : ClassId} {z : Int32} {vs : List Value} {d v : Value} (V : Arv Z h a k .char z vs d) {j : Int32} (hj : ¬ j < 0 ∧ j < z) (hv : vs.getD j.toNatClampNeg d = v)
    {pc : Nat} {Ls : Array Slot} {rest : List Value} (hd : decode c.code pc = .ok (.caload, 1)) (target : State) (hr : Steps p.tables e below (T.setTop (mkF m (pc + 1) Ls (v :: rest))) target) : Steps p.tables e below (T.setTop (mkF m pc Ls (.int j :: .ref a :: rest))) target := by
  obtain ⟨cl, Ar, q, S, Nn, H, G⟩ := V
  have hin := inb_of S hj
  refine X.caload hx (j := j) (v := v) (by rw [eT]; exact Ar.1) (State.isArrayOf_alike hZ.alike Ar.2.1) Ar.2.2 hin ?_ (g := mkF m pc Ls (.int j :: .ref a :: rest)) rfl rfl hd _ hr
  rw [H _ (Nat.lt_of_not_le fun q => hin (Or.inr q)), hv]
theorem own_len (X : Stand p l e R s m args below meth c T locs cells slots) (hx : p.tables.exec = Jvm.exec) (hZ : Z.Warmed39 s.vm) (eT : T.heap = h) {a : Addr} {k : ClassId} {ty : FieldType} {z : Int32} {vs : List Value} {d : Value} (V : Arv Z h a k ty z vs d)
    {pc : Nat} {Ls : Array Slot} {rest : List Value} (hd : decode c.code pc = .ok (.arraylength, 1)) (target : State) (hr : Steps p.tables e below (T.setTop (mkF m (pc + 1) Ls (.int z :: rest))) target) : Steps p.tables e below (T.setTop (mkF m pc Ls (.ref a :: rest))) target := by
  obtain ⟨cl, Ar, q, S, Nn, H, G⟩ := V
  refine X.arraylength hx (by rw [eT]; exact Ar.1) (State.isArrayOf_alike hZ.alike Ar.2.1) (g := mkF m pc Ls (.ref a :: rest)) rfl rfl hd _ ?_
  rw [len_of S Nn]
  exact hr
/-- an array cloned -/
theorem own_clone (X : Stand p l e R s m args below meth c T locs cells slots) (hx : p.tables.exec = Jvm.exec) (hZ : Z.Warmed39 s.vm) {own ad : String} {index : Nat} (hown : s.vm.findClass own = some m.cls)
    (w1 : (Jvm.Cond.methodLink own index ⟨ad, "clone", "()Ljava/lang/Object;"⟩).before a0 Z = true) (w2 : (Jvm.Cond.sameMethod ad "java/lang/Object" "clone" "()Ljava/lang/Object;").before a0 Z = true) (w3 : (Jvm.Cond.native ⟨"java/lang/Object", "clone", "()Ljava/lang/Object;"⟩).before a0 Z = true)
    (w4 : (Jvm.Cond.instanceMethod ⟨"java/lang/Object", "clone", "()Ljava/lang/Object;"⟩).before a0 Z = true) (w5 : (Jvm.Cond.selects ad ⟨ad, "clone", "()Ljava/lang/Object;"⟩ ⟨"java/lang/Object", "clone", "()Ljava/lang/Object;"⟩).before a0 Z = true) (w6 : (Jvm.Cond.castable ad "java/lang/Cloneable").before a0 Z = true)
    (eT : T.heap = h) {a : Addr} {k : ClassId} {ty : FieldType} {z : Int32} {vs : List Value} {dv : Value} (F : Arv Z h a k ty z vs dv) (E : Exa Z h a ad) {pc : Nat} {Ls : Array Slot} {rest : List Value} (hsize : Ls.size = c.maxLocals) (hd : decode c.code pc = .ok (.invokevirtual index, 3))
    (hf : 1 ≤ R.frames) {W cap : Nat} (hW : 2 * 0 + (rest.map fun v => v.category).sum ≤ W) (hl : W + 14 ≤ R.locals) (hcap : z.toNatClampNeg ≤ cap) (hc : cells + 1 ≤ R.cells) (hsl : slots + cap ≤ R.slots) :
    ∃ T' h' b, Stand p l e R s m args below meth c T' locs (cells + 1) (slots + cap) ∧ T'.heap = h' ∧ Ext h h' ∧ b = h.size ∧ Arv Z h' b k ty z vs dv ∧ Exa Z h' b ad ∧
      ∀ target, Steps p.tables e below (T'.setTop (mkF m (pc + 3) Ls (.ref b :: rest))) target → Steps p.tables e below (T.setTop (mkF m pc Ls (.ref a :: rest))) target := by
  obtain ⟨T', h', X', e', ex, V, E', st⟩ := cloneH X hx hZ hown w1 w2 w3 w4 w5 w6 eT F.arh E (g := mkF m pc Ls (.ref a :: rest)) rfl hsize rfl hd hf hW hl hcap hc hsl
  exact ⟨T', h', h.size, X', e', ex, rfl, V, E', st⟩
/-- a field written -/
theorem own_putF (X : Stand p l e R s m args below meth c T locs cells slots) (N : Fr n0 locs) (hx : p.tables.exec = Jvm.exec) (hZ : Z.Warmed39 s.vm) {own O n d C : String} {index kk : Nat} {ty : FieldType} (hown : s.vm.findClass own = some m.cls) (w : (Jvm.Cond.fieldLink own index O n d).before a0 Z = true)
    (eT : T.heap = h) {a : Addr} {v old : Value} (F : Fld Z h a O n d old) (E : Exa Z h a C) (L : (Jvm.Cond.lays C O n d).before a0 Z = true ∨ ((Jvm.Cond.laysFinal C O n d).before a0 Z = true ∧ own = O ∧ meth.name = "<init>")) (wi : (Jvm.Cond.instantiable C kk).before a0 Z = true) (ga : n0 ≤ a)
    (hty : parseFieldDescriptor d = some ty) (hn : narrow ty v = v) (hf : fits ty v = true) {pc : Nat} {Ls : Array Slot} {rest : List Value} (hd : decode c.code pc = .ok (.putfield index, 3)) :
    ∃ T' h' L', Stand p l e R s m args below meth c T' L' cells slots ∧ Fr n0 L' ∧ T'.heap = h' ∧ Wr h h' a (Jvm.RoadKit.slotOf Z O n d) v ∧ Fld Z h' a O n d v ∧
      ∀ target, Steps p.tables e below (T'.setTop (mkF m (pc + 3) Ls rest)) target → Steps p.tables e below (T.setTop (mkF m pc Ls (v :: .ref a :: rest))) target := by
  obtain ⟨T', h', X', e', W, st⟩ := putF X hx hZ hown (host := "") (Or.inl w) Via.refl eT F E L wi hty hn hf (g := mkF m pc Ls (v :: .ref a :: rest)) rfl rfl hd
  exact ⟨T', h', _, X', Fr.snoc X' N ga, e', W, F.same W, st⟩
theorem own_putFN (X : Stand p l e R s m args below meth c T locs cells slots) (N : Fr n0 locs) (hx : p.tables.exec = Jvm.exec) (hZ : Z.Warmed39 s.vm) {own O n d C : String} {index kk : Nat} {ty : FieldType} (hown : s.vm.findClass own = some m.cls) (w : (Jvm.Cond.fieldLink own index O n d).before a0 Z = true)
    (eT : T.heap = h) {a : Addr} {v v' old : Value} (F : Fld Z h a O n d old) (E : Exa Z h a C) (L : (Jvm.Cond.lays C O n d).before a0 Z = true ∨ ((Jvm.Cond.laysFinal C O n d).before a0 Z = true ∧ own = O ∧ meth.name = "<init>")) (wi : (Jvm.Cond.instantiable C kk).before a0 Z = true) (ga : n0 ≤ a)
    (hty : parseFieldDescriptor d = some ty) (hn : narrow ty v = v') (hf : fits ty v' = true) {pc : Nat} {Ls : Array Slot} {rest : List Value} (hd : decode c.code pc = .ok (.putfield index, 3)) :
    ∃ T' h' L', Stand p l e R s m args below meth c T' L' cells slots ∧ Fr n0 L' ∧ T'.heap = h' ∧ Wr h h' a (Jvm.RoadKit.slotOf Z O n d) v' ∧ Fld Z h' a O n d v' ∧
      ∀ target, Steps p.tables e below (T'.setTop (mkF m (pc + 3) Ls rest)) target → Steps p.tables e below (T.setTop (mkF m pc Ls (v :: .ref a :: rest))) target := by
  obtain ⟨T', h', X', e', W, st⟩ := putFN X hx hZ hown w Via.refl eT F E L wi hty hn hf (g := mkF m pc Ls (v :: .ref a :: rest)) rfl rfl hd
  exact ⟨T', h', _, X', Fr.snoc X' N ga, e', W, F.same W, st⟩
/-- new -/
theorem own_newO (X : Stand p l e R s m args below meth c T locs cells slots) (hx : p.tables.exec = Jvm.exec) (hZ : Z.Warmed39 s.vm) {own C : String} {index n : Nat} (hown : s.vm.findClass own = some m.cls) (w : (Jvm.Cond.classLink own index C).before a0 Z = true) (wi : (Jvm.Cond.instantiable C n).before a0 Z = true) (wz : (Jvm.Cond.initialized C).before a0 Z = true) (eT : T.heap = h)
    {pc : Nat} {Ls : Array Slot} {rest : List Value} (hd : decode c.code pc = .ok (.new index, 3)) (hc : cells + 1 ≤ R.cells) (hl : slots + n ≤ R.slots) :
    ∃ T' h' a, Stand p l e R s m args below meth c T' locs (cells + 1) (slots + n) ∧ T'.heap = h' ∧ Ext h h' ∧ a = h.size ∧ Exa Z h' a C ∧ (∀ {O nm d : String} {ty : FieldType}, Laid Z a0 C O nm d → parseFieldDescriptor d = some ty → Fld Z h' a O nm d (defaultValue ty)) ∧
      ∀ target, Steps p.tables e below (T'.setTop (mkF m (pc + 3) Ls (.ref a :: rest))) target → Steps p.tables e below (T.setTop (mkF m pc Ls rest)) target := by
  obtain ⟨T', h', X', e', E, A, D, -, st⟩ := newO X hx hZ hown w wi wz eT (g := mkF m pc Ls rest) rfl hd hc hl
  exact ⟨T', h', h.size, X', e', E, rfl, A, D, st⟩
/-- a static method that may write and make -/
theorem own_callSW {own : String} {index : Nat} {y : MethodName} {bytes : ByteArray} {maxL W : Nat} {ret : Option FieldType} {rm : Room} {as : Array Value} {q : Option Value → Heap → Prop}
    (X : Stand p l e R s m args below meth c T locs cells slots) (N : Fr n0 locs) (hx : p.tables.exec = Jvm.exec) (hZ : Z.Warmed39 s.vm) (hown : s.vm.findClass own = some m.cls)
    (w1 : (Jvm.Cond.methodLink own index y).before a0 Z = true) (w2 : (Jvm.Cond.static y).before a0 Z = true) (w3 : (Jvm.Cond.initialized y.cls).before a0 Z = true) (w4 : (Jvm.Cond.code y bytes maxL ret).before a0 Z = true)
    (hy : y.cls ≠ "java/lang/invoke/MethodHandle" ∧ y.cls ≠ "java/lang/invoke/VarHandle") (hM : own_C l Z y bytes maxL ret [] rm as h (own_W n0 q))
    (hf : rm.frames + 1 ≤ R.frames) (hl : W + (maxL + 11) + rm.locals ≤ R.locals) (hcc : cells + rm.cells ≤ R.cells) (hss : slots + rm.slots ≤ R.slots) (e0 : T.heap = h)
    {pc : Nat} {Ls : Array Slot} {st argsL rest : List Value} (hsize : Ls.size = c.maxLocals) (hlen : ∀ sig, parseMethodDescriptor y.desc = some sig → argsL.length = sig.parameters.length) (has : argsL.toArray = as)
    (hst : st = argsL.reverse ++ rest) (hW : 2 * 0 + (rest.map fun v => v.category).sum ≤ W) (hd : decode c.code pc = .ok (.invokestatic index, 3)) :
    ∃ (v : Option Value) (T' : State) (h' : Heap) (L' : List Loc), Stand p l e R s m args below meth c T' L' (cells + rm.cells) (slots + rm.slots) ∧ Fr n0 L' ∧ T'.heap = h' ∧ q v h' ∧
      ∀ target, Steps p.tables e below (T'.setTop (mkF m (pc + 3) Ls (v.toList ++ rest))) target → Steps p.tables e below (T.setTop (mkF m pc Ls st)) target := by
  obtain ⟨v, T', L, X', ⟨N', hq⟩, stp⟩ := own_callS X hx hZ hown w1 w2 w3 w4 hy hM hf hl hcc hss e0 hsize hlen has hst hW hd
  exact ⟨v, T', _, _, X', N.app N', rfl, hq, stp⟩
/-- a constructor by its contract -/
theorem own_callI {own : String} {index : Nat} {y : MethodName} {bytes : ByteArray} {maxL W : Nat} {rm : Room} {as : Array Value} {q : Option Value → Heap → Prop} {a : Addr}
    (X : Stand p l e R s m args below meth c T locs cells slots) (N : Fr n0 locs) (hx : p.tables.exec = Jvm.exec) (hZ : Z.Warmed39 s.vm) (hy1 : y.name = "<init>") (hown : s.vm.findClass own = some m.cls)
    (w1 : (Jvm.Cond.methodLink own index y).before a0 Z = true) (w2 : (Jvm.Cond.instanceMethod y).before a0 Z = true) (w3 : (Jvm.Cond.initialized y.cls).before a0 Z = true) (w4 : (Jvm.Cond.code y bytes maxL none).before a0 Z = true)
    (hy : y.cls ≠ "java/lang/invoke/MethodHandle" ∧ y.cls ≠ "java/lang/invoke/VarHandle") (hM : own_C l Z y bytes maxL none [] rm as h (own_W n0 q))
    (hf : rm.frames + 1 ≤ R.frames) (hl : W + (maxL + 11) + rm.locals ≤ R.locals) (hcc : cells + rm.cells ≤ R.cells) (hss : slots + rm.slots ≤ R.slots) (e0 : T.heap = h)
    {pc : Nat} {Ls : Array Slot} {st argsL rest : List Value} (hsize : Ls.size = c.maxLocals) (hlen : ∀ sig, parseMethodDescriptor y.desc = some sig → argsL.length = sig.parameters.length) (has : (Value.ref a :: argsL).toArray = as)
    (hst : st = argsL.reverse ++ .ref a :: rest) (hW : 2 * 0 + (rest.map fun v => v.category).sum ≤ W) (hd : decode c.code pc = .ok (.invokespecial index, 3)) :
    ∃ (v : Option Value) (T' : State) (h' : Heap) (L' : List Loc), Stand p l e R s m args below meth c T' L' (cells + rm.cells) (slots + rm.slots) ∧ Fr n0 L' ∧ T'.heap = h' ∧ q v h' ∧
      ∀ target, Steps p.tables e below (T'.setTop (mkF m (pc + 3) Ls (v.toList ++ rest))) target → Steps p.tables e below (T.setTop (mkF m pc Ls st)) target := by
  obtain ⟨v, _, ⟨T', L', k', n'⟩, -, X', ⟨Lc, ⟨N', hq⟩, h1, h2, h3⟩, stp⟩ := X.specialBack hx (y := y) hy1 hown (mvT hZ w1) (mvT hZ w2) (mvT hZ w4) hy
    (backOf (W := W) hM hZ w4 w3 hf hl) (g := mkF m pc Ls st) rfl hsize (Steps.refl _) (a := a) (argsL := argsL) (rest := rest) hlen hst hW hd (fun _ _ => ⟨has, e0, hcc, hss⟩)
  dsimp only [Pt.U, Pt.locs, Pt.cells, Pt.slots] at X' h1 h2 h3 stp hq
  subst h1 h2 h3
  exact ⟨v, T', _, _, X', N.app N', rfl, hq, fun t k => stp.trans k⟩
/-- an instance method by its contract -/
theorem own_callV {own C : String} {index : Nat} {y z : MethodName} {bytes : ByteArray} {maxL W : Nat} {ret : Option FieldType} {rm : Room} {as : Array Value} {q : Option Value → Heap → Prop} {a : Addr}
    (X : Stand p l e R s m args below meth c T locs cells slots) (N : Fr n0 locs) (hx : p.tables.exec = Jvm.exec) (hZ : Z.Warmed39 s.vm) (hown : s.vm.findClass own = some m.cls)
    (w1 : (Jvm.Cond.methodLink own index y).before a0 Z = true) (w2 : (Jvm.Cond.declares y).before a0 Z = true) (hnf : NotFace s y) (ws : (Jvm.Cond.selects C y z).before a0 Z = true) (wi : (Jvm.Cond.instanceMethod z).before a0 Z = true) (w3 : (Jvm.Cond.initialized z.cls).before a0 Z = true) (w4 : (Jvm.Cond.code z bytes maxL ret).before a0 Z = true)
    (hy : y.cls ≠ "java/lang/invoke/MethodHandle" ∧ y.cls ≠ "java/lang/invoke/VarHandle") (hM : own_C l Z z bytes maxL ret [] rm as h (own_W n0 q))
    (hf : rm.frames + 1 ≤ R.frames) (hl : W + (maxL + 11) + rm.locals ≤ R.locals) (hcc : cells + rm.cells ≤ R.cells) (hss : slots + rm.slots ≤ R.slots) (e0 : T.heap = h) (E : Exa Z h a C)
    {pc : Nat} {Ls : Array Slot} {st argsL rest : List Value} (hsize : Ls.size = c.maxLocals) (hlen : ∀ sig, parseMethodDescriptor y.desc = some sig → argsL.length = sig.parameters.length) (has : (Value.ref a :: argsL).toArray = as)
    (hst : st = argsL.reverse ++ .ref a :: rest) (hW : 2 * 0 + (rest.map fun v => v.category).sum ≤ W) (hd : decode c.code pc = .ok (.invokevirtual index, 3)) :
    ∃ (v : Option Value) (T' : State) (h' : Heap) (L' : List Loc), Stand p l e R s m args below meth c T' L' (cells + rm.cells) (slots + rm.slots) ∧ Fr n0 L' ∧ T'.heap = h' ∧ q v h' ∧
      ∀ target, Steps p.tables e below (T'.setTop (mkF m (pc + 3) Ls (v.toList ++ rest))) target → Steps p.tables e below (T.setTop (mkF m pc Ls st)) target := by
  obtain ⟨cq, kq, qa, qb, qc⟩ := isOf hZ e0 E
  obtain ⟨v, _, ⟨T', L', k', n'⟩, -, X', ⟨Lc, ⟨N', hq⟩, h1, h2, h3⟩, stp⟩ := X.virtualBack hx (y := y) (z := z) hown (mvT hZ w1) (mvT hZ w2) hnf (mvT hZ ws) (mvT hZ wi) hy
    (backOf (W := W) hM hZ w4 w3 hf hl) qa qc (g := mkF m pc Ls st) rfl hsize (Steps.refl _) (argsL := argsL) (rest := rest) hlen hst hW hd (fun _ _ => ⟨has, e0, hcc, hss⟩)
  dsimp only [Pt.U, Pt.locs, Pt.cells, Pt.slots] at X' h1 h2 h3 stp hq
  subst h1 h2 h3
  exact ⟨v, T', _, _, X', N.app N', rfl, hq, fun t k => stp.trans k⟩
/-- an instance method that leaves the heap as it was -/
theorem own_callVP {own C : String} {index : Nat} {y z : MethodName} {bytes : ByteArray} {maxL W : Nat} {ret : Option FieldType} {rm : Room} {as : Array Value} {w : Value} {a : Addr}
    (X : Stand p l e R s m args below meth c T locs cells slots) (hx : p.tables.exec = Jvm.exec) (hZ : Z.Warmed39 s.vm) (hown : s.vm.findClass own = some m.cls)
    (w1 : (Jvm.Cond.methodLink own index y).before a0 Z = true) (w2 : (Jvm.Cond.declares y).before a0 Z = true) (hnf : NotFace s y) (ws : (Jvm.Cond.selects C y z).before a0 Z = true) (wi : (Jvm.Cond.instanceMethod z).before a0 Z = true) (w3 : (Jvm.Cond.initialized z.cls).before a0 Z = true) (w4 : (Jvm.Cond.code z bytes maxL ret).before a0 Z = true)
    (hy : y.cls ≠ "java/lang/invoke/MethodHandle" ∧ y.cls ≠ "java/lang/invoke/VarHandle") (hM : own_C l Z z bytes maxL ret [] rm as h (own_Q w h))
    (hf : rm.frames + 1 ≤ R.frames) (hl : W + (maxL + 11) + rm.locals ≤ R.locals) (hrc : rm.cells = 0) (hrs : rm.slots = 0) (hcc : cells + rm.cells ≤ R.cells) (hss : slots + rm.slots ≤ R.slots) (e0 : T.heap = h) (E : Exa Z h a C)
    {pc : Nat} {Ls : Array Slot} {st argsL rest : List Value} (hsize : Ls.size = c.maxLocals) (hlen : ∀ sig, parseMethodDescriptor y.desc = some sig → argsL.length = sig.parameters.length) (has : (Value.ref a :: argsL).toArray = as)
    (hst : st = argsL.reverse ++ .ref a :: rest) (hW : 2 * 0 + (rest.map fun v => v.category).sum ≤ W) (hd : decode c.code pc = .ok (.invokevirtual index, 3)) :
    ∃ (T' : State), Stand p l e R s m args below meth c T' locs cells slots ∧ T'.heap = h ∧
      ∀ target, Steps p.tables e below (T'.setTop (mkF m (pc + 3) Ls (w :: rest))) target → Steps p.tables e below (T.setTop (mkF m pc Ls st)) target := by
  obtain ⟨cq, kq, qa, qb, qc⟩ := isOf hZ e0 E
  obtain ⟨v, _, ⟨T', L', k', n'⟩, -, X', ⟨Lc, ⟨rfl, rfl, hh⟩, h1, h2, h3⟩, stp⟩ := X.virtualBack hx (y := y) (z := z) hown (mvT hZ w1) (mvT hZ w2) hnf (mvT hZ ws) (mvT hZ wi) hy
    (backOf (W := W) hM hZ w4 w3 hf hl) qa qc (g := mkF m pc Ls st) rfl hsize (Steps.refl _) (argsL := argsL) (rest := rest) hlen hst hW hd (fun _ _ => ⟨has, e0, hcc, hss⟩)
  dsimp only [Pt.U, Pt.locs, Pt.cells, Pt.slots] at X' h1 h2 h3 stp hh
  subst h1 h2 h3
  rw [List.append_nil, hrc, hrs] at X'
  exact ⟨T', X', hh, fun t k => stp.trans k⟩
theorem own_ke {h h' : Heap} (K : Keep h h' []) : Ext h h' := ⟨K.1, fun a c q => K.2.1 a c q (by simp)⟩
theorem own_ldA (X : Stand p l e R s m args below meth c T locs cells slots) (hx : p.tables.exec = Jvm.exec) (hZ : Z.Warmed39 s.vm) (eT : T.heap = h) {a : Addr} {k : ClassId} {ty : FieldType} {z : Int32} {vs : List Value} {d v : Value} (V : Arv Z h a k ty z vs d) (hty : ty.isReference = true) {j : Int32} (hj : ¬ j < 0 ∧ j < z) (hv : vs.getD j.toNatClampNeg d = v)
    {pc : Nat} {Ls : Array Slot} {rest : List Value} (hd : decode c.code pc = .ok (.aaload, 1)) (target : State) (hr : Steps p.tables e below (T.setTop (mkF m (pc + 1) Ls (v :: rest))) target) : Steps p.tables e below (T.setTop (mkF m pc Ls (.int j :: .ref a :: rest))) target := by
  obtain ⟨cl, Ar, q, S, Nn, H, G⟩ := V
  have hin := inb_of S hj
  refine X.aaload hx (j := j) (v := v) (by rw [eT]; exact Ar.1) (State.isArrayOf_alike hZ.alike Ar.2.1) hty Ar.2.2 hin ?_ (g := mkF m pc Ls (.int j :: .ref a :: rest)) rfl rfl hd _ hr
  rw [H _ (Nat.lt_of_not_le fun q => hin (Or.inr q)), hv]
end OwnHeap
theorem own_pd0 : parseMethodDescriptor "()V" = some ⟨[], none⟩ := by decide +kernel
theorem own_pd1 : parseMethodDescriptor "(I)[B" = some ⟨[.int], some (.array .byte)⟩ := by decide +kernel
theorem own_pd2 : parseMethodDescriptor "(II)I" = some ⟨[.int, .int], some .int⟩ := by decide +kernel
theorem own_pd3 : parseMethodDescriptor "()Z" = some ⟨[], some .boolean⟩ := by decide +kernel
theorem own_m1023 (p : Int32) : ¬ (p &&& (1023 : Int32)) < 0 ∧ (p &&& (1023 : Int32)).toNatClampNeg ≤ 1023 := by
  have h := c_mask p 1023 10 (by decide) (by decide)
  refine ⟨?_, ?_⟩
  · rw [Int32.lt_iff_toInt_lt, show (0 : Int32).toInt = 0 from rfl]; omega
  · simp only [Int32.toNatClampNeg]; omega
theorem own_d4_0 : decode jdk_29_method_65_code 0 = .ok (.iload_n 0, 1) := by decide +kernel
theorem own_d4_1 : decode jdk_29_method_65_code 1 = .ok (.iload_n 1, 1) := by decide +kernel
theorem own_d4_2 : decode jdk_29_method_65_code 2 = .ok (.if_icmp .lt 7, 3) := by decide +kernel
theorem own_d4_5 : decode jdk_29_method_65_code 5 = .ok (.iload_n 0, 1) := by decide +kernel
theorem own_d4_6 : decode jdk_29_method_65_code 6 = .ok (.goto 4, 3) := by decide +kernel
theorem own_d4_9 : decode jdk_29_method_65_code 9 = .ok (.iload_n 1, 1) := by decide +kernel
theorem own_d4_10 : decode jdk_29_method_65_code 10 = .ok (.ireturn, 1) := by decide +kernel
abbrev own_R4 : Room := { frames := 0, cells := 0, slots := 0, locals := 0 }
theorem own_pn4 : plainFor (⟨"java/lang/Math", "max", "(II)I"⟩ : MethodName) = true := Jvm.Free.JP.mathPlain rfl (by decide +kernel)
theorem own_ef4 (m : MethodId) (p0 : Int32) (p1 : Int32) : entryFrame m #[(.int p0), (.int p1)] 2 = mkF m 0 #[.val (.int p0), .val (.int p1)] [] := by first | (simp [entryFrame, mkF, argsToLocals, Value.category]; done) | rfl
def own_F4 (p0 : Int32) (p1 : Int32) : Int32 := (if p0 < p1 then p1 else p0)
set_option maxRecDepth 65536 in
set_option maxHeartbeats 40000000 in
theorem own_rm4 (l : Launch) (Z : State) (a0 : Array Value) (hw : ∀ d ∈ tables_1, d.before a0 Z = true) (ws : List Jvm.Cond) (p0 : Int32) (p1 : Int32) (h0 : Heap) :
    own_C l Z (⟨"java/lang/Math", "max", "(II)I"⟩ : MethodName) jdk_29_method_65_code 2 (some .int) ws own_R4 #[(.int p0), (.int p1)] h0 (own_Q (.int (own_F4 p0 p1)) h0) := by
  refine MetFree.of_bodySF own_pn4 hisR ?_
  intro p e s m args below meth c s₁ Bd hml0 hP hK
  obtain ⟨rfl, hZ, hh⟩ := hP
  have hx := Bd.exec
  have hby := Bd.bytes
  have hml : c.maxLocals = 2 := hml0
  have hown : s.vm.findClass "java/lang/Math" = some m.cls := findClass_of_methodNamed Bd.named
  have X0 : Stand p l e own_R4 s m #[(.int p0), (.int p1)] below meth c s₁ [] 0 0 := Stand.of_body Bd
  have e0 : s₁.heap = h0 := by rw [← hh, Bd.state]; rfl
  show own_G p e below (own_P s (own_Q (.int (own_F4 p0 p1)) h0) own_R4.cells own_R4.slots) (s₁.setTop (entryFrame m #[(.int p0), (.int p1)] 2))
  rw [own_ef4 m p0 p1]
  show own_G p e below _ (s₁.setTop (mkF m 0 #[.val (.int p0), .val (.int p1)] []))
  refine own_via (fun t k => XS.iloadN X0.here hx rfl (hb hby own_d4_0) rfl k) ?_
  show own_G p e below _ (s₁.setTop (mkF m 1 #[.val (.int p0), .val (.int p1)] [(.int p0)]))
  refine own_via (fun t k => XS.iloadN X0.here hx rfl (hb hby own_d4_1) rfl k) ?_
  show own_G p e below _ (s₁.setTop (mkF m 2 #[.val (.int p0), .val (.int p1)] [(.int p1), (.int p0)]))
  by_cases hc1 : p0 < p1
  ·
    refine own_via (fun t k => XS.icmpYes X0.here hx rfl (pc0 := 2) (pc' := 9) rfl (hb hby own_d4_2) rfl (tlt hc1).1 (by decide) (by decide) k) ?_
    show own_G p e below _ (s₁.setTop (mkF m 9 #[.val (.int p0), .val (.int p1)] []))
    refine own_via (fun t k => XS.iloadN X0.here hx rfl (hb hby own_d4_9) rfl k) ?_
    show own_G p e below _ (s₁.setTop (mkF m 10 #[.val (.int p0), .val (.int p1)] [(.int p1)]))
    exact own_retI X0 hx Bd.returns Bd.notSynchronized (hb hby own_d4_10) ⟨by show (some (.int p1) : Option Value) = some (.int (own_F4 p0 p1)); simp only [own_F4, if_pos hc1], rfl, e0⟩ (by decide) (by decide)
  ·
    refine own_via (fun t k => XS.icmpNo X0.here hx rfl (hb hby own_d4_2) rfl (flt hc1).1 k) ?_
    show own_G p e below _ (s₁.setTop (mkF m 5 #[.val (.int p0), .val (.int p1)] []))
    refine own_via (fun t k => XS.iloadN X0.here hx rfl (hb hby own_d4_5) rfl k) ?_
    show own_G p e below _ (s₁.setTop (mkF m 6 #[.val (.int p0), .val (.int p1)] [(.int p0)]))
    refine own_via (fun t k => XS.goto X0.here hx rfl (pc0 := 6) (pc' := 10) rfl (hb hby own_d4_6) (by decide) (by decide) k) ?_
    show own_G p e below _ (s₁.setTop (mkF m 10 #[.val (.int p0), .val (.int p1)] [(.int p0)]))
    exact own_retI X0 hx Bd.returns Bd.notSynchronized (hb hby own_d4_10) ⟨by show (some (.int p0) : Option Value) = some (.int (own_F4 p0 p1)); simp only [own_F4, if_neg hc1], rfl, e0⟩ (by decide) (by decide)
theorem own_d1_0 : decode prog_37_method_1_code 0 = .ok (.aload_n 0, 1) := by decide +kernel
theorem own_d1_1 : decode prog_37_method_1_code 1 = .ok (.invokespecial 3, 3) := by decide +kernel
theorem own_d1_4 : decode prog_37_method_1_code 4 = .ok (.aload_n 0, 1) := by decide +kernel
theorem own_d1_5 : decode prog_37_method_1_code 5 = .ok (.bipush 64, 2) := by decide +kernel
theorem own_d1_7 : decode prog_37_method_1_code 7 = .ok (.newarray .byte, 2) := by decide +kernel
theorem own_d1_9 : decode prog_37_method_1_code 9 = .ok (.putfield 9, 3) := by decide +kernel
theorem own_d1_12 : decode prog_37_method_1_code 12 = .ok (.return_, 1) := by decide +kernel
abbrev own_init_R : Room := { frames := 1, cells := 1, slots := 64, locals := 12 }
theorem own_pn1 : plainFor (⟨"com/example/fields_in_tables/fieldsintables/TextBuilder", "<init>", "()V"⟩ : MethodName) = true := plainFor_of_name (by first | (simp [plainName, overriddenIn]; done) | decide +kernel)
theorem own_init_ef (m : MethodId) (a1 : Addr) : entryFrame m #[(.ref a1)] 1 = mkF m 0 #[.val (.ref a1)] [] := by first | (simp [entryFrame, mkF, argsToLocals, Value.category]; done) | rfl
def own_init_q (Z : State) (a1 : Addr) (u1 : Value) (u2 : Value) (u3 : Value) (u4 : Value) (h0 : Heap) (v : Option Value) (h : Heap) : Prop := v = none ∧ Keep h0 h [a1] ∧ Exa Z h a1 "com/example/fields_in_tables/fieldsintables/TextBuilder" ∧ Fld Z h a1 "com/example/fields_in_tables/fieldsintables/TextBuilder" "asciiScratch" "[B" u1 ∧ Fld Z h a1 "com/example/fields_in_tables/fieldsintables/TextBuilder" "setAsideLength" "J" u2 ∧ Fld Z h a1 "com/example/fields_in_tables/fieldsintables/TextBuilder" "length" "I" u3
set_option maxRecDepth 65536 in
set_option maxHeartbeats 40000000 in
theorem own_init (l : Launch) (Z : State) (a0 : Array Value) (hw : ∀ d ∈ tables_1, d.before a0 Z = true) (ws : List Jvm.Cond) (a1 : Addr) (u1 : Value) (u2 : Value) (u3 : Value) (u4 : Value) (h0 : Heap) (n0 : Nat) (Z0 : n0 ≤ h0.size) (i_E1 : Exa Z h0 a1 "com/example/fields_in_tables/fieldsintables/TextBuilder") (i_F1 : Fld Z h0 a1 "com/example/fields_in_tables/fieldsintables/TextBuilder" "asciiScratch" "[B" u1) (i_F2 : Fld Z h0 a1 "com/example/fields_in_tables/fieldsintables/TextBuilder" "setAsideLength" "J" u2) (i_F3 : Fld Z h0 a1 "com/example/fields_in_tables/fieldsintables/TextBuilder" "length" "I" u3) (i_F4 : Fld Z h0 a1 "com/example/fields_in_tables/fieldsintables/TextBuilder" "latin1" "[B" u4) (g_a1 : n0 ≤ a1) :
    own_C l Z (⟨"com/example/fields_in_tables/fieldsintables/TextBuilder", "<init>", "()V"⟩ : MethodName) prog_37_method_1_code 1 none ws own_init_R #[(.ref a1)] h0 (own_W n0 (own_init_q Z a1 u1 u2 u3 u4 h0)) := by
  refine MetFree.of_bodySF own_pn1 hisR ?_
  intro p e s m args below meth c s₁ Bd hml0 hP hK
  obtain ⟨rfl, hZ, hh⟩ := hP
  have hx := Bd.exec
  have hby := Bd.bytes
  have hml : c.maxLocals = 1 := hml0
  have hown : s.vm.findClass "com/example/fields_in_tables/fieldsintables/TextBuilder" = some m.cls := findClass_of_methodNamed Bd.named
  have hnm := (name_of_methodNamed Bd.named Bd.method).1
  have X0 : Stand p l e own_init_R s m #[(.ref a1)] below meth c s₁ [] 0 0 := Stand.of_body Bd
  have e0 : s₁.heap = h0 := by rw [← hh, Bd.state]; rfl
  have N0 := Fr.nil n0
  have K0 : Keep h0 h0 [a1] := Keep.refl h0 _
  show own_G p e below (own_P s (own_W n0 (own_init_q Z a1 u1 u2 u3 u4 h0)) own_init_R.cells own_init_R.slots) (s₁.setTop (entryFrame m #[(.ref a1)] 1))
  rw [own_init_ef m a1]
  show own_G p e below _ (s₁.setTop (mkF m 0 #[.val (.ref a1)] []))
  refine own_via (fun t k => XS.aloadN X0.here hx rfl (hb hby own_d1_0) rfl rfl k) ?_
  show own_G p e below _ (s₁.setTop (mkF m 1 #[.val (.ref a1)] [(.ref a1)]))
  obtain ⟨T1, X1, e1, st1⟩ := initO X0 hx hZ hown (hw _ (List.mem_of_getElem? (i := 6) rfl)) (hw _ (List.mem_of_getElem? (i := 7) rfl)) (hw _ (List.mem_of_getElem? (i := 8) rfl)) e0 (g := (mkF m 1 #[.val (.ref a1)] [(.ref a1)])) rfl (by rw [hml]; rfl) rfl (hb hby own_d1_1) (by decide) (W := 0) (by show 2 * 0 + _ ≤ _; exact Nat.le_of_eq rfl) (by decide)
  refine own_via st1 ?_
  show own_G p e below _ (T1.setTop (mkF m 4 #[.val (.ref a1)] []))
  refine own_via (fun t k => XS.aloadN X1.here hx rfl (hb hby own_d1_4) rfl rfl k) ?_
  show own_G p e below _ (T1.setTop (mkF m 5 #[.val (.ref a1)] [(.ref a1)]))
  refine own_via (fun t k => XS.bipush X1.here hx rfl (hb hby own_d1_5) k) ?_
  show own_G p e below _ (T1.setTop (mkF m 7 #[.val (.ref a1)] [(.int (64 : Int32)), (.ref a1)]))
  obtain ⟨T2, h2, k2, b2, X2, e2, E2, ga2, V2, Ex2, st2⟩ := own_newA X1 hx hZ (hw _ (List.mem_of_getElem? (i := 9) rfl)) e1 (pc := 7) (Ls := #[.val (.ref a1)]) (rest := [(.ref a1)]) (hb hby own_d1_7) (n := (64 : Int32)) (by decide) (cap := 64) (by decide) (by decide) (by decide) (by decide) 64 rfl
  refine own_via st2 ?_
  have sz_b2 : h0.size ≤ b2 := Nat.le_trans K0.1 (Nat.le_of_eq ga2.symm)
  have ne3 : a1 ≠ b2 := Nat.ne_of_lt (Nat.lt_of_lt_of_le i_E1.lt (Nat.le_of_eq ga2.symm))
  have f4 : Exa Z h2 a1 "com/example/fields_in_tables/fieldsintables/TextBuilder" := i_E1.ext E2
  have f5 : Fld Z h2 a1 "com/example/fields_in_tables/fieldsintables/TextBuilder" "asciiScratch" "[B" u1 := i_F1.ext E2
  have f6 : Fld Z h2 a1 "com/example/fields_in_tables/fieldsintables/TextBuilder" "setAsideLength" "J" u2 := i_F2.ext E2
  have f7 : Fld Z h2 a1 "com/example/fields_in_tables/fieldsintables/TextBuilder" "length" "I" u3 := i_F3.ext E2
  have f8 : Fld Z h2 a1 "com/example/fields_in_tables/fieldsintables/TextBuilder" "latin1" "[B" u4 := i_F4.ext E2
  have Kp9 : Keep h0 h2 [a1] := K0.ext E2
  have f10 : Arv Z h2 b2 k2 .byte (64 : Int32) [(.int (0 : Int32)), (.int (0 : Int32)), (.int (0 : Int32)), (.int (0 : Int32)), (.int (0 : Int32)), (.int (0 : Int32)), (.int (0 : Int32)), (.int (0 : Int32)), (.int (0 : Int32)), (.int (0 : Int32)), (.int (0 : Int32)), (.int (0 : Int32)), (.int (0 : Int32)), (.int (0 : Int32)), (.int (0 : Int32)), (.int (0 : Int32)), (.int (0 : Int32)), (.int (0 : Int32)), (.int (0 : Int32)), (.int (0 : Int32)), (.int (0 : Int32)), (.int (0 : Int32)), (.int (0 : Int32)), (.int (0 : Int32)), (.int (0 : Int32)), (.int (0 : Int32)), (.int (0 : Int32)), (.int (0 : Int32)), (.int (0 : Int32)), (.int (0 : Int32)), (.int (0 : Int32)), (.int (0 : Int32)), (.int (0 : Int32)), (.int (0 : Int32)), (.int (0 : Int32)), (.int (0 : Int32)), (.int (0 : Int32)), (.int (0 : Int32)), (.int (0 : Int32)), (.int (0 : Int32)), (.int (0 : Int32)), (.int (0 : Int32)), (.int (0 : Int32)), (.int (0 : Int32)), (.int (0 : Int32)), (.int (0 : Int32)), (.int (0 : Int32)), (.int (0 : Int32)), (.int (0 : Int32)), (.int (0 : Int32)), (.int (0 : Int32)), (.int (0 : Int32)), (.int (0 : Int32)), (.int (0 : Int32)), (.int (0 : Int32)), (.int (0 : Int32)), (.int (0 : Int32)), (.int (0 : Int32)), (.int (0 : Int32)), (.int (0 : Int32)), (.int (0 : Int32)), (.int (0 : Int32)), (.int (0 : Int32)), (.int (0 : Int32))] (.int (0 : Int32)) := V2
  have g_b2 : n0 ≤ b2 := Nat.le_trans Z0 (Nat.le_of_eq ga2.symm)
  have Zs11 : n0 ≤ h2.size := Nat.le_trans Z0 E2.1
  show own_G p e below _ (T2.setTop (mkF m 9 #[.val (.ref a1)] [(.ref b2), (.ref a1)]))
  obtain ⟨T12, h12, L12, X12, N12, e12, W12, F12, st12⟩ := own_putF X2 N0 hx hZ hown (hw _ (List.mem_of_getElem? (i := 10) rfl)) e2 f8 f4 (Or.inl (hw _ (List.mem_of_getElem? (i := 11) rfl))) (hw _ (List.mem_of_getElem? (i := 1) rfl)) g_a1 (ty := (.array .byte)) (v := (.ref b2)) (by decide) rfl rfl (pc := 9) (Ls := #[.val (.ref a1)]) (rest := []) (hb hby own_d1_9)
  refine own_via st12 ?_
  have f13 : Exa Z h12 a1 "com/example/fields_in_tables/fieldsintables/TextBuilder" := f4.wr W12
  have f14 : Fld Z h12 a1 "com/example/fields_in_tables/fieldsintables/TextBuilder" "asciiScratch" "[B" u1 := f5.other W12 (Or.inr (slot_ne (Or.inl (hw _ (List.mem_of_getElem? (i := 18) rfl))) (Or.inl (hw _ (List.mem_of_getElem? (i := 11) rfl))) (by decide) (t := (.array .byte)) (t' := (.array .byte)) (by decide) (by decide)))
  have f15 : Fld Z h12 a1 "com/example/fields_in_tables/fieldsintables/TextBuilder" "setAsideLength" "J" u2 := f6.other W12 (Or.inr (slot_ne (Or.inl (hw _ (List.mem_of_getElem? (i := 29) rfl))) (Or.inl (hw _ (List.mem_of_getElem? (i := 11) rfl))) (by decide) (t := .long) (t' := (.array .byte)) (by decide) (by decide)))
  have f16 : Fld Z h12 a1 "com/example/fields_in_tables/fieldsintables/TextBuilder" "length" "I" u3 := f7.other W12 (Or.inr (slot_ne (Or.inl (hw _ (List.mem_of_getElem? (i := 31) rfl))) (Or.inl (hw _ (List.mem_of_getElem? (i := 11) rfl))) (by decide) (t := .int) (t' := (.array .byte)) (by decide) (by decide)))
  have f17 : Arv Z h12 b2 k2 .byte (64 : Int32) [(.int (0 : Int32)), (.int (0 : Int32)), (.int (0 : Int32)), (.int (0 : Int32)), (.int (0 : Int32)), (.int (0 : Int32)), (.int (0 : Int32)), (.int (0 : Int32)), (.int (0 : Int32)), (.int (0 : Int32)), (.int (0 : Int32)), (.int (0 : Int32)), (.int (0 : Int32)), (.int (0 : Int32)), (.int (0 : Int32)), (.int (0 : Int32)), (.int (0 : Int32)), (.int (0 : Int32)), (.int (0 : Int32)), (.int (0 : Int32)), (.int (0 : Int32)), (.int (0 : Int32)), (.int (0 : Int32)), (.int (0 : Int32)), (.int (0 : Int32)), (.int (0 : Int32)), (.int (0 : Int32)), (.int (0 : Int32)), (.int (0 : Int32)), (.int (0 : Int32)), (.int (0 : Int32)), (.int (0 : Int32)), (.int (0 : Int32)), (.int (0 : Int32)), (.int (0 : Int32)), (.int (0 : Int32)), (.int (0 : Int32)), (.int (0 : Int32)), (.int (0 : Int32)), (.int (0 : Int32)), (.int (0 : Int32)), (.int (0 : Int32)), (.int (0 : Int32)), (.int (0 : Int32)), (.int (0 : Int32)), (.int (0 : Int32)), (.int (0 : Int32)), (.int (0 : Int32)), (.int (0 : Int32)), (.int (0 : Int32)), (.int (0 : Int32)), (.int (0 : Int32)), (.int (0 : Int32)), (.int (0 : Int32)), (.int (0 : Int32)), (.int (0 : Int32)), (.int (0 : Int32)), (.int (0 : Int32)), (.int (0 : Int32)), (.int (0 : Int32)), (.int (0 : Int32)), (.int (0 : Int32)), (.int (0 : Int32)), (.int (0 : Int32))] (.int (0 : Int32)) := f10.other W12 (Ne.symm ne3)
  have Kp18 : Keep h0 h12 [a1] := Kp9.wr W12 (Or.inl (List.mem_of_getElem? (i := 0) rfl))
  have Zs19 : n0 ≤ h12.size := by rw [W12.size]; exact Zs11
  show own_G p e below _ (T12.setTop (mkF m 12 #[.val (.ref a1)] []))
  exact own_retV X12 hx Bd.returns Bd.notSynchronized (hb hby own_d1_12) (by rw [e12]; exact ⟨N12, rfl, Kp18, f13, f14, f15, f16⟩) (by decide) (by decide)
theorem own_d3_0 : decode prog_37_method_10_code 0 = .ok (.aload_n 0, 1) := by decide +kernel
theorem own_d3_1 : decode prog_37_method_10_code 1 = .ok (.getfield 82, 3) := by decide +kernel
theorem own_d3_4 : decode prog_37_method_10_code 4 = .ok (.ifnull 12, 3) := by decide +kernel
theorem own_d3_16 : decode prog_37_method_10_code 16 = .ok (.aload_n 0, 1) := by decide +kernel
theorem own_d3_17 : decode prog_37_method_10_code 17 = .ok (.iload_n 1, 1) := by decide +kernel
theorem own_d3_18 : decode prog_37_method_10_code 18 = .ok (.newarray .byte, 2) := by decide +kernel
theorem own_d3_20 : decode prog_37_method_10_code 20 = .ok (.putfield 82, 3) := by decide +kernel
theorem own_d3_23 : decode prog_37_method_10_code 23 = .ok (.aload_n 0, 1) := by decide +kernel
theorem own_d3_24 : decode prog_37_method_10_code 24 = .ok (.getfield 82, 3) := by decide +kernel
theorem own_d3_27 : decode prog_37_method_10_code 27 = .ok (.areturn, 1) := by decide +kernel
abbrev own_s0_R : Room := { frames := 0, cells := 1, slots := 1023, locals := 0 }
theorem own_pn3 : plainFor (⟨"com/example/fields_in_tables/fieldsintables/TextBuilder", "asciiScratch", "(I)[B"⟩ : MethodName) = true := plainFor_of_name (by first | (simp [plainName, overriddenIn]; done) | decide +kernel)
theorem own_s0_ef (m : MethodId) (a1 : Addr) (p1 : Int32) : entryFrame m #[(.ref a1), (.int p1)] 2 = mkF m 0 #[.val (.ref a1), .val (.int p1)] [] := by first | (simp [entryFrame, mkF, argsToLocals, Value.category]; done) | rfl
def own_s0_q (Z : State) (a1 : Addr) (p1 : Int32) (u2 : Value) (u3 : Value) (h0 : Heap) (v : Option Value) (h : Heap) : Prop := ∃ (x : Addr) (k : ClassId), v = some (.ref x) ∧ Keep h0 h [a1] ∧ h0.size ≤ x ∧ Exa Z h a1 "com/example/fields_in_tables/fieldsintables/TextBuilder" ∧ Fld Z h a1 "com/example/fields_in_tables/fieldsintables/TextBuilder" "asciiScratch" "[B" (.ref x) ∧ Fld Z h a1 "com/example/fields_in_tables/fieldsintables/TextBuilder" "setAsideLength" "J" u2 ∧ Fld Z h a1 "com/example/fields_in_tables/fieldsintables/TextBuilder" "length" "I" u3 ∧ Arv Z h x k .byte p1 [] (.int (0 : Int32))
set_option maxRecDepth 65536 in
set_option maxHeartbeats 40000000 in
theorem own_s0 (l : Launch) (Z : State) (a0 : Array Value) (hw : ∀ d ∈ tables_1, d.before a0 Z = true) (ws : List Jvm.Cond) (a1 : Addr) (p1 : Int32) (u2 : Value) (u3 : Value) (h0 : Heap) (n0 : Nat) (Z0 : n0 ≤ h0.size) (i_E1 : Exa Z h0 a1 "com/example/fields_in_tables/fieldsintables/TextBuilder") (i_F1 : Fld Z h0 a1 "com/example/fields_in_tables/fieldsintables/TextBuilder" "asciiScratch" "[B" .null) (i_F2 : Fld Z h0 a1 "com/example/fields_in_tables/fieldsintables/TextBuilder" "setAsideLength" "J" u2) (i_F3 : Fld Z h0 a1 "com/example/fields_in_tables/fieldsintables/TextBuilder" "length" "I" u3) (g_a1 : n0 ≤ a1) (hp_hn1 : ¬ (p1 < 0)) (hp_hn2 : p1.toNatClampNeg ≤ 1023) :
    own_C l Z (⟨"com/example/fields_in_tables/fieldsintables/TextBuilder", "asciiScratch", "(I)[B"⟩ : MethodName) prog_37_method_10_code 2 (some (.array .byte)) ws own_s0_R #[(.ref a1), (.int p1)] h0 (own_W n0 (own_s0_q Z a1 p1 u2 u3 h0)) := by
  refine MetFree.of_bodySF own_pn3 hisR ?_
  intro p e s m args below meth c s₁ Bd hml0 hP hK
  obtain ⟨rfl, hZ, hh⟩ := hP
  have hx := Bd.exec
  have hby := Bd.bytes
  have hml : c.maxLocals = 2 := hml0
  have hown : s.vm.findClass "com/example/fields_in_tables/fieldsintables/TextBuilder" = some m.cls := findClass_of_methodNamed Bd.named
  have hnm := (name_of_methodNamed Bd.named Bd.method).1
  have X0 : Stand p l e own_s0_R s m #[(.ref a1), (.int p1)] below meth c s₁ [] 0 0 := Stand.of_body Bd
  have e0 : s₁.heap = h0 := by rw [← hh, Bd.state]; rfl
  have N0 := Fr.nil n0
  have K0 : Keep h0 h0 [a1] := Keep.refl h0 _
  show own_G p e below (own_P s (own_W n0 (own_s0_q Z a1 p1 u2 u3 h0)) own_s0_R.cells own_s0_R.slots) (s₁.setTop (entryFrame m #[(.ref a1), (.int p1)] 2))
  rw [own_s0_ef m a1 p1]
  show own_G p e below _ (s₁.setTop (mkF m 0 #[.val (.ref a1), .val (.int p1)] []))
  refine own_via (fun t k => XS.aloadN X0.here hx rfl (hb hby own_d3_0) rfl rfl k) ?_
  show own_G p e below _ (s₁.setTop (mkF m 1 #[.val (.ref a1), .val (.int p1)] [(.ref a1)]))
  obtain ⟨T1, X1, e1, st1⟩ := getF X0 hx hZ hown (host := "") (Or.inl (hw _ (List.mem_of_getElem? (i := 17) rfl))) Via.refl e0 i_F1 (g := (mkF m 1 #[.val (.ref a1), .val (.int p1)] [(.ref a1)])) rfl rfl (hb hby own_d3_1)
  refine own_via st1 ?_
  show own_G p e below _ (T1.setTop (mkF m 4 #[.val (.ref a1), .val (.int p1)] [.null]))
  refine own_via (fun t k => XS.ifnullYes X1.here hx rfl (pc0 := 4) (pc' := 16) rfl (hb hby own_d3_4) rfl (by decide) (by decide) k) ?_
  show own_G p e below _ (T1.setTop (mkF m 16 #[.val (.ref a1), .val (.int p1)] []))
  refine own_via (fun t k => XS.aloadN X1.here hx rfl (hb hby own_d3_16) rfl rfl k) ?_
  show own_G p e below _ (T1.setTop (mkF m 17 #[.val (.ref a1), .val (.int p1)] [(.ref a1)]))
  refine own_via (fun t k => XS.iloadN X1.here hx rfl (hb hby own_d3_17) rfl k) ?_
  show own_G p e below _ (T1.setTop (mkF m 18 #[.val (.ref a1), .val (.int p1)] [(.int p1), (.ref a1)]))
  obtain ⟨T2, h2, k2, b2, X2, e2, E2, ga2, V2, Ex2, st2⟩ := own_newA X1 hx hZ (hw _ (List.mem_of_getElem? (i := 9) rfl)) e1 (pc := 18) (Ls := #[.val (.ref a1), .val (.int p1)]) (rest := [(.ref a1)]) (hb hby own_d3_18) (n := p1) hp_hn1 (cap := 1023) hp_hn2 (by decide) (by decide) (by decide) 0 rfl
  refine own_via st2 ?_
  have sz_b2 : h0.size ≤ b2 := Nat.le_trans K0.1 (Nat.le_of_eq ga2.symm)
  have ne3 : a1 ≠ b2 := Nat.ne_of_lt (Nat.lt_of_lt_of_le i_E1.lt (Nat.le_of_eq ga2.symm))
  have f4 : Exa Z h2 a1 "com/example/fields_in_tables/fieldsintables/TextBuilder" := i_E1.ext E2
  have f5 : Fld Z h2 a1 "com/example/fields_in_tables/fieldsintables/TextBuilder" "asciiScratch" "[B" .null := i_F1.ext E2
  have f6 : Fld Z h2 a1 "com/example/fields_in_tables/fieldsintables/TextBuilder" "setAsideLength" "J" u2 := i_F2.ext E2
  have f7 : Fld Z h2 a1 "com/example/fields_in_tables/fieldsintables/TextBuilder" "length" "I" u3 := i_F3.ext E2
  have Kp8 : Keep h0 h2 [a1] := K0.ext E2
  have f9 : Arv Z h2 b2 k2 .byte p1 [] (.int (0 : Int32)) := V2
  have g_b2 : n0 ≤ b2 := Nat.le_trans Z0 (Nat.le_of_eq ga2.symm)
  have Zs10 : n0 ≤ h2.size := Nat.le_trans Z0 E2.1
  show own_G p e below _ (T2.setTop (mkF m 20 #[.val (.ref a1), .val (.int p1)] [(.ref b2), (.ref a1)]))
  obtain ⟨T11, h11, L11, X11, N11, e11, W11, F11, st11⟩ := own_putF X2 N0 hx hZ hown (hw _ (List.mem_of_getElem? (i := 17) rfl)) e2 f5 f4 (Or.inl (hw _ (List.mem_of_getElem? (i := 18) rfl))) (hw _ (List.mem_of_getElem? (i := 1) rfl)) g_a1 (ty := (.array .byte)) (v := (.ref b2)) (by decide) rfl rfl (pc := 20) (Ls := #[.val (.ref a1), .val (.int p1)]) (rest := []) (hb hby own_d3_20)
  refine own_via st11 ?_
  have f12 : Exa Z h11 a1 "com/example/fields_in_tables/fieldsintables/TextBuilder" := f4.wr W11
  have f13 : Fld Z h11 a1 "com/example/fields_in_tables/fieldsintables/TextBuilder" "setAsideLength" "J" u2 := f6.other W11 (Or.inr (slot_ne (Or.inl (hw _ (List.mem_of_getElem? (i := 29) rfl))) (Or.inl (hw _ (List.mem_of_getElem? (i := 18) rfl))) (by decide) (t := .long) (t' := (.array .byte)) (by decide) (by decide)))
  have f14 : Fld Z h11 a1 "com/example/fields_in_tables/fieldsintables/TextBuilder" "length" "I" u3 := f7.other W11 (Or.inr (slot_ne (Or.inl (hw _ (List.mem_of_getElem? (i := 31) rfl))) (Or.inl (hw _ (List.mem_of_getElem? (i := 18) rfl))) (by decide) (t := .int) (t' := (.array .byte)) (by decide) (by decide)))
  have f15 : Arv Z h11 b2 k2 .byte p1 [] (.int (0 : Int32)) := f9.other W11 (Ne.symm ne3)
  have Kp16 : Keep h0 h11 [a1] := Kp8.wr W11 (Or.inl (List.mem_of_getElem? (i := 0) rfl))
  have Zs17 : n0 ≤ h11.size := by rw [W11.size]; exact Zs10
  show own_G p e below _ (T11.setTop (mkF m 23 #[.val (.ref a1), .val (.int p1)] []))
  refine own_via (fun t k => XS.aloadN X11.here hx rfl (hb hby own_d3_23) rfl rfl k) ?_
  show own_G p e below _ (T11.setTop (mkF m 24 #[.val (.ref a1), .val (.int p1)] [(.ref a1)]))
  obtain ⟨T18, X18, e18, st18⟩ := getF X11 hx hZ hown (host := "") (Or.inl (hw _ (List.mem_of_getElem? (i := 17) rfl))) Via.refl e11 F11 (g := (mkF m 24 #[.val (.ref a1), .val (.int p1)] [(.ref a1)])) rfl rfl (hb hby own_d3_24)
  refine own_via st18 ?_
  show own_G p e below _ (T18.setTop (mkF m 27 #[.val (.ref a1), .val (.int p1)] [(.ref b2)]))
  exact own_retA X18 hx Bd.returns rfl rfl Bd.notSynchronized (hb hby own_d3_27) (by rw [e18]; exact ⟨N11, b2, k2, rfl, Kp16, sz_b2, f12, F11, f13, f14, f15⟩) (by decide) (by decide)
theorem own_d3_7 : decode prog_37_method_10_code 7 = .ok (.aload_n 0, 1) := by decide +kernel
theorem own_d3_8 : decode prog_37_method_10_code 8 = .ok (.getfield 82, 3) := by decide +kernel
theorem own_d3_11 : decode prog_37_method_10_code 11 = .ok (.arraylength, 1) := by decide +kernel
theorem own_d3_12 : decode prog_37_method_10_code 12 = .ok (.iload_n 1, 1) := by decide +kernel
theorem own_d3_13 : decode prog_37_method_10_code 13 = .ok (.if_icmp .ge 10, 3) := by decide +kernel
abbrev own_s1_R : Room := { frames := 0, cells := 1, slots := 1023, locals := 0 }
theorem own_s1_ef (m : MethodId) (a1 : Addr) (p1 : Int32) : entryFrame m #[(.ref a1), (.int p1)] 2 = mkF m 0 #[.val (.ref a1), .val (.int p1)] [] := by first | (simp [entryFrame, mkF, argsToLocals, Value.category]; done) | rfl
def own_s1_q (Z : State) (a1 : Addr) (p1 : Int32) (r0 : Addr) (k0 : ClassId) (z0 : Int32) (vs0 : List Value) (d0 : Value) (u2 : Value) (u3 : Value) (h0 : Heap) (v : Option Value) (h : Heap) : Prop := ∃ (x : Addr) (k : ClassId), v = some (.ref x) ∧ Keep h0 h [a1] ∧ h0.size ≤ x ∧ Exa Z h a1 "com/example/fields_in_tables/fieldsintables/TextBuilder" ∧ Fld Z h a1 "com/example/fields_in_tables/fieldsintables/TextBuilder" "asciiScratch" "[B" (.ref x) ∧ Fld Z h a1 "com/example/fields_in_tables/fieldsintables/TextBuilder" "setAsideLength" "J" u2 ∧ Fld Z h a1 "com/example/fields_in_tables/fieldsintables/TextBuilder" "length" "I" u3 ∧ Arv Z h x k .byte p1 [] (.int (0 : Int32))
set_option maxRecDepth 65536 in
set_option maxHeartbeats 40000000 in
theorem own_s1 (l : Launch) (Z : State) (a0 : Array Value) (hw : ∀ d ∈ tables_1, d.before a0 Z = true) (ws : List Jvm.Cond) (a1 : Addr) (p1 : Int32) (r0 : Addr) (k0 : ClassId) (z0 : Int32) (vs0 : List Value) (d0 : Value) (u2 : Value) (u3 : Value) (h0 : Heap) (n0 : Nat) (Z0 : n0 ≤ h0.size) (i_E1 : Exa Z h0 a1 "com/example/fields_in_tables/fieldsintables/TextBuilder") (i_F1 : Fld Z h0 a1 "com/example/fields_in_tables/fieldsintables/TextBuilder" "asciiScratch" "[B" (.ref r0)) (i_F2 : Fld Z h0 a1 "com/example/fields_in_tables/fieldsintables/TextBuilder" "setAsideLength" "J" u2) (i_F3 : Fld Z h0 a1 "com/example/fields_in_tables/fieldsintables/TextBuilder" "length" "I" u3) (i_V0 : Arv Z h0 r0 k0 .byte z0 vs0 d0) (g_a1 : n0 ≤ a1) (hp_hlt : z0 < p1) (hp_hn1 : ¬ (p1 < 0)) (hp_hn2 : p1.toNatClampNeg ≤ 1023) :
    own_C l Z (⟨"com/example/fields_in_tables/fieldsintables/TextBuilder", "asciiScratch", "(I)[B"⟩ : MethodName) prog_37_method_10_code 2 (some (.array .byte)) ws own_s1_R #[(.ref a1), (.int p1)] h0 (own_W n0 (own_s1_q Z a1 p1 r0 k0 z0 vs0 d0 u2 u3 h0)) := by
  refine MetFree.of_bodySF own_pn3 hisR ?_
  intro p e s m args below meth c s₁ Bd hml0 hP hK
  obtain ⟨rfl, hZ, hh⟩ := hP
  have hx := Bd.exec
  have hby := Bd.bytes
  have hml : c.maxLocals = 2 := hml0
  have hown : s.vm.findClass "com/example/fields_in_tables/fieldsintables/TextBuilder" = some m.cls := findClass_of_methodNamed Bd.named
  have hnm := (name_of_methodNamed Bd.named Bd.method).1
  have X0 : Stand p l e own_s1_R s m #[(.ref a1), (.int p1)] below meth c s₁ [] 0 0 := Stand.of_body Bd
  have e0 : s₁.heap = h0 := by rw [← hh, Bd.state]; rfl
  have N0 := Fr.nil n0
  have K0 : Keep h0 h0 [a1] := Keep.refl h0 _
  show own_G p e below (own_P s (own_W n0 (own_s1_q Z a1 p1 r0 k0 z0 vs0 d0 u2 u3 h0)) own_s1_R.cells own_s1_R.slots) (s₁.setTop (entryFrame m #[(.ref a1), (.int p1)] 2))
  rw [own_s1_ef m a1 p1]
  show own_G p e below _ (s₁.setTop (mkF m 0 #[.val (.ref a1), .val (.int p1)] []))
  refine own_via (fun t k => XS.aloadN X0.here hx rfl (hb hby own_d3_0) rfl rfl k) ?_
  show own_G p e below _ (s₁.setTop (mkF m 1 #[.val (.ref a1), .val (.int p1)] [(.ref a1)]))
  obtain ⟨T1, X1, e1, st1⟩ := getF X0 hx hZ hown (host := "") (Or.inl (hw _ (List.mem_of_getElem? (i := 17) rfl))) Via.refl e0 i_F1 (g := (mkF m 1 #[.val (.ref a1), .val (.int p1)] [(.ref a1)])) rfl rfl (hb hby own_d3_1)
  refine own_via st1 ?_
  show own_G p e below _ (T1.setTop (mkF m 4 #[.val (.ref a1), .val (.int p1)] [(.ref r0)]))
  refine own_via (fun t k => XS.ifnullNo X1.here hx rfl (hb hby own_d3_4) rfl k) ?_
  show own_G p e below _ (T1.setTop (mkF m 7 #[.val (.ref a1), .val (.int p1)] []))
  refine own_via (fun t k => XS.aloadN X1.here hx rfl (hb hby own_d3_7) rfl rfl k) ?_
  show own_G p e below _ (T1.setTop (mkF m 8 #[.val (.ref a1), .val (.int p1)] [(.ref a1)]))
  obtain ⟨T2, X2, e2, st2⟩ := getF X1 hx hZ hown (host := "") (Or.inl (hw _ (List.mem_of_getElem? (i := 17) rfl))) Via.refl e1 i_F1 (g := (mkF m 8 #[.val (.ref a1), .val (.int p1)] [(.ref a1)])) rfl rfl (hb hby own_d3_8)
  refine own_via st2 ?_
  show own_G p e below _ (T2.setTop (mkF m 11 #[.val (.ref a1), .val (.int p1)] [(.ref r0)]))
  refine own_via (own_len X2 hx hZ e2 i_V0 (pc := 11) (Ls := #[.val (.ref a1), .val (.int p1)]) (rest := []) (hb hby own_d3_11)) ?_
  show own_G p e below _ (T2.setTop (mkF m 12 #[.val (.ref a1), .val (.int p1)] [(.int z0)]))
  refine own_via (fun t k => XS.iloadN X2.here hx rfl (hb hby own_d3_12) rfl k) ?_
  show own_G p e below _ (T2.setTop (mkF m 13 #[.val (.ref a1), .val (.int p1)] [(.int p1), (.int z0)]))
  refine own_via (fun t k => XS.icmpNo X2.here hx rfl (hb hby own_d3_13) rfl (tlt hp_hlt).2.1 k) ?_
  show own_G p e below _ (T2.setTop (mkF m 16 #[.val (.ref a1), .val (.int p1)] []))
  refine own_via (fun t k => XS.aloadN X2.here hx rfl (hb hby own_d3_16) rfl rfl k) ?_
  show own_G p e below _ (T2.setTop (mkF m 17 #[.val (.ref a1), .val (.int p1)] [(.ref a1)]))
  refine own_via (fun t k => XS.iloadN X2.here hx rfl (hb hby own_d3_17) rfl k) ?_
  show own_G p e below _ (T2.setTop (mkF m 18 #[.val (.ref a1), .val (.int p1)] [(.int p1), (.ref a1)]))
  obtain ⟨T3, h3, k3, b3, X3, e3, E3, ga3, V3, Ex3, st3⟩ := own_newA X2 hx hZ (hw _ (List.mem_of_getElem? (i := 9) rfl)) e2 (pc := 18) (Ls := #[.val (.ref a1), .val (.int p1)]) (rest := [(.ref a1)]) (hb hby own_d3_18) (n := p1) hp_hn1 (cap := 1023) hp_hn2 (by decide) (by decide) (by decide) 0 rfl
  refine own_via st3 ?_
  have sz_b3 : h0.size ≤ b3 := Nat.le_trans K0.1 (Nat.le_of_eq ga3.symm)
  have ne4 : a1 ≠ b3 := Nat.ne_of_lt (Nat.lt_of_lt_of_le i_E1.lt (Nat.le_of_eq ga3.symm))
  have ne5 : r0 ≠ b3 := Nat.ne_of_lt (Nat.lt_of_lt_of_le i_V0.lt (Nat.le_of_eq ga3.symm))
  have f6 : Exa Z h3 a1 "com/example/fields_in_tables/fieldsintables/TextBuilder" := i_E1.ext E3
  have f7 : Fld Z h3 a1 "com/example/fields_in_tables/fieldsintables/TextBuilder" "asciiScratch" "[B" (.ref r0) := i_F1.ext E3
  have f8 : Fld Z h3 a1 "com/example/fields_in_tables/fieldsintables/TextBuilder" "setAsideLength" "J" u2 := i_F2.ext E3
  have f9 : Fld Z h3 a1 "com/example/fields_in_tables/fieldsintables/TextBuilder" "length" "I" u3 := i_F3.ext E3
  have f10 : Arv Z h3 r0 k0 .byte z0 vs0 d0 := i_V0.ext E3
  have Kp11 : Keep h0 h3 [a1] := K0.ext E3
  have f12 : Arv Z h3 b3 k3 .byte p1 [] (.int (0 : Int32)) := V3
  have g_b3 : n0 ≤ b3 := Nat.le_trans Z0 (Nat.le_of_eq ga3.symm)
  have Zs13 : n0 ≤ h3.size := Nat.le_trans Z0 E3.1
  show own_G p e below _ (T3.setTop (mkF m 20 #[.val (.ref a1), .val (.int p1)] [(.ref b3), (.ref a1)]))
  obtain ⟨T14, h14, L14, X14, N14, e14, W14, F14, st14⟩ := own_putF X3 N0 hx hZ hown (hw _ (List.mem_of_getElem? (i := 17) rfl)) e3 f7 f6 (Or.inl (hw _ (List.mem_of_getElem? (i := 18) rfl))) (hw _ (List.mem_of_getElem? (i := 1) rfl)) g_a1 (ty := (.array .byte)) (v := (.ref b3)) (by decide) rfl rfl (pc := 20) (Ls := #[.val (.ref a1), .val (.int p1)]) (rest := []) (hb hby own_d3_20)
  refine own_via st14 ?_
  have f15 : Exa Z h14 a1 "com/example/fields_in_tables/fieldsintables/TextBuilder" := f6.wr W14
  have f16 : Fld Z h14 a1 "com/example/fields_in_tables/fieldsintables/TextBuilder" "setAsideLength" "J" u2 := f8.other W14 (Or.inr (slot_ne (Or.inl (hw _ (List.mem_of_getElem? (i := 29) rfl))) (Or.inl (hw _ (List.mem_of_getElem? (i := 18) rfl))) (by decide) (t := .long) (t' := (.array .byte)) (by decide) (by decide)))
  have f17 : Fld Z h14 a1 "com/example/fields_in_tables/fieldsintables/TextBuilder" "length" "I" u3 := f9.other W14 (Or.inr (slot_ne (Or.inl (hw _ (List.mem_of_getElem? (i := 31) rfl))) (Or.inl (hw _ (List.mem_of_getElem? (i := 18) rfl))) (by decide) (t := .int) (t' := (.array .byte)) (by decide) (by decide)))
  have f18 : Arv Z h14 b3 k3 .byte p1 [] (.int (0 : Int32)) := f12.other W14 (Ne.symm ne4)
  have Kp19 : Keep h0 h14 [a1] := Kp11.wr W14 (Or.inl (List.mem_of_getElem? (i := 0) rfl))
  have Zs20 : n0 ≤ h14.size := by rw [W14.size]; exact Zs13
  show own_G p e below _ (T14.setTop (mkF m 23 #[.val (.ref a1), .val (.int p1)] []))
  refine own_via (fun t k => XS.aloadN X14.here hx rfl (hb hby own_d3_23) rfl rfl k) ?_
  show own_G p e below _ (T14.setTop (mkF m 24 #[.val (.ref a1), .val (.int p1)] [(.ref a1)]))
  obtain ⟨T21, X21, e21, st21⟩ := getF X14 hx hZ hown (host := "") (Or.inl (hw _ (List.mem_of_getElem? (i := 17) rfl))) Via.refl e14 F14 (g := (mkF m 24 #[.val (.ref a1), .val (.int p1)] [(.ref a1)])) rfl rfl (hb hby own_d3_24)
  refine own_via st21 ?_
  show own_G p e below _ (T21.setTop (mkF m 27 #[.val (.ref a1), .val (.int p1)] [(.ref b3)]))
  exact own_retA X21 hx Bd.returns rfl rfl Bd.notSynchronized (hb hby own_d3_27) (by rw [e21]; exact ⟨N14, b3, k3, rfl, Kp19, sz_b3, f15, F14, f16, f17, f18⟩) (by decide) (by decide)
abbrev own_s2_R : Room := { frames := 0, cells := 0, slots := 0, locals := 0 }
theorem own_s2_ef (m : MethodId) (a1 : Addr) (p1 : Int32) : entryFrame m #[(.ref a1), (.int p1)] 2 = mkF m 0 #[.val (.ref a1), .val (.int p1)] [] := by first | (simp [entryFrame, mkF, argsToLocals, Value.category]; done) | rfl
set_option maxRecDepth 65536 in
set_option maxHeartbeats 40000000 in
theorem own_s2 (l : Launch) (Z : State) (a0 : Array Value) (hw : ∀ d ∈ tables_1, d.before a0 Z = true) (ws : List Jvm.Cond) (a1 : Addr) (p1 : Int32) (r0 : Addr) (k0 : ClassId) (z0 : Int32) (vs0 : List Value) (d0 : Value) (h0 : Heap)  (i_E1 : Exa Z h0 a1 "com/example/fields_in_tables/fieldsintables/TextBuilder") (i_F1 : Fld Z h0 a1 "com/example/fields_in_tables/fieldsintables/TextBuilder" "asciiScratch" "[B" (.ref r0)) (i_V0 : Arv Z h0 r0 k0 .byte z0 vs0 d0) (hp_hlt : ¬ (z0 < p1)) :
    own_C l Z (⟨"com/example/fields_in_tables/fieldsintables/TextBuilder", "asciiScratch", "(I)[B"⟩ : MethodName) prog_37_method_10_code 2 (some (.array .byte)) ws own_s2_R #[(.ref a1), (.int p1)] h0 (own_Q (.ref r0) h0) := by
  refine MetFree.of_bodySF own_pn3 hisR ?_
  intro p e s m args below meth c s₁ Bd hml0 hP hK
  obtain ⟨rfl, hZ, hh⟩ := hP
  have hx := Bd.exec
  have hby := Bd.bytes
  have hml : c.maxLocals = 2 := hml0
  have hown : s.vm.findClass "com/example/fields_in_tables/fieldsintables/TextBuilder" = some m.cls := findClass_of_methodNamed Bd.named
  have hnm := (name_of_methodNamed Bd.named Bd.method).1
  have X0 : Stand p l e own_s2_R s m #[(.ref a1), (.int p1)] below meth c s₁ [] 0 0 := Stand.of_body Bd
  have e0 : s₁.heap = h0 := by rw [← hh, Bd.state]; rfl
  show own_G p e below (own_P s (own_Q (.ref r0) h0) own_s2_R.cells own_s2_R.slots) (s₁.setTop (entryFrame m #[(.ref a1), (.int p1)] 2))
  rw [own_s2_ef m a1 p1]
  show own_G p e below _ (s₁.setTop (mkF m 0 #[.val (.ref a1), .val (.int p1)] []))
  refine own_via (fun t k => XS.aloadN X0.here hx rfl (hb hby own_d3_0) rfl rfl k) ?_
  show own_G p e below _ (s₁.setTop (mkF m 1 #[.val (.ref a1), .val (.int p1)] [(.ref a1)]))
  obtain ⟨T1, X1, e1, st1⟩ := getF X0 hx hZ hown (host := "") (Or.inl (hw _ (List.mem_of_getElem? (i := 17) rfl))) Via.refl e0 i_F1 (g := (mkF m 1 #[.val (.ref a1), .val (.int p1)] [(.ref a1)])) rfl rfl (hb hby own_d3_1)
  refine own_via st1 ?_
  show own_G p e below _ (T1.setTop (mkF m 4 #[.val (.ref a1), .val (.int p1)] [(.ref r0)]))
  refine own_via (fun t k => XS.ifnullNo X1.here hx rfl (hb hby own_d3_4) rfl k) ?_
  show own_G p e below _ (T1.setTop (mkF m 7 #[.val (.ref a1), .val (.int p1)] []))
  refine own_via (fun t k => XS.aloadN X1.here hx rfl (hb hby own_d3_7) rfl rfl k) ?_
  show own_G p e below _ (T1.setTop (mkF m 8 #[.val (.ref a1), .val (.int p1)] [(.ref a1)]))
  obtain ⟨T2, X2, e2, st2⟩ := getF X1 hx hZ hown (host := "") (Or.inl (hw _ (List.mem_of_getElem? (i := 17) rfl))) Via.refl e1 i_F1 (g := (mkF m 8 #[.val (.ref a1), .val (.int p1)] [(.ref a1)])) rfl rfl (hb hby own_d3_8)
  refine own_via st2 ?_
  show own_G p e below _ (T2.setTop (mkF m 11 #[.val (.ref a1), .val (.int p1)] [(.ref r0)]))
  refine own_via (own_len X2 hx hZ e2 i_V0 (pc := 11) (Ls := #[.val (.ref a1), .val (.int p1)]) (rest := []) (hb hby own_d3_11)) ?_
  show own_G p e below _ (T2.setTop (mkF m 12 #[.val (.ref a1), .val (.int p1)] [(.int z0)]))
  refine own_via (fun t k => XS.iloadN X2.here hx rfl (hb hby own_d3_12) rfl k) ?_
  show own_G p e below _ (T2.setTop (mkF m 13 #[.val (.ref a1), .val (.int p1)] [(.int p1), (.int z0)]))
  refine own_via (fun t k => XS.icmpYes X2.here hx rfl (pc0 := 13) (pc' := 23) rfl (hb hby own_d3_13) rfl (flt hp_hlt).2.1 (by decide) (by decide) k) ?_
  show own_G p e below _ (T2.setTop (mkF m 23 #[.val (.ref a1), .val (.int p1)] []))
  refine own_via (fun t k => XS.aloadN X2.here hx rfl (hb hby own_d3_23) rfl rfl k) ?_
  show own_G p e below _ (T2.setTop (mkF m 24 #[.val (.ref a1), .val (.int p1)] [(.ref a1)]))
  obtain ⟨T3, X3, e3, st3⟩ := getF X2 hx hZ hown (host := "") (Or.inl (hw _ (List.mem_of_getElem? (i := 17) rfl))) Via.refl e2 i_F1 (g := (mkF m 24 #[.val (.ref a1), .val (.int p1)] [(.ref a1)])) rfl rfl (hb hby own_d3_24)
  refine own_via st3 ?_
  show own_G p e below _ (T3.setTop (mkF m 27 #[.val (.ref a1), .val (.int p1)] [(.ref r0)]))
  exact own_retA X3 hx Bd.returns rfl rfl Bd.notSynchronized (hb hby own_d3_27) ⟨rfl, rfl, e3⟩ (by decide) (by decide)
theorem own_d5_0 : decode prog_37_method_13_code 0 = .ok (.aload_n 0, 1) := by decide +kernel
theorem own_d5_1 : decode prog_37_method_13_code 1 = .ok (.getfield 85, 3) := by decide +kernel
theorem own_d5_4 : decode prog_37_method_13_code 4 = .ok (.lconst 0, 1) := by decide +kernel
theorem own_d5_5 : decode prog_37_method_13_code 5 = .ok (.lcmp, 1) := by decide +kernel
theorem own_d5_6 : decode prog_37_method_13_code 6 = .ok (.ifCond .ne 14, 3) := by decide +kernel
theorem own_d5_9 : decode prog_37_method_13_code 9 = .ok (.aload_n 0, 1) := by decide +kernel
theorem own_d5_10 : decode prog_37_method_13_code 10 = .ok (.getfield 19, 3) := by decide +kernel
theorem own_d5_13 : decode prog_37_method_13_code 13 = .ok (.ifCond .ne 7, 3) := by decide +kernel
theorem own_d5_16 : decode prog_37_method_13_code 16 = .ok (.iconst 1, 1) := by decide +kernel
theorem own_d5_17 : decode prog_37_method_13_code 17 = .ok (.goto 4, 3) := by decide +kernel
theorem own_d5_21 : decode prog_37_method_13_code 21 = .ok (.ireturn, 1) := by decide +kernel
abbrev own_emp_R : Room := { frames := 0, cells := 0, slots := 0, locals := 0 }
theorem own_pn5 : plainFor (⟨"com/example/fields_in_tables/fieldsintables/TextBuilder", "isEmpty", "()Z"⟩ : MethodName) = true := plainFor_of_name (by first | (simp [plainName, overriddenIn]; done) | decide +kernel)
theorem own_emp_ef (m : MethodId) (a1 : Addr) : entryFrame m #[(.ref a1)] 1 = mkF m 0 #[.val (.ref a1)] [] := by first | (simp [entryFrame, mkF, argsToLocals, Value.category]; done) | rfl
set_option maxRecDepth 65536 in
set_option maxHeartbeats 40000000 in
theorem own_emp (l : Launch) (Z : State) (a0 : Array Value) (hw : ∀ d ∈ tables_1, d.before a0 Z = true) (ws : List Jvm.Cond) (a1 : Addr)  (h0 : Heap)  (i_F2 : Fld Z h0 a1 "com/example/fields_in_tables/fieldsintables/TextBuilder" "setAsideLength" "J" (.long (0 : Int64))) (i_F3 : Fld Z h0 a1 "com/example/fields_in_tables/fieldsintables/TextBuilder" "length" "I" (.int (0 : Int32))) :
    own_C l Z (⟨"com/example/fields_in_tables/fieldsintables/TextBuilder", "isEmpty", "()Z"⟩ : MethodName) prog_37_method_13_code 1 (some .boolean) ws own_emp_R #[(.ref a1)] h0 (own_Q (.int (1 : Int32)) h0) := by
  refine MetFree.of_bodySF own_pn5 hisR ?_
  intro p e s m args below meth c s₁ Bd hml0 hP hK
  obtain ⟨rfl, hZ, hh⟩ := hP
  have hx := Bd.exec
  have hby := Bd.bytes
  have hml : c.maxLocals = 1 := hml0
  have hown : s.vm.findClass "com/example/fields_in_tables/fieldsintables/TextBuilder" = some m.cls := findClass_of_methodNamed Bd.named
  have hnm := (name_of_methodNamed Bd.named Bd.method).1
  have X0 : Stand p l e own_emp_R s m #[(.ref a1)] below meth c s₁ [] 0 0 := Stand.of_body Bd
  have e0 : s₁.heap = h0 := by rw [← hh, Bd.state]; rfl
  show own_G p e below (own_P s (own_Q (.int (1 : Int32)) h0) own_emp_R.cells own_emp_R.slots) (s₁.setTop (entryFrame m #[(.ref a1)] 1))
  rw [own_emp_ef m a1]
  show own_G p e below _ (s₁.setTop (mkF m 0 #[.val (.ref a1)] []))
  refine own_via (fun t k => XS.aloadN X0.here hx rfl (hb hby own_d5_0) rfl rfl k) ?_
  show own_G p e below _ (s₁.setTop (mkF m 1 #[.val (.ref a1)] [(.ref a1)]))
  obtain ⟨T1, X1, e1, st1⟩ := getF X0 hx hZ hown (host := "") (Or.inl (hw _ (List.mem_of_getElem? (i := 28) rfl))) Via.refl e0 i_F2 (g := (mkF m 1 #[.val (.ref a1)] [(.ref a1)])) rfl rfl (hb hby own_d5_1)
  refine own_via st1 ?_
  show own_G p e below _ (T1.setTop (mkF m 4 #[.val (.ref a1)] [(.long (0 : Int64))]))
  refine own_via (fun t k => XS.lconst X1.here hx rfl (hb hby own_d5_4) k) ?_
  show own_G p e below _ (T1.setTop (mkF m 5 #[.val (.ref a1)] [(.long (0 : Int64)), (.long (0 : Int64))]))
  refine own_via (fun t k => XS.lcmp X1.here hx rfl (hb hby own_d5_5) rfl k) ?_
  show own_G p e below _ (T1.setTop (mkF m 6 #[.val (.ref a1)] [(.int (lcmpW (0 : Int64) (0 : Int64)))]))
  refine own_via (fun t k => XS.ifNo X1.here hx rfl (hb hby own_d5_6) rfl ((if0 _ _).trans (teq ((lw_eq _ _).mpr (by decide : (0 : Int64) = (0 : Int64)))).2) k) ?_
  show own_G p e below _ (T1.setTop (mkF m 9 #[.val (.ref a1)] []))
  refine own_via (fun t k => XS.aloadN X1.here hx rfl (hb hby own_d5_9) rfl rfl k) ?_
  show own_G p e below _ (T1.setTop (mkF m 10 #[.val (.ref a1)] [(.ref a1)]))
  obtain ⟨T2, X2, e2, st2⟩ := getF X1 hx hZ hown (host := "") (Or.inl (hw _ (List.mem_of_getElem? (i := 30) rfl))) Via.refl e1 i_F3 (g := (mkF m 10 #[.val (.ref a1)] [(.ref a1)])) rfl rfl (hb hby own_d5_10)
  refine own_via st2 ?_
  show own_G p e below _ (T2.setTop (mkF m 13 #[.val (.ref a1)] [(.int (0 : Int32))]))
  refine own_via (fun t k => XS.ifNo X2.here hx rfl (hb hby own_d5_13) rfl ((if0 _ _).trans (teq (by decide : (0 : Int32) = (0 : Int32))).2) k) ?_
  show own_G p e below _ (T2.setTop (mkF m 16 #[.val (.ref a1)] []))
  refine own_via (fun t k => XS.iconst X2.here hx rfl (hb hby own_d5_16) k) ?_
  show own_G p e below _ (T2.setTop (mkF m 17 #[.val (.ref a1)] [(.int (1 : Int32))]))
  refine own_via (fun t k => XS.goto X2.here hx rfl (pc0 := 17) (pc' := 21) rfl (hb hby own_d5_17) (by decide) (by decide) k) ?_
  show own_G p e below _ (T2.setTop (mkF m 21 #[.val (.ref a1)] [(.int (1 : Int32))]))
  exact own_retN (t := .boolean) X2 hx Bd.returns (by simp) Bd.notSynchronized (hb hby own_d5_21) ⟨rfl, rfl, e2⟩ (by decide) (by decide)
theorem own_pn0 : plainFor x = true := plainFor_of_name (by first | (simp [plainName, overriddenIn]; done) | decide +kernel)
theorem own_rm0_ef (m : MethodId) (p0 : Int32) (p1 : Int32) (p2 : Int32) : entryFrame m #[(.int p0), (.int p1), (.int p2)] maxLocals = mkF m 0 #[.val (.int p0), .val (.int p1), .val (.int p2), .unset, .unset, .unset, .unset, .unset, .unset, .unset, .unset, .unset] [] := by first | (simp [entryFrame, mkF, argsToLocals, Value.category, maxLocals]; done) | rfl
set_option maxRecDepth 65536 in
set_option maxHeartbeats 40000000 in
theorem own_rm0 (l : Launch) (Z : State) (a0 : Array Value) (hw : ∀ d ∈ tables_1, d.before a0 Z = true) (ws : List Jvm.Cond) (p0 : Int32) (p1 : Int32) (p2 : Int32)  (h0 : Heap) (n0 : Nat) (Z0 : n0 ≤ h0.size)  :
    own_C l Z x code maxLocals ret ws room_1 #[(.int p0), (.int p1), (.int p2)] h0 (own_W n0 (fun v _ => v = some (.int 1))) := by
  refine MetFree.of_bodySF own_pn0 hisR ?_
  intro p e s m args below meth c s₁ Bd hml0 hP hK
  obtain ⟨rfl, hZ, hh⟩ := hP
  have hx := Bd.exec
  have hby := Bd.bytes
  have hml : c.maxLocals = 12 := hml0
  have hown : s.vm.findClass "com/example/fields_in_tables/fieldsintables/TextBuilderAsciiScratchPinLaw" = some m.cls := findClass_of_methodNamed Bd.named
  have hnm := (name_of_methodNamed Bd.named Bd.method).1
  have X0 : Stand p l e room_1 s m #[(.int p0), (.int p1), (.int p2)] below meth c s₁ [] 0 0 := Stand.of_body Bd
  have e0 : s₁.heap = h0 := by rw [← hh, Bd.state]; rfl
  have N0 := Fr.nil n0
  show own_G p e below (own_P s (own_W n0 (fun v _ => v = some (.int 1))) room_1.cells room_1.slots) (s₁.setTop (entryFrame m #[(.int p0), (.int p1), (.int p2)] maxLocals))
  rw [own_rm0_ef m p0 p1 p2]
  show own_G p e below _ (s₁.setTop (mkF m 0 #[.val (.int p0), .val (.int p1), .val (.int p2), .unset, .unset, .unset, .unset, .unset, .unset, .unset, .unset, .unset] []))
  refine own_via (fun t k => XS.iloadN X0.here hx rfl (hb hby at_0) rfl k) ?_
  show own_G p e below _ (s₁.setTop (mkF m 1 #[.val (.int p0), .val (.int p1), .val (.int p2), .unset, .unset, .unset, .unset, .unset, .unset, .unset, .unset, .unset] [(.int p0)]))
  refine own_via (fun t k => XS.sipush X0.here hx rfl (hb hby at_1) k) ?_
  show own_G p e below _ (s₁.setTop (mkF m 4 #[.val (.int p0), .val (.int p1), .val (.int p2), .unset, .unset, .unset, .unset, .unset, .unset, .unset, .unset, .unset] [(.int (1023 : Int32)), (.int p0)]))
  refine own_via (fun t k => XS.iand X0.here hx rfl (hb hby at_4) rfl k) ?_
  show own_G p e below _ (s₁.setTop (mkF m 5 #[.val (.int p0), .val (.int p1), .val (.int p2), .unset, .unset, .unset, .unset, .unset, .unset, .unset, .unset, .unset] [(.int (p0 &&& (1023 : Int32)))]))
  generalize hvg1 : (p0 &&& (1023 : Int32)) = vg1
  show own_G p e below _ (s₁.setTop (mkF m 5 #[.val (.int p0), .val (.int p1), .val (.int p2), .unset, .unset, .unset, .unset, .unset, .unset, .unset, .unset, .unset] [(.int vg1)]))
  refine own_via (fun t k => XS.istoreN X0.here hx rfl (hb hby at_5) rfl (l' := #[.val (.int p0), .val (.int p1), .val (.int p2), .val (.int vg1), .unset, .unset, .unset, .unset, .unset, .unset, .unset, .unset]) rfl k) ?_
  show own_G p e below _ (s₁.setTop (mkF m 6 #[.val (.int p0), .val (.int p1), .val (.int p2), .val (.int vg1), .unset, .unset, .unset, .unset, .unset, .unset, .unset, .unset] []))
  refine own_via (fun t k => XS.iloadN X0.here hx rfl (hb hby at_6) rfl k) ?_
  show own_G p e below _ (s₁.setTop (mkF m 7 #[.val (.int p0), .val (.int p1), .val (.int p2), .val (.int vg1), .unset, .unset, .unset, .unset, .unset, .unset, .unset, .unset] [(.int p1)]))
  refine own_via (fun t k => XS.sipush X0.here hx rfl (hb hby at_7) k) ?_
  show own_G p e below _ (s₁.setTop (mkF m 10 #[.val (.int p0), .val (.int p1), .val (.int p2), .val (.int vg1), .unset, .unset, .unset, .unset, .unset, .unset, .unset, .unset] [(.int (1023 : Int32)), (.int p1)]))
  refine own_via (fun t k => XS.iand X0.here hx rfl (hb hby at_10) rfl k) ?_
  show own_G p e below _ (s₁.setTop (mkF m 11 #[.val (.int p0), .val (.int p1), .val (.int p2), .val (.int vg1), .unset, .unset, .unset, .unset, .unset, .unset, .unset, .unset] [(.int (p1 &&& (1023 : Int32)))]))
  generalize hvg2 : (p1 &&& (1023 : Int32)) = vg2
  show own_G p e below _ (s₁.setTop (mkF m 11 #[.val (.int p0), .val (.int p1), .val (.int p2), .val (.int vg1), .unset, .unset, .unset, .unset, .unset, .unset, .unset, .unset] [(.int vg2)]))
  refine own_via (fun t k => XS.istore X0.here hx rfl (hb hby at_11) rfl (l' := #[.val (.int p0), .val (.int p1), .val (.int p2), .val (.int vg1), .val (.int vg2), .unset, .unset, .unset, .unset, .unset, .unset, .unset]) rfl k) ?_
  show own_G p e below _ (s₁.setTop (mkF m 13 #[.val (.int p0), .val (.int p1), .val (.int p2), .val (.int vg1), .val (.int vg2), .unset, .unset, .unset, .unset, .unset, .unset, .unset] []))
  refine own_via (fun t k => XS.iloadN X0.here hx rfl (hb hby at_13) rfl k) ?_
  show own_G p e below _ (s₁.setTop (mkF m 14 #[.val (.int p0), .val (.int p1), .val (.int p2), .val (.int vg1), .val (.int vg2), .unset, .unset, .unset, .unset, .unset, .unset, .unset] [(.int p2)]))
  refine own_via (fun t k => XS.sipush X0.here hx rfl (hb hby at_14) k) ?_
  show own_G p e below _ (s₁.setTop (mkF m 17 #[.val (.int p0), .val (.int p1), .val (.int p2), .val (.int vg1), .val (.int vg2), .unset, .unset, .unset, .unset, .unset, .unset, .unset] [(.int (1023 : Int32)), (.int p2)]))
  refine own_via (fun t k => XS.iand X0.here hx rfl (hb hby at_17) rfl k) ?_
  show own_G p e below _ (s₁.setTop (mkF m 18 #[.val (.int p0), .val (.int p1), .val (.int p2), .val (.int vg1), .val (.int vg2), .unset, .unset, .unset, .unset, .unset, .unset, .unset] [(.int (p2 &&& (1023 : Int32)))]))
  generalize hvg3 : (p2 &&& (1023 : Int32)) = vg3
  show own_G p e below _ (s₁.setTop (mkF m 18 #[.val (.int p0), .val (.int p1), .val (.int p2), .val (.int vg1), .val (.int vg2), .unset, .unset, .unset, .unset, .unset, .unset, .unset] [(.int vg3)]))
  refine own_via (fun t k => XS.istore X0.here hx rfl (hb hby at_18) rfl (l' := #[.val (.int p0), .val (.int p1), .val (.int p2), .val (.int vg1), .val (.int vg2), .val (.int vg3), .unset, .unset, .unset, .unset, .unset, .unset]) rfl k) ?_
  show own_G p e below _ (s₁.setTop (mkF m 20 #[.val (.int p0), .val (.int p1), .val (.int p2), .val (.int vg1), .val (.int vg2), .val (.int vg3), .unset, .unset, .unset, .unset, .unset, .unset] []))
  obtain ⟨T4, h4, b4, X4, e4, E4, ga4, A4, D4, st4⟩ := own_newO X0 hx hZ hown (hw _ (List.mem_of_getElem? (i := 0) rfl)) (hw _ (List.mem_of_getElem? (i := 1) rfl)) (hw _ (List.mem_of_getElem? (i := 2) rfl)) e0 (pc := 20) (Ls := #[.val (.int p0), .val (.int p1), .val (.int p2), .val (.int vg1), .val (.int vg2), .val (.int vg3), .unset, .unset, .unset, .unset, .unset, .unset]) (rest := []) (hb hby at_20) (by decide) (by decide)
  refine own_via st4 ?_
  have f5 : Fld Z h4 b4 "com/example/fields_in_tables/fieldsintables/TextBuilder" "latin1" "[B" .null := D4 (Or.inl (hw _ (List.mem_of_getElem? (i := 11) rfl))) (ty := (.array .byte)) (by decide)
  have f6 : Fld Z h4 b4 "com/example/fields_in_tables/fieldsintables/TextBuilder" "asciiScratch" "[B" .null := D4 (Or.inl (hw _ (List.mem_of_getElem? (i := 18) rfl))) (ty := (.array .byte)) (by decide)
  have f7 : Fld Z h4 b4 "com/example/fields_in_tables/fieldsintables/TextBuilder" "setAsideLength" "J" (.long (0 : Int64)) := D4 (Or.inl (hw _ (List.mem_of_getElem? (i := 29) rfl))) (ty := .long) (by decide)
  have f8 : Fld Z h4 b4 "com/example/fields_in_tables/fieldsintables/TextBuilder" "length" "I" (.int (0 : Int32)) := D4 (Or.inl (hw _ (List.mem_of_getElem? (i := 31) rfl))) (ty := .int) (by decide)
  have g_b4 : n0 ≤ b4 := Nat.le_trans Z0 (Nat.le_of_eq ga4.symm)
  have Zs9 : n0 ≤ h4.size := Nat.le_trans Z0 E4.1
  show own_G p e below _ (T4.setTop (mkF m 23 #[.val (.int p0), .val (.int p1), .val (.int p2), .val (.int vg1), .val (.int vg2), .val (.int vg3), .unset, .unset, .unset, .unset, .unset, .unset] [(.ref b4)]))
  refine own_via (fun t k => XS.dup X4.here hx rfl (hb hby at_23) rfl rfl k) ?_
  show own_G p e below _ (T4.setTop (mkF m 24 #[.val (.int p0), .val (.int p1), .val (.int p2), .val (.int vg1), .val (.int vg2), .val (.int vg3), .unset, .unset, .unset, .unset, .unset, .unset] [(.ref b4), (.ref b4)]))
  obtain ⟨v10, T10, h10, L10, X10, N10, e10, hq10, st10⟩ := own_callI (y := (⟨"com/example/fields_in_tables/fieldsintables/TextBuilder", "<init>", "()V"⟩ : MethodName)) (W := 1) (a := b4) X4 N0 hx hZ rfl hown (hw _ (List.mem_of_getElem? (i := 3) rfl)) (hw _ (List.mem_of_getElem? (i := 4) rfl)) (hw _ (List.mem_of_getElem? (i := 2) rfl)) (hw _ (List.mem_of_getElem? (i := 5) rfl)) (by decide) (own_init l Z a0 hw [] b4 (.null) (.long (0 : Int64)) (.int (0 : Int32)) (.null) h4 n0 Zs9 A4 f6 f7 f8 f5 g_b4) (by decide) (by decide) (by decide) (by decide) e4 (pc := 24) (Ls := #[.val (.int p0), .val (.int p1), .val (.int p2), .val (.int vg1), .val (.int vg2), .val (.int vg3), .unset, .unset, .unset, .unset, .unset, .unset]) (st := [(.ref b4), (.ref b4)]) (argsL := []) (rest := [(.ref b4)]) (by rw [hml]; rfl) (lenOf own_pd0 rfl) rfl rfl (Nat.le_of_eq rfl) (hb hby at_24)
  obtain ⟨rfl, K10, o10_0, o10_1, o10_2, o10_3⟩ := hq10
  refine own_via st10 ?_
  have f11 : Exa Z h10 b4 "com/example/fields_in_tables/fieldsintables/TextBuilder" := A4.keep K10
  have Zs12 : n0 ≤ h10.size := Nat.le_trans Zs9 K10.1
  show own_G p e below _ (T10.setTop (mkF m 27 #[.val (.int p0), .val (.int p1), .val (.int p2), .val (.int vg1), .val (.int vg2), .val (.int vg3), .unset, .unset, .unset, .unset, .unset, .unset] [(.ref b4)]))
  refine own_via (fun t k => XS.astore X10.here hx rfl (hb hby at_27) rfl rfl (l' := #[.val (.int p0), .val (.int p1), .val (.int p2), .val (.int vg1), .val (.int vg2), .val (.int vg3), .val (.ref b4), .unset, .unset, .unset, .unset, .unset]) rfl k) ?_
  show own_G p e below _ (T10.setTop (mkF m 29 #[.val (.int p0), .val (.int p1), .val (.int p2), .val (.int vg1), .val (.int vg2), .val (.int vg3), .val (.ref b4), .unset, .unset, .unset, .unset, .unset] []))
  refine own_via (fun t k => XS.aload X10.here hx rfl (hb hby at_29) rfl rfl k) ?_
  show own_G p e below _ (T10.setTop (mkF m 31 #[.val (.int p0), .val (.int p1), .val (.int p2), .val (.int vg1), .val (.int vg2), .val (.int vg3), .val (.ref b4), .unset, .unset, .unset, .unset, .unset] [(.ref b4)]))
  refine own_via (fun t k => XS.iloadN X10.here hx rfl (hb hby at_31) rfl k) ?_
  show own_G p e below _ (T10.setTop (mkF m 32 #[.val (.int p0), .val (.int p1), .val (.int p2), .val (.int vg1), .val (.int vg2), .val (.int vg3), .val (.ref b4), .unset, .unset, .unset, .unset, .unset] [(.int vg1), (.ref b4)]))
  obtain ⟨v13, T13, h13, L13, X13, N13, e13, hq13, st13⟩ := own_callV (y := (⟨"com/example/fields_in_tables/fieldsintables/TextBuilder", "asciiScratch", "(I)[B"⟩ : MethodName)) (z := (⟨"com/example/fields_in_tables/fieldsintables/TextBuilder", "asciiScratch", "(I)[B"⟩ : MethodName)) (W := 0) (a := b4) X10 N10 hx hZ hown (hw _ (List.mem_of_getElem? (i := 12) rfl)) (hw _ (List.mem_of_getElem? (i := 13) rfl)) (notFace_of_selects (args := #[]) (mvT hZ (hw _ (List.mem_of_getElem? (i := 15) rfl)))) (hw _ (List.mem_of_getElem? (i := 15) rfl)) (hw _ (List.mem_of_getElem? (i := 14) rfl)) (hw _ (List.mem_of_getElem? (i := 2) rfl)) (hw _ (List.mem_of_getElem? (i := 16) rfl)) (by decide) (own_s0 l Z a0 hw [] b4 vg1 (.long (0 : Int64)) (.int (0 : Int32)) h10 n0 Zs12 o10_0 o10_1 o10_2 o10_3 g_b4 (by have q := (own_m1023 p0).1; rw [hvg1] at q; exact q) (by have q := (own_m1023 p0).2; rw [hvg1] at q; exact q)) (by decide) (by decide) (by decide) (by decide) e10 o10_0 (pc := 32) (Ls := #[.val (.int p0), .val (.int p1), .val (.int p2), .val (.int vg1), .val (.int vg2), .val (.int vg3), .val (.ref b4), .unset, .unset, .unset, .unset, .unset]) (st := [(.int vg1), (.ref b4)]) (argsL := [(.int vg1)]) (rest := []) (by rw [hml]; rfl) (lenOf own_pd1 rfl) rfl rfl (Nat.le_of_eq rfl) (hb hby at_32)
  obtain ⟨x13, k13, rfl, K13, zf_x13, o13_0, o13_1, o13_2, o13_3, o13_4⟩ := hq13
  refine own_via st13 ?_
  have ne14 : b4 ≠ x13 := Nat.ne_of_lt (Nat.lt_of_lt_of_le o10_0.lt zf_x13)
  have g_x13 : n0 ≤ x13 := Nat.le_trans Zs12 zf_x13
  have f15 : Exa Z h13 b4 "com/example/fields_in_tables/fieldsintables/TextBuilder" := o10_0.keep K13
  have Zs16 : n0 ≤ h13.size := Nat.le_trans Zs12 K13.1
  show own_G p e below _ (T13.setTop (mkF m 35 #[.val (.int p0), .val (.int p1), .val (.int p2), .val (.int vg1), .val (.int vg2), .val (.int vg3), .val (.ref b4), .unset, .unset, .unset, .unset, .unset] [(.ref x13)]))
  refine own_via (fun t k => XS.astore X13.here hx rfl (hb hby at_35) rfl rfl (l' := #[.val (.int p0), .val (.int p1), .val (.int p2), .val (.int vg1), .val (.int vg2), .val (.int vg3), .val (.ref b4), .val (.ref x13), .unset, .unset, .unset, .unset]) rfl k) ?_
  show own_G p e below _ (T13.setTop (mkF m 37 #[.val (.int p0), .val (.int p1), .val (.int p2), .val (.int vg1), .val (.int vg2), .val (.int vg3), .val (.ref b4), .val (.ref x13), .unset, .unset, .unset, .unset] []))
  refine own_via (fun t k => XS.aload X13.here hx rfl (hb hby at_37) rfl rfl k) ?_
  show own_G p e below _ (T13.setTop (mkF m 39 #[.val (.int p0), .val (.int p1), .val (.int p2), .val (.int vg1), .val (.int vg2), .val (.int vg3), .val (.ref b4), .val (.ref x13), .unset, .unset, .unset, .unset] [(.ref x13)]))
  refine own_via (fun t k => XS.ifnullNo X13.here hx rfl (hb hby at_39) rfl k) ?_
  show own_G p e below _ (T13.setTop (mkF m 42 #[.val (.int p0), .val (.int p1), .val (.int p2), .val (.int vg1), .val (.int vg2), .val (.int vg3), .val (.ref b4), .val (.ref x13), .unset, .unset, .unset, .unset] []))
  refine own_via (fun t k => XS.aload X13.here hx rfl (hb hby at_42) rfl rfl k) ?_
  show own_G p e below _ (T13.setTop (mkF m 44 #[.val (.int p0), .val (.int p1), .val (.int p2), .val (.int vg1), .val (.int vg2), .val (.int vg3), .val (.ref b4), .val (.ref x13), .unset, .unset, .unset, .unset] [(.ref x13)]))
  refine own_via (own_len X13 hx hZ e13 o13_4 (pc := 44) (Ls := #[.val (.int p0), .val (.int p1), .val (.int p2), .val (.int vg1), .val (.int vg2), .val (.int vg3), .val (.ref b4), .val (.ref x13), .unset, .unset, .unset, .unset]) (rest := []) (hb hby at_44)) ?_
  show own_G p e below _ (T13.setTop (mkF m 45 #[.val (.int p0), .val (.int p1), .val (.int p2), .val (.int vg1), .val (.int vg2), .val (.int vg3), .val (.ref b4), .val (.ref x13), .unset, .unset, .unset, .unset] [(.int vg1)]))
  refine own_via (fun t k => XS.iloadN X13.here hx rfl (hb hby at_45) rfl k) ?_
  show own_G p e below _ (T13.setTop (mkF m 46 #[.val (.int p0), .val (.int p1), .val (.int p2), .val (.int vg1), .val (.int vg2), .val (.int vg3), .val (.ref b4), .val (.ref x13), .unset, .unset, .unset, .unset] [(.int vg1), (.int vg1)]))
  refine own_via (fun t k => XS.icmpNo X13.here hx rfl (hb hby at_46) rfl (teq rfl).2 k) ?_
  show own_G p e below _ (T13.setTop (mkF m 49 #[.val (.int p0), .val (.int p1), .val (.int p2), .val (.int vg1), .val (.int vg2), .val (.int vg3), .val (.ref b4), .val (.ref x13), .unset, .unset, .unset, .unset] []))
  refine own_via (fun t k => XS.iconst X13.here hx rfl (hb hby at_49) k) ?_
  show own_G p e below _ (T13.setTop (mkF m 50 #[.val (.int p0), .val (.int p1), .val (.int p2), .val (.int vg1), .val (.int vg2), .val (.int vg3), .val (.ref b4), .val (.ref x13), .unset, .unset, .unset, .unset] [(.int (1 : Int32))]))
  refine own_via (fun t k => XS.goto X13.here hx rfl (pc0 := 50) (pc' := 54) rfl (hb hby at_50) (by decide) (by decide) k) ?_
  show own_G p e below _ (T13.setTop (mkF m 54 #[.val (.int p0), .val (.int p1), .val (.int p2), .val (.int vg1), .val (.int vg2), .val (.int vg3), .val (.ref b4), .val (.ref x13), .unset, .unset, .unset, .unset] [(.int (1 : Int32))]))
  refine own_via (fun t k => XS.istore X13.here hx rfl (hb hby at_54) rfl (l' := #[.val (.int p0), .val (.int p1), .val (.int p2), .val (.int vg1), .val (.int vg2), .val (.int vg3), .val (.ref b4), .val (.ref x13), .val (.int (1 : Int32)), .unset, .unset, .unset]) rfl k) ?_
  show own_G p e below _ (T13.setTop (mkF m 56 #[.val (.int p0), .val (.int p1), .val (.int p2), .val (.int vg1), .val (.int vg2), .val (.int vg3), .val (.ref b4), .val (.ref x13), .val (.int (1 : Int32)), .unset, .unset, .unset] []))
  refine own_via (fun t k => XS.aload X13.here hx rfl (hb hby at_56) rfl rfl k) ?_
  show own_G p e below _ (T13.setTop (mkF m 58 #[.val (.int p0), .val (.int p1), .val (.int p2), .val (.int vg1), .val (.int vg2), .val (.int vg3), .val (.ref b4), .val (.ref x13), .val (.int (1 : Int32)), .unset, .unset, .unset] [(.ref b4)]))
  refine own_via (fun t k => XS.iload X13.here hx rfl (hb hby at_58) rfl k) ?_
  show own_G p e below _ (T13.setTop (mkF m 60 #[.val (.int p0), .val (.int p1), .val (.int p2), .val (.int vg1), .val (.int vg2), .val (.int vg3), .val (.ref b4), .val (.ref x13), .val (.int (1 : Int32)), .unset, .unset, .unset] [(.int vg2), (.ref b4)]))
  by_cases hc17 : vg1 < vg2
  ·
    show own_G p e below _ (T13.setTop (mkF m 60 #[.val (.int p0), .val (.int p1), .val (.int p2), .val (.int vg1), .val (.int vg2), .val (.int vg3), .val (.ref b4), .val (.ref x13), .val (.int (1 : Int32)), .unset, .unset, .unset] [(.int vg2), (.ref b4)]))
    obtain ⟨v18, T18, h18, L18, X18, N18, e18, hq18, st18⟩ := own_callV (y := (⟨"com/example/fields_in_tables/fieldsintables/TextBuilder", "asciiScratch", "(I)[B"⟩ : MethodName)) (z := (⟨"com/example/fields_in_tables/fieldsintables/TextBuilder", "asciiScratch", "(I)[B"⟩ : MethodName)) (W := 0) (a := b4) X13 N13 hx hZ hown (hw _ (List.mem_of_getElem? (i := 12) rfl)) (hw _ (List.mem_of_getElem? (i := 13) rfl)) (notFace_of_selects (args := #[]) (mvT hZ (hw _ (List.mem_of_getElem? (i := 15) rfl)))) (hw _ (List.mem_of_getElem? (i := 15) rfl)) (hw _ (List.mem_of_getElem? (i := 14) rfl)) (hw _ (List.mem_of_getElem? (i := 2) rfl)) (hw _ (List.mem_of_getElem? (i := 16) rfl)) (by decide) (own_s1 l Z a0 hw [] b4 vg2 x13 k13 vg1 [] (.int (0 : Int32)) (.long (0 : Int64)) (.int (0 : Int32)) h13 n0 Zs16 o13_0 o13_1 o13_2 o13_3 o13_4 g_b4 hc17 (by have q := (own_m1023 p1).1; rw [hvg2] at q; exact q) (by have q := (own_m1023 p1).2; rw [hvg2] at q; exact q)) (by decide) (by decide) (by decide) (by decide) e13 o13_0 (pc := 60) (Ls := #[.val (.int p0), .val (.int p1), .val (.int p2), .val (.int vg1), .val (.int vg2), .val (.int vg3), .val (.ref b4), .val (.ref x13), .val (.int (1 : Int32)), .unset, .unset, .unset]) (st := [(.int vg2), (.ref b4)]) (argsL := [(.int vg2)]) (rest := []) (by rw [hml]; rfl) (lenOf own_pd1 rfl) rfl rfl (Nat.le_of_eq rfl) (hb hby at_60)
    obtain ⟨x18, k18, rfl, K18, zf_x18, o18_0, o18_1, o18_2, o18_3, o18_4⟩ := hq18
    refine own_via st18 ?_
    have ne19 : b4 ≠ x18 := Nat.ne_of_lt (Nat.lt_of_lt_of_le o13_0.lt zf_x18)
    have ne20 : x13 ≠ x18 := Nat.ne_of_lt (Nat.lt_of_lt_of_le o13_4.lt zf_x18)
    have g_x18 : n0 ≤ x18 := Nat.le_trans Zs16 zf_x18
    have f21 : Exa Z h18 b4 "com/example/fields_in_tables/fieldsintables/TextBuilder" := o13_0.keep K18
    have f22 : Arv Z h18 x13 k13 .byte vg1 [] (.int (0 : Int32)) := o13_4.keep K18 (by simp only [List.mem_cons, List.not_mem_nil, or_false, not_or]; exact (Ne.symm ne14))
    have Zs23 : n0 ≤ h18.size := Nat.le_trans Zs16 K18.1
    show own_G p e below _ (T18.setTop (mkF m 63 #[.val (.int p0), .val (.int p1), .val (.int p2), .val (.int vg1), .val (.int vg2), .val (.int vg3), .val (.ref b4), .val (.ref x13), .val (.int (1 : Int32)), .unset, .unset, .unset] [(.ref x18)]))
    refine own_via (fun t k => XS.astore X18.here hx rfl (hb hby at_63) rfl rfl (l' := #[.val (.int p0), .val (.int p1), .val (.int p2), .val (.int vg1), .val (.int vg2), .val (.int vg3), .val (.ref b4), .val (.ref x13), .val (.int (1 : Int32)), .val (.ref x18), .unset, .unset]) rfl k) ?_
    show own_G p e below _ (T18.setTop (mkF m 65 #[.val (.int p0), .val (.int p1), .val (.int p2), .val (.int vg1), .val (.int vg2), .val (.int vg3), .val (.ref b4), .val (.ref x13), .val (.int (1 : Int32)), .val (.ref x18), .unset, .unset] []))
    refine own_via (fun t k => XS.iload X18.here hx rfl (hb hby at_65) rfl k) ?_
    show own_G p e below _ (T18.setTop (mkF m 67 #[.val (.int p0), .val (.int p1), .val (.int p2), .val (.int vg1), .val (.int vg2), .val (.int vg3), .val (.ref b4), .val (.ref x13), .val (.int (1 : Int32)), .val (.ref x18), .unset, .unset] [(.int vg2)]))
    refine own_via (fun t k => XS.iloadN X18.here hx rfl (hb hby at_67) rfl k) ?_
    show own_G p e below _ (T18.setTop (mkF m 68 #[.val (.int p0), .val (.int p1), .val (.int p2), .val (.int vg1), .val (.int vg2), .val (.int vg3), .val (.ref b4), .val (.ref x13), .val (.int (1 : Int32)), .val (.ref x18), .unset, .unset] [(.int vg1), (.int vg2)]))
    refine own_via (fun t k => XS.icmpYes X18.here hx rfl (pc0 := 68) (pc' := 93) rfl (hb hby at_68) rfl (tlt hc17).2.2.1 (by decide) (by decide) k) ?_
    show own_G p e below _ (T18.setTop (mkF m 93 #[.val (.int p0), .val (.int p1), .val (.int p2), .val (.int vg1), .val (.int vg2), .val (.int vg3), .val (.ref b4), .val (.ref x13), .val (.int (1 : Int32)), .val (.ref x18), .unset, .unset] []))
    refine own_via (fun t k => XS.iload X18.here hx rfl (hb hby at_93) rfl k) ?_
    show own_G p e below _ (T18.setTop (mkF m 95 #[.val (.int p0), .val (.int p1), .val (.int p2), .val (.int vg1), .val (.int vg2), .val (.int vg3), .val (.ref b4), .val (.ref x13), .val (.int (1 : Int32)), .val (.ref x18), .unset, .unset] [(.int (1 : Int32))]))
    refine own_via (fun t k => XS.ifNo X18.here hx rfl (hb hby at_95) rfl ((if0 _ _).trans (feq (by decide : ¬ ((1 : Int32) = (0 : Int32)))).1) k) ?_
    show own_G p e below _ (T18.setTop (mkF m 98 #[.val (.int p0), .val (.int p1), .val (.int p2), .val (.int vg1), .val (.int vg2), .val (.int vg3), .val (.ref b4), .val (.ref x13), .val (.int (1 : Int32)), .val (.ref x18), .unset, .unset] []))
    refine own_via (fun t k => XS.aload X18.here hx rfl (hb hby at_98) rfl rfl k) ?_
    show own_G p e below _ (T18.setTop (mkF m 100 #[.val (.int p0), .val (.int p1), .val (.int p2), .val (.int vg1), .val (.int vg2), .val (.int vg3), .val (.ref b4), .val (.ref x13), .val (.int (1 : Int32)), .val (.ref x18), .unset, .unset] [(.ref x18)]))
    refine own_via (fun t k => XS.ifnullNo X18.here hx rfl (hb hby at_100) rfl k) ?_
    show own_G p e below _ (T18.setTop (mkF m 103 #[.val (.int p0), .val (.int p1), .val (.int p2), .val (.int vg1), .val (.int vg2), .val (.int vg3), .val (.ref b4), .val (.ref x13), .val (.int (1 : Int32)), .val (.ref x18), .unset, .unset] []))
    refine own_via (fun t k => XS.aload X18.here hx rfl (hb hby at_103) rfl rfl k) ?_
    show own_G p e below _ (T18.setTop (mkF m 105 #[.val (.int p0), .val (.int p1), .val (.int p2), .val (.int vg1), .val (.int vg2), .val (.int vg3), .val (.ref b4), .val (.ref x13), .val (.int (1 : Int32)), .val (.ref x18), .unset, .unset] [(.ref x18)]))
    refine own_via (fun t k => XS.aload X18.here hx rfl (hb hby at_105) rfl rfl k) ?_
    show own_G p e below _ (T18.setTop (mkF m 107 #[.val (.int p0), .val (.int p1), .val (.int p2), .val (.int vg1), .val (.int vg2), .val (.int vg3), .val (.ref b4), .val (.ref x13), .val (.int (1 : Int32)), .val (.ref x18), .unset, .unset] [(.ref x13), (.ref x18)]))
    refine own_via (fun t k => Jvm.RoadKit.acmp (g := (mkF m 107 #[.val (.int p0), .val (.int p1), .val (.int p2), .val (.int vg1), .val (.int vg2), .val (.int vg3), .val (.ref b4), .val (.ref x13), .val (.int (1 : Int32)), .val (.ref x18), .unset, .unset] [(.ref x13), (.ref x18)])) X18 hx rfl rfl rfl (pc0 := 107) (pc' := 110) (same := false) rfl (hb hby at_107) rfl (decide_eq_false fun q => (Ne.symm ne20) (Value.ref.inj q)) (by decide) (by decide) k) ?_
    show own_G p e below _ (T18.setTop (mkF m 110 #[.val (.int p0), .val (.int p1), .val (.int p2), .val (.int vg1), .val (.int vg2), .val (.int vg3), .val (.ref b4), .val (.ref x13), .val (.int (1 : Int32)), .val (.ref x18), .unset, .unset] []))
    refine own_via (fun t k => XS.aload X18.here hx rfl (hb hby at_110) rfl rfl k) ?_
    show own_G p e below _ (T18.setTop (mkF m 112 #[.val (.int p0), .val (.int p1), .val (.int p2), .val (.int vg1), .val (.int vg2), .val (.int vg3), .val (.ref b4), .val (.ref x13), .val (.int (1 : Int32)), .val (.ref x18), .unset, .unset] [(.ref x18)]))
    refine own_via (own_len X18 hx hZ e18 o18_4 (pc := 112) (Ls := #[.val (.int p0), .val (.int p1), .val (.int p2), .val (.int vg1), .val (.int vg2), .val (.int vg3), .val (.ref b4), .val (.ref x13), .val (.int (1 : Int32)), .val (.ref x18), .unset, .unset]) (rest := []) (hb hby at_112)) ?_
    show own_G p e below _ (T18.setTop (mkF m 113 #[.val (.int p0), .val (.int p1), .val (.int p2), .val (.int vg1), .val (.int vg2), .val (.int vg3), .val (.ref b4), .val (.ref x13), .val (.int (1 : Int32)), .val (.ref x18), .unset, .unset] [(.int vg2)]))
    refine own_via (fun t k => XS.iload X18.here hx rfl (hb hby at_113) rfl k) ?_
    show own_G p e below _ (T18.setTop (mkF m 115 #[.val (.int p0), .val (.int p1), .val (.int p2), .val (.int vg1), .val (.int vg2), .val (.int vg3), .val (.ref b4), .val (.ref x13), .val (.int (1 : Int32)), .val (.ref x18), .unset, .unset] [(.int vg2), (.int vg2)]))
    refine own_via (fun t k => XS.icmpNo X18.here hx rfl (hb hby at_115) rfl (teq rfl).2 k) ?_
    show own_G p e below _ (T18.setTop (mkF m 118 #[.val (.int p0), .val (.int p1), .val (.int p2), .val (.int vg1), .val (.int vg2), .val (.int vg3), .val (.ref b4), .val (.ref x13), .val (.int (1 : Int32)), .val (.ref x18), .unset, .unset] []))
    refine own_via (fun t k => XS.iconst X18.here hx rfl (hb hby at_118) k) ?_
    show own_G p e below _ (T18.setTop (mkF m 119 #[.val (.int p0), .val (.int p1), .val (.int p2), .val (.int vg1), .val (.int vg2), .val (.int vg3), .val (.ref b4), .val (.ref x13), .val (.int (1 : Int32)), .val (.ref x18), .unset, .unset] [(.int (1 : Int32))]))
    refine own_via (fun t k => XS.goto X18.here hx rfl (pc0 := 119) (pc' := 123) rfl (hb hby at_119) (by decide) (by decide) k) ?_
    show own_G p e below _ (T18.setTop (mkF m 123 #[.val (.int p0), .val (.int p1), .val (.int p2), .val (.int vg1), .val (.int vg2), .val (.int vg3), .val (.ref b4), .val (.ref x13), .val (.int (1 : Int32)), .val (.ref x18), .unset, .unset] [(.int (1 : Int32))]))
    refine own_via (fun t k => XS.istore X18.here hx rfl (hb hby at_123) rfl (l' := #[.val (.int p0), .val (.int p1), .val (.int p2), .val (.int vg1), .val (.int vg2), .val (.int vg3), .val (.ref b4), .val (.ref x13), .val (.int (1 : Int32)), .val (.ref x18), .unset, .unset]) rfl k) ?_
    show own_G p e below _ (T18.setTop (mkF m 125 #[.val (.int p0), .val (.int p1), .val (.int p2), .val (.int vg1), .val (.int vg2), .val (.int vg3), .val (.ref b4), .val (.ref x13), .val (.int (1 : Int32)), .val (.ref x18), .unset, .unset] []))
    refine own_via (fun t k => XS.iloadN X18.here hx rfl (hb hby at_125) rfl k) ?_
    show own_G p e below _ (T18.setTop (mkF m 126 #[.val (.int p0), .val (.int p1), .val (.int p2), .val (.int vg1), .val (.int vg2), .val (.int vg3), .val (.ref b4), .val (.ref x13), .val (.int (1 : Int32)), .val (.ref x18), .unset, .unset] [(.int vg1)]))
    refine own_via (fun t k => XS.iload X18.here hx rfl (hb hby at_126) rfl k) ?_
    show own_G p e below _ (T18.setTop (mkF m 128 #[.val (.int p0), .val (.int p1), .val (.int p2), .val (.int vg1), .val (.int vg2), .val (.int vg3), .val (.ref b4), .val (.ref x13), .val (.int (1 : Int32)), .val (.ref x18), .unset, .unset] [(.int vg2), (.int vg1)]))
    obtain ⟨T24, X24, e24, st24⟩ := own_callP (y := (⟨"java/lang/Math", "max", "(II)I"⟩ : MethodName)) (W := 0) X18 hx hZ hown (hw _ (List.mem_of_getElem? (i := 19) rfl)) (hw _ (List.mem_of_getElem? (i := 20) rfl)) (hw _ (List.mem_of_getElem? (i := 21) rfl)) (hw _ (List.mem_of_getElem? (i := 22) rfl)) (by decide) (own_rm4 l Z a0 hw [] vg1 vg2 h18) (by decide) (by decide) rfl rfl (by decide) (by decide) e18 (pc := 128) (Ls := #[.val (.int p0), .val (.int p1), .val (.int p2), .val (.int vg1), .val (.int vg2), .val (.int vg3), .val (.ref b4), .val (.ref x13), .val (.int (1 : Int32)), .val (.ref x18), .unset, .unset]) (st := [(.int vg2), (.int vg1)]) (argsL := [(.int vg1), (.int vg2)]) (rest := []) (by rw [hml]; rfl) (lenOf own_pd2 rfl) rfl rfl (Nat.le_of_eq rfl) (hb hby at_128)
    refine own_via st24 ?_
    show own_G p e below _ (T24.setTop (mkF m 131 #[.val (.int p0), .val (.int p1), .val (.int p2), .val (.int vg1), .val (.int vg2), .val (.int vg3), .val (.ref b4), .val (.ref x13), .val (.int (1 : Int32)), .val (.ref x18), .unset, .unset] [(.int (own_F4 vg1 vg2))]))
    rw [show (own_F4 vg1 vg2) = vg2 from (if_pos hc17)]
    show own_G p e below _ (T24.setTop (mkF m 131 #[.val (.int p0), .val (.int p1), .val (.int p2), .val (.int vg1), .val (.int vg2), .val (.int vg3), .val (.ref b4), .val (.ref x13), .val (.int (1 : Int32)), .val (.ref x18), .unset, .unset] [(.int vg2)]))
    refine own_via (fun t k => XS.istore X24.here hx rfl (hb hby at_131) rfl (l' := #[.val (.int p0), .val (.int p1), .val (.int p2), .val (.int vg1), .val (.int vg2), .val (.int vg3), .val (.ref b4), .val (.ref x13), .val (.int (1 : Int32)), .val (.ref x18), .val (.int vg2), .unset]) rfl k) ?_
    show own_G p e below _ (T24.setTop (mkF m 133 #[.val (.int p0), .val (.int p1), .val (.int p2), .val (.int vg1), .val (.int vg2), .val (.int vg3), .val (.ref b4), .val (.ref x13), .val (.int (1 : Int32)), .val (.ref x18), .val (.int vg2), .unset] []))
    refine own_via (fun t k => XS.aload X24.here hx rfl (hb hby at_133) rfl rfl k) ?_
    show own_G p e below _ (T24.setTop (mkF m 135 #[.val (.int p0), .val (.int p1), .val (.int p2), .val (.int vg1), .val (.int vg2), .val (.int vg3), .val (.ref b4), .val (.ref x13), .val (.int (1 : Int32)), .val (.ref x18), .val (.int vg2), .unset] [(.ref b4)]))
    refine own_via (fun t k => XS.iload X24.here hx rfl (hb hby at_135) rfl k) ?_
    show own_G p e below _ (T24.setTop (mkF m 137 #[.val (.int p0), .val (.int p1), .val (.int p2), .val (.int vg1), .val (.int vg2), .val (.int vg3), .val (.ref b4), .val (.ref x13), .val (.int (1 : Int32)), .val (.ref x18), .val (.int vg2), .unset] [(.int vg3), (.ref b4)]))
    by_cases hc25 : vg2 < vg3
    ·
      show own_G p e below _ (T24.setTop (mkF m 137 #[.val (.int p0), .val (.int p1), .val (.int p2), .val (.int vg1), .val (.int vg2), .val (.int vg3), .val (.ref b4), .val (.ref x13), .val (.int (1 : Int32)), .val (.ref x18), .val (.int vg2), .unset] [(.int vg3), (.ref b4)]))
      obtain ⟨v26, T26, h26, L26, X26, N26, e26, hq26, st26⟩ := own_callV (y := (⟨"com/example/fields_in_tables/fieldsintables/TextBuilder", "asciiScratch", "(I)[B"⟩ : MethodName)) (z := (⟨"com/example/fields_in_tables/fieldsintables/TextBuilder", "asciiScratch", "(I)[B"⟩ : MethodName)) (W := 0) (a := b4) X24 N18 hx hZ hown (hw _ (List.mem_of_getElem? (i := 12) rfl)) (hw _ (List.mem_of_getElem? (i := 13) rfl)) (notFace_of_selects (args := #[]) (mvT hZ (hw _ (List.mem_of_getElem? (i := 15) rfl)))) (hw _ (List.mem_of_getElem? (i := 15) rfl)) (hw _ (List.mem_of_getElem? (i := 14) rfl)) (hw _ (List.mem_of_getElem? (i := 2) rfl)) (hw _ (List.mem_of_getElem? (i := 16) rfl)) (by decide) (own_s1 l Z a0 hw [] b4 vg3 x18 k18 vg2 [] (.int (0 : Int32)) (.long (0 : Int64)) (.int (0 : Int32)) h18 n0 Zs23 o18_0 o18_1 o18_2 o18_3 o18_4 g_b4 hc25 (by have q := (own_m1023 p2).1; rw [hvg3] at q; exact q) (by have q := (own_m1023 p2).2; rw [hvg3] at q; exact q)) (by decide) (by decide) (by decide) (by decide) e24 o18_0 (pc := 137) (Ls := #[.val (.int p0), .val (.int p1), .val (.int p2), .val (.int vg1), .val (.int vg2), .val (.int vg3), .val (.ref b4), .val (.ref x13), .val (.int (1 : Int32)), .val (.ref x18), .val (.int vg2), .unset]) (st := [(.int vg3), (.ref b4)]) (argsL := [(.int vg3)]) (rest := []) (by rw [hml]; rfl) (lenOf own_pd1 rfl) rfl rfl (Nat.le_of_eq rfl) (hb hby at_137)
      obtain ⟨x26, k26, rfl, K26, zf_x26, o26_0, o26_1, o26_2, o26_3, o26_4⟩ := hq26
      refine own_via st26 ?_
      have ne27 : b4 ≠ x26 := Nat.ne_of_lt (Nat.lt_of_lt_of_le o18_0.lt zf_x26)
      have ne28 : x13 ≠ x26 := Nat.ne_of_lt (Nat.lt_of_lt_of_le f22.lt zf_x26)
      have ne29 : x18 ≠ x26 := Nat.ne_of_lt (Nat.lt_of_lt_of_le o18_4.lt zf_x26)
      have g_x26 : n0 ≤ x26 := Nat.le_trans Zs23 zf_x26
      have f30 : Exa Z h26 b4 "com/example/fields_in_tables/fieldsintables/TextBuilder" := o18_0.keep K26
      have f31 : Arv Z h26 x13 k13 .byte vg1 [] (.int (0 : Int32)) := f22.keep K26 (by simp only [List.mem_cons, List.not_mem_nil, or_false, not_or]; exact (Ne.symm ne14))
      have f32 : Arv Z h26 x18 k18 .byte vg2 [] (.int (0 : Int32)) := o18_4.keep K26 (by simp only [List.mem_cons, List.not_mem_nil, or_false, not_or]; exact (Ne.symm ne19))
      have Zs33 : n0 ≤ h26.size := Nat.le_trans Zs23 K26.1
      show own_G p e below _ (T26.setTop (mkF m 140 #[.val (.int p0), .val (.int p1), .val (.int p2), .val (.int vg1), .val (.int vg2), .val (.int vg3), .val (.ref b4), .val (.ref x13), .val (.int (1 : Int32)), .val (.ref x18), .val (.int vg2), .unset] [(.ref x26)]))
      refine own_via (fun t k => XS.astore X26.here hx rfl (hb hby at_140) rfl rfl (l' := #[.val (.int p0), .val (.int p1), .val (.int p2), .val (.int vg1), .val (.int vg2), .val (.int vg3), .val (.ref b4), .val (.ref x13), .val (.int (1 : Int32)), .val (.ref x18), .val (.int vg2), .val (.ref x26)]) rfl k) ?_
      show own_G p e below _ (T26.setTop (mkF m 142 #[.val (.int p0), .val (.int p1), .val (.int p2), .val (.int vg1), .val (.int vg2), .val (.int vg3), .val (.ref b4), .val (.ref x13), .val (.int (1 : Int32)), .val (.ref x18), .val (.int vg2), .val (.ref x26)] []))
      refine own_via (fun t k => XS.iload X26.here hx rfl (hb hby at_142) rfl k) ?_
      show own_G p e below _ (T26.setTop (mkF m 144 #[.val (.int p0), .val (.int p1), .val (.int p2), .val (.int vg1), .val (.int vg2), .val (.int vg3), .val (.ref b4), .val (.ref x13), .val (.int (1 : Int32)), .val (.ref x18), .val (.int vg2), .val (.ref x26)] [(.int vg3)]))
      refine own_via (fun t k => XS.iload X26.here hx rfl (hb hby at_144) rfl k) ?_
      show own_G p e below _ (T26.setTop (mkF m 146 #[.val (.int p0), .val (.int p1), .val (.int p2), .val (.int vg1), .val (.int vg2), .val (.int vg3), .val (.ref b4), .val (.ref x13), .val (.int (1 : Int32)), .val (.ref x18), .val (.int vg2), .val (.ref x26)] [(.int vg2), (.int vg3)]))
      refine own_via (fun t k => XS.icmpYes X26.here hx rfl (pc0 := 146) (pc' := 171) rfl (hb hby at_146) rfl (tlt hc25).2.2.1 (by decide) (by decide) k) ?_
      show own_G p e below _ (T26.setTop (mkF m 171 #[.val (.int p0), .val (.int p1), .val (.int p2), .val (.int vg1), .val (.int vg2), .val (.int vg3), .val (.ref b4), .val (.ref x13), .val (.int (1 : Int32)), .val (.ref x18), .val (.int vg2), .val (.ref x26)] []))
      refine own_via (fun t k => XS.iload X26.here hx rfl (hb hby at_171) rfl k) ?_
      show own_G p e below _ (T26.setTop (mkF m 173 #[.val (.int p0), .val (.int p1), .val (.int p2), .val (.int vg1), .val (.int vg2), .val (.int vg3), .val (.ref b4), .val (.ref x13), .val (.int (1 : Int32)), .val (.ref x18), .val (.int vg2), .val (.ref x26)] [(.int (1 : Int32))]))
      refine own_via (fun t k => XS.ifNo X26.here hx rfl (hb hby at_173) rfl ((if0 _ _).trans (feq (by decide : ¬ ((1 : Int32) = (0 : Int32)))).1) k) ?_
      show own_G p e below _ (T26.setTop (mkF m 176 #[.val (.int p0), .val (.int p1), .val (.int p2), .val (.int vg1), .val (.int vg2), .val (.int vg3), .val (.ref b4), .val (.ref x13), .val (.int (1 : Int32)), .val (.ref x18), .val (.int vg2), .val (.ref x26)] []))
      refine own_via (fun t k => XS.aload X26.here hx rfl (hb hby at_176) rfl rfl k) ?_
      show own_G p e below _ (T26.setTop (mkF m 178 #[.val (.int p0), .val (.int p1), .val (.int p2), .val (.int vg1), .val (.int vg2), .val (.int vg3), .val (.ref b4), .val (.ref x13), .val (.int (1 : Int32)), .val (.ref x18), .val (.int vg2), .val (.ref x26)] [(.ref x26)]))
      refine own_via (fun t k => XS.ifnullNo X26.here hx rfl (hb hby at_178) rfl k) ?_
      show own_G p e below _ (T26.setTop (mkF m 181 #[.val (.int p0), .val (.int p1), .val (.int p2), .val (.int vg1), .val (.int vg2), .val (.int vg3), .val (.ref b4), .val (.ref x13), .val (.int (1 : Int32)), .val (.ref x18), .val (.int vg2), .val (.ref x26)] []))
      refine own_via (fun t k => XS.aload X26.here hx rfl (hb hby at_181) rfl rfl k) ?_
      show own_G p e below _ (T26.setTop (mkF m 183 #[.val (.int p0), .val (.int p1), .val (.int p2), .val (.int vg1), .val (.int vg2), .val (.int vg3), .val (.ref b4), .val (.ref x13), .val (.int (1 : Int32)), .val (.ref x18), .val (.int vg2), .val (.ref x26)] [(.ref x26)]))
      refine own_via (fun t k => XS.aload X26.here hx rfl (hb hby at_183) rfl rfl k) ?_
      show own_G p e below _ (T26.setTop (mkF m 185 #[.val (.int p0), .val (.int p1), .val (.int p2), .val (.int vg1), .val (.int vg2), .val (.int vg3), .val (.ref b4), .val (.ref x13), .val (.int (1 : Int32)), .val (.ref x18), .val (.int vg2), .val (.ref x26)] [(.ref x18), (.ref x26)]))
      refine own_via (fun t k => Jvm.RoadKit.acmp (g := (mkF m 185 #[.val (.int p0), .val (.int p1), .val (.int p2), .val (.int vg1), .val (.int vg2), .val (.int vg3), .val (.ref b4), .val (.ref x13), .val (.int (1 : Int32)), .val (.ref x18), .val (.int vg2), .val (.ref x26)] [(.ref x18), (.ref x26)])) X26 hx rfl rfl rfl (pc0 := 185) (pc' := 188) (same := false) rfl (hb hby at_185) rfl (decide_eq_false fun q => (Ne.symm ne29) (Value.ref.inj q)) (by decide) (by decide) k) ?_
      show own_G p e below _ (T26.setTop (mkF m 188 #[.val (.int p0), .val (.int p1), .val (.int p2), .val (.int vg1), .val (.int vg2), .val (.int vg3), .val (.ref b4), .val (.ref x13), .val (.int (1 : Int32)), .val (.ref x18), .val (.int vg2), .val (.ref x26)] []))
      refine own_via (fun t k => XS.aload X26.here hx rfl (hb hby at_188) rfl rfl k) ?_
      show own_G p e below _ (T26.setTop (mkF m 190 #[.val (.int p0), .val (.int p1), .val (.int p2), .val (.int vg1), .val (.int vg2), .val (.int vg3), .val (.ref b4), .val (.ref x13), .val (.int (1 : Int32)), .val (.ref x18), .val (.int vg2), .val (.ref x26)] [(.ref x26)]))
      refine own_via (own_len X26 hx hZ e26 o26_4 (pc := 190) (Ls := #[.val (.int p0), .val (.int p1), .val (.int p2), .val (.int vg1), .val (.int vg2), .val (.int vg3), .val (.ref b4), .val (.ref x13), .val (.int (1 : Int32)), .val (.ref x18), .val (.int vg2), .val (.ref x26)]) (rest := []) (hb hby at_190)) ?_
      show own_G p e below _ (T26.setTop (mkF m 191 #[.val (.int p0), .val (.int p1), .val (.int p2), .val (.int vg1), .val (.int vg2), .val (.int vg3), .val (.ref b4), .val (.ref x13), .val (.int (1 : Int32)), .val (.ref x18), .val (.int vg2), .val (.ref x26)] [(.int vg3)]))
      refine own_via (fun t k => XS.iload X26.here hx rfl (hb hby at_191) rfl k) ?_
      show own_G p e below _ (T26.setTop (mkF m 193 #[.val (.int p0), .val (.int p1), .val (.int p2), .val (.int vg1), .val (.int vg2), .val (.int vg3), .val (.ref b4), .val (.ref x13), .val (.int (1 : Int32)), .val (.ref x18), .val (.int vg2), .val (.ref x26)] [(.int vg3), (.int vg3)]))
      refine own_via (fun t k => XS.icmpNo X26.here hx rfl (hb hby at_193) rfl (teq rfl).2 k) ?_
      show own_G p e below _ (T26.setTop (mkF m 196 #[.val (.int p0), .val (.int p1), .val (.int p2), .val (.int vg1), .val (.int vg2), .val (.int vg3), .val (.ref b4), .val (.ref x13), .val (.int (1 : Int32)), .val (.ref x18), .val (.int vg2), .val (.ref x26)] []))
      refine own_via (fun t k => XS.iconst X26.here hx rfl (hb hby at_196) k) ?_
      show own_G p e below _ (T26.setTop (mkF m 197 #[.val (.int p0), .val (.int p1), .val (.int p2), .val (.int vg1), .val (.int vg2), .val (.int vg3), .val (.ref b4), .val (.ref x13), .val (.int (1 : Int32)), .val (.ref x18), .val (.int vg2), .val (.ref x26)] [(.int (1 : Int32))]))
      refine own_via (fun t k => XS.goto X26.here hx rfl (pc0 := 197) (pc' := 201) rfl (hb hby at_197) (by decide) (by decide) k) ?_
      show own_G p e below _ (T26.setTop (mkF m 201 #[.val (.int p0), .val (.int p1), .val (.int p2), .val (.int vg1), .val (.int vg2), .val (.int vg3), .val (.ref b4), .val (.ref x13), .val (.int (1 : Int32)), .val (.ref x18), .val (.int vg2), .val (.ref x26)] [(.int (1 : Int32))]))
      refine own_via (fun t k => XS.istore X26.here hx rfl (hb hby at_201) rfl (l' := #[.val (.int p0), .val (.int p1), .val (.int p2), .val (.int vg1), .val (.int vg2), .val (.int vg3), .val (.ref b4), .val (.ref x13), .val (.int (1 : Int32)), .val (.ref x18), .val (.int vg2), .val (.ref x26)]) rfl k) ?_
      show own_G p e below _ (T26.setTop (mkF m 203 #[.val (.int p0), .val (.int p1), .val (.int p2), .val (.int vg1), .val (.int vg2), .val (.int vg3), .val (.ref b4), .val (.ref x13), .val (.int (1 : Int32)), .val (.ref x18), .val (.int vg2), .val (.ref x26)] []))
      refine own_via (fun t k => XS.iload X26.here hx rfl (hb hby at_203) rfl k) ?_
      show own_G p e below _ (T26.setTop (mkF m 205 #[.val (.int p0), .val (.int p1), .val (.int p2), .val (.int vg1), .val (.int vg2), .val (.int vg3), .val (.ref b4), .val (.ref x13), .val (.int (1 : Int32)), .val (.ref x18), .val (.int vg2), .val (.ref x26)] [(.int (1 : Int32))]))
      refine own_via (fun t k => XS.ifNo X26.here hx rfl (hb hby at_205) rfl ((if0 _ _).trans (feq (by decide : ¬ ((1 : Int32) = (0 : Int32)))).1) k) ?_
      show own_G p e below _ (T26.setTop (mkF m 208 #[.val (.int p0), .val (.int p1), .val (.int p2), .val (.int vg1), .val (.int vg2), .val (.int vg3), .val (.ref b4), .val (.ref x13), .val (.int (1 : Int32)), .val (.ref x18), .val (.int vg2), .val (.ref x26)] []))
      refine own_via (fun t k => XS.aload X26.here hx rfl (hb hby at_208) rfl rfl k) ?_
      show own_G p e below _ (T26.setTop (mkF m 210 #[.val (.int p0), .val (.int p1), .val (.int p2), .val (.int vg1), .val (.int vg2), .val (.int vg3), .val (.ref b4), .val (.ref x13), .val (.int (1 : Int32)), .val (.ref x18), .val (.int vg2), .val (.ref x26)] [(.ref b4)]))
      obtain ⟨T34, X34, e34, st34⟩ := own_callVP (y := (⟨"com/example/fields_in_tables/fieldsintables/TextBuilder", "isEmpty", "()Z"⟩ : MethodName)) (z := (⟨"com/example/fields_in_tables/fieldsintables/TextBuilder", "isEmpty", "()Z"⟩ : MethodName)) (W := 0) (a := b4) X26 hx hZ hown (hw _ (List.mem_of_getElem? (i := 23) rfl)) (hw _ (List.mem_of_getElem? (i := 24) rfl)) (notFace_of_selects (args := #[]) (mvT hZ (hw _ (List.mem_of_getElem? (i := 26) rfl)))) (hw _ (List.mem_of_getElem? (i := 26) rfl)) (hw _ (List.mem_of_getElem? (i := 25) rfl)) (hw _ (List.mem_of_getElem? (i := 2) rfl)) (hw _ (List.mem_of_getElem? (i := 27) rfl)) (by decide) (own_emp l Z a0 hw [] b4 h26 o26_2 o26_3) (by decide) (by decide) rfl rfl (by decide) (by decide) e26 o26_0 (pc := 210) (Ls := #[.val (.int p0), .val (.int p1), .val (.int p2), .val (.int vg1), .val (.int vg2), .val (.int vg3), .val (.ref b4), .val (.ref x13), .val (.int (1 : Int32)), .val (.ref x18), .val (.int vg2), .val (.ref x26)]) (st := [(.ref b4)]) (argsL := []) (rest := []) (by rw [hml]; rfl) (lenOf own_pd3 rfl) rfl rfl (Nat.le_of_eq rfl) (hb hby at_210)
      refine own_via st34 ?_
      show own_G p e below _ (T34.setTop (mkF m 213 #[.val (.int p0), .val (.int p1), .val (.int p2), .val (.int vg1), .val (.int vg2), .val (.int vg3), .val (.ref b4), .val (.ref x13), .val (.int (1 : Int32)), .val (.ref x18), .val (.int vg2), .val (.ref x26)] [(.int (1 : Int32))]))
      refine own_via (fun t k => XS.ifNo X34.here hx rfl (hb hby at_213) rfl ((if0 _ _).trans (feq (by decide : ¬ ((1 : Int32) = (0 : Int32)))).1) k) ?_
      show own_G p e below _ (T34.setTop (mkF m 216 #[.val (.int p0), .val (.int p1), .val (.int p2), .val (.int vg1), .val (.int vg2), .val (.int vg3), .val (.ref b4), .val (.ref x13), .val (.int (1 : Int32)), .val (.ref x18), .val (.int vg2), .val (.ref x26)] []))
      refine own_via (fun t k => XS.iconst X34.here hx rfl (hb hby at_216) k) ?_
      show own_G p e below _ (T34.setTop (mkF m 217 #[.val (.int p0), .val (.int p1), .val (.int p2), .val (.int vg1), .val (.int vg2), .val (.int vg3), .val (.ref b4), .val (.ref x13), .val (.int (1 : Int32)), .val (.ref x18), .val (.int vg2), .val (.ref x26)] [(.int (1 : Int32))]))
      refine own_via (fun t k => XS.goto X34.here hx rfl (pc0 := 217) (pc' := 221) rfl (hb hby at_217) (by decide) (by decide) k) ?_
      show own_G p e below _ (T34.setTop (mkF m 221 #[.val (.int p0), .val (.int p1), .val (.int p2), .val (.int vg1), .val (.int vg2), .val (.int vg3), .val (.ref b4), .val (.ref x13), .val (.int (1 : Int32)), .val (.ref x18), .val (.int vg2), .val (.ref x26)] [(.int (1 : Int32))]))
      refine own_via (fun t k => XS.istore X34.here hx rfl (hb hby at_221) rfl (l' := #[.val (.int p0), .val (.int p1), .val (.int p2), .val (.int vg1), .val (.int vg2), .val (.int vg3), .val (.ref b4), .val (.ref x13), .val (.int (1 : Int32)), .val (.ref x18), .val (.int vg2), .val (.ref x26)]) rfl k) ?_
      show own_G p e below _ (T34.setTop (mkF m 223 #[.val (.int p0), .val (.int p1), .val (.int p2), .val (.int vg1), .val (.int vg2), .val (.int vg3), .val (.ref b4), .val (.ref x13), .val (.int (1 : Int32)), .val (.ref x18), .val (.int vg2), .val (.ref x26)] []))
      refine own_via (fun t k => XS.iload X34.here hx rfl (hb hby at_223) rfl k) ?_
      show own_G p e below _ (T34.setTop (mkF m 225 #[.val (.int p0), .val (.int p1), .val (.int p2), .val (.int vg1), .val (.int vg2), .val (.int vg3), .val (.ref b4), .val (.ref x13), .val (.int (1 : Int32)), .val (.ref x18), .val (.int vg2), .val (.ref x26)] [(.int (1 : Int32))]))
      exact own_retN (t := .boolean) X34 hx Bd.returns (by simp) Bd.notSynchronized (hb hby at_225) ⟨N26, rfl⟩ (by decide) (by decide)
    ·
      show own_G p e below _ (T24.setTop (mkF m 137 #[.val (.int p0), .val (.int p1), .val (.int p2), .val (.int vg1), .val (.int vg2), .val (.int vg3), .val (.ref b4), .val (.ref x13), .val (.int (1 : Int32)), .val (.ref x18), .val (.int vg2), .unset] [(.int vg3), (.ref b4)]))
      obtain ⟨T35, X35, e35, st35⟩ := own_callVP (y := (⟨"com/example/fields_in_tables/fieldsintables/TextBuilder", "asciiScratch", "(I)[B"⟩ : MethodName)) (z := (⟨"com/example/fields_in_tables/fieldsintables/TextBuilder", "asciiScratch", "(I)[B"⟩ : MethodName)) (W := 0) (a := b4) X24 hx hZ hown (hw _ (List.mem_of_getElem? (i := 12) rfl)) (hw _ (List.mem_of_getElem? (i := 13) rfl)) (notFace_of_selects (args := #[]) (mvT hZ (hw _ (List.mem_of_getElem? (i := 15) rfl)))) (hw _ (List.mem_of_getElem? (i := 15) rfl)) (hw _ (List.mem_of_getElem? (i := 14) rfl)) (hw _ (List.mem_of_getElem? (i := 2) rfl)) (hw _ (List.mem_of_getElem? (i := 16) rfl)) (by decide) (own_s2 l Z a0 hw [] b4 vg3 x18 k18 vg2 [] (.int (0 : Int32)) h18 o18_0 o18_1 o18_4 hc25) (by decide) (by decide) rfl rfl (by decide) (by decide) e24 o18_0 (pc := 137) (Ls := #[.val (.int p0), .val (.int p1), .val (.int p2), .val (.int vg1), .val (.int vg2), .val (.int vg3), .val (.ref b4), .val (.ref x13), .val (.int (1 : Int32)), .val (.ref x18), .val (.int vg2), .unset]) (st := [(.int vg3), (.ref b4)]) (argsL := [(.int vg3)]) (rest := []) (by rw [hml]; rfl) (lenOf own_pd1 rfl) rfl rfl (Nat.le_of_eq rfl) (hb hby at_137)
      refine own_via st35 ?_
      show own_G p e below _ (T35.setTop (mkF m 140 #[.val (.int p0), .val (.int p1), .val (.int p2), .val (.int vg1), .val (.int vg2), .val (.int vg3), .val (.ref b4), .val (.ref x13), .val (.int (1 : Int32)), .val (.ref x18), .val (.int vg2), .unset] [(.ref x18)]))
      refine own_via (fun t k => XS.astore X35.here hx rfl (hb hby at_140) rfl rfl (l' := #[.val (.int p0), .val (.int p1), .val (.int p2), .val (.int vg1), .val (.int vg2), .val (.int vg3), .val (.ref b4), .val (.ref x13), .val (.int (1 : Int32)), .val (.ref x18), .val (.int vg2), .val (.ref x18)]) rfl k) ?_
      show own_G p e below _ (T35.setTop (mkF m 142 #[.val (.int p0), .val (.int p1), .val (.int p2), .val (.int vg1), .val (.int vg2), .val (.int vg3), .val (.ref b4), .val (.ref x13), .val (.int (1 : Int32)), .val (.ref x18), .val (.int vg2), .val (.ref x18)] []))
      refine own_via (fun t k => XS.iload X35.here hx rfl (hb hby at_142) rfl k) ?_
      show own_G p e below _ (T35.setTop (mkF m 144 #[.val (.int p0), .val (.int p1), .val (.int p2), .val (.int vg1), .val (.int vg2), .val (.int vg3), .val (.ref b4), .val (.ref x13), .val (.int (1 : Int32)), .val (.ref x18), .val (.int vg2), .val (.ref x18)] [(.int vg3)]))
      refine own_via (fun t k => XS.iload X35.here hx rfl (hb hby at_144) rfl k) ?_
      show own_G p e below _ (T35.setTop (mkF m 146 #[.val (.int p0), .val (.int p1), .val (.int p2), .val (.int vg1), .val (.int vg2), .val (.int vg3), .val (.ref b4), .val (.ref x13), .val (.int (1 : Int32)), .val (.ref x18), .val (.int vg2), .val (.ref x18)] [(.int vg2), (.int vg3)]))
      refine own_via (fun t k => XS.icmpNo X35.here hx rfl (hb hby at_146) rfl (flt hc25).2.2.1 k) ?_
      show own_G p e below _ (T35.setTop (mkF m 149 #[.val (.int p0), .val (.int p1), .val (.int p2), .val (.int vg1), .val (.int vg2), .val (.int vg3), .val (.ref b4), .val (.ref x13), .val (.int (1 : Int32)), .val (.ref x18), .val (.int vg2), .val (.ref x18)] []))
      refine own_via (fun t k => XS.iload X35.here hx rfl (hb hby at_149) rfl k) ?_
      show own_G p e below _ (T35.setTop (mkF m 151 #[.val (.int p0), .val (.int p1), .val (.int p2), .val (.int vg1), .val (.int vg2), .val (.int vg3), .val (.ref b4), .val (.ref x13), .val (.int (1 : Int32)), .val (.ref x18), .val (.int vg2), .val (.ref x18)] [(.int (1 : Int32))]))
      refine own_via (fun t k => XS.ifNo X35.here hx rfl (hb hby at_151) rfl ((if0 _ _).trans (feq (by decide : ¬ ((1 : Int32) = (0 : Int32)))).1) k) ?_
      show own_G p e below _ (T35.setTop (mkF m 154 #[.val (.int p0), .val (.int p1), .val (.int p2), .val (.int vg1), .val (.int vg2), .val (.int vg3), .val (.ref b4), .val (.ref x13), .val (.int (1 : Int32)), .val (.ref x18), .val (.int vg2), .val (.ref x18)] []))
      refine own_via (fun t k => XS.aload X35.here hx rfl (hb hby at_154) rfl rfl k) ?_
      show own_G p e below _ (T35.setTop (mkF m 156 #[.val (.int p0), .val (.int p1), .val (.int p2), .val (.int vg1), .val (.int vg2), .val (.int vg3), .val (.ref b4), .val (.ref x13), .val (.int (1 : Int32)), .val (.ref x18), .val (.int vg2), .val (.ref x18)] [(.ref x18)]))
      refine own_via (fun t k => XS.aload X35.here hx rfl (hb hby at_156) rfl rfl k) ?_
      show own_G p e below _ (T35.setTop (mkF m 158 #[.val (.int p0), .val (.int p1), .val (.int p2), .val (.int vg1), .val (.int vg2), .val (.int vg3), .val (.ref b4), .val (.ref x13), .val (.int (1 : Int32)), .val (.ref x18), .val (.int vg2), .val (.ref x18)] [(.ref x18), (.ref x18)]))
      refine own_via (fun t k => Jvm.RoadKit.acmp (g := (mkF m 158 #[.val (.int p0), .val (.int p1), .val (.int p2), .val (.int vg1), .val (.int vg2), .val (.int vg3), .val (.ref b4), .val (.ref x13), .val (.int (1 : Int32)), .val (.ref x18), .val (.int vg2), .val (.ref x18)] [(.ref x18), (.ref x18)])) X35 hx rfl rfl rfl (pc0 := 158) (pc' := 161) (same := true) rfl (hb hby at_158) rfl (decide_eq_true rfl) (by decide) (by decide) k) ?_
      show own_G p e below _ (T35.setTop (mkF m 161 #[.val (.int p0), .val (.int p1), .val (.int p2), .val (.int vg1), .val (.int vg2), .val (.int vg3), .val (.ref b4), .val (.ref x13), .val (.int (1 : Int32)), .val (.ref x18), .val (.int vg2), .val (.ref x18)] []))
      refine own_via (fun t k => XS.iconst X35.here hx rfl (hb hby at_161) k) ?_
      show own_G p e below _ (T35.setTop (mkF m 162 #[.val (.int p0), .val (.int p1), .val (.int p2), .val (.int vg1), .val (.int vg2), .val (.int vg3), .val (.ref b4), .val (.ref x13), .val (.int (1 : Int32)), .val (.ref x18), .val (.int vg2), .val (.ref x18)] [(.int (1 : Int32))]))
      refine own_via (fun t k => XS.goto X35.here hx rfl (pc0 := 162) (pc' := 166) rfl (hb hby at_162) (by decide) (by decide) k) ?_
      show own_G p e below _ (T35.setTop (mkF m 166 #[.val (.int p0), .val (.int p1), .val (.int p2), .val (.int vg1), .val (.int vg2), .val (.int vg3), .val (.ref b4), .val (.ref x13), .val (.int (1 : Int32)), .val (.ref x18), .val (.int vg2), .val (.ref x18)] [(.int (1 : Int32))]))
      refine own_via (fun t k => XS.istore X35.here hx rfl (hb hby at_166) rfl (l' := #[.val (.int p0), .val (.int p1), .val (.int p2), .val (.int vg1), .val (.int vg2), .val (.int vg3), .val (.ref b4), .val (.ref x13), .val (.int (1 : Int32)), .val (.ref x18), .val (.int vg2), .val (.ref x18)]) rfl k) ?_
      show own_G p e below _ (T35.setTop (mkF m 168 #[.val (.int p0), .val (.int p1), .val (.int p2), .val (.int vg1), .val (.int vg2), .val (.int vg3), .val (.ref b4), .val (.ref x13), .val (.int (1 : Int32)), .val (.ref x18), .val (.int vg2), .val (.ref x18)] []))
      refine own_via (fun t k => XS.goto X35.here hx rfl (pc0 := 168) (pc' := 203) rfl (hb hby at_168) (by decide) (by decide) k) ?_
      show own_G p e below _ (T35.setTop (mkF m 203 #[.val (.int p0), .val (.int p1), .val (.int p2), .val (.int vg1), .val (.int vg2), .val (.int vg3), .val (.ref b4), .val (.ref x13), .val (.int (1 : Int32)), .val (.ref x18), .val (.int vg2), .val (.ref x18)] []))
      refine own_via (fun t k => XS.iload X35.here hx rfl (hb hby at_203) rfl k) ?_
      show own_G p e below _ (T35.setTop (mkF m 205 #[.val (.int p0), .val (.int p1), .val (.int p2), .val (.int vg1), .val (.int vg2), .val (.int vg3), .val (.ref b4), .val (.ref x13), .val (.int (1 : Int32)), .val (.ref x18), .val (.int vg2), .val (.ref x18)] [(.int (1 : Int32))]))
      refine own_via (fun t k => XS.ifNo X35.here hx rfl (hb hby at_205) rfl ((if0 _ _).trans (feq (by decide : ¬ ((1 : Int32) = (0 : Int32)))).1) k) ?_
      show own_G p e below _ (T35.setTop (mkF m 208 #[.val (.int p0), .val (.int p1), .val (.int p2), .val (.int vg1), .val (.int vg2), .val (.int vg3), .val (.ref b4), .val (.ref x13), .val (.int (1 : Int32)), .val (.ref x18), .val (.int vg2), .val (.ref x18)] []))
      refine own_via (fun t k => XS.aload X35.here hx rfl (hb hby at_208) rfl rfl k) ?_
      show own_G p e below _ (T35.setTop (mkF m 210 #[.val (.int p0), .val (.int p1), .val (.int p2), .val (.int vg1), .val (.int vg2), .val (.int vg3), .val (.ref b4), .val (.ref x13), .val (.int (1 : Int32)), .val (.ref x18), .val (.int vg2), .val (.ref x18)] [(.ref b4)]))
      obtain ⟨T36, X36, e36, st36⟩ := own_callVP (y := (⟨"com/example/fields_in_tables/fieldsintables/TextBuilder", "isEmpty", "()Z"⟩ : MethodName)) (z := (⟨"com/example/fields_in_tables/fieldsintables/TextBuilder", "isEmpty", "()Z"⟩ : MethodName)) (W := 0) (a := b4) X35 hx hZ hown (hw _ (List.mem_of_getElem? (i := 23) rfl)) (hw _ (List.mem_of_getElem? (i := 24) rfl)) (notFace_of_selects (args := #[]) (mvT hZ (hw _ (List.mem_of_getElem? (i := 26) rfl)))) (hw _ (List.mem_of_getElem? (i := 26) rfl)) (hw _ (List.mem_of_getElem? (i := 25) rfl)) (hw _ (List.mem_of_getElem? (i := 2) rfl)) (hw _ (List.mem_of_getElem? (i := 27) rfl)) (by decide) (own_emp l Z a0 hw [] b4 h18 o18_2 o18_3) (by decide) (by decide) rfl rfl (by decide) (by decide) e35 o18_0 (pc := 210) (Ls := #[.val (.int p0), .val (.int p1), .val (.int p2), .val (.int vg1), .val (.int vg2), .val (.int vg3), .val (.ref b4), .val (.ref x13), .val (.int (1 : Int32)), .val (.ref x18), .val (.int vg2), .val (.ref x18)]) (st := [(.ref b4)]) (argsL := []) (rest := []) (by rw [hml]; rfl) (lenOf own_pd3 rfl) rfl rfl (Nat.le_of_eq rfl) (hb hby at_210)
      refine own_via st36 ?_
      show own_G p e below _ (T36.setTop (mkF m 213 #[.val (.int p0), .val (.int p1), .val (.int p2), .val (.int vg1), .val (.int vg2), .val (.int vg3), .val (.ref b4), .val (.ref x13), .val (.int (1 : Int32)), .val (.ref x18), .val (.int vg2), .val (.ref x18)] [(.int (1 : Int32))]))
      refine own_via (fun t k => XS.ifNo X36.here hx rfl (hb hby at_213) rfl ((if0 _ _).trans (feq (by decide : ¬ ((1 : Int32) = (0 : Int32)))).1) k) ?_
      show own_G p e below _ (T36.setTop (mkF m 216 #[.val (.int p0), .val (.int p1), .val (.int p2), .val (.int vg1), .val (.int vg2), .val (.int vg3), .val (.ref b4), .val (.ref x13), .val (.int (1 : Int32)), .val (.ref x18), .val (.int vg2), .val (.ref x18)] []))
      refine own_via (fun t k => XS.iconst X36.here hx rfl (hb hby at_216) k) ?_
      show own_G p e below _ (T36.setTop (mkF m 217 #[.val (.int p0), .val (.int p1), .val (.int p2), .val (.int vg1), .val (.int vg2), .val (.int vg3), .val (.ref b4), .val (.ref x13), .val (.int (1 : Int32)), .val (.ref x18), .val (.int vg2), .val (.ref x18)] [(.int (1 : Int32))]))
      refine own_via (fun t k => XS.goto X36.here hx rfl (pc0 := 217) (pc' := 221) rfl (hb hby at_217) (by decide) (by decide) k) ?_
      show own_G p e below _ (T36.setTop (mkF m 221 #[.val (.int p0), .val (.int p1), .val (.int p2), .val (.int vg1), .val (.int vg2), .val (.int vg3), .val (.ref b4), .val (.ref x13), .val (.int (1 : Int32)), .val (.ref x18), .val (.int vg2), .val (.ref x18)] [(.int (1 : Int32))]))
      refine own_via (fun t k => XS.istore X36.here hx rfl (hb hby at_221) rfl (l' := #[.val (.int p0), .val (.int p1), .val (.int p2), .val (.int vg1), .val (.int vg2), .val (.int vg3), .val (.ref b4), .val (.ref x13), .val (.int (1 : Int32)), .val (.ref x18), .val (.int vg2), .val (.ref x18)]) rfl k) ?_
      show own_G p e below _ (T36.setTop (mkF m 223 #[.val (.int p0), .val (.int p1), .val (.int p2), .val (.int vg1), .val (.int vg2), .val (.int vg3), .val (.ref b4), .val (.ref x13), .val (.int (1 : Int32)), .val (.ref x18), .val (.int vg2), .val (.ref x18)] []))
      refine own_via (fun t k => XS.iload X36.here hx rfl (hb hby at_223) rfl k) ?_
      show own_G p e below _ (T36.setTop (mkF m 225 #[.val (.int p0), .val (.int p1), .val (.int p2), .val (.int vg1), .val (.int vg2), .val (.int vg3), .val (.ref b4), .val (.ref x13), .val (.int (1 : Int32)), .val (.ref x18), .val (.int vg2), .val (.ref x18)] [(.int (1 : Int32))]))
      exact own_retN (t := .boolean) X36 hx Bd.returns (by simp) Bd.notSynchronized (hb hby at_225) ⟨N18, rfl⟩ (by decide) (by decide)
  ·
    show own_G p e below _ (T13.setTop (mkF m 60 #[.val (.int p0), .val (.int p1), .val (.int p2), .val (.int vg1), .val (.int vg2), .val (.int vg3), .val (.ref b4), .val (.ref x13), .val (.int (1 : Int32)), .unset, .unset, .unset] [(.int vg2), (.ref b4)]))
    obtain ⟨T37, X37, e37, st37⟩ := own_callVP (y := (⟨"com/example/fields_in_tables/fieldsintables/TextBuilder", "asciiScratch", "(I)[B"⟩ : MethodName)) (z := (⟨"com/example/fields_in_tables/fieldsintables/TextBuilder", "asciiScratch", "(I)[B"⟩ : MethodName)) (W := 0) (a := b4) X13 hx hZ hown (hw _ (List.mem_of_getElem? (i := 12) rfl)) (hw _ (List.mem_of_getElem? (i := 13) rfl)) (notFace_of_selects (args := #[]) (mvT hZ (hw _ (List.mem_of_getElem? (i := 15) rfl)))) (hw _ (List.mem_of_getElem? (i := 15) rfl)) (hw _ (List.mem_of_getElem? (i := 14) rfl)) (hw _ (List.mem_of_getElem? (i := 2) rfl)) (hw _ (List.mem_of_getElem? (i := 16) rfl)) (by decide) (own_s2 l Z a0 hw [] b4 vg2 x13 k13 vg1 [] (.int (0 : Int32)) h13 o13_0 o13_1 o13_4 hc17) (by decide) (by decide) rfl rfl (by decide) (by decide) e13 o13_0 (pc := 60) (Ls := #[.val (.int p0), .val (.int p1), .val (.int p2), .val (.int vg1), .val (.int vg2), .val (.int vg3), .val (.ref b4), .val (.ref x13), .val (.int (1 : Int32)), .unset, .unset, .unset]) (st := [(.int vg2), (.ref b4)]) (argsL := [(.int vg2)]) (rest := []) (by rw [hml]; rfl) (lenOf own_pd1 rfl) rfl rfl (Nat.le_of_eq rfl) (hb hby at_60)
    refine own_via st37 ?_
    show own_G p e below _ (T37.setTop (mkF m 63 #[.val (.int p0), .val (.int p1), .val (.int p2), .val (.int vg1), .val (.int vg2), .val (.int vg3), .val (.ref b4), .val (.ref x13), .val (.int (1 : Int32)), .unset, .unset, .unset] [(.ref x13)]))
    refine own_via (fun t k => XS.astore X37.here hx rfl (hb hby at_63) rfl rfl (l' := #[.val (.int p0), .val (.int p1), .val (.int p2), .val (.int vg1), .val (.int vg2), .val (.int vg3), .val (.ref b4), .val (.ref x13), .val (.int (1 : Int32)), .val (.ref x13), .unset, .unset]) rfl k) ?_
    show own_G p e below _ (T37.setTop (mkF m 65 #[.val (.int p0), .val (.int p1), .val (.int p2), .val (.int vg1), .val (.int vg2), .val (.int vg3), .val (.ref b4), .val (.ref x13), .val (.int (1 : Int32)), .val (.ref x13), .unset, .unset] []))
    refine own_via (fun t k => XS.iload X37.here hx rfl (hb hby at_65) rfl k) ?_
    show own_G p e below _ (T37.setTop (mkF m 67 #[.val (.int p0), .val (.int p1), .val (.int p2), .val (.int vg1), .val (.int vg2), .val (.int vg3), .val (.ref b4), .val (.ref x13), .val (.int (1 : Int32)), .val (.ref x13), .unset, .unset] [(.int vg2)]))
    refine own_via (fun t k => XS.iloadN X37.here hx rfl (hb hby at_67) rfl k) ?_
    show own_G p e below _ (T37.setTop (mkF m 68 #[.val (.int p0), .val (.int p1), .val (.int p2), .val (.int vg1), .val (.int vg2), .val (.int vg3), .val (.ref b4), .val (.ref x13), .val (.int (1 : Int32)), .val (.ref x13), .unset, .unset] [(.int vg1), (.int vg2)]))
    refine own_via (fun t k => XS.icmpNo X37.here hx rfl (hb hby at_68) rfl (flt hc17).2.2.1 k) ?_
    show own_G p e below _ (T37.setTop (mkF m 71 #[.val (.int p0), .val (.int p1), .val (.int p2), .val (.int vg1), .val (.int vg2), .val (.int vg3), .val (.ref b4), .val (.ref x13), .val (.int (1 : Int32)), .val (.ref x13), .unset, .unset] []))
    refine own_via (fun t k => XS.iload X37.here hx rfl (hb hby at_71) rfl k) ?_
    show own_G p e below _ (T37.setTop (mkF m 73 #[.val (.int p0), .val (.int p1), .val (.int p2), .val (.int vg1), .val (.int vg2), .val (.int vg3), .val (.ref b4), .val (.ref x13), .val (.int (1 : Int32)), .val (.ref x13), .unset, .unset] [(.int (1 : Int32))]))
    refine own_via (fun t k => XS.ifNo X37.here hx rfl (hb hby at_73) rfl ((if0 _ _).trans (feq (by decide : ¬ ((1 : Int32) = (0 : Int32)))).1) k) ?_
    show own_G p e below _ (T37.setTop (mkF m 76 #[.val (.int p0), .val (.int p1), .val (.int p2), .val (.int vg1), .val (.int vg2), .val (.int vg3), .val (.ref b4), .val (.ref x13), .val (.int (1 : Int32)), .val (.ref x13), .unset, .unset] []))
    refine own_via (fun t k => XS.aload X37.here hx rfl (hb hby at_76) rfl rfl k) ?_
    show own_G p e below _ (T37.setTop (mkF m 78 #[.val (.int p0), .val (.int p1), .val (.int p2), .val (.int vg1), .val (.int vg2), .val (.int vg3), .val (.ref b4), .val (.ref x13), .val (.int (1 : Int32)), .val (.ref x13), .unset, .unset] [(.ref x13)]))
    refine own_via (fun t k => XS.aload X37.here hx rfl (hb hby at_78) rfl rfl k) ?_
    show own_G p e below _ (T37.setTop (mkF m 80 #[.val (.int p0), .val (.int p1), .val (.int p2), .val (.int vg1), .val (.int vg2), .val (.int vg3), .val (.ref b4), .val (.ref x13), .val (.int (1 : Int32)), .val (.ref x13), .unset, .unset] [(.ref x13), (.ref x13)]))
    refine own_via (fun t k => Jvm.RoadKit.acmp (g := (mkF m 80 #[.val (.int p0), .val (.int p1), .val (.int p2), .val (.int vg1), .val (.int vg2), .val (.int vg3), .val (.ref b4), .val (.ref x13), .val (.int (1 : Int32)), .val (.ref x13), .unset, .unset] [(.ref x13), (.ref x13)])) X37 hx rfl rfl rfl (pc0 := 80) (pc' := 83) (same := true) rfl (hb hby at_80) rfl (decide_eq_true rfl) (by decide) (by decide) k) ?_
    show own_G p e below _ (T37.setTop (mkF m 83 #[.val (.int p0), .val (.int p1), .val (.int p2), .val (.int vg1), .val (.int vg2), .val (.int vg3), .val (.ref b4), .val (.ref x13), .val (.int (1 : Int32)), .val (.ref x13), .unset, .unset] []))
    refine own_via (fun t k => XS.iconst X37.here hx rfl (hb hby at_83) k) ?_
    show own_G p e below _ (T37.setTop (mkF m 84 #[.val (.int p0), .val (.int p1), .val (.int p2), .val (.int vg1), .val (.int vg2), .val (.int vg3), .val (.ref b4), .val (.ref x13), .val (.int (1 : Int32)), .val (.ref x13), .unset, .unset] [(.int (1 : Int32))]))
    refine own_via (fun t k => XS.goto X37.here hx rfl (pc0 := 84) (pc' := 88) rfl (hb hby at_84) (by decide) (by decide) k) ?_
    show own_G p e below _ (T37.setTop (mkF m 88 #[.val (.int p0), .val (.int p1), .val (.int p2), .val (.int vg1), .val (.int vg2), .val (.int vg3), .val (.ref b4), .val (.ref x13), .val (.int (1 : Int32)), .val (.ref x13), .unset, .unset] [(.int (1 : Int32))]))
    refine own_via (fun t k => XS.istore X37.here hx rfl (hb hby at_88) rfl (l' := #[.val (.int p0), .val (.int p1), .val (.int p2), .val (.int vg1), .val (.int vg2), .val (.int vg3), .val (.ref b4), .val (.ref x13), .val (.int (1 : Int32)), .val (.ref x13), .unset, .unset]) rfl k) ?_
    show own_G p e below _ (T37.setTop (mkF m 90 #[.val (.int p0), .val (.int p1), .val (.int p2), .val (.int vg1), .val (.int vg2), .val (.int vg3), .val (.ref b4), .val (.ref x13), .val (.int (1 : Int32)), .val (.ref x13), .unset, .unset] []))
    refine own_via (fun t k => XS.goto X37.here hx rfl (pc0 := 90) (pc' := 125) rfl (hb hby at_90) (by decide) (by decide) k) ?_
    show own_G p e below _ (T37.setTop (mkF m 125 #[.val (.int p0), .val (.int p1), .val (.int p2), .val (.int vg1), .val (.int vg2), .val (.int vg3), .val (.ref b4), .val (.ref x13), .val (.int (1 : Int32)), .val (.ref x13), .unset, .unset] []))
    refine own_via (fun t k => XS.iloadN X37.here hx rfl (hb hby at_125) rfl k) ?_
    show own_G p e below _ (T37.setTop (mkF m 126 #[.val (.int p0), .val (.int p1), .val (.int p2), .val (.int vg1), .val (.int vg2), .val (.int vg3), .val (.ref b4), .val (.ref x13), .val (.int (1 : Int32)), .val (.ref x13), .unset, .unset] [(.int vg1)]))
    refine own_via (fun t k => XS.iload X37.here hx rfl (hb hby at_126) rfl k) ?_
    show own_G p e below _ (T37.setTop (mkF m 128 #[.val (.int p0), .val (.int p1), .val (.int p2), .val (.int vg1), .val (.int vg2), .val (.int vg3), .val (.ref b4), .val (.ref x13), .val (.int (1 : Int32)), .val (.ref x13), .unset, .unset] [(.int vg2), (.int vg1)]))
    obtain ⟨T38, X38, e38, st38⟩ := own_callP (y := (⟨"java/lang/Math", "max", "(II)I"⟩ : MethodName)) (W := 0) X37 hx hZ hown (hw _ (List.mem_of_getElem? (i := 19) rfl)) (hw _ (List.mem_of_getElem? (i := 20) rfl)) (hw _ (List.mem_of_getElem? (i := 21) rfl)) (hw _ (List.mem_of_getElem? (i := 22) rfl)) (by decide) (own_rm4 l Z a0 hw [] vg1 vg2 h13) (by decide) (by decide) rfl rfl (by decide) (by decide) e37 (pc := 128) (Ls := #[.val (.int p0), .val (.int p1), .val (.int p2), .val (.int vg1), .val (.int vg2), .val (.int vg3), .val (.ref b4), .val (.ref x13), .val (.int (1 : Int32)), .val (.ref x13), .unset, .unset]) (st := [(.int vg2), (.int vg1)]) (argsL := [(.int vg1), (.int vg2)]) (rest := []) (by rw [hml]; rfl) (lenOf own_pd2 rfl) rfl rfl (Nat.le_of_eq rfl) (hb hby at_128)
    refine own_via st38 ?_
    show own_G p e below _ (T38.setTop (mkF m 131 #[.val (.int p0), .val (.int p1), .val (.int p2), .val (.int vg1), .val (.int vg2), .val (.int vg3), .val (.ref b4), .val (.ref x13), .val (.int (1 : Int32)), .val (.ref x13), .unset, .unset] [(.int (own_F4 vg1 vg2))]))
    rw [show (own_F4 vg1 vg2) = vg1 from (if_neg hc17)]
    show own_G p e below _ (T38.setTop (mkF m 131 #[.val (.int p0), .val (.int p1), .val (.int p2), .val (.int vg1), .val (.int vg2), .val (.int vg3), .val (.ref b4), .val (.ref x13), .val (.int (1 : Int32)), .val (.ref x13), .unset, .unset] [(.int vg1)]))
    refine own_via (fun t k => XS.istore X38.here hx rfl (hb hby at_131) rfl (l' := #[.val (.int p0), .val (.int p1), .val (.int p2), .val (.int vg1), .val (.int vg2), .val (.int vg3), .val (.ref b4), .val (.ref x13), .val (.int (1 : Int32)), .val (.ref x13), .val (.int vg1), .unset]) rfl k) ?_
    show own_G p e below _ (T38.setTop (mkF m 133 #[.val (.int p0), .val (.int p1), .val (.int p2), .val (.int vg1), .val (.int vg2), .val (.int vg3), .val (.ref b4), .val (.ref x13), .val (.int (1 : Int32)), .val (.ref x13), .val (.int vg1), .unset] []))
    refine own_via (fun t k => XS.aload X38.here hx rfl (hb hby at_133) rfl rfl k) ?_
    show own_G p e below _ (T38.setTop (mkF m 135 #[.val (.int p0), .val (.int p1), .val (.int p2), .val (.int vg1), .val (.int vg2), .val (.int vg3), .val (.ref b4), .val (.ref x13), .val (.int (1 : Int32)), .val (.ref x13), .val (.int vg1), .unset] [(.ref b4)]))
    refine own_via (fun t k => XS.iload X38.here hx rfl (hb hby at_135) rfl k) ?_
    show own_G p e below _ (T38.setTop (mkF m 137 #[.val (.int p0), .val (.int p1), .val (.int p2), .val (.int vg1), .val (.int vg2), .val (.int vg3), .val (.ref b4), .val (.ref x13), .val (.int (1 : Int32)), .val (.ref x13), .val (.int vg1), .unset] [(.int vg3), (.ref b4)]))
    by_cases hc39 : vg1 < vg3
    ·
      show own_G p e below _ (T38.setTop (mkF m 137 #[.val (.int p0), .val (.int p1), .val (.int p2), .val (.int vg1), .val (.int vg2), .val (.int vg3), .val (.ref b4), .val (.ref x13), .val (.int (1 : Int32)), .val (.ref x13), .val (.int vg1), .unset] [(.int vg3), (.ref b4)]))
      obtain ⟨v40, T40, h40, L40, X40, N40, e40, hq40, st40⟩ := own_callV (y := (⟨"com/example/fields_in_tables/fieldsintables/TextBuilder", "asciiScratch", "(I)[B"⟩ : MethodName)) (z := (⟨"com/example/fields_in_tables/fieldsintables/TextBuilder", "asciiScratch", "(I)[B"⟩ : MethodName)) (W := 0) (a := b4) X38 N13 hx hZ hown (hw _ (List.mem_of_getElem? (i := 12) rfl)) (hw _ (List.mem_of_getElem? (i := 13) rfl)) (notFace_of_selects (args := #[]) (mvT hZ (hw _ (List.mem_of_getElem? (i := 15) rfl)))) (hw _ (List.mem_of_getElem? (i := 15) rfl)) (hw _ (List.mem_of_getElem? (i := 14) rfl)) (hw _ (List.mem_of_getElem? (i := 2) rfl)) (hw _ (List.mem_of_getElem? (i := 16) rfl)) (by decide) (own_s1 l Z a0 hw [] b4 vg3 x13 k13 vg1 [] (.int (0 : Int32)) (.long (0 : Int64)) (.int (0 : Int32)) h13 n0 Zs16 o13_0 o13_1 o13_2 o13_3 o13_4 g_b4 hc39 (by have q := (own_m1023 p2).1; rw [hvg3] at q; exact q) (by have q := (own_m1023 p2).2; rw [hvg3] at q; exact q)) (by decide) (by decide) (by decide) (by decide) e38 o13_0 (pc := 137) (Ls := #[.val (.int p0), .val (.int p1), .val (.int p2), .val (.int vg1), .val (.int vg2), .val (.int vg3), .val (.ref b4), .val (.ref x13), .val (.int (1 : Int32)), .val (.ref x13), .val (.int vg1), .unset]) (st := [(.int vg3), (.ref b4)]) (argsL := [(.int vg3)]) (rest := []) (by rw [hml]; rfl) (lenOf own_pd1 rfl) rfl rfl (Nat.le_of_eq rfl) (hb hby at_137)
      obtain ⟨x40, k40, rfl, K40, zf_x40, o40_0, o40_1, o40_2, o40_3, o40_4⟩ := hq40
      refine own_via st40 ?_
      have ne41 : b4 ≠ x40 := Nat.ne_of_lt (Nat.lt_of_lt_of_le o13_0.lt zf_x40)
      have ne42 : x13 ≠ x40 := Nat.ne_of_lt (Nat.lt_of_lt_of_le o13_4.lt zf_x40)
      have g_x40 : n0 ≤ x40 := Nat.le_trans Zs16 zf_x40
      have f43 : Exa Z h40 b4 "com/example/fields_in_tables/fieldsintables/TextBuilder" := o13_0.keep K40
      have f44 : Arv Z h40 x13 k13 .byte vg1 [] (.int (0 : Int32)) := o13_4.keep K40 (by simp only [List.mem_cons, List.not_mem_nil, or_false, not_or]; exact (Ne.symm ne14))
      have Zs45 : n0 ≤ h40.size := Nat.le_trans Zs16 K40.1
      show own_G p e below _ (T40.setTop (mkF m 140 #[.val (.int p0), .val (.int p1), .val (.int p2), .val (.int vg1), .val (.int vg2), .val (.int vg3), .val (.ref b4), .val (.ref x13), .val (.int (1 : Int32)), .val (.ref x13), .val (.int vg1), .unset] [(.ref x40)]))
      refine own_via (fun t k => XS.astore X40.here hx rfl (hb hby at_140) rfl rfl (l' := #[.val (.int p0), .val (.int p1), .val (.int p2), .val (.int vg1), .val (.int vg2), .val (.int vg3), .val (.ref b4), .val (.ref x13), .val (.int (1 : Int32)), .val (.ref x13), .val (.int vg1), .val (.ref x40)]) rfl k) ?_
      show own_G p e below _ (T40.setTop (mkF m 142 #[.val (.int p0), .val (.int p1), .val (.int p2), .val (.int vg1), .val (.int vg2), .val (.int vg3), .val (.ref b4), .val (.ref x13), .val (.int (1 : Int32)), .val (.ref x13), .val (.int vg1), .val (.ref x40)] []))
      refine own_via (fun t k => XS.iload X40.here hx rfl (hb hby at_142) rfl k) ?_
      show own_G p e below _ (T40.setTop (mkF m 144 #[.val (.int p0), .val (.int p1), .val (.int p2), .val (.int vg1), .val (.int vg2), .val (.int vg3), .val (.ref b4), .val (.ref x13), .val (.int (1 : Int32)), .val (.ref x13), .val (.int vg1), .val (.ref x40)] [(.int vg3)]))
      refine own_via (fun t k => XS.iload X40.here hx rfl (hb hby at_144) rfl k) ?_
      show own_G p e below _ (T40.setTop (mkF m 146 #[.val (.int p0), .val (.int p1), .val (.int p2), .val (.int vg1), .val (.int vg2), .val (.int vg3), .val (.ref b4), .val (.ref x13), .val (.int (1 : Int32)), .val (.ref x13), .val (.int vg1), .val (.ref x40)] [(.int vg1), (.int vg3)]))
      refine own_via (fun t k => XS.icmpYes X40.here hx rfl (pc0 := 146) (pc' := 171) rfl (hb hby at_146) rfl (tlt hc39).2.2.1 (by decide) (by decide) k) ?_
      show own_G p e below _ (T40.setTop (mkF m 171 #[.val (.int p0), .val (.int p1), .val (.int p2), .val (.int vg1), .val (.int vg2), .val (.int vg3), .val (.ref b4), .val (.ref x13), .val (.int (1 : Int32)), .val (.ref x13), .val (.int vg1), .val (.ref x40)] []))
      refine own_via (fun t k => XS.iload X40.here hx rfl (hb hby at_171) rfl k) ?_
      show own_G p e below _ (T40.setTop (mkF m 173 #[.val (.int p0), .val (.int p1), .val (.int p2), .val (.int vg1), .val (.int vg2), .val (.int vg3), .val (.ref b4), .val (.ref x13), .val (.int (1 : Int32)), .val (.ref x13), .val (.int vg1), .val (.ref x40)] [(.int (1 : Int32))]))
      refine own_via (fun t k => XS.ifNo X40.here hx rfl (hb hby at_173) rfl ((if0 _ _).trans (feq (by decide : ¬ ((1 : Int32) = (0 : Int32)))).1) k) ?_
      show own_G p e below _ (T40.setTop (mkF m 176 #[.val (.int p0), .val (.int p1), .val (.int p2), .val (.int vg1), .val (.int vg2), .val (.int vg3), .val (.ref b4), .val (.ref x13), .val (.int (1 : Int32)), .val (.ref x13), .val (.int vg1), .val (.ref x40)] []))
      refine own_via (fun t k => XS.aload X40.here hx rfl (hb hby at_176) rfl rfl k) ?_
      show own_G p e below _ (T40.setTop (mkF m 178 #[.val (.int p0), .val (.int p1), .val (.int p2), .val (.int vg1), .val (.int vg2), .val (.int vg3), .val (.ref b4), .val (.ref x13), .val (.int (1 : Int32)), .val (.ref x13), .val (.int vg1), .val (.ref x40)] [(.ref x40)]))
      refine own_via (fun t k => XS.ifnullNo X40.here hx rfl (hb hby at_178) rfl k) ?_
      show own_G p e below _ (T40.setTop (mkF m 181 #[.val (.int p0), .val (.int p1), .val (.int p2), .val (.int vg1), .val (.int vg2), .val (.int vg3), .val (.ref b4), .val (.ref x13), .val (.int (1 : Int32)), .val (.ref x13), .val (.int vg1), .val (.ref x40)] []))
      refine own_via (fun t k => XS.aload X40.here hx rfl (hb hby at_181) rfl rfl k) ?_
      show own_G p e below _ (T40.setTop (mkF m 183 #[.val (.int p0), .val (.int p1), .val (.int p2), .val (.int vg1), .val (.int vg2), .val (.int vg3), .val (.ref b4), .val (.ref x13), .val (.int (1 : Int32)), .val (.ref x13), .val (.int vg1), .val (.ref x40)] [(.ref x40)]))
      refine own_via (fun t k => XS.aload X40.here hx rfl (hb hby at_183) rfl rfl k) ?_
      show own_G p e below _ (T40.setTop (mkF m 185 #[.val (.int p0), .val (.int p1), .val (.int p2), .val (.int vg1), .val (.int vg2), .val (.int vg3), .val (.ref b4), .val (.ref x13), .val (.int (1 : Int32)), .val (.ref x13), .val (.int vg1), .val (.ref x40)] [(.ref x13), (.ref x40)]))
      refine own_via (fun t k => Jvm.RoadKit.acmp (g := (mkF m 185 #[.val (.int p0), .val (.int p1), .val (.int p2), .val (.int vg1), .val (.int vg2), .val (.int vg3), .val (.ref b4), .val (.ref x13), .val (.int (1 : Int32)), .val (.ref x13), .val (.int vg1), .val (.ref x40)] [(.ref x13), (.ref x40)])) X40 hx rfl rfl rfl (pc0 := 185) (pc' := 188) (same := false) rfl (hb hby at_185) rfl (decide_eq_false fun q => (Ne.symm ne42) (Value.ref.inj q)) (by decide) (by decide) k) ?_
      show own_G p e below _ (T40.setTop (mkF m 188 #[.val (.int p0), .val (.int p1), .val (.int p2), .val (.int vg1), .val (.int vg2), .val (.int vg3), .val (.ref b4), .val (.ref x13), .val (.int (1 : Int32)), .val (.ref x13), .val (.int vg1), .val (.ref x40)] []))
      refine own_via (fun t k => XS.aload X40.here hx rfl (hb hby at_188) rfl rfl k) ?_
      show own_G p e below _ (T40.setTop (mkF m 190 #[.val (.int p0), .val (.int p1), .val (.int p2), .val (.int vg1), .val (.int vg2), .val (.int vg3), .val (.ref b4), .val (.ref x13), .val (.int (1 : Int32)), .val (.ref x13), .val (.int vg1), .val (.ref x40)] [(.ref x40)]))
      refine own_via (own_len X40 hx hZ e40 o40_4 (pc := 190) (Ls := #[.val (.int p0), .val (.int p1), .val (.int p2), .val (.int vg1), .val (.int vg2), .val (.int vg3), .val (.ref b4), .val (.ref x13), .val (.int (1 : Int32)), .val (.ref x13), .val (.int vg1), .val (.ref x40)]) (rest := []) (hb hby at_190)) ?_
      show own_G p e below _ (T40.setTop (mkF m 191 #[.val (.int p0), .val (.int p1), .val (.int p2), .val (.int vg1), .val (.int vg2), .val (.int vg3), .val (.ref b4), .val (.ref x13), .val (.int (1 : Int32)), .val (.ref x13), .val (.int vg1), .val (.ref x40)] [(.int vg3)]))
      refine own_via (fun t k => XS.iload X40.here hx rfl (hb hby at_191) rfl k) ?_
      show own_G p e below _ (T40.setTop (mkF m 193 #[.val (.int p0), .val (.int p1), .val (.int p2), .val (.int vg1), .val (.int vg2), .val (.int vg3), .val (.ref b4), .val (.ref x13), .val (.int (1 : Int32)), .val (.ref x13), .val (.int vg1), .val (.ref x40)] [(.int vg3), (.int vg3)]))
      refine own_via (fun t k => XS.icmpNo X40.here hx rfl (hb hby at_193) rfl (teq rfl).2 k) ?_
      show own_G p e below _ (T40.setTop (mkF m 196 #[.val (.int p0), .val (.int p1), .val (.int p2), .val (.int vg1), .val (.int vg2), .val (.int vg3), .val (.ref b4), .val (.ref x13), .val (.int (1 : Int32)), .val (.ref x13), .val (.int vg1), .val (.ref x40)] []))
      refine own_via (fun t k => XS.iconst X40.here hx rfl (hb hby at_196) k) ?_
      show own_G p e below _ (T40.setTop (mkF m 197 #[.val (.int p0), .val (.int p1), .val (.int p2), .val (.int vg1), .val (.int vg2), .val (.int vg3), .val (.ref b4), .val (.ref x13), .val (.int (1 : Int32)), .val (.ref x13), .val (.int vg1), .val (.ref x40)] [(.int (1 : Int32))]))
      refine own_via (fun t k => XS.goto X40.here hx rfl (pc0 := 197) (pc' := 201) rfl (hb hby at_197) (by decide) (by decide) k) ?_
      show own_G p e below _ (T40.setTop (mkF m 201 #[.val (.int p0), .val (.int p1), .val (.int p2), .val (.int vg1), .val (.int vg2), .val (.int vg3), .val (.ref b4), .val (.ref x13), .val (.int (1 : Int32)), .val (.ref x13), .val (.int vg1), .val (.ref x40)] [(.int (1 : Int32))]))
      refine own_via (fun t k => XS.istore X40.here hx rfl (hb hby at_201) rfl (l' := #[.val (.int p0), .val (.int p1), .val (.int p2), .val (.int vg1), .val (.int vg2), .val (.int vg3), .val (.ref b4), .val (.ref x13), .val (.int (1 : Int32)), .val (.ref x13), .val (.int vg1), .val (.ref x40)]) rfl k) ?_
      show own_G p e below _ (T40.setTop (mkF m 203 #[.val (.int p0), .val (.int p1), .val (.int p2), .val (.int vg1), .val (.int vg2), .val (.int vg3), .val (.ref b4), .val (.ref x13), .val (.int (1 : Int32)), .val (.ref x13), .val (.int vg1), .val (.ref x40)] []))
      refine own_via (fun t k => XS.iload X40.here hx rfl (hb hby at_203) rfl k) ?_
      show own_G p e below _ (T40.setTop (mkF m 205 #[.val (.int p0), .val (.int p1), .val (.int p2), .val (.int vg1), .val (.int vg2), .val (.int vg3), .val (.ref b4), .val (.ref x13), .val (.int (1 : Int32)), .val (.ref x13), .val (.int vg1), .val (.ref x40)] [(.int (1 : Int32))]))
      refine own_via (fun t k => XS.ifNo X40.here hx rfl (hb hby at_205) rfl ((if0 _ _).trans (feq (by decide : ¬ ((1 : Int32) = (0 : Int32)))).1) k) ?_
      show own_G p e below _ (T40.setTop (mkF m 208 #[.val (.int p0), .val (.int p1), .val (.int p2), .val (.int vg1), .val (.int vg2), .val (.int vg3), .val (.ref b4), .val (.ref x13), .val (.int (1 : Int32)), .val (.ref x13), .val (.int vg1), .val (.ref x40)] []))
      refine own_via (fun t k => XS.aload X40.here hx rfl (hb hby at_208) rfl rfl k) ?_
      show own_G p e below _ (T40.setTop (mkF m 210 #[.val (.int p0), .val (.int p1), .val (.int p2), .val (.int vg1), .val (.int vg2), .val (.int vg3), .val (.ref b4), .val (.ref x13), .val (.int (1 : Int32)), .val (.ref x13), .val (.int vg1), .val (.ref x40)] [(.ref b4)]))
      obtain ⟨T46, X46, e46, st46⟩ := own_callVP (y := (⟨"com/example/fields_in_tables/fieldsintables/TextBuilder", "isEmpty", "()Z"⟩ : MethodName)) (z := (⟨"com/example/fields_in_tables/fieldsintables/TextBuilder", "isEmpty", "()Z"⟩ : MethodName)) (W := 0) (a := b4) X40 hx hZ hown (hw _ (List.mem_of_getElem? (i := 23) rfl)) (hw _ (List.mem_of_getElem? (i := 24) rfl)) (notFace_of_selects (args := #[]) (mvT hZ (hw _ (List.mem_of_getElem? (i := 26) rfl)))) (hw _ (List.mem_of_getElem? (i := 26) rfl)) (hw _ (List.mem_of_getElem? (i := 25) rfl)) (hw _ (List.mem_of_getElem? (i := 2) rfl)) (hw _ (List.mem_of_getElem? (i := 27) rfl)) (by decide) (own_emp l Z a0 hw [] b4 h40 o40_2 o40_3) (by decide) (by decide) rfl rfl (by decide) (by decide) e40 o40_0 (pc := 210) (Ls := #[.val (.int p0), .val (.int p1), .val (.int p2), .val (.int vg1), .val (.int vg2), .val (.int vg3), .val (.ref b4), .val (.ref x13), .val (.int (1 : Int32)), .val (.ref x13), .val (.int vg1), .val (.ref x40)]) (st := [(.ref b4)]) (argsL := []) (rest := []) (by rw [hml]; rfl) (lenOf own_pd3 rfl) rfl rfl (Nat.le_of_eq rfl) (hb hby at_210)
      refine own_via st46 ?_
      show own_G p e below _ (T46.setTop (mkF m 213 #[.val (.int p0), .val (.int p1), .val (.int p2), .val (.int vg1), .val (.int vg2), .val (.int vg3), .val (.ref b4), .val (.ref x13), .val (.int (1 : Int32)), .val (.ref x13), .val (.int vg1), .val (.ref x40)] [(.int (1 : Int32))]))
      refine own_via (fun t k => XS.ifNo X46.here hx rfl (hb hby at_213) rfl ((if0 _ _).trans (feq (by decide : ¬ ((1 : Int32) = (0 : Int32)))).1) k) ?_
      show own_G p e below _ (T46.setTop (mkF m 216 #[.val (.int p0), .val (.int p1), .val (.int p2), .val (.int vg1), .val (.int vg2), .val (.int vg3), .val (.ref b4), .val (.ref x13), .val (.int (1 : Int32)), .val (.ref x13), .val (.int vg1), .val (.ref x40)] []))
      refine own_via (fun t k => XS.iconst X46.here hx rfl (hb hby at_216) k) ?_
      show own_G p e below _ (T46.setTop (mkF m 217 #[.val (.int p0), .val (.int p1), .val (.int p2), .val (.int vg1), .val (.int vg2), .val (.int vg3), .val (.ref b4), .val (.ref x13), .val (.int (1 : Int32)), .val (.ref x13), .val (.int vg1), .val (.ref x40)] [(.int (1 : Int32))]))
      refine own_via (fun t k => XS.goto X46.here hx rfl (pc0 := 217) (pc' := 221) rfl (hb hby at_217) (by decide) (by decide) k) ?_
      show own_G p e below _ (T46.setTop (mkF m 221 #[.val (.int p0), .val (.int p1), .val (.int p2), .val (.int vg1), .val (.int vg2), .val (.int vg3), .val (.ref b4), .val (.ref x13), .val (.int (1 : Int32)), .val (.ref x13), .val (.int vg1), .val (.ref x40)] [(.int (1 : Int32))]))
      refine own_via (fun t k => XS.istore X46.here hx rfl (hb hby at_221) rfl (l' := #[.val (.int p0), .val (.int p1), .val (.int p2), .val (.int vg1), .val (.int vg2), .val (.int vg3), .val (.ref b4), .val (.ref x13), .val (.int (1 : Int32)), .val (.ref x13), .val (.int vg1), .val (.ref x40)]) rfl k) ?_
      show own_G p e below _ (T46.setTop (mkF m 223 #[.val (.int p0), .val (.int p1), .val (.int p2), .val (.int vg1), .val (.int vg2), .val (.int vg3), .val (.ref b4), .val (.ref x13), .val (.int (1 : Int32)), .val (.ref x13), .val (.int vg1), .val (.ref x40)] []))
      refine own_via (fun t k => XS.iload X46.here hx rfl (hb hby at_223) rfl k) ?_
      show own_G p e below _ (T46.setTop (mkF m 225 #[.val (.int p0), .val (.int p1), .val (.int p2), .val (.int vg1), .val (.int vg2), .val (.int vg3), .val (.ref b4), .val (.ref x13), .val (.int (1 : Int32)), .val (.ref x13), .val (.int vg1), .val (.ref x40)] [(.int (1 : Int32))]))
      exact own_retN (t := .boolean) X46 hx Bd.returns (by simp) Bd.notSynchronized (hb hby at_225) ⟨N40, rfl⟩ (by decide) (by decide)
    ·
      show own_G p e below _ (T38.setTop (mkF m 137 #[.val (.int p0), .val (.int p1), .val (.int p2), .val (.int vg1), .val (.int vg2), .val (.int vg3), .val (.ref b4), .val (.ref x13), .val (.int (1 : Int32)), .val (.ref x13), .val (.int vg1), .unset] [(.int vg3), (.ref b4)]))
      obtain ⟨T47, X47, e47, st47⟩ := own_callVP (y := (⟨"com/example/fields_in_tables/fieldsintables/TextBuilder", "asciiScratch", "(I)[B"⟩ : MethodName)) (z := (⟨"com/example/fields_in_tables/fieldsintables/TextBuilder", "asciiScratch", "(I)[B"⟩ : MethodName)) (W := 0) (a := b4) X38 hx hZ hown (hw _ (List.mem_of_getElem? (i := 12) rfl)) (hw _ (List.mem_of_getElem? (i := 13) rfl)) (notFace_of_selects (args := #[]) (mvT hZ (hw _ (List.mem_of_getElem? (i := 15) rfl)))) (hw _ (List.mem_of_getElem? (i := 15) rfl)) (hw _ (List.mem_of_getElem? (i := 14) rfl)) (hw _ (List.mem_of_getElem? (i := 2) rfl)) (hw _ (List.mem_of_getElem? (i := 16) rfl)) (by decide) (own_s2 l Z a0 hw [] b4 vg3 x13 k13 vg1 [] (.int (0 : Int32)) h13 o13_0 o13_1 o13_4 hc39) (by decide) (by decide) rfl rfl (by decide) (by decide) e38 o13_0 (pc := 137) (Ls := #[.val (.int p0), .val (.int p1), .val (.int p2), .val (.int vg1), .val (.int vg2), .val (.int vg3), .val (.ref b4), .val (.ref x13), .val (.int (1 : Int32)), .val (.ref x13), .val (.int vg1), .unset]) (st := [(.int vg3), (.ref b4)]) (argsL := [(.int vg3)]) (rest := []) (by rw [hml]; rfl) (lenOf own_pd1 rfl) rfl rfl (Nat.le_of_eq rfl) (hb hby at_137)
      refine own_via st47 ?_
      show own_G p e below _ (T47.setTop (mkF m 140 #[.val (.int p0), .val (.int p1), .val (.int p2), .val (.int vg1), .val (.int vg2), .val (.int vg3), .val (.ref b4), .val (.ref x13), .val (.int (1 : Int32)), .val (.ref x13), .val (.int vg1), .unset] [(.ref x13)]))
      refine own_via (fun t k => XS.astore X47.here hx rfl (hb hby at_140) rfl rfl (l' := #[.val (.int p0), .val (.int p1), .val (.int p2), .val (.int vg1), .val (.int vg2), .val (.int vg3), .val (.ref b4), .val (.ref x13), .val (.int (1 : Int32)), .val (.ref x13), .val (.int vg1), .val (.ref x13)]) rfl k) ?_
      show own_G p e below _ (T47.setTop (mkF m 142 #[.val (.int p0), .val (.int p1), .val (.int p2), .val (.int vg1), .val (.int vg2), .val (.int vg3), .val (.ref b4), .val (.ref x13), .val (.int (1 : Int32)), .val (.ref x13), .val (.int vg1), .val (.ref x13)] []))
      refine own_via (fun t k => XS.iload X47.here hx rfl (hb hby at_142) rfl k) ?_
      show own_G p e below _ (T47.setTop (mkF m 144 #[.val (.int p0), .val (.int p1), .val (.int p2), .val (.int vg1), .val (.int vg2), .val (.int vg3), .val (.ref b4), .val (.ref x13), .val (.int (1 : Int32)), .val (.ref x13), .val (.int vg1), .val (.ref x13)] [(.int vg3)]))
      refine own_via (fun t k => XS.iload X47.here hx rfl (hb hby at_144) rfl k) ?_
      show own_G p e below _ (T47.setTop (mkF m 146 #[.val (.int p0), .val (.int p1), .val (.int p2), .val (.int vg1), .val (.int vg2), .val (.int vg3), .val (.ref b4), .val (.ref x13), .val (.int (1 : Int32)), .val (.ref x13), .val (.int vg1), .val (.ref x13)] [(.int vg1), (.int vg3)]))
      refine own_via (fun t k => XS.icmpNo X47.here hx rfl (hb hby at_146) rfl (flt hc39).2.2.1 k) ?_
      show own_G p e below _ (T47.setTop (mkF m 149 #[.val (.int p0), .val (.int p1), .val (.int p2), .val (.int vg1), .val (.int vg2), .val (.int vg3), .val (.ref b4), .val (.ref x13), .val (.int (1 : Int32)), .val (.ref x13), .val (.int vg1), .val (.ref x13)] []))
      refine own_via (fun t k => XS.iload X47.here hx rfl (hb hby at_149) rfl k) ?_
      show own_G p e below _ (T47.setTop (mkF m 151 #[.val (.int p0), .val (.int p1), .val (.int p2), .val (.int vg1), .val (.int vg2), .val (.int vg3), .val (.ref b4), .val (.ref x13), .val (.int (1 : Int32)), .val (.ref x13), .val (.int vg1), .val (.ref x13)] [(.int (1 : Int32))]))
      refine own_via (fun t k => XS.ifNo X47.here hx rfl (hb hby at_151) rfl ((if0 _ _).trans (feq (by decide : ¬ ((1 : Int32) = (0 : Int32)))).1) k) ?_
      show own_G p e below _ (T47.setTop (mkF m 154 #[.val (.int p0), .val (.int p1), .val (.int p2), .val (.int vg1), .val (.int vg2), .val (.int vg3), .val (.ref b4), .val (.ref x13), .val (.int (1 : Int32)), .val (.ref x13), .val (.int vg1), .val (.ref x13)] []))
      refine own_via (fun t k => XS.aload X47.here hx rfl (hb hby at_154) rfl rfl k) ?_
      show own_G p e below _ (T47.setTop (mkF m 156 #[.val (.int p0), .val (.int p1), .val (.int p2), .val (.int vg1), .val (.int vg2), .val (.int vg3), .val (.ref b4), .val (.ref x13), .val (.int (1 : Int32)), .val (.ref x13), .val (.int vg1), .val (.ref x13)] [(.ref x13)]))
      refine own_via (fun t k => XS.aload X47.here hx rfl (hb hby at_156) rfl rfl k) ?_
      show own_G p e below _ (T47.setTop (mkF m 158 #[.val (.int p0), .val (.int p1), .val (.int p2), .val (.int vg1), .val (.int vg2), .val (.int vg3), .val (.ref b4), .val (.ref x13), .val (.int (1 : Int32)), .val (.ref x13), .val (.int vg1), .val (.ref x13)] [(.ref x13), (.ref x13)]))
      refine own_via (fun t k => Jvm.RoadKit.acmp (g := (mkF m 158 #[.val (.int p0), .val (.int p1), .val (.int p2), .val (.int vg1), .val (.int vg2), .val (.int vg3), .val (.ref b4), .val (.ref x13), .val (.int (1 : Int32)), .val (.ref x13), .val (.int vg1), .val (.ref x13)] [(.ref x13), (.ref x13)])) X47 hx rfl rfl rfl (pc0 := 158) (pc' := 161) (same := true) rfl (hb hby at_158) rfl (decide_eq_true rfl) (by decide) (by decide) k) ?_
      show own_G p e below _ (T47.setTop (mkF m 161 #[.val (.int p0), .val (.int p1), .val (.int p2), .val (.int vg1), .val (.int vg2), .val (.int vg3), .val (.ref b4), .val (.ref x13), .val (.int (1 : Int32)), .val (.ref x13), .val (.int vg1), .val (.ref x13)] []))
      refine own_via (fun t k => XS.iconst X47.here hx rfl (hb hby at_161) k) ?_
      show own_G p e below _ (T47.setTop (mkF m 162 #[.val (.int p0), .val (.int p1), .val (.int p2), .val (.int vg1), .val (.int vg2), .val (.int vg3), .val (.ref b4), .val (.ref x13), .val (.int (1 : Int32)), .val (.ref x13), .val (.int vg1), .val (.ref x13)] [(.int (1 : Int32))]))
      refine own_via (fun t k => XS.goto X47.here hx rfl (pc0 := 162) (pc' := 166) rfl (hb hby at_162) (by decide) (by decide) k) ?_
      show own_G p e below _ (T47.setTop (mkF m 166 #[.val (.int p0), .val (.int p1), .val (.int p2), .val (.int vg1), .val (.int vg2), .val (.int vg3), .val (.ref b4), .val (.ref x13), .val (.int (1 : Int32)), .val (.ref x13), .val (.int vg1), .val (.ref x13)] [(.int (1 : Int32))]))
      refine own_via (fun t k => XS.istore X47.here hx rfl (hb hby at_166) rfl (l' := #[.val (.int p0), .val (.int p1), .val (.int p2), .val (.int vg1), .val (.int vg2), .val (.int vg3), .val (.ref b4), .val (.ref x13), .val (.int (1 : Int32)), .val (.ref x13), .val (.int vg1), .val (.ref x13)]) rfl k) ?_
      show own_G p e below _ (T47.setTop (mkF m 168 #[.val (.int p0), .val (.int p1), .val (.int p2), .val (.int vg1), .val (.int vg2), .val (.int vg3), .val (.ref b4), .val (.ref x13), .val (.int (1 : Int32)), .val (.ref x13), .val (.int vg1), .val (.ref x13)] []))
      refine own_via (fun t k => XS.goto X47.here hx rfl (pc0 := 168) (pc' := 203) rfl (hb hby at_168) (by decide) (by decide) k) ?_
      show own_G p e below _ (T47.setTop (mkF m 203 #[.val (.int p0), .val (.int p1), .val (.int p2), .val (.int vg1), .val (.int vg2), .val (.int vg3), .val (.ref b4), .val (.ref x13), .val (.int (1 : Int32)), .val (.ref x13), .val (.int vg1), .val (.ref x13)] []))
      refine own_via (fun t k => XS.iload X47.here hx rfl (hb hby at_203) rfl k) ?_
      show own_G p e below _ (T47.setTop (mkF m 205 #[.val (.int p0), .val (.int p1), .val (.int p2), .val (.int vg1), .val (.int vg2), .val (.int vg3), .val (.ref b4), .val (.ref x13), .val (.int (1 : Int32)), .val (.ref x13), .val (.int vg1), .val (.ref x13)] [(.int (1 : Int32))]))
      refine own_via (fun t k => XS.ifNo X47.here hx rfl (hb hby at_205) rfl ((if0 _ _).trans (feq (by decide : ¬ ((1 : Int32) = (0 : Int32)))).1) k) ?_
      show own_G p e below _ (T47.setTop (mkF m 208 #[.val (.int p0), .val (.int p1), .val (.int p2), .val (.int vg1), .val (.int vg2), .val (.int vg3), .val (.ref b4), .val (.ref x13), .val (.int (1 : Int32)), .val (.ref x13), .val (.int vg1), .val (.ref x13)] []))
      refine own_via (fun t k => XS.aload X47.here hx rfl (hb hby at_208) rfl rfl k) ?_
      show own_G p e below _ (T47.setTop (mkF m 210 #[.val (.int p0), .val (.int p1), .val (.int p2), .val (.int vg1), .val (.int vg2), .val (.int vg3), .val (.ref b4), .val (.ref x13), .val (.int (1 : Int32)), .val (.ref x13), .val (.int vg1), .val (.ref x13)] [(.ref b4)]))
      obtain ⟨T48, X48, e48, st48⟩ := own_callVP (y := (⟨"com/example/fields_in_tables/fieldsintables/TextBuilder", "isEmpty", "()Z"⟩ : MethodName)) (z := (⟨"com/example/fields_in_tables/fieldsintables/TextBuilder", "isEmpty", "()Z"⟩ : MethodName)) (W := 0) (a := b4) X47 hx hZ hown (hw _ (List.mem_of_getElem? (i := 23) rfl)) (hw _ (List.mem_of_getElem? (i := 24) rfl)) (notFace_of_selects (args := #[]) (mvT hZ (hw _ (List.mem_of_getElem? (i := 26) rfl)))) (hw _ (List.mem_of_getElem? (i := 26) rfl)) (hw _ (List.mem_of_getElem? (i := 25) rfl)) (hw _ (List.mem_of_getElem? (i := 2) rfl)) (hw _ (List.mem_of_getElem? (i := 27) rfl)) (by decide) (own_emp l Z a0 hw [] b4 h13 o13_2 o13_3) (by decide) (by decide) rfl rfl (by decide) (by decide) e47 o13_0 (pc := 210) (Ls := #[.val (.int p0), .val (.int p1), .val (.int p2), .val (.int vg1), .val (.int vg2), .val (.int vg3), .val (.ref b4), .val (.ref x13), .val (.int (1 : Int32)), .val (.ref x13), .val (.int vg1), .val (.ref x13)]) (st := [(.ref b4)]) (argsL := []) (rest := []) (by rw [hml]; rfl) (lenOf own_pd3 rfl) rfl rfl (Nat.le_of_eq rfl) (hb hby at_210)
      refine own_via st48 ?_
      show own_G p e below _ (T48.setTop (mkF m 213 #[.val (.int p0), .val (.int p1), .val (.int p2), .val (.int vg1), .val (.int vg2), .val (.int vg3), .val (.ref b4), .val (.ref x13), .val (.int (1 : Int32)), .val (.ref x13), .val (.int vg1), .val (.ref x13)] [(.int (1 : Int32))]))
      refine own_via (fun t k => XS.ifNo X48.here hx rfl (hb hby at_213) rfl ((if0 _ _).trans (feq (by decide : ¬ ((1 : Int32) = (0 : Int32)))).1) k) ?_
      show own_G p e below _ (T48.setTop (mkF m 216 #[.val (.int p0), .val (.int p1), .val (.int p2), .val (.int vg1), .val (.int vg2), .val (.int vg3), .val (.ref b4), .val (.ref x13), .val (.int (1 : Int32)), .val (.ref x13), .val (.int vg1), .val (.ref x13)] []))
      refine own_via (fun t k => XS.iconst X48.here hx rfl (hb hby at_216) k) ?_
      show own_G p e below _ (T48.setTop (mkF m 217 #[.val (.int p0), .val (.int p1), .val (.int p2), .val (.int vg1), .val (.int vg2), .val (.int vg3), .val (.ref b4), .val (.ref x13), .val (.int (1 : Int32)), .val (.ref x13), .val (.int vg1), .val (.ref x13)] [(.int (1 : Int32))]))
      refine own_via (fun t k => XS.goto X48.here hx rfl (pc0 := 217) (pc' := 221) rfl (hb hby at_217) (by decide) (by decide) k) ?_
      show own_G p e below _ (T48.setTop (mkF m 221 #[.val (.int p0), .val (.int p1), .val (.int p2), .val (.int vg1), .val (.int vg2), .val (.int vg3), .val (.ref b4), .val (.ref x13), .val (.int (1 : Int32)), .val (.ref x13), .val (.int vg1), .val (.ref x13)] [(.int (1 : Int32))]))
      refine own_via (fun t k => XS.istore X48.here hx rfl (hb hby at_221) rfl (l' := #[.val (.int p0), .val (.int p1), .val (.int p2), .val (.int vg1), .val (.int vg2), .val (.int vg3), .val (.ref b4), .val (.ref x13), .val (.int (1 : Int32)), .val (.ref x13), .val (.int vg1), .val (.ref x13)]) rfl k) ?_
      show own_G p e below _ (T48.setTop (mkF m 223 #[.val (.int p0), .val (.int p1), .val (.int p2), .val (.int vg1), .val (.int vg2), .val (.int vg3), .val (.ref b4), .val (.ref x13), .val (.int (1 : Int32)), .val (.ref x13), .val (.int vg1), .val (.ref x13)] []))
      refine own_via (fun t k => XS.iload X48.here hx rfl (hb hby at_223) rfl k) ?_
      show own_G p e below _ (T48.setTop (mkF m 225 #[.val (.int p0), .val (.int p1), .val (.int p2), .val (.int vg1), .val (.int vg2), .val (.int vg3), .val (.ref b4), .val (.ref x13), .val (.int (1 : Int32)), .val (.ref x13), .val (.int vg1), .val (.ref x13)] [(.int (1 : Int32))]))
      exact own_retN (t := .boolean) X48 hx Bd.returns (by simp) Bd.notSynchronized (hb hby at_225) ⟨N13, rfl⟩ (by decide) (by decide)
set_option maxRecDepth 65536 in
set_option maxHeartbeats 40000000 in
theorem comes_1 {Post : Tables → Env → Array Value → State → Outcome → State → Prop} (hpost : ∀ tb e args s v u, (limb_1_1.after args s (.returned v) u = true ∧ limb_1_2.after args s (.returned v) u = true) → FrameEnd s (.returned v) u (Jvm.fieldLocs frame_1_writes args s ++ Jvm.arrayLocs frame_1_arrays args s ++ Jvm.staticLocs frame_1_statics s) 24 5632 → Post tb e args s (.returned v) u) :
    ArmFor flags0 classFile x code maxLocals ret World_1 tables_1 room_1 Calls_1 rest_1 Pre_1 Post := by
  intro l hfl _ _ p e ha hc hk s m args below hf hA hF happ hP
  obtain ⟨hcalls, hrest, hpre⟩ := hP
  obtain ⟨-, -, -, hnamed, -, -, -, hat⟩ := (Spec.applies_iff hf).mp happ
  obtain ⟨hg, hn⟩ := and_e (Cond.before_iff.mp (show (Jvm.Cond.and given_1 narrow_1).before args s = true from hpre))
  obtain ⟨g1, g2⟩ := and_e hg
  obtain ⟨g3, g4⟩ := and_e g2
  obtain ⟨g5, g6⟩ := and_e g4
  obtain ⟨w0, w1, w2, rfl⟩ : ∃ w0 w1 w2 : Value, args = #[w0, w1, w2] := by
    have hs : args.size = 3 := by simpa [Cond.value, given_1] using g1
    obtain ⟨L⟩ := args
    match L, hs with
    | [w0, w1, w2], _ => exact ⟨w0, w1, w2, rfl⟩
  have hw := fun d (hd : d ∈ tables_1) => atoms_spec (ws := Jvm.Cond.code x code maxLocals ret :: tables_1) hat d (List.mem_cons_of_mem _ hd)
  obtain ⟨i0, ei0⟩ := is_v g3
  obtain rfl : w0 = (.int i0) := Option.some.inj ei0
  obtain ⟨i1, ei1⟩ := is_v g5
  obtain rfl : w1 = (.int i1) := Option.some.inj ei1
  obtain ⟨i2, ei2⟩ := is_v g6
  obtain rfl : w2 = (.int i2) := Option.some.inj ei2
  obtain ⟨n, o, h1, h2, h3, _, L, rfl, ⟨N, rfl⟩, hq⟩ := own_rm0 l s _ hw tables_1 i0 i1 i2 s.heap s.heap.size (Nat.le_refl _)  p e ha hc hk s m _ below hf ((Spec.applies_iff_loose hf).mp happ).1 ⟨rfl, State.Warmed39.refl s, rfl⟩ trivial
  refine ⟨n, _, h1, h2, h3, hpost _ _ _ _ _ _ ⟨Cond.after_iff.mpr rfl, Cond.after_iff.mpr (eq_i res_at (Term.int_eval (1)) rfl)⟩ ⟨hq.1, hq.2.1, (hq.2.2.sift fun y hy => Or.inr (N y hy)).mono (by decide) (by decide)⟩⟩
theorem main_1_1 : Claimed_1_1 := comes_1 fun _ _ _ _ _ _ h hF => ⟨h.1, hF⟩
theorem main_1_2 : Claimed_1_2 := comes_1 fun _ _ _ _ _ _ h hF => ⟨h.2, hF⟩
end Jvm.Pilot.@@N@@
namespace Jvm.Pilot.@@N@@
open Jvm Jvm.ClassFile Sem Op Lib Jvm.Free Jvm.Stand Jvm.Pilot.@@N@@.Jvm.D
/-! MADE BY PROGRAM (witnessworld.py) out of the Statement's table words and the real class files: 10 classes; the members and pool entries that the words name. The judged class is class 1, her method 1. -/
namespace start1
open Jvm.ClassFile
def u (s : String) : CpInfo := .utf8 (stringToUtf16 s)
/-- a pool by its gaps: so many unusable entries, then the entry; so many at the end -/
def gap : Nat → List CpInfo → List CpInfo
  | 0, r => r
  | n + 1, r => .unusable :: gap n r
def poolList (es : List (Nat × CpInfo)) (last : Nat) : List CpInfo := es.foldr (fun e r => gap e.1 (e.2 :: r)) (gap last [])
def pool (es : List (Nat × CpInfo)) (last : Nat) : Array CpInfo := ⟨poolList es last⟩
def fileOf (pool : Array CpInfo) (this : Nat) (attrs : Array Attribute := #[]) (ms : Array MethodInfo := #[]) (fl : Nat := 33) (sup : Nat := 0) (ifs : Array Nat := #[]) (fds : Array FieldInfo := #[]) : ClassFile where
  minorVersion := 0
  majorVersion := 65
  constantPool := pool
  accessFlags := fl
  thisClass := this
  superClass := sup
  interfaces := ifs
  fields := fds
  methods := ms
  attributes := attrs
def plain (name : String) (sup : Option ClassId) : Class where
  name := name
  kind := .ordinary
  loader := none
  accessFlags := 33
  super := sup
  interfaces := #[]
  cf := none
  fields := #[]
  methods := #[]
  instanceTypes := #[]
  staticTypes := #[]
  resolved := #[]
  callSites := []
  init := .initialized
  statics := none
  mirror := none

def pool0 : Array CpInfo := pool [(5, u "<init>"), (0, u "()V"), (1, .class_ 10), (1, u "java/lang/Object")] 113

def k0c0 : Code := { maxStack := 0, maxLocals := 1, code := object_method_1_code, exceptionTable := #[], attributes := #[] }
def k0m0 : Method := { name := "<init>", desc := "()V", sig := { parameters := [], returnType := none }, accessFlags := 1, code := some k0c0 }
/-- java/lang/Object -/
def k0 : Class := { plain "java/lang/Object" none with
  accessFlags := 33
  interfaces := #[]
  cf := some (fileOf pool0 8 #[] #[{ accessFlags := 1, nameIndex := 5, descriptorIndex := 6, attributes := #[] }] 33 0 #[] #[])
  fields := #[]
  methods := #[k0m0]
  instanceTypes := #[]
  staticTypes := #[]
  resolved := Array.replicate 124 none
  statics := none }

def pool1 : Array CpInfo := pool [(2, .class_ 4), (0, .nameAndType 5 6), (0, u "java/lang/Object"), (0, u "<init>"), (0, u "()V"), (0, .class_ 8), (0, u "com/example/fields_in_tables/fieldsintables/TextBuilder"), (0, .methodref 7 3), (0, .methodref 7 11), (0, .nameAndType 12 13), (0, u "asciiScratch"), (0, u "(I)[B"), (0, .methodref 15 16), (0, .class_ 17), (0, .nameAndType 18 19), (0, u "java/lang/Math"), (0, u "max"), (0, u "(II)I"), (0, .methodref 7 21), (0, .nameAndType 22 23), (0, u "isEmpty"), (0, u "()Z"), (0, .class_ 25), (0, u "com/example/fields_in_tables/fieldsintables/TextBuilderAsciiScratchPinLaw"), (2, u "law"), (0, u "(III)Z")] 5

def k1m0 : Method := { name := "<init>", desc := "()V", sig := { parameters := [], returnType := none }, accessFlags := 1, code := none }
def k1c1 : Code := { maxStack := 2, maxLocals := 12, code := code, exceptionTable := #[], attributes := #[] }
def k1m1 : Method := { name := "law", desc := "(III)Z", sig := { parameters := [.int, .int, .int], returnType := some .boolean }, accessFlags := 9, code := some k1c1 }
/-- com/example/fields_in_tables/fieldsintables/TextBuilderAsciiScratchPinLaw -/
def k1 : Class := { plain "com/example/fields_in_tables/fieldsintables/TextBuilderAsciiScratchPinLaw" (some 0) with
  accessFlags := 49
  interfaces := #[]
  cf := some (fileOf pool1 24 #[] #[{ accessFlags := 1, nameIndex := 5, descriptorIndex := 6, attributes := #[] }, { accessFlags := 9, nameIndex := 28, descriptorIndex := 29, attributes := #[] }] 49 2 #[] #[])
  fields := #[]
  methods := #[k1m0, k1m1]
  instanceTypes := #[]
  staticTypes := #[]
  resolved := Array.replicate 35 none
  statics := none }

def pool2 : Array CpInfo := pool [(3, .methodref 4 5), (0, .class_ 6), (0, .nameAndType 7 8), (0, u "java/lang/Object"), (0, u "<init>"), (0, u "()V"), (0, .fieldref 10 11), (0, .class_ 12), (0, .nameAndType 13 14), (0, u "com/example/fields_in_tables/fieldsintables/TextBuilder"), (0, u "latin1"), (0, u "[B"), (2, u "chars"), (0, u "[C"), (0, .fieldref 10 20), (0, .nameAndType 21 22), (0, u "length"), (0, u "I"), (40, u "setAside"), (17, u "(I)[B"), (0, .fieldref 10 83), (0, .nameAndType 84 14), (0, u "asciiScratch"), (0, .fieldref 10 86), (0, .nameAndType 87 88), (0, u "setAsideLength"), (0, u "J"), (2, u "Ljava/util/List;"), (51, u "spareChars"), (29, u "CHUNK"), (2, u "MOST_CHARS"), (12, u "isEmpty"), (0, u "()Z")] 19

def k2c0 : Code := { maxStack := 2, maxLocals := 1, code := prog_37_method_1_code, exceptionTable := #[], attributes := #[] }
def k2m0 : Method := { name := "<init>", desc := "()V", sig := { parameters := [], returnType := none }, accessFlags := 0, code := some k2c0 }
def k2c1 : Code := { maxStack := 2, maxLocals := 2, code := prog_37_method_10_code, exceptionTable := #[], attributes := #[] }
def k2m1 : Method := { name := "asciiScratch", desc := "(I)[B", sig := { parameters := [.int], returnType := some (.array .byte) }, accessFlags := 0, code := some k2c1 }
def k2c2 : Code := { maxStack := 4, maxLocals := 1, code := prog_37_method_13_code, exceptionTable := #[], attributes := #[] }
def k2m2 : Method := { name := "isEmpty", desc := "()Z", sig := { parameters := [], returnType := some .boolean }, accessFlags := 0, code := some k2c2 }
/-- com/example/fields_in_tables/fieldsintables/TextBuilder -/
def k2 : Class := { plain "com/example/fields_in_tables/fieldsintables/TextBuilder" (some 0) with
  accessFlags := 32
  interfaces := #[]
  cf := some (fileOf pool2 10 #[] #[{ accessFlags := 0, nameIndex := 7, descriptorIndex := 8, attributes := #[] }, { accessFlags := 0, nameIndex := 84, descriptorIndex := 81, attributes := #[] }, { accessFlags := 0, nameIndex := 189, descriptorIndex := 190, attributes := #[] }] 32 4 #[] #[{ accessFlags := 26, nameIndex := 173, descriptorIndex := 22, attributes := #[] }, { accessFlags := 26, nameIndex := 176, descriptorIndex := 88, attributes := #[] }, { accessFlags := 2, nameIndex := 63, descriptorIndex := 91, attributes := #[] }, { accessFlags := 2, nameIndex := 87, descriptorIndex := 88, attributes := #[] }, { accessFlags := 2, nameIndex := 13, descriptorIndex := 14, attributes := #[] }, { accessFlags := 2, nameIndex := 17, descriptorIndex := 18, attributes := #[] }, { accessFlags := 2, nameIndex := 143, descriptorIndex := 18, attributes := #[] }, { accessFlags := 2, nameIndex := 84, descriptorIndex := 14, attributes := #[] }, { accessFlags := 2, nameIndex := 21, descriptorIndex := 22, attributes := #[] }])
  fields := #[{ name := "CHUNK", type := .int, accessFlags := 26, slot := 0, constantValue := 0 }, { name := "MOST_CHARS", type := .long, accessFlags := 26, slot := 1, constantValue := 0 }, { name := "setAside", type := (.object "java/util/List"), accessFlags := 2, slot := 0, constantValue := 0 }, { name := "setAsideLength", type := .long, accessFlags := 2, slot := 1, constantValue := 0 }, { name := "latin1", type := (.array .byte), accessFlags := 2, slot := 2, constantValue := 0 }, { name := "chars", type := (.array .char), accessFlags := 2, slot := 3, constantValue := 0 }, { name := "spareChars", type := (.array .char), accessFlags := 2, slot := 4, constantValue := 0 }, { name := "asciiScratch", type := (.array .byte), accessFlags := 2, slot := 5, constantValue := 0 }, { name := "length", type := .int, accessFlags := 2, slot := 6, constantValue := 0 }]
  methods := #[k2m0, k2m1, k2m2]
  instanceTypes := #[(.object "java/util/List"), .long, (.array .byte), (.array .char), (.array .char), (.array .byte), .int]
  staticTypes := #[.int, .long]
  resolved := Array.replicate 210 none
  statics := none }

def pool3 : Array CpInfo := pool [(1, .class_ 2), (0, u "java/lang/Math"), (1, .class_ 6), (1, u "java/lang/Object"), (0, u "<init>"), (0, u "()V"), (89, .class_ 100), (1, u "java/lang/Math$RandomNumberGeneratorHolder"), (71, u "negativeZeroFloatBits"), (0, u "J"), (2, u "negativeZeroDoubleBits"), (21, u "max"), (46, u "$assertionsDisabled"), (0, u "Z"), (88, u "(II)I"), (2, u "twoToTheDoubleScaleDown"), (0, u "D"), (4, u "twoToTheDoubleScaleUp"), (9, u "E"), (3, u "PI"), (2, u "TAU"), (2, u "DEGREES_TO_RADIANS"), (0, u "RADIANS_TO_DEGREES")] 94

def k3m0 : Method := { name := "<init>", desc := "()V", sig := { parameters := [], returnType := none }, accessFlags := 2, code := none }
def k3c1 : Code := { maxStack := 2, maxLocals := 2, code := jdk_29_method_65_code, exceptionTable := #[], attributes := #[] }
def k3m1 : Method := { name := "max", desc := "(II)I", sig := { parameters := [.int, .int], returnType := some .int }, accessFlags := 9, code := some k3c1 }
/-- java/lang/Math -/
def k3 : Class := { plain "java/lang/Math" (some 0) with
  accessFlags := 49
  interfaces := #[]
  cf := some (fileOf pool3 1 #[.nestMembers #[98]] #[{ accessFlags := 2, nameIndex := 7, descriptorIndex := 8, attributes := #[] }, { accessFlags := 9, nameIndex := 198, descriptorIndex := 335, attributes := #[] }] 49 4 #[] #[{ accessFlags := 25, nameIndex := 354, descriptorIndex := 339, attributes := #[] }, { accessFlags := 25, nameIndex := 358, descriptorIndex := 339, attributes := #[] }, { accessFlags := 25, nameIndex := 361, descriptorIndex := 339, attributes := #[] }, { accessFlags := 26, nameIndex := 364, descriptorIndex := 339, attributes := #[] }, { accessFlags := 26, nameIndex := 365, descriptorIndex := 339, attributes := #[] }, { accessFlags := 26, nameIndex := 172, descriptorIndex := 173, attributes := #[] }, { accessFlags := 26, nameIndex := 176, descriptorIndex := 173, attributes := #[] }, { accessFlags := 8, nameIndex := 344, descriptorIndex := 339, attributes := #[] }, { accessFlags := 8, nameIndex := 338, descriptorIndex := 339, attributes := #[] }, { accessFlags := 4120, nameIndex := 245, descriptorIndex := 246, attributes := #[] }])
  fields := #[{ name := "E", type := .double, accessFlags := 25, slot := 0, constantValue := 0 }, { name := "PI", type := .double, accessFlags := 25, slot := 1, constantValue := 0 }, { name := "TAU", type := .double, accessFlags := 25, slot := 2, constantValue := 0 }, { name := "DEGREES_TO_RADIANS", type := .double, accessFlags := 26, slot := 3, constantValue := 0 }, { name := "RADIANS_TO_DEGREES", type := .double, accessFlags := 26, slot := 4, constantValue := 0 }, { name := "negativeZeroFloatBits", type := .long, accessFlags := 26, slot := 5, constantValue := 0 }, { name := "negativeZeroDoubleBits", type := .long, accessFlags := 26, slot := 6, constantValue := 0 }, { name := "twoToTheDoubleScaleUp", type := .double, accessFlags := 8, slot := 7, constantValue := 0 }, { name := "twoToTheDoubleScaleDown", type := .double, accessFlags := 8, slot := 8, constantValue := 0 }, { name := "$assertionsDisabled", type := .boolean, accessFlags := 4120, slot := 9, constantValue := 0 }]
  methods := #[k3m0, k3m1]
  instanceTypes := #[]
  staticTypes := #[.double, .double, .double, .double, .double, .long, .long, .double, .double, .boolean]
  resolved := Array.replicate 460 none
  statics := none }

def pool4 : Array CpInfo := pool [(1, u "java/lang/Cloneable"), (0, .class_ 1), (0, u "java/lang/Object"), (0, .class_ 3)] 3

/-- java/lang/Cloneable -/
def k4 : Class := { plain "java/lang/Cloneable" (some 0) with
  accessFlags := 1537
  interfaces := #[]
  cf := some (fileOf pool4 2 #[] #[] 1537 4 #[] #[])
  fields := #[]
  methods := #[]
  instanceTypes := #[]
  staticTypes := #[]
  resolved := Array.replicate 8 none
  statics := none }

def pool5 : Array CpInfo := pool [(1, u "java/io/Serializable"), (0, .class_ 1), (0, u "java/lang/Object"), (0, .class_ 3)] 3

/-- java/io/Serializable -/
def k5 : Class := { plain "java/io/Serializable" (some 0) with
  accessFlags := 1537
  interfaces := #[]
  cf := some (fileOf pool5 2 #[] #[] 1537 4 #[] #[])
  fields := #[]
  methods := #[]
  instanceTypes := #[]
  staticTypes := #[]
  resolved := Array.replicate 8 none
  statics := none }

/-- the primitive byte -/
def k6 : Class := { plain "byte" none with kind := .primitive 'B', accessFlags := 0x411 }
/-- [B -/
def k7 : Class := { plain "[B" (some 0) with kind := .array 6 .byte, interfaces := #[4, 5], accessFlags := 1041 }

/-- the primitive int -/
def k8 : Class := { plain "int" none with kind := .primitive 'I', accessFlags := 0x411 }
/-- [I -/
def k9 : Class := { plain "[I" (some 0) with kind := .array 8 .int, interfaces := #[4, 5], accessFlags := 1041 }

def heap : Heap := #[]
def classes : Array Class := #[k0, k1, k2, k3, k4, k5, k6, k7, k8, k9]
def interned : List (Array UInt16 × Addr) := []
def slotsUsed : Nat := 0
def theMethod : MethodId := ⟨1, 1⟩
def args0 : Array Value := #[.int 5, .int 300, .int 7]
def aboutOver (below : List Frame) : State where
  vm := { classes := classes, interned := interned.toArray }
  heap := heap
  slotsUsed := slotsUsed
  threads := #[{ frames := .invoking theMethod args0 :: below }]
def below0 : List Frame := [.native { method := ⟨0, 0⟩, args := #[] }]
def about1 : State := aboutOver below0
def p0 : Program := .bare "" "" ""
def e0 : Env := launch0.env 0 0 0
theorem w_frames : about1.frames = Frame.invoking theMethod args0 :: below0 := rfl
set_option maxRecDepth 65536 in
theorem w_args : argsFit about1.vm theMethod args0 = true := by decide +kernel
set_option maxRecDepth 65536 in
theorem w_heap : heapFits about1 = true := by decide +kernel
set_option maxRecDepth 65536 in
theorem w_runnable : about1.curStatus? = some .runnable := by decide +kernel
set_option maxRecDepth 65536 in
theorem w_alone : about1.alone = true := by decide +kernel
set_option maxRecDepth 65536 in
theorem w_named : about1.methodNamed? x = some theMethod := by decide +kernel
set_option maxRecDepth 65536 in
theorem w_hears : about1.hears theMethod below0 = true := by decide +kernel
set_option maxRecDepth 65536 in
theorem w_ripe : about1.ripe theMethod args0 below0 = true := by decide +kernel
theorem w_running : about1.status = .running := rfl
set_option maxRecDepth 65536 in
theorem w_room : about1.hasRoom e0.platform room_1 = true :=
  launch0.hasRoom_least _ room_1 (by decide +kernel) (by decide +kernel) (by decide +kernel) (by decide +kernel) (by decide +kernel) (by decide +kernel)
theorem allAtoms_all (ts : List Jvm.Cond) (a : Array Jvm.Value) (st : Jvm.State) : (allAtoms ts).before a st = ts.all (fun c => c.before a st) := by
  induction ts with
  | nil => rfl
  | cons c t ih =>
    show (Jvm.Cond.and c (allAtoms t)).before a st = _
    rw [Jvm.Cond.before_and, ih, List.all_cons]
def words1 : List Jvm.Cond := Jvm.Cond.code x code maxLocals ret :: tables_1
/-- a 'code' word, met by the world's own term for the bytes: nothing is compared byte by byte -/
theorem code_word {y : MethodName} {bytes : ByteArray} {mx : Nat} {rt : Option FieldType} {a : Array Value} {s : State} {m : MethodId} {meth : Method} {c : Code} (h1 : s.methodNamed? y = some m) (h2 : s.vm.method? m = some meth) (h3 : meth.code = some c) (h4 : c.code = bytes)
    (h5 : (c.maxLocals == mx && c.exceptionTable.isEmpty && decide (c.maxStack ≤ mostOperands) && decide (meth.sig.returnType = rt) && !meth.locks && decide (parseMethodDescriptor y.desc = some meth.sig)) = true) : (Jvm.Cond.code y bytes mx rt).before a s = true := by
  simp only [Bool.and_eq_true, beq_iff_eq, Bool.not_eq_true', decide_eq_true_eq] at h5
  obtain ⟨⟨⟨⟨⟨g1, g2⟩, g3⟩, g4⟩, g5⟩, g6⟩ := h5
  simp [Cond.before, Cond.holds, Cond.value, h1, h2, h3, h4, g1, g2, g3, g4, g5, g6]
def isCode : Jvm.Cond → Bool
  | .code _ _ _ _ => true
  | _ => false
theorem all_split {L : List Jvm.Cond} {P : Jvm.Cond → Bool} (h1 : L.all (fun c => isCode c || P c) = true) (h2 : ∀ c ∈ L.filter isCode, P c = true) : L.all P = true := by
  refine List.all_eq_true.mpr fun c hc => ?_
  have h := List.all_eq_true.mp h1 c hc
  rcases Bool.eq_false_or_eq_true (isCode c) with hi | hi
  · exact h2 c (List.mem_filter.mpr ⟨hc, hi⟩)
  · simpa [hi] using h
set_option maxRecDepth 65536 in
theorem w_c0 : (Jvm.Cond.code x code maxLocals ret).before args0 about1 = true := code_word (m := ⟨1, 1⟩) (meth := k1m1) (c := k1c1) (by decide +kernel) rfl rfl rfl (by decide +kernel)
set_option maxRecDepth 65536 in
theorem w_c1 : (Jvm.Cond.code ({ cls := "com/example/fields_in_tables/fieldsintables/TextBuilder", name := "<init>", desc := "()V" } : Jvm.MethodName) prog_37_method_1_code (1 : Nat) (Option.none : Option Jvm.ClassFile.FieldType)).before args0 about1 = true := code_word (m := ⟨2, 0⟩) (meth := k2m0) (c := k2c0) (by decide +kernel) rfl rfl rfl (by decide +kernel)
set_option maxRecDepth 65536 in
theorem w_c2 : (Jvm.Cond.code ({ cls := "java/lang/Object", name := "<init>", desc := "()V" } : Jvm.MethodName) object_method_1_code (1 : Nat) (Option.none : Option Jvm.ClassFile.FieldType)).before args0 about1 = true := code_word (m := ⟨0, 0⟩) (meth := k0m0) (c := k0c0) (by decide +kernel) rfl rfl rfl (by decide +kernel)
set_option maxRecDepth 65536 in
theorem w_c3 : (Jvm.Cond.code ({ cls := "com/example/fields_in_tables/fieldsintables/TextBuilder", name := "asciiScratch", desc := "(I)[B" } : Jvm.MethodName) prog_37_method_10_code (2 : Nat) (Option.some (Jvm.ClassFile.FieldType.array Jvm.ClassFile.FieldType.byte))).before args0 about1 = true := code_word (m := ⟨2, 1⟩) (meth := k2m1) (c := k2c1) (by decide +kernel) rfl rfl rfl (by decide +kernel)
set_option maxRecDepth 65536 in
theorem w_c4 : (Jvm.Cond.code ({ cls := "java/lang/Math", name := "max", desc := "(II)I" } : Jvm.MethodName) jdk_29_method_65_code (2 : Nat) (Option.some Jvm.ClassFile.FieldType.int)).before args0 about1 = true := code_word (m := ⟨3, 1⟩) (meth := k3m1) (c := k3c1) (by decide +kernel) rfl rfl rfl (by decide +kernel)
set_option maxRecDepth 65536 in
theorem w_c5 : (Jvm.Cond.code ({ cls := "com/example/fields_in_tables/fieldsintables/TextBuilder", name := "isEmpty", desc := "()Z" } : Jvm.MethodName) prog_37_method_13_code (1 : Nat) (Option.some Jvm.ClassFile.FieldType.boolean)).before args0 about1 = true := code_word (m := ⟨2, 2⟩) (meth := k2m2) (c := k2c2) (by decide +kernel) rfl rfl rfl (by decide +kernel)
def codes1 : List Jvm.Cond := [Jvm.Cond.code x code maxLocals ret, Jvm.Cond.code ({ cls := "com/example/fields_in_tables/fieldsintables/TextBuilder", name := "<init>", desc := "()V" } : Jvm.MethodName) prog_37_method_1_code (1 : Nat) (Option.none : Option Jvm.ClassFile.FieldType), Jvm.Cond.code ({ cls := "java/lang/Object", name := "<init>", desc := "()V" } : Jvm.MethodName) object_method_1_code (1 : Nat) (Option.none : Option Jvm.ClassFile.FieldType), Jvm.Cond.code ({ cls := "com/example/fields_in_tables/fieldsintables/TextBuilder", name := "asciiScratch", desc := "(I)[B" } : Jvm.MethodName) prog_37_method_10_code (2 : Nat) (Option.some (Jvm.ClassFile.FieldType.array Jvm.ClassFile.FieldType.byte)), Jvm.Cond.code ({ cls := "java/lang/Math", name := "max", desc := "(II)I" } : Jvm.MethodName) jdk_29_method_65_code (2 : Nat) (Option.some Jvm.ClassFile.FieldType.int), Jvm.Cond.code ({ cls := "com/example/fields_in_tables/fieldsintables/TextBuilder", name := "isEmpty", desc := "()Z" } : Jvm.MethodName) prog_37_method_13_code (1 : Nat) (Option.some Jvm.ClassFile.FieldType.boolean)]
set_option maxRecDepth 65536 in
theorem codes_eq : words1.filter isCode = codes1 := rfl
theorem w_codes : ∀ c ∈ words1.filter isCode, c.before args0 about1 = true := by
  rw [codes_eq]
  intro c hc
  simp only [codes1, List.mem_cons, List.not_mem_nil, or_false] at hc
  rcases hc with rfl | rfl | rfl | rfl | rfl | rfl
  · exact w_c0
  · exact w_c1
  · exact w_c2
  · exact w_c3
  · exact w_c4
  · exact w_c5
set_option maxRecDepth 65536 in
theorem w_t1 : (words1.take 24).all (fun c => isCode c || c.before args0 about1) = true := by decide +kernel
set_option maxRecDepth 65536 in
theorem w_t2 : (words1.drop 24).all (fun c => isCode c || c.before args0 about1) = true := by decide +kernel
theorem w_tables : (allAtoms (Jvm.Cond.code x code maxLocals ret :: tables_1)).before args0 about1 = true := by
  rw [allAtoms_all]
  show words1.all (fun c => c.before args0 about1) = true
  refine all_split ?_ w_codes
  rw [← List.take_append_drop 24 words1, List.all_append, w_t1, w_t2]
  rfl
set_option maxRecDepth 65536 in
theorem w_case : (Jvm.Cond.and given_1 narrow_1).before args0 about1 = true := by decide +kernel
theorem w_applies : (headSpec (Jvm.Cond.code x code maxLocals ret :: tables_1) room_1).applies x e0.platform about1 = true :=
  (Spec.applies_iff w_frames).mpr ⟨w_running, w_runnable, w_alone, w_named, w_hears, w_ripe, w_room, w_tables⟩
theorem atStart : AtStart classFile x code maxLocals ret World_1 tables_1 room_1 Calls_1 rest_1 Pre_1 launch0 p0 e0 about1 theMethod args0 below0 :=
  ⟨lists_1, trivial, launch0.admits_env _ _ _, launch0.least_env, fairChoices_fair.cas, fairChoices_fair.clock, w_frames, w_args, w_heap, w_applies, trivial, trivial, w_case⟩
end start1
theorem witness_1 : WitnessClaimed_1 := ⟨start1.p0, start1.e0, start1.about1, start1.theMethod, start1.args0, start1.below0, start1.atStart⟩
end Jvm.Pilot.@@N@@
