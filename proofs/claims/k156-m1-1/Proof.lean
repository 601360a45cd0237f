import JvmDerived
import JvmDerived.Pilot.@@N@@Statement
import JvmDerived.Pilot.@@N@@Code
set_option linter.unusedVariables false
set_option linter.unusedSimpArgs false
set_option maxRecDepth 65536
set_option maxHeartbeats 20000000
namespace Jvm.Pilot.@@N@@
open Jvm Jvm.ClassFile Sem Op Lib Jvm.Free Jvm.Stand Jvm.LawKit Jvm.RoadKit Bundle Jvm.Pilot.@@N@@.Jvm.D
section OwnKit
variable {p : Program} {l : Launch} {e : Env} {R : Room} {s : State} {m : MethodId} {args : Array Value} {below : List Frame} {meth : Method} {c : Code} {T : State} {locs : List Loc} {cells slots : Nat} {Z : State} {a0 : Array Value} {h0 : Heap}
/-- from this state the run comes to the end of the invocation, and there P holds -/
def own_G (p : Program) (e : Env) (below : List Frame) (P : Outcome → State → Prop) (st : State) : Prop :=
  ∃ (u : State) (o : Outcome), Steps p.tables e below st u ∧ u.status = .running ∧ Ended u below o ∧ P o u
theorem own_via {P : Outcome → State → Prop} {st st' : State} (k : ∀ t, Steps p.tables e below st' t → Steps p.tables e below st t) (h : own_G p e below P st') : own_G p e below P st := by
  obtain ⟨u, o, h1, h2⟩ := h
  exact ⟨u, o, k _ h1, h2⟩
/-- what a contract says of the end -/
def own_P (s : State) (Q : Option Value → Heap → List Loc → Prop) (k n : Nat) : Outcome → State → Prop := fun o u => ∃ v L, o = .returned v ∧ Q v u.heap L ∧ FrameEnd s o u L k n
/-- it returns w and leaves the heap as it was -/
def own_Q (w : Value) (h0 : Heap) : Option Value → Heap → List Loc → Prop := fun v h L => v = some w ∧ L = [] ∧ h = h0
/-- a contract -/
def own_C (l : Launch) (Z : State) (y : MethodName) (bytes : ByteArray) (maxL : Nat) (ret : Option FieldType) (ws : List Jvm.Cond) (rm : Room) (as : Array Value) (h0 : Heap) (Q : Option Value → Heap → List Loc → Prop) : Prop :=
  MetFree l y (head1 (Jvm.Cond.code y bytes maxL ret :: ws) rm) (fun a U => a = as ∧ Z.Warmed39 U.vm ∧ U.heap = h0) (fun _ _ _ _ _ => True) (fun _ U o U' => ∃ v L, o = .returned v ∧ Q v U'.heap L ∧ FrameEnd U o U' L rm.cells rm.slots)
theorem own_ret {v : Option Value} {Q : Option Value → Heap → List Loc → Prop} {k n : Nat} {st : State} (X : Stand p l e R s m args below meth c T locs cells slots) (hv : meth.sig.returnType = none → v = none) (hlocks : meth.locks = false)
    (hst : ∀ fs, (∀ (f : JFrame) (acts : List Action), f.method = m → f.locked = none → f.entered = [] → (doReturn e (T.setTop f) acts v).1 = T.setFrames fs) → Steps p.tables e below st (T.setFrames fs))
    (hQ : Q v T.heap locs) (hk : cells ≤ k) (hn : slots ≤ n) : own_G p e below (own_P s Q k n) st := by
  obtain ⟨fs, hr, hrun, hended, hW, hsame⟩ := X.leave (v := v) hv hlocks
  exact ⟨_, _, hst fs hr, hrun, hended, _, _, rfl, hQ, ⟨_, rfl⟩, hW, hsame.mono hk hn⟩
theorem own_retI {Q : Option Value → Heap → List Loc → Prop} {k n : Nat} (X : Stand p l e R s m args below meth c T locs cells slots) (hx : p.tables.exec = Jvm.exec) {pc : Nat} {Ls : Array Slot} {z : Int32} {rest : List Value} (hret : meth.sig.returnType = some .int) (hlocks : meth.locks = false) (hd : decode c.code pc = .ok (.ireturn, 1))
    (hQ : Q (some (.int z)) T.heap locs) (hk : cells ≤ k) (hn : slots ≤ n) : own_G p e below (own_P s Q k n) (T.setTop (mkF m pc Ls (.int z :: rest))) := by
  refine own_ret X (fun h => by rw [hret] at h; cases h) hlocks (fun fs hr => ?_) hQ hk hn
  have hm' : T.vm.method? m = some meth := X.method'
  have hn : narrow .int (.int z) = .int z := rfl
  show Steps p.tables e below (T.setTop { method := m, pc := pc, locals := Ls, stack := _ :: rest, locked := none }) _
  jvm_step X.here [X.here.top, hx, hd, hm', hret, hn]
  first | (intro acts; rw [hr _ acts rfl rfl rfl]) | rw [hr _ _ rfl rfl rfl]
  exact Steps.refl _
theorem own_retN {Q : Option Value → Heap → List Loc → Prop} {k n : Nat} {t : FieldType} (X : Stand p l e R s m args below meth c T locs cells slots) (hx : p.tables.exec = Jvm.exec) {pc : Nat} {Ls : Array Slot} {z : Int32} {rest : List Value} (hret : meth.sig.returnType = some t) (ht : t = .boolean ∨ t = .byte ∨ t = .char ∨ t = .short) (hlocks : meth.locks = false) (hd : decode c.code pc = .ok (.ireturn, 1))
    (hQ : Q (some (.int (nar t z))) T.heap locs) (hk : cells ≤ k) (hn : slots ≤ n) : own_G p e below (own_P s Q k n) (T.setTop (mkF m pc Ls (.int z :: rest))) :=
  own_ret X (fun h => by rw [hret] at h; cases h) hlocks (fun fs hr => retN X hx hret ht hd hr) hQ hk hn
theorem own_retL {Q : Option Value → Heap → List Loc → Prop} {k n : Nat} (X : Stand p l e R s m args below meth c T locs cells slots) (hx : p.tables.exec = Jvm.exec) {pc : Nat} {Ls : Array Slot} {z : Int64} (hret : meth.sig.returnType = some .long) (hlocks : meth.locks = false) (hd : decode c.code pc = .ok (.lreturn, 1))
    (hQ : Q (some (.long z)) T.heap locs) (hk : cells ≤ k) (hn : slots ≤ n) : own_G p e below (own_P s Q k n) (T.setTop (mkF m pc Ls [.long z])) :=
  own_ret X (fun h => by rw [hret] at h; cases h) hlocks (fun fs hr => X.lreturnOut hx hret hd hr) hQ hk hn
theorem own_retV {Q : Option Value → Heap → List Loc → Prop} {k n : Nat} (X : Stand p l e R s m args below meth c T locs cells slots) (hx : p.tables.exec = Jvm.exec) {pc : Nat} {Ls : Array Slot} (hret : meth.sig.returnType = none) (hlocks : meth.locks = false) (hd : decode c.code pc = .ok (.return_, 1))
    (hQ : Q none T.heap locs) (hk : cells ≤ k) (hn : slots ≤ n) : own_G p e below (own_P s Q k n) (T.setTop (mkF m pc Ls [])) :=
  own_ret X (fun _ => rfl) hlocks (fun fs hr => X.returnOut hx hret hd hr) hQ hk hn
theorem own_retA {Q : Option Value → Heap → List Loc → Prop} {k n : Nat} {t : FieldType} {v : Value} (X : Stand p l e R s m args below meth c T locs cells slots) (hx : p.tables.exec = Jvm.exec) {pc : Nat} {Ls : Array Slot} {rest : List Value} (hret : meth.sig.returnType = some t) (ht : t.isReference = true) (hv : v.isRef = true) (hlocks : meth.locks = false) (hd : decode c.code pc = .ok (.areturn, 1))
    (hQ : Q (some v) T.heap locs) (hk : cells ≤ k) (hn : slots ≤ n) : own_G p e below (own_P s Q k n) (T.setTop (mkF m pc Ls (v :: rest))) := by
  refine own_ret X (fun h => by rw [hret] at h; cases h) hlocks (fun fs hr => ?_) hQ hk hn
  have hm' : T.vm.method? m = some meth := X.method'
  show Steps p.tables e below (T.setTop { method := m, pc := pc, locals := Ls, stack := _ :: rest, locked := none }) _
  jvm_step X.here [X.here.top, hx, hd, hm', hret, ht, hv]
  first | (intro acts; rw [hr _ acts rfl rfl rfl]) | rw [hr _ _ rfl rfl rfl]
  exact Steps.refl _
/-- a static method by its contract -/
theorem own_callS {own : String} {index : Nat} {y : MethodName} {bytes : ByteArray} {maxL W : Nat} {ret : Option FieldType} {rm : Room} {as : Array Value} {Q : Option Value → Heap → List Loc → Prop}
    (X : Stand p l e R s m args below meth c T locs cells slots) (hx : p.tables.exec = Jvm.exec) (hZ : Z.Warmed39 s.vm) (hown : s.vm.findClass own = some m.cls)
    (w1 : (Jvm.Cond.methodLink own index y).before a0 Z = true) (w2 : (Jvm.Cond.static y).before a0 Z = true) (w3 : (Jvm.Cond.initialized y.cls).before a0 Z = true) (w4 : (Jvm.Cond.code y bytes maxL ret).before a0 Z = true)
    (hy : y.cls ≠ "java/lang/invoke/MethodHandle" ∧ y.cls ≠ "java/lang/invoke/VarHandle") (hM : own_C l Z y bytes maxL ret [] rm as h0 Q)
    (hf : rm.frames + 1 ≤ R.frames) (hl : W + (maxL + 11) + rm.locals ≤ R.locals) (hcc : cells + rm.cells ≤ R.cells) (hss : slots + rm.slots ≤ R.slots) (e0 : T.heap = h0)
    {pc : Nat} {Ls : Array Slot} {st argsL rest : List Value} (hsize : Ls.size = c.maxLocals) (hlen : ∀ sig, parseMethodDescriptor y.desc = some sig → argsL.length = sig.parameters.length) (has : argsL.toArray = as)
    (hst : st = argsL.reverse ++ rest) (hW : 2 * 0 + (rest.map fun v => v.category).sum ≤ W) (hd : decode c.code pc = .ok (.invokestatic index, 3)) :
    ∃ (v : Option Value) (T' : State) (L : List Loc), Stand p l e R s m args below meth c T' (locs ++ L) (cells + rm.cells) (slots + rm.slots) ∧ Q v T'.heap L ∧
      ∀ target, Steps p.tables e below (T'.setTop (mkF m (pc + 3) Ls (v.toList ++ rest))) target → Steps p.tables e below (T.setTop (mkF m pc Ls st)) target := by
  obtain ⟨v, _, ⟨T', L', k', n'⟩, -, X', ⟨Lc, hQ, h1, h2, h3⟩, stp⟩ := Jvm.LawKit.callS X hx (y := y) hown (mvT hZ w1) (mvT hZ w2) (mvT hZ w3) (mvT hZ w4) hy
    (backOf (W := W) hM hZ w4 w3 hf hl) (g := mkF m pc Ls st) rfl hsize (argsL := argsL) (rest := rest) hlen hst hW hd (fun _ _ => ⟨has, e0, hcc, hss⟩)
  dsimp only [Pt.U, Pt.locs, Pt.cells, Pt.slots] at X' h1 h2 h3 stp hQ
  subst h1 h2 h3
  exact ⟨v, T', Lc, X', hQ, stp⟩
/-- a static method that leaves the heap as it was -/
theorem own_callP {own : String} {index : Nat} {y : MethodName} {bytes : ByteArray} {maxL W : Nat} {ret : Option FieldType} {rm : Room} {as : Array Value} {w : Value}
    (X : Stand p l e R s m args below meth c T locs cells slots) (hx : p.tables.exec = Jvm.exec) (hZ : Z.Warmed39 s.vm) (hown : s.vm.findClass own = some m.cls)
    (w1 : (Jvm.Cond.methodLink own index y).before a0 Z = true) (w2 : (Jvm.Cond.static y).before a0 Z = true) (w3 : (Jvm.Cond.initialized y.cls).before a0 Z = true) (w4 : (Jvm.Cond.code y bytes maxL ret).before a0 Z = true)
    (hy : y.cls ≠ "java/lang/invoke/MethodHandle" ∧ y.cls ≠ "java/lang/invoke/VarHandle") (hM : own_C l Z y bytes maxL ret [] rm as h0 (own_Q w h0))
    (hf : rm.frames + 1 ≤ R.frames) (hl : W + (maxL + 11) + rm.locals ≤ R.locals) (hrc : rm.cells = 0) (hrs : rm.slots = 0) (hcc : cells + rm.cells ≤ R.cells) (hss : slots + rm.slots ≤ R.slots) (e0 : T.heap = h0)
    {pc : Nat} {Ls : Array Slot} {st argsL rest : List Value} (hsize : Ls.size = c.maxLocals) (hlen : ∀ sig, parseMethodDescriptor y.desc = some sig → argsL.length = sig.parameters.length) (has : argsL.toArray = as)
    (hst : st = argsL.reverse ++ rest) (hW : 2 * 0 + (rest.map fun v => v.category).sum ≤ W) (hd : decode c.code pc = .ok (.invokestatic index, 3)) :
    ∃ (T' : State), Stand p l e R s m args below meth c T' locs cells slots ∧ T'.heap = h0 ∧
      ∀ target, Steps p.tables e below (T'.setTop (mkF m (pc + 3) Ls (w :: rest))) target → Steps p.tables e below (T.setTop (mkF m pc Ls st)) target := by
  obtain ⟨v, T', L, X', ⟨rfl, rfl, hh⟩, stp⟩ := own_callS X hx hZ hown w1 w2 w3 w4 hy hM hf hl hcc hss e0 hsize hlen has hst hW hd
  rw [List.append_nil, hrc, hrs] at X'
  exact ⟨T', X', hh, stp⟩
theorem own_b1 {x a : Int32} (h : x < a) : x.toInt ≤ a.toInt - 1 := by rw [Int32.lt_iff_toInt_lt] at h; omega
theorem own_b2 {x a : Int32} (h : ¬ x < a) : a.toInt ≤ x.toInt := by rw [Int32.lt_iff_toInt_lt] at h; omega
theorem own_b3 {x a : Int32} (h : a < x) : a.toInt + 1 ≤ x.toInt := by rw [Int32.lt_iff_toInt_lt] at h; omega
theorem own_b4 {x a : Int32} (h : ¬ a < x) : x.toInt ≤ a.toInt := by rw [Int32.lt_iff_toInt_lt] at h; omega
theorem own_b5 {x b : Int32} {k : Int} (h : x.toInt ≤ k) (q : k < b.toInt) : x < b := by rw [Int32.lt_iff_toInt_lt]; omega
theorem own_b6 {x b : Int32} {k : Int} (h : k ≤ x.toInt) (q : b.toInt ≤ k) : ¬ x < b := by rw [Int32.lt_iff_toInt_lt]; omega
theorem own_b7 {x b : Int32} {k : Int} (h : k ≤ x.toInt) (q : b.toInt < k) : b < x := by rw [Int32.lt_iff_toInt_lt]; omega
theorem own_b8 {x b : Int32} {k : Int} (h : x.toInt ≤ k) (q : k ≤ b.toInt) : ¬ b < x := by rw [Int32.lt_iff_toInt_lt]; omega
theorem own_b9 {x b : Int32} {k : Int} (h : x.toInt ≤ k) (q : k < b.toInt) : ¬ x = b := fun e => by subst e; omega
theorem own_b10 {x b : Int32} {k : Int} (h : k ≤ x.toInt) (q : b.toInt < k) : ¬ x = b := fun e => by subst e; omega
theorem own_of_eq {x a : Int32} {P : Int32 → Prop} (h : x = a) (q : P a) : P x := h ▸ q
end OwnKit
section OwnHeap
variable {p : Program} {l : Launch} {e : Env} {R : Room} {s : State} {m : MethodId} {args : Array Value} {below : List Frame} {meth : Method} {c : Code} {T : State} {locs : List Loc} {cells slots : Nat} {Z : State} {a0 : Array Value} {h0 h : Heap} {n0 : Nat}
/-- the writes lie at or above n0, and q says the rest -/
def own_W (n0 : Nat) (q : Option Value → Heap → Prop) : Option Value → Heap → List Loc → Prop := fun v h L => Fr n0 L ∧ q v h
theorem own_newA (X : Stand p l e R s m args below meth c T locs cells slots) (hx : p.tables.exec = Jvm.exec) (hZ : Z.Warmed39 s.vm) {aty : ArrayType} (w : (Jvm.Cond.arrayClass (newarray.typeOf aty)).before a0 Z = true) (eT : T.heap = h) {pc : Nat} {Ls : Array Slot} (hd : decode c.code pc = .ok (.newarray aty, 2)) {n : Int32} {rest : List Value}
    (hn : ¬ n < 0) {cap : Nat} (hcap : n.toNatClampNeg ≤ cap) (hb : cap * 8 ≤ 536870912) (hc : cells + 1 ≤ R.cells) (hl : slots + cap ≤ R.slots) (len : Nat) {ad : String} (had : "[" ++ (newarray.typeOf aty).toString = ad) :
    ∃ T' h' k a, Stand p l e R s m args below meth c T' locs (cells + 1) (slots + cap) ∧ T'.heap = h' ∧ Ext h h' ∧ a = h.size ∧ Arv Z h' a k (newarray.typeOf aty) n (List.replicate len (defaultValue (newarray.typeOf aty))) (defaultValue (newarray.typeOf aty)) ∧ Exa Z h' a ad ∧
      ∀ target, Steps p.tables e below (T'.setTop (mkF m (pc + 2) Ls (.ref a :: rest))) target → Steps p.tables e below (T.setTop (mkF m pc Ls (.int n :: rest))) target := by
  obtain ⟨T', h', k, X', e', E, A, Ex, st⟩ := newPE X hx hZ w eT (g := mkF m pc Ls (.int n :: rest)) rfl hd rfl hn hcap hb hc hl had
  exact ⟨T', h', k, h.size, X', e', E, rfl, (Arv.new A hn).pad (fun i => by have := pad_rep [] (defaultValue (newarray.typeOf aty)) len i; rwa [List.nil_append] at this), Ex, st⟩
theorem own_stB (X : Stand p l e R s m args below meth c T locs cells slots) (N : Fr n0 locs) (hx : p.tables.exec = Jvm.exec) (hZ : Z.Warmed39 s.vm) (eT : T.heap = h) {a : Addr} {k : ClassId} {z : Int32} {vs : List Value} {d : Value} (V : Arv Z h a k .byte z vs d) (ga : n0 ≤ a) {j x : Int32} {i : Nat} (hj : ¬ j < 0 ∧ j < z) (hi : j.toNatClampNeg = i) (hl : i < vs.length)
    {pc : Nat} {Ls : Array Slot} {rest : List Value} (hd : decode c.code pc = .ok (.bastore, 1)) :
    ∃ T' h' L', Stand p l e R s m args below meth c T' L' cells slots ∧ Fr n0 L' ∧ T'.heap = h' ∧ Wr h h' a i (.int x.toInt8.toInt32) ∧ Arv Z h' a k .byte z (vs.set i (.int x.toInt8.toInt32)) d ∧
      ∀ target, Steps p.tables e below (T'.setTop (mkF m (pc + 1) Ls rest)) target → Steps p.tables e below (T.setTop (mkF m pc Ls (.int x :: .int j :: .ref a :: rest))) target := by
  obtain ⟨cl, Ar, q, S, Nn, H, G⟩ := V
  obtain ⟨T', h', X', e', W, st⟩ := stB X hx hZ eT Ar (j := j) (x := x) (inb_of S hj) (g := mkF m pc Ls (.int x :: .int j :: .ref a :: rest)) rfl rfl hd
  subst hi
  exact ⟨T', h', _, X', Fr.snoc X' N ga, e', W, Arv.set Ar q S Nn H G (fits_nar_byte x) W _ rfl hl, st⟩
theorem own_stI (X : Stand p l e R s m args below meth c T locs cells slots) (N : Fr n0 locs) (hx : p.tables.exec = Jvm.exec) (hZ : Z.Warmed39 s.vm) (eT : T.heap = h) {a : Addr} {k : ClassId} {z : Int32} {vs : List Value} {d : Value} (V : Arv Z h a k .int z vs d) (ga : n0 ≤ a) {j x : Int32} {i : Nat} (hj : ¬ j < 0 ∧ j < z) (hi : j.toNatClampNeg = i) (hl : i < vs.length)
    {pc : Nat} {Ls : Array Slot} {rest : List Value} (hd : decode c.code pc = .ok (.iastore, 1)) :
    ∃ T' h' L', Stand p l e R s m args below meth c T' L' cells slots ∧ Fr n0 L' ∧ T'.heap = h' ∧ Wr h h' a i (.int x) ∧ Arv Z h' a k .int z (vs.set i (.int x)) d ∧
      ∀ target, Steps p.tables e below (T'.setTop (mkF m (pc + 1) Ls rest)) target → Steps p.tables e below (T.setTop (mkF m pc Ls (.int x :: .int j :: .ref a :: rest))) target := by
  obtain ⟨cl, Ar, q, S, Nn, H, G⟩ := V
  obtain ⟨T', h', X', e', W, st⟩ := stI X hx hZ eT Ar (j := j) (x := x) (inb_of S hj) (g := mkF m pc Ls (.int x :: .int j :: .ref a :: rest)) rfl rfl hd
  subst hi
  exact ⟨T', h', _, X', Fr.snoc X' N ga, e', W, Arv.set Ar q S Nn H G rfl W _ rfl hl, st⟩
theorem own_stC (X : Stand p l e R s m args below meth c T locs cells slots) (N : Fr n0 locs) (hx : p.tables.exec = Jvm.exec) (hZ : Z.Warmed39 s.vm) (eT : T.heap = h) {a : Addr} {k : ClassId} {z : Int32} {vs : List Value} {d : Value} (V : Arv Z h a k .char z vs d) (ga : n0 ≤ a) {j x : Int32} {i : Nat} (hj : ¬ j < 0 ∧ j < z) (hi : j.toNatClampNeg = i) (hl : i < vs.length)
    {pc : Nat} {Ls : Array Slot} {rest : List Value} (hd : decode c.code pc = .ok (.castore, 1)) :
    ∃ T' h' L', Stand p l e R s m args below meth c T' L' cells slots ∧ Fr n0 L' ∧ T'.heap = h' ∧ Wr h h' a i (.int (nar .char x)) ∧ Arv Z h' a k .char z (vs.set i (.int (nar .char x))) d ∧
      ∀ target, Steps p.tables e below (T'.setTop (mkF m (pc + 1) Ls rest)) target → Steps p.tables e below (T.setTop (mkF m pc Ls (.int x :: .int j :: .ref a :: rest))) target := by
  obtain ⟨cl, Ar, q, S, Nn, H, G⟩ := V
  obtain ⟨T', h', X', e', W, st⟩ := stC X hx hZ eT Ar (j := j) (x := x) (inb_of S hj) (g := mkF m pc Ls (.int x :: .int j :: .ref a :: rest)) rfl rfl hd
  subst hi
  exact ⟨T', h', _, X', Fr.snoc X' N ga, e', W, Arv.set Ar q S Nn H G (fits_nar_char x) W _ rfl hl, st⟩
theorem own_ldB (X : Stand p l e R s m args below meth c T locs cells slots) (hx : p.tables.exec = Jvm.exec) (hZ : Z.Warmed39 s.vm) (eT : T.heap = h) {a : Addr} {k : ClassId} {z : Int32} {vs : List Value} {d v : Value} (V : Arv Z h a k .byte z vs d) {j : Int32} (hj : ¬ j < 0 ∧ j < z) (hv : vs.getD j.toNatClampNeg d = v)
    {pc : Nat} {Ls : Array Slot} {rest : List Value} (hd : decode c.code pc = .ok (.baload, 1)) (target : State) (hr : Steps p.tables e below (T.setTop (mkF m (pc + 1) Ls (v :: rest))) target) : Steps p.tables e below (T.setTop (mkF m pc Ls (.int j :: .ref a :: rest))) target := by
  obtain ⟨cl, Ar, q, S, Nn, H, G⟩ := V
  have hin := inb_of S hj
  refine X.baloadBytes hx (j := j) (v := v) (by rw [eT]; exact Ar.1) (State.isArrayOf_alike hZ.alike Ar.2.1) Ar.2.2 hin ?_ (g := mkF m pc Ls (.int j :: .ref a :: rest)) rfl rfl hd _ hr
  rw [H _ (Nat.lt_of_not_le fun q => hin (Or.inr q)), hv]
theorem own_ldI (X : Stand p l e R s m args below meth c T locs cells slots) (hx : p.tables.exec = Jvm.exec) (hZ : Z.Warmed39 s.vm) (eT : T.heap = h) {a : Addr} {k : ClassId} {z : Int32} {vs : List Value} {d v : Value} (V : Arv Z h a k .int z vs d) {j : Int32} (hj : ¬ j < 0 ∧ j < z) (hv : vs.getD j.toNatClampNeg d = v)
    {pc : Nat} {Ls : Array Slot} {rest : List Value} (hd : decode c.code pc = .ok (.iaload, 1)) (target : State) (hr : Steps p.tables e below (T.setTop (mkF m (pc + 1) Ls (v :: rest))) target) : Steps p.tables e below (T.setTop (mkF m pc Ls (.int j :: .ref a :: rest))) target := by
  obtain ⟨cl, Ar, q, S, Nn, H, G⟩ := V
  have hin := inb_of S hj
  refine X.iaload hx (j := j) (v := v) (by rw [eT]; exact Ar.1) (State.isArrayOf_alike hZ.alike Ar.2.1) Ar.2.2 hin ?_ (g := mkF m pc Ls (.int j :: .ref a :: rest)) rfl rfl hd _ hr
  rw [H _ (Nat.lt_of_not_le fun q => hin (Or.inr q)), hv]
theorem own_ldC (X : Stand p l e R s m args below meth c T locs cells slots) (hx : p.tables.exec = Jvm.exec) (hZ : Z.Warmed39 s.vm) (eT : T.heap = h) {a : Addr} {k : ClassId} {z : Int32} {vs : List Value} {d v : Value} (V : Arv Z h a k .char z vs d) {j : Int32} (hj : ¬ j < 0 ∧ j < z) (hv : vs.getD j.toNatClampNeg d = v)
    {pc : Nat} {Ls : Array Slot} {rest : List Value} (hd : decode c.code pc = .ok (.caload, 1)) (target : State) (hr : Steps p.tables e below (T.setTop (mkF m (pc + 1) Ls (v :: rest))) target) : Steps p.tables e below (T.setTop (mkF m pc Ls (.int j :: .ref a :: rest))) target := by
  obtain ⟨cl, Ar, q, S, Nn, H, G⟩ := V
  have hin := inb_of S hj
  refine X.caload hx (j := j) (v := v) (by rw [eT]; exact Ar.1) (State.isArrayOf_alike hZ.alike Ar.2.1) Ar.2.2 hin ?_ (g := mkF m pc Ls (.int j :: .ref a :: rest)) rfl rfl hd _ hr
  rw [H _ (Nat.lt_of_not_le fun q => hin (Or.inr q)), hv]
theorem own_len (X : Stand p l e R s m args below meth c T locs cells slots) (hx : p.tables.exec = Jvm.exec) (hZ : Z.Warmed39 s.vm) (eT : T.heap = h) {a : Addr} {k : ClassId} {ty : FieldType} {z : Int32} {vs : List Value} {d : Value} (V : Arv Z h a k ty z vs d)
    {pc : Nat} {Ls : Array Slot} {rest : List Value} (hd : decode c.code pc = .ok (.arraylength, 1)) (target : State) (hr : Steps p.tables e below (T.setTop (mkF m (pc + 1) Ls (.int z :: rest))) target) : Steps p.tables e below (T.setTop (mkF m pc Ls (.ref a :: rest))) target := by
  obtain ⟨cl, Ar, q, S, Nn, H, G⟩ := V
  refine X.arraylength hx (by rw [eT]; exact Ar.1) (State.isArrayOf_alike hZ.alike Ar.2.1) (g := mkF m pc Ls (.ref a :: rest)) rfl rfl hd _ ?_
  rw [len_of S Nn]
  exact hr
/-- an array cloned -/
theorem own_clone (X : Stand p l e R s m args below meth c T locs cells slots) (hx : p.tables.exec = Jvm.exec) (hZ : Z.Warmed39 s.vm) {own ad : String} {index : Nat} (hown : s.vm.findClass own = some m.cls)
    (w1 : (Jvm.Cond.methodLink own index ⟨ad, "clone", "()Ljava/lang/Object;"⟩).before a0 Z = true) (w2 : (Jvm.Cond.sameMethod ad "java/lang/Object" "clone" "()Ljava/lang/Object;").before a0 Z = true) (w3 : (Jvm.Cond.native ⟨"java/lang/Object", "clone", "()Ljava/lang/Object;"⟩).before a0 Z = true)
    (w4 : (Jvm.Cond.instanceMethod ⟨"java/lang/Object", "clone", "()Ljava/lang/Object;"⟩).before a0 Z = true) (w5 : (Jvm.Cond.selects ad ⟨ad, "clone", "()Ljava/lang/Object;"⟩ ⟨"java/lang/Object", "clone", "()Ljava/lang/Object;"⟩).before a0 Z = true) (w6 : (Jvm.Cond.castable ad "java/lang/Cloneable").before a0 Z = true)
    (eT : T.heap = h) {a : Addr} {k : ClassId} {ty : FieldType} {z : Int32} {vs : List Value} {dv : Value} (F : Arv Z h a k ty z vs dv) (E : Exa Z h a ad) {pc : Nat} {Ls : Array Slot} {rest : List Value} (hsize : Ls.size = c.maxLocals) (hd : decode c.code pc = .ok (.invokevirtual index, 3))
    (hf : 1 ≤ R.frames) {W cap : Nat} (hW : 2 * 0 + (rest.map fun v => v.category).sum ≤ W) (hl : W + 14 ≤ R.locals) (hcap : z.toNatClampNeg ≤ cap) (hc : cells + 1 ≤ R.cells) (hsl : slots + cap ≤ R.slots) :
    ∃ T' h' b, Stand p l e R s m args below meth c T' locs (cells + 1) (slots + cap) ∧ T'.heap = h' ∧ Ext h h' ∧ b = h.size ∧ Arv Z h' b k ty z vs dv ∧ Exa Z h' b ad ∧
      ∀ target, Steps p.tables e below (T'.setTop (mkF m (pc + 3) Ls (.ref b :: rest))) target → Steps p.tables e below (T.setTop (mkF m pc Ls (.ref a :: rest))) target := by
  obtain ⟨T', h', X', e', ex, V, E', st⟩ := cloneH X hx hZ hown w1 w2 w3 w4 w5 w6 eT F.arh E (g := mkF m pc Ls (.ref a :: rest)) rfl hsize rfl hd hf hW hl hcap hc hsl
  exact ⟨T', h', h.size, X', e', ex, rfl, V, E', st⟩
/-- a field written -/
theorem own_putF (X : Stand p l e R s m args below meth c T locs cells slots) (N : Fr n0 locs) (hx : p.tables.exec = Jvm.exec) (hZ : Z.Warmed39 s.vm) {own O n d C : String} {index kk : Nat} {ty : FieldType} (hown : s.vm.findClass own = some m.cls) (w : (Jvm.Cond.fieldLink own index O n d).before a0 Z = true)
    (eT : T.heap = h) {a : Addr} {v old : Value} (F : Fld Z h a O n d old) (E : Exa Z h a C) (L : (Jvm.Cond.lays C O n d).before a0 Z = true ∨ ((Jvm.Cond.laysFinal C O n d).before a0 Z = true ∧ own = O ∧ meth.name = "<init>")) (wi : (Jvm.Cond.instantiable C kk).before a0 Z = true) (ga : n0 ≤ a)
    (hty : parseFieldDescriptor d = some ty) (hn : narrow ty v = v) (hf : fits ty v = true) {pc : Nat} {Ls : Array Slot} {rest : List Value} (hd : decode c.code pc = .ok (.putfield index, 3)) :
    ∃ T' h' L', Stand p l e R s m args below meth c T' L' cells slots ∧ Fr n0 L' ∧ T'.heap = h' ∧ Wr h h' a (Jvm.RoadKit.slotOf Z O n d) v ∧ Fld Z h' a O n d v ∧
      ∀ target, Steps p.tables e below (T'.setTop (mkF m (pc + 3) Ls rest)) target → Steps p.tables e below (T.setTop (mkF m pc Ls (v :: .ref a :: rest))) target := by
  obtain ⟨T', h', X', e', W, st⟩ := putF X hx hZ hown (host := "") (Or.inl w) Via.refl eT F E L wi hty hn hf (g := mkF m pc Ls (v :: .ref a :: rest)) rfl rfl hd
  exact ⟨T', h', _, X', Fr.snoc X' N ga, e', W, F.same W, st⟩
theorem own_putFN (X : Stand p l e R s m args below meth c T locs cells slots) (N : Fr n0 locs) (hx : p.tables.exec = Jvm.exec) (hZ : Z.Warmed39 s.vm) {own O n d C : String} {index kk : Nat} {ty : FieldType} (hown : s.vm.findClass own = some m.cls) (w : (Jvm.Cond.fieldLink own index O n d).before a0 Z = true)
    (eT : T.heap = h) {a : Addr} {v v' old : Value} (F : Fld Z h a O n d old) (E : Exa Z h a C) (L : (Jvm.Cond.lays C O n d).before a0 Z = true ∨ ((Jvm.Cond.laysFinal C O n d).before a0 Z = true ∧ own = O ∧ meth.name = "<init>")) (wi : (Jvm.Cond.instantiable C kk).before a0 Z = true) (ga : n0 ≤ a)
    (hty : parseFieldDescriptor d = some ty) (hn : narrow ty v = v') (hf : fits ty v' = true) {pc : Nat} {Ls : Array Slot} {rest : List Value} (hd : decode c.code pc = .ok (.putfield index, 3)) :
    ∃ T' h' L', Stand p l e R s m args below meth c T' L' cells slots ∧ Fr n0 L' ∧ T'.heap = h' ∧ Wr h h' a (Jvm.RoadKit.slotOf Z O n d) v' ∧ Fld Z h' a O n d v' ∧
      ∀ target, Steps p.tables e below (T'.setTop (mkF m (pc + 3) Ls rest)) target → Steps p.tables e below (T.setTop (mkF m pc Ls (v :: .ref a :: rest))) target := by
  obtain ⟨T', h', X', e', W, st⟩ := putFN X hx hZ hown w Via.refl eT F E L wi hty hn hf (g := mkF m pc Ls (v :: .ref a :: rest)) rfl rfl hd
  exact ⟨T', h', _, X', Fr.snoc X' N ga, e', W, F.same W, st⟩
/-- new -/
theorem own_newO (X : Stand p l e R s m args below meth c T locs cells slots) (hx : p.tables.exec = Jvm.exec) (hZ : Z.Warmed39 s.vm) {own C : String} {index n : Nat} (hown : s.vm.findClass own = some m.cls) (w : (Jvm.Cond.classLink own index C).before a0 Z = true) (wi : (Jvm.Cond.instantiable C n).before a0 Z = true) (wz : (Jvm.Cond.initialized C).before a0 Z = true) (eT : T.heap = h)
    {pc : Nat} {Ls : Array Slot} {rest : List Value} (hd : decode c.code pc = .ok (.new index, 3)) (hc : cells + 1 ≤ R.cells) (hl : slots + n ≤ R.slots) :
    ∃ T' h' a, Stand p l e R s m args below meth c T' locs (cells + 1) (slots + n) ∧ T'.heap = h' ∧ Ext h h' ∧ a = h.size ∧ Exa Z h' a C ∧ (∀ {O nm d : String} {ty : FieldType}, Laid Z a0 C O nm d → parseFieldDescriptor d = some ty → Fld Z h' a O nm d (defaultValue ty)) ∧
      ∀ target, Steps p.tables e below (T'.setTop (mkF m (pc + 3) Ls (.ref a :: rest))) target → Steps p.tables e below (T.setTop (mkF m pc Ls rest)) target := by
  obtain ⟨T', h', X', e', E, A, D, -, st⟩ := newO X hx hZ hown w wi wz eT (g := mkF m pc Ls rest) rfl hd hc hl
  exact ⟨T', h', h.size, X', e', E, rfl, A, D, st⟩
/-- a static method that may write and make -/
theorem own_callSW {own : String} {index : Nat} {y : MethodName} {bytes : ByteArray} {maxL W : Nat} {ret : Option FieldType} {rm : Room} {as : Array Value} {q : Option Value → Heap → Prop}
    (X : Stand p l e R s m args below meth c T locs cells slots) (N : Fr n0 locs) (hx : p.tables.exec = Jvm.exec) (hZ : Z.Warmed39 s.vm) (hown : s.vm.findClass own = some m.cls)
    (w1 : (Jvm.Cond.methodLink own index y).before a0 Z = true) (w2 : (Jvm.Cond.static y).before a0 Z = true) (w3 : (Jvm.Cond.initialized y.cls).before a0 Z = true) (w4 : (Jvm.Cond.code y bytes maxL ret).before a0 Z = true)
    (hy : y.cls ≠ "java/lang/invoke/MethodHandle" ∧ y.cls ≠ "java/lang/invoke/VarHandle") (hM : own_C l Z y bytes maxL ret [] rm as h (own_W n0 q))
    (hf : rm.frames + 1 ≤ R.frames) (hl : W + (maxL + 11) + rm.locals ≤ R.locals) (hcc : cells + rm.cells ≤ R.cells) (hss : slots + rm.slots ≤ R.slots) (e0 : T.heap = h)
    {pc : Nat} {Ls : Array Slot} {st argsL rest : List Value} (hsize : Ls.size = c.maxLocals) (hlen : ∀ sig, parseMethodDescriptor y.desc = some sig → argsL.length = sig.parameters.length) (has : argsL.toArray = as)
    (hst : st = argsL.reverse ++ rest) (hW : 2 * 0 + (rest.map fun v => v.category).sum ≤ W) (hd : decode c.code pc = .ok (.invokestatic index, 3)) :
    ∃ (v : Option Value) (T' : State) (h' : Heap) (L' : List Loc), Stand p l e R s m args below meth c T' L' (cells + rm.cells) (slots + rm.slots) ∧ Fr n0 L' ∧ T'.heap = h' ∧ q v h' ∧
      ∀ target, Steps p.tables e below (T'.setTop (mkF m (pc + 3) Ls (v.toList ++ rest))) target → Steps p.tables e below (T.setTop (mkF m pc Ls st)) target := by
  obtain ⟨v, T', L, X', ⟨N', hq⟩, stp⟩ := own_callS X hx hZ hown w1 w2 w3 w4 hy hM hf hl hcc hss e0 hsize hlen has hst hW hd
  exact ⟨v, T', _, _, X', N.app N', rfl, hq, stp⟩
/-- a constructor by its contract -/
theorem own_callI {own : String} {index : Nat} {y : MethodName} {bytes : ByteArray} {maxL W : Nat} {rm : Room} {as : Array Value} {q : Option Value → Heap → Prop} {a : Addr}
    (X : Stand p l e R s m args below meth c T locs cells slots) (N : Fr n0 locs) (hx : p.tables.exec = Jvm.exec) (hZ : Z.Warmed39 s.vm) (hy1 : y.name = "<init>") (hown : s.vm.findClass own = some m.cls)
    (w1 : (Jvm.Cond.methodLink own index y).before a0 Z = true) (w2 : (Jvm.Cond.instanceMethod y).before a0 Z = true) (w3 : (Jvm.Cond.initialized y.cls).before a0 Z = true) (w4 : (Jvm.Cond.code y bytes maxL none).before a0 Z = true)
    (hy : y.cls ≠ "java/lang/invoke/MethodHandle" ∧ y.cls ≠ "java/lang/invoke/VarHandle") (hM : own_C l Z y bytes maxL none [] rm as h (own_W n0 q))
    (hf : rm.frames + 1 ≤ R.frames) (hl : W + (maxL + 11) + rm.locals ≤ R.locals) (hcc : cells + rm.cells ≤ R.cells) (hss : slots + rm.slots ≤ R.slots) (e0 : T.heap = h)
    {pc : Nat} {Ls : Array Slot} {st argsL rest : List Value} (hsize : Ls.size = c.maxLocals) (hlen : ∀ sig, parseMethodDescriptor y.desc = some sig → argsL.length = sig.parameters.length) (has : (Value.ref a :: argsL).toArray = as)
    (hst : st = argsL.reverse ++ .ref a :: rest) (hW : 2 * 0 + (rest.map fun v => v.category).sum ≤ W) (hd : decode c.code pc = .ok (.invokespecial index, 3)) :
    ∃ (v : Option Value) (T' : State) (h' : Heap) (L' : List Loc), Stand p l e R s m args below meth c T' L' (cells + rm.cells) (slots + rm.slots) ∧ Fr n0 L' ∧ T'.heap = h' ∧ q v h' ∧
      ∀ target, Steps p.tables e below (T'.setTop (mkF m (pc + 3) Ls (v.toList ++ rest))) target → Steps p.tables e below (T.setTop (mkF m pc Ls st)) target := by
  obtain ⟨v, _, ⟨T', L', k', n'⟩, -, X', ⟨Lc, ⟨N', hq⟩, h1, h2, h3⟩, stp⟩ := X.specialBack hx (y := y) hy1 hown (mvT hZ w1) (mvT hZ w2) (mvT hZ w4) hy
    (backOf (W := W) hM hZ w4 w3 hf hl) (g := mkF m pc Ls st) rfl hsize (Steps.refl _) (a := a) (argsL := argsL) (rest := rest) hlen hst hW hd (fun _ _ => ⟨has, e0, hcc, hss⟩)
  dsimp only [Pt.U, Pt.locs, Pt.cells, Pt.slots] at X' h1 h2 h3 stp hq
  subst h1 h2 h3
  exact ⟨v, T', _, _, X', N.app N', rfl, hq, fun t k => stp.trans k⟩
/-- an instance method by its contract -/
theorem own_callV {own C : String} {index : Nat} {y z : MethodName} {bytes : ByteArray} {maxL W : Nat} {ret : Option FieldType} {rm : Room} {as : Array Value} {q : Option Value → Heap → Prop} {a : Addr}
    (X : Stand p l e R s m args below meth c T locs cells slots) (N : Fr n0 locs) (hx : p.tables.exec = Jvm.exec) (hZ : Z.Warmed39 s.vm) (hown : s.vm.findClass own = some m.cls)
    (w1 : (Jvm.Cond.methodLink own index y).before a0 Z = true) (w2 : (Jvm.Cond.declares y).before a0 Z = true) (hnf : NotFace s y) (ws : (Jvm.Cond.selects C y z).before a0 Z = true) (wi : (Jvm.Cond.instanceMethod z).before a0 Z = true) (w3 : (Jvm.Cond.initialized z.cls).before a0 Z = true) (w4 : (Jvm.Cond.code z bytes maxL ret).before a0 Z = true)
    (hy : y.cls ≠ "java/lang/invoke/MethodHandle" ∧ y.cls ≠ "java/lang/invoke/VarHandle") (hM : own_C l Z z bytes maxL ret [] rm as h (own_W n0 q))
    (hf : rm.frames + 1 ≤ R.frames) (hl : W + (maxL + 11) + rm.locals ≤ R.locals) (hcc : cells + rm.cells ≤ R.cells) (hss : slots + rm.slots ≤ R.slots) (e0 : T.heap = h) (E : Exa Z h a C)
    {pc : Nat} {Ls : Array Slot} {st argsL rest : List Value} (hsize : Ls.size = c.maxLocals) (hlen : ∀ sig, parseMethodDescriptor y.desc = some sig → argsL.length = sig.parameters.length) (has : (Value.ref a :: argsL).toArray = as)
    (hst : st = argsL.reverse ++ .ref a :: rest) (hW : 2 * 0 + (rest.map fun v => v.category).sum ≤ W) (hd : decode c.code pc = .ok (.invokevirtual index, 3)) :
    ∃ (v : Option Value) (T' : State) (h' : Heap) (L' : List Loc), Stand p l e R s m args below meth c T' L' (cells + rm.cells) (slots + rm.slots) ∧ Fr n0 L' ∧ T'.heap = h' ∧ q v h' ∧
      ∀ target, Steps p.tables e below (T'.setTop (mkF m (pc + 3) Ls (v.toList ++ rest))) target → Steps p.tables e below (T.setTop (mkF m pc Ls st)) target := by
  obtain ⟨cq, kq, qa, qb, qc⟩ := isOf hZ e0 E
  obtain ⟨v, _, ⟨T', L', k', n'⟩, -, X', ⟨Lc, ⟨N', hq⟩, h1, h2, h3⟩, stp⟩ := X.virtualBack hx (y := y) (z := z) hown (mvT hZ w1) (mvT hZ w2) hnf (mvT hZ ws) (mvT hZ wi) hy
    (backOf (W := W) hM hZ w4 w3 hf hl) qa qc (g := mkF m pc Ls st) rfl hsize (Steps.refl _) (argsL := argsL) (rest := rest) hlen hst hW hd (fun _ _ => ⟨has, e0, hcc, hss⟩)
  dsimp only [Pt.U, Pt.locs, Pt.cells, Pt.slots] at X' h1 h2 h3 stp hq
  subst h1 h2 h3
  exact ⟨v, T', _, _, X', N.app N', rfl, hq, fun t k => stp.trans k⟩
/-- an instance method that leaves the heap as it was -/
theorem own_callVP {own C : String} {index : Nat} {y z : MethodName} {bytes : ByteArray} {maxL W : Nat} {ret : Option FieldType} {rm : Room} {as : Array Value} {w : Value} {a : Addr}
    (X : Stand p l e R s m args below meth c T locs cells slots) (hx : p.tables.exec = Jvm.exec) (hZ : Z.Warmed39 s.vm) (hown : s.vm.findClass own = some m.cls)
    (w1 : (Jvm.Cond.methodLink own index y).before a0 Z = true) (w2 : (Jvm.Cond.declares y).before a0 Z = true) (hnf : NotFace s y) (ws : (Jvm.Cond.selects C y z).before a0 Z = true) (wi : (Jvm.Cond.instanceMethod z).before a0 Z = true) (w3 : (Jvm.Cond.initialized z.cls).before a0 Z = true) (w4 : (Jvm.Cond.code z bytes maxL ret).before a0 Z = true)
    (hy : y.cls ≠ "java/lang/invoke/MethodHandle" ∧ y.cls ≠ "java/lang/invoke/VarHandle") (hM : own_C l Z z bytes maxL ret [] rm as h (own_Q w h))
    (hf : rm.frames + 1 ≤ R.frames) (hl : W + (maxL + 11) + rm.locals ≤ R.locals) (hrc : rm.cells = 0) (hrs : rm.slots = 0) (hcc : cells + rm.cells ≤ R.cells) (hss : slots + rm.slots ≤ R.slots) (e0 : T.heap = h) (E : Exa Z h a C)
    {pc : Nat} {Ls : Array Slot} {st argsL rest : List Value} (hsize : Ls.size = c.maxLocals) (hlen : ∀ sig, parseMethodDescriptor y.desc = some sig → argsL.length = sig.parameters.length) (has : (Value.ref a :: argsL).toArray = as)
    (hst : st = argsL.reverse ++ .ref a :: rest) (hW : 2 * 0 + (rest.map fun v => v.category).sum ≤ W) (hd : decode c.code pc = .ok (.invokevirtual index, 3)) :
    ∃ (T' : State), Stand p l e R s m args below meth c T' locs cells slots ∧ T'.heap = h ∧
      ∀ target, Steps p.tables e below (T'.setTop (mkF m (pc + 3) Ls (w :: rest))) target → Steps p.tables e below (T.setTop (mkF m pc Ls st)) target := by
  obtain ⟨cq, kq, qa, qb, qc⟩ := isOf hZ e0 E
  obtain ⟨v, _, ⟨T', L', k', n'⟩, -, X', ⟨Lc, ⟨rfl, rfl, hh⟩, h1, h2, h3⟩, stp⟩ := X.virtualBack hx (y := y) (z := z) hown (mvT hZ w1) (mvT hZ w2) hnf (mvT hZ ws) (mvT hZ wi) hy
    (backOf (W := W) hM hZ w4 w3 hf hl) qa qc (g := mkF m pc Ls st) rfl hsize (Steps.refl _) (argsL := argsL) (rest := rest) hlen hst hW hd (fun _ _ => ⟨has, e0, hcc, hss⟩)
  dsimp only [Pt.U, Pt.locs, Pt.cells, Pt.slots] at X' h1 h2 h3 stp hh
  subst h1 h2 h3
  rw [List.append_nil, hrc, hrs] at X'
  exact ⟨T', X', hh, fun t k => stp.trans k⟩
theorem own_ke {h h' : Heap} (K : Keep h h' []) : Ext h h' := ⟨K.1, fun a c q => K.2.1 a c q (by simp)⟩
theorem own_ldA (X : Stand p l e R s m args below meth c T locs cells slots) (hx : p.tables.exec = Jvm.exec) (hZ : Z.Warmed39 s.vm) (eT : T.heap = h) {a : Addr} {k : ClassId} {ty : FieldType} {z : Int32} {vs : List Value} {d v : Value} (V : Arv Z h a k ty z vs d) (hty : ty.isReference = true) {j : Int32} (hj : ¬ j < 0 ∧ j < z) (hv : vs.getD j.toNatClampNeg d = v)
    {pc : Nat} {Ls : Array Slot} {rest : List Value} (hd : decode c.code pc = .ok (.aaload, 1)) (target : State) (hr : Steps p.tables e below (T.setTop (mkF m (pc + 1) Ls (v :: rest))) target) : Steps p.tables e below (T.setTop (mkF m pc Ls (.int j :: .ref a :: rest))) target := by
  obtain ⟨cl, Ar, q, S, Nn, H, G⟩ := V
  have hin := inb_of S hj
  refine X.aaload hx (j := j) (v := v) (by rw [eT]; exact Ar.1) (State.isArrayOf_alike hZ.alike Ar.2.1) hty Ar.2.2 hin ?_ (g := mkF m pc Ls (.int j :: .ref a :: rest)) rfl rfl hd _ hr
  rw [H _ (Nat.lt_of_not_le fun q => hin (Or.inr q)), hv]
end OwnHeap
theorem own_pd0 : parseMethodDescriptor "(I)Z" = some ⟨[.int], some .boolean⟩ := by decide +kernel
def own_edges : List Int32 := [0, 9, 10, 13, 32, 55295, 55296, 57343, 57344, 65533, 65534, 65535, 65536, 1114111, 1114112, -2147483648, 2147483647, -1]
theorem own_getI : ∀ (vs : List Int32) (n : Nat) (x : Int32), (vs.map Value.int).getD n (.int x) = .int (vs.getD n x)
  | [], n, x => by simp
  | v :: vs, 0, x => by simp
  | v :: vs, n + 1, x => by simpa using own_getI vs n x
theorem own_index (p : Int32) : ¬ ((p.toUInt32 >>> ((1 : Int32) &&& 31).toUInt32).toInt32 - ((p.toUInt32 >>> ((1 : Int32) &&& 31).toUInt32).toInt32 / (18 : Int32)) * (18 : Int32)) < 0 ∧ ((p.toUInt32 >>> ((1 : Int32) &&& 31).toUInt32).toInt32 - ((p.toUInt32 >>> ((1 : Int32) &&& 31).toUInt32).toInt32 / (18 : Int32)) * (18 : Int32)) < 18 := by
  have s1 := c_iushr p 1 1 (by decide) (by decide)
  have r := rng32 p
  generalize ((p.toUInt32 >>> ((1 : Int32) &&& 31).toUInt32).toInt32) = x at *
  rw [irem_eq_mod, Int32.lt_iff_toInt_lt, Int32.lt_iff_toInt_lt]
  have h := (c_irem x 18 18 rfl).1 (by omega)
  rw [show (0 : Int32).toInt = 0 from rfl, show (18 : Int32).toInt = 18 from rfl]
  omega
theorem own_d1_0 : decode prog_67_method_2_code 0 = .ok (.iload_n 0, 1) := by decide +kernel
theorem own_d1_1 : decode prog_67_method_2_code 1 = .ok (.bipush 32, 2) := by decide +kernel
theorem own_d1_3 : decode prog_67_method_2_code 3 = .ok (.if_icmp .lt 9, 3) := by decide +kernel
theorem own_d1_6 : decode prog_67_method_2_code 6 = .ok (.iload_n 0, 1) := by decide +kernel
theorem own_d1_7 : decode prog_67_method_2_code 7 = .ok (.ldc 41, 2) := by decide +kernel
theorem own_d1_9 : decode prog_67_method_2_code 9 = .ok (.if_icmp .le 45, 3) := by decide +kernel
theorem own_d1_12 : decode prog_67_method_2_code 12 = .ok (.iload_n 0, 1) := by decide +kernel
theorem own_d1_13 : decode prog_67_method_2_code 13 = .ok (.bipush 10, 2) := by decide +kernel
theorem own_d1_15 : decode prog_67_method_2_code 15 = .ok (.if_icmp .eq 39, 3) := by decide +kernel
theorem own_d1_18 : decode prog_67_method_2_code 18 = .ok (.iload_n 0, 1) := by decide +kernel
theorem own_d1_19 : decode prog_67_method_2_code 19 = .ok (.bipush 9, 2) := by decide +kernel
theorem own_d1_21 : decode prog_67_method_2_code 21 = .ok (.if_icmp .eq 33, 3) := by decide +kernel
theorem own_d1_24 : decode prog_67_method_2_code 24 = .ok (.iload_n 0, 1) := by decide +kernel
theorem own_d1_25 : decode prog_67_method_2_code 25 = .ok (.bipush 13, 2) := by decide +kernel
theorem own_d1_27 : decode prog_67_method_2_code 27 = .ok (.if_icmp .eq 27, 3) := by decide +kernel
theorem own_d1_30 : decode prog_67_method_2_code 30 = .ok (.iload_n 0, 1) := by decide +kernel
theorem own_d1_31 : decode prog_67_method_2_code 31 = .ok (.ldc 42, 2) := by decide +kernel
theorem own_d1_33 : decode prog_67_method_2_code 33 = .ok (.if_icmp .lt 9, 3) := by decide +kernel
theorem own_d1_36 : decode prog_67_method_2_code 36 = .ok (.iload_n 0, 1) := by decide +kernel
theorem own_d1_37 : decode prog_67_method_2_code 37 = .ok (.ldc 43, 2) := by decide +kernel
theorem own_d1_39 : decode prog_67_method_2_code 39 = .ok (.if_icmp .le 15, 3) := by decide +kernel
theorem own_d1_42 : decode prog_67_method_2_code 42 = .ok (.iload_n 0, 1) := by decide +kernel
theorem own_d1_43 : decode prog_67_method_2_code 43 = .ok (.ldc 44, 2) := by decide +kernel
theorem own_d1_45 : decode prog_67_method_2_code 45 = .ok (.if_icmp .lt 13, 3) := by decide +kernel
theorem own_d1_48 : decode prog_67_method_2_code 48 = .ok (.iload_n 0, 1) := by decide +kernel
theorem own_d1_49 : decode prog_67_method_2_code 49 = .ok (.ldc 45, 2) := by decide +kernel
theorem own_d1_51 : decode prog_67_method_2_code 51 = .ok (.if_icmp .gt 7, 3) := by decide +kernel
theorem own_d1_54 : decode prog_67_method_2_code 54 = .ok (.iconst 1, 1) := by decide +kernel
theorem own_d1_55 : decode prog_67_method_2_code 55 = .ok (.goto 4, 3) := by decide +kernel
theorem own_d1_58 : decode prog_67_method_2_code 58 = .ok (.iconst 0, 1) := by decide +kernel
theorem own_d1_59 : decode prog_67_method_2_code 59 = .ok (.ireturn, 1) := by decide +kernel
abbrev own_R1 : Room := { frames := 0, cells := 0, slots := 0, locals := 0 }
theorem own_pn1 : plainFor (⟨"com/example/clementi/clementi/xml/XmlInput", "isCharacter", "(I)Z"⟩ : MethodName) = true := plainFor_of_name (by first | (simp [plainName, overriddenIn]; done) | decide +kernel)
theorem own_ef1 (m : MethodId) (p0 : Int32) : entryFrame m #[(.int p0)] 1 = mkF m 0 #[.val (.int p0)] [] := by first | (simp [entryFrame, mkF, argsToLocals, Value.category]; done) | rfl
def own_F1 (p0 : Int32) : Int32 := (if p0 < (32 : Int32) then (if p0 = (10 : Int32) then (1 : Int32) else (if p0 = (9 : Int32) then (1 : Int32) else (if p0 = (13 : Int32) then (1 : Int32) else (0 : Int32)))) else (if (55295 : Int32) < p0 then (if p0 < (57344 : Int32) then (0 : Int32) else (if (65533 : Int32) < p0 then (if p0 < (65536 : Int32) then (0 : Int32) else (if (1114111 : Int32) < p0 then (0 : Int32) else (1 : Int32))) else (1 : Int32))) else (1 : Int32)))
set_option maxRecDepth 65536 in
set_option maxHeartbeats 40000000 in
theorem own_rm1 (l : Launch) (Z : State) (a0 : Array Value) (hw : ∀ d ∈ tables_1, d.before a0 Z = true) (ws : List Jvm.Cond) (p0 : Int32) (h0 : Heap) :
    own_C l Z (⟨"com/example/clementi/clementi/xml/XmlInput", "isCharacter", "(I)Z"⟩ : MethodName) prog_67_method_2_code 1 (some .boolean) ws own_R1 #[(.int p0)] h0 (own_Q (.int (own_F1 p0)) h0) := by
  refine MetFree.of_bodySF own_pn1 hisR ?_
  intro p e s m args below meth c s₁ Bd hml0 hP hK
  obtain ⟨rfl, hZ, hh⟩ := hP
  have hx := Bd.exec
  have hby := Bd.bytes
  have hml : c.maxLocals = 1 := hml0
  have hown : s.vm.findClass "com/example/clementi/clementi/xml/XmlInput" = some m.cls := findClass_of_methodNamed Bd.named
  have X0 : Stand p l e own_R1 s m #[(.int p0)] below meth c s₁ [] 0 0 := Stand.of_body Bd
  have e0 : s₁.heap = h0 := by rw [← hh, Bd.state]; rfl
  show own_G p e below (own_P s (own_Q (.int (own_F1 p0)) h0) own_R1.cells own_R1.slots) (s₁.setTop (entryFrame m #[(.int p0)] 1))
  rw [own_ef1 m p0]
  show own_G p e below _ (s₁.setTop (mkF m 0 #[.val (.int p0)] []))
  refine own_via (fun t k => XS.iloadN X0.here hx rfl (hb hby own_d1_0) rfl k) ?_
  show own_G p e below _ (s₁.setTop (mkF m 1 #[.val (.int p0)] [(.int p0)]))
  refine own_via (fun t k => XS.bipush X0.here hx rfl (hb hby own_d1_1) k) ?_
  show own_G p e below _ (s₁.setTop (mkF m 3 #[.val (.int p0)] [(.int (32 : Int32)), (.int p0)]))
  by_cases hc1 : p0 < (32 : Int32)
  ·
    refine own_via (fun t k => XS.icmpYes X0.here hx rfl (pc0 := 3) (pc' := 12) rfl (hb hby own_d1_3) rfl (tlt hc1).1 (by decide) (by decide) k) ?_
    show own_G p e below _ (s₁.setTop (mkF m 12 #[.val (.int p0)] []))
    refine own_via (fun t k => XS.iloadN X0.here hx rfl (hb hby own_d1_12) rfl k) ?_
    show own_G p e below _ (s₁.setTop (mkF m 13 #[.val (.int p0)] [(.int p0)]))
    refine own_via (fun t k => XS.bipush X0.here hx rfl (hb hby own_d1_13) k) ?_
    show own_G p e below _ (s₁.setTop (mkF m 15 #[.val (.int p0)] [(.int (10 : Int32)), (.int p0)]))
    by_cases hc2 : p0 = (10 : Int32)
    ·
      refine own_via (fun t k => XS.icmpYes X0.here hx rfl (pc0 := 15) (pc' := 54) rfl (hb hby own_d1_15) rfl (teq hc2).1 (by decide) (by decide) k) ?_
      show own_G p e below _ (s₁.setTop (mkF m 54 #[.val (.int p0)] []))
      refine own_via (fun t k => XS.iconst X0.here hx rfl (hb hby own_d1_54) k) ?_
      show own_G p e below _ (s₁.setTop (mkF m 55 #[.val (.int p0)] [(.int (1 : Int32))]))
      refine own_via (fun t k => XS.goto X0.here hx rfl (pc0 := 55) (pc' := 59) rfl (hb hby own_d1_55) (by decide) (by decide) k) ?_
      show own_G p e below _ (s₁.setTop (mkF m 59 #[.val (.int p0)] [(.int (1 : Int32))]))
      exact own_retN (t := .boolean) X0 hx Bd.returns (by simp) Bd.notSynchronized (hb hby own_d1_59) ⟨by show (some (.int (1 : Int32)) : Option Value) = some (.int (own_F1 p0)); simp only [own_F1, if_pos hc1, if_pos hc2], rfl, e0⟩ (by decide) (by decide)
    ·
      refine own_via (fun t k => XS.icmpNo X0.here hx rfl (hb hby own_d1_15) rfl (feq hc2).1 k) ?_
      show own_G p e below _ (s₁.setTop (mkF m 18 #[.val (.int p0)] []))
      refine own_via (fun t k => XS.iloadN X0.here hx rfl (hb hby own_d1_18) rfl k) ?_
      show own_G p e below _ (s₁.setTop (mkF m 19 #[.val (.int p0)] [(.int p0)]))
      refine own_via (fun t k => XS.bipush X0.here hx rfl (hb hby own_d1_19) k) ?_
      show own_G p e below _ (s₁.setTop (mkF m 21 #[.val (.int p0)] [(.int (9 : Int32)), (.int p0)]))
      by_cases hc3 : p0 = (9 : Int32)
      ·
        refine own_via (fun t k => XS.icmpYes X0.here hx rfl (pc0 := 21) (pc' := 54) rfl (hb hby own_d1_21) rfl (teq hc3).1 (by decide) (by decide) k) ?_
        show own_G p e below _ (s₁.setTop (mkF m 54 #[.val (.int p0)] []))
        refine own_via (fun t k => XS.iconst X0.here hx rfl (hb hby own_d1_54) k) ?_
        show own_G p e below _ (s₁.setTop (mkF m 55 #[.val (.int p0)] [(.int (1 : Int32))]))
        refine own_via (fun t k => XS.goto X0.here hx rfl (pc0 := 55) (pc' := 59) rfl (hb hby own_d1_55) (by decide) (by decide) k) ?_
        show own_G p e below _ (s₁.setTop (mkF m 59 #[.val (.int p0)] [(.int (1 : Int32))]))
        exact own_retN (t := .boolean) X0 hx Bd.returns (by simp) Bd.notSynchronized (hb hby own_d1_59) ⟨by show (some (.int (1 : Int32)) : Option Value) = some (.int (own_F1 p0)); simp only [own_F1, if_pos hc1, if_neg hc2, if_pos hc3], rfl, e0⟩ (by decide) (by decide)
      ·
        refine own_via (fun t k => XS.icmpNo X0.here hx rfl (hb hby own_d1_21) rfl (feq hc3).1 k) ?_
        show own_G p e below _ (s₁.setTop (mkF m 24 #[.val (.int p0)] []))
        refine own_via (fun t k => XS.iloadN X0.here hx rfl (hb hby own_d1_24) rfl k) ?_
        show own_G p e below _ (s₁.setTop (mkF m 25 #[.val (.int p0)] [(.int p0)]))
        refine own_via (fun t k => XS.bipush X0.here hx rfl (hb hby own_d1_25) k) ?_
        show own_G p e below _ (s₁.setTop (mkF m 27 #[.val (.int p0)] [(.int (13 : Int32)), (.int p0)]))
        by_cases hc4 : p0 = (13 : Int32)
        ·
          refine own_via (fun t k => XS.icmpYes X0.here hx rfl (pc0 := 27) (pc' := 54) rfl (hb hby own_d1_27) rfl (teq hc4).1 (by decide) (by decide) k) ?_
          show own_G p e below _ (s₁.setTop (mkF m 54 #[.val (.int p0)] []))
          refine own_via (fun t k => XS.iconst X0.here hx rfl (hb hby own_d1_54) k) ?_
          show own_G p e below _ (s₁.setTop (mkF m 55 #[.val (.int p0)] [(.int (1 : Int32))]))
          refine own_via (fun t k => XS.goto X0.here hx rfl (pc0 := 55) (pc' := 59) rfl (hb hby own_d1_55) (by decide) (by decide) k) ?_
          show own_G p e below _ (s₁.setTop (mkF m 59 #[.val (.int p0)] [(.int (1 : Int32))]))
          exact own_retN (t := .boolean) X0 hx Bd.returns (by simp) Bd.notSynchronized (hb hby own_d1_59) ⟨by show (some (.int (1 : Int32)) : Option Value) = some (.int (own_F1 p0)); simp only [own_F1, if_pos hc1, if_neg hc2, if_neg hc3, if_pos hc4], rfl, e0⟩ (by decide) (by decide)
        ·
          refine own_via (fun t k => XS.icmpNo X0.here hx rfl (hb hby own_d1_27) rfl (feq hc4).1 k) ?_
          show own_G p e below _ (s₁.setTop (mkF m 30 #[.val (.int p0)] []))
          refine own_via (fun t k => XS.iloadN X0.here hx rfl (hb hby own_d1_30) rfl k) ?_
          show own_G p e below _ (s₁.setTop (mkF m 31 #[.val (.int p0)] [(.int p0)]))
          refine own_via (X0.ldcInt hx hown (mvT hZ (hw _ (List.mem_of_getElem? (i := 21) rfl))) (g := (mkF m 31 #[.val (.int p0)] [(.int p0)])) rfl (hb hby own_d1_31)) ?_
          show own_G p e below _ (s₁.setTop (mkF m 33 #[.val (.int p0)] [(.int (57344 : Int32)), (.int p0)]))
          refine own_via (fun t k => XS.icmpYes X0.here hx rfl (pc0 := 33) (pc' := 42) rfl (hb hby own_d1_33) rfl (tlt (own_b5 (own_b1 hc1) (by decide))).1 (by decide) (by decide) k) ?_
          show own_G p e below _ (s₁.setTop (mkF m 42 #[.val (.int p0)] []))
          refine own_via (fun t k => XS.iloadN X0.here hx rfl (hb hby own_d1_42) rfl k) ?_
          show own_G p e below _ (s₁.setTop (mkF m 43 #[.val (.int p0)] [(.int p0)]))
          refine own_via (X0.ldcInt hx hown (mvT hZ (hw _ (List.mem_of_getElem? (i := 22) rfl))) (g := (mkF m 43 #[.val (.int p0)] [(.int p0)])) rfl (hb hby own_d1_43)) ?_
          show own_G p e below _ (s₁.setTop (mkF m 45 #[.val (.int p0)] [(.int (65536 : Int32)), (.int p0)]))
          refine own_via (fun t k => XS.icmpYes X0.here hx rfl (pc0 := 45) (pc' := 58) rfl (hb hby own_d1_45) rfl (tlt (own_b5 (own_b1 hc1) (by decide))).1 (by decide) (by decide) k) ?_
          show own_G p e below _ (s₁.setTop (mkF m 58 #[.val (.int p0)] []))
          refine own_via (fun t k => XS.iconst X0.here hx rfl (hb hby own_d1_58) k) ?_
          show own_G p e below _ (s₁.setTop (mkF m 59 #[.val (.int p0)] [(.int (0 : Int32))]))
          exact own_retN (t := .boolean) X0 hx Bd.returns (by simp) Bd.notSynchronized (hb hby own_d1_59) ⟨by show (some (.int (0 : Int32)) : Option Value) = some (.int (own_F1 p0)); simp only [own_F1, if_pos hc1, if_neg hc2, if_neg hc3, if_neg hc4], rfl, e0⟩ (by decide) (by decide)
  ·
    refine own_via (fun t k => XS.icmpNo X0.here hx rfl (hb hby own_d1_3) rfl (flt hc1).1 k) ?_
    show own_G p e below _ (s₁.setTop (mkF m 6 #[.val (.int p0)] []))
    refine own_via (fun t k => XS.iloadN X0.here hx rfl (hb hby own_d1_6) rfl k) ?_
    show own_G p e below _ (s₁.setTop (mkF m 7 #[.val (.int p0)] [(.int p0)]))
    refine own_via (X0.ldcInt hx hown (mvT hZ (hw _ (List.mem_of_getElem? (i := 23) rfl))) (g := (mkF m 7 #[.val (.int p0)] [(.int p0)])) rfl (hb hby own_d1_7)) ?_
    show own_G p e below _ (s₁.setTop (mkF m 9 #[.val (.int p0)] [(.int (55295 : Int32)), (.int p0)]))
    by_cases hc5 : (55295 : Int32) < p0
    ·
      refine own_via (fun t k => XS.icmpNo X0.here hx rfl (hb hby own_d1_9) rfl (tlt hc5).2.2.2 k) ?_
      show own_G p e below _ (s₁.setTop (mkF m 12 #[.val (.int p0)] []))
      refine own_via (fun t k => XS.iloadN X0.here hx rfl (hb hby own_d1_12) rfl k) ?_
      show own_G p e below _ (s₁.setTop (mkF m 13 #[.val (.int p0)] [(.int p0)]))
      refine own_via (fun t k => XS.bipush X0.here hx rfl (hb hby own_d1_13) k) ?_
      show own_G p e below _ (s₁.setTop (mkF m 15 #[.val (.int p0)] [(.int (10 : Int32)), (.int p0)]))
      refine own_via (fun t k => XS.icmpNo X0.here hx rfl (hb hby own_d1_15) rfl (feq (own_b10 (own_b3 hc5) (by decide))).1 k) ?_
      show own_G p e below _ (s₁.setTop (mkF m 18 #[.val (.int p0)] []))
      refine own_via (fun t k => XS.iloadN X0.here hx rfl (hb hby own_d1_18) rfl k) ?_
      show own_G p e below _ (s₁.setTop (mkF m 19 #[.val (.int p0)] [(.int p0)]))
      refine own_via (fun t k => XS.bipush X0.here hx rfl (hb hby own_d1_19) k) ?_
      show own_G p e below _ (s₁.setTop (mkF m 21 #[.val (.int p0)] [(.int (9 : Int32)), (.int p0)]))
      refine own_via (fun t k => XS.icmpNo X0.here hx rfl (hb hby own_d1_21) rfl (feq (own_b10 (own_b3 hc5) (by decide))).1 k) ?_
      show own_G p e below _ (s₁.setTop (mkF m 24 #[.val (.int p0)] []))
      refine own_via (fun t k => XS.iloadN X0.here hx rfl (hb hby own_d1_24) rfl k) ?_
      show own_G p e below _ (s₁.setTop (mkF m 25 #[.val (.int p0)] [(.int p0)]))
      refine own_via (fun t k => XS.bipush X0.here hx rfl (hb hby own_d1_25) k) ?_
      show own_G p e below _ (s₁.setTop (mkF m 27 #[.val (.int p0)] [(.int (13 : Int32)), (.int p0)]))
      refine own_via (fun t k => XS.icmpNo X0.here hx rfl (hb hby own_d1_27) rfl (feq (own_b10 (own_b3 hc5) (by decide))).1 k) ?_
      show own_G p e below _ (s₁.setTop (mkF m 30 #[.val (.int p0)] []))
      refine own_via (fun t k => XS.iloadN X0.here hx rfl (hb hby own_d1_30) rfl k) ?_
      show own_G p e below _ (s₁.setTop (mkF m 31 #[.val (.int p0)] [(.int p0)]))
      refine own_via (X0.ldcInt hx hown (mvT hZ (hw _ (List.mem_of_getElem? (i := 21) rfl))) (g := (mkF m 31 #[.val (.int p0)] [(.int p0)])) rfl (hb hby own_d1_31)) ?_
      show own_G p e below _ (s₁.setTop (mkF m 33 #[.val (.int p0)] [(.int (57344 : Int32)), (.int p0)]))
      by_cases hc6 : p0 < (57344 : Int32)
      ·
        refine own_via (fun t k => XS.icmpYes X0.here hx rfl (pc0 := 33) (pc' := 42) rfl (hb hby own_d1_33) rfl (tlt hc6).1 (by decide) (by decide) k) ?_
        show own_G p e below _ (s₁.setTop (mkF m 42 #[.val (.int p0)] []))
        refine own_via (fun t k => XS.iloadN X0.here hx rfl (hb hby own_d1_42) rfl k) ?_
        show own_G p e below _ (s₁.setTop (mkF m 43 #[.val (.int p0)] [(.int p0)]))
        refine own_via (X0.ldcInt hx hown (mvT hZ (hw _ (List.mem_of_getElem? (i := 22) rfl))) (g := (mkF m 43 #[.val (.int p0)] [(.int p0)])) rfl (hb hby own_d1_43)) ?_
        show own_G p e below _ (s₁.setTop (mkF m 45 #[.val (.int p0)] [(.int (65536 : Int32)), (.int p0)]))
        refine own_via (fun t k => XS.icmpYes X0.here hx rfl (pc0 := 45) (pc' := 58) rfl (hb hby own_d1_45) rfl (tlt (own_b5 (own_b1 hc6) (by decide))).1 (by decide) (by decide) k) ?_
        show own_G p e below _ (s₁.setTop (mkF m 58 #[.val (.int p0)] []))
        refine own_via (fun t k => XS.iconst X0.here hx rfl (hb hby own_d1_58) k) ?_
        show own_G p e below _ (s₁.setTop (mkF m 59 #[.val (.int p0)] [(.int (0 : Int32))]))
        exact own_retN (t := .boolean) X0 hx Bd.returns (by simp) Bd.notSynchronized (hb hby own_d1_59) ⟨by show (some (.int (0 : Int32)) : Option Value) = some (.int (own_F1 p0)); simp only [own_F1, if_neg hc1, if_pos hc5, if_pos hc6], rfl, e0⟩ (by decide) (by decide)
      ·
        refine own_via (fun t k => XS.icmpNo X0.here hx rfl (hb hby own_d1_33) rfl (flt hc6).1 k) ?_
        show own_G p e below _ (s₁.setTop (mkF m 36 #[.val (.int p0)] []))
        refine own_via (fun t k => XS.iloadN X0.here hx rfl (hb hby own_d1_36) rfl k) ?_
        show own_G p e below _ (s₁.setTop (mkF m 37 #[.val (.int p0)] [(.int p0)]))
        refine own_via (X0.ldcInt hx hown (mvT hZ (hw _ (List.mem_of_getElem? (i := 24) rfl))) (g := (mkF m 37 #[.val (.int p0)] [(.int p0)])) rfl (hb hby own_d1_37)) ?_
        show own_G p e below _ (s₁.setTop (mkF m 39 #[.val (.int p0)] [(.int (65533 : Int32)), (.int p0)]))
        by_cases hc7 : (65533 : Int32) < p0
        ·
          refine own_via (fun t k => XS.icmpNo X0.here hx rfl (hb hby own_d1_39) rfl (tlt hc7).2.2.2 k) ?_
          show own_G p e below _ (s₁.setTop (mkF m 42 #[.val (.int p0)] []))
          refine own_via (fun t k => XS.iloadN X0.here hx rfl (hb hby own_d1_42) rfl k) ?_
          show own_G p e below _ (s₁.setTop (mkF m 43 #[.val (.int p0)] [(.int p0)]))
          refine own_via (X0.ldcInt hx hown (mvT hZ (hw _ (List.mem_of_getElem? (i := 22) rfl))) (g := (mkF m 43 #[.val (.int p0)] [(.int p0)])) rfl (hb hby own_d1_43)) ?_
          show own_G p e below _ (s₁.setTop (mkF m 45 #[.val (.int p0)] [(.int (65536 : Int32)), (.int p0)]))
          by_cases hc8 : p0 < (65536 : Int32)
          ·
            refine own_via (fun t k => XS.icmpYes X0.here hx rfl (pc0 := 45) (pc' := 58) rfl (hb hby own_d1_45) rfl (tlt hc8).1 (by decide) (by decide) k) ?_
            show own_G p e below _ (s₁.setTop (mkF m 58 #[.val (.int p0)] []))
            refine own_via (fun t k => XS.iconst X0.here hx rfl (hb hby own_d1_58) k) ?_
            show own_G p e below _ (s₁.setTop (mkF m 59 #[.val (.int p0)] [(.int (0 : Int32))]))
            exact own_retN (t := .boolean) X0 hx Bd.returns (by simp) Bd.notSynchronized (hb hby own_d1_59) ⟨by show (some (.int (0 : Int32)) : Option Value) = some (.int (own_F1 p0)); simp only [own_F1, if_neg hc1, if_pos hc5, if_neg hc6, if_pos hc7, if_pos hc8], rfl, e0⟩ (by decide) (by decide)
          ·
            refine own_via (fun t k => XS.icmpNo X0.here hx rfl (hb hby own_d1_45) rfl (flt hc8).1 k) ?_
            show own_G p e below _ (s₁.setTop (mkF m 48 #[.val (.int p0)] []))
            refine own_via (fun t k => XS.iloadN X0.here hx rfl (hb hby own_d1_48) rfl k) ?_
            show own_G p e below _ (s₁.setTop (mkF m 49 #[.val (.int p0)] [(.int p0)]))
            refine own_via (X0.ldcInt hx hown (mvT hZ (hw _ (List.mem_of_getElem? (i := 25) rfl))) (g := (mkF m 49 #[.val (.int p0)] [(.int p0)])) rfl (hb hby own_d1_49)) ?_
            show own_G p e below _ (s₁.setTop (mkF m 51 #[.val (.int p0)] [(.int (1114111 : Int32)), (.int p0)]))
            by_cases hc9 : (1114111 : Int32) < p0
            ·
              refine own_via (fun t k => XS.icmpYes X0.here hx rfl (pc0 := 51) (pc' := 58) rfl (hb hby own_d1_51) rfl (tlt hc9).2.2.1 (by decide) (by decide) k) ?_
              show own_G p e below _ (s₁.setTop (mkF m 58 #[.val (.int p0)] []))
              refine own_via (fun t k => XS.iconst X0.here hx rfl (hb hby own_d1_58) k) ?_
              show own_G p e below _ (s₁.setTop (mkF m 59 #[.val (.int p0)] [(.int (0 : Int32))]))
              exact own_retN (t := .boolean) X0 hx Bd.returns (by simp) Bd.notSynchronized (hb hby own_d1_59) ⟨by show (some (.int (0 : Int32)) : Option Value) = some (.int (own_F1 p0)); simp only [own_F1, if_neg hc1, if_pos hc5, if_neg hc6, if_pos hc7, if_neg hc8, if_pos hc9], rfl, e0⟩ (by decide) (by decide)
            ·
              refine own_via (fun t k => XS.icmpNo X0.here hx rfl (hb hby own_d1_51) rfl (flt hc9).2.2.1 k) ?_
              show own_G p e below _ (s₁.setTop (mkF m 54 #[.val (.int p0)] []))
              refine own_via (fun t k => XS.iconst X0.here hx rfl (hb hby own_d1_54) k) ?_
              show own_G p e below _ (s₁.setTop (mkF m 55 #[.val (.int p0)] [(.int (1 : Int32))]))
              refine own_via (fun t k => XS.goto X0.here hx rfl (pc0 := 55) (pc' := 59) rfl (hb hby own_d1_55) (by decide) (by decide) k) ?_
              show own_G p e below _ (s₁.setTop (mkF m 59 #[.val (.int p0)] [(.int (1 : Int32))]))
              exact own_retN (t := .boolean) X0 hx Bd.returns (by simp) Bd.notSynchronized (hb hby own_d1_59) ⟨by show (some (.int (1 : Int32)) : Option Value) = some (.int (own_F1 p0)); simp only [own_F1, if_neg hc1, if_pos hc5, if_neg hc6, if_pos hc7, if_neg hc8, if_neg hc9], rfl, e0⟩ (by decide) (by decide)
        ·
          refine own_via (fun t k => XS.icmpYes X0.here hx rfl (pc0 := 39) (pc' := 54) rfl (hb hby own_d1_39) rfl (flt hc7).2.2.2 (by decide) (by decide) k) ?_
          show own_G p e below _ (s₁.setTop (mkF m 54 #[.val (.int p0)] []))
          refine own_via (fun t k => XS.iconst X0.here hx rfl (hb hby own_d1_54) k) ?_
          show own_G p e below _ (s₁.setTop (mkF m 55 #[.val (.int p0)] [(.int (1 : Int32))]))
          refine own_via (fun t k => XS.goto X0.here hx rfl (pc0 := 55) (pc' := 59) rfl (hb hby own_d1_55) (by decide) (by decide) k) ?_
          show own_G p e below _ (s₁.setTop (mkF m 59 #[.val (.int p0)] [(.int (1 : Int32))]))
          exact own_retN (t := .boolean) X0 hx Bd.returns (by simp) Bd.notSynchronized (hb hby own_d1_59) ⟨by show (some (.int (1 : Int32)) : Option Value) = some (.int (own_F1 p0)); simp only [own_F1, if_neg hc1, if_pos hc5, if_neg hc6, if_neg hc7], rfl, e0⟩ (by decide) (by decide)
    ·
      refine own_via (fun t k => XS.icmpYes X0.here hx rfl (pc0 := 9) (pc' := 54) rfl (hb hby own_d1_9) rfl (flt hc5).2.2.2 (by decide) (by decide) k) ?_
      show own_G p e below _ (s₁.setTop (mkF m 54 #[.val (.int p0)] []))
      refine own_via (fun t k => XS.iconst X0.here hx rfl (hb hby own_d1_54) k) ?_
      show own_G p e below _ (s₁.setTop (mkF m 55 #[.val (.int p0)] [(.int (1 : Int32))]))
      refine own_via (fun t k => XS.goto X0.here hx rfl (pc0 := 55) (pc' := 59) rfl (hb hby own_d1_55) (by decide) (by decide) k) ?_
      show own_G p e below _ (s₁.setTop (mkF m 59 #[.val (.int p0)] [(.int (1 : Int32))]))
      exact own_retN (t := .boolean) X0 hx Bd.returns (by simp) Bd.notSynchronized (hb hby own_d1_59) ⟨by show (some (.int (1 : Int32)) : Option Value) = some (.int (own_F1 p0)); simp only [own_F1, if_neg hc1, if_neg hc5], rfl, e0⟩ (by decide) (by decide)
theorem own_d2_0 : decode method_3_code 0 = .ok (.iload_n 0, 1) := by decide +kernel
theorem own_d2_1 : decode method_3_code 1 = .ok (.ifCond .lt 13, 3) := by decide +kernel
theorem own_d2_4 : decode method_3_code 4 = .ok (.iload_n 0, 1) := by decide +kernel
theorem own_d2_5 : decode method_3_code 5 = .ok (.ldc 15, 2) := by decide +kernel
theorem own_d2_7 : decode method_3_code 7 = .ok (.if_icmp .gt 7, 3) := by decide +kernel
theorem own_d2_10 : decode method_3_code 10 = .ok (.iconst 1, 1) := by decide +kernel
theorem own_d2_11 : decode method_3_code 11 = .ok (.goto 4, 3) := by decide +kernel
theorem own_d2_14 : decode method_3_code 14 = .ok (.iconst 0, 1) := by decide +kernel
theorem own_d2_15 : decode method_3_code 15 = .ok (.istore_n 1, 1) := by decide +kernel
theorem own_d2_16 : decode method_3_code 16 = .ok (.iload_n 0, 1) := by decide +kernel
theorem own_d2_17 : decode method_3_code 17 = .ok (.ldc 8, 2) := by decide +kernel
theorem own_d2_19 : decode method_3_code 19 = .ok (.if_icmp .lt 13, 3) := by decide +kernel
theorem own_d2_22 : decode method_3_code 22 = .ok (.iload_n 0, 1) := by decide +kernel
theorem own_d2_23 : decode method_3_code 23 = .ok (.ldc 9, 2) := by decide +kernel
theorem own_d2_25 : decode method_3_code 25 = .ok (.if_icmp .gt 7, 3) := by decide +kernel
theorem own_d2_28 : decode method_3_code 28 = .ok (.iconst 1, 1) := by decide +kernel
theorem own_d2_29 : decode method_3_code 29 = .ok (.goto 4, 3) := by decide +kernel
theorem own_d2_32 : decode method_3_code 32 = .ok (.iconst 0, 1) := by decide +kernel
theorem own_d2_33 : decode method_3_code 33 = .ok (.istore_n 2, 1) := by decide +kernel
theorem own_d2_34 : decode method_3_code 34 = .ok (.iload_n 0, 1) := by decide +kernel
theorem own_d2_35 : decode method_3_code 35 = .ok (.ldc 12, 2) := by decide +kernel
theorem own_d2_37 : decode method_3_code 37 = .ok (.if_icmp .eq 9, 3) := by decide +kernel
theorem own_d2_40 : decode method_3_code 40 = .ok (.iload_n 0, 1) := by decide +kernel
theorem own_d2_41 : decode method_3_code 41 = .ok (.ldc 13, 2) := by decide +kernel
theorem own_d2_43 : decode method_3_code 43 = .ok (.if_icmp .ne 7, 3) := by decide +kernel
theorem own_d2_46 : decode method_3_code 46 = .ok (.iconst 1, 1) := by decide +kernel
theorem own_d2_47 : decode method_3_code 47 = .ok (.goto 4, 3) := by decide +kernel
theorem own_d2_50 : decode method_3_code 50 = .ok (.iconst 0, 1) := by decide +kernel
theorem own_d2_51 : decode method_3_code 51 = .ok (.istore_n 3, 1) := by decide +kernel
theorem own_d2_52 : decode method_3_code 52 = .ok (.iload_n 0, 1) := by decide +kernel
theorem own_d2_53 : decode method_3_code 53 = .ok (.bipush 32, 2) := by decide +kernel
theorem own_d2_55 : decode method_3_code 55 = .ok (.if_icmp .ge 25, 3) := by decide +kernel
theorem own_d2_58 : decode method_3_code 58 = .ok (.iload_n 0, 1) := by decide +kernel
theorem own_d2_59 : decode method_3_code 59 = .ok (.bipush 9, 2) := by decide +kernel
theorem own_d2_61 : decode method_3_code 61 = .ok (.if_icmp .eq 19, 3) := by decide +kernel
theorem own_d2_64 : decode method_3_code 64 = .ok (.iload_n 0, 1) := by decide +kernel
theorem own_d2_65 : decode method_3_code 65 = .ok (.bipush 10, 2) := by decide +kernel
theorem own_d2_67 : decode method_3_code 67 = .ok (.if_icmp .eq 13, 3) := by decide +kernel
theorem own_d2_70 : decode method_3_code 70 = .ok (.iload_n 0, 1) := by decide +kernel
theorem own_d2_71 : decode method_3_code 71 = .ok (.bipush 13, 2) := by decide +kernel
theorem own_d2_73 : decode method_3_code 73 = .ok (.if_icmp .eq 7, 3) := by decide +kernel
theorem own_d2_76 : decode method_3_code 76 = .ok (.iconst 1, 1) := by decide +kernel
theorem own_d2_77 : decode method_3_code 77 = .ok (.goto 4, 3) := by decide +kernel
theorem own_d2_80 : decode method_3_code 80 = .ok (.iconst 0, 1) := by decide +kernel
theorem own_d2_81 : decode method_3_code 81 = .ok (.istore 4, 2) := by decide +kernel
theorem own_d2_83 : decode method_3_code 83 = .ok (.iload_n 1, 1) := by decide +kernel
theorem own_d2_84 : decode method_3_code 84 = .ok (.ifCond .eq 20, 3) := by decide +kernel
theorem own_d2_87 : decode method_3_code 87 = .ok (.iload_n 2, 1) := by decide +kernel
theorem own_d2_88 : decode method_3_code 88 = .ok (.ifCond .ne 16, 3) := by decide +kernel
theorem own_d2_91 : decode method_3_code 91 = .ok (.iload_n 3, 1) := by decide +kernel
theorem own_d2_92 : decode method_3_code 92 = .ok (.ifCond .ne 12, 3) := by decide +kernel
theorem own_d2_95 : decode method_3_code 95 = .ok (.iload 4, 2) := by decide +kernel
theorem own_d2_97 : decode method_3_code 97 = .ok (.ifCond .ne 7, 3) := by decide +kernel
theorem own_d2_100 : decode method_3_code 100 = .ok (.iconst 1, 1) := by decide +kernel
theorem own_d2_101 : decode method_3_code 101 = .ok (.goto 4, 3) := by decide +kernel
theorem own_d2_104 : decode method_3_code 104 = .ok (.iconst 0, 1) := by decide +kernel
theorem own_d2_105 : decode method_3_code 105 = .ok (.ireturn, 1) := by decide +kernel
abbrev own_R2 : Room := { frames := 0, cells := 0, slots := 0, locals := 0 }
theorem own_pn2 : plainFor (⟨"com/example/clementi/clementi/xml/XmlInputIsCharacterPinLaw", "expected", "(I)Z"⟩ : MethodName) = true := plainFor_of_name (by first | (simp [plainName, overriddenIn]; done) | decide +kernel)
theorem own_ef2 (m : MethodId) (p0 : Int32) : entryFrame m #[(.int p0)] 5 = mkF m 0 #[.val (.int p0), .unset, .unset, .unset, .unset] [] := by first | (simp [entryFrame, mkF, argsToLocals, Value.category]; done) | rfl
def own_F2 (p0 : Int32) : Int32 := (let zj2 : Int32 := (if p0 < (0 : Int32) then (0 : Int32) else (if (1114111 : Int32) < p0 then (0 : Int32) else (1 : Int32))); (let zj4 : Int32 := (if p0 < (55296 : Int32) then (0 : Int32) else (if (57343 : Int32) < p0 then (0 : Int32) else (1 : Int32))); (let zj6 : Int32 := (if p0 = (65534 : Int32) then (1 : Int32) else (if p0 = (65535 : Int32) then (1 : Int32) else (0 : Int32))); (let zj8 : Int32 := (if p0 < (32 : Int32) then (if p0 = (9 : Int32) then (0 : Int32) else (if p0 = (10 : Int32) then (0 : Int32) else (if p0 = (13 : Int32) then (0 : Int32) else (1 : Int32)))) else (0 : Int32)); (if zj2 = (0 : Int32) then (0 : Int32) else (if zj4 = (0 : Int32) then (if zj6 = (0 : Int32) then (if zj8 = (0 : Int32) then (1 : Int32) else (0 : Int32)) else (0 : Int32)) else (0 : Int32)))))))
set_option maxRecDepth 65536 in
set_option maxHeartbeats 40000000 in
theorem own_rm2 (l : Launch) (Z : State) (a0 : Array Value) (hw : ∀ d ∈ tables_1, d.before a0 Z = true) (ws : List Jvm.Cond) (p0 : Int32) (h0 : Heap) :
    own_C l Z (⟨"com/example/clementi/clementi/xml/XmlInputIsCharacterPinLaw", "expected", "(I)Z"⟩ : MethodName) method_3_code 5 (some .boolean) ws own_R2 #[(.int p0)] h0 (own_Q (.int (own_F2 p0)) h0) := by
  refine MetFree.of_bodySF own_pn2 hisR ?_
  intro p e s m args below meth c s₁ Bd hml0 hP hK
  obtain ⟨rfl, hZ, hh⟩ := hP
  have hx := Bd.exec
  have hby := Bd.bytes
  have hml : c.maxLocals = 5 := hml0
  have hown : s.vm.findClass "com/example/clementi/clementi/xml/XmlInputIsCharacterPinLaw" = some m.cls := findClass_of_methodNamed Bd.named
  have X0 : Stand p l e own_R2 s m #[(.int p0)] below meth c s₁ [] 0 0 := Stand.of_body Bd
  have e0 : s₁.heap = h0 := by rw [← hh, Bd.state]; rfl
  show own_G p e below (own_P s (own_Q (.int (own_F2 p0)) h0) own_R2.cells own_R2.slots) (s₁.setTop (entryFrame m #[(.int p0)] 5))
  rw [own_ef2 m p0]
  show own_G p e below _ (s₁.setTop (mkF m 0 #[.val (.int p0), .unset, .unset, .unset, .unset] []))
  refine own_via (fun t k => XS.iloadN X0.here hx rfl (hb hby own_d2_0) rfl k) ?_
  show own_G p e below _ (s₁.setTop (mkF m 1 #[.val (.int p0), .unset, .unset, .unset, .unset] [(.int p0)]))
  have J1 : ∀ (TJ1 : State) (XJ1 : Stand p l e own_R2 s m #[(.int p0)] below meth c TJ1 [] 0 0) (EJ1 : TJ1.heap = h0) (zj2 : Int32), zj2 = (if p0 < (0 : Int32) then (0 : Int32) else (if (1114111 : Int32) < p0 then (0 : Int32) else (1 : Int32))) → own_G p e below (own_P s (own_Q (.int (own_F2 p0)) h0) 0 0) (TJ1.setTop (mkF m 15 #[.val (.int p0), .unset, .unset, .unset, .unset] [(.int zj2)])) := by
    intro TJ1 XJ1 EJ1 zj2 hzj2
    refine own_via (fun t k => XS.istoreN XJ1.here hx rfl (hb hby own_d2_15) rfl (l' := #[.val (.int p0), .val (.int zj2), .unset, .unset, .unset]) rfl k) ?_
    show own_G p e below _ (TJ1.setTop (mkF m 16 #[.val (.int p0), .val (.int zj2), .unset, .unset, .unset] []))
    refine own_via (fun t k => XS.iloadN XJ1.here hx rfl (hb hby own_d2_16) rfl k) ?_
    show own_G p e below _ (TJ1.setTop (mkF m 17 #[.val (.int p0), .val (.int zj2), .unset, .unset, .unset] [(.int p0)]))
    refine own_via (XJ1.ldcInt hx hown (mvT hZ (hw _ (List.mem_of_getElem? (i := 2) rfl))) (g := (mkF m 17 #[.val (.int p0), .val (.int zj2), .unset, .unset, .unset] [(.int p0)])) rfl (hb hby own_d2_17)) ?_
    show own_G p e below _ (TJ1.setTop (mkF m 19 #[.val (.int p0), .val (.int zj2), .unset, .unset, .unset] [(.int (55296 : Int32)), (.int p0)]))
    have J3 : ∀ (TJ3 : State) (XJ3 : Stand p l e own_R2 s m #[(.int p0)] below meth c TJ3 [] 0 0) (EJ3 : TJ3.heap = h0) (zj4 : Int32), zj4 = (if p0 < (55296 : Int32) then (0 : Int32) else (if (57343 : Int32) < p0 then (0 : Int32) else (1 : Int32))) → own_G p e below (own_P s (own_Q (.int (own_F2 p0)) h0) 0 0) (TJ3.setTop (mkF m 33 #[.val (.int p0), .val (.int zj2), .unset, .unset, .unset] [(.int zj4)])) := by
      intro TJ3 XJ3 EJ3 zj4 hzj4
      refine own_via (fun t k => XS.istoreN XJ3.here hx rfl (hb hby own_d2_33) rfl (l' := #[.val (.int p0), .val (.int zj2), .val (.int zj4), .unset, .unset]) rfl k) ?_
      show own_G p e below _ (TJ3.setTop (mkF m 34 #[.val (.int p0), .val (.int zj2), .val (.int zj4), .unset, .unset] []))
      refine own_via (fun t k => XS.iloadN XJ3.here hx rfl (hb hby own_d2_34) rfl k) ?_
      show own_G p e below _ (TJ3.setTop (mkF m 35 #[.val (.int p0), .val (.int zj2), .val (.int zj4), .unset, .unset] [(.int p0)]))
      refine own_via (XJ3.ldcInt hx hown (mvT hZ (hw _ (List.mem_of_getElem? (i := 6) rfl))) (g := (mkF m 35 #[.val (.int p0), .val (.int zj2), .val (.int zj4), .unset, .unset] [(.int p0)])) rfl (hb hby own_d2_35)) ?_
      show own_G p e below _ (TJ3.setTop (mkF m 37 #[.val (.int p0), .val (.int zj2), .val (.int zj4), .unset, .unset] [(.int (65534 : Int32)), (.int p0)]))
      have J5 : ∀ (TJ5 : State) (XJ5 : Stand p l e own_R2 s m #[(.int p0)] below meth c TJ5 [] 0 0) (EJ5 : TJ5.heap = h0) (zj6 : Int32), zj6 = (if p0 = (65534 : Int32) then (1 : Int32) else (if p0 = (65535 : Int32) then (1 : Int32) else (0 : Int32))) → own_G p e below (own_P s (own_Q (.int (own_F2 p0)) h0) 0 0) (TJ5.setTop (mkF m 51 #[.val (.int p0), .val (.int zj2), .val (.int zj4), .unset, .unset] [(.int zj6)])) := by
        intro TJ5 XJ5 EJ5 zj6 hzj6
        refine own_via (fun t k => XS.istoreN XJ5.here hx rfl (hb hby own_d2_51) rfl (l' := #[.val (.int p0), .val (.int zj2), .val (.int zj4), .val (.int zj6), .unset]) rfl k) ?_
        show own_G p e below _ (TJ5.setTop (mkF m 52 #[.val (.int p0), .val (.int zj2), .val (.int zj4), .val (.int zj6), .unset] []))
        refine own_via (fun t k => XS.iloadN XJ5.here hx rfl (hb hby own_d2_52) rfl k) ?_
        show own_G p e below _ (TJ5.setTop (mkF m 53 #[.val (.int p0), .val (.int zj2), .val (.int zj4), .val (.int zj6), .unset] [(.int p0)]))
        refine own_via (fun t k => XS.bipush XJ5.here hx rfl (hb hby own_d2_53) k) ?_
        show own_G p e below _ (TJ5.setTop (mkF m 55 #[.val (.int p0), .val (.int zj2), .val (.int zj4), .val (.int zj6), .unset] [(.int (32 : Int32)), (.int p0)]))
        have J7 : ∀ (TJ7 : State) (XJ7 : Stand p l e own_R2 s m #[(.int p0)] below meth c TJ7 [] 0 0) (EJ7 : TJ7.heap = h0) (zj8 : Int32), zj8 = (if p0 < (32 : Int32) then (if p0 = (9 : Int32) then (0 : Int32) else (if p0 = (10 : Int32) then (0 : Int32) else (if p0 = (13 : Int32) then (0 : Int32) else (1 : Int32)))) else (0 : Int32)) → own_G p e below (own_P s (own_Q (.int (own_F2 p0)) h0) 0 0) (TJ7.setTop (mkF m 81 #[.val (.int p0), .val (.int zj2), .val (.int zj4), .val (.int zj6), .unset] [(.int zj8)])) := by
          intro TJ7 XJ7 EJ7 zj8 hzj8
          refine own_via (fun t k => XS.istore XJ7.here hx rfl (hb hby own_d2_81) rfl (l' := #[.val (.int p0), .val (.int zj2), .val (.int zj4), .val (.int zj6), .val (.int zj8)]) rfl k) ?_
          show own_G p e below _ (TJ7.setTop (mkF m 83 #[.val (.int p0), .val (.int zj2), .val (.int zj4), .val (.int zj6), .val (.int zj8)] []))
          refine own_via (fun t k => XS.iloadN XJ7.here hx rfl (hb hby own_d2_83) rfl k) ?_
          show own_G p e below _ (TJ7.setTop (mkF m 84 #[.val (.int p0), .val (.int zj2), .val (.int zj4), .val (.int zj6), .val (.int zj8)] [(.int zj2)]))
          by_cases hc9 : zj2 = (0 : Int32)
          ·
            refine own_via (fun t k => XS.ifYes XJ7.here hx rfl (pc0 := 84) (pc' := 104) rfl (hb hby own_d2_84) rfl ((if0 _ _).trans (teq hc9).1) (by decide) (by decide) k) ?_
            show own_G p e below _ (TJ7.setTop (mkF m 104 #[.val (.int p0), .val (.int zj2), .val (.int zj4), .val (.int zj6), .val (.int zj8)] []))
            refine own_via (fun t k => XS.iconst XJ7.here hx rfl (hb hby own_d2_104) k) ?_
            show own_G p e below _ (TJ7.setTop (mkF m 105 #[.val (.int p0), .val (.int zj2), .val (.int zj4), .val (.int zj6), .val (.int zj8)] [(.int (0 : Int32))]))
            exact own_retN (t := .boolean) XJ7 hx Bd.returns (by simp) Bd.notSynchronized (hb hby own_d2_105) ⟨by show (some (.int (0 : Int32)) : Option Value) = some (.int (own_F2 p0)); subst hzj8; subst hzj6; subst hzj4; subst hzj2; simp only [own_F2, if_pos hc9], rfl, EJ7⟩ (by decide) (by decide)
          ·
            refine own_via (fun t k => XS.ifNo XJ7.here hx rfl (hb hby own_d2_84) rfl ((if0 _ _).trans (feq hc9).1) k) ?_
            show own_G p e below _ (TJ7.setTop (mkF m 87 #[.val (.int p0), .val (.int zj2), .val (.int zj4), .val (.int zj6), .val (.int zj8)] []))
            refine own_via (fun t k => XS.iloadN XJ7.here hx rfl (hb hby own_d2_87) rfl k) ?_
            show own_G p e below _ (TJ7.setTop (mkF m 88 #[.val (.int p0), .val (.int zj2), .val (.int zj4), .val (.int zj6), .val (.int zj8)] [(.int zj4)]))
            by_cases hc10 : zj4 = (0 : Int32)
            ·
              refine own_via (fun t k => XS.ifNo XJ7.here hx rfl (hb hby own_d2_88) rfl ((if0 _ _).trans (teq hc10).2) k) ?_
              show own_G p e below _ (TJ7.setTop (mkF m 91 #[.val (.int p0), .val (.int zj2), .val (.int zj4), .val (.int zj6), .val (.int zj8)] []))
              refine own_via (fun t k => XS.iloadN XJ7.here hx rfl (hb hby own_d2_91) rfl k) ?_
              show own_G p e below _ (TJ7.setTop (mkF m 92 #[.val (.int p0), .val (.int zj2), .val (.int zj4), .val (.int zj6), .val (.int zj8)] [(.int zj6)]))
              by_cases hc11 : zj6 = (0 : Int32)
              ·
                refine own_via (fun t k => XS.ifNo XJ7.here hx rfl (hb hby own_d2_92) rfl ((if0 _ _).trans (teq hc11).2) k) ?_
                show own_G p e below _ (TJ7.setTop (mkF m 95 #[.val (.int p0), .val (.int zj2), .val (.int zj4), .val (.int zj6), .val (.int zj8)] []))
                refine own_via (fun t k => XS.iload XJ7.here hx rfl (hb hby own_d2_95) rfl k) ?_
                show own_G p e below _ (TJ7.setTop (mkF m 97 #[.val (.int p0), .val (.int zj2), .val (.int zj4), .val (.int zj6), .val (.int zj8)] [(.int zj8)]))
                by_cases hc12 : zj8 = (0 : Int32)
                ·
                  refine own_via (fun t k => XS.ifNo XJ7.here hx rfl (hb hby own_d2_97) rfl ((if0 _ _).trans (teq hc12).2) k) ?_
                  show own_G p e below _ (TJ7.setTop (mkF m 100 #[.val (.int p0), .val (.int zj2), .val (.int zj4), .val (.int zj6), .val (.int zj8)] []))
                  refine own_via (fun t k => XS.iconst XJ7.here hx rfl (hb hby own_d2_100) k) ?_
                  show own_G p e below _ (TJ7.setTop (mkF m 101 #[.val (.int p0), .val (.int zj2), .val (.int zj4), .val (.int zj6), .val (.int zj8)] [(.int (1 : Int32))]))
                  refine own_via (fun t k => XS.goto XJ7.here hx rfl (pc0 := 101) (pc' := 105) rfl (hb hby own_d2_101) (by decide) (by decide) k) ?_
                  show own_G p e below _ (TJ7.setTop (mkF m 105 #[.val (.int p0), .val (.int zj2), .val (.int zj4), .val (.int zj6), .val (.int zj8)] [(.int (1 : Int32))]))
                  exact own_retN (t := .boolean) XJ7 hx Bd.returns (by simp) Bd.notSynchronized (hb hby own_d2_105) ⟨by show (some (.int (1 : Int32)) : Option Value) = some (.int (own_F2 p0)); subst hzj8; subst hzj6; subst hzj4; subst hzj2; simp only [own_F2, if_neg hc9, if_pos hc10, if_pos hc11, if_pos hc12], rfl, EJ7⟩ (by decide) (by decide)
                ·
                  refine own_via (fun t k => XS.ifYes XJ7.here hx rfl (pc0 := 97) (pc' := 104) rfl (hb hby own_d2_97) rfl ((if0 _ _).trans (feq hc12).2) (by decide) (by decide) k) ?_
                  show own_G p e below _ (TJ7.setTop (mkF m 104 #[.val (.int p0), .val (.int zj2), .val (.int zj4), .val (.int zj6), .val (.int zj8)] []))
                  refine own_via (fun t k => XS.iconst XJ7.here hx rfl (hb hby own_d2_104) k) ?_
                  show own_G p e below _ (TJ7.setTop (mkF m 105 #[.val (.int p0), .val (.int zj2), .val (.int zj4), .val (.int zj6), .val (.int zj8)] [(.int (0 : Int32))]))
                  exact own_retN (t := .boolean) XJ7 hx Bd.returns (by simp) Bd.notSynchronized (hb hby own_d2_105) ⟨by show (some (.int (0 : Int32)) : Option Value) = some (.int (own_F2 p0)); subst hzj8; subst hzj6; subst hzj4; subst hzj2; simp only [own_F2, if_neg hc9, if_pos hc10, if_pos hc11, if_neg hc12], rfl, EJ7⟩ (by decide) (by decide)
              ·
                refine own_via (fun t k => XS.ifYes XJ7.here hx rfl (pc0 := 92) (pc' := 104) rfl (hb hby own_d2_92) rfl ((if0 _ _).trans (feq hc11).2) (by decide) (by decide) k) ?_
                show own_G p e below _ (TJ7.setTop (mkF m 104 #[.val (.int p0), .val (.int zj2), .val (.int zj4), .val (.int zj6), .val (.int zj8)] []))
                refine own_via (fun t k => XS.iconst XJ7.here hx rfl (hb hby own_d2_104) k) ?_
                show own_G p e below _ (TJ7.setTop (mkF m 105 #[.val (.int p0), .val (.int zj2), .val (.int zj4), .val (.int zj6), .val (.int zj8)] [(.int (0 : Int32))]))
                exact own_retN (t := .boolean) XJ7 hx Bd.returns (by simp) Bd.notSynchronized (hb hby own_d2_105) ⟨by show (some (.int (0 : Int32)) : Option Value) = some (.int (own_F2 p0)); subst hzj8; subst hzj6; subst hzj4; subst hzj2; simp only [own_F2, if_neg hc9, if_pos hc10, if_neg hc11], rfl, EJ7⟩ (by decide) (by decide)
            ·
              refine own_via (fun t k => XS.ifYes XJ7.here hx rfl (pc0 := 88) (pc' := 104) rfl (hb hby own_d2_88) rfl ((if0 _ _).trans (feq hc10).2) (by decide) (by decide) k) ?_
              show own_G p e below _ (TJ7.setTop (mkF m 104 #[.val (.int p0), .val (.int zj2), .val (.int zj4), .val (.int zj6), .val (.int zj8)] []))
              refine own_via (fun t k => XS.iconst XJ7.here hx rfl (hb hby own_d2_104) k) ?_
              show own_G p e below _ (TJ7.setTop (mkF m 105 #[.val (.int p0), .val (.int zj2), .val (.int zj4), .val (.int zj6), .val (.int zj8)] [(.int (0 : Int32))]))
              exact own_retN (t := .boolean) XJ7 hx Bd.returns (by simp) Bd.notSynchronized (hb hby own_d2_105) ⟨by show (some (.int (0 : Int32)) : Option Value) = some (.int (own_F2 p0)); subst hzj8; subst hzj6; subst hzj4; subst hzj2; simp only [own_F2, if_neg hc9, if_neg hc10], rfl, EJ7⟩ (by decide) (by decide)
        by_cases hc13 : p0 < (32 : Int32)
        ·
          refine own_via (fun t k => XS.icmpNo XJ5.here hx rfl (hb hby own_d2_55) rfl (tlt hc13).2.1 k) ?_
          show own_G p e below _ (TJ5.setTop (mkF m 58 #[.val (.int p0), .val (.int zj2), .val (.int zj4), .val (.int zj6), .unset] []))
          refine own_via (fun t k => XS.iloadN XJ5.here hx rfl (hb hby own_d2_58) rfl k) ?_
          show own_G p e below _ (TJ5.setTop (mkF m 59 #[.val (.int p0), .val (.int zj2), .val (.int zj4), .val (.int zj6), .unset] [(.int p0)]))
          refine own_via (fun t k => XS.bipush XJ5.here hx rfl (hb hby own_d2_59) k) ?_
          show own_G p e below _ (TJ5.setTop (mkF m 61 #[.val (.int p0), .val (.int zj2), .val (.int zj4), .val (.int zj6), .unset] [(.int (9 : Int32)), (.int p0)]))
          by_cases hc14 : p0 = (9 : Int32)
          ·
            refine own_via (fun t k => XS.icmpYes XJ5.here hx rfl (pc0 := 61) (pc' := 80) rfl (hb hby own_d2_61) rfl (teq hc14).1 (by decide) (by decide) k) ?_
            show own_G p e below _ (TJ5.setTop (mkF m 80 #[.val (.int p0), .val (.int zj2), .val (.int zj4), .val (.int zj6), .unset] []))
            refine own_via (fun t k => XS.iconst XJ5.here hx rfl (hb hby own_d2_80) k) ?_
            show own_G p e below _ (TJ5.setTop (mkF m 81 #[.val (.int p0), .val (.int zj2), .val (.int zj4), .val (.int zj6), .unset] [(.int (0 : Int32))]))
            exact J7 _ XJ5 EJ5 _ (by simp only [if_pos hc13, if_pos hc14])
          ·
            refine own_via (fun t k => XS.icmpNo XJ5.here hx rfl (hb hby own_d2_61) rfl (feq hc14).1 k) ?_
            show own_G p e below _ (TJ5.setTop (mkF m 64 #[.val (.int p0), .val (.int zj2), .val (.int zj4), .val (.int zj6), .unset] []))
            refine own_via (fun t k => XS.iloadN XJ5.here hx rfl (hb hby own_d2_64) rfl k) ?_
            show own_G p e below _ (TJ5.setTop (mkF m 65 #[.val (.int p0), .val (.int zj2), .val (.int zj4), .val (.int zj6), .unset] [(.int p0)]))
            refine own_via (fun t k => XS.bipush XJ5.here hx rfl (hb hby own_d2_65) k) ?_
            show own_G p e below _ (TJ5.setTop (mkF m 67 #[.val (.int p0), .val (.int zj2), .val (.int zj4), .val (.int zj6), .unset] [(.int (10 : Int32)), (.int p0)]))
            by_cases hc15 : p0 = (10 : Int32)
            ·
              refine own_via (fun t k => XS.icmpYes XJ5.here hx rfl (pc0 := 67) (pc' := 80) rfl (hb hby own_d2_67) rfl (teq hc15).1 (by decide) (by decide) k) ?_
              show own_G p e below _ (TJ5.setTop (mkF m 80 #[.val (.int p0), .val (.int zj2), .val (.int zj4), .val (.int zj6), .unset] []))
              refine own_via (fun t k => XS.iconst XJ5.here hx rfl (hb hby own_d2_80) k) ?_
              show own_G p e below _ (TJ5.setTop (mkF m 81 #[.val (.int p0), .val (.int zj2), .val (.int zj4), .val (.int zj6), .unset] [(.int (0 : Int32))]))
              exact J7 _ XJ5 EJ5 _ (by simp only [if_pos hc13, if_neg hc14, if_pos hc15])
            ·
              refine own_via (fun t k => XS.icmpNo XJ5.here hx rfl (hb hby own_d2_67) rfl (feq hc15).1 k) ?_
              show own_G p e below _ (TJ5.setTop (mkF m 70 #[.val (.int p0), .val (.int zj2), .val (.int zj4), .val (.int zj6), .unset] []))
              refine own_via (fun t k => XS.iloadN XJ5.here hx rfl (hb hby own_d2_70) rfl k) ?_
              show own_G p e below _ (TJ5.setTop (mkF m 71 #[.val (.int p0), .val (.int zj2), .val (.int zj4), .val (.int zj6), .unset] [(.int p0)]))
              refine own_via (fun t k => XS.bipush XJ5.here hx rfl (hb hby own_d2_71) k) ?_
              show own_G p e below _ (TJ5.setTop (mkF m 73 #[.val (.int p0), .val (.int zj2), .val (.int zj4), .val (.int zj6), .unset] [(.int (13 : Int32)), (.int p0)]))
              by_cases hc16 : p0 = (13 : Int32)
              ·
                refine own_via (fun t k => XS.icmpYes XJ5.here hx rfl (pc0 := 73) (pc' := 80) rfl (hb hby own_d2_73) rfl (teq hc16).1 (by decide) (by decide) k) ?_
                show own_G p e below _ (TJ5.setTop (mkF m 80 #[.val (.int p0), .val (.int zj2), .val (.int zj4), .val (.int zj6), .unset] []))
                refine own_via (fun t k => XS.iconst XJ5.here hx rfl (hb hby own_d2_80) k) ?_
                show own_G p e below _ (TJ5.setTop (mkF m 81 #[.val (.int p0), .val (.int zj2), .val (.int zj4), .val (.int zj6), .unset] [(.int (0 : Int32))]))
                exact J7 _ XJ5 EJ5 _ (by simp only [if_pos hc13, if_neg hc14, if_neg hc15, if_pos hc16])
              ·
                refine own_via (fun t k => XS.icmpNo XJ5.here hx rfl (hb hby own_d2_73) rfl (feq hc16).1 k) ?_
                show own_G p e below _ (TJ5.setTop (mkF m 76 #[.val (.int p0), .val (.int zj2), .val (.int zj4), .val (.int zj6), .unset] []))
                refine own_via (fun t k => XS.iconst XJ5.here hx rfl (hb hby own_d2_76) k) ?_
                show own_G p e below _ (TJ5.setTop (mkF m 77 #[.val (.int p0), .val (.int zj2), .val (.int zj4), .val (.int zj6), .unset] [(.int (1 : Int32))]))
                refine own_via (fun t k => XS.goto XJ5.here hx rfl (pc0 := 77) (pc' := 81) rfl (hb hby own_d2_77) (by decide) (by decide) k) ?_
                show own_G p e below _ (TJ5.setTop (mkF m 81 #[.val (.int p0), .val (.int zj2), .val (.int zj4), .val (.int zj6), .unset] [(.int (1 : Int32))]))
                exact J7 _ XJ5 EJ5 _ (by simp only [if_pos hc13, if_neg hc14, if_neg hc15, if_neg hc16])
        ·
          refine own_via (fun t k => XS.icmpYes XJ5.here hx rfl (pc0 := 55) (pc' := 80) rfl (hb hby own_d2_55) rfl (flt hc13).2.1 (by decide) (by decide) k) ?_
          show own_G p e below _ (TJ5.setTop (mkF m 80 #[.val (.int p0), .val (.int zj2), .val (.int zj4), .val (.int zj6), .unset] []))
          refine own_via (fun t k => XS.iconst XJ5.here hx rfl (hb hby own_d2_80) k) ?_
          show own_G p e below _ (TJ5.setTop (mkF m 81 #[.val (.int p0), .val (.int zj2), .val (.int zj4), .val (.int zj6), .unset] [(.int (0 : Int32))]))
          exact J7 _ XJ5 EJ5 _ (by simp only [if_neg hc13])
      by_cases hc17 : p0 = (65534 : Int32)
      ·
        refine own_via (fun t k => XS.icmpYes XJ3.here hx rfl (pc0 := 37) (pc' := 46) rfl (hb hby own_d2_37) rfl (teq hc17).1 (by decide) (by decide) k) ?_
        show own_G p e below _ (TJ3.setTop (mkF m 46 #[.val (.int p0), .val (.int zj2), .val (.int zj4), .unset, .unset] []))
        refine own_via (fun t k => XS.iconst XJ3.here hx rfl (hb hby own_d2_46) k) ?_
        show own_G p e below _ (TJ3.setTop (mkF m 47 #[.val (.int p0), .val (.int zj2), .val (.int zj4), .unset, .unset] [(.int (1 : Int32))]))
        refine own_via (fun t k => XS.goto XJ3.here hx rfl (pc0 := 47) (pc' := 51) rfl (hb hby own_d2_47) (by decide) (by decide) k) ?_
        show own_G p e below _ (TJ3.setTop (mkF m 51 #[.val (.int p0), .val (.int zj2), .val (.int zj4), .unset, .unset] [(.int (1 : Int32))]))
        exact J5 _ XJ3 EJ3 _ (by simp only [if_pos hc17])
      ·
        refine own_via (fun t k => XS.icmpNo XJ3.here hx rfl (hb hby own_d2_37) rfl (feq hc17).1 k) ?_
        show own_G p e below _ (TJ3.setTop (mkF m 40 #[.val (.int p0), .val (.int zj2), .val (.int zj4), .unset, .unset] []))
        refine own_via (fun t k => XS.iloadN XJ3.here hx rfl (hb hby own_d2_40) rfl k) ?_
        show own_G p e below _ (TJ3.setTop (mkF m 41 #[.val (.int p0), .val (.int zj2), .val (.int zj4), .unset, .unset] [(.int p0)]))
        refine own_via (XJ3.ldcInt hx hown (mvT hZ (hw _ (List.mem_of_getElem? (i := 7) rfl))) (g := (mkF m 41 #[.val (.int p0), .val (.int zj2), .val (.int zj4), .unset, .unset] [(.int p0)])) rfl (hb hby own_d2_41)) ?_
        show own_G p e below _ (TJ3.setTop (mkF m 43 #[.val (.int p0), .val (.int zj2), .val (.int zj4), .unset, .unset] [(.int (65535 : Int32)), (.int p0)]))
        by_cases hc18 : p0 = (65535 : Int32)
        ·
          refine own_via (fun t k => XS.icmpNo XJ3.here hx rfl (hb hby own_d2_43) rfl (teq hc18).2 k) ?_
          show own_G p e below _ (TJ3.setTop (mkF m 46 #[.val (.int p0), .val (.int zj2), .val (.int zj4), .unset, .unset] []))
          refine own_via (fun t k => XS.iconst XJ3.here hx rfl (hb hby own_d2_46) k) ?_
          show own_G p e below _ (TJ3.setTop (mkF m 47 #[.val (.int p0), .val (.int zj2), .val (.int zj4), .unset, .unset] [(.int (1 : Int32))]))
          refine own_via (fun t k => XS.goto XJ3.here hx rfl (pc0 := 47) (pc' := 51) rfl (hb hby own_d2_47) (by decide) (by decide) k) ?_
          show own_G p e below _ (TJ3.setTop (mkF m 51 #[.val (.int p0), .val (.int zj2), .val (.int zj4), .unset, .unset] [(.int (1 : Int32))]))
          exact J5 _ XJ3 EJ3 _ (by simp only [if_neg hc17, if_pos hc18])
        ·
          refine own_via (fun t k => XS.icmpYes XJ3.here hx rfl (pc0 := 43) (pc' := 50) rfl (hb hby own_d2_43) rfl (feq hc18).2 (by decide) (by decide) k) ?_
          show own_G p e below _ (TJ3.setTop (mkF m 50 #[.val (.int p0), .val (.int zj2), .val (.int zj4), .unset, .unset] []))
          refine own_via (fun t k => XS.iconst XJ3.here hx rfl (hb hby own_d2_50) k) ?_
          show own_G p e below _ (TJ3.setTop (mkF m 51 #[.val (.int p0), .val (.int zj2), .val (.int zj4), .unset, .unset] [(.int (0 : Int32))]))
          exact J5 _ XJ3 EJ3 _ (by simp only [if_neg hc17, if_neg hc18])
    by_cases hc19 : p0 < (55296 : Int32)
    ·
      refine own_via (fun t k => XS.icmpYes XJ1.here hx rfl (pc0 := 19) (pc' := 32) rfl (hb hby own_d2_19) rfl (tlt hc19).1 (by decide) (by decide) k) ?_
      show own_G p e below _ (TJ1.setTop (mkF m 32 #[.val (.int p0), .val (.int zj2), .unset, .unset, .unset] []))
      refine own_via (fun t k => XS.iconst XJ1.here hx rfl (hb hby own_d2_32) k) ?_
      show own_G p e below _ (TJ1.setTop (mkF m 33 #[.val (.int p0), .val (.int zj2), .unset, .unset, .unset] [(.int (0 : Int32))]))
      exact J3 _ XJ1 EJ1 _ (by simp only [if_pos hc19])
    ·
      refine own_via (fun t k => XS.icmpNo XJ1.here hx rfl (hb hby own_d2_19) rfl (flt hc19).1 k) ?_
      show own_G p e below _ (TJ1.setTop (mkF m 22 #[.val (.int p0), .val (.int zj2), .unset, .unset, .unset] []))
      refine own_via (fun t k => XS.iloadN XJ1.here hx rfl (hb hby own_d2_22) rfl k) ?_
      show own_G p e below _ (TJ1.setTop (mkF m 23 #[.val (.int p0), .val (.int zj2), .unset, .unset, .unset] [(.int p0)]))
      refine own_via (XJ1.ldcInt hx hown (mvT hZ (hw _ (List.mem_of_getElem? (i := 3) rfl))) (g := (mkF m 23 #[.val (.int p0), .val (.int zj2), .unset, .unset, .unset] [(.int p0)])) rfl (hb hby own_d2_23)) ?_
      show own_G p e below _ (TJ1.setTop (mkF m 25 #[.val (.int p0), .val (.int zj2), .unset, .unset, .unset] [(.int (57343 : Int32)), (.int p0)]))
      by_cases hc20 : (57343 : Int32) < p0
      ·
        refine own_via (fun t k => XS.icmpYes XJ1.here hx rfl (pc0 := 25) (pc' := 32) rfl (hb hby own_d2_25) rfl (tlt hc20).2.2.1 (by decide) (by decide) k) ?_
        show own_G p e below _ (TJ1.setTop (mkF m 32 #[.val (.int p0), .val (.int zj2), .unset, .unset, .unset] []))
        refine own_via (fun t k => XS.iconst XJ1.here hx rfl (hb hby own_d2_32) k) ?_
        show own_G p e below _ (TJ1.setTop (mkF m 33 #[.val (.int p0), .val (.int zj2), .unset, .unset, .unset] [(.int (0 : Int32))]))
        exact J3 _ XJ1 EJ1 _ (by simp only [if_neg hc19, if_pos hc20])
      ·
        refine own_via (fun t k => XS.icmpNo XJ1.here hx rfl (hb hby own_d2_25) rfl (flt hc20).2.2.1 k) ?_
        show own_G p e below _ (TJ1.setTop (mkF m 28 #[.val (.int p0), .val (.int zj2), .unset, .unset, .unset] []))
        refine own_via (fun t k => XS.iconst XJ1.here hx rfl (hb hby own_d2_28) k) ?_
        show own_G p e below _ (TJ1.setTop (mkF m 29 #[.val (.int p0), .val (.int zj2), .unset, .unset, .unset] [(.int (1 : Int32))]))
        refine own_via (fun t k => XS.goto XJ1.here hx rfl (pc0 := 29) (pc' := 33) rfl (hb hby own_d2_29) (by decide) (by decide) k) ?_
        show own_G p e below _ (TJ1.setTop (mkF m 33 #[.val (.int p0), .val (.int zj2), .unset, .unset, .unset] [(.int (1 : Int32))]))
        exact J3 _ XJ1 EJ1 _ (by simp only [if_neg hc19, if_neg hc20])
  by_cases hc21 : p0 < (0 : Int32)
  ·
    refine own_via (fun t k => XS.ifYes X0.here hx rfl (pc0 := 1) (pc' := 14) rfl (hb hby own_d2_1) rfl ((if0 _ _).trans (tlt hc21).1) (by decide) (by decide) k) ?_
    show own_G p e below _ (s₁.setTop (mkF m 14 #[.val (.int p0), .unset, .unset, .unset, .unset] []))
    refine own_via (fun t k => XS.iconst X0.here hx rfl (hb hby own_d2_14) k) ?_
    show own_G p e below _ (s₁.setTop (mkF m 15 #[.val (.int p0), .unset, .unset, .unset, .unset] [(.int (0 : Int32))]))
    exact J1 _ X0 e0 _ (by simp only [if_pos hc21])
  ·
    refine own_via (fun t k => XS.ifNo X0.here hx rfl (hb hby own_d2_1) rfl ((if0 _ _).trans (flt hc21).1) k) ?_
    show own_G p e below _ (s₁.setTop (mkF m 4 #[.val (.int p0), .unset, .unset, .unset, .unset] []))
    refine own_via (fun t k => XS.iloadN X0.here hx rfl (hb hby own_d2_4) rfl k) ?_
    show own_G p e below _ (s₁.setTop (mkF m 5 #[.val (.int p0), .unset, .unset, .unset, .unset] [(.int p0)]))
    refine own_via (X0.ldcInt hx hown (mvT hZ (hw _ (List.mem_of_getElem? (i := 9) rfl))) (g := (mkF m 5 #[.val (.int p0), .unset, .unset, .unset, .unset] [(.int p0)])) rfl (hb hby own_d2_5)) ?_
    show own_G p e below _ (s₁.setTop (mkF m 7 #[.val (.int p0), .unset, .unset, .unset, .unset] [(.int (1114111 : Int32)), (.int p0)]))
    by_cases hc22 : (1114111 : Int32) < p0
    ·
      refine own_via (fun t k => XS.icmpYes X0.here hx rfl (pc0 := 7) (pc' := 14) rfl (hb hby own_d2_7) rfl (tlt hc22).2.2.1 (by decide) (by decide) k) ?_
      show own_G p e below _ (s₁.setTop (mkF m 14 #[.val (.int p0), .unset, .unset, .unset, .unset] []))
      refine own_via (fun t k => XS.iconst X0.here hx rfl (hb hby own_d2_14) k) ?_
      show own_G p e below _ (s₁.setTop (mkF m 15 #[.val (.int p0), .unset, .unset, .unset, .unset] [(.int (0 : Int32))]))
      exact J1 _ X0 e0 _ (by simp only [if_neg hc21, if_pos hc22])
    ·
      refine own_via (fun t k => XS.icmpNo X0.here hx rfl (hb hby own_d2_7) rfl (flt hc22).2.2.1 k) ?_
      show own_G p e below _ (s₁.setTop (mkF m 10 #[.val (.int p0), .unset, .unset, .unset, .unset] []))
      refine own_via (fun t k => XS.iconst X0.here hx rfl (hb hby own_d2_10) k) ?_
      show own_G p e below _ (s₁.setTop (mkF m 11 #[.val (.int p0), .unset, .unset, .unset, .unset] [(.int (1 : Int32))]))
      refine own_via (fun t k => XS.goto X0.here hx rfl (pc0 := 11) (pc' := 15) rfl (hb hby own_d2_11) (by decide) (by decide) k) ?_
      show own_G p e below _ (s₁.setTop (mkF m 15 #[.val (.int p0), .unset, .unset, .unset, .unset] [(.int (1 : Int32))]))
      exact J1 _ X0 e0 _ (by simp only [if_neg hc21, if_neg hc22])
theorem own_same (p : Int32) : own_F1 p = own_F2 p := by
  simp only [own_F1, own_F2, Int32.lt_iff_toInt_lt, ← Int32.toInt_inj]
  simp only [show (0 : Int32).toInt = 0 from rfl, show (1 : Int32).toInt = 1 from rfl, show (9 : Int32).toInt = 9 from rfl, show (10 : Int32).toInt = 10 from rfl, show (13 : Int32).toInt = 13 from rfl, show (32 : Int32).toInt = 32 from rfl, show (55295 : Int32).toInt = 55295 from rfl, show (55296 : Int32).toInt = 55296 from rfl, show (57343 : Int32).toInt = 57343 from rfl, show (57344 : Int32).toInt = 57344 from rfl, show (65533 : Int32).toInt = 65533 from rfl, show (65534 : Int32).toInt = 65534 from rfl, show (65535 : Int32).toInt = 65535 from rfl, show (65536 : Int32).toInt = 65536 from rfl, show (1114111 : Int32).toInt = 1114111 from rfl]
  generalize p.toInt = c
  have hc : c < 0 ∨ (0 ≤ c ∧ c < 9) ∨ c = 9 ∨ c = 10 ∨ (11 ≤ c ∧ c < 13) ∨ c = 13 ∨ (14 ≤ c ∧ c < 32) ∨ (32 ≤ c ∧ c ≤ 55295) ∨ (55296 ≤ c ∧ c ≤ 57343) ∨ (57344 ≤ c ∧ c ≤ 65533) ∨ c = 65534 ∨ c = 65535 ∨ (65536 ≤ c ∧ c ≤ 1114111) ∨ 1114111 < c := by omega
  rcases hc with h | h | h | h | h | h | h | h | h | h | h | h | h | h
  all_goals
    simp (disch := omega) only [if_pos, if_neg, ite_true, ite_false, ite_self, show (0 : Int32).toInt = 0 from rfl, show (1 : Int32).toInt = 1 from rfl]
theorem own_pn0 : plainFor x = true := plainFor_of_name (by first | (simp [plainName, overriddenIn]; done) | decide +kernel)
theorem own_rm0_ef (m : MethodId) (p0 : Int32) (p1 : Int32) : entryFrame m #[(.int p0), (.int p1)] maxLocals = mkF m 0 #[.val (.int p0), .val (.int p1), .unset, .unset] [] := by first | (simp [entryFrame, mkF, argsToLocals, Value.category, maxLocals]; done) | rfl
set_option maxRecDepth 65536 in
set_option maxHeartbeats 40000000 in
theorem own_rm0 (l : Launch) (Z : State) (a0 : Array Value) (hw : ∀ d ∈ tables_1, d.before a0 Z = true) (ws : List Jvm.Cond) (p0 : Int32) (p1 : Int32)  (h0 : Heap) (n0 : Nat) (Z0 : n0 ≤ h0.size)  :
    own_C l Z x code maxLocals ret ws room_1 #[(.int p0), (.int p1)] h0 (own_W n0 (fun v _ => v = some (.int 1))) := by
  refine MetFree.of_bodySF own_pn0 hisR ?_
  intro p e s m args below meth c s₁ Bd hml0 hP hK
  obtain ⟨rfl, hZ, hh⟩ := hP
  have hx := Bd.exec
  have hby := Bd.bytes
  have hml : c.maxLocals = 4 := hml0
  have hown : s.vm.findClass "com/example/clementi/clementi/xml/XmlInputIsCharacterPinLaw" = some m.cls := findClass_of_methodNamed Bd.named
  have hnm := (name_of_methodNamed Bd.named Bd.method).1
  have X0 : Stand p l e room_1 s m #[(.int p0), (.int p1)] below meth c s₁ [] 0 0 := Stand.of_body Bd
  have e0 : s₁.heap = h0 := by rw [← hh, Bd.state]; rfl
  have N0 := Fr.nil n0
  show own_G p e below (own_P s (own_W n0 (fun v _ => v = some (.int 1))) room_1.cells room_1.slots) (s₁.setTop (entryFrame m #[(.int p0), (.int p1)] maxLocals))
  rw [own_rm0_ef m p0 p1]
  show own_G p e below _ (s₁.setTop (mkF m 0 #[.val (.int p0), .val (.int p1), .unset, .unset] []))
  refine own_via (fun t k => XS.bipush X0.here hx rfl (hb hby at_0) k) ?_
  show own_G p e below _ (s₁.setTop (mkF m 2 #[.val (.int p0), .val (.int p1), .unset, .unset] [(.int (18 : Int32))]))
  obtain ⟨T1, h1, k1, b1, X1, e1, E1, ga1, V1, Ex1, st1⟩ := own_newA X0 hx hZ (hw _ (List.mem_of_getElem? (i := 0) rfl)) e0 (pc := 2) (Ls := #[.val (.int p0), .val (.int p1), .unset, .unset]) (rest := []) (hb hby at_2) (n := (18 : Int32)) (by decide) (cap := 18) (by decide) (by decide) (by decide) (by decide) 18 rfl
  refine own_via st1 ?_
  have f2 : Arv Z h1 b1 k1 .int (18 : Int32) [(.int (0 : Int32)), (.int (0 : Int32)), (.int (0 : Int32)), (.int (0 : Int32)), (.int (0 : Int32)), (.int (0 : Int32)), (.int (0 : Int32)), (.int (0 : Int32)), (.int (0 : Int32)), (.int (0 : Int32)), (.int (0 : Int32)), (.int (0 : Int32)), (.int (0 : Int32)), (.int (0 : Int32)), (.int (0 : Int32)), (.int (0 : Int32)), (.int (0 : Int32)), (.int (0 : Int32))] (.int (0 : Int32)) := V1
  have g_b1 : n0 ≤ b1 := Nat.le_trans Z0 (Nat.le_of_eq ga1.symm)
  have Zs3 : n0 ≤ h1.size := Nat.le_trans Z0 E1.1
  show own_G p e below _ (T1.setTop (mkF m 4 #[.val (.int p0), .val (.int p1), .unset, .unset] [(.ref b1)]))
  refine own_via (fun t k => XS.dup X1.here hx rfl (hb hby at_4) rfl rfl k) ?_
  show own_G p e below _ (T1.setTop (mkF m 5 #[.val (.int p0), .val (.int p1), .unset, .unset] [(.ref b1), (.ref b1)]))
  refine own_via (fun t k => XS.iconst X1.here hx rfl (hb hby at_5) k) ?_
  show own_G p e below _ (T1.setTop (mkF m 6 #[.val (.int p0), .val (.int p1), .unset, .unset] [(.int (0 : Int32)), (.ref b1), (.ref b1)]))
  refine own_via (fun t k => XS.iconst X1.here hx rfl (hb hby at_6) k) ?_
  show own_G p e below _ (T1.setTop (mkF m 7 #[.val (.int p0), .val (.int p1), .unset, .unset] [(.int (0 : Int32)), (.int (0 : Int32)), (.ref b1), (.ref b1)]))
  obtain ⟨T4, h4, L4, X4, N4, e4, W4, V4, st4⟩ := own_stI X1 N0 hx hZ e1 f2 g_b1 (j := (0 : Int32)) (x := (0 : Int32)) (i := 0) ⟨by decide, by decide⟩ rfl (Nat.le_of_ble_eq_true rfl) (pc := 7) (Ls := #[.val (.int p0), .val (.int p1), .unset, .unset]) (rest := [(.ref b1)]) (hb hby at_7)
  refine own_via st4 ?_
  have f5 : Arv Z h4 b1 k1 .int (18 : Int32) [(.int (0 : Int32)), (.int (0 : Int32)), (.int (0 : Int32)), (.int (0 : Int32)), (.int (0 : Int32)), (.int (0 : Int32)), (.int (0 : Int32)), (.int (0 : Int32)), (.int (0 : Int32)), (.int (0 : Int32)), (.int (0 : Int32)), (.int (0 : Int32)), (.int (0 : Int32)), (.int (0 : Int32)), (.int (0 : Int32)), (.int (0 : Int32)), (.int (0 : Int32)), (.int (0 : Int32))] (.int (0 : Int32)) := V4
  have Zs6 : n0 ≤ h4.size := by rw [W4.size]; exact Zs3
  show own_G p e below _ (T4.setTop (mkF m 8 #[.val (.int p0), .val (.int p1), .unset, .unset] [(.ref b1)]))
  refine own_via (fun t k => XS.dup X4.here hx rfl (hb hby at_8) rfl rfl k) ?_
  show own_G p e below _ (T4.setTop (mkF m 9 #[.val (.int p0), .val (.int p1), .unset, .unset] [(.ref b1), (.ref b1)]))
  refine own_via (fun t k => XS.iconst X4.here hx rfl (hb hby at_9) k) ?_
  show own_G p e below _ (T4.setTop (mkF m 10 #[.val (.int p0), .val (.int p1), .unset, .unset] [(.int (1 : Int32)), (.ref b1), (.ref b1)]))
  refine own_via (fun t k => XS.bipush X4.here hx rfl (hb hby at_10) k) ?_
  show own_G p e below _ (T4.setTop (mkF m 12 #[.val (.int p0), .val (.int p1), .unset, .unset] [(.int (9 : Int32)), (.int (1 : Int32)), (.ref b1), (.ref b1)]))
  obtain ⟨T7, h7, L7, X7, N7, e7, W7, V7, st7⟩ := own_stI X4 N4 hx hZ e4 f5 g_b1 (j := (1 : Int32)) (x := (9 : Int32)) (i := 1) ⟨by decide, by decide⟩ rfl (Nat.le_of_ble_eq_true rfl) (pc := 12) (Ls := #[.val (.int p0), .val (.int p1), .unset, .unset]) (rest := [(.ref b1)]) (hb hby at_12)
  refine own_via st7 ?_
  have f8 : Arv Z h7 b1 k1 .int (18 : Int32) [(.int (0 : Int32)), (.int (9 : Int32)), (.int (0 : Int32)), (.int (0 : Int32)), (.int (0 : Int32)), (.int (0 : Int32)), (.int (0 : Int32)), (.int (0 : Int32)), (.int (0 : Int32)), (.int (0 : Int32)), (.int (0 : Int32)), (.int (0 : Int32)), (.int (0 : Int32)), (.int (0 : Int32)), (.int (0 : Int32)), (.int (0 : Int32)), (.int (0 : Int32)), (.int (0 : Int32))] (.int (0 : Int32)) := V7
  have Zs9 : n0 ≤ h7.size := by rw [W7.size]; exact Zs6
  show own_G p e below _ (T7.setTop (mkF m 13 #[.val (.int p0), .val (.int p1), .unset, .unset] [(.ref b1)]))
  refine own_via (fun t k => XS.dup X7.here hx rfl (hb hby at_13) rfl rfl k) ?_
  show own_G p e below _ (T7.setTop (mkF m 14 #[.val (.int p0), .val (.int p1), .unset, .unset] [(.ref b1), (.ref b1)]))
  refine own_via (fun t k => XS.iconst X7.here hx rfl (hb hby at_14) k) ?_
  show own_G p e below _ (T7.setTop (mkF m 15 #[.val (.int p0), .val (.int p1), .unset, .unset] [(.int (2 : Int32)), (.ref b1), (.ref b1)]))
  refine own_via (fun t k => XS.bipush X7.here hx rfl (hb hby at_15) k) ?_
  show own_G p e below _ (T7.setTop (mkF m 17 #[.val (.int p0), .val (.int p1), .unset, .unset] [(.int (10 : Int32)), (.int (2 : Int32)), (.ref b1), (.ref b1)]))
  obtain ⟨T10, h10, L10, X10, N10, e10, W10, V10, st10⟩ := own_stI X7 N7 hx hZ e7 f8 g_b1 (j := (2 : Int32)) (x := (10 : Int32)) (i := 2) ⟨by decide, by decide⟩ rfl (Nat.le_of_ble_eq_true rfl) (pc := 17) (Ls := #[.val (.int p0), .val (.int p1), .unset, .unset]) (rest := [(.ref b1)]) (hb hby at_17)
  refine own_via st10 ?_
  have f11 : Arv Z h10 b1 k1 .int (18 : Int32) [(.int (0 : Int32)), (.int (9 : Int32)), (.int (10 : Int32)), (.int (0 : Int32)), (.int (0 : Int32)), (.int (0 : Int32)), (.int (0 : Int32)), (.int (0 : Int32)), (.int (0 : Int32)), (.int (0 : Int32)), (.int (0 : Int32)), (.int (0 : Int32)), (.int (0 : Int32)), (.int (0 : Int32)), (.int (0 : Int32)), (.int (0 : Int32)), (.int (0 : Int32)), (.int (0 : Int32))] (.int (0 : Int32)) := V10
  have Zs12 : n0 ≤ h10.size := by rw [W10.size]; exact Zs9
  show own_G p e below _ (T10.setTop (mkF m 18 #[.val (.int p0), .val (.int p1), .unset, .unset] [(.ref b1)]))
  refine own_via (fun t k => XS.dup X10.here hx rfl (hb hby at_18) rfl rfl k) ?_
  show own_G p e below _ (T10.setTop (mkF m 19 #[.val (.int p0), .val (.int p1), .unset, .unset] [(.ref b1), (.ref b1)]))
  refine own_via (fun t k => XS.iconst X10.here hx rfl (hb hby at_19) k) ?_
  show own_G p e below _ (T10.setTop (mkF m 20 #[.val (.int p0), .val (.int p1), .unset, .unset] [(.int (3 : Int32)), (.ref b1), (.ref b1)]))
  refine own_via (fun t k => XS.bipush X10.here hx rfl (hb hby at_20) k) ?_
  show own_G p e below _ (T10.setTop (mkF m 22 #[.val (.int p0), .val (.int p1), .unset, .unset] [(.int (13 : Int32)), (.int (3 : Int32)), (.ref b1), (.ref b1)]))
  obtain ⟨T13, h13, L13, X13, N13, e13, W13, V13, st13⟩ := own_stI X10 N10 hx hZ e10 f11 g_b1 (j := (3 : Int32)) (x := (13 : Int32)) (i := 3) ⟨by decide, by decide⟩ rfl (Nat.le_of_ble_eq_true rfl) (pc := 22) (Ls := #[.val (.int p0), .val (.int p1), .unset, .unset]) (rest := [(.ref b1)]) (hb hby at_22)
  refine own_via st13 ?_
  have f14 : Arv Z h13 b1 k1 .int (18 : Int32) [(.int (0 : Int32)), (.int (9 : Int32)), (.int (10 : Int32)), (.int (13 : Int32)), (.int (0 : Int32)), (.int (0 : Int32)), (.int (0 : Int32)), (.int (0 : Int32)), (.int (0 : Int32)), (.int (0 : Int32)), (.int (0 : Int32)), (.int (0 : Int32)), (.int (0 : Int32)), (.int (0 : Int32)), (.int (0 : Int32)), (.int (0 : Int32)), (.int (0 : Int32)), (.int (0 : Int32))] (.int (0 : Int32)) := V13
  have Zs15 : n0 ≤ h13.size := by rw [W13.size]; exact Zs12
  show own_G p e below _ (T13.setTop (mkF m 23 #[.val (.int p0), .val (.int p1), .unset, .unset] [(.ref b1)]))
  refine own_via (fun t k => XS.dup X13.here hx rfl (hb hby at_23) rfl rfl k) ?_
  show own_G p e below _ (T13.setTop (mkF m 24 #[.val (.int p0), .val (.int p1), .unset, .unset] [(.ref b1), (.ref b1)]))
  refine own_via (fun t k => XS.iconst X13.here hx rfl (hb hby at_24) k) ?_
  show own_G p e below _ (T13.setTop (mkF m 25 #[.val (.int p0), .val (.int p1), .unset, .unset] [(.int (4 : Int32)), (.ref b1), (.ref b1)]))
  refine own_via (fun t k => XS.bipush X13.here hx rfl (hb hby at_25) k) ?_
  show own_G p e below _ (T13.setTop (mkF m 27 #[.val (.int p0), .val (.int p1), .unset, .unset] [(.int (32 : Int32)), (.int (4 : Int32)), (.ref b1), (.ref b1)]))
  obtain ⟨T16, h16, L16, X16, N16, e16, W16, V16, st16⟩ := own_stI X13 N13 hx hZ e13 f14 g_b1 (j := (4 : Int32)) (x := (32 : Int32)) (i := 4) ⟨by decide, by decide⟩ rfl (Nat.le_of_ble_eq_true rfl) (pc := 27) (Ls := #[.val (.int p0), .val (.int p1), .unset, .unset]) (rest := [(.ref b1)]) (hb hby at_27)
  refine own_via st16 ?_
  have f17 : Arv Z h16 b1 k1 .int (18 : Int32) [(.int (0 : Int32)), (.int (9 : Int32)), (.int (10 : Int32)), (.int (13 : Int32)), (.int (32 : Int32)), (.int (0 : Int32)), (.int (0 : Int32)), (.int (0 : Int32)), (.int (0 : Int32)), (.int (0 : Int32)), (.int (0 : Int32)), (.int (0 : Int32)), (.int (0 : Int32)), (.int (0 : Int32)), (.int (0 : Int32)), (.int (0 : Int32)), (.int (0 : Int32)), (.int (0 : Int32))] (.int (0 : Int32)) := V16
  have Zs18 : n0 ≤ h16.size := by rw [W16.size]; exact Zs15
  show own_G p e below _ (T16.setTop (mkF m 28 #[.val (.int p0), .val (.int p1), .unset, .unset] [(.ref b1)]))
  refine own_via (fun t k => XS.dup X16.here hx rfl (hb hby at_28) rfl rfl k) ?_
  show own_G p e below _ (T16.setTop (mkF m 29 #[.val (.int p0), .val (.int p1), .unset, .unset] [(.ref b1), (.ref b1)]))
  refine own_via (fun t k => XS.iconst X16.here hx rfl (hb hby at_29) k) ?_
  show own_G p e below _ (T16.setTop (mkF m 30 #[.val (.int p0), .val (.int p1), .unset, .unset] [(.int (5 : Int32)), (.ref b1), (.ref b1)]))
  refine own_via (X16.ldcInt hx hown (mvT hZ (hw _ (List.mem_of_getElem? (i := 1) rfl))) (g := (mkF m 30 #[.val (.int p0), .val (.int p1), .unset, .unset] [(.int (5 : Int32)), (.ref b1), (.ref b1)])) rfl (hb hby at_30)) ?_
  show own_G p e below _ (T16.setTop (mkF m 32 #[.val (.int p0), .val (.int p1), .unset, .unset] [(.int (55295 : Int32)), (.int (5 : Int32)), (.ref b1), (.ref b1)]))
  obtain ⟨T19, h19, L19, X19, N19, e19, W19, V19, st19⟩ := own_stI X16 N16 hx hZ e16 f17 g_b1 (j := (5 : Int32)) (x := (55295 : Int32)) (i := 5) ⟨by decide, by decide⟩ rfl (Nat.le_of_ble_eq_true rfl) (pc := 32) (Ls := #[.val (.int p0), .val (.int p1), .unset, .unset]) (rest := [(.ref b1)]) (hb hby at_32)
  refine own_via st19 ?_
  have f20 : Arv Z h19 b1 k1 .int (18 : Int32) [(.int (0 : Int32)), (.int (9 : Int32)), (.int (10 : Int32)), (.int (13 : Int32)), (.int (32 : Int32)), (.int (55295 : Int32)), (.int (0 : Int32)), (.int (0 : Int32)), (.int (0 : Int32)), (.int (0 : Int32)), (.int (0 : Int32)), (.int (0 : Int32)), (.int (0 : Int32)), (.int (0 : Int32)), (.int (0 : Int32)), (.int (0 : Int32)), (.int (0 : Int32)), (.int (0 : Int32))] (.int (0 : Int32)) := V19
  have Zs21 : n0 ≤ h19.size := by rw [W19.size]; exact Zs18
  show own_G p e below _ (T19.setTop (mkF m 33 #[.val (.int p0), .val (.int p1), .unset, .unset] [(.ref b1)]))
  refine own_via (fun t k => XS.dup X19.here hx rfl (hb hby at_33) rfl rfl k) ?_
  show own_G p e below _ (T19.setTop (mkF m 34 #[.val (.int p0), .val (.int p1), .unset, .unset] [(.ref b1), (.ref b1)]))
  refine own_via (fun t k => XS.bipush X19.here hx rfl (hb hby at_34) k) ?_
  show own_G p e below _ (T19.setTop (mkF m 36 #[.val (.int p0), .val (.int p1), .unset, .unset] [(.int (6 : Int32)), (.ref b1), (.ref b1)]))
  refine own_via (X19.ldcInt hx hown (mvT hZ (hw _ (List.mem_of_getElem? (i := 2) rfl))) (g := (mkF m 36 #[.val (.int p0), .val (.int p1), .unset, .unset] [(.int (6 : Int32)), (.ref b1), (.ref b1)])) rfl (hb hby at_36)) ?_
  show own_G p e below _ (T19.setTop (mkF m 38 #[.val (.int p0), .val (.int p1), .unset, .unset] [(.int (55296 : Int32)), (.int (6 : Int32)), (.ref b1), (.ref b1)]))
  obtain ⟨T22, h22, L22, X22, N22, e22, W22, V22, st22⟩ := own_stI X19 N19 hx hZ e19 f20 g_b1 (j := (6 : Int32)) (x := (55296 : Int32)) (i := 6) ⟨by decide, by decide⟩ rfl (Nat.le_of_ble_eq_true rfl) (pc := 38) (Ls := #[.val (.int p0), .val (.int p1), .unset, .unset]) (rest := [(.ref b1)]) (hb hby at_38)
  refine own_via st22 ?_
  have f23 : Arv Z h22 b1 k1 .int (18 : Int32) [(.int (0 : Int32)), (.int (9 : Int32)), (.int (10 : Int32)), (.int (13 : Int32)), (.int (32 : Int32)), (.int (55295 : Int32)), (.int (55296 : Int32)), (.int (0 : Int32)), (.int (0 : Int32)), (.int (0 : Int32)), (.int (0 : Int32)), (.int (0 : Int32)), (.int (0 : Int32)), (.int (0 : Int32)), (.int (0 : Int32)), (.int (0 : Int32)), (.int (0 : Int32)), (.int (0 : Int32))] (.int (0 : Int32)) := V22
  have Zs24 : n0 ≤ h22.size := by rw [W22.size]; exact Zs21
  show own_G p e below _ (T22.setTop (mkF m 39 #[.val (.int p0), .val (.int p1), .unset, .unset] [(.ref b1)]))
  refine own_via (fun t k => XS.dup X22.here hx rfl (hb hby at_39) rfl rfl k) ?_
  show own_G p e below _ (T22.setTop (mkF m 40 #[.val (.int p0), .val (.int p1), .unset, .unset] [(.ref b1), (.ref b1)]))
  refine own_via (fun t k => XS.bipush X22.here hx rfl (hb hby at_40) k) ?_
  show own_G p e below _ (T22.setTop (mkF m 42 #[.val (.int p0), .val (.int p1), .unset, .unset] [(.int (7 : Int32)), (.ref b1), (.ref b1)]))
  refine own_via (X22.ldcInt hx hown (mvT hZ (hw _ (List.mem_of_getElem? (i := 3) rfl))) (g := (mkF m 42 #[.val (.int p0), .val (.int p1), .unset, .unset] [(.int (7 : Int32)), (.ref b1), (.ref b1)])) rfl (hb hby at_42)) ?_
  show own_G p e below _ (T22.setTop (mkF m 44 #[.val (.int p0), .val (.int p1), .unset, .unset] [(.int (57343 : Int32)), (.int (7 : Int32)), (.ref b1), (.ref b1)]))
  obtain ⟨T25, h25, L25, X25, N25, e25, W25, V25, st25⟩ := own_stI X22 N22 hx hZ e22 f23 g_b1 (j := (7 : Int32)) (x := (57343 : Int32)) (i := 7) ⟨by decide, by decide⟩ rfl (Nat.le_of_ble_eq_true rfl) (pc := 44) (Ls := #[.val (.int p0), .val (.int p1), .unset, .unset]) (rest := [(.ref b1)]) (hb hby at_44)
  refine own_via st25 ?_
  have f26 : Arv Z h25 b1 k1 .int (18 : Int32) [(.int (0 : Int32)), (.int (9 : Int32)), (.int (10 : Int32)), (.int (13 : Int32)), (.int (32 : Int32)), (.int (55295 : Int32)), (.int (55296 : Int32)), (.int (57343 : Int32)), (.int (0 : Int32)), (.int (0 : Int32)), (.int (0 : Int32)), (.int (0 : Int32)), (.int (0 : Int32)), (.int (0 : Int32)), (.int (0 : Int32)), (.int (0 : Int32)), (.int (0 : Int32)), (.int (0 : Int32))] (.int (0 : Int32)) := V25
  have Zs27 : n0 ≤ h25.size := by rw [W25.size]; exact Zs24
  show own_G p e below _ (T25.setTop (mkF m 45 #[.val (.int p0), .val (.int p1), .unset, .unset] [(.ref b1)]))
  refine own_via (fun t k => XS.dup X25.here hx rfl (hb hby at_45) rfl rfl k) ?_
  show own_G p e below _ (T25.setTop (mkF m 46 #[.val (.int p0), .val (.int p1), .unset, .unset] [(.ref b1), (.ref b1)]))
  refine own_via (fun t k => XS.bipush X25.here hx rfl (hb hby at_46) k) ?_
  show own_G p e below _ (T25.setTop (mkF m 48 #[.val (.int p0), .val (.int p1), .unset, .unset] [(.int (8 : Int32)), (.ref b1), (.ref b1)]))
  refine own_via (X25.ldcInt hx hown (mvT hZ (hw _ (List.mem_of_getElem? (i := 4) rfl))) (g := (mkF m 48 #[.val (.int p0), .val (.int p1), .unset, .unset] [(.int (8 : Int32)), (.ref b1), (.ref b1)])) rfl (hb hby at_48)) ?_
  show own_G p e below _ (T25.setTop (mkF m 50 #[.val (.int p0), .val (.int p1), .unset, .unset] [(.int (57344 : Int32)), (.int (8 : Int32)), (.ref b1), (.ref b1)]))
  obtain ⟨T28, h28, L28, X28, N28, e28, W28, V28, st28⟩ := own_stI X25 N25 hx hZ e25 f26 g_b1 (j := (8 : Int32)) (x := (57344 : Int32)) (i := 8) ⟨by decide, by decide⟩ rfl (Nat.le_of_ble_eq_true rfl) (pc := 50) (Ls := #[.val (.int p0), .val (.int p1), .unset, .unset]) (rest := [(.ref b1)]) (hb hby at_50)
  refine own_via st28 ?_
  have f29 : Arv Z h28 b1 k1 .int (18 : Int32) [(.int (0 : Int32)), (.int (9 : Int32)), (.int (10 : Int32)), (.int (13 : Int32)), (.int (32 : Int32)), (.int (55295 : Int32)), (.int (55296 : Int32)), (.int (57343 : Int32)), (.int (57344 : Int32)), (.int (0 : Int32)), (.int (0 : Int32)), (.int (0 : Int32)), (.int (0 : Int32)), (.int (0 : Int32)), (.int (0 : Int32)), (.int (0 : Int32)), (.int (0 : Int32)), (.int (0 : Int32))] (.int (0 : Int32)) := V28
  have Zs30 : n0 ≤ h28.size := by rw [W28.size]; exact Zs27
  show own_G p e below _ (T28.setTop (mkF m 51 #[.val (.int p0), .val (.int p1), .unset, .unset] [(.ref b1)]))
  refine own_via (fun t k => XS.dup X28.here hx rfl (hb hby at_51) rfl rfl k) ?_
  show own_G p e below _ (T28.setTop (mkF m 52 #[.val (.int p0), .val (.int p1), .unset, .unset] [(.ref b1), (.ref b1)]))
  refine own_via (fun t k => XS.bipush X28.here hx rfl (hb hby at_52) k) ?_
  show own_G p e below _ (T28.setTop (mkF m 54 #[.val (.int p0), .val (.int p1), .unset, .unset] [(.int (9 : Int32)), (.ref b1), (.ref b1)]))
  refine own_via (X28.ldcInt hx hown (mvT hZ (hw _ (List.mem_of_getElem? (i := 5) rfl))) (g := (mkF m 54 #[.val (.int p0), .val (.int p1), .unset, .unset] [(.int (9 : Int32)), (.ref b1), (.ref b1)])) rfl (hb hby at_54)) ?_
  show own_G p e below _ (T28.setTop (mkF m 56 #[.val (.int p0), .val (.int p1), .unset, .unset] [(.int (65533 : Int32)), (.int (9 : Int32)), (.ref b1), (.ref b1)]))
  obtain ⟨T31, h31, L31, X31, N31, e31, W31, V31, st31⟩ := own_stI X28 N28 hx hZ e28 f29 g_b1 (j := (9 : Int32)) (x := (65533 : Int32)) (i := 9) ⟨by decide, by decide⟩ rfl (Nat.le_of_ble_eq_true rfl) (pc := 56) (Ls := #[.val (.int p0), .val (.int p1), .unset, .unset]) (rest := [(.ref b1)]) (hb hby at_56)
  refine own_via st31 ?_
  have f32 : Arv Z h31 b1 k1 .int (18 : Int32) [(.int (0 : Int32)), (.int (9 : Int32)), (.int (10 : Int32)), (.int (13 : Int32)), (.int (32 : Int32)), (.int (55295 : Int32)), (.int (55296 : Int32)), (.int (57343 : Int32)), (.int (57344 : Int32)), (.int (65533 : Int32)), (.int (0 : Int32)), (.int (0 : Int32)), (.int (0 : Int32)), (.int (0 : Int32)), (.int (0 : Int32)), (.int (0 : Int32)), (.int (0 : Int32)), (.int (0 : Int32))] (.int (0 : Int32)) := V31
  have Zs33 : n0 ≤ h31.size := by rw [W31.size]; exact Zs30
  show own_G p e below _ (T31.setTop (mkF m 57 #[.val (.int p0), .val (.int p1), .unset, .unset] [(.ref b1)]))
  refine own_via (fun t k => XS.dup X31.here hx rfl (hb hby at_57) rfl rfl k) ?_
  show own_G p e below _ (T31.setTop (mkF m 58 #[.val (.int p0), .val (.int p1), .unset, .unset] [(.ref b1), (.ref b1)]))
  refine own_via (fun t k => XS.bipush X31.here hx rfl (hb hby at_58) k) ?_
  show own_G p e below _ (T31.setTop (mkF m 60 #[.val (.int p0), .val (.int p1), .unset, .unset] [(.int (10 : Int32)), (.ref b1), (.ref b1)]))
  refine own_via (X31.ldcInt hx hown (mvT hZ (hw _ (List.mem_of_getElem? (i := 6) rfl))) (g := (mkF m 60 #[.val (.int p0), .val (.int p1), .unset, .unset] [(.int (10 : Int32)), (.ref b1), (.ref b1)])) rfl (hb hby at_60)) ?_
  show own_G p e below _ (T31.setTop (mkF m 62 #[.val (.int p0), .val (.int p1), .unset, .unset] [(.int (65534 : Int32)), (.int (10 : Int32)), (.ref b1), (.ref b1)]))
  obtain ⟨T34, h34, L34, X34, N34, e34, W34, V34, st34⟩ := own_stI X31 N31 hx hZ e31 f32 g_b1 (j := (10 : Int32)) (x := (65534 : Int32)) (i := 10) ⟨by decide, by decide⟩ rfl (Nat.le_of_ble_eq_true rfl) (pc := 62) (Ls := #[.val (.int p0), .val (.int p1), .unset, .unset]) (rest := [(.ref b1)]) (hb hby at_62)
  refine own_via st34 ?_
  have f35 : Arv Z h34 b1 k1 .int (18 : Int32) [(.int (0 : Int32)), (.int (9 : Int32)), (.int (10 : Int32)), (.int (13 : Int32)), (.int (32 : Int32)), (.int (55295 : Int32)), (.int (55296 : Int32)), (.int (57343 : Int32)), (.int (57344 : Int32)), (.int (65533 : Int32)), (.int (65534 : Int32)), (.int (0 : Int32)), (.int (0 : Int32)), (.int (0 : Int32)), (.int (0 : Int32)), (.int (0 : Int32)), (.int (0 : Int32)), (.int (0 : Int32))] (.int (0 : Int32)) := V34
  have Zs36 : n0 ≤ h34.size := by rw [W34.size]; exact Zs33
  show own_G p e below _ (T34.setTop (mkF m 63 #[.val (.int p0), .val (.int p1), .unset, .unset] [(.ref b1)]))
  refine own_via (fun t k => XS.dup X34.here hx rfl (hb hby at_63) rfl rfl k) ?_
  show own_G p e below _ (T34.setTop (mkF m 64 #[.val (.int p0), .val (.int p1), .unset, .unset] [(.ref b1), (.ref b1)]))
  refine own_via (fun t k => XS.bipush X34.here hx rfl (hb hby at_64) k) ?_
  show own_G p e below _ (T34.setTop (mkF m 66 #[.val (.int p0), .val (.int p1), .unset, .unset] [(.int (11 : Int32)), (.ref b1), (.ref b1)]))
  refine own_via (X34.ldcInt hx hown (mvT hZ (hw _ (List.mem_of_getElem? (i := 7) rfl))) (g := (mkF m 66 #[.val (.int p0), .val (.int p1), .unset, .unset] [(.int (11 : Int32)), (.ref b1), (.ref b1)])) rfl (hb hby at_66)) ?_
  show own_G p e below _ (T34.setTop (mkF m 68 #[.val (.int p0), .val (.int p1), .unset, .unset] [(.int (65535 : Int32)), (.int (11 : Int32)), (.ref b1), (.ref b1)]))
  obtain ⟨T37, h37, L37, X37, N37, e37, W37, V37, st37⟩ := own_stI X34 N34 hx hZ e34 f35 g_b1 (j := (11 : Int32)) (x := (65535 : Int32)) (i := 11) ⟨by decide, by decide⟩ rfl (Nat.le_of_ble_eq_true rfl) (pc := 68) (Ls := #[.val (.int p0), .val (.int p1), .unset, .unset]) (rest := [(.ref b1)]) (hb hby at_68)
  refine own_via st37 ?_
  have f38 : Arv Z h37 b1 k1 .int (18 : Int32) [(.int (0 : Int32)), (.int (9 : Int32)), (.int (10 : Int32)), (.int (13 : Int32)), (.int (32 : Int32)), (.int (55295 : Int32)), (.int (55296 : Int32)), (.int (57343 : Int32)), (.int (57344 : Int32)), (.int (65533 : Int32)), (.int (65534 : Int32)), (.int (65535 : Int32)), (.int (0 : Int32)), (.int (0 : Int32)), (.int (0 : Int32)), (.int (0 : Int32)), (.int (0 : Int32)), (.int (0 : Int32))] (.int (0 : Int32)) := V37
  have Zs39 : n0 ≤ h37.size := by rw [W37.size]; exact Zs36
  show own_G p e below _ (T37.setTop (mkF m 69 #[.val (.int p0), .val (.int p1), .unset, .unset] [(.ref b1)]))
  refine own_via (fun t k => XS.dup X37.here hx rfl (hb hby at_69) rfl rfl k) ?_
  show own_G p e below _ (T37.setTop (mkF m 70 #[.val (.int p0), .val (.int p1), .unset, .unset] [(.ref b1), (.ref b1)]))
  refine own_via (fun t k => XS.bipush X37.here hx rfl (hb hby at_70) k) ?_
  show own_G p e below _ (T37.setTop (mkF m 72 #[.val (.int p0), .val (.int p1), .unset, .unset] [(.int (12 : Int32)), (.ref b1), (.ref b1)]))
  refine own_via (X37.ldcInt hx hown (mvT hZ (hw _ (List.mem_of_getElem? (i := 8) rfl))) (g := (mkF m 72 #[.val (.int p0), .val (.int p1), .unset, .unset] [(.int (12 : Int32)), (.ref b1), (.ref b1)])) rfl (hb hby at_72)) ?_
  show own_G p e below _ (T37.setTop (mkF m 74 #[.val (.int p0), .val (.int p1), .unset, .unset] [(.int (65536 : Int32)), (.int (12 : Int32)), (.ref b1), (.ref b1)]))
  obtain ⟨T40, h40, L40, X40, N40, e40, W40, V40, st40⟩ := own_stI X37 N37 hx hZ e37 f38 g_b1 (j := (12 : Int32)) (x := (65536 : Int32)) (i := 12) ⟨by decide, by decide⟩ rfl (Nat.le_of_ble_eq_true rfl) (pc := 74) (Ls := #[.val (.int p0), .val (.int p1), .unset, .unset]) (rest := [(.ref b1)]) (hb hby at_74)
  refine own_via st40 ?_
  have f41 : Arv Z h40 b1 k1 .int (18 : Int32) [(.int (0 : Int32)), (.int (9 : Int32)), (.int (10 : Int32)), (.int (13 : Int32)), (.int (32 : Int32)), (.int (55295 : Int32)), (.int (55296 : Int32)), (.int (57343 : Int32)), (.int (57344 : Int32)), (.int (65533 : Int32)), (.int (65534 : Int32)), (.int (65535 : Int32)), (.int (65536 : Int32)), (.int (0 : Int32)), (.int (0 : Int32)), (.int (0 : Int32)), (.int (0 : Int32)), (.int (0 : Int32))] (.int (0 : Int32)) := V40
  have Zs42 : n0 ≤ h40.size := by rw [W40.size]; exact Zs39
  show own_G p e below _ (T40.setTop (mkF m 75 #[.val (.int p0), .val (.int p1), .unset, .unset] [(.ref b1)]))
  refine own_via (fun t k => XS.dup X40.here hx rfl (hb hby at_75) rfl rfl k) ?_
  show own_G p e below _ (T40.setTop (mkF m 76 #[.val (.int p0), .val (.int p1), .unset, .unset] [(.ref b1), (.ref b1)]))
  refine own_via (fun t k => XS.bipush X40.here hx rfl (hb hby at_76) k) ?_
  show own_G p e below _ (T40.setTop (mkF m 78 #[.val (.int p0), .val (.int p1), .unset, .unset] [(.int (13 : Int32)), (.ref b1), (.ref b1)]))
  refine own_via (X40.ldcInt hx hown (mvT hZ (hw _ (List.mem_of_getElem? (i := 9) rfl))) (g := (mkF m 78 #[.val (.int p0), .val (.int p1), .unset, .unset] [(.int (13 : Int32)), (.ref b1), (.ref b1)])) rfl (hb hby at_78)) ?_
  show own_G p e below _ (T40.setTop (mkF m 80 #[.val (.int p0), .val (.int p1), .unset, .unset] [(.int (1114111 : Int32)), (.int (13 : Int32)), (.ref b1), (.ref b1)]))
  obtain ⟨T43, h43, L43, X43, N43, e43, W43, V43, st43⟩ := own_stI X40 N40 hx hZ e40 f41 g_b1 (j := (13 : Int32)) (x := (1114111 : Int32)) (i := 13) ⟨by decide, by decide⟩ rfl (Nat.le_of_ble_eq_true rfl) (pc := 80) (Ls := #[.val (.int p0), .val (.int p1), .unset, .unset]) (rest := [(.ref b1)]) (hb hby at_80)
  refine own_via st43 ?_
  have f44 : Arv Z h43 b1 k1 .int (18 : Int32) [(.int (0 : Int32)), (.int (9 : Int32)), (.int (10 : Int32)), (.int (13 : Int32)), (.int (32 : Int32)), (.int (55295 : Int32)), (.int (55296 : Int32)), (.int (57343 : Int32)), (.int (57344 : Int32)), (.int (65533 : Int32)), (.int (65534 : Int32)), (.int (65535 : Int32)), (.int (65536 : Int32)), (.int (1114111 : Int32)), (.int (0 : Int32)), (.int (0 : Int32)), (.int (0 : Int32)), (.int (0 : Int32))] (.int (0 : Int32)) := V43
  have Zs45 : n0 ≤ h43.size := by rw [W43.size]; exact Zs42
  show own_G p e below _ (T43.setTop (mkF m 81 #[.val (.int p0), .val (.int p1), .unset, .unset] [(.ref b1)]))
  refine own_via (fun t k => XS.dup X43.here hx rfl (hb hby at_81) rfl rfl k) ?_
  show own_G p e below _ (T43.setTop (mkF m 82 #[.val (.int p0), .val (.int p1), .unset, .unset] [(.ref b1), (.ref b1)]))
  refine own_via (fun t k => XS.bipush X43.here hx rfl (hb hby at_82) k) ?_
  show own_G p e below _ (T43.setTop (mkF m 84 #[.val (.int p0), .val (.int p1), .unset, .unset] [(.int (14 : Int32)), (.ref b1), (.ref b1)]))
  refine own_via (X43.ldcInt hx hown (mvT hZ (hw _ (List.mem_of_getElem? (i := 10) rfl))) (g := (mkF m 84 #[.val (.int p0), .val (.int p1), .unset, .unset] [(.int (14 : Int32)), (.ref b1), (.ref b1)])) rfl (hb hby at_84)) ?_
  show own_G p e below _ (T43.setTop (mkF m 86 #[.val (.int p0), .val (.int p1), .unset, .unset] [(.int (1114112 : Int32)), (.int (14 : Int32)), (.ref b1), (.ref b1)]))
  obtain ⟨T46, h46, L46, X46, N46, e46, W46, V46, st46⟩ := own_stI X43 N43 hx hZ e43 f44 g_b1 (j := (14 : Int32)) (x := (1114112 : Int32)) (i := 14) ⟨by decide, by decide⟩ rfl (Nat.le_of_ble_eq_true rfl) (pc := 86) (Ls := #[.val (.int p0), .val (.int p1), .unset, .unset]) (rest := [(.ref b1)]) (hb hby at_86)
  refine own_via st46 ?_
  have f47 : Arv Z h46 b1 k1 .int (18 : Int32) [(.int (0 : Int32)), (.int (9 : Int32)), (.int (10 : Int32)), (.int (13 : Int32)), (.int (32 : Int32)), (.int (55295 : Int32)), (.int (55296 : Int32)), (.int (57343 : Int32)), (.int (57344 : Int32)), (.int (65533 : Int32)), (.int (65534 : Int32)), (.int (65535 : Int32)), (.int (65536 : Int32)), (.int (1114111 : Int32)), (.int (1114112 : Int32)), (.int (0 : Int32)), (.int (0 : Int32)), (.int (0 : Int32))] (.int (0 : Int32)) := V46
  have Zs48 : n0 ≤ h46.size := by rw [W46.size]; exact Zs45
  show own_G p e below _ (T46.setTop (mkF m 87 #[.val (.int p0), .val (.int p1), .unset, .unset] [(.ref b1)]))
  refine own_via (fun t k => XS.dup X46.here hx rfl (hb hby at_87) rfl rfl k) ?_
  show own_G p e below _ (T46.setTop (mkF m 88 #[.val (.int p0), .val (.int p1), .unset, .unset] [(.ref b1), (.ref b1)]))
  refine own_via (fun t k => XS.bipush X46.here hx rfl (hb hby at_88) k) ?_
  show own_G p e below _ (T46.setTop (mkF m 90 #[.val (.int p0), .val (.int p1), .unset, .unset] [(.int (15 : Int32)), (.ref b1), (.ref b1)]))
  refine own_via (X46.ldcInt hx hown (mvT hZ (hw _ (List.mem_of_getElem? (i := 11) rfl))) (g := (mkF m 90 #[.val (.int p0), .val (.int p1), .unset, .unset] [(.int (15 : Int32)), (.ref b1), (.ref b1)])) rfl (hb hby at_90)) ?_
  show own_G p e below _ (T46.setTop (mkF m 92 #[.val (.int p0), .val (.int p1), .unset, .unset] [(.int (-2147483648 : Int32)), (.int (15 : Int32)), (.ref b1), (.ref b1)]))
  obtain ⟨T49, h49, L49, X49, N49, e49, W49, V49, st49⟩ := own_stI X46 N46 hx hZ e46 f47 g_b1 (j := (15 : Int32)) (x := (-2147483648 : Int32)) (i := 15) ⟨by decide, by decide⟩ rfl (Nat.le_of_ble_eq_true rfl) (pc := 92) (Ls := #[.val (.int p0), .val (.int p1), .unset, .unset]) (rest := [(.ref b1)]) (hb hby at_92)
  refine own_via st49 ?_
  have f50 : Arv Z h49 b1 k1 .int (18 : Int32) [(.int (0 : Int32)), (.int (9 : Int32)), (.int (10 : Int32)), (.int (13 : Int32)), (.int (32 : Int32)), (.int (55295 : Int32)), (.int (55296 : Int32)), (.int (57343 : Int32)), (.int (57344 : Int32)), (.int (65533 : Int32)), (.int (65534 : Int32)), (.int (65535 : Int32)), (.int (65536 : Int32)), (.int (1114111 : Int32)), (.int (1114112 : Int32)), (.int (-2147483648 : Int32)), (.int (0 : Int32)), (.int (0 : Int32))] (.int (0 : Int32)) := V49
  have Zs51 : n0 ≤ h49.size := by rw [W49.size]; exact Zs48
  show own_G p e below _ (T49.setTop (mkF m 93 #[.val (.int p0), .val (.int p1), .unset, .unset] [(.ref b1)]))
  refine own_via (fun t k => XS.dup X49.here hx rfl (hb hby at_93) rfl rfl k) ?_
  show own_G p e below _ (T49.setTop (mkF m 94 #[.val (.int p0), .val (.int p1), .unset, .unset] [(.ref b1), (.ref b1)]))
  refine own_via (fun t k => XS.bipush X49.here hx rfl (hb hby at_94) k) ?_
  show own_G p e below _ (T49.setTop (mkF m 96 #[.val (.int p0), .val (.int p1), .unset, .unset] [(.int (16 : Int32)), (.ref b1), (.ref b1)]))
  refine own_via (X49.ldcInt hx hown (mvT hZ (hw _ (List.mem_of_getElem? (i := 12) rfl))) (g := (mkF m 96 #[.val (.int p0), .val (.int p1), .unset, .unset] [(.int (16 : Int32)), (.ref b1), (.ref b1)])) rfl (hb hby at_96)) ?_
  show own_G p e below _ (T49.setTop (mkF m 98 #[.val (.int p0), .val (.int p1), .unset, .unset] [(.int (2147483647 : Int32)), (.int (16 : Int32)), (.ref b1), (.ref b1)]))
  obtain ⟨T52, h52, L52, X52, N52, e52, W52, V52, st52⟩ := own_stI X49 N49 hx hZ e49 f50 g_b1 (j := (16 : Int32)) (x := (2147483647 : Int32)) (i := 16) ⟨by decide, by decide⟩ rfl (Nat.le_of_ble_eq_true rfl) (pc := 98) (Ls := #[.val (.int p0), .val (.int p1), .unset, .unset]) (rest := [(.ref b1)]) (hb hby at_98)
  refine own_via st52 ?_
  have f53 : Arv Z h52 b1 k1 .int (18 : Int32) [(.int (0 : Int32)), (.int (9 : Int32)), (.int (10 : Int32)), (.int (13 : Int32)), (.int (32 : Int32)), (.int (55295 : Int32)), (.int (55296 : Int32)), (.int (57343 : Int32)), (.int (57344 : Int32)), (.int (65533 : Int32)), (.int (65534 : Int32)), (.int (65535 : Int32)), (.int (65536 : Int32)), (.int (1114111 : Int32)), (.int (1114112 : Int32)), (.int (-2147483648 : Int32)), (.int (2147483647 : Int32)), (.int (0 : Int32))] (.int (0 : Int32)) := V52
  have Zs54 : n0 ≤ h52.size := by rw [W52.size]; exact Zs51
  show own_G p e below _ (T52.setTop (mkF m 99 #[.val (.int p0), .val (.int p1), .unset, .unset] [(.ref b1)]))
  refine own_via (fun t k => XS.dup X52.here hx rfl (hb hby at_99) rfl rfl k) ?_
  show own_G p e below _ (T52.setTop (mkF m 100 #[.val (.int p0), .val (.int p1), .unset, .unset] [(.ref b1), (.ref b1)]))
  refine own_via (fun t k => XS.bipush X52.here hx rfl (hb hby at_100) k) ?_
  show own_G p e below _ (T52.setTop (mkF m 102 #[.val (.int p0), .val (.int p1), .unset, .unset] [(.int (17 : Int32)), (.ref b1), (.ref b1)]))
  refine own_via (fun t k => XS.iconst X52.here hx rfl (hb hby at_102) k) ?_
  show own_G p e below _ (T52.setTop (mkF m 103 #[.val (.int p0), .val (.int p1), .unset, .unset] [(.int (-1 : Int32)), (.int (17 : Int32)), (.ref b1), (.ref b1)]))
  obtain ⟨T55, h55, L55, X55, N55, e55, W55, V55, st55⟩ := own_stI X52 N52 hx hZ e52 f53 g_b1 (j := (17 : Int32)) (x := (-1 : Int32)) (i := 17) ⟨by decide, by decide⟩ rfl (Nat.le_of_ble_eq_true rfl) (pc := 103) (Ls := #[.val (.int p0), .val (.int p1), .unset, .unset]) (rest := [(.ref b1)]) (hb hby at_103)
  refine own_via st55 ?_
  have f56 : Arv Z h55 b1 k1 .int (18 : Int32) [(.int (0 : Int32)), (.int (9 : Int32)), (.int (10 : Int32)), (.int (13 : Int32)), (.int (32 : Int32)), (.int (55295 : Int32)), (.int (55296 : Int32)), (.int (57343 : Int32)), (.int (57344 : Int32)), (.int (65533 : Int32)), (.int (65534 : Int32)), (.int (65535 : Int32)), (.int (65536 : Int32)), (.int (1114111 : Int32)), (.int (1114112 : Int32)), (.int (-2147483648 : Int32)), (.int (2147483647 : Int32)), (.int (-1 : Int32))] (.int (0 : Int32)) := V55
  have Zs57 : n0 ≤ h55.size := by rw [W55.size]; exact Zs54
  show own_G p e below _ (T55.setTop (mkF m 104 #[.val (.int p0), .val (.int p1), .unset, .unset] [(.ref b1)]))
  refine own_via (fun t k => XS.astoreN X55.here hx rfl (hb hby at_104) rfl rfl (l' := #[.val (.int p0), .val (.int p1), .val (.ref b1), .unset]) rfl k) ?_
  show own_G p e below _ (T55.setTop (mkF m 105 #[.val (.int p0), .val (.int p1), .val (.ref b1), .unset] []))
  refine own_via (fun t k => XS.iloadN X55.here hx rfl (hb hby at_105) rfl k) ?_
  show own_G p e below _ (T55.setTop (mkF m 106 #[.val (.int p0), .val (.int p1), .val (.ref b1), .unset] [(.int p1)]))
  refine own_via (fun t k => XS.iconst X55.here hx rfl (hb hby at_106) k) ?_
  show own_G p e below _ (T55.setTop (mkF m 107 #[.val (.int p0), .val (.int p1), .val (.ref b1), .unset] [(.int (1 : Int32)), (.int p1)]))
  refine own_via (fun t k => XS.iand X55.here hx rfl (hb hby at_107) rfl k) ?_
  show own_G p e below _ (T55.setTop (mkF m 108 #[.val (.int p0), .val (.int p1), .val (.ref b1), .unset] [(.int (p1 &&& (1 : Int32)))]))
  have J58 : ∀ (TJ58 : State) (XJ58 : Stand p l e room_1 s m #[(.int p0), (.int p1)] below meth c TJ58 L55 1 18) (EJ58 : TJ58.heap = h55) (zj59 : Int32), zj59 = (if (p1 &&& (1 : Int32)) = (0 : Int32) then p0 else ((own_edges.getD (((p1.toUInt32 >>> ((1 : Int32) &&& 31).toUInt32).toInt32) - (((p1.toUInt32 >>> ((1 : Int32) &&& 31).toUInt32).toInt32) / (18 : Int32)) * (18 : Int32)).toNatClampNeg (0 : Int32)) + (p0 - (p0 / (3 : Int32)) * (3 : Int32)))) → own_G p e below (own_P s (own_W n0 (fun v _ => v = some (.int 1))) room_1.cells room_1.slots) (TJ58.setTop (mkF m 129 #[.val (.int p0), .val (.int p1), .val (.ref b1), .val (.int zj59)] [])) := by
    intro TJ58 XJ58 EJ58 zj59 hzj59
    refine own_via (fun t k => XS.iloadN XJ58.here hx rfl (hb hby at_129) rfl k) ?_
    show own_G p e below _ (TJ58.setTop (mkF m 130 #[.val (.int p0), .val (.int p1), .val (.ref b1), .val (.int zj59)] [(.int zj59)]))
    obtain ⟨T60, X60, e60, st60⟩ := own_callP (y := (⟨"com/example/clementi/clementi/xml/XmlInput", "isCharacter", "(I)Z"⟩ : MethodName)) (W := 0) XJ58 hx hZ hown (hw _ (List.mem_of_getElem? (i := 13) rfl)) (hw _ (List.mem_of_getElem? (i := 14) rfl)) (hw _ (List.mem_of_getElem? (i := 15) rfl)) (hw _ (List.mem_of_getElem? (i := 16) rfl)) (by decide) (own_rm1 l Z a0 hw [] zj59 h55) (by decide) (by decide) rfl rfl (by decide) (by decide) EJ58 (pc := 130) (Ls := #[.val (.int p0), .val (.int p1), .val (.ref b1), .val (.int zj59)]) (st := [(.int zj59)]) (argsL := [(.int zj59)]) (rest := []) (by rw [hml]; rfl) (lenOf own_pd0 rfl) rfl rfl (Nat.le_of_eq rfl) (hb hby at_130)
    refine own_via st60 ?_
    show own_G p e below _ (T60.setTop (mkF m 133 #[.val (.int p0), .val (.int p1), .val (.ref b1), .val (.int zj59)] [(.int (own_F1 zj59))]))
    refine own_via (fun t k => XS.iloadN X60.here hx rfl (hb hby at_133) rfl k) ?_
    show own_G p e below _ (T60.setTop (mkF m 134 #[.val (.int p0), .val (.int p1), .val (.ref b1), .val (.int zj59)] [(.int zj59), (.int (own_F1 zj59))]))
    obtain ⟨T61, X61, e61, st61⟩ := own_callP (y := (⟨"com/example/clementi/clementi/xml/XmlInputIsCharacterPinLaw", "expected", "(I)Z"⟩ : MethodName)) (W := 1) X60 hx hZ hown (hw _ (List.mem_of_getElem? (i := 17) rfl)) (hw _ (List.mem_of_getElem? (i := 18) rfl)) (hw _ (List.mem_of_getElem? (i := 19) rfl)) (hw _ (List.mem_of_getElem? (i := 20) rfl)) (by decide) (own_rm2 l Z a0 hw [] zj59 h55) (by decide) (by decide) rfl rfl (by decide) (by decide) e60 (pc := 134) (Ls := #[.val (.int p0), .val (.int p1), .val (.ref b1), .val (.int zj59)]) (st := [(.int zj59), (.int (own_F1 zj59))]) (argsL := [(.int zj59)]) (rest := [(.int (own_F1 zj59))]) (by rw [hml]; rfl) (lenOf own_pd0 rfl) rfl rfl (Nat.le_of_eq rfl) (hb hby at_134)
    refine own_via st61 ?_
    show own_G p e below _ (T61.setTop (mkF m 137 #[.val (.int p0), .val (.int p1), .val (.ref b1), .val (.int zj59)] [(.int (own_F2 zj59)), (.int (own_F1 zj59))]))
    refine own_via (fun t k => XS.icmpNo X61.here hx rfl (hb hby at_137) rfl (teq (own_same _)).2 k) ?_
    show own_G p e below _ (T61.setTop (mkF m 140 #[.val (.int p0), .val (.int p1), .val (.ref b1), .val (.int zj59)] []))
    refine own_via (fun t k => XS.iconst X61.here hx rfl (hb hby at_140) k) ?_
    show own_G p e below _ (T61.setTop (mkF m 141 #[.val (.int p0), .val (.int p1), .val (.ref b1), .val (.int zj59)] [(.int (1 : Int32))]))
    refine own_via (fun t k => XS.goto X61.here hx rfl (pc0 := 141) (pc' := 145) rfl (hb hby at_141) (by decide) (by decide) k) ?_
    show own_G p e below _ (T61.setTop (mkF m 145 #[.val (.int p0), .val (.int p1), .val (.ref b1), .val (.int zj59)] [(.int (1 : Int32))]))
    exact own_retN (t := .boolean) X61 hx Bd.returns (by simp) Bd.notSynchronized (hb hby at_145) ⟨N55, rfl⟩ (by decide) (by decide)
  by_cases hc62 : (p1 &&& (1 : Int32)) = (0 : Int32)
  ·
    refine own_via (fun t k => XS.ifNo X55.here hx rfl (hb hby at_108) rfl ((if0 _ _).trans (teq hc62).2) k) ?_
    show own_G p e below _ (T55.setTop (mkF m 111 #[.val (.int p0), .val (.int p1), .val (.ref b1), .unset] []))
    refine own_via (fun t k => XS.iloadN X55.here hx rfl (hb hby at_111) rfl k) ?_
    show own_G p e below _ (T55.setTop (mkF m 112 #[.val (.int p0), .val (.int p1), .val (.ref b1), .unset] [(.int p0)]))
    refine own_via (fun t k => XS.istoreN X55.here hx rfl (hb hby at_112) rfl (l' := #[.val (.int p0), .val (.int p1), .val (.ref b1), .val (.int p0)]) rfl k) ?_
    show own_G p e below _ (T55.setTop (mkF m 113 #[.val (.int p0), .val (.int p1), .val (.ref b1), .val (.int p0)] []))
    refine own_via (fun t k => XS.goto X55.here hx rfl (pc0 := 113) (pc' := 129) rfl (hb hby at_113) (by decide) (by decide) k) ?_
    show own_G p e below _ (T55.setTop (mkF m 129 #[.val (.int p0), .val (.int p1), .val (.ref b1), .val (.int p0)] []))
    exact J58 _ X55 e55 _ (by simp only [if_pos hc62])
  ·
    refine own_via (fun t k => XS.ifYes X55.here hx rfl (pc0 := 108) (pc' := 116) rfl (hb hby at_108) rfl ((if0 _ _).trans (feq hc62).2) (by decide) (by decide) k) ?_
    show own_G p e below _ (T55.setTop (mkF m 116 #[.val (.int p0), .val (.int p1), .val (.ref b1), .unset] []))
    refine own_via (fun t k => XS.aloadN X55.here hx rfl (hb hby at_116) rfl rfl k) ?_
    show own_G p e below _ (T55.setTop (mkF m 117 #[.val (.int p0), .val (.int p1), .val (.ref b1), .unset] [(.ref b1)]))
    refine own_via (fun t k => XS.iloadN X55.here hx rfl (hb hby at_117) rfl k) ?_
    show own_G p e below _ (T55.setTop (mkF m 118 #[.val (.int p0), .val (.int p1), .val (.ref b1), .unset] [(.int p1), (.ref b1)]))
    refine own_via (fun t k => XS.iconst X55.here hx rfl (hb hby at_118) k) ?_
    show own_G p e below _ (T55.setTop (mkF m 119 #[.val (.int p0), .val (.int p1), .val (.ref b1), .unset] [(.int (1 : Int32)), (.int p1), (.ref b1)]))
    refine own_via (fun t k => XS.iushr X55.here hx rfl (hb hby at_119) rfl k) ?_
    show own_G p e below _ (T55.setTop (mkF m 120 #[.val (.int p0), .val (.int p1), .val (.ref b1), .unset] [(.int ((p1.toUInt32 >>> ((1 : Int32) &&& 31).toUInt32).toInt32)), (.ref b1)]))
    refine own_via (fun t k => XS.bipush X55.here hx rfl (hb hby at_120) k) ?_
    show own_G p e below _ (T55.setTop (mkF m 122 #[.val (.int p0), .val (.int p1), .val (.ref b1), .unset] [(.int (18 : Int32)), (.int ((p1.toUInt32 >>> ((1 : Int32) &&& 31).toUInt32).toInt32)), (.ref b1)]))
    refine own_via (fun t k => XS.irem X55.here hx rfl (hb hby at_122) rfl (by decide) k) ?_
    show own_G p e below _ (T55.setTop (mkF m 123 #[.val (.int p0), .val (.int p1), .val (.ref b1), .unset] [(.int (((p1.toUInt32 >>> ((1 : Int32) &&& 31).toUInt32).toInt32) - (((p1.toUInt32 >>> ((1 : Int32) &&& 31).toUInt32).toInt32) / (18 : Int32)) * (18 : Int32))), (.ref b1)]))
    refine own_via (own_ldI X55 hx hZ e55 f56 (j := (((p1.toUInt32 >>> ((1 : Int32) &&& 31).toUInt32).toInt32) - (((p1.toUInt32 >>> ((1 : Int32) &&& 31).toUInt32).toInt32) / (18 : Int32)) * (18 : Int32))) (own_index p1) (v := (.int (own_edges.getD (((p1.toUInt32 >>> ((1 : Int32) &&& 31).toUInt32).toInt32) - (((p1.toUInt32 >>> ((1 : Int32) &&& 31).toUInt32).toInt32) / (18 : Int32)) * (18 : Int32)).toNatClampNeg (0 : Int32)))) (own_getI own_edges _ 0) (pc := 123) (Ls := #[.val (.int p0), .val (.int p1), .val (.ref b1), .unset]) (rest := []) (hb hby at_123)) ?_
    show own_G p e below _ (T55.setTop (mkF m 124 #[.val (.int p0), .val (.int p1), .val (.ref b1), .unset] [(.int (own_edges.getD (((p1.toUInt32 >>> ((1 : Int32) &&& 31).toUInt32).toInt32) - (((p1.toUInt32 >>> ((1 : Int32) &&& 31).toUInt32).toInt32) / (18 : Int32)) * (18 : Int32)).toNatClampNeg (0 : Int32)))]))
    refine own_via (fun t k => XS.iloadN X55.here hx rfl (hb hby at_124) rfl k) ?_
    show own_G p e below _ (T55.setTop (mkF m 125 #[.val (.int p0), .val (.int p1), .val (.ref b1), .unset] [(.int p0), (.int (own_edges.getD (((p1.toUInt32 >>> ((1 : Int32) &&& 31).toUInt32).toInt32) - (((p1.toUInt32 >>> ((1 : Int32) &&& 31).toUInt32).toInt32) / (18 : Int32)) * (18 : Int32)).toNatClampNeg (0 : Int32)))]))
    refine own_via (fun t k => XS.iconst X55.here hx rfl (hb hby at_125) k) ?_
    show own_G p e below _ (T55.setTop (mkF m 126 #[.val (.int p0), .val (.int p1), .val (.ref b1), .unset] [(.int (3 : Int32)), (.int p0), (.int (own_edges.getD (((p1.toUInt32 >>> ((1 : Int32) &&& 31).toUInt32).toInt32) - (((p1.toUInt32 >>> ((1 : Int32) &&& 31).toUInt32).toInt32) / (18 : Int32)) * (18 : Int32)).toNatClampNeg (0 : Int32)))]))
    refine own_via (fun t k => XS.irem X55.here hx rfl (hb hby at_126) rfl (by decide) k) ?_
    show own_G p e below _ (T55.setTop (mkF m 127 #[.val (.int p0), .val (.int p1), .val (.ref b1), .unset] [(.int (p0 - (p0 / (3 : Int32)) * (3 : Int32))), (.int (own_edges.getD (((p1.toUInt32 >>> ((1 : Int32) &&& 31).toUInt32).toInt32) - (((p1.toUInt32 >>> ((1 : Int32) &&& 31).toUInt32).toInt32) / (18 : Int32)) * (18 : Int32)).toNatClampNeg (0 : Int32)))]))
    refine own_via (fun t k => XS.iadd X55.here hx rfl (hb hby at_127) rfl k) ?_
    show own_G p e below _ (T55.setTop (mkF m 128 #[.val (.int p0), .val (.int p1), .val (.ref b1), .unset] [(.int ((own_edges.getD (((p1.toUInt32 >>> ((1 : Int32) &&& 31).toUInt32).toInt32) - (((p1.toUInt32 >>> ((1 : Int32) &&& 31).toUInt32).toInt32) / (18 : Int32)) * (18 : Int32)).toNatClampNeg (0 : Int32)) + (p0 - (p0 / (3 : Int32)) * (3 : Int32))))]))
    refine own_via (fun t k => XS.istoreN X55.here hx rfl (hb hby at_128) rfl (l' := #[.val (.int p0), .val (.int p1), .val (.ref b1), .val (.int ((own_edges.getD (((p1.toUInt32 >>> ((1 : Int32) &&& 31).toUInt32).toInt32) - (((p1.toUInt32 >>> ((1 : Int32) &&& 31).toUInt32).toInt32) / (18 : Int32)) * (18 : Int32)).toNatClampNeg (0 : Int32)) + (p0 - (p0 / (3 : Int32)) * (3 : Int32))))]) rfl k) ?_
    show own_G p e below _ (T55.setTop (mkF m 129 #[.val (.int p0), .val (.int p1), .val (.ref b1), .val (.int ((own_edges.getD (((p1.toUInt32 >>> ((1 : Int32) &&& 31).toUInt32).toInt32) - (((p1.toUInt32 >>> ((1 : Int32) &&& 31).toUInt32).toInt32) / (18 : Int32)) * (18 : Int32)).toNatClampNeg (0 : Int32)) + (p0 - (p0 / (3 : Int32)) * (3 : Int32))))] []))
    exact J58 _ X55 e55 _ (by simp only [if_neg hc62])
set_option maxRecDepth 65536 in
set_option maxHeartbeats 40000000 in
theorem comes_1 {Post : Tables → Env → Array Value → State → Outcome → State → Prop} (hpost : ∀ tb e args s v u, (limb_1_1.after args s (.returned v) u = true ∧ limb_1_2.after args s (.returned v) u = true) → FrameEnd s (.returned v) u (Jvm.fieldLocs frame_1_writes args s ++ Jvm.arrayLocs frame_1_arrays args s ++ Jvm.staticLocs frame_1_statics s) 16 128 → Post tb e args s (.returned v) u) :
    ArmFor flags0 classFile x code maxLocals ret World_1 tables_1 room_1 Calls_1 rest_1 Pre_1 Post := by
  intro l hfl _ _ p e ha hc hk s m args below hf hA hF happ hP
  obtain ⟨hcalls, hrest, hpre⟩ := hP
  obtain ⟨-, -, -, hnamed, -, -, -, hat⟩ := (Spec.applies_iff hf).mp happ
  obtain ⟨hg, hn⟩ := and_e (Cond.before_iff.mp (show (Jvm.Cond.and given_1 narrow_1).before args s = true from hpre))
  obtain ⟨g1, g2⟩ := and_e hg
  obtain ⟨g3, g4⟩ := and_e g2
  obtain ⟨w0, w1, rfl⟩ : ∃ w0 w1 : Value, args = #[w0, w1] := by
    have hs : args.size = 2 := by simpa [Cond.value, given_1] using g1
    obtain ⟨L⟩ := args
    match L, hs with
    | [w0, w1], _ => exact ⟨w0, w1, rfl⟩
  have hw := fun d (hd : d ∈ tables_1) => atoms_spec (ws := Jvm.Cond.code x code maxLocals ret :: tables_1) hat d (List.mem_cons_of_mem _ hd)
  obtain ⟨i0, ei0⟩ := is_v g3
  obtain rfl : w0 = (.int i0) := Option.some.inj ei0
  obtain ⟨i1, ei1⟩ := is_v g4
  obtain rfl : w1 = (.int i1) := Option.some.inj ei1
  obtain ⟨n, o, h1, h2, h3, _, L, rfl, ⟨N, rfl⟩, hq⟩ := own_rm0 l s _ hw tables_1 i0 i1 s.heap s.heap.size (Nat.le_refl _)  p e ha hc hk s m _ below hf ((Spec.applies_iff_loose hf).mp happ).1 ⟨rfl, State.Warmed39.refl s, rfl⟩ trivial
  refine ⟨n, _, h1, h2, h3, hpost _ _ _ _ _ _ ⟨Cond.after_iff.mpr rfl, Cond.after_iff.mpr (eq_i res_at (Term.int_eval (1)) rfl)⟩ ⟨hq.1, hq.2.1, (hq.2.2.sift fun y hy => Or.inr (N y hy)).mono (by decide) (by decide)⟩⟩
theorem main_1_1 : Claimed_1_1 := comes_1 fun _ _ _ _ _ _ h hF => ⟨h.1, hF⟩
theorem main_1_2 : Claimed_1_2 := comes_1 fun _ _ _ _ _ _ h hF => ⟨h.2, hF⟩
end Jvm.Pilot.@@N@@
namespace Jvm.Pilot.@@N@@
open Jvm Jvm.ClassFile Sem Op Lib Jvm.Free Jvm.Stand Jvm.Pilot.@@N@@.Jvm.D
/-! MADE BY PROGRAM (witnessworld.py) out of the Statement's table words and the real class files: 9 classes; the members and pool entries that the words name. The judged class is class 1, her method 1. -/
namespace start1
open Jvm.ClassFile
def u (s : String) : CpInfo := .utf8 (stringToUtf16 s)
/-- a pool by its gaps: so many unusable entries, then the entry; so many at the end -/
def gap : Nat → List CpInfo → List CpInfo
  | 0, r => r
  | n + 1, r => .unusable :: gap n r
def poolList (es : List (Nat × CpInfo)) (last : Nat) : List CpInfo := es.foldr (fun e r => gap e.1 (e.2 :: r)) (gap last [])
def pool (es : List (Nat × CpInfo)) (last : Nat) : Array CpInfo := ⟨poolList es last⟩
def fileOf (pool : Array CpInfo) (this : Nat) (attrs : Array Attribute := #[]) (ms : Array MethodInfo := #[]) (fl : Nat := 33) (sup : Nat := 0) (ifs : Array Nat := #[]) (fds : Array FieldInfo := #[]) : ClassFile where
  minorVersion := 0
  majorVersion := 65
  constantPool := pool
  accessFlags := fl
  thisClass := this
  superClass := sup
  interfaces := ifs
  fields := fds
  methods := ms
  attributes := attrs
def plain (name : String) (sup : Option ClassId) : Class where
  name := name
  kind := .ordinary
  loader := none
  accessFlags := 33
  super := sup
  interfaces := #[]
  cf := none
  fields := #[]
  methods := #[]
  instanceTypes := #[]
  staticTypes := #[]
  resolved := #[]
  callSites := []
  init := .initialized
  statics := none
  mirror := none

def pool0 : Array CpInfo := pool [(5, u "<init>"), (0, u "()V"), (1, .class_ 10), (1, u "java/lang/Object")] 113

def k0m0 : Method := { name := "<init>", desc := "()V", sig := { parameters := [], returnType := none }, accessFlags := 1, code := none }
/-- java/lang/Object -/
def k0 : Class := { plain "java/lang/Object" none with
  accessFlags := 33
  interfaces := #[]
  cf := some (fileOf pool0 8 #[] #[{ accessFlags := 1, nameIndex := 5, descriptorIndex := 6, attributes := #[] }] 33 0 #[] #[])
  fields := #[]
  methods := #[k0m0]
  instanceTypes := #[]
  staticTypes := #[]
  resolved := Array.replicate 124 none
  statics := none }

def pool1 : Array CpInfo := pool [(2, .class_ 4), (1, u "java/lang/Object"), (0, u "<init>"), (0, u "()V"), (0, .integer 55295), (0, .integer 55296), (0, .integer 57343), (0, .integer 57344), (0, .integer 65533), (0, .integer 65534), (0, .integer 65535), (0, .integer 65536), (0, .integer 1114111), (0, .integer 1114112), (2, .integer 2147483648), (0, .integer 2147483647), (0, .methodref 22 23), (0, .class_ 24), (0, .nameAndType 25 26), (0, u "com/example/clementi/clementi/xml/XmlInput"), (0, u "isCharacter"), (0, u "(I)Z"), (0, .methodref 28 29), (0, .class_ 30), (0, .nameAndType 31 26), (0, u "com/example/clementi/clementi/xml/XmlInputIsCharacterPinLaw"), (0, u "expected"), (2, u "law"), (0, u "(II)Z")] 5

def k1m0 : Method := { name := "<init>", desc := "()V", sig := { parameters := [], returnType := none }, accessFlags := 1, code := none }
def k1c1 : Code := { maxStack := 4, maxLocals := 4, code := code, exceptionTable := #[], attributes := #[] }
def k1m1 : Method := { name := "law", desc := "(II)Z", sig := { parameters := [.int, .int], returnType := some .boolean }, accessFlags := 9, code := some k1c1 }
def k1c2 : Code := { maxStack := 2, maxLocals := 5, code := method_3_code, exceptionTable := #[], attributes := #[] }
def k1m2 : Method := { name := "expected", desc := "(I)Z", sig := { parameters := [.int], returnType := some .boolean }, accessFlags := 10, code := some k1c2 }
/-- com/example/clementi/clementi/xml/XmlInputIsCharacterPinLaw -/
def k1 : Class := { plain "com/example/clementi/clementi/xml/XmlInputIsCharacterPinLaw" (some 0) with
  accessFlags := 49
  interfaces := #[]
  cf := some (fileOf pool1 28 #[] #[{ accessFlags := 1, nameIndex := 5, descriptorIndex := 6, attributes := #[] }, { accessFlags := 9, nameIndex := 34, descriptorIndex := 35, attributes := #[] }, { accessFlags := 10, nameIndex := 31, descriptorIndex := 26, attributes := #[] }] 49 2 #[] #[])
  fields := #[]
  methods := #[k1m0, k1m1, k1m2]
  instanceTypes := #[]
  staticTypes := #[]
  resolved := Array.replicate 41 none
  statics := none }

def pool2 : Array CpInfo := pool [(2, .class_ 4), (1, u "java/lang/Object"), (2, .class_ 8), (0, u "com/example/clementi/clementi/xml/XmlInput"), (2, u "buffer"), (0, u "[C"), (2, u "line"), (0, u "J"), (2, u "column"), (5, u "below"), (0, u "Ljava/util/Deque;"), (2, u "text"), (0, u "Ljava/io/Reader;"), (2, u "name"), (0, u "Ljava/lang/String;"), (2, u "whole"), (2, u "chars"), (0, .integer 55295), (0, .integer 57344), (0, .integer 65533), (0, .integer 65536), (0, .integer 1114111), (2, u "at"), (0, u "I"), (2, u "end"), (3, u "(I)Z"), (59, .class_ 117), (0, u "com/example/clementi/clementi/xml/XmlInput$Reading"), (2, u "entity"), (76, u "forbidden"), (0, u "Z"), (2, u "ended"), (2, u "limit"), (14, u "placed"), (23, u "afterCarriageReturn"), (4, u "END"), (2, u "BUFFER"), (6, u "isCharacter")] 40

def k2c0 : Code := { maxStack := 2, maxLocals := 1, code := prog_67_method_2_code, exceptionTable := #[], attributes := #[] }
def k2m0 : Method := { name := "isCharacter", desc := "(I)Z", sig := { parameters := [.int], returnType := some .boolean }, accessFlags := 8, code := some k2c0 }
/-- com/example/clementi/clementi/xml/XmlInput -/
def k2 : Class := { plain "com/example/clementi/clementi/xml/XmlInput" (some 0) with
  accessFlags := 32
  interfaces := #[]
  cf := some (fileOf pool2 7 #[.nestMembers #[116]] #[{ accessFlags := 8, nameIndex := 258, descriptorIndex := 56, attributes := #[] }] 32 2 #[] #[{ accessFlags := 24, nameIndex := 248, descriptorIndex := 49, attributes := #[] }, { accessFlags := 26, nameIndex := 251, descriptorIndex := 49, attributes := #[] }, { accessFlags := 18, nameIndex := 29, descriptorIndex := 30, attributes := #[] }, { accessFlags := 18, nameIndex := 33, descriptorIndex := 34, attributes := #[] }, { accessFlags := 18, nameIndex := 37, descriptorIndex := 34, attributes := #[] }, { accessFlags := 2, nameIndex := 11, descriptorIndex := 12, attributes := #[] }, { accessFlags := 2, nameIndex := 204, descriptorIndex := 49, attributes := #[] }, { accessFlags := 2, nameIndex := 201, descriptorIndex := 198, attributes := #[] }, { accessFlags := 2, nameIndex := 243, descriptorIndex := 198, attributes := #[] }, { accessFlags := 2, nameIndex := 197, descriptorIndex := 198, attributes := #[] }, { accessFlags := 2, nameIndex := 15, descriptorIndex := 16, attributes := #[] }, { accessFlags := 2, nameIndex := 19, descriptorIndex := 16, attributes := #[] }, { accessFlags := 2, nameIndex := 219, descriptorIndex := 49, attributes := #[] }, { accessFlags := 2, nameIndex := 40, descriptorIndex := 12, attributes := #[] }, { accessFlags := 2, nameIndex := 48, descriptorIndex := 49, attributes := #[] }, { accessFlags := 2, nameIndex := 52, descriptorIndex := 49, attributes := #[] }, { accessFlags := 2, nameIndex := 120, descriptorIndex := 34, attributes := #[] }, { accessFlags := 18, nameIndex := 25, descriptorIndex := 26, attributes := #[] }])
  fields := #[{ name := "END", type := .int, accessFlags := 24, slot := 0, constantValue := 0 }, { name := "BUFFER", type := .int, accessFlags := 26, slot := 1, constantValue := 0 }, { name := "text", type := (.object "java/io/Reader"), accessFlags := 18, slot := 0, constantValue := 0 }, { name := "name", type := (.object "java/lang/String"), accessFlags := 18, slot := 1, constantValue := 0 }, { name := "whole", type := (.object "java/lang/String"), accessFlags := 18, slot := 2, constantValue := 0 }, { name := "buffer", type := (.array .char), accessFlags := 2, slot := 3, constantValue := 0 }, { name := "limit", type := .int, accessFlags := 2, slot := 4, constantValue := 0 }, { name := "ended", type := .boolean, accessFlags := 2, slot := 5, constantValue := 0 }, { name := "afterCarriageReturn", type := .boolean, accessFlags := 2, slot := 6, constantValue := 0 }, { name := "forbidden", type := .boolean, accessFlags := 2, slot := 7, constantValue := 0 }, { name := "line", type := .long, accessFlags := 2, slot := 8, constantValue := 0 }, { name := "column", type := .long, accessFlags := 2, slot := 9, constantValue := 0 }, { name := "placed", type := .int, accessFlags := 2, slot := 10, constantValue := 0 }, { name := "chars", type := (.array .char), accessFlags := 2, slot := 11, constantValue := 0 }, { name := "at", type := .int, accessFlags := 2, slot := 12, constantValue := 0 }, { name := "end", type := .int, accessFlags := 2, slot := 13, constantValue := 0 }, { name := "entity", type := (.object "java/lang/String"), accessFlags := 2, slot := 14, constantValue := 0 }, { name := "below", type := (.object "java/util/Deque"), accessFlags := 18, slot := 15, constantValue := 0 }]
  methods := #[k2m0]
  instanceTypes := #[(.object "java/io/Reader"), (.object "java/lang/String"), (.object "java/lang/String"), (.array .char), .int, .boolean, .boolean, .boolean, .long, .long, .int, (.array .char), .int, .int, (.object "java/lang/String"), (.object "java/util/Deque")]
  staticTypes := #[.int, .int]
  resolved := Array.replicate 299 none
  statics := none }

def pool3 : Array CpInfo := pool [(1, u "java/lang/Cloneable"), (0, .class_ 1), (0, u "java/lang/Object"), (0, .class_ 3)] 3

/-- java/lang/Cloneable -/
def k3 : Class := { plain "java/lang/Cloneable" (some 0) with
  accessFlags := 1537
  interfaces := #[]
  cf := some (fileOf pool3 2 #[] #[] 1537 4 #[] #[])
  fields := #[]
  methods := #[]
  instanceTypes := #[]
  staticTypes := #[]
  resolved := Array.replicate 8 none
  statics := none }

def pool4 : Array CpInfo := pool [(1, u "java/io/Serializable"), (0, .class_ 1), (0, u "java/lang/Object"), (0, .class_ 3)] 3

/-- java/io/Serializable -/
def k4 : Class := { plain "java/io/Serializable" (some 0) with
  accessFlags := 1537
  interfaces := #[]
  cf := some (fileOf pool4 2 #[] #[] 1537 4 #[] #[])
  fields := #[]
  methods := #[]
  instanceTypes := #[]
  staticTypes := #[]
  resolved := Array.replicate 8 none
  statics := none }

/-- the primitive byte -/
def k5 : Class := { plain "byte" none with kind := .primitive 'B', accessFlags := 0x411 }
/-- [B -/
def k6 : Class := { plain "[B" (some 0) with kind := .array 5 .byte, interfaces := #[3, 4], accessFlags := 1041 }

/-- the primitive int -/
def k7 : Class := { plain "int" none with kind := .primitive 'I', accessFlags := 0x411 }
/-- [I -/
def k8 : Class := { plain "[I" (some 0) with kind := .array 7 .int, interfaces := #[3, 4], accessFlags := 1041 }

def heap : Heap := #[]
def classes : Array Class := #[k0, k1, k2, k3, k4, k5, k6, k7, k8]
def interned : List (Array UInt16 × Addr) := []
def slotsUsed : Nat := 0
def theMethod : MethodId := ⟨1, 1⟩
def args0 : Array Value := #[.int 5, .int 300]
def aboutOver (below : List Frame) : State where
  vm := { classes := classes, interned := interned.toArray }
  heap := heap
  slotsUsed := slotsUsed
  threads := #[{ frames := .invoking theMethod args0 :: below }]
def below0 : List Frame := [.native { method := ⟨0, 0⟩, args := #[] }]
def about1 : State := aboutOver below0
def p0 : Program := .bare "" "" ""
def e0 : Env := launch0.env 0 0 0
theorem w_frames : about1.frames = Frame.invoking theMethod args0 :: below0 := rfl
set_option maxRecDepth 65536 in
theorem w_args : argsFit about1.vm theMethod args0 = true := by decide +kernel
set_option maxRecDepth 65536 in
theorem w_heap : heapFits about1 = true := by decide +kernel
set_option maxRecDepth 65536 in
theorem w_runnable : about1.curStatus? = some .runnable := by decide +kernel
set_option maxRecDepth 65536 in
theorem w_alone : about1.alone = true := by decide +kernel
set_option maxRecDepth 65536 in
theorem w_named : about1.methodNamed? x = some theMethod := by decide +kernel
set_option maxRecDepth 65536 in
theorem w_hears : about1.hears theMethod below0 = true := by decide +kernel
set_option maxRecDepth 65536 in
theorem w_ripe : about1.ripe theMethod args0 below0 = true := by decide +kernel
theorem w_running : about1.status = .running := rfl
set_option maxRecDepth 65536 in
theorem w_room : about1.hasRoom e0.platform room_1 = true :=
  launch0.hasRoom_least _ room_1 (by decide +kernel) (by decide +kernel) (by decide +kernel) (by decide +kernel) (by decide +kernel) (by decide +kernel)
theorem allAtoms_all (ts : List Jvm.Cond) (a : Array Jvm.Value) (st : Jvm.State) : (allAtoms ts).before a st = ts.all (fun c => c.before a st) := by
  induction ts with
  | nil => rfl
  | cons c t ih =>
    show (Jvm.Cond.and c (allAtoms t)).before a st = _
    rw [Jvm.Cond.before_and, ih, List.all_cons]
def words1 : List Jvm.Cond := Jvm.Cond.code x code maxLocals ret :: tables_1
/-- a 'code' word, met by the world's own term for the bytes: nothing is compared byte by byte -/
theorem code_word {y : MethodName} {bytes : ByteArray} {mx : Nat} {rt : Option FieldType} {a : Array Value} {s : State} {m : MethodId} {meth : Method} {c : Code} (h1 : s.methodNamed? y = some m) (h2 : s.vm.method? m = some meth) (h3 : meth.code = some c) (h4 : c.code = bytes)
    (h5 : (c.maxLocals == mx && c.exceptionTable.isEmpty && decide (c.maxStack ≤ mostOperands) && decide (meth.sig.returnType = rt) && !meth.locks && decide (parseMethodDescriptor y.desc = some meth.sig)) = true) : (Jvm.Cond.code y bytes mx rt).before a s = true := by
  simp only [Bool.and_eq_true, beq_iff_eq, Bool.not_eq_true', decide_eq_true_eq] at h5
  obtain ⟨⟨⟨⟨⟨g1, g2⟩, g3⟩, g4⟩, g5⟩, g6⟩ := h5
  simp [Cond.before, Cond.holds, Cond.value, h1, h2, h3, h4, g1, g2, g3, g4, g5, g6]
def isCode : Jvm.Cond → Bool
  | .code _ _ _ _ => true
  | _ => false
theorem all_split {L : List Jvm.Cond} {P : Jvm.Cond → Bool} (h1 : L.all (fun c => isCode c || P c) = true) (h2 : ∀ c ∈ L.filter isCode, P c = true) : L.all P = true := by
  refine List.all_eq_true.mpr fun c hc => ?_
  have h := List.all_eq_true.mp h1 c hc
  rcases Bool.eq_false_or_eq_true (isCode c) with hi | hi
  · exact h2 c (List.mem_filter.mpr ⟨hc, hi⟩)
  · simpa [hi] using h
set_option maxRecDepth 65536 in
theorem w_c0 : (Jvm.Cond.code x code maxLocals ret).before args0 about1 = true := code_word (m := ⟨1, 1⟩) (meth := k1m1) (c := k1c1) (by decide +kernel) rfl rfl rfl (by decide +kernel)
set_option maxRecDepth 65536 in
theorem w_c1 : (Jvm.Cond.code ({ cls := "com/example/clementi/clementi/xml/XmlInput", name := "isCharacter", desc := "(I)Z" } : Jvm.MethodName) prog_67_method_2_code (1 : Nat) (Option.some Jvm.ClassFile.FieldType.boolean)).before args0 about1 = true := code_word (m := ⟨2, 0⟩) (meth := k2m0) (c := k2c0) (by decide +kernel) rfl rfl rfl (by decide +kernel)
set_option maxRecDepth 65536 in
theorem w_c2 : (Jvm.Cond.code ({ cls := "com/example/clementi/clementi/xml/XmlInputIsCharacterPinLaw", name := "expected", desc := "(I)Z" } : Jvm.MethodName) method_3_code (5 : Nat) (Option.some Jvm.ClassFile.FieldType.boolean)).before args0 about1 = true := code_word (m := ⟨1, 2⟩) (meth := k1m2) (c := k1c2) (by decide +kernel) rfl rfl rfl (by decide +kernel)
def codes1 : List Jvm.Cond := [Jvm.Cond.code x code maxLocals ret, Jvm.Cond.code ({ cls := "com/example/clementi/clementi/xml/XmlInput", name := "isCharacter", desc := "(I)Z" } : Jvm.MethodName) prog_67_method_2_code (1 : Nat) (Option.some Jvm.ClassFile.FieldType.boolean), Jvm.Cond.code ({ cls := "com/example/clementi/clementi/xml/XmlInputIsCharacterPinLaw", name := "expected", desc := "(I)Z" } : Jvm.MethodName) method_3_code (5 : Nat) (Option.some Jvm.ClassFile.FieldType.boolean)]
set_option maxRecDepth 65536 in
theorem codes_eq : words1.filter isCode = codes1 := rfl
theorem w_codes : ∀ c ∈ words1.filter isCode, c.before args0 about1 = true := by
  rw [codes_eq]
  intro c hc
  simp only [codes1, List.mem_cons, List.not_mem_nil, or_false] at hc
  rcases hc with rfl | rfl | rfl
  · exact w_c0
  · exact w_c1
  · exact w_c2
set_option maxRecDepth 65536 in
theorem w_t1 : (words1.take 24).all (fun c => isCode c || c.before args0 about1) = true := by decide +kernel
set_option maxRecDepth 65536 in
theorem w_t2 : (words1.drop 24).all (fun c => isCode c || c.before args0 about1) = true := by decide +kernel
theorem w_tables : (allAtoms (Jvm.Cond.code x code maxLocals ret :: tables_1)).before args0 about1 = true := by
  rw [allAtoms_all]
  show words1.all (fun c => c.before args0 about1) = true
  refine all_split ?_ w_codes
  rw [← List.take_append_drop 24 words1, List.all_append, w_t1, w_t2]
  rfl
set_option maxRecDepth 65536 in
theorem w_case : (Jvm.Cond.and given_1 narrow_1).before args0 about1 = true := by decide +kernel
theorem w_applies : (headSpec (Jvm.Cond.code x code maxLocals ret :: tables_1) room_1).applies x e0.platform about1 = true :=
  (Spec.applies_iff w_frames).mpr ⟨w_running, w_runnable, w_alone, w_named, w_hears, w_ripe, w_room, w_tables⟩
theorem atStart : AtStart classFile x code maxLocals ret World_1 tables_1 room_1 Calls_1 rest_1 Pre_1 launch0 p0 e0 about1 theMethod args0 below0 :=
  ⟨lists_1, trivial, launch0.admits_env _ _ _, launch0.least_env, fairChoices_fair.cas, fairChoices_fair.clock, w_frames, w_args, w_heap, w_applies, trivial, trivial, w_case⟩
end start1
theorem witness_1 : WitnessClaimed_1 := ⟨start1.p0, start1.e0, start1.about1, start1.theMethod, start1.args0, start1.below0, start1.atStart⟩
end Jvm.Pilot.@@N@@
