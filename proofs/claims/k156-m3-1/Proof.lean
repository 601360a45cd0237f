import JvmDerived
import JvmDerived.Pilot.@@N@@Statement
import JvmDerived.Pilot.@@N@@Code
set_option linter.unusedVariables false
set_option linter.unusedSimpArgs false
set_option maxRecDepth 65536
set_option maxHeartbeats 20000000
namespace Jvm.Pilot.@@N@@
open Jvm Jvm.ClassFile Sem Op Lib Jvm.Free Jvm.Stand Jvm.LawKit Jvm.RoadKit Bundle Jvm.Pilot.@@N@@.Jvm.D
section OwnKit
variable {p : Program} {l : Launch} {e : Env} {R : Room} {s : State} {m : MethodId} {args : Array Value} {below : List Frame} {meth : Method} {c : Code} {T : State} {locs : List Loc} {cells slots : Nat} {Z : State} {a0 : Array Value} {h0 : Heap}
/-- from this state the run comes to the end of the invocation, and there P holds -/
def own_G (p : Program) (e : Env) (below : List Frame) (P : Outcome → State → Prop) (st : State) : Prop :=
  ∃ (u : State) (o : Outcome), Steps p.tables e below st u ∧ u.status = .running ∧ Ended u below o ∧ P o u
theorem own_via {P : Outcome → State → Prop} {st st' : State} (k : ∀ t, Steps p.tables e below st' t → Steps p.tables e below st t) (h : own_G p e below P st') : own_G p e below P st := by
  obtain ⟨u, o, h1, h2⟩ := h
  exact ⟨u, o, k _ h1, h2⟩
/-- what a contract says of the end -/
def own_P (s : State) (Q : Option Value → Heap → List Loc → Prop) (k n : Nat) : Outcome → State → Prop := fun o u => ∃ v L, o = .returned v ∧ Q v u.heap L ∧ FrameEnd s o u L k n
/-- it returns w and leaves the heap as it was -/
def own_Q (w : Value) (h0 : Heap) : Option Value → Heap → List Loc → Prop := fun v h L => v = some w ∧ L = [] ∧ h = h0
/-- a contract -/
def own_C (l : Launch) (Z : State) (y : MethodName) (bytes : ByteArray) (maxL : Nat) (ret : Option FieldType) (ws : List Jvm.Cond) (rm : Room) (as : Array Value) (h0 : Heap) (Q : Option Value → Heap → List Loc → Prop) : Prop :=
  MetFree l y (head1 (Jvm.Cond.code y bytes maxL ret :: ws) rm) (fun a U => a = as ∧ Z.Warmed39 U.vm ∧ U.heap = h0) (fun _ _ _ _ _ => True) (fun _ U o U' => ∃ v L, o = .returned v ∧ Q v U'.heap L ∧ FrameEnd U o U' L rm.cells rm.slots)
theorem own_ret {v : Option Value} {Q : Option Value → Heap → List Loc → Prop} {k n : Nat} {st : State} (X : Stand p l e R s m args below meth c T locs cells slots) (hv : meth.sig.returnType = none → v = none) (hlocks : meth.locks = false)
    (hst : ∀ fs, (∀ (f : JFrame) (acts : List Action), f.method = m → f.locked = none → f.entered = [] → (doReturn e (T.setTop f) acts v).1 = T.setFrames fs) → Steps p.tables e below st (T.setFrames fs))
    (hQ : Q v T.heap locs) (hk : cells ≤ k) (hn : slots ≤ n) : own_G p e below (own_P s Q k n) st := by
  obtain ⟨fs, hr, hrun, hended, hW, hsame⟩ := X.leave (v := v) hv hlocks
  exact ⟨_, _, hst fs hr, hrun, hended, _, _, rfl, hQ, ⟨_, rfl⟩, hW, hsame.mono hk hn⟩
theorem own_retI {Q : Option Value → Heap → List Loc → Prop} {k n : Nat} (X : Stand p l e R s m args below meth c T locs cells slots) (hx : p.tables.exec = Jvm.exec) {pc : Nat} {Ls : Array Slot} {z : Int32} {rest : List Value} (hret : meth.sig.returnType = some .int) (hlocks : meth.locks = false) (hd : decode c.code pc = .ok (.ireturn, 1))
    (hQ : Q (some (.int z)) T.heap locs) (hk : cells ≤ k) (hn : slots ≤ n) : own_G p e below (own_P s Q k n) (T.setTop (mkF m pc Ls (.int z :: rest))) := by
  refine own_ret X (fun h => by rw [hret] at h; cases h) hlocks (fun fs hr => ?_) hQ hk hn
  have hm' : T.vm.method? m = some meth := X.method'
  have hn : narrow .int (.int z) = .int z := rfl
  show Steps p.tables e below (T.setTop { method := m, pc := pc, locals := Ls, stack := _ :: rest, locked := none }) _
  jvm_step X.here [X.here.top, hx, hd, hm', hret, hn]
  first | (intro acts; rw [hr _ acts rfl rfl rfl]) | rw [hr _ _ rfl rfl rfl]
  exact Steps.refl _
theorem own_retN {Q : Option Value → Heap → List Loc → Prop} {k n : Nat} {t : FieldType} (X : Stand p l e R s m args below meth c T locs cells slots) (hx : p.tables.exec = Jvm.exec) {pc : Nat} {Ls : Array Slot} {z : Int32} {rest : List Value} (hret : meth.sig.returnType = some t) (ht : t = .boolean ∨ t = .byte ∨ t = .char ∨ t = .short) (hlocks : meth.locks = false) (hd : decode c.code pc = .ok (.ireturn, 1))
    (hQ : Q (some (.int (nar t z))) T.heap locs) (hk : cells ≤ k) (hn : slots ≤ n) : own_G p e below (own_P s Q k n) (T.setTop (mkF m pc Ls (.int z :: rest))) :=
  own_ret X (fun h => by rw [hret] at h; cases h) hlocks (fun fs hr => retN X hx hret ht hd hr) hQ hk hn
theorem own_retL {Q : Option Value → Heap → List Loc → Prop} {k n : Nat} (X : Stand p l e R s m args below meth c T locs cells slots) (hx : p.tables.exec = Jvm.exec) {pc : Nat} {Ls : Array Slot} {z : Int64} (hret : meth.sig.returnType = some .long) (hlocks : meth.locks = false) (hd : decode c.code pc = .ok (.lreturn, 1))
    (hQ : Q (some (.long z)) T.heap locs) (hk : cells ≤ k) (hn : slots ≤ n) : own_G p e below (own_P s Q k n) (T.setTop (mkF m pc Ls [.long z])) :=
  own_ret X (fun h => by rw [hret] at h; cases h) hlocks (fun fs hr => X.lreturnOut hx hret hd hr) hQ hk hn
theorem own_retV {Q : Option Value → Heap → List Loc → Prop} {k n : Nat} (X : Stand p l e R s m args below meth c T locs cells slots) (hx : p.tables.exec = Jvm.exec) {pc : Nat} {Ls : Array Slot} (hret : meth.sig.returnType = none) (hlocks : meth.locks = false) (hd : decode c.code pc = .ok (.return_, 1))
    (hQ : Q none T.heap locs) (hk : cells ≤ k) (hn : slots ≤ n) : own_G p e below (own_P s Q k n) (T.setTop (mkF m pc Ls [])) :=
  own_ret X (fun _ => rfl) hlocks (fun fs hr => X.returnOut hx hret hd hr) hQ hk hn
theorem own_retA {Q : Option Value → Heap → List Loc → Prop} {k n : Nat} {t : FieldType} {v : Value} (X : Stand p l e R s m args below meth c T locs cells slots) (hx : p.tables.exec = Jvm.exec) {pc : Nat} {Ls : Array Slot} {rest : List Value} (hret : meth.sig.returnType = some t) (ht : t.isReference = true) (hv : v.isRef = true) (hlocks : meth.locks = false) (hd : decode c.code pc = .ok (.areturn, 1))
    (hQ : Q (some v) T.heap locs) (hk : cells ≤ k) (hn : slots ≤ n) : own_G p e below (own_P s Q k n) (T.setTop (mkF m pc Ls (v :: rest))) := by
  refine own_ret X (fun h => by rw [hret] at h; cases h) hlocks (fun fs hr => ?_) hQ hk hn
  have hm' : T.vm.method? m = some meth := X.method'
  show Steps p.tables e below (T.setTop { method := m, pc := pc, locals := Ls, stack := _ :: rest, locked := none }) _
  jvm_step X.here [X.here.top, hx, hd, hm', hret, ht, hv]
  first | (intro acts; rw [hr _ acts rfl rfl rfl]) | rw [hr _ _ rfl rfl rfl]
  exact Steps.refl _
/-- a static method by its contract -/
theorem own_callS {own : String} {index : Nat} {y : MethodName} {bytes : ByteArray} {maxL W : Nat} {ret : Option FieldType} {rm : Room} {as : Array Value} {Q : Option Value → Heap → List Loc → Prop}
    (X : Stand p l e R s m args below meth c T locs cells slots) (hx : p.tables.exec = Jvm.exec) (hZ : Z.Warmed39 s.vm) (hown : s.vm.findClass own = some m.cls)
    (w1 : (Jvm.Cond.methodLink own index y).before a0 Z = true) (w2 : (Jvm.Cond.static y).before a0 Z = true) (w3 : (Jvm.Cond.initialized y.cls).before a0 Z = true) (w4 : (Jvm.Cond.code y bytes maxL ret).before a0 Z = true)
    (hy : y.cls ≠ "java/lang/invoke/MethodHandle" ∧ y.cls ≠ "java/lang/invoke/VarHandle") (hM : own_C l Z y bytes maxL ret [] rm as h0 Q)
    (hf : rm.frames + 1 ≤ R.frames) (hl : W + (maxL + 11) + rm.locals ≤ R.locals) (hcc : cells + rm.cells ≤ R.cells) (hss : slots + rm.slots ≤ R.slots) (e0 : T.heap = h0)
    {pc : Nat} {Ls : Array Slot} {st argsL rest : List Value} (hsize : Ls.size = c.maxLocals) (hlen : ∀ sig, parseMethodDescriptor y.desc = some sig → argsL.length = sig.parameters.length) (has : argsL.toArray = as)
    (hst : st = argsL.reverse ++ rest) (hW : 2 * 0 + (rest.map fun v => v.category).sum ≤ W) (hd : decode c.code pc = .ok (.invokestatic index, 3)) :
    ∃ (v : Option Value) (T' : State) (L : List Loc), Stand p l e R s m args below meth c T' (locs ++ L) (cells + rm.cells) (slots + rm.slots) ∧ Q v T'.heap L ∧
      ∀ target, Steps p.tables e below (T'.setTop (mkF m (pc + 3) Ls (v.toList ++ rest))) target → Steps p.tables e below (T.setTop (mkF m pc Ls st)) target := by
  obtain ⟨v, _, ⟨T', L', k', n'⟩, -, X', ⟨Lc, hQ, h1, h2, h3⟩, stp⟩ := Jvm.LawKit.callS X hx (y := y) hown (mvT hZ w1) (mvT hZ w2) (mvT hZ w3) (mvT hZ w4) hy
    (backOf (W := W) hM hZ w4 w3 hf hl) (g := mkF m pc Ls st) rfl hsize (argsL := argsL) (rest := rest) hlen hst hW hd (fun _ _ => ⟨has, e0, hcc, hss⟩)
  dsimp only [Pt.U, Pt.locs, Pt.cells, Pt.slots] at X' h1 h2 h3 stp hQ
  subst h1 h2 h3
  exact ⟨v, T', Lc, X', hQ, stp⟩
/-- a static method that leaves the heap as it was -/
theorem own_callP {own : String} {index : Nat} {y : MethodName} {bytes : ByteArray} {maxL W : Nat} {ret : Option FieldType} {rm : Room} {as : Array Value} {w : Value}
    (X : Stand p l e R s m args below meth c T locs cells slots) (hx : p.tables.exec = Jvm.exec) (hZ : Z.Warmed39 s.vm) (hown : s.vm.findClass own = some m.cls)
    (w1 : (Jvm.Cond.methodLink own index y).before a0 Z = true) (w2 : (Jvm.Cond.static y).before a0 Z = true) (w3 : (Jvm.Cond.initialized y.cls).before a0 Z = true) (w4 : (Jvm.Cond.code y bytes maxL ret).before a0 Z = true)
    (hy : y.cls ≠ "java/lang/invoke/MethodHandle" ∧ y.cls ≠ "java/lang/invoke/VarHandle") (hM : own_C l Z y bytes maxL ret [] rm as h0 (own_Q w h0))
    (hf : rm.frames + 1 ≤ R.frames) (hl : W + (maxL + 11) + rm.locals ≤ R.locals) (hrc : rm.cells = 0) (hrs : rm.slots = 0) (hcc : cells + rm.cells ≤ R.cells) (hss : slots + rm.slots ≤ R.slots) (e0 : T.heap = h0)
    {pc : Nat} {Ls : Array Slot} {st argsL rest : List Value} (hsize : Ls.size = c.maxLocals) (hlen : ∀ sig, parseMethodDescriptor y.desc = some sig → argsL.length = sig.parameters.length) (has : argsL.toArray = as)
    (hst : st = argsL.reverse ++ rest) (hW : 2 * 0 + (rest.map fun v => v.category).sum ≤ W) (hd : decode c.code pc = .ok (.invokestatic index, 3)) :
    ∃ (T' : State), Stand p l e R s m args below meth c T' locs cells slots ∧ T'.heap = h0 ∧
      ∀ target, Steps p.tables e below (T'.setTop (mkF m (pc + 3) Ls (w :: rest))) target → Steps p.tables e below (T.setTop (mkF m pc Ls st)) target := by
  obtain ⟨v, T', L, X', ⟨rfl, rfl, hh⟩, stp⟩ := own_callS X hx hZ hown w1 w2 w3 w4 hy hM hf hl hcc hss e0 hsize hlen has hst hW hd
  rw [List.append_nil, hrc, hrs] at X'
  exact ⟨T', X', hh, stp⟩
theorem own_b1 {x a : Int32} (h : x < a) : x.toInt ≤ a.toInt - 1 := by rw [Int32.lt_iff_toInt_lt] at h; omega
theorem own_b2 {x a : Int32} (h : ¬ x < a) : a.toInt ≤ x.toInt := by rw [Int32.lt_iff_toInt_lt] at h; omega
theorem own_b3 {x a : Int32} (h : a < x) : a.toInt + 1 ≤ x.toInt := by rw [Int32.lt_iff_toInt_lt] at h; omega
theorem own_b4 {x a : Int32} (h : ¬ a < x) : x.toInt ≤ a.toInt := by rw [Int32.lt_iff_toInt_lt] at h; omega
theorem own_b5 {x b : Int32} {k : Int} (h : x.toInt ≤ k) (q : k < b.toInt) : x < b := by rw [Int32.lt_iff_toInt_lt]; omega
theorem own_b6 {x b : Int32} {k : Int} (h : k ≤ x.toInt) (q : b.toInt ≤ k) : ¬ x < b := by rw [Int32.lt_iff_toInt_lt]; omega
theorem own_b7 {x b : Int32} {k : Int} (h : k ≤ x.toInt) (q : b.toInt < k) : b < x := by rw [Int32.lt_iff_toInt_lt]; omega
theorem own_b8 {x b : Int32} {k : Int} (h : x.toInt ≤ k) (q : k ≤ b.toInt) : ¬ b < x := by rw [Int32.lt_iff_toInt_lt]; omega
theorem own_b9 {x b : Int32} {k : Int} (h : x.toInt ≤ k) (q : k < b.toInt) : ¬ x = b := fun e => by subst e; omega
theorem own_b10 {x b : Int32} {k : Int} (h : k ≤ x.toInt) (q : b.toInt < k) : ¬ x = b := fun e => by subst e; omega
theorem own_of_eq {x a : Int32} {P : Int32 → Prop} (h : x = a) (q : P a) : P x := h ▸ q
end OwnKit
section OwnHeap
variable {p : Program} {l : Launch} {e : Env} {R : Room} {s : State} {m : MethodId} {args : Array Value} {below : List Frame} {meth : Method} {c : Code} {T : State} {locs : List Loc} {cells slots : Nat} {Z : State} {a0 : Array Value} {h0 h : Heap} {n0 : Nat}
/-- the writes lie at or above n0, and q says the rest -/
def own_W (n0 : Nat) (q : Option Value → Heap → Prop) : Option Value → Heap → List Loc → Prop := fun v h L => Fr n0 L ∧ q v h
theorem own_newA (X : Stand p l e R s m args below meth c T locs cells slots) (hx : p.tables.exec = Jvm.exec) (hZ : Z.Warmed39 s.vm) {aty : ArrayType} (w : (Jvm.Cond.arrayClass (newarray.typeOf aty)).before a0 Z = true) (eT : T.heap = h) {pc : Nat} {Ls : Array Slot} (hd : decode c.code pc = .ok (.newarray aty, 2)) {n : Int32} {rest : List Value}
    (hn : ¬ n < 0) {cap : Nat} (hcap : n.toNatClampNeg ≤ cap) (hb : cap * 8 ≤ 536870912) (hc : cells + 1 ≤ R.cells) (hl : slots + cap ≤ R.slots) (len : Nat) {ad : String} (had : "[" ++ (newarray.typeOf aty).toString = ad) :
    ∃ T' h' k a, Stand p l e R s m args below meth c T' locs (cells + 1) (slots + cap) ∧ T'.heap = h' ∧ Ext h h' ∧ a = h.size ∧ Arv Z h' a k (newarray.typeOf aty) n (List.replicate len (defaultValue (newarray.typeOf aty))) (defaultValue (newarray.typeOf aty)) ∧ Exa Z h' a ad ∧
      ∀ target, Steps p.tables e below (T'.setTop (mkF m (pc + 2) Ls (.ref a :: rest))) target → Steps p.tables e below (T.setTop (mkF m pc Ls (.int n :: rest))) target := by
  obtain ⟨T', h', k, X', e', E, A, Ex, st⟩ := newPE X hx hZ w eT (g := mkF m pc Ls (.int n :: rest)) rfl hd rfl hn hcap hb hc hl had
  exact ⟨T', h', k, h.size, X', e', E, rfl, (Arv.new A hn).pad (fun i => by have := pad_rep [] (defaultValue (newarray.typeOf aty)) len i; rwa [List.nil_append] at this), Ex, st⟩
theorem own_stB (X : Stand p l e R s m args below meth c T locs cells slots) (N : Fr n0 locs) (hx : p.tables.exec = Jvm.exec) (hZ : Z.Warmed39 s.vm) (eT : T.heap = h) {a : Addr} {k : ClassId} {z : Int32} {vs : List Value} {d : Value} (V : Arv Z h a k .byte z vs d) (ga : n0 ≤ a) {j x : Int32} {i : Nat} (hj : ¬ j < 0 ∧ j < z) (hi : j.toNatClampNeg = i) (hl : i < vs.length)
    {pc : Nat} {Ls : Array Slot} {rest : List Value} (hd : decode c.code pc = .ok (.bastore, 1)) :
    ∃ T' h' L', Stand p l e R s m args below meth c T' L' cells slots ∧ Fr n0 L' ∧ T'.heap = h' ∧ Wr h h' a i (.int x.toInt8.toInt32) ∧ Arv Z h' a k .byte z (vs.set i (.int x.toInt8.toInt32)) d ∧
      ∀ target, Steps p.tables e below (T'.setTop (mkF m (pc + 1) Ls rest)) target → Steps p.tables e below (T.setTop (mkF m pc Ls (.int x :: .int j :: .ref a :: rest))) target := by
  obtain ⟨cl, Ar, q, S, Nn, H, G⟩ := V
  obtain ⟨T', h', X', e', W, st⟩ := stB X hx hZ eT Ar (j := j) (x := x) (inb_of S hj) (g := mkF m pc Ls (.int x :: .int j :: .ref a :: rest)) rfl rfl hd
  subst hi
  exact ⟨T', h', _, X', Fr.snoc X' N ga, e', W, Arv.set Ar q S Nn H G (fits_nar_byte x) W _ rfl hl, st⟩
theorem own_stI (X : Stand p l e R s m args below meth c T locs cells slots) (N : Fr n0 locs) (hx : p.tables.exec = Jvm.exec) (hZ : Z.Warmed39 s.vm) (eT : T.heap = h) {a : Addr} {k : ClassId} {z : Int32} {vs : List Value} {d : Value} (V : Arv Z h a k .int z vs d) (ga : n0 ≤ a) {j x : Int32} {i : Nat} (hj : ¬ j < 0 ∧ j < z) (hi : j.toNatClampNeg = i) (hl : i < vs.length)
    {pc : Nat} {Ls : Array Slot} {rest : List Value} (hd : decode c.code pc = .ok (.iastore, 1)) :
    ∃ T' h' L', Stand p l e R s m args below meth c T' L' cells slots ∧ Fr n0 L' ∧ T'.heap = h' ∧ Wr h h' a i (.int x) ∧ Arv Z h' a k .int z (vs.set i (.int x)) d ∧
      ∀ target, Steps p.tables e below (T'.setTop (mkF m (pc + 1) Ls rest)) target → Steps p.tables e below (T.setTop (mkF m pc Ls (.int x :: .int j :: .ref a :: rest))) target := by
  obtain ⟨cl, Ar, q, S, Nn, H, G⟩ := V
  obtain ⟨T', h', X', e', W, st⟩ := stI X hx hZ eT Ar (j := j) (x := x) (inb_of S hj) (g := mkF m pc Ls (.int x :: .int j :: .ref a :: rest)) rfl rfl hd
  subst hi
  exact ⟨T', h', _, X', Fr.snoc X' N ga, e', W, Arv.set Ar q S Nn H G rfl W _ rfl hl, st⟩
theorem own_stC (X : Stand p l e R s m args below meth c T locs cells slots) (N : Fr n0 locs) (hx : p.tables.exec = Jvm.exec) (hZ : Z.Warmed39 s.vm) (eT : T.heap = h) {a : Addr} {k : ClassId} {z : Int32} {vs : List Value} {d : Value} (V : Arv Z h a k .char z vs d) (ga : n0 ≤ a) {j x : Int32} {i : Nat} (hj : ¬ j < 0 ∧ j < z) (hi : j.toNatClampNeg = i) (hl : i < vs.length)
    {pc : Nat} {Ls : Array Slot} {rest : List Value} (hd : decode c.code pc = .ok (.castore, 1)) :
    ∃ T' h' L', Stand p l e R s m args below meth c T' L' cells slots ∧ Fr n0 L' ∧ T'.heap = h' ∧ Wr h h' a i (.int (nar .char x)) ∧ Arv Z h' a k .char z (vs.set i (.int (nar .char x))) d ∧
      ∀ target, Steps p.tables e below (T'.setTop (mkF m (pc + 1) Ls rest)) target → Steps p.tables e below (T.setTop (mkF m pc Ls (.int x :: .int j :: .ref a :: rest))) target := by
  obtain ⟨cl, Ar, q, S, Nn, H, G⟩ := V
  obtain ⟨T', h', X', e', W, st⟩ := stC X hx hZ eT Ar (j := j) (x := x) (inb_of S hj) (g := mkF m pc Ls (.int x :: .int j :: .ref a :: rest)) rfl rfl hd
  subst hi
  exact ⟨T', h', _, X', Fr.snoc X' N ga, e', W, Arv.set Ar q S Nn H G (fits_nar_char x) W _ rfl hl, st⟩
theorem own_ldB (X : Stand p l e R s m args below meth c T locs cells slots) (hx : p.tables.exec = Jvm.exec) (hZ : Z.Warmed39 s.vm) (eT : T.heap = h) {a : Addr} {k : ClassId} {z : Int32} {vs : List Value} {d v : Value} (V : Arv Z h a k .byte z vs d) {j : Int32} (hj : ¬ j < 0 ∧ j < z) (hv : vs.getD j.toNatClampNeg d = v)
    {pc : Nat} {Ls : Array Slot} {rest : List Value} (hd : decode c.code pc = .ok (.baload, 1)) (target : State) (hr : Steps p.tables e below (T.setTop (mkF m (pc + 1) Ls (v :: rest))) target) : Steps p.tables e below (T.setTop (mkF m pc Ls (.int j :: .ref a :: rest))) target := by
  obtain ⟨cl, Ar, q, S, Nn, H, G⟩ := V
  have hin := inb_of S hj
  refine X.baloadBytes hx (j := j) (v := v) (by rw [eT]; exact Ar.1) (State.isArrayOf_alike hZ.alike Ar.2.1) Ar.2.2 hin ?_ (g := mkF m pc Ls (.int j :: .ref a :: rest)) rfl rfl hd _ hr
  rw [H _ (Nat.lt_of_not_le fun q => hin (Or.inr q)), hv]
theorem own_ldI (X : Stand p l e R s m args below meth c T locs cells slots) (hx : p.tables.exec = Jvm.exec) (hZ : Z.Warmed39 s.vm) (eT : T.heap = h) {a : Addr} {k : ClassId} {z : Int32} {vs : List Value} {d v : Value} (V : Arv Z h a k .int z vs d) {j : Int32} (hj : ¬ j < 0 ∧ j < z) (hv : vs.getD j.toNatClampNeg d = v)
    {pc : Nat} {Ls : Array Slot} {rest : List Value} (hd : decode c.code pc = .ok (.iaload, 1)) (target : State) (hr : Steps p.tables e below (T.setTop (mkF m (pc + 1) Ls (v :: rest))) target) : Steps p.tables e below (T.setTop (mkF m pc Ls (.int j :: .ref a :: rest))) target := by
  obtain ⟨cl, Ar, q, S, Nn, H, G⟩ := V
  have hin := inb_of S hj
  refine X.iaload hx (j := j) (v := v) (by rw [eT]; exact Ar.1) (State.isArrayOf_alike hZ.alike Ar.2.1) Ar.2.2 hin ?_ (g := mkF m pc Ls (.int j :: .ref a :: rest)) rfl rfl hd _ hr
  rw [H _ (Nat.lt_of_not_le fun q => hin (Or.inr q)), hv]
theorem own_ldC (X : Stand p l e R s m args below meth c T locs cells slots) (hx : p.tables.exec = Jvm.exec) (hZ : Z.Warmed39 s.vm) (eT : T.heap = h) {a : Addr} {k : ClassId} {z : Int32} {vs : List Value} {d v : Value} (V : Arv Z h a k .char z vs d) {j : Int32} (hj : ¬ j < 0 ∧ j < z) (hv : vs.getD j.toNatClampNeg d = v)
    {pc : Nat} {Ls : Array Slot} {rest : List Value} (hd : decode c.code pc = .ok (.caload, 1)) (target : State) (hr : Steps p.tables e below (T.setTop (mkF m (pc + 1) Ls (v :: rest))) target) : Steps p.tables e below (T.setTop (mkF m pc Ls (.int j :: .ref a :: rest))) target := by
  obtain ⟨cl, Ar, q, S, Nn, H, G⟩ := V
  have hin := inb_of S hj
  refine X.caload hx (j := j) (v := v) (by rw [eT]; exact Ar.1) (State.isArrayOf_alike hZ.alike Ar.2.1) Ar.2.2 hin ?_ (g := mkF m pc Ls (.int j :: .ref a :: rest)) rfl rfl hd _ hr
  rw [H _ (Nat.lt_of_not_le fun q => hin (Or.inr q)), hv]
theorem own_len (X : Stand p l e R s m args below meth c T locs cells slots) (hx : p.tables.exec = Jvm.exec) (hZ : Z.Warmed39 s.vm) (eT : T.heap = h) {a : Addr} {k : ClassId} {ty : FieldType} {z : Int32} {vs : List Value} {d : Value} (V : Arv Z h a k ty z vs d)
    {pc : Nat} {Ls : Array Slot} {rest : List Value} (hd : decode c.code pc = .ok (.arraylength, 1)) (target : State) (hr : Steps p.tables e below (T.setTop (mkF m (pc + 1) Ls (.int z :: rest))) target) : Steps p.tables e below (T.setTop (mkF m pc Ls (.ref a :: rest))) target := by
  obtain ⟨cl, Ar, q, S, Nn, H, G⟩ := V
  refine X.arraylength hx (by rw [eT]; exact Ar.1) (State.isArrayOf_alike hZ.alike Ar.2.1) (g := mkF m pc Ls (.ref a :: rest)) rfl rfl hd _ ?_
  rw [len_of S Nn]
  exact hr
/-- an array cloned -/
theorem own_clone (X : Stand p l e R s m args below meth c T locs cells slots) (hx : p.tables.exec = Jvm.exec) (hZ : Z.Warmed39 s.vm) {own ad : String} {index : Nat} (hown : s.vm.findClass own = some m.cls)
    (w1 : (Jvm.Cond.methodLink own index ⟨ad, "clone", "()Ljava/lang/Object;"⟩).before a0 Z = true) (w2 : (Jvm.Cond.sameMethod ad "java/lang/Object" "clone" "()Ljava/lang/Object;").before a0 Z = true) (w3 : (Jvm.Cond.native ⟨"java/lang/Object", "clone", "()Ljava/lang/Object;"⟩).before a0 Z = true)
    (w4 : (Jvm.Cond.instanceMethod ⟨"java/lang/Object", "clone", "()Ljava/lang/Object;"⟩).before a0 Z = true) (w5 : (Jvm.Cond.selects ad ⟨ad, "clone", "()Ljava/lang/Object;"⟩ ⟨"java/lang/Object", "clone", "()Ljava/lang/Object;"⟩).before a0 Z = true) (w6 : (Jvm.Cond.castable ad "java/lang/Cloneable").before a0 Z = true)
    (eT : T.heap = h) {a : Addr} {k : ClassId} {ty : FieldType} {z : Int32} {vs : List Value} {dv : Value} (F : Arv Z h a k ty z vs dv) (E : Exa Z h a ad) {pc : Nat} {Ls : Array Slot} {rest : List Value} (hsize : Ls.size = c.maxLocals) (hd : decode c.code pc = .ok (.invokevirtual index, 3))
    (hf : 1 ≤ R.frames) {W cap : Nat} (hW : 2 * 0 + (rest.map fun v => v.category).sum ≤ W) (hl : W + 14 ≤ R.locals) (hcap : z.toNatClampNeg ≤ cap) (hc : cells + 1 ≤ R.cells) (hsl : slots + cap ≤ R.slots) :
    ∃ T' h' b, Stand p l e R s m args below meth c T' locs (cells + 1) (slots + cap) ∧ T'.heap = h' ∧ Ext h h' ∧ b = h.size ∧ Arv Z h' b k ty z vs dv ∧ Exa Z h' b ad ∧
      ∀ target, Steps p.tables e below (T'.setTop (mkF m (pc + 3) Ls (.ref b :: rest))) target → Steps p.tables e below (T.setTop (mkF m pc Ls (.ref a :: rest))) target := by
  obtain ⟨T', h', X', e', ex, V, E', st⟩ := cloneH X hx hZ hown w1 w2 w3 w4 w5 w6 eT F.arh E (g := mkF m pc Ls (.ref a :: rest)) rfl hsize rfl hd hf hW hl hcap hc hsl
  exact ⟨T', h', h.size, X', e', ex, rfl, V, E', st⟩
/-- a field written -/
theorem own_putF (X : Stand p l e R s m args below meth c T locs cells slots) (N : Fr n0 locs) (hx : p.tables.exec = Jvm.exec) (hZ : Z.Warmed39 s.vm) {own O n d C : String} {index kk : Nat} {ty : FieldType} (hown : s.vm.findClass own = some m.cls) (w : (Jvm.Cond.fieldLink own index O n d).before a0 Z = true)
    (eT : T.heap = h) {a : Addr} {v old : Value} (F : Fld Z h a O n d old) (E : Exa Z h a C) (L : (Jvm.Cond.lays C O n d).before a0 Z = true ∨ ((Jvm.Cond.laysFinal C O n d).before a0 Z = true ∧ own = O ∧ meth.name = "<init>")) (wi : (Jvm.Cond.instantiable C kk).before a0 Z = true) (ga : n0 ≤ a)
    (hty : parseFieldDescriptor d = some ty) (hn : narrow ty v = v) (hf : fits ty v = true) {pc : Nat} {Ls : Array Slot} {rest : List Value} (hd : decode c.code pc = .ok (.putfield index, 3)) :
    ∃ T' h' L', Stand p l e R s m args below meth c T' L' cells slots ∧ Fr n0 L' ∧ T'.heap = h' ∧ Wr h h' a (Jvm.RoadKit.slotOf Z O n d) v ∧ Fld Z h' a O n d v ∧
      ∀ target, Steps p.tables e below (T'.setTop (mkF m (pc + 3) Ls rest)) target → Steps p.tables e below (T.setTop (mkF m pc Ls (v :: .ref a :: rest))) target := by
  obtain ⟨T', h', X', e', W, st⟩ := putF X hx hZ hown (host := "") (Or.inl w) Via.refl eT F E L wi hty hn hf (g := mkF m pc Ls (v :: .ref a :: rest)) rfl rfl hd
  exact ⟨T', h', _, X', Fr.snoc X' N ga, e', W, F.same W, st⟩
theorem own_putFN (X : Stand p l e R s m args below meth c T locs cells slots) (N : Fr n0 locs) (hx : p.tables.exec = Jvm.exec) (hZ : Z.Warmed39 s.vm) {own O n d C : String} {index kk : Nat} {ty : FieldType} (hown : s.vm.findClass own = some m.cls) (w : (Jvm.Cond.fieldLink own index O n d).before a0 Z = true)
    (eT : T.heap = h) {a : Addr} {v v' old : Value} (F : Fld Z h a O n d old) (E : Exa Z h a C) (L : (Jvm.Cond.lays C O n d).before a0 Z = true ∨ ((Jvm.Cond.laysFinal C O n d).before a0 Z = true ∧ own = O ∧ meth.name = "<init>")) (wi : (Jvm.Cond.instantiable C kk).before a0 Z = true) (ga : n0 ≤ a)
    (hty : parseFieldDescriptor d = some ty) (hn : narrow ty v = v') (hf : fits ty v' = true) {pc : Nat} {Ls : Array Slot} {rest : List Value} (hd : decode c.code pc = .ok (.putfield index, 3)) :
    ∃ T' h' L', Stand p l e R s m args below meth c T' L' cells slots ∧ Fr n0 L' ∧ T'.heap = h' ∧ Wr h h' a (Jvm.RoadKit.slotOf Z O n d) v' ∧ Fld Z h' a O n d v' ∧
      ∀ target, Steps p.tables e below (T'.setTop (mkF m (pc + 3) Ls rest)) target → Steps p.tables e below (T.setTop (mkF m pc Ls (v :: .ref a :: rest))) target := by
  obtain ⟨T', h', X', e', W, st⟩ := putFN X hx hZ hown w Via.refl eT F E L wi hty hn hf (g := mkF m pc Ls (v :: .ref a :: rest)) rfl rfl hd
  exact ⟨T', h', _, X', Fr.snoc X' N ga, e', W, F.same W, st⟩
/-- new -/
theorem own_newO (X : Stand p l e R s m args below meth c T locs cells slots) (hx : p.tables.exec = Jvm.exec) (hZ : Z.Warmed39 s.vm) {own C : String} {index n : Nat} (hown : s.vm.findClass own = some m.cls) (w : (Jvm.Cond.classLink own index C).before a0 Z = true) (wi : (Jvm.Cond.instantiable C n).before a0 Z = true) (wz : (Jvm.Cond.initialized C).before a0 Z = true) (eT : T.heap = h)
    {pc : Nat} {Ls : Array Slot} {rest : List Value} (hd : decode c.code pc = .ok (.new index, 3)) (hc : cells + 1 ≤ R.cells) (hl : slots + n ≤ R.slots) :
    ∃ T' h' a, Stand p l e R s m args below meth c T' locs (cells + 1) (slots + n) ∧ T'.heap = h' ∧ Ext h h' ∧ a = h.size ∧ Exa Z h' a C ∧ (∀ {O nm d : String} {ty : FieldType}, Laid Z a0 C O nm d → parseFieldDescriptor d = some ty → Fld Z h' a O nm d (defaultValue ty)) ∧
      ∀ target, Steps p.tables e below (T'.setTop (mkF m (pc + 3) Ls (.ref a :: rest))) target → Steps p.tables e below (T.setTop (mkF m pc Ls rest)) target := by
  obtain ⟨T', h', X', e', E, A, D, -, st⟩ := newO X hx hZ hown w wi wz eT (g := mkF m pc Ls rest) rfl hd hc hl
  exact ⟨T', h', h.size, X', e', E, rfl, A, D, st⟩
/-- a static method that may write and make -/
theorem own_callSW {own : String} {index : Nat} {y : MethodName} {bytes : ByteArray} {maxL W : Nat} {ret : Option FieldType} {rm : Room} {as : Array Value} {q : Option Value → Heap → Prop}
    (X : Stand p l e R s m args below meth c T locs cells slots) (N : Fr n0 locs) (hx : p.tables.exec = Jvm.exec) (hZ : Z.Warmed39 s.vm) (hown : s.vm.findClass own = some m.cls)
    (w1 : (Jvm.Cond.methodLink own index y).before a0 Z = true) (w2 : (Jvm.Cond.static y).before a0 Z = true) (w3 : (Jvm.Cond.initialized y.cls).before a0 Z = true) (w4 : (Jvm.Cond.code y bytes maxL ret).before a0 Z = true)
    (hy : y.cls ≠ "java/lang/invoke/MethodHandle" ∧ y.cls ≠ "java/lang/invoke/VarHandle") (hM : own_C l Z y bytes maxL ret [] rm as h (own_W n0 q))
    (hf : rm.frames + 1 ≤ R.frames) (hl : W + (maxL + 11) + rm.locals ≤ R.locals) (hcc : cells + rm.cells ≤ R.cells) (hss : slots + rm.slots ≤ R.slots) (e0 : T.heap = h)
    {pc : Nat} {Ls : Array Slot} {st argsL rest : List Value} (hsize : Ls.size = c.maxLocals) (hlen : ∀ sig, parseMethodDescriptor y.desc = some sig → argsL.length = sig.parameters.length) (has : argsL.toArray = as)
    (hst : st = argsL.reverse ++ rest) (hW : 2 * 0 + (rest.map fun v => v.category).sum ≤ W) (hd : decode c.code pc = .ok (.invokestatic index, 3)) :
    ∃ (v : Option Value) (T' : State) (h' : Heap) (L' : List Loc), Stand p l e R s m args below meth c T' L' (cells + rm.cells) (slots + rm.slots) ∧ Fr n0 L' ∧ T'.heap = h' ∧ q v h' ∧
      ∀ target, Steps p.tables e below (T'.setTop (mkF m (pc + 3) Ls (v.toList ++ rest))) target → Steps p.tables e below (T.setTop (mkF m pc Ls st)) target := by
  obtain ⟨v, T', L, X', ⟨N', hq⟩, stp⟩ := own_callS X hx hZ hown w1 w2 w3 w4 hy hM hf hl hcc hss e0 hsize hlen has hst hW hd
  exact ⟨v, T', _, _, X', N.app N', rfl, hq, stp⟩
/-- a constructor by its contract -/
theorem own_callI {own : String} {index : Nat} {y : MethodName} {bytes : ByteArray} {maxL W : Nat} {rm : Room} {as : Array Value} {q : Option Value → Heap → Prop} {a : Addr}
    (X : Stand p l e R s m args below meth c T locs cells slots) (N : Fr n0 locs) (hx : p.tables.exec = Jvm.exec) (hZ : Z.Warmed39 s.vm) (hy1 : y.name = "<init>") (hown : s.vm.findClass own = some m.cls)
    (w1 : (Jvm.Cond.methodLink own index y).before a0 Z = true) (w2 : (Jvm.Cond.instanceMethod y).before a0 Z = true) (w3 : (Jvm.Cond.initialized y.cls).before a0 Z = true) (w4 : (Jvm.Cond.code y bytes maxL none).before a0 Z = true)
    (hy : y.cls ≠ "java/lang/invoke/MethodHandle" ∧ y.cls ≠ "java/lang/invoke/VarHandle") (hM : own_C l Z y bytes maxL none [] rm as h (own_W n0 q))
    (hf : rm.frames + 1 ≤ R.frames) (hl : W + (maxL + 11) + rm.locals ≤ R.locals) (hcc : cells + rm.cells ≤ R.cells) (hss : slots + rm.slots ≤ R.slots) (e0 : T.heap = h)
    {pc : Nat} {Ls : Array Slot} {st argsL rest : List Value} (hsize : Ls.size = c.maxLocals) (hlen : ∀ sig, parseMethodDescriptor y.desc = some sig → argsL.length = sig.parameters.length) (has : (Value.ref a :: argsL).toArray = as)
    (hst : st = argsL.reverse ++ .ref a :: rest) (hW : 2 * 0 + (rest.map fun v => v.category).sum ≤ W) (hd : decode c.code pc = .ok (.invokespecial index, 3)) :
    ∃ (v : Option Value) (T' : State) (h' : Heap) (L' : List Loc), Stand p l e R s m args below meth c T' L' (cells + rm.cells) (slots + rm.slots) ∧ Fr n0 L' ∧ T'.heap = h' ∧ q v h' ∧
      ∀ target, Steps p.tables e below (T'.setTop (mkF m (pc + 3) Ls (v.toList ++ rest))) target → Steps p.tables e below (T.setTop (mkF m pc Ls st)) target := by
  obtain ⟨v, _, ⟨T', L', k', n'⟩, -, X', ⟨Lc, ⟨N', hq⟩, h1, h2, h3⟩, stp⟩ := X.specialBack hx (y := y) hy1 hown (mvT hZ w1) (mvT hZ w2) (mvT hZ w4) hy
    (backOf (W := W) hM hZ w4 w3 hf hl) (g := mkF m pc Ls st) rfl hsize (Steps.refl _) (a := a) (argsL := argsL) (rest := rest) hlen hst hW hd (fun _ _ => ⟨has, e0, hcc, hss⟩)
  dsimp only [Pt.U, Pt.locs, Pt.cells, Pt.slots] at X' h1 h2 h3 stp hq
  subst h1 h2 h3
  exact ⟨v, T', _, _, X', N.app N', rfl, hq, fun t k => stp.trans k⟩
/-- an instance method by its contract -/
theorem own_callV {own C : String} {index : Nat} {y z : MethodName} {bytes : ByteArray} {maxL W : Nat} {ret : Option FieldType} {rm : Room} {as : Array Value} {q : Option Value → Heap → Prop} {a : Addr}
    (X : Stand p l e R s m args below meth c T locs cells slots) (N : Fr n0 locs) (hx : p.tables.exec = Jvm.exec) (hZ : Z.Warmed39 s.vm) (hown : s.vm.findClass own = some m.cls)
    (w1 : (Jvm.Cond.methodLink own index y).before a0 Z = true) (w2 : (Jvm.Cond.declares y).before a0 Z = true) (hnf : NotFace s y) (ws : (Jvm.Cond.selects C y z).before a0 Z = true) (wi : (Jvm.Cond.instanceMethod z).before a0 Z = true) (w3 : (Jvm.Cond.initialized z.cls).before a0 Z = true) (w4 : (Jvm.Cond.code z bytes maxL ret).before a0 Z = true)
    (hy : y.cls ≠ "java/lang/invoke/MethodHandle" ∧ y.cls ≠ "java/lang/invoke/VarHandle") (hM : own_C l Z z bytes maxL ret [] rm as h (own_W n0 q))
    (hf : rm.frames + 1 ≤ R.frames) (hl : W + (maxL + 11) + rm.locals ≤ R.locals) (hcc : cells + rm.cells ≤ R.cells) (hss : slots + rm.slots ≤ R.slots) (e0 : T.heap = h) (E : Exa Z h a C)
    {pc : Nat} {Ls : Array Slot} {st argsL rest : List Value} (hsize : Ls.size = c.maxLocals) (hlen : ∀ sig, parseMethodDescriptor y.desc = some sig → argsL.length = sig.parameters.length) (has : (Value.ref a :: argsL).toArray = as)
    (hst : st = argsL.reverse ++ .ref a :: rest) (hW : 2 * 0 + (rest.map fun v => v.category).sum ≤ W) (hd : decode c.code pc = .ok (.invokevirtual index, 3)) :
    ∃ (v : Option Value) (T' : State) (h' : Heap) (L' : List Loc), Stand p l e R s m args below meth c T' L' (cells + rm.cells) (slots + rm.slots) ∧ Fr n0 L' ∧ T'.heap = h' ∧ q v h' ∧
      ∀ target, Steps p.tables e below (T'.setTop (mkF m (pc + 3) Ls (v.toList ++ rest))) target → Steps p.tables e below (T.setTop (mkF m pc Ls st)) target := by
  obtain ⟨cq, kq, qa, qb, qc⟩ := isOf hZ e0 E
  obtain ⟨v, _, ⟨T', L', k', n'⟩, -, X', ⟨Lc, ⟨N', hq⟩, h1, h2, h3⟩, stp⟩ := X.virtualBack hx (y := y) (z := z) hown (mvT hZ w1) (mvT hZ w2) hnf (mvT hZ ws) (mvT hZ wi) hy
    (backOf (W := W) hM hZ w4 w3 hf hl) qa qc (g := mkF m pc Ls st) rfl hsize (Steps.refl _) (argsL := argsL) (rest := rest) hlen hst hW hd (fun _ _ => ⟨has, e0, hcc, hss⟩)
  dsimp only [Pt.U, Pt.locs, Pt.cells, Pt.slots] at X' h1 h2 h3 stp hq
  subst h1 h2 h3
  exact ⟨v, T', _, _, X', N.app N', rfl, hq, fun t k => stp.trans k⟩
/-- an instance method that leaves the heap as it was -/
theorem own_callVP {own C : String} {index : Nat} {y z : MethodName} {bytes : ByteArray} {maxL W : Nat} {ret : Option FieldType} {rm : Room} {as : Array Value} {w : Value} {a : Addr}
    (X : Stand p l e R s m args below meth c T locs cells slots) (hx : p.tables.exec = Jvm.exec) (hZ : Z.Warmed39 s.vm) (hown : s.vm.findClass own = some m.cls)
    (w1 : (Jvm.Cond.methodLink own index y).before a0 Z = true) (w2 : (Jvm.Cond.declares y).before a0 Z = true) (hnf : NotFace s y) (ws : (Jvm.Cond.selects C y z).before a0 Z = true) (wi : (Jvm.Cond.instanceMethod z).before a0 Z = true) (w3 : (Jvm.Cond.initialized z.cls).before a0 Z = true) (w4 : (Jvm.Cond.code z bytes maxL ret).before a0 Z = true)
    (hy : y.cls ≠ "java/lang/invoke/MethodHandle" ∧ y.cls ≠ "java/lang/invoke/VarHandle") (hM : own_C l Z z bytes maxL ret [] rm as h (own_Q w h))
    (hf : rm.frames + 1 ≤ R.frames) (hl : W + (maxL + 11) + rm.locals ≤ R.locals) (hrc : rm.cells = 0) (hrs : rm.slots = 0) (hcc : cells + rm.cells ≤ R.cells) (hss : slots + rm.slots ≤ R.slots) (e0 : T.heap = h) (E : Exa Z h a C)
    {pc : Nat} {Ls : Array Slot} {st argsL rest : List Value} (hsize : Ls.size = c.maxLocals) (hlen : ∀ sig, parseMethodDescriptor y.desc = some sig → argsL.length = sig.parameters.length) (has : (Value.ref a :: argsL).toArray = as)
    (hst : st = argsL.reverse ++ .ref a :: rest) (hW : 2 * 0 + (rest.map fun v => v.category).sum ≤ W) (hd : decode c.code pc = .ok (.invokevirtual index, 3)) :
    ∃ (T' : State), Stand p l e R s m args below meth c T' locs cells slots ∧ T'.heap = h ∧
      ∀ target, Steps p.tables e below (T'.setTop (mkF m (pc + 3) Ls (w :: rest))) target → Steps p.tables e below (T.setTop (mkF m pc Ls st)) target := by
  obtain ⟨cq, kq, qa, qb, qc⟩ := isOf hZ e0 E
  obtain ⟨v, _, ⟨T', L', k', n'⟩, -, X', ⟨Lc, ⟨rfl, rfl, hh⟩, h1, h2, h3⟩, stp⟩ := X.virtualBack hx (y := y) (z := z) hown (mvT hZ w1) (mvT hZ w2) hnf (mvT hZ ws) (mvT hZ wi) hy
    (backOf (W := W) hM hZ w4 w3 hf hl) qa qc (g := mkF m pc Ls st) rfl hsize (Steps.refl _) (argsL := argsL) (rest := rest) hlen hst hW hd (fun _ _ => ⟨has, e0, hcc, hss⟩)
  dsimp only [Pt.U, Pt.locs, Pt.cells, Pt.slots] at X' h1 h2 h3 stp hh
  subst h1 h2 h3
  rw [List.append_nil, hrc, hrs] at X'
  exact ⟨T', X', hh, fun t k => stp.trans k⟩
theorem own_ke {h h' : Heap} (K : Keep h h' []) : Ext h h' := ⟨K.1, fun a c q => K.2.1 a c q (by simp)⟩
theorem own_ldA (X : Stand p l e R s m args below meth c T locs cells slots) (hx : p.tables.exec = Jvm.exec) (hZ : Z.Warmed39 s.vm) (eT : T.heap = h) {a : Addr} {k : ClassId} {ty : FieldType} {z : Int32} {vs : List Value} {d v : Value} (V : Arv Z h a k ty z vs d) (hty : ty.isReference = true) {j : Int32} (hj : ¬ j < 0 ∧ j < z) (hv : vs.getD j.toNatClampNeg d = v)
    {pc : Nat} {Ls : Array Slot} {rest : List Value} (hd : decode c.code pc = .ok (.aaload, 1)) (target : State) (hr : Steps p.tables e below (T.setTop (mkF m (pc + 1) Ls (v :: rest))) target) : Steps p.tables e below (T.setTop (mkF m pc Ls (.int j :: .ref a :: rest))) target := by
  obtain ⟨cl, Ar, q, S, Nn, H, G⟩ := V
  have hin := inb_of S hj
  refine X.aaload hx (j := j) (v := v) (by rw [eT]; exact Ar.1) (State.isArrayOf_alike hZ.alike Ar.2.1) hty Ar.2.2 hin ?_ (g := mkF m pc Ls (.int j :: .ref a :: rest)) rfl rfl hd _ hr
  rw [H _ (Nat.lt_of_not_le fun q => hin (Or.inr q)), hv]
end OwnHeap
theorem own_pd0 : parseMethodDescriptor "([B[B)V" = some ⟨[(.array .byte), (.array .byte)], none⟩ := by decide +kernel
theorem own_pd1 : parseMethodDescriptor "()[B" = some ⟨[], some (.array .byte)⟩ := by decide +kernel
theorem own_pd2 : parseMethodDescriptor "([BIBBB)Z" = some ⟨[(.array .byte), .int, .byte, .byte, .byte], some .boolean⟩ := by decide +kernel
theorem own_and3 (x : Int32) : x &&& 3 = 0 ∨ x &&& 3 = 1 ∨ x &&& 3 = 2 ∨ x &&& 3 = 3 := by
  have h := c_mask x 3 2 (by decide) (by decide)
  simp only [← Int32.toInt_inj, show (0 : Int32).toInt = 0 from rfl, show (1 : Int32).toInt = 1 from rfl, show (2 : Int32).toInt = 2 from rfl, show (3 : Int32).toInt = 3 from rfl]
  omega
theorem own_i2b {p v : Int32} (h : (p.toInt8.toInt32) = v) : (v.toInt8.toInt32) = v := by
  subst h
  have h1 := c_i2b p
  have h2 := c_i2b (p.toInt8.toInt32)
  rw [← Int32.toInt_inj]
  omega
theorem own_d1_0 : decode prog_36_method_1_code 0 = .ok (.aload_n 0, 1) := by decide +kernel
theorem own_d1_1 : decode prog_36_method_1_code 1 = .ok (.invokespecial 1, 3) := by decide +kernel
theorem own_d1_4 : decode prog_36_method_1_code 4 = .ok (.aload_n 0, 1) := by decide +kernel
theorem own_d1_5 : decode prog_36_method_1_code 5 = .ok (.aload_n 1, 1) := by decide +kernel
theorem own_d1_6 : decode prog_36_method_1_code 6 = .ok (.putfield 7, 3) := by decide +kernel
theorem own_d1_9 : decode prog_36_method_1_code 9 = .ok (.aload_n 0, 1) := by decide +kernel
theorem own_d1_10 : decode prog_36_method_1_code 10 = .ok (.aload_n 2, 1) := by decide +kernel
theorem own_d1_11 : decode prog_36_method_1_code 11 = .ok (.putfield 13, 3) := by decide +kernel
theorem own_d1_14 : decode prog_36_method_1_code 14 = .ok (.return_, 1) := by decide +kernel
abbrev own_init1_R : Room := { frames := 1, cells := 0, slots := 0, locals := 12 }
theorem own_pn1 : plainFor (⟨"com/example/clementi/clementi/store/KeyRange", "<init>", "([B[B)V"⟩ : MethodName) = true := plainFor_of_name (by first | (simp [plainName, overriddenIn]; done) | decide +kernel)
theorem own_init1_ef (m : MethodId) (a1 : Addr) (r1 : Addr) : entryFrame m #[(.ref a1), (.ref r1), .null] 3 = mkF m 0 #[.val (.ref a1), .val (.ref r1), .val .null] [] := by first | (simp [entryFrame, mkF, argsToLocals, Value.category]; done) | rfl
def own_init1_q (Z : State) (a1 : Addr) (r1 : Addr) (u1 : Value) (u2 : Value) (h0 : Heap) (v : Option Value) (h : Heap) : Prop := v = none ∧ Keep h0 h [a1] ∧ Exa Z h a1 "com/example/clementi/clementi/store/KeyRange" ∧ Fld Z h a1 "com/example/clementi/clementi/store/KeyRange" "prefix" "[B" (.ref r1) ∧ Fld Z h a1 "com/example/clementi/clementi/store/KeyRange" "end" "[B" .null
set_option maxRecDepth 65536 in
set_option maxHeartbeats 40000000 in
theorem own_init1 (l : Launch) (Z : State) (a0 : Array Value) (hw : ∀ d ∈ tables_1, d.before a0 Z = true) (ws : List Jvm.Cond) (a1 : Addr) (r1 : Addr) (u1 : Value) (u2 : Value) (h0 : Heap) (n0 : Nat) (Z0 : n0 ≤ h0.size) (i_E1 : Exa Z h0 a1 "com/example/clementi/clementi/store/KeyRange") (i_F1 : Fld Z h0 a1 "com/example/clementi/clementi/store/KeyRange" "prefix" "[B" u1) (i_F2 : Fld Z h0 a1 "com/example/clementi/clementi/store/KeyRange" "end" "[B" u2) (g_a1 : n0 ≤ a1) :
    own_C l Z (⟨"com/example/clementi/clementi/store/KeyRange", "<init>", "([B[B)V"⟩ : MethodName) prog_36_method_1_code 3 none ws own_init1_R #[(.ref a1), (.ref r1), .null] h0 (own_W n0 (own_init1_q Z a1 r1 u1 u2 h0)) := by
  refine MetFree.of_bodySF own_pn1 hisR ?_
  intro p e s m args below meth c s₁ Bd hml0 hP hK
  obtain ⟨rfl, hZ, hh⟩ := hP
  have hx := Bd.exec
  have hby := Bd.bytes
  have hml : c.maxLocals = 3 := hml0
  have hown : s.vm.findClass "com/example/clementi/clementi/store/KeyRange" = some m.cls := findClass_of_methodNamed Bd.named
  have hnm := (name_of_methodNamed Bd.named Bd.method).1
  have X0 : Stand p l e own_init1_R s m #[(.ref a1), (.ref r1), .null] below meth c s₁ [] 0 0 := Stand.of_body Bd
  have e0 : s₁.heap = h0 := by rw [← hh, Bd.state]; rfl
  have N0 := Fr.nil n0
  have K0 : Keep h0 h0 [a1] := Keep.refl h0 _
  show own_G p e below (own_P s (own_W n0 (own_init1_q Z a1 r1 u1 u2 h0)) own_init1_R.cells own_init1_R.slots) (s₁.setTop (entryFrame m #[(.ref a1), (.ref r1), .null] 3))
  rw [own_init1_ef m a1 r1]
  show own_G p e below _ (s₁.setTop (mkF m 0 #[.val (.ref a1), .val (.ref r1), .val .null] []))
  refine own_via (fun t k => XS.aloadN X0.here hx rfl (hb hby own_d1_0) rfl rfl k) ?_
  show own_G p e below _ (s₁.setTop (mkF m 1 #[.val (.ref a1), .val (.ref r1), .val .null] [(.ref a1)]))
  obtain ⟨T1, X1, e1, st1⟩ := initO X0 hx hZ hown (hw _ (List.mem_of_getElem? (i := 7) rfl)) (hw _ (List.mem_of_getElem? (i := 8) rfl)) (hw _ (List.mem_of_getElem? (i := 9) rfl)) e0 (g := (mkF m 1 #[.val (.ref a1), .val (.ref r1), .val .null] [(.ref a1)])) rfl (by rw [hml]; rfl) rfl (hb hby own_d1_1) (by decide) (W := 0) (by show 2 * 0 + _ ≤ _; exact Nat.le_of_eq rfl) (by decide)
  refine own_via st1 ?_
  show own_G p e below _ (T1.setTop (mkF m 4 #[.val (.ref a1), .val (.ref r1), .val .null] []))
  refine own_via (fun t k => XS.aloadN X1.here hx rfl (hb hby own_d1_4) rfl rfl k) ?_
  show own_G p e below _ (T1.setTop (mkF m 5 #[.val (.ref a1), .val (.ref r1), .val .null] [(.ref a1)]))
  refine own_via (fun t k => XS.aloadN X1.here hx rfl (hb hby own_d1_5) rfl rfl k) ?_
  show own_G p e below _ (T1.setTop (mkF m 6 #[.val (.ref a1), .val (.ref r1), .val .null] [(.ref r1), (.ref a1)]))
  obtain ⟨T2, h2, L2, X2, N2, e2, W2, F2, st2⟩ := own_putF X1 N0 hx hZ hown (hw _ (List.mem_of_getElem? (i := 10) rfl)) e1 i_F1 i_E1 (Or.inr ⟨(hw _ (List.mem_of_getElem? (i := 11) rfl)), rfl, hnm⟩) (hw _ (List.mem_of_getElem? (i := 2) rfl)) g_a1 (ty := (.array .byte)) (v := (.ref r1)) (by decide) rfl rfl (pc := 6) (Ls := #[.val (.ref a1), .val (.ref r1), .val .null]) (rest := []) (hb hby own_d1_6)
  refine own_via st2 ?_
  have f3 : Exa Z h2 a1 "com/example/clementi/clementi/store/KeyRange" := i_E1.wr W2
  have f4 : Fld Z h2 a1 "com/example/clementi/clementi/store/KeyRange" "end" "[B" u2 := i_F2.other W2 (Or.inr (slot_ne (Or.inr (hw _ (List.mem_of_getElem? (i := 13) rfl))) (Or.inr (hw _ (List.mem_of_getElem? (i := 11) rfl))) (by decide) (t := (.array .byte)) (t' := (.array .byte)) (by decide) (by decide)))
  have Kp5 : Keep h0 h2 [a1] := K0.wr W2 (Or.inl (List.mem_of_getElem? (i := 0) rfl))
  have Zs6 : n0 ≤ h2.size := by rw [W2.size]; exact Z0
  show own_G p e below _ (T2.setTop (mkF m 9 #[.val (.ref a1), .val (.ref r1), .val .null] []))
  refine own_via (fun t k => XS.aloadN X2.here hx rfl (hb hby own_d1_9) rfl rfl k) ?_
  show own_G p e below _ (T2.setTop (mkF m 10 #[.val (.ref a1), .val (.ref r1), .val .null] [(.ref a1)]))
  refine own_via (fun t k => XS.aloadN X2.here hx rfl (hb hby own_d1_10) rfl rfl k) ?_
  show own_G p e below _ (T2.setTop (mkF m 11 #[.val (.ref a1), .val (.ref r1), .val .null] [.null, (.ref a1)]))
  obtain ⟨T7, h7, L7, X7, N7, e7, W7, F7, st7⟩ := own_putF X2 N2 hx hZ hown (hw _ (List.mem_of_getElem? (i := 12) rfl)) e2 f4 f3 (Or.inr ⟨(hw _ (List.mem_of_getElem? (i := 13) rfl)), rfl, hnm⟩) (hw _ (List.mem_of_getElem? (i := 2) rfl)) g_a1 (ty := (.array .byte)) (v := .null) (by decide) rfl rfl (pc := 11) (Ls := #[.val (.ref a1), .val (.ref r1), .val .null]) (rest := []) (hb hby own_d1_11)
  refine own_via st7 ?_
  have f8 : Exa Z h7 a1 "com/example/clementi/clementi/store/KeyRange" := f3.wr W7
  have f9 : Fld Z h7 a1 "com/example/clementi/clementi/store/KeyRange" "prefix" "[B" (.ref r1) := F2.other W7 (Or.inr (slot_ne (Or.inr (hw _ (List.mem_of_getElem? (i := 11) rfl))) (Or.inr (hw _ (List.mem_of_getElem? (i := 13) rfl))) (by decide) (t := (.array .byte)) (t' := (.array .byte)) (by decide) (by decide)))
  have Kp10 : Keep h0 h7 [a1] := Kp5.wr W7 (Or.inl (List.mem_of_getElem? (i := 0) rfl))
  have Zs11 : n0 ≤ h7.size := by rw [W7.size]; exact Zs6
  show own_G p e below _ (T7.setTop (mkF m 14 #[.val (.ref a1), .val (.ref r1), .val .null] []))
  exact own_retV X7 hx Bd.returns Bd.notSynchronized (hb hby own_d1_14) (by rw [e7]; exact ⟨N7, rfl, Kp10, f8, f9, F7⟩) (by decide) (by decide)
abbrev own_init0_R : Room := { frames := 1, cells := 0, slots := 0, locals := 12 }
theorem own_init0_ef (m : MethodId) (a1 : Addr) (r1 : Addr) (r2 : Addr) : entryFrame m #[(.ref a1), (.ref r1), (.ref r2)] 3 = mkF m 0 #[.val (.ref a1), .val (.ref r1), .val (.ref r2)] [] := by first | (simp [entryFrame, mkF, argsToLocals, Value.category]; done) | rfl
def own_init0_q (Z : State) (a1 : Addr) (r1 : Addr) (r2 : Addr) (u1 : Value) (u2 : Value) (h0 : Heap) (v : Option Value) (h : Heap) : Prop := v = none ∧ Keep h0 h [a1] ∧ Exa Z h a1 "com/example/clementi/clementi/store/KeyRange" ∧ Fld Z h a1 "com/example/clementi/clementi/store/KeyRange" "prefix" "[B" (.ref r1) ∧ Fld Z h a1 "com/example/clementi/clementi/store/KeyRange" "end" "[B" (.ref r2)
set_option maxRecDepth 65536 in
set_option maxHeartbeats 40000000 in
theorem own_init0 (l : Launch) (Z : State) (a0 : Array Value) (hw : ∀ d ∈ tables_1, d.before a0 Z = true) (ws : List Jvm.Cond) (a1 : Addr) (r1 : Addr) (r2 : Addr) (u1 : Value) (u2 : Value) (h0 : Heap) (n0 : Nat) (Z0 : n0 ≤ h0.size) (i_E1 : Exa Z h0 a1 "com/example/clementi/clementi/store/KeyRange") (i_F1 : Fld Z h0 a1 "com/example/clementi/clementi/store/KeyRange" "prefix" "[B" u1) (i_F2 : Fld Z h0 a1 "com/example/clementi/clementi/store/KeyRange" "end" "[B" u2) (g_a1 : n0 ≤ a1) :
    own_C l Z (⟨"com/example/clementi/clementi/store/KeyRange", "<init>", "([B[B)V"⟩ : MethodName) prog_36_method_1_code 3 none ws own_init0_R #[(.ref a1), (.ref r1), (.ref r2)] h0 (own_W n0 (own_init0_q Z a1 r1 r2 u1 u2 h0)) := by
  refine MetFree.of_bodySF own_pn1 hisR ?_
  intro p e s m args below meth c s₁ Bd hml0 hP hK
  obtain ⟨rfl, hZ, hh⟩ := hP
  have hx := Bd.exec
  have hby := Bd.bytes
  have hml : c.maxLocals = 3 := hml0
  have hown : s.vm.findClass "com/example/clementi/clementi/store/KeyRange" = some m.cls := findClass_of_methodNamed Bd.named
  have hnm := (name_of_methodNamed Bd.named Bd.method).1
  have X0 : Stand p l e own_init0_R s m #[(.ref a1), (.ref r1), (.ref r2)] below meth c s₁ [] 0 0 := Stand.of_body Bd
  have e0 : s₁.heap = h0 := by rw [← hh, Bd.state]; rfl
  have N0 := Fr.nil n0
  have K0 : Keep h0 h0 [a1] := Keep.refl h0 _
  show own_G p e below (own_P s (own_W n0 (own_init0_q Z a1 r1 r2 u1 u2 h0)) own_init0_R.cells own_init0_R.slots) (s₁.setTop (entryFrame m #[(.ref a1), (.ref r1), (.ref r2)] 3))
  rw [own_init0_ef m a1 r1 r2]
  show own_G p e below _ (s₁.setTop (mkF m 0 #[.val (.ref a1), .val (.ref r1), .val (.ref r2)] []))
  refine own_via (fun t k => XS.aloadN X0.here hx rfl (hb hby own_d1_0) rfl rfl k) ?_
  show own_G p e below _ (s₁.setTop (mkF m 1 #[.val (.ref a1), .val (.ref r1), .val (.ref r2)] [(.ref a1)]))
  obtain ⟨T1, X1, e1, st1⟩ := initO X0 hx hZ hown (hw _ (List.mem_of_getElem? (i := 7) rfl)) (hw _ (List.mem_of_getElem? (i := 8) rfl)) (hw _ (List.mem_of_getElem? (i := 9) rfl)) e0 (g := (mkF m 1 #[.val (.ref a1), .val (.ref r1), .val (.ref r2)] [(.ref a1)])) rfl (by rw [hml]; rfl) rfl (hb hby own_d1_1) (by decide) (W := 0) (by show 2 * 0 + _ ≤ _; exact Nat.le_of_eq rfl) (by decide)
  refine own_via st1 ?_
  show own_G p e below _ (T1.setTop (mkF m 4 #[.val (.ref a1), .val (.ref r1), .val (.ref r2)] []))
  refine own_via (fun t k => XS.aloadN X1.here hx rfl (hb hby own_d1_4) rfl rfl k) ?_
  show own_G p e below _ (T1.setTop (mkF m 5 #[.val (.ref a1), .val (.ref r1), .val (.ref r2)] [(.ref a1)]))
  refine own_via (fun t k => XS.aloadN X1.here hx rfl (hb hby own_d1_5) rfl rfl k) ?_
  show own_G p e below _ (T1.setTop (mkF m 6 #[.val (.ref a1), .val (.ref r1), .val (.ref r2)] [(.ref r1), (.ref a1)]))
  obtain ⟨T2, h2, L2, X2, N2, e2, W2, F2, st2⟩ := own_putF X1 N0 hx hZ hown (hw _ (List.mem_of_getElem? (i := 10) rfl)) e1 i_F1 i_E1 (Or.inr ⟨(hw _ (List.mem_of_getElem? (i := 11) rfl)), rfl, hnm⟩) (hw _ (List.mem_of_getElem? (i := 2) rfl)) g_a1 (ty := (.array .byte)) (v := (.ref r1)) (by decide) rfl rfl (pc := 6) (Ls := #[.val (.ref a1), .val (.ref r1), .val (.ref r2)]) (rest := []) (hb hby own_d1_6)
  refine own_via st2 ?_
  have f3 : Exa Z h2 a1 "com/example/clementi/clementi/store/KeyRange" := i_E1.wr W2
  have f4 : Fld Z h2 a1 "com/example/clementi/clementi/store/KeyRange" "end" "[B" u2 := i_F2.other W2 (Or.inr (slot_ne (Or.inr (hw _ (List.mem_of_getElem? (i := 13) rfl))) (Or.inr (hw _ (List.mem_of_getElem? (i := 11) rfl))) (by decide) (t := (.array .byte)) (t' := (.array .byte)) (by decide) (by decide)))
  have Kp5 : Keep h0 h2 [a1] := K0.wr W2 (Or.inl (List.mem_of_getElem? (i := 0) rfl))
  have Zs6 : n0 ≤ h2.size := by rw [W2.size]; exact Z0
  show own_G p e below _ (T2.setTop (mkF m 9 #[.val (.ref a1), .val (.ref r1), .val (.ref r2)] []))
  refine own_via (fun t k => XS.aloadN X2.here hx rfl (hb hby own_d1_9) rfl rfl k) ?_
  show own_G p e below _ (T2.setTop (mkF m 10 #[.val (.ref a1), .val (.ref r1), .val (.ref r2)] [(.ref a1)]))
  refine own_via (fun t k => XS.aloadN X2.here hx rfl (hb hby own_d1_10) rfl rfl k) ?_
  show own_G p e below _ (T2.setTop (mkF m 11 #[.val (.ref a1), .val (.ref r1), .val (.ref r2)] [(.ref r2), (.ref a1)]))
  obtain ⟨T7, h7, L7, X7, N7, e7, W7, F7, st7⟩ := own_putF X2 N2 hx hZ hown (hw _ (List.mem_of_getElem? (i := 12) rfl)) e2 f4 f3 (Or.inr ⟨(hw _ (List.mem_of_getElem? (i := 13) rfl)), rfl, hnm⟩) (hw _ (List.mem_of_getElem? (i := 2) rfl)) g_a1 (ty := (.array .byte)) (v := (.ref r2)) (by decide) rfl rfl (pc := 11) (Ls := #[.val (.ref a1), .val (.ref r1), .val (.ref r2)]) (rest := []) (hb hby own_d1_11)
  refine own_via st7 ?_
  have f8 : Exa Z h7 a1 "com/example/clementi/clementi/store/KeyRange" := f3.wr W7
  have f9 : Fld Z h7 a1 "com/example/clementi/clementi/store/KeyRange" "prefix" "[B" (.ref r1) := F2.other W7 (Or.inr (slot_ne (Or.inr (hw _ (List.mem_of_getElem? (i := 11) rfl))) (Or.inr (hw _ (List.mem_of_getElem? (i := 13) rfl))) (by decide) (t := (.array .byte)) (t' := (.array .byte)) (by decide) (by decide)))
  have Kp10 : Keep h0 h7 [a1] := Kp5.wr W7 (Or.inl (List.mem_of_getElem? (i := 0) rfl))
  have Zs11 : n0 ≤ h7.size := by rw [W7.size]; exact Zs6
  show own_G p e below _ (T7.setTop (mkF m 14 #[.val (.ref a1), .val (.ref r1), .val (.ref r2)] []))
  exact own_retV X7 hx Bd.returns Bd.notSynchronized (hb hby own_d1_14) (by rw [e7]; exact ⟨N7, rfl, Kp10, f8, f9, F7⟩) (by decide) (by decide)
theorem own_d3_0 : decode prog_36_method_3_code 0 = .ok (.aload_n 0, 1) := by decide +kernel
theorem own_d3_1 : decode prog_36_method_3_code 1 = .ok (.getfield 13, 3) := by decide +kernel
theorem own_d3_4 : decode prog_36_method_3_code 4 = .ok (.ifnonnull 7, 3) := by decide +kernel
theorem own_d3_7 : decode prog_36_method_3_code 7 = .ok (.aconst_null, 1) := by decide +kernel
theorem own_d3_8 : decode prog_36_method_3_code 8 = .ok (.goto 13, 3) := by decide +kernel
theorem own_d3_21 : decode prog_36_method_3_code 21 = .ok (.areturn, 1) := by decide +kernel
abbrev own_end0_R : Room := { frames := 0, cells := 0, slots := 0, locals := 0 }
theorem own_pn3 : plainFor (⟨"com/example/clementi/clementi/store/KeyRange", "end", "()[B"⟩ : MethodName) = true := plainFor_of_name (by first | (simp [plainName, overriddenIn]; done) | decide +kernel)
theorem own_end0_ef (m : MethodId) (a1 : Addr) : entryFrame m #[(.ref a1)] 1 = mkF m 0 #[.val (.ref a1)] [] := by first | (simp [entryFrame, mkF, argsToLocals, Value.category]; done) | rfl
set_option maxRecDepth 65536 in
set_option maxHeartbeats 40000000 in
theorem own_end0 (l : Launch) (Z : State) (a0 : Array Value) (hw : ∀ d ∈ tables_1, d.before a0 Z = true) (ws : List Jvm.Cond) (a1 : Addr)  (h0 : Heap)  (i_F2 : Fld Z h0 a1 "com/example/clementi/clementi/store/KeyRange" "end" "[B" .null) :
    own_C l Z (⟨"com/example/clementi/clementi/store/KeyRange", "end", "()[B"⟩ : MethodName) prog_36_method_3_code 1 (some (.array .byte)) ws own_end0_R #[(.ref a1)] h0 (own_Q .null h0) := by
  refine MetFree.of_bodySF own_pn3 hisR ?_
  intro p e s m args below meth c s₁ Bd hml0 hP hK
  obtain ⟨rfl, hZ, hh⟩ := hP
  have hx := Bd.exec
  have hby := Bd.bytes
  have hml : c.maxLocals = 1 := hml0
  have hown : s.vm.findClass "com/example/clementi/clementi/store/KeyRange" = some m.cls := findClass_of_methodNamed Bd.named
  have hnm := (name_of_methodNamed Bd.named Bd.method).1
  have X0 : Stand p l e own_end0_R s m #[(.ref a1)] below meth c s₁ [] 0 0 := Stand.of_body Bd
  have e0 : s₁.heap = h0 := by rw [← hh, Bd.state]; rfl
  show own_G p e below (own_P s (own_Q .null h0) own_end0_R.cells own_end0_R.slots) (s₁.setTop (entryFrame m #[(.ref a1)] 1))
  rw [own_end0_ef m a1]
  show own_G p e below _ (s₁.setTop (mkF m 0 #[.val (.ref a1)] []))
  refine own_via (fun t k => XS.aloadN X0.here hx rfl (hb hby own_d3_0) rfl rfl k) ?_
  show own_G p e below _ (s₁.setTop (mkF m 1 #[.val (.ref a1)] [(.ref a1)]))
  obtain ⟨T1, X1, e1, st1⟩ := getF X0 hx hZ hown (host := "") (Or.inl (hw _ (List.mem_of_getElem? (i := 12) rfl))) Via.refl e0 i_F2 (g := (mkF m 1 #[.val (.ref a1)] [(.ref a1)])) rfl rfl (hb hby own_d3_1)
  refine own_via st1 ?_
  show own_G p e below _ (T1.setTop (mkF m 4 #[.val (.ref a1)] [.null]))
  refine own_via (fun t k => XS.ifnonnullNo X1.here hx rfl (hb hby own_d3_4) rfl k) ?_
  show own_G p e below _ (T1.setTop (mkF m 7 #[.val (.ref a1)] []))
  refine own_via (fun t k => XS.aconstNull X1.here hx rfl (hb hby own_d3_7) k) ?_
  show own_G p e below _ (T1.setTop (mkF m 8 #[.val (.ref a1)] [.null]))
  refine own_via (fun t k => XS.goto X1.here hx rfl (pc0 := 8) (pc' := 21) rfl (hb hby own_d3_8) (by decide) (by decide) k) ?_
  show own_G p e below _ (T1.setTop (mkF m 21 #[.val (.ref a1)] [.null]))
  exact own_retA X1 hx Bd.returns rfl rfl Bd.notSynchronized (hb hby own_d3_21) ⟨rfl, rfl, e1⟩ (by decide) (by decide)
theorem own_d3_11 : decode prog_36_method_3_code 11 = .ok (.aload_n 0, 1) := by decide +kernel
theorem own_d3_12 : decode prog_36_method_3_code 12 = .ok (.getfield 13, 3) := by decide +kernel
theorem own_d3_15 : decode prog_36_method_3_code 15 = .ok (.invokevirtual 22, 3) := by decide +kernel
theorem own_d3_18 : decode prog_36_method_3_code 18 = .ok (.checkcast 23, 3) := by decide +kernel
abbrev own_end1_R : Room := { frames := 1, cells := 1, slots := 3, locals := 14 }
theorem own_end1_ef (m : MethodId) (a1 : Addr) : entryFrame m #[(.ref a1)] 1 = mkF m 0 #[.val (.ref a1)] [] := by first | (simp [entryFrame, mkF, argsToLocals, Value.category]; done) | rfl
def own_end1_q (Z : State) (a1 : Addr) (r1 : Addr) (k1 : ClassId) (z1 : Int32) (vs1 : List Value) (d1 : Value) (h0 : Heap) (v : Option Value) (h : Heap) : Prop := ∃ (x : Addr), v = some (.ref x) ∧ Keep h0 h [] ∧ h0.size ≤ x ∧ Arv Z h x k1 .byte z1 vs1 d1 ∧ Exa Z h x "[B"
set_option maxRecDepth 65536 in
set_option maxHeartbeats 40000000 in
theorem own_end1 (l : Launch) (Z : State) (a0 : Array Value) (hw : ∀ d ∈ tables_1, d.before a0 Z = true) (ws : List Jvm.Cond) (a1 : Addr) (r1 : Addr) (k1 : ClassId) (z1 : Int32) (vs1 : List Value) (d1 : Value) (h0 : Heap) (n0 : Nat) (Z0 : n0 ≤ h0.size) (i_F2 : Fld Z h0 a1 "com/example/clementi/clementi/store/KeyRange" "end" "[B" (.ref r1)) (i_V1 : Arv Z h0 r1 k1 .byte z1 vs1 d1) (i_E2 : Exa Z h0 r1 "[B") (hp_hz : z1.toNatClampNeg ≤ 3) :
    own_C l Z (⟨"com/example/clementi/clementi/store/KeyRange", "end", "()[B"⟩ : MethodName) prog_36_method_3_code 1 (some (.array .byte)) ws own_end1_R #[(.ref a1)] h0 (own_W n0 (own_end1_q Z a1 r1 k1 z1 vs1 d1 h0)) := by
  refine MetFree.of_bodySF own_pn3 hisR ?_
  intro p e s m args below meth c s₁ Bd hml0 hP hK
  obtain ⟨rfl, hZ, hh⟩ := hP
  have hx := Bd.exec
  have hby := Bd.bytes
  have hml : c.maxLocals = 1 := hml0
  have hown : s.vm.findClass "com/example/clementi/clementi/store/KeyRange" = some m.cls := findClass_of_methodNamed Bd.named
  have hnm := (name_of_methodNamed Bd.named Bd.method).1
  have X0 : Stand p l e own_end1_R s m #[(.ref a1)] below meth c s₁ [] 0 0 := Stand.of_body Bd
  have e0 : s₁.heap = h0 := by rw [← hh, Bd.state]; rfl
  have N0 := Fr.nil n0
  have K0 : Keep h0 h0 [] := Keep.refl h0 _
  show own_G p e below (own_P s (own_W n0 (own_end1_q Z a1 r1 k1 z1 vs1 d1 h0)) own_end1_R.cells own_end1_R.slots) (s₁.setTop (entryFrame m #[(.ref a1)] 1))
  rw [own_end1_ef m a1]
  show own_G p e below _ (s₁.setTop (mkF m 0 #[.val (.ref a1)] []))
  refine own_via (fun t k => XS.aloadN X0.here hx rfl (hb hby own_d3_0) rfl rfl k) ?_
  show own_G p e below _ (s₁.setTop (mkF m 1 #[.val (.ref a1)] [(.ref a1)]))
  obtain ⟨T1, X1, e1, st1⟩ := getF X0 hx hZ hown (host := "") (Or.inl (hw _ (List.mem_of_getElem? (i := 12) rfl))) Via.refl e0 i_F2 (g := (mkF m 1 #[.val (.ref a1)] [(.ref a1)])) rfl rfl (hb hby own_d3_1)
  refine own_via st1 ?_
  show own_G p e below _ (T1.setTop (mkF m 4 #[.val (.ref a1)] [(.ref r1)]))
  refine own_via (fun t k => XS.ifnonnullYes X1.here hx rfl (pc0 := 4) (pc' := 11) rfl (hb hby own_d3_4) rfl (by decide) (by decide) k) ?_
  show own_G p e below _ (T1.setTop (mkF m 11 #[.val (.ref a1)] []))
  refine own_via (fun t k => XS.aloadN X1.here hx rfl (hb hby own_d3_11) rfl rfl k) ?_
  show own_G p e below _ (T1.setTop (mkF m 12 #[.val (.ref a1)] [(.ref a1)]))
  obtain ⟨T2, X2, e2, st2⟩ := getF X1 hx hZ hown (host := "") (Or.inl (hw _ (List.mem_of_getElem? (i := 12) rfl))) Via.refl e1 i_F2 (g := (mkF m 12 #[.val (.ref a1)] [(.ref a1)])) rfl rfl (hb hby own_d3_12)
  refine own_via st2 ?_
  show own_G p e below _ (T2.setTop (mkF m 15 #[.val (.ref a1)] [(.ref r1)]))
  obtain ⟨T3, h3, b3, X3, e3, E3, ga3, V3, Ex3, st3⟩ := own_clone X2 hx hZ hown (hw _ (List.mem_of_getElem? (i := 19) rfl)) (hw _ (List.mem_of_getElem? (i := 20) rfl)) (hw _ (List.mem_of_getElem? (i := 24) rfl)) (hw _ (List.mem_of_getElem? (i := 22) rfl)) (hw _ (List.mem_of_getElem? (i := 23) rfl)) (hw _ (List.mem_of_getElem? (i := 25) rfl)) e2 i_V1 i_E2 (pc := 15) (Ls := #[.val (.ref a1)]) (rest := []) (by rw [hml]; rfl) (hb hby own_d3_15) (by decide) (W := 0) (cap := 3) (Nat.le_of_eq rfl) (by decide) hp_hz (by decide) (by decide)
  refine own_via st3 ?_
  have sz_b3 : h0.size ≤ b3 := Nat.le_trans K0.1 (Nat.le_of_eq ga3.symm)
  have ne4 : a1 ≠ b3 := Nat.ne_of_lt (Nat.lt_of_lt_of_le i_F2.lt (Nat.le_of_eq ga3.symm))
  have ne5 : r1 ≠ b3 := Nat.ne_of_lt (Nat.lt_of_lt_of_le i_V1.lt (Nat.le_of_eq ga3.symm))
  have f6 : Fld Z h3 a1 "com/example/clementi/clementi/store/KeyRange" "end" "[B" (.ref r1) := i_F2.ext E3
  have f7 : Arv Z h3 r1 k1 .byte z1 vs1 d1 := i_V1.ext E3
  have f8 : Exa Z h3 r1 "[B" := i_E2.ext E3
  have Kp9 : Keep h0 h3 [] := K0.ext E3
  have g_b3 : n0 ≤ b3 := Nat.le_trans Z0 (Nat.le_of_eq ga3.symm)
  have Zs10 : n0 ≤ h3.size := Nat.le_trans Z0 E3.1
  show own_G p e below _ (T3.setTop (mkF m 18 #[.val (.ref a1)] [(.ref b3)]))
  obtain ⟨T11, X11, e11, st11⟩ := castY X3 hx hZ hown (hw _ (List.mem_of_getElem? (i := 26) rfl)) e3 (Ins.self Ex3) (g := (mkF m 18 #[.val (.ref a1)] [(.ref b3)])) rfl rfl (hb hby own_d3_18)
  refine own_via st11 ?_
  show own_G p e below _ (T11.setTop (mkF m 21 #[.val (.ref a1)] [(.ref b3)]))
  exact own_retA X11 hx Bd.returns rfl rfl Bd.notSynchronized (hb hby own_d3_21) (by rw [e11]; exact ⟨N0, b3, rfl, Kp9, sz_b3, V3, Ex3⟩) (by decide) (by decide)
theorem own_d4_0 : decode method_3_code 0 = .ok (.iload_n 1, 1) := by decide +kernel
theorem own_d4_1 : decode method_3_code 1 = .ok (.iconst 1, 1) := by decide +kernel
theorem own_d4_2 : decode method_3_code 2 = .ok (.if_icmp .lt 10, 3) := by decide +kernel
theorem own_d4_12 : decode method_3_code 12 = .ok (.iload_n 1, 1) := by decide +kernel
theorem own_d4_13 : decode method_3_code 13 = .ok (.iconst 2, 1) := by decide +kernel
theorem own_d4_14 : decode method_3_code 14 = .ok (.if_icmp .lt 10, 3) := by decide +kernel
theorem own_d4_24 : decode method_3_code 24 = .ok (.iload_n 1, 1) := by decide +kernel
theorem own_d4_25 : decode method_3_code 25 = .ok (.iconst 3, 1) := by decide +kernel
theorem own_d4_26 : decode method_3_code 26 = .ok (.if_icmp .lt 11, 3) := by decide +kernel
theorem own_d4_37 : decode method_3_code 37 = .ok (.iconst 1, 1) := by decide +kernel
theorem own_d4_38 : decode method_3_code 38 = .ok (.goto 4, 3) := by decide +kernel
theorem own_d4_42 : decode method_3_code 42 = .ok (.ireturn, 1) := by decide +kernel
abbrev own_same0_R : Room := { frames := 0, cells := 0, slots := 0, locals := 0 }
theorem own_pn4 : plainFor (⟨"com/example/clementi/clementi/store/KeyRangeEndPinLaw", "same", "([BIBBB)Z"⟩ : MethodName) = true := plainFor_of_name (by first | (simp [plainName, overriddenIn]; done) | decide +kernel)
theorem own_same0_ef (m : MethodId) (a1 : Addr) (p0 : Int32) (p1 : Int32) (p2 : Int32) : entryFrame m #[(.ref a1), (.int (0 : Int32)), (.int p0), (.int p1), (.int p2)] 5 = mkF m 0 #[.val (.ref a1), .val (.int (0 : Int32)), .val (.int p0), .val (.int p1), .val (.int p2)] [] := by first | (simp [entryFrame, mkF, argsToLocals, Value.category]; done) | rfl
set_option maxRecDepth 65536 in
set_option maxHeartbeats 40000000 in
theorem own_same0 (l : Launch) (Z : State) (a0 : Array Value) (hw : ∀ d ∈ tables_1, d.before a0 Z = true) (ws : List Jvm.Cond) (a1 : Addr) (p0 : Int32) (p1 : Int32) (p2 : Int32) (k1 : ClassId) (h0 : Heap)  (i_V1 : Arv Z h0 a1 k1 .byte (0 : Int32) [] (.int (0 : Int32))) :
    own_C l Z (⟨"com/example/clementi/clementi/store/KeyRangeEndPinLaw", "same", "([BIBBB)Z"⟩ : MethodName) method_3_code 5 (some .boolean) ws own_same0_R #[(.ref a1), (.int (0 : Int32)), (.int p0), (.int p1), (.int p2)] h0 (own_Q (.int (1 : Int32)) h0) := by
  refine MetFree.of_bodySF own_pn4 hisR ?_
  intro p e s m args below meth c s₁ Bd hml0 hP hK
  obtain ⟨rfl, hZ, hh⟩ := hP
  have hx := Bd.exec
  have hby := Bd.bytes
  have hml : c.maxLocals = 5 := hml0
  have hown : s.vm.findClass "com/example/clementi/clementi/store/KeyRangeEndPinLaw" = some m.cls := findClass_of_methodNamed Bd.named
  have hnm := (name_of_methodNamed Bd.named Bd.method).1
  have X0 : Stand p l e own_same0_R s m #[(.ref a1), (.int (0 : Int32)), (.int p0), (.int p1), (.int p2)] below meth c s₁ [] 0 0 := Stand.of_body Bd
  have e0 : s₁.heap = h0 := by rw [← hh, Bd.state]; rfl
  show own_G p e below (own_P s (own_Q (.int (1 : Int32)) h0) own_same0_R.cells own_same0_R.slots) (s₁.setTop (entryFrame m #[(.ref a1), (.int (0 : Int32)), (.int p0), (.int p1), (.int p2)] 5))
  rw [own_same0_ef m a1 p0 p1 p2]
  show own_G p e below _ (s₁.setTop (mkF m 0 #[.val (.ref a1), .val (.int (0 : Int32)), .val (.int p0), .val (.int p1), .val (.int p2)] []))
  refine own_via (fun t k => XS.iloadN X0.here hx rfl (hb hby own_d4_0) rfl k) ?_
  show own_G p e below _ (s₁.setTop (mkF m 1 #[.val (.ref a1), .val (.int (0 : Int32)), .val (.int p0), .val (.int p1), .val (.int p2)] [(.int (0 : Int32))]))
  refine own_via (fun t k => XS.iconst X0.here hx rfl (hb hby own_d4_1) k) ?_
  show own_G p e below _ (s₁.setTop (mkF m 2 #[.val (.ref a1), .val (.int (0 : Int32)), .val (.int p0), .val (.int p1), .val (.int p2)] [(.int (1 : Int32)), (.int (0 : Int32))]))
  refine own_via (fun t k => XS.icmpYes X0.here hx rfl (pc0 := 2) (pc' := 12) rfl (hb hby own_d4_2) rfl (tlt (by decide : (0 : Int32) < (1 : Int32))).1 (by decide) (by decide) k) ?_
  show own_G p e below _ (s₁.setTop (mkF m 12 #[.val (.ref a1), .val (.int (0 : Int32)), .val (.int p0), .val (.int p1), .val (.int p2)] []))
  refine own_via (fun t k => XS.iloadN X0.here hx rfl (hb hby own_d4_12) rfl k) ?_
  show own_G p e below _ (s₁.setTop (mkF m 13 #[.val (.ref a1), .val (.int (0 : Int32)), .val (.int p0), .val (.int p1), .val (.int p2)] [(.int (0 : Int32))]))
  refine own_via (fun t k => XS.iconst X0.here hx rfl (hb hby own_d4_13) k) ?_
  show own_G p e below _ (s₁.setTop (mkF m 14 #[.val (.ref a1), .val (.int (0 : Int32)), .val (.int p0), .val (.int p1), .val (.int p2)] [(.int (2 : Int32)), (.int (0 : Int32))]))
  refine own_via (fun t k => XS.icmpYes X0.here hx rfl (pc0 := 14) (pc' := 24) rfl (hb hby own_d4_14) rfl (tlt (by decide : (0 : Int32) < (2 : Int32))).1 (by decide) (by decide) k) ?_
  show own_G p e below _ (s₁.setTop (mkF m 24 #[.val (.ref a1), .val (.int (0 : Int32)), .val (.int p0), .val (.int p1), .val (.int p2)] []))
  refine own_via (fun t k => XS.iloadN X0.here hx rfl (hb hby own_d4_24) rfl k) ?_
  show own_G p e below _ (s₁.setTop (mkF m 25 #[.val (.ref a1), .val (.int (0 : Int32)), .val (.int p0), .val (.int p1), .val (.int p2)] [(.int (0 : Int32))]))
  refine own_via (fun t k => XS.iconst X0.here hx rfl (hb hby own_d4_25) k) ?_
  show own_G p e below _ (s₁.setTop (mkF m 26 #[.val (.ref a1), .val (.int (0 : Int32)), .val (.int p0), .val (.int p1), .val (.int p2)] [(.int (3 : Int32)), (.int (0 : Int32))]))
  refine own_via (fun t k => XS.icmpYes X0.here hx rfl (pc0 := 26) (pc' := 37) rfl (hb hby own_d4_26) rfl (tlt (by decide : (0 : Int32) < (3 : Int32))).1 (by decide) (by decide) k) ?_
  show own_G p e below _ (s₁.setTop (mkF m 37 #[.val (.ref a1), .val (.int (0 : Int32)), .val (.int p0), .val (.int p1), .val (.int p2)] []))
  refine own_via (fun t k => XS.iconst X0.here hx rfl (hb hby own_d4_37) k) ?_
  show own_G p e below _ (s₁.setTop (mkF m 38 #[.val (.ref a1), .val (.int (0 : Int32)), .val (.int p0), .val (.int p1), .val (.int p2)] [(.int (1 : Int32))]))
  refine own_via (fun t k => XS.goto X0.here hx rfl (pc0 := 38) (pc' := 42) rfl (hb hby own_d4_38) (by decide) (by decide) k) ?_
  show own_G p e below _ (s₁.setTop (mkF m 42 #[.val (.ref a1), .val (.int (0 : Int32)), .val (.int p0), .val (.int p1), .val (.int p2)] [(.int (1 : Int32))]))
  exact own_retN (t := .boolean) X0 hx Bd.returns (by simp) Bd.notSynchronized (hb hby own_d4_42) ⟨rfl, rfl, e0⟩ (by decide) (by decide)
theorem own_d4_5 : decode method_3_code 5 = .ok (.aload_n 0, 1) := by decide +kernel
theorem own_d4_6 : decode method_3_code 6 = .ok (.iconst 0, 1) := by decide +kernel
theorem own_d4_7 : decode method_3_code 7 = .ok (.baload, 1) := by decide +kernel
theorem own_d4_8 : decode method_3_code 8 = .ok (.iload_n 2, 1) := by decide +kernel
theorem own_d4_9 : decode method_3_code 9 = .ok (.if_icmp .ne 32, 3) := by decide +kernel
abbrev own_same1_R : Room := { frames := 0, cells := 0, slots := 0, locals := 0 }
theorem own_same1_ef (m : MethodId) (a1 : Addr) (p0 : Int32) (p1 : Int32) (p2 : Int32) : entryFrame m #[(.ref a1), (.int (1 : Int32)), (.int p0), (.int p1), (.int p2)] 5 = mkF m 0 #[.val (.ref a1), .val (.int (1 : Int32)), .val (.int p0), .val (.int p1), .val (.int p2)] [] := by first | (simp [entryFrame, mkF, argsToLocals, Value.category]; done) | rfl
set_option maxRecDepth 65536 in
set_option maxHeartbeats 40000000 in
theorem own_same1 (l : Launch) (Z : State) (a0 : Array Value) (hw : ∀ d ∈ tables_1, d.before a0 Z = true) (ws : List Jvm.Cond) (a1 : Addr) (p0 : Int32) (p1 : Int32) (p2 : Int32) (k1 : ClassId) (c0 : Int32) (h0 : Heap)  (i_V1 : Arv Z h0 a1 k1 .byte (1 : Int32) [(.int c0)] (.int (0 : Int32))) (hp_he0 : c0 = p0) :
    own_C l Z (⟨"com/example/clementi/clementi/store/KeyRangeEndPinLaw", "same", "([BIBBB)Z"⟩ : MethodName) method_3_code 5 (some .boolean) ws own_same1_R #[(.ref a1), (.int (1 : Int32)), (.int p0), (.int p1), (.int p2)] h0 (own_Q (.int (1 : Int32)) h0) := by
  refine MetFree.of_bodySF own_pn4 hisR ?_
  intro p e s m args below meth c s₁ Bd hml0 hP hK
  obtain ⟨rfl, hZ, hh⟩ := hP
  have hx := Bd.exec
  have hby := Bd.bytes
  have hml : c.maxLocals = 5 := hml0
  have hown : s.vm.findClass "com/example/clementi/clementi/store/KeyRangeEndPinLaw" = some m.cls := findClass_of_methodNamed Bd.named
  have hnm := (name_of_methodNamed Bd.named Bd.method).1
  have X0 : Stand p l e own_same1_R s m #[(.ref a1), (.int (1 : Int32)), (.int p0), (.int p1), (.int p2)] below meth c s₁ [] 0 0 := Stand.of_body Bd
  have e0 : s₁.heap = h0 := by rw [← hh, Bd.state]; rfl
  show own_G p e below (own_P s (own_Q (.int (1 : Int32)) h0) own_same1_R.cells own_same1_R.slots) (s₁.setTop (entryFrame m #[(.ref a1), (.int (1 : Int32)), (.int p0), (.int p1), (.int p2)] 5))
  rw [own_same1_ef m a1 p0 p1 p2]
  show own_G p e below _ (s₁.setTop (mkF m 0 #[.val (.ref a1), .val (.int (1 : Int32)), .val (.int p0), .val (.int p1), .val (.int p2)] []))
  refine own_via (fun t k => XS.iloadN X0.here hx rfl (hb hby own_d4_0) rfl k) ?_
  show own_G p e below _ (s₁.setTop (mkF m 1 #[.val (.ref a1), .val (.int (1 : Int32)), .val (.int p0), .val (.int p1), .val (.int p2)] [(.int (1 : Int32))]))
  refine own_via (fun t k => XS.iconst X0.here hx rfl (hb hby own_d4_1) k) ?_
  show own_G p e below _ (s₁.setTop (mkF m 2 #[.val (.ref a1), .val (.int (1 : Int32)), .val (.int p0), .val (.int p1), .val (.int p2)] [(.int (1 : Int32)), (.int (1 : Int32))]))
  refine own_via (fun t k => XS.icmpNo X0.here hx rfl (hb hby own_d4_2) rfl (flt (by decide : ¬ ((1 : Int32) < (1 : Int32)))).1 k) ?_
  show own_G p e below _ (s₁.setTop (mkF m 5 #[.val (.ref a1), .val (.int (1 : Int32)), .val (.int p0), .val (.int p1), .val (.int p2)] []))
  refine own_via (fun t k => XS.aloadN X0.here hx rfl (hb hby own_d4_5) rfl rfl k) ?_
  show own_G p e below _ (s₁.setTop (mkF m 6 #[.val (.ref a1), .val (.int (1 : Int32)), .val (.int p0), .val (.int p1), .val (.int p2)] [(.ref a1)]))
  refine own_via (fun t k => XS.iconst X0.here hx rfl (hb hby own_d4_6) k) ?_
  show own_G p e below _ (s₁.setTop (mkF m 7 #[.val (.ref a1), .val (.int (1 : Int32)), .val (.int p0), .val (.int p1), .val (.int p2)] [(.int (0 : Int32)), (.ref a1)]))
  refine own_via (own_ldB X0 hx hZ e0 i_V1 (j := (0 : Int32)) ⟨by decide, by decide⟩ (v := (.int c0)) rfl (pc := 7) (Ls := #[.val (.ref a1), .val (.int (1 : Int32)), .val (.int p0), .val (.int p1), .val (.int p2)]) (rest := []) (hb hby own_d4_7)) ?_
  show own_G p e below _ (s₁.setTop (mkF m 8 #[.val (.ref a1), .val (.int (1 : Int32)), .val (.int p0), .val (.int p1), .val (.int p2)] [(.int c0)]))
  refine own_via (fun t k => XS.iloadN X0.here hx rfl (hb hby own_d4_8) rfl k) ?_
  show own_G p e below _ (s₁.setTop (mkF m 9 #[.val (.ref a1), .val (.int (1 : Int32)), .val (.int p0), .val (.int p1), .val (.int p2)] [(.int p0), (.int c0)]))
  refine own_via (fun t k => XS.icmpNo X0.here hx rfl (hb hby own_d4_9) rfl (teq hp_he0).2 k) ?_
  show own_G p e below _ (s₁.setTop (mkF m 12 #[.val (.ref a1), .val (.int (1 : Int32)), .val (.int p0), .val (.int p1), .val (.int p2)] []))
  refine own_via (fun t k => XS.iloadN X0.here hx rfl (hb hby own_d4_12) rfl k) ?_
  show own_G p e below _ (s₁.setTop (mkF m 13 #[.val (.ref a1), .val (.int (1 : Int32)), .val (.int p0), .val (.int p1), .val (.int p2)] [(.int (1 : Int32))]))
  refine own_via (fun t k => XS.iconst X0.here hx rfl (hb hby own_d4_13) k) ?_
  show own_G p e below _ (s₁.setTop (mkF m 14 #[.val (.ref a1), .val (.int (1 : Int32)), .val (.int p0), .val (.int p1), .val (.int p2)] [(.int (2 : Int32)), (.int (1 : Int32))]))
  refine own_via (fun t k => XS.icmpYes X0.here hx rfl (pc0 := 14) (pc' := 24) rfl (hb hby own_d4_14) rfl (tlt (by decide : (1 : Int32) < (2 : Int32))).1 (by decide) (by decide) k) ?_
  show own_G p e below _ (s₁.setTop (mkF m 24 #[.val (.ref a1), .val (.int (1 : Int32)), .val (.int p0), .val (.int p1), .val (.int p2)] []))
  refine own_via (fun t k => XS.iloadN X0.here hx rfl (hb hby own_d4_24) rfl k) ?_
  show own_G p e below _ (s₁.setTop (mkF m 25 #[.val (.ref a1), .val (.int (1 : Int32)), .val (.int p0), .val (.int p1), .val (.int p2)] [(.int (1 : Int32))]))
  refine own_via (fun t k => XS.iconst X0.here hx rfl (hb hby own_d4_25) k) ?_
  show own_G p e below _ (s₁.setTop (mkF m 26 #[.val (.ref a1), .val (.int (1 : Int32)), .val (.int p0), .val (.int p1), .val (.int p2)] [(.int (3 : Int32)), (.int (1 : Int32))]))
  refine own_via (fun t k => XS.icmpYes X0.here hx rfl (pc0 := 26) (pc' := 37) rfl (hb hby own_d4_26) rfl (tlt (by decide : (1 : Int32) < (3 : Int32))).1 (by decide) (by decide) k) ?_
  show own_G p e below _ (s₁.setTop (mkF m 37 #[.val (.ref a1), .val (.int (1 : Int32)), .val (.int p0), .val (.int p1), .val (.int p2)] []))
  refine own_via (fun t k => XS.iconst X0.here hx rfl (hb hby own_d4_37) k) ?_
  show own_G p e below _ (s₁.setTop (mkF m 38 #[.val (.ref a1), .val (.int (1 : Int32)), .val (.int p0), .val (.int p1), .val (.int p2)] [(.int (1 : Int32))]))
  refine own_via (fun t k => XS.goto X0.here hx rfl (pc0 := 38) (pc' := 42) rfl (hb hby own_d4_38) (by decide) (by decide) k) ?_
  show own_G p e below _ (s₁.setTop (mkF m 42 #[.val (.ref a1), .val (.int (1 : Int32)), .val (.int p0), .val (.int p1), .val (.int p2)] [(.int (1 : Int32))]))
  exact own_retN (t := .boolean) X0 hx Bd.returns (by simp) Bd.notSynchronized (hb hby own_d4_42) ⟨rfl, rfl, e0⟩ (by decide) (by decide)
theorem own_d4_17 : decode method_3_code 17 = .ok (.aload_n 0, 1) := by decide +kernel
theorem own_d4_18 : decode method_3_code 18 = .ok (.iconst 1, 1) := by decide +kernel
theorem own_d4_19 : decode method_3_code 19 = .ok (.baload, 1) := by decide +kernel
theorem own_d4_20 : decode method_3_code 20 = .ok (.iload_n 3, 1) := by decide +kernel
theorem own_d4_21 : decode method_3_code 21 = .ok (.if_icmp .ne 20, 3) := by decide +kernel
abbrev own_same2_R : Room := { frames := 0, cells := 0, slots := 0, locals := 0 }
theorem own_same2_ef (m : MethodId) (a1 : Addr) (p0 : Int32) (p1 : Int32) (p2 : Int32) : entryFrame m #[(.ref a1), (.int (2 : Int32)), (.int p0), (.int p1), (.int p2)] 5 = mkF m 0 #[.val (.ref a1), .val (.int (2 : Int32)), .val (.int p0), .val (.int p1), .val (.int p2)] [] := by first | (simp [entryFrame, mkF, argsToLocals, Value.category]; done) | rfl
set_option maxRecDepth 65536 in
set_option maxHeartbeats 40000000 in
theorem own_same2 (l : Launch) (Z : State) (a0 : Array Value) (hw : ∀ d ∈ tables_1, d.before a0 Z = true) (ws : List Jvm.Cond) (a1 : Addr) (p0 : Int32) (p1 : Int32) (p2 : Int32) (k1 : ClassId) (c0 : Int32) (c1 : Int32) (h0 : Heap)  (i_V1 : Arv Z h0 a1 k1 .byte (2 : Int32) [(.int c0), (.int c1)] (.int (0 : Int32))) (hp_he0 : c0 = p0) (hp_he1 : c1 = p1) :
    own_C l Z (⟨"com/example/clementi/clementi/store/KeyRangeEndPinLaw", "same", "([BIBBB)Z"⟩ : MethodName) method_3_code 5 (some .boolean) ws own_same2_R #[(.ref a1), (.int (2 : Int32)), (.int p0), (.int p1), (.int p2)] h0 (own_Q (.int (1 : Int32)) h0) := by
  refine MetFree.of_bodySF own_pn4 hisR ?_
  intro p e s m args below meth c s₁ Bd hml0 hP hK
  obtain ⟨rfl, hZ, hh⟩ := hP
  have hx := Bd.exec
  have hby := Bd.bytes
  have hml : c.maxLocals = 5 := hml0
  have hown : s.vm.findClass "com/example/clementi/clementi/store/KeyRangeEndPinLaw" = some m.cls := findClass_of_methodNamed Bd.named
  have hnm := (name_of_methodNamed Bd.named Bd.method).1
  have X0 : Stand p l e own_same2_R s m #[(.ref a1), (.int (2 : Int32)), (.int p0), (.int p1), (.int p2)] below meth c s₁ [] 0 0 := Stand.of_body Bd
  have e0 : s₁.heap = h0 := by rw [← hh, Bd.state]; rfl
  show own_G p e below (own_P s (own_Q (.int (1 : Int32)) h0) own_same2_R.cells own_same2_R.slots) (s₁.setTop (entryFrame m #[(.ref a1), (.int (2 : Int32)), (.int p0), (.int p1), (.int p2)] 5))
  rw [own_same2_ef m a1 p0 p1 p2]
  show own_G p e below _ (s₁.setTop (mkF m 0 #[.val (.ref a1), .val (.int (2 : Int32)), .val (.int p0), .val (.int p1), .val (.int p2)] []))
  refine own_via (fun t k => XS.iloadN X0.here hx rfl (hb hby own_d4_0) rfl k) ?_
  show own_G p e below _ (s₁.setTop (mkF m 1 #[.val (.ref a1), .val (.int (2 : Int32)), .val (.int p0), .val (.int p1), .val (.int p2)] [(.int (2 : Int32))]))
  refine own_via (fun t k => XS.iconst X0.here hx rfl (hb hby own_d4_1) k) ?_
  show own_G p e below _ (s₁.setTop (mkF m 2 #[.val (.ref a1), .val (.int (2 : Int32)), .val (.int p0), .val (.int p1), .val (.int p2)] [(.int (1 : Int32)), (.int (2 : Int32))]))
  refine own_via (fun t k => XS.icmpNo X0.here hx rfl (hb hby own_d4_2) rfl (flt (by decide : ¬ ((2 : Int32) < (1 : Int32)))).1 k) ?_
  show own_G p e below _ (s₁.setTop (mkF m 5 #[.val (.ref a1), .val (.int (2 : Int32)), .val (.int p0), .val (.int p1), .val (.int p2)] []))
  refine own_via (fun t k => XS.aloadN X0.here hx rfl (hb hby own_d4_5) rfl rfl k) ?_
  show own_G p e below _ (s₁.setTop (mkF m 6 #[.val (.ref a1), .val (.int (2 : Int32)), .val (.int p0), .val (.int p1), .val (.int p2)] [(.ref a1)]))
  refine own_via (fun t k => XS.iconst X0.here hx rfl (hb hby own_d4_6) k) ?_
  show own_G p e below _ (s₁.setTop (mkF m 7 #[.val (.ref a1), .val (.int (2 : Int32)), .val (.int p0), .val (.int p1), .val (.int p2)] [(.int (0 : Int32)), (.ref a1)]))
  refine own_via (own_ldB X0 hx hZ e0 i_V1 (j := (0 : Int32)) ⟨by decide, by decide⟩ (v := (.int c0)) rfl (pc := 7) (Ls := #[.val (.ref a1), .val (.int (2 : Int32)), .val (.int p0), .val (.int p1), .val (.int p2)]) (rest := []) (hb hby own_d4_7)) ?_
  show own_G p e below _ (s₁.setTop (mkF m 8 #[.val (.ref a1), .val (.int (2 : Int32)), .val (.int p0), .val (.int p1), .val (.int p2)] [(.int c0)]))
  refine own_via (fun t k => XS.iloadN X0.here hx rfl (hb hby own_d4_8) rfl k) ?_
  show own_G p e below _ (s₁.setTop (mkF m 9 #[.val (.ref a1), .val (.int (2 : Int32)), .val (.int p0), .val (.int p1), .val (.int p2)] [(.int p0), (.int c0)]))
  refine own_via (fun t k => XS.icmpNo X0.here hx rfl (hb hby own_d4_9) rfl (teq hp_he0).2 k) ?_
  show own_G p e below _ (s₁.setTop (mkF m 12 #[.val (.ref a1), .val (.int (2 : Int32)), .val (.int p0), .val (.int p1), .val (.int p2)] []))
  refine own_via (fun t k => XS.iloadN X0.here hx rfl (hb hby own_d4_12) rfl k) ?_
  show own_G p e below _ (s₁.setTop (mkF m 13 #[.val (.ref a1), .val (.int (2 : Int32)), .val (.int p0), .val (.int p1), .val (.int p2)] [(.int (2 : Int32))]))
  refine own_via (fun t k => XS.iconst X0.here hx rfl (hb hby own_d4_13) k) ?_
  show own_G p e below _ (s₁.setTop (mkF m 14 #[.val (.ref a1), .val (.int (2 : Int32)), .val (.int p0), .val (.int p1), .val (.int p2)] [(.int (2 : Int32)), (.int (2 : Int32))]))
  refine own_via (fun t k => XS.icmpNo X0.here hx rfl (hb hby own_d4_14) rfl (flt (by decide : ¬ ((2 : Int32) < (2 : Int32)))).1 k) ?_
  show own_G p e below _ (s₁.setTop (mkF m 17 #[.val (.ref a1), .val (.int (2 : Int32)), .val (.int p0), .val (.int p1), .val (.int p2)] []))
  refine own_via (fun t k => XS.aloadN X0.here hx rfl (hb hby own_d4_17) rfl rfl k) ?_
  show own_G p e below _ (s₁.setTop (mkF m 18 #[.val (.ref a1), .val (.int (2 : Int32)), .val (.int p0), .val (.int p1), .val (.int p2)] [(.ref a1)]))
  refine own_via (fun t k => XS.iconst X0.here hx rfl (hb hby own_d4_18) k) ?_
  show own_G p e below _ (s₁.setTop (mkF m 19 #[.val (.ref a1), .val (.int (2 : Int32)), .val (.int p0), .val (.int p1), .val (.int p2)] [(.int (1 : Int32)), (.ref a1)]))
  refine own_via (own_ldB X0 hx hZ e0 i_V1 (j := (1 : Int32)) ⟨by decide, by decide⟩ (v := (.int c1)) rfl (pc := 19) (Ls := #[.val (.ref a1), .val (.int (2 : Int32)), .val (.int p0), .val (.int p1), .val (.int p2)]) (rest := []) (hb hby own_d4_19)) ?_
  show own_G p e below _ (s₁.setTop (mkF m 20 #[.val (.ref a1), .val (.int (2 : Int32)), .val (.int p0), .val (.int p1), .val (.int p2)] [(.int c1)]))
  refine own_via (fun t k => XS.iloadN X0.here hx rfl (hb hby own_d4_20) rfl k) ?_
  show own_G p e below _ (s₁.setTop (mkF m 21 #[.val (.ref a1), .val (.int (2 : Int32)), .val (.int p0), .val (.int p1), .val (.int p2)] [(.int p1), (.int c1)]))
  refine own_via (fun t k => XS.icmpNo X0.here hx rfl (hb hby own_d4_21) rfl (teq hp_he1).2 k) ?_
  show own_G p e below _ (s₁.setTop (mkF m 24 #[.val (.ref a1), .val (.int (2 : Int32)), .val (.int p0), .val (.int p1), .val (.int p2)] []))
  refine own_via (fun t k => XS.iloadN X0.here hx rfl (hb hby own_d4_24) rfl k) ?_
  show own_G p e below _ (s₁.setTop (mkF m 25 #[.val (.ref a1), .val (.int (2 : Int32)), .val (.int p0), .val (.int p1), .val (.int p2)] [(.int (2 : Int32))]))
  refine own_via (fun t k => XS.iconst X0.here hx rfl (hb hby own_d4_25) k) ?_
  show own_G p e below _ (s₁.setTop (mkF m 26 #[.val (.ref a1), .val (.int (2 : Int32)), .val (.int p0), .val (.int p1), .val (.int p2)] [(.int (3 : Int32)), (.int (2 : Int32))]))
  refine own_via (fun t k => XS.icmpYes X0.here hx rfl (pc0 := 26) (pc' := 37) rfl (hb hby own_d4_26) rfl (tlt (by decide : (2 : Int32) < (3 : Int32))).1 (by decide) (by decide) k) ?_
  show own_G p e below _ (s₁.setTop (mkF m 37 #[.val (.ref a1), .val (.int (2 : Int32)), .val (.int p0), .val (.int p1), .val (.int p2)] []))
  refine own_via (fun t k => XS.iconst X0.here hx rfl (hb hby own_d4_37) k) ?_
  show own_G p e below _ (s₁.setTop (mkF m 38 #[.val (.ref a1), .val (.int (2 : Int32)), .val (.int p0), .val (.int p1), .val (.int p2)] [(.int (1 : Int32))]))
  refine own_via (fun t k => XS.goto X0.here hx rfl (pc0 := 38) (pc' := 42) rfl (hb hby own_d4_38) (by decide) (by decide) k) ?_
  show own_G p e below _ (s₁.setTop (mkF m 42 #[.val (.ref a1), .val (.int (2 : Int32)), .val (.int p0), .val (.int p1), .val (.int p2)] [(.int (1 : Int32))]))
  exact own_retN (t := .boolean) X0 hx Bd.returns (by simp) Bd.notSynchronized (hb hby own_d4_42) ⟨rfl, rfl, e0⟩ (by decide) (by decide)
theorem own_d4_29 : decode method_3_code 29 = .ok (.aload_n 0, 1) := by decide +kernel
theorem own_d4_30 : decode method_3_code 30 = .ok (.iconst 2, 1) := by decide +kernel
theorem own_d4_31 : decode method_3_code 31 = .ok (.baload, 1) := by decide +kernel
theorem own_d4_32 : decode method_3_code 32 = .ok (.iload 4, 2) := by decide +kernel
theorem own_d4_34 : decode method_3_code 34 = .ok (.if_icmp .ne 7, 3) := by decide +kernel
abbrev own_same3_R : Room := { frames := 0, cells := 0, slots := 0, locals := 0 }
theorem own_same3_ef (m : MethodId) (a1 : Addr) (p0 : Int32) (p1 : Int32) (p2 : Int32) : entryFrame m #[(.ref a1), (.int (3 : Int32)), (.int p0), (.int p1), (.int p2)] 5 = mkF m 0 #[.val (.ref a1), .val (.int (3 : Int32)), .val (.int p0), .val (.int p1), .val (.int p2)] [] := by first | (simp [entryFrame, mkF, argsToLocals, Value.category]; done) | rfl
set_option maxRecDepth 65536 in
set_option maxHeartbeats 40000000 in
theorem own_same3 (l : Launch) (Z : State) (a0 : Array Value) (hw : ∀ d ∈ tables_1, d.before a0 Z = true) (ws : List Jvm.Cond) (a1 : Addr) (p0 : Int32) (p1 : Int32) (p2 : Int32) (k1 : ClassId) (c0 : Int32) (c1 : Int32) (c2 : Int32) (h0 : Heap)  (i_V1 : Arv Z h0 a1 k1 .byte (3 : Int32) [(.int c0), (.int c1), (.int c2)] (.int (0 : Int32))) (hp_he0 : c0 = p0) (hp_he1 : c1 = p1) (hp_he2 : c2 = p2) :
    own_C l Z (⟨"com/example/clementi/clementi/store/KeyRangeEndPinLaw", "same", "([BIBBB)Z"⟩ : MethodName) method_3_code 5 (some .boolean) ws own_same3_R #[(.ref a1), (.int (3 : Int32)), (.int p0), (.int p1), (.int p2)] h0 (own_Q (.int (1 : Int32)) h0) := by
  refine MetFree.of_bodySF own_pn4 hisR ?_
  intro p e s m args below meth c s₁ Bd hml0 hP hK
  obtain ⟨rfl, hZ, hh⟩ := hP
  have hx := Bd.exec
  have hby := Bd.bytes
  have hml : c.maxLocals = 5 := hml0
  have hown : s.vm.findClass "com/example/clementi/clementi/store/KeyRangeEndPinLaw" = some m.cls := findClass_of_methodNamed Bd.named
  have hnm := (name_of_methodNamed Bd.named Bd.method).1
  have X0 : Stand p l e own_same3_R s m #[(.ref a1), (.int (3 : Int32)), (.int p0), (.int p1), (.int p2)] below meth c s₁ [] 0 0 := Stand.of_body Bd
  have e0 : s₁.heap = h0 := by rw [← hh, Bd.state]; rfl
  show own_G p e below (own_P s (own_Q (.int (1 : Int32)) h0) own_same3_R.cells own_same3_R.slots) (s₁.setTop (entryFrame m #[(.ref a1), (.int (3 : Int32)), (.int p0), (.int p1), (.int p2)] 5))
  rw [own_same3_ef m a1 p0 p1 p2]
  show own_G p e below _ (s₁.setTop (mkF m 0 #[.val (.ref a1), .val (.int (3 : Int32)), .val (.int p0), .val (.int p1), .val (.int p2)] []))
  refine own_via (fun t k => XS.iloadN X0.here hx rfl (hb hby own_d4_0) rfl k) ?_
  show own_G p e below _ (s₁.setTop (mkF m 1 #[.val (.ref a1), .val (.int (3 : Int32)), .val (.int p0), .val (.int p1), .val (.int p2)] [(.int (3 : Int32))]))
  refine own_via (fun t k => XS.iconst X0.here hx rfl (hb hby own_d4_1) k) ?_
  show own_G p e below _ (s₁.setTop (mkF m 2 #[.val (.ref a1), .val (.int (3 : Int32)), .val (.int p0), .val (.int p1), .val (.int p2)] [(.int (1 : Int32)), (.int (3 : Int32))]))
  refine own_via (fun t k => XS.icmpNo X0.here hx rfl (hb hby own_d4_2) rfl (flt (by decide : ¬ ((3 : Int32) < (1 : Int32)))).1 k) ?_
  show own_G p e below _ (s₁.setTop (mkF m 5 #[.val (.ref a1), .val (.int (3 : Int32)), .val (.int p0), .val (.int p1), .val (.int p2)] []))
  refine own_via (fun t k => XS.aloadN X0.here hx rfl (hb hby own_d4_5) rfl rfl k) ?_
  show own_G p e below _ (s₁.setTop (mkF m 6 #[.val (.ref a1), .val (.int (3 : Int32)), .val (.int p0), .val (.int p1), .val (.int p2)] [(.ref a1)]))
  refine own_via (fun t k => XS.iconst X0.here hx rfl (hb hby own_d4_6) k) ?_
  show own_G p e below _ (s₁.setTop (mkF m 7 #[.val (.ref a1), .val (.int (3 : Int32)), .val (.int p0), .val (.int p1), .val (.int p2)] [(.int (0 : Int32)), (.ref a1)]))
  refine own_via (own_ldB X0 hx hZ e0 i_V1 (j := (0 : Int32)) ⟨by decide, by decide⟩ (v := (.int c0)) rfl (pc := 7) (Ls := #[.val (.ref a1), .val (.int (3 : Int32)), .val (.int p0), .val (.int p1), .val (.int p2)]) (rest := []) (hb hby own_d4_7)) ?_
  show own_G p e below _ (s₁.setTop (mkF m 8 #[.val (.ref a1), .val (.int (3 : Int32)), .val (.int p0), .val (.int p1), .val (.int p2)] [(.int c0)]))
  refine own_via (fun t k => XS.iloadN X0.here hx rfl (hb hby own_d4_8) rfl k) ?_
  show own_G p e below _ (s₁.setTop (mkF m 9 #[.val (.ref a1), .val (.int (3 : Int32)), .val (.int p0), .val (.int p1), .val (.int p2)] [(.int p0), (.int c0)]))
  refine own_via (fun t k => XS.icmpNo X0.here hx rfl (hb hby own_d4_9) rfl (teq hp_he0).2 k) ?_
  show own_G p e below _ (s₁.setTop (mkF m 12 #[.val (.ref a1), .val (.int (3 : Int32)), .val (.int p0), .val (.int p1), .val (.int p2)] []))
  refine own_via (fun t k => XS.iloadN X0.here hx rfl (hb hby own_d4_12) rfl k) ?_
  show own_G p e below _ (s₁.setTop (mkF m 13 #[.val (.ref a1), .val (.int (3 : Int32)), .val (.int p0), .val (.int p1), .val (.int p2)] [(.int (3 : Int32))]))
  refine own_via (fun t k => XS.iconst X0.here hx rfl (hb hby own_d4_13) k) ?_
  show own_G p e below _ (s₁.setTop (mkF m 14 #[.val (.ref a1), .val (.int (3 : Int32)), .val (.int p0), .val (.int p1), .val (.int p2)] [(.int (2 : Int32)), (.int (3 : Int32))]))
  refine own_via (fun t k => XS.icmpNo X0.here hx rfl (hb hby own_d4_14) rfl (flt (by decide : ¬ ((3 : Int32) < (2 : Int32)))).1 k) ?_
  show own_G p e below _ (s₁.setTop (mkF m 17 #[.val (.ref a1), .val (.int (3 : Int32)), .val (.int p0), .val (.int p1), .val (.int p2)] []))
  refine own_via (fun t k => XS.aloadN X0.here hx rfl (hb hby own_d4_17) rfl rfl k) ?_
  show own_G p e below _ (s₁.setTop (mkF m 18 #[.val (.ref a1), .val (.int (3 : Int32)), .val (.int p0), .val (.int p1), .val (.int p2)] [(.ref a1)]))
  refine own_via (fun t k => XS.iconst X0.here hx rfl (hb hby own_d4_18) k) ?_
  show own_G p e below _ (s₁.setTop (mkF m 19 #[.val (.ref a1), .val (.int (3 : Int32)), .val (.int p0), .val (.int p1), .val (.int p2)] [(.int (1 : Int32)), (.ref a1)]))
  refine own_via (own_ldB X0 hx hZ e0 i_V1 (j := (1 : Int32)) ⟨by decide, by decide⟩ (v := (.int c1)) rfl (pc := 19) (Ls := #[.val (.ref a1), .val (.int (3 : Int32)), .val (.int p0), .val (.int p1), .val (.int p2)]) (rest := []) (hb hby own_d4_19)) ?_
  show own_G p e below _ (s₁.setTop (mkF m 20 #[.val (.ref a1), .val (.int (3 : Int32)), .val (.int p0), .val (.int p1), .val (.int p2)] [(.int c1)]))
  refine own_via (fun t k => XS.iloadN X0.here hx rfl (hb hby own_d4_20) rfl k) ?_
  show own_G p e below _ (s₁.setTop (mkF m 21 #[.val (.ref a1), .val (.int (3 : Int32)), .val (.int p0), .val (.int p1), .val (.int p2)] [(.int p1), (.int c1)]))
  refine own_via (fun t k => XS.icmpNo X0.here hx rfl (hb hby own_d4_21) rfl (teq hp_he1).2 k) ?_
  show own_G p e below _ (s₁.setTop (mkF m 24 #[.val (.ref a1), .val (.int (3 : Int32)), .val (.int p0), .val (.int p1), .val (.int p2)] []))
  refine own_via (fun t k => XS.iloadN X0.here hx rfl (hb hby own_d4_24) rfl k) ?_
  show own_G p e below _ (s₁.setTop (mkF m 25 #[.val (.ref a1), .val (.int (3 : Int32)), .val (.int p0), .val (.int p1), .val (.int p2)] [(.int (3 : Int32))]))
  refine own_via (fun t k => XS.iconst X0.here hx rfl (hb hby own_d4_25) k) ?_
  show own_G p e below _ (s₁.setTop (mkF m 26 #[.val (.ref a1), .val (.int (3 : Int32)), .val (.int p0), .val (.int p1), .val (.int p2)] [(.int (3 : Int32)), (.int (3 : Int32))]))
  refine own_via (fun t k => XS.icmpNo X0.here hx rfl (hb hby own_d4_26) rfl (flt (by decide : ¬ ((3 : Int32) < (3 : Int32)))).1 k) ?_
  show own_G p e below _ (s₁.setTop (mkF m 29 #[.val (.ref a1), .val (.int (3 : Int32)), .val (.int p0), .val (.int p1), .val (.int p2)] []))
  refine own_via (fun t k => XS.aloadN X0.here hx rfl (hb hby own_d4_29) rfl rfl k) ?_
  show own_G p e below _ (s₁.setTop (mkF m 30 #[.val (.ref a1), .val (.int (3 : Int32)), .val (.int p0), .val (.int p1), .val (.int p2)] [(.ref a1)]))
  refine own_via (fun t k => XS.iconst X0.here hx rfl (hb hby own_d4_30) k) ?_
  show own_G p e below _ (s₁.setTop (mkF m 31 #[.val (.ref a1), .val (.int (3 : Int32)), .val (.int p0), .val (.int p1), .val (.int p2)] [(.int (2 : Int32)), (.ref a1)]))
  refine own_via (own_ldB X0 hx hZ e0 i_V1 (j := (2 : Int32)) ⟨by decide, by decide⟩ (v := (.int c2)) rfl (pc := 31) (Ls := #[.val (.ref a1), .val (.int (3 : Int32)), .val (.int p0), .val (.int p1), .val (.int p2)]) (rest := []) (hb hby own_d4_31)) ?_
  show own_G p e below _ (s₁.setTop (mkF m 32 #[.val (.ref a1), .val (.int (3 : Int32)), .val (.int p0), .val (.int p1), .val (.int p2)] [(.int c2)]))
  refine own_via (fun t k => XS.iload X0.here hx rfl (hb hby own_d4_32) rfl k) ?_
  show own_G p e below _ (s₁.setTop (mkF m 34 #[.val (.ref a1), .val (.int (3 : Int32)), .val (.int p0), .val (.int p1), .val (.int p2)] [(.int p2), (.int c2)]))
  refine own_via (fun t k => XS.icmpNo X0.here hx rfl (hb hby own_d4_34) rfl (teq hp_he2).2 k) ?_
  show own_G p e below _ (s₁.setTop (mkF m 37 #[.val (.ref a1), .val (.int (3 : Int32)), .val (.int p0), .val (.int p1), .val (.int p2)] []))
  refine own_via (fun t k => XS.iconst X0.here hx rfl (hb hby own_d4_37) k) ?_
  show own_G p e below _ (s₁.setTop (mkF m 38 #[.val (.ref a1), .val (.int (3 : Int32)), .val (.int p0), .val (.int p1), .val (.int p2)] [(.int (1 : Int32))]))
  refine own_via (fun t k => XS.goto X0.here hx rfl (pc0 := 38) (pc' := 42) rfl (hb hby own_d4_38) (by decide) (by decide) k) ?_
  show own_G p e below _ (s₁.setTop (mkF m 42 #[.val (.ref a1), .val (.int (3 : Int32)), .val (.int p0), .val (.int p1), .val (.int p2)] [(.int (1 : Int32))]))
  exact own_retN (t := .boolean) X0 hx Bd.returns (by simp) Bd.notSynchronized (hb hby own_d4_42) ⟨rfl, rfl, e0⟩ (by decide) (by decide)
theorem own_pn0 : plainFor x = true := plainFor_of_name (by first | (simp [plainName, overriddenIn]; done) | decide +kernel)
theorem own_rm0_ef (m : MethodId) (p0 : Int32) (p1 : Int32) (p2 : Int32) : entryFrame m #[(.int p0), (.int p1), (.int p2)] maxLocals = mkF m 0 #[.val (.int p0), .val (.int p1), .val (.int p2), .unset, .unset, .unset, .unset, .unset, .unset, .unset, .unset, .unset, .unset] [] := by first | (simp [entryFrame, mkF, argsToLocals, Value.category, maxLocals]; done) | rfl
set_option maxRecDepth 65536 in
set_option maxHeartbeats 40000000 in
theorem own_rm0 (l : Launch) (Z : State) (a0 : Array Value) (hw : ∀ d ∈ tables_1, d.before a0 Z = true) (ws : List Jvm.Cond) (p0 : Int32) (p1 : Int32) (p2 : Int32)  (h0 : Heap) (n0 : Nat) (Z0 : n0 ≤ h0.size)  :
    own_C l Z x code maxLocals ret ws room_1 #[(.int p0), (.int p1), (.int p2)] h0 (own_W n0 (fun v _ => v = some (.int 1))) := by
  refine MetFree.of_bodySF own_pn0 hisR ?_
  intro p e s m args below meth c s₁ Bd hml0 hP hK
  obtain ⟨rfl, hZ, hh⟩ := hP
  have hx := Bd.exec
  have hby := Bd.bytes
  have hml : c.maxLocals = 13 := hml0
  have hown : s.vm.findClass "com/example/clementi/clementi/store/KeyRangeEndPinLaw" = some m.cls := findClass_of_methodNamed Bd.named
  have hnm := (name_of_methodNamed Bd.named Bd.method).1
  have X0 : Stand p l e room_1 s m #[(.int p0), (.int p1), (.int p2)] below meth c s₁ [] 0 0 := Stand.of_body Bd
  have e0 : s₁.heap = h0 := by rw [← hh, Bd.state]; rfl
  have N0 := Fr.nil n0
  show own_G p e below (own_P s (own_W n0 (fun v _ => v = some (.int 1))) room_1.cells room_1.slots) (s₁.setTop (entryFrame m #[(.int p0), (.int p1), (.int p2)] maxLocals))
  rw [own_rm0_ef m p0 p1 p2]
  show own_G p e below _ (s₁.setTop (mkF m 0 #[.val (.int p0), .val (.int p1), .val (.int p2), .unset, .unset, .unset, .unset, .unset, .unset, .unset, .unset, .unset, .unset] []))
  refine own_via (fun t k => XS.iloadN X0.here hx rfl (hb hby at_0) rfl k) ?_
  show own_G p e below _ (s₁.setTop (mkF m 1 #[.val (.int p0), .val (.int p1), .val (.int p2), .unset, .unset, .unset, .unset, .unset, .unset, .unset, .unset, .unset, .unset] [(.int p2)]))
  refine own_via (fun t k => XS.iconst X0.here hx rfl (hb hby at_1) k) ?_
  show own_G p e below _ (s₁.setTop (mkF m 2 #[.val (.int p0), .val (.int p1), .val (.int p2), .unset, .unset, .unset, .unset, .unset, .unset, .unset, .unset, .unset, .unset] [(.int (1 : Int32)), (.int p2)]))
  refine own_via (fun t k => XS.iand X0.here hx rfl (hb hby at_2) rfl k) ?_
  show own_G p e below _ (s₁.setTop (mkF m 3 #[.val (.int p0), .val (.int p1), .val (.int p2), .unset, .unset, .unset, .unset, .unset, .unset, .unset, .unset, .unset, .unset] [(.int (p2 &&& (1 : Int32)))]))
  by_cases hc1 : (p2 &&& (1 : Int32)) = (0 : Int32)
  ·
    refine own_via (fun t k => XS.ifYes X0.here hx rfl (pc0 := 3) (pc' := 10) rfl (hb hby at_3) rfl ((if0 _ _).trans (teq hc1).1) (by decide) (by decide) k) ?_
    show own_G p e below _ (s₁.setTop (mkF m 10 #[.val (.int p0), .val (.int p1), .val (.int p2), .unset, .unset, .unset, .unset, .unset, .unset, .unset, .unset, .unset, .unset] []))
    refine own_via (fun t k => XS.iconst X0.here hx rfl (hb hby at_10) k) ?_
    show own_G p e below _ (s₁.setTop (mkF m 11 #[.val (.int p0), .val (.int p1), .val (.int p2), .unset, .unset, .unset, .unset, .unset, .unset, .unset, .unset, .unset, .unset] [(.int (0 : Int32))]))
    refine own_via (fun t k => XS.istoreN X0.here hx rfl (hb hby at_11) rfl (l' := #[.val (.int p0), .val (.int p1), .val (.int p2), .val (.int (0 : Int32)), .unset, .unset, .unset, .unset, .unset, .unset, .unset, .unset, .unset]) rfl k) ?_
    show own_G p e below _ (s₁.setTop (mkF m 12 #[.val (.int p0), .val (.int p1), .val (.int p2), .val (.int (0 : Int32)), .unset, .unset, .unset, .unset, .unset, .unset, .unset, .unset, .unset] []))
    refine own_via (fun t k => XS.iloadN X0.here hx rfl (hb hby at_12) rfl k) ?_
    show own_G p e below _ (s₁.setTop (mkF m 13 #[.val (.int p0), .val (.int p1), .val (.int p2), .val (.int (0 : Int32)), .unset, .unset, .unset, .unset, .unset, .unset, .unset, .unset, .unset] [(.int p1)]))
    refine own_via (fun t k => XS.iconst X0.here hx rfl (hb hby at_13) k) ?_
    show own_G p e below _ (s₁.setTop (mkF m 14 #[.val (.int p0), .val (.int p1), .val (.int p2), .val (.int (0 : Int32)), .unset, .unset, .unset, .unset, .unset, .unset, .unset, .unset, .unset] [(.int (3 : Int32)), (.int p1)]))
    refine own_via (fun t k => XS.iand X0.here hx rfl (hb hby at_14) rfl k) ?_
    show own_G p e below _ (s₁.setTop (mkF m 15 #[.val (.int p0), .val (.int p1), .val (.int p2), .val (.int (0 : Int32)), .unset, .unset, .unset, .unset, .unset, .unset, .unset, .unset, .unset] [(.int (p1 &&& (3 : Int32)))]))
    rcases own_and3 p1 with hs2 | hs3 | hs4 | hs5
    ·
      rw [hs2]
      show own_G p e below _ (s₁.setTop (mkF m 15 #[.val (.int p0), .val (.int p1), .val (.int p2), .val (.int (0 : Int32)), .unset, .unset, .unset, .unset, .unset, .unset, .unset, .unset, .unset] [(.int (0 : Int32))]))
      refine own_via (fun t k => XS.istore X0.here hx rfl (hb hby at_15) rfl (l' := #[.val (.int p0), .val (.int p1), .val (.int p2), .val (.int (0 : Int32)), .val (.int (0 : Int32)), .unset, .unset, .unset, .unset, .unset, .unset, .unset, .unset]) rfl k) ?_
      show own_G p e below _ (s₁.setTop (mkF m 17 #[.val (.int p0), .val (.int p1), .val (.int p2), .val (.int (0 : Int32)), .val (.int (0 : Int32)), .unset, .unset, .unset, .unset, .unset, .unset, .unset, .unset] []))
      refine own_via (fun t k => XS.iconst X0.here hx rfl (hb hby at_17) k) ?_
      show own_G p e below _ (s₁.setTop (mkF m 18 #[.val (.int p0), .val (.int p1), .val (.int p2), .val (.int (0 : Int32)), .val (.int (0 : Int32)), .unset, .unset, .unset, .unset, .unset, .unset, .unset, .unset] [(.int (1 : Int32))]))
      obtain ⟨T6, h6, k6, b6, X6, e6, E6, ga6, V6, Ex6, st6⟩ := own_newA X0 hx hZ (hw _ (List.mem_of_getElem? (i := 0) rfl)) e0 (pc := 18) (Ls := #[.val (.int p0), .val (.int p1), .val (.int p2), .val (.int (0 : Int32)), .val (.int (0 : Int32)), .unset, .unset, .unset, .unset, .unset, .unset, .unset, .unset]) (rest := []) (hb hby at_18) (n := (1 : Int32)) (by decide) (cap := 1) (by decide) (by decide) (by decide) (by decide) 1 rfl
      refine own_via st6 ?_
      have f7 : Arv Z h6 b6 k6 .byte (1 : Int32) [(.int (0 : Int32))] (.int (0 : Int32)) := V6
      have f8 : Exa Z h6 b6 "[B" := Ex6
      have g_b6 : n0 ≤ b6 := Nat.le_trans Z0 (Nat.le_of_eq ga6.symm)
      have Zs9 : n0 ≤ h6.size := Nat.le_trans Z0 E6.1
      show own_G p e below _ (T6.setTop (mkF m 20 #[.val (.int p0), .val (.int p1), .val (.int p2), .val (.int (0 : Int32)), .val (.int (0 : Int32)), .unset, .unset, .unset, .unset, .unset, .unset, .unset, .unset] [(.ref b6)]))
      refine own_via (fun t k => XS.astore X6.here hx rfl (hb hby at_20) rfl rfl (l' := #[.val (.int p0), .val (.int p1), .val (.int p2), .val (.int (0 : Int32)), .val (.int (0 : Int32)), .val (.ref b6), .unset, .unset, .unset, .unset, .unset, .unset, .unset]) rfl k) ?_
      show own_G p e below _ (T6.setTop (mkF m 22 #[.val (.int p0), .val (.int p1), .val (.int p2), .val (.int (0 : Int32)), .val (.int (0 : Int32)), .val (.ref b6), .unset, .unset, .unset, .unset, .unset, .unset, .unset] []))
      refine own_via (fun t k => XS.aload X6.here hx rfl (hb hby at_22) rfl rfl k) ?_
      show own_G p e below _ (T6.setTop (mkF m 24 #[.val (.int p0), .val (.int p1), .val (.int p2), .val (.int (0 : Int32)), .val (.int (0 : Int32)), .val (.ref b6), .unset, .unset, .unset, .unset, .unset, .unset, .unset] [(.ref b6)]))
      refine own_via (fun t k => XS.iconst X6.here hx rfl (hb hby at_24) k) ?_
      show own_G p e below _ (T6.setTop (mkF m 25 #[.val (.int p0), .val (.int p1), .val (.int p2), .val (.int (0 : Int32)), .val (.int (0 : Int32)), .val (.ref b6), .unset, .unset, .unset, .unset, .unset, .unset, .unset] [(.int (0 : Int32)), (.ref b6)]))
      refine own_via (fun t k => XS.iloadN X6.here hx rfl (hb hby at_25) rfl k) ?_
      show own_G p e below _ (T6.setTop (mkF m 26 #[.val (.int p0), .val (.int p1), .val (.int p2), .val (.int (0 : Int32)), .val (.int (0 : Int32)), .val (.ref b6), .unset, .unset, .unset, .unset, .unset, .unset, .unset] [(.int p0), (.int (0 : Int32)), (.ref b6)]))
      refine own_via (fun t k => XS.bipush X6.here hx rfl (hb hby at_26) k) ?_
      show own_G p e below _ (T6.setTop (mkF m 28 #[.val (.int p0), .val (.int p1), .val (.int p2), .val (.int (0 : Int32)), .val (.int (0 : Int32)), .val (.ref b6), .unset, .unset, .unset, .unset, .unset, .unset, .unset] [(.int (24 : Int32)), (.int p0), (.int (0 : Int32)), (.ref b6)]))
      refine own_via (fun t k => XS.iushr X6.here hx rfl (hb hby at_28) rfl k) ?_
      show own_G p e below _ (T6.setTop (mkF m 29 #[.val (.int p0), .val (.int p1), .val (.int p2), .val (.int (0 : Int32)), .val (.int (0 : Int32)), .val (.ref b6), .unset, .unset, .unset, .unset, .unset, .unset, .unset] [(.int ((p0.toUInt32 >>> ((24 : Int32) &&& 31).toUInt32).toInt32)), (.int (0 : Int32)), (.ref b6)]))
      refine own_via (fun t k => XS.i2b X6.here hx rfl (hb hby at_29) rfl k) ?_
      show own_G p e below _ (T6.setTop (mkF m 30 #[.val (.int p0), .val (.int p1), .val (.int p2), .val (.int (0 : Int32)), .val (.int (0 : Int32)), .val (.ref b6), .unset, .unset, .unset, .unset, .unset, .unset, .unset] [(.int (((p0.toUInt32 >>> ((24 : Int32) &&& 31).toUInt32).toInt32).toInt8.toInt32)), (.int (0 : Int32)), (.ref b6)]))
      obtain ⟨T10, h10, L10, X10, N10, e10, W10, V10, st10⟩ := own_stB X6 N0 hx hZ e6 f7 g_b6 (j := (0 : Int32)) (x := (((p0.toUInt32 >>> ((24 : Int32) &&& 31).toUInt32).toInt32).toInt8.toInt32)) (i := 0) ⟨by decide, by decide⟩ rfl (Nat.le_of_ble_eq_true rfl) (pc := 30) (Ls := #[.val (.int p0), .val (.int p1), .val (.int p2), .val (.int (0 : Int32)), .val (.int (0 : Int32)), .val (.ref b6), .unset, .unset, .unset, .unset, .unset, .unset, .unset]) (rest := []) (hb hby at_30)
      refine own_via st10 ?_
      have f11 : Exa Z h10 b6 "[B" := f8.wr W10
      have f12 : Arv Z h10 b6 k6 .byte (1 : Int32) [(.int ((((p0.toUInt32 >>> ((24 : Int32) &&& 31).toUInt32).toInt32).toInt8.toInt32).toInt8.toInt32))] (.int (0 : Int32)) := V10
      have Zs13 : n0 ≤ h10.size := by rw [W10.size]; exact Zs9
      show own_G p e below _ (T10.setTop (mkF m 31 #[.val (.int p0), .val (.int p1), .val (.int p2), .val (.int (0 : Int32)), .val (.int (0 : Int32)), .val (.ref b6), .unset, .unset, .unset, .unset, .unset, .unset, .unset] []))
      refine own_via (fun t k => XS.iloadN X10.here hx rfl (hb hby at_31) rfl k) ?_
      show own_G p e below _ (T10.setTop (mkF m 32 #[.val (.int p0), .val (.int p1), .val (.int p2), .val (.int (0 : Int32)), .val (.int (0 : Int32)), .val (.ref b6), .unset, .unset, .unset, .unset, .unset, .unset, .unset] [(.int p0)]))
      refine own_via (fun t k => XS.i2b X10.here hx rfl (hb hby at_32) rfl k) ?_
      show own_G p e below _ (T10.setTop (mkF m 33 #[.val (.int p0), .val (.int p1), .val (.int p2), .val (.int (0 : Int32)), .val (.int (0 : Int32)), .val (.ref b6), .unset, .unset, .unset, .unset, .unset, .unset, .unset] [(.int (p0.toInt8.toInt32))]))
      generalize hvg14 : (p0.toInt8.toInt32) = vg14
      show own_G p e below _ (T10.setTop (mkF m 33 #[.val (.int p0), .val (.int p1), .val (.int p2), .val (.int (0 : Int32)), .val (.int (0 : Int32)), .val (.ref b6), .unset, .unset, .unset, .unset, .unset, .unset, .unset] [(.int vg14)]))
      refine own_via (fun t k => XS.istore X10.here hx rfl (hb hby at_33) rfl (l' := #[.val (.int p0), .val (.int p1), .val (.int p2), .val (.int (0 : Int32)), .val (.int (0 : Int32)), .val (.ref b6), .val (.int vg14), .unset, .unset, .unset, .unset, .unset, .unset]) rfl k) ?_
      show own_G p e below _ (T10.setTop (mkF m 35 #[.val (.int p0), .val (.int p1), .val (.int p2), .val (.int (0 : Int32)), .val (.int (0 : Int32)), .val (.ref b6), .val (.int vg14), .unset, .unset, .unset, .unset, .unset, .unset] []))
      refine own_via (fun t k => XS.iloadN X10.here hx rfl (hb hby at_35) rfl k) ?_
      show own_G p e below _ (T10.setTop (mkF m 36 #[.val (.int p0), .val (.int p1), .val (.int p2), .val (.int (0 : Int32)), .val (.int (0 : Int32)), .val (.ref b6), .val (.int vg14), .unset, .unset, .unset, .unset, .unset, .unset] [(.int p0)]))
      refine own_via (fun t k => XS.bipush X10.here hx rfl (hb hby at_36) k) ?_
      show own_G p e below _ (T10.setTop (mkF m 38 #[.val (.int p0), .val (.int p1), .val (.int p2), .val (.int (0 : Int32)), .val (.int (0 : Int32)), .val (.ref b6), .val (.int vg14), .unset, .unset, .unset, .unset, .unset, .unset] [(.int (8 : Int32)), (.int p0)]))
      refine own_via (fun t k => XS.ishr X10.here hx rfl (hb hby at_38) rfl k) ?_
      show own_G p e below _ (T10.setTop (mkF m 39 #[.val (.int p0), .val (.int p1), .val (.int p2), .val (.int (0 : Int32)), .val (.int (0 : Int32)), .val (.ref b6), .val (.int vg14), .unset, .unset, .unset, .unset, .unset, .unset] [(.int (p0 >>> ((8 : Int32) &&& 31)))]))
      refine own_via (fun t k => XS.i2b X10.here hx rfl (hb hby at_39) rfl k) ?_
      show own_G p e below _ (T10.setTop (mkF m 40 #[.val (.int p0), .val (.int p1), .val (.int p2), .val (.int (0 : Int32)), .val (.int (0 : Int32)), .val (.ref b6), .val (.int vg14), .unset, .unset, .unset, .unset, .unset, .unset] [(.int ((p0 >>> ((8 : Int32) &&& 31)).toInt8.toInt32))]))
      generalize hvg15 : ((p0 >>> ((8 : Int32) &&& 31)).toInt8.toInt32) = vg15
      show own_G p e below _ (T10.setTop (mkF m 40 #[.val (.int p0), .val (.int p1), .val (.int p2), .val (.int (0 : Int32)), .val (.int (0 : Int32)), .val (.ref b6), .val (.int vg14), .unset, .unset, .unset, .unset, .unset, .unset] [(.int vg15)]))
      refine own_via (fun t k => XS.istore X10.here hx rfl (hb hby at_40) rfl (l' := #[.val (.int p0), .val (.int p1), .val (.int p2), .val (.int (0 : Int32)), .val (.int (0 : Int32)), .val (.ref b6), .val (.int vg14), .val (.int vg15), .unset, .unset, .unset, .unset, .unset]) rfl k) ?_
      show own_G p e below _ (T10.setTop (mkF m 42 #[.val (.int p0), .val (.int p1), .val (.int p2), .val (.int (0 : Int32)), .val (.int (0 : Int32)), .val (.ref b6), .val (.int vg14), .val (.int vg15), .unset, .unset, .unset, .unset, .unset] []))
      refine own_via (fun t k => XS.iloadN X10.here hx rfl (hb hby at_42) rfl k) ?_
      show own_G p e below _ (T10.setTop (mkF m 43 #[.val (.int p0), .val (.int p1), .val (.int p2), .val (.int (0 : Int32)), .val (.int (0 : Int32)), .val (.ref b6), .val (.int vg14), .val (.int vg15), .unset, .unset, .unset, .unset, .unset] [(.int p0)]))
      refine own_via (fun t k => XS.bipush X10.here hx rfl (hb hby at_43) k) ?_
      show own_G p e below _ (T10.setTop (mkF m 45 #[.val (.int p0), .val (.int p1), .val (.int p2), .val (.int (0 : Int32)), .val (.int (0 : Int32)), .val (.ref b6), .val (.int vg14), .val (.int vg15), .unset, .unset, .unset, .unset, .unset] [(.int (16 : Int32)), (.int p0)]))
      refine own_via (fun t k => XS.ishr X10.here hx rfl (hb hby at_45) rfl k) ?_
      show own_G p e below _ (T10.setTop (mkF m 46 #[.val (.int p0), .val (.int p1), .val (.int p2), .val (.int (0 : Int32)), .val (.int (0 : Int32)), .val (.ref b6), .val (.int vg14), .val (.int vg15), .unset, .unset, .unset, .unset, .unset] [(.int (p0 >>> ((16 : Int32) &&& 31)))]))
      refine own_via (fun t k => XS.i2b X10.here hx rfl (hb hby at_46) rfl k) ?_
      show own_G p e below _ (T10.setTop (mkF m 47 #[.val (.int p0), .val (.int p1), .val (.int p2), .val (.int (0 : Int32)), .val (.int (0 : Int32)), .val (.ref b6), .val (.int vg14), .val (.int vg15), .unset, .unset, .unset, .unset, .unset] [(.int ((p0 >>> ((16 : Int32) &&& 31)).toInt8.toInt32))]))
      generalize hvg16 : ((p0 >>> ((16 : Int32) &&& 31)).toInt8.toInt32) = vg16
      show own_G p e below _ (T10.setTop (mkF m 47 #[.val (.int p0), .val (.int p1), .val (.int p2), .val (.int (0 : Int32)), .val (.int (0 : Int32)), .val (.ref b6), .val (.int vg14), .val (.int vg15), .unset, .unset, .unset, .unset, .unset] [(.int vg16)]))
      refine own_via (fun t k => XS.istore X10.here hx rfl (hb hby at_47) rfl (l' := #[.val (.int p0), .val (.int p1), .val (.int p2), .val (.int (0 : Int32)), .val (.int (0 : Int32)), .val (.ref b6), .val (.int vg14), .val (.int vg15), .val (.int vg16), .unset, .unset, .unset, .unset]) rfl k) ?_
      show own_G p e below _ (T10.setTop (mkF m 49 #[.val (.int p0), .val (.int p1), .val (.int p2), .val (.int (0 : Int32)), .val (.int (0 : Int32)), .val (.ref b6), .val (.int vg14), .val (.int vg15), .val (.int vg16), .unset, .unset, .unset, .unset] []))
      refine own_via (fun t k => XS.iload X10.here hx rfl (hb hby at_49) rfl k) ?_
      show own_G p e below _ (T10.setTop (mkF m 51 #[.val (.int p0), .val (.int p1), .val (.int p2), .val (.int (0 : Int32)), .val (.int (0 : Int32)), .val (.ref b6), .val (.int vg14), .val (.int vg15), .val (.int vg16), .unset, .unset, .unset, .unset] [(.int (0 : Int32))]))
      obtain ⟨T17, h17, k17, b17, X17, e17, E17, ga17, V17, Ex17, st17⟩ := own_newA X10 hx hZ (hw _ (List.mem_of_getElem? (i := 0) rfl)) e10 (pc := 51) (Ls := #[.val (.int p0), .val (.int p1), .val (.int p2), .val (.int (0 : Int32)), .val (.int (0 : Int32)), .val (.ref b6), .val (.int vg14), .val (.int vg15), .val (.int vg16), .unset, .unset, .unset, .unset]) (rest := []) (hb hby at_51) (n := (0 : Int32)) (by decide) (cap := 0) (by decide) (by decide) (by decide) (by decide) 0 rfl
      refine own_via st17 ?_
      have ne18 : b6 ≠ b17 := Nat.ne_of_lt (Nat.lt_of_lt_of_le f11.lt (Nat.le_of_eq ga17.symm))
      have f19 : Exa Z h17 b6 "[B" := f11.ext E17
      have f20 : Arv Z h17 b6 k6 .byte (1 : Int32) [(.int ((((p0.toUInt32 >>> ((24 : Int32) &&& 31).toUInt32).toInt32).toInt8.toInt32).toInt8.toInt32))] (.int (0 : Int32)) := f12.ext E17
      have f21 : Arv Z h17 b17 k17 .byte (0 : Int32) [] (.int (0 : Int32)) := V17
      have f22 : Exa Z h17 b17 "[B" := Ex17
      have g_b17 : n0 ≤ b17 := Nat.le_trans Zs13 (Nat.le_of_eq ga17.symm)
      have Zs23 : n0 ≤ h17.size := Nat.le_trans Zs13 E17.1
      show own_G p e below _ (T17.setTop (mkF m 53 #[.val (.int p0), .val (.int p1), .val (.int p2), .val (.int (0 : Int32)), .val (.int (0 : Int32)), .val (.ref b6), .val (.int vg14), .val (.int vg15), .val (.int vg16), .unset, .unset, .unset, .unset] [(.ref b17)]))
      refine own_via (fun t k => XS.astore X17.here hx rfl (hb hby at_53) rfl rfl (l' := #[.val (.int p0), .val (.int p1), .val (.int p2), .val (.int (0 : Int32)), .val (.int (0 : Int32)), .val (.ref b6), .val (.int vg14), .val (.int vg15), .val (.int vg16), .val (.ref b17), .unset, .unset, .unset]) rfl k) ?_
      show own_G p e below _ (T17.setTop (mkF m 55 #[.val (.int p0), .val (.int p1), .val (.int p2), .val (.int (0 : Int32)), .val (.int (0 : Int32)), .val (.ref b6), .val (.int vg14), .val (.int vg15), .val (.int vg16), .val (.ref b17), .unset, .unset, .unset] []))
      refine own_via (fun t k => XS.iload X17.here hx rfl (hb hby at_55) rfl k) ?_
      show own_G p e below _ (T17.setTop (mkF m 57 #[.val (.int p0), .val (.int p1), .val (.int p2), .val (.int (0 : Int32)), .val (.int (0 : Int32)), .val (.ref b6), .val (.int vg14), .val (.int vg15), .val (.int vg16), .val (.ref b17), .unset, .unset, .unset] [(.int (0 : Int32))]))
      refine own_via (fun t k => XS.ifYes X17.here hx rfl (pc0 := 57) (pc' := 66) rfl (hb hby at_57) rfl ((if0 _ _).trans (flt (by decide : ¬ ((0 : Int32) < (0 : Int32)))).2.2.2) (by decide) (by decide) k) ?_
      show own_G p e below _ (T17.setTop (mkF m 66 #[.val (.int p0), .val (.int p1), .val (.int p2), .val (.int (0 : Int32)), .val (.int (0 : Int32)), .val (.ref b6), .val (.int vg14), .val (.int vg15), .val (.int vg16), .val (.ref b17), .unset, .unset, .unset] []))
      refine own_via (fun t k => XS.iload X17.here hx rfl (hb hby at_66) rfl k) ?_
      show own_G p e below _ (T17.setTop (mkF m 68 #[.val (.int p0), .val (.int p1), .val (.int p2), .val (.int (0 : Int32)), .val (.int (0 : Int32)), .val (.ref b6), .val (.int vg14), .val (.int vg15), .val (.int vg16), .val (.ref b17), .unset, .unset, .unset] [(.int (0 : Int32))]))
      refine own_via (fun t k => XS.iconst X17.here hx rfl (hb hby at_68) k) ?_
      show own_G p e below _ (T17.setTop (mkF m 69 #[.val (.int p0), .val (.int p1), .val (.int p2), .val (.int (0 : Int32)), .val (.int (0 : Int32)), .val (.ref b6), .val (.int vg14), .val (.int vg15), .val (.int vg16), .val (.ref b17), .unset, .unset, .unset] [(.int (1 : Int32)), (.int (0 : Int32))]))
      refine own_via (fun t k => XS.icmpYes X17.here hx rfl (pc0 := 69) (pc' := 78) rfl (hb hby at_69) rfl (flt (by decide : ¬ ((1 : Int32) < (0 : Int32)))).2.2.2 (by decide) (by decide) k) ?_
      show own_G p e below _ (T17.setTop (mkF m 78 #[.val (.int p0), .val (.int p1), .val (.int p2), .val (.int (0 : Int32)), .val (.int (0 : Int32)), .val (.ref b6), .val (.int vg14), .val (.int vg15), .val (.int vg16), .val (.ref b17), .unset, .unset, .unset] []))
      refine own_via (fun t k => XS.iload X17.here hx rfl (hb hby at_78) rfl k) ?_
      show own_G p e below _ (T17.setTop (mkF m 80 #[.val (.int p0), .val (.int p1), .val (.int p2), .val (.int (0 : Int32)), .val (.int (0 : Int32)), .val (.ref b6), .val (.int vg14), .val (.int vg15), .val (.int vg16), .val (.ref b17), .unset, .unset, .unset] [(.int (0 : Int32))]))
      refine own_via (fun t k => XS.iconst X17.here hx rfl (hb hby at_80) k) ?_
      show own_G p e below _ (T17.setTop (mkF m 81 #[.val (.int p0), .val (.int p1), .val (.int p2), .val (.int (0 : Int32)), .val (.int (0 : Int32)), .val (.ref b6), .val (.int vg14), .val (.int vg15), .val (.int vg16), .val (.ref b17), .unset, .unset, .unset] [(.int (2 : Int32)), (.int (0 : Int32))]))
      refine own_via (fun t k => XS.icmpYes X17.here hx rfl (pc0 := 81) (pc' := 90) rfl (hb hby at_81) rfl (flt (by decide : ¬ ((2 : Int32) < (0 : Int32)))).2.2.2 (by decide) (by decide) k) ?_
      show own_G p e below _ (T17.setTop (mkF m 90 #[.val (.int p0), .val (.int p1), .val (.int p2), .val (.int (0 : Int32)), .val (.int (0 : Int32)), .val (.ref b6), .val (.int vg14), .val (.int vg15), .val (.int vg16), .val (.ref b17), .unset, .unset, .unset] []))
      obtain ⟨T24, h24, b24, X24, e24, E24, ga24, A24, D24, st24⟩ := own_newO X17 hx hZ hown (hw _ (List.mem_of_getElem? (i := 1) rfl)) (hw _ (List.mem_of_getElem? (i := 2) rfl)) (hw _ (List.mem_of_getElem? (i := 3) rfl)) e17 (pc := 90) (Ls := #[.val (.int p0), .val (.int p1), .val (.int p2), .val (.int (0 : Int32)), .val (.int (0 : Int32)), .val (.ref b6), .val (.int vg14), .val (.int vg15), .val (.int vg16), .val (.ref b17), .unset, .unset, .unset]) (rest := []) (hb hby at_90) (by decide) (by decide)
      refine own_via st24 ?_
      have ne25 : b6 ≠ b24 := Nat.ne_of_lt (Nat.lt_of_lt_of_le f19.lt (Nat.le_of_eq ga24.symm))
      have ne26 : b17 ≠ b24 := Nat.ne_of_lt (Nat.lt_of_lt_of_le f21.lt (Nat.le_of_eq ga24.symm))
      have f27 : Exa Z h24 b6 "[B" := f19.ext E24
      have f28 : Arv Z h24 b6 k6 .byte (1 : Int32) [(.int ((((p0.toUInt32 >>> ((24 : Int32) &&& 31).toUInt32).toInt32).toInt8.toInt32).toInt8.toInt32))] (.int (0 : Int32)) := f20.ext E24
      have f29 : Arv Z h24 b17 k17 .byte (0 : Int32) [] (.int (0 : Int32)) := f21.ext E24
      have f30 : Exa Z h24 b17 "[B" := f22.ext E24
      have f31 : Fld Z h24 b24 "com/example/clementi/clementi/store/KeyRange" "prefix" "[B" .null := D24 (Or.inr (hw _ (List.mem_of_getElem? (i := 11) rfl))) (ty := (.array .byte)) (by decide)
      have f32 : Fld Z h24 b24 "com/example/clementi/clementi/store/KeyRange" "end" "[B" .null := D24 (Or.inr (hw _ (List.mem_of_getElem? (i := 13) rfl))) (ty := (.array .byte)) (by decide)
      have g_b24 : n0 ≤ b24 := Nat.le_trans Zs23 (Nat.le_of_eq ga24.symm)
      have Zs33 : n0 ≤ h24.size := Nat.le_trans Zs23 E24.1
      show own_G p e below _ (T24.setTop (mkF m 93 #[.val (.int p0), .val (.int p1), .val (.int p2), .val (.int (0 : Int32)), .val (.int (0 : Int32)), .val (.ref b6), .val (.int vg14), .val (.int vg15), .val (.int vg16), .val (.ref b17), .unset, .unset, .unset] [(.ref b24)]))
      refine own_via (fun t k => XS.dup X24.here hx rfl (hb hby at_93) rfl rfl k) ?_
      show own_G p e below _ (T24.setTop (mkF m 94 #[.val (.int p0), .val (.int p1), .val (.int p2), .val (.int (0 : Int32)), .val (.int (0 : Int32)), .val (.ref b6), .val (.int vg14), .val (.int vg15), .val (.int vg16), .val (.ref b17), .unset, .unset, .unset] [(.ref b24), (.ref b24)]))
      refine own_via (fun t k => XS.aload X24.here hx rfl (hb hby at_94) rfl rfl k) ?_
      show own_G p e below _ (T24.setTop (mkF m 96 #[.val (.int p0), .val (.int p1), .val (.int p2), .val (.int (0 : Int32)), .val (.int (0 : Int32)), .val (.ref b6), .val (.int vg14), .val (.int vg15), .val (.int vg16), .val (.ref b17), .unset, .unset, .unset] [(.ref b6), (.ref b24), (.ref b24)]))
      refine own_via (fun t k => XS.iloadN X24.here hx rfl (hb hby at_96) rfl k) ?_
      show own_G p e below _ (T24.setTop (mkF m 97 #[.val (.int p0), .val (.int p1), .val (.int p2), .val (.int (0 : Int32)), .val (.int (0 : Int32)), .val (.ref b6), .val (.int vg14), .val (.int vg15), .val (.int vg16), .val (.ref b17), .unset, .unset, .unset] [(.int (0 : Int32)), (.ref b6), (.ref b24), (.ref b24)]))
      refine own_via (fun t k => XS.ifYes X24.here hx rfl (pc0 := 97) (pc' := 104) rfl (hb hby at_97) rfl ((if0 _ _).trans (teq (by decide : (0 : Int32) = (0 : Int32))).1) (by decide) (by decide) k) ?_
      show own_G p e below _ (T24.setTop (mkF m 104 #[.val (.int p0), .val (.int p1), .val (.int p2), .val (.int (0 : Int32)), .val (.int (0 : Int32)), .val (.ref b6), .val (.int vg14), .val (.int vg15), .val (.int vg16), .val (.ref b17), .unset, .unset, .unset] [(.ref b6), (.ref b24), (.ref b24)]))
      refine own_via (fun t k => XS.aload X24.here hx rfl (hb hby at_104) rfl rfl k) ?_
      show own_G p e below _ (T24.setTop (mkF m 106 #[.val (.int p0), .val (.int p1), .val (.int p2), .val (.int (0 : Int32)), .val (.int (0 : Int32)), .val (.ref b6), .val (.int vg14), .val (.int vg15), .val (.int vg16), .val (.ref b17), .unset, .unset, .unset] [(.ref b17), (.ref b6), (.ref b24), (.ref b24)]))
      obtain ⟨v34, T34, h34, L34, X34, N34, e34, hq34, st34⟩ := own_callI (y := (⟨"com/example/clementi/clementi/store/KeyRange", "<init>", "([B[B)V"⟩ : MethodName)) (W := 1) (a := b24) X24 N10 hx hZ rfl hown (hw _ (List.mem_of_getElem? (i := 4) rfl)) (hw _ (List.mem_of_getElem? (i := 5) rfl)) (hw _ (List.mem_of_getElem? (i := 3) rfl)) (hw _ (List.mem_of_getElem? (i := 6) rfl)) (by decide) (own_init0 l Z a0 hw [] b24 b6 b17 (.null) (.null) h24 n0 Zs33 A24 f31 f32 g_b24) (by decide) (by decide) (by decide) (by decide) e24 (pc := 106) (Ls := #[.val (.int p0), .val (.int p1), .val (.int p2), .val (.int (0 : Int32)), .val (.int (0 : Int32)), .val (.ref b6), .val (.int vg14), .val (.int vg15), .val (.int vg16), .val (.ref b17), .unset, .unset, .unset]) (st := [(.ref b17), (.ref b6), (.ref b24), (.ref b24)]) (argsL := [(.ref b6), (.ref b17)]) (rest := [(.ref b24)]) (by rw [hml]; rfl) (lenOf own_pd0 rfl) rfl rfl (Nat.le_of_eq rfl) (hb hby at_106)
      obtain ⟨rfl, K34, o34_0, o34_1, o34_2⟩ := hq34
      refine own_via st34 ?_
      have f35 : Exa Z h34 b6 "[B" := f27.keep K34
      have f36 : Arv Z h34 b6 k6 .byte (1 : Int32) [(.int ((((p0.toUInt32 >>> ((24 : Int32) &&& 31).toUInt32).toInt32).toInt8.toInt32).toInt8.toInt32))] (.int (0 : Int32)) := f28.keep K34 (by simp only [List.mem_cons, List.not_mem_nil, or_false, not_or]; exact ne25)
      have f37 : Arv Z h34 b17 k17 .byte (0 : Int32) [] (.int (0 : Int32)) := f29.keep K34 (by simp only [List.mem_cons, List.not_mem_nil, or_false, not_or]; exact ne26)
      have f38 : Exa Z h34 b17 "[B" := f30.keep K34
      have f39 : Exa Z h34 b24 "com/example/clementi/clementi/store/KeyRange" := A24.keep K34
      have Zs40 : n0 ≤ h34.size := Nat.le_trans Zs33 K34.1
      show own_G p e below _ (T34.setTop (mkF m 109 #[.val (.int p0), .val (.int p1), .val (.int p2), .val (.int (0 : Int32)), .val (.int (0 : Int32)), .val (.ref b6), .val (.int vg14), .val (.int vg15), .val (.int vg16), .val (.ref b17), .unset, .unset, .unset] [(.ref b24)]))
      refine own_via (fun t k => XS.astore X34.here hx rfl (hb hby at_109) rfl rfl (l' := #[.val (.int p0), .val (.int p1), .val (.int p2), .val (.int (0 : Int32)), .val (.int (0 : Int32)), .val (.ref b6), .val (.int vg14), .val (.int vg15), .val (.int vg16), .val (.ref b17), .val (.ref b24), .unset, .unset]) rfl k) ?_
      show own_G p e below _ (T34.setTop (mkF m 111 #[.val (.int p0), .val (.int p1), .val (.int p2), .val (.int (0 : Int32)), .val (.int (0 : Int32)), .val (.ref b6), .val (.int vg14), .val (.int vg15), .val (.int vg16), .val (.ref b17), .val (.ref b24), .unset, .unset] []))
      refine own_via (fun t k => XS.aload X34.here hx rfl (hb hby at_111) rfl rfl k) ?_
      show own_G p e below _ (T34.setTop (mkF m 113 #[.val (.int p0), .val (.int p1), .val (.int p2), .val (.int (0 : Int32)), .val (.int (0 : Int32)), .val (.ref b6), .val (.int vg14), .val (.int vg15), .val (.int vg16), .val (.ref b17), .val (.ref b24), .unset, .unset] [(.ref b24)]))
      obtain ⟨v41, T41, h41, L41, X41, N41, e41, hq41, st41⟩ := own_callV (y := (⟨"com/example/clementi/clementi/store/KeyRange", "end", "()[B"⟩ : MethodName)) (z := (⟨"com/example/clementi/clementi/store/KeyRange", "end", "()[B"⟩ : MethodName)) (W := 0) (a := b24) X34 N34 hx hZ hown (hw _ (List.mem_of_getElem? (i := 14) rfl)) (hw _ (List.mem_of_getElem? (i := 15) rfl)) (notFace_of_selects (args := #[]) (mvT hZ (hw _ (List.mem_of_getElem? (i := 17) rfl)))) (hw _ (List.mem_of_getElem? (i := 17) rfl)) (hw _ (List.mem_of_getElem? (i := 16) rfl)) (hw _ (List.mem_of_getElem? (i := 3) rfl)) (hw _ (List.mem_of_getElem? (i := 18) rfl)) (by decide) (own_end1 l Z a0 hw [] b24 b17 k17 (0 : Int32) [] (.int (0 : Int32)) h34 n0 Zs40 o34_2 f37 f38 (by decide)) (by decide) (by decide) (by decide) (by decide) e34 o34_0 (pc := 113) (Ls := #[.val (.int p0), .val (.int p1), .val (.int p2), .val (.int (0 : Int32)), .val (.int (0 : Int32)), .val (.ref b6), .val (.int vg14), .val (.int vg15), .val (.int vg16), .val (.ref b17), .val (.ref b24), .unset, .unset]) (st := [(.ref b24)]) (argsL := []) (rest := []) (by rw [hml]; rfl) (lenOf own_pd1 rfl) rfl rfl (Nat.le_of_eq rfl) (hb hby at_113)
      obtain ⟨x41, rfl, K41, zf_x41, o41_0, o41_1⟩ := hq41
      refine own_via st41 ?_
      have ne42 : b6 ≠ x41 := Nat.ne_of_lt (Nat.lt_of_lt_of_le f35.lt zf_x41)
      have ne43 : b17 ≠ x41 := Nat.ne_of_lt (Nat.lt_of_lt_of_le f37.lt zf_x41)
      have ne44 : b24 ≠ x41 := Nat.ne_of_lt (Nat.lt_of_lt_of_le o34_0.lt zf_x41)
      have g_x41 : n0 ≤ x41 := Nat.le_trans Zs40 zf_x41
      have f45 : Exa Z h41 b6 "[B" := f35.ext (own_ke K41)
      have f46 : Arv Z h41 b6 k6 .byte (1 : Int32) [(.int ((((p0.toUInt32 >>> ((24 : Int32) &&& 31).toUInt32).toInt32).toInt8.toInt32).toInt8.toInt32))] (.int (0 : Int32)) := f36.ext (own_ke K41)
      have f47 : Arv Z h41 b17 k17 .byte (0 : Int32) [] (.int (0 : Int32)) := f37.ext (own_ke K41)
      have f48 : Exa Z h41 b17 "[B" := f38.ext (own_ke K41)
      have f49 : Exa Z h41 b24 "com/example/clementi/clementi/store/KeyRange" := o34_0.ext (own_ke K41)
      have f50 : Fld Z h41 b24 "com/example/clementi/clementi/store/KeyRange" "prefix" "[B" (.ref b6) := o34_1.ext (own_ke K41)
      have f51 : Fld Z h41 b24 "com/example/clementi/clementi/store/KeyRange" "end" "[B" (.ref b17) := o34_2.ext (own_ke K41)
      have Zs52 : n0 ≤ h41.size := Nat.le_trans Zs40 K41.1
      show own_G p e below _ (T41.setTop (mkF m 116 #[.val (.int p0), .val (.int p1), .val (.int p2), .val (.int (0 : Int32)), .val (.int (0 : Int32)), .val (.ref b6), .val (.int vg14), .val (.int vg15), .val (.int vg16), .val (.ref b17), .val (.ref b24), .unset, .unset] [(.ref x41)]))
      refine own_via (fun t k => XS.astore X41.here hx rfl (hb hby at_116) rfl rfl (l' := #[.val (.int p0), .val (.int p1), .val (.int p2), .val (.int (0 : Int32)), .val (.int (0 : Int32)), .val (.ref b6), .val (.int vg14), .val (.int vg15), .val (.int vg16), .val (.ref b17), .val (.ref b24), .val (.ref x41), .unset]) rfl k) ?_
      show own_G p e below _ (T41.setTop (mkF m 118 #[.val (.int p0), .val (.int p1), .val (.int p2), .val (.int (0 : Int32)), .val (.int (0 : Int32)), .val (.ref b6), .val (.int vg14), .val (.int vg15), .val (.int vg16), .val (.ref b17), .val (.ref b24), .val (.ref x41), .unset] []))
      refine own_via (fun t k => XS.iloadN X41.here hx rfl (hb hby at_118) rfl k) ?_
      show own_G p e below _ (T41.setTop (mkF m 119 #[.val (.int p0), .val (.int p1), .val (.int p2), .val (.int (0 : Int32)), .val (.int (0 : Int32)), .val (.ref b6), .val (.int vg14), .val (.int vg15), .val (.int vg16), .val (.ref b17), .val (.ref b24), .val (.ref x41), .unset] [(.int (0 : Int32))]))
      refine own_via (fun t k => XS.ifYes X41.here hx rfl (pc0 := 119) (pc' := 141) rfl (hb hby at_119) rfl ((if0 _ _).trans (teq (by decide : (0 : Int32) = (0 : Int32))).1) (by decide) (by decide) k) ?_
      show own_G p e below _ (T41.setTop (mkF m 141 #[.val (.int p0), .val (.int p1), .val (.int p2), .val (.int (0 : Int32)), .val (.int (0 : Int32)), .val (.ref b6), .val (.int vg14), .val (.int vg15), .val (.int vg16), .val (.ref b17), .val (.ref b24), .val (.ref x41), .unset] []))
      refine own_via (fun t k => XS.aload X41.here hx rfl (hb hby at_141) rfl rfl k) ?_
      show own_G p e below _ (T41.setTop (mkF m 143 #[.val (.int p0), .val (.int p1), .val (.int p2), .val (.int (0 : Int32)), .val (.int (0 : Int32)), .val (.ref b6), .val (.int vg14), .val (.int vg15), .val (.int vg16), .val (.ref b17), .val (.ref b24), .val (.ref x41), .unset] [(.ref x41)]))
      refine own_via (fun t k => XS.ifnullNo X41.here hx rfl (hb hby at_143) rfl k) ?_
      show own_G p e below _ (T41.setTop (mkF m 146 #[.val (.int p0), .val (.int p1), .val (.int p2), .val (.int (0 : Int32)), .val (.int (0 : Int32)), .val (.ref b6), .val (.int vg14), .val (.int vg15), .val (.int vg16), .val (.ref b17), .val (.ref b24), .val (.ref x41), .unset] []))
      refine own_via (fun t k => XS.aload X41.here hx rfl (hb hby at_146) rfl rfl k) ?_
      show own_G p e below _ (T41.setTop (mkF m 148 #[.val (.int p0), .val (.int p1), .val (.int p2), .val (.int (0 : Int32)), .val (.int (0 : Int32)), .val (.ref b6), .val (.int vg14), .val (.int vg15), .val (.int vg16), .val (.ref b17), .val (.ref b24), .val (.ref x41), .unset] [(.ref x41)]))
      refine own_via (fun t k => XS.aload X41.here hx rfl (hb hby at_148) rfl rfl k) ?_
      show own_G p e below _ (T41.setTop (mkF m 150 #[.val (.int p0), .val (.int p1), .val (.int p2), .val (.int (0 : Int32)), .val (.int (0 : Int32)), .val (.ref b6), .val (.int vg14), .val (.int vg15), .val (.int vg16), .val (.ref b17), .val (.ref b24), .val (.ref x41), .unset] [(.ref b17), (.ref x41)]))
      refine own_via (fun t k => Jvm.RoadKit.acmp (g := (mkF m 150 #[.val (.int p0), .val (.int p1), .val (.int p2), .val (.int (0 : Int32)), .val (.int (0 : Int32)), .val (.ref b6), .val (.int vg14), .val (.int vg15), .val (.int vg16), .val (.ref b17), .val (.ref b24), .val (.ref x41), .unset] [(.ref b17), (.ref x41)])) X41 hx rfl rfl rfl (pc0 := 150) (pc' := 153) (same := false) rfl (hb hby at_150) rfl (decide_eq_false fun q => (Ne.symm ne43) (Value.ref.inj q)) (by decide) (by decide) k) ?_
      show own_G p e below _ (T41.setTop (mkF m 153 #[.val (.int p0), .val (.int p1), .val (.int p2), .val (.int (0 : Int32)), .val (.int (0 : Int32)), .val (.ref b6), .val (.int vg14), .val (.int vg15), .val (.int vg16), .val (.ref b17), .val (.ref b24), .val (.ref x41), .unset] []))
      refine own_via (fun t k => XS.aload X41.here hx rfl (hb hby at_153) rfl rfl k) ?_
      show own_G p e below _ (T41.setTop (mkF m 155 #[.val (.int p0), .val (.int p1), .val (.int p2), .val (.int (0 : Int32)), .val (.int (0 : Int32)), .val (.ref b6), .val (.int vg14), .val (.int vg15), .val (.int vg16), .val (.ref b17), .val (.ref b24), .val (.ref x41), .unset] [(.ref x41)]))
      refine own_via (own_len X41 hx hZ e41 o41_0 (pc := 155) (Ls := #[.val (.int p0), .val (.int p1), .val (.int p2), .val (.int (0 : Int32)), .val (.int (0 : Int32)), .val (.ref b6), .val (.int vg14), .val (.int vg15), .val (.int vg16), .val (.ref b17), .val (.ref b24), .val (.ref x41), .unset]) (rest := []) (hb hby at_155)) ?_
      show own_G p e below _ (T41.setTop (mkF m 156 #[.val (.int p0), .val (.int p1), .val (.int p2), .val (.int (0 : Int32)), .val (.int (0 : Int32)), .val (.ref b6), .val (.int vg14), .val (.int vg15), .val (.int vg16), .val (.ref b17), .val (.ref b24), .val (.ref x41), .unset] [(.int (0 : Int32))]))
      refine own_via (fun t k => XS.iload X41.here hx rfl (hb hby at_156) rfl k) ?_
      show own_G p e below _ (T41.setTop (mkF m 158 #[.val (.int p0), .val (.int p1), .val (.int p2), .val (.int (0 : Int32)), .val (.int (0 : Int32)), .val (.ref b6), .val (.int vg14), .val (.int vg15), .val (.int vg16), .val (.ref b17), .val (.ref b24), .val (.ref x41), .unset] [(.int (0 : Int32)), (.int (0 : Int32))]))
      refine own_via (fun t k => XS.icmpYes X41.here hx rfl (pc0 := 158) (pc' := 163) rfl (hb hby at_158) rfl (teq (by decide : (0 : Int32) = (0 : Int32))).1 (by decide) (by decide) k) ?_
      show own_G p e below _ (T41.setTop (mkF m 163 #[.val (.int p0), .val (.int p1), .val (.int p2), .val (.int (0 : Int32)), .val (.int (0 : Int32)), .val (.ref b6), .val (.int vg14), .val (.int vg15), .val (.int vg16), .val (.ref b17), .val (.ref b24), .val (.ref x41), .unset] []))
      refine own_via (fun t k => XS.aload X41.here hx rfl (hb hby at_163) rfl rfl k) ?_
      show own_G p e below _ (T41.setTop (mkF m 165 #[.val (.int p0), .val (.int p1), .val (.int p2), .val (.int (0 : Int32)), .val (.int (0 : Int32)), .val (.ref b6), .val (.int vg14), .val (.int vg15), .val (.int vg16), .val (.ref b17), .val (.ref b24), .val (.ref x41), .unset] [(.ref x41)]))
      refine own_via (fun t k => XS.iload X41.here hx rfl (hb hby at_165) rfl k) ?_
      show own_G p e below _ (T41.setTop (mkF m 167 #[.val (.int p0), .val (.int p1), .val (.int p2), .val (.int (0 : Int32)), .val (.int (0 : Int32)), .val (.ref b6), .val (.int vg14), .val (.int vg15), .val (.int vg16), .val (.ref b17), .val (.ref b24), .val (.ref x41), .unset] [(.int (0 : Int32)), (.ref x41)]))
      refine own_via (fun t k => XS.iload X41.here hx rfl (hb hby at_167) rfl k) ?_
      show own_G p e below _ (T41.setTop (mkF m 169 #[.val (.int p0), .val (.int p1), .val (.int p2), .val (.int (0 : Int32)), .val (.int (0 : Int32)), .val (.ref b6), .val (.int vg14), .val (.int vg15), .val (.int vg16), .val (.ref b17), .val (.ref b24), .val (.ref x41), .unset] [(.int vg14), (.int (0 : Int32)), (.ref x41)]))
      refine own_via (fun t k => XS.iload X41.here hx rfl (hb hby at_169) rfl k) ?_
      show own_G p e below _ (T41.setTop (mkF m 171 #[.val (.int p0), .val (.int p1), .val (.int p2), .val (.int (0 : Int32)), .val (.int (0 : Int32)), .val (.ref b6), .val (.int vg14), .val (.int vg15), .val (.int vg16), .val (.ref b17), .val (.ref b24), .val (.ref x41), .unset] [(.int vg15), (.int vg14), (.int (0 : Int32)), (.ref x41)]))
      refine own_via (fun t k => XS.iload X41.here hx rfl (hb hby at_171) rfl k) ?_
      show own_G p e below _ (T41.setTop (mkF m 173 #[.val (.int p0), .val (.int p1), .val (.int p2), .val (.int (0 : Int32)), .val (.int (0 : Int32)), .val (.ref b6), .val (.int vg14), .val (.int vg15), .val (.int vg16), .val (.ref b17), .val (.ref b24), .val (.ref x41), .unset] [(.int vg16), (.int vg15), (.int vg14), (.int (0 : Int32)), (.ref x41)]))
      obtain ⟨T53, X53, e53, st53⟩ := own_callP (y := (⟨"com/example/clementi/clementi/store/KeyRangeEndPinLaw", "same", "([BIBBB)Z"⟩ : MethodName)) (W := 0) X41 hx hZ hown (hw _ (List.mem_of_getElem? (i := 28) rfl)) (hw _ (List.mem_of_getElem? (i := 29) rfl)) (hw _ (List.mem_of_getElem? (i := 30) rfl)) (hw _ (List.mem_of_getElem? (i := 31) rfl)) (by decide) (own_same0 l Z a0 hw [] x41 vg14 vg15 vg16 k17 h41 o41_0) (by decide) (by decide) rfl rfl (by decide) (by decide) e41 (pc := 173) (Ls := #[.val (.int p0), .val (.int p1), .val (.int p2), .val (.int (0 : Int32)), .val (.int (0 : Int32)), .val (.ref b6), .val (.int vg14), .val (.int vg15), .val (.int vg16), .val (.ref b17), .val (.ref b24), .val (.ref x41), .unset]) (st := [(.int vg16), (.int vg15), (.int vg14), (.int (0 : Int32)), (.ref x41)]) (argsL := [(.ref x41), (.int (0 : Int32)), (.int vg14), (.int vg15), (.int vg16)]) (rest := []) (by rw [hml]; rfl) (lenOf own_pd2 rfl) rfl rfl (Nat.le_of_eq rfl) (hb hby at_173)
      refine own_via st53 ?_
      show own_G p e below _ (T53.setTop (mkF m 176 #[.val (.int p0), .val (.int p1), .val (.int p2), .val (.int (0 : Int32)), .val (.int (0 : Int32)), .val (.ref b6), .val (.int vg14), .val (.int vg15), .val (.int vg16), .val (.ref b17), .val (.ref b24), .val (.ref x41), .unset] [(.int (1 : Int32))]))
      refine own_via (fun t k => XS.ifYes X53.here hx rfl (pc0 := 176) (pc' := 181) rfl (hb hby at_176) rfl ((if0 _ _).trans (feq (by decide : ¬ ((1 : Int32) = (0 : Int32)))).2) (by decide) (by decide) k) ?_
      show own_G p e below _ (T53.setTop (mkF m 181 #[.val (.int p0), .val (.int p1), .val (.int p2), .val (.int (0 : Int32)), .val (.int (0 : Int32)), .val (.ref b6), .val (.int vg14), .val (.int vg15), .val (.int vg16), .val (.ref b17), .val (.ref b24), .val (.ref x41), .unset] []))
      refine own_via (fun t k => XS.iload X53.here hx rfl (hb hby at_181) rfl k) ?_
      show own_G p e below _ (T53.setTop (mkF m 183 #[.val (.int p0), .val (.int p1), .val (.int p2), .val (.int (0 : Int32)), .val (.int (0 : Int32)), .val (.ref b6), .val (.int vg14), .val (.int vg15), .val (.int vg16), .val (.ref b17), .val (.ref b24), .val (.ref x41), .unset] [(.int (0 : Int32))]))
      refine own_via (fun t k => XS.ifYes X53.here hx rfl (pc0 := 183) (pc' := 197) rfl (hb hby at_183) rfl ((if0 _ _).trans (flt (by decide : ¬ ((0 : Int32) < (0 : Int32)))).2.2.2) (by decide) (by decide) k) ?_
      show own_G p e below _ (T53.setTop (mkF m 197 #[.val (.int p0), .val (.int p1), .val (.int p2), .val (.int (0 : Int32)), .val (.int (0 : Int32)), .val (.ref b6), .val (.int vg14), .val (.int vg15), .val (.int vg16), .val (.ref b17), .val (.ref b24), .val (.ref x41), .unset] []))
      refine own_via (fun t k => XS.aload X53.here hx rfl (hb hby at_197) rfl rfl k) ?_
      show own_G p e below _ (T53.setTop (mkF m 199 #[.val (.int p0), .val (.int p1), .val (.int p2), .val (.int (0 : Int32)), .val (.int (0 : Int32)), .val (.ref b6), .val (.int vg14), .val (.int vg15), .val (.int vg16), .val (.ref b17), .val (.ref b24), .val (.ref x41), .unset] [(.ref b24)]))
      obtain ⟨v54, T54, h54, L54, X54, N54, e54, hq54, st54⟩ := own_callV (y := (⟨"com/example/clementi/clementi/store/KeyRange", "end", "()[B"⟩ : MethodName)) (z := (⟨"com/example/clementi/clementi/store/KeyRange", "end", "()[B"⟩ : MethodName)) (W := 0) (a := b24) X53 N41 hx hZ hown (hw _ (List.mem_of_getElem? (i := 14) rfl)) (hw _ (List.mem_of_getElem? (i := 15) rfl)) (notFace_of_selects (args := #[]) (mvT hZ (hw _ (List.mem_of_getElem? (i := 17) rfl)))) (hw _ (List.mem_of_getElem? (i := 17) rfl)) (hw _ (List.mem_of_getElem? (i := 16) rfl)) (hw _ (List.mem_of_getElem? (i := 3) rfl)) (hw _ (List.mem_of_getElem? (i := 18) rfl)) (by decide) (own_end1 l Z a0 hw [] b24 b17 k17 (0 : Int32) [] (.int (0 : Int32)) h41 n0 Zs52 f51 f47 f48 (by decide)) (by decide) (by decide) (by decide) (by decide) e53 f49 (pc := 199) (Ls := #[.val (.int p0), .val (.int p1), .val (.int p2), .val (.int (0 : Int32)), .val (.int (0 : Int32)), .val (.ref b6), .val (.int vg14), .val (.int vg15), .val (.int vg16), .val (.ref b17), .val (.ref b24), .val (.ref x41), .unset]) (st := [(.ref b24)]) (argsL := []) (rest := []) (by rw [hml]; rfl) (lenOf own_pd1 rfl) rfl rfl (Nat.le_of_eq rfl) (hb hby at_199)
      obtain ⟨x54, rfl, K54, zf_x54, o54_0, o54_1⟩ := hq54
      refine own_via st54 ?_
      have ne55 : b6 ≠ x54 := Nat.ne_of_lt (Nat.lt_of_lt_of_le f45.lt zf_x54)
      have ne56 : b17 ≠ x54 := Nat.ne_of_lt (Nat.lt_of_lt_of_le f47.lt zf_x54)
      have ne57 : b24 ≠ x54 := Nat.ne_of_lt (Nat.lt_of_lt_of_le f49.lt zf_x54)
      have ne58 : x41 ≠ x54 := Nat.ne_of_lt (Nat.lt_of_lt_of_le o41_0.lt zf_x54)
      have g_x54 : n0 ≤ x54 := Nat.le_trans Zs52 zf_x54
      have f59 : Exa Z h54 b6 "[B" := f45.ext (own_ke K54)
      have f60 : Arv Z h54 b6 k6 .byte (1 : Int32) [(.int ((((p0.toUInt32 >>> ((24 : Int32) &&& 31).toUInt32).toInt32).toInt8.toInt32).toInt8.toInt32))] (.int (0 : Int32)) := f46.ext (own_ke K54)
      have f61 : Arv Z h54 b17 k17 .byte (0 : Int32) [] (.int (0 : Int32)) := f47.ext (own_ke K54)
      have f62 : Exa Z h54 b17 "[B" := f48.ext (own_ke K54)
      have f63 : Exa Z h54 b24 "com/example/clementi/clementi/store/KeyRange" := f49.ext (own_ke K54)
      have f64 : Fld Z h54 b24 "com/example/clementi/clementi/store/KeyRange" "prefix" "[B" (.ref b6) := f50.ext (own_ke K54)
      have f65 : Fld Z h54 b24 "com/example/clementi/clementi/store/KeyRange" "end" "[B" (.ref b17) := f51.ext (own_ke K54)
      have f66 : Arv Z h54 x41 k17 .byte (0 : Int32) [] (.int (0 : Int32)) := o41_0.ext (own_ke K54)
      have f67 : Exa Z h54 x41 "[B" := o41_1.ext (own_ke K54)
      have Zs68 : n0 ≤ h54.size := Nat.le_trans Zs52 K54.1
      show own_G p e below _ (T54.setTop (mkF m 202 #[.val (.int p0), .val (.int p1), .val (.int p2), .val (.int (0 : Int32)), .val (.int (0 : Int32)), .val (.ref b6), .val (.int vg14), .val (.int vg15), .val (.int vg16), .val (.ref b17), .val (.ref b24), .val (.ref x41), .unset] [(.ref x54)]))
      refine own_via (fun t k => XS.astore X54.here hx rfl (hb hby at_202) rfl rfl (l' := #[.val (.int p0), .val (.int p1), .val (.int p2), .val (.int (0 : Int32)), .val (.int (0 : Int32)), .val (.ref b6), .val (.int vg14), .val (.int vg15), .val (.int vg16), .val (.ref b17), .val (.ref b24), .val (.ref x41), .val (.ref x54)]) rfl k) ?_
      show own_G p e below _ (T54.setTop (mkF m 204 #[.val (.int p0), .val (.int p1), .val (.int p2), .val (.int (0 : Int32)), .val (.int (0 : Int32)), .val (.ref b6), .val (.int vg14), .val (.int vg15), .val (.int vg16), .val (.ref b17), .val (.ref b24), .val (.ref x41), .val (.ref x54)] []))
      refine own_via (fun t k => XS.aload X54.here hx rfl (hb hby at_204) rfl rfl k) ?_
      show own_G p e below _ (T54.setTop (mkF m 206 #[.val (.int p0), .val (.int p1), .val (.int p2), .val (.int (0 : Int32)), .val (.int (0 : Int32)), .val (.ref b6), .val (.int vg14), .val (.int vg15), .val (.int vg16), .val (.ref b17), .val (.ref b24), .val (.ref x41), .val (.ref x54)] [(.ref x54)]))
      refine own_via (fun t k => XS.ifnullNo X54.here hx rfl (hb hby at_206) rfl k) ?_
      show own_G p e below _ (T54.setTop (mkF m 209 #[.val (.int p0), .val (.int p1), .val (.int p2), .val (.int (0 : Int32)), .val (.int (0 : Int32)), .val (.ref b6), .val (.int vg14), .val (.int vg15), .val (.int vg16), .val (.ref b17), .val (.ref b24), .val (.ref x41), .val (.ref x54)] []))
      refine own_via (fun t k => XS.aload X54.here hx rfl (hb hby at_209) rfl rfl k) ?_
      show own_G p e below _ (T54.setTop (mkF m 211 #[.val (.int p0), .val (.int p1), .val (.int p2), .val (.int (0 : Int32)), .val (.int (0 : Int32)), .val (.ref b6), .val (.int vg14), .val (.int vg15), .val (.int vg16), .val (.ref b17), .val (.ref b24), .val (.ref x41), .val (.ref x54)] [(.ref x54)]))
      refine own_via (fun t k => XS.aload X54.here hx rfl (hb hby at_211) rfl rfl k) ?_
      show own_G p e below _ (T54.setTop (mkF m 213 #[.val (.int p0), .val (.int p1), .val (.int p2), .val (.int (0 : Int32)), .val (.int (0 : Int32)), .val (.ref b6), .val (.int vg14), .val (.int vg15), .val (.int vg16), .val (.ref b17), .val (.ref b24), .val (.ref x41), .val (.ref x54)] [(.ref x41), (.ref x54)]))
      refine own_via (fun t k => Jvm.RoadKit.acmp (g := (mkF m 213 #[.val (.int p0), .val (.int p1), .val (.int p2), .val (.int (0 : Int32)), .val (.int (0 : Int32)), .val (.ref b6), .val (.int vg14), .val (.int vg15), .val (.int vg16), .val (.ref b17), .val (.ref b24), .val (.ref x41), .val (.ref x54)] [(.ref x41), (.ref x54)])) X54 hx rfl rfl rfl (pc0 := 213) (pc' := 216) (same := false) rfl (hb hby at_213) rfl (decide_eq_false fun q => (Ne.symm ne58) (Value.ref.inj q)) (by decide) (by decide) k) ?_
      show own_G p e below _ (T54.setTop (mkF m 216 #[.val (.int p0), .val (.int p1), .val (.int p2), .val (.int (0 : Int32)), .val (.int (0 : Int32)), .val (.ref b6), .val (.int vg14), .val (.int vg15), .val (.int vg16), .val (.ref b17), .val (.ref b24), .val (.ref x41), .val (.ref x54)] []))
      refine own_via (fun t k => XS.aload X54.here hx rfl (hb hby at_216) rfl rfl k) ?_
      show own_G p e below _ (T54.setTop (mkF m 218 #[.val (.int p0), .val (.int p1), .val (.int p2), .val (.int (0 : Int32)), .val (.int (0 : Int32)), .val (.ref b6), .val (.int vg14), .val (.int vg15), .val (.int vg16), .val (.ref b17), .val (.ref b24), .val (.ref x41), .val (.ref x54)] [(.ref x54)]))
      refine own_via (fun t k => XS.aload X54.here hx rfl (hb hby at_218) rfl rfl k) ?_
      show own_G p e below _ (T54.setTop (mkF m 220 #[.val (.int p0), .val (.int p1), .val (.int p2), .val (.int (0 : Int32)), .val (.int (0 : Int32)), .val (.ref b6), .val (.int vg14), .val (.int vg15), .val (.int vg16), .val (.ref b17), .val (.ref b24), .val (.ref x41), .val (.ref x54)] [(.ref b17), (.ref x54)]))
      refine own_via (fun t k => Jvm.RoadKit.acmp (g := (mkF m 220 #[.val (.int p0), .val (.int p1), .val (.int p2), .val (.int (0 : Int32)), .val (.int (0 : Int32)), .val (.ref b6), .val (.int vg14), .val (.int vg15), .val (.int vg16), .val (.ref b17), .val (.ref b24), .val (.ref x41), .val (.ref x54)] [(.ref b17), (.ref x54)])) X54 hx rfl rfl rfl (pc0 := 220) (pc' := 223) (same := false) rfl (hb hby at_220) rfl (decide_eq_false fun q => (Ne.symm ne56) (Value.ref.inj q)) (by decide) (by decide) k) ?_
      show own_G p e below _ (T54.setTop (mkF m 223 #[.val (.int p0), .val (.int p1), .val (.int p2), .val (.int (0 : Int32)), .val (.int (0 : Int32)), .val (.ref b6), .val (.int vg14), .val (.int vg15), .val (.int vg16), .val (.ref b17), .val (.ref b24), .val (.ref x41), .val (.ref x54)] []))
      refine own_via (fun t k => XS.aload X54.here hx rfl (hb hby at_223) rfl rfl k) ?_
      show own_G p e below _ (T54.setTop (mkF m 225 #[.val (.int p0), .val (.int p1), .val (.int p2), .val (.int (0 : Int32)), .val (.int (0 : Int32)), .val (.ref b6), .val (.int vg14), .val (.int vg15), .val (.int vg16), .val (.ref b17), .val (.ref b24), .val (.ref x41), .val (.ref x54)] [(.ref x54)]))
      refine own_via (own_len X54 hx hZ e54 o54_0 (pc := 225) (Ls := #[.val (.int p0), .val (.int p1), .val (.int p2), .val (.int (0 : Int32)), .val (.int (0 : Int32)), .val (.ref b6), .val (.int vg14), .val (.int vg15), .val (.int vg16), .val (.ref b17), .val (.ref b24), .val (.ref x41), .val (.ref x54)]) (rest := []) (hb hby at_225)) ?_
      show own_G p e below _ (T54.setTop (mkF m 226 #[.val (.int p0), .val (.int p1), .val (.int p2), .val (.int (0 : Int32)), .val (.int (0 : Int32)), .val (.ref b6), .val (.int vg14), .val (.int vg15), .val (.int vg16), .val (.ref b17), .val (.ref b24), .val (.ref x41), .val (.ref x54)] [(.int (0 : Int32))]))
      refine own_via (fun t k => XS.iload X54.here hx rfl (hb hby at_226) rfl k) ?_
      show own_G p e below _ (T54.setTop (mkF m 228 #[.val (.int p0), .val (.int p1), .val (.int p2), .val (.int (0 : Int32)), .val (.int (0 : Int32)), .val (.ref b6), .val (.int vg14), .val (.int vg15), .val (.int vg16), .val (.ref b17), .val (.ref b24), .val (.ref x41), .val (.ref x54)] [(.int (0 : Int32)), (.int (0 : Int32))]))
      refine own_via (fun t k => XS.icmpNo X54.here hx rfl (hb hby at_228) rfl (teq (by decide : (0 : Int32) = (0 : Int32))).2 k) ?_
      show own_G p e below _ (T54.setTop (mkF m 231 #[.val (.int p0), .val (.int p1), .val (.int p2), .val (.int (0 : Int32)), .val (.int (0 : Int32)), .val (.ref b6), .val (.int vg14), .val (.int vg15), .val (.int vg16), .val (.ref b17), .val (.ref b24), .val (.ref x41), .val (.ref x54)] []))
      refine own_via (fun t k => XS.aload X54.here hx rfl (hb hby at_231) rfl rfl k) ?_
      show own_G p e below _ (T54.setTop (mkF m 233 #[.val (.int p0), .val (.int p1), .val (.int p2), .val (.int (0 : Int32)), .val (.int (0 : Int32)), .val (.ref b6), .val (.int vg14), .val (.int vg15), .val (.int vg16), .val (.ref b17), .val (.ref b24), .val (.ref x41), .val (.ref x54)] [(.ref x54)]))
      refine own_via (fun t k => XS.iload X54.here hx rfl (hb hby at_233) rfl k) ?_
      show own_G p e below _ (T54.setTop (mkF m 235 #[.val (.int p0), .val (.int p1), .val (.int p2), .val (.int (0 : Int32)), .val (.int (0 : Int32)), .val (.ref b6), .val (.int vg14), .val (.int vg15), .val (.int vg16), .val (.ref b17), .val (.ref b24), .val (.ref x41), .val (.ref x54)] [(.int (0 : Int32)), (.ref x54)]))
      refine own_via (fun t k => XS.iload X54.here hx rfl (hb hby at_235) rfl k) ?_
      show own_G p e below _ (T54.setTop (mkF m 237 #[.val (.int p0), .val (.int p1), .val (.int p2), .val (.int (0 : Int32)), .val (.int (0 : Int32)), .val (.ref b6), .val (.int vg14), .val (.int vg15), .val (.int vg16), .val (.ref b17), .val (.ref b24), .val (.ref x41), .val (.ref x54)] [(.int vg14), (.int (0 : Int32)), (.ref x54)]))
      refine own_via (fun t k => XS.iload X54.here hx rfl (hb hby at_237) rfl k) ?_
      show own_G p e below _ (T54.setTop (mkF m 239 #[.val (.int p0), .val (.int p1), .val (.int p2), .val (.int (0 : Int32)), .val (.int (0 : Int32)), .val (.ref b6), .val (.int vg14), .val (.int vg15), .val (.int vg16), .val (.ref b17), .val (.ref b24), .val (.ref x41), .val (.ref x54)] [(.int vg15), (.int vg14), (.int (0 : Int32)), (.ref x54)]))
      refine own_via (fun t k => XS.iload X54.here hx rfl (hb hby at_239) rfl k) ?_
      show own_G p e below _ (T54.setTop (mkF m 241 #[.val (.int p0), .val (.int p1), .val (.int p2), .val (.int (0 : Int32)), .val (.int (0 : Int32)), .val (.ref b6), .val (.int vg14), .val (.int vg15), .val (.int vg16), .val (.ref b17), .val (.ref b24), .val (.ref x41), .val (.ref x54)] [(.int vg16), (.int vg15), (.int vg14), (.int (0 : Int32)), (.ref x54)]))
      obtain ⟨T69, X69, e69, st69⟩ := own_callP (y := (⟨"com/example/clementi/clementi/store/KeyRangeEndPinLaw", "same", "([BIBBB)Z"⟩ : MethodName)) (W := 0) X54 hx hZ hown (hw _ (List.mem_of_getElem? (i := 28) rfl)) (hw _ (List.mem_of_getElem? (i := 29) rfl)) (hw _ (List.mem_of_getElem? (i := 30) rfl)) (hw _ (List.mem_of_getElem? (i := 31) rfl)) (by decide) (own_same0 l Z a0 hw [] x54 vg14 vg15 vg16 k17 h54 o54_0) (by decide) (by decide) rfl rfl (by decide) (by decide) e54 (pc := 241) (Ls := #[.val (.int p0), .val (.int p1), .val (.int p2), .val (.int (0 : Int32)), .val (.int (0 : Int32)), .val (.ref b6), .val (.int vg14), .val (.int vg15), .val (.int vg16), .val (.ref b17), .val (.ref b24), .val (.ref x41), .val (.ref x54)]) (st := [(.int vg16), (.int vg15), (.int vg14), (.int (0 : Int32)), (.ref x54)]) (argsL := [(.ref x54), (.int (0 : Int32)), (.int vg14), (.int vg15), (.int vg16)]) (rest := []) (by rw [hml]; rfl) (lenOf own_pd2 rfl) rfl rfl (Nat.le_of_eq rfl) (hb hby at_241)
      refine own_via st69 ?_
      show own_G p e below _ (T69.setTop (mkF m 244 #[.val (.int p0), .val (.int p1), .val (.int p2), .val (.int (0 : Int32)), .val (.int (0 : Int32)), .val (.ref b6), .val (.int vg14), .val (.int vg15), .val (.int vg16), .val (.ref b17), .val (.ref b24), .val (.ref x41), .val (.ref x54)] [(.int (1 : Int32))]))
      refine own_via (fun t k => XS.ifNo X69.here hx rfl (hb hby at_244) rfl ((if0 _ _).trans (feq (by decide : ¬ ((1 : Int32) = (0 : Int32)))).1) k) ?_
      show own_G p e below _ (T69.setTop (mkF m 247 #[.val (.int p0), .val (.int p1), .val (.int p2), .val (.int (0 : Int32)), .val (.int (0 : Int32)), .val (.ref b6), .val (.int vg14), .val (.int vg15), .val (.int vg16), .val (.ref b17), .val (.ref b24), .val (.ref x41), .val (.ref x54)] []))
      refine own_via (fun t k => XS.aload X69.here hx rfl (hb hby at_247) rfl rfl k) ?_
      show own_G p e below _ (T69.setTop (mkF m 249 #[.val (.int p0), .val (.int p1), .val (.int p2), .val (.int (0 : Int32)), .val (.int (0 : Int32)), .val (.ref b6), .val (.int vg14), .val (.int vg15), .val (.int vg16), .val (.ref b17), .val (.ref b24), .val (.ref x41), .val (.ref x54)] [(.ref b17)]))
      refine own_via (fun t k => XS.iload X69.here hx rfl (hb hby at_249) rfl k) ?_
      show own_G p e below _ (T69.setTop (mkF m 251 #[.val (.int p0), .val (.int p1), .val (.int p2), .val (.int (0 : Int32)), .val (.int (0 : Int32)), .val (.ref b6), .val (.int vg14), .val (.int vg15), .val (.int vg16), .val (.ref b17), .val (.ref b24), .val (.ref x41), .val (.ref x54)] [(.int (0 : Int32)), (.ref b17)]))
      refine own_via (fun t k => XS.iload X69.here hx rfl (hb hby at_251) rfl k) ?_
      show own_G p e below _ (T69.setTop (mkF m 253 #[.val (.int p0), .val (.int p1), .val (.int p2), .val (.int (0 : Int32)), .val (.int (0 : Int32)), .val (.ref b6), .val (.int vg14), .val (.int vg15), .val (.int vg16), .val (.ref b17), .val (.ref b24), .val (.ref x41), .val (.ref x54)] [(.int vg14), (.int (0 : Int32)), (.ref b17)]))
      refine own_via (fun t k => XS.iload X69.here hx rfl (hb hby at_253) rfl k) ?_
      show own_G p e below _ (T69.setTop (mkF m 255 #[.val (.int p0), .val (.int p1), .val (.int p2), .val (.int (0 : Int32)), .val (.int (0 : Int32)), .val (.ref b6), .val (.int vg14), .val (.int vg15), .val (.int vg16), .val (.ref b17), .val (.ref b24), .val (.ref x41), .val (.ref x54)] [(.int vg15), (.int vg14), (.int (0 : Int32)), (.ref b17)]))
      refine own_via (fun t k => XS.iload X69.here hx rfl (hb hby at_255) rfl k) ?_
      show own_G p e below _ (T69.setTop (mkF m 257 #[.val (.int p0), .val (.int p1), .val (.int p2), .val (.int (0 : Int32)), .val (.int (0 : Int32)), .val (.ref b6), .val (.int vg14), .val (.int vg15), .val (.int vg16), .val (.ref b17), .val (.ref b24), .val (.ref x41), .val (.ref x54)] [(.int vg16), (.int vg15), (.int vg14), (.int (0 : Int32)), (.ref b17)]))
      obtain ⟨T70, X70, e70, st70⟩ := own_callP (y := (⟨"com/example/clementi/clementi/store/KeyRangeEndPinLaw", "same", "([BIBBB)Z"⟩ : MethodName)) (W := 0) X69 hx hZ hown (hw _ (List.mem_of_getElem? (i := 28) rfl)) (hw _ (List.mem_of_getElem? (i := 29) rfl)) (hw _ (List.mem_of_getElem? (i := 30) rfl)) (hw _ (List.mem_of_getElem? (i := 31) rfl)) (by decide) (own_same0 l Z a0 hw [] b17 vg14 vg15 vg16 k17 h54 f61) (by decide) (by decide) rfl rfl (by decide) (by decide) e69 (pc := 257) (Ls := #[.val (.int p0), .val (.int p1), .val (.int p2), .val (.int (0 : Int32)), .val (.int (0 : Int32)), .val (.ref b6), .val (.int vg14), .val (.int vg15), .val (.int vg16), .val (.ref b17), .val (.ref b24), .val (.ref x41), .val (.ref x54)]) (st := [(.int vg16), (.int vg15), (.int vg14), (.int (0 : Int32)), (.ref b17)]) (argsL := [(.ref b17), (.int (0 : Int32)), (.int vg14), (.int vg15), (.int vg16)]) (rest := []) (by rw [hml]; rfl) (lenOf own_pd2 rfl) rfl rfl (Nat.le_of_eq rfl) (hb hby at_257)
      refine own_via st70 ?_
      show own_G p e below _ (T70.setTop (mkF m 260 #[.val (.int p0), .val (.int p1), .val (.int p2), .val (.int (0 : Int32)), .val (.int (0 : Int32)), .val (.ref b6), .val (.int vg14), .val (.int vg15), .val (.int vg16), .val (.ref b17), .val (.ref b24), .val (.ref x41), .val (.ref x54)] [(.int (1 : Int32))]))
      refine own_via (fun t k => XS.ifNo X70.here hx rfl (hb hby at_260) rfl ((if0 _ _).trans (feq (by decide : ¬ ((1 : Int32) = (0 : Int32)))).1) k) ?_
      show own_G p e below _ (T70.setTop (mkF m 263 #[.val (.int p0), .val (.int p1), .val (.int p2), .val (.int (0 : Int32)), .val (.int (0 : Int32)), .val (.ref b6), .val (.int vg14), .val (.int vg15), .val (.int vg16), .val (.ref b17), .val (.ref b24), .val (.ref x41), .val (.ref x54)] []))
      refine own_via (fun t k => XS.iconst X70.here hx rfl (hb hby at_263) k) ?_
      show own_G p e below _ (T70.setTop (mkF m 264 #[.val (.int p0), .val (.int p1), .val (.int p2), .val (.int (0 : Int32)), .val (.int (0 : Int32)), .val (.ref b6), .val (.int vg14), .val (.int vg15), .val (.int vg16), .val (.ref b17), .val (.ref b24), .val (.ref x41), .val (.ref x54)] [(.int (1 : Int32))]))
      refine own_via (fun t k => XS.goto X70.here hx rfl (pc0 := 264) (pc' := 268) rfl (hb hby at_264) (by decide) (by decide) k) ?_
      show own_G p e below _ (T70.setTop (mkF m 268 #[.val (.int p0), .val (.int p1), .val (.int p2), .val (.int (0 : Int32)), .val (.int (0 : Int32)), .val (.ref b6), .val (.int vg14), .val (.int vg15), .val (.int vg16), .val (.ref b17), .val (.ref b24), .val (.ref x41), .val (.ref x54)] [(.int (1 : Int32))]))
      exact own_retN (t := .boolean) X70 hx Bd.returns (by simp) Bd.notSynchronized (hb hby at_268) ⟨N54, rfl⟩ (by decide) (by decide)
    ·
      rw [hs3]
      show own_G p e below _ (s₁.setTop (mkF m 15 #[.val (.int p0), .val (.int p1), .val (.int p2), .val (.int (0 : Int32)), .unset, .unset, .unset, .unset, .unset, .unset, .unset, .unset, .unset] [(.int (1 : Int32))]))
      refine own_via (fun t k => XS.istore X0.here hx rfl (hb hby at_15) rfl (l' := #[.val (.int p0), .val (.int p1), .val (.int p2), .val (.int (0 : Int32)), .val (.int (1 : Int32)), .unset, .unset, .unset, .unset, .unset, .unset, .unset, .unset]) rfl k) ?_
      show own_G p e below _ (s₁.setTop (mkF m 17 #[.val (.int p0), .val (.int p1), .val (.int p2), .val (.int (0 : Int32)), .val (.int (1 : Int32)), .unset, .unset, .unset, .unset, .unset, .unset, .unset, .unset] []))
      refine own_via (fun t k => XS.iconst X0.here hx rfl (hb hby at_17) k) ?_
      show own_G p e below _ (s₁.setTop (mkF m 18 #[.val (.int p0), .val (.int p1), .val (.int p2), .val (.int (0 : Int32)), .val (.int (1 : Int32)), .unset, .unset, .unset, .unset, .unset, .unset, .unset, .unset] [(.int (1 : Int32))]))
      obtain ⟨T71, h71, k71, b71, X71, e71, E71, ga71, V71, Ex71, st71⟩ := own_newA X0 hx hZ (hw _ (List.mem_of_getElem? (i := 0) rfl)) e0 (pc := 18) (Ls := #[.val (.int p0), .val (.int p1), .val (.int p2), .val (.int (0 : Int32)), .val (.int (1 : Int32)), .unset, .unset, .unset, .unset, .unset, .unset, .unset, .unset]) (rest := []) (hb hby at_18) (n := (1 : Int32)) (by decide) (cap := 1) (by decide) (by decide) (by decide) (by decide) 1 rfl
      refine own_via st71 ?_
      have f72 : Arv Z h71 b71 k71 .byte (1 : Int32) [(.int (0 : Int32))] (.int (0 : Int32)) := V71
      have f73 : Exa Z h71 b71 "[B" := Ex71
      have g_b71 : n0 ≤ b71 := Nat.le_trans Z0 (Nat.le_of_eq ga71.symm)
      have Zs74 : n0 ≤ h71.size := Nat.le_trans Z0 E71.1
      show own_G p e below _ (T71.setTop (mkF m 20 #[.val (.int p0), .val (.int p1), .val (.int p2), .val (.int (0 : Int32)), .val (.int (1 : Int32)), .unset, .unset, .unset, .unset, .unset, .unset, .unset, .unset] [(.ref b71)]))
      refine own_via (fun t k => XS.astore X71.here hx rfl (hb hby at_20) rfl rfl (l' := #[.val (.int p0), .val (.int p1), .val (.int p2), .val (.int (0 : Int32)), .val (.int (1 : Int32)), .val (.ref b71), .unset, .unset, .unset, .unset, .unset, .unset, .unset]) rfl k) ?_
      show own_G p e below _ (T71.setTop (mkF m 22 #[.val (.int p0), .val (.int p1), .val (.int p2), .val (.int (0 : Int32)), .val (.int (1 : Int32)), .val (.ref b71), .unset, .unset, .unset, .unset, .unset, .unset, .unset] []))
      refine own_via (fun t k => XS.aload X71.here hx rfl (hb hby at_22) rfl rfl k) ?_
      show own_G p e below _ (T71.setTop (mkF m 24 #[.val (.int p0), .val (.int p1), .val (.int p2), .val (.int (0 : Int32)), .val (.int (1 : Int32)), .val (.ref b71), .unset, .unset, .unset, .unset, .unset, .unset, .unset] [(.ref b71)]))
      refine own_via (fun t k => XS.iconst X71.here hx rfl (hb hby at_24) k) ?_
      show own_G p e below _ (T71.setTop (mkF m 25 #[.val (.int p0), .val (.int p1), .val (.int p2), .val (.int (0 : Int32)), .val (.int (1 : Int32)), .val (.ref b71), .unset, .unset, .unset, .unset, .unset, .unset, .unset] [(.int (0 : Int32)), (.ref b71)]))
      refine own_via (fun t k => XS.iloadN X71.here hx rfl (hb hby at_25) rfl k) ?_
      show own_G p e below _ (T71.setTop (mkF m 26 #[.val (.int p0), .val (.int p1), .val (.int p2), .val (.int (0 : Int32)), .val (.int (1 : Int32)), .val (.ref b71), .unset, .unset, .unset, .unset, .unset, .unset, .unset] [(.int p0), (.int (0 : Int32)), (.ref b71)]))
      refine own_via (fun t k => XS.bipush X71.here hx rfl (hb hby at_26) k) ?_
      show own_G p e below _ (T71.setTop (mkF m 28 #[.val (.int p0), .val (.int p1), .val (.int p2), .val (.int (0 : Int32)), .val (.int (1 : Int32)), .val (.ref b71), .unset, .unset, .unset, .unset, .unset, .unset, .unset] [(.int (24 : Int32)), (.int p0), (.int (0 : Int32)), (.ref b71)]))
      refine own_via (fun t k => XS.iushr X71.here hx rfl (hb hby at_28) rfl k) ?_
      show own_G p e below _ (T71.setTop (mkF m 29 #[.val (.int p0), .val (.int p1), .val (.int p2), .val (.int (0 : Int32)), .val (.int (1 : Int32)), .val (.ref b71), .unset, .unset, .unset, .unset, .unset, .unset, .unset] [(.int ((p0.toUInt32 >>> ((24 : Int32) &&& 31).toUInt32).toInt32)), (.int (0 : Int32)), (.ref b71)]))
      refine own_via (fun t k => XS.i2b X71.here hx rfl (hb hby at_29) rfl k) ?_
      show own_G p e below _ (T71.setTop (mkF m 30 #[.val (.int p0), .val (.int p1), .val (.int p2), .val (.int (0 : Int32)), .val (.int (1 : Int32)), .val (.ref b71), .unset, .unset, .unset, .unset, .unset, .unset, .unset] [(.int (((p0.toUInt32 >>> ((24 : Int32) &&& 31).toUInt32).toInt32).toInt8.toInt32)), (.int (0 : Int32)), (.ref b71)]))
      obtain ⟨T75, h75, L75, X75, N75, e75, W75, V75, st75⟩ := own_stB X71 N0 hx hZ e71 f72 g_b71 (j := (0 : Int32)) (x := (((p0.toUInt32 >>> ((24 : Int32) &&& 31).toUInt32).toInt32).toInt8.toInt32)) (i := 0) ⟨by decide, by decide⟩ rfl (Nat.le_of_ble_eq_true rfl) (pc := 30) (Ls := #[.val (.int p0), .val (.int p1), .val (.int p2), .val (.int (0 : Int32)), .val (.int (1 : Int32)), .val (.ref b71), .unset, .unset, .unset, .unset, .unset, .unset, .unset]) (rest := []) (hb hby at_30)
      refine own_via st75 ?_
      have f76 : Exa Z h75 b71 "[B" := f73.wr W75
      have f77 : Arv Z h75 b71 k71 .byte (1 : Int32) [(.int ((((p0.toUInt32 >>> ((24 : Int32) &&& 31).toUInt32).toInt32).toInt8.toInt32).toInt8.toInt32))] (.int (0 : Int32)) := V75
      have Zs78 : n0 ≤ h75.size := by rw [W75.size]; exact Zs74
      show own_G p e below _ (T75.setTop (mkF m 31 #[.val (.int p0), .val (.int p1), .val (.int p2), .val (.int (0 : Int32)), .val (.int (1 : Int32)), .val (.ref b71), .unset, .unset, .unset, .unset, .unset, .unset, .unset] []))
      refine own_via (fun t k => XS.iloadN X75.here hx rfl (hb hby at_31) rfl k) ?_
      show own_G p e below _ (T75.setTop (mkF m 32 #[.val (.int p0), .val (.int p1), .val (.int p2), .val (.int (0 : Int32)), .val (.int (1 : Int32)), .val (.ref b71), .unset, .unset, .unset, .unset, .unset, .unset, .unset] [(.int p0)]))
      refine own_via (fun t k => XS.i2b X75.here hx rfl (hb hby at_32) rfl k) ?_
      show own_G p e below _ (T75.setTop (mkF m 33 #[.val (.int p0), .val (.int p1), .val (.int p2), .val (.int (0 : Int32)), .val (.int (1 : Int32)), .val (.ref b71), .unset, .unset, .unset, .unset, .unset, .unset, .unset] [(.int (p0.toInt8.toInt32))]))
      generalize hvg79 : (p0.toInt8.toInt32) = vg79
      show own_G p e below _ (T75.setTop (mkF m 33 #[.val (.int p0), .val (.int p1), .val (.int p2), .val (.int (0 : Int32)), .val (.int (1 : Int32)), .val (.ref b71), .unset, .unset, .unset, .unset, .unset, .unset, .unset] [(.int vg79)]))
      refine own_via (fun t k => XS.istore X75.here hx rfl (hb hby at_33) rfl (l' := #[.val (.int p0), .val (.int p1), .val (.int p2), .val (.int (0 : Int32)), .val (.int (1 : Int32)), .val (.ref b71), .val (.int vg79), .unset, .unset, .unset, .unset, .unset, .unset]) rfl k) ?_
      show own_G p e below _ (T75.setTop (mkF m 35 #[.val (.int p0), .val (.int p1), .val (.int p2), .val (.int (0 : Int32)), .val (.int (1 : Int32)), .val (.ref b71), .val (.int vg79), .unset, .unset, .unset, .unset, .unset, .unset] []))
      refine own_via (fun t k => XS.iloadN X75.here hx rfl (hb hby at_35) rfl k) ?_
      show own_G p e below _ (T75.setTop (mkF m 36 #[.val (.int p0), .val (.int p1), .val (.int p2), .val (.int (0 : Int32)), .val (.int (1 : Int32)), .val (.ref b71), .val (.int vg79), .unset, .unset, .unset, .unset, .unset, .unset] [(.int p0)]))
      refine own_via (fun t k => XS.bipush X75.here hx rfl (hb hby at_36) k) ?_
      show own_G p e below _ (T75.setTop (mkF m 38 #[.val (.int p0), .val (.int p1), .val (.int p2), .val (.int (0 : Int32)), .val (.int (1 : Int32)), .val (.ref b71), .val (.int vg79), .unset, .unset, .unset, .unset, .unset, .unset] [(.int (8 : Int32)), (.int p0)]))
      refine own_via (fun t k => XS.ishr X75.here hx rfl (hb hby at_38) rfl k) ?_
      show own_G p e below _ (T75.setTop (mkF m 39 #[.val (.int p0), .val (.int p1), .val (.int p2), .val (.int (0 : Int32)), .val (.int (1 : Int32)), .val (.ref b71), .val (.int vg79), .unset, .unset, .unset, .unset, .unset, .unset] [(.int (p0 >>> ((8 : Int32) &&& 31)))]))
      refine own_via (fun t k => XS.i2b X75.here hx rfl (hb hby at_39) rfl k) ?_
      show own_G p e below _ (T75.setTop (mkF m 40 #[.val (.int p0), .val (.int p1), .val (.int p2), .val (.int (0 : Int32)), .val (.int (1 : Int32)), .val (.ref b71), .val (.int vg79), .unset, .unset, .unset, .unset, .unset, .unset] [(.int ((p0 >>> ((8 : Int32) &&& 31)).toInt8.toInt32))]))
      generalize hvg80 : ((p0 >>> ((8 : Int32) &&& 31)).toInt8.toInt32) = vg80
      show own_G p e below _ (T75.setTop (mkF m 40 #[.val (.int p0), .val (.int p1), .val (.int p2), .val (.int (0 : Int32)), .val (.int (1 : Int32)), .val (.ref b71), .val (.int vg79), .unset, .unset, .unset, .unset, .unset, .unset] [(.int vg80)]))
      refine own_via (fun t k => XS.istore X75.here hx rfl (hb hby at_40) rfl (l' := #[.val (.int p0), .val (.int p1), .val (.int p2), .val (.int (0 : Int32)), .val (.int (1 : Int32)), .val (.ref b71), .val (.int vg79), .val (.int vg80), .unset, .unset, .unset, .unset, .unset]) rfl k) ?_
      show own_G p e below _ (T75.setTop (mkF m 42 #[.val (.int p0), .val (.int p1), .val (.int p2), .val (.int (0 : Int32)), .val (.int (1 : Int32)), .val (.ref b71), .val (.int vg79), .val (.int vg80), .unset, .unset, .unset, .unset, .unset] []))
      refine own_via (fun t k => XS.iloadN X75.here hx rfl (hb hby at_42) rfl k) ?_
      show own_G p e below _ (T75.setTop (mkF m 43 #[.val (.int p0), .val (.int p1), .val (.int p2), .val (.int (0 : Int32)), .val (.int (1 : Int32)), .val (.ref b71), .val (.int vg79), .val (.int vg80), .unset, .unset, .unset, .unset, .unset] [(.int p0)]))
      refine own_via (fun t k => XS.bipush X75.here hx rfl (hb hby at_43) k) ?_
      show own_G p e below _ (T75.setTop (mkF m 45 #[.val (.int p0), .val (.int p1), .val (.int p2), .val (.int (0 : Int32)), .val (.int (1 : Int32)), .val (.ref b71), .val (.int vg79), .val (.int vg80), .unset, .unset, .unset, .unset, .unset] [(.int (16 : Int32)), (.int p0)]))
      refine own_via (fun t k => XS.ishr X75.here hx rfl (hb hby at_45) rfl k) ?_
      show own_G p e below _ (T75.setTop (mkF m 46 #[.val (.int p0), .val (.int p1), .val (.int p2), .val (.int (0 : Int32)), .val (.int (1 : Int32)), .val (.ref b71), .val (.int vg79), .val (.int vg80), .unset, .unset, .unset, .unset, .unset] [(.int (p0 >>> ((16 : Int32) &&& 31)))]))
      refine own_via (fun t k => XS.i2b X75.here hx rfl (hb hby at_46) rfl k) ?_
      show own_G p e below _ (T75.setTop (mkF m 47 #[.val (.int p0), .val (.int p1), .val (.int p2), .val (.int (0 : Int32)), .val (.int (1 : Int32)), .val (.ref b71), .val (.int vg79), .val (.int vg80), .unset, .unset, .unset, .unset, .unset] [(.int ((p0 >>> ((16 : Int32) &&& 31)).toInt8.toInt32))]))
      generalize hvg81 : ((p0 >>> ((16 : Int32) &&& 31)).toInt8.toInt32) = vg81
      show own_G p e below _ (T75.setTop (mkF m 47 #[.val (.int p0), .val (.int p1), .val (.int p2), .val (.int (0 : Int32)), .val (.int (1 : Int32)), .val (.ref b71), .val (.int vg79), .val (.int vg80), .unset, .unset, .unset, .unset, .unset] [(.int vg81)]))
      refine own_via (fun t k => XS.istore X75.here hx rfl (hb hby at_47) rfl (l' := #[.val (.int p0), .val (.int p1), .val (.int p2), .val (.int (0 : Int32)), .val (.int (1 : Int32)), .val (.ref b71), .val (.int vg79), .val (.int vg80), .val (.int vg81), .unset, .unset, .unset, .unset]) rfl k) ?_
      show own_G p e below _ (T75.setTop (mkF m 49 #[.val (.int p0), .val (.int p1), .val (.int p2), .val (.int (0 : Int32)), .val (.int (1 : Int32)), .val (.ref b71), .val (.int vg79), .val (.int vg80), .val (.int vg81), .unset, .unset, .unset, .unset] []))
      refine own_via (fun t k => XS.iload X75.here hx rfl (hb hby at_49) rfl k) ?_
      show own_G p e below _ (T75.setTop (mkF m 51 #[.val (.int p0), .val (.int p1), .val (.int p2), .val (.int (0 : Int32)), .val (.int (1 : Int32)), .val (.ref b71), .val (.int vg79), .val (.int vg80), .val (.int vg81), .unset, .unset, .unset, .unset] [(.int (1 : Int32))]))
      obtain ⟨T82, h82, k82, b82, X82, e82, E82, ga82, V82, Ex82, st82⟩ := own_newA X75 hx hZ (hw _ (List.mem_of_getElem? (i := 0) rfl)) e75 (pc := 51) (Ls := #[.val (.int p0), .val (.int p1), .val (.int p2), .val (.int (0 : Int32)), .val (.int (1 : Int32)), .val (.ref b71), .val (.int vg79), .val (.int vg80), .val (.int vg81), .unset, .unset, .unset, .unset]) (rest := []) (hb hby at_51) (n := (1 : Int32)) (by decide) (cap := 1) (by decide) (by decide) (by decide) (by decide) 1 rfl
      refine own_via st82 ?_
      have ne83 : b71 ≠ b82 := Nat.ne_of_lt (Nat.lt_of_lt_of_le f76.lt (Nat.le_of_eq ga82.symm))
      have f84 : Exa Z h82 b71 "[B" := f76.ext E82
      have f85 : Arv Z h82 b71 k71 .byte (1 : Int32) [(.int ((((p0.toUInt32 >>> ((24 : Int32) &&& 31).toUInt32).toInt32).toInt8.toInt32).toInt8.toInt32))] (.int (0 : Int32)) := f77.ext E82
      have f86 : Arv Z h82 b82 k82 .byte (1 : Int32) [(.int (0 : Int32))] (.int (0 : Int32)) := V82
      have f87 : Exa Z h82 b82 "[B" := Ex82
      have g_b82 : n0 ≤ b82 := Nat.le_trans Zs78 (Nat.le_of_eq ga82.symm)
      have Zs88 : n0 ≤ h82.size := Nat.le_trans Zs78 E82.1
      show own_G p e below _ (T82.setTop (mkF m 53 #[.val (.int p0), .val (.int p1), .val (.int p2), .val (.int (0 : Int32)), .val (.int (1 : Int32)), .val (.ref b71), .val (.int vg79), .val (.int vg80), .val (.int vg81), .unset, .unset, .unset, .unset] [(.ref b82)]))
      refine own_via (fun t k => XS.astore X82.here hx rfl (hb hby at_53) rfl rfl (l' := #[.val (.int p0), .val (.int p1), .val (.int p2), .val (.int (0 : Int32)), .val (.int (1 : Int32)), .val (.ref b71), .val (.int vg79), .val (.int vg80), .val (.int vg81), .val (.ref b82), .unset, .unset, .unset]) rfl k) ?_
      show own_G p e below _ (T82.setTop (mkF m 55 #[.val (.int p0), .val (.int p1), .val (.int p2), .val (.int (0 : Int32)), .val (.int (1 : Int32)), .val (.ref b71), .val (.int vg79), .val (.int vg80), .val (.int vg81), .val (.ref b82), .unset, .unset, .unset] []))
      refine own_via (fun t k => XS.iload X82.here hx rfl (hb hby at_55) rfl k) ?_
      show own_G p e below _ (T82.setTop (mkF m 57 #[.val (.int p0), .val (.int p1), .val (.int p2), .val (.int (0 : Int32)), .val (.int (1 : Int32)), .val (.ref b71), .val (.int vg79), .val (.int vg80), .val (.int vg81), .val (.ref b82), .unset, .unset, .unset] [(.int (1 : Int32))]))
      refine own_via (fun t k => XS.ifNo X82.here hx rfl (hb hby at_57) rfl ((if0 _ _).trans (tlt (by decide : (0 : Int32) < (1 : Int32))).2.2.2) k) ?_
      show own_G p e below _ (T82.setTop (mkF m 60 #[.val (.int p0), .val (.int p1), .val (.int p2), .val (.int (0 : Int32)), .val (.int (1 : Int32)), .val (.ref b71), .val (.int vg79), .val (.int vg80), .val (.int vg81), .val (.ref b82), .unset, .unset, .unset] []))
      refine own_via (fun t k => XS.aload X82.here hx rfl (hb hby at_60) rfl rfl k) ?_
      show own_G p e below _ (T82.setTop (mkF m 62 #[.val (.int p0), .val (.int p1), .val (.int p2), .val (.int (0 : Int32)), .val (.int (1 : Int32)), .val (.ref b71), .val (.int vg79), .val (.int vg80), .val (.int vg81), .val (.ref b82), .unset, .unset, .unset] [(.ref b82)]))
      refine own_via (fun t k => XS.iconst X82.here hx rfl (hb hby at_62) k) ?_
      show own_G p e below _ (T82.setTop (mkF m 63 #[.val (.int p0), .val (.int p1), .val (.int p2), .val (.int (0 : Int32)), .val (.int (1 : Int32)), .val (.ref b71), .val (.int vg79), .val (.int vg80), .val (.int vg81), .val (.ref b82), .unset, .unset, .unset] [(.int (0 : Int32)), (.ref b82)]))
      refine own_via (fun t k => XS.iload X82.here hx rfl (hb hby at_63) rfl k) ?_
      show own_G p e below _ (T82.setTop (mkF m 65 #[.val (.int p0), .val (.int p1), .val (.int p2), .val (.int (0 : Int32)), .val (.int (1 : Int32)), .val (.ref b71), .val (.int vg79), .val (.int vg80), .val (.int vg81), .val (.ref b82), .unset, .unset, .unset] [(.int vg79), (.int (0 : Int32)), (.ref b82)]))
      obtain ⟨T89, h89, L89, X89, N89, e89, W89, V89, st89⟩ := own_stB X82 N75 hx hZ e82 f86 g_b82 (j := (0 : Int32)) (x := vg79) (i := 0) ⟨by decide, by decide⟩ rfl (Nat.le_of_ble_eq_true rfl) (pc := 65) (Ls := #[.val (.int p0), .val (.int p1), .val (.int p2), .val (.int (0 : Int32)), .val (.int (1 : Int32)), .val (.ref b71), .val (.int vg79), .val (.int vg80), .val (.int vg81), .val (.ref b82), .unset, .unset, .unset]) (rest := []) (hb hby at_65)
      refine own_via st89 ?_
      have f90 : Exa Z h89 b71 "[B" := f84.wr W89
      have f91 : Arv Z h89 b71 k71 .byte (1 : Int32) [(.int ((((p0.toUInt32 >>> ((24 : Int32) &&& 31).toUInt32).toInt32).toInt8.toInt32).toInt8.toInt32))] (.int (0 : Int32)) := f85.other W89 ne83
      have f92 : Exa Z h89 b82 "[B" := f87.wr W89
      have f93 : Arv Z h89 b82 k82 .byte (1 : Int32) [(.int (vg79.toInt8.toInt32))] (.int (0 : Int32)) := V89
      have Zs94 : n0 ≤ h89.size := by rw [W89.size]; exact Zs88
      show own_G p e below _ (T89.setTop (mkF m 66 #[.val (.int p0), .val (.int p1), .val (.int p2), .val (.int (0 : Int32)), .val (.int (1 : Int32)), .val (.ref b71), .val (.int vg79), .val (.int vg80), .val (.int vg81), .val (.ref b82), .unset, .unset, .unset] []))
      refine own_via (fun t k => XS.iload X89.here hx rfl (hb hby at_66) rfl k) ?_
      show own_G p e below _ (T89.setTop (mkF m 68 #[.val (.int p0), .val (.int p1), .val (.int p2), .val (.int (0 : Int32)), .val (.int (1 : Int32)), .val (.ref b71), .val (.int vg79), .val (.int vg80), .val (.int vg81), .val (.ref b82), .unset, .unset, .unset] [(.int (1 : Int32))]))
      refine own_via (fun t k => XS.iconst X89.here hx rfl (hb hby at_68) k) ?_
      show own_G p e below _ (T89.setTop (mkF m 69 #[.val (.int p0), .val (.int p1), .val (.int p2), .val (.int (0 : Int32)), .val (.int (1 : Int32)), .val (.ref b71), .val (.int vg79), .val (.int vg80), .val (.int vg81), .val (.ref b82), .unset, .unset, .unset] [(.int (1 : Int32)), (.int (1 : Int32))]))
      refine own_via (fun t k => XS.icmpYes X89.here hx rfl (pc0 := 69) (pc' := 78) rfl (hb hby at_69) rfl (flt (by decide : ¬ ((1 : Int32) < (1 : Int32)))).2.2.2 (by decide) (by decide) k) ?_
      show own_G p e below _ (T89.setTop (mkF m 78 #[.val (.int p0), .val (.int p1), .val (.int p2), .val (.int (0 : Int32)), .val (.int (1 : Int32)), .val (.ref b71), .val (.int vg79), .val (.int vg80), .val (.int vg81), .val (.ref b82), .unset, .unset, .unset] []))
      refine own_via (fun t k => XS.iload X89.here hx rfl (hb hby at_78) rfl k) ?_
      show own_G p e below _ (T89.setTop (mkF m 80 #[.val (.int p0), .val (.int p1), .val (.int p2), .val (.int (0 : Int32)), .val (.int (1 : Int32)), .val (.ref b71), .val (.int vg79), .val (.int vg80), .val (.int vg81), .val (.ref b82), .unset, .unset, .unset] [(.int (1 : Int32))]))
      refine own_via (fun t k => XS.iconst X89.here hx rfl (hb hby at_80) k) ?_
      show own_G p e below _ (T89.setTop (mkF m 81 #[.val (.int p0), .val (.int p1), .val (.int p2), .val (.int (0 : Int32)), .val (.int (1 : Int32)), .val (.ref b71), .val (.int vg79), .val (.int vg80), .val (.int vg81), .val (.ref b82), .unset, .unset, .unset] [(.int (2 : Int32)), (.int (1 : Int32))]))
      refine own_via (fun t k => XS.icmpYes X89.here hx rfl (pc0 := 81) (pc' := 90) rfl (hb hby at_81) rfl (flt (by decide : ¬ ((2 : Int32) < (1 : Int32)))).2.2.2 (by decide) (by decide) k) ?_
      show own_G p e below _ (T89.setTop (mkF m 90 #[.val (.int p0), .val (.int p1), .val (.int p2), .val (.int (0 : Int32)), .val (.int (1 : Int32)), .val (.ref b71), .val (.int vg79), .val (.int vg80), .val (.int vg81), .val (.ref b82), .unset, .unset, .unset] []))
      obtain ⟨T95, h95, b95, X95, e95, E95, ga95, A95, D95, st95⟩ := own_newO X89 hx hZ hown (hw _ (List.mem_of_getElem? (i := 1) rfl)) (hw _ (List.mem_of_getElem? (i := 2) rfl)) (hw _ (List.mem_of_getElem? (i := 3) rfl)) e89 (pc := 90) (Ls := #[.val (.int p0), .val (.int p1), .val (.int p2), .val (.int (0 : Int32)), .val (.int (1 : Int32)), .val (.ref b71), .val (.int vg79), .val (.int vg80), .val (.int vg81), .val (.ref b82), .unset, .unset, .unset]) (rest := []) (hb hby at_90) (by decide) (by decide)
      refine own_via st95 ?_
      have ne96 : b71 ≠ b95 := Nat.ne_of_lt (Nat.lt_of_lt_of_le f90.lt (Nat.le_of_eq ga95.symm))
      have ne97 : b82 ≠ b95 := Nat.ne_of_lt (Nat.lt_of_lt_of_le f92.lt (Nat.le_of_eq ga95.symm))
      have f98 : Exa Z h95 b71 "[B" := f90.ext E95
      have f99 : Arv Z h95 b71 k71 .byte (1 : Int32) [(.int ((((p0.toUInt32 >>> ((24 : Int32) &&& 31).toUInt32).toInt32).toInt8.toInt32).toInt8.toInt32))] (.int (0 : Int32)) := f91.ext E95
      have f100 : Exa Z h95 b82 "[B" := f92.ext E95
      have f101 : Arv Z h95 b82 k82 .byte (1 : Int32) [(.int (vg79.toInt8.toInt32))] (.int (0 : Int32)) := f93.ext E95
      have f102 : Fld Z h95 b95 "com/example/clementi/clementi/store/KeyRange" "prefix" "[B" .null := D95 (Or.inr (hw _ (List.mem_of_getElem? (i := 11) rfl))) (ty := (.array .byte)) (by decide)
      have f103 : Fld Z h95 b95 "com/example/clementi/clementi/store/KeyRange" "end" "[B" .null := D95 (Or.inr (hw _ (List.mem_of_getElem? (i := 13) rfl))) (ty := (.array .byte)) (by decide)
      have g_b95 : n0 ≤ b95 := Nat.le_trans Zs94 (Nat.le_of_eq ga95.symm)
      have Zs104 : n0 ≤ h95.size := Nat.le_trans Zs94 E95.1
      show own_G p e below _ (T95.setTop (mkF m 93 #[.val (.int p0), .val (.int p1), .val (.int p2), .val (.int (0 : Int32)), .val (.int (1 : Int32)), .val (.ref b71), .val (.int vg79), .val (.int vg80), .val (.int vg81), .val (.ref b82), .unset, .unset, .unset] [(.ref b95)]))
      refine own_via (fun t k => XS.dup X95.here hx rfl (hb hby at_93) rfl rfl k) ?_
      show own_G p e below _ (T95.setTop (mkF m 94 #[.val (.int p0), .val (.int p1), .val (.int p2), .val (.int (0 : Int32)), .val (.int (1 : Int32)), .val (.ref b71), .val (.int vg79), .val (.int vg80), .val (.int vg81), .val (.ref b82), .unset, .unset, .unset] [(.ref b95), (.ref b95)]))
      refine own_via (fun t k => XS.aload X95.here hx rfl (hb hby at_94) rfl rfl k) ?_
      show own_G p e below _ (T95.setTop (mkF m 96 #[.val (.int p0), .val (.int p1), .val (.int p2), .val (.int (0 : Int32)), .val (.int (1 : Int32)), .val (.ref b71), .val (.int vg79), .val (.int vg80), .val (.int vg81), .val (.ref b82), .unset, .unset, .unset] [(.ref b71), (.ref b95), (.ref b95)]))
      refine own_via (fun t k => XS.iloadN X95.here hx rfl (hb hby at_96) rfl k) ?_
      show own_G p e below _ (T95.setTop (mkF m 97 #[.val (.int p0), .val (.int p1), .val (.int p2), .val (.int (0 : Int32)), .val (.int (1 : Int32)), .val (.ref b71), .val (.int vg79), .val (.int vg80), .val (.int vg81), .val (.ref b82), .unset, .unset, .unset] [(.int (0 : Int32)), (.ref b71), (.ref b95), (.ref b95)]))
      refine own_via (fun t k => XS.ifYes X95.here hx rfl (pc0 := 97) (pc' := 104) rfl (hb hby at_97) rfl ((if0 _ _).trans (teq (by decide : (0 : Int32) = (0 : Int32))).1) (by decide) (by decide) k) ?_
      show own_G p e below _ (T95.setTop (mkF m 104 #[.val (.int p0), .val (.int p1), .val (.int p2), .val (.int (0 : Int32)), .val (.int (1 : Int32)), .val (.ref b71), .val (.int vg79), .val (.int vg80), .val (.int vg81), .val (.ref b82), .unset, .unset, .unset] [(.ref b71), (.ref b95), (.ref b95)]))
      refine own_via (fun t k => XS.aload X95.here hx rfl (hb hby at_104) rfl rfl k) ?_
      show own_G p e below _ (T95.setTop (mkF m 106 #[.val (.int p0), .val (.int p1), .val (.int p2), .val (.int (0 : Int32)), .val (.int (1 : Int32)), .val (.ref b71), .val (.int vg79), .val (.int vg80), .val (.int vg81), .val (.ref b82), .unset, .unset, .unset] [(.ref b82), (.ref b71), (.ref b95), (.ref b95)]))
      obtain ⟨v105, T105, h105, L105, X105, N105, e105, hq105, st105⟩ := own_callI (y := (⟨"com/example/clementi/clementi/store/KeyRange", "<init>", "([B[B)V"⟩ : MethodName)) (W := 1) (a := b95) X95 N89 hx hZ rfl hown (hw _ (List.mem_of_getElem? (i := 4) rfl)) (hw _ (List.mem_of_getElem? (i := 5) rfl)) (hw _ (List.mem_of_getElem? (i := 3) rfl)) (hw _ (List.mem_of_getElem? (i := 6) rfl)) (by decide) (own_init0 l Z a0 hw [] b95 b71 b82 (.null) (.null) h95 n0 Zs104 A95 f102 f103 g_b95) (by decide) (by decide) (by decide) (by decide) e95 (pc := 106) (Ls := #[.val (.int p0), .val (.int p1), .val (.int p2), .val (.int (0 : Int32)), .val (.int (1 : Int32)), .val (.ref b71), .val (.int vg79), .val (.int vg80), .val (.int vg81), .val (.ref b82), .unset, .unset, .unset]) (st := [(.ref b82), (.ref b71), (.ref b95), (.ref b95)]) (argsL := [(.ref b71), (.ref b82)]) (rest := [(.ref b95)]) (by rw [hml]; rfl) (lenOf own_pd0 rfl) rfl rfl (Nat.le_of_eq rfl) (hb hby at_106)
      obtain ⟨rfl, K105, o105_0, o105_1, o105_2⟩ := hq105
      refine own_via st105 ?_
      have f106 : Exa Z h105 b71 "[B" := f98.keep K105
      have f107 : Arv Z h105 b71 k71 .byte (1 : Int32) [(.int ((((p0.toUInt32 >>> ((24 : Int32) &&& 31).toUInt32).toInt32).toInt8.toInt32).toInt8.toInt32))] (.int (0 : Int32)) := f99.keep K105 (by simp only [List.mem_cons, List.not_mem_nil, or_false, not_or]; exact ne96)
      have f108 : Exa Z h105 b82 "[B" := f100.keep K105
      have f109 : Arv Z h105 b82 k82 .byte (1 : Int32) [(.int (vg79.toInt8.toInt32))] (.int (0 : Int32)) := f101.keep K105 (by simp only [List.mem_cons, List.not_mem_nil, or_false, not_or]; exact ne97)
      have f110 : Exa Z h105 b95 "com/example/clementi/clementi/store/KeyRange" := A95.keep K105
      have Zs111 : n0 ≤ h105.size := Nat.le_trans Zs104 K105.1
      show own_G p e below _ (T105.setTop (mkF m 109 #[.val (.int p0), .val (.int p1), .val (.int p2), .val (.int (0 : Int32)), .val (.int (1 : Int32)), .val (.ref b71), .val (.int vg79), .val (.int vg80), .val (.int vg81), .val (.ref b82), .unset, .unset, .unset] [(.ref b95)]))
      refine own_via (fun t k => XS.astore X105.here hx rfl (hb hby at_109) rfl rfl (l' := #[.val (.int p0), .val (.int p1), .val (.int p2), .val (.int (0 : Int32)), .val (.int (1 : Int32)), .val (.ref b71), .val (.int vg79), .val (.int vg80), .val (.int vg81), .val (.ref b82), .val (.ref b95), .unset, .unset]) rfl k) ?_
      show own_G p e below _ (T105.setTop (mkF m 111 #[.val (.int p0), .val (.int p1), .val (.int p2), .val (.int (0 : Int32)), .val (.int (1 : Int32)), .val (.ref b71), .val (.int vg79), .val (.int vg80), .val (.int vg81), .val (.ref b82), .val (.ref b95), .unset, .unset] []))
      refine own_via (fun t k => XS.aload X105.here hx rfl (hb hby at_111) rfl rfl k) ?_
      show own_G p e below _ (T105.setTop (mkF m 113 #[.val (.int p0), .val (.int p1), .val (.int p2), .val (.int (0 : Int32)), .val (.int (1 : Int32)), .val (.ref b71), .val (.int vg79), .val (.int vg80), .val (.int vg81), .val (.ref b82), .val (.ref b95), .unset, .unset] [(.ref b95)]))
      obtain ⟨v112, T112, h112, L112, X112, N112, e112, hq112, st112⟩ := own_callV (y := (⟨"com/example/clementi/clementi/store/KeyRange", "end", "()[B"⟩ : MethodName)) (z := (⟨"com/example/clementi/clementi/store/KeyRange", "end", "()[B"⟩ : MethodName)) (W := 0) (a := b95) X105 N105 hx hZ hown (hw _ (List.mem_of_getElem? (i := 14) rfl)) (hw _ (List.mem_of_getElem? (i := 15) rfl)) (notFace_of_selects (args := #[]) (mvT hZ (hw _ (List.mem_of_getElem? (i := 17) rfl)))) (hw _ (List.mem_of_getElem? (i := 17) rfl)) (hw _ (List.mem_of_getElem? (i := 16) rfl)) (hw _ (List.mem_of_getElem? (i := 3) rfl)) (hw _ (List.mem_of_getElem? (i := 18) rfl)) (by decide) (own_end1 l Z a0 hw [] b95 b82 k82 (1 : Int32) [(.int (vg79.toInt8.toInt32))] (.int (0 : Int32)) h105 n0 Zs111 o105_2 f109 f108 (by decide)) (by decide) (by decide) (by decide) (by decide) e105 o105_0 (pc := 113) (Ls := #[.val (.int p0), .val (.int p1), .val (.int p2), .val (.int (0 : Int32)), .val (.int (1 : Int32)), .val (.ref b71), .val (.int vg79), .val (.int vg80), .val (.int vg81), .val (.ref b82), .val (.ref b95), .unset, .unset]) (st := [(.ref b95)]) (argsL := []) (rest := []) (by rw [hml]; rfl) (lenOf own_pd1 rfl) rfl rfl (Nat.le_of_eq rfl) (hb hby at_113)
      obtain ⟨x112, rfl, K112, zf_x112, o112_0, o112_1⟩ := hq112
      refine own_via st112 ?_
      have ne113 : b71 ≠ x112 := Nat.ne_of_lt (Nat.lt_of_lt_of_le f106.lt zf_x112)
      have ne114 : b82 ≠ x112 := Nat.ne_of_lt (Nat.lt_of_lt_of_le f108.lt zf_x112)
      have ne115 : b95 ≠ x112 := Nat.ne_of_lt (Nat.lt_of_lt_of_le o105_0.lt zf_x112)
      have g_x112 : n0 ≤ x112 := Nat.le_trans Zs111 zf_x112
      have f116 : Exa Z h112 b71 "[B" := f106.ext (own_ke K112)
      have f117 : Arv Z h112 b71 k71 .byte (1 : Int32) [(.int ((((p0.toUInt32 >>> ((24 : Int32) &&& 31).toUInt32).toInt32).toInt8.toInt32).toInt8.toInt32))] (.int (0 : Int32)) := f107.ext (own_ke K112)
      have f118 : Exa Z h112 b82 "[B" := f108.ext (own_ke K112)
      have f119 : Arv Z h112 b82 k82 .byte (1 : Int32) [(.int (vg79.toInt8.toInt32))] (.int (0 : Int32)) := f109.ext (own_ke K112)
      have f120 : Exa Z h112 b95 "com/example/clementi/clementi/store/KeyRange" := o105_0.ext (own_ke K112)
      have f121 : Fld Z h112 b95 "com/example/clementi/clementi/store/KeyRange" "prefix" "[B" (.ref b71) := o105_1.ext (own_ke K112)
      have f122 : Fld Z h112 b95 "com/example/clementi/clementi/store/KeyRange" "end" "[B" (.ref b82) := o105_2.ext (own_ke K112)
      have Zs123 : n0 ≤ h112.size := Nat.le_trans Zs111 K112.1
      show own_G p e below _ (T112.setTop (mkF m 116 #[.val (.int p0), .val (.int p1), .val (.int p2), .val (.int (0 : Int32)), .val (.int (1 : Int32)), .val (.ref b71), .val (.int vg79), .val (.int vg80), .val (.int vg81), .val (.ref b82), .val (.ref b95), .unset, .unset] [(.ref x112)]))
      refine own_via (fun t k => XS.astore X112.here hx rfl (hb hby at_116) rfl rfl (l' := #[.val (.int p0), .val (.int p1), .val (.int p2), .val (.int (0 : Int32)), .val (.int (1 : Int32)), .val (.ref b71), .val (.int vg79), .val (.int vg80), .val (.int vg81), .val (.ref b82), .val (.ref b95), .val (.ref x112), .unset]) rfl k) ?_
      show own_G p e below _ (T112.setTop (mkF m 118 #[.val (.int p0), .val (.int p1), .val (.int p2), .val (.int (0 : Int32)), .val (.int (1 : Int32)), .val (.ref b71), .val (.int vg79), .val (.int vg80), .val (.int vg81), .val (.ref b82), .val (.ref b95), .val (.ref x112), .unset] []))
      refine own_via (fun t k => XS.iloadN X112.here hx rfl (hb hby at_118) rfl k) ?_
      show own_G p e below _ (T112.setTop (mkF m 119 #[.val (.int p0), .val (.int p1), .val (.int p2), .val (.int (0 : Int32)), .val (.int (1 : Int32)), .val (.ref b71), .val (.int vg79), .val (.int vg80), .val (.int vg81), .val (.ref b82), .val (.ref b95), .val (.ref x112), .unset] [(.int (0 : Int32))]))
      refine own_via (fun t k => XS.ifYes X112.here hx rfl (pc0 := 119) (pc' := 141) rfl (hb hby at_119) rfl ((if0 _ _).trans (teq (by decide : (0 : Int32) = (0 : Int32))).1) (by decide) (by decide) k) ?_
      show own_G p e below _ (T112.setTop (mkF m 141 #[.val (.int p0), .val (.int p1), .val (.int p2), .val (.int (0 : Int32)), .val (.int (1 : Int32)), .val (.ref b71), .val (.int vg79), .val (.int vg80), .val (.int vg81), .val (.ref b82), .val (.ref b95), .val (.ref x112), .unset] []))
      refine own_via (fun t k => XS.aload X112.here hx rfl (hb hby at_141) rfl rfl k) ?_
      show own_G p e below _ (T112.setTop (mkF m 143 #[.val (.int p0), .val (.int p1), .val (.int p2), .val (.int (0 : Int32)), .val (.int (1 : Int32)), .val (.ref b71), .val (.int vg79), .val (.int vg80), .val (.int vg81), .val (.ref b82), .val (.ref b95), .val (.ref x112), .unset] [(.ref x112)]))
      refine own_via (fun t k => XS.ifnullNo X112.here hx rfl (hb hby at_143) rfl k) ?_
      show own_G p e below _ (T112.setTop (mkF m 146 #[.val (.int p0), .val (.int p1), .val (.int p2), .val (.int (0 : Int32)), .val (.int (1 : Int32)), .val (.ref b71), .val (.int vg79), .val (.int vg80), .val (.int vg81), .val (.ref b82), .val (.ref b95), .val (.ref x112), .unset] []))
      refine own_via (fun t k => XS.aload X112.here hx rfl (hb hby at_146) rfl rfl k) ?_
      show own_G p e below _ (T112.setTop (mkF m 148 #[.val (.int p0), .val (.int p1), .val (.int p2), .val (.int (0 : Int32)), .val (.int (1 : Int32)), .val (.ref b71), .val (.int vg79), .val (.int vg80), .val (.int vg81), .val (.ref b82), .val (.ref b95), .val (.ref x112), .unset] [(.ref x112)]))
      refine own_via (fun t k => XS.aload X112.here hx rfl (hb hby at_148) rfl rfl k) ?_
      show own_G p e below _ (T112.setTop (mkF m 150 #[.val (.int p0), .val (.int p1), .val (.int p2), .val (.int (0 : Int32)), .val (.int (1 : Int32)), .val (.ref b71), .val (.int vg79), .val (.int vg80), .val (.int vg81), .val (.ref b82), .val (.ref b95), .val (.ref x112), .unset] [(.ref b82), (.ref x112)]))
      refine own_via (fun t k => Jvm.RoadKit.acmp (g := (mkF m 150 #[.val (.int p0), .val (.int p1), .val (.int p2), .val (.int (0 : Int32)), .val (.int (1 : Int32)), .val (.ref b71), .val (.int vg79), .val (.int vg80), .val (.int vg81), .val (.ref b82), .val (.ref b95), .val (.ref x112), .unset] [(.ref b82), (.ref x112)])) X112 hx rfl rfl rfl (pc0 := 150) (pc' := 153) (same := false) rfl (hb hby at_150) rfl (decide_eq_false fun q => (Ne.symm ne114) (Value.ref.inj q)) (by decide) (by decide) k) ?_
      show own_G p e below _ (T112.setTop (mkF m 153 #[.val (.int p0), .val (.int p1), .val (.int p2), .val (.int (0 : Int32)), .val (.int (1 : Int32)), .val (.ref b71), .val (.int vg79), .val (.int vg80), .val (.int vg81), .val (.ref b82), .val (.ref b95), .val (.ref x112), .unset] []))
      refine own_via (fun t k => XS.aload X112.here hx rfl (hb hby at_153) rfl rfl k) ?_
      show own_G p e below _ (T112.setTop (mkF m 155 #[.val (.int p0), .val (.int p1), .val (.int p2), .val (.int (0 : Int32)), .val (.int (1 : Int32)), .val (.ref b71), .val (.int vg79), .val (.int vg80), .val (.int vg81), .val (.ref b82), .val (.ref b95), .val (.ref x112), .unset] [(.ref x112)]))
      refine own_via (own_len X112 hx hZ e112 o112_0 (pc := 155) (Ls := #[.val (.int p0), .val (.int p1), .val (.int p2), .val (.int (0 : Int32)), .val (.int (1 : Int32)), .val (.ref b71), .val (.int vg79), .val (.int vg80), .val (.int vg81), .val (.ref b82), .val (.ref b95), .val (.ref x112), .unset]) (rest := []) (hb hby at_155)) ?_
      show own_G p e below _ (T112.setTop (mkF m 156 #[.val (.int p0), .val (.int p1), .val (.int p2), .val (.int (0 : Int32)), .val (.int (1 : Int32)), .val (.ref b71), .val (.int vg79), .val (.int vg80), .val (.int vg81), .val (.ref b82), .val (.ref b95), .val (.ref x112), .unset] [(.int (1 : Int32))]))
      refine own_via (fun t k => XS.iload X112.here hx rfl (hb hby at_156) rfl k) ?_
      show own_G p e below _ (T112.setTop (mkF m 158 #[.val (.int p0), .val (.int p1), .val (.int p2), .val (.int (0 : Int32)), .val (.int (1 : Int32)), .val (.ref b71), .val (.int vg79), .val (.int vg80), .val (.int vg81), .val (.ref b82), .val (.ref b95), .val (.ref x112), .unset] [(.int (1 : Int32)), (.int (1 : Int32))]))
      refine own_via (fun t k => XS.icmpYes X112.here hx rfl (pc0 := 158) (pc' := 163) rfl (hb hby at_158) rfl (teq (by decide : (1 : Int32) = (1 : Int32))).1 (by decide) (by decide) k) ?_
      show own_G p e below _ (T112.setTop (mkF m 163 #[.val (.int p0), .val (.int p1), .val (.int p2), .val (.int (0 : Int32)), .val (.int (1 : Int32)), .val (.ref b71), .val (.int vg79), .val (.int vg80), .val (.int vg81), .val (.ref b82), .val (.ref b95), .val (.ref x112), .unset] []))
      refine own_via (fun t k => XS.aload X112.here hx rfl (hb hby at_163) rfl rfl k) ?_
      show own_G p e below _ (T112.setTop (mkF m 165 #[.val (.int p0), .val (.int p1), .val (.int p2), .val (.int (0 : Int32)), .val (.int (1 : Int32)), .val (.ref b71), .val (.int vg79), .val (.int vg80), .val (.int vg81), .val (.ref b82), .val (.ref b95), .val (.ref x112), .unset] [(.ref x112)]))
      refine own_via (fun t k => XS.iload X112.here hx rfl (hb hby at_165) rfl k) ?_
      show own_G p e below _ (T112.setTop (mkF m 167 #[.val (.int p0), .val (.int p1), .val (.int p2), .val (.int (0 : Int32)), .val (.int (1 : Int32)), .val (.ref b71), .val (.int vg79), .val (.int vg80), .val (.int vg81), .val (.ref b82), .val (.ref b95), .val (.ref x112), .unset] [(.int (1 : Int32)), (.ref x112)]))
      refine own_via (fun t k => XS.iload X112.here hx rfl (hb hby at_167) rfl k) ?_
      show own_G p e below _ (T112.setTop (mkF m 169 #[.val (.int p0), .val (.int p1), .val (.int p2), .val (.int (0 : Int32)), .val (.int (1 : Int32)), .val (.ref b71), .val (.int vg79), .val (.int vg80), .val (.int vg81), .val (.ref b82), .val (.ref b95), .val (.ref x112), .unset] [(.int vg79), (.int (1 : Int32)), (.ref x112)]))
      refine own_via (fun t k => XS.iload X112.here hx rfl (hb hby at_169) rfl k) ?_
      show own_G p e below _ (T112.setTop (mkF m 171 #[.val (.int p0), .val (.int p1), .val (.int p2), .val (.int (0 : Int32)), .val (.int (1 : Int32)), .val (.ref b71), .val (.int vg79), .val (.int vg80), .val (.int vg81), .val (.ref b82), .val (.ref b95), .val (.ref x112), .unset] [(.int vg80), (.int vg79), (.int (1 : Int32)), (.ref x112)]))
      refine own_via (fun t k => XS.iload X112.here hx rfl (hb hby at_171) rfl k) ?_
      show own_G p e below _ (T112.setTop (mkF m 173 #[.val (.int p0), .val (.int p1), .val (.int p2), .val (.int (0 : Int32)), .val (.int (1 : Int32)), .val (.ref b71), .val (.int vg79), .val (.int vg80), .val (.int vg81), .val (.ref b82), .val (.ref b95), .val (.ref x112), .unset] [(.int vg81), (.int vg80), (.int vg79), (.int (1 : Int32)), (.ref x112)]))
      obtain ⟨T124, X124, e124, st124⟩ := own_callP (y := (⟨"com/example/clementi/clementi/store/KeyRangeEndPinLaw", "same", "([BIBBB)Z"⟩ : MethodName)) (W := 0) X112 hx hZ hown (hw _ (List.mem_of_getElem? (i := 28) rfl)) (hw _ (List.mem_of_getElem? (i := 29) rfl)) (hw _ (List.mem_of_getElem? (i := 30) rfl)) (hw _ (List.mem_of_getElem? (i := 31) rfl)) (by decide) (own_same1 l Z a0 hw [] x112 vg79 vg80 vg81 k82 (vg79.toInt8.toInt32) h112 o112_0 (own_i2b hvg79)) (by decide) (by decide) rfl rfl (by decide) (by decide) e112 (pc := 173) (Ls := #[.val (.int p0), .val (.int p1), .val (.int p2), .val (.int (0 : Int32)), .val (.int (1 : Int32)), .val (.ref b71), .val (.int vg79), .val (.int vg80), .val (.int vg81), .val (.ref b82), .val (.ref b95), .val (.ref x112), .unset]) (st := [(.int vg81), (.int vg80), (.int vg79), (.int (1 : Int32)), (.ref x112)]) (argsL := [(.ref x112), (.int (1 : Int32)), (.int vg79), (.int vg80), (.int vg81)]) (rest := []) (by rw [hml]; rfl) (lenOf own_pd2 rfl) rfl rfl (Nat.le_of_eq rfl) (hb hby at_173)
      refine own_via st124 ?_
      show own_G p e below _ (T124.setTop (mkF m 176 #[.val (.int p0), .val (.int p1), .val (.int p2), .val (.int (0 : Int32)), .val (.int (1 : Int32)), .val (.ref b71), .val (.int vg79), .val (.int vg80), .val (.int vg81), .val (.ref b82), .val (.ref b95), .val (.ref x112), .unset] [(.int (1 : Int32))]))
      refine own_via (fun t k => XS.ifYes X124.here hx rfl (pc0 := 176) (pc' := 181) rfl (hb hby at_176) rfl ((if0 _ _).trans (feq (by decide : ¬ ((1 : Int32) = (0 : Int32)))).2) (by decide) (by decide) k) ?_
      show own_G p e below _ (T124.setTop (mkF m 181 #[.val (.int p0), .val (.int p1), .val (.int p2), .val (.int (0 : Int32)), .val (.int (1 : Int32)), .val (.ref b71), .val (.int vg79), .val (.int vg80), .val (.int vg81), .val (.ref b82), .val (.ref b95), .val (.ref x112), .unset] []))
      refine own_via (fun t k => XS.iload X124.here hx rfl (hb hby at_181) rfl k) ?_
      show own_G p e below _ (T124.setTop (mkF m 183 #[.val (.int p0), .val (.int p1), .val (.int p2), .val (.int (0 : Int32)), .val (.int (1 : Int32)), .val (.ref b71), .val (.int vg79), .val (.int vg80), .val (.int vg81), .val (.ref b82), .val (.ref b95), .val (.ref x112), .unset] [(.int (1 : Int32))]))
      refine own_via (fun t k => XS.ifNo X124.here hx rfl (hb hby at_183) rfl ((if0 _ _).trans (tlt (by decide : (0 : Int32) < (1 : Int32))).2.2.2) k) ?_
      show own_G p e below _ (T124.setTop (mkF m 186 #[.val (.int p0), .val (.int p1), .val (.int p2), .val (.int (0 : Int32)), .val (.int (1 : Int32)), .val (.ref b71), .val (.int vg79), .val (.int vg80), .val (.int vg81), .val (.ref b82), .val (.ref b95), .val (.ref x112), .unset] []))
      refine own_via (fun t k => XS.aload X124.here hx rfl (hb hby at_186) rfl rfl k) ?_
      show own_G p e below _ (T124.setTop (mkF m 188 #[.val (.int p0), .val (.int p1), .val (.int p2), .val (.int (0 : Int32)), .val (.int (1 : Int32)), .val (.ref b71), .val (.int vg79), .val (.int vg80), .val (.int vg81), .val (.ref b82), .val (.ref b95), .val (.ref x112), .unset] [(.ref x112)]))
      refine own_via (fun t k => XS.iconst X124.here hx rfl (hb hby at_188) k) ?_
      show own_G p e below _ (T124.setTop (mkF m 189 #[.val (.int p0), .val (.int p1), .val (.int p2), .val (.int (0 : Int32)), .val (.int (1 : Int32)), .val (.ref b71), .val (.int vg79), .val (.int vg80), .val (.int vg81), .val (.ref b82), .val (.ref b95), .val (.ref x112), .unset] [(.int (0 : Int32)), (.ref x112)]))
      refine own_via (fun t k => XS.aload X124.here hx rfl (hb hby at_189) rfl rfl k) ?_
      show own_G p e below _ (T124.setTop (mkF m 191 #[.val (.int p0), .val (.int p1), .val (.int p2), .val (.int (0 : Int32)), .val (.int (1 : Int32)), .val (.ref b71), .val (.int vg79), .val (.int vg80), .val (.int vg81), .val (.ref b82), .val (.ref b95), .val (.ref x112), .unset] [(.ref x112), (.int (0 : Int32)), (.ref x112)]))
      refine own_via (fun t k => XS.iconst X124.here hx rfl (hb hby at_191) k) ?_
      show own_G p e below _ (T124.setTop (mkF m 192 #[.val (.int p0), .val (.int p1), .val (.int p2), .val (.int (0 : Int32)), .val (.int (1 : Int32)), .val (.ref b71), .val (.int vg79), .val (.int vg80), .val (.int vg81), .val (.ref b82), .val (.ref b95), .val (.ref x112), .unset] [(.int (0 : Int32)), (.ref x112), (.int (0 : Int32)), (.ref x112)]))
      refine own_via (own_ldB X124 hx hZ e124 o112_0 (j := (0 : Int32)) ⟨by decide, by decide⟩ (v := (.int (vg79.toInt8.toInt32))) rfl (pc := 192) (Ls := #[.val (.int p0), .val (.int p1), .val (.int p2), .val (.int (0 : Int32)), .val (.int (1 : Int32)), .val (.ref b71), .val (.int vg79), .val (.int vg80), .val (.int vg81), .val (.ref b82), .val (.ref b95), .val (.ref x112), .unset]) (rest := [(.int (0 : Int32)), (.ref x112)]) (hb hby at_192)) ?_
      show own_G p e below _ (T124.setTop (mkF m 193 #[.val (.int p0), .val (.int p1), .val (.int p2), .val (.int (0 : Int32)), .val (.int (1 : Int32)), .val (.ref b71), .val (.int vg79), .val (.int vg80), .val (.int vg81), .val (.ref b82), .val (.ref b95), .val (.ref x112), .unset] [(.int (vg79.toInt8.toInt32)), (.int (0 : Int32)), (.ref x112)]))
      refine own_via (fun t k => XS.iconst X124.here hx rfl (hb hby at_193) k) ?_
      show own_G p e below _ (T124.setTop (mkF m 194 #[.val (.int p0), .val (.int p1), .val (.int p2), .val (.int (0 : Int32)), .val (.int (1 : Int32)), .val (.ref b71), .val (.int vg79), .val (.int vg80), .val (.int vg81), .val (.ref b82), .val (.ref b95), .val (.ref x112), .unset] [(.int (1 : Int32)), (.int (vg79.toInt8.toInt32)), (.int (0 : Int32)), (.ref x112)]))
      refine own_via (fun t k => XS.iadd X124.here hx rfl (hb hby at_194) rfl k) ?_
      show own_G p e below _ (T124.setTop (mkF m 195 #[.val (.int p0), .val (.int p1), .val (.int p2), .val (.int (0 : Int32)), .val (.int (1 : Int32)), .val (.ref b71), .val (.int vg79), .val (.int vg80), .val (.int vg81), .val (.ref b82), .val (.ref b95), .val (.ref x112), .unset] [(.int ((vg79.toInt8.toInt32) + (1 : Int32))), (.int (0 : Int32)), (.ref x112)]))
      refine own_via (fun t k => XS.i2b X124.here hx rfl (hb hby at_195) rfl k) ?_
      show own_G p e below _ (T124.setTop (mkF m 196 #[.val (.int p0), .val (.int p1), .val (.int p2), .val (.int (0 : Int32)), .val (.int (1 : Int32)), .val (.ref b71), .val (.int vg79), .val (.int vg80), .val (.int vg81), .val (.ref b82), .val (.ref b95), .val (.ref x112), .unset] [(.int (((vg79.toInt8.toInt32) + (1 : Int32)).toInt8.toInt32)), (.int (0 : Int32)), (.ref x112)]))
      obtain ⟨T125, h125, L125, X125, N125, e125, W125, V125, st125⟩ := own_stB X124 N112 hx hZ e124 o112_0 g_x112 (j := (0 : Int32)) (x := (((vg79.toInt8.toInt32) + (1 : Int32)).toInt8.toInt32)) (i := 0) ⟨by decide, by decide⟩ rfl (Nat.le_of_ble_eq_true rfl) (pc := 196) (Ls := #[.val (.int p0), .val (.int p1), .val (.int p2), .val (.int (0 : Int32)), .val (.int (1 : Int32)), .val (.ref b71), .val (.int vg79), .val (.int vg80), .val (.int vg81), .val (.ref b82), .val (.ref b95), .val (.ref x112), .unset]) (rest := []) (hb hby at_196)
      refine own_via st125 ?_
      have f126 : Exa Z h125 b71 "[B" := f116.wr W125
      have f127 : Arv Z h125 b71 k71 .byte (1 : Int32) [(.int ((((p0.toUInt32 >>> ((24 : Int32) &&& 31).toUInt32).toInt32).toInt8.toInt32).toInt8.toInt32))] (.int (0 : Int32)) := f117.other W125 ne113
      have f128 : Exa Z h125 b82 "[B" := f118.wr W125
      have f129 : Arv Z h125 b82 k82 .byte (1 : Int32) [(.int (vg79.toInt8.toInt32))] (.int (0 : Int32)) := f119.other W125 ne114
      have f130 : Exa Z h125 b95 "com/example/clementi/clementi/store/KeyRange" := f120.wr W125
      have f131 : Fld Z h125 b95 "com/example/clementi/clementi/store/KeyRange" "prefix" "[B" (.ref b71) := f121.other W125 (Or.inl ne115)
      have f132 : Fld Z h125 b95 "com/example/clementi/clementi/store/KeyRange" "end" "[B" (.ref b82) := f122.other W125 (Or.inl ne115)
      have f133 : Exa Z h125 x112 "[B" := o112_1.wr W125
      have f134 : Arv Z h125 x112 k82 .byte (1 : Int32) [(.int ((((vg79.toInt8.toInt32) + (1 : Int32)).toInt8.toInt32).toInt8.toInt32))] (.int (0 : Int32)) := V125
      have Zs135 : n0 ≤ h125.size := by rw [W125.size]; exact Zs123
      show own_G p e below _ (T125.setTop (mkF m 197 #[.val (.int p0), .val (.int p1), .val (.int p2), .val (.int (0 : Int32)), .val (.int (1 : Int32)), .val (.ref b71), .val (.int vg79), .val (.int vg80), .val (.int vg81), .val (.ref b82), .val (.ref b95), .val (.ref x112), .unset] []))
      refine own_via (fun t k => XS.aload X125.here hx rfl (hb hby at_197) rfl rfl k) ?_
      show own_G p e below _ (T125.setTop (mkF m 199 #[.val (.int p0), .val (.int p1), .val (.int p2), .val (.int (0 : Int32)), .val (.int (1 : Int32)), .val (.ref b71), .val (.int vg79), .val (.int vg80), .val (.int vg81), .val (.ref b82), .val (.ref b95), .val (.ref x112), .unset] [(.ref b95)]))
      obtain ⟨v136, T136, h136, L136, X136, N136, e136, hq136, st136⟩ := own_callV (y := (⟨"com/example/clementi/clementi/store/KeyRange", "end", "()[B"⟩ : MethodName)) (z := (⟨"com/example/clementi/clementi/store/KeyRange", "end", "()[B"⟩ : MethodName)) (W := 0) (a := b95) X125 N125 hx hZ hown (hw _ (List.mem_of_getElem? (i := 14) rfl)) (hw _ (List.mem_of_getElem? (i := 15) rfl)) (notFace_of_selects (args := #[]) (mvT hZ (hw _ (List.mem_of_getElem? (i := 17) rfl)))) (hw _ (List.mem_of_getElem? (i := 17) rfl)) (hw _ (List.mem_of_getElem? (i := 16) rfl)) (hw _ (List.mem_of_getElem? (i := 3) rfl)) (hw _ (List.mem_of_getElem? (i := 18) rfl)) (by decide) (own_end1 l Z a0 hw [] b95 b82 k82 (1 : Int32) [(.int (vg79.toInt8.toInt32))] (.int (0 : Int32)) h125 n0 Zs135 f132 f129 f128 (by decide)) (by decide) (by decide) (by decide) (by decide) e125 f130 (pc := 199) (Ls := #[.val (.int p0), .val (.int p1), .val (.int p2), .val (.int (0 : Int32)), .val (.int (1 : Int32)), .val (.ref b71), .val (.int vg79), .val (.int vg80), .val (.int vg81), .val (.ref b82), .val (.ref b95), .val (.ref x112), .unset]) (st := [(.ref b95)]) (argsL := []) (rest := []) (by rw [hml]; rfl) (lenOf own_pd1 rfl) rfl rfl (Nat.le_of_eq rfl) (hb hby at_199)
      obtain ⟨x136, rfl, K136, zf_x136, o136_0, o136_1⟩ := hq136
      refine own_via st136 ?_
      have ne137 : b71 ≠ x136 := Nat.ne_of_lt (Nat.lt_of_lt_of_le f126.lt zf_x136)
      have ne138 : b82 ≠ x136 := Nat.ne_of_lt (Nat.lt_of_lt_of_le f128.lt zf_x136)
      have ne139 : b95 ≠ x136 := Nat.ne_of_lt (Nat.lt_of_lt_of_le f130.lt zf_x136)
      have ne140 : x112 ≠ x136 := Nat.ne_of_lt (Nat.lt_of_lt_of_le f133.lt zf_x136)
      have g_x136 : n0 ≤ x136 := Nat.le_trans Zs135 zf_x136
      have f141 : Exa Z h136 b71 "[B" := f126.ext (own_ke K136)
      have f142 : Arv Z h136 b71 k71 .byte (1 : Int32) [(.int ((((p0.toUInt32 >>> ((24 : Int32) &&& 31).toUInt32).toInt32).toInt8.toInt32).toInt8.toInt32))] (.int (0 : Int32)) := f127.ext (own_ke K136)
      have f143 : Exa Z h136 b82 "[B" := f128.ext (own_ke K136)
      have f144 : Arv Z h136 b82 k82 .byte (1 : Int32) [(.int (vg79.toInt8.toInt32))] (.int (0 : Int32)) := f129.ext (own_ke K136)
      have f145 : Exa Z h136 b95 "com/example/clementi/clementi/store/KeyRange" := f130.ext (own_ke K136)
      have f146 : Fld Z h136 b95 "com/example/clementi/clementi/store/KeyRange" "prefix" "[B" (.ref b71) := f131.ext (own_ke K136)
      have f147 : Fld Z h136 b95 "com/example/clementi/clementi/store/KeyRange" "end" "[B" (.ref b82) := f132.ext (own_ke K136)
      have f148 : Exa Z h136 x112 "[B" := f133.ext (own_ke K136)
      have f149 : Arv Z h136 x112 k82 .byte (1 : Int32) [(.int ((((vg79.toInt8.toInt32) + (1 : Int32)).toInt8.toInt32).toInt8.toInt32))] (.int (0 : Int32)) := f134.ext (own_ke K136)
      have Zs150 : n0 ≤ h136.size := Nat.le_trans Zs135 K136.1
      show own_G p e below _ (T136.setTop (mkF m 202 #[.val (.int p0), .val (.int p1), .val (.int p2), .val (.int (0 : Int32)), .val (.int (1 : Int32)), .val (.ref b71), .val (.int vg79), .val (.int vg80), .val (.int vg81), .val (.ref b82), .val (.ref b95), .val (.ref x112), .unset] [(.ref x136)]))
      refine own_via (fun t k => XS.astore X136.here hx rfl (hb hby at_202) rfl rfl (l' := #[.val (.int p0), .val (.int p1), .val (.int p2), .val (.int (0 : Int32)), .val (.int (1 : Int32)), .val (.ref b71), .val (.int vg79), .val (.int vg80), .val (.int vg81), .val (.ref b82), .val (.ref b95), .val (.ref x112), .val (.ref x136)]) rfl k) ?_
      show own_G p e below _ (T136.setTop (mkF m 204 #[.val (.int p0), .val (.int p1), .val (.int p2), .val (.int (0 : Int32)), .val (.int (1 : Int32)), .val (.ref b71), .val (.int vg79), .val (.int vg80), .val (.int vg81), .val (.ref b82), .val (.ref b95), .val (.ref x112), .val (.ref x136)] []))
      refine own_via (fun t k => XS.aload X136.here hx rfl (hb hby at_204) rfl rfl k) ?_
      show own_G p e below _ (T136.setTop (mkF m 206 #[.val (.int p0), .val (.int p1), .val (.int p2), .val (.int (0 : Int32)), .val (.int (1 : Int32)), .val (.ref b71), .val (.int vg79), .val (.int vg80), .val (.int vg81), .val (.ref b82), .val (.ref b95), .val (.ref x112), .val (.ref x136)] [(.ref x136)]))
      refine own_via (fun t k => XS.ifnullNo X136.here hx rfl (hb hby at_206) rfl k) ?_
      show own_G p e below _ (T136.setTop (mkF m 209 #[.val (.int p0), .val (.int p1), .val (.int p2), .val (.int (0 : Int32)), .val (.int (1 : Int32)), .val (.ref b71), .val (.int vg79), .val (.int vg80), .val (.int vg81), .val (.ref b82), .val (.ref b95), .val (.ref x112), .val (.ref x136)] []))
      refine own_via (fun t k => XS.aload X136.here hx rfl (hb hby at_209) rfl rfl k) ?_
      show own_G p e below _ (T136.setTop (mkF m 211 #[.val (.int p0), .val (.int p1), .val (.int p2), .val (.int (0 : Int32)), .val (.int (1 : Int32)), .val (.ref b71), .val (.int vg79), .val (.int vg80), .val (.int vg81), .val (.ref b82), .val (.ref b95), .val (.ref x112), .val (.ref x136)] [(.ref x136)]))
      refine own_via (fun t k => XS.aload X136.here hx rfl (hb hby at_211) rfl rfl k) ?_
      show own_G p e below _ (T136.setTop (mkF m 213 #[.val (.int p0), .val (.int p1), .val (.int p2), .val (.int (0 : Int32)), .val (.int (1 : Int32)), .val (.ref b71), .val (.int vg79), .val (.int vg80), .val (.int vg81), .val (.ref b82), .val (.ref b95), .val (.ref x112), .val (.ref x136)] [(.ref x112), (.ref x136)]))
      refine own_via (fun t k => Jvm.RoadKit.acmp (g := (mkF m 213 #[.val (.int p0), .val (.int p1), .val (.int p2), .val (.int (0 : Int32)), .val (.int (1 : Int32)), .val (.ref b71), .val (.int vg79), .val (.int vg80), .val (.int vg81), .val (.ref b82), .val (.ref b95), .val (.ref x112), .val (.ref x136)] [(.ref x112), (.ref x136)])) X136 hx rfl rfl rfl (pc0 := 213) (pc' := 216) (same := false) rfl (hb hby at_213) rfl (decide_eq_false fun q => (Ne.symm ne140) (Value.ref.inj q)) (by decide) (by decide) k) ?_
      show own_G p e below _ (T136.setTop (mkF m 216 #[.val (.int p0), .val (.int p1), .val (.int p2), .val (.int (0 : Int32)), .val (.int (1 : Int32)), .val (.ref b71), .val (.int vg79), .val (.int vg80), .val (.int vg81), .val (.ref b82), .val (.ref b95), .val (.ref x112), .val (.ref x136)] []))
      refine own_via (fun t k => XS.aload X136.here hx rfl (hb hby at_216) rfl rfl k) ?_
      show own_G p e below _ (T136.setTop (mkF m 218 #[.val (.int p0), .val (.int p1), .val (.int p2), .val (.int (0 : Int32)), .val (.int (1 : Int32)), .val (.ref b71), .val (.int vg79), .val (.int vg80), .val (.int vg81), .val (.ref b82), .val (.ref b95), .val (.ref x112), .val (.ref x136)] [(.ref x136)]))
      refine own_via (fun t k => XS.aload X136.here hx rfl (hb hby at_218) rfl rfl k) ?_
      show own_G p e below _ (T136.setTop (mkF m 220 #[.val (.int p0), .val (.int p1), .val (.int p2), .val (.int (0 : Int32)), .val (.int (1 : Int32)), .val (.ref b71), .val (.int vg79), .val (.int vg80), .val (.int vg81), .val (.ref b82), .val (.ref b95), .val (.ref x112), .val (.ref x136)] [(.ref b82), (.ref x136)]))
      refine own_via (fun t k => Jvm.RoadKit.acmp (g := (mkF m 220 #[.val (.int p0), .val (.int p1), .val (.int p2), .val (.int (0 : Int32)), .val (.int (1 : Int32)), .val (.ref b71), .val (.int vg79), .val (.int vg80), .val (.int vg81), .val (.ref b82), .val (.ref b95), .val (.ref x112), .val (.ref x136)] [(.ref b82), (.ref x136)])) X136 hx rfl rfl rfl (pc0 := 220) (pc' := 223) (same := false) rfl (hb hby at_220) rfl (decide_eq_false fun q => (Ne.symm ne138) (Value.ref.inj q)) (by decide) (by decide) k) ?_
      show own_G p e below _ (T136.setTop (mkF m 223 #[.val (.int p0), .val (.int p1), .val (.int p2), .val (.int (0 : Int32)), .val (.int (1 : Int32)), .val (.ref b71), .val (.int vg79), .val (.int vg80), .val (.int vg81), .val (.ref b82), .val (.ref b95), .val (.ref x112), .val (.ref x136)] []))
      refine own_via (fun t k => XS.aload X136.here hx rfl (hb hby at_223) rfl rfl k) ?_
      show own_G p e below _ (T136.setTop (mkF m 225 #[.val (.int p0), .val (.int p1), .val (.int p2), .val (.int (0 : Int32)), .val (.int (1 : Int32)), .val (.ref b71), .val (.int vg79), .val (.int vg80), .val (.int vg81), .val (.ref b82), .val (.ref b95), .val (.ref x112), .val (.ref x136)] [(.ref x136)]))
      refine own_via (own_len X136 hx hZ e136 o136_0 (pc := 225) (Ls := #[.val (.int p0), .val (.int p1), .val (.int p2), .val (.int (0 : Int32)), .val (.int (1 : Int32)), .val (.ref b71), .val (.int vg79), .val (.int vg80), .val (.int vg81), .val (.ref b82), .val (.ref b95), .val (.ref x112), .val (.ref x136)]) (rest := []) (hb hby at_225)) ?_
      show own_G p e below _ (T136.setTop (mkF m 226 #[.val (.int p0), .val (.int p1), .val (.int p2), .val (.int (0 : Int32)), .val (.int (1 : Int32)), .val (.ref b71), .val (.int vg79), .val (.int vg80), .val (.int vg81), .val (.ref b82), .val (.ref b95), .val (.ref x112), .val (.ref x136)] [(.int (1 : Int32))]))
      refine own_via (fun t k => XS.iload X136.here hx rfl (hb hby at_226) rfl k) ?_
      show own_G p e below _ (T136.setTop (mkF m 228 #[.val (.int p0), .val (.int p1), .val (.int p2), .val (.int (0 : Int32)), .val (.int (1 : Int32)), .val (.ref b71), .val (.int vg79), .val (.int vg80), .val (.int vg81), .val (.ref b82), .val (.ref b95), .val (.ref x112), .val (.ref x136)] [(.int (1 : Int32)), (.int (1 : Int32))]))
      refine own_via (fun t k => XS.icmpNo X136.here hx rfl (hb hby at_228) rfl (teq (by decide : (1 : Int32) = (1 : Int32))).2 k) ?_
      show own_G p e below _ (T136.setTop (mkF m 231 #[.val (.int p0), .val (.int p1), .val (.int p2), .val (.int (0 : Int32)), .val (.int (1 : Int32)), .val (.ref b71), .val (.int vg79), .val (.int vg80), .val (.int vg81), .val (.ref b82), .val (.ref b95), .val (.ref x112), .val (.ref x136)] []))
      refine own_via (fun t k => XS.aload X136.here hx rfl (hb hby at_231) rfl rfl k) ?_
      show own_G p e below _ (T136.setTop (mkF m 233 #[.val (.int p0), .val (.int p1), .val (.int p2), .val (.int (0 : Int32)), .val (.int (1 : Int32)), .val (.ref b71), .val (.int vg79), .val (.int vg80), .val (.int vg81), .val (.ref b82), .val (.ref b95), .val (.ref x112), .val (.ref x136)] [(.ref x136)]))
      refine own_via (fun t k => XS.iload X136.here hx rfl (hb hby at_233) rfl k) ?_
      show own_G p e below _ (T136.setTop (mkF m 235 #[.val (.int p0), .val (.int p1), .val (.int p2), .val (.int (0 : Int32)), .val (.int (1 : Int32)), .val (.ref b71), .val (.int vg79), .val (.int vg80), .val (.int vg81), .val (.ref b82), .val (.ref b95), .val (.ref x112), .val (.ref x136)] [(.int (1 : Int32)), (.ref x136)]))
      refine own_via (fun t k => XS.iload X136.here hx rfl (hb hby at_235) rfl k) ?_
      show own_G p e below _ (T136.setTop (mkF m 237 #[.val (.int p0), .val (.int p1), .val (.int p2), .val (.int (0 : Int32)), .val (.int (1 : Int32)), .val (.ref b71), .val (.int vg79), .val (.int vg80), .val (.int vg81), .val (.ref b82), .val (.ref b95), .val (.ref x112), .val (.ref x136)] [(.int vg79), (.int (1 : Int32)), (.ref x136)]))
      refine own_via (fun t k => XS.iload X136.here hx rfl (hb hby at_237) rfl k) ?_
      show own_G p e below _ (T136.setTop (mkF m 239 #[.val (.int p0), .val (.int p1), .val (.int p2), .val (.int (0 : Int32)), .val (.int (1 : Int32)), .val (.ref b71), .val (.int vg79), .val (.int vg80), .val (.int vg81), .val (.ref b82), .val (.ref b95), .val (.ref x112), .val (.ref x136)] [(.int vg80), (.int vg79), (.int (1 : Int32)), (.ref x136)]))
      refine own_via (fun t k => XS.iload X136.here hx rfl (hb hby at_239) rfl k) ?_
      show own_G p e below _ (T136.setTop (mkF m 241 #[.val (.int p0), .val (.int p1), .val (.int p2), .val (.int (0 : Int32)), .val (.int (1 : Int32)), .val (.ref b71), .val (.int vg79), .val (.int vg80), .val (.int vg81), .val (.ref b82), .val (.ref b95), .val (.ref x112), .val (.ref x136)] [(.int vg81), (.int vg80), (.int vg79), (.int (1 : Int32)), (.ref x136)]))
      obtain ⟨T151, X151, e151, st151⟩ := own_callP (y := (⟨"com/example/clementi/clementi/store/KeyRangeEndPinLaw", "same", "([BIBBB)Z"⟩ : MethodName)) (W := 0) X136 hx hZ hown (hw _ (List.mem_of_getElem? (i := 28) rfl)) (hw _ (List.mem_of_getElem? (i := 29) rfl)) (hw _ (List.mem_of_getElem? (i := 30) rfl)) (hw _ (List.mem_of_getElem? (i := 31) rfl)) (by decide) (own_same1 l Z a0 hw [] x136 vg79 vg80 vg81 k82 (vg79.toInt8.toInt32) h136 o136_0 (own_i2b hvg79)) (by decide) (by decide) rfl rfl (by decide) (by decide) e136 (pc := 241) (Ls := #[.val (.int p0), .val (.int p1), .val (.int p2), .val (.int (0 : Int32)), .val (.int (1 : Int32)), .val (.ref b71), .val (.int vg79), .val (.int vg80), .val (.int vg81), .val (.ref b82), .val (.ref b95), .val (.ref x112), .val (.ref x136)]) (st := [(.int vg81), (.int vg80), (.int vg79), (.int (1 : Int32)), (.ref x136)]) (argsL := [(.ref x136), (.int (1 : Int32)), (.int vg79), (.int vg80), (.int vg81)]) (rest := []) (by rw [hml]; rfl) (lenOf own_pd2 rfl) rfl rfl (Nat.le_of_eq rfl) (hb hby at_241)
      refine own_via st151 ?_
      show own_G p e below _ (T151.setTop (mkF m 244 #[.val (.int p0), .val (.int p1), .val (.int p2), .val (.int (0 : Int32)), .val (.int (1 : Int32)), .val (.ref b71), .val (.int vg79), .val (.int vg80), .val (.int vg81), .val (.ref b82), .val (.ref b95), .val (.ref x112), .val (.ref x136)] [(.int (1 : Int32))]))
      refine own_via (fun t k => XS.ifNo X151.here hx rfl (hb hby at_244) rfl ((if0 _ _).trans (feq (by decide : ¬ ((1 : Int32) = (0 : Int32)))).1) k) ?_
      show own_G p e below _ (T151.setTop (mkF m 247 #[.val (.int p0), .val (.int p1), .val (.int p2), .val (.int (0 : Int32)), .val (.int (1 : Int32)), .val (.ref b71), .val (.int vg79), .val (.int vg80), .val (.int vg81), .val (.ref b82), .val (.ref b95), .val (.ref x112), .val (.ref x136)] []))
      refine own_via (fun t k => XS.aload X151.here hx rfl (hb hby at_247) rfl rfl k) ?_
      show own_G p e below _ (T151.setTop (mkF m 249 #[.val (.int p0), .val (.int p1), .val (.int p2), .val (.int (0 : Int32)), .val (.int (1 : Int32)), .val (.ref b71), .val (.int vg79), .val (.int vg80), .val (.int vg81), .val (.ref b82), .val (.ref b95), .val (.ref x112), .val (.ref x136)] [(.ref b82)]))
      refine own_via (fun t k => XS.iload X151.here hx rfl (hb hby at_249) rfl k) ?_
      show own_G p e below _ (T151.setTop (mkF m 251 #[.val (.int p0), .val (.int p1), .val (.int p2), .val (.int (0 : Int32)), .val (.int (1 : Int32)), .val (.ref b71), .val (.int vg79), .val (.int vg80), .val (.int vg81), .val (.ref b82), .val (.ref b95), .val (.ref x112), .val (.ref x136)] [(.int (1 : Int32)), (.ref b82)]))
      refine own_via (fun t k => XS.iload X151.here hx rfl (hb hby at_251) rfl k) ?_
      show own_G p e below _ (T151.setTop (mkF m 253 #[.val (.int p0), .val (.int p1), .val (.int p2), .val (.int (0 : Int32)), .val (.int (1 : Int32)), .val (.ref b71), .val (.int vg79), .val (.int vg80), .val (.int vg81), .val (.ref b82), .val (.ref b95), .val (.ref x112), .val (.ref x136)] [(.int vg79), (.int (1 : Int32)), (.ref b82)]))
      refine own_via (fun t k => XS.iload X151.here hx rfl (hb hby at_253) rfl k) ?_
      show own_G p e below _ (T151.setTop (mkF m 255 #[.val (.int p0), .val (.int p1), .val (.int p2), .val (.int (0 : Int32)), .val (.int (1 : Int32)), .val (.ref b71), .val (.int vg79), .val (.int vg80), .val (.int vg81), .val (.ref b82), .val (.ref b95), .val (.ref x112), .val (.ref x136)] [(.int vg80), (.int vg79), (.int (1 : Int32)), (.ref b82)]))
      refine own_via (fun t k => XS.iload X151.here hx rfl (hb hby at_255) rfl k) ?_
      show own_G p e below _ (T151.setTop (mkF m 257 #[.val (.int p0), .val (.int p1), .val (.int p2), .val (.int (0 : Int32)), .val (.int (1 : Int32)), .val (.ref b71), .val (.int vg79), .val (.int vg80), .val (.int vg81), .val (.ref b82), .val (.ref b95), .val (.ref x112), .val (.ref x136)] [(.int vg81), (.int vg80), (.int vg79), (.int (1 : Int32)), (.ref b82)]))
      obtain ⟨T152, X152, e152, st152⟩ := own_callP (y := (⟨"com/example/clementi/clementi/store/KeyRangeEndPinLaw", "same", "([BIBBB)Z"⟩ : MethodName)) (W := 0) X151 hx hZ hown (hw _ (List.mem_of_getElem? (i := 28) rfl)) (hw _ (List.mem_of_getElem? (i := 29) rfl)) (hw _ (List.mem_of_getElem? (i := 30) rfl)) (hw _ (List.mem_of_getElem? (i := 31) rfl)) (by decide) (own_same1 l Z a0 hw [] b82 vg79 vg80 vg81 k82 (vg79.toInt8.toInt32) h136 f144 (own_i2b hvg79)) (by decide) (by decide) rfl rfl (by decide) (by decide) e151 (pc := 257) (Ls := #[.val (.int p0), .val (.int p1), .val (.int p2), .val (.int (0 : Int32)), .val (.int (1 : Int32)), .val (.ref b71), .val (.int vg79), .val (.int vg80), .val (.int vg81), .val (.ref b82), .val (.ref b95), .val (.ref x112), .val (.ref x136)]) (st := [(.int vg81), (.int vg80), (.int vg79), (.int (1 : Int32)), (.ref b82)]) (argsL := [(.ref b82), (.int (1 : Int32)), (.int vg79), (.int vg80), (.int vg81)]) (rest := []) (by rw [hml]; rfl) (lenOf own_pd2 rfl) rfl rfl (Nat.le_of_eq rfl) (hb hby at_257)
      refine own_via st152 ?_
      show own_G p e below _ (T152.setTop (mkF m 260 #[.val (.int p0), .val (.int p1), .val (.int p2), .val (.int (0 : Int32)), .val (.int (1 : Int32)), .val (.ref b71), .val (.int vg79), .val (.int vg80), .val (.int vg81), .val (.ref b82), .val (.ref b95), .val (.ref x112), .val (.ref x136)] [(.int (1 : Int32))]))
      refine own_via (fun t k => XS.ifNo X152.here hx rfl (hb hby at_260) rfl ((if0 _ _).trans (feq (by decide : ¬ ((1 : Int32) = (0 : Int32)))).1) k) ?_
      show own_G p e below _ (T152.setTop (mkF m 263 #[.val (.int p0), .val (.int p1), .val (.int p2), .val (.int (0 : Int32)), .val (.int (1 : Int32)), .val (.ref b71), .val (.int vg79), .val (.int vg80), .val (.int vg81), .val (.ref b82), .val (.ref b95), .val (.ref x112), .val (.ref x136)] []))
      refine own_via (fun t k => XS.iconst X152.here hx rfl (hb hby at_263) k) ?_
      show own_G p e below _ (T152.setTop (mkF m 264 #[.val (.int p0), .val (.int p1), .val (.int p2), .val (.int (0 : Int32)), .val (.int (1 : Int32)), .val (.ref b71), .val (.int vg79), .val (.int vg80), .val (.int vg81), .val (.ref b82), .val (.ref b95), .val (.ref x112), .val (.ref x136)] [(.int (1 : Int32))]))
      refine own_via (fun t k => XS.goto X152.here hx rfl (pc0 := 264) (pc' := 268) rfl (hb hby at_264) (by decide) (by decide) k) ?_
      show own_G p e below _ (T152.setTop (mkF m 268 #[.val (.int p0), .val (.int p1), .val (.int p2), .val (.int (0 : Int32)), .val (.int (1 : Int32)), .val (.ref b71), .val (.int vg79), .val (.int vg80), .val (.int vg81), .val (.ref b82), .val (.ref b95), .val (.ref x112), .val (.ref x136)] [(.int (1 : Int32))]))
      exact own_retN (t := .boolean) X152 hx Bd.returns (by simp) Bd.notSynchronized (hb hby at_268) ⟨N136, rfl⟩ (by decide) (by decide)
    ·
      rw [hs4]
      show own_G p e below _ (s₁.setTop (mkF m 15 #[.val (.int p0), .val (.int p1), .val (.int p2), .val (.int (0 : Int32)), .unset, .unset, .unset, .unset, .unset, .unset, .unset, .unset, .unset] [(.int (2 : Int32))]))
      refine own_via (fun t k => XS.istore X0.here hx rfl (hb hby at_15) rfl (l' := #[.val (.int p0), .val (.int p1), .val (.int p2), .val (.int (0 : Int32)), .val (.int (2 : Int32)), .unset, .unset, .unset, .unset, .unset, .unset, .unset, .unset]) rfl k) ?_
      show own_G p e below _ (s₁.setTop (mkF m 17 #[.val (.int p0), .val (.int p1), .val (.int p2), .val (.int (0 : Int32)), .val (.int (2 : Int32)), .unset, .unset, .unset, .unset, .unset, .unset, .unset, .unset] []))
      refine own_via (fun t k => XS.iconst X0.here hx rfl (hb hby at_17) k) ?_
      show own_G p e below _ (s₁.setTop (mkF m 18 #[.val (.int p0), .val (.int p1), .val (.int p2), .val (.int (0 : Int32)), .val (.int (2 : Int32)), .unset, .unset, .unset, .unset, .unset, .unset, .unset, .unset] [(.int (1 : Int32))]))
      obtain ⟨T153, h153, k153, b153, X153, e153, E153, ga153, V153, Ex153, st153⟩ := own_newA X0 hx hZ (hw _ (List.mem_of_getElem? (i := 0) rfl)) e0 (pc := 18) (Ls := #[.val (.int p0), .val (.int p1), .val (.int p2), .val (.int (0 : Int32)), .val (.int (2 : Int32)), .unset, .unset, .unset, .unset, .unset, .unset, .unset, .unset]) (rest := []) (hb hby at_18) (n := (1 : Int32)) (by decide) (cap := 1) (by decide) (by decide) (by decide) (by decide) 1 rfl
      refine own_via st153 ?_
      have f154 : Arv Z h153 b153 k153 .byte (1 : Int32) [(.int (0 : Int32))] (.int (0 : Int32)) := V153
      have f155 : Exa Z h153 b153 "[B" := Ex153
      have g_b153 : n0 ≤ b153 := Nat.le_trans Z0 (Nat.le_of_eq ga153.symm)
      have Zs156 : n0 ≤ h153.size := Nat.le_trans Z0 E153.1
      show own_G p e below _ (T153.setTop (mkF m 20 #[.val (.int p0), .val (.int p1), .val (.int p2), .val (.int (0 : Int32)), .val (.int (2 : Int32)), .unset, .unset, .unset, .unset, .unset, .unset, .unset, .unset] [(.ref b153)]))
      refine own_via (fun t k => XS.astore X153.here hx rfl (hb hby at_20) rfl rfl (l' := #[.val (.int p0), .val (.int p1), .val (.int p2), .val (.int (0 : Int32)), .val (.int (2 : Int32)), .val (.ref b153), .unset, .unset, .unset, .unset, .unset, .unset, .unset]) rfl k) ?_
      show own_G p e below _ (T153.setTop (mkF m 22 #[.val (.int p0), .val (.int p1), .val (.int p2), .val (.int (0 : Int32)), .val (.int (2 : Int32)), .val (.ref b153), .unset, .unset, .unset, .unset, .unset, .unset, .unset] []))
      refine own_via (fun t k => XS.aload X153.here hx rfl (hb hby at_22) rfl rfl k) ?_
      show own_G p e below _ (T153.setTop (mkF m 24 #[.val (.int p0), .val (.int p1), .val (.int p2), .val (.int (0 : Int32)), .val (.int (2 : Int32)), .val (.ref b153), .unset, .unset, .unset, .unset, .unset, .unset, .unset] [(.ref b153)]))
      refine own_via (fun t k => XS.iconst X153.here hx rfl (hb hby at_24) k) ?_
      show own_G p e below _ (T153.setTop (mkF m 25 #[.val (.int p0), .val (.int p1), .val (.int p2), .val (.int (0 : Int32)), .val (.int (2 : Int32)), .val (.ref b153), .unset, .unset, .unset, .unset, .unset, .unset, .unset] [(.int (0 : Int32)), (.ref b153)]))
      refine own_via (fun t k => XS.iloadN X153.here hx rfl (hb hby at_25) rfl k) ?_
      show own_G p e below _ (T153.setTop (mkF m 26 #[.val (.int p0), .val (.int p1), .val (.int p2), .val (.int (0 : Int32)), .val (.int (2 : Int32)), .val (.ref b153), .unset, .unset, .unset, .unset, .unset, .unset, .unset] [(.int p0), (.int (0 : Int32)), (.ref b153)]))
      refine own_via (fun t k => XS.bipush X153.here hx rfl (hb hby at_26) k) ?_
      show own_G p e below _ (T153.setTop (mkF m 28 #[.val (.int p0), .val (.int p1), .val (.int p2), .val (.int (0 : Int32)), .val (.int (2 : Int32)), .val (.ref b153), .unset, .unset, .unset, .unset, .unset, .unset, .unset] [(.int (24 : Int32)), (.int p0), (.int (0 : Int32)), (.ref b153)]))
      refine own_via (fun t k => XS.iushr X153.here hx rfl (hb hby at_28) rfl k) ?_
      show own_G p e below _ (T153.setTop (mkF m 29 #[.val (.int p0), .val (.int p1), .val (.int p2), .val (.int (0 : Int32)), .val (.int (2 : Int32)), .val (.ref b153), .unset, .unset, .unset, .unset, .unset, .unset, .unset] [(.int ((p0.toUInt32 >>> ((24 : Int32) &&& 31).toUInt32).toInt32)), (.int (0 : Int32)), (.ref b153)]))
      refine own_via (fun t k => XS.i2b X153.here hx rfl (hb hby at_29) rfl k) ?_
      show own_G p e below _ (T153.setTop (mkF m 30 #[.val (.int p0), .val (.int p1), .val (.int p2), .val (.int (0 : Int32)), .val (.int (2 : Int32)), .val (.ref b153), .unset, .unset, .unset, .unset, .unset, .unset, .unset] [(.int (((p0.toUInt32 >>> ((24 : Int32) &&& 31).toUInt32).toInt32).toInt8.toInt32)), (.int (0 : Int32)), (.ref b153)]))
      obtain ⟨T157, h157, L157, X157, N157, e157, W157, V157, st157⟩ := own_stB X153 N0 hx hZ e153 f154 g_b153 (j := (0 : Int32)) (x := (((p0.toUInt32 >>> ((24 : Int32) &&& 31).toUInt32).toInt32).toInt8.toInt32)) (i := 0) ⟨by decide, by decide⟩ rfl (Nat.le_of_ble_eq_true rfl) (pc := 30) (Ls := #[.val (.int p0), .val (.int p1), .val (.int p2), .val (.int (0 : Int32)), .val (.int (2 : Int32)), .val (.ref b153), .unset, .unset, .unset, .unset, .unset, .unset, .unset]) (rest := []) (hb hby at_30)
      refine own_via st157 ?_
      have f158 : Exa Z h157 b153 "[B" := f155.wr W157
      have f159 : Arv Z h157 b153 k153 .byte (1 : Int32) [(.int ((((p0.toUInt32 >>> ((24 : Int32) &&& 31).toUInt32).toInt32).toInt8.toInt32).toInt8.toInt32))] (.int (0 : Int32)) := V157
      have Zs160 : n0 ≤ h157.size := by rw [W157.size]; exact Zs156
      show own_G p e below _ (T157.setTop (mkF m 31 #[.val (.int p0), .val (.int p1), .val (.int p2), .val (.int (0 : Int32)), .val (.int (2 : Int32)), .val (.ref b153), .unset, .unset, .unset, .unset, .unset, .unset, .unset] []))
      refine own_via (fun t k => XS.iloadN X157.here hx rfl (hb hby at_31) rfl k) ?_
      show own_G p e below _ (T157.setTop (mkF m 32 #[.val (.int p0), .val (.int p1), .val (.int p2), .val (.int (0 : Int32)), .val (.int (2 : Int32)), .val (.ref b153), .unset, .unset, .unset, .unset, .unset, .unset, .unset] [(.int p0)]))
      refine own_via (fun t k => XS.i2b X157.here hx rfl (hb hby at_32) rfl k) ?_
      show own_G p e below _ (T157.setTop (mkF m 33 #[.val (.int p0), .val (.int p1), .val (.int p2), .val (.int (0 : Int32)), .val (.int (2 : Int32)), .val (.ref b153), .unset, .unset, .unset, .unset, .unset, .unset, .unset] [(.int (p0.toInt8.toInt32))]))
      generalize hvg161 : (p0.toInt8.toInt32) = vg161
      show own_G p e below _ (T157.setTop (mkF m 33 #[.val (.int p0), .val (.int p1), .val (.int p2), .val (.int (0 : Int32)), .val (.int (2 : Int32)), .val (.ref b153), .unset, .unset, .unset, .unset, .unset, .unset, .unset] [(.int vg161)]))
      refine own_via (fun t k => XS.istore X157.here hx rfl (hb hby at_33) rfl (l' := #[.val (.int p0), .val (.int p1), .val (.int p2), .val (.int (0 : Int32)), .val (.int (2 : Int32)), .val (.ref b153), .val (.int vg161), .unset, .unset, .unset, .unset, .unset, .unset]) rfl k) ?_
      show own_G p e below _ (T157.setTop (mkF m 35 #[.val (.int p0), .val (.int p1), .val (.int p2), .val (.int (0 : Int32)), .val (.int (2 : Int32)), .val (.ref b153), .val (.int vg161), .unset, .unset, .unset, .unset, .unset, .unset] []))
      refine own_via (fun t k => XS.iloadN X157.here hx rfl (hb hby at_35) rfl k) ?_
      show own_G p e below _ (T157.setTop (mkF m 36 #[.val (.int p0), .val (.int p1), .val (.int p2), .val (.int (0 : Int32)), .val (.int (2 : Int32)), .val (.ref b153), .val (.int vg161), .unset, .unset, .unset, .unset, .unset, .unset] [(.int p0)]))
      refine own_via (fun t k => XS.bipush X157.here hx rfl (hb hby at_36) k) ?_
      show own_G p e below _ (T157.setTop (mkF m 38 #[.val (.int p0), .val (.int p1), .val (.int p2), .val (.int (0 : Int32)), .val (.int (2 : Int32)), .val (.ref b153), .val (.int vg161), .unset, .unset, .unset, .unset, .unset, .unset] [(.int (8 : Int32)), (.int p0)]))
      refine own_via (fun t k => XS.ishr X157.here hx rfl (hb hby at_38) rfl k) ?_
      show own_G p e below _ (T157.setTop (mkF m 39 #[.val (.int p0), .val (.int p1), .val (.int p2), .val (.int (0 : Int32)), .val (.int (2 : Int32)), .val (.ref b153), .val (.int vg161), .unset, .unset, .unset, .unset, .unset, .unset] [(.int (p0 >>> ((8 : Int32) &&& 31)))]))
      refine own_via (fun t k => XS.i2b X157.here hx rfl (hb hby at_39) rfl k) ?_
      show own_G p e below _ (T157.setTop (mkF m 40 #[.val (.int p0), .val (.int p1), .val (.int p2), .val (.int (0 : Int32)), .val (.int (2 : Int32)), .val (.ref b153), .val (.int vg161), .unset, .unset, .unset, .unset, .unset, .unset] [(.int ((p0 >>> ((8 : Int32) &&& 31)).toInt8.toInt32))]))
      generalize hvg162 : ((p0 >>> ((8 : Int32) &&& 31)).toInt8.toInt32) = vg162
      show own_G p e below _ (T157.setTop (mkF m 40 #[.val (.int p0), .val (.int p1), .val (.int p2), .val (.int (0 : Int32)), .val (.int (2 : Int32)), .val (.ref b153), .val (.int vg161), .unset, .unset, .unset, .unset, .unset, .unset] [(.int vg162)]))
      refine own_via (fun t k => XS.istore X157.here hx rfl (hb hby at_40) rfl (l' := #[.val (.int p0), .val (.int p1), .val (.int p2), .val (.int (0 : Int32)), .val (.int (2 : Int32)), .val (.ref b153), .val (.int vg161), .val (.int vg162), .unset, .unset, .unset, .unset, .unset]) rfl k) ?_
      show own_G p e below _ (T157.setTop (mkF m 42 #[.val (.int p0), .val (.int p1), .val (.int p2), .val (.int (0 : Int32)), .val (.int (2 : Int32)), .val (.ref b153), .val (.int vg161), .val (.int vg162), .unset, .unset, .unset, .unset, .unset] []))
      refine own_via (fun t k => XS.iloadN X157.here hx rfl (hb hby at_42) rfl k) ?_
      show own_G p e below _ (T157.setTop (mkF m 43 #[.val (.int p0), .val (.int p1), .val (.int p2), .val (.int (0 : Int32)), .val (.int (2 : Int32)), .val (.ref b153), .val (.int vg161), .val (.int vg162), .unset, .unset, .unset, .unset, .unset] [(.int p0)]))
      refine own_via (fun t k => XS.bipush X157.here hx rfl (hb hby at_43) k) ?_
      show own_G p e below _ (T157.setTop (mkF m 45 #[.val (.int p0), .val (.int p1), .val (.int p2), .val (.int (0 : Int32)), .val (.int (2 : Int32)), .val (.ref b153), .val (.int vg161), .val (.int vg162), .unset, .unset, .unset, .unset, .unset] [(.int (16 : Int32)), (.int p0)]))
      refine own_via (fun t k => XS.ishr X157.here hx rfl (hb hby at_45) rfl k) ?_
      show own_G p e below _ (T157.setTop (mkF m 46 #[.val (.int p0), .val (.int p1), .val (.int p2), .val (.int (0 : Int32)), .val (.int (2 : Int32)), .val (.ref b153), .val (.int vg161), .val (.int vg162), .unset, .unset, .unset, .unset, .unset] [(.int (p0 >>> ((16 : Int32) &&& 31)))]))
      refine own_via (fun t k => XS.i2b X157.here hx rfl (hb hby at_46) rfl k) ?_
      show own_G p e below _ (T157.setTop (mkF m 47 #[.val (.int p0), .val (.int p1), .val (.int p2), .val (.int (0 : Int32)), .val (.int (2 : Int32)), .val (.ref b153), .val (.int vg161), .val (.int vg162), .unset, .unset, .unset, .unset, .unset] [(.int ((p0 >>> ((16 : Int32) &&& 31)).toInt8.toInt32))]))
      generalize hvg163 : ((p0 >>> ((16 : Int32) &&& 31)).toInt8.toInt32) = vg163
      show own_G p e below _ (T157.setTop (mkF m 47 #[.val (.int p0), .val (.int p1), .val (.int p2), .val (.int (0 : Int32)), .val (.int (2 : Int32)), .val (.ref b153), .val (.int vg161), .val (.int vg162), .unset, .unset, .unset, .unset, .unset] [(.int vg163)]))
      refine own_via (fun t k => XS.istore X157.here hx rfl (hb hby at_47) rfl (l' := #[.val (.int p0), .val (.int p1), .val (.int p2), .val (.int (0 : Int32)), .val (.int (2 : Int32)), .val (.ref b153), .val (.int vg161), .val (.int vg162), .val (.int vg163), .unset, .unset, .unset, .unset]) rfl k) ?_
      show own_G p e below _ (T157.setTop (mkF m 49 #[.val (.int p0), .val (.int p1), .val (.int p2), .val (.int (0 : Int32)), .val (.int (2 : Int32)), .val (.ref b153), .val (.int vg161), .val (.int vg162), .val (.int vg163), .unset, .unset, .unset, .unset] []))
      refine own_via (fun t k => XS.iload X157.here hx rfl (hb hby at_49) rfl k) ?_
      show own_G p e below _ (T157.setTop (mkF m 51 #[.val (.int p0), .val (.int p1), .val (.int p2), .val (.int (0 : Int32)), .val (.int (2 : Int32)), .val (.ref b153), .val (.int vg161), .val (.int vg162), .val (.int vg163), .unset, .unset, .unset, .unset] [(.int (2 : Int32))]))
      obtain ⟨T164, h164, k164, b164, X164, e164, E164, ga164, V164, Ex164, st164⟩ := own_newA X157 hx hZ (hw _ (List.mem_of_getElem? (i := 0) rfl)) e157 (pc := 51) (Ls := #[.val (.int p0), .val (.int p1), .val (.int p2), .val (.int (0 : Int32)), .val (.int (2 : Int32)), .val (.ref b153), .val (.int vg161), .val (.int vg162), .val (.int vg163), .unset, .unset, .unset, .unset]) (rest := []) (hb hby at_51) (n := (2 : Int32)) (by decide) (cap := 2) (by decide) (by decide) (by decide) (by decide) 2 rfl
      refine own_via st164 ?_
      have ne165 : b153 ≠ b164 := Nat.ne_of_lt (Nat.lt_of_lt_of_le f158.lt (Nat.le_of_eq ga164.symm))
      have f166 : Exa Z h164 b153 "[B" := f158.ext E164
      have f167 : Arv Z h164 b153 k153 .byte (1 : Int32) [(.int ((((p0.toUInt32 >>> ((24 : Int32) &&& 31).toUInt32).toInt32).toInt8.toInt32).toInt8.toInt32))] (.int (0 : Int32)) := f159.ext E164
      have f168 : Arv Z h164 b164 k164 .byte (2 : Int32) [(.int (0 : Int32)), (.int (0 : Int32))] (.int (0 : Int32)) := V164
      have f169 : Exa Z h164 b164 "[B" := Ex164
      have g_b164 : n0 ≤ b164 := Nat.le_trans Zs160 (Nat.le_of_eq ga164.symm)
      have Zs170 : n0 ≤ h164.size := Nat.le_trans Zs160 E164.1
      show own_G p e below _ (T164.setTop (mkF m 53 #[.val (.int p0), .val (.int p1), .val (.int p2), .val (.int (0 : Int32)), .val (.int (2 : Int32)), .val (.ref b153), .val (.int vg161), .val (.int vg162), .val (.int vg163), .unset, .unset, .unset, .unset] [(.ref b164)]))
      refine own_via (fun t k => XS.astore X164.here hx rfl (hb hby at_53) rfl rfl (l' := #[.val (.int p0), .val (.int p1), .val (.int p2), .val (.int (0 : Int32)), .val (.int (2 : Int32)), .val (.ref b153), .val (.int vg161), .val (.int vg162), .val (.int vg163), .val (.ref b164), .unset, .unset, .unset]) rfl k) ?_
      show own_G p e below _ (T164.setTop (mkF m 55 #[.val (.int p0), .val (.int p1), .val (.int p2), .val (.int (0 : Int32)), .val (.int (2 : Int32)), .val (.ref b153), .val (.int vg161), .val (.int vg162), .val (.int vg163), .val (.ref b164), .unset, .unset, .unset] []))
      refine own_via (fun t k => XS.iload X164.here hx rfl (hb hby at_55) rfl k) ?_
      show own_G p e below _ (T164.setTop (mkF m 57 #[.val (.int p0), .val (.int p1), .val (.int p2), .val (.int (0 : Int32)), .val (.int (2 : Int32)), .val (.ref b153), .val (.int vg161), .val (.int vg162), .val (.int vg163), .val (.ref b164), .unset, .unset, .unset] [(.int (2 : Int32))]))
      refine own_via (fun t k => XS.ifNo X164.here hx rfl (hb hby at_57) rfl ((if0 _ _).trans (tlt (by decide : (0 : Int32) < (2 : Int32))).2.2.2) k) ?_
      show own_G p e below _ (T164.setTop (mkF m 60 #[.val (.int p0), .val (.int p1), .val (.int p2), .val (.int (0 : Int32)), .val (.int (2 : Int32)), .val (.ref b153), .val (.int vg161), .val (.int vg162), .val (.int vg163), .val (.ref b164), .unset, .unset, .unset] []))
      refine own_via (fun t k => XS.aload X164.here hx rfl (hb hby at_60) rfl rfl k) ?_
      show own_G p e below _ (T164.setTop (mkF m 62 #[.val (.int p0), .val (.int p1), .val (.int p2), .val (.int (0 : Int32)), .val (.int (2 : Int32)), .val (.ref b153), .val (.int vg161), .val (.int vg162), .val (.int vg163), .val (.ref b164), .unset, .unset, .unset] [(.ref b164)]))
      refine own_via (fun t k => XS.iconst X164.here hx rfl (hb hby at_62) k) ?_
      show own_G p e below _ (T164.setTop (mkF m 63 #[.val (.int p0), .val (.int p1), .val (.int p2), .val (.int (0 : Int32)), .val (.int (2 : Int32)), .val (.ref b153), .val (.int vg161), .val (.int vg162), .val (.int vg163), .val (.ref b164), .unset, .unset, .unset] [(.int (0 : Int32)), (.ref b164)]))
      refine own_via (fun t k => XS.iload X164.here hx rfl (hb hby at_63) rfl k) ?_
      show own_G p e below _ (T164.setTop (mkF m 65 #[.val (.int p0), .val (.int p1), .val (.int p2), .val (.int (0 : Int32)), .val (.int (2 : Int32)), .val (.ref b153), .val (.int vg161), .val (.int vg162), .val (.int vg163), .val (.ref b164), .unset, .unset, .unset] [(.int vg161), (.int (0 : Int32)), (.ref b164)]))
      obtain ⟨T171, h171, L171, X171, N171, e171, W171, V171, st171⟩ := own_stB X164 N157 hx hZ e164 f168 g_b164 (j := (0 : Int32)) (x := vg161) (i := 0) ⟨by decide, by decide⟩ rfl (Nat.le_of_ble_eq_true rfl) (pc := 65) (Ls := #[.val (.int p0), .val (.int p1), .val (.int p2), .val (.int (0 : Int32)), .val (.int (2 : Int32)), .val (.ref b153), .val (.int vg161), .val (.int vg162), .val (.int vg163), .val (.ref b164), .unset, .unset, .unset]) (rest := []) (hb hby at_65)
      refine own_via st171 ?_
      have f172 : Exa Z h171 b153 "[B" := f166.wr W171
      have f173 : Arv Z h171 b153 k153 .byte (1 : Int32) [(.int ((((p0.toUInt32 >>> ((24 : Int32) &&& 31).toUInt32).toInt32).toInt8.toInt32).toInt8.toInt32))] (.int (0 : Int32)) := f167.other W171 ne165
      have f174 : Exa Z h171 b164 "[B" := f169.wr W171
      have f175 : Arv Z h171 b164 k164 .byte (2 : Int32) [(.int (vg161.toInt8.toInt32)), (.int (0 : Int32))] (.int (0 : Int32)) := V171
      have Zs176 : n0 ≤ h171.size := by rw [W171.size]; exact Zs170
      show own_G p e below _ (T171.setTop (mkF m 66 #[.val (.int p0), .val (.int p1), .val (.int p2), .val (.int (0 : Int32)), .val (.int (2 : Int32)), .val (.ref b153), .val (.int vg161), .val (.int vg162), .val (.int vg163), .val (.ref b164), .unset, .unset, .unset] []))
      refine own_via (fun t k => XS.iload X171.here hx rfl (hb hby at_66) rfl k) ?_
      show own_G p e below _ (T171.setTop (mkF m 68 #[.val (.int p0), .val (.int p1), .val (.int p2), .val (.int (0 : Int32)), .val (.int (2 : Int32)), .val (.ref b153), .val (.int vg161), .val (.int vg162), .val (.int vg163), .val (.ref b164), .unset, .unset, .unset] [(.int (2 : Int32))]))
      refine own_via (fun t k => XS.iconst X171.here hx rfl (hb hby at_68) k) ?_
      show own_G p e below _ (T171.setTop (mkF m 69 #[.val (.int p0), .val (.int p1), .val (.int p2), .val (.int (0 : Int32)), .val (.int (2 : Int32)), .val (.ref b153), .val (.int vg161), .val (.int vg162), .val (.int vg163), .val (.ref b164), .unset, .unset, .unset] [(.int (1 : Int32)), (.int (2 : Int32))]))
      refine own_via (fun t k => XS.icmpNo X171.here hx rfl (hb hby at_69) rfl (tlt (by decide : (1 : Int32) < (2 : Int32))).2.2.2 k) ?_
      show own_G p e below _ (T171.setTop (mkF m 72 #[.val (.int p0), .val (.int p1), .val (.int p2), .val (.int (0 : Int32)), .val (.int (2 : Int32)), .val (.ref b153), .val (.int vg161), .val (.int vg162), .val (.int vg163), .val (.ref b164), .unset, .unset, .unset] []))
      refine own_via (fun t k => XS.aload X171.here hx rfl (hb hby at_72) rfl rfl k) ?_
      show own_G p e below _ (T171.setTop (mkF m 74 #[.val (.int p0), .val (.int p1), .val (.int p2), .val (.int (0 : Int32)), .val (.int (2 : Int32)), .val (.ref b153), .val (.int vg161), .val (.int vg162), .val (.int vg163), .val (.ref b164), .unset, .unset, .unset] [(.ref b164)]))
      refine own_via (fun t k => XS.iconst X171.here hx rfl (hb hby at_74) k) ?_
      show own_G p e below _ (T171.setTop (mkF m 75 #[.val (.int p0), .val (.int p1), .val (.int p2), .val (.int (0 : Int32)), .val (.int (2 : Int32)), .val (.ref b153), .val (.int vg161), .val (.int vg162), .val (.int vg163), .val (.ref b164), .unset, .unset, .unset] [(.int (1 : Int32)), (.ref b164)]))
      refine own_via (fun t k => XS.iload X171.here hx rfl (hb hby at_75) rfl k) ?_
      show own_G p e below _ (T171.setTop (mkF m 77 #[.val (.int p0), .val (.int p1), .val (.int p2), .val (.int (0 : Int32)), .val (.int (2 : Int32)), .val (.ref b153), .val (.int vg161), .val (.int vg162), .val (.int vg163), .val (.ref b164), .unset, .unset, .unset] [(.int vg162), (.int (1 : Int32)), (.ref b164)]))
      obtain ⟨T177, h177, L177, X177, N177, e177, W177, V177, st177⟩ := own_stB X171 N171 hx hZ e171 f175 g_b164 (j := (1 : Int32)) (x := vg162) (i := 1) ⟨by decide, by decide⟩ rfl (Nat.le_of_ble_eq_true rfl) (pc := 77) (Ls := #[.val (.int p0), .val (.int p1), .val (.int p2), .val (.int (0 : Int32)), .val (.int (2 : Int32)), .val (.ref b153), .val (.int vg161), .val (.int vg162), .val (.int vg163), .val (.ref b164), .unset, .unset, .unset]) (rest := []) (hb hby at_77)
      refine own_via st177 ?_
      have f178 : Exa Z h177 b153 "[B" := f172.wr W177
      have f179 : Arv Z h177 b153 k153 .byte (1 : Int32) [(.int ((((p0.toUInt32 >>> ((24 : Int32) &&& 31).toUInt32).toInt32).toInt8.toInt32).toInt8.toInt32))] (.int (0 : Int32)) := f173.other W177 ne165
      have f180 : Exa Z h177 b164 "[B" := f174.wr W177
      have f181 : Arv Z h177 b164 k164 .byte (2 : Int32) [(.int (vg161.toInt8.toInt32)), (.int (vg162.toInt8.toInt32))] (.int (0 : Int32)) := V177
      have Zs182 : n0 ≤ h177.size := by rw [W177.size]; exact Zs176
      show own_G p e below _ (T177.setTop (mkF m 78 #[.val (.int p0), .val (.int p1), .val (.int p2), .val (.int (0 : Int32)), .val (.int (2 : Int32)), .val (.ref b153), .val (.int vg161), .val (.int vg162), .val (.int vg163), .val (.ref b164), .unset, .unset, .unset] []))
      refine own_via (fun t k => XS.iload X177.here hx rfl (hb hby at_78) rfl k) ?_
      show own_G p e below _ (T177.setTop (mkF m 80 #[.val (.int p0), .val (.int p1), .val (.int p2), .val (.int (0 : Int32)), .val (.int (2 : Int32)), .val (.ref b153), .val (.int vg161), .val (.int vg162), .val (.int vg163), .val (.ref b164), .unset, .unset, .unset] [(.int (2 : Int32))]))
      refine own_via (fun t k => XS.iconst X177.here hx rfl (hb hby at_80) k) ?_
      show own_G p e below _ (T177.setTop (mkF m 81 #[.val (.int p0), .val (.int p1), .val (.int p2), .val (.int (0 : Int32)), .val (.int (2 : Int32)), .val (.ref b153), .val (.int vg161), .val (.int vg162), .val (.int vg163), .val (.ref b164), .unset, .unset, .unset] [(.int (2 : Int32)), (.int (2 : Int32))]))
      refine own_via (fun t k => XS.icmpYes X177.here hx rfl (pc0 := 81) (pc' := 90) rfl (hb hby at_81) rfl (flt (by decide : ¬ ((2 : Int32) < (2 : Int32)))).2.2.2 (by decide) (by decide) k) ?_
      show own_G p e below _ (T177.setTop (mkF m 90 #[.val (.int p0), .val (.int p1), .val (.int p2), .val (.int (0 : Int32)), .val (.int (2 : Int32)), .val (.ref b153), .val (.int vg161), .val (.int vg162), .val (.int vg163), .val (.ref b164), .unset, .unset, .unset] []))
      obtain ⟨T183, h183, b183, X183, e183, E183, ga183, A183, D183, st183⟩ := own_newO X177 hx hZ hown (hw _ (List.mem_of_getElem? (i := 1) rfl)) (hw _ (List.mem_of_getElem? (i := 2) rfl)) (hw _ (List.mem_of_getElem? (i := 3) rfl)) e177 (pc := 90) (Ls := #[.val (.int p0), .val (.int p1), .val (.int p2), .val (.int (0 : Int32)), .val (.int (2 : Int32)), .val (.ref b153), .val (.int vg161), .val (.int vg162), .val (.int vg163), .val (.ref b164), .unset, .unset, .unset]) (rest := []) (hb hby at_90) (by decide) (by decide)
      refine own_via st183 ?_
      have ne184 : b153 ≠ b183 := Nat.ne_of_lt (Nat.lt_of_lt_of_le f178.lt (Nat.le_of_eq ga183.symm))
      have ne185 : b164 ≠ b183 := Nat.ne_of_lt (Nat.lt_of_lt_of_le f180.lt (Nat.le_of_eq ga183.symm))
      have f186 : Exa Z h183 b153 "[B" := f178.ext E183
      have f187 : Arv Z h183 b153 k153 .byte (1 : Int32) [(.int ((((p0.toUInt32 >>> ((24 : Int32) &&& 31).toUInt32).toInt32).toInt8.toInt32).toInt8.toInt32))] (.int (0 : Int32)) := f179.ext E183
      have f188 : Exa Z h183 b164 "[B" := f180.ext E183
      have f189 : Arv Z h183 b164 k164 .byte (2 : Int32) [(.int (vg161.toInt8.toInt32)), (.int (vg162.toInt8.toInt32))] (.int (0 : Int32)) := f181.ext E183
      have f190 : Fld Z h183 b183 "com/example/clementi/clementi/store/KeyRange" "prefix" "[B" .null := D183 (Or.inr (hw _ (List.mem_of_getElem? (i := 11) rfl))) (ty := (.array .byte)) (by decide)
      have f191 : Fld Z h183 b183 "com/example/clementi/clementi/store/KeyRange" "end" "[B" .null := D183 (Or.inr (hw _ (List.mem_of_getElem? (i := 13) rfl))) (ty := (.array .byte)) (by decide)
      have g_b183 : n0 ≤ b183 := Nat.le_trans Zs182 (Nat.le_of_eq ga183.symm)
      have Zs192 : n0 ≤ h183.size := Nat.le_trans Zs182 E183.1
      show own_G p e below _ (T183.setTop (mkF m 93 #[.val (.int p0), .val (.int p1), .val (.int p2), .val (.int (0 : Int32)), .val (.int (2 : Int32)), .val (.ref b153), .val (.int vg161), .val (.int vg162), .val (.int vg163), .val (.ref b164), .unset, .unset, .unset] [(.ref b183)]))
      refine own_via (fun t k => XS.dup X183.here hx rfl (hb hby at_93) rfl rfl k) ?_
      show own_G p e below _ (T183.setTop (mkF m 94 #[.val (.int p0), .val (.int p1), .val (.int p2), .val (.int (0 : Int32)), .val (.int (2 : Int32)), .val (.ref b153), .val (.int vg161), .val (.int vg162), .val (.int vg163), .val (.ref b164), .unset, .unset, .unset] [(.ref b183), (.ref b183)]))
      refine own_via (fun t k => XS.aload X183.here hx rfl (hb hby at_94) rfl rfl k) ?_
      show own_G p e below _ (T183.setTop (mkF m 96 #[.val (.int p0), .val (.int p1), .val (.int p2), .val (.int (0 : Int32)), .val (.int (2 : Int32)), .val (.ref b153), .val (.int vg161), .val (.int vg162), .val (.int vg163), .val (.ref b164), .unset, .unset, .unset] [(.ref b153), (.ref b183), (.ref b183)]))
      refine own_via (fun t k => XS.iloadN X183.here hx rfl (hb hby at_96) rfl k) ?_
      show own_G p e below _ (T183.setTop (mkF m 97 #[.val (.int p0), .val (.int p1), .val (.int p2), .val (.int (0 : Int32)), .val (.int (2 : Int32)), .val (.ref b153), .val (.int vg161), .val (.int vg162), .val (.int vg163), .val (.ref b164), .unset, .unset, .unset] [(.int (0 : Int32)), (.ref b153), (.ref b183), (.ref b183)]))
      refine own_via (fun t k => XS.ifYes X183.here hx rfl (pc0 := 97) (pc' := 104) rfl (hb hby at_97) rfl ((if0 _ _).trans (teq (by decide : (0 : Int32) = (0 : Int32))).1) (by decide) (by decide) k) ?_
      show own_G p e below _ (T183.setTop (mkF m 104 #[.val (.int p0), .val (.int p1), .val (.int p2), .val (.int (0 : Int32)), .val (.int (2 : Int32)), .val (.ref b153), .val (.int vg161), .val (.int vg162), .val (.int vg163), .val (.ref b164), .unset, .unset, .unset] [(.ref b153), (.ref b183), (.ref b183)]))
      refine own_via (fun t k => XS.aload X183.here hx rfl (hb hby at_104) rfl rfl k) ?_
      show own_G p e below _ (T183.setTop (mkF m 106 #[.val (.int p0), .val (.int p1), .val (.int p2), .val (.int (0 : Int32)), .val (.int (2 : Int32)), .val (.ref b153), .val (.int vg161), .val (.int vg162), .val (.int vg163), .val (.ref b164), .unset, .unset, .unset] [(.ref b164), (.ref b153), (.ref b183), (.ref b183)]))
      obtain ⟨v193, T193, h193, L193, X193, N193, e193, hq193, st193⟩ := own_callI (y := (⟨"com/example/clementi/clementi/store/KeyRange", "<init>", "([B[B)V"⟩ : MethodName)) (W := 1) (a := b183) X183 N177 hx hZ rfl hown (hw _ (List.mem_of_getElem? (i := 4) rfl)) (hw _ (List.mem_of_getElem? (i := 5) rfl)) (hw _ (List.mem_of_getElem? (i := 3) rfl)) (hw _ (List.mem_of_getElem? (i := 6) rfl)) (by decide) (own_init0 l Z a0 hw [] b183 b153 b164 (.null) (.null) h183 n0 Zs192 A183 f190 f191 g_b183) (by decide) (by decide) (by decide) (by decide) e183 (pc := 106) (Ls := #[.val (.int p0), .val (.int p1), .val (.int p2), .val (.int (0 : Int32)), .val (.int (2 : Int32)), .val (.ref b153), .val (.int vg161), .val (.int vg162), .val (.int vg163), .val (.ref b164), .unset, .unset, .unset]) (st := [(.ref b164), (.ref b153), (.ref b183), (.ref b183)]) (argsL := [(.ref b153), (.ref b164)]) (rest := [(.ref b183)]) (by rw [hml]; rfl) (lenOf own_pd0 rfl) rfl rfl (Nat.le_of_eq rfl) (hb hby at_106)
      obtain ⟨rfl, K193, o193_0, o193_1, o193_2⟩ := hq193
      refine own_via st193 ?_
      have f194 : Exa Z h193 b153 "[B" := f186.keep K193
      have f195 : Arv Z h193 b153 k153 .byte (1 : Int32) [(.int ((((p0.toUInt32 >>> ((24 : Int32) &&& 31).toUInt32).toInt32).toInt8.toInt32).toInt8.toInt32))] (.int (0 : Int32)) := f187.keep K193 (by simp only [List.mem_cons, List.not_mem_nil, or_false, not_or]; exact ne184)
      have f196 : Exa Z h193 b164 "[B" := f188.keep K193
      have f197 : Arv Z h193 b164 k164 .byte (2 : Int32) [(.int (vg161.toInt8.toInt32)), (.int (vg162.toInt8.toInt32))] (.int (0 : Int32)) := f189.keep K193 (by simp only [List.mem_cons, List.not_mem_nil, or_false, not_or]; exact ne185)
      have f198 : Exa Z h193 b183 "com/example/clementi/clementi/store/KeyRange" := A183.keep K193
      have Zs199 : n0 ≤ h193.size := Nat.le_trans Zs192 K193.1
      show own_G p e below _ (T193.setTop (mkF m 109 #[.val (.int p0), .val (.int p1), .val (.int p2), .val (.int (0 : Int32)), .val (.int (2 : Int32)), .val (.ref b153), .val (.int vg161), .val (.int vg162), .val (.int vg163), .val (.ref b164), .unset, .unset, .unset] [(.ref b183)]))
      refine own_via (fun t k => XS.astore X193.here hx rfl (hb hby at_109) rfl rfl (l' := #[.val (.int p0), .val (.int p1), .val (.int p2), .val (.int (0 : Int32)), .val (.int (2 : Int32)), .val (.ref b153), .val (.int vg161), .val (.int vg162), .val (.int vg163), .val (.ref b164), .val (.ref b183), .unset, .unset]) rfl k) ?_
      show own_G p e below _ (T193.setTop (mkF m 111 #[.val (.int p0), .val (.int p1), .val (.int p2), .val (.int (0 : Int32)), .val (.int (2 : Int32)), .val (.ref b153), .val (.int vg161), .val (.int vg162), .val (.int vg163), .val (.ref b164), .val (.ref b183), .unset, .unset] []))
      refine own_via (fun t k => XS.aload X193.here hx rfl (hb hby at_111) rfl rfl k) ?_
      show own_G p e below _ (T193.setTop (mkF m 113 #[.val (.int p0), .val (.int p1), .val (.int p2), .val (.int (0 : Int32)), .val (.int (2 : Int32)), .val (.ref b153), .val (.int vg161), .val (.int vg162), .val (.int vg163), .val (.ref b164), .val (.ref b183), .unset, .unset] [(.ref b183)]))
      obtain ⟨v200, T200, h200, L200, X200, N200, e200, hq200, st200⟩ := own_callV (y := (⟨"com/example/clementi/clementi/store/KeyRange", "end", "()[B"⟩ : MethodName)) (z := (⟨"com/example/clementi/clementi/store/KeyRange", "end", "()[B"⟩ : MethodName)) (W := 0) (a := b183) X193 N193 hx hZ hown (hw _ (List.mem_of_getElem? (i := 14) rfl)) (hw _ (List.mem_of_getElem? (i := 15) rfl)) (notFace_of_selects (args := #[]) (mvT hZ (hw _ (List.mem_of_getElem? (i := 17) rfl)))) (hw _ (List.mem_of_getElem? (i := 17) rfl)) (hw _ (List.mem_of_getElem? (i := 16) rfl)) (hw _ (List.mem_of_getElem? (i := 3) rfl)) (hw _ (List.mem_of_getElem? (i := 18) rfl)) (by decide) (own_end1 l Z a0 hw [] b183 b164 k164 (2 : Int32) [(.int (vg161.toInt8.toInt32)), (.int (vg162.toInt8.toInt32))] (.int (0 : Int32)) h193 n0 Zs199 o193_2 f197 f196 (by decide)) (by decide) (by decide) (by decide) (by decide) e193 o193_0 (pc := 113) (Ls := #[.val (.int p0), .val (.int p1), .val (.int p2), .val (.int (0 : Int32)), .val (.int (2 : Int32)), .val (.ref b153), .val (.int vg161), .val (.int vg162), .val (.int vg163), .val (.ref b164), .val (.ref b183), .unset, .unset]) (st := [(.ref b183)]) (argsL := []) (rest := []) (by rw [hml]; rfl) (lenOf own_pd1 rfl) rfl rfl (Nat.le_of_eq rfl) (hb hby at_113)
      obtain ⟨x200, rfl, K200, zf_x200, o200_0, o200_1⟩ := hq200
      refine own_via st200 ?_
      have ne201 : b153 ≠ x200 := Nat.ne_of_lt (Nat.lt_of_lt_of_le f194.lt zf_x200)
      have ne202 : b164 ≠ x200 := Nat.ne_of_lt (Nat.lt_of_lt_of_le f196.lt zf_x200)
      have ne203 : b183 ≠ x200 := Nat.ne_of_lt (Nat.lt_of_lt_of_le o193_0.lt zf_x200)
      have g_x200 : n0 ≤ x200 := Nat.le_trans Zs199 zf_x200
      have f204 : Exa Z h200 b153 "[B" := f194.ext (own_ke K200)
      have f205 : Arv Z h200 b153 k153 .byte (1 : Int32) [(.int ((((p0.toUInt32 >>> ((24 : Int32) &&& 31).toUInt32).toInt32).toInt8.toInt32).toInt8.toInt32))] (.int (0 : Int32)) := f195.ext (own_ke K200)
      have f206 : Exa Z h200 b164 "[B" := f196.ext (own_ke K200)
      have f207 : Arv Z h200 b164 k164 .byte (2 : Int32) [(.int (vg161.toInt8.toInt32)), (.int (vg162.toInt8.toInt32))] (.int (0 : Int32)) := f197.ext (own_ke K200)
      have f208 : Exa Z h200 b183 "com/example/clementi/clementi/store/KeyRange" := o193_0.ext (own_ke K200)
      have f209 : Fld Z h200 b183 "com/example/clementi/clementi/store/KeyRange" "prefix" "[B" (.ref b153) := o193_1.ext (own_ke K200)
      have f210 : Fld Z h200 b183 "com/example/clementi/clementi/store/KeyRange" "end" "[B" (.ref b164) := o193_2.ext (own_ke K200)
      have Zs211 : n0 ≤ h200.size := Nat.le_trans Zs199 K200.1
      show own_G p e below _ (T200.setTop (mkF m 116 #[.val (.int p0), .val (.int p1), .val (.int p2), .val (.int (0 : Int32)), .val (.int (2 : Int32)), .val (.ref b153), .val (.int vg161), .val (.int vg162), .val (.int vg163), .val (.ref b164), .val (.ref b183), .unset, .unset] [(.ref x200)]))
      refine own_via (fun t k => XS.astore X200.here hx rfl (hb hby at_116) rfl rfl (l' := #[.val (.int p0), .val (.int p1), .val (.int p2), .val (.int (0 : Int32)), .val (.int (2 : Int32)), .val (.ref b153), .val (.int vg161), .val (.int vg162), .val (.int vg163), .val (.ref b164), .val (.ref b183), .val (.ref x200), .unset]) rfl k) ?_
      show own_G p e below _ (T200.setTop (mkF m 118 #[.val (.int p0), .val (.int p1), .val (.int p2), .val (.int (0 : Int32)), .val (.int (2 : Int32)), .val (.ref b153), .val (.int vg161), .val (.int vg162), .val (.int vg163), .val (.ref b164), .val (.ref b183), .val (.ref x200), .unset] []))
      refine own_via (fun t k => XS.iloadN X200.here hx rfl (hb hby at_118) rfl k) ?_
      show own_G p e below _ (T200.setTop (mkF m 119 #[.val (.int p0), .val (.int p1), .val (.int p2), .val (.int (0 : Int32)), .val (.int (2 : Int32)), .val (.ref b153), .val (.int vg161), .val (.int vg162), .val (.int vg163), .val (.ref b164), .val (.ref b183), .val (.ref x200), .unset] [(.int (0 : Int32))]))
      refine own_via (fun t k => XS.ifYes X200.here hx rfl (pc0 := 119) (pc' := 141) rfl (hb hby at_119) rfl ((if0 _ _).trans (teq (by decide : (0 : Int32) = (0 : Int32))).1) (by decide) (by decide) k) ?_
      show own_G p e below _ (T200.setTop (mkF m 141 #[.val (.int p0), .val (.int p1), .val (.int p2), .val (.int (0 : Int32)), .val (.int (2 : Int32)), .val (.ref b153), .val (.int vg161), .val (.int vg162), .val (.int vg163), .val (.ref b164), .val (.ref b183), .val (.ref x200), .unset] []))
      refine own_via (fun t k => XS.aload X200.here hx rfl (hb hby at_141) rfl rfl k) ?_
      show own_G p e below _ (T200.setTop (mkF m 143 #[.val (.int p0), .val (.int p1), .val (.int p2), .val (.int (0 : Int32)), .val (.int (2 : Int32)), .val (.ref b153), .val (.int vg161), .val (.int vg162), .val (.int vg163), .val (.ref b164), .val (.ref b183), .val (.ref x200), .unset] [(.ref x200)]))
      refine own_via (fun t k => XS.ifnullNo X200.here hx rfl (hb hby at_143) rfl k) ?_
      show own_G p e below _ (T200.setTop (mkF m 146 #[.val (.int p0), .val (.int p1), .val (.int p2), .val (.int (0 : Int32)), .val (.int (2 : Int32)), .val (.ref b153), .val (.int vg161), .val (.int vg162), .val (.int vg163), .val (.ref b164), .val (.ref b183), .val (.ref x200), .unset] []))
      refine own_via (fun t k => XS.aload X200.here hx rfl (hb hby at_146) rfl rfl k) ?_
      show own_G p e below _ (T200.setTop (mkF m 148 #[.val (.int p0), .val (.int p1), .val (.int p2), .val (.int (0 : Int32)), .val (.int (2 : Int32)), .val (.ref b153), .val (.int vg161), .val (.int vg162), .val (.int vg163), .val (.ref b164), .val (.ref b183), .val (.ref x200), .unset] [(.ref x200)]))
      refine own_via (fun t k => XS.aload X200.here hx rfl (hb hby at_148) rfl rfl k) ?_
      show own_G p e below _ (T200.setTop (mkF m 150 #[.val (.int p0), .val (.int p1), .val (.int p2), .val (.int (0 : Int32)), .val (.int (2 : Int32)), .val (.ref b153), .val (.int vg161), .val (.int vg162), .val (.int vg163), .val (.ref b164), .val (.ref b183), .val (.ref x200), .unset] [(.ref b164), (.ref x200)]))
      refine own_via (fun t k => Jvm.RoadKit.acmp (g := (mkF m 150 #[.val (.int p0), .val (.int p1), .val (.int p2), .val (.int (0 : Int32)), .val (.int (2 : Int32)), .val (.ref b153), .val (.int vg161), .val (.int vg162), .val (.int vg163), .val (.ref b164), .val (.ref b183), .val (.ref x200), .unset] [(.ref b164), (.ref x200)])) X200 hx rfl rfl rfl (pc0 := 150) (pc' := 153) (same := false) rfl (hb hby at_150) rfl (decide_eq_false fun q => (Ne.symm ne202) (Value.ref.inj q)) (by decide) (by decide) k) ?_
      show own_G p e below _ (T200.setTop (mkF m 153 #[.val (.int p0), .val (.int p1), .val (.int p2), .val (.int (0 : Int32)), .val (.int (2 : Int32)), .val (.ref b153), .val (.int vg161), .val (.int vg162), .val (.int vg163), .val (.ref b164), .val (.ref b183), .val (.ref x200), .unset] []))
      refine own_via (fun t k => XS.aload X200.here hx rfl (hb hby at_153) rfl rfl k) ?_
      show own_G p e below _ (T200.setTop (mkF m 155 #[.val (.int p0), .val (.int p1), .val (.int p2), .val (.int (0 : Int32)), .val (.int (2 : Int32)), .val (.ref b153), .val (.int vg161), .val (.int vg162), .val (.int vg163), .val (.ref b164), .val (.ref b183), .val (.ref x200), .unset] [(.ref x200)]))
      refine own_via (own_len X200 hx hZ e200 o200_0 (pc := 155) (Ls := #[.val (.int p0), .val (.int p1), .val (.int p2), .val (.int (0 : Int32)), .val (.int (2 : Int32)), .val (.ref b153), .val (.int vg161), .val (.int vg162), .val (.int vg163), .val (.ref b164), .val (.ref b183), .val (.ref x200), .unset]) (rest := []) (hb hby at_155)) ?_
      show own_G p e below _ (T200.setTop (mkF m 156 #[.val (.int p0), .val (.int p1), .val (.int p2), .val (.int (0 : Int32)), .val (.int (2 : Int32)), .val (.ref b153), .val (.int vg161), .val (.int vg162), .val (.int vg163), .val (.ref b164), .val (.ref b183), .val (.ref x200), .unset] [(.int (2 : Int32))]))
      refine own_via (fun t k => XS.iload X200.here hx rfl (hb hby at_156) rfl k) ?_
      show own_G p e below _ (T200.setTop (mkF m 158 #[.val (.int p0), .val (.int p1), .val (.int p2), .val (.int (0 : Int32)), .val (.int (2 : Int32)), .val (.ref b153), .val (.int vg161), .val (.int vg162), .val (.int vg163), .val (.ref b164), .val (.ref b183), .val (.ref x200), .unset] [(.int (2 : Int32)), (.int (2 : Int32))]))
      refine own_via (fun t k => XS.icmpYes X200.here hx rfl (pc0 := 158) (pc' := 163) rfl (hb hby at_158) rfl (teq (by decide : (2 : Int32) = (2 : Int32))).1 (by decide) (by decide) k) ?_
      show own_G p e below _ (T200.setTop (mkF m 163 #[.val (.int p0), .val (.int p1), .val (.int p2), .val (.int (0 : Int32)), .val (.int (2 : Int32)), .val (.ref b153), .val (.int vg161), .val (.int vg162), .val (.int vg163), .val (.ref b164), .val (.ref b183), .val (.ref x200), .unset] []))
      refine own_via (fun t k => XS.aload X200.here hx rfl (hb hby at_163) rfl rfl k) ?_
      show own_G p e below _ (T200.setTop (mkF m 165 #[.val (.int p0), .val (.int p1), .val (.int p2), .val (.int (0 : Int32)), .val (.int (2 : Int32)), .val (.ref b153), .val (.int vg161), .val (.int vg162), .val (.int vg163), .val (.ref b164), .val (.ref b183), .val (.ref x200), .unset] [(.ref x200)]))
      refine own_via (fun t k => XS.iload X200.here hx rfl (hb hby at_165) rfl k) ?_
      show own_G p e below _ (T200.setTop (mkF m 167 #[.val (.int p0), .val (.int p1), .val (.int p2), .val (.int (0 : Int32)), .val (.int (2 : Int32)), .val (.ref b153), .val (.int vg161), .val (.int vg162), .val (.int vg163), .val (.ref b164), .val (.ref b183), .val (.ref x200), .unset] [(.int (2 : Int32)), (.ref x200)]))
      refine own_via (fun t k => XS.iload X200.here hx rfl (hb hby at_167) rfl k) ?_
      show own_G p e below _ (T200.setTop (mkF m 169 #[.val (.int p0), .val (.int p1), .val (.int p2), .val (.int (0 : Int32)), .val (.int (2 : Int32)), .val (.ref b153), .val (.int vg161), .val (.int vg162), .val (.int vg163), .val (.ref b164), .val (.ref b183), .val (.ref x200), .unset] [(.int vg161), (.int (2 : Int32)), (.ref x200)]))
      refine own_via (fun t k => XS.iload X200.here hx rfl (hb hby at_169) rfl k) ?_
      show own_G p e below _ (T200.setTop (mkF m 171 #[.val (.int p0), .val (.int p1), .val (.int p2), .val (.int (0 : Int32)), .val (.int (2 : Int32)), .val (.ref b153), .val (.int vg161), .val (.int vg162), .val (.int vg163), .val (.ref b164), .val (.ref b183), .val (.ref x200), .unset] [(.int vg162), (.int vg161), (.int (2 : Int32)), (.ref x200)]))
      refine own_via (fun t k => XS.iload X200.here hx rfl (hb hby at_171) rfl k) ?_
      show own_G p e below _ (T200.setTop (mkF m 173 #[.val (.int p0), .val (.int p1), .val (.int p2), .val (.int (0 : Int32)), .val (.int (2 : Int32)), .val (.ref b153), .val (.int vg161), .val (.int vg162), .val (.int vg163), .val (.ref b164), .val (.ref b183), .val (.ref x200), .unset] [(.int vg163), (.int vg162), (.int vg161), (.int (2 : Int32)), (.ref x200)]))
      obtain ⟨T212, X212, e212, st212⟩ := own_callP (y := (⟨"com/example/clementi/clementi/store/KeyRangeEndPinLaw", "same", "([BIBBB)Z"⟩ : MethodName)) (W := 0) X200 hx hZ hown (hw _ (List.mem_of_getElem? (i := 28) rfl)) (hw _ (List.mem_of_getElem? (i := 29) rfl)) (hw _ (List.mem_of_getElem? (i := 30) rfl)) (hw _ (List.mem_of_getElem? (i := 31) rfl)) (by decide) (own_same2 l Z a0 hw [] x200 vg161 vg162 vg163 k164 (vg161.toInt8.toInt32) (vg162.toInt8.toInt32) h200 o200_0 (own_i2b hvg161) (own_i2b hvg162)) (by decide) (by decide) rfl rfl (by decide) (by decide) e200 (pc := 173) (Ls := #[.val (.int p0), .val (.int p1), .val (.int p2), .val (.int (0 : Int32)), .val (.int (2 : Int32)), .val (.ref b153), .val (.int vg161), .val (.int vg162), .val (.int vg163), .val (.ref b164), .val (.ref b183), .val (.ref x200), .unset]) (st := [(.int vg163), (.int vg162), (.int vg161), (.int (2 : Int32)), (.ref x200)]) (argsL := [(.ref x200), (.int (2 : Int32)), (.int vg161), (.int vg162), (.int vg163)]) (rest := []) (by rw [hml]; rfl) (lenOf own_pd2 rfl) rfl rfl (Nat.le_of_eq rfl) (hb hby at_173)
      refine own_via st212 ?_
      show own_G p e below _ (T212.setTop (mkF m 176 #[.val (.int p0), .val (.int p1), .val (.int p2), .val (.int (0 : Int32)), .val (.int (2 : Int32)), .val (.ref b153), .val (.int vg161), .val (.int vg162), .val (.int vg163), .val (.ref b164), .val (.ref b183), .val (.ref x200), .unset] [(.int (1 : Int32))]))
      refine own_via (fun t k => XS.ifYes X212.here hx rfl (pc0 := 176) (pc' := 181) rfl (hb hby at_176) rfl ((if0 _ _).trans (feq (by decide : ¬ ((1 : Int32) = (0 : Int32)))).2) (by decide) (by decide) k) ?_
      show own_G p e below _ (T212.setTop (mkF m 181 #[.val (.int p0), .val (.int p1), .val (.int p2), .val (.int (0 : Int32)), .val (.int (2 : Int32)), .val (.ref b153), .val (.int vg161), .val (.int vg162), .val (.int vg163), .val (.ref b164), .val (.ref b183), .val (.ref x200), .unset] []))
      refine own_via (fun t k => XS.iload X212.here hx rfl (hb hby at_181) rfl k) ?_
      show own_G p e below _ (T212.setTop (mkF m 183 #[.val (.int p0), .val (.int p1), .val (.int p2), .val (.int (0 : Int32)), .val (.int (2 : Int32)), .val (.ref b153), .val (.int vg161), .val (.int vg162), .val (.int vg163), .val (.ref b164), .val (.ref b183), .val (.ref x200), .unset] [(.int (2 : Int32))]))
      refine own_via (fun t k => XS.ifNo X212.here hx rfl (hb hby at_183) rfl ((if0 _ _).trans (tlt (by decide : (0 : Int32) < (2 : Int32))).2.2.2) k) ?_
      show own_G p e below _ (T212.setTop (mkF m 186 #[.val (.int p0), .val (.int p1), .val (.int p2), .val (.int (0 : Int32)), .val (.int (2 : Int32)), .val (.ref b153), .val (.int vg161), .val (.int vg162), .val (.int vg163), .val (.ref b164), .val (.ref b183), .val (.ref x200), .unset] []))
      refine own_via (fun t k => XS.aload X212.here hx rfl (hb hby at_186) rfl rfl k) ?_
      show own_G p e below _ (T212.setTop (mkF m 188 #[.val (.int p0), .val (.int p1), .val (.int p2), .val (.int (0 : Int32)), .val (.int (2 : Int32)), .val (.ref b153), .val (.int vg161), .val (.int vg162), .val (.int vg163), .val (.ref b164), .val (.ref b183), .val (.ref x200), .unset] [(.ref x200)]))
      refine own_via (fun t k => XS.iconst X212.here hx rfl (hb hby at_188) k) ?_
      show own_G p e below _ (T212.setTop (mkF m 189 #[.val (.int p0), .val (.int p1), .val (.int p2), .val (.int (0 : Int32)), .val (.int (2 : Int32)), .val (.ref b153), .val (.int vg161), .val (.int vg162), .val (.int vg163), .val (.ref b164), .val (.ref b183), .val (.ref x200), .unset] [(.int (0 : Int32)), (.ref x200)]))
      refine own_via (fun t k => XS.aload X212.here hx rfl (hb hby at_189) rfl rfl k) ?_
      show own_G p e below _ (T212.setTop (mkF m 191 #[.val (.int p0), .val (.int p1), .val (.int p2), .val (.int (0 : Int32)), .val (.int (2 : Int32)), .val (.ref b153), .val (.int vg161), .val (.int vg162), .val (.int vg163), .val (.ref b164), .val (.ref b183), .val (.ref x200), .unset] [(.ref x200), (.int (0 : Int32)), (.ref x200)]))
      refine own_via (fun t k => XS.iconst X212.here hx rfl (hb hby at_191) k) ?_
      show own_G p e below _ (T212.setTop (mkF m 192 #[.val (.int p0), .val (.int p1), .val (.int p2), .val (.int (0 : Int32)), .val (.int (2 : Int32)), .val (.ref b153), .val (.int vg161), .val (.int vg162), .val (.int vg163), .val (.ref b164), .val (.ref b183), .val (.ref x200), .unset] [(.int (0 : Int32)), (.ref x200), (.int (0 : Int32)), (.ref x200)]))
      refine own_via (own_ldB X212 hx hZ e212 o200_0 (j := (0 : Int32)) ⟨by decide, by decide⟩ (v := (.int (vg161.toInt8.toInt32))) rfl (pc := 192) (Ls := #[.val (.int p0), .val (.int p1), .val (.int p2), .val (.int (0 : Int32)), .val (.int (2 : Int32)), .val (.ref b153), .val (.int vg161), .val (.int vg162), .val (.int vg163), .val (.ref b164), .val (.ref b183), .val (.ref x200), .unset]) (rest := [(.int (0 : Int32)), (.ref x200)]) (hb hby at_192)) ?_
      show own_G p e below _ (T212.setTop (mkF m 193 #[.val (.int p0), .val (.int p1), .val (.int p2), .val (.int (0 : Int32)), .val (.int (2 : Int32)), .val (.ref b153), .val (.int vg161), .val (.int vg162), .val (.int vg163), .val (.ref b164), .val (.ref b183), .val (.ref x200), .unset] [(.int (vg161.toInt8.toInt32)), (.int (0 : Int32)), (.ref x200)]))
      refine own_via (fun t k => XS.iconst X212.here hx rfl (hb hby at_193) k) ?_
      show own_G p e below _ (T212.setTop (mkF m 194 #[.val (.int p0), .val (.int p1), .val (.int p2), .val (.int (0 : Int32)), .val (.int (2 : Int32)), .val (.ref b153), .val (.int vg161), .val (.int vg162), .val (.int vg163), .val (.ref b164), .val (.ref b183), .val (.ref x200), .unset] [(.int (1 : Int32)), (.int (vg161.toInt8.toInt32)), (.int (0 : Int32)), (.ref x200)]))
      refine own_via (fun t k => XS.iadd X212.here hx rfl (hb hby at_194) rfl k) ?_
      show own_G p e below _ (T212.setTop (mkF m 195 #[.val (.int p0), .val (.int p1), .val (.int p2), .val (.int (0 : Int32)), .val (.int (2 : Int32)), .val (.ref b153), .val (.int vg161), .val (.int vg162), .val (.int vg163), .val (.ref b164), .val (.ref b183), .val (.ref x200), .unset] [(.int ((vg161.toInt8.toInt32) + (1 : Int32))), (.int (0 : Int32)), (.ref x200)]))
      refine own_via (fun t k => XS.i2b X212.here hx rfl (hb hby at_195) rfl k) ?_
      show own_G p e below _ (T212.setTop (mkF m 196 #[.val (.int p0), .val (.int p1), .val (.int p2), .val (.int (0 : Int32)), .val (.int (2 : Int32)), .val (.ref b153), .val (.int vg161), .val (.int vg162), .val (.int vg163), .val (.ref b164), .val (.ref b183), .val (.ref x200), .unset] [(.int (((vg161.toInt8.toInt32) + (1 : Int32)).toInt8.toInt32)), (.int (0 : Int32)), (.ref x200)]))
      obtain ⟨T213, h213, L213, X213, N213, e213, W213, V213, st213⟩ := own_stB X212 N200 hx hZ e212 o200_0 g_x200 (j := (0 : Int32)) (x := (((vg161.toInt8.toInt32) + (1 : Int32)).toInt8.toInt32)) (i := 0) ⟨by decide, by decide⟩ rfl (Nat.le_of_ble_eq_true rfl) (pc := 196) (Ls := #[.val (.int p0), .val (.int p1), .val (.int p2), .val (.int (0 : Int32)), .val (.int (2 : Int32)), .val (.ref b153), .val (.int vg161), .val (.int vg162), .val (.int vg163), .val (.ref b164), .val (.ref b183), .val (.ref x200), .unset]) (rest := []) (hb hby at_196)
      refine own_via st213 ?_
      have f214 : Exa Z h213 b153 "[B" := f204.wr W213
      have f215 : Arv Z h213 b153 k153 .byte (1 : Int32) [(.int ((((p0.toUInt32 >>> ((24 : Int32) &&& 31).toUInt32).toInt32).toInt8.toInt32).toInt8.toInt32))] (.int (0 : Int32)) := f205.other W213 ne201
      have f216 : Exa Z h213 b164 "[B" := f206.wr W213
      have f217 : Arv Z h213 b164 k164 .byte (2 : Int32) [(.int (vg161.toInt8.toInt32)), (.int (vg162.toInt8.toInt32))] (.int (0 : Int32)) := f207.other W213 ne202
      have f218 : Exa Z h213 b183 "com/example/clementi/clementi/store/KeyRange" := f208.wr W213
      have f219 : Fld Z h213 b183 "com/example/clementi/clementi/store/KeyRange" "prefix" "[B" (.ref b153) := f209.other W213 (Or.inl ne203)
      have f220 : Fld Z h213 b183 "com/example/clementi/clementi/store/KeyRange" "end" "[B" (.ref b164) := f210.other W213 (Or.inl ne203)
      have f221 : Exa Z h213 x200 "[B" := o200_1.wr W213
      have f222 : Arv Z h213 x200 k164 .byte (2 : Int32) [(.int ((((vg161.toInt8.toInt32) + (1 : Int32)).toInt8.toInt32).toInt8.toInt32)), (.int (vg162.toInt8.toInt32))] (.int (0 : Int32)) := V213
      have Zs223 : n0 ≤ h213.size := by rw [W213.size]; exact Zs211
      show own_G p e below _ (T213.setTop (mkF m 197 #[.val (.int p0), .val (.int p1), .val (.int p2), .val (.int (0 : Int32)), .val (.int (2 : Int32)), .val (.ref b153), .val (.int vg161), .val (.int vg162), .val (.int vg163), .val (.ref b164), .val (.ref b183), .val (.ref x200), .unset] []))
      refine own_via (fun t k => XS.aload X213.here hx rfl (hb hby at_197) rfl rfl k) ?_
      show own_G p e below _ (T213.setTop (mkF m 199 #[.val (.int p0), .val (.int p1), .val (.int p2), .val (.int (0 : Int32)), .val (.int (2 : Int32)), .val (.ref b153), .val (.int vg161), .val (.int vg162), .val (.int vg163), .val (.ref b164), .val (.ref b183), .val (.ref x200), .unset] [(.ref b183)]))
      obtain ⟨v224, T224, h224, L224, X224, N224, e224, hq224, st224⟩ := own_callV (y := (⟨"com/example/clementi/clementi/store/KeyRange", "end", "()[B"⟩ : MethodName)) (z := (⟨"com/example/clementi/clementi/store/KeyRange", "end", "()[B"⟩ : MethodName)) (W := 0) (a := b183) X213 N213 hx hZ hown (hw _ (List.mem_of_getElem? (i := 14) rfl)) (hw _ (List.mem_of_getElem? (i := 15) rfl)) (notFace_of_selects (args := #[]) (mvT hZ (hw _ (List.mem_of_getElem? (i := 17) rfl)))) (hw _ (List.mem_of_getElem? (i := 17) rfl)) (hw _ (List.mem_of_getElem? (i := 16) rfl)) (hw _ (List.mem_of_getElem? (i := 3) rfl)) (hw _ (List.mem_of_getElem? (i := 18) rfl)) (by decide) (own_end1 l Z a0 hw [] b183 b164 k164 (2 : Int32) [(.int (vg161.toInt8.toInt32)), (.int (vg162.toInt8.toInt32))] (.int (0 : Int32)) h213 n0 Zs223 f220 f217 f216 (by decide)) (by decide) (by decide) (by decide) (by decide) e213 f218 (pc := 199) (Ls := #[.val (.int p0), .val (.int p1), .val (.int p2), .val (.int (0 : Int32)), .val (.int (2 : Int32)), .val (.ref b153), .val (.int vg161), .val (.int vg162), .val (.int vg163), .val (.ref b164), .val (.ref b183), .val (.ref x200), .unset]) (st := [(.ref b183)]) (argsL := []) (rest := []) (by rw [hml]; rfl) (lenOf own_pd1 rfl) rfl rfl (Nat.le_of_eq rfl) (hb hby at_199)
      obtain ⟨x224, rfl, K224, zf_x224, o224_0, o224_1⟩ := hq224
      refine own_via st224 ?_
      have ne225 : b153 ≠ x224 := Nat.ne_of_lt (Nat.lt_of_lt_of_le f214.lt zf_x224)
      have ne226 : b164 ≠ x224 := Nat.ne_of_lt (Nat.lt_of_lt_of_le f216.lt zf_x224)
      have ne227 : b183 ≠ x224 := Nat.ne_of_lt (Nat.lt_of_lt_of_le f218.lt zf_x224)
      have ne228 : x200 ≠ x224 := Nat.ne_of_lt (Nat.lt_of_lt_of_le f221.lt zf_x224)
      have g_x224 : n0 ≤ x224 := Nat.le_trans Zs223 zf_x224
      have f229 : Exa Z h224 b153 "[B" := f214.ext (own_ke K224)
      have f230 : Arv Z h224 b153 k153 .byte (1 : Int32) [(.int ((((p0.toUInt32 >>> ((24 : Int32) &&& 31).toUInt32).toInt32).toInt8.toInt32).toInt8.toInt32))] (.int (0 : Int32)) := f215.ext (own_ke K224)
      have f231 : Exa Z h224 b164 "[B" := f216.ext (own_ke K224)
      have f232 : Arv Z h224 b164 k164 .byte (2 : Int32) [(.int (vg161.toInt8.toInt32)), (.int (vg162.toInt8.toInt32))] (.int (0 : Int32)) := f217.ext (own_ke K224)
      have f233 : Exa Z h224 b183 "com/example/clementi/clementi/store/KeyRange" := f218.ext (own_ke K224)
      have f234 : Fld Z h224 b183 "com/example/clementi/clementi/store/KeyRange" "prefix" "[B" (.ref b153) := f219.ext (own_ke K224)
      have f235 : Fld Z h224 b183 "com/example/clementi/clementi/store/KeyRange" "end" "[B" (.ref b164) := f220.ext (own_ke K224)
      have f236 : Exa Z h224 x200 "[B" := f221.ext (own_ke K224)
      have f237 : Arv Z h224 x200 k164 .byte (2 : Int32) [(.int ((((vg161.toInt8.toInt32) + (1 : Int32)).toInt8.toInt32).toInt8.toInt32)), (.int (vg162.toInt8.toInt32))] (.int (0 : Int32)) := f222.ext (own_ke K224)
      have Zs238 : n0 ≤ h224.size := Nat.le_trans Zs223 K224.1
      show own_G p e below _ (T224.setTop (mkF m 202 #[.val (.int p0), .val (.int p1), .val (.int p2), .val (.int (0 : Int32)), .val (.int (2 : Int32)), .val (.ref b153), .val (.int vg161), .val (.int vg162), .val (.int vg163), .val (.ref b164), .val (.ref b183), .val (.ref x200), .unset] [(.ref x224)]))
      refine own_via (fun t k => XS.astore X224.here hx rfl (hb hby at_202) rfl rfl (l' := #[.val (.int p0), .val (.int p1), .val (.int p2), .val (.int (0 : Int32)), .val (.int (2 : Int32)), .val (.ref b153), .val (.int vg161), .val (.int vg162), .val (.int vg163), .val (.ref b164), .val (.ref b183), .val (.ref x200), .val (.ref x224)]) rfl k) ?_
      show own_G p e below _ (T224.setTop (mkF m 204 #[.val (.int p0), .val (.int p1), .val (.int p2), .val (.int (0 : Int32)), .val (.int (2 : Int32)), .val (.ref b153), .val (.int vg161), .val (.int vg162), .val (.int vg163), .val (.ref b164), .val (.ref b183), .val (.ref x200), .val (.ref x224)] []))
      refine own_via (fun t k => XS.aload X224.here hx rfl (hb hby at_204) rfl rfl k) ?_
      show own_G p e below _ (T224.setTop (mkF m 206 #[.val (.int p0), .val (.int p1), .val (.int p2), .val (.int (0 : Int32)), .val (.int (2 : Int32)), .val (.ref b153), .val (.int vg161), .val (.int vg162), .val (.int vg163), .val (.ref b164), .val (.ref b183), .val (.ref x200), .val (.ref x224)] [(.ref x224)]))
      refine own_via (fun t k => XS.ifnullNo X224.here hx rfl (hb hby at_206) rfl k) ?_
      show own_G p e below _ (T224.setTop (mkF m 209 #[.val (.int p0), .val (.int p1), .val (.int p2), .val (.int (0 : Int32)), .val (.int (2 : Int32)), .val (.ref b153), .val (.int vg161), .val (.int vg162), .val (.int vg163), .val (.ref b164), .val (.ref b183), .val (.ref x200), .val (.ref x224)] []))
      refine own_via (fun t k => XS.aload X224.here hx rfl (hb hby at_209) rfl rfl k) ?_
      show own_G p e below _ (T224.setTop (mkF m 211 #[.val (.int p0), .val (.int p1), .val (.int p2), .val (.int (0 : Int32)), .val (.int (2 : Int32)), .val (.ref b153), .val (.int vg161), .val (.int vg162), .val (.int vg163), .val (.ref b164), .val (.ref b183), .val (.ref x200), .val (.ref x224)] [(.ref x224)]))
      refine own_via (fun t k => XS.aload X224.here hx rfl (hb hby at_211) rfl rfl k) ?_
      show own_G p e below _ (T224.setTop (mkF m 213 #[.val (.int p0), .val (.int p1), .val (.int p2), .val (.int (0 : Int32)), .val (.int (2 : Int32)), .val (.ref b153), .val (.int vg161), .val (.int vg162), .val (.int vg163), .val (.ref b164), .val (.ref b183), .val (.ref x200), .val (.ref x224)] [(.ref x200), (.ref x224)]))
      refine own_via (fun t k => Jvm.RoadKit.acmp (g := (mkF m 213 #[.val (.int p0), .val (.int p1), .val (.int p2), .val (.int (0 : Int32)), .val (.int (2 : Int32)), .val (.ref b153), .val (.int vg161), .val (.int vg162), .val (.int vg163), .val (.ref b164), .val (.ref b183), .val (.ref x200), .val (.ref x224)] [(.ref x200), (.ref x224)])) X224 hx rfl rfl rfl (pc0 := 213) (pc' := 216) (same := false) rfl (hb hby at_213) rfl (decide_eq_false fun q => (Ne.symm ne228) (Value.ref.inj q)) (by decide) (by decide) k) ?_
      show own_G p e below _ (T224.setTop (mkF m 216 #[.val (.int p0), .val (.int p1), .val (.int p2), .val (.int (0 : Int32)), .val (.int (2 : Int32)), .val (.ref b153), .val (.int vg161), .val (.int vg162), .val (.int vg163), .val (.ref b164), .val (.ref b183), .val (.ref x200), .val (.ref x224)] []))
      refine own_via (fun t k => XS.aload X224.here hx rfl (hb hby at_216) rfl rfl k) ?_
      show own_G p e below _ (T224.setTop (mkF m 218 #[.val (.int p0), .val (.int p1), .val (.int p2), .val (.int (0 : Int32)), .val (.int (2 : Int32)), .val (.ref b153), .val (.int vg161), .val (.int vg162), .val (.int vg163), .val (.ref b164), .val (.ref b183), .val (.ref x200), .val (.ref x224)] [(.ref x224)]))
      refine own_via (fun t k => XS.aload X224.here hx rfl (hb hby at_218) rfl rfl k) ?_
      show own_G p e below _ (T224.setTop (mkF m 220 #[.val (.int p0), .val (.int p1), .val (.int p2), .val (.int (0 : Int32)), .val (.int (2 : Int32)), .val (.ref b153), .val (.int vg161), .val (.int vg162), .val (.int vg163), .val (.ref b164), .val (.ref b183), .val (.ref x200), .val (.ref x224)] [(.ref b164), (.ref x224)]))
      refine own_via (fun t k => Jvm.RoadKit.acmp (g := (mkF m 220 #[.val (.int p0), .val (.int p1), .val (.int p2), .val (.int (0 : Int32)), .val (.int (2 : Int32)), .val (.ref b153), .val (.int vg161), .val (.int vg162), .val (.int vg163), .val (.ref b164), .val (.ref b183), .val (.ref x200), .val (.ref x224)] [(.ref b164), (.ref x224)])) X224 hx rfl rfl rfl (pc0 := 220) (pc' := 223) (same := false) rfl (hb hby at_220) rfl (decide_eq_false fun q => (Ne.symm ne226) (Value.ref.inj q)) (by decide) (by decide) k) ?_
      show own_G p e below _ (T224.setTop (mkF m 223 #[.val (.int p0), .val (.int p1), .val (.int p2), .val (.int (0 : Int32)), .val (.int (2 : Int32)), .val (.ref b153), .val (.int vg161), .val (.int vg162), .val (.int vg163), .val (.ref b164), .val (.ref b183), .val (.ref x200), .val (.ref x224)] []))
      refine own_via (fun t k => XS.aload X224.here hx rfl (hb hby at_223) rfl rfl k) ?_
      show own_G p e below _ (T224.setTop (mkF m 225 #[.val (.int p0), .val (.int p1), .val (.int p2), .val (.int (0 : Int32)), .val (.int (2 : Int32)), .val (.ref b153), .val (.int vg161), .val (.int vg162), .val (.int vg163), .val (.ref b164), .val (.ref b183), .val (.ref x200), .val (.ref x224)] [(.ref x224)]))
      refine own_via (own_len X224 hx hZ e224 o224_0 (pc := 225) (Ls := #[.val (.int p0), .val (.int p1), .val (.int p2), .val (.int (0 : Int32)), .val (.int (2 : Int32)), .val (.ref b153), .val (.int vg161), .val (.int vg162), .val (.int vg163), .val (.ref b164), .val (.ref b183), .val (.ref x200), .val (.ref x224)]) (rest := []) (hb hby at_225)) ?_
      show own_G p e below _ (T224.setTop (mkF m 226 #[.val (.int p0), .val (.int p1), .val (.int p2), .val (.int (0 : Int32)), .val (.int (2 : Int32)), .val (.ref b153), .val (.int vg161), .val (.int vg162), .val (.int vg163), .val (.ref b164), .val (.ref b183), .val (.ref x200), .val (.ref x224)] [(.int (2 : Int32))]))
      refine own_via (fun t k => XS.iload X224.here hx rfl (hb hby at_226) rfl k) ?_
      show own_G p e below _ (T224.setTop (mkF m 228 #[.val (.int p0), .val (.int p1), .val (.int p2), .val (.int (0 : Int32)), .val (.int (2 : Int32)), .val (.ref b153), .val (.int vg161), .val (.int vg162), .val (.int vg163), .val (.ref b164), .val (.ref b183), .val (.ref x200), .val (.ref x224)] [(.int (2 : Int32)), (.int (2 : Int32))]))
      refine own_via (fun t k => XS.icmpNo X224.here hx rfl (hb hby at_228) rfl (teq (by decide : (2 : Int32) = (2 : Int32))).2 k) ?_
      show own_G p e below _ (T224.setTop (mkF m 231 #[.val (.int p0), .val (.int p1), .val (.int p2), .val (.int (0 : Int32)), .val (.int (2 : Int32)), .val (.ref b153), .val (.int vg161), .val (.int vg162), .val (.int vg163), .val (.ref b164), .val (.ref b183), .val (.ref x200), .val (.ref x224)] []))
      refine own_via (fun t k => XS.aload X224.here hx rfl (hb hby at_231) rfl rfl k) ?_
      show own_G p e below _ (T224.setTop (mkF m 233 #[.val (.int p0), .val (.int p1), .val (.int p2), .val (.int (0 : Int32)), .val (.int (2 : Int32)), .val (.ref b153), .val (.int vg161), .val (.int vg162), .val (.int vg163), .val (.ref b164), .val (.ref b183), .val (.ref x200), .val (.ref x224)] [(.ref x224)]))
      refine own_via (fun t k => XS.iload X224.here hx rfl (hb hby at_233) rfl k) ?_
      show own_G p e below _ (T224.setTop (mkF m 235 #[.val (.int p0), .val (.int p1), .val (.int p2), .val (.int (0 : Int32)), .val (.int (2 : Int32)), .val (.ref b153), .val (.int vg161), .val (.int vg162), .val (.int vg163), .val (.ref b164), .val (.ref b183), .val (.ref x200), .val (.ref x224)] [(.int (2 : Int32)), (.ref x224)]))
      refine own_via (fun t k => XS.iload X224.here hx rfl (hb hby at_235) rfl k) ?_
      show own_G p e below _ (T224.setTop (mkF m 237 #[.val (.int p0), .val (.int p1), .val (.int p2), .val (.int (0 : Int32)), .val (.int (2 : Int32)), .val (.ref b153), .val (.int vg161), .val (.int vg162), .val (.int vg163), .val (.ref b164), .val (.ref b183), .val (.ref x200), .val (.ref x224)] [(.int vg161), (.int (2 : Int32)), (.ref x224)]))
      refine own_via (fun t k => XS.iload X224.here hx rfl (hb hby at_237) rfl k) ?_
      show own_G p e below _ (T224.setTop (mkF m 239 #[.val (.int p0), .val (.int p1), .val (.int p2), .val (.int (0 : Int32)), .val (.int (2 : Int32)), .val (.ref b153), .val (.int vg161), .val (.int vg162), .val (.int vg163), .val (.ref b164), .val (.ref b183), .val (.ref x200), .val (.ref x224)] [(.int vg162), (.int vg161), (.int (2 : Int32)), (.ref x224)]))
      refine own_via (fun t k => XS.iload X224.here hx rfl (hb hby at_239) rfl k) ?_
      show own_G p e below _ (T224.setTop (mkF m 241 #[.val (.int p0), .val (.int p1), .val (.int p2), .val (.int (0 : Int32)), .val (.int (2 : Int32)), .val (.ref b153), .val (.int vg161), .val (.int vg162), .val (.int vg163), .val (.ref b164), .val (.ref b183), .val (.ref x200), .val (.ref x224)] [(.int vg163), (.int vg162), (.int vg161), (.int (2 : Int32)), (.ref x224)]))
      obtain ⟨T239, X239, e239, st239⟩ := own_callP (y := (⟨"com/example/clementi/clementi/store/KeyRangeEndPinLaw", "same", "([BIBBB)Z"⟩ : MethodName)) (W := 0) X224 hx hZ hown (hw _ (List.mem_of_getElem? (i := 28) rfl)) (hw _ (List.mem_of_getElem? (i := 29) rfl)) (hw _ (List.mem_of_getElem? (i := 30) rfl)) (hw _ (List.mem_of_getElem? (i := 31) rfl)) (by decide) (own_same2 l Z a0 hw [] x224 vg161 vg162 vg163 k164 (vg161.toInt8.toInt32) (vg162.toInt8.toInt32) h224 o224_0 (own_i2b hvg161) (own_i2b hvg162)) (by decide) (by decide) rfl rfl (by decide) (by decide) e224 (pc := 241) (Ls := #[.val (.int p0), .val (.int p1), .val (.int p2), .val (.int (0 : Int32)), .val (.int (2 : Int32)), .val (.ref b153), .val (.int vg161), .val (.int vg162), .val (.int vg163), .val (.ref b164), .val (.ref b183), .val (.ref x200), .val (.ref x224)]) (st := [(.int vg163), (.int vg162), (.int vg161), (.int (2 : Int32)), (.ref x224)]) (argsL := [(.ref x224), (.int (2 : Int32)), (.int vg161), (.int vg162), (.int vg163)]) (rest := []) (by rw [hml]; rfl) (lenOf own_pd2 rfl) rfl rfl (Nat.le_of_eq rfl) (hb hby at_241)
      refine own_via st239 ?_
      show own_G p e below _ (T239.setTop (mkF m 244 #[.val (.int p0), .val (.int p1), .val (.int p2), .val (.int (0 : Int32)), .val (.int (2 : Int32)), .val (.ref b153), .val (.int vg161), .val (.int vg162), .val (.int vg163), .val (.ref b164), .val (.ref b183), .val (.ref x200), .val (.ref x224)] [(.int (1 : Int32))]))
      refine own_via (fun t k => XS.ifNo X239.here hx rfl (hb hby at_244) rfl ((if0 _ _).trans (feq (by decide : ¬ ((1 : Int32) = (0 : Int32)))).1) k) ?_
      show own_G p e below _ (T239.setTop (mkF m 247 #[.val (.int p0), .val (.int p1), .val (.int p2), .val (.int (0 : Int32)), .val (.int (2 : Int32)), .val (.ref b153), .val (.int vg161), .val (.int vg162), .val (.int vg163), .val (.ref b164), .val (.ref b183), .val (.ref x200), .val (.ref x224)] []))
      refine own_via (fun t k => XS.aload X239.here hx rfl (hb hby at_247) rfl rfl k) ?_
      show own_G p e below _ (T239.setTop (mkF m 249 #[.val (.int p0), .val (.int p1), .val (.int p2), .val (.int (0 : Int32)), .val (.int (2 : Int32)), .val (.ref b153), .val (.int vg161), .val (.int vg162), .val (.int vg163), .val (.ref b164), .val (.ref b183), .val (.ref x200), .val (.ref x224)] [(.ref b164)]))
      refine own_via (fun t k => XS.iload X239.here hx rfl (hb hby at_249) rfl k) ?_
      show own_G p e below _ (T239.setTop (mkF m 251 #[.val (.int p0), .val (.int p1), .val (.int p2), .val (.int (0 : Int32)), .val (.int (2 : Int32)), .val (.ref b153), .val (.int vg161), .val (.int vg162), .val (.int vg163), .val (.ref b164), .val (.ref b183), .val (.ref x200), .val (.ref x224)] [(.int (2 : Int32)), (.ref b164)]))
      refine own_via (fun t k => XS.iload X239.here hx rfl (hb hby at_251) rfl k) ?_
      show own_G p e below _ (T239.setTop (mkF m 253 #[.val (.int p0), .val (.int p1), .val (.int p2), .val (.int (0 : Int32)), .val (.int (2 : Int32)), .val (.ref b153), .val (.int vg161), .val (.int vg162), .val (.int vg163), .val (.ref b164), .val (.ref b183), .val (.ref x200), .val (.ref x224)] [(.int vg161), (.int (2 : Int32)), (.ref b164)]))
      refine own_via (fun t k => XS.iload X239.here hx rfl (hb hby at_253) rfl k) ?_
      show own_G p e below _ (T239.setTop (mkF m 255 #[.val (.int p0), .val (.int p1), .val (.int p2), .val (.int (0 : Int32)), .val (.int (2 : Int32)), .val (.ref b153), .val (.int vg161), .val (.int vg162), .val (.int vg163), .val (.ref b164), .val (.ref b183), .val (.ref x200), .val (.ref x224)] [(.int vg162), (.int vg161), (.int (2 : Int32)), (.ref b164)]))
      refine own_via (fun t k => XS.iload X239.here hx rfl (hb hby at_255) rfl k) ?_
      show own_G p e below _ (T239.setTop (mkF m 257 #[.val (.int p0), .val (.int p1), .val (.int p2), .val (.int (0 : Int32)), .val (.int (2 : Int32)), .val (.ref b153), .val (.int vg161), .val (.int vg162), .val (.int vg163), .val (.ref b164), .val (.ref b183), .val (.ref x200), .val (.ref x224)] [(.int vg163), (.int vg162), (.int vg161), (.int (2 : Int32)), (.ref b164)]))
      obtain ⟨T240, X240, e240, st240⟩ := own_callP (y := (⟨"com/example/clementi/clementi/store/KeyRangeEndPinLaw", "same", "([BIBBB)Z"⟩ : MethodName)) (W := 0) X239 hx hZ hown (hw _ (List.mem_of_getElem? (i := 28) rfl)) (hw _ (List.mem_of_getElem? (i := 29) rfl)) (hw _ (List.mem_of_getElem? (i := 30) rfl)) (hw _ (List.mem_of_getElem? (i := 31) rfl)) (by decide) (own_same2 l Z a0 hw [] b164 vg161 vg162 vg163 k164 (vg161.toInt8.toInt32) (vg162.toInt8.toInt32) h224 f232 (own_i2b hvg161) (own_i2b hvg162)) (by decide) (by decide) rfl rfl (by decide) (by decide) e239 (pc := 257) (Ls := #[.val (.int p0), .val (.int p1), .val (.int p2), .val (.int (0 : Int32)), .val (.int (2 : Int32)), .val (.ref b153), .val (.int vg161), .val (.int vg162), .val (.int vg163), .val (.ref b164), .val (.ref b183), .val (.ref x200), .val (.ref x224)]) (st := [(.int vg163), (.int vg162), (.int vg161), (.int (2 : Int32)), (.ref b164)]) (argsL := [(.ref b164), (.int (2 : Int32)), (.int vg161), (.int vg162), (.int vg163)]) (rest := []) (by rw [hml]; rfl) (lenOf own_pd2 rfl) rfl rfl (Nat.le_of_eq rfl) (hb hby at_257)
      refine own_via st240 ?_
      show own_G p e below _ (T240.setTop (mkF m 260 #[.val (.int p0), .val (.int p1), .val (.int p2), .val (.int (0 : Int32)), .val (.int (2 : Int32)), .val (.ref b153), .val (.int vg161), .val (.int vg162), .val (.int vg163), .val (.ref b164), .val (.ref b183), .val (.ref x200), .val (.ref x224)] [(.int (1 : Int32))]))
      refine own_via (fun t k => XS.ifNo X240.here hx rfl (hb hby at_260) rfl ((if0 _ _).trans (feq (by decide : ¬ ((1 : Int32) = (0 : Int32)))).1) k) ?_
      show own_G p e below _ (T240.setTop (mkF m 263 #[.val (.int p0), .val (.int p1), .val (.int p2), .val (.int (0 : Int32)), .val (.int (2 : Int32)), .val (.ref b153), .val (.int vg161), .val (.int vg162), .val (.int vg163), .val (.ref b164), .val (.ref b183), .val (.ref x200), .val (.ref x224)] []))
      refine own_via (fun t k => XS.iconst X240.here hx rfl (hb hby at_263) k) ?_
      show own_G p e below _ (T240.setTop (mkF m 264 #[.val (.int p0), .val (.int p1), .val (.int p2), .val (.int (0 : Int32)), .val (.int (2 : Int32)), .val (.ref b153), .val (.int vg161), .val (.int vg162), .val (.int vg163), .val (.ref b164), .val (.ref b183), .val (.ref x200), .val (.ref x224)] [(.int (1 : Int32))]))
      refine own_via (fun t k => XS.goto X240.here hx rfl (pc0 := 264) (pc' := 268) rfl (hb hby at_264) (by decide) (by decide) k) ?_
      show own_G p e below _ (T240.setTop (mkF m 268 #[.val (.int p0), .val (.int p1), .val (.int p2), .val (.int (0 : Int32)), .val (.int (2 : Int32)), .val (.ref b153), .val (.int vg161), .val (.int vg162), .val (.int vg163), .val (.ref b164), .val (.ref b183), .val (.ref x200), .val (.ref x224)] [(.int (1 : Int32))]))
      exact own_retN (t := .boolean) X240 hx Bd.returns (by simp) Bd.notSynchronized (hb hby at_268) ⟨N224, rfl⟩ (by decide) (by decide)
    ·
      rw [hs5]
      show own_G p e below _ (s₁.setTop (mkF m 15 #[.val (.int p0), .val (.int p1), .val (.int p2), .val (.int (0 : Int32)), .unset, .unset, .unset, .unset, .unset, .unset, .unset, .unset, .unset] [(.int (3 : Int32))]))
      refine own_via (fun t k => XS.istore X0.here hx rfl (hb hby at_15) rfl (l' := #[.val (.int p0), .val (.int p1), .val (.int p2), .val (.int (0 : Int32)), .val (.int (3 : Int32)), .unset, .unset, .unset, .unset, .unset, .unset, .unset, .unset]) rfl k) ?_
      show own_G p e below _ (s₁.setTop (mkF m 17 #[.val (.int p0), .val (.int p1), .val (.int p2), .val (.int (0 : Int32)), .val (.int (3 : Int32)), .unset, .unset, .unset, .unset, .unset, .unset, .unset, .unset] []))
      refine own_via (fun t k => XS.iconst X0.here hx rfl (hb hby at_17) k) ?_
      show own_G p e below _ (s₁.setTop (mkF m 18 #[.val (.int p0), .val (.int p1), .val (.int p2), .val (.int (0 : Int32)), .val (.int (3 : Int32)), .unset, .unset, .unset, .unset, .unset, .unset, .unset, .unset] [(.int (1 : Int32))]))
      obtain ⟨T241, h241, k241, b241, X241, e241, E241, ga241, V241, Ex241, st241⟩ := own_newA X0 hx hZ (hw _ (List.mem_of_getElem? (i := 0) rfl)) e0 (pc := 18) (Ls := #[.val (.int p0), .val (.int p1), .val (.int p2), .val (.int (0 : Int32)), .val (.int (3 : Int32)), .unset, .unset, .unset, .unset, .unset, .unset, .unset, .unset]) (rest := []) (hb hby at_18) (n := (1 : Int32)) (by decide) (cap := 1) (by decide) (by decide) (by decide) (by decide) 1 rfl
      refine own_via st241 ?_
      have f242 : Arv Z h241 b241 k241 .byte (1 : Int32) [(.int (0 : Int32))] (.int (0 : Int32)) := V241
      have f243 : Exa Z h241 b241 "[B" := Ex241
      have g_b241 : n0 ≤ b241 := Nat.le_trans Z0 (Nat.le_of_eq ga241.symm)
      have Zs244 : n0 ≤ h241.size := Nat.le_trans Z0 E241.1
      show own_G p e below _ (T241.setTop (mkF m 20 #[.val (.int p0), .val (.int p1), .val (.int p2), .val (.int (0 : Int32)), .val (.int (3 : Int32)), .unset, .unset, .unset, .unset, .unset, .unset, .unset, .unset] [(.ref b241)]))
      refine own_via (fun t k => XS.astore X241.here hx rfl (hb hby at_20) rfl rfl (l' := #[.val (.int p0), .val (.int p1), .val (.int p2), .val (.int (0 : Int32)), .val (.int (3 : Int32)), .val (.ref b241), .unset, .unset, .unset, .unset, .unset, .unset, .unset]) rfl k) ?_
      show own_G p e below _ (T241.setTop (mkF m 22 #[.val (.int p0), .val (.int p1), .val (.int p2), .val (.int (0 : Int32)), .val (.int (3 : Int32)), .val (.ref b241), .unset, .unset, .unset, .unset, .unset, .unset, .unset] []))
      refine own_via (fun t k => XS.aload X241.here hx rfl (hb hby at_22) rfl rfl k) ?_
      show own_G p e below _ (T241.setTop (mkF m 24 #[.val (.int p0), .val (.int p1), .val (.int p2), .val (.int (0 : Int32)), .val (.int (3 : Int32)), .val (.ref b241), .unset, .unset, .unset, .unset, .unset, .unset, .unset] [(.ref b241)]))
      refine own_via (fun t k => XS.iconst X241.here hx rfl (hb hby at_24) k) ?_
      show own_G p e below _ (T241.setTop (mkF m 25 #[.val (.int p0), .val (.int p1), .val (.int p2), .val (.int (0 : Int32)), .val (.int (3 : Int32)), .val (.ref b241), .unset, .unset, .unset, .unset, .unset, .unset, .unset] [(.int (0 : Int32)), (.ref b241)]))
      refine own_via (fun t k => XS.iloadN X241.here hx rfl (hb hby at_25) rfl k) ?_
      show own_G p e below _ (T241.setTop (mkF m 26 #[.val (.int p0), .val (.int p1), .val (.int p2), .val (.int (0 : Int32)), .val (.int (3 : Int32)), .val (.ref b241), .unset, .unset, .unset, .unset, .unset, .unset, .unset] [(.int p0), (.int (0 : Int32)), (.ref b241)]))
      refine own_via (fun t k => XS.bipush X241.here hx rfl (hb hby at_26) k) ?_
      show own_G p e below _ (T241.setTop (mkF m 28 #[.val (.int p0), .val (.int p1), .val (.int p2), .val (.int (0 : Int32)), .val (.int (3 : Int32)), .val (.ref b241), .unset, .unset, .unset, .unset, .unset, .unset, .unset] [(.int (24 : Int32)), (.int p0), (.int (0 : Int32)), (.ref b241)]))
      refine own_via (fun t k => XS.iushr X241.here hx rfl (hb hby at_28) rfl k) ?_
      show own_G p e below _ (T241.setTop (mkF m 29 #[.val (.int p0), .val (.int p1), .val (.int p2), .val (.int (0 : Int32)), .val (.int (3 : Int32)), .val (.ref b241), .unset, .unset, .unset, .unset, .unset, .unset, .unset] [(.int ((p0.toUInt32 >>> ((24 : Int32) &&& 31).toUInt32).toInt32)), (.int (0 : Int32)), (.ref b241)]))
      refine own_via (fun t k => XS.i2b X241.here hx rfl (hb hby at_29) rfl k) ?_
      show own_G p e below _ (T241.setTop (mkF m 30 #[.val (.int p0), .val (.int p1), .val (.int p2), .val (.int (0 : Int32)), .val (.int (3 : Int32)), .val (.ref b241), .unset, .unset, .unset, .unset, .unset, .unset, .unset] [(.int (((p0.toUInt32 >>> ((24 : Int32) &&& 31).toUInt32).toInt32).toInt8.toInt32)), (.int (0 : Int32)), (.ref b241)]))
      obtain ⟨T245, h245, L245, X245, N245, e245, W245, V245, st245⟩ := own_stB X241 N0 hx hZ e241 f242 g_b241 (j := (0 : Int32)) (x := (((p0.toUInt32 >>> ((24 : Int32) &&& 31).toUInt32).toInt32).toInt8.toInt32)) (i := 0) ⟨by decide, by decide⟩ rfl (Nat.le_of_ble_eq_true rfl) (pc := 30) (Ls := #[.val (.int p0), .val (.int p1), .val (.int p2), .val (.int (0 : Int32)), .val (.int (3 : Int32)), .val (.ref b241), .unset, .unset, .unset, .unset, .unset, .unset, .unset]) (rest := []) (hb hby at_30)
      refine own_via st245 ?_
      have f246 : Exa Z h245 b241 "[B" := f243.wr W245
      have f247 : Arv Z h245 b241 k241 .byte (1 : Int32) [(.int ((((p0.toUInt32 >>> ((24 : Int32) &&& 31).toUInt32).toInt32).toInt8.toInt32).toInt8.toInt32))] (.int (0 : Int32)) := V245
      have Zs248 : n0 ≤ h245.size := by rw [W245.size]; exact Zs244
      show own_G p e below _ (T245.setTop (mkF m 31 #[.val (.int p0), .val (.int p1), .val (.int p2), .val (.int (0 : Int32)), .val (.int (3 : Int32)), .val (.ref b241), .unset, .unset, .unset, .unset, .unset, .unset, .unset] []))
      refine own_via (fun t k => XS.iloadN X245.here hx rfl (hb hby at_31) rfl k) ?_
      show own_G p e below _ (T245.setTop (mkF m 32 #[.val (.int p0), .val (.int p1), .val (.int p2), .val (.int (0 : Int32)), .val (.int (3 : Int32)), .val (.ref b241), .unset, .unset, .unset, .unset, .unset, .unset, .unset] [(.int p0)]))
      refine own_via (fun t k => XS.i2b X245.here hx rfl (hb hby at_32) rfl k) ?_
      show own_G p e below _ (T245.setTop (mkF m 33 #[.val (.int p0), .val (.int p1), .val (.int p2), .val (.int (0 : Int32)), .val (.int (3 : Int32)), .val (.ref b241), .unset, .unset, .unset, .unset, .unset, .unset, .unset] [(.int (p0.toInt8.toInt32))]))
      generalize hvg249 : (p0.toInt8.toInt32) = vg249
      show own_G p e below _ (T245.setTop (mkF m 33 #[.val (.int p0), .val (.int p1), .val (.int p2), .val (.int (0 : Int32)), .val (.int (3 : Int32)), .val (.ref b241), .unset, .unset, .unset, .unset, .unset, .unset, .unset] [(.int vg249)]))
      refine own_via (fun t k => XS.istore X245.here hx rfl (hb hby at_33) rfl (l' := #[.val (.int p0), .val (.int p1), .val (.int p2), .val (.int (0 : Int32)), .val (.int (3 : Int32)), .val (.ref b241), .val (.int vg249), .unset, .unset, .unset, .unset, .unset, .unset]) rfl k) ?_
      show own_G p e below _ (T245.setTop (mkF m 35 #[.val (.int p0), .val (.int p1), .val (.int p2), .val (.int (0 : Int32)), .val (.int (3 : Int32)), .val (.ref b241), .val (.int vg249), .unset, .unset, .unset, .unset, .unset, .unset] []))
      refine own_via (fun t k => XS.iloadN X245.here hx rfl (hb hby at_35) rfl k) ?_
      show own_G p e below _ (T245.setTop (mkF m 36 #[.val (.int p0), .val (.int p1), .val (.int p2), .val (.int (0 : Int32)), .val (.int (3 : Int32)), .val (.ref b241), .val (.int vg249), .unset, .unset, .unset, .unset, .unset, .unset] [(.int p0)]))
      refine own_via (fun t k => XS.bipush X245.here hx rfl (hb hby at_36) k) ?_
      show own_G p e below _ (T245.setTop (mkF m 38 #[.val (.int p0), .val (.int p1), .val (.int p2), .val (.int (0 : Int32)), .val (.int (3 : Int32)), .val (.ref b241), .val (.int vg249), .unset, .unset, .unset, .unset, .unset, .unset] [(.int (8 : Int32)), (.int p0)]))
      refine own_via (fun t k => XS.ishr X245.here hx rfl (hb hby at_38) rfl k) ?_
      show own_G p e below _ (T245.setTop (mkF m 39 #[.val (.int p0), .val (.int p1), .val (.int p2), .val (.int (0 : Int32)), .val (.int (3 : Int32)), .val (.ref b241), .val (.int vg249), .unset, .unset, .unset, .unset, .unset, .unset] [(.int (p0 >>> ((8 : Int32) &&& 31)))]))
      refine own_via (fun t k => XS.i2b X245.here hx rfl (hb hby at_39) rfl k) ?_
      show own_G p e below _ (T245.setTop (mkF m 40 #[.val (.int p0), .val (.int p1), .val (.int p2), .val (.int (0 : Int32)), .val (.int (3 : Int32)), .val (.ref b241), .val (.int vg249), .unset, .unset, .unset, .unset, .unset, .unset] [(.int ((p0 >>> ((8 : Int32) &&& 31)).toInt8.toInt32))]))
      generalize hvg250 : ((p0 >>> ((8 : Int32) &&& 31)).toInt8.toInt32) = vg250
      show own_G p e below _ (T245.setTop (mkF m 40 #[.val (.int p0), .val (.int p1), .val (.int p2), .val (.int (0 : Int32)), .val (.int (3 : Int32)), .val (.ref b241), .val (.int vg249), .unset, .unset, .unset, .unset, .unset, .unset] [(.int vg250)]))
      refine own_via (fun t k => XS.istore X245.here hx rfl (hb hby at_40) rfl (l' := #[.val (.int p0), .val (.int p1), .val (.int p2), .val (.int (0 : Int32)), .val (.int (3 : Int32)), .val (.ref b241), .val (.int vg249), .val (.int vg250), .unset, .unset, .unset, .unset, .unset]) rfl k) ?_
      show own_G p e below _ (T245.setTop (mkF m 42 #[.val (.int p0), .val (.int p1), .val (.int p2), .val (.int (0 : Int32)), .val (.int (3 : Int32)), .val (.ref b241), .val (.int vg249), .val (.int vg250), .unset, .unset, .unset, .unset, .unset] []))
      refine own_via (fun t k => XS.iloadN X245.here hx rfl (hb hby at_42) rfl k) ?_
      show own_G p e below _ (T245.setTop (mkF m 43 #[.val (.int p0), .val (.int p1), .val (.int p2), .val (.int (0 : Int32)), .val (.int (3 : Int32)), .val (.ref b241), .val (.int vg249), .val (.int vg250), .unset, .unset, .unset, .unset, .unset] [(.int p0)]))
      refine own_via (fun t k => XS.bipush X245.here hx rfl (hb hby at_43) k) ?_
      show own_G p e below _ (T245.setTop (mkF m 45 #[.val (.int p0), .val (.int p1), .val (.int p2), .val (.int (0 : Int32)), .val (.int (3 : Int32)), .val (.ref b241), .val (.int vg249), .val (.int vg250), .unset, .unset, .unset, .unset, .unset] [(.int (16 : Int32)), (.int p0)]))
      refine own_via (fun t k => XS.ishr X245.here hx rfl (hb hby at_45) rfl k) ?_
      show own_G p e below _ (T245.setTop (mkF m 46 #[.val (.int p0), .val (.int p1), .val (.int p2), .val (.int (0 : Int32)), .val (.int (3 : Int32)), .val (.ref b241), .val (.int vg249), .val (.int vg250), .unset, .unset, .unset, .unset, .unset] [(.int (p0 >>> ((16 : Int32) &&& 31)))]))
      refine own_via (fun t k => XS.i2b X245.here hx rfl (hb hby at_46) rfl k) ?_
      show own_G p e below _ (T245.setTop (mkF m 47 #[.val (.int p0), .val (.int p1), .val (.int p2), .val (.int (0 : Int32)), .val (.int (3 : Int32)), .val (.ref b241), .val (.int vg249), .val (.int vg250), .unset, .unset, .unset, .unset, .unset] [(.int ((p0 >>> ((16 : Int32) &&& 31)).toInt8.toInt32))]))
      generalize hvg251 : ((p0 >>> ((16 : Int32) &&& 31)).toInt8.toInt32) = vg251
      show own_G p e below _ (T245.setTop (mkF m 47 #[.val (.int p0), .val (.int p1), .val (.int p2), .val (.int (0 : Int32)), .val (.int (3 : Int32)), .val (.ref b241), .val (.int vg249), .val (.int vg250), .unset, .unset, .unset, .unset, .unset] [(.int vg251)]))
      refine own_via (fun t k => XS.istore X245.here hx rfl (hb hby at_47) rfl (l' := #[.val (.int p0), .val (.int p1), .val (.int p2), .val (.int (0 : Int32)), .val (.int (3 : Int32)), .val (.ref b241), .val (.int vg249), .val (.int vg250), .val (.int vg251), .unset, .unset, .unset, .unset]) rfl k) ?_
      show own_G p e below _ (T245.setTop (mkF m 49 #[.val (.int p0), .val (.int p1), .val (.int p2), .val (.int (0 : Int32)), .val (.int (3 : Int32)), .val (.ref b241), .val (.int vg249), .val (.int vg250), .val (.int vg251), .unset, .unset, .unset, .unset] []))
      refine own_via (fun t k => XS.iload X245.here hx rfl (hb hby at_49) rfl k) ?_
      show own_G p e below _ (T245.setTop (mkF m 51 #[.val (.int p0), .val (.int p1), .val (.int p2), .val (.int (0 : Int32)), .val (.int (3 : Int32)), .val (.ref b241), .val (.int vg249), .val (.int vg250), .val (.int vg251), .unset, .unset, .unset, .unset] [(.int (3 : Int32))]))
      obtain ⟨T252, h252, k252, b252, X252, e252, E252, ga252, V252, Ex252, st252⟩ := own_newA X245 hx hZ (hw _ (List.mem_of_getElem? (i := 0) rfl)) e245 (pc := 51) (Ls := #[.val (.int p0), .val (.int p1), .val (.int p2), .val (.int (0 : Int32)), .val (.int (3 : Int32)), .val (.ref b241), .val (.int vg249), .val (.int vg250), .val (.int vg251), .unset, .unset, .unset, .unset]) (rest := []) (hb hby at_51) (n := (3 : Int32)) (by decide) (cap := 3) (by decide) (by decide) (by decide) (by decide) 3 rfl
      refine own_via st252 ?_
      have ne253 : b241 ≠ b252 := Nat.ne_of_lt (Nat.lt_of_lt_of_le f246.lt (Nat.le_of_eq ga252.symm))
      have f254 : Exa Z h252 b241 "[B" := f246.ext E252
      have f255 : Arv Z h252 b241 k241 .byte (1 : Int32) [(.int ((((p0.toUInt32 >>> ((24 : Int32) &&& 31).toUInt32).toInt32).toInt8.toInt32).toInt8.toInt32))] (.int (0 : Int32)) := f247.ext E252
      have f256 : Arv Z h252 b252 k252 .byte (3 : Int32) [(.int (0 : Int32)), (.int (0 : Int32)), (.int (0 : Int32))] (.int (0 : Int32)) := V252
      have f257 : Exa Z h252 b252 "[B" := Ex252
      have g_b252 : n0 ≤ b252 := Nat.le_trans Zs248 (Nat.le_of_eq ga252.symm)
      have Zs258 : n0 ≤ h252.size := Nat.le_trans Zs248 E252.1
      show own_G p e below _ (T252.setTop (mkF m 53 #[.val (.int p0), .val (.int p1), .val (.int p2), .val (.int (0 : Int32)), .val (.int (3 : Int32)), .val (.ref b241), .val (.int vg249), .val (.int vg250), .val (.int vg251), .unset, .unset, .unset, .unset] [(.ref b252)]))
      refine own_via (fun t k => XS.astore X252.here hx rfl (hb hby at_53) rfl rfl (l' := #[.val (.int p0), .val (.int p1), .val (.int p2), .val (.int (0 : Int32)), .val (.int (3 : Int32)), .val (.ref b241), .val (.int vg249), .val (.int vg250), .val (.int vg251), .val (.ref b252), .unset, .unset, .unset]) rfl k) ?_
      show own_G p e below _ (T252.setTop (mkF m 55 #[.val (.int p0), .val (.int p1), .val (.int p2), .val (.int (0 : Int32)), .val (.int (3 : Int32)), .val (.ref b241), .val (.int vg249), .val (.int vg250), .val (.int vg251), .val (.ref b252), .unset, .unset, .unset] []))
      refine own_via (fun t k => XS.iload X252.here hx rfl (hb hby at_55) rfl k) ?_
      show own_G p e below _ (T252.setTop (mkF m 57 #[.val (.int p0), .val (.int p1), .val (.int p2), .val (.int (0 : Int32)), .val (.int (3 : Int32)), .val (.ref b241), .val (.int vg249), .val (.int vg250), .val (.int vg251), .val (.ref b252), .unset, .unset, .unset] [(.int (3 : Int32))]))
      refine own_via (fun t k => XS.ifNo X252.here hx rfl (hb hby at_57) rfl ((if0 _ _).trans (tlt (by decide : (0 : Int32) < (3 : Int32))).2.2.2) k) ?_
      show own_G p e below _ (T252.setTop (mkF m 60 #[.val (.int p0), .val (.int p1), .val (.int p2), .val (.int (0 : Int32)), .val (.int (3 : Int32)), .val (.ref b241), .val (.int vg249), .val (.int vg250), .val (.int vg251), .val (.ref b252), .unset, .unset, .unset] []))
      refine own_via (fun t k => XS.aload X252.here hx rfl (hb hby at_60) rfl rfl k) ?_
      show own_G p e below _ (T252.setTop (mkF m 62 #[.val (.int p0), .val (.int p1), .val (.int p2), .val (.int (0 : Int32)), .val (.int (3 : Int32)), .val (.ref b241), .val (.int vg249), .val (.int vg250), .val (.int vg251), .val (.ref b252), .unset, .unset, .unset] [(.ref b252)]))
      refine own_via (fun t k => XS.iconst X252.here hx rfl (hb hby at_62) k) ?_
      show own_G p e below _ (T252.setTop (mkF m 63 #[.val (.int p0), .val (.int p1), .val (.int p2), .val (.int (0 : Int32)), .val (.int (3 : Int32)), .val (.ref b241), .val (.int vg249), .val (.int vg250), .val (.int vg251), .val (.ref b252), .unset, .unset, .unset] [(.int (0 : Int32)), (.ref b252)]))
      refine own_via (fun t k => XS.iload X252.here hx rfl (hb hby at_63) rfl k) ?_
      show own_G p e below _ (T252.setTop (mkF m 65 #[.val (.int p0), .val (.int p1), .val (.int p2), .val (.int (0 : Int32)), .val (.int (3 : Int32)), .val (.ref b241), .val (.int vg249), .val (.int vg250), .val (.int vg251), .val (.ref b252), .unset, .unset, .unset] [(.int vg249), (.int (0 : Int32)), (.ref b252)]))
      obtain ⟨T259, h259, L259, X259, N259, e259, W259, V259, st259⟩ := own_stB X252 N245 hx hZ e252 f256 g_b252 (j := (0 : Int32)) (x := vg249) (i := 0) ⟨by decide, by decide⟩ rfl (Nat.le_of_ble_eq_true rfl) (pc := 65) (Ls := #[.val (.int p0), .val (.int p1), .val (.int p2), .val (.int (0 : Int32)), .val (.int (3 : Int32)), .val (.ref b241), .val (.int vg249), .val (.int vg250), .val (.int vg251), .val (.ref b252), .unset, .unset, .unset]) (rest := []) (hb hby at_65)
      refine own_via st259 ?_
      have f260 : Exa Z h259 b241 "[B" := f254.wr W259
      have f261 : Arv Z h259 b241 k241 .byte (1 : Int32) [(.int ((((p0.toUInt32 >>> ((24 : Int32) &&& 31).toUInt32).toInt32).toInt8.toInt32).toInt8.toInt32))] (.int (0 : Int32)) := f255.other W259 ne253
      have f262 : Exa Z h259 b252 "[B" := f257.wr W259
      have f263 : Arv Z h259 b252 k252 .byte (3 : Int32) [(.int (vg249.toInt8.toInt32)), (.int (0 : Int32)), (.int (0 : Int32))] (.int (0 : Int32)) := V259
      have Zs264 : n0 ≤ h259.size := by rw [W259.size]; exact Zs258
      show own_G p e below _ (T259.setTop (mkF m 66 #[.val (.int p0), .val (.int p1), .val (.int p2), .val (.int (0 : Int32)), .val (.int (3 : Int32)), .val (.ref b241), .val (.int vg249), .val (.int vg250), .val (.int vg251), .val (.ref b252), .unset, .unset, .unset] []))
      refine own_via (fun t k => XS.iload X259.here hx rfl (hb hby at_66) rfl k) ?_
      show own_G p e below _ (T259.setTop (mkF m 68 #[.val (.int p0), .val (.int p1), .val (.int p2), .val (.int (0 : Int32)), .val (.int (3 : Int32)), .val (.ref b241), .val (.int vg249), .val (.int vg250), .val (.int vg251), .val (.ref b252), .unset, .unset, .unset] [(.int (3 : Int32))]))
      refine own_via (fun t k => XS.iconst X259.here hx rfl (hb hby at_68) k) ?_
      show own_G p e below _ (T259.setTop (mkF m 69 #[.val (.int p0), .val (.int p1), .val (.int p2), .val (.int (0 : Int32)), .val (.int (3 : Int32)), .val (.ref b241), .val (.int vg249), .val (.int vg250), .val (.int vg251), .val (.ref b252), .unset, .unset, .unset] [(.int (1 : Int32)), (.int (3 : Int32))]))
      refine own_via (fun t k => XS.icmpNo X259.here hx rfl (hb hby at_69) rfl (tlt (by decide : (1 : Int32) < (3 : Int32))).2.2.2 k) ?_
      show own_G p e below _ (T259.setTop (mkF m 72 #[.val (.int p0), .val (.int p1), .val (.int p2), .val (.int (0 : Int32)), .val (.int (3 : Int32)), .val (.ref b241), .val (.int vg249), .val (.int vg250), .val (.int vg251), .val (.ref b252), .unset, .unset, .unset] []))
      refine own_via (fun t k => XS.aload X259.here hx rfl (hb hby at_72) rfl rfl k) ?_
      show own_G p e below _ (T259.setTop (mkF m 74 #[.val (.int p0), .val (.int p1), .val (.int p2), .val (.int (0 : Int32)), .val (.int (3 : Int32)), .val (.ref b241), .val (.int vg249), .val (.int vg250), .val (.int vg251), .val (.ref b252), .unset, .unset, .unset] [(.ref b252)]))
      refine own_via (fun t k => XS.iconst X259.here hx rfl (hb hby at_74) k) ?_
      show own_G p e below _ (T259.setTop (mkF m 75 #[.val (.int p0), .val (.int p1), .val (.int p2), .val (.int (0 : Int32)), .val (.int (3 : Int32)), .val (.ref b241), .val (.int vg249), .val (.int vg250), .val (.int vg251), .val (.ref b252), .unset, .unset, .unset] [(.int (1 : Int32)), (.ref b252)]))
      refine own_via (fun t k => XS.iload X259.here hx rfl (hb hby at_75) rfl k) ?_
      show own_G p e below _ (T259.setTop (mkF m 77 #[.val (.int p0), .val (.int p1), .val (.int p2), .val (.int (0 : Int32)), .val (.int (3 : Int32)), .val (.ref b241), .val (.int vg249), .val (.int vg250), .val (.int vg251), .val (.ref b252), .unset, .unset, .unset] [(.int vg250), (.int (1 : Int32)), (.ref b252)]))
      obtain ⟨T265, h265, L265, X265, N265, e265, W265, V265, st265⟩ := own_stB X259 N259 hx hZ e259 f263 g_b252 (j := (1 : Int32)) (x := vg250) (i := 1) ⟨by decide, by decide⟩ rfl (Nat.le_of_ble_eq_true rfl) (pc := 77) (Ls := #[.val (.int p0), .val (.int p1), .val (.int p2), .val (.int (0 : Int32)), .val (.int (3 : Int32)), .val (.ref b241), .val (.int vg249), .val (.int vg250), .val (.int vg251), .val (.ref b252), .unset, .unset, .unset]) (rest := []) (hb hby at_77)
      refine own_via st265 ?_
      have f266 : Exa Z h265 b241 "[B" := f260.wr W265
      have f267 : Arv Z h265 b241 k241 .byte (1 : Int32) [(.int ((((p0.toUInt32 >>> ((24 : Int32) &&& 31).toUInt32).toInt32).toInt8.toInt32).toInt8.toInt32))] (.int (0 : Int32)) := f261.other W265 ne253
      have f268 : Exa Z h265 b252 "[B" := f262.wr W265
      have f269 : Arv Z h265 b252 k252 .byte (3 : Int32) [(.int (vg249.toInt8.toInt32)), (.int (vg250.toInt8.toInt32)), (.int (0 : Int32))] (.int (0 : Int32)) := V265
      have Zs270 : n0 ≤ h265.size := by rw [W265.size]; exact Zs264
      show own_G p e below _ (T265.setTop (mkF m 78 #[.val (.int p0), .val (.int p1), .val (.int p2), .val (.int (0 : Int32)), .val (.int (3 : Int32)), .val (.ref b241), .val (.int vg249), .val (.int vg250), .val (.int vg251), .val (.ref b252), .unset, .unset, .unset] []))
      refine own_via (fun t k => XS.iload X265.here hx rfl (hb hby at_78) rfl k) ?_
      show own_G p e below _ (T265.setTop (mkF m 80 #[.val (.int p0), .val (.int p1), .val (.int p2), .val (.int (0 : Int32)), .val (.int (3 : Int32)), .val (.ref b241), .val (.int vg249), .val (.int vg250), .val (.int vg251), .val (.ref b252), .unset, .unset, .unset] [(.int (3 : Int32))]))
      refine own_via (fun t k => XS.iconst X265.here hx rfl (hb hby at_80) k) ?_
      show own_G p e below _ (T265.setTop (mkF m 81 #[.val (.int p0), .val (.int p1), .val (.int p2), .val (.int (0 : Int32)), .val (.int (3 : Int32)), .val (.ref b241), .val (.int vg249), .val (.int vg250), .val (.int vg251), .val (.ref b252), .unset, .unset, .unset] [(.int (2 : Int32)), (.int (3 : Int32))]))
      refine own_via (fun t k => XS.icmpNo X265.here hx rfl (hb hby at_81) rfl (tlt (by decide : (2 : Int32) < (3 : Int32))).2.2.2 k) ?_
      show own_G p e below _ (T265.setTop (mkF m 84 #[.val (.int p0), .val (.int p1), .val (.int p2), .val (.int (0 : Int32)), .val (.int (3 : Int32)), .val (.ref b241), .val (.int vg249), .val (.int vg250), .val (.int vg251), .val (.ref b252), .unset, .unset, .unset] []))
      refine own_via (fun t k => XS.aload X265.here hx rfl (hb hby at_84) rfl rfl k) ?_
      show own_G p e below _ (T265.setTop (mkF m 86 #[.val (.int p0), .val (.int p1), .val (.int p2), .val (.int (0 : Int32)), .val (.int (3 : Int32)), .val (.ref b241), .val (.int vg249), .val (.int vg250), .val (.int vg251), .val (.ref b252), .unset, .unset, .unset] [(.ref b252)]))
      refine own_via (fun t k => XS.iconst X265.here hx rfl (hb hby at_86) k) ?_
      show own_G p e below _ (T265.setTop (mkF m 87 #[.val (.int p0), .val (.int p1), .val (.int p2), .val (.int (0 : Int32)), .val (.int (3 : Int32)), .val (.ref b241), .val (.int vg249), .val (.int vg250), .val (.int vg251), .val (.ref b252), .unset, .unset, .unset] [(.int (2 : Int32)), (.ref b252)]))
      refine own_via (fun t k => XS.iload X265.here hx rfl (hb hby at_87) rfl k) ?_
      show own_G p e below _ (T265.setTop (mkF m 89 #[.val (.int p0), .val (.int p1), .val (.int p2), .val (.int (0 : Int32)), .val (.int (3 : Int32)), .val (.ref b241), .val (.int vg249), .val (.int vg250), .val (.int vg251), .val (.ref b252), .unset, .unset, .unset] [(.int vg251), (.int (2 : Int32)), (.ref b252)]))
      obtain ⟨T271, h271, L271, X271, N271, e271, W271, V271, st271⟩ := own_stB X265 N265 hx hZ e265 f269 g_b252 (j := (2 : Int32)) (x := vg251) (i := 2) ⟨by decide, by decide⟩ rfl (Nat.le_of_ble_eq_true rfl) (pc := 89) (Ls := #[.val (.int p0), .val (.int p1), .val (.int p2), .val (.int (0 : Int32)), .val (.int (3 : Int32)), .val (.ref b241), .val (.int vg249), .val (.int vg250), .val (.int vg251), .val (.ref b252), .unset, .unset, .unset]) (rest := []) (hb hby at_89)
      refine own_via st271 ?_
      have f272 : Exa Z h271 b241 "[B" := f266.wr W271
      have f273 : Arv Z h271 b241 k241 .byte (1 : Int32) [(.int ((((p0.toUInt32 >>> ((24 : Int32) &&& 31).toUInt32).toInt32).toInt8.toInt32).toInt8.toInt32))] (.int (0 : Int32)) := f267.other W271 ne253
      have f274 : Exa Z h271 b252 "[B" := f268.wr W271
      have f275 : Arv Z h271 b252 k252 .byte (3 : Int32) [(.int (vg249.toInt8.toInt32)), (.int (vg250.toInt8.toInt32)), (.int (vg251.toInt8.toInt32))] (.int (0 : Int32)) := V271
      have Zs276 : n0 ≤ h271.size := by rw [W271.size]; exact Zs270
      show own_G p e below _ (T271.setTop (mkF m 90 #[.val (.int p0), .val (.int p1), .val (.int p2), .val (.int (0 : Int32)), .val (.int (3 : Int32)), .val (.ref b241), .val (.int vg249), .val (.int vg250), .val (.int vg251), .val (.ref b252), .unset, .unset, .unset] []))
      obtain ⟨T277, h277, b277, X277, e277, E277, ga277, A277, D277, st277⟩ := own_newO X271 hx hZ hown (hw _ (List.mem_of_getElem? (i := 1) rfl)) (hw _ (List.mem_of_getElem? (i := 2) rfl)) (hw _ (List.mem_of_getElem? (i := 3) rfl)) e271 (pc := 90) (Ls := #[.val (.int p0), .val (.int p1), .val (.int p2), .val (.int (0 : Int32)), .val (.int (3 : Int32)), .val (.ref b241), .val (.int vg249), .val (.int vg250), .val (.int vg251), .val (.ref b252), .unset, .unset, .unset]) (rest := []) (hb hby at_90) (by decide) (by decide)
      refine own_via st277 ?_
      have ne278 : b241 ≠ b277 := Nat.ne_of_lt (Nat.lt_of_lt_of_le f272.lt (Nat.le_of_eq ga277.symm))
      have ne279 : b252 ≠ b277 := Nat.ne_of_lt (Nat.lt_of_lt_of_le f274.lt (Nat.le_of_eq ga277.symm))
      have f280 : Exa Z h277 b241 "[B" := f272.ext E277
      have f281 : Arv Z h277 b241 k241 .byte (1 : Int32) [(.int ((((p0.toUInt32 >>> ((24 : Int32) &&& 31).toUInt32).toInt32).toInt8.toInt32).toInt8.toInt32))] (.int (0 : Int32)) := f273.ext E277
      have f282 : Exa Z h277 b252 "[B" := f274.ext E277
      have f283 : Arv Z h277 b252 k252 .byte (3 : Int32) [(.int (vg249.toInt8.toInt32)), (.int (vg250.toInt8.toInt32)), (.int (vg251.toInt8.toInt32))] (.int (0 : Int32)) := f275.ext E277
      have f284 : Fld Z h277 b277 "com/example/clementi/clementi/store/KeyRange" "prefix" "[B" .null := D277 (Or.inr (hw _ (List.mem_of_getElem? (i := 11) rfl))) (ty := (.array .byte)) (by decide)
      have f285 : Fld Z h277 b277 "com/example/clementi/clementi/store/KeyRange" "end" "[B" .null := D277 (Or.inr (hw _ (List.mem_of_getElem? (i := 13) rfl))) (ty := (.array .byte)) (by decide)
      have g_b277 : n0 ≤ b277 := Nat.le_trans Zs276 (Nat.le_of_eq ga277.symm)
      have Zs286 : n0 ≤ h277.size := Nat.le_trans Zs276 E277.1
      show own_G p e below _ (T277.setTop (mkF m 93 #[.val (.int p0), .val (.int p1), .val (.int p2), .val (.int (0 : Int32)), .val (.int (3 : Int32)), .val (.ref b241), .val (.int vg249), .val (.int vg250), .val (.int vg251), .val (.ref b252), .unset, .unset, .unset] [(.ref b277)]))
      refine own_via (fun t k => XS.dup X277.here hx rfl (hb hby at_93) rfl rfl k) ?_
      show own_G p e below _ (T277.setTop (mkF m 94 #[.val (.int p0), .val (.int p1), .val (.int p2), .val (.int (0 : Int32)), .val (.int (3 : Int32)), .val (.ref b241), .val (.int vg249), .val (.int vg250), .val (.int vg251), .val (.ref b252), .unset, .unset, .unset] [(.ref b277), (.ref b277)]))
      refine own_via (fun t k => XS.aload X277.here hx rfl (hb hby at_94) rfl rfl k) ?_
      show own_G p e below _ (T277.setTop (mkF m 96 #[.val (.int p0), .val (.int p1), .val (.int p2), .val (.int (0 : Int32)), .val (.int (3 : Int32)), .val (.ref b241), .val (.int vg249), .val (.int vg250), .val (.int vg251), .val (.ref b252), .unset, .unset, .unset] [(.ref b241), (.ref b277), (.ref b277)]))
      refine own_via (fun t k => XS.iloadN X277.here hx rfl (hb hby at_96) rfl k) ?_
      show own_G p e below _ (T277.setTop (mkF m 97 #[.val (.int p0), .val (.int p1), .val (.int p2), .val (.int (0 : Int32)), .val (.int (3 : Int32)), .val (.ref b241), .val (.int vg249), .val (.int vg250), .val (.int vg251), .val (.ref b252), .unset, .unset, .unset] [(.int (0 : Int32)), (.ref b241), (.ref b277), (.ref b277)]))
      refine own_via (fun t k => XS.ifYes X277.here hx rfl (pc0 := 97) (pc' := 104) rfl (hb hby at_97) rfl ((if0 _ _).trans (teq (by decide : (0 : Int32) = (0 : Int32))).1) (by decide) (by decide) k) ?_
      show own_G p e below _ (T277.setTop (mkF m 104 #[.val (.int p0), .val (.int p1), .val (.int p2), .val (.int (0 : Int32)), .val (.int (3 : Int32)), .val (.ref b241), .val (.int vg249), .val (.int vg250), .val (.int vg251), .val (.ref b252), .unset, .unset, .unset] [(.ref b241), (.ref b277), (.ref b277)]))
      refine own_via (fun t k => XS.aload X277.here hx rfl (hb hby at_104) rfl rfl k) ?_
      show own_G p e below _ (T277.setTop (mkF m 106 #[.val (.int p0), .val (.int p1), .val (.int p2), .val (.int (0 : Int32)), .val (.int (3 : Int32)), .val (.ref b241), .val (.int vg249), .val (.int vg250), .val (.int vg251), .val (.ref b252), .unset, .unset, .unset] [(.ref b252), (.ref b241), (.ref b277), (.ref b277)]))
      obtain ⟨v287, T287, h287, L287, X287, N287, e287, hq287, st287⟩ := own_callI (y := (⟨"com/example/clementi/clementi/store/KeyRange", "<init>", "([B[B)V"⟩ : MethodName)) (W := 1) (a := b277) X277 N271 hx hZ rfl hown (hw _ (List.mem_of_getElem? (i := 4) rfl)) (hw _ (List.mem_of_getElem? (i := 5) rfl)) (hw _ (List.mem_of_getElem? (i := 3) rfl)) (hw _ (List.mem_of_getElem? (i := 6) rfl)) (by decide) (own_init0 l Z a0 hw [] b277 b241 b252 (.null) (.null) h277 n0 Zs286 A277 f284 f285 g_b277) (by decide) (by decide) (by decide) (by decide) e277 (pc := 106) (Ls := #[.val (.int p0), .val (.int p1), .val (.int p2), .val (.int (0 : Int32)), .val (.int (3 : Int32)), .val (.ref b241), .val (.int vg249), .val (.int vg250), .val (.int vg251), .val (.ref b252), .unset, .unset, .unset]) (st := [(.ref b252), (.ref b241), (.ref b277), (.ref b277)]) (argsL := [(.ref b241), (.ref b252)]) (rest := [(.ref b277)]) (by rw [hml]; rfl) (lenOf own_pd0 rfl) rfl rfl (Nat.le_of_eq rfl) (hb hby at_106)
      obtain ⟨rfl, K287, o287_0, o287_1, o287_2⟩ := hq287
      refine own_via st287 ?_
      have f288 : Exa Z h287 b241 "[B" := f280.keep K287
      have f289 : Arv Z h287 b241 k241 .byte (1 : Int32) [(.int ((((p0.toUInt32 >>> ((24 : Int32) &&& 31).toUInt32).toInt32).toInt8.toInt32).toInt8.toInt32))] (.int (0 : Int32)) := f281.keep K287 (by simp only [List.mem_cons, List.not_mem_nil, or_false, not_or]; exact ne278)
      have f290 : Exa Z h287 b252 "[B" := f282.keep K287
      have f291 : Arv Z h287 b252 k252 .byte (3 : Int32) [(.int (vg249.toInt8.toInt32)), (.int (vg250.toInt8.toInt32)), (.int (vg251.toInt8.toInt32))] (.int (0 : Int32)) := f283.keep K287 (by simp only [List.mem_cons, List.not_mem_nil, or_false, not_or]; exact ne279)
      have f292 : Exa Z h287 b277 "com/example/clementi/clementi/store/KeyRange" := A277.keep K287
      have Zs293 : n0 ≤ h287.size := Nat.le_trans Zs286 K287.1
      show own_G p e below _ (T287.setTop (mkF m 109 #[.val (.int p0), .val (.int p1), .val (.int p2), .val (.int (0 : Int32)), .val (.int (3 : Int32)), .val (.ref b241), .val (.int vg249), .val (.int vg250), .val (.int vg251), .val (.ref b252), .unset, .unset, .unset] [(.ref b277)]))
      refine own_via (fun t k => XS.astore X287.here hx rfl (hb hby at_109) rfl rfl (l' := #[.val (.int p0), .val (.int p1), .val (.int p2), .val (.int (0 : Int32)), .val (.int (3 : Int32)), .val (.ref b241), .val (.int vg249), .val (.int vg250), .val (.int vg251), .val (.ref b252), .val (.ref b277), .unset, .unset]) rfl k) ?_
      show own_G p e below _ (T287.setTop (mkF m 111 #[.val (.int p0), .val (.int p1), .val (.int p2), .val (.int (0 : Int32)), .val (.int (3 : Int32)), .val (.ref b241), .val (.int vg249), .val (.int vg250), .val (.int vg251), .val (.ref b252), .val (.ref b277), .unset, .unset] []))
      refine own_via (fun t k => XS.aload X287.here hx rfl (hb hby at_111) rfl rfl k) ?_
      show own_G p e below _ (T287.setTop (mkF m 113 #[.val (.int p0), .val (.int p1), .val (.int p2), .val (.int (0 : Int32)), .val (.int (3 : Int32)), .val (.ref b241), .val (.int vg249), .val (.int vg250), .val (.int vg251), .val (.ref b252), .val (.ref b277), .unset, .unset] [(.ref b277)]))
      obtain ⟨v294, T294, h294, L294, X294, N294, e294, hq294, st294⟩ := own_callV (y := (⟨"com/example/clementi/clementi/store/KeyRange", "end", "()[B"⟩ : MethodName)) (z := (⟨"com/example/clementi/clementi/store/KeyRange", "end", "()[B"⟩ : MethodName)) (W := 0) (a := b277) X287 N287 hx hZ hown (hw _ (List.mem_of_getElem? (i := 14) rfl)) (hw _ (List.mem_of_getElem? (i := 15) rfl)) (notFace_of_selects (args := #[]) (mvT hZ (hw _ (List.mem_of_getElem? (i := 17) rfl)))) (hw _ (List.mem_of_getElem? (i := 17) rfl)) (hw _ (List.mem_of_getElem? (i := 16) rfl)) (hw _ (List.mem_of_getElem? (i := 3) rfl)) (hw _ (List.mem_of_getElem? (i := 18) rfl)) (by decide) (own_end1 l Z a0 hw [] b277 b252 k252 (3 : Int32) [(.int (vg249.toInt8.toInt32)), (.int (vg250.toInt8.toInt32)), (.int (vg251.toInt8.toInt32))] (.int (0 : Int32)) h287 n0 Zs293 o287_2 f291 f290 (by decide)) (by decide) (by decide) (by decide) (by decide) e287 o287_0 (pc := 113) (Ls := #[.val (.int p0), .val (.int p1), .val (.int p2), .val (.int (0 : Int32)), .val (.int (3 : Int32)), .val (.ref b241), .val (.int vg249), .val (.int vg250), .val (.int vg251), .val (.ref b252), .val (.ref b277), .unset, .unset]) (st := [(.ref b277)]) (argsL := []) (rest := []) (by rw [hml]; rfl) (lenOf own_pd1 rfl) rfl rfl (Nat.le_of_eq rfl) (hb hby at_113)
      obtain ⟨x294, rfl, K294, zf_x294, o294_0, o294_1⟩ := hq294
      refine own_via st294 ?_
      have ne295 : b241 ≠ x294 := Nat.ne_of_lt (Nat.lt_of_lt_of_le f288.lt zf_x294)
      have ne296 : b252 ≠ x294 := Nat.ne_of_lt (Nat.lt_of_lt_of_le f290.lt zf_x294)
      have ne297 : b277 ≠ x294 := Nat.ne_of_lt (Nat.lt_of_lt_of_le o287_0.lt zf_x294)
      have g_x294 : n0 ≤ x294 := Nat.le_trans Zs293 zf_x294
      have f298 : Exa Z h294 b241 "[B" := f288.ext (own_ke K294)
      have f299 : Arv Z h294 b241 k241 .byte (1 : Int32) [(.int ((((p0.toUInt32 >>> ((24 : Int32) &&& 31).toUInt32).toInt32).toInt8.toInt32).toInt8.toInt32))] (.int (0 : Int32)) := f289.ext (own_ke K294)
      have f300 : Exa Z h294 b252 "[B" := f290.ext (own_ke K294)
      have f301 : Arv Z h294 b252 k252 .byte (3 : Int32) [(.int (vg249.toInt8.toInt32)), (.int (vg250.toInt8.toInt32)), (.int (vg251.toInt8.toInt32))] (.int (0 : Int32)) := f291.ext (own_ke K294)
      have f302 : Exa Z h294 b277 "com/example/clementi/clementi/store/KeyRange" := o287_0.ext (own_ke K294)
      have f303 : Fld Z h294 b277 "com/example/clementi/clementi/store/KeyRange" "prefix" "[B" (.ref b241) := o287_1.ext (own_ke K294)
      have f304 : Fld Z h294 b277 "com/example/clementi/clementi/store/KeyRange" "end" "[B" (.ref b252) := o287_2.ext (own_ke K294)
      have Zs305 : n0 ≤ h294.size := Nat.le_trans Zs293 K294.1
      show own_G p e below _ (T294.setTop (mkF m 116 #[.val (.int p0), .val (.int p1), .val (.int p2), .val (.int (0 : Int32)), .val (.int (3 : Int32)), .val (.ref b241), .val (.int vg249), .val (.int vg250), .val (.int vg251), .val (.ref b252), .val (.ref b277), .unset, .unset] [(.ref x294)]))
      refine own_via (fun t k => XS.astore X294.here hx rfl (hb hby at_116) rfl rfl (l' := #[.val (.int p0), .val (.int p1), .val (.int p2), .val (.int (0 : Int32)), .val (.int (3 : Int32)), .val (.ref b241), .val (.int vg249), .val (.int vg250), .val (.int vg251), .val (.ref b252), .val (.ref b277), .val (.ref x294), .unset]) rfl k) ?_
      show own_G p e below _ (T294.setTop (mkF m 118 #[.val (.int p0), .val (.int p1), .val (.int p2), .val (.int (0 : Int32)), .val (.int (3 : Int32)), .val (.ref b241), .val (.int vg249), .val (.int vg250), .val (.int vg251), .val (.ref b252), .val (.ref b277), .val (.ref x294), .unset] []))
      refine own_via (fun t k => XS.iloadN X294.here hx rfl (hb hby at_118) rfl k) ?_
      show own_G p e below _ (T294.setTop (mkF m 119 #[.val (.int p0), .val (.int p1), .val (.int p2), .val (.int (0 : Int32)), .val (.int (3 : Int32)), .val (.ref b241), .val (.int vg249), .val (.int vg250), .val (.int vg251), .val (.ref b252), .val (.ref b277), .val (.ref x294), .unset] [(.int (0 : Int32))]))
      refine own_via (fun t k => XS.ifYes X294.here hx rfl (pc0 := 119) (pc' := 141) rfl (hb hby at_119) rfl ((if0 _ _).trans (teq (by decide : (0 : Int32) = (0 : Int32))).1) (by decide) (by decide) k) ?_
      show own_G p e below _ (T294.setTop (mkF m 141 #[.val (.int p0), .val (.int p1), .val (.int p2), .val (.int (0 : Int32)), .val (.int (3 : Int32)), .val (.ref b241), .val (.int vg249), .val (.int vg250), .val (.int vg251), .val (.ref b252), .val (.ref b277), .val (.ref x294), .unset] []))
      refine own_via (fun t k => XS.aload X294.here hx rfl (hb hby at_141) rfl rfl k) ?_
      show own_G p e below _ (T294.setTop (mkF m 143 #[.val (.int p0), .val (.int p1), .val (.int p2), .val (.int (0 : Int32)), .val (.int (3 : Int32)), .val (.ref b241), .val (.int vg249), .val (.int vg250), .val (.int vg251), .val (.ref b252), .val (.ref b277), .val (.ref x294), .unset] [(.ref x294)]))
      refine own_via (fun t k => XS.ifnullNo X294.here hx rfl (hb hby at_143) rfl k) ?_
      show own_G p e below _ (T294.setTop (mkF m 146 #[.val (.int p0), .val (.int p1), .val (.int p2), .val (.int (0 : Int32)), .val (.int (3 : Int32)), .val (.ref b241), .val (.int vg249), .val (.int vg250), .val (.int vg251), .val (.ref b252), .val (.ref b277), .val (.ref x294), .unset] []))
      refine own_via (fun t k => XS.aload X294.here hx rfl (hb hby at_146) rfl rfl k) ?_
      show own_G p e below _ (T294.setTop (mkF m 148 #[.val (.int p0), .val (.int p1), .val (.int p2), .val (.int (0 : Int32)), .val (.int (3 : Int32)), .val (.ref b241), .val (.int vg249), .val (.int vg250), .val (.int vg251), .val (.ref b252), .val (.ref b277), .val (.ref x294), .unset] [(.ref x294)]))
      refine own_via (fun t k => XS.aload X294.here hx rfl (hb hby at_148) rfl rfl k) ?_
      show own_G p e below _ (T294.setTop (mkF m 150 #[.val (.int p0), .val (.int p1), .val (.int p2), .val (.int (0 : Int32)), .val (.int (3 : Int32)), .val (.ref b241), .val (.int vg249), .val (.int vg250), .val (.int vg251), .val (.ref b252), .val (.ref b277), .val (.ref x294), .unset] [(.ref b252), (.ref x294)]))
      refine own_via (fun t k => Jvm.RoadKit.acmp (g := (mkF m 150 #[.val (.int p0), .val (.int p1), .val (.int p2), .val (.int (0 : Int32)), .val (.int (3 : Int32)), .val (.ref b241), .val (.int vg249), .val (.int vg250), .val (.int vg251), .val (.ref b252), .val (.ref b277), .val (.ref x294), .unset] [(.ref b252), (.ref x294)])) X294 hx rfl rfl rfl (pc0 := 150) (pc' := 153) (same := false) rfl (hb hby at_150) rfl (decide_eq_false fun q => (Ne.symm ne296) (Value.ref.inj q)) (by decide) (by decide) k) ?_
      show own_G p e below _ (T294.setTop (mkF m 153 #[.val (.int p0), .val (.int p1), .val (.int p2), .val (.int (0 : Int32)), .val (.int (3 : Int32)), .val (.ref b241), .val (.int vg249), .val (.int vg250), .val (.int vg251), .val (.ref b252), .val (.ref b277), .val (.ref x294), .unset] []))
      refine own_via (fun t k => XS.aload X294.here hx rfl (hb hby at_153) rfl rfl k) ?_
      show own_G p e below _ (T294.setTop (mkF m 155 #[.val (.int p0), .val (.int p1), .val (.int p2), .val (.int (0 : Int32)), .val (.int (3 : Int32)), .val (.ref b241), .val (.int vg249), .val (.int vg250), .val (.int vg251), .val (.ref b252), .val (.ref b277), .val (.ref x294), .unset] [(.ref x294)]))
      refine own_via (own_len X294 hx hZ e294 o294_0 (pc := 155) (Ls := #[.val (.int p0), .val (.int p1), .val (.int p2), .val (.int (0 : Int32)), .val (.int (3 : Int32)), .val (.ref b241), .val (.int vg249), .val (.int vg250), .val (.int vg251), .val (.ref b252), .val (.ref b277), .val (.ref x294), .unset]) (rest := []) (hb hby at_155)) ?_
      show own_G p e below _ (T294.setTop (mkF m 156 #[.val (.int p0), .val (.int p1), .val (.int p2), .val (.int (0 : Int32)), .val (.int (3 : Int32)), .val (.ref b241), .val (.int vg249), .val (.int vg250), .val (.int vg251), .val (.ref b252), .val (.ref b277), .val (.ref x294), .unset] [(.int (3 : Int32))]))
      refine own_via (fun t k => XS.iload X294.here hx rfl (hb hby at_156) rfl k) ?_
      show own_G p e below _ (T294.setTop (mkF m 158 #[.val (.int p0), .val (.int p1), .val (.int p2), .val (.int (0 : Int32)), .val (.int (3 : Int32)), .val (.ref b241), .val (.int vg249), .val (.int vg250), .val (.int vg251), .val (.ref b252), .val (.ref b277), .val (.ref x294), .unset] [(.int (3 : Int32)), (.int (3 : Int32))]))
      refine own_via (fun t k => XS.icmpYes X294.here hx rfl (pc0 := 158) (pc' := 163) rfl (hb hby at_158) rfl (teq (by decide : (3 : Int32) = (3 : Int32))).1 (by decide) (by decide) k) ?_
      show own_G p e below _ (T294.setTop (mkF m 163 #[.val (.int p0), .val (.int p1), .val (.int p2), .val (.int (0 : Int32)), .val (.int (3 : Int32)), .val (.ref b241), .val (.int vg249), .val (.int vg250), .val (.int vg251), .val (.ref b252), .val (.ref b277), .val (.ref x294), .unset] []))
      refine own_via (fun t k => XS.aload X294.here hx rfl (hb hby at_163) rfl rfl k) ?_
      show own_G p e below _ (T294.setTop (mkF m 165 #[.val (.int p0), .val (.int p1), .val (.int p2), .val (.int (0 : Int32)), .val (.int (3 : Int32)), .val (.ref b241), .val (.int vg249), .val (.int vg250), .val (.int vg251), .val (.ref b252), .val (.ref b277), .val (.ref x294), .unset] [(.ref x294)]))
      refine own_via (fun t k => XS.iload X294.here hx rfl (hb hby at_165) rfl k) ?_
      show own_G p e below _ (T294.setTop (mkF m 167 #[.val (.int p0), .val (.int p1), .val (.int p2), .val (.int (0 : Int32)), .val (.int (3 : Int32)), .val (.ref b241), .val (.int vg249), .val (.int vg250), .val (.int vg251), .val (.ref b252), .val (.ref b277), .val (.ref x294), .unset] [(.int (3 : Int32)), (.ref x294)]))
      refine own_via (fun t k => XS.iload X294.here hx rfl (hb hby at_167) rfl k) ?_
      show own_G p e below _ (T294.setTop (mkF m 169 #[.val (.int p0), .val (.int p1), .val (.int p2), .val (.int (0 : Int32)), .val (.int (3 : Int32)), .val (.ref b241), .val (.int vg249), .val (.int vg250), .val (.int vg251), .val (.ref b252), .val (.ref b277), .val (.ref x294), .unset] [(.int vg249), (.int (3 : Int32)), (.ref x294)]))
      refine own_via (fun t k => XS.iload X294.here hx rfl (hb hby at_169) rfl k) ?_
      show own_G p e below _ (T294.setTop (mkF m 171 #[.val (.int p0), .val (.int p1), .val (.int p2), .val (.int (0 : Int32)), .val (.int (3 : Int32)), .val (.ref b241), .val (.int vg249), .val (.int vg250), .val (.int vg251), .val (.ref b252), .val (.ref b277), .val (.ref x294), .unset] [(.int vg250), (.int vg249), (.int (3 : Int32)), (.ref x294)]))
      refine own_via (fun t k => XS.iload X294.here hx rfl (hb hby at_171) rfl k) ?_
      show own_G p e below _ (T294.setTop (mkF m 173 #[.val (.int p0), .val (.int p1), .val (.int p2), .val (.int (0 : Int32)), .val (.int (3 : Int32)), .val (.ref b241), .val (.int vg249), .val (.int vg250), .val (.int vg251), .val (.ref b252), .val (.ref b277), .val (.ref x294), .unset] [(.int vg251), (.int vg250), (.int vg249), (.int (3 : Int32)), (.ref x294)]))
      obtain ⟨T306, X306, e306, st306⟩ := own_callP (y := (⟨"com/example/clementi/clementi/store/KeyRangeEndPinLaw", "same", "([BIBBB)Z"⟩ : MethodName)) (W := 0) X294 hx hZ hown (hw _ (List.mem_of_getElem? (i := 28) rfl)) (hw _ (List.mem_of_getElem? (i := 29) rfl)) (hw _ (List.mem_of_getElem? (i := 30) rfl)) (hw _ (List.mem_of_getElem? (i := 31) rfl)) (by decide) (own_same3 l Z a0 hw [] x294 vg249 vg250 vg251 k252 (vg249.toInt8.toInt32) (vg250.toInt8.toInt32) (vg251.toInt8.toInt32) h294 o294_0 (own_i2b hvg249) (own_i2b hvg250) (own_i2b hvg251)) (by decide) (by decide) rfl rfl (by decide) (by decide) e294 (pc := 173) (Ls := #[.val (.int p0), .val (.int p1), .val (.int p2), .val (.int (0 : Int32)), .val (.int (3 : Int32)), .val (.ref b241), .val (.int vg249), .val (.int vg250), .val (.int vg251), .val (.ref b252), .val (.ref b277), .val (.ref x294), .unset]) (st := [(.int vg251), (.int vg250), (.int vg249), (.int (3 : Int32)), (.ref x294)]) (argsL := [(.ref x294), (.int (3 : Int32)), (.int vg249), (.int vg250), (.int vg251)]) (rest := []) (by rw [hml]; rfl) (lenOf own_pd2 rfl) rfl rfl (Nat.le_of_eq rfl) (hb hby at_173)
      refine own_via st306 ?_
      show own_G p e below _ (T306.setTop (mkF m 176 #[.val (.int p0), .val (.int p1), .val (.int p2), .val (.int (0 : Int32)), .val (.int (3 : Int32)), .val (.ref b241), .val (.int vg249), .val (.int vg250), .val (.int vg251), .val (.ref b252), .val (.ref b277), .val (.ref x294), .unset] [(.int (1 : Int32))]))
      refine own_via (fun t k => XS.ifYes X306.here hx rfl (pc0 := 176) (pc' := 181) rfl (hb hby at_176) rfl ((if0 _ _).trans (feq (by decide : ¬ ((1 : Int32) = (0 : Int32)))).2) (by decide) (by decide) k) ?_
      show own_G p e below _ (T306.setTop (mkF m 181 #[.val (.int p0), .val (.int p1), .val (.int p2), .val (.int (0 : Int32)), .val (.int (3 : Int32)), .val (.ref b241), .val (.int vg249), .val (.int vg250), .val (.int vg251), .val (.ref b252), .val (.ref b277), .val (.ref x294), .unset] []))
      refine own_via (fun t k => XS.iload X306.here hx rfl (hb hby at_181) rfl k) ?_
      show own_G p e below _ (T306.setTop (mkF m 183 #[.val (.int p0), .val (.int p1), .val (.int p2), .val (.int (0 : Int32)), .val (.int (3 : Int32)), .val (.ref b241), .val (.int vg249), .val (.int vg250), .val (.int vg251), .val (.ref b252), .val (.ref b277), .val (.ref x294), .unset] [(.int (3 : Int32))]))
      refine own_via (fun t k => XS.ifNo X306.here hx rfl (hb hby at_183) rfl ((if0 _ _).trans (tlt (by decide : (0 : Int32) < (3 : Int32))).2.2.2) k) ?_
      show own_G p e below _ (T306.setTop (mkF m 186 #[.val (.int p0), .val (.int p1), .val (.int p2), .val (.int (0 : Int32)), .val (.int (3 : Int32)), .val (.ref b241), .val (.int vg249), .val (.int vg250), .val (.int vg251), .val (.ref b252), .val (.ref b277), .val (.ref x294), .unset] []))
      refine own_via (fun t k => XS.aload X306.here hx rfl (hb hby at_186) rfl rfl k) ?_
      show own_G p e below _ (T306.setTop (mkF m 188 #[.val (.int p0), .val (.int p1), .val (.int p2), .val (.int (0 : Int32)), .val (.int (3 : Int32)), .val (.ref b241), .val (.int vg249), .val (.int vg250), .val (.int vg251), .val (.ref b252), .val (.ref b277), .val (.ref x294), .unset] [(.ref x294)]))
      refine own_via (fun t k => XS.iconst X306.here hx rfl (hb hby at_188) k) ?_
      show own_G p e below _ (T306.setTop (mkF m 189 #[.val (.int p0), .val (.int p1), .val (.int p2), .val (.int (0 : Int32)), .val (.int (3 : Int32)), .val (.ref b241), .val (.int vg249), .val (.int vg250), .val (.int vg251), .val (.ref b252), .val (.ref b277), .val (.ref x294), .unset] [(.int (0 : Int32)), (.ref x294)]))
      refine own_via (fun t k => XS.aload X306.here hx rfl (hb hby at_189) rfl rfl k) ?_
      show own_G p e below _ (T306.setTop (mkF m 191 #[.val (.int p0), .val (.int p1), .val (.int p2), .val (.int (0 : Int32)), .val (.int (3 : Int32)), .val (.ref b241), .val (.int vg249), .val (.int vg250), .val (.int vg251), .val (.ref b252), .val (.ref b277), .val (.ref x294), .unset] [(.ref x294), (.int (0 : Int32)), (.ref x294)]))
      refine own_via (fun t k => XS.iconst X306.here hx rfl (hb hby at_191) k) ?_
      show own_G p e below _ (T306.setTop (mkF m 192 #[.val (.int p0), .val (.int p1), .val (.int p2), .val (.int (0 : Int32)), .val (.int (3 : Int32)), .val (.ref b241), .val (.int vg249), .val (.int vg250), .val (.int vg251), .val (.ref b252), .val (.ref b277), .val (.ref x294), .unset] [(.int (0 : Int32)), (.ref x294), (.int (0 : Int32)), (.ref x294)]))
      refine own_via (own_ldB X306 hx hZ e306 o294_0 (j := (0 : Int32)) ⟨by decide, by decide⟩ (v := (.int (vg249.toInt8.toInt32))) rfl (pc := 192) (Ls := #[.val (.int p0), .val (.int p1), .val (.int p2), .val (.int (0 : Int32)), .val (.int (3 : Int32)), .val (.ref b241), .val (.int vg249), .val (.int vg250), .val (.int vg251), .val (.ref b252), .val (.ref b277), .val (.ref x294), .unset]) (rest := [(.int (0 : Int32)), (.ref x294)]) (hb hby at_192)) ?_
      show own_G p e below _ (T306.setTop (mkF m 193 #[.val (.int p0), .val (.int p1), .val (.int p2), .val (.int (0 : Int32)), .val (.int (3 : Int32)), .val (.ref b241), .val (.int vg249), .val (.int vg250), .val (.int vg251), .val (.ref b252), .val (.ref b277), .val (.ref x294), .unset] [(.int (vg249.toInt8.toInt32)), (.int (0 : Int32)), (.ref x294)]))
      refine own_via (fun t k => XS.iconst X306.here hx rfl (hb hby at_193) k) ?_
      show own_G p e below _ (T306.setTop (mkF m 194 #[.val (.int p0), .val (.int p1), .val (.int p2), .val (.int (0 : Int32)), .val (.int (3 : Int32)), .val (.ref b241), .val (.int vg249), .val (.int vg250), .val (.int vg251), .val (.ref b252), .val (.ref b277), .val (.ref x294), .unset] [(.int (1 : Int32)), (.int (vg249.toInt8.toInt32)), (.int (0 : Int32)), (.ref x294)]))
      refine own_via (fun t k => XS.iadd X306.here hx rfl (hb hby at_194) rfl k) ?_
      show own_G p e below _ (T306.setTop (mkF m 195 #[.val (.int p0), .val (.int p1), .val (.int p2), .val (.int (0 : Int32)), .val (.int (3 : Int32)), .val (.ref b241), .val (.int vg249), .val (.int vg250), .val (.int vg251), .val (.ref b252), .val (.ref b277), .val (.ref x294), .unset] [(.int ((vg249.toInt8.toInt32) + (1 : Int32))), (.int (0 : Int32)), (.ref x294)]))
      refine own_via (fun t k => XS.i2b X306.here hx rfl (hb hby at_195) rfl k) ?_
      show own_G p e below _ (T306.setTop (mkF m 196 #[.val (.int p0), .val (.int p1), .val (.int p2), .val (.int (0 : Int32)), .val (.int (3 : Int32)), .val (.ref b241), .val (.int vg249), .val (.int vg250), .val (.int vg251), .val (.ref b252), .val (.ref b277), .val (.ref x294), .unset] [(.int (((vg249.toInt8.toInt32) + (1 : Int32)).toInt8.toInt32)), (.int (0 : Int32)), (.ref x294)]))
      obtain ⟨T307, h307, L307, X307, N307, e307, W307, V307, st307⟩ := own_stB X306 N294 hx hZ e306 o294_0 g_x294 (j := (0 : Int32)) (x := (((vg249.toInt8.toInt32) + (1 : Int32)).toInt8.toInt32)) (i := 0) ⟨by decide, by decide⟩ rfl (Nat.le_of_ble_eq_true rfl) (pc := 196) (Ls := #[.val (.int p0), .val (.int p1), .val (.int p2), .val (.int (0 : Int32)), .val (.int (3 : Int32)), .val (.ref b241), .val (.int vg249), .val (.int vg250), .val (.int vg251), .val (.ref b252), .val (.ref b277), .val (.ref x294), .unset]) (rest := []) (hb hby at_196)
      refine own_via st307 ?_
      have f308 : Exa Z h307 b241 "[B" := f298.wr W307
      have f309 : Arv Z h307 b241 k241 .byte (1 : Int32) [(.int ((((p0.toUInt32 >>> ((24 : Int32) &&& 31).toUInt32).toInt32).toInt8.toInt32).toInt8.toInt32))] (.int (0 : Int32)) := f299.other W307 ne295
      have f310 : Exa Z h307 b252 "[B" := f300.wr W307
      have f311 : Arv Z h307 b252 k252 .byte (3 : Int32) [(.int (vg249.toInt8.toInt32)), (.int (vg250.toInt8.toInt32)), (.int (vg251.toInt8.toInt32))] (.int (0 : Int32)) := f301.other W307 ne296
      have f312 : Exa Z h307 b277 "com/example/clementi/clementi/store/KeyRange" := f302.wr W307
      have f313 : Fld Z h307 b277 "com/example/clementi/clementi/store/KeyRange" "prefix" "[B" (.ref b241) := f303.other W307 (Or.inl ne297)
      have f314 : Fld Z h307 b277 "com/example/clementi/clementi/store/KeyRange" "end" "[B" (.ref b252) := f304.other W307 (Or.inl ne297)
      have f315 : Exa Z h307 x294 "[B" := o294_1.wr W307
      have f316 : Arv Z h307 x294 k252 .byte (3 : Int32) [(.int ((((vg249.toInt8.toInt32) + (1 : Int32)).toInt8.toInt32).toInt8.toInt32)), (.int (vg250.toInt8.toInt32)), (.int (vg251.toInt8.toInt32))] (.int (0 : Int32)) := V307
      have Zs317 : n0 ≤ h307.size := by rw [W307.size]; exact Zs305
      show own_G p e below _ (T307.setTop (mkF m 197 #[.val (.int p0), .val (.int p1), .val (.int p2), .val (.int (0 : Int32)), .val (.int (3 : Int32)), .val (.ref b241), .val (.int vg249), .val (.int vg250), .val (.int vg251), .val (.ref b252), .val (.ref b277), .val (.ref x294), .unset] []))
      refine own_via (fun t k => XS.aload X307.here hx rfl (hb hby at_197) rfl rfl k) ?_
      show own_G p e below _ (T307.setTop (mkF m 199 #[.val (.int p0), .val (.int p1), .val (.int p2), .val (.int (0 : Int32)), .val (.int (3 : Int32)), .val (.ref b241), .val (.int vg249), .val (.int vg250), .val (.int vg251), .val (.ref b252), .val (.ref b277), .val (.ref x294), .unset] [(.ref b277)]))
      obtain ⟨v318, T318, h318, L318, X318, N318, e318, hq318, st318⟩ := own_callV (y := (⟨"com/example/clementi/clementi/store/KeyRange", "end", "()[B"⟩ : MethodName)) (z := (⟨"com/example/clementi/clementi/store/KeyRange", "end", "()[B"⟩ : MethodName)) (W := 0) (a := b277) X307 N307 hx hZ hown (hw _ (List.mem_of_getElem? (i := 14) rfl)) (hw _ (List.mem_of_getElem? (i := 15) rfl)) (notFace_of_selects (args := #[]) (mvT hZ (hw _ (List.mem_of_getElem? (i := 17) rfl)))) (hw _ (List.mem_of_getElem? (i := 17) rfl)) (hw _ (List.mem_of_getElem? (i := 16) rfl)) (hw _ (List.mem_of_getElem? (i := 3) rfl)) (hw _ (List.mem_of_getElem? (i := 18) rfl)) (by decide) (own_end1 l Z a0 hw [] b277 b252 k252 (3 : Int32) [(.int (vg249.toInt8.toInt32)), (.int (vg250.toInt8.toInt32)), (.int (vg251.toInt8.toInt32))] (.int (0 : Int32)) h307 n0 Zs317 f314 f311 f310 (by decide)) (by decide) (by decide) (by decide) (by decide) e307 f312 (pc := 199) (Ls := #[.val (.int p0), .val (.int p1), .val (.int p2), .val (.int (0 : Int32)), .val (.int (3 : Int32)), .val (.ref b241), .val (.int vg249), .val (.int vg250), .val (.int vg251), .val (.ref b252), .val (.ref b277), .val (.ref x294), .unset]) (st := [(.ref b277)]) (argsL := []) (rest := []) (by rw [hml]; rfl) (lenOf own_pd1 rfl) rfl rfl (Nat.le_of_eq rfl) (hb hby at_199)
      obtain ⟨x318, rfl, K318, zf_x318, o318_0, o318_1⟩ := hq318
      refine own_via st318 ?_
      have ne319 : b241 ≠ x318 := Nat.ne_of_lt (Nat.lt_of_lt_of_le f308.lt zf_x318)
      have ne320 : b252 ≠ x318 := Nat.ne_of_lt (Nat.lt_of_lt_of_le f310.lt zf_x318)
      have ne321 : b277 ≠ x318 := Nat.ne_of_lt (Nat.lt_of_lt_of_le f312.lt zf_x318)
      have ne322 : x294 ≠ x318 := Nat.ne_of_lt (Nat.lt_of_lt_of_le f315.lt zf_x318)
      have g_x318 : n0 ≤ x318 := Nat.le_trans Zs317 zf_x318
      have f323 : Exa Z h318 b241 "[B" := f308.ext (own_ke K318)
      have f324 : Arv Z h318 b241 k241 .byte (1 : Int32) [(.int ((((p0.toUInt32 >>> ((24 : Int32) &&& 31).toUInt32).toInt32).toInt8.toInt32).toInt8.toInt32))] (.int (0 : Int32)) := f309.ext (own_ke K318)
      have f325 : Exa Z h318 b252 "[B" := f310.ext (own_ke K318)
      have f326 : Arv Z h318 b252 k252 .byte (3 : Int32) [(.int (vg249.toInt8.toInt32)), (.int (vg250.toInt8.toInt32)), (.int (vg251.toInt8.toInt32))] (.int (0 : Int32)) := f311.ext (own_ke K318)
      have f327 : Exa Z h318 b277 "com/example/clementi/clementi/store/KeyRange" := f312.ext (own_ke K318)
      have f328 : Fld Z h318 b277 "com/example/clementi/clementi/store/KeyRange" "prefix" "[B" (.ref b241) := f313.ext (own_ke K318)
      have f329 : Fld Z h318 b277 "com/example/clementi/clementi/store/KeyRange" "end" "[B" (.ref b252) := f314.ext (own_ke K318)
      have f330 : Exa Z h318 x294 "[B" := f315.ext (own_ke K318)
      have f331 : Arv Z h318 x294 k252 .byte (3 : Int32) [(.int ((((vg249.toInt8.toInt32) + (1 : Int32)).toInt8.toInt32).toInt8.toInt32)), (.int (vg250.toInt8.toInt32)), (.int (vg251.toInt8.toInt32))] (.int (0 : Int32)) := f316.ext (own_ke K318)
      have Zs332 : n0 ≤ h318.size := Nat.le_trans Zs317 K318.1
      show own_G p e below _ (T318.setTop (mkF m 202 #[.val (.int p0), .val (.int p1), .val (.int p2), .val (.int (0 : Int32)), .val (.int (3 : Int32)), .val (.ref b241), .val (.int vg249), .val (.int vg250), .val (.int vg251), .val (.ref b252), .val (.ref b277), .val (.ref x294), .unset] [(.ref x318)]))
      refine own_via (fun t k => XS.astore X318.here hx rfl (hb hby at_202) rfl rfl (l' := #[.val (.int p0), .val (.int p1), .val (.int p2), .val (.int (0 : Int32)), .val (.int (3 : Int32)), .val (.ref b241), .val (.int vg249), .val (.int vg250), .val (.int vg251), .val (.ref b252), .val (.ref b277), .val (.ref x294), .val (.ref x318)]) rfl k) ?_
      show own_G p e below _ (T318.setTop (mkF m 204 #[.val (.int p0), .val (.int p1), .val (.int p2), .val (.int (0 : Int32)), .val (.int (3 : Int32)), .val (.ref b241), .val (.int vg249), .val (.int vg250), .val (.int vg251), .val (.ref b252), .val (.ref b277), .val (.ref x294), .val (.ref x318)] []))
      refine own_via (fun t k => XS.aload X318.here hx rfl (hb hby at_204) rfl rfl k) ?_
      show own_G p e below _ (T318.setTop (mkF m 206 #[.val (.int p0), .val (.int p1), .val (.int p2), .val (.int (0 : Int32)), .val (.int (3 : Int32)), .val (.ref b241), .val (.int vg249), .val (.int vg250), .val (.int vg251), .val (.ref b252), .val (.ref b277), .val (.ref x294), .val (.ref x318)] [(.ref x318)]))
      refine own_via (fun t k => XS.ifnullNo X318.here hx rfl (hb hby at_206) rfl k) ?_
      show own_G p e below _ (T318.setTop (mkF m 209 #[.val (.int p0), .val (.int p1), .val (.int p2), .val (.int (0 : Int32)), .val (.int (3 : Int32)), .val (.ref b241), .val (.int vg249), .val (.int vg250), .val (.int vg251), .val (.ref b252), .val (.ref b277), .val (.ref x294), .val (.ref x318)] []))
      refine own_via (fun t k => XS.aload X318.here hx rfl (hb hby at_209) rfl rfl k) ?_
      show own_G p e below _ (T318.setTop (mkF m 211 #[.val (.int p0), .val (.int p1), .val (.int p2), .val (.int (0 : Int32)), .val (.int (3 : Int32)), .val (.ref b241), .val (.int vg249), .val (.int vg250), .val (.int vg251), .val (.ref b252), .val (.ref b277), .val (.ref x294), .val (.ref x318)] [(.ref x318)]))
      refine own_via (fun t k => XS.aload X318.here hx rfl (hb hby at_211) rfl rfl k) ?_
      show own_G p e below _ (T318.setTop (mkF m 213 #[.val (.int p0), .val (.int p1), .val (.int p2), .val (.int (0 : Int32)), .val (.int (3 : Int32)), .val (.ref b241), .val (.int vg249), .val (.int vg250), .val (.int vg251), .val (.ref b252), .val (.ref b277), .val (.ref x294), .val (.ref x318)] [(.ref x294), (.ref x318)]))
      refine own_via (fun t k => Jvm.RoadKit.acmp (g := (mkF m 213 #[.val (.int p0), .val (.int p1), .val (.int p2), .val (.int (0 : Int32)), .val (.int (3 : Int32)), .val (.ref b241), .val (.int vg249), .val (.int vg250), .val (.int vg251), .val (.ref b252), .val (.ref b277), .val (.ref x294), .val (.ref x318)] [(.ref x294), (.ref x318)])) X318 hx rfl rfl rfl (pc0 := 213) (pc' := 216) (same := false) rfl (hb hby at_213) rfl (decide_eq_false fun q => (Ne.symm ne322) (Value.ref.inj q)) (by decide) (by decide) k) ?_
      show own_G p e below _ (T318.setTop (mkF m 216 #[.val (.int p0), .val (.int p1), .val (.int p2), .val (.int (0 : Int32)), .val (.int (3 : Int32)), .val (.ref b241), .val (.int vg249), .val (.int vg250), .val (.int vg251), .val (.ref b252), .val (.ref b277), .val (.ref x294), .val (.ref x318)] []))
      refine own_via (fun t k => XS.aload X318.here hx rfl (hb hby at_216) rfl rfl k) ?_
      show own_G p e below _ (T318.setTop (mkF m 218 #[.val (.int p0), .val (.int p1), .val (.int p2), .val (.int (0 : Int32)), .val (.int (3 : Int32)), .val (.ref b241), .val (.int vg249), .val (.int vg250), .val (.int vg251), .val (.ref b252), .val (.ref b277), .val (.ref x294), .val (.ref x318)] [(.ref x318)]))
      refine own_via (fun t k => XS.aload X318.here hx rfl (hb hby at_218) rfl rfl k) ?_
      show own_G p e below _ (T318.setTop (mkF m 220 #[.val (.int p0), .val (.int p1), .val (.int p2), .val (.int (0 : Int32)), .val (.int (3 : Int32)), .val (.ref b241), .val (.int vg249), .val (.int vg250), .val (.int vg251), .val (.ref b252), .val (.ref b277), .val (.ref x294), .val (.ref x318)] [(.ref b252), (.ref x318)]))
      refine own_via (fun t k => Jvm.RoadKit.acmp (g := (mkF m 220 #[.val (.int p0), .val (.int p1), .val (.int p2), .val (.int (0 : Int32)), .val (.int (3 : Int32)), .val (.ref b241), .val (.int vg249), .val (.int vg250), .val (.int vg251), .val (.ref b252), .val (.ref b277), .val (.ref x294), .val (.ref x318)] [(.ref b252), (.ref x318)])) X318 hx rfl rfl rfl (pc0 := 220) (pc' := 223) (same := false) rfl (hb hby at_220) rfl (decide_eq_false fun q => (Ne.symm ne320) (Value.ref.inj q)) (by decide) (by decide) k) ?_
      show own_G p e below _ (T318.setTop (mkF m 223 #[.val (.int p0), .val (.int p1), .val (.int p2), .val (.int (0 : Int32)), .val (.int (3 : Int32)), .val (.ref b241), .val (.int vg249), .val (.int vg250), .val (.int vg251), .val (.ref b252), .val (.ref b277), .val (.ref x294), .val (.ref x318)] []))
      refine own_via (fun t k => XS.aload X318.here hx rfl (hb hby at_223) rfl rfl k) ?_
      show own_G p e below _ (T318.setTop (mkF m 225 #[.val (.int p0), .val (.int p1), .val (.int p2), .val (.int (0 : Int32)), .val (.int (3 : Int32)), .val (.ref b241), .val (.int vg249), .val (.int vg250), .val (.int vg251), .val (.ref b252), .val (.ref b277), .val (.ref x294), .val (.ref x318)] [(.ref x318)]))
      refine own_via (own_len X318 hx hZ e318 o318_0 (pc := 225) (Ls := #[.val (.int p0), .val (.int p1), .val (.int p2), .val (.int (0 : Int32)), .val (.int (3 : Int32)), .val (.ref b241), .val (.int vg249), .val (.int vg250), .val (.int vg251), .val (.ref b252), .val (.ref b277), .val (.ref x294), .val (.ref x318)]) (rest := []) (hb hby at_225)) ?_
      show own_G p e below _ (T318.setTop (mkF m 226 #[.val (.int p0), .val (.int p1), .val (.int p2), .val (.int (0 : Int32)), .val (.int (3 : Int32)), .val (.ref b241), .val (.int vg249), .val (.int vg250), .val (.int vg251), .val (.ref b252), .val (.ref b277), .val (.ref x294), .val (.ref x318)] [(.int (3 : Int32))]))
      refine own_via (fun t k => XS.iload X318.here hx rfl (hb hby at_226) rfl k) ?_
      show own_G p e below _ (T318.setTop (mkF m 228 #[.val (.int p0), .val (.int p1), .val (.int p2), .val (.int (0 : Int32)), .val (.int (3 : Int32)), .val (.ref b241), .val (.int vg249), .val (.int vg250), .val (.int vg251), .val (.ref b252), .val (.ref b277), .val (.ref x294), .val (.ref x318)] [(.int (3 : Int32)), (.int (3 : Int32))]))
      refine own_via (fun t k => XS.icmpNo X318.here hx rfl (hb hby at_228) rfl (teq (by decide : (3 : Int32) = (3 : Int32))).2 k) ?_
      show own_G p e below _ (T318.setTop (mkF m 231 #[.val (.int p0), .val (.int p1), .val (.int p2), .val (.int (0 : Int32)), .val (.int (3 : Int32)), .val (.ref b241), .val (.int vg249), .val (.int vg250), .val (.int vg251), .val (.ref b252), .val (.ref b277), .val (.ref x294), .val (.ref x318)] []))
      refine own_via (fun t k => XS.aload X318.here hx rfl (hb hby at_231) rfl rfl k) ?_
      show own_G p e below _ (T318.setTop (mkF m 233 #[.val (.int p0), .val (.int p1), .val (.int p2), .val (.int (0 : Int32)), .val (.int (3 : Int32)), .val (.ref b241), .val (.int vg249), .val (.int vg250), .val (.int vg251), .val (.ref b252), .val (.ref b277), .val (.ref x294), .val (.ref x318)] [(.ref x318)]))
      refine own_via (fun t k => XS.iload X318.here hx rfl (hb hby at_233) rfl k) ?_
      show own_G p e below _ (T318.setTop (mkF m 235 #[.val (.int p0), .val (.int p1), .val (.int p2), .val (.int (0 : Int32)), .val (.int (3 : Int32)), .val (.ref b241), .val (.int vg249), .val (.int vg250), .val (.int vg251), .val (.ref b252), .val (.ref b277), .val (.ref x294), .val (.ref x318)] [(.int (3 : Int32)), (.ref x318)]))
      refine own_via (fun t k => XS.iload X318.here hx rfl (hb hby at_235) rfl k) ?_
      show own_G p e below _ (T318.setTop (mkF m 237 #[.val (.int p0), .val (.int p1), .val (.int p2), .val (.int (0 : Int32)), .val (.int (3 : Int32)), .val (.ref b241), .val (.int vg249), .val (.int vg250), .val (.int vg251), .val (.ref b252), .val (.ref b277), .val (.ref x294), .val (.ref x318)] [(.int vg249), (.int (3 : Int32)), (.ref x318)]))
      refine own_via (fun t k => XS.iload X318.here hx rfl (hb hby at_237) rfl k) ?_
      show own_G p e below _ (T318.setTop (mkF m 239 #[.val (.int p0), .val (.int p1), .val (.int p2), .val (.int (0 : Int32)), .val (.int (3 : Int32)), .val (.ref b241), .val (.int vg249), .val (.int vg250), .val (.int vg251), .val (.ref b252), .val (.ref b277), .val (.ref x294), .val (.ref x318)] [(.int vg250), (.int vg249), (.int (3 : Int32)), (.ref x318)]))
      refine own_via (fun t k => XS.iload X318.here hx rfl (hb hby at_239) rfl k) ?_
      show own_G p e below _ (T318.setTop (mkF m 241 #[.val (.int p0), .val (.int p1), .val (.int p2), .val (.int (0 : Int32)), .val (.int (3 : Int32)), .val (.ref b241), .val (.int vg249), .val (.int vg250), .val (.int vg251), .val (.ref b252), .val (.ref b277), .val (.ref x294), .val (.ref x318)] [(.int vg251), (.int vg250), (.int vg249), (.int (3 : Int32)), (.ref x318)]))
      obtain ⟨T333, X333, e333, st333⟩ := own_callP (y := (⟨"com/example/clementi/clementi/store/KeyRangeEndPinLaw", "same", "([BIBBB)Z"⟩ : MethodName)) (W := 0) X318 hx hZ hown (hw _ (List.mem_of_getElem? (i := 28) rfl)) (hw _ (List.mem_of_getElem? (i := 29) rfl)) (hw _ (List.mem_of_getElem? (i := 30) rfl)) (hw _ (List.mem_of_getElem? (i := 31) rfl)) (by decide) (own_same3 l Z a0 hw [] x318 vg249 vg250 vg251 k252 (vg249.toInt8.toInt32) (vg250.toInt8.toInt32) (vg251.toInt8.toInt32) h318 o318_0 (own_i2b hvg249) (own_i2b hvg250) (own_i2b hvg251)) (by decide) (by decide) rfl rfl (by decide) (by decide) e318 (pc := 241) (Ls := #[.val (.int p0), .val (.int p1), .val (.int p2), .val (.int (0 : Int32)), .val (.int (3 : Int32)), .val (.ref b241), .val (.int vg249), .val (.int vg250), .val (.int vg251), .val (.ref b252), .val (.ref b277), .val (.ref x294), .val (.ref x318)]) (st := [(.int vg251), (.int vg250), (.int vg249), (.int (3 : Int32)), (.ref x318)]) (argsL := [(.ref x318), (.int (3 : Int32)), (.int vg249), (.int vg250), (.int vg251)]) (rest := []) (by rw [hml]; rfl) (lenOf own_pd2 rfl) rfl rfl (Nat.le_of_eq rfl) (hb hby at_241)
      refine own_via st333 ?_
      show own_G p e below _ (T333.setTop (mkF m 244 #[.val (.int p0), .val (.int p1), .val (.int p2), .val (.int (0 : Int32)), .val (.int (3 : Int32)), .val (.ref b241), .val (.int vg249), .val (.int vg250), .val (.int vg251), .val (.ref b252), .val (.ref b277), .val (.ref x294), .val (.ref x318)] [(.int (1 : Int32))]))
      refine own_via (fun t k => XS.ifNo X333.here hx rfl (hb hby at_244) rfl ((if0 _ _).trans (feq (by decide : ¬ ((1 : Int32) = (0 : Int32)))).1) k) ?_
      show own_G p e below _ (T333.setTop (mkF m 247 #[.val (.int p0), .val (.int p1), .val (.int p2), .val (.int (0 : Int32)), .val (.int (3 : Int32)), .val (.ref b241), .val (.int vg249), .val (.int vg250), .val (.int vg251), .val (.ref b252), .val (.ref b277), .val (.ref x294), .val (.ref x318)] []))
      refine own_via (fun t k => XS.aload X333.here hx rfl (hb hby at_247) rfl rfl k) ?_
      show own_G p e below _ (T333.setTop (mkF m 249 #[.val (.int p0), .val (.int p1), .val (.int p2), .val (.int (0 : Int32)), .val (.int (3 : Int32)), .val (.ref b241), .val (.int vg249), .val (.int vg250), .val (.int vg251), .val (.ref b252), .val (.ref b277), .val (.ref x294), .val (.ref x318)] [(.ref b252)]))
      refine own_via (fun t k => XS.iload X333.here hx rfl (hb hby at_249) rfl k) ?_
      show own_G p e below _ (T333.setTop (mkF m 251 #[.val (.int p0), .val (.int p1), .val (.int p2), .val (.int (0 : Int32)), .val (.int (3 : Int32)), .val (.ref b241), .val (.int vg249), .val (.int vg250), .val (.int vg251), .val (.ref b252), .val (.ref b277), .val (.ref x294), .val (.ref x318)] [(.int (3 : Int32)), (.ref b252)]))
      refine own_via (fun t k => XS.iload X333.here hx rfl (hb hby at_251) rfl k) ?_
      show own_G p e below _ (T333.setTop (mkF m 253 #[.val (.int p0), .val (.int p1), .val (.int p2), .val (.int (0 : Int32)), .val (.int (3 : Int32)), .val (.ref b241), .val (.int vg249), .val (.int vg250), .val (.int vg251), .val (.ref b252), .val (.ref b277), .val (.ref x294), .val (.ref x318)] [(.int vg249), (.int (3 : Int32)), (.ref b252)]))
      refine own_via (fun t k => XS.iload X333.here hx rfl (hb hby at_253) rfl k) ?_
      show own_G p e below _ (T333.setTop (mkF m 255 #[.val (.int p0), .val (.int p1), .val (.int p2), .val (.int (0 : Int32)), .val (.int (3 : Int32)), .val (.ref b241), .val (.int vg249), .val (.int vg250), .val (.int vg251), .val (.ref b252), .val (.ref b277), .val (.ref x294), .val (.ref x318)] [(.int vg250), (.int vg249), (.int (3 : Int32)), (.ref b252)]))
      refine own_via (fun t k => XS.iload X333.here hx rfl (hb hby at_255) rfl k) ?_
      show own_G p e below _ (T333.setTop (mkF m 257 #[.val (.int p0), .val (.int p1), .val (.int p2), .val (.int (0 : Int32)), .val (.int (3 : Int32)), .val (.ref b241), .val (.int vg249), .val (.int vg250), .val (.int vg251), .val (.ref b252), .val (.ref b277), .val (.ref x294), .val (.ref x318)] [(.int vg251), (.int vg250), (.int vg249), (.int (3 : Int32)), (.ref b252)]))
      obtain ⟨T334, X334, e334, st334⟩ := own_callP (y := (⟨"com/example/clementi/clementi/store/KeyRangeEndPinLaw", "same", "([BIBBB)Z"⟩ : MethodName)) (W := 0) X333 hx hZ hown (hw _ (List.mem_of_getElem? (i := 28) rfl)) (hw _ (List.mem_of_getElem? (i := 29) rfl)) (hw _ (List.mem_of_getElem? (i := 30) rfl)) (hw _ (List.mem_of_getElem? (i := 31) rfl)) (by decide) (own_same3 l Z a0 hw [] b252 vg249 vg250 vg251 k252 (vg249.toInt8.toInt32) (vg250.toInt8.toInt32) (vg251.toInt8.toInt32) h318 f326 (own_i2b hvg249) (own_i2b hvg250) (own_i2b hvg251)) (by decide) (by decide) rfl rfl (by decide) (by decide) e333 (pc := 257) (Ls := #[.val (.int p0), .val (.int p1), .val (.int p2), .val (.int (0 : Int32)), .val (.int (3 : Int32)), .val (.ref b241), .val (.int vg249), .val (.int vg250), .val (.int vg251), .val (.ref b252), .val (.ref b277), .val (.ref x294), .val (.ref x318)]) (st := [(.int vg251), (.int vg250), (.int vg249), (.int (3 : Int32)), (.ref b252)]) (argsL := [(.ref b252), (.int (3 : Int32)), (.int vg249), (.int vg250), (.int vg251)]) (rest := []) (by rw [hml]; rfl) (lenOf own_pd2 rfl) rfl rfl (Nat.le_of_eq rfl) (hb hby at_257)
      refine own_via st334 ?_
      show own_G p e below _ (T334.setTop (mkF m 260 #[.val (.int p0), .val (.int p1), .val (.int p2), .val (.int (0 : Int32)), .val (.int (3 : Int32)), .val (.ref b241), .val (.int vg249), .val (.int vg250), .val (.int vg251), .val (.ref b252), .val (.ref b277), .val (.ref x294), .val (.ref x318)] [(.int (1 : Int32))]))
      refine own_via (fun t k => XS.ifNo X334.here hx rfl (hb hby at_260) rfl ((if0 _ _).trans (feq (by decide : ¬ ((1 : Int32) = (0 : Int32)))).1) k) ?_
      show own_G p e below _ (T334.setTop (mkF m 263 #[.val (.int p0), .val (.int p1), .val (.int p2), .val (.int (0 : Int32)), .val (.int (3 : Int32)), .val (.ref b241), .val (.int vg249), .val (.int vg250), .val (.int vg251), .val (.ref b252), .val (.ref b277), .val (.ref x294), .val (.ref x318)] []))
      refine own_via (fun t k => XS.iconst X334.here hx rfl (hb hby at_263) k) ?_
      show own_G p e below _ (T334.setTop (mkF m 264 #[.val (.int p0), .val (.int p1), .val (.int p2), .val (.int (0 : Int32)), .val (.int (3 : Int32)), .val (.ref b241), .val (.int vg249), .val (.int vg250), .val (.int vg251), .val (.ref b252), .val (.ref b277), .val (.ref x294), .val (.ref x318)] [(.int (1 : Int32))]))
      refine own_via (fun t k => XS.goto X334.here hx rfl (pc0 := 264) (pc' := 268) rfl (hb hby at_264) (by decide) (by decide) k) ?_
      show own_G p e below _ (T334.setTop (mkF m 268 #[.val (.int p0), .val (.int p1), .val (.int p2), .val (.int (0 : Int32)), .val (.int (3 : Int32)), .val (.ref b241), .val (.int vg249), .val (.int vg250), .val (.int vg251), .val (.ref b252), .val (.ref b277), .val (.ref x294), .val (.ref x318)] [(.int (1 : Int32))]))
      exact own_retN (t := .boolean) X334 hx Bd.returns (by simp) Bd.notSynchronized (hb hby at_268) ⟨N318, rfl⟩ (by decide) (by decide)
  ·
    refine own_via (fun t k => XS.ifNo X0.here hx rfl (hb hby at_3) rfl ((if0 _ _).trans (feq hc1).1) k) ?_
    show own_G p e below _ (s₁.setTop (mkF m 6 #[.val (.int p0), .val (.int p1), .val (.int p2), .unset, .unset, .unset, .unset, .unset, .unset, .unset, .unset, .unset, .unset] []))
    refine own_via (fun t k => XS.iconst X0.here hx rfl (hb hby at_6) k) ?_
    show own_G p e below _ (s₁.setTop (mkF m 7 #[.val (.int p0), .val (.int p1), .val (.int p2), .unset, .unset, .unset, .unset, .unset, .unset, .unset, .unset, .unset, .unset] [(.int (1 : Int32))]))
    refine own_via (fun t k => XS.goto X0.here hx rfl (pc0 := 7) (pc' := 11) rfl (hb hby at_7) (by decide) (by decide) k) ?_
    show own_G p e below _ (s₁.setTop (mkF m 11 #[.val (.int p0), .val (.int p1), .val (.int p2), .unset, .unset, .unset, .unset, .unset, .unset, .unset, .unset, .unset, .unset] [(.int (1 : Int32))]))
    refine own_via (fun t k => XS.istoreN X0.here hx rfl (hb hby at_11) rfl (l' := #[.val (.int p0), .val (.int p1), .val (.int p2), .val (.int (1 : Int32)), .unset, .unset, .unset, .unset, .unset, .unset, .unset, .unset, .unset]) rfl k) ?_
    show own_G p e below _ (s₁.setTop (mkF m 12 #[.val (.int p0), .val (.int p1), .val (.int p2), .val (.int (1 : Int32)), .unset, .unset, .unset, .unset, .unset, .unset, .unset, .unset, .unset] []))
    refine own_via (fun t k => XS.iloadN X0.here hx rfl (hb hby at_12) rfl k) ?_
    show own_G p e below _ (s₁.setTop (mkF m 13 #[.val (.int p0), .val (.int p1), .val (.int p2), .val (.int (1 : Int32)), .unset, .unset, .unset, .unset, .unset, .unset, .unset, .unset, .unset] [(.int p1)]))
    refine own_via (fun t k => XS.iconst X0.here hx rfl (hb hby at_13) k) ?_
    show own_G p e below _ (s₁.setTop (mkF m 14 #[.val (.int p0), .val (.int p1), .val (.int p2), .val (.int (1 : Int32)), .unset, .unset, .unset, .unset, .unset, .unset, .unset, .unset, .unset] [(.int (3 : Int32)), (.int p1)]))
    refine own_via (fun t k => XS.iand X0.here hx rfl (hb hby at_14) rfl k) ?_
    show own_G p e below _ (s₁.setTop (mkF m 15 #[.val (.int p0), .val (.int p1), .val (.int p2), .val (.int (1 : Int32)), .unset, .unset, .unset, .unset, .unset, .unset, .unset, .unset, .unset] [(.int (p1 &&& (3 : Int32)))]))
    rcases own_and3 p1 with hs335 | hs336 | hs337 | hs338
    ·
      rw [hs335]
      show own_G p e below _ (s₁.setTop (mkF m 15 #[.val (.int p0), .val (.int p1), .val (.int p2), .val (.int (1 : Int32)), .unset, .unset, .unset, .unset, .unset, .unset, .unset, .unset, .unset] [(.int (0 : Int32))]))
      refine own_via (fun t k => XS.istore X0.here hx rfl (hb hby at_15) rfl (l' := #[.val (.int p0), .val (.int p1), .val (.int p2), .val (.int (1 : Int32)), .val (.int (0 : Int32)), .unset, .unset, .unset, .unset, .unset, .unset, .unset, .unset]) rfl k) ?_
      show own_G p e below _ (s₁.setTop (mkF m 17 #[.val (.int p0), .val (.int p1), .val (.int p2), .val (.int (1 : Int32)), .val (.int (0 : Int32)), .unset, .unset, .unset, .unset, .unset, .unset, .unset, .unset] []))
      refine own_via (fun t k => XS.iconst X0.here hx rfl (hb hby at_17) k) ?_
      show own_G p e below _ (s₁.setTop (mkF m 18 #[.val (.int p0), .val (.int p1), .val (.int p2), .val (.int (1 : Int32)), .val (.int (0 : Int32)), .unset, .unset, .unset, .unset, .unset, .unset, .unset, .unset] [(.int (1 : Int32))]))
      obtain ⟨T339, h339, k339, b339, X339, e339, E339, ga339, V339, Ex339, st339⟩ := own_newA X0 hx hZ (hw _ (List.mem_of_getElem? (i := 0) rfl)) e0 (pc := 18) (Ls := #[.val (.int p0), .val (.int p1), .val (.int p2), .val (.int (1 : Int32)), .val (.int (0 : Int32)), .unset, .unset, .unset, .unset, .unset, .unset, .unset, .unset]) (rest := []) (hb hby at_18) (n := (1 : Int32)) (by decide) (cap := 1) (by decide) (by decide) (by decide) (by decide) 1 rfl
      refine own_via st339 ?_
      have f340 : Arv Z h339 b339 k339 .byte (1 : Int32) [(.int (0 : Int32))] (.int (0 : Int32)) := V339
      have f341 : Exa Z h339 b339 "[B" := Ex339
      have g_b339 : n0 ≤ b339 := Nat.le_trans Z0 (Nat.le_of_eq ga339.symm)
      have Zs342 : n0 ≤ h339.size := Nat.le_trans Z0 E339.1
      show own_G p e below _ (T339.setTop (mkF m 20 #[.val (.int p0), .val (.int p1), .val (.int p2), .val (.int (1 : Int32)), .val (.int (0 : Int32)), .unset, .unset, .unset, .unset, .unset, .unset, .unset, .unset] [(.ref b339)]))
      refine own_via (fun t k => XS.astore X339.here hx rfl (hb hby at_20) rfl rfl (l' := #[.val (.int p0), .val (.int p1), .val (.int p2), .val (.int (1 : Int32)), .val (.int (0 : Int32)), .val (.ref b339), .unset, .unset, .unset, .unset, .unset, .unset, .unset]) rfl k) ?_
      show own_G p e below _ (T339.setTop (mkF m 22 #[.val (.int p0), .val (.int p1), .val (.int p2), .val (.int (1 : Int32)), .val (.int (0 : Int32)), .val (.ref b339), .unset, .unset, .unset, .unset, .unset, .unset, .unset] []))
      refine own_via (fun t k => XS.aload X339.here hx rfl (hb hby at_22) rfl rfl k) ?_
      show own_G p e below _ (T339.setTop (mkF m 24 #[.val (.int p0), .val (.int p1), .val (.int p2), .val (.int (1 : Int32)), .val (.int (0 : Int32)), .val (.ref b339), .unset, .unset, .unset, .unset, .unset, .unset, .unset] [(.ref b339)]))
      refine own_via (fun t k => XS.iconst X339.here hx rfl (hb hby at_24) k) ?_
      show own_G p e below _ (T339.setTop (mkF m 25 #[.val (.int p0), .val (.int p1), .val (.int p2), .val (.int (1 : Int32)), .val (.int (0 : Int32)), .val (.ref b339), .unset, .unset, .unset, .unset, .unset, .unset, .unset] [(.int (0 : Int32)), (.ref b339)]))
      refine own_via (fun t k => XS.iloadN X339.here hx rfl (hb hby at_25) rfl k) ?_
      show own_G p e below _ (T339.setTop (mkF m 26 #[.val (.int p0), .val (.int p1), .val (.int p2), .val (.int (1 : Int32)), .val (.int (0 : Int32)), .val (.ref b339), .unset, .unset, .unset, .unset, .unset, .unset, .unset] [(.int p0), (.int (0 : Int32)), (.ref b339)]))
      refine own_via (fun t k => XS.bipush X339.here hx rfl (hb hby at_26) k) ?_
      show own_G p e below _ (T339.setTop (mkF m 28 #[.val (.int p0), .val (.int p1), .val (.int p2), .val (.int (1 : Int32)), .val (.int (0 : Int32)), .val (.ref b339), .unset, .unset, .unset, .unset, .unset, .unset, .unset] [(.int (24 : Int32)), (.int p0), (.int (0 : Int32)), (.ref b339)]))
      refine own_via (fun t k => XS.iushr X339.here hx rfl (hb hby at_28) rfl k) ?_
      show own_G p e below _ (T339.setTop (mkF m 29 #[.val (.int p0), .val (.int p1), .val (.int p2), .val (.int (1 : Int32)), .val (.int (0 : Int32)), .val (.ref b339), .unset, .unset, .unset, .unset, .unset, .unset, .unset] [(.int ((p0.toUInt32 >>> ((24 : Int32) &&& 31).toUInt32).toInt32)), (.int (0 : Int32)), (.ref b339)]))
      refine own_via (fun t k => XS.i2b X339.here hx rfl (hb hby at_29) rfl k) ?_
      show own_G p e below _ (T339.setTop (mkF m 30 #[.val (.int p0), .val (.int p1), .val (.int p2), .val (.int (1 : Int32)), .val (.int (0 : Int32)), .val (.ref b339), .unset, .unset, .unset, .unset, .unset, .unset, .unset] [(.int (((p0.toUInt32 >>> ((24 : Int32) &&& 31).toUInt32).toInt32).toInt8.toInt32)), (.int (0 : Int32)), (.ref b339)]))
      obtain ⟨T343, h343, L343, X343, N343, e343, W343, V343, st343⟩ := own_stB X339 N0 hx hZ e339 f340 g_b339 (j := (0 : Int32)) (x := (((p0.toUInt32 >>> ((24 : Int32) &&& 31).toUInt32).toInt32).toInt8.toInt32)) (i := 0) ⟨by decide, by decide⟩ rfl (Nat.le_of_ble_eq_true rfl) (pc := 30) (Ls := #[.val (.int p0), .val (.int p1), .val (.int p2), .val (.int (1 : Int32)), .val (.int (0 : Int32)), .val (.ref b339), .unset, .unset, .unset, .unset, .unset, .unset, .unset]) (rest := []) (hb hby at_30)
      refine own_via st343 ?_
      have f344 : Exa Z h343 b339 "[B" := f341.wr W343
      have f345 : Arv Z h343 b339 k339 .byte (1 : Int32) [(.int ((((p0.toUInt32 >>> ((24 : Int32) &&& 31).toUInt32).toInt32).toInt8.toInt32).toInt8.toInt32))] (.int (0 : Int32)) := V343
      have Zs346 : n0 ≤ h343.size := by rw [W343.size]; exact Zs342
      show own_G p e below _ (T343.setTop (mkF m 31 #[.val (.int p0), .val (.int p1), .val (.int p2), .val (.int (1 : Int32)), .val (.int (0 : Int32)), .val (.ref b339), .unset, .unset, .unset, .unset, .unset, .unset, .unset] []))
      refine own_via (fun t k => XS.iloadN X343.here hx rfl (hb hby at_31) rfl k) ?_
      show own_G p e below _ (T343.setTop (mkF m 32 #[.val (.int p0), .val (.int p1), .val (.int p2), .val (.int (1 : Int32)), .val (.int (0 : Int32)), .val (.ref b339), .unset, .unset, .unset, .unset, .unset, .unset, .unset] [(.int p0)]))
      refine own_via (fun t k => XS.i2b X343.here hx rfl (hb hby at_32) rfl k) ?_
      show own_G p e below _ (T343.setTop (mkF m 33 #[.val (.int p0), .val (.int p1), .val (.int p2), .val (.int (1 : Int32)), .val (.int (0 : Int32)), .val (.ref b339), .unset, .unset, .unset, .unset, .unset, .unset, .unset] [(.int (p0.toInt8.toInt32))]))
      generalize hvg347 : (p0.toInt8.toInt32) = vg347
      show own_G p e below _ (T343.setTop (mkF m 33 #[.val (.int p0), .val (.int p1), .val (.int p2), .val (.int (1 : Int32)), .val (.int (0 : Int32)), .val (.ref b339), .unset, .unset, .unset, .unset, .unset, .unset, .unset] [(.int vg347)]))
      refine own_via (fun t k => XS.istore X343.here hx rfl (hb hby at_33) rfl (l' := #[.val (.int p0), .val (.int p1), .val (.int p2), .val (.int (1 : Int32)), .val (.int (0 : Int32)), .val (.ref b339), .val (.int vg347), .unset, .unset, .unset, .unset, .unset, .unset]) rfl k) ?_
      show own_G p e below _ (T343.setTop (mkF m 35 #[.val (.int p0), .val (.int p1), .val (.int p2), .val (.int (1 : Int32)), .val (.int (0 : Int32)), .val (.ref b339), .val (.int vg347), .unset, .unset, .unset, .unset, .unset, .unset] []))
      refine own_via (fun t k => XS.iloadN X343.here hx rfl (hb hby at_35) rfl k) ?_
      show own_G p e below _ (T343.setTop (mkF m 36 #[.val (.int p0), .val (.int p1), .val (.int p2), .val (.int (1 : Int32)), .val (.int (0 : Int32)), .val (.ref b339), .val (.int vg347), .unset, .unset, .unset, .unset, .unset, .unset] [(.int p0)]))
      refine own_via (fun t k => XS.bipush X343.here hx rfl (hb hby at_36) k) ?_
      show own_G p e below _ (T343.setTop (mkF m 38 #[.val (.int p0), .val (.int p1), .val (.int p2), .val (.int (1 : Int32)), .val (.int (0 : Int32)), .val (.ref b339), .val (.int vg347), .unset, .unset, .unset, .unset, .unset, .unset] [(.int (8 : Int32)), (.int p0)]))
      refine own_via (fun t k => XS.ishr X343.here hx rfl (hb hby at_38) rfl k) ?_
      show own_G p e below _ (T343.setTop (mkF m 39 #[.val (.int p0), .val (.int p1), .val (.int p2), .val (.int (1 : Int32)), .val (.int (0 : Int32)), .val (.ref b339), .val (.int vg347), .unset, .unset, .unset, .unset, .unset, .unset] [(.int (p0 >>> ((8 : Int32) &&& 31)))]))
      refine own_via (fun t k => XS.i2b X343.here hx rfl (hb hby at_39) rfl k) ?_
      show own_G p e below _ (T343.setTop (mkF m 40 #[.val (.int p0), .val (.int p1), .val (.int p2), .val (.int (1 : Int32)), .val (.int (0 : Int32)), .val (.ref b339), .val (.int vg347), .unset, .unset, .unset, .unset, .unset, .unset] [(.int ((p0 >>> ((8 : Int32) &&& 31)).toInt8.toInt32))]))
      generalize hvg348 : ((p0 >>> ((8 : Int32) &&& 31)).toInt8.toInt32) = vg348
      show own_G p e below _ (T343.setTop (mkF m 40 #[.val (.int p0), .val (.int p1), .val (.int p2), .val (.int (1 : Int32)), .val (.int (0 : Int32)), .val (.ref b339), .val (.int vg347), .unset, .unset, .unset, .unset, .unset, .unset] [(.int vg348)]))
      refine own_via (fun t k => XS.istore X343.here hx rfl (hb hby at_40) rfl (l' := #[.val (.int p0), .val (.int p1), .val (.int p2), .val (.int (1 : Int32)), .val (.int (0 : Int32)), .val (.ref b339), .val (.int vg347), .val (.int vg348), .unset, .unset, .unset, .unset, .unset]) rfl k) ?_
      show own_G p e below _ (T343.setTop (mkF m 42 #[.val (.int p0), .val (.int p1), .val (.int p2), .val (.int (1 : Int32)), .val (.int (0 : Int32)), .val (.ref b339), .val (.int vg347), .val (.int vg348), .unset, .unset, .unset, .unset, .unset] []))
      refine own_via (fun t k => XS.iloadN X343.here hx rfl (hb hby at_42) rfl k) ?_
      show own_G p e below _ (T343.setTop (mkF m 43 #[.val (.int p0), .val (.int p1), .val (.int p2), .val (.int (1 : Int32)), .val (.int (0 : Int32)), .val (.ref b339), .val (.int vg347), .val (.int vg348), .unset, .unset, .unset, .unset, .unset] [(.int p0)]))
      refine own_via (fun t k => XS.bipush X343.here hx rfl (hb hby at_43) k) ?_
      show own_G p e below _ (T343.setTop (mkF m 45 #[.val (.int p0), .val (.int p1), .val (.int p2), .val (.int (1 : Int32)), .val (.int (0 : Int32)), .val (.ref b339), .val (.int vg347), .val (.int vg348), .unset, .unset, .unset, .unset, .unset] [(.int (16 : Int32)), (.int p0)]))
      refine own_via (fun t k => XS.ishr X343.here hx rfl (hb hby at_45) rfl k) ?_
      show own_G p e below _ (T343.setTop (mkF m 46 #[.val (.int p0), .val (.int p1), .val (.int p2), .val (.int (1 : Int32)), .val (.int (0 : Int32)), .val (.ref b339), .val (.int vg347), .val (.int vg348), .unset, .unset, .unset, .unset, .unset] [(.int (p0 >>> ((16 : Int32) &&& 31)))]))
      refine own_via (fun t k => XS.i2b X343.here hx rfl (hb hby at_46) rfl k) ?_
      show own_G p e below _ (T343.setTop (mkF m 47 #[.val (.int p0), .val (.int p1), .val (.int p2), .val (.int (1 : Int32)), .val (.int (0 : Int32)), .val (.ref b339), .val (.int vg347), .val (.int vg348), .unset, .unset, .unset, .unset, .unset] [(.int ((p0 >>> ((16 : Int32) &&& 31)).toInt8.toInt32))]))
      generalize hvg349 : ((p0 >>> ((16 : Int32) &&& 31)).toInt8.toInt32) = vg349
      show own_G p e below _ (T343.setTop (mkF m 47 #[.val (.int p0), .val (.int p1), .val (.int p2), .val (.int (1 : Int32)), .val (.int (0 : Int32)), .val (.ref b339), .val (.int vg347), .val (.int vg348), .unset, .unset, .unset, .unset, .unset] [(.int vg349)]))
      refine own_via (fun t k => XS.istore X343.here hx rfl (hb hby at_47) rfl (l' := #[.val (.int p0), .val (.int p1), .val (.int p2), .val (.int (1 : Int32)), .val (.int (0 : Int32)), .val (.ref b339), .val (.int vg347), .val (.int vg348), .val (.int vg349), .unset, .unset, .unset, .unset]) rfl k) ?_
      show own_G p e below _ (T343.setTop (mkF m 49 #[.val (.int p0), .val (.int p1), .val (.int p2), .val (.int (1 : Int32)), .val (.int (0 : Int32)), .val (.ref b339), .val (.int vg347), .val (.int vg348), .val (.int vg349), .unset, .unset, .unset, .unset] []))
      refine own_via (fun t k => XS.iload X343.here hx rfl (hb hby at_49) rfl k) ?_
      show own_G p e below _ (T343.setTop (mkF m 51 #[.val (.int p0), .val (.int p1), .val (.int p2), .val (.int (1 : Int32)), .val (.int (0 : Int32)), .val (.ref b339), .val (.int vg347), .val (.int vg348), .val (.int vg349), .unset, .unset, .unset, .unset] [(.int (0 : Int32))]))
      obtain ⟨T350, h350, k350, b350, X350, e350, E350, ga350, V350, Ex350, st350⟩ := own_newA X343 hx hZ (hw _ (List.mem_of_getElem? (i := 0) rfl)) e343 (pc := 51) (Ls := #[.val (.int p0), .val (.int p1), .val (.int p2), .val (.int (1 : Int32)), .val (.int (0 : Int32)), .val (.ref b339), .val (.int vg347), .val (.int vg348), .val (.int vg349), .unset, .unset, .unset, .unset]) (rest := []) (hb hby at_51) (n := (0 : Int32)) (by decide) (cap := 0) (by decide) (by decide) (by decide) (by decide) 0 rfl
      refine own_via st350 ?_
      have ne351 : b339 ≠ b350 := Nat.ne_of_lt (Nat.lt_of_lt_of_le f344.lt (Nat.le_of_eq ga350.symm))
      have f352 : Exa Z h350 b339 "[B" := f344.ext E350
      have f353 : Arv Z h350 b339 k339 .byte (1 : Int32) [(.int ((((p0.toUInt32 >>> ((24 : Int32) &&& 31).toUInt32).toInt32).toInt8.toInt32).toInt8.toInt32))] (.int (0 : Int32)) := f345.ext E350
      have f354 : Arv Z h350 b350 k350 .byte (0 : Int32) [] (.int (0 : Int32)) := V350
      have f355 : Exa Z h350 b350 "[B" := Ex350
      have g_b350 : n0 ≤ b350 := Nat.le_trans Zs346 (Nat.le_of_eq ga350.symm)
      have Zs356 : n0 ≤ h350.size := Nat.le_trans Zs346 E350.1
      show own_G p e below _ (T350.setTop (mkF m 53 #[.val (.int p0), .val (.int p1), .val (.int p2), .val (.int (1 : Int32)), .val (.int (0 : Int32)), .val (.ref b339), .val (.int vg347), .val (.int vg348), .val (.int vg349), .unset, .unset, .unset, .unset] [(.ref b350)]))
      refine own_via (fun t k => XS.astore X350.here hx rfl (hb hby at_53) rfl rfl (l' := #[.val (.int p0), .val (.int p1), .val (.int p2), .val (.int (1 : Int32)), .val (.int (0 : Int32)), .val (.ref b339), .val (.int vg347), .val (.int vg348), .val (.int vg349), .val (.ref b350), .unset, .unset, .unset]) rfl k) ?_
      show own_G p e below _ (T350.setTop (mkF m 55 #[.val (.int p0), .val (.int p1), .val (.int p2), .val (.int (1 : Int32)), .val (.int (0 : Int32)), .val (.ref b339), .val (.int vg347), .val (.int vg348), .val (.int vg349), .val (.ref b350), .unset, .unset, .unset] []))
      refine own_via (fun t k => XS.iload X350.here hx rfl (hb hby at_55) rfl k) ?_
      show own_G p e below _ (T350.setTop (mkF m 57 #[.val (.int p0), .val (.int p1), .val (.int p2), .val (.int (1 : Int32)), .val (.int (0 : Int32)), .val (.ref b339), .val (.int vg347), .val (.int vg348), .val (.int vg349), .val (.ref b350), .unset, .unset, .unset] [(.int (0 : Int32))]))
      refine own_via (fun t k => XS.ifYes X350.here hx rfl (pc0 := 57) (pc' := 66) rfl (hb hby at_57) rfl ((if0 _ _).trans (flt (by decide : ¬ ((0 : Int32) < (0 : Int32)))).2.2.2) (by decide) (by decide) k) ?_
      show own_G p e below _ (T350.setTop (mkF m 66 #[.val (.int p0), .val (.int p1), .val (.int p2), .val (.int (1 : Int32)), .val (.int (0 : Int32)), .val (.ref b339), .val (.int vg347), .val (.int vg348), .val (.int vg349), .val (.ref b350), .unset, .unset, .unset] []))
      refine own_via (fun t k => XS.iload X350.here hx rfl (hb hby at_66) rfl k) ?_
      show own_G p e below _ (T350.setTop (mkF m 68 #[.val (.int p0), .val (.int p1), .val (.int p2), .val (.int (1 : Int32)), .val (.int (0 : Int32)), .val (.ref b339), .val (.int vg347), .val (.int vg348), .val (.int vg349), .val (.ref b350), .unset, .unset, .unset] [(.int (0 : Int32))]))
      refine own_via (fun t k => XS.iconst X350.here hx rfl (hb hby at_68) k) ?_
      show own_G p e below _ (T350.setTop (mkF m 69 #[.val (.int p0), .val (.int p1), .val (.int p2), .val (.int (1 : Int32)), .val (.int (0 : Int32)), .val (.ref b339), .val (.int vg347), .val (.int vg348), .val (.int vg349), .val (.ref b350), .unset, .unset, .unset] [(.int (1 : Int32)), (.int (0 : Int32))]))
      refine own_via (fun t k => XS.icmpYes X350.here hx rfl (pc0 := 69) (pc' := 78) rfl (hb hby at_69) rfl (flt (by decide : ¬ ((1 : Int32) < (0 : Int32)))).2.2.2 (by decide) (by decide) k) ?_
      show own_G p e below _ (T350.setTop (mkF m 78 #[.val (.int p0), .val (.int p1), .val (.int p2), .val (.int (1 : Int32)), .val (.int (0 : Int32)), .val (.ref b339), .val (.int vg347), .val (.int vg348), .val (.int vg349), .val (.ref b350), .unset, .unset, .unset] []))
      refine own_via (fun t k => XS.iload X350.here hx rfl (hb hby at_78) rfl k) ?_
      show own_G p e below _ (T350.setTop (mkF m 80 #[.val (.int p0), .val (.int p1), .val (.int p2), .val (.int (1 : Int32)), .val (.int (0 : Int32)), .val (.ref b339), .val (.int vg347), .val (.int vg348), .val (.int vg349), .val (.ref b350), .unset, .unset, .unset] [(.int (0 : Int32))]))
      refine own_via (fun t k => XS.iconst X350.here hx rfl (hb hby at_80) k) ?_
      show own_G p e below _ (T350.setTop (mkF m 81 #[.val (.int p0), .val (.int p1), .val (.int p2), .val (.int (1 : Int32)), .val (.int (0 : Int32)), .val (.ref b339), .val (.int vg347), .val (.int vg348), .val (.int vg349), .val (.ref b350), .unset, .unset, .unset] [(.int (2 : Int32)), (.int (0 : Int32))]))
      refine own_via (fun t k => XS.icmpYes X350.here hx rfl (pc0 := 81) (pc' := 90) rfl (hb hby at_81) rfl (flt (by decide : ¬ ((2 : Int32) < (0 : Int32)))).2.2.2 (by decide) (by decide) k) ?_
      show own_G p e below _ (T350.setTop (mkF m 90 #[.val (.int p0), .val (.int p1), .val (.int p2), .val (.int (1 : Int32)), .val (.int (0 : Int32)), .val (.ref b339), .val (.int vg347), .val (.int vg348), .val (.int vg349), .val (.ref b350), .unset, .unset, .unset] []))
      obtain ⟨T357, h357, b357, X357, e357, E357, ga357, A357, D357, st357⟩ := own_newO X350 hx hZ hown (hw _ (List.mem_of_getElem? (i := 1) rfl)) (hw _ (List.mem_of_getElem? (i := 2) rfl)) (hw _ (List.mem_of_getElem? (i := 3) rfl)) e350 (pc := 90) (Ls := #[.val (.int p0), .val (.int p1), .val (.int p2), .val (.int (1 : Int32)), .val (.int (0 : Int32)), .val (.ref b339), .val (.int vg347), .val (.int vg348), .val (.int vg349), .val (.ref b350), .unset, .unset, .unset]) (rest := []) (hb hby at_90) (by decide) (by decide)
      refine own_via st357 ?_
      have ne358 : b339 ≠ b357 := Nat.ne_of_lt (Nat.lt_of_lt_of_le f352.lt (Nat.le_of_eq ga357.symm))
      have ne359 : b350 ≠ b357 := Nat.ne_of_lt (Nat.lt_of_lt_of_le f354.lt (Nat.le_of_eq ga357.symm))
      have f360 : Exa Z h357 b339 "[B" := f352.ext E357
      have f361 : Arv Z h357 b339 k339 .byte (1 : Int32) [(.int ((((p0.toUInt32 >>> ((24 : Int32) &&& 31).toUInt32).toInt32).toInt8.toInt32).toInt8.toInt32))] (.int (0 : Int32)) := f353.ext E357
      have f362 : Arv Z h357 b350 k350 .byte (0 : Int32) [] (.int (0 : Int32)) := f354.ext E357
      have f363 : Exa Z h357 b350 "[B" := f355.ext E357
      have f364 : Fld Z h357 b357 "com/example/clementi/clementi/store/KeyRange" "prefix" "[B" .null := D357 (Or.inr (hw _ (List.mem_of_getElem? (i := 11) rfl))) (ty := (.array .byte)) (by decide)
      have f365 : Fld Z h357 b357 "com/example/clementi/clementi/store/KeyRange" "end" "[B" .null := D357 (Or.inr (hw _ (List.mem_of_getElem? (i := 13) rfl))) (ty := (.array .byte)) (by decide)
      have g_b357 : n0 ≤ b357 := Nat.le_trans Zs356 (Nat.le_of_eq ga357.symm)
      have Zs366 : n0 ≤ h357.size := Nat.le_trans Zs356 E357.1
      show own_G p e below _ (T357.setTop (mkF m 93 #[.val (.int p0), .val (.int p1), .val (.int p2), .val (.int (1 : Int32)), .val (.int (0 : Int32)), .val (.ref b339), .val (.int vg347), .val (.int vg348), .val (.int vg349), .val (.ref b350), .unset, .unset, .unset] [(.ref b357)]))
      refine own_via (fun t k => XS.dup X357.here hx rfl (hb hby at_93) rfl rfl k) ?_
      show own_G p e below _ (T357.setTop (mkF m 94 #[.val (.int p0), .val (.int p1), .val (.int p2), .val (.int (1 : Int32)), .val (.int (0 : Int32)), .val (.ref b339), .val (.int vg347), .val (.int vg348), .val (.int vg349), .val (.ref b350), .unset, .unset, .unset] [(.ref b357), (.ref b357)]))
      refine own_via (fun t k => XS.aload X357.here hx rfl (hb hby at_94) rfl rfl k) ?_
      show own_G p e below _ (T357.setTop (mkF m 96 #[.val (.int p0), .val (.int p1), .val (.int p2), .val (.int (1 : Int32)), .val (.int (0 : Int32)), .val (.ref b339), .val (.int vg347), .val (.int vg348), .val (.int vg349), .val (.ref b350), .unset, .unset, .unset] [(.ref b339), (.ref b357), (.ref b357)]))
      refine own_via (fun t k => XS.iloadN X357.here hx rfl (hb hby at_96) rfl k) ?_
      show own_G p e below _ (T357.setTop (mkF m 97 #[.val (.int p0), .val (.int p1), .val (.int p2), .val (.int (1 : Int32)), .val (.int (0 : Int32)), .val (.ref b339), .val (.int vg347), .val (.int vg348), .val (.int vg349), .val (.ref b350), .unset, .unset, .unset] [(.int (1 : Int32)), (.ref b339), (.ref b357), (.ref b357)]))
      refine own_via (fun t k => XS.ifNo X357.here hx rfl (hb hby at_97) rfl ((if0 _ _).trans (feq (by decide : ¬ ((1 : Int32) = (0 : Int32)))).1) k) ?_
      show own_G p e below _ (T357.setTop (mkF m 100 #[.val (.int p0), .val (.int p1), .val (.int p2), .val (.int (1 : Int32)), .val (.int (0 : Int32)), .val (.ref b339), .val (.int vg347), .val (.int vg348), .val (.int vg349), .val (.ref b350), .unset, .unset, .unset] [(.ref b339), (.ref b357), (.ref b357)]))
      refine own_via (fun t k => XS.aconstNull X357.here hx rfl (hb hby at_100) k) ?_
      show own_G p e below _ (T357.setTop (mkF m 101 #[.val (.int p0), .val (.int p1), .val (.int p2), .val (.int (1 : Int32)), .val (.int (0 : Int32)), .val (.ref b339), .val (.int vg347), .val (.int vg348), .val (.int vg349), .val (.ref b350), .unset, .unset, .unset] [.null, (.ref b339), (.ref b357), (.ref b357)]))
      refine own_via (fun t k => XS.goto X357.here hx rfl (pc0 := 101) (pc' := 106) rfl (hb hby at_101) (by decide) (by decide) k) ?_
      show own_G p e below _ (T357.setTop (mkF m 106 #[.val (.int p0), .val (.int p1), .val (.int p2), .val (.int (1 : Int32)), .val (.int (0 : Int32)), .val (.ref b339), .val (.int vg347), .val (.int vg348), .val (.int vg349), .val (.ref b350), .unset, .unset, .unset] [.null, (.ref b339), (.ref b357), (.ref b357)]))
      obtain ⟨v367, T367, h367, L367, X367, N367, e367, hq367, st367⟩ := own_callI (y := (⟨"com/example/clementi/clementi/store/KeyRange", "<init>", "([B[B)V"⟩ : MethodName)) (W := 1) (a := b357) X357 N343 hx hZ rfl hown (hw _ (List.mem_of_getElem? (i := 4) rfl)) (hw _ (List.mem_of_getElem? (i := 5) rfl)) (hw _ (List.mem_of_getElem? (i := 3) rfl)) (hw _ (List.mem_of_getElem? (i := 6) rfl)) (by decide) (own_init1 l Z a0 hw [] b357 b339 (.null) (.null) h357 n0 Zs366 A357 f364 f365 g_b357) (by decide) (by decide) (by decide) (by decide) e357 (pc := 106) (Ls := #[.val (.int p0), .val (.int p1), .val (.int p2), .val (.int (1 : Int32)), .val (.int (0 : Int32)), .val (.ref b339), .val (.int vg347), .val (.int vg348), .val (.int vg349), .val (.ref b350), .unset, .unset, .unset]) (st := [.null, (.ref b339), (.ref b357), (.ref b357)]) (argsL := [(.ref b339), .null]) (rest := [(.ref b357)]) (by rw [hml]; rfl) (lenOf own_pd0 rfl) rfl rfl (Nat.le_of_eq rfl) (hb hby at_106)
      obtain ⟨rfl, K367, o367_0, o367_1, o367_2⟩ := hq367
      refine own_via st367 ?_
      have f368 : Exa Z h367 b339 "[B" := f360.keep K367
      have f369 : Arv Z h367 b339 k339 .byte (1 : Int32) [(.int ((((p0.toUInt32 >>> ((24 : Int32) &&& 31).toUInt32).toInt32).toInt8.toInt32).toInt8.toInt32))] (.int (0 : Int32)) := f361.keep K367 (by simp only [List.mem_cons, List.not_mem_nil, or_false, not_or]; exact ne358)
      have f370 : Arv Z h367 b350 k350 .byte (0 : Int32) [] (.int (0 : Int32)) := f362.keep K367 (by simp only [List.mem_cons, List.not_mem_nil, or_false, not_or]; exact ne359)
      have f371 : Exa Z h367 b350 "[B" := f363.keep K367
      have f372 : Exa Z h367 b357 "com/example/clementi/clementi/store/KeyRange" := A357.keep K367
      have Zs373 : n0 ≤ h367.size := Nat.le_trans Zs366 K367.1
      show own_G p e below _ (T367.setTop (mkF m 109 #[.val (.int p0), .val (.int p1), .val (.int p2), .val (.int (1 : Int32)), .val (.int (0 : Int32)), .val (.ref b339), .val (.int vg347), .val (.int vg348), .val (.int vg349), .val (.ref b350), .unset, .unset, .unset] [(.ref b357)]))
      refine own_via (fun t k => XS.astore X367.here hx rfl (hb hby at_109) rfl rfl (l' := #[.val (.int p0), .val (.int p1), .val (.int p2), .val (.int (1 : Int32)), .val (.int (0 : Int32)), .val (.ref b339), .val (.int vg347), .val (.int vg348), .val (.int vg349), .val (.ref b350), .val (.ref b357), .unset, .unset]) rfl k) ?_
      show own_G p e below _ (T367.setTop (mkF m 111 #[.val (.int p0), .val (.int p1), .val (.int p2), .val (.int (1 : Int32)), .val (.int (0 : Int32)), .val (.ref b339), .val (.int vg347), .val (.int vg348), .val (.int vg349), .val (.ref b350), .val (.ref b357), .unset, .unset] []))
      refine own_via (fun t k => XS.aload X367.here hx rfl (hb hby at_111) rfl rfl k) ?_
      show own_G p e below _ (T367.setTop (mkF m 113 #[.val (.int p0), .val (.int p1), .val (.int p2), .val (.int (1 : Int32)), .val (.int (0 : Int32)), .val (.ref b339), .val (.int vg347), .val (.int vg348), .val (.int vg349), .val (.ref b350), .val (.ref b357), .unset, .unset] [(.ref b357)]))
      obtain ⟨T374, X374, e374, st374⟩ := own_callVP (y := (⟨"com/example/clementi/clementi/store/KeyRange", "end", "()[B"⟩ : MethodName)) (z := (⟨"com/example/clementi/clementi/store/KeyRange", "end", "()[B"⟩ : MethodName)) (W := 0) (a := b357) X367 hx hZ hown (hw _ (List.mem_of_getElem? (i := 14) rfl)) (hw _ (List.mem_of_getElem? (i := 15) rfl)) (notFace_of_selects (args := #[]) (mvT hZ (hw _ (List.mem_of_getElem? (i := 17) rfl)))) (hw _ (List.mem_of_getElem? (i := 17) rfl)) (hw _ (List.mem_of_getElem? (i := 16) rfl)) (hw _ (List.mem_of_getElem? (i := 3) rfl)) (hw _ (List.mem_of_getElem? (i := 18) rfl)) (by decide) (own_end0 l Z a0 hw [] b357 h367 o367_2) (by decide) (by decide) rfl rfl (by decide) (by decide) e367 o367_0 (pc := 113) (Ls := #[.val (.int p0), .val (.int p1), .val (.int p2), .val (.int (1 : Int32)), .val (.int (0 : Int32)), .val (.ref b339), .val (.int vg347), .val (.int vg348), .val (.int vg349), .val (.ref b350), .val (.ref b357), .unset, .unset]) (st := [(.ref b357)]) (argsL := []) (rest := []) (by rw [hml]; rfl) (lenOf own_pd1 rfl) rfl rfl (Nat.le_of_eq rfl) (hb hby at_113)
      refine own_via st374 ?_
      show own_G p e below _ (T374.setTop (mkF m 116 #[.val (.int p0), .val (.int p1), .val (.int p2), .val (.int (1 : Int32)), .val (.int (0 : Int32)), .val (.ref b339), .val (.int vg347), .val (.int vg348), .val (.int vg349), .val (.ref b350), .val (.ref b357), .unset, .unset] [.null]))
      refine own_via (fun t k => XS.astore X374.here hx rfl (hb hby at_116) rfl rfl (l' := #[.val (.int p0), .val (.int p1), .val (.int p2), .val (.int (1 : Int32)), .val (.int (0 : Int32)), .val (.ref b339), .val (.int vg347), .val (.int vg348), .val (.int vg349), .val (.ref b350), .val (.ref b357), .val .null, .unset]) rfl k) ?_
      show own_G p e below _ (T374.setTop (mkF m 118 #[.val (.int p0), .val (.int p1), .val (.int p2), .val (.int (1 : Int32)), .val (.int (0 : Int32)), .val (.ref b339), .val (.int vg347), .val (.int vg348), .val (.int vg349), .val (.ref b350), .val (.ref b357), .val .null, .unset] []))
      refine own_via (fun t k => XS.iloadN X374.here hx rfl (hb hby at_118) rfl k) ?_
      show own_G p e below _ (T374.setTop (mkF m 119 #[.val (.int p0), .val (.int p1), .val (.int p2), .val (.int (1 : Int32)), .val (.int (0 : Int32)), .val (.ref b339), .val (.int vg347), .val (.int vg348), .val (.int vg349), .val (.ref b350), .val (.ref b357), .val .null, .unset] [(.int (1 : Int32))]))
      refine own_via (fun t k => XS.ifNo X374.here hx rfl (hb hby at_119) rfl ((if0 _ _).trans (feq (by decide : ¬ ((1 : Int32) = (0 : Int32)))).1) k) ?_
      show own_G p e below _ (T374.setTop (mkF m 122 #[.val (.int p0), .val (.int p1), .val (.int p2), .val (.int (1 : Int32)), .val (.int (0 : Int32)), .val (.ref b339), .val (.int vg347), .val (.int vg348), .val (.int vg349), .val (.ref b350), .val (.ref b357), .val .null, .unset] []))
      refine own_via (fun t k => XS.aload X374.here hx rfl (hb hby at_122) rfl rfl k) ?_
      show own_G p e below _ (T374.setTop (mkF m 124 #[.val (.int p0), .val (.int p1), .val (.int p2), .val (.int (1 : Int32)), .val (.int (0 : Int32)), .val (.ref b339), .val (.int vg347), .val (.int vg348), .val (.int vg349), .val (.ref b350), .val (.ref b357), .val .null, .unset] [.null]))
      refine own_via (fun t k => XS.ifnonnullNo X374.here hx rfl (hb hby at_124) rfl k) ?_
      show own_G p e below _ (T374.setTop (mkF m 127 #[.val (.int p0), .val (.int p1), .val (.int p2), .val (.int (1 : Int32)), .val (.int (0 : Int32)), .val (.ref b339), .val (.int vg347), .val (.int vg348), .val (.int vg349), .val (.ref b350), .val (.ref b357), .val .null, .unset] []))
      refine own_via (fun t k => XS.aload X374.here hx rfl (hb hby at_127) rfl rfl k) ?_
      show own_G p e below _ (T374.setTop (mkF m 129 #[.val (.int p0), .val (.int p1), .val (.int p2), .val (.int (1 : Int32)), .val (.int (0 : Int32)), .val (.ref b339), .val (.int vg347), .val (.int vg348), .val (.int vg349), .val (.ref b350), .val (.ref b357), .val .null, .unset] [(.ref b357)]))
      obtain ⟨T375, X375, e375, st375⟩ := own_callVP (y := (⟨"com/example/clementi/clementi/store/KeyRange", "end", "()[B"⟩ : MethodName)) (z := (⟨"com/example/clementi/clementi/store/KeyRange", "end", "()[B"⟩ : MethodName)) (W := 0) (a := b357) X374 hx hZ hown (hw _ (List.mem_of_getElem? (i := 14) rfl)) (hw _ (List.mem_of_getElem? (i := 15) rfl)) (notFace_of_selects (args := #[]) (mvT hZ (hw _ (List.mem_of_getElem? (i := 17) rfl)))) (hw _ (List.mem_of_getElem? (i := 17) rfl)) (hw _ (List.mem_of_getElem? (i := 16) rfl)) (hw _ (List.mem_of_getElem? (i := 3) rfl)) (hw _ (List.mem_of_getElem? (i := 18) rfl)) (by decide) (own_end0 l Z a0 hw [] b357 h367 o367_2) (by decide) (by decide) rfl rfl (by decide) (by decide) e374 o367_0 (pc := 129) (Ls := #[.val (.int p0), .val (.int p1), .val (.int p2), .val (.int (1 : Int32)), .val (.int (0 : Int32)), .val (.ref b339), .val (.int vg347), .val (.int vg348), .val (.int vg349), .val (.ref b350), .val (.ref b357), .val .null, .unset]) (st := [(.ref b357)]) (argsL := []) (rest := []) (by rw [hml]; rfl) (lenOf own_pd1 rfl) rfl rfl (Nat.le_of_eq rfl) (hb hby at_129)
      refine own_via st375 ?_
      show own_G p e below _ (T375.setTop (mkF m 132 #[.val (.int p0), .val (.int p1), .val (.int p2), .val (.int (1 : Int32)), .val (.int (0 : Int32)), .val (.ref b339), .val (.int vg347), .val (.int vg348), .val (.int vg349), .val (.ref b350), .val (.ref b357), .val .null, .unset] [.null]))
      refine own_via (fun t k => XS.ifnonnullNo X375.here hx rfl (hb hby at_132) rfl k) ?_
      show own_G p e below _ (T375.setTop (mkF m 135 #[.val (.int p0), .val (.int p1), .val (.int p2), .val (.int (1 : Int32)), .val (.int (0 : Int32)), .val (.ref b339), .val (.int vg347), .val (.int vg348), .val (.int vg349), .val (.ref b350), .val (.ref b357), .val .null, .unset] []))
      refine own_via (fun t k => XS.iconst X375.here hx rfl (hb hby at_135) k) ?_
      show own_G p e below _ (T375.setTop (mkF m 136 #[.val (.int p0), .val (.int p1), .val (.int p2), .val (.int (1 : Int32)), .val (.int (0 : Int32)), .val (.ref b339), .val (.int vg347), .val (.int vg348), .val (.int vg349), .val (.ref b350), .val (.ref b357), .val .null, .unset] [(.int (1 : Int32))]))
      refine own_via (fun t k => XS.goto X375.here hx rfl (pc0 := 136) (pc' := 140) rfl (hb hby at_136) (by decide) (by decide) k) ?_
      show own_G p e below _ (T375.setTop (mkF m 140 #[.val (.int p0), .val (.int p1), .val (.int p2), .val (.int (1 : Int32)), .val (.int (0 : Int32)), .val (.ref b339), .val (.int vg347), .val (.int vg348), .val (.int vg349), .val (.ref b350), .val (.ref b357), .val .null, .unset] [(.int (1 : Int32))]))
      exact own_retN (t := .boolean) X375 hx Bd.returns (by simp) Bd.notSynchronized (hb hby at_140) ⟨N367, rfl⟩ (by decide) (by decide)
    ·
      rw [hs336]
      show own_G p e below _ (s₁.setTop (mkF m 15 #[.val (.int p0), .val (.int p1), .val (.int p2), .val (.int (1 : Int32)), .unset, .unset, .unset, .unset, .unset, .unset, .unset, .unset, .unset] [(.int (1 : Int32))]))
      refine own_via (fun t k => XS.istore X0.here hx rfl (hb hby at_15) rfl (l' := #[.val (.int p0), .val (.int p1), .val (.int p2), .val (.int (1 : Int32)), .val (.int (1 : Int32)), .unset, .unset, .unset, .unset, .unset, .unset, .unset, .unset]) rfl k) ?_
      show own_G p e below _ (s₁.setTop (mkF m 17 #[.val (.int p0), .val (.int p1), .val (.int p2), .val (.int (1 : Int32)), .val (.int (1 : Int32)), .unset, .unset, .unset, .unset, .unset, .unset, .unset, .unset] []))
      refine own_via (fun t k => XS.iconst X0.here hx rfl (hb hby at_17) k) ?_
      show own_G p e below _ (s₁.setTop (mkF m 18 #[.val (.int p0), .val (.int p1), .val (.int p2), .val (.int (1 : Int32)), .val (.int (1 : Int32)), .unset, .unset, .unset, .unset, .unset, .unset, .unset, .unset] [(.int (1 : Int32))]))
      obtain ⟨T376, h376, k376, b376, X376, e376, E376, ga376, V376, Ex376, st376⟩ := own_newA X0 hx hZ (hw _ (List.mem_of_getElem? (i := 0) rfl)) e0 (pc := 18) (Ls := #[.val (.int p0), .val (.int p1), .val (.int p2), .val (.int (1 : Int32)), .val (.int (1 : Int32)), .unset, .unset, .unset, .unset, .unset, .unset, .unset, .unset]) (rest := []) (hb hby at_18) (n := (1 : Int32)) (by decide) (cap := 1) (by decide) (by decide) (by decide) (by decide) 1 rfl
      refine own_via st376 ?_
      have f377 : Arv Z h376 b376 k376 .byte (1 : Int32) [(.int (0 : Int32))] (.int (0 : Int32)) := V376
      have f378 : Exa Z h376 b376 "[B" := Ex376
      have g_b376 : n0 ≤ b376 := Nat.le_trans Z0 (Nat.le_of_eq ga376.symm)
      have Zs379 : n0 ≤ h376.size := Nat.le_trans Z0 E376.1
      show own_G p e below _ (T376.setTop (mkF m 20 #[.val (.int p0), .val (.int p1), .val (.int p2), .val (.int (1 : Int32)), .val (.int (1 : Int32)), .unset, .unset, .unset, .unset, .unset, .unset, .unset, .unset] [(.ref b376)]))
      refine own_via (fun t k => XS.astore X376.here hx rfl (hb hby at_20) rfl rfl (l' := #[.val (.int p0), .val (.int p1), .val (.int p2), .val (.int (1 : Int32)), .val (.int (1 : Int32)), .val (.ref b376), .unset, .unset, .unset, .unset, .unset, .unset, .unset]) rfl k) ?_
      show own_G p e below _ (T376.setTop (mkF m 22 #[.val (.int p0), .val (.int p1), .val (.int p2), .val (.int (1 : Int32)), .val (.int (1 : Int32)), .val (.ref b376), .unset, .unset, .unset, .unset, .unset, .unset, .unset] []))
      refine own_via (fun t k => XS.aload X376.here hx rfl (hb hby at_22) rfl rfl k) ?_
      show own_G p e below _ (T376.setTop (mkF m 24 #[.val (.int p0), .val (.int p1), .val (.int p2), .val (.int (1 : Int32)), .val (.int (1 : Int32)), .val (.ref b376), .unset, .unset, .unset, .unset, .unset, .unset, .unset] [(.ref b376)]))
      refine own_via (fun t k => XS.iconst X376.here hx rfl (hb hby at_24) k) ?_
      show own_G p e below _ (T376.setTop (mkF m 25 #[.val (.int p0), .val (.int p1), .val (.int p2), .val (.int (1 : Int32)), .val (.int (1 : Int32)), .val (.ref b376), .unset, .unset, .unset, .unset, .unset, .unset, .unset] [(.int (0 : Int32)), (.ref b376)]))
      refine own_via (fun t k => XS.iloadN X376.here hx rfl (hb hby at_25) rfl k) ?_
      show own_G p e below _ (T376.setTop (mkF m 26 #[.val (.int p0), .val (.int p1), .val (.int p2), .val (.int (1 : Int32)), .val (.int (1 : Int32)), .val (.ref b376), .unset, .unset, .unset, .unset, .unset, .unset, .unset] [(.int p0), (.int (0 : Int32)), (.ref b376)]))
      refine own_via (fun t k => XS.bipush X376.here hx rfl (hb hby at_26) k) ?_
      show own_G p e below _ (T376.setTop (mkF m 28 #[.val (.int p0), .val (.int p1), .val (.int p2), .val (.int (1 : Int32)), .val (.int (1 : Int32)), .val (.ref b376), .unset, .unset, .unset, .unset, .unset, .unset, .unset] [(.int (24 : Int32)), (.int p0), (.int (0 : Int32)), (.ref b376)]))
      refine own_via (fun t k => XS.iushr X376.here hx rfl (hb hby at_28) rfl k) ?_
      show own_G p e below _ (T376.setTop (mkF m 29 #[.val (.int p0), .val (.int p1), .val (.int p2), .val (.int (1 : Int32)), .val (.int (1 : Int32)), .val (.ref b376), .unset, .unset, .unset, .unset, .unset, .unset, .unset] [(.int ((p0.toUInt32 >>> ((24 : Int32) &&& 31).toUInt32).toInt32)), (.int (0 : Int32)), (.ref b376)]))
      refine own_via (fun t k => XS.i2b X376.here hx rfl (hb hby at_29) rfl k) ?_
      show own_G p e below _ (T376.setTop (mkF m 30 #[.val (.int p0), .val (.int p1), .val (.int p2), .val (.int (1 : Int32)), .val (.int (1 : Int32)), .val (.ref b376), .unset, .unset, .unset, .unset, .unset, .unset, .unset] [(.int (((p0.toUInt32 >>> ((24 : Int32) &&& 31).toUInt32).toInt32).toInt8.toInt32)), (.int (0 : Int32)), (.ref b376)]))
      obtain ⟨T380, h380, L380, X380, N380, e380, W380, V380, st380⟩ := own_stB X376 N0 hx hZ e376 f377 g_b376 (j := (0 : Int32)) (x := (((p0.toUInt32 >>> ((24 : Int32) &&& 31).toUInt32).toInt32).toInt8.toInt32)) (i := 0) ⟨by decide, by decide⟩ rfl (Nat.le_of_ble_eq_true rfl) (pc := 30) (Ls := #[.val (.int p0), .val (.int p1), .val (.int p2), .val (.int (1 : Int32)), .val (.int (1 : Int32)), .val (.ref b376), .unset, .unset, .unset, .unset, .unset, .unset, .unset]) (rest := []) (hb hby at_30)
      refine own_via st380 ?_
      have f381 : Exa Z h380 b376 "[B" := f378.wr W380
      have f382 : Arv Z h380 b376 k376 .byte (1 : Int32) [(.int ((((p0.toUInt32 >>> ((24 : Int32) &&& 31).toUInt32).toInt32).toInt8.toInt32).toInt8.toInt32))] (.int (0 : Int32)) := V380
      have Zs383 : n0 ≤ h380.size := by rw [W380.size]; exact Zs379
      show own_G p e below _ (T380.setTop (mkF m 31 #[.val (.int p0), .val (.int p1), .val (.int p2), .val (.int (1 : Int32)), .val (.int (1 : Int32)), .val (.ref b376), .unset, .unset, .unset, .unset, .unset, .unset, .unset] []))
      refine own_via (fun t k => XS.iloadN X380.here hx rfl (hb hby at_31) rfl k) ?_
      show own_G p e below _ (T380.setTop (mkF m 32 #[.val (.int p0), .val (.int p1), .val (.int p2), .val (.int (1 : Int32)), .val (.int (1 : Int32)), .val (.ref b376), .unset, .unset, .unset, .unset, .unset, .unset, .unset] [(.int p0)]))
      refine own_via (fun t k => XS.i2b X380.here hx rfl (hb hby at_32) rfl k) ?_
      show own_G p e below _ (T380.setTop (mkF m 33 #[.val (.int p0), .val (.int p1), .val (.int p2), .val (.int (1 : Int32)), .val (.int (1 : Int32)), .val (.ref b376), .unset, .unset, .unset, .unset, .unset, .unset, .unset] [(.int (p0.toInt8.toInt32))]))
      generalize hvg384 : (p0.toInt8.toInt32) = vg384
      show own_G p e below _ (T380.setTop (mkF m 33 #[.val (.int p0), .val (.int p1), .val (.int p2), .val (.int (1 : Int32)), .val (.int (1 : Int32)), .val (.ref b376), .unset, .unset, .unset, .unset, .unset, .unset, .unset] [(.int vg384)]))
      refine own_via (fun t k => XS.istore X380.here hx rfl (hb hby at_33) rfl (l' := #[.val (.int p0), .val (.int p1), .val (.int p2), .val (.int (1 : Int32)), .val (.int (1 : Int32)), .val (.ref b376), .val (.int vg384), .unset, .unset, .unset, .unset, .unset, .unset]) rfl k) ?_
      show own_G p e below _ (T380.setTop (mkF m 35 #[.val (.int p0), .val (.int p1), .val (.int p2), .val (.int (1 : Int32)), .val (.int (1 : Int32)), .val (.ref b376), .val (.int vg384), .unset, .unset, .unset, .unset, .unset, .unset] []))
      refine own_via (fun t k => XS.iloadN X380.here hx rfl (hb hby at_35) rfl k) ?_
      show own_G p e below _ (T380.setTop (mkF m 36 #[.val (.int p0), .val (.int p1), .val (.int p2), .val (.int (1 : Int32)), .val (.int (1 : Int32)), .val (.ref b376), .val (.int vg384), .unset, .unset, .unset, .unset, .unset, .unset] [(.int p0)]))
      refine own_via (fun t k => XS.bipush X380.here hx rfl (hb hby at_36) k) ?_
      show own_G p e below _ (T380.setTop (mkF m 38 #[.val (.int p0), .val (.int p1), .val (.int p2), .val (.int (1 : Int32)), .val (.int (1 : Int32)), .val (.ref b376), .val (.int vg384), .unset, .unset, .unset, .unset, .unset, .unset] [(.int (8 : Int32)), (.int p0)]))
      refine own_via (fun t k => XS.ishr X380.here hx rfl (hb hby at_38) rfl k) ?_
      show own_G p e below _ (T380.setTop (mkF m 39 #[.val (.int p0), .val (.int p1), .val (.int p2), .val (.int (1 : Int32)), .val (.int (1 : Int32)), .val (.ref b376), .val (.int vg384), .unset, .unset, .unset, .unset, .unset, .unset] [(.int (p0 >>> ((8 : Int32) &&& 31)))]))
      refine own_via (fun t k => XS.i2b X380.here hx rfl (hb hby at_39) rfl k) ?_
      show own_G p e below _ (T380.setTop (mkF m 40 #[.val (.int p0), .val (.int p1), .val (.int p2), .val (.int (1 : Int32)), .val (.int (1 : Int32)), .val (.ref b376), .val (.int vg384), .unset, .unset, .unset, .unset, .unset, .unset] [(.int ((p0 >>> ((8 : Int32) &&& 31)).toInt8.toInt32))]))
      generalize hvg385 : ((p0 >>> ((8 : Int32) &&& 31)).toInt8.toInt32) = vg385
      show own_G p e below _ (T380.setTop (mkF m 40 #[.val (.int p0), .val (.int p1), .val (.int p2), .val (.int (1 : Int32)), .val (.int (1 : Int32)), .val (.ref b376), .val (.int vg384), .unset, .unset, .unset, .unset, .unset, .unset] [(.int vg385)]))
      refine own_via (fun t k => XS.istore X380.here hx rfl (hb hby at_40) rfl (l' := #[.val (.int p0), .val (.int p1), .val (.int p2), .val (.int (1 : Int32)), .val (.int (1 : Int32)), .val (.ref b376), .val (.int vg384), .val (.int vg385), .unset, .unset, .unset, .unset, .unset]) rfl k) ?_
      show own_G p e below _ (T380.setTop (mkF m 42 #[.val (.int p0), .val (.int p1), .val (.int p2), .val (.int (1 : Int32)), .val (.int (1 : Int32)), .val (.ref b376), .val (.int vg384), .val (.int vg385), .unset, .unset, .unset, .unset, .unset] []))
      refine own_via (fun t k => XS.iloadN X380.here hx rfl (hb hby at_42) rfl k) ?_
      show own_G p e below _ (T380.setTop (mkF m 43 #[.val (.int p0), .val (.int p1), .val (.int p2), .val (.int (1 : Int32)), .val (.int (1 : Int32)), .val (.ref b376), .val (.int vg384), .val (.int vg385), .unset, .unset, .unset, .unset, .unset] [(.int p0)]))
      refine own_via (fun t k => XS.bipush X380.here hx rfl (hb hby at_43) k) ?_
      show own_G p e below _ (T380.setTop (mkF m 45 #[.val (.int p0), .val (.int p1), .val (.int p2), .val (.int (1 : Int32)), .val (.int (1 : Int32)), .val (.ref b376), .val (.int vg384), .val (.int vg385), .unset, .unset, .unset, .unset, .unset] [(.int (16 : Int32)), (.int p0)]))
      refine own_via (fun t k => XS.ishr X380.here hx rfl (hb hby at_45) rfl k) ?_
      show own_G p e below _ (T380.setTop (mkF m 46 #[.val (.int p0), .val (.int p1), .val (.int p2), .val (.int (1 : Int32)), .val (.int (1 : Int32)), .val (.ref b376), .val (.int vg384), .val (.int vg385), .unset, .unset, .unset, .unset, .unset] [(.int (p0 >>> ((16 : Int32) &&& 31)))]))
      refine own_via (fun t k => XS.i2b X380.here hx rfl (hb hby at_46) rfl k) ?_
      show own_G p e below _ (T380.setTop (mkF m 47 #[.val (.int p0), .val (.int p1), .val (.int p2), .val (.int (1 : Int32)), .val (.int (1 : Int32)), .val (.ref b376), .val (.int vg384), .val (.int vg385), .unset, .unset, .unset, .unset, .unset] [(.int ((p0 >>> ((16 : Int32) &&& 31)).toInt8.toInt32))]))
      generalize hvg386 : ((p0 >>> ((16 : Int32) &&& 31)).toInt8.toInt32) = vg386
      show own_G p e below _ (T380.setTop (mkF m 47 #[.val (.int p0), .val (.int p1), .val (.int p2), .val (.int (1 : Int32)), .val (.int (1 : Int32)), .val (.ref b376), .val (.int vg384), .val (.int vg385), .unset, .unset, .unset, .unset, .unset] [(.int vg386)]))
      refine own_via (fun t k => XS.istore X380.here hx rfl (hb hby at_47) rfl (l' := #[.val (.int p0), .val (.int p1), .val (.int p2), .val (.int (1 : Int32)), .val (.int (1 : Int32)), .val (.ref b376), .val (.int vg384), .val (.int vg385), .val (.int vg386), .unset, .unset, .unset, .unset]) rfl k) ?_
      show own_G p e below _ (T380.setTop (mkF m 49 #[.val (.int p0), .val (.int p1), .val (.int p2), .val (.int (1 : Int32)), .val (.int (1 : Int32)), .val (.ref b376), .val (.int vg384), .val (.int vg385), .val (.int vg386), .unset, .unset, .unset, .unset] []))
      refine own_via (fun t k => XS.iload X380.here hx rfl (hb hby at_49) rfl k) ?_
      show own_G p e below _ (T380.setTop (mkF m 51 #[.val (.int p0), .val (.int p1), .val (.int p2), .val (.int (1 : Int32)), .val (.int (1 : Int32)), .val (.ref b376), .val (.int vg384), .val (.int vg385), .val (.int vg386), .unset, .unset, .unset, .unset] [(.int (1 : Int32))]))
      obtain ⟨T387, h387, k387, b387, X387, e387, E387, ga387, V387, Ex387, st387⟩ := own_newA X380 hx hZ (hw _ (List.mem_of_getElem? (i := 0) rfl)) e380 (pc := 51) (Ls := #[.val (.int p0), .val (.int p1), .val (.int p2), .val (.int (1 : Int32)), .val (.int (1 : Int32)), .val (.ref b376), .val (.int vg384), .val (.int vg385), .val (.int vg386), .unset, .unset, .unset, .unset]) (rest := []) (hb hby at_51) (n := (1 : Int32)) (by decide) (cap := 1) (by decide) (by decide) (by decide) (by decide) 1 rfl
      refine own_via st387 ?_
      have ne388 : b376 ≠ b387 := Nat.ne_of_lt (Nat.lt_of_lt_of_le f381.lt (Nat.le_of_eq ga387.symm))
      have f389 : Exa Z h387 b376 "[B" := f381.ext E387
      have f390 : Arv Z h387 b376 k376 .byte (1 : Int32) [(.int ((((p0.toUInt32 >>> ((24 : Int32) &&& 31).toUInt32).toInt32).toInt8.toInt32).toInt8.toInt32))] (.int (0 : Int32)) := f382.ext E387
      have f391 : Arv Z h387 b387 k387 .byte (1 : Int32) [(.int (0 : Int32))] (.int (0 : Int32)) := V387
      have f392 : Exa Z h387 b387 "[B" := Ex387
      have g_b387 : n0 ≤ b387 := Nat.le_trans Zs383 (Nat.le_of_eq ga387.symm)
      have Zs393 : n0 ≤ h387.size := Nat.le_trans Zs383 E387.1
      show own_G p e below _ (T387.setTop (mkF m 53 #[.val (.int p0), .val (.int p1), .val (.int p2), .val (.int (1 : Int32)), .val (.int (1 : Int32)), .val (.ref b376), .val (.int vg384), .val (.int vg385), .val (.int vg386), .unset, .unset, .unset, .unset] [(.ref b387)]))
      refine own_via (fun t k => XS.astore X387.here hx rfl (hb hby at_53) rfl rfl (l' := #[.val (.int p0), .val (.int p1), .val (.int p2), .val (.int (1 : Int32)), .val (.int (1 : Int32)), .val (.ref b376), .val (.int vg384), .val (.int vg385), .val (.int vg386), .val (.ref b387), .unset, .unset, .unset]) rfl k) ?_
      show own_G p e below _ (T387.setTop (mkF m 55 #[.val (.int p0), .val (.int p1), .val (.int p2), .val (.int (1 : Int32)), .val (.int (1 : Int32)), .val (.ref b376), .val (.int vg384), .val (.int vg385), .val (.int vg386), .val (.ref b387), .unset, .unset, .unset] []))
      refine own_via (fun t k => XS.iload X387.here hx rfl (hb hby at_55) rfl k) ?_
      show own_G p e below _ (T387.setTop (mkF m 57 #[.val (.int p0), .val (.int p1), .val (.int p2), .val (.int (1 : Int32)), .val (.int (1 : Int32)), .val (.ref b376), .val (.int vg384), .val (.int vg385), .val (.int vg386), .val (.ref b387), .unset, .unset, .unset] [(.int (1 : Int32))]))
      refine own_via (fun t k => XS.ifNo X387.here hx rfl (hb hby at_57) rfl ((if0 _ _).trans (tlt (by decide : (0 : Int32) < (1 : Int32))).2.2.2) k) ?_
      show own_G p e below _ (T387.setTop (mkF m 60 #[.val (.int p0), .val (.int p1), .val (.int p2), .val (.int (1 : Int32)), .val (.int (1 : Int32)), .val (.ref b376), .val (.int vg384), .val (.int vg385), .val (.int vg386), .val (.ref b387), .unset, .unset, .unset] []))
      refine own_via (fun t k => XS.aload X387.here hx rfl (hb hby at_60) rfl rfl k) ?_
      show own_G p e below _ (T387.setTop (mkF m 62 #[.val (.int p0), .val (.int p1), .val (.int p2), .val (.int (1 : Int32)), .val (.int (1 : Int32)), .val (.ref b376), .val (.int vg384), .val (.int vg385), .val (.int vg386), .val (.ref b387), .unset, .unset, .unset] [(.ref b387)]))
      refine own_via (fun t k => XS.iconst X387.here hx rfl (hb hby at_62) k) ?_
      show own_G p e below _ (T387.setTop (mkF m 63 #[.val (.int p0), .val (.int p1), .val (.int p2), .val (.int (1 : Int32)), .val (.int (1 : Int32)), .val (.ref b376), .val (.int vg384), .val (.int vg385), .val (.int vg386), .val (.ref b387), .unset, .unset, .unset] [(.int (0 : Int32)), (.ref b387)]))
      refine own_via (fun t k => XS.iload X387.here hx rfl (hb hby at_63) rfl k) ?_
      show own_G p e below _ (T387.setTop (mkF m 65 #[.val (.int p0), .val (.int p1), .val (.int p2), .val (.int (1 : Int32)), .val (.int (1 : Int32)), .val (.ref b376), .val (.int vg384), .val (.int vg385), .val (.int vg386), .val (.ref b387), .unset, .unset, .unset] [(.int vg384), (.int (0 : Int32)), (.ref b387)]))
      obtain ⟨T394, h394, L394, X394, N394, e394, W394, V394, st394⟩ := own_stB X387 N380 hx hZ e387 f391 g_b387 (j := (0 : Int32)) (x := vg384) (i := 0) ⟨by decide, by decide⟩ rfl (Nat.le_of_ble_eq_true rfl) (pc := 65) (Ls := #[.val (.int p0), .val (.int p1), .val (.int p2), .val (.int (1 : Int32)), .val (.int (1 : Int32)), .val (.ref b376), .val (.int vg384), .val (.int vg385), .val (.int vg386), .val (.ref b387), .unset, .unset, .unset]) (rest := []) (hb hby at_65)
      refine own_via st394 ?_
      have f395 : Exa Z h394 b376 "[B" := f389.wr W394
      have f396 : Arv Z h394 b376 k376 .byte (1 : Int32) [(.int ((((p0.toUInt32 >>> ((24 : Int32) &&& 31).toUInt32).toInt32).toInt8.toInt32).toInt8.toInt32))] (.int (0 : Int32)) := f390.other W394 ne388
      have f397 : Exa Z h394 b387 "[B" := f392.wr W394
      have f398 : Arv Z h394 b387 k387 .byte (1 : Int32) [(.int (vg384.toInt8.toInt32))] (.int (0 : Int32)) := V394
      have Zs399 : n0 ≤ h394.size := by rw [W394.size]; exact Zs393
      show own_G p e below _ (T394.setTop (mkF m 66 #[.val (.int p0), .val (.int p1), .val (.int p2), .val (.int (1 : Int32)), .val (.int (1 : Int32)), .val (.ref b376), .val (.int vg384), .val (.int vg385), .val (.int vg386), .val (.ref b387), .unset, .unset, .unset] []))
      refine own_via (fun t k => XS.iload X394.here hx rfl (hb hby at_66) rfl k) ?_
      show own_G p e below _ (T394.setTop (mkF m 68 #[.val (.int p0), .val (.int p1), .val (.int p2), .val (.int (1 : Int32)), .val (.int (1 : Int32)), .val (.ref b376), .val (.int vg384), .val (.int vg385), .val (.int vg386), .val (.ref b387), .unset, .unset, .unset] [(.int (1 : Int32))]))
      refine own_via (fun t k => XS.iconst X394.here hx rfl (hb hby at_68) k) ?_
      show own_G p e below _ (T394.setTop (mkF m 69 #[.val (.int p0), .val (.int p1), .val (.int p2), .val (.int (1 : Int32)), .val (.int (1 : Int32)), .val (.ref b376), .val (.int vg384), .val (.int vg385), .val (.int vg386), .val (.ref b387), .unset, .unset, .unset] [(.int (1 : Int32)), (.int (1 : Int32))]))
      refine own_via (fun t k => XS.icmpYes X394.here hx rfl (pc0 := 69) (pc' := 78) rfl (hb hby at_69) rfl (flt (by decide : ¬ ((1 : Int32) < (1 : Int32)))).2.2.2 (by decide) (by decide) k) ?_
      show own_G p e below _ (T394.setTop (mkF m 78 #[.val (.int p0), .val (.int p1), .val (.int p2), .val (.int (1 : Int32)), .val (.int (1 : Int32)), .val (.ref b376), .val (.int vg384), .val (.int vg385), .val (.int vg386), .val (.ref b387), .unset, .unset, .unset] []))
      refine own_via (fun t k => XS.iload X394.here hx rfl (hb hby at_78) rfl k) ?_
      show own_G p e below _ (T394.setTop (mkF m 80 #[.val (.int p0), .val (.int p1), .val (.int p2), .val (.int (1 : Int32)), .val (.int (1 : Int32)), .val (.ref b376), .val (.int vg384), .val (.int vg385), .val (.int vg386), .val (.ref b387), .unset, .unset, .unset] [(.int (1 : Int32))]))
      refine own_via (fun t k => XS.iconst X394.here hx rfl (hb hby at_80) k) ?_
      show own_G p e below _ (T394.setTop (mkF m 81 #[.val (.int p0), .val (.int p1), .val (.int p2), .val (.int (1 : Int32)), .val (.int (1 : Int32)), .val (.ref b376), .val (.int vg384), .val (.int vg385), .val (.int vg386), .val (.ref b387), .unset, .unset, .unset] [(.int (2 : Int32)), (.int (1 : Int32))]))
      refine own_via (fun t k => XS.icmpYes X394.here hx rfl (pc0 := 81) (pc' := 90) rfl (hb hby at_81) rfl (flt (by decide : ¬ ((2 : Int32) < (1 : Int32)))).2.2.2 (by decide) (by decide) k) ?_
      show own_G p e below _ (T394.setTop (mkF m 90 #[.val (.int p0), .val (.int p1), .val (.int p2), .val (.int (1 : Int32)), .val (.int (1 : Int32)), .val (.ref b376), .val (.int vg384), .val (.int vg385), .val (.int vg386), .val (.ref b387), .unset, .unset, .unset] []))
      obtain ⟨T400, h400, b400, X400, e400, E400, ga400, A400, D400, st400⟩ := own_newO X394 hx hZ hown (hw _ (List.mem_of_getElem? (i := 1) rfl)) (hw _ (List.mem_of_getElem? (i := 2) rfl)) (hw _ (List.mem_of_getElem? (i := 3) rfl)) e394 (pc := 90) (Ls := #[.val (.int p0), .val (.int p1), .val (.int p2), .val (.int (1 : Int32)), .val (.int (1 : Int32)), .val (.ref b376), .val (.int vg384), .val (.int vg385), .val (.int vg386), .val (.ref b387), .unset, .unset, .unset]) (rest := []) (hb hby at_90) (by decide) (by decide)
      refine own_via st400 ?_
      have ne401 : b376 ≠ b400 := Nat.ne_of_lt (Nat.lt_of_lt_of_le f395.lt (Nat.le_of_eq ga400.symm))
      have ne402 : b387 ≠ b400 := Nat.ne_of_lt (Nat.lt_of_lt_of_le f397.lt (Nat.le_of_eq ga400.symm))
      have f403 : Exa Z h400 b376 "[B" := f395.ext E400
      have f404 : Arv Z h400 b376 k376 .byte (1 : Int32) [(.int ((((p0.toUInt32 >>> ((24 : Int32) &&& 31).toUInt32).toInt32).toInt8.toInt32).toInt8.toInt32))] (.int (0 : Int32)) := f396.ext E400
      have f405 : Exa Z h400 b387 "[B" := f397.ext E400
      have f406 : Arv Z h400 b387 k387 .byte (1 : Int32) [(.int (vg384.toInt8.toInt32))] (.int (0 : Int32)) := f398.ext E400
      have f407 : Fld Z h400 b400 "com/example/clementi/clementi/store/KeyRange" "prefix" "[B" .null := D400 (Or.inr (hw _ (List.mem_of_getElem? (i := 11) rfl))) (ty := (.array .byte)) (by decide)
      have f408 : Fld Z h400 b400 "com/example/clementi/clementi/store/KeyRange" "end" "[B" .null := D400 (Or.inr (hw _ (List.mem_of_getElem? (i := 13) rfl))) (ty := (.array .byte)) (by decide)
      have g_b400 : n0 ≤ b400 := Nat.le_trans Zs399 (Nat.le_of_eq ga400.symm)
      have Zs409 : n0 ≤ h400.size := Nat.le_trans Zs399 E400.1
      show own_G p e below _ (T400.setTop (mkF m 93 #[.val (.int p0), .val (.int p1), .val (.int p2), .val (.int (1 : Int32)), .val (.int (1 : Int32)), .val (.ref b376), .val (.int vg384), .val (.int vg385), .val (.int vg386), .val (.ref b387), .unset, .unset, .unset] [(.ref b400)]))
      refine own_via (fun t k => XS.dup X400.here hx rfl (hb hby at_93) rfl rfl k) ?_
      show own_G p e below _ (T400.setTop (mkF m 94 #[.val (.int p0), .val (.int p1), .val (.int p2), .val (.int (1 : Int32)), .val (.int (1 : Int32)), .val (.ref b376), .val (.int vg384), .val (.int vg385), .val (.int vg386), .val (.ref b387), .unset, .unset, .unset] [(.ref b400), (.ref b400)]))
      refine own_via (fun t k => XS.aload X400.here hx rfl (hb hby at_94) rfl rfl k) ?_
      show own_G p e below _ (T400.setTop (mkF m 96 #[.val (.int p0), .val (.int p1), .val (.int p2), .val (.int (1 : Int32)), .val (.int (1 : Int32)), .val (.ref b376), .val (.int vg384), .val (.int vg385), .val (.int vg386), .val (.ref b387), .unset, .unset, .unset] [(.ref b376), (.ref b400), (.ref b400)]))
      refine own_via (fun t k => XS.iloadN X400.here hx rfl (hb hby at_96) rfl k) ?_
      show own_G p e below _ (T400.setTop (mkF m 97 #[.val (.int p0), .val (.int p1), .val (.int p2), .val (.int (1 : Int32)), .val (.int (1 : Int32)), .val (.ref b376), .val (.int vg384), .val (.int vg385), .val (.int vg386), .val (.ref b387), .unset, .unset, .unset] [(.int (1 : Int32)), (.ref b376), (.ref b400), (.ref b400)]))
      refine own_via (fun t k => XS.ifNo X400.here hx rfl (hb hby at_97) rfl ((if0 _ _).trans (feq (by decide : ¬ ((1 : Int32) = (0 : Int32)))).1) k) ?_
      show own_G p e below _ (T400.setTop (mkF m 100 #[.val (.int p0), .val (.int p1), .val (.int p2), .val (.int (1 : Int32)), .val (.int (1 : Int32)), .val (.ref b376), .val (.int vg384), .val (.int vg385), .val (.int vg386), .val (.ref b387), .unset, .unset, .unset] [(.ref b376), (.ref b400), (.ref b400)]))
      refine own_via (fun t k => XS.aconstNull X400.here hx rfl (hb hby at_100) k) ?_
      show own_G p e below _ (T400.setTop (mkF m 101 #[.val (.int p0), .val (.int p1), .val (.int p2), .val (.int (1 : Int32)), .val (.int (1 : Int32)), .val (.ref b376), .val (.int vg384), .val (.int vg385), .val (.int vg386), .val (.ref b387), .unset, .unset, .unset] [.null, (.ref b376), (.ref b400), (.ref b400)]))
      refine own_via (fun t k => XS.goto X400.here hx rfl (pc0 := 101) (pc' := 106) rfl (hb hby at_101) (by decide) (by decide) k) ?_
      show own_G p e below _ (T400.setTop (mkF m 106 #[.val (.int p0), .val (.int p1), .val (.int p2), .val (.int (1 : Int32)), .val (.int (1 : Int32)), .val (.ref b376), .val (.int vg384), .val (.int vg385), .val (.int vg386), .val (.ref b387), .unset, .unset, .unset] [.null, (.ref b376), (.ref b400), (.ref b400)]))
      obtain ⟨v410, T410, h410, L410, X410, N410, e410, hq410, st410⟩ := own_callI (y := (⟨"com/example/clementi/clementi/store/KeyRange", "<init>", "([B[B)V"⟩ : MethodName)) (W := 1) (a := b400) X400 N394 hx hZ rfl hown (hw _ (List.mem_of_getElem? (i := 4) rfl)) (hw _ (List.mem_of_getElem? (i := 5) rfl)) (hw _ (List.mem_of_getElem? (i := 3) rfl)) (hw _ (List.mem_of_getElem? (i := 6) rfl)) (by decide) (own_init1 l Z a0 hw [] b400 b376 (.null) (.null) h400 n0 Zs409 A400 f407 f408 g_b400) (by decide) (by decide) (by decide) (by decide) e400 (pc := 106) (Ls := #[.val (.int p0), .val (.int p1), .val (.int p2), .val (.int (1 : Int32)), .val (.int (1 : Int32)), .val (.ref b376), .val (.int vg384), .val (.int vg385), .val (.int vg386), .val (.ref b387), .unset, .unset, .unset]) (st := [.null, (.ref b376), (.ref b400), (.ref b400)]) (argsL := [(.ref b376), .null]) (rest := [(.ref b400)]) (by rw [hml]; rfl) (lenOf own_pd0 rfl) rfl rfl (Nat.le_of_eq rfl) (hb hby at_106)
      obtain ⟨rfl, K410, o410_0, o410_1, o410_2⟩ := hq410
      refine own_via st410 ?_
      have f411 : Exa Z h410 b376 "[B" := f403.keep K410
      have f412 : Arv Z h410 b376 k376 .byte (1 : Int32) [(.int ((((p0.toUInt32 >>> ((24 : Int32) &&& 31).toUInt32).toInt32).toInt8.toInt32).toInt8.toInt32))] (.int (0 : Int32)) := f404.keep K410 (by simp only [List.mem_cons, List.not_mem_nil, or_false, not_or]; exact ne401)
      have f413 : Exa Z h410 b387 "[B" := f405.keep K410
      have f414 : Arv Z h410 b387 k387 .byte (1 : Int32) [(.int (vg384.toInt8.toInt32))] (.int (0 : Int32)) := f406.keep K410 (by simp only [List.mem_cons, List.not_mem_nil, or_false, not_or]; exact ne402)
      have f415 : Exa Z h410 b400 "com/example/clementi/clementi/store/KeyRange" := A400.keep K410
      have Zs416 : n0 ≤ h410.size := Nat.le_trans Zs409 K410.1
      show own_G p e below _ (T410.setTop (mkF m 109 #[.val (.int p0), .val (.int p1), .val (.int p2), .val (.int (1 : Int32)), .val (.int (1 : Int32)), .val (.ref b376), .val (.int vg384), .val (.int vg385), .val (.int vg386), .val (.ref b387), .unset, .unset, .unset] [(.ref b400)]))
      refine own_via (fun t k => XS.astore X410.here hx rfl (hb hby at_109) rfl rfl (l' := #[.val (.int p0), .val (.int p1), .val (.int p2), .val (.int (1 : Int32)), .val (.int (1 : Int32)), .val (.ref b376), .val (.int vg384), .val (.int vg385), .val (.int vg386), .val (.ref b387), .val (.ref b400), .unset, .unset]) rfl k) ?_
      show own_G p e below _ (T410.setTop (mkF m 111 #[.val (.int p0), .val (.int p1), .val (.int p2), .val (.int (1 : Int32)), .val (.int (1 : Int32)), .val (.ref b376), .val (.int vg384), .val (.int vg385), .val (.int vg386), .val (.ref b387), .val (.ref b400), .unset, .unset] []))
      refine own_via (fun t k => XS.aload X410.here hx rfl (hb hby at_111) rfl rfl k) ?_
      show own_G p e below _ (T410.setTop (mkF m 113 #[.val (.int p0), .val (.int p1), .val (.int p2), .val (.int (1 : Int32)), .val (.int (1 : Int32)), .val (.ref b376), .val (.int vg384), .val (.int vg385), .val (.int vg386), .val (.ref b387), .val (.ref b400), .unset, .unset] [(.ref b400)]))
      obtain ⟨T417, X417, e417, st417⟩ := own_callVP (y := (⟨"com/example/clementi/clementi/store/KeyRange", "end", "()[B"⟩ : MethodName)) (z := (⟨"com/example/clementi/clementi/store/KeyRange", "end", "()[B"⟩ : MethodName)) (W := 0) (a := b400) X410 hx hZ hown (hw _ (List.mem_of_getElem? (i := 14) rfl)) (hw _ (List.mem_of_getElem? (i := 15) rfl)) (notFace_of_selects (args := #[]) (mvT hZ (hw _ (List.mem_of_getElem? (i := 17) rfl)))) (hw _ (List.mem_of_getElem? (i := 17) rfl)) (hw _ (List.mem_of_getElem? (i := 16) rfl)) (hw _ (List.mem_of_getElem? (i := 3) rfl)) (hw _ (List.mem_of_getElem? (i := 18) rfl)) (by decide) (own_end0 l Z a0 hw [] b400 h410 o410_2) (by decide) (by decide) rfl rfl (by decide) (by decide) e410 o410_0 (pc := 113) (Ls := #[.val (.int p0), .val (.int p1), .val (.int p2), .val (.int (1 : Int32)), .val (.int (1 : Int32)), .val (.ref b376), .val (.int vg384), .val (.int vg385), .val (.int vg386), .val (.ref b387), .val (.ref b400), .unset, .unset]) (st := [(.ref b400)]) (argsL := []) (rest := []) (by rw [hml]; rfl) (lenOf own_pd1 rfl) rfl rfl (Nat.le_of_eq rfl) (hb hby at_113)
      refine own_via st417 ?_
      show own_G p e below _ (T417.setTop (mkF m 116 #[.val (.int p0), .val (.int p1), .val (.int p2), .val (.int (1 : Int32)), .val (.int (1 : Int32)), .val (.ref b376), .val (.int vg384), .val (.int vg385), .val (.int vg386), .val (.ref b387), .val (.ref b400), .unset, .unset] [.null]))
      refine own_via (fun t k => XS.astore X417.here hx rfl (hb hby at_116) rfl rfl (l' := #[.val (.int p0), .val (.int p1), .val (.int p2), .val (.int (1 : Int32)), .val (.int (1 : Int32)), .val (.ref b376), .val (.int vg384), .val (.int vg385), .val (.int vg386), .val (.ref b387), .val (.ref b400), .val .null, .unset]) rfl k) ?_
      show own_G p e below _ (T417.setTop (mkF m 118 #[.val (.int p0), .val (.int p1), .val (.int p2), .val (.int (1 : Int32)), .val (.int (1 : Int32)), .val (.ref b376), .val (.int vg384), .val (.int vg385), .val (.int vg386), .val (.ref b387), .val (.ref b400), .val .null, .unset] []))
      refine own_via (fun t k => XS.iloadN X417.here hx rfl (hb hby at_118) rfl k) ?_
      show own_G p e below _ (T417.setTop (mkF m 119 #[.val (.int p0), .val (.int p1), .val (.int p2), .val (.int (1 : Int32)), .val (.int (1 : Int32)), .val (.ref b376), .val (.int vg384), .val (.int vg385), .val (.int vg386), .val (.ref b387), .val (.ref b400), .val .null, .unset] [(.int (1 : Int32))]))
      refine own_via (fun t k => XS.ifNo X417.here hx rfl (hb hby at_119) rfl ((if0 _ _).trans (feq (by decide : ¬ ((1 : Int32) = (0 : Int32)))).1) k) ?_
      show own_G p e below _ (T417.setTop (mkF m 122 #[.val (.int p0), .val (.int p1), .val (.int p2), .val (.int (1 : Int32)), .val (.int (1 : Int32)), .val (.ref b376), .val (.int vg384), .val (.int vg385), .val (.int vg386), .val (.ref b387), .val (.ref b400), .val .null, .unset] []))
      refine own_via (fun t k => XS.aload X417.here hx rfl (hb hby at_122) rfl rfl k) ?_
      show own_G p e below _ (T417.setTop (mkF m 124 #[.val (.int p0), .val (.int p1), .val (.int p2), .val (.int (1 : Int32)), .val (.int (1 : Int32)), .val (.ref b376), .val (.int vg384), .val (.int vg385), .val (.int vg386), .val (.ref b387), .val (.ref b400), .val .null, .unset] [.null]))
      refine own_via (fun t k => XS.ifnonnullNo X417.here hx rfl (hb hby at_124) rfl k) ?_
      show own_G p e below _ (T417.setTop (mkF m 127 #[.val (.int p0), .val (.int p1), .val (.int p2), .val (.int (1 : Int32)), .val (.int (1 : Int32)), .val (.ref b376), .val (.int vg384), .val (.int vg385), .val (.int vg386), .val (.ref b387), .val (.ref b400), .val .null, .unset] []))
      refine own_via (fun t k => XS.aload X417.here hx rfl (hb hby at_127) rfl rfl k) ?_
      show own_G p e below _ (T417.setTop (mkF m 129 #[.val (.int p0), .val (.int p1), .val (.int p2), .val (.int (1 : Int32)), .val (.int (1 : Int32)), .val (.ref b376), .val (.int vg384), .val (.int vg385), .val (.int vg386), .val (.ref b387), .val (.ref b400), .val .null, .unset] [(.ref b400)]))
      obtain ⟨T418, X418, e418, st418⟩ := own_callVP (y := (⟨"com/example/clementi/clementi/store/KeyRange", "end", "()[B"⟩ : MethodName)) (z := (⟨"com/example/clementi/clementi/store/KeyRange", "end", "()[B"⟩ : MethodName)) (W := 0) (a := b400) X417 hx hZ hown (hw _ (List.mem_of_getElem? (i := 14) rfl)) (hw _ (List.mem_of_getElem? (i := 15) rfl)) (notFace_of_selects (args := #[]) (mvT hZ (hw _ (List.mem_of_getElem? (i := 17) rfl)))) (hw _ (List.mem_of_getElem? (i := 17) rfl)) (hw _ (List.mem_of_getElem? (i := 16) rfl)) (hw _ (List.mem_of_getElem? (i := 3) rfl)) (hw _ (List.mem_of_getElem? (i := 18) rfl)) (by decide) (own_end0 l Z a0 hw [] b400 h410 o410_2) (by decide) (by decide) rfl rfl (by decide) (by decide) e417 o410_0 (pc := 129) (Ls := #[.val (.int p0), .val (.int p1), .val (.int p2), .val (.int (1 : Int32)), .val (.int (1 : Int32)), .val (.ref b376), .val (.int vg384), .val (.int vg385), .val (.int vg386), .val (.ref b387), .val (.ref b400), .val .null, .unset]) (st := [(.ref b400)]) (argsL := []) (rest := []) (by rw [hml]; rfl) (lenOf own_pd1 rfl) rfl rfl (Nat.le_of_eq rfl) (hb hby at_129)
      refine own_via st418 ?_
      show own_G p e below _ (T418.setTop (mkF m 132 #[.val (.int p0), .val (.int p1), .val (.int p2), .val (.int (1 : Int32)), .val (.int (1 : Int32)), .val (.ref b376), .val (.int vg384), .val (.int vg385), .val (.int vg386), .val (.ref b387), .val (.ref b400), .val .null, .unset] [.null]))
      refine own_via (fun t k => XS.ifnonnullNo X418.here hx rfl (hb hby at_132) rfl k) ?_
      show own_G p e below _ (T418.setTop (mkF m 135 #[.val (.int p0), .val (.int p1), .val (.int p2), .val (.int (1 : Int32)), .val (.int (1 : Int32)), .val (.ref b376), .val (.int vg384), .val (.int vg385), .val (.int vg386), .val (.ref b387), .val (.ref b400), .val .null, .unset] []))
      refine own_via (fun t k => XS.iconst X418.here hx rfl (hb hby at_135) k) ?_
      show own_G p e below _ (T418.setTop (mkF m 136 #[.val (.int p0), .val (.int p1), .val (.int p2), .val (.int (1 : Int32)), .val (.int (1 : Int32)), .val (.ref b376), .val (.int vg384), .val (.int vg385), .val (.int vg386), .val (.ref b387), .val (.ref b400), .val .null, .unset] [(.int (1 : Int32))]))
      refine own_via (fun t k => XS.goto X418.here hx rfl (pc0 := 136) (pc' := 140) rfl (hb hby at_136) (by decide) (by decide) k) ?_
      show own_G p e below _ (T418.setTop (mkF m 140 #[.val (.int p0), .val (.int p1), .val (.int p2), .val (.int (1 : Int32)), .val (.int (1 : Int32)), .val (.ref b376), .val (.int vg384), .val (.int vg385), .val (.int vg386), .val (.ref b387), .val (.ref b400), .val .null, .unset] [(.int (1 : Int32))]))
      exact own_retN (t := .boolean) X418 hx Bd.returns (by simp) Bd.notSynchronized (hb hby at_140) ⟨N410, rfl⟩ (by decide) (by decide)
    ·
      rw [hs337]
      show own_G p e below _ (s₁.setTop (mkF m 15 #[.val (.int p0), .val (.int p1), .val (.int p2), .val (.int (1 : Int32)), .unset, .unset, .unset, .unset, .unset, .unset, .unset, .unset, .unset] [(.int (2 : Int32))]))
      refine own_via (fun t k => XS.istore X0.here hx rfl (hb hby at_15) rfl (l' := #[.val (.int p0), .val (.int p1), .val (.int p2), .val (.int (1 : Int32)), .val (.int (2 : Int32)), .unset, .unset, .unset, .unset, .unset, .unset, .unset, .unset]) rfl k) ?_
      show own_G p e below _ (s₁.setTop (mkF m 17 #[.val (.int p0), .val (.int p1), .val (.int p2), .val (.int (1 : Int32)), .val (.int (2 : Int32)), .unset, .unset, .unset, .unset, .unset, .unset, .unset, .unset] []))
      refine own_via (fun t k => XS.iconst X0.here hx rfl (hb hby at_17) k) ?_
      show own_G p e below _ (s₁.setTop (mkF m 18 #[.val (.int p0), .val (.int p1), .val (.int p2), .val (.int (1 : Int32)), .val (.int (2 : Int32)), .unset, .unset, .unset, .unset, .unset, .unset, .unset, .unset] [(.int (1 : Int32))]))
      obtain ⟨T419, h419, k419, b419, X419, e419, E419, ga419, V419, Ex419, st419⟩ := own_newA X0 hx hZ (hw _ (List.mem_of_getElem? (i := 0) rfl)) e0 (pc := 18) (Ls := #[.val (.int p0), .val (.int p1), .val (.int p2), .val (.int (1 : Int32)), .val (.int (2 : Int32)), .unset, .unset, .unset, .unset, .unset, .unset, .unset, .unset]) (rest := []) (hb hby at_18) (n := (1 : Int32)) (by decide) (cap := 1) (by decide) (by decide) (by decide) (by decide) 1 rfl
      refine own_via st419 ?_
      have f420 : Arv Z h419 b419 k419 .byte (1 : Int32) [(.int (0 : Int32))] (.int (0 : Int32)) := V419
      have f421 : Exa Z h419 b419 "[B" := Ex419
      have g_b419 : n0 ≤ b419 := Nat.le_trans Z0 (Nat.le_of_eq ga419.symm)
      have Zs422 : n0 ≤ h419.size := Nat.le_trans Z0 E419.1
      show own_G p e below _ (T419.setTop (mkF m 20 #[.val (.int p0), .val (.int p1), .val (.int p2), .val (.int (1 : Int32)), .val (.int (2 : Int32)), .unset, .unset, .unset, .unset, .unset, .unset, .unset, .unset] [(.ref b419)]))
      refine own_via (fun t k => XS.astore X419.here hx rfl (hb hby at_20) rfl rfl (l' := #[.val (.int p0), .val (.int p1), .val (.int p2), .val (.int (1 : Int32)), .val (.int (2 : Int32)), .val (.ref b419), .unset, .unset, .unset, .unset, .unset, .unset, .unset]) rfl k) ?_
      show own_G p e below _ (T419.setTop (mkF m 22 #[.val (.int p0), .val (.int p1), .val (.int p2), .val (.int (1 : Int32)), .val (.int (2 : Int32)), .val (.ref b419), .unset, .unset, .unset, .unset, .unset, .unset, .unset] []))
      refine own_via (fun t k => XS.aload X419.here hx rfl (hb hby at_22) rfl rfl k) ?_
      show own_G p e below _ (T419.setTop (mkF m 24 #[.val (.int p0), .val (.int p1), .val (.int p2), .val (.int (1 : Int32)), .val (.int (2 : Int32)), .val (.ref b419), .unset, .unset, .unset, .unset, .unset, .unset, .unset] [(.ref b419)]))
      refine own_via (fun t k => XS.iconst X419.here hx rfl (hb hby at_24) k) ?_
      show own_G p e below _ (T419.setTop (mkF m 25 #[.val (.int p0), .val (.int p1), .val (.int p2), .val (.int (1 : Int32)), .val (.int (2 : Int32)), .val (.ref b419), .unset, .unset, .unset, .unset, .unset, .unset, .unset] [(.int (0 : Int32)), (.ref b419)]))
      refine own_via (fun t k => XS.iloadN X419.here hx rfl (hb hby at_25) rfl k) ?_
      show own_G p e below _ (T419.setTop (mkF m 26 #[.val (.int p0), .val (.int p1), .val (.int p2), .val (.int (1 : Int32)), .val (.int (2 : Int32)), .val (.ref b419), .unset, .unset, .unset, .unset, .unset, .unset, .unset] [(.int p0), (.int (0 : Int32)), (.ref b419)]))
      refine own_via (fun t k => XS.bipush X419.here hx rfl (hb hby at_26) k) ?_
      show own_G p e below _ (T419.setTop (mkF m 28 #[.val (.int p0), .val (.int p1), .val (.int p2), .val (.int (1 : Int32)), .val (.int (2 : Int32)), .val (.ref b419), .unset, .unset, .unset, .unset, .unset, .unset, .unset] [(.int (24 : Int32)), (.int p0), (.int (0 : Int32)), (.ref b419)]))
      refine own_via (fun t k => XS.iushr X419.here hx rfl (hb hby at_28) rfl k) ?_
      show own_G p e below _ (T419.setTop (mkF m 29 #[.val (.int p0), .val (.int p1), .val (.int p2), .val (.int (1 : Int32)), .val (.int (2 : Int32)), .val (.ref b419), .unset, .unset, .unset, .unset, .unset, .unset, .unset] [(.int ((p0.toUInt32 >>> ((24 : Int32) &&& 31).toUInt32).toInt32)), (.int (0 : Int32)), (.ref b419)]))
      refine own_via (fun t k => XS.i2b X419.here hx rfl (hb hby at_29) rfl k) ?_
      show own_G p e below _ (T419.setTop (mkF m 30 #[.val (.int p0), .val (.int p1), .val (.int p2), .val (.int (1 : Int32)), .val (.int (2 : Int32)), .val (.ref b419), .unset, .unset, .unset, .unset, .unset, .unset, .unset] [(.int (((p0.toUInt32 >>> ((24 : Int32) &&& 31).toUInt32).toInt32).toInt8.toInt32)), (.int (0 : Int32)), (.ref b419)]))
      obtain ⟨T423, h423, L423, X423, N423, e423, W423, V423, st423⟩ := own_stB X419 N0 hx hZ e419 f420 g_b419 (j := (0 : Int32)) (x := (((p0.toUInt32 >>> ((24 : Int32) &&& 31).toUInt32).toInt32).toInt8.toInt32)) (i := 0) ⟨by decide, by decide⟩ rfl (Nat.le_of_ble_eq_true rfl) (pc := 30) (Ls := #[.val (.int p0), .val (.int p1), .val (.int p2), .val (.int (1 : Int32)), .val (.int (2 : Int32)), .val (.ref b419), .unset, .unset, .unset, .unset, .unset, .unset, .unset]) (rest := []) (hb hby at_30)
      refine own_via st423 ?_
      have f424 : Exa Z h423 b419 "[B" := f421.wr W423
      have f425 : Arv Z h423 b419 k419 .byte (1 : Int32) [(.int ((((p0.toUInt32 >>> ((24 : Int32) &&& 31).toUInt32).toInt32).toInt8.toInt32).toInt8.toInt32))] (.int (0 : Int32)) := V423
      have Zs426 : n0 ≤ h423.size := by rw [W423.size]; exact Zs422
      show own_G p e below _ (T423.setTop (mkF m 31 #[.val (.int p0), .val (.int p1), .val (.int p2), .val (.int (1 : Int32)), .val (.int (2 : Int32)), .val (.ref b419), .unset, .unset, .unset, .unset, .unset, .unset, .unset] []))
      refine own_via (fun t k => XS.iloadN X423.here hx rfl (hb hby at_31) rfl k) ?_
      show own_G p e below _ (T423.setTop (mkF m 32 #[.val (.int p0), .val (.int p1), .val (.int p2), .val (.int (1 : Int32)), .val (.int (2 : Int32)), .val (.ref b419), .unset, .unset, .unset, .unset, .unset, .unset, .unset] [(.int p0)]))
      refine own_via (fun t k => XS.i2b X423.here hx rfl (hb hby at_32) rfl k) ?_
      show own_G p e below _ (T423.setTop (mkF m 33 #[.val (.int p0), .val (.int p1), .val (.int p2), .val (.int (1 : Int32)), .val (.int (2 : Int32)), .val (.ref b419), .unset, .unset, .unset, .unset, .unset, .unset, .unset] [(.int (p0.toInt8.toInt32))]))
      generalize hvg427 : (p0.toInt8.toInt32) = vg427
      show own_G p e below _ (T423.setTop (mkF m 33 #[.val (.int p0), .val (.int p1), .val (.int p2), .val (.int (1 : Int32)), .val (.int (2 : Int32)), .val (.ref b419), .unset, .unset, .unset, .unset, .unset, .unset, .unset] [(.int vg427)]))
      refine own_via (fun t k => XS.istore X423.here hx rfl (hb hby at_33) rfl (l' := #[.val (.int p0), .val (.int p1), .val (.int p2), .val (.int (1 : Int32)), .val (.int (2 : Int32)), .val (.ref b419), .val (.int vg427), .unset, .unset, .unset, .unset, .unset, .unset]) rfl k) ?_
      show own_G p e below _ (T423.setTop (mkF m 35 #[.val (.int p0), .val (.int p1), .val (.int p2), .val (.int (1 : Int32)), .val (.int (2 : Int32)), .val (.ref b419), .val (.int vg427), .unset, .unset, .unset, .unset, .unset, .unset] []))
      refine own_via (fun t k => XS.iloadN X423.here hx rfl (hb hby at_35) rfl k) ?_
      show own_G p e below _ (T423.setTop (mkF m 36 #[.val (.int p0), .val (.int p1), .val (.int p2), .val (.int (1 : Int32)), .val (.int (2 : Int32)), .val (.ref b419), .val (.int vg427), .unset, .unset, .unset, .unset, .unset, .unset] [(.int p0)]))
      refine own_via (fun t k => XS.bipush X423.here hx rfl (hb hby at_36) k) ?_
      show own_G p e below _ (T423.setTop (mkF m 38 #[.val (.int p0), .val (.int p1), .val (.int p2), .val (.int (1 : Int32)), .val (.int (2 : Int32)), .val (.ref b419), .val (.int vg427), .unset, .unset, .unset, .unset, .unset, .unset] [(.int (8 : Int32)), (.int p0)]))
      refine own_via (fun t k => XS.ishr X423.here hx rfl (hb hby at_38) rfl k) ?_
      show own_G p e below _ (T423.setTop (mkF m 39 #[.val (.int p0), .val (.int p1), .val (.int p2), .val (.int (1 : Int32)), .val (.int (2 : Int32)), .val (.ref b419), .val (.int vg427), .unset, .unset, .unset, .unset, .unset, .unset] [(.int (p0 >>> ((8 : Int32) &&& 31)))]))
      refine own_via (fun t k => XS.i2b X423.here hx rfl (hb hby at_39) rfl k) ?_
      show own_G p e below _ (T423.setTop (mkF m 40 #[.val (.int p0), .val (.int p1), .val (.int p2), .val (.int (1 : Int32)), .val (.int (2 : Int32)), .val (.ref b419), .val (.int vg427), .unset, .unset, .unset, .unset, .unset, .unset] [(.int ((p0 >>> ((8 : Int32) &&& 31)).toInt8.toInt32))]))
      generalize hvg428 : ((p0 >>> ((8 : Int32) &&& 31)).toInt8.toInt32) = vg428
      show own_G p e below _ (T423.setTop (mkF m 40 #[.val (.int p0), .val (.int p1), .val (.int p2), .val (.int (1 : Int32)), .val (.int (2 : Int32)), .val (.ref b419), .val (.int vg427), .unset, .unset, .unset, .unset, .unset, .unset] [(.int vg428)]))
      refine own_via (fun t k => XS.istore X423.here hx rfl (hb hby at_40) rfl (l' := #[.val (.int p0), .val (.int p1), .val (.int p2), .val (.int (1 : Int32)), .val (.int (2 : Int32)), .val (.ref b419), .val (.int vg427), .val (.int vg428), .unset, .unset, .unset, .unset, .unset]) rfl k) ?_
      show own_G p e below _ (T423.setTop (mkF m 42 #[.val (.int p0), .val (.int p1), .val (.int p2), .val (.int (1 : Int32)), .val (.int (2 : Int32)), .val (.ref b419), .val (.int vg427), .val (.int vg428), .unset, .unset, .unset, .unset, .unset] []))
      refine own_via (fun t k => XS.iloadN X423.here hx rfl (hb hby at_42) rfl k) ?_
      show own_G p e below _ (T423.setTop (mkF m 43 #[.val (.int p0), .val (.int p1), .val (.int p2), .val (.int (1 : Int32)), .val (.int (2 : Int32)), .val (.ref b419), .val (.int vg427), .val (.int vg428), .unset, .unset, .unset, .unset, .unset] [(.int p0)]))
      refine own_via (fun t k => XS.bipush X423.here hx rfl (hb hby at_43) k) ?_
      show own_G p e below _ (T423.setTop (mkF m 45 #[.val (.int p0), .val (.int p1), .val (.int p2), .val (.int (1 : Int32)), .val (.int (2 : Int32)), .val (.ref b419), .val (.int vg427), .val (.int vg428), .unset, .unset, .unset, .unset, .unset] [(.int (16 : Int32)), (.int p0)]))
      refine own_via (fun t k => XS.ishr X423.here hx rfl (hb hby at_45) rfl k) ?_
      show own_G p e below _ (T423.setTop (mkF m 46 #[.val (.int p0), .val (.int p1), .val (.int p2), .val (.int (1 : Int32)), .val (.int (2 : Int32)), .val (.ref b419), .val (.int vg427), .val (.int vg428), .unset, .unset, .unset, .unset, .unset] [(.int (p0 >>> ((16 : Int32) &&& 31)))]))
      refine own_via (fun t k => XS.i2b X423.here hx rfl (hb hby at_46) rfl k) ?_
      show own_G p e below _ (T423.setTop (mkF m 47 #[.val (.int p0), .val (.int p1), .val (.int p2), .val (.int (1 : Int32)), .val (.int (2 : Int32)), .val (.ref b419), .val (.int vg427), .val (.int vg428), .unset, .unset, .unset, .unset, .unset] [(.int ((p0 >>> ((16 : Int32) &&& 31)).toInt8.toInt32))]))
      generalize hvg429 : ((p0 >>> ((16 : Int32) &&& 31)).toInt8.toInt32) = vg429
      show own_G p e below _ (T423.setTop (mkF m 47 #[.val (.int p0), .val (.int p1), .val (.int p2), .val (.int (1 : Int32)), .val (.int (2 : Int32)), .val (.ref b419), .val (.int vg427), .val (.int vg428), .unset, .unset, .unset, .unset, .unset] [(.int vg429)]))
      refine own_via (fun t k => XS.istore X423.here hx rfl (hb hby at_47) rfl (l' := #[.val (.int p0), .val (.int p1), .val (.int p2), .val (.int (1 : Int32)), .val (.int (2 : Int32)), .val (.ref b419), .val (.int vg427), .val (.int vg428), .val (.int vg429), .unset, .unset, .unset, .unset]) rfl k) ?_
      show own_G p e below _ (T423.setTop (mkF m 49 #[.val (.int p0), .val (.int p1), .val (.int p2), .val (.int (1 : Int32)), .val (.int (2 : Int32)), .val (.ref b419), .val (.int vg427), .val (.int vg428), .val (.int vg429), .unset, .unset, .unset, .unset] []))
      refine own_via (fun t k => XS.iload X423.here hx rfl (hb hby at_49) rfl k) ?_
      show own_G p e below _ (T423.setTop (mkF m 51 #[.val (.int p0), .val (.int p1), .val (.int p2), .val (.int (1 : Int32)), .val (.int (2 : Int32)), .val (.ref b419), .val (.int vg427), .val (.int vg428), .val (.int vg429), .unset, .unset, .unset, .unset] [(.int (2 : Int32))]))
      obtain ⟨T430, h430, k430, b430, X430, e430, E430, ga430, V430, Ex430, st430⟩ := own_newA X423 hx hZ (hw _ (List.mem_of_getElem? (i := 0) rfl)) e423 (pc := 51) (Ls := #[.val (.int p0), .val (.int p1), .val (.int p2), .val (.int (1 : Int32)), .val (.int (2 : Int32)), .val (.ref b419), .val (.int vg427), .val (.int vg428), .val (.int vg429), .unset, .unset, .unset, .unset]) (rest := []) (hb hby at_51) (n := (2 : Int32)) (by decide) (cap := 2) (by decide) (by decide) (by decide) (by decide) 2 rfl
      refine own_via st430 ?_
      have ne431 : b419 ≠ b430 := Nat.ne_of_lt (Nat.lt_of_lt_of_le f424.lt (Nat.le_of_eq ga430.symm))
      have f432 : Exa Z h430 b419 "[B" := f424.ext E430
      have f433 : Arv Z h430 b419 k419 .byte (1 : Int32) [(.int ((((p0.toUInt32 >>> ((24 : Int32) &&& 31).toUInt32).toInt32).toInt8.toInt32).toInt8.toInt32))] (.int (0 : Int32)) := f425.ext E430
      have f434 : Arv Z h430 b430 k430 .byte (2 : Int32) [(.int (0 : Int32)), (.int (0 : Int32))] (.int (0 : Int32)) := V430
      have f435 : Exa Z h430 b430 "[B" := Ex430
      have g_b430 : n0 ≤ b430 := Nat.le_trans Zs426 (Nat.le_of_eq ga430.symm)
      have Zs436 : n0 ≤ h430.size := Nat.le_trans Zs426 E430.1
      show own_G p e below _ (T430.setTop (mkF m 53 #[.val (.int p0), .val (.int p1), .val (.int p2), .val (.int (1 : Int32)), .val (.int (2 : Int32)), .val (.ref b419), .val (.int vg427), .val (.int vg428), .val (.int vg429), .unset, .unset, .unset, .unset] [(.ref b430)]))
      refine own_via (fun t k => XS.astore X430.here hx rfl (hb hby at_53) rfl rfl (l' := #[.val (.int p0), .val (.int p1), .val (.int p2), .val (.int (1 : Int32)), .val (.int (2 : Int32)), .val (.ref b419), .val (.int vg427), .val (.int vg428), .val (.int vg429), .val (.ref b430), .unset, .unset, .unset]) rfl k) ?_
      show own_G p e below _ (T430.setTop (mkF m 55 #[.val (.int p0), .val (.int p1), .val (.int p2), .val (.int (1 : Int32)), .val (.int (2 : Int32)), .val (.ref b419), .val (.int vg427), .val (.int vg428), .val (.int vg429), .val (.ref b430), .unset, .unset, .unset] []))
      refine own_via (fun t k => XS.iload X430.here hx rfl (hb hby at_55) rfl k) ?_
      show own_G p e below _ (T430.setTop (mkF m 57 #[.val (.int p0), .val (.int p1), .val (.int p2), .val (.int (1 : Int32)), .val (.int (2 : Int32)), .val (.ref b419), .val (.int vg427), .val (.int vg428), .val (.int vg429), .val (.ref b430), .unset, .unset, .unset] [(.int (2 : Int32))]))
      refine own_via (fun t k => XS.ifNo X430.here hx rfl (hb hby at_57) rfl ((if0 _ _).trans (tlt (by decide : (0 : Int32) < (2 : Int32))).2.2.2) k) ?_
      show own_G p e below _ (T430.setTop (mkF m 60 #[.val (.int p0), .val (.int p1), .val (.int p2), .val (.int (1 : Int32)), .val (.int (2 : Int32)), .val (.ref b419), .val (.int vg427), .val (.int vg428), .val (.int vg429), .val (.ref b430), .unset, .unset, .unset] []))
      refine own_via (fun t k => XS.aload X430.here hx rfl (hb hby at_60) rfl rfl k) ?_
      show own_G p e below _ (T430.setTop (mkF m 62 #[.val (.int p0), .val (.int p1), .val (.int p2), .val (.int (1 : Int32)), .val (.int (2 : Int32)), .val (.ref b419), .val (.int vg427), .val (.int vg428), .val (.int vg429), .val (.ref b430), .unset, .unset, .unset] [(.ref b430)]))
      refine own_via (fun t k => XS.iconst X430.here hx rfl (hb hby at_62) k) ?_
      show own_G p e below _ (T430.setTop (mkF m 63 #[.val (.int p0), .val (.int p1), .val (.int p2), .val (.int (1 : Int32)), .val (.int (2 : Int32)), .val (.ref b419), .val (.int vg427), .val (.int vg428), .val (.int vg429), .val (.ref b430), .unset, .unset, .unset] [(.int (0 : Int32)), (.ref b430)]))
      refine own_via (fun t k => XS.iload X430.here hx rfl (hb hby at_63) rfl k) ?_
      show own_G p e below _ (T430.setTop (mkF m 65 #[.val (.int p0), .val (.int p1), .val (.int p2), .val (.int (1 : Int32)), .val (.int (2 : Int32)), .val (.ref b419), .val (.int vg427), .val (.int vg428), .val (.int vg429), .val (.ref b430), .unset, .unset, .unset] [(.int vg427), (.int (0 : Int32)), (.ref b430)]))
      obtain ⟨T437, h437, L437, X437, N437, e437, W437, V437, st437⟩ := own_stB X430 N423 hx hZ e430 f434 g_b430 (j := (0 : Int32)) (x := vg427) (i := 0) ⟨by decide, by decide⟩ rfl (Nat.le_of_ble_eq_true rfl) (pc := 65) (Ls := #[.val (.int p0), .val (.int p1), .val (.int p2), .val (.int (1 : Int32)), .val (.int (2 : Int32)), .val (.ref b419), .val (.int vg427), .val (.int vg428), .val (.int vg429), .val (.ref b430), .unset, .unset, .unset]) (rest := []) (hb hby at_65)
      refine own_via st437 ?_
      have f438 : Exa Z h437 b419 "[B" := f432.wr W437
      have f439 : Arv Z h437 b419 k419 .byte (1 : Int32) [(.int ((((p0.toUInt32 >>> ((24 : Int32) &&& 31).toUInt32).toInt32).toInt8.toInt32).toInt8.toInt32))] (.int (0 : Int32)) := f433.other W437 ne431
      have f440 : Exa Z h437 b430 "[B" := f435.wr W437
      have f441 : Arv Z h437 b430 k430 .byte (2 : Int32) [(.int (vg427.toInt8.toInt32)), (.int (0 : Int32))] (.int (0 : Int32)) := V437
      have Zs442 : n0 ≤ h437.size := by rw [W437.size]; exact Zs436
      show own_G p e below _ (T437.setTop (mkF m 66 #[.val (.int p0), .val (.int p1), .val (.int p2), .val (.int (1 : Int32)), .val (.int (2 : Int32)), .val (.ref b419), .val (.int vg427), .val (.int vg428), .val (.int vg429), .val (.ref b430), .unset, .unset, .unset] []))
      refine own_via (fun t k => XS.iload X437.here hx rfl (hb hby at_66) rfl k) ?_
      show own_G p e below _ (T437.setTop (mkF m 68 #[.val (.int p0), .val (.int p1), .val (.int p2), .val (.int (1 : Int32)), .val (.int (2 : Int32)), .val (.ref b419), .val (.int vg427), .val (.int vg428), .val (.int vg429), .val (.ref b430), .unset, .unset, .unset] [(.int (2 : Int32))]))
      refine own_via (fun t k => XS.iconst X437.here hx rfl (hb hby at_68) k) ?_
      show own_G p e below _ (T437.setTop (mkF m 69 #[.val (.int p0), .val (.int p1), .val (.int p2), .val (.int (1 : Int32)), .val (.int (2 : Int32)), .val (.ref b419), .val (.int vg427), .val (.int vg428), .val (.int vg429), .val (.ref b430), .unset, .unset, .unset] [(.int (1 : Int32)), (.int (2 : Int32))]))
      refine own_via (fun t k => XS.icmpNo X437.here hx rfl (hb hby at_69) rfl (tlt (by decide : (1 : Int32) < (2 : Int32))).2.2.2 k) ?_
      show own_G p e below _ (T437.setTop (mkF m 72 #[.val (.int p0), .val (.int p1), .val (.int p2), .val (.int (1 : Int32)), .val (.int (2 : Int32)), .val (.ref b419), .val (.int vg427), .val (.int vg428), .val (.int vg429), .val (.ref b430), .unset, .unset, .unset] []))
      refine own_via (fun t k => XS.aload X437.here hx rfl (hb hby at_72) rfl rfl k) ?_
      show own_G p e below _ (T437.setTop (mkF m 74 #[.val (.int p0), .val (.int p1), .val (.int p2), .val (.int (1 : Int32)), .val (.int (2 : Int32)), .val (.ref b419), .val (.int vg427), .val (.int vg428), .val (.int vg429), .val (.ref b430), .unset, .unset, .unset] [(.ref b430)]))
      refine own_via (fun t k => XS.iconst X437.here hx rfl (hb hby at_74) k) ?_
      show own_G p e below _ (T437.setTop (mkF m 75 #[.val (.int p0), .val (.int p1), .val (.int p2), .val (.int (1 : Int32)), .val (.int (2 : Int32)), .val (.ref b419), .val (.int vg427), .val (.int vg428), .val (.int vg429), .val (.ref b430), .unset, .unset, .unset] [(.int (1 : Int32)), (.ref b430)]))
      refine own_via (fun t k => XS.iload X437.here hx rfl (hb hby at_75) rfl k) ?_
      show own_G p e below _ (T437.setTop (mkF m 77 #[.val (.int p0), .val (.int p1), .val (.int p2), .val (.int (1 : Int32)), .val (.int (2 : Int32)), .val (.ref b419), .val (.int vg427), .val (.int vg428), .val (.int vg429), .val (.ref b430), .unset, .unset, .unset] [(.int vg428), (.int (1 : Int32)), (.ref b430)]))
      obtain ⟨T443, h443, L443, X443, N443, e443, W443, V443, st443⟩ := own_stB X437 N437 hx hZ e437 f441 g_b430 (j := (1 : Int32)) (x := vg428) (i := 1) ⟨by decide, by decide⟩ rfl (Nat.le_of_ble_eq_true rfl) (pc := 77) (Ls := #[.val (.int p0), .val (.int p1), .val (.int p2), .val (.int (1 : Int32)), .val (.int (2 : Int32)), .val (.ref b419), .val (.int vg427), .val (.int vg428), .val (.int vg429), .val (.ref b430), .unset, .unset, .unset]) (rest := []) (hb hby at_77)
      refine own_via st443 ?_
      have f444 : Exa Z h443 b419 "[B" := f438.wr W443
      have f445 : Arv Z h443 b419 k419 .byte (1 : Int32) [(.int ((((p0.toUInt32 >>> ((24 : Int32) &&& 31).toUInt32).toInt32).toInt8.toInt32).toInt8.toInt32))] (.int (0 : Int32)) := f439.other W443 ne431
      have f446 : Exa Z h443 b430 "[B" := f440.wr W443
      have f447 : Arv Z h443 b430 k430 .byte (2 : Int32) [(.int (vg427.toInt8.toInt32)), (.int (vg428.toInt8.toInt32))] (.int (0 : Int32)) := V443
      have Zs448 : n0 ≤ h443.size := by rw [W443.size]; exact Zs442
      show own_G p e below _ (T443.setTop (mkF m 78 #[.val (.int p0), .val (.int p1), .val (.int p2), .val (.int (1 : Int32)), .val (.int (2 : Int32)), .val (.ref b419), .val (.int vg427), .val (.int vg428), .val (.int vg429), .val (.ref b430), .unset, .unset, .unset] []))
      refine own_via (fun t k => XS.iload X443.here hx rfl (hb hby at_78) rfl k) ?_
      show own_G p e below _ (T443.setTop (mkF m 80 #[.val (.int p0), .val (.int p1), .val (.int p2), .val (.int (1 : Int32)), .val (.int (2 : Int32)), .val (.ref b419), .val (.int vg427), .val (.int vg428), .val (.int vg429), .val (.ref b430), .unset, .unset, .unset] [(.int (2 : Int32))]))
      refine own_via (fun t k => XS.iconst X443.here hx rfl (hb hby at_80) k) ?_
      show own_G p e below _ (T443.setTop (mkF m 81 #[.val (.int p0), .val (.int p1), .val (.int p2), .val (.int (1 : Int32)), .val (.int (2 : Int32)), .val (.ref b419), .val (.int vg427), .val (.int vg428), .val (.int vg429), .val (.ref b430), .unset, .unset, .unset] [(.int (2 : Int32)), (.int (2 : Int32))]))
      refine own_via (fun t k => XS.icmpYes X443.here hx rfl (pc0 := 81) (pc' := 90) rfl (hb hby at_81) rfl (flt (by decide : ¬ ((2 : Int32) < (2 : Int32)))).2.2.2 (by decide) (by decide) k) ?_
      show own_G p e below _ (T443.setTop (mkF m 90 #[.val (.int p0), .val (.int p1), .val (.int p2), .val (.int (1 : Int32)), .val (.int (2 : Int32)), .val (.ref b419), .val (.int vg427), .val (.int vg428), .val (.int vg429), .val (.ref b430), .unset, .unset, .unset] []))
      obtain ⟨T449, h449, b449, X449, e449, E449, ga449, A449, D449, st449⟩ := own_newO X443 hx hZ hown (hw _ (List.mem_of_getElem? (i := 1) rfl)) (hw _ (List.mem_of_getElem? (i := 2) rfl)) (hw _ (List.mem_of_getElem? (i := 3) rfl)) e443 (pc := 90) (Ls := #[.val (.int p0), .val (.int p1), .val (.int p2), .val (.int (1 : Int32)), .val (.int (2 : Int32)), .val (.ref b419), .val (.int vg427), .val (.int vg428), .val (.int vg429), .val (.ref b430), .unset, .unset, .unset]) (rest := []) (hb hby at_90) (by decide) (by decide)
      refine own_via st449 ?_
      have ne450 : b419 ≠ b449 := Nat.ne_of_lt (Nat.lt_of_lt_of_le f444.lt (Nat.le_of_eq ga449.symm))
      have ne451 : b430 ≠ b449 := Nat.ne_of_lt (Nat.lt_of_lt_of_le f446.lt (Nat.le_of_eq ga449.symm))
      have f452 : Exa Z h449 b419 "[B" := f444.ext E449
      have f453 : Arv Z h449 b419 k419 .byte (1 : Int32) [(.int ((((p0.toUInt32 >>> ((24 : Int32) &&& 31).toUInt32).toInt32).toInt8.toInt32).toInt8.toInt32))] (.int (0 : Int32)) := f445.ext E449
      have f454 : Exa Z h449 b430 "[B" := f446.ext E449
      have f455 : Arv Z h449 b430 k430 .byte (2 : Int32) [(.int (vg427.toInt8.toInt32)), (.int (vg428.toInt8.toInt32))] (.int (0 : Int32)) := f447.ext E449
      have f456 : Fld Z h449 b449 "com/example/clementi/clementi/store/KeyRange" "prefix" "[B" .null := D449 (Or.inr (hw _ (List.mem_of_getElem? (i := 11) rfl))) (ty := (.array .byte)) (by decide)
      have f457 : Fld Z h449 b449 "com/example/clementi/clementi/store/KeyRange" "end" "[B" .null := D449 (Or.inr (hw _ (List.mem_of_getElem? (i := 13) rfl))) (ty := (.array .byte)) (by decide)
      have g_b449 : n0 ≤ b449 := Nat.le_trans Zs448 (Nat.le_of_eq ga449.symm)
      have Zs458 : n0 ≤ h449.size := Nat.le_trans Zs448 E449.1
      show own_G p e below _ (T449.setTop (mkF m 93 #[.val (.int p0), .val (.int p1), .val (.int p2), .val (.int (1 : Int32)), .val (.int (2 : Int32)), .val (.ref b419), .val (.int vg427), .val (.int vg428), .val (.int vg429), .val (.ref b430), .unset, .unset, .unset] [(.ref b449)]))
      refine own_via (fun t k => XS.dup X449.here hx rfl (hb hby at_93) rfl rfl k) ?_
      show own_G p e below _ (T449.setTop (mkF m 94 #[.val (.int p0), .val (.int p1), .val (.int p2), .val (.int (1 : Int32)), .val (.int (2 : Int32)), .val (.ref b419), .val (.int vg427), .val (.int vg428), .val (.int vg429), .val (.ref b430), .unset, .unset, .unset] [(.ref b449), (.ref b449)]))
      refine own_via (fun t k => XS.aload X449.here hx rfl (hb hby at_94) rfl rfl k) ?_
      show own_G p e below _ (T449.setTop (mkF m 96 #[.val (.int p0), .val (.int p1), .val (.int p2), .val (.int (1 : Int32)), .val (.int (2 : Int32)), .val (.ref b419), .val (.int vg427), .val (.int vg428), .val (.int vg429), .val (.ref b430), .unset, .unset, .unset] [(.ref b419), (.ref b449), (.ref b449)]))
      refine own_via (fun t k => XS.iloadN X449.here hx rfl (hb hby at_96) rfl k) ?_
      show own_G p e below _ (T449.setTop (mkF m 97 #[.val (.int p0), .val (.int p1), .val (.int p2), .val (.int (1 : Int32)), .val (.int (2 : Int32)), .val (.ref b419), .val (.int vg427), .val (.int vg428), .val (.int vg429), .val (.ref b430), .unset, .unset, .unset] [(.int (1 : Int32)), (.ref b419), (.ref b449), (.ref b449)]))
      refine own_via (fun t k => XS.ifNo X449.here hx rfl (hb hby at_97) rfl ((if0 _ _).trans (feq (by decide : ¬ ((1 : Int32) = (0 : Int32)))).1) k) ?_
      show own_G p e below _ (T449.setTop (mkF m 100 #[.val (.int p0), .val (.int p1), .val (.int p2), .val (.int (1 : Int32)), .val (.int (2 : Int32)), .val (.ref b419), .val (.int vg427), .val (.int vg428), .val (.int vg429), .val (.ref b430), .unset, .unset, .unset] [(.ref b419), (.ref b449), (.ref b449)]))
      refine own_via (fun t k => XS.aconstNull X449.here hx rfl (hb hby at_100) k) ?_
      show own_G p e below _ (T449.setTop (mkF m 101 #[.val (.int p0), .val (.int p1), .val (.int p2), .val (.int (1 : Int32)), .val (.int (2 : Int32)), .val (.ref b419), .val (.int vg427), .val (.int vg428), .val (.int vg429), .val (.ref b430), .unset, .unset, .unset] [.null, (.ref b419), (.ref b449), (.ref b449)]))
      refine own_via (fun t k => XS.goto X449.here hx rfl (pc0 := 101) (pc' := 106) rfl (hb hby at_101) (by decide) (by decide) k) ?_
      show own_G p e below _ (T449.setTop (mkF m 106 #[.val (.int p0), .val (.int p1), .val (.int p2), .val (.int (1 : Int32)), .val (.int (2 : Int32)), .val (.ref b419), .val (.int vg427), .val (.int vg428), .val (.int vg429), .val (.ref b430), .unset, .unset, .unset] [.null, (.ref b419), (.ref b449), (.ref b449)]))
      obtain ⟨v459, T459, h459, L459, X459, N459, e459, hq459, st459⟩ := own_callI (y := (⟨"com/example/clementi/clementi/store/KeyRange", "<init>", "([B[B)V"⟩ : MethodName)) (W := 1) (a := b449) X449 N443 hx hZ rfl hown (hw _ (List.mem_of_getElem? (i := 4) rfl)) (hw _ (List.mem_of_getElem? (i := 5) rfl)) (hw _ (List.mem_of_getElem? (i := 3) rfl)) (hw _ (List.mem_of_getElem? (i := 6) rfl)) (by decide) (own_init1 l Z a0 hw [] b449 b419 (.null) (.null) h449 n0 Zs458 A449 f456 f457 g_b449) (by decide) (by decide) (by decide) (by decide) e449 (pc := 106) (Ls := #[.val (.int p0), .val (.int p1), .val (.int p2), .val (.int (1 : Int32)), .val (.int (2 : Int32)), .val (.ref b419), .val (.int vg427), .val (.int vg428), .val (.int vg429), .val (.ref b430), .unset, .unset, .unset]) (st := [.null, (.ref b419), (.ref b449), (.ref b449)]) (argsL := [(.ref b419), .null]) (rest := [(.ref b449)]) (by rw [hml]; rfl) (lenOf own_pd0 rfl) rfl rfl (Nat.le_of_eq rfl) (hb hby at_106)
      obtain ⟨rfl, K459, o459_0, o459_1, o459_2⟩ := hq459
      refine own_via st459 ?_
      have f460 : Exa Z h459 b419 "[B" := f452.keep K459
      have f461 : Arv Z h459 b419 k419 .byte (1 : Int32) [(.int ((((p0.toUInt32 >>> ((24 : Int32) &&& 31).toUInt32).toInt32).toInt8.toInt32).toInt8.toInt32))] (.int (0 : Int32)) := f453.keep K459 (by simp only [List.mem_cons, List.not_mem_nil, or_false, not_or]; exact ne450)
      have f462 : Exa Z h459 b430 "[B" := f454.keep K459
      have f463 : Arv Z h459 b430 k430 .byte (2 : Int32) [(.int (vg427.toInt8.toInt32)), (.int (vg428.toInt8.toInt32))] (.int (0 : Int32)) := f455.keep K459 (by simp only [List.mem_cons, List.not_mem_nil, or_false, not_or]; exact ne451)
      have f464 : Exa Z h459 b449 "com/example/clementi/clementi/store/KeyRange" := A449.keep K459
      have Zs465 : n0 ≤ h459.size := Nat.le_trans Zs458 K459.1
      show own_G p e below _ (T459.setTop (mkF m 109 #[.val (.int p0), .val (.int p1), .val (.int p2), .val (.int (1 : Int32)), .val (.int (2 : Int32)), .val (.ref b419), .val (.int vg427), .val (.int vg428), .val (.int vg429), .val (.ref b430), .unset, .unset, .unset] [(.ref b449)]))
      refine own_via (fun t k => XS.astore X459.here hx rfl (hb hby at_109) rfl rfl (l' := #[.val (.int p0), .val (.int p1), .val (.int p2), .val (.int (1 : Int32)), .val (.int (2 : Int32)), .val (.ref b419), .val (.int vg427), .val (.int vg428), .val (.int vg429), .val (.ref b430), .val (.ref b449), .unset, .unset]) rfl k) ?_
      show own_G p e below _ (T459.setTop (mkF m 111 #[.val (.int p0), .val (.int p1), .val (.int p2), .val (.int (1 : Int32)), .val (.int (2 : Int32)), .val (.ref b419), .val (.int vg427), .val (.int vg428), .val (.int vg429), .val (.ref b430), .val (.ref b449), .unset, .unset] []))
      refine own_via (fun t k => XS.aload X459.here hx rfl (hb hby at_111) rfl rfl k) ?_
      show own_G p e below _ (T459.setTop (mkF m 113 #[.val (.int p0), .val (.int p1), .val (.int p2), .val (.int (1 : Int32)), .val (.int (2 : Int32)), .val (.ref b419), .val (.int vg427), .val (.int vg428), .val (.int vg429), .val (.ref b430), .val (.ref b449), .unset, .unset] [(.ref b449)]))
      obtain ⟨T466, X466, e466, st466⟩ := own_callVP (y := (⟨"com/example/clementi/clementi/store/KeyRange", "end", "()[B"⟩ : MethodName)) (z := (⟨"com/example/clementi/clementi/store/KeyRange", "end", "()[B"⟩ : MethodName)) (W := 0) (a := b449) X459 hx hZ hown (hw _ (List.mem_of_getElem? (i := 14) rfl)) (hw _ (List.mem_of_getElem? (i := 15) rfl)) (notFace_of_selects (args := #[]) (mvT hZ (hw _ (List.mem_of_getElem? (i := 17) rfl)))) (hw _ (List.mem_of_getElem? (i := 17) rfl)) (hw _ (List.mem_of_getElem? (i := 16) rfl)) (hw _ (List.mem_of_getElem? (i := 3) rfl)) (hw _ (List.mem_of_getElem? (i := 18) rfl)) (by decide) (own_end0 l Z a0 hw [] b449 h459 o459_2) (by decide) (by decide) rfl rfl (by decide) (by decide) e459 o459_0 (pc := 113) (Ls := #[.val (.int p0), .val (.int p1), .val (.int p2), .val (.int (1 : Int32)), .val (.int (2 : Int32)), .val (.ref b419), .val (.int vg427), .val (.int vg428), .val (.int vg429), .val (.ref b430), .val (.ref b449), .unset, .unset]) (st := [(.ref b449)]) (argsL := []) (rest := []) (by rw [hml]; rfl) (lenOf own_pd1 rfl) rfl rfl (Nat.le_of_eq rfl) (hb hby at_113)
      refine own_via st466 ?_
      show own_G p e below _ (T466.setTop (mkF m 116 #[.val (.int p0), .val (.int p1), .val (.int p2), .val (.int (1 : Int32)), .val (.int (2 : Int32)), .val (.ref b419), .val (.int vg427), .val (.int vg428), .val (.int vg429), .val (.ref b430), .val (.ref b449), .unset, .unset] [.null]))
      refine own_via (fun t k => XS.astore X466.here hx rfl (hb hby at_116) rfl rfl (l' := #[.val (.int p0), .val (.int p1), .val (.int p2), .val (.int (1 : Int32)), .val (.int (2 : Int32)), .val (.ref b419), .val (.int vg427), .val (.int vg428), .val (.int vg429), .val (.ref b430), .val (.ref b449), .val .null, .unset]) rfl k) ?_
      show own_G p e below _ (T466.setTop (mkF m 118 #[.val (.int p0), .val (.int p1), .val (.int p2), .val (.int (1 : Int32)), .val (.int (2 : Int32)), .val (.ref b419), .val (.int vg427), .val (.int vg428), .val (.int vg429), .val (.ref b430), .val (.ref b449), .val .null, .unset] []))
      refine own_via (fun t k => XS.iloadN X466.here hx rfl (hb hby at_118) rfl k) ?_
      show own_G p e below _ (T466.setTop (mkF m 119 #[.val (.int p0), .val (.int p1), .val (.int p2), .val (.int (1 : Int32)), .val (.int (2 : Int32)), .val (.ref b419), .val (.int vg427), .val (.int vg428), .val (.int vg429), .val (.ref b430), .val (.ref b449), .val .null, .unset] [(.int (1 : Int32))]))
      refine own_via (fun t k => XS.ifNo X466.here hx rfl (hb hby at_119) rfl ((if0 _ _).trans (feq (by decide : ¬ ((1 : Int32) = (0 : Int32)))).1) k) ?_
      show own_G p e below _ (T466.setTop (mkF m 122 #[.val (.int p0), .val (.int p1), .val (.int p2), .val (.int (1 : Int32)), .val (.int (2 : Int32)), .val (.ref b419), .val (.int vg427), .val (.int vg428), .val (.int vg429), .val (.ref b430), .val (.ref b449), .val .null, .unset] []))
      refine own_via (fun t k => XS.aload X466.here hx rfl (hb hby at_122) rfl rfl k) ?_
      show own_G p e below _ (T466.setTop (mkF m 124 #[.val (.int p0), .val (.int p1), .val (.int p2), .val (.int (1 : Int32)), .val (.int (2 : Int32)), .val (.ref b419), .val (.int vg427), .val (.int vg428), .val (.int vg429), .val (.ref b430), .val (.ref b449), .val .null, .unset] [.null]))
      refine own_via (fun t k => XS.ifnonnullNo X466.here hx rfl (hb hby at_124) rfl k) ?_
      show own_G p e below _ (T466.setTop (mkF m 127 #[.val (.int p0), .val (.int p1), .val (.int p2), .val (.int (1 : Int32)), .val (.int (2 : Int32)), .val (.ref b419), .val (.int vg427), .val (.int vg428), .val (.int vg429), .val (.ref b430), .val (.ref b449), .val .null, .unset] []))
      refine own_via (fun t k => XS.aload X466.here hx rfl (hb hby at_127) rfl rfl k) ?_
      show own_G p e below _ (T466.setTop (mkF m 129 #[.val (.int p0), .val (.int p1), .val (.int p2), .val (.int (1 : Int32)), .val (.int (2 : Int32)), .val (.ref b419), .val (.int vg427), .val (.int vg428), .val (.int vg429), .val (.ref b430), .val (.ref b449), .val .null, .unset] [(.ref b449)]))
      obtain ⟨T467, X467, e467, st467⟩ := own_callVP (y := (⟨"com/example/clementi/clementi/store/KeyRange", "end", "()[B"⟩ : MethodName)) (z := (⟨"com/example/clementi/clementi/store/KeyRange", "end", "()[B"⟩ : MethodName)) (W := 0) (a := b449) X466 hx hZ hown (hw _ (List.mem_of_getElem? (i := 14) rfl)) (hw _ (List.mem_of_getElem? (i := 15) rfl)) (notFace_of_selects (args := #[]) (mvT hZ (hw _ (List.mem_of_getElem? (i := 17) rfl)))) (hw _ (List.mem_of_getElem? (i := 17) rfl)) (hw _ (List.mem_of_getElem? (i := 16) rfl)) (hw _ (List.mem_of_getElem? (i := 3) rfl)) (hw _ (List.mem_of_getElem? (i := 18) rfl)) (by decide) (own_end0 l Z a0 hw [] b449 h459 o459_2) (by decide) (by decide) rfl rfl (by decide) (by decide) e466 o459_0 (pc := 129) (Ls := #[.val (.int p0), .val (.int p1), .val (.int p2), .val (.int (1 : Int32)), .val (.int (2 : Int32)), .val (.ref b419), .val (.int vg427), .val (.int vg428), .val (.int vg429), .val (.ref b430), .val (.ref b449), .val .null, .unset]) (st := [(.ref b449)]) (argsL := []) (rest := []) (by rw [hml]; rfl) (lenOf own_pd1 rfl) rfl rfl (Nat.le_of_eq rfl) (hb hby at_129)
      refine own_via st467 ?_
      show own_G p e below _ (T467.setTop (mkF m 132 #[.val (.int p0), .val (.int p1), .val (.int p2), .val (.int (1 : Int32)), .val (.int (2 : Int32)), .val (.ref b419), .val (.int vg427), .val (.int vg428), .val (.int vg429), .val (.ref b430), .val (.ref b449), .val .null, .unset] [.null]))
      refine own_via (fun t k => XS.ifnonnullNo X467.here hx rfl (hb hby at_132) rfl k) ?_
      show own_G p e below _ (T467.setTop (mkF m 135 #[.val (.int p0), .val (.int p1), .val (.int p2), .val (.int (1 : Int32)), .val (.int (2 : Int32)), .val (.ref b419), .val (.int vg427), .val (.int vg428), .val (.int vg429), .val (.ref b430), .val (.ref b449), .val .null, .unset] []))
      refine own_via (fun t k => XS.iconst X467.here hx rfl (hb hby at_135) k) ?_
      show own_G p e below _ (T467.setTop (mkF m 136 #[.val (.int p0), .val (.int p1), .val (.int p2), .val (.int (1 : Int32)), .val (.int (2 : Int32)), .val (.ref b419), .val (.int vg427), .val (.int vg428), .val (.int vg429), .val (.ref b430), .val (.ref b449), .val .null, .unset] [(.int (1 : Int32))]))
      refine own_via (fun t k => XS.goto X467.here hx rfl (pc0 := 136) (pc' := 140) rfl (hb hby at_136) (by decide) (by decide) k) ?_
      show own_G p e below _ (T467.setTop (mkF m 140 #[.val (.int p0), .val (.int p1), .val (.int p2), .val (.int (1 : Int32)), .val (.int (2 : Int32)), .val (.ref b419), .val (.int vg427), .val (.int vg428), .val (.int vg429), .val (.ref b430), .val (.ref b449), .val .null, .unset] [(.int (1 : Int32))]))
      exact own_retN (t := .boolean) X467 hx Bd.returns (by simp) Bd.notSynchronized (hb hby at_140) ⟨N459, rfl⟩ (by decide) (by decide)
    ·
      rw [hs338]
      show own_G p e below _ (s₁.setTop (mkF m 15 #[.val (.int p0), .val (.int p1), .val (.int p2), .val (.int (1 : Int32)), .unset, .unset, .unset, .unset, .unset, .unset, .unset, .unset, .unset] [(.int (3 : Int32))]))
      refine own_via (fun t k => XS.istore X0.here hx rfl (hb hby at_15) rfl (l' := #[.val (.int p0), .val (.int p1), .val (.int p2), .val (.int (1 : Int32)), .val (.int (3 : Int32)), .unset, .unset, .unset, .unset, .unset, .unset, .unset, .unset]) rfl k) ?_
      show own_G p e below _ (s₁.setTop (mkF m 17 #[.val (.int p0), .val (.int p1), .val (.int p2), .val (.int (1 : Int32)), .val (.int (3 : Int32)), .unset, .unset, .unset, .unset, .unset, .unset, .unset, .unset] []))
      refine own_via (fun t k => XS.iconst X0.here hx rfl (hb hby at_17) k) ?_
      show own_G p e below _ (s₁.setTop (mkF m 18 #[.val (.int p0), .val (.int p1), .val (.int p2), .val (.int (1 : Int32)), .val (.int (3 : Int32)), .unset, .unset, .unset, .unset, .unset, .unset, .unset, .unset] [(.int (1 : Int32))]))
      obtain ⟨T468, h468, k468, b468, X468, e468, E468, ga468, V468, Ex468, st468⟩ := own_newA X0 hx hZ (hw _ (List.mem_of_getElem? (i := 0) rfl)) e0 (pc := 18) (Ls := #[.val (.int p0), .val (.int p1), .val (.int p2), .val (.int (1 : Int32)), .val (.int (3 : Int32)), .unset, .unset, .unset, .unset, .unset, .unset, .unset, .unset]) (rest := []) (hb hby at_18) (n := (1 : Int32)) (by decide) (cap := 1) (by decide) (by decide) (by decide) (by decide) 1 rfl
      refine own_via st468 ?_
      have f469 : Arv Z h468 b468 k468 .byte (1 : Int32) [(.int (0 : Int32))] (.int (0 : Int32)) := V468
      have f470 : Exa Z h468 b468 "[B" := Ex468
      have g_b468 : n0 ≤ b468 := Nat.le_trans Z0 (Nat.le_of_eq ga468.symm)
      have Zs471 : n0 ≤ h468.size := Nat.le_trans Z0 E468.1
      show own_G p e below _ (T468.setTop (mkF m 20 #[.val (.int p0), .val (.int p1), .val (.int p2), .val (.int (1 : Int32)), .val (.int (3 : Int32)), .unset, .unset, .unset, .unset, .unset, .unset, .unset, .unset] [(.ref b468)]))
      refine own_via (fun t k => XS.astore X468.here hx rfl (hb hby at_20) rfl rfl (l' := #[.val (.int p0), .val (.int p1), .val (.int p2), .val (.int (1 : Int32)), .val (.int (3 : Int32)), .val (.ref b468), .unset, .unset, .unset, .unset, .unset, .unset, .unset]) rfl k) ?_
      show own_G p e below _ (T468.setTop (mkF m 22 #[.val (.int p0), .val (.int p1), .val (.int p2), .val (.int (1 : Int32)), .val (.int (3 : Int32)), .val (.ref b468), .unset, .unset, .unset, .unset, .unset, .unset, .unset] []))
      refine own_via (fun t k => XS.aload X468.here hx rfl (hb hby at_22) rfl rfl k) ?_
      show own_G p e below _ (T468.setTop (mkF m 24 #[.val (.int p0), .val (.int p1), .val (.int p2), .val (.int (1 : Int32)), .val (.int (3 : Int32)), .val (.ref b468), .unset, .unset, .unset, .unset, .unset, .unset, .unset] [(.ref b468)]))
      refine own_via (fun t k => XS.iconst X468.here hx rfl (hb hby at_24) k) ?_
      show own_G p e below _ (T468.setTop (mkF m 25 #[.val (.int p0), .val (.int p1), .val (.int p2), .val (.int (1 : Int32)), .val (.int (3 : Int32)), .val (.ref b468), .unset, .unset, .unset, .unset, .unset, .unset, .unset] [(.int (0 : Int32)), (.ref b468)]))
      refine own_via (fun t k => XS.iloadN X468.here hx rfl (hb hby at_25) rfl k) ?_
      show own_G p e below _ (T468.setTop (mkF m 26 #[.val (.int p0), .val (.int p1), .val (.int p2), .val (.int (1 : Int32)), .val (.int (3 : Int32)), .val (.ref b468), .unset, .unset, .unset, .unset, .unset, .unset, .unset] [(.int p0), (.int (0 : Int32)), (.ref b468)]))
      refine own_via (fun t k => XS.bipush X468.here hx rfl (hb hby at_26) k) ?_
      show own_G p e below _ (T468.setTop (mkF m 28 #[.val (.int p0), .val (.int p1), .val (.int p2), .val (.int (1 : Int32)), .val (.int (3 : Int32)), .val (.ref b468), .unset, .unset, .unset, .unset, .unset, .unset, .unset] [(.int (24 : Int32)), (.int p0), (.int (0 : Int32)), (.ref b468)]))
      refine own_via (fun t k => XS.iushr X468.here hx rfl (hb hby at_28) rfl k) ?_
      show own_G p e below _ (T468.setTop (mkF m 29 #[.val (.int p0), .val (.int p1), .val (.int p2), .val (.int (1 : Int32)), .val (.int (3 : Int32)), .val (.ref b468), .unset, .unset, .unset, .unset, .unset, .unset, .unset] [(.int ((p0.toUInt32 >>> ((24 : Int32) &&& 31).toUInt32).toInt32)), (.int (0 : Int32)), (.ref b468)]))
      refine own_via (fun t k => XS.i2b X468.here hx rfl (hb hby at_29) rfl k) ?_
      show own_G p e below _ (T468.setTop (mkF m 30 #[.val (.int p0), .val (.int p1), .val (.int p2), .val (.int (1 : Int32)), .val (.int (3 : Int32)), .val (.ref b468), .unset, .unset, .unset, .unset, .unset, .unset, .unset] [(.int (((p0.toUInt32 >>> ((24 : Int32) &&& 31).toUInt32).toInt32).toInt8.toInt32)), (.int (0 : Int32)), (.ref b468)]))
      obtain ⟨T472, h472, L472, X472, N472, e472, W472, V472, st472⟩ := own_stB X468 N0 hx hZ e468 f469 g_b468 (j := (0 : Int32)) (x := (((p0.toUInt32 >>> ((24 : Int32) &&& 31).toUInt32).toInt32).toInt8.toInt32)) (i := 0) ⟨by decide, by decide⟩ rfl (Nat.le_of_ble_eq_true rfl) (pc := 30) (Ls := #[.val (.int p0), .val (.int p1), .val (.int p2), .val (.int (1 : Int32)), .val (.int (3 : Int32)), .val (.ref b468), .unset, .unset, .unset, .unset, .unset, .unset, .unset]) (rest := []) (hb hby at_30)
      refine own_via st472 ?_
      have f473 : Exa Z h472 b468 "[B" := f470.wr W472
      have f474 : Arv Z h472 b468 k468 .byte (1 : Int32) [(.int ((((p0.toUInt32 >>> ((24 : Int32) &&& 31).toUInt32).toInt32).toInt8.toInt32).toInt8.toInt32))] (.int (0 : Int32)) := V472
      have Zs475 : n0 ≤ h472.size := by rw [W472.size]; exact Zs471
      show own_G p e below _ (T472.setTop (mkF m 31 #[.val (.int p0), .val (.int p1), .val (.int p2), .val (.int (1 : Int32)), .val (.int (3 : Int32)), .val (.ref b468), .unset, .unset, .unset, .unset, .unset, .unset, .unset] []))
      refine own_via (fun t k => XS.iloadN X472.here hx rfl (hb hby at_31) rfl k) ?_
      show own_G p e below _ (T472.setTop (mkF m 32 #[.val (.int p0), .val (.int p1), .val (.int p2), .val (.int (1 : Int32)), .val (.int (3 : Int32)), .val (.ref b468), .unset, .unset, .unset, .unset, .unset, .unset, .unset] [(.int p0)]))
      refine own_via (fun t k => XS.i2b X472.here hx rfl (hb hby at_32) rfl k) ?_
      show own_G p e below _ (T472.setTop (mkF m 33 #[.val (.int p0), .val (.int p1), .val (.int p2), .val (.int (1 : Int32)), .val (.int (3 : Int32)), .val (.ref b468), .unset, .unset, .unset, .unset, .unset, .unset, .unset] [(.int (p0.toInt8.toInt32))]))
      generalize hvg476 : (p0.toInt8.toInt32) = vg476
      show own_G p e below _ (T472.setTop (mkF m 33 #[.val (.int p0), .val (.int p1), .val (.int p2), .val (.int (1 : Int32)), .val (.int (3 : Int32)), .val (.ref b468), .unset, .unset, .unset, .unset, .unset, .unset, .unset] [(.int vg476)]))
      refine own_via (fun t k => XS.istore X472.here hx rfl (hb hby at_33) rfl (l' := #[.val (.int p0), .val (.int p1), .val (.int p2), .val (.int (1 : Int32)), .val (.int (3 : Int32)), .val (.ref b468), .val (.int vg476), .unset, .unset, .unset, .unset, .unset, .unset]) rfl k) ?_
      show own_G p e below _ (T472.setTop (mkF m 35 #[.val (.int p0), .val (.int p1), .val (.int p2), .val (.int (1 : Int32)), .val (.int (3 : Int32)), .val (.ref b468), .val (.int vg476), .unset, .unset, .unset, .unset, .unset, .unset] []))
      refine own_via (fun t k => XS.iloadN X472.here hx rfl (hb hby at_35) rfl k) ?_
      show own_G p e below _ (T472.setTop (mkF m 36 #[.val (.int p0), .val (.int p1), .val (.int p2), .val (.int (1 : Int32)), .val (.int (3 : Int32)), .val (.ref b468), .val (.int vg476), .unset, .unset, .unset, .unset, .unset, .unset] [(.int p0)]))
      refine own_via (fun t k => XS.bipush X472.here hx rfl (hb hby at_36) k) ?_
      show own_G p e below _ (T472.setTop (mkF m 38 #[.val (.int p0), .val (.int p1), .val (.int p2), .val (.int (1 : Int32)), .val (.int (3 : Int32)), .val (.ref b468), .val (.int vg476), .unset, .unset, .unset, .unset, .unset, .unset] [(.int (8 : Int32)), (.int p0)]))
      refine own_via (fun t k => XS.ishr X472.here hx rfl (hb hby at_38) rfl k) ?_
      show own_G p e below _ (T472.setTop (mkF m 39 #[.val (.int p0), .val (.int p1), .val (.int p2), .val (.int (1 : Int32)), .val (.int (3 : Int32)), .val (.ref b468), .val (.int vg476), .unset, .unset, .unset, .unset, .unset, .unset] [(.int (p0 >>> ((8 : Int32) &&& 31)))]))
      refine own_via (fun t k => XS.i2b X472.here hx rfl (hb hby at_39) rfl k) ?_
      show own_G p e below _ (T472.setTop (mkF m 40 #[.val (.int p0), .val (.int p1), .val (.int p2), .val (.int (1 : Int32)), .val (.int (3 : Int32)), .val (.ref b468), .val (.int vg476), .unset, .unset, .unset, .unset, .unset, .unset] [(.int ((p0 >>> ((8 : Int32) &&& 31)).toInt8.toInt32))]))
      generalize hvg477 : ((p0 >>> ((8 : Int32) &&& 31)).toInt8.toInt32) = vg477
      show own_G p e below _ (T472.setTop (mkF m 40 #[.val (.int p0), .val (.int p1), .val (.int p2), .val (.int (1 : Int32)), .val (.int (3 : Int32)), .val (.ref b468), .val (.int vg476), .unset, .unset, .unset, .unset, .unset, .unset] [(.int vg477)]))
      refine own_via (fun t k => XS.istore X472.here hx rfl (hb hby at_40) rfl (l' := #[.val (.int p0), .val (.int p1), .val (.int p2), .val (.int (1 : Int32)), .val (.int (3 : Int32)), .val (.ref b468), .val (.int vg476), .val (.int vg477), .unset, .unset, .unset, .unset, .unset]) rfl k) ?_
      show own_G p e below _ (T472.setTop (mkF m 42 #[.val (.int p0), .val (.int p1), .val (.int p2), .val (.int (1 : Int32)), .val (.int (3 : Int32)), .val (.ref b468), .val (.int vg476), .val (.int vg477), .unset, .unset, .unset, .unset, .unset] []))
      refine own_via (fun t k => XS.iloadN X472.here hx rfl (hb hby at_42) rfl k) ?_
      show own_G p e below _ (T472.setTop (mkF m 43 #[.val (.int p0), .val (.int p1), .val (.int p2), .val (.int (1 : Int32)), .val (.int (3 : Int32)), .val (.ref b468), .val (.int vg476), .val (.int vg477), .unset, .unset, .unset, .unset, .unset] [(.int p0)]))
      refine own_via (fun t k => XS.bipush X472.here hx rfl (hb hby at_43) k) ?_
      show own_G p e below _ (T472.setTop (mkF m 45 #[.val (.int p0), .val (.int p1), .val (.int p2), .val (.int (1 : Int32)), .val (.int (3 : Int32)), .val (.ref b468), .val (.int vg476), .val (.int vg477), .unset, .unset, .unset, .unset, .unset] [(.int (16 : Int32)), (.int p0)]))
      refine own_via (fun t k => XS.ishr X472.here hx rfl (hb hby at_45) rfl k) ?_
      show own_G p e below _ (T472.setTop (mkF m 46 #[.val (.int p0), .val (.int p1), .val (.int p2), .val (.int (1 : Int32)), .val (.int (3 : Int32)), .val (.ref b468), .val (.int vg476), .val (.int vg477), .unset, .unset, .unset, .unset, .unset] [(.int (p0 >>> ((16 : Int32) &&& 31)))]))
      refine own_via (fun t k => XS.i2b X472.here hx rfl (hb hby at_46) rfl k) ?_
      show own_G p e below _ (T472.setTop (mkF m 47 #[.val (.int p0), .val (.int p1), .val (.int p2), .val (.int (1 : Int32)), .val (.int (3 : Int32)), .val (.ref b468), .val (.int vg476), .val (.int vg477), .unset, .unset, .unset, .unset, .unset] [(.int ((p0 >>> ((16 : Int32) &&& 31)).toInt8.toInt32))]))
      generalize hvg478 : ((p0 >>> ((16 : Int32) &&& 31)).toInt8.toInt32) = vg478
      show own_G p e below _ (T472.setTop (mkF m 47 #[.val (.int p0), .val (.int p1), .val (.int p2), .val (.int (1 : Int32)), .val (.int (3 : Int32)), .val (.ref b468), .val (.int vg476), .val (.int vg477), .unset, .unset, .unset, .unset, .unset] [(.int vg478)]))
      refine own_via (fun t k => XS.istore X472.here hx rfl (hb hby at_47) rfl (l' := #[.val (.int p0), .val (.int p1), .val (.int p2), .val (.int (1 : Int32)), .val (.int (3 : Int32)), .val (.ref b468), .val (.int vg476), .val (.int vg477), .val (.int vg478), .unset, .unset, .unset, .unset]) rfl k) ?_
      show own_G p e below _ (T472.setTop (mkF m 49 #[.val (.int p0), .val (.int p1), .val (.int p2), .val (.int (1 : Int32)), .val (.int (3 : Int32)), .val (.ref b468), .val (.int vg476), .val (.int vg477), .val (.int vg478), .unset, .unset, .unset, .unset] []))
      refine own_via (fun t k => XS.iload X472.here hx rfl (hb hby at_49) rfl k) ?_
      show own_G p e below _ (T472.setTop (mkF m 51 #[.val (.int p0), .val (.int p1), .val (.int p2), .val (.int (1 : Int32)), .val (.int (3 : Int32)), .val (.ref b468), .val (.int vg476), .val (.int vg477), .val (.int vg478), .unset, .unset, .unset, .unset] [(.int (3 : Int32))]))
      obtain ⟨T479, h479, k479, b479, X479, e479, E479, ga479, V479, Ex479, st479⟩ := own_newA X472 hx hZ (hw _ (List.mem_of_getElem? (i := 0) rfl)) e472 (pc := 51) (Ls := #[.val (.int p0), .val (.int p1), .val (.int p2), .val (.int (1 : Int32)), .val (.int (3 : Int32)), .val (.ref b468), .val (.int vg476), .val (.int vg477), .val (.int vg478), .unset, .unset, .unset, .unset]) (rest := []) (hb hby at_51) (n := (3 : Int32)) (by decide) (cap := 3) (by decide) (by decide) (by decide) (by decide) 3 rfl
      refine own_via st479 ?_
      have ne480 : b468 ≠ b479 := Nat.ne_of_lt (Nat.lt_of_lt_of_le f473.lt (Nat.le_of_eq ga479.symm))
      have f481 : Exa Z h479 b468 "[B" := f473.ext E479
      have f482 : Arv Z h479 b468 k468 .byte (1 : Int32) [(.int ((((p0.toUInt32 >>> ((24 : Int32) &&& 31).toUInt32).toInt32).toInt8.toInt32).toInt8.toInt32))] (.int (0 : Int32)) := f474.ext E479
      have f483 : Arv Z h479 b479 k479 .byte (3 : Int32) [(.int (0 : Int32)), (.int (0 : Int32)), (.int (0 : Int32))] (.int (0 : Int32)) := V479
      have f484 : Exa Z h479 b479 "[B" := Ex479
      have g_b479 : n0 ≤ b479 := Nat.le_trans Zs475 (Nat.le_of_eq ga479.symm)
      have Zs485 : n0 ≤ h479.size := Nat.le_trans Zs475 E479.1
      show own_G p e below _ (T479.setTop (mkF m 53 #[.val (.int p0), .val (.int p1), .val (.int p2), .val (.int (1 : Int32)), .val (.int (3 : Int32)), .val (.ref b468), .val (.int vg476), .val (.int vg477), .val (.int vg478), .unset, .unset, .unset, .unset] [(.ref b479)]))
      refine own_via (fun t k => XS.astore X479.here hx rfl (hb hby at_53) rfl rfl (l' := #[.val (.int p0), .val (.int p1), .val (.int p2), .val (.int (1 : Int32)), .val (.int (3 : Int32)), .val (.ref b468), .val (.int vg476), .val (.int vg477), .val (.int vg478), .val (.ref b479), .unset, .unset, .unset]) rfl k) ?_
      show own_G p e below _ (T479.setTop (mkF m 55 #[.val (.int p0), .val (.int p1), .val (.int p2), .val (.int (1 : Int32)), .val (.int (3 : Int32)), .val (.ref b468), .val (.int vg476), .val (.int vg477), .val (.int vg478), .val (.ref b479), .unset, .unset, .unset] []))
      refine own_via (fun t k => XS.iload X479.here hx rfl (hb hby at_55) rfl k) ?_
      show own_G p e below _ (T479.setTop (mkF m 57 #[.val (.int p0), .val (.int p1), .val (.int p2), .val (.int (1 : Int32)), .val (.int (3 : Int32)), .val (.ref b468), .val (.int vg476), .val (.int vg477), .val (.int vg478), .val (.ref b479), .unset, .unset, .unset] [(.int (3 : Int32))]))
      refine own_via (fun t k => XS.ifNo X479.here hx rfl (hb hby at_57) rfl ((if0 _ _).trans (tlt (by decide : (0 : Int32) < (3 : Int32))).2.2.2) k) ?_
      show own_G p e below _ (T479.setTop (mkF m 60 #[.val (.int p0), .val (.int p1), .val (.int p2), .val (.int (1 : Int32)), .val (.int (3 : Int32)), .val (.ref b468), .val (.int vg476), .val (.int vg477), .val (.int vg478), .val (.ref b479), .unset, .unset, .unset] []))
      refine own_via (fun t k => XS.aload X479.here hx rfl (hb hby at_60) rfl rfl k) ?_
      show own_G p e below _ (T479.setTop (mkF m 62 #[.val (.int p0), .val (.int p1), .val (.int p2), .val (.int (1 : Int32)), .val (.int (3 : Int32)), .val (.ref b468), .val (.int vg476), .val (.int vg477), .val (.int vg478), .val (.ref b479), .unset, .unset, .unset] [(.ref b479)]))
      refine own_via (fun t k => XS.iconst X479.here hx rfl (hb hby at_62) k) ?_
      show own_G p e below _ (T479.setTop (mkF m 63 #[.val (.int p0), .val (.int p1), .val (.int p2), .val (.int (1 : Int32)), .val (.int (3 : Int32)), .val (.ref b468), .val (.int vg476), .val (.int vg477), .val (.int vg478), .val (.ref b479), .unset, .unset, .unset] [(.int (0 : Int32)), (.ref b479)]))
      refine own_via (fun t k => XS.iload X479.here hx rfl (hb hby at_63) rfl k) ?_
      show own_G p e below _ (T479.setTop (mkF m 65 #[.val (.int p0), .val (.int p1), .val (.int p2), .val (.int (1 : Int32)), .val (.int (3 : Int32)), .val (.ref b468), .val (.int vg476), .val (.int vg477), .val (.int vg478), .val (.ref b479), .unset, .unset, .unset] [(.int vg476), (.int (0 : Int32)), (.ref b479)]))
      obtain ⟨T486, h486, L486, X486, N486, e486, W486, V486, st486⟩ := own_stB X479 N472 hx hZ e479 f483 g_b479 (j := (0 : Int32)) (x := vg476) (i := 0) ⟨by decide, by decide⟩ rfl (Nat.le_of_ble_eq_true rfl) (pc := 65) (Ls := #[.val (.int p0), .val (.int p1), .val (.int p2), .val (.int (1 : Int32)), .val (.int (3 : Int32)), .val (.ref b468), .val (.int vg476), .val (.int vg477), .val (.int vg478), .val (.ref b479), .unset, .unset, .unset]) (rest := []) (hb hby at_65)
      refine own_via st486 ?_
      have f487 : Exa Z h486 b468 "[B" := f481.wr W486
      have f488 : Arv Z h486 b468 k468 .byte (1 : Int32) [(.int ((((p0.toUInt32 >>> ((24 : Int32) &&& 31).toUInt32).toInt32).toInt8.toInt32).toInt8.toInt32))] (.int (0 : Int32)) := f482.other W486 ne480
      have f489 : Exa Z h486 b479 "[B" := f484.wr W486
      have f490 : Arv Z h486 b479 k479 .byte (3 : Int32) [(.int (vg476.toInt8.toInt32)), (.int (0 : Int32)), (.int (0 : Int32))] (.int (0 : Int32)) := V486
      have Zs491 : n0 ≤ h486.size := by rw [W486.size]; exact Zs485
      show own_G p e below _ (T486.setTop (mkF m 66 #[.val (.int p0), .val (.int p1), .val (.int p2), .val (.int (1 : Int32)), .val (.int (3 : Int32)), .val (.ref b468), .val (.int vg476), .val (.int vg477), .val (.int vg478), .val (.ref b479), .unset, .unset, .unset] []))
      refine own_via (fun t k => XS.iload X486.here hx rfl (hb hby at_66) rfl k) ?_
      show own_G p e below _ (T486.setTop (mkF m 68 #[.val (.int p0), .val (.int p1), .val (.int p2), .val (.int (1 : Int32)), .val (.int (3 : Int32)), .val (.ref b468), .val (.int vg476), .val (.int vg477), .val (.int vg478), .val (.ref b479), .unset, .unset, .unset] [(.int (3 : Int32))]))
      refine own_via (fun t k => XS.iconst X486.here hx rfl (hb hby at_68) k) ?_
      show own_G p e below _ (T486.setTop (mkF m 69 #[.val (.int p0), .val (.int p1), .val (.int p2), .val (.int (1 : Int32)), .val (.int (3 : Int32)), .val (.ref b468), .val (.int vg476), .val (.int vg477), .val (.int vg478), .val (.ref b479), .unset, .unset, .unset] [(.int (1 : Int32)), (.int (3 : Int32))]))
      refine own_via (fun t k => XS.icmpNo X486.here hx rfl (hb hby at_69) rfl (tlt (by decide : (1 : Int32) < (3 : Int32))).2.2.2 k) ?_
      show own_G p e below _ (T486.setTop (mkF m 72 #[.val (.int p0), .val (.int p1), .val (.int p2), .val (.int (1 : Int32)), .val (.int (3 : Int32)), .val (.ref b468), .val (.int vg476), .val (.int vg477), .val (.int vg478), .val (.ref b479), .unset, .unset, .unset] []))
      refine own_via (fun t k => XS.aload X486.here hx rfl (hb hby at_72) rfl rfl k) ?_
      show own_G p e below _ (T486.setTop (mkF m 74 #[.val (.int p0), .val (.int p1), .val (.int p2), .val (.int (1 : Int32)), .val (.int (3 : Int32)), .val (.ref b468), .val (.int vg476), .val (.int vg477), .val (.int vg478), .val (.ref b479), .unset, .unset, .unset] [(.ref b479)]))
      refine own_via (fun t k => XS.iconst X486.here hx rfl (hb hby at_74) k) ?_
      show own_G p e below _ (T486.setTop (mkF m 75 #[.val (.int p0), .val (.int p1), .val (.int p2), .val (.int (1 : Int32)), .val (.int (3 : Int32)), .val (.ref b468), .val (.int vg476), .val (.int vg477), .val (.int vg478), .val (.ref b479), .unset, .unset, .unset] [(.int (1 : Int32)), (.ref b479)]))
      refine own_via (fun t k => XS.iload X486.here hx rfl (hb hby at_75) rfl k) ?_
      show own_G p e below _ (T486.setTop (mkF m 77 #[.val (.int p0), .val (.int p1), .val (.int p2), .val (.int (1 : Int32)), .val (.int (3 : Int32)), .val (.ref b468), .val (.int vg476), .val (.int vg477), .val (.int vg478), .val (.ref b479), .unset, .unset, .unset] [(.int vg477), (.int (1 : Int32)), (.ref b479)]))
      obtain ⟨T492, h492, L492, X492, N492, e492, W492, V492, st492⟩ := own_stB X486 N486 hx hZ e486 f490 g_b479 (j := (1 : Int32)) (x := vg477) (i := 1) ⟨by decide, by decide⟩ rfl (Nat.le_of_ble_eq_true rfl) (pc := 77) (Ls := #[.val (.int p0), .val (.int p1), .val (.int p2), .val (.int (1 : Int32)), .val (.int (3 : Int32)), .val (.ref b468), .val (.int vg476), .val (.int vg477), .val (.int vg478), .val (.ref b479), .unset, .unset, .unset]) (rest := []) (hb hby at_77)
      refine own_via st492 ?_
      have f493 : Exa Z h492 b468 "[B" := f487.wr W492
      have f494 : Arv Z h492 b468 k468 .byte (1 : Int32) [(.int ((((p0.toUInt32 >>> ((24 : Int32) &&& 31).toUInt32).toInt32).toInt8.toInt32).toInt8.toInt32))] (.int (0 : Int32)) := f488.other W492 ne480
      have f495 : Exa Z h492 b479 "[B" := f489.wr W492
      have f496 : Arv Z h492 b479 k479 .byte (3 : Int32) [(.int (vg476.toInt8.toInt32)), (.int (vg477.toInt8.toInt32)), (.int (0 : Int32))] (.int (0 : Int32)) := V492
      have Zs497 : n0 ≤ h492.size := by rw [W492.size]; exact Zs491
      show own_G p e below _ (T492.setTop (mkF m 78 #[.val (.int p0), .val (.int p1), .val (.int p2), .val (.int (1 : Int32)), .val (.int (3 : Int32)), .val (.ref b468), .val (.int vg476), .val (.int vg477), .val (.int vg478), .val (.ref b479), .unset, .unset, .unset] []))
      refine own_via (fun t k => XS.iload X492.here hx rfl (hb hby at_78) rfl k) ?_
      show own_G p e below _ (T492.setTop (mkF m 80 #[.val (.int p0), .val (.int p1), .val (.int p2), .val (.int (1 : Int32)), .val (.int (3 : Int32)), .val (.ref b468), .val (.int vg476), .val (.int vg477), .val (.int vg478), .val (.ref b479), .unset, .unset, .unset] [(.int (3 : Int32))]))
      refine own_via (fun t k => XS.iconst X492.here hx rfl (hb hby at_80) k) ?_
      show own_G p e below _ (T492.setTop (mkF m 81 #[.val (.int p0), .val (.int p1), .val (.int p2), .val (.int (1 : Int32)), .val (.int (3 : Int32)), .val (.ref b468), .val (.int vg476), .val (.int vg477), .val (.int vg478), .val (.ref b479), .unset, .unset, .unset] [(.int (2 : Int32)), (.int (3 : Int32))]))
      refine own_via (fun t k => XS.icmpNo X492.here hx rfl (hb hby at_81) rfl (tlt (by decide : (2 : Int32) < (3 : Int32))).2.2.2 k) ?_
      show own_G p e below _ (T492.setTop (mkF m 84 #[.val (.int p0), .val (.int p1), .val (.int p2), .val (.int (1 : Int32)), .val (.int (3 : Int32)), .val (.ref b468), .val (.int vg476), .val (.int vg477), .val (.int vg478), .val (.ref b479), .unset, .unset, .unset] []))
      refine own_via (fun t k => XS.aload X492.here hx rfl (hb hby at_84) rfl rfl k) ?_
      show own_G p e below _ (T492.setTop (mkF m 86 #[.val (.int p0), .val (.int p1), .val (.int p2), .val (.int (1 : Int32)), .val (.int (3 : Int32)), .val (.ref b468), .val (.int vg476), .val (.int vg477), .val (.int vg478), .val (.ref b479), .unset, .unset, .unset] [(.ref b479)]))
      refine own_via (fun t k => XS.iconst X492.here hx rfl (hb hby at_86) k) ?_
      show own_G p e below _ (T492.setTop (mkF m 87 #[.val (.int p0), .val (.int p1), .val (.int p2), .val (.int (1 : Int32)), .val (.int (3 : Int32)), .val (.ref b468), .val (.int vg476), .val (.int vg477), .val (.int vg478), .val (.ref b479), .unset, .unset, .unset] [(.int (2 : Int32)), (.ref b479)]))
      refine own_via (fun t k => XS.iload X492.here hx rfl (hb hby at_87) rfl k) ?_
      show own_G p e below _ (T492.setTop (mkF m 89 #[.val (.int p0), .val (.int p1), .val (.int p2), .val (.int (1 : Int32)), .val (.int (3 : Int32)), .val (.ref b468), .val (.int vg476), .val (.int vg477), .val (.int vg478), .val (.ref b479), .unset, .unset, .unset] [(.int vg478), (.int (2 : Int32)), (.ref b479)]))
      obtain ⟨T498, h498, L498, X498, N498, e498, W498, V498, st498⟩ := own_stB X492 N492 hx hZ e492 f496 g_b479 (j := (2 : Int32)) (x := vg478) (i := 2) ⟨by decide, by decide⟩ rfl (Nat.le_of_ble_eq_true rfl) (pc := 89) (Ls := #[.val (.int p0), .val (.int p1), .val (.int p2), .val (.int (1 : Int32)), .val (.int (3 : Int32)), .val (.ref b468), .val (.int vg476), .val (.int vg477), .val (.int vg478), .val (.ref b479), .unset, .unset, .unset]) (rest := []) (hb hby at_89)
      refine own_via st498 ?_
      have f499 : Exa Z h498 b468 "[B" := f493.wr W498
      have f500 : Arv Z h498 b468 k468 .byte (1 : Int32) [(.int ((((p0.toUInt32 >>> ((24 : Int32) &&& 31).toUInt32).toInt32).toInt8.toInt32).toInt8.toInt32))] (.int (0 : Int32)) := f494.other W498 ne480
      have f501 : Exa Z h498 b479 "[B" := f495.wr W498
      have f502 : Arv Z h498 b479 k479 .byte (3 : Int32) [(.int (vg476.toInt8.toInt32)), (.int (vg477.toInt8.toInt32)), (.int (vg478.toInt8.toInt32))] (.int (0 : Int32)) := V498
      have Zs503 : n0 ≤ h498.size := by rw [W498.size]; exact Zs497
      show own_G p e below _ (T498.setTop (mkF m 90 #[.val (.int p0), .val (.int p1), .val (.int p2), .val (.int (1 : Int32)), .val (.int (3 : Int32)), .val (.ref b468), .val (.int vg476), .val (.int vg477), .val (.int vg478), .val (.ref b479), .unset, .unset, .unset] []))
      obtain ⟨T504, h504, b504, X504, e504, E504, ga504, A504, D504, st504⟩ := own_newO X498 hx hZ hown (hw _ (List.mem_of_getElem? (i := 1) rfl)) (hw _ (List.mem_of_getElem? (i := 2) rfl)) (hw _ (List.mem_of_getElem? (i := 3) rfl)) e498 (pc := 90) (Ls := #[.val (.int p0), .val (.int p1), .val (.int p2), .val (.int (1 : Int32)), .val (.int (3 : Int32)), .val (.ref b468), .val (.int vg476), .val (.int vg477), .val (.int vg478), .val (.ref b479), .unset, .unset, .unset]) (rest := []) (hb hby at_90) (by decide) (by decide)
      refine own_via st504 ?_
      have ne505 : b468 ≠ b504 := Nat.ne_of_lt (Nat.lt_of_lt_of_le f499.lt (Nat.le_of_eq ga504.symm))
      have ne506 : b479 ≠ b504 := Nat.ne_of_lt (Nat.lt_of_lt_of_le f501.lt (Nat.le_of_eq ga504.symm))
      have f507 : Exa Z h504 b468 "[B" := f499.ext E504
      have f508 : Arv Z h504 b468 k468 .byte (1 : Int32) [(.int ((((p0.toUInt32 >>> ((24 : Int32) &&& 31).toUInt32).toInt32).toInt8.toInt32).toInt8.toInt32))] (.int (0 : Int32)) := f500.ext E504
      have f509 : Exa Z h504 b479 "[B" := f501.ext E504
      have f510 : Arv Z h504 b479 k479 .byte (3 : Int32) [(.int (vg476.toInt8.toInt32)), (.int (vg477.toInt8.toInt32)), (.int (vg478.toInt8.toInt32))] (.int (0 : Int32)) := f502.ext E504
      have f511 : Fld Z h504 b504 "com/example/clementi/clementi/store/KeyRange" "prefix" "[B" .null := D504 (Or.inr (hw _ (List.mem_of_getElem? (i := 11) rfl))) (ty := (.array .byte)) (by decide)
      have f512 : Fld Z h504 b504 "com/example/clementi/clementi/store/KeyRange" "end" "[B" .null := D504 (Or.inr (hw _ (List.mem_of_getElem? (i := 13) rfl))) (ty := (.array .byte)) (by decide)
      have g_b504 : n0 ≤ b504 := Nat.le_trans Zs503 (Nat.le_of_eq ga504.symm)
      have Zs513 : n0 ≤ h504.size := Nat.le_trans Zs503 E504.1
      show own_G p e below _ (T504.setTop (mkF m 93 #[.val (.int p0), .val (.int p1), .val (.int p2), .val (.int (1 : Int32)), .val (.int (3 : Int32)), .val (.ref b468), .val (.int vg476), .val (.int vg477), .val (.int vg478), .val (.ref b479), .unset, .unset, .unset] [(.ref b504)]))
      refine own_via (fun t k => XS.dup X504.here hx rfl (hb hby at_93) rfl rfl k) ?_
      show own_G p e below _ (T504.setTop (mkF m 94 #[.val (.int p0), .val (.int p1), .val (.int p2), .val (.int (1 : Int32)), .val (.int (3 : Int32)), .val (.ref b468), .val (.int vg476), .val (.int vg477), .val (.int vg478), .val (.ref b479), .unset, .unset, .unset] [(.ref b504), (.ref b504)]))
      refine own_via (fun t k => XS.aload X504.here hx rfl (hb hby at_94) rfl rfl k) ?_
      show own_G p e below _ (T504.setTop (mkF m 96 #[.val (.int p0), .val (.int p1), .val (.int p2), .val (.int (1 : Int32)), .val (.int (3 : Int32)), .val (.ref b468), .val (.int vg476), .val (.int vg477), .val (.int vg478), .val (.ref b479), .unset, .unset, .unset] [(.ref b468), (.ref b504), (.ref b504)]))
      refine own_via (fun t k => XS.iloadN X504.here hx rfl (hb hby at_96) rfl k) ?_
      show own_G p e below _ (T504.setTop (mkF m 97 #[.val (.int p0), .val (.int p1), .val (.int p2), .val (.int (1 : Int32)), .val (.int (3 : Int32)), .val (.ref b468), .val (.int vg476), .val (.int vg477), .val (.int vg478), .val (.ref b479), .unset, .unset, .unset] [(.int (1 : Int32)), (.ref b468), (.ref b504), (.ref b504)]))
      refine own_via (fun t k => XS.ifNo X504.here hx rfl (hb hby at_97) rfl ((if0 _ _).trans (feq (by decide : ¬ ((1 : Int32) = (0 : Int32)))).1) k) ?_
      show own_G p e below _ (T504.setTop (mkF m 100 #[.val (.int p0), .val (.int p1), .val (.int p2), .val (.int (1 : Int32)), .val (.int (3 : Int32)), .val (.ref b468), .val (.int vg476), .val (.int vg477), .val (.int vg478), .val (.ref b479), .unset, .unset, .unset] [(.ref b468), (.ref b504), (.ref b504)]))
      refine own_via (fun t k => XS.aconstNull X504.here hx rfl (hb hby at_100) k) ?_
      show own_G p e below _ (T504.setTop (mkF m 101 #[.val (.int p0), .val (.int p1), .val (.int p2), .val (.int (1 : Int32)), .val (.int (3 : Int32)), .val (.ref b468), .val (.int vg476), .val (.int vg477), .val (.int vg478), .val (.ref b479), .unset, .unset, .unset] [.null, (.ref b468), (.ref b504), (.ref b504)]))
      refine own_via (fun t k => XS.goto X504.here hx rfl (pc0 := 101) (pc' := 106) rfl (hb hby at_101) (by decide) (by decide) k) ?_
      show own_G p e below _ (T504.setTop (mkF m 106 #[.val (.int p0), .val (.int p1), .val (.int p2), .val (.int (1 : Int32)), .val (.int (3 : Int32)), .val (.ref b468), .val (.int vg476), .val (.int vg477), .val (.int vg478), .val (.ref b479), .unset, .unset, .unset] [.null, (.ref b468), (.ref b504), (.ref b504)]))
      obtain ⟨v514, T514, h514, L514, X514, N514, e514, hq514, st514⟩ := own_callI (y := (⟨"com/example/clementi/clementi/store/KeyRange", "<init>", "([B[B)V"⟩ : MethodName)) (W := 1) (a := b504) X504 N498 hx hZ rfl hown (hw _ (List.mem_of_getElem? (i := 4) rfl)) (hw _ (List.mem_of_getElem? (i := 5) rfl)) (hw _ (List.mem_of_getElem? (i := 3) rfl)) (hw _ (List.mem_of_getElem? (i := 6) rfl)) (by decide) (own_init1 l Z a0 hw [] b504 b468 (.null) (.null) h504 n0 Zs513 A504 f511 f512 g_b504) (by decide) (by decide) (by decide) (by decide) e504 (pc := 106) (Ls := #[.val (.int p0), .val (.int p1), .val (.int p2), .val (.int (1 : Int32)), .val (.int (3 : Int32)), .val (.ref b468), .val (.int vg476), .val (.int vg477), .val (.int vg478), .val (.ref b479), .unset, .unset, .unset]) (st := [.null, (.ref b468), (.ref b504), (.ref b504)]) (argsL := [(.ref b468), .null]) (rest := [(.ref b504)]) (by rw [hml]; rfl) (lenOf own_pd0 rfl) rfl rfl (Nat.le_of_eq rfl) (hb hby at_106)
      obtain ⟨rfl, K514, o514_0, o514_1, o514_2⟩ := hq514
      refine own_via st514 ?_
      have f515 : Exa Z h514 b468 "[B" := f507.keep K514
      have f516 : Arv Z h514 b468 k468 .byte (1 : Int32) [(.int ((((p0.toUInt32 >>> ((24 : Int32) &&& 31).toUInt32).toInt32).toInt8.toInt32).toInt8.toInt32))] (.int (0 : Int32)) := f508.keep K514 (by simp only [List.mem_cons, List.not_mem_nil, or_false, not_or]; exact ne505)
      have f517 : Exa Z h514 b479 "[B" := f509.keep K514
      have f518 : Arv Z h514 b479 k479 .byte (3 : Int32) [(.int (vg476.toInt8.toInt32)), (.int (vg477.toInt8.toInt32)), (.int (vg478.toInt8.toInt32))] (.int (0 : Int32)) := f510.keep K514 (by simp only [List.mem_cons, List.not_mem_nil, or_false, not_or]; exact ne506)
      have f519 : Exa Z h514 b504 "com/example/clementi/clementi/store/KeyRange" := A504.keep K514
      have Zs520 : n0 ≤ h514.size := Nat.le_trans Zs513 K514.1
      show own_G p e below _ (T514.setTop (mkF m 109 #[.val (.int p0), .val (.int p1), .val (.int p2), .val (.int (1 : Int32)), .val (.int (3 : Int32)), .val (.ref b468), .val (.int vg476), .val (.int vg477), .val (.int vg478), .val (.ref b479), .unset, .unset, .unset] [(.ref b504)]))
      refine own_via (fun t k => XS.astore X514.here hx rfl (hb hby at_109) rfl rfl (l' := #[.val (.int p0), .val (.int p1), .val (.int p2), .val (.int (1 : Int32)), .val (.int (3 : Int32)), .val (.ref b468), .val (.int vg476), .val (.int vg477), .val (.int vg478), .val (.ref b479), .val (.ref b504), .unset, .unset]) rfl k) ?_
      show own_G p e below _ (T514.setTop (mkF m 111 #[.val (.int p0), .val (.int p1), .val (.int p2), .val (.int (1 : Int32)), .val (.int (3 : Int32)), .val (.ref b468), .val (.int vg476), .val (.int vg477), .val (.int vg478), .val (.ref b479), .val (.ref b504), .unset, .unset] []))
      refine own_via (fun t k => XS.aload X514.here hx rfl (hb hby at_111) rfl rfl k) ?_
      show own_G p e below _ (T514.setTop (mkF m 113 #[.val (.int p0), .val (.int p1), .val (.int p2), .val (.int (1 : Int32)), .val (.int (3 : Int32)), .val (.ref b468), .val (.int vg476), .val (.int vg477), .val (.int vg478), .val (.ref b479), .val (.ref b504), .unset, .unset] [(.ref b504)]))
      obtain ⟨T521, X521, e521, st521⟩ := own_callVP (y := (⟨"com/example/clementi/clementi/store/KeyRange", "end", "()[B"⟩ : MethodName)) (z := (⟨"com/example/clementi/clementi/store/KeyRange", "end", "()[B"⟩ : MethodName)) (W := 0) (a := b504) X514 hx hZ hown (hw _ (List.mem_of_getElem? (i := 14) rfl)) (hw _ (List.mem_of_getElem? (i := 15) rfl)) (notFace_of_selects (args := #[]) (mvT hZ (hw _ (List.mem_of_getElem? (i := 17) rfl)))) (hw _ (List.mem_of_getElem? (i := 17) rfl)) (hw _ (List.mem_of_getElem? (i := 16) rfl)) (hw _ (List.mem_of_getElem? (i := 3) rfl)) (hw _ (List.mem_of_getElem? (i := 18) rfl)) (by decide) (own_end0 l Z a0 hw [] b504 h514 o514_2) (by decide) (by decide) rfl rfl (by decide) (by decide) e514 o514_0 (pc := 113) (Ls := #[.val (.int p0), .val (.int p1), .val (.int p2), .val (.int (1 : Int32)), .val (.int (3 : Int32)), .val (.ref b468), .val (.int vg476), .val (.int vg477), .val (.int vg478), .val (.ref b479), .val (.ref b504), .unset, .unset]) (st := [(.ref b504)]) (argsL := []) (rest := []) (by rw [hml]; rfl) (lenOf own_pd1 rfl) rfl rfl (Nat.le_of_eq rfl) (hb hby at_113)
      refine own_via st521 ?_
      show own_G p e below _ (T521.setTop (mkF m 116 #[.val (.int p0), .val (.int p1), .val (.int p2), .val (.int (1 : Int32)), .val (.int (3 : Int32)), .val (.ref b468), .val (.int vg476), .val (.int vg477), .val (.int vg478), .val (.ref b479), .val (.ref b504), .unset, .unset] [.null]))
      refine own_via (fun t k => XS.astore X521.here hx rfl (hb hby at_116) rfl rfl (l' := #[.val (.int p0), .val (.int p1), .val (.int p2), .val (.int (1 : Int32)), .val (.int (3 : Int32)), .val (.ref b468), .val (.int vg476), .val (.int vg477), .val (.int vg478), .val (.ref b479), .val (.ref b504), .val .null, .unset]) rfl k) ?_
      show own_G p e below _ (T521.setTop (mkF m 118 #[.val (.int p0), .val (.int p1), .val (.int p2), .val (.int (1 : Int32)), .val (.int (3 : Int32)), .val (.ref b468), .val (.int vg476), .val (.int vg477), .val (.int vg478), .val (.ref b479), .val (.ref b504), .val .null, .unset] []))
      refine own_via (fun t k => XS.iloadN X521.here hx rfl (hb hby at_118) rfl k) ?_
      show own_G p e below _ (T521.setTop (mkF m 119 #[.val (.int p0), .val (.int p1), .val (.int p2), .val (.int (1 : Int32)), .val (.int (3 : Int32)), .val (.ref b468), .val (.int vg476), .val (.int vg477), .val (.int vg478), .val (.ref b479), .val (.ref b504), .val .null, .unset] [(.int (1 : Int32))]))
      refine own_via (fun t k => XS.ifNo X521.here hx rfl (hb hby at_119) rfl ((if0 _ _).trans (feq (by decide : ¬ ((1 : Int32) = (0 : Int32)))).1) k) ?_
      show own_G p e below _ (T521.setTop (mkF m 122 #[.val (.int p0), .val (.int p1), .val (.int p2), .val (.int (1 : Int32)), .val (.int (3 : Int32)), .val (.ref b468), .val (.int vg476), .val (.int vg477), .val (.int vg478), .val (.ref b479), .val (.ref b504), .val .null, .unset] []))
      refine own_via (fun t k => XS.aload X521.here hx rfl (hb hby at_122) rfl rfl k) ?_
      show own_G p e below _ (T521.setTop (mkF m 124 #[.val (.int p0), .val (.int p1), .val (.int p2), .val (.int (1 : Int32)), .val (.int (3 : Int32)), .val (.ref b468), .val (.int vg476), .val (.int vg477), .val (.int vg478), .val (.ref b479), .val (.ref b504), .val .null, .unset] [.null]))
      refine own_via (fun t k => XS.ifnonnullNo X521.here hx rfl (hb hby at_124) rfl k) ?_
      show own_G p e below _ (T521.setTop (mkF m 127 #[.val (.int p0), .val (.int p1), .val (.int p2), .val (.int (1 : Int32)), .val (.int (3 : Int32)), .val (.ref b468), .val (.int vg476), .val (.int vg477), .val (.int vg478), .val (.ref b479), .val (.ref b504), .val .null, .unset] []))
      refine own_via (fun t k => XS.aload X521.here hx rfl (hb hby at_127) rfl rfl k) ?_
      show own_G p e below _ (T521.setTop (mkF m 129 #[.val (.int p0), .val (.int p1), .val (.int p2), .val (.int (1 : Int32)), .val (.int (3 : Int32)), .val (.ref b468), .val (.int vg476), .val (.int vg477), .val (.int vg478), .val (.ref b479), .val (.ref b504), .val .null, .unset] [(.ref b504)]))
      obtain ⟨T522, X522, e522, st522⟩ := own_callVP (y := (⟨"com/example/clementi/clementi/store/KeyRange", "end", "()[B"⟩ : MethodName)) (z := (⟨"com/example/clementi/clementi/store/KeyRange", "end", "()[B"⟩ : MethodName)) (W := 0) (a := b504) X521 hx hZ hown (hw _ (List.mem_of_getElem? (i := 14) rfl)) (hw _ (List.mem_of_getElem? (i := 15) rfl)) (notFace_of_selects (args := #[]) (mvT hZ (hw _ (List.mem_of_getElem? (i := 17) rfl)))) (hw _ (List.mem_of_getElem? (i := 17) rfl)) (hw _ (List.mem_of_getElem? (i := 16) rfl)) (hw _ (List.mem_of_getElem? (i := 3) rfl)) (hw _ (List.mem_of_getElem? (i := 18) rfl)) (by decide) (own_end0 l Z a0 hw [] b504 h514 o514_2) (by decide) (by decide) rfl rfl (by decide) (by decide) e521 o514_0 (pc := 129) (Ls := #[.val (.int p0), .val (.int p1), .val (.int p2), .val (.int (1 : Int32)), .val (.int (3 : Int32)), .val (.ref b468), .val (.int vg476), .val (.int vg477), .val (.int vg478), .val (.ref b479), .val (.ref b504), .val .null, .unset]) (st := [(.ref b504)]) (argsL := []) (rest := []) (by rw [hml]; rfl) (lenOf own_pd1 rfl) rfl rfl (Nat.le_of_eq rfl) (hb hby at_129)
      refine own_via st522 ?_
      show own_G p e below _ (T522.setTop (mkF m 132 #[.val (.int p0), .val (.int p1), .val (.int p2), .val (.int (1 : Int32)), .val (.int (3 : Int32)), .val (.ref b468), .val (.int vg476), .val (.int vg477), .val (.int vg478), .val (.ref b479), .val (.ref b504), .val .null, .unset] [.null]))
      refine own_via (fun t k => XS.ifnonnullNo X522.here hx rfl (hb hby at_132) rfl k) ?_
      show own_G p e below _ (T522.setTop (mkF m 135 #[.val (.int p0), .val (.int p1), .val (.int p2), .val (.int (1 : Int32)), .val (.int (3 : Int32)), .val (.ref b468), .val (.int vg476), .val (.int vg477), .val (.int vg478), .val (.ref b479), .val (.ref b504), .val .null, .unset] []))
      refine own_via (fun t k => XS.iconst X522.here hx rfl (hb hby at_135) k) ?_
      show own_G p e below _ (T522.setTop (mkF m 136 #[.val (.int p0), .val (.int p1), .val (.int p2), .val (.int (1 : Int32)), .val (.int (3 : Int32)), .val (.ref b468), .val (.int vg476), .val (.int vg477), .val (.int vg478), .val (.ref b479), .val (.ref b504), .val .null, .unset] [(.int (1 : Int32))]))
      refine own_via (fun t k => XS.goto X522.here hx rfl (pc0 := 136) (pc' := 140) rfl (hb hby at_136) (by decide) (by decide) k) ?_
      show own_G p e below _ (T522.setTop (mkF m 140 #[.val (.int p0), .val (.int p1), .val (.int p2), .val (.int (1 : Int32)), .val (.int (3 : Int32)), .val (.ref b468), .val (.int vg476), .val (.int vg477), .val (.int vg478), .val (.ref b479), .val (.ref b504), .val .null, .unset] [(.int (1 : Int32))]))
      exact own_retN (t := .boolean) X522 hx Bd.returns (by simp) Bd.notSynchronized (hb hby at_140) ⟨N514, rfl⟩ (by decide) (by decide)
set_option maxRecDepth 65536 in
set_option maxHeartbeats 40000000 in
theorem comes_1 {Post : Tables → Env → Array Value → State → Outcome → State → Prop} (hpost : ∀ tb e args s v u, (limb_1_1.after args s (.returned v) u = true ∧ limb_1_2.after args s (.returned v) u = true) → FrameEnd s (.returned v) u (Jvm.fieldLocs frame_1_writes args s ++ Jvm.arrayLocs frame_1_arrays args s ++ Jvm.staticLocs frame_1_statics s) 24 128 → Post tb e args s (.returned v) u) :
    ArmFor flags0 classFile x code maxLocals ret World_1 tables_1 room_1 Calls_1 rest_1 Pre_1 Post := by
  intro l hfl _ _ p e ha hc hk s m args below hf hA hF happ hP
  obtain ⟨hcalls, hrest, hpre⟩ := hP
  obtain ⟨-, -, -, hnamed, -, -, -, hat⟩ := (Spec.applies_iff hf).mp happ
  obtain ⟨hg, hn⟩ := and_e (Cond.before_iff.mp (show (Jvm.Cond.and given_1 narrow_1).before args s = true from hpre))
  obtain ⟨g1, g2⟩ := and_e hg
  obtain ⟨g3, g4⟩ := and_e g2
  obtain ⟨g5, g6⟩ := and_e g4
  obtain ⟨w0, w1, w2, rfl⟩ : ∃ w0 w1 w2 : Value, args = #[w0, w1, w2] := by
    have hs : args.size = 3 := by simpa [Cond.value, given_1] using g1
    obtain ⟨L⟩ := args
    match L, hs with
    | [w0, w1, w2], _ => exact ⟨w0, w1, w2, rfl⟩
  have hw := fun d (hd : d ∈ tables_1) => atoms_spec (ws := Jvm.Cond.code x code maxLocals ret :: tables_1) hat d (List.mem_cons_of_mem _ hd)
  obtain ⟨i0, ei0⟩ := is_v g3
  obtain rfl : w0 = (.int i0) := Option.some.inj ei0
  obtain ⟨i1, ei1⟩ := is_v g5
  obtain rfl : w1 = (.int i1) := Option.some.inj ei1
  obtain ⟨i2, ei2⟩ := is_v g6
  obtain rfl : w2 = (.int i2) := Option.some.inj ei2
  obtain ⟨n, o, h1, h2, h3, _, L, rfl, ⟨N, rfl⟩, hq⟩ := own_rm0 l s _ hw tables_1 i0 i1 i2 s.heap s.heap.size (Nat.le_refl _)  p e ha hc hk s m _ below hf ((Spec.applies_iff_loose hf).mp happ).1 ⟨rfl, State.Warmed39.refl s, rfl⟩ trivial
  refine ⟨n, _, h1, h2, h3, hpost _ _ _ _ _ _ ⟨Cond.after_iff.mpr rfl, Cond.after_iff.mpr (eq_i res_at (Term.int_eval (1)) rfl)⟩ ⟨hq.1, hq.2.1, (hq.2.2.sift fun y hy => Or.inr (N y hy)).mono (by decide) (by decide)⟩⟩
theorem main_1_1 : Claimed_1_1 := comes_1 fun _ _ _ _ _ _ h hF => ⟨h.1, hF⟩
theorem main_1_2 : Claimed_1_2 := comes_1 fun _ _ _ _ _ _ h hF => ⟨h.2, hF⟩
end Jvm.Pilot.@@N@@
namespace Jvm.Pilot.@@N@@
open Jvm Jvm.ClassFile Sem Op Lib Jvm.Free Jvm.Stand Jvm.Pilot.@@N@@.Jvm.D
/-! MADE BY PROGRAM (witnessworld.py) out of the Statement's table words and the real class files: 9 classes; the members and pool entries that the words name. The judged class is class 1, her method 1. -/
namespace start1
open Jvm.ClassFile
def u (s : String) : CpInfo := .utf8 (stringToUtf16 s)
/-- a pool by its gaps: so many unusable entries, then the entry; so many at the end -/
def gap : Nat → List CpInfo → List CpInfo
  | 0, r => r
  | n + 1, r => .unusable :: gap n r
def poolList (es : List (Nat × CpInfo)) (last : Nat) : List CpInfo := es.foldr (fun e r => gap e.1 (e.2 :: r)) (gap last [])
def pool (es : List (Nat × CpInfo)) (last : Nat) : Array CpInfo := ⟨poolList es last⟩
def fileOf (pool : Array CpInfo) (this : Nat) (attrs : Array Attribute := #[]) (ms : Array MethodInfo := #[]) (fl : Nat := 33) (sup : Nat := 0) (ifs : Array Nat := #[]) (fds : Array FieldInfo := #[]) : ClassFile where
  minorVersion := 0
  majorVersion := 65
  constantPool := pool
  accessFlags := fl
  thisClass := this
  superClass := sup
  interfaces := ifs
  fields := fds
  methods := ms
  attributes := attrs
def plain (name : String) (sup : Option ClassId) : Class where
  name := name
  kind := .ordinary
  loader := none
  accessFlags := 33
  super := sup
  interfaces := #[]
  cf := none
  fields := #[]
  methods := #[]
  instanceTypes := #[]
  staticTypes := #[]
  resolved := #[]
  callSites := []
  init := .initialized
  statics := none
  mirror := none

def pool0 : Array CpInfo := pool [(5, u "<init>"), (0, u "()V"), (1, .class_ 10), (1, u "java/lang/Object"), (85, u "clone"), (0, u "()Ljava/lang/Object;")] 26

def k0c0 : Code := { maxStack := 0, maxLocals := 1, code := object_method_1_code, exceptionTable := #[], attributes := #[] }
def k0m0 : Method := { name := "<init>", desc := "()V", sig := { parameters := [], returnType := none }, accessFlags := 1, code := some k0c0 }
def k0m1 : Method := { name := "clone", desc := "()Ljava/lang/Object;", sig := { parameters := [], returnType := some (.object "java/lang/Object") }, accessFlags := 260, code := none }
/-- java/lang/Object -/
def k0 : Class := { plain "java/lang/Object" none with
  accessFlags := 33
  interfaces := #[]
  cf := some (fileOf pool0 8 #[] #[{ accessFlags := 1, nameIndex := 5, descriptorIndex := 6, attributes := #[] }, { accessFlags := 260, nameIndex := 96, descriptorIndex := 97, attributes := #[] }] 33 0 #[] #[])
  fields := #[]
  methods := #[k0m0, k0m1]
  instanceTypes := #[]
  staticTypes := #[]
  resolved := Array.replicate 124 none
  statics := none }

def pool1 : Array CpInfo := pool [(2, .class_ 4), (1, u "java/lang/Object"), (0, u "<init>"), (0, u "()V"), (0, .class_ 8), (0, u "com/example/clementi/clementi/store/KeyRange"), (0, .methodref 7 10), (0, .nameAndType 5 11), (0, u "([B[B)V"), (0, .methodref 7 13), (0, .nameAndType 14 15), (0, u "end"), (0, u "()[B"), (0, .methodref 17 18), (0, .class_ 19), (0, .nameAndType 20 21), (0, u "com/example/clementi/clementi/store/KeyRangeEndPinLaw"), (0, u "same"), (0, u "([BIBBB)Z"), (2, u "law"), (0, u "(III)Z")] 5

def k1m0 : Method := { name := "<init>", desc := "()V", sig := { parameters := [], returnType := none }, accessFlags := 1, code := none }
def k1c1 : Code := { maxStack := 5, maxLocals := 13, code := code, exceptionTable := #[], attributes := #[] }
def k1m1 : Method := { name := "law", desc := "(III)Z", sig := { parameters := [.int, .int, .int], returnType := some .boolean }, accessFlags := 9, code := some k1c1 }
def k1c2 : Code := { maxStack := 2, maxLocals := 5, code := method_3_code, exceptionTable := #[], attributes := #[] }
def k1m2 : Method := { name := "same", desc := "([BIBBB)Z", sig := { parameters := [(.array .byte), .int, .byte, .byte, .byte], returnType := some .boolean }, accessFlags := 10, code := some k1c2 }
/-- com/example/clementi/clementi/store/KeyRangeEndPinLaw -/
def k1 : Class := { plain "com/example/clementi/clementi/store/KeyRangeEndPinLaw" (some 0) with
  accessFlags := 49
  interfaces := #[]
  cf := some (fileOf pool1 17 #[] #[{ accessFlags := 1, nameIndex := 5, descriptorIndex := 6, attributes := #[] }, { accessFlags := 9, nameIndex := 24, descriptorIndex := 25, attributes := #[] }, { accessFlags := 10, nameIndex := 20, descriptorIndex := 21, attributes := #[] }] 49 2 #[] #[])
  fields := #[]
  methods := #[k1m0, k1m1, k1m2]
  instanceTypes := #[]
  staticTypes := #[]
  resolved := Array.replicate 31 none
  statics := none }

def pool2 : Array CpInfo := pool [(1, .methodref 2 3), (0, .class_ 4), (0, .nameAndType 5 6), (0, u "java/lang/Object"), (0, u "<init>"), (0, u "()V"), (0, .fieldref 8 9), (0, .class_ 10), (0, .nameAndType 11 12), (0, u "com/example/clementi/clementi/store/KeyRange"), (0, u "prefix"), (0, u "[B"), (0, .fieldref 8 14), (0, .nameAndType 15 12), (0, u "end"), (6, .methodref 23 24), (0, .class_ 12), (0, .nameAndType 25 26), (0, u "clone"), (0, u "()Ljava/lang/Object;"), (5, u "()[B"), (32, u "FIRST_LABEL_BYTE"), (0, u "I"), (2, u "([B[B)V")] 11

def k2c0 : Code := { maxStack := 2, maxLocals := 3, code := prog_36_method_1_code, exceptionTable := #[], attributes := #[] }
def k2m0 : Method := { name := "<init>", desc := "([B[B)V", sig := { parameters := [(.array .byte), (.array .byte)], returnType := none }, accessFlags := 0, code := some k2c0 }
def k2c1 : Code := { maxStack := 1, maxLocals := 1, code := prog_36_method_3_code, exceptionTable := #[], attributes := #[] }
def k2m1 : Method := { name := "end", desc := "()[B", sig := { parameters := [], returnType := some (.array .byte) }, accessFlags := 0, code := some k2c1 }
/-- com/example/clementi/clementi/store/KeyRange -/
def k2 : Class := { plain "com/example/clementi/clementi/store/KeyRange" (some 0) with
  accessFlags := 32
  interfaces := #[]
  cf := some (fileOf pool2 8 #[] #[{ accessFlags := 0, nameIndex := 5, descriptorIndex := 69, attributes := #[] }, { accessFlags := 0, nameIndex := 15, descriptorIndex := 32, attributes := #[] }] 32 2 #[] #[{ accessFlags := 24, nameIndex := 65, descriptorIndex := 66, attributes := #[] }, { accessFlags := 18, nameIndex := 11, descriptorIndex := 12, attributes := #[] }, { accessFlags := 18, nameIndex := 15, descriptorIndex := 12, attributes := #[] }])
  fields := #[{ name := "FIRST_LABEL_BYTE", type := .int, accessFlags := 24, slot := 0, constantValue := 0 }, { name := "prefix", type := (.array .byte), accessFlags := 18, slot := 0, constantValue := 0 }, { name := "end", type := (.array .byte), accessFlags := 18, slot := 1, constantValue := 0 }]
  methods := #[k2m0, k2m1]
  instanceTypes := #[(.array .byte), (.array .byte)]
  staticTypes := #[.int]
  resolved := Array.replicate 81 none
  statics := none }

def pool3 : Array CpInfo := pool [(1, .class_ 2), (0, u "java/lang/Cloneable"), (0, .class_ 4), (0, u "java/lang/Object")] 2

/-- java/lang/Cloneable -/
def k3 : Class := { plain "java/lang/Cloneable" (some 0) with
  accessFlags := 1537
  interfaces := #[]
  cf := some (fileOf pool3 1 #[] #[] 1537 3 #[] #[])
  fields := #[]
  methods := #[]
  instanceTypes := #[]
  staticTypes := #[]
  resolved := Array.replicate 7 none
  statics := none }

def pool4 : Array CpInfo := pool [(1, u "java/io/Serializable"), (0, .class_ 1), (0, u "java/lang/Object"), (0, .class_ 3)] 3

/-- java/io/Serializable -/
def k4 : Class := { plain "java/io/Serializable" (some 0) with
  accessFlags := 1537
  interfaces := #[]
  cf := some (fileOf pool4 2 #[] #[] 1537 4 #[] #[])
  fields := #[]
  methods := #[]
  instanceTypes := #[]
  staticTypes := #[]
  resolved := Array.replicate 8 none
  statics := none }

/-- the primitive byte -/
def k5 : Class := { plain "byte" none with kind := .primitive 'B', accessFlags := 0x411 }
/-- [B -/
def k6 : Class := { plain "[B" (some 0) with kind := .array 5 .byte, interfaces := #[3, 4], accessFlags := 1041 }

/-- the primitive int -/
def k7 : Class := { plain "int" none with kind := .primitive 'I', accessFlags := 0x411 }
/-- [I -/
def k8 : Class := { plain "[I" (some 0) with kind := .array 7 .int, interfaces := #[3, 4], accessFlags := 1041 }

def heap : Heap := #[]
def classes : Array Class := #[k0, k1, k2, k3, k4, k5, k6, k7, k8]
def interned : List (Array UInt16 × Addr) := []
def slotsUsed : Nat := 0
def theMethod : MethodId := ⟨1, 1⟩
def args0 : Array Value := #[.int 5, .int 300, .int 7]
def aboutOver (below : List Frame) : State where
  vm := { classes := classes, interned := interned.toArray }
  heap := heap
  slotsUsed := slotsUsed
  threads := #[{ frames := .invoking theMethod args0 :: below }]
def below0 : List Frame := [.native { method := ⟨0, 0⟩, args := #[] }]
def about1 : State := aboutOver below0
def p0 : Program := .bare "" "" ""
def e0 : Env := launch0.env 0 0 0
theorem w_frames : about1.frames = Frame.invoking theMethod args0 :: below0 := rfl
set_option maxRecDepth 65536 in
theorem w_args : argsFit about1.vm theMethod args0 = true := by decide +kernel
set_option maxRecDepth 65536 in
theorem w_heap : heapFits about1 = true := by decide +kernel
set_option maxRecDepth 65536 in
theorem w_runnable : about1.curStatus? = some .runnable := by decide +kernel
set_option maxRecDepth 65536 in
theorem w_alone : about1.alone = true := by decide +kernel
set_option maxRecDepth 65536 in
theorem w_named : about1.methodNamed? x = some theMethod := by decide +kernel
set_option maxRecDepth 65536 in
theorem w_hears : about1.hears theMethod below0 = true := by decide +kernel
set_option maxRecDepth 65536 in
theorem w_ripe : about1.ripe theMethod args0 below0 = true := by decide +kernel
theorem w_running : about1.status = .running := rfl
set_option maxRecDepth 65536 in
theorem w_room : about1.hasRoom e0.platform room_1 = true :=
  launch0.hasRoom_least _ room_1 (by decide +kernel) (by decide +kernel) (by decide +kernel) (by decide +kernel) (by decide +kernel) (by decide +kernel)
theorem allAtoms_all (ts : List Jvm.Cond) (a : Array Jvm.Value) (st : Jvm.State) : (allAtoms ts).before a st = ts.all (fun c => c.before a st) := by
  induction ts with
  | nil => rfl
  | cons c t ih =>
    show (Jvm.Cond.and c (allAtoms t)).before a st = _
    rw [Jvm.Cond.before_and, ih, List.all_cons]
def words1 : List Jvm.Cond := Jvm.Cond.code x code maxLocals ret :: tables_1
/-- a 'code' word, met by the world's own term for the bytes: nothing is compared byte by byte -/
theorem code_word {y : MethodName} {bytes : ByteArray} {mx : Nat} {rt : Option FieldType} {a : Array Value} {s : State} {m : MethodId} {meth : Method} {c : Code} (h1 : s.methodNamed? y = some m) (h2 : s.vm.method? m = some meth) (h3 : meth.code = some c) (h4 : c.code = bytes)
    (h5 : (c.maxLocals == mx && c.exceptionTable.isEmpty && decide (c.maxStack ≤ mostOperands) && decide (meth.sig.returnType = rt) && !meth.locks && decide (parseMethodDescriptor y.desc = some meth.sig)) = true) : (Jvm.Cond.code y bytes mx rt).before a s = true := by
  simp only [Bool.and_eq_true, beq_iff_eq, Bool.not_eq_true', decide_eq_true_eq] at h5
  obtain ⟨⟨⟨⟨⟨g1, g2⟩, g3⟩, g4⟩, g5⟩, g6⟩ := h5
  simp [Cond.before, Cond.holds, Cond.value, h1, h2, h3, h4, g1, g2, g3, g4, g5, g6]
def isCode : Jvm.Cond → Bool
  | .code _ _ _ _ => true
  | _ => false
theorem all_split {L : List Jvm.Cond} {P : Jvm.Cond → Bool} (h1 : L.all (fun c => isCode c || P c) = true) (h2 : ∀ c ∈ L.filter isCode, P c = true) : L.all P = true := by
  refine List.all_eq_true.mpr fun c hc => ?_
  have h := List.all_eq_true.mp h1 c hc
  rcases Bool.eq_false_or_eq_true (isCode c) with hi | hi
  · exact h2 c (List.mem_filter.mpr ⟨hc, hi⟩)
  · simpa [hi] using h
set_option maxRecDepth 65536 in
theorem w_c0 : (Jvm.Cond.code x code maxLocals ret).before args0 about1 = true := code_word (m := ⟨1, 1⟩) (meth := k1m1) (c := k1c1) (by decide +kernel) rfl rfl rfl (by decide +kernel)
set_option maxRecDepth 65536 in
theorem w_c1 : (Jvm.Cond.code ({ cls := "com/example/clementi/clementi/store/KeyRange", name := "<init>", desc := "([B[B)V" } : Jvm.MethodName) prog_36_method_1_code (3 : Nat) (Option.none : Option Jvm.ClassFile.FieldType)).before args0 about1 = true := code_word (m := ⟨2, 0⟩) (meth := k2m0) (c := k2c0) (by decide +kernel) rfl rfl rfl (by decide +kernel)
set_option maxRecDepth 65536 in
theorem w_c2 : (Jvm.Cond.code ({ cls := "java/lang/Object", name := "<init>", desc := "()V" } : Jvm.MethodName) object_method_1_code (1 : Nat) (Option.none : Option Jvm.ClassFile.FieldType)).before args0 about1 = true := code_word (m := ⟨0, 0⟩) (meth := k0m0) (c := k0c0) (by decide +kernel) rfl rfl rfl (by decide +kernel)
set_option maxRecDepth 65536 in
theorem w_c3 : (Jvm.Cond.code ({ cls := "com/example/clementi/clementi/store/KeyRange", name := "end", desc := "()[B" } : Jvm.MethodName) prog_36_method_3_code (1 : Nat) (Option.some (Jvm.ClassFile.FieldType.array Jvm.ClassFile.FieldType.byte))).before args0 about1 = true := code_word (m := ⟨2, 1⟩) (meth := k2m1) (c := k2c1) (by decide +kernel) rfl rfl rfl (by decide +kernel)
set_option maxRecDepth 65536 in
theorem w_c4 : (Jvm.Cond.code ({ cls := "com/example/clementi/clementi/store/KeyRangeEndPinLaw", name := "same", desc := "([BIBBB)Z" } : Jvm.MethodName) method_3_code (5 : Nat) (Option.some Jvm.ClassFile.FieldType.boolean)).before args0 about1 = true := code_word (m := ⟨1, 2⟩) (meth := k1m2) (c := k1c2) (by decide +kernel) rfl rfl rfl (by decide +kernel)
def codes1 : List Jvm.Cond := [Jvm.Cond.code x code maxLocals ret, Jvm.Cond.code ({ cls := "com/example/clementi/clementi/store/KeyRange", name := "<init>", desc := "([B[B)V" } : Jvm.MethodName) prog_36_method_1_code (3 : Nat) (Option.none : Option Jvm.ClassFile.FieldType), Jvm.Cond.code ({ cls := "java/lang/Object", name := "<init>", desc := "()V" } : Jvm.MethodName) object_method_1_code (1 : Nat) (Option.none : Option Jvm.ClassFile.FieldType), Jvm.Cond.code ({ cls := "com/example/clementi/clementi/store/KeyRange", name := "end", desc := "()[B" } : Jvm.MethodName) prog_36_method_3_code (1 : Nat) (Option.some (Jvm.ClassFile.FieldType.array Jvm.ClassFile.FieldType.byte)), Jvm.Cond.code ({ cls := "com/example/clementi/clementi/store/KeyRangeEndPinLaw", name := "same", desc := "([BIBBB)Z" } : Jvm.MethodName) method_3_code (5 : Nat) (Option.some Jvm.ClassFile.FieldType.boolean)]
set_option maxRecDepth 65536 in
theorem codes_eq : words1.filter isCode = codes1 := rfl
theorem w_codes : ∀ c ∈ words1.filter isCode, c.before args0 about1 = true := by
  rw [codes_eq]
  intro c hc
  simp only [codes1, List.mem_cons, List.not_mem_nil, or_false] at hc
  rcases hc with rfl | rfl | rfl | rfl | rfl
  · exact w_c0
  · exact w_c1
  · exact w_c2
  · exact w_c3
  · exact w_c4
set_option maxRecDepth 65536 in
theorem w_t1 : (words1.take 24).all (fun c => isCode c || c.before args0 about1) = true := by decide +kernel
set_option maxRecDepth 65536 in
theorem w_t2 : (words1.drop 24).all (fun c => isCode c || c.before args0 about1) = true := by decide +kernel
theorem w_tables : (allAtoms (Jvm.Cond.code x code maxLocals ret :: tables_1)).before args0 about1 = true := by
  rw [allAtoms_all]
  show words1.all (fun c => c.before args0 about1) = true
  refine all_split ?_ w_codes
  rw [← List.take_append_drop 24 words1, List.all_append, w_t1, w_t2]
  rfl
set_option maxRecDepth 65536 in
theorem w_case : (Jvm.Cond.and given_1 narrow_1).before args0 about1 = true := by decide +kernel
theorem w_applies : (headSpec (Jvm.Cond.code x code maxLocals ret :: tables_1) room_1).applies x e0.platform about1 = true :=
  (Spec.applies_iff w_frames).mpr ⟨w_running, w_runnable, w_alone, w_named, w_hears, w_ripe, w_room, w_tables⟩
theorem atStart : AtStart classFile x code maxLocals ret World_1 tables_1 room_1 Calls_1 rest_1 Pre_1 launch0 p0 e0 about1 theMethod args0 below0 :=
  ⟨lists_1, trivial, launch0.admits_env _ _ _, launch0.least_env, fairChoices_fair.cas, fairChoices_fair.clock, w_frames, w_args, w_heap, w_applies, trivial, trivial, w_case⟩
end start1
theorem witness_1 : WitnessClaimed_1 := ⟨start1.p0, start1.e0, start1.about1, start1.theMethod, start1.args0, start1.below0, start1.atStart⟩
end Jvm.Pilot.@@N@@
