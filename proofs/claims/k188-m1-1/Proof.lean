import JvmDerived
import JvmDerived.Pilot.@@N@@Statement
import JvmDerived.Pilot.@@N@@Code
set_option linter.unusedVariables false
set_option linter.unusedSimpArgs false
set_option maxRecDepth 65536
set_option maxHeartbeats 20000000
namespace Jvm.Pilot.@@N@@
open Jvm Jvm.ClassFile Sem Op Lib Jvm.Free Jvm.Stand Jvm.LawKit Jvm.RoadKit Bundle Jvm.Pilot.@@N@@.Jvm.D
section OwnKit
variable {p : Program} {l : Launch} {e : Env} {R : Room} {s : State} {m : MethodId} {args : Array Value} {below : List Frame} {meth : Method} {c : Code} {T : State} {locs : List Loc} {cells slots : Nat} {Z : State} {a0 : Array Value} {h0 : Heap}
/-- from this state the run comes to the end of the invocation, and there P holds -/
def own_G (p : Program) (e : Env) (below : List Frame) (P : Outcome → State → Prop) (st : State) : Prop :=
  ∃ (u : State) (o : Outcome), Steps p.tables e below st u ∧ u.status = .running ∧ Ended u below o ∧ P o u
theorem own_via {P : Outcome → State → Prop} {st st' : State} (k : ∀ t, Steps p.tables e below st' t → Steps p.tables e below st t) (h : own_G p e below P st') : own_G p e below P st := by
  obtain ⟨u, o, h1, h2⟩ := h
  exact ⟨u, o, k _ h1, h2⟩
/-- what a contract says of the end -/
def own_P (s : State) (Q : Option Value → Heap → List Loc → Prop) (k n : Nat) : Outcome → State → Prop := fun o u => ∃ v L, o = .returned v ∧ Q v u.heap L ∧ FrameEnd s o u L k n
/-- it returns w and leaves the heap as it was -/
def own_Q (w : Value) (h0 : Heap) : Option Value → Heap → List Loc → Prop := fun v h L => v = some w ∧ L = [] ∧ h = h0
/-- a contract -/
def own_C (l : Launch) (Z : State) (y : MethodName) (bytes : ByteArray) (maxL : Nat) (ret : Option FieldType) (ws : List Jvm.Cond) (rm : Room) (as : Array Value) (h0 : Heap) (Q : Option Value → Heap → List Loc → Prop) : Prop :=
  MetFree l y (head1 (Jvm.Cond.code y bytes maxL ret :: ws) rm) (fun a U => a = as ∧ Z.Warmed39 U.vm ∧ U.heap = h0) (fun _ _ _ _ _ => True) (fun _ U o U' => ∃ v L, o = .returned v ∧ Q v U'.heap L ∧ FrameEnd U o U' L rm.cells rm.slots)
theorem own_ret {v : Option Value} {Q : Option Value → Heap → List Loc → Prop} {k n : Nat} {st : State} (X : Stand p l e R s m args below meth c T locs cells slots) (hv : meth.sig.returnType = none → v = none) (hlocks : meth.locks = false)
    (hst : ∀ fs, (∀ (f : JFrame) (acts : List Action), f.method = m → f.locked = none → f.entered = [] → (doReturn e (T.setTop f) acts v).1 = T.setFrames fs) → Steps p.tables e below st (T.setFrames fs))
    (hQ : Q v T.heap locs) (hk : cells ≤ k) (hn : slots ≤ n) : own_G p e below (own_P s Q k n) st := by
  obtain ⟨fs, hr, hrun, hended, hW, hsame⟩ := X.leave (v := v) hv hlocks
  exact ⟨_, _, hst fs hr, hrun, hended, _, _, rfl, hQ, ⟨_, rfl⟩, hW, hsame.mono hk hn⟩
theorem own_retI {Q : Option Value → Heap → List Loc → Prop} {k n : Nat} (X : Stand p l e R s m args below meth c T locs cells slots) (hx : p.tables.exec = Jvm.exec) {pc : Nat} {Ls : Array Slot} {z : Int32} {rest : List Value} (hret : meth.sig.returnType = some .int) (hlocks : meth.locks = false) (hd : decode c.code pc = .ok (.ireturn, 1))
    (hQ : Q (some (.int z)) T.heap locs) (hk : cells ≤ k) (hn : slots ≤ n) : own_G p e below (own_P s Q k n) (T.setTop (mkF m pc Ls (.int z :: rest))) := by
  refine own_ret X (fun h => by rw [hret] at h; cases h) hlocks (fun fs hr => ?_) hQ hk hn
  have hm' : T.vm.method? m = some meth := X.method'
  have hn : narrow .int (.int z) = .int z := rfl
  show Steps p.tables e below (T.setTop { method := m, pc := pc, locals := Ls, stack := _ :: rest, locked := none }) _
  jvm_step X.here [X.here.top, hx, hd, hm', hret, hn]
  first | (intro acts; rw [hr _ acts rfl rfl rfl]) | rw [hr _ _ rfl rfl rfl]
  exact Steps.refl _
theorem own_retN {Q : Option Value → Heap → List Loc → Prop} {k n : Nat} {t : FieldType} (X : Stand p l e R s m args below meth c T locs cells slots) (hx : p.tables.exec = Jvm.exec) {pc : Nat} {Ls : Array Slot} {z : Int32} {rest : List Value} (hret : meth.sig.returnType = some t) (ht : t = .boolean ∨ t = .byte ∨ t = .char ∨ t = .short) (hlocks : meth.locks = false) (hd : decode c.code pc = .ok (.ireturn, 1))
    (hQ : Q (some (.int (nar t z))) T.heap locs) (hk : cells ≤ k) (hn : slots ≤ n) : own_G p e below (own_P s Q k n) (T.setTop (mkF m pc Ls (.int z :: rest))) :=
  own_ret X (fun h => by rw [hret] at h; cases h) hlocks (fun fs hr => retN X hx hret ht hd hr) hQ hk hn
theorem own_retL {Q : Option Value → Heap → List Loc → Prop} {k n : Nat} (X : Stand p l e R s m args below meth c T locs cells slots) (hx : p.tables.exec = Jvm.exec) {pc : Nat} {Ls : Array Slot} {z : Int64} (hret : meth.sig.returnType = some .long) (hlocks : meth.locks = false) (hd : decode c.code pc = .ok (.lreturn, 1))
    (hQ : Q (some (.long z)) T.heap locs) (hk : cells ≤ k) (hn : slots ≤ n) : own_G p e below (own_P s Q k n) (T.setTop (mkF m pc Ls [.long z])) :=
  own_ret X (fun h => by rw [hret] at h; cases h) hlocks (fun fs hr => X.lreturnOut hx hret hd hr) hQ hk hn
theorem own_retV {Q : Option Value → Heap → List Loc → Prop} {k n : Nat} (X : Stand p l e R s m args below meth c T locs cells slots) (hx : p.tables.exec = Jvm.exec) {pc : Nat} {Ls : Array Slot} (hret : meth.sig.returnType = none) (hlocks : meth.locks = false) (hd : decode c.code pc = .ok (.return_, 1))
    (hQ : Q none T.heap locs) (hk : cells ≤ k) (hn : slots ≤ n) : own_G p e below (own_P s Q k n) (T.setTop (mkF m pc Ls [])) :=
  own_ret X (fun _ => rfl) hlocks (fun fs hr => X.returnOut hx hret hd hr) hQ hk hn
theorem own_retA {Q : Option Value → Heap → List Loc → Prop} {k n : Nat} {t : FieldType} {v : Value} (X : Stand p l e R s m args below meth c T locs cells slots) (hx : p.tables.exec = Jvm.exec) {pc : Nat} {Ls : Array Slot} {rest : List Value} (hret : meth.sig.returnType = some t) (ht : t.isReference = true) (hv : v.isRef = true) (hlocks : meth.locks = false) (hd : decode c.code pc = .ok (.areturn, 1))
    (hQ : Q (some v) T.heap locs) (hk : cells ≤ k) (hn : slots ≤ n) : own_G p e below (own_P s Q k n) (T.setTop (mkF m pc Ls (v :: rest))) := by
  refine own_ret X (fun h => by rw [hret] at h; cases h) hlocks (fun fs hr => ?_) hQ hk hn
  have hm' : T.vm.method? m = some meth := X.method'
  show Steps p.tables e below (T.setTop { method := m, pc := pc, locals := Ls, stack := _ :: rest, locked := none }) _
  jvm_step X.here [X.here.top, hx, hd, hm', hret, ht, hv]
  first | (intro acts; rw [hr _ acts rfl rfl rfl]) | rw [hr _ _ rfl rfl rfl]
  exact Steps.refl _
/-- a static method by its contract -/
theorem own_callS {own : String} {index : Nat} {y : MethodName} {bytes : ByteArray} {maxL W : Nat} {ret : Option FieldType} {rm : Room} {as : Array Value} {Q : Option Value → Heap → List Loc → Prop}
    (X : Stand p l e R s m args below meth c T locs cells slots) (hx : p.tables.exec = Jvm.exec) (hZ : Z.Warmed39 s.vm) (hown : s.vm.findClass own = some m.cls)
    (w1 : (Jvm.Cond.methodLink own index y).before a0 Z = true) (w2 : (Jvm.Cond.static y).before a0 Z = true) (w3 : (Jvm.Cond.initialized y.cls).before a0 Z = true) (w4 : (Jvm.Cond.code y bytes maxL ret).before a0 Z = true)
    (hy : y.cls ≠ "java/lang/invoke/MethodHandle" ∧ y.cls ≠ "java/lang/invoke/VarHandle") (hM : own_C l Z y bytes maxL ret [] rm as h0 Q)
    (hf : rm.frames + 1 ≤ R.frames) (hl : W + (maxL + 11) + rm.locals ≤ R.locals) (hcc : cells + rm.cells ≤ R.cells) (hss : slots + rm.slots ≤ R.slots) (e0 : T.heap = h0)
    {pc : Nat} {Ls : Array Slot} {st argsL rest : List Value} (hsize : Ls.size = c.maxLocals) (hlen : ∀ sig, parseMethodDescriptor y.desc = some sig → argsL.length = sig.parameters.length) (has : argsL.toArray = as)
    (hst : st = argsL.reverse ++ rest) (hW : 2 * 0 + (rest.map fun v => v.category).sum ≤ W) (hd : decode c.code pc = .ok (.invokestatic index, 3)) :
    ∃ (v : Option Value) (T' : State) (L : List Loc), Stand p l e R s m args below meth c T' (locs ++ L) (cells + rm.cells) (slots + rm.slots) ∧ Q v T'.heap L ∧
      ∀ target, Steps p.tables e below (T'.setTop (mkF m (pc + 3) Ls (v.toList ++ rest))) target → Steps p.tables e below (T.setTop (mkF m pc Ls st)) target := by
  obtain ⟨v, _, ⟨T', L', k', n'⟩, -, X', ⟨Lc, hQ, h1, h2, h3⟩, stp⟩ := Jvm.LawKit.callS X hx (y := y) hown (mvT hZ w1) (mvT hZ w2) (mvT hZ w3) (mvT hZ w4) hy
    (backOf (W := W) hM hZ w4 w3 hf hl) (g := mkF m pc Ls st) rfl hsize (argsL := argsL) (rest := rest) hlen hst hW hd (fun _ _ => ⟨has, e0, hcc, hss⟩)
  dsimp only [Pt.U, Pt.locs, Pt.cells, Pt.slots] at X' h1 h2 h3 stp hQ
  subst h1 h2 h3
  exact ⟨v, T', Lc, X', hQ, stp⟩
/-- a static method that leaves the heap as it was -/
theorem own_callP {own : String} {index : Nat} {y : MethodName} {bytes : ByteArray} {maxL W : Nat} {ret : Option FieldType} {rm : Room} {as : Array Value} {w : Value}
    (X : Stand p l e R s m args below meth c T locs cells slots) (hx : p.tables.exec = Jvm.exec) (hZ : Z.Warmed39 s.vm) (hown : s.vm.findClass own = some m.cls)
    (w1 : (Jvm.Cond.methodLink own index y).before a0 Z = true) (w2 : (Jvm.Cond.static y).before a0 Z = true) (w3 : (Jvm.Cond.initialized y.cls).before a0 Z = true) (w4 : (Jvm.Cond.code y bytes maxL ret).before a0 Z = true)
    (hy : y.cls ≠ "java/lang/invoke/MethodHandle" ∧ y.cls ≠ "java/lang/invoke/VarHandle") (hM : own_C l Z y bytes maxL ret [] rm as h0 (own_Q w h0))
    (hf : rm.frames + 1 ≤ R.frames) (hl : W + (maxL + 11) + rm.locals ≤ R.locals) (hrc : rm.cells = 0) (hrs : rm.slots = 0) (hcc : cells + rm.cells ≤ R.cells) (hss : slots + rm.slots ≤ R.slots) (e0 : T.heap = h0)
    {pc : Nat} {Ls : Array Slot} {st argsL rest : List Value} (hsize : Ls.size = c.maxLocals) (hlen : ∀ sig, parseMethodDescriptor y.desc = some sig → argsL.length = sig.parameters.length) (has : argsL.toArray = as)
    (hst : st = argsL.reverse ++ rest) (hW : 2 * 0 + (rest.map fun v => v.category).sum ≤ W) (hd : decode c.code pc = .ok (.invokestatic index, 3)) :
    ∃ (T' : State), Stand p l e R s m args below meth c T' locs cells slots ∧ T'.heap = h0 ∧
      ∀ target, Steps p.tables e below (T'.setTop (mkF m (pc + 3) Ls (w :: rest))) target → Steps p.tables e below (T.setTop (mkF m pc Ls st)) target := by
  obtain ⟨v, T', L, X', ⟨rfl, rfl, hh⟩, stp⟩ := own_callS X hx hZ hown w1 w2 w3 w4 hy hM hf hl hcc hss e0 hsize hlen has hst hW hd
  rw [List.append_nil, hrc, hrs] at X'
  exact ⟨T', X', hh, stp⟩
theorem own_b1 {x a : Int32} (h : x < a) : x.toInt ≤ a.toInt - 1 := by rw [Int32.lt_iff_toInt_lt] at h; omega
theorem own_b2 {x a : Int32} (h : ¬ x < a) : a.toInt ≤ x.toInt := by rw [Int32.lt_iff_toInt_lt] at h; omega
theorem own_b3 {x a : Int32} (h : a < x) : a.toInt + 1 ≤ x.toInt := by rw [Int32.lt_iff_toInt_lt] at h; omega
theorem own_b4 {x a : Int32} (h : ¬ a < x) : x.toInt ≤ a.toInt := by rw [Int32.lt_iff_toInt_lt] at h; omega
theorem own_b5 {x b : Int32} {k : Int} (h : x.toInt ≤ k) (q : k < b.toInt) : x < b := by rw [Int32.lt_iff_toInt_lt]; omega
theorem own_b6 {x b : Int32} {k : Int} (h : k ≤ x.toInt) (q : b.toInt ≤ k) : ¬ x < b := by rw [Int32.lt_iff_toInt_lt]; omega
theorem own_b7 {x b : Int32} {k : Int} (h : k ≤ x.toInt) (q : b.toInt < k) : b < x := by rw [Int32.lt_iff_toInt_lt]; omega
theorem own_b8 {x b : Int32} {k : Int} (h : x.toInt ≤ k) (q : k ≤ b.toInt) : ¬ b < x := by rw [Int32.lt_iff_toInt_lt]; omega
theorem own_b9 {x b : Int32} {k : Int} (h : x.toInt ≤ k) (q : k < b.toInt) : ¬ x = b := fun e => by subst e; omega
theorem own_b10 {x b : Int32} {k : Int} (h : k ≤ x.toInt) (q : b.toInt < k) : ¬ x = b := fun e => by subst e; omega
theorem own_of_eq {x a : Int32} {P : Int32 → Prop} (h : x = a) (q : P a) : P x := h ▸ q
end OwnKit
section OwnHeap
variable {p : Program} {l : Launch} {e : Env} {R : Room} {s : State} {m : MethodId} {args : Array Value} {below : List Frame} {meth : Method} {c : Code} {T : State} {locs : List Loc} {cells slots : Nat} {Z : State} {a0 : Array Value} {h0 h : Heap} {n0 : Nat}
/-- the writes lie at or above n0, and q says the rest -/
def own_W (n0 : Nat) (q : Option Value → Heap → Prop) : Option Value → Heap → List Loc → Prop := fun v h L => Fr n0 L ∧ q v h
theorem own_newA (X : Stand p l e R s m args below meth c T locs cells slots) (hx : p.tables.exec = Jvm.exec) (hZ : Z.Warmed39 s.vm) {aty : ArrayType} (w : (Jvm.Cond.arrayClass (newarray.typeOf aty)).before a0 Z = true) (eT : T.heap = h) {pc : Nat} {Ls : Array Slot} (hd : decode c.code pc = .ok (.newarray aty, 2)) {n : Int32} {rest : List Value}
    (hn : ¬ n < 0) {cap : Nat} (hcap : n.toNatClampNeg ≤ cap) (hb : cap * 8 ≤ 536870912) (hc : cells + 1 ≤ R.cells) (hl : slots + cap ≤ R.slots) (len : Nat) {ad : String} (had : "[" ++ (newarray.typeOf aty).toString = ad) :
    ∃ T' h' k a, Stand p l e R s m args below meth c T' locs (cells + 1) (slots + cap) ∧ T'.heap = h' ∧ Ext h h' ∧ a = h.size ∧ Arv Z h' a k (newarray.typeOf aty) n (List.replicate len (defaultValue (newarray.typeOf aty))) (defaultValue (newarray.typeOf aty)) ∧ Exa Z h' a ad ∧
      ∀ target, Steps p.tables e below (T'.setTop (mkF m (pc + 2) Ls (.ref a :: rest))) target → Steps p.tables e below (T.setTop (mkF m pc Ls (.int n :: rest))) target := by
  obtain ⟨T', h', k, X', e', E, A, Ex, st⟩ := newPE X hx hZ w eT (g := mkF m pc Ls (.int n :: rest)) rfl hd rfl hn hcap hb hc hl had
  exact ⟨T', h', k, h.size, X', e', E, rfl, (Arv.new A hn).pad (fun i => by have := pad_rep [] (defaultValue (newarray.typeOf aty)) len i; rwa [List.nil_append] at this), Ex, st⟩
theorem own_stB (X : Stand p l e R s m args below meth c T locs cells slots) (N : Fr n0 locs) (hx : p.tables.exec = Jvm.exec) (hZ : Z.Warmed39 s.vm) (eT : T.heap = h) {a : Addr} {k : ClassId} {z : Int32} {vs : List Value} {d : Value} (V : Arv Z h a k .byte z vs d) (ga : n0 ≤ a) {j x : Int32} {i : Nat} (hj : ¬ j < 0 ∧ j < z) (hi : j.toNatClampNeg = i) (hl : i < vs.length)
    {pc : Nat} {Ls : Array Slot} {rest : List Value} (hd : decode c.code pc = .ok (.bastore, 1)) :
    ∃ T' h' L', Stand p l e R s m args below meth c T' L' cells slots ∧ Fr n0 L' ∧ T'.heap = h' ∧ Wr h h' a i (.int x.toInt8.toInt32) ∧ Arv Z h' a k .byte z (vs.set i (.int x.toInt8.toInt32)) d ∧
      ∀ target, Steps p.tables e below (T'.setTop (mkF m (pc + 1) Ls rest)) target → Steps p.tables e below (T.setTop (mkF m pc Ls (.int x :: .int j :: .ref a :: rest))) target := by
  obtain ⟨cl, Ar, q, S, Nn, H, G⟩ := V
  obtain ⟨T', h', X', e', W, st⟩ := stB X hx hZ eT Ar (j := j) (x := x) (inb_of S hj) (g := mkF m pc Ls (.int x :: .int j :: .ref a :: rest)) rfl rfl hd
  subst hi
  exact ⟨T', h', _, X', Fr.snoc X' N ga, e', W, Arv.set Ar q S Nn H G (fits_nar_byte x) W _ rfl hl, st⟩
theorem own_stI (X : Stand p l e R s m args below meth c T locs cells slots) (N : Fr n0 locs) (hx : p.tables.exec = Jvm.exec) (hZ : Z.Warmed39 s.vm) (eT : T.heap = h) {a : Addr} {k : ClassId} {z : Int32} {vs : List Value} {d : Value} (V : Arv Z h a k .int z vs d) (ga : n0 ≤ a) {j x : Int32} {i : Nat} (hj : ¬ j < 0 ∧ j < z) (hi : j.toNatClampNeg = i) (hl : i < vs.length)
    {pc : Nat} {Ls : Array Slot} {rest : List Value} (hd : decode c.code pc = .ok (.iastore, 1)) :
    ∃ T' h' L', Stand p l e R s m args below meth c T' L' cells slots ∧ Fr n0 L' ∧ T'.heap = h' ∧ Wr h h' a i (.int x) ∧ Arv Z h' a k .int z (vs.set i (.int x)) d ∧
      ∀ target, Steps p.tables e below (T'.setTop (mkF m (pc + 1) Ls rest)) target → Steps p.tables e below (T.setTop (mkF m pc Ls (.int x :: .int j :: .ref a :: rest))) target := by
  obtain ⟨cl, Ar, q, S, Nn, H, G⟩ := V
  obtain ⟨T', h', X', e', W, st⟩ := stI X hx hZ eT Ar (j := j) (x := x) (inb_of S hj) (g := mkF m pc Ls (.int x :: .int j :: .ref a :: rest)) rfl rfl hd
  subst hi
  exact ⟨T', h', _, X', Fr.snoc X' N ga, e', W, Arv.set Ar q S Nn H G rfl W _ rfl hl, st⟩
theorem own_stC (X : Stand p l e R s m args below meth c T locs cells slots) (N : Fr n0 locs) (hx : p.tables.exec = Jvm.exec) (hZ : Z.Warmed39 s.vm) (eT : T.heap = h) {a : Addr} {k : ClassId} {z : Int32} {vs : List Value} {d : Value} (V : Arv Z h a k .char z vs d) (ga : n0 ≤ a) {j x : Int32} {i : Nat} (hj : ¬ j < 0 ∧ j < z) (hi : j.toNatClampNeg = i) (hl : i < vs.length)
    {pc : Nat} {Ls : Array Slot} {rest : List Value} (hd : decode c.code pc = .ok (.castore, 1)) :
    ∃ T' h' L', Stand p l e R s m args below meth c T' L' cells slots ∧ Fr n0 L' ∧ T'.heap = h' ∧ Wr h h' a i (.int (nar .char x)) ∧ Arv Z h' a k .char z (vs.set i (.int (nar .char x))) d ∧
      ∀ target, Steps p.tables e below (T'.setTop (mkF m (pc + 1) Ls rest)) target → Steps p.tables e below (T.setTop (mkF m pc Ls (.int x :: .int j :: .ref a :: rest))) target := by
  obtain ⟨cl, Ar, q, S, Nn, H, G⟩ := V
  obtain ⟨T', h', X', e', W, st⟩ := stC X hx hZ eT Ar (j := j) (x := x) (inb_of S hj) (g := mkF m pc Ls (.int x :: .int j :: .ref a :: rest)) rfl rfl hd
  subst hi
  exact ⟨T', h', _, X', Fr.snoc X' N ga, e', W, Arv.set Ar q S Nn H G (fits_nar_char x) W _ rfl hl, st⟩
theorem own_ldB (X : Stand p l e R s m args below meth c T locs cells slots) (hx : p.tables.exec = Jvm.exec) (hZ : Z.Warmed39 s.vm) (eT : T.heap = h) {a : Addr} {k : ClassId} {z : Int32} {vs : List Value} {d v : Value} (V : Arv Z h a k .byte z vs d) {j : Int32} (hj : ¬ j < 0 ∧ j < z) (hv : vs.getD j.toNatClampNeg d = v)
    {pc : Nat} {Ls : Array Slot} {rest : List Value} (hd : decode c.code pc = .ok (.baload, 1)) (target : State) (hr : Steps p.tables e below (T.setTop (mkF m (pc + 1) Ls (v :: rest))) target) : Steps p.tables e below (T.setTop (mkF m pc Ls (.int j :: .ref a :: rest))) target := by
  obtain ⟨cl, Ar, q, S, Nn, H, G⟩ := V
  have hin := inb_of S hj
  refine X.baloadBytes hx (j := j) (v := v) (by rw [eT]; exact Ar.1) (State.isArrayOf_alike hZ.alike Ar.2.1) Ar.2.2 hin ?_ (g := mkF m pc Ls (.int j :: .ref a :: rest)) rfl rfl hd _ hr
  rw [H _ (Nat.lt_of_not_le fun q => hin (Or.inr q)), hv]
theorem own_ldI (X : Stand p l e R s m args below meth c T locs cells slots) (hx : p.tables.exec = Jvm.exec) (hZ : Z.Warmed39 s.vm) (eT : T.heap = h) {a : Addr} {k : ClassId} {z : Int32} {vs : List Value} {d v : Value} (V : Arv Z h a k .int z vs d) {j : Int32} (hj : ¬ j < 0 ∧ j < z) (hv : vs.getD j.toNatClampNeg d = v)
    {pc : Nat} {Ls : Array Slot} {rest : List Value} (hd : decode c.code pc = .ok (.iaload, 1)) (target : State) (hr : Steps p.tables e below (T.setTop (mkF m (pc + 1) Ls (v :: rest))) target) : Steps p.tables e below (T.setTop (mkF m pc Ls (.int j :: .ref a :: rest))) target := by
  obtain ⟨cl, Ar, q, S, Nn, H, G⟩ := V
  have hin := inb_of S hj
  refine X.iaload hx (j := j) (v := v) (by rw [eT]; exact Ar.1) (State.isArrayOf_alike hZ.alike Ar.2.1) Ar.2.2 hin ?_ (g := mkF m pc Ls (.int j :: .ref a :: rest)) rfl rfl hd _ hr
  rw [H _ (Nat.lt_of_not_le fun q => hin (Or.inr q)), hv]
theorem own_ldC (X : Stand p l e R s m args below meth c T locs cells slots) (hx : p.tables.exec = Jvm.exec) (hZ : Z.Warmed39 s.vm) (eT : T.heap = h) {a : Addr} {k : ClassId} {z : Int32} {vs : List Value} {d v : Value} (V : Arv Z h a k .char z vs d) {j : Int32} (hj : ¬ j < 0 ∧ j < z) (hv : vs.getD j.toNatClampNeg d = v)
    {pc : Nat} {Ls : Array Slot} {rest : List Value} (hd : decode c.code pc = .ok (.caload, 1)) (target : State) (hr : Steps p.tables e below (T.setTop (mkF m (pc + 1) Ls (v :: rest))) target) : Steps p.tables e below (T.setTop (mkF m pc Ls (.int j :: .ref a :: rest))) target := by
  obtain ⟨cl, Ar, q, S, Nn, H, G⟩ := V
  have hin := inb_of S hj
  refine X.caload hx (j := j) (v := v) (by rw [eT]; exact Ar.1) (State.isArrayOf_alike hZ.alike Ar.2.1) Ar.2.2 hin ?_ (g := mkF m pc Ls (.int j :: .ref a :: rest)) rfl rfl hd _ hr
  rw [H _ (Nat.lt_of_not_le fun q => hin (Or.inr q)), hv]
theorem own_len (X : Stand p l e R s m args below meth c T locs cells slots) (hx : p.tables.exec = Jvm.exec) (hZ : Z.Warmed39 s.vm) (eT : T.heap = h) {a : Addr} {k : ClassId} {ty : FieldType} {z : Int32} {vs : List Value} {d : Value} (V : Arv Z h a k ty z vs d)
    {pc : Nat} {Ls : Array Slot} {rest : List Value} (hd : decode c.code pc = .ok (.arraylength, 1)) (target : State) (hr : Steps p.tables e below (T.setTop (mkF m (pc + 1) Ls (.int z :: rest))) target) : Steps p.tables e below (T.setTop (mkF m pc Ls (.ref a :: rest))) target := by
  obtain ⟨cl, Ar, q, S, Nn, H, G⟩ := V
  refine X.arraylength hx (by rw [eT]; exact Ar.1) (State.isArrayOf_alike hZ.alike Ar.2.1) (g := mkF m pc Ls (.ref a :: rest)) rfl rfl hd _ ?_
  rw [len_of S Nn]
  exact hr
/-- an array cloned -/
theorem own_clone (X : Stand p l e R s m args below meth c T locs cells slots) (hx : p.tables.exec = Jvm.exec) (hZ : Z.Warmed39 s.vm) {own ad : String} {index : Nat} (hown : s.vm.findClass own = some m.cls)
    (w1 : (Jvm.Cond.methodLink own index ⟨ad, "clone", "()Ljava/lang/Object;"⟩).before a0 Z = true) (w2 : (Jvm.Cond.sameMethod ad "java/lang/Object" "clone" "()Ljava/lang/Object;").before a0 Z = true) (w3 : (Jvm.Cond.native ⟨"java/lang/Object", "clone", "()Ljava/lang/Object;"⟩).before a0 Z = true)
    (w4 : (Jvm.Cond.instanceMethod ⟨"java/lang/Object", "clone", "()Ljava/lang/Object;"⟩).before a0 Z = true) (w5 : (Jvm.Cond.selects ad ⟨ad, "clone", "()Ljava/lang/Object;"⟩ ⟨"java/lang/Object", "clone", "()Ljava/lang/Object;"⟩).before a0 Z = true) (w6 : (Jvm.Cond.castable ad "java/lang/Cloneable").before a0 Z = true)
    (eT : T.heap = h) {a : Addr} {k : ClassId} {ty : FieldType} {z : Int32} {vs : List Value} {dv : Value} (F : Arv Z h a k ty z vs dv) (E : Exa Z h a ad) {pc : Nat} {Ls : Array Slot} {rest : List Value} (hsize : Ls.size = c.maxLocals) (hd : decode c.code pc = .ok (.invokevirtual index, 3))
    (hf : 1 ≤ R.frames) {W cap : Nat} (hW : 2 * 0 + (rest.map fun v => v.category).sum ≤ W) (hl : W + 14 ≤ R.locals) (hcap : z.toNatClampNeg ≤ cap) (hc : cells + 1 ≤ R.cells) (hsl : slots + cap ≤ R.slots) :
    ∃ T' h' b, Stand p l e R s m args below meth c T' locs (cells + 1) (slots + cap) ∧ T'.heap = h' ∧ Ext h h' ∧ b = h.size ∧ Arv Z h' b k ty z vs dv ∧ Exa Z h' b ad ∧
      ∀ target, Steps p.tables e below (T'.setTop (mkF m (pc + 3) Ls (.ref b :: rest))) target → Steps p.tables e below (T.setTop (mkF m pc Ls (.ref a :: rest))) target := by
  obtain ⟨T', h', X', e', ex, V, E', st⟩ := cloneH X hx hZ hown w1 w2 w3 w4 w5 w6 eT F.arh E (g := mkF m pc Ls (.ref a :: rest)) rfl hsize rfl hd hf hW hl hcap hc hsl
  exact ⟨T', h', h.size, X', e', ex, rfl, V, E', st⟩
/-- a field written -/
theorem own_putF (X : Stand p l e R s m args below meth c T locs cells slots) (N : Fr n0 locs) (hx : p.tables.exec = Jvm.exec) (hZ : Z.Warmed39 s.vm) {own O n d C : String} {index kk : Nat} {ty : FieldType} (hown : s.vm.findClass own = some m.cls) (w : (Jvm.Cond.fieldLink own index O n d).before a0 Z = true)
    (eT : T.heap = h) {a : Addr} {v old : Value} (F : Fld Z h a O n d old) (E : Exa Z h a C) (L : (Jvm.Cond.lays C O n d).before a0 Z = true ∨ ((Jvm.Cond.laysFinal C O n d).before a0 Z = true ∧ own = O ∧ meth.name = "<init>")) (wi : (Jvm.Cond.instantiable C kk).before a0 Z = true) (ga : n0 ≤ a)
    (hty : parseFieldDescriptor d = some ty) (hn : narrow ty v = v) (hf : fits ty v = true) {pc : Nat} {Ls : Array Slot} {rest : List Value} (hd : decode c.code pc = .ok (.putfield index, 3)) :
    ∃ T' h' L', Stand p l e R s m args below meth c T' L' cells slots ∧ Fr n0 L' ∧ T'.heap = h' ∧ Wr h h' a (Jvm.RoadKit.slotOf Z O n d) v ∧ Fld Z h' a O n d v ∧
      ∀ target, Steps p.tables e below (T'.setTop (mkF m (pc + 3) Ls rest)) target → Steps p.tables e below (T.setTop (mkF m pc Ls (v :: .ref a :: rest))) target := by
  obtain ⟨T', h', X', e', W, st⟩ := putF X hx hZ hown (host := "") (Or.inl w) Via.refl eT F E L wi hty hn hf (g := mkF m pc Ls (v :: .ref a :: rest)) rfl rfl hd
  exact ⟨T', h', _, X', Fr.snoc X' N ga, e', W, F.same W, st⟩
theorem own_putFN (X : Stand p l e R s m args below meth c T locs cells slots) (N : Fr n0 locs) (hx : p.tables.exec = Jvm.exec) (hZ : Z.Warmed39 s.vm) {own O n d C : String} {index kk : Nat} {ty : FieldType} (hown : s.vm.findClass own = some m.cls) (w : (Jvm.Cond.fieldLink own index O n d).before a0 Z = true)
    (eT : T.heap = h) {a : Addr} {v v' old : Value} (F : Fld Z h a O n d old) (E : Exa Z h a C) (L : (Jvm.Cond.lays C O n d).before a0 Z = true ∨ ((Jvm.Cond.laysFinal C O n d).before a0 Z = true ∧ own = O ∧ meth.name = "<init>")) (wi : (Jvm.Cond.instantiable C kk).before a0 Z = true) (ga : n0 ≤ a)
    (hty : parseFieldDescriptor d = some ty) (hn : narrow ty v = v') (hf : fits ty v' = true) {pc : Nat} {Ls : Array Slot} {rest : List Value} (hd : decode c.code pc = .ok (.putfield index, 3)) :
    ∃ T' h' L', Stand p l e R s m args below meth c T' L' cells slots ∧ Fr n0 L' ∧ T'.heap = h' ∧ Wr h h' a (Jvm.RoadKit.slotOf Z O n d) v' ∧ Fld Z h' a O n d v' ∧
      ∀ target, Steps p.tables e below (T'.setTop (mkF m (pc + 3) Ls rest)) target → Steps p.tables e below (T.setTop (mkF m pc Ls (v :: .ref a :: rest))) target := by
  obtain ⟨T', h', X', e', W, st⟩ := putFN X hx hZ hown w Via.refl eT F E L wi hty hn hf (g := mkF m pc Ls (v :: .ref a :: rest)) rfl rfl hd
  exact ⟨T', h', _, X', Fr.snoc X' N ga, e', W, F.same W, st⟩
/-- new -/
theorem own_newO (X : Stand p l e R s m args below meth c T locs cells slots) (hx : p.tables.exec = Jvm.exec) (hZ : Z.Warmed39 s.vm) {own C : String} {index n : Nat} (hown : s.vm.findClass own = some m.cls) (w : (Jvm.Cond.classLink own index C).before a0 Z = true) (wi : (Jvm.Cond.instantiable C n).before a0 Z = true) (wz : (Jvm.Cond.initialized C).before a0 Z = true) (eT : T.heap = h)
    {pc : Nat} {Ls : Array Slot} {rest : List Value} (hd : decode c.code pc = .ok (.new index, 3)) (hc : cells + 1 ≤ R.cells) (hl : slots + n ≤ R.slots) :
    ∃ T' h' a, Stand p l e R s m args below meth c T' locs (cells + 1) (slots + n) ∧ T'.heap = h' ∧ Ext h h' ∧ a = h.size ∧ Exa Z h' a C ∧ (∀ {O nm d : String} {ty : FieldType}, Laid Z a0 C O nm d → parseFieldDescriptor d = some ty → Fld Z h' a O nm d (defaultValue ty)) ∧
      ∀ target, Steps p.tables e below (T'.setTop (mkF m (pc + 3) Ls (.ref a :: rest))) target → Steps p.tables e below (T.setTop (mkF m pc Ls rest)) target := by
  obtain ⟨T', h', X', e', E, A, D, -, st⟩ := newO X hx hZ hown w wi wz eT (g := mkF m pc Ls rest) rfl hd hc hl
  exact ⟨T', h', h.size, X', e', E, rfl, A, D, st⟩
/-- a static method that may write and make -/
theorem own_callSW {own : String} {index : Nat} {y : MethodName} {bytes : ByteArray} {maxL W : Nat} {ret : Option FieldType} {rm : Room} {as : Array Value} {q : Option Value → Heap → Prop}
    (X : Stand p l e R s m args below meth c T locs cells slots) (N : Fr n0 locs) (hx : p.tables.exec = Jvm.exec) (hZ : Z.Warmed39 s.vm) (hown : s.vm.findClass own = some m.cls)
    (w1 : (Jvm.Cond.methodLink own index y).before a0 Z = true) (w2 : (Jvm.Cond.static y).before a0 Z = true) (w3 : (Jvm.Cond.initialized y.cls).before a0 Z = true) (w4 : (Jvm.Cond.code y bytes maxL ret).before a0 Z = true)
    (hy : y.cls ≠ "java/lang/invoke/MethodHandle" ∧ y.cls ≠ "java/lang/invoke/VarHandle") (hM : own_C l Z y bytes maxL ret [] rm as h (own_W n0 q))
    (hf : rm.frames + 1 ≤ R.frames) (hl : W + (maxL + 11) + rm.locals ≤ R.locals) (hcc : cells + rm.cells ≤ R.cells) (hss : slots + rm.slots ≤ R.slots) (e0 : T.heap = h)
    {pc : Nat} {Ls : Array Slot} {st argsL rest : List Value} (hsize : Ls.size = c.maxLocals) (hlen : ∀ sig, parseMethodDescriptor y.desc = some sig → argsL.length = sig.parameters.length) (has : argsL.toArray = as)
    (hst : st = argsL.reverse ++ rest) (hW : 2 * 0 + (rest.map fun v => v.category).sum ≤ W) (hd : decode c.code pc = .ok (.invokestatic index, 3)) :
    ∃ (v : Option Value) (T' : State) (h' : Heap) (L' : List Loc), Stand p l e R s m args below meth c T' L' (cells + rm.cells) (slots + rm.slots) ∧ Fr n0 L' ∧ T'.heap = h' ∧ q v h' ∧
      ∀ target, Steps p.tables e below (T'.setTop (mkF m (pc + 3) Ls (v.toList ++ rest))) target → Steps p.tables e below (T.setTop (mkF m pc Ls st)) target := by
  obtain ⟨v, T', L, X', ⟨N', hq⟩, stp⟩ := own_callS X hx hZ hown w1 w2 w3 w4 hy hM hf hl hcc hss e0 hsize hlen has hst hW hd
  exact ⟨v, T', _, _, X', N.app N', rfl, hq, stp⟩
/-- a constructor by its contract -/
theorem own_callI {own : String} {index : Nat} {y : MethodName} {bytes : ByteArray} {maxL W : Nat} {rm : Room} {as : Array Value} {q : Option Value → Heap → Prop} {a : Addr}
    (X : Stand p l e R s m args below meth c T locs cells slots) (N : Fr n0 locs) (hx : p.tables.exec = Jvm.exec) (hZ : Z.Warmed39 s.vm) (hy1 : y.name = "<init>") (hown : s.vm.findClass own = some m.cls)
    (w1 : (Jvm.Cond.methodLink own index y).before a0 Z = true) (w2 : (Jvm.Cond.instanceMethod y).before a0 Z = true) (w3 : (Jvm.Cond.initialized y.cls).before a0 Z = true) (w4 : (Jvm.Cond.code y bytes maxL none).before a0 Z = true)
    (hy : y.cls ≠ "java/lang/invoke/MethodHandle" ∧ y.cls ≠ "java/lang/invoke/VarHandle") (hM : own_C l Z y bytes maxL none [] rm as h (own_W n0 q))
    (hf : rm.frames + 1 ≤ R.frames) (hl : W + (maxL + 11) + rm.locals ≤ R.locals) (hcc : cells + rm.cells ≤ R.cells) (hss : slots + rm.slots ≤ R.slots) (e0 : T.heap = h)
    {pc : Nat} {Ls : Array Slot} {st argsL rest : List Value} (hsize : Ls.size = c.maxLocals) (hlen : ∀ sig, parseMethodDescriptor y.desc = some sig → argsL.length = sig.parameters.length) (has : (Value.ref a :: argsL).toArray = as)
    (hst : st = argsL.reverse ++ .ref a :: rest) (hW : 2 * 0 + (rest.map fun v => v.category).sum ≤ W) (hd : decode c.code pc = .ok (.invokespecial index, 3)) :
    ∃ (v : Option Value) (T' : State) (h' : Heap) (L' : List Loc), Stand p l e R s m args below meth c T' L' (cells + rm.cells) (slots + rm.slots) ∧ Fr n0 L' ∧ T'.heap = h' ∧ q v h' ∧
      ∀ target, Steps p.tables e below (T'.setTop (mkF m (pc + 3) Ls (v.toList ++ rest))) target → Steps p.tables e below (T.setTop (mkF m pc Ls st)) target := by
  obtain ⟨v, _, ⟨T', L', k', n'⟩, -, X', ⟨Lc, ⟨N', hq⟩, h1, h2, h3⟩, stp⟩ := X.specialBack hx (y := y) hy1 hown (mvT hZ w1) (mvT hZ w2) (mvT hZ w4) hy
    (backOf (W := W) hM hZ w4 w3 hf hl) (g := mkF m pc Ls st) rfl hsize (Steps.refl _) (a := a) (argsL := argsL) (rest := rest) hlen hst hW hd (fun _ _ => ⟨has, e0, hcc, hss⟩)
  dsimp only [Pt.U, Pt.locs, Pt.cells, Pt.slots] at X' h1 h2 h3 stp hq
  subst h1 h2 h3
  exact ⟨v, T', _, _, X', N.app N', rfl, hq, fun t k => stp.trans k⟩
/-- an instance method by its contract -/
theorem own_callV {own C : String} {index : Nat} {y z : MethodName} {bytes : ByteArray} {maxL W : Nat} {ret : Option FieldType} {rm : Room} {as : Array Value} {q : Option Value → Heap → Prop} {a : Addr}
    (X : Stand p l e R s m args below meth c T locs cells slots) (N : Fr n0 locs) (hx : p.tables.exec = Jvm.exec) (hZ : Z.Warmed39 s.vm) (hown : s.vm.findClass own = some m.cls)
    (w1 : (Jvm.Cond.methodLink own index y).before a0 Z = true) (w2 : (Jvm.Cond.declares y).before a0 Z = true) (hnf : NotFace s y) (ws : (Jvm.Cond.selects C y z).before a0 Z = true) (wi : (Jvm.Cond.instanceMethod z).before a0 Z = true) (w3 : (Jvm.Cond.initialized z.cls).before a0 Z = true) (w4 : (Jvm.Cond.code z bytes maxL ret).before a0 Z = true)
    (hy : y.cls ≠ "java/lang/invoke/MethodHandle" ∧ y.cls ≠ "java/lang/invoke/VarHandle") (hM : own_C l Z z bytes maxL ret [] rm as h (own_W n0 q))
    (hf : rm.frames + 1 ≤ R.frames) (hl : W + (maxL + 11) + rm.locals ≤ R.locals) (hcc : cells + rm.cells ≤ R.cells) (hss : slots + rm.slots ≤ R.slots) (e0 : T.heap = h) (E : Exa Z h a C)
    {pc : Nat} {Ls : Array Slot} {st argsL rest : List Value} (hsize : Ls.size = c.maxLocals) (hlen : ∀ sig, parseMethodDescriptor y.desc = some sig → argsL.length = sig.parameters.length) (has : (Value.ref a :: argsL).toArray = as)
    (hst : st = argsL.reverse ++ .ref a :: rest) (hW : 2 * 0 + (rest.map fun v => v.category).sum ≤ W) (hd : decode c.code pc = .ok (.invokevirtual index, 3)) :
    ∃ (v : Option Value) (T' : State) (h' : Heap) (L' : List Loc), Stand p l e R s m args below meth c T' L' (cells + rm.cells) (slots + rm.slots) ∧ Fr n0 L' ∧ T'.heap = h' ∧ q v h' ∧
      ∀ target, Steps p.tables e below (T'.setTop (mkF m (pc + 3) Ls (v.toList ++ rest))) target → Steps p.tables e below (T.setTop (mkF m pc Ls st)) target := by
  obtain ⟨cq, kq, qa, qb, qc⟩ := isOf hZ e0 E
  obtain ⟨v, _, ⟨T', L', k', n'⟩, -, X', ⟨Lc, ⟨N', hq⟩, h1, h2, h3⟩, stp⟩ := X.virtualBack hx (y := y) (z := z) hown (mvT hZ w1) (mvT hZ w2) hnf (mvT hZ ws) (mvT hZ wi) hy
    (backOf (W := W) hM hZ w4 w3 hf hl) qa qc (g := mkF m pc Ls st) rfl hsize (Steps.refl _) (argsL := argsL) (rest := rest) hlen hst hW hd (fun _ _ => ⟨has, e0, hcc, hss⟩)
  dsimp only [Pt.U, Pt.locs, Pt.cells, Pt.slots] at X' h1 h2 h3 stp hq
  subst h1 h2 h3
  exact ⟨v, T', _, _, X', N.app N', rfl, hq, fun t k => stp.trans k⟩
/-- an instance method that leaves the heap as it was -/
theorem own_callVP {own C : String} {index : Nat} {y z : MethodName} {bytes : ByteArray} {maxL W : Nat} {ret : Option FieldType} {rm : Room} {as : Array Value} {w : Value} {a : Addr}
    (X : Stand p l e R s m args below meth c T locs cells slots) (hx : p.tables.exec = Jvm.exec) (hZ : Z.Warmed39 s.vm) (hown : s.vm.findClass own = some m.cls)
    (w1 : (Jvm.Cond.methodLink own index y).before a0 Z = true) (w2 : (Jvm.Cond.declares y).before a0 Z = true) (hnf : NotFace s y) (ws : (Jvm.Cond.selects C y z).before a0 Z = true) (wi : (Jvm.Cond.instanceMethod z).before a0 Z = true) (w3 : (Jvm.Cond.initialized z.cls).before a0 Z = true) (w4 : (Jvm.Cond.code z bytes maxL ret).before a0 Z = true)
    (hy : y.cls ≠ "java/lang/invoke/MethodHandle" ∧ y.cls ≠ "java/lang/invoke/VarHandle") (hM : own_C l Z z bytes maxL ret [] rm as h (own_Q w h))
    (hf : rm.frames + 1 ≤ R.frames) (hl : W + (maxL + 11) + rm.locals ≤ R.locals) (hrc : rm.cells = 0) (hrs : rm.slots = 0) (hcc : cells + rm.cells ≤ R.cells) (hss : slots + rm.slots ≤ R.slots) (e0 : T.heap = h) (E : Exa Z h a C)
    {pc : Nat} {Ls : Array Slot} {st argsL rest : List Value} (hsize : Ls.size = c.maxLocals) (hlen : ∀ sig, parseMethodDescriptor y.desc = some sig → argsL.length = sig.parameters.length) (has : (Value.ref a :: argsL).toArray = as)
    (hst : st = argsL.reverse ++ .ref a :: rest) (hW : 2 * 0 + (rest.map fun v => v.category).sum ≤ W) (hd : decode c.code pc = .ok (.invokevirtual index, 3)) :
    ∃ (T' : State), Stand p l e R s m args below meth c T' locs cells slots ∧ T'.heap = h ∧
      ∀ target, Steps p.tables e below (T'.setTop (mkF m (pc + 3) Ls (w :: rest))) target → Steps p.tables e below (T.setTop (mkF m pc Ls st)) target := by
  obtain ⟨cq, kq, qa, qb, qc⟩ := isOf hZ e0 E
  obtain ⟨v, _, ⟨T', L', k', n'⟩, -, X', ⟨Lc, ⟨rfl, rfl, hh⟩, h1, h2, h3⟩, stp⟩ := X.virtualBack hx (y := y) (z := z) hown (mvT hZ w1) (mvT hZ w2) hnf (mvT hZ ws) (mvT hZ wi) hy
    (backOf (W := W) hM hZ w4 w3 hf hl) qa qc (g := mkF m pc Ls st) rfl hsize (Steps.refl _) (argsL := argsL) (rest := rest) hlen hst hW hd (fun _ _ => ⟨has, e0, hcc, hss⟩)
  dsimp only [Pt.U, Pt.locs, Pt.cells, Pt.slots] at X' h1 h2 h3 stp hh
  subst h1 h2 h3
  rw [List.append_nil, hrc, hrs] at X'
  exact ⟨T', X', hh, fun t k => stp.trans k⟩
theorem own_ke {h h' : Heap} (K : Keep h h' []) : Ext h h' := ⟨K.1, fun a c q => K.2.1 a c q (by simp)⟩
theorem own_ldA (X : Stand p l e R s m args below meth c T locs cells slots) (hx : p.tables.exec = Jvm.exec) (hZ : Z.Warmed39 s.vm) (eT : T.heap = h) {a : Addr} {k : ClassId} {ty : FieldType} {z : Int32} {vs : List Value} {d v : Value} (V : Arv Z h a k ty z vs d) (hty : ty.isReference = true) {j : Int32} (hj : ¬ j < 0 ∧ j < z) (hv : vs.getD j.toNatClampNeg d = v)
    {pc : Nat} {Ls : Array Slot} {rest : List Value} (hd : decode c.code pc = .ok (.aaload, 1)) (target : State) (hr : Steps p.tables e below (T.setTop (mkF m (pc + 1) Ls (v :: rest))) target) : Steps p.tables e below (T.setTop (mkF m pc Ls (.int j :: .ref a :: rest))) target := by
  obtain ⟨cl, Ar, q, S, Nn, H, G⟩ := V
  have hin := inb_of S hj
  refine X.aaload hx (j := j) (v := v) (by rw [eT]; exact Ar.1) (State.isArrayOf_alike hZ.alike Ar.2.1) hty Ar.2.2 hin ?_ (g := mkF m pc Ls (.int j :: .ref a :: rest)) rfl rfl hd _ hr
  rw [H _ (Nat.lt_of_not_le fun q => hin (Or.inr q)), hv]
end OwnHeap
theorem own_pd0 : parseMethodDescriptor "([BII)I" = some ⟨[(.array .byte), .int, .int], some .int⟩ := by decide +kernel
theorem own_pd1 : parseMethodDescriptor "(IIIII)I" = some ⟨[.int, .int, .int, .int, .int], some .int⟩ := by decide +kernel
theorem own_and1 (x : Int32) : x &&& 1 = 0 ∨ x &&& 1 = 1 := by
  have h := c_mask x 1 1 (by decide) (by decide)
  simp only [← Int32.toInt_inj, show (0 : Int32).toInt = 0 from rfl, show (1 : Int32).toInt = 1 from rfl]
  omega
theorem own_d2_0 : decode method_3_code 0 = .ok (.iload_n 0, 1) := by decide +kernel
theorem own_d2_1 : decode method_3_code 1 = .ok (.sipush 192, 3) := by decide +kernel
theorem own_d2_4 : decode method_3_code 4 = .ok (.if_icmp .ge 5, 3) := by decide +kernel
theorem own_d2_7 : decode method_3_code 7 = .ok (.iconst (-1), 1) := by decide +kernel
theorem own_d2_8 : decode method_3_code 8 = .ok (.ireturn, 1) := by decide +kernel
theorem own_d2_9 : decode method_3_code 9 = .ok (.iload_n 0, 1) := by decide +kernel
theorem own_d2_10 : decode method_3_code 10 = .ok (.sipush 224, 3) := by decide +kernel
theorem own_d2_13 : decode method_3_code 13 = .ok (.if_icmp .ge 15, 3) := by decide +kernel
theorem own_d2_16 : decode method_3_code 16 = .ok (.iconst 2, 1) := by decide +kernel
theorem own_d2_17 : decode method_3_code 17 = .ok (.istore 5, 2) := by decide +kernel
theorem own_d2_19 : decode method_3_code 19 = .ok (.iload_n 0, 1) := by decide +kernel
theorem own_d2_20 : decode method_3_code 20 = .ok (.bipush 31, 2) := by decide +kernel
theorem own_d2_22 : decode method_3_code 22 = .ok (.iand, 1) := by decide +kernel
theorem own_d2_23 : decode method_3_code 23 = .ok (.istore 6, 2) := by decide +kernel
theorem own_d2_25 : decode method_3_code 25 = .ok (.goto 43, 3) := by decide +kernel
theorem own_d2_28 : decode method_3_code 28 = .ok (.iload_n 0, 1) := by decide +kernel
theorem own_d2_29 : decode method_3_code 29 = .ok (.sipush 240, 3) := by decide +kernel
theorem own_d2_32 : decode method_3_code 32 = .ok (.if_icmp .ge 15, 3) := by decide +kernel
theorem own_d2_35 : decode method_3_code 35 = .ok (.iconst 3, 1) := by decide +kernel
theorem own_d2_36 : decode method_3_code 36 = .ok (.istore 5, 2) := by decide +kernel
theorem own_d2_38 : decode method_3_code 38 = .ok (.iload_n 0, 1) := by decide +kernel
theorem own_d2_39 : decode method_3_code 39 = .ok (.bipush 15, 2) := by decide +kernel
theorem own_d2_41 : decode method_3_code 41 = .ok (.iand, 1) := by decide +kernel
theorem own_d2_42 : decode method_3_code 42 = .ok (.istore 6, 2) := by decide +kernel
theorem own_d2_44 : decode method_3_code 44 = .ok (.goto 24, 3) := by decide +kernel
theorem own_d2_47 : decode method_3_code 47 = .ok (.iload_n 0, 1) := by decide +kernel
theorem own_d2_48 : decode method_3_code 48 = .ok (.sipush 248, 3) := by decide +kernel
theorem own_d2_51 : decode method_3_code 51 = .ok (.if_icmp .ge 15, 3) := by decide +kernel
theorem own_d2_54 : decode method_3_code 54 = .ok (.iconst 4, 1) := by decide +kernel
theorem own_d2_55 : decode method_3_code 55 = .ok (.istore 5, 2) := by decide +kernel
theorem own_d2_57 : decode method_3_code 57 = .ok (.iload_n 0, 1) := by decide +kernel
theorem own_d2_58 : decode method_3_code 58 = .ok (.bipush 7, 2) := by decide +kernel
theorem own_d2_60 : decode method_3_code 60 = .ok (.iand, 1) := by decide +kernel
theorem own_d2_61 : decode method_3_code 61 = .ok (.istore 6, 2) := by decide +kernel
theorem own_d2_63 : decode method_3_code 63 = .ok (.goto 5, 3) := by decide +kernel
theorem own_d2_66 : decode method_3_code 66 = .ok (.iconst (-1), 1) := by decide +kernel
theorem own_d2_67 : decode method_3_code 67 = .ok (.ireturn, 1) := by decide +kernel
theorem own_d2_68 : decode method_3_code 68 = .ok (.iload 4, 2) := by decide +kernel
theorem own_d2_70 : decode method_3_code 70 = .ok (.iload 5, 2) := by decide +kernel
theorem own_d2_72 : decode method_3_code 72 = .ok (.if_icmp .ge 5, 3) := by decide +kernel
theorem own_d2_75 : decode method_3_code 75 = .ok (.iconst (-1), 1) := by decide +kernel
theorem own_d2_76 : decode method_3_code 76 = .ok (.ireturn, 1) := by decide +kernel
theorem own_d2_77 : decode method_3_code 77 = .ok (.iload_n 1, 1) := by decide +kernel
theorem own_d2_78 : decode method_3_code 78 = .ok (.sipush 192, 3) := by decide +kernel
theorem own_d2_81 : decode method_3_code 81 = .ok (.iand, 1) := by decide +kernel
theorem own_d2_82 : decode method_3_code 82 = .ok (.sipush 128, 3) := by decide +kernel
theorem own_d2_85 : decode method_3_code 85 = .ok (.if_icmp .eq 5, 3) := by decide +kernel
theorem own_d2_88 : decode method_3_code 88 = .ok (.iconst (-1), 1) := by decide +kernel
theorem own_d2_89 : decode method_3_code 89 = .ok (.ireturn, 1) := by decide +kernel
theorem own_d2_90 : decode method_3_code 90 = .ok (.iload 6, 2) := by decide +kernel
theorem own_d2_92 : decode method_3_code 92 = .ok (.bipush 6, 2) := by decide +kernel
theorem own_d2_94 : decode method_3_code 94 = .ok (.ishl, 1) := by decide +kernel
theorem own_d2_95 : decode method_3_code 95 = .ok (.iload_n 1, 1) := by decide +kernel
theorem own_d2_96 : decode method_3_code 96 = .ok (.bipush 63, 2) := by decide +kernel
theorem own_d2_98 : decode method_3_code 98 = .ok (.iand, 1) := by decide +kernel
theorem own_d2_99 : decode method_3_code 99 = .ok (.ior, 1) := by decide +kernel
theorem own_d2_100 : decode method_3_code 100 = .ok (.istore 6, 2) := by decide +kernel
theorem own_d2_102 : decode method_3_code 102 = .ok (.iload 5, 2) := by decide +kernel
theorem own_d2_104 : decode method_3_code 104 = .ok (.iconst 3, 1) := by decide +kernel
theorem own_d2_105 : decode method_3_code 105 = .ok (.if_icmp .lt 28, 3) := by decide +kernel
theorem own_d2_108 : decode method_3_code 108 = .ok (.iload_n 2, 1) := by decide +kernel
theorem own_d2_109 : decode method_3_code 109 = .ok (.sipush 192, 3) := by decide +kernel
theorem own_d2_112 : decode method_3_code 112 = .ok (.iand, 1) := by decide +kernel
theorem own_d2_113 : decode method_3_code 113 = .ok (.sipush 128, 3) := by decide +kernel
theorem own_d2_116 : decode method_3_code 116 = .ok (.if_icmp .eq 5, 3) := by decide +kernel
theorem own_d2_119 : decode method_3_code 119 = .ok (.iconst (-1), 1) := by decide +kernel
theorem own_d2_120 : decode method_3_code 120 = .ok (.ireturn, 1) := by decide +kernel
theorem own_d2_121 : decode method_3_code 121 = .ok (.iload 6, 2) := by decide +kernel
theorem own_d2_123 : decode method_3_code 123 = .ok (.bipush 6, 2) := by decide +kernel
theorem own_d2_125 : decode method_3_code 125 = .ok (.ishl, 1) := by decide +kernel
theorem own_d2_126 : decode method_3_code 126 = .ok (.iload_n 2, 1) := by decide +kernel
theorem own_d2_127 : decode method_3_code 127 = .ok (.bipush 63, 2) := by decide +kernel
theorem own_d2_129 : decode method_3_code 129 = .ok (.iand, 1) := by decide +kernel
theorem own_d2_130 : decode method_3_code 130 = .ok (.ior, 1) := by decide +kernel
theorem own_d2_131 : decode method_3_code 131 = .ok (.istore 6, 2) := by decide +kernel
theorem own_d2_133 : decode method_3_code 133 = .ok (.iload 5, 2) := by decide +kernel
theorem own_d2_135 : decode method_3_code 135 = .ok (.iconst 4, 1) := by decide +kernel
theorem own_d2_136 : decode method_3_code 136 = .ok (.if_icmp .ne 28, 3) := by decide +kernel
theorem own_d2_139 : decode method_3_code 139 = .ok (.iload_n 3, 1) := by decide +kernel
theorem own_d2_140 : decode method_3_code 140 = .ok (.sipush 192, 3) := by decide +kernel
theorem own_d2_143 : decode method_3_code 143 = .ok (.iand, 1) := by decide +kernel
theorem own_d2_144 : decode method_3_code 144 = .ok (.sipush 128, 3) := by decide +kernel
theorem own_d2_147 : decode method_3_code 147 = .ok (.if_icmp .eq 5, 3) := by decide +kernel
theorem own_d2_150 : decode method_3_code 150 = .ok (.iconst (-1), 1) := by decide +kernel
theorem own_d2_151 : decode method_3_code 151 = .ok (.ireturn, 1) := by decide +kernel
theorem own_d2_152 : decode method_3_code 152 = .ok (.iload 6, 2) := by decide +kernel
theorem own_d2_154 : decode method_3_code 154 = .ok (.bipush 6, 2) := by decide +kernel
theorem own_d2_156 : decode method_3_code 156 = .ok (.ishl, 1) := by decide +kernel
theorem own_d2_157 : decode method_3_code 157 = .ok (.iload_n 3, 1) := by decide +kernel
theorem own_d2_158 : decode method_3_code 158 = .ok (.bipush 63, 2) := by decide +kernel
theorem own_d2_160 : decode method_3_code 160 = .ok (.iand, 1) := by decide +kernel
theorem own_d2_161 : decode method_3_code 161 = .ok (.ior, 1) := by decide +kernel
theorem own_d2_162 : decode method_3_code 162 = .ok (.istore 6, 2) := by decide +kernel
theorem own_d2_164 : decode method_3_code 164 = .ok (.iload 5, 2) := by decide +kernel
theorem own_d2_166 : decode method_3_code 166 = .ok (.iconst 2, 1) := by decide +kernel
theorem own_d2_167 : decode method_3_code 167 = .ok (.if_icmp .ne 17, 3) := by decide +kernel
theorem own_d2_170 : decode method_3_code 170 = .ok (.iload 6, 2) := by decide +kernel
theorem own_d2_172 : decode method_3_code 172 = .ok (.sipush 128, 3) := by decide +kernel
theorem own_d2_175 : decode method_3_code 175 = .ok (.if_icmp .lt 7, 3) := by decide +kernel
theorem own_d2_178 : decode method_3_code 178 = .ok (.iconst 2, 1) := by decide +kernel
theorem own_d2_179 : decode method_3_code 179 = .ok (.goto 4, 3) := by decide +kernel
theorem own_d2_182 : decode method_3_code 182 = .ok (.iconst (-1), 1) := by decide +kernel
theorem own_d2_183 : decode method_3_code 183 = .ok (.ireturn, 1) := by decide +kernel
theorem own_d2_184 : decode method_3_code 184 = .ok (.iload 5, 2) := by decide +kernel
theorem own_d2_186 : decode method_3_code 186 = .ok (.iconst 3, 1) := by decide +kernel
theorem own_d2_187 : decode method_3_code 187 = .ok (.if_icmp .ne 31, 3) := by decide +kernel
theorem own_d2_190 : decode method_3_code 190 = .ok (.iload 6, 2) := by decide +kernel
theorem own_d2_192 : decode method_3_code 192 = .ok (.sipush 2048, 3) := by decide +kernel
theorem own_d2_195 : decode method_3_code 195 = .ok (.if_icmp .ge 5, 3) := by decide +kernel
theorem own_d2_198 : decode method_3_code 198 = .ok (.iconst (-1), 1) := by decide +kernel
theorem own_d2_199 : decode method_3_code 199 = .ok (.ireturn, 1) := by decide +kernel
theorem own_d2_200 : decode method_3_code 200 = .ok (.iload 6, 2) := by decide +kernel
theorem own_d2_202 : decode method_3_code 202 = .ok (.ldc 19, 2) := by decide +kernel
theorem own_d2_204 : decode method_3_code 204 = .ok (.if_icmp .lt 12, 3) := by decide +kernel
theorem own_d2_207 : decode method_3_code 207 = .ok (.iload 6, 2) := by decide +kernel
theorem own_d2_209 : decode method_3_code 209 = .ok (.ldc 20, 2) := by decide +kernel
theorem own_d2_211 : decode method_3_code 211 = .ok (.if_icmp .gt 5, 3) := by decide +kernel
theorem own_d2_214 : decode method_3_code 214 = .ok (.iconst (-1), 1) := by decide +kernel
theorem own_d2_215 : decode method_3_code 215 = .ok (.ireturn, 1) := by decide +kernel
theorem own_d2_216 : decode method_3_code 216 = .ok (.iconst 3, 1) := by decide +kernel
theorem own_d2_217 : decode method_3_code 217 = .ok (.ireturn, 1) := by decide +kernel
theorem own_d2_218 : decode method_3_code 218 = .ok (.iload 6, 2) := by decide +kernel
theorem own_d2_220 : decode method_3_code 220 = .ok (.ldc 21, 2) := by decide +kernel
theorem own_d2_222 : decode method_3_code 222 = .ok (.if_icmp .lt 10, 3) := by decide +kernel
theorem own_d2_225 : decode method_3_code 225 = .ok (.iload 6, 2) := by decide +kernel
theorem own_d2_227 : decode method_3_code 227 = .ok (.ldc 22, 2) := by decide +kernel
theorem own_d2_229 : decode method_3_code 229 = .ok (.if_icmp .le 5, 3) := by decide +kernel
theorem own_d2_232 : decode method_3_code 232 = .ok (.iconst (-1), 1) := by decide +kernel
theorem own_d2_233 : decode method_3_code 233 = .ok (.ireturn, 1) := by decide +kernel
theorem own_d2_234 : decode method_3_code 234 = .ok (.iconst 4, 1) := by decide +kernel
theorem own_d2_235 : decode method_3_code 235 = .ok (.ireturn, 1) := by decide +kernel
abbrev own_R2 : Room := { frames := 0, cells := 0, slots := 0, locals := 0 }
theorem own_pn2 : plainFor (⟨"com/example/bowerbird/bowerbird/Utf8SequenceLengthPinLaw", "expected", "(IIIII)I"⟩ : MethodName) = true := plainFor_of_name (by first | (simp [plainName, overriddenIn]; done) | decide +kernel)
theorem own_ef2 (m : MethodId) (p0 : Int32) (p1 : Int32) (p2 : Int32) (p3 : Int32) (p4 : Int32) : entryFrame m #[(.int p0), (.int p1), (.int p2), (.int p3), (.int p4)] 7 = mkF m 0 #[.val (.int p0), .val (.int p1), .val (.int p2), .val (.int p3), .val (.int p4), .unset, .unset] [] := by first | (simp [entryFrame, mkF, argsToLocals, Value.category]; done) | rfl
def own_F2 (p0 : Int32) (p1 : Int32) (p2 : Int32) (p3 : Int32) (p4 : Int32) : Int32 := (if p0 < (192 : Int32) then (-1 : Int32) else (if p0 < (224 : Int32) then (let vg3 : Int32 := (p0 &&& (31 : Int32)); (if p4 < (2 : Int32) then (-1 : Int32) else (if (p1 &&& (192 : Int32)) = (128 : Int32) then (let vg6 : Int32 := ((vg3 <<< ((6 : Int32) &&& 31)) ||| (p1 &&& (63 : Int32))); (if vg6 < (128 : Int32) then (-1 : Int32) else (2 : Int32))) else (-1 : Int32)))) else (if p0 < (240 : Int32) then (let vg9 : Int32 := (p0 &&& (15 : Int32)); (if p4 < (3 : Int32) then (-1 : Int32) else (if (p1 &&& (192 : Int32)) = (128 : Int32) then (let vg12 : Int32 := ((vg9 <<< ((6 : Int32) &&& 31)) ||| (p1 &&& (63 : Int32))); (if (p2 &&& (192 : Int32)) = (128 : Int32) then (let vg14 : Int32 := ((vg12 <<< ((6 : Int32) &&& 31)) ||| (p2 &&& (63 : Int32))); (if vg14 < (2048 : Int32) then (-1 : Int32) else (if vg14 < (55296 : Int32) then (3 : Int32) else (if (57343 : Int32) < vg14 then (3 : Int32) else (-1 : Int32))))) else (-1 : Int32))) else (-1 : Int32)))) else (if p0 < (248 : Int32) then (let vg19 : Int32 := (p0 &&& (7 : Int32)); (if p4 < (4 : Int32) then (-1 : Int32) else (if (p1 &&& (192 : Int32)) = (128 : Int32) then (let vg22 : Int32 := ((vg19 <<< ((6 : Int32) &&& 31)) ||| (p1 &&& (63 : Int32))); (if (p2 &&& (192 : Int32)) = (128 : Int32) then (let vg24 : Int32 := ((vg22 <<< ((6 : Int32) &&& 31)) ||| (p2 &&& (63 : Int32))); (if (p3 &&& (192 : Int32)) = (128 : Int32) then (let vg26 : Int32 := ((vg24 <<< ((6 : Int32) &&& 31)) ||| (p3 &&& (63 : Int32))); (if vg26 < (65536 : Int32) then (-1 : Int32) else (if (1114111 : Int32) < vg26 then (-1 : Int32) else (4 : Int32)))) else (-1 : Int32))) else (-1 : Int32))) else (-1 : Int32)))) else (-1 : Int32)))))
set_option maxRecDepth 65536 in
set_option maxHeartbeats 40000000 in
theorem own_rm2 (l : Launch) (Z : State) (a0 : Array Value) (hw : ∀ d ∈ tables_1, d.before a0 Z = true) (ws : List Jvm.Cond) (p0 : Int32) (p1 : Int32) (p2 : Int32) (p3 : Int32) (p4 : Int32) (h0 : Heap) :
    own_C l Z (⟨"com/example/bowerbird/bowerbird/Utf8SequenceLengthPinLaw", "expected", "(IIIII)I"⟩ : MethodName) method_3_code 7 (some .int) ws own_R2 #[(.int p0), (.int p1), (.int p2), (.int p3), (.int p4)] h0 (own_Q (.int (own_F2 p0 p1 p2 p3 p4)) h0) := by
  refine MetFree.of_bodySF own_pn2 hisR ?_
  intro p e s m args below meth c s₁ Bd hml0 hP hK
  obtain ⟨rfl, hZ, hh⟩ := hP
  have hx := Bd.exec
  have hby := Bd.bytes
  have hml : c.maxLocals = 7 := hml0
  have hown : s.vm.findClass "com/example/bowerbird/bowerbird/Utf8SequenceLengthPinLaw" = some m.cls := findClass_of_methodNamed Bd.named
  have X0 : Stand p l e own_R2 s m #[(.int p0), (.int p1), (.int p2), (.int p3), (.int p4)] below meth c s₁ [] 0 0 := Stand.of_body Bd
  have e0 : s₁.heap = h0 := by rw [← hh, Bd.state]; rfl
  show own_G p e below (own_P s (own_Q (.int (own_F2 p0 p1 p2 p3 p4)) h0) own_R2.cells own_R2.slots) (s₁.setTop (entryFrame m #[(.int p0), (.int p1), (.int p2), (.int p3), (.int p4)] 7))
  rw [own_ef2 m p0 p1 p2 p3 p4]
  show own_G p e below _ (s₁.setTop (mkF m 0 #[.val (.int p0), .val (.int p1), .val (.int p2), .val (.int p3), .val (.int p4), .unset, .unset] []))
  refine own_via (fun t k => XS.iloadN X0.here hx rfl (hb hby own_d2_0) rfl k) ?_
  show own_G p e below _ (s₁.setTop (mkF m 1 #[.val (.int p0), .val (.int p1), .val (.int p2), .val (.int p3), .val (.int p4), .unset, .unset] [(.int p0)]))
  refine own_via (fun t k => XS.sipush X0.here hx rfl (hb hby own_d2_1) k) ?_
  show own_G p e below _ (s₁.setTop (mkF m 4 #[.val (.int p0), .val (.int p1), .val (.int p2), .val (.int p3), .val (.int p4), .unset, .unset] [(.int (192 : Int32)), (.int p0)]))
  by_cases hc1 : p0 < (192 : Int32)
  ·
    refine own_via (fun t k => XS.icmpNo X0.here hx rfl (hb hby own_d2_4) rfl (tlt hc1).2.1 k) ?_
    show own_G p e below _ (s₁.setTop (mkF m 7 #[.val (.int p0), .val (.int p1), .val (.int p2), .val (.int p3), .val (.int p4), .unset, .unset] []))
    refine own_via (fun t k => XS.iconst X0.here hx rfl (hb hby own_d2_7) k) ?_
    show own_G p e below _ (s₁.setTop (mkF m 8 #[.val (.int p0), .val (.int p1), .val (.int p2), .val (.int p3), .val (.int p4), .unset, .unset] [(.int (-1 : Int32))]))
    exact own_retI X0 hx Bd.returns Bd.notSynchronized (hb hby own_d2_8) ⟨by show (some (.int (-1 : Int32)) : Option Value) = some (.int (own_F2 p0 p1 p2 p3 p4)); simp only [own_F2, if_pos hc1], rfl, e0⟩ (by decide) (by decide)
  ·
    refine own_via (fun t k => XS.icmpYes X0.here hx rfl (pc0 := 4) (pc' := 9) rfl (hb hby own_d2_4) rfl (flt hc1).2.1 (by decide) (by decide) k) ?_
    show own_G p e below _ (s₁.setTop (mkF m 9 #[.val (.int p0), .val (.int p1), .val (.int p2), .val (.int p3), .val (.int p4), .unset, .unset] []))
    refine own_via (fun t k => XS.iloadN X0.here hx rfl (hb hby own_d2_9) rfl k) ?_
    show own_G p e below _ (s₁.setTop (mkF m 10 #[.val (.int p0), .val (.int p1), .val (.int p2), .val (.int p3), .val (.int p4), .unset, .unset] [(.int p0)]))
    refine own_via (fun t k => XS.sipush X0.here hx rfl (hb hby own_d2_10) k) ?_
    show own_G p e below _ (s₁.setTop (mkF m 13 #[.val (.int p0), .val (.int p1), .val (.int p2), .val (.int p3), .val (.int p4), .unset, .unset] [(.int (224 : Int32)), (.int p0)]))
    by_cases hc2 : p0 < (224 : Int32)
    ·
      refine own_via (fun t k => XS.icmpNo X0.here hx rfl (hb hby own_d2_13) rfl (tlt hc2).2.1 k) ?_
      show own_G p e below _ (s₁.setTop (mkF m 16 #[.val (.int p0), .val (.int p1), .val (.int p2), .val (.int p3), .val (.int p4), .unset, .unset] []))
      refine own_via (fun t k => XS.iconst X0.here hx rfl (hb hby own_d2_16) k) ?_
      show own_G p e below _ (s₁.setTop (mkF m 17 #[.val (.int p0), .val (.int p1), .val (.int p2), .val (.int p3), .val (.int p4), .unset, .unset] [(.int (2 : Int32))]))
      refine own_via (fun t k => XS.istore X0.here hx rfl (hb hby own_d2_17) rfl (l' := #[.val (.int p0), .val (.int p1), .val (.int p2), .val (.int p3), .val (.int p4), .val (.int (2 : Int32)), .unset]) rfl k) ?_
      show own_G p e below _ (s₁.setTop (mkF m 19 #[.val (.int p0), .val (.int p1), .val (.int p2), .val (.int p3), .val (.int p4), .val (.int (2 : Int32)), .unset] []))
      refine own_via (fun t k => XS.iloadN X0.here hx rfl (hb hby own_d2_19) rfl k) ?_
      show own_G p e below _ (s₁.setTop (mkF m 20 #[.val (.int p0), .val (.int p1), .val (.int p2), .val (.int p3), .val (.int p4), .val (.int (2 : Int32)), .unset] [(.int p0)]))
      refine own_via (fun t k => XS.bipush X0.here hx rfl (hb hby own_d2_20) k) ?_
      show own_G p e below _ (s₁.setTop (mkF m 22 #[.val (.int p0), .val (.int p1), .val (.int p2), .val (.int p3), .val (.int p4), .val (.int (2 : Int32)), .unset] [(.int (31 : Int32)), (.int p0)]))
      refine own_via (fun t k => XS.iand X0.here hx rfl (hb hby own_d2_22) rfl k) ?_
      show own_G p e below _ (s₁.setTop (mkF m 23 #[.val (.int p0), .val (.int p1), .val (.int p2), .val (.int p3), .val (.int p4), .val (.int (2 : Int32)), .unset] [(.int (p0 &&& (31 : Int32)))]))
      generalize hvg3 : (p0 &&& (31 : Int32)) = vg3
      show own_G p e below _ (s₁.setTop (mkF m 23 #[.val (.int p0), .val (.int p1), .val (.int p2), .val (.int p3), .val (.int p4), .val (.int (2 : Int32)), .unset] [(.int vg3)]))
      refine own_via (fun t k => XS.istore X0.here hx rfl (hb hby own_d2_23) rfl (l' := #[.val (.int p0), .val (.int p1), .val (.int p2), .val (.int p3), .val (.int p4), .val (.int (2 : Int32)), .val (.int vg3)]) rfl k) ?_
      show own_G p e below _ (s₁.setTop (mkF m 25 #[.val (.int p0), .val (.int p1), .val (.int p2), .val (.int p3), .val (.int p4), .val (.int (2 : Int32)), .val (.int vg3)] []))
      refine own_via (fun t k => XS.goto X0.here hx rfl (pc0 := 25) (pc' := 68) rfl (hb hby own_d2_25) (by decide) (by decide) k) ?_
      show own_G p e below _ (s₁.setTop (mkF m 68 #[.val (.int p0), .val (.int p1), .val (.int p2), .val (.int p3), .val (.int p4), .val (.int (2 : Int32)), .val (.int vg3)] []))
      refine own_via (fun t k => XS.iload X0.here hx rfl (hb hby own_d2_68) rfl k) ?_
      show own_G p e below _ (s₁.setTop (mkF m 70 #[.val (.int p0), .val (.int p1), .val (.int p2), .val (.int p3), .val (.int p4), .val (.int (2 : Int32)), .val (.int vg3)] [(.int p4)]))
      refine own_via (fun t k => XS.iload X0.here hx rfl (hb hby own_d2_70) rfl k) ?_
      show own_G p e below _ (s₁.setTop (mkF m 72 #[.val (.int p0), .val (.int p1), .val (.int p2), .val (.int p3), .val (.int p4), .val (.int (2 : Int32)), .val (.int vg3)] [(.int (2 : Int32)), (.int p4)]))
      by_cases hc4 : p4 < (2 : Int32)
      ·
        refine own_via (fun t k => XS.icmpNo X0.here hx rfl (hb hby own_d2_72) rfl (tlt hc4).2.1 k) ?_
        show own_G p e below _ (s₁.setTop (mkF m 75 #[.val (.int p0), .val (.int p1), .val (.int p2), .val (.int p3), .val (.int p4), .val (.int (2 : Int32)), .val (.int vg3)] []))
        refine own_via (fun t k => XS.iconst X0.here hx rfl (hb hby own_d2_75) k) ?_
        show own_G p e below _ (s₁.setTop (mkF m 76 #[.val (.int p0), .val (.int p1), .val (.int p2), .val (.int p3), .val (.int p4), .val (.int (2 : Int32)), .val (.int vg3)] [(.int (-1 : Int32))]))
        exact own_retI X0 hx Bd.returns Bd.notSynchronized (hb hby own_d2_76) ⟨by show (some (.int (-1 : Int32)) : Option Value) = some (.int (own_F2 p0 p1 p2 p3 p4)); subst hvg3; simp only [own_F2, if_neg hc1, if_pos hc2, if_pos hc4], rfl, e0⟩ (by decide) (by decide)
      ·
        refine own_via (fun t k => XS.icmpYes X0.here hx rfl (pc0 := 72) (pc' := 77) rfl (hb hby own_d2_72) rfl (flt hc4).2.1 (by decide) (by decide) k) ?_
        show own_G p e below _ (s₁.setTop (mkF m 77 #[.val (.int p0), .val (.int p1), .val (.int p2), .val (.int p3), .val (.int p4), .val (.int (2 : Int32)), .val (.int vg3)] []))
        refine own_via (fun t k => XS.iloadN X0.here hx rfl (hb hby own_d2_77) rfl k) ?_
        show own_G p e below _ (s₁.setTop (mkF m 78 #[.val (.int p0), .val (.int p1), .val (.int p2), .val (.int p3), .val (.int p4), .val (.int (2 : Int32)), .val (.int vg3)] [(.int p1)]))
        refine own_via (fun t k => XS.sipush X0.here hx rfl (hb hby own_d2_78) k) ?_
        show own_G p e below _ (s₁.setTop (mkF m 81 #[.val (.int p0), .val (.int p1), .val (.int p2), .val (.int p3), .val (.int p4), .val (.int (2 : Int32)), .val (.int vg3)] [(.int (192 : Int32)), (.int p1)]))
        refine own_via (fun t k => XS.iand X0.here hx rfl (hb hby own_d2_81) rfl k) ?_
        show own_G p e below _ (s₁.setTop (mkF m 82 #[.val (.int p0), .val (.int p1), .val (.int p2), .val (.int p3), .val (.int p4), .val (.int (2 : Int32)), .val (.int vg3)] [(.int (p1 &&& (192 : Int32)))]))
        refine own_via (fun t k => XS.sipush X0.here hx rfl (hb hby own_d2_82) k) ?_
        show own_G p e below _ (s₁.setTop (mkF m 85 #[.val (.int p0), .val (.int p1), .val (.int p2), .val (.int p3), .val (.int p4), .val (.int (2 : Int32)), .val (.int vg3)] [(.int (128 : Int32)), (.int (p1 &&& (192 : Int32)))]))
        by_cases hc5 : (p1 &&& (192 : Int32)) = (128 : Int32)
        ·
          refine own_via (fun t k => XS.icmpYes X0.here hx rfl (pc0 := 85) (pc' := 90) rfl (hb hby own_d2_85) rfl (teq hc5).1 (by decide) (by decide) k) ?_
          show own_G p e below _ (s₁.setTop (mkF m 90 #[.val (.int p0), .val (.int p1), .val (.int p2), .val (.int p3), .val (.int p4), .val (.int (2 : Int32)), .val (.int vg3)] []))
          refine own_via (fun t k => XS.iload X0.here hx rfl (hb hby own_d2_90) rfl k) ?_
          show own_G p e below _ (s₁.setTop (mkF m 92 #[.val (.int p0), .val (.int p1), .val (.int p2), .val (.int p3), .val (.int p4), .val (.int (2 : Int32)), .val (.int vg3)] [(.int vg3)]))
          refine own_via (fun t k => XS.bipush X0.here hx rfl (hb hby own_d2_92) k) ?_
          show own_G p e below _ (s₁.setTop (mkF m 94 #[.val (.int p0), .val (.int p1), .val (.int p2), .val (.int p3), .val (.int p4), .val (.int (2 : Int32)), .val (.int vg3)] [(.int (6 : Int32)), (.int vg3)]))
          refine own_via (fun t k => XS.ishl X0.here hx rfl (hb hby own_d2_94) rfl k) ?_
          show own_G p e below _ (s₁.setTop (mkF m 95 #[.val (.int p0), .val (.int p1), .val (.int p2), .val (.int p3), .val (.int p4), .val (.int (2 : Int32)), .val (.int vg3)] [(.int (vg3 <<< ((6 : Int32) &&& 31)))]))
          refine own_via (fun t k => XS.iloadN X0.here hx rfl (hb hby own_d2_95) rfl k) ?_
          show own_G p e below _ (s₁.setTop (mkF m 96 #[.val (.int p0), .val (.int p1), .val (.int p2), .val (.int p3), .val (.int p4), .val (.int (2 : Int32)), .val (.int vg3)] [(.int p1), (.int (vg3 <<< ((6 : Int32) &&& 31)))]))
          refine own_via (fun t k => XS.bipush X0.here hx rfl (hb hby own_d2_96) k) ?_
          show own_G p e below _ (s₁.setTop (mkF m 98 #[.val (.int p0), .val (.int p1), .val (.int p2), .val (.int p3), .val (.int p4), .val (.int (2 : Int32)), .val (.int vg3)] [(.int (63 : Int32)), (.int p1), (.int (vg3 <<< ((6 : Int32) &&& 31)))]))
          refine own_via (fun t k => XS.iand X0.here hx rfl (hb hby own_d2_98) rfl k) ?_
          show own_G p e below _ (s₁.setTop (mkF m 99 #[.val (.int p0), .val (.int p1), .val (.int p2), .val (.int p3), .val (.int p4), .val (.int (2 : Int32)), .val (.int vg3)] [(.int (p1 &&& (63 : Int32))), (.int (vg3 <<< ((6 : Int32) &&& 31)))]))
          refine own_via (fun t k => XS.ior X0.here hx rfl (hb hby own_d2_99) rfl k) ?_
          show own_G p e below _ (s₁.setTop (mkF m 100 #[.val (.int p0), .val (.int p1), .val (.int p2), .val (.int p3), .val (.int p4), .val (.int (2 : Int32)), .val (.int vg3)] [(.int ((vg3 <<< ((6 : Int32) &&& 31)) ||| (p1 &&& (63 : Int32))))]))
          generalize hvg6 : ((vg3 <<< ((6 : Int32) &&& 31)) ||| (p1 &&& (63 : Int32))) = vg6
          show own_G p e below _ (s₁.setTop (mkF m 100 #[.val (.int p0), .val (.int p1), .val (.int p2), .val (.int p3), .val (.int p4), .val (.int (2 : Int32)), .val (.int vg3)] [(.int vg6)]))
          refine own_via (fun t k => XS.istore X0.here hx rfl (hb hby own_d2_100) rfl (l' := #[.val (.int p0), .val (.int p1), .val (.int p2), .val (.int p3), .val (.int p4), .val (.int (2 : Int32)), .val (.int vg6)]) rfl k) ?_
          show own_G p e below _ (s₁.setTop (mkF m 102 #[.val (.int p0), .val (.int p1), .val (.int p2), .val (.int p3), .val (.int p4), .val (.int (2 : Int32)), .val (.int vg6)] []))
          refine own_via (fun t k => XS.iload X0.here hx rfl (hb hby own_d2_102) rfl k) ?_
          show own_G p e below _ (s₁.setTop (mkF m 104 #[.val (.int p0), .val (.int p1), .val (.int p2), .val (.int p3), .val (.int p4), .val (.int (2 : Int32)), .val (.int vg6)] [(.int (2 : Int32))]))
          refine own_via (fun t k => XS.iconst X0.here hx rfl (hb hby own_d2_104) k) ?_
          show own_G p e below _ (s₁.setTop (mkF m 105 #[.val (.int p0), .val (.int p1), .val (.int p2), .val (.int p3), .val (.int p4), .val (.int (2 : Int32)), .val (.int vg6)] [(.int (3 : Int32)), (.int (2 : Int32))]))
          refine own_via (fun t k => XS.icmpYes X0.here hx rfl (pc0 := 105) (pc' := 133) rfl (hb hby own_d2_105) rfl (tlt (by decide : (2 : Int32) < (3 : Int32))).1 (by decide) (by decide) k) ?_
          show own_G p e below _ (s₁.setTop (mkF m 133 #[.val (.int p0), .val (.int p1), .val (.int p2), .val (.int p3), .val (.int p4), .val (.int (2 : Int32)), .val (.int vg6)] []))
          refine own_via (fun t k => XS.iload X0.here hx rfl (hb hby own_d2_133) rfl k) ?_
          show own_G p e below _ (s₁.setTop (mkF m 135 #[.val (.int p0), .val (.int p1), .val (.int p2), .val (.int p3), .val (.int p4), .val (.int (2 : Int32)), .val (.int vg6)] [(.int (2 : Int32))]))
          refine own_via (fun t k => XS.iconst X0.here hx rfl (hb hby own_d2_135) k) ?_
          show own_G p e below _ (s₁.setTop (mkF m 136 #[.val (.int p0), .val (.int p1), .val (.int p2), .val (.int p3), .val (.int p4), .val (.int (2 : Int32)), .val (.int vg6)] [(.int (4 : Int32)), (.int (2 : Int32))]))
          refine own_via (fun t k => XS.icmpYes X0.here hx rfl (pc0 := 136) (pc' := 164) rfl (hb hby own_d2_136) rfl (feq (by decide : ¬ ((2 : Int32) = (4 : Int32)))).2 (by decide) (by decide) k) ?_
          show own_G p e below _ (s₁.setTop (mkF m 164 #[.val (.int p0), .val (.int p1), .val (.int p2), .val (.int p3), .val (.int p4), .val (.int (2 : Int32)), .val (.int vg6)] []))
          refine own_via (fun t k => XS.iload X0.here hx rfl (hb hby own_d2_164) rfl k) ?_
          show own_G p e below _ (s₁.setTop (mkF m 166 #[.val (.int p0), .val (.int p1), .val (.int p2), .val (.int p3), .val (.int p4), .val (.int (2 : Int32)), .val (.int vg6)] [(.int (2 : Int32))]))
          refine own_via (fun t k => XS.iconst X0.here hx rfl (hb hby own_d2_166) k) ?_
          show own_G p e below _ (s₁.setTop (mkF m 167 #[.val (.int p0), .val (.int p1), .val (.int p2), .val (.int p3), .val (.int p4), .val (.int (2 : Int32)), .val (.int vg6)] [(.int (2 : Int32)), (.int (2 : Int32))]))
          refine own_via (fun t k => XS.icmpNo X0.here hx rfl (hb hby own_d2_167) rfl (teq (by decide : (2 : Int32) = (2 : Int32))).2 k) ?_
          show own_G p e below _ (s₁.setTop (mkF m 170 #[.val (.int p0), .val (.int p1), .val (.int p2), .val (.int p3), .val (.int p4), .val (.int (2 : Int32)), .val (.int vg6)] []))
          refine own_via (fun t k => XS.iload X0.here hx rfl (hb hby own_d2_170) rfl k) ?_
          show own_G p e below _ (s₁.setTop (mkF m 172 #[.val (.int p0), .val (.int p1), .val (.int p2), .val (.int p3), .val (.int p4), .val (.int (2 : Int32)), .val (.int vg6)] [(.int vg6)]))
          refine own_via (fun t k => XS.sipush X0.here hx rfl (hb hby own_d2_172) k) ?_
          show own_G p e below _ (s₁.setTop (mkF m 175 #[.val (.int p0), .val (.int p1), .val (.int p2), .val (.int p3), .val (.int p4), .val (.int (2 : Int32)), .val (.int vg6)] [(.int (128 : Int32)), (.int vg6)]))
          by_cases hc7 : vg6 < (128 : Int32)
          ·
            refine own_via (fun t k => XS.icmpYes X0.here hx rfl (pc0 := 175) (pc' := 182) rfl (hb hby own_d2_175) rfl (tlt hc7).1 (by decide) (by decide) k) ?_
            show own_G p e below _ (s₁.setTop (mkF m 182 #[.val (.int p0), .val (.int p1), .val (.int p2), .val (.int p3), .val (.int p4), .val (.int (2 : Int32)), .val (.int vg6)] []))
            refine own_via (fun t k => XS.iconst X0.here hx rfl (hb hby own_d2_182) k) ?_
            show own_G p e below _ (s₁.setTop (mkF m 183 #[.val (.int p0), .val (.int p1), .val (.int p2), .val (.int p3), .val (.int p4), .val (.int (2 : Int32)), .val (.int vg6)] [(.int (-1 : Int32))]))
            exact own_retI X0 hx Bd.returns Bd.notSynchronized (hb hby own_d2_183) ⟨by show (some (.int (-1 : Int32)) : Option Value) = some (.int (own_F2 p0 p1 p2 p3 p4)); subst hvg6; subst hvg3; simp only [own_F2, if_neg hc1, if_pos hc2, if_neg hc4, if_pos hc5, if_pos hc7], rfl, e0⟩ (by decide) (by decide)
          ·
            refine own_via (fun t k => XS.icmpNo X0.here hx rfl (hb hby own_d2_175) rfl (flt hc7).1 k) ?_
            show own_G p e below _ (s₁.setTop (mkF m 178 #[.val (.int p0), .val (.int p1), .val (.int p2), .val (.int p3), .val (.int p4), .val (.int (2 : Int32)), .val (.int vg6)] []))
            refine own_via (fun t k => XS.iconst X0.here hx rfl (hb hby own_d2_178) k) ?_
            show own_G p e below _ (s₁.setTop (mkF m 179 #[.val (.int p0), .val (.int p1), .val (.int p2), .val (.int p3), .val (.int p4), .val (.int (2 : Int32)), .val (.int vg6)] [(.int (2 : Int32))]))
            refine own_via (fun t k => XS.goto X0.here hx rfl (pc0 := 179) (pc' := 183) rfl (hb hby own_d2_179) (by decide) (by decide) k) ?_
            show own_G p e below _ (s₁.setTop (mkF m 183 #[.val (.int p0), .val (.int p1), .val (.int p2), .val (.int p3), .val (.int p4), .val (.int (2 : Int32)), .val (.int vg6)] [(.int (2 : Int32))]))
            exact own_retI X0 hx Bd.returns Bd.notSynchronized (hb hby own_d2_183) ⟨by show (some (.int (2 : Int32)) : Option Value) = some (.int (own_F2 p0 p1 p2 p3 p4)); subst hvg6; subst hvg3; simp only [own_F2, if_neg hc1, if_pos hc2, if_neg hc4, if_pos hc5, if_neg hc7], rfl, e0⟩ (by decide) (by decide)
        ·
          refine own_via (fun t k => XS.icmpNo X0.here hx rfl (hb hby own_d2_85) rfl (feq hc5).1 k) ?_
          show own_G p e below _ (s₁.setTop (mkF m 88 #[.val (.int p0), .val (.int p1), .val (.int p2), .val (.int p3), .val (.int p4), .val (.int (2 : Int32)), .val (.int vg3)] []))
          refine own_via (fun t k => XS.iconst X0.here hx rfl (hb hby own_d2_88) k) ?_
          show own_G p e below _ (s₁.setTop (mkF m 89 #[.val (.int p0), .val (.int p1), .val (.int p2), .val (.int p3), .val (.int p4), .val (.int (2 : Int32)), .val (.int vg3)] [(.int (-1 : Int32))]))
          exact own_retI X0 hx Bd.returns Bd.notSynchronized (hb hby own_d2_89) ⟨by show (some (.int (-1 : Int32)) : Option Value) = some (.int (own_F2 p0 p1 p2 p3 p4)); subst hvg3; simp only [own_F2, if_neg hc1, if_pos hc2, if_neg hc4, if_neg hc5], rfl, e0⟩ (by decide) (by decide)
    ·
      refine own_via (fun t k => XS.icmpYes X0.here hx rfl (pc0 := 13) (pc' := 28) rfl (hb hby own_d2_13) rfl (flt hc2).2.1 (by decide) (by decide) k) ?_
      show own_G p e below _ (s₁.setTop (mkF m 28 #[.val (.int p0), .val (.int p1), .val (.int p2), .val (.int p3), .val (.int p4), .unset, .unset] []))
      refine own_via (fun t k => XS.iloadN X0.here hx rfl (hb hby own_d2_28) rfl k) ?_
      show own_G p e below _ (s₁.setTop (mkF m 29 #[.val (.int p0), .val (.int p1), .val (.int p2), .val (.int p3), .val (.int p4), .unset, .unset] [(.int p0)]))
      refine own_via (fun t k => XS.sipush X0.here hx rfl (hb hby own_d2_29) k) ?_
      show own_G p e below _ (s₁.setTop (mkF m 32 #[.val (.int p0), .val (.int p1), .val (.int p2), .val (.int p3), .val (.int p4), .unset, .unset] [(.int (240 : Int32)), (.int p0)]))
      by_cases hc8 : p0 < (240 : Int32)
      ·
        refine own_via (fun t k => XS.icmpNo X0.here hx rfl (hb hby own_d2_32) rfl (tlt hc8).2.1 k) ?_
        show own_G p e below _ (s₁.setTop (mkF m 35 #[.val (.int p0), .val (.int p1), .val (.int p2), .val (.int p3), .val (.int p4), .unset, .unset] []))
        refine own_via (fun t k => XS.iconst X0.here hx rfl (hb hby own_d2_35) k) ?_
        show own_G p e below _ (s₁.setTop (mkF m 36 #[.val (.int p0), .val (.int p1), .val (.int p2), .val (.int p3), .val (.int p4), .unset, .unset] [(.int (3 : Int32))]))
        refine own_via (fun t k => XS.istore X0.here hx rfl (hb hby own_d2_36) rfl (l' := #[.val (.int p0), .val (.int p1), .val (.int p2), .val (.int p3), .val (.int p4), .val (.int (3 : Int32)), .unset]) rfl k) ?_
        show own_G p e below _ (s₁.setTop (mkF m 38 #[.val (.int p0), .val (.int p1), .val (.int p2), .val (.int p3), .val (.int p4), .val (.int (3 : Int32)), .unset] []))
        refine own_via (fun t k => XS.iloadN X0.here hx rfl (hb hby own_d2_38) rfl k) ?_
        show own_G p e below _ (s₁.setTop (mkF m 39 #[.val (.int p0), .val (.int p1), .val (.int p2), .val (.int p3), .val (.int p4), .val (.int (3 : Int32)), .unset] [(.int p0)]))
        refine own_via (fun t k => XS.bipush X0.here hx rfl (hb hby own_d2_39) k) ?_
        show own_G p e below _ (s₁.setTop (mkF m 41 #[.val (.int p0), .val (.int p1), .val (.int p2), .val (.int p3), .val (.int p4), .val (.int (3 : Int32)), .unset] [(.int (15 : Int32)), (.int p0)]))
        refine own_via (fun t k => XS.iand X0.here hx rfl (hb hby own_d2_41) rfl k) ?_
        show own_G p e below _ (s₁.setTop (mkF m 42 #[.val (.int p0), .val (.int p1), .val (.int p2), .val (.int p3), .val (.int p4), .val (.int (3 : Int32)), .unset] [(.int (p0 &&& (15 : Int32)))]))
        generalize hvg9 : (p0 &&& (15 : Int32)) = vg9
        show own_G p e below _ (s₁.setTop (mkF m 42 #[.val (.int p0), .val (.int p1), .val (.int p2), .val (.int p3), .val (.int p4), .val (.int (3 : Int32)), .unset] [(.int vg9)]))
        refine own_via (fun t k => XS.istore X0.here hx rfl (hb hby own_d2_42) rfl (l' := #[.val (.int p0), .val (.int p1), .val (.int p2), .val (.int p3), .val (.int p4), .val (.int (3 : Int32)), .val (.int vg9)]) rfl k) ?_
        show own_G p e below _ (s₁.setTop (mkF m 44 #[.val (.int p0), .val (.int p1), .val (.int p2), .val (.int p3), .val (.int p4), .val (.int (3 : Int32)), .val (.int vg9)] []))
        refine own_via (fun t k => XS.goto X0.here hx rfl (pc0 := 44) (pc' := 68) rfl (hb hby own_d2_44) (by decide) (by decide) k) ?_
        show own_G p e below _ (s₁.setTop (mkF m 68 #[.val (.int p0), .val (.int p1), .val (.int p2), .val (.int p3), .val (.int p4), .val (.int (3 : Int32)), .val (.int vg9)] []))
        refine own_via (fun t k => XS.iload X0.here hx rfl (hb hby own_d2_68) rfl k) ?_
        show own_G p e below _ (s₁.setTop (mkF m 70 #[.val (.int p0), .val (.int p1), .val (.int p2), .val (.int p3), .val (.int p4), .val (.int (3 : Int32)), .val (.int vg9)] [(.int p4)]))
        refine own_via (fun t k => XS.iload X0.here hx rfl (hb hby own_d2_70) rfl k) ?_
        show own_G p e below _ (s₁.setTop (mkF m 72 #[.val (.int p0), .val (.int p1), .val (.int p2), .val (.int p3), .val (.int p4), .val (.int (3 : Int32)), .val (.int vg9)] [(.int (3 : Int32)), (.int p4)]))
        by_cases hc10 : p4 < (3 : Int32)
        ·
          refine own_via (fun t k => XS.icmpNo X0.here hx rfl (hb hby own_d2_72) rfl (tlt hc10).2.1 k) ?_
          show own_G p e below _ (s₁.setTop (mkF m 75 #[.val (.int p0), .val (.int p1), .val (.int p2), .val (.int p3), .val (.int p4), .val (.int (3 : Int32)), .val (.int vg9)] []))
          refine own_via (fun t k => XS.iconst X0.here hx rfl (hb hby own_d2_75) k) ?_
          show own_G p e below _ (s₁.setTop (mkF m 76 #[.val (.int p0), .val (.int p1), .val (.int p2), .val (.int p3), .val (.int p4), .val (.int (3 : Int32)), .val (.int vg9)] [(.int (-1 : Int32))]))
          exact own_retI X0 hx Bd.returns Bd.notSynchronized (hb hby own_d2_76) ⟨by show (some (.int (-1 : Int32)) : Option Value) = some (.int (own_F2 p0 p1 p2 p3 p4)); subst hvg9; simp only [own_F2, if_neg hc1, if_neg hc2, if_pos hc8, if_pos hc10], rfl, e0⟩ (by decide) (by decide)
        ·
          refine own_via (fun t k => XS.icmpYes X0.here hx rfl (pc0 := 72) (pc' := 77) rfl (hb hby own_d2_72) rfl (flt hc10).2.1 (by decide) (by decide) k) ?_
          show own_G p e below _ (s₁.setTop (mkF m 77 #[.val (.int p0), .val (.int p1), .val (.int p2), .val (.int p3), .val (.int p4), .val (.int (3 : Int32)), .val (.int vg9)] []))
          refine own_via (fun t k => XS.iloadN X0.here hx rfl (hb hby own_d2_77) rfl k) ?_
          show own_G p e below _ (s₁.setTop (mkF m 78 #[.val (.int p0), .val (.int p1), .val (.int p2), .val (.int p3), .val (.int p4), .val (.int (3 : Int32)), .val (.int vg9)] [(.int p1)]))
          refine own_via (fun t k => XS.sipush X0.here hx rfl (hb hby own_d2_78) k) ?_
          show own_G p e below _ (s₁.setTop (mkF m 81 #[.val (.int p0), .val (.int p1), .val (.int p2), .val (.int p3), .val (.int p4), .val (.int (3 : Int32)), .val (.int vg9)] [(.int (192 : Int32)), (.int p1)]))
          refine own_via (fun t k => XS.iand X0.here hx rfl (hb hby own_d2_81) rfl k) ?_
          show own_G p e below _ (s₁.setTop (mkF m 82 #[.val (.int p0), .val (.int p1), .val (.int p2), .val (.int p3), .val (.int p4), .val (.int (3 : Int32)), .val (.int vg9)] [(.int (p1 &&& (192 : Int32)))]))
          refine own_via (fun t k => XS.sipush X0.here hx rfl (hb hby own_d2_82) k) ?_
          show own_G p e below _ (s₁.setTop (mkF m 85 #[.val (.int p0), .val (.int p1), .val (.int p2), .val (.int p3), .val (.int p4), .val (.int (3 : Int32)), .val (.int vg9)] [(.int (128 : Int32)), (.int (p1 &&& (192 : Int32)))]))
          by_cases hc11 : (p1 &&& (192 : Int32)) = (128 : Int32)
          ·
            refine own_via (fun t k => XS.icmpYes X0.here hx rfl (pc0 := 85) (pc' := 90) rfl (hb hby own_d2_85) rfl (teq hc11).1 (by decide) (by decide) k) ?_
            show own_G p e below _ (s₁.setTop (mkF m 90 #[.val (.int p0), .val (.int p1), .val (.int p2), .val (.int p3), .val (.int p4), .val (.int (3 : Int32)), .val (.int vg9)] []))
            refine own_via (fun t k => XS.iload X0.here hx rfl (hb hby own_d2_90) rfl k) ?_
            show own_G p e below _ (s₁.setTop (mkF m 92 #[.val (.int p0), .val (.int p1), .val (.int p2), .val (.int p3), .val (.int p4), .val (.int (3 : Int32)), .val (.int vg9)] [(.int vg9)]))
            refine own_via (fun t k => XS.bipush X0.here hx rfl (hb hby own_d2_92) k) ?_
            show own_G p e below _ (s₁.setTop (mkF m 94 #[.val (.int p0), .val (.int p1), .val (.int p2), .val (.int p3), .val (.int p4), .val (.int (3 : Int32)), .val (.int vg9)] [(.int (6 : Int32)), (.int vg9)]))
            refine own_via (fun t k => XS.ishl X0.here hx rfl (hb hby own_d2_94) rfl k) ?_
            show own_G p e below _ (s₁.setTop (mkF m 95 #[.val (.int p0), .val (.int p1), .val (.int p2), .val (.int p3), .val (.int p4), .val (.int (3 : Int32)), .val (.int vg9)] [(.int (vg9 <<< ((6 : Int32) &&& 31)))]))
            refine own_via (fun t k => XS.iloadN X0.here hx rfl (hb hby own_d2_95) rfl k) ?_
            show own_G p e below _ (s₁.setTop (mkF m 96 #[.val (.int p0), .val (.int p1), .val (.int p2), .val (.int p3), .val (.int p4), .val (.int (3 : Int32)), .val (.int vg9)] [(.int p1), (.int (vg9 <<< ((6 : Int32) &&& 31)))]))
            refine own_via (fun t k => XS.bipush X0.here hx rfl (hb hby own_d2_96) k) ?_
            show own_G p e below _ (s₁.setTop (mkF m 98 #[.val (.int p0), .val (.int p1), .val (.int p2), .val (.int p3), .val (.int p4), .val (.int (3 : Int32)), .val (.int vg9)] [(.int (63 : Int32)), (.int p1), (.int (vg9 <<< ((6 : Int32) &&& 31)))]))
            refine own_via (fun t k => XS.iand X0.here hx rfl (hb hby own_d2_98) rfl k) ?_
            show own_G p e below _ (s₁.setTop (mkF m 99 #[.val (.int p0), .val (.int p1), .val (.int p2), .val (.int p3), .val (.int p4), .val (.int (3 : Int32)), .val (.int vg9)] [(.int (p1 &&& (63 : Int32))), (.int (vg9 <<< ((6 : Int32) &&& 31)))]))
            refine own_via (fun t k => XS.ior X0.here hx rfl (hb hby own_d2_99) rfl k) ?_
            show own_G p e below _ (s₁.setTop (mkF m 100 #[.val (.int p0), .val (.int p1), .val (.int p2), .val (.int p3), .val (.int p4), .val (.int (3 : Int32)), .val (.int vg9)] [(.int ((vg9 <<< ((6 : Int32) &&& 31)) ||| (p1 &&& (63 : Int32))))]))
            generalize hvg12 : ((vg9 <<< ((6 : Int32) &&& 31)) ||| (p1 &&& (63 : Int32))) = vg12
            show own_G p e below _ (s₁.setTop (mkF m 100 #[.val (.int p0), .val (.int p1), .val (.int p2), .val (.int p3), .val (.int p4), .val (.int (3 : Int32)), .val (.int vg9)] [(.int vg12)]))
            refine own_via (fun t k => XS.istore X0.here hx rfl (hb hby own_d2_100) rfl (l' := #[.val (.int p0), .val (.int p1), .val (.int p2), .val (.int p3), .val (.int p4), .val (.int (3 : Int32)), .val (.int vg12)]) rfl k) ?_
            show own_G p e below _ (s₁.setTop (mkF m 102 #[.val (.int p0), .val (.int p1), .val (.int p2), .val (.int p3), .val (.int p4), .val (.int (3 : Int32)), .val (.int vg12)] []))
            refine own_via (fun t k => XS.iload X0.here hx rfl (hb hby own_d2_102) rfl k) ?_
            show own_G p e below _ (s₁.setTop (mkF m 104 #[.val (.int p0), .val (.int p1), .val (.int p2), .val (.int p3), .val (.int p4), .val (.int (3 : Int32)), .val (.int vg12)] [(.int (3 : Int32))]))
            refine own_via (fun t k => XS.iconst X0.here hx rfl (hb hby own_d2_104) k) ?_
            show own_G p e below _ (s₁.setTop (mkF m 105 #[.val (.int p0), .val (.int p1), .val (.int p2), .val (.int p3), .val (.int p4), .val (.int (3 : Int32)), .val (.int vg12)] [(.int (3 : Int32)), (.int (3 : Int32))]))
            refine own_via (fun t k => XS.icmpNo X0.here hx rfl (hb hby own_d2_105) rfl (flt (by decide : ¬ ((3 : Int32) < (3 : Int32)))).1 k) ?_
            show own_G p e below _ (s₁.setTop (mkF m 108 #[.val (.int p0), .val (.int p1), .val (.int p2), .val (.int p3), .val (.int p4), .val (.int (3 : Int32)), .val (.int vg12)] []))
            refine own_via (fun t k => XS.iloadN X0.here hx rfl (hb hby own_d2_108) rfl k) ?_
            show own_G p e below _ (s₁.setTop (mkF m 109 #[.val (.int p0), .val (.int p1), .val (.int p2), .val (.int p3), .val (.int p4), .val (.int (3 : Int32)), .val (.int vg12)] [(.int p2)]))
            refine own_via (fun t k => XS.sipush X0.here hx rfl (hb hby own_d2_109) k) ?_
            show own_G p e below _ (s₁.setTop (mkF m 112 #[.val (.int p0), .val (.int p1), .val (.int p2), .val (.int p3), .val (.int p4), .val (.int (3 : Int32)), .val (.int vg12)] [(.int (192 : Int32)), (.int p2)]))
            refine own_via (fun t k => XS.iand X0.here hx rfl (hb hby own_d2_112) rfl k) ?_
            show own_G p e below _ (s₁.setTop (mkF m 113 #[.val (.int p0), .val (.int p1), .val (.int p2), .val (.int p3), .val (.int p4), .val (.int (3 : Int32)), .val (.int vg12)] [(.int (p2 &&& (192 : Int32)))]))
            refine own_via (fun t k => XS.sipush X0.here hx rfl (hb hby own_d2_113) k) ?_
            show own_G p e below _ (s₁.setTop (mkF m 116 #[.val (.int p0), .val (.int p1), .val (.int p2), .val (.int p3), .val (.int p4), .val (.int (3 : Int32)), .val (.int vg12)] [(.int (128 : Int32)), (.int (p2 &&& (192 : Int32)))]))
            by_cases hc13 : (p2 &&& (192 : Int32)) = (128 : Int32)
            ·
              refine own_via (fun t k => XS.icmpYes X0.here hx rfl (pc0 := 116) (pc' := 121) rfl (hb hby own_d2_116) rfl (teq hc13).1 (by decide) (by decide) k) ?_
              show own_G p e below _ (s₁.setTop (mkF m 121 #[.val (.int p0), .val (.int p1), .val (.int p2), .val (.int p3), .val (.int p4), .val (.int (3 : Int32)), .val (.int vg12)] []))
              refine own_via (fun t k => XS.iload X0.here hx rfl (hb hby own_d2_121) rfl k) ?_
              show own_G p e below _ (s₁.setTop (mkF m 123 #[.val (.int p0), .val (.int p1), .val (.int p2), .val (.int p3), .val (.int p4), .val (.int (3 : Int32)), .val (.int vg12)] [(.int vg12)]))
              refine own_via (fun t k => XS.bipush X0.here hx rfl (hb hby own_d2_123) k) ?_
              show own_G p e below _ (s₁.setTop (mkF m 125 #[.val (.int p0), .val (.int p1), .val (.int p2), .val (.int p3), .val (.int p4), .val (.int (3 : Int32)), .val (.int vg12)] [(.int (6 : Int32)), (.int vg12)]))
              refine own_via (fun t k => XS.ishl X0.here hx rfl (hb hby own_d2_125) rfl k) ?_
              show own_G p e below _ (s₁.setTop (mkF m 126 #[.val (.int p0), .val (.int p1), .val (.int p2), .val (.int p3), .val (.int p4), .val (.int (3 : Int32)), .val (.int vg12)] [(.int (vg12 <<< ((6 : Int32) &&& 31)))]))
              refine own_via (fun t k => XS.iloadN X0.here hx rfl (hb hby own_d2_126) rfl k) ?_
              show own_G p e below _ (s₁.setTop (mkF m 127 #[.val (.int p0), .val (.int p1), .val (.int p2), .val (.int p3), .val (.int p4), .val (.int (3 : Int32)), .val (.int vg12)] [(.int p2), (.int (vg12 <<< ((6 : Int32) &&& 31)))]))
              refine own_via (fun t k => XS.bipush X0.here hx rfl (hb hby own_d2_127) k) ?_
              show own_G p e below _ (s₁.setTop (mkF m 129 #[.val (.int p0), .val (.int p1), .val (.int p2), .val (.int p3), .val (.int p4), .val (.int (3 : Int32)), .val (.int vg12)] [(.int (63 : Int32)), (.int p2), (.int (vg12 <<< ((6 : Int32) &&& 31)))]))
              refine own_via (fun t k => XS.iand X0.here hx rfl (hb hby own_d2_129) rfl k) ?_
              show own_G p e below _ (s₁.setTop (mkF m 130 #[.val (.int p0), .val (.int p1), .val (.int p2), .val (.int p3), .val (.int p4), .val (.int (3 : Int32)), .val (.int vg12)] [(.int (p2 &&& (63 : Int32))), (.int (vg12 <<< ((6 : Int32) &&& 31)))]))
              refine own_via (fun t k => XS.ior X0.here hx rfl (hb hby own_d2_130) rfl k) ?_
              show own_G p e below _ (s₁.setTop (mkF m 131 #[.val (.int p0), .val (.int p1), .val (.int p2), .val (.int p3), .val (.int p4), .val (.int (3 : Int32)), .val (.int vg12)] [(.int ((vg12 <<< ((6 : Int32) &&& 31)) ||| (p2 &&& (63 : Int32))))]))
              generalize hvg14 : ((vg12 <<< ((6 : Int32) &&& 31)) ||| (p2 &&& (63 : Int32))) = vg14
              show own_G p e below _ (s₁.setTop (mkF m 131 #[.val (.int p0), .val (.int p1), .val (.int p2), .val (.int p3), .val (.int p4), .val (.int (3 : Int32)), .val (.int vg12)] [(.int vg14)]))
              refine own_via (fun t k => XS.istore X0.here hx rfl (hb hby own_d2_131) rfl (l' := #[.val (.int p0), .val (.int p1), .val (.int p2), .val (.int p3), .val (.int p4), .val (.int (3 : Int32)), .val (.int vg14)]) rfl k) ?_
              show own_G p e below _ (s₁.setTop (mkF m 133 #[.val (.int p0), .val (.int p1), .val (.int p2), .val (.int p3), .val (.int p4), .val (.int (3 : Int32)), .val (.int vg14)] []))
              refine own_via (fun t k => XS.iload X0.here hx rfl (hb hby own_d2_133) rfl k) ?_
              show own_G p e below _ (s₁.setTop (mkF m 135 #[.val (.int p0), .val (.int p1), .val (.int p2), .val (.int p3), .val (.int p4), .val (.int (3 : Int32)), .val (.int vg14)] [(.int (3 : Int32))]))
              refine own_via (fun t k => XS.iconst X0.here hx rfl (hb hby own_d2_135) k) ?_
              show own_G p e below _ (s₁.setTop (mkF m 136 #[.val (.int p0), .val (.int p1), .val (.int p2), .val (.int p3), .val (.int p4), .val (.int (3 : Int32)), .val (.int vg14)] [(.int (4 : Int32)), (.int (3 : Int32))]))
              refine own_via (fun t k => XS.icmpYes X0.here hx rfl (pc0 := 136) (pc' := 164) rfl (hb hby own_d2_136) rfl (feq (by decide : ¬ ((3 : Int32) = (4 : Int32)))).2 (by decide) (by decide) k) ?_
              show own_G p e below _ (s₁.setTop (mkF m 164 #[.val (.int p0), .val (.int p1), .val (.int p2), .val (.int p3), .val (.int p4), .val (.int (3 : Int32)), .val (.int vg14)] []))
              refine own_via (fun t k => XS.iload X0.here hx rfl (hb hby own_d2_164) rfl k) ?_
              show own_G p e below _ (s₁.setTop (mkF m 166 #[.val (.int p0), .val (.int p1), .val (.int p2), .val (.int p3), .val (.int p4), .val (.int (3 : Int32)), .val (.int vg14)] [(.int (3 : Int32))]))
              refine own_via (fun t k => XS.iconst X0.here hx rfl (hb hby own_d2_166) k) ?_
              show own_G p e below _ (s₁.setTop (mkF m 167 #[.val (.int p0), .val (.int p1), .val (.int p2), .val (.int p3), .val (.int p4), .val (.int (3 : Int32)), .val (.int vg14)] [(.int (2 : Int32)), (.int (3 : Int32))]))
              refine own_via (fun t k => XS.icmpYes X0.here hx rfl (pc0 := 167) (pc' := 184) rfl (hb hby own_d2_167) rfl (feq (by decide : ¬ ((3 : Int32) = (2 : Int32)))).2 (by decide) (by decide) k) ?_
              show own_G p e below _ (s₁.setTop (mkF m 184 #[.val (.int p0), .val (.int p1), .val (.int p2), .val (.int p3), .val (.int p4), .val (.int (3 : Int32)), .val (.int vg14)] []))
              refine own_via (fun t k => XS.iload X0.here hx rfl (hb hby own_d2_184) rfl k) ?_
              show own_G p e below _ (s₁.setTop (mkF m 186 #[.val (.int p0), .val (.int p1), .val (.int p2), .val (.int p3), .val (.int p4), .val (.int (3 : Int32)), .val (.int vg14)] [(.int (3 : Int32))]))
              refine own_via (fun t k => XS.iconst X0.here hx rfl (hb hby own_d2_186) k) ?_
              show own_G p e below _ (s₁.setTop (mkF m 187 #[.val (.int p0), .val (.int p1), .val (.int p2), .val (.int p3), .val (.int p4), .val (.int (3 : Int32)), .val (.int vg14)] [(.int (3 : Int32)), (.int (3 : Int32))]))
              refine own_via (fun t k => XS.icmpNo X0.here hx rfl (hb hby own_d2_187) rfl (teq (by decide : (3 : Int32) = (3 : Int32))).2 k) ?_
              show own_G p e below _ (s₁.setTop (mkF m 190 #[.val (.int p0), .val (.int p1), .val (.int p2), .val (.int p3), .val (.int p4), .val (.int (3 : Int32)), .val (.int vg14)] []))
              refine own_via (fun t k => XS.iload X0.here hx rfl (hb hby own_d2_190) rfl k) ?_
              show own_G p e below _ (s₁.setTop (mkF m 192 #[.val (.int p0), .val (.int p1), .val (.int p2), .val (.int p3), .val (.int p4), .val (.int (3 : Int32)), .val (.int vg14)] [(.int vg14)]))
              refine own_via (fun t k => XS.sipush X0.here hx rfl (hb hby own_d2_192) k) ?_
              show own_G p e below _ (s₁.setTop (mkF m 195 #[.val (.int p0), .val (.int p1), .val (.int p2), .val (.int p3), .val (.int p4), .val (.int (3 : Int32)), .val (.int vg14)] [(.int (2048 : Int32)), (.int vg14)]))
              by_cases hc15 : vg14 < (2048 : Int32)
              ·
                refine own_via (fun t k => XS.icmpNo X0.here hx rfl (hb hby own_d2_195) rfl (tlt hc15).2.1 k) ?_
                show own_G p e below _ (s₁.setTop (mkF m 198 #[.val (.int p0), .val (.int p1), .val (.int p2), .val (.int p3), .val (.int p4), .val (.int (3 : Int32)), .val (.int vg14)] []))
                refine own_via (fun t k => XS.iconst X0.here hx rfl (hb hby own_d2_198) k) ?_
                show own_G p e below _ (s₁.setTop (mkF m 199 #[.val (.int p0), .val (.int p1), .val (.int p2), .val (.int p3), .val (.int p4), .val (.int (3 : Int32)), .val (.int vg14)] [(.int (-1 : Int32))]))
                exact own_retI X0 hx Bd.returns Bd.notSynchronized (hb hby own_d2_199) ⟨by show (some (.int (-1 : Int32)) : Option Value) = some (.int (own_F2 p0 p1 p2 p3 p4)); subst hvg14; subst hvg12; subst hvg9; simp only [own_F2, if_neg hc1, if_neg hc2, if_pos hc8, if_neg hc10, if_pos hc11, if_pos hc13, if_pos hc15], rfl, e0⟩ (by decide) (by decide)
              ·
                refine own_via (fun t k => XS.icmpYes X0.here hx rfl (pc0 := 195) (pc' := 200) rfl (hb hby own_d2_195) rfl (flt hc15).2.1 (by decide) (by decide) k) ?_
                show own_G p e below _ (s₁.setTop (mkF m 200 #[.val (.int p0), .val (.int p1), .val (.int p2), .val (.int p3), .val (.int p4), .val (.int (3 : Int32)), .val (.int vg14)] []))
                refine own_via (fun t k => XS.iload X0.here hx rfl (hb hby own_d2_200) rfl k) ?_
                show own_G p e below _ (s₁.setTop (mkF m 202 #[.val (.int p0), .val (.int p1), .val (.int p2), .val (.int p3), .val (.int p4), .val (.int (3 : Int32)), .val (.int vg14)] [(.int vg14)]))
                refine own_via (X0.ldcInt hx hown (mvT hZ (hw _ (List.mem_of_getElem? (i := 9) rfl))) (g := (mkF m 202 #[.val (.int p0), .val (.int p1), .val (.int p2), .val (.int p3), .val (.int p4), .val (.int (3 : Int32)), .val (.int vg14)] [(.int vg14)])) rfl (hb hby own_d2_202)) ?_
                show own_G p e below _ (s₁.setTop (mkF m 204 #[.val (.int p0), .val (.int p1), .val (.int p2), .val (.int p3), .val (.int p4), .val (.int (3 : Int32)), .val (.int vg14)] [(.int (55296 : Int32)), (.int vg14)]))
                by_cases hc16 : vg14 < (55296 : Int32)
                ·
                  refine own_via (fun t k => XS.icmpYes X0.here hx rfl (pc0 := 204) (pc' := 216) rfl (hb hby own_d2_204) rfl (tlt hc16).1 (by decide) (by decide) k) ?_
                  show own_G p e below _ (s₁.setTop (mkF m 216 #[.val (.int p0), .val (.int p1), .val (.int p2), .val (.int p3), .val (.int p4), .val (.int (3 : Int32)), .val (.int vg14)] []))
                  refine own_via (fun t k => XS.iconst X0.here hx rfl (hb hby own_d2_216) k) ?_
                  show own_G p e below _ (s₁.setTop (mkF m 217 #[.val (.int p0), .val (.int p1), .val (.int p2), .val (.int p3), .val (.int p4), .val (.int (3 : Int32)), .val (.int vg14)] [(.int (3 : Int32))]))
                  exact own_retI X0 hx Bd.returns Bd.notSynchronized (hb hby own_d2_217) ⟨by show (some (.int (3 : Int32)) : Option Value) = some (.int (own_F2 p0 p1 p2 p3 p4)); subst hvg14; subst hvg12; subst hvg9; simp only [own_F2, if_neg hc1, if_neg hc2, if_pos hc8, if_neg hc10, if_pos hc11, if_pos hc13, if_neg hc15, if_pos hc16], rfl, e0⟩ (by decide) (by decide)
                ·
                  refine own_via (fun t k => XS.icmpNo X0.here hx rfl (hb hby own_d2_204) rfl (flt hc16).1 k) ?_
                  show own_G p e below _ (s₁.setTop (mkF m 207 #[.val (.int p0), .val (.int p1), .val (.int p2), .val (.int p3), .val (.int p4), .val (.int (3 : Int32)), .val (.int vg14)] []))
                  refine own_via (fun t k => XS.iload X0.here hx rfl (hb hby own_d2_207) rfl k) ?_
                  show own_G p e below _ (s₁.setTop (mkF m 209 #[.val (.int p0), .val (.int p1), .val (.int p2), .val (.int p3), .val (.int p4), .val (.int (3 : Int32)), .val (.int vg14)] [(.int vg14)]))
                  refine own_via (X0.ldcInt hx hown (mvT hZ (hw _ (List.mem_of_getElem? (i := 10) rfl))) (g := (mkF m 209 #[.val (.int p0), .val (.int p1), .val (.int p2), .val (.int p3), .val (.int p4), .val (.int (3 : Int32)), .val (.int vg14)] [(.int vg14)])) rfl (hb hby own_d2_209)) ?_
                  show own_G p e below _ (s₁.setTop (mkF m 211 #[.val (.int p0), .val (.int p1), .val (.int p2), .val (.int p3), .val (.int p4), .val (.int (3 : Int32)), .val (.int vg14)] [(.int (57343 : Int32)), (.int vg14)]))
                  by_cases hc17 : (57343 : Int32) < vg14
                  ·
                    refine own_via (fun t k => XS.icmpYes X0.here hx rfl (pc0 := 211) (pc' := 216) rfl (hb hby own_d2_211) rfl (tlt hc17).2.2.1 (by decide) (by decide) k) ?_
                    show own_G p e below _ (s₁.setTop (mkF m 216 #[.val (.int p0), .val (.int p1), .val (.int p2), .val (.int p3), .val (.int p4), .val (.int (3 : Int32)), .val (.int vg14)] []))
                    refine own_via (fun t k => XS.iconst X0.here hx rfl (hb hby own_d2_216) k) ?_
                    show own_G p e below _ (s₁.setTop (mkF m 217 #[.val (.int p0), .val (.int p1), .val (.int p2), .val (.int p3), .val (.int p4), .val (.int (3 : Int32)), .val (.int vg14)] [(.int (3 : Int32))]))
                    exact own_retI X0 hx Bd.returns Bd.notSynchronized (hb hby own_d2_217) ⟨by show (some (.int (3 : Int32)) : Option Value) = some (.int (own_F2 p0 p1 p2 p3 p4)); subst hvg14; subst hvg12; subst hvg9; simp only [own_F2, if_neg hc1, if_neg hc2, if_pos hc8, if_neg hc10, if_pos hc11, if_pos hc13, if_neg hc15, if_neg hc16, if_pos hc17], rfl, e0⟩ (by decide) (by decide)
                  ·
                    refine own_via (fun t k => XS.icmpNo X0.here hx rfl (hb hby own_d2_211) rfl (flt hc17).2.2.1 k) ?_
                    show own_G p e below _ (s₁.setTop (mkF m 214 #[.val (.int p0), .val (.int p1), .val (.int p2), .val (.int p3), .val (.int p4), .val (.int (3 : Int32)), .val (.int vg14)] []))
                    refine own_via (fun t k => XS.iconst X0.here hx rfl (hb hby own_d2_214) k) ?_
                    show own_G p e below _ (s₁.setTop (mkF m 215 #[.val (.int p0), .val (.int p1), .val (.int p2), .val (.int p3), .val (.int p4), .val (.int (3 : Int32)), .val (.int vg14)] [(.int (-1 : Int32))]))
                    exact own_retI X0 hx Bd.returns Bd.notSynchronized (hb hby own_d2_215) ⟨by show (some (.int (-1 : Int32)) : Option Value) = some (.int (own_F2 p0 p1 p2 p3 p4)); subst hvg14; subst hvg12; subst hvg9; simp only [own_F2, if_neg hc1, if_neg hc2, if_pos hc8, if_neg hc10, if_pos hc11, if_pos hc13, if_neg hc15, if_neg hc16, if_neg hc17], rfl, e0⟩ (by decide) (by decide)
            ·
              refine own_via (fun t k => XS.icmpNo X0.here hx rfl (hb hby own_d2_116) rfl (feq hc13).1 k) ?_
              show own_G p e below _ (s₁.setTop (mkF m 119 #[.val (.int p0), .val (.int p1), .val (.int p2), .val (.int p3), .val (.int p4), .val (.int (3 : Int32)), .val (.int vg12)] []))
              refine own_via (fun t k => XS.iconst X0.here hx rfl (hb hby own_d2_119) k) ?_
              show own_G p e below _ (s₁.setTop (mkF m 120 #[.val (.int p0), .val (.int p1), .val (.int p2), .val (.int p3), .val (.int p4), .val (.int (3 : Int32)), .val (.int vg12)] [(.int (-1 : Int32))]))
              exact own_retI X0 hx Bd.returns Bd.notSynchronized (hb hby own_d2_120) ⟨by show (some (.int (-1 : Int32)) : Option Value) = some (.int (own_F2 p0 p1 p2 p3 p4)); subst hvg12; subst hvg9; simp only [own_F2, if_neg hc1, if_neg hc2, if_pos hc8, if_neg hc10, if_pos hc11, if_neg hc13], rfl, e0⟩ (by decide) (by decide)
          ·
            refine own_via (fun t k => XS.icmpNo X0.here hx rfl (hb hby own_d2_85) rfl (feq hc11).1 k) ?_
            show own_G p e below _ (s₁.setTop (mkF m 88 #[.val (.int p0), .val (.int p1), .val (.int p2), .val (.int p3), .val (.int p4), .val (.int (3 : Int32)), .val (.int vg9)] []))
            refine own_via (fun t k => XS.iconst X0.here hx rfl (hb hby own_d2_88) k) ?_
            show own_G p e below _ (s₁.setTop (mkF m 89 #[.val (.int p0), .val (.int p1), .val (.int p2), .val (.int p3), .val (.int p4), .val (.int (3 : Int32)), .val (.int vg9)] [(.int (-1 : Int32))]))
            exact own_retI X0 hx Bd.returns Bd.notSynchronized (hb hby own_d2_89) ⟨by show (some (.int (-1 : Int32)) : Option Value) = some (.int (own_F2 p0 p1 p2 p3 p4)); subst hvg9; simp only [own_F2, if_neg hc1, if_neg hc2, if_pos hc8, if_neg hc10, if_neg hc11], rfl, e0⟩ (by decide) (by decide)
      ·
        refine own_via (fun t k => XS.icmpYes X0.here hx rfl (pc0 := 32) (pc' := 47) rfl (hb hby own_d2_32) rfl (flt hc8).2.1 (by decide) (by decide) k) ?_
        show own_G p e below _ (s₁.setTop (mkF m 47 #[.val (.int p0), .val (.int p1), .val (.int p2), .val (.int p3), .val (.int p4), .unset, .unset] []))
        refine own_via (fun t k => XS.iloadN X0.here hx rfl (hb hby own_d2_47) rfl k) ?_
        show own_G p e below _ (s₁.setTop (mkF m 48 #[.val (.int p0), .val (.int p1), .val (.int p2), .val (.int p3), .val (.int p4), .unset, .unset] [(.int p0)]))
        refine own_via (fun t k => XS.sipush X0.here hx rfl (hb hby own_d2_48) k) ?_
        show own_G p e below _ (s₁.setTop (mkF m 51 #[.val (.int p0), .val (.int p1), .val (.int p2), .val (.int p3), .val (.int p4), .unset, .unset] [(.int (248 : Int32)), (.int p0)]))
        by_cases hc18 : p0 < (248 : Int32)
        ·
          refine own_via (fun t k => XS.icmpNo X0.here hx rfl (hb hby own_d2_51) rfl (tlt hc18).2.1 k) ?_
          show own_G p e below _ (s₁.setTop (mkF m 54 #[.val (.int p0), .val (.int p1), .val (.int p2), .val (.int p3), .val (.int p4), .unset, .unset] []))
          refine own_via (fun t k => XS.iconst X0.here hx rfl (hb hby own_d2_54) k) ?_
          show own_G p e below _ (s₁.setTop (mkF m 55 #[.val (.int p0), .val (.int p1), .val (.int p2), .val (.int p3), .val (.int p4), .unset, .unset] [(.int (4 : Int32))]))
          refine own_via (fun t k => XS.istore X0.here hx rfl (hb hby own_d2_55) rfl (l' := #[.val (.int p0), .val (.int p1), .val (.int p2), .val (.int p3), .val (.int p4), .val (.int (4 : Int32)), .unset]) rfl k) ?_
          show own_G p e below _ (s₁.setTop (mkF m 57 #[.val (.int p0), .val (.int p1), .val (.int p2), .val (.int p3), .val (.int p4), .val (.int (4 : Int32)), .unset] []))
          refine own_via (fun t k => XS.iloadN X0.here hx rfl (hb hby own_d2_57) rfl k) ?_
          show own_G p e below _ (s₁.setTop (mkF m 58 #[.val (.int p0), .val (.int p1), .val (.int p2), .val (.int p3), .val (.int p4), .val (.int (4 : Int32)), .unset] [(.int p0)]))
          refine own_via (fun t k => XS.bipush X0.here hx rfl (hb hby own_d2_58) k) ?_
          show own_G p e below _ (s₁.setTop (mkF m 60 #[.val (.int p0), .val (.int p1), .val (.int p2), .val (.int p3), .val (.int p4), .val (.int (4 : Int32)), .unset] [(.int (7 : Int32)), (.int p0)]))
          refine own_via (fun t k => XS.iand X0.here hx rfl (hb hby own_d2_60) rfl k) ?_
          show own_G p e below _ (s₁.setTop (mkF m 61 #[.val (.int p0), .val (.int p1), .val (.int p2), .val (.int p3), .val (.int p4), .val (.int (4 : Int32)), .unset] [(.int (p0 &&& (7 : Int32)))]))
          generalize hvg19 : (p0 &&& (7 : Int32)) = vg19
          show own_G p e below _ (s₁.setTop (mkF m 61 #[.val (.int p0), .val (.int p1), .val (.int p2), .val (.int p3), .val (.int p4), .val (.int (4 : Int32)), .unset] [(.int vg19)]))
          refine own_via (fun t k => XS.istore X0.here hx rfl (hb hby own_d2_61) rfl (l' := #[.val (.int p0), .val (.int p1), .val (.int p2), .val (.int p3), .val (.int p4), .val (.int (4 : Int32)), .val (.int vg19)]) rfl k) ?_
          show own_G p e below _ (s₁.setTop (mkF m 63 #[.val (.int p0), .val (.int p1), .val (.int p2), .val (.int p3), .val (.int p4), .val (.int (4 : Int32)), .val (.int vg19)] []))
          refine own_via (fun t k => XS.goto X0.here hx rfl (pc0 := 63) (pc' := 68) rfl (hb hby own_d2_63) (by decide) (by decide) k) ?_
          show own_G p e below _ (s₁.setTop (mkF m 68 #[.val (.int p0), .val (.int p1), .val (.int p2), .val (.int p3), .val (.int p4), .val (.int (4 : Int32)), .val (.int vg19)] []))
          refine own_via (fun t k => XS.iload X0.here hx rfl (hb hby own_d2_68) rfl k) ?_
          show own_G p e below _ (s₁.setTop (mkF m 70 #[.val (.int p0), .val (.int p1), .val (.int p2), .val (.int p3), .val (.int p4), .val (.int (4 : Int32)), .val (.int vg19)] [(.int p4)]))
          refine own_via (fun t k => XS.iload X0.here hx rfl (hb hby own_d2_70) rfl k) ?_
          show own_G p e below _ (s₁.setTop (mkF m 72 #[.val (.int p0), .val (.int p1), .val (.int p2), .val (.int p3), .val (.int p4), .val (.int (4 : Int32)), .val (.int vg19)] [(.int (4 : Int32)), (.int p4)]))
          by_cases hc20 : p4 < (4 : Int32)
          ·
            refine own_via (fun t k => XS.icmpNo X0.here hx rfl (hb hby own_d2_72) rfl (tlt hc20).2.1 k) ?_
            show own_G p e below _ (s₁.setTop (mkF m 75 #[.val (.int p0), .val (.int p1), .val (.int p2), .val (.int p3), .val (.int p4), .val (.int (4 : Int32)), .val (.int vg19)] []))
            refine own_via (fun t k => XS.iconst X0.here hx rfl (hb hby own_d2_75) k) ?_
            show own_G p e below _ (s₁.setTop (mkF m 76 #[.val (.int p0), .val (.int p1), .val (.int p2), .val (.int p3), .val (.int p4), .val (.int (4 : Int32)), .val (.int vg19)] [(.int (-1 : Int32))]))
            exact own_retI X0 hx Bd.returns Bd.notSynchronized (hb hby own_d2_76) ⟨by show (some (.int (-1 : Int32)) : Option Value) = some (.int (own_F2 p0 p1 p2 p3 p4)); subst hvg19; simp only [own_F2, if_neg hc1, if_neg hc2, if_neg hc8, if_pos hc18, if_pos hc20], rfl, e0⟩ (by decide) (by decide)
          ·
            refine own_via (fun t k => XS.icmpYes X0.here hx rfl (pc0 := 72) (pc' := 77) rfl (hb hby own_d2_72) rfl (flt hc20).2.1 (by decide) (by decide) k) ?_
            show own_G p e below _ (s₁.setTop (mkF m 77 #[.val (.int p0), .val (.int p1), .val (.int p2), .val (.int p3), .val (.int p4), .val (.int (4 : Int32)), .val (.int vg19)] []))
            refine own_via (fun t k => XS.iloadN X0.here hx rfl (hb hby own_d2_77) rfl k) ?_
            show own_G p e below _ (s₁.setTop (mkF m 78 #[.val (.int p0), .val (.int p1), .val (.int p2), .val (.int p3), .val (.int p4), .val (.int (4 : Int32)), .val (.int vg19)] [(.int p1)]))
            refine own_via (fun t k => XS.sipush X0.here hx rfl (hb hby own_d2_78) k) ?_
            show own_G p e below _ (s₁.setTop (mkF m 81 #[.val (.int p0), .val (.int p1), .val (.int p2), .val (.int p3), .val (.int p4), .val (.int (4 : Int32)), .val (.int vg19)] [(.int (192 : Int32)), (.int p1)]))
            refine own_via (fun t k => XS.iand X0.here hx rfl (hb hby own_d2_81) rfl k) ?_
            show own_G p e below _ (s₁.setTop (mkF m 82 #[.val (.int p0), .val (.int p1), .val (.int p2), .val (.int p3), .val (.int p4), .val (.int (4 : Int32)), .val (.int vg19)] [(.int (p1 &&& (192 : Int32)))]))
            refine own_via (fun t k => XS.sipush X0.here hx rfl (hb hby own_d2_82) k) ?_
            show own_G p e below _ (s₁.setTop (mkF m 85 #[.val (.int p0), .val (.int p1), .val (.int p2), .val (.int p3), .val (.int p4), .val (.int (4 : Int32)), .val (.int vg19)] [(.int (128 : Int32)), (.int (p1 &&& (192 : Int32)))]))
            by_cases hc21 : (p1 &&& (192 : Int32)) = (128 : Int32)
            ·
              refine own_via (fun t k => XS.icmpYes X0.here hx rfl (pc0 := 85) (pc' := 90) rfl (hb hby own_d2_85) rfl (teq hc21).1 (by decide) (by decide) k) ?_
              show own_G p e below _ (s₁.setTop (mkF m 90 #[.val (.int p0), .val (.int p1), .val (.int p2), .val (.int p3), .val (.int p4), .val (.int (4 : Int32)), .val (.int vg19)] []))
              refine own_via (fun t k => XS.iload X0.here hx rfl (hb hby own_d2_90) rfl k) ?_
              show own_G p e below _ (s₁.setTop (mkF m 92 #[.val (.int p0), .val (.int p1), .val (.int p2), .val (.int p3), .val (.int p4), .val (.int (4 : Int32)), .val (.int vg19)] [(.int vg19)]))
              refine own_via (fun t k => XS.bipush X0.here hx rfl (hb hby own_d2_92) k) ?_
              show own_G p e below _ (s₁.setTop (mkF m 94 #[.val (.int p0), .val (.int p1), .val (.int p2), .val (.int p3), .val (.int p4), .val (.int (4 : Int32)), .val (.int vg19)] [(.int (6 : Int32)), (.int vg19)]))
              refine own_via (fun t k => XS.ishl X0.here hx rfl (hb hby own_d2_94) rfl k) ?_
              show own_G p e below _ (s₁.setTop (mkF m 95 #[.val (.int p0), .val (.int p1), .val (.int p2), .val (.int p3), .val (.int p4), .val (.int (4 : Int32)), .val (.int vg19)] [(.int (vg19 <<< ((6 : Int32) &&& 31)))]))
              refine own_via (fun t k => XS.iloadN X0.here hx rfl (hb hby own_d2_95) rfl k) ?_
              show own_G p e below _ (s₁.setTop (mkF m 96 #[.val (.int p0), .val (.int p1), .val (.int p2), .val (.int p3), .val (.int p4), .val (.int (4 : Int32)), .val (.int vg19)] [(.int p1), (.int (vg19 <<< ((6 : Int32) &&& 31)))]))
              refine own_via (fun t k => XS.bipush X0.here hx rfl (hb hby own_d2_96) k) ?_
              show own_G p e below _ (s₁.setTop (mkF m 98 #[.val (.int p0), .val (.int p1), .val (.int p2), .val (.int p3), .val (.int p4), .val (.int (4 : Int32)), .val (.int vg19)] [(.int (63 : Int32)), (.int p1), (.int (vg19 <<< ((6 : Int32) &&& 31)))]))
              refine own_via (fun t k => XS.iand X0.here hx rfl (hb hby own_d2_98) rfl k) ?_
              show own_G p e below _ (s₁.setTop (mkF m 99 #[.val (.int p0), .val (.int p1), .val (.int p2), .val (.int p3), .val (.int p4), .val (.int (4 : Int32)), .val (.int vg19)] [(.int (p1 &&& (63 : Int32))), (.int (vg19 <<< ((6 : Int32) &&& 31)))]))
              refine own_via (fun t k => XS.ior X0.here hx rfl (hb hby own_d2_99) rfl k) ?_
              show own_G p e below _ (s₁.setTop (mkF m 100 #[.val (.int p0), .val (.int p1), .val (.int p2), .val (.int p3), .val (.int p4), .val (.int (4 : Int32)), .val (.int vg19)] [(.int ((vg19 <<< ((6 : Int32) &&& 31)) ||| (p1 &&& (63 : Int32))))]))
              generalize hvg22 : ((vg19 <<< ((6 : Int32) &&& 31)) ||| (p1 &&& (63 : Int32))) = vg22
              show own_G p e below _ (s₁.setTop (mkF m 100 #[.val (.int p0), .val (.int p1), .val (.int p2), .val (.int p3), .val (.int p4), .val (.int (4 : Int32)), .val (.int vg19)] [(.int vg22)]))
              refine own_via (fun t k => XS.istore X0.here hx rfl (hb hby own_d2_100) rfl (l' := #[.val (.int p0), .val (.int p1), .val (.int p2), .val (.int p3), .val (.int p4), .val (.int (4 : Int32)), .val (.int vg22)]) rfl k) ?_
              show own_G p e below _ (s₁.setTop (mkF m 102 #[.val (.int p0), .val (.int p1), .val (.int p2), .val (.int p3), .val (.int p4), .val (.int (4 : Int32)), .val (.int vg22)] []))
              refine own_via (fun t k => XS.iload X0.here hx rfl (hb hby own_d2_102) rfl k) ?_
              show own_G p e below _ (s₁.setTop (mkF m 104 #[.val (.int p0), .val (.int p1), .val (.int p2), .val (.int p3), .val (.int p4), .val (.int (4 : Int32)), .val (.int vg22)] [(.int (4 : Int32))]))
              refine own_via (fun t k => XS.iconst X0.here hx rfl (hb hby own_d2_104) k) ?_
              show own_G p e below _ (s₁.setTop (mkF m 105 #[.val (.int p0), .val (.int p1), .val (.int p2), .val (.int p3), .val (.int p4), .val (.int (4 : Int32)), .val (.int vg22)] [(.int (3 : Int32)), (.int (4 : Int32))]))
              refine own_via (fun t k => XS.icmpNo X0.here hx rfl (hb hby own_d2_105) rfl (flt (by decide : ¬ ((4 : Int32) < (3 : Int32)))).1 k) ?_
              show own_G p e below _ (s₁.setTop (mkF m 108 #[.val (.int p0), .val (.int p1), .val (.int p2), .val (.int p3), .val (.int p4), .val (.int (4 : Int32)), .val (.int vg22)] []))
              refine own_via (fun t k => XS.iloadN X0.here hx rfl (hb hby own_d2_108) rfl k) ?_
              show own_G p e below _ (s₁.setTop (mkF m 109 #[.val (.int p0), .val (.int p1), .val (.int p2), .val (.int p3), .val (.int p4), .val (.int (4 : Int32)), .val (.int vg22)] [(.int p2)]))
              refine own_via (fun t k => XS.sipush X0.here hx rfl (hb hby own_d2_109) k) ?_
              show own_G p e below _ (s₁.setTop (mkF m 112 #[.val (.int p0), .val (.int p1), .val (.int p2), .val (.int p3), .val (.int p4), .val (.int (4 : Int32)), .val (.int vg22)] [(.int (192 : Int32)), (.int p2)]))
              refine own_via (fun t k => XS.iand X0.here hx rfl (hb hby own_d2_112) rfl k) ?_
              show own_G p e below _ (s₁.setTop (mkF m 113 #[.val (.int p0), .val (.int p1), .val (.int p2), .val (.int p3), .val (.int p4), .val (.int (4 : Int32)), .val (.int vg22)] [(.int (p2 &&& (192 : Int32)))]))
              refine own_via (fun t k => XS.sipush X0.here hx rfl (hb hby own_d2_113) k) ?_
              show own_G p e below _ (s₁.setTop (mkF m 116 #[.val (.int p0), .val (.int p1), .val (.int p2), .val (.int p3), .val (.int p4), .val (.int (4 : Int32)), .val (.int vg22)] [(.int (128 : Int32)), (.int (p2 &&& (192 : Int32)))]))
              by_cases hc23 : (p2 &&& (192 : Int32)) = (128 : Int32)
              ·
                refine own_via (fun t k => XS.icmpYes X0.here hx rfl (pc0 := 116) (pc' := 121) rfl (hb hby own_d2_116) rfl (teq hc23).1 (by decide) (by decide) k) ?_
                show own_G p e below _ (s₁.setTop (mkF m 121 #[.val (.int p0), .val (.int p1), .val (.int p2), .val (.int p3), .val (.int p4), .val (.int (4 : Int32)), .val (.int vg22)] []))
                refine own_via (fun t k => XS.iload X0.here hx rfl (hb hby own_d2_121) rfl k) ?_
                show own_G p e below _ (s₁.setTop (mkF m 123 #[.val (.int p0), .val (.int p1), .val (.int p2), .val (.int p3), .val (.int p4), .val (.int (4 : Int32)), .val (.int vg22)] [(.int vg22)]))
                refine own_via (fun t k => XS.bipush X0.here hx rfl (hb hby own_d2_123) k) ?_
                show own_G p e below _ (s₁.setTop (mkF m 125 #[.val (.int p0), .val (.int p1), .val (.int p2), .val (.int p3), .val (.int p4), .val (.int (4 : Int32)), .val (.int vg22)] [(.int (6 : Int32)), (.int vg22)]))
                refine own_via (fun t k => XS.ishl X0.here hx rfl (hb hby own_d2_125) rfl k) ?_
                show own_G p e below _ (s₁.setTop (mkF m 126 #[.val (.int p0), .val (.int p1), .val (.int p2), .val (.int p3), .val (.int p4), .val (.int (4 : Int32)), .val (.int vg22)] [(.int (vg22 <<< ((6 : Int32) &&& 31)))]))
                refine own_via (fun t k => XS.iloadN X0.here hx rfl (hb hby own_d2_126) rfl k) ?_
                show own_G p e below _ (s₁.setTop (mkF m 127 #[.val (.int p0), .val (.int p1), .val (.int p2), .val (.int p3), .val (.int p4), .val (.int (4 : Int32)), .val (.int vg22)] [(.int p2), (.int (vg22 <<< ((6 : Int32) &&& 31)))]))
                refine own_via (fun t k => XS.bipush X0.here hx rfl (hb hby own_d2_127) k) ?_
                show own_G p e below _ (s₁.setTop (mkF m 129 #[.val (.int p0), .val (.int p1), .val (.int p2), .val (.int p3), .val (.int p4), .val (.int (4 : Int32)), .val (.int vg22)] [(.int (63 : Int32)), (.int p2), (.int (vg22 <<< ((6 : Int32) &&& 31)))]))
                refine own_via (fun t k => XS.iand X0.here hx rfl (hb hby own_d2_129) rfl k) ?_
                show own_G p e below _ (s₁.setTop (mkF m 130 #[.val (.int p0), .val (.int p1), .val (.int p2), .val (.int p3), .val (.int p4), .val (.int (4 : Int32)), .val (.int vg22)] [(.int (p2 &&& (63 : Int32))), (.int (vg22 <<< ((6 : Int32) &&& 31)))]))
                refine own_via (fun t k => XS.ior X0.here hx rfl (hb hby own_d2_130) rfl k) ?_
                show own_G p e below _ (s₁.setTop (mkF m 131 #[.val (.int p0), .val (.int p1), .val (.int p2), .val (.int p3), .val (.int p4), .val (.int (4 : Int32)), .val (.int vg22)] [(.int ((vg22 <<< ((6 : Int32) &&& 31)) ||| (p2 &&& (63 : Int32))))]))
                generalize hvg24 : ((vg22 <<< ((6 : Int32) &&& 31)) ||| (p2 &&& (63 : Int32))) = vg24
                show own_G p e below _ (s₁.setTop (mkF m 131 #[.val (.int p0), .val (.int p1), .val (.int p2), .val (.int p3), .val (.int p4), .val (.int (4 : Int32)), .val (.int vg22)] [(.int vg24)]))
                refine own_via (fun t k => XS.istore X0.here hx rfl (hb hby own_d2_131) rfl (l' := #[.val (.int p0), .val (.int p1), .val (.int p2), .val (.int p3), .val (.int p4), .val (.int (4 : Int32)), .val (.int vg24)]) rfl k) ?_
                show own_G p e below _ (s₁.setTop (mkF m 133 #[.val (.int p0), .val (.int p1), .val (.int p2), .val (.int p3), .val (.int p4), .val (.int (4 : Int32)), .val (.int vg24)] []))
                refine own_via (fun t k => XS.iload X0.here hx rfl (hb hby own_d2_133) rfl k) ?_
                show own_G p e below _ (s₁.setTop (mkF m 135 #[.val (.int p0), .val (.int p1), .val (.int p2), .val (.int p3), .val (.int p4), .val (.int (4 : Int32)), .val (.int vg24)] [(.int (4 : Int32))]))
                refine own_via (fun t k => XS.iconst X0.here hx rfl (hb hby own_d2_135) k) ?_
                show own_G p e below _ (s₁.setTop (mkF m 136 #[.val (.int p0), .val (.int p1), .val (.int p2), .val (.int p3), .val (.int p4), .val (.int (4 : Int32)), .val (.int vg24)] [(.int (4 : Int32)), (.int (4 : Int32))]))
                refine own_via (fun t k => XS.icmpNo X0.here hx rfl (hb hby own_d2_136) rfl (teq (by decide : (4 : Int32) = (4 : Int32))).2 k) ?_
                show own_G p e below _ (s₁.setTop (mkF m 139 #[.val (.int p0), .val (.int p1), .val (.int p2), .val (.int p3), .val (.int p4), .val (.int (4 : Int32)), .val (.int vg24)] []))
                refine own_via (fun t k => XS.iloadN X0.here hx rfl (hb hby own_d2_139) rfl k) ?_
                show own_G p e below _ (s₁.setTop (mkF m 140 #[.val (.int p0), .val (.int p1), .val (.int p2), .val (.int p3), .val (.int p4), .val (.int (4 : Int32)), .val (.int vg24)] [(.int p3)]))
                refine own_via (fun t k => XS.sipush X0.here hx rfl (hb hby own_d2_140) k) ?_
                show own_G p e below _ (s₁.setTop (mkF m 143 #[.val (.int p0), .val (.int p1), .val (.int p2), .val (.int p3), .val (.int p4), .val (.int (4 : Int32)), .val (.int vg24)] [(.int (192 : Int32)), (.int p3)]))
                refine own_via (fun t k => XS.iand X0.here hx rfl (hb hby own_d2_143) rfl k) ?_
                show own_G p e below _ (s₁.setTop (mkF m 144 #[.val (.int p0), .val (.int p1), .val (.int p2), .val (.int p3), .val (.int p4), .val (.int (4 : Int32)), .val (.int vg24)] [(.int (p3 &&& (192 : Int32)))]))
                refine own_via (fun t k => XS.sipush X0.here hx rfl (hb hby own_d2_144) k) ?_
                show own_G p e below _ (s₁.setTop (mkF m 147 #[.val (.int p0), .val (.int p1), .val (.int p2), .val (.int p3), .val (.int p4), .val (.int (4 : Int32)), .val (.int vg24)] [(.int (128 : Int32)), (.int (p3 &&& (192 : Int32)))]))
                by_cases hc25 : (p3 &&& (192 : Int32)) = (128 : Int32)
                ·
                  refine own_via (fun t k => XS.icmpYes X0.here hx rfl (pc0 := 147) (pc' := 152) rfl (hb hby own_d2_147) rfl (teq hc25).1 (by decide) (by decide) k) ?_
                  show own_G p e below _ (s₁.setTop (mkF m 152 #[.val (.int p0), .val (.int p1), .val (.int p2), .val (.int p3), .val (.int p4), .val (.int (4 : Int32)), .val (.int vg24)] []))
                  refine own_via (fun t k => XS.iload X0.here hx rfl (hb hby own_d2_152) rfl k) ?_
                  show own_G p e below _ (s₁.setTop (mkF m 154 #[.val (.int p0), .val (.int p1), .val (.int p2), .val (.int p3), .val (.int p4), .val (.int (4 : Int32)), .val (.int vg24)] [(.int vg24)]))
                  refine own_via (fun t k => XS.bipush X0.here hx rfl (hb hby own_d2_154) k) ?_
                  show own_G p e below _ (s₁.setTop (mkF m 156 #[.val (.int p0), .val (.int p1), .val (.int p2), .val (.int p3), .val (.int p4), .val (.int (4 : Int32)), .val (.int vg24)] [(.int (6 : Int32)), (.int vg24)]))
                  refine own_via (fun t k => XS.ishl X0.here hx rfl (hb hby own_d2_156) rfl k) ?_
                  show own_G p e below _ (s₁.setTop (mkF m 157 #[.val (.int p0), .val (.int p1), .val (.int p2), .val (.int p3), .val (.int p4), .val (.int (4 : Int32)), .val (.int vg24)] [(.int (vg24 <<< ((6 : Int32) &&& 31)))]))
                  refine own_via (fun t k => XS.iloadN X0.here hx rfl (hb hby own_d2_157) rfl k) ?_
                  show own_G p e below _ (s₁.setTop (mkF m 158 #[.val (.int p0), .val (.int p1), .val (.int p2), .val (.int p3), .val (.int p4), .val (.int (4 : Int32)), .val (.int vg24)] [(.int p3), (.int (vg24 <<< ((6 : Int32) &&& 31)))]))
                  refine own_via (fun t k => XS.bipush X0.here hx rfl (hb hby own_d2_158) k) ?_
                  show own_G p e below _ (s₁.setTop (mkF m 160 #[.val (.int p0), .val (.int p1), .val (.int p2), .val (.int p3), .val (.int p4), .val (.int (4 : Int32)), .val (.int vg24)] [(.int (63 : Int32)), (.int p3), (.int (vg24 <<< ((6 : Int32) &&& 31)))]))
                  refine own_via (fun t k => XS.iand X0.here hx rfl (hb hby own_d2_160) rfl k) ?_
                  show own_G p e below _ (s₁.setTop (mkF m 161 #[.val (.int p0), .val (.int p1), .val (.int p2), .val (.int p3), .val (.int p4), .val (.int (4 : Int32)), .val (.int vg24)] [(.int (p3 &&& (63 : Int32))), (.int (vg24 <<< ((6 : Int32) &&& 31)))]))
                  refine own_via (fun t k => XS.ior X0.here hx rfl (hb hby own_d2_161) rfl k) ?_
                  show own_G p e below _ (s₁.setTop (mkF m 162 #[.val (.int p0), .val (.int p1), .val (.int p2), .val (.int p3), .val (.int p4), .val (.int (4 : Int32)), .val (.int vg24)] [(.int ((vg24 <<< ((6 : Int32) &&& 31)) ||| (p3 &&& (63 : Int32))))]))
                  generalize hvg26 : ((vg24 <<< ((6 : Int32) &&& 31)) ||| (p3 &&& (63 : Int32))) = vg26
                  show own_G p e below _ (s₁.setTop (mkF m 162 #[.val (.int p0), .val (.int p1), .val (.int p2), .val (.int p3), .val (.int p4), .val (.int (4 : Int32)), .val (.int vg24)] [(.int vg26)]))
                  refine own_via (fun t k => XS.istore X0.here hx rfl (hb hby own_d2_162) rfl (l' := #[.val (.int p0), .val (.int p1), .val (.int p2), .val (.int p3), .val (.int p4), .val (.int (4 : Int32)), .val (.int vg26)]) rfl k) ?_
                  show own_G p e below _ (s₁.setTop (mkF m 164 #[.val (.int p0), .val (.int p1), .val (.int p2), .val (.int p3), .val (.int p4), .val (.int (4 : Int32)), .val (.int vg26)] []))
                  refine own_via (fun t k => XS.iload X0.here hx rfl (hb hby own_d2_164) rfl k) ?_
                  show own_G p e below _ (s₁.setTop (mkF m 166 #[.val (.int p0), .val (.int p1), .val (.int p2), .val (.int p3), .val (.int p4), .val (.int (4 : Int32)), .val (.int vg26)] [(.int (4 : Int32))]))
                  refine own_via (fun t k => XS.iconst X0.here hx rfl (hb hby own_d2_166) k) ?_
                  show own_G p e below _ (s₁.setTop (mkF m 167 #[.val (.int p0), .val (.int p1), .val (.int p2), .val (.int p3), .val (.int p4), .val (.int (4 : Int32)), .val (.int vg26)] [(.int (2 : Int32)), (.int (4 : Int32))]))
                  refine own_via (fun t k => XS.icmpYes X0.here hx rfl (pc0 := 167) (pc' := 184) rfl (hb hby own_d2_167) rfl (feq (by decide : ¬ ((4 : Int32) = (2 : Int32)))).2 (by decide) (by decide) k) ?_
                  show own_G p e below _ (s₁.setTop (mkF m 184 #[.val (.int p0), .val (.int p1), .val (.int p2), .val (.int p3), .val (.int p4), .val (.int (4 : Int32)), .val (.int vg26)] []))
                  refine own_via (fun t k => XS.iload X0.here hx rfl (hb hby own_d2_184) rfl k) ?_
                  show own_G p e below _ (s₁.setTop (mkF m 186 #[.val (.int p0), .val (.int p1), .val (.int p2), .val (.int p3), .val (.int p4), .val (.int (4 : Int32)), .val (.int vg26)] [(.int (4 : Int32))]))
                  refine own_via (fun t k => XS.iconst X0.here hx rfl (hb hby own_d2_186) k) ?_
                  show own_G p e below _ (s₁.setTop (mkF m 187 #[.val (.int p0), .val (.int p1), .val (.int p2), .val (.int p3), .val (.int p4), .val (.int (4 : Int32)), .val (.int vg26)] [(.int (3 : Int32)), (.int (4 : Int32))]))
                  refine own_via (fun t k => XS.icmpYes X0.here hx rfl (pc0 := 187) (pc' := 218) rfl (hb hby own_d2_187) rfl (feq (by decide : ¬ ((4 : Int32) = (3 : Int32)))).2 (by decide) (by decide) k) ?_
                  show own_G p e below _ (s₁.setTop (mkF m 218 #[.val (.int p0), .val (.int p1), .val (.int p2), .val (.int p3), .val (.int p4), .val (.int (4 : Int32)), .val (.int vg26)] []))
                  refine own_via (fun t k => XS.iload X0.here hx rfl (hb hby own_d2_218) rfl k) ?_
                  show own_G p e below _ (s₁.setTop (mkF m 220 #[.val (.int p0), .val (.int p1), .val (.int p2), .val (.int p3), .val (.int p4), .val (.int (4 : Int32)), .val (.int vg26)] [(.int vg26)]))
                  refine own_via (X0.ldcInt hx hown (mvT hZ (hw _ (List.mem_of_getElem? (i := 11) rfl))) (g := (mkF m 220 #[.val (.int p0), .val (.int p1), .val (.int p2), .val (.int p3), .val (.int p4), .val (.int (4 : Int32)), .val (.int vg26)] [(.int vg26)])) rfl (hb hby own_d2_220)) ?_
                  show own_G p e below _ (s₁.setTop (mkF m 222 #[.val (.int p0), .val (.int p1), .val (.int p2), .val (.int p3), .val (.int p4), .val (.int (4 : Int32)), .val (.int vg26)] [(.int (65536 : Int32)), (.int vg26)]))
                  by_cases hc27 : vg26 < (65536 : Int32)
                  ·
                    refine own_via (fun t k => XS.icmpYes X0.here hx rfl (pc0 := 222) (pc' := 232) rfl (hb hby own_d2_222) rfl (tlt hc27).1 (by decide) (by decide) k) ?_
                    show own_G p e below _ (s₁.setTop (mkF m 232 #[.val (.int p0), .val (.int p1), .val (.int p2), .val (.int p3), .val (.int p4), .val (.int (4 : Int32)), .val (.int vg26)] []))
                    refine own_via (fun t k => XS.iconst X0.here hx rfl (hb hby own_d2_232) k) ?_
                    show own_G p e below _ (s₁.setTop (mkF m 233 #[.val (.int p0), .val (.int p1), .val (.int p2), .val (.int p3), .val (.int p4), .val (.int (4 : Int32)), .val (.int vg26)] [(.int (-1 : Int32))]))
                    exact own_retI X0 hx Bd.returns Bd.notSynchronized (hb hby own_d2_233) ⟨by show (some (.int (-1 : Int32)) : Option Value) = some (.int (own_F2 p0 p1 p2 p3 p4)); subst hvg26; subst hvg24; subst hvg22; subst hvg19; simp only [own_F2, if_neg hc1, if_neg hc2, if_neg hc8, if_pos hc18, if_neg hc20, if_pos hc21, if_pos hc23, if_pos hc25, if_pos hc27], rfl, e0⟩ (by decide) (by decide)
                  ·
                    refine own_via (fun t k => XS.icmpNo X0.here hx rfl (hb hby own_d2_222) rfl (flt hc27).1 k) ?_
                    show own_G p e below _ (s₁.setTop (mkF m 225 #[.val (.int p0), .val (.int p1), .val (.int p2), .val (.int p3), .val (.int p4), .val (.int (4 : Int32)), .val (.int vg26)] []))
                    refine own_via (fun t k => XS.iload X0.here hx rfl (hb hby own_d2_225) rfl k) ?_
                    show own_G p e below _ (s₁.setTop (mkF m 227 #[.val (.int p0), .val (.int p1), .val (.int p2), .val (.int p3), .val (.int p4), .val (.int (4 : Int32)), .val (.int vg26)] [(.int vg26)]))
                    refine own_via (X0.ldcInt hx hown (mvT hZ (hw _ (List.mem_of_getElem? (i := 12) rfl))) (g := (mkF m 227 #[.val (.int p0), .val (.int p1), .val (.int p2), .val (.int p3), .val (.int p4), .val (.int (4 : Int32)), .val (.int vg26)] [(.int vg26)])) rfl (hb hby own_d2_227)) ?_
                    show own_G p e below _ (s₁.setTop (mkF m 229 #[.val (.int p0), .val (.int p1), .val (.int p2), .val (.int p3), .val (.int p4), .val (.int (4 : Int32)), .val (.int vg26)] [(.int (1114111 : Int32)), (.int vg26)]))
                    by_cases hc28 : (1114111 : Int32) < vg26
                    ·
                      refine own_via (fun t k => XS.icmpNo X0.here hx rfl (hb hby own_d2_229) rfl (tlt hc28).2.2.2 k) ?_
                      show own_G p e below _ (s₁.setTop (mkF m 232 #[.val (.int p0), .val (.int p1), .val (.int p2), .val (.int p3), .val (.int p4), .val (.int (4 : Int32)), .val (.int vg26)] []))
                      refine own_via (fun t k => XS.iconst X0.here hx rfl (hb hby own_d2_232) k) ?_
                      show own_G p e below _ (s₁.setTop (mkF m 233 #[.val (.int p0), .val (.int p1), .val (.int p2), .val (.int p3), .val (.int p4), .val (.int (4 : Int32)), .val (.int vg26)] [(.int (-1 : Int32))]))
                      exact own_retI X0 hx Bd.returns Bd.notSynchronized (hb hby own_d2_233) ⟨by show (some (.int (-1 : Int32)) : Option Value) = some (.int (own_F2 p0 p1 p2 p3 p4)); subst hvg26; subst hvg24; subst hvg22; subst hvg19; simp only [own_F2, if_neg hc1, if_neg hc2, if_neg hc8, if_pos hc18, if_neg hc20, if_pos hc21, if_pos hc23, if_pos hc25, if_neg hc27, if_pos hc28], rfl, e0⟩ (by decide) (by decide)
                    ·
                      refine own_via (fun t k => XS.icmpYes X0.here hx rfl (pc0 := 229) (pc' := 234) rfl (hb hby own_d2_229) rfl (flt hc28).2.2.2 (by decide) (by decide) k) ?_
                      show own_G p e below _ (s₁.setTop (mkF m 234 #[.val (.int p0), .val (.int p1), .val (.int p2), .val (.int p3), .val (.int p4), .val (.int (4 : Int32)), .val (.int vg26)] []))
                      refine own_via (fun t k => XS.iconst X0.here hx rfl (hb hby own_d2_234) k) ?_
                      show own_G p e below _ (s₁.setTop (mkF m 235 #[.val (.int p0), .val (.int p1), .val (.int p2), .val (.int p3), .val (.int p4), .val (.int (4 : Int32)), .val (.int vg26)] [(.int (4 : Int32))]))
                      exact own_retI X0 hx Bd.returns Bd.notSynchronized (hb hby own_d2_235) ⟨by show (some (.int (4 : Int32)) : Option Value) = some (.int (own_F2 p0 p1 p2 p3 p4)); subst hvg26; subst hvg24; subst hvg22; subst hvg19; simp only [own_F2, if_neg hc1, if_neg hc2, if_neg hc8, if_pos hc18, if_neg hc20, if_pos hc21, if_pos hc23, if_pos hc25, if_neg hc27, if_neg hc28], rfl, e0⟩ (by decide) (by decide)
                ·
                  refine own_via (fun t k => XS.icmpNo X0.here hx rfl (hb hby own_d2_147) rfl (feq hc25).1 k) ?_
                  show own_G p e below _ (s₁.setTop (mkF m 150 #[.val (.int p0), .val (.int p1), .val (.int p2), .val (.int p3), .val (.int p4), .val (.int (4 : Int32)), .val (.int vg24)] []))
                  refine own_via (fun t k => XS.iconst X0.here hx rfl (hb hby own_d2_150) k) ?_
                  show own_G p e below _ (s₁.setTop (mkF m 151 #[.val (.int p0), .val (.int p1), .val (.int p2), .val (.int p3), .val (.int p4), .val (.int (4 : Int32)), .val (.int vg24)] [(.int (-1 : Int32))]))
                  exact own_retI X0 hx Bd.returns Bd.notSynchronized (hb hby own_d2_151) ⟨by show (some (.int (-1 : Int32)) : Option Value) = some (.int (own_F2 p0 p1 p2 p3 p4)); subst hvg24; subst hvg22; subst hvg19; simp only [own_F2, if_neg hc1, if_neg hc2, if_neg hc8, if_pos hc18, if_neg hc20, if_pos hc21, if_pos hc23, if_neg hc25], rfl, e0⟩ (by decide) (by decide)
              ·
                refine own_via (fun t k => XS.icmpNo X0.here hx rfl (hb hby own_d2_116) rfl (feq hc23).1 k) ?_
                show own_G p e below _ (s₁.setTop (mkF m 119 #[.val (.int p0), .val (.int p1), .val (.int p2), .val (.int p3), .val (.int p4), .val (.int (4 : Int32)), .val (.int vg22)] []))
                refine own_via (fun t k => XS.iconst X0.here hx rfl (hb hby own_d2_119) k) ?_
                show own_G p e below _ (s₁.setTop (mkF m 120 #[.val (.int p0), .val (.int p1), .val (.int p2), .val (.int p3), .val (.int p4), .val (.int (4 : Int32)), .val (.int vg22)] [(.int (-1 : Int32))]))
                exact own_retI X0 hx Bd.returns Bd.notSynchronized (hb hby own_d2_120) ⟨by show (some (.int (-1 : Int32)) : Option Value) = some (.int (own_F2 p0 p1 p2 p3 p4)); subst hvg22; subst hvg19; simp only [own_F2, if_neg hc1, if_neg hc2, if_neg hc8, if_pos hc18, if_neg hc20, if_pos hc21, if_neg hc23], rfl, e0⟩ (by decide) (by decide)
            ·
              refine own_via (fun t k => XS.icmpNo X0.here hx rfl (hb hby own_d2_85) rfl (feq hc21).1 k) ?_
              show own_G p e below _ (s₁.setTop (mkF m 88 #[.val (.int p0), .val (.int p1), .val (.int p2), .val (.int p3), .val (.int p4), .val (.int (4 : Int32)), .val (.int vg19)] []))
              refine own_via (fun t k => XS.iconst X0.here hx rfl (hb hby own_d2_88) k) ?_
              show own_G p e below _ (s₁.setTop (mkF m 89 #[.val (.int p0), .val (.int p1), .val (.int p2), .val (.int p3), .val (.int p4), .val (.int (4 : Int32)), .val (.int vg19)] [(.int (-1 : Int32))]))
              exact own_retI X0 hx Bd.returns Bd.notSynchronized (hb hby own_d2_89) ⟨by show (some (.int (-1 : Int32)) : Option Value) = some (.int (own_F2 p0 p1 p2 p3 p4)); subst hvg19; simp only [own_F2, if_neg hc1, if_neg hc2, if_neg hc8, if_pos hc18, if_neg hc20, if_neg hc21], rfl, e0⟩ (by decide) (by decide)
        ·
          refine own_via (fun t k => XS.icmpYes X0.here hx rfl (pc0 := 51) (pc' := 66) rfl (hb hby own_d2_51) rfl (flt hc18).2.1 (by decide) (by decide) k) ?_
          show own_G p e below _ (s₁.setTop (mkF m 66 #[.val (.int p0), .val (.int p1), .val (.int p2), .val (.int p3), .val (.int p4), .unset, .unset] []))
          refine own_via (fun t k => XS.iconst X0.here hx rfl (hb hby own_d2_66) k) ?_
          show own_G p e below _ (s₁.setTop (mkF m 67 #[.val (.int p0), .val (.int p1), .val (.int p2), .val (.int p3), .val (.int p4), .unset, .unset] [(.int (-1 : Int32))]))
          exact own_retI X0 hx Bd.returns Bd.notSynchronized (hb hby own_d2_67) ⟨by show (some (.int (-1 : Int32)) : Option Value) = some (.int (own_F2 p0 p1 p2 p3 p4)); simp only [own_F2, if_neg hc1, if_neg hc2, if_neg hc8, if_neg hc18], rfl, e0⟩ (by decide) (by decide)
theorem own_d1_0 : decode prog_43_method_5_code 0 = .ok (.aload_n 0, 1) := by decide +kernel
theorem own_d1_1 : decode prog_43_method_5_code 1 = .ok (.iload_n 1, 1) := by decide +kernel
theorem own_d1_2 : decode prog_43_method_5_code 2 = .ok (.baload, 1) := by decide +kernel
theorem own_d1_3 : decode prog_43_method_5_code 3 = .ok (.sipush 255, 3) := by decide +kernel
theorem own_d1_6 : decode prog_43_method_5_code 6 = .ok (.iand, 1) := by decide +kernel
theorem own_d1_7 : decode prog_43_method_5_code 7 = .ok (.istore_n 3, 1) := by decide +kernel
theorem own_d1_8 : decode prog_43_method_5_code 8 = .ok (.sipush 128, 3) := by decide +kernel
theorem own_d1_11 : decode prog_43_method_5_code 11 = .ok (.istore 5, 2) := by decide +kernel
theorem own_d1_13 : decode prog_43_method_5_code 13 = .ok (.sipush 191, 3) := by decide +kernel
theorem own_d1_16 : decode prog_43_method_5_code 16 = .ok (.istore 6, 2) := by decide +kernel
theorem own_d1_18 : decode prog_43_method_5_code 18 = .ok (.iload_n 3, 1) := by decide +kernel
theorem own_d1_19 : decode prog_43_method_5_code 19 = .ok (.sipush 194, 3) := by decide +kernel
theorem own_d1_22 : decode prog_43_method_5_code 22 = .ok (.if_icmp .lt 16, 3) := by decide +kernel
theorem own_d1_25 : decode prog_43_method_5_code 25 = .ok (.iload_n 3, 1) := by decide +kernel
theorem own_d1_26 : decode prog_43_method_5_code 26 = .ok (.sipush 223, 3) := by decide +kernel
theorem own_d1_29 : decode prog_43_method_5_code 29 = .ok (.if_icmp .gt 9, 3) := by decide +kernel
theorem own_d1_32 : decode prog_43_method_5_code 32 = .ok (.iconst 2, 1) := by decide +kernel
theorem own_d1_33 : decode prog_43_method_5_code 33 = .ok (.istore 4, 2) := by decide +kernel
theorem own_d1_35 : decode prog_43_method_5_code 35 = .ok (.goto 99, 3) := by decide +kernel
theorem own_d1_38 : decode prog_43_method_5_code 38 = .ok (.iload_n 3, 1) := by decide +kernel
theorem own_d1_39 : decode prog_43_method_5_code 39 = .ok (.sipush 224, 3) := by decide +kernel
theorem own_d1_42 : decode prog_43_method_5_code 42 = .ok (.if_icmp .lt 43, 3) := by decide +kernel
theorem own_d1_45 : decode prog_43_method_5_code 45 = .ok (.iload_n 3, 1) := by decide +kernel
theorem own_d1_46 : decode prog_43_method_5_code 46 = .ok (.sipush 239, 3) := by decide +kernel
theorem own_d1_49 : decode prog_43_method_5_code 49 = .ok (.if_icmp .gt 36, 3) := by decide +kernel
theorem own_d1_52 : decode prog_43_method_5_code 52 = .ok (.iconst 3, 1) := by decide +kernel
theorem own_d1_53 : decode prog_43_method_5_code 53 = .ok (.istore 4, 2) := by decide +kernel
theorem own_d1_55 : decode prog_43_method_5_code 55 = .ok (.iload_n 3, 1) := by decide +kernel
theorem own_d1_56 : decode prog_43_method_5_code 56 = .ok (.sipush 224, 3) := by decide +kernel
theorem own_d1_59 : decode prog_43_method_5_code 59 = .ok (.if_icmp .ne 11, 3) := by decide +kernel
theorem own_d1_62 : decode prog_43_method_5_code 62 = .ok (.sipush 160, 3) := by decide +kernel
theorem own_d1_65 : decode prog_43_method_5_code 65 = .ok (.istore 5, 2) := by decide +kernel
theorem own_d1_67 : decode prog_43_method_5_code 67 = .ok (.goto 67, 3) := by decide +kernel
theorem own_d1_70 : decode prog_43_method_5_code 70 = .ok (.iload_n 3, 1) := by decide +kernel
theorem own_d1_71 : decode prog_43_method_5_code 71 = .ok (.sipush 237, 3) := by decide +kernel
theorem own_d1_74 : decode prog_43_method_5_code 74 = .ok (.if_icmp .ne 60, 3) := by decide +kernel
theorem own_d1_77 : decode prog_43_method_5_code 77 = .ok (.sipush 159, 3) := by decide +kernel
theorem own_d1_80 : decode prog_43_method_5_code 80 = .ok (.istore 6, 2) := by decide +kernel
theorem own_d1_82 : decode prog_43_method_5_code 82 = .ok (.goto 52, 3) := by decide +kernel
theorem own_d1_85 : decode prog_43_method_5_code 85 = .ok (.iload_n 3, 1) := by decide +kernel
theorem own_d1_86 : decode prog_43_method_5_code 86 = .ok (.sipush 240, 3) := by decide +kernel
theorem own_d1_89 : decode prog_43_method_5_code 89 = .ok (.if_icmp .lt 43, 3) := by decide +kernel
theorem own_d1_92 : decode prog_43_method_5_code 92 = .ok (.iload_n 3, 1) := by decide +kernel
theorem own_d1_93 : decode prog_43_method_5_code 93 = .ok (.sipush 244, 3) := by decide +kernel
theorem own_d1_96 : decode prog_43_method_5_code 96 = .ok (.if_icmp .gt 36, 3) := by decide +kernel
theorem own_d1_99 : decode prog_43_method_5_code 99 = .ok (.iconst 4, 1) := by decide +kernel
theorem own_d1_100 : decode prog_43_method_5_code 100 = .ok (.istore 4, 2) := by decide +kernel
theorem own_d1_102 : decode prog_43_method_5_code 102 = .ok (.iload_n 3, 1) := by decide +kernel
theorem own_d1_103 : decode prog_43_method_5_code 103 = .ok (.sipush 240, 3) := by decide +kernel
theorem own_d1_106 : decode prog_43_method_5_code 106 = .ok (.if_icmp .ne 11, 3) := by decide +kernel
theorem own_d1_109 : decode prog_43_method_5_code 109 = .ok (.sipush 144, 3) := by decide +kernel
theorem own_d1_112 : decode prog_43_method_5_code 112 = .ok (.istore 5, 2) := by decide +kernel
theorem own_d1_114 : decode prog_43_method_5_code 114 = .ok (.goto 20, 3) := by decide +kernel
theorem own_d1_117 : decode prog_43_method_5_code 117 = .ok (.iload_n 3, 1) := by decide +kernel
theorem own_d1_118 : decode prog_43_method_5_code 118 = .ok (.sipush 244, 3) := by decide +kernel
theorem own_d1_121 : decode prog_43_method_5_code 121 = .ok (.if_icmp .ne 13, 3) := by decide +kernel
theorem own_d1_124 : decode prog_43_method_5_code 124 = .ok (.sipush 143, 3) := by decide +kernel
theorem own_d1_127 : decode prog_43_method_5_code 127 = .ok (.istore 6, 2) := by decide +kernel
theorem own_d1_129 : decode prog_43_method_5_code 129 = .ok (.goto 5, 3) := by decide +kernel
theorem own_d1_132 : decode prog_43_method_5_code 132 = .ok (.iconst (-1), 1) := by decide +kernel
theorem own_d1_133 : decode prog_43_method_5_code 133 = .ok (.ireturn, 1) := by decide +kernel
theorem own_d1_134 : decode prog_43_method_5_code 134 = .ok (.iload_n 2, 1) := by decide +kernel
theorem own_d1_135 : decode prog_43_method_5_code 135 = .ok (.iload_n 1, 1) := by decide +kernel
theorem own_d1_136 : decode prog_43_method_5_code 136 = .ok (.isub, 1) := by decide +kernel
theorem own_d1_137 : decode prog_43_method_5_code 137 = .ok (.iload 4, 2) := by decide +kernel
theorem own_d1_139 : decode prog_43_method_5_code 139 = .ok (.if_icmp .ge 5, 3) := by decide +kernel
theorem own_d1_142 : decode prog_43_method_5_code 142 = .ok (.iconst (-1), 1) := by decide +kernel
theorem own_d1_143 : decode prog_43_method_5_code 143 = .ok (.ireturn, 1) := by decide +kernel
theorem own_d1_144 : decode prog_43_method_5_code 144 = .ok (.aload_n 0, 1) := by decide +kernel
theorem own_d1_145 : decode prog_43_method_5_code 145 = .ok (.iload_n 1, 1) := by decide +kernel
theorem own_d1_146 : decode prog_43_method_5_code 146 = .ok (.iconst 1, 1) := by decide +kernel
theorem own_d1_147 : decode prog_43_method_5_code 147 = .ok (.iadd, 1) := by decide +kernel
theorem own_d1_148 : decode prog_43_method_5_code 148 = .ok (.baload, 1) := by decide +kernel
theorem own_d1_149 : decode prog_43_method_5_code 149 = .ok (.sipush 255, 3) := by decide +kernel
theorem own_d1_152 : decode prog_43_method_5_code 152 = .ok (.iand, 1) := by decide +kernel
theorem own_d1_153 : decode prog_43_method_5_code 153 = .ok (.istore 7, 2) := by decide +kernel
theorem own_d1_155 : decode prog_43_method_5_code 155 = .ok (.iload 7, 2) := by decide +kernel
theorem own_d1_157 : decode prog_43_method_5_code 157 = .ok (.iload 5, 2) := by decide +kernel
theorem own_d1_159 : decode prog_43_method_5_code 159 = .ok (.if_icmp .lt 10, 3) := by decide +kernel
theorem own_d1_162 : decode prog_43_method_5_code 162 = .ok (.iload 7, 2) := by decide +kernel
theorem own_d1_164 : decode prog_43_method_5_code 164 = .ok (.iload 6, 2) := by decide +kernel
theorem own_d1_166 : decode prog_43_method_5_code 166 = .ok (.if_icmp .le 5, 3) := by decide +kernel
theorem own_d1_169 : decode prog_43_method_5_code 169 = .ok (.iconst (-1), 1) := by decide +kernel
theorem own_d1_170 : decode prog_43_method_5_code 170 = .ok (.ireturn, 1) := by decide +kernel
theorem own_d1_171 : decode prog_43_method_5_code 171 = .ok (.iload_n 1, 1) := by decide +kernel
theorem own_d1_172 : decode prog_43_method_5_code 172 = .ok (.iconst 2, 1) := by decide +kernel
theorem own_d1_173 : decode prog_43_method_5_code 173 = .ok (.iadd, 1) := by decide +kernel
theorem own_d1_174 : decode prog_43_method_5_code 174 = .ok (.istore 8, 2) := by decide +kernel
theorem own_d1_176 : decode prog_43_method_5_code 176 = .ok (.iload 8, 2) := by decide +kernel
theorem own_d1_178 : decode prog_43_method_5_code 178 = .ok (.iload_n 1, 1) := by decide +kernel
theorem own_d1_179 : decode prog_43_method_5_code 179 = .ok (.iload 4, 2) := by decide +kernel
theorem own_d1_181 : decode prog_43_method_5_code 181 = .ok (.iadd, 1) := by decide +kernel
theorem own_d1_182 : decode prog_43_method_5_code 182 = .ok (.if_icmp .ge 25, 3) := by decide +kernel
theorem own_d1_185 : decode prog_43_method_5_code 185 = .ok (.aload_n 0, 1) := by decide +kernel
theorem own_d1_186 : decode prog_43_method_5_code 186 = .ok (.iload 8, 2) := by decide +kernel
theorem own_d1_188 : decode prog_43_method_5_code 188 = .ok (.baload, 1) := by decide +kernel
theorem own_d1_189 : decode prog_43_method_5_code 189 = .ok (.sipush 192, 3) := by decide +kernel
theorem own_d1_192 : decode prog_43_method_5_code 192 = .ok (.iand, 1) := by decide +kernel
theorem own_d1_193 : decode prog_43_method_5_code 193 = .ok (.sipush 128, 3) := by decide +kernel
theorem own_d1_196 : decode prog_43_method_5_code 196 = .ok (.if_icmp .eq 5, 3) := by decide +kernel
theorem own_d1_199 : decode prog_43_method_5_code 199 = .ok (.iconst (-1), 1) := by decide +kernel
theorem own_d1_200 : decode prog_43_method_5_code 200 = .ok (.ireturn, 1) := by decide +kernel
theorem own_d1_201 : decode prog_43_method_5_code 201 = .ok (.iinc 8 1, 3) := by decide +kernel
theorem own_d1_204 : decode prog_43_method_5_code 204 = .ok (.goto (-28), 3) := by decide +kernel
theorem own_d1_207 : decode prog_43_method_5_code 207 = .ok (.iload 4, 2) := by decide +kernel
theorem own_d1_209 : decode prog_43_method_5_code 209 = .ok (.ireturn, 1) := by decide +kernel
abbrev own_seq0_R : Room := { frames := 0, cells := 0, slots := 0, locals := 0 }
theorem own_pn1 : plainFor (⟨"com/example/bowerbird/bowerbird/Utf8", "sequenceLength", "([BII)I"⟩ : MethodName) = true := plainFor_of_name (by first | (simp [plainName, overriddenIn]; done) | decide +kernel)
theorem own_seq0_ef (m : MethodId) (a1 : Addr) (p2 : Int32) : entryFrame m #[(.ref a1), (.int (0 : Int32)), (.int p2)] 9 = mkF m 0 #[.val (.ref a1), .val (.int (0 : Int32)), .val (.int p2), .unset, .unset, .unset, .unset, .unset, .unset] [] := by first | (simp [entryFrame, mkF, argsToLocals, Value.category]; done) | rfl
def own_Fs0 (b0 : Int32) (b1 : Int32) (b2 : Int32) (b3 : Int32) (p2 : Int32) : Int32 := (let vg1 : Int32 := (b0 &&& (255 : Int32)); (if vg1 < (194 : Int32) then (-1 : Int32) else (if (223 : Int32) < vg1 then (if (239 : Int32) < vg1 then (if (244 : Int32) < vg1 then (-1 : Int32) else (if vg1 = (240 : Int32) then (if (p2 - (0 : Int32)) < (4 : Int32) then (-1 : Int32) else (let vg8 : Int32 := (b1 &&& (255 : Int32)); (if vg8 < (144 : Int32) then (-1 : Int32) else (if (191 : Int32) < vg8 then (-1 : Int32) else (if (b2 &&& (192 : Int32)) = (128 : Int32) then (if (b3 &&& (192 : Int32)) = (128 : Int32) then (4 : Int32) else (-1 : Int32)) else (-1 : Int32)))))) else (if vg1 = (244 : Int32) then (if (p2 - (0 : Int32)) < (4 : Int32) then (-1 : Int32) else (let vg15 : Int32 := (b1 &&& (255 : Int32)); (if vg15 < (128 : Int32) then (-1 : Int32) else (if (143 : Int32) < vg15 then (-1 : Int32) else (if (b2 &&& (192 : Int32)) = (128 : Int32) then (if (b3 &&& (192 : Int32)) = (128 : Int32) then (4 : Int32) else (-1 : Int32)) else (-1 : Int32)))))) else (if (p2 - (0 : Int32)) < (4 : Int32) then (-1 : Int32) else (let vg21 : Int32 := (b1 &&& (255 : Int32)); (if vg21 < (128 : Int32) then (-1 : Int32) else (if (191 : Int32) < vg21 then (-1 : Int32) else (if (b2 &&& (192 : Int32)) = (128 : Int32) then (if (b3 &&& (192 : Int32)) = (128 : Int32) then (4 : Int32) else (-1 : Int32)) else (-1 : Int32))))))))) else (if vg1 = (224 : Int32) then (if (p2 - (0 : Int32)) < (3 : Int32) then (-1 : Int32) else (let vg28 : Int32 := (b1 &&& (255 : Int32)); (if vg28 < (160 : Int32) then (-1 : Int32) else (if (191 : Int32) < vg28 then (-1 : Int32) else (if (b2 &&& (192 : Int32)) = (128 : Int32) then (3 : Int32) else (-1 : Int32)))))) else (if vg1 = (237 : Int32) then (if (p2 - (0 : Int32)) < (3 : Int32) then (-1 : Int32) else (let vg34 : Int32 := (b1 &&& (255 : Int32)); (if vg34 < (128 : Int32) then (-1 : Int32) else (if (159 : Int32) < vg34 then (-1 : Int32) else (if (b2 &&& (192 : Int32)) = (128 : Int32) then (3 : Int32) else (-1 : Int32)))))) else (if (p2 - (0 : Int32)) < (3 : Int32) then (-1 : Int32) else (let vg39 : Int32 := (b1 &&& (255 : Int32)); (if vg39 < (128 : Int32) then (-1 : Int32) else (if (191 : Int32) < vg39 then (-1 : Int32) else (if (b2 &&& (192 : Int32)) = (128 : Int32) then (3 : Int32) else (-1 : Int32))))))))) else (if (p2 - (0 : Int32)) < (2 : Int32) then (-1 : Int32) else (let vg44 : Int32 := (b1 &&& (255 : Int32)); (if vg44 < (128 : Int32) then (-1 : Int32) else (if (191 : Int32) < vg44 then (-1 : Int32) else (2 : Int32))))))))
set_option maxRecDepth 65536 in
set_option maxHeartbeats 40000000 in
theorem own_seq0 (l : Launch) (Z : State) (a0 : Array Value) (hw : ∀ d ∈ tables_1, d.before a0 Z = true) (ws : List Jvm.Cond) (a1 : Addr) (p2 : Int32) (k0 : ClassId) (b0 : Int32) (b1 : Int32) (b2 : Int32) (b3 : Int32) (b4 : Int32) (b5 : Int32) (h0 : Heap)  (i_V0 : Arv Z h0 a1 k0 .byte (6 : Int32) [(.int b0), (.int b1), (.int b2), (.int b3), (.int b4), (.int b5)] (.int (0 : Int32))) :
    own_C l Z (⟨"com/example/bowerbird/bowerbird/Utf8", "sequenceLength", "([BII)I"⟩ : MethodName) prog_43_method_5_code 9 (some .int) ws own_seq0_R #[(.ref a1), (.int (0 : Int32)), (.int p2)] h0 (own_Q (.int (own_Fs0 b0 b1 b2 b3 p2)) h0) := by
  refine MetFree.of_bodySF own_pn1 hisR ?_
  intro p e s m args below meth c s₁ Bd hml0 hP hK
  obtain ⟨rfl, hZ, hh⟩ := hP
  have hx := Bd.exec
  have hby := Bd.bytes
  have hml : c.maxLocals = 9 := hml0
  have hown : s.vm.findClass "com/example/bowerbird/bowerbird/Utf8" = some m.cls := findClass_of_methodNamed Bd.named
  have hnm := (name_of_methodNamed Bd.named Bd.method).1
  have X0 : Stand p l e own_seq0_R s m #[(.ref a1), (.int (0 : Int32)), (.int p2)] below meth c s₁ [] 0 0 := Stand.of_body Bd
  have e0 : s₁.heap = h0 := by rw [← hh, Bd.state]; rfl
  show own_G p e below (own_P s (own_Q (.int (own_Fs0 b0 b1 b2 b3 p2)) h0) own_seq0_R.cells own_seq0_R.slots) (s₁.setTop (entryFrame m #[(.ref a1), (.int (0 : Int32)), (.int p2)] 9))
  rw [own_seq0_ef m a1 p2]
  show own_G p e below _ (s₁.setTop (mkF m 0 #[.val (.ref a1), .val (.int (0 : Int32)), .val (.int p2), .unset, .unset, .unset, .unset, .unset, .unset] []))
  refine own_via (fun t k => XS.aloadN X0.here hx rfl (hb hby own_d1_0) rfl rfl k) ?_
  show own_G p e below _ (s₁.setTop (mkF m 1 #[.val (.ref a1), .val (.int (0 : Int32)), .val (.int p2), .unset, .unset, .unset, .unset, .unset, .unset] [(.ref a1)]))
  refine own_via (fun t k => XS.iloadN X0.here hx rfl (hb hby own_d1_1) rfl k) ?_
  show own_G p e below _ (s₁.setTop (mkF m 2 #[.val (.ref a1), .val (.int (0 : Int32)), .val (.int p2), .unset, .unset, .unset, .unset, .unset, .unset] [(.int (0 : Int32)), (.ref a1)]))
  refine own_via (own_ldB X0 hx hZ e0 i_V0 (j := (0 : Int32)) ⟨by decide, by decide⟩ (v := (.int b0)) rfl (pc := 2) (Ls := #[.val (.ref a1), .val (.int (0 : Int32)), .val (.int p2), .unset, .unset, .unset, .unset, .unset, .unset]) (rest := []) (hb hby own_d1_2)) ?_
  show own_G p e below _ (s₁.setTop (mkF m 3 #[.val (.ref a1), .val (.int (0 : Int32)), .val (.int p2), .unset, .unset, .unset, .unset, .unset, .unset] [(.int b0)]))
  refine own_via (fun t k => XS.sipush X0.here hx rfl (hb hby own_d1_3) k) ?_
  show own_G p e below _ (s₁.setTop (mkF m 6 #[.val (.ref a1), .val (.int (0 : Int32)), .val (.int p2), .unset, .unset, .unset, .unset, .unset, .unset] [(.int (255 : Int32)), (.int b0)]))
  refine own_via (fun t k => XS.iand X0.here hx rfl (hb hby own_d1_6) rfl k) ?_
  show own_G p e below _ (s₁.setTop (mkF m 7 #[.val (.ref a1), .val (.int (0 : Int32)), .val (.int p2), .unset, .unset, .unset, .unset, .unset, .unset] [(.int (b0 &&& (255 : Int32)))]))
  generalize hvg1 : (b0 &&& (255 : Int32)) = vg1
  show own_G p e below _ (s₁.setTop (mkF m 7 #[.val (.ref a1), .val (.int (0 : Int32)), .val (.int p2), .unset, .unset, .unset, .unset, .unset, .unset] [(.int vg1)]))
  refine own_via (fun t k => XS.istoreN X0.here hx rfl (hb hby own_d1_7) rfl (l' := #[.val (.ref a1), .val (.int (0 : Int32)), .val (.int p2), .val (.int vg1), .unset, .unset, .unset, .unset, .unset]) rfl k) ?_
  show own_G p e below _ (s₁.setTop (mkF m 8 #[.val (.ref a1), .val (.int (0 : Int32)), .val (.int p2), .val (.int vg1), .unset, .unset, .unset, .unset, .unset] []))
  refine own_via (fun t k => XS.sipush X0.here hx rfl (hb hby own_d1_8) k) ?_
  show own_G p e below _ (s₁.setTop (mkF m 11 #[.val (.ref a1), .val (.int (0 : Int32)), .val (.int p2), .val (.int vg1), .unset, .unset, .unset, .unset, .unset] [(.int (128 : Int32))]))
  refine own_via (fun t k => XS.istore X0.here hx rfl (hb hby own_d1_11) rfl (l' := #[.val (.ref a1), .val (.int (0 : Int32)), .val (.int p2), .val (.int vg1), .unset, .val (.int (128 : Int32)), .unset, .unset, .unset]) rfl k) ?_
  show own_G p e below _ (s₁.setTop (mkF m 13 #[.val (.ref a1), .val (.int (0 : Int32)), .val (.int p2), .val (.int vg1), .unset, .val (.int (128 : Int32)), .unset, .unset, .unset] []))
  refine own_via (fun t k => XS.sipush X0.here hx rfl (hb hby own_d1_13) k) ?_
  show own_G p e below _ (s₁.setTop (mkF m 16 #[.val (.ref a1), .val (.int (0 : Int32)), .val (.int p2), .val (.int vg1), .unset, .val (.int (128 : Int32)), .unset, .unset, .unset] [(.int (191 : Int32))]))
  refine own_via (fun t k => XS.istore X0.here hx rfl (hb hby own_d1_16) rfl (l' := #[.val (.ref a1), .val (.int (0 : Int32)), .val (.int p2), .val (.int vg1), .unset, .val (.int (128 : Int32)), .val (.int (191 : Int32)), .unset, .unset]) rfl k) ?_
  show own_G p e below _ (s₁.setTop (mkF m 18 #[.val (.ref a1), .val (.int (0 : Int32)), .val (.int p2), .val (.int vg1), .unset, .val (.int (128 : Int32)), .val (.int (191 : Int32)), .unset, .unset] []))
  refine own_via (fun t k => XS.iloadN X0.here hx rfl (hb hby own_d1_18) rfl k) ?_
  show own_G p e below _ (s₁.setTop (mkF m 19 #[.val (.ref a1), .val (.int (0 : Int32)), .val (.int p2), .val (.int vg1), .unset, .val (.int (128 : Int32)), .val (.int (191 : Int32)), .unset, .unset] [(.int vg1)]))
  refine own_via (fun t k => XS.sipush X0.here hx rfl (hb hby own_d1_19) k) ?_
  show own_G p e below _ (s₁.setTop (mkF m 22 #[.val (.ref a1), .val (.int (0 : Int32)), .val (.int p2), .val (.int vg1), .unset, .val (.int (128 : Int32)), .val (.int (191 : Int32)), .unset, .unset] [(.int (194 : Int32)), (.int vg1)]))
  by_cases hc2 : vg1 < (194 : Int32)
  ·
    refine own_via (fun t k => XS.icmpYes X0.here hx rfl (pc0 := 22) (pc' := 38) rfl (hb hby own_d1_22) rfl (tlt hc2).1 (by decide) (by decide) k) ?_
    show own_G p e below _ (s₁.setTop (mkF m 38 #[.val (.ref a1), .val (.int (0 : Int32)), .val (.int p2), .val (.int vg1), .unset, .val (.int (128 : Int32)), .val (.int (191 : Int32)), .unset, .unset] []))
    refine own_via (fun t k => XS.iloadN X0.here hx rfl (hb hby own_d1_38) rfl k) ?_
    show own_G p e below _ (s₁.setTop (mkF m 39 #[.val (.ref a1), .val (.int (0 : Int32)), .val (.int p2), .val (.int vg1), .unset, .val (.int (128 : Int32)), .val (.int (191 : Int32)), .unset, .unset] [(.int vg1)]))
    refine own_via (fun t k => XS.sipush X0.here hx rfl (hb hby own_d1_39) k) ?_
    show own_G p e below _ (s₁.setTop (mkF m 42 #[.val (.ref a1), .val (.int (0 : Int32)), .val (.int p2), .val (.int vg1), .unset, .val (.int (128 : Int32)), .val (.int (191 : Int32)), .unset, .unset] [(.int (224 : Int32)), (.int vg1)]))
    refine own_via (fun t k => XS.icmpYes X0.here hx rfl (pc0 := 42) (pc' := 85) rfl (hb hby own_d1_42) rfl (tlt (own_b5 (own_b1 hc2) (by decide))).1 (by decide) (by decide) k) ?_
    show own_G p e below _ (s₁.setTop (mkF m 85 #[.val (.ref a1), .val (.int (0 : Int32)), .val (.int p2), .val (.int vg1), .unset, .val (.int (128 : Int32)), .val (.int (191 : Int32)), .unset, .unset] []))
    refine own_via (fun t k => XS.iloadN X0.here hx rfl (hb hby own_d1_85) rfl k) ?_
    show own_G p e below _ (s₁.setTop (mkF m 86 #[.val (.ref a1), .val (.int (0 : Int32)), .val (.int p2), .val (.int vg1), .unset, .val (.int (128 : Int32)), .val (.int (191 : Int32)), .unset, .unset] [(.int vg1)]))
    refine own_via (fun t k => XS.sipush X0.here hx rfl (hb hby own_d1_86) k) ?_
    show own_G p e below _ (s₁.setTop (mkF m 89 #[.val (.ref a1), .val (.int (0 : Int32)), .val (.int p2), .val (.int vg1), .unset, .val (.int (128 : Int32)), .val (.int (191 : Int32)), .unset, .unset] [(.int (240 : Int32)), (.int vg1)]))
    refine own_via (fun t k => XS.icmpYes X0.here hx rfl (pc0 := 89) (pc' := 132) rfl (hb hby own_d1_89) rfl (tlt (own_b5 (own_b1 hc2) (by decide))).1 (by decide) (by decide) k) ?_
    show own_G p e below _ (s₁.setTop (mkF m 132 #[.val (.ref a1), .val (.int (0 : Int32)), .val (.int p2), .val (.int vg1), .unset, .val (.int (128 : Int32)), .val (.int (191 : Int32)), .unset, .unset] []))
    refine own_via (fun t k => XS.iconst X0.here hx rfl (hb hby own_d1_132) k) ?_
    show own_G p e below _ (s₁.setTop (mkF m 133 #[.val (.ref a1), .val (.int (0 : Int32)), .val (.int p2), .val (.int vg1), .unset, .val (.int (128 : Int32)), .val (.int (191 : Int32)), .unset, .unset] [(.int (-1 : Int32))]))
    exact own_retI X0 hx Bd.returns Bd.notSynchronized (hb hby own_d1_133) ⟨(by show (some (.int (-1 : Int32)) : Option Value) = some (.int (own_Fs0 b0 b1 b2 b3 p2)); subst hvg1; simp only [own_Fs0, if_pos hc2]), rfl, e0⟩ (by decide) (by decide)
  ·
    refine own_via (fun t k => XS.icmpNo X0.here hx rfl (hb hby own_d1_22) rfl (flt hc2).1 k) ?_
    show own_G p e below _ (s₁.setTop (mkF m 25 #[.val (.ref a1), .val (.int (0 : Int32)), .val (.int p2), .val (.int vg1), .unset, .val (.int (128 : Int32)), .val (.int (191 : Int32)), .unset, .unset] []))
    refine own_via (fun t k => XS.iloadN X0.here hx rfl (hb hby own_d1_25) rfl k) ?_
    show own_G p e below _ (s₁.setTop (mkF m 26 #[.val (.ref a1), .val (.int (0 : Int32)), .val (.int p2), .val (.int vg1), .unset, .val (.int (128 : Int32)), .val (.int (191 : Int32)), .unset, .unset] [(.int vg1)]))
    refine own_via (fun t k => XS.sipush X0.here hx rfl (hb hby own_d1_26) k) ?_
    show own_G p e below _ (s₁.setTop (mkF m 29 #[.val (.ref a1), .val (.int (0 : Int32)), .val (.int p2), .val (.int vg1), .unset, .val (.int (128 : Int32)), .val (.int (191 : Int32)), .unset, .unset] [(.int (223 : Int32)), (.int vg1)]))
    by_cases hc3 : (223 : Int32) < vg1
    ·
      refine own_via (fun t k => XS.icmpYes X0.here hx rfl (pc0 := 29) (pc' := 38) rfl (hb hby own_d1_29) rfl (tlt hc3).2.2.1 (by decide) (by decide) k) ?_
      show own_G p e below _ (s₁.setTop (mkF m 38 #[.val (.ref a1), .val (.int (0 : Int32)), .val (.int p2), .val (.int vg1), .unset, .val (.int (128 : Int32)), .val (.int (191 : Int32)), .unset, .unset] []))
      refine own_via (fun t k => XS.iloadN X0.here hx rfl (hb hby own_d1_38) rfl k) ?_
      show own_G p e below _ (s₁.setTop (mkF m 39 #[.val (.ref a1), .val (.int (0 : Int32)), .val (.int p2), .val (.int vg1), .unset, .val (.int (128 : Int32)), .val (.int (191 : Int32)), .unset, .unset] [(.int vg1)]))
      refine own_via (fun t k => XS.sipush X0.here hx rfl (hb hby own_d1_39) k) ?_
      show own_G p e below _ (s₁.setTop (mkF m 42 #[.val (.ref a1), .val (.int (0 : Int32)), .val (.int p2), .val (.int vg1), .unset, .val (.int (128 : Int32)), .val (.int (191 : Int32)), .unset, .unset] [(.int (224 : Int32)), (.int vg1)]))
      refine own_via (fun t k => XS.icmpNo X0.here hx rfl (hb hby own_d1_42) rfl (flt (own_b6 (own_b3 hc3) (by decide))).1 k) ?_
      show own_G p e below _ (s₁.setTop (mkF m 45 #[.val (.ref a1), .val (.int (0 : Int32)), .val (.int p2), .val (.int vg1), .unset, .val (.int (128 : Int32)), .val (.int (191 : Int32)), .unset, .unset] []))
      refine own_via (fun t k => XS.iloadN X0.here hx rfl (hb hby own_d1_45) rfl k) ?_
      show own_G p e below _ (s₁.setTop (mkF m 46 #[.val (.ref a1), .val (.int (0 : Int32)), .val (.int p2), .val (.int vg1), .unset, .val (.int (128 : Int32)), .val (.int (191 : Int32)), .unset, .unset] [(.int vg1)]))
      refine own_via (fun t k => XS.sipush X0.here hx rfl (hb hby own_d1_46) k) ?_
      show own_G p e below _ (s₁.setTop (mkF m 49 #[.val (.ref a1), .val (.int (0 : Int32)), .val (.int p2), .val (.int vg1), .unset, .val (.int (128 : Int32)), .val (.int (191 : Int32)), .unset, .unset] [(.int (239 : Int32)), (.int vg1)]))
      by_cases hc4 : (239 : Int32) < vg1
      ·
        refine own_via (fun t k => XS.icmpYes X0.here hx rfl (pc0 := 49) (pc' := 85) rfl (hb hby own_d1_49) rfl (tlt hc4).2.2.1 (by decide) (by decide) k) ?_
        show own_G p e below _ (s₁.setTop (mkF m 85 #[.val (.ref a1), .val (.int (0 : Int32)), .val (.int p2), .val (.int vg1), .unset, .val (.int (128 : Int32)), .val (.int (191 : Int32)), .unset, .unset] []))
        refine own_via (fun t k => XS.iloadN X0.here hx rfl (hb hby own_d1_85) rfl k) ?_
        show own_G p e below _ (s₁.setTop (mkF m 86 #[.val (.ref a1), .val (.int (0 : Int32)), .val (.int p2), .val (.int vg1), .unset, .val (.int (128 : Int32)), .val (.int (191 : Int32)), .unset, .unset] [(.int vg1)]))
        refine own_via (fun t k => XS.sipush X0.here hx rfl (hb hby own_d1_86) k) ?_
        show own_G p e below _ (s₁.setTop (mkF m 89 #[.val (.ref a1), .val (.int (0 : Int32)), .val (.int p2), .val (.int vg1), .unset, .val (.int (128 : Int32)), .val (.int (191 : Int32)), .unset, .unset] [(.int (240 : Int32)), (.int vg1)]))
        refine own_via (fun t k => XS.icmpNo X0.here hx rfl (hb hby own_d1_89) rfl (flt (own_b6 (own_b3 hc4) (by decide))).1 k) ?_
        show own_G p e below _ (s₁.setTop (mkF m 92 #[.val (.ref a1), .val (.int (0 : Int32)), .val (.int p2), .val (.int vg1), .unset, .val (.int (128 : Int32)), .val (.int (191 : Int32)), .unset, .unset] []))
        refine own_via (fun t k => XS.iloadN X0.here hx rfl (hb hby own_d1_92) rfl k) ?_
        show own_G p e below _ (s₁.setTop (mkF m 93 #[.val (.ref a1), .val (.int (0 : Int32)), .val (.int p2), .val (.int vg1), .unset, .val (.int (128 : Int32)), .val (.int (191 : Int32)), .unset, .unset] [(.int vg1)]))
        refine own_via (fun t k => XS.sipush X0.here hx rfl (hb hby own_d1_93) k) ?_
        show own_G p e below _ (s₁.setTop (mkF m 96 #[.val (.ref a1), .val (.int (0 : Int32)), .val (.int p2), .val (.int vg1), .unset, .val (.int (128 : Int32)), .val (.int (191 : Int32)), .unset, .unset] [(.int (244 : Int32)), (.int vg1)]))
        by_cases hc5 : (244 : Int32) < vg1
        ·
          refine own_via (fun t k => XS.icmpYes X0.here hx rfl (pc0 := 96) (pc' := 132) rfl (hb hby own_d1_96) rfl (tlt hc5).2.2.1 (by decide) (by decide) k) ?_
          show own_G p e below _ (s₁.setTop (mkF m 132 #[.val (.ref a1), .val (.int (0 : Int32)), .val (.int p2), .val (.int vg1), .unset, .val (.int (128 : Int32)), .val (.int (191 : Int32)), .unset, .unset] []))
          refine own_via (fun t k => XS.iconst X0.here hx rfl (hb hby own_d1_132) k) ?_
          show own_G p e below _ (s₁.setTop (mkF m 133 #[.val (.ref a1), .val (.int (0 : Int32)), .val (.int p2), .val (.int vg1), .unset, .val (.int (128 : Int32)), .val (.int (191 : Int32)), .unset, .unset] [(.int (-1 : Int32))]))
          exact own_retI X0 hx Bd.returns Bd.notSynchronized (hb hby own_d1_133) ⟨(by show (some (.int (-1 : Int32)) : Option Value) = some (.int (own_Fs0 b0 b1 b2 b3 p2)); subst hvg1; simp only [own_Fs0, if_neg hc2, if_pos hc3, if_pos hc4, if_pos hc5]), rfl, e0⟩ (by decide) (by decide)
        ·
          refine own_via (fun t k => XS.icmpNo X0.here hx rfl (hb hby own_d1_96) rfl (flt hc5).2.2.1 k) ?_
          show own_G p e below _ (s₁.setTop (mkF m 99 #[.val (.ref a1), .val (.int (0 : Int32)), .val (.int p2), .val (.int vg1), .unset, .val (.int (128 : Int32)), .val (.int (191 : Int32)), .unset, .unset] []))
          refine own_via (fun t k => XS.iconst X0.here hx rfl (hb hby own_d1_99) k) ?_
          show own_G p e below _ (s₁.setTop (mkF m 100 #[.val (.ref a1), .val (.int (0 : Int32)), .val (.int p2), .val (.int vg1), .unset, .val (.int (128 : Int32)), .val (.int (191 : Int32)), .unset, .unset] [(.int (4 : Int32))]))
          refine own_via (fun t k => XS.istore X0.here hx rfl (hb hby own_d1_100) rfl (l' := #[.val (.ref a1), .val (.int (0 : Int32)), .val (.int p2), .val (.int vg1), .val (.int (4 : Int32)), .val (.int (128 : Int32)), .val (.int (191 : Int32)), .unset, .unset]) rfl k) ?_
          show own_G p e below _ (s₁.setTop (mkF m 102 #[.val (.ref a1), .val (.int (0 : Int32)), .val (.int p2), .val (.int vg1), .val (.int (4 : Int32)), .val (.int (128 : Int32)), .val (.int (191 : Int32)), .unset, .unset] []))
          refine own_via (fun t k => XS.iloadN X0.here hx rfl (hb hby own_d1_102) rfl k) ?_
          show own_G p e below _ (s₁.setTop (mkF m 103 #[.val (.ref a1), .val (.int (0 : Int32)), .val (.int p2), .val (.int vg1), .val (.int (4 : Int32)), .val (.int (128 : Int32)), .val (.int (191 : Int32)), .unset, .unset] [(.int vg1)]))
          refine own_via (fun t k => XS.sipush X0.here hx rfl (hb hby own_d1_103) k) ?_
          show own_G p e below _ (s₁.setTop (mkF m 106 #[.val (.ref a1), .val (.int (0 : Int32)), .val (.int p2), .val (.int vg1), .val (.int (4 : Int32)), .val (.int (128 : Int32)), .val (.int (191 : Int32)), .unset, .unset] [(.int (240 : Int32)), (.int vg1)]))
          by_cases hc6 : vg1 = (240 : Int32)
          ·
            refine own_via (fun t k => XS.icmpNo X0.here hx rfl (hb hby own_d1_106) rfl (teq hc6).2 k) ?_
            show own_G p e below _ (s₁.setTop (mkF m 109 #[.val (.ref a1), .val (.int (0 : Int32)), .val (.int p2), .val (.int vg1), .val (.int (4 : Int32)), .val (.int (128 : Int32)), .val (.int (191 : Int32)), .unset, .unset] []))
            refine own_via (fun t k => XS.sipush X0.here hx rfl (hb hby own_d1_109) k) ?_
            show own_G p e below _ (s₁.setTop (mkF m 112 #[.val (.ref a1), .val (.int (0 : Int32)), .val (.int p2), .val (.int vg1), .val (.int (4 : Int32)), .val (.int (128 : Int32)), .val (.int (191 : Int32)), .unset, .unset] [(.int (144 : Int32))]))
            refine own_via (fun t k => XS.istore X0.here hx rfl (hb hby own_d1_112) rfl (l' := #[.val (.ref a1), .val (.int (0 : Int32)), .val (.int p2), .val (.int vg1), .val (.int (4 : Int32)), .val (.int (144 : Int32)), .val (.int (191 : Int32)), .unset, .unset]) rfl k) ?_
            show own_G p e below _ (s₁.setTop (mkF m 114 #[.val (.ref a1), .val (.int (0 : Int32)), .val (.int p2), .val (.int vg1), .val (.int (4 : Int32)), .val (.int (144 : Int32)), .val (.int (191 : Int32)), .unset, .unset] []))
            refine own_via (fun t k => XS.goto X0.here hx rfl (pc0 := 114) (pc' := 134) rfl (hb hby own_d1_114) (by decide) (by decide) k) ?_
            show own_G p e below _ (s₁.setTop (mkF m 134 #[.val (.ref a1), .val (.int (0 : Int32)), .val (.int p2), .val (.int vg1), .val (.int (4 : Int32)), .val (.int (144 : Int32)), .val (.int (191 : Int32)), .unset, .unset] []))
            refine own_via (fun t k => XS.iloadN X0.here hx rfl (hb hby own_d1_134) rfl k) ?_
            show own_G p e below _ (s₁.setTop (mkF m 135 #[.val (.ref a1), .val (.int (0 : Int32)), .val (.int p2), .val (.int vg1), .val (.int (4 : Int32)), .val (.int (144 : Int32)), .val (.int (191 : Int32)), .unset, .unset] [(.int p2)]))
            refine own_via (fun t k => XS.iloadN X0.here hx rfl (hb hby own_d1_135) rfl k) ?_
            show own_G p e below _ (s₁.setTop (mkF m 136 #[.val (.ref a1), .val (.int (0 : Int32)), .val (.int p2), .val (.int vg1), .val (.int (4 : Int32)), .val (.int (144 : Int32)), .val (.int (191 : Int32)), .unset, .unset] [(.int (0 : Int32)), (.int p2)]))
            refine own_via (fun t k => XS.isub X0.here hx rfl (hb hby own_d1_136) rfl k) ?_
            show own_G p e below _ (s₁.setTop (mkF m 137 #[.val (.ref a1), .val (.int (0 : Int32)), .val (.int p2), .val (.int vg1), .val (.int (4 : Int32)), .val (.int (144 : Int32)), .val (.int (191 : Int32)), .unset, .unset] [(.int (p2 - (0 : Int32)))]))
            refine own_via (fun t k => XS.iload X0.here hx rfl (hb hby own_d1_137) rfl k) ?_
            show own_G p e below _ (s₁.setTop (mkF m 139 #[.val (.ref a1), .val (.int (0 : Int32)), .val (.int p2), .val (.int vg1), .val (.int (4 : Int32)), .val (.int (144 : Int32)), .val (.int (191 : Int32)), .unset, .unset] [(.int (4 : Int32)), (.int (p2 - (0 : Int32)))]))
            by_cases hc7 : (p2 - (0 : Int32)) < (4 : Int32)
            ·
              refine own_via (fun t k => XS.icmpNo X0.here hx rfl (hb hby own_d1_139) rfl (tlt hc7).2.1 k) ?_
              show own_G p e below _ (s₁.setTop (mkF m 142 #[.val (.ref a1), .val (.int (0 : Int32)), .val (.int p2), .val (.int vg1), .val (.int (4 : Int32)), .val (.int (144 : Int32)), .val (.int (191 : Int32)), .unset, .unset] []))
              refine own_via (fun t k => XS.iconst X0.here hx rfl (hb hby own_d1_142) k) ?_
              show own_G p e below _ (s₁.setTop (mkF m 143 #[.val (.ref a1), .val (.int (0 : Int32)), .val (.int p2), .val (.int vg1), .val (.int (4 : Int32)), .val (.int (144 : Int32)), .val (.int (191 : Int32)), .unset, .unset] [(.int (-1 : Int32))]))
              exact own_retI X0 hx Bd.returns Bd.notSynchronized (hb hby own_d1_143) ⟨(by show (some (.int (-1 : Int32)) : Option Value) = some (.int (own_Fs0 b0 b1 b2 b3 p2)); subst hvg1; simp only [own_Fs0, if_neg hc2, if_pos hc3, if_pos hc4, if_neg hc5, if_pos hc6, if_pos hc7]), rfl, e0⟩ (by decide) (by decide)
            ·
              refine own_via (fun t k => XS.icmpYes X0.here hx rfl (pc0 := 139) (pc' := 144) rfl (hb hby own_d1_139) rfl (flt hc7).2.1 (by decide) (by decide) k) ?_
              show own_G p e below _ (s₁.setTop (mkF m 144 #[.val (.ref a1), .val (.int (0 : Int32)), .val (.int p2), .val (.int vg1), .val (.int (4 : Int32)), .val (.int (144 : Int32)), .val (.int (191 : Int32)), .unset, .unset] []))
              refine own_via (fun t k => XS.aloadN X0.here hx rfl (hb hby own_d1_144) rfl rfl k) ?_
              show own_G p e below _ (s₁.setTop (mkF m 145 #[.val (.ref a1), .val (.int (0 : Int32)), .val (.int p2), .val (.int vg1), .val (.int (4 : Int32)), .val (.int (144 : Int32)), .val (.int (191 : Int32)), .unset, .unset] [(.ref a1)]))
              refine own_via (fun t k => XS.iloadN X0.here hx rfl (hb hby own_d1_145) rfl k) ?_
              show own_G p e below _ (s₁.setTop (mkF m 146 #[.val (.ref a1), .val (.int (0 : Int32)), .val (.int p2), .val (.int vg1), .val (.int (4 : Int32)), .val (.int (144 : Int32)), .val (.int (191 : Int32)), .unset, .unset] [(.int (0 : Int32)), (.ref a1)]))
              refine own_via (fun t k => XS.iconst X0.here hx rfl (hb hby own_d1_146) k) ?_
              show own_G p e below _ (s₁.setTop (mkF m 147 #[.val (.ref a1), .val (.int (0 : Int32)), .val (.int p2), .val (.int vg1), .val (.int (4 : Int32)), .val (.int (144 : Int32)), .val (.int (191 : Int32)), .unset, .unset] [(.int (1 : Int32)), (.int (0 : Int32)), (.ref a1)]))
              refine own_via (fun t k => XS.iadd X0.here hx rfl (hb hby own_d1_147) rfl k) ?_
              show own_G p e below _ (s₁.setTop (mkF m 148 #[.val (.ref a1), .val (.int (0 : Int32)), .val (.int p2), .val (.int vg1), .val (.int (4 : Int32)), .val (.int (144 : Int32)), .val (.int (191 : Int32)), .unset, .unset] [(.int (1 : Int32)), (.ref a1)]))
              refine own_via (own_ldB X0 hx hZ e0 i_V0 (j := (1 : Int32)) ⟨by decide, by decide⟩ (v := (.int b1)) rfl (pc := 148) (Ls := #[.val (.ref a1), .val (.int (0 : Int32)), .val (.int p2), .val (.int vg1), .val (.int (4 : Int32)), .val (.int (144 : Int32)), .val (.int (191 : Int32)), .unset, .unset]) (rest := []) (hb hby own_d1_148)) ?_
              show own_G p e below _ (s₁.setTop (mkF m 149 #[.val (.ref a1), .val (.int (0 : Int32)), .val (.int p2), .val (.int vg1), .val (.int (4 : Int32)), .val (.int (144 : Int32)), .val (.int (191 : Int32)), .unset, .unset] [(.int b1)]))
              refine own_via (fun t k => XS.sipush X0.here hx rfl (hb hby own_d1_149) k) ?_
              show own_G p e below _ (s₁.setTop (mkF m 152 #[.val (.ref a1), .val (.int (0 : Int32)), .val (.int p2), .val (.int vg1), .val (.int (4 : Int32)), .val (.int (144 : Int32)), .val (.int (191 : Int32)), .unset, .unset] [(.int (255 : Int32)), (.int b1)]))
              refine own_via (fun t k => XS.iand X0.here hx rfl (hb hby own_d1_152) rfl k) ?_
              show own_G p e below _ (s₁.setTop (mkF m 153 #[.val (.ref a1), .val (.int (0 : Int32)), .val (.int p2), .val (.int vg1), .val (.int (4 : Int32)), .val (.int (144 : Int32)), .val (.int (191 : Int32)), .unset, .unset] [(.int (b1 &&& (255 : Int32)))]))
              generalize hvg8 : (b1 &&& (255 : Int32)) = vg8
              show own_G p e below _ (s₁.setTop (mkF m 153 #[.val (.ref a1), .val (.int (0 : Int32)), .val (.int p2), .val (.int vg1), .val (.int (4 : Int32)), .val (.int (144 : Int32)), .val (.int (191 : Int32)), .unset, .unset] [(.int vg8)]))
              refine own_via (fun t k => XS.istore X0.here hx rfl (hb hby own_d1_153) rfl (l' := #[.val (.ref a1), .val (.int (0 : Int32)), .val (.int p2), .val (.int vg1), .val (.int (4 : Int32)), .val (.int (144 : Int32)), .val (.int (191 : Int32)), .val (.int vg8), .unset]) rfl k) ?_
              show own_G p e below _ (s₁.setTop (mkF m 155 #[.val (.ref a1), .val (.int (0 : Int32)), .val (.int p2), .val (.int vg1), .val (.int (4 : Int32)), .val (.int (144 : Int32)), .val (.int (191 : Int32)), .val (.int vg8), .unset] []))
              refine own_via (fun t k => XS.iload X0.here hx rfl (hb hby own_d1_155) rfl k) ?_
              show own_G p e below _ (s₁.setTop (mkF m 157 #[.val (.ref a1), .val (.int (0 : Int32)), .val (.int p2), .val (.int vg1), .val (.int (4 : Int32)), .val (.int (144 : Int32)), .val (.int (191 : Int32)), .val (.int vg8), .unset] [(.int vg8)]))
              refine own_via (fun t k => XS.iload X0.here hx rfl (hb hby own_d1_157) rfl k) ?_
              show own_G p e below _ (s₁.setTop (mkF m 159 #[.val (.ref a1), .val (.int (0 : Int32)), .val (.int p2), .val (.int vg1), .val (.int (4 : Int32)), .val (.int (144 : Int32)), .val (.int (191 : Int32)), .val (.int vg8), .unset] [(.int (144 : Int32)), (.int vg8)]))
              by_cases hc9 : vg8 < (144 : Int32)
              ·
                refine own_via (fun t k => XS.icmpYes X0.here hx rfl (pc0 := 159) (pc' := 169) rfl (hb hby own_d1_159) rfl (tlt hc9).1 (by decide) (by decide) k) ?_
                show own_G p e below _ (s₁.setTop (mkF m 169 #[.val (.ref a1), .val (.int (0 : Int32)), .val (.int p2), .val (.int vg1), .val (.int (4 : Int32)), .val (.int (144 : Int32)), .val (.int (191 : Int32)), .val (.int vg8), .unset] []))
                refine own_via (fun t k => XS.iconst X0.here hx rfl (hb hby own_d1_169) k) ?_
                show own_G p e below _ (s₁.setTop (mkF m 170 #[.val (.ref a1), .val (.int (0 : Int32)), .val (.int p2), .val (.int vg1), .val (.int (4 : Int32)), .val (.int (144 : Int32)), .val (.int (191 : Int32)), .val (.int vg8), .unset] [(.int (-1 : Int32))]))
                exact own_retI X0 hx Bd.returns Bd.notSynchronized (hb hby own_d1_170) ⟨(by show (some (.int (-1 : Int32)) : Option Value) = some (.int (own_Fs0 b0 b1 b2 b3 p2)); subst hvg8; subst hvg1; simp only [own_Fs0, if_neg hc2, if_pos hc3, if_pos hc4, if_neg hc5, if_pos hc6, if_neg hc7, if_pos hc9]), rfl, e0⟩ (by decide) (by decide)
              ·
                refine own_via (fun t k => XS.icmpNo X0.here hx rfl (hb hby own_d1_159) rfl (flt hc9).1 k) ?_
                show own_G p e below _ (s₁.setTop (mkF m 162 #[.val (.ref a1), .val (.int (0 : Int32)), .val (.int p2), .val (.int vg1), .val (.int (4 : Int32)), .val (.int (144 : Int32)), .val (.int (191 : Int32)), .val (.int vg8), .unset] []))
                refine own_via (fun t k => XS.iload X0.here hx rfl (hb hby own_d1_162) rfl k) ?_
                show own_G p e below _ (s₁.setTop (mkF m 164 #[.val (.ref a1), .val (.int (0 : Int32)), .val (.int p2), .val (.int vg1), .val (.int (4 : Int32)), .val (.int (144 : Int32)), .val (.int (191 : Int32)), .val (.int vg8), .unset] [(.int vg8)]))
                refine own_via (fun t k => XS.iload X0.here hx rfl (hb hby own_d1_164) rfl k) ?_
                show own_G p e below _ (s₁.setTop (mkF m 166 #[.val (.ref a1), .val (.int (0 : Int32)), .val (.int p2), .val (.int vg1), .val (.int (4 : Int32)), .val (.int (144 : Int32)), .val (.int (191 : Int32)), .val (.int vg8), .unset] [(.int (191 : Int32)), (.int vg8)]))
                by_cases hc10 : (191 : Int32) < vg8
                ·
                  refine own_via (fun t k => XS.icmpNo X0.here hx rfl (hb hby own_d1_166) rfl (tlt hc10).2.2.2 k) ?_
                  show own_G p e below _ (s₁.setTop (mkF m 169 #[.val (.ref a1), .val (.int (0 : Int32)), .val (.int p2), .val (.int vg1), .val (.int (4 : Int32)), .val (.int (144 : Int32)), .val (.int (191 : Int32)), .val (.int vg8), .unset] []))
                  refine own_via (fun t k => XS.iconst X0.here hx rfl (hb hby own_d1_169) k) ?_
                  show own_G p e below _ (s₁.setTop (mkF m 170 #[.val (.ref a1), .val (.int (0 : Int32)), .val (.int p2), .val (.int vg1), .val (.int (4 : Int32)), .val (.int (144 : Int32)), .val (.int (191 : Int32)), .val (.int vg8), .unset] [(.int (-1 : Int32))]))
                  exact own_retI X0 hx Bd.returns Bd.notSynchronized (hb hby own_d1_170) ⟨(by show (some (.int (-1 : Int32)) : Option Value) = some (.int (own_Fs0 b0 b1 b2 b3 p2)); subst hvg8; subst hvg1; simp only [own_Fs0, if_neg hc2, if_pos hc3, if_pos hc4, if_neg hc5, if_pos hc6, if_neg hc7, if_neg hc9, if_pos hc10]), rfl, e0⟩ (by decide) (by decide)
                ·
                  refine own_via (fun t k => XS.icmpYes X0.here hx rfl (pc0 := 166) (pc' := 171) rfl (hb hby own_d1_166) rfl (flt hc10).2.2.2 (by decide) (by decide) k) ?_
                  show own_G p e below _ (s₁.setTop (mkF m 171 #[.val (.ref a1), .val (.int (0 : Int32)), .val (.int p2), .val (.int vg1), .val (.int (4 : Int32)), .val (.int (144 : Int32)), .val (.int (191 : Int32)), .val (.int vg8), .unset] []))
                  refine own_via (fun t k => XS.iloadN X0.here hx rfl (hb hby own_d1_171) rfl k) ?_
                  show own_G p e below _ (s₁.setTop (mkF m 172 #[.val (.ref a1), .val (.int (0 : Int32)), .val (.int p2), .val (.int vg1), .val (.int (4 : Int32)), .val (.int (144 : Int32)), .val (.int (191 : Int32)), .val (.int vg8), .unset] [(.int (0 : Int32))]))
                  refine own_via (fun t k => XS.iconst X0.here hx rfl (hb hby own_d1_172) k) ?_
                  show own_G p e below _ (s₁.setTop (mkF m 173 #[.val (.ref a1), .val (.int (0 : Int32)), .val (.int p2), .val (.int vg1), .val (.int (4 : Int32)), .val (.int (144 : Int32)), .val (.int (191 : Int32)), .val (.int vg8), .unset] [(.int (2 : Int32)), (.int (0 : Int32))]))
                  refine own_via (fun t k => XS.iadd X0.here hx rfl (hb hby own_d1_173) rfl k) ?_
                  show own_G p e below _ (s₁.setTop (mkF m 174 #[.val (.ref a1), .val (.int (0 : Int32)), .val (.int p2), .val (.int vg1), .val (.int (4 : Int32)), .val (.int (144 : Int32)), .val (.int (191 : Int32)), .val (.int vg8), .unset] [(.int (2 : Int32))]))
                  refine own_via (fun t k => XS.istore X0.here hx rfl (hb hby own_d1_174) rfl (l' := #[.val (.ref a1), .val (.int (0 : Int32)), .val (.int p2), .val (.int vg1), .val (.int (4 : Int32)), .val (.int (144 : Int32)), .val (.int (191 : Int32)), .val (.int vg8), .val (.int (2 : Int32))]) rfl k) ?_
                  show own_G p e below _ (s₁.setTop (mkF m 176 #[.val (.ref a1), .val (.int (0 : Int32)), .val (.int p2), .val (.int vg1), .val (.int (4 : Int32)), .val (.int (144 : Int32)), .val (.int (191 : Int32)), .val (.int vg8), .val (.int (2 : Int32))] []))
                  refine own_via (fun t k => XS.iload X0.here hx rfl (hb hby own_d1_176) rfl k) ?_
                  show own_G p e below _ (s₁.setTop (mkF m 178 #[.val (.ref a1), .val (.int (0 : Int32)), .val (.int p2), .val (.int vg1), .val (.int (4 : Int32)), .val (.int (144 : Int32)), .val (.int (191 : Int32)), .val (.int vg8), .val (.int (2 : Int32))] [(.int (2 : Int32))]))
                  refine own_via (fun t k => XS.iloadN X0.here hx rfl (hb hby own_d1_178) rfl k) ?_
                  show own_G p e below _ (s₁.setTop (mkF m 179 #[.val (.ref a1), .val (.int (0 : Int32)), .val (.int p2), .val (.int vg1), .val (.int (4 : Int32)), .val (.int (144 : Int32)), .val (.int (191 : Int32)), .val (.int vg8), .val (.int (2 : Int32))] [(.int (0 : Int32)), (.int (2 : Int32))]))
                  refine own_via (fun t k => XS.iload X0.here hx rfl (hb hby own_d1_179) rfl k) ?_
                  show own_G p e below _ (s₁.setTop (mkF m 181 #[.val (.ref a1), .val (.int (0 : Int32)), .val (.int p2), .val (.int vg1), .val (.int (4 : Int32)), .val (.int (144 : Int32)), .val (.int (191 : Int32)), .val (.int vg8), .val (.int (2 : Int32))] [(.int (4 : Int32)), (.int (0 : Int32)), (.int (2 : Int32))]))
                  refine own_via (fun t k => XS.iadd X0.here hx rfl (hb hby own_d1_181) rfl k) ?_
                  show own_G p e below _ (s₁.setTop (mkF m 182 #[.val (.ref a1), .val (.int (0 : Int32)), .val (.int p2), .val (.int vg1), .val (.int (4 : Int32)), .val (.int (144 : Int32)), .val (.int (191 : Int32)), .val (.int vg8), .val (.int (2 : Int32))] [(.int (4 : Int32)), (.int (2 : Int32))]))
                  refine own_via (fun t k => XS.icmpNo X0.here hx rfl (hb hby own_d1_182) rfl (tlt (by decide : (2 : Int32) < (4 : Int32))).2.1 k) ?_
                  show own_G p e below _ (s₁.setTop (mkF m 185 #[.val (.ref a1), .val (.int (0 : Int32)), .val (.int p2), .val (.int vg1), .val (.int (4 : Int32)), .val (.int (144 : Int32)), .val (.int (191 : Int32)), .val (.int vg8), .val (.int (2 : Int32))] []))
                  refine own_via (fun t k => XS.aloadN X0.here hx rfl (hb hby own_d1_185) rfl rfl k) ?_
                  show own_G p e below _ (s₁.setTop (mkF m 186 #[.val (.ref a1), .val (.int (0 : Int32)), .val (.int p2), .val (.int vg1), .val (.int (4 : Int32)), .val (.int (144 : Int32)), .val (.int (191 : Int32)), .val (.int vg8), .val (.int (2 : Int32))] [(.ref a1)]))
                  refine own_via (fun t k => XS.iload X0.here hx rfl (hb hby own_d1_186) rfl k) ?_
                  show own_G p e below _ (s₁.setTop (mkF m 188 #[.val (.ref a1), .val (.int (0 : Int32)), .val (.int p2), .val (.int vg1), .val (.int (4 : Int32)), .val (.int (144 : Int32)), .val (.int (191 : Int32)), .val (.int vg8), .val (.int (2 : Int32))] [(.int (2 : Int32)), (.ref a1)]))
                  refine own_via (own_ldB X0 hx hZ e0 i_V0 (j := (2 : Int32)) ⟨by decide, by decide⟩ (v := (.int b2)) rfl (pc := 188) (Ls := #[.val (.ref a1), .val (.int (0 : Int32)), .val (.int p2), .val (.int vg1), .val (.int (4 : Int32)), .val (.int (144 : Int32)), .val (.int (191 : Int32)), .val (.int vg8), .val (.int (2 : Int32))]) (rest := []) (hb hby own_d1_188)) ?_
                  show own_G p e below _ (s₁.setTop (mkF m 189 #[.val (.ref a1), .val (.int (0 : Int32)), .val (.int p2), .val (.int vg1), .val (.int (4 : Int32)), .val (.int (144 : Int32)), .val (.int (191 : Int32)), .val (.int vg8), .val (.int (2 : Int32))] [(.int b2)]))
                  refine own_via (fun t k => XS.sipush X0.here hx rfl (hb hby own_d1_189) k) ?_
                  show own_G p e below _ (s₁.setTop (mkF m 192 #[.val (.ref a1), .val (.int (0 : Int32)), .val (.int p2), .val (.int vg1), .val (.int (4 : Int32)), .val (.int (144 : Int32)), .val (.int (191 : Int32)), .val (.int vg8), .val (.int (2 : Int32))] [(.int (192 : Int32)), (.int b2)]))
                  refine own_via (fun t k => XS.iand X0.here hx rfl (hb hby own_d1_192) rfl k) ?_
                  show own_G p e below _ (s₁.setTop (mkF m 193 #[.val (.ref a1), .val (.int (0 : Int32)), .val (.int p2), .val (.int vg1), .val (.int (4 : Int32)), .val (.int (144 : Int32)), .val (.int (191 : Int32)), .val (.int vg8), .val (.int (2 : Int32))] [(.int (b2 &&& (192 : Int32)))]))
                  refine own_via (fun t k => XS.sipush X0.here hx rfl (hb hby own_d1_193) k) ?_
                  show own_G p e below _ (s₁.setTop (mkF m 196 #[.val (.ref a1), .val (.int (0 : Int32)), .val (.int p2), .val (.int vg1), .val (.int (4 : Int32)), .val (.int (144 : Int32)), .val (.int (191 : Int32)), .val (.int vg8), .val (.int (2 : Int32))] [(.int (128 : Int32)), (.int (b2 &&& (192 : Int32)))]))
                  by_cases hc11 : (b2 &&& (192 : Int32)) = (128 : Int32)
                  ·
                    refine own_via (fun t k => XS.icmpYes X0.here hx rfl (pc0 := 196) (pc' := 201) rfl (hb hby own_d1_196) rfl (teq hc11).1 (by decide) (by decide) k) ?_
                    show own_G p e below _ (s₁.setTop (mkF m 201 #[.val (.ref a1), .val (.int (0 : Int32)), .val (.int p2), .val (.int vg1), .val (.int (4 : Int32)), .val (.int (144 : Int32)), .val (.int (191 : Int32)), .val (.int vg8), .val (.int (2 : Int32))] []))
                    refine own_via (fun t k => XS.iinc X0.here hx rfl (hb hby own_d1_201) rfl (l' := #[.val (.ref a1), .val (.int (0 : Int32)), .val (.int p2), .val (.int vg1), .val (.int (4 : Int32)), .val (.int (144 : Int32)), .val (.int (191 : Int32)), .val (.int vg8), .val (.int (3 : Int32))]) rfl k) ?_
                    show own_G p e below _ (s₁.setTop (mkF m 204 #[.val (.ref a1), .val (.int (0 : Int32)), .val (.int p2), .val (.int vg1), .val (.int (4 : Int32)), .val (.int (144 : Int32)), .val (.int (191 : Int32)), .val (.int vg8), .val (.int (3 : Int32))] []))
                    refine own_via (fun t k => XS.goto X0.here hx rfl (pc0 := 204) (pc' := 176) rfl (hb hby own_d1_204) (by decide) (by decide) k) ?_
                    show own_G p e below _ (s₁.setTop (mkF m 176 #[.val (.ref a1), .val (.int (0 : Int32)), .val (.int p2), .val (.int vg1), .val (.int (4 : Int32)), .val (.int (144 : Int32)), .val (.int (191 : Int32)), .val (.int vg8), .val (.int (3 : Int32))] []))
                    refine own_via (fun t k => XS.iload X0.here hx rfl (hb hby own_d1_176) rfl k) ?_
                    show own_G p e below _ (s₁.setTop (mkF m 178 #[.val (.ref a1), .val (.int (0 : Int32)), .val (.int p2), .val (.int vg1), .val (.int (4 : Int32)), .val (.int (144 : Int32)), .val (.int (191 : Int32)), .val (.int vg8), .val (.int (3 : Int32))] [(.int (3 : Int32))]))
                    refine own_via (fun t k => XS.iloadN X0.here hx rfl (hb hby own_d1_178) rfl k) ?_
                    show own_G p e below _ (s₁.setTop (mkF m 179 #[.val (.ref a1), .val (.int (0 : Int32)), .val (.int p2), .val (.int vg1), .val (.int (4 : Int32)), .val (.int (144 : Int32)), .val (.int (191 : Int32)), .val (.int vg8), .val (.int (3 : Int32))] [(.int (0 : Int32)), (.int (3 : Int32))]))
                    refine own_via (fun t k => XS.iload X0.here hx rfl (hb hby own_d1_179) rfl k) ?_
                    show own_G p e below _ (s₁.setTop (mkF m 181 #[.val (.ref a1), .val (.int (0 : Int32)), .val (.int p2), .val (.int vg1), .val (.int (4 : Int32)), .val (.int (144 : Int32)), .val (.int (191 : Int32)), .val (.int vg8), .val (.int (3 : Int32))] [(.int (4 : Int32)), (.int (0 : Int32)), (.int (3 : Int32))]))
                    refine own_via (fun t k => XS.iadd X0.here hx rfl (hb hby own_d1_181) rfl k) ?_
                    show own_G p e below _ (s₁.setTop (mkF m 182 #[.val (.ref a1), .val (.int (0 : Int32)), .val (.int p2), .val (.int vg1), .val (.int (4 : Int32)), .val (.int (144 : Int32)), .val (.int (191 : Int32)), .val (.int vg8), .val (.int (3 : Int32))] [(.int (4 : Int32)), (.int (3 : Int32))]))
                    refine own_via (fun t k => XS.icmpNo X0.here hx rfl (hb hby own_d1_182) rfl (tlt (by decide : (3 : Int32) < (4 : Int32))).2.1 k) ?_
                    show own_G p e below _ (s₁.setTop (mkF m 185 #[.val (.ref a1), .val (.int (0 : Int32)), .val (.int p2), .val (.int vg1), .val (.int (4 : Int32)), .val (.int (144 : Int32)), .val (.int (191 : Int32)), .val (.int vg8), .val (.int (3 : Int32))] []))
                    refine own_via (fun t k => XS.aloadN X0.here hx rfl (hb hby own_d1_185) rfl rfl k) ?_
                    show own_G p e below _ (s₁.setTop (mkF m 186 #[.val (.ref a1), .val (.int (0 : Int32)), .val (.int p2), .val (.int vg1), .val (.int (4 : Int32)), .val (.int (144 : Int32)), .val (.int (191 : Int32)), .val (.int vg8), .val (.int (3 : Int32))] [(.ref a1)]))
                    refine own_via (fun t k => XS.iload X0.here hx rfl (hb hby own_d1_186) rfl k) ?_
                    show own_G p e below _ (s₁.setTop (mkF m 188 #[.val (.ref a1), .val (.int (0 : Int32)), .val (.int p2), .val (.int vg1), .val (.int (4 : Int32)), .val (.int (144 : Int32)), .val (.int (191 : Int32)), .val (.int vg8), .val (.int (3 : Int32))] [(.int (3 : Int32)), (.ref a1)]))
                    refine own_via (own_ldB X0 hx hZ e0 i_V0 (j := (3 : Int32)) ⟨by decide, by decide⟩ (v := (.int b3)) rfl (pc := 188) (Ls := #[.val (.ref a1), .val (.int (0 : Int32)), .val (.int p2), .val (.int vg1), .val (.int (4 : Int32)), .val (.int (144 : Int32)), .val (.int (191 : Int32)), .val (.int vg8), .val (.int (3 : Int32))]) (rest := []) (hb hby own_d1_188)) ?_
                    show own_G p e below _ (s₁.setTop (mkF m 189 #[.val (.ref a1), .val (.int (0 : Int32)), .val (.int p2), .val (.int vg1), .val (.int (4 : Int32)), .val (.int (144 : Int32)), .val (.int (191 : Int32)), .val (.int vg8), .val (.int (3 : Int32))] [(.int b3)]))
                    refine own_via (fun t k => XS.sipush X0.here hx rfl (hb hby own_d1_189) k) ?_
                    show own_G p e below _ (s₁.setTop (mkF m 192 #[.val (.ref a1), .val (.int (0 : Int32)), .val (.int p2), .val (.int vg1), .val (.int (4 : Int32)), .val (.int (144 : Int32)), .val (.int (191 : Int32)), .val (.int vg8), .val (.int (3 : Int32))] [(.int (192 : Int32)), (.int b3)]))
                    refine own_via (fun t k => XS.iand X0.here hx rfl (hb hby own_d1_192) rfl k) ?_
                    show own_G p e below _ (s₁.setTop (mkF m 193 #[.val (.ref a1), .val (.int (0 : Int32)), .val (.int p2), .val (.int vg1), .val (.int (4 : Int32)), .val (.int (144 : Int32)), .val (.int (191 : Int32)), .val (.int vg8), .val (.int (3 : Int32))] [(.int (b3 &&& (192 : Int32)))]))
                    refine own_via (fun t k => XS.sipush X0.here hx rfl (hb hby own_d1_193) k) ?_
                    show own_G p e below _ (s₁.setTop (mkF m 196 #[.val (.ref a1), .val (.int (0 : Int32)), .val (.int p2), .val (.int vg1), .val (.int (4 : Int32)), .val (.int (144 : Int32)), .val (.int (191 : Int32)), .val (.int vg8), .val (.int (3 : Int32))] [(.int (128 : Int32)), (.int (b3 &&& (192 : Int32)))]))
                    by_cases hc12 : (b3 &&& (192 : Int32)) = (128 : Int32)
                    ·
                      refine own_via (fun t k => XS.icmpYes X0.here hx rfl (pc0 := 196) (pc' := 201) rfl (hb hby own_d1_196) rfl (teq hc12).1 (by decide) (by decide) k) ?_
                      show own_G p e below _ (s₁.setTop (mkF m 201 #[.val (.ref a1), .val (.int (0 : Int32)), .val (.int p2), .val (.int vg1), .val (.int (4 : Int32)), .val (.int (144 : Int32)), .val (.int (191 : Int32)), .val (.int vg8), .val (.int (3 : Int32))] []))
                      refine own_via (fun t k => XS.iinc X0.here hx rfl (hb hby own_d1_201) rfl (l' := #[.val (.ref a1), .val (.int (0 : Int32)), .val (.int p2), .val (.int vg1), .val (.int (4 : Int32)), .val (.int (144 : Int32)), .val (.int (191 : Int32)), .val (.int vg8), .val (.int (4 : Int32))]) rfl k) ?_
                      show own_G p e below _ (s₁.setTop (mkF m 204 #[.val (.ref a1), .val (.int (0 : Int32)), .val (.int p2), .val (.int vg1), .val (.int (4 : Int32)), .val (.int (144 : Int32)), .val (.int (191 : Int32)), .val (.int vg8), .val (.int (4 : Int32))] []))
                      refine own_via (fun t k => XS.goto X0.here hx rfl (pc0 := 204) (pc' := 176) rfl (hb hby own_d1_204) (by decide) (by decide) k) ?_
                      show own_G p e below _ (s₁.setTop (mkF m 176 #[.val (.ref a1), .val (.int (0 : Int32)), .val (.int p2), .val (.int vg1), .val (.int (4 : Int32)), .val (.int (144 : Int32)), .val (.int (191 : Int32)), .val (.int vg8), .val (.int (4 : Int32))] []))
                      refine own_via (fun t k => XS.iload X0.here hx rfl (hb hby own_d1_176) rfl k) ?_
                      show own_G p e below _ (s₁.setTop (mkF m 178 #[.val (.ref a1), .val (.int (0 : Int32)), .val (.int p2), .val (.int vg1), .val (.int (4 : Int32)), .val (.int (144 : Int32)), .val (.int (191 : Int32)), .val (.int vg8), .val (.int (4 : Int32))] [(.int (4 : Int32))]))
                      refine own_via (fun t k => XS.iloadN X0.here hx rfl (hb hby own_d1_178) rfl k) ?_
                      show own_G p e below _ (s₁.setTop (mkF m 179 #[.val (.ref a1), .val (.int (0 : Int32)), .val (.int p2), .val (.int vg1), .val (.int (4 : Int32)), .val (.int (144 : Int32)), .val (.int (191 : Int32)), .val (.int vg8), .val (.int (4 : Int32))] [(.int (0 : Int32)), (.int (4 : Int32))]))
                      refine own_via (fun t k => XS.iload X0.here hx rfl (hb hby own_d1_179) rfl k) ?_
                      show own_G p e below _ (s₁.setTop (mkF m 181 #[.val (.ref a1), .val (.int (0 : Int32)), .val (.int p2), .val (.int vg1), .val (.int (4 : Int32)), .val (.int (144 : Int32)), .val (.int (191 : Int32)), .val (.int vg8), .val (.int (4 : Int32))] [(.int (4 : Int32)), (.int (0 : Int32)), (.int (4 : Int32))]))
                      refine own_via (fun t k => XS.iadd X0.here hx rfl (hb hby own_d1_181) rfl k) ?_
                      show own_G p e below _ (s₁.setTop (mkF m 182 #[.val (.ref a1), .val (.int (0 : Int32)), .val (.int p2), .val (.int vg1), .val (.int (4 : Int32)), .val (.int (144 : Int32)), .val (.int (191 : Int32)), .val (.int vg8), .val (.int (4 : Int32))] [(.int (4 : Int32)), (.int (4 : Int32))]))
                      refine own_via (fun t k => XS.icmpYes X0.here hx rfl (pc0 := 182) (pc' := 207) rfl (hb hby own_d1_182) rfl (flt (by decide : ¬ ((4 : Int32) < (4 : Int32)))).2.1 (by decide) (by decide) k) ?_
                      show own_G p e below _ (s₁.setTop (mkF m 207 #[.val (.ref a1), .val (.int (0 : Int32)), .val (.int p2), .val (.int vg1), .val (.int (4 : Int32)), .val (.int (144 : Int32)), .val (.int (191 : Int32)), .val (.int vg8), .val (.int (4 : Int32))] []))
                      refine own_via (fun t k => XS.iload X0.here hx rfl (hb hby own_d1_207) rfl k) ?_
                      show own_G p e below _ (s₁.setTop (mkF m 209 #[.val (.ref a1), .val (.int (0 : Int32)), .val (.int p2), .val (.int vg1), .val (.int (4 : Int32)), .val (.int (144 : Int32)), .val (.int (191 : Int32)), .val (.int vg8), .val (.int (4 : Int32))] [(.int (4 : Int32))]))
                      exact own_retI X0 hx Bd.returns Bd.notSynchronized (hb hby own_d1_209) ⟨(by show (some (.int (4 : Int32)) : Option Value) = some (.int (own_Fs0 b0 b1 b2 b3 p2)); subst hvg8; subst hvg1; simp only [own_Fs0, if_neg hc2, if_pos hc3, if_pos hc4, if_neg hc5, if_pos hc6, if_neg hc7, if_neg hc9, if_neg hc10, if_pos hc11, if_pos hc12]), rfl, e0⟩ (by decide) (by decide)
                    ·
                      refine own_via (fun t k => XS.icmpNo X0.here hx rfl (hb hby own_d1_196) rfl (feq hc12).1 k) ?_
                      show own_G p e below _ (s₁.setTop (mkF m 199 #[.val (.ref a1), .val (.int (0 : Int32)), .val (.int p2), .val (.int vg1), .val (.int (4 : Int32)), .val (.int (144 : Int32)), .val (.int (191 : Int32)), .val (.int vg8), .val (.int (3 : Int32))] []))
                      refine own_via (fun t k => XS.iconst X0.here hx rfl (hb hby own_d1_199) k) ?_
                      show own_G p e below _ (s₁.setTop (mkF m 200 #[.val (.ref a1), .val (.int (0 : Int32)), .val (.int p2), .val (.int vg1), .val (.int (4 : Int32)), .val (.int (144 : Int32)), .val (.int (191 : Int32)), .val (.int vg8), .val (.int (3 : Int32))] [(.int (-1 : Int32))]))
                      exact own_retI X0 hx Bd.returns Bd.notSynchronized (hb hby own_d1_200) ⟨(by show (some (.int (-1 : Int32)) : Option Value) = some (.int (own_Fs0 b0 b1 b2 b3 p2)); subst hvg8; subst hvg1; simp only [own_Fs0, if_neg hc2, if_pos hc3, if_pos hc4, if_neg hc5, if_pos hc6, if_neg hc7, if_neg hc9, if_neg hc10, if_pos hc11, if_neg hc12]), rfl, e0⟩ (by decide) (by decide)
                  ·
                    refine own_via (fun t k => XS.icmpNo X0.here hx rfl (hb hby own_d1_196) rfl (feq hc11).1 k) ?_
                    show own_G p e below _ (s₁.setTop (mkF m 199 #[.val (.ref a1), .val (.int (0 : Int32)), .val (.int p2), .val (.int vg1), .val (.int (4 : Int32)), .val (.int (144 : Int32)), .val (.int (191 : Int32)), .val (.int vg8), .val (.int (2 : Int32))] []))
                    refine own_via (fun t k => XS.iconst X0.here hx rfl (hb hby own_d1_199) k) ?_
                    show own_G p e below _ (s₁.setTop (mkF m 200 #[.val (.ref a1), .val (.int (0 : Int32)), .val (.int p2), .val (.int vg1), .val (.int (4 : Int32)), .val (.int (144 : Int32)), .val (.int (191 : Int32)), .val (.int vg8), .val (.int (2 : Int32))] [(.int (-1 : Int32))]))
                    exact own_retI X0 hx Bd.returns Bd.notSynchronized (hb hby own_d1_200) ⟨(by show (some (.int (-1 : Int32)) : Option Value) = some (.int (own_Fs0 b0 b1 b2 b3 p2)); subst hvg8; subst hvg1; simp only [own_Fs0, if_neg hc2, if_pos hc3, if_pos hc4, if_neg hc5, if_pos hc6, if_neg hc7, if_neg hc9, if_neg hc10, if_neg hc11]), rfl, e0⟩ (by decide) (by decide)
          ·
            refine own_via (fun t k => XS.icmpYes X0.here hx rfl (pc0 := 106) (pc' := 117) rfl (hb hby own_d1_106) rfl (feq hc6).2 (by decide) (by decide) k) ?_
            show own_G p e below _ (s₁.setTop (mkF m 117 #[.val (.ref a1), .val (.int (0 : Int32)), .val (.int p2), .val (.int vg1), .val (.int (4 : Int32)), .val (.int (128 : Int32)), .val (.int (191 : Int32)), .unset, .unset] []))
            refine own_via (fun t k => XS.iloadN X0.here hx rfl (hb hby own_d1_117) rfl k) ?_
            show own_G p e below _ (s₁.setTop (mkF m 118 #[.val (.ref a1), .val (.int (0 : Int32)), .val (.int p2), .val (.int vg1), .val (.int (4 : Int32)), .val (.int (128 : Int32)), .val (.int (191 : Int32)), .unset, .unset] [(.int vg1)]))
            refine own_via (fun t k => XS.sipush X0.here hx rfl (hb hby own_d1_118) k) ?_
            show own_G p e below _ (s₁.setTop (mkF m 121 #[.val (.ref a1), .val (.int (0 : Int32)), .val (.int p2), .val (.int vg1), .val (.int (4 : Int32)), .val (.int (128 : Int32)), .val (.int (191 : Int32)), .unset, .unset] [(.int (244 : Int32)), (.int vg1)]))
            by_cases hc13 : vg1 = (244 : Int32)
            ·
              refine own_via (fun t k => XS.icmpNo X0.here hx rfl (hb hby own_d1_121) rfl (teq hc13).2 k) ?_
              show own_G p e below _ (s₁.setTop (mkF m 124 #[.val (.ref a1), .val (.int (0 : Int32)), .val (.int p2), .val (.int vg1), .val (.int (4 : Int32)), .val (.int (128 : Int32)), .val (.int (191 : Int32)), .unset, .unset] []))
              refine own_via (fun t k => XS.sipush X0.here hx rfl (hb hby own_d1_124) k) ?_
              show own_G p e below _ (s₁.setTop (mkF m 127 #[.val (.ref a1), .val (.int (0 : Int32)), .val (.int p2), .val (.int vg1), .val (.int (4 : Int32)), .val (.int (128 : Int32)), .val (.int (191 : Int32)), .unset, .unset] [(.int (143 : Int32))]))
              refine own_via (fun t k => XS.istore X0.here hx rfl (hb hby own_d1_127) rfl (l' := #[.val (.ref a1), .val (.int (0 : Int32)), .val (.int p2), .val (.int vg1), .val (.int (4 : Int32)), .val (.int (128 : Int32)), .val (.int (143 : Int32)), .unset, .unset]) rfl k) ?_
              show own_G p e below _ (s₁.setTop (mkF m 129 #[.val (.ref a1), .val (.int (0 : Int32)), .val (.int p2), .val (.int vg1), .val (.int (4 : Int32)), .val (.int (128 : Int32)), .val (.int (143 : Int32)), .unset, .unset] []))
              refine own_via (fun t k => XS.goto X0.here hx rfl (pc0 := 129) (pc' := 134) rfl (hb hby own_d1_129) (by decide) (by decide) k) ?_
              show own_G p e below _ (s₁.setTop (mkF m 134 #[.val (.ref a1), .val (.int (0 : Int32)), .val (.int p2), .val (.int vg1), .val (.int (4 : Int32)), .val (.int (128 : Int32)), .val (.int (143 : Int32)), .unset, .unset] []))
              refine own_via (fun t k => XS.iloadN X0.here hx rfl (hb hby own_d1_134) rfl k) ?_
              show own_G p e below _ (s₁.setTop (mkF m 135 #[.val (.ref a1), .val (.int (0 : Int32)), .val (.int p2), .val (.int vg1), .val (.int (4 : Int32)), .val (.int (128 : Int32)), .val (.int (143 : Int32)), .unset, .unset] [(.int p2)]))
              refine own_via (fun t k => XS.iloadN X0.here hx rfl (hb hby own_d1_135) rfl k) ?_
              show own_G p e below _ (s₁.setTop (mkF m 136 #[.val (.ref a1), .val (.int (0 : Int32)), .val (.int p2), .val (.int vg1), .val (.int (4 : Int32)), .val (.int (128 : Int32)), .val (.int (143 : Int32)), .unset, .unset] [(.int (0 : Int32)), (.int p2)]))
              refine own_via (fun t k => XS.isub X0.here hx rfl (hb hby own_d1_136) rfl k) ?_
              show own_G p e below _ (s₁.setTop (mkF m 137 #[.val (.ref a1), .val (.int (0 : Int32)), .val (.int p2), .val (.int vg1), .val (.int (4 : Int32)), .val (.int (128 : Int32)), .val (.int (143 : Int32)), .unset, .unset] [(.int (p2 - (0 : Int32)))]))
              refine own_via (fun t k => XS.iload X0.here hx rfl (hb hby own_d1_137) rfl k) ?_
              show own_G p e below _ (s₁.setTop (mkF m 139 #[.val (.ref a1), .val (.int (0 : Int32)), .val (.int p2), .val (.int vg1), .val (.int (4 : Int32)), .val (.int (128 : Int32)), .val (.int (143 : Int32)), .unset, .unset] [(.int (4 : Int32)), (.int (p2 - (0 : Int32)))]))
              by_cases hc14 : (p2 - (0 : Int32)) < (4 : Int32)
              ·
                refine own_via (fun t k => XS.icmpNo X0.here hx rfl (hb hby own_d1_139) rfl (tlt hc14).2.1 k) ?_
                show own_G p e below _ (s₁.setTop (mkF m 142 #[.val (.ref a1), .val (.int (0 : Int32)), .val (.int p2), .val (.int vg1), .val (.int (4 : Int32)), .val (.int (128 : Int32)), .val (.int (143 : Int32)), .unset, .unset] []))
                refine own_via (fun t k => XS.iconst X0.here hx rfl (hb hby own_d1_142) k) ?_
                show own_G p e below _ (s₁.setTop (mkF m 143 #[.val (.ref a1), .val (.int (0 : Int32)), .val (.int p2), .val (.int vg1), .val (.int (4 : Int32)), .val (.int (128 : Int32)), .val (.int (143 : Int32)), .unset, .unset] [(.int (-1 : Int32))]))
                exact own_retI X0 hx Bd.returns Bd.notSynchronized (hb hby own_d1_143) ⟨(by show (some (.int (-1 : Int32)) : Option Value) = some (.int (own_Fs0 b0 b1 b2 b3 p2)); subst hvg1; simp only [own_Fs0, if_neg hc2, if_pos hc3, if_pos hc4, if_neg hc5, if_neg hc6, if_pos hc13, if_pos hc14]), rfl, e0⟩ (by decide) (by decide)
              ·
                refine own_via (fun t k => XS.icmpYes X0.here hx rfl (pc0 := 139) (pc' := 144) rfl (hb hby own_d1_139) rfl (flt hc14).2.1 (by decide) (by decide) k) ?_
                show own_G p e below _ (s₁.setTop (mkF m 144 #[.val (.ref a1), .val (.int (0 : Int32)), .val (.int p2), .val (.int vg1), .val (.int (4 : Int32)), .val (.int (128 : Int32)), .val (.int (143 : Int32)), .unset, .unset] []))
                refine own_via (fun t k => XS.aloadN X0.here hx rfl (hb hby own_d1_144) rfl rfl k) ?_
                show own_G p e below _ (s₁.setTop (mkF m 145 #[.val (.ref a1), .val (.int (0 : Int32)), .val (.int p2), .val (.int vg1), .val (.int (4 : Int32)), .val (.int (128 : Int32)), .val (.int (143 : Int32)), .unset, .unset] [(.ref a1)]))
                refine own_via (fun t k => XS.iloadN X0.here hx rfl (hb hby own_d1_145) rfl k) ?_
                show own_G p e below _ (s₁.setTop (mkF m 146 #[.val (.ref a1), .val (.int (0 : Int32)), .val (.int p2), .val (.int vg1), .val (.int (4 : Int32)), .val (.int (128 : Int32)), .val (.int (143 : Int32)), .unset, .unset] [(.int (0 : Int32)), (.ref a1)]))
                refine own_via (fun t k => XS.iconst X0.here hx rfl (hb hby own_d1_146) k) ?_
                show own_G p e below _ (s₁.setTop (mkF m 147 #[.val (.ref a1), .val (.int (0 : Int32)), .val (.int p2), .val (.int vg1), .val (.int (4 : Int32)), .val (.int (128 : Int32)), .val (.int (143 : Int32)), .unset, .unset] [(.int (1 : Int32)), (.int (0 : Int32)), (.ref a1)]))
                refine own_via (fun t k => XS.iadd X0.here hx rfl (hb hby own_d1_147) rfl k) ?_
                show own_G p e below _ (s₁.setTop (mkF m 148 #[.val (.ref a1), .val (.int (0 : Int32)), .val (.int p2), .val (.int vg1), .val (.int (4 : Int32)), .val (.int (128 : Int32)), .val (.int (143 : Int32)), .unset, .unset] [(.int (1 : Int32)), (.ref a1)]))
                refine own_via (own_ldB X0 hx hZ e0 i_V0 (j := (1 : Int32)) ⟨by decide, by decide⟩ (v := (.int b1)) rfl (pc := 148) (Ls := #[.val (.ref a1), .val (.int (0 : Int32)), .val (.int p2), .val (.int vg1), .val (.int (4 : Int32)), .val (.int (128 : Int32)), .val (.int (143 : Int32)), .unset, .unset]) (rest := []) (hb hby own_d1_148)) ?_
                show own_G p e below _ (s₁.setTop (mkF m 149 #[.val (.ref a1), .val (.int (0 : Int32)), .val (.int p2), .val (.int vg1), .val (.int (4 : Int32)), .val (.int (128 : Int32)), .val (.int (143 : Int32)), .unset, .unset] [(.int b1)]))
                refine own_via (fun t k => XS.sipush X0.here hx rfl (hb hby own_d1_149) k) ?_
                show own_G p e below _ (s₁.setTop (mkF m 152 #[.val (.ref a1), .val (.int (0 : Int32)), .val (.int p2), .val (.int vg1), .val (.int (4 : Int32)), .val (.int (128 : Int32)), .val (.int (143 : Int32)), .unset, .unset] [(.int (255 : Int32)), (.int b1)]))
                refine own_via (fun t k => XS.iand X0.here hx rfl (hb hby own_d1_152) rfl k) ?_
                show own_G p e below _ (s₁.setTop (mkF m 153 #[.val (.ref a1), .val (.int (0 : Int32)), .val (.int p2), .val (.int vg1), .val (.int (4 : Int32)), .val (.int (128 : Int32)), .val (.int (143 : Int32)), .unset, .unset] [(.int (b1 &&& (255 : Int32)))]))
                generalize hvg15 : (b1 &&& (255 : Int32)) = vg15
                show own_G p e below _ (s₁.setTop (mkF m 153 #[.val (.ref a1), .val (.int (0 : Int32)), .val (.int p2), .val (.int vg1), .val (.int (4 : Int32)), .val (.int (128 : Int32)), .val (.int (143 : Int32)), .unset, .unset] [(.int vg15)]))
                refine own_via (fun t k => XS.istore X0.here hx rfl (hb hby own_d1_153) rfl (l' := #[.val (.ref a1), .val (.int (0 : Int32)), .val (.int p2), .val (.int vg1), .val (.int (4 : Int32)), .val (.int (128 : Int32)), .val (.int (143 : Int32)), .val (.int vg15), .unset]) rfl k) ?_
                show own_G p e below _ (s₁.setTop (mkF m 155 #[.val (.ref a1), .val (.int (0 : Int32)), .val (.int p2), .val (.int vg1), .val (.int (4 : Int32)), .val (.int (128 : Int32)), .val (.int (143 : Int32)), .val (.int vg15), .unset] []))
                refine own_via (fun t k => XS.iload X0.here hx rfl (hb hby own_d1_155) rfl k) ?_
                show own_G p e below _ (s₁.setTop (mkF m 157 #[.val (.ref a1), .val (.int (0 : Int32)), .val (.int p2), .val (.int vg1), .val (.int (4 : Int32)), .val (.int (128 : Int32)), .val (.int (143 : Int32)), .val (.int vg15), .unset] [(.int vg15)]))
                refine own_via (fun t k => XS.iload X0.here hx rfl (hb hby own_d1_157) rfl k) ?_
                show own_G p e below _ (s₁.setTop (mkF m 159 #[.val (.ref a1), .val (.int (0 : Int32)), .val (.int p2), .val (.int vg1), .val (.int (4 : Int32)), .val (.int (128 : Int32)), .val (.int (143 : Int32)), .val (.int vg15), .unset] [(.int (128 : Int32)), (.int vg15)]))
                by_cases hc16 : vg15 < (128 : Int32)
                ·
                  refine own_via (fun t k => XS.icmpYes X0.here hx rfl (pc0 := 159) (pc' := 169) rfl (hb hby own_d1_159) rfl (tlt hc16).1 (by decide) (by decide) k) ?_
                  show own_G p e below _ (s₁.setTop (mkF m 169 #[.val (.ref a1), .val (.int (0 : Int32)), .val (.int p2), .val (.int vg1), .val (.int (4 : Int32)), .val (.int (128 : Int32)), .val (.int (143 : Int32)), .val (.int vg15), .unset] []))
                  refine own_via (fun t k => XS.iconst X0.here hx rfl (hb hby own_d1_169) k) ?_
                  show own_G p e below _ (s₁.setTop (mkF m 170 #[.val (.ref a1), .val (.int (0 : Int32)), .val (.int p2), .val (.int vg1), .val (.int (4 : Int32)), .val (.int (128 : Int32)), .val (.int (143 : Int32)), .val (.int vg15), .unset] [(.int (-1 : Int32))]))
                  exact own_retI X0 hx Bd.returns Bd.notSynchronized (hb hby own_d1_170) ⟨(by show (some (.int (-1 : Int32)) : Option Value) = some (.int (own_Fs0 b0 b1 b2 b3 p2)); subst hvg15; subst hvg1; simp only [own_Fs0, if_neg hc2, if_pos hc3, if_pos hc4, if_neg hc5, if_neg hc6, if_pos hc13, if_neg hc14, if_pos hc16]), rfl, e0⟩ (by decide) (by decide)
                ·
                  refine own_via (fun t k => XS.icmpNo X0.here hx rfl (hb hby own_d1_159) rfl (flt hc16).1 k) ?_
                  show own_G p e below _ (s₁.setTop (mkF m 162 #[.val (.ref a1), .val (.int (0 : Int32)), .val (.int p2), .val (.int vg1), .val (.int (4 : Int32)), .val (.int (128 : Int32)), .val (.int (143 : Int32)), .val (.int vg15), .unset] []))
                  refine own_via (fun t k => XS.iload X0.here hx rfl (hb hby own_d1_162) rfl k) ?_
                  show own_G p e below _ (s₁.setTop (mkF m 164 #[.val (.ref a1), .val (.int (0 : Int32)), .val (.int p2), .val (.int vg1), .val (.int (4 : Int32)), .val (.int (128 : Int32)), .val (.int (143 : Int32)), .val (.int vg15), .unset] [(.int vg15)]))
                  refine own_via (fun t k => XS.iload X0.here hx rfl (hb hby own_d1_164) rfl k) ?_
                  show own_G p e below _ (s₁.setTop (mkF m 166 #[.val (.ref a1), .val (.int (0 : Int32)), .val (.int p2), .val (.int vg1), .val (.int (4 : Int32)), .val (.int (128 : Int32)), .val (.int (143 : Int32)), .val (.int vg15), .unset] [(.int (143 : Int32)), (.int vg15)]))
                  by_cases hc17 : (143 : Int32) < vg15
                  ·
                    refine own_via (fun t k => XS.icmpNo X0.here hx rfl (hb hby own_d1_166) rfl (tlt hc17).2.2.2 k) ?_
                    show own_G p e below _ (s₁.setTop (mkF m 169 #[.val (.ref a1), .val (.int (0 : Int32)), .val (.int p2), .val (.int vg1), .val (.int (4 : Int32)), .val (.int (128 : Int32)), .val (.int (143 : Int32)), .val (.int vg15), .unset] []))
                    refine own_via (fun t k => XS.iconst X0.here hx rfl (hb hby own_d1_169) k) ?_
                    show own_G p e below _ (s₁.setTop (mkF m 170 #[.val (.ref a1), .val (.int (0 : Int32)), .val (.int p2), .val (.int vg1), .val (.int (4 : Int32)), .val (.int (128 : Int32)), .val (.int (143 : Int32)), .val (.int vg15), .unset] [(.int (-1 : Int32))]))
                    exact own_retI X0 hx Bd.returns Bd.notSynchronized (hb hby own_d1_170) ⟨(by show (some (.int (-1 : Int32)) : Option Value) = some (.int (own_Fs0 b0 b1 b2 b3 p2)); subst hvg15; subst hvg1; simp only [own_Fs0, if_neg hc2, if_pos hc3, if_pos hc4, if_neg hc5, if_neg hc6, if_pos hc13, if_neg hc14, if_neg hc16, if_pos hc17]), rfl, e0⟩ (by decide) (by decide)
                  ·
                    refine own_via (fun t k => XS.icmpYes X0.here hx rfl (pc0 := 166) (pc' := 171) rfl (hb hby own_d1_166) rfl (flt hc17).2.2.2 (by decide) (by decide) k) ?_
                    show own_G p e below _ (s₁.setTop (mkF m 171 #[.val (.ref a1), .val (.int (0 : Int32)), .val (.int p2), .val (.int vg1), .val (.int (4 : Int32)), .val (.int (128 : Int32)), .val (.int (143 : Int32)), .val (.int vg15), .unset] []))
                    refine own_via (fun t k => XS.iloadN X0.here hx rfl (hb hby own_d1_171) rfl k) ?_
                    show own_G p e below _ (s₁.setTop (mkF m 172 #[.val (.ref a1), .val (.int (0 : Int32)), .val (.int p2), .val (.int vg1), .val (.int (4 : Int32)), .val (.int (128 : Int32)), .val (.int (143 : Int32)), .val (.int vg15), .unset] [(.int (0 : Int32))]))
                    refine own_via (fun t k => XS.iconst X0.here hx rfl (hb hby own_d1_172) k) ?_
                    show own_G p e below _ (s₁.setTop (mkF m 173 #[.val (.ref a1), .val (.int (0 : Int32)), .val (.int p2), .val (.int vg1), .val (.int (4 : Int32)), .val (.int (128 : Int32)), .val (.int (143 : Int32)), .val (.int vg15), .unset] [(.int (2 : Int32)), (.int (0 : Int32))]))
                    refine own_via (fun t k => XS.iadd X0.here hx rfl (hb hby own_d1_173) rfl k) ?_
                    show own_G p e below _ (s₁.setTop (mkF m 174 #[.val (.ref a1), .val (.int (0 : Int32)), .val (.int p2), .val (.int vg1), .val (.int (4 : Int32)), .val (.int (128 : Int32)), .val (.int (143 : Int32)), .val (.int vg15), .unset] [(.int (2 : Int32))]))
                    refine own_via (fun t k => XS.istore X0.here hx rfl (hb hby own_d1_174) rfl (l' := #[.val (.ref a1), .val (.int (0 : Int32)), .val (.int p2), .val (.int vg1), .val (.int (4 : Int32)), .val (.int (128 : Int32)), .val (.int (143 : Int32)), .val (.int vg15), .val (.int (2 : Int32))]) rfl k) ?_
                    show own_G p e below _ (s₁.setTop (mkF m 176 #[.val (.ref a1), .val (.int (0 : Int32)), .val (.int p2), .val (.int vg1), .val (.int (4 : Int32)), .val (.int (128 : Int32)), .val (.int (143 : Int32)), .val (.int vg15), .val (.int (2 : Int32))] []))
                    refine own_via (fun t k => XS.iload X0.here hx rfl (hb hby own_d1_176) rfl k) ?_
                    show own_G p e below _ (s₁.setTop (mkF m 178 #[.val (.ref a1), .val (.int (0 : Int32)), .val (.int p2), .val (.int vg1), .val (.int (4 : Int32)), .val (.int (128 : Int32)), .val (.int (143 : Int32)), .val (.int vg15), .val (.int (2 : Int32))] [(.int (2 : Int32))]))
                    refine own_via (fun t k => XS.iloadN X0.here hx rfl (hb hby own_d1_178) rfl k) ?_
                    show own_G p e below _ (s₁.setTop (mkF m 179 #[.val (.ref a1), .val (.int (0 : Int32)), .val (.int p2), .val (.int vg1), .val (.int (4 : Int32)), .val (.int (128 : Int32)), .val (.int (143 : Int32)), .val (.int vg15), .val (.int (2 : Int32))] [(.int (0 : Int32)), (.int (2 : Int32))]))
                    refine own_via (fun t k => XS.iload X0.here hx rfl (hb hby own_d1_179) rfl k) ?_
                    show own_G p e below _ (s₁.setTop (mkF m 181 #[.val (.ref a1), .val (.int (0 : Int32)), .val (.int p2), .val (.int vg1), .val (.int (4 : Int32)), .val (.int (128 : Int32)), .val (.int (143 : Int32)), .val (.int vg15), .val (.int (2 : Int32))] [(.int (4 : Int32)), (.int (0 : Int32)), (.int (2 : Int32))]))
                    refine own_via (fun t k => XS.iadd X0.here hx rfl (hb hby own_d1_181) rfl k) ?_
                    show own_G p e below _ (s₁.setTop (mkF m 182 #[.val (.ref a1), .val (.int (0 : Int32)), .val (.int p2), .val (.int vg1), .val (.int (4 : Int32)), .val (.int (128 : Int32)), .val (.int (143 : Int32)), .val (.int vg15), .val (.int (2 : Int32))] [(.int (4 : Int32)), (.int (2 : Int32))]))
                    refine own_via (fun t k => XS.icmpNo X0.here hx rfl (hb hby own_d1_182) rfl (tlt (by decide : (2 : Int32) < (4 : Int32))).2.1 k) ?_
                    show own_G p e below _ (s₁.setTop (mkF m 185 #[.val (.ref a1), .val (.int (0 : Int32)), .val (.int p2), .val (.int vg1), .val (.int (4 : Int32)), .val (.int (128 : Int32)), .val (.int (143 : Int32)), .val (.int vg15), .val (.int (2 : Int32))] []))
                    refine own_via (fun t k => XS.aloadN X0.here hx rfl (hb hby own_d1_185) rfl rfl k) ?_
                    show own_G p e below _ (s₁.setTop (mkF m 186 #[.val (.ref a1), .val (.int (0 : Int32)), .val (.int p2), .val (.int vg1), .val (.int (4 : Int32)), .val (.int (128 : Int32)), .val (.int (143 : Int32)), .val (.int vg15), .val (.int (2 : Int32))] [(.ref a1)]))
                    refine own_via (fun t k => XS.iload X0.here hx rfl (hb hby own_d1_186) rfl k) ?_
                    show own_G p e below _ (s₁.setTop (mkF m 188 #[.val (.ref a1), .val (.int (0 : Int32)), .val (.int p2), .val (.int vg1), .val (.int (4 : Int32)), .val (.int (128 : Int32)), .val (.int (143 : Int32)), .val (.int vg15), .val (.int (2 : Int32))] [(.int (2 : Int32)), (.ref a1)]))
                    refine own_via (own_ldB X0 hx hZ e0 i_V0 (j := (2 : Int32)) ⟨by decide, by decide⟩ (v := (.int b2)) rfl (pc := 188) (Ls := #[.val (.ref a1), .val (.int (0 : Int32)), .val (.int p2), .val (.int vg1), .val (.int (4 : Int32)), .val (.int (128 : Int32)), .val (.int (143 : Int32)), .val (.int vg15), .val (.int (2 : Int32))]) (rest := []) (hb hby own_d1_188)) ?_
                    show own_G p e below _ (s₁.setTop (mkF m 189 #[.val (.ref a1), .val (.int (0 : Int32)), .val (.int p2), .val (.int vg1), .val (.int (4 : Int32)), .val (.int (128 : Int32)), .val (.int (143 : Int32)), .val (.int vg15), .val (.int (2 : Int32))] [(.int b2)]))
                    refine own_via (fun t k => XS.sipush X0.here hx rfl (hb hby own_d1_189) k) ?_
                    show own_G p e below _ (s₁.setTop (mkF m 192 #[.val (.ref a1), .val (.int (0 : Int32)), .val (.int p2), .val (.int vg1), .val (.int (4 : Int32)), .val (.int (128 : Int32)), .val (.int (143 : Int32)), .val (.int vg15), .val (.int (2 : Int32))] [(.int (192 : Int32)), (.int b2)]))
                    refine own_via (fun t k => XS.iand X0.here hx rfl (hb hby own_d1_192) rfl k) ?_
                    show own_G p e below _ (s₁.setTop (mkF m 193 #[.val (.ref a1), .val (.int (0 : Int32)), .val (.int p2), .val (.int vg1), .val (.int (4 : Int32)), .val (.int (128 : Int32)), .val (.int (143 : Int32)), .val (.int vg15), .val (.int (2 : Int32))] [(.int (b2 &&& (192 : Int32)))]))
                    refine own_via (fun t k => XS.sipush X0.here hx rfl (hb hby own_d1_193) k) ?_
                    show own_G p e below _ (s₁.setTop (mkF m 196 #[.val (.ref a1), .val (.int (0 : Int32)), .val (.int p2), .val (.int vg1), .val (.int (4 : Int32)), .val (.int (128 : Int32)), .val (.int (143 : Int32)), .val (.int vg15), .val (.int (2 : Int32))] [(.int (128 : Int32)), (.int (b2 &&& (192 : Int32)))]))
                    by_cases hc18 : (b2 &&& (192 : Int32)) = (128 : Int32)
                    ·
                      refine own_via (fun t k => XS.icmpYes X0.here hx rfl (pc0 := 196) (pc' := 201) rfl (hb hby own_d1_196) rfl (teq hc18).1 (by decide) (by decide) k) ?_
                      show own_G p e below _ (s₁.setTop (mkF m 201 #[.val (.ref a1), .val (.int (0 : Int32)), .val (.int p2), .val (.int vg1), .val (.int (4 : Int32)), .val (.int (128 : Int32)), .val (.int (143 : Int32)), .val (.int vg15), .val (.int (2 : Int32))] []))
                      refine own_via (fun t k => XS.iinc X0.here hx rfl (hb hby own_d1_201) rfl (l' := #[.val (.ref a1), .val (.int (0 : Int32)), .val (.int p2), .val (.int vg1), .val (.int (4 : Int32)), .val (.int (128 : Int32)), .val (.int (143 : Int32)), .val (.int vg15), .val (.int (3 : Int32))]) rfl k) ?_
                      show own_G p e below _ (s₁.setTop (mkF m 204 #[.val (.ref a1), .val (.int (0 : Int32)), .val (.int p2), .val (.int vg1), .val (.int (4 : Int32)), .val (.int (128 : Int32)), .val (.int (143 : Int32)), .val (.int vg15), .val (.int (3 : Int32))] []))
                      refine own_via (fun t k => XS.goto X0.here hx rfl (pc0 := 204) (pc' := 176) rfl (hb hby own_d1_204) (by decide) (by decide) k) ?_
                      show own_G p e below _ (s₁.setTop (mkF m 176 #[.val (.ref a1), .val (.int (0 : Int32)), .val (.int p2), .val (.int vg1), .val (.int (4 : Int32)), .val (.int (128 : Int32)), .val (.int (143 : Int32)), .val (.int vg15), .val (.int (3 : Int32))] []))
                      refine own_via (fun t k => XS.iload X0.here hx rfl (hb hby own_d1_176) rfl k) ?_
                      show own_G p e below _ (s₁.setTop (mkF m 178 #[.val (.ref a1), .val (.int (0 : Int32)), .val (.int p2), .val (.int vg1), .val (.int (4 : Int32)), .val (.int (128 : Int32)), .val (.int (143 : Int32)), .val (.int vg15), .val (.int (3 : Int32))] [(.int (3 : Int32))]))
                      refine own_via (fun t k => XS.iloadN X0.here hx rfl (hb hby own_d1_178) rfl k) ?_
                      show own_G p e below _ (s₁.setTop (mkF m 179 #[.val (.ref a1), .val (.int (0 : Int32)), .val (.int p2), .val (.int vg1), .val (.int (4 : Int32)), .val (.int (128 : Int32)), .val (.int (143 : Int32)), .val (.int vg15), .val (.int (3 : Int32))] [(.int (0 : Int32)), (.int (3 : Int32))]))
                      refine own_via (fun t k => XS.iload X0.here hx rfl (hb hby own_d1_179) rfl k) ?_
                      show own_G p e below _ (s₁.setTop (mkF m 181 #[.val (.ref a1), .val (.int (0 : Int32)), .val (.int p2), .val (.int vg1), .val (.int (4 : Int32)), .val (.int (128 : Int32)), .val (.int (143 : Int32)), .val (.int vg15), .val (.int (3 : Int32))] [(.int (4 : Int32)), (.int (0 : Int32)), (.int (3 : Int32))]))
                      refine own_via (fun t k => XS.iadd X0.here hx rfl (hb hby own_d1_181) rfl k) ?_
                      show own_G p e below _ (s₁.setTop (mkF m 182 #[.val (.ref a1), .val (.int (0 : Int32)), .val (.int p2), .val (.int vg1), .val (.int (4 : Int32)), .val (.int (128 : Int32)), .val (.int (143 : Int32)), .val (.int vg15), .val (.int (3 : Int32))] [(.int (4 : Int32)), (.int (3 : Int32))]))
                      refine own_via (fun t k => XS.icmpNo X0.here hx rfl (hb hby own_d1_182) rfl (tlt (by decide : (3 : Int32) < (4 : Int32))).2.1 k) ?_
                      show own_G p e below _ (s₁.setTop (mkF m 185 #[.val (.ref a1), .val (.int (0 : Int32)), .val (.int p2), .val (.int vg1), .val (.int (4 : Int32)), .val (.int (128 : Int32)), .val (.int (143 : Int32)), .val (.int vg15), .val (.int (3 : Int32))] []))
                      refine own_via (fun t k => XS.aloadN X0.here hx rfl (hb hby own_d1_185) rfl rfl k) ?_
                      show own_G p e below _ (s₁.setTop (mkF m 186 #[.val (.ref a1), .val (.int (0 : Int32)), .val (.int p2), .val (.int vg1), .val (.int (4 : Int32)), .val (.int (128 : Int32)), .val (.int (143 : Int32)), .val (.int vg15), .val (.int (3 : Int32))] [(.ref a1)]))
                      refine own_via (fun t k => XS.iload X0.here hx rfl (hb hby own_d1_186) rfl k) ?_
                      show own_G p e below _ (s₁.setTop (mkF m 188 #[.val (.ref a1), .val (.int (0 : Int32)), .val (.int p2), .val (.int vg1), .val (.int (4 : Int32)), .val (.int (128 : Int32)), .val (.int (143 : Int32)), .val (.int vg15), .val (.int (3 : Int32))] [(.int (3 : Int32)), (.ref a1)]))
                      refine own_via (own_ldB X0 hx hZ e0 i_V0 (j := (3 : Int32)) ⟨by decide, by decide⟩ (v := (.int b3)) rfl (pc := 188) (Ls := #[.val (.ref a1), .val (.int (0 : Int32)), .val (.int p2), .val (.int vg1), .val (.int (4 : Int32)), .val (.int (128 : Int32)), .val (.int (143 : Int32)), .val (.int vg15), .val (.int (3 : Int32))]) (rest := []) (hb hby own_d1_188)) ?_
                      show own_G p e below _ (s₁.setTop (mkF m 189 #[.val (.ref a1), .val (.int (0 : Int32)), .val (.int p2), .val (.int vg1), .val (.int (4 : Int32)), .val (.int (128 : Int32)), .val (.int (143 : Int32)), .val (.int vg15), .val (.int (3 : Int32))] [(.int b3)]))
                      refine own_via (fun t k => XS.sipush X0.here hx rfl (hb hby own_d1_189) k) ?_
                      show own_G p e below _ (s₁.setTop (mkF m 192 #[.val (.ref a1), .val (.int (0 : Int32)), .val (.int p2), .val (.int vg1), .val (.int (4 : Int32)), .val (.int (128 : Int32)), .val (.int (143 : Int32)), .val (.int vg15), .val (.int (3 : Int32))] [(.int (192 : Int32)), (.int b3)]))
                      refine own_via (fun t k => XS.iand X0.here hx rfl (hb hby own_d1_192) rfl k) ?_
                      show own_G p e below _ (s₁.setTop (mkF m 193 #[.val (.ref a1), .val (.int (0 : Int32)), .val (.int p2), .val (.int vg1), .val (.int (4 : Int32)), .val (.int (128 : Int32)), .val (.int (143 : Int32)), .val (.int vg15), .val (.int (3 : Int32))] [(.int (b3 &&& (192 : Int32)))]))
                      refine own_via (fun t k => XS.sipush X0.here hx rfl (hb hby own_d1_193) k) ?_
                      show own_G p e below _ (s₁.setTop (mkF m 196 #[.val (.ref a1), .val (.int (0 : Int32)), .val (.int p2), .val (.int vg1), .val (.int (4 : Int32)), .val (.int (128 : Int32)), .val (.int (143 : Int32)), .val (.int vg15), .val (.int (3 : Int32))] [(.int (128 : Int32)), (.int (b3 &&& (192 : Int32)))]))
                      by_cases hc19 : (b3 &&& (192 : Int32)) = (128 : Int32)
                      ·
                        refine own_via (fun t k => XS.icmpYes X0.here hx rfl (pc0 := 196) (pc' := 201) rfl (hb hby own_d1_196) rfl (teq hc19).1 (by decide) (by decide) k) ?_
                        show own_G p e below _ (s₁.setTop (mkF m 201 #[.val (.ref a1), .val (.int (0 : Int32)), .val (.int p2), .val (.int vg1), .val (.int (4 : Int32)), .val (.int (128 : Int32)), .val (.int (143 : Int32)), .val (.int vg15), .val (.int (3 : Int32))] []))
                        refine own_via (fun t k => XS.iinc X0.here hx rfl (hb hby own_d1_201) rfl (l' := #[.val (.ref a1), .val (.int (0 : Int32)), .val (.int p2), .val (.int vg1), .val (.int (4 : Int32)), .val (.int (128 : Int32)), .val (.int (143 : Int32)), .val (.int vg15), .val (.int (4 : Int32))]) rfl k) ?_
                        show own_G p e below _ (s₁.setTop (mkF m 204 #[.val (.ref a1), .val (.int (0 : Int32)), .val (.int p2), .val (.int vg1), .val (.int (4 : Int32)), .val (.int (128 : Int32)), .val (.int (143 : Int32)), .val (.int vg15), .val (.int (4 : Int32))] []))
                        refine own_via (fun t k => XS.goto X0.here hx rfl (pc0 := 204) (pc' := 176) rfl (hb hby own_d1_204) (by decide) (by decide) k) ?_
                        show own_G p e below _ (s₁.setTop (mkF m 176 #[.val (.ref a1), .val (.int (0 : Int32)), .val (.int p2), .val (.int vg1), .val (.int (4 : Int32)), .val (.int (128 : Int32)), .val (.int (143 : Int32)), .val (.int vg15), .val (.int (4 : Int32))] []))
                        refine own_via (fun t k => XS.iload X0.here hx rfl (hb hby own_d1_176) rfl k) ?_
                        show own_G p e below _ (s₁.setTop (mkF m 178 #[.val (.ref a1), .val (.int (0 : Int32)), .val (.int p2), .val (.int vg1), .val (.int (4 : Int32)), .val (.int (128 : Int32)), .val (.int (143 : Int32)), .val (.int vg15), .val (.int (4 : Int32))] [(.int (4 : Int32))]))
                        refine own_via (fun t k => XS.iloadN X0.here hx rfl (hb hby own_d1_178) rfl k) ?_
                        show own_G p e below _ (s₁.setTop (mkF m 179 #[.val (.ref a1), .val (.int (0 : Int32)), .val (.int p2), .val (.int vg1), .val (.int (4 : Int32)), .val (.int (128 : Int32)), .val (.int (143 : Int32)), .val (.int vg15), .val (.int (4 : Int32))] [(.int (0 : Int32)), (.int (4 : Int32))]))
                        refine own_via (fun t k => XS.iload X0.here hx rfl (hb hby own_d1_179) rfl k) ?_
                        show own_G p e below _ (s₁.setTop (mkF m 181 #[.val (.ref a1), .val (.int (0 : Int32)), .val (.int p2), .val (.int vg1), .val (.int (4 : Int32)), .val (.int (128 : Int32)), .val (.int (143 : Int32)), .val (.int vg15), .val (.int (4 : Int32))] [(.int (4 : Int32)), (.int (0 : Int32)), (.int (4 : Int32))]))
                        refine own_via (fun t k => XS.iadd X0.here hx rfl (hb hby own_d1_181) rfl k) ?_
                        show own_G p e below _ (s₁.setTop (mkF m 182 #[.val (.ref a1), .val (.int (0 : Int32)), .val (.int p2), .val (.int vg1), .val (.int (4 : Int32)), .val (.int (128 : Int32)), .val (.int (143 : Int32)), .val (.int vg15), .val (.int (4 : Int32))] [(.int (4 : Int32)), (.int (4 : Int32))]))
                        refine own_via (fun t k => XS.icmpYes X0.here hx rfl (pc0 := 182) (pc' := 207) rfl (hb hby own_d1_182) rfl (flt (by decide : ¬ ((4 : Int32) < (4 : Int32)))).2.1 (by decide) (by decide) k) ?_
                        show own_G p e below _ (s₁.setTop (mkF m 207 #[.val (.ref a1), .val (.int (0 : Int32)), .val (.int p2), .val (.int vg1), .val (.int (4 : Int32)), .val (.int (128 : Int32)), .val (.int (143 : Int32)), .val (.int vg15), .val (.int (4 : Int32))] []))
                        refine own_via (fun t k => XS.iload X0.here hx rfl (hb hby own_d1_207) rfl k) ?_
                        show own_G p e below _ (s₁.setTop (mkF m 209 #[.val (.ref a1), .val (.int (0 : Int32)), .val (.int p2), .val (.int vg1), .val (.int (4 : Int32)), .val (.int (128 : Int32)), .val (.int (143 : Int32)), .val (.int vg15), .val (.int (4 : Int32))] [(.int (4 : Int32))]))
                        exact own_retI X0 hx Bd.returns Bd.notSynchronized (hb hby own_d1_209) ⟨(by show (some (.int (4 : Int32)) : Option Value) = some (.int (own_Fs0 b0 b1 b2 b3 p2)); subst hvg15; subst hvg1; simp only [own_Fs0, if_neg hc2, if_pos hc3, if_pos hc4, if_neg hc5, if_neg hc6, if_pos hc13, if_neg hc14, if_neg hc16, if_neg hc17, if_pos hc18, if_pos hc19]), rfl, e0⟩ (by decide) (by decide)
                      ·
                        refine own_via (fun t k => XS.icmpNo X0.here hx rfl (hb hby own_d1_196) rfl (feq hc19).1 k) ?_
                        show own_G p e below _ (s₁.setTop (mkF m 199 #[.val (.ref a1), .val (.int (0 : Int32)), .val (.int p2), .val (.int vg1), .val (.int (4 : Int32)), .val (.int (128 : Int32)), .val (.int (143 : Int32)), .val (.int vg15), .val (.int (3 : Int32))] []))
                        refine own_via (fun t k => XS.iconst X0.here hx rfl (hb hby own_d1_199) k) ?_
                        show own_G p e below _ (s₁.setTop (mkF m 200 #[.val (.ref a1), .val (.int (0 : Int32)), .val (.int p2), .val (.int vg1), .val (.int (4 : Int32)), .val (.int (128 : Int32)), .val (.int (143 : Int32)), .val (.int vg15), .val (.int (3 : Int32))] [(.int (-1 : Int32))]))
                        exact own_retI X0 hx Bd.returns Bd.notSynchronized (hb hby own_d1_200) ⟨(by show (some (.int (-1 : Int32)) : Option Value) = some (.int (own_Fs0 b0 b1 b2 b3 p2)); subst hvg15; subst hvg1; simp only [own_Fs0, if_neg hc2, if_pos hc3, if_pos hc4, if_neg hc5, if_neg hc6, if_pos hc13, if_neg hc14, if_neg hc16, if_neg hc17, if_pos hc18, if_neg hc19]), rfl, e0⟩ (by decide) (by decide)
                    ·
                      refine own_via (fun t k => XS.icmpNo X0.here hx rfl (hb hby own_d1_196) rfl (feq hc18).1 k) ?_
                      show own_G p e below _ (s₁.setTop (mkF m 199 #[.val (.ref a1), .val (.int (0 : Int32)), .val (.int p2), .val (.int vg1), .val (.int (4 : Int32)), .val (.int (128 : Int32)), .val (.int (143 : Int32)), .val (.int vg15), .val (.int (2 : Int32))] []))
                      refine own_via (fun t k => XS.iconst X0.here hx rfl (hb hby own_d1_199) k) ?_
                      show own_G p e below _ (s₁.setTop (mkF m 200 #[.val (.ref a1), .val (.int (0 : Int32)), .val (.int p2), .val (.int vg1), .val (.int (4 : Int32)), .val (.int (128 : Int32)), .val (.int (143 : Int32)), .val (.int vg15), .val (.int (2 : Int32))] [(.int (-1 : Int32))]))
                      exact own_retI X0 hx Bd.returns Bd.notSynchronized (hb hby own_d1_200) ⟨(by show (some (.int (-1 : Int32)) : Option Value) = some (.int (own_Fs0 b0 b1 b2 b3 p2)); subst hvg15; subst hvg1; simp only [own_Fs0, if_neg hc2, if_pos hc3, if_pos hc4, if_neg hc5, if_neg hc6, if_pos hc13, if_neg hc14, if_neg hc16, if_neg hc17, if_neg hc18]), rfl, e0⟩ (by decide) (by decide)
            ·
              refine own_via (fun t k => XS.icmpYes X0.here hx rfl (pc0 := 121) (pc' := 134) rfl (hb hby own_d1_121) rfl (feq hc13).2 (by decide) (by decide) k) ?_
              show own_G p e below _ (s₁.setTop (mkF m 134 #[.val (.ref a1), .val (.int (0 : Int32)), .val (.int p2), .val (.int vg1), .val (.int (4 : Int32)), .val (.int (128 : Int32)), .val (.int (191 : Int32)), .unset, .unset] []))
              refine own_via (fun t k => XS.iloadN X0.here hx rfl (hb hby own_d1_134) rfl k) ?_
              show own_G p e below _ (s₁.setTop (mkF m 135 #[.val (.ref a1), .val (.int (0 : Int32)), .val (.int p2), .val (.int vg1), .val (.int (4 : Int32)), .val (.int (128 : Int32)), .val (.int (191 : Int32)), .unset, .unset] [(.int p2)]))
              refine own_via (fun t k => XS.iloadN X0.here hx rfl (hb hby own_d1_135) rfl k) ?_
              show own_G p e below _ (s₁.setTop (mkF m 136 #[.val (.ref a1), .val (.int (0 : Int32)), .val (.int p2), .val (.int vg1), .val (.int (4 : Int32)), .val (.int (128 : Int32)), .val (.int (191 : Int32)), .unset, .unset] [(.int (0 : Int32)), (.int p2)]))
              refine own_via (fun t k => XS.isub X0.here hx rfl (hb hby own_d1_136) rfl k) ?_
              show own_G p e below _ (s₁.setTop (mkF m 137 #[.val (.ref a1), .val (.int (0 : Int32)), .val (.int p2), .val (.int vg1), .val (.int (4 : Int32)), .val (.int (128 : Int32)), .val (.int (191 : Int32)), .unset, .unset] [(.int (p2 - (0 : Int32)))]))
              refine own_via (fun t k => XS.iload X0.here hx rfl (hb hby own_d1_137) rfl k) ?_
              show own_G p e below _ (s₁.setTop (mkF m 139 #[.val (.ref a1), .val (.int (0 : Int32)), .val (.int p2), .val (.int vg1), .val (.int (4 : Int32)), .val (.int (128 : Int32)), .val (.int (191 : Int32)), .unset, .unset] [(.int (4 : Int32)), (.int (p2 - (0 : Int32)))]))
              by_cases hc20 : (p2 - (0 : Int32)) < (4 : Int32)
              ·
                refine own_via (fun t k => XS.icmpNo X0.here hx rfl (hb hby own_d1_139) rfl (tlt hc20).2.1 k) ?_
                show own_G p e below _ (s₁.setTop (mkF m 142 #[.val (.ref a1), .val (.int (0 : Int32)), .val (.int p2), .val (.int vg1), .val (.int (4 : Int32)), .val (.int (128 : Int32)), .val (.int (191 : Int32)), .unset, .unset] []))
                refine own_via (fun t k => XS.iconst X0.here hx rfl (hb hby own_d1_142) k) ?_
                show own_G p e below _ (s₁.setTop (mkF m 143 #[.val (.ref a1), .val (.int (0 : Int32)), .val (.int p2), .val (.int vg1), .val (.int (4 : Int32)), .val (.int (128 : Int32)), .val (.int (191 : Int32)), .unset, .unset] [(.int (-1 : Int32))]))
                exact own_retI X0 hx Bd.returns Bd.notSynchronized (hb hby own_d1_143) ⟨(by show (some (.int (-1 : Int32)) : Option Value) = some (.int (own_Fs0 b0 b1 b2 b3 p2)); subst hvg1; simp only [own_Fs0, if_neg hc2, if_pos hc3, if_pos hc4, if_neg hc5, if_neg hc6, if_neg hc13, if_pos hc20]), rfl, e0⟩ (by decide) (by decide)
              ·
                refine own_via (fun t k => XS.icmpYes X0.here hx rfl (pc0 := 139) (pc' := 144) rfl (hb hby own_d1_139) rfl (flt hc20).2.1 (by decide) (by decide) k) ?_
                show own_G p e below _ (s₁.setTop (mkF m 144 #[.val (.ref a1), .val (.int (0 : Int32)), .val (.int p2), .val (.int vg1), .val (.int (4 : Int32)), .val (.int (128 : Int32)), .val (.int (191 : Int32)), .unset, .unset] []))
                refine own_via (fun t k => XS.aloadN X0.here hx rfl (hb hby own_d1_144) rfl rfl k) ?_
                show own_G p e below _ (s₁.setTop (mkF m 145 #[.val (.ref a1), .val (.int (0 : Int32)), .val (.int p2), .val (.int vg1), .val (.int (4 : Int32)), .val (.int (128 : Int32)), .val (.int (191 : Int32)), .unset, .unset] [(.ref a1)]))
                refine own_via (fun t k => XS.iloadN X0.here hx rfl (hb hby own_d1_145) rfl k) ?_
                show own_G p e below _ (s₁.setTop (mkF m 146 #[.val (.ref a1), .val (.int (0 : Int32)), .val (.int p2), .val (.int vg1), .val (.int (4 : Int32)), .val (.int (128 : Int32)), .val (.int (191 : Int32)), .unset, .unset] [(.int (0 : Int32)), (.ref a1)]))
                refine own_via (fun t k => XS.iconst X0.here hx rfl (hb hby own_d1_146) k) ?_
                show own_G p e below _ (s₁.setTop (mkF m 147 #[.val (.ref a1), .val (.int (0 : Int32)), .val (.int p2), .val (.int vg1), .val (.int (4 : Int32)), .val (.int (128 : Int32)), .val (.int (191 : Int32)), .unset, .unset] [(.int (1 : Int32)), (.int (0 : Int32)), (.ref a1)]))
                refine own_via (fun t k => XS.iadd X0.here hx rfl (hb hby own_d1_147) rfl k) ?_
                show own_G p e below _ (s₁.setTop (mkF m 148 #[.val (.ref a1), .val (.int (0 : Int32)), .val (.int p2), .val (.int vg1), .val (.int (4 : Int32)), .val (.int (128 : Int32)), .val (.int (191 : Int32)), .unset, .unset] [(.int (1 : Int32)), (.ref a1)]))
                refine own_via (own_ldB X0 hx hZ e0 i_V0 (j := (1 : Int32)) ⟨by decide, by decide⟩ (v := (.int b1)) rfl (pc := 148) (Ls := #[.val (.ref a1), .val (.int (0 : Int32)), .val (.int p2), .val (.int vg1), .val (.int (4 : Int32)), .val (.int (128 : Int32)), .val (.int (191 : Int32)), .unset, .unset]) (rest := []) (hb hby own_d1_148)) ?_
                show own_G p e below _ (s₁.setTop (mkF m 149 #[.val (.ref a1), .val (.int (0 : Int32)), .val (.int p2), .val (.int vg1), .val (.int (4 : Int32)), .val (.int (128 : Int32)), .val (.int (191 : Int32)), .unset, .unset] [(.int b1)]))
                refine own_via (fun t k => XS.sipush X0.here hx rfl (hb hby own_d1_149) k) ?_
                show own_G p e below _ (s₁.setTop (mkF m 152 #[.val (.ref a1), .val (.int (0 : Int32)), .val (.int p2), .val (.int vg1), .val (.int (4 : Int32)), .val (.int (128 : Int32)), .val (.int (191 : Int32)), .unset, .unset] [(.int (255 : Int32)), (.int b1)]))
                refine own_via (fun t k => XS.iand X0.here hx rfl (hb hby own_d1_152) rfl k) ?_
                show own_G p e below _ (s₁.setTop (mkF m 153 #[.val (.ref a1), .val (.int (0 : Int32)), .val (.int p2), .val (.int vg1), .val (.int (4 : Int32)), .val (.int (128 : Int32)), .val (.int (191 : Int32)), .unset, .unset] [(.int (b1 &&& (255 : Int32)))]))
                generalize hvg21 : (b1 &&& (255 : Int32)) = vg21
                show own_G p e below _ (s₁.setTop (mkF m 153 #[.val (.ref a1), .val (.int (0 : Int32)), .val (.int p2), .val (.int vg1), .val (.int (4 : Int32)), .val (.int (128 : Int32)), .val (.int (191 : Int32)), .unset, .unset] [(.int vg21)]))
                refine own_via (fun t k => XS.istore X0.here hx rfl (hb hby own_d1_153) rfl (l' := #[.val (.ref a1), .val (.int (0 : Int32)), .val (.int p2), .val (.int vg1), .val (.int (4 : Int32)), .val (.int (128 : Int32)), .val (.int (191 : Int32)), .val (.int vg21), .unset]) rfl k) ?_
                show own_G p e below _ (s₁.setTop (mkF m 155 #[.val (.ref a1), .val (.int (0 : Int32)), .val (.int p2), .val (.int vg1), .val (.int (4 : Int32)), .val (.int (128 : Int32)), .val (.int (191 : Int32)), .val (.int vg21), .unset] []))
                refine own_via (fun t k => XS.iload X0.here hx rfl (hb hby own_d1_155) rfl k) ?_
                show own_G p e below _ (s₁.setTop (mkF m 157 #[.val (.ref a1), .val (.int (0 : Int32)), .val (.int p2), .val (.int vg1), .val (.int (4 : Int32)), .val (.int (128 : Int32)), .val (.int (191 : Int32)), .val (.int vg21), .unset] [(.int vg21)]))
                refine own_via (fun t k => XS.iload X0.here hx rfl (hb hby own_d1_157) rfl k) ?_
                show own_G p e below _ (s₁.setTop (mkF m 159 #[.val (.ref a1), .val (.int (0 : Int32)), .val (.int p2), .val (.int vg1), .val (.int (4 : Int32)), .val (.int (128 : Int32)), .val (.int (191 : Int32)), .val (.int vg21), .unset] [(.int (128 : Int32)), (.int vg21)]))
                by_cases hc22 : vg21 < (128 : Int32)
                ·
                  refine own_via (fun t k => XS.icmpYes X0.here hx rfl (pc0 := 159) (pc' := 169) rfl (hb hby own_d1_159) rfl (tlt hc22).1 (by decide) (by decide) k) ?_
                  show own_G p e below _ (s₁.setTop (mkF m 169 #[.val (.ref a1), .val (.int (0 : Int32)), .val (.int p2), .val (.int vg1), .val (.int (4 : Int32)), .val (.int (128 : Int32)), .val (.int (191 : Int32)), .val (.int vg21), .unset] []))
                  refine own_via (fun t k => XS.iconst X0.here hx rfl (hb hby own_d1_169) k) ?_
                  show own_G p e below _ (s₁.setTop (mkF m 170 #[.val (.ref a1), .val (.int (0 : Int32)), .val (.int p2), .val (.int vg1), .val (.int (4 : Int32)), .val (.int (128 : Int32)), .val (.int (191 : Int32)), .val (.int vg21), .unset] [(.int (-1 : Int32))]))
                  exact own_retI X0 hx Bd.returns Bd.notSynchronized (hb hby own_d1_170) ⟨(by show (some (.int (-1 : Int32)) : Option Value) = some (.int (own_Fs0 b0 b1 b2 b3 p2)); subst hvg21; subst hvg1; simp only [own_Fs0, if_neg hc2, if_pos hc3, if_pos hc4, if_neg hc5, if_neg hc6, if_neg hc13, if_neg hc20, if_pos hc22]), rfl, e0⟩ (by decide) (by decide)
                ·
                  refine own_via (fun t k => XS.icmpNo X0.here hx rfl (hb hby own_d1_159) rfl (flt hc22).1 k) ?_
                  show own_G p e below _ (s₁.setTop (mkF m 162 #[.val (.ref a1), .val (.int (0 : Int32)), .val (.int p2), .val (.int vg1), .val (.int (4 : Int32)), .val (.int (128 : Int32)), .val (.int (191 : Int32)), .val (.int vg21), .unset] []))
                  refine own_via (fun t k => XS.iload X0.here hx rfl (hb hby own_d1_162) rfl k) ?_
                  show own_G p e below _ (s₁.setTop (mkF m 164 #[.val (.ref a1), .val (.int (0 : Int32)), .val (.int p2), .val (.int vg1), .val (.int (4 : Int32)), .val (.int (128 : Int32)), .val (.int (191 : Int32)), .val (.int vg21), .unset] [(.int vg21)]))
                  refine own_via (fun t k => XS.iload X0.here hx rfl (hb hby own_d1_164) rfl k) ?_
                  show own_G p e below _ (s₁.setTop (mkF m 166 #[.val (.ref a1), .val (.int (0 : Int32)), .val (.int p2), .val (.int vg1), .val (.int (4 : Int32)), .val (.int (128 : Int32)), .val (.int (191 : Int32)), .val (.int vg21), .unset] [(.int (191 : Int32)), (.int vg21)]))
                  by_cases hc23 : (191 : Int32) < vg21
                  ·
                    refine own_via (fun t k => XS.icmpNo X0.here hx rfl (hb hby own_d1_166) rfl (tlt hc23).2.2.2 k) ?_
                    show own_G p e below _ (s₁.setTop (mkF m 169 #[.val (.ref a1), .val (.int (0 : Int32)), .val (.int p2), .val (.int vg1), .val (.int (4 : Int32)), .val (.int (128 : Int32)), .val (.int (191 : Int32)), .val (.int vg21), .unset] []))
                    refine own_via (fun t k => XS.iconst X0.here hx rfl (hb hby own_d1_169) k) ?_
                    show own_G p e below _ (s₁.setTop (mkF m 170 #[.val (.ref a1), .val (.int (0 : Int32)), .val (.int p2), .val (.int vg1), .val (.int (4 : Int32)), .val (.int (128 : Int32)), .val (.int (191 : Int32)), .val (.int vg21), .unset] [(.int (-1 : Int32))]))
                    exact own_retI X0 hx Bd.returns Bd.notSynchronized (hb hby own_d1_170) ⟨(by show (some (.int (-1 : Int32)) : Option Value) = some (.int (own_Fs0 b0 b1 b2 b3 p2)); subst hvg21; subst hvg1; simp only [own_Fs0, if_neg hc2, if_pos hc3, if_pos hc4, if_neg hc5, if_neg hc6, if_neg hc13, if_neg hc20, if_neg hc22, if_pos hc23]), rfl, e0⟩ (by decide) (by decide)
                  ·
                    refine own_via (fun t k => XS.icmpYes X0.here hx rfl (pc0 := 166) (pc' := 171) rfl (hb hby own_d1_166) rfl (flt hc23).2.2.2 (by decide) (by decide) k) ?_
                    show own_G p e below _ (s₁.setTop (mkF m 171 #[.val (.ref a1), .val (.int (0 : Int32)), .val (.int p2), .val (.int vg1), .val (.int (4 : Int32)), .val (.int (128 : Int32)), .val (.int (191 : Int32)), .val (.int vg21), .unset] []))
                    refine own_via (fun t k => XS.iloadN X0.here hx rfl (hb hby own_d1_171) rfl k) ?_
                    show own_G p e below _ (s₁.setTop (mkF m 172 #[.val (.ref a1), .val (.int (0 : Int32)), .val (.int p2), .val (.int vg1), .val (.int (4 : Int32)), .val (.int (128 : Int32)), .val (.int (191 : Int32)), .val (.int vg21), .unset] [(.int (0 : Int32))]))
                    refine own_via (fun t k => XS.iconst X0.here hx rfl (hb hby own_d1_172) k) ?_
                    show own_G p e below _ (s₁.setTop (mkF m 173 #[.val (.ref a1), .val (.int (0 : Int32)), .val (.int p2), .val (.int vg1), .val (.int (4 : Int32)), .val (.int (128 : Int32)), .val (.int (191 : Int32)), .val (.int vg21), .unset] [(.int (2 : Int32)), (.int (0 : Int32))]))
                    refine own_via (fun t k => XS.iadd X0.here hx rfl (hb hby own_d1_173) rfl k) ?_
                    show own_G p e below _ (s₁.setTop (mkF m 174 #[.val (.ref a1), .val (.int (0 : Int32)), .val (.int p2), .val (.int vg1), .val (.int (4 : Int32)), .val (.int (128 : Int32)), .val (.int (191 : Int32)), .val (.int vg21), .unset] [(.int (2 : Int32))]))
                    refine own_via (fun t k => XS.istore X0.here hx rfl (hb hby own_d1_174) rfl (l' := #[.val (.ref a1), .val (.int (0 : Int32)), .val (.int p2), .val (.int vg1), .val (.int (4 : Int32)), .val (.int (128 : Int32)), .val (.int (191 : Int32)), .val (.int vg21), .val (.int (2 : Int32))]) rfl k) ?_
                    show own_G p e below _ (s₁.setTop (mkF m 176 #[.val (.ref a1), .val (.int (0 : Int32)), .val (.int p2), .val (.int vg1), .val (.int (4 : Int32)), .val (.int (128 : Int32)), .val (.int (191 : Int32)), .val (.int vg21), .val (.int (2 : Int32))] []))
                    refine own_via (fun t k => XS.iload X0.here hx rfl (hb hby own_d1_176) rfl k) ?_
                    show own_G p e below _ (s₁.setTop (mkF m 178 #[.val (.ref a1), .val (.int (0 : Int32)), .val (.int p2), .val (.int vg1), .val (.int (4 : Int32)), .val (.int (128 : Int32)), .val (.int (191 : Int32)), .val (.int vg21), .val (.int (2 : Int32))] [(.int (2 : Int32))]))
                    refine own_via (fun t k => XS.iloadN X0.here hx rfl (hb hby own_d1_178) rfl k) ?_
                    show own_G p e below _ (s₁.setTop (mkF m 179 #[.val (.ref a1), .val (.int (0 : Int32)), .val (.int p2), .val (.int vg1), .val (.int (4 : Int32)), .val (.int (128 : Int32)), .val (.int (191 : Int32)), .val (.int vg21), .val (.int (2 : Int32))] [(.int (0 : Int32)), (.int (2 : Int32))]))
                    refine own_via (fun t k => XS.iload X0.here hx rfl (hb hby own_d1_179) rfl k) ?_
                    show own_G p e below _ (s₁.setTop (mkF m 181 #[.val (.ref a1), .val (.int (0 : Int32)), .val (.int p2), .val (.int vg1), .val (.int (4 : Int32)), .val (.int (128 : Int32)), .val (.int (191 : Int32)), .val (.int vg21), .val (.int (2 : Int32))] [(.int (4 : Int32)), (.int (0 : Int32)), (.int (2 : Int32))]))
                    refine own_via (fun t k => XS.iadd X0.here hx rfl (hb hby own_d1_181) rfl k) ?_
                    show own_G p e below _ (s₁.setTop (mkF m 182 #[.val (.ref a1), .val (.int (0 : Int32)), .val (.int p2), .val (.int vg1), .val (.int (4 : Int32)), .val (.int (128 : Int32)), .val (.int (191 : Int32)), .val (.int vg21), .val (.int (2 : Int32))] [(.int (4 : Int32)), (.int (2 : Int32))]))
                    refine own_via (fun t k => XS.icmpNo X0.here hx rfl (hb hby own_d1_182) rfl (tlt (by decide : (2 : Int32) < (4 : Int32))).2.1 k) ?_
                    show own_G p e below _ (s₁.setTop (mkF m 185 #[.val (.ref a1), .val (.int (0 : Int32)), .val (.int p2), .val (.int vg1), .val (.int (4 : Int32)), .val (.int (128 : Int32)), .val (.int (191 : Int32)), .val (.int vg21), .val (.int (2 : Int32))] []))
                    refine own_via (fun t k => XS.aloadN X0.here hx rfl (hb hby own_d1_185) rfl rfl k) ?_
                    show own_G p e below _ (s₁.setTop (mkF m 186 #[.val (.ref a1), .val (.int (0 : Int32)), .val (.int p2), .val (.int vg1), .val (.int (4 : Int32)), .val (.int (128 : Int32)), .val (.int (191 : Int32)), .val (.int vg21), .val (.int (2 : Int32))] [(.ref a1)]))
                    refine own_via (fun t k => XS.iload X0.here hx rfl (hb hby own_d1_186) rfl k) ?_
                    show own_G p e below _ (s₁.setTop (mkF m 188 #[.val (.ref a1), .val (.int (0 : Int32)), .val (.int p2), .val (.int vg1), .val (.int (4 : Int32)), .val (.int (128 : Int32)), .val (.int (191 : Int32)), .val (.int vg21), .val (.int (2 : Int32))] [(.int (2 : Int32)), (.ref a1)]))
                    refine own_via (own_ldB X0 hx hZ e0 i_V0 (j := (2 : Int32)) ⟨by decide, by decide⟩ (v := (.int b2)) rfl (pc := 188) (Ls := #[.val (.ref a1), .val (.int (0 : Int32)), .val (.int p2), .val (.int vg1), .val (.int (4 : Int32)), .val (.int (128 : Int32)), .val (.int (191 : Int32)), .val (.int vg21), .val (.int (2 : Int32))]) (rest := []) (hb hby own_d1_188)) ?_
                    show own_G p e below _ (s₁.setTop (mkF m 189 #[.val (.ref a1), .val (.int (0 : Int32)), .val (.int p2), .val (.int vg1), .val (.int (4 : Int32)), .val (.int (128 : Int32)), .val (.int (191 : Int32)), .val (.int vg21), .val (.int (2 : Int32))] [(.int b2)]))
                    refine own_via (fun t k => XS.sipush X0.here hx rfl (hb hby own_d1_189) k) ?_
                    show own_G p e below _ (s₁.setTop (mkF m 192 #[.val (.ref a1), .val (.int (0 : Int32)), .val (.int p2), .val (.int vg1), .val (.int (4 : Int32)), .val (.int (128 : Int32)), .val (.int (191 : Int32)), .val (.int vg21), .val (.int (2 : Int32))] [(.int (192 : Int32)), (.int b2)]))
                    refine own_via (fun t k => XS.iand X0.here hx rfl (hb hby own_d1_192) rfl k) ?_
                    show own_G p e below _ (s₁.setTop (mkF m 193 #[.val (.ref a1), .val (.int (0 : Int32)), .val (.int p2), .val (.int vg1), .val (.int (4 : Int32)), .val (.int (128 : Int32)), .val (.int (191 : Int32)), .val (.int vg21), .val (.int (2 : Int32))] [(.int (b2 &&& (192 : Int32)))]))
                    refine own_via (fun t k => XS.sipush X0.here hx rfl (hb hby own_d1_193) k) ?_
                    show own_G p e below _ (s₁.setTop (mkF m 196 #[.val (.ref a1), .val (.int (0 : Int32)), .val (.int p2), .val (.int vg1), .val (.int (4 : Int32)), .val (.int (128 : Int32)), .val (.int (191 : Int32)), .val (.int vg21), .val (.int (2 : Int32))] [(.int (128 : Int32)), (.int (b2 &&& (192 : Int32)))]))
                    by_cases hc24 : (b2 &&& (192 : Int32)) = (128 : Int32)
                    ·
                      refine own_via (fun t k => XS.icmpYes X0.here hx rfl (pc0 := 196) (pc' := 201) rfl (hb hby own_d1_196) rfl (teq hc24).1 (by decide) (by decide) k) ?_
                      show own_G p e below _ (s₁.setTop (mkF m 201 #[.val (.ref a1), .val (.int (0 : Int32)), .val (.int p2), .val (.int vg1), .val (.int (4 : Int32)), .val (.int (128 : Int32)), .val (.int (191 : Int32)), .val (.int vg21), .val (.int (2 : Int32))] []))
                      refine own_via (fun t k => XS.iinc X0.here hx rfl (hb hby own_d1_201) rfl (l' := #[.val (.ref a1), .val (.int (0 : Int32)), .val (.int p2), .val (.int vg1), .val (.int (4 : Int32)), .val (.int (128 : Int32)), .val (.int (191 : Int32)), .val (.int vg21), .val (.int (3 : Int32))]) rfl k) ?_
                      show own_G p e below _ (s₁.setTop (mkF m 204 #[.val (.ref a1), .val (.int (0 : Int32)), .val (.int p2), .val (.int vg1), .val (.int (4 : Int32)), .val (.int (128 : Int32)), .val (.int (191 : Int32)), .val (.int vg21), .val (.int (3 : Int32))] []))
                      refine own_via (fun t k => XS.goto X0.here hx rfl (pc0 := 204) (pc' := 176) rfl (hb hby own_d1_204) (by decide) (by decide) k) ?_
                      show own_G p e below _ (s₁.setTop (mkF m 176 #[.val (.ref a1), .val (.int (0 : Int32)), .val (.int p2), .val (.int vg1), .val (.int (4 : Int32)), .val (.int (128 : Int32)), .val (.int (191 : Int32)), .val (.int vg21), .val (.int (3 : Int32))] []))
                      refine own_via (fun t k => XS.iload X0.here hx rfl (hb hby own_d1_176) rfl k) ?_
                      show own_G p e below _ (s₁.setTop (mkF m 178 #[.val (.ref a1), .val (.int (0 : Int32)), .val (.int p2), .val (.int vg1), .val (.int (4 : Int32)), .val (.int (128 : Int32)), .val (.int (191 : Int32)), .val (.int vg21), .val (.int (3 : Int32))] [(.int (3 : Int32))]))
                      refine own_via (fun t k => XS.iloadN X0.here hx rfl (hb hby own_d1_178) rfl k) ?_
                      show own_G p e below _ (s₁.setTop (mkF m 179 #[.val (.ref a1), .val (.int (0 : Int32)), .val (.int p2), .val (.int vg1), .val (.int (4 : Int32)), .val (.int (128 : Int32)), .val (.int (191 : Int32)), .val (.int vg21), .val (.int (3 : Int32))] [(.int (0 : Int32)), (.int (3 : Int32))]))
                      refine own_via (fun t k => XS.iload X0.here hx rfl (hb hby own_d1_179) rfl k) ?_
                      show own_G p e below _ (s₁.setTop (mkF m 181 #[.val (.ref a1), .val (.int (0 : Int32)), .val (.int p2), .val (.int vg1), .val (.int (4 : Int32)), .val (.int (128 : Int32)), .val (.int (191 : Int32)), .val (.int vg21), .val (.int (3 : Int32))] [(.int (4 : Int32)), (.int (0 : Int32)), (.int (3 : Int32))]))
                      refine own_via (fun t k => XS.iadd X0.here hx rfl (hb hby own_d1_181) rfl k) ?_
                      show own_G p e below _ (s₁.setTop (mkF m 182 #[.val (.ref a1), .val (.int (0 : Int32)), .val (.int p2), .val (.int vg1), .val (.int (4 : Int32)), .val (.int (128 : Int32)), .val (.int (191 : Int32)), .val (.int vg21), .val (.int (3 : Int32))] [(.int (4 : Int32)), (.int (3 : Int32))]))
                      refine own_via (fun t k => XS.icmpNo X0.here hx rfl (hb hby own_d1_182) rfl (tlt (by decide : (3 : Int32) < (4 : Int32))).2.1 k) ?_
                      show own_G p e below _ (s₁.setTop (mkF m 185 #[.val (.ref a1), .val (.int (0 : Int32)), .val (.int p2), .val (.int vg1), .val (.int (4 : Int32)), .val (.int (128 : Int32)), .val (.int (191 : Int32)), .val (.int vg21), .val (.int (3 : Int32))] []))
                      refine own_via (fun t k => XS.aloadN X0.here hx rfl (hb hby own_d1_185) rfl rfl k) ?_
                      show own_G p e below _ (s₁.setTop (mkF m 186 #[.val (.ref a1), .val (.int (0 : Int32)), .val (.int p2), .val (.int vg1), .val (.int (4 : Int32)), .val (.int (128 : Int32)), .val (.int (191 : Int32)), .val (.int vg21), .val (.int (3 : Int32))] [(.ref a1)]))
                      refine own_via (fun t k => XS.iload X0.here hx rfl (hb hby own_d1_186) rfl k) ?_
                      show own_G p e below _ (s₁.setTop (mkF m 188 #[.val (.ref a1), .val (.int (0 : Int32)), .val (.int p2), .val (.int vg1), .val (.int (4 : Int32)), .val (.int (128 : Int32)), .val (.int (191 : Int32)), .val (.int vg21), .val (.int (3 : Int32))] [(.int (3 : Int32)), (.ref a1)]))
                      refine own_via (own_ldB X0 hx hZ e0 i_V0 (j := (3 : Int32)) ⟨by decide, by decide⟩ (v := (.int b3)) rfl (pc := 188) (Ls := #[.val (.ref a1), .val (.int (0 : Int32)), .val (.int p2), .val (.int vg1), .val (.int (4 : Int32)), .val (.int (128 : Int32)), .val (.int (191 : Int32)), .val (.int vg21), .val (.int (3 : Int32))]) (rest := []) (hb hby own_d1_188)) ?_
                      show own_G p e below _ (s₁.setTop (mkF m 189 #[.val (.ref a1), .val (.int (0 : Int32)), .val (.int p2), .val (.int vg1), .val (.int (4 : Int32)), .val (.int (128 : Int32)), .val (.int (191 : Int32)), .val (.int vg21), .val (.int (3 : Int32))] [(.int b3)]))
                      refine own_via (fun t k => XS.sipush X0.here hx rfl (hb hby own_d1_189) k) ?_
                      show own_G p e below _ (s₁.setTop (mkF m 192 #[.val (.ref a1), .val (.int (0 : Int32)), .val (.int p2), .val (.int vg1), .val (.int (4 : Int32)), .val (.int (128 : Int32)), .val (.int (191 : Int32)), .val (.int vg21), .val (.int (3 : Int32))] [(.int (192 : Int32)), (.int b3)]))
                      refine own_via (fun t k => XS.iand X0.here hx rfl (hb hby own_d1_192) rfl k) ?_
                      show own_G p e below _ (s₁.setTop (mkF m 193 #[.val (.ref a1), .val (.int (0 : Int32)), .val (.int p2), .val (.int vg1), .val (.int (4 : Int32)), .val (.int (128 : Int32)), .val (.int (191 : Int32)), .val (.int vg21), .val (.int (3 : Int32))] [(.int (b3 &&& (192 : Int32)))]))
                      refine own_via (fun t k => XS.sipush X0.here hx rfl (hb hby own_d1_193) k) ?_
                      show own_G p e below _ (s₁.setTop (mkF m 196 #[.val (.ref a1), .val (.int (0 : Int32)), .val (.int p2), .val (.int vg1), .val (.int (4 : Int32)), .val (.int (128 : Int32)), .val (.int (191 : Int32)), .val (.int vg21), .val (.int (3 : Int32))] [(.int (128 : Int32)), (.int (b3 &&& (192 : Int32)))]))
                      by_cases hc25 : (b3 &&& (192 : Int32)) = (128 : Int32)
                      ·
                        refine own_via (fun t k => XS.icmpYes X0.here hx rfl (pc0 := 196) (pc' := 201) rfl (hb hby own_d1_196) rfl (teq hc25).1 (by decide) (by decide) k) ?_
                        show own_G p e below _ (s₁.setTop (mkF m 201 #[.val (.ref a1), .val (.int (0 : Int32)), .val (.int p2), .val (.int vg1), .val (.int (4 : Int32)), .val (.int (128 : Int32)), .val (.int (191 : Int32)), .val (.int vg21), .val (.int (3 : Int32))] []))
                        refine own_via (fun t k => XS.iinc X0.here hx rfl (hb hby own_d1_201) rfl (l' := #[.val (.ref a1), .val (.int (0 : Int32)), .val (.int p2), .val (.int vg1), .val (.int (4 : Int32)), .val (.int (128 : Int32)), .val (.int (191 : Int32)), .val (.int vg21), .val (.int (4 : Int32))]) rfl k) ?_
                        show own_G p e below _ (s₁.setTop (mkF m 204 #[.val (.ref a1), .val (.int (0 : Int32)), .val (.int p2), .val (.int vg1), .val (.int (4 : Int32)), .val (.int (128 : Int32)), .val (.int (191 : Int32)), .val (.int vg21), .val (.int (4 : Int32))] []))
                        refine own_via (fun t k => XS.goto X0.here hx rfl (pc0 := 204) (pc' := 176) rfl (hb hby own_d1_204) (by decide) (by decide) k) ?_
                        show own_G p e below _ (s₁.setTop (mkF m 176 #[.val (.ref a1), .val (.int (0 : Int32)), .val (.int p2), .val (.int vg1), .val (.int (4 : Int32)), .val (.int (128 : Int32)), .val (.int (191 : Int32)), .val (.int vg21), .val (.int (4 : Int32))] []))
                        refine own_via (fun t k => XS.iload X0.here hx rfl (hb hby own_d1_176) rfl k) ?_
                        show own_G p e below _ (s₁.setTop (mkF m 178 #[.val (.ref a1), .val (.int (0 : Int32)), .val (.int p2), .val (.int vg1), .val (.int (4 : Int32)), .val (.int (128 : Int32)), .val (.int (191 : Int32)), .val (.int vg21), .val (.int (4 : Int32))] [(.int (4 : Int32))]))
                        refine own_via (fun t k => XS.iloadN X0.here hx rfl (hb hby own_d1_178) rfl k) ?_
                        show own_G p e below _ (s₁.setTop (mkF m 179 #[.val (.ref a1), .val (.int (0 : Int32)), .val (.int p2), .val (.int vg1), .val (.int (4 : Int32)), .val (.int (128 : Int32)), .val (.int (191 : Int32)), .val (.int vg21), .val (.int (4 : Int32))] [(.int (0 : Int32)), (.int (4 : Int32))]))
                        refine own_via (fun t k => XS.iload X0.here hx rfl (hb hby own_d1_179) rfl k) ?_
                        show own_G p e below _ (s₁.setTop (mkF m 181 #[.val (.ref a1), .val (.int (0 : Int32)), .val (.int p2), .val (.int vg1), .val (.int (4 : Int32)), .val (.int (128 : Int32)), .val (.int (191 : Int32)), .val (.int vg21), .val (.int (4 : Int32))] [(.int (4 : Int32)), (.int (0 : Int32)), (.int (4 : Int32))]))
                        refine own_via (fun t k => XS.iadd X0.here hx rfl (hb hby own_d1_181) rfl k) ?_
                        show own_G p e below _ (s₁.setTop (mkF m 182 #[.val (.ref a1), .val (.int (0 : Int32)), .val (.int p2), .val (.int vg1), .val (.int (4 : Int32)), .val (.int (128 : Int32)), .val (.int (191 : Int32)), .val (.int vg21), .val (.int (4 : Int32))] [(.int (4 : Int32)), (.int (4 : Int32))]))
                        refine own_via (fun t k => XS.icmpYes X0.here hx rfl (pc0 := 182) (pc' := 207) rfl (hb hby own_d1_182) rfl (flt (by decide : ¬ ((4 : Int32) < (4 : Int32)))).2.1 (by decide) (by decide) k) ?_
                        show own_G p e below _ (s₁.setTop (mkF m 207 #[.val (.ref a1), .val (.int (0 : Int32)), .val (.int p2), .val (.int vg1), .val (.int (4 : Int32)), .val (.int (128 : Int32)), .val (.int (191 : Int32)), .val (.int vg21), .val (.int (4 : Int32))] []))
                        refine own_via (fun t k => XS.iload X0.here hx rfl (hb hby own_d1_207) rfl k) ?_
                        show own_G p e below _ (s₁.setTop (mkF m 209 #[.val (.ref a1), .val (.int (0 : Int32)), .val (.int p2), .val (.int vg1), .val (.int (4 : Int32)), .val (.int (128 : Int32)), .val (.int (191 : Int32)), .val (.int vg21), .val (.int (4 : Int32))] [(.int (4 : Int32))]))
                        exact own_retI X0 hx Bd.returns Bd.notSynchronized (hb hby own_d1_209) ⟨(by show (some (.int (4 : Int32)) : Option Value) = some (.int (own_Fs0 b0 b1 b2 b3 p2)); subst hvg21; subst hvg1; simp only [own_Fs0, if_neg hc2, if_pos hc3, if_pos hc4, if_neg hc5, if_neg hc6, if_neg hc13, if_neg hc20, if_neg hc22, if_neg hc23, if_pos hc24, if_pos hc25]), rfl, e0⟩ (by decide) (by decide)
                      ·
                        refine own_via (fun t k => XS.icmpNo X0.here hx rfl (hb hby own_d1_196) rfl (feq hc25).1 k) ?_
                        show own_G p e below _ (s₁.setTop (mkF m 199 #[.val (.ref a1), .val (.int (0 : Int32)), .val (.int p2), .val (.int vg1), .val (.int (4 : Int32)), .val (.int (128 : Int32)), .val (.int (191 : Int32)), .val (.int vg21), .val (.int (3 : Int32))] []))
                        refine own_via (fun t k => XS.iconst X0.here hx rfl (hb hby own_d1_199) k) ?_
                        show own_G p e below _ (s₁.setTop (mkF m 200 #[.val (.ref a1), .val (.int (0 : Int32)), .val (.int p2), .val (.int vg1), .val (.int (4 : Int32)), .val (.int (128 : Int32)), .val (.int (191 : Int32)), .val (.int vg21), .val (.int (3 : Int32))] [(.int (-1 : Int32))]))
                        exact own_retI X0 hx Bd.returns Bd.notSynchronized (hb hby own_d1_200) ⟨(by show (some (.int (-1 : Int32)) : Option Value) = some (.int (own_Fs0 b0 b1 b2 b3 p2)); subst hvg21; subst hvg1; simp only [own_Fs0, if_neg hc2, if_pos hc3, if_pos hc4, if_neg hc5, if_neg hc6, if_neg hc13, if_neg hc20, if_neg hc22, if_neg hc23, if_pos hc24, if_neg hc25]), rfl, e0⟩ (by decide) (by decide)
                    ·
                      refine own_via (fun t k => XS.icmpNo X0.here hx rfl (hb hby own_d1_196) rfl (feq hc24).1 k) ?_
                      show own_G p e below _ (s₁.setTop (mkF m 199 #[.val (.ref a1), .val (.int (0 : Int32)), .val (.int p2), .val (.int vg1), .val (.int (4 : Int32)), .val (.int (128 : Int32)), .val (.int (191 : Int32)), .val (.int vg21), .val (.int (2 : Int32))] []))
                      refine own_via (fun t k => XS.iconst X0.here hx rfl (hb hby own_d1_199) k) ?_
                      show own_G p e below _ (s₁.setTop (mkF m 200 #[.val (.ref a1), .val (.int (0 : Int32)), .val (.int p2), .val (.int vg1), .val (.int (4 : Int32)), .val (.int (128 : Int32)), .val (.int (191 : Int32)), .val (.int vg21), .val (.int (2 : Int32))] [(.int (-1 : Int32))]))
                      exact own_retI X0 hx Bd.returns Bd.notSynchronized (hb hby own_d1_200) ⟨(by show (some (.int (-1 : Int32)) : Option Value) = some (.int (own_Fs0 b0 b1 b2 b3 p2)); subst hvg21; subst hvg1; simp only [own_Fs0, if_neg hc2, if_pos hc3, if_pos hc4, if_neg hc5, if_neg hc6, if_neg hc13, if_neg hc20, if_neg hc22, if_neg hc23, if_neg hc24]), rfl, e0⟩ (by decide) (by decide)
      ·
        refine own_via (fun t k => XS.icmpNo X0.here hx rfl (hb hby own_d1_49) rfl (flt hc4).2.2.1 k) ?_
        show own_G p e below _ (s₁.setTop (mkF m 52 #[.val (.ref a1), .val (.int (0 : Int32)), .val (.int p2), .val (.int vg1), .unset, .val (.int (128 : Int32)), .val (.int (191 : Int32)), .unset, .unset] []))
        refine own_via (fun t k => XS.iconst X0.here hx rfl (hb hby own_d1_52) k) ?_
        show own_G p e below _ (s₁.setTop (mkF m 53 #[.val (.ref a1), .val (.int (0 : Int32)), .val (.int p2), .val (.int vg1), .unset, .val (.int (128 : Int32)), .val (.int (191 : Int32)), .unset, .unset] [(.int (3 : Int32))]))
        refine own_via (fun t k => XS.istore X0.here hx rfl (hb hby own_d1_53) rfl (l' := #[.val (.ref a1), .val (.int (0 : Int32)), .val (.int p2), .val (.int vg1), .val (.int (3 : Int32)), .val (.int (128 : Int32)), .val (.int (191 : Int32)), .unset, .unset]) rfl k) ?_
        show own_G p e below _ (s₁.setTop (mkF m 55 #[.val (.ref a1), .val (.int (0 : Int32)), .val (.int p2), .val (.int vg1), .val (.int (3 : Int32)), .val (.int (128 : Int32)), .val (.int (191 : Int32)), .unset, .unset] []))
        refine own_via (fun t k => XS.iloadN X0.here hx rfl (hb hby own_d1_55) rfl k) ?_
        show own_G p e below _ (s₁.setTop (mkF m 56 #[.val (.ref a1), .val (.int (0 : Int32)), .val (.int p2), .val (.int vg1), .val (.int (3 : Int32)), .val (.int (128 : Int32)), .val (.int (191 : Int32)), .unset, .unset] [(.int vg1)]))
        refine own_via (fun t k => XS.sipush X0.here hx rfl (hb hby own_d1_56) k) ?_
        show own_G p e below _ (s₁.setTop (mkF m 59 #[.val (.ref a1), .val (.int (0 : Int32)), .val (.int p2), .val (.int vg1), .val (.int (3 : Int32)), .val (.int (128 : Int32)), .val (.int (191 : Int32)), .unset, .unset] [(.int (224 : Int32)), (.int vg1)]))
        by_cases hc26 : vg1 = (224 : Int32)
        ·
          refine own_via (fun t k => XS.icmpNo X0.here hx rfl (hb hby own_d1_59) rfl (teq hc26).2 k) ?_
          show own_G p e below _ (s₁.setTop (mkF m 62 #[.val (.ref a1), .val (.int (0 : Int32)), .val (.int p2), .val (.int vg1), .val (.int (3 : Int32)), .val (.int (128 : Int32)), .val (.int (191 : Int32)), .unset, .unset] []))
          refine own_via (fun t k => XS.sipush X0.here hx rfl (hb hby own_d1_62) k) ?_
          show own_G p e below _ (s₁.setTop (mkF m 65 #[.val (.ref a1), .val (.int (0 : Int32)), .val (.int p2), .val (.int vg1), .val (.int (3 : Int32)), .val (.int (128 : Int32)), .val (.int (191 : Int32)), .unset, .unset] [(.int (160 : Int32))]))
          refine own_via (fun t k => XS.istore X0.here hx rfl (hb hby own_d1_65) rfl (l' := #[.val (.ref a1), .val (.int (0 : Int32)), .val (.int p2), .val (.int vg1), .val (.int (3 : Int32)), .val (.int (160 : Int32)), .val (.int (191 : Int32)), .unset, .unset]) rfl k) ?_
          show own_G p e below _ (s₁.setTop (mkF m 67 #[.val (.ref a1), .val (.int (0 : Int32)), .val (.int p2), .val (.int vg1), .val (.int (3 : Int32)), .val (.int (160 : Int32)), .val (.int (191 : Int32)), .unset, .unset] []))
          refine own_via (fun t k => XS.goto X0.here hx rfl (pc0 := 67) (pc' := 134) rfl (hb hby own_d1_67) (by decide) (by decide) k) ?_
          show own_G p e below _ (s₁.setTop (mkF m 134 #[.val (.ref a1), .val (.int (0 : Int32)), .val (.int p2), .val (.int vg1), .val (.int (3 : Int32)), .val (.int (160 : Int32)), .val (.int (191 : Int32)), .unset, .unset] []))
          refine own_via (fun t k => XS.iloadN X0.here hx rfl (hb hby own_d1_134) rfl k) ?_
          show own_G p e below _ (s₁.setTop (mkF m 135 #[.val (.ref a1), .val (.int (0 : Int32)), .val (.int p2), .val (.int vg1), .val (.int (3 : Int32)), .val (.int (160 : Int32)), .val (.int (191 : Int32)), .unset, .unset] [(.int p2)]))
          refine own_via (fun t k => XS.iloadN X0.here hx rfl (hb hby own_d1_135) rfl k) ?_
          show own_G p e below _ (s₁.setTop (mkF m 136 #[.val (.ref a1), .val (.int (0 : Int32)), .val (.int p2), .val (.int vg1), .val (.int (3 : Int32)), .val (.int (160 : Int32)), .val (.int (191 : Int32)), .unset, .unset] [(.int (0 : Int32)), (.int p2)]))
          refine own_via (fun t k => XS.isub X0.here hx rfl (hb hby own_d1_136) rfl k) ?_
          show own_G p e below _ (s₁.setTop (mkF m 137 #[.val (.ref a1), .val (.int (0 : Int32)), .val (.int p2), .val (.int vg1), .val (.int (3 : Int32)), .val (.int (160 : Int32)), .val (.int (191 : Int32)), .unset, .unset] [(.int (p2 - (0 : Int32)))]))
          refine own_via (fun t k => XS.iload X0.here hx rfl (hb hby own_d1_137) rfl k) ?_
          show own_G p e below _ (s₁.setTop (mkF m 139 #[.val (.ref a1), .val (.int (0 : Int32)), .val (.int p2), .val (.int vg1), .val (.int (3 : Int32)), .val (.int (160 : Int32)), .val (.int (191 : Int32)), .unset, .unset] [(.int (3 : Int32)), (.int (p2 - (0 : Int32)))]))
          by_cases hc27 : (p2 - (0 : Int32)) < (3 : Int32)
          ·
            refine own_via (fun t k => XS.icmpNo X0.here hx rfl (hb hby own_d1_139) rfl (tlt hc27).2.1 k) ?_
            show own_G p e below _ (s₁.setTop (mkF m 142 #[.val (.ref a1), .val (.int (0 : Int32)), .val (.int p2), .val (.int vg1), .val (.int (3 : Int32)), .val (.int (160 : Int32)), .val (.int (191 : Int32)), .unset, .unset] []))
            refine own_via (fun t k => XS.iconst X0.here hx rfl (hb hby own_d1_142) k) ?_
            show own_G p e below _ (s₁.setTop (mkF m 143 #[.val (.ref a1), .val (.int (0 : Int32)), .val (.int p2), .val (.int vg1), .val (.int (3 : Int32)), .val (.int (160 : Int32)), .val (.int (191 : Int32)), .unset, .unset] [(.int (-1 : Int32))]))
            exact own_retI X0 hx Bd.returns Bd.notSynchronized (hb hby own_d1_143) ⟨(by show (some (.int (-1 : Int32)) : Option Value) = some (.int (own_Fs0 b0 b1 b2 b3 p2)); subst hvg1; simp only [own_Fs0, if_neg hc2, if_pos hc3, if_neg hc4, if_pos hc26, if_pos hc27]), rfl, e0⟩ (by decide) (by decide)
          ·
            refine own_via (fun t k => XS.icmpYes X0.here hx rfl (pc0 := 139) (pc' := 144) rfl (hb hby own_d1_139) rfl (flt hc27).2.1 (by decide) (by decide) k) ?_
            show own_G p e below _ (s₁.setTop (mkF m 144 #[.val (.ref a1), .val (.int (0 : Int32)), .val (.int p2), .val (.int vg1), .val (.int (3 : Int32)), .val (.int (160 : Int32)), .val (.int (191 : Int32)), .unset, .unset] []))
            refine own_via (fun t k => XS.aloadN X0.here hx rfl (hb hby own_d1_144) rfl rfl k) ?_
            show own_G p e below _ (s₁.setTop (mkF m 145 #[.val (.ref a1), .val (.int (0 : Int32)), .val (.int p2), .val (.int vg1), .val (.int (3 : Int32)), .val (.int (160 : Int32)), .val (.int (191 : Int32)), .unset, .unset] [(.ref a1)]))
            refine own_via (fun t k => XS.iloadN X0.here hx rfl (hb hby own_d1_145) rfl k) ?_
            show own_G p e below _ (s₁.setTop (mkF m 146 #[.val (.ref a1), .val (.int (0 : Int32)), .val (.int p2), .val (.int vg1), .val (.int (3 : Int32)), .val (.int (160 : Int32)), .val (.int (191 : Int32)), .unset, .unset] [(.int (0 : Int32)), (.ref a1)]))
            refine own_via (fun t k => XS.iconst X0.here hx rfl (hb hby own_d1_146) k) ?_
            show own_G p e below _ (s₁.setTop (mkF m 147 #[.val (.ref a1), .val (.int (0 : Int32)), .val (.int p2), .val (.int vg1), .val (.int (3 : Int32)), .val (.int (160 : Int32)), .val (.int (191 : Int32)), .unset, .unset] [(.int (1 : Int32)), (.int (0 : Int32)), (.ref a1)]))
            refine own_via (fun t k => XS.iadd X0.here hx rfl (hb hby own_d1_147) rfl k) ?_
            show own_G p e below _ (s₁.setTop (mkF m 148 #[.val (.ref a1), .val (.int (0 : Int32)), .val (.int p2), .val (.int vg1), .val (.int (3 : Int32)), .val (.int (160 : Int32)), .val (.int (191 : Int32)), .unset, .unset] [(.int (1 : Int32)), (.ref a1)]))
            refine own_via (own_ldB X0 hx hZ e0 i_V0 (j := (1 : Int32)) ⟨by decide, by decide⟩ (v := (.int b1)) rfl (pc := 148) (Ls := #[.val (.ref a1), .val (.int (0 : Int32)), .val (.int p2), .val (.int vg1), .val (.int (3 : Int32)), .val (.int (160 : Int32)), .val (.int (191 : Int32)), .unset, .unset]) (rest := []) (hb hby own_d1_148)) ?_
            show own_G p e below _ (s₁.setTop (mkF m 149 #[.val (.ref a1), .val (.int (0 : Int32)), .val (.int p2), .val (.int vg1), .val (.int (3 : Int32)), .val (.int (160 : Int32)), .val (.int (191 : Int32)), .unset, .unset] [(.int b1)]))
            refine own_via (fun t k => XS.sipush X0.here hx rfl (hb hby own_d1_149) k) ?_
            show own_G p e below _ (s₁.setTop (mkF m 152 #[.val (.ref a1), .val (.int (0 : Int32)), .val (.int p2), .val (.int vg1), .val (.int (3 : Int32)), .val (.int (160 : Int32)), .val (.int (191 : Int32)), .unset, .unset] [(.int (255 : Int32)), (.int b1)]))
            refine own_via (fun t k => XS.iand X0.here hx rfl (hb hby own_d1_152) rfl k) ?_
            show own_G p e below _ (s₁.setTop (mkF m 153 #[.val (.ref a1), .val (.int (0 : Int32)), .val (.int p2), .val (.int vg1), .val (.int (3 : Int32)), .val (.int (160 : Int32)), .val (.int (191 : Int32)), .unset, .unset] [(.int (b1 &&& (255 : Int32)))]))
            generalize hvg28 : (b1 &&& (255 : Int32)) = vg28
            show own_G p e below _ (s₁.setTop (mkF m 153 #[.val (.ref a1), .val (.int (0 : Int32)), .val (.int p2), .val (.int vg1), .val (.int (3 : Int32)), .val (.int (160 : Int32)), .val (.int (191 : Int32)), .unset, .unset] [(.int vg28)]))
            refine own_via (fun t k => XS.istore X0.here hx rfl (hb hby own_d1_153) rfl (l' := #[.val (.ref a1), .val (.int (0 : Int32)), .val (.int p2), .val (.int vg1), .val (.int (3 : Int32)), .val (.int (160 : Int32)), .val (.int (191 : Int32)), .val (.int vg28), .unset]) rfl k) ?_
            show own_G p e below _ (s₁.setTop (mkF m 155 #[.val (.ref a1), .val (.int (0 : Int32)), .val (.int p2), .val (.int vg1), .val (.int (3 : Int32)), .val (.int (160 : Int32)), .val (.int (191 : Int32)), .val (.int vg28), .unset] []))
            refine own_via (fun t k => XS.iload X0.here hx rfl (hb hby own_d1_155) rfl k) ?_
            show own_G p e below _ (s₁.setTop (mkF m 157 #[.val (.ref a1), .val (.int (0 : Int32)), .val (.int p2), .val (.int vg1), .val (.int (3 : Int32)), .val (.int (160 : Int32)), .val (.int (191 : Int32)), .val (.int vg28), .unset] [(.int vg28)]))
            refine own_via (fun t k => XS.iload X0.here hx rfl (hb hby own_d1_157) rfl k) ?_
            show own_G p e below _ (s₁.setTop (mkF m 159 #[.val (.ref a1), .val (.int (0 : Int32)), .val (.int p2), .val (.int vg1), .val (.int (3 : Int32)), .val (.int (160 : Int32)), .val (.int (191 : Int32)), .val (.int vg28), .unset] [(.int (160 : Int32)), (.int vg28)]))
            by_cases hc29 : vg28 < (160 : Int32)
            ·
              refine own_via (fun t k => XS.icmpYes X0.here hx rfl (pc0 := 159) (pc' := 169) rfl (hb hby own_d1_159) rfl (tlt hc29).1 (by decide) (by decide) k) ?_
              show own_G p e below _ (s₁.setTop (mkF m 169 #[.val (.ref a1), .val (.int (0 : Int32)), .val (.int p2), .val (.int vg1), .val (.int (3 : Int32)), .val (.int (160 : Int32)), .val (.int (191 : Int32)), .val (.int vg28), .unset] []))
              refine own_via (fun t k => XS.iconst X0.here hx rfl (hb hby own_d1_169) k) ?_
              show own_G p e below _ (s₁.setTop (mkF m 170 #[.val (.ref a1), .val (.int (0 : Int32)), .val (.int p2), .val (.int vg1), .val (.int (3 : Int32)), .val (.int (160 : Int32)), .val (.int (191 : Int32)), .val (.int vg28), .unset] [(.int (-1 : Int32))]))
              exact own_retI X0 hx Bd.returns Bd.notSynchronized (hb hby own_d1_170) ⟨(by show (some (.int (-1 : Int32)) : Option Value) = some (.int (own_Fs0 b0 b1 b2 b3 p2)); subst hvg28; subst hvg1; simp only [own_Fs0, if_neg hc2, if_pos hc3, if_neg hc4, if_pos hc26, if_neg hc27, if_pos hc29]), rfl, e0⟩ (by decide) (by decide)
            ·
              refine own_via (fun t k => XS.icmpNo X0.here hx rfl (hb hby own_d1_159) rfl (flt hc29).1 k) ?_
              show own_G p e below _ (s₁.setTop (mkF m 162 #[.val (.ref a1), .val (.int (0 : Int32)), .val (.int p2), .val (.int vg1), .val (.int (3 : Int32)), .val (.int (160 : Int32)), .val (.int (191 : Int32)), .val (.int vg28), .unset] []))
              refine own_via (fun t k => XS.iload X0.here hx rfl (hb hby own_d1_162) rfl k) ?_
              show own_G p e below _ (s₁.setTop (mkF m 164 #[.val (.ref a1), .val (.int (0 : Int32)), .val (.int p2), .val (.int vg1), .val (.int (3 : Int32)), .val (.int (160 : Int32)), .val (.int (191 : Int32)), .val (.int vg28), .unset] [(.int vg28)]))
              refine own_via (fun t k => XS.iload X0.here hx rfl (hb hby own_d1_164) rfl k) ?_
              show own_G p e below _ (s₁.setTop (mkF m 166 #[.val (.ref a1), .val (.int (0 : Int32)), .val (.int p2), .val (.int vg1), .val (.int (3 : Int32)), .val (.int (160 : Int32)), .val (.int (191 : Int32)), .val (.int vg28), .unset] [(.int (191 : Int32)), (.int vg28)]))
              by_cases hc30 : (191 : Int32) < vg28
              ·
                refine own_via (fun t k => XS.icmpNo X0.here hx rfl (hb hby own_d1_166) rfl (tlt hc30).2.2.2 k) ?_
                show own_G p e below _ (s₁.setTop (mkF m 169 #[.val (.ref a1), .val (.int (0 : Int32)), .val (.int p2), .val (.int vg1), .val (.int (3 : Int32)), .val (.int (160 : Int32)), .val (.int (191 : Int32)), .val (.int vg28), .unset] []))
                refine own_via (fun t k => XS.iconst X0.here hx rfl (hb hby own_d1_169) k) ?_
                show own_G p e below _ (s₁.setTop (mkF m 170 #[.val (.ref a1), .val (.int (0 : Int32)), .val (.int p2), .val (.int vg1), .val (.int (3 : Int32)), .val (.int (160 : Int32)), .val (.int (191 : Int32)), .val (.int vg28), .unset] [(.int (-1 : Int32))]))
                exact own_retI X0 hx Bd.returns Bd.notSynchronized (hb hby own_d1_170) ⟨(by show (some (.int (-1 : Int32)) : Option Value) = some (.int (own_Fs0 b0 b1 b2 b3 p2)); subst hvg28; subst hvg1; simp only [own_Fs0, if_neg hc2, if_pos hc3, if_neg hc4, if_pos hc26, if_neg hc27, if_neg hc29, if_pos hc30]), rfl, e0⟩ (by decide) (by decide)
              ·
                refine own_via (fun t k => XS.icmpYes X0.here hx rfl (pc0 := 166) (pc' := 171) rfl (hb hby own_d1_166) rfl (flt hc30).2.2.2 (by decide) (by decide) k) ?_
                show own_G p e below _ (s₁.setTop (mkF m 171 #[.val (.ref a1), .val (.int (0 : Int32)), .val (.int p2), .val (.int vg1), .val (.int (3 : Int32)), .val (.int (160 : Int32)), .val (.int (191 : Int32)), .val (.int vg28), .unset] []))
                refine own_via (fun t k => XS.iloadN X0.here hx rfl (hb hby own_d1_171) rfl k) ?_
                show own_G p e below _ (s₁.setTop (mkF m 172 #[.val (.ref a1), .val (.int (0 : Int32)), .val (.int p2), .val (.int vg1), .val (.int (3 : Int32)), .val (.int (160 : Int32)), .val (.int (191 : Int32)), .val (.int vg28), .unset] [(.int (0 : Int32))]))
                refine own_via (fun t k => XS.iconst X0.here hx rfl (hb hby own_d1_172) k) ?_
                show own_G p e below _ (s₁.setTop (mkF m 173 #[.val (.ref a1), .val (.int (0 : Int32)), .val (.int p2), .val (.int vg1), .val (.int (3 : Int32)), .val (.int (160 : Int32)), .val (.int (191 : Int32)), .val (.int vg28), .unset] [(.int (2 : Int32)), (.int (0 : Int32))]))
                refine own_via (fun t k => XS.iadd X0.here hx rfl (hb hby own_d1_173) rfl k) ?_
                show own_G p e below _ (s₁.setTop (mkF m 174 #[.val (.ref a1), .val (.int (0 : Int32)), .val (.int p2), .val (.int vg1), .val (.int (3 : Int32)), .val (.int (160 : Int32)), .val (.int (191 : Int32)), .val (.int vg28), .unset] [(.int (2 : Int32))]))
                refine own_via (fun t k => XS.istore X0.here hx rfl (hb hby own_d1_174) rfl (l' := #[.val (.ref a1), .val (.int (0 : Int32)), .val (.int p2), .val (.int vg1), .val (.int (3 : Int32)), .val (.int (160 : Int32)), .val (.int (191 : Int32)), .val (.int vg28), .val (.int (2 : Int32))]) rfl k) ?_
                show own_G p e below _ (s₁.setTop (mkF m 176 #[.val (.ref a1), .val (.int (0 : Int32)), .val (.int p2), .val (.int vg1), .val (.int (3 : Int32)), .val (.int (160 : Int32)), .val (.int (191 : Int32)), .val (.int vg28), .val (.int (2 : Int32))] []))
                refine own_via (fun t k => XS.iload X0.here hx rfl (hb hby own_d1_176) rfl k) ?_
                show own_G p e below _ (s₁.setTop (mkF m 178 #[.val (.ref a1), .val (.int (0 : Int32)), .val (.int p2), .val (.int vg1), .val (.int (3 : Int32)), .val (.int (160 : Int32)), .val (.int (191 : Int32)), .val (.int vg28), .val (.int (2 : Int32))] [(.int (2 : Int32))]))
                refine own_via (fun t k => XS.iloadN X0.here hx rfl (hb hby own_d1_178) rfl k) ?_
                show own_G p e below _ (s₁.setTop (mkF m 179 #[.val (.ref a1), .val (.int (0 : Int32)), .val (.int p2), .val (.int vg1), .val (.int (3 : Int32)), .val (.int (160 : Int32)), .val (.int (191 : Int32)), .val (.int vg28), .val (.int (2 : Int32))] [(.int (0 : Int32)), (.int (2 : Int32))]))
                refine own_via (fun t k => XS.iload X0.here hx rfl (hb hby own_d1_179) rfl k) ?_
                show own_G p e below _ (s₁.setTop (mkF m 181 #[.val (.ref a1), .val (.int (0 : Int32)), .val (.int p2), .val (.int vg1), .val (.int (3 : Int32)), .val (.int (160 : Int32)), .val (.int (191 : Int32)), .val (.int vg28), .val (.int (2 : Int32))] [(.int (3 : Int32)), (.int (0 : Int32)), (.int (2 : Int32))]))
                refine own_via (fun t k => XS.iadd X0.here hx rfl (hb hby own_d1_181) rfl k) ?_
                show own_G p e below _ (s₁.setTop (mkF m 182 #[.val (.ref a1), .val (.int (0 : Int32)), .val (.int p2), .val (.int vg1), .val (.int (3 : Int32)), .val (.int (160 : Int32)), .val (.int (191 : Int32)), .val (.int vg28), .val (.int (2 : Int32))] [(.int (3 : Int32)), (.int (2 : Int32))]))
                refine own_via (fun t k => XS.icmpNo X0.here hx rfl (hb hby own_d1_182) rfl (tlt (by decide : (2 : Int32) < (3 : Int32))).2.1 k) ?_
                show own_G p e below _ (s₁.setTop (mkF m 185 #[.val (.ref a1), .val (.int (0 : Int32)), .val (.int p2), .val (.int vg1), .val (.int (3 : Int32)), .val (.int (160 : Int32)), .val (.int (191 : Int32)), .val (.int vg28), .val (.int (2 : Int32))] []))
                refine own_via (fun t k => XS.aloadN X0.here hx rfl (hb hby own_d1_185) rfl rfl k) ?_
                show own_G p e below _ (s₁.setTop (mkF m 186 #[.val (.ref a1), .val (.int (0 : Int32)), .val (.int p2), .val (.int vg1), .val (.int (3 : Int32)), .val (.int (160 : Int32)), .val (.int (191 : Int32)), .val (.int vg28), .val (.int (2 : Int32))] [(.ref a1)]))
                refine own_via (fun t k => XS.iload X0.here hx rfl (hb hby own_d1_186) rfl k) ?_
                show own_G p e below _ (s₁.setTop (mkF m 188 #[.val (.ref a1), .val (.int (0 : Int32)), .val (.int p2), .val (.int vg1), .val (.int (3 : Int32)), .val (.int (160 : Int32)), .val (.int (191 : Int32)), .val (.int vg28), .val (.int (2 : Int32))] [(.int (2 : Int32)), (.ref a1)]))
                refine own_via (own_ldB X0 hx hZ e0 i_V0 (j := (2 : Int32)) ⟨by decide, by decide⟩ (v := (.int b2)) rfl (pc := 188) (Ls := #[.val (.ref a1), .val (.int (0 : Int32)), .val (.int p2), .val (.int vg1), .val (.int (3 : Int32)), .val (.int (160 : Int32)), .val (.int (191 : Int32)), .val (.int vg28), .val (.int (2 : Int32))]) (rest := []) (hb hby own_d1_188)) ?_
                show own_G p e below _ (s₁.setTop (mkF m 189 #[.val (.ref a1), .val (.int (0 : Int32)), .val (.int p2), .val (.int vg1), .val (.int (3 : Int32)), .val (.int (160 : Int32)), .val (.int (191 : Int32)), .val (.int vg28), .val (.int (2 : Int32))] [(.int b2)]))
                refine own_via (fun t k => XS.sipush X0.here hx rfl (hb hby own_d1_189) k) ?_
                show own_G p e below _ (s₁.setTop (mkF m 192 #[.val (.ref a1), .val (.int (0 : Int32)), .val (.int p2), .val (.int vg1), .val (.int (3 : Int32)), .val (.int (160 : Int32)), .val (.int (191 : Int32)), .val (.int vg28), .val (.int (2 : Int32))] [(.int (192 : Int32)), (.int b2)]))
                refine own_via (fun t k => XS.iand X0.here hx rfl (hb hby own_d1_192) rfl k) ?_
                show own_G p e below _ (s₁.setTop (mkF m 193 #[.val (.ref a1), .val (.int (0 : Int32)), .val (.int p2), .val (.int vg1), .val (.int (3 : Int32)), .val (.int (160 : Int32)), .val (.int (191 : Int32)), .val (.int vg28), .val (.int (2 : Int32))] [(.int (b2 &&& (192 : Int32)))]))
                refine own_via (fun t k => XS.sipush X0.here hx rfl (hb hby own_d1_193) k) ?_
                show own_G p e below _ (s₁.setTop (mkF m 196 #[.val (.ref a1), .val (.int (0 : Int32)), .val (.int p2), .val (.int vg1), .val (.int (3 : Int32)), .val (.int (160 : Int32)), .val (.int (191 : Int32)), .val (.int vg28), .val (.int (2 : Int32))] [(.int (128 : Int32)), (.int (b2 &&& (192 : Int32)))]))
                by_cases hc31 : (b2 &&& (192 : Int32)) = (128 : Int32)
                ·
                  refine own_via (fun t k => XS.icmpYes X0.here hx rfl (pc0 := 196) (pc' := 201) rfl (hb hby own_d1_196) rfl (teq hc31).1 (by decide) (by decide) k) ?_
                  show own_G p e below _ (s₁.setTop (mkF m 201 #[.val (.ref a1), .val (.int (0 : Int32)), .val (.int p2), .val (.int vg1), .val (.int (3 : Int32)), .val (.int (160 : Int32)), .val (.int (191 : Int32)), .val (.int vg28), .val (.int (2 : Int32))] []))
                  refine own_via (fun t k => XS.iinc X0.here hx rfl (hb hby own_d1_201) rfl (l' := #[.val (.ref a1), .val (.int (0 : Int32)), .val (.int p2), .val (.int vg1), .val (.int (3 : Int32)), .val (.int (160 : Int32)), .val (.int (191 : Int32)), .val (.int vg28), .val (.int (3 : Int32))]) rfl k) ?_
                  show own_G p e below _ (s₁.setTop (mkF m 204 #[.val (.ref a1), .val (.int (0 : Int32)), .val (.int p2), .val (.int vg1), .val (.int (3 : Int32)), .val (.int (160 : Int32)), .val (.int (191 : Int32)), .val (.int vg28), .val (.int (3 : Int32))] []))
                  refine own_via (fun t k => XS.goto X0.here hx rfl (pc0 := 204) (pc' := 176) rfl (hb hby own_d1_204) (by decide) (by decide) k) ?_
                  show own_G p e below _ (s₁.setTop (mkF m 176 #[.val (.ref a1), .val (.int (0 : Int32)), .val (.int p2), .val (.int vg1), .val (.int (3 : Int32)), .val (.int (160 : Int32)), .val (.int (191 : Int32)), .val (.int vg28), .val (.int (3 : Int32))] []))
                  refine own_via (fun t k => XS.iload X0.here hx rfl (hb hby own_d1_176) rfl k) ?_
                  show own_G p e below _ (s₁.setTop (mkF m 178 #[.val (.ref a1), .val (.int (0 : Int32)), .val (.int p2), .val (.int vg1), .val (.int (3 : Int32)), .val (.int (160 : Int32)), .val (.int (191 : Int32)), .val (.int vg28), .val (.int (3 : Int32))] [(.int (3 : Int32))]))
                  refine own_via (fun t k => XS.iloadN X0.here hx rfl (hb hby own_d1_178) rfl k) ?_
                  show own_G p e below _ (s₁.setTop (mkF m 179 #[.val (.ref a1), .val (.int (0 : Int32)), .val (.int p2), .val (.int vg1), .val (.int (3 : Int32)), .val (.int (160 : Int32)), .val (.int (191 : Int32)), .val (.int vg28), .val (.int (3 : Int32))] [(.int (0 : Int32)), (.int (3 : Int32))]))
                  refine own_via (fun t k => XS.iload X0.here hx rfl (hb hby own_d1_179) rfl k) ?_
                  show own_G p e below _ (s₁.setTop (mkF m 181 #[.val (.ref a1), .val (.int (0 : Int32)), .val (.int p2), .val (.int vg1), .val (.int (3 : Int32)), .val (.int (160 : Int32)), .val (.int (191 : Int32)), .val (.int vg28), .val (.int (3 : Int32))] [(.int (3 : Int32)), (.int (0 : Int32)), (.int (3 : Int32))]))
                  refine own_via (fun t k => XS.iadd X0.here hx rfl (hb hby own_d1_181) rfl k) ?_
                  show own_G p e below _ (s₁.setTop (mkF m 182 #[.val (.ref a1), .val (.int (0 : Int32)), .val (.int p2), .val (.int vg1), .val (.int (3 : Int32)), .val (.int (160 : Int32)), .val (.int (191 : Int32)), .val (.int vg28), .val (.int (3 : Int32))] [(.int (3 : Int32)), (.int (3 : Int32))]))
                  refine own_via (fun t k => XS.icmpYes X0.here hx rfl (pc0 := 182) (pc' := 207) rfl (hb hby own_d1_182) rfl (flt (by decide : ¬ ((3 : Int32) < (3 : Int32)))).2.1 (by decide) (by decide) k) ?_
                  show own_G p e below _ (s₁.setTop (mkF m 207 #[.val (.ref a1), .val (.int (0 : Int32)), .val (.int p2), .val (.int vg1), .val (.int (3 : Int32)), .val (.int (160 : Int32)), .val (.int (191 : Int32)), .val (.int vg28), .val (.int (3 : Int32))] []))
                  refine own_via (fun t k => XS.iload X0.here hx rfl (hb hby own_d1_207) rfl k) ?_
                  show own_G p e below _ (s₁.setTop (mkF m 209 #[.val (.ref a1), .val (.int (0 : Int32)), .val (.int p2), .val (.int vg1), .val (.int (3 : Int32)), .val (.int (160 : Int32)), .val (.int (191 : Int32)), .val (.int vg28), .val (.int (3 : Int32))] [(.int (3 : Int32))]))
                  exact own_retI X0 hx Bd.returns Bd.notSynchronized (hb hby own_d1_209) ⟨(by show (some (.int (3 : Int32)) : Option Value) = some (.int (own_Fs0 b0 b1 b2 b3 p2)); subst hvg28; subst hvg1; simp only [own_Fs0, if_neg hc2, if_pos hc3, if_neg hc4, if_pos hc26, if_neg hc27, if_neg hc29, if_neg hc30, if_pos hc31]), rfl, e0⟩ (by decide) (by decide)
                ·
                  refine own_via (fun t k => XS.icmpNo X0.here hx rfl (hb hby own_d1_196) rfl (feq hc31).1 k) ?_
                  show own_G p e below _ (s₁.setTop (mkF m 199 #[.val (.ref a1), .val (.int (0 : Int32)), .val (.int p2), .val (.int vg1), .val (.int (3 : Int32)), .val (.int (160 : Int32)), .val (.int (191 : Int32)), .val (.int vg28), .val (.int (2 : Int32))] []))
                  refine own_via (fun t k => XS.iconst X0.here hx rfl (hb hby own_d1_199) k) ?_
                  show own_G p e below _ (s₁.setTop (mkF m 200 #[.val (.ref a1), .val (.int (0 : Int32)), .val (.int p2), .val (.int vg1), .val (.int (3 : Int32)), .val (.int (160 : Int32)), .val (.int (191 : Int32)), .val (.int vg28), .val (.int (2 : Int32))] [(.int (-1 : Int32))]))
                  exact own_retI X0 hx Bd.returns Bd.notSynchronized (hb hby own_d1_200) ⟨(by show (some (.int (-1 : Int32)) : Option Value) = some (.int (own_Fs0 b0 b1 b2 b3 p2)); subst hvg28; subst hvg1; simp only [own_Fs0, if_neg hc2, if_pos hc3, if_neg hc4, if_pos hc26, if_neg hc27, if_neg hc29, if_neg hc30, if_neg hc31]), rfl, e0⟩ (by decide) (by decide)
        ·
          refine own_via (fun t k => XS.icmpYes X0.here hx rfl (pc0 := 59) (pc' := 70) rfl (hb hby own_d1_59) rfl (feq hc26).2 (by decide) (by decide) k) ?_
          show own_G p e below _ (s₁.setTop (mkF m 70 #[.val (.ref a1), .val (.int (0 : Int32)), .val (.int p2), .val (.int vg1), .val (.int (3 : Int32)), .val (.int (128 : Int32)), .val (.int (191 : Int32)), .unset, .unset] []))
          refine own_via (fun t k => XS.iloadN X0.here hx rfl (hb hby own_d1_70) rfl k) ?_
          show own_G p e below _ (s₁.setTop (mkF m 71 #[.val (.ref a1), .val (.int (0 : Int32)), .val (.int p2), .val (.int vg1), .val (.int (3 : Int32)), .val (.int (128 : Int32)), .val (.int (191 : Int32)), .unset, .unset] [(.int vg1)]))
          refine own_via (fun t k => XS.sipush X0.here hx rfl (hb hby own_d1_71) k) ?_
          show own_G p e below _ (s₁.setTop (mkF m 74 #[.val (.ref a1), .val (.int (0 : Int32)), .val (.int p2), .val (.int vg1), .val (.int (3 : Int32)), .val (.int (128 : Int32)), .val (.int (191 : Int32)), .unset, .unset] [(.int (237 : Int32)), (.int vg1)]))
          by_cases hc32 : vg1 = (237 : Int32)
          ·
            refine own_via (fun t k => XS.icmpNo X0.here hx rfl (hb hby own_d1_74) rfl (teq hc32).2 k) ?_
            show own_G p e below _ (s₁.setTop (mkF m 77 #[.val (.ref a1), .val (.int (0 : Int32)), .val (.int p2), .val (.int vg1), .val (.int (3 : Int32)), .val (.int (128 : Int32)), .val (.int (191 : Int32)), .unset, .unset] []))
            refine own_via (fun t k => XS.sipush X0.here hx rfl (hb hby own_d1_77) k) ?_
            show own_G p e below _ (s₁.setTop (mkF m 80 #[.val (.ref a1), .val (.int (0 : Int32)), .val (.int p2), .val (.int vg1), .val (.int (3 : Int32)), .val (.int (128 : Int32)), .val (.int (191 : Int32)), .unset, .unset] [(.int (159 : Int32))]))
            refine own_via (fun t k => XS.istore X0.here hx rfl (hb hby own_d1_80) rfl (l' := #[.val (.ref a1), .val (.int (0 : Int32)), .val (.int p2), .val (.int vg1), .val (.int (3 : Int32)), .val (.int (128 : Int32)), .val (.int (159 : Int32)), .unset, .unset]) rfl k) ?_
            show own_G p e below _ (s₁.setTop (mkF m 82 #[.val (.ref a1), .val (.int (0 : Int32)), .val (.int p2), .val (.int vg1), .val (.int (3 : Int32)), .val (.int (128 : Int32)), .val (.int (159 : Int32)), .unset, .unset] []))
            refine own_via (fun t k => XS.goto X0.here hx rfl (pc0 := 82) (pc' := 134) rfl (hb hby own_d1_82) (by decide) (by decide) k) ?_
            show own_G p e below _ (s₁.setTop (mkF m 134 #[.val (.ref a1), .val (.int (0 : Int32)), .val (.int p2), .val (.int vg1), .val (.int (3 : Int32)), .val (.int (128 : Int32)), .val (.int (159 : Int32)), .unset, .unset] []))
            refine own_via (fun t k => XS.iloadN X0.here hx rfl (hb hby own_d1_134) rfl k) ?_
            show own_G p e below _ (s₁.setTop (mkF m 135 #[.val (.ref a1), .val (.int (0 : Int32)), .val (.int p2), .val (.int vg1), .val (.int (3 : Int32)), .val (.int (128 : Int32)), .val (.int (159 : Int32)), .unset, .unset] [(.int p2)]))
            refine own_via (fun t k => XS.iloadN X0.here hx rfl (hb hby own_d1_135) rfl k) ?_
            show own_G p e below _ (s₁.setTop (mkF m 136 #[.val (.ref a1), .val (.int (0 : Int32)), .val (.int p2), .val (.int vg1), .val (.int (3 : Int32)), .val (.int (128 : Int32)), .val (.int (159 : Int32)), .unset, .unset] [(.int (0 : Int32)), (.int p2)]))
            refine own_via (fun t k => XS.isub X0.here hx rfl (hb hby own_d1_136) rfl k) ?_
            show own_G p e below _ (s₁.setTop (mkF m 137 #[.val (.ref a1), .val (.int (0 : Int32)), .val (.int p2), .val (.int vg1), .val (.int (3 : Int32)), .val (.int (128 : Int32)), .val (.int (159 : Int32)), .unset, .unset] [(.int (p2 - (0 : Int32)))]))
            refine own_via (fun t k => XS.iload X0.here hx rfl (hb hby own_d1_137) rfl k) ?_
            show own_G p e below _ (s₁.setTop (mkF m 139 #[.val (.ref a1), .val (.int (0 : Int32)), .val (.int p2), .val (.int vg1), .val (.int (3 : Int32)), .val (.int (128 : Int32)), .val (.int (159 : Int32)), .unset, .unset] [(.int (3 : Int32)), (.int (p2 - (0 : Int32)))]))
            by_cases hc33 : (p2 - (0 : Int32)) < (3 : Int32)
            ·
              refine own_via (fun t k => XS.icmpNo X0.here hx rfl (hb hby own_d1_139) rfl (tlt hc33).2.1 k) ?_
              show own_G p e below _ (s₁.setTop (mkF m 142 #[.val (.ref a1), .val (.int (0 : Int32)), .val (.int p2), .val (.int vg1), .val (.int (3 : Int32)), .val (.int (128 : Int32)), .val (.int (159 : Int32)), .unset, .unset] []))
              refine own_via (fun t k => XS.iconst X0.here hx rfl (hb hby own_d1_142) k) ?_
              show own_G p e below _ (s₁.setTop (mkF m 143 #[.val (.ref a1), .val (.int (0 : Int32)), .val (.int p2), .val (.int vg1), .val (.int (3 : Int32)), .val (.int (128 : Int32)), .val (.int (159 : Int32)), .unset, .unset] [(.int (-1 : Int32))]))
              exact own_retI X0 hx Bd.returns Bd.notSynchronized (hb hby own_d1_143) ⟨(by show (some (.int (-1 : Int32)) : Option Value) = some (.int (own_Fs0 b0 b1 b2 b3 p2)); subst hvg1; simp only [own_Fs0, if_neg hc2, if_pos hc3, if_neg hc4, if_neg hc26, if_pos hc32, if_pos hc33]), rfl, e0⟩ (by decide) (by decide)
            ·
              refine own_via (fun t k => XS.icmpYes X0.here hx rfl (pc0 := 139) (pc' := 144) rfl (hb hby own_d1_139) rfl (flt hc33).2.1 (by decide) (by decide) k) ?_
              show own_G p e below _ (s₁.setTop (mkF m 144 #[.val (.ref a1), .val (.int (0 : Int32)), .val (.int p2), .val (.int vg1), .val (.int (3 : Int32)), .val (.int (128 : Int32)), .val (.int (159 : Int32)), .unset, .unset] []))
              refine own_via (fun t k => XS.aloadN X0.here hx rfl (hb hby own_d1_144) rfl rfl k) ?_
              show own_G p e below _ (s₁.setTop (mkF m 145 #[.val (.ref a1), .val (.int (0 : Int32)), .val (.int p2), .val (.int vg1), .val (.int (3 : Int32)), .val (.int (128 : Int32)), .val (.int (159 : Int32)), .unset, .unset] [(.ref a1)]))
              refine own_via (fun t k => XS.iloadN X0.here hx rfl (hb hby own_d1_145) rfl k) ?_
              show own_G p e below _ (s₁.setTop (mkF m 146 #[.val (.ref a1), .val (.int (0 : Int32)), .val (.int p2), .val (.int vg1), .val (.int (3 : Int32)), .val (.int (128 : Int32)), .val (.int (159 : Int32)), .unset, .unset] [(.int (0 : Int32)), (.ref a1)]))
              refine own_via (fun t k => XS.iconst X0.here hx rfl (hb hby own_d1_146) k) ?_
              show own_G p e below _ (s₁.setTop (mkF m 147 #[.val (.ref a1), .val (.int (0 : Int32)), .val (.int p2), .val (.int vg1), .val (.int (3 : Int32)), .val (.int (128 : Int32)), .val (.int (159 : Int32)), .unset, .unset] [(.int (1 : Int32)), (.int (0 : Int32)), (.ref a1)]))
              refine own_via (fun t k => XS.iadd X0.here hx rfl (hb hby own_d1_147) rfl k) ?_
              show own_G p e below _ (s₁.setTop (mkF m 148 #[.val (.ref a1), .val (.int (0 : Int32)), .val (.int p2), .val (.int vg1), .val (.int (3 : Int32)), .val (.int (128 : Int32)), .val (.int (159 : Int32)), .unset, .unset] [(.int (1 : Int32)), (.ref a1)]))
              refine own_via (own_ldB X0 hx hZ e0 i_V0 (j := (1 : Int32)) ⟨by decide, by decide⟩ (v := (.int b1)) rfl (pc := 148) (Ls := #[.val (.ref a1), .val (.int (0 : Int32)), .val (.int p2), .val (.int vg1), .val (.int (3 : Int32)), .val (.int (128 : Int32)), .val (.int (159 : Int32)), .unset, .unset]) (rest := []) (hb hby own_d1_148)) ?_
              show own_G p e below _ (s₁.setTop (mkF m 149 #[.val (.ref a1), .val (.int (0 : Int32)), .val (.int p2), .val (.int vg1), .val (.int (3 : Int32)), .val (.int (128 : Int32)), .val (.int (159 : Int32)), .unset, .unset] [(.int b1)]))
              refine own_via (fun t k => XS.sipush X0.here hx rfl (hb hby own_d1_149) k) ?_
              show own_G p e below _ (s₁.setTop (mkF m 152 #[.val (.ref a1), .val (.int (0 : Int32)), .val (.int p2), .val (.int vg1), .val (.int (3 : Int32)), .val (.int (128 : Int32)), .val (.int (159 : Int32)), .unset, .unset] [(.int (255 : Int32)), (.int b1)]))
              refine own_via (fun t k => XS.iand X0.here hx rfl (hb hby own_d1_152) rfl k) ?_
              show own_G p e below _ (s₁.setTop (mkF m 153 #[.val (.ref a1), .val (.int (0 : Int32)), .val (.int p2), .val (.int vg1), .val (.int (3 : Int32)), .val (.int (128 : Int32)), .val (.int (159 : Int32)), .unset, .unset] [(.int (b1 &&& (255 : Int32)))]))
              generalize hvg34 : (b1 &&& (255 : Int32)) = vg34
              show own_G p e below _ (s₁.setTop (mkF m 153 #[.val (.ref a1), .val (.int (0 : Int32)), .val (.int p2), .val (.int vg1), .val (.int (3 : Int32)), .val (.int (128 : Int32)), .val (.int (159 : Int32)), .unset, .unset] [(.int vg34)]))
              refine own_via (fun t k => XS.istore X0.here hx rfl (hb hby own_d1_153) rfl (l' := #[.val (.ref a1), .val (.int (0 : Int32)), .val (.int p2), .val (.int vg1), .val (.int (3 : Int32)), .val (.int (128 : Int32)), .val (.int (159 : Int32)), .val (.int vg34), .unset]) rfl k) ?_
              show own_G p e below _ (s₁.setTop (mkF m 155 #[.val (.ref a1), .val (.int (0 : Int32)), .val (.int p2), .val (.int vg1), .val (.int (3 : Int32)), .val (.int (128 : Int32)), .val (.int (159 : Int32)), .val (.int vg34), .unset] []))
              refine own_via (fun t k => XS.iload X0.here hx rfl (hb hby own_d1_155) rfl k) ?_
              show own_G p e below _ (s₁.setTop (mkF m 157 #[.val (.ref a1), .val (.int (0 : Int32)), .val (.int p2), .val (.int vg1), .val (.int (3 : Int32)), .val (.int (128 : Int32)), .val (.int (159 : Int32)), .val (.int vg34), .unset] [(.int vg34)]))
              refine own_via (fun t k => XS.iload X0.here hx rfl (hb hby own_d1_157) rfl k) ?_
              show own_G p e below _ (s₁.setTop (mkF m 159 #[.val (.ref a1), .val (.int (0 : Int32)), .val (.int p2), .val (.int vg1), .val (.int (3 : Int32)), .val (.int (128 : Int32)), .val (.int (159 : Int32)), .val (.int vg34), .unset] [(.int (128 : Int32)), (.int vg34)]))
              by_cases hc35 : vg34 < (128 : Int32)
              ·
                refine own_via (fun t k => XS.icmpYes X0.here hx rfl (pc0 := 159) (pc' := 169) rfl (hb hby own_d1_159) rfl (tlt hc35).1 (by decide) (by decide) k) ?_
                show own_G p e below _ (s₁.setTop (mkF m 169 #[.val (.ref a1), .val (.int (0 : Int32)), .val (.int p2), .val (.int vg1), .val (.int (3 : Int32)), .val (.int (128 : Int32)), .val (.int (159 : Int32)), .val (.int vg34), .unset] []))
                refine own_via (fun t k => XS.iconst X0.here hx rfl (hb hby own_d1_169) k) ?_
                show own_G p e below _ (s₁.setTop (mkF m 170 #[.val (.ref a1), .val (.int (0 : Int32)), .val (.int p2), .val (.int vg1), .val (.int (3 : Int32)), .val (.int (128 : Int32)), .val (.int (159 : Int32)), .val (.int vg34), .unset] [(.int (-1 : Int32))]))
                exact own_retI X0 hx Bd.returns Bd.notSynchronized (hb hby own_d1_170) ⟨(by show (some (.int (-1 : Int32)) : Option Value) = some (.int (own_Fs0 b0 b1 b2 b3 p2)); subst hvg34; subst hvg1; simp only [own_Fs0, if_neg hc2, if_pos hc3, if_neg hc4, if_neg hc26, if_pos hc32, if_neg hc33, if_pos hc35]), rfl, e0⟩ (by decide) (by decide)
              ·
                refine own_via (fun t k => XS.icmpNo X0.here hx rfl (hb hby own_d1_159) rfl (flt hc35).1 k) ?_
                show own_G p e below _ (s₁.setTop (mkF m 162 #[.val (.ref a1), .val (.int (0 : Int32)), .val (.int p2), .val (.int vg1), .val (.int (3 : Int32)), .val (.int (128 : Int32)), .val (.int (159 : Int32)), .val (.int vg34), .unset] []))
                refine own_via (fun t k => XS.iload X0.here hx rfl (hb hby own_d1_162) rfl k) ?_
                show own_G p e below _ (s₁.setTop (mkF m 164 #[.val (.ref a1), .val (.int (0 : Int32)), .val (.int p2), .val (.int vg1), .val (.int (3 : Int32)), .val (.int (128 : Int32)), .val (.int (159 : Int32)), .val (.int vg34), .unset] [(.int vg34)]))
                refine own_via (fun t k => XS.iload X0.here hx rfl (hb hby own_d1_164) rfl k) ?_
                show own_G p e below _ (s₁.setTop (mkF m 166 #[.val (.ref a1), .val (.int (0 : Int32)), .val (.int p2), .val (.int vg1), .val (.int (3 : Int32)), .val (.int (128 : Int32)), .val (.int (159 : Int32)), .val (.int vg34), .unset] [(.int (159 : Int32)), (.int vg34)]))
                by_cases hc36 : (159 : Int32) < vg34
                ·
                  refine own_via (fun t k => XS.icmpNo X0.here hx rfl (hb hby own_d1_166) rfl (tlt hc36).2.2.2 k) ?_
                  show own_G p e below _ (s₁.setTop (mkF m 169 #[.val (.ref a1), .val (.int (0 : Int32)), .val (.int p2), .val (.int vg1), .val (.int (3 : Int32)), .val (.int (128 : Int32)), .val (.int (159 : Int32)), .val (.int vg34), .unset] []))
                  refine own_via (fun t k => XS.iconst X0.here hx rfl (hb hby own_d1_169) k) ?_
                  show own_G p e below _ (s₁.setTop (mkF m 170 #[.val (.ref a1), .val (.int (0 : Int32)), .val (.int p2), .val (.int vg1), .val (.int (3 : Int32)), .val (.int (128 : Int32)), .val (.int (159 : Int32)), .val (.int vg34), .unset] [(.int (-1 : Int32))]))
                  exact own_retI X0 hx Bd.returns Bd.notSynchronized (hb hby own_d1_170) ⟨(by show (some (.int (-1 : Int32)) : Option Value) = some (.int (own_Fs0 b0 b1 b2 b3 p2)); subst hvg34; subst hvg1; simp only [own_Fs0, if_neg hc2, if_pos hc3, if_neg hc4, if_neg hc26, if_pos hc32, if_neg hc33, if_neg hc35, if_pos hc36]), rfl, e0⟩ (by decide) (by decide)
                ·
                  refine own_via (fun t k => XS.icmpYes X0.here hx rfl (pc0 := 166) (pc' := 171) rfl (hb hby own_d1_166) rfl (flt hc36).2.2.2 (by decide) (by decide) k) ?_
                  show own_G p e below _ (s₁.setTop (mkF m 171 #[.val (.ref a1), .val (.int (0 : Int32)), .val (.int p2), .val (.int vg1), .val (.int (3 : Int32)), .val (.int (128 : Int32)), .val (.int (159 : Int32)), .val (.int vg34), .unset] []))
                  refine own_via (fun t k => XS.iloadN X0.here hx rfl (hb hby own_d1_171) rfl k) ?_
                  show own_G p e below _ (s₁.setTop (mkF m 172 #[.val (.ref a1), .val (.int (0 : Int32)), .val (.int p2), .val (.int vg1), .val (.int (3 : Int32)), .val (.int (128 : Int32)), .val (.int (159 : Int32)), .val (.int vg34), .unset] [(.int (0 : Int32))]))
                  refine own_via (fun t k => XS.iconst X0.here hx rfl (hb hby own_d1_172) k) ?_
                  show own_G p e below _ (s₁.setTop (mkF m 173 #[.val (.ref a1), .val (.int (0 : Int32)), .val (.int p2), .val (.int vg1), .val (.int (3 : Int32)), .val (.int (128 : Int32)), .val (.int (159 : Int32)), .val (.int vg34), .unset] [(.int (2 : Int32)), (.int (0 : Int32))]))
                  refine own_via (fun t k => XS.iadd X0.here hx rfl (hb hby own_d1_173) rfl k) ?_
                  show own_G p e below _ (s₁.setTop (mkF m 174 #[.val (.ref a1), .val (.int (0 : Int32)), .val (.int p2), .val (.int vg1), .val (.int (3 : Int32)), .val (.int (128 : Int32)), .val (.int (159 : Int32)), .val (.int vg34), .unset] [(.int (2 : Int32))]))
                  refine own_via (fun t k => XS.istore X0.here hx rfl (hb hby own_d1_174) rfl (l' := #[.val (.ref a1), .val (.int (0 : Int32)), .val (.int p2), .val (.int vg1), .val (.int (3 : Int32)), .val (.int (128 : Int32)), .val (.int (159 : Int32)), .val (.int vg34), .val (.int (2 : Int32))]) rfl k) ?_
                  show own_G p e below _ (s₁.setTop (mkF m 176 #[.val (.ref a1), .val (.int (0 : Int32)), .val (.int p2), .val (.int vg1), .val (.int (3 : Int32)), .val (.int (128 : Int32)), .val (.int (159 : Int32)), .val (.int vg34), .val (.int (2 : Int32))] []))
                  refine own_via (fun t k => XS.iload X0.here hx rfl (hb hby own_d1_176) rfl k) ?_
                  show own_G p e below _ (s₁.setTop (mkF m 178 #[.val (.ref a1), .val (.int (0 : Int32)), .val (.int p2), .val (.int vg1), .val (.int (3 : Int32)), .val (.int (128 : Int32)), .val (.int (159 : Int32)), .val (.int vg34), .val (.int (2 : Int32))] [(.int (2 : Int32))]))
                  refine own_via (fun t k => XS.iloadN X0.here hx rfl (hb hby own_d1_178) rfl k) ?_
                  show own_G p e below _ (s₁.setTop (mkF m 179 #[.val (.ref a1), .val (.int (0 : Int32)), .val (.int p2), .val (.int vg1), .val (.int (3 : Int32)), .val (.int (128 : Int32)), .val (.int (159 : Int32)), .val (.int vg34), .val (.int (2 : Int32))] [(.int (0 : Int32)), (.int (2 : Int32))]))
                  refine own_via (fun t k => XS.iload X0.here hx rfl (hb hby own_d1_179) rfl k) ?_
                  show own_G p e below _ (s₁.setTop (mkF m 181 #[.val (.ref a1), .val (.int (0 : Int32)), .val (.int p2), .val (.int vg1), .val (.int (3 : Int32)), .val (.int (128 : Int32)), .val (.int (159 : Int32)), .val (.int vg34), .val (.int (2 : Int32))] [(.int (3 : Int32)), (.int (0 : Int32)), (.int (2 : Int32))]))
                  refine own_via (fun t k => XS.iadd X0.here hx rfl (hb hby own_d1_181) rfl k) ?_
                  show own_G p e below _ (s₁.setTop (mkF m 182 #[.val (.ref a1), .val (.int (0 : Int32)), .val (.int p2), .val (.int vg1), .val (.int (3 : Int32)), .val (.int (128 : Int32)), .val (.int (159 : Int32)), .val (.int vg34), .val (.int (2 : Int32))] [(.int (3 : Int32)), (.int (2 : Int32))]))
                  refine own_via (fun t k => XS.icmpNo X0.here hx rfl (hb hby own_d1_182) rfl (tlt (by decide : (2 : Int32) < (3 : Int32))).2.1 k) ?_
                  show own_G p e below _ (s₁.setTop (mkF m 185 #[.val (.ref a1), .val (.int (0 : Int32)), .val (.int p2), .val (.int vg1), .val (.int (3 : Int32)), .val (.int (128 : Int32)), .val (.int (159 : Int32)), .val (.int vg34), .val (.int (2 : Int32))] []))
                  refine own_via (fun t k => XS.aloadN X0.here hx rfl (hb hby own_d1_185) rfl rfl k) ?_
                  show own_G p e below _ (s₁.setTop (mkF m 186 #[.val (.ref a1), .val (.int (0 : Int32)), .val (.int p2), .val (.int vg1), .val (.int (3 : Int32)), .val (.int (128 : Int32)), .val (.int (159 : Int32)), .val (.int vg34), .val (.int (2 : Int32))] [(.ref a1)]))
                  refine own_via (fun t k => XS.iload X0.here hx rfl (hb hby own_d1_186) rfl k) ?_
                  show own_G p e below _ (s₁.setTop (mkF m 188 #[.val (.ref a1), .val (.int (0 : Int32)), .val (.int p2), .val (.int vg1), .val (.int (3 : Int32)), .val (.int (128 : Int32)), .val (.int (159 : Int32)), .val (.int vg34), .val (.int (2 : Int32))] [(.int (2 : Int32)), (.ref a1)]))
                  refine own_via (own_ldB X0 hx hZ e0 i_V0 (j := (2 : Int32)) ⟨by decide, by decide⟩ (v := (.int b2)) rfl (pc := 188) (Ls := #[.val (.ref a1), .val (.int (0 : Int32)), .val (.int p2), .val (.int vg1), .val (.int (3 : Int32)), .val (.int (128 : Int32)), .val (.int (159 : Int32)), .val (.int vg34), .val (.int (2 : Int32))]) (rest := []) (hb hby own_d1_188)) ?_
                  show own_G p e below _ (s₁.setTop (mkF m 189 #[.val (.ref a1), .val (.int (0 : Int32)), .val (.int p2), .val (.int vg1), .val (.int (3 : Int32)), .val (.int (128 : Int32)), .val (.int (159 : Int32)), .val (.int vg34), .val (.int (2 : Int32))] [(.int b2)]))
                  refine own_via (fun t k => XS.sipush X0.here hx rfl (hb hby own_d1_189) k) ?_
                  show own_G p e below _ (s₁.setTop (mkF m 192 #[.val (.ref a1), .val (.int (0 : Int32)), .val (.int p2), .val (.int vg1), .val (.int (3 : Int32)), .val (.int (128 : Int32)), .val (.int (159 : Int32)), .val (.int vg34), .val (.int (2 : Int32))] [(.int (192 : Int32)), (.int b2)]))
                  refine own_via (fun t k => XS.iand X0.here hx rfl (hb hby own_d1_192) rfl k) ?_
                  show own_G p e below _ (s₁.setTop (mkF m 193 #[.val (.ref a1), .val (.int (0 : Int32)), .val (.int p2), .val (.int vg1), .val (.int (3 : Int32)), .val (.int (128 : Int32)), .val (.int (159 : Int32)), .val (.int vg34), .val (.int (2 : Int32))] [(.int (b2 &&& (192 : Int32)))]))
                  refine own_via (fun t k => XS.sipush X0.here hx rfl (hb hby own_d1_193) k) ?_
                  show own_G p e below _ (s₁.setTop (mkF m 196 #[.val (.ref a1), .val (.int (0 : Int32)), .val (.int p2), .val (.int vg1), .val (.int (3 : Int32)), .val (.int (128 : Int32)), .val (.int (159 : Int32)), .val (.int vg34), .val (.int (2 : Int32))] [(.int (128 : Int32)), (.int (b2 &&& (192 : Int32)))]))
                  by_cases hc37 : (b2 &&& (192 : Int32)) = (128 : Int32)
                  ·
                    refine own_via (fun t k => XS.icmpYes X0.here hx rfl (pc0 := 196) (pc' := 201) rfl (hb hby own_d1_196) rfl (teq hc37).1 (by decide) (by decide) k) ?_
                    show own_G p e below _ (s₁.setTop (mkF m 201 #[.val (.ref a1), .val (.int (0 : Int32)), .val (.int p2), .val (.int vg1), .val (.int (3 : Int32)), .val (.int (128 : Int32)), .val (.int (159 : Int32)), .val (.int vg34), .val (.int (2 : Int32))] []))
                    refine own_via (fun t k => XS.iinc X0.here hx rfl (hb hby own_d1_201) rfl (l' := #[.val (.ref a1), .val (.int (0 : Int32)), .val (.int p2), .val (.int vg1), .val (.int (3 : Int32)), .val (.int (128 : Int32)), .val (.int (159 : Int32)), .val (.int vg34), .val (.int (3 : Int32))]) rfl k) ?_
                    show own_G p e below _ (s₁.setTop (mkF m 204 #[.val (.ref a1), .val (.int (0 : Int32)), .val (.int p2), .val (.int vg1), .val (.int (3 : Int32)), .val (.int (128 : Int32)), .val (.int (159 : Int32)), .val (.int vg34), .val (.int (3 : Int32))] []))
                    refine own_via (fun t k => XS.goto X0.here hx rfl (pc0 := 204) (pc' := 176) rfl (hb hby own_d1_204) (by decide) (by decide) k) ?_
                    show own_G p e below _ (s₁.setTop (mkF m 176 #[.val (.ref a1), .val (.int (0 : Int32)), .val (.int p2), .val (.int vg1), .val (.int (3 : Int32)), .val (.int (128 : Int32)), .val (.int (159 : Int32)), .val (.int vg34), .val (.int (3 : Int32))] []))
                    refine own_via (fun t k => XS.iload X0.here hx rfl (hb hby own_d1_176) rfl k) ?_
                    show own_G p e below _ (s₁.setTop (mkF m 178 #[.val (.ref a1), .val (.int (0 : Int32)), .val (.int p2), .val (.int vg1), .val (.int (3 : Int32)), .val (.int (128 : Int32)), .val (.int (159 : Int32)), .val (.int vg34), .val (.int (3 : Int32))] [(.int (3 : Int32))]))
                    refine own_via (fun t k => XS.iloadN X0.here hx rfl (hb hby own_d1_178) rfl k) ?_
                    show own_G p e below _ (s₁.setTop (mkF m 179 #[.val (.ref a1), .val (.int (0 : Int32)), .val (.int p2), .val (.int vg1), .val (.int (3 : Int32)), .val (.int (128 : Int32)), .val (.int (159 : Int32)), .val (.int vg34), .val (.int (3 : Int32))] [(.int (0 : Int32)), (.int (3 : Int32))]))
                    refine own_via (fun t k => XS.iload X0.here hx rfl (hb hby own_d1_179) rfl k) ?_
                    show own_G p e below _ (s₁.setTop (mkF m 181 #[.val (.ref a1), .val (.int (0 : Int32)), .val (.int p2), .val (.int vg1), .val (.int (3 : Int32)), .val (.int (128 : Int32)), .val (.int (159 : Int32)), .val (.int vg34), .val (.int (3 : Int32))] [(.int (3 : Int32)), (.int (0 : Int32)), (.int (3 : Int32))]))
                    refine own_via (fun t k => XS.iadd X0.here hx rfl (hb hby own_d1_181) rfl k) ?_
                    show own_G p e below _ (s₁.setTop (mkF m 182 #[.val (.ref a1), .val (.int (0 : Int32)), .val (.int p2), .val (.int vg1), .val (.int (3 : Int32)), .val (.int (128 : Int32)), .val (.int (159 : Int32)), .val (.int vg34), .val (.int (3 : Int32))] [(.int (3 : Int32)), (.int (3 : Int32))]))
                    refine own_via (fun t k => XS.icmpYes X0.here hx rfl (pc0 := 182) (pc' := 207) rfl (hb hby own_d1_182) rfl (flt (by decide : ¬ ((3 : Int32) < (3 : Int32)))).2.1 (by decide) (by decide) k) ?_
                    show own_G p e below _ (s₁.setTop (mkF m 207 #[.val (.ref a1), .val (.int (0 : Int32)), .val (.int p2), .val (.int vg1), .val (.int (3 : Int32)), .val (.int (128 : Int32)), .val (.int (159 : Int32)), .val (.int vg34), .val (.int (3 : Int32))] []))
                    refine own_via (fun t k => XS.iload X0.here hx rfl (hb hby own_d1_207) rfl k) ?_
                    show own_G p e below _ (s₁.setTop (mkF m 209 #[.val (.ref a1), .val (.int (0 : Int32)), .val (.int p2), .val (.int vg1), .val (.int (3 : Int32)), .val (.int (128 : Int32)), .val (.int (159 : Int32)), .val (.int vg34), .val (.int (3 : Int32))] [(.int (3 : Int32))]))
                    exact own_retI X0 hx Bd.returns Bd.notSynchronized (hb hby own_d1_209) ⟨(by show (some (.int (3 : Int32)) : Option Value) = some (.int (own_Fs0 b0 b1 b2 b3 p2)); subst hvg34; subst hvg1; simp only [own_Fs0, if_neg hc2, if_pos hc3, if_neg hc4, if_neg hc26, if_pos hc32, if_neg hc33, if_neg hc35, if_neg hc36, if_pos hc37]), rfl, e0⟩ (by decide) (by decide)
                  ·
                    refine own_via (fun t k => XS.icmpNo X0.here hx rfl (hb hby own_d1_196) rfl (feq hc37).1 k) ?_
                    show own_G p e below _ (s₁.setTop (mkF m 199 #[.val (.ref a1), .val (.int (0 : Int32)), .val (.int p2), .val (.int vg1), .val (.int (3 : Int32)), .val (.int (128 : Int32)), .val (.int (159 : Int32)), .val (.int vg34), .val (.int (2 : Int32))] []))
                    refine own_via (fun t k => XS.iconst X0.here hx rfl (hb hby own_d1_199) k) ?_
                    show own_G p e below _ (s₁.setTop (mkF m 200 #[.val (.ref a1), .val (.int (0 : Int32)), .val (.int p2), .val (.int vg1), .val (.int (3 : Int32)), .val (.int (128 : Int32)), .val (.int (159 : Int32)), .val (.int vg34), .val (.int (2 : Int32))] [(.int (-1 : Int32))]))
                    exact own_retI X0 hx Bd.returns Bd.notSynchronized (hb hby own_d1_200) ⟨(by show (some (.int (-1 : Int32)) : Option Value) = some (.int (own_Fs0 b0 b1 b2 b3 p2)); subst hvg34; subst hvg1; simp only [own_Fs0, if_neg hc2, if_pos hc3, if_neg hc4, if_neg hc26, if_pos hc32, if_neg hc33, if_neg hc35, if_neg hc36, if_neg hc37]), rfl, e0⟩ (by decide) (by decide)
          ·
            refine own_via (fun t k => XS.icmpYes X0.here hx rfl (pc0 := 74) (pc' := 134) rfl (hb hby own_d1_74) rfl (feq hc32).2 (by decide) (by decide) k) ?_
            show own_G p e below _ (s₁.setTop (mkF m 134 #[.val (.ref a1), .val (.int (0 : Int32)), .val (.int p2), .val (.int vg1), .val (.int (3 : Int32)), .val (.int (128 : Int32)), .val (.int (191 : Int32)), .unset, .unset] []))
            refine own_via (fun t k => XS.iloadN X0.here hx rfl (hb hby own_d1_134) rfl k) ?_
            show own_G p e below _ (s₁.setTop (mkF m 135 #[.val (.ref a1), .val (.int (0 : Int32)), .val (.int p2), .val (.int vg1), .val (.int (3 : Int32)), .val (.int (128 : Int32)), .val (.int (191 : Int32)), .unset, .unset] [(.int p2)]))
            refine own_via (fun t k => XS.iloadN X0.here hx rfl (hb hby own_d1_135) rfl k) ?_
            show own_G p e below _ (s₁.setTop (mkF m 136 #[.val (.ref a1), .val (.int (0 : Int32)), .val (.int p2), .val (.int vg1), .val (.int (3 : Int32)), .val (.int (128 : Int32)), .val (.int (191 : Int32)), .unset, .unset] [(.int (0 : Int32)), (.int p2)]))
            refine own_via (fun t k => XS.isub X0.here hx rfl (hb hby own_d1_136) rfl k) ?_
            show own_G p e below _ (s₁.setTop (mkF m 137 #[.val (.ref a1), .val (.int (0 : Int32)), .val (.int p2), .val (.int vg1), .val (.int (3 : Int32)), .val (.int (128 : Int32)), .val (.int (191 : Int32)), .unset, .unset] [(.int (p2 - (0 : Int32)))]))
            refine own_via (fun t k => XS.iload X0.here hx rfl (hb hby own_d1_137) rfl k) ?_
            show own_G p e below _ (s₁.setTop (mkF m 139 #[.val (.ref a1), .val (.int (0 : Int32)), .val (.int p2), .val (.int vg1), .val (.int (3 : Int32)), .val (.int (128 : Int32)), .val (.int (191 : Int32)), .unset, .unset] [(.int (3 : Int32)), (.int (p2 - (0 : Int32)))]))
            by_cases hc38 : (p2 - (0 : Int32)) < (3 : Int32)
            ·
              refine own_via (fun t k => XS.icmpNo X0.here hx rfl (hb hby own_d1_139) rfl (tlt hc38).2.1 k) ?_
              show own_G p e below _ (s₁.setTop (mkF m 142 #[.val (.ref a1), .val (.int (0 : Int32)), .val (.int p2), .val (.int vg1), .val (.int (3 : Int32)), .val (.int (128 : Int32)), .val (.int (191 : Int32)), .unset, .unset] []))
              refine own_via (fun t k => XS.iconst X0.here hx rfl (hb hby own_d1_142) k) ?_
              show own_G p e below _ (s₁.setTop (mkF m 143 #[.val (.ref a1), .val (.int (0 : Int32)), .val (.int p2), .val (.int vg1), .val (.int (3 : Int32)), .val (.int (128 : Int32)), .val (.int (191 : Int32)), .unset, .unset] [(.int (-1 : Int32))]))
              exact own_retI X0 hx Bd.returns Bd.notSynchronized (hb hby own_d1_143) ⟨(by show (some (.int (-1 : Int32)) : Option Value) = some (.int (own_Fs0 b0 b1 b2 b3 p2)); subst hvg1; simp only [own_Fs0, if_neg hc2, if_pos hc3, if_neg hc4, if_neg hc26, if_neg hc32, if_pos hc38]), rfl, e0⟩ (by decide) (by decide)
            ·
              refine own_via (fun t k => XS.icmpYes X0.here hx rfl (pc0 := 139) (pc' := 144) rfl (hb hby own_d1_139) rfl (flt hc38).2.1 (by decide) (by decide) k) ?_
              show own_G p e below _ (s₁.setTop (mkF m 144 #[.val (.ref a1), .val (.int (0 : Int32)), .val (.int p2), .val (.int vg1), .val (.int (3 : Int32)), .val (.int (128 : Int32)), .val (.int (191 : Int32)), .unset, .unset] []))
              refine own_via (fun t k => XS.aloadN X0.here hx rfl (hb hby own_d1_144) rfl rfl k) ?_
              show own_G p e below _ (s₁.setTop (mkF m 145 #[.val (.ref a1), .val (.int (0 : Int32)), .val (.int p2), .val (.int vg1), .val (.int (3 : Int32)), .val (.int (128 : Int32)), .val (.int (191 : Int32)), .unset, .unset] [(.ref a1)]))
              refine own_via (fun t k => XS.iloadN X0.here hx rfl (hb hby own_d1_145) rfl k) ?_
              show own_G p e below _ (s₁.setTop (mkF m 146 #[.val (.ref a1), .val (.int (0 : Int32)), .val (.int p2), .val (.int vg1), .val (.int (3 : Int32)), .val (.int (128 : Int32)), .val (.int (191 : Int32)), .unset, .unset] [(.int (0 : Int32)), (.ref a1)]))
              refine own_via (fun t k => XS.iconst X0.here hx rfl (hb hby own_d1_146) k) ?_
              show own_G p e below _ (s₁.setTop (mkF m 147 #[.val (.ref a1), .val (.int (0 : Int32)), .val (.int p2), .val (.int vg1), .val (.int (3 : Int32)), .val (.int (128 : Int32)), .val (.int (191 : Int32)), .unset, .unset] [(.int (1 : Int32)), (.int (0 : Int32)), (.ref a1)]))
              refine own_via (fun t k => XS.iadd X0.here hx rfl (hb hby own_d1_147) rfl k) ?_
              show own_G p e below _ (s₁.setTop (mkF m 148 #[.val (.ref a1), .val (.int (0 : Int32)), .val (.int p2), .val (.int vg1), .val (.int (3 : Int32)), .val (.int (128 : Int32)), .val (.int (191 : Int32)), .unset, .unset] [(.int (1 : Int32)), (.ref a1)]))
              refine own_via (own_ldB X0 hx hZ e0 i_V0 (j := (1 : Int32)) ⟨by decide, by decide⟩ (v := (.int b1)) rfl (pc := 148) (Ls := #[.val (.ref a1), .val (.int (0 : Int32)), .val (.int p2), .val (.int vg1), .val (.int (3 : Int32)), .val (.int (128 : Int32)), .val (.int (191 : Int32)), .unset, .unset]) (rest := []) (hb hby own_d1_148)) ?_
              show own_G p e below _ (s₁.setTop (mkF m 149 #[.val (.ref a1), .val (.int (0 : Int32)), .val (.int p2), .val (.int vg1), .val (.int (3 : Int32)), .val (.int (128 : Int32)), .val (.int (191 : Int32)), .unset, .unset] [(.int b1)]))
              refine own_via (fun t k => XS.sipush X0.here hx rfl (hb hby own_d1_149) k) ?_
              show own_G p e below _ (s₁.setTop (mkF m 152 #[.val (.ref a1), .val (.int (0 : Int32)), .val (.int p2), .val (.int vg1), .val (.int (3 : Int32)), .val (.int (128 : Int32)), .val (.int (191 : Int32)), .unset, .unset] [(.int (255 : Int32)), (.int b1)]))
              refine own_via (fun t k => XS.iand X0.here hx rfl (hb hby own_d1_152) rfl k) ?_
              show own_G p e below _ (s₁.setTop (mkF m 153 #[.val (.ref a1), .val (.int (0 : Int32)), .val (.int p2), .val (.int vg1), .val (.int (3 : Int32)), .val (.int (128 : Int32)), .val (.int (191 : Int32)), .unset, .unset] [(.int (b1 &&& (255 : Int32)))]))
              generalize hvg39 : (b1 &&& (255 : Int32)) = vg39
              show own_G p e below _ (s₁.setTop (mkF m 153 #[.val (.ref a1), .val (.int (0 : Int32)), .val (.int p2), .val (.int vg1), .val (.int (3 : Int32)), .val (.int (128 : Int32)), .val (.int (191 : Int32)), .unset, .unset] [(.int vg39)]))
              refine own_via (fun t k => XS.istore X0.here hx rfl (hb hby own_d1_153) rfl (l' := #[.val (.ref a1), .val (.int (0 : Int32)), .val (.int p2), .val (.int vg1), .val (.int (3 : Int32)), .val (.int (128 : Int32)), .val (.int (191 : Int32)), .val (.int vg39), .unset]) rfl k) ?_
              show own_G p e below _ (s₁.setTop (mkF m 155 #[.val (.ref a1), .val (.int (0 : Int32)), .val (.int p2), .val (.int vg1), .val (.int (3 : Int32)), .val (.int (128 : Int32)), .val (.int (191 : Int32)), .val (.int vg39), .unset] []))
              refine own_via (fun t k => XS.iload X0.here hx rfl (hb hby own_d1_155) rfl k) ?_
              show own_G p e below _ (s₁.setTop (mkF m 157 #[.val (.ref a1), .val (.int (0 : Int32)), .val (.int p2), .val (.int vg1), .val (.int (3 : Int32)), .val (.int (128 : Int32)), .val (.int (191 : Int32)), .val (.int vg39), .unset] [(.int vg39)]))
              refine own_via (fun t k => XS.iload X0.here hx rfl (hb hby own_d1_157) rfl k) ?_
              show own_G p e below _ (s₁.setTop (mkF m 159 #[.val (.ref a1), .val (.int (0 : Int32)), .val (.int p2), .val (.int vg1), .val (.int (3 : Int32)), .val (.int (128 : Int32)), .val (.int (191 : Int32)), .val (.int vg39), .unset] [(.int (128 : Int32)), (.int vg39)]))
              by_cases hc40 : vg39 < (128 : Int32)
              ·
                refine own_via (fun t k => XS.icmpYes X0.here hx rfl (pc0 := 159) (pc' := 169) rfl (hb hby own_d1_159) rfl (tlt hc40).1 (by decide) (by decide) k) ?_
                show own_G p e below _ (s₁.setTop (mkF m 169 #[.val (.ref a1), .val (.int (0 : Int32)), .val (.int p2), .val (.int vg1), .val (.int (3 : Int32)), .val (.int (128 : Int32)), .val (.int (191 : Int32)), .val (.int vg39), .unset] []))
                refine own_via (fun t k => XS.iconst X0.here hx rfl (hb hby own_d1_169) k) ?_
                show own_G p e below _ (s₁.setTop (mkF m 170 #[.val (.ref a1), .val (.int (0 : Int32)), .val (.int p2), .val (.int vg1), .val (.int (3 : Int32)), .val (.int (128 : Int32)), .val (.int (191 : Int32)), .val (.int vg39), .unset] [(.int (-1 : Int32))]))
                exact own_retI X0 hx Bd.returns Bd.notSynchronized (hb hby own_d1_170) ⟨(by show (some (.int (-1 : Int32)) : Option Value) = some (.int (own_Fs0 b0 b1 b2 b3 p2)); subst hvg39; subst hvg1; simp only [own_Fs0, if_neg hc2, if_pos hc3, if_neg hc4, if_neg hc26, if_neg hc32, if_neg hc38, if_pos hc40]), rfl, e0⟩ (by decide) (by decide)
              ·
                refine own_via (fun t k => XS.icmpNo X0.here hx rfl (hb hby own_d1_159) rfl (flt hc40).1 k) ?_
                show own_G p e below _ (s₁.setTop (mkF m 162 #[.val (.ref a1), .val (.int (0 : Int32)), .val (.int p2), .val (.int vg1), .val (.int (3 : Int32)), .val (.int (128 : Int32)), .val (.int (191 : Int32)), .val (.int vg39), .unset] []))
                refine own_via (fun t k => XS.iload X0.here hx rfl (hb hby own_d1_162) rfl k) ?_
                show own_G p e below _ (s₁.setTop (mkF m 164 #[.val (.ref a1), .val (.int (0 : Int32)), .val (.int p2), .val (.int vg1), .val (.int (3 : Int32)), .val (.int (128 : Int32)), .val (.int (191 : Int32)), .val (.int vg39), .unset] [(.int vg39)]))
                refine own_via (fun t k => XS.iload X0.here hx rfl (hb hby own_d1_164) rfl k) ?_
                show own_G p e below _ (s₁.setTop (mkF m 166 #[.val (.ref a1), .val (.int (0 : Int32)), .val (.int p2), .val (.int vg1), .val (.int (3 : Int32)), .val (.int (128 : Int32)), .val (.int (191 : Int32)), .val (.int vg39), .unset] [(.int (191 : Int32)), (.int vg39)]))
                by_cases hc41 : (191 : Int32) < vg39
                ·
                  refine own_via (fun t k => XS.icmpNo X0.here hx rfl (hb hby own_d1_166) rfl (tlt hc41).2.2.2 k) ?_
                  show own_G p e below _ (s₁.setTop (mkF m 169 #[.val (.ref a1), .val (.int (0 : Int32)), .val (.int p2), .val (.int vg1), .val (.int (3 : Int32)), .val (.int (128 : Int32)), .val (.int (191 : Int32)), .val (.int vg39), .unset] []))
                  refine own_via (fun t k => XS.iconst X0.here hx rfl (hb hby own_d1_169) k) ?_
                  show own_G p e below _ (s₁.setTop (mkF m 170 #[.val (.ref a1), .val (.int (0 : Int32)), .val (.int p2), .val (.int vg1), .val (.int (3 : Int32)), .val (.int (128 : Int32)), .val (.int (191 : Int32)), .val (.int vg39), .unset] [(.int (-1 : Int32))]))
                  exact own_retI X0 hx Bd.returns Bd.notSynchronized (hb hby own_d1_170) ⟨(by show (some (.int (-1 : Int32)) : Option Value) = some (.int (own_Fs0 b0 b1 b2 b3 p2)); subst hvg39; subst hvg1; simp only [own_Fs0, if_neg hc2, if_pos hc3, if_neg hc4, if_neg hc26, if_neg hc32, if_neg hc38, if_neg hc40, if_pos hc41]), rfl, e0⟩ (by decide) (by decide)
                ·
                  refine own_via (fun t k => XS.icmpYes X0.here hx rfl (pc0 := 166) (pc' := 171) rfl (hb hby own_d1_166) rfl (flt hc41).2.2.2 (by decide) (by decide) k) ?_
                  show own_G p e below _ (s₁.setTop (mkF m 171 #[.val (.ref a1), .val (.int (0 : Int32)), .val (.int p2), .val (.int vg1), .val (.int (3 : Int32)), .val (.int (128 : Int32)), .val (.int (191 : Int32)), .val (.int vg39), .unset] []))
                  refine own_via (fun t k => XS.iloadN X0.here hx rfl (hb hby own_d1_171) rfl k) ?_
                  show own_G p e below _ (s₁.setTop (mkF m 172 #[.val (.ref a1), .val (.int (0 : Int32)), .val (.int p2), .val (.int vg1), .val (.int (3 : Int32)), .val (.int (128 : Int32)), .val (.int (191 : Int32)), .val (.int vg39), .unset] [(.int (0 : Int32))]))
                  refine own_via (fun t k => XS.iconst X0.here hx rfl (hb hby own_d1_172) k) ?_
                  show own_G p e below _ (s₁.setTop (mkF m 173 #[.val (.ref a1), .val (.int (0 : Int32)), .val (.int p2), .val (.int vg1), .val (.int (3 : Int32)), .val (.int (128 : Int32)), .val (.int (191 : Int32)), .val (.int vg39), .unset] [(.int (2 : Int32)), (.int (0 : Int32))]))
                  refine own_via (fun t k => XS.iadd X0.here hx rfl (hb hby own_d1_173) rfl k) ?_
                  show own_G p e below _ (s₁.setTop (mkF m 174 #[.val (.ref a1), .val (.int (0 : Int32)), .val (.int p2), .val (.int vg1), .val (.int (3 : Int32)), .val (.int (128 : Int32)), .val (.int (191 : Int32)), .val (.int vg39), .unset] [(.int (2 : Int32))]))
                  refine own_via (fun t k => XS.istore X0.here hx rfl (hb hby own_d1_174) rfl (l' := #[.val (.ref a1), .val (.int (0 : Int32)), .val (.int p2), .val (.int vg1), .val (.int (3 : Int32)), .val (.int (128 : Int32)), .val (.int (191 : Int32)), .val (.int vg39), .val (.int (2 : Int32))]) rfl k) ?_
                  show own_G p e below _ (s₁.setTop (mkF m 176 #[.val (.ref a1), .val (.int (0 : Int32)), .val (.int p2), .val (.int vg1), .val (.int (3 : Int32)), .val (.int (128 : Int32)), .val (.int (191 : Int32)), .val (.int vg39), .val (.int (2 : Int32))] []))
                  refine own_via (fun t k => XS.iload X0.here hx rfl (hb hby own_d1_176) rfl k) ?_
                  show own_G p e below _ (s₁.setTop (mkF m 178 #[.val (.ref a1), .val (.int (0 : Int32)), .val (.int p2), .val (.int vg1), .val (.int (3 : Int32)), .val (.int (128 : Int32)), .val (.int (191 : Int32)), .val (.int vg39), .val (.int (2 : Int32))] [(.int (2 : Int32))]))
                  refine own_via (fun t k => XS.iloadN X0.here hx rfl (hb hby own_d1_178) rfl k) ?_
                  show own_G p e below _ (s₁.setTop (mkF m 179 #[.val (.ref a1), .val (.int (0 : Int32)), .val (.int p2), .val (.int vg1), .val (.int (3 : Int32)), .val (.int (128 : Int32)), .val (.int (191 : Int32)), .val (.int vg39), .val (.int (2 : Int32))] [(.int (0 : Int32)), (.int (2 : Int32))]))
                  refine own_via (fun t k => XS.iload X0.here hx rfl (hb hby own_d1_179) rfl k) ?_
                  show own_G p e below _ (s₁.setTop (mkF m 181 #[.val (.ref a1), .val (.int (0 : Int32)), .val (.int p2), .val (.int vg1), .val (.int (3 : Int32)), .val (.int (128 : Int32)), .val (.int (191 : Int32)), .val (.int vg39), .val (.int (2 : Int32))] [(.int (3 : Int32)), (.int (0 : Int32)), (.int (2 : Int32))]))
                  refine own_via (fun t k => XS.iadd X0.here hx rfl (hb hby own_d1_181) rfl k) ?_
                  show own_G p e below _ (s₁.setTop (mkF m 182 #[.val (.ref a1), .val (.int (0 : Int32)), .val (.int p2), .val (.int vg1), .val (.int (3 : Int32)), .val (.int (128 : Int32)), .val (.int (191 : Int32)), .val (.int vg39), .val (.int (2 : Int32))] [(.int (3 : Int32)), (.int (2 : Int32))]))
                  refine own_via (fun t k => XS.icmpNo X0.here hx rfl (hb hby own_d1_182) rfl (tlt (by decide : (2 : Int32) < (3 : Int32))).2.1 k) ?_
                  show own_G p e below _ (s₁.setTop (mkF m 185 #[.val (.ref a1), .val (.int (0 : Int32)), .val (.int p2), .val (.int vg1), .val (.int (3 : Int32)), .val (.int (128 : Int32)), .val (.int (191 : Int32)), .val (.int vg39), .val (.int (2 : Int32))] []))
                  refine own_via (fun t k => XS.aloadN X0.here hx rfl (hb hby own_d1_185) rfl rfl k) ?_
                  show own_G p e below _ (s₁.setTop (mkF m 186 #[.val (.ref a1), .val (.int (0 : Int32)), .val (.int p2), .val (.int vg1), .val (.int (3 : Int32)), .val (.int (128 : Int32)), .val (.int (191 : Int32)), .val (.int vg39), .val (.int (2 : Int32))] [(.ref a1)]))
                  refine own_via (fun t k => XS.iload X0.here hx rfl (hb hby own_d1_186) rfl k) ?_
                  show own_G p e below _ (s₁.setTop (mkF m 188 #[.val (.ref a1), .val (.int (0 : Int32)), .val (.int p2), .val (.int vg1), .val (.int (3 : Int32)), .val (.int (128 : Int32)), .val (.int (191 : Int32)), .val (.int vg39), .val (.int (2 : Int32))] [(.int (2 : Int32)), (.ref a1)]))
                  refine own_via (own_ldB X0 hx hZ e0 i_V0 (j := (2 : Int32)) ⟨by decide, by decide⟩ (v := (.int b2)) rfl (pc := 188) (Ls := #[.val (.ref a1), .val (.int (0 : Int32)), .val (.int p2), .val (.int vg1), .val (.int (3 : Int32)), .val (.int (128 : Int32)), .val (.int (191 : Int32)), .val (.int vg39), .val (.int (2 : Int32))]) (rest := []) (hb hby own_d1_188)) ?_
                  show own_G p e below _ (s₁.setTop (mkF m 189 #[.val (.ref a1), .val (.int (0 : Int32)), .val (.int p2), .val (.int vg1), .val (.int (3 : Int32)), .val (.int (128 : Int32)), .val (.int (191 : Int32)), .val (.int vg39), .val (.int (2 : Int32))] [(.int b2)]))
                  refine own_via (fun t k => XS.sipush X0.here hx rfl (hb hby own_d1_189) k) ?_
                  show own_G p e below _ (s₁.setTop (mkF m 192 #[.val (.ref a1), .val (.int (0 : Int32)), .val (.int p2), .val (.int vg1), .val (.int (3 : Int32)), .val (.int (128 : Int32)), .val (.int (191 : Int32)), .val (.int vg39), .val (.int (2 : Int32))] [(.int (192 : Int32)), (.int b2)]))
                  refine own_via (fun t k => XS.iand X0.here hx rfl (hb hby own_d1_192) rfl k) ?_
                  show own_G p e below _ (s₁.setTop (mkF m 193 #[.val (.ref a1), .val (.int (0 : Int32)), .val (.int p2), .val (.int vg1), .val (.int (3 : Int32)), .val (.int (128 : Int32)), .val (.int (191 : Int32)), .val (.int vg39), .val (.int (2 : Int32))] [(.int (b2 &&& (192 : Int32)))]))
                  refine own_via (fun t k => XS.sipush X0.here hx rfl (hb hby own_d1_193) k) ?_
                  show own_G p e below _ (s₁.setTop (mkF m 196 #[.val (.ref a1), .val (.int (0 : Int32)), .val (.int p2), .val (.int vg1), .val (.int (3 : Int32)), .val (.int (128 : Int32)), .val (.int (191 : Int32)), .val (.int vg39), .val (.int (2 : Int32))] [(.int (128 : Int32)), (.int (b2 &&& (192 : Int32)))]))
                  by_cases hc42 : (b2 &&& (192 : Int32)) = (128 : Int32)
                  ·
                    refine own_via (fun t k => XS.icmpYes X0.here hx rfl (pc0 := 196) (pc' := 201) rfl (hb hby own_d1_196) rfl (teq hc42).1 (by decide) (by decide) k) ?_
                    show own_G p e below _ (s₁.setTop (mkF m 201 #[.val (.ref a1), .val (.int (0 : Int32)), .val (.int p2), .val (.int vg1), .val (.int (3 : Int32)), .val (.int (128 : Int32)), .val (.int (191 : Int32)), .val (.int vg39), .val (.int (2 : Int32))] []))
                    refine own_via (fun t k => XS.iinc X0.here hx rfl (hb hby own_d1_201) rfl (l' := #[.val (.ref a1), .val (.int (0 : Int32)), .val (.int p2), .val (.int vg1), .val (.int (3 : Int32)), .val (.int (128 : Int32)), .val (.int (191 : Int32)), .val (.int vg39), .val (.int (3 : Int32))]) rfl k) ?_
                    show own_G p e below _ (s₁.setTop (mkF m 204 #[.val (.ref a1), .val (.int (0 : Int32)), .val (.int p2), .val (.int vg1), .val (.int (3 : Int32)), .val (.int (128 : Int32)), .val (.int (191 : Int32)), .val (.int vg39), .val (.int (3 : Int32))] []))
                    refine own_via (fun t k => XS.goto X0.here hx rfl (pc0 := 204) (pc' := 176) rfl (hb hby own_d1_204) (by decide) (by decide) k) ?_
                    show own_G p e below _ (s₁.setTop (mkF m 176 #[.val (.ref a1), .val (.int (0 : Int32)), .val (.int p2), .val (.int vg1), .val (.int (3 : Int32)), .val (.int (128 : Int32)), .val (.int (191 : Int32)), .val (.int vg39), .val (.int (3 : Int32))] []))
                    refine own_via (fun t k => XS.iload X0.here hx rfl (hb hby own_d1_176) rfl k) ?_
                    show own_G p e below _ (s₁.setTop (mkF m 178 #[.val (.ref a1), .val (.int (0 : Int32)), .val (.int p2), .val (.int vg1), .val (.int (3 : Int32)), .val (.int (128 : Int32)), .val (.int (191 : Int32)), .val (.int vg39), .val (.int (3 : Int32))] [(.int (3 : Int32))]))
                    refine own_via (fun t k => XS.iloadN X0.here hx rfl (hb hby own_d1_178) rfl k) ?_
                    show own_G p e below _ (s₁.setTop (mkF m 179 #[.val (.ref a1), .val (.int (0 : Int32)), .val (.int p2), .val (.int vg1), .val (.int (3 : Int32)), .val (.int (128 : Int32)), .val (.int (191 : Int32)), .val (.int vg39), .val (.int (3 : Int32))] [(.int (0 : Int32)), (.int (3 : Int32))]))
                    refine own_via (fun t k => XS.iload X0.here hx rfl (hb hby own_d1_179) rfl k) ?_
                    show own_G p e below _ (s₁.setTop (mkF m 181 #[.val (.ref a1), .val (.int (0 : Int32)), .val (.int p2), .val (.int vg1), .val (.int (3 : Int32)), .val (.int (128 : Int32)), .val (.int (191 : Int32)), .val (.int vg39), .val (.int (3 : Int32))] [(.int (3 : Int32)), (.int (0 : Int32)), (.int (3 : Int32))]))
                    refine own_via (fun t k => XS.iadd X0.here hx rfl (hb hby own_d1_181) rfl k) ?_
                    show own_G p e below _ (s₁.setTop (mkF m 182 #[.val (.ref a1), .val (.int (0 : Int32)), .val (.int p2), .val (.int vg1), .val (.int (3 : Int32)), .val (.int (128 : Int32)), .val (.int (191 : Int32)), .val (.int vg39), .val (.int (3 : Int32))] [(.int (3 : Int32)), (.int (3 : Int32))]))
                    refine own_via (fun t k => XS.icmpYes X0.here hx rfl (pc0 := 182) (pc' := 207) rfl (hb hby own_d1_182) rfl (flt (by decide : ¬ ((3 : Int32) < (3 : Int32)))).2.1 (by decide) (by decide) k) ?_
                    show own_G p e below _ (s₁.setTop (mkF m 207 #[.val (.ref a1), .val (.int (0 : Int32)), .val (.int p2), .val (.int vg1), .val (.int (3 : Int32)), .val (.int (128 : Int32)), .val (.int (191 : Int32)), .val (.int vg39), .val (.int (3 : Int32))] []))
                    refine own_via (fun t k => XS.iload X0.here hx rfl (hb hby own_d1_207) rfl k) ?_
                    show own_G p e below _ (s₁.setTop (mkF m 209 #[.val (.ref a1), .val (.int (0 : Int32)), .val (.int p2), .val (.int vg1), .val (.int (3 : Int32)), .val (.int (128 : Int32)), .val (.int (191 : Int32)), .val (.int vg39), .val (.int (3 : Int32))] [(.int (3 : Int32))]))
                    exact own_retI X0 hx Bd.returns Bd.notSynchronized (hb hby own_d1_209) ⟨(by show (some (.int (3 : Int32)) : Option Value) = some (.int (own_Fs0 b0 b1 b2 b3 p2)); subst hvg39; subst hvg1; simp only [own_Fs0, if_neg hc2, if_pos hc3, if_neg hc4, if_neg hc26, if_neg hc32, if_neg hc38, if_neg hc40, if_neg hc41, if_pos hc42]), rfl, e0⟩ (by decide) (by decide)
                  ·
                    refine own_via (fun t k => XS.icmpNo X0.here hx rfl (hb hby own_d1_196) rfl (feq hc42).1 k) ?_
                    show own_G p e below _ (s₁.setTop (mkF m 199 #[.val (.ref a1), .val (.int (0 : Int32)), .val (.int p2), .val (.int vg1), .val (.int (3 : Int32)), .val (.int (128 : Int32)), .val (.int (191 : Int32)), .val (.int vg39), .val (.int (2 : Int32))] []))
                    refine own_via (fun t k => XS.iconst X0.here hx rfl (hb hby own_d1_199) k) ?_
                    show own_G p e below _ (s₁.setTop (mkF m 200 #[.val (.ref a1), .val (.int (0 : Int32)), .val (.int p2), .val (.int vg1), .val (.int (3 : Int32)), .val (.int (128 : Int32)), .val (.int (191 : Int32)), .val (.int vg39), .val (.int (2 : Int32))] [(.int (-1 : Int32))]))
                    exact own_retI X0 hx Bd.returns Bd.notSynchronized (hb hby own_d1_200) ⟨(by show (some (.int (-1 : Int32)) : Option Value) = some (.int (own_Fs0 b0 b1 b2 b3 p2)); subst hvg39; subst hvg1; simp only [own_Fs0, if_neg hc2, if_pos hc3, if_neg hc4, if_neg hc26, if_neg hc32, if_neg hc38, if_neg hc40, if_neg hc41, if_neg hc42]), rfl, e0⟩ (by decide) (by decide)
    ·
      refine own_via (fun t k => XS.icmpNo X0.here hx rfl (hb hby own_d1_29) rfl (flt hc3).2.2.1 k) ?_
      show own_G p e below _ (s₁.setTop (mkF m 32 #[.val (.ref a1), .val (.int (0 : Int32)), .val (.int p2), .val (.int vg1), .unset, .val (.int (128 : Int32)), .val (.int (191 : Int32)), .unset, .unset] []))
      refine own_via (fun t k => XS.iconst X0.here hx rfl (hb hby own_d1_32) k) ?_
      show own_G p e below _ (s₁.setTop (mkF m 33 #[.val (.ref a1), .val (.int (0 : Int32)), .val (.int p2), .val (.int vg1), .unset, .val (.int (128 : Int32)), .val (.int (191 : Int32)), .unset, .unset] [(.int (2 : Int32))]))
      refine own_via (fun t k => XS.istore X0.here hx rfl (hb hby own_d1_33) rfl (l' := #[.val (.ref a1), .val (.int (0 : Int32)), .val (.int p2), .val (.int vg1), .val (.int (2 : Int32)), .val (.int (128 : Int32)), .val (.int (191 : Int32)), .unset, .unset]) rfl k) ?_
      show own_G p e below _ (s₁.setTop (mkF m 35 #[.val (.ref a1), .val (.int (0 : Int32)), .val (.int p2), .val (.int vg1), .val (.int (2 : Int32)), .val (.int (128 : Int32)), .val (.int (191 : Int32)), .unset, .unset] []))
      refine own_via (fun t k => XS.goto X0.here hx rfl (pc0 := 35) (pc' := 134) rfl (hb hby own_d1_35) (by decide) (by decide) k) ?_
      show own_G p e below _ (s₁.setTop (mkF m 134 #[.val (.ref a1), .val (.int (0 : Int32)), .val (.int p2), .val (.int vg1), .val (.int (2 : Int32)), .val (.int (128 : Int32)), .val (.int (191 : Int32)), .unset, .unset] []))
      refine own_via (fun t k => XS.iloadN X0.here hx rfl (hb hby own_d1_134) rfl k) ?_
      show own_G p e below _ (s₁.setTop (mkF m 135 #[.val (.ref a1), .val (.int (0 : Int32)), .val (.int p2), .val (.int vg1), .val (.int (2 : Int32)), .val (.int (128 : Int32)), .val (.int (191 : Int32)), .unset, .unset] [(.int p2)]))
      refine own_via (fun t k => XS.iloadN X0.here hx rfl (hb hby own_d1_135) rfl k) ?_
      show own_G p e below _ (s₁.setTop (mkF m 136 #[.val (.ref a1), .val (.int (0 : Int32)), .val (.int p2), .val (.int vg1), .val (.int (2 : Int32)), .val (.int (128 : Int32)), .val (.int (191 : Int32)), .unset, .unset] [(.int (0 : Int32)), (.int p2)]))
      refine own_via (fun t k => XS.isub X0.here hx rfl (hb hby own_d1_136) rfl k) ?_
      show own_G p e below _ (s₁.setTop (mkF m 137 #[.val (.ref a1), .val (.int (0 : Int32)), .val (.int p2), .val (.int vg1), .val (.int (2 : Int32)), .val (.int (128 : Int32)), .val (.int (191 : Int32)), .unset, .unset] [(.int (p2 - (0 : Int32)))]))
      refine own_via (fun t k => XS.iload X0.here hx rfl (hb hby own_d1_137) rfl k) ?_
      show own_G p e below _ (s₁.setTop (mkF m 139 #[.val (.ref a1), .val (.int (0 : Int32)), .val (.int p2), .val (.int vg1), .val (.int (2 : Int32)), .val (.int (128 : Int32)), .val (.int (191 : Int32)), .unset, .unset] [(.int (2 : Int32)), (.int (p2 - (0 : Int32)))]))
      by_cases hc43 : (p2 - (0 : Int32)) < (2 : Int32)
      ·
        refine own_via (fun t k => XS.icmpNo X0.here hx rfl (hb hby own_d1_139) rfl (tlt hc43).2.1 k) ?_
        show own_G p e below _ (s₁.setTop (mkF m 142 #[.val (.ref a1), .val (.int (0 : Int32)), .val (.int p2), .val (.int vg1), .val (.int (2 : Int32)), .val (.int (128 : Int32)), .val (.int (191 : Int32)), .unset, .unset] []))
        refine own_via (fun t k => XS.iconst X0.here hx rfl (hb hby own_d1_142) k) ?_
        show own_G p e below _ (s₁.setTop (mkF m 143 #[.val (.ref a1), .val (.int (0 : Int32)), .val (.int p2), .val (.int vg1), .val (.int (2 : Int32)), .val (.int (128 : Int32)), .val (.int (191 : Int32)), .unset, .unset] [(.int (-1 : Int32))]))
        exact own_retI X0 hx Bd.returns Bd.notSynchronized (hb hby own_d1_143) ⟨(by show (some (.int (-1 : Int32)) : Option Value) = some (.int (own_Fs0 b0 b1 b2 b3 p2)); subst hvg1; simp only [own_Fs0, if_neg hc2, if_neg hc3, if_pos hc43]), rfl, e0⟩ (by decide) (by decide)
      ·
        refine own_via (fun t k => XS.icmpYes X0.here hx rfl (pc0 := 139) (pc' := 144) rfl (hb hby own_d1_139) rfl (flt hc43).2.1 (by decide) (by decide) k) ?_
        show own_G p e below _ (s₁.setTop (mkF m 144 #[.val (.ref a1), .val (.int (0 : Int32)), .val (.int p2), .val (.int vg1), .val (.int (2 : Int32)), .val (.int (128 : Int32)), .val (.int (191 : Int32)), .unset, .unset] []))
        refine own_via (fun t k => XS.aloadN X0.here hx rfl (hb hby own_d1_144) rfl rfl k) ?_
        show own_G p e below _ (s₁.setTop (mkF m 145 #[.val (.ref a1), .val (.int (0 : Int32)), .val (.int p2), .val (.int vg1), .val (.int (2 : Int32)), .val (.int (128 : Int32)), .val (.int (191 : Int32)), .unset, .unset] [(.ref a1)]))
        refine own_via (fun t k => XS.iloadN X0.here hx rfl (hb hby own_d1_145) rfl k) ?_
        show own_G p e below _ (s₁.setTop (mkF m 146 #[.val (.ref a1), .val (.int (0 : Int32)), .val (.int p2), .val (.int vg1), .val (.int (2 : Int32)), .val (.int (128 : Int32)), .val (.int (191 : Int32)), .unset, .unset] [(.int (0 : Int32)), (.ref a1)]))
        refine own_via (fun t k => XS.iconst X0.here hx rfl (hb hby own_d1_146) k) ?_
        show own_G p e below _ (s₁.setTop (mkF m 147 #[.val (.ref a1), .val (.int (0 : Int32)), .val (.int p2), .val (.int vg1), .val (.int (2 : Int32)), .val (.int (128 : Int32)), .val (.int (191 : Int32)), .unset, .unset] [(.int (1 : Int32)), (.int (0 : Int32)), (.ref a1)]))
        refine own_via (fun t k => XS.iadd X0.here hx rfl (hb hby own_d1_147) rfl k) ?_
        show own_G p e below _ (s₁.setTop (mkF m 148 #[.val (.ref a1), .val (.int (0 : Int32)), .val (.int p2), .val (.int vg1), .val (.int (2 : Int32)), .val (.int (128 : Int32)), .val (.int (191 : Int32)), .unset, .unset] [(.int (1 : Int32)), (.ref a1)]))
        refine own_via (own_ldB X0 hx hZ e0 i_V0 (j := (1 : Int32)) ⟨by decide, by decide⟩ (v := (.int b1)) rfl (pc := 148) (Ls := #[.val (.ref a1), .val (.int (0 : Int32)), .val (.int p2), .val (.int vg1), .val (.int (2 : Int32)), .val (.int (128 : Int32)), .val (.int (191 : Int32)), .unset, .unset]) (rest := []) (hb hby own_d1_148)) ?_
        show own_G p e below _ (s₁.setTop (mkF m 149 #[.val (.ref a1), .val (.int (0 : Int32)), .val (.int p2), .val (.int vg1), .val (.int (2 : Int32)), .val (.int (128 : Int32)), .val (.int (191 : Int32)), .unset, .unset] [(.int b1)]))
        refine own_via (fun t k => XS.sipush X0.here hx rfl (hb hby own_d1_149) k) ?_
        show own_G p e below _ (s₁.setTop (mkF m 152 #[.val (.ref a1), .val (.int (0 : Int32)), .val (.int p2), .val (.int vg1), .val (.int (2 : Int32)), .val (.int (128 : Int32)), .val (.int (191 : Int32)), .unset, .unset] [(.int (255 : Int32)), (.int b1)]))
        refine own_via (fun t k => XS.iand X0.here hx rfl (hb hby own_d1_152) rfl k) ?_
        show own_G p e below _ (s₁.setTop (mkF m 153 #[.val (.ref a1), .val (.int (0 : Int32)), .val (.int p2), .val (.int vg1), .val (.int (2 : Int32)), .val (.int (128 : Int32)), .val (.int (191 : Int32)), .unset, .unset] [(.int (b1 &&& (255 : Int32)))]))
        generalize hvg44 : (b1 &&& (255 : Int32)) = vg44
        show own_G p e below _ (s₁.setTop (mkF m 153 #[.val (.ref a1), .val (.int (0 : Int32)), .val (.int p2), .val (.int vg1), .val (.int (2 : Int32)), .val (.int (128 : Int32)), .val (.int (191 : Int32)), .unset, .unset] [(.int vg44)]))
        refine own_via (fun t k => XS.istore X0.here hx rfl (hb hby own_d1_153) rfl (l' := #[.val (.ref a1), .val (.int (0 : Int32)), .val (.int p2), .val (.int vg1), .val (.int (2 : Int32)), .val (.int (128 : Int32)), .val (.int (191 : Int32)), .val (.int vg44), .unset]) rfl k) ?_
        show own_G p e below _ (s₁.setTop (mkF m 155 #[.val (.ref a1), .val (.int (0 : Int32)), .val (.int p2), .val (.int vg1), .val (.int (2 : Int32)), .val (.int (128 : Int32)), .val (.int (191 : Int32)), .val (.int vg44), .unset] []))
        refine own_via (fun t k => XS.iload X0.here hx rfl (hb hby own_d1_155) rfl k) ?_
        show own_G p e below _ (s₁.setTop (mkF m 157 #[.val (.ref a1), .val (.int (0 : Int32)), .val (.int p2), .val (.int vg1), .val (.int (2 : Int32)), .val (.int (128 : Int32)), .val (.int (191 : Int32)), .val (.int vg44), .unset] [(.int vg44)]))
        refine own_via (fun t k => XS.iload X0.here hx rfl (hb hby own_d1_157) rfl k) ?_
        show own_G p e below _ (s₁.setTop (mkF m 159 #[.val (.ref a1), .val (.int (0 : Int32)), .val (.int p2), .val (.int vg1), .val (.int (2 : Int32)), .val (.int (128 : Int32)), .val (.int (191 : Int32)), .val (.int vg44), .unset] [(.int (128 : Int32)), (.int vg44)]))
        by_cases hc45 : vg44 < (128 : Int32)
        ·
          refine own_via (fun t k => XS.icmpYes X0.here hx rfl (pc0 := 159) (pc' := 169) rfl (hb hby own_d1_159) rfl (tlt hc45).1 (by decide) (by decide) k) ?_
          show own_G p e below _ (s₁.setTop (mkF m 169 #[.val (.ref a1), .val (.int (0 : Int32)), .val (.int p2), .val (.int vg1), .val (.int (2 : Int32)), .val (.int (128 : Int32)), .val (.int (191 : Int32)), .val (.int vg44), .unset] []))
          refine own_via (fun t k => XS.iconst X0.here hx rfl (hb hby own_d1_169) k) ?_
          show own_G p e below _ (s₁.setTop (mkF m 170 #[.val (.ref a1), .val (.int (0 : Int32)), .val (.int p2), .val (.int vg1), .val (.int (2 : Int32)), .val (.int (128 : Int32)), .val (.int (191 : Int32)), .val (.int vg44), .unset] [(.int (-1 : Int32))]))
          exact own_retI X0 hx Bd.returns Bd.notSynchronized (hb hby own_d1_170) ⟨(by show (some (.int (-1 : Int32)) : Option Value) = some (.int (own_Fs0 b0 b1 b2 b3 p2)); subst hvg44; subst hvg1; simp only [own_Fs0, if_neg hc2, if_neg hc3, if_neg hc43, if_pos hc45]), rfl, e0⟩ (by decide) (by decide)
        ·
          refine own_via (fun t k => XS.icmpNo X0.here hx rfl (hb hby own_d1_159) rfl (flt hc45).1 k) ?_
          show own_G p e below _ (s₁.setTop (mkF m 162 #[.val (.ref a1), .val (.int (0 : Int32)), .val (.int p2), .val (.int vg1), .val (.int (2 : Int32)), .val (.int (128 : Int32)), .val (.int (191 : Int32)), .val (.int vg44), .unset] []))
          refine own_via (fun t k => XS.iload X0.here hx rfl (hb hby own_d1_162) rfl k) ?_
          show own_G p e below _ (s₁.setTop (mkF m 164 #[.val (.ref a1), .val (.int (0 : Int32)), .val (.int p2), .val (.int vg1), .val (.int (2 : Int32)), .val (.int (128 : Int32)), .val (.int (191 : Int32)), .val (.int vg44), .unset] [(.int vg44)]))
          refine own_via (fun t k => XS.iload X0.here hx rfl (hb hby own_d1_164) rfl k) ?_
          show own_G p e below _ (s₁.setTop (mkF m 166 #[.val (.ref a1), .val (.int (0 : Int32)), .val (.int p2), .val (.int vg1), .val (.int (2 : Int32)), .val (.int (128 : Int32)), .val (.int (191 : Int32)), .val (.int vg44), .unset] [(.int (191 : Int32)), (.int vg44)]))
          by_cases hc46 : (191 : Int32) < vg44
          ·
            refine own_via (fun t k => XS.icmpNo X0.here hx rfl (hb hby own_d1_166) rfl (tlt hc46).2.2.2 k) ?_
            show own_G p e below _ (s₁.setTop (mkF m 169 #[.val (.ref a1), .val (.int (0 : Int32)), .val (.int p2), .val (.int vg1), .val (.int (2 : Int32)), .val (.int (128 : Int32)), .val (.int (191 : Int32)), .val (.int vg44), .unset] []))
            refine own_via (fun t k => XS.iconst X0.here hx rfl (hb hby own_d1_169) k) ?_
            show own_G p e below _ (s₁.setTop (mkF m 170 #[.val (.ref a1), .val (.int (0 : Int32)), .val (.int p2), .val (.int vg1), .val (.int (2 : Int32)), .val (.int (128 : Int32)), .val (.int (191 : Int32)), .val (.int vg44), .unset] [(.int (-1 : Int32))]))
            exact own_retI X0 hx Bd.returns Bd.notSynchronized (hb hby own_d1_170) ⟨(by show (some (.int (-1 : Int32)) : Option Value) = some (.int (own_Fs0 b0 b1 b2 b3 p2)); subst hvg44; subst hvg1; simp only [own_Fs0, if_neg hc2, if_neg hc3, if_neg hc43, if_neg hc45, if_pos hc46]), rfl, e0⟩ (by decide) (by decide)
          ·
            refine own_via (fun t k => XS.icmpYes X0.here hx rfl (pc0 := 166) (pc' := 171) rfl (hb hby own_d1_166) rfl (flt hc46).2.2.2 (by decide) (by decide) k) ?_
            show own_G p e below _ (s₁.setTop (mkF m 171 #[.val (.ref a1), .val (.int (0 : Int32)), .val (.int p2), .val (.int vg1), .val (.int (2 : Int32)), .val (.int (128 : Int32)), .val (.int (191 : Int32)), .val (.int vg44), .unset] []))
            refine own_via (fun t k => XS.iloadN X0.here hx rfl (hb hby own_d1_171) rfl k) ?_
            show own_G p e below _ (s₁.setTop (mkF m 172 #[.val (.ref a1), .val (.int (0 : Int32)), .val (.int p2), .val (.int vg1), .val (.int (2 : Int32)), .val (.int (128 : Int32)), .val (.int (191 : Int32)), .val (.int vg44), .unset] [(.int (0 : Int32))]))
            refine own_via (fun t k => XS.iconst X0.here hx rfl (hb hby own_d1_172) k) ?_
            show own_G p e below _ (s₁.setTop (mkF m 173 #[.val (.ref a1), .val (.int (0 : Int32)), .val (.int p2), .val (.int vg1), .val (.int (2 : Int32)), .val (.int (128 : Int32)), .val (.int (191 : Int32)), .val (.int vg44), .unset] [(.int (2 : Int32)), (.int (0 : Int32))]))
            refine own_via (fun t k => XS.iadd X0.here hx rfl (hb hby own_d1_173) rfl k) ?_
            show own_G p e below _ (s₁.setTop (mkF m 174 #[.val (.ref a1), .val (.int (0 : Int32)), .val (.int p2), .val (.int vg1), .val (.int (2 : Int32)), .val (.int (128 : Int32)), .val (.int (191 : Int32)), .val (.int vg44), .unset] [(.int (2 : Int32))]))
            refine own_via (fun t k => XS.istore X0.here hx rfl (hb hby own_d1_174) rfl (l' := #[.val (.ref a1), .val (.int (0 : Int32)), .val (.int p2), .val (.int vg1), .val (.int (2 : Int32)), .val (.int (128 : Int32)), .val (.int (191 : Int32)), .val (.int vg44), .val (.int (2 : Int32))]) rfl k) ?_
            show own_G p e below _ (s₁.setTop (mkF m 176 #[.val (.ref a1), .val (.int (0 : Int32)), .val (.int p2), .val (.int vg1), .val (.int (2 : Int32)), .val (.int (128 : Int32)), .val (.int (191 : Int32)), .val (.int vg44), .val (.int (2 : Int32))] []))
            refine own_via (fun t k => XS.iload X0.here hx rfl (hb hby own_d1_176) rfl k) ?_
            show own_G p e below _ (s₁.setTop (mkF m 178 #[.val (.ref a1), .val (.int (0 : Int32)), .val (.int p2), .val (.int vg1), .val (.int (2 : Int32)), .val (.int (128 : Int32)), .val (.int (191 : Int32)), .val (.int vg44), .val (.int (2 : Int32))] [(.int (2 : Int32))]))
            refine own_via (fun t k => XS.iloadN X0.here hx rfl (hb hby own_d1_178) rfl k) ?_
            show own_G p e below _ (s₁.setTop (mkF m 179 #[.val (.ref a1), .val (.int (0 : Int32)), .val (.int p2), .val (.int vg1), .val (.int (2 : Int32)), .val (.int (128 : Int32)), .val (.int (191 : Int32)), .val (.int vg44), .val (.int (2 : Int32))] [(.int (0 : Int32)), (.int (2 : Int32))]))
            refine own_via (fun t k => XS.iload X0.here hx rfl (hb hby own_d1_179) rfl k) ?_
            show own_G p e below _ (s₁.setTop (mkF m 181 #[.val (.ref a1), .val (.int (0 : Int32)), .val (.int p2), .val (.int vg1), .val (.int (2 : Int32)), .val (.int (128 : Int32)), .val (.int (191 : Int32)), .val (.int vg44), .val (.int (2 : Int32))] [(.int (2 : Int32)), (.int (0 : Int32)), (.int (2 : Int32))]))
            refine own_via (fun t k => XS.iadd X0.here hx rfl (hb hby own_d1_181) rfl k) ?_
            show own_G p e below _ (s₁.setTop (mkF m 182 #[.val (.ref a1), .val (.int (0 : Int32)), .val (.int p2), .val (.int vg1), .val (.int (2 : Int32)), .val (.int (128 : Int32)), .val (.int (191 : Int32)), .val (.int vg44), .val (.int (2 : Int32))] [(.int (2 : Int32)), (.int (2 : Int32))]))
            refine own_via (fun t k => XS.icmpYes X0.here hx rfl (pc0 := 182) (pc' := 207) rfl (hb hby own_d1_182) rfl (flt (by decide : ¬ ((2 : Int32) < (2 : Int32)))).2.1 (by decide) (by decide) k) ?_
            show own_G p e below _ (s₁.setTop (mkF m 207 #[.val (.ref a1), .val (.int (0 : Int32)), .val (.int p2), .val (.int vg1), .val (.int (2 : Int32)), .val (.int (128 : Int32)), .val (.int (191 : Int32)), .val (.int vg44), .val (.int (2 : Int32))] []))
            refine own_via (fun t k => XS.iload X0.here hx rfl (hb hby own_d1_207) rfl k) ?_
            show own_G p e below _ (s₁.setTop (mkF m 209 #[.val (.ref a1), .val (.int (0 : Int32)), .val (.int p2), .val (.int vg1), .val (.int (2 : Int32)), .val (.int (128 : Int32)), .val (.int (191 : Int32)), .val (.int vg44), .val (.int (2 : Int32))] [(.int (2 : Int32))]))
            exact own_retI X0 hx Bd.returns Bd.notSynchronized (hb hby own_d1_209) ⟨(by show (some (.int (2 : Int32)) : Option Value) = some (.int (own_Fs0 b0 b1 b2 b3 p2)); subst hvg44; subst hvg1; simp only [own_Fs0, if_neg hc2, if_neg hc3, if_neg hc43, if_neg hc45, if_neg hc46]), rfl, e0⟩ (by decide) (by decide)
abbrev own_seq1_R : Room := { frames := 0, cells := 0, slots := 0, locals := 0 }
theorem own_seq1_ef (m : MethodId) (a1 : Addr) (p2 : Int32) : entryFrame m #[(.ref a1), (.int (1 : Int32)), (.int p2)] 9 = mkF m 0 #[.val (.ref a1), .val (.int (1 : Int32)), .val (.int p2), .unset, .unset, .unset, .unset, .unset, .unset] [] := by first | (simp [entryFrame, mkF, argsToLocals, Value.category]; done) | rfl
def own_Fs1 (b1 : Int32) (b2 : Int32) (b3 : Int32) (b4 : Int32) (p2 : Int32) : Int32 := (let vg1 : Int32 := (b1 &&& (255 : Int32)); (if vg1 < (194 : Int32) then (-1 : Int32) else (if (223 : Int32) < vg1 then (if (239 : Int32) < vg1 then (if (244 : Int32) < vg1 then (-1 : Int32) else (if vg1 = (240 : Int32) then (if (p2 - (1 : Int32)) < (4 : Int32) then (-1 : Int32) else (let vg8 : Int32 := (b2 &&& (255 : Int32)); (if vg8 < (144 : Int32) then (-1 : Int32) else (if (191 : Int32) < vg8 then (-1 : Int32) else (if (b3 &&& (192 : Int32)) = (128 : Int32) then (if (b4 &&& (192 : Int32)) = (128 : Int32) then (4 : Int32) else (-1 : Int32)) else (-1 : Int32)))))) else (if vg1 = (244 : Int32) then (if (p2 - (1 : Int32)) < (4 : Int32) then (-1 : Int32) else (let vg15 : Int32 := (b2 &&& (255 : Int32)); (if vg15 < (128 : Int32) then (-1 : Int32) else (if (143 : Int32) < vg15 then (-1 : Int32) else (if (b3 &&& (192 : Int32)) = (128 : Int32) then (if (b4 &&& (192 : Int32)) = (128 : Int32) then (4 : Int32) else (-1 : Int32)) else (-1 : Int32)))))) else (if (p2 - (1 : Int32)) < (4 : Int32) then (-1 : Int32) else (let vg21 : Int32 := (b2 &&& (255 : Int32)); (if vg21 < (128 : Int32) then (-1 : Int32) else (if (191 : Int32) < vg21 then (-1 : Int32) else (if (b3 &&& (192 : Int32)) = (128 : Int32) then (if (b4 &&& (192 : Int32)) = (128 : Int32) then (4 : Int32) else (-1 : Int32)) else (-1 : Int32))))))))) else (if vg1 = (224 : Int32) then (if (p2 - (1 : Int32)) < (3 : Int32) then (-1 : Int32) else (let vg28 : Int32 := (b2 &&& (255 : Int32)); (if vg28 < (160 : Int32) then (-1 : Int32) else (if (191 : Int32) < vg28 then (-1 : Int32) else (if (b3 &&& (192 : Int32)) = (128 : Int32) then (3 : Int32) else (-1 : Int32)))))) else (if vg1 = (237 : Int32) then (if (p2 - (1 : Int32)) < (3 : Int32) then (-1 : Int32) else (let vg34 : Int32 := (b2 &&& (255 : Int32)); (if vg34 < (128 : Int32) then (-1 : Int32) else (if (159 : Int32) < vg34 then (-1 : Int32) else (if (b3 &&& (192 : Int32)) = (128 : Int32) then (3 : Int32) else (-1 : Int32)))))) else (if (p2 - (1 : Int32)) < (3 : Int32) then (-1 : Int32) else (let vg39 : Int32 := (b2 &&& (255 : Int32)); (if vg39 < (128 : Int32) then (-1 : Int32) else (if (191 : Int32) < vg39 then (-1 : Int32) else (if (b3 &&& (192 : Int32)) = (128 : Int32) then (3 : Int32) else (-1 : Int32))))))))) else (if (p2 - (1 : Int32)) < (2 : Int32) then (-1 : Int32) else (let vg44 : Int32 := (b2 &&& (255 : Int32)); (if vg44 < (128 : Int32) then (-1 : Int32) else (if (191 : Int32) < vg44 then (-1 : Int32) else (2 : Int32))))))))
set_option maxRecDepth 65536 in
set_option maxHeartbeats 40000000 in
theorem own_seq1 (l : Launch) (Z : State) (a0 : Array Value) (hw : ∀ d ∈ tables_1, d.before a0 Z = true) (ws : List Jvm.Cond) (a1 : Addr) (p2 : Int32) (k0 : ClassId) (b0 : Int32) (b1 : Int32) (b2 : Int32) (b3 : Int32) (b4 : Int32) (b5 : Int32) (h0 : Heap)  (i_V0 : Arv Z h0 a1 k0 .byte (6 : Int32) [(.int b0), (.int b1), (.int b2), (.int b3), (.int b4), (.int b5)] (.int (0 : Int32))) :
    own_C l Z (⟨"com/example/bowerbird/bowerbird/Utf8", "sequenceLength", "([BII)I"⟩ : MethodName) prog_43_method_5_code 9 (some .int) ws own_seq1_R #[(.ref a1), (.int (1 : Int32)), (.int p2)] h0 (own_Q (.int (own_Fs1 b1 b2 b3 b4 p2)) h0) := by
  refine MetFree.of_bodySF own_pn1 hisR ?_
  intro p e s m args below meth c s₁ Bd hml0 hP hK
  obtain ⟨rfl, hZ, hh⟩ := hP
  have hx := Bd.exec
  have hby := Bd.bytes
  have hml : c.maxLocals = 9 := hml0
  have hown : s.vm.findClass "com/example/bowerbird/bowerbird/Utf8" = some m.cls := findClass_of_methodNamed Bd.named
  have hnm := (name_of_methodNamed Bd.named Bd.method).1
  have X0 : Stand p l e own_seq1_R s m #[(.ref a1), (.int (1 : Int32)), (.int p2)] below meth c s₁ [] 0 0 := Stand.of_body Bd
  have e0 : s₁.heap = h0 := by rw [← hh, Bd.state]; rfl
  show own_G p e below (own_P s (own_Q (.int (own_Fs1 b1 b2 b3 b4 p2)) h0) own_seq1_R.cells own_seq1_R.slots) (s₁.setTop (entryFrame m #[(.ref a1), (.int (1 : Int32)), (.int p2)] 9))
  rw [own_seq1_ef m a1 p2]
  show own_G p e below _ (s₁.setTop (mkF m 0 #[.val (.ref a1), .val (.int (1 : Int32)), .val (.int p2), .unset, .unset, .unset, .unset, .unset, .unset] []))
  refine own_via (fun t k => XS.aloadN X0.here hx rfl (hb hby own_d1_0) rfl rfl k) ?_
  show own_G p e below _ (s₁.setTop (mkF m 1 #[.val (.ref a1), .val (.int (1 : Int32)), .val (.int p2), .unset, .unset, .unset, .unset, .unset, .unset] [(.ref a1)]))
  refine own_via (fun t k => XS.iloadN X0.here hx rfl (hb hby own_d1_1) rfl k) ?_
  show own_G p e below _ (s₁.setTop (mkF m 2 #[.val (.ref a1), .val (.int (1 : Int32)), .val (.int p2), .unset, .unset, .unset, .unset, .unset, .unset] [(.int (1 : Int32)), (.ref a1)]))
  refine own_via (own_ldB X0 hx hZ e0 i_V0 (j := (1 : Int32)) ⟨by decide, by decide⟩ (v := (.int b1)) rfl (pc := 2) (Ls := #[.val (.ref a1), .val (.int (1 : Int32)), .val (.int p2), .unset, .unset, .unset, .unset, .unset, .unset]) (rest := []) (hb hby own_d1_2)) ?_
  show own_G p e below _ (s₁.setTop (mkF m 3 #[.val (.ref a1), .val (.int (1 : Int32)), .val (.int p2), .unset, .unset, .unset, .unset, .unset, .unset] [(.int b1)]))
  refine own_via (fun t k => XS.sipush X0.here hx rfl (hb hby own_d1_3) k) ?_
  show own_G p e below _ (s₁.setTop (mkF m 6 #[.val (.ref a1), .val (.int (1 : Int32)), .val (.int p2), .unset, .unset, .unset, .unset, .unset, .unset] [(.int (255 : Int32)), (.int b1)]))
  refine own_via (fun t k => XS.iand X0.here hx rfl (hb hby own_d1_6) rfl k) ?_
  show own_G p e below _ (s₁.setTop (mkF m 7 #[.val (.ref a1), .val (.int (1 : Int32)), .val (.int p2), .unset, .unset, .unset, .unset, .unset, .unset] [(.int (b1 &&& (255 : Int32)))]))
  generalize hvg1 : (b1 &&& (255 : Int32)) = vg1
  show own_G p e below _ (s₁.setTop (mkF m 7 #[.val (.ref a1), .val (.int (1 : Int32)), .val (.int p2), .unset, .unset, .unset, .unset, .unset, .unset] [(.int vg1)]))
  refine own_via (fun t k => XS.istoreN X0.here hx rfl (hb hby own_d1_7) rfl (l' := #[.val (.ref a1), .val (.int (1 : Int32)), .val (.int p2), .val (.int vg1), .unset, .unset, .unset, .unset, .unset]) rfl k) ?_
  show own_G p e below _ (s₁.setTop (mkF m 8 #[.val (.ref a1), .val (.int (1 : Int32)), .val (.int p2), .val (.int vg1), .unset, .unset, .unset, .unset, .unset] []))
  refine own_via (fun t k => XS.sipush X0.here hx rfl (hb hby own_d1_8) k) ?_
  show own_G p e below _ (s₁.setTop (mkF m 11 #[.val (.ref a1), .val (.int (1 : Int32)), .val (.int p2), .val (.int vg1), .unset, .unset, .unset, .unset, .unset] [(.int (128 : Int32))]))
  refine own_via (fun t k => XS.istore X0.here hx rfl (hb hby own_d1_11) rfl (l' := #[.val (.ref a1), .val (.int (1 : Int32)), .val (.int p2), .val (.int vg1), .unset, .val (.int (128 : Int32)), .unset, .unset, .unset]) rfl k) ?_
  show own_G p e below _ (s₁.setTop (mkF m 13 #[.val (.ref a1), .val (.int (1 : Int32)), .val (.int p2), .val (.int vg1), .unset, .val (.int (128 : Int32)), .unset, .unset, .unset] []))
  refine own_via (fun t k => XS.sipush X0.here hx rfl (hb hby own_d1_13) k) ?_
  show own_G p e below _ (s₁.setTop (mkF m 16 #[.val (.ref a1), .val (.int (1 : Int32)), .val (.int p2), .val (.int vg1), .unset, .val (.int (128 : Int32)), .unset, .unset, .unset] [(.int (191 : Int32))]))
  refine own_via (fun t k => XS.istore X0.here hx rfl (hb hby own_d1_16) rfl (l' := #[.val (.ref a1), .val (.int (1 : Int32)), .val (.int p2), .val (.int vg1), .unset, .val (.int (128 : Int32)), .val (.int (191 : Int32)), .unset, .unset]) rfl k) ?_
  show own_G p e below _ (s₁.setTop (mkF m 18 #[.val (.ref a1), .val (.int (1 : Int32)), .val (.int p2), .val (.int vg1), .unset, .val (.int (128 : Int32)), .val (.int (191 : Int32)), .unset, .unset] []))
  refine own_via (fun t k => XS.iloadN X0.here hx rfl (hb hby own_d1_18) rfl k) ?_
  show own_G p e below _ (s₁.setTop (mkF m 19 #[.val (.ref a1), .val (.int (1 : Int32)), .val (.int p2), .val (.int vg1), .unset, .val (.int (128 : Int32)), .val (.int (191 : Int32)), .unset, .unset] [(.int vg1)]))
  refine own_via (fun t k => XS.sipush X0.here hx rfl (hb hby own_d1_19) k) ?_
  show own_G p e below _ (s₁.setTop (mkF m 22 #[.val (.ref a1), .val (.int (1 : Int32)), .val (.int p2), .val (.int vg1), .unset, .val (.int (128 : Int32)), .val (.int (191 : Int32)), .unset, .unset] [(.int (194 : Int32)), (.int vg1)]))
  by_cases hc2 : vg1 < (194 : Int32)
  ·
    refine own_via (fun t k => XS.icmpYes X0.here hx rfl (pc0 := 22) (pc' := 38) rfl (hb hby own_d1_22) rfl (tlt hc2).1 (by decide) (by decide) k) ?_
    show own_G p e below _ (s₁.setTop (mkF m 38 #[.val (.ref a1), .val (.int (1 : Int32)), .val (.int p2), .val (.int vg1), .unset, .val (.int (128 : Int32)), .val (.int (191 : Int32)), .unset, .unset] []))
    refine own_via (fun t k => XS.iloadN X0.here hx rfl (hb hby own_d1_38) rfl k) ?_
    show own_G p e below _ (s₁.setTop (mkF m 39 #[.val (.ref a1), .val (.int (1 : Int32)), .val (.int p2), .val (.int vg1), .unset, .val (.int (128 : Int32)), .val (.int (191 : Int32)), .unset, .unset] [(.int vg1)]))
    refine own_via (fun t k => XS.sipush X0.here hx rfl (hb hby own_d1_39) k) ?_
    show own_G p e below _ (s₁.setTop (mkF m 42 #[.val (.ref a1), .val (.int (1 : Int32)), .val (.int p2), .val (.int vg1), .unset, .val (.int (128 : Int32)), .val (.int (191 : Int32)), .unset, .unset] [(.int (224 : Int32)), (.int vg1)]))
    refine own_via (fun t k => XS.icmpYes X0.here hx rfl (pc0 := 42) (pc' := 85) rfl (hb hby own_d1_42) rfl (tlt (own_b5 (own_b1 hc2) (by decide))).1 (by decide) (by decide) k) ?_
    show own_G p e below _ (s₁.setTop (mkF m 85 #[.val (.ref a1), .val (.int (1 : Int32)), .val (.int p2), .val (.int vg1), .unset, .val (.int (128 : Int32)), .val (.int (191 : Int32)), .unset, .unset] []))
    refine own_via (fun t k => XS.iloadN X0.here hx rfl (hb hby own_d1_85) rfl k) ?_
    show own_G p e below _ (s₁.setTop (mkF m 86 #[.val (.ref a1), .val (.int (1 : Int32)), .val (.int p2), .val (.int vg1), .unset, .val (.int (128 : Int32)), .val (.int (191 : Int32)), .unset, .unset] [(.int vg1)]))
    refine own_via (fun t k => XS.sipush X0.here hx rfl (hb hby own_d1_86) k) ?_
    show own_G p e below _ (s₁.setTop (mkF m 89 #[.val (.ref a1), .val (.int (1 : Int32)), .val (.int p2), .val (.int vg1), .unset, .val (.int (128 : Int32)), .val (.int (191 : Int32)), .unset, .unset] [(.int (240 : Int32)), (.int vg1)]))
    refine own_via (fun t k => XS.icmpYes X0.here hx rfl (pc0 := 89) (pc' := 132) rfl (hb hby own_d1_89) rfl (tlt (own_b5 (own_b1 hc2) (by decide))).1 (by decide) (by decide) k) ?_
    show own_G p e below _ (s₁.setTop (mkF m 132 #[.val (.ref a1), .val (.int (1 : Int32)), .val (.int p2), .val (.int vg1), .unset, .val (.int (128 : Int32)), .val (.int (191 : Int32)), .unset, .unset] []))
    refine own_via (fun t k => XS.iconst X0.here hx rfl (hb hby own_d1_132) k) ?_
    show own_G p e below _ (s₁.setTop (mkF m 133 #[.val (.ref a1), .val (.int (1 : Int32)), .val (.int p2), .val (.int vg1), .unset, .val (.int (128 : Int32)), .val (.int (191 : Int32)), .unset, .unset] [(.int (-1 : Int32))]))
    exact own_retI X0 hx Bd.returns Bd.notSynchronized (hb hby own_d1_133) ⟨(by show (some (.int (-1 : Int32)) : Option Value) = some (.int (own_Fs1 b1 b2 b3 b4 p2)); subst hvg1; simp only [own_Fs1, if_pos hc2]), rfl, e0⟩ (by decide) (by decide)
  ·
    refine own_via (fun t k => XS.icmpNo X0.here hx rfl (hb hby own_d1_22) rfl (flt hc2).1 k) ?_
    show own_G p e below _ (s₁.setTop (mkF m 25 #[.val (.ref a1), .val (.int (1 : Int32)), .val (.int p2), .val (.int vg1), .unset, .val (.int (128 : Int32)), .val (.int (191 : Int32)), .unset, .unset] []))
    refine own_via (fun t k => XS.iloadN X0.here hx rfl (hb hby own_d1_25) rfl k) ?_
    show own_G p e below _ (s₁.setTop (mkF m 26 #[.val (.ref a1), .val (.int (1 : Int32)), .val (.int p2), .val (.int vg1), .unset, .val (.int (128 : Int32)), .val (.int (191 : Int32)), .unset, .unset] [(.int vg1)]))
    refine own_via (fun t k => XS.sipush X0.here hx rfl (hb hby own_d1_26) k) ?_
    show own_G p e below _ (s₁.setTop (mkF m 29 #[.val (.ref a1), .val (.int (1 : Int32)), .val (.int p2), .val (.int vg1), .unset, .val (.int (128 : Int32)), .val (.int (191 : Int32)), .unset, .unset] [(.int (223 : Int32)), (.int vg1)]))
    by_cases hc3 : (223 : Int32) < vg1
    ·
      refine own_via (fun t k => XS.icmpYes X0.here hx rfl (pc0 := 29) (pc' := 38) rfl (hb hby own_d1_29) rfl (tlt hc3).2.2.1 (by decide) (by decide) k) ?_
      show own_G p e below _ (s₁.setTop (mkF m 38 #[.val (.ref a1), .val (.int (1 : Int32)), .val (.int p2), .val (.int vg1), .unset, .val (.int (128 : Int32)), .val (.int (191 : Int32)), .unset, .unset] []))
      refine own_via (fun t k => XS.iloadN X0.here hx rfl (hb hby own_d1_38) rfl k) ?_
      show own_G p e below _ (s₁.setTop (mkF m 39 #[.val (.ref a1), .val (.int (1 : Int32)), .val (.int p2), .val (.int vg1), .unset, .val (.int (128 : Int32)), .val (.int (191 : Int32)), .unset, .unset] [(.int vg1)]))
      refine own_via (fun t k => XS.sipush X0.here hx rfl (hb hby own_d1_39) k) ?_
      show own_G p e below _ (s₁.setTop (mkF m 42 #[.val (.ref a1), .val (.int (1 : Int32)), .val (.int p2), .val (.int vg1), .unset, .val (.int (128 : Int32)), .val (.int (191 : Int32)), .unset, .unset] [(.int (224 : Int32)), (.int vg1)]))
      refine own_via (fun t k => XS.icmpNo X0.here hx rfl (hb hby own_d1_42) rfl (flt (own_b6 (own_b3 hc3) (by decide))).1 k) ?_
      show own_G p e below _ (s₁.setTop (mkF m 45 #[.val (.ref a1), .val (.int (1 : Int32)), .val (.int p2), .val (.int vg1), .unset, .val (.int (128 : Int32)), .val (.int (191 : Int32)), .unset, .unset] []))
      refine own_via (fun t k => XS.iloadN X0.here hx rfl (hb hby own_d1_45) rfl k) ?_
      show own_G p e below _ (s₁.setTop (mkF m 46 #[.val (.ref a1), .val (.int (1 : Int32)), .val (.int p2), .val (.int vg1), .unset, .val (.int (128 : Int32)), .val (.int (191 : Int32)), .unset, .unset] [(.int vg1)]))
      refine own_via (fun t k => XS.sipush X0.here hx rfl (hb hby own_d1_46) k) ?_
      show own_G p e below _ (s₁.setTop (mkF m 49 #[.val (.ref a1), .val (.int (1 : Int32)), .val (.int p2), .val (.int vg1), .unset, .val (.int (128 : Int32)), .val (.int (191 : Int32)), .unset, .unset] [(.int (239 : Int32)), (.int vg1)]))
      by_cases hc4 : (239 : Int32) < vg1
      ·
        refine own_via (fun t k => XS.icmpYes X0.here hx rfl (pc0 := 49) (pc' := 85) rfl (hb hby own_d1_49) rfl (tlt hc4).2.2.1 (by decide) (by decide) k) ?_
        show own_G p e below _ (s₁.setTop (mkF m 85 #[.val (.ref a1), .val (.int (1 : Int32)), .val (.int p2), .val (.int vg1), .unset, .val (.int (128 : Int32)), .val (.int (191 : Int32)), .unset, .unset] []))
        refine own_via (fun t k => XS.iloadN X0.here hx rfl (hb hby own_d1_85) rfl k) ?_
        show own_G p e below _ (s₁.setTop (mkF m 86 #[.val (.ref a1), .val (.int (1 : Int32)), .val (.int p2), .val (.int vg1), .unset, .val (.int (128 : Int32)), .val (.int (191 : Int32)), .unset, .unset] [(.int vg1)]))
        refine own_via (fun t k => XS.sipush X0.here hx rfl (hb hby own_d1_86) k) ?_
        show own_G p e below _ (s₁.setTop (mkF m 89 #[.val (.ref a1), .val (.int (1 : Int32)), .val (.int p2), .val (.int vg1), .unset, .val (.int (128 : Int32)), .val (.int (191 : Int32)), .unset, .unset] [(.int (240 : Int32)), (.int vg1)]))
        refine own_via (fun t k => XS.icmpNo X0.here hx rfl (hb hby own_d1_89) rfl (flt (own_b6 (own_b3 hc4) (by decide))).1 k) ?_
        show own_G p e below _ (s₁.setTop (mkF m 92 #[.val (.ref a1), .val (.int (1 : Int32)), .val (.int p2), .val (.int vg1), .unset, .val (.int (128 : Int32)), .val (.int (191 : Int32)), .unset, .unset] []))
        refine own_via (fun t k => XS.iloadN X0.here hx rfl (hb hby own_d1_92) rfl k) ?_
        show own_G p e below _ (s₁.setTop (mkF m 93 #[.val (.ref a1), .val (.int (1 : Int32)), .val (.int p2), .val (.int vg1), .unset, .val (.int (128 : Int32)), .val (.int (191 : Int32)), .unset, .unset] [(.int vg1)]))
        refine own_via (fun t k => XS.sipush X0.here hx rfl (hb hby own_d1_93) k) ?_
        show own_G p e below _ (s₁.setTop (mkF m 96 #[.val (.ref a1), .val (.int (1 : Int32)), .val (.int p2), .val (.int vg1), .unset, .val (.int (128 : Int32)), .val (.int (191 : Int32)), .unset, .unset] [(.int (244 : Int32)), (.int vg1)]))
        by_cases hc5 : (244 : Int32) < vg1
        ·
          refine own_via (fun t k => XS.icmpYes X0.here hx rfl (pc0 := 96) (pc' := 132) rfl (hb hby own_d1_96) rfl (tlt hc5).2.2.1 (by decide) (by decide) k) ?_
          show own_G p e below _ (s₁.setTop (mkF m 132 #[.val (.ref a1), .val (.int (1 : Int32)), .val (.int p2), .val (.int vg1), .unset, .val (.int (128 : Int32)), .val (.int (191 : Int32)), .unset, .unset] []))
          refine own_via (fun t k => XS.iconst X0.here hx rfl (hb hby own_d1_132) k) ?_
          show own_G p e below _ (s₁.setTop (mkF m 133 #[.val (.ref a1), .val (.int (1 : Int32)), .val (.int p2), .val (.int vg1), .unset, .val (.int (128 : Int32)), .val (.int (191 : Int32)), .unset, .unset] [(.int (-1 : Int32))]))
          exact own_retI X0 hx Bd.returns Bd.notSynchronized (hb hby own_d1_133) ⟨(by show (some (.int (-1 : Int32)) : Option Value) = some (.int (own_Fs1 b1 b2 b3 b4 p2)); subst hvg1; simp only [own_Fs1, if_neg hc2, if_pos hc3, if_pos hc4, if_pos hc5]), rfl, e0⟩ (by decide) (by decide)
        ·
          refine own_via (fun t k => XS.icmpNo X0.here hx rfl (hb hby own_d1_96) rfl (flt hc5).2.2.1 k) ?_
          show own_G p e below _ (s₁.setTop (mkF m 99 #[.val (.ref a1), .val (.int (1 : Int32)), .val (.int p2), .val (.int vg1), .unset, .val (.int (128 : Int32)), .val (.int (191 : Int32)), .unset, .unset] []))
          refine own_via (fun t k => XS.iconst X0.here hx rfl (hb hby own_d1_99) k) ?_
          show own_G p e below _ (s₁.setTop (mkF m 100 #[.val (.ref a1), .val (.int (1 : Int32)), .val (.int p2), .val (.int vg1), .unset, .val (.int (128 : Int32)), .val (.int (191 : Int32)), .unset, .unset] [(.int (4 : Int32))]))
          refine own_via (fun t k => XS.istore X0.here hx rfl (hb hby own_d1_100) rfl (l' := #[.val (.ref a1), .val (.int (1 : Int32)), .val (.int p2), .val (.int vg1), .val (.int (4 : Int32)), .val (.int (128 : Int32)), .val (.int (191 : Int32)), .unset, .unset]) rfl k) ?_
          show own_G p e below _ (s₁.setTop (mkF m 102 #[.val (.ref a1), .val (.int (1 : Int32)), .val (.int p2), .val (.int vg1), .val (.int (4 : Int32)), .val (.int (128 : Int32)), .val (.int (191 : Int32)), .unset, .unset] []))
          refine own_via (fun t k => XS.iloadN X0.here hx rfl (hb hby own_d1_102) rfl k) ?_
          show own_G p e below _ (s₁.setTop (mkF m 103 #[.val (.ref a1), .val (.int (1 : Int32)), .val (.int p2), .val (.int vg1), .val (.int (4 : Int32)), .val (.int (128 : Int32)), .val (.int (191 : Int32)), .unset, .unset] [(.int vg1)]))
          refine own_via (fun t k => XS.sipush X0.here hx rfl (hb hby own_d1_103) k) ?_
          show own_G p e below _ (s₁.setTop (mkF m 106 #[.val (.ref a1), .val (.int (1 : Int32)), .val (.int p2), .val (.int vg1), .val (.int (4 : Int32)), .val (.int (128 : Int32)), .val (.int (191 : Int32)), .unset, .unset] [(.int (240 : Int32)), (.int vg1)]))
          by_cases hc6 : vg1 = (240 : Int32)
          ·
            refine own_via (fun t k => XS.icmpNo X0.here hx rfl (hb hby own_d1_106) rfl (teq hc6).2 k) ?_
            show own_G p e below _ (s₁.setTop (mkF m 109 #[.val (.ref a1), .val (.int (1 : Int32)), .val (.int p2), .val (.int vg1), .val (.int (4 : Int32)), .val (.int (128 : Int32)), .val (.int (191 : Int32)), .unset, .unset] []))
            refine own_via (fun t k => XS.sipush X0.here hx rfl (hb hby own_d1_109) k) ?_
            show own_G p e below _ (s₁.setTop (mkF m 112 #[.val (.ref a1), .val (.int (1 : Int32)), .val (.int p2), .val (.int vg1), .val (.int (4 : Int32)), .val (.int (128 : Int32)), .val (.int (191 : Int32)), .unset, .unset] [(.int (144 : Int32))]))
            refine own_via (fun t k => XS.istore X0.here hx rfl (hb hby own_d1_112) rfl (l' := #[.val (.ref a1), .val (.int (1 : Int32)), .val (.int p2), .val (.int vg1), .val (.int (4 : Int32)), .val (.int (144 : Int32)), .val (.int (191 : Int32)), .unset, .unset]) rfl k) ?_
            show own_G p e below _ (s₁.setTop (mkF m 114 #[.val (.ref a1), .val (.int (1 : Int32)), .val (.int p2), .val (.int vg1), .val (.int (4 : Int32)), .val (.int (144 : Int32)), .val (.int (191 : Int32)), .unset, .unset] []))
            refine own_via (fun t k => XS.goto X0.here hx rfl (pc0 := 114) (pc' := 134) rfl (hb hby own_d1_114) (by decide) (by decide) k) ?_
            show own_G p e below _ (s₁.setTop (mkF m 134 #[.val (.ref a1), .val (.int (1 : Int32)), .val (.int p2), .val (.int vg1), .val (.int (4 : Int32)), .val (.int (144 : Int32)), .val (.int (191 : Int32)), .unset, .unset] []))
            refine own_via (fun t k => XS.iloadN X0.here hx rfl (hb hby own_d1_134) rfl k) ?_
            show own_G p e below _ (s₁.setTop (mkF m 135 #[.val (.ref a1), .val (.int (1 : Int32)), .val (.int p2), .val (.int vg1), .val (.int (4 : Int32)), .val (.int (144 : Int32)), .val (.int (191 : Int32)), .unset, .unset] [(.int p2)]))
            refine own_via (fun t k => XS.iloadN X0.here hx rfl (hb hby own_d1_135) rfl k) ?_
            show own_G p e below _ (s₁.setTop (mkF m 136 #[.val (.ref a1), .val (.int (1 : Int32)), .val (.int p2), .val (.int vg1), .val (.int (4 : Int32)), .val (.int (144 : Int32)), .val (.int (191 : Int32)), .unset, .unset] [(.int (1 : Int32)), (.int p2)]))
            refine own_via (fun t k => XS.isub X0.here hx rfl (hb hby own_d1_136) rfl k) ?_
            show own_G p e below _ (s₁.setTop (mkF m 137 #[.val (.ref a1), .val (.int (1 : Int32)), .val (.int p2), .val (.int vg1), .val (.int (4 : Int32)), .val (.int (144 : Int32)), .val (.int (191 : Int32)), .unset, .unset] [(.int (p2 - (1 : Int32)))]))
            refine own_via (fun t k => XS.iload X0.here hx rfl (hb hby own_d1_137) rfl k) ?_
            show own_G p e below _ (s₁.setTop (mkF m 139 #[.val (.ref a1), .val (.int (1 : Int32)), .val (.int p2), .val (.int vg1), .val (.int (4 : Int32)), .val (.int (144 : Int32)), .val (.int (191 : Int32)), .unset, .unset] [(.int (4 : Int32)), (.int (p2 - (1 : Int32)))]))
            by_cases hc7 : (p2 - (1 : Int32)) < (4 : Int32)
            ·
              refine own_via (fun t k => XS.icmpNo X0.here hx rfl (hb hby own_d1_139) rfl (tlt hc7).2.1 k) ?_
              show own_G p e below _ (s₁.setTop (mkF m 142 #[.val (.ref a1), .val (.int (1 : Int32)), .val (.int p2), .val (.int vg1), .val (.int (4 : Int32)), .val (.int (144 : Int32)), .val (.int (191 : Int32)), .unset, .unset] []))
              refine own_via (fun t k => XS.iconst X0.here hx rfl (hb hby own_d1_142) k) ?_
              show own_G p e below _ (s₁.setTop (mkF m 143 #[.val (.ref a1), .val (.int (1 : Int32)), .val (.int p2), .val (.int vg1), .val (.int (4 : Int32)), .val (.int (144 : Int32)), .val (.int (191 : Int32)), .unset, .unset] [(.int (-1 : Int32))]))
              exact own_retI X0 hx Bd.returns Bd.notSynchronized (hb hby own_d1_143) ⟨(by show (some (.int (-1 : Int32)) : Option Value) = some (.int (own_Fs1 b1 b2 b3 b4 p2)); subst hvg1; simp only [own_Fs1, if_neg hc2, if_pos hc3, if_pos hc4, if_neg hc5, if_pos hc6, if_pos hc7]), rfl, e0⟩ (by decide) (by decide)
            ·
              refine own_via (fun t k => XS.icmpYes X0.here hx rfl (pc0 := 139) (pc' := 144) rfl (hb hby own_d1_139) rfl (flt hc7).2.1 (by decide) (by decide) k) ?_
              show own_G p e below _ (s₁.setTop (mkF m 144 #[.val (.ref a1), .val (.int (1 : Int32)), .val (.int p2), .val (.int vg1), .val (.int (4 : Int32)), .val (.int (144 : Int32)), .val (.int (191 : Int32)), .unset, .unset] []))
              refine own_via (fun t k => XS.aloadN X0.here hx rfl (hb hby own_d1_144) rfl rfl k) ?_
              show own_G p e below _ (s₁.setTop (mkF m 145 #[.val (.ref a1), .val (.int (1 : Int32)), .val (.int p2), .val (.int vg1), .val (.int (4 : Int32)), .val (.int (144 : Int32)), .val (.int (191 : Int32)), .unset, .unset] [(.ref a1)]))
              refine own_via (fun t k => XS.iloadN X0.here hx rfl (hb hby own_d1_145) rfl k) ?_
              show own_G p e below _ (s₁.setTop (mkF m 146 #[.val (.ref a1), .val (.int (1 : Int32)), .val (.int p2), .val (.int vg1), .val (.int (4 : Int32)), .val (.int (144 : Int32)), .val (.int (191 : Int32)), .unset, .unset] [(.int (1 : Int32)), (.ref a1)]))
              refine own_via (fun t k => XS.iconst X0.here hx rfl (hb hby own_d1_146) k) ?_
              show own_G p e below _ (s₁.setTop (mkF m 147 #[.val (.ref a1), .val (.int (1 : Int32)), .val (.int p2), .val (.int vg1), .val (.int (4 : Int32)), .val (.int (144 : Int32)), .val (.int (191 : Int32)), .unset, .unset] [(.int (1 : Int32)), (.int (1 : Int32)), (.ref a1)]))
              refine own_via (fun t k => XS.iadd X0.here hx rfl (hb hby own_d1_147) rfl k) ?_
              show own_G p e below _ (s₁.setTop (mkF m 148 #[.val (.ref a1), .val (.int (1 : Int32)), .val (.int p2), .val (.int vg1), .val (.int (4 : Int32)), .val (.int (144 : Int32)), .val (.int (191 : Int32)), .unset, .unset] [(.int (2 : Int32)), (.ref a1)]))
              refine own_via (own_ldB X0 hx hZ e0 i_V0 (j := (2 : Int32)) ⟨by decide, by decide⟩ (v := (.int b2)) rfl (pc := 148) (Ls := #[.val (.ref a1), .val (.int (1 : Int32)), .val (.int p2), .val (.int vg1), .val (.int (4 : Int32)), .val (.int (144 : Int32)), .val (.int (191 : Int32)), .unset, .unset]) (rest := []) (hb hby own_d1_148)) ?_
              show own_G p e below _ (s₁.setTop (mkF m 149 #[.val (.ref a1), .val (.int (1 : Int32)), .val (.int p2), .val (.int vg1), .val (.int (4 : Int32)), .val (.int (144 : Int32)), .val (.int (191 : Int32)), .unset, .unset] [(.int b2)]))
              refine own_via (fun t k => XS.sipush X0.here hx rfl (hb hby own_d1_149) k) ?_
              show own_G p e below _ (s₁.setTop (mkF m 152 #[.val (.ref a1), .val (.int (1 : Int32)), .val (.int p2), .val (.int vg1), .val (.int (4 : Int32)), .val (.int (144 : Int32)), .val (.int (191 : Int32)), .unset, .unset] [(.int (255 : Int32)), (.int b2)]))
              refine own_via (fun t k => XS.iand X0.here hx rfl (hb hby own_d1_152) rfl k) ?_
              show own_G p e below _ (s₁.setTop (mkF m 153 #[.val (.ref a1), .val (.int (1 : Int32)), .val (.int p2), .val (.int vg1), .val (.int (4 : Int32)), .val (.int (144 : Int32)), .val (.int (191 : Int32)), .unset, .unset] [(.int (b2 &&& (255 : Int32)))]))
              generalize hvg8 : (b2 &&& (255 : Int32)) = vg8
              show own_G p e below _ (s₁.setTop (mkF m 153 #[.val (.ref a1), .val (.int (1 : Int32)), .val (.int p2), .val (.int vg1), .val (.int (4 : Int32)), .val (.int (144 : Int32)), .val (.int (191 : Int32)), .unset, .unset] [(.int vg8)]))
              refine own_via (fun t k => XS.istore X0.here hx rfl (hb hby own_d1_153) rfl (l' := #[.val (.ref a1), .val (.int (1 : Int32)), .val (.int p2), .val (.int vg1), .val (.int (4 : Int32)), .val (.int (144 : Int32)), .val (.int (191 : Int32)), .val (.int vg8), .unset]) rfl k) ?_
              show own_G p e below _ (s₁.setTop (mkF m 155 #[.val (.ref a1), .val (.int (1 : Int32)), .val (.int p2), .val (.int vg1), .val (.int (4 : Int32)), .val (.int (144 : Int32)), .val (.int (191 : Int32)), .val (.int vg8), .unset] []))
              refine own_via (fun t k => XS.iload X0.here hx rfl (hb hby own_d1_155) rfl k) ?_
              show own_G p e below _ (s₁.setTop (mkF m 157 #[.val (.ref a1), .val (.int (1 : Int32)), .val (.int p2), .val (.int vg1), .val (.int (4 : Int32)), .val (.int (144 : Int32)), .val (.int (191 : Int32)), .val (.int vg8), .unset] [(.int vg8)]))
              refine own_via (fun t k => XS.iload X0.here hx rfl (hb hby own_d1_157) rfl k) ?_
              show own_G p e below _ (s₁.setTop (mkF m 159 #[.val (.ref a1), .val (.int (1 : Int32)), .val (.int p2), .val (.int vg1), .val (.int (4 : Int32)), .val (.int (144 : Int32)), .val (.int (191 : Int32)), .val (.int vg8), .unset] [(.int (144 : Int32)), (.int vg8)]))
              by_cases hc9 : vg8 < (144 : Int32)
              ·
                refine own_via (fun t k => XS.icmpYes X0.here hx rfl (pc0 := 159) (pc' := 169) rfl (hb hby own_d1_159) rfl (tlt hc9).1 (by decide) (by decide) k) ?_
                show own_G p e below _ (s₁.setTop (mkF m 169 #[.val (.ref a1), .val (.int (1 : Int32)), .val (.int p2), .val (.int vg1), .val (.int (4 : Int32)), .val (.int (144 : Int32)), .val (.int (191 : Int32)), .val (.int vg8), .unset] []))
                refine own_via (fun t k => XS.iconst X0.here hx rfl (hb hby own_d1_169) k) ?_
                show own_G p e below _ (s₁.setTop (mkF m 170 #[.val (.ref a1), .val (.int (1 : Int32)), .val (.int p2), .val (.int vg1), .val (.int (4 : Int32)), .val (.int (144 : Int32)), .val (.int (191 : Int32)), .val (.int vg8), .unset] [(.int (-1 : Int32))]))
                exact own_retI X0 hx Bd.returns Bd.notSynchronized (hb hby own_d1_170) ⟨(by show (some (.int (-1 : Int32)) : Option Value) = some (.int (own_Fs1 b1 b2 b3 b4 p2)); subst hvg8; subst hvg1; simp only [own_Fs1, if_neg hc2, if_pos hc3, if_pos hc4, if_neg hc5, if_pos hc6, if_neg hc7, if_pos hc9]), rfl, e0⟩ (by decide) (by decide)
              ·
                refine own_via (fun t k => XS.icmpNo X0.here hx rfl (hb hby own_d1_159) rfl (flt hc9).1 k) ?_
                show own_G p e below _ (s₁.setTop (mkF m 162 #[.val (.ref a1), .val (.int (1 : Int32)), .val (.int p2), .val (.int vg1), .val (.int (4 : Int32)), .val (.int (144 : Int32)), .val (.int (191 : Int32)), .val (.int vg8), .unset] []))
                refine own_via (fun t k => XS.iload X0.here hx rfl (hb hby own_d1_162) rfl k) ?_
                show own_G p e below _ (s₁.setTop (mkF m 164 #[.val (.ref a1), .val (.int (1 : Int32)), .val (.int p2), .val (.int vg1), .val (.int (4 : Int32)), .val (.int (144 : Int32)), .val (.int (191 : Int32)), .val (.int vg8), .unset] [(.int vg8)]))
                refine own_via (fun t k => XS.iload X0.here hx rfl (hb hby own_d1_164) rfl k) ?_
                show own_G p e below _ (s₁.setTop (mkF m 166 #[.val (.ref a1), .val (.int (1 : Int32)), .val (.int p2), .val (.int vg1), .val (.int (4 : Int32)), .val (.int (144 : Int32)), .val (.int (191 : Int32)), .val (.int vg8), .unset] [(.int (191 : Int32)), (.int vg8)]))
                by_cases hc10 : (191 : Int32) < vg8
                ·
                  refine own_via (fun t k => XS.icmpNo X0.here hx rfl (hb hby own_d1_166) rfl (tlt hc10).2.2.2 k) ?_
                  show own_G p e below _ (s₁.setTop (mkF m 169 #[.val (.ref a1), .val (.int (1 : Int32)), .val (.int p2), .val (.int vg1), .val (.int (4 : Int32)), .val (.int (144 : Int32)), .val (.int (191 : Int32)), .val (.int vg8), .unset] []))
                  refine own_via (fun t k => XS.iconst X0.here hx rfl (hb hby own_d1_169) k) ?_
                  show own_G p e below _ (s₁.setTop (mkF m 170 #[.val (.ref a1), .val (.int (1 : Int32)), .val (.int p2), .val (.int vg1), .val (.int (4 : Int32)), .val (.int (144 : Int32)), .val (.int (191 : Int32)), .val (.int vg8), .unset] [(.int (-1 : Int32))]))
                  exact own_retI X0 hx Bd.returns Bd.notSynchronized (hb hby own_d1_170) ⟨(by show (some (.int (-1 : Int32)) : Option Value) = some (.int (own_Fs1 b1 b2 b3 b4 p2)); subst hvg8; subst hvg1; simp only [own_Fs1, if_neg hc2, if_pos hc3, if_pos hc4, if_neg hc5, if_pos hc6, if_neg hc7, if_neg hc9, if_pos hc10]), rfl, e0⟩ (by decide) (by decide)
                ·
                  refine own_via (fun t k => XS.icmpYes X0.here hx rfl (pc0 := 166) (pc' := 171) rfl (hb hby own_d1_166) rfl (flt hc10).2.2.2 (by decide) (by decide) k) ?_
                  show own_G p e below _ (s₁.setTop (mkF m 171 #[.val (.ref a1), .val (.int (1 : Int32)), .val (.int p2), .val (.int vg1), .val (.int (4 : Int32)), .val (.int (144 : Int32)), .val (.int (191 : Int32)), .val (.int vg8), .unset] []))
                  refine own_via (fun t k => XS.iloadN X0.here hx rfl (hb hby own_d1_171) rfl k) ?_
                  show own_G p e below _ (s₁.setTop (mkF m 172 #[.val (.ref a1), .val (.int (1 : Int32)), .val (.int p2), .val (.int vg1), .val (.int (4 : Int32)), .val (.int (144 : Int32)), .val (.int (191 : Int32)), .val (.int vg8), .unset] [(.int (1 : Int32))]))
                  refine own_via (fun t k => XS.iconst X0.here hx rfl (hb hby own_d1_172) k) ?_
                  show own_G p e below _ (s₁.setTop (mkF m 173 #[.val (.ref a1), .val (.int (1 : Int32)), .val (.int p2), .val (.int vg1), .val (.int (4 : Int32)), .val (.int (144 : Int32)), .val (.int (191 : Int32)), .val (.int vg8), .unset] [(.int (2 : Int32)), (.int (1 : Int32))]))
                  refine own_via (fun t k => XS.iadd X0.here hx rfl (hb hby own_d1_173) rfl k) ?_
                  show own_G p e below _ (s₁.setTop (mkF m 174 #[.val (.ref a1), .val (.int (1 : Int32)), .val (.int p2), .val (.int vg1), .val (.int (4 : Int32)), .val (.int (144 : Int32)), .val (.int (191 : Int32)), .val (.int vg8), .unset] [(.int (3 : Int32))]))
                  refine own_via (fun t k => XS.istore X0.here hx rfl (hb hby own_d1_174) rfl (l' := #[.val (.ref a1), .val (.int (1 : Int32)), .val (.int p2), .val (.int vg1), .val (.int (4 : Int32)), .val (.int (144 : Int32)), .val (.int (191 : Int32)), .val (.int vg8), .val (.int (3 : Int32))]) rfl k) ?_
                  show own_G p e below _ (s₁.setTop (mkF m 176 #[.val (.ref a1), .val (.int (1 : Int32)), .val (.int p2), .val (.int vg1), .val (.int (4 : Int32)), .val (.int (144 : Int32)), .val (.int (191 : Int32)), .val (.int vg8), .val (.int (3 : Int32))] []))
                  refine own_via (fun t k => XS.iload X0.here hx rfl (hb hby own_d1_176) rfl k) ?_
                  show own_G p e below _ (s₁.setTop (mkF m 178 #[.val (.ref a1), .val (.int (1 : Int32)), .val (.int p2), .val (.int vg1), .val (.int (4 : Int32)), .val (.int (144 : Int32)), .val (.int (191 : Int32)), .val (.int vg8), .val (.int (3 : Int32))] [(.int (3 : Int32))]))
                  refine own_via (fun t k => XS.iloadN X0.here hx rfl (hb hby own_d1_178) rfl k) ?_
                  show own_G p e below _ (s₁.setTop (mkF m 179 #[.val (.ref a1), .val (.int (1 : Int32)), .val (.int p2), .val (.int vg1), .val (.int (4 : Int32)), .val (.int (144 : Int32)), .val (.int (191 : Int32)), .val (.int vg8), .val (.int (3 : Int32))] [(.int (1 : Int32)), (.int (3 : Int32))]))
                  refine own_via (fun t k => XS.iload X0.here hx rfl (hb hby own_d1_179) rfl k) ?_
                  show own_G p e below _ (s₁.setTop (mkF m 181 #[.val (.ref a1), .val (.int (1 : Int32)), .val (.int p2), .val (.int vg1), .val (.int (4 : Int32)), .val (.int (144 : Int32)), .val (.int (191 : Int32)), .val (.int vg8), .val (.int (3 : Int32))] [(.int (4 : Int32)), (.int (1 : Int32)), (.int (3 : Int32))]))
                  refine own_via (fun t k => XS.iadd X0.here hx rfl (hb hby own_d1_181) rfl k) ?_
                  show own_G p e below _ (s₁.setTop (mkF m 182 #[.val (.ref a1), .val (.int (1 : Int32)), .val (.int p2), .val (.int vg1), .val (.int (4 : Int32)), .val (.int (144 : Int32)), .val (.int (191 : Int32)), .val (.int vg8), .val (.int (3 : Int32))] [(.int (5 : Int32)), (.int (3 : Int32))]))
                  refine own_via (fun t k => XS.icmpNo X0.here hx rfl (hb hby own_d1_182) rfl (tlt (by decide : (3 : Int32) < (5 : Int32))).2.1 k) ?_
                  show own_G p e below _ (s₁.setTop (mkF m 185 #[.val (.ref a1), .val (.int (1 : Int32)), .val (.int p2), .val (.int vg1), .val (.int (4 : Int32)), .val (.int (144 : Int32)), .val (.int (191 : Int32)), .val (.int vg8), .val (.int (3 : Int32))] []))
                  refine own_via (fun t k => XS.aloadN X0.here hx rfl (hb hby own_d1_185) rfl rfl k) ?_
                  show own_G p e below _ (s₁.setTop (mkF m 186 #[.val (.ref a1), .val (.int (1 : Int32)), .val (.int p2), .val (.int vg1), .val (.int (4 : Int32)), .val (.int (144 : Int32)), .val (.int (191 : Int32)), .val (.int vg8), .val (.int (3 : Int32))] [(.ref a1)]))
                  refine own_via (fun t k => XS.iload X0.here hx rfl (hb hby own_d1_186) rfl k) ?_
                  show own_G p e below _ (s₁.setTop (mkF m 188 #[.val (.ref a1), .val (.int (1 : Int32)), .val (.int p2), .val (.int vg1), .val (.int (4 : Int32)), .val (.int (144 : Int32)), .val (.int (191 : Int32)), .val (.int vg8), .val (.int (3 : Int32))] [(.int (3 : Int32)), (.ref a1)]))
                  refine own_via (own_ldB X0 hx hZ e0 i_V0 (j := (3 : Int32)) ⟨by decide, by decide⟩ (v := (.int b3)) rfl (pc := 188) (Ls := #[.val (.ref a1), .val (.int (1 : Int32)), .val (.int p2), .val (.int vg1), .val (.int (4 : Int32)), .val (.int (144 : Int32)), .val (.int (191 : Int32)), .val (.int vg8), .val (.int (3 : Int32))]) (rest := []) (hb hby own_d1_188)) ?_
                  show own_G p e below _ (s₁.setTop (mkF m 189 #[.val (.ref a1), .val (.int (1 : Int32)), .val (.int p2), .val (.int vg1), .val (.int (4 : Int32)), .val (.int (144 : Int32)), .val (.int (191 : Int32)), .val (.int vg8), .val (.int (3 : Int32))] [(.int b3)]))
                  refine own_via (fun t k => XS.sipush X0.here hx rfl (hb hby own_d1_189) k) ?_
                  show own_G p e below _ (s₁.setTop (mkF m 192 #[.val (.ref a1), .val (.int (1 : Int32)), .val (.int p2), .val (.int vg1), .val (.int (4 : Int32)), .val (.int (144 : Int32)), .val (.int (191 : Int32)), .val (.int vg8), .val (.int (3 : Int32))] [(.int (192 : Int32)), (.int b3)]))
                  refine own_via (fun t k => XS.iand X0.here hx rfl (hb hby own_d1_192) rfl k) ?_
                  show own_G p e below _ (s₁.setTop (mkF m 193 #[.val (.ref a1), .val (.int (1 : Int32)), .val (.int p2), .val (.int vg1), .val (.int (4 : Int32)), .val (.int (144 : Int32)), .val (.int (191 : Int32)), .val (.int vg8), .val (.int (3 : Int32))] [(.int (b3 &&& (192 : Int32)))]))
                  refine own_via (fun t k => XS.sipush X0.here hx rfl (hb hby own_d1_193) k) ?_
                  show own_G p e below _ (s₁.setTop (mkF m 196 #[.val (.ref a1), .val (.int (1 : Int32)), .val (.int p2), .val (.int vg1), .val (.int (4 : Int32)), .val (.int (144 : Int32)), .val (.int (191 : Int32)), .val (.int vg8), .val (.int (3 : Int32))] [(.int (128 : Int32)), (.int (b3 &&& (192 : Int32)))]))
                  by_cases hc11 : (b3 &&& (192 : Int32)) = (128 : Int32)
                  ·
                    refine own_via (fun t k => XS.icmpYes X0.here hx rfl (pc0 := 196) (pc' := 201) rfl (hb hby own_d1_196) rfl (teq hc11).1 (by decide) (by decide) k) ?_
                    show own_G p e below _ (s₁.setTop (mkF m 201 #[.val (.ref a1), .val (.int (1 : Int32)), .val (.int p2), .val (.int vg1), .val (.int (4 : Int32)), .val (.int (144 : Int32)), .val (.int (191 : Int32)), .val (.int vg8), .val (.int (3 : Int32))] []))
                    refine own_via (fun t k => XS.iinc X0.here hx rfl (hb hby own_d1_201) rfl (l' := #[.val (.ref a1), .val (.int (1 : Int32)), .val (.int p2), .val (.int vg1), .val (.int (4 : Int32)), .val (.int (144 : Int32)), .val (.int (191 : Int32)), .val (.int vg8), .val (.int (4 : Int32))]) rfl k) ?_
                    show own_G p e below _ (s₁.setTop (mkF m 204 #[.val (.ref a1), .val (.int (1 : Int32)), .val (.int p2), .val (.int vg1), .val (.int (4 : Int32)), .val (.int (144 : Int32)), .val (.int (191 : Int32)), .val (.int vg8), .val (.int (4 : Int32))] []))
                    refine own_via (fun t k => XS.goto X0.here hx rfl (pc0 := 204) (pc' := 176) rfl (hb hby own_d1_204) (by decide) (by decide) k) ?_
                    show own_G p e below _ (s₁.setTop (mkF m 176 #[.val (.ref a1), .val (.int (1 : Int32)), .val (.int p2), .val (.int vg1), .val (.int (4 : Int32)), .val (.int (144 : Int32)), .val (.int (191 : Int32)), .val (.int vg8), .val (.int (4 : Int32))] []))
                    refine own_via (fun t k => XS.iload X0.here hx rfl (hb hby own_d1_176) rfl k) ?_
                    show own_G p e below _ (s₁.setTop (mkF m 178 #[.val (.ref a1), .val (.int (1 : Int32)), .val (.int p2), .val (.int vg1), .val (.int (4 : Int32)), .val (.int (144 : Int32)), .val (.int (191 : Int32)), .val (.int vg8), .val (.int (4 : Int32))] [(.int (4 : Int32))]))
                    refine own_via (fun t k => XS.iloadN X0.here hx rfl (hb hby own_d1_178) rfl k) ?_
                    show own_G p e below _ (s₁.setTop (mkF m 179 #[.val (.ref a1), .val (.int (1 : Int32)), .val (.int p2), .val (.int vg1), .val (.int (4 : Int32)), .val (.int (144 : Int32)), .val (.int (191 : Int32)), .val (.int vg8), .val (.int (4 : Int32))] [(.int (1 : Int32)), (.int (4 : Int32))]))
                    refine own_via (fun t k => XS.iload X0.here hx rfl (hb hby own_d1_179) rfl k) ?_
                    show own_G p e below _ (s₁.setTop (mkF m 181 #[.val (.ref a1), .val (.int (1 : Int32)), .val (.int p2), .val (.int vg1), .val (.int (4 : Int32)), .val (.int (144 : Int32)), .val (.int (191 : Int32)), .val (.int vg8), .val (.int (4 : Int32))] [(.int (4 : Int32)), (.int (1 : Int32)), (.int (4 : Int32))]))
                    refine own_via (fun t k => XS.iadd X0.here hx rfl (hb hby own_d1_181) rfl k) ?_
                    show own_G p e below _ (s₁.setTop (mkF m 182 #[.val (.ref a1), .val (.int (1 : Int32)), .val (.int p2), .val (.int vg1), .val (.int (4 : Int32)), .val (.int (144 : Int32)), .val (.int (191 : Int32)), .val (.int vg8), .val (.int (4 : Int32))] [(.int (5 : Int32)), (.int (4 : Int32))]))
                    refine own_via (fun t k => XS.icmpNo X0.here hx rfl (hb hby own_d1_182) rfl (tlt (by decide : (4 : Int32) < (5 : Int32))).2.1 k) ?_
                    show own_G p e below _ (s₁.setTop (mkF m 185 #[.val (.ref a1), .val (.int (1 : Int32)), .val (.int p2), .val (.int vg1), .val (.int (4 : Int32)), .val (.int (144 : Int32)), .val (.int (191 : Int32)), .val (.int vg8), .val (.int (4 : Int32))] []))
                    refine own_via (fun t k => XS.aloadN X0.here hx rfl (hb hby own_d1_185) rfl rfl k) ?_
                    show own_G p e below _ (s₁.setTop (mkF m 186 #[.val (.ref a1), .val (.int (1 : Int32)), .val (.int p2), .val (.int vg1), .val (.int (4 : Int32)), .val (.int (144 : Int32)), .val (.int (191 : Int32)), .val (.int vg8), .val (.int (4 : Int32))] [(.ref a1)]))
                    refine own_via (fun t k => XS.iload X0.here hx rfl (hb hby own_d1_186) rfl k) ?_
                    show own_G p e below _ (s₁.setTop (mkF m 188 #[.val (.ref a1), .val (.int (1 : Int32)), .val (.int p2), .val (.int vg1), .val (.int (4 : Int32)), .val (.int (144 : Int32)), .val (.int (191 : Int32)), .val (.int vg8), .val (.int (4 : Int32))] [(.int (4 : Int32)), (.ref a1)]))
                    refine own_via (own_ldB X0 hx hZ e0 i_V0 (j := (4 : Int32)) ⟨by decide, by decide⟩ (v := (.int b4)) rfl (pc := 188) (Ls := #[.val (.ref a1), .val (.int (1 : Int32)), .val (.int p2), .val (.int vg1), .val (.int (4 : Int32)), .val (.int (144 : Int32)), .val (.int (191 : Int32)), .val (.int vg8), .val (.int (4 : Int32))]) (rest := []) (hb hby own_d1_188)) ?_
                    show own_G p e below _ (s₁.setTop (mkF m 189 #[.val (.ref a1), .val (.int (1 : Int32)), .val (.int p2), .val (.int vg1), .val (.int (4 : Int32)), .val (.int (144 : Int32)), .val (.int (191 : Int32)), .val (.int vg8), .val (.int (4 : Int32))] [(.int b4)]))
                    refine own_via (fun t k => XS.sipush X0.here hx rfl (hb hby own_d1_189) k) ?_
                    show own_G p e below _ (s₁.setTop (mkF m 192 #[.val (.ref a1), .val (.int (1 : Int32)), .val (.int p2), .val (.int vg1), .val (.int (4 : Int32)), .val (.int (144 : Int32)), .val (.int (191 : Int32)), .val (.int vg8), .val (.int (4 : Int32))] [(.int (192 : Int32)), (.int b4)]))
                    refine own_via (fun t k => XS.iand X0.here hx rfl (hb hby own_d1_192) rfl k) ?_
                    show own_G p e below _ (s₁.setTop (mkF m 193 #[.val (.ref a1), .val (.int (1 : Int32)), .val (.int p2), .val (.int vg1), .val (.int (4 : Int32)), .val (.int (144 : Int32)), .val (.int (191 : Int32)), .val (.int vg8), .val (.int (4 : Int32))] [(.int (b4 &&& (192 : Int32)))]))
                    refine own_via (fun t k => XS.sipush X0.here hx rfl (hb hby own_d1_193) k) ?_
                    show own_G p e below _ (s₁.setTop (mkF m 196 #[.val (.ref a1), .val (.int (1 : Int32)), .val (.int p2), .val (.int vg1), .val (.int (4 : Int32)), .val (.int (144 : Int32)), .val (.int (191 : Int32)), .val (.int vg8), .val (.int (4 : Int32))] [(.int (128 : Int32)), (.int (b4 &&& (192 : Int32)))]))
                    by_cases hc12 : (b4 &&& (192 : Int32)) = (128 : Int32)
                    ·
                      refine own_via (fun t k => XS.icmpYes X0.here hx rfl (pc0 := 196) (pc' := 201) rfl (hb hby own_d1_196) rfl (teq hc12).1 (by decide) (by decide) k) ?_
                      show own_G p e below _ (s₁.setTop (mkF m 201 #[.val (.ref a1), .val (.int (1 : Int32)), .val (.int p2), .val (.int vg1), .val (.int (4 : Int32)), .val (.int (144 : Int32)), .val (.int (191 : Int32)), .val (.int vg8), .val (.int (4 : Int32))] []))
                      refine own_via (fun t k => XS.iinc X0.here hx rfl (hb hby own_d1_201) rfl (l' := #[.val (.ref a1), .val (.int (1 : Int32)), .val (.int p2), .val (.int vg1), .val (.int (4 : Int32)), .val (.int (144 : Int32)), .val (.int (191 : Int32)), .val (.int vg8), .val (.int (5 : Int32))]) rfl k) ?_
                      show own_G p e below _ (s₁.setTop (mkF m 204 #[.val (.ref a1), .val (.int (1 : Int32)), .val (.int p2), .val (.int vg1), .val (.int (4 : Int32)), .val (.int (144 : Int32)), .val (.int (191 : Int32)), .val (.int vg8), .val (.int (5 : Int32))] []))
                      refine own_via (fun t k => XS.goto X0.here hx rfl (pc0 := 204) (pc' := 176) rfl (hb hby own_d1_204) (by decide) (by decide) k) ?_
                      show own_G p e below _ (s₁.setTop (mkF m 176 #[.val (.ref a1), .val (.int (1 : Int32)), .val (.int p2), .val (.int vg1), .val (.int (4 : Int32)), .val (.int (144 : Int32)), .val (.int (191 : Int32)), .val (.int vg8), .val (.int (5 : Int32))] []))
                      refine own_via (fun t k => XS.iload X0.here hx rfl (hb hby own_d1_176) rfl k) ?_
                      show own_G p e below _ (s₁.setTop (mkF m 178 #[.val (.ref a1), .val (.int (1 : Int32)), .val (.int p2), .val (.int vg1), .val (.int (4 : Int32)), .val (.int (144 : Int32)), .val (.int (191 : Int32)), .val (.int vg8), .val (.int (5 : Int32))] [(.int (5 : Int32))]))
                      refine own_via (fun t k => XS.iloadN X0.here hx rfl (hb hby own_d1_178) rfl k) ?_
                      show own_G p e below _ (s₁.setTop (mkF m 179 #[.val (.ref a1), .val (.int (1 : Int32)), .val (.int p2), .val (.int vg1), .val (.int (4 : Int32)), .val (.int (144 : Int32)), .val (.int (191 : Int32)), .val (.int vg8), .val (.int (5 : Int32))] [(.int (1 : Int32)), (.int (5 : Int32))]))
                      refine own_via (fun t k => XS.iload X0.here hx rfl (hb hby own_d1_179) rfl k) ?_
                      show own_G p e below _ (s₁.setTop (mkF m 181 #[.val (.ref a1), .val (.int (1 : Int32)), .val (.int p2), .val (.int vg1), .val (.int (4 : Int32)), .val (.int (144 : Int32)), .val (.int (191 : Int32)), .val (.int vg8), .val (.int (5 : Int32))] [(.int (4 : Int32)), (.int (1 : Int32)), (.int (5 : Int32))]))
                      refine own_via (fun t k => XS.iadd X0.here hx rfl (hb hby own_d1_181) rfl k) ?_
                      show own_G p e below _ (s₁.setTop (mkF m 182 #[.val (.ref a1), .val (.int (1 : Int32)), .val (.int p2), .val (.int vg1), .val (.int (4 : Int32)), .val (.int (144 : Int32)), .val (.int (191 : Int32)), .val (.int vg8), .val (.int (5 : Int32))] [(.int (5 : Int32)), (.int (5 : Int32))]))
                      refine own_via (fun t k => XS.icmpYes X0.here hx rfl (pc0 := 182) (pc' := 207) rfl (hb hby own_d1_182) rfl (flt (by decide : ¬ ((5 : Int32) < (5 : Int32)))).2.1 (by decide) (by decide) k) ?_
                      show own_G p e below _ (s₁.setTop (mkF m 207 #[.val (.ref a1), .val (.int (1 : Int32)), .val (.int p2), .val (.int vg1), .val (.int (4 : Int32)), .val (.int (144 : Int32)), .val (.int (191 : Int32)), .val (.int vg8), .val (.int (5 : Int32))] []))
                      refine own_via (fun t k => XS.iload X0.here hx rfl (hb hby own_d1_207) rfl k) ?_
                      show own_G p e below _ (s₁.setTop (mkF m 209 #[.val (.ref a1), .val (.int (1 : Int32)), .val (.int p2), .val (.int vg1), .val (.int (4 : Int32)), .val (.int (144 : Int32)), .val (.int (191 : Int32)), .val (.int vg8), .val (.int (5 : Int32))] [(.int (4 : Int32))]))
                      exact own_retI X0 hx Bd.returns Bd.notSynchronized (hb hby own_d1_209) ⟨(by show (some (.int (4 : Int32)) : Option Value) = some (.int (own_Fs1 b1 b2 b3 b4 p2)); subst hvg8; subst hvg1; simp only [own_Fs1, if_neg hc2, if_pos hc3, if_pos hc4, if_neg hc5, if_pos hc6, if_neg hc7, if_neg hc9, if_neg hc10, if_pos hc11, if_pos hc12]), rfl, e0⟩ (by decide) (by decide)
                    ·
                      refine own_via (fun t k => XS.icmpNo X0.here hx rfl (hb hby own_d1_196) rfl (feq hc12).1 k) ?_
                      show own_G p e below _ (s₁.setTop (mkF m 199 #[.val (.ref a1), .val (.int (1 : Int32)), .val (.int p2), .val (.int vg1), .val (.int (4 : Int32)), .val (.int (144 : Int32)), .val (.int (191 : Int32)), .val (.int vg8), .val (.int (4 : Int32))] []))
                      refine own_via (fun t k => XS.iconst X0.here hx rfl (hb hby own_d1_199) k) ?_
                      show own_G p e below _ (s₁.setTop (mkF m 200 #[.val (.ref a1), .val (.int (1 : Int32)), .val (.int p2), .val (.int vg1), .val (.int (4 : Int32)), .val (.int (144 : Int32)), .val (.int (191 : Int32)), .val (.int vg8), .val (.int (4 : Int32))] [(.int (-1 : Int32))]))
                      exact own_retI X0 hx Bd.returns Bd.notSynchronized (hb hby own_d1_200) ⟨(by show (some (.int (-1 : Int32)) : Option Value) = some (.int (own_Fs1 b1 b2 b3 b4 p2)); subst hvg8; subst hvg1; simp only [own_Fs1, if_neg hc2, if_pos hc3, if_pos hc4, if_neg hc5, if_pos hc6, if_neg hc7, if_neg hc9, if_neg hc10, if_pos hc11, if_neg hc12]), rfl, e0⟩ (by decide) (by decide)
                  ·
                    refine own_via (fun t k => XS.icmpNo X0.here hx rfl (hb hby own_d1_196) rfl (feq hc11).1 k) ?_
                    show own_G p e below _ (s₁.setTop (mkF m 199 #[.val (.ref a1), .val (.int (1 : Int32)), .val (.int p2), .val (.int vg1), .val (.int (4 : Int32)), .val (.int (144 : Int32)), .val (.int (191 : Int32)), .val (.int vg8), .val (.int (3 : Int32))] []))
                    refine own_via (fun t k => XS.iconst X0.here hx rfl (hb hby own_d1_199) k) ?_
                    show own_G p e below _ (s₁.setTop (mkF m 200 #[.val (.ref a1), .val (.int (1 : Int32)), .val (.int p2), .val (.int vg1), .val (.int (4 : Int32)), .val (.int (144 : Int32)), .val (.int (191 : Int32)), .val (.int vg8), .val (.int (3 : Int32))] [(.int (-1 : Int32))]))
                    exact own_retI X0 hx Bd.returns Bd.notSynchronized (hb hby own_d1_200) ⟨(by show (some (.int (-1 : Int32)) : Option Value) = some (.int (own_Fs1 b1 b2 b3 b4 p2)); subst hvg8; subst hvg1; simp only [own_Fs1, if_neg hc2, if_pos hc3, if_pos hc4, if_neg hc5, if_pos hc6, if_neg hc7, if_neg hc9, if_neg hc10, if_neg hc11]), rfl, e0⟩ (by decide) (by decide)
          ·
            refine own_via (fun t k => XS.icmpYes X0.here hx rfl (pc0 := 106) (pc' := 117) rfl (hb hby own_d1_106) rfl (feq hc6).2 (by decide) (by decide) k) ?_
            show own_G p e below _ (s₁.setTop (mkF m 117 #[.val (.ref a1), .val (.int (1 : Int32)), .val (.int p2), .val (.int vg1), .val (.int (4 : Int32)), .val (.int (128 : Int32)), .val (.int (191 : Int32)), .unset, .unset] []))
            refine own_via (fun t k => XS.iloadN X0.here hx rfl (hb hby own_d1_117) rfl k) ?_
            show own_G p e below _ (s₁.setTop (mkF m 118 #[.val (.ref a1), .val (.int (1 : Int32)), .val (.int p2), .val (.int vg1), .val (.int (4 : Int32)), .val (.int (128 : Int32)), .val (.int (191 : Int32)), .unset, .unset] [(.int vg1)]))
            refine own_via (fun t k => XS.sipush X0.here hx rfl (hb hby own_d1_118) k) ?_
            show own_G p e below _ (s₁.setTop (mkF m 121 #[.val (.ref a1), .val (.int (1 : Int32)), .val (.int p2), .val (.int vg1), .val (.int (4 : Int32)), .val (.int (128 : Int32)), .val (.int (191 : Int32)), .unset, .unset] [(.int (244 : Int32)), (.int vg1)]))
            by_cases hc13 : vg1 = (244 : Int32)
            ·
              refine own_via (fun t k => XS.icmpNo X0.here hx rfl (hb hby own_d1_121) rfl (teq hc13).2 k) ?_
              show own_G p e below _ (s₁.setTop (mkF m 124 #[.val (.ref a1), .val (.int (1 : Int32)), .val (.int p2), .val (.int vg1), .val (.int (4 : Int32)), .val (.int (128 : Int32)), .val (.int (191 : Int32)), .unset, .unset] []))
              refine own_via (fun t k => XS.sipush X0.here hx rfl (hb hby own_d1_124) k) ?_
              show own_G p e below _ (s₁.setTop (mkF m 127 #[.val (.ref a1), .val (.int (1 : Int32)), .val (.int p2), .val (.int vg1), .val (.int (4 : Int32)), .val (.int (128 : Int32)), .val (.int (191 : Int32)), .unset, .unset] [(.int (143 : Int32))]))
              refine own_via (fun t k => XS.istore X0.here hx rfl (hb hby own_d1_127) rfl (l' := #[.val (.ref a1), .val (.int (1 : Int32)), .val (.int p2), .val (.int vg1), .val (.int (4 : Int32)), .val (.int (128 : Int32)), .val (.int (143 : Int32)), .unset, .unset]) rfl k) ?_
              show own_G p e below _ (s₁.setTop (mkF m 129 #[.val (.ref a1), .val (.int (1 : Int32)), .val (.int p2), .val (.int vg1), .val (.int (4 : Int32)), .val (.int (128 : Int32)), .val (.int (143 : Int32)), .unset, .unset] []))
              refine own_via (fun t k => XS.goto X0.here hx rfl (pc0 := 129) (pc' := 134) rfl (hb hby own_d1_129) (by decide) (by decide) k) ?_
              show own_G p e below _ (s₁.setTop (mkF m 134 #[.val (.ref a1), .val (.int (1 : Int32)), .val (.int p2), .val (.int vg1), .val (.int (4 : Int32)), .val (.int (128 : Int32)), .val (.int (143 : Int32)), .unset, .unset] []))
              refine own_via (fun t k => XS.iloadN X0.here hx rfl (hb hby own_d1_134) rfl k) ?_
              show own_G p e below _ (s₁.setTop (mkF m 135 #[.val (.ref a1), .val (.int (1 : Int32)), .val (.int p2), .val (.int vg1), .val (.int (4 : Int32)), .val (.int (128 : Int32)), .val (.int (143 : Int32)), .unset, .unset] [(.int p2)]))
              refine own_via (fun t k => XS.iloadN X0.here hx rfl (hb hby own_d1_135) rfl k) ?_
              show own_G p e below _ (s₁.setTop (mkF m 136 #[.val (.ref a1), .val (.int (1 : Int32)), .val (.int p2), .val (.int vg1), .val (.int (4 : Int32)), .val (.int (128 : Int32)), .val (.int (143 : Int32)), .unset, .unset] [(.int (1 : Int32)), (.int p2)]))
              refine own_via (fun t k => XS.isub X0.here hx rfl (hb hby own_d1_136) rfl k) ?_
              show own_G p e below _ (s₁.setTop (mkF m 137 #[.val (.ref a1), .val (.int (1 : Int32)), .val (.int p2), .val (.int vg1), .val (.int (4 : Int32)), .val (.int (128 : Int32)), .val (.int (143 : Int32)), .unset, .unset] [(.int (p2 - (1 : Int32)))]))
              refine own_via (fun t k => XS.iload X0.here hx rfl (hb hby own_d1_137) rfl k) ?_
              show own_G p e below _ (s₁.setTop (mkF m 139 #[.val (.ref a1), .val (.int (1 : Int32)), .val (.int p2), .val (.int vg1), .val (.int (4 : Int32)), .val (.int (128 : Int32)), .val (.int (143 : Int32)), .unset, .unset] [(.int (4 : Int32)), (.int (p2 - (1 : Int32)))]))
              by_cases hc14 : (p2 - (1 : Int32)) < (4 : Int32)
              ·
                refine own_via (fun t k => XS.icmpNo X0.here hx rfl (hb hby own_d1_139) rfl (tlt hc14).2.1 k) ?_
                show own_G p e below _ (s₁.setTop (mkF m 142 #[.val (.ref a1), .val (.int (1 : Int32)), .val (.int p2), .val (.int vg1), .val (.int (4 : Int32)), .val (.int (128 : Int32)), .val (.int (143 : Int32)), .unset, .unset] []))
                refine own_via (fun t k => XS.iconst X0.here hx rfl (hb hby own_d1_142) k) ?_
                show own_G p e below _ (s₁.setTop (mkF m 143 #[.val (.ref a1), .val (.int (1 : Int32)), .val (.int p2), .val (.int vg1), .val (.int (4 : Int32)), .val (.int (128 : Int32)), .val (.int (143 : Int32)), .unset, .unset] [(.int (-1 : Int32))]))
                exact own_retI X0 hx Bd.returns Bd.notSynchronized (hb hby own_d1_143) ⟨(by show (some (.int (-1 : Int32)) : Option Value) = some (.int (own_Fs1 b1 b2 b3 b4 p2)); subst hvg1; simp only [own_Fs1, if_neg hc2, if_pos hc3, if_pos hc4, if_neg hc5, if_neg hc6, if_pos hc13, if_pos hc14]), rfl, e0⟩ (by decide) (by decide)
              ·
                refine own_via (fun t k => XS.icmpYes X0.here hx rfl (pc0 := 139) (pc' := 144) rfl (hb hby own_d1_139) rfl (flt hc14).2.1 (by decide) (by decide) k) ?_
                show own_G p e below _ (s₁.setTop (mkF m 144 #[.val (.ref a1), .val (.int (1 : Int32)), .val (.int p2), .val (.int vg1), .val (.int (4 : Int32)), .val (.int (128 : Int32)), .val (.int (143 : Int32)), .unset, .unset] []))
                refine own_via (fun t k => XS.aloadN X0.here hx rfl (hb hby own_d1_144) rfl rfl k) ?_
                show own_G p e below _ (s₁.setTop (mkF m 145 #[.val (.ref a1), .val (.int (1 : Int32)), .val (.int p2), .val (.int vg1), .val (.int (4 : Int32)), .val (.int (128 : Int32)), .val (.int (143 : Int32)), .unset, .unset] [(.ref a1)]))
                refine own_via (fun t k => XS.iloadN X0.here hx rfl (hb hby own_d1_145) rfl k) ?_
                show own_G p e below _ (s₁.setTop (mkF m 146 #[.val (.ref a1), .val (.int (1 : Int32)), .val (.int p2), .val (.int vg1), .val (.int (4 : Int32)), .val (.int (128 : Int32)), .val (.int (143 : Int32)), .unset, .unset] [(.int (1 : Int32)), (.ref a1)]))
                refine own_via (fun t k => XS.iconst X0.here hx rfl (hb hby own_d1_146) k) ?_
                show own_G p e below _ (s₁.setTop (mkF m 147 #[.val (.ref a1), .val (.int (1 : Int32)), .val (.int p2), .val (.int vg1), .val (.int (4 : Int32)), .val (.int (128 : Int32)), .val (.int (143 : Int32)), .unset, .unset] [(.int (1 : Int32)), (.int (1 : Int32)), (.ref a1)]))
                refine own_via (fun t k => XS.iadd X0.here hx rfl (hb hby own_d1_147) rfl k) ?_
                show own_G p e below _ (s₁.setTop (mkF m 148 #[.val (.ref a1), .val (.int (1 : Int32)), .val (.int p2), .val (.int vg1), .val (.int (4 : Int32)), .val (.int (128 : Int32)), .val (.int (143 : Int32)), .unset, .unset] [(.int (2 : Int32)), (.ref a1)]))
                refine own_via (own_ldB X0 hx hZ e0 i_V0 (j := (2 : Int32)) ⟨by decide, by decide⟩ (v := (.int b2)) rfl (pc := 148) (Ls := #[.val (.ref a1), .val (.int (1 : Int32)), .val (.int p2), .val (.int vg1), .val (.int (4 : Int32)), .val (.int (128 : Int32)), .val (.int (143 : Int32)), .unset, .unset]) (rest := []) (hb hby own_d1_148)) ?_
                show own_G p e below _ (s₁.setTop (mkF m 149 #[.val (.ref a1), .val (.int (1 : Int32)), .val (.int p2), .val (.int vg1), .val (.int (4 : Int32)), .val (.int (128 : Int32)), .val (.int (143 : Int32)), .unset, .unset] [(.int b2)]))
                refine own_via (fun t k => XS.sipush X0.here hx rfl (hb hby own_d1_149) k) ?_
                show own_G p e below _ (s₁.setTop (mkF m 152 #[.val (.ref a1), .val (.int (1 : Int32)), .val (.int p2), .val (.int vg1), .val (.int (4 : Int32)), .val (.int (128 : Int32)), .val (.int (143 : Int32)), .unset, .unset] [(.int (255 : Int32)), (.int b2)]))
                refine own_via (fun t k => XS.iand X0.here hx rfl (hb hby own_d1_152) rfl k) ?_
                show own_G p e below _ (s₁.setTop (mkF m 153 #[.val (.ref a1), .val (.int (1 : Int32)), .val (.int p2), .val (.int vg1), .val (.int (4 : Int32)), .val (.int (128 : Int32)), .val (.int (143 : Int32)), .unset, .unset] [(.int (b2 &&& (255 : Int32)))]))
                generalize hvg15 : (b2 &&& (255 : Int32)) = vg15
                show own_G p e below _ (s₁.setTop (mkF m 153 #[.val (.ref a1), .val (.int (1 : Int32)), .val (.int p2), .val (.int vg1), .val (.int (4 : Int32)), .val (.int (128 : Int32)), .val (.int (143 : Int32)), .unset, .unset] [(.int vg15)]))
                refine own_via (fun t k => XS.istore X0.here hx rfl (hb hby own_d1_153) rfl (l' := #[.val (.ref a1), .val (.int (1 : Int32)), .val (.int p2), .val (.int vg1), .val (.int (4 : Int32)), .val (.int (128 : Int32)), .val (.int (143 : Int32)), .val (.int vg15), .unset]) rfl k) ?_
                show own_G p e below _ (s₁.setTop (mkF m 155 #[.val (.ref a1), .val (.int (1 : Int32)), .val (.int p2), .val (.int vg1), .val (.int (4 : Int32)), .val (.int (128 : Int32)), .val (.int (143 : Int32)), .val (.int vg15), .unset] []))
                refine own_via (fun t k => XS.iload X0.here hx rfl (hb hby own_d1_155) rfl k) ?_
                show own_G p e below _ (s₁.setTop (mkF m 157 #[.val (.ref a1), .val (.int (1 : Int32)), .val (.int p2), .val (.int vg1), .val (.int (4 : Int32)), .val (.int (128 : Int32)), .val (.int (143 : Int32)), .val (.int vg15), .unset] [(.int vg15)]))
                refine own_via (fun t k => XS.iload X0.here hx rfl (hb hby own_d1_157) rfl k) ?_
                show own_G p e below _ (s₁.setTop (mkF m 159 #[.val (.ref a1), .val (.int (1 : Int32)), .val (.int p2), .val (.int vg1), .val (.int (4 : Int32)), .val (.int (128 : Int32)), .val (.int (143 : Int32)), .val (.int vg15), .unset] [(.int (128 : Int32)), (.int vg15)]))
                by_cases hc16 : vg15 < (128 : Int32)
                ·
                  refine own_via (fun t k => XS.icmpYes X0.here hx rfl (pc0 := 159) (pc' := 169) rfl (hb hby own_d1_159) rfl (tlt hc16).1 (by decide) (by decide) k) ?_
                  show own_G p e below _ (s₁.setTop (mkF m 169 #[.val (.ref a1), .val (.int (1 : Int32)), .val (.int p2), .val (.int vg1), .val (.int (4 : Int32)), .val (.int (128 : Int32)), .val (.int (143 : Int32)), .val (.int vg15), .unset] []))
                  refine own_via (fun t k => XS.iconst X0.here hx rfl (hb hby own_d1_169) k) ?_
                  show own_G p e below _ (s₁.setTop (mkF m 170 #[.val (.ref a1), .val (.int (1 : Int32)), .val (.int p2), .val (.int vg1), .val (.int (4 : Int32)), .val (.int (128 : Int32)), .val (.int (143 : Int32)), .val (.int vg15), .unset] [(.int (-1 : Int32))]))
                  exact own_retI X0 hx Bd.returns Bd.notSynchronized (hb hby own_d1_170) ⟨(by show (some (.int (-1 : Int32)) : Option Value) = some (.int (own_Fs1 b1 b2 b3 b4 p2)); subst hvg15; subst hvg1; simp only [own_Fs1, if_neg hc2, if_pos hc3, if_pos hc4, if_neg hc5, if_neg hc6, if_pos hc13, if_neg hc14, if_pos hc16]), rfl, e0⟩ (by decide) (by decide)
                ·
                  refine own_via (fun t k => XS.icmpNo X0.here hx rfl (hb hby own_d1_159) rfl (flt hc16).1 k) ?_
                  show own_G p e below _ (s₁.setTop (mkF m 162 #[.val (.ref a1), .val (.int (1 : Int32)), .val (.int p2), .val (.int vg1), .val (.int (4 : Int32)), .val (.int (128 : Int32)), .val (.int (143 : Int32)), .val (.int vg15), .unset] []))
                  refine own_via (fun t k => XS.iload X0.here hx rfl (hb hby own_d1_162) rfl k) ?_
                  show own_G p e below _ (s₁.setTop (mkF m 164 #[.val (.ref a1), .val (.int (1 : Int32)), .val (.int p2), .val (.int vg1), .val (.int (4 : Int32)), .val (.int (128 : Int32)), .val (.int (143 : Int32)), .val (.int vg15), .unset] [(.int vg15)]))
                  refine own_via (fun t k => XS.iload X0.here hx rfl (hb hby own_d1_164) rfl k) ?_
                  show own_G p e below _ (s₁.setTop (mkF m 166 #[.val (.ref a1), .val (.int (1 : Int32)), .val (.int p2), .val (.int vg1), .val (.int (4 : Int32)), .val (.int (128 : Int32)), .val (.int (143 : Int32)), .val (.int vg15), .unset] [(.int (143 : Int32)), (.int vg15)]))
                  by_cases hc17 : (143 : Int32) < vg15
                  ·
                    refine own_via (fun t k => XS.icmpNo X0.here hx rfl (hb hby own_d1_166) rfl (tlt hc17).2.2.2 k) ?_
                    show own_G p e below _ (s₁.setTop (mkF m 169 #[.val (.ref a1), .val (.int (1 : Int32)), .val (.int p2), .val (.int vg1), .val (.int (4 : Int32)), .val (.int (128 : Int32)), .val (.int (143 : Int32)), .val (.int vg15), .unset] []))
                    refine own_via (fun t k => XS.iconst X0.here hx rfl (hb hby own_d1_169) k) ?_
                    show own_G p e below _ (s₁.setTop (mkF m 170 #[.val (.ref a1), .val (.int (1 : Int32)), .val (.int p2), .val (.int vg1), .val (.int (4 : Int32)), .val (.int (128 : Int32)), .val (.int (143 : Int32)), .val (.int vg15), .unset] [(.int (-1 : Int32))]))
                    exact own_retI X0 hx Bd.returns Bd.notSynchronized (hb hby own_d1_170) ⟨(by show (some (.int (-1 : Int32)) : Option Value) = some (.int (own_Fs1 b1 b2 b3 b4 p2)); subst hvg15; subst hvg1; simp only [own_Fs1, if_neg hc2, if_pos hc3, if_pos hc4, if_neg hc5, if_neg hc6, if_pos hc13, if_neg hc14, if_neg hc16, if_pos hc17]), rfl, e0⟩ (by decide) (by decide)
                  ·
                    refine own_via (fun t k => XS.icmpYes X0.here hx rfl (pc0 := 166) (pc' := 171) rfl (hb hby own_d1_166) rfl (flt hc17).2.2.2 (by decide) (by decide) k) ?_
                    show own_G p e below _ (s₁.setTop (mkF m 171 #[.val (.ref a1), .val (.int (1 : Int32)), .val (.int p2), .val (.int vg1), .val (.int (4 : Int32)), .val (.int (128 : Int32)), .val (.int (143 : Int32)), .val (.int vg15), .unset] []))
                    refine own_via (fun t k => XS.iloadN X0.here hx rfl (hb hby own_d1_171) rfl k) ?_
                    show own_G p e below _ (s₁.setTop (mkF m 172 #[.val (.ref a1), .val (.int (1 : Int32)), .val (.int p2), .val (.int vg1), .val (.int (4 : Int32)), .val (.int (128 : Int32)), .val (.int (143 : Int32)), .val (.int vg15), .unset] [(.int (1 : Int32))]))
                    refine own_via (fun t k => XS.iconst X0.here hx rfl (hb hby own_d1_172) k) ?_
                    show own_G p e below _ (s₁.setTop (mkF m 173 #[.val (.ref a1), .val (.int (1 : Int32)), .val (.int p2), .val (.int vg1), .val (.int (4 : Int32)), .val (.int (128 : Int32)), .val (.int (143 : Int32)), .val (.int vg15), .unset] [(.int (2 : Int32)), (.int (1 : Int32))]))
                    refine own_via (fun t k => XS.iadd X0.here hx rfl (hb hby own_d1_173) rfl k) ?_
                    show own_G p e below _ (s₁.setTop (mkF m 174 #[.val (.ref a1), .val (.int (1 : Int32)), .val (.int p2), .val (.int vg1), .val (.int (4 : Int32)), .val (.int (128 : Int32)), .val (.int (143 : Int32)), .val (.int vg15), .unset] [(.int (3 : Int32))]))
                    refine own_via (fun t k => XS.istore X0.here hx rfl (hb hby own_d1_174) rfl (l' := #[.val (.ref a1), .val (.int (1 : Int32)), .val (.int p2), .val (.int vg1), .val (.int (4 : Int32)), .val (.int (128 : Int32)), .val (.int (143 : Int32)), .val (.int vg15), .val (.int (3 : Int32))]) rfl k) ?_
                    show own_G p e below _ (s₁.setTop (mkF m 176 #[.val (.ref a1), .val (.int (1 : Int32)), .val (.int p2), .val (.int vg1), .val (.int (4 : Int32)), .val (.int (128 : Int32)), .val (.int (143 : Int32)), .val (.int vg15), .val (.int (3 : Int32))] []))
                    refine own_via (fun t k => XS.iload X0.here hx rfl (hb hby own_d1_176) rfl k) ?_
                    show own_G p e below _ (s₁.setTop (mkF m 178 #[.val (.ref a1), .val (.int (1 : Int32)), .val (.int p2), .val (.int vg1), .val (.int (4 : Int32)), .val (.int (128 : Int32)), .val (.int (143 : Int32)), .val (.int vg15), .val (.int (3 : Int32))] [(.int (3 : Int32))]))
                    refine own_via (fun t k => XS.iloadN X0.here hx rfl (hb hby own_d1_178) rfl k) ?_
                    show own_G p e below _ (s₁.setTop (mkF m 179 #[.val (.ref a1), .val (.int (1 : Int32)), .val (.int p2), .val (.int vg1), .val (.int (4 : Int32)), .val (.int (128 : Int32)), .val (.int (143 : Int32)), .val (.int vg15), .val (.int (3 : Int32))] [(.int (1 : Int32)), (.int (3 : Int32))]))
                    refine own_via (fun t k => XS.iload X0.here hx rfl (hb hby own_d1_179) rfl k) ?_
                    show own_G p e below _ (s₁.setTop (mkF m 181 #[.val (.ref a1), .val (.int (1 : Int32)), .val (.int p2), .val (.int vg1), .val (.int (4 : Int32)), .val (.int (128 : Int32)), .val (.int (143 : Int32)), .val (.int vg15), .val (.int (3 : Int32))] [(.int (4 : Int32)), (.int (1 : Int32)), (.int (3 : Int32))]))
                    refine own_via (fun t k => XS.iadd X0.here hx rfl (hb hby own_d1_181) rfl k) ?_
                    show own_G p e below _ (s₁.setTop (mkF m 182 #[.val (.ref a1), .val (.int (1 : Int32)), .val (.int p2), .val (.int vg1), .val (.int (4 : Int32)), .val (.int (128 : Int32)), .val (.int (143 : Int32)), .val (.int vg15), .val (.int (3 : Int32))] [(.int (5 : Int32)), (.int (3 : Int32))]))
                    refine own_via (fun t k => XS.icmpNo X0.here hx rfl (hb hby own_d1_182) rfl (tlt (by decide : (3 : Int32) < (5 : Int32))).2.1 k) ?_
                    show own_G p e below _ (s₁.setTop (mkF m 185 #[.val (.ref a1), .val (.int (1 : Int32)), .val (.int p2), .val (.int vg1), .val (.int (4 : Int32)), .val (.int (128 : Int32)), .val (.int (143 : Int32)), .val (.int vg15), .val (.int (3 : Int32))] []))
                    refine own_via (fun t k => XS.aloadN X0.here hx rfl (hb hby own_d1_185) rfl rfl k) ?_
                    show own_G p e below _ (s₁.setTop (mkF m 186 #[.val (.ref a1), .val (.int (1 : Int32)), .val (.int p2), .val (.int vg1), .val (.int (4 : Int32)), .val (.int (128 : Int32)), .val (.int (143 : Int32)), .val (.int vg15), .val (.int (3 : Int32))] [(.ref a1)]))
                    refine own_via (fun t k => XS.iload X0.here hx rfl (hb hby own_d1_186) rfl k) ?_
                    show own_G p e below _ (s₁.setTop (mkF m 188 #[.val (.ref a1), .val (.int (1 : Int32)), .val (.int p2), .val (.int vg1), .val (.int (4 : Int32)), .val (.int (128 : Int32)), .val (.int (143 : Int32)), .val (.int vg15), .val (.int (3 : Int32))] [(.int (3 : Int32)), (.ref a1)]))
                    refine own_via (own_ldB X0 hx hZ e0 i_V0 (j := (3 : Int32)) ⟨by decide, by decide⟩ (v := (.int b3)) rfl (pc := 188) (Ls := #[.val (.ref a1), .val (.int (1 : Int32)), .val (.int p2), .val (.int vg1), .val (.int (4 : Int32)), .val (.int (128 : Int32)), .val (.int (143 : Int32)), .val (.int vg15), .val (.int (3 : Int32))]) (rest := []) (hb hby own_d1_188)) ?_
                    show own_G p e below _ (s₁.setTop (mkF m 189 #[.val (.ref a1), .val (.int (1 : Int32)), .val (.int p2), .val (.int vg1), .val (.int (4 : Int32)), .val (.int (128 : Int32)), .val (.int (143 : Int32)), .val (.int vg15), .val (.int (3 : Int32))] [(.int b3)]))
                    refine own_via (fun t k => XS.sipush X0.here hx rfl (hb hby own_d1_189) k) ?_
                    show own_G p e below _ (s₁.setTop (mkF m 192 #[.val (.ref a1), .val (.int (1 : Int32)), .val (.int p2), .val (.int vg1), .val (.int (4 : Int32)), .val (.int (128 : Int32)), .val (.int (143 : Int32)), .val (.int vg15), .val (.int (3 : Int32))] [(.int (192 : Int32)), (.int b3)]))
                    refine own_via (fun t k => XS.iand X0.here hx rfl (hb hby own_d1_192) rfl k) ?_
                    show own_G p e below _ (s₁.setTop (mkF m 193 #[.val (.ref a1), .val (.int (1 : Int32)), .val (.int p2), .val (.int vg1), .val (.int (4 : Int32)), .val (.int (128 : Int32)), .val (.int (143 : Int32)), .val (.int vg15), .val (.int (3 : Int32))] [(.int (b3 &&& (192 : Int32)))]))
                    refine own_via (fun t k => XS.sipush X0.here hx rfl (hb hby own_d1_193) k) ?_
                    show own_G p e below _ (s₁.setTop (mkF m 196 #[.val (.ref a1), .val (.int (1 : Int32)), .val (.int p2), .val (.int vg1), .val (.int (4 : Int32)), .val (.int (128 : Int32)), .val (.int (143 : Int32)), .val (.int vg15), .val (.int (3 : Int32))] [(.int (128 : Int32)), (.int (b3 &&& (192 : Int32)))]))
                    by_cases hc18 : (b3 &&& (192 : Int32)) = (128 : Int32)
                    ·
                      refine own_via (fun t k => XS.icmpYes X0.here hx rfl (pc0 := 196) (pc' := 201) rfl (hb hby own_d1_196) rfl (teq hc18).1 (by decide) (by decide) k) ?_
                      show own_G p e below _ (s₁.setTop (mkF m 201 #[.val (.ref a1), .val (.int (1 : Int32)), .val (.int p2), .val (.int vg1), .val (.int (4 : Int32)), .val (.int (128 : Int32)), .val (.int (143 : Int32)), .val (.int vg15), .val (.int (3 : Int32))] []))
                      refine own_via (fun t k => XS.iinc X0.here hx rfl (hb hby own_d1_201) rfl (l' := #[.val (.ref a1), .val (.int (1 : Int32)), .val (.int p2), .val (.int vg1), .val (.int (4 : Int32)), .val (.int (128 : Int32)), .val (.int (143 : Int32)), .val (.int vg15), .val (.int (4 : Int32))]) rfl k) ?_
                      show own_G p e below _ (s₁.setTop (mkF m 204 #[.val (.ref a1), .val (.int (1 : Int32)), .val (.int p2), .val (.int vg1), .val (.int (4 : Int32)), .val (.int (128 : Int32)), .val (.int (143 : Int32)), .val (.int vg15), .val (.int (4 : Int32))] []))
                      refine own_via (fun t k => XS.goto X0.here hx rfl (pc0 := 204) (pc' := 176) rfl (hb hby own_d1_204) (by decide) (by decide) k) ?_
                      show own_G p e below _ (s₁.setTop (mkF m 176 #[.val (.ref a1), .val (.int (1 : Int32)), .val (.int p2), .val (.int vg1), .val (.int (4 : Int32)), .val (.int (128 : Int32)), .val (.int (143 : Int32)), .val (.int vg15), .val (.int (4 : Int32))] []))
                      refine own_via (fun t k => XS.iload X0.here hx rfl (hb hby own_d1_176) rfl k) ?_
                      show own_G p e below _ (s₁.setTop (mkF m 178 #[.val (.ref a1), .val (.int (1 : Int32)), .val (.int p2), .val (.int vg1), .val (.int (4 : Int32)), .val (.int (128 : Int32)), .val (.int (143 : Int32)), .val (.int vg15), .val (.int (4 : Int32))] [(.int (4 : Int32))]))
                      refine own_via (fun t k => XS.iloadN X0.here hx rfl (hb hby own_d1_178) rfl k) ?_
                      show own_G p e below _ (s₁.setTop (mkF m 179 #[.val (.ref a1), .val (.int (1 : Int32)), .val (.int p2), .val (.int vg1), .val (.int (4 : Int32)), .val (.int (128 : Int32)), .val (.int (143 : Int32)), .val (.int vg15), .val (.int (4 : Int32))] [(.int (1 : Int32)), (.int (4 : Int32))]))
                      refine own_via (fun t k => XS.iload X0.here hx rfl (hb hby own_d1_179) rfl k) ?_
                      show own_G p e below _ (s₁.setTop (mkF m 181 #[.val (.ref a1), .val (.int (1 : Int32)), .val (.int p2), .val (.int vg1), .val (.int (4 : Int32)), .val (.int (128 : Int32)), .val (.int (143 : Int32)), .val (.int vg15), .val (.int (4 : Int32))] [(.int (4 : Int32)), (.int (1 : Int32)), (.int (4 : Int32))]))
                      refine own_via (fun t k => XS.iadd X0.here hx rfl (hb hby own_d1_181) rfl k) ?_
                      show own_G p e below _ (s₁.setTop (mkF m 182 #[.val (.ref a1), .val (.int (1 : Int32)), .val (.int p2), .val (.int vg1), .val (.int (4 : Int32)), .val (.int (128 : Int32)), .val (.int (143 : Int32)), .val (.int vg15), .val (.int (4 : Int32))] [(.int (5 : Int32)), (.int (4 : Int32))]))
                      refine own_via (fun t k => XS.icmpNo X0.here hx rfl (hb hby own_d1_182) rfl (tlt (by decide : (4 : Int32) < (5 : Int32))).2.1 k) ?_
                      show own_G p e below _ (s₁.setTop (mkF m 185 #[.val (.ref a1), .val (.int (1 : Int32)), .val (.int p2), .val (.int vg1), .val (.int (4 : Int32)), .val (.int (128 : Int32)), .val (.int (143 : Int32)), .val (.int vg15), .val (.int (4 : Int32))] []))
                      refine own_via (fun t k => XS.aloadN X0.here hx rfl (hb hby own_d1_185) rfl rfl k) ?_
                      show own_G p e below _ (s₁.setTop (mkF m 186 #[.val (.ref a1), .val (.int (1 : Int32)), .val (.int p2), .val (.int vg1), .val (.int (4 : Int32)), .val (.int (128 : Int32)), .val (.int (143 : Int32)), .val (.int vg15), .val (.int (4 : Int32))] [(.ref a1)]))
                      refine own_via (fun t k => XS.iload X0.here hx rfl (hb hby own_d1_186) rfl k) ?_
                      show own_G p e below _ (s₁.setTop (mkF m 188 #[.val (.ref a1), .val (.int (1 : Int32)), .val (.int p2), .val (.int vg1), .val (.int (4 : Int32)), .val (.int (128 : Int32)), .val (.int (143 : Int32)), .val (.int vg15), .val (.int (4 : Int32))] [(.int (4 : Int32)), (.ref a1)]))
                      refine own_via (own_ldB X0 hx hZ e0 i_V0 (j := (4 : Int32)) ⟨by decide, by decide⟩ (v := (.int b4)) rfl (pc := 188) (Ls := #[.val (.ref a1), .val (.int (1 : Int32)), .val (.int p2), .val (.int vg1), .val (.int (4 : Int32)), .val (.int (128 : Int32)), .val (.int (143 : Int32)), .val (.int vg15), .val (.int (4 : Int32))]) (rest := []) (hb hby own_d1_188)) ?_
                      show own_G p e below _ (s₁.setTop (mkF m 189 #[.val (.ref a1), .val (.int (1 : Int32)), .val (.int p2), .val (.int vg1), .val (.int (4 : Int32)), .val (.int (128 : Int32)), .val (.int (143 : Int32)), .val (.int vg15), .val (.int (4 : Int32))] [(.int b4)]))
                      refine own_via (fun t k => XS.sipush X0.here hx rfl (hb hby own_d1_189) k) ?_
                      show own_G p e below _ (s₁.setTop (mkF m 192 #[.val (.ref a1), .val (.int (1 : Int32)), .val (.int p2), .val (.int vg1), .val (.int (4 : Int32)), .val (.int (128 : Int32)), .val (.int (143 : Int32)), .val (.int vg15), .val (.int (4 : Int32))] [(.int (192 : Int32)), (.int b4)]))
                      refine own_via (fun t k => XS.iand X0.here hx rfl (hb hby own_d1_192) rfl k) ?_
                      show own_G p e below _ (s₁.setTop (mkF m 193 #[.val (.ref a1), .val (.int (1 : Int32)), .val (.int p2), .val (.int vg1), .val (.int (4 : Int32)), .val (.int (128 : Int32)), .val (.int (143 : Int32)), .val (.int vg15), .val (.int (4 : Int32))] [(.int (b4 &&& (192 : Int32)))]))
                      refine own_via (fun t k => XS.sipush X0.here hx rfl (hb hby own_d1_193) k) ?_
                      show own_G p e below _ (s₁.setTop (mkF m 196 #[.val (.ref a1), .val (.int (1 : Int32)), .val (.int p2), .val (.int vg1), .val (.int (4 : Int32)), .val (.int (128 : Int32)), .val (.int (143 : Int32)), .val (.int vg15), .val (.int (4 : Int32))] [(.int (128 : Int32)), (.int (b4 &&& (192 : Int32)))]))
                      by_cases hc19 : (b4 &&& (192 : Int32)) = (128 : Int32)
                      ·
                        refine own_via (fun t k => XS.icmpYes X0.here hx rfl (pc0 := 196) (pc' := 201) rfl (hb hby own_d1_196) rfl (teq hc19).1 (by decide) (by decide) k) ?_
                        show own_G p e below _ (s₁.setTop (mkF m 201 #[.val (.ref a1), .val (.int (1 : Int32)), .val (.int p2), .val (.int vg1), .val (.int (4 : Int32)), .val (.int (128 : Int32)), .val (.int (143 : Int32)), .val (.int vg15), .val (.int (4 : Int32))] []))
                        refine own_via (fun t k => XS.iinc X0.here hx rfl (hb hby own_d1_201) rfl (l' := #[.val (.ref a1), .val (.int (1 : Int32)), .val (.int p2), .val (.int vg1), .val (.int (4 : Int32)), .val (.int (128 : Int32)), .val (.int (143 : Int32)), .val (.int vg15), .val (.int (5 : Int32))]) rfl k) ?_
                        show own_G p e below _ (s₁.setTop (mkF m 204 #[.val (.ref a1), .val (.int (1 : Int32)), .val (.int p2), .val (.int vg1), .val (.int (4 : Int32)), .val (.int (128 : Int32)), .val (.int (143 : Int32)), .val (.int vg15), .val (.int (5 : Int32))] []))
                        refine own_via (fun t k => XS.goto X0.here hx rfl (pc0 := 204) (pc' := 176) rfl (hb hby own_d1_204) (by decide) (by decide) k) ?_
                        show own_G p e below _ (s₁.setTop (mkF m 176 #[.val (.ref a1), .val (.int (1 : Int32)), .val (.int p2), .val (.int vg1), .val (.int (4 : Int32)), .val (.int (128 : Int32)), .val (.int (143 : Int32)), .val (.int vg15), .val (.int (5 : Int32))] []))
                        refine own_via (fun t k => XS.iload X0.here hx rfl (hb hby own_d1_176) rfl k) ?_
                        show own_G p e below _ (s₁.setTop (mkF m 178 #[.val (.ref a1), .val (.int (1 : Int32)), .val (.int p2), .val (.int vg1), .val (.int (4 : Int32)), .val (.int (128 : Int32)), .val (.int (143 : Int32)), .val (.int vg15), .val (.int (5 : Int32))] [(.int (5 : Int32))]))
                        refine own_via (fun t k => XS.iloadN X0.here hx rfl (hb hby own_d1_178) rfl k) ?_
                        show own_G p e below _ (s₁.setTop (mkF m 179 #[.val (.ref a1), .val (.int (1 : Int32)), .val (.int p2), .val (.int vg1), .val (.int (4 : Int32)), .val (.int (128 : Int32)), .val (.int (143 : Int32)), .val (.int vg15), .val (.int (5 : Int32))] [(.int (1 : Int32)), (.int (5 : Int32))]))
                        refine own_via (fun t k => XS.iload X0.here hx rfl (hb hby own_d1_179) rfl k) ?_
                        show own_G p e below _ (s₁.setTop (mkF m 181 #[.val (.ref a1), .val (.int (1 : Int32)), .val (.int p2), .val (.int vg1), .val (.int (4 : Int32)), .val (.int (128 : Int32)), .val (.int (143 : Int32)), .val (.int vg15), .val (.int (5 : Int32))] [(.int (4 : Int32)), (.int (1 : Int32)), (.int (5 : Int32))]))
                        refine own_via (fun t k => XS.iadd X0.here hx rfl (hb hby own_d1_181) rfl k) ?_
                        show own_G p e below _ (s₁.setTop (mkF m 182 #[.val (.ref a1), .val (.int (1 : Int32)), .val (.int p2), .val (.int vg1), .val (.int (4 : Int32)), .val (.int (128 : Int32)), .val (.int (143 : Int32)), .val (.int vg15), .val (.int (5 : Int32))] [(.int (5 : Int32)), (.int (5 : Int32))]))
                        refine own_via (fun t k => XS.icmpYes X0.here hx rfl (pc0 := 182) (pc' := 207) rfl (hb hby own_d1_182) rfl (flt (by decide : ¬ ((5 : Int32) < (5 : Int32)))).2.1 (by decide) (by decide) k) ?_
                        show own_G p e below _ (s₁.setTop (mkF m 207 #[.val (.ref a1), .val (.int (1 : Int32)), .val (.int p2), .val (.int vg1), .val (.int (4 : Int32)), .val (.int (128 : Int32)), .val (.int (143 : Int32)), .val (.int vg15), .val (.int (5 : Int32))] []))
                        refine own_via (fun t k => XS.iload X0.here hx rfl (hb hby own_d1_207) rfl k) ?_
                        show own_G p e below _ (s₁.setTop (mkF m 209 #[.val (.ref a1), .val (.int (1 : Int32)), .val (.int p2), .val (.int vg1), .val (.int (4 : Int32)), .val (.int (128 : Int32)), .val (.int (143 : Int32)), .val (.int vg15), .val (.int (5 : Int32))] [(.int (4 : Int32))]))
                        exact own_retI X0 hx Bd.returns Bd.notSynchronized (hb hby own_d1_209) ⟨(by show (some (.int (4 : Int32)) : Option Value) = some (.int (own_Fs1 b1 b2 b3 b4 p2)); subst hvg15; subst hvg1; simp only [own_Fs1, if_neg hc2, if_pos hc3, if_pos hc4, if_neg hc5, if_neg hc6, if_pos hc13, if_neg hc14, if_neg hc16, if_neg hc17, if_pos hc18, if_pos hc19]), rfl, e0⟩ (by decide) (by decide)
                      ·
                        refine own_via (fun t k => XS.icmpNo X0.here hx rfl (hb hby own_d1_196) rfl (feq hc19).1 k) ?_
                        show own_G p e below _ (s₁.setTop (mkF m 199 #[.val (.ref a1), .val (.int (1 : Int32)), .val (.int p2), .val (.int vg1), .val (.int (4 : Int32)), .val (.int (128 : Int32)), .val (.int (143 : Int32)), .val (.int vg15), .val (.int (4 : Int32))] []))
                        refine own_via (fun t k => XS.iconst X0.here hx rfl (hb hby own_d1_199) k) ?_
                        show own_G p e below _ (s₁.setTop (mkF m 200 #[.val (.ref a1), .val (.int (1 : Int32)), .val (.int p2), .val (.int vg1), .val (.int (4 : Int32)), .val (.int (128 : Int32)), .val (.int (143 : Int32)), .val (.int vg15), .val (.int (4 : Int32))] [(.int (-1 : Int32))]))
                        exact own_retI X0 hx Bd.returns Bd.notSynchronized (hb hby own_d1_200) ⟨(by show (some (.int (-1 : Int32)) : Option Value) = some (.int (own_Fs1 b1 b2 b3 b4 p2)); subst hvg15; subst hvg1; simp only [own_Fs1, if_neg hc2, if_pos hc3, if_pos hc4, if_neg hc5, if_neg hc6, if_pos hc13, if_neg hc14, if_neg hc16, if_neg hc17, if_pos hc18, if_neg hc19]), rfl, e0⟩ (by decide) (by decide)
                    ·
                      refine own_via (fun t k => XS.icmpNo X0.here hx rfl (hb hby own_d1_196) rfl (feq hc18).1 k) ?_
                      show own_G p e below _ (s₁.setTop (mkF m 199 #[.val (.ref a1), .val (.int (1 : Int32)), .val (.int p2), .val (.int vg1), .val (.int (4 : Int32)), .val (.int (128 : Int32)), .val (.int (143 : Int32)), .val (.int vg15), .val (.int (3 : Int32))] []))
                      refine own_via (fun t k => XS.iconst X0.here hx rfl (hb hby own_d1_199) k) ?_
                      show own_G p e below _ (s₁.setTop (mkF m 200 #[.val (.ref a1), .val (.int (1 : Int32)), .val (.int p2), .val (.int vg1), .val (.int (4 : Int32)), .val (.int (128 : Int32)), .val (.int (143 : Int32)), .val (.int vg15), .val (.int (3 : Int32))] [(.int (-1 : Int32))]))
                      exact own_retI X0 hx Bd.returns Bd.notSynchronized (hb hby own_d1_200) ⟨(by show (some (.int (-1 : Int32)) : Option Value) = some (.int (own_Fs1 b1 b2 b3 b4 p2)); subst hvg15; subst hvg1; simp only [own_Fs1, if_neg hc2, if_pos hc3, if_pos hc4, if_neg hc5, if_neg hc6, if_pos hc13, if_neg hc14, if_neg hc16, if_neg hc17, if_neg hc18]), rfl, e0⟩ (by decide) (by decide)
            ·
              refine own_via (fun t k => XS.icmpYes X0.here hx rfl (pc0 := 121) (pc' := 134) rfl (hb hby own_d1_121) rfl (feq hc13).2 (by decide) (by decide) k) ?_
              show own_G p e below _ (s₁.setTop (mkF m 134 #[.val (.ref a1), .val (.int (1 : Int32)), .val (.int p2), .val (.int vg1), .val (.int (4 : Int32)), .val (.int (128 : Int32)), .val (.int (191 : Int32)), .unset, .unset] []))
              refine own_via (fun t k => XS.iloadN X0.here hx rfl (hb hby own_d1_134) rfl k) ?_
              show own_G p e below _ (s₁.setTop (mkF m 135 #[.val (.ref a1), .val (.int (1 : Int32)), .val (.int p2), .val (.int vg1), .val (.int (4 : Int32)), .val (.int (128 : Int32)), .val (.int (191 : Int32)), .unset, .unset] [(.int p2)]))
              refine own_via (fun t k => XS.iloadN X0.here hx rfl (hb hby own_d1_135) rfl k) ?_
              show own_G p e below _ (s₁.setTop (mkF m 136 #[.val (.ref a1), .val (.int (1 : Int32)), .val (.int p2), .val (.int vg1), .val (.int (4 : Int32)), .val (.int (128 : Int32)), .val (.int (191 : Int32)), .unset, .unset] [(.int (1 : Int32)), (.int p2)]))
              refine own_via (fun t k => XS.isub X0.here hx rfl (hb hby own_d1_136) rfl k) ?_
              show own_G p e below _ (s₁.setTop (mkF m 137 #[.val (.ref a1), .val (.int (1 : Int32)), .val (.int p2), .val (.int vg1), .val (.int (4 : Int32)), .val (.int (128 : Int32)), .val (.int (191 : Int32)), .unset, .unset] [(.int (p2 - (1 : Int32)))]))
              refine own_via (fun t k => XS.iload X0.here hx rfl (hb hby own_d1_137) rfl k) ?_
              show own_G p e below _ (s₁.setTop (mkF m 139 #[.val (.ref a1), .val (.int (1 : Int32)), .val (.int p2), .val (.int vg1), .val (.int (4 : Int32)), .val (.int (128 : Int32)), .val (.int (191 : Int32)), .unset, .unset] [(.int (4 : Int32)), (.int (p2 - (1 : Int32)))]))
              by_cases hc20 : (p2 - (1 : Int32)) < (4 : Int32)
              ·
                refine own_via (fun t k => XS.icmpNo X0.here hx rfl (hb hby own_d1_139) rfl (tlt hc20).2.1 k) ?_
                show own_G p e below _ (s₁.setTop (mkF m 142 #[.val (.ref a1), .val (.int (1 : Int32)), .val (.int p2), .val (.int vg1), .val (.int (4 : Int32)), .val (.int (128 : Int32)), .val (.int (191 : Int32)), .unset, .unset] []))
                refine own_via (fun t k => XS.iconst X0.here hx rfl (hb hby own_d1_142) k) ?_
                show own_G p e below _ (s₁.setTop (mkF m 143 #[.val (.ref a1), .val (.int (1 : Int32)), .val (.int p2), .val (.int vg1), .val (.int (4 : Int32)), .val (.int (128 : Int32)), .val (.int (191 : Int32)), .unset, .unset] [(.int (-1 : Int32))]))
                exact own_retI X0 hx Bd.returns Bd.notSynchronized (hb hby own_d1_143) ⟨(by show (some (.int (-1 : Int32)) : Option Value) = some (.int (own_Fs1 b1 b2 b3 b4 p2)); subst hvg1; simp only [own_Fs1, if_neg hc2, if_pos hc3, if_pos hc4, if_neg hc5, if_neg hc6, if_neg hc13, if_pos hc20]), rfl, e0⟩ (by decide) (by decide)
              ·
                refine own_via (fun t k => XS.icmpYes X0.here hx rfl (pc0 := 139) (pc' := 144) rfl (hb hby own_d1_139) rfl (flt hc20).2.1 (by decide) (by decide) k) ?_
                show own_G p e below _ (s₁.setTop (mkF m 144 #[.val (.ref a1), .val (.int (1 : Int32)), .val (.int p2), .val (.int vg1), .val (.int (4 : Int32)), .val (.int (128 : Int32)), .val (.int (191 : Int32)), .unset, .unset] []))
                refine own_via (fun t k => XS.aloadN X0.here hx rfl (hb hby own_d1_144) rfl rfl k) ?_
                show own_G p e below _ (s₁.setTop (mkF m 145 #[.val (.ref a1), .val (.int (1 : Int32)), .val (.int p2), .val (.int vg1), .val (.int (4 : Int32)), .val (.int (128 : Int32)), .val (.int (191 : Int32)), .unset, .unset] [(.ref a1)]))
                refine own_via (fun t k => XS.iloadN X0.here hx rfl (hb hby own_d1_145) rfl k) ?_
                show own_G p e below _ (s₁.setTop (mkF m 146 #[.val (.ref a1), .val (.int (1 : Int32)), .val (.int p2), .val (.int vg1), .val (.int (4 : Int32)), .val (.int (128 : Int32)), .val (.int (191 : Int32)), .unset, .unset] [(.int (1 : Int32)), (.ref a1)]))
                refine own_via (fun t k => XS.iconst X0.here hx rfl (hb hby own_d1_146) k) ?_
                show own_G p e below _ (s₁.setTop (mkF m 147 #[.val (.ref a1), .val (.int (1 : Int32)), .val (.int p2), .val (.int vg1), .val (.int (4 : Int32)), .val (.int (128 : Int32)), .val (.int (191 : Int32)), .unset, .unset] [(.int (1 : Int32)), (.int (1 : Int32)), (.ref a1)]))
                refine own_via (fun t k => XS.iadd X0.here hx rfl (hb hby own_d1_147) rfl k) ?_
                show own_G p e below _ (s₁.setTop (mkF m 148 #[.val (.ref a1), .val (.int (1 : Int32)), .val (.int p2), .val (.int vg1), .val (.int (4 : Int32)), .val (.int (128 : Int32)), .val (.int (191 : Int32)), .unset, .unset] [(.int (2 : Int32)), (.ref a1)]))
                refine own_via (own_ldB X0 hx hZ e0 i_V0 (j := (2 : Int32)) ⟨by decide, by decide⟩ (v := (.int b2)) rfl (pc := 148) (Ls := #[.val (.ref a1), .val (.int (1 : Int32)), .val (.int p2), .val (.int vg1), .val (.int (4 : Int32)), .val (.int (128 : Int32)), .val (.int (191 : Int32)), .unset, .unset]) (rest := []) (hb hby own_d1_148)) ?_
                show own_G p e below _ (s₁.setTop (mkF m 149 #[.val (.ref a1), .val (.int (1 : Int32)), .val (.int p2), .val (.int vg1), .val (.int (4 : Int32)), .val (.int (128 : Int32)), .val (.int (191 : Int32)), .unset, .unset] [(.int b2)]))
                refine own_via (fun t k => XS.sipush X0.here hx rfl (hb hby own_d1_149) k) ?_
                show own_G p e below _ (s₁.setTop (mkF m 152 #[.val (.ref a1), .val (.int (1 : Int32)), .val (.int p2), .val (.int vg1), .val (.int (4 : Int32)), .val (.int (128 : Int32)), .val (.int (191 : Int32)), .unset, .unset] [(.int (255 : Int32)), (.int b2)]))
                refine own_via (fun t k => XS.iand X0.here hx rfl (hb hby own_d1_152) rfl k) ?_
                show own_G p e below _ (s₁.setTop (mkF m 153 #[.val (.ref a1), .val (.int (1 : Int32)), .val (.int p2), .val (.int vg1), .val (.int (4 : Int32)), .val (.int (128 : Int32)), .val (.int (191 : Int32)), .unset, .unset] [(.int (b2 &&& (255 : Int32)))]))
                generalize hvg21 : (b2 &&& (255 : Int32)) = vg21
                show own_G p e below _ (s₁.setTop (mkF m 153 #[.val (.ref a1), .val (.int (1 : Int32)), .val (.int p2), .val (.int vg1), .val (.int (4 : Int32)), .val (.int (128 : Int32)), .val (.int (191 : Int32)), .unset, .unset] [(.int vg21)]))
                refine own_via (fun t k => XS.istore X0.here hx rfl (hb hby own_d1_153) rfl (l' := #[.val (.ref a1), .val (.int (1 : Int32)), .val (.int p2), .val (.int vg1), .val (.int (4 : Int32)), .val (.int (128 : Int32)), .val (.int (191 : Int32)), .val (.int vg21), .unset]) rfl k) ?_
                show own_G p e below _ (s₁.setTop (mkF m 155 #[.val (.ref a1), .val (.int (1 : Int32)), .val (.int p2), .val (.int vg1), .val (.int (4 : Int32)), .val (.int (128 : Int32)), .val (.int (191 : Int32)), .val (.int vg21), .unset] []))
                refine own_via (fun t k => XS.iload X0.here hx rfl (hb hby own_d1_155) rfl k) ?_
                show own_G p e below _ (s₁.setTop (mkF m 157 #[.val (.ref a1), .val (.int (1 : Int32)), .val (.int p2), .val (.int vg1), .val (.int (4 : Int32)), .val (.int (128 : Int32)), .val (.int (191 : Int32)), .val (.int vg21), .unset] [(.int vg21)]))
                refine own_via (fun t k => XS.iload X0.here hx rfl (hb hby own_d1_157) rfl k) ?_
                show own_G p e below _ (s₁.setTop (mkF m 159 #[.val (.ref a1), .val (.int (1 : Int32)), .val (.int p2), .val (.int vg1), .val (.int (4 : Int32)), .val (.int (128 : Int32)), .val (.int (191 : Int32)), .val (.int vg21), .unset] [(.int (128 : Int32)), (.int vg21)]))
                by_cases hc22 : vg21 < (128 : Int32)
                ·
                  refine own_via (fun t k => XS.icmpYes X0.here hx rfl (pc0 := 159) (pc' := 169) rfl (hb hby own_d1_159) rfl (tlt hc22).1 (by decide) (by decide) k) ?_
                  show own_G p e below _ (s₁.setTop (mkF m 169 #[.val (.ref a1), .val (.int (1 : Int32)), .val (.int p2), .val (.int vg1), .val (.int (4 : Int32)), .val (.int (128 : Int32)), .val (.int (191 : Int32)), .val (.int vg21), .unset] []))
                  refine own_via (fun t k => XS.iconst X0.here hx rfl (hb hby own_d1_169) k) ?_
                  show own_G p e below _ (s₁.setTop (mkF m 170 #[.val (.ref a1), .val (.int (1 : Int32)), .val (.int p2), .val (.int vg1), .val (.int (4 : Int32)), .val (.int (128 : Int32)), .val (.int (191 : Int32)), .val (.int vg21), .unset] [(.int (-1 : Int32))]))
                  exact own_retI X0 hx Bd.returns Bd.notSynchronized (hb hby own_d1_170) ⟨(by show (some (.int (-1 : Int32)) : Option Value) = some (.int (own_Fs1 b1 b2 b3 b4 p2)); subst hvg21; subst hvg1; simp only [own_Fs1, if_neg hc2, if_pos hc3, if_pos hc4, if_neg hc5, if_neg hc6, if_neg hc13, if_neg hc20, if_pos hc22]), rfl, e0⟩ (by decide) (by decide)
                ·
                  refine own_via (fun t k => XS.icmpNo X0.here hx rfl (hb hby own_d1_159) rfl (flt hc22).1 k) ?_
                  show own_G p e below _ (s₁.setTop (mkF m 162 #[.val (.ref a1), .val (.int (1 : Int32)), .val (.int p2), .val (.int vg1), .val (.int (4 : Int32)), .val (.int (128 : Int32)), .val (.int (191 : Int32)), .val (.int vg21), .unset] []))
                  refine own_via (fun t k => XS.iload X0.here hx rfl (hb hby own_d1_162) rfl k) ?_
                  show own_G p e below _ (s₁.setTop (mkF m 164 #[.val (.ref a1), .val (.int (1 : Int32)), .val (.int p2), .val (.int vg1), .val (.int (4 : Int32)), .val (.int (128 : Int32)), .val (.int (191 : Int32)), .val (.int vg21), .unset] [(.int vg21)]))
                  refine own_via (fun t k => XS.iload X0.here hx rfl (hb hby own_d1_164) rfl k) ?_
                  show own_G p e below _ (s₁.setTop (mkF m 166 #[.val (.ref a1), .val (.int (1 : Int32)), .val (.int p2), .val (.int vg1), .val (.int (4 : Int32)), .val (.int (128 : Int32)), .val (.int (191 : Int32)), .val (.int vg21), .unset] [(.int (191 : Int32)), (.int vg21)]))
                  by_cases hc23 : (191 : Int32) < vg21
                  ·
                    refine own_via (fun t k => XS.icmpNo X0.here hx rfl (hb hby own_d1_166) rfl (tlt hc23).2.2.2 k) ?_
                    show own_G p e below _ (s₁.setTop (mkF m 169 #[.val (.ref a1), .val (.int (1 : Int32)), .val (.int p2), .val (.int vg1), .val (.int (4 : Int32)), .val (.int (128 : Int32)), .val (.int (191 : Int32)), .val (.int vg21), .unset] []))
                    refine own_via (fun t k => XS.iconst X0.here hx rfl (hb hby own_d1_169) k) ?_
                    show own_G p e below _ (s₁.setTop (mkF m 170 #[.val (.ref a1), .val (.int (1 : Int32)), .val (.int p2), .val (.int vg1), .val (.int (4 : Int32)), .val (.int (128 : Int32)), .val (.int (191 : Int32)), .val (.int vg21), .unset] [(.int (-1 : Int32))]))
                    exact own_retI X0 hx Bd.returns Bd.notSynchronized (hb hby own_d1_170) ⟨(by show (some (.int (-1 : Int32)) : Option Value) = some (.int (own_Fs1 b1 b2 b3 b4 p2)); subst hvg21; subst hvg1; simp only [own_Fs1, if_neg hc2, if_pos hc3, if_pos hc4, if_neg hc5, if_neg hc6, if_neg hc13, if_neg hc20, if_neg hc22, if_pos hc23]), rfl, e0⟩ (by decide) (by decide)
                  ·
                    refine own_via (fun t k => XS.icmpYes X0.here hx rfl (pc0 := 166) (pc' := 171) rfl (hb hby own_d1_166) rfl (flt hc23).2.2.2 (by decide) (by decide) k) ?_
                    show own_G p e below _ (s₁.setTop (mkF m 171 #[.val (.ref a1), .val (.int (1 : Int32)), .val (.int p2), .val (.int vg1), .val (.int (4 : Int32)), .val (.int (128 : Int32)), .val (.int (191 : Int32)), .val (.int vg21), .unset] []))
                    refine own_via (fun t k => XS.iloadN X0.here hx rfl (hb hby own_d1_171) rfl k) ?_
                    show own_G p e below _ (s₁.setTop (mkF m 172 #[.val (.ref a1), .val (.int (1 : Int32)), .val (.int p2), .val (.int vg1), .val (.int (4 : Int32)), .val (.int (128 : Int32)), .val (.int (191 : Int32)), .val (.int vg21), .unset] [(.int (1 : Int32))]))
                    refine own_via (fun t k => XS.iconst X0.here hx rfl (hb hby own_d1_172) k) ?_
                    show own_G p e below _ (s₁.setTop (mkF m 173 #[.val (.ref a1), .val (.int (1 : Int32)), .val (.int p2), .val (.int vg1), .val (.int (4 : Int32)), .val (.int (128 : Int32)), .val (.int (191 : Int32)), .val (.int vg21), .unset] [(.int (2 : Int32)), (.int (1 : Int32))]))
                    refine own_via (fun t k => XS.iadd X0.here hx rfl (hb hby own_d1_173) rfl k) ?_
                    show own_G p e below _ (s₁.setTop (mkF m 174 #[.val (.ref a1), .val (.int (1 : Int32)), .val (.int p2), .val (.int vg1), .val (.int (4 : Int32)), .val (.int (128 : Int32)), .val (.int (191 : Int32)), .val (.int vg21), .unset] [(.int (3 : Int32))]))
                    refine own_via (fun t k => XS.istore X0.here hx rfl (hb hby own_d1_174) rfl (l' := #[.val (.ref a1), .val (.int (1 : Int32)), .val (.int p2), .val (.int vg1), .val (.int (4 : Int32)), .val (.int (128 : Int32)), .val (.int (191 : Int32)), .val (.int vg21), .val (.int (3 : Int32))]) rfl k) ?_
                    show own_G p e below _ (s₁.setTop (mkF m 176 #[.val (.ref a1), .val (.int (1 : Int32)), .val (.int p2), .val (.int vg1), .val (.int (4 : Int32)), .val (.int (128 : Int32)), .val (.int (191 : Int32)), .val (.int vg21), .val (.int (3 : Int32))] []))
                    refine own_via (fun t k => XS.iload X0.here hx rfl (hb hby own_d1_176) rfl k) ?_
                    show own_G p e below _ (s₁.setTop (mkF m 178 #[.val (.ref a1), .val (.int (1 : Int32)), .val (.int p2), .val (.int vg1), .val (.int (4 : Int32)), .val (.int (128 : Int32)), .val (.int (191 : Int32)), .val (.int vg21), .val (.int (3 : Int32))] [(.int (3 : Int32))]))
                    refine own_via (fun t k => XS.iloadN X0.here hx rfl (hb hby own_d1_178) rfl k) ?_
                    show own_G p e below _ (s₁.setTop (mkF m 179 #[.val (.ref a1), .val (.int (1 : Int32)), .val (.int p2), .val (.int vg1), .val (.int (4 : Int32)), .val (.int (128 : Int32)), .val (.int (191 : Int32)), .val (.int vg21), .val (.int (3 : Int32))] [(.int (1 : Int32)), (.int (3 : Int32))]))
                    refine own_via (fun t k => XS.iload X0.here hx rfl (hb hby own_d1_179) rfl k) ?_
                    show own_G p e below _ (s₁.setTop (mkF m 181 #[.val (.ref a1), .val (.int (1 : Int32)), .val (.int p2), .val (.int vg1), .val (.int (4 : Int32)), .val (.int (128 : Int32)), .val (.int (191 : Int32)), .val (.int vg21), .val (.int (3 : Int32))] [(.int (4 : Int32)), (.int (1 : Int32)), (.int (3 : Int32))]))
                    refine own_via (fun t k => XS.iadd X0.here hx rfl (hb hby own_d1_181) rfl k) ?_
                    show own_G p e below _ (s₁.setTop (mkF m 182 #[.val (.ref a1), .val (.int (1 : Int32)), .val (.int p2), .val (.int vg1), .val (.int (4 : Int32)), .val (.int (128 : Int32)), .val (.int (191 : Int32)), .val (.int vg21), .val (.int (3 : Int32))] [(.int (5 : Int32)), (.int (3 : Int32))]))
                    refine own_via (fun t k => XS.icmpNo X0.here hx rfl (hb hby own_d1_182) rfl (tlt (by decide : (3 : Int32) < (5 : Int32))).2.1 k) ?_
                    show own_G p e below _ (s₁.setTop (mkF m 185 #[.val (.ref a1), .val (.int (1 : Int32)), .val (.int p2), .val (.int vg1), .val (.int (4 : Int32)), .val (.int (128 : Int32)), .val (.int (191 : Int32)), .val (.int vg21), .val (.int (3 : Int32))] []))
                    refine own_via (fun t k => XS.aloadN X0.here hx rfl (hb hby own_d1_185) rfl rfl k) ?_
                    show own_G p e below _ (s₁.setTop (mkF m 186 #[.val (.ref a1), .val (.int (1 : Int32)), .val (.int p2), .val (.int vg1), .val (.int (4 : Int32)), .val (.int (128 : Int32)), .val (.int (191 : Int32)), .val (.int vg21), .val (.int (3 : Int32))] [(.ref a1)]))
                    refine own_via (fun t k => XS.iload X0.here hx rfl (hb hby own_d1_186) rfl k) ?_
                    show own_G p e below _ (s₁.setTop (mkF m 188 #[.val (.ref a1), .val (.int (1 : Int32)), .val (.int p2), .val (.int vg1), .val (.int (4 : Int32)), .val (.int (128 : Int32)), .val (.int (191 : Int32)), .val (.int vg21), .val (.int (3 : Int32))] [(.int (3 : Int32)), (.ref a1)]))
                    refine own_via (own_ldB X0 hx hZ e0 i_V0 (j := (3 : Int32)) ⟨by decide, by decide⟩ (v := (.int b3)) rfl (pc := 188) (Ls := #[.val (.ref a1), .val (.int (1 : Int32)), .val (.int p2), .val (.int vg1), .val (.int (4 : Int32)), .val (.int (128 : Int32)), .val (.int (191 : Int32)), .val (.int vg21), .val (.int (3 : Int32))]) (rest := []) (hb hby own_d1_188)) ?_
                    show own_G p e below _ (s₁.setTop (mkF m 189 #[.val (.ref a1), .val (.int (1 : Int32)), .val (.int p2), .val (.int vg1), .val (.int (4 : Int32)), .val (.int (128 : Int32)), .val (.int (191 : Int32)), .val (.int vg21), .val (.int (3 : Int32))] [(.int b3)]))
                    refine own_via (fun t k => XS.sipush X0.here hx rfl (hb hby own_d1_189) k) ?_
                    show own_G p e below _ (s₁.setTop (mkF m 192 #[.val (.ref a1), .val (.int (1 : Int32)), .val (.int p2), .val (.int vg1), .val (.int (4 : Int32)), .val (.int (128 : Int32)), .val (.int (191 : Int32)), .val (.int vg21), .val (.int (3 : Int32))] [(.int (192 : Int32)), (.int b3)]))
                    refine own_via (fun t k => XS.iand X0.here hx rfl (hb hby own_d1_192) rfl k) ?_
                    show own_G p e below _ (s₁.setTop (mkF m 193 #[.val (.ref a1), .val (.int (1 : Int32)), .val (.int p2), .val (.int vg1), .val (.int (4 : Int32)), .val (.int (128 : Int32)), .val (.int (191 : Int32)), .val (.int vg21), .val (.int (3 : Int32))] [(.int (b3 &&& (192 : Int32)))]))
                    refine own_via (fun t k => XS.sipush X0.here hx rfl (hb hby own_d1_193) k) ?_
                    show own_G p e below _ (s₁.setTop (mkF m 196 #[.val (.ref a1), .val (.int (1 : Int32)), .val (.int p2), .val (.int vg1), .val (.int (4 : Int32)), .val (.int (128 : Int32)), .val (.int (191 : Int32)), .val (.int vg21), .val (.int (3 : Int32))] [(.int (128 : Int32)), (.int (b3 &&& (192 : Int32)))]))
                    by_cases hc24 : (b3 &&& (192 : Int32)) = (128 : Int32)
                    ·
                      refine own_via (fun t k => XS.icmpYes X0.here hx rfl (pc0 := 196) (pc' := 201) rfl (hb hby own_d1_196) rfl (teq hc24).1 (by decide) (by decide) k) ?_
                      show own_G p e below _ (s₁.setTop (mkF m 201 #[.val (.ref a1), .val (.int (1 : Int32)), .val (.int p2), .val (.int vg1), .val (.int (4 : Int32)), .val (.int (128 : Int32)), .val (.int (191 : Int32)), .val (.int vg21), .val (.int (3 : Int32))] []))
                      refine own_via (fun t k => XS.iinc X0.here hx rfl (hb hby own_d1_201) rfl (l' := #[.val (.ref a1), .val (.int (1 : Int32)), .val (.int p2), .val (.int vg1), .val (.int (4 : Int32)), .val (.int (128 : Int32)), .val (.int (191 : Int32)), .val (.int vg21), .val (.int (4 : Int32))]) rfl k) ?_
                      show own_G p e below _ (s₁.setTop (mkF m 204 #[.val (.ref a1), .val (.int (1 : Int32)), .val (.int p2), .val (.int vg1), .val (.int (4 : Int32)), .val (.int (128 : Int32)), .val (.int (191 : Int32)), .val (.int vg21), .val (.int (4 : Int32))] []))
                      refine own_via (fun t k => XS.goto X0.here hx rfl (pc0 := 204) (pc' := 176) rfl (hb hby own_d1_204) (by decide) (by decide) k) ?_
                      show own_G p e below _ (s₁.setTop (mkF m 176 #[.val (.ref a1), .val (.int (1 : Int32)), .val (.int p2), .val (.int vg1), .val (.int (4 : Int32)), .val (.int (128 : Int32)), .val (.int (191 : Int32)), .val (.int vg21), .val (.int (4 : Int32))] []))
                      refine own_via (fun t k => XS.iload X0.here hx rfl (hb hby own_d1_176) rfl k) ?_
                      show own_G p e below _ (s₁.setTop (mkF m 178 #[.val (.ref a1), .val (.int (1 : Int32)), .val (.int p2), .val (.int vg1), .val (.int (4 : Int32)), .val (.int (128 : Int32)), .val (.int (191 : Int32)), .val (.int vg21), .val (.int (4 : Int32))] [(.int (4 : Int32))]))
                      refine own_via (fun t k => XS.iloadN X0.here hx rfl (hb hby own_d1_178) rfl k) ?_
                      show own_G p e below _ (s₁.setTop (mkF m 179 #[.val (.ref a1), .val (.int (1 : Int32)), .val (.int p2), .val (.int vg1), .val (.int (4 : Int32)), .val (.int (128 : Int32)), .val (.int (191 : Int32)), .val (.int vg21), .val (.int (4 : Int32))] [(.int (1 : Int32)), (.int (4 : Int32))]))
                      refine own_via (fun t k => XS.iload X0.here hx rfl (hb hby own_d1_179) rfl k) ?_
                      show own_G p e below _ (s₁.setTop (mkF m 181 #[.val (.ref a1), .val (.int (1 : Int32)), .val (.int p2), .val (.int vg1), .val (.int (4 : Int32)), .val (.int (128 : Int32)), .val (.int (191 : Int32)), .val (.int vg21), .val (.int (4 : Int32))] [(.int (4 : Int32)), (.int (1 : Int32)), (.int (4 : Int32))]))
                      refine own_via (fun t k => XS.iadd X0.here hx rfl (hb hby own_d1_181) rfl k) ?_
                      show own_G p e below _ (s₁.setTop (mkF m 182 #[.val (.ref a1), .val (.int (1 : Int32)), .val (.int p2), .val (.int vg1), .val (.int (4 : Int32)), .val (.int (128 : Int32)), .val (.int (191 : Int32)), .val (.int vg21), .val (.int (4 : Int32))] [(.int (5 : Int32)), (.int (4 : Int32))]))
                      refine own_via (fun t k => XS.icmpNo X0.here hx rfl (hb hby own_d1_182) rfl (tlt (by decide : (4 : Int32) < (5 : Int32))).2.1 k) ?_
                      show own_G p e below _ (s₁.setTop (mkF m 185 #[.val (.ref a1), .val (.int (1 : Int32)), .val (.int p2), .val (.int vg1), .val (.int (4 : Int32)), .val (.int (128 : Int32)), .val (.int (191 : Int32)), .val (.int vg21), .val (.int (4 : Int32))] []))
                      refine own_via (fun t k => XS.aloadN X0.here hx rfl (hb hby own_d1_185) rfl rfl k) ?_
                      show own_G p e below _ (s₁.setTop (mkF m 186 #[.val (.ref a1), .val (.int (1 : Int32)), .val (.int p2), .val (.int vg1), .val (.int (4 : Int32)), .val (.int (128 : Int32)), .val (.int (191 : Int32)), .val (.int vg21), .val (.int (4 : Int32))] [(.ref a1)]))
                      refine own_via (fun t k => XS.iload X0.here hx rfl (hb hby own_d1_186) rfl k) ?_
                      show own_G p e below _ (s₁.setTop (mkF m 188 #[.val (.ref a1), .val (.int (1 : Int32)), .val (.int p2), .val (.int vg1), .val (.int (4 : Int32)), .val (.int (128 : Int32)), .val (.int (191 : Int32)), .val (.int vg21), .val (.int (4 : Int32))] [(.int (4 : Int32)), (.ref a1)]))
                      refine own_via (own_ldB X0 hx hZ e0 i_V0 (j := (4 : Int32)) ⟨by decide, by decide⟩ (v := (.int b4)) rfl (pc := 188) (Ls := #[.val (.ref a1), .val (.int (1 : Int32)), .val (.int p2), .val (.int vg1), .val (.int (4 : Int32)), .val (.int (128 : Int32)), .val (.int (191 : Int32)), .val (.int vg21), .val (.int (4 : Int32))]) (rest := []) (hb hby own_d1_188)) ?_
                      show own_G p e below _ (s₁.setTop (mkF m 189 #[.val (.ref a1), .val (.int (1 : Int32)), .val (.int p2), .val (.int vg1), .val (.int (4 : Int32)), .val (.int (128 : Int32)), .val (.int (191 : Int32)), .val (.int vg21), .val (.int (4 : Int32))] [(.int b4)]))
                      refine own_via (fun t k => XS.sipush X0.here hx rfl (hb hby own_d1_189) k) ?_
                      show own_G p e below _ (s₁.setTop (mkF m 192 #[.val (.ref a1), .val (.int (1 : Int32)), .val (.int p2), .val (.int vg1), .val (.int (4 : Int32)), .val (.int (128 : Int32)), .val (.int (191 : Int32)), .val (.int vg21), .val (.int (4 : Int32))] [(.int (192 : Int32)), (.int b4)]))
                      refine own_via (fun t k => XS.iand X0.here hx rfl (hb hby own_d1_192) rfl k) ?_
                      show own_G p e below _ (s₁.setTop (mkF m 193 #[.val (.ref a1), .val (.int (1 : Int32)), .val (.int p2), .val (.int vg1), .val (.int (4 : Int32)), .val (.int (128 : Int32)), .val (.int (191 : Int32)), .val (.int vg21), .val (.int (4 : Int32))] [(.int (b4 &&& (192 : Int32)))]))
                      refine own_via (fun t k => XS.sipush X0.here hx rfl (hb hby own_d1_193) k) ?_
                      show own_G p e below _ (s₁.setTop (mkF m 196 #[.val (.ref a1), .val (.int (1 : Int32)), .val (.int p2), .val (.int vg1), .val (.int (4 : Int32)), .val (.int (128 : Int32)), .val (.int (191 : Int32)), .val (.int vg21), .val (.int (4 : Int32))] [(.int (128 : Int32)), (.int (b4 &&& (192 : Int32)))]))
                      by_cases hc25 : (b4 &&& (192 : Int32)) = (128 : Int32)
                      ·
                        refine own_via (fun t k => XS.icmpYes X0.here hx rfl (pc0 := 196) (pc' := 201) rfl (hb hby own_d1_196) rfl (teq hc25).1 (by decide) (by decide) k) ?_
                        show own_G p e below _ (s₁.setTop (mkF m 201 #[.val (.ref a1), .val (.int (1 : Int32)), .val (.int p2), .val (.int vg1), .val (.int (4 : Int32)), .val (.int (128 : Int32)), .val (.int (191 : Int32)), .val (.int vg21), .val (.int (4 : Int32))] []))
                        refine own_via (fun t k => XS.iinc X0.here hx rfl (hb hby own_d1_201) rfl (l' := #[.val (.ref a1), .val (.int (1 : Int32)), .val (.int p2), .val (.int vg1), .val (.int (4 : Int32)), .val (.int (128 : Int32)), .val (.int (191 : Int32)), .val (.int vg21), .val (.int (5 : Int32))]) rfl k) ?_
                        show own_G p e below _ (s₁.setTop (mkF m 204 #[.val (.ref a1), .val (.int (1 : Int32)), .val (.int p2), .val (.int vg1), .val (.int (4 : Int32)), .val (.int (128 : Int32)), .val (.int (191 : Int32)), .val (.int vg21), .val (.int (5 : Int32))] []))
                        refine own_via (fun t k => XS.goto X0.here hx rfl (pc0 := 204) (pc' := 176) rfl (hb hby own_d1_204) (by decide) (by decide) k) ?_
                        show own_G p e below _ (s₁.setTop (mkF m 176 #[.val (.ref a1), .val (.int (1 : Int32)), .val (.int p2), .val (.int vg1), .val (.int (4 : Int32)), .val (.int (128 : Int32)), .val (.int (191 : Int32)), .val (.int vg21), .val (.int (5 : Int32))] []))
                        refine own_via (fun t k => XS.iload X0.here hx rfl (hb hby own_d1_176) rfl k) ?_
                        show own_G p e below _ (s₁.setTop (mkF m 178 #[.val (.ref a1), .val (.int (1 : Int32)), .val (.int p2), .val (.int vg1), .val (.int (4 : Int32)), .val (.int (128 : Int32)), .val (.int (191 : Int32)), .val (.int vg21), .val (.int (5 : Int32))] [(.int (5 : Int32))]))
                        refine own_via (fun t k => XS.iloadN X0.here hx rfl (hb hby own_d1_178) rfl k) ?_
                        show own_G p e below _ (s₁.setTop (mkF m 179 #[.val (.ref a1), .val (.int (1 : Int32)), .val (.int p2), .val (.int vg1), .val (.int (4 : Int32)), .val (.int (128 : Int32)), .val (.int (191 : Int32)), .val (.int vg21), .val (.int (5 : Int32))] [(.int (1 : Int32)), (.int (5 : Int32))]))
                        refine own_via (fun t k => XS.iload X0.here hx rfl (hb hby own_d1_179) rfl k) ?_
                        show own_G p e below _ (s₁.setTop (mkF m 181 #[.val (.ref a1), .val (.int (1 : Int32)), .val (.int p2), .val (.int vg1), .val (.int (4 : Int32)), .val (.int (128 : Int32)), .val (.int (191 : Int32)), .val (.int vg21), .val (.int (5 : Int32))] [(.int (4 : Int32)), (.int (1 : Int32)), (.int (5 : Int32))]))
                        refine own_via (fun t k => XS.iadd X0.here hx rfl (hb hby own_d1_181) rfl k) ?_
                        show own_G p e below _ (s₁.setTop (mkF m 182 #[.val (.ref a1), .val (.int (1 : Int32)), .val (.int p2), .val (.int vg1), .val (.int (4 : Int32)), .val (.int (128 : Int32)), .val (.int (191 : Int32)), .val (.int vg21), .val (.int (5 : Int32))] [(.int (5 : Int32)), (.int (5 : Int32))]))
                        refine own_via (fun t k => XS.icmpYes X0.here hx rfl (pc0 := 182) (pc' := 207) rfl (hb hby own_d1_182) rfl (flt (by decide : ¬ ((5 : Int32) < (5 : Int32)))).2.1 (by decide) (by decide) k) ?_
                        show own_G p e below _ (s₁.setTop (mkF m 207 #[.val (.ref a1), .val (.int (1 : Int32)), .val (.int p2), .val (.int vg1), .val (.int (4 : Int32)), .val (.int (128 : Int32)), .val (.int (191 : Int32)), .val (.int vg21), .val (.int (5 : Int32))] []))
                        refine own_via (fun t k => XS.iload X0.here hx rfl (hb hby own_d1_207) rfl k) ?_
                        show own_G p e below _ (s₁.setTop (mkF m 209 #[.val (.ref a1), .val (.int (1 : Int32)), .val (.int p2), .val (.int vg1), .val (.int (4 : Int32)), .val (.int (128 : Int32)), .val (.int (191 : Int32)), .val (.int vg21), .val (.int (5 : Int32))] [(.int (4 : Int32))]))
                        exact own_retI X0 hx Bd.returns Bd.notSynchronized (hb hby own_d1_209) ⟨(by show (some (.int (4 : Int32)) : Option Value) = some (.int (own_Fs1 b1 b2 b3 b4 p2)); subst hvg21; subst hvg1; simp only [own_Fs1, if_neg hc2, if_pos hc3, if_pos hc4, if_neg hc5, if_neg hc6, if_neg hc13, if_neg hc20, if_neg hc22, if_neg hc23, if_pos hc24, if_pos hc25]), rfl, e0⟩ (by decide) (by decide)
                      ·
                        refine own_via (fun t k => XS.icmpNo X0.here hx rfl (hb hby own_d1_196) rfl (feq hc25).1 k) ?_
                        show own_G p e below _ (s₁.setTop (mkF m 199 #[.val (.ref a1), .val (.int (1 : Int32)), .val (.int p2), .val (.int vg1), .val (.int (4 : Int32)), .val (.int (128 : Int32)), .val (.int (191 : Int32)), .val (.int vg21), .val (.int (4 : Int32))] []))
                        refine own_via (fun t k => XS.iconst X0.here hx rfl (hb hby own_d1_199) k) ?_
                        show own_G p e below _ (s₁.setTop (mkF m 200 #[.val (.ref a1), .val (.int (1 : Int32)), .val (.int p2), .val (.int vg1), .val (.int (4 : Int32)), .val (.int (128 : Int32)), .val (.int (191 : Int32)), .val (.int vg21), .val (.int (4 : Int32))] [(.int (-1 : Int32))]))
                        exact own_retI X0 hx Bd.returns Bd.notSynchronized (hb hby own_d1_200) ⟨(by show (some (.int (-1 : Int32)) : Option Value) = some (.int (own_Fs1 b1 b2 b3 b4 p2)); subst hvg21; subst hvg1; simp only [own_Fs1, if_neg hc2, if_pos hc3, if_pos hc4, if_neg hc5, if_neg hc6, if_neg hc13, if_neg hc20, if_neg hc22, if_neg hc23, if_pos hc24, if_neg hc25]), rfl, e0⟩ (by decide) (by decide)
                    ·
                      refine own_via (fun t k => XS.icmpNo X0.here hx rfl (hb hby own_d1_196) rfl (feq hc24).1 k) ?_
                      show own_G p e below _ (s₁.setTop (mkF m 199 #[.val (.ref a1), .val (.int (1 : Int32)), .val (.int p2), .val (.int vg1), .val (.int (4 : Int32)), .val (.int (128 : Int32)), .val (.int (191 : Int32)), .val (.int vg21), .val (.int (3 : Int32))] []))
                      refine own_via (fun t k => XS.iconst X0.here hx rfl (hb hby own_d1_199) k) ?_
                      show own_G p e below _ (s₁.setTop (mkF m 200 #[.val (.ref a1), .val (.int (1 : Int32)), .val (.int p2), .val (.int vg1), .val (.int (4 : Int32)), .val (.int (128 : Int32)), .val (.int (191 : Int32)), .val (.int vg21), .val (.int (3 : Int32))] [(.int (-1 : Int32))]))
                      exact own_retI X0 hx Bd.returns Bd.notSynchronized (hb hby own_d1_200) ⟨(by show (some (.int (-1 : Int32)) : Option Value) = some (.int (own_Fs1 b1 b2 b3 b4 p2)); subst hvg21; subst hvg1; simp only [own_Fs1, if_neg hc2, if_pos hc3, if_pos hc4, if_neg hc5, if_neg hc6, if_neg hc13, if_neg hc20, if_neg hc22, if_neg hc23, if_neg hc24]), rfl, e0⟩ (by decide) (by decide)
      ·
        refine own_via (fun t k => XS.icmpNo X0.here hx rfl (hb hby own_d1_49) rfl (flt hc4).2.2.1 k) ?_
        show own_G p e below _ (s₁.setTop (mkF m 52 #[.val (.ref a1), .val (.int (1 : Int32)), .val (.int p2), .val (.int vg1), .unset, .val (.int (128 : Int32)), .val (.int (191 : Int32)), .unset, .unset] []))
        refine own_via (fun t k => XS.iconst X0.here hx rfl (hb hby own_d1_52) k) ?_
        show own_G p e below _ (s₁.setTop (mkF m 53 #[.val (.ref a1), .val (.int (1 : Int32)), .val (.int p2), .val (.int vg1), .unset, .val (.int (128 : Int32)), .val (.int (191 : Int32)), .unset, .unset] [(.int (3 : Int32))]))
        refine own_via (fun t k => XS.istore X0.here hx rfl (hb hby own_d1_53) rfl (l' := #[.val (.ref a1), .val (.int (1 : Int32)), .val (.int p2), .val (.int vg1), .val (.int (3 : Int32)), .val (.int (128 : Int32)), .val (.int (191 : Int32)), .unset, .unset]) rfl k) ?_
        show own_G p e below _ (s₁.setTop (mkF m 55 #[.val (.ref a1), .val (.int (1 : Int32)), .val (.int p2), .val (.int vg1), .val (.int (3 : Int32)), .val (.int (128 : Int32)), .val (.int (191 : Int32)), .unset, .unset] []))
        refine own_via (fun t k => XS.iloadN X0.here hx rfl (hb hby own_d1_55) rfl k) ?_
        show own_G p e below _ (s₁.setTop (mkF m 56 #[.val (.ref a1), .val (.int (1 : Int32)), .val (.int p2), .val (.int vg1), .val (.int (3 : Int32)), .val (.int (128 : Int32)), .val (.int (191 : Int32)), .unset, .unset] [(.int vg1)]))
        refine own_via (fun t k => XS.sipush X0.here hx rfl (hb hby own_d1_56) k) ?_
        show own_G p e below _ (s₁.setTop (mkF m 59 #[.val (.ref a1), .val (.int (1 : Int32)), .val (.int p2), .val (.int vg1), .val (.int (3 : Int32)), .val (.int (128 : Int32)), .val (.int (191 : Int32)), .unset, .unset] [(.int (224 : Int32)), (.int vg1)]))
        by_cases hc26 : vg1 = (224 : Int32)
        ·
          refine own_via (fun t k => XS.icmpNo X0.here hx rfl (hb hby own_d1_59) rfl (teq hc26).2 k) ?_
          show own_G p e below _ (s₁.setTop (mkF m 62 #[.val (.ref a1), .val (.int (1 : Int32)), .val (.int p2), .val (.int vg1), .val (.int (3 : Int32)), .val (.int (128 : Int32)), .val (.int (191 : Int32)), .unset, .unset] []))
          refine own_via (fun t k => XS.sipush X0.here hx rfl (hb hby own_d1_62) k) ?_
          show own_G p e below _ (s₁.setTop (mkF m 65 #[.val (.ref a1), .val (.int (1 : Int32)), .val (.int p2), .val (.int vg1), .val (.int (3 : Int32)), .val (.int (128 : Int32)), .val (.int (191 : Int32)), .unset, .unset] [(.int (160 : Int32))]))
          refine own_via (fun t k => XS.istore X0.here hx rfl (hb hby own_d1_65) rfl (l' := #[.val (.ref a1), .val (.int (1 : Int32)), .val (.int p2), .val (.int vg1), .val (.int (3 : Int32)), .val (.int (160 : Int32)), .val (.int (191 : Int32)), .unset, .unset]) rfl k) ?_
          show own_G p e below _ (s₁.setTop (mkF m 67 #[.val (.ref a1), .val (.int (1 : Int32)), .val (.int p2), .val (.int vg1), .val (.int (3 : Int32)), .val (.int (160 : Int32)), .val (.int (191 : Int32)), .unset, .unset] []))
          refine own_via (fun t k => XS.goto X0.here hx rfl (pc0 := 67) (pc' := 134) rfl (hb hby own_d1_67) (by decide) (by decide) k) ?_
          show own_G p e below _ (s₁.setTop (mkF m 134 #[.val (.ref a1), .val (.int (1 : Int32)), .val (.int p2), .val (.int vg1), .val (.int (3 : Int32)), .val (.int (160 : Int32)), .val (.int (191 : Int32)), .unset, .unset] []))
          refine own_via (fun t k => XS.iloadN X0.here hx rfl (hb hby own_d1_134) rfl k) ?_
          show own_G p e below _ (s₁.setTop (mkF m 135 #[.val (.ref a1), .val (.int (1 : Int32)), .val (.int p2), .val (.int vg1), .val (.int (3 : Int32)), .val (.int (160 : Int32)), .val (.int (191 : Int32)), .unset, .unset] [(.int p2)]))
          refine own_via (fun t k => XS.iloadN X0.here hx rfl (hb hby own_d1_135) rfl k) ?_
          show own_G p e below _ (s₁.setTop (mkF m 136 #[.val (.ref a1), .val (.int (1 : Int32)), .val (.int p2), .val (.int vg1), .val (.int (3 : Int32)), .val (.int (160 : Int32)), .val (.int (191 : Int32)), .unset, .unset] [(.int (1 : Int32)), (.int p2)]))
          refine own_via (fun t k => XS.isub X0.here hx rfl (hb hby own_d1_136) rfl k) ?_
          show own_G p e below _ (s₁.setTop (mkF m 137 #[.val (.ref a1), .val (.int (1 : Int32)), .val (.int p2), .val (.int vg1), .val (.int (3 : Int32)), .val (.int (160 : Int32)), .val (.int (191 : Int32)), .unset, .unset] [(.int (p2 - (1 : Int32)))]))
          refine own_via (fun t k => XS.iload X0.here hx rfl (hb hby own_d1_137) rfl k) ?_
          show own_G p e below _ (s₁.setTop (mkF m 139 #[.val (.ref a1), .val (.int (1 : Int32)), .val (.int p2), .val (.int vg1), .val (.int (3 : Int32)), .val (.int (160 : Int32)), .val (.int (191 : Int32)), .unset, .unset] [(.int (3 : Int32)), (.int (p2 - (1 : Int32)))]))
          by_cases hc27 : (p2 - (1 : Int32)) < (3 : Int32)
          ·
            refine own_via (fun t k => XS.icmpNo X0.here hx rfl (hb hby own_d1_139) rfl (tlt hc27).2.1 k) ?_
            show own_G p e below _ (s₁.setTop (mkF m 142 #[.val (.ref a1), .val (.int (1 : Int32)), .val (.int p2), .val (.int vg1), .val (.int (3 : Int32)), .val (.int (160 : Int32)), .val (.int (191 : Int32)), .unset, .unset] []))
            refine own_via (fun t k => XS.iconst X0.here hx rfl (hb hby own_d1_142) k) ?_
            show own_G p e below _ (s₁.setTop (mkF m 143 #[.val (.ref a1), .val (.int (1 : Int32)), .val (.int p2), .val (.int vg1), .val (.int (3 : Int32)), .val (.int (160 : Int32)), .val (.int (191 : Int32)), .unset, .unset] [(.int (-1 : Int32))]))
            exact own_retI X0 hx Bd.returns Bd.notSynchronized (hb hby own_d1_143) ⟨(by show (some (.int (-1 : Int32)) : Option Value) = some (.int (own_Fs1 b1 b2 b3 b4 p2)); subst hvg1; simp only [own_Fs1, if_neg hc2, if_pos hc3, if_neg hc4, if_pos hc26, if_pos hc27]), rfl, e0⟩ (by decide) (by decide)
          ·
            refine own_via (fun t k => XS.icmpYes X0.here hx rfl (pc0 := 139) (pc' := 144) rfl (hb hby own_d1_139) rfl (flt hc27).2.1 (by decide) (by decide) k) ?_
            show own_G p e below _ (s₁.setTop (mkF m 144 #[.val (.ref a1), .val (.int (1 : Int32)), .val (.int p2), .val (.int vg1), .val (.int (3 : Int32)), .val (.int (160 : Int32)), .val (.int (191 : Int32)), .unset, .unset] []))
            refine own_via (fun t k => XS.aloadN X0.here hx rfl (hb hby own_d1_144) rfl rfl k) ?_
            show own_G p e below _ (s₁.setTop (mkF m 145 #[.val (.ref a1), .val (.int (1 : Int32)), .val (.int p2), .val (.int vg1), .val (.int (3 : Int32)), .val (.int (160 : Int32)), .val (.int (191 : Int32)), .unset, .unset] [(.ref a1)]))
            refine own_via (fun t k => XS.iloadN X0.here hx rfl (hb hby own_d1_145) rfl k) ?_
            show own_G p e below _ (s₁.setTop (mkF m 146 #[.val (.ref a1), .val (.int (1 : Int32)), .val (.int p2), .val (.int vg1), .val (.int (3 : Int32)), .val (.int (160 : Int32)), .val (.int (191 : Int32)), .unset, .unset] [(.int (1 : Int32)), (.ref a1)]))
            refine own_via (fun t k => XS.iconst X0.here hx rfl (hb hby own_d1_146) k) ?_
            show own_G p e below _ (s₁.setTop (mkF m 147 #[.val (.ref a1), .val (.int (1 : Int32)), .val (.int p2), .val (.int vg1), .val (.int (3 : Int32)), .val (.int (160 : Int32)), .val (.int (191 : Int32)), .unset, .unset] [(.int (1 : Int32)), (.int (1 : Int32)), (.ref a1)]))
            refine own_via (fun t k => XS.iadd X0.here hx rfl (hb hby own_d1_147) rfl k) ?_
            show own_G p e below _ (s₁.setTop (mkF m 148 #[.val (.ref a1), .val (.int (1 : Int32)), .val (.int p2), .val (.int vg1), .val (.int (3 : Int32)), .val (.int (160 : Int32)), .val (.int (191 : Int32)), .unset, .unset] [(.int (2 : Int32)), (.ref a1)]))
            refine own_via (own_ldB X0 hx hZ e0 i_V0 (j := (2 : Int32)) ⟨by decide, by decide⟩ (v := (.int b2)) rfl (pc := 148) (Ls := #[.val (.ref a1), .val (.int (1 : Int32)), .val (.int p2), .val (.int vg1), .val (.int (3 : Int32)), .val (.int (160 : Int32)), .val (.int (191 : Int32)), .unset, .unset]) (rest := []) (hb hby own_d1_148)) ?_
            show own_G p e below _ (s₁.setTop (mkF m 149 #[.val (.ref a1), .val (.int (1 : Int32)), .val (.int p2), .val (.int vg1), .val (.int (3 : Int32)), .val (.int (160 : Int32)), .val (.int (191 : Int32)), .unset, .unset] [(.int b2)]))
            refine own_via (fun t k => XS.sipush X0.here hx rfl (hb hby own_d1_149) k) ?_
            show own_G p e below _ (s₁.setTop (mkF m 152 #[.val (.ref a1), .val (.int (1 : Int32)), .val (.int p2), .val (.int vg1), .val (.int (3 : Int32)), .val (.int (160 : Int32)), .val (.int (191 : Int32)), .unset, .unset] [(.int (255 : Int32)), (.int b2)]))
            refine own_via (fun t k => XS.iand X0.here hx rfl (hb hby own_d1_152) rfl k) ?_
            show own_G p e below _ (s₁.setTop (mkF m 153 #[.val (.ref a1), .val (.int (1 : Int32)), .val (.int p2), .val (.int vg1), .val (.int (3 : Int32)), .val (.int (160 : Int32)), .val (.int (191 : Int32)), .unset, .unset] [(.int (b2 &&& (255 : Int32)))]))
            generalize hvg28 : (b2 &&& (255 : Int32)) = vg28
            show own_G p e below _ (s₁.setTop (mkF m 153 #[.val (.ref a1), .val (.int (1 : Int32)), .val (.int p2), .val (.int vg1), .val (.int (3 : Int32)), .val (.int (160 : Int32)), .val (.int (191 : Int32)), .unset, .unset] [(.int vg28)]))
            refine own_via (fun t k => XS.istore X0.here hx rfl (hb hby own_d1_153) rfl (l' := #[.val (.ref a1), .val (.int (1 : Int32)), .val (.int p2), .val (.int vg1), .val (.int (3 : Int32)), .val (.int (160 : Int32)), .val (.int (191 : Int32)), .val (.int vg28), .unset]) rfl k) ?_
            show own_G p e below _ (s₁.setTop (mkF m 155 #[.val (.ref a1), .val (.int (1 : Int32)), .val (.int p2), .val (.int vg1), .val (.int (3 : Int32)), .val (.int (160 : Int32)), .val (.int (191 : Int32)), .val (.int vg28), .unset] []))
            refine own_via (fun t k => XS.iload X0.here hx rfl (hb hby own_d1_155) rfl k) ?_
            show own_G p e below _ (s₁.setTop (mkF m 157 #[.val (.ref a1), .val (.int (1 : Int32)), .val (.int p2), .val (.int vg1), .val (.int (3 : Int32)), .val (.int (160 : Int32)), .val (.int (191 : Int32)), .val (.int vg28), .unset] [(.int vg28)]))
            refine own_via (fun t k => XS.iload X0.here hx rfl (hb hby own_d1_157) rfl k) ?_
            show own_G p e below _ (s₁.setTop (mkF m 159 #[.val (.ref a1), .val (.int (1 : Int32)), .val (.int p2), .val (.int vg1), .val (.int (3 : Int32)), .val (.int (160 : Int32)), .val (.int (191 : Int32)), .val (.int vg28), .unset] [(.int (160 : Int32)), (.int vg28)]))
            by_cases hc29 : vg28 < (160 : Int32)
            ·
              refine own_via (fun t k => XS.icmpYes X0.here hx rfl (pc0 := 159) (pc' := 169) rfl (hb hby own_d1_159) rfl (tlt hc29).1 (by decide) (by decide) k) ?_
              show own_G p e below _ (s₁.setTop (mkF m 169 #[.val (.ref a1), .val (.int (1 : Int32)), .val (.int p2), .val (.int vg1), .val (.int (3 : Int32)), .val (.int (160 : Int32)), .val (.int (191 : Int32)), .val (.int vg28), .unset] []))
              refine own_via (fun t k => XS.iconst X0.here hx rfl (hb hby own_d1_169) k) ?_
              show own_G p e below _ (s₁.setTop (mkF m 170 #[.val (.ref a1), .val (.int (1 : Int32)), .val (.int p2), .val (.int vg1), .val (.int (3 : Int32)), .val (.int (160 : Int32)), .val (.int (191 : Int32)), .val (.int vg28), .unset] [(.int (-1 : Int32))]))
              exact own_retI X0 hx Bd.returns Bd.notSynchronized (hb hby own_d1_170) ⟨(by show (some (.int (-1 : Int32)) : Option Value) = some (.int (own_Fs1 b1 b2 b3 b4 p2)); subst hvg28; subst hvg1; simp only [own_Fs1, if_neg hc2, if_pos hc3, if_neg hc4, if_pos hc26, if_neg hc27, if_pos hc29]), rfl, e0⟩ (by decide) (by decide)
            ·
              refine own_via (fun t k => XS.icmpNo X0.here hx rfl (hb hby own_d1_159) rfl (flt hc29).1 k) ?_
              show own_G p e below _ (s₁.setTop (mkF m 162 #[.val (.ref a1), .val (.int (1 : Int32)), .val (.int p2), .val (.int vg1), .val (.int (3 : Int32)), .val (.int (160 : Int32)), .val (.int (191 : Int32)), .val (.int vg28), .unset] []))
              refine own_via (fun t k => XS.iload X0.here hx rfl (hb hby own_d1_162) rfl k) ?_
              show own_G p e below _ (s₁.setTop (mkF m 164 #[.val (.ref a1), .val (.int (1 : Int32)), .val (.int p2), .val (.int vg1), .val (.int (3 : Int32)), .val (.int (160 : Int32)), .val (.int (191 : Int32)), .val (.int vg28), .unset] [(.int vg28)]))
              refine own_via (fun t k => XS.iload X0.here hx rfl (hb hby own_d1_164) rfl k) ?_
              show own_G p e below _ (s₁.setTop (mkF m 166 #[.val (.ref a1), .val (.int (1 : Int32)), .val (.int p2), .val (.int vg1), .val (.int (3 : Int32)), .val (.int (160 : Int32)), .val (.int (191 : Int32)), .val (.int vg28), .unset] [(.int (191 : Int32)), (.int vg28)]))
              by_cases hc30 : (191 : Int32) < vg28
              ·
                refine own_via (fun t k => XS.icmpNo X0.here hx rfl (hb hby own_d1_166) rfl (tlt hc30).2.2.2 k) ?_
                show own_G p e below _ (s₁.setTop (mkF m 169 #[.val (.ref a1), .val (.int (1 : Int32)), .val (.int p2), .val (.int vg1), .val (.int (3 : Int32)), .val (.int (160 : Int32)), .val (.int (191 : Int32)), .val (.int vg28), .unset] []))
                refine own_via (fun t k => XS.iconst X0.here hx rfl (hb hby own_d1_169) k) ?_
                show own_G p e below _ (s₁.setTop (mkF m 170 #[.val (.ref a1), .val (.int (1 : Int32)), .val (.int p2), .val (.int vg1), .val (.int (3 : Int32)), .val (.int (160 : Int32)), .val (.int (191 : Int32)), .val (.int vg28), .unset] [(.int (-1 : Int32))]))
                exact own_retI X0 hx Bd.returns Bd.notSynchronized (hb hby own_d1_170) ⟨(by show (some (.int (-1 : Int32)) : Option Value) = some (.int (own_Fs1 b1 b2 b3 b4 p2)); subst hvg28; subst hvg1; simp only [own_Fs1, if_neg hc2, if_pos hc3, if_neg hc4, if_pos hc26, if_neg hc27, if_neg hc29, if_pos hc30]), rfl, e0⟩ (by decide) (by decide)
              ·
                refine own_via (fun t k => XS.icmpYes X0.here hx rfl (pc0 := 166) (pc' := 171) rfl (hb hby own_d1_166) rfl (flt hc30).2.2.2 (by decide) (by decide) k) ?_
                show own_G p e below _ (s₁.setTop (mkF m 171 #[.val (.ref a1), .val (.int (1 : Int32)), .val (.int p2), .val (.int vg1), .val (.int (3 : Int32)), .val (.int (160 : Int32)), .val (.int (191 : Int32)), .val (.int vg28), .unset] []))
                refine own_via (fun t k => XS.iloadN X0.here hx rfl (hb hby own_d1_171) rfl k) ?_
                show own_G p e below _ (s₁.setTop (mkF m 172 #[.val (.ref a1), .val (.int (1 : Int32)), .val (.int p2), .val (.int vg1), .val (.int (3 : Int32)), .val (.int (160 : Int32)), .val (.int (191 : Int32)), .val (.int vg28), .unset] [(.int (1 : Int32))]))
                refine own_via (fun t k => XS.iconst X0.here hx rfl (hb hby own_d1_172) k) ?_
                show own_G p e below _ (s₁.setTop (mkF m 173 #[.val (.ref a1), .val (.int (1 : Int32)), .val (.int p2), .val (.int vg1), .val (.int (3 : Int32)), .val (.int (160 : Int32)), .val (.int (191 : Int32)), .val (.int vg28), .unset] [(.int (2 : Int32)), (.int (1 : Int32))]))
                refine own_via (fun t k => XS.iadd X0.here hx rfl (hb hby own_d1_173) rfl k) ?_
                show own_G p e below _ (s₁.setTop (mkF m 174 #[.val (.ref a1), .val (.int (1 : Int32)), .val (.int p2), .val (.int vg1), .val (.int (3 : Int32)), .val (.int (160 : Int32)), .val (.int (191 : Int32)), .val (.int vg28), .unset] [(.int (3 : Int32))]))
                refine own_via (fun t k => XS.istore X0.here hx rfl (hb hby own_d1_174) rfl (l' := #[.val (.ref a1), .val (.int (1 : Int32)), .val (.int p2), .val (.int vg1), .val (.int (3 : Int32)), .val (.int (160 : Int32)), .val (.int (191 : Int32)), .val (.int vg28), .val (.int (3 : Int32))]) rfl k) ?_
                show own_G p e below _ (s₁.setTop (mkF m 176 #[.val (.ref a1), .val (.int (1 : Int32)), .val (.int p2), .val (.int vg1), .val (.int (3 : Int32)), .val (.int (160 : Int32)), .val (.int (191 : Int32)), .val (.int vg28), .val (.int (3 : Int32))] []))
                refine own_via (fun t k => XS.iload X0.here hx rfl (hb hby own_d1_176) rfl k) ?_
                show own_G p e below _ (s₁.setTop (mkF m 178 #[.val (.ref a1), .val (.int (1 : Int32)), .val (.int p2), .val (.int vg1), .val (.int (3 : Int32)), .val (.int (160 : Int32)), .val (.int (191 : Int32)), .val (.int vg28), .val (.int (3 : Int32))] [(.int (3 : Int32))]))
                refine own_via (fun t k => XS.iloadN X0.here hx rfl (hb hby own_d1_178) rfl k) ?_
                show own_G p e below _ (s₁.setTop (mkF m 179 #[.val (.ref a1), .val (.int (1 : Int32)), .val (.int p2), .val (.int vg1), .val (.int (3 : Int32)), .val (.int (160 : Int32)), .val (.int (191 : Int32)), .val (.int vg28), .val (.int (3 : Int32))] [(.int (1 : Int32)), (.int (3 : Int32))]))
                refine own_via (fun t k => XS.iload X0.here hx rfl (hb hby own_d1_179) rfl k) ?_
                show own_G p e below _ (s₁.setTop (mkF m 181 #[.val (.ref a1), .val (.int (1 : Int32)), .val (.int p2), .val (.int vg1), .val (.int (3 : Int32)), .val (.int (160 : Int32)), .val (.int (191 : Int32)), .val (.int vg28), .val (.int (3 : Int32))] [(.int (3 : Int32)), (.int (1 : Int32)), (.int (3 : Int32))]))
                refine own_via (fun t k => XS.iadd X0.here hx rfl (hb hby own_d1_181) rfl k) ?_
                show own_G p e below _ (s₁.setTop (mkF m 182 #[.val (.ref a1), .val (.int (1 : Int32)), .val (.int p2), .val (.int vg1), .val (.int (3 : Int32)), .val (.int (160 : Int32)), .val (.int (191 : Int32)), .val (.int vg28), .val (.int (3 : Int32))] [(.int (4 : Int32)), (.int (3 : Int32))]))
                refine own_via (fun t k => XS.icmpNo X0.here hx rfl (hb hby own_d1_182) rfl (tlt (by decide : (3 : Int32) < (4 : Int32))).2.1 k) ?_
                show own_G p e below _ (s₁.setTop (mkF m 185 #[.val (.ref a1), .val (.int (1 : Int32)), .val (.int p2), .val (.int vg1), .val (.int (3 : Int32)), .val (.int (160 : Int32)), .val (.int (191 : Int32)), .val (.int vg28), .val (.int (3 : Int32))] []))
                refine own_via (fun t k => XS.aloadN X0.here hx rfl (hb hby own_d1_185) rfl rfl k) ?_
                show own_G p e below _ (s₁.setTop (mkF m 186 #[.val (.ref a1), .val (.int (1 : Int32)), .val (.int p2), .val (.int vg1), .val (.int (3 : Int32)), .val (.int (160 : Int32)), .val (.int (191 : Int32)), .val (.int vg28), .val (.int (3 : Int32))] [(.ref a1)]))
                refine own_via (fun t k => XS.iload X0.here hx rfl (hb hby own_d1_186) rfl k) ?_
                show own_G p e below _ (s₁.setTop (mkF m 188 #[.val (.ref a1), .val (.int (1 : Int32)), .val (.int p2), .val (.int vg1), .val (.int (3 : Int32)), .val (.int (160 : Int32)), .val (.int (191 : Int32)), .val (.int vg28), .val (.int (3 : Int32))] [(.int (3 : Int32)), (.ref a1)]))
                refine own_via (own_ldB X0 hx hZ e0 i_V0 (j := (3 : Int32)) ⟨by decide, by decide⟩ (v := (.int b3)) rfl (pc := 188) (Ls := #[.val (.ref a1), .val (.int (1 : Int32)), .val (.int p2), .val (.int vg1), .val (.int (3 : Int32)), .val (.int (160 : Int32)), .val (.int (191 : Int32)), .val (.int vg28), .val (.int (3 : Int32))]) (rest := []) (hb hby own_d1_188)) ?_
                show own_G p e below _ (s₁.setTop (mkF m 189 #[.val (.ref a1), .val (.int (1 : Int32)), .val (.int p2), .val (.int vg1), .val (.int (3 : Int32)), .val (.int (160 : Int32)), .val (.int (191 : Int32)), .val (.int vg28), .val (.int (3 : Int32))] [(.int b3)]))
                refine own_via (fun t k => XS.sipush X0.here hx rfl (hb hby own_d1_189) k) ?_
                show own_G p e below _ (s₁.setTop (mkF m 192 #[.val (.ref a1), .val (.int (1 : Int32)), .val (.int p2), .val (.int vg1), .val (.int (3 : Int32)), .val (.int (160 : Int32)), .val (.int (191 : Int32)), .val (.int vg28), .val (.int (3 : Int32))] [(.int (192 : Int32)), (.int b3)]))
                refine own_via (fun t k => XS.iand X0.here hx rfl (hb hby own_d1_192) rfl k) ?_
                show own_G p e below _ (s₁.setTop (mkF m 193 #[.val (.ref a1), .val (.int (1 : Int32)), .val (.int p2), .val (.int vg1), .val (.int (3 : Int32)), .val (.int (160 : Int32)), .val (.int (191 : Int32)), .val (.int vg28), .val (.int (3 : Int32))] [(.int (b3 &&& (192 : Int32)))]))
                refine own_via (fun t k => XS.sipush X0.here hx rfl (hb hby own_d1_193) k) ?_
                show own_G p e below _ (s₁.setTop (mkF m 196 #[.val (.ref a1), .val (.int (1 : Int32)), .val (.int p2), .val (.int vg1), .val (.int (3 : Int32)), .val (.int (160 : Int32)), .val (.int (191 : Int32)), .val (.int vg28), .val (.int (3 : Int32))] [(.int (128 : Int32)), (.int (b3 &&& (192 : Int32)))]))
                by_cases hc31 : (b3 &&& (192 : Int32)) = (128 : Int32)
                ·
                  refine own_via (fun t k => XS.icmpYes X0.here hx rfl (pc0 := 196) (pc' := 201) rfl (hb hby own_d1_196) rfl (teq hc31).1 (by decide) (by decide) k) ?_
                  show own_G p e below _ (s₁.setTop (mkF m 201 #[.val (.ref a1), .val (.int (1 : Int32)), .val (.int p2), .val (.int vg1), .val (.int (3 : Int32)), .val (.int (160 : Int32)), .val (.int (191 : Int32)), .val (.int vg28), .val (.int (3 : Int32))] []))
                  refine own_via (fun t k => XS.iinc X0.here hx rfl (hb hby own_d1_201) rfl (l' := #[.val (.ref a1), .val (.int (1 : Int32)), .val (.int p2), .val (.int vg1), .val (.int (3 : Int32)), .val (.int (160 : Int32)), .val (.int (191 : Int32)), .val (.int vg28), .val (.int (4 : Int32))]) rfl k) ?_
                  show own_G p e below _ (s₁.setTop (mkF m 204 #[.val (.ref a1), .val (.int (1 : Int32)), .val (.int p2), .val (.int vg1), .val (.int (3 : Int32)), .val (.int (160 : Int32)), .val (.int (191 : Int32)), .val (.int vg28), .val (.int (4 : Int32))] []))
                  refine own_via (fun t k => XS.goto X0.here hx rfl (pc0 := 204) (pc' := 176) rfl (hb hby own_d1_204) (by decide) (by decide) k) ?_
                  show own_G p e below _ (s₁.setTop (mkF m 176 #[.val (.ref a1), .val (.int (1 : Int32)), .val (.int p2), .val (.int vg1), .val (.int (3 : Int32)), .val (.int (160 : Int32)), .val (.int (191 : Int32)), .val (.int vg28), .val (.int (4 : Int32))] []))
                  refine own_via (fun t k => XS.iload X0.here hx rfl (hb hby own_d1_176) rfl k) ?_
                  show own_G p e below _ (s₁.setTop (mkF m 178 #[.val (.ref a1), .val (.int (1 : Int32)), .val (.int p2), .val (.int vg1), .val (.int (3 : Int32)), .val (.int (160 : Int32)), .val (.int (191 : Int32)), .val (.int vg28), .val (.int (4 : Int32))] [(.int (4 : Int32))]))
                  refine own_via (fun t k => XS.iloadN X0.here hx rfl (hb hby own_d1_178) rfl k) ?_
                  show own_G p e below _ (s₁.setTop (mkF m 179 #[.val (.ref a1), .val (.int (1 : Int32)), .val (.int p2), .val (.int vg1), .val (.int (3 : Int32)), .val (.int (160 : Int32)), .val (.int (191 : Int32)), .val (.int vg28), .val (.int (4 : Int32))] [(.int (1 : Int32)), (.int (4 : Int32))]))
                  refine own_via (fun t k => XS.iload X0.here hx rfl (hb hby own_d1_179) rfl k) ?_
                  show own_G p e below _ (s₁.setTop (mkF m 181 #[.val (.ref a1), .val (.int (1 : Int32)), .val (.int p2), .val (.int vg1), .val (.int (3 : Int32)), .val (.int (160 : Int32)), .val (.int (191 : Int32)), .val (.int vg28), .val (.int (4 : Int32))] [(.int (3 : Int32)), (.int (1 : Int32)), (.int (4 : Int32))]))
                  refine own_via (fun t k => XS.iadd X0.here hx rfl (hb hby own_d1_181) rfl k) ?_
                  show own_G p e below _ (s₁.setTop (mkF m 182 #[.val (.ref a1), .val (.int (1 : Int32)), .val (.int p2), .val (.int vg1), .val (.int (3 : Int32)), .val (.int (160 : Int32)), .val (.int (191 : Int32)), .val (.int vg28), .val (.int (4 : Int32))] [(.int (4 : Int32)), (.int (4 : Int32))]))
                  refine own_via (fun t k => XS.icmpYes X0.here hx rfl (pc0 := 182) (pc' := 207) rfl (hb hby own_d1_182) rfl (flt (by decide : ¬ ((4 : Int32) < (4 : Int32)))).2.1 (by decide) (by decide) k) ?_
                  show own_G p e below _ (s₁.setTop (mkF m 207 #[.val (.ref a1), .val (.int (1 : Int32)), .val (.int p2), .val (.int vg1), .val (.int (3 : Int32)), .val (.int (160 : Int32)), .val (.int (191 : Int32)), .val (.int vg28), .val (.int (4 : Int32))] []))
                  refine own_via (fun t k => XS.iload X0.here hx rfl (hb hby own_d1_207) rfl k) ?_
                  show own_G p e below _ (s₁.setTop (mkF m 209 #[.val (.ref a1), .val (.int (1 : Int32)), .val (.int p2), .val (.int vg1), .val (.int (3 : Int32)), .val (.int (160 : Int32)), .val (.int (191 : Int32)), .val (.int vg28), .val (.int (4 : Int32))] [(.int (3 : Int32))]))
                  exact own_retI X0 hx Bd.returns Bd.notSynchronized (hb hby own_d1_209) ⟨(by show (some (.int (3 : Int32)) : Option Value) = some (.int (own_Fs1 b1 b2 b3 b4 p2)); subst hvg28; subst hvg1; simp only [own_Fs1, if_neg hc2, if_pos hc3, if_neg hc4, if_pos hc26, if_neg hc27, if_neg hc29, if_neg hc30, if_pos hc31]), rfl, e0⟩ (by decide) (by decide)
                ·
                  refine own_via (fun t k => XS.icmpNo X0.here hx rfl (hb hby own_d1_196) rfl (feq hc31).1 k) ?_
                  show own_G p e below _ (s₁.setTop (mkF m 199 #[.val (.ref a1), .val (.int (1 : Int32)), .val (.int p2), .val (.int vg1), .val (.int (3 : Int32)), .val (.int (160 : Int32)), .val (.int (191 : Int32)), .val (.int vg28), .val (.int (3 : Int32))] []))
                  refine own_via (fun t k => XS.iconst X0.here hx rfl (hb hby own_d1_199) k) ?_
                  show own_G p e below _ (s₁.setTop (mkF m 200 #[.val (.ref a1), .val (.int (1 : Int32)), .val (.int p2), .val (.int vg1), .val (.int (3 : Int32)), .val (.int (160 : Int32)), .val (.int (191 : Int32)), .val (.int vg28), .val (.int (3 : Int32))] [(.int (-1 : Int32))]))
                  exact own_retI X0 hx Bd.returns Bd.notSynchronized (hb hby own_d1_200) ⟨(by show (some (.int (-1 : Int32)) : Option Value) = some (.int (own_Fs1 b1 b2 b3 b4 p2)); subst hvg28; subst hvg1; simp only [own_Fs1, if_neg hc2, if_pos hc3, if_neg hc4, if_pos hc26, if_neg hc27, if_neg hc29, if_neg hc30, if_neg hc31]), rfl, e0⟩ (by decide) (by decide)
        ·
          refine own_via (fun t k => XS.icmpYes X0.here hx rfl (pc0 := 59) (pc' := 70) rfl (hb hby own_d1_59) rfl (feq hc26).2 (by decide) (by decide) k) ?_
          show own_G p e below _ (s₁.setTop (mkF m 70 #[.val (.ref a1), .val (.int (1 : Int32)), .val (.int p2), .val (.int vg1), .val (.int (3 : Int32)), .val (.int (128 : Int32)), .val (.int (191 : Int32)), .unset, .unset] []))
          refine own_via (fun t k => XS.iloadN X0.here hx rfl (hb hby own_d1_70) rfl k) ?_
          show own_G p e below _ (s₁.setTop (mkF m 71 #[.val (.ref a1), .val (.int (1 : Int32)), .val (.int p2), .val (.int vg1), .val (.int (3 : Int32)), .val (.int (128 : Int32)), .val (.int (191 : Int32)), .unset, .unset] [(.int vg1)]))
          refine own_via (fun t k => XS.sipush X0.here hx rfl (hb hby own_d1_71) k) ?_
          show own_G p e below _ (s₁.setTop (mkF m 74 #[.val (.ref a1), .val (.int (1 : Int32)), .val (.int p2), .val (.int vg1), .val (.int (3 : Int32)), .val (.int (128 : Int32)), .val (.int (191 : Int32)), .unset, .unset] [(.int (237 : Int32)), (.int vg1)]))
          by_cases hc32 : vg1 = (237 : Int32)
          ·
            refine own_via (fun t k => XS.icmpNo X0.here hx rfl (hb hby own_d1_74) rfl (teq hc32).2 k) ?_
            show own_G p e below _ (s₁.setTop (mkF m 77 #[.val (.ref a1), .val (.int (1 : Int32)), .val (.int p2), .val (.int vg1), .val (.int (3 : Int32)), .val (.int (128 : Int32)), .val (.int (191 : Int32)), .unset, .unset] []))
            refine own_via (fun t k => XS.sipush X0.here hx rfl (hb hby own_d1_77) k) ?_
            show own_G p e below _ (s₁.setTop (mkF m 80 #[.val (.ref a1), .val (.int (1 : Int32)), .val (.int p2), .val (.int vg1), .val (.int (3 : Int32)), .val (.int (128 : Int32)), .val (.int (191 : Int32)), .unset, .unset] [(.int (159 : Int32))]))
            refine own_via (fun t k => XS.istore X0.here hx rfl (hb hby own_d1_80) rfl (l' := #[.val (.ref a1), .val (.int (1 : Int32)), .val (.int p2), .val (.int vg1), .val (.int (3 : Int32)), .val (.int (128 : Int32)), .val (.int (159 : Int32)), .unset, .unset]) rfl k) ?_
            show own_G p e below _ (s₁.setTop (mkF m 82 #[.val (.ref a1), .val (.int (1 : Int32)), .val (.int p2), .val (.int vg1), .val (.int (3 : Int32)), .val (.int (128 : Int32)), .val (.int (159 : Int32)), .unset, .unset] []))
            refine own_via (fun t k => XS.goto X0.here hx rfl (pc0 := 82) (pc' := 134) rfl (hb hby own_d1_82) (by decide) (by decide) k) ?_
            show own_G p e below _ (s₁.setTop (mkF m 134 #[.val (.ref a1), .val (.int (1 : Int32)), .val (.int p2), .val (.int vg1), .val (.int (3 : Int32)), .val (.int (128 : Int32)), .val (.int (159 : Int32)), .unset, .unset] []))
            refine own_via (fun t k => XS.iloadN X0.here hx rfl (hb hby own_d1_134) rfl k) ?_
            show own_G p e below _ (s₁.setTop (mkF m 135 #[.val (.ref a1), .val (.int (1 : Int32)), .val (.int p2), .val (.int vg1), .val (.int (3 : Int32)), .val (.int (128 : Int32)), .val (.int (159 : Int32)), .unset, .unset] [(.int p2)]))
            refine own_via (fun t k => XS.iloadN X0.here hx rfl (hb hby own_d1_135) rfl k) ?_
            show own_G p e below _ (s₁.setTop (mkF m 136 #[.val (.ref a1), .val (.int (1 : Int32)), .val (.int p2), .val (.int vg1), .val (.int (3 : Int32)), .val (.int (128 : Int32)), .val (.int (159 : Int32)), .unset, .unset] [(.int (1 : Int32)), (.int p2)]))
            refine own_via (fun t k => XS.isub X0.here hx rfl (hb hby own_d1_136) rfl k) ?_
            show own_G p e below _ (s₁.setTop (mkF m 137 #[.val (.ref a1), .val (.int (1 : Int32)), .val (.int p2), .val (.int vg1), .val (.int (3 : Int32)), .val (.int (128 : Int32)), .val (.int (159 : Int32)), .unset, .unset] [(.int (p2 - (1 : Int32)))]))
            refine own_via (fun t k => XS.iload X0.here hx rfl (hb hby own_d1_137) rfl k) ?_
            show own_G p e below _ (s₁.setTop (mkF m 139 #[.val (.ref a1), .val (.int (1 : Int32)), .val (.int p2), .val (.int vg1), .val (.int (3 : Int32)), .val (.int (128 : Int32)), .val (.int (159 : Int32)), .unset, .unset] [(.int (3 : Int32)), (.int (p2 - (1 : Int32)))]))
            by_cases hc33 : (p2 - (1 : Int32)) < (3 : Int32)
            ·
              refine own_via (fun t k => XS.icmpNo X0.here hx rfl (hb hby own_d1_139) rfl (tlt hc33).2.1 k) ?_
              show own_G p e below _ (s₁.setTop (mkF m 142 #[.val (.ref a1), .val (.int (1 : Int32)), .val (.int p2), .val (.int vg1), .val (.int (3 : Int32)), .val (.int (128 : Int32)), .val (.int (159 : Int32)), .unset, .unset] []))
              refine own_via (fun t k => XS.iconst X0.here hx rfl (hb hby own_d1_142) k) ?_
              show own_G p e below _ (s₁.setTop (mkF m 143 #[.val (.ref a1), .val (.int (1 : Int32)), .val (.int p2), .val (.int vg1), .val (.int (3 : Int32)), .val (.int (128 : Int32)), .val (.int (159 : Int32)), .unset, .unset] [(.int (-1 : Int32))]))
              exact own_retI X0 hx Bd.returns Bd.notSynchronized (hb hby own_d1_143) ⟨(by show (some (.int (-1 : Int32)) : Option Value) = some (.int (own_Fs1 b1 b2 b3 b4 p2)); subst hvg1; simp only [own_Fs1, if_neg hc2, if_pos hc3, if_neg hc4, if_neg hc26, if_pos hc32, if_pos hc33]), rfl, e0⟩ (by decide) (by decide)
            ·
              refine own_via (fun t k => XS.icmpYes X0.here hx rfl (pc0 := 139) (pc' := 144) rfl (hb hby own_d1_139) rfl (flt hc33).2.1 (by decide) (by decide) k) ?_
              show own_G p e below _ (s₁.setTop (mkF m 144 #[.val (.ref a1), .val (.int (1 : Int32)), .val (.int p2), .val (.int vg1), .val (.int (3 : Int32)), .val (.int (128 : Int32)), .val (.int (159 : Int32)), .unset, .unset] []))
              refine own_via (fun t k => XS.aloadN X0.here hx rfl (hb hby own_d1_144) rfl rfl k) ?_
              show own_G p e below _ (s₁.setTop (mkF m 145 #[.val (.ref a1), .val (.int (1 : Int32)), .val (.int p2), .val (.int vg1), .val (.int (3 : Int32)), .val (.int (128 : Int32)), .val (.int (159 : Int32)), .unset, .unset] [(.ref a1)]))
              refine own_via (fun t k => XS.iloadN X0.here hx rfl (hb hby own_d1_145) rfl k) ?_
              show own_G p e below _ (s₁.setTop (mkF m 146 #[.val (.ref a1), .val (.int (1 : Int32)), .val (.int p2), .val (.int vg1), .val (.int (3 : Int32)), .val (.int (128 : Int32)), .val (.int (159 : Int32)), .unset, .unset] [(.int (1 : Int32)), (.ref a1)]))
              refine own_via (fun t k => XS.iconst X0.here hx rfl (hb hby own_d1_146) k) ?_
              show own_G p e below _ (s₁.setTop (mkF m 147 #[.val (.ref a1), .val (.int (1 : Int32)), .val (.int p2), .val (.int vg1), .val (.int (3 : Int32)), .val (.int (128 : Int32)), .val (.int (159 : Int32)), .unset, .unset] [(.int (1 : Int32)), (.int (1 : Int32)), (.ref a1)]))
              refine own_via (fun t k => XS.iadd X0.here hx rfl (hb hby own_d1_147) rfl k) ?_
              show own_G p e below _ (s₁.setTop (mkF m 148 #[.val (.ref a1), .val (.int (1 : Int32)), .val (.int p2), .val (.int vg1), .val (.int (3 : Int32)), .val (.int (128 : Int32)), .val (.int (159 : Int32)), .unset, .unset] [(.int (2 : Int32)), (.ref a1)]))
              refine own_via (own_ldB X0 hx hZ e0 i_V0 (j := (2 : Int32)) ⟨by decide, by decide⟩ (v := (.int b2)) rfl (pc := 148) (Ls := #[.val (.ref a1), .val (.int (1 : Int32)), .val (.int p2), .val (.int vg1), .val (.int (3 : Int32)), .val (.int (128 : Int32)), .val (.int (159 : Int32)), .unset, .unset]) (rest := []) (hb hby own_d1_148)) ?_
              show own_G p e below _ (s₁.setTop (mkF m 149 #[.val (.ref a1), .val (.int (1 : Int32)), .val (.int p2), .val (.int vg1), .val (.int (3 : Int32)), .val (.int (128 : Int32)), .val (.int (159 : Int32)), .unset, .unset] [(.int b2)]))
              refine own_via (fun t k => XS.sipush X0.here hx rfl (hb hby own_d1_149) k) ?_
              show own_G p e below _ (s₁.setTop (mkF m 152 #[.val (.ref a1), .val (.int (1 : Int32)), .val (.int p2), .val (.int vg1), .val (.int (3 : Int32)), .val (.int (128 : Int32)), .val (.int (159 : Int32)), .unset, .unset] [(.int (255 : Int32)), (.int b2)]))
              refine own_via (fun t k => XS.iand X0.here hx rfl (hb hby own_d1_152) rfl k) ?_
              show own_G p e below _ (s₁.setTop (mkF m 153 #[.val (.ref a1), .val (.int (1 : Int32)), .val (.int p2), .val (.int vg1), .val (.int (3 : Int32)), .val (.int (128 : Int32)), .val (.int (159 : Int32)), .unset, .unset] [(.int (b2 &&& (255 : Int32)))]))
              generalize hvg34 : (b2 &&& (255 : Int32)) = vg34
              show own_G p e below _ (s₁.setTop (mkF m 153 #[.val (.ref a1), .val (.int (1 : Int32)), .val (.int p2), .val (.int vg1), .val (.int (3 : Int32)), .val (.int (128 : Int32)), .val (.int (159 : Int32)), .unset, .unset] [(.int vg34)]))
              refine own_via (fun t k => XS.istore X0.here hx rfl (hb hby own_d1_153) rfl (l' := #[.val (.ref a1), .val (.int (1 : Int32)), .val (.int p2), .val (.int vg1), .val (.int (3 : Int32)), .val (.int (128 : Int32)), .val (.int (159 : Int32)), .val (.int vg34), .unset]) rfl k) ?_
              show own_G p e below _ (s₁.setTop (mkF m 155 #[.val (.ref a1), .val (.int (1 : Int32)), .val (.int p2), .val (.int vg1), .val (.int (3 : Int32)), .val (.int (128 : Int32)), .val (.int (159 : Int32)), .val (.int vg34), .unset] []))
              refine own_via (fun t k => XS.iload X0.here hx rfl (hb hby own_d1_155) rfl k) ?_
              show own_G p e below _ (s₁.setTop (mkF m 157 #[.val (.ref a1), .val (.int (1 : Int32)), .val (.int p2), .val (.int vg1), .val (.int (3 : Int32)), .val (.int (128 : Int32)), .val (.int (159 : Int32)), .val (.int vg34), .unset] [(.int vg34)]))
              refine own_via (fun t k => XS.iload X0.here hx rfl (hb hby own_d1_157) rfl k) ?_
              show own_G p e below _ (s₁.setTop (mkF m 159 #[.val (.ref a1), .val (.int (1 : Int32)), .val (.int p2), .val (.int vg1), .val (.int (3 : Int32)), .val (.int (128 : Int32)), .val (.int (159 : Int32)), .val (.int vg34), .unset] [(.int (128 : Int32)), (.int vg34)]))
              by_cases hc35 : vg34 < (128 : Int32)
              ·
                refine own_via (fun t k => XS.icmpYes X0.here hx rfl (pc0 := 159) (pc' := 169) rfl (hb hby own_d1_159) rfl (tlt hc35).1 (by decide) (by decide) k) ?_
                show own_G p e below _ (s₁.setTop (mkF m 169 #[.val (.ref a1), .val (.int (1 : Int32)), .val (.int p2), .val (.int vg1), .val (.int (3 : Int32)), .val (.int (128 : Int32)), .val (.int (159 : Int32)), .val (.int vg34), .unset] []))
                refine own_via (fun t k => XS.iconst X0.here hx rfl (hb hby own_d1_169) k) ?_
                show own_G p e below _ (s₁.setTop (mkF m 170 #[.val (.ref a1), .val (.int (1 : Int32)), .val (.int p2), .val (.int vg1), .val (.int (3 : Int32)), .val (.int (128 : Int32)), .val (.int (159 : Int32)), .val (.int vg34), .unset] [(.int (-1 : Int32))]))
                exact own_retI X0 hx Bd.returns Bd.notSynchronized (hb hby own_d1_170) ⟨(by show (some (.int (-1 : Int32)) : Option Value) = some (.int (own_Fs1 b1 b2 b3 b4 p2)); subst hvg34; subst hvg1; simp only [own_Fs1, if_neg hc2, if_pos hc3, if_neg hc4, if_neg hc26, if_pos hc32, if_neg hc33, if_pos hc35]), rfl, e0⟩ (by decide) (by decide)
              ·
                refine own_via (fun t k => XS.icmpNo X0.here hx rfl (hb hby own_d1_159) rfl (flt hc35).1 k) ?_
                show own_G p e below _ (s₁.setTop (mkF m 162 #[.val (.ref a1), .val (.int (1 : Int32)), .val (.int p2), .val (.int vg1), .val (.int (3 : Int32)), .val (.int (128 : Int32)), .val (.int (159 : Int32)), .val (.int vg34), .unset] []))
                refine own_via (fun t k => XS.iload X0.here hx rfl (hb hby own_d1_162) rfl k) ?_
                show own_G p e below _ (s₁.setTop (mkF m 164 #[.val (.ref a1), .val (.int (1 : Int32)), .val (.int p2), .val (.int vg1), .val (.int (3 : Int32)), .val (.int (128 : Int32)), .val (.int (159 : Int32)), .val (.int vg34), .unset] [(.int vg34)]))
                refine own_via (fun t k => XS.iload X0.here hx rfl (hb hby own_d1_164) rfl k) ?_
                show own_G p e below _ (s₁.setTop (mkF m 166 #[.val (.ref a1), .val (.int (1 : Int32)), .val (.int p2), .val (.int vg1), .val (.int (3 : Int32)), .val (.int (128 : Int32)), .val (.int (159 : Int32)), .val (.int vg34), .unset] [(.int (159 : Int32)), (.int vg34)]))
                by_cases hc36 : (159 : Int32) < vg34
                ·
                  refine own_via (fun t k => XS.icmpNo X0.here hx rfl (hb hby own_d1_166) rfl (tlt hc36).2.2.2 k) ?_
                  show own_G p e below _ (s₁.setTop (mkF m 169 #[.val (.ref a1), .val (.int (1 : Int32)), .val (.int p2), .val (.int vg1), .val (.int (3 : Int32)), .val (.int (128 : Int32)), .val (.int (159 : Int32)), .val (.int vg34), .unset] []))
                  refine own_via (fun t k => XS.iconst X0.here hx rfl (hb hby own_d1_169) k) ?_
                  show own_G p e below _ (s₁.setTop (mkF m 170 #[.val (.ref a1), .val (.int (1 : Int32)), .val (.int p2), .val (.int vg1), .val (.int (3 : Int32)), .val (.int (128 : Int32)), .val (.int (159 : Int32)), .val (.int vg34), .unset] [(.int (-1 : Int32))]))
                  exact own_retI X0 hx Bd.returns Bd.notSynchronized (hb hby own_d1_170) ⟨(by show (some (.int (-1 : Int32)) : Option Value) = some (.int (own_Fs1 b1 b2 b3 b4 p2)); subst hvg34; subst hvg1; simp only [own_Fs1, if_neg hc2, if_pos hc3, if_neg hc4, if_neg hc26, if_pos hc32, if_neg hc33, if_neg hc35, if_pos hc36]), rfl, e0⟩ (by decide) (by decide)
                ·
                  refine own_via (fun t k => XS.icmpYes X0.here hx rfl (pc0 := 166) (pc' := 171) rfl (hb hby own_d1_166) rfl (flt hc36).2.2.2 (by decide) (by decide) k) ?_
                  show own_G p e below _ (s₁.setTop (mkF m 171 #[.val (.ref a1), .val (.int (1 : Int32)), .val (.int p2), .val (.int vg1), .val (.int (3 : Int32)), .val (.int (128 : Int32)), .val (.int (159 : Int32)), .val (.int vg34), .unset] []))
                  refine own_via (fun t k => XS.iloadN X0.here hx rfl (hb hby own_d1_171) rfl k) ?_
                  show own_G p e below _ (s₁.setTop (mkF m 172 #[.val (.ref a1), .val (.int (1 : Int32)), .val (.int p2), .val (.int vg1), .val (.int (3 : Int32)), .val (.int (128 : Int32)), .val (.int (159 : Int32)), .val (.int vg34), .unset] [(.int (1 : Int32))]))
                  refine own_via (fun t k => XS.iconst X0.here hx rfl (hb hby own_d1_172) k) ?_
                  show own_G p e below _ (s₁.setTop (mkF m 173 #[.val (.ref a1), .val (.int (1 : Int32)), .val (.int p2), .val (.int vg1), .val (.int (3 : Int32)), .val (.int (128 : Int32)), .val (.int (159 : Int32)), .val (.int vg34), .unset] [(.int (2 : Int32)), (.int (1 : Int32))]))
                  refine own_via (fun t k => XS.iadd X0.here hx rfl (hb hby own_d1_173) rfl k) ?_
                  show own_G p e below _ (s₁.setTop (mkF m 174 #[.val (.ref a1), .val (.int (1 : Int32)), .val (.int p2), .val (.int vg1), .val (.int (3 : Int32)), .val (.int (128 : Int32)), .val (.int (159 : Int32)), .val (.int vg34), .unset] [(.int (3 : Int32))]))
                  refine own_via (fun t k => XS.istore X0.here hx rfl (hb hby own_d1_174) rfl (l' := #[.val (.ref a1), .val (.int (1 : Int32)), .val (.int p2), .val (.int vg1), .val (.int (3 : Int32)), .val (.int (128 : Int32)), .val (.int (159 : Int32)), .val (.int vg34), .val (.int (3 : Int32))]) rfl k) ?_
                  show own_G p e below _ (s₁.setTop (mkF m 176 #[.val (.ref a1), .val (.int (1 : Int32)), .val (.int p2), .val (.int vg1), .val (.int (3 : Int32)), .val (.int (128 : Int32)), .val (.int (159 : Int32)), .val (.int vg34), .val (.int (3 : Int32))] []))
                  refine own_via (fun t k => XS.iload X0.here hx rfl (hb hby own_d1_176) rfl k) ?_
                  show own_G p e below _ (s₁.setTop (mkF m 178 #[.val (.ref a1), .val (.int (1 : Int32)), .val (.int p2), .val (.int vg1), .val (.int (3 : Int32)), .val (.int (128 : Int32)), .val (.int (159 : Int32)), .val (.int vg34), .val (.int (3 : Int32))] [(.int (3 : Int32))]))
                  refine own_via (fun t k => XS.iloadN X0.here hx rfl (hb hby own_d1_178) rfl k) ?_
                  show own_G p e below _ (s₁.setTop (mkF m 179 #[.val (.ref a1), .val (.int (1 : Int32)), .val (.int p2), .val (.int vg1), .val (.int (3 : Int32)), .val (.int (128 : Int32)), .val (.int (159 : Int32)), .val (.int vg34), .val (.int (3 : Int32))] [(.int (1 : Int32)), (.int (3 : Int32))]))
                  refine own_via (fun t k => XS.iload X0.here hx rfl (hb hby own_d1_179) rfl k) ?_
                  show own_G p e below _ (s₁.setTop (mkF m 181 #[.val (.ref a1), .val (.int (1 : Int32)), .val (.int p2), .val (.int vg1), .val (.int (3 : Int32)), .val (.int (128 : Int32)), .val (.int (159 : Int32)), .val (.int vg34), .val (.int (3 : Int32))] [(.int (3 : Int32)), (.int (1 : Int32)), (.int (3 : Int32))]))
                  refine own_via (fun t k => XS.iadd X0.here hx rfl (hb hby own_d1_181) rfl k) ?_
                  show own_G p e below _ (s₁.setTop (mkF m 182 #[.val (.ref a1), .val (.int (1 : Int32)), .val (.int p2), .val (.int vg1), .val (.int (3 : Int32)), .val (.int (128 : Int32)), .val (.int (159 : Int32)), .val (.int vg34), .val (.int (3 : Int32))] [(.int (4 : Int32)), (.int (3 : Int32))]))
                  refine own_via (fun t k => XS.icmpNo X0.here hx rfl (hb hby own_d1_182) rfl (tlt (by decide : (3 : Int32) < (4 : Int32))).2.1 k) ?_
                  show own_G p e below _ (s₁.setTop (mkF m 185 #[.val (.ref a1), .val (.int (1 : Int32)), .val (.int p2), .val (.int vg1), .val (.int (3 : Int32)), .val (.int (128 : Int32)), .val (.int (159 : Int32)), .val (.int vg34), .val (.int (3 : Int32))] []))
                  refine own_via (fun t k => XS.aloadN X0.here hx rfl (hb hby own_d1_185) rfl rfl k) ?_
                  show own_G p e below _ (s₁.setTop (mkF m 186 #[.val (.ref a1), .val (.int (1 : Int32)), .val (.int p2), .val (.int vg1), .val (.int (3 : Int32)), .val (.int (128 : Int32)), .val (.int (159 : Int32)), .val (.int vg34), .val (.int (3 : Int32))] [(.ref a1)]))
                  refine own_via (fun t k => XS.iload X0.here hx rfl (hb hby own_d1_186) rfl k) ?_
                  show own_G p e below _ (s₁.setTop (mkF m 188 #[.val (.ref a1), .val (.int (1 : Int32)), .val (.int p2), .val (.int vg1), .val (.int (3 : Int32)), .val (.int (128 : Int32)), .val (.int (159 : Int32)), .val (.int vg34), .val (.int (3 : Int32))] [(.int (3 : Int32)), (.ref a1)]))
                  refine own_via (own_ldB X0 hx hZ e0 i_V0 (j := (3 : Int32)) ⟨by decide, by decide⟩ (v := (.int b3)) rfl (pc := 188) (Ls := #[.val (.ref a1), .val (.int (1 : Int32)), .val (.int p2), .val (.int vg1), .val (.int (3 : Int32)), .val (.int (128 : Int32)), .val (.int (159 : Int32)), .val (.int vg34), .val (.int (3 : Int32))]) (rest := []) (hb hby own_d1_188)) ?_
                  show own_G p e below _ (s₁.setTop (mkF m 189 #[.val (.ref a1), .val (.int (1 : Int32)), .val (.int p2), .val (.int vg1), .val (.int (3 : Int32)), .val (.int (128 : Int32)), .val (.int (159 : Int32)), .val (.int vg34), .val (.int (3 : Int32))] [(.int b3)]))
                  refine own_via (fun t k => XS.sipush X0.here hx rfl (hb hby own_d1_189) k) ?_
                  show own_G p e below _ (s₁.setTop (mkF m 192 #[.val (.ref a1), .val (.int (1 : Int32)), .val (.int p2), .val (.int vg1), .val (.int (3 : Int32)), .val (.int (128 : Int32)), .val (.int (159 : Int32)), .val (.int vg34), .val (.int (3 : Int32))] [(.int (192 : Int32)), (.int b3)]))
                  refine own_via (fun t k => XS.iand X0.here hx rfl (hb hby own_d1_192) rfl k) ?_
                  show own_G p e below _ (s₁.setTop (mkF m 193 #[.val (.ref a1), .val (.int (1 : Int32)), .val (.int p2), .val (.int vg1), .val (.int (3 : Int32)), .val (.int (128 : Int32)), .val (.int (159 : Int32)), .val (.int vg34), .val (.int (3 : Int32))] [(.int (b3 &&& (192 : Int32)))]))
                  refine own_via (fun t k => XS.sipush X0.here hx rfl (hb hby own_d1_193) k) ?_
                  show own_G p e below _ (s₁.setTop (mkF m 196 #[.val (.ref a1), .val (.int (1 : Int32)), .val (.int p2), .val (.int vg1), .val (.int (3 : Int32)), .val (.int (128 : Int32)), .val (.int (159 : Int32)), .val (.int vg34), .val (.int (3 : Int32))] [(.int (128 : Int32)), (.int (b3 &&& (192 : Int32)))]))
                  by_cases hc37 : (b3 &&& (192 : Int32)) = (128 : Int32)
                  ·
                    refine own_via (fun t k => XS.icmpYes X0.here hx rfl (pc0 := 196) (pc' := 201) rfl (hb hby own_d1_196) rfl (teq hc37).1 (by decide) (by decide) k) ?_
                    show own_G p e below _ (s₁.setTop (mkF m 201 #[.val (.ref a1), .val (.int (1 : Int32)), .val (.int p2), .val (.int vg1), .val (.int (3 : Int32)), .val (.int (128 : Int32)), .val (.int (159 : Int32)), .val (.int vg34), .val (.int (3 : Int32))] []))
                    refine own_via (fun t k => XS.iinc X0.here hx rfl (hb hby own_d1_201) rfl (l' := #[.val (.ref a1), .val (.int (1 : Int32)), .val (.int p2), .val (.int vg1), .val (.int (3 : Int32)), .val (.int (128 : Int32)), .val (.int (159 : Int32)), .val (.int vg34), .val (.int (4 : Int32))]) rfl k) ?_
                    show own_G p e below _ (s₁.setTop (mkF m 204 #[.val (.ref a1), .val (.int (1 : Int32)), .val (.int p2), .val (.int vg1), .val (.int (3 : Int32)), .val (.int (128 : Int32)), .val (.int (159 : Int32)), .val (.int vg34), .val (.int (4 : Int32))] []))
                    refine own_via (fun t k => XS.goto X0.here hx rfl (pc0 := 204) (pc' := 176) rfl (hb hby own_d1_204) (by decide) (by decide) k) ?_
                    show own_G p e below _ (s₁.setTop (mkF m 176 #[.val (.ref a1), .val (.int (1 : Int32)), .val (.int p2), .val (.int vg1), .val (.int (3 : Int32)), .val (.int (128 : Int32)), .val (.int (159 : Int32)), .val (.int vg34), .val (.int (4 : Int32))] []))
                    refine own_via (fun t k => XS.iload X0.here hx rfl (hb hby own_d1_176) rfl k) ?_
                    show own_G p e below _ (s₁.setTop (mkF m 178 #[.val (.ref a1), .val (.int (1 : Int32)), .val (.int p2), .val (.int vg1), .val (.int (3 : Int32)), .val (.int (128 : Int32)), .val (.int (159 : Int32)), .val (.int vg34), .val (.int (4 : Int32))] [(.int (4 : Int32))]))
                    refine own_via (fun t k => XS.iloadN X0.here hx rfl (hb hby own_d1_178) rfl k) ?_
                    show own_G p e below _ (s₁.setTop (mkF m 179 #[.val (.ref a1), .val (.int (1 : Int32)), .val (.int p2), .val (.int vg1), .val (.int (3 : Int32)), .val (.int (128 : Int32)), .val (.int (159 : Int32)), .val (.int vg34), .val (.int (4 : Int32))] [(.int (1 : Int32)), (.int (4 : Int32))]))
                    refine own_via (fun t k => XS.iload X0.here hx rfl (hb hby own_d1_179) rfl k) ?_
                    show own_G p e below _ (s₁.setTop (mkF m 181 #[.val (.ref a1), .val (.int (1 : Int32)), .val (.int p2), .val (.int vg1), .val (.int (3 : Int32)), .val (.int (128 : Int32)), .val (.int (159 : Int32)), .val (.int vg34), .val (.int (4 : Int32))] [(.int (3 : Int32)), (.int (1 : Int32)), (.int (4 : Int32))]))
                    refine own_via (fun t k => XS.iadd X0.here hx rfl (hb hby own_d1_181) rfl k) ?_
                    show own_G p e below _ (s₁.setTop (mkF m 182 #[.val (.ref a1), .val (.int (1 : Int32)), .val (.int p2), .val (.int vg1), .val (.int (3 : Int32)), .val (.int (128 : Int32)), .val (.int (159 : Int32)), .val (.int vg34), .val (.int (4 : Int32))] [(.int (4 : Int32)), (.int (4 : Int32))]))
                    refine own_via (fun t k => XS.icmpYes X0.here hx rfl (pc0 := 182) (pc' := 207) rfl (hb hby own_d1_182) rfl (flt (by decide : ¬ ((4 : Int32) < (4 : Int32)))).2.1 (by decide) (by decide) k) ?_
                    show own_G p e below _ (s₁.setTop (mkF m 207 #[.val (.ref a1), .val (.int (1 : Int32)), .val (.int p2), .val (.int vg1), .val (.int (3 : Int32)), .val (.int (128 : Int32)), .val (.int (159 : Int32)), .val (.int vg34), .val (.int (4 : Int32))] []))
                    refine own_via (fun t k => XS.iload X0.here hx rfl (hb hby own_d1_207) rfl k) ?_
                    show own_G p e below _ (s₁.setTop (mkF m 209 #[.val (.ref a1), .val (.int (1 : Int32)), .val (.int p2), .val (.int vg1), .val (.int (3 : Int32)), .val (.int (128 : Int32)), .val (.int (159 : Int32)), .val (.int vg34), .val (.int (4 : Int32))] [(.int (3 : Int32))]))
                    exact own_retI X0 hx Bd.returns Bd.notSynchronized (hb hby own_d1_209) ⟨(by show (some (.int (3 : Int32)) : Option Value) = some (.int (own_Fs1 b1 b2 b3 b4 p2)); subst hvg34; subst hvg1; simp only [own_Fs1, if_neg hc2, if_pos hc3, if_neg hc4, if_neg hc26, if_pos hc32, if_neg hc33, if_neg hc35, if_neg hc36, if_pos hc37]), rfl, e0⟩ (by decide) (by decide)
                  ·
                    refine own_via (fun t k => XS.icmpNo X0.here hx rfl (hb hby own_d1_196) rfl (feq hc37).1 k) ?_
                    show own_G p e below _ (s₁.setTop (mkF m 199 #[.val (.ref a1), .val (.int (1 : Int32)), .val (.int p2), .val (.int vg1), .val (.int (3 : Int32)), .val (.int (128 : Int32)), .val (.int (159 : Int32)), .val (.int vg34), .val (.int (3 : Int32))] []))
                    refine own_via (fun t k => XS.iconst X0.here hx rfl (hb hby own_d1_199) k) ?_
                    show own_G p e below _ (s₁.setTop (mkF m 200 #[.val (.ref a1), .val (.int (1 : Int32)), .val (.int p2), .val (.int vg1), .val (.int (3 : Int32)), .val (.int (128 : Int32)), .val (.int (159 : Int32)), .val (.int vg34), .val (.int (3 : Int32))] [(.int (-1 : Int32))]))
                    exact own_retI X0 hx Bd.returns Bd.notSynchronized (hb hby own_d1_200) ⟨(by show (some (.int (-1 : Int32)) : Option Value) = some (.int (own_Fs1 b1 b2 b3 b4 p2)); subst hvg34; subst hvg1; simp only [own_Fs1, if_neg hc2, if_pos hc3, if_neg hc4, if_neg hc26, if_pos hc32, if_neg hc33, if_neg hc35, if_neg hc36, if_neg hc37]), rfl, e0⟩ (by decide) (by decide)
          ·
            refine own_via (fun t k => XS.icmpYes X0.here hx rfl (pc0 := 74) (pc' := 134) rfl (hb hby own_d1_74) rfl (feq hc32).2 (by decide) (by decide) k) ?_
            show own_G p e below _ (s₁.setTop (mkF m 134 #[.val (.ref a1), .val (.int (1 : Int32)), .val (.int p2), .val (.int vg1), .val (.int (3 : Int32)), .val (.int (128 : Int32)), .val (.int (191 : Int32)), .unset, .unset] []))
            refine own_via (fun t k => XS.iloadN X0.here hx rfl (hb hby own_d1_134) rfl k) ?_
            show own_G p e below _ (s₁.setTop (mkF m 135 #[.val (.ref a1), .val (.int (1 : Int32)), .val (.int p2), .val (.int vg1), .val (.int (3 : Int32)), .val (.int (128 : Int32)), .val (.int (191 : Int32)), .unset, .unset] [(.int p2)]))
            refine own_via (fun t k => XS.iloadN X0.here hx rfl (hb hby own_d1_135) rfl k) ?_
            show own_G p e below _ (s₁.setTop (mkF m 136 #[.val (.ref a1), .val (.int (1 : Int32)), .val (.int p2), .val (.int vg1), .val (.int (3 : Int32)), .val (.int (128 : Int32)), .val (.int (191 : Int32)), .unset, .unset] [(.int (1 : Int32)), (.int p2)]))
            refine own_via (fun t k => XS.isub X0.here hx rfl (hb hby own_d1_136) rfl k) ?_
            show own_G p e below _ (s₁.setTop (mkF m 137 #[.val (.ref a1), .val (.int (1 : Int32)), .val (.int p2), .val (.int vg1), .val (.int (3 : Int32)), .val (.int (128 : Int32)), .val (.int (191 : Int32)), .unset, .unset] [(.int (p2 - (1 : Int32)))]))
            refine own_via (fun t k => XS.iload X0.here hx rfl (hb hby own_d1_137) rfl k) ?_
            show own_G p e below _ (s₁.setTop (mkF m 139 #[.val (.ref a1), .val (.int (1 : Int32)), .val (.int p2), .val (.int vg1), .val (.int (3 : Int32)), .val (.int (128 : Int32)), .val (.int (191 : Int32)), .unset, .unset] [(.int (3 : Int32)), (.int (p2 - (1 : Int32)))]))
            by_cases hc38 : (p2 - (1 : Int32)) < (3 : Int32)
            ·
              refine own_via (fun t k => XS.icmpNo X0.here hx rfl (hb hby own_d1_139) rfl (tlt hc38).2.1 k) ?_
              show own_G p e below _ (s₁.setTop (mkF m 142 #[.val (.ref a1), .val (.int (1 : Int32)), .val (.int p2), .val (.int vg1), .val (.int (3 : Int32)), .val (.int (128 : Int32)), .val (.int (191 : Int32)), .unset, .unset] []))
              refine own_via (fun t k => XS.iconst X0.here hx rfl (hb hby own_d1_142) k) ?_
              show own_G p e below _ (s₁.setTop (mkF m 143 #[.val (.ref a1), .val (.int (1 : Int32)), .val (.int p2), .val (.int vg1), .val (.int (3 : Int32)), .val (.int (128 : Int32)), .val (.int (191 : Int32)), .unset, .unset] [(.int (-1 : Int32))]))
              exact own_retI X0 hx Bd.returns Bd.notSynchronized (hb hby own_d1_143) ⟨(by show (some (.int (-1 : Int32)) : Option Value) = some (.int (own_Fs1 b1 b2 b3 b4 p2)); subst hvg1; simp only [own_Fs1, if_neg hc2, if_pos hc3, if_neg hc4, if_neg hc26, if_neg hc32, if_pos hc38]), rfl, e0⟩ (by decide) (by decide)
            ·
              refine own_via (fun t k => XS.icmpYes X0.here hx rfl (pc0 := 139) (pc' := 144) rfl (hb hby own_d1_139) rfl (flt hc38).2.1 (by decide) (by decide) k) ?_
              show own_G p e below _ (s₁.setTop (mkF m 144 #[.val (.ref a1), .val (.int (1 : Int32)), .val (.int p2), .val (.int vg1), .val (.int (3 : Int32)), .val (.int (128 : Int32)), .val (.int (191 : Int32)), .unset, .unset] []))
              refine own_via (fun t k => XS.aloadN X0.here hx rfl (hb hby own_d1_144) rfl rfl k) ?_
              show own_G p e below _ (s₁.setTop (mkF m 145 #[.val (.ref a1), .val (.int (1 : Int32)), .val (.int p2), .val (.int vg1), .val (.int (3 : Int32)), .val (.int (128 : Int32)), .val (.int (191 : Int32)), .unset, .unset] [(.ref a1)]))
              refine own_via (fun t k => XS.iloadN X0.here hx rfl (hb hby own_d1_145) rfl k) ?_
              show own_G p e below _ (s₁.setTop (mkF m 146 #[.val (.ref a1), .val (.int (1 : Int32)), .val (.int p2), .val (.int vg1), .val (.int (3 : Int32)), .val (.int (128 : Int32)), .val (.int (191 : Int32)), .unset, .unset] [(.int (1 : Int32)), (.ref a1)]))
              refine own_via (fun t k => XS.iconst X0.here hx rfl (hb hby own_d1_146) k) ?_
              show own_G p e below _ (s₁.setTop (mkF m 147 #[.val (.ref a1), .val (.int (1 : Int32)), .val (.int p2), .val (.int vg1), .val (.int (3 : Int32)), .val (.int (128 : Int32)), .val (.int (191 : Int32)), .unset, .unset] [(.int (1 : Int32)), (.int (1 : Int32)), (.ref a1)]))
              refine own_via (fun t k => XS.iadd X0.here hx rfl (hb hby own_d1_147) rfl k) ?_
              show own_G p e below _ (s₁.setTop (mkF m 148 #[.val (.ref a1), .val (.int (1 : Int32)), .val (.int p2), .val (.int vg1), .val (.int (3 : Int32)), .val (.int (128 : Int32)), .val (.int (191 : Int32)), .unset, .unset] [(.int (2 : Int32)), (.ref a1)]))
              refine own_via (own_ldB X0 hx hZ e0 i_V0 (j := (2 : Int32)) ⟨by decide, by decide⟩ (v := (.int b2)) rfl (pc := 148) (Ls := #[.val (.ref a1), .val (.int (1 : Int32)), .val (.int p2), .val (.int vg1), .val (.int (3 : Int32)), .val (.int (128 : Int32)), .val (.int (191 : Int32)), .unset, .unset]) (rest := []) (hb hby own_d1_148)) ?_
              show own_G p e below _ (s₁.setTop (mkF m 149 #[.val (.ref a1), .val (.int (1 : Int32)), .val (.int p2), .val (.int vg1), .val (.int (3 : Int32)), .val (.int (128 : Int32)), .val (.int (191 : Int32)), .unset, .unset] [(.int b2)]))
              refine own_via (fun t k => XS.sipush X0.here hx rfl (hb hby own_d1_149) k) ?_
              show own_G p e below _ (s₁.setTop (mkF m 152 #[.val (.ref a1), .val (.int (1 : Int32)), .val (.int p2), .val (.int vg1), .val (.int (3 : Int32)), .val (.int (128 : Int32)), .val (.int (191 : Int32)), .unset, .unset] [(.int (255 : Int32)), (.int b2)]))
              refine own_via (fun t k => XS.iand X0.here hx rfl (hb hby own_d1_152) rfl k) ?_
              show own_G p e below _ (s₁.setTop (mkF m 153 #[.val (.ref a1), .val (.int (1 : Int32)), .val (.int p2), .val (.int vg1), .val (.int (3 : Int32)), .val (.int (128 : Int32)), .val (.int (191 : Int32)), .unset, .unset] [(.int (b2 &&& (255 : Int32)))]))
              generalize hvg39 : (b2 &&& (255 : Int32)) = vg39
              show own_G p e below _ (s₁.setTop (mkF m 153 #[.val (.ref a1), .val (.int (1 : Int32)), .val (.int p2), .val (.int vg1), .val (.int (3 : Int32)), .val (.int (128 : Int32)), .val (.int (191 : Int32)), .unset, .unset] [(.int vg39)]))
              refine own_via (fun t k => XS.istore X0.here hx rfl (hb hby own_d1_153) rfl (l' := #[.val (.ref a1), .val (.int (1 : Int32)), .val (.int p2), .val (.int vg1), .val (.int (3 : Int32)), .val (.int (128 : Int32)), .val (.int (191 : Int32)), .val (.int vg39), .unset]) rfl k) ?_
              show own_G p e below _ (s₁.setTop (mkF m 155 #[.val (.ref a1), .val (.int (1 : Int32)), .val (.int p2), .val (.int vg1), .val (.int (3 : Int32)), .val (.int (128 : Int32)), .val (.int (191 : Int32)), .val (.int vg39), .unset] []))
              refine own_via (fun t k => XS.iload X0.here hx rfl (hb hby own_d1_155) rfl k) ?_
              show own_G p e below _ (s₁.setTop (mkF m 157 #[.val (.ref a1), .val (.int (1 : Int32)), .val (.int p2), .val (.int vg1), .val (.int (3 : Int32)), .val (.int (128 : Int32)), .val (.int (191 : Int32)), .val (.int vg39), .unset] [(.int vg39)]))
              refine own_via (fun t k => XS.iload X0.here hx rfl (hb hby own_d1_157) rfl k) ?_
              show own_G p e below _ (s₁.setTop (mkF m 159 #[.val (.ref a1), .val (.int (1 : Int32)), .val (.int p2), .val (.int vg1), .val (.int (3 : Int32)), .val (.int (128 : Int32)), .val (.int (191 : Int32)), .val (.int vg39), .unset] [(.int (128 : Int32)), (.int vg39)]))
              by_cases hc40 : vg39 < (128 : Int32)
              ·
                refine own_via (fun t k => XS.icmpYes X0.here hx rfl (pc0 := 159) (pc' := 169) rfl (hb hby own_d1_159) rfl (tlt hc40).1 (by decide) (by decide) k) ?_
                show own_G p e below _ (s₁.setTop (mkF m 169 #[.val (.ref a1), .val (.int (1 : Int32)), .val (.int p2), .val (.int vg1), .val (.int (3 : Int32)), .val (.int (128 : Int32)), .val (.int (191 : Int32)), .val (.int vg39), .unset] []))
                refine own_via (fun t k => XS.iconst X0.here hx rfl (hb hby own_d1_169) k) ?_
                show own_G p e below _ (s₁.setTop (mkF m 170 #[.val (.ref a1), .val (.int (1 : Int32)), .val (.int p2), .val (.int vg1), .val (.int (3 : Int32)), .val (.int (128 : Int32)), .val (.int (191 : Int32)), .val (.int vg39), .unset] [(.int (-1 : Int32))]))
                exact own_retI X0 hx Bd.returns Bd.notSynchronized (hb hby own_d1_170) ⟨(by show (some (.int (-1 : Int32)) : Option Value) = some (.int (own_Fs1 b1 b2 b3 b4 p2)); subst hvg39; subst hvg1; simp only [own_Fs1, if_neg hc2, if_pos hc3, if_neg hc4, if_neg hc26, if_neg hc32, if_neg hc38, if_pos hc40]), rfl, e0⟩ (by decide) (by decide)
              ·
                refine own_via (fun t k => XS.icmpNo X0.here hx rfl (hb hby own_d1_159) rfl (flt hc40).1 k) ?_
                show own_G p e below _ (s₁.setTop (mkF m 162 #[.val (.ref a1), .val (.int (1 : Int32)), .val (.int p2), .val (.int vg1), .val (.int (3 : Int32)), .val (.int (128 : Int32)), .val (.int (191 : Int32)), .val (.int vg39), .unset] []))
                refine own_via (fun t k => XS.iload X0.here hx rfl (hb hby own_d1_162) rfl k) ?_
                show own_G p e below _ (s₁.setTop (mkF m 164 #[.val (.ref a1), .val (.int (1 : Int32)), .val (.int p2), .val (.int vg1), .val (.int (3 : Int32)), .val (.int (128 : Int32)), .val (.int (191 : Int32)), .val (.int vg39), .unset] [(.int vg39)]))
                refine own_via (fun t k => XS.iload X0.here hx rfl (hb hby own_d1_164) rfl k) ?_
                show own_G p e below _ (s₁.setTop (mkF m 166 #[.val (.ref a1), .val (.int (1 : Int32)), .val (.int p2), .val (.int vg1), .val (.int (3 : Int32)), .val (.int (128 : Int32)), .val (.int (191 : Int32)), .val (.int vg39), .unset] [(.int (191 : Int32)), (.int vg39)]))
                by_cases hc41 : (191 : Int32) < vg39
                ·
                  refine own_via (fun t k => XS.icmpNo X0.here hx rfl (hb hby own_d1_166) rfl (tlt hc41).2.2.2 k) ?_
                  show own_G p e below _ (s₁.setTop (mkF m 169 #[.val (.ref a1), .val (.int (1 : Int32)), .val (.int p2), .val (.int vg1), .val (.int (3 : Int32)), .val (.int (128 : Int32)), .val (.int (191 : Int32)), .val (.int vg39), .unset] []))
                  refine own_via (fun t k => XS.iconst X0.here hx rfl (hb hby own_d1_169) k) ?_
                  show own_G p e below _ (s₁.setTop (mkF m 170 #[.val (.ref a1), .val (.int (1 : Int32)), .val (.int p2), .val (.int vg1), .val (.int (3 : Int32)), .val (.int (128 : Int32)), .val (.int (191 : Int32)), .val (.int vg39), .unset] [(.int (-1 : Int32))]))
                  exact own_retI X0 hx Bd.returns Bd.notSynchronized (hb hby own_d1_170) ⟨(by show (some (.int (-1 : Int32)) : Option Value) = some (.int (own_Fs1 b1 b2 b3 b4 p2)); subst hvg39; subst hvg1; simp only [own_Fs1, if_neg hc2, if_pos hc3, if_neg hc4, if_neg hc26, if_neg hc32, if_neg hc38, if_neg hc40, if_pos hc41]), rfl, e0⟩ (by decide) (by decide)
                ·
                  refine own_via (fun t k => XS.icmpYes X0.here hx rfl (pc0 := 166) (pc' := 171) rfl (hb hby own_d1_166) rfl (flt hc41).2.2.2 (by decide) (by decide) k) ?_
                  show own_G p e below _ (s₁.setTop (mkF m 171 #[.val (.ref a1), .val (.int (1 : Int32)), .val (.int p2), .val (.int vg1), .val (.int (3 : Int32)), .val (.int (128 : Int32)), .val (.int (191 : Int32)), .val (.int vg39), .unset] []))
                  refine own_via (fun t k => XS.iloadN X0.here hx rfl (hb hby own_d1_171) rfl k) ?_
                  show own_G p e below _ (s₁.setTop (mkF m 172 #[.val (.ref a1), .val (.int (1 : Int32)), .val (.int p2), .val (.int vg1), .val (.int (3 : Int32)), .val (.int (128 : Int32)), .val (.int (191 : Int32)), .val (.int vg39), .unset] [(.int (1 : Int32))]))
                  refine own_via (fun t k => XS.iconst X0.here hx rfl (hb hby own_d1_172) k) ?_
                  show own_G p e below _ (s₁.setTop (mkF m 173 #[.val (.ref a1), .val (.int (1 : Int32)), .val (.int p2), .val (.int vg1), .val (.int (3 : Int32)), .val (.int (128 : Int32)), .val (.int (191 : Int32)), .val (.int vg39), .unset] [(.int (2 : Int32)), (.int (1 : Int32))]))
                  refine own_via (fun t k => XS.iadd X0.here hx rfl (hb hby own_d1_173) rfl k) ?_
                  show own_G p e below _ (s₁.setTop (mkF m 174 #[.val (.ref a1), .val (.int (1 : Int32)), .val (.int p2), .val (.int vg1), .val (.int (3 : Int32)), .val (.int (128 : Int32)), .val (.int (191 : Int32)), .val (.int vg39), .unset] [(.int (3 : Int32))]))
                  refine own_via (fun t k => XS.istore X0.here hx rfl (hb hby own_d1_174) rfl (l' := #[.val (.ref a1), .val (.int (1 : Int32)), .val (.int p2), .val (.int vg1), .val (.int (3 : Int32)), .val (.int (128 : Int32)), .val (.int (191 : Int32)), .val (.int vg39), .val (.int (3 : Int32))]) rfl k) ?_
                  show own_G p e below _ (s₁.setTop (mkF m 176 #[.val (.ref a1), .val (.int (1 : Int32)), .val (.int p2), .val (.int vg1), .val (.int (3 : Int32)), .val (.int (128 : Int32)), .val (.int (191 : Int32)), .val (.int vg39), .val (.int (3 : Int32))] []))
                  refine own_via (fun t k => XS.iload X0.here hx rfl (hb hby own_d1_176) rfl k) ?_
                  show own_G p e below _ (s₁.setTop (mkF m 178 #[.val (.ref a1), .val (.int (1 : Int32)), .val (.int p2), .val (.int vg1), .val (.int (3 : Int32)), .val (.int (128 : Int32)), .val (.int (191 : Int32)), .val (.int vg39), .val (.int (3 : Int32))] [(.int (3 : Int32))]))
                  refine own_via (fun t k => XS.iloadN X0.here hx rfl (hb hby own_d1_178) rfl k) ?_
                  show own_G p e below _ (s₁.setTop (mkF m 179 #[.val (.ref a1), .val (.int (1 : Int32)), .val (.int p2), .val (.int vg1), .val (.int (3 : Int32)), .val (.int (128 : Int32)), .val (.int (191 : Int32)), .val (.int vg39), .val (.int (3 : Int32))] [(.int (1 : Int32)), (.int (3 : Int32))]))
                  refine own_via (fun t k => XS.iload X0.here hx rfl (hb hby own_d1_179) rfl k) ?_
                  show own_G p e below _ (s₁.setTop (mkF m 181 #[.val (.ref a1), .val (.int (1 : Int32)), .val (.int p2), .val (.int vg1), .val (.int (3 : Int32)), .val (.int (128 : Int32)), .val (.int (191 : Int32)), .val (.int vg39), .val (.int (3 : Int32))] [(.int (3 : Int32)), (.int (1 : Int32)), (.int (3 : Int32))]))
                  refine own_via (fun t k => XS.iadd X0.here hx rfl (hb hby own_d1_181) rfl k) ?_
                  show own_G p e below _ (s₁.setTop (mkF m 182 #[.val (.ref a1), .val (.int (1 : Int32)), .val (.int p2), .val (.int vg1), .val (.int (3 : Int32)), .val (.int (128 : Int32)), .val (.int (191 : Int32)), .val (.int vg39), .val (.int (3 : Int32))] [(.int (4 : Int32)), (.int (3 : Int32))]))
                  refine own_via (fun t k => XS.icmpNo X0.here hx rfl (hb hby own_d1_182) rfl (tlt (by decide : (3 : Int32) < (4 : Int32))).2.1 k) ?_
                  show own_G p e below _ (s₁.setTop (mkF m 185 #[.val (.ref a1), .val (.int (1 : Int32)), .val (.int p2), .val (.int vg1), .val (.int (3 : Int32)), .val (.int (128 : Int32)), .val (.int (191 : Int32)), .val (.int vg39), .val (.int (3 : Int32))] []))
                  refine own_via (fun t k => XS.aloadN X0.here hx rfl (hb hby own_d1_185) rfl rfl k) ?_
                  show own_G p e below _ (s₁.setTop (mkF m 186 #[.val (.ref a1), .val (.int (1 : Int32)), .val (.int p2), .val (.int vg1), .val (.int (3 : Int32)), .val (.int (128 : Int32)), .val (.int (191 : Int32)), .val (.int vg39), .val (.int (3 : Int32))] [(.ref a1)]))
                  refine own_via (fun t k => XS.iload X0.here hx rfl (hb hby own_d1_186) rfl k) ?_
                  show own_G p e below _ (s₁.setTop (mkF m 188 #[.val (.ref a1), .val (.int (1 : Int32)), .val (.int p2), .val (.int vg1), .val (.int (3 : Int32)), .val (.int (128 : Int32)), .val (.int (191 : Int32)), .val (.int vg39), .val (.int (3 : Int32))] [(.int (3 : Int32)), (.ref a1)]))
                  refine own_via (own_ldB X0 hx hZ e0 i_V0 (j := (3 : Int32)) ⟨by decide, by decide⟩ (v := (.int b3)) rfl (pc := 188) (Ls := #[.val (.ref a1), .val (.int (1 : Int32)), .val (.int p2), .val (.int vg1), .val (.int (3 : Int32)), .val (.int (128 : Int32)), .val (.int (191 : Int32)), .val (.int vg39), .val (.int (3 : Int32))]) (rest := []) (hb hby own_d1_188)) ?_
                  show own_G p e below _ (s₁.setTop (mkF m 189 #[.val (.ref a1), .val (.int (1 : Int32)), .val (.int p2), .val (.int vg1), .val (.int (3 : Int32)), .val (.int (128 : Int32)), .val (.int (191 : Int32)), .val (.int vg39), .val (.int (3 : Int32))] [(.int b3)]))
                  refine own_via (fun t k => XS.sipush X0.here hx rfl (hb hby own_d1_189) k) ?_
                  show own_G p e below _ (s₁.setTop (mkF m 192 #[.val (.ref a1), .val (.int (1 : Int32)), .val (.int p2), .val (.int vg1), .val (.int (3 : Int32)), .val (.int (128 : Int32)), .val (.int (191 : Int32)), .val (.int vg39), .val (.int (3 : Int32))] [(.int (192 : Int32)), (.int b3)]))
                  refine own_via (fun t k => XS.iand X0.here hx rfl (hb hby own_d1_192) rfl k) ?_
                  show own_G p e below _ (s₁.setTop (mkF m 193 #[.val (.ref a1), .val (.int (1 : Int32)), .val (.int p2), .val (.int vg1), .val (.int (3 : Int32)), .val (.int (128 : Int32)), .val (.int (191 : Int32)), .val (.int vg39), .val (.int (3 : Int32))] [(.int (b3 &&& (192 : Int32)))]))
                  refine own_via (fun t k => XS.sipush X0.here hx rfl (hb hby own_d1_193) k) ?_
                  show own_G p e below _ (s₁.setTop (mkF m 196 #[.val (.ref a1), .val (.int (1 : Int32)), .val (.int p2), .val (.int vg1), .val (.int (3 : Int32)), .val (.int (128 : Int32)), .val (.int (191 : Int32)), .val (.int vg39), .val (.int (3 : Int32))] [(.int (128 : Int32)), (.int (b3 &&& (192 : Int32)))]))
                  by_cases hc42 : (b3 &&& (192 : Int32)) = (128 : Int32)
                  ·
                    refine own_via (fun t k => XS.icmpYes X0.here hx rfl (pc0 := 196) (pc' := 201) rfl (hb hby own_d1_196) rfl (teq hc42).1 (by decide) (by decide) k) ?_
                    show own_G p e below _ (s₁.setTop (mkF m 201 #[.val (.ref a1), .val (.int (1 : Int32)), .val (.int p2), .val (.int vg1), .val (.int (3 : Int32)), .val (.int (128 : Int32)), .val (.int (191 : Int32)), .val (.int vg39), .val (.int (3 : Int32))] []))
                    refine own_via (fun t k => XS.iinc X0.here hx rfl (hb hby own_d1_201) rfl (l' := #[.val (.ref a1), .val (.int (1 : Int32)), .val (.int p2), .val (.int vg1), .val (.int (3 : Int32)), .val (.int (128 : Int32)), .val (.int (191 : Int32)), .val (.int vg39), .val (.int (4 : Int32))]) rfl k) ?_
                    show own_G p e below _ (s₁.setTop (mkF m 204 #[.val (.ref a1), .val (.int (1 : Int32)), .val (.int p2), .val (.int vg1), .val (.int (3 : Int32)), .val (.int (128 : Int32)), .val (.int (191 : Int32)), .val (.int vg39), .val (.int (4 : Int32))] []))
                    refine own_via (fun t k => XS.goto X0.here hx rfl (pc0 := 204) (pc' := 176) rfl (hb hby own_d1_204) (by decide) (by decide) k) ?_
                    show own_G p e below _ (s₁.setTop (mkF m 176 #[.val (.ref a1), .val (.int (1 : Int32)), .val (.int p2), .val (.int vg1), .val (.int (3 : Int32)), .val (.int (128 : Int32)), .val (.int (191 : Int32)), .val (.int vg39), .val (.int (4 : Int32))] []))
                    refine own_via (fun t k => XS.iload X0.here hx rfl (hb hby own_d1_176) rfl k) ?_
                    show own_G p e below _ (s₁.setTop (mkF m 178 #[.val (.ref a1), .val (.int (1 : Int32)), .val (.int p2), .val (.int vg1), .val (.int (3 : Int32)), .val (.int (128 : Int32)), .val (.int (191 : Int32)), .val (.int vg39), .val (.int (4 : Int32))] [(.int (4 : Int32))]))
                    refine own_via (fun t k => XS.iloadN X0.here hx rfl (hb hby own_d1_178) rfl k) ?_
                    show own_G p e below _ (s₁.setTop (mkF m 179 #[.val (.ref a1), .val (.int (1 : Int32)), .val (.int p2), .val (.int vg1), .val (.int (3 : Int32)), .val (.int (128 : Int32)), .val (.int (191 : Int32)), .val (.int vg39), .val (.int (4 : Int32))] [(.int (1 : Int32)), (.int (4 : Int32))]))
                    refine own_via (fun t k => XS.iload X0.here hx rfl (hb hby own_d1_179) rfl k) ?_
                    show own_G p e below _ (s₁.setTop (mkF m 181 #[.val (.ref a1), .val (.int (1 : Int32)), .val (.int p2), .val (.int vg1), .val (.int (3 : Int32)), .val (.int (128 : Int32)), .val (.int (191 : Int32)), .val (.int vg39), .val (.int (4 : Int32))] [(.int (3 : Int32)), (.int (1 : Int32)), (.int (4 : Int32))]))
                    refine own_via (fun t k => XS.iadd X0.here hx rfl (hb hby own_d1_181) rfl k) ?_
                    show own_G p e below _ (s₁.setTop (mkF m 182 #[.val (.ref a1), .val (.int (1 : Int32)), .val (.int p2), .val (.int vg1), .val (.int (3 : Int32)), .val (.int (128 : Int32)), .val (.int (191 : Int32)), .val (.int vg39), .val (.int (4 : Int32))] [(.int (4 : Int32)), (.int (4 : Int32))]))
                    refine own_via (fun t k => XS.icmpYes X0.here hx rfl (pc0 := 182) (pc' := 207) rfl (hb hby own_d1_182) rfl (flt (by decide : ¬ ((4 : Int32) < (4 : Int32)))).2.1 (by decide) (by decide) k) ?_
                    show own_G p e below _ (s₁.setTop (mkF m 207 #[.val (.ref a1), .val (.int (1 : Int32)), .val (.int p2), .val (.int vg1), .val (.int (3 : Int32)), .val (.int (128 : Int32)), .val (.int (191 : Int32)), .val (.int vg39), .val (.int (4 : Int32))] []))
                    refine own_via (fun t k => XS.iload X0.here hx rfl (hb hby own_d1_207) rfl k) ?_
                    show own_G p e below _ (s₁.setTop (mkF m 209 #[.val (.ref a1), .val (.int (1 : Int32)), .val (.int p2), .val (.int vg1), .val (.int (3 : Int32)), .val (.int (128 : Int32)), .val (.int (191 : Int32)), .val (.int vg39), .val (.int (4 : Int32))] [(.int (3 : Int32))]))
                    exact own_retI X0 hx Bd.returns Bd.notSynchronized (hb hby own_d1_209) ⟨(by show (some (.int (3 : Int32)) : Option Value) = some (.int (own_Fs1 b1 b2 b3 b4 p2)); subst hvg39; subst hvg1; simp only [own_Fs1, if_neg hc2, if_pos hc3, if_neg hc4, if_neg hc26, if_neg hc32, if_neg hc38, if_neg hc40, if_neg hc41, if_pos hc42]), rfl, e0⟩ (by decide) (by decide)
                  ·
                    refine own_via (fun t k => XS.icmpNo X0.here hx rfl (hb hby own_d1_196) rfl (feq hc42).1 k) ?_
                    show own_G p e below _ (s₁.setTop (mkF m 199 #[.val (.ref a1), .val (.int (1 : Int32)), .val (.int p2), .val (.int vg1), .val (.int (3 : Int32)), .val (.int (128 : Int32)), .val (.int (191 : Int32)), .val (.int vg39), .val (.int (3 : Int32))] []))
                    refine own_via (fun t k => XS.iconst X0.here hx rfl (hb hby own_d1_199) k) ?_
                    show own_G p e below _ (s₁.setTop (mkF m 200 #[.val (.ref a1), .val (.int (1 : Int32)), .val (.int p2), .val (.int vg1), .val (.int (3 : Int32)), .val (.int (128 : Int32)), .val (.int (191 : Int32)), .val (.int vg39), .val (.int (3 : Int32))] [(.int (-1 : Int32))]))
                    exact own_retI X0 hx Bd.returns Bd.notSynchronized (hb hby own_d1_200) ⟨(by show (some (.int (-1 : Int32)) : Option Value) = some (.int (own_Fs1 b1 b2 b3 b4 p2)); subst hvg39; subst hvg1; simp only [own_Fs1, if_neg hc2, if_pos hc3, if_neg hc4, if_neg hc26, if_neg hc32, if_neg hc38, if_neg hc40, if_neg hc41, if_neg hc42]), rfl, e0⟩ (by decide) (by decide)
    ·
      refine own_via (fun t k => XS.icmpNo X0.here hx rfl (hb hby own_d1_29) rfl (flt hc3).2.2.1 k) ?_
      show own_G p e below _ (s₁.setTop (mkF m 32 #[.val (.ref a1), .val (.int (1 : Int32)), .val (.int p2), .val (.int vg1), .unset, .val (.int (128 : Int32)), .val (.int (191 : Int32)), .unset, .unset] []))
      refine own_via (fun t k => XS.iconst X0.here hx rfl (hb hby own_d1_32) k) ?_
      show own_G p e below _ (s₁.setTop (mkF m 33 #[.val (.ref a1), .val (.int (1 : Int32)), .val (.int p2), .val (.int vg1), .unset, .val (.int (128 : Int32)), .val (.int (191 : Int32)), .unset, .unset] [(.int (2 : Int32))]))
      refine own_via (fun t k => XS.istore X0.here hx rfl (hb hby own_d1_33) rfl (l' := #[.val (.ref a1), .val (.int (1 : Int32)), .val (.int p2), .val (.int vg1), .val (.int (2 : Int32)), .val (.int (128 : Int32)), .val (.int (191 : Int32)), .unset, .unset]) rfl k) ?_
      show own_G p e below _ (s₁.setTop (mkF m 35 #[.val (.ref a1), .val (.int (1 : Int32)), .val (.int p2), .val (.int vg1), .val (.int (2 : Int32)), .val (.int (128 : Int32)), .val (.int (191 : Int32)), .unset, .unset] []))
      refine own_via (fun t k => XS.goto X0.here hx rfl (pc0 := 35) (pc' := 134) rfl (hb hby own_d1_35) (by decide) (by decide) k) ?_
      show own_G p e below _ (s₁.setTop (mkF m 134 #[.val (.ref a1), .val (.int (1 : Int32)), .val (.int p2), .val (.int vg1), .val (.int (2 : Int32)), .val (.int (128 : Int32)), .val (.int (191 : Int32)), .unset, .unset] []))
      refine own_via (fun t k => XS.iloadN X0.here hx rfl (hb hby own_d1_134) rfl k) ?_
      show own_G p e below _ (s₁.setTop (mkF m 135 #[.val (.ref a1), .val (.int (1 : Int32)), .val (.int p2), .val (.int vg1), .val (.int (2 : Int32)), .val (.int (128 : Int32)), .val (.int (191 : Int32)), .unset, .unset] [(.int p2)]))
      refine own_via (fun t k => XS.iloadN X0.here hx rfl (hb hby own_d1_135) rfl k) ?_
      show own_G p e below _ (s₁.setTop (mkF m 136 #[.val (.ref a1), .val (.int (1 : Int32)), .val (.int p2), .val (.int vg1), .val (.int (2 : Int32)), .val (.int (128 : Int32)), .val (.int (191 : Int32)), .unset, .unset] [(.int (1 : Int32)), (.int p2)]))
      refine own_via (fun t k => XS.isub X0.here hx rfl (hb hby own_d1_136) rfl k) ?_
      show own_G p e below _ (s₁.setTop (mkF m 137 #[.val (.ref a1), .val (.int (1 : Int32)), .val (.int p2), .val (.int vg1), .val (.int (2 : Int32)), .val (.int (128 : Int32)), .val (.int (191 : Int32)), .unset, .unset] [(.int (p2 - (1 : Int32)))]))
      refine own_via (fun t k => XS.iload X0.here hx rfl (hb hby own_d1_137) rfl k) ?_
      show own_G p e below _ (s₁.setTop (mkF m 139 #[.val (.ref a1), .val (.int (1 : Int32)), .val (.int p2), .val (.int vg1), .val (.int (2 : Int32)), .val (.int (128 : Int32)), .val (.int (191 : Int32)), .unset, .unset] [(.int (2 : Int32)), (.int (p2 - (1 : Int32)))]))
      by_cases hc43 : (p2 - (1 : Int32)) < (2 : Int32)
      ·
        refine own_via (fun t k => XS.icmpNo X0.here hx rfl (hb hby own_d1_139) rfl (tlt hc43).2.1 k) ?_
        show own_G p e below _ (s₁.setTop (mkF m 142 #[.val (.ref a1), .val (.int (1 : Int32)), .val (.int p2), .val (.int vg1), .val (.int (2 : Int32)), .val (.int (128 : Int32)), .val (.int (191 : Int32)), .unset, .unset] []))
        refine own_via (fun t k => XS.iconst X0.here hx rfl (hb hby own_d1_142) k) ?_
        show own_G p e below _ (s₁.setTop (mkF m 143 #[.val (.ref a1), .val (.int (1 : Int32)), .val (.int p2), .val (.int vg1), .val (.int (2 : Int32)), .val (.int (128 : Int32)), .val (.int (191 : Int32)), .unset, .unset] [(.int (-1 : Int32))]))
        exact own_retI X0 hx Bd.returns Bd.notSynchronized (hb hby own_d1_143) ⟨(by show (some (.int (-1 : Int32)) : Option Value) = some (.int (own_Fs1 b1 b2 b3 b4 p2)); subst hvg1; simp only [own_Fs1, if_neg hc2, if_neg hc3, if_pos hc43]), rfl, e0⟩ (by decide) (by decide)
      ·
        refine own_via (fun t k => XS.icmpYes X0.here hx rfl (pc0 := 139) (pc' := 144) rfl (hb hby own_d1_139) rfl (flt hc43).2.1 (by decide) (by decide) k) ?_
        show own_G p e below _ (s₁.setTop (mkF m 144 #[.val (.ref a1), .val (.int (1 : Int32)), .val (.int p2), .val (.int vg1), .val (.int (2 : Int32)), .val (.int (128 : Int32)), .val (.int (191 : Int32)), .unset, .unset] []))
        refine own_via (fun t k => XS.aloadN X0.here hx rfl (hb hby own_d1_144) rfl rfl k) ?_
        show own_G p e below _ (s₁.setTop (mkF m 145 #[.val (.ref a1), .val (.int (1 : Int32)), .val (.int p2), .val (.int vg1), .val (.int (2 : Int32)), .val (.int (128 : Int32)), .val (.int (191 : Int32)), .unset, .unset] [(.ref a1)]))
        refine own_via (fun t k => XS.iloadN X0.here hx rfl (hb hby own_d1_145) rfl k) ?_
        show own_G p e below _ (s₁.setTop (mkF m 146 #[.val (.ref a1), .val (.int (1 : Int32)), .val (.int p2), .val (.int vg1), .val (.int (2 : Int32)), .val (.int (128 : Int32)), .val (.int (191 : Int32)), .unset, .unset] [(.int (1 : Int32)), (.ref a1)]))
        refine own_via (fun t k => XS.iconst X0.here hx rfl (hb hby own_d1_146) k) ?_
        show own_G p e below _ (s₁.setTop (mkF m 147 #[.val (.ref a1), .val (.int (1 : Int32)), .val (.int p2), .val (.int vg1), .val (.int (2 : Int32)), .val (.int (128 : Int32)), .val (.int (191 : Int32)), .unset, .unset] [(.int (1 : Int32)), (.int (1 : Int32)), (.ref a1)]))
        refine own_via (fun t k => XS.iadd X0.here hx rfl (hb hby own_d1_147) rfl k) ?_
        show own_G p e below _ (s₁.setTop (mkF m 148 #[.val (.ref a1), .val (.int (1 : Int32)), .val (.int p2), .val (.int vg1), .val (.int (2 : Int32)), .val (.int (128 : Int32)), .val (.int (191 : Int32)), .unset, .unset] [(.int (2 : Int32)), (.ref a1)]))
        refine own_via (own_ldB X0 hx hZ e0 i_V0 (j := (2 : Int32)) ⟨by decide, by decide⟩ (v := (.int b2)) rfl (pc := 148) (Ls := #[.val (.ref a1), .val (.int (1 : Int32)), .val (.int p2), .val (.int vg1), .val (.int (2 : Int32)), .val (.int (128 : Int32)), .val (.int (191 : Int32)), .unset, .unset]) (rest := []) (hb hby own_d1_148)) ?_
        show own_G p e below _ (s₁.setTop (mkF m 149 #[.val (.ref a1), .val (.int (1 : Int32)), .val (.int p2), .val (.int vg1), .val (.int (2 : Int32)), .val (.int (128 : Int32)), .val (.int (191 : Int32)), .unset, .unset] [(.int b2)]))
        refine own_via (fun t k => XS.sipush X0.here hx rfl (hb hby own_d1_149) k) ?_
        show own_G p e below _ (s₁.setTop (mkF m 152 #[.val (.ref a1), .val (.int (1 : Int32)), .val (.int p2), .val (.int vg1), .val (.int (2 : Int32)), .val (.int (128 : Int32)), .val (.int (191 : Int32)), .unset, .unset] [(.int (255 : Int32)), (.int b2)]))
        refine own_via (fun t k => XS.iand X0.here hx rfl (hb hby own_d1_152) rfl k) ?_
        show own_G p e below _ (s₁.setTop (mkF m 153 #[.val (.ref a1), .val (.int (1 : Int32)), .val (.int p2), .val (.int vg1), .val (.int (2 : Int32)), .val (.int (128 : Int32)), .val (.int (191 : Int32)), .unset, .unset] [(.int (b2 &&& (255 : Int32)))]))
        generalize hvg44 : (b2 &&& (255 : Int32)) = vg44
        show own_G p e below _ (s₁.setTop (mkF m 153 #[.val (.ref a1), .val (.int (1 : Int32)), .val (.int p2), .val (.int vg1), .val (.int (2 : Int32)), .val (.int (128 : Int32)), .val (.int (191 : Int32)), .unset, .unset] [(.int vg44)]))
        refine own_via (fun t k => XS.istore X0.here hx rfl (hb hby own_d1_153) rfl (l' := #[.val (.ref a1), .val (.int (1 : Int32)), .val (.int p2), .val (.int vg1), .val (.int (2 : Int32)), .val (.int (128 : Int32)), .val (.int (191 : Int32)), .val (.int vg44), .unset]) rfl k) ?_
        show own_G p e below _ (s₁.setTop (mkF m 155 #[.val (.ref a1), .val (.int (1 : Int32)), .val (.int p2), .val (.int vg1), .val (.int (2 : Int32)), .val (.int (128 : Int32)), .val (.int (191 : Int32)), .val (.int vg44), .unset] []))
        refine own_via (fun t k => XS.iload X0.here hx rfl (hb hby own_d1_155) rfl k) ?_
        show own_G p e below _ (s₁.setTop (mkF m 157 #[.val (.ref a1), .val (.int (1 : Int32)), .val (.int p2), .val (.int vg1), .val (.int (2 : Int32)), .val (.int (128 : Int32)), .val (.int (191 : Int32)), .val (.int vg44), .unset] [(.int vg44)]))
        refine own_via (fun t k => XS.iload X0.here hx rfl (hb hby own_d1_157) rfl k) ?_
        show own_G p e below _ (s₁.setTop (mkF m 159 #[.val (.ref a1), .val (.int (1 : Int32)), .val (.int p2), .val (.int vg1), .val (.int (2 : Int32)), .val (.int (128 : Int32)), .val (.int (191 : Int32)), .val (.int vg44), .unset] [(.int (128 : Int32)), (.int vg44)]))
        by_cases hc45 : vg44 < (128 : Int32)
        ·
          refine own_via (fun t k => XS.icmpYes X0.here hx rfl (pc0 := 159) (pc' := 169) rfl (hb hby own_d1_159) rfl (tlt hc45).1 (by decide) (by decide) k) ?_
          show own_G p e below _ (s₁.setTop (mkF m 169 #[.val (.ref a1), .val (.int (1 : Int32)), .val (.int p2), .val (.int vg1), .val (.int (2 : Int32)), .val (.int (128 : Int32)), .val (.int (191 : Int32)), .val (.int vg44), .unset] []))
          refine own_via (fun t k => XS.iconst X0.here hx rfl (hb hby own_d1_169) k) ?_
          show own_G p e below _ (s₁.setTop (mkF m 170 #[.val (.ref a1), .val (.int (1 : Int32)), .val (.int p2), .val (.int vg1), .val (.int (2 : Int32)), .val (.int (128 : Int32)), .val (.int (191 : Int32)), .val (.int vg44), .unset] [(.int (-1 : Int32))]))
          exact own_retI X0 hx Bd.returns Bd.notSynchronized (hb hby own_d1_170) ⟨(by show (some (.int (-1 : Int32)) : Option Value) = some (.int (own_Fs1 b1 b2 b3 b4 p2)); subst hvg44; subst hvg1; simp only [own_Fs1, if_neg hc2, if_neg hc3, if_neg hc43, if_pos hc45]), rfl, e0⟩ (by decide) (by decide)
        ·
          refine own_via (fun t k => XS.icmpNo X0.here hx rfl (hb hby own_d1_159) rfl (flt hc45).1 k) ?_
          show own_G p e below _ (s₁.setTop (mkF m 162 #[.val (.ref a1), .val (.int (1 : Int32)), .val (.int p2), .val (.int vg1), .val (.int (2 : Int32)), .val (.int (128 : Int32)), .val (.int (191 : Int32)), .val (.int vg44), .unset] []))
          refine own_via (fun t k => XS.iload X0.here hx rfl (hb hby own_d1_162) rfl k) ?_
          show own_G p e below _ (s₁.setTop (mkF m 164 #[.val (.ref a1), .val (.int (1 : Int32)), .val (.int p2), .val (.int vg1), .val (.int (2 : Int32)), .val (.int (128 : Int32)), .val (.int (191 : Int32)), .val (.int vg44), .unset] [(.int vg44)]))
          refine own_via (fun t k => XS.iload X0.here hx rfl (hb hby own_d1_164) rfl k) ?_
          show own_G p e below _ (s₁.setTop (mkF m 166 #[.val (.ref a1), .val (.int (1 : Int32)), .val (.int p2), .val (.int vg1), .val (.int (2 : Int32)), .val (.int (128 : Int32)), .val (.int (191 : Int32)), .val (.int vg44), .unset] [(.int (191 : Int32)), (.int vg44)]))
          by_cases hc46 : (191 : Int32) < vg44
          ·
            refine own_via (fun t k => XS.icmpNo X0.here hx rfl (hb hby own_d1_166) rfl (tlt hc46).2.2.2 k) ?_
            show own_G p e below _ (s₁.setTop (mkF m 169 #[.val (.ref a1), .val (.int (1 : Int32)), .val (.int p2), .val (.int vg1), .val (.int (2 : Int32)), .val (.int (128 : Int32)), .val (.int (191 : Int32)), .val (.int vg44), .unset] []))
            refine own_via (fun t k => XS.iconst X0.here hx rfl (hb hby own_d1_169) k) ?_
            show own_G p e below _ (s₁.setTop (mkF m 170 #[.val (.ref a1), .val (.int (1 : Int32)), .val (.int p2), .val (.int vg1), .val (.int (2 : Int32)), .val (.int (128 : Int32)), .val (.int (191 : Int32)), .val (.int vg44), .unset] [(.int (-1 : Int32))]))
            exact own_retI X0 hx Bd.returns Bd.notSynchronized (hb hby own_d1_170) ⟨(by show (some (.int (-1 : Int32)) : Option Value) = some (.int (own_Fs1 b1 b2 b3 b4 p2)); subst hvg44; subst hvg1; simp only [own_Fs1, if_neg hc2, if_neg hc3, if_neg hc43, if_neg hc45, if_pos hc46]), rfl, e0⟩ (by decide) (by decide)
          ·
            refine own_via (fun t k => XS.icmpYes X0.here hx rfl (pc0 := 166) (pc' := 171) rfl (hb hby own_d1_166) rfl (flt hc46).2.2.2 (by decide) (by decide) k) ?_
            show own_G p e below _ (s₁.setTop (mkF m 171 #[.val (.ref a1), .val (.int (1 : Int32)), .val (.int p2), .val (.int vg1), .val (.int (2 : Int32)), .val (.int (128 : Int32)), .val (.int (191 : Int32)), .val (.int vg44), .unset] []))
            refine own_via (fun t k => XS.iloadN X0.here hx rfl (hb hby own_d1_171) rfl k) ?_
            show own_G p e below _ (s₁.setTop (mkF m 172 #[.val (.ref a1), .val (.int (1 : Int32)), .val (.int p2), .val (.int vg1), .val (.int (2 : Int32)), .val (.int (128 : Int32)), .val (.int (191 : Int32)), .val (.int vg44), .unset] [(.int (1 : Int32))]))
            refine own_via (fun t k => XS.iconst X0.here hx rfl (hb hby own_d1_172) k) ?_
            show own_G p e below _ (s₁.setTop (mkF m 173 #[.val (.ref a1), .val (.int (1 : Int32)), .val (.int p2), .val (.int vg1), .val (.int (2 : Int32)), .val (.int (128 : Int32)), .val (.int (191 : Int32)), .val (.int vg44), .unset] [(.int (2 : Int32)), (.int (1 : Int32))]))
            refine own_via (fun t k => XS.iadd X0.here hx rfl (hb hby own_d1_173) rfl k) ?_
            show own_G p e below _ (s₁.setTop (mkF m 174 #[.val (.ref a1), .val (.int (1 : Int32)), .val (.int p2), .val (.int vg1), .val (.int (2 : Int32)), .val (.int (128 : Int32)), .val (.int (191 : Int32)), .val (.int vg44), .unset] [(.int (3 : Int32))]))
            refine own_via (fun t k => XS.istore X0.here hx rfl (hb hby own_d1_174) rfl (l' := #[.val (.ref a1), .val (.int (1 : Int32)), .val (.int p2), .val (.int vg1), .val (.int (2 : Int32)), .val (.int (128 : Int32)), .val (.int (191 : Int32)), .val (.int vg44), .val (.int (3 : Int32))]) rfl k) ?_
            show own_G p e below _ (s₁.setTop (mkF m 176 #[.val (.ref a1), .val (.int (1 : Int32)), .val (.int p2), .val (.int vg1), .val (.int (2 : Int32)), .val (.int (128 : Int32)), .val (.int (191 : Int32)), .val (.int vg44), .val (.int (3 : Int32))] []))
            refine own_via (fun t k => XS.iload X0.here hx rfl (hb hby own_d1_176) rfl k) ?_
            show own_G p e below _ (s₁.setTop (mkF m 178 #[.val (.ref a1), .val (.int (1 : Int32)), .val (.int p2), .val (.int vg1), .val (.int (2 : Int32)), .val (.int (128 : Int32)), .val (.int (191 : Int32)), .val (.int vg44), .val (.int (3 : Int32))] [(.int (3 : Int32))]))
            refine own_via (fun t k => XS.iloadN X0.here hx rfl (hb hby own_d1_178) rfl k) ?_
            show own_G p e below _ (s₁.setTop (mkF m 179 #[.val (.ref a1), .val (.int (1 : Int32)), .val (.int p2), .val (.int vg1), .val (.int (2 : Int32)), .val (.int (128 : Int32)), .val (.int (191 : Int32)), .val (.int vg44), .val (.int (3 : Int32))] [(.int (1 : Int32)), (.int (3 : Int32))]))
            refine own_via (fun t k => XS.iload X0.here hx rfl (hb hby own_d1_179) rfl k) ?_
            show own_G p e below _ (s₁.setTop (mkF m 181 #[.val (.ref a1), .val (.int (1 : Int32)), .val (.int p2), .val (.int vg1), .val (.int (2 : Int32)), .val (.int (128 : Int32)), .val (.int (191 : Int32)), .val (.int vg44), .val (.int (3 : Int32))] [(.int (2 : Int32)), (.int (1 : Int32)), (.int (3 : Int32))]))
            refine own_via (fun t k => XS.iadd X0.here hx rfl (hb hby own_d1_181) rfl k) ?_
            show own_G p e below _ (s₁.setTop (mkF m 182 #[.val (.ref a1), .val (.int (1 : Int32)), .val (.int p2), .val (.int vg1), .val (.int (2 : Int32)), .val (.int (128 : Int32)), .val (.int (191 : Int32)), .val (.int vg44), .val (.int (3 : Int32))] [(.int (3 : Int32)), (.int (3 : Int32))]))
            refine own_via (fun t k => XS.icmpYes X0.here hx rfl (pc0 := 182) (pc' := 207) rfl (hb hby own_d1_182) rfl (flt (by decide : ¬ ((3 : Int32) < (3 : Int32)))).2.1 (by decide) (by decide) k) ?_
            show own_G p e below _ (s₁.setTop (mkF m 207 #[.val (.ref a1), .val (.int (1 : Int32)), .val (.int p2), .val (.int vg1), .val (.int (2 : Int32)), .val (.int (128 : Int32)), .val (.int (191 : Int32)), .val (.int vg44), .val (.int (3 : Int32))] []))
            refine own_via (fun t k => XS.iload X0.here hx rfl (hb hby own_d1_207) rfl k) ?_
            show own_G p e below _ (s₁.setTop (mkF m 209 #[.val (.ref a1), .val (.int (1 : Int32)), .val (.int p2), .val (.int vg1), .val (.int (2 : Int32)), .val (.int (128 : Int32)), .val (.int (191 : Int32)), .val (.int vg44), .val (.int (3 : Int32))] [(.int (2 : Int32))]))
            exact own_retI X0 hx Bd.returns Bd.notSynchronized (hb hby own_d1_209) ⟨(by show (some (.int (2 : Int32)) : Option Value) = some (.int (own_Fs1 b1 b2 b3 b4 p2)); subst hvg44; subst hvg1; simp only [own_Fs1, if_neg hc2, if_neg hc3, if_neg hc43, if_neg hc45, if_neg hc46]), rfl, e0⟩ (by decide) (by decide)
theorem own_e1 (p : Int32) : (((p.toInt8.toInt32).toInt8.toInt32) &&& (255 : Int32)) = (p &&& (255 : Int32)) := by
  have b0 := c_i2b p
  have b1 := c_i2b (p.toInt8.toInt32)
  have h1 := c_mask p 255 8 (by decide) (by decide)
  have h2 := c_mask ((p.toInt8.toInt32).toInt8.toInt32) 255 8 (by decide) (by decide)
  rw [← Int32.toInt_inj]
  omega
theorem own_e2 (p : Int32) : (((p.toInt8.toInt32).toInt8.toInt32) &&& (192 : Int32)) = ((p &&& (255 : Int32)) &&& (192 : Int32)) := by
  rw [← own_e1 p, Int32.and_assoc, show ((255 : Int32) &&& 192) = 192 from by decide]
theorem own_n192 : ∀ x, x < 256 → ((x &&& 192 = 128) ↔ (128 ≤ x ∧ x ≤ 191)) := by decide
theorem own_192 (b : Int32) (h0 : 0 ≤ b.toInt) (h1 : b.toInt ≤ 255) : ((b &&& (192 : Int32)) = (128 : Int32)) = (128 ≤ b.toInt ∧ b.toInt ≤ 191) := by
  have hlt := b.toBitVec.isLt
  have e3 : b.toBitVec.toNat = b.toInt.toNat := by
    have e4 : b.toInt = _ := BitVec.toInt_eq_toNat_cond b.toBitVec
    split at e4 <;> omega
  have e4 : (b &&& (192 : Int32)).toBitVec.toNat = b.toInt.toNat &&& 192 := by rw [Int32.toBitVec_and, BitVec.toNat_and, e3]; rfl
  have e5 : ((b &&& (192 : Int32)) = (128 : Int32)) ↔ (b.toInt.toNat &&& 192 = 128) := by
    rw [← e4]
    constructor
    · intro q; rw [q]; rfl
    · intro q; apply Int32.toBitVec_inj.mp; apply BitVec.eq_of_toNat_eq; rw [q]; rfl
  apply propext
  rw [e5, own_n192 _ (by omega)]
  omega
theorem own_cp (x b : Int32) (h0 : 0 ≤ x.toInt) (h1 : x.toInt < 65536) : ((x <<< ((6 : Int32) &&& 31)) ||| (b &&& (63 : Int32))).toInt = x.toInt * 64 + b.toInt % 64 := by
  have h3 := c_mask b 63 6 (by decide) (by decide)
  have s2 := c_ishl x 6 6 (by decide)
  generalize b &&& 63 = b' at *
  generalize x <<< ((6 : Int32) &&& 31) = y at *
  have r := rng32 y
  have o1 := c_or y b' 6 (by decide) 64 (by decide) (by omega) (by omega) (by omega)
  have r2 := rng32 (y ||| b')
  omega
theorem own_eq0 (p0 p1 p2 p3 av : Int32) : own_Fs0 ((p0.toInt8.toInt32).toInt8.toInt32) ((p1.toInt8.toInt32).toInt8.toInt32) ((p2.toInt8.toInt32).toInt8.toInt32) ((p3.toInt8.toInt32).toInt8.toInt32) ((0 : Int32) + av) = own_F2 (p0 &&& (255 : Int32)) (p1 &&& (255 : Int32)) (p2 &&& (255 : Int32)) (p3 &&& (255 : Int32)) av := by
  have e3 : ((0 : Int32) + av) - (0 : Int32) = av := by rw [Int32.add_comm, Int32.add_sub_cancel]
  simp only [own_Fs0, own_F2, own_e1, own_e2, e3]
  have h0 := c_mask p0 255 8 (by decide) (by decide)
  have h1 := c_mask p1 255 8 (by decide) (by decide)
  have h2 := c_mask p2 255 8 (by decide) (by decide)
  have h3 := c_mask p3 255 8 (by decide) (by decide)
  generalize p0 &&& (255 : Int32) = l at *
  generalize p1 &&& (255 : Int32) = b at *
  generalize p2 &&& (255 : Int32) = c at *
  generalize p3 &&& (255 : Int32) = d at *
  simp only [own_192 b (by omega) (by omega), own_192 c (by omega) (by omega), own_192 d (by omega) (by omega)]
  have m1 := c_mask l 31 5 (by decide) (by decide)
  have m2 := c_mask l 15 4 (by decide) (by decide)
  have m3 := c_mask l 7 3 (by decide) (by decide)
  generalize l &&& (31 : Int32) = l1 at *
  generalize l &&& (15 : Int32) = l2 at *
  generalize l &&& (7 : Int32) = l3 at *
  have q1 := own_cp l1 b (by omega) (by omega)
  have q2 := own_cp l2 b (by omega) (by omega)
  have q3 := own_cp l3 b (by omega) (by omega)
  generalize ((l1 <<< ((6 : Int32) &&& 31)) ||| (b &&& (63 : Int32))) = c1 at *
  generalize ((l2 <<< ((6 : Int32) &&& 31)) ||| (b &&& (63 : Int32))) = c2 at *
  generalize ((l3 <<< ((6 : Int32) &&& 31)) ||| (b &&& (63 : Int32))) = c3 at *
  have q4 := own_cp c2 c (by omega) (by omega)
  have q5 := own_cp c3 c (by omega) (by omega)
  generalize ((c2 <<< ((6 : Int32) &&& 31)) ||| (c &&& (63 : Int32))) = c4 at *
  generalize ((c3 <<< ((6 : Int32) &&& 31)) ||| (c &&& (63 : Int32))) = c5 at *
  have q6 := own_cp c5 d (by omega) (by omega)
  generalize ((c5 <<< ((6 : Int32) &&& 31)) ||| (d &&& (63 : Int32))) = c6 at *
  simp only [Int32.lt_iff_toInt_lt, ← Int32.toInt_inj, show (0 : Int32).toInt = 0 from rfl, show (1 : Int32).toInt = 1 from rfl, show (2 : Int32).toInt = 2 from rfl, show (3 : Int32).toInt = 3 from rfl, show (4 : Int32).toInt = 4 from rfl, show (128 : Int32).toInt = 128 from rfl, show (143 : Int32).toInt = 143 from rfl, show (144 : Int32).toInt = 144 from rfl, show (159 : Int32).toInt = 159 from rfl, show (160 : Int32).toInt = 160 from rfl, show (191 : Int32).toInt = 191 from rfl, show (192 : Int32).toInt = 192 from rfl, show (194 : Int32).toInt = 194 from rfl, show (223 : Int32).toInt = 223 from rfl, show (224 : Int32).toInt = 224 from rfl, show (237 : Int32).toInt = 237 from rfl, show (239 : Int32).toInt = 239 from rfl, show (240 : Int32).toInt = 240 from rfl, show (244 : Int32).toInt = 244 from rfl, show (248 : Int32).toInt = 248 from rfl, show (2048 : Int32).toInt = 2048 from rfl, show (55296 : Int32).toInt = 55296 from rfl, show (57343 : Int32).toInt = 57343 from rfl, show (65536 : Int32).toInt = 65536 from rfl, show (1114111 : Int32).toInt = 1114111 from rfl]
  generalize l.toInt = L at *
  generalize b.toInt = B at *
  generalize c.toInt = CC at *
  generalize d.toInt = DD at *
  generalize av.toInt = AV at *
  generalize l1.toInt = x1 at *
  generalize l2.toInt = x2 at *
  generalize l3.toInt = x3 at *
  generalize c1.toInt = y1 at *
  generalize c2.toInt = y2 at *
  generalize c3.toInt = y3 at *
  generalize c4.toInt = y4 at *
  generalize c5.toInt = y5 at *
  generalize c6.toInt = y6 at *
  have hB : 0 ≤ B ∧ B ≤ 255 := by omega
  have hC : 0 ≤ CC ∧ CC ≤ 255 := by omega
  have hD : 0 ≤ DD ∧ DD ≤ 255 := by omega
  have hL : 0 ≤ L ∧ L ≤ 255 := by omega
  clear h0 h1 h2 h3
  have hc : L < 192 ∨ L = 192 ∨ L = 193 ∨ (194 ≤ L ∧ L ≤ 223) ∨ L = 224 ∨ (225 ≤ L ∧ L ≤ 236) ∨ L = 237 ∨ (238 ≤ L ∧ L ≤ 239) ∨ L = 240 ∨ (241 ≤ L ∧ L ≤ 243) ∨ L = 244 ∨ (245 ≤ L ∧ L ≤ 247) ∨ 248 ≤ L := by omega
  rcases hc with h | h | h | h | h | h | h | h | h | h | h | h | h
  all_goals
    simp (disch := omega) only [if_pos, if_neg, ite_true, ite_false, ite_self]
    try
      (repeat' split)
      all_goals first | rfl | (exfalso; omega)
theorem own_eq1 (p0 p1 p2 p3 av : Int32) : own_Fs1 ((p0.toInt8.toInt32).toInt8.toInt32) ((p1.toInt8.toInt32).toInt8.toInt32) ((p2.toInt8.toInt32).toInt8.toInt32) ((p3.toInt8.toInt32).toInt8.toInt32) ((1 : Int32) + av) = own_F2 (p0 &&& (255 : Int32)) (p1 &&& (255 : Int32)) (p2 &&& (255 : Int32)) (p3 &&& (255 : Int32)) av := by
  have e3 : ((1 : Int32) + av) - (1 : Int32) = av := by rw [Int32.add_comm, Int32.add_sub_cancel]
  simp only [own_Fs1, own_F2, own_e1, own_e2, e3]
  have h0 := c_mask p0 255 8 (by decide) (by decide)
  have h1 := c_mask p1 255 8 (by decide) (by decide)
  have h2 := c_mask p2 255 8 (by decide) (by decide)
  have h3 := c_mask p3 255 8 (by decide) (by decide)
  generalize p0 &&& (255 : Int32) = l at *
  generalize p1 &&& (255 : Int32) = b at *
  generalize p2 &&& (255 : Int32) = c at *
  generalize p3 &&& (255 : Int32) = d at *
  simp only [own_192 b (by omega) (by omega), own_192 c (by omega) (by omega), own_192 d (by omega) (by omega)]
  have m1 := c_mask l 31 5 (by decide) (by decide)
  have m2 := c_mask l 15 4 (by decide) (by decide)
  have m3 := c_mask l 7 3 (by decide) (by decide)
  generalize l &&& (31 : Int32) = l1 at *
  generalize l &&& (15 : Int32) = l2 at *
  generalize l &&& (7 : Int32) = l3 at *
  have q1 := own_cp l1 b (by omega) (by omega)
  have q2 := own_cp l2 b (by omega) (by omega)
  have q3 := own_cp l3 b (by omega) (by omega)
  generalize ((l1 <<< ((6 : Int32) &&& 31)) ||| (b &&& (63 : Int32))) = c1 at *
  generalize ((l2 <<< ((6 : Int32) &&& 31)) ||| (b &&& (63 : Int32))) = c2 at *
  generalize ((l3 <<< ((6 : Int32) &&& 31)) ||| (b &&& (63 : Int32))) = c3 at *
  have q4 := own_cp c2 c (by omega) (by omega)
  have q5 := own_cp c3 c (by omega) (by omega)
  generalize ((c2 <<< ((6 : Int32) &&& 31)) ||| (c &&& (63 : Int32))) = c4 at *
  generalize ((c3 <<< ((6 : Int32) &&& 31)) ||| (c &&& (63 : Int32))) = c5 at *
  have q6 := own_cp c5 d (by omega) (by omega)
  generalize ((c5 <<< ((6 : Int32) &&& 31)) ||| (d &&& (63 : Int32))) = c6 at *
  simp only [Int32.lt_iff_toInt_lt, ← Int32.toInt_inj, show (0 : Int32).toInt = 0 from rfl, show (1 : Int32).toInt = 1 from rfl, show (2 : Int32).toInt = 2 from rfl, show (3 : Int32).toInt = 3 from rfl, show (4 : Int32).toInt = 4 from rfl, show (128 : Int32).toInt = 128 from rfl, show (143 : Int32).toInt = 143 from rfl, show (144 : Int32).toInt = 144 from rfl, show (159 : Int32).toInt = 159 from rfl, show (160 : Int32).toInt = 160 from rfl, show (191 : Int32).toInt = 191 from rfl, show (192 : Int32).toInt = 192 from rfl, show (194 : Int32).toInt = 194 from rfl, show (223 : Int32).toInt = 223 from rfl, show (224 : Int32).toInt = 224 from rfl, show (237 : Int32).toInt = 237 from rfl, show (239 : Int32).toInt = 239 from rfl, show (240 : Int32).toInt = 240 from rfl, show (244 : Int32).toInt = 244 from rfl, show (248 : Int32).toInt = 248 from rfl, show (2048 : Int32).toInt = 2048 from rfl, show (55296 : Int32).toInt = 55296 from rfl, show (57343 : Int32).toInt = 57343 from rfl, show (65536 : Int32).toInt = 65536 from rfl, show (1114111 : Int32).toInt = 1114111 from rfl]
  generalize l.toInt = L at *
  generalize b.toInt = B at *
  generalize c.toInt = CC at *
  generalize d.toInt = DD at *
  generalize av.toInt = AV at *
  generalize l1.toInt = x1 at *
  generalize l2.toInt = x2 at *
  generalize l3.toInt = x3 at *
  generalize c1.toInt = y1 at *
  generalize c2.toInt = y2 at *
  generalize c3.toInt = y3 at *
  generalize c4.toInt = y4 at *
  generalize c5.toInt = y5 at *
  generalize c6.toInt = y6 at *
  have hB : 0 ≤ B ∧ B ≤ 255 := by omega
  have hC : 0 ≤ CC ∧ CC ≤ 255 := by omega
  have hD : 0 ≤ DD ∧ DD ≤ 255 := by omega
  have hL : 0 ≤ L ∧ L ≤ 255 := by omega
  clear h0 h1 h2 h3
  have hc : L < 192 ∨ L = 192 ∨ L = 193 ∨ (194 ≤ L ∧ L ≤ 223) ∨ L = 224 ∨ (225 ≤ L ∧ L ≤ 236) ∨ L = 237 ∨ (238 ≤ L ∧ L ≤ 239) ∨ L = 240 ∨ (241 ≤ L ∧ L ≤ 243) ∨ L = 244 ∨ (245 ≤ L ∧ L ≤ 247) ∨ 248 ≤ L := by omega
  rcases hc with h | h | h | h | h | h | h | h | h | h | h | h | h
  all_goals
    simp (disch := omega) only [if_pos, if_neg, ite_true, ite_false, ite_self]
    try
      (repeat' split)
      all_goals first | rfl | (exfalso; omega)
theorem own_pn0 : plainFor x = true := plainFor_of_name (by first | (simp [plainName, overriddenIn]; done) | decide +kernel)
theorem own_rm0_ef (m : MethodId) (p0 : Int32) (p1 : Int32) (p2 : Int32) (p3 : Int32) (p4 : Int32) (p5 : Int32) : entryFrame m #[(.int p0), (.int p1), (.int p2), (.int p3), (.int p4), (.int p5)] maxLocals = mkF m 0 #[.val (.int p0), .val (.int p1), .val (.int p2), .val (.int p3), .val (.int p4), .val (.int p5), .unset, .unset, .unset, .unset, .unset] [] := by first | (simp [entryFrame, mkF, argsToLocals, Value.category, maxLocals]; done) | rfl
set_option maxRecDepth 65536 in
set_option maxHeartbeats 40000000 in
theorem own_rm0 (l : Launch) (Z : State) (a0 : Array Value) (hw : ∀ d ∈ tables_1, d.before a0 Z = true) (ws : List Jvm.Cond) (p0 : Int32) (p1 : Int32) (p2 : Int32) (p3 : Int32) (p4 : Int32) (p5 : Int32)  (h0 : Heap) (n0 : Nat) (Z0 : n0 ≤ h0.size)  :
    own_C l Z x code maxLocals ret ws room_1 #[(.int p0), (.int p1), (.int p2), (.int p3), (.int p4), (.int p5)] h0 (own_W n0 (fun v _ => v = some (.int 1))) := by
  refine MetFree.of_bodySF own_pn0 hisR ?_
  intro p e s m args below meth c s₁ Bd hml0 hP hK
  obtain ⟨rfl, hZ, hh⟩ := hP
  have hx := Bd.exec
  have hby := Bd.bytes
  have hml : c.maxLocals = 11 := hml0
  have hown : s.vm.findClass "com/example/bowerbird/bowerbird/Utf8SequenceLengthPinLaw" = some m.cls := findClass_of_methodNamed Bd.named
  have hnm := (name_of_methodNamed Bd.named Bd.method).1
  have X0 : Stand p l e room_1 s m #[(.int p0), (.int p1), (.int p2), (.int p3), (.int p4), (.int p5)] below meth c s₁ [] 0 0 := Stand.of_body Bd
  have e0 : s₁.heap = h0 := by rw [← hh, Bd.state]; rfl
  have N0 := Fr.nil n0
  show own_G p e below (own_P s (own_W n0 (fun v _ => v = some (.int 1))) room_1.cells room_1.slots) (s₁.setTop (entryFrame m #[(.int p0), (.int p1), (.int p2), (.int p3), (.int p4), (.int p5)] maxLocals))
  rw [own_rm0_ef m p0 p1 p2 p3 p4 p5]
  show own_G p e below _ (s₁.setTop (mkF m 0 #[.val (.int p0), .val (.int p1), .val (.int p2), .val (.int p3), .val (.int p4), .val (.int p5), .unset, .unset, .unset, .unset, .unset] []))
  refine own_via (fun t k => XS.iload X0.here hx rfl (hb hby at_0) rfl k) ?_
  show own_G p e below _ (s₁.setTop (mkF m 2 #[.val (.int p0), .val (.int p1), .val (.int p2), .val (.int p3), .val (.int p4), .val (.int p5), .unset, .unset, .unset, .unset, .unset] [(.int p4)]))
  refine own_via (fun t k => XS.iconst X0.here hx rfl (hb hby at_2) k) ?_
  show own_G p e below _ (s₁.setTop (mkF m 3 #[.val (.int p0), .val (.int p1), .val (.int p2), .val (.int p3), .val (.int p4), .val (.int p5), .unset, .unset, .unset, .unset, .unset] [(.int (1 : Int32)), (.int p4)]))
  refine own_via (fun t k => XS.iand X0.here hx rfl (hb hby at_3) rfl k) ?_
  show own_G p e below _ (s₁.setTop (mkF m 4 #[.val (.int p0), .val (.int p1), .val (.int p2), .val (.int p3), .val (.int p4), .val (.int p5), .unset, .unset, .unset, .unset, .unset] [(.int (p4 &&& (1 : Int32)))]))
  rcases own_and1 p4 with hs1 | hs2
  ·
    rw [hs1]
    show own_G p e below _ (s₁.setTop (mkF m 4 #[.val (.int p0), .val (.int p1), .val (.int p2), .val (.int p3), .val (.int p4), .val (.int p5), .unset, .unset, .unset, .unset, .unset] [(.int (0 : Int32))]))
    refine own_via (fun t k => XS.istore X0.here hx rfl (hb hby at_4) rfl (l' := #[.val (.int p0), .val (.int p1), .val (.int p2), .val (.int p3), .val (.int p4), .val (.int p5), .val (.int (0 : Int32)), .unset, .unset, .unset, .unset]) rfl k) ?_
    show own_G p e below _ (s₁.setTop (mkF m 6 #[.val (.int p0), .val (.int p1), .val (.int p2), .val (.int p3), .val (.int p4), .val (.int p5), .val (.int (0 : Int32)), .unset, .unset, .unset, .unset] []))
    refine own_via (fun t k => XS.iconst X0.here hx rfl (hb hby at_6) k) ?_
    show own_G p e below _ (s₁.setTop (mkF m 7 #[.val (.int p0), .val (.int p1), .val (.int p2), .val (.int p3), .val (.int p4), .val (.int p5), .val (.int (0 : Int32)), .unset, .unset, .unset, .unset] [(.int (1 : Int32))]))
    refine own_via (fun t k => XS.iload X0.here hx rfl (hb hby at_7) rfl k) ?_
    show own_G p e below _ (s₁.setTop (mkF m 9 #[.val (.int p0), .val (.int p1), .val (.int p2), .val (.int p3), .val (.int p4), .val (.int p5), .val (.int (0 : Int32)), .unset, .unset, .unset, .unset] [(.int p5), (.int (1 : Int32))]))
    refine own_via (fun t k => XS.iconst X0.here hx rfl (hb hby at_9) k) ?_
    show own_G p e below _ (s₁.setTop (mkF m 10 #[.val (.int p0), .val (.int p1), .val (.int p2), .val (.int p3), .val (.int p4), .val (.int p5), .val (.int (0 : Int32)), .unset, .unset, .unset, .unset] [(.int (3 : Int32)), (.int p5), (.int (1 : Int32))]))
    refine own_via (fun t k => XS.iand X0.here hx rfl (hb hby at_10) rfl k) ?_
    show own_G p e below _ (s₁.setTop (mkF m 11 #[.val (.int p0), .val (.int p1), .val (.int p2), .val (.int p3), .val (.int p4), .val (.int p5), .val (.int (0 : Int32)), .unset, .unset, .unset, .unset] [(.int (p5 &&& (3 : Int32))), (.int (1 : Int32))]))
    refine own_via (fun t k => XS.iadd X0.here hx rfl (hb hby at_11) rfl k) ?_
    show own_G p e below _ (s₁.setTop (mkF m 12 #[.val (.int p0), .val (.int p1), .val (.int p2), .val (.int p3), .val (.int p4), .val (.int p5), .val (.int (0 : Int32)), .unset, .unset, .unset, .unset] [(.int ((1 : Int32) + (p5 &&& (3 : Int32))))]))
    generalize hvg3 : ((1 : Int32) + (p5 &&& (3 : Int32))) = vg3
    show own_G p e below _ (s₁.setTop (mkF m 12 #[.val (.int p0), .val (.int p1), .val (.int p2), .val (.int p3), .val (.int p4), .val (.int p5), .val (.int (0 : Int32)), .unset, .unset, .unset, .unset] [(.int vg3)]))
    refine own_via (fun t k => XS.istore X0.here hx rfl (hb hby at_12) rfl (l' := #[.val (.int p0), .val (.int p1), .val (.int p2), .val (.int p3), .val (.int p4), .val (.int p5), .val (.int (0 : Int32)), .val (.int vg3), .unset, .unset, .unset]) rfl k) ?_
    show own_G p e below _ (s₁.setTop (mkF m 14 #[.val (.int p0), .val (.int p1), .val (.int p2), .val (.int p3), .val (.int p4), .val (.int p5), .val (.int (0 : Int32)), .val (.int vg3), .unset, .unset, .unset] []))
    refine own_via (fun t k => XS.iload X0.here hx rfl (hb hby at_14) rfl k) ?_
    show own_G p e below _ (s₁.setTop (mkF m 16 #[.val (.int p0), .val (.int p1), .val (.int p2), .val (.int p3), .val (.int p4), .val (.int p5), .val (.int (0 : Int32)), .val (.int vg3), .unset, .unset, .unset] [(.int (0 : Int32))]))
    refine own_via (fun t k => XS.iload X0.here hx rfl (hb hby at_16) rfl k) ?_
    show own_G p e below _ (s₁.setTop (mkF m 18 #[.val (.int p0), .val (.int p1), .val (.int p2), .val (.int p3), .val (.int p4), .val (.int p5), .val (.int (0 : Int32)), .val (.int vg3), .unset, .unset, .unset] [(.int vg3), (.int (0 : Int32))]))
    refine own_via (fun t k => XS.iadd X0.here hx rfl (hb hby at_18) rfl k) ?_
    show own_G p e below _ (s₁.setTop (mkF m 19 #[.val (.int p0), .val (.int p1), .val (.int p2), .val (.int p3), .val (.int p4), .val (.int p5), .val (.int (0 : Int32)), .val (.int vg3), .unset, .unset, .unset] [(.int ((0 : Int32) + vg3))]))
    generalize hvg4 : ((0 : Int32) + vg3) = vg4
    show own_G p e below _ (s₁.setTop (mkF m 19 #[.val (.int p0), .val (.int p1), .val (.int p2), .val (.int p3), .val (.int p4), .val (.int p5), .val (.int (0 : Int32)), .val (.int vg3), .unset, .unset, .unset] [(.int vg4)]))
    refine own_via (fun t k => XS.istore X0.here hx rfl (hb hby at_19) rfl (l' := #[.val (.int p0), .val (.int p1), .val (.int p2), .val (.int p3), .val (.int p4), .val (.int p5), .val (.int (0 : Int32)), .val (.int vg3), .val (.int vg4), .unset, .unset]) rfl k) ?_
    show own_G p e below _ (s₁.setTop (mkF m 21 #[.val (.int p0), .val (.int p1), .val (.int p2), .val (.int p3), .val (.int p4), .val (.int p5), .val (.int (0 : Int32)), .val (.int vg3), .val (.int vg4), .unset, .unset] []))
    refine own_via (fun t k => XS.bipush X0.here hx rfl (hb hby at_21) k) ?_
    show own_G p e below _ (s₁.setTop (mkF m 23 #[.val (.int p0), .val (.int p1), .val (.int p2), .val (.int p3), .val (.int p4), .val (.int p5), .val (.int (0 : Int32)), .val (.int vg3), .val (.int vg4), .unset, .unset] [(.int (6 : Int32))]))
    obtain ⟨T5, h5, k5, b5, X5, e5, E5, ga5, V5, Ex5, st5⟩ := own_newA X0 hx hZ (hw _ (List.mem_of_getElem? (i := 0) rfl)) e0 (pc := 23) (Ls := #[.val (.int p0), .val (.int p1), .val (.int p2), .val (.int p3), .val (.int p4), .val (.int p5), .val (.int (0 : Int32)), .val (.int vg3), .val (.int vg4), .unset, .unset]) (rest := []) (hb hby at_23) (n := (6 : Int32)) (by decide) (cap := 6) (by decide) (by decide) (by decide) (by decide) 6 rfl
    refine own_via st5 ?_
    have f6 : Arv Z h5 b5 k5 .byte (6 : Int32) [(.int (0 : Int32)), (.int (0 : Int32)), (.int (0 : Int32)), (.int (0 : Int32)), (.int (0 : Int32)), (.int (0 : Int32))] (.int (0 : Int32)) := V5
    have g_b5 : n0 ≤ b5 := Nat.le_trans Z0 (Nat.le_of_eq ga5.symm)
    have Zs7 : n0 ≤ h5.size := Nat.le_trans Z0 E5.1
    show own_G p e below _ (T5.setTop (mkF m 25 #[.val (.int p0), .val (.int p1), .val (.int p2), .val (.int p3), .val (.int p4), .val (.int p5), .val (.int (0 : Int32)), .val (.int vg3), .val (.int vg4), .unset, .unset] [(.ref b5)]))
    refine own_via (fun t k => XS.astore X5.here hx rfl (hb hby at_25) rfl rfl (l' := #[.val (.int p0), .val (.int p1), .val (.int p2), .val (.int p3), .val (.int p4), .val (.int p5), .val (.int (0 : Int32)), .val (.int vg3), .val (.int vg4), .val (.ref b5), .unset]) rfl k) ?_
    show own_G p e below _ (T5.setTop (mkF m 27 #[.val (.int p0), .val (.int p1), .val (.int p2), .val (.int p3), .val (.int p4), .val (.int p5), .val (.int (0 : Int32)), .val (.int vg3), .val (.int vg4), .val (.ref b5), .unset] []))
    refine own_via (fun t k => XS.aload X5.here hx rfl (hb hby at_27) rfl rfl k) ?_
    show own_G p e below _ (T5.setTop (mkF m 29 #[.val (.int p0), .val (.int p1), .val (.int p2), .val (.int p3), .val (.int p4), .val (.int p5), .val (.int (0 : Int32)), .val (.int vg3), .val (.int vg4), .val (.ref b5), .unset] [(.ref b5)]))
    refine own_via (fun t k => XS.iconst X5.here hx rfl (hb hby at_29) k) ?_
    show own_G p e below _ (T5.setTop (mkF m 30 #[.val (.int p0), .val (.int p1), .val (.int p2), .val (.int p3), .val (.int p4), .val (.int p5), .val (.int (0 : Int32)), .val (.int vg3), .val (.int vg4), .val (.ref b5), .unset] [(.int (0 : Int32)), (.ref b5)]))
    refine own_via (fun t k => XS.bipush X5.here hx rfl (hb hby at_30) k) ?_
    show own_G p e below _ (T5.setTop (mkF m 32 #[.val (.int p0), .val (.int p1), .val (.int p2), .val (.int p3), .val (.int p4), .val (.int p5), .val (.int (0 : Int32)), .val (.int vg3), .val (.int vg4), .val (.ref b5), .unset] [(.int (-128 : Int32)), (.int (0 : Int32)), (.ref b5)]))
    obtain ⟨T8, h8, L8, X8, N8, e8, W8, V8, st8⟩ := own_stB X5 N0 hx hZ e5 f6 g_b5 (j := (0 : Int32)) (x := (-128 : Int32)) (i := 0) ⟨by decide, by decide⟩ rfl (Nat.le_of_ble_eq_true rfl) (pc := 32) (Ls := #[.val (.int p0), .val (.int p1), .val (.int p2), .val (.int p3), .val (.int p4), .val (.int p5), .val (.int (0 : Int32)), .val (.int vg3), .val (.int vg4), .val (.ref b5), .unset]) (rest := []) (hb hby at_32)
    refine own_via st8 ?_
    have f9 : Arv Z h8 b5 k5 .byte (6 : Int32) [(.int (-128 : Int32)), (.int (0 : Int32)), (.int (0 : Int32)), (.int (0 : Int32)), (.int (0 : Int32)), (.int (0 : Int32))] (.int (0 : Int32)) := V8
    have Zs10 : n0 ≤ h8.size := by rw [W8.size]; exact Zs7
    show own_G p e below _ (T8.setTop (mkF m 33 #[.val (.int p0), .val (.int p1), .val (.int p2), .val (.int p3), .val (.int p4), .val (.int p5), .val (.int (0 : Int32)), .val (.int vg3), .val (.int vg4), .val (.ref b5), .unset] []))
    refine own_via (fun t k => XS.aload X8.here hx rfl (hb hby at_33) rfl rfl k) ?_
    show own_G p e below _ (T8.setTop (mkF m 35 #[.val (.int p0), .val (.int p1), .val (.int p2), .val (.int p3), .val (.int p4), .val (.int p5), .val (.int (0 : Int32)), .val (.int vg3), .val (.int vg4), .val (.ref b5), .unset] [(.ref b5)]))
    refine own_via (fun t k => XS.iconst X8.here hx rfl (hb hby at_35) k) ?_
    show own_G p e below _ (T8.setTop (mkF m 36 #[.val (.int p0), .val (.int p1), .val (.int p2), .val (.int p3), .val (.int p4), .val (.int p5), .val (.int (0 : Int32)), .val (.int vg3), .val (.int vg4), .val (.ref b5), .unset] [(.int (5 : Int32)), (.ref b5)]))
    refine own_via (fun t k => XS.bipush X8.here hx rfl (hb hby at_36) k) ?_
    show own_G p e below _ (T8.setTop (mkF m 38 #[.val (.int p0), .val (.int p1), .val (.int p2), .val (.int p3), .val (.int p4), .val (.int p5), .val (.int (0 : Int32)), .val (.int vg3), .val (.int vg4), .val (.ref b5), .unset] [(.int (-128 : Int32)), (.int (5 : Int32)), (.ref b5)]))
    obtain ⟨T11, h11, L11, X11, N11, e11, W11, V11, st11⟩ := own_stB X8 N8 hx hZ e8 f9 g_b5 (j := (5 : Int32)) (x := (-128 : Int32)) (i := 5) ⟨by decide, by decide⟩ rfl (Nat.le_of_ble_eq_true rfl) (pc := 38) (Ls := #[.val (.int p0), .val (.int p1), .val (.int p2), .val (.int p3), .val (.int p4), .val (.int p5), .val (.int (0 : Int32)), .val (.int vg3), .val (.int vg4), .val (.ref b5), .unset]) (rest := []) (hb hby at_38)
    refine own_via st11 ?_
    have f12 : Arv Z h11 b5 k5 .byte (6 : Int32) [(.int (-128 : Int32)), (.int (0 : Int32)), (.int (0 : Int32)), (.int (0 : Int32)), (.int (0 : Int32)), (.int (-128 : Int32))] (.int (0 : Int32)) := V11
    have Zs13 : n0 ≤ h11.size := by rw [W11.size]; exact Zs10
    show own_G p e below _ (T11.setTop (mkF m 39 #[.val (.int p0), .val (.int p1), .val (.int p2), .val (.int p3), .val (.int p4), .val (.int p5), .val (.int (0 : Int32)), .val (.int vg3), .val (.int vg4), .val (.ref b5), .unset] []))
    refine own_via (fun t k => XS.aload X11.here hx rfl (hb hby at_39) rfl rfl k) ?_
    show own_G p e below _ (T11.setTop (mkF m 41 #[.val (.int p0), .val (.int p1), .val (.int p2), .val (.int p3), .val (.int p4), .val (.int p5), .val (.int (0 : Int32)), .val (.int vg3), .val (.int vg4), .val (.ref b5), .unset] [(.ref b5)]))
    refine own_via (fun t k => XS.iload X11.here hx rfl (hb hby at_41) rfl k) ?_
    show own_G p e below _ (T11.setTop (mkF m 43 #[.val (.int p0), .val (.int p1), .val (.int p2), .val (.int p3), .val (.int p4), .val (.int p5), .val (.int (0 : Int32)), .val (.int vg3), .val (.int vg4), .val (.ref b5), .unset] [(.int (0 : Int32)), (.ref b5)]))
    refine own_via (fun t k => XS.iloadN X11.here hx rfl (hb hby at_43) rfl k) ?_
    show own_G p e below _ (T11.setTop (mkF m 44 #[.val (.int p0), .val (.int p1), .val (.int p2), .val (.int p3), .val (.int p4), .val (.int p5), .val (.int (0 : Int32)), .val (.int vg3), .val (.int vg4), .val (.ref b5), .unset] [(.int p0), (.int (0 : Int32)), (.ref b5)]))
    refine own_via (fun t k => XS.i2b X11.here hx rfl (hb hby at_44) rfl k) ?_
    show own_G p e below _ (T11.setTop (mkF m 45 #[.val (.int p0), .val (.int p1), .val (.int p2), .val (.int p3), .val (.int p4), .val (.int p5), .val (.int (0 : Int32)), .val (.int vg3), .val (.int vg4), .val (.ref b5), .unset] [(.int (p0.toInt8.toInt32)), (.int (0 : Int32)), (.ref b5)]))
    obtain ⟨T14, h14, L14, X14, N14, e14, W14, V14, st14⟩ := own_stB X11 N11 hx hZ e11 f12 g_b5 (j := (0 : Int32)) (x := (p0.toInt8.toInt32)) (i := 0) ⟨by decide, by decide⟩ rfl (Nat.le_of_ble_eq_true rfl) (pc := 45) (Ls := #[.val (.int p0), .val (.int p1), .val (.int p2), .val (.int p3), .val (.int p4), .val (.int p5), .val (.int (0 : Int32)), .val (.int vg3), .val (.int vg4), .val (.ref b5), .unset]) (rest := []) (hb hby at_45)
    refine own_via st14 ?_
    have f15 : Arv Z h14 b5 k5 .byte (6 : Int32) [(.int ((p0.toInt8.toInt32).toInt8.toInt32)), (.int (0 : Int32)), (.int (0 : Int32)), (.int (0 : Int32)), (.int (0 : Int32)), (.int (-128 : Int32))] (.int (0 : Int32)) := V14
    have Zs16 : n0 ≤ h14.size := by rw [W14.size]; exact Zs13
    show own_G p e below _ (T14.setTop (mkF m 46 #[.val (.int p0), .val (.int p1), .val (.int p2), .val (.int p3), .val (.int p4), .val (.int p5), .val (.int (0 : Int32)), .val (.int vg3), .val (.int vg4), .val (.ref b5), .unset] []))
    refine own_via (fun t k => XS.aload X14.here hx rfl (hb hby at_46) rfl rfl k) ?_
    show own_G p e below _ (T14.setTop (mkF m 48 #[.val (.int p0), .val (.int p1), .val (.int p2), .val (.int p3), .val (.int p4), .val (.int p5), .val (.int (0 : Int32)), .val (.int vg3), .val (.int vg4), .val (.ref b5), .unset] [(.ref b5)]))
    refine own_via (fun t k => XS.iload X14.here hx rfl (hb hby at_48) rfl k) ?_
    show own_G p e below _ (T14.setTop (mkF m 50 #[.val (.int p0), .val (.int p1), .val (.int p2), .val (.int p3), .val (.int p4), .val (.int p5), .val (.int (0 : Int32)), .val (.int vg3), .val (.int vg4), .val (.ref b5), .unset] [(.int (0 : Int32)), (.ref b5)]))
    refine own_via (fun t k => XS.iconst X14.here hx rfl (hb hby at_50) k) ?_
    show own_G p e below _ (T14.setTop (mkF m 51 #[.val (.int p0), .val (.int p1), .val (.int p2), .val (.int p3), .val (.int p4), .val (.int p5), .val (.int (0 : Int32)), .val (.int vg3), .val (.int vg4), .val (.ref b5), .unset] [(.int (1 : Int32)), (.int (0 : Int32)), (.ref b5)]))
    refine own_via (fun t k => XS.iadd X14.here hx rfl (hb hby at_51) rfl k) ?_
    show own_G p e below _ (T14.setTop (mkF m 52 #[.val (.int p0), .val (.int p1), .val (.int p2), .val (.int p3), .val (.int p4), .val (.int p5), .val (.int (0 : Int32)), .val (.int vg3), .val (.int vg4), .val (.ref b5), .unset] [(.int (1 : Int32)), (.ref b5)]))
    refine own_via (fun t k => XS.iloadN X14.here hx rfl (hb hby at_52) rfl k) ?_
    show own_G p e below _ (T14.setTop (mkF m 53 #[.val (.int p0), .val (.int p1), .val (.int p2), .val (.int p3), .val (.int p4), .val (.int p5), .val (.int (0 : Int32)), .val (.int vg3), .val (.int vg4), .val (.ref b5), .unset] [(.int p1), (.int (1 : Int32)), (.ref b5)]))
    refine own_via (fun t k => XS.i2b X14.here hx rfl (hb hby at_53) rfl k) ?_
    show own_G p e below _ (T14.setTop (mkF m 54 #[.val (.int p0), .val (.int p1), .val (.int p2), .val (.int p3), .val (.int p4), .val (.int p5), .val (.int (0 : Int32)), .val (.int vg3), .val (.int vg4), .val (.ref b5), .unset] [(.int (p1.toInt8.toInt32)), (.int (1 : Int32)), (.ref b5)]))
    obtain ⟨T17, h17, L17, X17, N17, e17, W17, V17, st17⟩ := own_stB X14 N14 hx hZ e14 f15 g_b5 (j := (1 : Int32)) (x := (p1.toInt8.toInt32)) (i := 1) ⟨by decide, by decide⟩ rfl (Nat.le_of_ble_eq_true rfl) (pc := 54) (Ls := #[.val (.int p0), .val (.int p1), .val (.int p2), .val (.int p3), .val (.int p4), .val (.int p5), .val (.int (0 : Int32)), .val (.int vg3), .val (.int vg4), .val (.ref b5), .unset]) (rest := []) (hb hby at_54)
    refine own_via st17 ?_
    have f18 : Arv Z h17 b5 k5 .byte (6 : Int32) [(.int ((p0.toInt8.toInt32).toInt8.toInt32)), (.int ((p1.toInt8.toInt32).toInt8.toInt32)), (.int (0 : Int32)), (.int (0 : Int32)), (.int (0 : Int32)), (.int (-128 : Int32))] (.int (0 : Int32)) := V17
    have Zs19 : n0 ≤ h17.size := by rw [W17.size]; exact Zs16
    show own_G p e below _ (T17.setTop (mkF m 55 #[.val (.int p0), .val (.int p1), .val (.int p2), .val (.int p3), .val (.int p4), .val (.int p5), .val (.int (0 : Int32)), .val (.int vg3), .val (.int vg4), .val (.ref b5), .unset] []))
    refine own_via (fun t k => XS.aload X17.here hx rfl (hb hby at_55) rfl rfl k) ?_
    show own_G p e below _ (T17.setTop (mkF m 57 #[.val (.int p0), .val (.int p1), .val (.int p2), .val (.int p3), .val (.int p4), .val (.int p5), .val (.int (0 : Int32)), .val (.int vg3), .val (.int vg4), .val (.ref b5), .unset] [(.ref b5)]))
    refine own_via (fun t k => XS.iload X17.here hx rfl (hb hby at_57) rfl k) ?_
    show own_G p e below _ (T17.setTop (mkF m 59 #[.val (.int p0), .val (.int p1), .val (.int p2), .val (.int p3), .val (.int p4), .val (.int p5), .val (.int (0 : Int32)), .val (.int vg3), .val (.int vg4), .val (.ref b5), .unset] [(.int (0 : Int32)), (.ref b5)]))
    refine own_via (fun t k => XS.iconst X17.here hx rfl (hb hby at_59) k) ?_
    show own_G p e below _ (T17.setTop (mkF m 60 #[.val (.int p0), .val (.int p1), .val (.int p2), .val (.int p3), .val (.int p4), .val (.int p5), .val (.int (0 : Int32)), .val (.int vg3), .val (.int vg4), .val (.ref b5), .unset] [(.int (2 : Int32)), (.int (0 : Int32)), (.ref b5)]))
    refine own_via (fun t k => XS.iadd X17.here hx rfl (hb hby at_60) rfl k) ?_
    show own_G p e below _ (T17.setTop (mkF m 61 #[.val (.int p0), .val (.int p1), .val (.int p2), .val (.int p3), .val (.int p4), .val (.int p5), .val (.int (0 : Int32)), .val (.int vg3), .val (.int vg4), .val (.ref b5), .unset] [(.int (2 : Int32)), (.ref b5)]))
    refine own_via (fun t k => XS.iloadN X17.here hx rfl (hb hby at_61) rfl k) ?_
    show own_G p e below _ (T17.setTop (mkF m 62 #[.val (.int p0), .val (.int p1), .val (.int p2), .val (.int p3), .val (.int p4), .val (.int p5), .val (.int (0 : Int32)), .val (.int vg3), .val (.int vg4), .val (.ref b5), .unset] [(.int p2), (.int (2 : Int32)), (.ref b5)]))
    refine own_via (fun t k => XS.i2b X17.here hx rfl (hb hby at_62) rfl k) ?_
    show own_G p e below _ (T17.setTop (mkF m 63 #[.val (.int p0), .val (.int p1), .val (.int p2), .val (.int p3), .val (.int p4), .val (.int p5), .val (.int (0 : Int32)), .val (.int vg3), .val (.int vg4), .val (.ref b5), .unset] [(.int (p2.toInt8.toInt32)), (.int (2 : Int32)), (.ref b5)]))
    obtain ⟨T20, h20, L20, X20, N20, e20, W20, V20, st20⟩ := own_stB X17 N17 hx hZ e17 f18 g_b5 (j := (2 : Int32)) (x := (p2.toInt8.toInt32)) (i := 2) ⟨by decide, by decide⟩ rfl (Nat.le_of_ble_eq_true rfl) (pc := 63) (Ls := #[.val (.int p0), .val (.int p1), .val (.int p2), .val (.int p3), .val (.int p4), .val (.int p5), .val (.int (0 : Int32)), .val (.int vg3), .val (.int vg4), .val (.ref b5), .unset]) (rest := []) (hb hby at_63)
    refine own_via st20 ?_
    have f21 : Arv Z h20 b5 k5 .byte (6 : Int32) [(.int ((p0.toInt8.toInt32).toInt8.toInt32)), (.int ((p1.toInt8.toInt32).toInt8.toInt32)), (.int ((p2.toInt8.toInt32).toInt8.toInt32)), (.int (0 : Int32)), (.int (0 : Int32)), (.int (-128 : Int32))] (.int (0 : Int32)) := V20
    have Zs22 : n0 ≤ h20.size := by rw [W20.size]; exact Zs19
    show own_G p e below _ (T20.setTop (mkF m 64 #[.val (.int p0), .val (.int p1), .val (.int p2), .val (.int p3), .val (.int p4), .val (.int p5), .val (.int (0 : Int32)), .val (.int vg3), .val (.int vg4), .val (.ref b5), .unset] []))
    refine own_via (fun t k => XS.aload X20.here hx rfl (hb hby at_64) rfl rfl k) ?_
    show own_G p e below _ (T20.setTop (mkF m 66 #[.val (.int p0), .val (.int p1), .val (.int p2), .val (.int p3), .val (.int p4), .val (.int p5), .val (.int (0 : Int32)), .val (.int vg3), .val (.int vg4), .val (.ref b5), .unset] [(.ref b5)]))
    refine own_via (fun t k => XS.iload X20.here hx rfl (hb hby at_66) rfl k) ?_
    show own_G p e below _ (T20.setTop (mkF m 68 #[.val (.int p0), .val (.int p1), .val (.int p2), .val (.int p3), .val (.int p4), .val (.int p5), .val (.int (0 : Int32)), .val (.int vg3), .val (.int vg4), .val (.ref b5), .unset] [(.int (0 : Int32)), (.ref b5)]))
    refine own_via (fun t k => XS.iconst X20.here hx rfl (hb hby at_68) k) ?_
    show own_G p e below _ (T20.setTop (mkF m 69 #[.val (.int p0), .val (.int p1), .val (.int p2), .val (.int p3), .val (.int p4), .val (.int p5), .val (.int (0 : Int32)), .val (.int vg3), .val (.int vg4), .val (.ref b5), .unset] [(.int (3 : Int32)), (.int (0 : Int32)), (.ref b5)]))
    refine own_via (fun t k => XS.iadd X20.here hx rfl (hb hby at_69) rfl k) ?_
    show own_G p e below _ (T20.setTop (mkF m 70 #[.val (.int p0), .val (.int p1), .val (.int p2), .val (.int p3), .val (.int p4), .val (.int p5), .val (.int (0 : Int32)), .val (.int vg3), .val (.int vg4), .val (.ref b5), .unset] [(.int (3 : Int32)), (.ref b5)]))
    refine own_via (fun t k => XS.iloadN X20.here hx rfl (hb hby at_70) rfl k) ?_
    show own_G p e below _ (T20.setTop (mkF m 71 #[.val (.int p0), .val (.int p1), .val (.int p2), .val (.int p3), .val (.int p4), .val (.int p5), .val (.int (0 : Int32)), .val (.int vg3), .val (.int vg4), .val (.ref b5), .unset] [(.int p3), (.int (3 : Int32)), (.ref b5)]))
    refine own_via (fun t k => XS.i2b X20.here hx rfl (hb hby at_71) rfl k) ?_
    show own_G p e below _ (T20.setTop (mkF m 72 #[.val (.int p0), .val (.int p1), .val (.int p2), .val (.int p3), .val (.int p4), .val (.int p5), .val (.int (0 : Int32)), .val (.int vg3), .val (.int vg4), .val (.ref b5), .unset] [(.int (p3.toInt8.toInt32)), (.int (3 : Int32)), (.ref b5)]))
    obtain ⟨T23, h23, L23, X23, N23, e23, W23, V23, st23⟩ := own_stB X20 N20 hx hZ e20 f21 g_b5 (j := (3 : Int32)) (x := (p3.toInt8.toInt32)) (i := 3) ⟨by decide, by decide⟩ rfl (Nat.le_of_ble_eq_true rfl) (pc := 72) (Ls := #[.val (.int p0), .val (.int p1), .val (.int p2), .val (.int p3), .val (.int p4), .val (.int p5), .val (.int (0 : Int32)), .val (.int vg3), .val (.int vg4), .val (.ref b5), .unset]) (rest := []) (hb hby at_72)
    refine own_via st23 ?_
    have f24 : Arv Z h23 b5 k5 .byte (6 : Int32) [(.int ((p0.toInt8.toInt32).toInt8.toInt32)), (.int ((p1.toInt8.toInt32).toInt8.toInt32)), (.int ((p2.toInt8.toInt32).toInt8.toInt32)), (.int ((p3.toInt8.toInt32).toInt8.toInt32)), (.int (0 : Int32)), (.int (-128 : Int32))] (.int (0 : Int32)) := V23
    have Zs25 : n0 ≤ h23.size := by rw [W23.size]; exact Zs22
    show own_G p e below _ (T23.setTop (mkF m 73 #[.val (.int p0), .val (.int p1), .val (.int p2), .val (.int p3), .val (.int p4), .val (.int p5), .val (.int (0 : Int32)), .val (.int vg3), .val (.int vg4), .val (.ref b5), .unset] []))
    refine own_via (fun t k => XS.aload X23.here hx rfl (hb hby at_73) rfl rfl k) ?_
    show own_G p e below _ (T23.setTop (mkF m 75 #[.val (.int p0), .val (.int p1), .val (.int p2), .val (.int p3), .val (.int p4), .val (.int p5), .val (.int (0 : Int32)), .val (.int vg3), .val (.int vg4), .val (.ref b5), .unset] [(.ref b5)]))
    refine own_via (fun t k => XS.iload X23.here hx rfl (hb hby at_75) rfl k) ?_
    show own_G p e below _ (T23.setTop (mkF m 77 #[.val (.int p0), .val (.int p1), .val (.int p2), .val (.int p3), .val (.int p4), .val (.int p5), .val (.int (0 : Int32)), .val (.int vg3), .val (.int vg4), .val (.ref b5), .unset] [(.int (0 : Int32)), (.ref b5)]))
    refine own_via (fun t k => XS.iload X23.here hx rfl (hb hby at_77) rfl k) ?_
    show own_G p e below _ (T23.setTop (mkF m 79 #[.val (.int p0), .val (.int p1), .val (.int p2), .val (.int p3), .val (.int p4), .val (.int p5), .val (.int (0 : Int32)), .val (.int vg3), .val (.int vg4), .val (.ref b5), .unset] [(.int vg4), (.int (0 : Int32)), (.ref b5)]))
    obtain ⟨T26, X26, e26, st26⟩ := own_callP (y := (⟨"com/example/bowerbird/bowerbird/Utf8", "sequenceLength", "([BII)I"⟩ : MethodName)) (W := 0) X23 hx hZ hown (hw _ (List.mem_of_getElem? (i := 1) rfl)) (hw _ (List.mem_of_getElem? (i := 2) rfl)) (hw _ (List.mem_of_getElem? (i := 3) rfl)) (hw _ (List.mem_of_getElem? (i := 4) rfl)) (by decide) (own_seq0 l Z a0 hw [] b5 vg4 k5 ((p0.toInt8.toInt32).toInt8.toInt32) ((p1.toInt8.toInt32).toInt8.toInt32) ((p2.toInt8.toInt32).toInt8.toInt32) ((p3.toInt8.toInt32).toInt8.toInt32) (0 : Int32) (-128 : Int32) h23 f24) (by decide) (by decide) rfl rfl (by decide) (by decide) e23 (pc := 79) (Ls := #[.val (.int p0), .val (.int p1), .val (.int p2), .val (.int p3), .val (.int p4), .val (.int p5), .val (.int (0 : Int32)), .val (.int vg3), .val (.int vg4), .val (.ref b5), .unset]) (st := [(.int vg4), (.int (0 : Int32)), (.ref b5)]) (argsL := [(.ref b5), (.int (0 : Int32)), (.int vg4)]) (rest := []) (by rw [hml]; rfl) (lenOf own_pd0 rfl) rfl rfl (Nat.le_of_eq rfl) (hb hby at_79)
    refine own_via st26 ?_
    show own_G p e below _ (T26.setTop (mkF m 82 #[.val (.int p0), .val (.int p1), .val (.int p2), .val (.int p3), .val (.int p4), .val (.int p5), .val (.int (0 : Int32)), .val (.int vg3), .val (.int vg4), .val (.ref b5), .unset] [(.int (own_Fs0 ((p0.toInt8.toInt32).toInt8.toInt32) ((p1.toInt8.toInt32).toInt8.toInt32) ((p2.toInt8.toInt32).toInt8.toInt32) ((p3.toInt8.toInt32).toInt8.toInt32) vg4))]))
    generalize hvg27 : (own_Fs0 ((p0.toInt8.toInt32).toInt8.toInt32) ((p1.toInt8.toInt32).toInt8.toInt32) ((p2.toInt8.toInt32).toInt8.toInt32) ((p3.toInt8.toInt32).toInt8.toInt32) vg4) = vg27
    show own_G p e below _ (T26.setTop (mkF m 82 #[.val (.int p0), .val (.int p1), .val (.int p2), .val (.int p3), .val (.int p4), .val (.int p5), .val (.int (0 : Int32)), .val (.int vg3), .val (.int vg4), .val (.ref b5), .unset] [(.int vg27)]))
    refine own_via (fun t k => XS.istore X26.here hx rfl (hb hby at_82) rfl (l' := #[.val (.int p0), .val (.int p1), .val (.int p2), .val (.int p3), .val (.int p4), .val (.int p5), .val (.int (0 : Int32)), .val (.int vg3), .val (.int vg4), .val (.ref b5), .val (.int vg27)]) rfl k) ?_
    show own_G p e below _ (T26.setTop (mkF m 84 #[.val (.int p0), .val (.int p1), .val (.int p2), .val (.int p3), .val (.int p4), .val (.int p5), .val (.int (0 : Int32)), .val (.int vg3), .val (.int vg4), .val (.ref b5), .val (.int vg27)] []))
    refine own_via (fun t k => XS.iload X26.here hx rfl (hb hby at_84) rfl k) ?_
    show own_G p e below _ (T26.setTop (mkF m 86 #[.val (.int p0), .val (.int p1), .val (.int p2), .val (.int p3), .val (.int p4), .val (.int p5), .val (.int (0 : Int32)), .val (.int vg3), .val (.int vg4), .val (.ref b5), .val (.int vg27)] [(.int vg27)]))
    refine own_via (fun t k => XS.iloadN X26.here hx rfl (hb hby at_86) rfl k) ?_
    show own_G p e below _ (T26.setTop (mkF m 87 #[.val (.int p0), .val (.int p1), .val (.int p2), .val (.int p3), .val (.int p4), .val (.int p5), .val (.int (0 : Int32)), .val (.int vg3), .val (.int vg4), .val (.ref b5), .val (.int vg27)] [(.int p0), (.int vg27)]))
    refine own_via (fun t k => XS.sipush X26.here hx rfl (hb hby at_87) k) ?_
    show own_G p e below _ (T26.setTop (mkF m 90 #[.val (.int p0), .val (.int p1), .val (.int p2), .val (.int p3), .val (.int p4), .val (.int p5), .val (.int (0 : Int32)), .val (.int vg3), .val (.int vg4), .val (.ref b5), .val (.int vg27)] [(.int (255 : Int32)), (.int p0), (.int vg27)]))
    refine own_via (fun t k => XS.iand X26.here hx rfl (hb hby at_90) rfl k) ?_
    show own_G p e below _ (T26.setTop (mkF m 91 #[.val (.int p0), .val (.int p1), .val (.int p2), .val (.int p3), .val (.int p4), .val (.int p5), .val (.int (0 : Int32)), .val (.int vg3), .val (.int vg4), .val (.ref b5), .val (.int vg27)] [(.int (p0 &&& (255 : Int32))), (.int vg27)]))
    refine own_via (fun t k => XS.iloadN X26.here hx rfl (hb hby at_91) rfl k) ?_
    show own_G p e below _ (T26.setTop (mkF m 92 #[.val (.int p0), .val (.int p1), .val (.int p2), .val (.int p3), .val (.int p4), .val (.int p5), .val (.int (0 : Int32)), .val (.int vg3), .val (.int vg4), .val (.ref b5), .val (.int vg27)] [(.int p1), (.int (p0 &&& (255 : Int32))), (.int vg27)]))
    refine own_via (fun t k => XS.sipush X26.here hx rfl (hb hby at_92) k) ?_
    show own_G p e below _ (T26.setTop (mkF m 95 #[.val (.int p0), .val (.int p1), .val (.int p2), .val (.int p3), .val (.int p4), .val (.int p5), .val (.int (0 : Int32)), .val (.int vg3), .val (.int vg4), .val (.ref b5), .val (.int vg27)] [(.int (255 : Int32)), (.int p1), (.int (p0 &&& (255 : Int32))), (.int vg27)]))
    refine own_via (fun t k => XS.iand X26.here hx rfl (hb hby at_95) rfl k) ?_
    show own_G p e below _ (T26.setTop (mkF m 96 #[.val (.int p0), .val (.int p1), .val (.int p2), .val (.int p3), .val (.int p4), .val (.int p5), .val (.int (0 : Int32)), .val (.int vg3), .val (.int vg4), .val (.ref b5), .val (.int vg27)] [(.int (p1 &&& (255 : Int32))), (.int (p0 &&& (255 : Int32))), (.int vg27)]))
    refine own_via (fun t k => XS.iloadN X26.here hx rfl (hb hby at_96) rfl k) ?_
    show own_G p e below _ (T26.setTop (mkF m 97 #[.val (.int p0), .val (.int p1), .val (.int p2), .val (.int p3), .val (.int p4), .val (.int p5), .val (.int (0 : Int32)), .val (.int vg3), .val (.int vg4), .val (.ref b5), .val (.int vg27)] [(.int p2), (.int (p1 &&& (255 : Int32))), (.int (p0 &&& (255 : Int32))), (.int vg27)]))
    refine own_via (fun t k => XS.sipush X26.here hx rfl (hb hby at_97) k) ?_
    show own_G p e below _ (T26.setTop (mkF m 100 #[.val (.int p0), .val (.int p1), .val (.int p2), .val (.int p3), .val (.int p4), .val (.int p5), .val (.int (0 : Int32)), .val (.int vg3), .val (.int vg4), .val (.ref b5), .val (.int vg27)] [(.int (255 : Int32)), (.int p2), (.int (p1 &&& (255 : Int32))), (.int (p0 &&& (255 : Int32))), (.int vg27)]))
    refine own_via (fun t k => XS.iand X26.here hx rfl (hb hby at_100) rfl k) ?_
    show own_G p e below _ (T26.setTop (mkF m 101 #[.val (.int p0), .val (.int p1), .val (.int p2), .val (.int p3), .val (.int p4), .val (.int p5), .val (.int (0 : Int32)), .val (.int vg3), .val (.int vg4), .val (.ref b5), .val (.int vg27)] [(.int (p2 &&& (255 : Int32))), (.int (p1 &&& (255 : Int32))), (.int (p0 &&& (255 : Int32))), (.int vg27)]))
    refine own_via (fun t k => XS.iloadN X26.here hx rfl (hb hby at_101) rfl k) ?_
    show own_G p e below _ (T26.setTop (mkF m 102 #[.val (.int p0), .val (.int p1), .val (.int p2), .val (.int p3), .val (.int p4), .val (.int p5), .val (.int (0 : Int32)), .val (.int vg3), .val (.int vg4), .val (.ref b5), .val (.int vg27)] [(.int p3), (.int (p2 &&& (255 : Int32))), (.int (p1 &&& (255 : Int32))), (.int (p0 &&& (255 : Int32))), (.int vg27)]))
    refine own_via (fun t k => XS.sipush X26.here hx rfl (hb hby at_102) k) ?_
    show own_G p e below _ (T26.setTop (mkF m 105 #[.val (.int p0), .val (.int p1), .val (.int p2), .val (.int p3), .val (.int p4), .val (.int p5), .val (.int (0 : Int32)), .val (.int vg3), .val (.int vg4), .val (.ref b5), .val (.int vg27)] [(.int (255 : Int32)), (.int p3), (.int (p2 &&& (255 : Int32))), (.int (p1 &&& (255 : Int32))), (.int (p0 &&& (255 : Int32))), (.int vg27)]))
    refine own_via (fun t k => XS.iand X26.here hx rfl (hb hby at_105) rfl k) ?_
    show own_G p e below _ (T26.setTop (mkF m 106 #[.val (.int p0), .val (.int p1), .val (.int p2), .val (.int p3), .val (.int p4), .val (.int p5), .val (.int (0 : Int32)), .val (.int vg3), .val (.int vg4), .val (.ref b5), .val (.int vg27)] [(.int (p3 &&& (255 : Int32))), (.int (p2 &&& (255 : Int32))), (.int (p1 &&& (255 : Int32))), (.int (p0 &&& (255 : Int32))), (.int vg27)]))
    refine own_via (fun t k => XS.iload X26.here hx rfl (hb hby at_106) rfl k) ?_
    show own_G p e below _ (T26.setTop (mkF m 108 #[.val (.int p0), .val (.int p1), .val (.int p2), .val (.int p3), .val (.int p4), .val (.int p5), .val (.int (0 : Int32)), .val (.int vg3), .val (.int vg4), .val (.ref b5), .val (.int vg27)] [(.int vg3), (.int (p3 &&& (255 : Int32))), (.int (p2 &&& (255 : Int32))), (.int (p1 &&& (255 : Int32))), (.int (p0 &&& (255 : Int32))), (.int vg27)]))
    obtain ⟨T28, X28, e28, st28⟩ := own_callP (y := (⟨"com/example/bowerbird/bowerbird/Utf8SequenceLengthPinLaw", "expected", "(IIIII)I"⟩ : MethodName)) (W := 1) X26 hx hZ hown (hw _ (List.mem_of_getElem? (i := 5) rfl)) (hw _ (List.mem_of_getElem? (i := 6) rfl)) (hw _ (List.mem_of_getElem? (i := 7) rfl)) (hw _ (List.mem_of_getElem? (i := 8) rfl)) (by decide) (own_rm2 l Z a0 hw [] (p0 &&& (255 : Int32)) (p1 &&& (255 : Int32)) (p2 &&& (255 : Int32)) (p3 &&& (255 : Int32)) vg3 h23) (by decide) (by decide) rfl rfl (by decide) (by decide) e26 (pc := 108) (Ls := #[.val (.int p0), .val (.int p1), .val (.int p2), .val (.int p3), .val (.int p4), .val (.int p5), .val (.int (0 : Int32)), .val (.int vg3), .val (.int vg4), .val (.ref b5), .val (.int vg27)]) (st := [(.int vg3), (.int (p3 &&& (255 : Int32))), (.int (p2 &&& (255 : Int32))), (.int (p1 &&& (255 : Int32))), (.int (p0 &&& (255 : Int32))), (.int vg27)]) (argsL := [(.int (p0 &&& (255 : Int32))), (.int (p1 &&& (255 : Int32))), (.int (p2 &&& (255 : Int32))), (.int (p3 &&& (255 : Int32))), (.int vg3)]) (rest := [(.int vg27)]) (by rw [hml]; rfl) (lenOf own_pd1 rfl) rfl rfl (Nat.le_of_eq rfl) (hb hby at_108)
    refine own_via st28 ?_
    show own_G p e below _ (T28.setTop (mkF m 111 #[.val (.int p0), .val (.int p1), .val (.int p2), .val (.int p3), .val (.int p4), .val (.int p5), .val (.int (0 : Int32)), .val (.int vg3), .val (.int vg4), .val (.ref b5), .val (.int vg27)] [(.int (own_F2 (p0 &&& (255 : Int32)) (p1 &&& (255 : Int32)) (p2 &&& (255 : Int32)) (p3 &&& (255 : Int32)) vg3)), (.int vg27)]))
    refine own_via (fun t k => XS.icmpNo X28.here hx rfl (hb hby at_111) rfl (teq (by subst hvg27; subst hvg4; subst hvg3; exact own_eq0 p0 p1 p2 p3 _)).2 k) ?_
    show own_G p e below _ (T28.setTop (mkF m 114 #[.val (.int p0), .val (.int p1), .val (.int p2), .val (.int p3), .val (.int p4), .val (.int p5), .val (.int (0 : Int32)), .val (.int vg3), .val (.int vg4), .val (.ref b5), .val (.int vg27)] []))
    refine own_via (fun t k => XS.iconst X28.here hx rfl (hb hby at_114) k) ?_
    show own_G p e below _ (T28.setTop (mkF m 115 #[.val (.int p0), .val (.int p1), .val (.int p2), .val (.int p3), .val (.int p4), .val (.int p5), .val (.int (0 : Int32)), .val (.int vg3), .val (.int vg4), .val (.ref b5), .val (.int vg27)] [(.int (1 : Int32))]))
    refine own_via (fun t k => XS.goto X28.here hx rfl (pc0 := 115) (pc' := 119) rfl (hb hby at_115) (by decide) (by decide) k) ?_
    show own_G p e below _ (T28.setTop (mkF m 119 #[.val (.int p0), .val (.int p1), .val (.int p2), .val (.int p3), .val (.int p4), .val (.int p5), .val (.int (0 : Int32)), .val (.int vg3), .val (.int vg4), .val (.ref b5), .val (.int vg27)] [(.int (1 : Int32))]))
    exact own_retN (t := .boolean) X28 hx Bd.returns (by simp) Bd.notSynchronized (hb hby at_119) ⟨N23, rfl⟩ (by decide) (by decide)
  ·
    rw [hs2]
    show own_G p e below _ (s₁.setTop (mkF m 4 #[.val (.int p0), .val (.int p1), .val (.int p2), .val (.int p3), .val (.int p4), .val (.int p5), .unset, .unset, .unset, .unset, .unset] [(.int (1 : Int32))]))
    refine own_via (fun t k => XS.istore X0.here hx rfl (hb hby at_4) rfl (l' := #[.val (.int p0), .val (.int p1), .val (.int p2), .val (.int p3), .val (.int p4), .val (.int p5), .val (.int (1 : Int32)), .unset, .unset, .unset, .unset]) rfl k) ?_
    show own_G p e below _ (s₁.setTop (mkF m 6 #[.val (.int p0), .val (.int p1), .val (.int p2), .val (.int p3), .val (.int p4), .val (.int p5), .val (.int (1 : Int32)), .unset, .unset, .unset, .unset] []))
    refine own_via (fun t k => XS.iconst X0.here hx rfl (hb hby at_6) k) ?_
    show own_G p e below _ (s₁.setTop (mkF m 7 #[.val (.int p0), .val (.int p1), .val (.int p2), .val (.int p3), .val (.int p4), .val (.int p5), .val (.int (1 : Int32)), .unset, .unset, .unset, .unset] [(.int (1 : Int32))]))
    refine own_via (fun t k => XS.iload X0.here hx rfl (hb hby at_7) rfl k) ?_
    show own_G p e below _ (s₁.setTop (mkF m 9 #[.val (.int p0), .val (.int p1), .val (.int p2), .val (.int p3), .val (.int p4), .val (.int p5), .val (.int (1 : Int32)), .unset, .unset, .unset, .unset] [(.int p5), (.int (1 : Int32))]))
    refine own_via (fun t k => XS.iconst X0.here hx rfl (hb hby at_9) k) ?_
    show own_G p e below _ (s₁.setTop (mkF m 10 #[.val (.int p0), .val (.int p1), .val (.int p2), .val (.int p3), .val (.int p4), .val (.int p5), .val (.int (1 : Int32)), .unset, .unset, .unset, .unset] [(.int (3 : Int32)), (.int p5), (.int (1 : Int32))]))
    refine own_via (fun t k => XS.iand X0.here hx rfl (hb hby at_10) rfl k) ?_
    show own_G p e below _ (s₁.setTop (mkF m 11 #[.val (.int p0), .val (.int p1), .val (.int p2), .val (.int p3), .val (.int p4), .val (.int p5), .val (.int (1 : Int32)), .unset, .unset, .unset, .unset] [(.int (p5 &&& (3 : Int32))), (.int (1 : Int32))]))
    refine own_via (fun t k => XS.iadd X0.here hx rfl (hb hby at_11) rfl k) ?_
    show own_G p e below _ (s₁.setTop (mkF m 12 #[.val (.int p0), .val (.int p1), .val (.int p2), .val (.int p3), .val (.int p4), .val (.int p5), .val (.int (1 : Int32)), .unset, .unset, .unset, .unset] [(.int ((1 : Int32) + (p5 &&& (3 : Int32))))]))
    generalize hvg29 : ((1 : Int32) + (p5 &&& (3 : Int32))) = vg29
    show own_G p e below _ (s₁.setTop (mkF m 12 #[.val (.int p0), .val (.int p1), .val (.int p2), .val (.int p3), .val (.int p4), .val (.int p5), .val (.int (1 : Int32)), .unset, .unset, .unset, .unset] [(.int vg29)]))
    refine own_via (fun t k => XS.istore X0.here hx rfl (hb hby at_12) rfl (l' := #[.val (.int p0), .val (.int p1), .val (.int p2), .val (.int p3), .val (.int p4), .val (.int p5), .val (.int (1 : Int32)), .val (.int vg29), .unset, .unset, .unset]) rfl k) ?_
    show own_G p e below _ (s₁.setTop (mkF m 14 #[.val (.int p0), .val (.int p1), .val (.int p2), .val (.int p3), .val (.int p4), .val (.int p5), .val (.int (1 : Int32)), .val (.int vg29), .unset, .unset, .unset] []))
    refine own_via (fun t k => XS.iload X0.here hx rfl (hb hby at_14) rfl k) ?_
    show own_G p e below _ (s₁.setTop (mkF m 16 #[.val (.int p0), .val (.int p1), .val (.int p2), .val (.int p3), .val (.int p4), .val (.int p5), .val (.int (1 : Int32)), .val (.int vg29), .unset, .unset, .unset] [(.int (1 : Int32))]))
    refine own_via (fun t k => XS.iload X0.here hx rfl (hb hby at_16) rfl k) ?_
    show own_G p e below _ (s₁.setTop (mkF m 18 #[.val (.int p0), .val (.int p1), .val (.int p2), .val (.int p3), .val (.int p4), .val (.int p5), .val (.int (1 : Int32)), .val (.int vg29), .unset, .unset, .unset] [(.int vg29), (.int (1 : Int32))]))
    refine own_via (fun t k => XS.iadd X0.here hx rfl (hb hby at_18) rfl k) ?_
    show own_G p e below _ (s₁.setTop (mkF m 19 #[.val (.int p0), .val (.int p1), .val (.int p2), .val (.int p3), .val (.int p4), .val (.int p5), .val (.int (1 : Int32)), .val (.int vg29), .unset, .unset, .unset] [(.int ((1 : Int32) + vg29))]))
    generalize hvg30 : ((1 : Int32) + vg29) = vg30
    show own_G p e below _ (s₁.setTop (mkF m 19 #[.val (.int p0), .val (.int p1), .val (.int p2), .val (.int p3), .val (.int p4), .val (.int p5), .val (.int (1 : Int32)), .val (.int vg29), .unset, .unset, .unset] [(.int vg30)]))
    refine own_via (fun t k => XS.istore X0.here hx rfl (hb hby at_19) rfl (l' := #[.val (.int p0), .val (.int p1), .val (.int p2), .val (.int p3), .val (.int p4), .val (.int p5), .val (.int (1 : Int32)), .val (.int vg29), .val (.int vg30), .unset, .unset]) rfl k) ?_
    show own_G p e below _ (s₁.setTop (mkF m 21 #[.val (.int p0), .val (.int p1), .val (.int p2), .val (.int p3), .val (.int p4), .val (.int p5), .val (.int (1 : Int32)), .val (.int vg29), .val (.int vg30), .unset, .unset] []))
    refine own_via (fun t k => XS.bipush X0.here hx rfl (hb hby at_21) k) ?_
    show own_G p e below _ (s₁.setTop (mkF m 23 #[.val (.int p0), .val (.int p1), .val (.int p2), .val (.int p3), .val (.int p4), .val (.int p5), .val (.int (1 : Int32)), .val (.int vg29), .val (.int vg30), .unset, .unset] [(.int (6 : Int32))]))
    obtain ⟨T31, h31, k31, b31, X31, e31, E31, ga31, V31, Ex31, st31⟩ := own_newA X0 hx hZ (hw _ (List.mem_of_getElem? (i := 0) rfl)) e0 (pc := 23) (Ls := #[.val (.int p0), .val (.int p1), .val (.int p2), .val (.int p3), .val (.int p4), .val (.int p5), .val (.int (1 : Int32)), .val (.int vg29), .val (.int vg30), .unset, .unset]) (rest := []) (hb hby at_23) (n := (6 : Int32)) (by decide) (cap := 6) (by decide) (by decide) (by decide) (by decide) 6 rfl
    refine own_via st31 ?_
    have f32 : Arv Z h31 b31 k31 .byte (6 : Int32) [(.int (0 : Int32)), (.int (0 : Int32)), (.int (0 : Int32)), (.int (0 : Int32)), (.int (0 : Int32)), (.int (0 : Int32))] (.int (0 : Int32)) := V31
    have g_b31 : n0 ≤ b31 := Nat.le_trans Z0 (Nat.le_of_eq ga31.symm)
    have Zs33 : n0 ≤ h31.size := Nat.le_trans Z0 E31.1
    show own_G p e below _ (T31.setTop (mkF m 25 #[.val (.int p0), .val (.int p1), .val (.int p2), .val (.int p3), .val (.int p4), .val (.int p5), .val (.int (1 : Int32)), .val (.int vg29), .val (.int vg30), .unset, .unset] [(.ref b31)]))
    refine own_via (fun t k => XS.astore X31.here hx rfl (hb hby at_25) rfl rfl (l' := #[.val (.int p0), .val (.int p1), .val (.int p2), .val (.int p3), .val (.int p4), .val (.int p5), .val (.int (1 : Int32)), .val (.int vg29), .val (.int vg30), .val (.ref b31), .unset]) rfl k) ?_
    show own_G p e below _ (T31.setTop (mkF m 27 #[.val (.int p0), .val (.int p1), .val (.int p2), .val (.int p3), .val (.int p4), .val (.int p5), .val (.int (1 : Int32)), .val (.int vg29), .val (.int vg30), .val (.ref b31), .unset] []))
    refine own_via (fun t k => XS.aload X31.here hx rfl (hb hby at_27) rfl rfl k) ?_
    show own_G p e below _ (T31.setTop (mkF m 29 #[.val (.int p0), .val (.int p1), .val (.int p2), .val (.int p3), .val (.int p4), .val (.int p5), .val (.int (1 : Int32)), .val (.int vg29), .val (.int vg30), .val (.ref b31), .unset] [(.ref b31)]))
    refine own_via (fun t k => XS.iconst X31.here hx rfl (hb hby at_29) k) ?_
    show own_G p e below _ (T31.setTop (mkF m 30 #[.val (.int p0), .val (.int p1), .val (.int p2), .val (.int p3), .val (.int p4), .val (.int p5), .val (.int (1 : Int32)), .val (.int vg29), .val (.int vg30), .val (.ref b31), .unset] [(.int (0 : Int32)), (.ref b31)]))
    refine own_via (fun t k => XS.bipush X31.here hx rfl (hb hby at_30) k) ?_
    show own_G p e below _ (T31.setTop (mkF m 32 #[.val (.int p0), .val (.int p1), .val (.int p2), .val (.int p3), .val (.int p4), .val (.int p5), .val (.int (1 : Int32)), .val (.int vg29), .val (.int vg30), .val (.ref b31), .unset] [(.int (-128 : Int32)), (.int (0 : Int32)), (.ref b31)]))
    obtain ⟨T34, h34, L34, X34, N34, e34, W34, V34, st34⟩ := own_stB X31 N0 hx hZ e31 f32 g_b31 (j := (0 : Int32)) (x := (-128 : Int32)) (i := 0) ⟨by decide, by decide⟩ rfl (Nat.le_of_ble_eq_true rfl) (pc := 32) (Ls := #[.val (.int p0), .val (.int p1), .val (.int p2), .val (.int p3), .val (.int p4), .val (.int p5), .val (.int (1 : Int32)), .val (.int vg29), .val (.int vg30), .val (.ref b31), .unset]) (rest := []) (hb hby at_32)
    refine own_via st34 ?_
    have f35 : Arv Z h34 b31 k31 .byte (6 : Int32) [(.int (-128 : Int32)), (.int (0 : Int32)), (.int (0 : Int32)), (.int (0 : Int32)), (.int (0 : Int32)), (.int (0 : Int32))] (.int (0 : Int32)) := V34
    have Zs36 : n0 ≤ h34.size := by rw [W34.size]; exact Zs33
    show own_G p e below _ (T34.setTop (mkF m 33 #[.val (.int p0), .val (.int p1), .val (.int p2), .val (.int p3), .val (.int p4), .val (.int p5), .val (.int (1 : Int32)), .val (.int vg29), .val (.int vg30), .val (.ref b31), .unset] []))
    refine own_via (fun t k => XS.aload X34.here hx rfl (hb hby at_33) rfl rfl k) ?_
    show own_G p e below _ (T34.setTop (mkF m 35 #[.val (.int p0), .val (.int p1), .val (.int p2), .val (.int p3), .val (.int p4), .val (.int p5), .val (.int (1 : Int32)), .val (.int vg29), .val (.int vg30), .val (.ref b31), .unset] [(.ref b31)]))
    refine own_via (fun t k => XS.iconst X34.here hx rfl (hb hby at_35) k) ?_
    show own_G p e below _ (T34.setTop (mkF m 36 #[.val (.int p0), .val (.int p1), .val (.int p2), .val (.int p3), .val (.int p4), .val (.int p5), .val (.int (1 : Int32)), .val (.int vg29), .val (.int vg30), .val (.ref b31), .unset] [(.int (5 : Int32)), (.ref b31)]))
    refine own_via (fun t k => XS.bipush X34.here hx rfl (hb hby at_36) k) ?_
    show own_G p e below _ (T34.setTop (mkF m 38 #[.val (.int p0), .val (.int p1), .val (.int p2), .val (.int p3), .val (.int p4), .val (.int p5), .val (.int (1 : Int32)), .val (.int vg29), .val (.int vg30), .val (.ref b31), .unset] [(.int (-128 : Int32)), (.int (5 : Int32)), (.ref b31)]))
    obtain ⟨T37, h37, L37, X37, N37, e37, W37, V37, st37⟩ := own_stB X34 N34 hx hZ e34 f35 g_b31 (j := (5 : Int32)) (x := (-128 : Int32)) (i := 5) ⟨by decide, by decide⟩ rfl (Nat.le_of_ble_eq_true rfl) (pc := 38) (Ls := #[.val (.int p0), .val (.int p1), .val (.int p2), .val (.int p3), .val (.int p4), .val (.int p5), .val (.int (1 : Int32)), .val (.int vg29), .val (.int vg30), .val (.ref b31), .unset]) (rest := []) (hb hby at_38)
    refine own_via st37 ?_
    have f38 : Arv Z h37 b31 k31 .byte (6 : Int32) [(.int (-128 : Int32)), (.int (0 : Int32)), (.int (0 : Int32)), (.int (0 : Int32)), (.int (0 : Int32)), (.int (-128 : Int32))] (.int (0 : Int32)) := V37
    have Zs39 : n0 ≤ h37.size := by rw [W37.size]; exact Zs36
    show own_G p e below _ (T37.setTop (mkF m 39 #[.val (.int p0), .val (.int p1), .val (.int p2), .val (.int p3), .val (.int p4), .val (.int p5), .val (.int (1 : Int32)), .val (.int vg29), .val (.int vg30), .val (.ref b31), .unset] []))
    refine own_via (fun t k => XS.aload X37.here hx rfl (hb hby at_39) rfl rfl k) ?_
    show own_G p e below _ (T37.setTop (mkF m 41 #[.val (.int p0), .val (.int p1), .val (.int p2), .val (.int p3), .val (.int p4), .val (.int p5), .val (.int (1 : Int32)), .val (.int vg29), .val (.int vg30), .val (.ref b31), .unset] [(.ref b31)]))
    refine own_via (fun t k => XS.iload X37.here hx rfl (hb hby at_41) rfl k) ?_
    show own_G p e below _ (T37.setTop (mkF m 43 #[.val (.int p0), .val (.int p1), .val (.int p2), .val (.int p3), .val (.int p4), .val (.int p5), .val (.int (1 : Int32)), .val (.int vg29), .val (.int vg30), .val (.ref b31), .unset] [(.int (1 : Int32)), (.ref b31)]))
    refine own_via (fun t k => XS.iloadN X37.here hx rfl (hb hby at_43) rfl k) ?_
    show own_G p e below _ (T37.setTop (mkF m 44 #[.val (.int p0), .val (.int p1), .val (.int p2), .val (.int p3), .val (.int p4), .val (.int p5), .val (.int (1 : Int32)), .val (.int vg29), .val (.int vg30), .val (.ref b31), .unset] [(.int p0), (.int (1 : Int32)), (.ref b31)]))
    refine own_via (fun t k => XS.i2b X37.here hx rfl (hb hby at_44) rfl k) ?_
    show own_G p e below _ (T37.setTop (mkF m 45 #[.val (.int p0), .val (.int p1), .val (.int p2), .val (.int p3), .val (.int p4), .val (.int p5), .val (.int (1 : Int32)), .val (.int vg29), .val (.int vg30), .val (.ref b31), .unset] [(.int (p0.toInt8.toInt32)), (.int (1 : Int32)), (.ref b31)]))
    obtain ⟨T40, h40, L40, X40, N40, e40, W40, V40, st40⟩ := own_stB X37 N37 hx hZ e37 f38 g_b31 (j := (1 : Int32)) (x := (p0.toInt8.toInt32)) (i := 1) ⟨by decide, by decide⟩ rfl (Nat.le_of_ble_eq_true rfl) (pc := 45) (Ls := #[.val (.int p0), .val (.int p1), .val (.int p2), .val (.int p3), .val (.int p4), .val (.int p5), .val (.int (1 : Int32)), .val (.int vg29), .val (.int vg30), .val (.ref b31), .unset]) (rest := []) (hb hby at_45)
    refine own_via st40 ?_
    have f41 : Arv Z h40 b31 k31 .byte (6 : Int32) [(.int (-128 : Int32)), (.int ((p0.toInt8.toInt32).toInt8.toInt32)), (.int (0 : Int32)), (.int (0 : Int32)), (.int (0 : Int32)), (.int (-128 : Int32))] (.int (0 : Int32)) := V40
    have Zs42 : n0 ≤ h40.size := by rw [W40.size]; exact Zs39
    show own_G p e below _ (T40.setTop (mkF m 46 #[.val (.int p0), .val (.int p1), .val (.int p2), .val (.int p3), .val (.int p4), .val (.int p5), .val (.int (1 : Int32)), .val (.int vg29), .val (.int vg30), .val (.ref b31), .unset] []))
    refine own_via (fun t k => XS.aload X40.here hx rfl (hb hby at_46) rfl rfl k) ?_
    show own_G p e below _ (T40.setTop (mkF m 48 #[.val (.int p0), .val (.int p1), .val (.int p2), .val (.int p3), .val (.int p4), .val (.int p5), .val (.int (1 : Int32)), .val (.int vg29), .val (.int vg30), .val (.ref b31), .unset] [(.ref b31)]))
    refine own_via (fun t k => XS.iload X40.here hx rfl (hb hby at_48) rfl k) ?_
    show own_G p e below _ (T40.setTop (mkF m 50 #[.val (.int p0), .val (.int p1), .val (.int p2), .val (.int p3), .val (.int p4), .val (.int p5), .val (.int (1 : Int32)), .val (.int vg29), .val (.int vg30), .val (.ref b31), .unset] [(.int (1 : Int32)), (.ref b31)]))
    refine own_via (fun t k => XS.iconst X40.here hx rfl (hb hby at_50) k) ?_
    show own_G p e below _ (T40.setTop (mkF m 51 #[.val (.int p0), .val (.int p1), .val (.int p2), .val (.int p3), .val (.int p4), .val (.int p5), .val (.int (1 : Int32)), .val (.int vg29), .val (.int vg30), .val (.ref b31), .unset] [(.int (1 : Int32)), (.int (1 : Int32)), (.ref b31)]))
    refine own_via (fun t k => XS.iadd X40.here hx rfl (hb hby at_51) rfl k) ?_
    show own_G p e below _ (T40.setTop (mkF m 52 #[.val (.int p0), .val (.int p1), .val (.int p2), .val (.int p3), .val (.int p4), .val (.int p5), .val (.int (1 : Int32)), .val (.int vg29), .val (.int vg30), .val (.ref b31), .unset] [(.int (2 : Int32)), (.ref b31)]))
    refine own_via (fun t k => XS.iloadN X40.here hx rfl (hb hby at_52) rfl k) ?_
    show own_G p e below _ (T40.setTop (mkF m 53 #[.val (.int p0), .val (.int p1), .val (.int p2), .val (.int p3), .val (.int p4), .val (.int p5), .val (.int (1 : Int32)), .val (.int vg29), .val (.int vg30), .val (.ref b31), .unset] [(.int p1), (.int (2 : Int32)), (.ref b31)]))
    refine own_via (fun t k => XS.i2b X40.here hx rfl (hb hby at_53) rfl k) ?_
    show own_G p e below _ (T40.setTop (mkF m 54 #[.val (.int p0), .val (.int p1), .val (.int p2), .val (.int p3), .val (.int p4), .val (.int p5), .val (.int (1 : Int32)), .val (.int vg29), .val (.int vg30), .val (.ref b31), .unset] [(.int (p1.toInt8.toInt32)), (.int (2 : Int32)), (.ref b31)]))
    obtain ⟨T43, h43, L43, X43, N43, e43, W43, V43, st43⟩ := own_stB X40 N40 hx hZ e40 f41 g_b31 (j := (2 : Int32)) (x := (p1.toInt8.toInt32)) (i := 2) ⟨by decide, by decide⟩ rfl (Nat.le_of_ble_eq_true rfl) (pc := 54) (Ls := #[.val (.int p0), .val (.int p1), .val (.int p2), .val (.int p3), .val (.int p4), .val (.int p5), .val (.int (1 : Int32)), .val (.int vg29), .val (.int vg30), .val (.ref b31), .unset]) (rest := []) (hb hby at_54)
    refine own_via st43 ?_
    have f44 : Arv Z h43 b31 k31 .byte (6 : Int32) [(.int (-128 : Int32)), (.int ((p0.toInt8.toInt32).toInt8.toInt32)), (.int ((p1.toInt8.toInt32).toInt8.toInt32)), (.int (0 : Int32)), (.int (0 : Int32)), (.int (-128 : Int32))] (.int (0 : Int32)) := V43
    have Zs45 : n0 ≤ h43.size := by rw [W43.size]; exact Zs42
    show own_G p e below _ (T43.setTop (mkF m 55 #[.val (.int p0), .val (.int p1), .val (.int p2), .val (.int p3), .val (.int p4), .val (.int p5), .val (.int (1 : Int32)), .val (.int vg29), .val (.int vg30), .val (.ref b31), .unset] []))
    refine own_via (fun t k => XS.aload X43.here hx rfl (hb hby at_55) rfl rfl k) ?_
    show own_G p e below _ (T43.setTop (mkF m 57 #[.val (.int p0), .val (.int p1), .val (.int p2), .val (.int p3), .val (.int p4), .val (.int p5), .val (.int (1 : Int32)), .val (.int vg29), .val (.int vg30), .val (.ref b31), .unset] [(.ref b31)]))
    refine own_via (fun t k => XS.iload X43.here hx rfl (hb hby at_57) rfl k) ?_
    show own_G p e below _ (T43.setTop (mkF m 59 #[.val (.int p0), .val (.int p1), .val (.int p2), .val (.int p3), .val (.int p4), .val (.int p5), .val (.int (1 : Int32)), .val (.int vg29), .val (.int vg30), .val (.ref b31), .unset] [(.int (1 : Int32)), (.ref b31)]))
    refine own_via (fun t k => XS.iconst X43.here hx rfl (hb hby at_59) k) ?_
    show own_G p e below _ (T43.setTop (mkF m 60 #[.val (.int p0), .val (.int p1), .val (.int p2), .val (.int p3), .val (.int p4), .val (.int p5), .val (.int (1 : Int32)), .val (.int vg29), .val (.int vg30), .val (.ref b31), .unset] [(.int (2 : Int32)), (.int (1 : Int32)), (.ref b31)]))
    refine own_via (fun t k => XS.iadd X43.here hx rfl (hb hby at_60) rfl k) ?_
    show own_G p e below _ (T43.setTop (mkF m 61 #[.val (.int p0), .val (.int p1), .val (.int p2), .val (.int p3), .val (.int p4), .val (.int p5), .val (.int (1 : Int32)), .val (.int vg29), .val (.int vg30), .val (.ref b31), .unset] [(.int (3 : Int32)), (.ref b31)]))
    refine own_via (fun t k => XS.iloadN X43.here hx rfl (hb hby at_61) rfl k) ?_
    show own_G p e below _ (T43.setTop (mkF m 62 #[.val (.int p0), .val (.int p1), .val (.int p2), .val (.int p3), .val (.int p4), .val (.int p5), .val (.int (1 : Int32)), .val (.int vg29), .val (.int vg30), .val (.ref b31), .unset] [(.int p2), (.int (3 : Int32)), (.ref b31)]))
    refine own_via (fun t k => XS.i2b X43.here hx rfl (hb hby at_62) rfl k) ?_
    show own_G p e below _ (T43.setTop (mkF m 63 #[.val (.int p0), .val (.int p1), .val (.int p2), .val (.int p3), .val (.int p4), .val (.int p5), .val (.int (1 : Int32)), .val (.int vg29), .val (.int vg30), .val (.ref b31), .unset] [(.int (p2.toInt8.toInt32)), (.int (3 : Int32)), (.ref b31)]))
    obtain ⟨T46, h46, L46, X46, N46, e46, W46, V46, st46⟩ := own_stB X43 N43 hx hZ e43 f44 g_b31 (j := (3 : Int32)) (x := (p2.toInt8.toInt32)) (i := 3) ⟨by decide, by decide⟩ rfl (Nat.le_of_ble_eq_true rfl) (pc := 63) (Ls := #[.val (.int p0), .val (.int p1), .val (.int p2), .val (.int p3), .val (.int p4), .val (.int p5), .val (.int (1 : Int32)), .val (.int vg29), .val (.int vg30), .val (.ref b31), .unset]) (rest := []) (hb hby at_63)
    refine own_via st46 ?_
    have f47 : Arv Z h46 b31 k31 .byte (6 : Int32) [(.int (-128 : Int32)), (.int ((p0.toInt8.toInt32).toInt8.toInt32)), (.int ((p1.toInt8.toInt32).toInt8.toInt32)), (.int ((p2.toInt8.toInt32).toInt8.toInt32)), (.int (0 : Int32)), (.int (-128 : Int32))] (.int (0 : Int32)) := V46
    have Zs48 : n0 ≤ h46.size := by rw [W46.size]; exact Zs45
    show own_G p e below _ (T46.setTop (mkF m 64 #[.val (.int p0), .val (.int p1), .val (.int p2), .val (.int p3), .val (.int p4), .val (.int p5), .val (.int (1 : Int32)), .val (.int vg29), .val (.int vg30), .val (.ref b31), .unset] []))
    refine own_via (fun t k => XS.aload X46.here hx rfl (hb hby at_64) rfl rfl k) ?_
    show own_G p e below _ (T46.setTop (mkF m 66 #[.val (.int p0), .val (.int p1), .val (.int p2), .val (.int p3), .val (.int p4), .val (.int p5), .val (.int (1 : Int32)), .val (.int vg29), .val (.int vg30), .val (.ref b31), .unset] [(.ref b31)]))
    refine own_via (fun t k => XS.iload X46.here hx rfl (hb hby at_66) rfl k) ?_
    show own_G p e below _ (T46.setTop (mkF m 68 #[.val (.int p0), .val (.int p1), .val (.int p2), .val (.int p3), .val (.int p4), .val (.int p5), .val (.int (1 : Int32)), .val (.int vg29), .val (.int vg30), .val (.ref b31), .unset] [(.int (1 : Int32)), (.ref b31)]))
    refine own_via (fun t k => XS.iconst X46.here hx rfl (hb hby at_68) k) ?_
    show own_G p e below _ (T46.setTop (mkF m 69 #[.val (.int p0), .val (.int p1), .val (.int p2), .val (.int p3), .val (.int p4), .val (.int p5), .val (.int (1 : Int32)), .val (.int vg29), .val (.int vg30), .val (.ref b31), .unset] [(.int (3 : Int32)), (.int (1 : Int32)), (.ref b31)]))
    refine own_via (fun t k => XS.iadd X46.here hx rfl (hb hby at_69) rfl k) ?_
    show own_G p e below _ (T46.setTop (mkF m 70 #[.val (.int p0), .val (.int p1), .val (.int p2), .val (.int p3), .val (.int p4), .val (.int p5), .val (.int (1 : Int32)), .val (.int vg29), .val (.int vg30), .val (.ref b31), .unset] [(.int (4 : Int32)), (.ref b31)]))
    refine own_via (fun t k => XS.iloadN X46.here hx rfl (hb hby at_70) rfl k) ?_
    show own_G p e below _ (T46.setTop (mkF m 71 #[.val (.int p0), .val (.int p1), .val (.int p2), .val (.int p3), .val (.int p4), .val (.int p5), .val (.int (1 : Int32)), .val (.int vg29), .val (.int vg30), .val (.ref b31), .unset] [(.int p3), (.int (4 : Int32)), (.ref b31)]))
    refine own_via (fun t k => XS.i2b X46.here hx rfl (hb hby at_71) rfl k) ?_
    show own_G p e below _ (T46.setTop (mkF m 72 #[.val (.int p0), .val (.int p1), .val (.int p2), .val (.int p3), .val (.int p4), .val (.int p5), .val (.int (1 : Int32)), .val (.int vg29), .val (.int vg30), .val (.ref b31), .unset] [(.int (p3.toInt8.toInt32)), (.int (4 : Int32)), (.ref b31)]))
    obtain ⟨T49, h49, L49, X49, N49, e49, W49, V49, st49⟩ := own_stB X46 N46 hx hZ e46 f47 g_b31 (j := (4 : Int32)) (x := (p3.toInt8.toInt32)) (i := 4) ⟨by decide, by decide⟩ rfl (Nat.le_of_ble_eq_true rfl) (pc := 72) (Ls := #[.val (.int p0), .val (.int p1), .val (.int p2), .val (.int p3), .val (.int p4), .val (.int p5), .val (.int (1 : Int32)), .val (.int vg29), .val (.int vg30), .val (.ref b31), .unset]) (rest := []) (hb hby at_72)
    refine own_via st49 ?_
    have f50 : Arv Z h49 b31 k31 .byte (6 : Int32) [(.int (-128 : Int32)), (.int ((p0.toInt8.toInt32).toInt8.toInt32)), (.int ((p1.toInt8.toInt32).toInt8.toInt32)), (.int ((p2.toInt8.toInt32).toInt8.toInt32)), (.int ((p3.toInt8.toInt32).toInt8.toInt32)), (.int (-128 : Int32))] (.int (0 : Int32)) := V49
    have Zs51 : n0 ≤ h49.size := by rw [W49.size]; exact Zs48
    show own_G p e below _ (T49.setTop (mkF m 73 #[.val (.int p0), .val (.int p1), .val (.int p2), .val (.int p3), .val (.int p4), .val (.int p5), .val (.int (1 : Int32)), .val (.int vg29), .val (.int vg30), .val (.ref b31), .unset] []))
    refine own_via (fun t k => XS.aload X49.here hx rfl (hb hby at_73) rfl rfl k) ?_
    show own_G p e below _ (T49.setTop (mkF m 75 #[.val (.int p0), .val (.int p1), .val (.int p2), .val (.int p3), .val (.int p4), .val (.int p5), .val (.int (1 : Int32)), .val (.int vg29), .val (.int vg30), .val (.ref b31), .unset] [(.ref b31)]))
    refine own_via (fun t k => XS.iload X49.here hx rfl (hb hby at_75) rfl k) ?_
    show own_G p e below _ (T49.setTop (mkF m 77 #[.val (.int p0), .val (.int p1), .val (.int p2), .val (.int p3), .val (.int p4), .val (.int p5), .val (.int (1 : Int32)), .val (.int vg29), .val (.int vg30), .val (.ref b31), .unset] [(.int (1 : Int32)), (.ref b31)]))
    refine own_via (fun t k => XS.iload X49.here hx rfl (hb hby at_77) rfl k) ?_
    show own_G p e below _ (T49.setTop (mkF m 79 #[.val (.int p0), .val (.int p1), .val (.int p2), .val (.int p3), .val (.int p4), .val (.int p5), .val (.int (1 : Int32)), .val (.int vg29), .val (.int vg30), .val (.ref b31), .unset] [(.int vg30), (.int (1 : Int32)), (.ref b31)]))
    obtain ⟨T52, X52, e52, st52⟩ := own_callP (y := (⟨"com/example/bowerbird/bowerbird/Utf8", "sequenceLength", "([BII)I"⟩ : MethodName)) (W := 0) X49 hx hZ hown (hw _ (List.mem_of_getElem? (i := 1) rfl)) (hw _ (List.mem_of_getElem? (i := 2) rfl)) (hw _ (List.mem_of_getElem? (i := 3) rfl)) (hw _ (List.mem_of_getElem? (i := 4) rfl)) (by decide) (own_seq1 l Z a0 hw [] b31 vg30 k31 (-128 : Int32) ((p0.toInt8.toInt32).toInt8.toInt32) ((p1.toInt8.toInt32).toInt8.toInt32) ((p2.toInt8.toInt32).toInt8.toInt32) ((p3.toInt8.toInt32).toInt8.toInt32) (-128 : Int32) h49 f50) (by decide) (by decide) rfl rfl (by decide) (by decide) e49 (pc := 79) (Ls := #[.val (.int p0), .val (.int p1), .val (.int p2), .val (.int p3), .val (.int p4), .val (.int p5), .val (.int (1 : Int32)), .val (.int vg29), .val (.int vg30), .val (.ref b31), .unset]) (st := [(.int vg30), (.int (1 : Int32)), (.ref b31)]) (argsL := [(.ref b31), (.int (1 : Int32)), (.int vg30)]) (rest := []) (by rw [hml]; rfl) (lenOf own_pd0 rfl) rfl rfl (Nat.le_of_eq rfl) (hb hby at_79)
    refine own_via st52 ?_
    show own_G p e below _ (T52.setTop (mkF m 82 #[.val (.int p0), .val (.int p1), .val (.int p2), .val (.int p3), .val (.int p4), .val (.int p5), .val (.int (1 : Int32)), .val (.int vg29), .val (.int vg30), .val (.ref b31), .unset] [(.int (own_Fs1 ((p0.toInt8.toInt32).toInt8.toInt32) ((p1.toInt8.toInt32).toInt8.toInt32) ((p2.toInt8.toInt32).toInt8.toInt32) ((p3.toInt8.toInt32).toInt8.toInt32) vg30))]))
    generalize hvg53 : (own_Fs1 ((p0.toInt8.toInt32).toInt8.toInt32) ((p1.toInt8.toInt32).toInt8.toInt32) ((p2.toInt8.toInt32).toInt8.toInt32) ((p3.toInt8.toInt32).toInt8.toInt32) vg30) = vg53
    show own_G p e below _ (T52.setTop (mkF m 82 #[.val (.int p0), .val (.int p1), .val (.int p2), .val (.int p3), .val (.int p4), .val (.int p5), .val (.int (1 : Int32)), .val (.int vg29), .val (.int vg30), .val (.ref b31), .unset] [(.int vg53)]))
    refine own_via (fun t k => XS.istore X52.here hx rfl (hb hby at_82) rfl (l' := #[.val (.int p0), .val (.int p1), .val (.int p2), .val (.int p3), .val (.int p4), .val (.int p5), .val (.int (1 : Int32)), .val (.int vg29), .val (.int vg30), .val (.ref b31), .val (.int vg53)]) rfl k) ?_
    show own_G p e below _ (T52.setTop (mkF m 84 #[.val (.int p0), .val (.int p1), .val (.int p2), .val (.int p3), .val (.int p4), .val (.int p5), .val (.int (1 : Int32)), .val (.int vg29), .val (.int vg30), .val (.ref b31), .val (.int vg53)] []))
    refine own_via (fun t k => XS.iload X52.here hx rfl (hb hby at_84) rfl k) ?_
    show own_G p e below _ (T52.setTop (mkF m 86 #[.val (.int p0), .val (.int p1), .val (.int p2), .val (.int p3), .val (.int p4), .val (.int p5), .val (.int (1 : Int32)), .val (.int vg29), .val (.int vg30), .val (.ref b31), .val (.int vg53)] [(.int vg53)]))
    refine own_via (fun t k => XS.iloadN X52.here hx rfl (hb hby at_86) rfl k) ?_
    show own_G p e below _ (T52.setTop (mkF m 87 #[.val (.int p0), .val (.int p1), .val (.int p2), .val (.int p3), .val (.int p4), .val (.int p5), .val (.int (1 : Int32)), .val (.int vg29), .val (.int vg30), .val (.ref b31), .val (.int vg53)] [(.int p0), (.int vg53)]))
    refine own_via (fun t k => XS.sipush X52.here hx rfl (hb hby at_87) k) ?_
    show own_G p e below _ (T52.setTop (mkF m 90 #[.val (.int p0), .val (.int p1), .val (.int p2), .val (.int p3), .val (.int p4), .val (.int p5), .val (.int (1 : Int32)), .val (.int vg29), .val (.int vg30), .val (.ref b31), .val (.int vg53)] [(.int (255 : Int32)), (.int p0), (.int vg53)]))
    refine own_via (fun t k => XS.iand X52.here hx rfl (hb hby at_90) rfl k) ?_
    show own_G p e below _ (T52.setTop (mkF m 91 #[.val (.int p0), .val (.int p1), .val (.int p2), .val (.int p3), .val (.int p4), .val (.int p5), .val (.int (1 : Int32)), .val (.int vg29), .val (.int vg30), .val (.ref b31), .val (.int vg53)] [(.int (p0 &&& (255 : Int32))), (.int vg53)]))
    refine own_via (fun t k => XS.iloadN X52.here hx rfl (hb hby at_91) rfl k) ?_
    show own_G p e below _ (T52.setTop (mkF m 92 #[.val (.int p0), .val (.int p1), .val (.int p2), .val (.int p3), .val (.int p4), .val (.int p5), .val (.int (1 : Int32)), .val (.int vg29), .val (.int vg30), .val (.ref b31), .val (.int vg53)] [(.int p1), (.int (p0 &&& (255 : Int32))), (.int vg53)]))
    refine own_via (fun t k => XS.sipush X52.here hx rfl (hb hby at_92) k) ?_
    show own_G p e below _ (T52.setTop (mkF m 95 #[.val (.int p0), .val (.int p1), .val (.int p2), .val (.int p3), .val (.int p4), .val (.int p5), .val (.int (1 : Int32)), .val (.int vg29), .val (.int vg30), .val (.ref b31), .val (.int vg53)] [(.int (255 : Int32)), (.int p1), (.int (p0 &&& (255 : Int32))), (.int vg53)]))
    refine own_via (fun t k => XS.iand X52.here hx rfl (hb hby at_95) rfl k) ?_
    show own_G p e below _ (T52.setTop (mkF m 96 #[.val (.int p0), .val (.int p1), .val (.int p2), .val (.int p3), .val (.int p4), .val (.int p5), .val (.int (1 : Int32)), .val (.int vg29), .val (.int vg30), .val (.ref b31), .val (.int vg53)] [(.int (p1 &&& (255 : Int32))), (.int (p0 &&& (255 : Int32))), (.int vg53)]))
    refine own_via (fun t k => XS.iloadN X52.here hx rfl (hb hby at_96) rfl k) ?_
    show own_G p e below _ (T52.setTop (mkF m 97 #[.val (.int p0), .val (.int p1), .val (.int p2), .val (.int p3), .val (.int p4), .val (.int p5), .val (.int (1 : Int32)), .val (.int vg29), .val (.int vg30), .val (.ref b31), .val (.int vg53)] [(.int p2), (.int (p1 &&& (255 : Int32))), (.int (p0 &&& (255 : Int32))), (.int vg53)]))
    refine own_via (fun t k => XS.sipush X52.here hx rfl (hb hby at_97) k) ?_
    show own_G p e below _ (T52.setTop (mkF m 100 #[.val (.int p0), .val (.int p1), .val (.int p2), .val (.int p3), .val (.int p4), .val (.int p5), .val (.int (1 : Int32)), .val (.int vg29), .val (.int vg30), .val (.ref b31), .val (.int vg53)] [(.int (255 : Int32)), (.int p2), (.int (p1 &&& (255 : Int32))), (.int (p0 &&& (255 : Int32))), (.int vg53)]))
    refine own_via (fun t k => XS.iand X52.here hx rfl (hb hby at_100) rfl k) ?_
    show own_G p e below _ (T52.setTop (mkF m 101 #[.val (.int p0), .val (.int p1), .val (.int p2), .val (.int p3), .val (.int p4), .val (.int p5), .val (.int (1 : Int32)), .val (.int vg29), .val (.int vg30), .val (.ref b31), .val (.int vg53)] [(.int (p2 &&& (255 : Int32))), (.int (p1 &&& (255 : Int32))), (.int (p0 &&& (255 : Int32))), (.int vg53)]))
    refine own_via (fun t k => XS.iloadN X52.here hx rfl (hb hby at_101) rfl k) ?_
    show own_G p e below _ (T52.setTop (mkF m 102 #[.val (.int p0), .val (.int p1), .val (.int p2), .val (.int p3), .val (.int p4), .val (.int p5), .val (.int (1 : Int32)), .val (.int vg29), .val (.int vg30), .val (.ref b31), .val (.int vg53)] [(.int p3), (.int (p2 &&& (255 : Int32))), (.int (p1 &&& (255 : Int32))), (.int (p0 &&& (255 : Int32))), (.int vg53)]))
    refine own_via (fun t k => XS.sipush X52.here hx rfl (hb hby at_102) k) ?_
    show own_G p e below _ (T52.setTop (mkF m 105 #[.val (.int p0), .val (.int p1), .val (.int p2), .val (.int p3), .val (.int p4), .val (.int p5), .val (.int (1 : Int32)), .val (.int vg29), .val (.int vg30), .val (.ref b31), .val (.int vg53)] [(.int (255 : Int32)), (.int p3), (.int (p2 &&& (255 : Int32))), (.int (p1 &&& (255 : Int32))), (.int (p0 &&& (255 : Int32))), (.int vg53)]))
    refine own_via (fun t k => XS.iand X52.here hx rfl (hb hby at_105) rfl k) ?_
    show own_G p e below _ (T52.setTop (mkF m 106 #[.val (.int p0), .val (.int p1), .val (.int p2), .val (.int p3), .val (.int p4), .val (.int p5), .val (.int (1 : Int32)), .val (.int vg29), .val (.int vg30), .val (.ref b31), .val (.int vg53)] [(.int (p3 &&& (255 : Int32))), (.int (p2 &&& (255 : Int32))), (.int (p1 &&& (255 : Int32))), (.int (p0 &&& (255 : Int32))), (.int vg53)]))
    refine own_via (fun t k => XS.iload X52.here hx rfl (hb hby at_106) rfl k) ?_
    show own_G p e below _ (T52.setTop (mkF m 108 #[.val (.int p0), .val (.int p1), .val (.int p2), .val (.int p3), .val (.int p4), .val (.int p5), .val (.int (1 : Int32)), .val (.int vg29), .val (.int vg30), .val (.ref b31), .val (.int vg53)] [(.int vg29), (.int (p3 &&& (255 : Int32))), (.int (p2 &&& (255 : Int32))), (.int (p1 &&& (255 : Int32))), (.int (p0 &&& (255 : Int32))), (.int vg53)]))
    obtain ⟨T54, X54, e54, st54⟩ := own_callP (y := (⟨"com/example/bowerbird/bowerbird/Utf8SequenceLengthPinLaw", "expected", "(IIIII)I"⟩ : MethodName)) (W := 1) X52 hx hZ hown (hw _ (List.mem_of_getElem? (i := 5) rfl)) (hw _ (List.mem_of_getElem? (i := 6) rfl)) (hw _ (List.mem_of_getElem? (i := 7) rfl)) (hw _ (List.mem_of_getElem? (i := 8) rfl)) (by decide) (own_rm2 l Z a0 hw [] (p0 &&& (255 : Int32)) (p1 &&& (255 : Int32)) (p2 &&& (255 : Int32)) (p3 &&& (255 : Int32)) vg29 h49) (by decide) (by decide) rfl rfl (by decide) (by decide) e52 (pc := 108) (Ls := #[.val (.int p0), .val (.int p1), .val (.int p2), .val (.int p3), .val (.int p4), .val (.int p5), .val (.int (1 : Int32)), .val (.int vg29), .val (.int vg30), .val (.ref b31), .val (.int vg53)]) (st := [(.int vg29), (.int (p3 &&& (255 : Int32))), (.int (p2 &&& (255 : Int32))), (.int (p1 &&& (255 : Int32))), (.int (p0 &&& (255 : Int32))), (.int vg53)]) (argsL := [(.int (p0 &&& (255 : Int32))), (.int (p1 &&& (255 : Int32))), (.int (p2 &&& (255 : Int32))), (.int (p3 &&& (255 : Int32))), (.int vg29)]) (rest := [(.int vg53)]) (by rw [hml]; rfl) (lenOf own_pd1 rfl) rfl rfl (Nat.le_of_eq rfl) (hb hby at_108)
    refine own_via st54 ?_
    show own_G p e below _ (T54.setTop (mkF m 111 #[.val (.int p0), .val (.int p1), .val (.int p2), .val (.int p3), .val (.int p4), .val (.int p5), .val (.int (1 : Int32)), .val (.int vg29), .val (.int vg30), .val (.ref b31), .val (.int vg53)] [(.int (own_F2 (p0 &&& (255 : Int32)) (p1 &&& (255 : Int32)) (p2 &&& (255 : Int32)) (p3 &&& (255 : Int32)) vg29)), (.int vg53)]))
    refine own_via (fun t k => XS.icmpNo X54.here hx rfl (hb hby at_111) rfl (teq (by subst hvg53; subst hvg30; subst hvg29; exact own_eq1 p0 p1 p2 p3 _)).2 k) ?_
    show own_G p e below _ (T54.setTop (mkF m 114 #[.val (.int p0), .val (.int p1), .val (.int p2), .val (.int p3), .val (.int p4), .val (.int p5), .val (.int (1 : Int32)), .val (.int vg29), .val (.int vg30), .val (.ref b31), .val (.int vg53)] []))
    refine own_via (fun t k => XS.iconst X54.here hx rfl (hb hby at_114) k) ?_
    show own_G p e below _ (T54.setTop (mkF m 115 #[.val (.int p0), .val (.int p1), .val (.int p2), .val (.int p3), .val (.int p4), .val (.int p5), .val (.int (1 : Int32)), .val (.int vg29), .val (.int vg30), .val (.ref b31), .val (.int vg53)] [(.int (1 : Int32))]))
    refine own_via (fun t k => XS.goto X54.here hx rfl (pc0 := 115) (pc' := 119) rfl (hb hby at_115) (by decide) (by decide) k) ?_
    show own_G p e below _ (T54.setTop (mkF m 119 #[.val (.int p0), .val (.int p1), .val (.int p2), .val (.int p3), .val (.int p4), .val (.int p5), .val (.int (1 : Int32)), .val (.int vg29), .val (.int vg30), .val (.ref b31), .val (.int vg53)] [(.int (1 : Int32))]))
    exact own_retN (t := .boolean) X54 hx Bd.returns (by simp) Bd.notSynchronized (hb hby at_119) ⟨N49, rfl⟩ (by decide) (by decide)
set_option maxRecDepth 65536 in
set_option maxHeartbeats 40000000 in
theorem comes_1 {Post : Tables → Env → Array Value → State → Outcome → State → Prop} (hpost : ∀ tb e args s v u, (limb_1_1.after args s (.returned v) u = true ∧ limb_1_2.after args s (.returned v) u = true) → FrameEnd s (.returned v) u (Jvm.fieldLocs frame_1_writes args s ++ Jvm.arrayLocs frame_1_arrays args s ++ Jvm.staticLocs frame_1_statics s) 16 128 → Post tb e args s (.returned v) u) :
    ArmFor flags0 classFile x code maxLocals ret World_1 tables_1 room_1 Calls_1 rest_1 Pre_1 Post := by
  intro l hfl _ _ p e ha hc hk s m args below hf hA hF happ hP
  obtain ⟨hcalls, hrest, hpre⟩ := hP
  obtain ⟨-, -, -, hnamed, -, -, -, hat⟩ := (Spec.applies_iff hf).mp happ
  obtain ⟨hg, hn⟩ := and_e (Cond.before_iff.mp (show (Jvm.Cond.and given_1 narrow_1).before args s = true from hpre))
  obtain ⟨g1, g2⟩ := and_e hg
  obtain ⟨g3, g4⟩ := and_e g2
  obtain ⟨g5, g6⟩ := and_e g4
  obtain ⟨g7, g8⟩ := and_e g6
  obtain ⟨g9, g10⟩ := and_e g8
  obtain ⟨g11, g12⟩ := and_e g10
  obtain ⟨w0, w1, w2, w3, w4, w5, rfl⟩ : ∃ w0 w1 w2 w3 w4 w5 : Value, args = #[w0, w1, w2, w3, w4, w5] := by
    have hs : args.size = 6 := by simpa [Cond.value, given_1] using g1
    obtain ⟨L⟩ := args
    match L, hs with
    | [w0, w1, w2, w3, w4, w5], _ => exact ⟨w0, w1, w2, w3, w4, w5, rfl⟩
  have hw := fun d (hd : d ∈ tables_1) => atoms_spec (ws := Jvm.Cond.code x code maxLocals ret :: tables_1) hat d (List.mem_cons_of_mem _ hd)
  obtain ⟨i0, ei0⟩ := is_v g3
  obtain rfl : w0 = (.int i0) := Option.some.inj ei0
  obtain ⟨i1, ei1⟩ := is_v g5
  obtain rfl : w1 = (.int i1) := Option.some.inj ei1
  obtain ⟨i2, ei2⟩ := is_v g7
  obtain rfl : w2 = (.int i2) := Option.some.inj ei2
  obtain ⟨i3, ei3⟩ := is_v g9
  obtain rfl : w3 = (.int i3) := Option.some.inj ei3
  obtain ⟨i4, ei4⟩ := is_v g11
  obtain rfl : w4 = (.int i4) := Option.some.inj ei4
  obtain ⟨i5, ei5⟩ := is_v g12
  obtain rfl : w5 = (.int i5) := Option.some.inj ei5
  obtain ⟨n, o, h1, h2, h3, _, L, rfl, ⟨N, rfl⟩, hq⟩ := own_rm0 l s _ hw tables_1 i0 i1 i2 i3 i4 i5 s.heap s.heap.size (Nat.le_refl _)  p e ha hc hk s m _ below hf ((Spec.applies_iff_loose hf).mp happ).1 ⟨rfl, State.Warmed39.refl s, rfl⟩ trivial
  refine ⟨n, _, h1, h2, h3, hpost _ _ _ _ _ _ ⟨Cond.after_iff.mpr rfl, Cond.after_iff.mpr (eq_i res_at (Term.int_eval (1)) rfl)⟩ ⟨hq.1, hq.2.1, (hq.2.2.sift fun y hy => Or.inr (N y hy)).mono (by decide) (by decide)⟩⟩
theorem main_1_1 : Claimed_1_1 := comes_1 fun _ _ _ _ _ _ h hF => ⟨h.1, hF⟩
theorem main_1_2 : Claimed_1_2 := comes_1 fun _ _ _ _ _ _ h hF => ⟨h.2, hF⟩
end Jvm.Pilot.@@N@@
namespace Jvm.Pilot.@@N@@
open Jvm Jvm.ClassFile Sem Op Lib Jvm.Free Jvm.Stand Jvm.Pilot.@@N@@.Jvm.D
/-! MADE BY PROGRAM (witnessworld.py) out of the Statement's table words and the real class files: 9 classes; the members and pool entries that the words name. The judged class is class 1, her method 1. -/
namespace start1
open Jvm.ClassFile
def u (s : String) : CpInfo := .utf8 (stringToUtf16 s)
/-- a pool by its gaps: so many unusable entries, then the entry; so many at the end -/
def gap : Nat → List CpInfo → List CpInfo
  | 0, r => r
  | n + 1, r => .unusable :: gap n r
def poolList (es : List (Nat × CpInfo)) (last : Nat) : List CpInfo := es.foldr (fun e r => gap e.1 (e.2 :: r)) (gap last [])
def pool (es : List (Nat × CpInfo)) (last : Nat) : Array CpInfo := ⟨poolList es last⟩
def fileOf (pool : Array CpInfo) (this : Nat) (attrs : Array Attribute := #[]) (ms : Array MethodInfo := #[]) (fl : Nat := 33) (sup : Nat := 0) (ifs : Array Nat := #[]) (fds : Array FieldInfo := #[]) : ClassFile where
  minorVersion := 0
  majorVersion := 65
  constantPool := pool
  accessFlags := fl
  thisClass := this
  superClass := sup
  interfaces := ifs
  fields := fds
  methods := ms
  attributes := attrs
def plain (name : String) (sup : Option ClassId) : Class where
  name := name
  kind := .ordinary
  loader := none
  accessFlags := 33
  super := sup
  interfaces := #[]
  cf := none
  fields := #[]
  methods := #[]
  instanceTypes := #[]
  staticTypes := #[]
  resolved := #[]
  callSites := []
  init := .initialized
  statics := none
  mirror := none

def pool0 : Array CpInfo := pool [(5, u "<init>"), (0, u "()V"), (1, .class_ 10), (1, u "java/lang/Object")] 113

def k0m0 : Method := { name := "<init>", desc := "()V", sig := { parameters := [], returnType := none }, accessFlags := 1, code := none }
/-- java/lang/Object -/
def k0 : Class := { plain "java/lang/Object" none with
  accessFlags := 33
  interfaces := #[]
  cf := some (fileOf pool0 8 #[] #[{ accessFlags := 1, nameIndex := 5, descriptorIndex := 6, attributes := #[] }] 33 0 #[] #[])
  fields := #[]
  methods := #[k0m0]
  instanceTypes := #[]
  staticTypes := #[]
  resolved := Array.replicate 124 none
  statics := none }

def pool1 : Array CpInfo := pool [(2, .class_ 4), (1, u "java/lang/Object"), (0, u "<init>"), (0, u "()V"), (0, .methodref 8 9), (0, .class_ 10), (0, .nameAndType 11 12), (0, u "com/example/bowerbird/bowerbird/Utf8"), (0, u "sequenceLength"), (0, u "([BII)I"), (0, .methodref 14 15), (0, .class_ 16), (0, .nameAndType 17 18), (0, u "com/example/bowerbird/bowerbird/Utf8SequenceLengthPinLaw"), (0, u "expected"), (0, u "(IIIII)I"), (0, .integer 55296), (0, .integer 57343), (0, .integer 65536), (0, .integer 1114111), (2, u "law"), (0, u "(IIIIII)Z")] 5

def k1m0 : Method := { name := "<init>", desc := "()V", sig := { parameters := [], returnType := none }, accessFlags := 1, code := none }
def k1c1 : Code := { maxStack := 6, maxLocals := 11, code := code, exceptionTable := #[], attributes := #[] }
def k1m1 : Method := { name := "law", desc := "(IIIIII)Z", sig := { parameters := [.int, .int, .int, .int, .int, .int], returnType := some .boolean }, accessFlags := 9, code := some k1c1 }
def k1c2 : Code := { maxStack := 3, maxLocals := 7, code := method_3_code, exceptionTable := #[], attributes := #[] }
def k1m2 : Method := { name := "expected", desc := "(IIIII)I", sig := { parameters := [.int, .int, .int, .int, .int], returnType := some .int }, accessFlags := 10, code := some k1c2 }
/-- com/example/bowerbird/bowerbird/Utf8SequenceLengthPinLaw -/
def k1 : Class := { plain "com/example/bowerbird/bowerbird/Utf8SequenceLengthPinLaw" (some 0) with
  accessFlags := 49
  interfaces := #[]
  cf := some (fileOf pool1 14 #[] #[{ accessFlags := 1, nameIndex := 5, descriptorIndex := 6, attributes := #[] }, { accessFlags := 9, nameIndex := 25, descriptorIndex := 26, attributes := #[] }, { accessFlags := 10, nameIndex := 17, descriptorIndex := 18, attributes := #[] }] 49 2 #[] #[])
  fields := #[]
  methods := #[k1m0, k1m1, k1m2]
  instanceTypes := #[]
  staticTypes := #[]
  resolved := Array.replicate 32 none
  statics := none }

def pool2 : Array CpInfo := pool [(2, .class_ 4), (1, u "java/lang/Object"), (0, u "<init>"), (0, u "()V"), (1, .class_ 10), (1, u "com/example/bowerbird/bowerbird/Utf8"), (0, u "sequenceLength"), (0, u "([BII)I")] 34

def k2m0 : Method := { name := "<init>", desc := "()V", sig := { parameters := [], returnType := none }, accessFlags := 2, code := none }
def k2c1 : Code := { maxStack := 3, maxLocals := 9, code := prog_43_method_5_code, exceptionTable := #[], attributes := #[] }
def k2m1 : Method := { name := "sequenceLength", desc := "([BII)I", sig := { parameters := [(.array .byte), .int, .int], returnType := some .int }, accessFlags := 8, code := some k2c1 }
/-- com/example/bowerbird/bowerbird/Utf8 -/
def k2 : Class := { plain "com/example/bowerbird/bowerbird/Utf8" (some 0) with
  accessFlags := 32
  interfaces := #[]
  cf := some (fileOf pool2 8 #[] #[{ accessFlags := 2, nameIndex := 5, descriptorIndex := 6, attributes := #[] }, { accessFlags := 8, nameIndex := 11, descriptorIndex := 12, attributes := #[] }] 32 2 #[] #[])
  fields := #[]
  methods := #[k2m0, k2m1]
  instanceTypes := #[]
  staticTypes := #[]
  resolved := Array.replicate 47 none
  statics := none }

def pool3 : Array CpInfo := pool [(1, u "java/lang/Cloneable"), (0, .class_ 1), (0, u "java/lang/Object"), (0, .class_ 3)] 3

/-- java/lang/Cloneable -/
def k3 : Class := { plain "java/lang/Cloneable" (some 0) with
  accessFlags := 1537
  interfaces := #[]
  cf := some (fileOf pool3 2 #[] #[] 1537 4 #[] #[])
  fields := #[]
  methods := #[]
  instanceTypes := #[]
  staticTypes := #[]
  resolved := Array.replicate 8 none
  statics := none }

def pool4 : Array CpInfo := pool [(1, u "java/io/Serializable"), (0, .class_ 1), (0, u "java/lang/Object"), (0, .class_ 3)] 3

/-- java/io/Serializable -/
def k4 : Class := { plain "java/io/Serializable" (some 0) with
  accessFlags := 1537
  interfaces := #[]
  cf := some (fileOf pool4 2 #[] #[] 1537 4 #[] #[])
  fields := #[]
  methods := #[]
  instanceTypes := #[]
  staticTypes := #[]
  resolved := Array.replicate 8 none
  statics := none }

/-- the primitive byte -/
def k5 : Class := { plain "byte" none with kind := .primitive 'B', accessFlags := 0x411 }
/-- [B -/
def k6 : Class := { plain "[B" (some 0) with kind := .array 5 .byte, interfaces := #[3, 4], accessFlags := 1041 }

/-- the primitive int -/
def k7 : Class := { plain "int" none with kind := .primitive 'I', accessFlags := 0x411 }
/-- [I -/
def k8 : Class := { plain "[I" (some 0) with kind := .array 7 .int, interfaces := #[3, 4], accessFlags := 1041 }

def heap : Heap := #[]
def classes : Array Class := #[k0, k1, k2, k3, k4, k5, k6, k7, k8]
def interned : List (Array UInt16 × Addr) := []
def slotsUsed : Nat := 0
def theMethod : MethodId := ⟨1, 1⟩
def args0 : Array Value := #[.int 5, .int 300, .int 7, .int 2, .int 5, .int 300]
def aboutOver (below : List Frame) : State where
  vm := { classes := classes, interned := interned.toArray }
  heap := heap
  slotsUsed := slotsUsed
  threads := #[{ frames := .invoking theMethod args0 :: below }]
def below0 : List Frame := [.native { method := ⟨0, 0⟩, args := #[] }]
def about1 : State := aboutOver below0
def p0 : Program := .bare "" "" ""
def e0 : Env := launch0.env 0 0 0
theorem w_frames : about1.frames = Frame.invoking theMethod args0 :: below0 := rfl
set_option maxRecDepth 65536 in
theorem w_args : argsFit about1.vm theMethod args0 = true := by decide +kernel
set_option maxRecDepth 65536 in
theorem w_heap : heapFits about1 = true := by decide +kernel
set_option maxRecDepth 65536 in
theorem w_runnable : about1.curStatus? = some .runnable := by decide +kernel
set_option maxRecDepth 65536 in
theorem w_alone : about1.alone = true := by decide +kernel
set_option maxRecDepth 65536 in
theorem w_named : about1.methodNamed? x = some theMethod := by decide +kernel
set_option maxRecDepth 65536 in
theorem w_hears : about1.hears theMethod below0 = true := by decide +kernel
set_option maxRecDepth 65536 in
theorem w_ripe : about1.ripe theMethod args0 below0 = true := by decide +kernel
theorem w_running : about1.status = .running := rfl
set_option maxRecDepth 65536 in
theorem w_room : about1.hasRoom e0.platform room_1 = true :=
  launch0.hasRoom_least _ room_1 (by decide +kernel) (by decide +kernel) (by decide +kernel) (by decide +kernel) (by decide +kernel) (by decide +kernel)
theorem allAtoms_all (ts : List Jvm.Cond) (a : Array Jvm.Value) (st : Jvm.State) : (allAtoms ts).before a st = ts.all (fun c => c.before a st) := by
  induction ts with
  | nil => rfl
  | cons c t ih =>
    show (Jvm.Cond.and c (allAtoms t)).before a st = _
    rw [Jvm.Cond.before_and, ih, List.all_cons]
def words1 : List Jvm.Cond := Jvm.Cond.code x code maxLocals ret :: tables_1
/-- a 'code' word, met by the world's own term for the bytes: nothing is compared byte by byte -/
theorem code_word {y : MethodName} {bytes : ByteArray} {mx : Nat} {rt : Option FieldType} {a : Array Value} {s : State} {m : MethodId} {meth : Method} {c : Code} (h1 : s.methodNamed? y = some m) (h2 : s.vm.method? m = some meth) (h3 : meth.code = some c) (h4 : c.code = bytes)
    (h5 : (c.maxLocals == mx && c.exceptionTable.isEmpty && decide (c.maxStack ≤ mostOperands) && decide (meth.sig.returnType = rt) && !meth.locks && decide (parseMethodDescriptor y.desc = some meth.sig)) = true) : (Jvm.Cond.code y bytes mx rt).before a s = true := by
  simp only [Bool.and_eq_true, beq_iff_eq, Bool.not_eq_true', decide_eq_true_eq] at h5
  obtain ⟨⟨⟨⟨⟨g1, g2⟩, g3⟩, g4⟩, g5⟩, g6⟩ := h5
  simp [Cond.before, Cond.holds, Cond.value, h1, h2, h3, h4, g1, g2, g3, g4, g5, g6]
def isCode : Jvm.Cond → Bool
  | .code _ _ _ _ => true
  | _ => false
theorem all_split {L : List Jvm.Cond} {P : Jvm.Cond → Bool} (h1 : L.all (fun c => isCode c || P c) = true) (h2 : ∀ c ∈ L.filter isCode, P c = true) : L.all P = true := by
  refine List.all_eq_true.mpr fun c hc => ?_
  have h := List.all_eq_true.mp h1 c hc
  rcases Bool.eq_false_or_eq_true (isCode c) with hi | hi
  · exact h2 c (List.mem_filter.mpr ⟨hc, hi⟩)
  · simpa [hi] using h
set_option maxRecDepth 65536 in
theorem w_c0 : (Jvm.Cond.code x code maxLocals ret).before args0 about1 = true := code_word (m := ⟨1, 1⟩) (meth := k1m1) (c := k1c1) (by decide +kernel) rfl rfl rfl (by decide +kernel)
set_option maxRecDepth 65536 in
theorem w_c1 : (Jvm.Cond.code ({ cls := "com/example/bowerbird/bowerbird/Utf8", name := "sequenceLength", desc := "([BII)I" } : Jvm.MethodName) prog_43_method_5_code (9 : Nat) (Option.some Jvm.ClassFile.FieldType.int)).before args0 about1 = true := code_word (m := ⟨2, 1⟩) (meth := k2m1) (c := k2c1) (by decide +kernel) rfl rfl rfl (by decide +kernel)
set_option maxRecDepth 65536 in
theorem w_c2 : (Jvm.Cond.code ({ cls := "com/example/bowerbird/bowerbird/Utf8SequenceLengthPinLaw", name := "expected", desc := "(IIIII)I" } : Jvm.MethodName) method_3_code (7 : Nat) (Option.some Jvm.ClassFile.FieldType.int)).before args0 about1 = true := code_word (m := ⟨1, 2⟩) (meth := k1m2) (c := k1c2) (by decide +kernel) rfl rfl rfl (by decide +kernel)
def codes1 : List Jvm.Cond := [Jvm.Cond.code x code maxLocals ret, Jvm.Cond.code ({ cls := "com/example/bowerbird/bowerbird/Utf8", name := "sequenceLength", desc := "([BII)I" } : Jvm.MethodName) prog_43_method_5_code (9 : Nat) (Option.some Jvm.ClassFile.FieldType.int), Jvm.Cond.code ({ cls := "com/example/bowerbird/bowerbird/Utf8SequenceLengthPinLaw", name := "expected", desc := "(IIIII)I" } : Jvm.MethodName) method_3_code (7 : Nat) (Option.some Jvm.ClassFile.FieldType.int)]
set_option maxRecDepth 65536 in
theorem codes_eq : words1.filter isCode = codes1 := rfl
theorem w_codes : ∀ c ∈ words1.filter isCode, c.before args0 about1 = true := by
  rw [codes_eq]
  intro c hc
  simp only [codes1, List.mem_cons, List.not_mem_nil, or_false] at hc
  rcases hc with rfl | rfl | rfl
  · exact w_c0
  · exact w_c1
  · exact w_c2
set_option maxRecDepth 65536 in
theorem w_t1 : words1.all (fun c => isCode c || c.before args0 about1) = true := by decide +kernel
theorem w_tables : (allAtoms (Jvm.Cond.code x code maxLocals ret :: tables_1)).before args0 about1 = true := by
  rw [allAtoms_all]
  show words1.all (fun c => c.before args0 about1) = true
  refine all_split ?_ w_codes
  rw [w_t1]
set_option maxRecDepth 65536 in
theorem w_case : (Jvm.Cond.and given_1 narrow_1).before args0 about1 = true := by decide +kernel
theorem w_applies : (headSpec (Jvm.Cond.code x code maxLocals ret :: tables_1) room_1).applies x e0.platform about1 = true :=
  (Spec.applies_iff w_frames).mpr ⟨w_running, w_runnable, w_alone, w_named, w_hears, w_ripe, w_room, w_tables⟩
theorem atStart : AtStart classFile x code maxLocals ret World_1 tables_1 room_1 Calls_1 rest_1 Pre_1 launch0 p0 e0 about1 theMethod args0 below0 :=
  ⟨lists_1, trivial, launch0.admits_env _ _ _, launch0.least_env, fairChoices_fair.cas, fairChoices_fair.clock, w_frames, w_args, w_heap, w_applies, trivial, trivial, w_case⟩
end start1
theorem witness_1 : WitnessClaimed_1 := ⟨start1.p0, start1.e0, start1.about1, start1.theMethod, start1.args0, start1.below0, start1.atStart⟩
end Jvm.Pilot.@@N@@
