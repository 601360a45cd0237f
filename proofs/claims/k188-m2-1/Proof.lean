import JvmDerived
import JvmDerived.Pilot.@@N@@Statement
import JvmDerived.Pilot.@@N@@Code
set_option linter.unusedVariables false
set_option linter.unusedSimpArgs false
set_option maxRecDepth 65536
set_option maxHeartbeats 20000000
namespace Jvm.Pilot.@@N@@
open Jvm Jvm.ClassFile Sem Op Lib Jvm.Free Jvm.Stand Jvm.LawKit Jvm.RoadKit Bundle Jvm.Pilot.@@N@@.Jvm.D
section OwnKit
variable {p : Program} {l : Launch} {e : Env} {R : Room} {s : State} {m : MethodId} {args : Array Value} {below : List Frame} {meth : Method} {c : Code} {T : State} {locs : List Loc} {cells slots : Nat} {Z : State} {a0 : Array Value} {h0 : Heap}
/-- from this state the run comes to the end of the invocation, and there P holds -/
def own_G (p : Program) (e : Env) (below : List Frame) (P : Outcome → State → Prop) (st : State) : Prop :=
  ∃ (u : State) (o : Outcome), Steps p.tables e below st u ∧ u.status = .running ∧ Ended u below o ∧ P o u
theorem own_via {P : Outcome → State → Prop} {st st' : State} (k : ∀ t, Steps p.tables e below st' t → Steps p.tables e below st t) (h : own_G p e below P st') : own_G p e below P st := by
  obtain ⟨u, o, h1, h2⟩ := h
  exact ⟨u, o, k _ h1, h2⟩
/-- what a contract says of the end -/
def own_P (s : State) (Q : Option Value → Heap → List Loc → Prop) (k n : Nat) : Outcome → State → Prop := fun o u => ∃ v L, o = .returned v ∧ Q v u.heap L ∧ FrameEnd s o u L k n
/-- it returns w and leaves the heap as it was -/
def own_Q (w : Value) (h0 : Heap) : Option Value → Heap → List Loc → Prop := fun v h L => v = some w ∧ L = [] ∧ h = h0
/-- a contract -/
def own_C (l : Launch) (Z : State) (y : MethodName) (bytes : ByteArray) (maxL : Nat) (ret : Option FieldType) (ws : List Jvm.Cond) (rm : Room) (as : Array Value) (h0 : Heap) (Q : Option Value → Heap → List Loc → Prop) : Prop :=
  MetFree l y (head1 (Jvm.Cond.code y bytes maxL ret :: ws) rm) (fun a U => a = as ∧ Z.Warmed39 U.vm ∧ U.heap = h0) (fun _ _ _ _ _ => True) (fun _ U o U' => ∃ v L, o = .returned v ∧ Q v U'.heap L ∧ FrameEnd U o U' L rm.cells rm.slots)
theorem own_ret {v : Option Value} {Q : Option Value → Heap → List Loc → Prop} {k n : Nat} {st : State} (X : Stand p l e R s m args below meth c T locs cells slots) (hv : meth.sig.returnType = none → v = none) (hlocks : meth.locks = false)
    (hst : ∀ fs, (∀ (f : JFrame) (acts : List Action), f.method = m → f.locked = none → f.entered = [] → (doReturn e (T.setTop f) acts v).1 = T.setFrames fs) → Steps p.tables e below st (T.setFrames fs))
    (hQ : Q v T.heap locs) (hk : cells ≤ k) (hn : slots ≤ n) : own_G p e below (own_P s Q k n) st := by
  obtain ⟨fs, hr, hrun, hended, hW, hsame⟩ := X.leave (v := v) hv hlocks
  exact ⟨_, _, hst fs hr, hrun, hended, _, _, rfl, hQ, ⟨_, rfl⟩, hW, hsame.mono hk hn⟩
theorem own_retI {Q : Option Value → Heap → List Loc → Prop} {k n : Nat} (X : Stand p l e R s m args below meth c T locs cells slots) (hx : p.tables.exec = Jvm.exec) {pc : Nat} {Ls : Array Slot} {z : Int32} {rest : List Value} (hret : meth.sig.returnType = some .int) (hlocks : meth.locks = false) (hd : decode c.code pc = .ok (.ireturn, 1))
    (hQ : Q (some (.int z)) T.heap locs) (hk : cells ≤ k) (hn : slots ≤ n) : own_G p e below (own_P s Q k n) (T.setTop (mkF m pc Ls (.int z :: rest))) := by
  refine own_ret X (fun h => by rw [hret] at h; cases h) hlocks (fun fs hr => ?_) hQ hk hn
  have hm' : T.vm.method? m = some meth := X.method'
  have hn : narrow .int (.int z) = .int z := rfl
  show Steps p.tables e below (T.setTop { method := m, pc := pc, locals := Ls, stack := _ :: rest, locked := none }) _
  jvm_step X.here [X.here.top, hx, hd, hm', hret, hn]
  first | (intro acts; rw [hr _ acts rfl rfl rfl]) | rw [hr _ _ rfl rfl rfl]
  exact Steps.refl _
theorem own_retN {Q : Option Value → Heap → List Loc → Prop} {k n : Nat} {t : FieldType} (X : Stand p l e R s m args below meth c T locs cells slots) (hx : p.tables.exec = Jvm.exec) {pc : Nat} {Ls : Array Slot} {z : Int32} {rest : List Value} (hret : meth.sig.returnType = some t) (ht : t = .boolean ∨ t = .byte ∨ t = .char ∨ t = .short) (hlocks : meth.locks = false) (hd : decode c.code pc = .ok (.ireturn, 1))
    (hQ : Q (some (.int (nar t z))) T.heap locs) (hk : cells ≤ k) (hn : slots ≤ n) : own_G p e below (own_P s Q k n) (T.setTop (mkF m pc Ls (.int z :: rest))) :=
  own_ret X (fun h => by rw [hret] at h; cases h) hlocks (fun fs hr => retN X hx hret ht hd hr) hQ hk hn
theorem own_retL {Q : Option Value → Heap → List Loc → Prop} {k n : Nat} (X : Stand p l e R s m args below meth c T locs cells slots) (hx : p.tables.exec = Jvm.exec) {pc : Nat} {Ls : Array Slot} {z : Int64} (hret : meth.sig.returnType = some .long) (hlocks : meth.locks = false) (hd : decode c.code pc = .ok (.lreturn, 1))
    (hQ : Q (some (.long z)) T.heap locs) (hk : cells ≤ k) (hn : slots ≤ n) : own_G p e below (own_P s Q k n) (T.setTop (mkF m pc Ls [.long z])) :=
  own_ret X (fun h => by rw [hret] at h; cases h) hlocks (fun fs hr => X.lreturnOut hx hret hd hr) hQ hk hn
theorem own_retV {Q : Option Value → Heap → List Loc → Prop} {k n : Nat} (X : Stand p l e R s m args below meth c T locs cells slots) (hx : p.tables.exec = Jvm.exec) {pc : Nat} {Ls : Array Slot} (hret : meth.sig.returnType = none) (hlocks : meth.locks = false) (hd : decode c.code pc = .ok (.return_, 1))
    (hQ : Q none T.heap locs) (hk : cells ≤ k) (hn : slots ≤ n) : own_G p e below (own_P s Q k n) (T.setTop (mkF m pc Ls [])) :=
  own_ret X (fun _ => rfl) hlocks (fun fs hr => X.returnOut hx hret hd hr) hQ hk hn
theorem own_retA {Q : Option Value → Heap → List Loc → Prop} {k n : Nat} {t : FieldType} {v : Value} (X : Stand p l e R s m args below meth c T locs cells slots) (hx : p.tables.exec = Jvm.exec) {pc : Nat} {Ls : Array Slot} {rest : List Value} (hret : meth.sig.returnType = some t) (ht : t.isReference = true) (hv : v.isRef = true) (hlocks : meth.locks = false) (hd : decode c.code pc = .ok (.areturn, 1))
    (hQ : Q (some v) T.heap locs) (hk : cells ≤ k) (hn : slots ≤ n) : own_G p e below (own_P s Q k n) (T.setTop (mkF m pc Ls (v :: rest))) := by
  refine own_ret X (fun h => by rw [hret] at h; cases h) hlocks (fun fs hr => ?_) hQ hk hn
  have hm' : T.vm.method? m = some meth := X.method'
  show Steps p.tables e below (T.setTop { method := m, pc := pc, locals := Ls, stack := _ :: rest, locked := none }) _
  jvm_step X.here [X.here.top, hx, hd, hm', hret, ht, hv]
  first | (intro acts; rw [hr _ acts rfl rfl rfl]) | rw [hr _ _ rfl rfl rfl]
  exact Steps.refl _
/-- a static method by its contract -/
theorem own_callS {own : String} {index : Nat} {y : MethodName} {bytes : ByteArray} {maxL W : Nat} {ret : Option FieldType} {rm : Room} {as : Array Value} {Q : Option Value → Heap → List Loc → Prop}
    (X : Stand p l e R s m args below meth c T locs cells slots) (hx : p.tables.exec = Jvm.exec) (hZ : Z.Warmed39 s.vm) (hown : s.vm.findClass own = some m.cls)
    (w1 : (Jvm.Cond.methodLink own index y).before a0 Z = true) (w2 : (Jvm.Cond.static y).before a0 Z = true) (w3 : (Jvm.Cond.initialized y.cls).before a0 Z = true) (w4 : (Jvm.Cond.code y bytes maxL ret).before a0 Z = true)
    (hy : y.cls ≠ "java/lang/invoke/MethodHandle" ∧ y.cls ≠ "java/lang/invoke/VarHandle") (hM : own_C l Z y bytes maxL ret [] rm as h0 Q)
    (hf : rm.frames + 1 ≤ R.frames) (hl : W + (maxL + 11) + rm.locals ≤ R.locals) (hcc : cells + rm.cells ≤ R.cells) (hss : slots + rm.slots ≤ R.slots) (e0 : T.heap = h0)
    {pc : Nat} {Ls : Array Slot} {st argsL rest : List Value} (hsize : Ls.size = c.maxLocals) (hlen : ∀ sig, parseMethodDescriptor y.desc = some sig → argsL.length = sig.parameters.length) (has : argsL.toArray = as)
    (hst : st = argsL.reverse ++ rest) (hW : 2 * 0 + (rest.map fun v => v.category).sum ≤ W) (hd : decode c.code pc = .ok (.invokestatic index, 3)) :
    ∃ (v : Option Value) (T' : State) (L : List Loc), Stand p l e R s m args below meth c T' (locs ++ L) (cells + rm.cells) (slots + rm.slots) ∧ Q v T'.heap L ∧
      ∀ target, Steps p.tables e below (T'.setTop (mkF m (pc + 3) Ls (v.toList ++ rest))) target → Steps p.tables e below (T.setTop (mkF m pc Ls st)) target := by
  obtain ⟨v, _, ⟨T', L', k', n'⟩, -, X', ⟨Lc, hQ, h1, h2, h3⟩, stp⟩ := Jvm.LawKit.callS X hx (y := y) hown (mvT hZ w1) (mvT hZ w2) (mvT hZ w3) (mvT hZ w4) hy
    (backOf (W := W) hM hZ w4 w3 hf hl) (g := mkF m pc Ls st) rfl hsize (argsL := argsL) (rest := rest) hlen hst hW hd (fun _ _ => ⟨has, e0, hcc, hss⟩)
  dsimp only [Pt.U, Pt.locs, Pt.cells, Pt.slots] at X' h1 h2 h3 stp hQ
  subst h1 h2 h3
  exact ⟨v, T', Lc, X', hQ, stp⟩
/-- a static method that leaves the heap as it was -/
theorem own_callP {own : String} {index : Nat} {y : MethodName} {bytes : ByteArray} {maxL W : Nat} {ret : Option FieldType} {rm : Room} {as : Array Value} {w : Value}
    (X : Stand p l e R s m args below meth c T locs cells slots) (hx : p.tables.exec = Jvm.exec) (hZ : Z.Warmed39 s.vm) (hown : s.vm.findClass own = some m.cls)
    (w1 : (Jvm.Cond.methodLink own index y).before a0 Z = true) (w2 : (Jvm.Cond.static y).before a0 Z = true) (w3 : (Jvm.Cond.initialized y.cls).before a0 Z = true) (w4 : (Jvm.Cond.code y bytes maxL ret).before a0 Z = true)
    (hy : y.cls ≠ "java/lang/invoke/MethodHandle" ∧ y.cls ≠ "java/lang/invoke/VarHandle") (hM : own_C l Z y bytes maxL ret [] rm as h0 (own_Q w h0))
    (hf : rm.frames + 1 ≤ R.frames) (hl : W + (maxL + 11) + rm.locals ≤ R.locals) (hrc : rm.cells = 0) (hrs : rm.slots = 0) (hcc : cells + rm.cells ≤ R.cells) (hss : slots + rm.slots ≤ R.slots) (e0 : T.heap = h0)
    {pc : Nat} {Ls : Array Slot} {st argsL rest : List Value} (hsize : Ls.size = c.maxLocals) (hlen : ∀ sig, parseMethodDescriptor y.desc = some sig → argsL.length = sig.parameters.length) (has : argsL.toArray = as)
    (hst : st = argsL.reverse ++ rest) (hW : 2 * 0 + (rest.map fun v => v.category).sum ≤ W) (hd : decode c.code pc = .ok (.invokestatic index, 3)) :
    ∃ (T' : State), Stand p l e R s m args below meth c T' locs cells slots ∧ T'.heap = h0 ∧
      ∀ target, Steps p.tables e below (T'.setTop (mkF m (pc + 3) Ls (w :: rest))) target → Steps p.tables e below (T.setTop (mkF m pc Ls st)) target := by
  obtain ⟨v, T', L, X', ⟨rfl, rfl, hh⟩, stp⟩ := own_callS X hx hZ hown w1 w2 w3 w4 hy hM hf hl hcc hss e0 hsize hlen has hst hW hd
  rw [List.append_nil, hrc, hrs] at X'
  exact ⟨T', X', hh, stp⟩
theorem own_b1 {x a : Int32} (h : x < a) : x.toInt ≤ a.toInt - 1 := by rw [Int32.lt_iff_toInt_lt] at h; omega
theorem own_b2 {x a : Int32} (h : ¬ x < a) : a.toInt ≤ x.toInt := by rw [Int32.lt_iff_toInt_lt] at h; omega
theorem own_b3 {x a : Int32} (h : a < x) : a.toInt + 1 ≤ x.toInt := by rw [Int32.lt_iff_toInt_lt] at h; omega
theorem own_b4 {x a : Int32} (h : ¬ a < x) : x.toInt ≤ a.toInt := by rw [Int32.lt_iff_toInt_lt] at h; omega
theorem own_b5 {x b : Int32} {k : Int} (h : x.toInt ≤ k) (q : k < b.toInt) : x < b := by rw [Int32.lt_iff_toInt_lt]; omega
theorem own_b6 {x b : Int32} {k : Int} (h : k ≤ x.toInt) (q : b.toInt ≤ k) : ¬ x < b := by rw [Int32.lt_iff_toInt_lt]; omega
theorem own_b7 {x b : Int32} {k : Int} (h : k ≤ x.toInt) (q : b.toInt < k) : b < x := by rw [Int32.lt_iff_toInt_lt]; omega
theorem own_b8 {x b : Int32} {k : Int} (h : x.toInt ≤ k) (q : k ≤ b.toInt) : ¬ b < x := by rw [Int32.lt_iff_toInt_lt]; omega
theorem own_b9 {x b : Int32} {k : Int} (h : x.toInt ≤ k) (q : k < b.toInt) : ¬ x = b := fun e => by subst e; omega
theorem own_b10 {x b : Int32} {k : Int} (h : k ≤ x.toInt) (q : b.toInt < k) : ¬ x = b := fun e => by subst e; omega
theorem own_of_eq {x a : Int32} {P : Int32 → Prop} (h : x = a) (q : P a) : P x := h ▸ q
end OwnKit
section OwnHeap
variable {p : Program} {l : Launch} {e : Env} {R : Room} {s : State} {m : MethodId} {args : Array Value} {below : List Frame} {meth : Method} {c : Code} {T : State} {locs : List Loc} {cells slots : Nat} {Z : State} {a0 : Array Value} {h0 h : Heap} {n0 : Nat}
/-- the writes lie at or above n0, and q says the rest -/
def own_W (n0 : Nat) (q : Option Value → Heap → Prop) : Option Value → Heap → List Loc → Prop := fun v h L => Fr n0 L ∧ q v h
theorem own_newA (X : Stand p l e R s m args below meth c T locs cells slots) (hx : p.tables.exec = Jvm.exec) (hZ : Z.Warmed39 s.vm) {aty : ArrayType} (w : (Jvm.Cond.arrayClass (newarray.typeOf aty)).before a0 Z = true) (eT : T.heap = h) {pc : Nat} {Ls : Array Slot} (hd : decode c.code pc = .ok (.newarray aty, 2)) {n : Int32} {rest : List Value}
    (hn : ¬ n < 0) {cap : Nat} (hcap : n.toNatClampNeg ≤ cap) (hb : cap * 8 ≤ 536870912) (hc : cells + 1 ≤ R.cells) (hl : slots + cap ≤ R.slots) (len : Nat) {ad : String} (had : "[" ++ (newarray.typeOf aty).toString = ad) :
    ∃ T' h' k a, Stand p l e R s m args below meth c T' locs (cells + 1) (slots + cap) ∧ T'.heap = h' ∧ Ext h h' ∧ a = h.size ∧ Arv Z h' a k (newarray.typeOf aty) n (List.replicate len (defaultValue (newarray.typeOf aty))) (defaultValue (newarray.typeOf aty)) ∧ Exa Z h' a ad ∧
      ∀ target, Steps p.tables e below (T'.setTop (mkF m (pc + 2) Ls (.ref a :: rest))) target → Steps p.tables e below (T.setTop (mkF m pc Ls (.int n :: rest))) target := by
  obtain ⟨T', h', k, X', e', E, A, Ex, st⟩ := newPE X hx hZ w eT (g := mkF m pc Ls (.int n :: rest)) rfl hd rfl hn hcap hb hc hl had
  exact ⟨T', h', k, h.size, X', e', E, rfl, (Arv.new A hn).pad (fun i => by have := pad_rep [] (defaultValue (newarray.typeOf aty)) len i; rwa [List.nil_append] at this), Ex, st⟩
theorem own_stB (X : Stand p l e R s m args below meth c T locs cells slots) (N : Fr n0 locs) (hx : p.tables.exec = Jvm.exec) (hZ : Z.Warmed39 s.vm) (eT : T.heap = h) {a : Addr} {k : ClassId} {z : Int32} {vs : List Value} {d : Value} (V : Arv Z h a k .byte z vs d) (ga : n0 ≤ a) {j x : Int32} {i : Nat} (hj : ¬ j < 0 ∧ j < z) (hi : j.toNatClampNeg = i) (hl : i < vs.length)
    {pc : Nat} {Ls : Array Slot} {rest : List Value} (hd : decode c.code pc = .ok (.bastore, 1)) :
    ∃ T' h' L', Stand p l e R s m args below meth c T' L' cells slots ∧ Fr n0 L' ∧ T'.heap = h' ∧ Wr h h' a i (.int x.toInt8.toInt32) ∧ Arv Z h' a k .byte z (vs.set i (.int x.toInt8.toInt32)) d ∧
      ∀ target, Steps p.tables e below (T'.setTop (mkF m (pc + 1) Ls rest)) target → Steps p.tables e below (T.setTop (mkF m pc Ls (.int x :: .int j :: .ref a :: rest))) target := by
  obtain ⟨cl, Ar, q, S, Nn, H, G⟩ := V
  obtain ⟨T', h', X', e', W, st⟩ := stB X hx hZ eT Ar (j := j) (x := x) (inb_of S hj) (g := mkF m pc Ls (.int x :: .int j :: .ref a :: rest)) rfl rfl hd
  subst hi
  exact ⟨T', h', _, X', Fr.snoc X' N ga, e', W, Arv.set Ar q S Nn H G (fits_nar_byte x) W _ rfl hl, st⟩
theorem own_stI (X : Stand p l e R s m args below meth c T locs cells slots) (N : Fr n0 locs) (hx : p.tables.exec = Jvm.exec) (hZ : Z.Warmed39 s.vm) (eT : T.heap = h) {a : Addr} {k : ClassId} {z : Int32} {vs : List Value} {d : Value} (V : Arv Z h a k .int z vs d) (ga : n0 ≤ a) {j x : Int32} {i : Nat} (hj : ¬ j < 0 ∧ j < z) (hi : j.toNatClampNeg = i) (hl : i < vs.length)
    {pc : Nat} {Ls : Array Slot} {rest : List Value} (hd : decode c.code pc = .ok (.iastore, 1)) :
    ∃ T' h' L', Stand p l e R s m args below meth c T' L' cells slots ∧ Fr n0 L' ∧ T'.heap = h' ∧ Wr h h' a i (.int x) ∧ Arv Z h' a k .int z (vs.set i (.int x)) d ∧
      ∀ target, Steps p.tables e below (T'.setTop (mkF m (pc + 1) Ls rest)) target → Steps p.tables e below (T.setTop (mkF m pc Ls (.int x :: .int j :: .ref a :: rest))) target := by
  obtain ⟨cl, Ar, q, S, Nn, H, G⟩ := V
  obtain ⟨T', h', X', e', W, st⟩ := stI X hx hZ eT Ar (j := j) (x := x) (inb_of S hj) (g := mkF m pc Ls (.int x :: .int j :: .ref a :: rest)) rfl rfl hd
  subst hi
  exact ⟨T', h', _, X', Fr.snoc X' N ga, e', W, Arv.set Ar q S Nn H G rfl W _ rfl hl, st⟩
theorem own_stC (X : Stand p l e R s m args below meth c T locs cells slots) (N : Fr n0 locs) (hx : p.tables.exec = Jvm.exec) (hZ : Z.Warmed39 s.vm) (eT : T.heap = h) {a : Addr} {k : ClassId} {z : Int32} {vs : List Value} {d : Value} (V : Arv Z h a k .char z vs d) (ga : n0 ≤ a) {j x : Int32} {i : Nat} (hj : ¬ j < 0 ∧ j < z) (hi : j.toNatClampNeg = i) (hl : i < vs.length)
    {pc : Nat} {Ls : Array Slot} {rest : List Value} (hd : decode c.code pc = .ok (.castore, 1)) :
    ∃ T' h' L', Stand p l e R s m args below meth c T' L' cells slots ∧ Fr n0 L' ∧ T'.heap = h' ∧ Wr h h' a i (.int (nar .char x)) ∧ Arv Z h' a k .char z (vs.set i (.int (nar .char x))) d ∧
      ∀ target, Steps p.tables e below (T'.setTop (mkF m (pc + 1) Ls rest)) target → Steps p.tables e below (T.setTop (mkF m pc Ls (.int x :: .int j :: .ref a :: rest))) target := by
  obtain ⟨cl, Ar, q, S, Nn, H, G⟩ := V
  obtain ⟨T', h', X', e', W, st⟩ := stC X hx hZ eT Ar (j := j) (x := x) (inb_of S hj) (g := mkF m pc Ls (.int x :: .int j :: .ref a :: rest)) rfl rfl hd
  subst hi
  exact ⟨T', h', _, X', Fr.snoc X' N ga, e', W, Arv.set Ar q S Nn H G (fits_nar_char x) W _ rfl hl, st⟩
theorem own_ldB (X : Stand p l e R s m args below meth c T locs cells slots) (hx : p.tables.exec = Jvm.exec) (hZ : Z.Warmed39 s.vm) (eT : T.heap = h) {a : Addr} {k : ClassId} {z : Int32} {vs : List Value} {d v : Value} (V : Arv Z h a k .byte z vs d) {j : Int32} (hj : ¬ j < 0 ∧ j < z) (hv : vs.getD j.toNatClampNeg d = v)
    {pc : Nat} {Ls : Array Slot} {rest : List Value} (hd : decode c.code pc = .ok (.baload, 1)) (target : State) (hr : Steps p.tables e below (T.setTop (mkF m (pc + 1) Ls (v :: rest))) target) : Steps p.tables e below (T.setTop (mkF m pc Ls (.int j :: .ref a :: rest))) target := by
  obtain ⟨cl, Ar, q, S, Nn, H, G⟩ := V
  have hin := inb_of S hj
  refine X.baloadBytes hx (j := j) (v := v) (by rw [eT]; exact Ar.1) (State.isArrayOf_alike hZ.alike Ar.2.1) Ar.2.2 hin ?_ (g := mkF m pc Ls (.int j :: .ref a :: rest)) rfl rfl hd _ hr
  rw [H _ (Nat.lt_of_not_le fun q => hin (Or.inr q)), hv]
theorem own_ldI (X : Stand p l e R s m args below meth c T locs cells slots) (hx : p.tables.exec = Jvm.exec) (hZ : Z.Warmed39 s.vm) (eT : T.heap = h) {a : Addr} {k : ClassId} {z : Int32} {vs : List Value} {d v : Value} (V : Arv Z h a k .int z vs d) {j : Int32} (hj : ¬ j < 0 ∧ j < z) (hv : vs.getD j.toNatClampNeg d = v)
    {pc : Nat} {Ls : Array Slot} {rest : List Value} (hd : decode c.code pc = .ok (.iaload, 1)) (target : State) (hr : Steps p.tables e below (T.setTop (mkF m (pc + 1) Ls (v :: rest))) target) : Steps p.tables e below (T.setTop (mkF m pc Ls (.int j :: .ref a :: rest))) target := by
  obtain ⟨cl, Ar, q, S, Nn, H, G⟩ := V
  have hin := inb_of S hj
  refine X.iaload hx (j := j) (v := v) (by rw [eT]; exact Ar.1) (State.isArrayOf_alike hZ.alike Ar.2.1) Ar.2.2 hin ?_ (g := mkF m pc Ls (.int j :: .ref a :: rest)) rfl rfl hd _ hr
  rw [H _ (Nat.lt_of_not_le fun q => hin (Or.inr q)), hv]
theorem own_ldC (X : Stand p l e R s m args below meth c T locs cells slots) (hx : p.tables.exec = Jvm.exec) (hZ : Z.Warmed39 s.vm) (eT : T.heap = h) {a : Addr} {k : ClassId} {z : Int32} {vs : List Value} {d v : Value} (V : Arv Z h a k .char z vs d) {j : Int32} (hj : ¬ j < 0 ∧ j < z) (hv : vs.getD j.toNatClampNeg d = v)
    {pc : Nat} {Ls : Array Slot} {rest : List Value} (hd : decode c.code pc = .ok (.caload, 1)) (target : State) (hr : Steps p.tables e below (T.setTop (mkF m (pc + 1) Ls (v :: rest))) target) : Steps p.tables e below (T.setTop (mkF m pc Ls (.int j :: .ref a :: rest))) target := by
  obtain ⟨cl, Ar, q, S, Nn, H, G⟩ := V
  have hin := inb_of S hj
  refine X.caload hx (j := j) (v := v) (by rw [eT]; exact Ar.1) (State.isArrayOf_alike hZ.alike Ar.2.1) Ar.2.2 hin ?_ (g := mkF m pc Ls (.int j :: .ref a :: rest)) rfl rfl hd _ hr
  rw [H _ (Nat.lt_of_not_le fun q => hin (Or.inr q)), hv]
theorem own_len (X : Stand p l e R s m args below meth c T locs cells slots) (hx : p.tables.exec = Jvm.exec) (hZ : Z.Warmed39 s.vm) (eT : T.heap = h) {a : Addr} {k : ClassId} {ty : FieldType} {z : Int32} {vs : List Value} {d : Value} (V : Arv Z h a k ty z vs d)
    {pc : Nat} {Ls : Array Slot} {rest : List Value} (hd : decode c.code pc = .ok (.arraylength, 1)) (target : State) (hr : Steps p.tables e below (T.setTop (mkF m (pc + 1) Ls (.int z :: rest))) target) : Steps p.tables e below (T.setTop (mkF m pc Ls (.ref a :: rest))) target := by
  obtain ⟨cl, Ar, q, S, Nn, H, G⟩ := V
  refine X.arraylength hx (by rw [eT]; exact Ar.1) (State.isArrayOf_alike hZ.alike Ar.2.1) (g := mkF m pc Ls (.ref a :: rest)) rfl rfl hd _ ?_
  rw [len_of S Nn]
  exact hr
/-- an array cloned -/
theorem own_clone (X : Stand p l e R s m args below meth c T locs cells slots) (hx : p.tables.exec = Jvm.exec) (hZ : Z.Warmed39 s.vm) {own ad : String} {index : Nat} (hown : s.vm.findClass own = some m.cls)
    (w1 : (Jvm.Cond.methodLink own index ⟨ad, "clone", "()Ljava/lang/Object;"⟩).before a0 Z = true) (w2 : (Jvm.Cond.sameMethod ad "java/lang/Object" "clone" "()Ljava/lang/Object;").before a0 Z = true) (w3 : (Jvm.Cond.native ⟨"java/lang/Object", "clone", "()Ljava/lang/Object;"⟩).before a0 Z = true)
    (w4 : (Jvm.Cond.instanceMethod ⟨"java/lang/Object", "clone", "()Ljava/lang/Object;"⟩).before a0 Z = true) (w5 : (Jvm.Cond.selects ad ⟨ad, "clone", "()Ljava/lang/Object;"⟩ ⟨"java/lang/Object", "clone", "()Ljava/lang/Object;"⟩).before a0 Z = true) (w6 : (Jvm.Cond.castable ad "java/lang/Cloneable").before a0 Z = true)
    (eT : T.heap = h) {a : Addr} {k : ClassId} {ty : FieldType} {z : Int32} {vs : List Value} {dv : Value} (F : Arv Z h a k ty z vs dv) (E : Exa Z h a ad) {pc : Nat} {Ls : Array Slot} {rest : List Value} (hsize : Ls.size = c.maxLocals) (hd : decode c.code pc = .ok (.invokevirtual index, 3))
    (hf : 1 ≤ R.frames) {W cap : Nat} (hW : 2 * 0 + (rest.map fun v => v.category).sum ≤ W) (hl : W + 14 ≤ R.locals) (hcap : z.toNatClampNeg ≤ cap) (hc : cells + 1 ≤ R.cells) (hsl : slots + cap ≤ R.slots) :
    ∃ T' h' b, Stand p l e R s m args below meth c T' locs (cells + 1) (slots + cap) ∧ T'.heap = h' ∧ Ext h h' ∧ b = h.size ∧ Arv Z h' b k ty z vs dv ∧ Exa Z h' b ad ∧
      ∀ target, Steps p.tables e below (T'.setTop (mkF m (pc + 3) Ls (.ref b :: rest))) target → Steps p.tables e below (T.setTop (mkF m pc Ls (.ref a :: rest))) target := by
  obtain ⟨T', h', X', e', ex, V, E', st⟩ := cloneH X hx hZ hown w1 w2 w3 w4 w5 w6 eT F.arh E (g := mkF m pc Ls (.ref a :: rest)) rfl hsize rfl hd hf hW hl hcap hc hsl
  exact ⟨T', h', h.size, X', e', ex, rfl, V, E', st⟩
/-- a field written -/
theorem own_putF (X : Stand p l e R s m args below meth c T locs cells slots) (N : Fr n0 locs) (hx : p.tables.exec = Jvm.exec) (hZ : Z.Warmed39 s.vm) {own O n d C : String} {index kk : Nat} {ty : FieldType} (hown : s.vm.findClass own = some m.cls) (w : (Jvm.Cond.fieldLink own index O n d).before a0 Z = true)
    (eT : T.heap = h) {a : Addr} {v old : Value} (F : Fld Z h a O n d old) (E : Exa Z h a C) (L : (Jvm.Cond.lays C O n d).before a0 Z = true ∨ ((Jvm.Cond.laysFinal C O n d).before a0 Z = true ∧ own = O ∧ meth.name = "<init>")) (wi : (Jvm.Cond.instantiable C kk).before a0 Z = true) (ga : n0 ≤ a)
    (hty : parseFieldDescriptor d = some ty) (hn : narrow ty v = v) (hf : fits ty v = true) {pc : Nat} {Ls : Array Slot} {rest : List Value} (hd : decode c.code pc = .ok (.putfield index, 3)) :
    ∃ T' h' L', Stand p l e R s m args below meth c T' L' cells slots ∧ Fr n0 L' ∧ T'.heap = h' ∧ Wr h h' a (Jvm.RoadKit.slotOf Z O n d) v ∧ Fld Z h' a O n d v ∧
      ∀ target, Steps p.tables e below (T'.setTop (mkF m (pc + 3) Ls rest)) target → Steps p.tables e below (T.setTop (mkF m pc Ls (v :: .ref a :: rest))) target := by
  obtain ⟨T', h', X', e', W, st⟩ := putF X hx hZ hown (host := "") (Or.inl w) Via.refl eT F E L wi hty hn hf (g := mkF m pc Ls (v :: .ref a :: rest)) rfl rfl hd
  exact ⟨T', h', _, X', Fr.snoc X' N ga, e', W, F.same W, st⟩
theorem own_putFN (X : Stand p l e R s m args below meth c T locs cells slots) (N : Fr n0 locs) (hx : p.tables.exec = Jvm.exec) (hZ : Z.Warmed39 s.vm) {own O n d C : String} {index kk : Nat} {ty : FieldType} (hown : s.vm.findClass own = some m.cls) (w : (Jvm.Cond.fieldLink own index O n d).before a0 Z = true)
    (eT : T.heap = h) {a : Addr} {v v' old : Value} (F : Fld Z h a O n d old) (E : Exa Z h a C) (L : (Jvm.Cond.lays C O n d).before a0 Z = true ∨ ((Jvm.Cond.laysFinal C O n d).before a0 Z = true ∧ own = O ∧ meth.name = "<init>")) (wi : (Jvm.Cond.instantiable C kk).before a0 Z = true) (ga : n0 ≤ a)
    (hty : parseFieldDescriptor d = some ty) (hn : narrow ty v = v') (hf : fits ty v' = true) {pc : Nat} {Ls : Array Slot} {rest : List Value} (hd : decode c.code pc = .ok (.putfield index, 3)) :
    ∃ T' h' L', Stand p l e R s m args below meth c T' L' cells slots ∧ Fr n0 L' ∧ T'.heap = h' ∧ Wr h h' a (Jvm.RoadKit.slotOf Z O n d) v' ∧ Fld Z h' a O n d v' ∧
      ∀ target, Steps p.tables e below (T'.setTop (mkF m (pc + 3) Ls rest)) target → Steps p.tables e below (T.setTop (mkF m pc Ls (v :: .ref a :: rest))) target := by
  obtain ⟨T', h', X', e', W, st⟩ := putFN X hx hZ hown w Via.refl eT F E L wi hty hn hf (g := mkF m pc Ls (v :: .ref a :: rest)) rfl rfl hd
  exact ⟨T', h', _, X', Fr.snoc X' N ga, e', W, F.same W, st⟩
/-- new -/
theorem own_newO (X : Stand p l e R s m args below meth c T locs cells slots) (hx : p.tables.exec = Jvm.exec) (hZ : Z.Warmed39 s.vm) {own C : String} {index n : Nat} (hown : s.vm.findClass own = some m.cls) (w : (Jvm.Cond.classLink own index C).before a0 Z = true) (wi : (Jvm.Cond.instantiable C n).before a0 Z = true) (wz : (Jvm.Cond.initialized C).before a0 Z = true) (eT : T.heap = h)
    {pc : Nat} {Ls : Array Slot} {rest : List Value} (hd : decode c.code pc = .ok (.new index, 3)) (hc : cells + 1 ≤ R.cells) (hl : slots + n ≤ R.slots) :
    ∃ T' h' a, Stand p l e R s m args below meth c T' locs (cells + 1) (slots + n) ∧ T'.heap = h' ∧ Ext h h' ∧ a = h.size ∧ Exa Z h' a C ∧ (∀ {O nm d : String} {ty : FieldType}, Laid Z a0 C O nm d → parseFieldDescriptor d = some ty → Fld Z h' a O nm d (defaultValue ty)) ∧
      ∀ target, Steps p.tables e below (T'.setTop (mkF m (pc + 3) Ls (.ref a :: rest))) target → Steps p.tables e below (T.setTop (mkF m pc Ls rest)) target := by
  obtain ⟨T', h', X', e', E, A, D, -, st⟩ := newO X hx hZ hown w wi wz eT (g := mkF m pc Ls rest) rfl hd hc hl
  exact ⟨T', h', h.size, X', e', E, rfl, A, D, st⟩
/-- a static method that may write and make -/
theorem own_callSW {own : String} {index : Nat} {y : MethodName} {bytes : ByteArray} {maxL W : Nat} {ret : Option FieldType} {rm : Room} {as : Array Value} {q : Option Value → Heap → Prop}
    (X : Stand p l e R s m args below meth c T locs cells slots) (N : Fr n0 locs) (hx : p.tables.exec = Jvm.exec) (hZ : Z.Warmed39 s.vm) (hown : s.vm.findClass own = some m.cls)
    (w1 : (Jvm.Cond.methodLink own index y).before a0 Z = true) (w2 : (Jvm.Cond.static y).before a0 Z = true) (w3 : (Jvm.Cond.initialized y.cls).before a0 Z = true) (w4 : (Jvm.Cond.code y bytes maxL ret).before a0 Z = true)
    (hy : y.cls ≠ "java/lang/invoke/MethodHandle" ∧ y.cls ≠ "java/lang/invoke/VarHandle") (hM : own_C l Z y bytes maxL ret [] rm as h (own_W n0 q))
    (hf : rm.frames + 1 ≤ R.frames) (hl : W + (maxL + 11) + rm.locals ≤ R.locals) (hcc : cells + rm.cells ≤ R.cells) (hss : slots + rm.slots ≤ R.slots) (e0 : T.heap = h)
    {pc : Nat} {Ls : Array Slot} {st argsL rest : List Value} (hsize : Ls.size = c.maxLocals) (hlen : ∀ sig, parseMethodDescriptor y.desc = some sig → argsL.length = sig.parameters.length) (has : argsL.toArray = as)
    (hst : st = argsL.reverse ++ rest) (hW : 2 * 0 + (rest.map fun v => v.category).sum ≤ W) (hd : decode c.code pc = .ok (.invokestatic index, 3)) :
    ∃ (v : Option Value) (T' : State) (h' : Heap) (L' : List Loc), Stand p l e R s m args below meth c T' L' (cells + rm.cells) (slots + rm.slots) ∧ Fr n0 L' ∧ T'.heap = h' ∧ q v h' ∧
      ∀ target, Steps p.tables e below (T'.setTop (mkF m (pc + 3) Ls (v.toList ++ rest))) target → Steps p.tables e below (T.setTop (mkF m pc Ls st)) target := by
  obtain ⟨v, T', L, X', ⟨N', hq⟩, stp⟩ := own_callS X hx hZ hown w1 w2 w3 w4 hy hM hf hl hcc hss e0 hsize hlen has hst hW hd
  exact ⟨v, T', _, _, X', N.app N', rfl, hq, stp⟩
/-- a constructor by its contract -/
theorem own_callI {own : String} {index : Nat} {y : MethodName} {bytes : ByteArray} {maxL W : Nat} {rm : Room} {as : Array Value} {q : Option Value → Heap → Prop} {a : Addr}
    (X : Stand p l e R s m args below meth c T locs cells slots) (N : Fr n0 locs) (hx : p.tables.exec = Jvm.exec) (hZ : Z.Warmed39 s.vm) (hy1 : y.name = "<init>") (hown : s.vm.findClass own = some m.cls)
    (w1 : (Jvm.Cond.methodLink own index y).before a0 Z = true) (w2 : (Jvm.Cond.instanceMethod y).before a0 Z = true) (w3 : (Jvm.Cond.initialized y.cls).before a0 Z = true) (w4 : (Jvm.Cond.code y bytes maxL none).before a0 Z = true)
    (hy : y.cls ≠ "java/lang/invoke/MethodHandle" ∧ y.cls ≠ "java/lang/invoke/VarHandle") (hM : own_C l Z y bytes maxL none [] rm as h (own_W n0 q))
    (hf : rm.frames + 1 ≤ R.frames) (hl : W + (maxL + 11) + rm.locals ≤ R.locals) (hcc : cells + rm.cells ≤ R.cells) (hss : slots + rm.slots ≤ R.slots) (e0 : T.heap = h)
    {pc : Nat} {Ls : Array Slot} {st argsL rest : List Value} (hsize : Ls.size = c.maxLocals) (hlen : ∀ sig, parseMethodDescriptor y.desc = some sig → argsL.length = sig.parameters.length) (has : (Value.ref a :: argsL).toArray = as)
    (hst : st = argsL.reverse ++ .ref a :: rest) (hW : 2 * 0 + (rest.map fun v => v.category).sum ≤ W) (hd : decode c.code pc = .ok (.invokespecial index, 3)) :
    ∃ (v : Option Value) (T' : State) (h' : Heap) (L' : List Loc), Stand p l e R s m args below meth c T' L' (cells + rm.cells) (slots + rm.slots) ∧ Fr n0 L' ∧ T'.heap = h' ∧ q v h' ∧
      ∀ target, Steps p.tables e below (T'.setTop (mkF m (pc + 3) Ls (v.toList ++ rest))) target → Steps p.tables e below (T.setTop (mkF m pc Ls st)) target := by
  obtain ⟨v, _, ⟨T', L', k', n'⟩, -, X', ⟨Lc, ⟨N', hq⟩, h1, h2, h3⟩, stp⟩ := X.specialBack hx (y := y) hy1 hown (mvT hZ w1) (mvT hZ w2) (mvT hZ w4) hy
    (backOf (W := W) hM hZ w4 w3 hf hl) (g := mkF m pc Ls st) rfl hsize (Steps.refl _) (a := a) (argsL := argsL) (rest := rest) hlen hst hW hd (fun _ _ => ⟨has, e0, hcc, hss⟩)
  dsimp only [Pt.U, Pt.locs, Pt.cells, Pt.slots] at X' h1 h2 h3 stp hq
  subst h1 h2 h3
  exact ⟨v, T', _, _, X', N.app N', rfl, hq, fun t k => stp.trans k⟩
/-- an instance method by its contract -/
theorem own_callV {own C : String} {index : Nat} {y z : MethodName} {bytes : ByteArray} {maxL W : Nat} {ret : Option FieldType} {rm : Room} {as : Array Value} {q : Option Value → Heap → Prop} {a : Addr}
    (X : Stand p l e R s m args below meth c T locs cells slots) (N : Fr n0 locs) (hx : p.tables.exec = Jvm.exec) (hZ : Z.Warmed39 s.vm) (hown : s.vm.findClass own = some m.cls)
    (w1 : (Jvm.Cond.methodLink own index y).before a0 Z = true) (w2 : (Jvm.Cond.declares y).before a0 Z = true) (hnf : NotFace s y) (ws : (Jvm.Cond.selects C y z).before a0 Z = true) (wi : (Jvm.Cond.instanceMethod z).before a0 Z = true) (w3 : (Jvm.Cond.initialized z.cls).before a0 Z = true) (w4 : (Jvm.Cond.code z bytes maxL ret).before a0 Z = true)
    (hy : y.cls ≠ "java/lang/invoke/MethodHandle" ∧ y.cls ≠ "java/lang/invoke/VarHandle") (hM : own_C l Z z bytes maxL ret [] rm as h (own_W n0 q))
    (hf : rm.frames + 1 ≤ R.frames) (hl : W + (maxL + 11) + rm.locals ≤ R.locals) (hcc : cells + rm.cells ≤ R.cells) (hss : slots + rm.slots ≤ R.slots) (e0 : T.heap = h) (E : Exa Z h a C)
    {pc : Nat} {Ls : Array Slot} {st argsL rest : List Value} (hsize : Ls.size = c.maxLocals) (hlen : ∀ sig, parseMethodDescriptor y.desc = some sig → argsL.length = sig.parameters.length) (has : (Value.ref a :: argsL).toArray = as)
    (hst : st = argsL.reverse ++ .ref a :: rest) (hW : 2 * 0 + (rest.map fun v => v.category).sum ≤ W) (hd : decode c.code pc = .ok (.invokevirtual index, 3)) :
    ∃ (v : Option Value) (T' : State) (h' : Heap) (L' : List Loc), Stand p l e R s m args below meth c T' L' (cells + rm.cells) (slots + rm.slots) ∧ Fr n0 L' ∧ T'.heap = h' ∧ q v h' ∧
      ∀ target, Steps p.tables e below (T'.setTop (mkF m (pc + 3) Ls (v.toList ++ rest))) target → Steps p.tables e below (T.setTop (mkF m pc Ls st)) target := by
  obtain ⟨cq, kq, qa, qb, qc⟩ := isOf hZ e0 E
  obtain ⟨v, _, ⟨T', L', k', n'⟩, -, X', ⟨Lc, ⟨N', hq⟩, h1, h2, h3⟩, stp⟩ := X.virtualBack hx (y := y) (z := z) hown (mvT hZ w1) (mvT hZ w2) hnf (mvT hZ ws) (mvT hZ wi) hy
    (backOf (W := W) hM hZ w4 w3 hf hl) qa qc (g := mkF m pc Ls st) rfl hsize (Steps.refl _) (argsL := argsL) (rest := rest) hlen hst hW hd (fun _ _ => ⟨has, e0, hcc, hss⟩)
  dsimp only [Pt.U, Pt.locs, Pt.cells, Pt.slots] at X' h1 h2 h3 stp hq
  subst h1 h2 h3
  exact ⟨v, T', _, _, X', N.app N', rfl, hq, fun t k => stp.trans k⟩
/-- an instance method that leaves the heap as it was -/
theorem own_callVP {own C : String} {index : Nat} {y z : MethodName} {bytes : ByteArray} {maxL W : Nat} {ret : Option FieldType} {rm : Room} {as : Array Value} {w : Value} {a : Addr}
    (X : Stand p l e R s m args below meth c T locs cells slots) (hx : p.tables.exec = Jvm.exec) (hZ : Z.Warmed39 s.vm) (hown : s.vm.findClass own = some m.cls)
    (w1 : (Jvm.Cond.methodLink own index y).before a0 Z = true) (w2 : (Jvm.Cond.declares y).before a0 Z = true) (hnf : NotFace s y) (ws : (Jvm.Cond.selects C y z).before a0 Z = true) (wi : (Jvm.Cond.instanceMethod z).before a0 Z = true) (w3 : (Jvm.Cond.initialized z.cls).before a0 Z = true) (w4 : (Jvm.Cond.code z bytes maxL ret).before a0 Z = true)
    (hy : y.cls ≠ "java/lang/invoke/MethodHandle" ∧ y.cls ≠ "java/lang/invoke/VarHandle") (hM : own_C l Z z bytes maxL ret [] rm as h (own_Q w h))
    (hf : rm.frames + 1 ≤ R.frames) (hl : W + (maxL + 11) + rm.locals ≤ R.locals) (hrc : rm.cells = 0) (hrs : rm.slots = 0) (hcc : cells + rm.cells ≤ R.cells) (hss : slots + rm.slots ≤ R.slots) (e0 : T.heap = h) (E : Exa Z h a C)
    {pc : Nat} {Ls : Array Slot} {st argsL rest : List Value} (hsize : Ls.size = c.maxLocals) (hlen : ∀ sig, parseMethodDescriptor y.desc = some sig → argsL.length = sig.parameters.length) (has : (Value.ref a :: argsL).toArray = as)
    (hst : st = argsL.reverse ++ .ref a :: rest) (hW : 2 * 0 + (rest.map fun v => v.category).sum ≤ W) (hd : decode c.code pc = .ok (.invokevirtual index, 3)) :
    ∃ (T' : State), Stand p l e R s m args below meth c T' locs cells slots ∧ T'.heap = h ∧
      ∀ target, Steps p.tables e below (T'.setTop (mkF m (pc + 3) Ls (w :: rest))) target → Steps p.tables e below (T.setTop (mkF m pc Ls st)) target := by
  obtain ⟨cq, kq, qa, qb, qc⟩ := isOf hZ e0 E
  obtain ⟨v, _, ⟨T', L', k', n'⟩, -, X', ⟨Lc, ⟨rfl, rfl, hh⟩, h1, h2, h3⟩, stp⟩ := X.virtualBack hx (y := y) (z := z) hown (mvT hZ w1) (mvT hZ w2) hnf (mvT hZ ws) (mvT hZ wi) hy
    (backOf (W := W) hM hZ w4 w3 hf hl) qa qc (g := mkF m pc Ls st) rfl hsize (Steps.refl _) (argsL := argsL) (rest := rest) hlen hst hW hd (fun _ _ => ⟨has, e0, hcc, hss⟩)
  dsimp only [Pt.U, Pt.locs, Pt.cells, Pt.slots] at X' h1 h2 h3 stp hh
  subst h1 h2 h3
  rw [List.append_nil, hrc, hrs] at X'
  exact ⟨T', X', hh, fun t k => stp.trans k⟩
theorem own_ke {h h' : Heap} (K : Keep h h' []) : Ext h h' := ⟨K.1, fun a c q => K.2.1 a c q (by simp)⟩
theorem own_ldA (X : Stand p l e R s m args below meth c T locs cells slots) (hx : p.tables.exec = Jvm.exec) (hZ : Z.Warmed39 s.vm) (eT : T.heap = h) {a : Addr} {k : ClassId} {ty : FieldType} {z : Int32} {vs : List Value} {d v : Value} (V : Arv Z h a k ty z vs d) (hty : ty.isReference = true) {j : Int32} (hj : ¬ j < 0 ∧ j < z) (hv : vs.getD j.toNatClampNeg d = v)
    {pc : Nat} {Ls : Array Slot} {rest : List Value} (hd : decode c.code pc = .ok (.aaload, 1)) (target : State) (hr : Steps p.tables e below (T.setTop (mkF m (pc + 1) Ls (v :: rest))) target) : Steps p.tables e below (T.setTop (mkF m pc Ls (.int j :: .ref a :: rest))) target := by
  obtain ⟨cl, Ar, q, S, Nn, H, G⟩ := V
  have hin := inb_of S hj
  refine X.aaload hx (j := j) (v := v) (by rw [eT]; exact Ar.1) (State.isArrayOf_alike hZ.alike Ar.2.1) hty Ar.2.2 hin ?_ (g := mkF m pc Ls (.int j :: .ref a :: rest)) rfl rfl hd _ hr
  rw [H _ (Nat.lt_of_not_le fun q => hin (Or.inr q)), hv]
end OwnHeap
theorem own_pd0 : parseMethodDescriptor "([BI)I" = some ⟨[(.array .byte), .int], some .int⟩ := by decide +kernel
def own_le (a b c d : Int32) : Int32 := ((((a &&& (255 : Int32)) ||| ((b &&& (255 : Int32)) <<< ((8 : Int32) &&& 31))) ||| ((c &&& (255 : Int32)) <<< ((16 : Int32) &&& 31))) ||| (d <<< ((24 : Int32) &&& 31)))
theorem own_and3 (x : Int32) : x &&& 3 = 0 ∨ x &&& 3 = 1 ∨ x &&& 3 = 2 ∨ x &&& 3 = 3 := by
  have h := c_mask x 3 2 (by decide) (by decide)
  simp only [← Int32.toInt_inj, show (0 : Int32).toInt = 0 from rfl, show (1 : Int32).toInt = 1 from rfl, show (2 : Int32).toInt = 2 from rfl, show (3 : Int32).toInt = 3 from rfl]
  omega
theorem own_key (a b c d : Int32) : ((own_le a b c d).toInt - (a.toInt % 256 + b.toInt % 256 * 256 + c.toInt % 256 * 65536 + d.toInt * 16777216)) % 4294967296 = 0 := by
  have h1 := c_mask a 255 8 (by decide) (by decide)
  have h2 := c_mask b 255 8 (by decide) (by decide)
  have h3 := c_mask c 255 8 (by decide) (by decide)
  unfold own_le
  generalize a &&& 255 = a' at *
  generalize b &&& 255 = b' at *
  generalize c &&& 255 = c' at *
  have s2 := c_ishl b' 8 8 (by decide)
  have s3 := c_ishl c' 16 16 (by decide)
  have s4 := c_ishl d 24 24 (by decide)
  generalize b' <<< ((8 : Int32) &&& 31) = b2 at *
  generalize c' <<< ((16 : Int32) &&& 31) = c2 at *
  generalize d <<< ((24 : Int32) &&& 31) = d2 at *
  have r2 := rng32 b2
  have r3 := rng32 c2
  have r4 := rng32 d2
  have o1 := c_or' a' b2 8 (by decide) 256 (by decide) (by omega) (by omega) (by omega)
  have p1 := rng32 (a' ||| b2)
  generalize a' ||| b2 = x at *
  have o2 := c_or' x c2 16 (by decide) 65536 (by decide) (by omega) (by omega) (by omega)
  have p2 := rng32 (x ||| c2)
  generalize x ||| c2 = y at *
  have o3 := c_or' y d2 24 (by decide) 16777216 (by decide) (by omega) (by omega) (by omega)
  generalize y ||| d2 = z at *
  omega
theorem own_back (v : Int32) : own_le (v.toInt8.toInt32.toInt8.toInt32) ((((v.toUInt32 >>> ((8 : Int32) &&& 31).toUInt32).toInt32).toInt8.toInt32).toInt8.toInt32) ((((v.toUInt32 >>> ((16 : Int32) &&& 31).toUInt32).toInt32).toInt8.toInt32).toInt8.toInt32) ((((v.toUInt32 >>> ((24 : Int32) &&& 31).toUInt32).toInt32).toInt8.toInt32).toInt8.toInt32) = v := by
  have s1 := c_iushr v 8 8 (by decide) (by decide)
  have s2 := c_iushr v 16 16 (by decide) (by decide)
  have s3 := c_iushr v 24 24 (by decide) (by decide)
  generalize ((v.toUInt32 >>> ((8 : Int32) &&& 31).toUInt32).toInt32) = x1 at *
  generalize ((v.toUInt32 >>> ((16 : Int32) &&& 31).toUInt32).toInt32) = x2 at *
  generalize ((v.toUInt32 >>> ((24 : Int32) &&& 31).toUInt32).toInt32) = x3 at *
  have k := own_key (v.toInt8.toInt32.toInt8.toInt32) (x1.toInt8.toInt32.toInt8.toInt32) (x2.toInt8.toInt32.toInt8.toInt32) (x3.toInt8.toInt32.toInt8.toInt32)
  have b0 := c_i2b v
  have b1 := c_i2b x1
  have b2 := c_i2b x2
  have b3 := c_i2b x3
  have d0 := c_i2b (v.toInt8.toInt32)
  have d1 := c_i2b (x1.toInt8.toInt32)
  have d2 := c_i2b (x2.toInt8.toInt32)
  have d3 := c_i2b (x3.toInt8.toInt32)
  have r := rng32 v
  rw [← Int32.toInt_inj]
  have q := rng32 (own_le (v.toInt8.toInt32.toInt8.toInt32) (x1.toInt8.toInt32.toInt8.toInt32) (x2.toInt8.toInt32.toInt8.toInt32) (x3.toInt8.toInt32.toInt8.toInt32))
  omega
theorem own_d1_0 : decode prog_7_method_3_code 0 = .ok (.aload_n 0, 1) := by decide +kernel
theorem own_d1_1 : decode prog_7_method_3_code 1 = .ok (.iload_n 1, 1) := by decide +kernel
theorem own_d1_2 : decode prog_7_method_3_code 2 = .ok (.baload, 1) := by decide +kernel
theorem own_d1_3 : decode prog_7_method_3_code 3 = .ok (.sipush 255, 3) := by decide +kernel
theorem own_d1_6 : decode prog_7_method_3_code 6 = .ok (.iand, 1) := by decide +kernel
theorem own_d1_7 : decode prog_7_method_3_code 7 = .ok (.aload_n 0, 1) := by decide +kernel
theorem own_d1_8 : decode prog_7_method_3_code 8 = .ok (.iload_n 1, 1) := by decide +kernel
theorem own_d1_9 : decode prog_7_method_3_code 9 = .ok (.iconst 1, 1) := by decide +kernel
theorem own_d1_10 : decode prog_7_method_3_code 10 = .ok (.iadd, 1) := by decide +kernel
theorem own_d1_11 : decode prog_7_method_3_code 11 = .ok (.baload, 1) := by decide +kernel
theorem own_d1_12 : decode prog_7_method_3_code 12 = .ok (.sipush 255, 3) := by decide +kernel
theorem own_d1_15 : decode prog_7_method_3_code 15 = .ok (.iand, 1) := by decide +kernel
theorem own_d1_16 : decode prog_7_method_3_code 16 = .ok (.bipush 8, 2) := by decide +kernel
theorem own_d1_18 : decode prog_7_method_3_code 18 = .ok (.ishl, 1) := by decide +kernel
theorem own_d1_19 : decode prog_7_method_3_code 19 = .ok (.ior, 1) := by decide +kernel
theorem own_d1_20 : decode prog_7_method_3_code 20 = .ok (.aload_n 0, 1) := by decide +kernel
theorem own_d1_21 : decode prog_7_method_3_code 21 = .ok (.iload_n 1, 1) := by decide +kernel
theorem own_d1_22 : decode prog_7_method_3_code 22 = .ok (.iconst 2, 1) := by decide +kernel
theorem own_d1_23 : decode prog_7_method_3_code 23 = .ok (.iadd, 1) := by decide +kernel
theorem own_d1_24 : decode prog_7_method_3_code 24 = .ok (.baload, 1) := by decide +kernel
theorem own_d1_25 : decode prog_7_method_3_code 25 = .ok (.sipush 255, 3) := by decide +kernel
theorem own_d1_28 : decode prog_7_method_3_code 28 = .ok (.iand, 1) := by decide +kernel
theorem own_d1_29 : decode prog_7_method_3_code 29 = .ok (.bipush 16, 2) := by decide +kernel
theorem own_d1_31 : decode prog_7_method_3_code 31 = .ok (.ishl, 1) := by decide +kernel
theorem own_d1_32 : decode prog_7_method_3_code 32 = .ok (.ior, 1) := by decide +kernel
theorem own_d1_33 : decode prog_7_method_3_code 33 = .ok (.aload_n 0, 1) := by decide +kernel
theorem own_d1_34 : decode prog_7_method_3_code 34 = .ok (.iload_n 1, 1) := by decide +kernel
theorem own_d1_35 : decode prog_7_method_3_code 35 = .ok (.iconst 3, 1) := by decide +kernel
theorem own_d1_36 : decode prog_7_method_3_code 36 = .ok (.iadd, 1) := by decide +kernel
theorem own_d1_37 : decode prog_7_method_3_code 37 = .ok (.baload, 1) := by decide +kernel
theorem own_d1_38 : decode prog_7_method_3_code 38 = .ok (.bipush 24, 2) := by decide +kernel
theorem own_d1_40 : decode prog_7_method_3_code 40 = .ok (.ishl, 1) := by decide +kernel
theorem own_d1_41 : decode prog_7_method_3_code 41 = .ok (.ior, 1) := by decide +kernel
theorem own_d1_42 : decode prog_7_method_3_code 42 = .ok (.ireturn, 1) := by decide +kernel
abbrev own_int32_0_R : Room := { frames := 0, cells := 0, slots := 0, locals := 0 }
theorem own_pn1 : plainFor (⟨"com/example/bowerbird/bowerbird/BsonTree", "int32", "([BI)I"⟩ : MethodName) = true := plainFor_of_name (by first | (simp [plainName, overriddenIn]; done) | decide +kernel)
theorem own_int32_0_ef (m : MethodId) (a1 : Addr) : entryFrame m #[(.ref a1), (.int (0 : Int32))] 2 = mkF m 0 #[.val (.ref a1), .val (.int (0 : Int32))] [] := by first | (simp [entryFrame, mkF, argsToLocals, Value.category]; done) | rfl
set_option maxRecDepth 65536 in
set_option maxHeartbeats 40000000 in
theorem own_int32_0 (l : Launch) (Z : State) (a0 : Array Value) (hw : ∀ d ∈ tables_1, d.before a0 Z = true) (ws : List Jvm.Cond) (a1 : Addr) (k0 : ClassId) (b0 : Int32) (b1 : Int32) (b2 : Int32) (b3 : Int32) (b4 : Int32) (b5 : Int32) (b6 : Int32) (b7 : Int32) (h0 : Heap)  (i_V0 : Arv Z h0 a1 k0 .byte (8 : Int32) [(.int b0), (.int b1), (.int b2), (.int b3), (.int b4), (.int b5), (.int b6), (.int b7)] (.int (0 : Int32))) :
    own_C l Z (⟨"com/example/bowerbird/bowerbird/BsonTree", "int32", "([BI)I"⟩ : MethodName) prog_7_method_3_code 2 (some .int) ws own_int32_0_R #[(.ref a1), (.int (0 : Int32))] h0 (own_Q (.int (own_le b0 b1 b2 b3)) h0) := by
  refine MetFree.of_bodySF own_pn1 hisR ?_
  intro p e s m args below meth c s₁ Bd hml0 hP hK
  obtain ⟨rfl, hZ, hh⟩ := hP
  have hx := Bd.exec
  have hby := Bd.bytes
  have hml : c.maxLocals = 2 := hml0
  have hown : s.vm.findClass "com/example/bowerbird/bowerbird/BsonTree" = some m.cls := findClass_of_methodNamed Bd.named
  have hnm := (name_of_methodNamed Bd.named Bd.method).1
  have X0 : Stand p l e own_int32_0_R s m #[(.ref a1), (.int (0 : Int32))] below meth c s₁ [] 0 0 := Stand.of_body Bd
  have e0 : s₁.heap = h0 := by rw [← hh, Bd.state]; rfl
  show own_G p e below (own_P s (own_Q (.int (own_le b0 b1 b2 b3)) h0) own_int32_0_R.cells own_int32_0_R.slots) (s₁.setTop (entryFrame m #[(.ref a1), (.int (0 : Int32))] 2))
  rw [own_int32_0_ef m a1]
  show own_G p e below _ (s₁.setTop (mkF m 0 #[.val (.ref a1), .val (.int (0 : Int32))] []))
  refine own_via (fun t k => XS.aloadN X0.here hx rfl (hb hby own_d1_0) rfl rfl k) ?_
  show own_G p e below _ (s₁.setTop (mkF m 1 #[.val (.ref a1), .val (.int (0 : Int32))] [(.ref a1)]))
  refine own_via (fun t k => XS.iloadN X0.here hx rfl (hb hby own_d1_1) rfl k) ?_
  show own_G p e below _ (s₁.setTop (mkF m 2 #[.val (.ref a1), .val (.int (0 : Int32))] [(.int (0 : Int32)), (.ref a1)]))
  refine own_via (own_ldB X0 hx hZ e0 i_V0 (j := (0 : Int32)) ⟨by decide, by decide⟩ (v := (.int b0)) rfl (pc := 2) (Ls := #[.val (.ref a1), .val (.int (0 : Int32))]) (rest := []) (hb hby own_d1_2)) ?_
  show own_G p e below _ (s₁.setTop (mkF m 3 #[.val (.ref a1), .val (.int (0 : Int32))] [(.int b0)]))
  refine own_via (fun t k => XS.sipush X0.here hx rfl (hb hby own_d1_3) k) ?_
  show own_G p e below _ (s₁.setTop (mkF m 6 #[.val (.ref a1), .val (.int (0 : Int32))] [(.int (255 : Int32)), (.int b0)]))
  refine own_via (fun t k => XS.iand X0.here hx rfl (hb hby own_d1_6) rfl k) ?_
  show own_G p e below _ (s₁.setTop (mkF m 7 #[.val (.ref a1), .val (.int (0 : Int32))] [(.int (b0 &&& (255 : Int32)))]))
  refine own_via (fun t k => XS.aloadN X0.here hx rfl (hb hby own_d1_7) rfl rfl k) ?_
  show own_G p e below _ (s₁.setTop (mkF m 8 #[.val (.ref a1), .val (.int (0 : Int32))] [(.ref a1), (.int (b0 &&& (255 : Int32)))]))
  refine own_via (fun t k => XS.iloadN X0.here hx rfl (hb hby own_d1_8) rfl k) ?_
  show own_G p e below _ (s₁.setTop (mkF m 9 #[.val (.ref a1), .val (.int (0 : Int32))] [(.int (0 : Int32)), (.ref a1), (.int (b0 &&& (255 : Int32)))]))
  refine own_via (fun t k => XS.iconst X0.here hx rfl (hb hby own_d1_9) k) ?_
  show own_G p e below _ (s₁.setTop (mkF m 10 #[.val (.ref a1), .val (.int (0 : Int32))] [(.int (1 : Int32)), (.int (0 : Int32)), (.ref a1), (.int (b0 &&& (255 : Int32)))]))
  refine own_via (fun t k => XS.iadd X0.here hx rfl (hb hby own_d1_10) rfl k) ?_
  show own_G p e below _ (s₁.setTop (mkF m 11 #[.val (.ref a1), .val (.int (0 : Int32))] [(.int (1 : Int32)), (.ref a1), (.int (b0 &&& (255 : Int32)))]))
  refine own_via (own_ldB X0 hx hZ e0 i_V0 (j := (1 : Int32)) ⟨by decide, by decide⟩ (v := (.int b1)) rfl (pc := 11) (Ls := #[.val (.ref a1), .val (.int (0 : Int32))]) (rest := [(.int (b0 &&& (255 : Int32)))]) (hb hby own_d1_11)) ?_
  show own_G p e below _ (s₁.setTop (mkF m 12 #[.val (.ref a1), .val (.int (0 : Int32))] [(.int b1), (.int (b0 &&& (255 : Int32)))]))
  refine own_via (fun t k => XS.sipush X0.here hx rfl (hb hby own_d1_12) k) ?_
  show own_G p e below _ (s₁.setTop (mkF m 15 #[.val (.ref a1), .val (.int (0 : Int32))] [(.int (255 : Int32)), (.int b1), (.int (b0 &&& (255 : Int32)))]))
  refine own_via (fun t k => XS.iand X0.here hx rfl (hb hby own_d1_15) rfl k) ?_
  show own_G p e below _ (s₁.setTop (mkF m 16 #[.val (.ref a1), .val (.int (0 : Int32))] [(.int (b1 &&& (255 : Int32))), (.int (b0 &&& (255 : Int32)))]))
  refine own_via (fun t k => XS.bipush X0.here hx rfl (hb hby own_d1_16) k) ?_
  show own_G p e below _ (s₁.setTop (mkF m 18 #[.val (.ref a1), .val (.int (0 : Int32))] [(.int (8 : Int32)), (.int (b1 &&& (255 : Int32))), (.int (b0 &&& (255 : Int32)))]))
  refine own_via (fun t k => XS.ishl X0.here hx rfl (hb hby own_d1_18) rfl k) ?_
  show own_G p e below _ (s₁.setTop (mkF m 19 #[.val (.ref a1), .val (.int (0 : Int32))] [(.int ((b1 &&& (255 : Int32)) <<< ((8 : Int32) &&& 31))), (.int (b0 &&& (255 : Int32)))]))
  refine own_via (fun t k => XS.ior X0.here hx rfl (hb hby own_d1_19) rfl k) ?_
  show own_G p e below _ (s₁.setTop (mkF m 20 #[.val (.ref a1), .val (.int (0 : Int32))] [(.int ((b0 &&& (255 : Int32)) ||| ((b1 &&& (255 : Int32)) <<< ((8 : Int32) &&& 31))))]))
  refine own_via (fun t k => XS.aloadN X0.here hx rfl (hb hby own_d1_20) rfl rfl k) ?_
  show own_G p e below _ (s₁.setTop (mkF m 21 #[.val (.ref a1), .val (.int (0 : Int32))] [(.ref a1), (.int ((b0 &&& (255 : Int32)) ||| ((b1 &&& (255 : Int32)) <<< ((8 : Int32) &&& 31))))]))
  refine own_via (fun t k => XS.iloadN X0.here hx rfl (hb hby own_d1_21) rfl k) ?_
  show own_G p e below _ (s₁.setTop (mkF m 22 #[.val (.ref a1), .val (.int (0 : Int32))] [(.int (0 : Int32)), (.ref a1), (.int ((b0 &&& (255 : Int32)) ||| ((b1 &&& (255 : Int32)) <<< ((8 : Int32) &&& 31))))]))
  refine own_via (fun t k => XS.iconst X0.here hx rfl (hb hby own_d1_22) k) ?_
  show own_G p e below _ (s₁.setTop (mkF m 23 #[.val (.ref a1), .val (.int (0 : Int32))] [(.int (2 : Int32)), (.int (0 : Int32)), (.ref a1), (.int ((b0 &&& (255 : Int32)) ||| ((b1 &&& (255 : Int32)) <<< ((8 : Int32) &&& 31))))]))
  refine own_via (fun t k => XS.iadd X0.here hx rfl (hb hby own_d1_23) rfl k) ?_
  show own_G p e below _ (s₁.setTop (mkF m 24 #[.val (.ref a1), .val (.int (0 : Int32))] [(.int (2 : Int32)), (.ref a1), (.int ((b0 &&& (255 : Int32)) ||| ((b1 &&& (255 : Int32)) <<< ((8 : Int32) &&& 31))))]))
  refine own_via (own_ldB X0 hx hZ e0 i_V0 (j := (2 : Int32)) ⟨by decide, by decide⟩ (v := (.int b2)) rfl (pc := 24) (Ls := #[.val (.ref a1), .val (.int (0 : Int32))]) (rest := [(.int ((b0 &&& (255 : Int32)) ||| ((b1 &&& (255 : Int32)) <<< ((8 : Int32) &&& 31))))]) (hb hby own_d1_24)) ?_
  show own_G p e below _ (s₁.setTop (mkF m 25 #[.val (.ref a1), .val (.int (0 : Int32))] [(.int b2), (.int ((b0 &&& (255 : Int32)) ||| ((b1 &&& (255 : Int32)) <<< ((8 : Int32) &&& 31))))]))
  refine own_via (fun t k => XS.sipush X0.here hx rfl (hb hby own_d1_25) k) ?_
  show own_G p e below _ (s₁.setTop (mkF m 28 #[.val (.ref a1), .val (.int (0 : Int32))] [(.int (255 : Int32)), (.int b2), (.int ((b0 &&& (255 : Int32)) ||| ((b1 &&& (255 : Int32)) <<< ((8 : Int32) &&& 31))))]))
  refine own_via (fun t k => XS.iand X0.here hx rfl (hb hby own_d1_28) rfl k) ?_
  show own_G p e below _ (s₁.setTop (mkF m 29 #[.val (.ref a1), .val (.int (0 : Int32))] [(.int (b2 &&& (255 : Int32))), (.int ((b0 &&& (255 : Int32)) ||| ((b1 &&& (255 : Int32)) <<< ((8 : Int32) &&& 31))))]))
  refine own_via (fun t k => XS.bipush X0.here hx rfl (hb hby own_d1_29) k) ?_
  show own_G p e below _ (s₁.setTop (mkF m 31 #[.val (.ref a1), .val (.int (0 : Int32))] [(.int (16 : Int32)), (.int (b2 &&& (255 : Int32))), (.int ((b0 &&& (255 : Int32)) ||| ((b1 &&& (255 : Int32)) <<< ((8 : Int32) &&& 31))))]))
  refine own_via (fun t k => XS.ishl X0.here hx rfl (hb hby own_d1_31) rfl k) ?_
  show own_G p e below _ (s₁.setTop (mkF m 32 #[.val (.ref a1), .val (.int (0 : Int32))] [(.int ((b2 &&& (255 : Int32)) <<< ((16 : Int32) &&& 31))), (.int ((b0 &&& (255 : Int32)) ||| ((b1 &&& (255 : Int32)) <<< ((8 : Int32) &&& 31))))]))
  refine own_via (fun t k => XS.ior X0.here hx rfl (hb hby own_d1_32) rfl k) ?_
  show own_G p e below _ (s₁.setTop (mkF m 33 #[.val (.ref a1), .val (.int (0 : Int32))] [(.int (((b0 &&& (255 : Int32)) ||| ((b1 &&& (255 : Int32)) <<< ((8 : Int32) &&& 31))) ||| ((b2 &&& (255 : Int32)) <<< ((16 : Int32) &&& 31))))]))
  refine own_via (fun t k => XS.aloadN X0.here hx rfl (hb hby own_d1_33) rfl rfl k) ?_
  show own_G p e below _ (s₁.setTop (mkF m 34 #[.val (.ref a1), .val (.int (0 : Int32))] [(.ref a1), (.int (((b0 &&& (255 : Int32)) ||| ((b1 &&& (255 : Int32)) <<< ((8 : Int32) &&& 31))) ||| ((b2 &&& (255 : Int32)) <<< ((16 : Int32) &&& 31))))]))
  refine own_via (fun t k => XS.iloadN X0.here hx rfl (hb hby own_d1_34) rfl k) ?_
  show own_G p e below _ (s₁.setTop (mkF m 35 #[.val (.ref a1), .val (.int (0 : Int32))] [(.int (0 : Int32)), (.ref a1), (.int (((b0 &&& (255 : Int32)) ||| ((b1 &&& (255 : Int32)) <<< ((8 : Int32) &&& 31))) ||| ((b2 &&& (255 : Int32)) <<< ((16 : Int32) &&& 31))))]))
  refine own_via (fun t k => XS.iconst X0.here hx rfl (hb hby own_d1_35) k) ?_
  show own_G p e below _ (s₁.setTop (mkF m 36 #[.val (.ref a1), .val (.int (0 : Int32))] [(.int (3 : Int32)), (.int (0 : Int32)), (.ref a1), (.int (((b0 &&& (255 : Int32)) ||| ((b1 &&& (255 : Int32)) <<< ((8 : Int32) &&& 31))) ||| ((b2 &&& (255 : Int32)) <<< ((16 : Int32) &&& 31))))]))
  refine own_via (fun t k => XS.iadd X0.here hx rfl (hb hby own_d1_36) rfl k) ?_
  show own_G p e below _ (s₁.setTop (mkF m 37 #[.val (.ref a1), .val (.int (0 : Int32))] [(.int (3 : Int32)), (.ref a1), (.int (((b0 &&& (255 : Int32)) ||| ((b1 &&& (255 : Int32)) <<< ((8 : Int32) &&& 31))) ||| ((b2 &&& (255 : Int32)) <<< ((16 : Int32) &&& 31))))]))
  refine own_via (own_ldB X0 hx hZ e0 i_V0 (j := (3 : Int32)) ⟨by decide, by decide⟩ (v := (.int b3)) rfl (pc := 37) (Ls := #[.val (.ref a1), .val (.int (0 : Int32))]) (rest := [(.int (((b0 &&& (255 : Int32)) ||| ((b1 &&& (255 : Int32)) <<< ((8 : Int32) &&& 31))) ||| ((b2 &&& (255 : Int32)) <<< ((16 : Int32) &&& 31))))]) (hb hby own_d1_37)) ?_
  show own_G p e below _ (s₁.setTop (mkF m 38 #[.val (.ref a1), .val (.int (0 : Int32))] [(.int b3), (.int (((b0 &&& (255 : Int32)) ||| ((b1 &&& (255 : Int32)) <<< ((8 : Int32) &&& 31))) ||| ((b2 &&& (255 : Int32)) <<< ((16 : Int32) &&& 31))))]))
  refine own_via (fun t k => XS.bipush X0.here hx rfl (hb hby own_d1_38) k) ?_
  show own_G p e below _ (s₁.setTop (mkF m 40 #[.val (.ref a1), .val (.int (0 : Int32))] [(.int (24 : Int32)), (.int b3), (.int (((b0 &&& (255 : Int32)) ||| ((b1 &&& (255 : Int32)) <<< ((8 : Int32) &&& 31))) ||| ((b2 &&& (255 : Int32)) <<< ((16 : Int32) &&& 31))))]))
  refine own_via (fun t k => XS.ishl X0.here hx rfl (hb hby own_d1_40) rfl k) ?_
  show own_G p e below _ (s₁.setTop (mkF m 41 #[.val (.ref a1), .val (.int (0 : Int32))] [(.int (b3 <<< ((24 : Int32) &&& 31))), (.int (((b0 &&& (255 : Int32)) ||| ((b1 &&& (255 : Int32)) <<< ((8 : Int32) &&& 31))) ||| ((b2 &&& (255 : Int32)) <<< ((16 : Int32) &&& 31))))]))
  refine own_via (fun t k => XS.ior X0.here hx rfl (hb hby own_d1_41) rfl k) ?_
  show own_G p e below _ (s₁.setTop (mkF m 42 #[.val (.ref a1), .val (.int (0 : Int32))] [(.int ((((b0 &&& (255 : Int32)) ||| ((b1 &&& (255 : Int32)) <<< ((8 : Int32) &&& 31))) ||| ((b2 &&& (255 : Int32)) <<< ((16 : Int32) &&& 31))) ||| (b3 <<< ((24 : Int32) &&& 31))))]))
  exact own_retI X0 hx Bd.returns Bd.notSynchronized (hb hby own_d1_42) ⟨rfl, rfl, e0⟩ (by decide) (by decide)
abbrev own_int32_1_R : Room := { frames := 0, cells := 0, slots := 0, locals := 0 }
theorem own_int32_1_ef (m : MethodId) (a1 : Addr) : entryFrame m #[(.ref a1), (.int (1 : Int32))] 2 = mkF m 0 #[.val (.ref a1), .val (.int (1 : Int32))] [] := by first | (simp [entryFrame, mkF, argsToLocals, Value.category]; done) | rfl
set_option maxRecDepth 65536 in
set_option maxHeartbeats 40000000 in
theorem own_int32_1 (l : Launch) (Z : State) (a0 : Array Value) (hw : ∀ d ∈ tables_1, d.before a0 Z = true) (ws : List Jvm.Cond) (a1 : Addr) (k0 : ClassId) (b0 : Int32) (b1 : Int32) (b2 : Int32) (b3 : Int32) (b4 : Int32) (b5 : Int32) (b6 : Int32) (b7 : Int32) (h0 : Heap)  (i_V0 : Arv Z h0 a1 k0 .byte (8 : Int32) [(.int b0), (.int b1), (.int b2), (.int b3), (.int b4), (.int b5), (.int b6), (.int b7)] (.int (0 : Int32))) :
    own_C l Z (⟨"com/example/bowerbird/bowerbird/BsonTree", "int32", "([BI)I"⟩ : MethodName) prog_7_method_3_code 2 (some .int) ws own_int32_1_R #[(.ref a1), (.int (1 : Int32))] h0 (own_Q (.int (own_le b1 b2 b3 b4)) h0) := by
  refine MetFree.of_bodySF own_pn1 hisR ?_
  intro p e s m args below meth c s₁ Bd hml0 hP hK
  obtain ⟨rfl, hZ, hh⟩ := hP
  have hx := Bd.exec
  have hby := Bd.bytes
  have hml : c.maxLocals = 2 := hml0
  have hown : s.vm.findClass "com/example/bowerbird/bowerbird/BsonTree" = some m.cls := findClass_of_methodNamed Bd.named
  have hnm := (name_of_methodNamed Bd.named Bd.method).1
  have X0 : Stand p l e own_int32_1_R s m #[(.ref a1), (.int (1 : Int32))] below meth c s₁ [] 0 0 := Stand.of_body Bd
  have e0 : s₁.heap = h0 := by rw [← hh, Bd.state]; rfl
  show own_G p e below (own_P s (own_Q (.int (own_le b1 b2 b3 b4)) h0) own_int32_1_R.cells own_int32_1_R.slots) (s₁.setTop (entryFrame m #[(.ref a1), (.int (1 : Int32))] 2))
  rw [own_int32_1_ef m a1]
  show own_G p e below _ (s₁.setTop (mkF m 0 #[.val (.ref a1), .val (.int (1 : Int32))] []))
  refine own_via (fun t k => XS.aloadN X0.here hx rfl (hb hby own_d1_0) rfl rfl k) ?_
  show own_G p e below _ (s₁.setTop (mkF m 1 #[.val (.ref a1), .val (.int (1 : Int32))] [(.ref a1)]))
  refine own_via (fun t k => XS.iloadN X0.here hx rfl (hb hby own_d1_1) rfl k) ?_
  show own_G p e below _ (s₁.setTop (mkF m 2 #[.val (.ref a1), .val (.int (1 : Int32))] [(.int (1 : Int32)), (.ref a1)]))
  refine own_via (own_ldB X0 hx hZ e0 i_V0 (j := (1 : Int32)) ⟨by decide, by decide⟩ (v := (.int b1)) rfl (pc := 2) (Ls := #[.val (.ref a1), .val (.int (1 : Int32))]) (rest := []) (hb hby own_d1_2)) ?_
  show own_G p e below _ (s₁.setTop (mkF m 3 #[.val (.ref a1), .val (.int (1 : Int32))] [(.int b1)]))
  refine own_via (fun t k => XS.sipush X0.here hx rfl (hb hby own_d1_3) k) ?_
  show own_G p e below _ (s₁.setTop (mkF m 6 #[.val (.ref a1), .val (.int (1 : Int32))] [(.int (255 : Int32)), (.int b1)]))
  refine own_via (fun t k => XS.iand X0.here hx rfl (hb hby own_d1_6) rfl k) ?_
  show own_G p e below _ (s₁.setTop (mkF m 7 #[.val (.ref a1), .val (.int (1 : Int32))] [(.int (b1 &&& (255 : Int32)))]))
  refine own_via (fun t k => XS.aloadN X0.here hx rfl (hb hby own_d1_7) rfl rfl k) ?_
  show own_G p e below _ (s₁.setTop (mkF m 8 #[.val (.ref a1), .val (.int (1 : Int32))] [(.ref a1), (.int (b1 &&& (255 : Int32)))]))
  refine own_via (fun t k => XS.iloadN X0.here hx rfl (hb hby own_d1_8) rfl k) ?_
  show own_G p e below _ (s₁.setTop (mkF m 9 #[.val (.ref a1), .val (.int (1 : Int32))] [(.int (1 : Int32)), (.ref a1), (.int (b1 &&& (255 : Int32)))]))
  refine own_via (fun t k => XS.iconst X0.here hx rfl (hb hby own_d1_9) k) ?_
  show own_G p e below _ (s₁.setTop (mkF m 10 #[.val (.ref a1), .val (.int (1 : Int32))] [(.int (1 : Int32)), (.int (1 : Int32)), (.ref a1), (.int (b1 &&& (255 : Int32)))]))
  refine own_via (fun t k => XS.iadd X0.here hx rfl (hb hby own_d1_10) rfl k) ?_
  show own_G p e below _ (s₁.setTop (mkF m 11 #[.val (.ref a1), .val (.int (1 : Int32))] [(.int (2 : Int32)), (.ref a1), (.int (b1 &&& (255 : Int32)))]))
  refine own_via (own_ldB X0 hx hZ e0 i_V0 (j := (2 : Int32)) ⟨by decide, by decide⟩ (v := (.int b2)) rfl (pc := 11) (Ls := #[.val (.ref a1), .val (.int (1 : Int32))]) (rest := [(.int (b1 &&& (255 : Int32)))]) (hb hby own_d1_11)) ?_
  show own_G p e below _ (s₁.setTop (mkF m 12 #[.val (.ref a1), .val (.int (1 : Int32))] [(.int b2), (.int (b1 &&& (255 : Int32)))]))
  refine own_via (fun t k => XS.sipush X0.here hx rfl (hb hby own_d1_12) k) ?_
  show own_G p e below _ (s₁.setTop (mkF m 15 #[.val (.ref a1), .val (.int (1 : Int32))] [(.int (255 : Int32)), (.int b2), (.int (b1 &&& (255 : Int32)))]))
  refine own_via (fun t k => XS.iand X0.here hx rfl (hb hby own_d1_15) rfl k) ?_
  show own_G p e below _ (s₁.setTop (mkF m 16 #[.val (.ref a1), .val (.int (1 : Int32))] [(.int (b2 &&& (255 : Int32))), (.int (b1 &&& (255 : Int32)))]))
  refine own_via (fun t k => XS.bipush X0.here hx rfl (hb hby own_d1_16) k) ?_
  show own_G p e below _ (s₁.setTop (mkF m 18 #[.val (.ref a1), .val (.int (1 : Int32))] [(.int (8 : Int32)), (.int (b2 &&& (255 : Int32))), (.int (b1 &&& (255 : Int32)))]))
  refine own_via (fun t k => XS.ishl X0.here hx rfl (hb hby own_d1_18) rfl k) ?_
  show own_G p e below _ (s₁.setTop (mkF m 19 #[.val (.ref a1), .val (.int (1 : Int32))] [(.int ((b2 &&& (255 : Int32)) <<< ((8 : Int32) &&& 31))), (.int (b1 &&& (255 : Int32)))]))
  refine own_via (fun t k => XS.ior X0.here hx rfl (hb hby own_d1_19) rfl k) ?_
  show own_G p e below _ (s₁.setTop (mkF m 20 #[.val (.ref a1), .val (.int (1 : Int32))] [(.int ((b1 &&& (255 : Int32)) ||| ((b2 &&& (255 : Int32)) <<< ((8 : Int32) &&& 31))))]))
  refine own_via (fun t k => XS.aloadN X0.here hx rfl (hb hby own_d1_20) rfl rfl k) ?_
  show own_G p e below _ (s₁.setTop (mkF m 21 #[.val (.ref a1), .val (.int (1 : Int32))] [(.ref a1), (.int ((b1 &&& (255 : Int32)) ||| ((b2 &&& (255 : Int32)) <<< ((8 : Int32) &&& 31))))]))
  refine own_via (fun t k => XS.iloadN X0.here hx rfl (hb hby own_d1_21) rfl k) ?_
  show own_G p e below _ (s₁.setTop (mkF m 22 #[.val (.ref a1), .val (.int (1 : Int32))] [(.int (1 : Int32)), (.ref a1), (.int ((b1 &&& (255 : Int32)) ||| ((b2 &&& (255 : Int32)) <<< ((8 : Int32) &&& 31))))]))
  refine own_via (fun t k => XS.iconst X0.here hx rfl (hb hby own_d1_22) k) ?_
  show own_G p e below _ (s₁.setTop (mkF m 23 #[.val (.ref a1), .val (.int (1 : Int32))] [(.int (2 : Int32)), (.int (1 : Int32)), (.ref a1), (.int ((b1 &&& (255 : Int32)) ||| ((b2 &&& (255 : Int32)) <<< ((8 : Int32) &&& 31))))]))
  refine own_via (fun t k => XS.iadd X0.here hx rfl (hb hby own_d1_23) rfl k) ?_
  show own_G p e below _ (s₁.setTop (mkF m 24 #[.val (.ref a1), .val (.int (1 : Int32))] [(.int (3 : Int32)), (.ref a1), (.int ((b1 &&& (255 : Int32)) ||| ((b2 &&& (255 : Int32)) <<< ((8 : Int32) &&& 31))))]))
  refine own_via (own_ldB X0 hx hZ e0 i_V0 (j := (3 : Int32)) ⟨by decide, by decide⟩ (v := (.int b3)) rfl (pc := 24) (Ls := #[.val (.ref a1), .val (.int (1 : Int32))]) (rest := [(.int ((b1 &&& (255 : Int32)) ||| ((b2 &&& (255 : Int32)) <<< ((8 : Int32) &&& 31))))]) (hb hby own_d1_24)) ?_
  show own_G p e below _ (s₁.setTop (mkF m 25 #[.val (.ref a1), .val (.int (1 : Int32))] [(.int b3), (.int ((b1 &&& (255 : Int32)) ||| ((b2 &&& (255 : Int32)) <<< ((8 : Int32) &&& 31))))]))
  refine own_via (fun t k => XS.sipush X0.here hx rfl (hb hby own_d1_25) k) ?_
  show own_G p e below _ (s₁.setTop (mkF m 28 #[.val (.ref a1), .val (.int (1 : Int32))] [(.int (255 : Int32)), (.int b3), (.int ((b1 &&& (255 : Int32)) ||| ((b2 &&& (255 : Int32)) <<< ((8 : Int32) &&& 31))))]))
  refine own_via (fun t k => XS.iand X0.here hx rfl (hb hby own_d1_28) rfl k) ?_
  show own_G p e below _ (s₁.setTop (mkF m 29 #[.val (.ref a1), .val (.int (1 : Int32))] [(.int (b3 &&& (255 : Int32))), (.int ((b1 &&& (255 : Int32)) ||| ((b2 &&& (255 : Int32)) <<< ((8 : Int32) &&& 31))))]))
  refine own_via (fun t k => XS.bipush X0.here hx rfl (hb hby own_d1_29) k) ?_
  show own_G p e below _ (s₁.setTop (mkF m 31 #[.val (.ref a1), .val (.int (1 : Int32))] [(.int (16 : Int32)), (.int (b3 &&& (255 : Int32))), (.int ((b1 &&& (255 : Int32)) ||| ((b2 &&& (255 : Int32)) <<< ((8 : Int32) &&& 31))))]))
  refine own_via (fun t k => XS.ishl X0.here hx rfl (hb hby own_d1_31) rfl k) ?_
  show own_G p e below _ (s₁.setTop (mkF m 32 #[.val (.ref a1), .val (.int (1 : Int32))] [(.int ((b3 &&& (255 : Int32)) <<< ((16 : Int32) &&& 31))), (.int ((b1 &&& (255 : Int32)) ||| ((b2 &&& (255 : Int32)) <<< ((8 : Int32) &&& 31))))]))
  refine own_via (fun t k => XS.ior X0.here hx rfl (hb hby own_d1_32) rfl k) ?_
  show own_G p e below _ (s₁.setTop (mkF m 33 #[.val (.ref a1), .val (.int (1 : Int32))] [(.int (((b1 &&& (255 : Int32)) ||| ((b2 &&& (255 : Int32)) <<< ((8 : Int32) &&& 31))) ||| ((b3 &&& (255 : Int32)) <<< ((16 : Int32) &&& 31))))]))
  refine own_via (fun t k => XS.aloadN X0.here hx rfl (hb hby own_d1_33) rfl rfl k) ?_
  show own_G p e below _ (s₁.setTop (mkF m 34 #[.val (.ref a1), .val (.int (1 : Int32))] [(.ref a1), (.int (((b1 &&& (255 : Int32)) ||| ((b2 &&& (255 : Int32)) <<< ((8 : Int32) &&& 31))) ||| ((b3 &&& (255 : Int32)) <<< ((16 : Int32) &&& 31))))]))
  refine own_via (fun t k => XS.iloadN X0.here hx rfl (hb hby own_d1_34) rfl k) ?_
  show own_G p e below _ (s₁.setTop (mkF m 35 #[.val (.ref a1), .val (.int (1 : Int32))] [(.int (1 : Int32)), (.ref a1), (.int (((b1 &&& (255 : Int32)) ||| ((b2 &&& (255 : Int32)) <<< ((8 : Int32) &&& 31))) ||| ((b3 &&& (255 : Int32)) <<< ((16 : Int32) &&& 31))))]))
  refine own_via (fun t k => XS.iconst X0.here hx rfl (hb hby own_d1_35) k) ?_
  show own_G p e below _ (s₁.setTop (mkF m 36 #[.val (.ref a1), .val (.int (1 : Int32))] [(.int (3 : Int32)), (.int (1 : Int32)), (.ref a1), (.int (((b1 &&& (255 : Int32)) ||| ((b2 &&& (255 : Int32)) <<< ((8 : Int32) &&& 31))) ||| ((b3 &&& (255 : Int32)) <<< ((16 : Int32) &&& 31))))]))
  refine own_via (fun t k => XS.iadd X0.here hx rfl (hb hby own_d1_36) rfl k) ?_
  show own_G p e below _ (s₁.setTop (mkF m 37 #[.val (.ref a1), .val (.int (1 : Int32))] [(.int (4 : Int32)), (.ref a1), (.int (((b1 &&& (255 : Int32)) ||| ((b2 &&& (255 : Int32)) <<< ((8 : Int32) &&& 31))) ||| ((b3 &&& (255 : Int32)) <<< ((16 : Int32) &&& 31))))]))
  refine own_via (own_ldB X0 hx hZ e0 i_V0 (j := (4 : Int32)) ⟨by decide, by decide⟩ (v := (.int b4)) rfl (pc := 37) (Ls := #[.val (.ref a1), .val (.int (1 : Int32))]) (rest := [(.int (((b1 &&& (255 : Int32)) ||| ((b2 &&& (255 : Int32)) <<< ((8 : Int32) &&& 31))) ||| ((b3 &&& (255 : Int32)) <<< ((16 : Int32) &&& 31))))]) (hb hby own_d1_37)) ?_
  show own_G p e below _ (s₁.setTop (mkF m 38 #[.val (.ref a1), .val (.int (1 : Int32))] [(.int b4), (.int (((b1 &&& (255 : Int32)) ||| ((b2 &&& (255 : Int32)) <<< ((8 : Int32) &&& 31))) ||| ((b3 &&& (255 : Int32)) <<< ((16 : Int32) &&& 31))))]))
  refine own_via (fun t k => XS.bipush X0.here hx rfl (hb hby own_d1_38) k) ?_
  show own_G p e below _ (s₁.setTop (mkF m 40 #[.val (.ref a1), .val (.int (1 : Int32))] [(.int (24 : Int32)), (.int b4), (.int (((b1 &&& (255 : Int32)) ||| ((b2 &&& (255 : Int32)) <<< ((8 : Int32) &&& 31))) ||| ((b3 &&& (255 : Int32)) <<< ((16 : Int32) &&& 31))))]))
  refine own_via (fun t k => XS.ishl X0.here hx rfl (hb hby own_d1_40) rfl k) ?_
  show own_G p e below _ (s₁.setTop (mkF m 41 #[.val (.ref a1), .val (.int (1 : Int32))] [(.int (b4 <<< ((24 : Int32) &&& 31))), (.int (((b1 &&& (255 : Int32)) ||| ((b2 &&& (255 : Int32)) <<< ((8 : Int32) &&& 31))) ||| ((b3 &&& (255 : Int32)) <<< ((16 : Int32) &&& 31))))]))
  refine own_via (fun t k => XS.ior X0.here hx rfl (hb hby own_d1_41) rfl k) ?_
  show own_G p e below _ (s₁.setTop (mkF m 42 #[.val (.ref a1), .val (.int (1 : Int32))] [(.int ((((b1 &&& (255 : Int32)) ||| ((b2 &&& (255 : Int32)) <<< ((8 : Int32) &&& 31))) ||| ((b3 &&& (255 : Int32)) <<< ((16 : Int32) &&& 31))) ||| (b4 <<< ((24 : Int32) &&& 31))))]))
  exact own_retI X0 hx Bd.returns Bd.notSynchronized (hb hby own_d1_42) ⟨rfl, rfl, e0⟩ (by decide) (by decide)
abbrev own_int32_2_R : Room := { frames := 0, cells := 0, slots := 0, locals := 0 }
theorem own_int32_2_ef (m : MethodId) (a1 : Addr) : entryFrame m #[(.ref a1), (.int (2 : Int32))] 2 = mkF m 0 #[.val (.ref a1), .val (.int (2 : Int32))] [] := by first | (simp [entryFrame, mkF, argsToLocals, Value.category]; done) | rfl
set_option maxRecDepth 65536 in
set_option maxHeartbeats 40000000 in
theorem own_int32_2 (l : Launch) (Z : State) (a0 : Array Value) (hw : ∀ d ∈ tables_1, d.before a0 Z = true) (ws : List Jvm.Cond) (a1 : Addr) (k0 : ClassId) (b0 : Int32) (b1 : Int32) (b2 : Int32) (b3 : Int32) (b4 : Int32) (b5 : Int32) (b6 : Int32) (b7 : Int32) (h0 : Heap)  (i_V0 : Arv Z h0 a1 k0 .byte (8 : Int32) [(.int b0), (.int b1), (.int b2), (.int b3), (.int b4), (.int b5), (.int b6), (.int b7)] (.int (0 : Int32))) :
    own_C l Z (⟨"com/example/bowerbird/bowerbird/BsonTree", "int32", "([BI)I"⟩ : MethodName) prog_7_method_3_code 2 (some .int) ws own_int32_2_R #[(.ref a1), (.int (2 : Int32))] h0 (own_Q (.int (own_le b2 b3 b4 b5)) h0) := by
  refine MetFree.of_bodySF own_pn1 hisR ?_
  intro p e s m args below meth c s₁ Bd hml0 hP hK
  obtain ⟨rfl, hZ, hh⟩ := hP
  have hx := Bd.exec
  have hby := Bd.bytes
  have hml : c.maxLocals = 2 := hml0
  have hown : s.vm.findClass "com/example/bowerbird/bowerbird/BsonTree" = some m.cls := findClass_of_methodNamed Bd.named
  have hnm := (name_of_methodNamed Bd.named Bd.method).1
  have X0 : Stand p l e own_int32_2_R s m #[(.ref a1), (.int (2 : Int32))] below meth c s₁ [] 0 0 := Stand.of_body Bd
  have e0 : s₁.heap = h0 := by rw [← hh, Bd.state]; rfl
  show own_G p e below (own_P s (own_Q (.int (own_le b2 b3 b4 b5)) h0) own_int32_2_R.cells own_int32_2_R.slots) (s₁.setTop (entryFrame m #[(.ref a1), (.int (2 : Int32))] 2))
  rw [own_int32_2_ef m a1]
  show own_G p e below _ (s₁.setTop (mkF m 0 #[.val (.ref a1), .val (.int (2 : Int32))] []))
  refine own_via (fun t k => XS.aloadN X0.here hx rfl (hb hby own_d1_0) rfl rfl k) ?_
  show own_G p e below _ (s₁.setTop (mkF m 1 #[.val (.ref a1), .val (.int (2 : Int32))] [(.ref a1)]))
  refine own_via (fun t k => XS.iloadN X0.here hx rfl (hb hby own_d1_1) rfl k) ?_
  show own_G p e below _ (s₁.setTop (mkF m 2 #[.val (.ref a1), .val (.int (2 : Int32))] [(.int (2 : Int32)), (.ref a1)]))
  refine own_via (own_ldB X0 hx hZ e0 i_V0 (j := (2 : Int32)) ⟨by decide, by decide⟩ (v := (.int b2)) rfl (pc := 2) (Ls := #[.val (.ref a1), .val (.int (2 : Int32))]) (rest := []) (hb hby own_d1_2)) ?_
  show own_G p e below _ (s₁.setTop (mkF m 3 #[.val (.ref a1), .val (.int (2 : Int32))] [(.int b2)]))
  refine own_via (fun t k => XS.sipush X0.here hx rfl (hb hby own_d1_3) k) ?_
  show own_G p e below _ (s₁.setTop (mkF m 6 #[.val (.ref a1), .val (.int (2 : Int32))] [(.int (255 : Int32)), (.int b2)]))
  refine own_via (fun t k => XS.iand X0.here hx rfl (hb hby own_d1_6) rfl k) ?_
  show own_G p e below _ (s₁.setTop (mkF m 7 #[.val (.ref a1), .val (.int (2 : Int32))] [(.int (b2 &&& (255 : Int32)))]))
  refine own_via (fun t k => XS.aloadN X0.here hx rfl (hb hby own_d1_7) rfl rfl k) ?_
  show own_G p e below _ (s₁.setTop (mkF m 8 #[.val (.ref a1), .val (.int (2 : Int32))] [(.ref a1), (.int (b2 &&& (255 : Int32)))]))
  refine own_via (fun t k => XS.iloadN X0.here hx rfl (hb hby own_d1_8) rfl k) ?_
  show own_G p e below _ (s₁.setTop (mkF m 9 #[.val (.ref a1), .val (.int (2 : Int32))] [(.int (2 : Int32)), (.ref a1), (.int (b2 &&& (255 : Int32)))]))
  refine own_via (fun t k => XS.iconst X0.here hx rfl (hb hby own_d1_9) k) ?_
  show own_G p e below _ (s₁.setTop (mkF m 10 #[.val (.ref a1), .val (.int (2 : Int32))] [(.int (1 : Int32)), (.int (2 : Int32)), (.ref a1), (.int (b2 &&& (255 : Int32)))]))
  refine own_via (fun t k => XS.iadd X0.here hx rfl (hb hby own_d1_10) rfl k) ?_
  show own_G p e below _ (s₁.setTop (mkF m 11 #[.val (.ref a1), .val (.int (2 : Int32))] [(.int (3 : Int32)), (.ref a1), (.int (b2 &&& (255 : Int32)))]))
  refine own_via (own_ldB X0 hx hZ e0 i_V0 (j := (3 : Int32)) ⟨by decide, by decide⟩ (v := (.int b3)) rfl (pc := 11) (Ls := #[.val (.ref a1), .val (.int (2 : Int32))]) (rest := [(.int (b2 &&& (255 : Int32)))]) (hb hby own_d1_11)) ?_
  show own_G p e below _ (s₁.setTop (mkF m 12 #[.val (.ref a1), .val (.int (2 : Int32))] [(.int b3), (.int (b2 &&& (255 : Int32)))]))
  refine own_via (fun t k => XS.sipush X0.here hx rfl (hb hby own_d1_12) k) ?_
  show own_G p e below _ (s₁.setTop (mkF m 15 #[.val (.ref a1), .val (.int (2 : Int32))] [(.int (255 : Int32)), (.int b3), (.int (b2 &&& (255 : Int32)))]))
  refine own_via (fun t k => XS.iand X0.here hx rfl (hb hby own_d1_15) rfl k) ?_
  show own_G p e below _ (s₁.setTop (mkF m 16 #[.val (.ref a1), .val (.int (2 : Int32))] [(.int (b3 &&& (255 : Int32))), (.int (b2 &&& (255 : Int32)))]))
  refine own_via (fun t k => XS.bipush X0.here hx rfl (hb hby own_d1_16) k) ?_
  show own_G p e below _ (s₁.setTop (mkF m 18 #[.val (.ref a1), .val (.int (2 : Int32))] [(.int (8 : Int32)), (.int (b3 &&& (255 : Int32))), (.int (b2 &&& (255 : Int32)))]))
  refine own_via (fun t k => XS.ishl X0.here hx rfl (hb hby own_d1_18) rfl k) ?_
  show own_G p e below _ (s₁.setTop (mkF m 19 #[.val (.ref a1), .val (.int (2 : Int32))] [(.int ((b3 &&& (255 : Int32)) <<< ((8 : Int32) &&& 31))), (.int (b2 &&& (255 : Int32)))]))
  refine own_via (fun t k => XS.ior X0.here hx rfl (hb hby own_d1_19) rfl k) ?_
  show own_G p e below _ (s₁.setTop (mkF m 20 #[.val (.ref a1), .val (.int (2 : Int32))] [(.int ((b2 &&& (255 : Int32)) ||| ((b3 &&& (255 : Int32)) <<< ((8 : Int32) &&& 31))))]))
  refine own_via (fun t k => XS.aloadN X0.here hx rfl (hb hby own_d1_20) rfl rfl k) ?_
  show own_G p e below _ (s₁.setTop (mkF m 21 #[.val (.ref a1), .val (.int (2 : Int32))] [(.ref a1), (.int ((b2 &&& (255 : Int32)) ||| ((b3 &&& (255 : Int32)) <<< ((8 : Int32) &&& 31))))]))
  refine own_via (fun t k => XS.iloadN X0.here hx rfl (hb hby own_d1_21) rfl k) ?_
  show own_G p e below _ (s₁.setTop (mkF m 22 #[.val (.ref a1), .val (.int (2 : Int32))] [(.int (2 : Int32)), (.ref a1), (.int ((b2 &&& (255 : Int32)) ||| ((b3 &&& (255 : Int32)) <<< ((8 : Int32) &&& 31))))]))
  refine own_via (fun t k => XS.iconst X0.here hx rfl (hb hby own_d1_22) k) ?_
  show own_G p e below _ (s₁.setTop (mkF m 23 #[.val (.ref a1), .val (.int (2 : Int32))] [(.int (2 : Int32)), (.int (2 : Int32)), (.ref a1), (.int ((b2 &&& (255 : Int32)) ||| ((b3 &&& (255 : Int32)) <<< ((8 : Int32) &&& 31))))]))
  refine own_via (fun t k => XS.iadd X0.here hx rfl (hb hby own_d1_23) rfl k) ?_
  show own_G p e below _ (s₁.setTop (mkF m 24 #[.val (.ref a1), .val (.int (2 : Int32))] [(.int (4 : Int32)), (.ref a1), (.int ((b2 &&& (255 : Int32)) ||| ((b3 &&& (255 : Int32)) <<< ((8 : Int32) &&& 31))))]))
  refine own_via (own_ldB X0 hx hZ e0 i_V0 (j := (4 : Int32)) ⟨by decide, by decide⟩ (v := (.int b4)) rfl (pc := 24) (Ls := #[.val (.ref a1), .val (.int (2 : Int32))]) (rest := [(.int ((b2 &&& (255 : Int32)) ||| ((b3 &&& (255 : Int32)) <<< ((8 : Int32) &&& 31))))]) (hb hby own_d1_24)) ?_
  show own_G p e below _ (s₁.setTop (mkF m 25 #[.val (.ref a1), .val (.int (2 : Int32))] [(.int b4), (.int ((b2 &&& (255 : Int32)) ||| ((b3 &&& (255 : Int32)) <<< ((8 : Int32) &&& 31))))]))
  refine own_via (fun t k => XS.sipush X0.here hx rfl (hb hby own_d1_25) k) ?_
  show own_G p e below _ (s₁.setTop (mkF m 28 #[.val (.ref a1), .val (.int (2 : Int32))] [(.int (255 : Int32)), (.int b4), (.int ((b2 &&& (255 : Int32)) ||| ((b3 &&& (255 : Int32)) <<< ((8 : Int32) &&& 31))))]))
  refine own_via (fun t k => XS.iand X0.here hx rfl (hb hby own_d1_28) rfl k) ?_
  show own_G p e below _ (s₁.setTop (mkF m 29 #[.val (.ref a1), .val (.int (2 : Int32))] [(.int (b4 &&& (255 : Int32))), (.int ((b2 &&& (255 : Int32)) ||| ((b3 &&& (255 : Int32)) <<< ((8 : Int32) &&& 31))))]))
  refine own_via (fun t k => XS.bipush X0.here hx rfl (hb hby own_d1_29) k) ?_
  show own_G p e below _ (s₁.setTop (mkF m 31 #[.val (.ref a1), .val (.int (2 : Int32))] [(.int (16 : Int32)), (.int (b4 &&& (255 : Int32))), (.int ((b2 &&& (255 : Int32)) ||| ((b3 &&& (255 : Int32)) <<< ((8 : Int32) &&& 31))))]))
  refine own_via (fun t k => XS.ishl X0.here hx rfl (hb hby own_d1_31) rfl k) ?_
  show own_G p e below _ (s₁.setTop (mkF m 32 #[.val (.ref a1), .val (.int (2 : Int32))] [(.int ((b4 &&& (255 : Int32)) <<< ((16 : Int32) &&& 31))), (.int ((b2 &&& (255 : Int32)) ||| ((b3 &&& (255 : Int32)) <<< ((8 : Int32) &&& 31))))]))
  refine own_via (fun t k => XS.ior X0.here hx rfl (hb hby own_d1_32) rfl k) ?_
  show own_G p e below _ (s₁.setTop (mkF m 33 #[.val (.ref a1), .val (.int (2 : Int32))] [(.int (((b2 &&& (255 : Int32)) ||| ((b3 &&& (255 : Int32)) <<< ((8 : Int32) &&& 31))) ||| ((b4 &&& (255 : Int32)) <<< ((16 : Int32) &&& 31))))]))
  refine own_via (fun t k => XS.aloadN X0.here hx rfl (hb hby own_d1_33) rfl rfl k) ?_
  show own_G p e below _ (s₁.setTop (mkF m 34 #[.val (.ref a1), .val (.int (2 : Int32))] [(.ref a1), (.int (((b2 &&& (255 : Int32)) ||| ((b3 &&& (255 : Int32)) <<< ((8 : Int32) &&& 31))) ||| ((b4 &&& (255 : Int32)) <<< ((16 : Int32) &&& 31))))]))
  refine own_via (fun t k => XS.iloadN X0.here hx rfl (hb hby own_d1_34) rfl k) ?_
  show own_G p e below _ (s₁.setTop (mkF m 35 #[.val (.ref a1), .val (.int (2 : Int32))] [(.int (2 : Int32)), (.ref a1), (.int (((b2 &&& (255 : Int32)) ||| ((b3 &&& (255 : Int32)) <<< ((8 : Int32) &&& 31))) ||| ((b4 &&& (255 : Int32)) <<< ((16 : Int32) &&& 31))))]))
  refine own_via (fun t k => XS.iconst X0.here hx rfl (hb hby own_d1_35) k) ?_
  show own_G p e below _ (s₁.setTop (mkF m 36 #[.val (.ref a1), .val (.int (2 : Int32))] [(.int (3 : Int32)), (.int (2 : Int32)), (.ref a1), (.int (((b2 &&& (255 : Int32)) ||| ((b3 &&& (255 : Int32)) <<< ((8 : Int32) &&& 31))) ||| ((b4 &&& (255 : Int32)) <<< ((16 : Int32) &&& 31))))]))
  refine own_via (fun t k => XS.iadd X0.here hx rfl (hb hby own_d1_36) rfl k) ?_
  show own_G p e below _ (s₁.setTop (mkF m 37 #[.val (.ref a1), .val (.int (2 : Int32))] [(.int (5 : Int32)), (.ref a1), (.int (((b2 &&& (255 : Int32)) ||| ((b3 &&& (255 : Int32)) <<< ((8 : Int32) &&& 31))) ||| ((b4 &&& (255 : Int32)) <<< ((16 : Int32) &&& 31))))]))
  refine own_via (own_ldB X0 hx hZ e0 i_V0 (j := (5 : Int32)) ⟨by decide, by decide⟩ (v := (.int b5)) rfl (pc := 37) (Ls := #[.val (.ref a1), .val (.int (2 : Int32))]) (rest := [(.int (((b2 &&& (255 : Int32)) ||| ((b3 &&& (255 : Int32)) <<< ((8 : Int32) &&& 31))) ||| ((b4 &&& (255 : Int32)) <<< ((16 : Int32) &&& 31))))]) (hb hby own_d1_37)) ?_
  show own_G p e below _ (s₁.setTop (mkF m 38 #[.val (.ref a1), .val (.int (2 : Int32))] [(.int b5), (.int (((b2 &&& (255 : Int32)) ||| ((b3 &&& (255 : Int32)) <<< ((8 : Int32) &&& 31))) ||| ((b4 &&& (255 : Int32)) <<< ((16 : Int32) &&& 31))))]))
  refine own_via (fun t k => XS.bipush X0.here hx rfl (hb hby own_d1_38) k) ?_
  show own_G p e below _ (s₁.setTop (mkF m 40 #[.val (.ref a1), .val (.int (2 : Int32))] [(.int (24 : Int32)), (.int b5), (.int (((b2 &&& (255 : Int32)) ||| ((b3 &&& (255 : Int32)) <<< ((8 : Int32) &&& 31))) ||| ((b4 &&& (255 : Int32)) <<< ((16 : Int32) &&& 31))))]))
  refine own_via (fun t k => XS.ishl X0.here hx rfl (hb hby own_d1_40) rfl k) ?_
  show own_G p e below _ (s₁.setTop (mkF m 41 #[.val (.ref a1), .val (.int (2 : Int32))] [(.int (b5 <<< ((24 : Int32) &&& 31))), (.int (((b2 &&& (255 : Int32)) ||| ((b3 &&& (255 : Int32)) <<< ((8 : Int32) &&& 31))) ||| ((b4 &&& (255 : Int32)) <<< ((16 : Int32) &&& 31))))]))
  refine own_via (fun t k => XS.ior X0.here hx rfl (hb hby own_d1_41) rfl k) ?_
  show own_G p e below _ (s₁.setTop (mkF m 42 #[.val (.ref a1), .val (.int (2 : Int32))] [(.int ((((b2 &&& (255 : Int32)) ||| ((b3 &&& (255 : Int32)) <<< ((8 : Int32) &&& 31))) ||| ((b4 &&& (255 : Int32)) <<< ((16 : Int32) &&& 31))) ||| (b5 <<< ((24 : Int32) &&& 31))))]))
  exact own_retI X0 hx Bd.returns Bd.notSynchronized (hb hby own_d1_42) ⟨rfl, rfl, e0⟩ (by decide) (by decide)
abbrev own_int32_3_R : Room := { frames := 0, cells := 0, slots := 0, locals := 0 }
theorem own_int32_3_ef (m : MethodId) (a1 : Addr) : entryFrame m #[(.ref a1), (.int (3 : Int32))] 2 = mkF m 0 #[.val (.ref a1), .val (.int (3 : Int32))] [] := by first | (simp [entryFrame, mkF, argsToLocals, Value.category]; done) | rfl
set_option maxRecDepth 65536 in
set_option maxHeartbeats 40000000 in
theorem own_int32_3 (l : Launch) (Z : State) (a0 : Array Value) (hw : ∀ d ∈ tables_1, d.before a0 Z = true) (ws : List Jvm.Cond) (a1 : Addr) (k0 : ClassId) (b0 : Int32) (b1 : Int32) (b2 : Int32) (b3 : Int32) (b4 : Int32) (b5 : Int32) (b6 : Int32) (b7 : Int32) (h0 : Heap)  (i_V0 : Arv Z h0 a1 k0 .byte (8 : Int32) [(.int b0), (.int b1), (.int b2), (.int b3), (.int b4), (.int b5), (.int b6), (.int b7)] (.int (0 : Int32))) :
    own_C l Z (⟨"com/example/bowerbird/bowerbird/BsonTree", "int32", "([BI)I"⟩ : MethodName) prog_7_method_3_code 2 (some .int) ws own_int32_3_R #[(.ref a1), (.int (3 : Int32))] h0 (own_Q (.int (own_le b3 b4 b5 b6)) h0) := by
  refine MetFree.of_bodySF own_pn1 hisR ?_
  intro p e s m args below meth c s₁ Bd hml0 hP hK
  obtain ⟨rfl, hZ, hh⟩ := hP
  have hx := Bd.exec
  have hby := Bd.bytes
  have hml : c.maxLocals = 2 := hml0
  have hown : s.vm.findClass "com/example/bowerbird/bowerbird/BsonTree" = some m.cls := findClass_of_methodNamed Bd.named
  have hnm := (name_of_methodNamed Bd.named Bd.method).1
  have X0 : Stand p l e own_int32_3_R s m #[(.ref a1), (.int (3 : Int32))] below meth c s₁ [] 0 0 := Stand.of_body Bd
  have e0 : s₁.heap = h0 := by rw [← hh, Bd.state]; rfl
  show own_G p e below (own_P s (own_Q (.int (own_le b3 b4 b5 b6)) h0) own_int32_3_R.cells own_int32_3_R.slots) (s₁.setTop (entryFrame m #[(.ref a1), (.int (3 : Int32))] 2))
  rw [own_int32_3_ef m a1]
  show own_G p e below _ (s₁.setTop (mkF m 0 #[.val (.ref a1), .val (.int (3 : Int32))] []))
  refine own_via (fun t k => XS.aloadN X0.here hx rfl (hb hby own_d1_0) rfl rfl k) ?_
  show own_G p e below _ (s₁.setTop (mkF m 1 #[.val (.ref a1), .val (.int (3 : Int32))] [(.ref a1)]))
  refine own_via (fun t k => XS.iloadN X0.here hx rfl (hb hby own_d1_1) rfl k) ?_
  show own_G p e below _ (s₁.setTop (mkF m 2 #[.val (.ref a1), .val (.int (3 : Int32))] [(.int (3 : Int32)), (.ref a1)]))
  refine own_via (own_ldB X0 hx hZ e0 i_V0 (j := (3 : Int32)) ⟨by decide, by decide⟩ (v := (.int b3)) rfl (pc := 2) (Ls := #[.val (.ref a1), .val (.int (3 : Int32))]) (rest := []) (hb hby own_d1_2)) ?_
  show own_G p e below _ (s₁.setTop (mkF m 3 #[.val (.ref a1), .val (.int (3 : Int32))] [(.int b3)]))
  refine own_via (fun t k => XS.sipush X0.here hx rfl (hb hby own_d1_3) k) ?_
  show own_G p e below _ (s₁.setTop (mkF m 6 #[.val (.ref a1), .val (.int (3 : Int32))] [(.int (255 : Int32)), (.int b3)]))
  refine own_via (fun t k => XS.iand X0.here hx rfl (hb hby own_d1_6) rfl k) ?_
  show own_G p e below _ (s₁.setTop (mkF m 7 #[.val (.ref a1), .val (.int (3 : Int32))] [(.int (b3 &&& (255 : Int32)))]))
  refine own_via (fun t k => XS.aloadN X0.here hx rfl (hb hby own_d1_7) rfl rfl k) ?_
  show own_G p e below _ (s₁.setTop (mkF m 8 #[.val (.ref a1), .val (.int (3 : Int32))] [(.ref a1), (.int (b3 &&& (255 : Int32)))]))
  refine own_via (fun t k => XS.iloadN X0.here hx rfl (hb hby own_d1_8) rfl k) ?_
  show own_G p e below _ (s₁.setTop (mkF m 9 #[.val (.ref a1), .val (.int (3 : Int32))] [(.int (3 : Int32)), (.ref a1), (.int (b3 &&& (255 : Int32)))]))
  refine own_via (fun t k => XS.iconst X0.here hx rfl (hb hby own_d1_9) k) ?_
  show own_G p e below _ (s₁.setTop (mkF m 10 #[.val (.ref a1), .val (.int (3 : Int32))] [(.int (1 : Int32)), (.int (3 : Int32)), (.ref a1), (.int (b3 &&& (255 : Int32)))]))
  refine own_via (fun t k => XS.iadd X0.here hx rfl (hb hby own_d1_10) rfl k) ?_
  show own_G p e below _ (s₁.setTop (mkF m 11 #[.val (.ref a1), .val (.int (3 : Int32))] [(.int (4 : Int32)), (.ref a1), (.int (b3 &&& (255 : Int32)))]))
  refine own_via (own_ldB X0 hx hZ e0 i_V0 (j := (4 : Int32)) ⟨by decide, by decide⟩ (v := (.int b4)) rfl (pc := 11) (Ls := #[.val (.ref a1), .val (.int (3 : Int32))]) (rest := [(.int (b3 &&& (255 : Int32)))]) (hb hby own_d1_11)) ?_
  show own_G p e below _ (s₁.setTop (mkF m 12 #[.val (.ref a1), .val (.int (3 : Int32))] [(.int b4), (.int (b3 &&& (255 : Int32)))]))
  refine own_via (fun t k => XS.sipush X0.here hx rfl (hb hby own_d1_12) k) ?_
  show own_G p e below _ (s₁.setTop (mkF m 15 #[.val (.ref a1), .val (.int (3 : Int32))] [(.int (255 : Int32)), (.int b4), (.int (b3 &&& (255 : Int32)))]))
  refine own_via (fun t k => XS.iand X0.here hx rfl (hb hby own_d1_15) rfl k) ?_
  show own_G p e below _ (s₁.setTop (mkF m 16 #[.val (.ref a1), .val (.int (3 : Int32))] [(.int (b4 &&& (255 : Int32))), (.int (b3 &&& (255 : Int32)))]))
  refine own_via (fun t k => XS.bipush X0.here hx rfl (hb hby own_d1_16) k) ?_
  show own_G p e below _ (s₁.setTop (mkF m 18 #[.val (.ref a1), .val (.int (3 : Int32))] [(.int (8 : Int32)), (.int (b4 &&& (255 : Int32))), (.int (b3 &&& (255 : Int32)))]))
  refine own_via (fun t k => XS.ishl X0.here hx rfl (hb hby own_d1_18) rfl k) ?_
  show own_G p e below _ (s₁.setTop (mkF m 19 #[.val (.ref a1), .val (.int (3 : Int32))] [(.int ((b4 &&& (255 : Int32)) <<< ((8 : Int32) &&& 31))), (.int (b3 &&& (255 : Int32)))]))
  refine own_via (fun t k => XS.ior X0.here hx rfl (hb hby own_d1_19) rfl k) ?_
  show own_G p e below _ (s₁.setTop (mkF m 20 #[.val (.ref a1), .val (.int (3 : Int32))] [(.int ((b3 &&& (255 : Int32)) ||| ((b4 &&& (255 : Int32)) <<< ((8 : Int32) &&& 31))))]))
  refine own_via (fun t k => XS.aloadN X0.here hx rfl (hb hby own_d1_20) rfl rfl k) ?_
  show own_G p e below _ (s₁.setTop (mkF m 21 #[.val (.ref a1), .val (.int (3 : Int32))] [(.ref a1), (.int ((b3 &&& (255 : Int32)) ||| ((b4 &&& (255 : Int32)) <<< ((8 : Int32) &&& 31))))]))
  refine own_via (fun t k => XS.iloadN X0.here hx rfl (hb hby own_d1_21) rfl k) ?_
  show own_G p e below _ (s₁.setTop (mkF m 22 #[.val (.ref a1), .val (.int (3 : Int32))] [(.int (3 : Int32)), (.ref a1), (.int ((b3 &&& (255 : Int32)) ||| ((b4 &&& (255 : Int32)) <<< ((8 : Int32) &&& 31))))]))
  refine own_via (fun t k => XS.iconst X0.here hx rfl (hb hby own_d1_22) k) ?_
  show own_G p e below _ (s₁.setTop (mkF m 23 #[.val (.ref a1), .val (.int (3 : Int32))] [(.int (2 : Int32)), (.int (3 : Int32)), (.ref a1), (.int ((b3 &&& (255 : Int32)) ||| ((b4 &&& (255 : Int32)) <<< ((8 : Int32) &&& 31))))]))
  refine own_via (fun t k => XS.iadd X0.here hx rfl (hb hby own_d1_23) rfl k) ?_
  show own_G p e below _ (s₁.setTop (mkF m 24 #[.val (.ref a1), .val (.int (3 : Int32))] [(.int (5 : Int32)), (.ref a1), (.int ((b3 &&& (255 : Int32)) ||| ((b4 &&& (255 : Int32)) <<< ((8 : Int32) &&& 31))))]))
  refine own_via (own_ldB X0 hx hZ e0 i_V0 (j := (5 : Int32)) ⟨by decide, by decide⟩ (v := (.int b5)) rfl (pc := 24) (Ls := #[.val (.ref a1), .val (.int (3 : Int32))]) (rest := [(.int ((b3 &&& (255 : Int32)) ||| ((b4 &&& (255 : Int32)) <<< ((8 : Int32) &&& 31))))]) (hb hby own_d1_24)) ?_
  show own_G p e below _ (s₁.setTop (mkF m 25 #[.val (.ref a1), .val (.int (3 : Int32))] [(.int b5), (.int ((b3 &&& (255 : Int32)) ||| ((b4 &&& (255 : Int32)) <<< ((8 : Int32) &&& 31))))]))
  refine own_via (fun t k => XS.sipush X0.here hx rfl (hb hby own_d1_25) k) ?_
  show own_G p e below _ (s₁.setTop (mkF m 28 #[.val (.ref a1), .val (.int (3 : Int32))] [(.int (255 : Int32)), (.int b5), (.int ((b3 &&& (255 : Int32)) ||| ((b4 &&& (255 : Int32)) <<< ((8 : Int32) &&& 31))))]))
  refine own_via (fun t k => XS.iand X0.here hx rfl (hb hby own_d1_28) rfl k) ?_
  show own_G p e below _ (s₁.setTop (mkF m 29 #[.val (.ref a1), .val (.int (3 : Int32))] [(.int (b5 &&& (255 : Int32))), (.int ((b3 &&& (255 : Int32)) ||| ((b4 &&& (255 : Int32)) <<< ((8 : Int32) &&& 31))))]))
  refine own_via (fun t k => XS.bipush X0.here hx rfl (hb hby own_d1_29) k) ?_
  show own_G p e below _ (s₁.setTop (mkF m 31 #[.val (.ref a1), .val (.int (3 : Int32))] [(.int (16 : Int32)), (.int (b5 &&& (255 : Int32))), (.int ((b3 &&& (255 : Int32)) ||| ((b4 &&& (255 : Int32)) <<< ((8 : Int32) &&& 31))))]))
  refine own_via (fun t k => XS.ishl X0.here hx rfl (hb hby own_d1_31) rfl k) ?_
  show own_G p e below _ (s₁.setTop (mkF m 32 #[.val (.ref a1), .val (.int (3 : Int32))] [(.int ((b5 &&& (255 : Int32)) <<< ((16 : Int32) &&& 31))), (.int ((b3 &&& (255 : Int32)) ||| ((b4 &&& (255 : Int32)) <<< ((8 : Int32) &&& 31))))]))
  refine own_via (fun t k => XS.ior X0.here hx rfl (hb hby own_d1_32) rfl k) ?_
  show own_G p e below _ (s₁.setTop (mkF m 33 #[.val (.ref a1), .val (.int (3 : Int32))] [(.int (((b3 &&& (255 : Int32)) ||| ((b4 &&& (255 : Int32)) <<< ((8 : Int32) &&& 31))) ||| ((b5 &&& (255 : Int32)) <<< ((16 : Int32) &&& 31))))]))
  refine own_via (fun t k => XS.aloadN X0.here hx rfl (hb hby own_d1_33) rfl rfl k) ?_
  show own_G p e below _ (s₁.setTop (mkF m 34 #[.val (.ref a1), .val (.int (3 : Int32))] [(.ref a1), (.int (((b3 &&& (255 : Int32)) ||| ((b4 &&& (255 : Int32)) <<< ((8 : Int32) &&& 31))) ||| ((b5 &&& (255 : Int32)) <<< ((16 : Int32) &&& 31))))]))
  refine own_via (fun t k => XS.iloadN X0.here hx rfl (hb hby own_d1_34) rfl k) ?_
  show own_G p e below _ (s₁.setTop (mkF m 35 #[.val (.ref a1), .val (.int (3 : Int32))] [(.int (3 : Int32)), (.ref a1), (.int (((b3 &&& (255 : Int32)) ||| ((b4 &&& (255 : Int32)) <<< ((8 : Int32) &&& 31))) ||| ((b5 &&& (255 : Int32)) <<< ((16 : Int32) &&& 31))))]))
  refine own_via (fun t k => XS.iconst X0.here hx rfl (hb hby own_d1_35) k) ?_
  show own_G p e below _ (s₁.setTop (mkF m 36 #[.val (.ref a1), .val (.int (3 : Int32))] [(.int (3 : Int32)), (.int (3 : Int32)), (.ref a1), (.int (((b3 &&& (255 : Int32)) ||| ((b4 &&& (255 : Int32)) <<< ((8 : Int32) &&& 31))) ||| ((b5 &&& (255 : Int32)) <<< ((16 : Int32) &&& 31))))]))
  refine own_via (fun t k => XS.iadd X0.here hx rfl (hb hby own_d1_36) rfl k) ?_
  show own_G p e below _ (s₁.setTop (mkF m 37 #[.val (.ref a1), .val (.int (3 : Int32))] [(.int (6 : Int32)), (.ref a1), (.int (((b3 &&& (255 : Int32)) ||| ((b4 &&& (255 : Int32)) <<< ((8 : Int32) &&& 31))) ||| ((b5 &&& (255 : Int32)) <<< ((16 : Int32) &&& 31))))]))
  refine own_via (own_ldB X0 hx hZ e0 i_V0 (j := (6 : Int32)) ⟨by decide, by decide⟩ (v := (.int b6)) rfl (pc := 37) (Ls := #[.val (.ref a1), .val (.int (3 : Int32))]) (rest := [(.int (((b3 &&& (255 : Int32)) ||| ((b4 &&& (255 : Int32)) <<< ((8 : Int32) &&& 31))) ||| ((b5 &&& (255 : Int32)) <<< ((16 : Int32) &&& 31))))]) (hb hby own_d1_37)) ?_
  show own_G p e below _ (s₁.setTop (mkF m 38 #[.val (.ref a1), .val (.int (3 : Int32))] [(.int b6), (.int (((b3 &&& (255 : Int32)) ||| ((b4 &&& (255 : Int32)) <<< ((8 : Int32) &&& 31))) ||| ((b5 &&& (255 : Int32)) <<< ((16 : Int32) &&& 31))))]))
  refine own_via (fun t k => XS.bipush X0.here hx rfl (hb hby own_d1_38) k) ?_
  show own_G p e below _ (s₁.setTop (mkF m 40 #[.val (.ref a1), .val (.int (3 : Int32))] [(.int (24 : Int32)), (.int b6), (.int (((b3 &&& (255 : Int32)) ||| ((b4 &&& (255 : Int32)) <<< ((8 : Int32) &&& 31))) ||| ((b5 &&& (255 : Int32)) <<< ((16 : Int32) &&& 31))))]))
  refine own_via (fun t k => XS.ishl X0.here hx rfl (hb hby own_d1_40) rfl k) ?_
  show own_G p e below _ (s₁.setTop (mkF m 41 #[.val (.ref a1), .val (.int (3 : Int32))] [(.int (b6 <<< ((24 : Int32) &&& 31))), (.int (((b3 &&& (255 : Int32)) ||| ((b4 &&& (255 : Int32)) <<< ((8 : Int32) &&& 31))) ||| ((b5 &&& (255 : Int32)) <<< ((16 : Int32) &&& 31))))]))
  refine own_via (fun t k => XS.ior X0.here hx rfl (hb hby own_d1_41) rfl k) ?_
  show own_G p e below _ (s₁.setTop (mkF m 42 #[.val (.ref a1), .val (.int (3 : Int32))] [(.int ((((b3 &&& (255 : Int32)) ||| ((b4 &&& (255 : Int32)) <<< ((8 : Int32) &&& 31))) ||| ((b5 &&& (255 : Int32)) <<< ((16 : Int32) &&& 31))) ||| (b6 <<< ((24 : Int32) &&& 31))))]))
  exact own_retI X0 hx Bd.returns Bd.notSynchronized (hb hby own_d1_42) ⟨rfl, rfl, e0⟩ (by decide) (by decide)
theorem own_pn0 : plainFor x = true := plainFor_of_name (by first | (simp [plainName, overriddenIn]; done) | decide +kernel)
theorem own_rm0_ef (m : MethodId) (p0 : Int32) (p1 : Int32) (q2 : Int64) : entryFrame m #[(.int p0), (.int p1), (.long q2)] maxLocals = mkF m 0 #[.val (.int p0), .val (.int p1), .val (.long q2), .second, .unset, .unset] [] := by first | (simp [entryFrame, mkF, argsToLocals, Value.category, maxLocals]; done) | rfl
set_option maxRecDepth 65536 in
set_option maxHeartbeats 40000000 in
theorem own_rm0 (l : Launch) (Z : State) (a0 : Array Value) (hw : ∀ d ∈ tables_1, d.before a0 Z = true) (ws : List Jvm.Cond) (p0 : Int32) (p1 : Int32) (q2 : Int64)  (h0 : Heap) (n0 : Nat) (Z0 : n0 ≤ h0.size)  :
    own_C l Z x code maxLocals ret ws room_1 #[(.int p0), (.int p1), (.long q2)] h0 (own_W n0 (fun v _ => v = some (.int 1))) := by
  refine MetFree.of_bodySF own_pn0 hisR ?_
  intro p e s m args below meth c s₁ Bd hml0 hP hK
  obtain ⟨rfl, hZ, hh⟩ := hP
  have hx := Bd.exec
  have hby := Bd.bytes
  have hml : c.maxLocals = 6 := hml0
  have hown : s.vm.findClass "com/example/bowerbird/bowerbird/BsonTreeInt32PinLaw" = some m.cls := findClass_of_methodNamed Bd.named
  have hnm := (name_of_methodNamed Bd.named Bd.method).1
  have X0 : Stand p l e room_1 s m #[(.int p0), (.int p1), (.long q2)] below meth c s₁ [] 0 0 := Stand.of_body Bd
  have e0 : s₁.heap = h0 := by rw [← hh, Bd.state]; rfl
  have N0 := Fr.nil n0
  show own_G p e below (own_P s (own_W n0 (fun v _ => v = some (.int 1))) room_1.cells room_1.slots) (s₁.setTop (entryFrame m #[(.int p0), (.int p1), (.long q2)] maxLocals))
  rw [own_rm0_ef m p0 p1 q2]
  show own_G p e below _ (s₁.setTop (mkF m 0 #[.val (.int p0), .val (.int p1), .val (.long q2), .second, .unset, .unset] []))
  refine own_via (fun t k => XS.iloadN X0.here hx rfl (hb hby at_0) rfl k) ?_
  show own_G p e below _ (s₁.setTop (mkF m 1 #[.val (.int p0), .val (.int p1), .val (.long q2), .second, .unset, .unset] [(.int p1)]))
  refine own_via (fun t k => XS.iconst X0.here hx rfl (hb hby at_1) k) ?_
  show own_G p e below _ (s₁.setTop (mkF m 2 #[.val (.int p0), .val (.int p1), .val (.long q2), .second, .unset, .unset] [(.int (3 : Int32)), (.int p1)]))
  refine own_via (fun t k => XS.iand X0.here hx rfl (hb hby at_2) rfl k) ?_
  show own_G p e below _ (s₁.setTop (mkF m 3 #[.val (.int p0), .val (.int p1), .val (.long q2), .second, .unset, .unset] [(.int (p1 &&& (3 : Int32)))]))
  rcases own_and3 p1 with hs1 | hs2 | hs3 | hs4
  ·
    rw [hs1]
    show own_G p e below _ (s₁.setTop (mkF m 3 #[.val (.int p0), .val (.int p1), .val (.long q2), .second, .unset, .unset] [(.int (0 : Int32))]))
    refine own_via (fun t k => XS.istore X0.here hx rfl (hb hby at_3) rfl (l' := #[.val (.int p0), .val (.int p1), .val (.long q2), .second, .val (.int (0 : Int32)), .unset]) rfl k) ?_
    show own_G p e below _ (s₁.setTop (mkF m 5 #[.val (.int p0), .val (.int p1), .val (.long q2), .second, .val (.int (0 : Int32)), .unset] []))
    refine own_via (fun t k => XS.bipush X0.here hx rfl (hb hby at_5) k) ?_
    show own_G p e below _ (s₁.setTop (mkF m 7 #[.val (.int p0), .val (.int p1), .val (.long q2), .second, .val (.int (0 : Int32)), .unset] [(.int (8 : Int32))]))
    obtain ⟨T5, h5, k5, b5, X5, e5, E5, ga5, V5, Ex5, st5⟩ := own_newA X0 hx hZ (hw _ (List.mem_of_getElem? (i := 0) rfl)) e0 (pc := 7) (Ls := #[.val (.int p0), .val (.int p1), .val (.long q2), .second, .val (.int (0 : Int32)), .unset]) (rest := []) (hb hby at_7) (n := (8 : Int32)) (by decide) (cap := 8) (by decide) (by decide) (by decide) (by decide) 8 rfl
    refine own_via st5 ?_
    have f6 : Arv Z h5 b5 k5 .byte (8 : Int32) [(.int (0 : Int32)), (.int (0 : Int32)), (.int (0 : Int32)), (.int (0 : Int32)), (.int (0 : Int32)), (.int (0 : Int32)), (.int (0 : Int32)), (.int (0 : Int32))] (.int (0 : Int32)) := V5
    have g_b5 : n0 ≤ b5 := Nat.le_trans Z0 (Nat.le_of_eq ga5.symm)
    have Zs7 : n0 ≤ h5.size := Nat.le_trans Z0 E5.1
    show own_G p e below _ (T5.setTop (mkF m 9 #[.val (.int p0), .val (.int p1), .val (.long q2), .second, .val (.int (0 : Int32)), .unset] [(.ref b5)]))
    refine own_via (fun t k => XS.astore X5.here hx rfl (hb hby at_9) rfl rfl (l' := #[.val (.int p0), .val (.int p1), .val (.long q2), .second, .val (.int (0 : Int32)), .val (.ref b5)]) rfl k) ?_
    show own_G p e below _ (T5.setTop (mkF m 11 #[.val (.int p0), .val (.int p1), .val (.long q2), .second, .val (.int (0 : Int32)), .val (.ref b5)] []))
    refine own_via (fun t k => XS.aload X5.here hx rfl (hb hby at_11) rfl rfl k) ?_
    show own_G p e below _ (T5.setTop (mkF m 13 #[.val (.int p0), .val (.int p1), .val (.long q2), .second, .val (.int (0 : Int32)), .val (.ref b5)] [(.ref b5)]))
    refine own_via (fun t k => XS.iconst X5.here hx rfl (hb hby at_13) k) ?_
    show own_G p e below _ (T5.setTop (mkF m 14 #[.val (.int p0), .val (.int p1), .val (.long q2), .second, .val (.int (0 : Int32)), .val (.ref b5)] [(.int (0 : Int32)), (.ref b5)]))
    refine own_via (fun t k => XS.lloadN X5.here hx rfl (hb hby at_14) rfl k) ?_
    show own_G p e below _ (T5.setTop (mkF m 15 #[.val (.int p0), .val (.int p1), .val (.long q2), .second, .val (.int (0 : Int32)), .val (.ref b5)] [(.long q2), (.int (0 : Int32)), (.ref b5)]))
    refine own_via (fun t k => XS.l2i X5.here hx rfl (hb hby at_15) rfl k) ?_
    show own_G p e below _ (T5.setTop (mkF m 16 #[.val (.int p0), .val (.int p1), .val (.long q2), .second, .val (.int (0 : Int32)), .val (.ref b5)] [(.int (q2.toInt32)), (.int (0 : Int32)), (.ref b5)]))
    refine own_via (fun t k => XS.i2b X5.here hx rfl (hb hby at_16) rfl k) ?_
    show own_G p e below _ (T5.setTop (mkF m 17 #[.val (.int p0), .val (.int p1), .val (.long q2), .second, .val (.int (0 : Int32)), .val (.ref b5)] [(.int ((q2.toInt32).toInt8.toInt32)), (.int (0 : Int32)), (.ref b5)]))
    obtain ⟨T8, h8, L8, X8, N8, e8, W8, V8, st8⟩ := own_stB X5 N0 hx hZ e5 f6 g_b5 (j := (0 : Int32)) (x := ((q2.toInt32).toInt8.toInt32)) (i := 0) ⟨by decide, by decide⟩ rfl (Nat.le_of_ble_eq_true rfl) (pc := 17) (Ls := #[.val (.int p0), .val (.int p1), .val (.long q2), .second, .val (.int (0 : Int32)), .val (.ref b5)]) (rest := []) (hb hby at_17)
    refine own_via st8 ?_
    have f9 : Arv Z h8 b5 k5 .byte (8 : Int32) [(.int (((q2.toInt32).toInt8.toInt32).toInt8.toInt32)), (.int (0 : Int32)), (.int (0 : Int32)), (.int (0 : Int32)), (.int (0 : Int32)), (.int (0 : Int32)), (.int (0 : Int32)), (.int (0 : Int32))] (.int (0 : Int32)) := V8
    have Zs10 : n0 ≤ h8.size := by rw [W8.size]; exact Zs7
    show own_G p e below _ (T8.setTop (mkF m 18 #[.val (.int p0), .val (.int p1), .val (.long q2), .second, .val (.int (0 : Int32)), .val (.ref b5)] []))
    refine own_via (fun t k => XS.aload X8.here hx rfl (hb hby at_18) rfl rfl k) ?_
    show own_G p e below _ (T8.setTop (mkF m 20 #[.val (.int p0), .val (.int p1), .val (.long q2), .second, .val (.int (0 : Int32)), .val (.ref b5)] [(.ref b5)]))
    refine own_via (fun t k => XS.iconst X8.here hx rfl (hb hby at_20) k) ?_
    show own_G p e below _ (T8.setTop (mkF m 21 #[.val (.int p0), .val (.int p1), .val (.long q2), .second, .val (.int (0 : Int32)), .val (.ref b5)] [(.int (1 : Int32)), (.ref b5)]))
    refine own_via (fun t k => XS.lloadN X8.here hx rfl (hb hby at_21) rfl k) ?_
    show own_G p e below _ (T8.setTop (mkF m 22 #[.val (.int p0), .val (.int p1), .val (.long q2), .second, .val (.int (0 : Int32)), .val (.ref b5)] [(.long q2), (.int (1 : Int32)), (.ref b5)]))
    refine own_via (fun t k => XS.bipush X8.here hx rfl (hb hby at_22) k) ?_
    show own_G p e below _ (T8.setTop (mkF m 24 #[.val (.int p0), .val (.int p1), .val (.long q2), .second, .val (.int (0 : Int32)), .val (.ref b5)] [(.int (8 : Int32)), (.long q2), (.int (1 : Int32)), (.ref b5)]))
    refine own_via (fun t k => XS.lushr X8.here hx rfl (hb hby at_24) rfl k) ?_
    show own_G p e below _ (T8.setTop (mkF m 25 #[.val (.int p0), .val (.int p1), .val (.long q2), .second, .val (.int (0 : Int32)), .val (.ref b5)] [(.long ((q2.toUInt64 >>> ((8 : Int32) &&& 0x3f).toInt64.toUInt64).toInt64)), (.int (1 : Int32)), (.ref b5)]))
    refine own_via (fun t k => XS.l2i X8.here hx rfl (hb hby at_25) rfl k) ?_
    show own_G p e below _ (T8.setTop (mkF m 26 #[.val (.int p0), .val (.int p1), .val (.long q2), .second, .val (.int (0 : Int32)), .val (.ref b5)] [(.int (((q2.toUInt64 >>> ((8 : Int32) &&& 0x3f).toInt64.toUInt64).toInt64).toInt32)), (.int (1 : Int32)), (.ref b5)]))
    refine own_via (fun t k => XS.i2b X8.here hx rfl (hb hby at_26) rfl k) ?_
    show own_G p e below _ (T8.setTop (mkF m 27 #[.val (.int p0), .val (.int p1), .val (.long q2), .second, .val (.int (0 : Int32)), .val (.ref b5)] [(.int ((((q2.toUInt64 >>> ((8 : Int32) &&& 0x3f).toInt64.toUInt64).toInt64).toInt32).toInt8.toInt32)), (.int (1 : Int32)), (.ref b5)]))
    obtain ⟨T11, h11, L11, X11, N11, e11, W11, V11, st11⟩ := own_stB X8 N8 hx hZ e8 f9 g_b5 (j := (1 : Int32)) (x := ((((q2.toUInt64 >>> ((8 : Int32) &&& 0x3f).toInt64.toUInt64).toInt64).toInt32).toInt8.toInt32)) (i := 1) ⟨by decide, by decide⟩ rfl (Nat.le_of_ble_eq_true rfl) (pc := 27) (Ls := #[.val (.int p0), .val (.int p1), .val (.long q2), .second, .val (.int (0 : Int32)), .val (.ref b5)]) (rest := []) (hb hby at_27)
    refine own_via st11 ?_
    have f12 : Arv Z h11 b5 k5 .byte (8 : Int32) [(.int (((q2.toInt32).toInt8.toInt32).toInt8.toInt32)), (.int (((((q2.toUInt64 >>> ((8 : Int32) &&& 0x3f).toInt64.toUInt64).toInt64).toInt32).toInt8.toInt32).toInt8.toInt32)), (.int (0 : Int32)), (.int (0 : Int32)), (.int (0 : Int32)), (.int (0 : Int32)), (.int (0 : Int32)), (.int (0 : Int32))] (.int (0 : Int32)) := V11
    have Zs13 : n0 ≤ h11.size := by rw [W11.size]; exact Zs10
    show own_G p e below _ (T11.setTop (mkF m 28 #[.val (.int p0), .val (.int p1), .val (.long q2), .second, .val (.int (0 : Int32)), .val (.ref b5)] []))
    refine own_via (fun t k => XS.aload X11.here hx rfl (hb hby at_28) rfl rfl k) ?_
    show own_G p e below _ (T11.setTop (mkF m 30 #[.val (.int p0), .val (.int p1), .val (.long q2), .second, .val (.int (0 : Int32)), .val (.ref b5)] [(.ref b5)]))
    refine own_via (fun t k => XS.iconst X11.here hx rfl (hb hby at_30) k) ?_
    show own_G p e below _ (T11.setTop (mkF m 31 #[.val (.int p0), .val (.int p1), .val (.long q2), .second, .val (.int (0 : Int32)), .val (.ref b5)] [(.int (2 : Int32)), (.ref b5)]))
    refine own_via (fun t k => XS.lloadN X11.here hx rfl (hb hby at_31) rfl k) ?_
    show own_G p e below _ (T11.setTop (mkF m 32 #[.val (.int p0), .val (.int p1), .val (.long q2), .second, .val (.int (0 : Int32)), .val (.ref b5)] [(.long q2), (.int (2 : Int32)), (.ref b5)]))
    refine own_via (fun t k => XS.bipush X11.here hx rfl (hb hby at_32) k) ?_
    show own_G p e below _ (T11.setTop (mkF m 34 #[.val (.int p0), .val (.int p1), .val (.long q2), .second, .val (.int (0 : Int32)), .val (.ref b5)] [(.int (16 : Int32)), (.long q2), (.int (2 : Int32)), (.ref b5)]))
    refine own_via (fun t k => XS.lushr X11.here hx rfl (hb hby at_34) rfl k) ?_
    show own_G p e below _ (T11.setTop (mkF m 35 #[.val (.int p0), .val (.int p1), .val (.long q2), .second, .val (.int (0 : Int32)), .val (.ref b5)] [(.long ((q2.toUInt64 >>> ((16 : Int32) &&& 0x3f).toInt64.toUInt64).toInt64)), (.int (2 : Int32)), (.ref b5)]))
    refine own_via (fun t k => XS.l2i X11.here hx rfl (hb hby at_35) rfl k) ?_
    show own_G p e below _ (T11.setTop (mkF m 36 #[.val (.int p0), .val (.int p1), .val (.long q2), .second, .val (.int (0 : Int32)), .val (.ref b5)] [(.int (((q2.toUInt64 >>> ((16 : Int32) &&& 0x3f).toInt64.toUInt64).toInt64).toInt32)), (.int (2 : Int32)), (.ref b5)]))
    refine own_via (fun t k => XS.i2b X11.here hx rfl (hb hby at_36) rfl k) ?_
    show own_G p e below _ (T11.setTop (mkF m 37 #[.val (.int p0), .val (.int p1), .val (.long q2), .second, .val (.int (0 : Int32)), .val (.ref b5)] [(.int ((((q2.toUInt64 >>> ((16 : Int32) &&& 0x3f).toInt64.toUInt64).toInt64).toInt32).toInt8.toInt32)), (.int (2 : Int32)), (.ref b5)]))
    obtain ⟨T14, h14, L14, X14, N14, e14, W14, V14, st14⟩ := own_stB X11 N11 hx hZ e11 f12 g_b5 (j := (2 : Int32)) (x := ((((q2.toUInt64 >>> ((16 : Int32) &&& 0x3f).toInt64.toUInt64).toInt64).toInt32).toInt8.toInt32)) (i := 2) ⟨by decide, by decide⟩ rfl (Nat.le_of_ble_eq_true rfl) (pc := 37) (Ls := #[.val (.int p0), .val (.int p1), .val (.long q2), .second, .val (.int (0 : Int32)), .val (.ref b5)]) (rest := []) (hb hby at_37)
    refine own_via st14 ?_
    have f15 : Arv Z h14 b5 k5 .byte (8 : Int32) [(.int (((q2.toInt32).toInt8.toInt32).toInt8.toInt32)), (.int (((((q2.toUInt64 >>> ((8 : Int32) &&& 0x3f).toInt64.toUInt64).toInt64).toInt32).toInt8.toInt32).toInt8.toInt32)), (.int (((((q2.toUInt64 >>> ((16 : Int32) &&& 0x3f).toInt64.toUInt64).toInt64).toInt32).toInt8.toInt32).toInt8.toInt32)), (.int (0 : Int32)), (.int (0 : Int32)), (.int (0 : Int32)), (.int (0 : Int32)), (.int (0 : Int32))] (.int (0 : Int32)) := V14
    have Zs16 : n0 ≤ h14.size := by rw [W14.size]; exact Zs13
    show own_G p e below _ (T14.setTop (mkF m 38 #[.val (.int p0), .val (.int p1), .val (.long q2), .second, .val (.int (0 : Int32)), .val (.ref b5)] []))
    refine own_via (fun t k => XS.aload X14.here hx rfl (hb hby at_38) rfl rfl k) ?_
    show own_G p e below _ (T14.setTop (mkF m 40 #[.val (.int p0), .val (.int p1), .val (.long q2), .second, .val (.int (0 : Int32)), .val (.ref b5)] [(.ref b5)]))
    refine own_via (fun t k => XS.iconst X14.here hx rfl (hb hby at_40) k) ?_
    show own_G p e below _ (T14.setTop (mkF m 41 #[.val (.int p0), .val (.int p1), .val (.long q2), .second, .val (.int (0 : Int32)), .val (.ref b5)] [(.int (3 : Int32)), (.ref b5)]))
    refine own_via (fun t k => XS.lloadN X14.here hx rfl (hb hby at_41) rfl k) ?_
    show own_G p e below _ (T14.setTop (mkF m 42 #[.val (.int p0), .val (.int p1), .val (.long q2), .second, .val (.int (0 : Int32)), .val (.ref b5)] [(.long q2), (.int (3 : Int32)), (.ref b5)]))
    refine own_via (fun t k => XS.bipush X14.here hx rfl (hb hby at_42) k) ?_
    show own_G p e below _ (T14.setTop (mkF m 44 #[.val (.int p0), .val (.int p1), .val (.long q2), .second, .val (.int (0 : Int32)), .val (.ref b5)] [(.int (24 : Int32)), (.long q2), (.int (3 : Int32)), (.ref b5)]))
    refine own_via (fun t k => XS.lushr X14.here hx rfl (hb hby at_44) rfl k) ?_
    show own_G p e below _ (T14.setTop (mkF m 45 #[.val (.int p0), .val (.int p1), .val (.long q2), .second, .val (.int (0 : Int32)), .val (.ref b5)] [(.long ((q2.toUInt64 >>> ((24 : Int32) &&& 0x3f).toInt64.toUInt64).toInt64)), (.int (3 : Int32)), (.ref b5)]))
    refine own_via (fun t k => XS.l2i X14.here hx rfl (hb hby at_45) rfl k) ?_
    show own_G p e below _ (T14.setTop (mkF m 46 #[.val (.int p0), .val (.int p1), .val (.long q2), .second, .val (.int (0 : Int32)), .val (.ref b5)] [(.int (((q2.toUInt64 >>> ((24 : Int32) &&& 0x3f).toInt64.toUInt64).toInt64).toInt32)), (.int (3 : Int32)), (.ref b5)]))
    refine own_via (fun t k => XS.i2b X14.here hx rfl (hb hby at_46) rfl k) ?_
    show own_G p e below _ (T14.setTop (mkF m 47 #[.val (.int p0), .val (.int p1), .val (.long q2), .second, .val (.int (0 : Int32)), .val (.ref b5)] [(.int ((((q2.toUInt64 >>> ((24 : Int32) &&& 0x3f).toInt64.toUInt64).toInt64).toInt32).toInt8.toInt32)), (.int (3 : Int32)), (.ref b5)]))
    obtain ⟨T17, h17, L17, X17, N17, e17, W17, V17, st17⟩ := own_stB X14 N14 hx hZ e14 f15 g_b5 (j := (3 : Int32)) (x := ((((q2.toUInt64 >>> ((24 : Int32) &&& 0x3f).toInt64.toUInt64).toInt64).toInt32).toInt8.toInt32)) (i := 3) ⟨by decide, by decide⟩ rfl (Nat.le_of_ble_eq_true rfl) (pc := 47) (Ls := #[.val (.int p0), .val (.int p1), .val (.long q2), .second, .val (.int (0 : Int32)), .val (.ref b5)]) (rest := []) (hb hby at_47)
    refine own_via st17 ?_
    have f18 : Arv Z h17 b5 k5 .byte (8 : Int32) [(.int (((q2.toInt32).toInt8.toInt32).toInt8.toInt32)), (.int (((((q2.toUInt64 >>> ((8 : Int32) &&& 0x3f).toInt64.toUInt64).toInt64).toInt32).toInt8.toInt32).toInt8.toInt32)), (.int (((((q2.toUInt64 >>> ((16 : Int32) &&& 0x3f).toInt64.toUInt64).toInt64).toInt32).toInt8.toInt32).toInt8.toInt32)), (.int (((((q2.toUInt64 >>> ((24 : Int32) &&& 0x3f).toInt64.toUInt64).toInt64).toInt32).toInt8.toInt32).toInt8.toInt32)), (.int (0 : Int32)), (.int (0 : Int32)), (.int (0 : Int32)), (.int (0 : Int32))] (.int (0 : Int32)) := V17
    have Zs19 : n0 ≤ h17.size := by rw [W17.size]; exact Zs16
    show own_G p e below _ (T17.setTop (mkF m 48 #[.val (.int p0), .val (.int p1), .val (.long q2), .second, .val (.int (0 : Int32)), .val (.ref b5)] []))
    refine own_via (fun t k => XS.aload X17.here hx rfl (hb hby at_48) rfl rfl k) ?_
    show own_G p e below _ (T17.setTop (mkF m 50 #[.val (.int p0), .val (.int p1), .val (.long q2), .second, .val (.int (0 : Int32)), .val (.ref b5)] [(.ref b5)]))
    refine own_via (fun t k => XS.iconst X17.here hx rfl (hb hby at_50) k) ?_
    show own_G p e below _ (T17.setTop (mkF m 51 #[.val (.int p0), .val (.int p1), .val (.long q2), .second, .val (.int (0 : Int32)), .val (.ref b5)] [(.int (4 : Int32)), (.ref b5)]))
    refine own_via (fun t k => XS.lloadN X17.here hx rfl (hb hby at_51) rfl k) ?_
    show own_G p e below _ (T17.setTop (mkF m 52 #[.val (.int p0), .val (.int p1), .val (.long q2), .second, .val (.int (0 : Int32)), .val (.ref b5)] [(.long q2), (.int (4 : Int32)), (.ref b5)]))
    refine own_via (fun t k => XS.bipush X17.here hx rfl (hb hby at_52) k) ?_
    show own_G p e below _ (T17.setTop (mkF m 54 #[.val (.int p0), .val (.int p1), .val (.long q2), .second, .val (.int (0 : Int32)), .val (.ref b5)] [(.int (32 : Int32)), (.long q2), (.int (4 : Int32)), (.ref b5)]))
    refine own_via (fun t k => XS.lushr X17.here hx rfl (hb hby at_54) rfl k) ?_
    show own_G p e below _ (T17.setTop (mkF m 55 #[.val (.int p0), .val (.int p1), .val (.long q2), .second, .val (.int (0 : Int32)), .val (.ref b5)] [(.long ((q2.toUInt64 >>> ((32 : Int32) &&& 0x3f).toInt64.toUInt64).toInt64)), (.int (4 : Int32)), (.ref b5)]))
    refine own_via (fun t k => XS.l2i X17.here hx rfl (hb hby at_55) rfl k) ?_
    show own_G p e below _ (T17.setTop (mkF m 56 #[.val (.int p0), .val (.int p1), .val (.long q2), .second, .val (.int (0 : Int32)), .val (.ref b5)] [(.int (((q2.toUInt64 >>> ((32 : Int32) &&& 0x3f).toInt64.toUInt64).toInt64).toInt32)), (.int (4 : Int32)), (.ref b5)]))
    refine own_via (fun t k => XS.i2b X17.here hx rfl (hb hby at_56) rfl k) ?_
    show own_G p e below _ (T17.setTop (mkF m 57 #[.val (.int p0), .val (.int p1), .val (.long q2), .second, .val (.int (0 : Int32)), .val (.ref b5)] [(.int ((((q2.toUInt64 >>> ((32 : Int32) &&& 0x3f).toInt64.toUInt64).toInt64).toInt32).toInt8.toInt32)), (.int (4 : Int32)), (.ref b5)]))
    obtain ⟨T20, h20, L20, X20, N20, e20, W20, V20, st20⟩ := own_stB X17 N17 hx hZ e17 f18 g_b5 (j := (4 : Int32)) (x := ((((q2.toUInt64 >>> ((32 : Int32) &&& 0x3f).toInt64.toUInt64).toInt64).toInt32).toInt8.toInt32)) (i := 4) ⟨by decide, by decide⟩ rfl (Nat.le_of_ble_eq_true rfl) (pc := 57) (Ls := #[.val (.int p0), .val (.int p1), .val (.long q2), .second, .val (.int (0 : Int32)), .val (.ref b5)]) (rest := []) (hb hby at_57)
    refine own_via st20 ?_
    have f21 : Arv Z h20 b5 k5 .byte (8 : Int32) [(.int (((q2.toInt32).toInt8.toInt32).toInt8.toInt32)), (.int (((((q2.toUInt64 >>> ((8 : Int32) &&& 0x3f).toInt64.toUInt64).toInt64).toInt32).toInt8.toInt32).toInt8.toInt32)), (.int (((((q2.toUInt64 >>> ((16 : Int32) &&& 0x3f).toInt64.toUInt64).toInt64).toInt32).toInt8.toInt32).toInt8.toInt32)), (.int (((((q2.toUInt64 >>> ((24 : Int32) &&& 0x3f).toInt64.toUInt64).toInt64).toInt32).toInt8.toInt32).toInt8.toInt32)), (.int (((((q2.toUInt64 >>> ((32 : Int32) &&& 0x3f).toInt64.toUInt64).toInt64).toInt32).toInt8.toInt32).toInt8.toInt32)), (.int (0 : Int32)), (.int (0 : Int32)), (.int (0 : Int32))] (.int (0 : Int32)) := V20
    have Zs22 : n0 ≤ h20.size := by rw [W20.size]; exact Zs19
    show own_G p e below _ (T20.setTop (mkF m 58 #[.val (.int p0), .val (.int p1), .val (.long q2), .second, .val (.int (0 : Int32)), .val (.ref b5)] []))
    refine own_via (fun t k => XS.aload X20.here hx rfl (hb hby at_58) rfl rfl k) ?_
    show own_G p e below _ (T20.setTop (mkF m 60 #[.val (.int p0), .val (.int p1), .val (.long q2), .second, .val (.int (0 : Int32)), .val (.ref b5)] [(.ref b5)]))
    refine own_via (fun t k => XS.iconst X20.here hx rfl (hb hby at_60) k) ?_
    show own_G p e below _ (T20.setTop (mkF m 61 #[.val (.int p0), .val (.int p1), .val (.long q2), .second, .val (.int (0 : Int32)), .val (.ref b5)] [(.int (5 : Int32)), (.ref b5)]))
    refine own_via (fun t k => XS.lloadN X20.here hx rfl (hb hby at_61) rfl k) ?_
    show own_G p e below _ (T20.setTop (mkF m 62 #[.val (.int p0), .val (.int p1), .val (.long q2), .second, .val (.int (0 : Int32)), .val (.ref b5)] [(.long q2), (.int (5 : Int32)), (.ref b5)]))
    refine own_via (fun t k => XS.bipush X20.here hx rfl (hb hby at_62) k) ?_
    show own_G p e below _ (T20.setTop (mkF m 64 #[.val (.int p0), .val (.int p1), .val (.long q2), .second, .val (.int (0 : Int32)), .val (.ref b5)] [(.int (40 : Int32)), (.long q2), (.int (5 : Int32)), (.ref b5)]))
    refine own_via (fun t k => XS.lushr X20.here hx rfl (hb hby at_64) rfl k) ?_
    show own_G p e below _ (T20.setTop (mkF m 65 #[.val (.int p0), .val (.int p1), .val (.long q2), .second, .val (.int (0 : Int32)), .val (.ref b5)] [(.long ((q2.toUInt64 >>> ((40 : Int32) &&& 0x3f).toInt64.toUInt64).toInt64)), (.int (5 : Int32)), (.ref b5)]))
    refine own_via (fun t k => XS.l2i X20.here hx rfl (hb hby at_65) rfl k) ?_
    show own_G p e below _ (T20.setTop (mkF m 66 #[.val (.int p0), .val (.int p1), .val (.long q2), .second, .val (.int (0 : Int32)), .val (.ref b5)] [(.int (((q2.toUInt64 >>> ((40 : Int32) &&& 0x3f).toInt64.toUInt64).toInt64).toInt32)), (.int (5 : Int32)), (.ref b5)]))
    refine own_via (fun t k => XS.i2b X20.here hx rfl (hb hby at_66) rfl k) ?_
    show own_G p e below _ (T20.setTop (mkF m 67 #[.val (.int p0), .val (.int p1), .val (.long q2), .second, .val (.int (0 : Int32)), .val (.ref b5)] [(.int ((((q2.toUInt64 >>> ((40 : Int32) &&& 0x3f).toInt64.toUInt64).toInt64).toInt32).toInt8.toInt32)), (.int (5 : Int32)), (.ref b5)]))
    obtain ⟨T23, h23, L23, X23, N23, e23, W23, V23, st23⟩ := own_stB X20 N20 hx hZ e20 f21 g_b5 (j := (5 : Int32)) (x := ((((q2.toUInt64 >>> ((40 : Int32) &&& 0x3f).toInt64.toUInt64).toInt64).toInt32).toInt8.toInt32)) (i := 5) ⟨by decide, by decide⟩ rfl (Nat.le_of_ble_eq_true rfl) (pc := 67) (Ls := #[.val (.int p0), .val (.int p1), .val (.long q2), .second, .val (.int (0 : Int32)), .val (.ref b5)]) (rest := []) (hb hby at_67)
    refine own_via st23 ?_
    have f24 : Arv Z h23 b5 k5 .byte (8 : Int32) [(.int (((q2.toInt32).toInt8.toInt32).toInt8.toInt32)), (.int (((((q2.toUInt64 >>> ((8 : Int32) &&& 0x3f).toInt64.toUInt64).toInt64).toInt32).toInt8.toInt32).toInt8.toInt32)), (.int (((((q2.toUInt64 >>> ((16 : Int32) &&& 0x3f).toInt64.toUInt64).toInt64).toInt32).toInt8.toInt32).toInt8.toInt32)), (.int (((((q2.toUInt64 >>> ((24 : Int32) &&& 0x3f).toInt64.toUInt64).toInt64).toInt32).toInt8.toInt32).toInt8.toInt32)), (.int (((((q2.toUInt64 >>> ((32 : Int32) &&& 0x3f).toInt64.toUInt64).toInt64).toInt32).toInt8.toInt32).toInt8.toInt32)), (.int (((((q2.toUInt64 >>> ((40 : Int32) &&& 0x3f).toInt64.toUInt64).toInt64).toInt32).toInt8.toInt32).toInt8.toInt32)), (.int (0 : Int32)), (.int (0 : Int32))] (.int (0 : Int32)) := V23
    have Zs25 : n0 ≤ h23.size := by rw [W23.size]; exact Zs22
    show own_G p e below _ (T23.setTop (mkF m 68 #[.val (.int p0), .val (.int p1), .val (.long q2), .second, .val (.int (0 : Int32)), .val (.ref b5)] []))
    refine own_via (fun t k => XS.aload X23.here hx rfl (hb hby at_68) rfl rfl k) ?_
    show own_G p e below _ (T23.setTop (mkF m 70 #[.val (.int p0), .val (.int p1), .val (.long q2), .second, .val (.int (0 : Int32)), .val (.ref b5)] [(.ref b5)]))
    refine own_via (fun t k => XS.bipush X23.here hx rfl (hb hby at_70) k) ?_
    show own_G p e below _ (T23.setTop (mkF m 72 #[.val (.int p0), .val (.int p1), .val (.long q2), .second, .val (.int (0 : Int32)), .val (.ref b5)] [(.int (6 : Int32)), (.ref b5)]))
    refine own_via (fun t k => XS.lloadN X23.here hx rfl (hb hby at_72) rfl k) ?_
    show own_G p e below _ (T23.setTop (mkF m 73 #[.val (.int p0), .val (.int p1), .val (.long q2), .second, .val (.int (0 : Int32)), .val (.ref b5)] [(.long q2), (.int (6 : Int32)), (.ref b5)]))
    refine own_via (fun t k => XS.bipush X23.here hx rfl (hb hby at_73) k) ?_
    show own_G p e below _ (T23.setTop (mkF m 75 #[.val (.int p0), .val (.int p1), .val (.long q2), .second, .val (.int (0 : Int32)), .val (.ref b5)] [(.int (48 : Int32)), (.long q2), (.int (6 : Int32)), (.ref b5)]))
    refine own_via (fun t k => XS.lushr X23.here hx rfl (hb hby at_75) rfl k) ?_
    show own_G p e below _ (T23.setTop (mkF m 76 #[.val (.int p0), .val (.int p1), .val (.long q2), .second, .val (.int (0 : Int32)), .val (.ref b5)] [(.long ((q2.toUInt64 >>> ((48 : Int32) &&& 0x3f).toInt64.toUInt64).toInt64)), (.int (6 : Int32)), (.ref b5)]))
    refine own_via (fun t k => XS.l2i X23.here hx rfl (hb hby at_76) rfl k) ?_
    show own_G p e below _ (T23.setTop (mkF m 77 #[.val (.int p0), .val (.int p1), .val (.long q2), .second, .val (.int (0 : Int32)), .val (.ref b5)] [(.int (((q2.toUInt64 >>> ((48 : Int32) &&& 0x3f).toInt64.toUInt64).toInt64).toInt32)), (.int (6 : Int32)), (.ref b5)]))
    refine own_via (fun t k => XS.i2b X23.here hx rfl (hb hby at_77) rfl k) ?_
    show own_G p e below _ (T23.setTop (mkF m 78 #[.val (.int p0), .val (.int p1), .val (.long q2), .second, .val (.int (0 : Int32)), .val (.ref b5)] [(.int ((((q2.toUInt64 >>> ((48 : Int32) &&& 0x3f).toInt64.toUInt64).toInt64).toInt32).toInt8.toInt32)), (.int (6 : Int32)), (.ref b5)]))
    obtain ⟨T26, h26, L26, X26, N26, e26, W26, V26, st26⟩ := own_stB X23 N23 hx hZ e23 f24 g_b5 (j := (6 : Int32)) (x := ((((q2.toUInt64 >>> ((48 : Int32) &&& 0x3f).toInt64.toUInt64).toInt64).toInt32).toInt8.toInt32)) (i := 6) ⟨by decide, by decide⟩ rfl (Nat.le_of_ble_eq_true rfl) (pc := 78) (Ls := #[.val (.int p0), .val (.int p1), .val (.long q2), .second, .val (.int (0 : Int32)), .val (.ref b5)]) (rest := []) (hb hby at_78)
    refine own_via st26 ?_
    have f27 : Arv Z h26 b5 k5 .byte (8 : Int32) [(.int (((q2.toInt32).toInt8.toInt32).toInt8.toInt32)), (.int (((((q2.toUInt64 >>> ((8 : Int32) &&& 0x3f).toInt64.toUInt64).toInt64).toInt32).toInt8.toInt32).toInt8.toInt32)), (.int (((((q2.toUInt64 >>> ((16 : Int32) &&& 0x3f).toInt64.toUInt64).toInt64).toInt32).toInt8.toInt32).toInt8.toInt32)), (.int (((((q2.toUInt64 >>> ((24 : Int32) &&& 0x3f).toInt64.toUInt64).toInt64).toInt32).toInt8.toInt32).toInt8.toInt32)), (.int (((((q2.toUInt64 >>> ((32 : Int32) &&& 0x3f).toInt64.toUInt64).toInt64).toInt32).toInt8.toInt32).toInt8.toInt32)), (.int (((((q2.toUInt64 >>> ((40 : Int32) &&& 0x3f).toInt64.toUInt64).toInt64).toInt32).toInt8.toInt32).toInt8.toInt32)), (.int (((((q2.toUInt64 >>> ((48 : Int32) &&& 0x3f).toInt64.toUInt64).toInt64).toInt32).toInt8.toInt32).toInt8.toInt32)), (.int (0 : Int32))] (.int (0 : Int32)) := V26
    have Zs28 : n0 ≤ h26.size := by rw [W26.size]; exact Zs25
    show own_G p e below _ (T26.setTop (mkF m 79 #[.val (.int p0), .val (.int p1), .val (.long q2), .second, .val (.int (0 : Int32)), .val (.ref b5)] []))
    refine own_via (fun t k => XS.aload X26.here hx rfl (hb hby at_79) rfl rfl k) ?_
    show own_G p e below _ (T26.setTop (mkF m 81 #[.val (.int p0), .val (.int p1), .val (.long q2), .second, .val (.int (0 : Int32)), .val (.ref b5)] [(.ref b5)]))
    refine own_via (fun t k => XS.bipush X26.here hx rfl (hb hby at_81) k) ?_
    show own_G p e below _ (T26.setTop (mkF m 83 #[.val (.int p0), .val (.int p1), .val (.long q2), .second, .val (.int (0 : Int32)), .val (.ref b5)] [(.int (7 : Int32)), (.ref b5)]))
    refine own_via (fun t k => XS.lloadN X26.here hx rfl (hb hby at_83) rfl k) ?_
    show own_G p e below _ (T26.setTop (mkF m 84 #[.val (.int p0), .val (.int p1), .val (.long q2), .second, .val (.int (0 : Int32)), .val (.ref b5)] [(.long q2), (.int (7 : Int32)), (.ref b5)]))
    refine own_via (fun t k => XS.bipush X26.here hx rfl (hb hby at_84) k) ?_
    show own_G p e below _ (T26.setTop (mkF m 86 #[.val (.int p0), .val (.int p1), .val (.long q2), .second, .val (.int (0 : Int32)), .val (.ref b5)] [(.int (56 : Int32)), (.long q2), (.int (7 : Int32)), (.ref b5)]))
    refine own_via (fun t k => XS.lushr X26.here hx rfl (hb hby at_86) rfl k) ?_
    show own_G p e below _ (T26.setTop (mkF m 87 #[.val (.int p0), .val (.int p1), .val (.long q2), .second, .val (.int (0 : Int32)), .val (.ref b5)] [(.long ((q2.toUInt64 >>> ((56 : Int32) &&& 0x3f).toInt64.toUInt64).toInt64)), (.int (7 : Int32)), (.ref b5)]))
    refine own_via (fun t k => XS.l2i X26.here hx rfl (hb hby at_87) rfl k) ?_
    show own_G p e below _ (T26.setTop (mkF m 88 #[.val (.int p0), .val (.int p1), .val (.long q2), .second, .val (.int (0 : Int32)), .val (.ref b5)] [(.int (((q2.toUInt64 >>> ((56 : Int32) &&& 0x3f).toInt64.toUInt64).toInt64).toInt32)), (.int (7 : Int32)), (.ref b5)]))
    refine own_via (fun t k => XS.i2b X26.here hx rfl (hb hby at_88) rfl k) ?_
    show own_G p e below _ (T26.setTop (mkF m 89 #[.val (.int p0), .val (.int p1), .val (.long q2), .second, .val (.int (0 : Int32)), .val (.ref b5)] [(.int ((((q2.toUInt64 >>> ((56 : Int32) &&& 0x3f).toInt64.toUInt64).toInt64).toInt32).toInt8.toInt32)), (.int (7 : Int32)), (.ref b5)]))
    obtain ⟨T29, h29, L29, X29, N29, e29, W29, V29, st29⟩ := own_stB X26 N26 hx hZ e26 f27 g_b5 (j := (7 : Int32)) (x := ((((q2.toUInt64 >>> ((56 : Int32) &&& 0x3f).toInt64.toUInt64).toInt64).toInt32).toInt8.toInt32)) (i := 7) ⟨by decide, by decide⟩ rfl (Nat.le_of_ble_eq_true rfl) (pc := 89) (Ls := #[.val (.int p0), .val (.int p1), .val (.long q2), .second, .val (.int (0 : Int32)), .val (.ref b5)]) (rest := []) (hb hby at_89)
    refine own_via st29 ?_
    have f30 : Arv Z h29 b5 k5 .byte (8 : Int32) [(.int (((q2.toInt32).toInt8.toInt32).toInt8.toInt32)), (.int (((((q2.toUInt64 >>> ((8 : Int32) &&& 0x3f).toInt64.toUInt64).toInt64).toInt32).toInt8.toInt32).toInt8.toInt32)), (.int (((((q2.toUInt64 >>> ((16 : Int32) &&& 0x3f).toInt64.toUInt64).toInt64).toInt32).toInt8.toInt32).toInt8.toInt32)), (.int (((((q2.toUInt64 >>> ((24 : Int32) &&& 0x3f).toInt64.toUInt64).toInt64).toInt32).toInt8.toInt32).toInt8.toInt32)), (.int (((((q2.toUInt64 >>> ((32 : Int32) &&& 0x3f).toInt64.toUInt64).toInt64).toInt32).toInt8.toInt32).toInt8.toInt32)), (.int (((((q2.toUInt64 >>> ((40 : Int32) &&& 0x3f).toInt64.toUInt64).toInt64).toInt32).toInt8.toInt32).toInt8.toInt32)), (.int (((((q2.toUInt64 >>> ((48 : Int32) &&& 0x3f).toInt64.toUInt64).toInt64).toInt32).toInt8.toInt32).toInt8.toInt32)), (.int (((((q2.toUInt64 >>> ((56 : Int32) &&& 0x3f).toInt64.toUInt64).toInt64).toInt32).toInt8.toInt32).toInt8.toInt32))] (.int (0 : Int32)) := V29
    have Zs31 : n0 ≤ h29.size := by rw [W29.size]; exact Zs28
    show own_G p e below _ (T29.setTop (mkF m 90 #[.val (.int p0), .val (.int p1), .val (.long q2), .second, .val (.int (0 : Int32)), .val (.ref b5)] []))
    refine own_via (fun t k => XS.aload X29.here hx rfl (hb hby at_90) rfl rfl k) ?_
    show own_G p e below _ (T29.setTop (mkF m 92 #[.val (.int p0), .val (.int p1), .val (.long q2), .second, .val (.int (0 : Int32)), .val (.ref b5)] [(.ref b5)]))
    refine own_via (fun t k => XS.iload X29.here hx rfl (hb hby at_92) rfl k) ?_
    show own_G p e below _ (T29.setTop (mkF m 94 #[.val (.int p0), .val (.int p1), .val (.long q2), .second, .val (.int (0 : Int32)), .val (.ref b5)] [(.int (0 : Int32)), (.ref b5)]))
    refine own_via (fun t k => XS.iloadN X29.here hx rfl (hb hby at_94) rfl k) ?_
    show own_G p e below _ (T29.setTop (mkF m 95 #[.val (.int p0), .val (.int p1), .val (.long q2), .second, .val (.int (0 : Int32)), .val (.ref b5)] [(.int p0), (.int (0 : Int32)), (.ref b5)]))
    refine own_via (fun t k => XS.i2b X29.here hx rfl (hb hby at_95) rfl k) ?_
    show own_G p e below _ (T29.setTop (mkF m 96 #[.val (.int p0), .val (.int p1), .val (.long q2), .second, .val (.int (0 : Int32)), .val (.ref b5)] [(.int (p0.toInt8.toInt32)), (.int (0 : Int32)), (.ref b5)]))
    obtain ⟨T32, h32, L32, X32, N32, e32, W32, V32, st32⟩ := own_stB X29 N29 hx hZ e29 f30 g_b5 (j := (0 : Int32)) (x := (p0.toInt8.toInt32)) (i := 0) ⟨by decide, by decide⟩ rfl (Nat.le_of_ble_eq_true rfl) (pc := 96) (Ls := #[.val (.int p0), .val (.int p1), .val (.long q2), .second, .val (.int (0 : Int32)), .val (.ref b5)]) (rest := []) (hb hby at_96)
    refine own_via st32 ?_
    have f33 : Arv Z h32 b5 k5 .byte (8 : Int32) [(.int ((p0.toInt8.toInt32).toInt8.toInt32)), (.int (((((q2.toUInt64 >>> ((8 : Int32) &&& 0x3f).toInt64.toUInt64).toInt64).toInt32).toInt8.toInt32).toInt8.toInt32)), (.int (((((q2.toUInt64 >>> ((16 : Int32) &&& 0x3f).toInt64.toUInt64).toInt64).toInt32).toInt8.toInt32).toInt8.toInt32)), (.int (((((q2.toUInt64 >>> ((24 : Int32) &&& 0x3f).toInt64.toUInt64).toInt64).toInt32).toInt8.toInt32).toInt8.toInt32)), (.int (((((q2.toUInt64 >>> ((32 : Int32) &&& 0x3f).toInt64.toUInt64).toInt64).toInt32).toInt8.toInt32).toInt8.toInt32)), (.int (((((q2.toUInt64 >>> ((40 : Int32) &&& 0x3f).toInt64.toUInt64).toInt64).toInt32).toInt8.toInt32).toInt8.toInt32)), (.int (((((q2.toUInt64 >>> ((48 : Int32) &&& 0x3f).toInt64.toUInt64).toInt64).toInt32).toInt8.toInt32).toInt8.toInt32)), (.int (((((q2.toUInt64 >>> ((56 : Int32) &&& 0x3f).toInt64.toUInt64).toInt64).toInt32).toInt8.toInt32).toInt8.toInt32))] (.int (0 : Int32)) := V32
    have Zs34 : n0 ≤ h32.size := by rw [W32.size]; exact Zs31
    show own_G p e below _ (T32.setTop (mkF m 97 #[.val (.int p0), .val (.int p1), .val (.long q2), .second, .val (.int (0 : Int32)), .val (.ref b5)] []))
    refine own_via (fun t k => XS.aload X32.here hx rfl (hb hby at_97) rfl rfl k) ?_
    show own_G p e below _ (T32.setTop (mkF m 99 #[.val (.int p0), .val (.int p1), .val (.long q2), .second, .val (.int (0 : Int32)), .val (.ref b5)] [(.ref b5)]))
    refine own_via (fun t k => XS.iload X32.here hx rfl (hb hby at_99) rfl k) ?_
    show own_G p e below _ (T32.setTop (mkF m 101 #[.val (.int p0), .val (.int p1), .val (.long q2), .second, .val (.int (0 : Int32)), .val (.ref b5)] [(.int (0 : Int32)), (.ref b5)]))
    refine own_via (fun t k => XS.iconst X32.here hx rfl (hb hby at_101) k) ?_
    show own_G p e below _ (T32.setTop (mkF m 102 #[.val (.int p0), .val (.int p1), .val (.long q2), .second, .val (.int (0 : Int32)), .val (.ref b5)] [(.int (1 : Int32)), (.int (0 : Int32)), (.ref b5)]))
    refine own_via (fun t k => XS.iadd X32.here hx rfl (hb hby at_102) rfl k) ?_
    show own_G p e below _ (T32.setTop (mkF m 103 #[.val (.int p0), .val (.int p1), .val (.long q2), .second, .val (.int (0 : Int32)), .val (.ref b5)] [(.int (1 : Int32)), (.ref b5)]))
    refine own_via (fun t k => XS.iloadN X32.here hx rfl (hb hby at_103) rfl k) ?_
    show own_G p e below _ (T32.setTop (mkF m 104 #[.val (.int p0), .val (.int p1), .val (.long q2), .second, .val (.int (0 : Int32)), .val (.ref b5)] [(.int p0), (.int (1 : Int32)), (.ref b5)]))
    refine own_via (fun t k => XS.bipush X32.here hx rfl (hb hby at_104) k) ?_
    show own_G p e below _ (T32.setTop (mkF m 106 #[.val (.int p0), .val (.int p1), .val (.long q2), .second, .val (.int (0 : Int32)), .val (.ref b5)] [(.int (8 : Int32)), (.int p0), (.int (1 : Int32)), (.ref b5)]))
    refine own_via (fun t k => XS.iushr X32.here hx rfl (hb hby at_106) rfl k) ?_
    show own_G p e below _ (T32.setTop (mkF m 107 #[.val (.int p0), .val (.int p1), .val (.long q2), .second, .val (.int (0 : Int32)), .val (.ref b5)] [(.int ((p0.toUInt32 >>> ((8 : Int32) &&& 31).toUInt32).toInt32)), (.int (1 : Int32)), (.ref b5)]))
    refine own_via (fun t k => XS.i2b X32.here hx rfl (hb hby at_107) rfl k) ?_
    show own_G p e below _ (T32.setTop (mkF m 108 #[.val (.int p0), .val (.int p1), .val (.long q2), .second, .val (.int (0 : Int32)), .val (.ref b5)] [(.int (((p0.toUInt32 >>> ((8 : Int32) &&& 31).toUInt32).toInt32).toInt8.toInt32)), (.int (1 : Int32)), (.ref b5)]))
    obtain ⟨T35, h35, L35, X35, N35, e35, W35, V35, st35⟩ := own_stB X32 N32 hx hZ e32 f33 g_b5 (j := (1 : Int32)) (x := (((p0.toUInt32 >>> ((8 : Int32) &&& 31).toUInt32).toInt32).toInt8.toInt32)) (i := 1) ⟨by decide, by decide⟩ rfl (Nat.le_of_ble_eq_true rfl) (pc := 108) (Ls := #[.val (.int p0), .val (.int p1), .val (.long q2), .second, .val (.int (0 : Int32)), .val (.ref b5)]) (rest := []) (hb hby at_108)
    refine own_via st35 ?_
    have f36 : Arv Z h35 b5 k5 .byte (8 : Int32) [(.int ((p0.toInt8.toInt32).toInt8.toInt32)), (.int ((((p0.toUInt32 >>> ((8 : Int32) &&& 31).toUInt32).toInt32).toInt8.toInt32).toInt8.toInt32)), (.int (((((q2.toUInt64 >>> ((16 : Int32) &&& 0x3f).toInt64.toUInt64).toInt64).toInt32).toInt8.toInt32).toInt8.toInt32)), (.int (((((q2.toUInt64 >>> ((24 : Int32) &&& 0x3f).toInt64.toUInt64).toInt64).toInt32).toInt8.toInt32).toInt8.toInt32)), (.int (((((q2.toUInt64 >>> ((32 : Int32) &&& 0x3f).toInt64.toUInt64).toInt64).toInt32).toInt8.toInt32).toInt8.toInt32)), (.int (((((q2.toUInt64 >>> ((40 : Int32) &&& 0x3f).toInt64.toUInt64).toInt64).toInt32).toInt8.toInt32).toInt8.toInt32)), (.int (((((q2.toUInt64 >>> ((48 : Int32) &&& 0x3f).toInt64.toUInt64).toInt64).toInt32).toInt8.toInt32).toInt8.toInt32)), (.int (((((q2.toUInt64 >>> ((56 : Int32) &&& 0x3f).toInt64.toUInt64).toInt64).toInt32).toInt8.toInt32).toInt8.toInt32))] (.int (0 : Int32)) := V35
    have Zs37 : n0 ≤ h35.size := by rw [W35.size]; exact Zs34
    show own_G p e below _ (T35.setTop (mkF m 109 #[.val (.int p0), .val (.int p1), .val (.long q2), .second, .val (.int (0 : Int32)), .val (.ref b5)] []))
    refine own_via (fun t k => XS.aload X35.here hx rfl (hb hby at_109) rfl rfl k) ?_
    show own_G p e below _ (T35.setTop (mkF m 111 #[.val (.int p0), .val (.int p1), .val (.long q2), .second, .val (.int (0 : Int32)), .val (.ref b5)] [(.ref b5)]))
    refine own_via (fun t k => XS.iload X35.here hx rfl (hb hby at_111) rfl k) ?_
    show own_G p e below _ (T35.setTop (mkF m 113 #[.val (.int p0), .val (.int p1), .val (.long q2), .second, .val (.int (0 : Int32)), .val (.ref b5)] [(.int (0 : Int32)), (.ref b5)]))
    refine own_via (fun t k => XS.iconst X35.here hx rfl (hb hby at_113) k) ?_
    show own_G p e below _ (T35.setTop (mkF m 114 #[.val (.int p0), .val (.int p1), .val (.long q2), .second, .val (.int (0 : Int32)), .val (.ref b5)] [(.int (2 : Int32)), (.int (0 : Int32)), (.ref b5)]))
    refine own_via (fun t k => XS.iadd X35.here hx rfl (hb hby at_114) rfl k) ?_
    show own_G p e below _ (T35.setTop (mkF m 115 #[.val (.int p0), .val (.int p1), .val (.long q2), .second, .val (.int (0 : Int32)), .val (.ref b5)] [(.int (2 : Int32)), (.ref b5)]))
    refine own_via (fun t k => XS.iloadN X35.here hx rfl (hb hby at_115) rfl k) ?_
    show own_G p e below _ (T35.setTop (mkF m 116 #[.val (.int p0), .val (.int p1), .val (.long q2), .second, .val (.int (0 : Int32)), .val (.ref b5)] [(.int p0), (.int (2 : Int32)), (.ref b5)]))
    refine own_via (fun t k => XS.bipush X35.here hx rfl (hb hby at_116) k) ?_
    show own_G p e below _ (T35.setTop (mkF m 118 #[.val (.int p0), .val (.int p1), .val (.long q2), .second, .val (.int (0 : Int32)), .val (.ref b5)] [(.int (16 : Int32)), (.int p0), (.int (2 : Int32)), (.ref b5)]))
    refine own_via (fun t k => XS.iushr X35.here hx rfl (hb hby at_118) rfl k) ?_
    show own_G p e below _ (T35.setTop (mkF m 119 #[.val (.int p0), .val (.int p1), .val (.long q2), .second, .val (.int (0 : Int32)), .val (.ref b5)] [(.int ((p0.toUInt32 >>> ((16 : Int32) &&& 31).toUInt32).toInt32)), (.int (2 : Int32)), (.ref b5)]))
    refine own_via (fun t k => XS.i2b X35.here hx rfl (hb hby at_119) rfl k) ?_
    show own_G p e below _ (T35.setTop (mkF m 120 #[.val (.int p0), .val (.int p1), .val (.long q2), .second, .val (.int (0 : Int32)), .val (.ref b5)] [(.int (((p0.toUInt32 >>> ((16 : Int32) &&& 31).toUInt32).toInt32).toInt8.toInt32)), (.int (2 : Int32)), (.ref b5)]))
    obtain ⟨T38, h38, L38, X38, N38, e38, W38, V38, st38⟩ := own_stB X35 N35 hx hZ e35 f36 g_b5 (j := (2 : Int32)) (x := (((p0.toUInt32 >>> ((16 : Int32) &&& 31).toUInt32).toInt32).toInt8.toInt32)) (i := 2) ⟨by decide, by decide⟩ rfl (Nat.le_of_ble_eq_true rfl) (pc := 120) (Ls := #[.val (.int p0), .val (.int p1), .val (.long q2), .second, .val (.int (0 : Int32)), .val (.ref b5)]) (rest := []) (hb hby at_120)
    refine own_via st38 ?_
    have f39 : Arv Z h38 b5 k5 .byte (8 : Int32) [(.int ((p0.toInt8.toInt32).toInt8.toInt32)), (.int ((((p0.toUInt32 >>> ((8 : Int32) &&& 31).toUInt32).toInt32).toInt8.toInt32).toInt8.toInt32)), (.int ((((p0.toUInt32 >>> ((16 : Int32) &&& 31).toUInt32).toInt32).toInt8.toInt32).toInt8.toInt32)), (.int (((((q2.toUInt64 >>> ((24 : Int32) &&& 0x3f).toInt64.toUInt64).toInt64).toInt32).toInt8.toInt32).toInt8.toInt32)), (.int (((((q2.toUInt64 >>> ((32 : Int32) &&& 0x3f).toInt64.toUInt64).toInt64).toInt32).toInt8.toInt32).toInt8.toInt32)), (.int (((((q2.toUInt64 >>> ((40 : Int32) &&& 0x3f).toInt64.toUInt64).toInt64).toInt32).toInt8.toInt32).toInt8.toInt32)), (.int (((((q2.toUInt64 >>> ((48 : Int32) &&& 0x3f).toInt64.toUInt64).toInt64).toInt32).toInt8.toInt32).toInt8.toInt32)), (.int (((((q2.toUInt64 >>> ((56 : Int32) &&& 0x3f).toInt64.toUInt64).toInt64).toInt32).toInt8.toInt32).toInt8.toInt32))] (.int (0 : Int32)) := V38
    have Zs40 : n0 ≤ h38.size := by rw [W38.size]; exact Zs37
    show own_G p e below _ (T38.setTop (mkF m 121 #[.val (.int p0), .val (.int p1), .val (.long q2), .second, .val (.int (0 : Int32)), .val (.ref b5)] []))
    refine own_via (fun t k => XS.aload X38.here hx rfl (hb hby at_121) rfl rfl k) ?_
    show own_G p e below _ (T38.setTop (mkF m 123 #[.val (.int p0), .val (.int p1), .val (.long q2), .second, .val (.int (0 : Int32)), .val (.ref b5)] [(.ref b5)]))
    refine own_via (fun t k => XS.iload X38.here hx rfl (hb hby at_123) rfl k) ?_
    show own_G p e below _ (T38.setTop (mkF m 125 #[.val (.int p0), .val (.int p1), .val (.long q2), .second, .val (.int (0 : Int32)), .val (.ref b5)] [(.int (0 : Int32)), (.ref b5)]))
    refine own_via (fun t k => XS.iconst X38.here hx rfl (hb hby at_125) k) ?_
    show own_G p e below _ (T38.setTop (mkF m 126 #[.val (.int p0), .val (.int p1), .val (.long q2), .second, .val (.int (0 : Int32)), .val (.ref b5)] [(.int (3 : Int32)), (.int (0 : Int32)), (.ref b5)]))
    refine own_via (fun t k => XS.iadd X38.here hx rfl (hb hby at_126) rfl k) ?_
    show own_G p e below _ (T38.setTop (mkF m 127 #[.val (.int p0), .val (.int p1), .val (.long q2), .second, .val (.int (0 : Int32)), .val (.ref b5)] [(.int (3 : Int32)), (.ref b5)]))
    refine own_via (fun t k => XS.iloadN X38.here hx rfl (hb hby at_127) rfl k) ?_
    show own_G p e below _ (T38.setTop (mkF m 128 #[.val (.int p0), .val (.int p1), .val (.long q2), .second, .val (.int (0 : Int32)), .val (.ref b5)] [(.int p0), (.int (3 : Int32)), (.ref b5)]))
    refine own_via (fun t k => XS.bipush X38.here hx rfl (hb hby at_128) k) ?_
    show own_G p e below _ (T38.setTop (mkF m 130 #[.val (.int p0), .val (.int p1), .val (.long q2), .second, .val (.int (0 : Int32)), .val (.ref b5)] [(.int (24 : Int32)), (.int p0), (.int (3 : Int32)), (.ref b5)]))
    refine own_via (fun t k => XS.iushr X38.here hx rfl (hb hby at_130) rfl k) ?_
    show own_G p e below _ (T38.setTop (mkF m 131 #[.val (.int p0), .val (.int p1), .val (.long q2), .second, .val (.int (0 : Int32)), .val (.ref b5)] [(.int ((p0.toUInt32 >>> ((24 : Int32) &&& 31).toUInt32).toInt32)), (.int (3 : Int32)), (.ref b5)]))
    refine own_via (fun t k => XS.i2b X38.here hx rfl (hb hby at_131) rfl k) ?_
    show own_G p e below _ (T38.setTop (mkF m 132 #[.val (.int p0), .val (.int p1), .val (.long q2), .second, .val (.int (0 : Int32)), .val (.ref b5)] [(.int (((p0.toUInt32 >>> ((24 : Int32) &&& 31).toUInt32).toInt32).toInt8.toInt32)), (.int (3 : Int32)), (.ref b5)]))
    obtain ⟨T41, h41, L41, X41, N41, e41, W41, V41, st41⟩ := own_stB X38 N38 hx hZ e38 f39 g_b5 (j := (3 : Int32)) (x := (((p0.toUInt32 >>> ((24 : Int32) &&& 31).toUInt32).toInt32).toInt8.toInt32)) (i := 3) ⟨by decide, by decide⟩ rfl (Nat.le_of_ble_eq_true rfl) (pc := 132) (Ls := #[.val (.int p0), .val (.int p1), .val (.long q2), .second, .val (.int (0 : Int32)), .val (.ref b5)]) (rest := []) (hb hby at_132)
    refine own_via st41 ?_
    have f42 : Arv Z h41 b5 k5 .byte (8 : Int32) [(.int ((p0.toInt8.toInt32).toInt8.toInt32)), (.int ((((p0.toUInt32 >>> ((8 : Int32) &&& 31).toUInt32).toInt32).toInt8.toInt32).toInt8.toInt32)), (.int ((((p0.toUInt32 >>> ((16 : Int32) &&& 31).toUInt32).toInt32).toInt8.toInt32).toInt8.toInt32)), (.int ((((p0.toUInt32 >>> ((24 : Int32) &&& 31).toUInt32).toInt32).toInt8.toInt32).toInt8.toInt32)), (.int (((((q2.toUInt64 >>> ((32 : Int32) &&& 0x3f).toInt64.toUInt64).toInt64).toInt32).toInt8.toInt32).toInt8.toInt32)), (.int (((((q2.toUInt64 >>> ((40 : Int32) &&& 0x3f).toInt64.toUInt64).toInt64).toInt32).toInt8.toInt32).toInt8.toInt32)), (.int (((((q2.toUInt64 >>> ((48 : Int32) &&& 0x3f).toInt64.toUInt64).toInt64).toInt32).toInt8.toInt32).toInt8.toInt32)), (.int (((((q2.toUInt64 >>> ((56 : Int32) &&& 0x3f).toInt64.toUInt64).toInt64).toInt32).toInt8.toInt32).toInt8.toInt32))] (.int (0 : Int32)) := V41
    have Zs43 : n0 ≤ h41.size := by rw [W41.size]; exact Zs40
    show own_G p e below _ (T41.setTop (mkF m 133 #[.val (.int p0), .val (.int p1), .val (.long q2), .second, .val (.int (0 : Int32)), .val (.ref b5)] []))
    refine own_via (fun t k => XS.aload X41.here hx rfl (hb hby at_133) rfl rfl k) ?_
    show own_G p e below _ (T41.setTop (mkF m 135 #[.val (.int p0), .val (.int p1), .val (.long q2), .second, .val (.int (0 : Int32)), .val (.ref b5)] [(.ref b5)]))
    refine own_via (fun t k => XS.iload X41.here hx rfl (hb hby at_135) rfl k) ?_
    show own_G p e below _ (T41.setTop (mkF m 137 #[.val (.int p0), .val (.int p1), .val (.long q2), .second, .val (.int (0 : Int32)), .val (.ref b5)] [(.int (0 : Int32)), (.ref b5)]))
    obtain ⟨T44, X44, e44, st44⟩ := own_callP (y := (⟨"com/example/bowerbird/bowerbird/BsonTree", "int32", "([BI)I"⟩ : MethodName)) (W := 0) X41 hx hZ hown (hw _ (List.mem_of_getElem? (i := 1) rfl)) (hw _ (List.mem_of_getElem? (i := 2) rfl)) (hw _ (List.mem_of_getElem? (i := 3) rfl)) (hw _ (List.mem_of_getElem? (i := 4) rfl)) (by decide) (own_int32_0 l Z a0 hw [] b5 k5 ((p0.toInt8.toInt32).toInt8.toInt32) ((((p0.toUInt32 >>> ((8 : Int32) &&& 31).toUInt32).toInt32).toInt8.toInt32).toInt8.toInt32) ((((p0.toUInt32 >>> ((16 : Int32) &&& 31).toUInt32).toInt32).toInt8.toInt32).toInt8.toInt32) ((((p0.toUInt32 >>> ((24 : Int32) &&& 31).toUInt32).toInt32).toInt8.toInt32).toInt8.toInt32) (((((q2.toUInt64 >>> ((32 : Int32) &&& 0x3f).toInt64.toUInt64).toInt64).toInt32).toInt8.toInt32).toInt8.toInt32) (((((q2.toUInt64 >>> ((40 : Int32) &&& 0x3f).toInt64.toUInt64).toInt64).toInt32).toInt8.toInt32).toInt8.toInt32) (((((q2.toUInt64 >>> ((48 : Int32) &&& 0x3f).toInt64.toUInt64).toInt64).toInt32).toInt8.toInt32).toInt8.toInt32) (((((q2.toUInt64 >>> ((56 : Int32) &&& 0x3f).toInt64.toUInt64).toInt64).toInt32).toInt8.toInt32).toInt8.toInt32) h41 f42) (by decide) (by decide) rfl rfl (by decide) (by decide) e41 (pc := 137) (Ls := #[.val (.int p0), .val (.int p1), .val (.long q2), .second, .val (.int (0 : Int32)), .val (.ref b5)]) (st := [(.int (0 : Int32)), (.ref b5)]) (argsL := [(.ref b5), (.int (0 : Int32))]) (rest := []) (by rw [hml]; rfl) (lenOf own_pd0 rfl) rfl rfl (Nat.le_of_eq rfl) (hb hby at_137)
    refine own_via st44 ?_
    show own_G p e below _ (T44.setTop (mkF m 140 #[.val (.int p0), .val (.int p1), .val (.long q2), .second, .val (.int (0 : Int32)), .val (.ref b5)] [(.int (own_le ((p0.toInt8.toInt32).toInt8.toInt32) ((((p0.toUInt32 >>> ((8 : Int32) &&& 31).toUInt32).toInt32).toInt8.toInt32).toInt8.toInt32) ((((p0.toUInt32 >>> ((16 : Int32) &&& 31).toUInt32).toInt32).toInt8.toInt32).toInt8.toInt32) ((((p0.toUInt32 >>> ((24 : Int32) &&& 31).toUInt32).toInt32).toInt8.toInt32).toInt8.toInt32)))]))
    refine own_via (fun t k => XS.iloadN X44.here hx rfl (hb hby at_140) rfl k) ?_
    show own_G p e below _ (T44.setTop (mkF m 141 #[.val (.int p0), .val (.int p1), .val (.long q2), .second, .val (.int (0 : Int32)), .val (.ref b5)] [(.int p0), (.int (own_le ((p0.toInt8.toInt32).toInt8.toInt32) ((((p0.toUInt32 >>> ((8 : Int32) &&& 31).toUInt32).toInt32).toInt8.toInt32).toInt8.toInt32) ((((p0.toUInt32 >>> ((16 : Int32) &&& 31).toUInt32).toInt32).toInt8.toInt32).toInt8.toInt32) ((((p0.toUInt32 >>> ((24 : Int32) &&& 31).toUInt32).toInt32).toInt8.toInt32).toInt8.toInt32)))]))
    refine own_via (fun t k => XS.icmpNo X44.here hx rfl (hb hby at_141) rfl (teq (own_back p0)).2 k) ?_
    show own_G p e below _ (T44.setTop (mkF m 144 #[.val (.int p0), .val (.int p1), .val (.long q2), .second, .val (.int (0 : Int32)), .val (.ref b5)] []))
    refine own_via (fun t k => XS.iconst X44.here hx rfl (hb hby at_144) k) ?_
    show own_G p e below _ (T44.setTop (mkF m 145 #[.val (.int p0), .val (.int p1), .val (.long q2), .second, .val (.int (0 : Int32)), .val (.ref b5)] [(.int (1 : Int32))]))
    refine own_via (fun t k => XS.goto X44.here hx rfl (pc0 := 145) (pc' := 149) rfl (hb hby at_145) (by decide) (by decide) k) ?_
    show own_G p e below _ (T44.setTop (mkF m 149 #[.val (.int p0), .val (.int p1), .val (.long q2), .second, .val (.int (0 : Int32)), .val (.ref b5)] [(.int (1 : Int32))]))
    exact own_retN (t := .boolean) X44 hx Bd.returns (by simp) Bd.notSynchronized (hb hby at_149) ⟨N41, rfl⟩ (by decide) (by decide)
  ·
    rw [hs2]
    show own_G p e below _ (s₁.setTop (mkF m 3 #[.val (.int p0), .val (.int p1), .val (.long q2), .second, .unset, .unset] [(.int (1 : Int32))]))
    refine own_via (fun t k => XS.istore X0.here hx rfl (hb hby at_3) rfl (l' := #[.val (.int p0), .val (.int p1), .val (.long q2), .second, .val (.int (1 : Int32)), .unset]) rfl k) ?_
    show own_G p e below _ (s₁.setTop (mkF m 5 #[.val (.int p0), .val (.int p1), .val (.long q2), .second, .val (.int (1 : Int32)), .unset] []))
    refine own_via (fun t k => XS.bipush X0.here hx rfl (hb hby at_5) k) ?_
    show own_G p e below _ (s₁.setTop (mkF m 7 #[.val (.int p0), .val (.int p1), .val (.long q2), .second, .val (.int (1 : Int32)), .unset] [(.int (8 : Int32))]))
    obtain ⟨T45, h45, k45, b45, X45, e45, E45, ga45, V45, Ex45, st45⟩ := own_newA X0 hx hZ (hw _ (List.mem_of_getElem? (i := 0) rfl)) e0 (pc := 7) (Ls := #[.val (.int p0), .val (.int p1), .val (.long q2), .second, .val (.int (1 : Int32)), .unset]) (rest := []) (hb hby at_7) (n := (8 : Int32)) (by decide) (cap := 8) (by decide) (by decide) (by decide) (by decide) 8 rfl
    refine own_via st45 ?_
    have f46 : Arv Z h45 b45 k45 .byte (8 : Int32) [(.int (0 : Int32)), (.int (0 : Int32)), (.int (0 : Int32)), (.int (0 : Int32)), (.int (0 : Int32)), (.int (0 : Int32)), (.int (0 : Int32)), (.int (0 : Int32))] (.int (0 : Int32)) := V45
    have g_b45 : n0 ≤ b45 := Nat.le_trans Z0 (Nat.le_of_eq ga45.symm)
    have Zs47 : n0 ≤ h45.size := Nat.le_trans Z0 E45.1
    show own_G p e below _ (T45.setTop (mkF m 9 #[.val (.int p0), .val (.int p1), .val (.long q2), .second, .val (.int (1 : Int32)), .unset] [(.ref b45)]))
    refine own_via (fun t k => XS.astore X45.here hx rfl (hb hby at_9) rfl rfl (l' := #[.val (.int p0), .val (.int p1), .val (.long q2), .second, .val (.int (1 : Int32)), .val (.ref b45)]) rfl k) ?_
    show own_G p e below _ (T45.setTop (mkF m 11 #[.val (.int p0), .val (.int p1), .val (.long q2), .second, .val (.int (1 : Int32)), .val (.ref b45)] []))
    refine own_via (fun t k => XS.aload X45.here hx rfl (hb hby at_11) rfl rfl k) ?_
    show own_G p e below _ (T45.setTop (mkF m 13 #[.val (.int p0), .val (.int p1), .val (.long q2), .second, .val (.int (1 : Int32)), .val (.ref b45)] [(.ref b45)]))
    refine own_via (fun t k => XS.iconst X45.here hx rfl (hb hby at_13) k) ?_
    show own_G p e below _ (T45.setTop (mkF m 14 #[.val (.int p0), .val (.int p1), .val (.long q2), .second, .val (.int (1 : Int32)), .val (.ref b45)] [(.int (0 : Int32)), (.ref b45)]))
    refine own_via (fun t k => XS.lloadN X45.here hx rfl (hb hby at_14) rfl k) ?_
    show own_G p e below _ (T45.setTop (mkF m 15 #[.val (.int p0), .val (.int p1), .val (.long q2), .second, .val (.int (1 : Int32)), .val (.ref b45)] [(.long q2), (.int (0 : Int32)), (.ref b45)]))
    refine own_via (fun t k => XS.l2i X45.here hx rfl (hb hby at_15) rfl k) ?_
    show own_G p e below _ (T45.setTop (mkF m 16 #[.val (.int p0), .val (.int p1), .val (.long q2), .second, .val (.int (1 : Int32)), .val (.ref b45)] [(.int (q2.toInt32)), (.int (0 : Int32)), (.ref b45)]))
    refine own_via (fun t k => XS.i2b X45.here hx rfl (hb hby at_16) rfl k) ?_
    show own_G p e below _ (T45.setTop (mkF m 17 #[.val (.int p0), .val (.int p1), .val (.long q2), .second, .val (.int (1 : Int32)), .val (.ref b45)] [(.int ((q2.toInt32).toInt8.toInt32)), (.int (0 : Int32)), (.ref b45)]))
    obtain ⟨T48, h48, L48, X48, N48, e48, W48, V48, st48⟩ := own_stB X45 N0 hx hZ e45 f46 g_b45 (j := (0 : Int32)) (x := ((q2.toInt32).toInt8.toInt32)) (i := 0) ⟨by decide, by decide⟩ rfl (Nat.le_of_ble_eq_true rfl) (pc := 17) (Ls := #[.val (.int p0), .val (.int p1), .val (.long q2), .second, .val (.int (1 : Int32)), .val (.ref b45)]) (rest := []) (hb hby at_17)
    refine own_via st48 ?_
    have f49 : Arv Z h48 b45 k45 .byte (8 : Int32) [(.int (((q2.toInt32).toInt8.toInt32).toInt8.toInt32)), (.int (0 : Int32)), (.int (0 : Int32)), (.int (0 : Int32)), (.int (0 : Int32)), (.int (0 : Int32)), (.int (0 : Int32)), (.int (0 : Int32))] (.int (0 : Int32)) := V48
    have Zs50 : n0 ≤ h48.size := by rw [W48.size]; exact Zs47
    show own_G p e below _ (T48.setTop (mkF m 18 #[.val (.int p0), .val (.int p1), .val (.long q2), .second, .val (.int (1 : Int32)), .val (.ref b45)] []))
    refine own_via (fun t k => XS.aload X48.here hx rfl (hb hby at_18) rfl rfl k) ?_
    show own_G p e below _ (T48.setTop (mkF m 20 #[.val (.int p0), .val (.int p1), .val (.long q2), .second, .val (.int (1 : Int32)), .val (.ref b45)] [(.ref b45)]))
    refine own_via (fun t k => XS.iconst X48.here hx rfl (hb hby at_20) k) ?_
    show own_G p e below _ (T48.setTop (mkF m 21 #[.val (.int p0), .val (.int p1), .val (.long q2), .second, .val (.int (1 : Int32)), .val (.ref b45)] [(.int (1 : Int32)), (.ref b45)]))
    refine own_via (fun t k => XS.lloadN X48.here hx rfl (hb hby at_21) rfl k) ?_
    show own_G p e below _ (T48.setTop (mkF m 22 #[.val (.int p0), .val (.int p1), .val (.long q2), .second, .val (.int (1 : Int32)), .val (.ref b45)] [(.long q2), (.int (1 : Int32)), (.ref b45)]))
    refine own_via (fun t k => XS.bipush X48.here hx rfl (hb hby at_22) k) ?_
    show own_G p e below _ (T48.setTop (mkF m 24 #[.val (.int p0), .val (.int p1), .val (.long q2), .second, .val (.int (1 : Int32)), .val (.ref b45)] [(.int (8 : Int32)), (.long q2), (.int (1 : Int32)), (.ref b45)]))
    refine own_via (fun t k => XS.lushr X48.here hx rfl (hb hby at_24) rfl k) ?_
    show own_G p e below _ (T48.setTop (mkF m 25 #[.val (.int p0), .val (.int p1), .val (.long q2), .second, .val (.int (1 : Int32)), .val (.ref b45)] [(.long ((q2.toUInt64 >>> ((8 : Int32) &&& 0x3f).toInt64.toUInt64).toInt64)), (.int (1 : Int32)), (.ref b45)]))
    refine own_via (fun t k => XS.l2i X48.here hx rfl (hb hby at_25) rfl k) ?_
    show own_G p e below _ (T48.setTop (mkF m 26 #[.val (.int p0), .val (.int p1), .val (.long q2), .second, .val (.int (1 : Int32)), .val (.ref b45)] [(.int (((q2.toUInt64 >>> ((8 : Int32) &&& 0x3f).toInt64.toUInt64).toInt64).toInt32)), (.int (1 : Int32)), (.ref b45)]))
    refine own_via (fun t k => XS.i2b X48.here hx rfl (hb hby at_26) rfl k) ?_
    show own_G p e below _ (T48.setTop (mkF m 27 #[.val (.int p0), .val (.int p1), .val (.long q2), .second, .val (.int (1 : Int32)), .val (.ref b45)] [(.int ((((q2.toUInt64 >>> ((8 : Int32) &&& 0x3f).toInt64.toUInt64).toInt64).toInt32).toInt8.toInt32)), (.int (1 : Int32)), (.ref b45)]))
    obtain ⟨T51, h51, L51, X51, N51, e51, W51, V51, st51⟩ := own_stB X48 N48 hx hZ e48 f49 g_b45 (j := (1 : Int32)) (x := ((((q2.toUInt64 >>> ((8 : Int32) &&& 0x3f).toInt64.toUInt64).toInt64).toInt32).toInt8.toInt32)) (i := 1) ⟨by decide, by decide⟩ rfl (Nat.le_of_ble_eq_true rfl) (pc := 27) (Ls := #[.val (.int p0), .val (.int p1), .val (.long q2), .second, .val (.int (1 : Int32)), .val (.ref b45)]) (rest := []) (hb hby at_27)
    refine own_via st51 ?_
    have f52 : Arv Z h51 b45 k45 .byte (8 : Int32) [(.int (((q2.toInt32).toInt8.toInt32).toInt8.toInt32)), (.int (((((q2.toUInt64 >>> ((8 : Int32) &&& 0x3f).toInt64.toUInt64).toInt64).toInt32).toInt8.toInt32).toInt8.toInt32)), (.int (0 : Int32)), (.int (0 : Int32)), (.int (0 : Int32)), (.int (0 : Int32)), (.int (0 : Int32)), (.int (0 : Int32))] (.int (0 : Int32)) := V51
    have Zs53 : n0 ≤ h51.size := by rw [W51.size]; exact Zs50
    show own_G p e below _ (T51.setTop (mkF m 28 #[.val (.int p0), .val (.int p1), .val (.long q2), .second, .val (.int (1 : Int32)), .val (.ref b45)] []))
    refine own_via (fun t k => XS.aload X51.here hx rfl (hb hby at_28) rfl rfl k) ?_
    show own_G p e below _ (T51.setTop (mkF m 30 #[.val (.int p0), .val (.int p1), .val (.long q2), .second, .val (.int (1 : Int32)), .val (.ref b45)] [(.ref b45)]))
    refine own_via (fun t k => XS.iconst X51.here hx rfl (hb hby at_30) k) ?_
    show own_G p e below _ (T51.setTop (mkF m 31 #[.val (.int p0), .val (.int p1), .val (.long q2), .second, .val (.int (1 : Int32)), .val (.ref b45)] [(.int (2 : Int32)), (.ref b45)]))
    refine own_via (fun t k => XS.lloadN X51.here hx rfl (hb hby at_31) rfl k) ?_
    show own_G p e below _ (T51.setTop (mkF m 32 #[.val (.int p0), .val (.int p1), .val (.long q2), .second, .val (.int (1 : Int32)), .val (.ref b45)] [(.long q2), (.int (2 : Int32)), (.ref b45)]))
    refine own_via (fun t k => XS.bipush X51.here hx rfl (hb hby at_32) k) ?_
    show own_G p e below _ (T51.setTop (mkF m 34 #[.val (.int p0), .val (.int p1), .val (.long q2), .second, .val (.int (1 : Int32)), .val (.ref b45)] [(.int (16 : Int32)), (.long q2), (.int (2 : Int32)), (.ref b45)]))
    refine own_via (fun t k => XS.lushr X51.here hx rfl (hb hby at_34) rfl k) ?_
    show own_G p e below _ (T51.setTop (mkF m 35 #[.val (.int p0), .val (.int p1), .val (.long q2), .second, .val (.int (1 : Int32)), .val (.ref b45)] [(.long ((q2.toUInt64 >>> ((16 : Int32) &&& 0x3f).toInt64.toUInt64).toInt64)), (.int (2 : Int32)), (.ref b45)]))
    refine own_via (fun t k => XS.l2i X51.here hx rfl (hb hby at_35) rfl k) ?_
    show own_G p e below _ (T51.setTop (mkF m 36 #[.val (.int p0), .val (.int p1), .val (.long q2), .second, .val (.int (1 : Int32)), .val (.ref b45)] [(.int (((q2.toUInt64 >>> ((16 : Int32) &&& 0x3f).toInt64.toUInt64).toInt64).toInt32)), (.int (2 : Int32)), (.ref b45)]))
    refine own_via (fun t k => XS.i2b X51.here hx rfl (hb hby at_36) rfl k) ?_
    show own_G p e below _ (T51.setTop (mkF m 37 #[.val (.int p0), .val (.int p1), .val (.long q2), .second, .val (.int (1 : Int32)), .val (.ref b45)] [(.int ((((q2.toUInt64 >>> ((16 : Int32) &&& 0x3f).toInt64.toUInt64).toInt64).toInt32).toInt8.toInt32)), (.int (2 : Int32)), (.ref b45)]))
    obtain ⟨T54, h54, L54, X54, N54, e54, W54, V54, st54⟩ := own_stB X51 N51 hx hZ e51 f52 g_b45 (j := (2 : Int32)) (x := ((((q2.toUInt64 >>> ((16 : Int32) &&& 0x3f).toInt64.toUInt64).toInt64).toInt32).toInt8.toInt32)) (i := 2) ⟨by decide, by decide⟩ rfl (Nat.le_of_ble_eq_true rfl) (pc := 37) (Ls := #[.val (.int p0), .val (.int p1), .val (.long q2), .second, .val (.int (1 : Int32)), .val (.ref b45)]) (rest := []) (hb hby at_37)
    refine own_via st54 ?_
    have f55 : Arv Z h54 b45 k45 .byte (8 : Int32) [(.int (((q2.toInt32).toInt8.toInt32).toInt8.toInt32)), (.int (((((q2.toUInt64 >>> ((8 : Int32) &&& 0x3f).toInt64.toUInt64).toInt64).toInt32).toInt8.toInt32).toInt8.toInt32)), (.int (((((q2.toUInt64 >>> ((16 : Int32) &&& 0x3f).toInt64.toUInt64).toInt64).toInt32).toInt8.toInt32).toInt8.toInt32)), (.int (0 : Int32)), (.int (0 : Int32)), (.int (0 : Int32)), (.int (0 : Int32)), (.int (0 : Int32))] (.int (0 : Int32)) := V54
    have Zs56 : n0 ≤ h54.size := by rw [W54.size]; exact Zs53
    show own_G p e below _ (T54.setTop (mkF m 38 #[.val (.int p0), .val (.int p1), .val (.long q2), .second, .val (.int (1 : Int32)), .val (.ref b45)] []))
    refine own_via (fun t k => XS.aload X54.here hx rfl (hb hby at_38) rfl rfl k) ?_
    show own_G p e below _ (T54.setTop (mkF m 40 #[.val (.int p0), .val (.int p1), .val (.long q2), .second, .val (.int (1 : Int32)), .val (.ref b45)] [(.ref b45)]))
    refine own_via (fun t k => XS.iconst X54.here hx rfl (hb hby at_40) k) ?_
    show own_G p e below _ (T54.setTop (mkF m 41 #[.val (.int p0), .val (.int p1), .val (.long q2), .second, .val (.int (1 : Int32)), .val (.ref b45)] [(.int (3 : Int32)), (.ref b45)]))
    refine own_via (fun t k => XS.lloadN X54.here hx rfl (hb hby at_41) rfl k) ?_
    show own_G p e below _ (T54.setTop (mkF m 42 #[.val (.int p0), .val (.int p1), .val (.long q2), .second, .val (.int (1 : Int32)), .val (.ref b45)] [(.long q2), (.int (3 : Int32)), (.ref b45)]))
    refine own_via (fun t k => XS.bipush X54.here hx rfl (hb hby at_42) k) ?_
    show own_G p e below _ (T54.setTop (mkF m 44 #[.val (.int p0), .val (.int p1), .val (.long q2), .second, .val (.int (1 : Int32)), .val (.ref b45)] [(.int (24 : Int32)), (.long q2), (.int (3 : Int32)), (.ref b45)]))
    refine own_via (fun t k => XS.lushr X54.here hx rfl (hb hby at_44) rfl k) ?_
    show own_G p e below _ (T54.setTop (mkF m 45 #[.val (.int p0), .val (.int p1), .val (.long q2), .second, .val (.int (1 : Int32)), .val (.ref b45)] [(.long ((q2.toUInt64 >>> ((24 : Int32) &&& 0x3f).toInt64.toUInt64).toInt64)), (.int (3 : Int32)), (.ref b45)]))
    refine own_via (fun t k => XS.l2i X54.here hx rfl (hb hby at_45) rfl k) ?_
    show own_G p e below _ (T54.setTop (mkF m 46 #[.val (.int p0), .val (.int p1), .val (.long q2), .second, .val (.int (1 : Int32)), .val (.ref b45)] [(.int (((q2.toUInt64 >>> ((24 : Int32) &&& 0x3f).toInt64.toUInt64).toInt64).toInt32)), (.int (3 : Int32)), (.ref b45)]))
    refine own_via (fun t k => XS.i2b X54.here hx rfl (hb hby at_46) rfl k) ?_
    show own_G p e below _ (T54.setTop (mkF m 47 #[.val (.int p0), .val (.int p1), .val (.long q2), .second, .val (.int (1 : Int32)), .val (.ref b45)] [(.int ((((q2.toUInt64 >>> ((24 : Int32) &&& 0x3f).toInt64.toUInt64).toInt64).toInt32).toInt8.toInt32)), (.int (3 : Int32)), (.ref b45)]))
    obtain ⟨T57, h57, L57, X57, N57, e57, W57, V57, st57⟩ := own_stB X54 N54 hx hZ e54 f55 g_b45 (j := (3 : Int32)) (x := ((((q2.toUInt64 >>> ((24 : Int32) &&& 0x3f).toInt64.toUInt64).toInt64).toInt32).toInt8.toInt32)) (i := 3) ⟨by decide, by decide⟩ rfl (Nat.le_of_ble_eq_true rfl) (pc := 47) (Ls := #[.val (.int p0), .val (.int p1), .val (.long q2), .second, .val (.int (1 : Int32)), .val (.ref b45)]) (rest := []) (hb hby at_47)
    refine own_via st57 ?_
    have f58 : Arv Z h57 b45 k45 .byte (8 : Int32) [(.int (((q2.toInt32).toInt8.toInt32).toInt8.toInt32)), (.int (((((q2.toUInt64 >>> ((8 : Int32) &&& 0x3f).toInt64.toUInt64).toInt64).toInt32).toInt8.toInt32).toInt8.toInt32)), (.int (((((q2.toUInt64 >>> ((16 : Int32) &&& 0x3f).toInt64.toUInt64).toInt64).toInt32).toInt8.toInt32).toInt8.toInt32)), (.int (((((q2.toUInt64 >>> ((24 : Int32) &&& 0x3f).toInt64.toUInt64).toInt64).toInt32).toInt8.toInt32).toInt8.toInt32)), (.int (0 : Int32)), (.int (0 : Int32)), (.int (0 : Int32)), (.int (0 : Int32))] (.int (0 : Int32)) := V57
    have Zs59 : n0 ≤ h57.size := by rw [W57.size]; exact Zs56
    show own_G p e below _ (T57.setTop (mkF m 48 #[.val (.int p0), .val (.int p1), .val (.long q2), .second, .val (.int (1 : Int32)), .val (.ref b45)] []))
    refine own_via (fun t k => XS.aload X57.here hx rfl (hb hby at_48) rfl rfl k) ?_
    show own_G p e below _ (T57.setTop (mkF m 50 #[.val (.int p0), .val (.int p1), .val (.long q2), .second, .val (.int (1 : Int32)), .val (.ref b45)] [(.ref b45)]))
    refine own_via (fun t k => XS.iconst X57.here hx rfl (hb hby at_50) k) ?_
    show own_G p e below _ (T57.setTop (mkF m 51 #[.val (.int p0), .val (.int p1), .val (.long q2), .second, .val (.int (1 : Int32)), .val (.ref b45)] [(.int (4 : Int32)), (.ref b45)]))
    refine own_via (fun t k => XS.lloadN X57.here hx rfl (hb hby at_51) rfl k) ?_
    show own_G p e below _ (T57.setTop (mkF m 52 #[.val (.int p0), .val (.int p1), .val (.long q2), .second, .val (.int (1 : Int32)), .val (.ref b45)] [(.long q2), (.int (4 : Int32)), (.ref b45)]))
    refine own_via (fun t k => XS.bipush X57.here hx rfl (hb hby at_52) k) ?_
    show own_G p e below _ (T57.setTop (mkF m 54 #[.val (.int p0), .val (.int p1), .val (.long q2), .second, .val (.int (1 : Int32)), .val (.ref b45)] [(.int (32 : Int32)), (.long q2), (.int (4 : Int32)), (.ref b45)]))
    refine own_via (fun t k => XS.lushr X57.here hx rfl (hb hby at_54) rfl k) ?_
    show own_G p e below _ (T57.setTop (mkF m 55 #[.val (.int p0), .val (.int p1), .val (.long q2), .second, .val (.int (1 : Int32)), .val (.ref b45)] [(.long ((q2.toUInt64 >>> ((32 : Int32) &&& 0x3f).toInt64.toUInt64).toInt64)), (.int (4 : Int32)), (.ref b45)]))
    refine own_via (fun t k => XS.l2i X57.here hx rfl (hb hby at_55) rfl k) ?_
    show own_G p e below _ (T57.setTop (mkF m 56 #[.val (.int p0), .val (.int p1), .val (.long q2), .second, .val (.int (1 : Int32)), .val (.ref b45)] [(.int (((q2.toUInt64 >>> ((32 : Int32) &&& 0x3f).toInt64.toUInt64).toInt64).toInt32)), (.int (4 : Int32)), (.ref b45)]))
    refine own_via (fun t k => XS.i2b X57.here hx rfl (hb hby at_56) rfl k) ?_
    show own_G p e below _ (T57.setTop (mkF m 57 #[.val (.int p0), .val (.int p1), .val (.long q2), .second, .val (.int (1 : Int32)), .val (.ref b45)] [(.int ((((q2.toUInt64 >>> ((32 : Int32) &&& 0x3f).toInt64.toUInt64).toInt64).toInt32).toInt8.toInt32)), (.int (4 : Int32)), (.ref b45)]))
    obtain ⟨T60, h60, L60, X60, N60, e60, W60, V60, st60⟩ := own_stB X57 N57 hx hZ e57 f58 g_b45 (j := (4 : Int32)) (x := ((((q2.toUInt64 >>> ((32 : Int32) &&& 0x3f).toInt64.toUInt64).toInt64).toInt32).toInt8.toInt32)) (i := 4) ⟨by decide, by decide⟩ rfl (Nat.le_of_ble_eq_true rfl) (pc := 57) (Ls := #[.val (.int p0), .val (.int p1), .val (.long q2), .second, .val (.int (1 : Int32)), .val (.ref b45)]) (rest := []) (hb hby at_57)
    refine own_via st60 ?_
    have f61 : Arv Z h60 b45 k45 .byte (8 : Int32) [(.int (((q2.toInt32).toInt8.toInt32).toInt8.toInt32)), (.int (((((q2.toUInt64 >>> ((8 : Int32) &&& 0x3f).toInt64.toUInt64).toInt64).toInt32).toInt8.toInt32).toInt8.toInt32)), (.int (((((q2.toUInt64 >>> ((16 : Int32) &&& 0x3f).toInt64.toUInt64).toInt64).toInt32).toInt8.toInt32).toInt8.toInt32)), (.int (((((q2.toUInt64 >>> ((24 : Int32) &&& 0x3f).toInt64.toUInt64).toInt64).toInt32).toInt8.toInt32).toInt8.toInt32)), (.int (((((q2.toUInt64 >>> ((32 : Int32) &&& 0x3f).toInt64.toUInt64).toInt64).toInt32).toInt8.toInt32).toInt8.toInt32)), (.int (0 : Int32)), (.int (0 : Int32)), (.int (0 : Int32))] (.int (0 : Int32)) := V60
    have Zs62 : n0 ≤ h60.size := by rw [W60.size]; exact Zs59
    show own_G p e below _ (T60.setTop (mkF m 58 #[.val (.int p0), .val (.int p1), .val (.long q2), .second, .val (.int (1 : Int32)), .val (.ref b45)] []))
    refine own_via (fun t k => XS.aload X60.here hx rfl (hb hby at_58) rfl rfl k) ?_
    show own_G p e below _ (T60.setTop (mkF m 60 #[.val (.int p0), .val (.int p1), .val (.long q2), .second, .val (.int (1 : Int32)), .val (.ref b45)] [(.ref b45)]))
    refine own_via (fun t k => XS.iconst X60.here hx rfl (hb hby at_60) k) ?_
    show own_G p e below _ (T60.setTop (mkF m 61 #[.val (.int p0), .val (.int p1), .val (.long q2), .second, .val (.int (1 : Int32)), .val (.ref b45)] [(.int (5 : Int32)), (.ref b45)]))
    refine own_via (fun t k => XS.lloadN X60.here hx rfl (hb hby at_61) rfl k) ?_
    show own_G p e below _ (T60.setTop (mkF m 62 #[.val (.int p0), .val (.int p1), .val (.long q2), .second, .val (.int (1 : Int32)), .val (.ref b45)] [(.long q2), (.int (5 : Int32)), (.ref b45)]))
    refine own_via (fun t k => XS.bipush X60.here hx rfl (hb hby at_62) k) ?_
    show own_G p e below _ (T60.setTop (mkF m 64 #[.val (.int p0), .val (.int p1), .val (.long q2), .second, .val (.int (1 : Int32)), .val (.ref b45)] [(.int (40 : Int32)), (.long q2), (.int (5 : Int32)), (.ref b45)]))
    refine own_via (fun t k => XS.lushr X60.here hx rfl (hb hby at_64) rfl k) ?_
    show own_G p e below _ (T60.setTop (mkF m 65 #[.val (.int p0), .val (.int p1), .val (.long q2), .second, .val (.int (1 : Int32)), .val (.ref b45)] [(.long ((q2.toUInt64 >>> ((40 : Int32) &&& 0x3f).toInt64.toUInt64).toInt64)), (.int (5 : Int32)), (.ref b45)]))
    refine own_via (fun t k => XS.l2i X60.here hx rfl (hb hby at_65) rfl k) ?_
    show own_G p e below _ (T60.setTop (mkF m 66 #[.val (.int p0), .val (.int p1), .val (.long q2), .second, .val (.int (1 : Int32)), .val (.ref b45)] [(.int (((q2.toUInt64 >>> ((40 : Int32) &&& 0x3f).toInt64.toUInt64).toInt64).toInt32)), (.int (5 : Int32)), (.ref b45)]))
    refine own_via (fun t k => XS.i2b X60.here hx rfl (hb hby at_66) rfl k) ?_
    show own_G p e below _ (T60.setTop (mkF m 67 #[.val (.int p0), .val (.int p1), .val (.long q2), .second, .val (.int (1 : Int32)), .val (.ref b45)] [(.int ((((q2.toUInt64 >>> ((40 : Int32) &&& 0x3f).toInt64.toUInt64).toInt64).toInt32).toInt8.toInt32)), (.int (5 : Int32)), (.ref b45)]))
    obtain ⟨T63, h63, L63, X63, N63, e63, W63, V63, st63⟩ := own_stB X60 N60 hx hZ e60 f61 g_b45 (j := (5 : Int32)) (x := ((((q2.toUInt64 >>> ((40 : Int32) &&& 0x3f).toInt64.toUInt64).toInt64).toInt32).toInt8.toInt32)) (i := 5) ⟨by decide, by decide⟩ rfl (Nat.le_of_ble_eq_true rfl) (pc := 67) (Ls := #[.val (.int p0), .val (.int p1), .val (.long q2), .second, .val (.int (1 : Int32)), .val (.ref b45)]) (rest := []) (hb hby at_67)
    refine own_via st63 ?_
    have f64 : Arv Z h63 b45 k45 .byte (8 : Int32) [(.int (((q2.toInt32).toInt8.toInt32).toInt8.toInt32)), (.int (((((q2.toUInt64 >>> ((8 : Int32) &&& 0x3f).toInt64.toUInt64).toInt64).toInt32).toInt8.toInt32).toInt8.toInt32)), (.int (((((q2.toUInt64 >>> ((16 : Int32) &&& 0x3f).toInt64.toUInt64).toInt64).toInt32).toInt8.toInt32).toInt8.toInt32)), (.int (((((q2.toUInt64 >>> ((24 : Int32) &&& 0x3f).toInt64.toUInt64).toInt64).toInt32).toInt8.toInt32).toInt8.toInt32)), (.int (((((q2.toUInt64 >>> ((32 : Int32) &&& 0x3f).toInt64.toUInt64).toInt64).toInt32).toInt8.toInt32).toInt8.toInt32)), (.int (((((q2.toUInt64 >>> ((40 : Int32) &&& 0x3f).toInt64.toUInt64).toInt64).toInt32).toInt8.toInt32).toInt8.toInt32)), (.int (0 : Int32)), (.int (0 : Int32))] (.int (0 : Int32)) := V63
    have Zs65 : n0 ≤ h63.size := by rw [W63.size]; exact Zs62
    show own_G p e below _ (T63.setTop (mkF m 68 #[.val (.int p0), .val (.int p1), .val (.long q2), .second, .val (.int (1 : Int32)), .val (.ref b45)] []))
    refine own_via (fun t k => XS.aload X63.here hx rfl (hb hby at_68) rfl rfl k) ?_
    show own_G p e below _ (T63.setTop (mkF m 70 #[.val (.int p0), .val (.int p1), .val (.long q2), .second, .val (.int (1 : Int32)), .val (.ref b45)] [(.ref b45)]))
    refine own_via (fun t k => XS.bipush X63.here hx rfl (hb hby at_70) k) ?_
    show own_G p e below _ (T63.setTop (mkF m 72 #[.val (.int p0), .val (.int p1), .val (.long q2), .second, .val (.int (1 : Int32)), .val (.ref b45)] [(.int (6 : Int32)), (.ref b45)]))
    refine own_via (fun t k => XS.lloadN X63.here hx rfl (hb hby at_72) rfl k) ?_
    show own_G p e below _ (T63.setTop (mkF m 73 #[.val (.int p0), .val (.int p1), .val (.long q2), .second, .val (.int (1 : Int32)), .val (.ref b45)] [(.long q2), (.int (6 : Int32)), (.ref b45)]))
    refine own_via (fun t k => XS.bipush X63.here hx rfl (hb hby at_73) k) ?_
    show own_G p e below _ (T63.setTop (mkF m 75 #[.val (.int p0), .val (.int p1), .val (.long q2), .second, .val (.int (1 : Int32)), .val (.ref b45)] [(.int (48 : Int32)), (.long q2), (.int (6 : Int32)), (.ref b45)]))
    refine own_via (fun t k => XS.lushr X63.here hx rfl (hb hby at_75) rfl k) ?_
    show own_G p e below _ (T63.setTop (mkF m 76 #[.val (.int p0), .val (.int p1), .val (.long q2), .second, .val (.int (1 : Int32)), .val (.ref b45)] [(.long ((q2.toUInt64 >>> ((48 : Int32) &&& 0x3f).toInt64.toUInt64).toInt64)), (.int (6 : Int32)), (.ref b45)]))
    refine own_via (fun t k => XS.l2i X63.here hx rfl (hb hby at_76) rfl k) ?_
    show own_G p e below _ (T63.setTop (mkF m 77 #[.val (.int p0), .val (.int p1), .val (.long q2), .second, .val (.int (1 : Int32)), .val (.ref b45)] [(.int (((q2.toUInt64 >>> ((48 : Int32) &&& 0x3f).toInt64.toUInt64).toInt64).toInt32)), (.int (6 : Int32)), (.ref b45)]))
    refine own_via (fun t k => XS.i2b X63.here hx rfl (hb hby at_77) rfl k) ?_
    show own_G p e below _ (T63.setTop (mkF m 78 #[.val (.int p0), .val (.int p1), .val (.long q2), .second, .val (.int (1 : Int32)), .val (.ref b45)] [(.int ((((q2.toUInt64 >>> ((48 : Int32) &&& 0x3f).toInt64.toUInt64).toInt64).toInt32).toInt8.toInt32)), (.int (6 : Int32)), (.ref b45)]))
    obtain ⟨T66, h66, L66, X66, N66, e66, W66, V66, st66⟩ := own_stB X63 N63 hx hZ e63 f64 g_b45 (j := (6 : Int32)) (x := ((((q2.toUInt64 >>> ((48 : Int32) &&& 0x3f).toInt64.toUInt64).toInt64).toInt32).toInt8.toInt32)) (i := 6) ⟨by decide, by decide⟩ rfl (Nat.le_of_ble_eq_true rfl) (pc := 78) (Ls := #[.val (.int p0), .val (.int p1), .val (.long q2), .second, .val (.int (1 : Int32)), .val (.ref b45)]) (rest := []) (hb hby at_78)
    refine own_via st66 ?_
    have f67 : Arv Z h66 b45 k45 .byte (8 : Int32) [(.int (((q2.toInt32).toInt8.toInt32).toInt8.toInt32)), (.int (((((q2.toUInt64 >>> ((8 : Int32) &&& 0x3f).toInt64.toUInt64).toInt64).toInt32).toInt8.toInt32).toInt8.toInt32)), (.int (((((q2.toUInt64 >>> ((16 : Int32) &&& 0x3f).toInt64.toUInt64).toInt64).toInt32).toInt8.toInt32).toInt8.toInt32)), (.int (((((q2.toUInt64 >>> ((24 : Int32) &&& 0x3f).toInt64.toUInt64).toInt64).toInt32).toInt8.toInt32).toInt8.toInt32)), (.int (((((q2.toUInt64 >>> ((32 : Int32) &&& 0x3f).toInt64.toUInt64).toInt64).toInt32).toInt8.toInt32).toInt8.toInt32)), (.int (((((q2.toUInt64 >>> ((40 : Int32) &&& 0x3f).toInt64.toUInt64).toInt64).toInt32).toInt8.toInt32).toInt8.toInt32)), (.int (((((q2.toUInt64 >>> ((48 : Int32) &&& 0x3f).toInt64.toUInt64).toInt64).toInt32).toInt8.toInt32).toInt8.toInt32)), (.int (0 : Int32))] (.int (0 : Int32)) := V66
    have Zs68 : n0 ≤ h66.size := by rw [W66.size]; exact Zs65
    show own_G p e below _ (T66.setTop (mkF m 79 #[.val (.int p0), .val (.int p1), .val (.long q2), .second, .val (.int (1 : Int32)), .val (.ref b45)] []))
    refine own_via (fun t k => XS.aload X66.here hx rfl (hb hby at_79) rfl rfl k) ?_
    show own_G p e below _ (T66.setTop (mkF m 81 #[.val (.int p0), .val (.int p1), .val (.long q2), .second, .val (.int (1 : Int32)), .val (.ref b45)] [(.ref b45)]))
    refine own_via (fun t k => XS.bipush X66.here hx rfl (hb hby at_81) k) ?_
    show own_G p e below _ (T66.setTop (mkF m 83 #[.val (.int p0), .val (.int p1), .val (.long q2), .second, .val (.int (1 : Int32)), .val (.ref b45)] [(.int (7 : Int32)), (.ref b45)]))
    refine own_via (fun t k => XS.lloadN X66.here hx rfl (hb hby at_83) rfl k) ?_
    show own_G p e below _ (T66.setTop (mkF m 84 #[.val (.int p0), .val (.int p1), .val (.long q2), .second, .val (.int (1 : Int32)), .val (.ref b45)] [(.long q2), (.int (7 : Int32)), (.ref b45)]))
    refine own_via (fun t k => XS.bipush X66.here hx rfl (hb hby at_84) k) ?_
    show own_G p e below _ (T66.setTop (mkF m 86 #[.val (.int p0), .val (.int p1), .val (.long q2), .second, .val (.int (1 : Int32)), .val (.ref b45)] [(.int (56 : Int32)), (.long q2), (.int (7 : Int32)), (.ref b45)]))
    refine own_via (fun t k => XS.lushr X66.here hx rfl (hb hby at_86) rfl k) ?_
    show own_G p e below _ (T66.setTop (mkF m 87 #[.val (.int p0), .val (.int p1), .val (.long q2), .second, .val (.int (1 : Int32)), .val (.ref b45)] [(.long ((q2.toUInt64 >>> ((56 : Int32) &&& 0x3f).toInt64.toUInt64).toInt64)), (.int (7 : Int32)), (.ref b45)]))
    refine own_via (fun t k => XS.l2i X66.here hx rfl (hb hby at_87) rfl k) ?_
    show own_G p e below _ (T66.setTop (mkF m 88 #[.val (.int p0), .val (.int p1), .val (.long q2), .second, .val (.int (1 : Int32)), .val (.ref b45)] [(.int (((q2.toUInt64 >>> ((56 : Int32) &&& 0x3f).toInt64.toUInt64).toInt64).toInt32)), (.int (7 : Int32)), (.ref b45)]))
    refine own_via (fun t k => XS.i2b X66.here hx rfl (hb hby at_88) rfl k) ?_
    show own_G p e below _ (T66.setTop (mkF m 89 #[.val (.int p0), .val (.int p1), .val (.long q2), .second, .val (.int (1 : Int32)), .val (.ref b45)] [(.int ((((q2.toUInt64 >>> ((56 : Int32) &&& 0x3f).toInt64.toUInt64).toInt64).toInt32).toInt8.toInt32)), (.int (7 : Int32)), (.ref b45)]))
    obtain ⟨T69, h69, L69, X69, N69, e69, W69, V69, st69⟩ := own_stB X66 N66 hx hZ e66 f67 g_b45 (j := (7 : Int32)) (x := ((((q2.toUInt64 >>> ((56 : Int32) &&& 0x3f).toInt64.toUInt64).toInt64).toInt32).toInt8.toInt32)) (i := 7) ⟨by decide, by decide⟩ rfl (Nat.le_of_ble_eq_true rfl) (pc := 89) (Ls := #[.val (.int p0), .val (.int p1), .val (.long q2), .second, .val (.int (1 : Int32)), .val (.ref b45)]) (rest := []) (hb hby at_89)
    refine own_via st69 ?_
    have f70 : Arv Z h69 b45 k45 .byte (8 : Int32) [(.int (((q2.toInt32).toInt8.toInt32).toInt8.toInt32)), (.int (((((q2.toUInt64 >>> ((8 : Int32) &&& 0x3f).toInt64.toUInt64).toInt64).toInt32).toInt8.toInt32).toInt8.toInt32)), (.int (((((q2.toUInt64 >>> ((16 : Int32) &&& 0x3f).toInt64.toUInt64).toInt64).toInt32).toInt8.toInt32).toInt8.toInt32)), (.int (((((q2.toUInt64 >>> ((24 : Int32) &&& 0x3f).toInt64.toUInt64).toInt64).toInt32).toInt8.toInt32).toInt8.toInt32)), (.int (((((q2.toUInt64 >>> ((32 : Int32) &&& 0x3f).toInt64.toUInt64).toInt64).toInt32).toInt8.toInt32).toInt8.toInt32)), (.int (((((q2.toUInt64 >>> ((40 : Int32) &&& 0x3f).toInt64.toUInt64).toInt64).toInt32).toInt8.toInt32).toInt8.toInt32)), (.int (((((q2.toUInt64 >>> ((48 : Int32) &&& 0x3f).toInt64.toUInt64).toInt64).toInt32).toInt8.toInt32).toInt8.toInt32)), (.int (((((q2.toUInt64 >>> ((56 : Int32) &&& 0x3f).toInt64.toUInt64).toInt64).toInt32).toInt8.toInt32).toInt8.toInt32))] (.int (0 : Int32)) := V69
    have Zs71 : n0 ≤ h69.size := by rw [W69.size]; exact Zs68
    show own_G p e below _ (T69.setTop (mkF m 90 #[.val (.int p0), .val (.int p1), .val (.long q2), .second, .val (.int (1 : Int32)), .val (.ref b45)] []))
    refine own_via (fun t k => XS.aload X69.here hx rfl (hb hby at_90) rfl rfl k) ?_
    show own_G p e below _ (T69.setTop (mkF m 92 #[.val (.int p0), .val (.int p1), .val (.long q2), .second, .val (.int (1 : Int32)), .val (.ref b45)] [(.ref b45)]))
    refine own_via (fun t k => XS.iload X69.here hx rfl (hb hby at_92) rfl k) ?_
    show own_G p e below _ (T69.setTop (mkF m 94 #[.val (.int p0), .val (.int p1), .val (.long q2), .second, .val (.int (1 : Int32)), .val (.ref b45)] [(.int (1 : Int32)), (.ref b45)]))
    refine own_via (fun t k => XS.iloadN X69.here hx rfl (hb hby at_94) rfl k) ?_
    show own_G p e below _ (T69.setTop (mkF m 95 #[.val (.int p0), .val (.int p1), .val (.long q2), .second, .val (.int (1 : Int32)), .val (.ref b45)] [(.int p0), (.int (1 : Int32)), (.ref b45)]))
    refine own_via (fun t k => XS.i2b X69.here hx rfl (hb hby at_95) rfl k) ?_
    show own_G p e below _ (T69.setTop (mkF m 96 #[.val (.int p0), .val (.int p1), .val (.long q2), .second, .val (.int (1 : Int32)), .val (.ref b45)] [(.int (p0.toInt8.toInt32)), (.int (1 : Int32)), (.ref b45)]))
    obtain ⟨T72, h72, L72, X72, N72, e72, W72, V72, st72⟩ := own_stB X69 N69 hx hZ e69 f70 g_b45 (j := (1 : Int32)) (x := (p0.toInt8.toInt32)) (i := 1) ⟨by decide, by decide⟩ rfl (Nat.le_of_ble_eq_true rfl) (pc := 96) (Ls := #[.val (.int p0), .val (.int p1), .val (.long q2), .second, .val (.int (1 : Int32)), .val (.ref b45)]) (rest := []) (hb hby at_96)
    refine own_via st72 ?_
    have f73 : Arv Z h72 b45 k45 .byte (8 : Int32) [(.int (((q2.toInt32).toInt8.toInt32).toInt8.toInt32)), (.int ((p0.toInt8.toInt32).toInt8.toInt32)), (.int (((((q2.toUInt64 >>> ((16 : Int32) &&& 0x3f).toInt64.toUInt64).toInt64).toInt32).toInt8.toInt32).toInt8.toInt32)), (.int (((((q2.toUInt64 >>> ((24 : Int32) &&& 0x3f).toInt64.toUInt64).toInt64).toInt32).toInt8.toInt32).toInt8.toInt32)), (.int (((((q2.toUInt64 >>> ((32 : Int32) &&& 0x3f).toInt64.toUInt64).toInt64).toInt32).toInt8.toInt32).toInt8.toInt32)), (.int (((((q2.toUInt64 >>> ((40 : Int32) &&& 0x3f).toInt64.toUInt64).toInt64).toInt32).toInt8.toInt32).toInt8.toInt32)), (.int (((((q2.toUInt64 >>> ((48 : Int32) &&& 0x3f).toInt64.toUInt64).toInt64).toInt32).toInt8.toInt32).toInt8.toInt32)), (.int (((((q2.toUInt64 >>> ((56 : Int32) &&& 0x3f).toInt64.toUInt64).toInt64).toInt32).toInt8.toInt32).toInt8.toInt32))] (.int (0 : Int32)) := V72
    have Zs74 : n0 ≤ h72.size := by rw [W72.size]; exact Zs71
    show own_G p e below _ (T72.setTop (mkF m 97 #[.val (.int p0), .val (.int p1), .val (.long q2), .second, .val (.int (1 : Int32)), .val (.ref b45)] []))
    refine own_via (fun t k => XS.aload X72.here hx rfl (hb hby at_97) rfl rfl k) ?_
    show own_G p e below _ (T72.setTop (mkF m 99 #[.val (.int p0), .val (.int p1), .val (.long q2), .second, .val (.int (1 : Int32)), .val (.ref b45)] [(.ref b45)]))
    refine own_via (fun t k => XS.iload X72.here hx rfl (hb hby at_99) rfl k) ?_
    show own_G p e below _ (T72.setTop (mkF m 101 #[.val (.int p0), .val (.int p1), .val (.long q2), .second, .val (.int (1 : Int32)), .val (.ref b45)] [(.int (1 : Int32)), (.ref b45)]))
    refine own_via (fun t k => XS.iconst X72.here hx rfl (hb hby at_101) k) ?_
    show own_G p e below _ (T72.setTop (mkF m 102 #[.val (.int p0), .val (.int p1), .val (.long q2), .second, .val (.int (1 : Int32)), .val (.ref b45)] [(.int (1 : Int32)), (.int (1 : Int32)), (.ref b45)]))
    refine own_via (fun t k => XS.iadd X72.here hx rfl (hb hby at_102) rfl k) ?_
    show own_G p e below _ (T72.setTop (mkF m 103 #[.val (.int p0), .val (.int p1), .val (.long q2), .second, .val (.int (1 : Int32)), .val (.ref b45)] [(.int (2 : Int32)), (.ref b45)]))
    refine own_via (fun t k => XS.iloadN X72.here hx rfl (hb hby at_103) rfl k) ?_
    show own_G p e below _ (T72.setTop (mkF m 104 #[.val (.int p0), .val (.int p1), .val (.long q2), .second, .val (.int (1 : Int32)), .val (.ref b45)] [(.int p0), (.int (2 : Int32)), (.ref b45)]))
    refine own_via (fun t k => XS.bipush X72.here hx rfl (hb hby at_104) k) ?_
    show own_G p e below _ (T72.setTop (mkF m 106 #[.val (.int p0), .val (.int p1), .val (.long q2), .second, .val (.int (1 : Int32)), .val (.ref b45)] [(.int (8 : Int32)), (.int p0), (.int (2 : Int32)), (.ref b45)]))
    refine own_via (fun t k => XS.iushr X72.here hx rfl (hb hby at_106) rfl k) ?_
    show own_G p e below _ (T72.setTop (mkF m 107 #[.val (.int p0), .val (.int p1), .val (.long q2), .second, .val (.int (1 : Int32)), .val (.ref b45)] [(.int ((p0.toUInt32 >>> ((8 : Int32) &&& 31).toUInt32).toInt32)), (.int (2 : Int32)), (.ref b45)]))
    refine own_via (fun t k => XS.i2b X72.here hx rfl (hb hby at_107) rfl k) ?_
    show own_G p e below _ (T72.setTop (mkF m 108 #[.val (.int p0), .val (.int p1), .val (.long q2), .second, .val (.int (1 : Int32)), .val (.ref b45)] [(.int (((p0.toUInt32 >>> ((8 : Int32) &&& 31).toUInt32).toInt32).toInt8.toInt32)), (.int (2 : Int32)), (.ref b45)]))
    obtain ⟨T75, h75, L75, X75, N75, e75, W75, V75, st75⟩ := own_stB X72 N72 hx hZ e72 f73 g_b45 (j := (2 : Int32)) (x := (((p0.toUInt32 >>> ((8 : Int32) &&& 31).toUInt32).toInt32).toInt8.toInt32)) (i := 2) ⟨by decide, by decide⟩ rfl (Nat.le_of_ble_eq_true rfl) (pc := 108) (Ls := #[.val (.int p0), .val (.int p1), .val (.long q2), .second, .val (.int (1 : Int32)), .val (.ref b45)]) (rest := []) (hb hby at_108)
    refine own_via st75 ?_
    have f76 : Arv Z h75 b45 k45 .byte (8 : Int32) [(.int (((q2.toInt32).toInt8.toInt32).toInt8.toInt32)), (.int ((p0.toInt8.toInt32).toInt8.toInt32)), (.int ((((p0.toUInt32 >>> ((8 : Int32) &&& 31).toUInt32).toInt32).toInt8.toInt32).toInt8.toInt32)), (.int (((((q2.toUInt64 >>> ((24 : Int32) &&& 0x3f).toInt64.toUInt64).toInt64).toInt32).toInt8.toInt32).toInt8.toInt32)), (.int (((((q2.toUInt64 >>> ((32 : Int32) &&& 0x3f).toInt64.toUInt64).toInt64).toInt32).toInt8.toInt32).toInt8.toInt32)), (.int (((((q2.toUInt64 >>> ((40 : Int32) &&& 0x3f).toInt64.toUInt64).toInt64).toInt32).toInt8.toInt32).toInt8.toInt32)), (.int (((((q2.toUInt64 >>> ((48 : Int32) &&& 0x3f).toInt64.toUInt64).toInt64).toInt32).toInt8.toInt32).toInt8.toInt32)), (.int (((((q2.toUInt64 >>> ((56 : Int32) &&& 0x3f).toInt64.toUInt64).toInt64).toInt32).toInt8.toInt32).toInt8.toInt32))] (.int (0 : Int32)) := V75
    have Zs77 : n0 ≤ h75.size := by rw [W75.size]; exact Zs74
    show own_G p e below _ (T75.setTop (mkF m 109 #[.val (.int p0), .val (.int p1), .val (.long q2), .second, .val (.int (1 : Int32)), .val (.ref b45)] []))
    refine own_via (fun t k => XS.aload X75.here hx rfl (hb hby at_109) rfl rfl k) ?_
    show own_G p e below _ (T75.setTop (mkF m 111 #[.val (.int p0), .val (.int p1), .val (.long q2), .second, .val (.int (1 : Int32)), .val (.ref b45)] [(.ref b45)]))
    refine own_via (fun t k => XS.iload X75.here hx rfl (hb hby at_111) rfl k) ?_
    show own_G p e below _ (T75.setTop (mkF m 113 #[.val (.int p0), .val (.int p1), .val (.long q2), .second, .val (.int (1 : Int32)), .val (.ref b45)] [(.int (1 : Int32)), (.ref b45)]))
    refine own_via (fun t k => XS.iconst X75.here hx rfl (hb hby at_113) k) ?_
    show own_G p e below _ (T75.setTop (mkF m 114 #[.val (.int p0), .val (.int p1), .val (.long q2), .second, .val (.int (1 : Int32)), .val (.ref b45)] [(.int (2 : Int32)), (.int (1 : Int32)), (.ref b45)]))
    refine own_via (fun t k => XS.iadd X75.here hx rfl (hb hby at_114) rfl k) ?_
    show own_G p e below _ (T75.setTop (mkF m 115 #[.val (.int p0), .val (.int p1), .val (.long q2), .second, .val (.int (1 : Int32)), .val (.ref b45)] [(.int (3 : Int32)), (.ref b45)]))
    refine own_via (fun t k => XS.iloadN X75.here hx rfl (hb hby at_115) rfl k) ?_
    show own_G p e below _ (T75.setTop (mkF m 116 #[.val (.int p0), .val (.int p1), .val (.long q2), .second, .val (.int (1 : Int32)), .val (.ref b45)] [(.int p0), (.int (3 : Int32)), (.ref b45)]))
    refine own_via (fun t k => XS.bipush X75.here hx rfl (hb hby at_116) k) ?_
    show own_G p e below _ (T75.setTop (mkF m 118 #[.val (.int p0), .val (.int p1), .val (.long q2), .second, .val (.int (1 : Int32)), .val (.ref b45)] [(.int (16 : Int32)), (.int p0), (.int (3 : Int32)), (.ref b45)]))
    refine own_via (fun t k => XS.iushr X75.here hx rfl (hb hby at_118) rfl k) ?_
    show own_G p e below _ (T75.setTop (mkF m 119 #[.val (.int p0), .val (.int p1), .val (.long q2), .second, .val (.int (1 : Int32)), .val (.ref b45)] [(.int ((p0.toUInt32 >>> ((16 : Int32) &&& 31).toUInt32).toInt32)), (.int (3 : Int32)), (.ref b45)]))
    refine own_via (fun t k => XS.i2b X75.here hx rfl (hb hby at_119) rfl k) ?_
    show own_G p e below _ (T75.setTop (mkF m 120 #[.val (.int p0), .val (.int p1), .val (.long q2), .second, .val (.int (1 : Int32)), .val (.ref b45)] [(.int (((p0.toUInt32 >>> ((16 : Int32) &&& 31).toUInt32).toInt32).toInt8.toInt32)), (.int (3 : Int32)), (.ref b45)]))
    obtain ⟨T78, h78, L78, X78, N78, e78, W78, V78, st78⟩ := own_stB X75 N75 hx hZ e75 f76 g_b45 (j := (3 : Int32)) (x := (((p0.toUInt32 >>> ((16 : Int32) &&& 31).toUInt32).toInt32).toInt8.toInt32)) (i := 3) ⟨by decide, by decide⟩ rfl (Nat.le_of_ble_eq_true rfl) (pc := 120) (Ls := #[.val (.int p0), .val (.int p1), .val (.long q2), .second, .val (.int (1 : Int32)), .val (.ref b45)]) (rest := []) (hb hby at_120)
    refine own_via st78 ?_
    have f79 : Arv Z h78 b45 k45 .byte (8 : Int32) [(.int (((q2.toInt32).toInt8.toInt32).toInt8.toInt32)), (.int ((p0.toInt8.toInt32).toInt8.toInt32)), (.int ((((p0.toUInt32 >>> ((8 : Int32) &&& 31).toUInt32).toInt32).toInt8.toInt32).toInt8.toInt32)), (.int ((((p0.toUInt32 >>> ((16 : Int32) &&& 31).toUInt32).toInt32).toInt8.toInt32).toInt8.toInt32)), (.int (((((q2.toUInt64 >>> ((32 : Int32) &&& 0x3f).toInt64.toUInt64).toInt64).toInt32).toInt8.toInt32).toInt8.toInt32)), (.int (((((q2.toUInt64 >>> ((40 : Int32) &&& 0x3f).toInt64.toUInt64).toInt64).toInt32).toInt8.toInt32).toInt8.toInt32)), (.int (((((q2.toUInt64 >>> ((48 : Int32) &&& 0x3f).toInt64.toUInt64).toInt64).toInt32).toInt8.toInt32).toInt8.toInt32)), (.int (((((q2.toUInt64 >>> ((56 : Int32) &&& 0x3f).toInt64.toUInt64).toInt64).toInt32).toInt8.toInt32).toInt8.toInt32))] (.int (0 : Int32)) := V78
    have Zs80 : n0 ≤ h78.size := by rw [W78.size]; exact Zs77
    show own_G p e below _ (T78.setTop (mkF m 121 #[.val (.int p0), .val (.int p1), .val (.long q2), .second, .val (.int (1 : Int32)), .val (.ref b45)] []))
    refine own_via (fun t k => XS.aload X78.here hx rfl (hb hby at_121) rfl rfl k) ?_
    show own_G p e below _ (T78.setTop (mkF m 123 #[.val (.int p0), .val (.int p1), .val (.long q2), .second, .val (.int (1 : Int32)), .val (.ref b45)] [(.ref b45)]))
    refine own_via (fun t k => XS.iload X78.here hx rfl (hb hby at_123) rfl k) ?_
    show own_G p e below _ (T78.setTop (mkF m 125 #[.val (.int p0), .val (.int p1), .val (.long q2), .second, .val (.int (1 : Int32)), .val (.ref b45)] [(.int (1 : Int32)), (.ref b45)]))
    refine own_via (fun t k => XS.iconst X78.here hx rfl (hb hby at_125) k) ?_
    show own_G p e below _ (T78.setTop (mkF m 126 #[.val (.int p0), .val (.int p1), .val (.long q2), .second, .val (.int (1 : Int32)), .val (.ref b45)] [(.int (3 : Int32)), (.int (1 : Int32)), (.ref b45)]))
    refine own_via (fun t k => XS.iadd X78.here hx rfl (hb hby at_126) rfl k) ?_
    show own_G p e below _ (T78.setTop (mkF m 127 #[.val (.int p0), .val (.int p1), .val (.long q2), .second, .val (.int (1 : Int32)), .val (.ref b45)] [(.int (4 : Int32)), (.ref b45)]))
    refine own_via (fun t k => XS.iloadN X78.here hx rfl (hb hby at_127) rfl k) ?_
    show own_G p e below _ (T78.setTop (mkF m 128 #[.val (.int p0), .val (.int p1), .val (.long q2), .second, .val (.int (1 : Int32)), .val (.ref b45)] [(.int p0), (.int (4 : Int32)), (.ref b45)]))
    refine own_via (fun t k => XS.bipush X78.here hx rfl (hb hby at_128) k) ?_
    show own_G p e below _ (T78.setTop (mkF m 130 #[.val (.int p0), .val (.int p1), .val (.long q2), .second, .val (.int (1 : Int32)), .val (.ref b45)] [(.int (24 : Int32)), (.int p0), (.int (4 : Int32)), (.ref b45)]))
    refine own_via (fun t k => XS.iushr X78.here hx rfl (hb hby at_130) rfl k) ?_
    show own_G p e below _ (T78.setTop (mkF m 131 #[.val (.int p0), .val (.int p1), .val (.long q2), .second, .val (.int (1 : Int32)), .val (.ref b45)] [(.int ((p0.toUInt32 >>> ((24 : Int32) &&& 31).toUInt32).toInt32)), (.int (4 : Int32)), (.ref b45)]))
    refine own_via (fun t k => XS.i2b X78.here hx rfl (hb hby at_131) rfl k) ?_
    show own_G p e below _ (T78.setTop (mkF m 132 #[.val (.int p0), .val (.int p1), .val (.long q2), .second, .val (.int (1 : Int32)), .val (.ref b45)] [(.int (((p0.toUInt32 >>> ((24 : Int32) &&& 31).toUInt32).toInt32).toInt8.toInt32)), (.int (4 : Int32)), (.ref b45)]))
    obtain ⟨T81, h81, L81, X81, N81, e81, W81, V81, st81⟩ := own_stB X78 N78 hx hZ e78 f79 g_b45 (j := (4 : Int32)) (x := (((p0.toUInt32 >>> ((24 : Int32) &&& 31).toUInt32).toInt32).toInt8.toInt32)) (i := 4) ⟨by decide, by decide⟩ rfl (Nat.le_of_ble_eq_true rfl) (pc := 132) (Ls := #[.val (.int p0), .val (.int p1), .val (.long q2), .second, .val (.int (1 : Int32)), .val (.ref b45)]) (rest := []) (hb hby at_132)
    refine own_via st81 ?_
    have f82 : Arv Z h81 b45 k45 .byte (8 : Int32) [(.int (((q2.toInt32).toInt8.toInt32).toInt8.toInt32)), (.int ((p0.toInt8.toInt32).toInt8.toInt32)), (.int ((((p0.toUInt32 >>> ((8 : Int32) &&& 31).toUInt32).toInt32).toInt8.toInt32).toInt8.toInt32)), (.int ((((p0.toUInt32 >>> ((16 : Int32) &&& 31).toUInt32).toInt32).toInt8.toInt32).toInt8.toInt32)), (.int ((((p0.toUInt32 >>> ((24 : Int32) &&& 31).toUInt32).toInt32).toInt8.toInt32).toInt8.toInt32)), (.int (((((q2.toUInt64 >>> ((40 : Int32) &&& 0x3f).toInt64.toUInt64).toInt64).toInt32).toInt8.toInt32).toInt8.toInt32)), (.int (((((q2.toUInt64 >>> ((48 : Int32) &&& 0x3f).toInt64.toUInt64).toInt64).toInt32).toInt8.toInt32).toInt8.toInt32)), (.int (((((q2.toUInt64 >>> ((56 : Int32) &&& 0x3f).toInt64.toUInt64).toInt64).toInt32).toInt8.toInt32).toInt8.toInt32))] (.int (0 : Int32)) := V81
    have Zs83 : n0 ≤ h81.size := by rw [W81.size]; exact Zs80
    show own_G p e below _ (T81.setTop (mkF m 133 #[.val (.int p0), .val (.int p1), .val (.long q2), .second, .val (.int (1 : Int32)), .val (.ref b45)] []))
    refine own_via (fun t k => XS.aload X81.here hx rfl (hb hby at_133) rfl rfl k) ?_
    show own_G p e below _ (T81.setTop (mkF m 135 #[.val (.int p0), .val (.int p1), .val (.long q2), .second, .val (.int (1 : Int32)), .val (.ref b45)] [(.ref b45)]))
    refine own_via (fun t k => XS.iload X81.here hx rfl (hb hby at_135) rfl k) ?_
    show own_G p e below _ (T81.setTop (mkF m 137 #[.val (.int p0), .val (.int p1), .val (.long q2), .second, .val (.int (1 : Int32)), .val (.ref b45)] [(.int (1 : Int32)), (.ref b45)]))
    obtain ⟨T84, X84, e84, st84⟩ := own_callP (y := (⟨"com/example/bowerbird/bowerbird/BsonTree", "int32", "([BI)I"⟩ : MethodName)) (W := 0) X81 hx hZ hown (hw _ (List.mem_of_getElem? (i := 1) rfl)) (hw _ (List.mem_of_getElem? (i := 2) rfl)) (hw _ (List.mem_of_getElem? (i := 3) rfl)) (hw _ (List.mem_of_getElem? (i := 4) rfl)) (by decide) (own_int32_1 l Z a0 hw [] b45 k45 (((q2.toInt32).toInt8.toInt32).toInt8.toInt32) ((p0.toInt8.toInt32).toInt8.toInt32) ((((p0.toUInt32 >>> ((8 : Int32) &&& 31).toUInt32).toInt32).toInt8.toInt32).toInt8.toInt32) ((((p0.toUInt32 >>> ((16 : Int32) &&& 31).toUInt32).toInt32).toInt8.toInt32).toInt8.toInt32) ((((p0.toUInt32 >>> ((24 : Int32) &&& 31).toUInt32).toInt32).toInt8.toInt32).toInt8.toInt32) (((((q2.toUInt64 >>> ((40 : Int32) &&& 0x3f).toInt64.toUInt64).toInt64).toInt32).toInt8.toInt32).toInt8.toInt32) (((((q2.toUInt64 >>> ((48 : Int32) &&& 0x3f).toInt64.toUInt64).toInt64).toInt32).toInt8.toInt32).toInt8.toInt32) (((((q2.toUInt64 >>> ((56 : Int32) &&& 0x3f).toInt64.toUInt64).toInt64).toInt32).toInt8.toInt32).toInt8.toInt32) h81 f82) (by decide) (by decide) rfl rfl (by decide) (by decide) e81 (pc := 137) (Ls := #[.val (.int p0), .val (.int p1), .val (.long q2), .second, .val (.int (1 : Int32)), .val (.ref b45)]) (st := [(.int (1 : Int32)), (.ref b45)]) (argsL := [(.ref b45), (.int (1 : Int32))]) (rest := []) (by rw [hml]; rfl) (lenOf own_pd0 rfl) rfl rfl (Nat.le_of_eq rfl) (hb hby at_137)
    refine own_via st84 ?_
    show own_G p e below _ (T84.setTop (mkF m 140 #[.val (.int p0), .val (.int p1), .val (.long q2), .second, .val (.int (1 : Int32)), .val (.ref b45)] [(.int (own_le ((p0.toInt8.toInt32).toInt8.toInt32) ((((p0.toUInt32 >>> ((8 : Int32) &&& 31).toUInt32).toInt32).toInt8.toInt32).toInt8.toInt32) ((((p0.toUInt32 >>> ((16 : Int32) &&& 31).toUInt32).toInt32).toInt8.toInt32).toInt8.toInt32) ((((p0.toUInt32 >>> ((24 : Int32) &&& 31).toUInt32).toInt32).toInt8.toInt32).toInt8.toInt32)))]))
    refine own_via (fun t k => XS.iloadN X84.here hx rfl (hb hby at_140) rfl k) ?_
    show own_G p e below _ (T84.setTop (mkF m 141 #[.val (.int p0), .val (.int p1), .val (.long q2), .second, .val (.int (1 : Int32)), .val (.ref b45)] [(.int p0), (.int (own_le ((p0.toInt8.toInt32).toInt8.toInt32) ((((p0.toUInt32 >>> ((8 : Int32) &&& 31).toUInt32).toInt32).toInt8.toInt32).toInt8.toInt32) ((((p0.toUInt32 >>> ((16 : Int32) &&& 31).toUInt32).toInt32).toInt8.toInt32).toInt8.toInt32) ((((p0.toUInt32 >>> ((24 : Int32) &&& 31).toUInt32).toInt32).toInt8.toInt32).toInt8.toInt32)))]))
    refine own_via (fun t k => XS.icmpNo X84.here hx rfl (hb hby at_141) rfl (teq (own_back p0)).2 k) ?_
    show own_G p e below _ (T84.setTop (mkF m 144 #[.val (.int p0), .val (.int p1), .val (.long q2), .second, .val (.int (1 : Int32)), .val (.ref b45)] []))
    refine own_via (fun t k => XS.iconst X84.here hx rfl (hb hby at_144) k) ?_
    show own_G p e below _ (T84.setTop (mkF m 145 #[.val (.int p0), .val (.int p1), .val (.long q2), .second, .val (.int (1 : Int32)), .val (.ref b45)] [(.int (1 : Int32))]))
    refine own_via (fun t k => XS.goto X84.here hx rfl (pc0 := 145) (pc' := 149) rfl (hb hby at_145) (by decide) (by decide) k) ?_
    show own_G p e below _ (T84.setTop (mkF m 149 #[.val (.int p0), .val (.int p1), .val (.long q2), .second, .val (.int (1 : Int32)), .val (.ref b45)] [(.int (1 : Int32))]))
    exact own_retN (t := .boolean) X84 hx Bd.returns (by simp) Bd.notSynchronized (hb hby at_149) ⟨N81, rfl⟩ (by decide) (by decide)
  ·
    rw [hs3]
    show own_G p e below _ (s₁.setTop (mkF m 3 #[.val (.int p0), .val (.int p1), .val (.long q2), .second, .unset, .unset] [(.int (2 : Int32))]))
    refine own_via (fun t k => XS.istore X0.here hx rfl (hb hby at_3) rfl (l' := #[.val (.int p0), .val (.int p1), .val (.long q2), .second, .val (.int (2 : Int32)), .unset]) rfl k) ?_
    show own_G p e below _ (s₁.setTop (mkF m 5 #[.val (.int p0), .val (.int p1), .val (.long q2), .second, .val (.int (2 : Int32)), .unset] []))
    refine own_via (fun t k => XS.bipush X0.here hx rfl (hb hby at_5) k) ?_
    show own_G p e below _ (s₁.setTop (mkF m 7 #[.val (.int p0), .val (.int p1), .val (.long q2), .second, .val (.int (2 : Int32)), .unset] [(.int (8 : Int32))]))
    obtain ⟨T85, h85, k85, b85, X85, e85, E85, ga85, V85, Ex85, st85⟩ := own_newA X0 hx hZ (hw _ (List.mem_of_getElem? (i := 0) rfl)) e0 (pc := 7) (Ls := #[.val (.int p0), .val (.int p1), .val (.long q2), .second, .val (.int (2 : Int32)), .unset]) (rest := []) (hb hby at_7) (n := (8 : Int32)) (by decide) (cap := 8) (by decide) (by decide) (by decide) (by decide) 8 rfl
    refine own_via st85 ?_
    have f86 : Arv Z h85 b85 k85 .byte (8 : Int32) [(.int (0 : Int32)), (.int (0 : Int32)), (.int (0 : Int32)), (.int (0 : Int32)), (.int (0 : Int32)), (.int (0 : Int32)), (.int (0 : Int32)), (.int (0 : Int32))] (.int (0 : Int32)) := V85
    have g_b85 : n0 ≤ b85 := Nat.le_trans Z0 (Nat.le_of_eq ga85.symm)
    have Zs87 : n0 ≤ h85.size := Nat.le_trans Z0 E85.1
    show own_G p e below _ (T85.setTop (mkF m 9 #[.val (.int p0), .val (.int p1), .val (.long q2), .second, .val (.int (2 : Int32)), .unset] [(.ref b85)]))
    refine own_via (fun t k => XS.astore X85.here hx rfl (hb hby at_9) rfl rfl (l' := #[.val (.int p0), .val (.int p1), .val (.long q2), .second, .val (.int (2 : Int32)), .val (.ref b85)]) rfl k) ?_
    show own_G p e below _ (T85.setTop (mkF m 11 #[.val (.int p0), .val (.int p1), .val (.long q2), .second, .val (.int (2 : Int32)), .val (.ref b85)] []))
    refine own_via (fun t k => XS.aload X85.here hx rfl (hb hby at_11) rfl rfl k) ?_
    show own_G p e below _ (T85.setTop (mkF m 13 #[.val (.int p0), .val (.int p1), .val (.long q2), .second, .val (.int (2 : Int32)), .val (.ref b85)] [(.ref b85)]))
    refine own_via (fun t k => XS.iconst X85.here hx rfl (hb hby at_13) k) ?_
    show own_G p e below _ (T85.setTop (mkF m 14 #[.val (.int p0), .val (.int p1), .val (.long q2), .second, .val (.int (2 : Int32)), .val (.ref b85)] [(.int (0 : Int32)), (.ref b85)]))
    refine own_via (fun t k => XS.lloadN X85.here hx rfl (hb hby at_14) rfl k) ?_
    show own_G p e below _ (T85.setTop (mkF m 15 #[.val (.int p0), .val (.int p1), .val (.long q2), .second, .val (.int (2 : Int32)), .val (.ref b85)] [(.long q2), (.int (0 : Int32)), (.ref b85)]))
    refine own_via (fun t k => XS.l2i X85.here hx rfl (hb hby at_15) rfl k) ?_
    show own_G p e below _ (T85.setTop (mkF m 16 #[.val (.int p0), .val (.int p1), .val (.long q2), .second, .val (.int (2 : Int32)), .val (.ref b85)] [(.int (q2.toInt32)), (.int (0 : Int32)), (.ref b85)]))
    refine own_via (fun t k => XS.i2b X85.here hx rfl (hb hby at_16) rfl k) ?_
    show own_G p e below _ (T85.setTop (mkF m 17 #[.val (.int p0), .val (.int p1), .val (.long q2), .second, .val (.int (2 : Int32)), .val (.ref b85)] [(.int ((q2.toInt32).toInt8.toInt32)), (.int (0 : Int32)), (.ref b85)]))
    obtain ⟨T88, h88, L88, X88, N88, e88, W88, V88, st88⟩ := own_stB X85 N0 hx hZ e85 f86 g_b85 (j := (0 : Int32)) (x := ((q2.toInt32).toInt8.toInt32)) (i := 0) ⟨by decide, by decide⟩ rfl (Nat.le_of_ble_eq_true rfl) (pc := 17) (Ls := #[.val (.int p0), .val (.int p1), .val (.long q2), .second, .val (.int (2 : Int32)), .val (.ref b85)]) (rest := []) (hb hby at_17)
    refine own_via st88 ?_
    have f89 : Arv Z h88 b85 k85 .byte (8 : Int32) [(.int (((q2.toInt32).toInt8.toInt32).toInt8.toInt32)), (.int (0 : Int32)), (.int (0 : Int32)), (.int (0 : Int32)), (.int (0 : Int32)), (.int (0 : Int32)), (.int (0 : Int32)), (.int (0 : Int32))] (.int (0 : Int32)) := V88
    have Zs90 : n0 ≤ h88.size := by rw [W88.size]; exact Zs87
    show own_G p e below _ (T88.setTop (mkF m 18 #[.val (.int p0), .val (.int p1), .val (.long q2), .second, .val (.int (2 : Int32)), .val (.ref b85)] []))
    refine own_via (fun t k => XS.aload X88.here hx rfl (hb hby at_18) rfl rfl k) ?_
    show own_G p e below _ (T88.setTop (mkF m 20 #[.val (.int p0), .val (.int p1), .val (.long q2), .second, .val (.int (2 : Int32)), .val (.ref b85)] [(.ref b85)]))
    refine own_via (fun t k => XS.iconst X88.here hx rfl (hb hby at_20) k) ?_
    show own_G p e below _ (T88.setTop (mkF m 21 #[.val (.int p0), .val (.int p1), .val (.long q2), .second, .val (.int (2 : Int32)), .val (.ref b85)] [(.int (1 : Int32)), (.ref b85)]))
    refine own_via (fun t k => XS.lloadN X88.here hx rfl (hb hby at_21) rfl k) ?_
    show own_G p e below _ (T88.setTop (mkF m 22 #[.val (.int p0), .val (.int p1), .val (.long q2), .second, .val (.int (2 : Int32)), .val (.ref b85)] [(.long q2), (.int (1 : Int32)), (.ref b85)]))
    refine own_via (fun t k => XS.bipush X88.here hx rfl (hb hby at_22) k) ?_
    show own_G p e below _ (T88.setTop (mkF m 24 #[.val (.int p0), .val (.int p1), .val (.long q2), .second, .val (.int (2 : Int32)), .val (.ref b85)] [(.int (8 : Int32)), (.long q2), (.int (1 : Int32)), (.ref b85)]))
    refine own_via (fun t k => XS.lushr X88.here hx rfl (hb hby at_24) rfl k) ?_
    show own_G p e below _ (T88.setTop (mkF m 25 #[.val (.int p0), .val (.int p1), .val (.long q2), .second, .val (.int (2 : Int32)), .val (.ref b85)] [(.long ((q2.toUInt64 >>> ((8 : Int32) &&& 0x3f).toInt64.toUInt64).toInt64)), (.int (1 : Int32)), (.ref b85)]))
    refine own_via (fun t k => XS.l2i X88.here hx rfl (hb hby at_25) rfl k) ?_
    show own_G p e below _ (T88.setTop (mkF m 26 #[.val (.int p0), .val (.int p1), .val (.long q2), .second, .val (.int (2 : Int32)), .val (.ref b85)] [(.int (((q2.toUInt64 >>> ((8 : Int32) &&& 0x3f).toInt64.toUInt64).toInt64).toInt32)), (.int (1 : Int32)), (.ref b85)]))
    refine own_via (fun t k => XS.i2b X88.here hx rfl (hb hby at_26) rfl k) ?_
    show own_G p e below _ (T88.setTop (mkF m 27 #[.val (.int p0), .val (.int p1), .val (.long q2), .second, .val (.int (2 : Int32)), .val (.ref b85)] [(.int ((((q2.toUInt64 >>> ((8 : Int32) &&& 0x3f).toInt64.toUInt64).toInt64).toInt32).toInt8.toInt32)), (.int (1 : Int32)), (.ref b85)]))
    obtain ⟨T91, h91, L91, X91, N91, e91, W91, V91, st91⟩ := own_stB X88 N88 hx hZ e88 f89 g_b85 (j := (1 : Int32)) (x := ((((q2.toUInt64 >>> ((8 : Int32) &&& 0x3f).toInt64.toUInt64).toInt64).toInt32).toInt8.toInt32)) (i := 1) ⟨by decide, by decide⟩ rfl (Nat.le_of_ble_eq_true rfl) (pc := 27) (Ls := #[.val (.int p0), .val (.int p1), .val (.long q2), .second, .val (.int (2 : Int32)), .val (.ref b85)]) (rest := []) (hb hby at_27)
    refine own_via st91 ?_
    have f92 : Arv Z h91 b85 k85 .byte (8 : Int32) [(.int (((q2.toInt32).toInt8.toInt32).toInt8.toInt32)), (.int (((((q2.toUInt64 >>> ((8 : Int32) &&& 0x3f).toInt64.toUInt64).toInt64).toInt32).toInt8.toInt32).toInt8.toInt32)), (.int (0 : Int32)), (.int (0 : Int32)), (.int (0 : Int32)), (.int (0 : Int32)), (.int (0 : Int32)), (.int (0 : Int32))] (.int (0 : Int32)) := V91
    have Zs93 : n0 ≤ h91.size := by rw [W91.size]; exact Zs90
    show own_G p e below _ (T91.setTop (mkF m 28 #[.val (.int p0), .val (.int p1), .val (.long q2), .second, .val (.int (2 : Int32)), .val (.ref b85)] []))
    refine own_via (fun t k => XS.aload X91.here hx rfl (hb hby at_28) rfl rfl k) ?_
    show own_G p e below _ (T91.setTop (mkF m 30 #[.val (.int p0), .val (.int p1), .val (.long q2), .second, .val (.int (2 : Int32)), .val (.ref b85)] [(.ref b85)]))
    refine own_via (fun t k => XS.iconst X91.here hx rfl (hb hby at_30) k) ?_
    show own_G p e below _ (T91.setTop (mkF m 31 #[.val (.int p0), .val (.int p1), .val (.long q2), .second, .val (.int (2 : Int32)), .val (.ref b85)] [(.int (2 : Int32)), (.ref b85)]))
    refine own_via (fun t k => XS.lloadN X91.here hx rfl (hb hby at_31) rfl k) ?_
    show own_G p e below _ (T91.setTop (mkF m 32 #[.val (.int p0), .val (.int p1), .val (.long q2), .second, .val (.int (2 : Int32)), .val (.ref b85)] [(.long q2), (.int (2 : Int32)), (.ref b85)]))
    refine own_via (fun t k => XS.bipush X91.here hx rfl (hb hby at_32) k) ?_
    show own_G p e below _ (T91.setTop (mkF m 34 #[.val (.int p0), .val (.int p1), .val (.long q2), .second, .val (.int (2 : Int32)), .val (.ref b85)] [(.int (16 : Int32)), (.long q2), (.int (2 : Int32)), (.ref b85)]))
    refine own_via (fun t k => XS.lushr X91.here hx rfl (hb hby at_34) rfl k) ?_
    show own_G p e below _ (T91.setTop (mkF m 35 #[.val (.int p0), .val (.int p1), .val (.long q2), .second, .val (.int (2 : Int32)), .val (.ref b85)] [(.long ((q2.toUInt64 >>> ((16 : Int32) &&& 0x3f).toInt64.toUInt64).toInt64)), (.int (2 : Int32)), (.ref b85)]))
    refine own_via (fun t k => XS.l2i X91.here hx rfl (hb hby at_35) rfl k) ?_
    show own_G p e below _ (T91.setTop (mkF m 36 #[.val (.int p0), .val (.int p1), .val (.long q2), .second, .val (.int (2 : Int32)), .val (.ref b85)] [(.int (((q2.toUInt64 >>> ((16 : Int32) &&& 0x3f).toInt64.toUInt64).toInt64).toInt32)), (.int (2 : Int32)), (.ref b85)]))
    refine own_via (fun t k => XS.i2b X91.here hx rfl (hb hby at_36) rfl k) ?_
    show own_G p e below _ (T91.setTop (mkF m 37 #[.val (.int p0), .val (.int p1), .val (.long q2), .second, .val (.int (2 : Int32)), .val (.ref b85)] [(.int ((((q2.toUInt64 >>> ((16 : Int32) &&& 0x3f).toInt64.toUInt64).toInt64).toInt32).toInt8.toInt32)), (.int (2 : Int32)), (.ref b85)]))
    obtain ⟨T94, h94, L94, X94, N94, e94, W94, V94, st94⟩ := own_stB X91 N91 hx hZ e91 f92 g_b85 (j := (2 : Int32)) (x := ((((q2.toUInt64 >>> ((16 : Int32) &&& 0x3f).toInt64.toUInt64).toInt64).toInt32).toInt8.toInt32)) (i := 2) ⟨by decide, by decide⟩ rfl (Nat.le_of_ble_eq_true rfl) (pc := 37) (Ls := #[.val (.int p0), .val (.int p1), .val (.long q2), .second, .val (.int (2 : Int32)), .val (.ref b85)]) (rest := []) (hb hby at_37)
    refine own_via st94 ?_
    have f95 : Arv Z h94 b85 k85 .byte (8 : Int32) [(.int (((q2.toInt32).toInt8.toInt32).toInt8.toInt32)), (.int (((((q2.toUInt64 >>> ((8 : Int32) &&& 0x3f).toInt64.toUInt64).toInt64).toInt32).toInt8.toInt32).toInt8.toInt32)), (.int (((((q2.toUInt64 >>> ((16 : Int32) &&& 0x3f).toInt64.toUInt64).toInt64).toInt32).toInt8.toInt32).toInt8.toInt32)), (.int (0 : Int32)), (.int (0 : Int32)), (.int (0 : Int32)), (.int (0 : Int32)), (.int (0 : Int32))] (.int (0 : Int32)) := V94
    have Zs96 : n0 ≤ h94.size := by rw [W94.size]; exact Zs93
    show own_G p e below _ (T94.setTop (mkF m 38 #[.val (.int p0), .val (.int p1), .val (.long q2), .second, .val (.int (2 : Int32)), .val (.ref b85)] []))
    refine own_via (fun t k => XS.aload X94.here hx rfl (hb hby at_38) rfl rfl k) ?_
    show own_G p e below _ (T94.setTop (mkF m 40 #[.val (.int p0), .val (.int p1), .val (.long q2), .second, .val (.int (2 : Int32)), .val (.ref b85)] [(.ref b85)]))
    refine own_via (fun t k => XS.iconst X94.here hx rfl (hb hby at_40) k) ?_
    show own_G p e below _ (T94.setTop (mkF m 41 #[.val (.int p0), .val (.int p1), .val (.long q2), .second, .val (.int (2 : Int32)), .val (.ref b85)] [(.int (3 : Int32)), (.ref b85)]))
    refine own_via (fun t k => XS.lloadN X94.here hx rfl (hb hby at_41) rfl k) ?_
    show own_G p e below _ (T94.setTop (mkF m 42 #[.val (.int p0), .val (.int p1), .val (.long q2), .second, .val (.int (2 : Int32)), .val (.ref b85)] [(.long q2), (.int (3 : Int32)), (.ref b85)]))
    refine own_via (fun t k => XS.bipush X94.here hx rfl (hb hby at_42) k) ?_
    show own_G p e below _ (T94.setTop (mkF m 44 #[.val (.int p0), .val (.int p1), .val (.long q2), .second, .val (.int (2 : Int32)), .val (.ref b85)] [(.int (24 : Int32)), (.long q2), (.int (3 : Int32)), (.ref b85)]))
    refine own_via (fun t k => XS.lushr X94.here hx rfl (hb hby at_44) rfl k) ?_
    show own_G p e below _ (T94.setTop (mkF m 45 #[.val (.int p0), .val (.int p1), .val (.long q2), .second, .val (.int (2 : Int32)), .val (.ref b85)] [(.long ((q2.toUInt64 >>> ((24 : Int32) &&& 0x3f).toInt64.toUInt64).toInt64)), (.int (3 : Int32)), (.ref b85)]))
    refine own_via (fun t k => XS.l2i X94.here hx rfl (hb hby at_45) rfl k) ?_
    show own_G p e below _ (T94.setTop (mkF m 46 #[.val (.int p0), .val (.int p1), .val (.long q2), .second, .val (.int (2 : Int32)), .val (.ref b85)] [(.int (((q2.toUInt64 >>> ((24 : Int32) &&& 0x3f).toInt64.toUInt64).toInt64).toInt32)), (.int (3 : Int32)), (.ref b85)]))
    refine own_via (fun t k => XS.i2b X94.here hx rfl (hb hby at_46) rfl k) ?_
    show own_G p e below _ (T94.setTop (mkF m 47 #[.val (.int p0), .val (.int p1), .val (.long q2), .second, .val (.int (2 : Int32)), .val (.ref b85)] [(.int ((((q2.toUInt64 >>> ((24 : Int32) &&& 0x3f).toInt64.toUInt64).toInt64).toInt32).toInt8.toInt32)), (.int (3 : Int32)), (.ref b85)]))
    obtain ⟨T97, h97, L97, X97, N97, e97, W97, V97, st97⟩ := own_stB X94 N94 hx hZ e94 f95 g_b85 (j := (3 : Int32)) (x := ((((q2.toUInt64 >>> ((24 : Int32) &&& 0x3f).toInt64.toUInt64).toInt64).toInt32).toInt8.toInt32)) (i := 3) ⟨by decide, by decide⟩ rfl (Nat.le_of_ble_eq_true rfl) (pc := 47) (Ls := #[.val (.int p0), .val (.int p1), .val (.long q2), .second, .val (.int (2 : Int32)), .val (.ref b85)]) (rest := []) (hb hby at_47)
    refine own_via st97 ?_
    have f98 : Arv Z h97 b85 k85 .byte (8 : Int32) [(.int (((q2.toInt32).toInt8.toInt32).toInt8.toInt32)), (.int (((((q2.toUInt64 >>> ((8 : Int32) &&& 0x3f).toInt64.toUInt64).toInt64).toInt32).toInt8.toInt32).toInt8.toInt32)), (.int (((((q2.toUInt64 >>> ((16 : Int32) &&& 0x3f).toInt64.toUInt64).toInt64).toInt32).toInt8.toInt32).toInt8.toInt32)), (.int (((((q2.toUInt64 >>> ((24 : Int32) &&& 0x3f).toInt64.toUInt64).toInt64).toInt32).toInt8.toInt32).toInt8.toInt32)), (.int (0 : Int32)), (.int (0 : Int32)), (.int (0 : Int32)), (.int (0 : Int32))] (.int (0 : Int32)) := V97
    have Zs99 : n0 ≤ h97.size := by rw [W97.size]; exact Zs96
    show own_G p e below _ (T97.setTop (mkF m 48 #[.val (.int p0), .val (.int p1), .val (.long q2), .second, .val (.int (2 : Int32)), .val (.ref b85)] []))
    refine own_via (fun t k => XS.aload X97.here hx rfl (hb hby at_48) rfl rfl k) ?_
    show own_G p e below _ (T97.setTop (mkF m 50 #[.val (.int p0), .val (.int p1), .val (.long q2), .second, .val (.int (2 : Int32)), .val (.ref b85)] [(.ref b85)]))
    refine own_via (fun t k => XS.iconst X97.here hx rfl (hb hby at_50) k) ?_
    show own_G p e below _ (T97.setTop (mkF m 51 #[.val (.int p0), .val (.int p1), .val (.long q2), .second, .val (.int (2 : Int32)), .val (.ref b85)] [(.int (4 : Int32)), (.ref b85)]))
    refine own_via (fun t k => XS.lloadN X97.here hx rfl (hb hby at_51) rfl k) ?_
    show own_G p e below _ (T97.setTop (mkF m 52 #[.val (.int p0), .val (.int p1), .val (.long q2), .second, .val (.int (2 : Int32)), .val (.ref b85)] [(.long q2), (.int (4 : Int32)), (.ref b85)]))
    refine own_via (fun t k => XS.bipush X97.here hx rfl (hb hby at_52) k) ?_
    show own_G p e below _ (T97.setTop (mkF m 54 #[.val (.int p0), .val (.int p1), .val (.long q2), .second, .val (.int (2 : Int32)), .val (.ref b85)] [(.int (32 : Int32)), (.long q2), (.int (4 : Int32)), (.ref b85)]))
    refine own_via (fun t k => XS.lushr X97.here hx rfl (hb hby at_54) rfl k) ?_
    show own_G p e below _ (T97.setTop (mkF m 55 #[.val (.int p0), .val (.int p1), .val (.long q2), .second, .val (.int (2 : Int32)), .val (.ref b85)] [(.long ((q2.toUInt64 >>> ((32 : Int32) &&& 0x3f).toInt64.toUInt64).toInt64)), (.int (4 : Int32)), (.ref b85)]))
    refine own_via (fun t k => XS.l2i X97.here hx rfl (hb hby at_55) rfl k) ?_
    show own_G p e below _ (T97.setTop (mkF m 56 #[.val (.int p0), .val (.int p1), .val (.long q2), .second, .val (.int (2 : Int32)), .val (.ref b85)] [(.int (((q2.toUInt64 >>> ((32 : Int32) &&& 0x3f).toInt64.toUInt64).toInt64).toInt32)), (.int (4 : Int32)), (.ref b85)]))
    refine own_via (fun t k => XS.i2b X97.here hx rfl (hb hby at_56) rfl k) ?_
    show own_G p e below _ (T97.setTop (mkF m 57 #[.val (.int p0), .val (.int p1), .val (.long q2), .second, .val (.int (2 : Int32)), .val (.ref b85)] [(.int ((((q2.toUInt64 >>> ((32 : Int32) &&& 0x3f).toInt64.toUInt64).toInt64).toInt32).toInt8.toInt32)), (.int (4 : Int32)), (.ref b85)]))
    obtain ⟨T100, h100, L100, X100, N100, e100, W100, V100, st100⟩ := own_stB X97 N97 hx hZ e97 f98 g_b85 (j := (4 : Int32)) (x := ((((q2.toUInt64 >>> ((32 : Int32) &&& 0x3f).toInt64.toUInt64).toInt64).toInt32).toInt8.toInt32)) (i := 4) ⟨by decide, by decide⟩ rfl (Nat.le_of_ble_eq_true rfl) (pc := 57) (Ls := #[.val (.int p0), .val (.int p1), .val (.long q2), .second, .val (.int (2 : Int32)), .val (.ref b85)]) (rest := []) (hb hby at_57)
    refine own_via st100 ?_
    have f101 : Arv Z h100 b85 k85 .byte (8 : Int32) [(.int (((q2.toInt32).toInt8.toInt32).toInt8.toInt32)), (.int (((((q2.toUInt64 >>> ((8 : Int32) &&& 0x3f).toInt64.toUInt64).toInt64).toInt32).toInt8.toInt32).toInt8.toInt32)), (.int (((((q2.toUInt64 >>> ((16 : Int32) &&& 0x3f).toInt64.toUInt64).toInt64).toInt32).toInt8.toInt32).toInt8.toInt32)), (.int (((((q2.toUInt64 >>> ((24 : Int32) &&& 0x3f).toInt64.toUInt64).toInt64).toInt32).toInt8.toInt32).toInt8.toInt32)), (.int (((((q2.toUInt64 >>> ((32 : Int32) &&& 0x3f).toInt64.toUInt64).toInt64).toInt32).toInt8.toInt32).toInt8.toInt32)), (.int (0 : Int32)), (.int (0 : Int32)), (.int (0 : Int32))] (.int (0 : Int32)) := V100
    have Zs102 : n0 ≤ h100.size := by rw [W100.size]; exact Zs99
    show own_G p e below _ (T100.setTop (mkF m 58 #[.val (.int p0), .val (.int p1), .val (.long q2), .second, .val (.int (2 : Int32)), .val (.ref b85)] []))
    refine own_via (fun t k => XS.aload X100.here hx rfl (hb hby at_58) rfl rfl k) ?_
    show own_G p e below _ (T100.setTop (mkF m 60 #[.val (.int p0), .val (.int p1), .val (.long q2), .second, .val (.int (2 : Int32)), .val (.ref b85)] [(.ref b85)]))
    refine own_via (fun t k => XS.iconst X100.here hx rfl (hb hby at_60) k) ?_
    show own_G p e below _ (T100.setTop (mkF m 61 #[.val (.int p0), .val (.int p1), .val (.long q2), .second, .val (.int (2 : Int32)), .val (.ref b85)] [(.int (5 : Int32)), (.ref b85)]))
    refine own_via (fun t k => XS.lloadN X100.here hx rfl (hb hby at_61) rfl k) ?_
    show own_G p e below _ (T100.setTop (mkF m 62 #[.val (.int p0), .val (.int p1), .val (.long q2), .second, .val (.int (2 : Int32)), .val (.ref b85)] [(.long q2), (.int (5 : Int32)), (.ref b85)]))
    refine own_via (fun t k => XS.bipush X100.here hx rfl (hb hby at_62) k) ?_
    show own_G p e below _ (T100.setTop (mkF m 64 #[.val (.int p0), .val (.int p1), .val (.long q2), .second, .val (.int (2 : Int32)), .val (.ref b85)] [(.int (40 : Int32)), (.long q2), (.int (5 : Int32)), (.ref b85)]))
    refine own_via (fun t k => XS.lushr X100.here hx rfl (hb hby at_64) rfl k) ?_
    show own_G p e below _ (T100.setTop (mkF m 65 #[.val (.int p0), .val (.int p1), .val (.long q2), .second, .val (.int (2 : Int32)), .val (.ref b85)] [(.long ((q2.toUInt64 >>> ((40 : Int32) &&& 0x3f).toInt64.toUInt64).toInt64)), (.int (5 : Int32)), (.ref b85)]))
    refine own_via (fun t k => XS.l2i X100.here hx rfl (hb hby at_65) rfl k) ?_
    show own_G p e below _ (T100.setTop (mkF m 66 #[.val (.int p0), .val (.int p1), .val (.long q2), .second, .val (.int (2 : Int32)), .val (.ref b85)] [(.int (((q2.toUInt64 >>> ((40 : Int32) &&& 0x3f).toInt64.toUInt64).toInt64).toInt32)), (.int (5 : Int32)), (.ref b85)]))
    refine own_via (fun t k => XS.i2b X100.here hx rfl (hb hby at_66) rfl k) ?_
    show own_G p e below _ (T100.setTop (mkF m 67 #[.val (.int p0), .val (.int p1), .val (.long q2), .second, .val (.int (2 : Int32)), .val (.ref b85)] [(.int ((((q2.toUInt64 >>> ((40 : Int32) &&& 0x3f).toInt64.toUInt64).toInt64).toInt32).toInt8.toInt32)), (.int (5 : Int32)), (.ref b85)]))
    obtain ⟨T103, h103, L103, X103, N103, e103, W103, V103, st103⟩ := own_stB X100 N100 hx hZ e100 f101 g_b85 (j := (5 : Int32)) (x := ((((q2.toUInt64 >>> ((40 : Int32) &&& 0x3f).toInt64.toUInt64).toInt64).toInt32).toInt8.toInt32)) (i := 5) ⟨by decide, by decide⟩ rfl (Nat.le_of_ble_eq_true rfl) (pc := 67) (Ls := #[.val (.int p0), .val (.int p1), .val (.long q2), .second, .val (.int (2 : Int32)), .val (.ref b85)]) (rest := []) (hb hby at_67)
    refine own_via st103 ?_
    have f104 : Arv Z h103 b85 k85 .byte (8 : Int32) [(.int (((q2.toInt32).toInt8.toInt32).toInt8.toInt32)), (.int (((((q2.toUInt64 >>> ((8 : Int32) &&& 0x3f).toInt64.toUInt64).toInt64).toInt32).toInt8.toInt32).toInt8.toInt32)), (.int (((((q2.toUInt64 >>> ((16 : Int32) &&& 0x3f).toInt64.toUInt64).toInt64).toInt32).toInt8.toInt32).toInt8.toInt32)), (.int (((((q2.toUInt64 >>> ((24 : Int32) &&& 0x3f).toInt64.toUInt64).toInt64).toInt32).toInt8.toInt32).toInt8.toInt32)), (.int (((((q2.toUInt64 >>> ((32 : Int32) &&& 0x3f).toInt64.toUInt64).toInt64).toInt32).toInt8.toInt32).toInt8.toInt32)), (.int (((((q2.toUInt64 >>> ((40 : Int32) &&& 0x3f).toInt64.toUInt64).toInt64).toInt32).toInt8.toInt32).toInt8.toInt32)), (.int (0 : Int32)), (.int (0 : Int32))] (.int (0 : Int32)) := V103
    have Zs105 : n0 ≤ h103.size := by rw [W103.size]; exact Zs102
    show own_G p e below _ (T103.setTop (mkF m 68 #[.val (.int p0), .val (.int p1), .val (.long q2), .second, .val (.int (2 : Int32)), .val (.ref b85)] []))
    refine own_via (fun t k => XS.aload X103.here hx rfl (hb hby at_68) rfl rfl k) ?_
    show own_G p e below _ (T103.setTop (mkF m 70 #[.val (.int p0), .val (.int p1), .val (.long q2), .second, .val (.int (2 : Int32)), .val (.ref b85)] [(.ref b85)]))
    refine own_via (fun t k => XS.bipush X103.here hx rfl (hb hby at_70) k) ?_
    show own_G p e below _ (T103.setTop (mkF m 72 #[.val (.int p0), .val (.int p1), .val (.long q2), .second, .val (.int (2 : Int32)), .val (.ref b85)] [(.int (6 : Int32)), (.ref b85)]))
    refine own_via (fun t k => XS.lloadN X103.here hx rfl (hb hby at_72) rfl k) ?_
    show own_G p e below _ (T103.setTop (mkF m 73 #[.val (.int p0), .val (.int p1), .val (.long q2), .second, .val (.int (2 : Int32)), .val (.ref b85)] [(.long q2), (.int (6 : Int32)), (.ref b85)]))
    refine own_via (fun t k => XS.bipush X103.here hx rfl (hb hby at_73) k) ?_
    show own_G p e below _ (T103.setTop (mkF m 75 #[.val (.int p0), .val (.int p1), .val (.long q2), .second, .val (.int (2 : Int32)), .val (.ref b85)] [(.int (48 : Int32)), (.long q2), (.int (6 : Int32)), (.ref b85)]))
    refine own_via (fun t k => XS.lushr X103.here hx rfl (hb hby at_75) rfl k) ?_
    show own_G p e below _ (T103.setTop (mkF m 76 #[.val (.int p0), .val (.int p1), .val (.long q2), .second, .val (.int (2 : Int32)), .val (.ref b85)] [(.long ((q2.toUInt64 >>> ((48 : Int32) &&& 0x3f).toInt64.toUInt64).toInt64)), (.int (6 : Int32)), (.ref b85)]))
    refine own_via (fun t k => XS.l2i X103.here hx rfl (hb hby at_76) rfl k) ?_
    show own_G p e below _ (T103.setTop (mkF m 77 #[.val (.int p0), .val (.int p1), .val (.long q2), .second, .val (.int (2 : Int32)), .val (.ref b85)] [(.int (((q2.toUInt64 >>> ((48 : Int32) &&& 0x3f).toInt64.toUInt64).toInt64).toInt32)), (.int (6 : Int32)), (.ref b85)]))
    refine own_via (fun t k => XS.i2b X103.here hx rfl (hb hby at_77) rfl k) ?_
    show own_G p e below _ (T103.setTop (mkF m 78 #[.val (.int p0), .val (.int p1), .val (.long q2), .second, .val (.int (2 : Int32)), .val (.ref b85)] [(.int ((((q2.toUInt64 >>> ((48 : Int32) &&& 0x3f).toInt64.toUInt64).toInt64).toInt32).toInt8.toInt32)), (.int (6 : Int32)), (.ref b85)]))
    obtain ⟨T106, h106, L106, X106, N106, e106, W106, V106, st106⟩ := own_stB X103 N103 hx hZ e103 f104 g_b85 (j := (6 : Int32)) (x := ((((q2.toUInt64 >>> ((48 : Int32) &&& 0x3f).toInt64.toUInt64).toInt64).toInt32).toInt8.toInt32)) (i := 6) ⟨by decide, by decide⟩ rfl (Nat.le_of_ble_eq_true rfl) (pc := 78) (Ls := #[.val (.int p0), .val (.int p1), .val (.long q2), .second, .val (.int (2 : Int32)), .val (.ref b85)]) (rest := []) (hb hby at_78)
    refine own_via st106 ?_
    have f107 : Arv Z h106 b85 k85 .byte (8 : Int32) [(.int (((q2.toInt32).toInt8.toInt32).toInt8.toInt32)), (.int (((((q2.toUInt64 >>> ((8 : Int32) &&& 0x3f).toInt64.toUInt64).toInt64).toInt32).toInt8.toInt32).toInt8.toInt32)), (.int (((((q2.toUInt64 >>> ((16 : Int32) &&& 0x3f).toInt64.toUInt64).toInt64).toInt32).toInt8.toInt32).toInt8.toInt32)), (.int (((((q2.toUInt64 >>> ((24 : Int32) &&& 0x3f).toInt64.toUInt64).toInt64).toInt32).toInt8.toInt32).toInt8.toInt32)), (.int (((((q2.toUInt64 >>> ((32 : Int32) &&& 0x3f).toInt64.toUInt64).toInt64).toInt32).toInt8.toInt32).toInt8.toInt32)), (.int (((((q2.toUInt64 >>> ((40 : Int32) &&& 0x3f).toInt64.toUInt64).toInt64).toInt32).toInt8.toInt32).toInt8.toInt32)), (.int (((((q2.toUInt64 >>> ((48 : Int32) &&& 0x3f).toInt64.toUInt64).toInt64).toInt32).toInt8.toInt32).toInt8.toInt32)), (.int (0 : Int32))] (.int (0 : Int32)) := V106
    have Zs108 : n0 ≤ h106.size := by rw [W106.size]; exact Zs105
    show own_G p e below _ (T106.setTop (mkF m 79 #[.val (.int p0), .val (.int p1), .val (.long q2), .second, .val (.int (2 : Int32)), .val (.ref b85)] []))
    refine own_via (fun t k => XS.aload X106.here hx rfl (hb hby at_79) rfl rfl k) ?_
    show own_G p e below _ (T106.setTop (mkF m 81 #[.val (.int p0), .val (.int p1), .val (.long q2), .second, .val (.int (2 : Int32)), .val (.ref b85)] [(.ref b85)]))
    refine own_via (fun t k => XS.bipush X106.here hx rfl (hb hby at_81) k) ?_
    show own_G p e below _ (T106.setTop (mkF m 83 #[.val (.int p0), .val (.int p1), .val (.long q2), .second, .val (.int (2 : Int32)), .val (.ref b85)] [(.int (7 : Int32)), (.ref b85)]))
    refine own_via (fun t k => XS.lloadN X106.here hx rfl (hb hby at_83) rfl k) ?_
    show own_G p e below _ (T106.setTop (mkF m 84 #[.val (.int p0), .val (.int p1), .val (.long q2), .second, .val (.int (2 : Int32)), .val (.ref b85)] [(.long q2), (.int (7 : Int32)), (.ref b85)]))
    refine own_via (fun t k => XS.bipush X106.here hx rfl (hb hby at_84) k) ?_
    show own_G p e below _ (T106.setTop (mkF m 86 #[.val (.int p0), .val (.int p1), .val (.long q2), .second, .val (.int (2 : Int32)), .val (.ref b85)] [(.int (56 : Int32)), (.long q2), (.int (7 : Int32)), (.ref b85)]))
    refine own_via (fun t k => XS.lushr X106.here hx rfl (hb hby at_86) rfl k) ?_
    show own_G p e below _ (T106.setTop (mkF m 87 #[.val (.int p0), .val (.int p1), .val (.long q2), .second, .val (.int (2 : Int32)), .val (.ref b85)] [(.long ((q2.toUInt64 >>> ((56 : Int32) &&& 0x3f).toInt64.toUInt64).toInt64)), (.int (7 : Int32)), (.ref b85)]))
    refine own_via (fun t k => XS.l2i X106.here hx rfl (hb hby at_87) rfl k) ?_
    show own_G p e below _ (T106.setTop (mkF m 88 #[.val (.int p0), .val (.int p1), .val (.long q2), .second, .val (.int (2 : Int32)), .val (.ref b85)] [(.int (((q2.toUInt64 >>> ((56 : Int32) &&& 0x3f).toInt64.toUInt64).toInt64).toInt32)), (.int (7 : Int32)), (.ref b85)]))
    refine own_via (fun t k => XS.i2b X106.here hx rfl (hb hby at_88) rfl k) ?_
    show own_G p e below _ (T106.setTop (mkF m 89 #[.val (.int p0), .val (.int p1), .val (.long q2), .second, .val (.int (2 : Int32)), .val (.ref b85)] [(.int ((((q2.toUInt64 >>> ((56 : Int32) &&& 0x3f).toInt64.toUInt64).toInt64).toInt32).toInt8.toInt32)), (.int (7 : Int32)), (.ref b85)]))
    obtain ⟨T109, h109, L109, X109, N109, e109, W109, V109, st109⟩ := own_stB X106 N106 hx hZ e106 f107 g_b85 (j := (7 : Int32)) (x := ((((q2.toUInt64 >>> ((56 : Int32) &&& 0x3f).toInt64.toUInt64).toInt64).toInt32).toInt8.toInt32)) (i := 7) ⟨by decide, by decide⟩ rfl (Nat.le_of_ble_eq_true rfl) (pc := 89) (Ls := #[.val (.int p0), .val (.int p1), .val (.long q2), .second, .val (.int (2 : Int32)), .val (.ref b85)]) (rest := []) (hb hby at_89)
    refine own_via st109 ?_
    have f110 : Arv Z h109 b85 k85 .byte (8 : Int32) [(.int (((q2.toInt32).toInt8.toInt32).toInt8.toInt32)), (.int (((((q2.toUInt64 >>> ((8 : Int32) &&& 0x3f).toInt64.toUInt64).toInt64).toInt32).toInt8.toInt32).toInt8.toInt32)), (.int (((((q2.toUInt64 >>> ((16 : Int32) &&& 0x3f).toInt64.toUInt64).toInt64).toInt32).toInt8.toInt32).toInt8.toInt32)), (.int (((((q2.toUInt64 >>> ((24 : Int32) &&& 0x3f).toInt64.toUInt64).toInt64).toInt32).toInt8.toInt32).toInt8.toInt32)), (.int (((((q2.toUInt64 >>> ((32 : Int32) &&& 0x3f).toInt64.toUInt64).toInt64).toInt32).toInt8.toInt32).toInt8.toInt32)), (.int (((((q2.toUInt64 >>> ((40 : Int32) &&& 0x3f).toInt64.toUInt64).toInt64).toInt32).toInt8.toInt32).toInt8.toInt32)), (.int (((((q2.toUInt64 >>> ((48 : Int32) &&& 0x3f).toInt64.toUInt64).toInt64).toInt32).toInt8.toInt32).toInt8.toInt32)), (.int (((((q2.toUInt64 >>> ((56 : Int32) &&& 0x3f).toInt64.toUInt64).toInt64).toInt32).toInt8.toInt32).toInt8.toInt32))] (.int (0 : Int32)) := V109
    have Zs111 : n0 ≤ h109.size := by rw [W109.size]; exact Zs108
    show own_G p e below _ (T109.setTop (mkF m 90 #[.val (.int p0), .val (.int p1), .val (.long q2), .second, .val (.int (2 : Int32)), .val (.ref b85)] []))
    refine own_via (fun t k => XS.aload X109.here hx rfl (hb hby at_90) rfl rfl k) ?_
    show own_G p e below _ (T109.setTop (mkF m 92 #[.val (.int p0), .val (.int p1), .val (.long q2), .second, .val (.int (2 : Int32)), .val (.ref b85)] [(.ref b85)]))
    refine own_via (fun t k => XS.iload X109.here hx rfl (hb hby at_92) rfl k) ?_
    show own_G p e below _ (T109.setTop (mkF m 94 #[.val (.int p0), .val (.int p1), .val (.long q2), .second, .val (.int (2 : Int32)), .val (.ref b85)] [(.int (2 : Int32)), (.ref b85)]))
    refine own_via (fun t k => XS.iloadN X109.here hx rfl (hb hby at_94) rfl k) ?_
    show own_G p e below _ (T109.setTop (mkF m 95 #[.val (.int p0), .val (.int p1), .val (.long q2), .second, .val (.int (2 : Int32)), .val (.ref b85)] [(.int p0), (.int (2 : Int32)), (.ref b85)]))
    refine own_via (fun t k => XS.i2b X109.here hx rfl (hb hby at_95) rfl k) ?_
    show own_G p e below _ (T109.setTop (mkF m 96 #[.val (.int p0), .val (.int p1), .val (.long q2), .second, .val (.int (2 : Int32)), .val (.ref b85)] [(.int (p0.toInt8.toInt32)), (.int (2 : Int32)), (.ref b85)]))
    obtain ⟨T112, h112, L112, X112, N112, e112, W112, V112, st112⟩ := own_stB X109 N109 hx hZ e109 f110 g_b85 (j := (2 : Int32)) (x := (p0.toInt8.toInt32)) (i := 2) ⟨by decide, by decide⟩ rfl (Nat.le_of_ble_eq_true rfl) (pc := 96) (Ls := #[.val (.int p0), .val (.int p1), .val (.long q2), .second, .val (.int (2 : Int32)), .val (.ref b85)]) (rest := []) (hb hby at_96)
    refine own_via st112 ?_
    have f113 : Arv Z h112 b85 k85 .byte (8 : Int32) [(.int (((q2.toInt32).toInt8.toInt32).toInt8.toInt32)), (.int (((((q2.toUInt64 >>> ((8 : Int32) &&& 0x3f).toInt64.toUInt64).toInt64).toInt32).toInt8.toInt32).toInt8.toInt32)), (.int ((p0.toInt8.toInt32).toInt8.toInt32)), (.int (((((q2.toUInt64 >>> ((24 : Int32) &&& 0x3f).toInt64.toUInt64).toInt64).toInt32).toInt8.toInt32).toInt8.toInt32)), (.int (((((q2.toUInt64 >>> ((32 : Int32) &&& 0x3f).toInt64.toUInt64).toInt64).toInt32).toInt8.toInt32).toInt8.toInt32)), (.int (((((q2.toUInt64 >>> ((40 : Int32) &&& 0x3f).toInt64.toUInt64).toInt64).toInt32).toInt8.toInt32).toInt8.toInt32)), (.int (((((q2.toUInt64 >>> ((48 : Int32) &&& 0x3f).toInt64.toUInt64).toInt64).toInt32).toInt8.toInt32).toInt8.toInt32)), (.int (((((q2.toUInt64 >>> ((56 : Int32) &&& 0x3f).toInt64.toUInt64).toInt64).toInt32).toInt8.toInt32).toInt8.toInt32))] (.int (0 : Int32)) := V112
    have Zs114 : n0 ≤ h112.size := by rw [W112.size]; exact Zs111
    show own_G p e below _ (T112.setTop (mkF m 97 #[.val (.int p0), .val (.int p1), .val (.long q2), .second, .val (.int (2 : Int32)), .val (.ref b85)] []))
    refine own_via (fun t k => XS.aload X112.here hx rfl (hb hby at_97) rfl rfl k) ?_
    show own_G p e below _ (T112.setTop (mkF m 99 #[.val (.int p0), .val (.int p1), .val (.long q2), .second, .val (.int (2 : Int32)), .val (.ref b85)] [(.ref b85)]))
    refine own_via (fun t k => XS.iload X112.here hx rfl (hb hby at_99) rfl k) ?_
    show own_G p e below _ (T112.setTop (mkF m 101 #[.val (.int p0), .val (.int p1), .val (.long q2), .second, .val (.int (2 : Int32)), .val (.ref b85)] [(.int (2 : Int32)), (.ref b85)]))
    refine own_via (fun t k => XS.iconst X112.here hx rfl (hb hby at_101) k) ?_
    show own_G p e below _ (T112.setTop (mkF m 102 #[.val (.int p0), .val (.int p1), .val (.long q2), .second, .val (.int (2 : Int32)), .val (.ref b85)] [(.int (1 : Int32)), (.int (2 : Int32)), (.ref b85)]))
    refine own_via (fun t k => XS.iadd X112.here hx rfl (hb hby at_102) rfl k) ?_
    show own_G p e below _ (T112.setTop (mkF m 103 #[.val (.int p0), .val (.int p1), .val (.long q2), .second, .val (.int (2 : Int32)), .val (.ref b85)] [(.int (3 : Int32)), (.ref b85)]))
    refine own_via (fun t k => XS.iloadN X112.here hx rfl (hb hby at_103) rfl k) ?_
    show own_G p e below _ (T112.setTop (mkF m 104 #[.val (.int p0), .val (.int p1), .val (.long q2), .second, .val (.int (2 : Int32)), .val (.ref b85)] [(.int p0), (.int (3 : Int32)), (.ref b85)]))
    refine own_via (fun t k => XS.bipush X112.here hx rfl (hb hby at_104) k) ?_
    show own_G p e below _ (T112.setTop (mkF m 106 #[.val (.int p0), .val (.int p1), .val (.long q2), .second, .val (.int (2 : Int32)), .val (.ref b85)] [(.int (8 : Int32)), (.int p0), (.int (3 : Int32)), (.ref b85)]))
    refine own_via (fun t k => XS.iushr X112.here hx rfl (hb hby at_106) rfl k) ?_
    show own_G p e below _ (T112.setTop (mkF m 107 #[.val (.int p0), .val (.int p1), .val (.long q2), .second, .val (.int (2 : Int32)), .val (.ref b85)] [(.int ((p0.toUInt32 >>> ((8 : Int32) &&& 31).toUInt32).toInt32)), (.int (3 : Int32)), (.ref b85)]))
    refine own_via (fun t k => XS.i2b X112.here hx rfl (hb hby at_107) rfl k) ?_
    show own_G p e below _ (T112.setTop (mkF m 108 #[.val (.int p0), .val (.int p1), .val (.long q2), .second, .val (.int (2 : Int32)), .val (.ref b85)] [(.int (((p0.toUInt32 >>> ((8 : Int32) &&& 31).toUInt32).toInt32).toInt8.toInt32)), (.int (3 : Int32)), (.ref b85)]))
    obtain ⟨T115, h115, L115, X115, N115, e115, W115, V115, st115⟩ := own_stB X112 N112 hx hZ e112 f113 g_b85 (j := (3 : Int32)) (x := (((p0.toUInt32 >>> ((8 : Int32) &&& 31).toUInt32).toInt32).toInt8.toInt32)) (i := 3) ⟨by decide, by decide⟩ rfl (Nat.le_of_ble_eq_true rfl) (pc := 108) (Ls := #[.val (.int p0), .val (.int p1), .val (.long q2), .second, .val (.int (2 : Int32)), .val (.ref b85)]) (rest := []) (hb hby at_108)
    refine own_via st115 ?_
    have f116 : Arv Z h115 b85 k85 .byte (8 : Int32) [(.int (((q2.toInt32).toInt8.toInt32).toInt8.toInt32)), (.int (((((q2.toUInt64 >>> ((8 : Int32) &&& 0x3f).toInt64.toUInt64).toInt64).toInt32).toInt8.toInt32).toInt8.toInt32)), (.int ((p0.toInt8.toInt32).toInt8.toInt32)), (.int ((((p0.toUInt32 >>> ((8 : Int32) &&& 31).toUInt32).toInt32).toInt8.toInt32).toInt8.toInt32)), (.int (((((q2.toUInt64 >>> ((32 : Int32) &&& 0x3f).toInt64.toUInt64).toInt64).toInt32).toInt8.toInt32).toInt8.toInt32)), (.int (((((q2.toUInt64 >>> ((40 : Int32) &&& 0x3f).toInt64.toUInt64).toInt64).toInt32).toInt8.toInt32).toInt8.toInt32)), (.int (((((q2.toUInt64 >>> ((48 : Int32) &&& 0x3f).toInt64.toUInt64).toInt64).toInt32).toInt8.toInt32).toInt8.toInt32)), (.int (((((q2.toUInt64 >>> ((56 : Int32) &&& 0x3f).toInt64.toUInt64).toInt64).toInt32).toInt8.toInt32).toInt8.toInt32))] (.int (0 : Int32)) := V115
    have Zs117 : n0 ≤ h115.size := by rw [W115.size]; exact Zs114
    show own_G p e below _ (T115.setTop (mkF m 109 #[.val (.int p0), .val (.int p1), .val (.long q2), .second, .val (.int (2 : Int32)), .val (.ref b85)] []))
    refine own_via (fun t k => XS.aload X115.here hx rfl (hb hby at_109) rfl rfl k) ?_
    show own_G p e below _ (T115.setTop (mkF m 111 #[.val (.int p0), .val (.int p1), .val (.long q2), .second, .val (.int (2 : Int32)), .val (.ref b85)] [(.ref b85)]))
    refine own_via (fun t k => XS.iload X115.here hx rfl (hb hby at_111) rfl k) ?_
    show own_G p e below _ (T115.setTop (mkF m 113 #[.val (.int p0), .val (.int p1), .val (.long q2), .second, .val (.int (2 : Int32)), .val (.ref b85)] [(.int (2 : Int32)), (.ref b85)]))
    refine own_via (fun t k => XS.iconst X115.here hx rfl (hb hby at_113) k) ?_
    show own_G p e below _ (T115.setTop (mkF m 114 #[.val (.int p0), .val (.int p1), .val (.long q2), .second, .val (.int (2 : Int32)), .val (.ref b85)] [(.int (2 : Int32)), (.int (2 : Int32)), (.ref b85)]))
    refine own_via (fun t k => XS.iadd X115.here hx rfl (hb hby at_114) rfl k) ?_
    show own_G p e below _ (T115.setTop (mkF m 115 #[.val (.int p0), .val (.int p1), .val (.long q2), .second, .val (.int (2 : Int32)), .val (.ref b85)] [(.int (4 : Int32)), (.ref b85)]))
    refine own_via (fun t k => XS.iloadN X115.here hx rfl (hb hby at_115) rfl k) ?_
    show own_G p e below _ (T115.setTop (mkF m 116 #[.val (.int p0), .val (.int p1), .val (.long q2), .second, .val (.int (2 : Int32)), .val (.ref b85)] [(.int p0), (.int (4 : Int32)), (.ref b85)]))
    refine own_via (fun t k => XS.bipush X115.here hx rfl (hb hby at_116) k) ?_
    show own_G p e below _ (T115.setTop (mkF m 118 #[.val (.int p0), .val (.int p1), .val (.long q2), .second, .val (.int (2 : Int32)), .val (.ref b85)] [(.int (16 : Int32)), (.int p0), (.int (4 : Int32)), (.ref b85)]))
    refine own_via (fun t k => XS.iushr X115.here hx rfl (hb hby at_118) rfl k) ?_
    show own_G p e below _ (T115.setTop (mkF m 119 #[.val (.int p0), .val (.int p1), .val (.long q2), .second, .val (.int (2 : Int32)), .val (.ref b85)] [(.int ((p0.toUInt32 >>> ((16 : Int32) &&& 31).toUInt32).toInt32)), (.int (4 : Int32)), (.ref b85)]))
    refine own_via (fun t k => XS.i2b X115.here hx rfl (hb hby at_119) rfl k) ?_
    show own_G p e below _ (T115.setTop (mkF m 120 #[.val (.int p0), .val (.int p1), .val (.long q2), .second, .val (.int (2 : Int32)), .val (.ref b85)] [(.int (((p0.toUInt32 >>> ((16 : Int32) &&& 31).toUInt32).toInt32).toInt8.toInt32)), (.int (4 : Int32)), (.ref b85)]))
    obtain ⟨T118, h118, L118, X118, N118, e118, W118, V118, st118⟩ := own_stB X115 N115 hx hZ e115 f116 g_b85 (j := (4 : Int32)) (x := (((p0.toUInt32 >>> ((16 : Int32) &&& 31).toUInt32).toInt32).toInt8.toInt32)) (i := 4) ⟨by decide, by decide⟩ rfl (Nat.le_of_ble_eq_true rfl) (pc := 120) (Ls := #[.val (.int p0), .val (.int p1), .val (.long q2), .second, .val (.int (2 : Int32)), .val (.ref b85)]) (rest := []) (hb hby at_120)
    refine own_via st118 ?_
    have f119 : Arv Z h118 b85 k85 .byte (8 : Int32) [(.int (((q2.toInt32).toInt8.toInt32).toInt8.toInt32)), (.int (((((q2.toUInt64 >>> ((8 : Int32) &&& 0x3f).toInt64.toUInt64).toInt64).toInt32).toInt8.toInt32).toInt8.toInt32)), (.int ((p0.toInt8.toInt32).toInt8.toInt32)), (.int ((((p0.toUInt32 >>> ((8 : Int32) &&& 31).toUInt32).toInt32).toInt8.toInt32).toInt8.toInt32)), (.int ((((p0.toUInt32 >>> ((16 : Int32) &&& 31).toUInt32).toInt32).toInt8.toInt32).toInt8.toInt32)), (.int (((((q2.toUInt64 >>> ((40 : Int32) &&& 0x3f).toInt64.toUInt64).toInt64).toInt32).toInt8.toInt32).toInt8.toInt32)), (.int (((((q2.toUInt64 >>> ((48 : Int32) &&& 0x3f).toInt64.toUInt64).toInt64).toInt32).toInt8.toInt32).toInt8.toInt32)), (.int (((((q2.toUInt64 >>> ((56 : Int32) &&& 0x3f).toInt64.toUInt64).toInt64).toInt32).toInt8.toInt32).toInt8.toInt32))] (.int (0 : Int32)) := V118
    have Zs120 : n0 ≤ h118.size := by rw [W118.size]; exact Zs117
    show own_G p e below _ (T118.setTop (mkF m 121 #[.val (.int p0), .val (.int p1), .val (.long q2), .second, .val (.int (2 : Int32)), .val (.ref b85)] []))
    refine own_via (fun t k => XS.aload X118.here hx rfl (hb hby at_121) rfl rfl k) ?_
    show own_G p e below _ (T118.setTop (mkF m 123 #[.val (.int p0), .val (.int p1), .val (.long q2), .second, .val (.int (2 : Int32)), .val (.ref b85)] [(.ref b85)]))
    refine own_via (fun t k => XS.iload X118.here hx rfl (hb hby at_123) rfl k) ?_
    show own_G p e below _ (T118.setTop (mkF m 125 #[.val (.int p0), .val (.int p1), .val (.long q2), .second, .val (.int (2 : Int32)), .val (.ref b85)] [(.int (2 : Int32)), (.ref b85)]))
    refine own_via (fun t k => XS.iconst X118.here hx rfl (hb hby at_125) k) ?_
    show own_G p e below _ (T118.setTop (mkF m 126 #[.val (.int p0), .val (.int p1), .val (.long q2), .second, .val (.int (2 : Int32)), .val (.ref b85)] [(.int (3 : Int32)), (.int (2 : Int32)), (.ref b85)]))
    refine own_via (fun t k => XS.iadd X118.here hx rfl (hb hby at_126) rfl k) ?_
    show own_G p e below _ (T118.setTop (mkF m 127 #[.val (.int p0), .val (.int p1), .val (.long q2), .second, .val (.int (2 : Int32)), .val (.ref b85)] [(.int (5 : Int32)), (.ref b85)]))
    refine own_via (fun t k => XS.iloadN X118.here hx rfl (hb hby at_127) rfl k) ?_
    show own_G p e below _ (T118.setTop (mkF m 128 #[.val (.int p0), .val (.int p1), .val (.long q2), .second, .val (.int (2 : Int32)), .val (.ref b85)] [(.int p0), (.int (5 : Int32)), (.ref b85)]))
    refine own_via (fun t k => XS.bipush X118.here hx rfl (hb hby at_128) k) ?_
    show own_G p e below _ (T118.setTop (mkF m 130 #[.val (.int p0), .val (.int p1), .val (.long q2), .second, .val (.int (2 : Int32)), .val (.ref b85)] [(.int (24 : Int32)), (.int p0), (.int (5 : Int32)), (.ref b85)]))
    refine own_via (fun t k => XS.iushr X118.here hx rfl (hb hby at_130) rfl k) ?_
    show own_G p e below _ (T118.setTop (mkF m 131 #[.val (.int p0), .val (.int p1), .val (.long q2), .second, .val (.int (2 : Int32)), .val (.ref b85)] [(.int ((p0.toUInt32 >>> ((24 : Int32) &&& 31).toUInt32).toInt32)), (.int (5 : Int32)), (.ref b85)]))
    refine own_via (fun t k => XS.i2b X118.here hx rfl (hb hby at_131) rfl k) ?_
    show own_G p e below _ (T118.setTop (mkF m 132 #[.val (.int p0), .val (.int p1), .val (.long q2), .second, .val (.int (2 : Int32)), .val (.ref b85)] [(.int (((p0.toUInt32 >>> ((24 : Int32) &&& 31).toUInt32).toInt32).toInt8.toInt32)), (.int (5 : Int32)), (.ref b85)]))
    obtain ⟨T121, h121, L121, X121, N121, e121, W121, V121, st121⟩ := own_stB X118 N118 hx hZ e118 f119 g_b85 (j := (5 : Int32)) (x := (((p0.toUInt32 >>> ((24 : Int32) &&& 31).toUInt32).toInt32).toInt8.toInt32)) (i := 5) ⟨by decide, by decide⟩ rfl (Nat.le_of_ble_eq_true rfl) (pc := 132) (Ls := #[.val (.int p0), .val (.int p1), .val (.long q2), .second, .val (.int (2 : Int32)), .val (.ref b85)]) (rest := []) (hb hby at_132)
    refine own_via st121 ?_
    have f122 : Arv Z h121 b85 k85 .byte (8 : Int32) [(.int (((q2.toInt32).toInt8.toInt32).toInt8.toInt32)), (.int (((((q2.toUInt64 >>> ((8 : Int32) &&& 0x3f).toInt64.toUInt64).toInt64).toInt32).toInt8.toInt32).toInt8.toInt32)), (.int ((p0.toInt8.toInt32).toInt8.toInt32)), (.int ((((p0.toUInt32 >>> ((8 : Int32) &&& 31).toUInt32).toInt32).toInt8.toInt32).toInt8.toInt32)), (.int ((((p0.toUInt32 >>> ((16 : Int32) &&& 31).toUInt32).toInt32).toInt8.toInt32).toInt8.toInt32)), (.int ((((p0.toUInt32 >>> ((24 : Int32) &&& 31).toUInt32).toInt32).toInt8.toInt32).toInt8.toInt32)), (.int (((((q2.toUInt64 >>> ((48 : Int32) &&& 0x3f).toInt64.toUInt64).toInt64).toInt32).toInt8.toInt32).toInt8.toInt32)), (.int (((((q2.toUInt64 >>> ((56 : Int32) &&& 0x3f).toInt64.toUInt64).toInt64).toInt32).toInt8.toInt32).toInt8.toInt32))] (.int (0 : Int32)) := V121
    have Zs123 : n0 ≤ h121.size := by rw [W121.size]; exact Zs120
    show own_G p e below _ (T121.setTop (mkF m 133 #[.val (.int p0), .val (.int p1), .val (.long q2), .second, .val (.int (2 : Int32)), .val (.ref b85)] []))
    refine own_via (fun t k => XS.aload X121.here hx rfl (hb hby at_133) rfl rfl k) ?_
    show own_G p e below _ (T121.setTop (mkF m 135 #[.val (.int p0), .val (.int p1), .val (.long q2), .second, .val (.int (2 : Int32)), .val (.ref b85)] [(.ref b85)]))
    refine own_via (fun t k => XS.iload X121.here hx rfl (hb hby at_135) rfl k) ?_
    show own_G p e below _ (T121.setTop (mkF m 137 #[.val (.int p0), .val (.int p1), .val (.long q2), .second, .val (.int (2 : Int32)), .val (.ref b85)] [(.int (2 : Int32)), (.ref b85)]))
    obtain ⟨T124, X124, e124, st124⟩ := own_callP (y := (⟨"com/example/bowerbird/bowerbird/BsonTree", "int32", "([BI)I"⟩ : MethodName)) (W := 0) X121 hx hZ hown (hw _ (List.mem_of_getElem? (i := 1) rfl)) (hw _ (List.mem_of_getElem? (i := 2) rfl)) (hw _ (List.mem_of_getElem? (i := 3) rfl)) (hw _ (List.mem_of_getElem? (i := 4) rfl)) (by decide) (own_int32_2 l Z a0 hw [] b85 k85 (((q2.toInt32).toInt8.toInt32).toInt8.toInt32) (((((q2.toUInt64 >>> ((8 : Int32) &&& 0x3f).toInt64.toUInt64).toInt64).toInt32).toInt8.toInt32).toInt8.toInt32) ((p0.toInt8.toInt32).toInt8.toInt32) ((((p0.toUInt32 >>> ((8 : Int32) &&& 31).toUInt32).toInt32).toInt8.toInt32).toInt8.toInt32) ((((p0.toUInt32 >>> ((16 : Int32) &&& 31).toUInt32).toInt32).toInt8.toInt32).toInt8.toInt32) ((((p0.toUInt32 >>> ((24 : Int32) &&& 31).toUInt32).toInt32).toInt8.toInt32).toInt8.toInt32) (((((q2.toUInt64 >>> ((48 : Int32) &&& 0x3f).toInt64.toUInt64).toInt64).toInt32).toInt8.toInt32).toInt8.toInt32) (((((q2.toUInt64 >>> ((56 : Int32) &&& 0x3f).toInt64.toUInt64).toInt64).toInt32).toInt8.toInt32).toInt8.toInt32) h121 f122) (by decide) (by decide) rfl rfl (by decide) (by decide) e121 (pc := 137) (Ls := #[.val (.int p0), .val (.int p1), .val (.long q2), .second, .val (.int (2 : Int32)), .val (.ref b85)]) (st := [(.int (2 : Int32)), (.ref b85)]) (argsL := [(.ref b85), (.int (2 : Int32))]) (rest := []) (by rw [hml]; rfl) (lenOf own_pd0 rfl) rfl rfl (Nat.le_of_eq rfl) (hb hby at_137)
    refine own_via st124 ?_
    show own_G p e below _ (T124.setTop (mkF m 140 #[.val (.int p0), .val (.int p1), .val (.long q2), .second, .val (.int (2 : Int32)), .val (.ref b85)] [(.int (own_le ((p0.toInt8.toInt32).toInt8.toInt32) ((((p0.toUInt32 >>> ((8 : Int32) &&& 31).toUInt32).toInt32).toInt8.toInt32).toInt8.toInt32) ((((p0.toUInt32 >>> ((16 : Int32) &&& 31).toUInt32).toInt32).toInt8.toInt32).toInt8.toInt32) ((((p0.toUInt32 >>> ((24 : Int32) &&& 31).toUInt32).toInt32).toInt8.toInt32).toInt8.toInt32)))]))
    refine own_via (fun t k => XS.iloadN X124.here hx rfl (hb hby at_140) rfl k) ?_
    show own_G p e below _ (T124.setTop (mkF m 141 #[.val (.int p0), .val (.int p1), .val (.long q2), .second, .val (.int (2 : Int32)), .val (.ref b85)] [(.int p0), (.int (own_le ((p0.toInt8.toInt32).toInt8.toInt32) ((((p0.toUInt32 >>> ((8 : Int32) &&& 31).toUInt32).toInt32).toInt8.toInt32).toInt8.toInt32) ((((p0.toUInt32 >>> ((16 : Int32) &&& 31).toUInt32).toInt32).toInt8.toInt32).toInt8.toInt32) ((((p0.toUInt32 >>> ((24 : Int32) &&& 31).toUInt32).toInt32).toInt8.toInt32).toInt8.toInt32)))]))
    refine own_via (fun t k => XS.icmpNo X124.here hx rfl (hb hby at_141) rfl (teq (own_back p0)).2 k) ?_
    show own_G p e below _ (T124.setTop (mkF m 144 #[.val (.int p0), .val (.int p1), .val (.long q2), .second, .val (.int (2 : Int32)), .val (.ref b85)] []))
    refine own_via (fun t k => XS.iconst X124.here hx rfl (hb hby at_144) k) ?_
    show own_G p e below _ (T124.setTop (mkF m 145 #[.val (.int p0), .val (.int p1), .val (.long q2), .second, .val (.int (2 : Int32)), .val (.ref b85)] [(.int (1 : Int32))]))
    refine own_via (fun t k => XS.goto X124.here hx rfl (pc0 := 145) (pc' := 149) rfl (hb hby at_145) (by decide) (by decide) k) ?_
    show own_G p e below _ (T124.setTop (mkF m 149 #[.val (.int p0), .val (.int p1), .val (.long q2), .second, .val (.int (2 : Int32)), .val (.ref b85)] [(.int (1 : Int32))]))
    exact own_retN (t := .boolean) X124 hx Bd.returns (by simp) Bd.notSynchronized (hb hby at_149) ⟨N121, rfl⟩ (by decide) (by decide)
  ·
    rw [hs4]
    show own_G p e below _ (s₁.setTop (mkF m 3 #[.val (.int p0), .val (.int p1), .val (.long q2), .second, .unset, .unset] [(.int (3 : Int32))]))
    refine own_via (fun t k => XS.istore X0.here hx rfl (hb hby at_3) rfl (l' := #[.val (.int p0), .val (.int p1), .val (.long q2), .second, .val (.int (3 : Int32)), .unset]) rfl k) ?_
    show own_G p e below _ (s₁.setTop (mkF m 5 #[.val (.int p0), .val (.int p1), .val (.long q2), .second, .val (.int (3 : Int32)), .unset] []))
    refine own_via (fun t k => XS.bipush X0.here hx rfl (hb hby at_5) k) ?_
    show own_G p e below _ (s₁.setTop (mkF m 7 #[.val (.int p0), .val (.int p1), .val (.long q2), .second, .val (.int (3 : Int32)), .unset] [(.int (8 : Int32))]))
    obtain ⟨T125, h125, k125, b125, X125, e125, E125, ga125, V125, Ex125, st125⟩ := own_newA X0 hx hZ (hw _ (List.mem_of_getElem? (i := 0) rfl)) e0 (pc := 7) (Ls := #[.val (.int p0), .val (.int p1), .val (.long q2), .second, .val (.int (3 : Int32)), .unset]) (rest := []) (hb hby at_7) (n := (8 : Int32)) (by decide) (cap := 8) (by decide) (by decide) (by decide) (by decide) 8 rfl
    refine own_via st125 ?_
    have f126 : Arv Z h125 b125 k125 .byte (8 : Int32) [(.int (0 : Int32)), (.int (0 : Int32)), (.int (0 : Int32)), (.int (0 : Int32)), (.int (0 : Int32)), (.int (0 : Int32)), (.int (0 : Int32)), (.int (0 : Int32))] (.int (0 : Int32)) := V125
    have g_b125 : n0 ≤ b125 := Nat.le_trans Z0 (Nat.le_of_eq ga125.symm)
    have Zs127 : n0 ≤ h125.size := Nat.le_trans Z0 E125.1
    show own_G p e below _ (T125.setTop (mkF m 9 #[.val (.int p0), .val (.int p1), .val (.long q2), .second, .val (.int (3 : Int32)), .unset] [(.ref b125)]))
    refine own_via (fun t k => XS.astore X125.here hx rfl (hb hby at_9) rfl rfl (l' := #[.val (.int p0), .val (.int p1), .val (.long q2), .second, .val (.int (3 : Int32)), .val (.ref b125)]) rfl k) ?_
    show own_G p e below _ (T125.setTop (mkF m 11 #[.val (.int p0), .val (.int p1), .val (.long q2), .second, .val (.int (3 : Int32)), .val (.ref b125)] []))
    refine own_via (fun t k => XS.aload X125.here hx rfl (hb hby at_11) rfl rfl k) ?_
    show own_G p e below _ (T125.setTop (mkF m 13 #[.val (.int p0), .val (.int p1), .val (.long q2), .second, .val (.int (3 : Int32)), .val (.ref b125)] [(.ref b125)]))
    refine own_via (fun t k => XS.iconst X125.here hx rfl (hb hby at_13) k) ?_
    show own_G p e below _ (T125.setTop (mkF m 14 #[.val (.int p0), .val (.int p1), .val (.long q2), .second, .val (.int (3 : Int32)), .val (.ref b125)] [(.int (0 : Int32)), (.ref b125)]))
    refine own_via (fun t k => XS.lloadN X125.here hx rfl (hb hby at_14) rfl k) ?_
    show own_G p e below _ (T125.setTop (mkF m 15 #[.val (.int p0), .val (.int p1), .val (.long q2), .second, .val (.int (3 : Int32)), .val (.ref b125)] [(.long q2), (.int (0 : Int32)), (.ref b125)]))
    refine own_via (fun t k => XS.l2i X125.here hx rfl (hb hby at_15) rfl k) ?_
    show own_G p e below _ (T125.setTop (mkF m 16 #[.val (.int p0), .val (.int p1), .val (.long q2), .second, .val (.int (3 : Int32)), .val (.ref b125)] [(.int (q2.toInt32)), (.int (0 : Int32)), (.ref b125)]))
    refine own_via (fun t k => XS.i2b X125.here hx rfl (hb hby at_16) rfl k) ?_
    show own_G p e below _ (T125.setTop (mkF m 17 #[.val (.int p0), .val (.int p1), .val (.long q2), .second, .val (.int (3 : Int32)), .val (.ref b125)] [(.int ((q2.toInt32).toInt8.toInt32)), (.int (0 : Int32)), (.ref b125)]))
    obtain ⟨T128, h128, L128, X128, N128, e128, W128, V128, st128⟩ := own_stB X125 N0 hx hZ e125 f126 g_b125 (j := (0 : Int32)) (x := ((q2.toInt32).toInt8.toInt32)) (i := 0) ⟨by decide, by decide⟩ rfl (Nat.le_of_ble_eq_true rfl) (pc := 17) (Ls := #[.val (.int p0), .val (.int p1), .val (.long q2), .second, .val (.int (3 : Int32)), .val (.ref b125)]) (rest := []) (hb hby at_17)
    refine own_via st128 ?_
    have f129 : Arv Z h128 b125 k125 .byte (8 : Int32) [(.int (((q2.toInt32).toInt8.toInt32).toInt8.toInt32)), (.int (0 : Int32)), (.int (0 : Int32)), (.int (0 : Int32)), (.int (0 : Int32)), (.int (0 : Int32)), (.int (0 : Int32)), (.int (0 : Int32))] (.int (0 : Int32)) := V128
    have Zs130 : n0 ≤ h128.size := by rw [W128.size]; exact Zs127
    show own_G p e below _ (T128.setTop (mkF m 18 #[.val (.int p0), .val (.int p1), .val (.long q2), .second, .val (.int (3 : Int32)), .val (.ref b125)] []))
    refine own_via (fun t k => XS.aload X128.here hx rfl (hb hby at_18) rfl rfl k) ?_
    show own_G p e below _ (T128.setTop (mkF m 20 #[.val (.int p0), .val (.int p1), .val (.long q2), .second, .val (.int (3 : Int32)), .val (.ref b125)] [(.ref b125)]))
    refine own_via (fun t k => XS.iconst X128.here hx rfl (hb hby at_20) k) ?_
    show own_G p e below _ (T128.setTop (mkF m 21 #[.val (.int p0), .val (.int p1), .val (.long q2), .second, .val (.int (3 : Int32)), .val (.ref b125)] [(.int (1 : Int32)), (.ref b125)]))
    refine own_via (fun t k => XS.lloadN X128.here hx rfl (hb hby at_21) rfl k) ?_
    show own_G p e below _ (T128.setTop (mkF m 22 #[.val (.int p0), .val (.int p1), .val (.long q2), .second, .val (.int (3 : Int32)), .val (.ref b125)] [(.long q2), (.int (1 : Int32)), (.ref b125)]))
    refine own_via (fun t k => XS.bipush X128.here hx rfl (hb hby at_22) k) ?_
    show own_G p e below _ (T128.setTop (mkF m 24 #[.val (.int p0), .val (.int p1), .val (.long q2), .second, .val (.int (3 : Int32)), .val (.ref b125)] [(.int (8 : Int32)), (.long q2), (.int (1 : Int32)), (.ref b125)]))
    refine own_via (fun t k => XS.lushr X128.here hx rfl (hb hby at_24) rfl k) ?_
    show own_G p e below _ (T128.setTop (mkF m 25 #[.val (.int p0), .val (.int p1), .val (.long q2), .second, .val (.int (3 : Int32)), .val (.ref b125)] [(.long ((q2.toUInt64 >>> ((8 : Int32) &&& 0x3f).toInt64.toUInt64).toInt64)), (.int (1 : Int32)), (.ref b125)]))
    refine own_via (fun t k => XS.l2i X128.here hx rfl (hb hby at_25) rfl k) ?_
    show own_G p e below _ (T128.setTop (mkF m 26 #[.val (.int p0), .val (.int p1), .val (.long q2), .second, .val (.int (3 : Int32)), .val (.ref b125)] [(.int (((q2.toUInt64 >>> ((8 : Int32) &&& 0x3f).toInt64.toUInt64).toInt64).toInt32)), (.int (1 : Int32)), (.ref b125)]))
    refine own_via (fun t k => XS.i2b X128.here hx rfl (hb hby at_26) rfl k) ?_
    show own_G p e below _ (T128.setTop (mkF m 27 #[.val (.int p0), .val (.int p1), .val (.long q2), .second, .val (.int (3 : Int32)), .val (.ref b125)] [(.int ((((q2.toUInt64 >>> ((8 : Int32) &&& 0x3f).toInt64.toUInt64).toInt64).toInt32).toInt8.toInt32)), (.int (1 : Int32)), (.ref b125)]))
    obtain ⟨T131, h131, L131, X131, N131, e131, W131, V131, st131⟩ := own_stB X128 N128 hx hZ e128 f129 g_b125 (j := (1 : Int32)) (x := ((((q2.toUInt64 >>> ((8 : Int32) &&& 0x3f).toInt64.toUInt64).toInt64).toInt32).toInt8.toInt32)) (i := 1) ⟨by decide, by decide⟩ rfl (Nat.le_of_ble_eq_true rfl) (pc := 27) (Ls := #[.val (.int p0), .val (.int p1), .val (.long q2), .second, .val (.int (3 : Int32)), .val (.ref b125)]) (rest := []) (hb hby at_27)
    refine own_via st131 ?_
    have f132 : Arv Z h131 b125 k125 .byte (8 : Int32) [(.int (((q2.toInt32).toInt8.toInt32).toInt8.toInt32)), (.int (((((q2.toUInt64 >>> ((8 : Int32) &&& 0x3f).toInt64.toUInt64).toInt64).toInt32).toInt8.toInt32).toInt8.toInt32)), (.int (0 : Int32)), (.int (0 : Int32)), (.int (0 : Int32)), (.int (0 : Int32)), (.int (0 : Int32)), (.int (0 : Int32))] (.int (0 : Int32)) := V131
    have Zs133 : n0 ≤ h131.size := by rw [W131.size]; exact Zs130
    show own_G p e below _ (T131.setTop (mkF m 28 #[.val (.int p0), .val (.int p1), .val (.long q2), .second, .val (.int (3 : Int32)), .val (.ref b125)] []))
    refine own_via (fun t k => XS.aload X131.here hx rfl (hb hby at_28) rfl rfl k) ?_
    show own_G p e below _ (T131.setTop (mkF m 30 #[.val (.int p0), .val (.int p1), .val (.long q2), .second, .val (.int (3 : Int32)), .val (.ref b125)] [(.ref b125)]))
    refine own_via (fun t k => XS.iconst X131.here hx rfl (hb hby at_30) k) ?_
    show own_G p e below _ (T131.setTop (mkF m 31 #[.val (.int p0), .val (.int p1), .val (.long q2), .second, .val (.int (3 : Int32)), .val (.ref b125)] [(.int (2 : Int32)), (.ref b125)]))
    refine own_via (fun t k => XS.lloadN X131.here hx rfl (hb hby at_31) rfl k) ?_
    show own_G p e below _ (T131.setTop (mkF m 32 #[.val (.int p0), .val (.int p1), .val (.long q2), .second, .val (.int (3 : Int32)), .val (.ref b125)] [(.long q2), (.int (2 : Int32)), (.ref b125)]))
    refine own_via (fun t k => XS.bipush X131.here hx rfl (hb hby at_32) k) ?_
    show own_G p e below _ (T131.setTop (mkF m 34 #[.val (.int p0), .val (.int p1), .val (.long q2), .second, .val (.int (3 : Int32)), .val (.ref b125)] [(.int (16 : Int32)), (.long q2), (.int (2 : Int32)), (.ref b125)]))
    refine own_via (fun t k => XS.lushr X131.here hx rfl (hb hby at_34) rfl k) ?_
    show own_G p e below _ (T131.setTop (mkF m 35 #[.val (.int p0), .val (.int p1), .val (.long q2), .second, .val (.int (3 : Int32)), .val (.ref b125)] [(.long ((q2.toUInt64 >>> ((16 : Int32) &&& 0x3f).toInt64.toUInt64).toInt64)), (.int (2 : Int32)), (.ref b125)]))
    refine own_via (fun t k => XS.l2i X131.here hx rfl (hb hby at_35) rfl k) ?_
    show own_G p e below _ (T131.setTop (mkF m 36 #[.val (.int p0), .val (.int p1), .val (.long q2), .second, .val (.int (3 : Int32)), .val (.ref b125)] [(.int (((q2.toUInt64 >>> ((16 : Int32) &&& 0x3f).toInt64.toUInt64).toInt64).toInt32)), (.int (2 : Int32)), (.ref b125)]))
    refine own_via (fun t k => XS.i2b X131.here hx rfl (hb hby at_36) rfl k) ?_
    show own_G p e below _ (T131.setTop (mkF m 37 #[.val (.int p0), .val (.int p1), .val (.long q2), .second, .val (.int (3 : Int32)), .val (.ref b125)] [(.int ((((q2.toUInt64 >>> ((16 : Int32) &&& 0x3f).toInt64.toUInt64).toInt64).toInt32).toInt8.toInt32)), (.int (2 : Int32)), (.ref b125)]))
    obtain ⟨T134, h134, L134, X134, N134, e134, W134, V134, st134⟩ := own_stB X131 N131 hx hZ e131 f132 g_b125 (j := (2 : Int32)) (x := ((((q2.toUInt64 >>> ((16 : Int32) &&& 0x3f).toInt64.toUInt64).toInt64).toInt32).toInt8.toInt32)) (i := 2) ⟨by decide, by decide⟩ rfl (Nat.le_of_ble_eq_true rfl) (pc := 37) (Ls := #[.val (.int p0), .val (.int p1), .val (.long q2), .second, .val (.int (3 : Int32)), .val (.ref b125)]) (rest := []) (hb hby at_37)
    refine own_via st134 ?_
    have f135 : Arv Z h134 b125 k125 .byte (8 : Int32) [(.int (((q2.toInt32).toInt8.toInt32).toInt8.toInt32)), (.int (((((q2.toUInt64 >>> ((8 : Int32) &&& 0x3f).toInt64.toUInt64).toInt64).toInt32).toInt8.toInt32).toInt8.toInt32)), (.int (((((q2.toUInt64 >>> ((16 : Int32) &&& 0x3f).toInt64.toUInt64).toInt64).toInt32).toInt8.toInt32).toInt8.toInt32)), (.int (0 : Int32)), (.int (0 : Int32)), (.int (0 : Int32)), (.int (0 : Int32)), (.int (0 : Int32))] (.int (0 : Int32)) := V134
    have Zs136 : n0 ≤ h134.size := by rw [W134.size]; exact Zs133
    show own_G p e below _ (T134.setTop (mkF m 38 #[.val (.int p0), .val (.int p1), .val (.long q2), .second, .val (.int (3 : Int32)), .val (.ref b125)] []))
    refine own_via (fun t k => XS.aload X134.here hx rfl (hb hby at_38) rfl rfl k) ?_
    show own_G p e below _ (T134.setTop (mkF m 40 #[.val (.int p0), .val (.int p1), .val (.long q2), .second, .val (.int (3 : Int32)), .val (.ref b125)] [(.ref b125)]))
    refine own_via (fun t k => XS.iconst X134.here hx rfl (hb hby at_40) k) ?_
    show own_G p e below _ (T134.setTop (mkF m 41 #[.val (.int p0), .val (.int p1), .val (.long q2), .second, .val (.int (3 : Int32)), .val (.ref b125)] [(.int (3 : Int32)), (.ref b125)]))
    refine own_via (fun t k => XS.lloadN X134.here hx rfl (hb hby at_41) rfl k) ?_
    show own_G p e below _ (T134.setTop (mkF m 42 #[.val (.int p0), .val (.int p1), .val (.long q2), .second, .val (.int (3 : Int32)), .val (.ref b125)] [(.long q2), (.int (3 : Int32)), (.ref b125)]))
    refine own_via (fun t k => XS.bipush X134.here hx rfl (hb hby at_42) k) ?_
    show own_G p e below _ (T134.setTop (mkF m 44 #[.val (.int p0), .val (.int p1), .val (.long q2), .second, .val (.int (3 : Int32)), .val (.ref b125)] [(.int (24 : Int32)), (.long q2), (.int (3 : Int32)), (.ref b125)]))
    refine own_via (fun t k => XS.lushr X134.here hx rfl (hb hby at_44) rfl k) ?_
    show own_G p e below _ (T134.setTop (mkF m 45 #[.val (.int p0), .val (.int p1), .val (.long q2), .second, .val (.int (3 : Int32)), .val (.ref b125)] [(.long ((q2.toUInt64 >>> ((24 : Int32) &&& 0x3f).toInt64.toUInt64).toInt64)), (.int (3 : Int32)), (.ref b125)]))
    refine own_via (fun t k => XS.l2i X134.here hx rfl (hb hby at_45) rfl k) ?_
    show own_G p e below _ (T134.setTop (mkF m 46 #[.val (.int p0), .val (.int p1), .val (.long q2), .second, .val (.int (3 : Int32)), .val (.ref b125)] [(.int (((q2.toUInt64 >>> ((24 : Int32) &&& 0x3f).toInt64.toUInt64).toInt64).toInt32)), (.int (3 : Int32)), (.ref b125)]))
    refine own_via (fun t k => XS.i2b X134.here hx rfl (hb hby at_46) rfl k) ?_
    show own_G p e below _ (T134.setTop (mkF m 47 #[.val (.int p0), .val (.int p1), .val (.long q2), .second, .val (.int (3 : Int32)), .val (.ref b125)] [(.int ((((q2.toUInt64 >>> ((24 : Int32) &&& 0x3f).toInt64.toUInt64).toInt64).toInt32).toInt8.toInt32)), (.int (3 : Int32)), (.ref b125)]))
    obtain ⟨T137, h137, L137, X137, N137, e137, W137, V137, st137⟩ := own_stB X134 N134 hx hZ e134 f135 g_b125 (j := (3 : Int32)) (x := ((((q2.toUInt64 >>> ((24 : Int32) &&& 0x3f).toInt64.toUInt64).toInt64).toInt32).toInt8.toInt32)) (i := 3) ⟨by decide, by decide⟩ rfl (Nat.le_of_ble_eq_true rfl) (pc := 47) (Ls := #[.val (.int p0), .val (.int p1), .val (.long q2), .second, .val (.int (3 : Int32)), .val (.ref b125)]) (rest := []) (hb hby at_47)
    refine own_via st137 ?_
    have f138 : Arv Z h137 b125 k125 .byte (8 : Int32) [(.int (((q2.toInt32).toInt8.toInt32).toInt8.toInt32)), (.int (((((q2.toUInt64 >>> ((8 : Int32) &&& 0x3f).toInt64.toUInt64).toInt64).toInt32).toInt8.toInt32).toInt8.toInt32)), (.int (((((q2.toUInt64 >>> ((16 : Int32) &&& 0x3f).toInt64.toUInt64).toInt64).toInt32).toInt8.toInt32).toInt8.toInt32)), (.int (((((q2.toUInt64 >>> ((24 : Int32) &&& 0x3f).toInt64.toUInt64).toInt64).toInt32).toInt8.toInt32).toInt8.toInt32)), (.int (0 : Int32)), (.int (0 : Int32)), (.int (0 : Int32)), (.int (0 : Int32))] (.int (0 : Int32)) := V137
    have Zs139 : n0 ≤ h137.size := by rw [W137.size]; exact Zs136
    show own_G p e below _ (T137.setTop (mkF m 48 #[.val (.int p0), .val (.int p1), .val (.long q2), .second, .val (.int (3 : Int32)), .val (.ref b125)] []))
    refine own_via (fun t k => XS.aload X137.here hx rfl (hb hby at_48) rfl rfl k) ?_
    show own_G p e below _ (T137.setTop (mkF m 50 #[.val (.int p0), .val (.int p1), .val (.long q2), .second, .val (.int (3 : Int32)), .val (.ref b125)] [(.ref b125)]))
    refine own_via (fun t k => XS.iconst X137.here hx rfl (hb hby at_50) k) ?_
    show own_G p e below _ (T137.setTop (mkF m 51 #[.val (.int p0), .val (.int p1), .val (.long q2), .second, .val (.int (3 : Int32)), .val (.ref b125)] [(.int (4 : Int32)), (.ref b125)]))
    refine own_via (fun t k => XS.lloadN X137.here hx rfl (hb hby at_51) rfl k) ?_
    show own_G p e below _ (T137.setTop (mkF m 52 #[.val (.int p0), .val (.int p1), .val (.long q2), .second, .val (.int (3 : Int32)), .val (.ref b125)] [(.long q2), (.int (4 : Int32)), (.ref b125)]))
    refine own_via (fun t k => XS.bipush X137.here hx rfl (hb hby at_52) k) ?_
    show own_G p e below _ (T137.setTop (mkF m 54 #[.val (.int p0), .val (.int p1), .val (.long q2), .second, .val (.int (3 : Int32)), .val (.ref b125)] [(.int (32 : Int32)), (.long q2), (.int (4 : Int32)), (.ref b125)]))
    refine own_via (fun t k => XS.lushr X137.here hx rfl (hb hby at_54) rfl k) ?_
    show own_G p e below _ (T137.setTop (mkF m 55 #[.val (.int p0), .val (.int p1), .val (.long q2), .second, .val (.int (3 : Int32)), .val (.ref b125)] [(.long ((q2.toUInt64 >>> ((32 : Int32) &&& 0x3f).toInt64.toUInt64).toInt64)), (.int (4 : Int32)), (.ref b125)]))
    refine own_via (fun t k => XS.l2i X137.here hx rfl (hb hby at_55) rfl k) ?_
    show own_G p e below _ (T137.setTop (mkF m 56 #[.val (.int p0), .val (.int p1), .val (.long q2), .second, .val (.int (3 : Int32)), .val (.ref b125)] [(.int (((q2.toUInt64 >>> ((32 : Int32) &&& 0x3f).toInt64.toUInt64).toInt64).toInt32)), (.int (4 : Int32)), (.ref b125)]))
    refine own_via (fun t k => XS.i2b X137.here hx rfl (hb hby at_56) rfl k) ?_
    show own_G p e below _ (T137.setTop (mkF m 57 #[.val (.int p0), .val (.int p1), .val (.long q2), .second, .val (.int (3 : Int32)), .val (.ref b125)] [(.int ((((q2.toUInt64 >>> ((32 : Int32) &&& 0x3f).toInt64.toUInt64).toInt64).toInt32).toInt8.toInt32)), (.int (4 : Int32)), (.ref b125)]))
    obtain ⟨T140, h140, L140, X140, N140, e140, W140, V140, st140⟩ := own_stB X137 N137 hx hZ e137 f138 g_b125 (j := (4 : Int32)) (x := ((((q2.toUInt64 >>> ((32 : Int32) &&& 0x3f).toInt64.toUInt64).toInt64).toInt32).toInt8.toInt32)) (i := 4) ⟨by decide, by decide⟩ rfl (Nat.le_of_ble_eq_true rfl) (pc := 57) (Ls := #[.val (.int p0), .val (.int p1), .val (.long q2), .second, .val (.int (3 : Int32)), .val (.ref b125)]) (rest := []) (hb hby at_57)
    refine own_via st140 ?_
    have f141 : Arv Z h140 b125 k125 .byte (8 : Int32) [(.int (((q2.toInt32).toInt8.toInt32).toInt8.toInt32)), (.int (((((q2.toUInt64 >>> ((8 : Int32) &&& 0x3f).toInt64.toUInt64).toInt64).toInt32).toInt8.toInt32).toInt8.toInt32)), (.int (((((q2.toUInt64 >>> ((16 : Int32) &&& 0x3f).toInt64.toUInt64).toInt64).toInt32).toInt8.toInt32).toInt8.toInt32)), (.int (((((q2.toUInt64 >>> ((24 : Int32) &&& 0x3f).toInt64.toUInt64).toInt64).toInt32).toInt8.toInt32).toInt8.toInt32)), (.int (((((q2.toUInt64 >>> ((32 : Int32) &&& 0x3f).toInt64.toUInt64).toInt64).toInt32).toInt8.toInt32).toInt8.toInt32)), (.int (0 : Int32)), (.int (0 : Int32)), (.int (0 : Int32))] (.int (0 : Int32)) := V140
    have Zs142 : n0 ≤ h140.size := by rw [W140.size]; exact Zs139
    show own_G p e below _ (T140.setTop (mkF m 58 #[.val (.int p0), .val (.int p1), .val (.long q2), .second, .val (.int (3 : Int32)), .val (.ref b125)] []))
    refine own_via (fun t k => XS.aload X140.here hx rfl (hb hby at_58) rfl rfl k) ?_
    show own_G p e below _ (T140.setTop (mkF m 60 #[.val (.int p0), .val (.int p1), .val (.long q2), .second, .val (.int (3 : Int32)), .val (.ref b125)] [(.ref b125)]))
    refine own_via (fun t k => XS.iconst X140.here hx rfl (hb hby at_60) k) ?_
    show own_G p e below _ (T140.setTop (mkF m 61 #[.val (.int p0), .val (.int p1), .val (.long q2), .second, .val (.int (3 : Int32)), .val (.ref b125)] [(.int (5 : Int32)), (.ref b125)]))
    refine own_via (fun t k => XS.lloadN X140.here hx rfl (hb hby at_61) rfl k) ?_
    show own_G p e below _ (T140.setTop (mkF m 62 #[.val (.int p0), .val (.int p1), .val (.long q2), .second, .val (.int (3 : Int32)), .val (.ref b125)] [(.long q2), (.int (5 : Int32)), (.ref b125)]))
    refine own_via (fun t k => XS.bipush X140.here hx rfl (hb hby at_62) k) ?_
    show own_G p e below _ (T140.setTop (mkF m 64 #[.val (.int p0), .val (.int p1), .val (.long q2), .second, .val (.int (3 : Int32)), .val (.ref b125)] [(.int (40 : Int32)), (.long q2), (.int (5 : Int32)), (.ref b125)]))
    refine own_via (fun t k => XS.lushr X140.here hx rfl (hb hby at_64) rfl k) ?_
    show own_G p e below _ (T140.setTop (mkF m 65 #[.val (.int p0), .val (.int p1), .val (.long q2), .second, .val (.int (3 : Int32)), .val (.ref b125)] [(.long ((q2.toUInt64 >>> ((40 : Int32) &&& 0x3f).toInt64.toUInt64).toInt64)), (.int (5 : Int32)), (.ref b125)]))
    refine own_via (fun t k => XS.l2i X140.here hx rfl (hb hby at_65) rfl k) ?_
    show own_G p e below _ (T140.setTop (mkF m 66 #[.val (.int p0), .val (.int p1), .val (.long q2), .second, .val (.int (3 : Int32)), .val (.ref b125)] [(.int (((q2.toUInt64 >>> ((40 : Int32) &&& 0x3f).toInt64.toUInt64).toInt64).toInt32)), (.int (5 : Int32)), (.ref b125)]))
    refine own_via (fun t k => XS.i2b X140.here hx rfl (hb hby at_66) rfl k) ?_
    show own_G p e below _ (T140.setTop (mkF m 67 #[.val (.int p0), .val (.int p1), .val (.long q2), .second, .val (.int (3 : Int32)), .val (.ref b125)] [(.int ((((q2.toUInt64 >>> ((40 : Int32) &&& 0x3f).toInt64.toUInt64).toInt64).toInt32).toInt8.toInt32)), (.int (5 : Int32)), (.ref b125)]))
    obtain ⟨T143, h143, L143, X143, N143, e143, W143, V143, st143⟩ := own_stB X140 N140 hx hZ e140 f141 g_b125 (j := (5 : Int32)) (x := ((((q2.toUInt64 >>> ((40 : Int32) &&& 0x3f).toInt64.toUInt64).toInt64).toInt32).toInt8.toInt32)) (i := 5) ⟨by decide, by decide⟩ rfl (Nat.le_of_ble_eq_true rfl) (pc := 67) (Ls := #[.val (.int p0), .val (.int p1), .val (.long q2), .second, .val (.int (3 : Int32)), .val (.ref b125)]) (rest := []) (hb hby at_67)
    refine own_via st143 ?_
    have f144 : Arv Z h143 b125 k125 .byte (8 : Int32) [(.int (((q2.toInt32).toInt8.toInt32).toInt8.toInt32)), (.int (((((q2.toUInt64 >>> ((8 : Int32) &&& 0x3f).toInt64.toUInt64).toInt64).toInt32).toInt8.toInt32).toInt8.toInt32)), (.int (((((q2.toUInt64 >>> ((16 : Int32) &&& 0x3f).toInt64.toUInt64).toInt64).toInt32).toInt8.toInt32).toInt8.toInt32)), (.int (((((q2.toUInt64 >>> ((24 : Int32) &&& 0x3f).toInt64.toUInt64).toInt64).toInt32).toInt8.toInt32).toInt8.toInt32)), (.int (((((q2.toUInt64 >>> ((32 : Int32) &&& 0x3f).toInt64.toUInt64).toInt64).toInt32).toInt8.toInt32).toInt8.toInt32)), (.int (((((q2.toUInt64 >>> ((40 : Int32) &&& 0x3f).toInt64.toUInt64).toInt64).toInt32).toInt8.toInt32).toInt8.toInt32)), (.int (0 : Int32)), (.int (0 : Int32))] (.int (0 : Int32)) := V143
    have Zs145 : n0 ≤ h143.size := by rw [W143.size]; exact Zs142
    show own_G p e below _ (T143.setTop (mkF m 68 #[.val (.int p0), .val (.int p1), .val (.long q2), .second, .val (.int (3 : Int32)), .val (.ref b125)] []))
    refine own_via (fun t k => XS.aload X143.here hx rfl (hb hby at_68) rfl rfl k) ?_
    show own_G p e below _ (T143.setTop (mkF m 70 #[.val (.int p0), .val (.int p1), .val (.long q2), .second, .val (.int (3 : Int32)), .val (.ref b125)] [(.ref b125)]))
    refine own_via (fun t k => XS.bipush X143.here hx rfl (hb hby at_70) k) ?_
    show own_G p e below _ (T143.setTop (mkF m 72 #[.val (.int p0), .val (.int p1), .val (.long q2), .second, .val (.int (3 : Int32)), .val (.ref b125)] [(.int (6 : Int32)), (.ref b125)]))
    refine own_via (fun t k => XS.lloadN X143.here hx rfl (hb hby at_72) rfl k) ?_
    show own_G p e below _ (T143.setTop (mkF m 73 #[.val (.int p0), .val (.int p1), .val (.long q2), .second, .val (.int (3 : Int32)), .val (.ref b125)] [(.long q2), (.int (6 : Int32)), (.ref b125)]))
    refine own_via (fun t k => XS.bipush X143.here hx rfl (hb hby at_73) k) ?_
    show own_G p e below _ (T143.setTop (mkF m 75 #[.val (.int p0), .val (.int p1), .val (.long q2), .second, .val (.int (3 : Int32)), .val (.ref b125)] [(.int (48 : Int32)), (.long q2), (.int (6 : Int32)), (.ref b125)]))
    refine own_via (fun t k => XS.lushr X143.here hx rfl (hb hby at_75) rfl k) ?_
    show own_G p e below _ (T143.setTop (mkF m 76 #[.val (.int p0), .val (.int p1), .val (.long q2), .second, .val (.int (3 : Int32)), .val (.ref b125)] [(.long ((q2.toUInt64 >>> ((48 : Int32) &&& 0x3f).toInt64.toUInt64).toInt64)), (.int (6 : Int32)), (.ref b125)]))
    refine own_via (fun t k => XS.l2i X143.here hx rfl (hb hby at_76) rfl k) ?_
    show own_G p e below _ (T143.setTop (mkF m 77 #[.val (.int p0), .val (.int p1), .val (.long q2), .second, .val (.int (3 : Int32)), .val (.ref b125)] [(.int (((q2.toUInt64 >>> ((48 : Int32) &&& 0x3f).toInt64.toUInt64).toInt64).toInt32)), (.int (6 : Int32)), (.ref b125)]))
    refine own_via (fun t k => XS.i2b X143.here hx rfl (hb hby at_77) rfl k) ?_
    show own_G p e below _ (T143.setTop (mkF m 78 #[.val (.int p0), .val (.int p1), .val (.long q2), .second, .val (.int (3 : Int32)), .val (.ref b125)] [(.int ((((q2.toUInt64 >>> ((48 : Int32) &&& 0x3f).toInt64.toUInt64).toInt64).toInt32).toInt8.toInt32)), (.int (6 : Int32)), (.ref b125)]))
    obtain ⟨T146, h146, L146, X146, N146, e146, W146, V146, st146⟩ := own_stB X143 N143 hx hZ e143 f144 g_b125 (j := (6 : Int32)) (x := ((((q2.toUInt64 >>> ((48 : Int32) &&& 0x3f).toInt64.toUInt64).toInt64).toInt32).toInt8.toInt32)) (i := 6) ⟨by decide, by decide⟩ rfl (Nat.le_of_ble_eq_true rfl) (pc := 78) (Ls := #[.val (.int p0), .val (.int p1), .val (.long q2), .second, .val (.int (3 : Int32)), .val (.ref b125)]) (rest := []) (hb hby at_78)
    refine own_via st146 ?_
    have f147 : Arv Z h146 b125 k125 .byte (8 : Int32) [(.int (((q2.toInt32).toInt8.toInt32).toInt8.toInt32)), (.int (((((q2.toUInt64 >>> ((8 : Int32) &&& 0x3f).toInt64.toUInt64).toInt64).toInt32).toInt8.toInt32).toInt8.toInt32)), (.int (((((q2.toUInt64 >>> ((16 : Int32) &&& 0x3f).toInt64.toUInt64).toInt64).toInt32).toInt8.toInt32).toInt8.toInt32)), (.int (((((q2.toUInt64 >>> ((24 : Int32) &&& 0x3f).toInt64.toUInt64).toInt64).toInt32).toInt8.toInt32).toInt8.toInt32)), (.int (((((q2.toUInt64 >>> ((32 : Int32) &&& 0x3f).toInt64.toUInt64).toInt64).toInt32).toInt8.toInt32).toInt8.toInt32)), (.int (((((q2.toUInt64 >>> ((40 : Int32) &&& 0x3f).toInt64.toUInt64).toInt64).toInt32).toInt8.toInt32).toInt8.toInt32)), (.int (((((q2.toUInt64 >>> ((48 : Int32) &&& 0x3f).toInt64.toUInt64).toInt64).toInt32).toInt8.toInt32).toInt8.toInt32)), (.int (0 : Int32))] (.int (0 : Int32)) := V146
    have Zs148 : n0 ≤ h146.size := by rw [W146.size]; exact Zs145
    show own_G p e below _ (T146.setTop (mkF m 79 #[.val (.int p0), .val (.int p1), .val (.long q2), .second, .val (.int (3 : Int32)), .val (.ref b125)] []))
    refine own_via (fun t k => XS.aload X146.here hx rfl (hb hby at_79) rfl rfl k) ?_
    show own_G p e below _ (T146.setTop (mkF m 81 #[.val (.int p0), .val (.int p1), .val (.long q2), .second, .val (.int (3 : Int32)), .val (.ref b125)] [(.ref b125)]))
    refine own_via (fun t k => XS.bipush X146.here hx rfl (hb hby at_81) k) ?_
    show own_G p e below _ (T146.setTop (mkF m 83 #[.val (.int p0), .val (.int p1), .val (.long q2), .second, .val (.int (3 : Int32)), .val (.ref b125)] [(.int (7 : Int32)), (.ref b125)]))
    refine own_via (fun t k => XS.lloadN X146.here hx rfl (hb hby at_83) rfl k) ?_
    show own_G p e below _ (T146.setTop (mkF m 84 #[.val (.int p0), .val (.int p1), .val (.long q2), .second, .val (.int (3 : Int32)), .val (.ref b125)] [(.long q2), (.int (7 : Int32)), (.ref b125)]))
    refine own_via (fun t k => XS.bipush X146.here hx rfl (hb hby at_84) k) ?_
    show own_G p e below _ (T146.setTop (mkF m 86 #[.val (.int p0), .val (.int p1), .val (.long q2), .second, .val (.int (3 : Int32)), .val (.ref b125)] [(.int (56 : Int32)), (.long q2), (.int (7 : Int32)), (.ref b125)]))
    refine own_via (fun t k => XS.lushr X146.here hx rfl (hb hby at_86) rfl k) ?_
    show own_G p e below _ (T146.setTop (mkF m 87 #[.val (.int p0), .val (.int p1), .val (.long q2), .second, .val (.int (3 : Int32)), .val (.ref b125)] [(.long ((q2.toUInt64 >>> ((56 : Int32) &&& 0x3f).toInt64.toUInt64).toInt64)), (.int (7 : Int32)), (.ref b125)]))
    refine own_via (fun t k => XS.l2i X146.here hx rfl (hb hby at_87) rfl k) ?_
    show own_G p e below _ (T146.setTop (mkF m 88 #[.val (.int p0), .val (.int p1), .val (.long q2), .second, .val (.int (3 : Int32)), .val (.ref b125)] [(.int (((q2.toUInt64 >>> ((56 : Int32) &&& 0x3f).toInt64.toUInt64).toInt64).toInt32)), (.int (7 : Int32)), (.ref b125)]))
    refine own_via (fun t k => XS.i2b X146.here hx rfl (hb hby at_88) rfl k) ?_
    show own_G p e below _ (T146.setTop (mkF m 89 #[.val (.int p0), .val (.int p1), .val (.long q2), .second, .val (.int (3 : Int32)), .val (.ref b125)] [(.int ((((q2.toUInt64 >>> ((56 : Int32) &&& 0x3f).toInt64.toUInt64).toInt64).toInt32).toInt8.toInt32)), (.int (7 : Int32)), (.ref b125)]))
    obtain ⟨T149, h149, L149, X149, N149, e149, W149, V149, st149⟩ := own_stB X146 N146 hx hZ e146 f147 g_b125 (j := (7 : Int32)) (x := ((((q2.toUInt64 >>> ((56 : Int32) &&& 0x3f).toInt64.toUInt64).toInt64).toInt32).toInt8.toInt32)) (i := 7) ⟨by decide, by decide⟩ rfl (Nat.le_of_ble_eq_true rfl) (pc := 89) (Ls := #[.val (.int p0), .val (.int p1), .val (.long q2), .second, .val (.int (3 : Int32)), .val (.ref b125)]) (rest := []) (hb hby at_89)
    refine own_via st149 ?_
    have f150 : Arv Z h149 b125 k125 .byte (8 : Int32) [(.int (((q2.toInt32).toInt8.toInt32).toInt8.toInt32)), (.int (((((q2.toUInt64 >>> ((8 : Int32) &&& 0x3f).toInt64.toUInt64).toInt64).toInt32).toInt8.toInt32).toInt8.toInt32)), (.int (((((q2.toUInt64 >>> ((16 : Int32) &&& 0x3f).toInt64.toUInt64).toInt64).toInt32).toInt8.toInt32).toInt8.toInt32)), (.int (((((q2.toUInt64 >>> ((24 : Int32) &&& 0x3f).toInt64.toUInt64).toInt64).toInt32).toInt8.toInt32).toInt8.toInt32)), (.int (((((q2.toUInt64 >>> ((32 : Int32) &&& 0x3f).toInt64.toUInt64).toInt64).toInt32).toInt8.toInt32).toInt8.toInt32)), (.int (((((q2.toUInt64 >>> ((40 : Int32) &&& 0x3f).toInt64.toUInt64).toInt64).toInt32).toInt8.toInt32).toInt8.toInt32)), (.int (((((q2.toUInt64 >>> ((48 : Int32) &&& 0x3f).toInt64.toUInt64).toInt64).toInt32).toInt8.toInt32).toInt8.toInt32)), (.int (((((q2.toUInt64 >>> ((56 : Int32) &&& 0x3f).toInt64.toUInt64).toInt64).toInt32).toInt8.toInt32).toInt8.toInt32))] (.int (0 : Int32)) := V149
    have Zs151 : n0 ≤ h149.size := by rw [W149.size]; exact Zs148
    show own_G p e below _ (T149.setTop (mkF m 90 #[.val (.int p0), .val (.int p1), .val (.long q2), .second, .val (.int (3 : Int32)), .val (.ref b125)] []))
    refine own_via (fun t k => XS.aload X149.here hx rfl (hb hby at_90) rfl rfl k) ?_
    show own_G p e below _ (T149.setTop (mkF m 92 #[.val (.int p0), .val (.int p1), .val (.long q2), .second, .val (.int (3 : Int32)), .val (.ref b125)] [(.ref b125)]))
    refine own_via (fun t k => XS.iload X149.here hx rfl (hb hby at_92) rfl k) ?_
    show own_G p e below _ (T149.setTop (mkF m 94 #[.val (.int p0), .val (.int p1), .val (.long q2), .second, .val (.int (3 : Int32)), .val (.ref b125)] [(.int (3 : Int32)), (.ref b125)]))
    refine own_via (fun t k => XS.iloadN X149.here hx rfl (hb hby at_94) rfl k) ?_
    show own_G p e below _ (T149.setTop (mkF m 95 #[.val (.int p0), .val (.int p1), .val (.long q2), .second, .val (.int (3 : Int32)), .val (.ref b125)] [(.int p0), (.int (3 : Int32)), (.ref b125)]))
    refine own_via (fun t k => XS.i2b X149.here hx rfl (hb hby at_95) rfl k) ?_
    show own_G p e below _ (T149.setTop (mkF m 96 #[.val (.int p0), .val (.int p1), .val (.long q2), .second, .val (.int (3 : Int32)), .val (.ref b125)] [(.int (p0.toInt8.toInt32)), (.int (3 : Int32)), (.ref b125)]))
    obtain ⟨T152, h152, L152, X152, N152, e152, W152, V152, st152⟩ := own_stB X149 N149 hx hZ e149 f150 g_b125 (j := (3 : Int32)) (x := (p0.toInt8.toInt32)) (i := 3) ⟨by decide, by decide⟩ rfl (Nat.le_of_ble_eq_true rfl) (pc := 96) (Ls := #[.val (.int p0), .val (.int p1), .val (.long q2), .second, .val (.int (3 : Int32)), .val (.ref b125)]) (rest := []) (hb hby at_96)
    refine own_via st152 ?_
    have f153 : Arv Z h152 b125 k125 .byte (8 : Int32) [(.int (((q2.toInt32).toInt8.toInt32).toInt8.toInt32)), (.int (((((q2.toUInt64 >>> ((8 : Int32) &&& 0x3f).toInt64.toUInt64).toInt64).toInt32).toInt8.toInt32).toInt8.toInt32)), (.int (((((q2.toUInt64 >>> ((16 : Int32) &&& 0x3f).toInt64.toUInt64).toInt64).toInt32).toInt8.toInt32).toInt8.toInt32)), (.int ((p0.toInt8.toInt32).toInt8.toInt32)), (.int (((((q2.toUInt64 >>> ((32 : Int32) &&& 0x3f).toInt64.toUInt64).toInt64).toInt32).toInt8.toInt32).toInt8.toInt32)), (.int (((((q2.toUInt64 >>> ((40 : Int32) &&& 0x3f).toInt64.toUInt64).toInt64).toInt32).toInt8.toInt32).toInt8.toInt32)), (.int (((((q2.toUInt64 >>> ((48 : Int32) &&& 0x3f).toInt64.toUInt64).toInt64).toInt32).toInt8.toInt32).toInt8.toInt32)), (.int (((((q2.toUInt64 >>> ((56 : Int32) &&& 0x3f).toInt64.toUInt64).toInt64).toInt32).toInt8.toInt32).toInt8.toInt32))] (.int (0 : Int32)) := V152
    have Zs154 : n0 ≤ h152.size := by rw [W152.size]; exact Zs151
    show own_G p e below _ (T152.setTop (mkF m 97 #[.val (.int p0), .val (.int p1), .val (.long q2), .second, .val (.int (3 : Int32)), .val (.ref b125)] []))
    refine own_via (fun t k => XS.aload X152.here hx rfl (hb hby at_97) rfl rfl k) ?_
    show own_G p e below _ (T152.setTop (mkF m 99 #[.val (.int p0), .val (.int p1), .val (.long q2), .second, .val (.int (3 : Int32)), .val (.ref b125)] [(.ref b125)]))
    refine own_via (fun t k => XS.iload X152.here hx rfl (hb hby at_99) rfl k) ?_
    show own_G p e below _ (T152.setTop (mkF m 101 #[.val (.int p0), .val (.int p1), .val (.long q2), .second, .val (.int (3 : Int32)), .val (.ref b125)] [(.int (3 : Int32)), (.ref b125)]))
    refine own_via (fun t k => XS.iconst X152.here hx rfl (hb hby at_101) k) ?_
    show own_G p e below _ (T152.setTop (mkF m 102 #[.val (.int p0), .val (.int p1), .val (.long q2), .second, .val (.int (3 : Int32)), .val (.ref b125)] [(.int (1 : Int32)), (.int (3 : Int32)), (.ref b125)]))
    refine own_via (fun t k => XS.iadd X152.here hx rfl (hb hby at_102) rfl k) ?_
    show own_G p e below _ (T152.setTop (mkF m 103 #[.val (.int p0), .val (.int p1), .val (.long q2), .second, .val (.int (3 : Int32)), .val (.ref b125)] [(.int (4 : Int32)), (.ref b125)]))
    refine own_via (fun t k => XS.iloadN X152.here hx rfl (hb hby at_103) rfl k) ?_
    show own_G p e below _ (T152.setTop (mkF m 104 #[.val (.int p0), .val (.int p1), .val (.long q2), .second, .val (.int (3 : Int32)), .val (.ref b125)] [(.int p0), (.int (4 : Int32)), (.ref b125)]))
    refine own_via (fun t k => XS.bipush X152.here hx rfl (hb hby at_104) k) ?_
    show own_G p e below _ (T152.setTop (mkF m 106 #[.val (.int p0), .val (.int p1), .val (.long q2), .second, .val (.int (3 : Int32)), .val (.ref b125)] [(.int (8 : Int32)), (.int p0), (.int (4 : Int32)), (.ref b125)]))
    refine own_via (fun t k => XS.iushr X152.here hx rfl (hb hby at_106) rfl k) ?_
    show own_G p e below _ (T152.setTop (mkF m 107 #[.val (.int p0), .val (.int p1), .val (.long q2), .second, .val (.int (3 : Int32)), .val (.ref b125)] [(.int ((p0.toUInt32 >>> ((8 : Int32) &&& 31).toUInt32).toInt32)), (.int (4 : Int32)), (.ref b125)]))
    refine own_via (fun t k => XS.i2b X152.here hx rfl (hb hby at_107) rfl k) ?_
    show own_G p e below _ (T152.setTop (mkF m 108 #[.val (.int p0), .val (.int p1), .val (.long q2), .second, .val (.int (3 : Int32)), .val (.ref b125)] [(.int (((p0.toUInt32 >>> ((8 : Int32) &&& 31).toUInt32).toInt32).toInt8.toInt32)), (.int (4 : Int32)), (.ref b125)]))
    obtain ⟨T155, h155, L155, X155, N155, e155, W155, V155, st155⟩ := own_stB X152 N152 hx hZ e152 f153 g_b125 (j := (4 : Int32)) (x := (((p0.toUInt32 >>> ((8 : Int32) &&& 31).toUInt32).toInt32).toInt8.toInt32)) (i := 4) ⟨by decide, by decide⟩ rfl (Nat.le_of_ble_eq_true rfl) (pc := 108) (Ls := #[.val (.int p0), .val (.int p1), .val (.long q2), .second, .val (.int (3 : Int32)), .val (.ref b125)]) (rest := []) (hb hby at_108)
    refine own_via st155 ?_
    have f156 : Arv Z h155 b125 k125 .byte (8 : Int32) [(.int (((q2.toInt32).toInt8.toInt32).toInt8.toInt32)), (.int (((((q2.toUInt64 >>> ((8 : Int32) &&& 0x3f).toInt64.toUInt64).toInt64).toInt32).toInt8.toInt32).toInt8.toInt32)), (.int (((((q2.toUInt64 >>> ((16 : Int32) &&& 0x3f).toInt64.toUInt64).toInt64).toInt32).toInt8.toInt32).toInt8.toInt32)), (.int ((p0.toInt8.toInt32).toInt8.toInt32)), (.int ((((p0.toUInt32 >>> ((8 : Int32) &&& 31).toUInt32).toInt32).toInt8.toInt32).toInt8.toInt32)), (.int (((((q2.toUInt64 >>> ((40 : Int32) &&& 0x3f).toInt64.toUInt64).toInt64).toInt32).toInt8.toInt32).toInt8.toInt32)), (.int (((((q2.toUInt64 >>> ((48 : Int32) &&& 0x3f).toInt64.toUInt64).toInt64).toInt32).toInt8.toInt32).toInt8.toInt32)), (.int (((((q2.toUInt64 >>> ((56 : Int32) &&& 0x3f).toInt64.toUInt64).toInt64).toInt32).toInt8.toInt32).toInt8.toInt32))] (.int (0 : Int32)) := V155
    have Zs157 : n0 ≤ h155.size := by rw [W155.size]; exact Zs154
    show own_G p e below _ (T155.setTop (mkF m 109 #[.val (.int p0), .val (.int p1), .val (.long q2), .second, .val (.int (3 : Int32)), .val (.ref b125)] []))
    refine own_via (fun t k => XS.aload X155.here hx rfl (hb hby at_109) rfl rfl k) ?_
    show own_G p e below _ (T155.setTop (mkF m 111 #[.val (.int p0), .val (.int p1), .val (.long q2), .second, .val (.int (3 : Int32)), .val (.ref b125)] [(.ref b125)]))
    refine own_via (fun t k => XS.iload X155.here hx rfl (hb hby at_111) rfl k) ?_
    show own_G p e below _ (T155.setTop (mkF m 113 #[.val (.int p0), .val (.int p1), .val (.long q2), .second, .val (.int (3 : Int32)), .val (.ref b125)] [(.int (3 : Int32)), (.ref b125)]))
    refine own_via (fun t k => XS.iconst X155.here hx rfl (hb hby at_113) k) ?_
    show own_G p e below _ (T155.setTop (mkF m 114 #[.val (.int p0), .val (.int p1), .val (.long q2), .second, .val (.int (3 : Int32)), .val (.ref b125)] [(.int (2 : Int32)), (.int (3 : Int32)), (.ref b125)]))
    refine own_via (fun t k => XS.iadd X155.here hx rfl (hb hby at_114) rfl k) ?_
    show own_G p e below _ (T155.setTop (mkF m 115 #[.val (.int p0), .val (.int p1), .val (.long q2), .second, .val (.int (3 : Int32)), .val (.ref b125)] [(.int (5 : Int32)), (.ref b125)]))
    refine own_via (fun t k => XS.iloadN X155.here hx rfl (hb hby at_115) rfl k) ?_
    show own_G p e below _ (T155.setTop (mkF m 116 #[.val (.int p0), .val (.int p1), .val (.long q2), .second, .val (.int (3 : Int32)), .val (.ref b125)] [(.int p0), (.int (5 : Int32)), (.ref b125)]))
    refine own_via (fun t k => XS.bipush X155.here hx rfl (hb hby at_116) k) ?_
    show own_G p e below _ (T155.setTop (mkF m 118 #[.val (.int p0), .val (.int p1), .val (.long q2), .second, .val (.int (3 : Int32)), .val (.ref b125)] [(.int (16 : Int32)), (.int p0), (.int (5 : Int32)), (.ref b125)]))
    refine own_via (fun t k => XS.iushr X155.here hx rfl (hb hby at_118) rfl k) ?_
    show own_G p e below _ (T155.setTop (mkF m 119 #[.val (.int p0), .val (.int p1), .val (.long q2), .second, .val (.int (3 : Int32)), .val (.ref b125)] [(.int ((p0.toUInt32 >>> ((16 : Int32) &&& 31).toUInt32).toInt32)), (.int (5 : Int32)), (.ref b125)]))
    refine own_via (fun t k => XS.i2b X155.here hx rfl (hb hby at_119) rfl k) ?_
    show own_G p e below _ (T155.setTop (mkF m 120 #[.val (.int p0), .val (.int p1), .val (.long q2), .second, .val (.int (3 : Int32)), .val (.ref b125)] [(.int (((p0.toUInt32 >>> ((16 : Int32) &&& 31).toUInt32).toInt32).toInt8.toInt32)), (.int (5 : Int32)), (.ref b125)]))
    obtain ⟨T158, h158, L158, X158, N158, e158, W158, V158, st158⟩ := own_stB X155 N155 hx hZ e155 f156 g_b125 (j := (5 : Int32)) (x := (((p0.toUInt32 >>> ((16 : Int32) &&& 31).toUInt32).toInt32).toInt8.toInt32)) (i := 5) ⟨by decide, by decide⟩ rfl (Nat.le_of_ble_eq_true rfl) (pc := 120) (Ls := #[.val (.int p0), .val (.int p1), .val (.long q2), .second, .val (.int (3 : Int32)), .val (.ref b125)]) (rest := []) (hb hby at_120)
    refine own_via st158 ?_
    have f159 : Arv Z h158 b125 k125 .byte (8 : Int32) [(.int (((q2.toInt32).toInt8.toInt32).toInt8.toInt32)), (.int (((((q2.toUInt64 >>> ((8 : Int32) &&& 0x3f).toInt64.toUInt64).toInt64).toInt32).toInt8.toInt32).toInt8.toInt32)), (.int (((((q2.toUInt64 >>> ((16 : Int32) &&& 0x3f).toInt64.toUInt64).toInt64).toInt32).toInt8.toInt32).toInt8.toInt32)), (.int ((p0.toInt8.toInt32).toInt8.toInt32)), (.int ((((p0.toUInt32 >>> ((8 : Int32) &&& 31).toUInt32).toInt32).toInt8.toInt32).toInt8.toInt32)), (.int ((((p0.toUInt32 >>> ((16 : Int32) &&& 31).toUInt32).toInt32).toInt8.toInt32).toInt8.toInt32)), (.int (((((q2.toUInt64 >>> ((48 : Int32) &&& 0x3f).toInt64.toUInt64).toInt64).toInt32).toInt8.toInt32).toInt8.toInt32)), (.int (((((q2.toUInt64 >>> ((56 : Int32) &&& 0x3f).toInt64.toUInt64).toInt64).toInt32).toInt8.toInt32).toInt8.toInt32))] (.int (0 : Int32)) := V158
    have Zs160 : n0 ≤ h158.size := by rw [W158.size]; exact Zs157
    show own_G p e below _ (T158.setTop (mkF m 121 #[.val (.int p0), .val (.int p1), .val (.long q2), .second, .val (.int (3 : Int32)), .val (.ref b125)] []))
    refine own_via (fun t k => XS.aload X158.here hx rfl (hb hby at_121) rfl rfl k) ?_
    show own_G p e below _ (T158.setTop (mkF m 123 #[.val (.int p0), .val (.int p1), .val (.long q2), .second, .val (.int (3 : Int32)), .val (.ref b125)] [(.ref b125)]))
    refine own_via (fun t k => XS.iload X158.here hx rfl (hb hby at_123) rfl k) ?_
    show own_G p e below _ (T158.setTop (mkF m 125 #[.val (.int p0), .val (.int p1), .val (.long q2), .second, .val (.int (3 : Int32)), .val (.ref b125)] [(.int (3 : Int32)), (.ref b125)]))
    refine own_via (fun t k => XS.iconst X158.here hx rfl (hb hby at_125) k) ?_
    show own_G p e below _ (T158.setTop (mkF m 126 #[.val (.int p0), .val (.int p1), .val (.long q2), .second, .val (.int (3 : Int32)), .val (.ref b125)] [(.int (3 : Int32)), (.int (3 : Int32)), (.ref b125)]))
    refine own_via (fun t k => XS.iadd X158.here hx rfl (hb hby at_126) rfl k) ?_
    show own_G p e below _ (T158.setTop (mkF m 127 #[.val (.int p0), .val (.int p1), .val (.long q2), .second, .val (.int (3 : Int32)), .val (.ref b125)] [(.int (6 : Int32)), (.ref b125)]))
    refine own_via (fun t k => XS.iloadN X158.here hx rfl (hb hby at_127) rfl k) ?_
    show own_G p e below _ (T158.setTop (mkF m 128 #[.val (.int p0), .val (.int p1), .val (.long q2), .second, .val (.int (3 : Int32)), .val (.ref b125)] [(.int p0), (.int (6 : Int32)), (.ref b125)]))
    refine own_via (fun t k => XS.bipush X158.here hx rfl (hb hby at_128) k) ?_
    show own_G p e below _ (T158.setTop (mkF m 130 #[.val (.int p0), .val (.int p1), .val (.long q2), .second, .val (.int (3 : Int32)), .val (.ref b125)] [(.int (24 : Int32)), (.int p0), (.int (6 : Int32)), (.ref b125)]))
    refine own_via (fun t k => XS.iushr X158.here hx rfl (hb hby at_130) rfl k) ?_
    show own_G p e below _ (T158.setTop (mkF m 131 #[.val (.int p0), .val (.int p1), .val (.long q2), .second, .val (.int (3 : Int32)), .val (.ref b125)] [(.int ((p0.toUInt32 >>> ((24 : Int32) &&& 31).toUInt32).toInt32)), (.int (6 : Int32)), (.ref b125)]))
    refine own_via (fun t k => XS.i2b X158.here hx rfl (hb hby at_131) rfl k) ?_
    show own_G p e below _ (T158.setTop (mkF m 132 #[.val (.int p0), .val (.int p1), .val (.long q2), .second, .val (.int (3 : Int32)), .val (.ref b125)] [(.int (((p0.toUInt32 >>> ((24 : Int32) &&& 31).toUInt32).toInt32).toInt8.toInt32)), (.int (6 : Int32)), (.ref b125)]))
    obtain ⟨T161, h161, L161, X161, N161, e161, W161, V161, st161⟩ := own_stB X158 N158 hx hZ e158 f159 g_b125 (j := (6 : Int32)) (x := (((p0.toUInt32 >>> ((24 : Int32) &&& 31).toUInt32).toInt32).toInt8.toInt32)) (i := 6) ⟨by decide, by decide⟩ rfl (Nat.le_of_ble_eq_true rfl) (pc := 132) (Ls := #[.val (.int p0), .val (.int p1), .val (.long q2), .second, .val (.int (3 : Int32)), .val (.ref b125)]) (rest := []) (hb hby at_132)
    refine own_via st161 ?_
    have f162 : Arv Z h161 b125 k125 .byte (8 : Int32) [(.int (((q2.toInt32).toInt8.toInt32).toInt8.toInt32)), (.int (((((q2.toUInt64 >>> ((8 : Int32) &&& 0x3f).toInt64.toUInt64).toInt64).toInt32).toInt8.toInt32).toInt8.toInt32)), (.int (((((q2.toUInt64 >>> ((16 : Int32) &&& 0x3f).toInt64.toUInt64).toInt64).toInt32).toInt8.toInt32).toInt8.toInt32)), (.int ((p0.toInt8.toInt32).toInt8.toInt32)), (.int ((((p0.toUInt32 >>> ((8 : Int32) &&& 31).toUInt32).toInt32).toInt8.toInt32).toInt8.toInt32)), (.int ((((p0.toUInt32 >>> ((16 : Int32) &&& 31).toUInt32).toInt32).toInt8.toInt32).toInt8.toInt32)), (.int ((((p0.toUInt32 >>> ((24 : Int32) &&& 31).toUInt32).toInt32).toInt8.toInt32).toInt8.toInt32)), (.int (((((q2.toUInt64 >>> ((56 : Int32) &&& 0x3f).toInt64.toUInt64).toInt64).toInt32).toInt8.toInt32).toInt8.toInt32))] (.int (0 : Int32)) := V161
    have Zs163 : n0 ≤ h161.size := by rw [W161.size]; exact Zs160
    show own_G p e below _ (T161.setTop (mkF m 133 #[.val (.int p0), .val (.int p1), .val (.long q2), .second, .val (.int (3 : Int32)), .val (.ref b125)] []))
    refine own_via (fun t k => XS.aload X161.here hx rfl (hb hby at_133) rfl rfl k) ?_
    show own_G p e below _ (T161.setTop (mkF m 135 #[.val (.int p0), .val (.int p1), .val (.long q2), .second, .val (.int (3 : Int32)), .val (.ref b125)] [(.ref b125)]))
    refine own_via (fun t k => XS.iload X161.here hx rfl (hb hby at_135) rfl k) ?_
    show own_G p e below _ (T161.setTop (mkF m 137 #[.val (.int p0), .val (.int p1), .val (.long q2), .second, .val (.int (3 : Int32)), .val (.ref b125)] [(.int (3 : Int32)), (.ref b125)]))
    obtain ⟨T164, X164, e164, st164⟩ := own_callP (y := (⟨"com/example/bowerbird/bowerbird/BsonTree", "int32", "([BI)I"⟩ : MethodName)) (W := 0) X161 hx hZ hown (hw _ (List.mem_of_getElem? (i := 1) rfl)) (hw _ (List.mem_of_getElem? (i := 2) rfl)) (hw _ (List.mem_of_getElem? (i := 3) rfl)) (hw _ (List.mem_of_getElem? (i := 4) rfl)) (by decide) (own_int32_3 l Z a0 hw [] b125 k125 (((q2.toInt32).toInt8.toInt32).toInt8.toInt32) (((((q2.toUInt64 >>> ((8 : Int32) &&& 0x3f).toInt64.toUInt64).toInt64).toInt32).toInt8.toInt32).toInt8.toInt32) (((((q2.toUInt64 >>> ((16 : Int32) &&& 0x3f).toInt64.toUInt64).toInt64).toInt32).toInt8.toInt32).toInt8.toInt32) ((p0.toInt8.toInt32).toInt8.toInt32) ((((p0.toUInt32 >>> ((8 : Int32) &&& 31).toUInt32).toInt32).toInt8.toInt32).toInt8.toInt32) ((((p0.toUInt32 >>> ((16 : Int32) &&& 31).toUInt32).toInt32).toInt8.toInt32).toInt8.toInt32) ((((p0.toUInt32 >>> ((24 : Int32) &&& 31).toUInt32).toInt32).toInt8.toInt32).toInt8.toInt32) (((((q2.toUInt64 >>> ((56 : Int32) &&& 0x3f).toInt64.toUInt64).toInt64).toInt32).toInt8.toInt32).toInt8.toInt32) h161 f162) (by decide) (by decide) rfl rfl (by decide) (by decide) e161 (pc := 137) (Ls := #[.val (.int p0), .val (.int p1), .val (.long q2), .second, .val (.int (3 : Int32)), .val (.ref b125)]) (st := [(.int (3 : Int32)), (.ref b125)]) (argsL := [(.ref b125), (.int (3 : Int32))]) (rest := []) (by rw [hml]; rfl) (lenOf own_pd0 rfl) rfl rfl (Nat.le_of_eq rfl) (hb hby at_137)
    refine own_via st164 ?_
    show own_G p e below _ (T164.setTop (mkF m 140 #[.val (.int p0), .val (.int p1), .val (.long q2), .second, .val (.int (3 : Int32)), .val (.ref b125)] [(.int (own_le ((p0.toInt8.toInt32).toInt8.toInt32) ((((p0.toUInt32 >>> ((8 : Int32) &&& 31).toUInt32).toInt32).toInt8.toInt32).toInt8.toInt32) ((((p0.toUInt32 >>> ((16 : Int32) &&& 31).toUInt32).toInt32).toInt8.toInt32).toInt8.toInt32) ((((p0.toUInt32 >>> ((24 : Int32) &&& 31).toUInt32).toInt32).toInt8.toInt32).toInt8.toInt32)))]))
    refine own_via (fun t k => XS.iloadN X164.here hx rfl (hb hby at_140) rfl k) ?_
    show own_G p e below _ (T164.setTop (mkF m 141 #[.val (.int p0), .val (.int p1), .val (.long q2), .second, .val (.int (3 : Int32)), .val (.ref b125)] [(.int p0), (.int (own_le ((p0.toInt8.toInt32).toInt8.toInt32) ((((p0.toUInt32 >>> ((8 : Int32) &&& 31).toUInt32).toInt32).toInt8.toInt32).toInt8.toInt32) ((((p0.toUInt32 >>> ((16 : Int32) &&& 31).toUInt32).toInt32).toInt8.toInt32).toInt8.toInt32) ((((p0.toUInt32 >>> ((24 : Int32) &&& 31).toUInt32).toInt32).toInt8.toInt32).toInt8.toInt32)))]))
    refine own_via (fun t k => XS.icmpNo X164.here hx rfl (hb hby at_141) rfl (teq (own_back p0)).2 k) ?_
    show own_G p e below _ (T164.setTop (mkF m 144 #[.val (.int p0), .val (.int p1), .val (.long q2), .second, .val (.int (3 : Int32)), .val (.ref b125)] []))
    refine own_via (fun t k => XS.iconst X164.here hx rfl (hb hby at_144) k) ?_
    show own_G p e below _ (T164.setTop (mkF m 145 #[.val (.int p0), .val (.int p1), .val (.long q2), .second, .val (.int (3 : Int32)), .val (.ref b125)] [(.int (1 : Int32))]))
    refine own_via (fun t k => XS.goto X164.here hx rfl (pc0 := 145) (pc' := 149) rfl (hb hby at_145) (by decide) (by decide) k) ?_
    show own_G p e below _ (T164.setTop (mkF m 149 #[.val (.int p0), .val (.int p1), .val (.long q2), .second, .val (.int (3 : Int32)), .val (.ref b125)] [(.int (1 : Int32))]))
    exact own_retN (t := .boolean) X164 hx Bd.returns (by simp) Bd.notSynchronized (hb hby at_149) ⟨N161, rfl⟩ (by decide) (by decide)
set_option maxRecDepth 65536 in
set_option maxHeartbeats 40000000 in
theorem comes_1 {Post : Tables → Env → Array Value → State → Outcome → State → Prop} (hpost : ∀ tb e args s v u, (limb_1_1.after args s (.returned v) u = true ∧ limb_1_2.after args s (.returned v) u = true) → FrameEnd s (.returned v) u (Jvm.fieldLocs frame_1_writes args s ++ Jvm.arrayLocs frame_1_arrays args s ++ Jvm.staticLocs frame_1_statics s) 16 128 → Post tb e args s (.returned v) u) :
    ArmFor flags0 classFile x code maxLocals ret World_1 tables_1 room_1 Calls_1 rest_1 Pre_1 Post := by
  intro l hfl _ _ p e ha hc hk s m args below hf hA hF happ hP
  obtain ⟨hcalls, hrest, hpre⟩ := hP
  obtain ⟨-, -, -, hnamed, -, -, -, hat⟩ := (Spec.applies_iff hf).mp happ
  obtain ⟨hg, hn⟩ := and_e (Cond.before_iff.mp (show (Jvm.Cond.and given_1 narrow_1).before args s = true from hpre))
  obtain ⟨g1, g2⟩ := and_e hg
  obtain ⟨g3, g4⟩ := and_e g2
  obtain ⟨g5, g6⟩ := and_e g4
  obtain ⟨w0, w1, w2, rfl⟩ : ∃ w0 w1 w2 : Value, args = #[w0, w1, w2] := by
    have hs : args.size = 3 := by simpa [Cond.value, given_1] using g1
    obtain ⟨L⟩ := args
    match L, hs with
    | [w0, w1, w2], _ => exact ⟨w0, w1, w2, rfl⟩
  have hw := fun d (hd : d ∈ tables_1) => atoms_spec (ws := Jvm.Cond.code x code maxLocals ret :: tables_1) hat d (List.mem_cons_of_mem _ hd)
  obtain ⟨i0, ei0⟩ := is_v g3
  obtain rfl : w0 = (.int i0) := Option.some.inj ei0
  obtain ⟨i1, ei1⟩ := is_v g5
  obtain rfl : w1 = (.int i1) := Option.some.inj ei1
  obtain ⟨i2, ei2⟩ := isL_v g6
  obtain rfl : w2 = (.long i2) := Option.some.inj ei2
  obtain ⟨n, o, h1, h2, h3, _, L, rfl, ⟨N, rfl⟩, hq⟩ := own_rm0 l s _ hw tables_1 i0 i1 i2 s.heap s.heap.size (Nat.le_refl _)  p e ha hc hk s m _ below hf ((Spec.applies_iff_loose hf).mp happ).1 ⟨rfl, State.Warmed39.refl s, rfl⟩ trivial
  refine ⟨n, _, h1, h2, h3, hpost _ _ _ _ _ _ ⟨Cond.after_iff.mpr rfl, Cond.after_iff.mpr (eq_i res_at (Term.int_eval (1)) rfl)⟩ ⟨hq.1, hq.2.1, (hq.2.2.sift fun y hy => Or.inr (N y hy)).mono (by decide) (by decide)⟩⟩
theorem main_1_1 : Claimed_1_1 := comes_1 fun _ _ _ _ _ _ h hF => ⟨h.1, hF⟩
theorem main_1_2 : Claimed_1_2 := comes_1 fun _ _ _ _ _ _ h hF => ⟨h.2, hF⟩
end Jvm.Pilot.@@N@@
namespace Jvm.Pilot.@@N@@
open Jvm Jvm.ClassFile Sem Op Lib Jvm.Free Jvm.Stand Jvm.Pilot.@@N@@.Jvm.D
/-! MADE BY PROGRAM (witnessworld.py) out of the Statement's table words and the real class files: 9 classes; the members and pool entries that the words name. The judged class is class 1, her method 1. -/
namespace start1
open Jvm.ClassFile
def u (s : String) : CpInfo := .utf8 (stringToUtf16 s)
/-- a pool by its gaps: so many unusable entries, then the entry; so many at the end -/
def gap : Nat → List CpInfo → List CpInfo
  | 0, r => r
  | n + 1, r => .unusable :: gap n r
def poolList (es : List (Nat × CpInfo)) (last : Nat) : List CpInfo := es.foldr (fun e r => gap e.1 (e.2 :: r)) (gap last [])
def pool (es : List (Nat × CpInfo)) (last : Nat) : Array CpInfo := ⟨poolList es last⟩
def fileOf (pool : Array CpInfo) (this : Nat) (attrs : Array Attribute := #[]) (ms : Array MethodInfo := #[]) (fl : Nat := 33) (sup : Nat := 0) (ifs : Array Nat := #[]) (fds : Array FieldInfo := #[]) : ClassFile where
  minorVersion := 0
  majorVersion := 65
  constantPool := pool
  accessFlags := fl
  thisClass := this
  superClass := sup
  interfaces := ifs
  fields := fds
  methods := ms
  attributes := attrs
def plain (name : String) (sup : Option ClassId) : Class where
  name := name
  kind := .ordinary
  loader := none
  accessFlags := 33
  super := sup
  interfaces := #[]
  cf := none
  fields := #[]
  methods := #[]
  instanceTypes := #[]
  staticTypes := #[]
  resolved := #[]
  callSites := []
  init := .initialized
  statics := none
  mirror := none

def pool0 : Array CpInfo := pool [(5, u "<init>"), (0, u "()V"), (1, .class_ 10), (1, u "java/lang/Object")] 113

def k0m0 : Method := { name := "<init>", desc := "()V", sig := { parameters := [], returnType := none }, accessFlags := 1, code := none }
/-- java/lang/Object -/
def k0 : Class := { plain "java/lang/Object" none with
  accessFlags := 33
  interfaces := #[]
  cf := some (fileOf pool0 8 #[] #[{ accessFlags := 1, nameIndex := 5, descriptorIndex := 6, attributes := #[] }] 33 0 #[] #[])
  fields := #[]
  methods := #[k0m0]
  instanceTypes := #[]
  staticTypes := #[]
  resolved := Array.replicate 124 none
  statics := none }

def pool1 : Array CpInfo := pool [(2, .class_ 4), (1, u "java/lang/Object"), (0, u "<init>"), (0, u "()V"), (0, .methodref 8 9), (0, .class_ 10), (0, .nameAndType 11 12), (0, u "com/example/bowerbird/bowerbird/BsonTree"), (0, u "int32"), (0, u "([BI)I"), (0, .class_ 14), (0, u "com/example/bowerbird/bowerbird/BsonTreeInt32PinLaw"), (2, u "law"), (0, u "(IIJ)Z")] 5

def k1m0 : Method := { name := "<init>", desc := "()V", sig := { parameters := [], returnType := none }, accessFlags := 1, code := none }
def k1c1 : Code := { maxStack := 5, maxLocals := 6, code := code, exceptionTable := #[], attributes := #[] }
def k1m1 : Method := { name := "law", desc := "(IIJ)Z", sig := { parameters := [.int, .int, .long], returnType := some .boolean }, accessFlags := 9, code := some k1c1 }
/-- com/example/bowerbird/bowerbird/BsonTreeInt32PinLaw -/
def k1 : Class := { plain "com/example/bowerbird/bowerbird/BsonTreeInt32PinLaw" (some 0) with
  accessFlags := 49
  interfaces := #[]
  cf := some (fileOf pool1 13 #[] #[{ accessFlags := 1, nameIndex := 5, descriptorIndex := 6, attributes := #[] }, { accessFlags := 9, nameIndex := 17, descriptorIndex := 18, attributes := #[] }] 49 2 #[] #[])
  fields := #[]
  methods := #[k1m0, k1m1]
  instanceTypes := #[]
  staticTypes := #[]
  resolved := Array.replicate 24 none
  statics := none }

def pool2 : Array CpInfo := pool [(2, .class_ 4), (1, u "java/lang/Object"), (3, .class_ 10), (1, u "com/example/bowerbird/bowerbird/BsonTree"), (0, u "bytes"), (0, u "[B"), (2, u "position"), (0, u "I"), (2, u "int32"), (0, u "([BI)I"), (102, u "NULL"), (188, u "Ljava/math/BigInteger;"), (20, u "MAX_DECIMAL128_COEFFICIENT"), (54, u "NOT_BSON"), (0, u "Ljava/lang/String;"), (3, u "MIN_DOCUMENT_LENGTH"), (1, u "MIN_CODE_WITH_SCOPE_LENGTH"), (1, u "OBJECT_ID_LENGTH"), (1, u "OLD_BINARY"), (1, u "DECIMAL128_EXPONENT_BIAS"), (1, u "DOUBLE"), (0, u "B"), (1, u "STRING"), (0, u "DOCUMENT"), (1, u "ARRAY"), (1, u "BINARY"), (0, u "UNDEFINED"), (1, u "OBJECT_ID"), (1, u "BOOLEAN"), (1, u "DATETIME"), (2, u "REGEX"), (1, u "DB_POINTER"), (0, u "CODE"), (1, u "SYMBOL"), (0, u "CODE_WITH_SCOPE"), (1, u "INT32"), (1, u "TIMESTAMP"), (1, u "INT64"), (1, u "DECIMAL128"), (1, u "MAX_KEY"), (1, u "MIN_KEY")] 32

def k2c0 : Code := { maxStack := 4, maxLocals := 2, code := prog_7_method_3_code, exceptionTable := #[], attributes := #[] }
def k2m0 : Method := { name := "int32", desc := "([BI)I", sig := { parameters := [(.array .byte), .int], returnType := some .int }, accessFlags := 8, code := some k2c0 }
/-- com/example/bowerbird/bowerbird/BsonTree -/
def k2 : Class := { plain "com/example/bowerbird/bowerbird/BsonTree" (some 0) with
  accessFlags := 32
  interfaces := #[]
  cf := some (fileOf pool2 8 #[] #[{ accessFlags := 8, nameIndex := 19, descriptorIndex := 20, attributes := #[] }] 32 2 #[] #[{ accessFlags := 26, nameIndex := 388, descriptorIndex := 389, attributes := #[] }, { accessFlags := 26, nameIndex := 393, descriptorIndex := 16, attributes := #[] }, { accessFlags := 26, nameIndex := 395, descriptorIndex := 16, attributes := #[] }, { accessFlags := 26, nameIndex := 397, descriptorIndex := 16, attributes := #[] }, { accessFlags := 26, nameIndex := 399, descriptorIndex := 16, attributes := #[] }, { accessFlags := 26, nameIndex := 333, descriptorIndex := 312, attributes := #[] }, { accessFlags := 26, nameIndex := 401, descriptorIndex := 16, attributes := #[] }, { accessFlags := 26, nameIndex := 403, descriptorIndex := 404, attributes := #[] }, { accessFlags := 26, nameIndex := 406, descriptorIndex := 404, attributes := #[] }, { accessFlags := 26, nameIndex := 407, descriptorIndex := 404, attributes := #[] }, { accessFlags := 26, nameIndex := 409, descriptorIndex := 404, attributes := #[] }, { accessFlags := 26, nameIndex := 411, descriptorIndex := 404, attributes := #[] }, { accessFlags := 26, nameIndex := 412, descriptorIndex := 404, attributes := #[] }, { accessFlags := 26, nameIndex := 414, descriptorIndex := 404, attributes := #[] }, { accessFlags := 26, nameIndex := 416, descriptorIndex := 404, attributes := #[] }, { accessFlags := 26, nameIndex := 418, descriptorIndex := 404, attributes := #[] }, { accessFlags := 26, nameIndex := 123, descriptorIndex := 404, attributes := #[] }, { accessFlags := 26, nameIndex := 421, descriptorIndex := 404, attributes := #[] }, { accessFlags := 26, nameIndex := 423, descriptorIndex := 404, attributes := #[] }, { accessFlags := 26, nameIndex := 424, descriptorIndex := 404, attributes := #[] }, { accessFlags := 26, nameIndex := 426, descriptorIndex := 404, attributes := #[] }, { accessFlags := 26, nameIndex := 427, descriptorIndex := 404, attributes := #[] }, { accessFlags := 26, nameIndex := 429, descriptorIndex := 404, attributes := #[] }, { accessFlags := 26, nameIndex := 431, descriptorIndex := 404, attributes := #[] }, { accessFlags := 26, nameIndex := 433, descriptorIndex := 404, attributes := #[] }, { accessFlags := 26, nameIndex := 435, descriptorIndex := 404, attributes := #[] }, { accessFlags := 26, nameIndex := 437, descriptorIndex := 404, attributes := #[] }, { accessFlags := 26, nameIndex := 439, descriptorIndex := 404, attributes := #[] }, { accessFlags := 18, nameIndex := 11, descriptorIndex := 12, attributes := #[] }, { accessFlags := 2, nameIndex := 15, descriptorIndex := 16, attributes := #[] }])
  fields := #[{ name := "NOT_BSON", type := (.object "java/lang/String"), accessFlags := 26, slot := 0, constantValue := 0 }, { name := "MIN_DOCUMENT_LENGTH", type := .int, accessFlags := 26, slot := 1, constantValue := 0 }, { name := "MIN_CODE_WITH_SCOPE_LENGTH", type := .int, accessFlags := 26, slot := 2, constantValue := 0 }, { name := "OBJECT_ID_LENGTH", type := .int, accessFlags := 26, slot := 3, constantValue := 0 }, { name := "OLD_BINARY", type := .int, accessFlags := 26, slot := 4, constantValue := 0 }, { name := "MAX_DECIMAL128_COEFFICIENT", type := (.object "java/math/BigInteger"), accessFlags := 26, slot := 5, constantValue := 0 }, { name := "DECIMAL128_EXPONENT_BIAS", type := .int, accessFlags := 26, slot := 6, constantValue := 0 }, { name := "DOUBLE", type := .byte, accessFlags := 26, slot := 7, constantValue := 0 }, { name := "STRING", type := .byte, accessFlags := 26, slot := 8, constantValue := 0 }, { name := "DOCUMENT", type := .byte, accessFlags := 26, slot := 9, constantValue := 0 }, { name := "ARRAY", type := .byte, accessFlags := 26, slot := 10, constantValue := 0 }, { name := "BINARY", type := .byte, accessFlags := 26, slot := 11, constantValue := 0 }, { name := "UNDEFINED", type := .byte, accessFlags := 26, slot := 12, constantValue := 0 }, { name := "OBJECT_ID", type := .byte, accessFlags := 26, slot := 13, constantValue := 0 }, { name := "BOOLEAN", type := .byte, accessFlags := 26, slot := 14, constantValue := 0 }, { name := "DATETIME", type := .byte, accessFlags := 26, slot := 15, constantValue := 0 }, { name := "NULL", type := .byte, accessFlags := 26, slot := 16, constantValue := 0 }, { name := "REGEX", type := .byte, accessFlags := 26, slot := 17, constantValue := 0 }, { name := "DB_POINTER", type := .byte, accessFlags := 26, slot := 18, constantValue := 0 }, { name := "CODE", type := .byte, accessFlags := 26, slot := 19, constantValue := 0 }, { name := "SYMBOL", type := .byte, accessFlags := 26, slot := 20, constantValue := 0 }, { name := "CODE_WITH_SCOPE", type := .byte, accessFlags := 26, slot := 21, constantValue := 0 }, { name := "INT32", type := .byte, accessFlags := 26, slot := 22, constantValue := 0 }, { name := "TIMESTAMP", type := .byte, accessFlags := 26, slot := 23, constantValue := 0 }, { name := "INT64", type := .byte, accessFlags := 26, slot := 24, constantValue := 0 }, { name := "DECIMAL128", type := .byte, accessFlags := 26, slot := 25, constantValue := 0 }, { name := "MAX_KEY", type := .byte, accessFlags := 26, slot := 26, constantValue := 0 }, { name := "MIN_KEY", type := .byte, accessFlags := 26, slot := 27, constantValue := 0 }, { name := "bytes", type := (.array .byte), accessFlags := 18, slot := 0, constantValue := 0 }, { name := "position", type := .int, accessFlags := 2, slot := 1, constantValue := 0 }]
  methods := #[k2m0]
  instanceTypes := #[(.array .byte), .int]
  staticTypes := #[(.object "java/lang/String"), .int, .int, .int, .int, (.object "java/math/BigInteger"), .int, .byte, .byte, .byte, .byte, .byte, .byte, .byte, .byte, .byte, .byte, .byte, .byte, .byte, .byte, .byte, .byte, .byte, .byte, .byte, .byte, .byte]
  resolved := Array.replicate 472 none
  statics := none }

def pool3 : Array CpInfo := pool [(1, u "java/lang/Cloneable"), (0, .class_ 1), (0, u "java/lang/Object"), (0, .class_ 3)] 3

/-- java/lang/Cloneable -/
def k3 : Class := { plain "java/lang/Cloneable" (some 0) with
  accessFlags := 1537
  interfaces := #[]
  cf := some (fileOf pool3 2 #[] #[] 1537 4 #[] #[])
  fields := #[]
  methods := #[]
  instanceTypes := #[]
  staticTypes := #[]
  resolved := Array.replicate 8 none
  statics := none }

def pool4 : Array CpInfo := pool [(1, u "java/io/Serializable"), (0, .class_ 1), (0, u "java/lang/Object"), (0, .class_ 3)] 3

/-- java/io/Serializable -/
def k4 : Class := { plain "java/io/Serializable" (some 0) with
  accessFlags := 1537
  interfaces := #[]
  cf := some (fileOf pool4 2 #[] #[] 1537 4 #[] #[])
  fields := #[]
  methods := #[]
  instanceTypes := #[]
  staticTypes := #[]
  resolved := Array.replicate 8 none
  statics := none }

/-- the primitive byte -/
def k5 : Class := { plain "byte" none with kind := .primitive 'B', accessFlags := 0x411 }
/-- [B -/
def k6 : Class := { plain "[B" (some 0) with kind := .array 5 .byte, interfaces := #[3, 4], accessFlags := 1041 }

/-- the primitive int -/
def k7 : Class := { plain "int" none with kind := .primitive 'I', accessFlags := 0x411 }
/-- [I -/
def k8 : Class := { plain "[I" (some 0) with kind := .array 7 .int, interfaces := #[3, 4], accessFlags := 1041 }

def heap : Heap := #[]
def classes : Array Class := #[k0, k1, k2, k3, k4, k5, k6, k7, k8]
def interned : List (Array UInt16 × Addr) := []
def slotsUsed : Nat := 0
def theMethod : MethodId := ⟨1, 1⟩
def args0 : Array Value := #[.int 5, .int 300, .long 7]
def aboutOver (below : List Frame) : State where
  vm := { classes := classes, interned := interned.toArray }
  heap := heap
  slotsUsed := slotsUsed
  threads := #[{ frames := .invoking theMethod args0 :: below }]
def below0 : List Frame := [.native { method := ⟨0, 0⟩, args := #[] }]
def about1 : State := aboutOver below0
def p0 : Program := .bare "" "" ""
def e0 : Env := launch0.env 0 0 0
theorem w_frames : about1.frames = Frame.invoking theMethod args0 :: below0 := rfl
set_option maxRecDepth 65536 in
theorem w_args : argsFit about1.vm theMethod args0 = true := by decide +kernel
set_option maxRecDepth 65536 in
theorem w_heap : heapFits about1 = true := by decide +kernel
set_option maxRecDepth 65536 in
theorem w_runnable : about1.curStatus? = some .runnable := by decide +kernel
set_option maxRecDepth 65536 in
theorem w_alone : about1.alone = true := by decide +kernel
set_option maxRecDepth 65536 in
theorem w_named : about1.methodNamed? x = some theMethod := by decide +kernel
set_option maxRecDepth 65536 in
theorem w_hears : about1.hears theMethod below0 = true := by decide +kernel
set_option maxRecDepth 65536 in
theorem w_ripe : about1.ripe theMethod args0 below0 = true := by decide +kernel
theorem w_running : about1.status = .running := rfl
set_option maxRecDepth 65536 in
theorem w_room : about1.hasRoom e0.platform room_1 = true :=
  launch0.hasRoom_least _ room_1 (by decide +kernel) (by decide +kernel) (by decide +kernel) (by decide +kernel) (by decide +kernel) (by decide +kernel)
theorem allAtoms_all (ts : List Jvm.Cond) (a : Array Jvm.Value) (st : Jvm.State) : (allAtoms ts).before a st = ts.all (fun c => c.before a st) := by
  induction ts with
  | nil => rfl
  | cons c t ih =>
    show (Jvm.Cond.and c (allAtoms t)).before a st = _
    rw [Jvm.Cond.before_and, ih, List.all_cons]
def words1 : List Jvm.Cond := Jvm.Cond.code x code maxLocals ret :: tables_1
/-- a 'code' word, met by the world's own term for the bytes: nothing is compared byte by byte -/
theorem code_word {y : MethodName} {bytes : ByteArray} {mx : Nat} {rt : Option FieldType} {a : Array Value} {s : State} {m : MethodId} {meth : Method} {c : Code} (h1 : s.methodNamed? y = some m) (h2 : s.vm.method? m = some meth) (h3 : meth.code = some c) (h4 : c.code = bytes)
    (h5 : (c.maxLocals == mx && c.exceptionTable.isEmpty && decide (c.maxStack ≤ mostOperands) && decide (meth.sig.returnType = rt) && !meth.locks && decide (parseMethodDescriptor y.desc = some meth.sig)) = true) : (Jvm.Cond.code y bytes mx rt).before a s = true := by
  simp only [Bool.and_eq_true, beq_iff_eq, Bool.not_eq_true', decide_eq_true_eq] at h5
  obtain ⟨⟨⟨⟨⟨g1, g2⟩, g3⟩, g4⟩, g5⟩, g6⟩ := h5
  simp [Cond.before, Cond.holds, Cond.value, h1, h2, h3, h4, g1, g2, g3, g4, g5, g6]
def isCode : Jvm.Cond → Bool
  | .code _ _ _ _ => true
  | _ => false
theorem all_split {L : List Jvm.Cond} {P : Jvm.Cond → Bool} (h1 : L.all (fun c => isCode c || P c) = true) (h2 : ∀ c ∈ L.filter isCode, P c = true) : L.all P = true := by
  refine List.all_eq_true.mpr fun c hc => ?_
  have h := List.all_eq_true.mp h1 c hc
  rcases Bool.eq_false_or_eq_true (isCode c) with hi | hi
  · exact h2 c (List.mem_filter.mpr ⟨hc, hi⟩)
  · simpa [hi] using h
set_option maxRecDepth 65536 in
theorem w_c0 : (Jvm.Cond.code x code maxLocals ret).before args0 about1 = true := code_word (m := ⟨1, 1⟩) (meth := k1m1) (c := k1c1) (by decide +kernel) rfl rfl rfl (by decide +kernel)
set_option maxRecDepth 65536 in
theorem w_c1 : (Jvm.Cond.code ({ cls := "com/example/bowerbird/bowerbird/BsonTree", name := "int32", desc := "([BI)I" } : Jvm.MethodName) prog_7_method_3_code (2 : Nat) (Option.some Jvm.ClassFile.FieldType.int)).before args0 about1 = true := code_word (m := ⟨2, 0⟩) (meth := k2m0) (c := k2c0) (by decide +kernel) rfl rfl rfl (by decide +kernel)
def codes1 : List Jvm.Cond := [Jvm.Cond.code x code maxLocals ret, Jvm.Cond.code ({ cls := "com/example/bowerbird/bowerbird/BsonTree", name := "int32", desc := "([BI)I" } : Jvm.MethodName) prog_7_method_3_code (2 : Nat) (Option.some Jvm.ClassFile.FieldType.int)]
set_option maxRecDepth 65536 in
theorem codes_eq : words1.filter isCode = codes1 := rfl
theorem w_codes : ∀ c ∈ words1.filter isCode, c.before args0 about1 = true := by
  rw [codes_eq]
  intro c hc
  simp only [codes1, List.mem_cons, List.not_mem_nil, or_false] at hc
  rcases hc with rfl | rfl
  · exact w_c0
  · exact w_c1
set_option maxRecDepth 65536 in
theorem w_t1 : words1.all (fun c => isCode c || c.before args0 about1) = true := by decide +kernel
theorem w_tables : (allAtoms (Jvm.Cond.code x code maxLocals ret :: tables_1)).before args0 about1 = true := by
  rw [allAtoms_all]
  show words1.all (fun c => c.before args0 about1) = true
  refine all_split ?_ w_codes
  rw [w_t1]
set_option maxRecDepth 65536 in
theorem w_case : (Jvm.Cond.and given_1 narrow_1).before args0 about1 = true := by decide +kernel
theorem w_applies : (headSpec (Jvm.Cond.code x code maxLocals ret :: tables_1) room_1).applies x e0.platform about1 = true :=
  (Spec.applies_iff w_frames).mpr ⟨w_running, w_runnable, w_alone, w_named, w_hears, w_ripe, w_room, w_tables⟩
theorem atStart : AtStart classFile x code maxLocals ret World_1 tables_1 room_1 Calls_1 rest_1 Pre_1 launch0 p0 e0 about1 theMethod args0 below0 :=
  ⟨lists_1, trivial, launch0.admits_env _ _ _, launch0.least_env, fairChoices_fair.cas, fairChoices_fair.clock, w_frames, w_args, w_heap, w_applies, trivial, trivial, w_case⟩
end start1
theorem witness_1 : WitnessClaimed_1 := ⟨start1.p0, start1.e0, start1.about1, start1.theMethod, start1.args0, start1.below0, start1.atStart⟩
end Jvm.Pilot.@@N@@
