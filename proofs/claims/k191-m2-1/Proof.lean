import JvmDerived
import JvmDerived.Pilot.@@N@@Statement
import JvmDerived.Pilot.@@N@@Code
set_option linter.unusedVariables false
set_option linter.unusedSimpArgs false
set_option maxRecDepth 65536
set_option maxHeartbeats 20000000
namespace Jvm.Pilot.@@N@@
open Jvm Jvm.ClassFile Sem Op Lib Jvm.Free Jvm.Stand Jvm.LawKit Jvm.RoadKit Bundle Jvm.Pilot.@@N@@.Jvm.D
section OwnKit
variable {p : Program} {l : Launch} {e : Env} {R : Room} {s : State} {m : MethodId} {args : Array Value} {below : List Frame} {meth : Method} {c : Code} {T : State} {locs : List Loc} {cells slots : Nat} {Z : State} {a0 : Array Value} {h0 : Heap}
/-- from this state the run comes to the end of the invocation, and there P holds -/
def own_G (p : Program) (e : Env) (below : List Frame) (P : Outcome → State → Prop) (st : State) : Prop :=
  ∃ (u : State) (o : Outcome), Steps p.tables e below st u ∧ u.status = .running ∧ Ended u below o ∧ P o u
theorem own_via {P : Outcome → State → Prop} {st st' : State} (k : ∀ t, Steps p.tables e below st' t → Steps p.tables e below st t) (h : own_G p e below P st') : own_G p e below P st := by
  obtain ⟨u, o, h1, h2⟩ := h
  exact ⟨u, o, k _ h1, h2⟩
/-- what a contract says of the end -/
def own_P (s : State) (Q : Option Value → Heap → List Loc → Prop) (k n : Nat) : Outcome → State → Prop := fun o u => ∃ v L, o = .returned v ∧ Q v u.heap L ∧ FrameEnd s o u L k n
/-- it returns w and leaves the heap as it was -/
def own_Q (w : Value) (h0 : Heap) : Option Value → Heap → List Loc → Prop := fun v h L => v = some w ∧ L = [] ∧ h = h0
/-- a contract -/
def own_C (l : Launch) (Z : State) (y : MethodName) (bytes : ByteArray) (maxL : Nat) (ret : Option FieldType) (ws : List Jvm.Cond) (rm : Room) (as : Array Value) (h0 : Heap) (Q : Option Value → Heap → List Loc → Prop) : Prop :=
  MetFree l y (head1 (Jvm.Cond.code y bytes maxL ret :: ws) rm) (fun a U => a = as ∧ Z.Warmed39 U.vm ∧ U.heap = h0) (fun _ _ _ _ _ => True) (fun _ U o U' => ∃ v L, o = .returned v ∧ Q v U'.heap L ∧ FrameEnd U o U' L rm.cells rm.slots)
theorem own_ret {v : Option Value} {Q : Option Value → Heap → List Loc → Prop} {k n : Nat} {st : State} (X : Stand p l e R s m args below meth c T locs cells slots) (hv : meth.sig.returnType = none → v = none) (hlocks : meth.locks = false)
    (hst : ∀ fs, (∀ (f : JFrame) (acts : List Action), f.method = m → f.locked = none → f.entered = [] → (doReturn e (T.setTop f) acts v).1 = T.setFrames fs) → Steps p.tables e below st (T.setFrames fs))
    (hQ : Q v T.heap locs) (hk : cells ≤ k) (hn : slots ≤ n) : own_G p e below (own_P s Q k n) st := by
  obtain ⟨fs, hr, hrun, hended, hW, hsame⟩ := X.leave (v := v) hv hlocks
  exact ⟨_, _, hst fs hr, hrun, hended, _, _, rfl, hQ, ⟨_, rfl⟩, hW, hsame.mono hk hn⟩
theorem own_retI {Q : Option Value → Heap → List Loc → Prop} {k n : Nat} (X : Stand p l e R s m args below meth c T locs cells slots) (hx : p.tables.exec = Jvm.exec) {pc : Nat} {Ls : Array Slot} {z : Int32} {rest : List Value} (hret : meth.sig.returnType = some .int) (hlocks : meth.locks = false) (hd : decode c.code pc = .ok (.ireturn, 1))
    (hQ : Q (some (.int z)) T.heap locs) (hk : cells ≤ k) (hn : slots ≤ n) : own_G p e below (own_P s Q k n) (T.setTop (mkF m pc Ls (.int z :: rest))) := by
  refine own_ret X (fun h => by rw [hret] at h; cases h) hlocks (fun fs hr => ?_) hQ hk hn
  have hm' : T.vm.method? m = some meth := X.method'
  have hn : narrow .int (.int z) = .int z := rfl
  show Steps p.tables e below (T.setTop { method := m, pc := pc, locals := Ls, stack := _ :: rest, locked := none }) _
  jvm_step X.here [X.here.top, hx, hd, hm', hret, hn]
  first | (intro acts; rw [hr _ acts rfl rfl rfl]) | rw [hr _ _ rfl rfl rfl]
  exact Steps.refl _
theorem own_retN {Q : Option Value → Heap → List Loc → Prop} {k n : Nat} {t : FieldType} (X : Stand p l e R s m args below meth c T locs cells slots) (hx : p.tables.exec = Jvm.exec) {pc : Nat} {Ls : Array Slot} {z : Int32} {rest : List Value} (hret : meth.sig.returnType = some t) (ht : t = .boolean ∨ t = .byte ∨ t = .char ∨ t = .short) (hlocks : meth.locks = false) (hd : decode c.code pc = .ok (.ireturn, 1))
    (hQ : Q (some (.int (nar t z))) T.heap locs) (hk : cells ≤ k) (hn : slots ≤ n) : own_G p e below (own_P s Q k n) (T.setTop (mkF m pc Ls (.int z :: rest))) :=
  own_ret X (fun h => by rw [hret] at h; cases h) hlocks (fun fs hr => retN X hx hret ht hd hr) hQ hk hn
theorem own_retL {Q : Option Value → Heap → List Loc → Prop} {k n : Nat} (X : Stand p l e R s m args below meth c T locs cells slots) (hx : p.tables.exec = Jvm.exec) {pc : Nat} {Ls : Array Slot} {z : Int64} (hret : meth.sig.returnType = some .long) (hlocks : meth.locks = false) (hd : decode c.code pc = .ok (.lreturn, 1))
    (hQ : Q (some (.long z)) T.heap locs) (hk : cells ≤ k) (hn : slots ≤ n) : own_G p e below (own_P s Q k n) (T.setTop (mkF m pc Ls [.long z])) :=
  own_ret X (fun h => by rw [hret] at h; cases h) hlocks (fun fs hr => X.lreturnOut hx hret hd hr) hQ hk hn
theorem own_retV {Q : Option Value → Heap → List Loc → Prop} {k n : Nat} (X : Stand p l e R s m args below meth c T locs cells slots) (hx : p.tables.exec = Jvm.exec) {pc : Nat} {Ls : Array Slot} (hret : meth.sig.returnType = none) (hlocks : meth.locks = false) (hd : decode c.code pc = .ok (.return_, 1))
    (hQ : Q none T.heap locs) (hk : cells ≤ k) (hn : slots ≤ n) : own_G p e below (own_P s Q k n) (T.setTop (mkF m pc Ls [])) :=
  own_ret X (fun _ => rfl) hlocks (fun fs hr => X.returnOut hx hret hd hr) hQ hk hn
theorem own_retA {Q : Option Value → Heap → List Loc → Prop} {k n : Nat} {t : FieldType} {v : Value} (X : Stand p l e R s m args below meth c T locs cells slots) (hx : p.tables.exec = Jvm.exec) {pc : Nat} {Ls : Array Slot} {rest : List Value} (hret : meth.sig.returnType = some t) (ht : t.isReference = true) (hv : v.isRef = true) (hlocks : meth.locks = false) (hd : decode c.code pc = .ok (.areturn, 1))
    (hQ : Q (some v) T.heap locs) (hk : cells ≤ k) (hn : slots ≤ n) : own_G p e below (own_P s Q k n) (T.setTop (mkF m pc Ls (v :: rest))) := by
  refine own_ret X (fun h => by rw [hret] at h; cases h) hlocks (fun fs hr => ?_) hQ hk hn
  have hm' : T.vm.method? m = some meth := X.method'
  show Steps p.tables e below (T.setTop { method := m, pc := pc, locals := Ls, stack := _ :: rest, locked := none }) _
  jvm_step X.here [X.here.top, hx, hd, hm', hret, ht, hv]
  first | (intro acts; rw [hr _ acts rfl rfl rfl]) | rw [hr _ _ rfl rfl rfl]
  exact Steps.refl _
/-- a static method by its contract -/
theorem own_callS {own : String} {index : Nat} {y : MethodName} {bytes : ByteArray} {maxL W : Nat} {ret : Option FieldType} {rm : Room} {as : Array Value} {Q : Option Value → Heap → List Loc → Prop}
    (X : Stand p l e R s m args below meth c T locs cells slots) (hx : p.tables.exec = Jvm.exec) (hZ : Z.Warmed39 s.vm) (hown : s.vm.findClass own = some m.cls)
    (w1 : (Jvm.Cond.methodLink own index y).before a0 Z = true) (w2 : (Jvm.Cond.static y).before a0 Z = true) (w3 : (Jvm.Cond.initialized y.cls).before a0 Z = true) (w4 : (Jvm.Cond.code y bytes maxL ret).before a0 Z = true)
    (hy : y.cls ≠ "java/lang/invoke/MethodHandle" ∧ y.cls ≠ "java/lang/invoke/VarHandle") (hM : own_C l Z y bytes maxL ret [] rm as h0 Q)
    (hf : rm.frames + 1 ≤ R.frames) (hl : W + (maxL + 11) + rm.locals ≤ R.locals) (hcc : cells + rm.cells ≤ R.cells) (hss : slots + rm.slots ≤ R.slots) (e0 : T.heap = h0)
    {pc : Nat} {Ls : Array Slot} {st argsL rest : List Value} (hsize : Ls.size = c.maxLocals) (hlen : ∀ sig, parseMethodDescriptor y.desc = some sig → argsL.length = sig.parameters.length) (has : argsL.toArray = as)
    (hst : st = argsL.reverse ++ rest) (hW : 2 * 0 + (rest.map fun v => v.category).sum ≤ W) (hd : decode c.code pc = .ok (.invokestatic index, 3)) :
    ∃ (v : Option Value) (T' : State) (L : List Loc), Stand p l e R s m args below meth c T' (locs ++ L) (cells + rm.cells) (slots + rm.slots) ∧ Q v T'.heap L ∧
      ∀ target, Steps p.tables e below (T'.setTop (mkF m (pc + 3) Ls (v.toList ++ rest))) target → Steps p.tables e below (T.setTop (mkF m pc Ls st)) target := by
  obtain ⟨v, _, ⟨T', L', k', n'⟩, -, X', ⟨Lc, hQ, h1, h2, h3⟩, stp⟩ := Jvm.LawKit.callS X hx (y := y) hown (mvT hZ w1) (mvT hZ w2) (mvT hZ w3) (mvT hZ w4) hy
    (backOf (W := W) hM hZ w4 w3 hf hl) (g := mkF m pc Ls st) rfl hsize (argsL := argsL) (rest := rest) hlen hst hW hd (fun _ _ => ⟨has, e0, hcc, hss⟩)
  dsimp only [Pt.U, Pt.locs, Pt.cells, Pt.slots] at X' h1 h2 h3 stp hQ
  subst h1 h2 h3
  exact ⟨v, T', Lc, X', hQ, stp⟩
/-- a static method that leaves the heap as it was -/
theorem own_callP {own : String} {index : Nat} {y : MethodName} {bytes : ByteArray} {maxL W : Nat} {ret : Option FieldType} {rm : Room} {as : Array Value} {w : Value}
    (X : Stand p l e R s m args below meth c T locs cells slots) (hx : p.tables.exec = Jvm.exec) (hZ : Z.Warmed39 s.vm) (hown : s.vm.findClass own = some m.cls)
    (w1 : (Jvm.Cond.methodLink own index y).before a0 Z = true) (w2 : (Jvm.Cond.static y).before a0 Z = true) (w3 : (Jvm.Cond.initialized y.cls).before a0 Z = true) (w4 : (Jvm.Cond.code y bytes maxL ret).before a0 Z = true)
    (hy : y.cls ≠ "java/lang/invoke/MethodHandle" ∧ y.cls ≠ "java/lang/invoke/VarHandle") (hM : own_C l Z y bytes maxL ret [] rm as h0 (own_Q w h0))
    (hf : rm.frames + 1 ≤ R.frames) (hl : W + (maxL + 11) + rm.locals ≤ R.locals) (hrc : rm.cells = 0) (hrs : rm.slots = 0) (hcc : cells + rm.cells ≤ R.cells) (hss : slots + rm.slots ≤ R.slots) (e0 : T.heap = h0)
    {pc : Nat} {Ls : Array Slot} {st argsL rest : List Value} (hsize : Ls.size = c.maxLocals) (hlen : ∀ sig, parseMethodDescriptor y.desc = some sig → argsL.length = sig.parameters.length) (has : argsL.toArray = as)
    (hst : st = argsL.reverse ++ rest) (hW : 2 * 0 + (rest.map fun v => v.category).sum ≤ W) (hd : decode c.code pc = .ok (.invokestatic index, 3)) :
    ∃ (T' : State), Stand p l e R s m args below meth c T' locs cells slots ∧ T'.heap = h0 ∧
      ∀ target, Steps p.tables e below (T'.setTop (mkF m (pc + 3) Ls (w :: rest))) target → Steps p.tables e below (T.setTop (mkF m pc Ls st)) target := by
  obtain ⟨v, T', L, X', ⟨rfl, rfl, hh⟩, stp⟩ := own_callS X hx hZ hown w1 w2 w3 w4 hy hM hf hl hcc hss e0 hsize hlen has hst hW hd
  rw [List.append_nil, hrc, hrs] at X'
  exact ⟨T', X', hh, stp⟩
theorem own_b1 {x a : Int32} (h : x < a) : x.toInt ≤ a.toInt - 1 := by rw [Int32.lt_iff_toInt_lt] at h; omega
theorem own_b2 {x a : Int32} (h : ¬ x < a) : a.toInt ≤ x.toInt := by rw [Int32.lt_iff_toInt_lt] at h; omega
theorem own_b3 {x a : Int32} (h : a < x) : a.toInt + 1 ≤ x.toInt := by rw [Int32.lt_iff_toInt_lt] at h; omega
theorem own_b4 {x a : Int32} (h : ¬ a < x) : x.toInt ≤ a.toInt := by rw [Int32.lt_iff_toInt_lt] at h; omega
theorem own_b5 {x b : Int32} {k : Int} (h : x.toInt ≤ k) (q : k < b.toInt) : x < b := by rw [Int32.lt_iff_toInt_lt]; omega
theorem own_b6 {x b : Int32} {k : Int} (h : k ≤ x.toInt) (q : b.toInt ≤ k) : ¬ x < b := by rw [Int32.lt_iff_toInt_lt]; omega
theorem own_b7 {x b : Int32} {k : Int} (h : k ≤ x.toInt) (q : b.toInt < k) : b < x := by rw [Int32.lt_iff_toInt_lt]; omega
theorem own_b8 {x b : Int32} {k : Int} (h : x.toInt ≤ k) (q : k ≤ b.toInt) : ¬ b < x := by rw [Int32.lt_iff_toInt_lt]; omega
theorem own_b9 {x b : Int32} {k : Int} (h : x.toInt ≤ k) (q : k < b.toInt) : ¬ x = b := fun e => by subst e; omega
theorem own_b10 {x b : Int32} {k : Int} (h : k ≤ x.toInt) (q : b.toInt < k) : ¬ x = b := fun e => by subst e; omega
theorem own_of_eq {x a : Int32} {P : Int32 → Prop} (h : x = a) (q : P a) : P x := h ▸ q
end OwnKit
section OwnHeap
variable {p : Program} {l : Launch} {e : Env} {R : Room} {s : State} {m : MethodId} {args : Array Value} {below : List Frame} {meth : Method} {c : Code} {T : State} {locs : List Loc} {cells slots : Nat} {Z : State} {a0 : Array Value} {h0 h : Heap} {n0 : Nat}
/-- the writes lie at or above n0, and q says the rest -/
def own_W (n0 : Nat) (q : Option Value → Heap → Prop) : Option Value → Heap → List Loc → Prop := fun v h L => Fr n0 L ∧ q v h
theorem own_newA (X : Stand p l e R s m args below meth c T locs cells slots) (hx : p.tables.exec = Jvm.exec) (hZ : Z.Warmed39 s.vm) {aty : ArrayType} (w : (Jvm.Cond.arrayClass (newarray.typeOf aty)).before a0 Z = true) (eT : T.heap = h) {pc : Nat} {Ls : Array Slot} (hd : decode c.code pc = .ok (.newarray aty, 2)) {n : Int32} {rest : List Value}
    (hn : ¬ n < 0) {cap : Nat} (hcap : n.toNatClampNeg ≤ cap) (hb : cap * 8 ≤ 536870912) (hc : cells + 1 ≤ R.cells) (hl : slots + cap ≤ R.slots) (len : Nat) {ad : String} (had : "[" ++ (newarray.typeOf aty).toString = ad) :
    ∃ T' h' k a, Stand p l e R s m args below meth c T' locs (cells + 1) (slots + cap) ∧ T'.heap = h' ∧ Ext h h' ∧ a = h.size ∧ Arv Z h' a k (newarray.typeOf aty) n (List.replicate len (defaultValue (newarray.typeOf aty))) (defaultValue (newarray.typeOf aty)) ∧ Exa Z h' a ad ∧
      ∀ target, Steps p.tables e below (T'.setTop (mkF m (pc + 2) Ls (.ref a :: rest))) target → Steps p.tables e below (T.setTop (mkF m pc Ls (.int n :: rest))) target := by
  obtain ⟨T', h', k, X', e', E, A, Ex, st⟩ := newPE X hx hZ w eT (g := mkF m pc Ls (.int n :: rest)) rfl hd rfl hn hcap hb hc hl had
  exact ⟨T', h', k, h.size, X', e', E, rfl, (Arv.new A hn).pad (fun i => by have := pad_rep [] (defaultValue (newarray.typeOf aty)) len i; rwa [List.nil_append] at this), Ex, st⟩
theorem own_stB (X : Stand p l e R s m args below meth c T locs cells slots) (N : Fr n0 locs) (hx : p.tables.exec = Jvm.exec) (hZ : Z.Warmed39 s.vm) (eT : T.heap = h) {a : Addr} {k : ClassId} {z : Int32} {vs : List Value} {d : Value} (V : Arv Z h a k .byte z vs d) (ga : n0 ≤ a) {j x : Int32} {i : Nat} (hj : ¬ j < 0 ∧ j < z) (hi : j.toNatClampNeg = i) (hl : i < vs.length)
    {pc : Nat} {Ls : Array Slot} {rest : List Value} (hd : decode c.code pc = .ok (.bastore, 1)) :
    ∃ T' h' L', Stand p l e R s m args below meth c T' L' cells slots ∧ Fr n0 L' ∧ T'.heap = h' ∧ Wr h h' a i (.int x.toInt8.toInt32) ∧ Arv Z h' a k .byte z (vs.set i (.int x.toInt8.toInt32)) d ∧
      ∀ target, Steps p.tables e below (T'.setTop (mkF m (pc + 1) Ls rest)) target → Steps p.tables e below (T.setTop (mkF m pc Ls (.int x :: .int j :: .ref a :: rest))) target := by
  obtain ⟨cl, Ar, q, S, Nn, H, G⟩ := V
  obtain ⟨T', h', X', e', W, st⟩ := stB X hx hZ eT Ar (j := j) (x := x) (inb_of S hj) (g := mkF m pc Ls (.int x :: .int j :: .ref a :: rest)) rfl rfl hd
  subst hi
  exact ⟨T', h', _, X', Fr.snoc X' N ga, e', W, Arv.set Ar q S Nn H G (fits_nar_byte x) W _ rfl hl, st⟩
theorem own_stI (X : Stand p l e R s m args below meth c T locs cells slots) (N : Fr n0 locs) (hx : p.tables.exec = Jvm.exec) (hZ : Z.Warmed39 s.vm) (eT : T.heap = h) {a : Addr} {k : ClassId} {z : Int32} {vs : List Value} {d : Value} (V : Arv Z h a k .int z vs d) (ga : n0 ≤ a) {j x : Int32} {i : Nat} (hj : ¬ j < 0 ∧ j < z) (hi : j.toNatClampNeg = i) (hl : i < vs.length)
    {pc : Nat} {Ls : Array Slot} {rest : List Value} (hd : decode c.code pc = .ok (.iastore, 1)) :
    ∃ T' h' L', Stand p l e R s m args below meth c T' L' cells slots ∧ Fr n0 L' ∧ T'.heap = h' ∧ Wr h h' a i (.int x) ∧ Arv Z h' a k .int z (vs.set i (.int x)) d ∧
      ∀ target, Steps p.tables e below (T'.setTop (mkF m (pc + 1) Ls rest)) target → Steps p.tables e below (T.setTop (mkF m pc Ls (.int x :: .int j :: .ref a :: rest))) target := by
  obtain ⟨cl, Ar, q, S, Nn, H, G⟩ := V
  obtain ⟨T', h', X', e', W, st⟩ := stI X hx hZ eT Ar (j := j) (x := x) (inb_of S hj) (g := mkF m pc Ls (.int x :: .int j :: .ref a :: rest)) rfl rfl hd
  subst hi
  exact ⟨T', h', _, X', Fr.snoc X' N ga, e', W, Arv.set Ar q S Nn H G rfl W _ rfl hl, st⟩
theorem own_stC (X : Stand p l e R s m args below meth c T locs cells slots) (N : Fr n0 locs) (hx : p.tables.exec = Jvm.exec) (hZ : Z.Warmed39 s.vm) (eT : T.heap = h) {a : Addr} {k : ClassId} {z : Int32} {vs : List Value} {d : Value} (V : Arv Z h a k .char z vs d) (ga : n0 ≤ a) {j x : Int32} {i : Nat} (hj : ¬ j < 0 ∧ j < z) (hi : j.toNatClampNeg = i) (hl : i < vs.length)
    {pc : Nat} {Ls : Array Slot} {rest : List Value} (hd : decode c.code pc = .ok (.castore, 1)) :
    ∃ T' h' L', Stand p l e R s m args below meth c T' L' cells slots ∧ Fr n0 L' ∧ T'.heap = h' ∧ Wr h h' a i (.int (nar .char x)) ∧ Arv Z h' a k .char z (vs.set i (.int (nar .char x))) d ∧
      ∀ target, Steps p.tables e below (T'.setTop (mkF m (pc + 1) Ls rest)) target → Steps p.tables e below (T.setTop (mkF m pc Ls (.int x :: .int j :: .ref a :: rest))) target := by
  obtain ⟨cl, Ar, q, S, Nn, H, G⟩ := V
  obtain ⟨T', h', X', e', W, st⟩ := stC X hx hZ eT Ar (j := j) (x := x) (inb_of S hj) (g := mkF m pc Ls (.int x :: .int j :: .ref a :: rest)) rfl rfl hd
  subst hi
  exact ⟨T', h', _, X', Fr.snoc X' N ga, e', W, Arv.set Ar q S Nn H G (fits_nar_char x) W _ rfl hl, st⟩
theorem own_ldB (X : Stand p l e R s m args below meth c T locs cells slots) (hx : p.tables.exec = Jvm.exec) (hZ : Z.Warmed39 s.vm) (eT : T.heap = h) {a : Addr} {k : ClassId} {z : Int32} {vs : List Value} {d v : Value} (V : Arv Z h a k .byte z vs d) {j : Int32} (hj : ¬ j < 0 ∧ j < z) (hv : vs.getD j.toNatClampNeg d = v)
    {pc : Nat} {Ls : Array Slot} {rest : List Value} (hd : decode c.code pc = .ok (.baload, 1)) (target : State) (hr : Steps p.tables e below (T.setTop (mkF m (pc + 1) Ls (v :: rest))) target) : Steps p.tables e below (T.setTop (mkF m pc Ls (.int j :: .ref a :: rest))) target := by
  obtain ⟨cl, Ar, q, S, Nn, H, G⟩ := V
  have hin := inb_of S hj
  refine X.baloadBytes hx (j := j) (v := v) (by rw [eT]; exact Ar.1) (State.isArrayOf_alike hZ.alike Ar.2.1) Ar.2.2 hin ?_ (g := mkF m pc Ls (.int j :: .ref a :: rest)) rfl rfl hd _ hr
  rw [H _ (Nat.lt_of_not_le fun q => hin (Or.inr q)), hv]
theorem own_ldI (X : Stand p l e R s m args below meth c T locs cells slots) (hx : p.tables.exec = Jvm.exec) (hZ : Z.Warmed39 s.vm) (eT : T.heap = h) {a : Addr} {k : ClassId} {z : Int32} {vs : List Value} {d v : Value} (V : Arv Z h a k .int z vs d) {j : Int32} (hj : ¬ j < 0 ∧ j < z) (hv : vs.getD j.toNatClampNeg d = v)
    {pc : Nat} {Ls : Array Slot} {rest : List Value} (hd : decode c.code pc = .ok (.iaload, 1)) (target : State) (hr : Steps p.tables e below (T.setTop (mkF m (pc + 1) Ls (v :: rest))) target) : Steps p.tables e below (T.setTop (mkF m pc Ls (.int j :: .ref a :: rest))) target := by
  obtain ⟨cl, Ar, q, S, Nn, H, G⟩ := V
  have hin := inb_of S hj
  refine X.iaload hx (j := j) (v := v) (by rw [eT]; exact Ar.1) (State.isArrayOf_alike hZ.alike Ar.2.1) Ar.2.2 hin ?_ (g := mkF m pc Ls (.int j :: .ref a :: rest)) rfl rfl hd _ hr
  rw [H _ (Nat.lt_of_not_le fun q => hin (Or.inr q)), hv]
theorem own_ldC (X : Stand p l e R s m args below meth c T locs cells slots) (hx : p.tables.exec = Jvm.exec) (hZ : Z.Warmed39 s.vm) (eT : T.heap = h) {a : Addr} {k : ClassId} {z : Int32} {vs : List Value} {d v : Value} (V : Arv Z h a k .char z vs d) {j : Int32} (hj : ¬ j < 0 ∧ j < z) (hv : vs.getD j.toNatClampNeg d = v)
    {pc : Nat} {Ls : Array Slot} {rest : List Value} (hd : decode c.code pc = .ok (.caload, 1)) (target : State) (hr : Steps p.tables e below (T.setTop (mkF m (pc + 1) Ls (v :: rest))) target) : Steps p.tables e below (T.setTop (mkF m pc Ls (.int j :: .ref a :: rest))) target := by
  obtain ⟨cl, Ar, q, S, Nn, H, G⟩ := V
  have hin := inb_of S hj
  refine X.caload hx (j := j) (v := v) (by rw [eT]; exact Ar.1) (State.isArrayOf_alike hZ.alike Ar.2.1) Ar.2.2 hin ?_ (g := mkF m pc Ls (.int j :: .ref a :: rest)) rfl rfl hd _ hr
  rw [H _ (Nat.lt_of_not_le fun q => hin (Or.inr q)), hv]
theorem own_len (X : Stand p l e R s m args below meth c T locs cells slots) (hx : p.tables.exec = Jvm.exec) (hZ : Z.Warmed39 s.vm) (eT : T.heap = h) {a : Addr} {k : ClassId} {ty : FieldType} {z : Int32} {vs : List Value} {d : Value} (V : Arv Z h a k ty z vs d)
    {pc : Nat} {Ls : Array Slot} {rest : List Value} (hd : decode c.code pc = .ok (.arraylength, 1)) (target : State) (hr : Steps p.tables e below (T.setTop (mkF m (pc + 1) Ls (.int z :: rest))) target) : Steps p.tables e below (T.setTop (mkF m pc Ls (.ref a :: rest))) target := by
  obtain ⟨cl, Ar, q, S, Nn, H, G⟩ := V
  refine X.arraylength hx (by rw [eT]; exact Ar.1) (State.isArrayOf_alike hZ.alike Ar.2.1) (g := mkF m pc Ls (.ref a :: rest)) rfl rfl hd _ ?_
  rw [len_of S Nn]
  exact hr
/-- an array cloned -/
theorem own_clone (X : Stand p l e R s m args below meth c T locs cells slots) (hx : p.tables.exec = Jvm.exec) (hZ : Z.Warmed39 s.vm) {own ad : String} {index : Nat} (hown : s.vm.findClass own = some m.cls)
    (w1 : (Jvm.Cond.methodLink own index ⟨ad, "clone", "()Ljava/lang/Object;"⟩).before a0 Z = true) (w2 : (Jvm.Cond.sameMethod ad "java/lang/Object" "clone" "()Ljava/lang/Object;").before a0 Z = true) (w3 : (Jvm.Cond.native ⟨"java/lang/Object", "clone", "()Ljava/lang/Object;"⟩).before a0 Z = true)
    (w4 : (Jvm.Cond.instanceMethod ⟨"java/lang/Object", "clone", "()Ljava/lang/Object;"⟩).before a0 Z = true) (w5 : (Jvm.Cond.selects ad ⟨ad, "clone", "()Ljava/lang/Object;"⟩ ⟨"java/lang/Object", "clone", "()Ljava/lang/Object;"⟩).before a0 Z = true) (w6 : (Jvm.Cond.castable ad "java/lang/Cloneable").before a0 Z = true)
    (eT : T.heap = h) {a : Addr} {k : ClassId} {ty : FieldType} {z : Int32} {vs : List Value} {dv : Value} (F : Arv Z h a k ty z vs dv) (E : Exa Z h a ad) {pc : Nat} {Ls : Array Slot} {rest : List Value} (hsize : Ls.size = c.maxLocals) (hd : decode c.code pc = .ok (.invokevirtual index, 3))
    (hf : 1 ≤ R.frames) {W cap : Nat} (hW : 2 * 0 + (rest.map fun v => v.category).sum ≤ W) (hl : W + 14 ≤ R.locals) (hcap : z.toNatClampNeg ≤ cap) (hc : cells + 1 ≤ R.cells) (hsl : slots + cap ≤ R.slots) :
    ∃ T' h' b, Stand p l e R s m args below meth c T' locs (cells + 1) (slots + cap) ∧ T'.heap = h' ∧ Ext h h' ∧ b = h.size ∧ Arv Z h' b k ty z vs dv ∧ Exa Z h' b ad ∧
      ∀ target, Steps p.tables e below (T'.setTop (mkF m (pc + 3) Ls (.ref b :: rest))) target → Steps p.tables e below (T.setTop (mkF m pc Ls (.ref a :: rest))) target := by
  obtain ⟨T', h', X', e', ex, V, E', st⟩ := cloneH X hx hZ hown w1 w2 w3 w4 w5 w6 eT F.arh E (g := mkF m pc Ls (.ref a :: rest)) rfl hsize rfl hd hf hW hl hcap hc hsl
  exact ⟨T', h', h.size, X', e', ex, rfl, V, E', st⟩
/-- a field written -/
theorem own_putF (X : Stand p l e R s m args below meth c T locs cells slots) (N : Fr n0 locs) (hx : p.tables.exec = Jvm.exec) (hZ : Z.Warmed39 s.vm) {own O n d C : String} {index kk : Nat} {ty : FieldType} (hown : s.vm.findClass own = some m.cls) (w : (Jvm.Cond.fieldLink own index O n d).before a0 Z = true)
    (eT : T.heap = h) {a : Addr} {v old : Value} (F : Fld Z h a O n d old) (E : Exa Z h a C) (L : (Jvm.Cond.lays C O n d).before a0 Z = true ∨ ((Jvm.Cond.laysFinal C O n d).before a0 Z = true ∧ own = O ∧ meth.name = "<init>")) (wi : (Jvm.Cond.instantiable C kk).before a0 Z = true) (ga : n0 ≤ a)
    (hty : parseFieldDescriptor d = some ty) (hn : narrow ty v = v) (hf : fits ty v = true) {pc : Nat} {Ls : Array Slot} {rest : List Value} (hd : decode c.code pc = .ok (.putfield index, 3)) :
    ∃ T' h' L', Stand p l e R s m args below meth c T' L' cells slots ∧ Fr n0 L' ∧ T'.heap = h' ∧ Wr h h' a (Jvm.RoadKit.slotOf Z O n d) v ∧ Fld Z h' a O n d v ∧
      ∀ target, Steps p.tables e below (T'.setTop (mkF m (pc + 3) Ls rest)) target → Steps p.tables e below (T.setTop (mkF m pc Ls (v :: .ref a :: rest))) target := by
  obtain ⟨T', h', X', e', W, st⟩ := putF X hx hZ hown (host := "") (Or.inl w) Via.refl eT F E L wi hty hn hf (g := mkF m pc Ls (v :: .ref a :: rest)) rfl rfl hd
  exact ⟨T', h', _, X', Fr.snoc X' N ga, e', W, F.same W, st⟩
theorem own_putFN (X : Stand p l e R s m args below meth c T locs cells slots) (N : Fr n0 locs) (hx : p.tables.exec = Jvm.exec) (hZ : Z.Warmed39 s.vm) {own O n d C : String} {index kk : Nat} {ty : FieldType} (hown : s.vm.findClass own = some m.cls) (w : (Jvm.Cond.fieldLink own index O n d).before a0 Z = true)
    (eT : T.heap = h) {a : Addr} {v v' old : Value} (F : Fld Z h a O n d old) (E : Exa Z h a C) (L : (Jvm.Cond.lays C O n d).before a0 Z = true ∨ ((Jvm.Cond.laysFinal C O n d).before a0 Z = true ∧ own = O ∧ meth.name = "<init>")) (wi : (Jvm.Cond.instantiable C kk).before a0 Z = true) (ga : n0 ≤ a)
    (hty : parseFieldDescriptor d = some ty) (hn : narrow ty v = v') (hf : fits ty v' = true) {pc : Nat} {Ls : Array Slot} {rest : List Value} (hd : decode c.code pc = .ok (.putfield index, 3)) :
    ∃ T' h' L', Stand p l e R s m args below meth c T' L' cells slots ∧ Fr n0 L' ∧ T'.heap = h' ∧ Wr h h' a (Jvm.RoadKit.slotOf Z O n d) v' ∧ Fld Z h' a O n d v' ∧
      ∀ target, Steps p.tables e below (T'.setTop (mkF m (pc + 3) Ls rest)) target → Steps p.tables e below (T.setTop (mkF m pc Ls (v :: .ref a :: rest))) target := by
  obtain ⟨T', h', X', e', W, st⟩ := putFN X hx hZ hown w Via.refl eT F E L wi hty hn hf (g := mkF m pc Ls (v :: .ref a :: rest)) rfl rfl hd
  exact ⟨T', h', _, X', Fr.snoc X' N ga, e', W, F.same W, st⟩
/-- new -/
theorem own_newO (X : Stand p l e R s m args below meth c T locs cells slots) (hx : p.tables.exec = Jvm.exec) (hZ : Z.Warmed39 s.vm) {own C : String} {index n : Nat} (hown : s.vm.findClass own = some m.cls) (w : (Jvm.Cond.classLink own index C).before a0 Z = true) (wi : (Jvm.Cond.instantiable C n).before a0 Z = true) (wz : (Jvm.Cond.initialized C).before a0 Z = true) (eT : T.heap = h)
    {pc : Nat} {Ls : Array Slot} {rest : List Value} (hd : decode c.code pc = .ok (.new index, 3)) (hc : cells + 1 ≤ R.cells) (hl : slots + n ≤ R.slots) :
    ∃ T' h' a, Stand p l e R s m args below meth c T' locs (cells + 1) (slots + n) ∧ T'.heap = h' ∧ Ext h h' ∧ a = h.size ∧ Exa Z h' a C ∧ (∀ {O nm d : String} {ty : FieldType}, Laid Z a0 C O nm d → parseFieldDescriptor d = some ty → Fld Z h' a O nm d (defaultValue ty)) ∧
      ∀ target, Steps p.tables e below (T'.setTop (mkF m (pc + 3) Ls (.ref a :: rest))) target → Steps p.tables e below (T.setTop (mkF m pc Ls rest)) target := by
  obtain ⟨T', h', X', e', E, A, D, -, st⟩ := newO X hx hZ hown w wi wz eT (g := mkF m pc Ls rest) rfl hd hc hl
  exact ⟨T', h', h.size, X', e', E, rfl, A, D, st⟩
/-- a static method that may write and make -/
theorem own_callSW {own : String} {index : Nat} {y : MethodName} {bytes : ByteArray} {maxL W : Nat} {ret : Option FieldType} {rm : Room} {as : Array Value} {q : Option Value → Heap → Prop}
    (X : Stand p l e R s m args below meth c T locs cells slots) (N : Fr n0 locs) (hx : p.tables.exec = Jvm.exec) (hZ : Z.Warmed39 s.vm) (hown : s.vm.findClass own = some m.cls)
    (w1 : (Jvm.Cond.methodLink own index y).before a0 Z = true) (w2 : (Jvm.Cond.static y).before a0 Z = true) (w3 : (Jvm.Cond.initialized y.cls).before a0 Z = true) (w4 : (Jvm.Cond.code y bytes maxL ret).before a0 Z = true)
    (hy : y.cls ≠ "java/lang/invoke/MethodHandle" ∧ y.cls ≠ "java/lang/invoke/VarHandle") (hM : own_C l Z y bytes maxL ret [] rm as h (own_W n0 q))
    (hf : rm.frames + 1 ≤ R.frames) (hl : W + (maxL + 11) + rm.locals ≤ R.locals) (hcc : cells + rm.cells ≤ R.cells) (hss : slots + rm.slots ≤ R.slots) (e0 : T.heap = h)
    {pc : Nat} {Ls : Array Slot} {st argsL rest : List Value} (hsize : Ls.size = c.maxLocals) (hlen : ∀ sig, parseMethodDescriptor y.desc = some sig → argsL.length = sig.parameters.length) (has : argsL.toArray = as)
    (hst : st = argsL.reverse ++ rest) (hW : 2 * 0 + (rest.map fun v => v.category).sum ≤ W) (hd : decode c.code pc = .ok (.invokestatic index, 3)) :
    ∃ (v : Option Value) (T' : State) (h' : Heap) (L' : List Loc), Stand p l e R s m args below meth c T' L' (cells + rm.cells) (slots + rm.slots) ∧ Fr n0 L' ∧ T'.heap = h' ∧ q v h' ∧
      ∀ target, Steps p.tables e below (T'.setTop (mkF m (pc + 3) Ls (v.toList ++ rest))) target → Steps p.tables e below (T.setTop (mkF m pc Ls st)) target := by
  obtain ⟨v, T', L, X', ⟨N', hq⟩, stp⟩ := own_callS X hx hZ hown w1 w2 w3 w4 hy hM hf hl hcc hss e0 hsize hlen has hst hW hd
  exact ⟨v, T', _, _, X', N.app N', rfl, hq, stp⟩
/-- a constructor by its contract -/
theorem own_callI {own : String} {index : Nat} {y : MethodName} {bytes : ByteArray} {maxL W : Nat} {rm : Room} {as : Array Value} {q : Option Value → Heap → Prop} {a : Addr}
    (X : Stand p l e R s m args below meth c T locs cells slots) (N : Fr n0 locs) (hx : p.tables.exec = Jvm.exec) (hZ : Z.Warmed39 s.vm) (hy1 : y.name = "<init>") (hown : s.vm.findClass own = some m.cls)
    (w1 : (Jvm.Cond.methodLink own index y).before a0 Z = true) (w2 : (Jvm.Cond.instanceMethod y).before a0 Z = true) (w3 : (Jvm.Cond.initialized y.cls).before a0 Z = true) (w4 : (Jvm.Cond.code y bytes maxL none).before a0 Z = true)
    (hy : y.cls ≠ "java/lang/invoke/MethodHandle" ∧ y.cls ≠ "java/lang/invoke/VarHandle") (hM : own_C l Z y bytes maxL none [] rm as h (own_W n0 q))
    (hf : rm.frames + 1 ≤ R.frames) (hl : W + (maxL + 11) + rm.locals ≤ R.locals) (hcc : cells + rm.cells ≤ R.cells) (hss : slots + rm.slots ≤ R.slots) (e0 : T.heap = h)
    {pc : Nat} {Ls : Array Slot} {st argsL rest : List Value} (hsize : Ls.size = c.maxLocals) (hlen : ∀ sig, parseMethodDescriptor y.desc = some sig → argsL.length = sig.parameters.length) (has : (Value.ref a :: argsL).toArray = as)
    (hst : st = argsL.reverse ++ .ref a :: rest) (hW : 2 * 0 + (rest.map fun v => v.category).sum ≤ W) (hd : decode c.code pc = .ok (.invokespecial index, 3)) :
    ∃ (v : Option Value) (T' : State) (h' : Heap) (L' : List Loc), Stand p l e R s m args below meth c T' L' (cells + rm.cells) (slots + rm.slots) ∧ Fr n0 L' ∧ T'.heap = h' ∧ q v h' ∧
      ∀ target, Steps p.tables e below (T'.setTop (mkF m (pc + 3) Ls (v.toList ++ rest))) target → Steps p.tables e below (T.setTop (mkF m pc Ls st)) target := by
  obtain ⟨v, _, ⟨T', L', k', n'⟩, -, X', ⟨Lc, ⟨N', hq⟩, h1, h2, h3⟩, stp⟩ := X.specialBack hx (y := y) hy1 hown (mvT hZ w1) (mvT hZ w2) (mvT hZ w4) hy
    (backOf (W := W) hM hZ w4 w3 hf hl) (g := mkF m pc Ls st) rfl hsize (Steps.refl _) (a := a) (argsL := argsL) (rest := rest) hlen hst hW hd (fun _ _ => ⟨has, e0, hcc, hss⟩)
  dsimp only [Pt.U, Pt.locs, Pt.cells, Pt.slots] at X' h1 h2 h3 stp hq
  subst h1 h2 h3
  exact ⟨v, T', _, _, X', N.app N', rfl, hq, fun t k => stp.trans k⟩
/-- an instance method by its contract -/
theorem own_callV {own C : String} {index : Nat} {y z : MethodName} {bytes : ByteArray} {maxL W : Nat} {ret : Option FieldType} {rm : Room} {as : Array Value} {q : Option Value → Heap → Prop} {a : Addr}
    (X : Stand p l e R s m args below meth c T locs cells slots) (N : Fr n0 locs) (hx : p.tables.exec = Jvm.exec) (hZ : Z.Warmed39 s.vm) (hown : s.vm.findClass own = some m.cls)
    (w1 : (Jvm.Cond.methodLink own index y).before a0 Z = true) (w2 : (Jvm.Cond.declares y).before a0 Z = true) (hnf : NotFace s y) (ws : (Jvm.Cond.selects C y z).before a0 Z = true) (wi : (Jvm.Cond.instanceMethod z).before a0 Z = true) (w3 : (Jvm.Cond.initialized z.cls).before a0 Z = true) (w4 : (Jvm.Cond.code z bytes maxL ret).before a0 Z = true)
    (hy : y.cls ≠ "java/lang/invoke/MethodHandle" ∧ y.cls ≠ "java/lang/invoke/VarHandle") (hM : own_C l Z z bytes maxL ret [] rm as h (own_W n0 q))
    (hf : rm.frames + 1 ≤ R.frames) (hl : W + (maxL + 11) + rm.locals ≤ R.locals) (hcc : cells + rm.cells ≤ R.cells) (hss : slots + rm.slots ≤ R.slots) (e0 : T.heap = h) (E : Exa Z h a C)
    {pc : Nat} {Ls : Array Slot} {st argsL rest : List Value} (hsize : Ls.size = c.maxLocals) (hlen : ∀ sig, parseMethodDescriptor y.desc = some sig → argsL.length = sig.parameters.length) (has : (Value.ref a :: argsL).toArray = as)
    (hst : st = argsL.reverse ++ .ref a :: rest) (hW : 2 * 0 + (rest.map fun v => v.category).sum ≤ W) (hd : decode c.code pc = .ok (.invokevirtual index, 3)) :
    ∃ (v : Option Value) (T' : State) (h' : Heap) (L' : List Loc), Stand p l e R s m args below meth c T' L' (cells + rm.cells) (slots + rm.slots) ∧ Fr n0 L' ∧ T'.heap = h' ∧ q v h' ∧
      ∀ target, Steps p.tables e below (T'.setTop (mkF m (pc + 3) Ls (v.toList ++ rest))) target → Steps p.tables e below (T.setTop (mkF m pc Ls st)) target := by
  obtain ⟨cq, kq, qa, qb, qc⟩ := isOf hZ e0 E
  obtain ⟨v, _, ⟨T', L', k', n'⟩, -, X', ⟨Lc, ⟨N', hq⟩, h1, h2, h3⟩, stp⟩ := X.virtualBack hx (y := y) (z := z) hown (mvT hZ w1) (mvT hZ w2) hnf (mvT hZ ws) (mvT hZ wi) hy
    (backOf (W := W) hM hZ w4 w3 hf hl) qa qc (g := mkF m pc Ls st) rfl hsize (Steps.refl _) (argsL := argsL) (rest := rest) hlen hst hW hd (fun _ _ => ⟨has, e0, hcc, hss⟩)
  dsimp only [Pt.U, Pt.locs, Pt.cells, Pt.slots] at X' h1 h2 h3 stp hq
  subst h1 h2 h3
  exact ⟨v, T', _, _, X', N.app N', rfl, hq, fun t k => stp.trans k⟩
/-- an instance method that leaves the heap as it was -/
theorem own_callVP {own C : String} {index : Nat} {y z : MethodName} {bytes : ByteArray} {maxL W : Nat} {ret : Option FieldType} {rm : Room} {as : Array Value} {w : Value} {a : Addr}
    (X : Stand p l e R s m args below meth c T locs cells slots) (hx : p.tables.exec = Jvm.exec) (hZ : Z.Warmed39 s.vm) (hown : s.vm.findClass own = some m.cls)
    (w1 : (Jvm.Cond.methodLink own index y).before a0 Z = true) (w2 : (Jvm.Cond.declares y).before a0 Z = true) (hnf : NotFace s y) (ws : (Jvm.Cond.selects C y z).before a0 Z = true) (wi : (Jvm.Cond.instanceMethod z).before a0 Z = true) (w3 : (Jvm.Cond.initialized z.cls).before a0 Z = true) (w4 : (Jvm.Cond.code z bytes maxL ret).before a0 Z = true)
    (hy : y.cls ≠ "java/lang/invoke/MethodHandle" ∧ y.cls ≠ "java/lang/invoke/VarHandle") (hM : own_C l Z z bytes maxL ret [] rm as h (own_Q w h))
    (hf : rm.frames + 1 ≤ R.frames) (hl : W + (maxL + 11) + rm.locals ≤ R.locals) (hrc : rm.cells = 0) (hrs : rm.slots = 0) (hcc : cells + rm.cells ≤ R.cells) (hss : slots + rm.slots ≤ R.slots) (e0 : T.heap = h) (E : Exa Z h a C)
    {pc : Nat} {Ls : Array Slot} {st argsL rest : List Value} (hsize : Ls.size = c.maxLocals) (hlen : ∀ sig, parseMethodDescriptor y.desc = some sig → argsL.length = sig.parameters.length) (has : (Value.ref a :: argsL).toArray = as)
    (hst : st = argsL.reverse ++ .ref a :: rest) (hW : 2 * 0 + (rest.map fun v => v.category).sum ≤ W) (hd : decode c.code pc = .ok (.invokevirtual index, 3)) :
    ∃ (T' : State), Stand p l e R s m args below meth c T' locs cells slots ∧ T'.heap = h ∧
      ∀ target, Steps p.tables e below (T'.setTop (mkF m (pc + 3) Ls (w :: rest))) target → Steps p.tables e below (T.setTop (mkF m pc Ls st)) target := by
  obtain ⟨cq, kq, qa, qb, qc⟩ := isOf hZ e0 E
  obtain ⟨v, _, ⟨T', L', k', n'⟩, -, X', ⟨Lc, ⟨rfl, rfl, hh⟩, h1, h2, h3⟩, stp⟩ := X.virtualBack hx (y := y) (z := z) hown (mvT hZ w1) (mvT hZ w2) hnf (mvT hZ ws) (mvT hZ wi) hy
    (backOf (W := W) hM hZ w4 w3 hf hl) qa qc (g := mkF m pc Ls st) rfl hsize (Steps.refl _) (argsL := argsL) (rest := rest) hlen hst hW hd (fun _ _ => ⟨has, e0, hcc, hss⟩)
  dsimp only [Pt.U, Pt.locs, Pt.cells, Pt.slots] at X' h1 h2 h3 stp hh
  subst h1 h2 h3
  rw [List.append_nil, hrc, hrs] at X'
  exact ⟨T', X', hh, fun t k => stp.trans k⟩
theorem own_ke {h h' : Heap} (K : Keep h h' []) : Ext h h' := ⟨K.1, fun a c q => K.2.1 a c q (by simp)⟩
theorem own_ldA (X : Stand p l e R s m args below meth c T locs cells slots) (hx : p.tables.exec = Jvm.exec) (hZ : Z.Warmed39 s.vm) (eT : T.heap = h) {a : Addr} {k : ClassId} {ty : FieldType} {z : Int32} {vs : List Value} {d v : Value} (V : Arv Z h a k ty z vs d) (hty : ty.isReference = true) {j : Int32} (hj : ¬ j < 0 ∧ j < z) (hv : vs.getD j.toNatClampNeg d = v)
    {pc : Nat} {Ls : Array Slot} {rest : List Value} (hd : decode c.code pc = .ok (.aaload, 1)) (target : State) (hr : Steps p.tables e below (T.setTop (mkF m (pc + 1) Ls (v :: rest))) target) : Steps p.tables e below (T.setTop (mkF m pc Ls (.int j :: .ref a :: rest))) target := by
  obtain ⟨cl, Ar, q, S, Nn, H, G⟩ := V
  have hin := inb_of S hj
  refine X.aaload hx (j := j) (v := v) (by rw [eT]; exact Ar.1) (State.isArrayOf_alike hZ.alike Ar.2.1) hty Ar.2.2 hin ?_ (g := mkF m pc Ls (.int j :: .ref a :: rest)) rfl rfl hd _ hr
  rw [H _ (Nat.lt_of_not_le fun q => hin (Or.inr q)), hv]
end OwnHeap
theorem own_pd0 : parseMethodDescriptor "([III)I" = some ⟨[(.array .int), .int, .int], some .int⟩ := by decide +kernel
theorem own_count (p : Int32) : ¬ ((p &&& (7 : Int32)) - ((p &&& (7 : Int32)) / (5 : Int32)) * (5 : Int32)) < 0 ∧ ¬ (4 : Int32) < ((p &&& (7 : Int32)) - ((p &&& (7 : Int32)) / (5 : Int32)) * (5 : Int32)) := by
  have h1 := c_mask p 7 3 (by decide) (by decide)
  generalize (p &&& (7 : Int32)) = x at *
  rw [irem_eq_mod, Int32.lt_iff_toInt_lt, Int32.lt_iff_toInt_lt]
  have h := (c_irem x 5 5 rfl).1 (by omega)
  rw [show (0 : Int32).toInt = 0 from rfl, show (4 : Int32).toInt = 4 from rfl]
  omega
theorem own_d1_0 : decode prog_48_method_14_code 0 = .ok (.iconst 0, 1) := by decide +kernel
theorem own_d1_1 : decode prog_48_method_14_code 1 = .ok (.istore_n 3, 1) := by decide +kernel
theorem own_d1_2 : decode prog_48_method_14_code 2 = .ok (.iload_n 3, 1) := by decide +kernel
theorem own_d1_3 : decode prog_48_method_14_code 3 = .ok (.iload_n 1, 1) := by decide +kernel
theorem own_d1_4 : decode prog_48_method_14_code 4 = .ok (.if_icmp .ge 18, 3) := by decide +kernel
theorem own_d1_7 : decode prog_48_method_14_code 7 = .ok (.aload_n 0, 1) := by decide +kernel
theorem own_d1_8 : decode prog_48_method_14_code 8 = .ok (.iload_n 3, 1) := by decide +kernel
theorem own_d1_9 : decode prog_48_method_14_code 9 = .ok (.iaload, 1) := by decide +kernel
theorem own_d1_10 : decode prog_48_method_14_code 10 = .ok (.iload_n 2, 1) := by decide +kernel
theorem own_d1_11 : decode prog_48_method_14_code 11 = .ok (.if_icmp .ne 5, 3) := by decide +kernel
theorem own_d1_14 : decode prog_48_method_14_code 14 = .ok (.iload_n 3, 1) := by decide +kernel
theorem own_d1_15 : decode prog_48_method_14_code 15 = .ok (.ireturn, 1) := by decide +kernel
theorem own_d1_16 : decode prog_48_method_14_code 16 = .ok (.iinc 3 1, 3) := by decide +kernel
theorem own_d1_19 : decode prog_48_method_14_code 19 = .ok (.goto (-17), 3) := by decide +kernel
theorem own_d1_22 : decode prog_48_method_14_code 22 = .ok (.iconst (-1), 1) := by decide +kernel
theorem own_d1_23 : decode prog_48_method_14_code 23 = .ok (.ireturn, 1) := by decide +kernel
abbrev own_idx_R : Room := { frames := 0, cells := 0, slots := 0, locals := 0 }
theorem own_pn1 : plainFor (⟨"com/example/loudmark/loudmark/mixer/PacketMixer", "indexOf", "([III)I"⟩ : MethodName) = true := plainFor_of_name (by first | (simp [plainName, overriddenIn]; done) | decide +kernel)
theorem own_idx_ef (m : MethodId) (a1 : Addr) (n1 : Int32) (c1 : Int32) : entryFrame m #[(.ref a1), (.int n1), (.int c1)] 4 = mkF m 0 #[.val (.ref a1), .val (.int n1), .val (.int c1), .unset] [] := by first | (simp [entryFrame, mkF, argsToLocals, Value.category]; done) | rfl
def own_Fidx (b0 : Int32) (b1 : Int32) (b2 : Int32) (b3 : Int32) (n1 : Int32) (c1 : Int32) : Int32 := (if (0 : Int32) < n1 then (if b0 = c1 then (0 : Int32) else (if (1 : Int32) < n1 then (if b1 = c1 then (1 : Int32) else (if (2 : Int32) < n1 then (if b2 = c1 then (2 : Int32) else (if (3 : Int32) < n1 then (if b3 = c1 then (3 : Int32) else (-1 : Int32)) else (-1 : Int32))) else (-1 : Int32))) else (-1 : Int32))) else (-1 : Int32))
set_option maxRecDepth 65536 in
set_option maxHeartbeats 40000000 in
theorem own_idx (l : Launch) (Z : State) (a0 : Array Value) (hw : ∀ d ∈ tables_1, d.before a0 Z = true) (ws : List Jvm.Cond) (a1 : Addr) (n1 : Int32) (c1 : Int32) (k0 : ClassId) (b0 : Int32) (b1 : Int32) (b2 : Int32) (b3 : Int32) (h0 : Heap)  (i_V0 : Arv Z h0 a1 k0 .int (4 : Int32) [(.int b0), (.int b1), (.int b2), (.int b3)] (.int (0 : Int32))) (hp_hcnt : ¬ ((4 : Int32) < n1)) :
    own_C l Z (⟨"com/example/loudmark/loudmark/mixer/PacketMixer", "indexOf", "([III)I"⟩ : MethodName) prog_48_method_14_code 4 (some .int) ws own_idx_R #[(.ref a1), (.int n1), (.int c1)] h0 (own_Q (.int (own_Fidx b0 b1 b2 b3 n1 c1)) h0) := by
  refine MetFree.of_bodySF own_pn1 hisR ?_
  intro p e s m args below meth c s₁ Bd hml0 hP hK
  obtain ⟨rfl, hZ, hh⟩ := hP
  have hx := Bd.exec
  have hby := Bd.bytes
  have hml : c.maxLocals = 4 := hml0
  have hown : s.vm.findClass "com/example/loudmark/loudmark/mixer/PacketMixer" = some m.cls := findClass_of_methodNamed Bd.named
  have hnm := (name_of_methodNamed Bd.named Bd.method).1
  have X0 : Stand p l e own_idx_R s m #[(.ref a1), (.int n1), (.int c1)] below meth c s₁ [] 0 0 := Stand.of_body Bd
  have e0 : s₁.heap = h0 := by rw [← hh, Bd.state]; rfl
  show own_G p e below (own_P s (own_Q (.int (own_Fidx b0 b1 b2 b3 n1 c1)) h0) own_idx_R.cells own_idx_R.slots) (s₁.setTop (entryFrame m #[(.ref a1), (.int n1), (.int c1)] 4))
  rw [own_idx_ef m a1 n1 c1]
  show own_G p e below _ (s₁.setTop (mkF m 0 #[.val (.ref a1), .val (.int n1), .val (.int c1), .unset] []))
  refine own_via (fun t k => XS.iconst X0.here hx rfl (hb hby own_d1_0) k) ?_
  show own_G p e below _ (s₁.setTop (mkF m 1 #[.val (.ref a1), .val (.int n1), .val (.int c1), .unset] [(.int (0 : Int32))]))
  refine own_via (fun t k => XS.istoreN X0.here hx rfl (hb hby own_d1_1) rfl (l' := #[.val (.ref a1), .val (.int n1), .val (.int c1), .val (.int (0 : Int32))]) rfl k) ?_
  show own_G p e below _ (s₁.setTop (mkF m 2 #[.val (.ref a1), .val (.int n1), .val (.int c1), .val (.int (0 : Int32))] []))
  refine own_via (fun t k => XS.iloadN X0.here hx rfl (hb hby own_d1_2) rfl k) ?_
  show own_G p e below _ (s₁.setTop (mkF m 3 #[.val (.ref a1), .val (.int n1), .val (.int c1), .val (.int (0 : Int32))] [(.int (0 : Int32))]))
  refine own_via (fun t k => XS.iloadN X0.here hx rfl (hb hby own_d1_3) rfl k) ?_
  show own_G p e below _ (s₁.setTop (mkF m 4 #[.val (.ref a1), .val (.int n1), .val (.int c1), .val (.int (0 : Int32))] [(.int n1), (.int (0 : Int32))]))
  by_cases hc1 : (0 : Int32) < n1
  ·
    refine own_via (fun t k => XS.icmpNo X0.here hx rfl (hb hby own_d1_4) rfl (tlt hc1).2.1 k) ?_
    show own_G p e below _ (s₁.setTop (mkF m 7 #[.val (.ref a1), .val (.int n1), .val (.int c1), .val (.int (0 : Int32))] []))
    refine own_via (fun t k => XS.aloadN X0.here hx rfl (hb hby own_d1_7) rfl rfl k) ?_
    show own_G p e below _ (s₁.setTop (mkF m 8 #[.val (.ref a1), .val (.int n1), .val (.int c1), .val (.int (0 : Int32))] [(.ref a1)]))
    refine own_via (fun t k => XS.iloadN X0.here hx rfl (hb hby own_d1_8) rfl k) ?_
    show own_G p e below _ (s₁.setTop (mkF m 9 #[.val (.ref a1), .val (.int n1), .val (.int c1), .val (.int (0 : Int32))] [(.int (0 : Int32)), (.ref a1)]))
    refine own_via (own_ldI X0 hx hZ e0 i_V0 (j := (0 : Int32)) ⟨by decide, by decide⟩ (v := (.int b0)) rfl (pc := 9) (Ls := #[.val (.ref a1), .val (.int n1), .val (.int c1), .val (.int (0 : Int32))]) (rest := []) (hb hby own_d1_9)) ?_
    show own_G p e below _ (s₁.setTop (mkF m 10 #[.val (.ref a1), .val (.int n1), .val (.int c1), .val (.int (0 : Int32))] [(.int b0)]))
    refine own_via (fun t k => XS.iloadN X0.here hx rfl (hb hby own_d1_10) rfl k) ?_
    show own_G p e below _ (s₁.setTop (mkF m 11 #[.val (.ref a1), .val (.int n1), .val (.int c1), .val (.int (0 : Int32))] [(.int c1), (.int b0)]))
    by_cases hc2 : b0 = c1
    ·
      refine own_via (fun t k => XS.icmpNo X0.here hx rfl (hb hby own_d1_11) rfl (teq hc2).2 k) ?_
      show own_G p e below _ (s₁.setTop (mkF m 14 #[.val (.ref a1), .val (.int n1), .val (.int c1), .val (.int (0 : Int32))] []))
      refine own_via (fun t k => XS.iloadN X0.here hx rfl (hb hby own_d1_14) rfl k) ?_
      show own_G p e below _ (s₁.setTop (mkF m 15 #[.val (.ref a1), .val (.int n1), .val (.int c1), .val (.int (0 : Int32))] [(.int (0 : Int32))]))
      exact own_retI X0 hx Bd.returns Bd.notSynchronized (hb hby own_d1_15) ⟨(by show (some (.int (0 : Int32)) : Option Value) = some (.int (own_Fidx b0 b1 b2 b3 n1 c1)); simp only [own_Fidx, if_neg hp_hcnt, if_pos hc1, if_pos hc2]), rfl, e0⟩ (by decide) (by decide)
    ·
      refine own_via (fun t k => XS.icmpYes X0.here hx rfl (pc0 := 11) (pc' := 16) rfl (hb hby own_d1_11) rfl (feq hc2).2 (by decide) (by decide) k) ?_
      show own_G p e below _ (s₁.setTop (mkF m 16 #[.val (.ref a1), .val (.int n1), .val (.int c1), .val (.int (0 : Int32))] []))
      refine own_via (fun t k => XS.iinc X0.here hx rfl (hb hby own_d1_16) rfl (l' := #[.val (.ref a1), .val (.int n1), .val (.int c1), .val (.int (1 : Int32))]) rfl k) ?_
      show own_G p e below _ (s₁.setTop (mkF m 19 #[.val (.ref a1), .val (.int n1), .val (.int c1), .val (.int (1 : Int32))] []))
      refine own_via (fun t k => XS.goto X0.here hx rfl (pc0 := 19) (pc' := 2) rfl (hb hby own_d1_19) (by decide) (by decide) k) ?_
      show own_G p e below _ (s₁.setTop (mkF m 2 #[.val (.ref a1), .val (.int n1), .val (.int c1), .val (.int (1 : Int32))] []))
      refine own_via (fun t k => XS.iloadN X0.here hx rfl (hb hby own_d1_2) rfl k) ?_
      show own_G p e below _ (s₁.setTop (mkF m 3 #[.val (.ref a1), .val (.int n1), .val (.int c1), .val (.int (1 : Int32))] [(.int (1 : Int32))]))
      refine own_via (fun t k => XS.iloadN X0.here hx rfl (hb hby own_d1_3) rfl k) ?_
      show own_G p e below _ (s₁.setTop (mkF m 4 #[.val (.ref a1), .val (.int n1), .val (.int c1), .val (.int (1 : Int32))] [(.int n1), (.int (1 : Int32))]))
      by_cases hc3 : (1 : Int32) < n1
      ·
        refine own_via (fun t k => XS.icmpNo X0.here hx rfl (hb hby own_d1_4) rfl (tlt hc3).2.1 k) ?_
        show own_G p e below _ (s₁.setTop (mkF m 7 #[.val (.ref a1), .val (.int n1), .val (.int c1), .val (.int (1 : Int32))] []))
        refine own_via (fun t k => XS.aloadN X0.here hx rfl (hb hby own_d1_7) rfl rfl k) ?_
        show own_G p e below _ (s₁.setTop (mkF m 8 #[.val (.ref a1), .val (.int n1), .val (.int c1), .val (.int (1 : Int32))] [(.ref a1)]))
        refine own_via (fun t k => XS.iloadN X0.here hx rfl (hb hby own_d1_8) rfl k) ?_
        show own_G p e below _ (s₁.setTop (mkF m 9 #[.val (.ref a1), .val (.int n1), .val (.int c1), .val (.int (1 : Int32))] [(.int (1 : Int32)), (.ref a1)]))
        refine own_via (own_ldI X0 hx hZ e0 i_V0 (j := (1 : Int32)) ⟨by decide, by decide⟩ (v := (.int b1)) rfl (pc := 9) (Ls := #[.val (.ref a1), .val (.int n1), .val (.int c1), .val (.int (1 : Int32))]) (rest := []) (hb hby own_d1_9)) ?_
        show own_G p e below _ (s₁.setTop (mkF m 10 #[.val (.ref a1), .val (.int n1), .val (.int c1), .val (.int (1 : Int32))] [(.int b1)]))
        refine own_via (fun t k => XS.iloadN X0.here hx rfl (hb hby own_d1_10) rfl k) ?_
        show own_G p e below _ (s₁.setTop (mkF m 11 #[.val (.ref a1), .val (.int n1), .val (.int c1), .val (.int (1 : Int32))] [(.int c1), (.int b1)]))
        by_cases hc4 : b1 = c1
        ·
          refine own_via (fun t k => XS.icmpNo X0.here hx rfl (hb hby own_d1_11) rfl (teq hc4).2 k) ?_
          show own_G p e below _ (s₁.setTop (mkF m 14 #[.val (.ref a1), .val (.int n1), .val (.int c1), .val (.int (1 : Int32))] []))
          refine own_via (fun t k => XS.iloadN X0.here hx rfl (hb hby own_d1_14) rfl k) ?_
          show own_G p e below _ (s₁.setTop (mkF m 15 #[.val (.ref a1), .val (.int n1), .val (.int c1), .val (.int (1 : Int32))] [(.int (1 : Int32))]))
          exact own_retI X0 hx Bd.returns Bd.notSynchronized (hb hby own_d1_15) ⟨(by show (some (.int (1 : Int32)) : Option Value) = some (.int (own_Fidx b0 b1 b2 b3 n1 c1)); simp only [own_Fidx, if_neg hp_hcnt, if_pos hc1, if_neg hc2, if_pos hc3, if_pos hc4]), rfl, e0⟩ (by decide) (by decide)
        ·
          refine own_via (fun t k => XS.icmpYes X0.here hx rfl (pc0 := 11) (pc' := 16) rfl (hb hby own_d1_11) rfl (feq hc4).2 (by decide) (by decide) k) ?_
          show own_G p e below _ (s₁.setTop (mkF m 16 #[.val (.ref a1), .val (.int n1), .val (.int c1), .val (.int (1 : Int32))] []))
          refine own_via (fun t k => XS.iinc X0.here hx rfl (hb hby own_d1_16) rfl (l' := #[.val (.ref a1), .val (.int n1), .val (.int c1), .val (.int (2 : Int32))]) rfl k) ?_
          show own_G p e below _ (s₁.setTop (mkF m 19 #[.val (.ref a1), .val (.int n1), .val (.int c1), .val (.int (2 : Int32))] []))
          refine own_via (fun t k => XS.goto X0.here hx rfl (pc0 := 19) (pc' := 2) rfl (hb hby own_d1_19) (by decide) (by decide) k) ?_
          show own_G p e below _ (s₁.setTop (mkF m 2 #[.val (.ref a1), .val (.int n1), .val (.int c1), .val (.int (2 : Int32))] []))
          refine own_via (fun t k => XS.iloadN X0.here hx rfl (hb hby own_d1_2) rfl k) ?_
          show own_G p e below _ (s₁.setTop (mkF m 3 #[.val (.ref a1), .val (.int n1), .val (.int c1), .val (.int (2 : Int32))] [(.int (2 : Int32))]))
          refine own_via (fun t k => XS.iloadN X0.here hx rfl (hb hby own_d1_3) rfl k) ?_
          show own_G p e below _ (s₁.setTop (mkF m 4 #[.val (.ref a1), .val (.int n1), .val (.int c1), .val (.int (2 : Int32))] [(.int n1), (.int (2 : Int32))]))
          by_cases hc5 : (2 : Int32) < n1
          ·
            refine own_via (fun t k => XS.icmpNo X0.here hx rfl (hb hby own_d1_4) rfl (tlt hc5).2.1 k) ?_
            show own_G p e below _ (s₁.setTop (mkF m 7 #[.val (.ref a1), .val (.int n1), .val (.int c1), .val (.int (2 : Int32))] []))
            refine own_via (fun t k => XS.aloadN X0.here hx rfl (hb hby own_d1_7) rfl rfl k) ?_
            show own_G p e below _ (s₁.setTop (mkF m 8 #[.val (.ref a1), .val (.int n1), .val (.int c1), .val (.int (2 : Int32))] [(.ref a1)]))
            refine own_via (fun t k => XS.iloadN X0.here hx rfl (hb hby own_d1_8) rfl k) ?_
            show own_G p e below _ (s₁.setTop (mkF m 9 #[.val (.ref a1), .val (.int n1), .val (.int c1), .val (.int (2 : Int32))] [(.int (2 : Int32)), (.ref a1)]))
            refine own_via (own_ldI X0 hx hZ e0 i_V0 (j := (2 : Int32)) ⟨by decide, by decide⟩ (v := (.int b2)) rfl (pc := 9) (Ls := #[.val (.ref a1), .val (.int n1), .val (.int c1), .val (.int (2 : Int32))]) (rest := []) (hb hby own_d1_9)) ?_
            show own_G p e below _ (s₁.setTop (mkF m 10 #[.val (.ref a1), .val (.int n1), .val (.int c1), .val (.int (2 : Int32))] [(.int b2)]))
            refine own_via (fun t k => XS.iloadN X0.here hx rfl (hb hby own_d1_10) rfl k) ?_
            show own_G p e below _ (s₁.setTop (mkF m 11 #[.val (.ref a1), .val (.int n1), .val (.int c1), .val (.int (2 : Int32))] [(.int c1), (.int b2)]))
            by_cases hc6 : b2 = c1
            ·
              refine own_via (fun t k => XS.icmpNo X0.here hx rfl (hb hby own_d1_11) rfl (teq hc6).2 k) ?_
              show own_G p e below _ (s₁.setTop (mkF m 14 #[.val (.ref a1), .val (.int n1), .val (.int c1), .val (.int (2 : Int32))] []))
              refine own_via (fun t k => XS.iloadN X0.here hx rfl (hb hby own_d1_14) rfl k) ?_
              show own_G p e below _ (s₁.setTop (mkF m 15 #[.val (.ref a1), .val (.int n1), .val (.int c1), .val (.int (2 : Int32))] [(.int (2 : Int32))]))
              exact own_retI X0 hx Bd.returns Bd.notSynchronized (hb hby own_d1_15) ⟨(by show (some (.int (2 : Int32)) : Option Value) = some (.int (own_Fidx b0 b1 b2 b3 n1 c1)); simp only [own_Fidx, if_neg hp_hcnt, if_pos hc1, if_neg hc2, if_pos hc3, if_neg hc4, if_pos hc5, if_pos hc6]), rfl, e0⟩ (by decide) (by decide)
            ·
              refine own_via (fun t k => XS.icmpYes X0.here hx rfl (pc0 := 11) (pc' := 16) rfl (hb hby own_d1_11) rfl (feq hc6).2 (by decide) (by decide) k) ?_
              show own_G p e below _ (s₁.setTop (mkF m 16 #[.val (.ref a1), .val (.int n1), .val (.int c1), .val (.int (2 : Int32))] []))
              refine own_via (fun t k => XS.iinc X0.here hx rfl (hb hby own_d1_16) rfl (l' := #[.val (.ref a1), .val (.int n1), .val (.int c1), .val (.int (3 : Int32))]) rfl k) ?_
              show own_G p e below _ (s₁.setTop (mkF m 19 #[.val (.ref a1), .val (.int n1), .val (.int c1), .val (.int (3 : Int32))] []))
              refine own_via (fun t k => XS.goto X0.here hx rfl (pc0 := 19) (pc' := 2) rfl (hb hby own_d1_19) (by decide) (by decide) k) ?_
              show own_G p e below _ (s₁.setTop (mkF m 2 #[.val (.ref a1), .val (.int n1), .val (.int c1), .val (.int (3 : Int32))] []))
              refine own_via (fun t k => XS.iloadN X0.here hx rfl (hb hby own_d1_2) rfl k) ?_
              show own_G p e below _ (s₁.setTop (mkF m 3 #[.val (.ref a1), .val (.int n1), .val (.int c1), .val (.int (3 : Int32))] [(.int (3 : Int32))]))
              refine own_via (fun t k => XS.iloadN X0.here hx rfl (hb hby own_d1_3) rfl k) ?_
              show own_G p e below _ (s₁.setTop (mkF m 4 #[.val (.ref a1), .val (.int n1), .val (.int c1), .val (.int (3 : Int32))] [(.int n1), (.int (3 : Int32))]))
              by_cases hc7 : (3 : Int32) < n1
              ·
                refine own_via (fun t k => XS.icmpNo X0.here hx rfl (hb hby own_d1_4) rfl (tlt hc7).2.1 k) ?_
                show own_G p e below _ (s₁.setTop (mkF m 7 #[.val (.ref a1), .val (.int n1), .val (.int c1), .val (.int (3 : Int32))] []))
                refine own_via (fun t k => XS.aloadN X0.here hx rfl (hb hby own_d1_7) rfl rfl k) ?_
                show own_G p e below _ (s₁.setTop (mkF m 8 #[.val (.ref a1), .val (.int n1), .val (.int c1), .val (.int (3 : Int32))] [(.ref a1)]))
                refine own_via (fun t k => XS.iloadN X0.here hx rfl (hb hby own_d1_8) rfl k) ?_
                show own_G p e below _ (s₁.setTop (mkF m 9 #[.val (.ref a1), .val (.int n1), .val (.int c1), .val (.int (3 : Int32))] [(.int (3 : Int32)), (.ref a1)]))
                refine own_via (own_ldI X0 hx hZ e0 i_V0 (j := (3 : Int32)) ⟨by decide, by decide⟩ (v := (.int b3)) rfl (pc := 9) (Ls := #[.val (.ref a1), .val (.int n1), .val (.int c1), .val (.int (3 : Int32))]) (rest := []) (hb hby own_d1_9)) ?_
                show own_G p e below _ (s₁.setTop (mkF m 10 #[.val (.ref a1), .val (.int n1), .val (.int c1), .val (.int (3 : Int32))] [(.int b3)]))
                refine own_via (fun t k => XS.iloadN X0.here hx rfl (hb hby own_d1_10) rfl k) ?_
                show own_G p e below _ (s₁.setTop (mkF m 11 #[.val (.ref a1), .val (.int n1), .val (.int c1), .val (.int (3 : Int32))] [(.int c1), (.int b3)]))
                by_cases hc8 : b3 = c1
                ·
                  refine own_via (fun t k => XS.icmpNo X0.here hx rfl (hb hby own_d1_11) rfl (teq hc8).2 k) ?_
                  show own_G p e below _ (s₁.setTop (mkF m 14 #[.val (.ref a1), .val (.int n1), .val (.int c1), .val (.int (3 : Int32))] []))
                  refine own_via (fun t k => XS.iloadN X0.here hx rfl (hb hby own_d1_14) rfl k) ?_
                  show own_G p e below _ (s₁.setTop (mkF m 15 #[.val (.ref a1), .val (.int n1), .val (.int c1), .val (.int (3 : Int32))] [(.int (3 : Int32))]))
                  exact own_retI X0 hx Bd.returns Bd.notSynchronized (hb hby own_d1_15) ⟨(by show (some (.int (3 : Int32)) : Option Value) = some (.int (own_Fidx b0 b1 b2 b3 n1 c1)); simp only [own_Fidx, if_neg hp_hcnt, if_pos hc1, if_neg hc2, if_pos hc3, if_neg hc4, if_pos hc5, if_neg hc6, if_pos hc7, if_pos hc8]), rfl, e0⟩ (by decide) (by decide)
                ·
                  refine own_via (fun t k => XS.icmpYes X0.here hx rfl (pc0 := 11) (pc' := 16) rfl (hb hby own_d1_11) rfl (feq hc8).2 (by decide) (by decide) k) ?_
                  show own_G p e below _ (s₁.setTop (mkF m 16 #[.val (.ref a1), .val (.int n1), .val (.int c1), .val (.int (3 : Int32))] []))
                  refine own_via (fun t k => XS.iinc X0.here hx rfl (hb hby own_d1_16) rfl (l' := #[.val (.ref a1), .val (.int n1), .val (.int c1), .val (.int (4 : Int32))]) rfl k) ?_
                  show own_G p e below _ (s₁.setTop (mkF m 19 #[.val (.ref a1), .val (.int n1), .val (.int c1), .val (.int (4 : Int32))] []))
                  refine own_via (fun t k => XS.goto X0.here hx rfl (pc0 := 19) (pc' := 2) rfl (hb hby own_d1_19) (by decide) (by decide) k) ?_
                  show own_G p e below _ (s₁.setTop (mkF m 2 #[.val (.ref a1), .val (.int n1), .val (.int c1), .val (.int (4 : Int32))] []))
                  refine own_via (fun t k => XS.iloadN X0.here hx rfl (hb hby own_d1_2) rfl k) ?_
                  show own_G p e below _ (s₁.setTop (mkF m 3 #[.val (.ref a1), .val (.int n1), .val (.int c1), .val (.int (4 : Int32))] [(.int (4 : Int32))]))
                  refine own_via (fun t k => XS.iloadN X0.here hx rfl (hb hby own_d1_3) rfl k) ?_
                  show own_G p e below _ (s₁.setTop (mkF m 4 #[.val (.ref a1), .val (.int n1), .val (.int c1), .val (.int (4 : Int32))] [(.int n1), (.int (4 : Int32))]))
                  refine own_via (fun t k => XS.icmpYes X0.here hx rfl (pc0 := 4) (pc' := 22) rfl (hb hby own_d1_4) rfl (flt hp_hcnt).2.1 (by decide) (by decide) k) ?_
                  show own_G p e below _ (s₁.setTop (mkF m 22 #[.val (.ref a1), .val (.int n1), .val (.int c1), .val (.int (4 : Int32))] []))
                  refine own_via (fun t k => XS.iconst X0.here hx rfl (hb hby own_d1_22) k) ?_
                  show own_G p e below _ (s₁.setTop (mkF m 23 #[.val (.ref a1), .val (.int n1), .val (.int c1), .val (.int (4 : Int32))] [(.int (-1 : Int32))]))
                  exact own_retI X0 hx Bd.returns Bd.notSynchronized (hb hby own_d1_23) ⟨(by show (some (.int (-1 : Int32)) : Option Value) = some (.int (own_Fidx b0 b1 b2 b3 n1 c1)); simp only [own_Fidx, if_neg hp_hcnt, if_pos hc1, if_neg hc2, if_pos hc3, if_neg hc4, if_pos hc5, if_neg hc6, if_pos hc7, if_neg hc8]), rfl, e0⟩ (by decide) (by decide)
              ·
                refine own_via (fun t k => XS.icmpYes X0.here hx rfl (pc0 := 4) (pc' := 22) rfl (hb hby own_d1_4) rfl (flt hc7).2.1 (by decide) (by decide) k) ?_
                show own_G p e below _ (s₁.setTop (mkF m 22 #[.val (.ref a1), .val (.int n1), .val (.int c1), .val (.int (3 : Int32))] []))
                refine own_via (fun t k => XS.iconst X0.here hx rfl (hb hby own_d1_22) k) ?_
                show own_G p e below _ (s₁.setTop (mkF m 23 #[.val (.ref a1), .val (.int n1), .val (.int c1), .val (.int (3 : Int32))] [(.int (-1 : Int32))]))
                exact own_retI X0 hx Bd.returns Bd.notSynchronized (hb hby own_d1_23) ⟨(by show (some (.int (-1 : Int32)) : Option Value) = some (.int (own_Fidx b0 b1 b2 b3 n1 c1)); simp only [own_Fidx, if_neg hp_hcnt, if_pos hc1, if_neg hc2, if_pos hc3, if_neg hc4, if_pos hc5, if_neg hc6, if_neg hc7]), rfl, e0⟩ (by decide) (by decide)
          ·
            refine own_via (fun t k => XS.icmpYes X0.here hx rfl (pc0 := 4) (pc' := 22) rfl (hb hby own_d1_4) rfl (flt hc5).2.1 (by decide) (by decide) k) ?_
            show own_G p e below _ (s₁.setTop (mkF m 22 #[.val (.ref a1), .val (.int n1), .val (.int c1), .val (.int (2 : Int32))] []))
            refine own_via (fun t k => XS.iconst X0.here hx rfl (hb hby own_d1_22) k) ?_
            show own_G p e below _ (s₁.setTop (mkF m 23 #[.val (.ref a1), .val (.int n1), .val (.int c1), .val (.int (2 : Int32))] [(.int (-1 : Int32))]))
            exact own_retI X0 hx Bd.returns Bd.notSynchronized (hb hby own_d1_23) ⟨(by show (some (.int (-1 : Int32)) : Option Value) = some (.int (own_Fidx b0 b1 b2 b3 n1 c1)); simp only [own_Fidx, if_neg hp_hcnt, if_pos hc1, if_neg hc2, if_pos hc3, if_neg hc4, if_neg hc5]), rfl, e0⟩ (by decide) (by decide)
      ·
        refine own_via (fun t k => XS.icmpYes X0.here hx rfl (pc0 := 4) (pc' := 22) rfl (hb hby own_d1_4) rfl (flt hc3).2.1 (by decide) (by decide) k) ?_
        show own_G p e below _ (s₁.setTop (mkF m 22 #[.val (.ref a1), .val (.int n1), .val (.int c1), .val (.int (1 : Int32))] []))
        refine own_via (fun t k => XS.iconst X0.here hx rfl (hb hby own_d1_22) k) ?_
        show own_G p e below _ (s₁.setTop (mkF m 23 #[.val (.ref a1), .val (.int n1), .val (.int c1), .val (.int (1 : Int32))] [(.int (-1 : Int32))]))
        exact own_retI X0 hx Bd.returns Bd.notSynchronized (hb hby own_d1_23) ⟨(by show (some (.int (-1 : Int32)) : Option Value) = some (.int (own_Fidx b0 b1 b2 b3 n1 c1)); simp only [own_Fidx, if_neg hp_hcnt, if_pos hc1, if_neg hc2, if_neg hc3]), rfl, e0⟩ (by decide) (by decide)
  ·
    refine own_via (fun t k => XS.icmpYes X0.here hx rfl (pc0 := 4) (pc' := 22) rfl (hb hby own_d1_4) rfl (flt hc1).2.1 (by decide) (by decide) k) ?_
    show own_G p e below _ (s₁.setTop (mkF m 22 #[.val (.ref a1), .val (.int n1), .val (.int c1), .val (.int (0 : Int32))] []))
    refine own_via (fun t k => XS.iconst X0.here hx rfl (hb hby own_d1_22) k) ?_
    show own_G p e below _ (s₁.setTop (mkF m 23 #[.val (.ref a1), .val (.int n1), .val (.int c1), .val (.int (0 : Int32))] [(.int (-1 : Int32))]))
    exact own_retI X0 hx Bd.returns Bd.notSynchronized (hb hby own_d1_23) ⟨(by show (some (.int (-1 : Int32)) : Option Value) = some (.int (own_Fidx b0 b1 b2 b3 n1 c1)); simp only [own_Fidx, if_neg hp_hcnt, if_neg hc1]), rfl, e0⟩ (by decide) (by decide)
theorem own_idx_eq (b0 b1 b2 b3 n c : Int32) :
    own_Fidx b0 b1 b2 b3 n c = (if (0 : Int32) < n then (if b0 = c then (0 : Int32) else (if (1 : Int32) < n then (if b1 = c then (1 : Int32) else (if (2 : Int32) < n then (if b2 = c then (2 : Int32) else (if (3 : Int32) < n then (if b3 = c then (3 : Int32) else (-1 : Int32)) else (-1 : Int32))) else (if (3 : Int32) < n then (if b3 = c then (3 : Int32) else (-1 : Int32)) else (-1 : Int32)))) else (if (2 : Int32) < n then (if b2 = c then (2 : Int32) else (if (3 : Int32) < n then (if b3 = c then (3 : Int32) else (-1 : Int32)) else (-1 : Int32))) else (if (3 : Int32) < n then (if b3 = c then (3 : Int32) else (-1 : Int32)) else (-1 : Int32))))) else (if (1 : Int32) < n then (if b1 = c then (1 : Int32) else (if (2 : Int32) < n then (if b2 = c then (2 : Int32) else (if (3 : Int32) < n then (if b3 = c then (3 : Int32) else (-1 : Int32)) else (-1 : Int32))) else (if (3 : Int32) < n then (if b3 = c then (3 : Int32) else (-1 : Int32)) else (-1 : Int32)))) else (if (2 : Int32) < n then (if b2 = c then (2 : Int32) else (if (3 : Int32) < n then (if b3 = c then (3 : Int32) else (-1 : Int32)) else (-1 : Int32))) else (if (3 : Int32) < n then (if b3 = c then (3 : Int32) else (-1 : Int32)) else (-1 : Int32))))) := by
  simp only [own_Fidx, Int32.lt_iff_toInt_lt, show (0 : Int32).toInt = 0 from rfl, show (1 : Int32).toInt = 1 from rfl, show (2 : Int32).toInt = 2 from rfl, show (3 : Int32).toInt = 3 from rfl]
  generalize n.toInt = k
  have hk : k ≤ 0 ∨ k = 1 ∨ k = 2 ∨ k = 3 ∨ 4 ≤ k := by omega
  rcases hk with h | h | h | h | h
  all_goals simp (disch := omega) only [if_pos, if_neg, ite_true, ite_false, ite_self]
theorem own_pn0 : plainFor x = true := plainFor_of_name (by first | (simp [plainName, overriddenIn]; done) | decide +kernel)
theorem own_rm0_ef (m : MethodId) (p0 : Int32) (p1 : Int32) (p2 : Int32) (p3 : Int32) (p4 : Int32) (p5 : Int32) : entryFrame m #[(.int p0), (.int p1), (.int p2), (.int p3), (.int p4), (.int p5)] maxLocals = mkF m 0 #[.val (.int p0), .val (.int p1), .val (.int p2), .val (.int p3), .val (.int p4), .val (.int p5), .unset, .unset, .unset, .unset, .unset, .unset, .unset, .unset] [] := by first | (simp [entryFrame, mkF, argsToLocals, Value.category, maxLocals]; done) | rfl
set_option maxRecDepth 65536 in
set_option maxHeartbeats 40000000 in
theorem own_rm0 (l : Launch) (Z : State) (a0 : Array Value) (hw : ∀ d ∈ tables_1, d.before a0 Z = true) (ws : List Jvm.Cond) (p0 : Int32) (p1 : Int32) (p2 : Int32) (p3 : Int32) (p4 : Int32) (p5 : Int32)  (h0 : Heap) (n0 : Nat) (Z0 : n0 ≤ h0.size)  :
    own_C l Z x code maxLocals ret ws room_1 #[(.int p0), (.int p1), (.int p2), (.int p3), (.int p4), (.int p5)] h0 (own_W n0 (fun v _ => v = some (.int 1))) := by
  refine MetFree.of_bodySF own_pn0 hisR ?_
  intro p e s m args below meth c s₁ Bd hml0 hP hK
  obtain ⟨rfl, hZ, hh⟩ := hP
  have hx := Bd.exec
  have hby := Bd.bytes
  have hml : c.maxLocals = 14 := hml0
  have hown : s.vm.findClass "com/example/loudmark/loudmark/mixer/PacketMixerIndexOfPinLaw" = some m.cls := findClass_of_methodNamed Bd.named
  have hnm := (name_of_methodNamed Bd.named Bd.method).1
  have X0 : Stand p l e room_1 s m #[(.int p0), (.int p1), (.int p2), (.int p3), (.int p4), (.int p5)] below meth c s₁ [] 0 0 := Stand.of_body Bd
  have e0 : s₁.heap = h0 := by rw [← hh, Bd.state]; rfl
  have N0 := Fr.nil n0
  show own_G p e below (own_P s (own_W n0 (fun v _ => v = some (.int 1))) room_1.cells room_1.slots) (s₁.setTop (entryFrame m #[(.int p0), (.int p1), (.int p2), (.int p3), (.int p4), (.int p5)] maxLocals))
  rw [own_rm0_ef m p0 p1 p2 p3 p4 p5]
  show own_G p e below _ (s₁.setTop (mkF m 0 #[.val (.int p0), .val (.int p1), .val (.int p2), .val (.int p3), .val (.int p4), .val (.int p5), .unset, .unset, .unset, .unset, .unset, .unset, .unset, .unset] []))
  refine own_via (fun t k => XS.iload X0.here hx rfl (hb hby at_0) rfl k) ?_
  show own_G p e below _ (s₁.setTop (mkF m 2 #[.val (.int p0), .val (.int p1), .val (.int p2), .val (.int p3), .val (.int p4), .val (.int p5), .unset, .unset, .unset, .unset, .unset, .unset, .unset, .unset] [(.int p5)]))
  refine own_via (fun t k => XS.bipush X0.here hx rfl (hb hby at_2) k) ?_
  show own_G p e below _ (s₁.setTop (mkF m 4 #[.val (.int p0), .val (.int p1), .val (.int p2), .val (.int p3), .val (.int p4), .val (.int p5), .unset, .unset, .unset, .unset, .unset, .unset, .unset, .unset] [(.int (7 : Int32)), (.int p5)]))
  refine own_via (fun t k => XS.iand X0.here hx rfl (hb hby at_4) rfl k) ?_
  show own_G p e below _ (s₁.setTop (mkF m 5 #[.val (.int p0), .val (.int p1), .val (.int p2), .val (.int p3), .val (.int p4), .val (.int p5), .unset, .unset, .unset, .unset, .unset, .unset, .unset, .unset] [(.int (p5 &&& (7 : Int32)))]))
  refine own_via (fun t k => XS.iconst X0.here hx rfl (hb hby at_5) k) ?_
  show own_G p e below _ (s₁.setTop (mkF m 6 #[.val (.int p0), .val (.int p1), .val (.int p2), .val (.int p3), .val (.int p4), .val (.int p5), .unset, .unset, .unset, .unset, .unset, .unset, .unset, .unset] [(.int (5 : Int32)), (.int (p5 &&& (7 : Int32)))]))
  refine own_via (fun t k => XS.irem X0.here hx rfl (hb hby at_6) rfl (by decide) k) ?_
  show own_G p e below _ (s₁.setTop (mkF m 7 #[.val (.int p0), .val (.int p1), .val (.int p2), .val (.int p3), .val (.int p4), .val (.int p5), .unset, .unset, .unset, .unset, .unset, .unset, .unset, .unset] [(.int ((p5 &&& (7 : Int32)) - ((p5 &&& (7 : Int32)) / (5 : Int32)) * (5 : Int32)))]))
  generalize hvg1 : ((p5 &&& (7 : Int32)) - ((p5 &&& (7 : Int32)) / (5 : Int32)) * (5 : Int32)) = vg1
  show own_G p e below _ (s₁.setTop (mkF m 7 #[.val (.int p0), .val (.int p1), .val (.int p2), .val (.int p3), .val (.int p4), .val (.int p5), .unset, .unset, .unset, .unset, .unset, .unset, .unset, .unset] [(.int vg1)]))
  refine own_via (fun t k => XS.istore X0.here hx rfl (hb hby at_7) rfl (l' := #[.val (.int p0), .val (.int p1), .val (.int p2), .val (.int p3), .val (.int p4), .val (.int p5), .val (.int vg1), .unset, .unset, .unset, .unset, .unset, .unset, .unset]) rfl k) ?_
  show own_G p e below _ (s₁.setTop (mkF m 9 #[.val (.int p0), .val (.int p1), .val (.int p2), .val (.int p3), .val (.int p4), .val (.int p5), .val (.int vg1), .unset, .unset, .unset, .unset, .unset, .unset, .unset] []))
  refine own_via (fun t k => XS.iload X0.here hx rfl (hb hby at_9) rfl k) ?_
  show own_G p e below _ (s₁.setTop (mkF m 11 #[.val (.int p0), .val (.int p1), .val (.int p2), .val (.int p3), .val (.int p4), .val (.int p5), .val (.int vg1), .unset, .unset, .unset, .unset, .unset, .unset, .unset] [(.int p5)]))
  refine own_via (fun t k => XS.iconst X0.here hx rfl (hb hby at_11) k) ?_
  show own_G p e below _ (s₁.setTop (mkF m 12 #[.val (.int p0), .val (.int p1), .val (.int p2), .val (.int p3), .val (.int p4), .val (.int p5), .val (.int vg1), .unset, .unset, .unset, .unset, .unset, .unset, .unset] [(.int (3 : Int32)), (.int p5)]))
  refine own_via (fun t k => XS.ishr X0.here hx rfl (hb hby at_12) rfl k) ?_
  show own_G p e below _ (s₁.setTop (mkF m 13 #[.val (.int p0), .val (.int p1), .val (.int p2), .val (.int p3), .val (.int p4), .val (.int p5), .val (.int vg1), .unset, .unset, .unset, .unset, .unset, .unset, .unset] [(.int (p5 >>> ((3 : Int32) &&& 31)))]))
  refine own_via (fun t k => XS.iconst X0.here hx rfl (hb hby at_13) k) ?_
  show own_G p e below _ (s₁.setTop (mkF m 14 #[.val (.int p0), .val (.int p1), .val (.int p2), .val (.int p3), .val (.int p4), .val (.int p5), .val (.int vg1), .unset, .unset, .unset, .unset, .unset, .unset, .unset] [(.int (1 : Int32)), (.int (p5 >>> ((3 : Int32) &&& 31)))]))
  refine own_via (fun t k => XS.iand X0.here hx rfl (hb hby at_14) rfl k) ?_
  show own_G p e below _ (s₁.setTop (mkF m 15 #[.val (.int p0), .val (.int p1), .val (.int p2), .val (.int p3), .val (.int p4), .val (.int p5), .val (.int vg1), .unset, .unset, .unset, .unset, .unset, .unset, .unset] [(.int ((p5 >>> ((3 : Int32) &&& 31)) &&& (1 : Int32)))]))
  have J2 : ∀ (TJ2 : State) (XJ2 : Stand p l e room_1 s m #[(.int p0), (.int p1), (.int p2), (.int p3), (.int p4), (.int p5)] below meth c TJ2 [] 0 0) (EJ2 : TJ2.heap = h0) (zj3 : Int32), zj3 = (if ((p5 >>> ((3 : Int32) &&& 31)) &&& (1 : Int32)) = (0 : Int32) then p0 else p4) → own_G p e below (own_P s (own_W n0 (fun v _ => v = some (.int 1))) room_1.cells room_1.slots) (TJ2.setTop (mkF m 24 #[.val (.int p0), .val (.int p1), .val (.int p2), .val (.int p3), .val (.int p4), .val (.int p5), .val (.int vg1), .unset, .unset, .unset, .unset, .unset, .unset, .unset] [(.int zj3)])) := by
    intro TJ2 XJ2 EJ2 zj3 hzj3
    refine own_via (fun t k => XS.istore XJ2.here hx rfl (hb hby at_24) rfl (l' := #[.val (.int p0), .val (.int p1), .val (.int p2), .val (.int p3), .val (.int p4), .val (.int p5), .val (.int vg1), .val (.int zj3), .unset, .unset, .unset, .unset, .unset, .unset]) rfl k) ?_
    show own_G p e below _ (TJ2.setTop (mkF m 26 #[.val (.int p0), .val (.int p1), .val (.int p2), .val (.int p3), .val (.int p4), .val (.int p5), .val (.int vg1), .val (.int zj3), .unset, .unset, .unset, .unset, .unset, .unset] []))
    refine own_via (fun t k => XS.iload XJ2.here hx rfl (hb hby at_26) rfl k) ?_
    show own_G p e below _ (TJ2.setTop (mkF m 28 #[.val (.int p0), .val (.int p1), .val (.int p2), .val (.int p3), .val (.int p4), .val (.int p5), .val (.int vg1), .val (.int zj3), .unset, .unset, .unset, .unset, .unset, .unset] [(.int p5)]))
    refine own_via (fun t k => XS.iconst XJ2.here hx rfl (hb hby at_28) k) ?_
    show own_G p e below _ (TJ2.setTop (mkF m 29 #[.val (.int p0), .val (.int p1), .val (.int p2), .val (.int p3), .val (.int p4), .val (.int p5), .val (.int vg1), .val (.int zj3), .unset, .unset, .unset, .unset, .unset, .unset] [(.int (4 : Int32)), (.int p5)]))
    refine own_via (fun t k => XS.ishr XJ2.here hx rfl (hb hby at_29) rfl k) ?_
    show own_G p e below _ (TJ2.setTop (mkF m 30 #[.val (.int p0), .val (.int p1), .val (.int p2), .val (.int p3), .val (.int p4), .val (.int p5), .val (.int vg1), .val (.int zj3), .unset, .unset, .unset, .unset, .unset, .unset] [(.int (p5 >>> ((4 : Int32) &&& 31)))]))
    refine own_via (fun t k => XS.iconst XJ2.here hx rfl (hb hby at_30) k) ?_
    show own_G p e below _ (TJ2.setTop (mkF m 31 #[.val (.int p0), .val (.int p1), .val (.int p2), .val (.int p3), .val (.int p4), .val (.int p5), .val (.int vg1), .val (.int zj3), .unset, .unset, .unset, .unset, .unset, .unset] [(.int (1 : Int32)), (.int (p5 >>> ((4 : Int32) &&& 31)))]))
    refine own_via (fun t k => XS.iand XJ2.here hx rfl (hb hby at_31) rfl k) ?_
    show own_G p e below _ (TJ2.setTop (mkF m 32 #[.val (.int p0), .val (.int p1), .val (.int p2), .val (.int p3), .val (.int p4), .val (.int p5), .val (.int vg1), .val (.int zj3), .unset, .unset, .unset, .unset, .unset, .unset] [(.int ((p5 >>> ((4 : Int32) &&& 31)) &&& (1 : Int32)))]))
    have J4 : ∀ (TJ4 : State) (XJ4 : Stand p l e room_1 s m #[(.int p0), (.int p1), (.int p2), (.int p3), (.int p4), (.int p5)] below meth c TJ4 [] 0 0) (EJ4 : TJ4.heap = h0) (zj5 : Int32), zj5 = (if ((p5 >>> ((4 : Int32) &&& 31)) &&& (1 : Int32)) = (0 : Int32) then p1 else p4) → own_G p e below (own_P s (own_W n0 (fun v _ => v = some (.int 1))) room_1.cells room_1.slots) (TJ4.setTop (mkF m 41 #[.val (.int p0), .val (.int p1), .val (.int p2), .val (.int p3), .val (.int p4), .val (.int p5), .val (.int vg1), .val (.int zj3), .unset, .unset, .unset, .unset, .unset, .unset] [(.int zj5)])) := by
      intro TJ4 XJ4 EJ4 zj5 hzj5
      refine own_via (fun t k => XS.istore XJ4.here hx rfl (hb hby at_41) rfl (l' := #[.val (.int p0), .val (.int p1), .val (.int p2), .val (.int p3), .val (.int p4), .val (.int p5), .val (.int vg1), .val (.int zj3), .val (.int zj5), .unset, .unset, .unset, .unset, .unset]) rfl k) ?_
      show own_G p e below _ (TJ4.setTop (mkF m 43 #[.val (.int p0), .val (.int p1), .val (.int p2), .val (.int p3), .val (.int p4), .val (.int p5), .val (.int vg1), .val (.int zj3), .val (.int zj5), .unset, .unset, .unset, .unset, .unset] []))
      refine own_via (fun t k => XS.iload XJ4.here hx rfl (hb hby at_43) rfl k) ?_
      show own_G p e below _ (TJ4.setTop (mkF m 45 #[.val (.int p0), .val (.int p1), .val (.int p2), .val (.int p3), .val (.int p4), .val (.int p5), .val (.int vg1), .val (.int zj3), .val (.int zj5), .unset, .unset, .unset, .unset, .unset] [(.int p5)]))
      refine own_via (fun t k => XS.iconst XJ4.here hx rfl (hb hby at_45) k) ?_
      show own_G p e below _ (TJ4.setTop (mkF m 46 #[.val (.int p0), .val (.int p1), .val (.int p2), .val (.int p3), .val (.int p4), .val (.int p5), .val (.int vg1), .val (.int zj3), .val (.int zj5), .unset, .unset, .unset, .unset, .unset] [(.int (5 : Int32)), (.int p5)]))
      refine own_via (fun t k => XS.ishr XJ4.here hx rfl (hb hby at_46) rfl k) ?_
      show own_G p e below _ (TJ4.setTop (mkF m 47 #[.val (.int p0), .val (.int p1), .val (.int p2), .val (.int p3), .val (.int p4), .val (.int p5), .val (.int vg1), .val (.int zj3), .val (.int zj5), .unset, .unset, .unset, .unset, .unset] [(.int (p5 >>> ((5 : Int32) &&& 31)))]))
      refine own_via (fun t k => XS.iconst XJ4.here hx rfl (hb hby at_47) k) ?_
      show own_G p e below _ (TJ4.setTop (mkF m 48 #[.val (.int p0), .val (.int p1), .val (.int p2), .val (.int p3), .val (.int p4), .val (.int p5), .val (.int vg1), .val (.int zj3), .val (.int zj5), .unset, .unset, .unset, .unset, .unset] [(.int (1 : Int32)), (.int (p5 >>> ((5 : Int32) &&& 31)))]))
      refine own_via (fun t k => XS.iand XJ4.here hx rfl (hb hby at_48) rfl k) ?_
      show own_G p e below _ (TJ4.setTop (mkF m 49 #[.val (.int p0), .val (.int p1), .val (.int p2), .val (.int p3), .val (.int p4), .val (.int p5), .val (.int vg1), .val (.int zj3), .val (.int zj5), .unset, .unset, .unset, .unset, .unset] [(.int ((p5 >>> ((5 : Int32) &&& 31)) &&& (1 : Int32)))]))
      have J6 : ∀ (TJ6 : State) (XJ6 : Stand p l e room_1 s m #[(.int p0), (.int p1), (.int p2), (.int p3), (.int p4), (.int p5)] below meth c TJ6 [] 0 0) (EJ6 : TJ6.heap = h0) (zj7 : Int32), zj7 = (if ((p5 >>> ((5 : Int32) &&& 31)) &&& (1 : Int32)) = (0 : Int32) then p2 else p4) → own_G p e below (own_P s (own_W n0 (fun v _ => v = some (.int 1))) room_1.cells room_1.slots) (TJ6.setTop (mkF m 58 #[.val (.int p0), .val (.int p1), .val (.int p2), .val (.int p3), .val (.int p4), .val (.int p5), .val (.int vg1), .val (.int zj3), .val (.int zj5), .unset, .unset, .unset, .unset, .unset] [(.int zj7)])) := by
        intro TJ6 XJ6 EJ6 zj7 hzj7
        refine own_via (fun t k => XS.istore XJ6.here hx rfl (hb hby at_58) rfl (l' := #[.val (.int p0), .val (.int p1), .val (.int p2), .val (.int p3), .val (.int p4), .val (.int p5), .val (.int vg1), .val (.int zj3), .val (.int zj5), .val (.int zj7), .unset, .unset, .unset, .unset]) rfl k) ?_
        show own_G p e below _ (TJ6.setTop (mkF m 60 #[.val (.int p0), .val (.int p1), .val (.int p2), .val (.int p3), .val (.int p4), .val (.int p5), .val (.int vg1), .val (.int zj3), .val (.int zj5), .val (.int zj7), .unset, .unset, .unset, .unset] []))
        refine own_via (fun t k => XS.iload XJ6.here hx rfl (hb hby at_60) rfl k) ?_
        show own_G p e below _ (TJ6.setTop (mkF m 62 #[.val (.int p0), .val (.int p1), .val (.int p2), .val (.int p3), .val (.int p4), .val (.int p5), .val (.int vg1), .val (.int zj3), .val (.int zj5), .val (.int zj7), .unset, .unset, .unset, .unset] [(.int p5)]))
        refine own_via (fun t k => XS.bipush XJ6.here hx rfl (hb hby at_62) k) ?_
        show own_G p e below _ (TJ6.setTop (mkF m 64 #[.val (.int p0), .val (.int p1), .val (.int p2), .val (.int p3), .val (.int p4), .val (.int p5), .val (.int vg1), .val (.int zj3), .val (.int zj5), .val (.int zj7), .unset, .unset, .unset, .unset] [(.int (6 : Int32)), (.int p5)]))
        refine own_via (fun t k => XS.ishr XJ6.here hx rfl (hb hby at_64) rfl k) ?_
        show own_G p e below _ (TJ6.setTop (mkF m 65 #[.val (.int p0), .val (.int p1), .val (.int p2), .val (.int p3), .val (.int p4), .val (.int p5), .val (.int vg1), .val (.int zj3), .val (.int zj5), .val (.int zj7), .unset, .unset, .unset, .unset] [(.int (p5 >>> ((6 : Int32) &&& 31)))]))
        refine own_via (fun t k => XS.iconst XJ6.here hx rfl (hb hby at_65) k) ?_
        show own_G p e below _ (TJ6.setTop (mkF m 66 #[.val (.int p0), .val (.int p1), .val (.int p2), .val (.int p3), .val (.int p4), .val (.int p5), .val (.int vg1), .val (.int zj3), .val (.int zj5), .val (.int zj7), .unset, .unset, .unset, .unset] [(.int (1 : Int32)), (.int (p5 >>> ((6 : Int32) &&& 31)))]))
        refine own_via (fun t k => XS.iand XJ6.here hx rfl (hb hby at_66) rfl k) ?_
        show own_G p e below _ (TJ6.setTop (mkF m 67 #[.val (.int p0), .val (.int p1), .val (.int p2), .val (.int p3), .val (.int p4), .val (.int p5), .val (.int vg1), .val (.int zj3), .val (.int zj5), .val (.int zj7), .unset, .unset, .unset, .unset] [(.int ((p5 >>> ((6 : Int32) &&& 31)) &&& (1 : Int32)))]))
        have J8 : ∀ (TJ8 : State) (XJ8 : Stand p l e room_1 s m #[(.int p0), (.int p1), (.int p2), (.int p3), (.int p4), (.int p5)] below meth c TJ8 [] 0 0) (EJ8 : TJ8.heap = h0) (zj9 : Int32), zj9 = (if ((p5 >>> ((6 : Int32) &&& 31)) &&& (1 : Int32)) = (0 : Int32) then p3 else p4) → own_G p e below (own_P s (own_W n0 (fun v _ => v = some (.int 1))) room_1.cells room_1.slots) (TJ8.setTop (mkF m 76 #[.val (.int p0), .val (.int p1), .val (.int p2), .val (.int p3), .val (.int p4), .val (.int p5), .val (.int vg1), .val (.int zj3), .val (.int zj5), .val (.int zj7), .unset, .unset, .unset, .unset] [(.int zj9)])) := by
          intro TJ8 XJ8 EJ8 zj9 hzj9
          refine own_via (fun t k => XS.istore XJ8.here hx rfl (hb hby at_76) rfl (l' := #[.val (.int p0), .val (.int p1), .val (.int p2), .val (.int p3), .val (.int p4), .val (.int p5), .val (.int vg1), .val (.int zj3), .val (.int zj5), .val (.int zj7), .val (.int zj9), .unset, .unset, .unset]) rfl k) ?_
          show own_G p e below _ (TJ8.setTop (mkF m 78 #[.val (.int p0), .val (.int p1), .val (.int p2), .val (.int p3), .val (.int p4), .val (.int p5), .val (.int vg1), .val (.int zj3), .val (.int zj5), .val (.int zj7), .val (.int zj9), .unset, .unset, .unset] []))
          refine own_via (fun t k => XS.iconst XJ8.here hx rfl (hb hby at_78) k) ?_
          show own_G p e below _ (TJ8.setTop (mkF m 79 #[.val (.int p0), .val (.int p1), .val (.int p2), .val (.int p3), .val (.int p4), .val (.int p5), .val (.int vg1), .val (.int zj3), .val (.int zj5), .val (.int zj7), .val (.int zj9), .unset, .unset, .unset] [(.int (4 : Int32))]))
          obtain ⟨T10, h10, k10, b10, X10, e10, E10, ga10, V10, Ex10, st10⟩ := own_newA XJ8 hx hZ (hw _ (List.mem_of_getElem? (i := 0) rfl)) EJ8 (pc := 79) (Ls := #[.val (.int p0), .val (.int p1), .val (.int p2), .val (.int p3), .val (.int p4), .val (.int p5), .val (.int vg1), .val (.int zj3), .val (.int zj5), .val (.int zj7), .val (.int zj9), .unset, .unset, .unset]) (rest := []) (hb hby at_79) (n := (4 : Int32)) (by decide) (cap := 4) (by decide) (by decide) (by decide) (by decide) 4 rfl
          refine own_via st10 ?_
          have f11 : Arv Z h10 b10 k10 .int (4 : Int32) [(.int (0 : Int32)), (.int (0 : Int32)), (.int (0 : Int32)), (.int (0 : Int32))] (.int (0 : Int32)) := V10
          have g_b10 : n0 ≤ b10 := Nat.le_trans Z0 (Nat.le_of_eq ga10.symm)
          have Zs12 : n0 ≤ h10.size := Nat.le_trans Z0 E10.1
          show own_G p e below _ (T10.setTop (mkF m 81 #[.val (.int p0), .val (.int p1), .val (.int p2), .val (.int p3), .val (.int p4), .val (.int p5), .val (.int vg1), .val (.int zj3), .val (.int zj5), .val (.int zj7), .val (.int zj9), .unset, .unset, .unset] [(.ref b10)]))
          refine own_via (fun t k => XS.astore X10.here hx rfl (hb hby at_81) rfl rfl (l' := #[.val (.int p0), .val (.int p1), .val (.int p2), .val (.int p3), .val (.int p4), .val (.int p5), .val (.int vg1), .val (.int zj3), .val (.int zj5), .val (.int zj7), .val (.int zj9), .val (.ref b10), .unset, .unset]) rfl k) ?_
          show own_G p e below _ (T10.setTop (mkF m 83 #[.val (.int p0), .val (.int p1), .val (.int p2), .val (.int p3), .val (.int p4), .val (.int p5), .val (.int vg1), .val (.int zj3), .val (.int zj5), .val (.int zj7), .val (.int zj9), .val (.ref b10), .unset, .unset] []))
          refine own_via (fun t k => XS.aload X10.here hx rfl (hb hby at_83) rfl rfl k) ?_
          show own_G p e below _ (T10.setTop (mkF m 85 #[.val (.int p0), .val (.int p1), .val (.int p2), .val (.int p3), .val (.int p4), .val (.int p5), .val (.int vg1), .val (.int zj3), .val (.int zj5), .val (.int zj7), .val (.int zj9), .val (.ref b10), .unset, .unset] [(.ref b10)]))
          refine own_via (fun t k => XS.iconst X10.here hx rfl (hb hby at_85) k) ?_
          show own_G p e below _ (T10.setTop (mkF m 86 #[.val (.int p0), .val (.int p1), .val (.int p2), .val (.int p3), .val (.int p4), .val (.int p5), .val (.int vg1), .val (.int zj3), .val (.int zj5), .val (.int zj7), .val (.int zj9), .val (.ref b10), .unset, .unset] [(.int (0 : Int32)), (.ref b10)]))
          refine own_via (fun t k => XS.iload X10.here hx rfl (hb hby at_86) rfl k) ?_
          show own_G p e below _ (T10.setTop (mkF m 88 #[.val (.int p0), .val (.int p1), .val (.int p2), .val (.int p3), .val (.int p4), .val (.int p5), .val (.int vg1), .val (.int zj3), .val (.int zj5), .val (.int zj7), .val (.int zj9), .val (.ref b10), .unset, .unset] [(.int zj3), (.int (0 : Int32)), (.ref b10)]))
          obtain ⟨T13, h13, L13, X13, N13, e13, W13, V13, st13⟩ := own_stI X10 N0 hx hZ e10 f11 g_b10 (j := (0 : Int32)) (x := zj3) (i := 0) ⟨by decide, by decide⟩ rfl (Nat.le_of_ble_eq_true rfl) (pc := 88) (Ls := #[.val (.int p0), .val (.int p1), .val (.int p2), .val (.int p3), .val (.int p4), .val (.int p5), .val (.int vg1), .val (.int zj3), .val (.int zj5), .val (.int zj7), .val (.int zj9), .val (.ref b10), .unset, .unset]) (rest := []) (hb hby at_88)
          refine own_via st13 ?_
          have f14 : Arv Z h13 b10 k10 .int (4 : Int32) [(.int zj3), (.int (0 : Int32)), (.int (0 : Int32)), (.int (0 : Int32))] (.int (0 : Int32)) := V13
          have Zs15 : n0 ≤ h13.size := by rw [W13.size]; exact Zs12
          show own_G p e below _ (T13.setTop (mkF m 89 #[.val (.int p0), .val (.int p1), .val (.int p2), .val (.int p3), .val (.int p4), .val (.int p5), .val (.int vg1), .val (.int zj3), .val (.int zj5), .val (.int zj7), .val (.int zj9), .val (.ref b10), .unset, .unset] []))
          refine own_via (fun t k => XS.aload X13.here hx rfl (hb hby at_89) rfl rfl k) ?_
          show own_G p e below _ (T13.setTop (mkF m 91 #[.val (.int p0), .val (.int p1), .val (.int p2), .val (.int p3), .val (.int p4), .val (.int p5), .val (.int vg1), .val (.int zj3), .val (.int zj5), .val (.int zj7), .val (.int zj9), .val (.ref b10), .unset, .unset] [(.ref b10)]))
          refine own_via (fun t k => XS.iconst X13.here hx rfl (hb hby at_91) k) ?_
          show own_G p e below _ (T13.setTop (mkF m 92 #[.val (.int p0), .val (.int p1), .val (.int p2), .val (.int p3), .val (.int p4), .val (.int p5), .val (.int vg1), .val (.int zj3), .val (.int zj5), .val (.int zj7), .val (.int zj9), .val (.ref b10), .unset, .unset] [(.int (1 : Int32)), (.ref b10)]))
          refine own_via (fun t k => XS.iload X13.here hx rfl (hb hby at_92) rfl k) ?_
          show own_G p e below _ (T13.setTop (mkF m 94 #[.val (.int p0), .val (.int p1), .val (.int p2), .val (.int p3), .val (.int p4), .val (.int p5), .val (.int vg1), .val (.int zj3), .val (.int zj5), .val (.int zj7), .val (.int zj9), .val (.ref b10), .unset, .unset] [(.int zj5), (.int (1 : Int32)), (.ref b10)]))
          obtain ⟨T16, h16, L16, X16, N16, e16, W16, V16, st16⟩ := own_stI X13 N13 hx hZ e13 f14 g_b10 (j := (1 : Int32)) (x := zj5) (i := 1) ⟨by decide, by decide⟩ rfl (Nat.le_of_ble_eq_true rfl) (pc := 94) (Ls := #[.val (.int p0), .val (.int p1), .val (.int p2), .val (.int p3), .val (.int p4), .val (.int p5), .val (.int vg1), .val (.int zj3), .val (.int zj5), .val (.int zj7), .val (.int zj9), .val (.ref b10), .unset, .unset]) (rest := []) (hb hby at_94)
          refine own_via st16 ?_
          have f17 : Arv Z h16 b10 k10 .int (4 : Int32) [(.int zj3), (.int zj5), (.int (0 : Int32)), (.int (0 : Int32))] (.int (0 : Int32)) := V16
          have Zs18 : n0 ≤ h16.size := by rw [W16.size]; exact Zs15
          show own_G p e below _ (T16.setTop (mkF m 95 #[.val (.int p0), .val (.int p1), .val (.int p2), .val (.int p3), .val (.int p4), .val (.int p5), .val (.int vg1), .val (.int zj3), .val (.int zj5), .val (.int zj7), .val (.int zj9), .val (.ref b10), .unset, .unset] []))
          refine own_via (fun t k => XS.aload X16.here hx rfl (hb hby at_95) rfl rfl k) ?_
          show own_G p e below _ (T16.setTop (mkF m 97 #[.val (.int p0), .val (.int p1), .val (.int p2), .val (.int p3), .val (.int p4), .val (.int p5), .val (.int vg1), .val (.int zj3), .val (.int zj5), .val (.int zj7), .val (.int zj9), .val (.ref b10), .unset, .unset] [(.ref b10)]))
          refine own_via (fun t k => XS.iconst X16.here hx rfl (hb hby at_97) k) ?_
          show own_G p e below _ (T16.setTop (mkF m 98 #[.val (.int p0), .val (.int p1), .val (.int p2), .val (.int p3), .val (.int p4), .val (.int p5), .val (.int vg1), .val (.int zj3), .val (.int zj5), .val (.int zj7), .val (.int zj9), .val (.ref b10), .unset, .unset] [(.int (2 : Int32)), (.ref b10)]))
          refine own_via (fun t k => XS.iload X16.here hx rfl (hb hby at_98) rfl k) ?_
          show own_G p e below _ (T16.setTop (mkF m 100 #[.val (.int p0), .val (.int p1), .val (.int p2), .val (.int p3), .val (.int p4), .val (.int p5), .val (.int vg1), .val (.int zj3), .val (.int zj5), .val (.int zj7), .val (.int zj9), .val (.ref b10), .unset, .unset] [(.int zj7), (.int (2 : Int32)), (.ref b10)]))
          obtain ⟨T19, h19, L19, X19, N19, e19, W19, V19, st19⟩ := own_stI X16 N16 hx hZ e16 f17 g_b10 (j := (2 : Int32)) (x := zj7) (i := 2) ⟨by decide, by decide⟩ rfl (Nat.le_of_ble_eq_true rfl) (pc := 100) (Ls := #[.val (.int p0), .val (.int p1), .val (.int p2), .val (.int p3), .val (.int p4), .val (.int p5), .val (.int vg1), .val (.int zj3), .val (.int zj5), .val (.int zj7), .val (.int zj9), .val (.ref b10), .unset, .unset]) (rest := []) (hb hby at_100)
          refine own_via st19 ?_
          have f20 : Arv Z h19 b10 k10 .int (4 : Int32) [(.int zj3), (.int zj5), (.int zj7), (.int (0 : Int32))] (.int (0 : Int32)) := V19
          have Zs21 : n0 ≤ h19.size := by rw [W19.size]; exact Zs18
          show own_G p e below _ (T19.setTop (mkF m 101 #[.val (.int p0), .val (.int p1), .val (.int p2), .val (.int p3), .val (.int p4), .val (.int p5), .val (.int vg1), .val (.int zj3), .val (.int zj5), .val (.int zj7), .val (.int zj9), .val (.ref b10), .unset, .unset] []))
          refine own_via (fun t k => XS.aload X19.here hx rfl (hb hby at_101) rfl rfl k) ?_
          show own_G p e below _ (T19.setTop (mkF m 103 #[.val (.int p0), .val (.int p1), .val (.int p2), .val (.int p3), .val (.int p4), .val (.int p5), .val (.int vg1), .val (.int zj3), .val (.int zj5), .val (.int zj7), .val (.int zj9), .val (.ref b10), .unset, .unset] [(.ref b10)]))
          refine own_via (fun t k => XS.iconst X19.here hx rfl (hb hby at_103) k) ?_
          show own_G p e below _ (T19.setTop (mkF m 104 #[.val (.int p0), .val (.int p1), .val (.int p2), .val (.int p3), .val (.int p4), .val (.int p5), .val (.int vg1), .val (.int zj3), .val (.int zj5), .val (.int zj7), .val (.int zj9), .val (.ref b10), .unset, .unset] [(.int (3 : Int32)), (.ref b10)]))
          refine own_via (fun t k => XS.iload X19.here hx rfl (hb hby at_104) rfl k) ?_
          show own_G p e below _ (T19.setTop (mkF m 106 #[.val (.int p0), .val (.int p1), .val (.int p2), .val (.int p3), .val (.int p4), .val (.int p5), .val (.int vg1), .val (.int zj3), .val (.int zj5), .val (.int zj7), .val (.int zj9), .val (.ref b10), .unset, .unset] [(.int zj9), (.int (3 : Int32)), (.ref b10)]))
          obtain ⟨T22, h22, L22, X22, N22, e22, W22, V22, st22⟩ := own_stI X19 N19 hx hZ e19 f20 g_b10 (j := (3 : Int32)) (x := zj9) (i := 3) ⟨by decide, by decide⟩ rfl (Nat.le_of_ble_eq_true rfl) (pc := 106) (Ls := #[.val (.int p0), .val (.int p1), .val (.int p2), .val (.int p3), .val (.int p4), .val (.int p5), .val (.int vg1), .val (.int zj3), .val (.int zj5), .val (.int zj7), .val (.int zj9), .val (.ref b10), .unset, .unset]) (rest := []) (hb hby at_106)
          refine own_via st22 ?_
          have f23 : Arv Z h22 b10 k10 .int (4 : Int32) [(.int zj3), (.int zj5), (.int zj7), (.int zj9)] (.int (0 : Int32)) := V22
          have Zs24 : n0 ≤ h22.size := by rw [W22.size]; exact Zs21
          show own_G p e below _ (T22.setTop (mkF m 107 #[.val (.int p0), .val (.int p1), .val (.int p2), .val (.int p3), .val (.int p4), .val (.int p5), .val (.int vg1), .val (.int zj3), .val (.int zj5), .val (.int zj7), .val (.int zj9), .val (.ref b10), .unset, .unset] []))
          refine own_via (fun t k => XS.iconst X22.here hx rfl (hb hby at_107) k) ?_
          show own_G p e below _ (T22.setTop (mkF m 108 #[.val (.int p0), .val (.int p1), .val (.int p2), .val (.int p3), .val (.int p4), .val (.int p5), .val (.int vg1), .val (.int zj3), .val (.int zj5), .val (.int zj7), .val (.int zj9), .val (.ref b10), .unset, .unset] [(.int (-1 : Int32))]))
          refine own_via (fun t k => XS.istore X22.here hx rfl (hb hby at_108) rfl (l' := #[.val (.int p0), .val (.int p1), .val (.int p2), .val (.int p3), .val (.int p4), .val (.int p5), .val (.int vg1), .val (.int zj3), .val (.int zj5), .val (.int zj7), .val (.int zj9), .val (.ref b10), .val (.int (-1 : Int32)), .unset]) rfl k) ?_
          show own_G p e below _ (T22.setTop (mkF m 110 #[.val (.int p0), .val (.int p1), .val (.int p2), .val (.int p3), .val (.int p4), .val (.int p5), .val (.int vg1), .val (.int zj3), .val (.int zj5), .val (.int zj7), .val (.int zj9), .val (.ref b10), .val (.int (-1 : Int32)), .unset] []))
          refine own_via (fun t k => XS.iload X22.here hx rfl (hb hby at_110) rfl k) ?_
          show own_G p e below _ (T22.setTop (mkF m 112 #[.val (.int p0), .val (.int p1), .val (.int p2), .val (.int p3), .val (.int p4), .val (.int p5), .val (.int vg1), .val (.int zj3), .val (.int zj5), .val (.int zj7), .val (.int zj9), .val (.ref b10), .val (.int (-1 : Int32)), .unset] [(.int vg1)]))
          refine own_via (fun t k => XS.iconst X22.here hx rfl (hb hby at_112) k) ?_
          show own_G p e below _ (T22.setTop (mkF m 113 #[.val (.int p0), .val (.int p1), .val (.int p2), .val (.int p3), .val (.int p4), .val (.int p5), .val (.int vg1), .val (.int zj3), .val (.int zj5), .val (.int zj7), .val (.int zj9), .val (.ref b10), .val (.int (-1 : Int32)), .unset] [(.int (3 : Int32)), (.int vg1)]))
          have J25 : ∀ (TJ25 : State) (XJ25 : Stand p l e room_1 s m #[(.int p0), (.int p1), (.int p2), (.int p3), (.int p4), (.int p5)] below meth c TJ25 L22 1 4) (EJ25 : TJ25.heap = h22) (zj26 : Int32), zj26 = (if (3 : Int32) < vg1 then (if zj9 = p4 then (3 : Int32) else (-1 : Int32)) else (-1 : Int32)) → own_G p e below (own_P s (own_W n0 (fun v _ => v = some (.int 1))) room_1.cells room_1.slots) (TJ25.setTop (mkF m 126 #[.val (.int p0), .val (.int p1), .val (.int p2), .val (.int p3), .val (.int p4), .val (.int p5), .val (.int vg1), .val (.int zj3), .val (.int zj5), .val (.int zj7), .val (.int zj9), .val (.ref b10), .val (.int zj26), .unset] [])) := by
            intro TJ25 XJ25 EJ25 zj26 hzj26
            refine own_via (fun t k => XS.iload XJ25.here hx rfl (hb hby at_126) rfl k) ?_
            show own_G p e below _ (TJ25.setTop (mkF m 128 #[.val (.int p0), .val (.int p1), .val (.int p2), .val (.int p3), .val (.int p4), .val (.int p5), .val (.int vg1), .val (.int zj3), .val (.int zj5), .val (.int zj7), .val (.int zj9), .val (.ref b10), .val (.int zj26), .unset] [(.int vg1)]))
            refine own_via (fun t k => XS.iconst XJ25.here hx rfl (hb hby at_128) k) ?_
            show own_G p e below _ (TJ25.setTop (mkF m 129 #[.val (.int p0), .val (.int p1), .val (.int p2), .val (.int p3), .val (.int p4), .val (.int p5), .val (.int vg1), .val (.int zj3), .val (.int zj5), .val (.int zj7), .val (.int zj9), .val (.ref b10), .val (.int zj26), .unset] [(.int (2 : Int32)), (.int vg1)]))
            have J27 : ∀ (TJ27 : State) (XJ27 : Stand p l e room_1 s m #[(.int p0), (.int p1), (.int p2), (.int p3), (.int p4), (.int p5)] below meth c TJ27 L22 1 4) (EJ27 : TJ27.heap = h22) (zj28 : Int32), zj28 = (if (2 : Int32) < vg1 then (if zj7 = p4 then (2 : Int32) else zj26) else zj26) → own_G p e below (own_P s (own_W n0 (fun v _ => v = some (.int 1))) room_1.cells room_1.slots) (TJ27.setTop (mkF m 142 #[.val (.int p0), .val (.int p1), .val (.int p2), .val (.int p3), .val (.int p4), .val (.int p5), .val (.int vg1), .val (.int zj3), .val (.int zj5), .val (.int zj7), .val (.int zj9), .val (.ref b10), .val (.int zj28), .unset] [])) := by
              intro TJ27 XJ27 EJ27 zj28 hzj28
              refine own_via (fun t k => XS.iload XJ27.here hx rfl (hb hby at_142) rfl k) ?_
              show own_G p e below _ (TJ27.setTop (mkF m 144 #[.val (.int p0), .val (.int p1), .val (.int p2), .val (.int p3), .val (.int p4), .val (.int p5), .val (.int vg1), .val (.int zj3), .val (.int zj5), .val (.int zj7), .val (.int zj9), .val (.ref b10), .val (.int zj28), .unset] [(.int vg1)]))
              refine own_via (fun t k => XS.iconst XJ27.here hx rfl (hb hby at_144) k) ?_
              show own_G p e below _ (TJ27.setTop (mkF m 145 #[.val (.int p0), .val (.int p1), .val (.int p2), .val (.int p3), .val (.int p4), .val (.int p5), .val (.int vg1), .val (.int zj3), .val (.int zj5), .val (.int zj7), .val (.int zj9), .val (.ref b10), .val (.int zj28), .unset] [(.int (1 : Int32)), (.int vg1)]))
              have J29 : ∀ (TJ29 : State) (XJ29 : Stand p l e room_1 s m #[(.int p0), (.int p1), (.int p2), (.int p3), (.int p4), (.int p5)] below meth c TJ29 L22 1 4) (EJ29 : TJ29.heap = h22) (zj30 : Int32), zj30 = (if (1 : Int32) < vg1 then (if zj5 = p4 then (1 : Int32) else zj28) else zj28) → own_G p e below (own_P s (own_W n0 (fun v _ => v = some (.int 1))) room_1.cells room_1.slots) (TJ29.setTop (mkF m 158 #[.val (.int p0), .val (.int p1), .val (.int p2), .val (.int p3), .val (.int p4), .val (.int p5), .val (.int vg1), .val (.int zj3), .val (.int zj5), .val (.int zj7), .val (.int zj9), .val (.ref b10), .val (.int zj30), .unset] [])) := by
                intro TJ29 XJ29 EJ29 zj30 hzj30
                refine own_via (fun t k => XS.iload XJ29.here hx rfl (hb hby at_158) rfl k) ?_
                show own_G p e below _ (TJ29.setTop (mkF m 160 #[.val (.int p0), .val (.int p1), .val (.int p2), .val (.int p3), .val (.int p4), .val (.int p5), .val (.int vg1), .val (.int zj3), .val (.int zj5), .val (.int zj7), .val (.int zj9), .val (.ref b10), .val (.int zj30), .unset] [(.int vg1)]))
                have J31 : ∀ (TJ31 : State) (XJ31 : Stand p l e room_1 s m #[(.int p0), (.int p1), (.int p2), (.int p3), (.int p4), (.int p5)] below meth c TJ31 L22 1 4) (EJ31 : TJ31.heap = h22) (zj32 : Int32), zj32 = (if (0 : Int32) < vg1 then (if zj3 = p4 then (0 : Int32) else zj30) else zj30) → own_G p e below (own_P s (own_W n0 (fun v _ => v = some (.int 1))) room_1.cells room_1.slots) (TJ31.setTop (mkF m 173 #[.val (.int p0), .val (.int p1), .val (.int p2), .val (.int p3), .val (.int p4), .val (.int p5), .val (.int vg1), .val (.int zj3), .val (.int zj5), .val (.int zj7), .val (.int zj9), .val (.ref b10), .val (.int zj32), .unset] [])) := by
                  intro TJ31 XJ31 EJ31 zj32 hzj32
                  refine own_via (fun t k => XS.aload XJ31.here hx rfl (hb hby at_173) rfl rfl k) ?_
                  show own_G p e below _ (TJ31.setTop (mkF m 175 #[.val (.int p0), .val (.int p1), .val (.int p2), .val (.int p3), .val (.int p4), .val (.int p5), .val (.int vg1), .val (.int zj3), .val (.int zj5), .val (.int zj7), .val (.int zj9), .val (.ref b10), .val (.int zj32), .unset] [(.ref b10)]))
                  refine own_via (fun t k => XS.iload XJ31.here hx rfl (hb hby at_175) rfl k) ?_
                  show own_G p e below _ (TJ31.setTop (mkF m 177 #[.val (.int p0), .val (.int p1), .val (.int p2), .val (.int p3), .val (.int p4), .val (.int p5), .val (.int vg1), .val (.int zj3), .val (.int zj5), .val (.int zj7), .val (.int zj9), .val (.ref b10), .val (.int zj32), .unset] [(.int vg1), (.ref b10)]))
                  refine own_via (fun t k => XS.iload XJ31.here hx rfl (hb hby at_177) rfl k) ?_
                  show own_G p e below _ (TJ31.setTop (mkF m 179 #[.val (.int p0), .val (.int p1), .val (.int p2), .val (.int p3), .val (.int p4), .val (.int p5), .val (.int vg1), .val (.int zj3), .val (.int zj5), .val (.int zj7), .val (.int zj9), .val (.ref b10), .val (.int zj32), .unset] [(.int p4), (.int vg1), (.ref b10)]))
                  obtain ⟨T33, X33, e33, st33⟩ := own_callP (y := (⟨"com/example/loudmark/loudmark/mixer/PacketMixer", "indexOf", "([III)I"⟩ : MethodName)) (W := 0) XJ31 hx hZ hown (hw _ (List.mem_of_getElem? (i := 1) rfl)) (hw _ (List.mem_of_getElem? (i := 2) rfl)) (hw _ (List.mem_of_getElem? (i := 3) rfl)) (hw _ (List.mem_of_getElem? (i := 4) rfl)) (by decide) (own_idx l Z a0 hw [] b10 vg1 p4 k10 zj3 zj5 zj7 zj9 h22 f23 (by subst hzj32; subst hzj30; subst hzj28; subst hzj26; subst hzj9; subst hzj7; subst hzj5; subst hzj3; subst hvg1; exact (own_count p5).2)) (by decide) (by decide) rfl rfl (by decide) (by decide) EJ31 (pc := 179) (Ls := #[.val (.int p0), .val (.int p1), .val (.int p2), .val (.int p3), .val (.int p4), .val (.int p5), .val (.int vg1), .val (.int zj3), .val (.int zj5), .val (.int zj7), .val (.int zj9), .val (.ref b10), .val (.int zj32), .unset]) (st := [(.int p4), (.int vg1), (.ref b10)]) (argsL := [(.ref b10), (.int vg1), (.int p4)]) (rest := []) (by rw [hml]; rfl) (lenOf own_pd0 rfl) rfl rfl (Nat.le_of_eq rfl) (hb hby at_179)
                  refine own_via st33 ?_
                  show own_G p e below _ (T33.setTop (mkF m 182 #[.val (.int p0), .val (.int p1), .val (.int p2), .val (.int p3), .val (.int p4), .val (.int p5), .val (.int vg1), .val (.int zj3), .val (.int zj5), .val (.int zj7), .val (.int zj9), .val (.ref b10), .val (.int zj32), .unset] [(.int (own_Fidx zj3 zj5 zj7 zj9 vg1 p4))]))
                  generalize hvg34 : (own_Fidx zj3 zj5 zj7 zj9 vg1 p4) = vg34
                  show own_G p e below _ (T33.setTop (mkF m 182 #[.val (.int p0), .val (.int p1), .val (.int p2), .val (.int p3), .val (.int p4), .val (.int p5), .val (.int vg1), .val (.int zj3), .val (.int zj5), .val (.int zj7), .val (.int zj9), .val (.ref b10), .val (.int zj32), .unset] [(.int vg34)]))
                  refine own_via (fun t k => XS.istore X33.here hx rfl (hb hby at_182) rfl (l' := #[.val (.int p0), .val (.int p1), .val (.int p2), .val (.int p3), .val (.int p4), .val (.int p5), .val (.int vg1), .val (.int zj3), .val (.int zj5), .val (.int zj7), .val (.int zj9), .val (.ref b10), .val (.int zj32), .val (.int vg34)]) rfl k) ?_
                  show own_G p e below _ (T33.setTop (mkF m 184 #[.val (.int p0), .val (.int p1), .val (.int p2), .val (.int p3), .val (.int p4), .val (.int p5), .val (.int vg1), .val (.int zj3), .val (.int zj5), .val (.int zj7), .val (.int zj9), .val (.ref b10), .val (.int zj32), .val (.int vg34)] []))
                  refine own_via (fun t k => XS.iload X33.here hx rfl (hb hby at_184) rfl k) ?_
                  show own_G p e below _ (T33.setTop (mkF m 186 #[.val (.int p0), .val (.int p1), .val (.int p2), .val (.int p3), .val (.int p4), .val (.int p5), .val (.int vg1), .val (.int zj3), .val (.int zj5), .val (.int zj7), .val (.int zj9), .val (.ref b10), .val (.int zj32), .val (.int vg34)] [(.int vg34)]))
                  refine own_via (fun t k => XS.iload X33.here hx rfl (hb hby at_186) rfl k) ?_
                  show own_G p e below _ (T33.setTop (mkF m 188 #[.val (.int p0), .val (.int p1), .val (.int p2), .val (.int p3), .val (.int p4), .val (.int p5), .val (.int vg1), .val (.int zj3), .val (.int zj5), .val (.int zj7), .val (.int zj9), .val (.ref b10), .val (.int zj32), .val (.int vg34)] [(.int zj32), (.int vg34)]))
                  refine own_via (fun t k => XS.icmpNo X33.here hx rfl (hb hby at_188) rfl (teq (by subst hvg34; subst hzj32; subst hzj30; subst hzj28; subst hzj26; subst hzj9; subst hzj7; subst hzj5; subst hzj3; subst hvg1; exact own_idx_eq _ _ _ _ _ _)).2 k) ?_
                  show own_G p e below _ (T33.setTop (mkF m 191 #[.val (.int p0), .val (.int p1), .val (.int p2), .val (.int p3), .val (.int p4), .val (.int p5), .val (.int vg1), .val (.int zj3), .val (.int zj5), .val (.int zj7), .val (.int zj9), .val (.ref b10), .val (.int zj32), .val (.int vg34)] []))
                  refine own_via (fun t k => XS.aload X33.here hx rfl (hb hby at_191) rfl rfl k) ?_
                  show own_G p e below _ (T33.setTop (mkF m 193 #[.val (.int p0), .val (.int p1), .val (.int p2), .val (.int p3), .val (.int p4), .val (.int p5), .val (.int vg1), .val (.int zj3), .val (.int zj5), .val (.int zj7), .val (.int zj9), .val (.ref b10), .val (.int zj32), .val (.int vg34)] [(.ref b10)]))
                  refine own_via (fun t k => XS.iconst X33.here hx rfl (hb hby at_193) k) ?_
                  show own_G p e below _ (T33.setTop (mkF m 194 #[.val (.int p0), .val (.int p1), .val (.int p2), .val (.int p3), .val (.int p4), .val (.int p5), .val (.int vg1), .val (.int zj3), .val (.int zj5), .val (.int zj7), .val (.int zj9), .val (.ref b10), .val (.int zj32), .val (.int vg34)] [(.int (0 : Int32)), (.ref b10)]))
                  refine own_via (own_ldI X33 hx hZ e33 f23 (j := (0 : Int32)) ⟨by decide, by decide⟩ (v := (.int zj3)) rfl (pc := 194) (Ls := #[.val (.int p0), .val (.int p1), .val (.int p2), .val (.int p3), .val (.int p4), .val (.int p5), .val (.int vg1), .val (.int zj3), .val (.int zj5), .val (.int zj7), .val (.int zj9), .val (.ref b10), .val (.int zj32), .val (.int vg34)]) (rest := []) (hb hby at_194)) ?_
                  show own_G p e below _ (T33.setTop (mkF m 195 #[.val (.int p0), .val (.int p1), .val (.int p2), .val (.int p3), .val (.int p4), .val (.int p5), .val (.int vg1), .val (.int zj3), .val (.int zj5), .val (.int zj7), .val (.int zj9), .val (.ref b10), .val (.int zj32), .val (.int vg34)] [(.int zj3)]))
                  refine own_via (fun t k => XS.iload X33.here hx rfl (hb hby at_195) rfl k) ?_
                  show own_G p e below _ (T33.setTop (mkF m 197 #[.val (.int p0), .val (.int p1), .val (.int p2), .val (.int p3), .val (.int p4), .val (.int p5), .val (.int vg1), .val (.int zj3), .val (.int zj5), .val (.int zj7), .val (.int zj9), .val (.ref b10), .val (.int zj32), .val (.int vg34)] [(.int zj3), (.int zj3)]))
                  refine own_via (fun t k => XS.icmpNo X33.here hx rfl (hb hby at_197) rfl (teq rfl).2 k) ?_
                  show own_G p e below _ (T33.setTop (mkF m 200 #[.val (.int p0), .val (.int p1), .val (.int p2), .val (.int p3), .val (.int p4), .val (.int p5), .val (.int vg1), .val (.int zj3), .val (.int zj5), .val (.int zj7), .val (.int zj9), .val (.ref b10), .val (.int zj32), .val (.int vg34)] []))
                  refine own_via (fun t k => XS.aload X33.here hx rfl (hb hby at_200) rfl rfl k) ?_
                  show own_G p e below _ (T33.setTop (mkF m 202 #[.val (.int p0), .val (.int p1), .val (.int p2), .val (.int p3), .val (.int p4), .val (.int p5), .val (.int vg1), .val (.int zj3), .val (.int zj5), .val (.int zj7), .val (.int zj9), .val (.ref b10), .val (.int zj32), .val (.int vg34)] [(.ref b10)]))
                  refine own_via (fun t k => XS.iconst X33.here hx rfl (hb hby at_202) k) ?_
                  show own_G p e below _ (T33.setTop (mkF m 203 #[.val (.int p0), .val (.int p1), .val (.int p2), .val (.int p3), .val (.int p4), .val (.int p5), .val (.int vg1), .val (.int zj3), .val (.int zj5), .val (.int zj7), .val (.int zj9), .val (.ref b10), .val (.int zj32), .val (.int vg34)] [(.int (1 : Int32)), (.ref b10)]))
                  refine own_via (own_ldI X33 hx hZ e33 f23 (j := (1 : Int32)) ⟨by decide, by decide⟩ (v := (.int zj5)) rfl (pc := 203) (Ls := #[.val (.int p0), .val (.int p1), .val (.int p2), .val (.int p3), .val (.int p4), .val (.int p5), .val (.int vg1), .val (.int zj3), .val (.int zj5), .val (.int zj7), .val (.int zj9), .val (.ref b10), .val (.int zj32), .val (.int vg34)]) (rest := []) (hb hby at_203)) ?_
                  show own_G p e below _ (T33.setTop (mkF m 204 #[.val (.int p0), .val (.int p1), .val (.int p2), .val (.int p3), .val (.int p4), .val (.int p5), .val (.int vg1), .val (.int zj3), .val (.int zj5), .val (.int zj7), .val (.int zj9), .val (.ref b10), .val (.int zj32), .val (.int vg34)] [(.int zj5)]))
                  refine own_via (fun t k => XS.iload X33.here hx rfl (hb hby at_204) rfl k) ?_
                  show own_G p e below _ (T33.setTop (mkF m 206 #[.val (.int p0), .val (.int p1), .val (.int p2), .val (.int p3), .val (.int p4), .val (.int p5), .val (.int vg1), .val (.int zj3), .val (.int zj5), .val (.int zj7), .val (.int zj9), .val (.ref b10), .val (.int zj32), .val (.int vg34)] [(.int zj5), (.int zj5)]))
                  refine own_via (fun t k => XS.icmpNo X33.here hx rfl (hb hby at_206) rfl (teq rfl).2 k) ?_
                  show own_G p e below _ (T33.setTop (mkF m 209 #[.val (.int p0), .val (.int p1), .val (.int p2), .val (.int p3), .val (.int p4), .val (.int p5), .val (.int vg1), .val (.int zj3), .val (.int zj5), .val (.int zj7), .val (.int zj9), .val (.ref b10), .val (.int zj32), .val (.int vg34)] []))
                  refine own_via (fun t k => XS.aload X33.here hx rfl (hb hby at_209) rfl rfl k) ?_
                  show own_G p e below _ (T33.setTop (mkF m 211 #[.val (.int p0), .val (.int p1), .val (.int p2), .val (.int p3), .val (.int p4), .val (.int p5), .val (.int vg1), .val (.int zj3), .val (.int zj5), .val (.int zj7), .val (.int zj9), .val (.ref b10), .val (.int zj32), .val (.int vg34)] [(.ref b10)]))
                  refine own_via (fun t k => XS.iconst X33.here hx rfl (hb hby at_211) k) ?_
                  show own_G p e below _ (T33.setTop (mkF m 212 #[.val (.int p0), .val (.int p1), .val (.int p2), .val (.int p3), .val (.int p4), .val (.int p5), .val (.int vg1), .val (.int zj3), .val (.int zj5), .val (.int zj7), .val (.int zj9), .val (.ref b10), .val (.int zj32), .val (.int vg34)] [(.int (2 : Int32)), (.ref b10)]))
                  refine own_via (own_ldI X33 hx hZ e33 f23 (j := (2 : Int32)) ⟨by decide, by decide⟩ (v := (.int zj7)) rfl (pc := 212) (Ls := #[.val (.int p0), .val (.int p1), .val (.int p2), .val (.int p3), .val (.int p4), .val (.int p5), .val (.int vg1), .val (.int zj3), .val (.int zj5), .val (.int zj7), .val (.int zj9), .val (.ref b10), .val (.int zj32), .val (.int vg34)]) (rest := []) (hb hby at_212)) ?_
                  show own_G p e below _ (T33.setTop (mkF m 213 #[.val (.int p0), .val (.int p1), .val (.int p2), .val (.int p3), .val (.int p4), .val (.int p5), .val (.int vg1), .val (.int zj3), .val (.int zj5), .val (.int zj7), .val (.int zj9), .val (.ref b10), .val (.int zj32), .val (.int vg34)] [(.int zj7)]))
                  refine own_via (fun t k => XS.iload X33.here hx rfl (hb hby at_213) rfl k) ?_
                  show own_G p e below _ (T33.setTop (mkF m 215 #[.val (.int p0), .val (.int p1), .val (.int p2), .val (.int p3), .val (.int p4), .val (.int p5), .val (.int vg1), .val (.int zj3), .val (.int zj5), .val (.int zj7), .val (.int zj9), .val (.ref b10), .val (.int zj32), .val (.int vg34)] [(.int zj7), (.int zj7)]))
                  refine own_via (fun t k => XS.icmpNo X33.here hx rfl (hb hby at_215) rfl (teq rfl).2 k) ?_
                  show own_G p e below _ (T33.setTop (mkF m 218 #[.val (.int p0), .val (.int p1), .val (.int p2), .val (.int p3), .val (.int p4), .val (.int p5), .val (.int vg1), .val (.int zj3), .val (.int zj5), .val (.int zj7), .val (.int zj9), .val (.ref b10), .val (.int zj32), .val (.int vg34)] []))
                  refine own_via (fun t k => XS.aload X33.here hx rfl (hb hby at_218) rfl rfl k) ?_
                  show own_G p e below _ (T33.setTop (mkF m 220 #[.val (.int p0), .val (.int p1), .val (.int p2), .val (.int p3), .val (.int p4), .val (.int p5), .val (.int vg1), .val (.int zj3), .val (.int zj5), .val (.int zj7), .val (.int zj9), .val (.ref b10), .val (.int zj32), .val (.int vg34)] [(.ref b10)]))
                  refine own_via (fun t k => XS.iconst X33.here hx rfl (hb hby at_220) k) ?_
                  show own_G p e below _ (T33.setTop (mkF m 221 #[.val (.int p0), .val (.int p1), .val (.int p2), .val (.int p3), .val (.int p4), .val (.int p5), .val (.int vg1), .val (.int zj3), .val (.int zj5), .val (.int zj7), .val (.int zj9), .val (.ref b10), .val (.int zj32), .val (.int vg34)] [(.int (3 : Int32)), (.ref b10)]))
                  refine own_via (own_ldI X33 hx hZ e33 f23 (j := (3 : Int32)) ⟨by decide, by decide⟩ (v := (.int zj9)) rfl (pc := 221) (Ls := #[.val (.int p0), .val (.int p1), .val (.int p2), .val (.int p3), .val (.int p4), .val (.int p5), .val (.int vg1), .val (.int zj3), .val (.int zj5), .val (.int zj7), .val (.int zj9), .val (.ref b10), .val (.int zj32), .val (.int vg34)]) (rest := []) (hb hby at_221)) ?_
                  show own_G p e below _ (T33.setTop (mkF m 222 #[.val (.int p0), .val (.int p1), .val (.int p2), .val (.int p3), .val (.int p4), .val (.int p5), .val (.int vg1), .val (.int zj3), .val (.int zj5), .val (.int zj7), .val (.int zj9), .val (.ref b10), .val (.int zj32), .val (.int vg34)] [(.int zj9)]))
                  refine own_via (fun t k => XS.iload X33.here hx rfl (hb hby at_222) rfl k) ?_
                  show own_G p e below _ (T33.setTop (mkF m 224 #[.val (.int p0), .val (.int p1), .val (.int p2), .val (.int p3), .val (.int p4), .val (.int p5), .val (.int vg1), .val (.int zj3), .val (.int zj5), .val (.int zj7), .val (.int zj9), .val (.ref b10), .val (.int zj32), .val (.int vg34)] [(.int zj9), (.int zj9)]))
                  refine own_via (fun t k => XS.icmpNo X33.here hx rfl (hb hby at_224) rfl (teq rfl).2 k) ?_
                  show own_G p e below _ (T33.setTop (mkF m 227 #[.val (.int p0), .val (.int p1), .val (.int p2), .val (.int p3), .val (.int p4), .val (.int p5), .val (.int vg1), .val (.int zj3), .val (.int zj5), .val (.int zj7), .val (.int zj9), .val (.ref b10), .val (.int zj32), .val (.int vg34)] []))
                  refine own_via (fun t k => XS.iconst X33.here hx rfl (hb hby at_227) k) ?_
                  show own_G p e below _ (T33.setTop (mkF m 228 #[.val (.int p0), .val (.int p1), .val (.int p2), .val (.int p3), .val (.int p4), .val (.int p5), .val (.int vg1), .val (.int zj3), .val (.int zj5), .val (.int zj7), .val (.int zj9), .val (.ref b10), .val (.int zj32), .val (.int vg34)] [(.int (1 : Int32))]))
                  refine own_via (fun t k => XS.goto X33.here hx rfl (pc0 := 228) (pc' := 232) rfl (hb hby at_228) (by decide) (by decide) k) ?_
                  show own_G p e below _ (T33.setTop (mkF m 232 #[.val (.int p0), .val (.int p1), .val (.int p2), .val (.int p3), .val (.int p4), .val (.int p5), .val (.int vg1), .val (.int zj3), .val (.int zj5), .val (.int zj7), .val (.int zj9), .val (.ref b10), .val (.int zj32), .val (.int vg34)] [(.int (1 : Int32))]))
                  exact own_retN (t := .boolean) X33 hx Bd.returns (by simp) Bd.notSynchronized (hb hby at_232) ⟨N22, rfl⟩ (by decide) (by decide)
                by_cases hc35 : (0 : Int32) < vg1
                ·
                  refine own_via (fun t k => XS.ifNo XJ29.here hx rfl (hb hby at_160) rfl ((if0 _ _).trans (tlt hc35).2.2.2) k) ?_
                  show own_G p e below _ (TJ29.setTop (mkF m 163 #[.val (.int p0), .val (.int p1), .val (.int p2), .val (.int p3), .val (.int p4), .val (.int p5), .val (.int vg1), .val (.int zj3), .val (.int zj5), .val (.int zj7), .val (.int zj9), .val (.ref b10), .val (.int zj30), .unset] []))
                  refine own_via (fun t k => XS.iload XJ29.here hx rfl (hb hby at_163) rfl k) ?_
                  show own_G p e below _ (TJ29.setTop (mkF m 165 #[.val (.int p0), .val (.int p1), .val (.int p2), .val (.int p3), .val (.int p4), .val (.int p5), .val (.int vg1), .val (.int zj3), .val (.int zj5), .val (.int zj7), .val (.int zj9), .val (.ref b10), .val (.int zj30), .unset] [(.int zj3)]))
                  refine own_via (fun t k => XS.iload XJ29.here hx rfl (hb hby at_165) rfl k) ?_
                  show own_G p e below _ (TJ29.setTop (mkF m 167 #[.val (.int p0), .val (.int p1), .val (.int p2), .val (.int p3), .val (.int p4), .val (.int p5), .val (.int vg1), .val (.int zj3), .val (.int zj5), .val (.int zj7), .val (.int zj9), .val (.ref b10), .val (.int zj30), .unset] [(.int p4), (.int zj3)]))
                  by_cases hc36 : zj3 = p4
                  ·
                    refine own_via (fun t k => XS.icmpNo XJ29.here hx rfl (hb hby at_167) rfl (teq hc36).2 k) ?_
                    show own_G p e below _ (TJ29.setTop (mkF m 170 #[.val (.int p0), .val (.int p1), .val (.int p2), .val (.int p3), .val (.int p4), .val (.int p5), .val (.int vg1), .val (.int zj3), .val (.int zj5), .val (.int zj7), .val (.int zj9), .val (.ref b10), .val (.int zj30), .unset] []))
                    refine own_via (fun t k => XS.iconst XJ29.here hx rfl (hb hby at_170) k) ?_
                    show own_G p e below _ (TJ29.setTop (mkF m 171 #[.val (.int p0), .val (.int p1), .val (.int p2), .val (.int p3), .val (.int p4), .val (.int p5), .val (.int vg1), .val (.int zj3), .val (.int zj5), .val (.int zj7), .val (.int zj9), .val (.ref b10), .val (.int zj30), .unset] [(.int (0 : Int32))]))
                    refine own_via (fun t k => XS.istore XJ29.here hx rfl (hb hby at_171) rfl (l' := #[.val (.int p0), .val (.int p1), .val (.int p2), .val (.int p3), .val (.int p4), .val (.int p5), .val (.int vg1), .val (.int zj3), .val (.int zj5), .val (.int zj7), .val (.int zj9), .val (.ref b10), .val (.int (0 : Int32)), .unset]) rfl k) ?_
                    show own_G p e below _ (TJ29.setTop (mkF m 173 #[.val (.int p0), .val (.int p1), .val (.int p2), .val (.int p3), .val (.int p4), .val (.int p5), .val (.int vg1), .val (.int zj3), .val (.int zj5), .val (.int zj7), .val (.int zj9), .val (.ref b10), .val (.int (0 : Int32)), .unset] []))
                    exact J31 _ XJ29 EJ29 _ (by simp only [if_pos hc35, if_pos hc36])
                  ·
                    refine own_via (fun t k => XS.icmpYes XJ29.here hx rfl (pc0 := 167) (pc' := 173) rfl (hb hby at_167) rfl (feq hc36).2 (by decide) (by decide) k) ?_
                    show own_G p e below _ (TJ29.setTop (mkF m 173 #[.val (.int p0), .val (.int p1), .val (.int p2), .val (.int p3), .val (.int p4), .val (.int p5), .val (.int vg1), .val (.int zj3), .val (.int zj5), .val (.int zj7), .val (.int zj9), .val (.ref b10), .val (.int zj30), .unset] []))
                    exact J31 _ XJ29 EJ29 _ (by simp only [if_pos hc35, if_neg hc36])
                ·
                  refine own_via (fun t k => XS.ifYes XJ29.here hx rfl (pc0 := 160) (pc' := 173) rfl (hb hby at_160) rfl ((if0 _ _).trans (flt hc35).2.2.2) (by decide) (by decide) k) ?_
                  show own_G p e below _ (TJ29.setTop (mkF m 173 #[.val (.int p0), .val (.int p1), .val (.int p2), .val (.int p3), .val (.int p4), .val (.int p5), .val (.int vg1), .val (.int zj3), .val (.int zj5), .val (.int zj7), .val (.int zj9), .val (.ref b10), .val (.int zj30), .unset] []))
                  exact J31 _ XJ29 EJ29 _ (by simp only [if_neg hc35])
              by_cases hc37 : (1 : Int32) < vg1
              ·
                refine own_via (fun t k => XS.icmpNo XJ27.here hx rfl (hb hby at_145) rfl (tlt hc37).2.2.2 k) ?_
                show own_G p e below _ (TJ27.setTop (mkF m 148 #[.val (.int p0), .val (.int p1), .val (.int p2), .val (.int p3), .val (.int p4), .val (.int p5), .val (.int vg1), .val (.int zj3), .val (.int zj5), .val (.int zj7), .val (.int zj9), .val (.ref b10), .val (.int zj28), .unset] []))
                refine own_via (fun t k => XS.iload XJ27.here hx rfl (hb hby at_148) rfl k) ?_
                show own_G p e below _ (TJ27.setTop (mkF m 150 #[.val (.int p0), .val (.int p1), .val (.int p2), .val (.int p3), .val (.int p4), .val (.int p5), .val (.int vg1), .val (.int zj3), .val (.int zj5), .val (.int zj7), .val (.int zj9), .val (.ref b10), .val (.int zj28), .unset] [(.int zj5)]))
                refine own_via (fun t k => XS.iload XJ27.here hx rfl (hb hby at_150) rfl k) ?_
                show own_G p e below _ (TJ27.setTop (mkF m 152 #[.val (.int p0), .val (.int p1), .val (.int p2), .val (.int p3), .val (.int p4), .val (.int p5), .val (.int vg1), .val (.int zj3), .val (.int zj5), .val (.int zj7), .val (.int zj9), .val (.ref b10), .val (.int zj28), .unset] [(.int p4), (.int zj5)]))
                by_cases hc38 : zj5 = p4
                ·
                  refine own_via (fun t k => XS.icmpNo XJ27.here hx rfl (hb hby at_152) rfl (teq hc38).2 k) ?_
                  show own_G p e below _ (TJ27.setTop (mkF m 155 #[.val (.int p0), .val (.int p1), .val (.int p2), .val (.int p3), .val (.int p4), .val (.int p5), .val (.int vg1), .val (.int zj3), .val (.int zj5), .val (.int zj7), .val (.int zj9), .val (.ref b10), .val (.int zj28), .unset] []))
                  refine own_via (fun t k => XS.iconst XJ27.here hx rfl (hb hby at_155) k) ?_
                  show own_G p e below _ (TJ27.setTop (mkF m 156 #[.val (.int p0), .val (.int p1), .val (.int p2), .val (.int p3), .val (.int p4), .val (.int p5), .val (.int vg1), .val (.int zj3), .val (.int zj5), .val (.int zj7), .val (.int zj9), .val (.ref b10), .val (.int zj28), .unset] [(.int (1 : Int32))]))
                  refine own_via (fun t k => XS.istore XJ27.here hx rfl (hb hby at_156) rfl (l' := #[.val (.int p0), .val (.int p1), .val (.int p2), .val (.int p3), .val (.int p4), .val (.int p5), .val (.int vg1), .val (.int zj3), .val (.int zj5), .val (.int zj7), .val (.int zj9), .val (.ref b10), .val (.int (1 : Int32)), .unset]) rfl k) ?_
                  show own_G p e below _ (TJ27.setTop (mkF m 158 #[.val (.int p0), .val (.int p1), .val (.int p2), .val (.int p3), .val (.int p4), .val (.int p5), .val (.int vg1), .val (.int zj3), .val (.int zj5), .val (.int zj7), .val (.int zj9), .val (.ref b10), .val (.int (1 : Int32)), .unset] []))
                  exact J29 _ XJ27 EJ27 _ (by simp only [if_pos hc37, if_pos hc38])
                ·
                  refine own_via (fun t k => XS.icmpYes XJ27.here hx rfl (pc0 := 152) (pc' := 158) rfl (hb hby at_152) rfl (feq hc38).2 (by decide) (by decide) k) ?_
                  show own_G p e below _ (TJ27.setTop (mkF m 158 #[.val (.int p0), .val (.int p1), .val (.int p2), .val (.int p3), .val (.int p4), .val (.int p5), .val (.int vg1), .val (.int zj3), .val (.int zj5), .val (.int zj7), .val (.int zj9), .val (.ref b10), .val (.int zj28), .unset] []))
                  exact J29 _ XJ27 EJ27 _ (by simp only [if_pos hc37, if_neg hc38])
              ·
                refine own_via (fun t k => XS.icmpYes XJ27.here hx rfl (pc0 := 145) (pc' := 158) rfl (hb hby at_145) rfl (flt hc37).2.2.2 (by decide) (by decide) k) ?_
                show own_G p e below _ (TJ27.setTop (mkF m 158 #[.val (.int p0), .val (.int p1), .val (.int p2), .val (.int p3), .val (.int p4), .val (.int p5), .val (.int vg1), .val (.int zj3), .val (.int zj5), .val (.int zj7), .val (.int zj9), .val (.ref b10), .val (.int zj28), .unset] []))
                exact J29 _ XJ27 EJ27 _ (by simp only [if_neg hc37])
            by_cases hc39 : (2 : Int32) < vg1
            ·
              refine own_via (fun t k => XS.icmpNo XJ25.here hx rfl (hb hby at_129) rfl (tlt hc39).2.2.2 k) ?_
              show own_G p e below _ (TJ25.setTop (mkF m 132 #[.val (.int p0), .val (.int p1), .val (.int p2), .val (.int p3), .val (.int p4), .val (.int p5), .val (.int vg1), .val (.int zj3), .val (.int zj5), .val (.int zj7), .val (.int zj9), .val (.ref b10), .val (.int zj26), .unset] []))
              refine own_via (fun t k => XS.iload XJ25.here hx rfl (hb hby at_132) rfl k) ?_
              show own_G p e below _ (TJ25.setTop (mkF m 134 #[.val (.int p0), .val (.int p1), .val (.int p2), .val (.int p3), .val (.int p4), .val (.int p5), .val (.int vg1), .val (.int zj3), .val (.int zj5), .val (.int zj7), .val (.int zj9), .val (.ref b10), .val (.int zj26), .unset] [(.int zj7)]))
              refine own_via (fun t k => XS.iload XJ25.here hx rfl (hb hby at_134) rfl k) ?_
              show own_G p e below _ (TJ25.setTop (mkF m 136 #[.val (.int p0), .val (.int p1), .val (.int p2), .val (.int p3), .val (.int p4), .val (.int p5), .val (.int vg1), .val (.int zj3), .val (.int zj5), .val (.int zj7), .val (.int zj9), .val (.ref b10), .val (.int zj26), .unset] [(.int p4), (.int zj7)]))
              by_cases hc40 : zj7 = p4
              ·
                refine own_via (fun t k => XS.icmpNo XJ25.here hx rfl (hb hby at_136) rfl (teq hc40).2 k) ?_
                show own_G p e below _ (TJ25.setTop (mkF m 139 #[.val (.int p0), .val (.int p1), .val (.int p2), .val (.int p3), .val (.int p4), .val (.int p5), .val (.int vg1), .val (.int zj3), .val (.int zj5), .val (.int zj7), .val (.int zj9), .val (.ref b10), .val (.int zj26), .unset] []))
                refine own_via (fun t k => XS.iconst XJ25.here hx rfl (hb hby at_139) k) ?_
                show own_G p e below _ (TJ25.setTop (mkF m 140 #[.val (.int p0), .val (.int p1), .val (.int p2), .val (.int p3), .val (.int p4), .val (.int p5), .val (.int vg1), .val (.int zj3), .val (.int zj5), .val (.int zj7), .val (.int zj9), .val (.ref b10), .val (.int zj26), .unset] [(.int (2 : Int32))]))
                refine own_via (fun t k => XS.istore XJ25.here hx rfl (hb hby at_140) rfl (l' := #[.val (.int p0), .val (.int p1), .val (.int p2), .val (.int p3), .val (.int p4), .val (.int p5), .val (.int vg1), .val (.int zj3), .val (.int zj5), .val (.int zj7), .val (.int zj9), .val (.ref b10), .val (.int (2 : Int32)), .unset]) rfl k) ?_
                show own_G p e below _ (TJ25.setTop (mkF m 142 #[.val (.int p0), .val (.int p1), .val (.int p2), .val (.int p3), .val (.int p4), .val (.int p5), .val (.int vg1), .val (.int zj3), .val (.int zj5), .val (.int zj7), .val (.int zj9), .val (.ref b10), .val (.int (2 : Int32)), .unset] []))
                exact J27 _ XJ25 EJ25 _ (by simp only [if_pos hc39, if_pos hc40])
              ·
                refine own_via (fun t k => XS.icmpYes XJ25.here hx rfl (pc0 := 136) (pc' := 142) rfl (hb hby at_136) rfl (feq hc40).2 (by decide) (by decide) k) ?_
                show own_G p e below _ (TJ25.setTop (mkF m 142 #[.val (.int p0), .val (.int p1), .val (.int p2), .val (.int p3), .val (.int p4), .val (.int p5), .val (.int vg1), .val (.int zj3), .val (.int zj5), .val (.int zj7), .val (.int zj9), .val (.ref b10), .val (.int zj26), .unset] []))
                exact J27 _ XJ25 EJ25 _ (by simp only [if_pos hc39, if_neg hc40])
            ·
              refine own_via (fun t k => XS.icmpYes XJ25.here hx rfl (pc0 := 129) (pc' := 142) rfl (hb hby at_129) rfl (flt hc39).2.2.2 (by decide) (by decide) k) ?_
              show own_G p e below _ (TJ25.setTop (mkF m 142 #[.val (.int p0), .val (.int p1), .val (.int p2), .val (.int p3), .val (.int p4), .val (.int p5), .val (.int vg1), .val (.int zj3), .val (.int zj5), .val (.int zj7), .val (.int zj9), .val (.ref b10), .val (.int zj26), .unset] []))
              exact J27 _ XJ25 EJ25 _ (by simp only [if_neg hc39])
          by_cases hc41 : (3 : Int32) < vg1
          ·
            refine own_via (fun t k => XS.icmpNo X22.here hx rfl (hb hby at_113) rfl (tlt hc41).2.2.2 k) ?_
            show own_G p e below _ (T22.setTop (mkF m 116 #[.val (.int p0), .val (.int p1), .val (.int p2), .val (.int p3), .val (.int p4), .val (.int p5), .val (.int vg1), .val (.int zj3), .val (.int zj5), .val (.int zj7), .val (.int zj9), .val (.ref b10), .val (.int (-1 : Int32)), .unset] []))
            refine own_via (fun t k => XS.iload X22.here hx rfl (hb hby at_116) rfl k) ?_
            show own_G p e below _ (T22.setTop (mkF m 118 #[.val (.int p0), .val (.int p1), .val (.int p2), .val (.int p3), .val (.int p4), .val (.int p5), .val (.int vg1), .val (.int zj3), .val (.int zj5), .val (.int zj7), .val (.int zj9), .val (.ref b10), .val (.int (-1 : Int32)), .unset] [(.int zj9)]))
            refine own_via (fun t k => XS.iload X22.here hx rfl (hb hby at_118) rfl k) ?_
            show own_G p e below _ (T22.setTop (mkF m 120 #[.val (.int p0), .val (.int p1), .val (.int p2), .val (.int p3), .val (.int p4), .val (.int p5), .val (.int vg1), .val (.int zj3), .val (.int zj5), .val (.int zj7), .val (.int zj9), .val (.ref b10), .val (.int (-1 : Int32)), .unset] [(.int p4), (.int zj9)]))
            by_cases hc42 : zj9 = p4
            ·
              refine own_via (fun t k => XS.icmpNo X22.here hx rfl (hb hby at_120) rfl (teq hc42).2 k) ?_
              show own_G p e below _ (T22.setTop (mkF m 123 #[.val (.int p0), .val (.int p1), .val (.int p2), .val (.int p3), .val (.int p4), .val (.int p5), .val (.int vg1), .val (.int zj3), .val (.int zj5), .val (.int zj7), .val (.int zj9), .val (.ref b10), .val (.int (-1 : Int32)), .unset] []))
              refine own_via (fun t k => XS.iconst X22.here hx rfl (hb hby at_123) k) ?_
              show own_G p e below _ (T22.setTop (mkF m 124 #[.val (.int p0), .val (.int p1), .val (.int p2), .val (.int p3), .val (.int p4), .val (.int p5), .val (.int vg1), .val (.int zj3), .val (.int zj5), .val (.int zj7), .val (.int zj9), .val (.ref b10), .val (.int (-1 : Int32)), .unset] [(.int (3 : Int32))]))
              refine own_via (fun t k => XS.istore X22.here hx rfl (hb hby at_124) rfl (l' := #[.val (.int p0), .val (.int p1), .val (.int p2), .val (.int p3), .val (.int p4), .val (.int p5), .val (.int vg1), .val (.int zj3), .val (.int zj5), .val (.int zj7), .val (.int zj9), .val (.ref b10), .val (.int (3 : Int32)), .unset]) rfl k) ?_
              show own_G p e below _ (T22.setTop (mkF m 126 #[.val (.int p0), .val (.int p1), .val (.int p2), .val (.int p3), .val (.int p4), .val (.int p5), .val (.int vg1), .val (.int zj3), .val (.int zj5), .val (.int zj7), .val (.int zj9), .val (.ref b10), .val (.int (3 : Int32)), .unset] []))
              exact J25 _ X22 e22 _ (by simp only [if_pos hc41, if_pos hc42])
            ·
              refine own_via (fun t k => XS.icmpYes X22.here hx rfl (pc0 := 120) (pc' := 126) rfl (hb hby at_120) rfl (feq hc42).2 (by decide) (by decide) k) ?_
              show own_G p e below _ (T22.setTop (mkF m 126 #[.val (.int p0), .val (.int p1), .val (.int p2), .val (.int p3), .val (.int p4), .val (.int p5), .val (.int vg1), .val (.int zj3), .val (.int zj5), .val (.int zj7), .val (.int zj9), .val (.ref b10), .val (.int (-1 : Int32)), .unset] []))
              exact J25 _ X22 e22 _ (by simp only [if_pos hc41, if_neg hc42])
          ·
            refine own_via (fun t k => XS.icmpYes X22.here hx rfl (pc0 := 113) (pc' := 126) rfl (hb hby at_113) rfl (flt hc41).2.2.2 (by decide) (by decide) k) ?_
            show own_G p e below _ (T22.setTop (mkF m 126 #[.val (.int p0), .val (.int p1), .val (.int p2), .val (.int p3), .val (.int p4), .val (.int p5), .val (.int vg1), .val (.int zj3), .val (.int zj5), .val (.int zj7), .val (.int zj9), .val (.ref b10), .val (.int (-1 : Int32)), .unset] []))
            exact J25 _ X22 e22 _ (by simp only [if_neg hc41])
        by_cases hc43 : ((p5 >>> ((6 : Int32) &&& 31)) &&& (1 : Int32)) = (0 : Int32)
        ·
          refine own_via (fun t k => XS.ifYes XJ6.here hx rfl (pc0 := 67) (pc' := 75) rfl (hb hby at_67) rfl ((if0 _ _).trans (teq hc43).1) (by decide) (by decide) k) ?_
          show own_G p e below _ (TJ6.setTop (mkF m 75 #[.val (.int p0), .val (.int p1), .val (.int p2), .val (.int p3), .val (.int p4), .val (.int p5), .val (.int vg1), .val (.int zj3), .val (.int zj5), .val (.int zj7), .unset, .unset, .unset, .unset] []))
          refine own_via (fun t k => XS.iloadN XJ6.here hx rfl (hb hby at_75) rfl k) ?_
          show own_G p e below _ (TJ6.setTop (mkF m 76 #[.val (.int p0), .val (.int p1), .val (.int p2), .val (.int p3), .val (.int p4), .val (.int p5), .val (.int vg1), .val (.int zj3), .val (.int zj5), .val (.int zj7), .unset, .unset, .unset, .unset] [(.int p3)]))
          exact J8 _ XJ6 EJ6 _ (by simp only [if_pos hc43])
        ·
          refine own_via (fun t k => XS.ifNo XJ6.here hx rfl (hb hby at_67) rfl ((if0 _ _).trans (feq hc43).1) k) ?_
          show own_G p e below _ (TJ6.setTop (mkF m 70 #[.val (.int p0), .val (.int p1), .val (.int p2), .val (.int p3), .val (.int p4), .val (.int p5), .val (.int vg1), .val (.int zj3), .val (.int zj5), .val (.int zj7), .unset, .unset, .unset, .unset] []))
          refine own_via (fun t k => XS.iload XJ6.here hx rfl (hb hby at_70) rfl k) ?_
          show own_G p e below _ (TJ6.setTop (mkF m 72 #[.val (.int p0), .val (.int p1), .val (.int p2), .val (.int p3), .val (.int p4), .val (.int p5), .val (.int vg1), .val (.int zj3), .val (.int zj5), .val (.int zj7), .unset, .unset, .unset, .unset] [(.int p4)]))
          refine own_via (fun t k => XS.goto XJ6.here hx rfl (pc0 := 72) (pc' := 76) rfl (hb hby at_72) (by decide) (by decide) k) ?_
          show own_G p e below _ (TJ6.setTop (mkF m 76 #[.val (.int p0), .val (.int p1), .val (.int p2), .val (.int p3), .val (.int p4), .val (.int p5), .val (.int vg1), .val (.int zj3), .val (.int zj5), .val (.int zj7), .unset, .unset, .unset, .unset] [(.int p4)]))
          exact J8 _ XJ6 EJ6 _ (by simp only [if_neg hc43])
      by_cases hc44 : ((p5 >>> ((5 : Int32) &&& 31)) &&& (1 : Int32)) = (0 : Int32)
      ·
        refine own_via (fun t k => XS.ifYes XJ4.here hx rfl (pc0 := 49) (pc' := 57) rfl (hb hby at_49) rfl ((if0 _ _).trans (teq hc44).1) (by decide) (by decide) k) ?_
        show own_G p e below _ (TJ4.setTop (mkF m 57 #[.val (.int p0), .val (.int p1), .val (.int p2), .val (.int p3), .val (.int p4), .val (.int p5), .val (.int vg1), .val (.int zj3), .val (.int zj5), .unset, .unset, .unset, .unset, .unset] []))
        refine own_via (fun t k => XS.iloadN XJ4.here hx rfl (hb hby at_57) rfl k) ?_
        show own_G p e below _ (TJ4.setTop (mkF m 58 #[.val (.int p0), .val (.int p1), .val (.int p2), .val (.int p3), .val (.int p4), .val (.int p5), .val (.int vg1), .val (.int zj3), .val (.int zj5), .unset, .unset, .unset, .unset, .unset] [(.int p2)]))
        exact J6 _ XJ4 EJ4 _ (by simp only [if_pos hc44])
      ·
        refine own_via (fun t k => XS.ifNo XJ4.here hx rfl (hb hby at_49) rfl ((if0 _ _).trans (feq hc44).1) k) ?_
        show own_G p e below _ (TJ4.setTop (mkF m 52 #[.val (.int p0), .val (.int p1), .val (.int p2), .val (.int p3), .val (.int p4), .val (.int p5), .val (.int vg1), .val (.int zj3), .val (.int zj5), .unset, .unset, .unset, .unset, .unset] []))
        refine own_via (fun t k => XS.iload XJ4.here hx rfl (hb hby at_52) rfl k) ?_
        show own_G p e below _ (TJ4.setTop (mkF m 54 #[.val (.int p0), .val (.int p1), .val (.int p2), .val (.int p3), .val (.int p4), .val (.int p5), .val (.int vg1), .val (.int zj3), .val (.int zj5), .unset, .unset, .unset, .unset, .unset] [(.int p4)]))
        refine own_via (fun t k => XS.goto XJ4.here hx rfl (pc0 := 54) (pc' := 58) rfl (hb hby at_54) (by decide) (by decide) k) ?_
        show own_G p e below _ (TJ4.setTop (mkF m 58 #[.val (.int p0), .val (.int p1), .val (.int p2), .val (.int p3), .val (.int p4), .val (.int p5), .val (.int vg1), .val (.int zj3), .val (.int zj5), .unset, .unset, .unset, .unset, .unset] [(.int p4)]))
        exact J6 _ XJ4 EJ4 _ (by simp only [if_neg hc44])
    by_cases hc45 : ((p5 >>> ((4 : Int32) &&& 31)) &&& (1 : Int32)) = (0 : Int32)
    ·
      refine own_via (fun t k => XS.ifYes XJ2.here hx rfl (pc0 := 32) (pc' := 40) rfl (hb hby at_32) rfl ((if0 _ _).trans (teq hc45).1) (by decide) (by decide) k) ?_
      show own_G p e below _ (TJ2.setTop (mkF m 40 #[.val (.int p0), .val (.int p1), .val (.int p2), .val (.int p3), .val (.int p4), .val (.int p5), .val (.int vg1), .val (.int zj3), .unset, .unset, .unset, .unset, .unset, .unset] []))
      refine own_via (fun t k => XS.iloadN XJ2.here hx rfl (hb hby at_40) rfl k) ?_
      show own_G p e below _ (TJ2.setTop (mkF m 41 #[.val (.int p0), .val (.int p1), .val (.int p2), .val (.int p3), .val (.int p4), .val (.int p5), .val (.int vg1), .val (.int zj3), .unset, .unset, .unset, .unset, .unset, .unset] [(.int p1)]))
      exact J4 _ XJ2 EJ2 _ (by simp only [if_pos hc45])
    ·
      refine own_via (fun t k => XS.ifNo XJ2.here hx rfl (hb hby at_32) rfl ((if0 _ _).trans (feq hc45).1) k) ?_
      show own_G p e below _ (TJ2.setTop (mkF m 35 #[.val (.int p0), .val (.int p1), .val (.int p2), .val (.int p3), .val (.int p4), .val (.int p5), .val (.int vg1), .val (.int zj3), .unset, .unset, .unset, .unset, .unset, .unset] []))
      refine own_via (fun t k => XS.iload XJ2.here hx rfl (hb hby at_35) rfl k) ?_
      show own_G p e below _ (TJ2.setTop (mkF m 37 #[.val (.int p0), .val (.int p1), .val (.int p2), .val (.int p3), .val (.int p4), .val (.int p5), .val (.int vg1), .val (.int zj3), .unset, .unset, .unset, .unset, .unset, .unset] [(.int p4)]))
      refine own_via (fun t k => XS.goto XJ2.here hx rfl (pc0 := 37) (pc' := 41) rfl (hb hby at_37) (by decide) (by decide) k) ?_
      show own_G p e below _ (TJ2.setTop (mkF m 41 #[.val (.int p0), .val (.int p1), .val (.int p2), .val (.int p3), .val (.int p4), .val (.int p5), .val (.int vg1), .val (.int zj3), .unset, .unset, .unset, .unset, .unset, .unset] [(.int p4)]))
      exact J4 _ XJ2 EJ2 _ (by simp only [if_neg hc45])
  by_cases hc46 : ((p5 >>> ((3 : Int32) &&& 31)) &&& (1 : Int32)) = (0 : Int32)
  ·
    refine own_via (fun t k => XS.ifYes X0.here hx rfl (pc0 := 15) (pc' := 23) rfl (hb hby at_15) rfl ((if0 _ _).trans (teq hc46).1) (by decide) (by decide) k) ?_
    show own_G p e below _ (s₁.setTop (mkF m 23 #[.val (.int p0), .val (.int p1), .val (.int p2), .val (.int p3), .val (.int p4), .val (.int p5), .val (.int vg1), .unset, .unset, .unset, .unset, .unset, .unset, .unset] []))
    refine own_via (fun t k => XS.iloadN X0.here hx rfl (hb hby at_23) rfl k) ?_
    show own_G p e below _ (s₁.setTop (mkF m 24 #[.val (.int p0), .val (.int p1), .val (.int p2), .val (.int p3), .val (.int p4), .val (.int p5), .val (.int vg1), .unset, .unset, .unset, .unset, .unset, .unset, .unset] [(.int p0)]))
    exact J2 _ X0 e0 _ (by simp only [if_pos hc46])
  ·
    refine own_via (fun t k => XS.ifNo X0.here hx rfl (hb hby at_15) rfl ((if0 _ _).trans (feq hc46).1) k) ?_
    show own_G p e below _ (s₁.setTop (mkF m 18 #[.val (.int p0), .val (.int p1), .val (.int p2), .val (.int p3), .val (.int p4), .val (.int p5), .val (.int vg1), .unset, .unset, .unset, .unset, .unset, .unset, .unset] []))
    refine own_via (fun t k => XS.iload X0.here hx rfl (hb hby at_18) rfl k) ?_
    show own_G p e below _ (s₁.setTop (mkF m 20 #[.val (.int p0), .val (.int p1), .val (.int p2), .val (.int p3), .val (.int p4), .val (.int p5), .val (.int vg1), .unset, .unset, .unset, .unset, .unset, .unset, .unset] [(.int p4)]))
    refine own_via (fun t k => XS.goto X0.here hx rfl (pc0 := 20) (pc' := 24) rfl (hb hby at_20) (by decide) (by decide) k) ?_
    show own_G p e below _ (s₁.setTop (mkF m 24 #[.val (.int p0), .val (.int p1), .val (.int p2), .val (.int p3), .val (.int p4), .val (.int p5), .val (.int vg1), .unset, .unset, .unset, .unset, .unset, .unset, .unset] [(.int p4)]))
    exact J2 _ X0 e0 _ (by simp only [if_neg hc46])
set_option maxRecDepth 65536 in
set_option maxHeartbeats 40000000 in
theorem comes_1 {Post : Tables → Env → Array Value → State → Outcome → State → Prop} (hpost : ∀ tb e args s v u, (limb_1_1.after args s (.returned v) u = true ∧ limb_1_2.after args s (.returned v) u = true) → FrameEnd s (.returned v) u (Jvm.fieldLocs frame_1_writes args s ++ Jvm.arrayLocs frame_1_arrays args s ++ Jvm.staticLocs frame_1_statics s) 16 128 → Post tb e args s (.returned v) u) :
    ArmFor flags0 classFile x code maxLocals ret World_1 tables_1 room_1 Calls_1 rest_1 Pre_1 Post := by
  intro l hfl _ _ p e ha hc hk s m args below hf hA hF happ hP
  obtain ⟨hcalls, hrest, hpre⟩ := hP
  obtain ⟨-, -, -, hnamed, -, -, -, hat⟩ := (Spec.applies_iff hf).mp happ
  obtain ⟨hg, hn⟩ := and_e (Cond.before_iff.mp (show (Jvm.Cond.and given_1 narrow_1).before args s = true from hpre))
  obtain ⟨g1, g2⟩ := and_e hg
  obtain ⟨g3, g4⟩ := and_e g2
  obtain ⟨g5, g6⟩ := and_e g4
  obtain ⟨g7, g8⟩ := and_e g6
  obtain ⟨g9, g10⟩ := and_e g8
  obtain ⟨g11, g12⟩ := and_e g10
  obtain ⟨w0, w1, w2, w3, w4, w5, rfl⟩ : ∃ w0 w1 w2 w3 w4 w5 : Value, args = #[w0, w1, w2, w3, w4, w5] := by
    have hs : args.size = 6 := by simpa [Cond.value, given_1] using g1
    obtain ⟨L⟩ := args
    match L, hs with
    | [w0, w1, w2, w3, w4, w5], _ => exact ⟨w0, w1, w2, w3, w4, w5, rfl⟩
  have hw := fun d (hd : d ∈ tables_1) => atoms_spec (ws := Jvm.Cond.code x code maxLocals ret :: tables_1) hat d (List.mem_cons_of_mem _ hd)
  obtain ⟨i0, ei0⟩ := is_v g3
  obtain rfl : w0 = (.int i0) := Option.some.inj ei0
  obtain ⟨i1, ei1⟩ := is_v g5
  obtain rfl : w1 = (.int i1) := Option.some.inj ei1
  obtain ⟨i2, ei2⟩ := is_v g7
  obtain rfl : w2 = (.int i2) := Option.some.inj ei2
  obtain ⟨i3, ei3⟩ := is_v g9
  obtain rfl : w3 = (.int i3) := Option.some.inj ei3
  obtain ⟨i4, ei4⟩ := is_v g11
  obtain rfl : w4 = (.int i4) := Option.some.inj ei4
  obtain ⟨i5, ei5⟩ := is_v g12
  obtain rfl : w5 = (.int i5) := Option.some.inj ei5
  obtain ⟨n, o, h1, h2, h3, _, L, rfl, ⟨N, rfl⟩, hq⟩ := own_rm0 l s _ hw tables_1 i0 i1 i2 i3 i4 i5 s.heap s.heap.size (Nat.le_refl _)  p e ha hc hk s m _ below hf ((Spec.applies_iff_loose hf).mp happ).1 ⟨rfl, State.Warmed39.refl s, rfl⟩ trivial
  refine ⟨n, _, h1, h2, h3, hpost _ _ _ _ _ _ ⟨Cond.after_iff.mpr rfl, Cond.after_iff.mpr (eq_i res_at (Term.int_eval (1)) rfl)⟩ ⟨hq.1, hq.2.1, (hq.2.2.sift fun y hy => Or.inr (N y hy)).mono (by decide) (by decide)⟩⟩
theorem main_1_1 : Claimed_1_1 := comes_1 fun _ _ _ _ _ _ h hF => ⟨h.1, hF⟩
theorem main_1_2 : Claimed_1_2 := comes_1 fun _ _ _ _ _ _ h hF => ⟨h.2, hF⟩
end Jvm.Pilot.@@N@@
namespace Jvm.Pilot.@@N@@
open Jvm Jvm.ClassFile Sem Op Lib Jvm.Free Jvm.Stand Jvm.Pilot.@@N@@.Jvm.D
/-! MADE BY PROGRAM (witnessworld.py) out of the Statement's table words and the real class files: 9 classes; the members and pool entries that the words name. The judged class is class 1, her method 1. -/
namespace start1
open Jvm.ClassFile
def u (s : String) : CpInfo := .utf8 (stringToUtf16 s)
/-- a pool by its gaps: so many unusable entries, then the entry; so many at the end -/
def gap : Nat → List CpInfo → List CpInfo
  | 0, r => r
  | n + 1, r => .unusable :: gap n r
def poolList (es : List (Nat × CpInfo)) (last : Nat) : List CpInfo := es.foldr (fun e r => gap e.1 (e.2 :: r)) (gap last [])
def pool (es : List (Nat × CpInfo)) (last : Nat) : Array CpInfo := ⟨poolList es last⟩
def fileOf (pool : Array CpInfo) (this : Nat) (attrs : Array Attribute := #[]) (ms : Array MethodInfo := #[]) (fl : Nat := 33) (sup : Nat := 0) (ifs : Array Nat := #[]) (fds : Array FieldInfo := #[]) : ClassFile where
  minorVersion := 0
  majorVersion := 65
  constantPool := pool
  accessFlags := fl
  thisClass := this
  superClass := sup
  interfaces := ifs
  fields := fds
  methods := ms
  attributes := attrs
def plain (name : String) (sup : Option ClassId) : Class where
  name := name
  kind := .ordinary
  loader := none
  accessFlags := 33
  super := sup
  interfaces := #[]
  cf := none
  fields := #[]
  methods := #[]
  instanceTypes := #[]
  staticTypes := #[]
  resolved := #[]
  callSites := []
  init := .initialized
  statics := none
  mirror := none

def pool0 : Array CpInfo := pool [(5, u "<init>"), (0, u "()V"), (1, .class_ 10), (1, u "java/lang/Object")] 113

def k0m0 : Method := { name := "<init>", desc := "()V", sig := { parameters := [], returnType := none }, accessFlags := 1, code := none }
/-- java/lang/Object -/
def k0 : Class := { plain "java/lang/Object" none with
  accessFlags := 33
  interfaces := #[]
  cf := some (fileOf pool0 8 #[] #[{ accessFlags := 1, nameIndex := 5, descriptorIndex := 6, attributes := #[] }] 33 0 #[] #[])
  fields := #[]
  methods := #[k0m0]
  instanceTypes := #[]
  staticTypes := #[]
  resolved := Array.replicate 124 none
  statics := none }

def pool1 : Array CpInfo := pool [(2, .class_ 4), (1, u "java/lang/Object"), (0, u "<init>"), (0, u "()V"), (0, .methodref 8 9), (0, .class_ 10), (0, .nameAndType 11 12), (0, u "com/example/loudmark/loudmark/mixer/PacketMixer"), (0, u "indexOf"), (0, u "([III)I"), (0, .class_ 14), (0, u "com/example/loudmark/loudmark/mixer/PacketMixerIndexOfPinLaw"), (2, u "law"), (0, u "(IIIIII)Z")] 5

def k1m0 : Method := { name := "<init>", desc := "()V", sig := { parameters := [], returnType := none }, accessFlags := 2, code := none }
def k1c1 : Code := { maxStack := 3, maxLocals := 14, code := code, exceptionTable := #[], attributes := #[] }
def k1m1 : Method := { name := "law", desc := "(IIIIII)Z", sig := { parameters := [.int, .int, .int, .int, .int, .int], returnType := some .boolean }, accessFlags := 9, code := some k1c1 }
/-- com/example/loudmark/loudmark/mixer/PacketMixerIndexOfPinLaw -/
def k1 : Class := { plain "com/example/loudmark/loudmark/mixer/PacketMixerIndexOfPinLaw" (some 0) with
  accessFlags := 49
  interfaces := #[]
  cf := some (fileOf pool1 13 #[] #[{ accessFlags := 2, nameIndex := 5, descriptorIndex := 6, attributes := #[] }, { accessFlags := 9, nameIndex := 17, descriptorIndex := 18, attributes := #[] }] 49 2 #[] #[])
  fields := #[]
  methods := #[k1m0, k1m1]
  instanceTypes := #[]
  staticTypes := #[]
  resolved := Array.replicate 24 none
  statics := none }

def pool2 : Array CpInfo := pool [(2, .class_ 4), (1, u "java/lang/Object"), (5, .class_ 12), (1, u "com/example/loudmark/loudmark/mixer/PacketMixer"), (0, u "csrcs"), (0, u "[I"), (2, u "levels"), (2, u "adding"), (13, u "meter"), (0, u "Lcom/example/loudmark/loudmark/core/LevelMeter;"), (2, u "isStreamSsrc"), (0, u "Ljava/util/function/IntPredicate;"), (2, u "sums"), (10, u "length"), (0, u "I"), (8, u "contributors"), (58, .class_ 123), (0, u "com/example/loudmark/loudmark/mixer/PacketMixer$UnlistableException"), (13, u "indexOf"), (0, u "([III)I")] 62

def k2c0 : Code := { maxStack := 2, maxLocals := 4, code := prog_48_method_14_code, exceptionTable := #[], attributes := #[] }
def k2m0 : Method := { name := "indexOf", desc := "([III)I", sig := { parameters := [(.array .int), .int, .int], returnType := some .int }, accessFlags := 8, code := some k2c0 }
/-- com/example/loudmark/loudmark/mixer/PacketMixer -/
def k2 : Class := { plain "com/example/loudmark/loudmark/mixer/PacketMixer" (some 0) with
  accessFlags := 49
  interfaces := #[]
  cf := some (fileOf pool2 10 #[.nestMembers #[122]] #[{ accessFlags := 8, nameIndex := 137, descriptorIndex := 138, attributes := #[] }] 49 2 #[] #[{ accessFlags := 18, nameIndex := 34, descriptorIndex := 35, attributes := #[] }, { accessFlags := 18, nameIndex := 38, descriptorIndex := 39, attributes := #[] }, { accessFlags := 18, nameIndex := 42, descriptorIndex := 14, attributes := #[] }, { accessFlags := 18, nameIndex := 13, descriptorIndex := 14, attributes := #[] }, { accessFlags := 18, nameIndex := 17, descriptorIndex := 14, attributes := #[] }, { accessFlags := 2, nameIndex := 63, descriptorIndex := 54, attributes := #[] }, { accessFlags := 2, nameIndex := 53, descriptorIndex := 54, attributes := #[] }, { accessFlags := 18, nameIndex := 20, descriptorIndex := 14, attributes := #[] }])
  fields := #[{ name := "meter", type := (.object "com/example/loudmark/loudmark/core/LevelMeter"), accessFlags := 18, slot := 0, constantValue := 0 }, { name := "isStreamSsrc", type := (.object "java/util/function/IntPredicate"), accessFlags := 18, slot := 1, constantValue := 0 }, { name := "sums", type := (.array .int), accessFlags := 18, slot := 2, constantValue := 0 }, { name := "csrcs", type := (.array .int), accessFlags := 18, slot := 3, constantValue := 0 }, { name := "levels", type := (.array .int), accessFlags := 18, slot := 4, constantValue := 0 }, { name := "contributors", type := .int, accessFlags := 2, slot := 5, constantValue := 0 }, { name := "length", type := .int, accessFlags := 2, slot := 6, constantValue := 0 }, { name := "adding", type := (.array .int), accessFlags := 18, slot := 7, constantValue := 0 }]
  methods := #[k2m0]
  instanceTypes := #[(.object "com/example/loudmark/loudmark/core/LevelMeter"), (.object "java/util/function/IntPredicate"), (.array .int), (.array .int), (.array .int), .int, .int, (.array .int)]
  staticTypes := #[]
  resolved := Array.replicate 201 none
  statics := none }

def pool3 : Array CpInfo := pool [(1, u "java/lang/Cloneable"), (0, .class_ 1), (0, u "java/lang/Object"), (0, .class_ 3)] 3

/-- java/lang/Cloneable -/
def k3 : Class := { plain "java/lang/Cloneable" (some 0) with
  accessFlags := 1537
  interfaces := #[]
  cf := some (fileOf pool3 2 #[] #[] 1537 4 #[] #[])
  fields := #[]
  methods := #[]
  instanceTypes := #[]
  staticTypes := #[]
  resolved := Array.replicate 8 none
  statics := none }

def pool4 : Array CpInfo := pool [(1, u "java/io/Serializable"), (0, .class_ 1), (0, u "java/lang/Object"), (0, .class_ 3)] 3

/-- java/io/Serializable -/
def k4 : Class := { plain "java/io/Serializable" (some 0) with
  accessFlags := 1537
  interfaces := #[]
  cf := some (fileOf pool4 2 #[] #[] 1537 4 #[] #[])
  fields := #[]
  methods := #[]
  instanceTypes := #[]
  staticTypes := #[]
  resolved := Array.replicate 8 none
  statics := none }

/-- the primitive byte -/
def k5 : Class := { plain "byte" none with kind := .primitive 'B', accessFlags := 0x411 }
/-- [B -/
def k6 : Class := { plain "[B" (some 0) with kind := .array 5 .byte, interfaces := #[3, 4], accessFlags := 1041 }

/-- the primitive int -/
def k7 : Class := { plain "int" none with kind := .primitive 'I', accessFlags := 0x411 }
/-- [I -/
def k8 : Class := { plain "[I" (some 0) with kind := .array 7 .int, interfaces := #[3, 4], accessFlags := 1041 }

def heap : Heap := #[]
def classes : Array Class := #[k0, k1, k2, k3, k4, k5, k6, k7, k8]
def interned : List (Array UInt16 × Addr) := []
def slotsUsed : Nat := 0
def theMethod : MethodId := ⟨1, 1⟩
def args0 : Array Value := #[.int 5, .int 300, .int 7, .int 2, .int 5, .int 300]
def aboutOver (below : List Frame) : State where
  vm := { classes := classes, interned := interned.toArray }
  heap := heap
  slotsUsed := slotsUsed
  threads := #[{ frames := .invoking theMethod args0 :: below }]
def below0 : List Frame := [.native { method := ⟨0, 0⟩, args := #[] }]
def about1 : State := aboutOver below0
def p0 : Program := .bare "" "" ""
def e0 : Env := launch0.env 0 0 0
theorem w_frames : about1.frames = Frame.invoking theMethod args0 :: below0 := rfl
set_option maxRecDepth 65536 in
theorem w_args : argsFit about1.vm theMethod args0 = true := by decide +kernel
set_option maxRecDepth 65536 in
theorem w_heap : heapFits about1 = true := by decide +kernel
set_option maxRecDepth 65536 in
theorem w_runnable : about1.curStatus? = some .runnable := by decide +kernel
set_option maxRecDepth 65536 in
theorem w_alone : about1.alone = true := by decide +kernel
set_option maxRecDepth 65536 in
theorem w_named : about1.methodNamed? x = some theMethod := by decide +kernel
set_option maxRecDepth 65536 in
theorem w_hears : about1.hears theMethod below0 = true := by decide +kernel
set_option maxRecDepth 65536 in
theorem w_ripe : about1.ripe theMethod args0 below0 = true := by decide +kernel
theorem w_running : about1.status = .running := rfl
set_option maxRecDepth 65536 in
theorem w_room : about1.hasRoom e0.platform room_1 = true :=
  launch0.hasRoom_least _ room_1 (by decide +kernel) (by decide +kernel) (by decide +kernel) (by decide +kernel) (by decide +kernel) (by decide +kernel)
theorem allAtoms_all (ts : List Jvm.Cond) (a : Array Jvm.Value) (st : Jvm.State) : (allAtoms ts).before a st = ts.all (fun c => c.before a st) := by
  induction ts with
  | nil => rfl
  | cons c t ih =>
    show (Jvm.Cond.and c (allAtoms t)).before a st = _
    rw [Jvm.Cond.before_and, ih, List.all_cons]
def words1 : List Jvm.Cond := Jvm.Cond.code x code maxLocals ret :: tables_1
/-- a 'code' word, met by the world's own term for the bytes: nothing is compared byte by byte -/
theorem code_word {y : MethodName} {bytes : ByteArray} {mx : Nat} {rt : Option FieldType} {a : Array Value} {s : State} {m : MethodId} {meth : Method} {c : Code} (h1 : s.methodNamed? y = some m) (h2 : s.vm.method? m = some meth) (h3 : meth.code = some c) (h4 : c.code = bytes)
    (h5 : (c.maxLocals == mx && c.exceptionTable.isEmpty && decide (c.maxStack ≤ mostOperands) && decide (meth.sig.returnType = rt) && !meth.locks && decide (parseMethodDescriptor y.desc = some meth.sig)) = true) : (Jvm.Cond.code y bytes mx rt).before a s = true := by
  simp only [Bool.and_eq_true, beq_iff_eq, Bool.not_eq_true', decide_eq_true_eq] at h5
  obtain ⟨⟨⟨⟨⟨g1, g2⟩, g3⟩, g4⟩, g5⟩, g6⟩ := h5
  simp [Cond.before, Cond.holds, Cond.value, h1, h2, h3, h4, g1, g2, g3, g4, g5, g6]
def isCode : Jvm.Cond → Bool
  | .code _ _ _ _ => true
  | _ => false
theorem all_split {L : List Jvm.Cond} {P : Jvm.Cond → Bool} (h1 : L.all (fun c => isCode c || P c) = true) (h2 : ∀ c ∈ L.filter isCode, P c = true) : L.all P = true := by
  refine List.all_eq_true.mpr fun c hc => ?_
  have h := List.all_eq_true.mp h1 c hc
  rcases Bool.eq_false_or_eq_true (isCode c) with hi | hi
  · exact h2 c (List.mem_filter.mpr ⟨hc, hi⟩)
  · simpa [hi] using h
set_option maxRecDepth 65536 in
theorem w_c0 : (Jvm.Cond.code x code maxLocals ret).before args0 about1 = true := code_word (m := ⟨1, 1⟩) (meth := k1m1) (c := k1c1) (by decide +kernel) rfl rfl rfl (by decide +kernel)
set_option maxRecDepth 65536 in
theorem w_c1 : (Jvm.Cond.code ({ cls := "com/example/loudmark/loudmark/mixer/PacketMixer", name := "indexOf", desc := "([III)I" } : Jvm.MethodName) prog_48_method_14_code (4 : Nat) (Option.some Jvm.ClassFile.FieldType.int)).before args0 about1 = true := code_word (m := ⟨2, 0⟩) (meth := k2m0) (c := k2c0) (by decide +kernel) rfl rfl rfl (by decide +kernel)
def codes1 : List Jvm.Cond := [Jvm.Cond.code x code maxLocals ret, Jvm.Cond.code ({ cls := "com/example/loudmark/loudmark/mixer/PacketMixer", name := "indexOf", desc := "([III)I" } : Jvm.MethodName) prog_48_method_14_code (4 : Nat) (Option.some Jvm.ClassFile.FieldType.int)]
set_option maxRecDepth 65536 in
theorem codes_eq : words1.filter isCode = codes1 := rfl
theorem w_codes : ∀ c ∈ words1.filter isCode, c.before args0 about1 = true := by
  rw [codes_eq]
  intro c hc
  simp only [codes1, List.mem_cons, List.not_mem_nil, or_false] at hc
  rcases hc with rfl | rfl
  · exact w_c0
  · exact w_c1
set_option maxRecDepth 65536 in
theorem w_t1 : words1.all (fun c => isCode c || c.before args0 about1) = true := by decide +kernel
theorem w_tables : (allAtoms (Jvm.Cond.code x code maxLocals ret :: tables_1)).before args0 about1 = true := by
  rw [allAtoms_all]
  show words1.all (fun c => c.before args0 about1) = true
  refine all_split ?_ w_codes
  rw [w_t1]
set_option maxRecDepth 65536 in
theorem w_case : (Jvm.Cond.and given_1 narrow_1).before args0 about1 = true := by decide +kernel
theorem w_applies : (headSpec (Jvm.Cond.code x code maxLocals ret :: tables_1) room_1).applies x e0.platform about1 = true :=
  (Spec.applies_iff w_frames).mpr ⟨w_running, w_runnable, w_alone, w_named, w_hears, w_ripe, w_room, w_tables⟩
theorem atStart : AtStart classFile x code maxLocals ret World_1 tables_1 room_1 Calls_1 rest_1 Pre_1 launch0 p0 e0 about1 theMethod args0 below0 :=
  ⟨lists_1, trivial, launch0.admits_env _ _ _, launch0.least_env, fairChoices_fair.cas, fairChoices_fair.clock, w_frames, w_args, w_heap, w_applies, trivial, trivial, w_case⟩
end start1
theorem witness_1 : WitnessClaimed_1 := ⟨start1.p0, start1.e0, start1.about1, start1.theMethod, start1.args0, start1.below0, start1.atStart⟩
end Jvm.Pilot.@@N@@
