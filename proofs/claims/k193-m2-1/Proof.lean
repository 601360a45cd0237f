import JvmDerived
import JvmDerived.Pilot.@@N@@Statement
import JvmDerived.Pilot.@@N@@Code
set_option linter.unusedVariables false
set_option linter.unusedSimpArgs false
set_option maxRecDepth 65536
set_option maxHeartbeats 20000000
namespace Jvm.Pilot.@@N@@
open Jvm Jvm.ClassFile Sem Op Lib Jvm.Free Jvm.Stand Jvm.LawKit Jvm.RoadKit Bundle Jvm.Pilot.@@N@@.Jvm.D
section OwnKit
variable {p : Program} {l : Launch} {e : Env} {R : Room} {s : State} {m : MethodId} {args : Array Value} {below : List Frame} {meth : Method} {c : Code} {T : State} {locs : List Loc} {cells slots : Nat} {Z : State} {a0 : Array Value} {h0 : Heap}
/-- from this state the run comes to the end of the invocation, and there P holds -/
def own_G (p : Program) (e : Env) (below : List Frame) (P : Outcome → State → Prop) (st : State) : Prop :=
  ∃ (u : State) (o : Outcome), Steps p.tables e below st u ∧ u.status = .running ∧ Ended u below o ∧ P o u
theorem own_via {P : Outcome → State → Prop} {st st' : State} (k : ∀ t, Steps p.tables e below st' t → Steps p.tables e below st t) (h : own_G p e below P st') : own_G p e below P st := by
  obtain ⟨u, o, h1, h2⟩ := h
  exact ⟨u, o, k _ h1, h2⟩
/-- what a contract says of the end -/
def own_P (s : State) (Q : Option Value → Heap → List Loc → Prop) (k n : Nat) : Outcome → State → Prop := fun o u => ∃ v L, o = .returned v ∧ Q v u.heap L ∧ FrameEnd s o u L k n
/-- it returns w and leaves the heap as it was -/
def own_Q (w : Value) (h0 : Heap) : Option Value → Heap → List Loc → Prop := fun v h L => v = some w ∧ L = [] ∧ h = h0
/-- a contract -/
def own_C (l : Launch) (Z : State) (y : MethodName) (bytes : ByteArray) (maxL : Nat) (ret : Option FieldType) (ws : List Jvm.Cond) (rm : Room) (as : Array Value) (h0 : Heap) (Q : Option Value → Heap → List Loc → Prop) : Prop :=
  MetFree l y (head1 (Jvm.Cond.code y bytes maxL ret :: ws) rm) (fun a U => a = as ∧ Z.Warmed39 U.vm ∧ U.heap = h0) (fun _ _ _ _ _ => True) (fun _ U o U' => ∃ v L, o = .returned v ∧ Q v U'.heap L ∧ FrameEnd U o U' L rm.cells rm.slots)
theorem own_ret {v : Option Value} {Q : Option Value → Heap → List Loc → Prop} {k n : Nat} {st : State} (X : Stand p l e R s m args below meth c T locs cells slots) (hv : meth.sig.returnType = none → v = none) (hlocks : meth.locks = false)
    (hst : ∀ fs, (∀ (f : JFrame) (acts : List Action), f.method = m → f.locked = none → f.entered = [] → (doReturn e (T.setTop f) acts v).1 = T.setFrames fs) → Steps p.tables e below st (T.setFrames fs))
    (hQ : Q v T.heap locs) (hk : cells ≤ k) (hn : slots ≤ n) : own_G p e below (own_P s Q k n) st := by
  obtain ⟨fs, hr, hrun, hended, hW, hsame⟩ := X.leave (v := v) hv hlocks
  exact ⟨_, _, hst fs hr, hrun, hended, _, _, rfl, hQ, ⟨_, rfl⟩, hW, hsame.mono hk hn⟩
theorem own_retI {Q : Option Value → Heap → List Loc → Prop} {k n : Nat} (X : Stand p l e R s m args below meth c T locs cells slots) (hx : p.tables.exec = Jvm.exec) {pc : Nat} {Ls : Array Slot} {z : Int32} {rest : List Value} (hret : meth.sig.returnType = some .int) (hlocks : meth.locks = false) (hd : decode c.code pc = .ok (.ireturn, 1))
    (hQ : Q (some (.int z)) T.heap locs) (hk : cells ≤ k) (hn : slots ≤ n) : own_G p e below (own_P s Q k n) (T.setTop (mkF m pc Ls (.int z :: rest))) := by
  refine own_ret X (fun h => by rw [hret] at h; cases h) hlocks (fun fs hr => ?_) hQ hk hn
  have hm' : T.vm.method? m = some meth := X.method'
  have hn : narrow .int (.int z) = .int z := rfl
  show Steps p.tables e below (T.setTop { method := m, pc := pc, locals := Ls, stack := _ :: rest, locked := none }) _
  jvm_step X.here [X.here.top, hx, hd, hm', hret, hn]
  first | (intro acts; rw [hr _ acts rfl rfl rfl]) | rw [hr _ _ rfl rfl rfl]
  exact Steps.refl _
theorem own_retN {Q : Option Value → Heap → List Loc → Prop} {k n : Nat} {t : FieldType} (X : Stand p l e R s m args below meth c T locs cells slots) (hx : p.tables.exec = Jvm.exec) {pc : Nat} {Ls : Array Slot} {z : Int32} {rest : List Value} (hret : meth.sig.returnType = some t) (ht : t = .boolean ∨ t = .byte ∨ t = .char ∨ t = .short) (hlocks : meth.locks = false) (hd : decode c.code pc = .ok (.ireturn, 1))
    (hQ : Q (some (.int (nar t z))) T.heap locs) (hk : cells ≤ k) (hn : slots ≤ n) : own_G p e below (own_P s Q k n) (T.setTop (mkF m pc Ls (.int z :: rest))) :=
  own_ret X (fun h => by rw [hret] at h; cases h) hlocks (fun fs hr => retN X hx hret ht hd hr) hQ hk hn
theorem own_retL {Q : Option Value → Heap → List Loc → Prop} {k n : Nat} (X : Stand p l e R s m args below meth c T locs cells slots) (hx : p.tables.exec = Jvm.exec) {pc : Nat} {Ls : Array Slot} {z : Int64} (hret : meth.sig.returnType = some .long) (hlocks : meth.locks = false) (hd : decode c.code pc = .ok (.lreturn, 1))
    (hQ : Q (some (.long z)) T.heap locs) (hk : cells ≤ k) (hn : slots ≤ n) : own_G p e below (own_P s Q k n) (T.setTop (mkF m pc Ls [.long z])) :=
  own_ret X (fun h => by rw [hret] at h; cases h) hlocks (fun fs hr => X.lreturnOut hx hret hd hr) hQ hk hn
theorem own_retV {Q : Option Value → Heap → List Loc → Prop} {k n : Nat} (X : Stand p l e R s m args below meth c T locs cells slots) (hx : p.tables.exec = Jvm.exec) {pc : Nat} {Ls : Array Slot} (hret : meth.sig.returnType = none) (hlocks : meth.locks = false) (hd : decode c.code pc = .ok (.return_, 1))
    (hQ : Q none T.heap locs) (hk : cells ≤ k) (hn : slots ≤ n) : own_G p e below (own_P s Q k n) (T.setTop (mkF m pc Ls [])) :=
  own_ret X (fun _ => rfl) hlocks (fun fs hr => X.returnOut hx hret hd hr) hQ hk hn
theorem own_retA {Q : Option Value → Heap → List Loc → Prop} {k n : Nat} {t : FieldType} {v : Value} (X : Stand p l e R s m args below meth c T locs cells slots) (hx : p.tables.exec = Jvm.exec) {pc : Nat} {Ls : Array Slot} {rest : List Value} (hret : meth.sig.returnType = some t) (ht : t.isReference = true) (hv : v.isRef = true) (hlocks : meth.locks = false) (hd : decode c.code pc = .ok (.areturn, 1))
    (hQ : Q (some v) T.heap locs) (hk : cells ≤ k) (hn : slots ≤ n) : own_G p e below (own_P s Q k n) (T.setTop (mkF m pc Ls (v :: rest))) := by
  refine own_ret X (fun h => by rw [hret] at h; cases h) hlocks (fun fs hr => ?_) hQ hk hn
  have hm' : T.vm.method? m = some meth := X.method'
  show Steps p.tables e below (T.setTop { method := m, pc := pc, locals := Ls, stack := _ :: rest, locked := none }) _
  jvm_step X.here [X.here.top, hx, hd, hm', hret, ht, hv]
  first | (intro acts; rw [hr _ acts rfl rfl rfl]) | rw [hr _ _ rfl rfl rfl]
  exact Steps.refl _
/-- a static method by its contract -/
theorem own_callS {own : String} {index : Nat} {y : MethodName} {bytes : ByteArray} {maxL W : Nat} {ret : Option FieldType} {rm : Room} {as : Array Value} {Q : Option Value → Heap → List Loc → Prop}
    (X : Stand p l e R s m args below meth c T locs cells slots) (hx : p.tables.exec = Jvm.exec) (hZ : Z.Warmed39 s.vm) (hown : s.vm.findClass own = some m.cls)
    (w1 : (Jvm.Cond.methodLink own index y).before a0 Z = true) (w2 : (Jvm.Cond.static y).before a0 Z = true) (w3 : (Jvm.Cond.initialized y.cls).before a0 Z = true) (w4 : (Jvm.Cond.code y bytes maxL ret).before a0 Z = true)
    (hy : y.cls ≠ "java/lang/invoke/MethodHandle" ∧ y.cls ≠ "java/lang/invoke/VarHandle") (hM : own_C l Z y bytes maxL ret [] rm as h0 Q)
    (hf : rm.frames + 1 ≤ R.frames) (hl : W + (maxL + 11) + rm.locals ≤ R.locals) (hcc : cells + rm.cells ≤ R.cells) (hss : slots + rm.slots ≤ R.slots) (e0 : T.heap = h0)
    {pc : Nat} {Ls : Array Slot} {st argsL rest : List Value} (hsize : Ls.size = c.maxLocals) (hlen : ∀ sig, parseMethodDescriptor y.desc = some sig → argsL.length = sig.parameters.length) (has : argsL.toArray = as)
    (hst : st = argsL.reverse ++ rest) (hW : 2 * 0 + (rest.map fun v => v.category).sum ≤ W) (hd : decode c.code pc = .ok (.invokestatic index, 3)) :
    ∃ (v : Option Value) (T' : State) (L : List Loc), Stand p l e R s m args below meth c T' (locs ++ L) (cells + rm.cells) (slots + rm.slots) ∧ Q v T'.heap L ∧
      ∀ target, Steps p.tables e below (T'.setTop (mkF m (pc + 3) Ls (v.toList ++ rest))) target → Steps p.tables e below (T.setTop (mkF m pc Ls st)) target := by
  obtain ⟨v, _, ⟨T', L', k', n'⟩, -, X', ⟨Lc, hQ, h1, h2, h3⟩, stp⟩ := Jvm.LawKit.callS X hx (y := y) hown (mvT hZ w1) (mvT hZ w2) (mvT hZ w3) (mvT hZ w4) hy
    (backOf (W := W) hM hZ w4 w3 hf hl) (g := mkF m pc Ls st) rfl hsize (argsL := argsL) (rest := rest) hlen hst hW hd (fun _ _ => ⟨has, e0, hcc, hss⟩)
  dsimp only [Pt.U, Pt.locs, Pt.cells, Pt.slots] at X' h1 h2 h3 stp hQ
  subst h1 h2 h3
  exact ⟨v, T', Lc, X', hQ, stp⟩
/-- a static method that leaves the heap as it was -/
theorem own_callP {own : String} {index : Nat} {y : MethodName} {bytes : ByteArray} {maxL W : Nat} {ret : Option FieldType} {rm : Room} {as : Array Value} {w : Value}
    (X : Stand p l e R s m args below meth c T locs cells slots) (hx : p.tables.exec = Jvm.exec) (hZ : Z.Warmed39 s.vm) (hown : s.vm.findClass own = some m.cls)
    (w1 : (Jvm.Cond.methodLink own index y).before a0 Z = true) (w2 : (Jvm.Cond.static y).before a0 Z = true) (w3 : (Jvm.Cond.initialized y.cls).before a0 Z = true) (w4 : (Jvm.Cond.code y bytes maxL ret).before a0 Z = true)
    (hy : y.cls ≠ "java/lang/invoke/MethodHandle" ∧ y.cls ≠ "java/lang/invoke/VarHandle") (hM : own_C l Z y bytes maxL ret [] rm as h0 (own_Q w h0))
    (hf : rm.frames + 1 ≤ R.frames) (hl : W + (maxL + 11) + rm.locals ≤ R.locals) (hrc : rm.cells = 0) (hrs : rm.slots = 0) (hcc : cells + rm.cells ≤ R.cells) (hss : slots + rm.slots ≤ R.slots) (e0 : T.heap = h0)
    {pc : Nat} {Ls : Array Slot} {st argsL rest : List Value} (hsize : Ls.size = c.maxLocals) (hlen : ∀ sig, parseMethodDescriptor y.desc = some sig → argsL.length = sig.parameters.length) (has : argsL.toArray = as)
    (hst : st = argsL.reverse ++ rest) (hW : 2 * 0 + (rest.map fun v => v.category).sum ≤ W) (hd : decode c.code pc = .ok (.invokestatic index, 3)) :
    ∃ (T' : State), Stand p l e R s m args below meth c T' locs cells slots ∧ T'.heap = h0 ∧
      ∀ target, Steps p.tables e below (T'.setTop (mkF m (pc + 3) Ls (w :: rest))) target → Steps p.tables e below (T.setTop (mkF m pc Ls st)) target := by
  obtain ⟨v, T', L, X', ⟨rfl, rfl, hh⟩, stp⟩ := own_callS X hx hZ hown w1 w2 w3 w4 hy hM hf hl hcc hss e0 hsize hlen has hst hW hd
  rw [List.append_nil, hrc, hrs] at X'
  exact ⟨T', X', hh, stp⟩
theorem own_b1 {x a : Int32} (h : x < a) : x.toInt ≤ a.toInt - 1 := by rw [Int32.lt_iff_toInt_lt] at h; omega
theorem own_b2 {x a : Int32} (h : ¬ x < a) : a.toInt ≤ x.toInt := by rw [Int32.lt_iff_toInt_lt] at h; omega
theorem own_b3 {x a : Int32} (h : a < x) : a.toInt + 1 ≤ x.toInt := by rw [Int32.lt_iff_toInt_lt] at h; omega
theorem own_b4 {x a : Int32} (h : ¬ a < x) : x.toInt ≤ a.toInt := by rw [Int32.lt_iff_toInt_lt] at h; omega
theorem own_b5 {x b : Int32} {k : Int} (h : x.toInt ≤ k) (q : k < b.toInt) : x < b := by rw [Int32.lt_iff_toInt_lt]; omega
theorem own_b6 {x b : Int32} {k : Int} (h : k ≤ x.toInt) (q : b.toInt ≤ k) : ¬ x < b := by rw [Int32.lt_iff_toInt_lt]; omega
theorem own_b7 {x b : Int32} {k : Int} (h : k ≤ x.toInt) (q : b.toInt < k) : b < x := by rw [Int32.lt_iff_toInt_lt]; omega
theorem own_b8 {x b : Int32} {k : Int} (h : x.toInt ≤ k) (q : k ≤ b.toInt) : ¬ b < x := by rw [Int32.lt_iff_toInt_lt]; omega
theorem own_b9 {x b : Int32} {k : Int} (h : x.toInt ≤ k) (q : k < b.toInt) : ¬ x = b := fun e => by subst e; omega
theorem own_b10 {x b : Int32} {k : Int} (h : k ≤ x.toInt) (q : b.toInt < k) : ¬ x = b := fun e => by subst e; omega
theorem own_of_eq {x a : Int32} {P : Int32 → Prop} (h : x = a) (q : P a) : P x := h ▸ q
end OwnKit
section OwnHeap
variable {p : Program} {l : Launch} {e : Env} {R : Room} {s : State} {m : MethodId} {args : Array Value} {below : List Frame} {meth : Method} {c : Code} {T : State} {locs : List Loc} {cells slots : Nat} {Z : State} {a0 : Array Value} {h0 h : Heap} {n0 : Nat}
/-- the writes lie at or above n0, and q says the rest -/
def own_W (n0 : Nat) (q : Option Value → Heap → Prop) : Option Value → Heap → List Loc → Prop := fun v h L => Fr n0 L ∧ q v h
theorem own_newA (X : Stand p l e R s m args below meth c T locs cells slots) (hx : p.tables.exec = Jvm.exec) (hZ : Z.Warmed39 s.vm) {aty : ArrayType} (w : (Jvm.Cond.arrayClass (newarray.typeOf aty)).before a0 Z = true) (eT : T.heap = h) {pc : Nat} {Ls : Array Slot} (hd : decode c.code pc = .ok (.newarray aty, 2)) {n : Int32} {rest : List Value}
    (hn : ¬ n < 0) {cap : Nat} (hcap : n.toNatClampNeg ≤ cap) (hb : cap * 8 ≤ 536870912) (hc : cells + 1 ≤ R.cells) (hl : slots + cap ≤ R.slots) (len : Nat) {ad : String} (had : "[" ++ (newarray.typeOf aty).toString = ad) :
    ∃ T' h' k a, Stand p l e R s m args below meth c T' locs (cells + 1) (slots + cap) ∧ T'.heap = h' ∧ Ext h h' ∧ a = h.size ∧ Arv Z h' a k (newarray.typeOf aty) n (List.replicate len (defaultValue (newarray.typeOf aty))) (defaultValue (newarray.typeOf aty)) ∧ Exa Z h' a ad ∧
      ∀ target, Steps p.tables e below (T'.setTop (mkF m (pc + 2) Ls (.ref a :: rest))) target → Steps p.tables e below (T.setTop (mkF m pc Ls (.int n :: rest))) target := by
  obtain ⟨T', h', k, X', e', E, A, Ex, st⟩ := newPE X hx hZ w eT (g := mkF m pc Ls (.int n :: rest)) rfl hd rfl hn hcap hb hc hl had
  exact ⟨T', h', k, h.size, X', e', E, rfl, (Arv.new A hn).pad (fun i => by have := pad_rep [] (defaultValue (newarray.typeOf aty)) len i; rwa [List.nil_append] at this), Ex, st⟩
theorem own_stB (X : Stand p l e R s m args below meth c T locs cells slots) (N : Fr n0 locs) (hx : p.tables.exec = Jvm.exec) (hZ : Z.Warmed39 s.vm) (eT : T.heap = h) {a : Addr} {k : ClassId} {z : Int32} {vs : List Value} {d : Value} (V : Arv Z h a k .byte z vs d) (ga : n0 ≤ a) {j x : Int32} {i : Nat} (hj : ¬ j < 0 ∧ j < z) (hi : j.toNatClampNeg = i) (hl : i < vs.length)
    {pc : Nat} {Ls : Array Slot} {rest : List Value} (hd : decode c.code pc = .ok (.bastore, 1)) :
    ∃ T' h' L', Stand p l e R s m args below meth c T' L' cells slots ∧ Fr n0 L' ∧ T'.heap = h' ∧ Wr h h' a i (.int x.toInt8.toInt32) ∧ Arv Z h' a k .byte z (vs.set i (.int x.toInt8.toInt32)) d ∧
      ∀ target, Steps p.tables e below (T'.setTop (mkF m (pc + 1) Ls rest)) target → Steps p.tables e below (T.setTop (mkF m pc Ls (.int x :: .int j :: .ref a :: rest))) target := by
  obtain ⟨cl, Ar, q, S, Nn, H, G⟩ := V
  obtain ⟨T', h', X', e', W, st⟩ := stB X hx hZ eT Ar (j := j) (x := x) (inb_of S hj) (g := mkF m pc Ls (.int x :: .int j :: .ref a :: rest)) rfl rfl hd
  subst hi
  exact ⟨T', h', _, X', Fr.snoc X' N ga, e', W, Arv.set Ar q S Nn H G (fits_nar_byte x) W _ rfl hl, st⟩
theorem own_stI (X : Stand p l e R s m args below meth c T locs cells slots) (N : Fr n0 locs) (hx : p.tables.exec = Jvm.exec) (hZ : Z.Warmed39 s.vm) (eT : T.heap = h) {a : Addr} {k : ClassId} {z : Int32} {vs : List Value} {d : Value} (V : Arv Z h a k .int z vs d) (ga : n0 ≤ a) {j x : Int32} {i : Nat} (hj : ¬ j < 0 ∧ j < z) (hi : j.toNatClampNeg = i) (hl : i < vs.length)
    {pc : Nat} {Ls : Array Slot} {rest : List Value} (hd : decode c.code pc = .ok (.iastore, 1)) :
    ∃ T' h' L', Stand p l e R s m args below meth c T' L' cells slots ∧ Fr n0 L' ∧ T'.heap = h' ∧ Wr h h' a i (.int x) ∧ Arv Z h' a k .int z (vs.set i (.int x)) d ∧
      ∀ target, Steps p.tables e below (T'.setTop (mkF m (pc + 1) Ls rest)) target → Steps p.tables e below (T.setTop (mkF m pc Ls (.int x :: .int j :: .ref a :: rest))) target := by
  obtain ⟨cl, Ar, q, S, Nn, H, G⟩ := V
  obtain ⟨T', h', X', e', W, st⟩ := stI X hx hZ eT Ar (j := j) (x := x) (inb_of S hj) (g := mkF m pc Ls (.int x :: .int j :: .ref a :: rest)) rfl rfl hd
  subst hi
  exact ⟨T', h', _, X', Fr.snoc X' N ga, e', W, Arv.set Ar q S Nn H G rfl W _ rfl hl, st⟩
theorem own_stC (X : Stand p l e R s m args below meth c T locs cells slots) (N : Fr n0 locs) (hx : p.tables.exec = Jvm.exec) (hZ : Z.Warmed39 s.vm) (eT : T.heap = h) {a : Addr} {k : ClassId} {z : Int32} {vs : List Value} {d : Value} (V : Arv Z h a k .char z vs d) (ga : n0 ≤ a) {j x : Int32} {i : Nat} (hj : ¬ j < 0 ∧ j < z) (hi : j.toNatClampNeg = i) (hl : i < vs.length)
    {pc : Nat} {Ls : Array Slot} {rest : List Value} (hd : decode c.code pc = .ok (.castore, 1)) :
    ∃ T' h' L', Stand p l e R s m args below meth c T' L' cells slots ∧ Fr n0 L' ∧ T'.heap = h' ∧ Wr h h' a i (.int (nar .char x)) ∧ Arv Z h' a k .char z (vs.set i (.int (nar .char x))) d ∧
      ∀ target, Steps p.tables e below (T'.setTop (mkF m (pc + 1) Ls rest)) target → Steps p.tables e below (T.setTop (mkF m pc Ls (.int x :: .int j :: .ref a :: rest))) target := by
  obtain ⟨cl, Ar, q, S, Nn, H, G⟩ := V
  obtain ⟨T', h', X', e', W, st⟩ := stC X hx hZ eT Ar (j := j) (x := x) (inb_of S hj) (g := mkF m pc Ls (.int x :: .int j :: .ref a :: rest)) rfl rfl hd
  subst hi
  exact ⟨T', h', _, X', Fr.snoc X' N ga, e', W, Arv.set Ar q S Nn H G (fits_nar_char x) W _ rfl hl, st⟩
theorem own_ldB (X : Stand p l e R s m args below meth c T locs cells slots) (hx : p.tables.exec = Jvm.exec) (hZ : Z.Warmed39 s.vm) (eT : T.heap = h) {a : Addr} {k : ClassId} {z : Int32} {vs : List Value} {d v : Value} (V : Arv Z h a k .byte z vs d) {j : Int32} (hj : ¬ j < 0 ∧ j < z) (hv : vs.getD j.toNatClampNeg d = v)
    {pc : Nat} {Ls : Array Slot} {rest : List Value} (hd : decode c.code pc = .ok (.baload, 1)) (target : State) (hr : Steps p.tables e below (T.setTop (mkF m (pc + 1) Ls (v :: rest))) target) : Steps p.tables e below (T.setTop (mkF m pc Ls (.int j :: .ref a :: rest))) target := by
  obtain ⟨cl, Ar, q, S, Nn, H, G⟩ := V
  have hin := inb_of S hj
  refine X.baloadBytes hx (j := j) (v := v) (by rw [eT]; exact Ar.1) (State.isArrayOf_alike hZ.alike Ar.2.1) Ar.2.2 hin ?_ (g := mkF m pc Ls (.int j :: .ref a :: rest)) rfl rfl hd _ hr
  rw [H _ (Nat.lt_of_not_le fun q => hin (Or.inr q)), hv]
theorem own_ldI (X : Stand p l e R s m args below meth c T locs cells slots) (hx : p.tables.exec = Jvm.exec) (hZ : Z.Warmed39 s.vm) (eT : T.heap = h) {a : Addr} {k : ClassId} {z : Int32} {vs : List Value} {d v : Value} (V : Arv Z h a k .int z vs d) {j : Int32} (hj : ¬ j < 0 ∧ j < z) (hv : vs.getD j.toNatClampNeg d = v)
    {pc : Nat} {Ls : Array Slot} {rest : List Value} (hd : decode c.code pc = .ok (.iaload, 1)) (target : State) (hr : Steps p.tables e below (T.setTop (mkF m (pc + 1) Ls (v :: rest))) target) : Steps p.tables e below (T.setTop (mkF m pc Ls (.int j :: .ref a :: rest))) target := by
  obtain ⟨cl, Ar, q, S, Nn, H, G⟩ := V
  have hin := inb_of S hj
  refine X.iaload hx (j := j) (v := v) (by rw [eT]; exact Ar.1) (State.isArrayOf_alike hZ.alike Ar.2.1) Ar.2.2 hin ?_ (g := mkF m pc Ls (.int j :: .ref a :: rest)) rfl rfl hd _ hr
  rw [H _ (Nat.lt_of_not_le fun q => hin (Or.inr q)), hv]
theorem own_ldC (X : Stand p l e R s m args below meth c T locs cells slots) (hx : p.tables.exec = Jvm.exec) (hZ : Z.Warmed39 s.vm) (eT : T.heap = h) {a : Addr} {k : ClassId} {z : Int32} {vs : List Value} {d v : Value} (V : Arv Z h a k .char z vs d) {j : Int32} (hj : ¬ j < 0 ∧ j < z) (hv : vs.getD j.toNatClampNeg d = v)
    {pc : Nat} {Ls : Array Slot} {rest : List Value} (hd : decode c.code pc = .ok (.caload, 1)) (target : State) (hr : Steps p.tables e below (T.setTop (mkF m (pc + 1) Ls (v :: rest))) target) : Steps p.tables e below (T.setTop (mkF m pc Ls (.int j :: .ref a :: rest))) target := by
  obtain ⟨cl, Ar, q, S, Nn, H, G⟩ := V
  have hin := inb_of S hj
  refine X.caload hx (j := j) (v := v) (by rw [eT]; exact Ar.1) (State.isArrayOf_alike hZ.alike Ar.2.1) Ar.2.2 hin ?_ (g := mkF m pc Ls (.int j :: .ref a :: rest)) rfl rfl hd _ hr
  rw [H _ (Nat.lt_of_not_le fun q => hin (Or.inr q)), hv]
theorem own_len (X : Stand p l e R s m args below meth c T locs cells slots) (hx : p.tables.exec = Jvm.exec) (hZ : Z.Warmed39 s.vm) (eT : T.heap = h) {a : Addr} {k : ClassId} {ty : FieldType} {z : Int32} {vs : List Value} {d : Value} (V : Arv Z h a k ty z vs d)
    {pc : Nat} {Ls : Array Slot} {rest : List Value} (hd : decode c.code pc = .ok (.arraylength, 1)) (target : State) (hr : Steps p.tables e below (T.setTop (mkF m (pc + 1) Ls (.int z :: rest))) target) : Steps p.tables e below (T.setTop (mkF m pc Ls (.ref a :: rest))) target := by
  obtain ⟨cl, Ar, q, S, Nn, H, G⟩ := V
  refine X.arraylength hx (by rw [eT]; exact Ar.1) (State.isArrayOf_alike hZ.alike Ar.2.1) (g := mkF m pc Ls (.ref a :: rest)) rfl rfl hd _ ?_
  rw [len_of S Nn]
  exact hr
/-- an array cloned -/
theorem own_clone (X : Stand p l e R s m args below meth c T locs cells slots) (hx : p.tables.exec = Jvm.exec) (hZ : Z.Warmed39 s.vm) {own ad : String} {index : Nat} (hown : s.vm.findClass own = some m.cls)
    (w1 : (Jvm.Cond.methodLink own index ⟨ad, "clone", "()Ljava/lang/Object;"⟩).before a0 Z = true) (w2 : (Jvm.Cond.sameMethod ad "java/lang/Object" "clone" "()Ljava/lang/Object;").before a0 Z = true) (w3 : (Jvm.Cond.native ⟨"java/lang/Object", "clone", "()Ljava/lang/Object;"⟩).before a0 Z = true)
    (w4 : (Jvm.Cond.instanceMethod ⟨"java/lang/Object", "clone", "()Ljava/lang/Object;"⟩).before a0 Z = true) (w5 : (Jvm.Cond.selects ad ⟨ad, "clone", "()Ljava/lang/Object;"⟩ ⟨"java/lang/Object", "clone", "()Ljava/lang/Object;"⟩).before a0 Z = true) (w6 : (Jvm.Cond.castable ad "java/lang/Cloneable").before a0 Z = true)
    (eT : T.heap = h) {a : Addr} {k : ClassId} {ty : FieldType} {z : Int32} {vs : List Value} {dv : Value} (F : Arv Z h a k ty z vs dv) (E : Exa Z h a ad) {pc : Nat} {Ls : Array Slot} {rest : List Value} (hsize : Ls.size = c.maxLocals) (hd : decode c.code pc = .ok (.invokevirtual index, 3))
    (hf : 1 ≤ R.frames) {W cap : Nat} (hW : 2 * 0 + (rest.map fun v => v.category).sum ≤ W) (hl : W + 14 ≤ R.locals) (hcap : z.toNatClampNeg ≤ cap) (hc : cells + 1 ≤ R.cells) (hsl : slots + cap ≤ R.slots) :
    ∃ T' h' b, Stand p l e R s m args below meth c T' locs (cells + 1) (slots + cap) ∧ T'.heap = h' ∧ Ext h h' ∧ b = h.size ∧ Arv Z h' b k ty z vs dv ∧ Exa Z h' b ad ∧
      ∀ target, Steps p.tables e below (T'.setTop (mkF m (pc + 3) Ls (.ref b :: rest))) target → Steps p.tables e below (T.setTop (mkF m pc Ls (.ref a :: rest))) target := by
  obtain ⟨T', h', X', e', ex, V, E', st⟩ := cloneH X hx hZ hown w1 w2 w3 w4 w5 w6 eT F.arh E (g := mkF m pc Ls (.ref a :: rest)) rfl hsize rfl hd hf hW hl hcap hc hsl
  exact ⟨T', h', h.size, X', e', ex, rfl, V, E', st⟩
/-- a field written -/
theorem own_putF (X : Stand p l e R s m args below meth c T locs cells slots) (N : Fr n0 locs) (hx : p.tables.exec = Jvm.exec) (hZ : Z.Warmed39 s.vm) {own O n d C : String} {index kk : Nat} {ty : FieldType} (hown : s.vm.findClass own = some m.cls) (w : (Jvm.Cond.fieldLink own index O n d).before a0 Z = true)
    (eT : T.heap = h) {a : Addr} {v old : Value} (F : Fld Z h a O n d old) (E : Exa Z h a C) (L : (Jvm.Cond.lays C O n d).before a0 Z = true ∨ ((Jvm.Cond.laysFinal C O n d).before a0 Z = true ∧ own = O ∧ meth.name = "<init>")) (wi : (Jvm.Cond.instantiable C kk).before a0 Z = true) (ga : n0 ≤ a)
    (hty : parseFieldDescriptor d = some ty) (hn : narrow ty v = v) (hf : fits ty v = true) {pc : Nat} {Ls : Array Slot} {rest : List Value} (hd : decode c.code pc = .ok (.putfield index, 3)) :
    ∃ T' h' L', Stand p l e R s m args below meth c T' L' cells slots ∧ Fr n0 L' ∧ T'.heap = h' ∧ Wr h h' a (Jvm.RoadKit.slotOf Z O n d) v ∧ Fld Z h' a O n d v ∧
      ∀ target, Steps p.tables e below (T'.setTop (mkF m (pc + 3) Ls rest)) target → Steps p.tables e below (T.setTop (mkF m pc Ls (v :: .ref a :: rest))) target := by
  obtain ⟨T', h', X', e', W, st⟩ := putF X hx hZ hown (host := "") (Or.inl w) Via.refl eT F E L wi hty hn hf (g := mkF m pc Ls (v :: .ref a :: rest)) rfl rfl hd
  exact ⟨T', h', _, X', Fr.snoc X' N ga, e', W, F.same W, st⟩
theorem own_putFN (X : Stand p l e R s m args below meth c T locs cells slots) (N : Fr n0 locs) (hx : p.tables.exec = Jvm.exec) (hZ : Z.Warmed39 s.vm) {own O n d C : String} {index kk : Nat} {ty : FieldType} (hown : s.vm.findClass own = some m.cls) (w : (Jvm.Cond.fieldLink own index O n d).before a0 Z = true)
    (eT : T.heap = h) {a : Addr} {v v' old : Value} (F : Fld Z h a O n d old) (E : Exa Z h a C) (L : (Jvm.Cond.lays C O n d).before a0 Z = true ∨ ((Jvm.Cond.laysFinal C O n d).before a0 Z = true ∧ own = O ∧ meth.name = "<init>")) (wi : (Jvm.Cond.instantiable C kk).before a0 Z = true) (ga : n0 ≤ a)
    (hty : parseFieldDescriptor d = some ty) (hn : narrow ty v = v') (hf : fits ty v' = true) {pc : Nat} {Ls : Array Slot} {rest : List Value} (hd : decode c.code pc = .ok (.putfield index, 3)) :
    ∃ T' h' L', Stand p l e R s m args below meth c T' L' cells slots ∧ Fr n0 L' ∧ T'.heap = h' ∧ Wr h h' a (Jvm.RoadKit.slotOf Z O n d) v' ∧ Fld Z h' a O n d v' ∧
      ∀ target, Steps p.tables e below (T'.setTop (mkF m (pc + 3) Ls rest)) target → Steps p.tables e below (T.setTop (mkF m pc Ls (v :: .ref a :: rest))) target := by
  obtain ⟨T', h', X', e', W, st⟩ := putFN X hx hZ hown w Via.refl eT F E L wi hty hn hf (g := mkF m pc Ls (v :: .ref a :: rest)) rfl rfl hd
  exact ⟨T', h', _, X', Fr.snoc X' N ga, e', W, F.same W, st⟩
/-- new -/
theorem own_newO (X : Stand p l e R s m args below meth c T locs cells slots) (hx : p.tables.exec = Jvm.exec) (hZ : Z.Warmed39 s.vm) {own C : String} {index n : Nat} (hown : s.vm.findClass own = some m.cls) (w : (Jvm.Cond.classLink own index C).before a0 Z = true) (wi : (Jvm.Cond.instantiable C n).before a0 Z = true) (wz : (Jvm.Cond.initialized C).before a0 Z = true) (eT : T.heap = h)
    {pc : Nat} {Ls : Array Slot} {rest : List Value} (hd : decode c.code pc = .ok (.new index, 3)) (hc : cells + 1 ≤ R.cells) (hl : slots + n ≤ R.slots) :
    ∃ T' h' a, Stand p l e R s m args below meth c T' locs (cells + 1) (slots + n) ∧ T'.heap = h' ∧ Ext h h' ∧ a = h.size ∧ Exa Z h' a C ∧ (∀ {O nm d : String} {ty : FieldType}, Laid Z a0 C O nm d → parseFieldDescriptor d = some ty → Fld Z h' a O nm d (defaultValue ty)) ∧
      ∀ target, Steps p.tables e below (T'.setTop (mkF m (pc + 3) Ls (.ref a :: rest))) target → Steps p.tables e below (T.setTop (mkF m pc Ls rest)) target := by
  obtain ⟨T', h', X', e', E, A, D, -, st⟩ := newO X hx hZ hown w wi wz eT (g := mkF m pc Ls rest) rfl hd hc hl
  exact ⟨T', h', h.size, X', e', E, rfl, A, D, st⟩
/-- a static method that may write and make -/
theorem own_callSW {own : String} {index : Nat} {y : MethodName} {bytes : ByteArray} {maxL W : Nat} {ret : Option FieldType} {rm : Room} {as : Array Value} {q : Option Value → Heap → Prop}
    (X : Stand p l e R s m args below meth c T locs cells slots) (N : Fr n0 locs) (hx : p.tables.exec = Jvm.exec) (hZ : Z.Warmed39 s.vm) (hown : s.vm.findClass own = some m.cls)
    (w1 : (Jvm.Cond.methodLink own index y).before a0 Z = true) (w2 : (Jvm.Cond.static y).before a0 Z = true) (w3 : (Jvm.Cond.initialized y.cls).before a0 Z = true) (w4 : (Jvm.Cond.code y bytes maxL ret).before a0 Z = true)
    (hy : y.cls ≠ "java/lang/invoke/MethodHandle" ∧ y.cls ≠ "java/lang/invoke/VarHandle") (hM : own_C l Z y bytes maxL ret [] rm as h (own_W n0 q))
    (hf : rm.frames + 1 ≤ R.frames) (hl : W + (maxL + 11) + rm.locals ≤ R.locals) (hcc : cells + rm.cells ≤ R.cells) (hss : slots + rm.slots ≤ R.slots) (e0 : T.heap = h)
    {pc : Nat} {Ls : Array Slot} {st argsL rest : List Value} (hsize : Ls.size = c.maxLocals) (hlen : ∀ sig, parseMethodDescriptor y.desc = some sig → argsL.length = sig.parameters.length) (has : argsL.toArray = as)
    (hst : st = argsL.reverse ++ rest) (hW : 2 * 0 + (rest.map fun v => v.category).sum ≤ W) (hd : decode c.code pc = .ok (.invokestatic index, 3)) :
    ∃ (v : Option Value) (T' : State) (h' : Heap) (L' : List Loc), Stand p l e R s m args below meth c T' L' (cells + rm.cells) (slots + rm.slots) ∧ Fr n0 L' ∧ T'.heap = h' ∧ q v h' ∧
      ∀ target, Steps p.tables e below (T'.setTop (mkF m (pc + 3) Ls (v.toList ++ rest))) target → Steps p.tables e below (T.setTop (mkF m pc Ls st)) target := by
  obtain ⟨v, T', L, X', ⟨N', hq⟩, stp⟩ := own_callS X hx hZ hown w1 w2 w3 w4 hy hM hf hl hcc hss e0 hsize hlen has hst hW hd
  exact ⟨v, T', _, _, X', N.app N', rfl, hq, stp⟩
/-- a constructor by its contract -/
theorem own_callI {own : String} {index : Nat} {y : MethodName} {bytes : ByteArray} {maxL W : Nat} {rm : Room} {as : Array Value} {q : Option Value → Heap → Prop} {a : Addr}
    (X : Stand p l e R s m args below meth c T locs cells slots) (N : Fr n0 locs) (hx : p.tables.exec = Jvm.exec) (hZ : Z.Warmed39 s.vm) (hy1 : y.name = "<init>") (hown : s.vm.findClass own = some m.cls)
    (w1 : (Jvm.Cond.methodLink own index y).before a0 Z = true) (w2 : (Jvm.Cond.instanceMethod y).before a0 Z = true) (w3 : (Jvm.Cond.initialized y.cls).before a0 Z = true) (w4 : (Jvm.Cond.code y bytes maxL none).before a0 Z = true)
    (hy : y.cls ≠ "java/lang/invoke/MethodHandle" ∧ y.cls ≠ "java/lang/invoke/VarHandle") (hM : own_C l Z y bytes maxL none [] rm as h (own_W n0 q))
    (hf : rm.frames + 1 ≤ R.frames) (hl : W + (maxL + 11) + rm.locals ≤ R.locals) (hcc : cells + rm.cells ≤ R.cells) (hss : slots + rm.slots ≤ R.slots) (e0 : T.heap = h)
    {pc : Nat} {Ls : Array Slot} {st argsL rest : List Value} (hsize : Ls.size = c.maxLocals) (hlen : ∀ sig, parseMethodDescriptor y.desc = some sig → argsL.length = sig.parameters.length) (has : (Value.ref a :: argsL).toArray = as)
    (hst : st = argsL.reverse ++ .ref a :: rest) (hW : 2 * 0 + (rest.map fun v => v.category).sum ≤ W) (hd : decode c.code pc = .ok (.invokespecial index, 3)) :
    ∃ (v : Option Value) (T' : State) (h' : Heap) (L' : List Loc), Stand p l e R s m args below meth c T' L' (cells + rm.cells) (slots + rm.slots) ∧ Fr n0 L' ∧ T'.heap = h' ∧ q v h' ∧
      ∀ target, Steps p.tables e below (T'.setTop (mkF m (pc + 3) Ls (v.toList ++ rest))) target → Steps p.tables e below (T.setTop (mkF m pc Ls st)) target := by
  obtain ⟨v, _, ⟨T', L', k', n'⟩, -, X', ⟨Lc, ⟨N', hq⟩, h1, h2, h3⟩, stp⟩ := X.specialBack hx (y := y) hy1 hown (mvT hZ w1) (mvT hZ w2) (mvT hZ w4) hy
    (backOf (W := W) hM hZ w4 w3 hf hl) (g := mkF m pc Ls st) rfl hsize (Steps.refl _) (a := a) (argsL := argsL) (rest := rest) hlen hst hW hd (fun _ _ => ⟨has, e0, hcc, hss⟩)
  dsimp only [Pt.U, Pt.locs, Pt.cells, Pt.slots] at X' h1 h2 h3 stp hq
  subst h1 h2 h3
  exact ⟨v, T', _, _, X', N.app N', rfl, hq, fun t k => stp.trans k⟩
/-- an instance method by its contract -/
theorem own_callV {own C : String} {index : Nat} {y z : MethodName} {bytes : ByteArray} {maxL W : Nat} {ret : Option FieldType} {rm : Room} {as : Array Value} {q : Option Value → Heap → Prop} {a : Addr}
    (X : Stand p l e R s m args below meth c T locs cells slots) (N : Fr n0 locs) (hx : p.tables.exec = Jvm.exec) (hZ : Z.Warmed39 s.vm) (hown : s.vm.findClass own = some m.cls)
    (w1 : (Jvm.Cond.methodLink own index y).before a0 Z = true) (w2 : (Jvm.Cond.declares y).before a0 Z = true) (hnf : NotFace s y) (ws : (Jvm.Cond.selects C y z).before a0 Z = true) (wi : (Jvm.Cond.instanceMethod z).before a0 Z = true) (w3 : (Jvm.Cond.initialized z.cls).before a0 Z = true) (w4 : (Jvm.Cond.code z bytes maxL ret).before a0 Z = true)
    (hy : y.cls ≠ "java/lang/invoke/MethodHandle" ∧ y.cls ≠ "java/lang/invoke/VarHandle") (hM : own_C l Z z bytes maxL ret [] rm as h (own_W n0 q))
    (hf : rm.frames + 1 ≤ R.frames) (hl : W + (maxL + 11) + rm.locals ≤ R.locals) (hcc : cells + rm.cells ≤ R.cells) (hss : slots + rm.slots ≤ R.slots) (e0 : T.heap = h) (E : Exa Z h a C)
    {pc : Nat} {Ls : Array Slot} {st argsL rest : List Value} (hsize : Ls.size = c.maxLocals) (hlen : ∀ sig, parseMethodDescriptor y.desc = some sig → argsL.length = sig.parameters.length) (has : (Value.ref a :: argsL).toArray = as)
    (hst : st = argsL.reverse ++ .ref a :: rest) (hW : 2 * 0 + (rest.map fun v => v.category).sum ≤ W) (hd : decode c.code pc = .ok (.invokevirtual index, 3)) :
    ∃ (v : Option Value) (T' : State) (h' : Heap) (L' : List Loc), Stand p l e R s m args below meth c T' L' (cells + rm.cells) (slots + rm.slots) ∧ Fr n0 L' ∧ T'.heap = h' ∧ q v h' ∧
      ∀ target, Steps p.tables e below (T'.setTop (mkF m (pc + 3) Ls (v.toList ++ rest))) target → Steps p.tables e below (T.setTop (mkF m pc Ls st)) target := by
  obtain ⟨cq, kq, qa, qb, qc⟩ := isOf hZ e0 E
  obtain ⟨v, _, ⟨T', L', k', n'⟩, -, X', ⟨Lc, ⟨N', hq⟩, h1, h2, h3⟩, stp⟩ := X.virtualBack hx (y := y) (z := z) hown (mvT hZ w1) (mvT hZ w2) hnf (mvT hZ ws) (mvT hZ wi) hy
    (backOf (W := W) hM hZ w4 w3 hf hl) qa qc (g := mkF m pc Ls st) rfl hsize (Steps.refl _) (argsL := argsL) (rest := rest) hlen hst hW hd (fun _ _ => ⟨has, e0, hcc, hss⟩)
  dsimp only [Pt.U, Pt.locs, Pt.cells, Pt.slots] at X' h1 h2 h3 stp hq
  subst h1 h2 h3
  exact ⟨v, T', _, _, X', N.app N', rfl, hq, fun t k => stp.trans k⟩
/-- an instance method that leaves the heap as it was -/
theorem own_callVP {own C : String} {index : Nat} {y z : MethodName} {bytes : ByteArray} {maxL W : Nat} {ret : Option FieldType} {rm : Room} {as : Array Value} {w : Value} {a : Addr}
    (X : Stand p l e R s m args below meth c T locs cells slots) (hx : p.tables.exec = Jvm.exec) (hZ : Z.Warmed39 s.vm) (hown : s.vm.findClass own = some m.cls)
    (w1 : (Jvm.Cond.methodLink own index y).before a0 Z = true) (w2 : (Jvm.Cond.declares y).before a0 Z = true) (hnf : NotFace s y) (ws : (Jvm.Cond.selects C y z).before a0 Z = true) (wi : (Jvm.Cond.instanceMethod z).before a0 Z = true) (w3 : (Jvm.Cond.initialized z.cls).before a0 Z = true) (w4 : (Jvm.Cond.code z bytes maxL ret).before a0 Z = true)
    (hy : y.cls ≠ "java/lang/invoke/MethodHandle" ∧ y.cls ≠ "java/lang/invoke/VarHandle") (hM : own_C l Z z bytes maxL ret [] rm as h (own_Q w h))
    (hf : rm.frames + 1 ≤ R.frames) (hl : W + (maxL + 11) + rm.locals ≤ R.locals) (hrc : rm.cells = 0) (hrs : rm.slots = 0) (hcc : cells + rm.cells ≤ R.cells) (hss : slots + rm.slots ≤ R.slots) (e0 : T.heap = h) (E : Exa Z h a C)
    {pc : Nat} {Ls : Array Slot} {st argsL rest : List Value} (hsize : Ls.size = c.maxLocals) (hlen : ∀ sig, parseMethodDescriptor y.desc = some sig → argsL.length = sig.parameters.length) (has : (Value.ref a :: argsL).toArray = as)
    (hst : st = argsL.reverse ++ .ref a :: rest) (hW : 2 * 0 + (rest.map fun v => v.category).sum ≤ W) (hd : decode c.code pc = .ok (.invokevirtual index, 3)) :
    ∃ (T' : State), Stand p l e R s m args below meth c T' locs cells slots ∧ T'.heap = h ∧
      ∀ target, Steps p.tables e below (T'.setTop (mkF m (pc + 3) Ls (w :: rest))) target → Steps p.tables e below (T.setTop (mkF m pc Ls st)) target := by
  obtain ⟨cq, kq, qa, qb, qc⟩ := isOf hZ e0 E
  obtain ⟨v, _, ⟨T', L', k', n'⟩, -, X', ⟨Lc, ⟨rfl, rfl, hh⟩, h1, h2, h3⟩, stp⟩ := X.virtualBack hx (y := y) (z := z) hown (mvT hZ w1) (mvT hZ w2) hnf (mvT hZ ws) (mvT hZ wi) hy
    (backOf (W := W) hM hZ w4 w3 hf hl) qa qc (g := mkF m pc Ls st) rfl hsize (Steps.refl _) (argsL := argsL) (rest := rest) hlen hst hW hd (fun _ _ => ⟨has, e0, hcc, hss⟩)
  dsimp only [Pt.U, Pt.locs, Pt.cells, Pt.slots] at X' h1 h2 h3 stp hh
  subst h1 h2 h3
  rw [List.append_nil, hrc, hrs] at X'
  exact ⟨T', X', hh, fun t k => stp.trans k⟩
theorem own_ke {h h' : Heap} (K : Keep h h' []) : Ext h h' := ⟨K.1, fun a c q => K.2.1 a c q (by simp)⟩
theorem own_ldA (X : Stand p l e R s m args below meth c T locs cells slots) (hx : p.tables.exec = Jvm.exec) (hZ : Z.Warmed39 s.vm) (eT : T.heap = h) {a : Addr} {k : ClassId} {ty : FieldType} {z : Int32} {vs : List Value} {d v : Value} (V : Arv Z h a k ty z vs d) (hty : ty.isReference = true) {j : Int32} (hj : ¬ j < 0 ∧ j < z) (hv : vs.getD j.toNatClampNeg d = v)
    {pc : Nat} {Ls : Array Slot} {rest : List Value} (hd : decode c.code pc = .ok (.aaload, 1)) (target : State) (hr : Steps p.tables e below (T.setTop (mkF m (pc + 1) Ls (v :: rest))) target) : Steps p.tables e below (T.setTop (mkF m pc Ls (.int j :: .ref a :: rest))) target := by
  obtain ⟨cl, Ar, q, S, Nn, H, G⟩ := V
  have hin := inb_of S hj
  refine X.aaload hx (j := j) (v := v) (by rw [eT]; exact Ar.1) (State.isArrayOf_alike hZ.alike Ar.2.1) hty Ar.2.2 hin ?_ (g := mkF m pc Ls (.int j :: .ref a :: rest)) rfl rfl hd _ hr
  rw [H _ (Nat.lt_of_not_le fun q => hin (Or.inr q)), hv]
end OwnHeap
theorem own_pd0 : parseMethodDescriptor "()V" = some ⟨[], none⟩ := by decide +kernel
theorem own_pd1 : parseMethodDescriptor "(I[II)V" = some ⟨[.int, (.array .int), .int], none⟩ := by decide +kernel
theorem own_pd2 : parseMethodDescriptor "(I[I)V" = some ⟨[.int, (.array .int)], none⟩ := by decide +kernel
theorem own_pd3 : parseMethodDescriptor "()Z" = some ⟨[], some .boolean⟩ := by decide +kernel
theorem own_and7 (x : Int32) : x &&& 7 = 0 ∨ x &&& 7 = 1 ∨ x &&& 7 = 2 ∨ x &&& 7 = 3 ∨ x &&& 7 = 4 ∨ x &&& 7 = 5 ∨ x &&& 7 = 6 ∨ x &&& 7 = 7 := by
  have h := c_mask x 7 3 (by decide) (by decide)
  simp only [← Int32.toInt_inj, show (0 : Int32).toInt = 0 from rfl, show (1 : Int32).toInt = 1 from rfl, show (2 : Int32).toInt = 2 from rfl, show (3 : Int32).toInt = 3 from rfl, show (4 : Int32).toInt = 4 from rfl, show (5 : Int32).toInt = 5 from rfl, show (6 : Int32).toInt = 6 from rfl, show (7 : Int32).toInt = 7 from rfl]
  omega
theorem own_d2_0 : decode jdk_30_method_1_code 0 = .ok (.aload_n 0, 1) := by decide +kernel
theorem own_d2_1 : decode jdk_30_method_1_code 1 = .ok (.invokespecial 1, 3) := by decide +kernel
theorem own_d2_4 : decode jdk_30_method_1_code 4 = .ok (.return_, 1) := by decide +kernel
abbrev own_rec_R : Room := { frames := 1, cells := 0, slots := 0, locals := 12 }
theorem own_pn2 : plainFor (⟨"java/lang/Record", "<init>", "()V"⟩ : MethodName) = true := plainFor_of_name (by first | (simp [plainName, overriddenIn]; done) | decide +kernel)
theorem own_rec_ef (m : MethodId) (a1 : Addr) : entryFrame m #[(.ref a1)] 1 = mkF m 0 #[.val (.ref a1)] [] := by first | (simp [entryFrame, mkF, argsToLocals, Value.category]; done) | rfl
def own_rec_q (Z : State) (a1 : Addr)  (h0 : Heap) (v : Option Value) (h : Heap) : Prop := v = none ∧ Keep h0 h []
set_option maxRecDepth 65536 in
set_option maxHeartbeats 40000000 in
theorem own_rec (l : Launch) (Z : State) (a0 : Array Value) (hw : ∀ d ∈ tables_1, d.before a0 Z = true) (ws : List Jvm.Cond) (a1 : Addr)  (h0 : Heap) (n0 : Nat) (Z0 : n0 ≤ h0.size)  :
    own_C l Z (⟨"java/lang/Record", "<init>", "()V"⟩ : MethodName) jdk_30_method_1_code 1 none ws own_rec_R #[(.ref a1)] h0 (own_W n0 (own_rec_q Z a1 h0)) := by
  refine MetFree.of_bodySF own_pn2 hisR ?_
  intro p e s m args below meth c s₁ Bd hml0 hP hK
  obtain ⟨rfl, hZ, hh⟩ := hP
  have hx := Bd.exec
  have hby := Bd.bytes
  have hml : c.maxLocals = 1 := hml0
  have hown : s.vm.findClass "java/lang/Record" = some m.cls := findClass_of_methodNamed Bd.named
  have hnm := (name_of_methodNamed Bd.named Bd.method).1
  have X0 : Stand p l e own_rec_R s m #[(.ref a1)] below meth c s₁ [] 0 0 := Stand.of_body Bd
  have e0 : s₁.heap = h0 := by rw [← hh, Bd.state]; rfl
  have N0 := Fr.nil n0
  have K0 : Keep h0 h0 [] := Keep.refl h0 _
  show own_G p e below (own_P s (own_W n0 (own_rec_q Z a1 h0)) own_rec_R.cells own_rec_R.slots) (s₁.setTop (entryFrame m #[(.ref a1)] 1))
  rw [own_rec_ef m a1]
  show own_G p e below _ (s₁.setTop (mkF m 0 #[.val (.ref a1)] []))
  refine own_via (fun t k => XS.aloadN X0.here hx rfl (hb hby own_d2_0) rfl rfl k) ?_
  show own_G p e below _ (s₁.setTop (mkF m 1 #[.val (.ref a1)] [(.ref a1)]))
  obtain ⟨T1, X1, e1, st1⟩ := initO X0 hx hZ hown (hw _ (List.mem_of_getElem? (i := 12) rfl)) (hw _ (List.mem_of_getElem? (i := 13) rfl)) (hw _ (List.mem_of_getElem? (i := 14) rfl)) e0 (g := (mkF m 1 #[.val (.ref a1)] [(.ref a1)])) rfl (by rw [hml]; rfl) rfl (hb hby own_d2_1) (by decide) (W := 0) (by show 2 * 0 + _ ≤ _; exact Nat.le_of_eq rfl) (by decide)
  refine own_via st1 ?_
  show own_G p e below _ (T1.setTop (mkF m 4 #[.val (.ref a1)] []))
  exact own_retV X1 hx Bd.returns Bd.notSynchronized (hb hby own_d2_4) (by rw [e1]; exact ⟨N0, rfl, K0⟩) (by decide) (by decide)
theorem own_d1_0 : decode prog_39_method_2_code 0 = .ok (.aload_n 0, 1) := by decide +kernel
theorem own_d1_1 : decode prog_39_method_2_code 1 = .ok (.invokespecial 1, 3) := by decide +kernel
theorem own_d1_4 : decode prog_39_method_2_code 4 = .ok (.aload_n 0, 1) := by decide +kernel
theorem own_d1_5 : decode prog_39_method_2_code 5 = .ok (.iload_n 1, 1) := by decide +kernel
theorem own_d1_6 : decode prog_39_method_2_code 6 = .ok (.putfield 7, 3) := by decide +kernel
theorem own_d1_9 : decode prog_39_method_2_code 9 = .ok (.aload_n 0, 1) := by decide +kernel
theorem own_d1_10 : decode prog_39_method_2_code 10 = .ok (.aload_n 2, 1) := by decide +kernel
theorem own_d1_11 : decode prog_39_method_2_code 11 = .ok (.putfield 13, 3) := by decide +kernel
theorem own_d1_14 : decode prog_39_method_2_code 14 = .ok (.aload_n 0, 1) := by decide +kernel
theorem own_d1_15 : decode prog_39_method_2_code 15 = .ok (.iload_n 3, 1) := by decide +kernel
theorem own_d1_16 : decode prog_39_method_2_code 16 = .ok (.putfield 17, 3) := by decide +kernel
theorem own_d1_19 : decode prog_39_method_2_code 19 = .ok (.return_, 1) := by decide +kernel
abbrev own_c3_R : Room := { frames := 2, cells := 0, slots := 0, locals := 24 }
theorem own_pn1 : plainFor (⟨"com/example/dissoc/dissoc/ranking/Found", "<init>", "(I[II)V"⟩ : MethodName) = true := plainFor_of_name (by first | (simp [plainName, overriddenIn]; done) | decide +kernel)
theorem own_c3_ef (m : MethodId) (a1 : Addr) (t1 : Int32) (c1 : Addr) (n1 : Int32) : entryFrame m #[(.ref a1), (.int t1), (.ref c1), (.int n1)] 4 = mkF m 0 #[.val (.ref a1), .val (.int t1), .val (.ref c1), .val (.int n1)] [] := by first | (simp [entryFrame, mkF, argsToLocals, Value.category]; done) | rfl
def own_c3_q (Z : State) (a1 : Addr) (t1 : Int32) (c1 : Addr) (n1 : Int32) (u1 : Value) (u2 : Value) (u3 : Value) (h0 : Heap) (v : Option Value) (h : Heap) : Prop := v = none ∧ Keep h0 h [a1] ∧ Exa Z h a1 "com/example/dissoc/dissoc/ranking/Found" ∧ Fld Z h a1 "com/example/dissoc/dissoc/ranking/Found" "tuple" "I" (.int t1) ∧ Fld Z h a1 "com/example/dissoc/dissoc/ranking/Found" "contingency" "[I" (.ref c1) ∧ Fld Z h a1 "com/example/dissoc/dissoc/ranking/Found" "lowerBound" "I" (.int n1)
set_option maxRecDepth 65536 in
set_option maxHeartbeats 40000000 in
theorem own_c3 (l : Launch) (Z : State) (a0 : Array Value) (hw : ∀ d ∈ tables_1, d.before a0 Z = true) (ws : List Jvm.Cond) (a1 : Addr) (t1 : Int32) (c1 : Addr) (n1 : Int32) (u1 : Value) (u2 : Value) (u3 : Value) (h0 : Heap) (n0 : Nat) (Z0 : n0 ≤ h0.size) (i_E1 : Exa Z h0 a1 "com/example/dissoc/dissoc/ranking/Found") (i_F1 : Fld Z h0 a1 "com/example/dissoc/dissoc/ranking/Found" "tuple" "I" u1) (i_F2 : Fld Z h0 a1 "com/example/dissoc/dissoc/ranking/Found" "contingency" "[I" u2) (i_F3 : Fld Z h0 a1 "com/example/dissoc/dissoc/ranking/Found" "lowerBound" "I" u3) (g_a1 : n0 ≤ a1) :
    own_C l Z (⟨"com/example/dissoc/dissoc/ranking/Found", "<init>", "(I[II)V"⟩ : MethodName) prog_39_method_2_code 4 none ws own_c3_R #[(.ref a1), (.int t1), (.ref c1), (.int n1)] h0 (own_W n0 (own_c3_q Z a1 t1 c1 n1 u1 u2 u3 h0)) := by
  refine MetFree.of_bodySF own_pn1 hisR ?_
  intro p e s m args below meth c s₁ Bd hml0 hP hK
  obtain ⟨rfl, hZ, hh⟩ := hP
  have hx := Bd.exec
  have hby := Bd.bytes
  have hml : c.maxLocals = 4 := hml0
  have hown : s.vm.findClass "com/example/dissoc/dissoc/ranking/Found" = some m.cls := findClass_of_methodNamed Bd.named
  have hnm := (name_of_methodNamed Bd.named Bd.method).1
  have X0 : Stand p l e own_c3_R s m #[(.ref a1), (.int t1), (.ref c1), (.int n1)] below meth c s₁ [] 0 0 := Stand.of_body Bd
  have e0 : s₁.heap = h0 := by rw [← hh, Bd.state]; rfl
  have N0 := Fr.nil n0
  have K0 : Keep h0 h0 [a1] := Keep.refl h0 _
  show own_G p e below (own_P s (own_W n0 (own_c3_q Z a1 t1 c1 n1 u1 u2 u3 h0)) own_c3_R.cells own_c3_R.slots) (s₁.setTop (entryFrame m #[(.ref a1), (.int t1), (.ref c1), (.int n1)] 4))
  rw [own_c3_ef m a1 t1 c1 n1]
  show own_G p e below _ (s₁.setTop (mkF m 0 #[.val (.ref a1), .val (.int t1), .val (.ref c1), .val (.int n1)] []))
  refine own_via (fun t k => XS.aloadN X0.here hx rfl (hb hby own_d1_0) rfl rfl k) ?_
  show own_G p e below _ (s₁.setTop (mkF m 1 #[.val (.ref a1), .val (.int t1), .val (.ref c1), .val (.int n1)] [(.ref a1)]))
  obtain ⟨v1, T1, h1, L1, X1, N1, e1, hq1, st1⟩ := own_callI (y := (⟨"java/lang/Record", "<init>", "()V"⟩ : MethodName)) (W := 0) (a := a1) X0 N0 hx hZ rfl hown (hw _ (List.mem_of_getElem? (i := 7) rfl)) (hw _ (List.mem_of_getElem? (i := 8) rfl)) (hw _ (List.mem_of_getElem? (i := 10) rfl)) (hw _ (List.mem_of_getElem? (i := 11) rfl)) (by decide) (own_rec l Z a0 hw [] a1 h0 n0 Z0 ) (by decide) (by decide) (by decide) (by decide) e0 (pc := 1) (Ls := #[.val (.ref a1), .val (.int t1), .val (.ref c1), .val (.int n1)]) (st := [(.ref a1)]) (argsL := []) (rest := []) (by rw [hml]; rfl) (lenOf own_pd0 rfl) rfl rfl (Nat.le_of_eq rfl) (hb hby own_d1_1)
  obtain ⟨rfl, K1⟩ := hq1
  refine own_via st1 ?_
  have f2 : Exa Z h1 a1 "com/example/dissoc/dissoc/ranking/Found" := i_E1.ext (own_ke K1)
  have f3 : Fld Z h1 a1 "com/example/dissoc/dissoc/ranking/Found" "tuple" "I" u1 := i_F1.ext (own_ke K1)
  have f4 : Fld Z h1 a1 "com/example/dissoc/dissoc/ranking/Found" "contingency" "[I" u2 := i_F2.ext (own_ke K1)
  have f5 : Fld Z h1 a1 "com/example/dissoc/dissoc/ranking/Found" "lowerBound" "I" u3 := i_F3.ext (own_ke K1)
  have Kp6 : Keep h0 h1 [a1] := K0.trans K1 (fun x hx => nomatch hx)
  have Zs7 : n0 ≤ h1.size := Nat.le_trans Z0 K1.1
  show own_G p e below _ (T1.setTop (mkF m 4 #[.val (.ref a1), .val (.int t1), .val (.ref c1), .val (.int n1)] []))
  refine own_via (fun t k => XS.aloadN X1.here hx rfl (hb hby own_d1_4) rfl rfl k) ?_
  show own_G p e below _ (T1.setTop (mkF m 5 #[.val (.ref a1), .val (.int t1), .val (.ref c1), .val (.int n1)] [(.ref a1)]))
  refine own_via (fun t k => XS.iloadN X1.here hx rfl (hb hby own_d1_5) rfl k) ?_
  show own_G p e below _ (T1.setTop (mkF m 6 #[.val (.ref a1), .val (.int t1), .val (.ref c1), .val (.int n1)] [(.int t1), (.ref a1)]))
  obtain ⟨T8, h8, L8, X8, N8, e8, W8, F8, st8⟩ := own_putF X1 N1 hx hZ hown (hw _ (List.mem_of_getElem? (i := 15) rfl)) e1 f3 f2 (Or.inr ⟨(hw _ (List.mem_of_getElem? (i := 16) rfl)), rfl, hnm⟩) (hw _ (List.mem_of_getElem? (i := 2) rfl)) g_a1 (ty := .int) (v := (.int t1)) (by decide) rfl rfl (pc := 6) (Ls := #[.val (.ref a1), .val (.int t1), .val (.ref c1), .val (.int n1)]) (rest := []) (hb hby own_d1_6)
  refine own_via st8 ?_
  have f9 : Exa Z h8 a1 "com/example/dissoc/dissoc/ranking/Found" := f2.wr W8
  have f10 : Fld Z h8 a1 "com/example/dissoc/dissoc/ranking/Found" "contingency" "[I" u2 := f4.other W8 (Or.inr (slot_ne (Or.inr (hw _ (List.mem_of_getElem? (i := 18) rfl))) (Or.inr (hw _ (List.mem_of_getElem? (i := 16) rfl))) (by decide) (t := (.array .int)) (t' := .int) (by decide) (by decide)))
  have f11 : Fld Z h8 a1 "com/example/dissoc/dissoc/ranking/Found" "lowerBound" "I" u3 := f5.other W8 (Or.inr (slot_ne (Or.inr (hw _ (List.mem_of_getElem? (i := 20) rfl))) (Or.inr (hw _ (List.mem_of_getElem? (i := 16) rfl))) (by decide) (t := .int) (t' := .int) (by decide) (by decide)))
  have Kp12 : Keep h0 h8 [a1] := Kp6.wr W8 (Or.inl (List.mem_of_getElem? (i := 0) rfl))
  have Zs13 : n0 ≤ h8.size := by rw [W8.size]; exact Zs7
  show own_G p e below _ (T8.setTop (mkF m 9 #[.val (.ref a1), .val (.int t1), .val (.ref c1), .val (.int n1)] []))
  refine own_via (fun t k => XS.aloadN X8.here hx rfl (hb hby own_d1_9) rfl rfl k) ?_
  show own_G p e below _ (T8.setTop (mkF m 10 #[.val (.ref a1), .val (.int t1), .val (.ref c1), .val (.int n1)] [(.ref a1)]))
  refine own_via (fun t k => XS.aloadN X8.here hx rfl (hb hby own_d1_10) rfl rfl k) ?_
  show own_G p e below _ (T8.setTop (mkF m 11 #[.val (.ref a1), .val (.int t1), .val (.ref c1), .val (.int n1)] [(.ref c1), (.ref a1)]))
  obtain ⟨T14, h14, L14, X14, N14, e14, W14, F14, st14⟩ := own_putF X8 N8 hx hZ hown (hw _ (List.mem_of_getElem? (i := 17) rfl)) e8 f10 f9 (Or.inr ⟨(hw _ (List.mem_of_getElem? (i := 18) rfl)), rfl, hnm⟩) (hw _ (List.mem_of_getElem? (i := 2) rfl)) g_a1 (ty := (.array .int)) (v := (.ref c1)) (by decide) rfl rfl (pc := 11) (Ls := #[.val (.ref a1), .val (.int t1), .val (.ref c1), .val (.int n1)]) (rest := []) (hb hby own_d1_11)
  refine own_via st14 ?_
  have f15 : Exa Z h14 a1 "com/example/dissoc/dissoc/ranking/Found" := f9.wr W14
  have f16 : Fld Z h14 a1 "com/example/dissoc/dissoc/ranking/Found" "lowerBound" "I" u3 := f11.other W14 (Or.inr (slot_ne (Or.inr (hw _ (List.mem_of_getElem? (i := 20) rfl))) (Or.inr (hw _ (List.mem_of_getElem? (i := 18) rfl))) (by decide) (t := .int) (t' := (.array .int)) (by decide) (by decide)))
  have f17 : Fld Z h14 a1 "com/example/dissoc/dissoc/ranking/Found" "tuple" "I" (.int t1) := F8.other W14 (Or.inr (slot_ne (Or.inr (hw _ (List.mem_of_getElem? (i := 16) rfl))) (Or.inr (hw _ (List.mem_of_getElem? (i := 18) rfl))) (by decide) (t := .int) (t' := (.array .int)) (by decide) (by decide)))
  have Kp18 : Keep h0 h14 [a1] := Kp12.wr W14 (Or.inl (List.mem_of_getElem? (i := 0) rfl))
  have Zs19 : n0 ≤ h14.size := by rw [W14.size]; exact Zs13
  show own_G p e below _ (T14.setTop (mkF m 14 #[.val (.ref a1), .val (.int t1), .val (.ref c1), .val (.int n1)] []))
  refine own_via (fun t k => XS.aloadN X14.here hx rfl (hb hby own_d1_14) rfl rfl k) ?_
  show own_G p e below _ (T14.setTop (mkF m 15 #[.val (.ref a1), .val (.int t1), .val (.ref c1), .val (.int n1)] [(.ref a1)]))
  refine own_via (fun t k => XS.iloadN X14.here hx rfl (hb hby own_d1_15) rfl k) ?_
  show own_G p e below _ (T14.setTop (mkF m 16 #[.val (.ref a1), .val (.int t1), .val (.ref c1), .val (.int n1)] [(.int n1), (.ref a1)]))
  obtain ⟨T20, h20, L20, X20, N20, e20, W20, F20, st20⟩ := own_putF X14 N14 hx hZ hown (hw _ (List.mem_of_getElem? (i := 19) rfl)) e14 f16 f15 (Or.inr ⟨(hw _ (List.mem_of_getElem? (i := 20) rfl)), rfl, hnm⟩) (hw _ (List.mem_of_getElem? (i := 2) rfl)) g_a1 (ty := .int) (v := (.int n1)) (by decide) rfl rfl (pc := 16) (Ls := #[.val (.ref a1), .val (.int t1), .val (.ref c1), .val (.int n1)]) (rest := []) (hb hby own_d1_16)
  refine own_via st20 ?_
  have f21 : Exa Z h20 a1 "com/example/dissoc/dissoc/ranking/Found" := f15.wr W20
  have f22 : Fld Z h20 a1 "com/example/dissoc/dissoc/ranking/Found" "tuple" "I" (.int t1) := f17.other W20 (Or.inr (slot_ne (Or.inr (hw _ (List.mem_of_getElem? (i := 16) rfl))) (Or.inr (hw _ (List.mem_of_getElem? (i := 20) rfl))) (by decide) (t := .int) (t' := .int) (by decide) (by decide)))
  have f23 : Fld Z h20 a1 "com/example/dissoc/dissoc/ranking/Found" "contingency" "[I" (.ref c1) := F14.other W20 (Or.inr (slot_ne (Or.inr (hw _ (List.mem_of_getElem? (i := 18) rfl))) (Or.inr (hw _ (List.mem_of_getElem? (i := 20) rfl))) (by decide) (t := (.array .int)) (t' := .int) (by decide) (by decide)))
  have Kp24 : Keep h0 h20 [a1] := Kp18.wr W20 (Or.inl (List.mem_of_getElem? (i := 0) rfl))
  have Zs25 : n0 ≤ h20.size := by rw [W20.size]; exact Zs19
  show own_G p e below _ (T20.setTop (mkF m 19 #[.val (.ref a1), .val (.int t1), .val (.ref c1), .val (.int n1)] []))
  exact own_retV X20 hx Bd.returns Bd.notSynchronized (hb hby own_d1_19) (by rw [e20]; exact ⟨N20, rfl, Kp24, f21, f22, f23, F20⟩) (by decide) (by decide)
theorem own_d4_0 : decode prog_39_method_1_code 0 = .ok (.aload_n 0, 1) := by decide +kernel
theorem own_d4_1 : decode prog_39_method_1_code 1 = .ok (.iload_n 1, 1) := by decide +kernel
theorem own_d4_2 : decode prog_39_method_1_code 2 = .ok (.aload_n 2, 1) := by decide +kernel
theorem own_d4_3 : decode prog_39_method_1_code 3 = .ok (.aload_n 2, 1) := by decide +kernel
theorem own_d4_4 : decode prog_39_method_1_code 4 = .ok (.arraylength, 1) := by decide +kernel
theorem own_d4_5 : decode prog_39_method_1_code 5 = .ok (.invokespecial 20, 3) := by decide +kernel
theorem own_d4_8 : decode prog_39_method_1_code 8 = .ok (.return_, 1) := by decide +kernel
abbrev own_c2_R : Room := { frames := 3, cells := 0, slots := 0, locals := 39 }
theorem own_pn4 : plainFor (⟨"com/example/dissoc/dissoc/ranking/Found", "<init>", "(I[I)V"⟩ : MethodName) = true := plainFor_of_name (by first | (simp [plainName, overriddenIn]; done) | decide +kernel)
theorem own_c2_ef (m : MethodId) (a1 : Addr) (t1 : Int32) (c1 : Addr) : entryFrame m #[(.ref a1), (.int t1), (.ref c1)] 3 = mkF m 0 #[.val (.ref a1), .val (.int t1), .val (.ref c1)] [] := by first | (simp [entryFrame, mkF, argsToLocals, Value.category]; done) | rfl
def own_c2_q (Z : State) (a1 : Addr) (t1 : Int32) (c1 : Addr) (u1 : Value) (u2 : Value) (u3 : Value) (k1 : ClassId) (z1 : Int32) (vs1 : List Value) (d1 : Value) (h0 : Heap) (v : Option Value) (h : Heap) : Prop := v = none ∧ Keep h0 h [a1] ∧ Exa Z h a1 "com/example/dissoc/dissoc/ranking/Found" ∧ Fld Z h a1 "com/example/dissoc/dissoc/ranking/Found" "tuple" "I" (.int t1) ∧ Fld Z h a1 "com/example/dissoc/dissoc/ranking/Found" "contingency" "[I" (.ref c1) ∧ Fld Z h a1 "com/example/dissoc/dissoc/ranking/Found" "lowerBound" "I" (.int z1)
set_option maxRecDepth 65536 in
set_option maxHeartbeats 40000000 in
theorem own_c2 (l : Launch) (Z : State) (a0 : Array Value) (hw : ∀ d ∈ tables_1, d.before a0 Z = true) (ws : List Jvm.Cond) (a1 : Addr) (t1 : Int32) (c1 : Addr) (u1 : Value) (u2 : Value) (u3 : Value) (k1 : ClassId) (z1 : Int32) (vs1 : List Value) (d1 : Value) (h0 : Heap) (n0 : Nat) (Z0 : n0 ≤ h0.size) (i_E1 : Exa Z h0 a1 "com/example/dissoc/dissoc/ranking/Found") (i_F1 : Fld Z h0 a1 "com/example/dissoc/dissoc/ranking/Found" "tuple" "I" u1) (i_F2 : Fld Z h0 a1 "com/example/dissoc/dissoc/ranking/Found" "contingency" "[I" u2) (i_F3 : Fld Z h0 a1 "com/example/dissoc/dissoc/ranking/Found" "lowerBound" "I" u3) (i_V1 : Arv Z h0 c1 k1 .int z1 vs1 d1) (g_a1 : n0 ≤ a1) :
    own_C l Z (⟨"com/example/dissoc/dissoc/ranking/Found", "<init>", "(I[I)V"⟩ : MethodName) prog_39_method_1_code 3 none ws own_c2_R #[(.ref a1), (.int t1), (.ref c1)] h0 (own_W n0 (own_c2_q Z a1 t1 c1 u1 u2 u3 k1 z1 vs1 d1 h0)) := by
  refine MetFree.of_bodySF own_pn4 hisR ?_
  intro p e s m args below meth c s₁ Bd hml0 hP hK
  obtain ⟨rfl, hZ, hh⟩ := hP
  have hx := Bd.exec
  have hby := Bd.bytes
  have hml : c.maxLocals = 3 := hml0
  have hown : s.vm.findClass "com/example/dissoc/dissoc/ranking/Found" = some m.cls := findClass_of_methodNamed Bd.named
  have hnm := (name_of_methodNamed Bd.named Bd.method).1
  have X0 : Stand p l e own_c2_R s m #[(.ref a1), (.int t1), (.ref c1)] below meth c s₁ [] 0 0 := Stand.of_body Bd
  have e0 : s₁.heap = h0 := by rw [← hh, Bd.state]; rfl
  have N0 := Fr.nil n0
  have K0 : Keep h0 h0 [a1] := Keep.refl h0 _
  show own_G p e below (own_P s (own_W n0 (own_c2_q Z a1 t1 c1 u1 u2 u3 k1 z1 vs1 d1 h0)) own_c2_R.cells own_c2_R.slots) (s₁.setTop (entryFrame m #[(.ref a1), (.int t1), (.ref c1)] 3))
  rw [own_c2_ef m a1 t1 c1]
  show own_G p e below _ (s₁.setTop (mkF m 0 #[.val (.ref a1), .val (.int t1), .val (.ref c1)] []))
  refine own_via (fun t k => XS.aloadN X0.here hx rfl (hb hby own_d4_0) rfl rfl k) ?_
  show own_G p e below _ (s₁.setTop (mkF m 1 #[.val (.ref a1), .val (.int t1), .val (.ref c1)] [(.ref a1)]))
  refine own_via (fun t k => XS.iloadN X0.here hx rfl (hb hby own_d4_1) rfl k) ?_
  show own_G p e below _ (s₁.setTop (mkF m 2 #[.val (.ref a1), .val (.int t1), .val (.ref c1)] [(.int t1), (.ref a1)]))
  refine own_via (fun t k => XS.aloadN X0.here hx rfl (hb hby own_d4_2) rfl rfl k) ?_
  show own_G p e below _ (s₁.setTop (mkF m 3 #[.val (.ref a1), .val (.int t1), .val (.ref c1)] [(.ref c1), (.int t1), (.ref a1)]))
  refine own_via (fun t k => XS.aloadN X0.here hx rfl (hb hby own_d4_3) rfl rfl k) ?_
  show own_G p e below _ (s₁.setTop (mkF m 4 #[.val (.ref a1), .val (.int t1), .val (.ref c1)] [(.ref c1), (.ref c1), (.int t1), (.ref a1)]))
  refine own_via (own_len X0 hx hZ e0 i_V1 (pc := 4) (Ls := #[.val (.ref a1), .val (.int t1), .val (.ref c1)]) (rest := [(.ref c1), (.int t1), (.ref a1)]) (hb hby own_d4_4)) ?_
  show own_G p e below _ (s₁.setTop (mkF m 5 #[.val (.ref a1), .val (.int t1), .val (.ref c1)] [(.int z1), (.ref c1), (.int t1), (.ref a1)]))
  obtain ⟨v1, T1, h1, L1, X1, N1, e1, hq1, st1⟩ := own_callI (y := (⟨"com/example/dissoc/dissoc/ranking/Found", "<init>", "(I[II)V"⟩ : MethodName)) (W := 0) (a := a1) X0 N0 hx hZ rfl hown (hw _ (List.mem_of_getElem? (i := 24) rfl)) (hw _ (List.mem_of_getElem? (i := 5) rfl)) (hw _ (List.mem_of_getElem? (i := 3) rfl)) (hw _ (List.mem_of_getElem? (i := 6) rfl)) (by decide) (own_c3 l Z a0 hw [] a1 t1 c1 z1 u1 u2 u3 h0 n0 Z0 i_E1 i_F1 i_F2 i_F3 g_a1) (by decide) (by decide) (by decide) (by decide) e0 (pc := 5) (Ls := #[.val (.ref a1), .val (.int t1), .val (.ref c1)]) (st := [(.int z1), (.ref c1), (.int t1), (.ref a1)]) (argsL := [(.int t1), (.ref c1), (.int z1)]) (rest := []) (by rw [hml]; rfl) (lenOf own_pd1 rfl) rfl rfl (Nat.le_of_eq rfl) (hb hby own_d4_5)
  obtain ⟨rfl, K1, o1_0, o1_1, o1_2, o1_3⟩ := hq1
  refine own_via st1 ?_
  have f2 : Exa Z h1 a1 "com/example/dissoc/dissoc/ranking/Found" := i_E1.keep K1
  have Kp3 : Keep h0 h1 [a1] := K0.trans K1 (fun x hx => by simp only [List.mem_cons, List.not_mem_nil, or_false] at hx; rcases hx with rfl <;> first | exact (Or.inl (List.mem_of_getElem? (i := 0) rfl)))
  have Zs4 : n0 ≤ h1.size := Nat.le_trans Z0 K1.1
  show own_G p e below _ (T1.setTop (mkF m 8 #[.val (.ref a1), .val (.int t1), .val (.ref c1)] []))
  exact own_retV X1 hx Bd.returns Bd.notSynchronized (hb hby own_d4_8) (by rw [e1]; exact ⟨N1, rfl, Kp3, o1_0, o1_1, o1_2, o1_3⟩) (by decide) (by decide)
theorem own_d5_0 : decode prog_39_method_3_code 0 = .ok (.aload_n 0, 1) := by decide +kernel
theorem own_d5_1 : decode prog_39_method_3_code 1 = .ok (.getfield 17, 3) := by decide +kernel
theorem own_d5_4 : decode prog_39_method_3_code 4 = .ok (.aload_n 0, 1) := by decide +kernel
theorem own_d5_5 : decode prog_39_method_3_code 5 = .ok (.getfield 13, 3) := by decide +kernel
theorem own_d5_8 : decode prog_39_method_3_code 8 = .ok (.arraylength, 1) := by decide +kernel
theorem own_d5_9 : decode prog_39_method_3_code 9 = .ok (.if_icmp .ne 7, 3) := by decide +kernel
theorem own_d5_12 : decode prog_39_method_3_code 12 = .ok (.iconst 1, 1) := by decide +kernel
theorem own_d5_13 : decode prog_39_method_3_code 13 = .ok (.goto 4, 3) := by decide +kernel
theorem own_d5_16 : decode prog_39_method_3_code 16 = .ok (.iconst 0, 1) := by decide +kernel
theorem own_d5_17 : decode prog_39_method_3_code 17 = .ok (.ireturn, 1) := by decide +kernel
abbrev own_ex_R : Room := { frames := 0, cells := 0, slots := 0, locals := 0 }
theorem own_pn5 : plainFor (⟨"com/example/dissoc/dissoc/ranking/Found", "exact", "()Z"⟩ : MethodName) = true := plainFor_of_name (by first | (simp [plainName, overriddenIn]; done) | decide +kernel)
theorem own_ex_ef (m : MethodId) (a1 : Addr) : entryFrame m #[(.ref a1)] 1 = mkF m 0 #[.val (.ref a1)] [] := by first | (simp [entryFrame, mkF, argsToLocals, Value.category]; done) | rfl
def own_Fex (n1 : Int32) (z1 : Int32) : Int32 := (if n1 = z1 then (1 : Int32) else (0 : Int32))
set_option maxRecDepth 65536 in
set_option maxHeartbeats 40000000 in
theorem own_ex (l : Launch) (Z : State) (a0 : Array Value) (hw : ∀ d ∈ tables_1, d.before a0 Z = true) (ws : List Jvm.Cond) (a1 : Addr) (c1 : Addr) (n1 : Int32) (k1 : ClassId) (z1 : Int32) (vs1 : List Value) (d1 : Value) (h0 : Heap)  (i_F2 : Fld Z h0 a1 "com/example/dissoc/dissoc/ranking/Found" "contingency" "[I" (.ref c1)) (i_F3 : Fld Z h0 a1 "com/example/dissoc/dissoc/ranking/Found" "lowerBound" "I" (.int n1)) (i_V1 : Arv Z h0 c1 k1 .int z1 vs1 d1) :
    own_C l Z (⟨"com/example/dissoc/dissoc/ranking/Found", "exact", "()Z"⟩ : MethodName) prog_39_method_3_code 1 (some .boolean) ws own_ex_R #[(.ref a1)] h0 (own_Q (.int (own_Fex n1 z1)) h0) := by
  refine MetFree.of_bodySF own_pn5 hisR ?_
  intro p e s m args below meth c s₁ Bd hml0 hP hK
  obtain ⟨rfl, hZ, hh⟩ := hP
  have hx := Bd.exec
  have hby := Bd.bytes
  have hml : c.maxLocals = 1 := hml0
  have hown : s.vm.findClass "com/example/dissoc/dissoc/ranking/Found" = some m.cls := findClass_of_methodNamed Bd.named
  have hnm := (name_of_methodNamed Bd.named Bd.method).1
  have X0 : Stand p l e own_ex_R s m #[(.ref a1)] below meth c s₁ [] 0 0 := Stand.of_body Bd
  have e0 : s₁.heap = h0 := by rw [← hh, Bd.state]; rfl
  show own_G p e below (own_P s (own_Q (.int (own_Fex n1 z1)) h0) own_ex_R.cells own_ex_R.slots) (s₁.setTop (entryFrame m #[(.ref a1)] 1))
  rw [own_ex_ef m a1]
  show own_G p e below _ (s₁.setTop (mkF m 0 #[.val (.ref a1)] []))
  refine own_via (fun t k => XS.aloadN X0.here hx rfl (hb hby own_d5_0) rfl rfl k) ?_
  show own_G p e below _ (s₁.setTop (mkF m 1 #[.val (.ref a1)] [(.ref a1)]))
  obtain ⟨T1, X1, e1, st1⟩ := getF X0 hx hZ hown (host := "") (Or.inl (hw _ (List.mem_of_getElem? (i := 19) rfl))) Via.refl e0 i_F3 (g := (mkF m 1 #[.val (.ref a1)] [(.ref a1)])) rfl rfl (hb hby own_d5_1)
  refine own_via st1 ?_
  show own_G p e below _ (T1.setTop (mkF m 4 #[.val (.ref a1)] [(.int n1)]))
  refine own_via (fun t k => XS.aloadN X1.here hx rfl (hb hby own_d5_4) rfl rfl k) ?_
  show own_G p e below _ (T1.setTop (mkF m 5 #[.val (.ref a1)] [(.ref a1), (.int n1)]))
  obtain ⟨T2, X2, e2, st2⟩ := getF X1 hx hZ hown (host := "") (Or.inl (hw _ (List.mem_of_getElem? (i := 17) rfl))) Via.refl e1 i_F2 (g := (mkF m 5 #[.val (.ref a1)] [(.ref a1), (.int n1)])) rfl rfl (hb hby own_d5_5)
  refine own_via st2 ?_
  show own_G p e below _ (T2.setTop (mkF m 8 #[.val (.ref a1)] [(.ref c1), (.int n1)]))
  refine own_via (own_len X2 hx hZ e2 i_V1 (pc := 8) (Ls := #[.val (.ref a1)]) (rest := [(.int n1)]) (hb hby own_d5_8)) ?_
  show own_G p e below _ (T2.setTop (mkF m 9 #[.val (.ref a1)] [(.int z1), (.int n1)]))
  by_cases hc3 : n1 = z1
  ·
    refine own_via (fun t k => XS.icmpNo X2.here hx rfl (hb hby own_d5_9) rfl (teq hc3).2 k) ?_
    show own_G p e below _ (T2.setTop (mkF m 12 #[.val (.ref a1)] []))
    refine own_via (fun t k => XS.iconst X2.here hx rfl (hb hby own_d5_12) k) ?_
    show own_G p e below _ (T2.setTop (mkF m 13 #[.val (.ref a1)] [(.int (1 : Int32))]))
    refine own_via (fun t k => XS.goto X2.here hx rfl (pc0 := 13) (pc' := 17) rfl (hb hby own_d5_13) (by decide) (by decide) k) ?_
    show own_G p e below _ (T2.setTop (mkF m 17 #[.val (.ref a1)] [(.int (1 : Int32))]))
    exact own_retN (t := .boolean) X2 hx Bd.returns (by simp) Bd.notSynchronized (hb hby own_d5_17) ⟨(by show (some (.int (1 : Int32)) : Option Value) = some (.int (own_Fex n1 z1)); simp only [own_Fex, if_pos hc3]), rfl, e2⟩ (by decide) (by decide)
  ·
    refine own_via (fun t k => XS.icmpYes X2.here hx rfl (pc0 := 9) (pc' := 16) rfl (hb hby own_d5_9) rfl (feq hc3).2 (by decide) (by decide) k) ?_
    show own_G p e below _ (T2.setTop (mkF m 16 #[.val (.ref a1)] []))
    refine own_via (fun t k => XS.iconst X2.here hx rfl (hb hby own_d5_16) k) ?_
    show own_G p e below _ (T2.setTop (mkF m 17 #[.val (.ref a1)] [(.int (0 : Int32))]))
    exact own_retN (t := .boolean) X2 hx Bd.returns (by simp) Bd.notSynchronized (hb hby own_d5_17) ⟨(by show (some (.int (0 : Int32)) : Option Value) = some (.int (own_Fex n1 z1)); simp only [own_Fex, if_neg hc3]), rfl, e2⟩ (by decide) (by decide)
theorem own_pn0 : plainFor x = true := plainFor_of_name (by first | (simp [plainName, overriddenIn]; done) | decide +kernel)
theorem own_rm0_ef (m : MethodId) (p0 : Int32) (p1 : Int32) (p2 : Int32) (p3 : Int32) (p4 : Int32) : entryFrame m #[(.int p0), (.int p1), (.int p2), (.int p3), (.int p4)] maxLocals = mkF m 0 #[.val (.int p0), .val (.int p1), .val (.int p2), .val (.int p3), .val (.int p4), .unset, .unset, .unset, .unset, .unset, .unset, .unset] [] := by first | (simp [entryFrame, mkF, argsToLocals, Value.category, maxLocals]; done) | rfl
set_option maxRecDepth 65536 in
set_option maxHeartbeats 40000000 in
theorem own_rm0 (l : Launch) (Z : State) (a0 : Array Value) (hw : ∀ d ∈ tables_1, d.before a0 Z = true) (ws : List Jvm.Cond) (p0 : Int32) (p1 : Int32) (p2 : Int32) (p3 : Int32) (p4 : Int32)  (h0 : Heap) (n0 : Nat) (Z0 : n0 ≤ h0.size)  :
    own_C l Z x code maxLocals ret ws room_1 #[(.int p0), (.int p1), (.int p2), (.int p3), (.int p4)] h0 (own_W n0 (fun v _ => v = some (.int 1))) := by
  refine MetFree.of_bodySF own_pn0 hisR ?_
  intro p e s m args below meth c s₁ Bd hml0 hP hK
  obtain ⟨rfl, hZ, hh⟩ := hP
  have hx := Bd.exec
  have hby := Bd.bytes
  have hml : c.maxLocals = 12 := hml0
  have hown : s.vm.findClass "com/example/dissoc/dissoc/ranking/FoundExactPinLaw" = some m.cls := findClass_of_methodNamed Bd.named
  have hnm := (name_of_methodNamed Bd.named Bd.method).1
  have X0 : Stand p l e room_1 s m #[(.int p0), (.int p1), (.int p2), (.int p3), (.int p4)] below meth c s₁ [] 0 0 := Stand.of_body Bd
  have e0 : s₁.heap = h0 := by rw [← hh, Bd.state]; rfl
  have N0 := Fr.nil n0
  show own_G p e below (own_P s (own_W n0 (fun v _ => v = some (.int 1))) room_1.cells room_1.slots) (s₁.setTop (entryFrame m #[(.int p0), (.int p1), (.int p2), (.int p3), (.int p4)] maxLocals))
  rw [own_rm0_ef m p0 p1 p2 p3 p4]
  show own_G p e below _ (s₁.setTop (mkF m 0 #[.val (.int p0), .val (.int p1), .val (.int p2), .val (.int p3), .val (.int p4), .unset, .unset, .unset, .unset, .unset, .unset, .unset] []))
  refine own_via (fun t k => XS.iloadN X0.here hx rfl (hb hby at_0) rfl k) ?_
  show own_G p e below _ (s₁.setTop (mkF m 1 #[.val (.int p0), .val (.int p1), .val (.int p2), .val (.int p3), .val (.int p4), .unset, .unset, .unset, .unset, .unset, .unset, .unset] [(.int p1)]))
  refine own_via (fun t k => XS.bipush X0.here hx rfl (hb hby at_1) k) ?_
  show own_G p e below _ (s₁.setTop (mkF m 3 #[.val (.int p0), .val (.int p1), .val (.int p2), .val (.int p3), .val (.int p4), .unset, .unset, .unset, .unset, .unset, .unset, .unset] [(.int (7 : Int32)), (.int p1)]))
  refine own_via (fun t k => XS.iand X0.here hx rfl (hb hby at_3) rfl k) ?_
  show own_G p e below _ (s₁.setTop (mkF m 4 #[.val (.int p0), .val (.int p1), .val (.int p2), .val (.int p3), .val (.int p4), .unset, .unset, .unset, .unset, .unset, .unset, .unset] [(.int (p1 &&& (7 : Int32)))]))
  rcases own_and7 p1 with hs1 | hs2 | hs3 | hs4 | hs5 | hs6 | hs7 | hs8
  ·
    rw [hs1]
    show own_G p e below _ (s₁.setTop (mkF m 4 #[.val (.int p0), .val (.int p1), .val (.int p2), .val (.int p3), .val (.int p4), .unset, .unset, .unset, .unset, .unset, .unset, .unset] [(.int (0 : Int32))]))
    refine own_via (fun t k => XS.istore X0.here hx rfl (hb hby at_4) rfl (l' := #[.val (.int p0), .val (.int p1), .val (.int p2), .val (.int p3), .val (.int p4), .val (.int (0 : Int32)), .unset, .unset, .unset, .unset, .unset, .unset]) rfl k) ?_
    show own_G p e below _ (s₁.setTop (mkF m 6 #[.val (.int p0), .val (.int p1), .val (.int p2), .val (.int p3), .val (.int p4), .val (.int (0 : Int32)), .unset, .unset, .unset, .unset, .unset, .unset] []))
    refine own_via (fun t k => XS.iload X0.here hx rfl (hb hby at_6) rfl k) ?_
    show own_G p e below _ (s₁.setTop (mkF m 8 #[.val (.int p0), .val (.int p1), .val (.int p2), .val (.int p3), .val (.int p4), .val (.int (0 : Int32)), .unset, .unset, .unset, .unset, .unset, .unset] [(.int (0 : Int32))]))
    obtain ⟨T9, h9, k9, b9, X9, e9, E9, ga9, V9, Ex9, st9⟩ := own_newA X0 hx hZ (hw _ (List.mem_of_getElem? (i := 0) rfl)) e0 (pc := 8) (Ls := #[.val (.int p0), .val (.int p1), .val (.int p2), .val (.int p3), .val (.int p4), .val (.int (0 : Int32)), .unset, .unset, .unset, .unset, .unset, .unset]) (rest := []) (hb hby at_8) (n := (0 : Int32)) (by decide) (cap := 0) (by decide) (by decide) (by decide) (by decide) 0 rfl
    refine own_via st9 ?_
    have f10 : Arv Z h9 b9 k9 .int (0 : Int32) [] (.int (0 : Int32)) := V9
    have g_b9 : n0 ≤ b9 := Nat.le_trans Z0 (Nat.le_of_eq ga9.symm)
    have Zs11 : n0 ≤ h9.size := Nat.le_trans Z0 E9.1
    show own_G p e below _ (T9.setTop (mkF m 10 #[.val (.int p0), .val (.int p1), .val (.int p2), .val (.int p3), .val (.int p4), .val (.int (0 : Int32)), .unset, .unset, .unset, .unset, .unset, .unset] [(.ref b9)]))
    refine own_via (fun t k => XS.astore X9.here hx rfl (hb hby at_10) rfl rfl (l' := #[.val (.int p0), .val (.int p1), .val (.int p2), .val (.int p3), .val (.int p4), .val (.int (0 : Int32)), .val (.ref b9), .unset, .unset, .unset, .unset, .unset]) rfl k) ?_
    show own_G p e below _ (T9.setTop (mkF m 12 #[.val (.int p0), .val (.int p1), .val (.int p2), .val (.int p3), .val (.int p4), .val (.int (0 : Int32)), .val (.ref b9), .unset, .unset, .unset, .unset, .unset] []))
    refine own_via (fun t k => XS.iload X9.here hx rfl (hb hby at_12) rfl k) ?_
    show own_G p e below _ (T9.setTop (mkF m 14 #[.val (.int p0), .val (.int p1), .val (.int p2), .val (.int p3), .val (.int p4), .val (.int (0 : Int32)), .val (.ref b9), .unset, .unset, .unset, .unset, .unset] [(.int (0 : Int32))]))
    refine own_via (fun t k => XS.ifYes X9.here hx rfl (pc0 := 14) (pc' := 23) rfl (hb hby at_14) rfl ((if0 _ _).trans (flt (by decide : ¬ ((0 : Int32) < (0 : Int32)))).2.2.2) (by decide) (by decide) k) ?_
    show own_G p e below _ (T9.setTop (mkF m 23 #[.val (.int p0), .val (.int p1), .val (.int p2), .val (.int p3), .val (.int p4), .val (.int (0 : Int32)), .val (.ref b9), .unset, .unset, .unset, .unset, .unset] []))
    refine own_via (fun t k => XS.iloadN X9.here hx rfl (hb hby at_23) rfl k) ?_
    show own_G p e below _ (T9.setTop (mkF m 24 #[.val (.int p0), .val (.int p1), .val (.int p2), .val (.int p3), .val (.int p4), .val (.int (0 : Int32)), .val (.ref b9), .unset, .unset, .unset, .unset, .unset] [(.int p3)]))
    refine own_via (fun t k => XS.iconst X9.here hx rfl (hb hby at_24) k) ?_
    show own_G p e below _ (T9.setTop (mkF m 25 #[.val (.int p0), .val (.int p1), .val (.int p2), .val (.int p3), .val (.int p4), .val (.int (0 : Int32)), .val (.ref b9), .unset, .unset, .unset, .unset, .unset] [(.int (3 : Int32)), (.int p3)]))
    refine own_via (fun t k => XS.iand X9.here hx rfl (hb hby at_25) rfl k) ?_
    show own_G p e below _ (T9.setTop (mkF m 26 #[.val (.int p0), .val (.int p1), .val (.int p2), .val (.int p3), .val (.int p4), .val (.int (0 : Int32)), .val (.ref b9), .unset, .unset, .unset, .unset, .unset] [(.int (p3 &&& (3 : Int32)))]))
    generalize hvg12 : (p3 &&& (3 : Int32)) = vg12
    show own_G p e below _ (T9.setTop (mkF m 26 #[.val (.int p0), .val (.int p1), .val (.int p2), .val (.int p3), .val (.int p4), .val (.int (0 : Int32)), .val (.ref b9), .unset, .unset, .unset, .unset, .unset] [(.int vg12)]))
    refine own_via (fun t k => XS.istore X9.here hx rfl (hb hby at_26) rfl (l' := #[.val (.int p0), .val (.int p1), .val (.int p2), .val (.int p3), .val (.int p4), .val (.int (0 : Int32)), .val (.ref b9), .val (.int vg12), .unset, .unset, .unset, .unset]) rfl k) ?_
    show own_G p e below _ (T9.setTop (mkF m 28 #[.val (.int p0), .val (.int p1), .val (.int p2), .val (.int p3), .val (.int p4), .val (.int (0 : Int32)), .val (.ref b9), .val (.int vg12), .unset, .unset, .unset, .unset] []))
    refine own_via (fun t k => XS.iload X9.here hx rfl (hb hby at_28) rfl k) ?_
    show own_G p e below _ (T9.setTop (mkF m 30 #[.val (.int p0), .val (.int p1), .val (.int p2), .val (.int p3), .val (.int p4), .val (.int (0 : Int32)), .val (.ref b9), .val (.int vg12), .unset, .unset, .unset, .unset] [(.int vg12)]))
    have J13 : ∀ (TJ13 : State) (XJ13 : Stand p l e room_1 s m #[(.int p0), (.int p1), (.int p2), (.int p3), (.int p4)] below meth c TJ13 [] 1 0) (EJ13 : TJ13.heap = h9) (zj14 : Int32), zj14 = (if vg12 = (0 : Int32) then (0 : Int32) else (if vg12 = (1 : Int32) then (-1 : Int32) else (if vg12 = (2 : Int32) then (1 : Int32) else p2))) → own_G p e below (own_P s (own_W n0 (fun v _ => v = some (.int 1))) room_1.cells room_1.slots) (TJ13.setTop (mkF m 73 #[.val (.int p0), .val (.int p1), .val (.int p2), .val (.int p3), .val (.int p4), .val (.int (0 : Int32)), .val (.ref b9), .val (.int vg12), .val (.int zj14), .unset, .unset, .unset] [])) := by
      intro TJ13 XJ13 EJ13 zj14 hzj14
      obtain ⟨T15, h15, b15, X15, e15, E15, ga15, A15, D15, st15⟩ := own_newO XJ13 hx hZ hown (hw _ (List.mem_of_getElem? (i := 1) rfl)) (hw _ (List.mem_of_getElem? (i := 2) rfl)) (hw _ (List.mem_of_getElem? (i := 3) rfl)) EJ13 (pc := 73) (Ls := #[.val (.int p0), .val (.int p1), .val (.int p2), .val (.int p3), .val (.int p4), .val (.int (0 : Int32)), .val (.ref b9), .val (.int vg12), .val (.int zj14), .unset, .unset, .unset]) (rest := []) (hb hby at_73) (by decide) (by decide)
      refine own_via st15 ?_
      have ne16 : b9 ≠ b15 := Nat.ne_of_lt (Nat.lt_of_lt_of_le f10.lt (Nat.le_of_eq ga15.symm))
      have f17 : Arv Z h15 b9 k9 .int (0 : Int32) [] (.int (0 : Int32)) := f10.ext E15
      have f18 : Fld Z h15 b15 "com/example/dissoc/dissoc/ranking/Found" "tuple" "I" (.int (0 : Int32)) := D15 (Or.inr (hw _ (List.mem_of_getElem? (i := 16) rfl))) (ty := .int) (by decide)
      have f19 : Fld Z h15 b15 "com/example/dissoc/dissoc/ranking/Found" "contingency" "[I" .null := D15 (Or.inr (hw _ (List.mem_of_getElem? (i := 18) rfl))) (ty := (.array .int)) (by decide)
      have f20 : Fld Z h15 b15 "com/example/dissoc/dissoc/ranking/Found" "lowerBound" "I" (.int (0 : Int32)) := D15 (Or.inr (hw _ (List.mem_of_getElem? (i := 20) rfl))) (ty := .int) (by decide)
      have g_b15 : n0 ≤ b15 := Nat.le_trans Zs11 (Nat.le_of_eq ga15.symm)
      have Zs21 : n0 ≤ h15.size := Nat.le_trans Zs11 E15.1
      show own_G p e below _ (T15.setTop (mkF m 76 #[.val (.int p0), .val (.int p1), .val (.int p2), .val (.int p3), .val (.int p4), .val (.int (0 : Int32)), .val (.ref b9), .val (.int vg12), .val (.int zj14), .unset, .unset, .unset] [(.ref b15)]))
      refine own_via (fun t k => XS.dup X15.here hx rfl (hb hby at_76) rfl rfl k) ?_
      show own_G p e below _ (T15.setTop (mkF m 77 #[.val (.int p0), .val (.int p1), .val (.int p2), .val (.int p3), .val (.int p4), .val (.int (0 : Int32)), .val (.ref b9), .val (.int vg12), .val (.int zj14), .unset, .unset, .unset] [(.ref b15), (.ref b15)]))
      refine own_via (fun t k => XS.iloadN X15.here hx rfl (hb hby at_77) rfl k) ?_
      show own_G p e below _ (T15.setTop (mkF m 78 #[.val (.int p0), .val (.int p1), .val (.int p2), .val (.int p3), .val (.int p4), .val (.int (0 : Int32)), .val (.ref b9), .val (.int vg12), .val (.int zj14), .unset, .unset, .unset] [(.int p0), (.ref b15), (.ref b15)]))
      refine own_via (fun t k => XS.aload X15.here hx rfl (hb hby at_78) rfl rfl k) ?_
      show own_G p e below _ (T15.setTop (mkF m 80 #[.val (.int p0), .val (.int p1), .val (.int p2), .val (.int p3), .val (.int p4), .val (.int (0 : Int32)), .val (.ref b9), .val (.int vg12), .val (.int zj14), .unset, .unset, .unset] [(.ref b9), (.int p0), (.ref b15), (.ref b15)]))
      refine own_via (fun t k => XS.iload X15.here hx rfl (hb hby at_80) rfl k) ?_
      show own_G p e below _ (T15.setTop (mkF m 82 #[.val (.int p0), .val (.int p1), .val (.int p2), .val (.int p3), .val (.int p4), .val (.int (0 : Int32)), .val (.ref b9), .val (.int vg12), .val (.int zj14), .unset, .unset, .unset] [(.int zj14), (.ref b9), (.int p0), (.ref b15), (.ref b15)]))
      obtain ⟨v22, T22, h22, L22, X22, N22, e22, hq22, st22⟩ := own_callI (y := (⟨"com/example/dissoc/dissoc/ranking/Found", "<init>", "(I[II)V"⟩ : MethodName)) (W := 1) (a := b15) X15 N0 hx hZ rfl hown (hw _ (List.mem_of_getElem? (i := 4) rfl)) (hw _ (List.mem_of_getElem? (i := 5) rfl)) (hw _ (List.mem_of_getElem? (i := 3) rfl)) (hw _ (List.mem_of_getElem? (i := 6) rfl)) (by decide) (own_c3 l Z a0 hw [] b15 p0 b9 zj14 (.int (0 : Int32)) (.null) (.int (0 : Int32)) h15 n0 Zs21 A15 f18 f19 f20 g_b15) (by decide) (by decide) (by decide) (by decide) e15 (pc := 82) (Ls := #[.val (.int p0), .val (.int p1), .val (.int p2), .val (.int p3), .val (.int p4), .val (.int (0 : Int32)), .val (.ref b9), .val (.int vg12), .val (.int zj14), .unset, .unset, .unset]) (st := [(.int zj14), (.ref b9), (.int p0), (.ref b15), (.ref b15)]) (argsL := [(.int p0), (.ref b9), (.int zj14)]) (rest := [(.ref b15)]) (by rw [hml]; rfl) (lenOf own_pd1 rfl) rfl rfl (Nat.le_of_eq rfl) (hb hby at_82)
      obtain ⟨rfl, K22, o22_0, o22_1, o22_2, o22_3⟩ := hq22
      refine own_via st22 ?_
      have f23 : Arv Z h22 b9 k9 .int (0 : Int32) [] (.int (0 : Int32)) := f17.keep K22 (by simp only [List.mem_cons, List.not_mem_nil, or_false, not_or]; exact ne16)
      have f24 : Exa Z h22 b15 "com/example/dissoc/dissoc/ranking/Found" := A15.keep K22
      have Zs25 : n0 ≤ h22.size := Nat.le_trans Zs21 K22.1
      show own_G p e below _ (T22.setTop (mkF m 85 #[.val (.int p0), .val (.int p1), .val (.int p2), .val (.int p3), .val (.int p4), .val (.int (0 : Int32)), .val (.ref b9), .val (.int vg12), .val (.int zj14), .unset, .unset, .unset] [(.ref b15)]))
      refine own_via (fun t k => XS.astore X22.here hx rfl (hb hby at_85) rfl rfl (l' := #[.val (.int p0), .val (.int p1), .val (.int p2), .val (.int p3), .val (.int p4), .val (.int (0 : Int32)), .val (.ref b9), .val (.int vg12), .val (.int zj14), .val (.ref b15), .unset, .unset]) rfl k) ?_
      show own_G p e below _ (T22.setTop (mkF m 87 #[.val (.int p0), .val (.int p1), .val (.int p2), .val (.int p3), .val (.int p4), .val (.int (0 : Int32)), .val (.ref b9), .val (.int vg12), .val (.int zj14), .val (.ref b15), .unset, .unset] []))
      refine own_via (fun t k => XS.iload X22.here hx rfl (hb hby at_87) rfl k) ?_
      show own_G p e below _ (T22.setTop (mkF m 89 #[.val (.int p0), .val (.int p1), .val (.int p2), .val (.int p3), .val (.int p4), .val (.int (0 : Int32)), .val (.ref b9), .val (.int vg12), .val (.int zj14), .val (.ref b15), .unset, .unset] [(.int zj14)]))
      refine own_via (fun t k => XS.iload X22.here hx rfl (hb hby at_89) rfl k) ?_
      show own_G p e below _ (T22.setTop (mkF m 91 #[.val (.int p0), .val (.int p1), .val (.int p2), .val (.int p3), .val (.int p4), .val (.int (0 : Int32)), .val (.ref b9), .val (.int vg12), .val (.int zj14), .val (.ref b15), .unset, .unset] [(.int (0 : Int32)), (.int zj14)]))
      have J26 : ∀ (TJ26 : State) (XJ26 : Stand p l e room_1 s m #[(.int p0), (.int p1), (.int p2), (.int p3), (.int p4)] below meth c TJ26 L22 2 3) (EJ26 : TJ26.heap = h22) (zj27 : Int32), zj27 = (if zj14 = (0 : Int32) then (1 : Int32) else (0 : Int32)) → own_G p e below (own_P s (own_W n0 (fun v _ => v = some (.int 1))) room_1.cells room_1.slots) (TJ26.setTop (mkF m 99 #[.val (.int p0), .val (.int p1), .val (.int p2), .val (.int p3), .val (.int p4), .val (.int (0 : Int32)), .val (.ref b9), .val (.int vg12), .val (.int zj14), .val (.ref b15), .unset, .unset] [(.int zj27)])) := by
        intro TJ26 XJ26 EJ26 zj27 hzj27
        refine own_via (fun t k => XS.istore XJ26.here hx rfl (hb hby at_99) rfl (l' := #[.val (.int p0), .val (.int p1), .val (.int p2), .val (.int p3), .val (.int p4), .val (.int (0 : Int32)), .val (.ref b9), .val (.int vg12), .val (.int zj14), .val (.ref b15), .val (.int zj27), .unset]) rfl k) ?_
        show own_G p e below _ (TJ26.setTop (mkF m 101 #[.val (.int p0), .val (.int p1), .val (.int p2), .val (.int p3), .val (.int p4), .val (.int (0 : Int32)), .val (.ref b9), .val (.int vg12), .val (.int zj14), .val (.ref b15), .val (.int zj27), .unset] []))
        obtain ⟨T28, h28, b28, X28, e28, E28, ga28, A28, D28, st28⟩ := own_newO XJ26 hx hZ hown (hw _ (List.mem_of_getElem? (i := 1) rfl)) (hw _ (List.mem_of_getElem? (i := 2) rfl)) (hw _ (List.mem_of_getElem? (i := 3) rfl)) EJ26 (pc := 101) (Ls := #[.val (.int p0), .val (.int p1), .val (.int p2), .val (.int p3), .val (.int p4), .val (.int (0 : Int32)), .val (.ref b9), .val (.int vg12), .val (.int zj14), .val (.ref b15), .val (.int zj27), .unset]) (rest := []) (hb hby at_101) (by decide) (by decide)
        refine own_via st28 ?_
        have ne29 : b9 ≠ b28 := Nat.ne_of_lt (Nat.lt_of_lt_of_le f23.lt (Nat.le_of_eq ga28.symm))
        have ne30 : b15 ≠ b28 := Nat.ne_of_lt (Nat.lt_of_lt_of_le o22_0.lt (Nat.le_of_eq ga28.symm))
        have f31 : Arv Z h28 b9 k9 .int (0 : Int32) [] (.int (0 : Int32)) := f23.ext E28
        have f32 : Exa Z h28 b15 "com/example/dissoc/dissoc/ranking/Found" := o22_0.ext E28
        have f33 : Fld Z h28 b15 "com/example/dissoc/dissoc/ranking/Found" "tuple" "I" (.int p0) := o22_1.ext E28
        have f34 : Fld Z h28 b15 "com/example/dissoc/dissoc/ranking/Found" "contingency" "[I" (.ref b9) := o22_2.ext E28
        have f35 : Fld Z h28 b15 "com/example/dissoc/dissoc/ranking/Found" "lowerBound" "I" (.int zj14) := o22_3.ext E28
        have f36 : Fld Z h28 b28 "com/example/dissoc/dissoc/ranking/Found" "tuple" "I" (.int (0 : Int32)) := D28 (Or.inr (hw _ (List.mem_of_getElem? (i := 16) rfl))) (ty := .int) (by decide)
        have f37 : Fld Z h28 b28 "com/example/dissoc/dissoc/ranking/Found" "contingency" "[I" .null := D28 (Or.inr (hw _ (List.mem_of_getElem? (i := 18) rfl))) (ty := (.array .int)) (by decide)
        have f38 : Fld Z h28 b28 "com/example/dissoc/dissoc/ranking/Found" "lowerBound" "I" (.int (0 : Int32)) := D28 (Or.inr (hw _ (List.mem_of_getElem? (i := 20) rfl))) (ty := .int) (by decide)
        have g_b28 : n0 ≤ b28 := Nat.le_trans Zs25 (Nat.le_of_eq ga28.symm)
        have Zs39 : n0 ≤ h28.size := Nat.le_trans Zs25 E28.1
        show own_G p e below _ (T28.setTop (mkF m 104 #[.val (.int p0), .val (.int p1), .val (.int p2), .val (.int p3), .val (.int p4), .val (.int (0 : Int32)), .val (.ref b9), .val (.int vg12), .val (.int zj14), .val (.ref b15), .val (.int zj27), .unset] [(.ref b28)]))
        refine own_via (fun t k => XS.dup X28.here hx rfl (hb hby at_104) rfl rfl k) ?_
        show own_G p e below _ (T28.setTop (mkF m 105 #[.val (.int p0), .val (.int p1), .val (.int p2), .val (.int p3), .val (.int p4), .val (.int (0 : Int32)), .val (.ref b9), .val (.int vg12), .val (.int zj14), .val (.ref b15), .val (.int zj27), .unset] [(.ref b28), (.ref b28)]))
        refine own_via (fun t k => XS.iloadN X28.here hx rfl (hb hby at_105) rfl k) ?_
        show own_G p e below _ (T28.setTop (mkF m 106 #[.val (.int p0), .val (.int p1), .val (.int p2), .val (.int p3), .val (.int p4), .val (.int (0 : Int32)), .val (.ref b9), .val (.int vg12), .val (.int zj14), .val (.ref b15), .val (.int zj27), .unset] [(.int p0), (.ref b28), (.ref b28)]))
        refine own_via (fun t k => XS.aload X28.here hx rfl (hb hby at_106) rfl rfl k) ?_
        show own_G p e below _ (T28.setTop (mkF m 108 #[.val (.int p0), .val (.int p1), .val (.int p2), .val (.int p3), .val (.int p4), .val (.int (0 : Int32)), .val (.ref b9), .val (.int vg12), .val (.int zj14), .val (.ref b15), .val (.int zj27), .unset] [(.ref b9), (.int p0), (.ref b28), (.ref b28)]))
        obtain ⟨v40, T40, h40, L40, X40, N40, e40, hq40, st40⟩ := own_callI (y := (⟨"com/example/dissoc/dissoc/ranking/Found", "<init>", "(I[I)V"⟩ : MethodName)) (W := 1) (a := b28) X28 N22 hx hZ rfl hown (hw _ (List.mem_of_getElem? (i := 21) rfl)) (hw _ (List.mem_of_getElem? (i := 22) rfl)) (hw _ (List.mem_of_getElem? (i := 3) rfl)) (hw _ (List.mem_of_getElem? (i := 23) rfl)) (by decide) (own_c2 l Z a0 hw [] b28 p0 b9 (.int (0 : Int32)) (.null) (.int (0 : Int32)) k9 (0 : Int32) [] (.int (0 : Int32)) h28 n0 Zs39 A28 f36 f37 f38 f31 g_b28) (by decide) (by decide) (by decide) (by decide) e28 (pc := 108) (Ls := #[.val (.int p0), .val (.int p1), .val (.int p2), .val (.int p3), .val (.int p4), .val (.int (0 : Int32)), .val (.ref b9), .val (.int vg12), .val (.int zj14), .val (.ref b15), .val (.int zj27), .unset]) (st := [(.ref b9), (.int p0), (.ref b28), (.ref b28)]) (argsL := [(.int p0), (.ref b9)]) (rest := [(.ref b28)]) (by rw [hml]; rfl) (lenOf own_pd2 rfl) rfl rfl (Nat.le_of_eq rfl) (hb hby at_108)
        obtain ⟨rfl, K40, o40_0, o40_1, o40_2, o40_3⟩ := hq40
        refine own_via st40 ?_
        have f41 : Arv Z h40 b9 k9 .int (0 : Int32) [] (.int (0 : Int32)) := f31.keep K40 (by simp only [List.mem_cons, List.not_mem_nil, or_false, not_or]; exact ne29)
        have f42 : Exa Z h40 b15 "com/example/dissoc/dissoc/ranking/Found" := f32.keep K40
        have f43 : Fld Z h40 b15 "com/example/dissoc/dissoc/ranking/Found" "tuple" "I" (.int p0) := f33.keep K40 (by simp only [List.mem_cons, List.not_mem_nil, or_false, not_or]; exact ne30)
        have f44 : Fld Z h40 b15 "com/example/dissoc/dissoc/ranking/Found" "contingency" "[I" (.ref b9) := f34.keep K40 (by simp only [List.mem_cons, List.not_mem_nil, or_false, not_or]; exact ne30)
        have f45 : Fld Z h40 b15 "com/example/dissoc/dissoc/ranking/Found" "lowerBound" "I" (.int zj14) := f35.keep K40 (by simp only [List.mem_cons, List.not_mem_nil, or_false, not_or]; exact ne30)
        have f46 : Exa Z h40 b28 "com/example/dissoc/dissoc/ranking/Found" := A28.keep K40
        have Zs47 : n0 ≤ h40.size := Nat.le_trans Zs39 K40.1
        show own_G p e below _ (T40.setTop (mkF m 111 #[.val (.int p0), .val (.int p1), .val (.int p2), .val (.int p3), .val (.int p4), .val (.int (0 : Int32)), .val (.ref b9), .val (.int vg12), .val (.int zj14), .val (.ref b15), .val (.int zj27), .unset] [(.ref b28)]))
        refine own_via (fun t k => XS.astore X40.here hx rfl (hb hby at_111) rfl rfl (l' := #[.val (.int p0), .val (.int p1), .val (.int p2), .val (.int p3), .val (.int p4), .val (.int (0 : Int32)), .val (.ref b9), .val (.int vg12), .val (.int zj14), .val (.ref b15), .val (.int zj27), .val (.ref b28)]) rfl k) ?_
        show own_G p e below _ (T40.setTop (mkF m 113 #[.val (.int p0), .val (.int p1), .val (.int p2), .val (.int p3), .val (.int p4), .val (.int (0 : Int32)), .val (.ref b9), .val (.int vg12), .val (.int zj14), .val (.ref b15), .val (.int zj27), .val (.ref b28)] []))
        refine own_via (fun t k => XS.aload X40.here hx rfl (hb hby at_113) rfl rfl k) ?_
        show own_G p e below _ (T40.setTop (mkF m 115 #[.val (.int p0), .val (.int p1), .val (.int p2), .val (.int p3), .val (.int p4), .val (.int (0 : Int32)), .val (.ref b9), .val (.int vg12), .val (.int zj14), .val (.ref b15), .val (.int zj27), .val (.ref b28)] [(.ref b15)]))
        obtain ⟨T48, X48, e48, st48⟩ := own_callVP (y := (⟨"com/example/dissoc/dissoc/ranking/Found", "exact", "()Z"⟩ : MethodName)) (z := (⟨"com/example/dissoc/dissoc/ranking/Found", "exact", "()Z"⟩ : MethodName)) (W := 0) (a := b15) X40 hx hZ hown (hw _ (List.mem_of_getElem? (i := 25) rfl)) (hw _ (List.mem_of_getElem? (i := 26) rfl)) (notFace_of_selects (args := #[]) (mvT hZ (hw _ (List.mem_of_getElem? (i := 28) rfl)))) (hw _ (List.mem_of_getElem? (i := 28) rfl)) (hw _ (List.mem_of_getElem? (i := 27) rfl)) (hw _ (List.mem_of_getElem? (i := 3) rfl)) (hw _ (List.mem_of_getElem? (i := 29) rfl)) (by decide) (own_ex l Z a0 hw [] b15 b9 zj14 k9 (0 : Int32) [] (.int (0 : Int32)) h40 f44 f45 f41) (by decide) (by decide) rfl rfl (by decide) (by decide) e40 f42 (pc := 115) (Ls := #[.val (.int p0), .val (.int p1), .val (.int p2), .val (.int p3), .val (.int p4), .val (.int (0 : Int32)), .val (.ref b9), .val (.int vg12), .val (.int zj14), .val (.ref b15), .val (.int zj27), .val (.ref b28)]) (st := [(.ref b15)]) (argsL := []) (rest := []) (by rw [hml]; rfl) (lenOf own_pd3 rfl) rfl rfl (Nat.le_of_eq rfl) (hb hby at_115)
        refine own_via st48 ?_
        show own_G p e below _ (T48.setTop (mkF m 118 #[.val (.int p0), .val (.int p1), .val (.int p2), .val (.int p3), .val (.int p4), .val (.int (0 : Int32)), .val (.ref b9), .val (.int vg12), .val (.int zj14), .val (.ref b15), .val (.int zj27), .val (.ref b28)] [(.int (own_Fex zj14 (0 : Int32)))]))
        refine own_via (fun t k => XS.iload X48.here hx rfl (hb hby at_118) rfl k) ?_
        show own_G p e below _ (T48.setTop (mkF m 120 #[.val (.int p0), .val (.int p1), .val (.int p2), .val (.int p3), .val (.int p4), .val (.int (0 : Int32)), .val (.ref b9), .val (.int vg12), .val (.int zj14), .val (.ref b15), .val (.int zj27), .val (.ref b28)] [(.int zj27), (.int (own_Fex zj14 (0 : Int32)))]))
        refine own_via (fun t k => XS.icmpNo X48.here hx rfl (hb hby at_120) rfl (teq (by subst hzj27; subst hzj14; subst hvg12; rfl)).2 k) ?_
        show own_G p e below _ (T48.setTop (mkF m 123 #[.val (.int p0), .val (.int p1), .val (.int p2), .val (.int p3), .val (.int p4), .val (.int (0 : Int32)), .val (.ref b9), .val (.int vg12), .val (.int zj14), .val (.ref b15), .val (.int zj27), .val (.ref b28)] []))
        refine own_via (fun t k => XS.aload X48.here hx rfl (hb hby at_123) rfl rfl k) ?_
        show own_G p e below _ (T48.setTop (mkF m 125 #[.val (.int p0), .val (.int p1), .val (.int p2), .val (.int p3), .val (.int p4), .val (.int (0 : Int32)), .val (.ref b9), .val (.int vg12), .val (.int zj14), .val (.ref b15), .val (.int zj27), .val (.ref b28)] [(.ref b28)]))
        obtain ⟨T49, X49, e49, st49⟩ := own_callVP (y := (⟨"com/example/dissoc/dissoc/ranking/Found", "exact", "()Z"⟩ : MethodName)) (z := (⟨"com/example/dissoc/dissoc/ranking/Found", "exact", "()Z"⟩ : MethodName)) (W := 0) (a := b28) X48 hx hZ hown (hw _ (List.mem_of_getElem? (i := 25) rfl)) (hw _ (List.mem_of_getElem? (i := 26) rfl)) (notFace_of_selects (args := #[]) (mvT hZ (hw _ (List.mem_of_getElem? (i := 28) rfl)))) (hw _ (List.mem_of_getElem? (i := 28) rfl)) (hw _ (List.mem_of_getElem? (i := 27) rfl)) (hw _ (List.mem_of_getElem? (i := 3) rfl)) (hw _ (List.mem_of_getElem? (i := 29) rfl)) (by decide) (own_ex l Z a0 hw [] b28 b9 (0 : Int32) k9 (0 : Int32) [] (.int (0 : Int32)) h40 o40_2 o40_3 f41) (by decide) (by decide) rfl rfl (by decide) (by decide) e48 o40_0 (pc := 125) (Ls := #[.val (.int p0), .val (.int p1), .val (.int p2), .val (.int p3), .val (.int p4), .val (.int (0 : Int32)), .val (.ref b9), .val (.int vg12), .val (.int zj14), .val (.ref b15), .val (.int zj27), .val (.ref b28)]) (st := [(.ref b28)]) (argsL := []) (rest := []) (by rw [hml]; rfl) (lenOf own_pd3 rfl) rfl rfl (Nat.le_of_eq rfl) (hb hby at_125)
        refine own_via st49 ?_
        show own_G p e below _ (T49.setTop (mkF m 128 #[.val (.int p0), .val (.int p1), .val (.int p2), .val (.int p3), .val (.int p4), .val (.int (0 : Int32)), .val (.ref b9), .val (.int vg12), .val (.int zj14), .val (.ref b15), .val (.int zj27), .val (.ref b28)] [(.int (own_Fex (0 : Int32) (0 : Int32)))]))
        refine own_via (fun t k => XS.ifNo X49.here hx rfl (hb hby at_128) rfl ((if0 _ _).trans (feq (by decide)).1) k) ?_
        show own_G p e below _ (T49.setTop (mkF m 131 #[.val (.int p0), .val (.int p1), .val (.int p2), .val (.int p3), .val (.int p4), .val (.int (0 : Int32)), .val (.ref b9), .val (.int vg12), .val (.int zj14), .val (.ref b15), .val (.int zj27), .val (.ref b28)] []))
        refine own_via (fun t k => XS.iconst X49.here hx rfl (hb hby at_131) k) ?_
        show own_G p e below _ (T49.setTop (mkF m 132 #[.val (.int p0), .val (.int p1), .val (.int p2), .val (.int p3), .val (.int p4), .val (.int (0 : Int32)), .val (.ref b9), .val (.int vg12), .val (.int zj14), .val (.ref b15), .val (.int zj27), .val (.ref b28)] [(.int (1 : Int32))]))
        refine own_via (fun t k => XS.goto X49.here hx rfl (pc0 := 132) (pc' := 136) rfl (hb hby at_132) (by decide) (by decide) k) ?_
        show own_G p e below _ (T49.setTop (mkF m 136 #[.val (.int p0), .val (.int p1), .val (.int p2), .val (.int p3), .val (.int p4), .val (.int (0 : Int32)), .val (.ref b9), .val (.int vg12), .val (.int zj14), .val (.ref b15), .val (.int zj27), .val (.ref b28)] [(.int (1 : Int32))]))
        exact own_retN (t := .boolean) X49 hx Bd.returns (by simp) Bd.notSynchronized (hb hby at_136) ⟨N40, rfl⟩ (by decide) (by decide)
      by_cases hc50 : zj14 = (0 : Int32)
      ·
        refine own_via (fun t k => XS.icmpNo X22.here hx rfl (hb hby at_91) rfl (teq hc50).2 k) ?_
        show own_G p e below _ (T22.setTop (mkF m 94 #[.val (.int p0), .val (.int p1), .val (.int p2), .val (.int p3), .val (.int p4), .val (.int (0 : Int32)), .val (.ref b9), .val (.int vg12), .val (.int zj14), .val (.ref b15), .unset, .unset] []))
        refine own_via (fun t k => XS.iconst X22.here hx rfl (hb hby at_94) k) ?_
        show own_G p e below _ (T22.setTop (mkF m 95 #[.val (.int p0), .val (.int p1), .val (.int p2), .val (.int p3), .val (.int p4), .val (.int (0 : Int32)), .val (.ref b9), .val (.int vg12), .val (.int zj14), .val (.ref b15), .unset, .unset] [(.int (1 : Int32))]))
        refine own_via (fun t k => XS.goto X22.here hx rfl (pc0 := 95) (pc' := 99) rfl (hb hby at_95) (by decide) (by decide) k) ?_
        show own_G p e below _ (T22.setTop (mkF m 99 #[.val (.int p0), .val (.int p1), .val (.int p2), .val (.int p3), .val (.int p4), .val (.int (0 : Int32)), .val (.ref b9), .val (.int vg12), .val (.int zj14), .val (.ref b15), .unset, .unset] [(.int (1 : Int32))]))
        exact J26 _ X22 e22 _ (by simp only [if_pos hc50])
      ·
        refine own_via (fun t k => XS.icmpYes X22.here hx rfl (pc0 := 91) (pc' := 98) rfl (hb hby at_91) rfl (feq hc50).2 (by decide) (by decide) k) ?_
        show own_G p e below _ (T22.setTop (mkF m 98 #[.val (.int p0), .val (.int p1), .val (.int p2), .val (.int p3), .val (.int p4), .val (.int (0 : Int32)), .val (.ref b9), .val (.int vg12), .val (.int zj14), .val (.ref b15), .unset, .unset] []))
        refine own_via (fun t k => XS.iconst X22.here hx rfl (hb hby at_98) k) ?_
        show own_G p e below _ (T22.setTop (mkF m 99 #[.val (.int p0), .val (.int p1), .val (.int p2), .val (.int p3), .val (.int p4), .val (.int (0 : Int32)), .val (.ref b9), .val (.int vg12), .val (.int zj14), .val (.ref b15), .unset, .unset] [(.int (0 : Int32))]))
        exact J26 _ X22 e22 _ (by simp only [if_neg hc50])
    by_cases hc51 : vg12 = (0 : Int32)
    ·
      refine own_via (fun t k => XS.ifNo X9.here hx rfl (hb hby at_30) rfl ((if0 _ _).trans (teq hc51).2) k) ?_
      show own_G p e below _ (T9.setTop (mkF m 33 #[.val (.int p0), .val (.int p1), .val (.int p2), .val (.int p3), .val (.int p4), .val (.int (0 : Int32)), .val (.ref b9), .val (.int vg12), .unset, .unset, .unset, .unset] []))
      refine own_via (fun t k => XS.iload X9.here hx rfl (hb hby at_33) rfl k) ?_
      show own_G p e below _ (T9.setTop (mkF m 35 #[.val (.int p0), .val (.int p1), .val (.int p2), .val (.int p3), .val (.int p4), .val (.int (0 : Int32)), .val (.ref b9), .val (.int vg12), .unset, .unset, .unset, .unset] [(.int (0 : Int32))]))
      refine own_via (fun t k => XS.istore X9.here hx rfl (hb hby at_35) rfl (l' := #[.val (.int p0), .val (.int p1), .val (.int p2), .val (.int p3), .val (.int p4), .val (.int (0 : Int32)), .val (.ref b9), .val (.int vg12), .val (.int (0 : Int32)), .unset, .unset, .unset]) rfl k) ?_
      show own_G p e below _ (T9.setTop (mkF m 37 #[.val (.int p0), .val (.int p1), .val (.int p2), .val (.int p3), .val (.int p4), .val (.int (0 : Int32)), .val (.ref b9), .val (.int vg12), .val (.int (0 : Int32)), .unset, .unset, .unset] []))
      refine own_via (fun t k => XS.goto X9.here hx rfl (pc0 := 37) (pc' := 73) rfl (hb hby at_37) (by decide) (by decide) k) ?_
      show own_G p e below _ (T9.setTop (mkF m 73 #[.val (.int p0), .val (.int p1), .val (.int p2), .val (.int p3), .val (.int p4), .val (.int (0 : Int32)), .val (.ref b9), .val (.int vg12), .val (.int (0 : Int32)), .unset, .unset, .unset] []))
      exact J13 _ X9 e9 _ (by simp only [if_pos hc51])
    ·
      refine own_via (fun t k => XS.ifYes X9.here hx rfl (pc0 := 30) (pc' := 40) rfl (hb hby at_30) rfl ((if0 _ _).trans (feq hc51).2) (by decide) (by decide) k) ?_
      show own_G p e below _ (T9.setTop (mkF m 40 #[.val (.int p0), .val (.int p1), .val (.int p2), .val (.int p3), .val (.int p4), .val (.int (0 : Int32)), .val (.ref b9), .val (.int vg12), .unset, .unset, .unset, .unset] []))
      refine own_via (fun t k => XS.iload X9.here hx rfl (hb hby at_40) rfl k) ?_
      show own_G p e below _ (T9.setTop (mkF m 42 #[.val (.int p0), .val (.int p1), .val (.int p2), .val (.int p3), .val (.int p4), .val (.int (0 : Int32)), .val (.ref b9), .val (.int vg12), .unset, .unset, .unset, .unset] [(.int vg12)]))
      refine own_via (fun t k => XS.iconst X9.here hx rfl (hb hby at_42) k) ?_
      show own_G p e below _ (T9.setTop (mkF m 43 #[.val (.int p0), .val (.int p1), .val (.int p2), .val (.int p3), .val (.int p4), .val (.int (0 : Int32)), .val (.ref b9), .val (.int vg12), .unset, .unset, .unset, .unset] [(.int (1 : Int32)), (.int vg12)]))
      by_cases hc52 : vg12 = (1 : Int32)
      ·
        refine own_via (fun t k => XS.icmpNo X9.here hx rfl (hb hby at_43) rfl (teq hc52).2 k) ?_
        show own_G p e below _ (T9.setTop (mkF m 46 #[.val (.int p0), .val (.int p1), .val (.int p2), .val (.int p3), .val (.int p4), .val (.int (0 : Int32)), .val (.ref b9), .val (.int vg12), .unset, .unset, .unset, .unset] []))
        refine own_via (fun t k => XS.iload X9.here hx rfl (hb hby at_46) rfl k) ?_
        show own_G p e below _ (T9.setTop (mkF m 48 #[.val (.int p0), .val (.int p1), .val (.int p2), .val (.int p3), .val (.int p4), .val (.int (0 : Int32)), .val (.ref b9), .val (.int vg12), .unset, .unset, .unset, .unset] [(.int (0 : Int32))]))
        refine own_via (fun t k => XS.iconst X9.here hx rfl (hb hby at_48) k) ?_
        show own_G p e below _ (T9.setTop (mkF m 49 #[.val (.int p0), .val (.int p1), .val (.int p2), .val (.int p3), .val (.int p4), .val (.int (0 : Int32)), .val (.ref b9), .val (.int vg12), .unset, .unset, .unset, .unset] [(.int (1 : Int32)), (.int (0 : Int32))]))
        refine own_via (fun t k => XS.isub X9.here hx rfl (hb hby at_49) rfl k) ?_
        show own_G p e below _ (T9.setTop (mkF m 50 #[.val (.int p0), .val (.int p1), .val (.int p2), .val (.int p3), .val (.int p4), .val (.int (0 : Int32)), .val (.ref b9), .val (.int vg12), .unset, .unset, .unset, .unset] [(.int (-1 : Int32))]))
        refine own_via (fun t k => XS.istore X9.here hx rfl (hb hby at_50) rfl (l' := #[.val (.int p0), .val (.int p1), .val (.int p2), .val (.int p3), .val (.int p4), .val (.int (0 : Int32)), .val (.ref b9), .val (.int vg12), .val (.int (-1 : Int32)), .unset, .unset, .unset]) rfl k) ?_
        show own_G p e below _ (T9.setTop (mkF m 52 #[.val (.int p0), .val (.int p1), .val (.int p2), .val (.int p3), .val (.int p4), .val (.int (0 : Int32)), .val (.ref b9), .val (.int vg12), .val (.int (-1 : Int32)), .unset, .unset, .unset] []))
        refine own_via (fun t k => XS.goto X9.here hx rfl (pc0 := 52) (pc' := 73) rfl (hb hby at_52) (by decide) (by decide) k) ?_
        show own_G p e below _ (T9.setTop (mkF m 73 #[.val (.int p0), .val (.int p1), .val (.int p2), .val (.int p3), .val (.int p4), .val (.int (0 : Int32)), .val (.ref b9), .val (.int vg12), .val (.int (-1 : Int32)), .unset, .unset, .unset] []))
        exact J13 _ X9 e9 _ (by simp only [if_neg hc51, if_pos hc52])
      ·
        refine own_via (fun t k => XS.icmpYes X9.here hx rfl (pc0 := 43) (pc' := 55) rfl (hb hby at_43) rfl (feq hc52).2 (by decide) (by decide) k) ?_
        show own_G p e below _ (T9.setTop (mkF m 55 #[.val (.int p0), .val (.int p1), .val (.int p2), .val (.int p3), .val (.int p4), .val (.int (0 : Int32)), .val (.ref b9), .val (.int vg12), .unset, .unset, .unset, .unset] []))
        refine own_via (fun t k => XS.iload X9.here hx rfl (hb hby at_55) rfl k) ?_
        show own_G p e below _ (T9.setTop (mkF m 57 #[.val (.int p0), .val (.int p1), .val (.int p2), .val (.int p3), .val (.int p4), .val (.int (0 : Int32)), .val (.ref b9), .val (.int vg12), .unset, .unset, .unset, .unset] [(.int vg12)]))
        refine own_via (fun t k => XS.iconst X9.here hx rfl (hb hby at_57) k) ?_
        show own_G p e below _ (T9.setTop (mkF m 58 #[.val (.int p0), .val (.int p1), .val (.int p2), .val (.int p3), .val (.int p4), .val (.int (0 : Int32)), .val (.ref b9), .val (.int vg12), .unset, .unset, .unset, .unset] [(.int (2 : Int32)), (.int vg12)]))
        by_cases hc53 : vg12 = (2 : Int32)
        ·
          refine own_via (fun t k => XS.icmpNo X9.here hx rfl (hb hby at_58) rfl (teq hc53).2 k) ?_
          show own_G p e below _ (T9.setTop (mkF m 61 #[.val (.int p0), .val (.int p1), .val (.int p2), .val (.int p3), .val (.int p4), .val (.int (0 : Int32)), .val (.ref b9), .val (.int vg12), .unset, .unset, .unset, .unset] []))
          refine own_via (fun t k => XS.iload X9.here hx rfl (hb hby at_61) rfl k) ?_
          show own_G p e below _ (T9.setTop (mkF m 63 #[.val (.int p0), .val (.int p1), .val (.int p2), .val (.int p3), .val (.int p4), .val (.int (0 : Int32)), .val (.ref b9), .val (.int vg12), .unset, .unset, .unset, .unset] [(.int (0 : Int32))]))
          refine own_via (fun t k => XS.iconst X9.here hx rfl (hb hby at_63) k) ?_
          show own_G p e below _ (T9.setTop (mkF m 64 #[.val (.int p0), .val (.int p1), .val (.int p2), .val (.int p3), .val (.int p4), .val (.int (0 : Int32)), .val (.ref b9), .val (.int vg12), .unset, .unset, .unset, .unset] [(.int (1 : Int32)), (.int (0 : Int32))]))
          refine own_via (fun t k => XS.iadd X9.here hx rfl (hb hby at_64) rfl k) ?_
          show own_G p e below _ (T9.setTop (mkF m 65 #[.val (.int p0), .val (.int p1), .val (.int p2), .val (.int p3), .val (.int p4), .val (.int (0 : Int32)), .val (.ref b9), .val (.int vg12), .unset, .unset, .unset, .unset] [(.int (1 : Int32))]))
          refine own_via (fun t k => XS.istore X9.here hx rfl (hb hby at_65) rfl (l' := #[.val (.int p0), .val (.int p1), .val (.int p2), .val (.int p3), .val (.int p4), .val (.int (0 : Int32)), .val (.ref b9), .val (.int vg12), .val (.int (1 : Int32)), .unset, .unset, .unset]) rfl k) ?_
          show own_G p e below _ (T9.setTop (mkF m 67 #[.val (.int p0), .val (.int p1), .val (.int p2), .val (.int p3), .val (.int p4), .val (.int (0 : Int32)), .val (.ref b9), .val (.int vg12), .val (.int (1 : Int32)), .unset, .unset, .unset] []))
          refine own_via (fun t k => XS.goto X9.here hx rfl (pc0 := 67) (pc' := 73) rfl (hb hby at_67) (by decide) (by decide) k) ?_
          show own_G p e below _ (T9.setTop (mkF m 73 #[.val (.int p0), .val (.int p1), .val (.int p2), .val (.int p3), .val (.int p4), .val (.int (0 : Int32)), .val (.ref b9), .val (.int vg12), .val (.int (1 : Int32)), .unset, .unset, .unset] []))
          exact J13 _ X9 e9 _ (by simp only [if_neg hc51, if_neg hc52, if_pos hc53])
        ·
          refine own_via (fun t k => XS.icmpYes X9.here hx rfl (pc0 := 58) (pc' := 70) rfl (hb hby at_58) rfl (feq hc53).2 (by decide) (by decide) k) ?_
          show own_G p e below _ (T9.setTop (mkF m 70 #[.val (.int p0), .val (.int p1), .val (.int p2), .val (.int p3), .val (.int p4), .val (.int (0 : Int32)), .val (.ref b9), .val (.int vg12), .unset, .unset, .unset, .unset] []))
          refine own_via (fun t k => XS.iloadN X9.here hx rfl (hb hby at_70) rfl k) ?_
          show own_G p e below _ (T9.setTop (mkF m 71 #[.val (.int p0), .val (.int p1), .val (.int p2), .val (.int p3), .val (.int p4), .val (.int (0 : Int32)), .val (.ref b9), .val (.int vg12), .unset, .unset, .unset, .unset] [(.int p2)]))
          refine own_via (fun t k => XS.istore X9.here hx rfl (hb hby at_71) rfl (l' := #[.val (.int p0), .val (.int p1), .val (.int p2), .val (.int p3), .val (.int p4), .val (.int (0 : Int32)), .val (.ref b9), .val (.int vg12), .val (.int p2), .unset, .unset, .unset]) rfl k) ?_
          show own_G p e below _ (T9.setTop (mkF m 73 #[.val (.int p0), .val (.int p1), .val (.int p2), .val (.int p3), .val (.int p4), .val (.int (0 : Int32)), .val (.ref b9), .val (.int vg12), .val (.int p2), .unset, .unset, .unset] []))
          exact J13 _ X9 e9 _ (by simp only [if_neg hc51, if_neg hc52, if_neg hc53])
  ·
    rw [hs2]
    show own_G p e below _ (s₁.setTop (mkF m 4 #[.val (.int p0), .val (.int p1), .val (.int p2), .val (.int p3), .val (.int p4), .unset, .unset, .unset, .unset, .unset, .unset, .unset] [(.int (1 : Int32))]))
    refine own_via (fun t k => XS.istore X0.here hx rfl (hb hby at_4) rfl (l' := #[.val (.int p0), .val (.int p1), .val (.int p2), .val (.int p3), .val (.int p4), .val (.int (1 : Int32)), .unset, .unset, .unset, .unset, .unset, .unset]) rfl k) ?_
    show own_G p e below _ (s₁.setTop (mkF m 6 #[.val (.int p0), .val (.int p1), .val (.int p2), .val (.int p3), .val (.int p4), .val (.int (1 : Int32)), .unset, .unset, .unset, .unset, .unset, .unset] []))
    refine own_via (fun t k => XS.iload X0.here hx rfl (hb hby at_6) rfl k) ?_
    show own_G p e below _ (s₁.setTop (mkF m 8 #[.val (.int p0), .val (.int p1), .val (.int p2), .val (.int p3), .val (.int p4), .val (.int (1 : Int32)), .unset, .unset, .unset, .unset, .unset, .unset] [(.int (1 : Int32))]))
    obtain ⟨T54, h54, k54, b54, X54, e54, E54, ga54, V54, Ex54, st54⟩ := own_newA X0 hx hZ (hw _ (List.mem_of_getElem? (i := 0) rfl)) e0 (pc := 8) (Ls := #[.val (.int p0), .val (.int p1), .val (.int p2), .val (.int p3), .val (.int p4), .val (.int (1 : Int32)), .unset, .unset, .unset, .unset, .unset, .unset]) (rest := []) (hb hby at_8) (n := (1 : Int32)) (by decide) (cap := 1) (by decide) (by decide) (by decide) (by decide) 1 rfl
    refine own_via st54 ?_
    have f55 : Arv Z h54 b54 k54 .int (1 : Int32) [(.int (0 : Int32))] (.int (0 : Int32)) := V54
    have g_b54 : n0 ≤ b54 := Nat.le_trans Z0 (Nat.le_of_eq ga54.symm)
    have Zs56 : n0 ≤ h54.size := Nat.le_trans Z0 E54.1
    show own_G p e below _ (T54.setTop (mkF m 10 #[.val (.int p0), .val (.int p1), .val (.int p2), .val (.int p3), .val (.int p4), .val (.int (1 : Int32)), .unset, .unset, .unset, .unset, .unset, .unset] [(.ref b54)]))
    refine own_via (fun t k => XS.astore X54.here hx rfl (hb hby at_10) rfl rfl (l' := #[.val (.int p0), .val (.int p1), .val (.int p2), .val (.int p3), .val (.int p4), .val (.int (1 : Int32)), .val (.ref b54), .unset, .unset, .unset, .unset, .unset]) rfl k) ?_
    show own_G p e below _ (T54.setTop (mkF m 12 #[.val (.int p0), .val (.int p1), .val (.int p2), .val (.int p3), .val (.int p4), .val (.int (1 : Int32)), .val (.ref b54), .unset, .unset, .unset, .unset, .unset] []))
    refine own_via (fun t k => XS.iload X54.here hx rfl (hb hby at_12) rfl k) ?_
    show own_G p e below _ (T54.setTop (mkF m 14 #[.val (.int p0), .val (.int p1), .val (.int p2), .val (.int p3), .val (.int p4), .val (.int (1 : Int32)), .val (.ref b54), .unset, .unset, .unset, .unset, .unset] [(.int (1 : Int32))]))
    refine own_via (fun t k => XS.ifNo X54.here hx rfl (hb hby at_14) rfl ((if0 _ _).trans (tlt (by decide : (0 : Int32) < (1 : Int32))).2.2.2) k) ?_
    show own_G p e below _ (T54.setTop (mkF m 17 #[.val (.int p0), .val (.int p1), .val (.int p2), .val (.int p3), .val (.int p4), .val (.int (1 : Int32)), .val (.ref b54), .unset, .unset, .unset, .unset, .unset] []))
    refine own_via (fun t k => XS.aload X54.here hx rfl (hb hby at_17) rfl rfl k) ?_
    show own_G p e below _ (T54.setTop (mkF m 19 #[.val (.int p0), .val (.int p1), .val (.int p2), .val (.int p3), .val (.int p4), .val (.int (1 : Int32)), .val (.ref b54), .unset, .unset, .unset, .unset, .unset] [(.ref b54)]))
    refine own_via (fun t k => XS.iconst X54.here hx rfl (hb hby at_19) k) ?_
    show own_G p e below _ (T54.setTop (mkF m 20 #[.val (.int p0), .val (.int p1), .val (.int p2), .val (.int p3), .val (.int p4), .val (.int (1 : Int32)), .val (.ref b54), .unset, .unset, .unset, .unset, .unset] [(.int (0 : Int32)), (.ref b54)]))
    refine own_via (fun t k => XS.iload X54.here hx rfl (hb hby at_20) rfl k) ?_
    show own_G p e below _ (T54.setTop (mkF m 22 #[.val (.int p0), .val (.int p1), .val (.int p2), .val (.int p3), .val (.int p4), .val (.int (1 : Int32)), .val (.ref b54), .unset, .unset, .unset, .unset, .unset] [(.int p4), (.int (0 : Int32)), (.ref b54)]))
    obtain ⟨T57, h57, L57, X57, N57, e57, W57, V57, st57⟩ := own_stI X54 N0 hx hZ e54 f55 g_b54 (j := (0 : Int32)) (x := p4) (i := 0) ⟨by decide, by decide⟩ rfl (Nat.le_of_ble_eq_true rfl) (pc := 22) (Ls := #[.val (.int p0), .val (.int p1), .val (.int p2), .val (.int p3), .val (.int p4), .val (.int (1 : Int32)), .val (.ref b54), .unset, .unset, .unset, .unset, .unset]) (rest := []) (hb hby at_22)
    refine own_via st57 ?_
    have f58 : Arv Z h57 b54 k54 .int (1 : Int32) [(.int p4)] (.int (0 : Int32)) := V57
    have Zs59 : n0 ≤ h57.size := by rw [W57.size]; exact Zs56
    show own_G p e below _ (T57.setTop (mkF m 23 #[.val (.int p0), .val (.int p1), .val (.int p2), .val (.int p3), .val (.int p4), .val (.int (1 : Int32)), .val (.ref b54), .unset, .unset, .unset, .unset, .unset] []))
    refine own_via (fun t k => XS.iloadN X57.here hx rfl (hb hby at_23) rfl k) ?_
    show own_G p e below _ (T57.setTop (mkF m 24 #[.val (.int p0), .val (.int p1), .val (.int p2), .val (.int p3), .val (.int p4), .val (.int (1 : Int32)), .val (.ref b54), .unset, .unset, .unset, .unset, .unset] [(.int p3)]))
    refine own_via (fun t k => XS.iconst X57.here hx rfl (hb hby at_24) k) ?_
    show own_G p e below _ (T57.setTop (mkF m 25 #[.val (.int p0), .val (.int p1), .val (.int p2), .val (.int p3), .val (.int p4), .val (.int (1 : Int32)), .val (.ref b54), .unset, .unset, .unset, .unset, .unset] [(.int (3 : Int32)), (.int p3)]))
    refine own_via (fun t k => XS.iand X57.here hx rfl (hb hby at_25) rfl k) ?_
    show own_G p e below _ (T57.setTop (mkF m 26 #[.val (.int p0), .val (.int p1), .val (.int p2), .val (.int p3), .val (.int p4), .val (.int (1 : Int32)), .val (.ref b54), .unset, .unset, .unset, .unset, .unset] [(.int (p3 &&& (3 : Int32)))]))
    generalize hvg60 : (p3 &&& (3 : Int32)) = vg60
    show own_G p e below _ (T57.setTop (mkF m 26 #[.val (.int p0), .val (.int p1), .val (.int p2), .val (.int p3), .val (.int p4), .val (.int (1 : Int32)), .val (.ref b54), .unset, .unset, .unset, .unset, .unset] [(.int vg60)]))
    refine own_via (fun t k => XS.istore X57.here hx rfl (hb hby at_26) rfl (l' := #[.val (.int p0), .val (.int p1), .val (.int p2), .val (.int p3), .val (.int p4), .val (.int (1 : Int32)), .val (.ref b54), .val (.int vg60), .unset, .unset, .unset, .unset]) rfl k) ?_
    show own_G p e below _ (T57.setTop (mkF m 28 #[.val (.int p0), .val (.int p1), .val (.int p2), .val (.int p3), .val (.int p4), .val (.int (1 : Int32)), .val (.ref b54), .val (.int vg60), .unset, .unset, .unset, .unset] []))
    refine own_via (fun t k => XS.iload X57.here hx rfl (hb hby at_28) rfl k) ?_
    show own_G p e below _ (T57.setTop (mkF m 30 #[.val (.int p0), .val (.int p1), .val (.int p2), .val (.int p3), .val (.int p4), .val (.int (1 : Int32)), .val (.ref b54), .val (.int vg60), .unset, .unset, .unset, .unset] [(.int vg60)]))
    have J61 : ∀ (TJ61 : State) (XJ61 : Stand p l e room_1 s m #[(.int p0), (.int p1), (.int p2), (.int p3), (.int p4)] below meth c TJ61 L57 1 1) (EJ61 : TJ61.heap = h57) (zj62 : Int32), zj62 = (if vg60 = (0 : Int32) then (1 : Int32) else (if vg60 = (1 : Int32) then (0 : Int32) else (if vg60 = (2 : Int32) then (2 : Int32) else p2))) → own_G p e below (own_P s (own_W n0 (fun v _ => v = some (.int 1))) room_1.cells room_1.slots) (TJ61.setTop (mkF m 73 #[.val (.int p0), .val (.int p1), .val (.int p2), .val (.int p3), .val (.int p4), .val (.int (1 : Int32)), .val (.ref b54), .val (.int vg60), .val (.int zj62), .unset, .unset, .unset] [])) := by
      intro TJ61 XJ61 EJ61 zj62 hzj62
      obtain ⟨T63, h63, b63, X63, e63, E63, ga63, A63, D63, st63⟩ := own_newO XJ61 hx hZ hown (hw _ (List.mem_of_getElem? (i := 1) rfl)) (hw _ (List.mem_of_getElem? (i := 2) rfl)) (hw _ (List.mem_of_getElem? (i := 3) rfl)) EJ61 (pc := 73) (Ls := #[.val (.int p0), .val (.int p1), .val (.int p2), .val (.int p3), .val (.int p4), .val (.int (1 : Int32)), .val (.ref b54), .val (.int vg60), .val (.int zj62), .unset, .unset, .unset]) (rest := []) (hb hby at_73) (by decide) (by decide)
      refine own_via st63 ?_
      have ne64 : b54 ≠ b63 := Nat.ne_of_lt (Nat.lt_of_lt_of_le f58.lt (Nat.le_of_eq ga63.symm))
      have f65 : Arv Z h63 b54 k54 .int (1 : Int32) [(.int p4)] (.int (0 : Int32)) := f58.ext E63
      have f66 : Fld Z h63 b63 "com/example/dissoc/dissoc/ranking/Found" "tuple" "I" (.int (0 : Int32)) := D63 (Or.inr (hw _ (List.mem_of_getElem? (i := 16) rfl))) (ty := .int) (by decide)
      have f67 : Fld Z h63 b63 "com/example/dissoc/dissoc/ranking/Found" "contingency" "[I" .null := D63 (Or.inr (hw _ (List.mem_of_getElem? (i := 18) rfl))) (ty := (.array .int)) (by decide)
      have f68 : Fld Z h63 b63 "com/example/dissoc/dissoc/ranking/Found" "lowerBound" "I" (.int (0 : Int32)) := D63 (Or.inr (hw _ (List.mem_of_getElem? (i := 20) rfl))) (ty := .int) (by decide)
      have g_b63 : n0 ≤ b63 := Nat.le_trans Zs59 (Nat.le_of_eq ga63.symm)
      have Zs69 : n0 ≤ h63.size := Nat.le_trans Zs59 E63.1
      show own_G p e below _ (T63.setTop (mkF m 76 #[.val (.int p0), .val (.int p1), .val (.int p2), .val (.int p3), .val (.int p4), .val (.int (1 : Int32)), .val (.ref b54), .val (.int vg60), .val (.int zj62), .unset, .unset, .unset] [(.ref b63)]))
      refine own_via (fun t k => XS.dup X63.here hx rfl (hb hby at_76) rfl rfl k) ?_
      show own_G p e below _ (T63.setTop (mkF m 77 #[.val (.int p0), .val (.int p1), .val (.int p2), .val (.int p3), .val (.int p4), .val (.int (1 : Int32)), .val (.ref b54), .val (.int vg60), .val (.int zj62), .unset, .unset, .unset] [(.ref b63), (.ref b63)]))
      refine own_via (fun t k => XS.iloadN X63.here hx rfl (hb hby at_77) rfl k) ?_
      show own_G p e below _ (T63.setTop (mkF m 78 #[.val (.int p0), .val (.int p1), .val (.int p2), .val (.int p3), .val (.int p4), .val (.int (1 : Int32)), .val (.ref b54), .val (.int vg60), .val (.int zj62), .unset, .unset, .unset] [(.int p0), (.ref b63), (.ref b63)]))
      refine own_via (fun t k => XS.aload X63.here hx rfl (hb hby at_78) rfl rfl k) ?_
      show own_G p e below _ (T63.setTop (mkF m 80 #[.val (.int p0), .val (.int p1), .val (.int p2), .val (.int p3), .val (.int p4), .val (.int (1 : Int32)), .val (.ref b54), .val (.int vg60), .val (.int zj62), .unset, .unset, .unset] [(.ref b54), (.int p0), (.ref b63), (.ref b63)]))
      refine own_via (fun t k => XS.iload X63.here hx rfl (hb hby at_80) rfl k) ?_
      show own_G p e below _ (T63.setTop (mkF m 82 #[.val (.int p0), .val (.int p1), .val (.int p2), .val (.int p3), .val (.int p4), .val (.int (1 : Int32)), .val (.ref b54), .val (.int vg60), .val (.int zj62), .unset, .unset, .unset] [(.int zj62), (.ref b54), (.int p0), (.ref b63), (.ref b63)]))
      obtain ⟨v70, T70, h70, L70, X70, N70, e70, hq70, st70⟩ := own_callI (y := (⟨"com/example/dissoc/dissoc/ranking/Found", "<init>", "(I[II)V"⟩ : MethodName)) (W := 1) (a := b63) X63 N57 hx hZ rfl hown (hw _ (List.mem_of_getElem? (i := 4) rfl)) (hw _ (List.mem_of_getElem? (i := 5) rfl)) (hw _ (List.mem_of_getElem? (i := 3) rfl)) (hw _ (List.mem_of_getElem? (i := 6) rfl)) (by decide) (own_c3 l Z a0 hw [] b63 p0 b54 zj62 (.int (0 : Int32)) (.null) (.int (0 : Int32)) h63 n0 Zs69 A63 f66 f67 f68 g_b63) (by decide) (by decide) (by decide) (by decide) e63 (pc := 82) (Ls := #[.val (.int p0), .val (.int p1), .val (.int p2), .val (.int p3), .val (.int p4), .val (.int (1 : Int32)), .val (.ref b54), .val (.int vg60), .val (.int zj62), .unset, .unset, .unset]) (st := [(.int zj62), (.ref b54), (.int p0), (.ref b63), (.ref b63)]) (argsL := [(.int p0), (.ref b54), (.int zj62)]) (rest := [(.ref b63)]) (by rw [hml]; rfl) (lenOf own_pd1 rfl) rfl rfl (Nat.le_of_eq rfl) (hb hby at_82)
      obtain ⟨rfl, K70, o70_0, o70_1, o70_2, o70_3⟩ := hq70
      refine own_via st70 ?_
      have f71 : Arv Z h70 b54 k54 .int (1 : Int32) [(.int p4)] (.int (0 : Int32)) := f65.keep K70 (by simp only [List.mem_cons, List.not_mem_nil, or_false, not_or]; exact ne64)
      have f72 : Exa Z h70 b63 "com/example/dissoc/dissoc/ranking/Found" := A63.keep K70
      have Zs73 : n0 ≤ h70.size := Nat.le_trans Zs69 K70.1
      show own_G p e below _ (T70.setTop (mkF m 85 #[.val (.int p0), .val (.int p1), .val (.int p2), .val (.int p3), .val (.int p4), .val (.int (1 : Int32)), .val (.ref b54), .val (.int vg60), .val (.int zj62), .unset, .unset, .unset] [(.ref b63)]))
      refine own_via (fun t k => XS.astore X70.here hx rfl (hb hby at_85) rfl rfl (l' := #[.val (.int p0), .val (.int p1), .val (.int p2), .val (.int p3), .val (.int p4), .val (.int (1 : Int32)), .val (.ref b54), .val (.int vg60), .val (.int zj62), .val (.ref b63), .unset, .unset]) rfl k) ?_
      show own_G p e below _ (T70.setTop (mkF m 87 #[.val (.int p0), .val (.int p1), .val (.int p2), .val (.int p3), .val (.int p4), .val (.int (1 : Int32)), .val (.ref b54), .val (.int vg60), .val (.int zj62), .val (.ref b63), .unset, .unset] []))
      refine own_via (fun t k => XS.iload X70.here hx rfl (hb hby at_87) rfl k) ?_
      show own_G p e below _ (T70.setTop (mkF m 89 #[.val (.int p0), .val (.int p1), .val (.int p2), .val (.int p3), .val (.int p4), .val (.int (1 : Int32)), .val (.ref b54), .val (.int vg60), .val (.int zj62), .val (.ref b63), .unset, .unset] [(.int zj62)]))
      refine own_via (fun t k => XS.iload X70.here hx rfl (hb hby at_89) rfl k) ?_
      show own_G p e below _ (T70.setTop (mkF m 91 #[.val (.int p0), .val (.int p1), .val (.int p2), .val (.int p3), .val (.int p4), .val (.int (1 : Int32)), .val (.ref b54), .val (.int vg60), .val (.int zj62), .val (.ref b63), .unset, .unset] [(.int (1 : Int32)), (.int zj62)]))
      have J74 : ∀ (TJ74 : State) (XJ74 : Stand p l e room_1 s m #[(.int p0), (.int p1), (.int p2), (.int p3), (.int p4)] below meth c TJ74 L70 2 4) (EJ74 : TJ74.heap = h70) (zj75 : Int32), zj75 = (if zj62 = (1 : Int32) then (1 : Int32) else (0 : Int32)) → own_G p e below (own_P s (own_W n0 (fun v _ => v = some (.int 1))) room_1.cells room_1.slots) (TJ74.setTop (mkF m 99 #[.val (.int p0), .val (.int p1), .val (.int p2), .val (.int p3), .val (.int p4), .val (.int (1 : Int32)), .val (.ref b54), .val (.int vg60), .val (.int zj62), .val (.ref b63), .unset, .unset] [(.int zj75)])) := by
        intro TJ74 XJ74 EJ74 zj75 hzj75
        refine own_via (fun t k => XS.istore XJ74.here hx rfl (hb hby at_99) rfl (l' := #[.val (.int p0), .val (.int p1), .val (.int p2), .val (.int p3), .val (.int p4), .val (.int (1 : Int32)), .val (.ref b54), .val (.int vg60), .val (.int zj62), .val (.ref b63), .val (.int zj75), .unset]) rfl k) ?_
        show own_G p e below _ (TJ74.setTop (mkF m 101 #[.val (.int p0), .val (.int p1), .val (.int p2), .val (.int p3), .val (.int p4), .val (.int (1 : Int32)), .val (.ref b54), .val (.int vg60), .val (.int zj62), .val (.ref b63), .val (.int zj75), .unset] []))
        obtain ⟨T76, h76, b76, X76, e76, E76, ga76, A76, D76, st76⟩ := own_newO XJ74 hx hZ hown (hw _ (List.mem_of_getElem? (i := 1) rfl)) (hw _ (List.mem_of_getElem? (i := 2) rfl)) (hw _ (List.mem_of_getElem? (i := 3) rfl)) EJ74 (pc := 101) (Ls := #[.val (.int p0), .val (.int p1), .val (.int p2), .val (.int p3), .val (.int p4), .val (.int (1 : Int32)), .val (.ref b54), .val (.int vg60), .val (.int zj62), .val (.ref b63), .val (.int zj75), .unset]) (rest := []) (hb hby at_101) (by decide) (by decide)
        refine own_via st76 ?_
        have ne77 : b54 ≠ b76 := Nat.ne_of_lt (Nat.lt_of_lt_of_le f71.lt (Nat.le_of_eq ga76.symm))
        have ne78 : b63 ≠ b76 := Nat.ne_of_lt (Nat.lt_of_lt_of_le o70_0.lt (Nat.le_of_eq ga76.symm))
        have f79 : Arv Z h76 b54 k54 .int (1 : Int32) [(.int p4)] (.int (0 : Int32)) := f71.ext E76
        have f80 : Exa Z h76 b63 "com/example/dissoc/dissoc/ranking/Found" := o70_0.ext E76
        have f81 : Fld Z h76 b63 "com/example/dissoc/dissoc/ranking/Found" "tuple" "I" (.int p0) := o70_1.ext E76
        have f82 : Fld Z h76 b63 "com/example/dissoc/dissoc/ranking/Found" "contingency" "[I" (.ref b54) := o70_2.ext E76
        have f83 : Fld Z h76 b63 "com/example/dissoc/dissoc/ranking/Found" "lowerBound" "I" (.int zj62) := o70_3.ext E76
        have f84 : Fld Z h76 b76 "com/example/dissoc/dissoc/ranking/Found" "tuple" "I" (.int (0 : Int32)) := D76 (Or.inr (hw _ (List.mem_of_getElem? (i := 16) rfl))) (ty := .int) (by decide)
        have f85 : Fld Z h76 b76 "com/example/dissoc/dissoc/ranking/Found" "contingency" "[I" .null := D76 (Or.inr (hw _ (List.mem_of_getElem? (i := 18) rfl))) (ty := (.array .int)) (by decide)
        have f86 : Fld Z h76 b76 "com/example/dissoc/dissoc/ranking/Found" "lowerBound" "I" (.int (0 : Int32)) := D76 (Or.inr (hw _ (List.mem_of_getElem? (i := 20) rfl))) (ty := .int) (by decide)
        have g_b76 : n0 ≤ b76 := Nat.le_trans Zs73 (Nat.le_of_eq ga76.symm)
        have Zs87 : n0 ≤ h76.size := Nat.le_trans Zs73 E76.1
        show own_G p e below _ (T76.setTop (mkF m 104 #[.val (.int p0), .val (.int p1), .val (.int p2), .val (.int p3), .val (.int p4), .val (.int (1 : Int32)), .val (.ref b54), .val (.int vg60), .val (.int zj62), .val (.ref b63), .val (.int zj75), .unset] [(.ref b76)]))
        refine own_via (fun t k => XS.dup X76.here hx rfl (hb hby at_104) rfl rfl k) ?_
        show own_G p e below _ (T76.setTop (mkF m 105 #[.val (.int p0), .val (.int p1), .val (.int p2), .val (.int p3), .val (.int p4), .val (.int (1 : Int32)), .val (.ref b54), .val (.int vg60), .val (.int zj62), .val (.ref b63), .val (.int zj75), .unset] [(.ref b76), (.ref b76)]))
        refine own_via (fun t k => XS.iloadN X76.here hx rfl (hb hby at_105) rfl k) ?_
        show own_G p e below _ (T76.setTop (mkF m 106 #[.val (.int p0), .val (.int p1), .val (.int p2), .val (.int p3), .val (.int p4), .val (.int (1 : Int32)), .val (.ref b54), .val (.int vg60), .val (.int zj62), .val (.ref b63), .val (.int zj75), .unset] [(.int p0), (.ref b76), (.ref b76)]))
        refine own_via (fun t k => XS.aload X76.here hx rfl (hb hby at_106) rfl rfl k) ?_
        show own_G p e below _ (T76.setTop (mkF m 108 #[.val (.int p0), .val (.int p1), .val (.int p2), .val (.int p3), .val (.int p4), .val (.int (1 : Int32)), .val (.ref b54), .val (.int vg60), .val (.int zj62), .val (.ref b63), .val (.int zj75), .unset] [(.ref b54), (.int p0), (.ref b76), (.ref b76)]))
        obtain ⟨v88, T88, h88, L88, X88, N88, e88, hq88, st88⟩ := own_callI (y := (⟨"com/example/dissoc/dissoc/ranking/Found", "<init>", "(I[I)V"⟩ : MethodName)) (W := 1) (a := b76) X76 N70 hx hZ rfl hown (hw _ (List.mem_of_getElem? (i := 21) rfl)) (hw _ (List.mem_of_getElem? (i := 22) rfl)) (hw _ (List.mem_of_getElem? (i := 3) rfl)) (hw _ (List.mem_of_getElem? (i := 23) rfl)) (by decide) (own_c2 l Z a0 hw [] b76 p0 b54 (.int (0 : Int32)) (.null) (.int (0 : Int32)) k54 (1 : Int32) [(.int p4)] (.int (0 : Int32)) h76 n0 Zs87 A76 f84 f85 f86 f79 g_b76) (by decide) (by decide) (by decide) (by decide) e76 (pc := 108) (Ls := #[.val (.int p0), .val (.int p1), .val (.int p2), .val (.int p3), .val (.int p4), .val (.int (1 : Int32)), .val (.ref b54), .val (.int vg60), .val (.int zj62), .val (.ref b63), .val (.int zj75), .unset]) (st := [(.ref b54), (.int p0), (.ref b76), (.ref b76)]) (argsL := [(.int p0), (.ref b54)]) (rest := [(.ref b76)]) (by rw [hml]; rfl) (lenOf own_pd2 rfl) rfl rfl (Nat.le_of_eq rfl) (hb hby at_108)
        obtain ⟨rfl, K88, o88_0, o88_1, o88_2, o88_3⟩ := hq88
        refine own_via st88 ?_
        have f89 : Arv Z h88 b54 k54 .int (1 : Int32) [(.int p4)] (.int (0 : Int32)) := f79.keep K88 (by simp only [List.mem_cons, List.not_mem_nil, or_false, not_or]; exact ne77)
        have f90 : Exa Z h88 b63 "com/example/dissoc/dissoc/ranking/Found" := f80.keep K88
        have f91 : Fld Z h88 b63 "com/example/dissoc/dissoc/ranking/Found" "tuple" "I" (.int p0) := f81.keep K88 (by simp only [List.mem_cons, List.not_mem_nil, or_false, not_or]; exact ne78)
        have f92 : Fld Z h88 b63 "com/example/dissoc/dissoc/ranking/Found" "contingency" "[I" (.ref b54) := f82.keep K88 (by simp only [List.mem_cons, List.not_mem_nil, or_false, not_or]; exact ne78)
        have f93 : Fld Z h88 b63 "com/example/dissoc/dissoc/ranking/Found" "lowerBound" "I" (.int zj62) := f83.keep K88 (by simp only [List.mem_cons, List.not_mem_nil, or_false, not_or]; exact ne78)
        have f94 : Exa Z h88 b76 "com/example/dissoc/dissoc/ranking/Found" := A76.keep K88
        have Zs95 : n0 ≤ h88.size := Nat.le_trans Zs87 K88.1
        show own_G p e below _ (T88.setTop (mkF m 111 #[.val (.int p0), .val (.int p1), .val (.int p2), .val (.int p3), .val (.int p4), .val (.int (1 : Int32)), .val (.ref b54), .val (.int vg60), .val (.int zj62), .val (.ref b63), .val (.int zj75), .unset] [(.ref b76)]))
        refine own_via (fun t k => XS.astore X88.here hx rfl (hb hby at_111) rfl rfl (l' := #[.val (.int p0), .val (.int p1), .val (.int p2), .val (.int p3), .val (.int p4), .val (.int (1 : Int32)), .val (.ref b54), .val (.int vg60), .val (.int zj62), .val (.ref b63), .val (.int zj75), .val (.ref b76)]) rfl k) ?_
        show own_G p e below _ (T88.setTop (mkF m 113 #[.val (.int p0), .val (.int p1), .val (.int p2), .val (.int p3), .val (.int p4), .val (.int (1 : Int32)), .val (.ref b54), .val (.int vg60), .val (.int zj62), .val (.ref b63), .val (.int zj75), .val (.ref b76)] []))
        refine own_via (fun t k => XS.aload X88.here hx rfl (hb hby at_113) rfl rfl k) ?_
        show own_G p e below _ (T88.setTop (mkF m 115 #[.val (.int p0), .val (.int p1), .val (.int p2), .val (.int p3), .val (.int p4), .val (.int (1 : Int32)), .val (.ref b54), .val (.int vg60), .val (.int zj62), .val (.ref b63), .val (.int zj75), .val (.ref b76)] [(.ref b63)]))
        obtain ⟨T96, X96, e96, st96⟩ := own_callVP (y := (⟨"com/example/dissoc/dissoc/ranking/Found", "exact", "()Z"⟩ : MethodName)) (z := (⟨"com/example/dissoc/dissoc/ranking/Found", "exact", "()Z"⟩ : MethodName)) (W := 0) (a := b63) X88 hx hZ hown (hw _ (List.mem_of_getElem? (i := 25) rfl)) (hw _ (List.mem_of_getElem? (i := 26) rfl)) (notFace_of_selects (args := #[]) (mvT hZ (hw _ (List.mem_of_getElem? (i := 28) rfl)))) (hw _ (List.mem_of_getElem? (i := 28) rfl)) (hw _ (List.mem_of_getElem? (i := 27) rfl)) (hw _ (List.mem_of_getElem? (i := 3) rfl)) (hw _ (List.mem_of_getElem? (i := 29) rfl)) (by decide) (own_ex l Z a0 hw [] b63 b54 zj62 k54 (1 : Int32) [(.int p4)] (.int (0 : Int32)) h88 f92 f93 f89) (by decide) (by decide) rfl rfl (by decide) (by decide) e88 f90 (pc := 115) (Ls := #[.val (.int p0), .val (.int p1), .val (.int p2), .val (.int p3), .val (.int p4), .val (.int (1 : Int32)), .val (.ref b54), .val (.int vg60), .val (.int zj62), .val (.ref b63), .val (.int zj75), .val (.ref b76)]) (st := [(.ref b63)]) (argsL := []) (rest := []) (by rw [hml]; rfl) (lenOf own_pd3 rfl) rfl rfl (Nat.le_of_eq rfl) (hb hby at_115)
        refine own_via st96 ?_
        show own_G p e below _ (T96.setTop (mkF m 118 #[.val (.int p0), .val (.int p1), .val (.int p2), .val (.int p3), .val (.int p4), .val (.int (1 : Int32)), .val (.ref b54), .val (.int vg60), .val (.int zj62), .val (.ref b63), .val (.int zj75), .val (.ref b76)] [(.int (own_Fex zj62 (1 : Int32)))]))
        refine own_via (fun t k => XS.iload X96.here hx rfl (hb hby at_118) rfl k) ?_
        show own_G p e below _ (T96.setTop (mkF m 120 #[.val (.int p0), .val (.int p1), .val (.int p2), .val (.int p3), .val (.int p4), .val (.int (1 : Int32)), .val (.ref b54), .val (.int vg60), .val (.int zj62), .val (.ref b63), .val (.int zj75), .val (.ref b76)] [(.int zj75), (.int (own_Fex zj62 (1 : Int32)))]))
        refine own_via (fun t k => XS.icmpNo X96.here hx rfl (hb hby at_120) rfl (teq (by subst hzj75; subst hzj62; subst hvg60; rfl)).2 k) ?_
        show own_G p e below _ (T96.setTop (mkF m 123 #[.val (.int p0), .val (.int p1), .val (.int p2), .val (.int p3), .val (.int p4), .val (.int (1 : Int32)), .val (.ref b54), .val (.int vg60), .val (.int zj62), .val (.ref b63), .val (.int zj75), .val (.ref b76)] []))
        refine own_via (fun t k => XS.aload X96.here hx rfl (hb hby at_123) rfl rfl k) ?_
        show own_G p e below _ (T96.setTop (mkF m 125 #[.val (.int p0), .val (.int p1), .val (.int p2), .val (.int p3), .val (.int p4), .val (.int (1 : Int32)), .val (.ref b54), .val (.int vg60), .val (.int zj62), .val (.ref b63), .val (.int zj75), .val (.ref b76)] [(.ref b76)]))
        obtain ⟨T97, X97, e97, st97⟩ := own_callVP (y := (⟨"com/example/dissoc/dissoc/ranking/Found", "exact", "()Z"⟩ : MethodName)) (z := (⟨"com/example/dissoc/dissoc/ranking/Found", "exact", "()Z"⟩ : MethodName)) (W := 0) (a := b76) X96 hx hZ hown (hw _ (List.mem_of_getElem? (i := 25) rfl)) (hw _ (List.mem_of_getElem? (i := 26) rfl)) (notFace_of_selects (args := #[]) (mvT hZ (hw _ (List.mem_of_getElem? (i := 28) rfl)))) (hw _ (List.mem_of_getElem? (i := 28) rfl)) (hw _ (List.mem_of_getElem? (i := 27) rfl)) (hw _ (List.mem_of_getElem? (i := 3) rfl)) (hw _ (List.mem_of_getElem? (i := 29) rfl)) (by decide) (own_ex l Z a0 hw [] b76 b54 (1 : Int32) k54 (1 : Int32) [(.int p4)] (.int (0 : Int32)) h88 o88_2 o88_3 f89) (by decide) (by decide) rfl rfl (by decide) (by decide) e96 o88_0 (pc := 125) (Ls := #[.val (.int p0), .val (.int p1), .val (.int p2), .val (.int p3), .val (.int p4), .val (.int (1 : Int32)), .val (.ref b54), .val (.int vg60), .val (.int zj62), .val (.ref b63), .val (.int zj75), .val (.ref b76)]) (st := [(.ref b76)]) (argsL := []) (rest := []) (by rw [hml]; rfl) (lenOf own_pd3 rfl) rfl rfl (Nat.le_of_eq rfl) (hb hby at_125)
        refine own_via st97 ?_
        show own_G p e below _ (T97.setTop (mkF m 128 #[.val (.int p0), .val (.int p1), .val (.int p2), .val (.int p3), .val (.int p4), .val (.int (1 : Int32)), .val (.ref b54), .val (.int vg60), .val (.int zj62), .val (.ref b63), .val (.int zj75), .val (.ref b76)] [(.int (own_Fex (1 : Int32) (1 : Int32)))]))
        refine own_via (fun t k => XS.ifNo X97.here hx rfl (hb hby at_128) rfl ((if0 _ _).trans (feq (by decide)).1) k) ?_
        show own_G p e below _ (T97.setTop (mkF m 131 #[.val (.int p0), .val (.int p1), .val (.int p2), .val (.int p3), .val (.int p4), .val (.int (1 : Int32)), .val (.ref b54), .val (.int vg60), .val (.int zj62), .val (.ref b63), .val (.int zj75), .val (.ref b76)] []))
        refine own_via (fun t k => XS.iconst X97.here hx rfl (hb hby at_131) k) ?_
        show own_G p e below _ (T97.setTop (mkF m 132 #[.val (.int p0), .val (.int p1), .val (.int p2), .val (.int p3), .val (.int p4), .val (.int (1 : Int32)), .val (.ref b54), .val (.int vg60), .val (.int zj62), .val (.ref b63), .val (.int zj75), .val (.ref b76)] [(.int (1 : Int32))]))
        refine own_via (fun t k => XS.goto X97.here hx rfl (pc0 := 132) (pc' := 136) rfl (hb hby at_132) (by decide) (by decide) k) ?_
        show own_G p e below _ (T97.setTop (mkF m 136 #[.val (.int p0), .val (.int p1), .val (.int p2), .val (.int p3), .val (.int p4), .val (.int (1 : Int32)), .val (.ref b54), .val (.int vg60), .val (.int zj62), .val (.ref b63), .val (.int zj75), .val (.ref b76)] [(.int (1 : Int32))]))
        exact own_retN (t := .boolean) X97 hx Bd.returns (by simp) Bd.notSynchronized (hb hby at_136) ⟨N88, rfl⟩ (by decide) (by decide)
      by_cases hc98 : zj62 = (1 : Int32)
      ·
        refine own_via (fun t k => XS.icmpNo X70.here hx rfl (hb hby at_91) rfl (teq hc98).2 k) ?_
        show own_G p e below _ (T70.setTop (mkF m 94 #[.val (.int p0), .val (.int p1), .val (.int p2), .val (.int p3), .val (.int p4), .val (.int (1 : Int32)), .val (.ref b54), .val (.int vg60), .val (.int zj62), .val (.ref b63), .unset, .unset] []))
        refine own_via (fun t k => XS.iconst X70.here hx rfl (hb hby at_94) k) ?_
        show own_G p e below _ (T70.setTop (mkF m 95 #[.val (.int p0), .val (.int p1), .val (.int p2), .val (.int p3), .val (.int p4), .val (.int (1 : Int32)), .val (.ref b54), .val (.int vg60), .val (.int zj62), .val (.ref b63), .unset, .unset] [(.int (1 : Int32))]))
        refine own_via (fun t k => XS.goto X70.here hx rfl (pc0 := 95) (pc' := 99) rfl (hb hby at_95) (by decide) (by decide) k) ?_
        show own_G p e below _ (T70.setTop (mkF m 99 #[.val (.int p0), .val (.int p1), .val (.int p2), .val (.int p3), .val (.int p4), .val (.int (1 : Int32)), .val (.ref b54), .val (.int vg60), .val (.int zj62), .val (.ref b63), .unset, .unset] [(.int (1 : Int32))]))
        exact J74 _ X70 e70 _ (by simp only [if_pos hc98])
      ·
        refine own_via (fun t k => XS.icmpYes X70.here hx rfl (pc0 := 91) (pc' := 98) rfl (hb hby at_91) rfl (feq hc98).2 (by decide) (by decide) k) ?_
        show own_G p e below _ (T70.setTop (mkF m 98 #[.val (.int p0), .val (.int p1), .val (.int p2), .val (.int p3), .val (.int p4), .val (.int (1 : Int32)), .val (.ref b54), .val (.int vg60), .val (.int zj62), .val (.ref b63), .unset, .unset] []))
        refine own_via (fun t k => XS.iconst X70.here hx rfl (hb hby at_98) k) ?_
        show own_G p e below _ (T70.setTop (mkF m 99 #[.val (.int p0), .val (.int p1), .val (.int p2), .val (.int p3), .val (.int p4), .val (.int (1 : Int32)), .val (.ref b54), .val (.int vg60), .val (.int zj62), .val (.ref b63), .unset, .unset] [(.int (0 : Int32))]))
        exact J74 _ X70 e70 _ (by simp only [if_neg hc98])
    by_cases hc99 : vg60 = (0 : Int32)
    ·
      refine own_via (fun t k => XS.ifNo X57.here hx rfl (hb hby at_30) rfl ((if0 _ _).trans (teq hc99).2) k) ?_
      show own_G p e below _ (T57.setTop (mkF m 33 #[.val (.int p0), .val (.int p1), .val (.int p2), .val (.int p3), .val (.int p4), .val (.int (1 : Int32)), .val (.ref b54), .val (.int vg60), .unset, .unset, .unset, .unset] []))
      refine own_via (fun t k => XS.iload X57.here hx rfl (hb hby at_33) rfl k) ?_
      show own_G p e below _ (T57.setTop (mkF m 35 #[.val (.int p0), .val (.int p1), .val (.int p2), .val (.int p3), .val (.int p4), .val (.int (1 : Int32)), .val (.ref b54), .val (.int vg60), .unset, .unset, .unset, .unset] [(.int (1 : Int32))]))
      refine own_via (fun t k => XS.istore X57.here hx rfl (hb hby at_35) rfl (l' := #[.val (.int p0), .val (.int p1), .val (.int p2), .val (.int p3), .val (.int p4), .val (.int (1 : Int32)), .val (.ref b54), .val (.int vg60), .val (.int (1 : Int32)), .unset, .unset, .unset]) rfl k) ?_
      show own_G p e below _ (T57.setTop (mkF m 37 #[.val (.int p0), .val (.int p1), .val (.int p2), .val (.int p3), .val (.int p4), .val (.int (1 : Int32)), .val (.ref b54), .val (.int vg60), .val (.int (1 : Int32)), .unset, .unset, .unset] []))
      refine own_via (fun t k => XS.goto X57.here hx rfl (pc0 := 37) (pc' := 73) rfl (hb hby at_37) (by decide) (by decide) k) ?_
      show own_G p e below _ (T57.setTop (mkF m 73 #[.val (.int p0), .val (.int p1), .val (.int p2), .val (.int p3), .val (.int p4), .val (.int (1 : Int32)), .val (.ref b54), .val (.int vg60), .val (.int (1 : Int32)), .unset, .unset, .unset] []))
      exact J61 _ X57 e57 _ (by simp only [if_pos hc99])
    ·
      refine own_via (fun t k => XS.ifYes X57.here hx rfl (pc0 := 30) (pc' := 40) rfl (hb hby at_30) rfl ((if0 _ _).trans (feq hc99).2) (by decide) (by decide) k) ?_
      show own_G p e below _ (T57.setTop (mkF m 40 #[.val (.int p0), .val (.int p1), .val (.int p2), .val (.int p3), .val (.int p4), .val (.int (1 : Int32)), .val (.ref b54), .val (.int vg60), .unset, .unset, .unset, .unset] []))
      refine own_via (fun t k => XS.iload X57.here hx rfl (hb hby at_40) rfl k) ?_
      show own_G p e below _ (T57.setTop (mkF m 42 #[.val (.int p0), .val (.int p1), .val (.int p2), .val (.int p3), .val (.int p4), .val (.int (1 : Int32)), .val (.ref b54), .val (.int vg60), .unset, .unset, .unset, .unset] [(.int vg60)]))
      refine own_via (fun t k => XS.iconst X57.here hx rfl (hb hby at_42) k) ?_
      show own_G p e below _ (T57.setTop (mkF m 43 #[.val (.int p0), .val (.int p1), .val (.int p2), .val (.int p3), .val (.int p4), .val (.int (1 : Int32)), .val (.ref b54), .val (.int vg60), .unset, .unset, .unset, .unset] [(.int (1 : Int32)), (.int vg60)]))
      by_cases hc100 : vg60 = (1 : Int32)
      ·
        refine own_via (fun t k => XS.icmpNo X57.here hx rfl (hb hby at_43) rfl (teq hc100).2 k) ?_
        show own_G p e below _ (T57.setTop (mkF m 46 #[.val (.int p0), .val (.int p1), .val (.int p2), .val (.int p3), .val (.int p4), .val (.int (1 : Int32)), .val (.ref b54), .val (.int vg60), .unset, .unset, .unset, .unset] []))
        refine own_via (fun t k => XS.iload X57.here hx rfl (hb hby at_46) rfl k) ?_
        show own_G p e below _ (T57.setTop (mkF m 48 #[.val (.int p0), .val (.int p1), .val (.int p2), .val (.int p3), .val (.int p4), .val (.int (1 : Int32)), .val (.ref b54), .val (.int vg60), .unset, .unset, .unset, .unset] [(.int (1 : Int32))]))
        refine own_via (fun t k => XS.iconst X57.here hx rfl (hb hby at_48) k) ?_
        show own_G p e below _ (T57.setTop (mkF m 49 #[.val (.int p0), .val (.int p1), .val (.int p2), .val (.int p3), .val (.int p4), .val (.int (1 : Int32)), .val (.ref b54), .val (.int vg60), .unset, .unset, .unset, .unset] [(.int (1 : Int32)), (.int (1 : Int32))]))
        refine own_via (fun t k => XS.isub X57.here hx rfl (hb hby at_49) rfl k) ?_
        show own_G p e below _ (T57.setTop (mkF m 50 #[.val (.int p0), .val (.int p1), .val (.int p2), .val (.int p3), .val (.int p4), .val (.int (1 : Int32)), .val (.ref b54), .val (.int vg60), .unset, .unset, .unset, .unset] [(.int (0 : Int32))]))
        refine own_via (fun t k => XS.istore X57.here hx rfl (hb hby at_50) rfl (l' := #[.val (.int p0), .val (.int p1), .val (.int p2), .val (.int p3), .val (.int p4), .val (.int (1 : Int32)), .val (.ref b54), .val (.int vg60), .val (.int (0 : Int32)), .unset, .unset, .unset]) rfl k) ?_
        show own_G p e below _ (T57.setTop (mkF m 52 #[.val (.int p0), .val (.int p1), .val (.int p2), .val (.int p3), .val (.int p4), .val (.int (1 : Int32)), .val (.ref b54), .val (.int vg60), .val (.int (0 : Int32)), .unset, .unset, .unset] []))
        refine own_via (fun t k => XS.goto X57.here hx rfl (pc0 := 52) (pc' := 73) rfl (hb hby at_52) (by decide) (by decide) k) ?_
        show own_G p e below _ (T57.setTop (mkF m 73 #[.val (.int p0), .val (.int p1), .val (.int p2), .val (.int p3), .val (.int p4), .val (.int (1 : Int32)), .val (.ref b54), .val (.int vg60), .val (.int (0 : Int32)), .unset, .unset, .unset] []))
        exact J61 _ X57 e57 _ (by simp only [if_neg hc99, if_pos hc100])
      ·
        refine own_via (fun t k => XS.icmpYes X57.here hx rfl (pc0 := 43) (pc' := 55) rfl (hb hby at_43) rfl (feq hc100).2 (by decide) (by decide) k) ?_
        show own_G p e below _ (T57.setTop (mkF m 55 #[.val (.int p0), .val (.int p1), .val (.int p2), .val (.int p3), .val (.int p4), .val (.int (1 : Int32)), .val (.ref b54), .val (.int vg60), .unset, .unset, .unset, .unset] []))
        refine own_via (fun t k => XS.iload X57.here hx rfl (hb hby at_55) rfl k) ?_
        show own_G p e below _ (T57.setTop (mkF m 57 #[.val (.int p0), .val (.int p1), .val (.int p2), .val (.int p3), .val (.int p4), .val (.int (1 : Int32)), .val (.ref b54), .val (.int vg60), .unset, .unset, .unset, .unset] [(.int vg60)]))
        refine own_via (fun t k => XS.iconst X57.here hx rfl (hb hby at_57) k) ?_
        show own_G p e below _ (T57.setTop (mkF m 58 #[.val (.int p0), .val (.int p1), .val (.int p2), .val (.int p3), .val (.int p4), .val (.int (1 : Int32)), .val (.ref b54), .val (.int vg60), .unset, .unset, .unset, .unset] [(.int (2 : Int32)), (.int vg60)]))
        by_cases hc101 : vg60 = (2 : Int32)
        ·
          refine own_via (fun t k => XS.icmpNo X57.here hx rfl (hb hby at_58) rfl (teq hc101).2 k) ?_
          show own_G p e below _ (T57.setTop (mkF m 61 #[.val (.int p0), .val (.int p1), .val (.int p2), .val (.int p3), .val (.int p4), .val (.int (1 : Int32)), .val (.ref b54), .val (.int vg60), .unset, .unset, .unset, .unset] []))
          refine own_via (fun t k => XS.iload X57.here hx rfl (hb hby at_61) rfl k) ?_
          show own_G p e below _ (T57.setTop (mkF m 63 #[.val (.int p0), .val (.int p1), .val (.int p2), .val (.int p3), .val (.int p4), .val (.int (1 : Int32)), .val (.ref b54), .val (.int vg60), .unset, .unset, .unset, .unset] [(.int (1 : Int32))]))
          refine own_via (fun t k => XS.iconst X57.here hx rfl (hb hby at_63) k) ?_
          show own_G p e below _ (T57.setTop (mkF m 64 #[.val (.int p0), .val (.int p1), .val (.int p2), .val (.int p3), .val (.int p4), .val (.int (1 : Int32)), .val (.ref b54), .val (.int vg60), .unset, .unset, .unset, .unset] [(.int (1 : Int32)), (.int (1 : Int32))]))
          refine own_via (fun t k => XS.iadd X57.here hx rfl (hb hby at_64) rfl k) ?_
          show own_G p e below _ (T57.setTop (mkF m 65 #[.val (.int p0), .val (.int p1), .val (.int p2), .val (.int p3), .val (.int p4), .val (.int (1 : Int32)), .val (.ref b54), .val (.int vg60), .unset, .unset, .unset, .unset] [(.int (2 : Int32))]))
          refine own_via (fun t k => XS.istore X57.here hx rfl (hb hby at_65) rfl (l' := #[.val (.int p0), .val (.int p1), .val (.int p2), .val (.int p3), .val (.int p4), .val (.int (1 : Int32)), .val (.ref b54), .val (.int vg60), .val (.int (2 : Int32)), .unset, .unset, .unset]) rfl k) ?_
          show own_G p e below _ (T57.setTop (mkF m 67 #[.val (.int p0), .val (.int p1), .val (.int p2), .val (.int p3), .val (.int p4), .val (.int (1 : Int32)), .val (.ref b54), .val (.int vg60), .val (.int (2 : Int32)), .unset, .unset, .unset] []))
          refine own_via (fun t k => XS.goto X57.here hx rfl (pc0 := 67) (pc' := 73) rfl (hb hby at_67) (by decide) (by decide) k) ?_
          show own_G p e below _ (T57.setTop (mkF m 73 #[.val (.int p0), .val (.int p1), .val (.int p2), .val (.int p3), .val (.int p4), .val (.int (1 : Int32)), .val (.ref b54), .val (.int vg60), .val (.int (2 : Int32)), .unset, .unset, .unset] []))
          exact J61 _ X57 e57 _ (by simp only [if_neg hc99, if_neg hc100, if_pos hc101])
        ·
          refine own_via (fun t k => XS.icmpYes X57.here hx rfl (pc0 := 58) (pc' := 70) rfl (hb hby at_58) rfl (feq hc101).2 (by decide) (by decide) k) ?_
          show own_G p e below _ (T57.setTop (mkF m 70 #[.val (.int p0), .val (.int p1), .val (.int p2), .val (.int p3), .val (.int p4), .val (.int (1 : Int32)), .val (.ref b54), .val (.int vg60), .unset, .unset, .unset, .unset] []))
          refine own_via (fun t k => XS.iloadN X57.here hx rfl (hb hby at_70) rfl k) ?_
          show own_G p e below _ (T57.setTop (mkF m 71 #[.val (.int p0), .val (.int p1), .val (.int p2), .val (.int p3), .val (.int p4), .val (.int (1 : Int32)), .val (.ref b54), .val (.int vg60), .unset, .unset, .unset, .unset] [(.int p2)]))
          refine own_via (fun t k => XS.istore X57.here hx rfl (hb hby at_71) rfl (l' := #[.val (.int p0), .val (.int p1), .val (.int p2), .val (.int p3), .val (.int p4), .val (.int (1 : Int32)), .val (.ref b54), .val (.int vg60), .val (.int p2), .unset, .unset, .unset]) rfl k) ?_
          show own_G p e below _ (T57.setTop (mkF m 73 #[.val (.int p0), .val (.int p1), .val (.int p2), .val (.int p3), .val (.int p4), .val (.int (1 : Int32)), .val (.ref b54), .val (.int vg60), .val (.int p2), .unset, .unset, .unset] []))
          exact J61 _ X57 e57 _ (by simp only [if_neg hc99, if_neg hc100, if_neg hc101])
  ·
    rw [hs3]
    show own_G p e below _ (s₁.setTop (mkF m 4 #[.val (.int p0), .val (.int p1), .val (.int p2), .val (.int p3), .val (.int p4), .unset, .unset, .unset, .unset, .unset, .unset, .unset] [(.int (2 : Int32))]))
    refine own_via (fun t k => XS.istore X0.here hx rfl (hb hby at_4) rfl (l' := #[.val (.int p0), .val (.int p1), .val (.int p2), .val (.int p3), .val (.int p4), .val (.int (2 : Int32)), .unset, .unset, .unset, .unset, .unset, .unset]) rfl k) ?_
    show own_G p e below _ (s₁.setTop (mkF m 6 #[.val (.int p0), .val (.int p1), .val (.int p2), .val (.int p3), .val (.int p4), .val (.int (2 : Int32)), .unset, .unset, .unset, .unset, .unset, .unset] []))
    refine own_via (fun t k => XS.iload X0.here hx rfl (hb hby at_6) rfl k) ?_
    show own_G p e below _ (s₁.setTop (mkF m 8 #[.val (.int p0), .val (.int p1), .val (.int p2), .val (.int p3), .val (.int p4), .val (.int (2 : Int32)), .unset, .unset, .unset, .unset, .unset, .unset] [(.int (2 : Int32))]))
    obtain ⟨T102, h102, k102, b102, X102, e102, E102, ga102, V102, Ex102, st102⟩ := own_newA X0 hx hZ (hw _ (List.mem_of_getElem? (i := 0) rfl)) e0 (pc := 8) (Ls := #[.val (.int p0), .val (.int p1), .val (.int p2), .val (.int p3), .val (.int p4), .val (.int (2 : Int32)), .unset, .unset, .unset, .unset, .unset, .unset]) (rest := []) (hb hby at_8) (n := (2 : Int32)) (by decide) (cap := 2) (by decide) (by decide) (by decide) (by decide) 2 rfl
    refine own_via st102 ?_
    have f103 : Arv Z h102 b102 k102 .int (2 : Int32) [(.int (0 : Int32)), (.int (0 : Int32))] (.int (0 : Int32)) := V102
    have g_b102 : n0 ≤ b102 := Nat.le_trans Z0 (Nat.le_of_eq ga102.symm)
    have Zs104 : n0 ≤ h102.size := Nat.le_trans Z0 E102.1
    show own_G p e below _ (T102.setTop (mkF m 10 #[.val (.int p0), .val (.int p1), .val (.int p2), .val (.int p3), .val (.int p4), .val (.int (2 : Int32)), .unset, .unset, .unset, .unset, .unset, .unset] [(.ref b102)]))
    refine own_via (fun t k => XS.astore X102.here hx rfl (hb hby at_10) rfl rfl (l' := #[.val (.int p0), .val (.int p1), .val (.int p2), .val (.int p3), .val (.int p4), .val (.int (2 : Int32)), .val (.ref b102), .unset, .unset, .unset, .unset, .unset]) rfl k) ?_
    show own_G p e below _ (T102.setTop (mkF m 12 #[.val (.int p0), .val (.int p1), .val (.int p2), .val (.int p3), .val (.int p4), .val (.int (2 : Int32)), .val (.ref b102), .unset, .unset, .unset, .unset, .unset] []))
    refine own_via (fun t k => XS.iload X102.here hx rfl (hb hby at_12) rfl k) ?_
    show own_G p e below _ (T102.setTop (mkF m 14 #[.val (.int p0), .val (.int p1), .val (.int p2), .val (.int p3), .val (.int p4), .val (.int (2 : Int32)), .val (.ref b102), .unset, .unset, .unset, .unset, .unset] [(.int (2 : Int32))]))
    refine own_via (fun t k => XS.ifNo X102.here hx rfl (hb hby at_14) rfl ((if0 _ _).trans (tlt (by decide : (0 : Int32) < (2 : Int32))).2.2.2) k) ?_
    show own_G p e below _ (T102.setTop (mkF m 17 #[.val (.int p0), .val (.int p1), .val (.int p2), .val (.int p3), .val (.int p4), .val (.int (2 : Int32)), .val (.ref b102), .unset, .unset, .unset, .unset, .unset] []))
    refine own_via (fun t k => XS.aload X102.here hx rfl (hb hby at_17) rfl rfl k) ?_
    show own_G p e below _ (T102.setTop (mkF m 19 #[.val (.int p0), .val (.int p1), .val (.int p2), .val (.int p3), .val (.int p4), .val (.int (2 : Int32)), .val (.ref b102), .unset, .unset, .unset, .unset, .unset] [(.ref b102)]))
    refine own_via (fun t k => XS.iconst X102.here hx rfl (hb hby at_19) k) ?_
    show own_G p e below _ (T102.setTop (mkF m 20 #[.val (.int p0), .val (.int p1), .val (.int p2), .val (.int p3), .val (.int p4), .val (.int (2 : Int32)), .val (.ref b102), .unset, .unset, .unset, .unset, .unset] [(.int (0 : Int32)), (.ref b102)]))
    refine own_via (fun t k => XS.iload X102.here hx rfl (hb hby at_20) rfl k) ?_
    show own_G p e below _ (T102.setTop (mkF m 22 #[.val (.int p0), .val (.int p1), .val (.int p2), .val (.int p3), .val (.int p4), .val (.int (2 : Int32)), .val (.ref b102), .unset, .unset, .unset, .unset, .unset] [(.int p4), (.int (0 : Int32)), (.ref b102)]))
    obtain ⟨T105, h105, L105, X105, N105, e105, W105, V105, st105⟩ := own_stI X102 N0 hx hZ e102 f103 g_b102 (j := (0 : Int32)) (x := p4) (i := 0) ⟨by decide, by decide⟩ rfl (Nat.le_of_ble_eq_true rfl) (pc := 22) (Ls := #[.val (.int p0), .val (.int p1), .val (.int p2), .val (.int p3), .val (.int p4), .val (.int (2 : Int32)), .val (.ref b102), .unset, .unset, .unset, .unset, .unset]) (rest := []) (hb hby at_22)
    refine own_via st105 ?_
    have f106 : Arv Z h105 b102 k102 .int (2 : Int32) [(.int p4), (.int (0 : Int32))] (.int (0 : Int32)) := V105
    have Zs107 : n0 ≤ h105.size := by rw [W105.size]; exact Zs104
    show own_G p e below _ (T105.setTop (mkF m 23 #[.val (.int p0), .val (.int p1), .val (.int p2), .val (.int p3), .val (.int p4), .val (.int (2 : Int32)), .val (.ref b102), .unset, .unset, .unset, .unset, .unset] []))
    refine own_via (fun t k => XS.iloadN X105.here hx rfl (hb hby at_23) rfl k) ?_
    show own_G p e below _ (T105.setTop (mkF m 24 #[.val (.int p0), .val (.int p1), .val (.int p2), .val (.int p3), .val (.int p4), .val (.int (2 : Int32)), .val (.ref b102), .unset, .unset, .unset, .unset, .unset] [(.int p3)]))
    refine own_via (fun t k => XS.iconst X105.here hx rfl (hb hby at_24) k) ?_
    show own_G p e below _ (T105.setTop (mkF m 25 #[.val (.int p0), .val (.int p1), .val (.int p2), .val (.int p3), .val (.int p4), .val (.int (2 : Int32)), .val (.ref b102), .unset, .unset, .unset, .unset, .unset] [(.int (3 : Int32)), (.int p3)]))
    refine own_via (fun t k => XS.iand X105.here hx rfl (hb hby at_25) rfl k) ?_
    show own_G p e below _ (T105.setTop (mkF m 26 #[.val (.int p0), .val (.int p1), .val (.int p2), .val (.int p3), .val (.int p4), .val (.int (2 : Int32)), .val (.ref b102), .unset, .unset, .unset, .unset, .unset] [(.int (p3 &&& (3 : Int32)))]))
    generalize hvg108 : (p3 &&& (3 : Int32)) = vg108
    show own_G p e below _ (T105.setTop (mkF m 26 #[.val (.int p0), .val (.int p1), .val (.int p2), .val (.int p3), .val (.int p4), .val (.int (2 : Int32)), .val (.ref b102), .unset, .unset, .unset, .unset, .unset] [(.int vg108)]))
    refine own_via (fun t k => XS.istore X105.here hx rfl (hb hby at_26) rfl (l' := #[.val (.int p0), .val (.int p1), .val (.int p2), .val (.int p3), .val (.int p4), .val (.int (2 : Int32)), .val (.ref b102), .val (.int vg108), .unset, .unset, .unset, .unset]) rfl k) ?_
    show own_G p e below _ (T105.setTop (mkF m 28 #[.val (.int p0), .val (.int p1), .val (.int p2), .val (.int p3), .val (.int p4), .val (.int (2 : Int32)), .val (.ref b102), .val (.int vg108), .unset, .unset, .unset, .unset] []))
    refine own_via (fun t k => XS.iload X105.here hx rfl (hb hby at_28) rfl k) ?_
    show own_G p e below _ (T105.setTop (mkF m 30 #[.val (.int p0), .val (.int p1), .val (.int p2), .val (.int p3), .val (.int p4), .val (.int (2 : Int32)), .val (.ref b102), .val (.int vg108), .unset, .unset, .unset, .unset] [(.int vg108)]))
    have J109 : ∀ (TJ109 : State) (XJ109 : Stand p l e room_1 s m #[(.int p0), (.int p1), (.int p2), (.int p3), (.int p4)] below meth c TJ109 L105 1 2) (EJ109 : TJ109.heap = h105) (zj110 : Int32), zj110 = (if vg108 = (0 : Int32) then (2 : Int32) else (if vg108 = (1 : Int32) then (1 : Int32) else (if vg108 = (2 : Int32) then (3 : Int32) else p2))) → own_G p e below (own_P s (own_W n0 (fun v _ => v = some (.int 1))) room_1.cells room_1.slots) (TJ109.setTop (mkF m 73 #[.val (.int p0), .val (.int p1), .val (.int p2), .val (.int p3), .val (.int p4), .val (.int (2 : Int32)), .val (.ref b102), .val (.int vg108), .val (.int zj110), .unset, .unset, .unset] [])) := by
      intro TJ109 XJ109 EJ109 zj110 hzj110
      obtain ⟨T111, h111, b111, X111, e111, E111, ga111, A111, D111, st111⟩ := own_newO XJ109 hx hZ hown (hw _ (List.mem_of_getElem? (i := 1) rfl)) (hw _ (List.mem_of_getElem? (i := 2) rfl)) (hw _ (List.mem_of_getElem? (i := 3) rfl)) EJ109 (pc := 73) (Ls := #[.val (.int p0), .val (.int p1), .val (.int p2), .val (.int p3), .val (.int p4), .val (.int (2 : Int32)), .val (.ref b102), .val (.int vg108), .val (.int zj110), .unset, .unset, .unset]) (rest := []) (hb hby at_73) (by decide) (by decide)
      refine own_via st111 ?_
      have ne112 : b102 ≠ b111 := Nat.ne_of_lt (Nat.lt_of_lt_of_le f106.lt (Nat.le_of_eq ga111.symm))
      have f113 : Arv Z h111 b102 k102 .int (2 : Int32) [(.int p4), (.int (0 : Int32))] (.int (0 : Int32)) := f106.ext E111
      have f114 : Fld Z h111 b111 "com/example/dissoc/dissoc/ranking/Found" "tuple" "I" (.int (0 : Int32)) := D111 (Or.inr (hw _ (List.mem_of_getElem? (i := 16) rfl))) (ty := .int) (by decide)
      have f115 : Fld Z h111 b111 "com/example/dissoc/dissoc/ranking/Found" "contingency" "[I" .null := D111 (Or.inr (hw _ (List.mem_of_getElem? (i := 18) rfl))) (ty := (.array .int)) (by decide)
      have f116 : Fld Z h111 b111 "com/example/dissoc/dissoc/ranking/Found" "lowerBound" "I" (.int (0 : Int32)) := D111 (Or.inr (hw _ (List.mem_of_getElem? (i := 20) rfl))) (ty := .int) (by decide)
      have g_b111 : n0 ≤ b111 := Nat.le_trans Zs107 (Nat.le_of_eq ga111.symm)
      have Zs117 : n0 ≤ h111.size := Nat.le_trans Zs107 E111.1
      show own_G p e below _ (T111.setTop (mkF m 76 #[.val (.int p0), .val (.int p1), .val (.int p2), .val (.int p3), .val (.int p4), .val (.int (2 : Int32)), .val (.ref b102), .val (.int vg108), .val (.int zj110), .unset, .unset, .unset] [(.ref b111)]))
      refine own_via (fun t k => XS.dup X111.here hx rfl (hb hby at_76) rfl rfl k) ?_
      show own_G p e below _ (T111.setTop (mkF m 77 #[.val (.int p0), .val (.int p1), .val (.int p2), .val (.int p3), .val (.int p4), .val (.int (2 : Int32)), .val (.ref b102), .val (.int vg108), .val (.int zj110), .unset, .unset, .unset] [(.ref b111), (.ref b111)]))
      refine own_via (fun t k => XS.iloadN X111.here hx rfl (hb hby at_77) rfl k) ?_
      show own_G p e below _ (T111.setTop (mkF m 78 #[.val (.int p0), .val (.int p1), .val (.int p2), .val (.int p3), .val (.int p4), .val (.int (2 : Int32)), .val (.ref b102), .val (.int vg108), .val (.int zj110), .unset, .unset, .unset] [(.int p0), (.ref b111), (.ref b111)]))
      refine own_via (fun t k => XS.aload X111.here hx rfl (hb hby at_78) rfl rfl k) ?_
      show own_G p e below _ (T111.setTop (mkF m 80 #[.val (.int p0), .val (.int p1), .val (.int p2), .val (.int p3), .val (.int p4), .val (.int (2 : Int32)), .val (.ref b102), .val (.int vg108), .val (.int zj110), .unset, .unset, .unset] [(.ref b102), (.int p0), (.ref b111), (.ref b111)]))
      refine own_via (fun t k => XS.iload X111.here hx rfl (hb hby at_80) rfl k) ?_
      show own_G p e below _ (T111.setTop (mkF m 82 #[.val (.int p0), .val (.int p1), .val (.int p2), .val (.int p3), .val (.int p4), .val (.int (2 : Int32)), .val (.ref b102), .val (.int vg108), .val (.int zj110), .unset, .unset, .unset] [(.int zj110), (.ref b102), (.int p0), (.ref b111), (.ref b111)]))
      obtain ⟨v118, T118, h118, L118, X118, N118, e118, hq118, st118⟩ := own_callI (y := (⟨"com/example/dissoc/dissoc/ranking/Found", "<init>", "(I[II)V"⟩ : MethodName)) (W := 1) (a := b111) X111 N105 hx hZ rfl hown (hw _ (List.mem_of_getElem? (i := 4) rfl)) (hw _ (List.mem_of_getElem? (i := 5) rfl)) (hw _ (List.mem_of_getElem? (i := 3) rfl)) (hw _ (List.mem_of_getElem? (i := 6) rfl)) (by decide) (own_c3 l Z a0 hw [] b111 p0 b102 zj110 (.int (0 : Int32)) (.null) (.int (0 : Int32)) h111 n0 Zs117 A111 f114 f115 f116 g_b111) (by decide) (by decide) (by decide) (by decide) e111 (pc := 82) (Ls := #[.val (.int p0), .val (.int p1), .val (.int p2), .val (.int p3), .val (.int p4), .val (.int (2 : Int32)), .val (.ref b102), .val (.int vg108), .val (.int zj110), .unset, .unset, .unset]) (st := [(.int zj110), (.ref b102), (.int p0), (.ref b111), (.ref b111)]) (argsL := [(.int p0), (.ref b102), (.int zj110)]) (rest := [(.ref b111)]) (by rw [hml]; rfl) (lenOf own_pd1 rfl) rfl rfl (Nat.le_of_eq rfl) (hb hby at_82)
      obtain ⟨rfl, K118, o118_0, o118_1, o118_2, o118_3⟩ := hq118
      refine own_via st118 ?_
      have f119 : Arv Z h118 b102 k102 .int (2 : Int32) [(.int p4), (.int (0 : Int32))] (.int (0 : Int32)) := f113.keep K118 (by simp only [List.mem_cons, List.not_mem_nil, or_false, not_or]; exact ne112)
      have f120 : Exa Z h118 b111 "com/example/dissoc/dissoc/ranking/Found" := A111.keep K118
      have Zs121 : n0 ≤ h118.size := Nat.le_trans Zs117 K118.1
      show own_G p e below _ (T118.setTop (mkF m 85 #[.val (.int p0), .val (.int p1), .val (.int p2), .val (.int p3), .val (.int p4), .val (.int (2 : Int32)), .val (.ref b102), .val (.int vg108), .val (.int zj110), .unset, .unset, .unset] [(.ref b111)]))
      refine own_via (fun t k => XS.astore X118.here hx rfl (hb hby at_85) rfl rfl (l' := #[.val (.int p0), .val (.int p1), .val (.int p2), .val (.int p3), .val (.int p4), .val (.int (2 : Int32)), .val (.ref b102), .val (.int vg108), .val (.int zj110), .val (.ref b111), .unset, .unset]) rfl k) ?_
      show own_G p e below _ (T118.setTop (mkF m 87 #[.val (.int p0), .val (.int p1), .val (.int p2), .val (.int p3), .val (.int p4), .val (.int (2 : Int32)), .val (.ref b102), .val (.int vg108), .val (.int zj110), .val (.ref b111), .unset, .unset] []))
      refine own_via (fun t k => XS.iload X118.here hx rfl (hb hby at_87) rfl k) ?_
      show own_G p e below _ (T118.setTop (mkF m 89 #[.val (.int p0), .val (.int p1), .val (.int p2), .val (.int p3), .val (.int p4), .val (.int (2 : Int32)), .val (.ref b102), .val (.int vg108), .val (.int zj110), .val (.ref b111), .unset, .unset] [(.int zj110)]))
      refine own_via (fun t k => XS.iload X118.here hx rfl (hb hby at_89) rfl k) ?_
      show own_G p e below _ (T118.setTop (mkF m 91 #[.val (.int p0), .val (.int p1), .val (.int p2), .val (.int p3), .val (.int p4), .val (.int (2 : Int32)), .val (.ref b102), .val (.int vg108), .val (.int zj110), .val (.ref b111), .unset, .unset] [(.int (2 : Int32)), (.int zj110)]))
      have J122 : ∀ (TJ122 : State) (XJ122 : Stand p l e room_1 s m #[(.int p0), (.int p1), (.int p2), (.int p3), (.int p4)] below meth c TJ122 L118 2 5) (EJ122 : TJ122.heap = h118) (zj123 : Int32), zj123 = (if zj110 = (2 : Int32) then (1 : Int32) else (0 : Int32)) → own_G p e below (own_P s (own_W n0 (fun v _ => v = some (.int 1))) room_1.cells room_1.slots) (TJ122.setTop (mkF m 99 #[.val (.int p0), .val (.int p1), .val (.int p2), .val (.int p3), .val (.int p4), .val (.int (2 : Int32)), .val (.ref b102), .val (.int vg108), .val (.int zj110), .val (.ref b111), .unset, .unset] [(.int zj123)])) := by
        intro TJ122 XJ122 EJ122 zj123 hzj123
        refine own_via (fun t k => XS.istore XJ122.here hx rfl (hb hby at_99) rfl (l' := #[.val (.int p0), .val (.int p1), .val (.int p2), .val (.int p3), .val (.int p4), .val (.int (2 : Int32)), .val (.ref b102), .val (.int vg108), .val (.int zj110), .val (.ref b111), .val (.int zj123), .unset]) rfl k) ?_
        show own_G p e below _ (TJ122.setTop (mkF m 101 #[.val (.int p0), .val (.int p1), .val (.int p2), .val (.int p3), .val (.int p4), .val (.int (2 : Int32)), .val (.ref b102), .val (.int vg108), .val (.int zj110), .val (.ref b111), .val (.int zj123), .unset] []))
        obtain ⟨T124, h124, b124, X124, e124, E124, ga124, A124, D124, st124⟩ := own_newO XJ122 hx hZ hown (hw _ (List.mem_of_getElem? (i := 1) rfl)) (hw _ (List.mem_of_getElem? (i := 2) rfl)) (hw _ (List.mem_of_getElem? (i := 3) rfl)) EJ122 (pc := 101) (Ls := #[.val (.int p0), .val (.int p1), .val (.int p2), .val (.int p3), .val (.int p4), .val (.int (2 : Int32)), .val (.ref b102), .val (.int vg108), .val (.int zj110), .val (.ref b111), .val (.int zj123), .unset]) (rest := []) (hb hby at_101) (by decide) (by decide)
        refine own_via st124 ?_
        have ne125 : b102 ≠ b124 := Nat.ne_of_lt (Nat.lt_of_lt_of_le f119.lt (Nat.le_of_eq ga124.symm))
        have ne126 : b111 ≠ b124 := Nat.ne_of_lt (Nat.lt_of_lt_of_le o118_0.lt (Nat.le_of_eq ga124.symm))
        have f127 : Arv Z h124 b102 k102 .int (2 : Int32) [(.int p4), (.int (0 : Int32))] (.int (0 : Int32)) := f119.ext E124
        have f128 : Exa Z h124 b111 "com/example/dissoc/dissoc/ranking/Found" := o118_0.ext E124
        have f129 : Fld Z h124 b111 "com/example/dissoc/dissoc/ranking/Found" "tuple" "I" (.int p0) := o118_1.ext E124
        have f130 : Fld Z h124 b111 "com/example/dissoc/dissoc/ranking/Found" "contingency" "[I" (.ref b102) := o118_2.ext E124
        have f131 : Fld Z h124 b111 "com/example/dissoc/dissoc/ranking/Found" "lowerBound" "I" (.int zj110) := o118_3.ext E124
        have f132 : Fld Z h124 b124 "com/example/dissoc/dissoc/ranking/Found" "tuple" "I" (.int (0 : Int32)) := D124 (Or.inr (hw _ (List.mem_of_getElem? (i := 16) rfl))) (ty := .int) (by decide)
        have f133 : Fld Z h124 b124 "com/example/dissoc/dissoc/ranking/Found" "contingency" "[I" .null := D124 (Or.inr (hw _ (List.mem_of_getElem? (i := 18) rfl))) (ty := (.array .int)) (by decide)
        have f134 : Fld Z h124 b124 "com/example/dissoc/dissoc/ranking/Found" "lowerBound" "I" (.int (0 : Int32)) := D124 (Or.inr (hw _ (List.mem_of_getElem? (i := 20) rfl))) (ty := .int) (by decide)
        have g_b124 : n0 ≤ b124 := Nat.le_trans Zs121 (Nat.le_of_eq ga124.symm)
        have Zs135 : n0 ≤ h124.size := Nat.le_trans Zs121 E124.1
        show own_G p e below _ (T124.setTop (mkF m 104 #[.val (.int p0), .val (.int p1), .val (.int p2), .val (.int p3), .val (.int p4), .val (.int (2 : Int32)), .val (.ref b102), .val (.int vg108), .val (.int zj110), .val (.ref b111), .val (.int zj123), .unset] [(.ref b124)]))
        refine own_via (fun t k => XS.dup X124.here hx rfl (hb hby at_104) rfl rfl k) ?_
        show own_G p e below _ (T124.setTop (mkF m 105 #[.val (.int p0), .val (.int p1), .val (.int p2), .val (.int p3), .val (.int p4), .val (.int (2 : Int32)), .val (.ref b102), .val (.int vg108), .val (.int zj110), .val (.ref b111), .val (.int zj123), .unset] [(.ref b124), (.ref b124)]))
        refine own_via (fun t k => XS.iloadN X124.here hx rfl (hb hby at_105) rfl k) ?_
        show own_G p e below _ (T124.setTop (mkF m 106 #[.val (.int p0), .val (.int p1), .val (.int p2), .val (.int p3), .val (.int p4), .val (.int (2 : Int32)), .val (.ref b102), .val (.int vg108), .val (.int zj110), .val (.ref b111), .val (.int zj123), .unset] [(.int p0), (.ref b124), (.ref b124)]))
        refine own_via (fun t k => XS.aload X124.here hx rfl (hb hby at_106) rfl rfl k) ?_
        show own_G p e below _ (T124.setTop (mkF m 108 #[.val (.int p0), .val (.int p1), .val (.int p2), .val (.int p3), .val (.int p4), .val (.int (2 : Int32)), .val (.ref b102), .val (.int vg108), .val (.int zj110), .val (.ref b111), .val (.int zj123), .unset] [(.ref b102), (.int p0), (.ref b124), (.ref b124)]))
        obtain ⟨v136, T136, h136, L136, X136, N136, e136, hq136, st136⟩ := own_callI (y := (⟨"com/example/dissoc/dissoc/ranking/Found", "<init>", "(I[I)V"⟩ : MethodName)) (W := 1) (a := b124) X124 N118 hx hZ rfl hown (hw _ (List.mem_of_getElem? (i := 21) rfl)) (hw _ (List.mem_of_getElem? (i := 22) rfl)) (hw _ (List.mem_of_getElem? (i := 3) rfl)) (hw _ (List.mem_of_getElem? (i := 23) rfl)) (by decide) (own_c2 l Z a0 hw [] b124 p0 b102 (.int (0 : Int32)) (.null) (.int (0 : Int32)) k102 (2 : Int32) [(.int p4), (.int (0 : Int32))] (.int (0 : Int32)) h124 n0 Zs135 A124 f132 f133 f134 f127 g_b124) (by decide) (by decide) (by decide) (by decide) e124 (pc := 108) (Ls := #[.val (.int p0), .val (.int p1), .val (.int p2), .val (.int p3), .val (.int p4), .val (.int (2 : Int32)), .val (.ref b102), .val (.int vg108), .val (.int zj110), .val (.ref b111), .val (.int zj123), .unset]) (st := [(.ref b102), (.int p0), (.ref b124), (.ref b124)]) (argsL := [(.int p0), (.ref b102)]) (rest := [(.ref b124)]) (by rw [hml]; rfl) (lenOf own_pd2 rfl) rfl rfl (Nat.le_of_eq rfl) (hb hby at_108)
        obtain ⟨rfl, K136, o136_0, o136_1, o136_2, o136_3⟩ := hq136
        refine own_via st136 ?_
        have f137 : Arv Z h136 b102 k102 .int (2 : Int32) [(.int p4), (.int (0 : Int32))] (.int (0 : Int32)) := f127.keep K136 (by simp only [List.mem_cons, List.not_mem_nil, or_false, not_or]; exact ne125)
        have f138 : Exa Z h136 b111 "com/example/dissoc/dissoc/ranking/Found" := f128.keep K136
        have f139 : Fld Z h136 b111 "com/example/dissoc/dissoc/ranking/Found" "tuple" "I" (.int p0) := f129.keep K136 (by simp only [List.mem_cons, List.not_mem_nil, or_false, not_or]; exact ne126)
        have f140 : Fld Z h136 b111 "com/example/dissoc/dissoc/ranking/Found" "contingency" "[I" (.ref b102) := f130.keep K136 (by simp only [List.mem_cons, List.not_mem_nil, or_false, not_or]; exact ne126)
        have f141 : Fld Z h136 b111 "com/example/dissoc/dissoc/ranking/Found" "lowerBound" "I" (.int zj110) := f131.keep K136 (by simp only [List.mem_cons, List.not_mem_nil, or_false, not_or]; exact ne126)
        have f142 : Exa Z h136 b124 "com/example/dissoc/dissoc/ranking/Found" := A124.keep K136
        have Zs143 : n0 ≤ h136.size := Nat.le_trans Zs135 K136.1
        show own_G p e below _ (T136.setTop (mkF m 111 #[.val (.int p0), .val (.int p1), .val (.int p2), .val (.int p3), .val (.int p4), .val (.int (2 : Int32)), .val (.ref b102), .val (.int vg108), .val (.int zj110), .val (.ref b111), .val (.int zj123), .unset] [(.ref b124)]))
        refine own_via (fun t k => XS.astore X136.here hx rfl (hb hby at_111) rfl rfl (l' := #[.val (.int p0), .val (.int p1), .val (.int p2), .val (.int p3), .val (.int p4), .val (.int (2 : Int32)), .val (.ref b102), .val (.int vg108), .val (.int zj110), .val (.ref b111), .val (.int zj123), .val (.ref b124)]) rfl k) ?_
        show own_G p e below _ (T136.setTop (mkF m 113 #[.val (.int p0), .val (.int p1), .val (.int p2), .val (.int p3), .val (.int p4), .val (.int (2 : Int32)), .val (.ref b102), .val (.int vg108), .val (.int zj110), .val (.ref b111), .val (.int zj123), .val (.ref b124)] []))
        refine own_via (fun t k => XS.aload X136.here hx rfl (hb hby at_113) rfl rfl k) ?_
        show own_G p e below _ (T136.setTop (mkF m 115 #[.val (.int p0), .val (.int p1), .val (.int p2), .val (.int p3), .val (.int p4), .val (.int (2 : Int32)), .val (.ref b102), .val (.int vg108), .val (.int zj110), .val (.ref b111), .val (.int zj123), .val (.ref b124)] [(.ref b111)]))
        obtain ⟨T144, X144, e144, st144⟩ := own_callVP (y := (⟨"com/example/dissoc/dissoc/ranking/Found", "exact", "()Z"⟩ : MethodName)) (z := (⟨"com/example/dissoc/dissoc/ranking/Found", "exact", "()Z"⟩ : MethodName)) (W := 0) (a := b111) X136 hx hZ hown (hw _ (List.mem_of_getElem? (i := 25) rfl)) (hw _ (List.mem_of_getElem? (i := 26) rfl)) (notFace_of_selects (args := #[]) (mvT hZ (hw _ (List.mem_of_getElem? (i := 28) rfl)))) (hw _ (List.mem_of_getElem? (i := 28) rfl)) (hw _ (List.mem_of_getElem? (i := 27) rfl)) (hw _ (List.mem_of_getElem? (i := 3) rfl)) (hw _ (List.mem_of_getElem? (i := 29) rfl)) (by decide) (own_ex l Z a0 hw [] b111 b102 zj110 k102 (2 : Int32) [(.int p4), (.int (0 : Int32))] (.int (0 : Int32)) h136 f140 f141 f137) (by decide) (by decide) rfl rfl (by decide) (by decide) e136 f138 (pc := 115) (Ls := #[.val (.int p0), .val (.int p1), .val (.int p2), .val (.int p3), .val (.int p4), .val (.int (2 : Int32)), .val (.ref b102), .val (.int vg108), .val (.int zj110), .val (.ref b111), .val (.int zj123), .val (.ref b124)]) (st := [(.ref b111)]) (argsL := []) (rest := []) (by rw [hml]; rfl) (lenOf own_pd3 rfl) rfl rfl (Nat.le_of_eq rfl) (hb hby at_115)
        refine own_via st144 ?_
        show own_G p e below _ (T144.setTop (mkF m 118 #[.val (.int p0), .val (.int p1), .val (.int p2), .val (.int p3), .val (.int p4), .val (.int (2 : Int32)), .val (.ref b102), .val (.int vg108), .val (.int zj110), .val (.ref b111), .val (.int zj123), .val (.ref b124)] [(.int (own_Fex zj110 (2 : Int32)))]))
        refine own_via (fun t k => XS.iload X144.here hx rfl (hb hby at_118) rfl k) ?_
        show own_G p e below _ (T144.setTop (mkF m 120 #[.val (.int p0), .val (.int p1), .val (.int p2), .val (.int p3), .val (.int p4), .val (.int (2 : Int32)), .val (.ref b102), .val (.int vg108), .val (.int zj110), .val (.ref b111), .val (.int zj123), .val (.ref b124)] [(.int zj123), (.int (own_Fex zj110 (2 : Int32)))]))
        refine own_via (fun t k => XS.icmpNo X144.here hx rfl (hb hby at_120) rfl (teq (by subst hzj123; subst hzj110; subst hvg108; rfl)).2 k) ?_
        show own_G p e below _ (T144.setTop (mkF m 123 #[.val (.int p0), .val (.int p1), .val (.int p2), .val (.int p3), .val (.int p4), .val (.int (2 : Int32)), .val (.ref b102), .val (.int vg108), .val (.int zj110), .val (.ref b111), .val (.int zj123), .val (.ref b124)] []))
        refine own_via (fun t k => XS.aload X144.here hx rfl (hb hby at_123) rfl rfl k) ?_
        show own_G p e below _ (T144.setTop (mkF m 125 #[.val (.int p0), .val (.int p1), .val (.int p2), .val (.int p3), .val (.int p4), .val (.int (2 : Int32)), .val (.ref b102), .val (.int vg108), .val (.int zj110), .val (.ref b111), .val (.int zj123), .val (.ref b124)] [(.ref b124)]))
        obtain ⟨T145, X145, e145, st145⟩ := own_callVP (y := (⟨"com/example/dissoc/dissoc/ranking/Found", "exact", "()Z"⟩ : MethodName)) (z := (⟨"com/example/dissoc/dissoc/ranking/Found", "exact", "()Z"⟩ : MethodName)) (W := 0) (a := b124) X144 hx hZ hown (hw _ (List.mem_of_getElem? (i := 25) rfl)) (hw _ (List.mem_of_getElem? (i := 26) rfl)) (notFace_of_selects (args := #[]) (mvT hZ (hw _ (List.mem_of_getElem? (i := 28) rfl)))) (hw _ (List.mem_of_getElem? (i := 28) rfl)) (hw _ (List.mem_of_getElem? (i := 27) rfl)) (hw _ (List.mem_of_getElem? (i := 3) rfl)) (hw _ (List.mem_of_getElem? (i := 29) rfl)) (by decide) (own_ex l Z a0 hw [] b124 b102 (2 : Int32) k102 (2 : Int32) [(.int p4), (.int (0 : Int32))] (.int (0 : Int32)) h136 o136_2 o136_3 f137) (by decide) (by decide) rfl rfl (by decide) (by decide) e144 o136_0 (pc := 125) (Ls := #[.val (.int p0), .val (.int p1), .val (.int p2), .val (.int p3), .val (.int p4), .val (.int (2 : Int32)), .val (.ref b102), .val (.int vg108), .val (.int zj110), .val (.ref b111), .val (.int zj123), .val (.ref b124)]) (st := [(.ref b124)]) (argsL := []) (rest := []) (by rw [hml]; rfl) (lenOf own_pd3 rfl) rfl rfl (Nat.le_of_eq rfl) (hb hby at_125)
        refine own_via st145 ?_
        show own_G p e below _ (T145.setTop (mkF m 128 #[.val (.int p0), .val (.int p1), .val (.int p2), .val (.int p3), .val (.int p4), .val (.int (2 : Int32)), .val (.ref b102), .val (.int vg108), .val (.int zj110), .val (.ref b111), .val (.int zj123), .val (.ref b124)] [(.int (own_Fex (2 : Int32) (2 : Int32)))]))
        refine own_via (fun t k => XS.ifNo X145.here hx rfl (hb hby at_128) rfl ((if0 _ _).trans (feq (by decide)).1) k) ?_
        show own_G p e below _ (T145.setTop (mkF m 131 #[.val (.int p0), .val (.int p1), .val (.int p2), .val (.int p3), .val (.int p4), .val (.int (2 : Int32)), .val (.ref b102), .val (.int vg108), .val (.int zj110), .val (.ref b111), .val (.int zj123), .val (.ref b124)] []))
        refine own_via (fun t k => XS.iconst X145.here hx rfl (hb hby at_131) k) ?_
        show own_G p e below _ (T145.setTop (mkF m 132 #[.val (.int p0), .val (.int p1), .val (.int p2), .val (.int p3), .val (.int p4), .val (.int (2 : Int32)), .val (.ref b102), .val (.int vg108), .val (.int zj110), .val (.ref b111), .val (.int zj123), .val (.ref b124)] [(.int (1 : Int32))]))
        refine own_via (fun t k => XS.goto X145.here hx rfl (pc0 := 132) (pc' := 136) rfl (hb hby at_132) (by decide) (by decide) k) ?_
        show own_G p e below _ (T145.setTop (mkF m 136 #[.val (.int p0), .val (.int p1), .val (.int p2), .val (.int p3), .val (.int p4), .val (.int (2 : Int32)), .val (.ref b102), .val (.int vg108), .val (.int zj110), .val (.ref b111), .val (.int zj123), .val (.ref b124)] [(.int (1 : Int32))]))
        exact own_retN (t := .boolean) X145 hx Bd.returns (by simp) Bd.notSynchronized (hb hby at_136) ⟨N136, rfl⟩ (by decide) (by decide)
      by_cases hc146 : zj110 = (2 : Int32)
      ·
        refine own_via (fun t k => XS.icmpNo X118.here hx rfl (hb hby at_91) rfl (teq hc146).2 k) ?_
        show own_G p e below _ (T118.setTop (mkF m 94 #[.val (.int p0), .val (.int p1), .val (.int p2), .val (.int p3), .val (.int p4), .val (.int (2 : Int32)), .val (.ref b102), .val (.int vg108), .val (.int zj110), .val (.ref b111), .unset, .unset] []))
        refine own_via (fun t k => XS.iconst X118.here hx rfl (hb hby at_94) k) ?_
        show own_G p e below _ (T118.setTop (mkF m 95 #[.val (.int p0), .val (.int p1), .val (.int p2), .val (.int p3), .val (.int p4), .val (.int (2 : Int32)), .val (.ref b102), .val (.int vg108), .val (.int zj110), .val (.ref b111), .unset, .unset] [(.int (1 : Int32))]))
        refine own_via (fun t k => XS.goto X118.here hx rfl (pc0 := 95) (pc' := 99) rfl (hb hby at_95) (by decide) (by decide) k) ?_
        show own_G p e below _ (T118.setTop (mkF m 99 #[.val (.int p0), .val (.int p1), .val (.int p2), .val (.int p3), .val (.int p4), .val (.int (2 : Int32)), .val (.ref b102), .val (.int vg108), .val (.int zj110), .val (.ref b111), .unset, .unset] [(.int (1 : Int32))]))
        exact J122 _ X118 e118 _ (by simp only [if_pos hc146])
      ·
        refine own_via (fun t k => XS.icmpYes X118.here hx rfl (pc0 := 91) (pc' := 98) rfl (hb hby at_91) rfl (feq hc146).2 (by decide) (by decide) k) ?_
        show own_G p e below _ (T118.setTop (mkF m 98 #[.val (.int p0), .val (.int p1), .val (.int p2), .val (.int p3), .val (.int p4), .val (.int (2 : Int32)), .val (.ref b102), .val (.int vg108), .val (.int zj110), .val (.ref b111), .unset, .unset] []))
        refine own_via (fun t k => XS.iconst X118.here hx rfl (hb hby at_98) k) ?_
        show own_G p e below _ (T118.setTop (mkF m 99 #[.val (.int p0), .val (.int p1), .val (.int p2), .val (.int p3), .val (.int p4), .val (.int (2 : Int32)), .val (.ref b102), .val (.int vg108), .val (.int zj110), .val (.ref b111), .unset, .unset] [(.int (0 : Int32))]))
        exact J122 _ X118 e118 _ (by simp only [if_neg hc146])
    by_cases hc147 : vg108 = (0 : Int32)
    ·
      refine own_via (fun t k => XS.ifNo X105.here hx rfl (hb hby at_30) rfl ((if0 _ _).trans (teq hc147).2) k) ?_
      show own_G p e below _ (T105.setTop (mkF m 33 #[.val (.int p0), .val (.int p1), .val (.int p2), .val (.int p3), .val (.int p4), .val (.int (2 : Int32)), .val (.ref b102), .val (.int vg108), .unset, .unset, .unset, .unset] []))
      refine own_via (fun t k => XS.iload X105.here hx rfl (hb hby at_33) rfl k) ?_
      show own_G p e below _ (T105.setTop (mkF m 35 #[.val (.int p0), .val (.int p1), .val (.int p2), .val (.int p3), .val (.int p4), .val (.int (2 : Int32)), .val (.ref b102), .val (.int vg108), .unset, .unset, .unset, .unset] [(.int (2 : Int32))]))
      refine own_via (fun t k => XS.istore X105.here hx rfl (hb hby at_35) rfl (l' := #[.val (.int p0), .val (.int p1), .val (.int p2), .val (.int p3), .val (.int p4), .val (.int (2 : Int32)), .val (.ref b102), .val (.int vg108), .val (.int (2 : Int32)), .unset, .unset, .unset]) rfl k) ?_
      show own_G p e below _ (T105.setTop (mkF m 37 #[.val (.int p0), .val (.int p1), .val (.int p2), .val (.int p3), .val (.int p4), .val (.int (2 : Int32)), .val (.ref b102), .val (.int vg108), .val (.int (2 : Int32)), .unset, .unset, .unset] []))
      refine own_via (fun t k => XS.goto X105.here hx rfl (pc0 := 37) (pc' := 73) rfl (hb hby at_37) (by decide) (by decide) k) ?_
      show own_G p e below _ (T105.setTop (mkF m 73 #[.val (.int p0), .val (.int p1), .val (.int p2), .val (.int p3), .val (.int p4), .val (.int (2 : Int32)), .val (.ref b102), .val (.int vg108), .val (.int (2 : Int32)), .unset, .unset, .unset] []))
      exact J109 _ X105 e105 _ (by simp only [if_pos hc147])
    ·
      refine own_via (fun t k => XS.ifYes X105.here hx rfl (pc0 := 30) (pc' := 40) rfl (hb hby at_30) rfl ((if0 _ _).trans (feq hc147).2) (by decide) (by decide) k) ?_
      show own_G p e below _ (T105.setTop (mkF m 40 #[.val (.int p0), .val (.int p1), .val (.int p2), .val (.int p3), .val (.int p4), .val (.int (2 : Int32)), .val (.ref b102), .val (.int vg108), .unset, .unset, .unset, .unset] []))
      refine own_via (fun t k => XS.iload X105.here hx rfl (hb hby at_40) rfl k) ?_
      show own_G p e below _ (T105.setTop (mkF m 42 #[.val (.int p0), .val (.int p1), .val (.int p2), .val (.int p3), .val (.int p4), .val (.int (2 : Int32)), .val (.ref b102), .val (.int vg108), .unset, .unset, .unset, .unset] [(.int vg108)]))
      refine own_via (fun t k => XS.iconst X105.here hx rfl (hb hby at_42) k) ?_
      show own_G p e below _ (T105.setTop (mkF m 43 #[.val (.int p0), .val (.int p1), .val (.int p2), .val (.int p3), .val (.int p4), .val (.int (2 : Int32)), .val (.ref b102), .val (.int vg108), .unset, .unset, .unset, .unset] [(.int (1 : Int32)), (.int vg108)]))
      by_cases hc148 : vg108 = (1 : Int32)
      ·
        refine own_via (fun t k => XS.icmpNo X105.here hx rfl (hb hby at_43) rfl (teq hc148).2 k) ?_
        show own_G p e below _ (T105.setTop (mkF m 46 #[.val (.int p0), .val (.int p1), .val (.int p2), .val (.int p3), .val (.int p4), .val (.int (2 : Int32)), .val (.ref b102), .val (.int vg108), .unset, .unset, .unset, .unset] []))
        refine own_via (fun t k => XS.iload X105.here hx rfl (hb hby at_46) rfl k) ?_
        show own_G p e below _ (T105.setTop (mkF m 48 #[.val (.int p0), .val (.int p1), .val (.int p2), .val (.int p3), .val (.int p4), .val (.int (2 : Int32)), .val (.ref b102), .val (.int vg108), .unset, .unset, .unset, .unset] [(.int (2 : Int32))]))
        refine own_via (fun t k => XS.iconst X105.here hx rfl (hb hby at_48) k) ?_
        show own_G p e below _ (T105.setTop (mkF m 49 #[.val (.int p0), .val (.int p1), .val (.int p2), .val (.int p3), .val (.int p4), .val (.int (2 : Int32)), .val (.ref b102), .val (.int vg108), .unset, .unset, .unset, .unset] [(.int (1 : Int32)), (.int (2 : Int32))]))
        refine own_via (fun t k => XS.isub X105.here hx rfl (hb hby at_49) rfl k) ?_
        show own_G p e below _ (T105.setTop (mkF m 50 #[.val (.int p0), .val (.int p1), .val (.int p2), .val (.int p3), .val (.int p4), .val (.int (2 : Int32)), .val (.ref b102), .val (.int vg108), .unset, .unset, .unset, .unset] [(.int (1 : Int32))]))
        refine own_via (fun t k => XS.istore X105.here hx rfl (hb hby at_50) rfl (l' := #[.val (.int p0), .val (.int p1), .val (.int p2), .val (.int p3), .val (.int p4), .val (.int (2 : Int32)), .val (.ref b102), .val (.int vg108), .val (.int (1 : Int32)), .unset, .unset, .unset]) rfl k) ?_
        show own_G p e below _ (T105.setTop (mkF m 52 #[.val (.int p0), .val (.int p1), .val (.int p2), .val (.int p3), .val (.int p4), .val (.int (2 : Int32)), .val (.ref b102), .val (.int vg108), .val (.int (1 : Int32)), .unset, .unset, .unset] []))
        refine own_via (fun t k => XS.goto X105.here hx rfl (pc0 := 52) (pc' := 73) rfl (hb hby at_52) (by decide) (by decide) k) ?_
        show own_G p e below _ (T105.setTop (mkF m 73 #[.val (.int p0), .val (.int p1), .val (.int p2), .val (.int p3), .val (.int p4), .val (.int (2 : Int32)), .val (.ref b102), .val (.int vg108), .val (.int (1 : Int32)), .unset, .unset, .unset] []))
        exact J109 _ X105 e105 _ (by simp only [if_neg hc147, if_pos hc148])
      ·
        refine own_via (fun t k => XS.icmpYes X105.here hx rfl (pc0 := 43) (pc' := 55) rfl (hb hby at_43) rfl (feq hc148).2 (by decide) (by decide) k) ?_
        show own_G p e below _ (T105.setTop (mkF m 55 #[.val (.int p0), .val (.int p1), .val (.int p2), .val (.int p3), .val (.int p4), .val (.int (2 : Int32)), .val (.ref b102), .val (.int vg108), .unset, .unset, .unset, .unset] []))
        refine own_via (fun t k => XS.iload X105.here hx rfl (hb hby at_55) rfl k) ?_
        show own_G p e below _ (T105.setTop (mkF m 57 #[.val (.int p0), .val (.int p1), .val (.int p2), .val (.int p3), .val (.int p4), .val (.int (2 : Int32)), .val (.ref b102), .val (.int vg108), .unset, .unset, .unset, .unset] [(.int vg108)]))
        refine own_via (fun t k => XS.iconst X105.here hx rfl (hb hby at_57) k) ?_
        show own_G p e below _ (T105.setTop (mkF m 58 #[.val (.int p0), .val (.int p1), .val (.int p2), .val (.int p3), .val (.int p4), .val (.int (2 : Int32)), .val (.ref b102), .val (.int vg108), .unset, .unset, .unset, .unset] [(.int (2 : Int32)), (.int vg108)]))
        by_cases hc149 : vg108 = (2 : Int32)
        ·
          refine own_via (fun t k => XS.icmpNo X105.here hx rfl (hb hby at_58) rfl (teq hc149).2 k) ?_
          show own_G p e below _ (T105.setTop (mkF m 61 #[.val (.int p0), .val (.int p1), .val (.int p2), .val (.int p3), .val (.int p4), .val (.int (2 : Int32)), .val (.ref b102), .val (.int vg108), .unset, .unset, .unset, .unset] []))
          refine own_via (fun t k => XS.iload X105.here hx rfl (hb hby at_61) rfl k) ?_
          show own_G p e below _ (T105.setTop (mkF m 63 #[.val (.int p0), .val (.int p1), .val (.int p2), .val (.int p3), .val (.int p4), .val (.int (2 : Int32)), .val (.ref b102), .val (.int vg108), .unset, .unset, .unset, .unset] [(.int (2 : Int32))]))
          refine own_via (fun t k => XS.iconst X105.here hx rfl (hb hby at_63) k) ?_
          show own_G p e below _ (T105.setTop (mkF m 64 #[.val (.int p0), .val (.int p1), .val (.int p2), .val (.int p3), .val (.int p4), .val (.int (2 : Int32)), .val (.ref b102), .val (.int vg108), .unset, .unset, .unset, .unset] [(.int (1 : Int32)), (.int (2 : Int32))]))
          refine own_via (fun t k => XS.iadd X105.here hx rfl (hb hby at_64) rfl k) ?_
          show own_G p e below _ (T105.setTop (mkF m 65 #[.val (.int p0), .val (.int p1), .val (.int p2), .val (.int p3), .val (.int p4), .val (.int (2 : Int32)), .val (.ref b102), .val (.int vg108), .unset, .unset, .unset, .unset] [(.int (3 : Int32))]))
          refine own_via (fun t k => XS.istore X105.here hx rfl (hb hby at_65) rfl (l' := #[.val (.int p0), .val (.int p1), .val (.int p2), .val (.int p3), .val (.int p4), .val (.int (2 : Int32)), .val (.ref b102), .val (.int vg108), .val (.int (3 : Int32)), .unset, .unset, .unset]) rfl k) ?_
          show own_G p e below _ (T105.setTop (mkF m 67 #[.val (.int p0), .val (.int p1), .val (.int p2), .val (.int p3), .val (.int p4), .val (.int (2 : Int32)), .val (.ref b102), .val (.int vg108), .val (.int (3 : Int32)), .unset, .unset, .unset] []))
          refine own_via (fun t k => XS.goto X105.here hx rfl (pc0 := 67) (pc' := 73) rfl (hb hby at_67) (by decide) (by decide) k) ?_
          show own_G p e below _ (T105.setTop (mkF m 73 #[.val (.int p0), .val (.int p1), .val (.int p2), .val (.int p3), .val (.int p4), .val (.int (2 : Int32)), .val (.ref b102), .val (.int vg108), .val (.int (3 : Int32)), .unset, .unset, .unset] []))
          exact J109 _ X105 e105 _ (by simp only [if_neg hc147, if_neg hc148, if_pos hc149])
        ·
          refine own_via (fun t k => XS.icmpYes X105.here hx rfl (pc0 := 58) (pc' := 70) rfl (hb hby at_58) rfl (feq hc149).2 (by decide) (by decide) k) ?_
          show own_G p e below _ (T105.setTop (mkF m 70 #[.val (.int p0), .val (.int p1), .val (.int p2), .val (.int p3), .val (.int p4), .val (.int (2 : Int32)), .val (.ref b102), .val (.int vg108), .unset, .unset, .unset, .unset] []))
          refine own_via (fun t k => XS.iloadN X105.here hx rfl (hb hby at_70) rfl k) ?_
          show own_G p e below _ (T105.setTop (mkF m 71 #[.val (.int p0), .val (.int p1), .val (.int p2), .val (.int p3), .val (.int p4), .val (.int (2 : Int32)), .val (.ref b102), .val (.int vg108), .unset, .unset, .unset, .unset] [(.int p2)]))
          refine own_via (fun t k => XS.istore X105.here hx rfl (hb hby at_71) rfl (l' := #[.val (.int p0), .val (.int p1), .val (.int p2), .val (.int p3), .val (.int p4), .val (.int (2 : Int32)), .val (.ref b102), .val (.int vg108), .val (.int p2), .unset, .unset, .unset]) rfl k) ?_
          show own_G p e below _ (T105.setTop (mkF m 73 #[.val (.int p0), .val (.int p1), .val (.int p2), .val (.int p3), .val (.int p4), .val (.int (2 : Int32)), .val (.ref b102), .val (.int vg108), .val (.int p2), .unset, .unset, .unset] []))
          exact J109 _ X105 e105 _ (by simp only [if_neg hc147, if_neg hc148, if_neg hc149])
  ·
    rw [hs4]
    show own_G p e below _ (s₁.setTop (mkF m 4 #[.val (.int p0), .val (.int p1), .val (.int p2), .val (.int p3), .val (.int p4), .unset, .unset, .unset, .unset, .unset, .unset, .unset] [(.int (3 : Int32))]))
    refine own_via (fun t k => XS.istore X0.here hx rfl (hb hby at_4) rfl (l' := #[.val (.int p0), .val (.int p1), .val (.int p2), .val (.int p3), .val (.int p4), .val (.int (3 : Int32)), .unset, .unset, .unset, .unset, .unset, .unset]) rfl k) ?_
    show own_G p e below _ (s₁.setTop (mkF m 6 #[.val (.int p0), .val (.int p1), .val (.int p2), .val (.int p3), .val (.int p4), .val (.int (3 : Int32)), .unset, .unset, .unset, .unset, .unset, .unset] []))
    refine own_via (fun t k => XS.iload X0.here hx rfl (hb hby at_6) rfl k) ?_
    show own_G p e below _ (s₁.setTop (mkF m 8 #[.val (.int p0), .val (.int p1), .val (.int p2), .val (.int p3), .val (.int p4), .val (.int (3 : Int32)), .unset, .unset, .unset, .unset, .unset, .unset] [(.int (3 : Int32))]))
    obtain ⟨T150, h150, k150, b150, X150, e150, E150, ga150, V150, Ex150, st150⟩ := own_newA X0 hx hZ (hw _ (List.mem_of_getElem? (i := 0) rfl)) e0 (pc := 8) (Ls := #[.val (.int p0), .val (.int p1), .val (.int p2), .val (.int p3), .val (.int p4), .val (.int (3 : Int32)), .unset, .unset, .unset, .unset, .unset, .unset]) (rest := []) (hb hby at_8) (n := (3 : Int32)) (by decide) (cap := 3) (by decide) (by decide) (by decide) (by decide) 3 rfl
    refine own_via st150 ?_
    have f151 : Arv Z h150 b150 k150 .int (3 : Int32) [(.int (0 : Int32)), (.int (0 : Int32)), (.int (0 : Int32))] (.int (0 : Int32)) := V150
    have g_b150 : n0 ≤ b150 := Nat.le_trans Z0 (Nat.le_of_eq ga150.symm)
    have Zs152 : n0 ≤ h150.size := Nat.le_trans Z0 E150.1
    show own_G p e below _ (T150.setTop (mkF m 10 #[.val (.int p0), .val (.int p1), .val (.int p2), .val (.int p3), .val (.int p4), .val (.int (3 : Int32)), .unset, .unset, .unset, .unset, .unset, .unset] [(.ref b150)]))
    refine own_via (fun t k => XS.astore X150.here hx rfl (hb hby at_10) rfl rfl (l' := #[.val (.int p0), .val (.int p1), .val (.int p2), .val (.int p3), .val (.int p4), .val (.int (3 : Int32)), .val (.ref b150), .unset, .unset, .unset, .unset, .unset]) rfl k) ?_
    show own_G p e below _ (T150.setTop (mkF m 12 #[.val (.int p0), .val (.int p1), .val (.int p2), .val (.int p3), .val (.int p4), .val (.int (3 : Int32)), .val (.ref b150), .unset, .unset, .unset, .unset, .unset] []))
    refine own_via (fun t k => XS.iload X150.here hx rfl (hb hby at_12) rfl k) ?_
    show own_G p e below _ (T150.setTop (mkF m 14 #[.val (.int p0), .val (.int p1), .val (.int p2), .val (.int p3), .val (.int p4), .val (.int (3 : Int32)), .val (.ref b150), .unset, .unset, .unset, .unset, .unset] [(.int (3 : Int32))]))
    refine own_via (fun t k => XS.ifNo X150.here hx rfl (hb hby at_14) rfl ((if0 _ _).trans (tlt (by decide : (0 : Int32) < (3 : Int32))).2.2.2) k) ?_
    show own_G p e below _ (T150.setTop (mkF m 17 #[.val (.int p0), .val (.int p1), .val (.int p2), .val (.int p3), .val (.int p4), .val (.int (3 : Int32)), .val (.ref b150), .unset, .unset, .unset, .unset, .unset] []))
    refine own_via (fun t k => XS.aload X150.here hx rfl (hb hby at_17) rfl rfl k) ?_
    show own_G p e below _ (T150.setTop (mkF m 19 #[.val (.int p0), .val (.int p1), .val (.int p2), .val (.int p3), .val (.int p4), .val (.int (3 : Int32)), .val (.ref b150), .unset, .unset, .unset, .unset, .unset] [(.ref b150)]))
    refine own_via (fun t k => XS.iconst X150.here hx rfl (hb hby at_19) k) ?_
    show own_G p e below _ (T150.setTop (mkF m 20 #[.val (.int p0), .val (.int p1), .val (.int p2), .val (.int p3), .val (.int p4), .val (.int (3 : Int32)), .val (.ref b150), .unset, .unset, .unset, .unset, .unset] [(.int (0 : Int32)), (.ref b150)]))
    refine own_via (fun t k => XS.iload X150.here hx rfl (hb hby at_20) rfl k) ?_
    show own_G p e below _ (T150.setTop (mkF m 22 #[.val (.int p0), .val (.int p1), .val (.int p2), .val (.int p3), .val (.int p4), .val (.int (3 : Int32)), .val (.ref b150), .unset, .unset, .unset, .unset, .unset] [(.int p4), (.int (0 : Int32)), (.ref b150)]))
    obtain ⟨T153, h153, L153, X153, N153, e153, W153, V153, st153⟩ := own_stI X150 N0 hx hZ e150 f151 g_b150 (j := (0 : Int32)) (x := p4) (i := 0) ⟨by decide, by decide⟩ rfl (Nat.le_of_ble_eq_true rfl) (pc := 22) (Ls := #[.val (.int p0), .val (.int p1), .val (.int p2), .val (.int p3), .val (.int p4), .val (.int (3 : Int32)), .val (.ref b150), .unset, .unset, .unset, .unset, .unset]) (rest := []) (hb hby at_22)
    refine own_via st153 ?_
    have f154 : Arv Z h153 b150 k150 .int (3 : Int32) [(.int p4), (.int (0 : Int32)), (.int (0 : Int32))] (.int (0 : Int32)) := V153
    have Zs155 : n0 ≤ h153.size := by rw [W153.size]; exact Zs152
    show own_G p e below _ (T153.setTop (mkF m 23 #[.val (.int p0), .val (.int p1), .val (.int p2), .val (.int p3), .val (.int p4), .val (.int (3 : Int32)), .val (.ref b150), .unset, .unset, .unset, .unset, .unset] []))
    refine own_via (fun t k => XS.iloadN X153.here hx rfl (hb hby at_23) rfl k) ?_
    show own_G p e below _ (T153.setTop (mkF m 24 #[.val (.int p0), .val (.int p1), .val (.int p2), .val (.int p3), .val (.int p4), .val (.int (3 : Int32)), .val (.ref b150), .unset, .unset, .unset, .unset, .unset] [(.int p3)]))
    refine own_via (fun t k => XS.iconst X153.here hx rfl (hb hby at_24) k) ?_
    show own_G p e below _ (T153.setTop (mkF m 25 #[.val (.int p0), .val (.int p1), .val (.int p2), .val (.int p3), .val (.int p4), .val (.int (3 : Int32)), .val (.ref b150), .unset, .unset, .unset, .unset, .unset] [(.int (3 : Int32)), (.int p3)]))
    refine own_via (fun t k => XS.iand X153.here hx rfl (hb hby at_25) rfl k) ?_
    show own_G p e below _ (T153.setTop (mkF m 26 #[.val (.int p0), .val (.int p1), .val (.int p2), .val (.int p3), .val (.int p4), .val (.int (3 : Int32)), .val (.ref b150), .unset, .unset, .unset, .unset, .unset] [(.int (p3 &&& (3 : Int32)))]))
    generalize hvg156 : (p3 &&& (3 : Int32)) = vg156
    show own_G p e below _ (T153.setTop (mkF m 26 #[.val (.int p0), .val (.int p1), .val (.int p2), .val (.int p3), .val (.int p4), .val (.int (3 : Int32)), .val (.ref b150), .unset, .unset, .unset, .unset, .unset] [(.int vg156)]))
    refine own_via (fun t k => XS.istore X153.here hx rfl (hb hby at_26) rfl (l' := #[.val (.int p0), .val (.int p1), .val (.int p2), .val (.int p3), .val (.int p4), .val (.int (3 : Int32)), .val (.ref b150), .val (.int vg156), .unset, .unset, .unset, .unset]) rfl k) ?_
    show own_G p e below _ (T153.setTop (mkF m 28 #[.val (.int p0), .val (.int p1), .val (.int p2), .val (.int p3), .val (.int p4), .val (.int (3 : Int32)), .val (.ref b150), .val (.int vg156), .unset, .unset, .unset, .unset] []))
    refine own_via (fun t k => XS.iload X153.here hx rfl (hb hby at_28) rfl k) ?_
    show own_G p e below _ (T153.setTop (mkF m 30 #[.val (.int p0), .val (.int p1), .val (.int p2), .val (.int p3), .val (.int p4), .val (.int (3 : Int32)), .val (.ref b150), .val (.int vg156), .unset, .unset, .unset, .unset] [(.int vg156)]))
    have J157 : ∀ (TJ157 : State) (XJ157 : Stand p l e room_1 s m #[(.int p0), (.int p1), (.int p2), (.int p3), (.int p4)] below meth c TJ157 L153 1 3) (EJ157 : TJ157.heap = h153) (zj158 : Int32), zj158 = (if vg156 = (0 : Int32) then (3 : Int32) else (if vg156 = (1 : Int32) then (2 : Int32) else (if vg156 = (2 : Int32) then (4 : Int32) else p2))) → own_G p e below (own_P s (own_W n0 (fun v _ => v = some (.int 1))) room_1.cells room_1.slots) (TJ157.setTop (mkF m 73 #[.val (.int p0), .val (.int p1), .val (.int p2), .val (.int p3), .val (.int p4), .val (.int (3 : Int32)), .val (.ref b150), .val (.int vg156), .val (.int zj158), .unset, .unset, .unset] [])) := by
      intro TJ157 XJ157 EJ157 zj158 hzj158
      obtain ⟨T159, h159, b159, X159, e159, E159, ga159, A159, D159, st159⟩ := own_newO XJ157 hx hZ hown (hw _ (List.mem_of_getElem? (i := 1) rfl)) (hw _ (List.mem_of_getElem? (i := 2) rfl)) (hw _ (List.mem_of_getElem? (i := 3) rfl)) EJ157 (pc := 73) (Ls := #[.val (.int p0), .val (.int p1), .val (.int p2), .val (.int p3), .val (.int p4), .val (.int (3 : Int32)), .val (.ref b150), .val (.int vg156), .val (.int zj158), .unset, .unset, .unset]) (rest := []) (hb hby at_73) (by decide) (by decide)
      refine own_via st159 ?_
      have ne160 : b150 ≠ b159 := Nat.ne_of_lt (Nat.lt_of_lt_of_le f154.lt (Nat.le_of_eq ga159.symm))
      have f161 : Arv Z h159 b150 k150 .int (3 : Int32) [(.int p4), (.int (0 : Int32)), (.int (0 : Int32))] (.int (0 : Int32)) := f154.ext E159
      have f162 : Fld Z h159 b159 "com/example/dissoc/dissoc/ranking/Found" "tuple" "I" (.int (0 : Int32)) := D159 (Or.inr (hw _ (List.mem_of_getElem? (i := 16) rfl))) (ty := .int) (by decide)
      have f163 : Fld Z h159 b159 "com/example/dissoc/dissoc/ranking/Found" "contingency" "[I" .null := D159 (Or.inr (hw _ (List.mem_of_getElem? (i := 18) rfl))) (ty := (.array .int)) (by decide)
      have f164 : Fld Z h159 b159 "com/example/dissoc/dissoc/ranking/Found" "lowerBound" "I" (.int (0 : Int32)) := D159 (Or.inr (hw _ (List.mem_of_getElem? (i := 20) rfl))) (ty := .int) (by decide)
      have g_b159 : n0 ≤ b159 := Nat.le_trans Zs155 (Nat.le_of_eq ga159.symm)
      have Zs165 : n0 ≤ h159.size := Nat.le_trans Zs155 E159.1
      show own_G p e below _ (T159.setTop (mkF m 76 #[.val (.int p0), .val (.int p1), .val (.int p2), .val (.int p3), .val (.int p4), .val (.int (3 : Int32)), .val (.ref b150), .val (.int vg156), .val (.int zj158), .unset, .unset, .unset] [(.ref b159)]))
      refine own_via (fun t k => XS.dup X159.here hx rfl (hb hby at_76) rfl rfl k) ?_
      show own_G p e below _ (T159.setTop (mkF m 77 #[.val (.int p0), .val (.int p1), .val (.int p2), .val (.int p3), .val (.int p4), .val (.int (3 : Int32)), .val (.ref b150), .val (.int vg156), .val (.int zj158), .unset, .unset, .unset] [(.ref b159), (.ref b159)]))
      refine own_via (fun t k => XS.iloadN X159.here hx rfl (hb hby at_77) rfl k) ?_
      show own_G p e below _ (T159.setTop (mkF m 78 #[.val (.int p0), .val (.int p1), .val (.int p2), .val (.int p3), .val (.int p4), .val (.int (3 : Int32)), .val (.ref b150), .val (.int vg156), .val (.int zj158), .unset, .unset, .unset] [(.int p0), (.ref b159), (.ref b159)]))
      refine own_via (fun t k => XS.aload X159.here hx rfl (hb hby at_78) rfl rfl k) ?_
      show own_G p e below _ (T159.setTop (mkF m 80 #[.val (.int p0), .val (.int p1), .val (.int p2), .val (.int p3), .val (.int p4), .val (.int (3 : Int32)), .val (.ref b150), .val (.int vg156), .val (.int zj158), .unset, .unset, .unset] [(.ref b150), (.int p0), (.ref b159), (.ref b159)]))
      refine own_via (fun t k => XS.iload X159.here hx rfl (hb hby at_80) rfl k) ?_
      show own_G p e below _ (T159.setTop (mkF m 82 #[.val (.int p0), .val (.int p1), .val (.int p2), .val (.int p3), .val (.int p4), .val (.int (3 : Int32)), .val (.ref b150), .val (.int vg156), .val (.int zj158), .unset, .unset, .unset] [(.int zj158), (.ref b150), (.int p0), (.ref b159), (.ref b159)]))
      obtain ⟨v166, T166, h166, L166, X166, N166, e166, hq166, st166⟩ := own_callI (y := (⟨"com/example/dissoc/dissoc/ranking/Found", "<init>", "(I[II)V"⟩ : MethodName)) (W := 1) (a := b159) X159 N153 hx hZ rfl hown (hw _ (List.mem_of_getElem? (i := 4) rfl)) (hw _ (List.mem_of_getElem? (i := 5) rfl)) (hw _ (List.mem_of_getElem? (i := 3) rfl)) (hw _ (List.mem_of_getElem? (i := 6) rfl)) (by decide) (own_c3 l Z a0 hw [] b159 p0 b150 zj158 (.int (0 : Int32)) (.null) (.int (0 : Int32)) h159 n0 Zs165 A159 f162 f163 f164 g_b159) (by decide) (by decide) (by decide) (by decide) e159 (pc := 82) (Ls := #[.val (.int p0), .val (.int p1), .val (.int p2), .val (.int p3), .val (.int p4), .val (.int (3 : Int32)), .val (.ref b150), .val (.int vg156), .val (.int zj158), .unset, .unset, .unset]) (st := [(.int zj158), (.ref b150), (.int p0), (.ref b159), (.ref b159)]) (argsL := [(.int p0), (.ref b150), (.int zj158)]) (rest := [(.ref b159)]) (by rw [hml]; rfl) (lenOf own_pd1 rfl) rfl rfl (Nat.le_of_eq rfl) (hb hby at_82)
      obtain ⟨rfl, K166, o166_0, o166_1, o166_2, o166_3⟩ := hq166
      refine own_via st166 ?_
      have f167 : Arv Z h166 b150 k150 .int (3 : Int32) [(.int p4), (.int (0 : Int32)), (.int (0 : Int32))] (.int (0 : Int32)) := f161.keep K166 (by simp only [List.mem_cons, List.not_mem_nil, or_false, not_or]; exact ne160)
      have f168 : Exa Z h166 b159 "com/example/dissoc/dissoc/ranking/Found" := A159.keep K166
      have Zs169 : n0 ≤ h166.size := Nat.le_trans Zs165 K166.1
      show own_G p e below _ (T166.setTop (mkF m 85 #[.val (.int p0), .val (.int p1), .val (.int p2), .val (.int p3), .val (.int p4), .val (.int (3 : Int32)), .val (.ref b150), .val (.int vg156), .val (.int zj158), .unset, .unset, .unset] [(.ref b159)]))
      refine own_via (fun t k => XS.astore X166.here hx rfl (hb hby at_85) rfl rfl (l' := #[.val (.int p0), .val (.int p1), .val (.int p2), .val (.int p3), .val (.int p4), .val (.int (3 : Int32)), .val (.ref b150), .val (.int vg156), .val (.int zj158), .val (.ref b159), .unset, .unset]) rfl k) ?_
      show own_G p e below _ (T166.setTop (mkF m 87 #[.val (.int p0), .val (.int p1), .val (.int p2), .val (.int p3), .val (.int p4), .val (.int (3 : Int32)), .val (.ref b150), .val (.int vg156), .val (.int zj158), .val (.ref b159), .unset, .unset] []))
      refine own_via (fun t k => XS.iload X166.here hx rfl (hb hby at_87) rfl k) ?_
      show own_G p e below _ (T166.setTop (mkF m 89 #[.val (.int p0), .val (.int p1), .val (.int p2), .val (.int p3), .val (.int p4), .val (.int (3 : Int32)), .val (.ref b150), .val (.int vg156), .val (.int zj158), .val (.ref b159), .unset, .unset] [(.int zj158)]))
      refine own_via (fun t k => XS.iload X166.here hx rfl (hb hby at_89) rfl k) ?_
      show own_G p e below _ (T166.setTop (mkF m 91 #[.val (.int p0), .val (.int p1), .val (.int p2), .val (.int p3), .val (.int p4), .val (.int (3 : Int32)), .val (.ref b150), .val (.int vg156), .val (.int zj158), .val (.ref b159), .unset, .unset] [(.int (3 : Int32)), (.int zj158)]))
      have J170 : ∀ (TJ170 : State) (XJ170 : Stand p l e room_1 s m #[(.int p0), (.int p1), (.int p2), (.int p3), (.int p4)] below meth c TJ170 L166 2 6) (EJ170 : TJ170.heap = h166) (zj171 : Int32), zj171 = (if zj158 = (3 : Int32) then (1 : Int32) else (0 : Int32)) → own_G p e below (own_P s (own_W n0 (fun v _ => v = some (.int 1))) room_1.cells room_1.slots) (TJ170.setTop (mkF m 99 #[.val (.int p0), .val (.int p1), .val (.int p2), .val (.int p3), .val (.int p4), .val (.int (3 : Int32)), .val (.ref b150), .val (.int vg156), .val (.int zj158), .val (.ref b159), .unset, .unset] [(.int zj171)])) := by
        intro TJ170 XJ170 EJ170 zj171 hzj171
        refine own_via (fun t k => XS.istore XJ170.here hx rfl (hb hby at_99) rfl (l' := #[.val (.int p0), .val (.int p1), .val (.int p2), .val (.int p3), .val (.int p4), .val (.int (3 : Int32)), .val (.ref b150), .val (.int vg156), .val (.int zj158), .val (.ref b159), .val (.int zj171), .unset]) rfl k) ?_
        show own_G p e below _ (TJ170.setTop (mkF m 101 #[.val (.int p0), .val (.int p1), .val (.int p2), .val (.int p3), .val (.int p4), .val (.int (3 : Int32)), .val (.ref b150), .val (.int vg156), .val (.int zj158), .val (.ref b159), .val (.int zj171), .unset] []))
        obtain ⟨T172, h172, b172, X172, e172, E172, ga172, A172, D172, st172⟩ := own_newO XJ170 hx hZ hown (hw _ (List.mem_of_getElem? (i := 1) rfl)) (hw _ (List.mem_of_getElem? (i := 2) rfl)) (hw _ (List.mem_of_getElem? (i := 3) rfl)) EJ170 (pc := 101) (Ls := #[.val (.int p0), .val (.int p1), .val (.int p2), .val (.int p3), .val (.int p4), .val (.int (3 : Int32)), .val (.ref b150), .val (.int vg156), .val (.int zj158), .val (.ref b159), .val (.int zj171), .unset]) (rest := []) (hb hby at_101) (by decide) (by decide)
        refine own_via st172 ?_
        have ne173 : b150 ≠ b172 := Nat.ne_of_lt (Nat.lt_of_lt_of_le f167.lt (Nat.le_of_eq ga172.symm))
        have ne174 : b159 ≠ b172 := Nat.ne_of_lt (Nat.lt_of_lt_of_le o166_0.lt (Nat.le_of_eq ga172.symm))
        have f175 : Arv Z h172 b150 k150 .int (3 : Int32) [(.int p4), (.int (0 : Int32)), (.int (0 : Int32))] (.int (0 : Int32)) := f167.ext E172
        have f176 : Exa Z h172 b159 "com/example/dissoc/dissoc/ranking/Found" := o166_0.ext E172
        have f177 : Fld Z h172 b159 "com/example/dissoc/dissoc/ranking/Found" "tuple" "I" (.int p0) := o166_1.ext E172
        have f178 : Fld Z h172 b159 "com/example/dissoc/dissoc/ranking/Found" "contingency" "[I" (.ref b150) := o166_2.ext E172
        have f179 : Fld Z h172 b159 "com/example/dissoc/dissoc/ranking/Found" "lowerBound" "I" (.int zj158) := o166_3.ext E172
        have f180 : Fld Z h172 b172 "com/example/dissoc/dissoc/ranking/Found" "tuple" "I" (.int (0 : Int32)) := D172 (Or.inr (hw _ (List.mem_of_getElem? (i := 16) rfl))) (ty := .int) (by decide)
        have f181 : Fld Z h172 b172 "com/example/dissoc/dissoc/ranking/Found" "contingency" "[I" .null := D172 (Or.inr (hw _ (List.mem_of_getElem? (i := 18) rfl))) (ty := (.array .int)) (by decide)
        have f182 : Fld Z h172 b172 "com/example/dissoc/dissoc/ranking/Found" "lowerBound" "I" (.int (0 : Int32)) := D172 (Or.inr (hw _ (List.mem_of_getElem? (i := 20) rfl))) (ty := .int) (by decide)
        have g_b172 : n0 ≤ b172 := Nat.le_trans Zs169 (Nat.le_of_eq ga172.symm)
        have Zs183 : n0 ≤ h172.size := Nat.le_trans Zs169 E172.1
        show own_G p e below _ (T172.setTop (mkF m 104 #[.val (.int p0), .val (.int p1), .val (.int p2), .val (.int p3), .val (.int p4), .val (.int (3 : Int32)), .val (.ref b150), .val (.int vg156), .val (.int zj158), .val (.ref b159), .val (.int zj171), .unset] [(.ref b172)]))
        refine own_via (fun t k => XS.dup X172.here hx rfl (hb hby at_104) rfl rfl k) ?_
        show own_G p e below _ (T172.setTop (mkF m 105 #[.val (.int p0), .val (.int p1), .val (.int p2), .val (.int p3), .val (.int p4), .val (.int (3 : Int32)), .val (.ref b150), .val (.int vg156), .val (.int zj158), .val (.ref b159), .val (.int zj171), .unset] [(.ref b172), (.ref b172)]))
        refine own_via (fun t k => XS.iloadN X172.here hx rfl (hb hby at_105) rfl k) ?_
        show own_G p e below _ (T172.setTop (mkF m 106 #[.val (.int p0), .val (.int p1), .val (.int p2), .val (.int p3), .val (.int p4), .val (.int (3 : Int32)), .val (.ref b150), .val (.int vg156), .val (.int zj158), .val (.ref b159), .val (.int zj171), .unset] [(.int p0), (.ref b172), (.ref b172)]))
        refine own_via (fun t k => XS.aload X172.here hx rfl (hb hby at_106) rfl rfl k) ?_
        show own_G p e below _ (T172.setTop (mkF m 108 #[.val (.int p0), .val (.int p1), .val (.int p2), .val (.int p3), .val (.int p4), .val (.int (3 : Int32)), .val (.ref b150), .val (.int vg156), .val (.int zj158), .val (.ref b159), .val (.int zj171), .unset] [(.ref b150), (.int p0), (.ref b172), (.ref b172)]))
        obtain ⟨v184, T184, h184, L184, X184, N184, e184, hq184, st184⟩ := own_callI (y := (⟨"com/example/dissoc/dissoc/ranking/Found", "<init>", "(I[I)V"⟩ : MethodName)) (W := 1) (a := b172) X172 N166 hx hZ rfl hown (hw _ (List.mem_of_getElem? (i := 21) rfl)) (hw _ (List.mem_of_getElem? (i := 22) rfl)) (hw _ (List.mem_of_getElem? (i := 3) rfl)) (hw _ (List.mem_of_getElem? (i := 23) rfl)) (by decide) (own_c2 l Z a0 hw [] b172 p0 b150 (.int (0 : Int32)) (.null) (.int (0 : Int32)) k150 (3 : Int32) [(.int p4), (.int (0 : Int32)), (.int (0 : Int32))] (.int (0 : Int32)) h172 n0 Zs183 A172 f180 f181 f182 f175 g_b172) (by decide) (by decide) (by decide) (by decide) e172 (pc := 108) (Ls := #[.val (.int p0), .val (.int p1), .val (.int p2), .val (.int p3), .val (.int p4), .val (.int (3 : Int32)), .val (.ref b150), .val (.int vg156), .val (.int zj158), .val (.ref b159), .val (.int zj171), .unset]) (st := [(.ref b150), (.int p0), (.ref b172), (.ref b172)]) (argsL := [(.int p0), (.ref b150)]) (rest := [(.ref b172)]) (by rw [hml]; rfl) (lenOf own_pd2 rfl) rfl rfl (Nat.le_of_eq rfl) (hb hby at_108)
        obtain ⟨rfl, K184, o184_0, o184_1, o184_2, o184_3⟩ := hq184
        refine own_via st184 ?_
        have f185 : Arv Z h184 b150 k150 .int (3 : Int32) [(.int p4), (.int (0 : Int32)), (.int (0 : Int32))] (.int (0 : Int32)) := f175.keep K184 (by simp only [List.mem_cons, List.not_mem_nil, or_false, not_or]; exact ne173)
        have f186 : Exa Z h184 b159 "com/example/dissoc/dissoc/ranking/Found" := f176.keep K184
        have f187 : Fld Z h184 b159 "com/example/dissoc/dissoc/ranking/Found" "tuple" "I" (.int p0) := f177.keep K184 (by simp only [List.mem_cons, List.not_mem_nil, or_false, not_or]; exact ne174)
        have f188 : Fld Z h184 b159 "com/example/dissoc/dissoc/ranking/Found" "contingency" "[I" (.ref b150) := f178.keep K184 (by simp only [List.mem_cons, List.not_mem_nil, or_false, not_or]; exact ne174)
        have f189 : Fld Z h184 b159 "com/example/dissoc/dissoc/ranking/Found" "lowerBound" "I" (.int zj158) := f179.keep K184 (by simp only [List.mem_cons, List.not_mem_nil, or_false, not_or]; exact ne174)
        have f190 : Exa Z h184 b172 "com/example/dissoc/dissoc/ranking/Found" := A172.keep K184
        have Zs191 : n0 ≤ h184.size := Nat.le_trans Zs183 K184.1
        show own_G p e below _ (T184.setTop (mkF m 111 #[.val (.int p0), .val (.int p1), .val (.int p2), .val (.int p3), .val (.int p4), .val (.int (3 : Int32)), .val (.ref b150), .val (.int vg156), .val (.int zj158), .val (.ref b159), .val (.int zj171), .unset] [(.ref b172)]))
        refine own_via (fun t k => XS.astore X184.here hx rfl (hb hby at_111) rfl rfl (l' := #[.val (.int p0), .val (.int p1), .val (.int p2), .val (.int p3), .val (.int p4), .val (.int (3 : Int32)), .val (.ref b150), .val (.int vg156), .val (.int zj158), .val (.ref b159), .val (.int zj171), .val (.ref b172)]) rfl k) ?_
        show own_G p e below _ (T184.setTop (mkF m 113 #[.val (.int p0), .val (.int p1), .val (.int p2), .val (.int p3), .val (.int p4), .val (.int (3 : Int32)), .val (.ref b150), .val (.int vg156), .val (.int zj158), .val (.ref b159), .val (.int zj171), .val (.ref b172)] []))
        refine own_via (fun t k => XS.aload X184.here hx rfl (hb hby at_113) rfl rfl k) ?_
        show own_G p e below _ (T184.setTop (mkF m 115 #[.val (.int p0), .val (.int p1), .val (.int p2), .val (.int p3), .val (.int p4), .val (.int (3 : Int32)), .val (.ref b150), .val (.int vg156), .val (.int zj158), .val (.ref b159), .val (.int zj171), .val (.ref b172)] [(.ref b159)]))
        obtain ⟨T192, X192, e192, st192⟩ := own_callVP (y := (⟨"com/example/dissoc/dissoc/ranking/Found", "exact", "()Z"⟩ : MethodName)) (z := (⟨"com/example/dissoc/dissoc/ranking/Found", "exact", "()Z"⟩ : MethodName)) (W := 0) (a := b159) X184 hx hZ hown (hw _ (List.mem_of_getElem? (i := 25) rfl)) (hw _ (List.mem_of_getElem? (i := 26) rfl)) (notFace_of_selects (args := #[]) (mvT hZ (hw _ (List.mem_of_getElem? (i := 28) rfl)))) (hw _ (List.mem_of_getElem? (i := 28) rfl)) (hw _ (List.mem_of_getElem? (i := 27) rfl)) (hw _ (List.mem_of_getElem? (i := 3) rfl)) (hw _ (List.mem_of_getElem? (i := 29) rfl)) (by decide) (own_ex l Z a0 hw [] b159 b150 zj158 k150 (3 : Int32) [(.int p4), (.int (0 : Int32)), (.int (0 : Int32))] (.int (0 : Int32)) h184 f188 f189 f185) (by decide) (by decide) rfl rfl (by decide) (by decide) e184 f186 (pc := 115) (Ls := #[.val (.int p0), .val (.int p1), .val (.int p2), .val (.int p3), .val (.int p4), .val (.int (3 : Int32)), .val (.ref b150), .val (.int vg156), .val (.int zj158), .val (.ref b159), .val (.int zj171), .val (.ref b172)]) (st := [(.ref b159)]) (argsL := []) (rest := []) (by rw [hml]; rfl) (lenOf own_pd3 rfl) rfl rfl (Nat.le_of_eq rfl) (hb hby at_115)
        refine own_via st192 ?_
        show own_G p e below _ (T192.setTop (mkF m 118 #[.val (.int p0), .val (.int p1), .val (.int p2), .val (.int p3), .val (.int p4), .val (.int (3 : Int32)), .val (.ref b150), .val (.int vg156), .val (.int zj158), .val (.ref b159), .val (.int zj171), .val (.ref b172)] [(.int (own_Fex zj158 (3 : Int32)))]))
        refine own_via (fun t k => XS.iload X192.here hx rfl (hb hby at_118) rfl k) ?_
        show own_G p e below _ (T192.setTop (mkF m 120 #[.val (.int p0), .val (.int p1), .val (.int p2), .val (.int p3), .val (.int p4), .val (.int (3 : Int32)), .val (.ref b150), .val (.int vg156), .val (.int zj158), .val (.ref b159), .val (.int zj171), .val (.ref b172)] [(.int zj171), (.int (own_Fex zj158 (3 : Int32)))]))
        refine own_via (fun t k => XS.icmpNo X192.here hx rfl (hb hby at_120) rfl (teq (by subst hzj171; subst hzj158; subst hvg156; rfl)).2 k) ?_
        show own_G p e below _ (T192.setTop (mkF m 123 #[.val (.int p0), .val (.int p1), .val (.int p2), .val (.int p3), .val (.int p4), .val (.int (3 : Int32)), .val (.ref b150), .val (.int vg156), .val (.int zj158), .val (.ref b159), .val (.int zj171), .val (.ref b172)] []))
        refine own_via (fun t k => XS.aload X192.here hx rfl (hb hby at_123) rfl rfl k) ?_
        show own_G p e below _ (T192.setTop (mkF m 125 #[.val (.int p0), .val (.int p1), .val (.int p2), .val (.int p3), .val (.int p4), .val (.int (3 : Int32)), .val (.ref b150), .val (.int vg156), .val (.int zj158), .val (.ref b159), .val (.int zj171), .val (.ref b172)] [(.ref b172)]))
        obtain ⟨T193, X193, e193, st193⟩ := own_callVP (y := (⟨"com/example/dissoc/dissoc/ranking/Found", "exact", "()Z"⟩ : MethodName)) (z := (⟨"com/example/dissoc/dissoc/ranking/Found", "exact", "()Z"⟩ : MethodName)) (W := 0) (a := b172) X192 hx hZ hown (hw _ (List.mem_of_getElem? (i := 25) rfl)) (hw _ (List.mem_of_getElem? (i := 26) rfl)) (notFace_of_selects (args := #[]) (mvT hZ (hw _ (List.mem_of_getElem? (i := 28) rfl)))) (hw _ (List.mem_of_getElem? (i := 28) rfl)) (hw _ (List.mem_of_getElem? (i := 27) rfl)) (hw _ (List.mem_of_getElem? (i := 3) rfl)) (hw _ (List.mem_of_getElem? (i := 29) rfl)) (by decide) (own_ex l Z a0 hw [] b172 b150 (3 : Int32) k150 (3 : Int32) [(.int p4), (.int (0 : Int32)), (.int (0 : Int32))] (.int (0 : Int32)) h184 o184_2 o184_3 f185) (by decide) (by decide) rfl rfl (by decide) (by decide) e192 o184_0 (pc := 125) (Ls := #[.val (.int p0), .val (.int p1), .val (.int p2), .val (.int p3), .val (.int p4), .val (.int (3 : Int32)), .val (.ref b150), .val (.int vg156), .val (.int zj158), .val (.ref b159), .val (.int zj171), .val (.ref b172)]) (st := [(.ref b172)]) (argsL := []) (rest := []) (by rw [hml]; rfl) (lenOf own_pd3 rfl) rfl rfl (Nat.le_of_eq rfl) (hb hby at_125)
        refine own_via st193 ?_
        show own_G p e below _ (T193.setTop (mkF m 128 #[.val (.int p0), .val (.int p1), .val (.int p2), .val (.int p3), .val (.int p4), .val (.int (3 : Int32)), .val (.ref b150), .val (.int vg156), .val (.int zj158), .val (.ref b159), .val (.int zj171), .val (.ref b172)] [(.int (own_Fex (3 : Int32) (3 : Int32)))]))
        refine own_via (fun t k => XS.ifNo X193.here hx rfl (hb hby at_128) rfl ((if0 _ _).trans (feq (by decide)).1) k) ?_
        show own_G p e below _ (T193.setTop (mkF m 131 #[.val (.int p0), .val (.int p1), .val (.int p2), .val (.int p3), .val (.int p4), .val (.int (3 : Int32)), .val (.ref b150), .val (.int vg156), .val (.int zj158), .val (.ref b159), .val (.int zj171), .val (.ref b172)] []))
        refine own_via (fun t k => XS.iconst X193.here hx rfl (hb hby at_131) k) ?_
        show own_G p e below _ (T193.setTop (mkF m 132 #[.val (.int p0), .val (.int p1), .val (.int p2), .val (.int p3), .val (.int p4), .val (.int (3 : Int32)), .val (.ref b150), .val (.int vg156), .val (.int zj158), .val (.ref b159), .val (.int zj171), .val (.ref b172)] [(.int (1 : Int32))]))
        refine own_via (fun t k => XS.goto X193.here hx rfl (pc0 := 132) (pc' := 136) rfl (hb hby at_132) (by decide) (by decide) k) ?_
        show own_G p e below _ (T193.setTop (mkF m 136 #[.val (.int p0), .val (.int p1), .val (.int p2), .val (.int p3), .val (.int p4), .val (.int (3 : Int32)), .val (.ref b150), .val (.int vg156), .val (.int zj158), .val (.ref b159), .val (.int zj171), .val (.ref b172)] [(.int (1 : Int32))]))
        exact own_retN (t := .boolean) X193 hx Bd.returns (by simp) Bd.notSynchronized (hb hby at_136) ⟨N184, rfl⟩ (by decide) (by decide)
      by_cases hc194 : zj158 = (3 : Int32)
      ·
        refine own_via (fun t k => XS.icmpNo X166.here hx rfl (hb hby at_91) rfl (teq hc194).2 k) ?_
        show own_G p e below _ (T166.setTop (mkF m 94 #[.val (.int p0), .val (.int p1), .val (.int p2), .val (.int p3), .val (.int p4), .val (.int (3 : Int32)), .val (.ref b150), .val (.int vg156), .val (.int zj158), .val (.ref b159), .unset, .unset] []))
        refine own_via (fun t k => XS.iconst X166.here hx rfl (hb hby at_94) k) ?_
        show own_G p e below _ (T166.setTop (mkF m 95 #[.val (.int p0), .val (.int p1), .val (.int p2), .val (.int p3), .val (.int p4), .val (.int (3 : Int32)), .val (.ref b150), .val (.int vg156), .val (.int zj158), .val (.ref b159), .unset, .unset] [(.int (1 : Int32))]))
        refine own_via (fun t k => XS.goto X166.here hx rfl (pc0 := 95) (pc' := 99) rfl (hb hby at_95) (by decide) (by decide) k) ?_
        show own_G p e below _ (T166.setTop (mkF m 99 #[.val (.int p0), .val (.int p1), .val (.int p2), .val (.int p3), .val (.int p4), .val (.int (3 : Int32)), .val (.ref b150), .val (.int vg156), .val (.int zj158), .val (.ref b159), .unset, .unset] [(.int (1 : Int32))]))
        exact J170 _ X166 e166 _ (by simp only [if_pos hc194])
      ·
        refine own_via (fun t k => XS.icmpYes X166.here hx rfl (pc0 := 91) (pc' := 98) rfl (hb hby at_91) rfl (feq hc194).2 (by decide) (by decide) k) ?_
        show own_G p e below _ (T166.setTop (mkF m 98 #[.val (.int p0), .val (.int p1), .val (.int p2), .val (.int p3), .val (.int p4), .val (.int (3 : Int32)), .val (.ref b150), .val (.int vg156), .val (.int zj158), .val (.ref b159), .unset, .unset] []))
        refine own_via (fun t k => XS.iconst X166.here hx rfl (hb hby at_98) k) ?_
        show own_G p e below _ (T166.setTop (mkF m 99 #[.val (.int p0), .val (.int p1), .val (.int p2), .val (.int p3), .val (.int p4), .val (.int (3 : Int32)), .val (.ref b150), .val (.int vg156), .val (.int zj158), .val (.ref b159), .unset, .unset] [(.int (0 : Int32))]))
        exact J170 _ X166 e166 _ (by simp only [if_neg hc194])
    by_cases hc195 : vg156 = (0 : Int32)
    ·
      refine own_via (fun t k => XS.ifNo X153.here hx rfl (hb hby at_30) rfl ((if0 _ _).trans (teq hc195).2) k) ?_
      show own_G p e below _ (T153.setTop (mkF m 33 #[.val (.int p0), .val (.int p1), .val (.int p2), .val (.int p3), .val (.int p4), .val (.int (3 : Int32)), .val (.ref b150), .val (.int vg156), .unset, .unset, .unset, .unset] []))
      refine own_via (fun t k => XS.iload X153.here hx rfl (hb hby at_33) rfl k) ?_
      show own_G p e below _ (T153.setTop (mkF m 35 #[.val (.int p0), .val (.int p1), .val (.int p2), .val (.int p3), .val (.int p4), .val (.int (3 : Int32)), .val (.ref b150), .val (.int vg156), .unset, .unset, .unset, .unset] [(.int (3 : Int32))]))
      refine own_via (fun t k => XS.istore X153.here hx rfl (hb hby at_35) rfl (l' := #[.val (.int p0), .val (.int p1), .val (.int p2), .val (.int p3), .val (.int p4), .val (.int (3 : Int32)), .val (.ref b150), .val (.int vg156), .val (.int (3 : Int32)), .unset, .unset, .unset]) rfl k) ?_
      show own_G p e below _ (T153.setTop (mkF m 37 #[.val (.int p0), .val (.int p1), .val (.int p2), .val (.int p3), .val (.int p4), .val (.int (3 : Int32)), .val (.ref b150), .val (.int vg156), .val (.int (3 : Int32)), .unset, .unset, .unset] []))
      refine own_via (fun t k => XS.goto X153.here hx rfl (pc0 := 37) (pc' := 73) rfl (hb hby at_37) (by decide) (by decide) k) ?_
      show own_G p e below _ (T153.setTop (mkF m 73 #[.val (.int p0), .val (.int p1), .val (.int p2), .val (.int p3), .val (.int p4), .val (.int (3 : Int32)), .val (.ref b150), .val (.int vg156), .val (.int (3 : Int32)), .unset, .unset, .unset] []))
      exact J157 _ X153 e153 _ (by simp only [if_pos hc195])
    ·
      refine own_via (fun t k => XS.ifYes X153.here hx rfl (pc0 := 30) (pc' := 40) rfl (hb hby at_30) rfl ((if0 _ _).trans (feq hc195).2) (by decide) (by decide) k) ?_
      show own_G p e below _ (T153.setTop (mkF m 40 #[.val (.int p0), .val (.int p1), .val (.int p2), .val (.int p3), .val (.int p4), .val (.int (3 : Int32)), .val (.ref b150), .val (.int vg156), .unset, .unset, .unset, .unset] []))
      refine own_via (fun t k => XS.iload X153.here hx rfl (hb hby at_40) rfl k) ?_
      show own_G p e below _ (T153.setTop (mkF m 42 #[.val (.int p0), .val (.int p1), .val (.int p2), .val (.int p3), .val (.int p4), .val (.int (3 : Int32)), .val (.ref b150), .val (.int vg156), .unset, .unset, .unset, .unset] [(.int vg156)]))
      refine own_via (fun t k => XS.iconst X153.here hx rfl (hb hby at_42) k) ?_
      show own_G p e below _ (T153.setTop (mkF m 43 #[.val (.int p0), .val (.int p1), .val (.int p2), .val (.int p3), .val (.int p4), .val (.int (3 : Int32)), .val (.ref b150), .val (.int vg156), .unset, .unset, .unset, .unset] [(.int (1 : Int32)), (.int vg156)]))
      by_cases hc196 : vg156 = (1 : Int32)
      ·
        refine own_via (fun t k => XS.icmpNo X153.here hx rfl (hb hby at_43) rfl (teq hc196).2 k) ?_
        show own_G p e below _ (T153.setTop (mkF m 46 #[.val (.int p0), .val (.int p1), .val (.int p2), .val (.int p3), .val (.int p4), .val (.int (3 : Int32)), .val (.ref b150), .val (.int vg156), .unset, .unset, .unset, .unset] []))
        refine own_via (fun t k => XS.iload X153.here hx rfl (hb hby at_46) rfl k) ?_
        show own_G p e below _ (T153.setTop (mkF m 48 #[.val (.int p0), .val (.int p1), .val (.int p2), .val (.int p3), .val (.int p4), .val (.int (3 : Int32)), .val (.ref b150), .val (.int vg156), .unset, .unset, .unset, .unset] [(.int (3 : Int32))]))
        refine own_via (fun t k => XS.iconst X153.here hx rfl (hb hby at_48) k) ?_
        show own_G p e below _ (T153.setTop (mkF m 49 #[.val (.int p0), .val (.int p1), .val (.int p2), .val (.int p3), .val (.int p4), .val (.int (3 : Int32)), .val (.ref b150), .val (.int vg156), .unset, .unset, .unset, .unset] [(.int (1 : Int32)), (.int (3 : Int32))]))
        refine own_via (fun t k => XS.isub X153.here hx rfl (hb hby at_49) rfl k) ?_
        show own_G p e below _ (T153.setTop (mkF m 50 #[.val (.int p0), .val (.int p1), .val (.int p2), .val (.int p3), .val (.int p4), .val (.int (3 : Int32)), .val (.ref b150), .val (.int vg156), .unset, .unset, .unset, .unset] [(.int (2 : Int32))]))
        refine own_via (fun t k => XS.istore X153.here hx rfl (hb hby at_50) rfl (l' := #[.val (.int p0), .val (.int p1), .val (.int p2), .val (.int p3), .val (.int p4), .val (.int (3 : Int32)), .val (.ref b150), .val (.int vg156), .val (.int (2 : Int32)), .unset, .unset, .unset]) rfl k) ?_
        show own_G p e below _ (T153.setTop (mkF m 52 #[.val (.int p0), .val (.int p1), .val (.int p2), .val (.int p3), .val (.int p4), .val (.int (3 : Int32)), .val (.ref b150), .val (.int vg156), .val (.int (2 : Int32)), .unset, .unset, .unset] []))
        refine own_via (fun t k => XS.goto X153.here hx rfl (pc0 := 52) (pc' := 73) rfl (hb hby at_52) (by decide) (by decide) k) ?_
        show own_G p e below _ (T153.setTop (mkF m 73 #[.val (.int p0), .val (.int p1), .val (.int p2), .val (.int p3), .val (.int p4), .val (.int (3 : Int32)), .val (.ref b150), .val (.int vg156), .val (.int (2 : Int32)), .unset, .unset, .unset] []))
        exact J157 _ X153 e153 _ (by simp only [if_neg hc195, if_pos hc196])
      ·
        refine own_via (fun t k => XS.icmpYes X153.here hx rfl (pc0 := 43) (pc' := 55) rfl (hb hby at_43) rfl (feq hc196).2 (by decide) (by decide) k) ?_
        show own_G p e below _ (T153.setTop (mkF m 55 #[.val (.int p0), .val (.int p1), .val (.int p2), .val (.int p3), .val (.int p4), .val (.int (3 : Int32)), .val (.ref b150), .val (.int vg156), .unset, .unset, .unset, .unset] []))
        refine own_via (fun t k => XS.iload X153.here hx rfl (hb hby at_55) rfl k) ?_
        show own_G p e below _ (T153.setTop (mkF m 57 #[.val (.int p0), .val (.int p1), .val (.int p2), .val (.int p3), .val (.int p4), .val (.int (3 : Int32)), .val (.ref b150), .val (.int vg156), .unset, .unset, .unset, .unset] [(.int vg156)]))
        refine own_via (fun t k => XS.iconst X153.here hx rfl (hb hby at_57) k) ?_
        show own_G p e below _ (T153.setTop (mkF m 58 #[.val (.int p0), .val (.int p1), .val (.int p2), .val (.int p3), .val (.int p4), .val (.int (3 : Int32)), .val (.ref b150), .val (.int vg156), .unset, .unset, .unset, .unset] [(.int (2 : Int32)), (.int vg156)]))
        by_cases hc197 : vg156 = (2 : Int32)
        ·
          refine own_via (fun t k => XS.icmpNo X153.here hx rfl (hb hby at_58) rfl (teq hc197).2 k) ?_
          show own_G p e below _ (T153.setTop (mkF m 61 #[.val (.int p0), .val (.int p1), .val (.int p2), .val (.int p3), .val (.int p4), .val (.int (3 : Int32)), .val (.ref b150), .val (.int vg156), .unset, .unset, .unset, .unset] []))
          refine own_via (fun t k => XS.iload X153.here hx rfl (hb hby at_61) rfl k) ?_
          show own_G p e below _ (T153.setTop (mkF m 63 #[.val (.int p0), .val (.int p1), .val (.int p2), .val (.int p3), .val (.int p4), .val (.int (3 : Int32)), .val (.ref b150), .val (.int vg156), .unset, .unset, .unset, .unset] [(.int (3 : Int32))]))
          refine own_via (fun t k => XS.iconst X153.here hx rfl (hb hby at_63) k) ?_
          show own_G p e below _ (T153.setTop (mkF m 64 #[.val (.int p0), .val (.int p1), .val (.int p2), .val (.int p3), .val (.int p4), .val (.int (3 : Int32)), .val (.ref b150), .val (.int vg156), .unset, .unset, .unset, .unset] [(.int (1 : Int32)), (.int (3 : Int32))]))
          refine own_via (fun t k => XS.iadd X153.here hx rfl (hb hby at_64) rfl k) ?_
          show own_G p e below _ (T153.setTop (mkF m 65 #[.val (.int p0), .val (.int p1), .val (.int p2), .val (.int p3), .val (.int p4), .val (.int (3 : Int32)), .val (.ref b150), .val (.int vg156), .unset, .unset, .unset, .unset] [(.int (4 : Int32))]))
          refine own_via (fun t k => XS.istore X153.here hx rfl (hb hby at_65) rfl (l' := #[.val (.int p0), .val (.int p1), .val (.int p2), .val (.int p3), .val (.int p4), .val (.int (3 : Int32)), .val (.ref b150), .val (.int vg156), .val (.int (4 : Int32)), .unset, .unset, .unset]) rfl k) ?_
          show own_G p e below _ (T153.setTop (mkF m 67 #[.val (.int p0), .val (.int p1), .val (.int p2), .val (.int p3), .val (.int p4), .val (.int (3 : Int32)), .val (.ref b150), .val (.int vg156), .val (.int (4 : Int32)), .unset, .unset, .unset] []))
          refine own_via (fun t k => XS.goto X153.here hx rfl (pc0 := 67) (pc' := 73) rfl (hb hby at_67) (by decide) (by decide) k) ?_
          show own_G p e below _ (T153.setTop (mkF m 73 #[.val (.int p0), .val (.int p1), .val (.int p2), .val (.int p3), .val (.int p4), .val (.int (3 : Int32)), .val (.ref b150), .val (.int vg156), .val (.int (4 : Int32)), .unset, .unset, .unset] []))
          exact J157 _ X153 e153 _ (by simp only [if_neg hc195, if_neg hc196, if_pos hc197])
        ·
          refine own_via (fun t k => XS.icmpYes X153.here hx rfl (pc0 := 58) (pc' := 70) rfl (hb hby at_58) rfl (feq hc197).2 (by decide) (by decide) k) ?_
          show own_G p e below _ (T153.setTop (mkF m 70 #[.val (.int p0), .val (.int p1), .val (.int p2), .val (.int p3), .val (.int p4), .val (.int (3 : Int32)), .val (.ref b150), .val (.int vg156), .unset, .unset, .unset, .unset] []))
          refine own_via (fun t k => XS.iloadN X153.here hx rfl (hb hby at_70) rfl k) ?_
          show own_G p e below _ (T153.setTop (mkF m 71 #[.val (.int p0), .val (.int p1), .val (.int p2), .val (.int p3), .val (.int p4), .val (.int (3 : Int32)), .val (.ref b150), .val (.int vg156), .unset, .unset, .unset, .unset] [(.int p2)]))
          refine own_via (fun t k => XS.istore X153.here hx rfl (hb hby at_71) rfl (l' := #[.val (.int p0), .val (.int p1), .val (.int p2), .val (.int p3), .val (.int p4), .val (.int (3 : Int32)), .val (.ref b150), .val (.int vg156), .val (.int p2), .unset, .unset, .unset]) rfl k) ?_
          show own_G p e below _ (T153.setTop (mkF m 73 #[.val (.int p0), .val (.int p1), .val (.int p2), .val (.int p3), .val (.int p4), .val (.int (3 : Int32)), .val (.ref b150), .val (.int vg156), .val (.int p2), .unset, .unset, .unset] []))
          exact J157 _ X153 e153 _ (by simp only [if_neg hc195, if_neg hc196, if_neg hc197])
  ·
    rw [hs5]
    show own_G p e below _ (s₁.setTop (mkF m 4 #[.val (.int p0), .val (.int p1), .val (.int p2), .val (.int p3), .val (.int p4), .unset, .unset, .unset, .unset, .unset, .unset, .unset] [(.int (4 : Int32))]))
    refine own_via (fun t k => XS.istore X0.here hx rfl (hb hby at_4) rfl (l' := #[.val (.int p0), .val (.int p1), .val (.int p2), .val (.int p3), .val (.int p4), .val (.int (4 : Int32)), .unset, .unset, .unset, .unset, .unset, .unset]) rfl k) ?_
    show own_G p e below _ (s₁.setTop (mkF m 6 #[.val (.int p0), .val (.int p1), .val (.int p2), .val (.int p3), .val (.int p4), .val (.int (4 : Int32)), .unset, .unset, .unset, .unset, .unset, .unset] []))
    refine own_via (fun t k => XS.iload X0.here hx rfl (hb hby at_6) rfl k) ?_
    show own_G p e below _ (s₁.setTop (mkF m 8 #[.val (.int p0), .val (.int p1), .val (.int p2), .val (.int p3), .val (.int p4), .val (.int (4 : Int32)), .unset, .unset, .unset, .unset, .unset, .unset] [(.int (4 : Int32))]))
    obtain ⟨T198, h198, k198, b198, X198, e198, E198, ga198, V198, Ex198, st198⟩ := own_newA X0 hx hZ (hw _ (List.mem_of_getElem? (i := 0) rfl)) e0 (pc := 8) (Ls := #[.val (.int p0), .val (.int p1), .val (.int p2), .val (.int p3), .val (.int p4), .val (.int (4 : Int32)), .unset, .unset, .unset, .unset, .unset, .unset]) (rest := []) (hb hby at_8) (n := (4 : Int32)) (by decide) (cap := 4) (by decide) (by decide) (by decide) (by decide) 4 rfl
    refine own_via st198 ?_
    have f199 : Arv Z h198 b198 k198 .int (4 : Int32) [(.int (0 : Int32)), (.int (0 : Int32)), (.int (0 : Int32)), (.int (0 : Int32))] (.int (0 : Int32)) := V198
    have g_b198 : n0 ≤ b198 := Nat.le_trans Z0 (Nat.le_of_eq ga198.symm)
    have Zs200 : n0 ≤ h198.size := Nat.le_trans Z0 E198.1
    show own_G p e below _ (T198.setTop (mkF m 10 #[.val (.int p0), .val (.int p1), .val (.int p2), .val (.int p3), .val (.int p4), .val (.int (4 : Int32)), .unset, .unset, .unset, .unset, .unset, .unset] [(.ref b198)]))
    refine own_via (fun t k => XS.astore X198.here hx rfl (hb hby at_10) rfl rfl (l' := #[.val (.int p0), .val (.int p1), .val (.int p2), .val (.int p3), .val (.int p4), .val (.int (4 : Int32)), .val (.ref b198), .unset, .unset, .unset, .unset, .unset]) rfl k) ?_
    show own_G p e below _ (T198.setTop (mkF m 12 #[.val (.int p0), .val (.int p1), .val (.int p2), .val (.int p3), .val (.int p4), .val (.int (4 : Int32)), .val (.ref b198), .unset, .unset, .unset, .unset, .unset] []))
    refine own_via (fun t k => XS.iload X198.here hx rfl (hb hby at_12) rfl k) ?_
    show own_G p e below _ (T198.setTop (mkF m 14 #[.val (.int p0), .val (.int p1), .val (.int p2), .val (.int p3), .val (.int p4), .val (.int (4 : Int32)), .val (.ref b198), .unset, .unset, .unset, .unset, .unset] [(.int (4 : Int32))]))
    refine own_via (fun t k => XS.ifNo X198.here hx rfl (hb hby at_14) rfl ((if0 _ _).trans (tlt (by decide : (0 : Int32) < (4 : Int32))).2.2.2) k) ?_
    show own_G p e below _ (T198.setTop (mkF m 17 #[.val (.int p0), .val (.int p1), .val (.int p2), .val (.int p3), .val (.int p4), .val (.int (4 : Int32)), .val (.ref b198), .unset, .unset, .unset, .unset, .unset] []))
    refine own_via (fun t k => XS.aload X198.here hx rfl (hb hby at_17) rfl rfl k) ?_
    show own_G p e below _ (T198.setTop (mkF m 19 #[.val (.int p0), .val (.int p1), .val (.int p2), .val (.int p3), .val (.int p4), .val (.int (4 : Int32)), .val (.ref b198), .unset, .unset, .unset, .unset, .unset] [(.ref b198)]))
    refine own_via (fun t k => XS.iconst X198.here hx rfl (hb hby at_19) k) ?_
    show own_G p e below _ (T198.setTop (mkF m 20 #[.val (.int p0), .val (.int p1), .val (.int p2), .val (.int p3), .val (.int p4), .val (.int (4 : Int32)), .val (.ref b198), .unset, .unset, .unset, .unset, .unset] [(.int (0 : Int32)), (.ref b198)]))
    refine own_via (fun t k => XS.iload X198.here hx rfl (hb hby at_20) rfl k) ?_
    show own_G p e below _ (T198.setTop (mkF m 22 #[.val (.int p0), .val (.int p1), .val (.int p2), .val (.int p3), .val (.int p4), .val (.int (4 : Int32)), .val (.ref b198), .unset, .unset, .unset, .unset, .unset] [(.int p4), (.int (0 : Int32)), (.ref b198)]))
    obtain ⟨T201, h201, L201, X201, N201, e201, W201, V201, st201⟩ := own_stI X198 N0 hx hZ e198 f199 g_b198 (j := (0 : Int32)) (x := p4) (i := 0) ⟨by decide, by decide⟩ rfl (Nat.le_of_ble_eq_true rfl) (pc := 22) (Ls := #[.val (.int p0), .val (.int p1), .val (.int p2), .val (.int p3), .val (.int p4), .val (.int (4 : Int32)), .val (.ref b198), .unset, .unset, .unset, .unset, .unset]) (rest := []) (hb hby at_22)
    refine own_via st201 ?_
    have f202 : Arv Z h201 b198 k198 .int (4 : Int32) [(.int p4), (.int (0 : Int32)), (.int (0 : Int32)), (.int (0 : Int32))] (.int (0 : Int32)) := V201
    have Zs203 : n0 ≤ h201.size := by rw [W201.size]; exact Zs200
    show own_G p e below _ (T201.setTop (mkF m 23 #[.val (.int p0), .val (.int p1), .val (.int p2), .val (.int p3), .val (.int p4), .val (.int (4 : Int32)), .val (.ref b198), .unset, .unset, .unset, .unset, .unset] []))
    refine own_via (fun t k => XS.iloadN X201.here hx rfl (hb hby at_23) rfl k) ?_
    show own_G p e below _ (T201.setTop (mkF m 24 #[.val (.int p0), .val (.int p1), .val (.int p2), .val (.int p3), .val (.int p4), .val (.int (4 : Int32)), .val (.ref b198), .unset, .unset, .unset, .unset, .unset] [(.int p3)]))
    refine own_via (fun t k => XS.iconst X201.here hx rfl (hb hby at_24) k) ?_
    show own_G p e below _ (T201.setTop (mkF m 25 #[.val (.int p0), .val (.int p1), .val (.int p2), .val (.int p3), .val (.int p4), .val (.int (4 : Int32)), .val (.ref b198), .unset, .unset, .unset, .unset, .unset] [(.int (3 : Int32)), (.int p3)]))
    refine own_via (fun t k => XS.iand X201.here hx rfl (hb hby at_25) rfl k) ?_
    show own_G p e below _ (T201.setTop (mkF m 26 #[.val (.int p0), .val (.int p1), .val (.int p2), .val (.int p3), .val (.int p4), .val (.int (4 : Int32)), .val (.ref b198), .unset, .unset, .unset, .unset, .unset] [(.int (p3 &&& (3 : Int32)))]))
    generalize hvg204 : (p3 &&& (3 : Int32)) = vg204
    show own_G p e below _ (T201.setTop (mkF m 26 #[.val (.int p0), .val (.int p1), .val (.int p2), .val (.int p3), .val (.int p4), .val (.int (4 : Int32)), .val (.ref b198), .unset, .unset, .unset, .unset, .unset] [(.int vg204)]))
    refine own_via (fun t k => XS.istore X201.here hx rfl (hb hby at_26) rfl (l' := #[.val (.int p0), .val (.int p1), .val (.int p2), .val (.int p3), .val (.int p4), .val (.int (4 : Int32)), .val (.ref b198), .val (.int vg204), .unset, .unset, .unset, .unset]) rfl k) ?_
    show own_G p e below _ (T201.setTop (mkF m 28 #[.val (.int p0), .val (.int p1), .val (.int p2), .val (.int p3), .val (.int p4), .val (.int (4 : Int32)), .val (.ref b198), .val (.int vg204), .unset, .unset, .unset, .unset] []))
    refine own_via (fun t k => XS.iload X201.here hx rfl (hb hby at_28) rfl k) ?_
    show own_G p e below _ (T201.setTop (mkF m 30 #[.val (.int p0), .val (.int p1), .val (.int p2), .val (.int p3), .val (.int p4), .val (.int (4 : Int32)), .val (.ref b198), .val (.int vg204), .unset, .unset, .unset, .unset] [(.int vg204)]))
    have J205 : ∀ (TJ205 : State) (XJ205 : Stand p l e room_1 s m #[(.int p0), (.int p1), (.int p2), (.int p3), (.int p4)] below meth c TJ205 L201 1 4) (EJ205 : TJ205.heap = h201) (zj206 : Int32), zj206 = (if vg204 = (0 : Int32) then (4 : Int32) else (if vg204 = (1 : Int32) then (3 : Int32) else (if vg204 = (2 : Int32) then (5 : Int32) else p2))) → own_G p e below (own_P s (own_W n0 (fun v _ => v = some (.int 1))) room_1.cells room_1.slots) (TJ205.setTop (mkF m 73 #[.val (.int p0), .val (.int p1), .val (.int p2), .val (.int p3), .val (.int p4), .val (.int (4 : Int32)), .val (.ref b198), .val (.int vg204), .val (.int zj206), .unset, .unset, .unset] [])) := by
      intro TJ205 XJ205 EJ205 zj206 hzj206
      obtain ⟨T207, h207, b207, X207, e207, E207, ga207, A207, D207, st207⟩ := own_newO XJ205 hx hZ hown (hw _ (List.mem_of_getElem? (i := 1) rfl)) (hw _ (List.mem_of_getElem? (i := 2) rfl)) (hw _ (List.mem_of_getElem? (i := 3) rfl)) EJ205 (pc := 73) (Ls := #[.val (.int p0), .val (.int p1), .val (.int p2), .val (.int p3), .val (.int p4), .val (.int (4 : Int32)), .val (.ref b198), .val (.int vg204), .val (.int zj206), .unset, .unset, .unset]) (rest := []) (hb hby at_73) (by decide) (by decide)
      refine own_via st207 ?_
      have ne208 : b198 ≠ b207 := Nat.ne_of_lt (Nat.lt_of_lt_of_le f202.lt (Nat.le_of_eq ga207.symm))
      have f209 : Arv Z h207 b198 k198 .int (4 : Int32) [(.int p4), (.int (0 : Int32)), (.int (0 : Int32)), (.int (0 : Int32))] (.int (0 : Int32)) := f202.ext E207
      have f210 : Fld Z h207 b207 "com/example/dissoc/dissoc/ranking/Found" "tuple" "I" (.int (0 : Int32)) := D207 (Or.inr (hw _ (List.mem_of_getElem? (i := 16) rfl))) (ty := .int) (by decide)
      have f211 : Fld Z h207 b207 "com/example/dissoc/dissoc/ranking/Found" "contingency" "[I" .null := D207 (Or.inr (hw _ (List.mem_of_getElem? (i := 18) rfl))) (ty := (.array .int)) (by decide)
      have f212 : Fld Z h207 b207 "com/example/dissoc/dissoc/ranking/Found" "lowerBound" "I" (.int (0 : Int32)) := D207 (Or.inr (hw _ (List.mem_of_getElem? (i := 20) rfl))) (ty := .int) (by decide)
      have g_b207 : n0 ≤ b207 := Nat.le_trans Zs203 (Nat.le_of_eq ga207.symm)
      have Zs213 : n0 ≤ h207.size := Nat.le_trans Zs203 E207.1
      show own_G p e below _ (T207.setTop (mkF m 76 #[.val (.int p0), .val (.int p1), .val (.int p2), .val (.int p3), .val (.int p4), .val (.int (4 : Int32)), .val (.ref b198), .val (.int vg204), .val (.int zj206), .unset, .unset, .unset] [(.ref b207)]))
      refine own_via (fun t k => XS.dup X207.here hx rfl (hb hby at_76) rfl rfl k) ?_
      show own_G p e below _ (T207.setTop (mkF m 77 #[.val (.int p0), .val (.int p1), .val (.int p2), .val (.int p3), .val (.int p4), .val (.int (4 : Int32)), .val (.ref b198), .val (.int vg204), .val (.int zj206), .unset, .unset, .unset] [(.ref b207), (.ref b207)]))
      refine own_via (fun t k => XS.iloadN X207.here hx rfl (hb hby at_77) rfl k) ?_
      show own_G p e below _ (T207.setTop (mkF m 78 #[.val (.int p0), .val (.int p1), .val (.int p2), .val (.int p3), .val (.int p4), .val (.int (4 : Int32)), .val (.ref b198), .val (.int vg204), .val (.int zj206), .unset, .unset, .unset] [(.int p0), (.ref b207), (.ref b207)]))
      refine own_via (fun t k => XS.aload X207.here hx rfl (hb hby at_78) rfl rfl k) ?_
      show own_G p e below _ (T207.setTop (mkF m 80 #[.val (.int p0), .val (.int p1), .val (.int p2), .val (.int p3), .val (.int p4), .val (.int (4 : Int32)), .val (.ref b198), .val (.int vg204), .val (.int zj206), .unset, .unset, .unset] [(.ref b198), (.int p0), (.ref b207), (.ref b207)]))
      refine own_via (fun t k => XS.iload X207.here hx rfl (hb hby at_80) rfl k) ?_
      show own_G p e below _ (T207.setTop (mkF m 82 #[.val (.int p0), .val (.int p1), .val (.int p2), .val (.int p3), .val (.int p4), .val (.int (4 : Int32)), .val (.ref b198), .val (.int vg204), .val (.int zj206), .unset, .unset, .unset] [(.int zj206), (.ref b198), (.int p0), (.ref b207), (.ref b207)]))
      obtain ⟨v214, T214, h214, L214, X214, N214, e214, hq214, st214⟩ := own_callI (y := (⟨"com/example/dissoc/dissoc/ranking/Found", "<init>", "(I[II)V"⟩ : MethodName)) (W := 1) (a := b207) X207 N201 hx hZ rfl hown (hw _ (List.mem_of_getElem? (i := 4) rfl)) (hw _ (List.mem_of_getElem? (i := 5) rfl)) (hw _ (List.mem_of_getElem? (i := 3) rfl)) (hw _ (List.mem_of_getElem? (i := 6) rfl)) (by decide) (own_c3 l Z a0 hw [] b207 p0 b198 zj206 (.int (0 : Int32)) (.null) (.int (0 : Int32)) h207 n0 Zs213 A207 f210 f211 f212 g_b207) (by decide) (by decide) (by decide) (by decide) e207 (pc := 82) (Ls := #[.val (.int p0), .val (.int p1), .val (.int p2), .val (.int p3), .val (.int p4), .val (.int (4 : Int32)), .val (.ref b198), .val (.int vg204), .val (.int zj206), .unset, .unset, .unset]) (st := [(.int zj206), (.ref b198), (.int p0), (.ref b207), (.ref b207)]) (argsL := [(.int p0), (.ref b198), (.int zj206)]) (rest := [(.ref b207)]) (by rw [hml]; rfl) (lenOf own_pd1 rfl) rfl rfl (Nat.le_of_eq rfl) (hb hby at_82)
      obtain ⟨rfl, K214, o214_0, o214_1, o214_2, o214_3⟩ := hq214
      refine own_via st214 ?_
      have f215 : Arv Z h214 b198 k198 .int (4 : Int32) [(.int p4), (.int (0 : Int32)), (.int (0 : Int32)), (.int (0 : Int32))] (.int (0 : Int32)) := f209.keep K214 (by simp only [List.mem_cons, List.not_mem_nil, or_false, not_or]; exact ne208)
      have f216 : Exa Z h214 b207 "com/example/dissoc/dissoc/ranking/Found" := A207.keep K214
      have Zs217 : n0 ≤ h214.size := Nat.le_trans Zs213 K214.1
      show own_G p e below _ (T214.setTop (mkF m 85 #[.val (.int p0), .val (.int p1), .val (.int p2), .val (.int p3), .val (.int p4), .val (.int (4 : Int32)), .val (.ref b198), .val (.int vg204), .val (.int zj206), .unset, .unset, .unset] [(.ref b207)]))
      refine own_via (fun t k => XS.astore X214.here hx rfl (hb hby at_85) rfl rfl (l' := #[.val (.int p0), .val (.int p1), .val (.int p2), .val (.int p3), .val (.int p4), .val (.int (4 : Int32)), .val (.ref b198), .val (.int vg204), .val (.int zj206), .val (.ref b207), .unset, .unset]) rfl k) ?_
      show own_G p e below _ (T214.setTop (mkF m 87 #[.val (.int p0), .val (.int p1), .val (.int p2), .val (.int p3), .val (.int p4), .val (.int (4 : Int32)), .val (.ref b198), .val (.int vg204), .val (.int zj206), .val (.ref b207), .unset, .unset] []))
      refine own_via (fun t k => XS.iload X214.here hx rfl (hb hby at_87) rfl k) ?_
      show own_G p e below _ (T214.setTop (mkF m 89 #[.val (.int p0), .val (.int p1), .val (.int p2), .val (.int p3), .val (.int p4), .val (.int (4 : Int32)), .val (.ref b198), .val (.int vg204), .val (.int zj206), .val (.ref b207), .unset, .unset] [(.int zj206)]))
      refine own_via (fun t k => XS.iload X214.here hx rfl (hb hby at_89) rfl k) ?_
      show own_G p e below _ (T214.setTop (mkF m 91 #[.val (.int p0), .val (.int p1), .val (.int p2), .val (.int p3), .val (.int p4), .val (.int (4 : Int32)), .val (.ref b198), .val (.int vg204), .val (.int zj206), .val (.ref b207), .unset, .unset] [(.int (4 : Int32)), (.int zj206)]))
      have J218 : ∀ (TJ218 : State) (XJ218 : Stand p l e room_1 s m #[(.int p0), (.int p1), (.int p2), (.int p3), (.int p4)] below meth c TJ218 L214 2 7) (EJ218 : TJ218.heap = h214) (zj219 : Int32), zj219 = (if zj206 = (4 : Int32) then (1 : Int32) else (0 : Int32)) → own_G p e below (own_P s (own_W n0 (fun v _ => v = some (.int 1))) room_1.cells room_1.slots) (TJ218.setTop (mkF m 99 #[.val (.int p0), .val (.int p1), .val (.int p2), .val (.int p3), .val (.int p4), .val (.int (4 : Int32)), .val (.ref b198), .val (.int vg204), .val (.int zj206), .val (.ref b207), .unset, .unset] [(.int zj219)])) := by
        intro TJ218 XJ218 EJ218 zj219 hzj219
        refine own_via (fun t k => XS.istore XJ218.here hx rfl (hb hby at_99) rfl (l' := #[.val (.int p0), .val (.int p1), .val (.int p2), .val (.int p3), .val (.int p4), .val (.int (4 : Int32)), .val (.ref b198), .val (.int vg204), .val (.int zj206), .val (.ref b207), .val (.int zj219), .unset]) rfl k) ?_
        show own_G p e below _ (TJ218.setTop (mkF m 101 #[.val (.int p0), .val (.int p1), .val (.int p2), .val (.int p3), .val (.int p4), .val (.int (4 : Int32)), .val (.ref b198), .val (.int vg204), .val (.int zj206), .val (.ref b207), .val (.int zj219), .unset] []))
        obtain ⟨T220, h220, b220, X220, e220, E220, ga220, A220, D220, st220⟩ := own_newO XJ218 hx hZ hown (hw _ (List.mem_of_getElem? (i := 1) rfl)) (hw _ (List.mem_of_getElem? (i := 2) rfl)) (hw _ (List.mem_of_getElem? (i := 3) rfl)) EJ218 (pc := 101) (Ls := #[.val (.int p0), .val (.int p1), .val (.int p2), .val (.int p3), .val (.int p4), .val (.int (4 : Int32)), .val (.ref b198), .val (.int vg204), .val (.int zj206), .val (.ref b207), .val (.int zj219), .unset]) (rest := []) (hb hby at_101) (by decide) (by decide)
        refine own_via st220 ?_
        have ne221 : b198 ≠ b220 := Nat.ne_of_lt (Nat.lt_of_lt_of_le f215.lt (Nat.le_of_eq ga220.symm))
        have ne222 : b207 ≠ b220 := Nat.ne_of_lt (Nat.lt_of_lt_of_le o214_0.lt (Nat.le_of_eq ga220.symm))
        have f223 : Arv Z h220 b198 k198 .int (4 : Int32) [(.int p4), (.int (0 : Int32)), (.int (0 : Int32)), (.int (0 : Int32))] (.int (0 : Int32)) := f215.ext E220
        have f224 : Exa Z h220 b207 "com/example/dissoc/dissoc/ranking/Found" := o214_0.ext E220
        have f225 : Fld Z h220 b207 "com/example/dissoc/dissoc/ranking/Found" "tuple" "I" (.int p0) := o214_1.ext E220
        have f226 : Fld Z h220 b207 "com/example/dissoc/dissoc/ranking/Found" "contingency" "[I" (.ref b198) := o214_2.ext E220
        have f227 : Fld Z h220 b207 "com/example/dissoc/dissoc/ranking/Found" "lowerBound" "I" (.int zj206) := o214_3.ext E220
        have f228 : Fld Z h220 b220 "com/example/dissoc/dissoc/ranking/Found" "tuple" "I" (.int (0 : Int32)) := D220 (Or.inr (hw _ (List.mem_of_getElem? (i := 16) rfl))) (ty := .int) (by decide)
        have f229 : Fld Z h220 b220 "com/example/dissoc/dissoc/ranking/Found" "contingency" "[I" .null := D220 (Or.inr (hw _ (List.mem_of_getElem? (i := 18) rfl))) (ty := (.array .int)) (by decide)
        have f230 : Fld Z h220 b220 "com/example/dissoc/dissoc/ranking/Found" "lowerBound" "I" (.int (0 : Int32)) := D220 (Or.inr (hw _ (List.mem_of_getElem? (i := 20) rfl))) (ty := .int) (by decide)
        have g_b220 : n0 ≤ b220 := Nat.le_trans Zs217 (Nat.le_of_eq ga220.symm)
        have Zs231 : n0 ≤ h220.size := Nat.le_trans Zs217 E220.1
        show own_G p e below _ (T220.setTop (mkF m 104 #[.val (.int p0), .val (.int p1), .val (.int p2), .val (.int p3), .val (.int p4), .val (.int (4 : Int32)), .val (.ref b198), .val (.int vg204), .val (.int zj206), .val (.ref b207), .val (.int zj219), .unset] [(.ref b220)]))
        refine own_via (fun t k => XS.dup X220.here hx rfl (hb hby at_104) rfl rfl k) ?_
        show own_G p e below _ (T220.setTop (mkF m 105 #[.val (.int p0), .val (.int p1), .val (.int p2), .val (.int p3), .val (.int p4), .val (.int (4 : Int32)), .val (.ref b198), .val (.int vg204), .val (.int zj206), .val (.ref b207), .val (.int zj219), .unset] [(.ref b220), (.ref b220)]))
        refine own_via (fun t k => XS.iloadN X220.here hx rfl (hb hby at_105) rfl k) ?_
        show own_G p e below _ (T220.setTop (mkF m 106 #[.val (.int p0), .val (.int p1), .val (.int p2), .val (.int p3), .val (.int p4), .val (.int (4 : Int32)), .val (.ref b198), .val (.int vg204), .val (.int zj206), .val (.ref b207), .val (.int zj219), .unset] [(.int p0), (.ref b220), (.ref b220)]))
        refine own_via (fun t k => XS.aload X220.here hx rfl (hb hby at_106) rfl rfl k) ?_
        show own_G p e below _ (T220.setTop (mkF m 108 #[.val (.int p0), .val (.int p1), .val (.int p2), .val (.int p3), .val (.int p4), .val (.int (4 : Int32)), .val (.ref b198), .val (.int vg204), .val (.int zj206), .val (.ref b207), .val (.int zj219), .unset] [(.ref b198), (.int p0), (.ref b220), (.ref b220)]))
        obtain ⟨v232, T232, h232, L232, X232, N232, e232, hq232, st232⟩ := own_callI (y := (⟨"com/example/dissoc/dissoc/ranking/Found", "<init>", "(I[I)V"⟩ : MethodName)) (W := 1) (a := b220) X220 N214 hx hZ rfl hown (hw _ (List.mem_of_getElem? (i := 21) rfl)) (hw _ (List.mem_of_getElem? (i := 22) rfl)) (hw _ (List.mem_of_getElem? (i := 3) rfl)) (hw _ (List.mem_of_getElem? (i := 23) rfl)) (by decide) (own_c2 l Z a0 hw [] b220 p0 b198 (.int (0 : Int32)) (.null) (.int (0 : Int32)) k198 (4 : Int32) [(.int p4), (.int (0 : Int32)), (.int (0 : Int32)), (.int (0 : Int32))] (.int (0 : Int32)) h220 n0 Zs231 A220 f228 f229 f230 f223 g_b220) (by decide) (by decide) (by decide) (by decide) e220 (pc := 108) (Ls := #[.val (.int p0), .val (.int p1), .val (.int p2), .val (.int p3), .val (.int p4), .val (.int (4 : Int32)), .val (.ref b198), .val (.int vg204), .val (.int zj206), .val (.ref b207), .val (.int zj219), .unset]) (st := [(.ref b198), (.int p0), (.ref b220), (.ref b220)]) (argsL := [(.int p0), (.ref b198)]) (rest := [(.ref b220)]) (by rw [hml]; rfl) (lenOf own_pd2 rfl) rfl rfl (Nat.le_of_eq rfl) (hb hby at_108)
        obtain ⟨rfl, K232, o232_0, o232_1, o232_2, o232_3⟩ := hq232
        refine own_via st232 ?_
        have f233 : Arv Z h232 b198 k198 .int (4 : Int32) [(.int p4), (.int (0 : Int32)), (.int (0 : Int32)), (.int (0 : Int32))] (.int (0 : Int32)) := f223.keep K232 (by simp only [List.mem_cons, List.not_mem_nil, or_false, not_or]; exact ne221)
        have f234 : Exa Z h232 b207 "com/example/dissoc/dissoc/ranking/Found" := f224.keep K232
        have f235 : Fld Z h232 b207 "com/example/dissoc/dissoc/ranking/Found" "tuple" "I" (.int p0) := f225.keep K232 (by simp only [List.mem_cons, List.not_mem_nil, or_false, not_or]; exact ne222)
        have f236 : Fld Z h232 b207 "com/example/dissoc/dissoc/ranking/Found" "contingency" "[I" (.ref b198) := f226.keep K232 (by simp only [List.mem_cons, List.not_mem_nil, or_false, not_or]; exact ne222)
        have f237 : Fld Z h232 b207 "com/example/dissoc/dissoc/ranking/Found" "lowerBound" "I" (.int zj206) := f227.keep K232 (by simp only [List.mem_cons, List.not_mem_nil, or_false, not_or]; exact ne222)
        have f238 : Exa Z h232 b220 "com/example/dissoc/dissoc/ranking/Found" := A220.keep K232
        have Zs239 : n0 ≤ h232.size := Nat.le_trans Zs231 K232.1
        show own_G p e below _ (T232.setTop (mkF m 111 #[.val (.int p0), .val (.int p1), .val (.int p2), .val (.int p3), .val (.int p4), .val (.int (4 : Int32)), .val (.ref b198), .val (.int vg204), .val (.int zj206), .val (.ref b207), .val (.int zj219), .unset] [(.ref b220)]))
        refine own_via (fun t k => XS.astore X232.here hx rfl (hb hby at_111) rfl rfl (l' := #[.val (.int p0), .val (.int p1), .val (.int p2), .val (.int p3), .val (.int p4), .val (.int (4 : Int32)), .val (.ref b198), .val (.int vg204), .val (.int zj206), .val (.ref b207), .val (.int zj219), .val (.ref b220)]) rfl k) ?_
        show own_G p e below _ (T232.setTop (mkF m 113 #[.val (.int p0), .val (.int p1), .val (.int p2), .val (.int p3), .val (.int p4), .val (.int (4 : Int32)), .val (.ref b198), .val (.int vg204), .val (.int zj206), .val (.ref b207), .val (.int zj219), .val (.ref b220)] []))
        refine own_via (fun t k => XS.aload X232.here hx rfl (hb hby at_113) rfl rfl k) ?_
        show own_G p e below _ (T232.setTop (mkF m 115 #[.val (.int p0), .val (.int p1), .val (.int p2), .val (.int p3), .val (.int p4), .val (.int (4 : Int32)), .val (.ref b198), .val (.int vg204), .val (.int zj206), .val (.ref b207), .val (.int zj219), .val (.ref b220)] [(.ref b207)]))
        obtain ⟨T240, X240, e240, st240⟩ := own_callVP (y := (⟨"com/example/dissoc/dissoc/ranking/Found", "exact", "()Z"⟩ : MethodName)) (z := (⟨"com/example/dissoc/dissoc/ranking/Found", "exact", "()Z"⟩ : MethodName)) (W := 0) (a := b207) X232 hx hZ hown (hw _ (List.mem_of_getElem? (i := 25) rfl)) (hw _ (List.mem_of_getElem? (i := 26) rfl)) (notFace_of_selects (args := #[]) (mvT hZ (hw _ (List.mem_of_getElem? (i := 28) rfl)))) (hw _ (List.mem_of_getElem? (i := 28) rfl)) (hw _ (List.mem_of_getElem? (i := 27) rfl)) (hw _ (List.mem_of_getElem? (i := 3) rfl)) (hw _ (List.mem_of_getElem? (i := 29) rfl)) (by decide) (own_ex l Z a0 hw [] b207 b198 zj206 k198 (4 : Int32) [(.int p4), (.int (0 : Int32)), (.int (0 : Int32)), (.int (0 : Int32))] (.int (0 : Int32)) h232 f236 f237 f233) (by decide) (by decide) rfl rfl (by decide) (by decide) e232 f234 (pc := 115) (Ls := #[.val (.int p0), .val (.int p1), .val (.int p2), .val (.int p3), .val (.int p4), .val (.int (4 : Int32)), .val (.ref b198), .val (.int vg204), .val (.int zj206), .val (.ref b207), .val (.int zj219), .val (.ref b220)]) (st := [(.ref b207)]) (argsL := []) (rest := []) (by rw [hml]; rfl) (lenOf own_pd3 rfl) rfl rfl (Nat.le_of_eq rfl) (hb hby at_115)
        refine own_via st240 ?_
        show own_G p e below _ (T240.setTop (mkF m 118 #[.val (.int p0), .val (.int p1), .val (.int p2), .val (.int p3), .val (.int p4), .val (.int (4 : Int32)), .val (.ref b198), .val (.int vg204), .val (.int zj206), .val (.ref b207), .val (.int zj219), .val (.ref b220)] [(.int (own_Fex zj206 (4 : Int32)))]))
        refine own_via (fun t k => XS.iload X240.here hx rfl (hb hby at_118) rfl k) ?_
        show own_G p e below _ (T240.setTop (mkF m 120 #[.val (.int p0), .val (.int p1), .val (.int p2), .val (.int p3), .val (.int p4), .val (.int (4 : Int32)), .val (.ref b198), .val (.int vg204), .val (.int zj206), .val (.ref b207), .val (.int zj219), .val (.ref b220)] [(.int zj219), (.int (own_Fex zj206 (4 : Int32)))]))
        refine own_via (fun t k => XS.icmpNo X240.here hx rfl (hb hby at_120) rfl (teq (by subst hzj219; subst hzj206; subst hvg204; rfl)).2 k) ?_
        show own_G p e below _ (T240.setTop (mkF m 123 #[.val (.int p0), .val (.int p1), .val (.int p2), .val (.int p3), .val (.int p4), .val (.int (4 : Int32)), .val (.ref b198), .val (.int vg204), .val (.int zj206), .val (.ref b207), .val (.int zj219), .val (.ref b220)] []))
        refine own_via (fun t k => XS.aload X240.here hx rfl (hb hby at_123) rfl rfl k) ?_
        show own_G p e below _ (T240.setTop (mkF m 125 #[.val (.int p0), .val (.int p1), .val (.int p2), .val (.int p3), .val (.int p4), .val (.int (4 : Int32)), .val (.ref b198), .val (.int vg204), .val (.int zj206), .val (.ref b207), .val (.int zj219), .val (.ref b220)] [(.ref b220)]))
        obtain ⟨T241, X241, e241, st241⟩ := own_callVP (y := (⟨"com/example/dissoc/dissoc/ranking/Found", "exact", "()Z"⟩ : MethodName)) (z := (⟨"com/example/dissoc/dissoc/ranking/Found", "exact", "()Z"⟩ : MethodName)) (W := 0) (a := b220) X240 hx hZ hown (hw _ (List.mem_of_getElem? (i := 25) rfl)) (hw _ (List.mem_of_getElem? (i := 26) rfl)) (notFace_of_selects (args := #[]) (mvT hZ (hw _ (List.mem_of_getElem? (i := 28) rfl)))) (hw _ (List.mem_of_getElem? (i := 28) rfl)) (hw _ (List.mem_of_getElem? (i := 27) rfl)) (hw _ (List.mem_of_getElem? (i := 3) rfl)) (hw _ (List.mem_of_getElem? (i := 29) rfl)) (by decide) (own_ex l Z a0 hw [] b220 b198 (4 : Int32) k198 (4 : Int32) [(.int p4), (.int (0 : Int32)), (.int (0 : Int32)), (.int (0 : Int32))] (.int (0 : Int32)) h232 o232_2 o232_3 f233) (by decide) (by decide) rfl rfl (by decide) (by decide) e240 o232_0 (pc := 125) (Ls := #[.val (.int p0), .val (.int p1), .val (.int p2), .val (.int p3), .val (.int p4), .val (.int (4 : Int32)), .val (.ref b198), .val (.int vg204), .val (.int zj206), .val (.ref b207), .val (.int zj219), .val (.ref b220)]) (st := [(.ref b220)]) (argsL := []) (rest := []) (by rw [hml]; rfl) (lenOf own_pd3 rfl) rfl rfl (Nat.le_of_eq rfl) (hb hby at_125)
        refine own_via st241 ?_
        show own_G p e below _ (T241.setTop (mkF m 128 #[.val (.int p0), .val (.int p1), .val (.int p2), .val (.int p3), .val (.int p4), .val (.int (4 : Int32)), .val (.ref b198), .val (.int vg204), .val (.int zj206), .val (.ref b207), .val (.int zj219), .val (.ref b220)] [(.int (own_Fex (4 : Int32) (4 : Int32)))]))
        refine own_via (fun t k => XS.ifNo X241.here hx rfl (hb hby at_128) rfl ((if0 _ _).trans (feq (by decide)).1) k) ?_
        show own_G p e below _ (T241.setTop (mkF m 131 #[.val (.int p0), .val (.int p1), .val (.int p2), .val (.int p3), .val (.int p4), .val (.int (4 : Int32)), .val (.ref b198), .val (.int vg204), .val (.int zj206), .val (.ref b207), .val (.int zj219), .val (.ref b220)] []))
        refine own_via (fun t k => XS.iconst X241.here hx rfl (hb hby at_131) k) ?_
        show own_G p e below _ (T241.setTop (mkF m 132 #[.val (.int p0), .val (.int p1), .val (.int p2), .val (.int p3), .val (.int p4), .val (.int (4 : Int32)), .val (.ref b198), .val (.int vg204), .val (.int zj206), .val (.ref b207), .val (.int zj219), .val (.ref b220)] [(.int (1 : Int32))]))
        refine own_via (fun t k => XS.goto X241.here hx rfl (pc0 := 132) (pc' := 136) rfl (hb hby at_132) (by decide) (by decide) k) ?_
        show own_G p e below _ (T241.setTop (mkF m 136 #[.val (.int p0), .val (.int p1), .val (.int p2), .val (.int p3), .val (.int p4), .val (.int (4 : Int32)), .val (.ref b198), .val (.int vg204), .val (.int zj206), .val (.ref b207), .val (.int zj219), .val (.ref b220)] [(.int (1 : Int32))]))
        exact own_retN (t := .boolean) X241 hx Bd.returns (by simp) Bd.notSynchronized (hb hby at_136) ⟨N232, rfl⟩ (by decide) (by decide)
      by_cases hc242 : zj206 = (4 : Int32)
      ·
        refine own_via (fun t k => XS.icmpNo X214.here hx rfl (hb hby at_91) rfl (teq hc242).2 k) ?_
        show own_G p e below _ (T214.setTop (mkF m 94 #[.val (.int p0), .val (.int p1), .val (.int p2), .val (.int p3), .val (.int p4), .val (.int (4 : Int32)), .val (.ref b198), .val (.int vg204), .val (.int zj206), .val (.ref b207), .unset, .unset] []))
        refine own_via (fun t k => XS.iconst X214.here hx rfl (hb hby at_94) k) ?_
        show own_G p e below _ (T214.setTop (mkF m 95 #[.val (.int p0), .val (.int p1), .val (.int p2), .val (.int p3), .val (.int p4), .val (.int (4 : Int32)), .val (.ref b198), .val (.int vg204), .val (.int zj206), .val (.ref b207), .unset, .unset] [(.int (1 : Int32))]))
        refine own_via (fun t k => XS.goto X214.here hx rfl (pc0 := 95) (pc' := 99) rfl (hb hby at_95) (by decide) (by decide) k) ?_
        show own_G p e below _ (T214.setTop (mkF m 99 #[.val (.int p0), .val (.int p1), .val (.int p2), .val (.int p3), .val (.int p4), .val (.int (4 : Int32)), .val (.ref b198), .val (.int vg204), .val (.int zj206), .val (.ref b207), .unset, .unset] [(.int (1 : Int32))]))
        exact J218 _ X214 e214 _ (by simp only [if_pos hc242])
      ·
        refine own_via (fun t k => XS.icmpYes X214.here hx rfl (pc0 := 91) (pc' := 98) rfl (hb hby at_91) rfl (feq hc242).2 (by decide) (by decide) k) ?_
        show own_G p e below _ (T214.setTop (mkF m 98 #[.val (.int p0), .val (.int p1), .val (.int p2), .val (.int p3), .val (.int p4), .val (.int (4 : Int32)), .val (.ref b198), .val (.int vg204), .val (.int zj206), .val (.ref b207), .unset, .unset] []))
        refine own_via (fun t k => XS.iconst X214.here hx rfl (hb hby at_98) k) ?_
        show own_G p e below _ (T214.setTop (mkF m 99 #[.val (.int p0), .val (.int p1), .val (.int p2), .val (.int p3), .val (.int p4), .val (.int (4 : Int32)), .val (.ref b198), .val (.int vg204), .val (.int zj206), .val (.ref b207), .unset, .unset] [(.int (0 : Int32))]))
        exact J218 _ X214 e214 _ (by simp only [if_neg hc242])
    by_cases hc243 : vg204 = (0 : Int32)
    ·
      refine own_via (fun t k => XS.ifNo X201.here hx rfl (hb hby at_30) rfl ((if0 _ _).trans (teq hc243).2) k) ?_
      show own_G p e below _ (T201.setTop (mkF m 33 #[.val (.int p0), .val (.int p1), .val (.int p2), .val (.int p3), .val (.int p4), .val (.int (4 : Int32)), .val (.ref b198), .val (.int vg204), .unset, .unset, .unset, .unset] []))
      refine own_via (fun t k => XS.iload X201.here hx rfl (hb hby at_33) rfl k) ?_
      show own_G p e below _ (T201.setTop (mkF m 35 #[.val (.int p0), .val (.int p1), .val (.int p2), .val (.int p3), .val (.int p4), .val (.int (4 : Int32)), .val (.ref b198), .val (.int vg204), .unset, .unset, .unset, .unset] [(.int (4 : Int32))]))
      refine own_via (fun t k => XS.istore X201.here hx rfl (hb hby at_35) rfl (l' := #[.val (.int p0), .val (.int p1), .val (.int p2), .val (.int p3), .val (.int p4), .val (.int (4 : Int32)), .val (.ref b198), .val (.int vg204), .val (.int (4 : Int32)), .unset, .unset, .unset]) rfl k) ?_
      show own_G p e below _ (T201.setTop (mkF m 37 #[.val (.int p0), .val (.int p1), .val (.int p2), .val (.int p3), .val (.int p4), .val (.int (4 : Int32)), .val (.ref b198), .val (.int vg204), .val (.int (4 : Int32)), .unset, .unset, .unset] []))
      refine own_via (fun t k => XS.goto X201.here hx rfl (pc0 := 37) (pc' := 73) rfl (hb hby at_37) (by decide) (by decide) k) ?_
      show own_G p e below _ (T201.setTop (mkF m 73 #[.val (.int p0), .val (.int p1), .val (.int p2), .val (.int p3), .val (.int p4), .val (.int (4 : Int32)), .val (.ref b198), .val (.int vg204), .val (.int (4 : Int32)), .unset, .unset, .unset] []))
      exact J205 _ X201 e201 _ (by simp only [if_pos hc243])
    ·
      refine own_via (fun t k => XS.ifYes X201.here hx rfl (pc0 := 30) (pc' := 40) rfl (hb hby at_30) rfl ((if0 _ _).trans (feq hc243).2) (by decide) (by decide) k) ?_
      show own_G p e below _ (T201.setTop (mkF m 40 #[.val (.int p0), .val (.int p1), .val (.int p2), .val (.int p3), .val (.int p4), .val (.int (4 : Int32)), .val (.ref b198), .val (.int vg204), .unset, .unset, .unset, .unset] []))
      refine own_via (fun t k => XS.iload X201.here hx rfl (hb hby at_40) rfl k) ?_
      show own_G p e below _ (T201.setTop (mkF m 42 #[.val (.int p0), .val (.int p1), .val (.int p2), .val (.int p3), .val (.int p4), .val (.int (4 : Int32)), .val (.ref b198), .val (.int vg204), .unset, .unset, .unset, .unset] [(.int vg204)]))
      refine own_via (fun t k => XS.iconst X201.here hx rfl (hb hby at_42) k) ?_
      show own_G p e below _ (T201.setTop (mkF m 43 #[.val (.int p0), .val (.int p1), .val (.int p2), .val (.int p3), .val (.int p4), .val (.int (4 : Int32)), .val (.ref b198), .val (.int vg204), .unset, .unset, .unset, .unset] [(.int (1 : Int32)), (.int vg204)]))
      by_cases hc244 : vg204 = (1 : Int32)
      ·
        refine own_via (fun t k => XS.icmpNo X201.here hx rfl (hb hby at_43) rfl (teq hc244).2 k) ?_
        show own_G p e below _ (T201.setTop (mkF m 46 #[.val (.int p0), .val (.int p1), .val (.int p2), .val (.int p3), .val (.int p4), .val (.int (4 : Int32)), .val (.ref b198), .val (.int vg204), .unset, .unset, .unset, .unset] []))
        refine own_via (fun t k => XS.iload X201.here hx rfl (hb hby at_46) rfl k) ?_
        show own_G p e below _ (T201.setTop (mkF m 48 #[.val (.int p0), .val (.int p1), .val (.int p2), .val (.int p3), .val (.int p4), .val (.int (4 : Int32)), .val (.ref b198), .val (.int vg204), .unset, .unset, .unset, .unset] [(.int (4 : Int32))]))
        refine own_via (fun t k => XS.iconst X201.here hx rfl (hb hby at_48) k) ?_
        show own_G p e below _ (T201.setTop (mkF m 49 #[.val (.int p0), .val (.int p1), .val (.int p2), .val (.int p3), .val (.int p4), .val (.int (4 : Int32)), .val (.ref b198), .val (.int vg204), .unset, .unset, .unset, .unset] [(.int (1 : Int32)), (.int (4 : Int32))]))
        refine own_via (fun t k => XS.isub X201.here hx rfl (hb hby at_49) rfl k) ?_
        show own_G p e below _ (T201.setTop (mkF m 50 #[.val (.int p0), .val (.int p1), .val (.int p2), .val (.int p3), .val (.int p4), .val (.int (4 : Int32)), .val (.ref b198), .val (.int vg204), .unset, .unset, .unset, .unset] [(.int (3 : Int32))]))
        refine own_via (fun t k => XS.istore X201.here hx rfl (hb hby at_50) rfl (l' := #[.val (.int p0), .val (.int p1), .val (.int p2), .val (.int p3), .val (.int p4), .val (.int (4 : Int32)), .val (.ref b198), .val (.int vg204), .val (.int (3 : Int32)), .unset, .unset, .unset]) rfl k) ?_
        show own_G p e below _ (T201.setTop (mkF m 52 #[.val (.int p0), .val (.int p1), .val (.int p2), .val (.int p3), .val (.int p4), .val (.int (4 : Int32)), .val (.ref b198), .val (.int vg204), .val (.int (3 : Int32)), .unset, .unset, .unset] []))
        refine own_via (fun t k => XS.goto X201.here hx rfl (pc0 := 52) (pc' := 73) rfl (hb hby at_52) (by decide) (by decide) k) ?_
        show own_G p e below _ (T201.setTop (mkF m 73 #[.val (.int p0), .val (.int p1), .val (.int p2), .val (.int p3), .val (.int p4), .val (.int (4 : Int32)), .val (.ref b198), .val (.int vg204), .val (.int (3 : Int32)), .unset, .unset, .unset] []))
        exact J205 _ X201 e201 _ (by simp only [if_neg hc243, if_pos hc244])
      ·
        refine own_via (fun t k => XS.icmpYes X201.here hx rfl (pc0 := 43) (pc' := 55) rfl (hb hby at_43) rfl (feq hc244).2 (by decide) (by decide) k) ?_
        show own_G p e below _ (T201.setTop (mkF m 55 #[.val (.int p0), .val (.int p1), .val (.int p2), .val (.int p3), .val (.int p4), .val (.int (4 : Int32)), .val (.ref b198), .val (.int vg204), .unset, .unset, .unset, .unset] []))
        refine own_via (fun t k => XS.iload X201.here hx rfl (hb hby at_55) rfl k) ?_
        show own_G p e below _ (T201.setTop (mkF m 57 #[.val (.int p0), .val (.int p1), .val (.int p2), .val (.int p3), .val (.int p4), .val (.int (4 : Int32)), .val (.ref b198), .val (.int vg204), .unset, .unset, .unset, .unset] [(.int vg204)]))
        refine own_via (fun t k => XS.iconst X201.here hx rfl (hb hby at_57) k) ?_
        show own_G p e below _ (T201.setTop (mkF m 58 #[.val (.int p0), .val (.int p1), .val (.int p2), .val (.int p3), .val (.int p4), .val (.int (4 : Int32)), .val (.ref b198), .val (.int vg204), .unset, .unset, .unset, .unset] [(.int (2 : Int32)), (.int vg204)]))
        by_cases hc245 : vg204 = (2 : Int32)
        ·
          refine own_via (fun t k => XS.icmpNo X201.here hx rfl (hb hby at_58) rfl (teq hc245).2 k) ?_
          show own_G p e below _ (T201.setTop (mkF m 61 #[.val (.int p0), .val (.int p1), .val (.int p2), .val (.int p3), .val (.int p4), .val (.int (4 : Int32)), .val (.ref b198), .val (.int vg204), .unset, .unset, .unset, .unset] []))
          refine own_via (fun t k => XS.iload X201.here hx rfl (hb hby at_61) rfl k) ?_
          show own_G p e below _ (T201.setTop (mkF m 63 #[.val (.int p0), .val (.int p1), .val (.int p2), .val (.int p3), .val (.int p4), .val (.int (4 : Int32)), .val (.ref b198), .val (.int vg204), .unset, .unset, .unset, .unset] [(.int (4 : Int32))]))
          refine own_via (fun t k => XS.iconst X201.here hx rfl (hb hby at_63) k) ?_
          show own_G p e below _ (T201.setTop (mkF m 64 #[.val (.int p0), .val (.int p1), .val (.int p2), .val (.int p3), .val (.int p4), .val (.int (4 : Int32)), .val (.ref b198), .val (.int vg204), .unset, .unset, .unset, .unset] [(.int (1 : Int32)), (.int (4 : Int32))]))
          refine own_via (fun t k => XS.iadd X201.here hx rfl (hb hby at_64) rfl k) ?_
          show own_G p e below _ (T201.setTop (mkF m 65 #[.val (.int p0), .val (.int p1), .val (.int p2), .val (.int p3), .val (.int p4), .val (.int (4 : Int32)), .val (.ref b198), .val (.int vg204), .unset, .unset, .unset, .unset] [(.int (5 : Int32))]))
          refine own_via (fun t k => XS.istore X201.here hx rfl (hb hby at_65) rfl (l' := #[.val (.int p0), .val (.int p1), .val (.int p2), .val (.int p3), .val (.int p4), .val (.int (4 : Int32)), .val (.ref b198), .val (.int vg204), .val (.int (5 : Int32)), .unset, .unset, .unset]) rfl k) ?_
          show own_G p e below _ (T201.setTop (mkF m 67 #[.val (.int p0), .val (.int p1), .val (.int p2), .val (.int p3), .val (.int p4), .val (.int (4 : Int32)), .val (.ref b198), .val (.int vg204), .val (.int (5 : Int32)), .unset, .unset, .unset] []))
          refine own_via (fun t k => XS.goto X201.here hx rfl (pc0 := 67) (pc' := 73) rfl (hb hby at_67) (by decide) (by decide) k) ?_
          show own_G p e below _ (T201.setTop (mkF m 73 #[.val (.int p0), .val (.int p1), .val (.int p2), .val (.int p3), .val (.int p4), .val (.int (4 : Int32)), .val (.ref b198), .val (.int vg204), .val (.int (5 : Int32)), .unset, .unset, .unset] []))
          exact J205 _ X201 e201 _ (by simp only [if_neg hc243, if_neg hc244, if_pos hc245])
        ·
          refine own_via (fun t k => XS.icmpYes X201.here hx rfl (pc0 := 58) (pc' := 70) rfl (hb hby at_58) rfl (feq hc245).2 (by decide) (by decide) k) ?_
          show own_G p e below _ (T201.setTop (mkF m 70 #[.val (.int p0), .val (.int p1), .val (.int p2), .val (.int p3), .val (.int p4), .val (.int (4 : Int32)), .val (.ref b198), .val (.int vg204), .unset, .unset, .unset, .unset] []))
          refine own_via (fun t k => XS.iloadN X201.here hx rfl (hb hby at_70) rfl k) ?_
          show own_G p e below _ (T201.setTop (mkF m 71 #[.val (.int p0), .val (.int p1), .val (.int p2), .val (.int p3), .val (.int p4), .val (.int (4 : Int32)), .val (.ref b198), .val (.int vg204), .unset, .unset, .unset, .unset] [(.int p2)]))
          refine own_via (fun t k => XS.istore X201.here hx rfl (hb hby at_71) rfl (l' := #[.val (.int p0), .val (.int p1), .val (.int p2), .val (.int p3), .val (.int p4), .val (.int (4 : Int32)), .val (.ref b198), .val (.int vg204), .val (.int p2), .unset, .unset, .unset]) rfl k) ?_
          show own_G p e below _ (T201.setTop (mkF m 73 #[.val (.int p0), .val (.int p1), .val (.int p2), .val (.int p3), .val (.int p4), .val (.int (4 : Int32)), .val (.ref b198), .val (.int vg204), .val (.int p2), .unset, .unset, .unset] []))
          exact J205 _ X201 e201 _ (by simp only [if_neg hc243, if_neg hc244, if_neg hc245])
  ·
    rw [hs6]
    show own_G p e below _ (s₁.setTop (mkF m 4 #[.val (.int p0), .val (.int p1), .val (.int p2), .val (.int p3), .val (.int p4), .unset, .unset, .unset, .unset, .unset, .unset, .unset] [(.int (5 : Int32))]))
    refine own_via (fun t k => XS.istore X0.here hx rfl (hb hby at_4) rfl (l' := #[.val (.int p0), .val (.int p1), .val (.int p2), .val (.int p3), .val (.int p4), .val (.int (5 : Int32)), .unset, .unset, .unset, .unset, .unset, .unset]) rfl k) ?_
    show own_G p e below _ (s₁.setTop (mkF m 6 #[.val (.int p0), .val (.int p1), .val (.int p2), .val (.int p3), .val (.int p4), .val (.int (5 : Int32)), .unset, .unset, .unset, .unset, .unset, .unset] []))
    refine own_via (fun t k => XS.iload X0.here hx rfl (hb hby at_6) rfl k) ?_
    show own_G p e below _ (s₁.setTop (mkF m 8 #[.val (.int p0), .val (.int p1), .val (.int p2), .val (.int p3), .val (.int p4), .val (.int (5 : Int32)), .unset, .unset, .unset, .unset, .unset, .unset] [(.int (5 : Int32))]))
    obtain ⟨T246, h246, k246, b246, X246, e246, E246, ga246, V246, Ex246, st246⟩ := own_newA X0 hx hZ (hw _ (List.mem_of_getElem? (i := 0) rfl)) e0 (pc := 8) (Ls := #[.val (.int p0), .val (.int p1), .val (.int p2), .val (.int p3), .val (.int p4), .val (.int (5 : Int32)), .unset, .unset, .unset, .unset, .unset, .unset]) (rest := []) (hb hby at_8) (n := (5 : Int32)) (by decide) (cap := 5) (by decide) (by decide) (by decide) (by decide) 5 rfl
    refine own_via st246 ?_
    have f247 : Arv Z h246 b246 k246 .int (5 : Int32) [(.int (0 : Int32)), (.int (0 : Int32)), (.int (0 : Int32)), (.int (0 : Int32)), (.int (0 : Int32))] (.int (0 : Int32)) := V246
    have g_b246 : n0 ≤ b246 := Nat.le_trans Z0 (Nat.le_of_eq ga246.symm)
    have Zs248 : n0 ≤ h246.size := Nat.le_trans Z0 E246.1
    show own_G p e below _ (T246.setTop (mkF m 10 #[.val (.int p0), .val (.int p1), .val (.int p2), .val (.int p3), .val (.int p4), .val (.int (5 : Int32)), .unset, .unset, .unset, .unset, .unset, .unset] [(.ref b246)]))
    refine own_via (fun t k => XS.astore X246.here hx rfl (hb hby at_10) rfl rfl (l' := #[.val (.int p0), .val (.int p1), .val (.int p2), .val (.int p3), .val (.int p4), .val (.int (5 : Int32)), .val (.ref b246), .unset, .unset, .unset, .unset, .unset]) rfl k) ?_
    show own_G p e below _ (T246.setTop (mkF m 12 #[.val (.int p0), .val (.int p1), .val (.int p2), .val (.int p3), .val (.int p4), .val (.int (5 : Int32)), .val (.ref b246), .unset, .unset, .unset, .unset, .unset] []))
    refine own_via (fun t k => XS.iload X246.here hx rfl (hb hby at_12) rfl k) ?_
    show own_G p e below _ (T246.setTop (mkF m 14 #[.val (.int p0), .val (.int p1), .val (.int p2), .val (.int p3), .val (.int p4), .val (.int (5 : Int32)), .val (.ref b246), .unset, .unset, .unset, .unset, .unset] [(.int (5 : Int32))]))
    refine own_via (fun t k => XS.ifNo X246.here hx rfl (hb hby at_14) rfl ((if0 _ _).trans (tlt (by decide : (0 : Int32) < (5 : Int32))).2.2.2) k) ?_
    show own_G p e below _ (T246.setTop (mkF m 17 #[.val (.int p0), .val (.int p1), .val (.int p2), .val (.int p3), .val (.int p4), .val (.int (5 : Int32)), .val (.ref b246), .unset, .unset, .unset, .unset, .unset] []))
    refine own_via (fun t k => XS.aload X246.here hx rfl (hb hby at_17) rfl rfl k) ?_
    show own_G p e below _ (T246.setTop (mkF m 19 #[.val (.int p0), .val (.int p1), .val (.int p2), .val (.int p3), .val (.int p4), .val (.int (5 : Int32)), .val (.ref b246), .unset, .unset, .unset, .unset, .unset] [(.ref b246)]))
    refine own_via (fun t k => XS.iconst X246.here hx rfl (hb hby at_19) k) ?_
    show own_G p e below _ (T246.setTop (mkF m 20 #[.val (.int p0), .val (.int p1), .val (.int p2), .val (.int p3), .val (.int p4), .val (.int (5 : Int32)), .val (.ref b246), .unset, .unset, .unset, .unset, .unset] [(.int (0 : Int32)), (.ref b246)]))
    refine own_via (fun t k => XS.iload X246.here hx rfl (hb hby at_20) rfl k) ?_
    show own_G p e below _ (T246.setTop (mkF m 22 #[.val (.int p0), .val (.int p1), .val (.int p2), .val (.int p3), .val (.int p4), .val (.int (5 : Int32)), .val (.ref b246), .unset, .unset, .unset, .unset, .unset] [(.int p4), (.int (0 : Int32)), (.ref b246)]))
    obtain ⟨T249, h249, L249, X249, N249, e249, W249, V249, st249⟩ := own_stI X246 N0 hx hZ e246 f247 g_b246 (j := (0 : Int32)) (x := p4) (i := 0) ⟨by decide, by decide⟩ rfl (Nat.le_of_ble_eq_true rfl) (pc := 22) (Ls := #[.val (.int p0), .val (.int p1), .val (.int p2), .val (.int p3), .val (.int p4), .val (.int (5 : Int32)), .val (.ref b246), .unset, .unset, .unset, .unset, .unset]) (rest := []) (hb hby at_22)
    refine own_via st249 ?_
    have f250 : Arv Z h249 b246 k246 .int (5 : Int32) [(.int p4), (.int (0 : Int32)), (.int (0 : Int32)), (.int (0 : Int32)), (.int (0 : Int32))] (.int (0 : Int32)) := V249
    have Zs251 : n0 ≤ h249.size := by rw [W249.size]; exact Zs248
    show own_G p e below _ (T249.setTop (mkF m 23 #[.val (.int p0), .val (.int p1), .val (.int p2), .val (.int p3), .val (.int p4), .val (.int (5 : Int32)), .val (.ref b246), .unset, .unset, .unset, .unset, .unset] []))
    refine own_via (fun t k => XS.iloadN X249.here hx rfl (hb hby at_23) rfl k) ?_
    show own_G p e below _ (T249.setTop (mkF m 24 #[.val (.int p0), .val (.int p1), .val (.int p2), .val (.int p3), .val (.int p4), .val (.int (5 : Int32)), .val (.ref b246), .unset, .unset, .unset, .unset, .unset] [(.int p3)]))
    refine own_via (fun t k => XS.iconst X249.here hx rfl (hb hby at_24) k) ?_
    show own_G p e below _ (T249.setTop (mkF m 25 #[.val (.int p0), .val (.int p1), .val (.int p2), .val (.int p3), .val (.int p4), .val (.int (5 : Int32)), .val (.ref b246), .unset, .unset, .unset, .unset, .unset] [(.int (3 : Int32)), (.int p3)]))
    refine own_via (fun t k => XS.iand X249.here hx rfl (hb hby at_25) rfl k) ?_
    show own_G p e below _ (T249.setTop (mkF m 26 #[.val (.int p0), .val (.int p1), .val (.int p2), .val (.int p3), .val (.int p4), .val (.int (5 : Int32)), .val (.ref b246), .unset, .unset, .unset, .unset, .unset] [(.int (p3 &&& (3 : Int32)))]))
    generalize hvg252 : (p3 &&& (3 : Int32)) = vg252
    show own_G p e below _ (T249.setTop (mkF m 26 #[.val (.int p0), .val (.int p1), .val (.int p2), .val (.int p3), .val (.int p4), .val (.int (5 : Int32)), .val (.ref b246), .unset, .unset, .unset, .unset, .unset] [(.int vg252)]))
    refine own_via (fun t k => XS.istore X249.here hx rfl (hb hby at_26) rfl (l' := #[.val (.int p0), .val (.int p1), .val (.int p2), .val (.int p3), .val (.int p4), .val (.int (5 : Int32)), .val (.ref b246), .val (.int vg252), .unset, .unset, .unset, .unset]) rfl k) ?_
    show own_G p e below _ (T249.setTop (mkF m 28 #[.val (.int p0), .val (.int p1), .val (.int p2), .val (.int p3), .val (.int p4), .val (.int (5 : Int32)), .val (.ref b246), .val (.int vg252), .unset, .unset, .unset, .unset] []))
    refine own_via (fun t k => XS.iload X249.here hx rfl (hb hby at_28) rfl k) ?_
    show own_G p e below _ (T249.setTop (mkF m 30 #[.val (.int p0), .val (.int p1), .val (.int p2), .val (.int p3), .val (.int p4), .val (.int (5 : Int32)), .val (.ref b246), .val (.int vg252), .unset, .unset, .unset, .unset] [(.int vg252)]))
    have J253 : ∀ (TJ253 : State) (XJ253 : Stand p l e room_1 s m #[(.int p0), (.int p1), (.int p2), (.int p3), (.int p4)] below meth c TJ253 L249 1 5) (EJ253 : TJ253.heap = h249) (zj254 : Int32), zj254 = (if vg252 = (0 : Int32) then (5 : Int32) else (if vg252 = (1 : Int32) then (4 : Int32) else (if vg252 = (2 : Int32) then (6 : Int32) else p2))) → own_G p e below (own_P s (own_W n0 (fun v _ => v = some (.int 1))) room_1.cells room_1.slots) (TJ253.setTop (mkF m 73 #[.val (.int p0), .val (.int p1), .val (.int p2), .val (.int p3), .val (.int p4), .val (.int (5 : Int32)), .val (.ref b246), .val (.int vg252), .val (.int zj254), .unset, .unset, .unset] [])) := by
      intro TJ253 XJ253 EJ253 zj254 hzj254
      obtain ⟨T255, h255, b255, X255, e255, E255, ga255, A255, D255, st255⟩ := own_newO XJ253 hx hZ hown (hw _ (List.mem_of_getElem? (i := 1) rfl)) (hw _ (List.mem_of_getElem? (i := 2) rfl)) (hw _ (List.mem_of_getElem? (i := 3) rfl)) EJ253 (pc := 73) (Ls := #[.val (.int p0), .val (.int p1), .val (.int p2), .val (.int p3), .val (.int p4), .val (.int (5 : Int32)), .val (.ref b246), .val (.int vg252), .val (.int zj254), .unset, .unset, .unset]) (rest := []) (hb hby at_73) (by decide) (by decide)
      refine own_via st255 ?_
      have ne256 : b246 ≠ b255 := Nat.ne_of_lt (Nat.lt_of_lt_of_le f250.lt (Nat.le_of_eq ga255.symm))
      have f257 : Arv Z h255 b246 k246 .int (5 : Int32) [(.int p4), (.int (0 : Int32)), (.int (0 : Int32)), (.int (0 : Int32)), (.int (0 : Int32))] (.int (0 : Int32)) := f250.ext E255
      have f258 : Fld Z h255 b255 "com/example/dissoc/dissoc/ranking/Found" "tuple" "I" (.int (0 : Int32)) := D255 (Or.inr (hw _ (List.mem_of_getElem? (i := 16) rfl))) (ty := .int) (by decide)
      have f259 : Fld Z h255 b255 "com/example/dissoc/dissoc/ranking/Found" "contingency" "[I" .null := D255 (Or.inr (hw _ (List.mem_of_getElem? (i := 18) rfl))) (ty := (.array .int)) (by decide)
      have f260 : Fld Z h255 b255 "com/example/dissoc/dissoc/ranking/Found" "lowerBound" "I" (.int (0 : Int32)) := D255 (Or.inr (hw _ (List.mem_of_getElem? (i := 20) rfl))) (ty := .int) (by decide)
      have g_b255 : n0 ≤ b255 := Nat.le_trans Zs251 (Nat.le_of_eq ga255.symm)
      have Zs261 : n0 ≤ h255.size := Nat.le_trans Zs251 E255.1
      show own_G p e below _ (T255.setTop (mkF m 76 #[.val (.int p0), .val (.int p1), .val (.int p2), .val (.int p3), .val (.int p4), .val (.int (5 : Int32)), .val (.ref b246), .val (.int vg252), .val (.int zj254), .unset, .unset, .unset] [(.ref b255)]))
      refine own_via (fun t k => XS.dup X255.here hx rfl (hb hby at_76) rfl rfl k) ?_
      show own_G p e below _ (T255.setTop (mkF m 77 #[.val (.int p0), .val (.int p1), .val (.int p2), .val (.int p3), .val (.int p4), .val (.int (5 : Int32)), .val (.ref b246), .val (.int vg252), .val (.int zj254), .unset, .unset, .unset] [(.ref b255), (.ref b255)]))
      refine own_via (fun t k => XS.iloadN X255.here hx rfl (hb hby at_77) rfl k) ?_
      show own_G p e below _ (T255.setTop (mkF m 78 #[.val (.int p0), .val (.int p1), .val (.int p2), .val (.int p3), .val (.int p4), .val (.int (5 : Int32)), .val (.ref b246), .val (.int vg252), .val (.int zj254), .unset, .unset, .unset] [(.int p0), (.ref b255), (.ref b255)]))
      refine own_via (fun t k => XS.aload X255.here hx rfl (hb hby at_78) rfl rfl k) ?_
      show own_G p e below _ (T255.setTop (mkF m 80 #[.val (.int p0), .val (.int p1), .val (.int p2), .val (.int p3), .val (.int p4), .val (.int (5 : Int32)), .val (.ref b246), .val (.int vg252), .val (.int zj254), .unset, .unset, .unset] [(.ref b246), (.int p0), (.ref b255), (.ref b255)]))
      refine own_via (fun t k => XS.iload X255.here hx rfl (hb hby at_80) rfl k) ?_
      show own_G p e below _ (T255.setTop (mkF m 82 #[.val (.int p0), .val (.int p1), .val (.int p2), .val (.int p3), .val (.int p4), .val (.int (5 : Int32)), .val (.ref b246), .val (.int vg252), .val (.int zj254), .unset, .unset, .unset] [(.int zj254), (.ref b246), (.int p0), (.ref b255), (.ref b255)]))
      obtain ⟨v262, T262, h262, L262, X262, N262, e262, hq262, st262⟩ := own_callI (y := (⟨"com/example/dissoc/dissoc/ranking/Found", "<init>", "(I[II)V"⟩ : MethodName)) (W := 1) (a := b255) X255 N249 hx hZ rfl hown (hw _ (List.mem_of_getElem? (i := 4) rfl)) (hw _ (List.mem_of_getElem? (i := 5) rfl)) (hw _ (List.mem_of_getElem? (i := 3) rfl)) (hw _ (List.mem_of_getElem? (i := 6) rfl)) (by decide) (own_c3 l Z a0 hw [] b255 p0 b246 zj254 (.int (0 : Int32)) (.null) (.int (0 : Int32)) h255 n0 Zs261 A255 f258 f259 f260 g_b255) (by decide) (by decide) (by decide) (by decide) e255 (pc := 82) (Ls := #[.val (.int p0), .val (.int p1), .val (.int p2), .val (.int p3), .val (.int p4), .val (.int (5 : Int32)), .val (.ref b246), .val (.int vg252), .val (.int zj254), .unset, .unset, .unset]) (st := [(.int zj254), (.ref b246), (.int p0), (.ref b255), (.ref b255)]) (argsL := [(.int p0), (.ref b246), (.int zj254)]) (rest := [(.ref b255)]) (by rw [hml]; rfl) (lenOf own_pd1 rfl) rfl rfl (Nat.le_of_eq rfl) (hb hby at_82)
      obtain ⟨rfl, K262, o262_0, o262_1, o262_2, o262_3⟩ := hq262
      refine own_via st262 ?_
      have f263 : Arv Z h262 b246 k246 .int (5 : Int32) [(.int p4), (.int (0 : Int32)), (.int (0 : Int32)), (.int (0 : Int32)), (.int (0 : Int32))] (.int (0 : Int32)) := f257.keep K262 (by simp only [List.mem_cons, List.not_mem_nil, or_false, not_or]; exact ne256)
      have f264 : Exa Z h262 b255 "com/example/dissoc/dissoc/ranking/Found" := A255.keep K262
      have Zs265 : n0 ≤ h262.size := Nat.le_trans Zs261 K262.1
      show own_G p e below _ (T262.setTop (mkF m 85 #[.val (.int p0), .val (.int p1), .val (.int p2), .val (.int p3), .val (.int p4), .val (.int (5 : Int32)), .val (.ref b246), .val (.int vg252), .val (.int zj254), .unset, .unset, .unset] [(.ref b255)]))
      refine own_via (fun t k => XS.astore X262.here hx rfl (hb hby at_85) rfl rfl (l' := #[.val (.int p0), .val (.int p1), .val (.int p2), .val (.int p3), .val (.int p4), .val (.int (5 : Int32)), .val (.ref b246), .val (.int vg252), .val (.int zj254), .val (.ref b255), .unset, .unset]) rfl k) ?_
      show own_G p e below _ (T262.setTop (mkF m 87 #[.val (.int p0), .val (.int p1), .val (.int p2), .val (.int p3), .val (.int p4), .val (.int (5 : Int32)), .val (.ref b246), .val (.int vg252), .val (.int zj254), .val (.ref b255), .unset, .unset] []))
      refine own_via (fun t k => XS.iload X262.here hx rfl (hb hby at_87) rfl k) ?_
      show own_G p e below _ (T262.setTop (mkF m 89 #[.val (.int p0), .val (.int p1), .val (.int p2), .val (.int p3), .val (.int p4), .val (.int (5 : Int32)), .val (.ref b246), .val (.int vg252), .val (.int zj254), .val (.ref b255), .unset, .unset] [(.int zj254)]))
      refine own_via (fun t k => XS.iload X262.here hx rfl (hb hby at_89) rfl k) ?_
      show own_G p e below _ (T262.setTop (mkF m 91 #[.val (.int p0), .val (.int p1), .val (.int p2), .val (.int p3), .val (.int p4), .val (.int (5 : Int32)), .val (.ref b246), .val (.int vg252), .val (.int zj254), .val (.ref b255), .unset, .unset] [(.int (5 : Int32)), (.int zj254)]))
      have J266 : ∀ (TJ266 : State) (XJ266 : Stand p l e room_1 s m #[(.int p0), (.int p1), (.int p2), (.int p3), (.int p4)] below meth c TJ266 L262 2 8) (EJ266 : TJ266.heap = h262) (zj267 : Int32), zj267 = (if zj254 = (5 : Int32) then (1 : Int32) else (0 : Int32)) → own_G p e below (own_P s (own_W n0 (fun v _ => v = some (.int 1))) room_1.cells room_1.slots) (TJ266.setTop (mkF m 99 #[.val (.int p0), .val (.int p1), .val (.int p2), .val (.int p3), .val (.int p4), .val (.int (5 : Int32)), .val (.ref b246), .val (.int vg252), .val (.int zj254), .val (.ref b255), .unset, .unset] [(.int zj267)])) := by
        intro TJ266 XJ266 EJ266 zj267 hzj267
        refine own_via (fun t k => XS.istore XJ266.here hx rfl (hb hby at_99) rfl (l' := #[.val (.int p0), .val (.int p1), .val (.int p2), .val (.int p3), .val (.int p4), .val (.int (5 : Int32)), .val (.ref b246), .val (.int vg252), .val (.int zj254), .val (.ref b255), .val (.int zj267), .unset]) rfl k) ?_
        show own_G p e below _ (TJ266.setTop (mkF m 101 #[.val (.int p0), .val (.int p1), .val (.int p2), .val (.int p3), .val (.int p4), .val (.int (5 : Int32)), .val (.ref b246), .val (.int vg252), .val (.int zj254), .val (.ref b255), .val (.int zj267), .unset] []))
        obtain ⟨T268, h268, b268, X268, e268, E268, ga268, A268, D268, st268⟩ := own_newO XJ266 hx hZ hown (hw _ (List.mem_of_getElem? (i := 1) rfl)) (hw _ (List.mem_of_getElem? (i := 2) rfl)) (hw _ (List.mem_of_getElem? (i := 3) rfl)) EJ266 (pc := 101) (Ls := #[.val (.int p0), .val (.int p1), .val (.int p2), .val (.int p3), .val (.int p4), .val (.int (5 : Int32)), .val (.ref b246), .val (.int vg252), .val (.int zj254), .val (.ref b255), .val (.int zj267), .unset]) (rest := []) (hb hby at_101) (by decide) (by decide)
        refine own_via st268 ?_
        have ne269 : b246 ≠ b268 := Nat.ne_of_lt (Nat.lt_of_lt_of_le f263.lt (Nat.le_of_eq ga268.symm))
        have ne270 : b255 ≠ b268 := Nat.ne_of_lt (Nat.lt_of_lt_of_le o262_0.lt (Nat.le_of_eq ga268.symm))
        have f271 : Arv Z h268 b246 k246 .int (5 : Int32) [(.int p4), (.int (0 : Int32)), (.int (0 : Int32)), (.int (0 : Int32)), (.int (0 : Int32))] (.int (0 : Int32)) := f263.ext E268
        have f272 : Exa Z h268 b255 "com/example/dissoc/dissoc/ranking/Found" := o262_0.ext E268
        have f273 : Fld Z h268 b255 "com/example/dissoc/dissoc/ranking/Found" "tuple" "I" (.int p0) := o262_1.ext E268
        have f274 : Fld Z h268 b255 "com/example/dissoc/dissoc/ranking/Found" "contingency" "[I" (.ref b246) := o262_2.ext E268
        have f275 : Fld Z h268 b255 "com/example/dissoc/dissoc/ranking/Found" "lowerBound" "I" (.int zj254) := o262_3.ext E268
        have f276 : Fld Z h268 b268 "com/example/dissoc/dissoc/ranking/Found" "tuple" "I" (.int (0 : Int32)) := D268 (Or.inr (hw _ (List.mem_of_getElem? (i := 16) rfl))) (ty := .int) (by decide)
        have f277 : Fld Z h268 b268 "com/example/dissoc/dissoc/ranking/Found" "contingency" "[I" .null := D268 (Or.inr (hw _ (List.mem_of_getElem? (i := 18) rfl))) (ty := (.array .int)) (by decide)
        have f278 : Fld Z h268 b268 "com/example/dissoc/dissoc/ranking/Found" "lowerBound" "I" (.int (0 : Int32)) := D268 (Or.inr (hw _ (List.mem_of_getElem? (i := 20) rfl))) (ty := .int) (by decide)
        have g_b268 : n0 ≤ b268 := Nat.le_trans Zs265 (Nat.le_of_eq ga268.symm)
        have Zs279 : n0 ≤ h268.size := Nat.le_trans Zs265 E268.1
        show own_G p e below _ (T268.setTop (mkF m 104 #[.val (.int p0), .val (.int p1), .val (.int p2), .val (.int p3), .val (.int p4), .val (.int (5 : Int32)), .val (.ref b246), .val (.int vg252), .val (.int zj254), .val (.ref b255), .val (.int zj267), .unset] [(.ref b268)]))
        refine own_via (fun t k => XS.dup X268.here hx rfl (hb hby at_104) rfl rfl k) ?_
        show own_G p e below _ (T268.setTop (mkF m 105 #[.val (.int p0), .val (.int p1), .val (.int p2), .val (.int p3), .val (.int p4), .val (.int (5 : Int32)), .val (.ref b246), .val (.int vg252), .val (.int zj254), .val (.ref b255), .val (.int zj267), .unset] [(.ref b268), (.ref b268)]))
        refine own_via (fun t k => XS.iloadN X268.here hx rfl (hb hby at_105) rfl k) ?_
        show own_G p e below _ (T268.setTop (mkF m 106 #[.val (.int p0), .val (.int p1), .val (.int p2), .val (.int p3), .val (.int p4), .val (.int (5 : Int32)), .val (.ref b246), .val (.int vg252), .val (.int zj254), .val (.ref b255), .val (.int zj267), .unset] [(.int p0), (.ref b268), (.ref b268)]))
        refine own_via (fun t k => XS.aload X268.here hx rfl (hb hby at_106) rfl rfl k) ?_
        show own_G p e below _ (T268.setTop (mkF m 108 #[.val (.int p0), .val (.int p1), .val (.int p2), .val (.int p3), .val (.int p4), .val (.int (5 : Int32)), .val (.ref b246), .val (.int vg252), .val (.int zj254), .val (.ref b255), .val (.int zj267), .unset] [(.ref b246), (.int p0), (.ref b268), (.ref b268)]))
        obtain ⟨v280, T280, h280, L280, X280, N280, e280, hq280, st280⟩ := own_callI (y := (⟨"com/example/dissoc/dissoc/ranking/Found", "<init>", "(I[I)V"⟩ : MethodName)) (W := 1) (a := b268) X268 N262 hx hZ rfl hown (hw _ (List.mem_of_getElem? (i := 21) rfl)) (hw _ (List.mem_of_getElem? (i := 22) rfl)) (hw _ (List.mem_of_getElem? (i := 3) rfl)) (hw _ (List.mem_of_getElem? (i := 23) rfl)) (by decide) (own_c2 l Z a0 hw [] b268 p0 b246 (.int (0 : Int32)) (.null) (.int (0 : Int32)) k246 (5 : Int32) [(.int p4), (.int (0 : Int32)), (.int (0 : Int32)), (.int (0 : Int32)), (.int (0 : Int32))] (.int (0 : Int32)) h268 n0 Zs279 A268 f276 f277 f278 f271 g_b268) (by decide) (by decide) (by decide) (by decide) e268 (pc := 108) (Ls := #[.val (.int p0), .val (.int p1), .val (.int p2), .val (.int p3), .val (.int p4), .val (.int (5 : Int32)), .val (.ref b246), .val (.int vg252), .val (.int zj254), .val (.ref b255), .val (.int zj267), .unset]) (st := [(.ref b246), (.int p0), (.ref b268), (.ref b268)]) (argsL := [(.int p0), (.ref b246)]) (rest := [(.ref b268)]) (by rw [hml]; rfl) (lenOf own_pd2 rfl) rfl rfl (Nat.le_of_eq rfl) (hb hby at_108)
        obtain ⟨rfl, K280, o280_0, o280_1, o280_2, o280_3⟩ := hq280
        refine own_via st280 ?_
        have f281 : Arv Z h280 b246 k246 .int (5 : Int32) [(.int p4), (.int (0 : Int32)), (.int (0 : Int32)), (.int (0 : Int32)), (.int (0 : Int32))] (.int (0 : Int32)) := f271.keep K280 (by simp only [List.mem_cons, List.not_mem_nil, or_false, not_or]; exact ne269)
        have f282 : Exa Z h280 b255 "com/example/dissoc/dissoc/ranking/Found" := f272.keep K280
        have f283 : Fld Z h280 b255 "com/example/dissoc/dissoc/ranking/Found" "tuple" "I" (.int p0) := f273.keep K280 (by simp only [List.mem_cons, List.not_mem_nil, or_false, not_or]; exact ne270)
        have f284 : Fld Z h280 b255 "com/example/dissoc/dissoc/ranking/Found" "contingency" "[I" (.ref b246) := f274.keep K280 (by simp only [List.mem_cons, List.not_mem_nil, or_false, not_or]; exact ne270)
        have f285 : Fld Z h280 b255 "com/example/dissoc/dissoc/ranking/Found" "lowerBound" "I" (.int zj254) := f275.keep K280 (by simp only [List.mem_cons, List.not_mem_nil, or_false, not_or]; exact ne270)
        have f286 : Exa Z h280 b268 "com/example/dissoc/dissoc/ranking/Found" := A268.keep K280
        have Zs287 : n0 ≤ h280.size := Nat.le_trans Zs279 K280.1
        show own_G p e below _ (T280.setTop (mkF m 111 #[.val (.int p0), .val (.int p1), .val (.int p2), .val (.int p3), .val (.int p4), .val (.int (5 : Int32)), .val (.ref b246), .val (.int vg252), .val (.int zj254), .val (.ref b255), .val (.int zj267), .unset] [(.ref b268)]))
        refine own_via (fun t k => XS.astore X280.here hx rfl (hb hby at_111) rfl rfl (l' := #[.val (.int p0), .val (.int p1), .val (.int p2), .val (.int p3), .val (.int p4), .val (.int (5 : Int32)), .val (.ref b246), .val (.int vg252), .val (.int zj254), .val (.ref b255), .val (.int zj267), .val (.ref b268)]) rfl k) ?_
        show own_G p e below _ (T280.setTop (mkF m 113 #[.val (.int p0), .val (.int p1), .val (.int p2), .val (.int p3), .val (.int p4), .val (.int (5 : Int32)), .val (.ref b246), .val (.int vg252), .val (.int zj254), .val (.ref b255), .val (.int zj267), .val (.ref b268)] []))
        refine own_via (fun t k => XS.aload X280.here hx rfl (hb hby at_113) rfl rfl k) ?_
        show own_G p e below _ (T280.setTop (mkF m 115 #[.val (.int p0), .val (.int p1), .val (.int p2), .val (.int p3), .val (.int p4), .val (.int (5 : Int32)), .val (.ref b246), .val (.int vg252), .val (.int zj254), .val (.ref b255), .val (.int zj267), .val (.ref b268)] [(.ref b255)]))
        obtain ⟨T288, X288, e288, st288⟩ := own_callVP (y := (⟨"com/example/dissoc/dissoc/ranking/Found", "exact", "()Z"⟩ : MethodName)) (z := (⟨"com/example/dissoc/dissoc/ranking/Found", "exact", "()Z"⟩ : MethodName)) (W := 0) (a := b255) X280 hx hZ hown (hw _ (List.mem_of_getElem? (i := 25) rfl)) (hw _ (List.mem_of_getElem? (i := 26) rfl)) (notFace_of_selects (args := #[]) (mvT hZ (hw _ (List.mem_of_getElem? (i := 28) rfl)))) (hw _ (List.mem_of_getElem? (i := 28) rfl)) (hw _ (List.mem_of_getElem? (i := 27) rfl)) (hw _ (List.mem_of_getElem? (i := 3) rfl)) (hw _ (List.mem_of_getElem? (i := 29) rfl)) (by decide) (own_ex l Z a0 hw [] b255 b246 zj254 k246 (5 : Int32) [(.int p4), (.int (0 : Int32)), (.int (0 : Int32)), (.int (0 : Int32)), (.int (0 : Int32))] (.int (0 : Int32)) h280 f284 f285 f281) (by decide) (by decide) rfl rfl (by decide) (by decide) e280 f282 (pc := 115) (Ls := #[.val (.int p0), .val (.int p1), .val (.int p2), .val (.int p3), .val (.int p4), .val (.int (5 : Int32)), .val (.ref b246), .val (.int vg252), .val (.int zj254), .val (.ref b255), .val (.int zj267), .val (.ref b268)]) (st := [(.ref b255)]) (argsL := []) (rest := []) (by rw [hml]; rfl) (lenOf own_pd3 rfl) rfl rfl (Nat.le_of_eq rfl) (hb hby at_115)
        refine own_via st288 ?_
        show own_G p e below _ (T288.setTop (mkF m 118 #[.val (.int p0), .val (.int p1), .val (.int p2), .val (.int p3), .val (.int p4), .val (.int (5 : Int32)), .val (.ref b246), .val (.int vg252), .val (.int zj254), .val (.ref b255), .val (.int zj267), .val (.ref b268)] [(.int (own_Fex zj254 (5 : Int32)))]))
        refine own_via (fun t k => XS.iload X288.here hx rfl (hb hby at_118) rfl k) ?_
        show own_G p e below _ (T288.setTop (mkF m 120 #[.val (.int p0), .val (.int p1), .val (.int p2), .val (.int p3), .val (.int p4), .val (.int (5 : Int32)), .val (.ref b246), .val (.int vg252), .val (.int zj254), .val (.ref b255), .val (.int zj267), .val (.ref b268)] [(.int zj267), (.int (own_Fex zj254 (5 : Int32)))]))
        refine own_via (fun t k => XS.icmpNo X288.here hx rfl (hb hby at_120) rfl (teq (by subst hzj267; subst hzj254; subst hvg252; rfl)).2 k) ?_
        show own_G p e below _ (T288.setTop (mkF m 123 #[.val (.int p0), .val (.int p1), .val (.int p2), .val (.int p3), .val (.int p4), .val (.int (5 : Int32)), .val (.ref b246), .val (.int vg252), .val (.int zj254), .val (.ref b255), .val (.int zj267), .val (.ref b268)] []))
        refine own_via (fun t k => XS.aload X288.here hx rfl (hb hby at_123) rfl rfl k) ?_
        show own_G p e below _ (T288.setTop (mkF m 125 #[.val (.int p0), .val (.int p1), .val (.int p2), .val (.int p3), .val (.int p4), .val (.int (5 : Int32)), .val (.ref b246), .val (.int vg252), .val (.int zj254), .val (.ref b255), .val (.int zj267), .val (.ref b268)] [(.ref b268)]))
        obtain ⟨T289, X289, e289, st289⟩ := own_callVP (y := (⟨"com/example/dissoc/dissoc/ranking/Found", "exact", "()Z"⟩ : MethodName)) (z := (⟨"com/example/dissoc/dissoc/ranking/Found", "exact", "()Z"⟩ : MethodName)) (W := 0) (a := b268) X288 hx hZ hown (hw _ (List.mem_of_getElem? (i := 25) rfl)) (hw _ (List.mem_of_getElem? (i := 26) rfl)) (notFace_of_selects (args := #[]) (mvT hZ (hw _ (List.mem_of_getElem? (i := 28) rfl)))) (hw _ (List.mem_of_getElem? (i := 28) rfl)) (hw _ (List.mem_of_getElem? (i := 27) rfl)) (hw _ (List.mem_of_getElem? (i := 3) rfl)) (hw _ (List.mem_of_getElem? (i := 29) rfl)) (by decide) (own_ex l Z a0 hw [] b268 b246 (5 : Int32) k246 (5 : Int32) [(.int p4), (.int (0 : Int32)), (.int (0 : Int32)), (.int (0 : Int32)), (.int (0 : Int32))] (.int (0 : Int32)) h280 o280_2 o280_3 f281) (by decide) (by decide) rfl rfl (by decide) (by decide) e288 o280_0 (pc := 125) (Ls := #[.val (.int p0), .val (.int p1), .val (.int p2), .val (.int p3), .val (.int p4), .val (.int (5 : Int32)), .val (.ref b246), .val (.int vg252), .val (.int zj254), .val (.ref b255), .val (.int zj267), .val (.ref b268)]) (st := [(.ref b268)]) (argsL := []) (rest := []) (by rw [hml]; rfl) (lenOf own_pd3 rfl) rfl rfl (Nat.le_of_eq rfl) (hb hby at_125)
        refine own_via st289 ?_
        show own_G p e below _ (T289.setTop (mkF m 128 #[.val (.int p0), .val (.int p1), .val (.int p2), .val (.int p3), .val (.int p4), .val (.int (5 : Int32)), .val (.ref b246), .val (.int vg252), .val (.int zj254), .val (.ref b255), .val (.int zj267), .val (.ref b268)] [(.int (own_Fex (5 : Int32) (5 : Int32)))]))
        refine own_via (fun t k => XS.ifNo X289.here hx rfl (hb hby at_128) rfl ((if0 _ _).trans (feq (by decide)).1) k) ?_
        show own_G p e below _ (T289.setTop (mkF m 131 #[.val (.int p0), .val (.int p1), .val (.int p2), .val (.int p3), .val (.int p4), .val (.int (5 : Int32)), .val (.ref b246), .val (.int vg252), .val (.int zj254), .val (.ref b255), .val (.int zj267), .val (.ref b268)] []))
        refine own_via (fun t k => XS.iconst X289.here hx rfl (hb hby at_131) k) ?_
        show own_G p e below _ (T289.setTop (mkF m 132 #[.val (.int p0), .val (.int p1), .val (.int p2), .val (.int p3), .val (.int p4), .val (.int (5 : Int32)), .val (.ref b246), .val (.int vg252), .val (.int zj254), .val (.ref b255), .val (.int zj267), .val (.ref b268)] [(.int (1 : Int32))]))
        refine own_via (fun t k => XS.goto X289.here hx rfl (pc0 := 132) (pc' := 136) rfl (hb hby at_132) (by decide) (by decide) k) ?_
        show own_G p e below _ (T289.setTop (mkF m 136 #[.val (.int p0), .val (.int p1), .val (.int p2), .val (.int p3), .val (.int p4), .val (.int (5 : Int32)), .val (.ref b246), .val (.int vg252), .val (.int zj254), .val (.ref b255), .val (.int zj267), .val (.ref b268)] [(.int (1 : Int32))]))
        exact own_retN (t := .boolean) X289 hx Bd.returns (by simp) Bd.notSynchronized (hb hby at_136) ⟨N280, rfl⟩ (by decide) (by decide)
      by_cases hc290 : zj254 = (5 : Int32)
      ·
        refine own_via (fun t k => XS.icmpNo X262.here hx rfl (hb hby at_91) rfl (teq hc290).2 k) ?_
        show own_G p e below _ (T262.setTop (mkF m 94 #[.val (.int p0), .val (.int p1), .val (.int p2), .val (.int p3), .val (.int p4), .val (.int (5 : Int32)), .val (.ref b246), .val (.int vg252), .val (.int zj254), .val (.ref b255), .unset, .unset] []))
        refine own_via (fun t k => XS.iconst X262.here hx rfl (hb hby at_94) k) ?_
        show own_G p e below _ (T262.setTop (mkF m 95 #[.val (.int p0), .val (.int p1), .val (.int p2), .val (.int p3), .val (.int p4), .val (.int (5 : Int32)), .val (.ref b246), .val (.int vg252), .val (.int zj254), .val (.ref b255), .unset, .unset] [(.int (1 : Int32))]))
        refine own_via (fun t k => XS.goto X262.here hx rfl (pc0 := 95) (pc' := 99) rfl (hb hby at_95) (by decide) (by decide) k) ?_
        show own_G p e below _ (T262.setTop (mkF m 99 #[.val (.int p0), .val (.int p1), .val (.int p2), .val (.int p3), .val (.int p4), .val (.int (5 : Int32)), .val (.ref b246), .val (.int vg252), .val (.int zj254), .val (.ref b255), .unset, .unset] [(.int (1 : Int32))]))
        exact J266 _ X262 e262 _ (by simp only [if_pos hc290])
      ·
        refine own_via (fun t k => XS.icmpYes X262.here hx rfl (pc0 := 91) (pc' := 98) rfl (hb hby at_91) rfl (feq hc290).2 (by decide) (by decide) k) ?_
        show own_G p e below _ (T262.setTop (mkF m 98 #[.val (.int p0), .val (.int p1), .val (.int p2), .val (.int p3), .val (.int p4), .val (.int (5 : Int32)), .val (.ref b246), .val (.int vg252), .val (.int zj254), .val (.ref b255), .unset, .unset] []))
        refine own_via (fun t k => XS.iconst X262.here hx rfl (hb hby at_98) k) ?_
        show own_G p e below _ (T262.setTop (mkF m 99 #[.val (.int p0), .val (.int p1), .val (.int p2), .val (.int p3), .val (.int p4), .val (.int (5 : Int32)), .val (.ref b246), .val (.int vg252), .val (.int zj254), .val (.ref b255), .unset, .unset] [(.int (0 : Int32))]))
        exact J266 _ X262 e262 _ (by simp only [if_neg hc290])
    by_cases hc291 : vg252 = (0 : Int32)
    ·
      refine own_via (fun t k => XS.ifNo X249.here hx rfl (hb hby at_30) rfl ((if0 _ _).trans (teq hc291).2) k) ?_
      show own_G p e below _ (T249.setTop (mkF m 33 #[.val (.int p0), .val (.int p1), .val (.int p2), .val (.int p3), .val (.int p4), .val (.int (5 : Int32)), .val (.ref b246), .val (.int vg252), .unset, .unset, .unset, .unset] []))
      refine own_via (fun t k => XS.iload X249.here hx rfl (hb hby at_33) rfl k) ?_
      show own_G p e below _ (T249.setTop (mkF m 35 #[.val (.int p0), .val (.int p1), .val (.int p2), .val (.int p3), .val (.int p4), .val (.int (5 : Int32)), .val (.ref b246), .val (.int vg252), .unset, .unset, .unset, .unset] [(.int (5 : Int32))]))
      refine own_via (fun t k => XS.istore X249.here hx rfl (hb hby at_35) rfl (l' := #[.val (.int p0), .val (.int p1), .val (.int p2), .val (.int p3), .val (.int p4), .val (.int (5 : Int32)), .val (.ref b246), .val (.int vg252), .val (.int (5 : Int32)), .unset, .unset, .unset]) rfl k) ?_
      show own_G p e below _ (T249.setTop (mkF m 37 #[.val (.int p0), .val (.int p1), .val (.int p2), .val (.int p3), .val (.int p4), .val (.int (5 : Int32)), .val (.ref b246), .val (.int vg252), .val (.int (5 : Int32)), .unset, .unset, .unset] []))
      refine own_via (fun t k => XS.goto X249.here hx rfl (pc0 := 37) (pc' := 73) rfl (hb hby at_37) (by decide) (by decide) k) ?_
      show own_G p e below _ (T249.setTop (mkF m 73 #[.val (.int p0), .val (.int p1), .val (.int p2), .val (.int p3), .val (.int p4), .val (.int (5 : Int32)), .val (.ref b246), .val (.int vg252), .val (.int (5 : Int32)), .unset, .unset, .unset] []))
      exact J253 _ X249 e249 _ (by simp only [if_pos hc291])
    ·
      refine own_via (fun t k => XS.ifYes X249.here hx rfl (pc0 := 30) (pc' := 40) rfl (hb hby at_30) rfl ((if0 _ _).trans (feq hc291).2) (by decide) (by decide) k) ?_
      show own_G p e below _ (T249.setTop (mkF m 40 #[.val (.int p0), .val (.int p1), .val (.int p2), .val (.int p3), .val (.int p4), .val (.int (5 : Int32)), .val (.ref b246), .val (.int vg252), .unset, .unset, .unset, .unset] []))
      refine own_via (fun t k => XS.iload X249.here hx rfl (hb hby at_40) rfl k) ?_
      show own_G p e below _ (T249.setTop (mkF m 42 #[.val (.int p0), .val (.int p1), .val (.int p2), .val (.int p3), .val (.int p4), .val (.int (5 : Int32)), .val (.ref b246), .val (.int vg252), .unset, .unset, .unset, .unset] [(.int vg252)]))
      refine own_via (fun t k => XS.iconst X249.here hx rfl (hb hby at_42) k) ?_
      show own_G p e below _ (T249.setTop (mkF m 43 #[.val (.int p0), .val (.int p1), .val (.int p2), .val (.int p3), .val (.int p4), .val (.int (5 : Int32)), .val (.ref b246), .val (.int vg252), .unset, .unset, .unset, .unset] [(.int (1 : Int32)), (.int vg252)]))
      by_cases hc292 : vg252 = (1 : Int32)
      ·
        refine own_via (fun t k => XS.icmpNo X249.here hx rfl (hb hby at_43) rfl (teq hc292).2 k) ?_
        show own_G p e below _ (T249.setTop (mkF m 46 #[.val (.int p0), .val (.int p1), .val (.int p2), .val (.int p3), .val (.int p4), .val (.int (5 : Int32)), .val (.ref b246), .val (.int vg252), .unset, .unset, .unset, .unset] []))
        refine own_via (fun t k => XS.iload X249.here hx rfl (hb hby at_46) rfl k) ?_
        show own_G p e below _ (T249.setTop (mkF m 48 #[.val (.int p0), .val (.int p1), .val (.int p2), .val (.int p3), .val (.int p4), .val (.int (5 : Int32)), .val (.ref b246), .val (.int vg252), .unset, .unset, .unset, .unset] [(.int (5 : Int32))]))
        refine own_via (fun t k => XS.iconst X249.here hx rfl (hb hby at_48) k) ?_
        show own_G p e below _ (T249.setTop (mkF m 49 #[.val (.int p0), .val (.int p1), .val (.int p2), .val (.int p3), .val (.int p4), .val (.int (5 : Int32)), .val (.ref b246), .val (.int vg252), .unset, .unset, .unset, .unset] [(.int (1 : Int32)), (.int (5 : Int32))]))
        refine own_via (fun t k => XS.isub X249.here hx rfl (hb hby at_49) rfl k) ?_
        show own_G p e below _ (T249.setTop (mkF m 50 #[.val (.int p0), .val (.int p1), .val (.int p2), .val (.int p3), .val (.int p4), .val (.int (5 : Int32)), .val (.ref b246), .val (.int vg252), .unset, .unset, .unset, .unset] [(.int (4 : Int32))]))
        refine own_via (fun t k => XS.istore X249.here hx rfl (hb hby at_50) rfl (l' := #[.val (.int p0), .val (.int p1), .val (.int p2), .val (.int p3), .val (.int p4), .val (.int (5 : Int32)), .val (.ref b246), .val (.int vg252), .val (.int (4 : Int32)), .unset, .unset, .unset]) rfl k) ?_
        show own_G p e below _ (T249.setTop (mkF m 52 #[.val (.int p0), .val (.int p1), .val (.int p2), .val (.int p3), .val (.int p4), .val (.int (5 : Int32)), .val (.ref b246), .val (.int vg252), .val (.int (4 : Int32)), .unset, .unset, .unset] []))
        refine own_via (fun t k => XS.goto X249.here hx rfl (pc0 := 52) (pc' := 73) rfl (hb hby at_52) (by decide) (by decide) k) ?_
        show own_G p e below _ (T249.setTop (mkF m 73 #[.val (.int p0), .val (.int p1), .val (.int p2), .val (.int p3), .val (.int p4), .val (.int (5 : Int32)), .val (.ref b246), .val (.int vg252), .val (.int (4 : Int32)), .unset, .unset, .unset] []))
        exact J253 _ X249 e249 _ (by simp only [if_neg hc291, if_pos hc292])
      ·
        refine own_via (fun t k => XS.icmpYes X249.here hx rfl (pc0 := 43) (pc' := 55) rfl (hb hby at_43) rfl (feq hc292).2 (by decide) (by decide) k) ?_
        show own_G p e below _ (T249.setTop (mkF m 55 #[.val (.int p0), .val (.int p1), .val (.int p2), .val (.int p3), .val (.int p4), .val (.int (5 : Int32)), .val (.ref b246), .val (.int vg252), .unset, .unset, .unset, .unset] []))
        refine own_via (fun t k => XS.iload X249.here hx rfl (hb hby at_55) rfl k) ?_
        show own_G p e below _ (T249.setTop (mkF m 57 #[.val (.int p0), .val (.int p1), .val (.int p2), .val (.int p3), .val (.int p4), .val (.int (5 : Int32)), .val (.ref b246), .val (.int vg252), .unset, .unset, .unset, .unset] [(.int vg252)]))
        refine own_via (fun t k => XS.iconst X249.here hx rfl (hb hby at_57) k) ?_
        show own_G p e below _ (T249.setTop (mkF m 58 #[.val (.int p0), .val (.int p1), .val (.int p2), .val (.int p3), .val (.int p4), .val (.int (5 : Int32)), .val (.ref b246), .val (.int vg252), .unset, .unset, .unset, .unset] [(.int (2 : Int32)), (.int vg252)]))
        by_cases hc293 : vg252 = (2 : Int32)
        ·
          refine own_via (fun t k => XS.icmpNo X249.here hx rfl (hb hby at_58) rfl (teq hc293).2 k) ?_
          show own_G p e below _ (T249.setTop (mkF m 61 #[.val (.int p0), .val (.int p1), .val (.int p2), .val (.int p3), .val (.int p4), .val (.int (5 : Int32)), .val (.ref b246), .val (.int vg252), .unset, .unset, .unset, .unset] []))
          refine own_via (fun t k => XS.iload X249.here hx rfl (hb hby at_61) rfl k) ?_
          show own_G p e below _ (T249.setTop (mkF m 63 #[.val (.int p0), .val (.int p1), .val (.int p2), .val (.int p3), .val (.int p4), .val (.int (5 : Int32)), .val (.ref b246), .val (.int vg252), .unset, .unset, .unset, .unset] [(.int (5 : Int32))]))
          refine own_via (fun t k => XS.iconst X249.here hx rfl (hb hby at_63) k) ?_
          show own_G p e below _ (T249.setTop (mkF m 64 #[.val (.int p0), .val (.int p1), .val (.int p2), .val (.int p3), .val (.int p4), .val (.int (5 : Int32)), .val (.ref b246), .val (.int vg252), .unset, .unset, .unset, .unset] [(.int (1 : Int32)), (.int (5 : Int32))]))
          refine own_via (fun t k => XS.iadd X249.here hx rfl (hb hby at_64) rfl k) ?_
          show own_G p e below _ (T249.setTop (mkF m 65 #[.val (.int p0), .val (.int p1), .val (.int p2), .val (.int p3), .val (.int p4), .val (.int (5 : Int32)), .val (.ref b246), .val (.int vg252), .unset, .unset, .unset, .unset] [(.int (6 : Int32))]))
          refine own_via (fun t k => XS.istore X249.here hx rfl (hb hby at_65) rfl (l' := #[.val (.int p0), .val (.int p1), .val (.int p2), .val (.int p3), .val (.int p4), .val (.int (5 : Int32)), .val (.ref b246), .val (.int vg252), .val (.int (6 : Int32)), .unset, .unset, .unset]) rfl k) ?_
          show own_G p e below _ (T249.setTop (mkF m 67 #[.val (.int p0), .val (.int p1), .val (.int p2), .val (.int p3), .val (.int p4), .val (.int (5 : Int32)), .val (.ref b246), .val (.int vg252), .val (.int (6 : Int32)), .unset, .unset, .unset] []))
          refine own_via (fun t k => XS.goto X249.here hx rfl (pc0 := 67) (pc' := 73) rfl (hb hby at_67) (by decide) (by decide) k) ?_
          show own_G p e below _ (T249.setTop (mkF m 73 #[.val (.int p0), .val (.int p1), .val (.int p2), .val (.int p3), .val (.int p4), .val (.int (5 : Int32)), .val (.ref b246), .val (.int vg252), .val (.int (6 : Int32)), .unset, .unset, .unset] []))
          exact J253 _ X249 e249 _ (by simp only [if_neg hc291, if_neg hc292, if_pos hc293])
        ·
          refine own_via (fun t k => XS.icmpYes X249.here hx rfl (pc0 := 58) (pc' := 70) rfl (hb hby at_58) rfl (feq hc293).2 (by decide) (by decide) k) ?_
          show own_G p e below _ (T249.setTop (mkF m 70 #[.val (.int p0), .val (.int p1), .val (.int p2), .val (.int p3), .val (.int p4), .val (.int (5 : Int32)), .val (.ref b246), .val (.int vg252), .unset, .unset, .unset, .unset] []))
          refine own_via (fun t k => XS.iloadN X249.here hx rfl (hb hby at_70) rfl k) ?_
          show own_G p e below _ (T249.setTop (mkF m 71 #[.val (.int p0), .val (.int p1), .val (.int p2), .val (.int p3), .val (.int p4), .val (.int (5 : Int32)), .val (.ref b246), .val (.int vg252), .unset, .unset, .unset, .unset] [(.int p2)]))
          refine own_via (fun t k => XS.istore X249.here hx rfl (hb hby at_71) rfl (l' := #[.val (.int p0), .val (.int p1), .val (.int p2), .val (.int p3), .val (.int p4), .val (.int (5 : Int32)), .val (.ref b246), .val (.int vg252), .val (.int p2), .unset, .unset, .unset]) rfl k) ?_
          show own_G p e below _ (T249.setTop (mkF m 73 #[.val (.int p0), .val (.int p1), .val (.int p2), .val (.int p3), .val (.int p4), .val (.int (5 : Int32)), .val (.ref b246), .val (.int vg252), .val (.int p2), .unset, .unset, .unset] []))
          exact J253 _ X249 e249 _ (by simp only [if_neg hc291, if_neg hc292, if_neg hc293])
  ·
    rw [hs7]
    show own_G p e below _ (s₁.setTop (mkF m 4 #[.val (.int p0), .val (.int p1), .val (.int p2), .val (.int p3), .val (.int p4), .unset, .unset, .unset, .unset, .unset, .unset, .unset] [(.int (6 : Int32))]))
    refine own_via (fun t k => XS.istore X0.here hx rfl (hb hby at_4) rfl (l' := #[.val (.int p0), .val (.int p1), .val (.int p2), .val (.int p3), .val (.int p4), .val (.int (6 : Int32)), .unset, .unset, .unset, .unset, .unset, .unset]) rfl k) ?_
    show own_G p e below _ (s₁.setTop (mkF m 6 #[.val (.int p0), .val (.int p1), .val (.int p2), .val (.int p3), .val (.int p4), .val (.int (6 : Int32)), .unset, .unset, .unset, .unset, .unset, .unset] []))
    refine own_via (fun t k => XS.iload X0.here hx rfl (hb hby at_6) rfl k) ?_
    show own_G p e below _ (s₁.setTop (mkF m 8 #[.val (.int p0), .val (.int p1), .val (.int p2), .val (.int p3), .val (.int p4), .val (.int (6 : Int32)), .unset, .unset, .unset, .unset, .unset, .unset] [(.int (6 : Int32))]))
    obtain ⟨T294, h294, k294, b294, X294, e294, E294, ga294, V294, Ex294, st294⟩ := own_newA X0 hx hZ (hw _ (List.mem_of_getElem? (i := 0) rfl)) e0 (pc := 8) (Ls := #[.val (.int p0), .val (.int p1), .val (.int p2), .val (.int p3), .val (.int p4), .val (.int (6 : Int32)), .unset, .unset, .unset, .unset, .unset, .unset]) (rest := []) (hb hby at_8) (n := (6 : Int32)) (by decide) (cap := 6) (by decide) (by decide) (by decide) (by decide) 6 rfl
    refine own_via st294 ?_
    have f295 : Arv Z h294 b294 k294 .int (6 : Int32) [(.int (0 : Int32)), (.int (0 : Int32)), (.int (0 : Int32)), (.int (0 : Int32)), (.int (0 : Int32)), (.int (0 : Int32))] (.int (0 : Int32)) := V294
    have g_b294 : n0 ≤ b294 := Nat.le_trans Z0 (Nat.le_of_eq ga294.symm)
    have Zs296 : n0 ≤ h294.size := Nat.le_trans Z0 E294.1
    show own_G p e below _ (T294.setTop (mkF m 10 #[.val (.int p0), .val (.int p1), .val (.int p2), .val (.int p3), .val (.int p4), .val (.int (6 : Int32)), .unset, .unset, .unset, .unset, .unset, .unset] [(.ref b294)]))
    refine own_via (fun t k => XS.astore X294.here hx rfl (hb hby at_10) rfl rfl (l' := #[.val (.int p0), .val (.int p1), .val (.int p2), .val (.int p3), .val (.int p4), .val (.int (6 : Int32)), .val (.ref b294), .unset, .unset, .unset, .unset, .unset]) rfl k) ?_
    show own_G p e below _ (T294.setTop (mkF m 12 #[.val (.int p0), .val (.int p1), .val (.int p2), .val (.int p3), .val (.int p4), .val (.int (6 : Int32)), .val (.ref b294), .unset, .unset, .unset, .unset, .unset] []))
    refine own_via (fun t k => XS.iload X294.here hx rfl (hb hby at_12) rfl k) ?_
    show own_G p e below _ (T294.setTop (mkF m 14 #[.val (.int p0), .val (.int p1), .val (.int p2), .val (.int p3), .val (.int p4), .val (.int (6 : Int32)), .val (.ref b294), .unset, .unset, .unset, .unset, .unset] [(.int (6 : Int32))]))
    refine own_via (fun t k => XS.ifNo X294.here hx rfl (hb hby at_14) rfl ((if0 _ _).trans (tlt (by decide : (0 : Int32) < (6 : Int32))).2.2.2) k) ?_
    show own_G p e below _ (T294.setTop (mkF m 17 #[.val (.int p0), .val (.int p1), .val (.int p2), .val (.int p3), .val (.int p4), .val (.int (6 : Int32)), .val (.ref b294), .unset, .unset, .unset, .unset, .unset] []))
    refine own_via (fun t k => XS.aload X294.here hx rfl (hb hby at_17) rfl rfl k) ?_
    show own_G p e below _ (T294.setTop (mkF m 19 #[.val (.int p0), .val (.int p1), .val (.int p2), .val (.int p3), .val (.int p4), .val (.int (6 : Int32)), .val (.ref b294), .unset, .unset, .unset, .unset, .unset] [(.ref b294)]))
    refine own_via (fun t k => XS.iconst X294.here hx rfl (hb hby at_19) k) ?_
    show own_G p e below _ (T294.setTop (mkF m 20 #[.val (.int p0), .val (.int p1), .val (.int p2), .val (.int p3), .val (.int p4), .val (.int (6 : Int32)), .val (.ref b294), .unset, .unset, .unset, .unset, .unset] [(.int (0 : Int32)), (.ref b294)]))
    refine own_via (fun t k => XS.iload X294.here hx rfl (hb hby at_20) rfl k) ?_
    show own_G p e below _ (T294.setTop (mkF m 22 #[.val (.int p0), .val (.int p1), .val (.int p2), .val (.int p3), .val (.int p4), .val (.int (6 : Int32)), .val (.ref b294), .unset, .unset, .unset, .unset, .unset] [(.int p4), (.int (0 : Int32)), (.ref b294)]))
    obtain ⟨T297, h297, L297, X297, N297, e297, W297, V297, st297⟩ := own_stI X294 N0 hx hZ e294 f295 g_b294 (j := (0 : Int32)) (x := p4) (i := 0) ⟨by decide, by decide⟩ rfl (Nat.le_of_ble_eq_true rfl) (pc := 22) (Ls := #[.val (.int p0), .val (.int p1), .val (.int p2), .val (.int p3), .val (.int p4), .val (.int (6 : Int32)), .val (.ref b294), .unset, .unset, .unset, .unset, .unset]) (rest := []) (hb hby at_22)
    refine own_via st297 ?_
    have f298 : Arv Z h297 b294 k294 .int (6 : Int32) [(.int p4), (.int (0 : Int32)), (.int (0 : Int32)), (.int (0 : Int32)), (.int (0 : Int32)), (.int (0 : Int32))] (.int (0 : Int32)) := V297
    have Zs299 : n0 ≤ h297.size := by rw [W297.size]; exact Zs296
    show own_G p e below _ (T297.setTop (mkF m 23 #[.val (.int p0), .val (.int p1), .val (.int p2), .val (.int p3), .val (.int p4), .val (.int (6 : Int32)), .val (.ref b294), .unset, .unset, .unset, .unset, .unset] []))
    refine own_via (fun t k => XS.iloadN X297.here hx rfl (hb hby at_23) rfl k) ?_
    show own_G p e below _ (T297.setTop (mkF m 24 #[.val (.int p0), .val (.int p1), .val (.int p2), .val (.int p3), .val (.int p4), .val (.int (6 : Int32)), .val (.ref b294), .unset, .unset, .unset, .unset, .unset] [(.int p3)]))
    refine own_via (fun t k => XS.iconst X297.here hx rfl (hb hby at_24) k) ?_
    show own_G p e below _ (T297.setTop (mkF m 25 #[.val (.int p0), .val (.int p1), .val (.int p2), .val (.int p3), .val (.int p4), .val (.int (6 : Int32)), .val (.ref b294), .unset, .unset, .unset, .unset, .unset] [(.int (3 : Int32)), (.int p3)]))
    refine own_via (fun t k => XS.iand X297.here hx rfl (hb hby at_25) rfl k) ?_
    show own_G p e below _ (T297.setTop (mkF m 26 #[.val (.int p0), .val (.int p1), .val (.int p2), .val (.int p3), .val (.int p4), .val (.int (6 : Int32)), .val (.ref b294), .unset, .unset, .unset, .unset, .unset] [(.int (p3 &&& (3 : Int32)))]))
    generalize hvg300 : (p3 &&& (3 : Int32)) = vg300
    show own_G p e below _ (T297.setTop (mkF m 26 #[.val (.int p0), .val (.int p1), .val (.int p2), .val (.int p3), .val (.int p4), .val (.int (6 : Int32)), .val (.ref b294), .unset, .unset, .unset, .unset, .unset] [(.int vg300)]))
    refine own_via (fun t k => XS.istore X297.here hx rfl (hb hby at_26) rfl (l' := #[.val (.int p0), .val (.int p1), .val (.int p2), .val (.int p3), .val (.int p4), .val (.int (6 : Int32)), .val (.ref b294), .val (.int vg300), .unset, .unset, .unset, .unset]) rfl k) ?_
    show own_G p e below _ (T297.setTop (mkF m 28 #[.val (.int p0), .val (.int p1), .val (.int p2), .val (.int p3), .val (.int p4), .val (.int (6 : Int32)), .val (.ref b294), .val (.int vg300), .unset, .unset, .unset, .unset] []))
    refine own_via (fun t k => XS.iload X297.here hx rfl (hb hby at_28) rfl k) ?_
    show own_G p e below _ (T297.setTop (mkF m 30 #[.val (.int p0), .val (.int p1), .val (.int p2), .val (.int p3), .val (.int p4), .val (.int (6 : Int32)), .val (.ref b294), .val (.int vg300), .unset, .unset, .unset, .unset] [(.int vg300)]))
    have J301 : ∀ (TJ301 : State) (XJ301 : Stand p l e room_1 s m #[(.int p0), (.int p1), (.int p2), (.int p3), (.int p4)] below meth c TJ301 L297 1 6) (EJ301 : TJ301.heap = h297) (zj302 : Int32), zj302 = (if vg300 = (0 : Int32) then (6 : Int32) else (if vg300 = (1 : Int32) then (5 : Int32) else (if vg300 = (2 : Int32) then (7 : Int32) else p2))) → own_G p e below (own_P s (own_W n0 (fun v _ => v = some (.int 1))) room_1.cells room_1.slots) (TJ301.setTop (mkF m 73 #[.val (.int p0), .val (.int p1), .val (.int p2), .val (.int p3), .val (.int p4), .val (.int (6 : Int32)), .val (.ref b294), .val (.int vg300), .val (.int zj302), .unset, .unset, .unset] [])) := by
      intro TJ301 XJ301 EJ301 zj302 hzj302
      obtain ⟨T303, h303, b303, X303, e303, E303, ga303, A303, D303, st303⟩ := own_newO XJ301 hx hZ hown (hw _ (List.mem_of_getElem? (i := 1) rfl)) (hw _ (List.mem_of_getElem? (i := 2) rfl)) (hw _ (List.mem_of_getElem? (i := 3) rfl)) EJ301 (pc := 73) (Ls := #[.val (.int p0), .val (.int p1), .val (.int p2), .val (.int p3), .val (.int p4), .val (.int (6 : Int32)), .val (.ref b294), .val (.int vg300), .val (.int zj302), .unset, .unset, .unset]) (rest := []) (hb hby at_73) (by decide) (by decide)
      refine own_via st303 ?_
      have ne304 : b294 ≠ b303 := Nat.ne_of_lt (Nat.lt_of_lt_of_le f298.lt (Nat.le_of_eq ga303.symm))
      have f305 : Arv Z h303 b294 k294 .int (6 : Int32) [(.int p4), (.int (0 : Int32)), (.int (0 : Int32)), (.int (0 : Int32)), (.int (0 : Int32)), (.int (0 : Int32))] (.int (0 : Int32)) := f298.ext E303
      have f306 : Fld Z h303 b303 "com/example/dissoc/dissoc/ranking/Found" "tuple" "I" (.int (0 : Int32)) := D303 (Or.inr (hw _ (List.mem_of_getElem? (i := 16) rfl))) (ty := .int) (by decide)
      have f307 : Fld Z h303 b303 "com/example/dissoc/dissoc/ranking/Found" "contingency" "[I" .null := D303 (Or.inr (hw _ (List.mem_of_getElem? (i := 18) rfl))) (ty := (.array .int)) (by decide)
      have f308 : Fld Z h303 b303 "com/example/dissoc/dissoc/ranking/Found" "lowerBound" "I" (.int (0 : Int32)) := D303 (Or.inr (hw _ (List.mem_of_getElem? (i := 20) rfl))) (ty := .int) (by decide)
      have g_b303 : n0 ≤ b303 := Nat.le_trans Zs299 (Nat.le_of_eq ga303.symm)
      have Zs309 : n0 ≤ h303.size := Nat.le_trans Zs299 E303.1
      show own_G p e below _ (T303.setTop (mkF m 76 #[.val (.int p0), .val (.int p1), .val (.int p2), .val (.int p3), .val (.int p4), .val (.int (6 : Int32)), .val (.ref b294), .val (.int vg300), .val (.int zj302), .unset, .unset, .unset] [(.ref b303)]))
      refine own_via (fun t k => XS.dup X303.here hx rfl (hb hby at_76) rfl rfl k) ?_
      show own_G p e below _ (T303.setTop (mkF m 77 #[.val (.int p0), .val (.int p1), .val (.int p2), .val (.int p3), .val (.int p4), .val (.int (6 : Int32)), .val (.ref b294), .val (.int vg300), .val (.int zj302), .unset, .unset, .unset] [(.ref b303), (.ref b303)]))
      refine own_via (fun t k => XS.iloadN X303.here hx rfl (hb hby at_77) rfl k) ?_
      show own_G p e below _ (T303.setTop (mkF m 78 #[.val (.int p0), .val (.int p1), .val (.int p2), .val (.int p3), .val (.int p4), .val (.int (6 : Int32)), .val (.ref b294), .val (.int vg300), .val (.int zj302), .unset, .unset, .unset] [(.int p0), (.ref b303), (.ref b303)]))
      refine own_via (fun t k => XS.aload X303.here hx rfl (hb hby at_78) rfl rfl k) ?_
      show own_G p e below _ (T303.setTop (mkF m 80 #[.val (.int p0), .val (.int p1), .val (.int p2), .val (.int p3), .val (.int p4), .val (.int (6 : Int32)), .val (.ref b294), .val (.int vg300), .val (.int zj302), .unset, .unset, .unset] [(.ref b294), (.int p0), (.ref b303), (.ref b303)]))
      refine own_via (fun t k => XS.iload X303.here hx rfl (hb hby at_80) rfl k) ?_
      show own_G p e below _ (T303.setTop (mkF m 82 #[.val (.int p0), .val (.int p1), .val (.int p2), .val (.int p3), .val (.int p4), .val (.int (6 : Int32)), .val (.ref b294), .val (.int vg300), .val (.int zj302), .unset, .unset, .unset] [(.int zj302), (.ref b294), (.int p0), (.ref b303), (.ref b303)]))
      obtain ⟨v310, T310, h310, L310, X310, N310, e310, hq310, st310⟩ := own_callI (y := (⟨"com/example/dissoc/dissoc/ranking/Found", "<init>", "(I[II)V"⟩ : MethodName)) (W := 1) (a := b303) X303 N297 hx hZ rfl hown (hw _ (List.mem_of_getElem? (i := 4) rfl)) (hw _ (List.mem_of_getElem? (i := 5) rfl)) (hw _ (List.mem_of_getElem? (i := 3) rfl)) (hw _ (List.mem_of_getElem? (i := 6) rfl)) (by decide) (own_c3 l Z a0 hw [] b303 p0 b294 zj302 (.int (0 : Int32)) (.null) (.int (0 : Int32)) h303 n0 Zs309 A303 f306 f307 f308 g_b303) (by decide) (by decide) (by decide) (by decide) e303 (pc := 82) (Ls := #[.val (.int p0), .val (.int p1), .val (.int p2), .val (.int p3), .val (.int p4), .val (.int (6 : Int32)), .val (.ref b294), .val (.int vg300), .val (.int zj302), .unset, .unset, .unset]) (st := [(.int zj302), (.ref b294), (.int p0), (.ref b303), (.ref b303)]) (argsL := [(.int p0), (.ref b294), (.int zj302)]) (rest := [(.ref b303)]) (by rw [hml]; rfl) (lenOf own_pd1 rfl) rfl rfl (Nat.le_of_eq rfl) (hb hby at_82)
      obtain ⟨rfl, K310, o310_0, o310_1, o310_2, o310_3⟩ := hq310
      refine own_via st310 ?_
      have f311 : Arv Z h310 b294 k294 .int (6 : Int32) [(.int p4), (.int (0 : Int32)), (.int (0 : Int32)), (.int (0 : Int32)), (.int (0 : Int32)), (.int (0 : Int32))] (.int (0 : Int32)) := f305.keep K310 (by simp only [List.mem_cons, List.not_mem_nil, or_false, not_or]; exact ne304)
      have f312 : Exa Z h310 b303 "com/example/dissoc/dissoc/ranking/Found" := A303.keep K310
      have Zs313 : n0 ≤ h310.size := Nat.le_trans Zs309 K310.1
      show own_G p e below _ (T310.setTop (mkF m 85 #[.val (.int p0), .val (.int p1), .val (.int p2), .val (.int p3), .val (.int p4), .val (.int (6 : Int32)), .val (.ref b294), .val (.int vg300), .val (.int zj302), .unset, .unset, .unset] [(.ref b303)]))
      refine own_via (fun t k => XS.astore X310.here hx rfl (hb hby at_85) rfl rfl (l' := #[.val (.int p0), .val (.int p1), .val (.int p2), .val (.int p3), .val (.int p4), .val (.int (6 : Int32)), .val (.ref b294), .val (.int vg300), .val (.int zj302), .val (.ref b303), .unset, .unset]) rfl k) ?_
      show own_G p e below _ (T310.setTop (mkF m 87 #[.val (.int p0), .val (.int p1), .val (.int p2), .val (.int p3), .val (.int p4), .val (.int (6 : Int32)), .val (.ref b294), .val (.int vg300), .val (.int zj302), .val (.ref b303), .unset, .unset] []))
      refine own_via (fun t k => XS.iload X310.here hx rfl (hb hby at_87) rfl k) ?_
      show own_G p e below _ (T310.setTop (mkF m 89 #[.val (.int p0), .val (.int p1), .val (.int p2), .val (.int p3), .val (.int p4), .val (.int (6 : Int32)), .val (.ref b294), .val (.int vg300), .val (.int zj302), .val (.ref b303), .unset, .unset] [(.int zj302)]))
      refine own_via (fun t k => XS.iload X310.here hx rfl (hb hby at_89) rfl k) ?_
      show own_G p e below _ (T310.setTop (mkF m 91 #[.val (.int p0), .val (.int p1), .val (.int p2), .val (.int p3), .val (.int p4), .val (.int (6 : Int32)), .val (.ref b294), .val (.int vg300), .val (.int zj302), .val (.ref b303), .unset, .unset] [(.int (6 : Int32)), (.int zj302)]))
      have J314 : ∀ (TJ314 : State) (XJ314 : Stand p l e room_1 s m #[(.int p0), (.int p1), (.int p2), (.int p3), (.int p4)] below meth c TJ314 L310 2 9) (EJ314 : TJ314.heap = h310) (zj315 : Int32), zj315 = (if zj302 = (6 : Int32) then (1 : Int32) else (0 : Int32)) → own_G p e below (own_P s (own_W n0 (fun v _ => v = some (.int 1))) room_1.cells room_1.slots) (TJ314.setTop (mkF m 99 #[.val (.int p0), .val (.int p1), .val (.int p2), .val (.int p3), .val (.int p4), .val (.int (6 : Int32)), .val (.ref b294), .val (.int vg300), .val (.int zj302), .val (.ref b303), .unset, .unset] [(.int zj315)])) := by
        intro TJ314 XJ314 EJ314 zj315 hzj315
        refine own_via (fun t k => XS.istore XJ314.here hx rfl (hb hby at_99) rfl (l' := #[.val (.int p0), .val (.int p1), .val (.int p2), .val (.int p3), .val (.int p4), .val (.int (6 : Int32)), .val (.ref b294), .val (.int vg300), .val (.int zj302), .val (.ref b303), .val (.int zj315), .unset]) rfl k) ?_
        show own_G p e below _ (TJ314.setTop (mkF m 101 #[.val (.int p0), .val (.int p1), .val (.int p2), .val (.int p3), .val (.int p4), .val (.int (6 : Int32)), .val (.ref b294), .val (.int vg300), .val (.int zj302), .val (.ref b303), .val (.int zj315), .unset] []))
        obtain ⟨T316, h316, b316, X316, e316, E316, ga316, A316, D316, st316⟩ := own_newO XJ314 hx hZ hown (hw _ (List.mem_of_getElem? (i := 1) rfl)) (hw _ (List.mem_of_getElem? (i := 2) rfl)) (hw _ (List.mem_of_getElem? (i := 3) rfl)) EJ314 (pc := 101) (Ls := #[.val (.int p0), .val (.int p1), .val (.int p2), .val (.int p3), .val (.int p4), .val (.int (6 : Int32)), .val (.ref b294), .val (.int vg300), .val (.int zj302), .val (.ref b303), .val (.int zj315), .unset]) (rest := []) (hb hby at_101) (by decide) (by decide)
        refine own_via st316 ?_
        have ne317 : b294 ≠ b316 := Nat.ne_of_lt (Nat.lt_of_lt_of_le f311.lt (Nat.le_of_eq ga316.symm))
        have ne318 : b303 ≠ b316 := Nat.ne_of_lt (Nat.lt_of_lt_of_le o310_0.lt (Nat.le_of_eq ga316.symm))
        have f319 : Arv Z h316 b294 k294 .int (6 : Int32) [(.int p4), (.int (0 : Int32)), (.int (0 : Int32)), (.int (0 : Int32)), (.int (0 : Int32)), (.int (0 : Int32))] (.int (0 : Int32)) := f311.ext E316
        have f320 : Exa Z h316 b303 "com/example/dissoc/dissoc/ranking/Found" := o310_0.ext E316
        have f321 : Fld Z h316 b303 "com/example/dissoc/dissoc/ranking/Found" "tuple" "I" (.int p0) := o310_1.ext E316
        have f322 : Fld Z h316 b303 "com/example/dissoc/dissoc/ranking/Found" "contingency" "[I" (.ref b294) := o310_2.ext E316
        have f323 : Fld Z h316 b303 "com/example/dissoc/dissoc/ranking/Found" "lowerBound" "I" (.int zj302) := o310_3.ext E316
        have f324 : Fld Z h316 b316 "com/example/dissoc/dissoc/ranking/Found" "tuple" "I" (.int (0 : Int32)) := D316 (Or.inr (hw _ (List.mem_of_getElem? (i := 16) rfl))) (ty := .int) (by decide)
        have f325 : Fld Z h316 b316 "com/example/dissoc/dissoc/ranking/Found" "contingency" "[I" .null := D316 (Or.inr (hw _ (List.mem_of_getElem? (i := 18) rfl))) (ty := (.array .int)) (by decide)
        have f326 : Fld Z h316 b316 "com/example/dissoc/dissoc/ranking/Found" "lowerBound" "I" (.int (0 : Int32)) := D316 (Or.inr (hw _ (List.mem_of_getElem? (i := 20) rfl))) (ty := .int) (by decide)
        have g_b316 : n0 ≤ b316 := Nat.le_trans Zs313 (Nat.le_of_eq ga316.symm)
        have Zs327 : n0 ≤ h316.size := Nat.le_trans Zs313 E316.1
        show own_G p e below _ (T316.setTop (mkF m 104 #[.val (.int p0), .val (.int p1), .val (.int p2), .val (.int p3), .val (.int p4), .val (.int (6 : Int32)), .val (.ref b294), .val (.int vg300), .val (.int zj302), .val (.ref b303), .val (.int zj315), .unset] [(.ref b316)]))
        refine own_via (fun t k => XS.dup X316.here hx rfl (hb hby at_104) rfl rfl k) ?_
        show own_G p e below _ (T316.setTop (mkF m 105 #[.val (.int p0), .val (.int p1), .val (.int p2), .val (.int p3), .val (.int p4), .val (.int (6 : Int32)), .val (.ref b294), .val (.int vg300), .val (.int zj302), .val (.ref b303), .val (.int zj315), .unset] [(.ref b316), (.ref b316)]))
        refine own_via (fun t k => XS.iloadN X316.here hx rfl (hb hby at_105) rfl k) ?_
        show own_G p e below _ (T316.setTop (mkF m 106 #[.val (.int p0), .val (.int p1), .val (.int p2), .val (.int p3), .val (.int p4), .val (.int (6 : Int32)), .val (.ref b294), .val (.int vg300), .val (.int zj302), .val (.ref b303), .val (.int zj315), .unset] [(.int p0), (.ref b316), (.ref b316)]))
        refine own_via (fun t k => XS.aload X316.here hx rfl (hb hby at_106) rfl rfl k) ?_
        show own_G p e below _ (T316.setTop (mkF m 108 #[.val (.int p0), .val (.int p1), .val (.int p2), .val (.int p3), .val (.int p4), .val (.int (6 : Int32)), .val (.ref b294), .val (.int vg300), .val (.int zj302), .val (.ref b303), .val (.int zj315), .unset] [(.ref b294), (.int p0), (.ref b316), (.ref b316)]))
        obtain ⟨v328, T328, h328, L328, X328, N328, e328, hq328, st328⟩ := own_callI (y := (⟨"com/example/dissoc/dissoc/ranking/Found", "<init>", "(I[I)V"⟩ : MethodName)) (W := 1) (a := b316) X316 N310 hx hZ rfl hown (hw _ (List.mem_of_getElem? (i := 21) rfl)) (hw _ (List.mem_of_getElem? (i := 22) rfl)) (hw _ (List.mem_of_getElem? (i := 3) rfl)) (hw _ (List.mem_of_getElem? (i := 23) rfl)) (by decide) (own_c2 l Z a0 hw [] b316 p0 b294 (.int (0 : Int32)) (.null) (.int (0 : Int32)) k294 (6 : Int32) [(.int p4), (.int (0 : Int32)), (.int (0 : Int32)), (.int (0 : Int32)), (.int (0 : Int32)), (.int (0 : Int32))] (.int (0 : Int32)) h316 n0 Zs327 A316 f324 f325 f326 f319 g_b316) (by decide) (by decide) (by decide) (by decide) e316 (pc := 108) (Ls := #[.val (.int p0), .val (.int p1), .val (.int p2), .val (.int p3), .val (.int p4), .val (.int (6 : Int32)), .val (.ref b294), .val (.int vg300), .val (.int zj302), .val (.ref b303), .val (.int zj315), .unset]) (st := [(.ref b294), (.int p0), (.ref b316), (.ref b316)]) (argsL := [(.int p0), (.ref b294)]) (rest := [(.ref b316)]) (by rw [hml]; rfl) (lenOf own_pd2 rfl) rfl rfl (Nat.le_of_eq rfl) (hb hby at_108)
        obtain ⟨rfl, K328, o328_0, o328_1, o328_2, o328_3⟩ := hq328
        refine own_via st328 ?_
        have f329 : Arv Z h328 b294 k294 .int (6 : Int32) [(.int p4), (.int (0 : Int32)), (.int (0 : Int32)), (.int (0 : Int32)), (.int (0 : Int32)), (.int (0 : Int32))] (.int (0 : Int32)) := f319.keep K328 (by simp only [List.mem_cons, List.not_mem_nil, or_false, not_or]; exact ne317)
        have f330 : Exa Z h328 b303 "com/example/dissoc/dissoc/ranking/Found" := f320.keep K328
        have f331 : Fld Z h328 b303 "com/example/dissoc/dissoc/ranking/Found" "tuple" "I" (.int p0) := f321.keep K328 (by simp only [List.mem_cons, List.not_mem_nil, or_false, not_or]; exact ne318)
        have f332 : Fld Z h328 b303 "com/example/dissoc/dissoc/ranking/Found" "contingency" "[I" (.ref b294) := f322.keep K328 (by simp only [List.mem_cons, List.not_mem_nil, or_false, not_or]; exact ne318)
        have f333 : Fld Z h328 b303 "com/example/dissoc/dissoc/ranking/Found" "lowerBound" "I" (.int zj302) := f323.keep K328 (by simp only [List.mem_cons, List.not_mem_nil, or_false, not_or]; exact ne318)
        have f334 : Exa Z h328 b316 "com/example/dissoc/dissoc/ranking/Found" := A316.keep K328
        have Zs335 : n0 ≤ h328.size := Nat.le_trans Zs327 K328.1
        show own_G p e below _ (T328.setTop (mkF m 111 #[.val (.int p0), .val (.int p1), .val (.int p2), .val (.int p3), .val (.int p4), .val (.int (6 : Int32)), .val (.ref b294), .val (.int vg300), .val (.int zj302), .val (.ref b303), .val (.int zj315), .unset] [(.ref b316)]))
        refine own_via (fun t k => XS.astore X328.here hx rfl (hb hby at_111) rfl rfl (l' := #[.val (.int p0), .val (.int p1), .val (.int p2), .val (.int p3), .val (.int p4), .val (.int (6 : Int32)), .val (.ref b294), .val (.int vg300), .val (.int zj302), .val (.ref b303), .val (.int zj315), .val (.ref b316)]) rfl k) ?_
        show own_G p e below _ (T328.setTop (mkF m 113 #[.val (.int p0), .val (.int p1), .val (.int p2), .val (.int p3), .val (.int p4), .val (.int (6 : Int32)), .val (.ref b294), .val (.int vg300), .val (.int zj302), .val (.ref b303), .val (.int zj315), .val (.ref b316)] []))
        refine own_via (fun t k => XS.aload X328.here hx rfl (hb hby at_113) rfl rfl k) ?_
        show own_G p e below _ (T328.setTop (mkF m 115 #[.val (.int p0), .val (.int p1), .val (.int p2), .val (.int p3), .val (.int p4), .val (.int (6 : Int32)), .val (.ref b294), .val (.int vg300), .val (.int zj302), .val (.ref b303), .val (.int zj315), .val (.ref b316)] [(.ref b303)]))
        obtain ⟨T336, X336, e336, st336⟩ := own_callVP (y := (⟨"com/example/dissoc/dissoc/ranking/Found", "exact", "()Z"⟩ : MethodName)) (z := (⟨"com/example/dissoc/dissoc/ranking/Found", "exact", "()Z"⟩ : MethodName)) (W := 0) (a := b303) X328 hx hZ hown (hw _ (List.mem_of_getElem? (i := 25) rfl)) (hw _ (List.mem_of_getElem? (i := 26) rfl)) (notFace_of_selects (args := #[]) (mvT hZ (hw _ (List.mem_of_getElem? (i := 28) rfl)))) (hw _ (List.mem_of_getElem? (i := 28) rfl)) (hw _ (List.mem_of_getElem? (i := 27) rfl)) (hw _ (List.mem_of_getElem? (i := 3) rfl)) (hw _ (List.mem_of_getElem? (i := 29) rfl)) (by decide) (own_ex l Z a0 hw [] b303 b294 zj302 k294 (6 : Int32) [(.int p4), (.int (0 : Int32)), (.int (0 : Int32)), (.int (0 : Int32)), (.int (0 : Int32)), (.int (0 : Int32))] (.int (0 : Int32)) h328 f332 f333 f329) (by decide) (by decide) rfl rfl (by decide) (by decide) e328 f330 (pc := 115) (Ls := #[.val (.int p0), .val (.int p1), .val (.int p2), .val (.int p3), .val (.int p4), .val (.int (6 : Int32)), .val (.ref b294), .val (.int vg300), .val (.int zj302), .val (.ref b303), .val (.int zj315), .val (.ref b316)]) (st := [(.ref b303)]) (argsL := []) (rest := []) (by rw [hml]; rfl) (lenOf own_pd3 rfl) rfl rfl (Nat.le_of_eq rfl) (hb hby at_115)
        refine own_via st336 ?_
        show own_G p e below _ (T336.setTop (mkF m 118 #[.val (.int p0), .val (.int p1), .val (.int p2), .val (.int p3), .val (.int p4), .val (.int (6 : Int32)), .val (.ref b294), .val (.int vg300), .val (.int zj302), .val (.ref b303), .val (.int zj315), .val (.ref b316)] [(.int (own_Fex zj302 (6 : Int32)))]))
        refine own_via (fun t k => XS.iload X336.here hx rfl (hb hby at_118) rfl k) ?_
        show own_G p e below _ (T336.setTop (mkF m 120 #[.val (.int p0), .val (.int p1), .val (.int p2), .val (.int p3), .val (.int p4), .val (.int (6 : Int32)), .val (.ref b294), .val (.int vg300), .val (.int zj302), .val (.ref b303), .val (.int zj315), .val (.ref b316)] [(.int zj315), (.int (own_Fex zj302 (6 : Int32)))]))
        refine own_via (fun t k => XS.icmpNo X336.here hx rfl (hb hby at_120) rfl (teq (by subst hzj315; subst hzj302; subst hvg300; rfl)).2 k) ?_
        show own_G p e below _ (T336.setTop (mkF m 123 #[.val (.int p0), .val (.int p1), .val (.int p2), .val (.int p3), .val (.int p4), .val (.int (6 : Int32)), .val (.ref b294), .val (.int vg300), .val (.int zj302), .val (.ref b303), .val (.int zj315), .val (.ref b316)] []))
        refine own_via (fun t k => XS.aload X336.here hx rfl (hb hby at_123) rfl rfl k) ?_
        show own_G p e below _ (T336.setTop (mkF m 125 #[.val (.int p0), .val (.int p1), .val (.int p2), .val (.int p3), .val (.int p4), .val (.int (6 : Int32)), .val (.ref b294), .val (.int vg300), .val (.int zj302), .val (.ref b303), .val (.int zj315), .val (.ref b316)] [(.ref b316)]))
        obtain ⟨T337, X337, e337, st337⟩ := own_callVP (y := (⟨"com/example/dissoc/dissoc/ranking/Found", "exact", "()Z"⟩ : MethodName)) (z := (⟨"com/example/dissoc/dissoc/ranking/Found", "exact", "()Z"⟩ : MethodName)) (W := 0) (a := b316) X336 hx hZ hown (hw _ (List.mem_of_getElem? (i := 25) rfl)) (hw _ (List.mem_of_getElem? (i := 26) rfl)) (notFace_of_selects (args := #[]) (mvT hZ (hw _ (List.mem_of_getElem? (i := 28) rfl)))) (hw _ (List.mem_of_getElem? (i := 28) rfl)) (hw _ (List.mem_of_getElem? (i := 27) rfl)) (hw _ (List.mem_of_getElem? (i := 3) rfl)) (hw _ (List.mem_of_getElem? (i := 29) rfl)) (by decide) (own_ex l Z a0 hw [] b316 b294 (6 : Int32) k294 (6 : Int32) [(.int p4), (.int (0 : Int32)), (.int (0 : Int32)), (.int (0 : Int32)), (.int (0 : Int32)), (.int (0 : Int32))] (.int (0 : Int32)) h328 o328_2 o328_3 f329) (by decide) (by decide) rfl rfl (by decide) (by decide) e336 o328_0 (pc := 125) (Ls := #[.val (.int p0), .val (.int p1), .val (.int p2), .val (.int p3), .val (.int p4), .val (.int (6 : Int32)), .val (.ref b294), .val (.int vg300), .val (.int zj302), .val (.ref b303), .val (.int zj315), .val (.ref b316)]) (st := [(.ref b316)]) (argsL := []) (rest := []) (by rw [hml]; rfl) (lenOf own_pd3 rfl) rfl rfl (Nat.le_of_eq rfl) (hb hby at_125)
        refine own_via st337 ?_
        show own_G p e below _ (T337.setTop (mkF m 128 #[.val (.int p0), .val (.int p1), .val (.int p2), .val (.int p3), .val (.int p4), .val (.int (6 : Int32)), .val (.ref b294), .val (.int vg300), .val (.int zj302), .val (.ref b303), .val (.int zj315), .val (.ref b316)] [(.int (own_Fex (6 : Int32) (6 : Int32)))]))
        refine own_via (fun t k => XS.ifNo X337.here hx rfl (hb hby at_128) rfl ((if0 _ _).trans (feq (by decide)).1) k) ?_
        show own_G p e below _ (T337.setTop (mkF m 131 #[.val (.int p0), .val (.int p1), .val (.int p2), .val (.int p3), .val (.int p4), .val (.int (6 : Int32)), .val (.ref b294), .val (.int vg300), .val (.int zj302), .val (.ref b303), .val (.int zj315), .val (.ref b316)] []))
        refine own_via (fun t k => XS.iconst X337.here hx rfl (hb hby at_131) k) ?_
        show own_G p e below _ (T337.setTop (mkF m 132 #[.val (.int p0), .val (.int p1), .val (.int p2), .val (.int p3), .val (.int p4), .val (.int (6 : Int32)), .val (.ref b294), .val (.int vg300), .val (.int zj302), .val (.ref b303), .val (.int zj315), .val (.ref b316)] [(.int (1 : Int32))]))
        refine own_via (fun t k => XS.goto X337.here hx rfl (pc0 := 132) (pc' := 136) rfl (hb hby at_132) (by decide) (by decide) k) ?_
        show own_G p e below _ (T337.setTop (mkF m 136 #[.val (.int p0), .val (.int p1), .val (.int p2), .val (.int p3), .val (.int p4), .val (.int (6 : Int32)), .val (.ref b294), .val (.int vg300), .val (.int zj302), .val (.ref b303), .val (.int zj315), .val (.ref b316)] [(.int (1 : Int32))]))
        exact own_retN (t := .boolean) X337 hx Bd.returns (by simp) Bd.notSynchronized (hb hby at_136) ⟨N328, rfl⟩ (by decide) (by decide)
      by_cases hc338 : zj302 = (6 : Int32)
      ·
        refine own_via (fun t k => XS.icmpNo X310.here hx rfl (hb hby at_91) rfl (teq hc338).2 k) ?_
        show own_G p e below _ (T310.setTop (mkF m 94 #[.val (.int p0), .val (.int p1), .val (.int p2), .val (.int p3), .val (.int p4), .val (.int (6 : Int32)), .val (.ref b294), .val (.int vg300), .val (.int zj302), .val (.ref b303), .unset, .unset] []))
        refine own_via (fun t k => XS.iconst X310.here hx rfl (hb hby at_94) k) ?_
        show own_G p e below _ (T310.setTop (mkF m 95 #[.val (.int p0), .val (.int p1), .val (.int p2), .val (.int p3), .val (.int p4), .val (.int (6 : Int32)), .val (.ref b294), .val (.int vg300), .val (.int zj302), .val (.ref b303), .unset, .unset] [(.int (1 : Int32))]))
        refine own_via (fun t k => XS.goto X310.here hx rfl (pc0 := 95) (pc' := 99) rfl (hb hby at_95) (by decide) (by decide) k) ?_
        show own_G p e below _ (T310.setTop (mkF m 99 #[.val (.int p0), .val (.int p1), .val (.int p2), .val (.int p3), .val (.int p4), .val (.int (6 : Int32)), .val (.ref b294), .val (.int vg300), .val (.int zj302), .val (.ref b303), .unset, .unset] [(.int (1 : Int32))]))
        exact J314 _ X310 e310 _ (by simp only [if_pos hc338])
      ·
        refine own_via (fun t k => XS.icmpYes X310.here hx rfl (pc0 := 91) (pc' := 98) rfl (hb hby at_91) rfl (feq hc338).2 (by decide) (by decide) k) ?_
        show own_G p e below _ (T310.setTop (mkF m 98 #[.val (.int p0), .val (.int p1), .val (.int p2), .val (.int p3), .val (.int p4), .val (.int (6 : Int32)), .val (.ref b294), .val (.int vg300), .val (.int zj302), .val (.ref b303), .unset, .unset] []))
        refine own_via (fun t k => XS.iconst X310.here hx rfl (hb hby at_98) k) ?_
        show own_G p e below _ (T310.setTop (mkF m 99 #[.val (.int p0), .val (.int p1), .val (.int p2), .val (.int p3), .val (.int p4), .val (.int (6 : Int32)), .val (.ref b294), .val (.int vg300), .val (.int zj302), .val (.ref b303), .unset, .unset] [(.int (0 : Int32))]))
        exact J314 _ X310 e310 _ (by simp only [if_neg hc338])
    by_cases hc339 : vg300 = (0 : Int32)
    ·
      refine own_via (fun t k => XS.ifNo X297.here hx rfl (hb hby at_30) rfl ((if0 _ _).trans (teq hc339).2) k) ?_
      show own_G p e below _ (T297.setTop (mkF m 33 #[.val (.int p0), .val (.int p1), .val (.int p2), .val (.int p3), .val (.int p4), .val (.int (6 : Int32)), .val (.ref b294), .val (.int vg300), .unset, .unset, .unset, .unset] []))
      refine own_via (fun t k => XS.iload X297.here hx rfl (hb hby at_33) rfl k) ?_
      show own_G p e below _ (T297.setTop (mkF m 35 #[.val (.int p0), .val (.int p1), .val (.int p2), .val (.int p3), .val (.int p4), .val (.int (6 : Int32)), .val (.ref b294), .val (.int vg300), .unset, .unset, .unset, .unset] [(.int (6 : Int32))]))
      refine own_via (fun t k => XS.istore X297.here hx rfl (hb hby at_35) rfl (l' := #[.val (.int p0), .val (.int p1), .val (.int p2), .val (.int p3), .val (.int p4), .val (.int (6 : Int32)), .val (.ref b294), .val (.int vg300), .val (.int (6 : Int32)), .unset, .unset, .unset]) rfl k) ?_
      show own_G p e below _ (T297.setTop (mkF m 37 #[.val (.int p0), .val (.int p1), .val (.int p2), .val (.int p3), .val (.int p4), .val (.int (6 : Int32)), .val (.ref b294), .val (.int vg300), .val (.int (6 : Int32)), .unset, .unset, .unset] []))
      refine own_via (fun t k => XS.goto X297.here hx rfl (pc0 := 37) (pc' := 73) rfl (hb hby at_37) (by decide) (by decide) k) ?_
      show own_G p e below _ (T297.setTop (mkF m 73 #[.val (.int p0), .val (.int p1), .val (.int p2), .val (.int p3), .val (.int p4), .val (.int (6 : Int32)), .val (.ref b294), .val (.int vg300), .val (.int (6 : Int32)), .unset, .unset, .unset] []))
      exact J301 _ X297 e297 _ (by simp only [if_pos hc339])
    ·
      refine own_via (fun t k => XS.ifYes X297.here hx rfl (pc0 := 30) (pc' := 40) rfl (hb hby at_30) rfl ((if0 _ _).trans (feq hc339).2) (by decide) (by decide) k) ?_
      show own_G p e below _ (T297.setTop (mkF m 40 #[.val (.int p0), .val (.int p1), .val (.int p2), .val (.int p3), .val (.int p4), .val (.int (6 : Int32)), .val (.ref b294), .val (.int vg300), .unset, .unset, .unset, .unset] []))
      refine own_via (fun t k => XS.iload X297.here hx rfl (hb hby at_40) rfl k) ?_
      show own_G p e below _ (T297.setTop (mkF m 42 #[.val (.int p0), .val (.int p1), .val (.int p2), .val (.int p3), .val (.int p4), .val (.int (6 : Int32)), .val (.ref b294), .val (.int vg300), .unset, .unset, .unset, .unset] [(.int vg300)]))
      refine own_via (fun t k => XS.iconst X297.here hx rfl (hb hby at_42) k) ?_
      show own_G p e below _ (T297.setTop (mkF m 43 #[.val (.int p0), .val (.int p1), .val (.int p2), .val (.int p3), .val (.int p4), .val (.int (6 : Int32)), .val (.ref b294), .val (.int vg300), .unset, .unset, .unset, .unset] [(.int (1 : Int32)), (.int vg300)]))
      by_cases hc340 : vg300 = (1 : Int32)
      ·
        refine own_via (fun t k => XS.icmpNo X297.here hx rfl (hb hby at_43) rfl (teq hc340).2 k) ?_
        show own_G p e below _ (T297.setTop (mkF m 46 #[.val (.int p0), .val (.int p1), .val (.int p2), .val (.int p3), .val (.int p4), .val (.int (6 : Int32)), .val (.ref b294), .val (.int vg300), .unset, .unset, .unset, .unset] []))
        refine own_via (fun t k => XS.iload X297.here hx rfl (hb hby at_46) rfl k) ?_
        show own_G p e below _ (T297.setTop (mkF m 48 #[.val (.int p0), .val (.int p1), .val (.int p2), .val (.int p3), .val (.int p4), .val (.int (6 : Int32)), .val (.ref b294), .val (.int vg300), .unset, .unset, .unset, .unset] [(.int (6 : Int32))]))
        refine own_via (fun t k => XS.iconst X297.here hx rfl (hb hby at_48) k) ?_
        show own_G p e below _ (T297.setTop (mkF m 49 #[.val (.int p0), .val (.int p1), .val (.int p2), .val (.int p3), .val (.int p4), .val (.int (6 : Int32)), .val (.ref b294), .val (.int vg300), .unset, .unset, .unset, .unset] [(.int (1 : Int32)), (.int (6 : Int32))]))
        refine own_via (fun t k => XS.isub X297.here hx rfl (hb hby at_49) rfl k) ?_
        show own_G p e below _ (T297.setTop (mkF m 50 #[.val (.int p0), .val (.int p1), .val (.int p2), .val (.int p3), .val (.int p4), .val (.int (6 : Int32)), .val (.ref b294), .val (.int vg300), .unset, .unset, .unset, .unset] [(.int (5 : Int32))]))
        refine own_via (fun t k => XS.istore X297.here hx rfl (hb hby at_50) rfl (l' := #[.val (.int p0), .val (.int p1), .val (.int p2), .val (.int p3), .val (.int p4), .val (.int (6 : Int32)), .val (.ref b294), .val (.int vg300), .val (.int (5 : Int32)), .unset, .unset, .unset]) rfl k) ?_
        show own_G p e below _ (T297.setTop (mkF m 52 #[.val (.int p0), .val (.int p1), .val (.int p2), .val (.int p3), .val (.int p4), .val (.int (6 : Int32)), .val (.ref b294), .val (.int vg300), .val (.int (5 : Int32)), .unset, .unset, .unset] []))
        refine own_via (fun t k => XS.goto X297.here hx rfl (pc0 := 52) (pc' := 73) rfl (hb hby at_52) (by decide) (by decide) k) ?_
        show own_G p e below _ (T297.setTop (mkF m 73 #[.val (.int p0), .val (.int p1), .val (.int p2), .val (.int p3), .val (.int p4), .val (.int (6 : Int32)), .val (.ref b294), .val (.int vg300), .val (.int (5 : Int32)), .unset, .unset, .unset] []))
        exact J301 _ X297 e297 _ (by simp only [if_neg hc339, if_pos hc340])
      ·
        refine own_via (fun t k => XS.icmpYes X297.here hx rfl (pc0 := 43) (pc' := 55) rfl (hb hby at_43) rfl (feq hc340).2 (by decide) (by decide) k) ?_
        show own_G p e below _ (T297.setTop (mkF m 55 #[.val (.int p0), .val (.int p1), .val (.int p2), .val (.int p3), .val (.int p4), .val (.int (6 : Int32)), .val (.ref b294), .val (.int vg300), .unset, .unset, .unset, .unset] []))
        refine own_via (fun t k => XS.iload X297.here hx rfl (hb hby at_55) rfl k) ?_
        show own_G p e below _ (T297.setTop (mkF m 57 #[.val (.int p0), .val (.int p1), .val (.int p2), .val (.int p3), .val (.int p4), .val (.int (6 : Int32)), .val (.ref b294), .val (.int vg300), .unset, .unset, .unset, .unset] [(.int vg300)]))
        refine own_via (fun t k => XS.iconst X297.here hx rfl (hb hby at_57) k) ?_
        show own_G p e below _ (T297.setTop (mkF m 58 #[.val (.int p0), .val (.int p1), .val (.int p2), .val (.int p3), .val (.int p4), .val (.int (6 : Int32)), .val (.ref b294), .val (.int vg300), .unset, .unset, .unset, .unset] [(.int (2 : Int32)), (.int vg300)]))
        by_cases hc341 : vg300 = (2 : Int32)
        ·
          refine own_via (fun t k => XS.icmpNo X297.here hx rfl (hb hby at_58) rfl (teq hc341).2 k) ?_
          show own_G p e below _ (T297.setTop (mkF m 61 #[.val (.int p0), .val (.int p1), .val (.int p2), .val (.int p3), .val (.int p4), .val (.int (6 : Int32)), .val (.ref b294), .val (.int vg300), .unset, .unset, .unset, .unset] []))
          refine own_via (fun t k => XS.iload X297.here hx rfl (hb hby at_61) rfl k) ?_
          show own_G p e below _ (T297.setTop (mkF m 63 #[.val (.int p0), .val (.int p1), .val (.int p2), .val (.int p3), .val (.int p4), .val (.int (6 : Int32)), .val (.ref b294), .val (.int vg300), .unset, .unset, .unset, .unset] [(.int (6 : Int32))]))
          refine own_via (fun t k => XS.iconst X297.here hx rfl (hb hby at_63) k) ?_
          show own_G p e below _ (T297.setTop (mkF m 64 #[.val (.int p0), .val (.int p1), .val (.int p2), .val (.int p3), .val (.int p4), .val (.int (6 : Int32)), .val (.ref b294), .val (.int vg300), .unset, .unset, .unset, .unset] [(.int (1 : Int32)), (.int (6 : Int32))]))
          refine own_via (fun t k => XS.iadd X297.here hx rfl (hb hby at_64) rfl k) ?_
          show own_G p e below _ (T297.setTop (mkF m 65 #[.val (.int p0), .val (.int p1), .val (.int p2), .val (.int p3), .val (.int p4), .val (.int (6 : Int32)), .val (.ref b294), .val (.int vg300), .unset, .unset, .unset, .unset] [(.int (7 : Int32))]))
          refine own_via (fun t k => XS.istore X297.here hx rfl (hb hby at_65) rfl (l' := #[.val (.int p0), .val (.int p1), .val (.int p2), .val (.int p3), .val (.int p4), .val (.int (6 : Int32)), .val (.ref b294), .val (.int vg300), .val (.int (7 : Int32)), .unset, .unset, .unset]) rfl k) ?_
          show own_G p e below _ (T297.setTop (mkF m 67 #[.val (.int p0), .val (.int p1), .val (.int p2), .val (.int p3), .val (.int p4), .val (.int (6 : Int32)), .val (.ref b294), .val (.int vg300), .val (.int (7 : Int32)), .unset, .unset, .unset] []))
          refine own_via (fun t k => XS.goto X297.here hx rfl (pc0 := 67) (pc' := 73) rfl (hb hby at_67) (by decide) (by decide) k) ?_
          show own_G p e below _ (T297.setTop (mkF m 73 #[.val (.int p0), .val (.int p1), .val (.int p2), .val (.int p3), .val (.int p4), .val (.int (6 : Int32)), .val (.ref b294), .val (.int vg300), .val (.int (7 : Int32)), .unset, .unset, .unset] []))
          exact J301 _ X297 e297 _ (by simp only [if_neg hc339, if_neg hc340, if_pos hc341])
        ·
          refine own_via (fun t k => XS.icmpYes X297.here hx rfl (pc0 := 58) (pc' := 70) rfl (hb hby at_58) rfl (feq hc341).2 (by decide) (by decide) k) ?_
          show own_G p e below _ (T297.setTop (mkF m 70 #[.val (.int p0), .val (.int p1), .val (.int p2), .val (.int p3), .val (.int p4), .val (.int (6 : Int32)), .val (.ref b294), .val (.int vg300), .unset, .unset, .unset, .unset] []))
          refine own_via (fun t k => XS.iloadN X297.here hx rfl (hb hby at_70) rfl k) ?_
          show own_G p e below _ (T297.setTop (mkF m 71 #[.val (.int p0), .val (.int p1), .val (.int p2), .val (.int p3), .val (.int p4), .val (.int (6 : Int32)), .val (.ref b294), .val (.int vg300), .unset, .unset, .unset, .unset] [(.int p2)]))
          refine own_via (fun t k => XS.istore X297.here hx rfl (hb hby at_71) rfl (l' := #[.val (.int p0), .val (.int p1), .val (.int p2), .val (.int p3), .val (.int p4), .val (.int (6 : Int32)), .val (.ref b294), .val (.int vg300), .val (.int p2), .unset, .unset, .unset]) rfl k) ?_
          show own_G p e below _ (T297.setTop (mkF m 73 #[.val (.int p0), .val (.int p1), .val (.int p2), .val (.int p3), .val (.int p4), .val (.int (6 : Int32)), .val (.ref b294), .val (.int vg300), .val (.int p2), .unset, .unset, .unset] []))
          exact J301 _ X297 e297 _ (by simp only [if_neg hc339, if_neg hc340, if_neg hc341])
  ·
    rw [hs8]
    show own_G p e below _ (s₁.setTop (mkF m 4 #[.val (.int p0), .val (.int p1), .val (.int p2), .val (.int p3), .val (.int p4), .unset, .unset, .unset, .unset, .unset, .unset, .unset] [(.int (7 : Int32))]))
    refine own_via (fun t k => XS.istore X0.here hx rfl (hb hby at_4) rfl (l' := #[.val (.int p0), .val (.int p1), .val (.int p2), .val (.int p3), .val (.int p4), .val (.int (7 : Int32)), .unset, .unset, .unset, .unset, .unset, .unset]) rfl k) ?_
    show own_G p e below _ (s₁.setTop (mkF m 6 #[.val (.int p0), .val (.int p1), .val (.int p2), .val (.int p3), .val (.int p4), .val (.int (7 : Int32)), .unset, .unset, .unset, .unset, .unset, .unset] []))
    refine own_via (fun t k => XS.iload X0.here hx rfl (hb hby at_6) rfl k) ?_
    show own_G p e below _ (s₁.setTop (mkF m 8 #[.val (.int p0), .val (.int p1), .val (.int p2), .val (.int p3), .val (.int p4), .val (.int (7 : Int32)), .unset, .unset, .unset, .unset, .unset, .unset] [(.int (7 : Int32))]))
    obtain ⟨T342, h342, k342, b342, X342, e342, E342, ga342, V342, Ex342, st342⟩ := own_newA X0 hx hZ (hw _ (List.mem_of_getElem? (i := 0) rfl)) e0 (pc := 8) (Ls := #[.val (.int p0), .val (.int p1), .val (.int p2), .val (.int p3), .val (.int p4), .val (.int (7 : Int32)), .unset, .unset, .unset, .unset, .unset, .unset]) (rest := []) (hb hby at_8) (n := (7 : Int32)) (by decide) (cap := 7) (by decide) (by decide) (by decide) (by decide) 7 rfl
    refine own_via st342 ?_
    have f343 : Arv Z h342 b342 k342 .int (7 : Int32) [(.int (0 : Int32)), (.int (0 : Int32)), (.int (0 : Int32)), (.int (0 : Int32)), (.int (0 : Int32)), (.int (0 : Int32)), (.int (0 : Int32))] (.int (0 : Int32)) := V342
    have g_b342 : n0 ≤ b342 := Nat.le_trans Z0 (Nat.le_of_eq ga342.symm)
    have Zs344 : n0 ≤ h342.size := Nat.le_trans Z0 E342.1
    show own_G p e below _ (T342.setTop (mkF m 10 #[.val (.int p0), .val (.int p1), .val (.int p2), .val (.int p3), .val (.int p4), .val (.int (7 : Int32)), .unset, .unset, .unset, .unset, .unset, .unset] [(.ref b342)]))
    refine own_via (fun t k => XS.astore X342.here hx rfl (hb hby at_10) rfl rfl (l' := #[.val (.int p0), .val (.int p1), .val (.int p2), .val (.int p3), .val (.int p4), .val (.int (7 : Int32)), .val (.ref b342), .unset, .unset, .unset, .unset, .unset]) rfl k) ?_
    show own_G p e below _ (T342.setTop (mkF m 12 #[.val (.int p0), .val (.int p1), .val (.int p2), .val (.int p3), .val (.int p4), .val (.int (7 : Int32)), .val (.ref b342), .unset, .unset, .unset, .unset, .unset] []))
    refine own_via (fun t k => XS.iload X342.here hx rfl (hb hby at_12) rfl k) ?_
    show own_G p e below _ (T342.setTop (mkF m 14 #[.val (.int p0), .val (.int p1), .val (.int p2), .val (.int p3), .val (.int p4), .val (.int (7 : Int32)), .val (.ref b342), .unset, .unset, .unset, .unset, .unset] [(.int (7 : Int32))]))
    refine own_via (fun t k => XS.ifNo X342.here hx rfl (hb hby at_14) rfl ((if0 _ _).trans (tlt (by decide : (0 : Int32) < (7 : Int32))).2.2.2) k) ?_
    show own_G p e below _ (T342.setTop (mkF m 17 #[.val (.int p0), .val (.int p1), .val (.int p2), .val (.int p3), .val (.int p4), .val (.int (7 : Int32)), .val (.ref b342), .unset, .unset, .unset, .unset, .unset] []))
    refine own_via (fun t k => XS.aload X342.here hx rfl (hb hby at_17) rfl rfl k) ?_
    show own_G p e below _ (T342.setTop (mkF m 19 #[.val (.int p0), .val (.int p1), .val (.int p2), .val (.int p3), .val (.int p4), .val (.int (7 : Int32)), .val (.ref b342), .unset, .unset, .unset, .unset, .unset] [(.ref b342)]))
    refine own_via (fun t k => XS.iconst X342.here hx rfl (hb hby at_19) k) ?_
    show own_G p e below _ (T342.setTop (mkF m 20 #[.val (.int p0), .val (.int p1), .val (.int p2), .val (.int p3), .val (.int p4), .val (.int (7 : Int32)), .val (.ref b342), .unset, .unset, .unset, .unset, .unset] [(.int (0 : Int32)), (.ref b342)]))
    refine own_via (fun t k => XS.iload X342.here hx rfl (hb hby at_20) rfl k) ?_
    show own_G p e below _ (T342.setTop (mkF m 22 #[.val (.int p0), .val (.int p1), .val (.int p2), .val (.int p3), .val (.int p4), .val (.int (7 : Int32)), .val (.ref b342), .unset, .unset, .unset, .unset, .unset] [(.int p4), (.int (0 : Int32)), (.ref b342)]))
    obtain ⟨T345, h345, L345, X345, N345, e345, W345, V345, st345⟩ := own_stI X342 N0 hx hZ e342 f343 g_b342 (j := (0 : Int32)) (x := p4) (i := 0) ⟨by decide, by decide⟩ rfl (Nat.le_of_ble_eq_true rfl) (pc := 22) (Ls := #[.val (.int p0), .val (.int p1), .val (.int p2), .val (.int p3), .val (.int p4), .val (.int (7 : Int32)), .val (.ref b342), .unset, .unset, .unset, .unset, .unset]) (rest := []) (hb hby at_22)
    refine own_via st345 ?_
    have f346 : Arv Z h345 b342 k342 .int (7 : Int32) [(.int p4), (.int (0 : Int32)), (.int (0 : Int32)), (.int (0 : Int32)), (.int (0 : Int32)), (.int (0 : Int32)), (.int (0 : Int32))] (.int (0 : Int32)) := V345
    have Zs347 : n0 ≤ h345.size := by rw [W345.size]; exact Zs344
    show own_G p e below _ (T345.setTop (mkF m 23 #[.val (.int p0), .val (.int p1), .val (.int p2), .val (.int p3), .val (.int p4), .val (.int (7 : Int32)), .val (.ref b342), .unset, .unset, .unset, .unset, .unset] []))
    refine own_via (fun t k => XS.iloadN X345.here hx rfl (hb hby at_23) rfl k) ?_
    show own_G p e below _ (T345.setTop (mkF m 24 #[.val (.int p0), .val (.int p1), .val (.int p2), .val (.int p3), .val (.int p4), .val (.int (7 : Int32)), .val (.ref b342), .unset, .unset, .unset, .unset, .unset] [(.int p3)]))
    refine own_via (fun t k => XS.iconst X345.here hx rfl (hb hby at_24) k) ?_
    show own_G p e below _ (T345.setTop (mkF m 25 #[.val (.int p0), .val (.int p1), .val (.int p2), .val (.int p3), .val (.int p4), .val (.int (7 : Int32)), .val (.ref b342), .unset, .unset, .unset, .unset, .unset] [(.int (3 : Int32)), (.int p3)]))
    refine own_via (fun t k => XS.iand X345.here hx rfl (hb hby at_25) rfl k) ?_
    show own_G p e below _ (T345.setTop (mkF m 26 #[.val (.int p0), .val (.int p1), .val (.int p2), .val (.int p3), .val (.int p4), .val (.int (7 : Int32)), .val (.ref b342), .unset, .unset, .unset, .unset, .unset] [(.int (p3 &&& (3 : Int32)))]))
    generalize hvg348 : (p3 &&& (3 : Int32)) = vg348
    show own_G p e below _ (T345.setTop (mkF m 26 #[.val (.int p0), .val (.int p1), .val (.int p2), .val (.int p3), .val (.int p4), .val (.int (7 : Int32)), .val (.ref b342), .unset, .unset, .unset, .unset, .unset] [(.int vg348)]))
    refine own_via (fun t k => XS.istore X345.here hx rfl (hb hby at_26) rfl (l' := #[.val (.int p0), .val (.int p1), .val (.int p2), .val (.int p3), .val (.int p4), .val (.int (7 : Int32)), .val (.ref b342), .val (.int vg348), .unset, .unset, .unset, .unset]) rfl k) ?_
    show own_G p e below _ (T345.setTop (mkF m 28 #[.val (.int p0), .val (.int p1), .val (.int p2), .val (.int p3), .val (.int p4), .val (.int (7 : Int32)), .val (.ref b342), .val (.int vg348), .unset, .unset, .unset, .unset] []))
    refine own_via (fun t k => XS.iload X345.here hx rfl (hb hby at_28) rfl k) ?_
    show own_G p e below _ (T345.setTop (mkF m 30 #[.val (.int p0), .val (.int p1), .val (.int p2), .val (.int p3), .val (.int p4), .val (.int (7 : Int32)), .val (.ref b342), .val (.int vg348), .unset, .unset, .unset, .unset] [(.int vg348)]))
    have J349 : ∀ (TJ349 : State) (XJ349 : Stand p l e room_1 s m #[(.int p0), (.int p1), (.int p2), (.int p3), (.int p4)] below meth c TJ349 L345 1 7) (EJ349 : TJ349.heap = h345) (zj350 : Int32), zj350 = (if vg348 = (0 : Int32) then (7 : Int32) else (if vg348 = (1 : Int32) then (6 : Int32) else (if vg348 = (2 : Int32) then (8 : Int32) else p2))) → own_G p e below (own_P s (own_W n0 (fun v _ => v = some (.int 1))) room_1.cells room_1.slots) (TJ349.setTop (mkF m 73 #[.val (.int p0), .val (.int p1), .val (.int p2), .val (.int p3), .val (.int p4), .val (.int (7 : Int32)), .val (.ref b342), .val (.int vg348), .val (.int zj350), .unset, .unset, .unset] [])) := by
      intro TJ349 XJ349 EJ349 zj350 hzj350
      obtain ⟨T351, h351, b351, X351, e351, E351, ga351, A351, D351, st351⟩ := own_newO XJ349 hx hZ hown (hw _ (List.mem_of_getElem? (i := 1) rfl)) (hw _ (List.mem_of_getElem? (i := 2) rfl)) (hw _ (List.mem_of_getElem? (i := 3) rfl)) EJ349 (pc := 73) (Ls := #[.val (.int p0), .val (.int p1), .val (.int p2), .val (.int p3), .val (.int p4), .val (.int (7 : Int32)), .val (.ref b342), .val (.int vg348), .val (.int zj350), .unset, .unset, .unset]) (rest := []) (hb hby at_73) (by decide) (by decide)
      refine own_via st351 ?_
      have ne352 : b342 ≠ b351 := Nat.ne_of_lt (Nat.lt_of_lt_of_le f346.lt (Nat.le_of_eq ga351.symm))
      have f353 : Arv Z h351 b342 k342 .int (7 : Int32) [(.int p4), (.int (0 : Int32)), (.int (0 : Int32)), (.int (0 : Int32)), (.int (0 : Int32)), (.int (0 : Int32)), (.int (0 : Int32))] (.int (0 : Int32)) := f346.ext E351
      have f354 : Fld Z h351 b351 "com/example/dissoc/dissoc/ranking/Found" "tuple" "I" (.int (0 : Int32)) := D351 (Or.inr (hw _ (List.mem_of_getElem? (i := 16) rfl))) (ty := .int) (by decide)
      have f355 : Fld Z h351 b351 "com/example/dissoc/dissoc/ranking/Found" "contingency" "[I" .null := D351 (Or.inr (hw _ (List.mem_of_getElem? (i := 18) rfl))) (ty := (.array .int)) (by decide)
      have f356 : Fld Z h351 b351 "com/example/dissoc/dissoc/ranking/Found" "lowerBound" "I" (.int (0 : Int32)) := D351 (Or.inr (hw _ (List.mem_of_getElem? (i := 20) rfl))) (ty := .int) (by decide)
      have g_b351 : n0 ≤ b351 := Nat.le_trans Zs347 (Nat.le_of_eq ga351.symm)
      have Zs357 : n0 ≤ h351.size := Nat.le_trans Zs347 E351.1
      show own_G p e below _ (T351.setTop (mkF m 76 #[.val (.int p0), .val (.int p1), .val (.int p2), .val (.int p3), .val (.int p4), .val (.int (7 : Int32)), .val (.ref b342), .val (.int vg348), .val (.int zj350), .unset, .unset, .unset] [(.ref b351)]))
      refine own_via (fun t k => XS.dup X351.here hx rfl (hb hby at_76) rfl rfl k) ?_
      show own_G p e below _ (T351.setTop (mkF m 77 #[.val (.int p0), .val (.int p1), .val (.int p2), .val (.int p3), .val (.int p4), .val (.int (7 : Int32)), .val (.ref b342), .val (.int vg348), .val (.int zj350), .unset, .unset, .unset] [(.ref b351), (.ref b351)]))
      refine own_via (fun t k => XS.iloadN X351.here hx rfl (hb hby at_77) rfl k) ?_
      show own_G p e below _ (T351.setTop (mkF m 78 #[.val (.int p0), .val (.int p1), .val (.int p2), .val (.int p3), .val (.int p4), .val (.int (7 : Int32)), .val (.ref b342), .val (.int vg348), .val (.int zj350), .unset, .unset, .unset] [(.int p0), (.ref b351), (.ref b351)]))
      refine own_via (fun t k => XS.aload X351.here hx rfl (hb hby at_78) rfl rfl k) ?_
      show own_G p e below _ (T351.setTop (mkF m 80 #[.val (.int p0), .val (.int p1), .val (.int p2), .val (.int p3), .val (.int p4), .val (.int (7 : Int32)), .val (.ref b342), .val (.int vg348), .val (.int zj350), .unset, .unset, .unset] [(.ref b342), (.int p0), (.ref b351), (.ref b351)]))
      refine own_via (fun t k => XS.iload X351.here hx rfl (hb hby at_80) rfl k) ?_
      show own_G p e below _ (T351.setTop (mkF m 82 #[.val (.int p0), .val (.int p1), .val (.int p2), .val (.int p3), .val (.int p4), .val (.int (7 : Int32)), .val (.ref b342), .val (.int vg348), .val (.int zj350), .unset, .unset, .unset] [(.int zj350), (.ref b342), (.int p0), (.ref b351), (.ref b351)]))
      obtain ⟨v358, T358, h358, L358, X358, N358, e358, hq358, st358⟩ := own_callI (y := (⟨"com/example/dissoc/dissoc/ranking/Found", "<init>", "(I[II)V"⟩ : MethodName)) (W := 1) (a := b351) X351 N345 hx hZ rfl hown (hw _ (List.mem_of_getElem? (i := 4) rfl)) (hw _ (List.mem_of_getElem? (i := 5) rfl)) (hw _ (List.mem_of_getElem? (i := 3) rfl)) (hw _ (List.mem_of_getElem? (i := 6) rfl)) (by decide) (own_c3 l Z a0 hw [] b351 p0 b342 zj350 (.int (0 : Int32)) (.null) (.int (0 : Int32)) h351 n0 Zs357 A351 f354 f355 f356 g_b351) (by decide) (by decide) (by decide) (by decide) e351 (pc := 82) (Ls := #[.val (.int p0), .val (.int p1), .val (.int p2), .val (.int p3), .val (.int p4), .val (.int (7 : Int32)), .val (.ref b342), .val (.int vg348), .val (.int zj350), .unset, .unset, .unset]) (st := [(.int zj350), (.ref b342), (.int p0), (.ref b351), (.ref b351)]) (argsL := [(.int p0), (.ref b342), (.int zj350)]) (rest := [(.ref b351)]) (by rw [hml]; rfl) (lenOf own_pd1 rfl) rfl rfl (Nat.le_of_eq rfl) (hb hby at_82)
      obtain ⟨rfl, K358, o358_0, o358_1, o358_2, o358_3⟩ := hq358
      refine own_via st358 ?_
      have f359 : Arv Z h358 b342 k342 .int (7 : Int32) [(.int p4), (.int (0 : Int32)), (.int (0 : Int32)), (.int (0 : Int32)), (.int (0 : Int32)), (.int (0 : Int32)), (.int (0 : Int32))] (.int (0 : Int32)) := f353.keep K358 (by simp only [List.mem_cons, List.not_mem_nil, or_false, not_or]; exact ne352)
      have f360 : Exa Z h358 b351 "com/example/dissoc/dissoc/ranking/Found" := A351.keep K358
      have Zs361 : n0 ≤ h358.size := Nat.le_trans Zs357 K358.1
      show own_G p e below _ (T358.setTop (mkF m 85 #[.val (.int p0), .val (.int p1), .val (.int p2), .val (.int p3), .val (.int p4), .val (.int (7 : Int32)), .val (.ref b342), .val (.int vg348), .val (.int zj350), .unset, .unset, .unset] [(.ref b351)]))
      refine own_via (fun t k => XS.astore X358.here hx rfl (hb hby at_85) rfl rfl (l' := #[.val (.int p0), .val (.int p1), .val (.int p2), .val (.int p3), .val (.int p4), .val (.int (7 : Int32)), .val (.ref b342), .val (.int vg348), .val (.int zj350), .val (.ref b351), .unset, .unset]) rfl k) ?_
      show own_G p e below _ (T358.setTop (mkF m 87 #[.val (.int p0), .val (.int p1), .val (.int p2), .val (.int p3), .val (.int p4), .val (.int (7 : Int32)), .val (.ref b342), .val (.int vg348), .val (.int zj350), .val (.ref b351), .unset, .unset] []))
      refine own_via (fun t k => XS.iload X358.here hx rfl (hb hby at_87) rfl k) ?_
      show own_G p e below _ (T358.setTop (mkF m 89 #[.val (.int p0), .val (.int p1), .val (.int p2), .val (.int p3), .val (.int p4), .val (.int (7 : Int32)), .val (.ref b342), .val (.int vg348), .val (.int zj350), .val (.ref b351), .unset, .unset] [(.int zj350)]))
      refine own_via (fun t k => XS.iload X358.here hx rfl (hb hby at_89) rfl k) ?_
      show own_G p e below _ (T358.setTop (mkF m 91 #[.val (.int p0), .val (.int p1), .val (.int p2), .val (.int p3), .val (.int p4), .val (.int (7 : Int32)), .val (.ref b342), .val (.int vg348), .val (.int zj350), .val (.ref b351), .unset, .unset] [(.int (7 : Int32)), (.int zj350)]))
      have J362 : ∀ (TJ362 : State) (XJ362 : Stand p l e room_1 s m #[(.int p0), (.int p1), (.int p2), (.int p3), (.int p4)] below meth c TJ362 L358 2 10) (EJ362 : TJ362.heap = h358) (zj363 : Int32), zj363 = (if zj350 = (7 : Int32) then (1 : Int32) else (0 : Int32)) → own_G p e below (own_P s (own_W n0 (fun v _ => v = some (.int 1))) room_1.cells room_1.slots) (TJ362.setTop (mkF m 99 #[.val (.int p0), .val (.int p1), .val (.int p2), .val (.int p3), .val (.int p4), .val (.int (7 : Int32)), .val (.ref b342), .val (.int vg348), .val (.int zj350), .val (.ref b351), .unset, .unset] [(.int zj363)])) := by
        intro TJ362 XJ362 EJ362 zj363 hzj363
        refine own_via (fun t k => XS.istore XJ362.here hx rfl (hb hby at_99) rfl (l' := #[.val (.int p0), .val (.int p1), .val (.int p2), .val (.int p3), .val (.int p4), .val (.int (7 : Int32)), .val (.ref b342), .val (.int vg348), .val (.int zj350), .val (.ref b351), .val (.int zj363), .unset]) rfl k) ?_
        show own_G p e below _ (TJ362.setTop (mkF m 101 #[.val (.int p0), .val (.int p1), .val (.int p2), .val (.int p3), .val (.int p4), .val (.int (7 : Int32)), .val (.ref b342), .val (.int vg348), .val (.int zj350), .val (.ref b351), .val (.int zj363), .unset] []))
        obtain ⟨T364, h364, b364, X364, e364, E364, ga364, A364, D364, st364⟩ := own_newO XJ362 hx hZ hown (hw _ (List.mem_of_getElem? (i := 1) rfl)) (hw _ (List.mem_of_getElem? (i := 2) rfl)) (hw _ (List.mem_of_getElem? (i := 3) rfl)) EJ362 (pc := 101) (Ls := #[.val (.int p0), .val (.int p1), .val (.int p2), .val (.int p3), .val (.int p4), .val (.int (7 : Int32)), .val (.ref b342), .val (.int vg348), .val (.int zj350), .val (.ref b351), .val (.int zj363), .unset]) (rest := []) (hb hby at_101) (by decide) (by decide)
        refine own_via st364 ?_
        have ne365 : b342 ≠ b364 := Nat.ne_of_lt (Nat.lt_of_lt_of_le f359.lt (Nat.le_of_eq ga364.symm))
        have ne366 : b351 ≠ b364 := Nat.ne_of_lt (Nat.lt_of_lt_of_le o358_0.lt (Nat.le_of_eq ga364.symm))
        have f367 : Arv Z h364 b342 k342 .int (7 : Int32) [(.int p4), (.int (0 : Int32)), (.int (0 : Int32)), (.int (0 : Int32)), (.int (0 : Int32)), (.int (0 : Int32)), (.int (0 : Int32))] (.int (0 : Int32)) := f359.ext E364
        have f368 : Exa Z h364 b351 "com/example/dissoc/dissoc/ranking/Found" := o358_0.ext E364
        have f369 : Fld Z h364 b351 "com/example/dissoc/dissoc/ranking/Found" "tuple" "I" (.int p0) := o358_1.ext E364
        have f370 : Fld Z h364 b351 "com/example/dissoc/dissoc/ranking/Found" "contingency" "[I" (.ref b342) := o358_2.ext E364
        have f371 : Fld Z h364 b351 "com/example/dissoc/dissoc/ranking/Found" "lowerBound" "I" (.int zj350) := o358_3.ext E364
        have f372 : Fld Z h364 b364 "com/example/dissoc/dissoc/ranking/Found" "tuple" "I" (.int (0 : Int32)) := D364 (Or.inr (hw _ (List.mem_of_getElem? (i := 16) rfl))) (ty := .int) (by decide)
        have f373 : Fld Z h364 b364 "com/example/dissoc/dissoc/ranking/Found" "contingency" "[I" .null := D364 (Or.inr (hw _ (List.mem_of_getElem? (i := 18) rfl))) (ty := (.array .int)) (by decide)
        have f374 : Fld Z h364 b364 "com/example/dissoc/dissoc/ranking/Found" "lowerBound" "I" (.int (0 : Int32)) := D364 (Or.inr (hw _ (List.mem_of_getElem? (i := 20) rfl))) (ty := .int) (by decide)
        have g_b364 : n0 ≤ b364 := Nat.le_trans Zs361 (Nat.le_of_eq ga364.symm)
        have Zs375 : n0 ≤ h364.size := Nat.le_trans Zs361 E364.1
        show own_G p e below _ (T364.setTop (mkF m 104 #[.val (.int p0), .val (.int p1), .val (.int p2), .val (.int p3), .val (.int p4), .val (.int (7 : Int32)), .val (.ref b342), .val (.int vg348), .val (.int zj350), .val (.ref b351), .val (.int zj363), .unset] [(.ref b364)]))
        refine own_via (fun t k => XS.dup X364.here hx rfl (hb hby at_104) rfl rfl k) ?_
        show own_G p e below _ (T364.setTop (mkF m 105 #[.val (.int p0), .val (.int p1), .val (.int p2), .val (.int p3), .val (.int p4), .val (.int (7 : Int32)), .val (.ref b342), .val (.int vg348), .val (.int zj350), .val (.ref b351), .val (.int zj363), .unset] [(.ref b364), (.ref b364)]))
        refine own_via (fun t k => XS.iloadN X364.here hx rfl (hb hby at_105) rfl k) ?_
        show own_G p e below _ (T364.setTop (mkF m 106 #[.val (.int p0), .val (.int p1), .val (.int p2), .val (.int p3), .val (.int p4), .val (.int (7 : Int32)), .val (.ref b342), .val (.int vg348), .val (.int zj350), .val (.ref b351), .val (.int zj363), .unset] [(.int p0), (.ref b364), (.ref b364)]))
        refine own_via (fun t k => XS.aload X364.here hx rfl (hb hby at_106) rfl rfl k) ?_
        show own_G p e below _ (T364.setTop (mkF m 108 #[.val (.int p0), .val (.int p1), .val (.int p2), .val (.int p3), .val (.int p4), .val (.int (7 : Int32)), .val (.ref b342), .val (.int vg348), .val (.int zj350), .val (.ref b351), .val (.int zj363), .unset] [(.ref b342), (.int p0), (.ref b364), (.ref b364)]))
        obtain ⟨v376, T376, h376, L376, X376, N376, e376, hq376, st376⟩ := own_callI (y := (⟨"com/example/dissoc/dissoc/ranking/Found", "<init>", "(I[I)V"⟩ : MethodName)) (W := 1) (a := b364) X364 N358 hx hZ rfl hown (hw _ (List.mem_of_getElem? (i := 21) rfl)) (hw _ (List.mem_of_getElem? (i := 22) rfl)) (hw _ (List.mem_of_getElem? (i := 3) rfl)) (hw _ (List.mem_of_getElem? (i := 23) rfl)) (by decide) (own_c2 l Z a0 hw [] b364 p0 b342 (.int (0 : Int32)) (.null) (.int (0 : Int32)) k342 (7 : Int32) [(.int p4), (.int (0 : Int32)), (.int (0 : Int32)), (.int (0 : Int32)), (.int (0 : Int32)), (.int (0 : Int32)), (.int (0 : Int32))] (.int (0 : Int32)) h364 n0 Zs375 A364 f372 f373 f374 f367 g_b364) (by decide) (by decide) (by decide) (by decide) e364 (pc := 108) (Ls := #[.val (.int p0), .val (.int p1), .val (.int p2), .val (.int p3), .val (.int p4), .val (.int (7 : Int32)), .val (.ref b342), .val (.int vg348), .val (.int zj350), .val (.ref b351), .val (.int zj363), .unset]) (st := [(.ref b342), (.int p0), (.ref b364), (.ref b364)]) (argsL := [(.int p0), (.ref b342)]) (rest := [(.ref b364)]) (by rw [hml]; rfl) (lenOf own_pd2 rfl) rfl rfl (Nat.le_of_eq rfl) (hb hby at_108)
        obtain ⟨rfl, K376, o376_0, o376_1, o376_2, o376_3⟩ := hq376
        refine own_via st376 ?_
        have f377 : Arv Z h376 b342 k342 .int (7 : Int32) [(.int p4), (.int (0 : Int32)), (.int (0 : Int32)), (.int (0 : Int32)), (.int (0 : Int32)), (.int (0 : Int32)), (.int (0 : Int32))] (.int (0 : Int32)) := f367.keep K376 (by simp only [List.mem_cons, List.not_mem_nil, or_false, not_or]; exact ne365)
        have f378 : Exa Z h376 b351 "com/example/dissoc/dissoc/ranking/Found" := f368.keep K376
        have f379 : Fld Z h376 b351 "com/example/dissoc/dissoc/ranking/Found" "tuple" "I" (.int p0) := f369.keep K376 (by simp only [List.mem_cons, List.not_mem_nil, or_false, not_or]; exact ne366)
        have f380 : Fld Z h376 b351 "com/example/dissoc/dissoc/ranking/Found" "contingency" "[I" (.ref b342) := f370.keep K376 (by simp only [List.mem_cons, List.not_mem_nil, or_false, not_or]; exact ne366)
        have f381 : Fld Z h376 b351 "com/example/dissoc/dissoc/ranking/Found" "lowerBound" "I" (.int zj350) := f371.keep K376 (by simp only [List.mem_cons, List.not_mem_nil, or_false, not_or]; exact ne366)
        have f382 : Exa Z h376 b364 "com/example/dissoc/dissoc/ranking/Found" := A364.keep K376
        have Zs383 : n0 ≤ h376.size := Nat.le_trans Zs375 K376.1
        show own_G p e below _ (T376.setTop (mkF m 111 #[.val (.int p0), .val (.int p1), .val (.int p2), .val (.int p3), .val (.int p4), .val (.int (7 : Int32)), .val (.ref b342), .val (.int vg348), .val (.int zj350), .val (.ref b351), .val (.int zj363), .unset] [(.ref b364)]))
        refine own_via (fun t k => XS.astore X376.here hx rfl (hb hby at_111) rfl rfl (l' := #[.val (.int p0), .val (.int p1), .val (.int p2), .val (.int p3), .val (.int p4), .val (.int (7 : Int32)), .val (.ref b342), .val (.int vg348), .val (.int zj350), .val (.ref b351), .val (.int zj363), .val (.ref b364)]) rfl k) ?_
        show own_G p e below _ (T376.setTop (mkF m 113 #[.val (.int p0), .val (.int p1), .val (.int p2), .val (.int p3), .val (.int p4), .val (.int (7 : Int32)), .val (.ref b342), .val (.int vg348), .val (.int zj350), .val (.ref b351), .val (.int zj363), .val (.ref b364)] []))
        refine own_via (fun t k => XS.aload X376.here hx rfl (hb hby at_113) rfl rfl k) ?_
        show own_G p e below _ (T376.setTop (mkF m 115 #[.val (.int p0), .val (.int p1), .val (.int p2), .val (.int p3), .val (.int p4), .val (.int (7 : Int32)), .val (.ref b342), .val (.int vg348), .val (.int zj350), .val (.ref b351), .val (.int zj363), .val (.ref b364)] [(.ref b351)]))
        obtain ⟨T384, X384, e384, st384⟩ := own_callVP (y := (⟨"com/example/dissoc/dissoc/ranking/Found", "exact", "()Z"⟩ : MethodName)) (z := (⟨"com/example/dissoc/dissoc/ranking/Found", "exact", "()Z"⟩ : MethodName)) (W := 0) (a := b351) X376 hx hZ hown (hw _ (List.mem_of_getElem? (i := 25) rfl)) (hw _ (List.mem_of_getElem? (i := 26) rfl)) (notFace_of_selects (args := #[]) (mvT hZ (hw _ (List.mem_of_getElem? (i := 28) rfl)))) (hw _ (List.mem_of_getElem? (i := 28) rfl)) (hw _ (List.mem_of_getElem? (i := 27) rfl)) (hw _ (List.mem_of_getElem? (i := 3) rfl)) (hw _ (List.mem_of_getElem? (i := 29) rfl)) (by decide) (own_ex l Z a0 hw [] b351 b342 zj350 k342 (7 : Int32) [(.int p4), (.int (0 : Int32)), (.int (0 : Int32)), (.int (0 : Int32)), (.int (0 : Int32)), (.int (0 : Int32)), (.int (0 : Int32))] (.int (0 : Int32)) h376 f380 f381 f377) (by decide) (by decide) rfl rfl (by decide) (by decide) e376 f378 (pc := 115) (Ls := #[.val (.int p0), .val (.int p1), .val (.int p2), .val (.int p3), .val (.int p4), .val (.int (7 : Int32)), .val (.ref b342), .val (.int vg348), .val (.int zj350), .val (.ref b351), .val (.int zj363), .val (.ref b364)]) (st := [(.ref b351)]) (argsL := []) (rest := []) (by rw [hml]; rfl) (lenOf own_pd3 rfl) rfl rfl (Nat.le_of_eq rfl) (hb hby at_115)
        refine own_via st384 ?_
        show own_G p e below _ (T384.setTop (mkF m 118 #[.val (.int p0), .val (.int p1), .val (.int p2), .val (.int p3), .val (.int p4), .val (.int (7 : Int32)), .val (.ref b342), .val (.int vg348), .val (.int zj350), .val (.ref b351), .val (.int zj363), .val (.ref b364)] [(.int (own_Fex zj350 (7 : Int32)))]))
        refine own_via (fun t k => XS.iload X384.here hx rfl (hb hby at_118) rfl k) ?_
        show own_G p e below _ (T384.setTop (mkF m 120 #[.val (.int p0), .val (.int p1), .val (.int p2), .val (.int p3), .val (.int p4), .val (.int (7 : Int32)), .val (.ref b342), .val (.int vg348), .val (.int zj350), .val (.ref b351), .val (.int zj363), .val (.ref b364)] [(.int zj363), (.int (own_Fex zj350 (7 : Int32)))]))
        refine own_via (fun t k => XS.icmpNo X384.here hx rfl (hb hby at_120) rfl (teq (by subst hzj363; subst hzj350; subst hvg348; rfl)).2 k) ?_
        show own_G p e below _ (T384.setTop (mkF m 123 #[.val (.int p0), .val (.int p1), .val (.int p2), .val (.int p3), .val (.int p4), .val (.int (7 : Int32)), .val (.ref b342), .val (.int vg348), .val (.int zj350), .val (.ref b351), .val (.int zj363), .val (.ref b364)] []))
        refine own_via (fun t k => XS.aload X384.here hx rfl (hb hby at_123) rfl rfl k) ?_
        show own_G p e below _ (T384.setTop (mkF m 125 #[.val (.int p0), .val (.int p1), .val (.int p2), .val (.int p3), .val (.int p4), .val (.int (7 : Int32)), .val (.ref b342), .val (.int vg348), .val (.int zj350), .val (.ref b351), .val (.int zj363), .val (.ref b364)] [(.ref b364)]))
        obtain ⟨T385, X385, e385, st385⟩ := own_callVP (y := (⟨"com/example/dissoc/dissoc/ranking/Found", "exact", "()Z"⟩ : MethodName)) (z := (⟨"com/example/dissoc/dissoc/ranking/Found", "exact", "()Z"⟩ : MethodName)) (W := 0) (a := b364) X384 hx hZ hown (hw _ (List.mem_of_getElem? (i := 25) rfl)) (hw _ (List.mem_of_getElem? (i := 26) rfl)) (notFace_of_selects (args := #[]) (mvT hZ (hw _ (List.mem_of_getElem? (i := 28) rfl)))) (hw _ (List.mem_of_getElem? (i := 28) rfl)) (hw _ (List.mem_of_getElem? (i := 27) rfl)) (hw _ (List.mem_of_getElem? (i := 3) rfl)) (hw _ (List.mem_of_getElem? (i := 29) rfl)) (by decide) (own_ex l Z a0 hw [] b364 b342 (7 : Int32) k342 (7 : Int32) [(.int p4), (.int (0 : Int32)), (.int (0 : Int32)), (.int (0 : Int32)), (.int (0 : Int32)), (.int (0 : Int32)), (.int (0 : Int32))] (.int (0 : Int32)) h376 o376_2 o376_3 f377) (by decide) (by decide) rfl rfl (by decide) (by decide) e384 o376_0 (pc := 125) (Ls := #[.val (.int p0), .val (.int p1), .val (.int p2), .val (.int p3), .val (.int p4), .val (.int (7 : Int32)), .val (.ref b342), .val (.int vg348), .val (.int zj350), .val (.ref b351), .val (.int zj363), .val (.ref b364)]) (st := [(.ref b364)]) (argsL := []) (rest := []) (by rw [hml]; rfl) (lenOf own_pd3 rfl) rfl rfl (Nat.le_of_eq rfl) (hb hby at_125)
        refine own_via st385 ?_
        show own_G p e below _ (T385.setTop (mkF m 128 #[.val (.int p0), .val (.int p1), .val (.int p2), .val (.int p3), .val (.int p4), .val (.int (7 : Int32)), .val (.ref b342), .val (.int vg348), .val (.int zj350), .val (.ref b351), .val (.int zj363), .val (.ref b364)] [(.int (own_Fex (7 : Int32) (7 : Int32)))]))
        refine own_via (fun t k => XS.ifNo X385.here hx rfl (hb hby at_128) rfl ((if0 _ _).trans (feq (by decide)).1) k) ?_
        show own_G p e below _ (T385.setTop (mkF m 131 #[.val (.int p0), .val (.int p1), .val (.int p2), .val (.int p3), .val (.int p4), .val (.int (7 : Int32)), .val (.ref b342), .val (.int vg348), .val (.int zj350), .val (.ref b351), .val (.int zj363), .val (.ref b364)] []))
        refine own_via (fun t k => XS.iconst X385.here hx rfl (hb hby at_131) k) ?_
        show own_G p e below _ (T385.setTop (mkF m 132 #[.val (.int p0), .val (.int p1), .val (.int p2), .val (.int p3), .val (.int p4), .val (.int (7 : Int32)), .val (.ref b342), .val (.int vg348), .val (.int zj350), .val (.ref b351), .val (.int zj363), .val (.ref b364)] [(.int (1 : Int32))]))
        refine own_via (fun t k => XS.goto X385.here hx rfl (pc0 := 132) (pc' := 136) rfl (hb hby at_132) (by decide) (by decide) k) ?_
        show own_G p e below _ (T385.setTop (mkF m 136 #[.val (.int p0), .val (.int p1), .val (.int p2), .val (.int p3), .val (.int p4), .val (.int (7 : Int32)), .val (.ref b342), .val (.int vg348), .val (.int zj350), .val (.ref b351), .val (.int zj363), .val (.ref b364)] [(.int (1 : Int32))]))
        exact own_retN (t := .boolean) X385 hx Bd.returns (by simp) Bd.notSynchronized (hb hby at_136) ⟨N376, rfl⟩ (by decide) (by decide)
      by_cases hc386 : zj350 = (7 : Int32)
      ·
        refine own_via (fun t k => XS.icmpNo X358.here hx rfl (hb hby at_91) rfl (teq hc386).2 k) ?_
        show own_G p e below _ (T358.setTop (mkF m 94 #[.val (.int p0), .val (.int p1), .val (.int p2), .val (.int p3), .val (.int p4), .val (.int (7 : Int32)), .val (.ref b342), .val (.int vg348), .val (.int zj350), .val (.ref b351), .unset, .unset] []))
        refine own_via (fun t k => XS.iconst X358.here hx rfl (hb hby at_94) k) ?_
        show own_G p e below _ (T358.setTop (mkF m 95 #[.val (.int p0), .val (.int p1), .val (.int p2), .val (.int p3), .val (.int p4), .val (.int (7 : Int32)), .val (.ref b342), .val (.int vg348), .val (.int zj350), .val (.ref b351), .unset, .unset] [(.int (1 : Int32))]))
        refine own_via (fun t k => XS.goto X358.here hx rfl (pc0 := 95) (pc' := 99) rfl (hb hby at_95) (by decide) (by decide) k) ?_
        show own_G p e below _ (T358.setTop (mkF m 99 #[.val (.int p0), .val (.int p1), .val (.int p2), .val (.int p3), .val (.int p4), .val (.int (7 : Int32)), .val (.ref b342), .val (.int vg348), .val (.int zj350), .val (.ref b351), .unset, .unset] [(.int (1 : Int32))]))
        exact J362 _ X358 e358 _ (by simp only [if_pos hc386])
      ·
        refine own_via (fun t k => XS.icmpYes X358.here hx rfl (pc0 := 91) (pc' := 98) rfl (hb hby at_91) rfl (feq hc386).2 (by decide) (by decide) k) ?_
        show own_G p e below _ (T358.setTop (mkF m 98 #[.val (.int p0), .val (.int p1), .val (.int p2), .val (.int p3), .val (.int p4), .val (.int (7 : Int32)), .val (.ref b342), .val (.int vg348), .val (.int zj350), .val (.ref b351), .unset, .unset] []))
        refine own_via (fun t k => XS.iconst X358.here hx rfl (hb hby at_98) k) ?_
        show own_G p e below _ (T358.setTop (mkF m 99 #[.val (.int p0), .val (.int p1), .val (.int p2), .val (.int p3), .val (.int p4), .val (.int (7 : Int32)), .val (.ref b342), .val (.int vg348), .val (.int zj350), .val (.ref b351), .unset, .unset] [(.int (0 : Int32))]))
        exact J362 _ X358 e358 _ (by simp only [if_neg hc386])
    by_cases hc387 : vg348 = (0 : Int32)
    ·
      refine own_via (fun t k => XS.ifNo X345.here hx rfl (hb hby at_30) rfl ((if0 _ _).trans (teq hc387).2) k) ?_
      show own_G p e below _ (T345.setTop (mkF m 33 #[.val (.int p0), .val (.int p1), .val (.int p2), .val (.int p3), .val (.int p4), .val (.int (7 : Int32)), .val (.ref b342), .val (.int vg348), .unset, .unset, .unset, .unset] []))
      refine own_via (fun t k => XS.iload X345.here hx rfl (hb hby at_33) rfl k) ?_
      show own_G p e below _ (T345.setTop (mkF m 35 #[.val (.int p0), .val (.int p1), .val (.int p2), .val (.int p3), .val (.int p4), .val (.int (7 : Int32)), .val (.ref b342), .val (.int vg348), .unset, .unset, .unset, .unset] [(.int (7 : Int32))]))
      refine own_via (fun t k => XS.istore X345.here hx rfl (hb hby at_35) rfl (l' := #[.val (.int p0), .val (.int p1), .val (.int p2), .val (.int p3), .val (.int p4), .val (.int (7 : Int32)), .val (.ref b342), .val (.int vg348), .val (.int (7 : Int32)), .unset, .unset, .unset]) rfl k) ?_
      show own_G p e below _ (T345.setTop (mkF m 37 #[.val (.int p0), .val (.int p1), .val (.int p2), .val (.int p3), .val (.int p4), .val (.int (7 : Int32)), .val (.ref b342), .val (.int vg348), .val (.int (7 : Int32)), .unset, .unset, .unset] []))
      refine own_via (fun t k => XS.goto X345.here hx rfl (pc0 := 37) (pc' := 73) rfl (hb hby at_37) (by decide) (by decide) k) ?_
      show own_G p e below _ (T345.setTop (mkF m 73 #[.val (.int p0), .val (.int p1), .val (.int p2), .val (.int p3), .val (.int p4), .val (.int (7 : Int32)), .val (.ref b342), .val (.int vg348), .val (.int (7 : Int32)), .unset, .unset, .unset] []))
      exact J349 _ X345 e345 _ (by simp only [if_pos hc387])
    ·
      refine own_via (fun t k => XS.ifYes X345.here hx rfl (pc0 := 30) (pc' := 40) rfl (hb hby at_30) rfl ((if0 _ _).trans (feq hc387).2) (by decide) (by decide) k) ?_
      show own_G p e below _ (T345.setTop (mkF m 40 #[.val (.int p0), .val (.int p1), .val (.int p2), .val (.int p3), .val (.int p4), .val (.int (7 : Int32)), .val (.ref b342), .val (.int vg348), .unset, .unset, .unset, .unset] []))
      refine own_via (fun t k => XS.iload X345.here hx rfl (hb hby at_40) rfl k) ?_
      show own_G p e below _ (T345.setTop (mkF m 42 #[.val (.int p0), .val (.int p1), .val (.int p2), .val (.int p3), .val (.int p4), .val (.int (7 : Int32)), .val (.ref b342), .val (.int vg348), .unset, .unset, .unset, .unset] [(.int vg348)]))
      refine own_via (fun t k => XS.iconst X345.here hx rfl (hb hby at_42) k) ?_
      show own_G p e below _ (T345.setTop (mkF m 43 #[.val (.int p0), .val (.int p1), .val (.int p2), .val (.int p3), .val (.int p4), .val (.int (7 : Int32)), .val (.ref b342), .val (.int vg348), .unset, .unset, .unset, .unset] [(.int (1 : Int32)), (.int vg348)]))
      by_cases hc388 : vg348 = (1 : Int32)
      ·
        refine own_via (fun t k => XS.icmpNo X345.here hx rfl (hb hby at_43) rfl (teq hc388).2 k) ?_
        show own_G p e below _ (T345.setTop (mkF m 46 #[.val (.int p0), .val (.int p1), .val (.int p2), .val (.int p3), .val (.int p4), .val (.int (7 : Int32)), .val (.ref b342), .val (.int vg348), .unset, .unset, .unset, .unset] []))
        refine own_via (fun t k => XS.iload X345.here hx rfl (hb hby at_46) rfl k) ?_
        show own_G p e below _ (T345.setTop (mkF m 48 #[.val (.int p0), .val (.int p1), .val (.int p2), .val (.int p3), .val (.int p4), .val (.int (7 : Int32)), .val (.ref b342), .val (.int vg348), .unset, .unset, .unset, .unset] [(.int (7 : Int32))]))
        refine own_via (fun t k => XS.iconst X345.here hx rfl (hb hby at_48) k) ?_
        show own_G p e below _ (T345.setTop (mkF m 49 #[.val (.int p0), .val (.int p1), .val (.int p2), .val (.int p3), .val (.int p4), .val (.int (7 : Int32)), .val (.ref b342), .val (.int vg348), .unset, .unset, .unset, .unset] [(.int (1 : Int32)), (.int (7 : Int32))]))
        refine own_via (fun t k => XS.isub X345.here hx rfl (hb hby at_49) rfl k) ?_
        show own_G p e below _ (T345.setTop (mkF m 50 #[.val (.int p0), .val (.int p1), .val (.int p2), .val (.int p3), .val (.int p4), .val (.int (7 : Int32)), .val (.ref b342), .val (.int vg348), .unset, .unset, .unset, .unset] [(.int (6 : Int32))]))
        refine own_via (fun t k => XS.istore X345.here hx rfl (hb hby at_50) rfl (l' := #[.val (.int p0), .val (.int p1), .val (.int p2), .val (.int p3), .val (.int p4), .val (.int (7 : Int32)), .val (.ref b342), .val (.int vg348), .val (.int (6 : Int32)), .unset, .unset, .unset]) rfl k) ?_
        show own_G p e below _ (T345.setTop (mkF m 52 #[.val (.int p0), .val (.int p1), .val (.int p2), .val (.int p3), .val (.int p4), .val (.int (7 : Int32)), .val (.ref b342), .val (.int vg348), .val (.int (6 : Int32)), .unset, .unset, .unset] []))
        refine own_via (fun t k => XS.goto X345.here hx rfl (pc0 := 52) (pc' := 73) rfl (hb hby at_52) (by decide) (by decide) k) ?_
        show own_G p e below _ (T345.setTop (mkF m 73 #[.val (.int p0), .val (.int p1), .val (.int p2), .val (.int p3), .val (.int p4), .val (.int (7 : Int32)), .val (.ref b342), .val (.int vg348), .val (.int (6 : Int32)), .unset, .unset, .unset] []))
        exact J349 _ X345 e345 _ (by simp only [if_neg hc387, if_pos hc388])
      ·
        refine own_via (fun t k => XS.icmpYes X345.here hx rfl (pc0 := 43) (pc' := 55) rfl (hb hby at_43) rfl (feq hc388).2 (by decide) (by decide) k) ?_
        show own_G p e below _ (T345.setTop (mkF m 55 #[.val (.int p0), .val (.int p1), .val (.int p2), .val (.int p3), .val (.int p4), .val (.int (7 : Int32)), .val (.ref b342), .val (.int vg348), .unset, .unset, .unset, .unset] []))
        refine own_via (fun t k => XS.iload X345.here hx rfl (hb hby at_55) rfl k) ?_
        show own_G p e below _ (T345.setTop (mkF m 57 #[.val (.int p0), .val (.int p1), .val (.int p2), .val (.int p3), .val (.int p4), .val (.int (7 : Int32)), .val (.ref b342), .val (.int vg348), .unset, .unset, .unset, .unset] [(.int vg348)]))
        refine own_via (fun t k => XS.iconst X345.here hx rfl (hb hby at_57) k) ?_
        show own_G p e below _ (T345.setTop (mkF m 58 #[.val (.int p0), .val (.int p1), .val (.int p2), .val (.int p3), .val (.int p4), .val (.int (7 : Int32)), .val (.ref b342), .val (.int vg348), .unset, .unset, .unset, .unset] [(.int (2 : Int32)), (.int vg348)]))
        by_cases hc389 : vg348 = (2 : Int32)
        ·
          refine own_via (fun t k => XS.icmpNo X345.here hx rfl (hb hby at_58) rfl (teq hc389).2 k) ?_
          show own_G p e below _ (T345.setTop (mkF m 61 #[.val (.int p0), .val (.int p1), .val (.int p2), .val (.int p3), .val (.int p4), .val (.int (7 : Int32)), .val (.ref b342), .val (.int vg348), .unset, .unset, .unset, .unset] []))
          refine own_via (fun t k => XS.iload X345.here hx rfl (hb hby at_61) rfl k) ?_
          show own_G p e below _ (T345.setTop (mkF m 63 #[.val (.int p0), .val (.int p1), .val (.int p2), .val (.int p3), .val (.int p4), .val (.int (7 : Int32)), .val (.ref b342), .val (.int vg348), .unset, .unset, .unset, .unset] [(.int (7 : Int32))]))
          refine own_via (fun t k => XS.iconst X345.here hx rfl (hb hby at_63) k) ?_
          show own_G p e below _ (T345.setTop (mkF m 64 #[.val (.int p0), .val (.int p1), .val (.int p2), .val (.int p3), .val (.int p4), .val (.int (7 : Int32)), .val (.ref b342), .val (.int vg348), .unset, .unset, .unset, .unset] [(.int (1 : Int32)), (.int (7 : Int32))]))
          refine own_via (fun t k => XS.iadd X345.here hx rfl (hb hby at_64) rfl k) ?_
          show own_G p e below _ (T345.setTop (mkF m 65 #[.val (.int p0), .val (.int p1), .val (.int p2), .val (.int p3), .val (.int p4), .val (.int (7 : Int32)), .val (.ref b342), .val (.int vg348), .unset, .unset, .unset, .unset] [(.int (8 : Int32))]))
          refine own_via (fun t k => XS.istore X345.here hx rfl (hb hby at_65) rfl (l' := #[.val (.int p0), .val (.int p1), .val (.int p2), .val (.int p3), .val (.int p4), .val (.int (7 : Int32)), .val (.ref b342), .val (.int vg348), .val (.int (8 : Int32)), .unset, .unset, .unset]) rfl k) ?_
          show own_G p e below _ (T345.setTop (mkF m 67 #[.val (.int p0), .val (.int p1), .val (.int p2), .val (.int p3), .val (.int p4), .val (.int (7 : Int32)), .val (.ref b342), .val (.int vg348), .val (.int (8 : Int32)), .unset, .unset, .unset] []))
          refine own_via (fun t k => XS.goto X345.here hx rfl (pc0 := 67) (pc' := 73) rfl (hb hby at_67) (by decide) (by decide) k) ?_
          show own_G p e below _ (T345.setTop (mkF m 73 #[.val (.int p0), .val (.int p1), .val (.int p2), .val (.int p3), .val (.int p4), .val (.int (7 : Int32)), .val (.ref b342), .val (.int vg348), .val (.int (8 : Int32)), .unset, .unset, .unset] []))
          exact J349 _ X345 e345 _ (by simp only [if_neg hc387, if_neg hc388, if_pos hc389])
        ·
          refine own_via (fun t k => XS.icmpYes X345.here hx rfl (pc0 := 58) (pc' := 70) rfl (hb hby at_58) rfl (feq hc389).2 (by decide) (by decide) k) ?_
          show own_G p e below _ (T345.setTop (mkF m 70 #[.val (.int p0), .val (.int p1), .val (.int p2), .val (.int p3), .val (.int p4), .val (.int (7 : Int32)), .val (.ref b342), .val (.int vg348), .unset, .unset, .unset, .unset] []))
          refine own_via (fun t k => XS.iloadN X345.here hx rfl (hb hby at_70) rfl k) ?_
          show own_G p e below _ (T345.setTop (mkF m 71 #[.val (.int p0), .val (.int p1), .val (.int p2), .val (.int p3), .val (.int p4), .val (.int (7 : Int32)), .val (.ref b342), .val (.int vg348), .unset, .unset, .unset, .unset] [(.int p2)]))
          refine own_via (fun t k => XS.istore X345.here hx rfl (hb hby at_71) rfl (l' := #[.val (.int p0), .val (.int p1), .val (.int p2), .val (.int p3), .val (.int p4), .val (.int (7 : Int32)), .val (.ref b342), .val (.int vg348), .val (.int p2), .unset, .unset, .unset]) rfl k) ?_
          show own_G p e below _ (T345.setTop (mkF m 73 #[.val (.int p0), .val (.int p1), .val (.int p2), .val (.int p3), .val (.int p4), .val (.int (7 : Int32)), .val (.ref b342), .val (.int vg348), .val (.int p2), .unset, .unset, .unset] []))
          exact J349 _ X345 e345 _ (by simp only [if_neg hc387, if_neg hc388, if_neg hc389])
set_option maxRecDepth 65536 in
set_option maxHeartbeats 40000000 in
theorem comes_1 {Post : Tables → Env → Array Value → State → Outcome → State → Prop} (hpost : ∀ tb e args s v u, (limb_1_1.after args s (.returned v) u = true ∧ limb_1_2.after args s (.returned v) u = true) → FrameEnd s (.returned v) u (Jvm.fieldLocs frame_1_writes args s ++ Jvm.arrayLocs frame_1_arrays args s ++ Jvm.staticLocs frame_1_statics s) 16 128 → Post tb e args s (.returned v) u) :
    ArmFor flags0 classFile x code maxLocals ret World_1 tables_1 room_1 Calls_1 rest_1 Pre_1 Post := by
  intro l hfl _ _ p e ha hc hk s m args below hf hA hF happ hP
  obtain ⟨hcalls, hrest, hpre⟩ := hP
  obtain ⟨-, -, -, hnamed, -, -, -, hat⟩ := (Spec.applies_iff hf).mp happ
  obtain ⟨hg, hn⟩ := and_e (Cond.before_iff.mp (show (Jvm.Cond.and given_1 narrow_1).before args s = true from hpre))
  obtain ⟨g1, g2⟩ := and_e hg
  obtain ⟨g3, g4⟩ := and_e g2
  obtain ⟨g5, g6⟩ := and_e g4
  obtain ⟨g7, g8⟩ := and_e g6
  obtain ⟨g9, g10⟩ := and_e g8
  obtain ⟨w0, w1, w2, w3, w4, rfl⟩ : ∃ w0 w1 w2 w3 w4 : Value, args = #[w0, w1, w2, w3, w4] := by
    have hs : args.size = 5 := by simpa [Cond.value, given_1] using g1
    obtain ⟨L⟩ := args
    match L, hs with
    | [w0, w1, w2, w3, w4], _ => exact ⟨w0, w1, w2, w3, w4, rfl⟩
  have hw := fun d (hd : d ∈ tables_1) => atoms_spec (ws := Jvm.Cond.code x code maxLocals ret :: tables_1) hat d (List.mem_cons_of_mem _ hd)
  obtain ⟨i0, ei0⟩ := is_v g3
  obtain rfl : w0 = (.int i0) := Option.some.inj ei0
  obtain ⟨i1, ei1⟩ := is_v g5
  obtain rfl : w1 = (.int i1) := Option.some.inj ei1
  obtain ⟨i2, ei2⟩ := is_v g7
  obtain rfl : w2 = (.int i2) := Option.some.inj ei2
  obtain ⟨i3, ei3⟩ := is_v g9
  obtain rfl : w3 = (.int i3) := Option.some.inj ei3
  obtain ⟨i4, ei4⟩ := is_v g10
  obtain rfl : w4 = (.int i4) := Option.some.inj ei4
  obtain ⟨n, o, h1, h2, h3, _, L, rfl, ⟨N, rfl⟩, hq⟩ := own_rm0 l s _ hw tables_1 i0 i1 i2 i3 i4 s.heap s.heap.size (Nat.le_refl _)  p e ha hc hk s m _ below hf ((Spec.applies_iff_loose hf).mp happ).1 ⟨rfl, State.Warmed39.refl s, rfl⟩ trivial
  refine ⟨n, _, h1, h2, h3, hpost _ _ _ _ _ _ ⟨Cond.after_iff.mpr rfl, Cond.after_iff.mpr (eq_i res_at (Term.int_eval (1)) rfl)⟩ ⟨hq.1, hq.2.1, (hq.2.2.sift fun y hy => Or.inr (N y hy)).mono (by decide) (by decide)⟩⟩
theorem main_1_1 : Claimed_1_1 := comes_1 fun _ _ _ _ _ _ h hF => ⟨h.1, hF⟩
theorem main_1_2 : Claimed_1_2 := comes_1 fun _ _ _ _ _ _ h hF => ⟨h.2, hF⟩
end Jvm.Pilot.@@N@@
namespace Jvm.Pilot.@@N@@
open Jvm Jvm.ClassFile Sem Op Lib Jvm.Free Jvm.Stand Jvm.Pilot.@@N@@.Jvm.D
/-! MADE BY PROGRAM (witnessworld.py) out of the Statement's table words and the real class files: 10 classes; the members and pool entries that the words name. The judged class is class 1, her method 1. -/
namespace start1
open Jvm.ClassFile
def u (s : String) : CpInfo := .utf8 (stringToUtf16 s)
/-- a pool by its gaps: so many unusable entries, then the entry; so many at the end -/
def gap : Nat → List CpInfo → List CpInfo
  | 0, r => r
  | n + 1, r => .unusable :: gap n r
def poolList (es : List (Nat × CpInfo)) (last : Nat) : List CpInfo := es.foldr (fun e r => gap e.1 (e.2 :: r)) (gap last [])
def pool (es : List (Nat × CpInfo)) (last : Nat) : Array CpInfo := ⟨poolList es last⟩
def fileOf (pool : Array CpInfo) (this : Nat) (attrs : Array Attribute := #[]) (ms : Array MethodInfo := #[]) (fl : Nat := 33) (sup : Nat := 0) (ifs : Array Nat := #[]) (fds : Array FieldInfo := #[]) : ClassFile where
  minorVersion := 0
  majorVersion := 65
  constantPool := pool
  accessFlags := fl
  thisClass := this
  superClass := sup
  interfaces := ifs
  fields := fds
  methods := ms
  attributes := attrs
def plain (name : String) (sup : Option ClassId) : Class where
  name := name
  kind := .ordinary
  loader := none
  accessFlags := 33
  super := sup
  interfaces := #[]
  cf := none
  fields := #[]
  methods := #[]
  instanceTypes := #[]
  staticTypes := #[]
  resolved := #[]
  callSites := []
  init := .initialized
  statics := none
  mirror := none

def pool0 : Array CpInfo := pool [(5, u "<init>"), (0, u "()V"), (1, .class_ 10), (1, u "java/lang/Object")] 113

def k0c0 : Code := { maxStack := 0, maxLocals := 1, code := object_method_1_code, exceptionTable := #[], attributes := #[] }
def k0m0 : Method := { name := "<init>", desc := "()V", sig := { parameters := [], returnType := none }, accessFlags := 1, code := some k0c0 }
/-- java/lang/Object -/
def k0 : Class := { plain "java/lang/Object" none with
  accessFlags := 33
  interfaces := #[]
  cf := some (fileOf pool0 8 #[] #[{ accessFlags := 1, nameIndex := 5, descriptorIndex := 6, attributes := #[] }] 33 0 #[] #[])
  fields := #[]
  methods := #[k0m0]
  instanceTypes := #[]
  staticTypes := #[]
  resolved := Array.replicate 124 none
  statics := none }

def pool1 : Array CpInfo := pool [(2, .class_ 4), (1, u "java/lang/Object"), (0, u "<init>"), (0, u "()V"), (0, .class_ 8), (0, u "com/example/dissoc/dissoc/ranking/Found"), (0, .methodref 7 10), (0, .nameAndType 5 11), (0, u "(I[II)V"), (0, .methodref 7 13), (0, .nameAndType 5 14), (0, u "(I[I)V"), (0, .methodref 7 16), (0, .nameAndType 17 18), (0, u "exact"), (0, u "()Z"), (0, .class_ 20), (0, u "com/example/dissoc/dissoc/ranking/FoundExactPinLaw"), (2, u "law"), (0, u "(IIIII)Z")] 5

def k1m0 : Method := { name := "<init>", desc := "()V", sig := { parameters := [], returnType := none }, accessFlags := 2, code := none }
def k1c1 : Code := { maxStack := 5, maxLocals := 12, code := code, exceptionTable := #[], attributes := #[] }
def k1m1 : Method := { name := "law", desc := "(IIIII)Z", sig := { parameters := [.int, .int, .int, .int, .int], returnType := some .boolean }, accessFlags := 9, code := some k1c1 }
/-- com/example/dissoc/dissoc/ranking/FoundExactPinLaw -/
def k1 : Class := { plain "com/example/dissoc/dissoc/ranking/FoundExactPinLaw" (some 0) with
  accessFlags := 49
  interfaces := #[]
  cf := some (fileOf pool1 19 #[] #[{ accessFlags := 2, nameIndex := 5, descriptorIndex := 6, attributes := #[] }, { accessFlags := 9, nameIndex := 23, descriptorIndex := 24, attributes := #[] }] 49 2 #[] #[])
  fields := #[]
  methods := #[k1m0, k1m1]
  instanceTypes := #[]
  staticTypes := #[]
  resolved := Array.replicate 30 none
  statics := none }

def pool2 : Array CpInfo := pool [(1, .methodref 2 3), (0, .class_ 4), (0, .nameAndType 5 6), (0, u "java/lang/Object"), (0, u "<init>"), (0, u "()V"), (0, .class_ 8), (0, u "java/lang/Record")] 13

def k2c0 : Code := { maxStack := 1, maxLocals := 1, code := jdk_30_method_1_code, exceptionTable := #[], attributes := #[] }
def k2m0 : Method := { name := "<init>", desc := "()V", sig := { parameters := [], returnType := none }, accessFlags := 4, code := some k2c0 }
/-- java/lang/Record -/
def k2 : Class := { plain "java/lang/Record" (some 0) with
  accessFlags := 1057
  interfaces := #[]
  cf := some (fileOf pool2 7 #[] #[{ accessFlags := 4, nameIndex := 5, descriptorIndex := 6, attributes := #[] }] 1057 2 #[] #[])
  fields := #[]
  methods := #[k2m0]
  instanceTypes := #[]
  staticTypes := #[]
  resolved := Array.replicate 22 none
  statics := none }

def pool3 : Array CpInfo := pool [(1, .methodref 2 3), (0, .class_ 4), (0, .nameAndType 5 6), (0, u "java/lang/Record"), (0, u "<init>"), (0, u "()V"), (0, .fieldref 8 9), (0, .class_ 10), (0, .nameAndType 11 12), (0, u "com/example/dissoc/dissoc/ranking/Found"), (0, u "tuple"), (0, u "I"), (0, .fieldref 8 14), (0, .nameAndType 15 16), (0, u "contingency"), (0, u "[I"), (0, .fieldref 8 18), (0, .nameAndType 19 12), (0, u "lowerBound"), (0, .methodref 8 21), (0, .nameAndType 5 22), (0, u "(I[II)V"), (12, u "(I[I)V"), (3, u "exact"), (0, u "()Z")] 27

def k3c0 : Code := { maxStack := 4, maxLocals := 3, code := prog_39_method_1_code, exceptionTable := #[], attributes := #[] }
def k3m0 : Method := { name := "<init>", desc := "(I[I)V", sig := { parameters := [.int, (.array .int)], returnType := none }, accessFlags := 0, code := some k3c0 }
def k3c1 : Code := { maxStack := 2, maxLocals := 4, code := prog_39_method_2_code, exceptionTable := #[], attributes := #[] }
def k3m1 : Method := { name := "<init>", desc := "(I[II)V", sig := { parameters := [.int, (.array .int), .int], returnType := none }, accessFlags := 0, code := some k3c1 }
def k3c2 : Code := { maxStack := 2, maxLocals := 1, code := prog_39_method_3_code, exceptionTable := #[], attributes := #[] }
def k3m2 : Method := { name := "exact", desc := "()Z", sig := { parameters := [], returnType := some .boolean }, accessFlags := 0, code := some k3c2 }
/-- com/example/dissoc/dissoc/ranking/Found -/
def k3 : Class := { plain "com/example/dissoc/dissoc/ranking/Found" (some 2) with
  accessFlags := 48
  interfaces := #[]
  cf := some (fileOf pool3 8 #[] #[{ accessFlags := 0, nameIndex := 5, descriptorIndex := 35, attributes := #[] }, { accessFlags := 0, nameIndex := 5, descriptorIndex := 22, attributes := #[] }, { accessFlags := 0, nameIndex := 39, descriptorIndex := 40, attributes := #[] }] 48 2 #[] #[{ accessFlags := 18, nameIndex := 11, descriptorIndex := 12, attributes := #[] }, { accessFlags := 18, nameIndex := 15, descriptorIndex := 16, attributes := #[] }, { accessFlags := 18, nameIndex := 19, descriptorIndex := 12, attributes := #[] }])
  fields := #[{ name := "tuple", type := .int, accessFlags := 18, slot := 0, constantValue := 0 }, { name := "contingency", type := (.array .int), accessFlags := 18, slot := 1, constantValue := 0 }, { name := "lowerBound", type := .int, accessFlags := 18, slot := 2, constantValue := 0 }]
  methods := #[k3m0, k3m1, k3m2]
  instanceTypes := #[.int, (.array .int), .int]
  staticTypes := #[]
  resolved := Array.replicate 68 none
  statics := none }

def pool4 : Array CpInfo := pool [(1, u "java/lang/Cloneable"), (0, .class_ 1), (0, u "java/lang/Object"), (0, .class_ 3)] 3

/-- java/lang/Cloneable -/
def k4 : Class := { plain "java/lang/Cloneable" (some 0) with
  accessFlags := 1537
  interfaces := #[]
  cf := some (fileOf pool4 2 #[] #[] 1537 4 #[] #[])
  fields := #[]
  methods := #[]
  instanceTypes := #[]
  staticTypes := #[]
  resolved := Array.replicate 8 none
  statics := none }

def pool5 : Array CpInfo := pool [(1, u "java/io/Serializable"), (0, .class_ 1), (0, u "java/lang/Object"), (0, .class_ 3)] 3

/-- java/io/Serializable -/
def k5 : Class := { plain "java/io/Serializable" (some 0) with
  accessFlags := 1537
  interfaces := #[]
  cf := some (fileOf pool5 2 #[] #[] 1537 4 #[] #[])
  fields := #[]
  methods := #[]
  instanceTypes := #[]
  staticTypes := #[]
  resolved := Array.replicate 8 none
  statics := none }

/-- the primitive byte -/
def k6 : Class := { plain "byte" none with kind := .primitive 'B', accessFlags := 0x411 }
/-- [B -/
def k7 : Class := { plain "[B" (some 0) with kind := .array 6 .byte, interfaces := #[4, 5], accessFlags := 1041 }

/-- the primitive int -/
def k8 : Class := { plain "int" none with kind := .primitive 'I', accessFlags := 0x411 }
/-- [I -/
def k9 : Class := { plain "[I" (some 0) with kind := .array 8 .int, interfaces := #[4, 5], accessFlags := 1041 }

def heap : Heap := #[]
def classes : Array Class := #[k0, k1, k2, k3, k4, k5, k6, k7, k8, k9]
def interned : List (Array UInt16 × Addr) := []
def slotsUsed : Nat := 0
def theMethod : MethodId := ⟨1, 1⟩
def args0 : Array Value := #[.int 5, .int 300, .int 7, .int 2, .int 5]
def aboutOver (below : List Frame) : State where
  vm := { classes := classes, interned := interned.toArray }
  heap := heap
  slotsUsed := slotsUsed
  threads := #[{ frames := .invoking theMethod args0 :: below }]
def below0 : List Frame := [.native { method := ⟨0, 0⟩, args := #[] }]
def about1 : State := aboutOver below0
def p0 : Program := .bare "" "" ""
def e0 : Env := launch0.env 0 0 0
theorem w_frames : about1.frames = Frame.invoking theMethod args0 :: below0 := rfl
set_option maxRecDepth 65536 in
theorem w_args : argsFit about1.vm theMethod args0 = true := by decide +kernel
set_option maxRecDepth 65536 in
theorem w_heap : heapFits about1 = true := by decide +kernel
set_option maxRecDepth 65536 in
theorem w_runnable : about1.curStatus? = some .runnable := by decide +kernel
set_option maxRecDepth 65536 in
theorem w_alone : about1.alone = true := by decide +kernel
set_option maxRecDepth 65536 in
theorem w_named : about1.methodNamed? x = some theMethod := by decide +kernel
set_option maxRecDepth 65536 in
theorem w_hears : about1.hears theMethod below0 = true := by decide +kernel
set_option maxRecDepth 65536 in
theorem w_ripe : about1.ripe theMethod args0 below0 = true := by decide +kernel
theorem w_running : about1.status = .running := rfl
set_option maxRecDepth 65536 in
theorem w_room : about1.hasRoom e0.platform room_1 = true :=
  launch0.hasRoom_least _ room_1 (by decide +kernel) (by decide +kernel) (by decide +kernel) (by decide +kernel) (by decide +kernel) (by decide +kernel)
theorem allAtoms_all (ts : List Jvm.Cond) (a : Array Jvm.Value) (st : Jvm.State) : (allAtoms ts).before a st = ts.all (fun c => c.before a st) := by
  induction ts with
  | nil => rfl
  | cons c t ih =>
    show (Jvm.Cond.and c (allAtoms t)).before a st = _
    rw [Jvm.Cond.before_and, ih, List.all_cons]
def words1 : List Jvm.Cond := Jvm.Cond.code x code maxLocals ret :: tables_1
/-- a 'code' word, met by the world's own term for the bytes: nothing is compared byte by byte -/
theorem code_word {y : MethodName} {bytes : ByteArray} {mx : Nat} {rt : Option FieldType} {a : Array Value} {s : State} {m : MethodId} {meth : Method} {c : Code} (h1 : s.methodNamed? y = some m) (h2 : s.vm.method? m = some meth) (h3 : meth.code = some c) (h4 : c.code = bytes)
    (h5 : (c.maxLocals == mx && c.exceptionTable.isEmpty && decide (c.maxStack ≤ mostOperands) && decide (meth.sig.returnType = rt) && !meth.locks && decide (parseMethodDescriptor y.desc = some meth.sig)) = true) : (Jvm.Cond.code y bytes mx rt).before a s = true := by
  simp only [Bool.and_eq_true, beq_iff_eq, Bool.not_eq_true', decide_eq_true_eq] at h5
  obtain ⟨⟨⟨⟨⟨g1, g2⟩, g3⟩, g4⟩, g5⟩, g6⟩ := h5
  simp [Cond.before, Cond.holds, Cond.value, h1, h2, h3, h4, g1, g2, g3, g4, g5, g6]
def isCode : Jvm.Cond → Bool
  | .code _ _ _ _ => true
  | _ => false
theorem all_split {L : List Jvm.Cond} {P : Jvm.Cond → Bool} (h1 : L.all (fun c => isCode c || P c) = true) (h2 : ∀ c ∈ L.filter isCode, P c = true) : L.all P = true := by
  refine List.all_eq_true.mpr fun c hc => ?_
  have h := List.all_eq_true.mp h1 c hc
  rcases Bool.eq_false_or_eq_true (isCode c) with hi | hi
  · exact h2 c (List.mem_filter.mpr ⟨hc, hi⟩)
  · simpa [hi] using h
set_option maxRecDepth 65536 in
theorem w_c0 : (Jvm.Cond.code x code maxLocals ret).before args0 about1 = true := code_word (m := ⟨1, 1⟩) (meth := k1m1) (c := k1c1) (by decide +kernel) rfl rfl rfl (by decide +kernel)
set_option maxRecDepth 65536 in
theorem w_c1 : (Jvm.Cond.code ({ cls := "com/example/dissoc/dissoc/ranking/Found", name := "<init>", desc := "(I[II)V" } : Jvm.MethodName) prog_39_method_2_code (4 : Nat) (Option.none : Option Jvm.ClassFile.FieldType)).before args0 about1 = true := code_word (m := ⟨3, 1⟩) (meth := k3m1) (c := k3c1) (by decide +kernel) rfl rfl rfl (by decide +kernel)
set_option maxRecDepth 65536 in
theorem w_c2 : (Jvm.Cond.code ({ cls := "java/lang/Record", name := "<init>", desc := "()V" } : Jvm.MethodName) jdk_30_method_1_code (1 : Nat) (Option.none : Option Jvm.ClassFile.FieldType)).before args0 about1 = true := code_word (m := ⟨2, 0⟩) (meth := k2m0) (c := k2c0) (by decide +kernel) rfl rfl rfl (by decide +kernel)
set_option maxRecDepth 65536 in
theorem w_c3 : (Jvm.Cond.code ({ cls := "java/lang/Object", name := "<init>", desc := "()V" } : Jvm.MethodName) object_method_1_code (1 : Nat) (Option.none : Option Jvm.ClassFile.FieldType)).before args0 about1 = true := code_word (m := ⟨0, 0⟩) (meth := k0m0) (c := k0c0) (by decide +kernel) rfl rfl rfl (by decide +kernel)
set_option maxRecDepth 65536 in
theorem w_c4 : (Jvm.Cond.code ({ cls := "com/example/dissoc/dissoc/ranking/Found", name := "<init>", desc := "(I[I)V" } : Jvm.MethodName) prog_39_method_1_code (3 : Nat) (Option.none : Option Jvm.ClassFile.FieldType)).before args0 about1 = true := code_word (m := ⟨3, 0⟩) (meth := k3m0) (c := k3c0) (by decide +kernel) rfl rfl rfl (by decide +kernel)
set_option maxRecDepth 65536 in
theorem w_c5 : (Jvm.Cond.code ({ cls := "com/example/dissoc/dissoc/ranking/Found", name := "exact", desc := "()Z" } : Jvm.MethodName) prog_39_method_3_code (1 : Nat) (Option.some Jvm.ClassFile.FieldType.boolean)).before args0 about1 = true := code_word (m := ⟨3, 2⟩) (meth := k3m2) (c := k3c2) (by decide +kernel) rfl rfl rfl (by decide +kernel)
def codes1 : List Jvm.Cond := [Jvm.Cond.code x code maxLocals ret, Jvm.Cond.code ({ cls := "com/example/dissoc/dissoc/ranking/Found", name := "<init>", desc := "(I[II)V" } : Jvm.MethodName) prog_39_method_2_code (4 : Nat) (Option.none : Option Jvm.ClassFile.FieldType), Jvm.Cond.code ({ cls := "java/lang/Record", name := "<init>", desc := "()V" } : Jvm.MethodName) jdk_30_method_1_code (1 : Nat) (Option.none : Option Jvm.ClassFile.FieldType), Jvm.Cond.code ({ cls := "java/lang/Object", name := "<init>", desc := "()V" } : Jvm.MethodName) object_method_1_code (1 : Nat) (Option.none : Option Jvm.ClassFile.FieldType), Jvm.Cond.code ({ cls := "com/example/dissoc/dissoc/ranking/Found", name := "<init>", desc := "(I[I)V" } : Jvm.MethodName) prog_39_method_1_code (3 : Nat) (Option.none : Option Jvm.ClassFile.FieldType), Jvm.Cond.code ({ cls := "com/example/dissoc/dissoc/ranking/Found", name := "exact", desc := "()Z" } : Jvm.MethodName) prog_39_method_3_code (1 : Nat) (Option.some Jvm.ClassFile.FieldType.boolean)]
set_option maxRecDepth 65536 in
theorem codes_eq : words1.filter isCode = codes1 := rfl
theorem w_codes : ∀ c ∈ words1.filter isCode, c.before args0 about1 = true := by
  rw [codes_eq]
  intro c hc
  simp only [codes1, List.mem_cons, List.not_mem_nil, or_false] at hc
  rcases hc with rfl | rfl | rfl | rfl | rfl | rfl
  · exact w_c0
  · exact w_c1
  · exact w_c2
  · exact w_c3
  · exact w_c4
  · exact w_c5
set_option maxRecDepth 65536 in
theorem w_t1 : (words1.take 24).all (fun c => isCode c || c.before args0 about1) = true := by decide +kernel
set_option maxRecDepth 65536 in
theorem w_t2 : (words1.drop 24).all (fun c => isCode c || c.before args0 about1) = true := by decide +kernel
theorem w_tables : (allAtoms (Jvm.Cond.code x code maxLocals ret :: tables_1)).before args0 about1 = true := by
  rw [allAtoms_all]
  show words1.all (fun c => c.before args0 about1) = true
  refine all_split ?_ w_codes
  rw [← List.take_append_drop 24 words1, List.all_append, w_t1, w_t2]
  rfl
set_option maxRecDepth 65536 in
theorem w_case : (Jvm.Cond.and given_1 narrow_1).before args0 about1 = true := by decide +kernel
theorem w_applies : (headSpec (Jvm.Cond.code x code maxLocals ret :: tables_1) room_1).applies x e0.platform about1 = true :=
  (Spec.applies_iff w_frames).mpr ⟨w_running, w_runnable, w_alone, w_named, w_hears, w_ripe, w_room, w_tables⟩
theorem atStart : AtStart classFile x code maxLocals ret World_1 tables_1 room_1 Calls_1 rest_1 Pre_1 launch0 p0 e0 about1 theMethod args0 below0 :=
  ⟨lists_1, trivial, launch0.admits_env _ _ _, launch0.least_env, fairChoices_fair.cas, fairChoices_fair.clock, w_frames, w_args, w_heap, w_applies, trivial, trivial, w_case⟩
end start1
theorem witness_1 : WitnessClaimed_1 := ⟨start1.p0, start1.e0, start1.about1, start1.theMethod, start1.args0, start1.below0, start1.atStart⟩
end Jvm.Pilot.@@N@@
