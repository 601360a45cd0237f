import JvmDerived
import JvmDerived.Pilot.@@N@@Statement
import JvmDerived.Pilot.@@N@@Code
set_option linter.unusedVariables false
set_option linter.unusedSimpArgs false
set_option maxRecDepth 65536
set_option maxHeartbeats 20000000
namespace Jvm.Pilot.@@N@@
open Jvm Jvm.ClassFile Sem Op Lib Jvm.Free Jvm.Stand Jvm.LawKit Jvm.RoadKit Bundle Jvm.Pilot.@@N@@.Jvm.D
section OwnKit
variable {p : Program} {l : Launch} {e : Env} {R : Room} {s : State} {m : MethodId} {args : Array Value} {below : List Frame} {meth : Method} {c : Code} {T : State} {locs : List Loc} {cells slots : Nat} {Z : State} {a0 : Array Value} {h0 : Heap}
/-- from this state the run comes to the end of the invocation, and there P holds -/
def own_G (p : Program) (e : Env) (below : List Frame) (P : Outcome → State → Prop) (st : State) : Prop :=
  ∃ (u : State) (o : Outcome), Steps p.tables e below st u ∧ u.status = .running ∧ Ended u below o ∧ P o u
theorem own_via {P : Outcome → State → Prop} {st st' : State} (k : ∀ t, Steps p.tables e below st' t → Steps p.tables e below st t) (h : own_G p e below P st') : own_G p e below P st := by
  obtain ⟨u, o, h1, h2⟩ := h
  exact ⟨u, o, k _ h1, h2⟩
/-- what a contract says of the end -/
def own_P (s : State) (Q : Option Value → Heap → List Loc → Prop) (k n : Nat) : Outcome → State → Prop := fun o u => ∃ v L, o = .returned v ∧ Q v u.heap L ∧ FrameEnd s o u L k n
/-- it returns w and leaves the heap as it was -/
def own_Q (w : Value) (h0 : Heap) : Option Value → Heap → List Loc → Prop := fun v h L => v = some w ∧ L = [] ∧ h = h0
/-- a contract -/
def own_C (l : Launch) (Z : State) (y : MethodName) (bytes : ByteArray) (maxL : Nat) (ret : Option FieldType) (ws : List Jvm.Cond) (rm : Room) (as : Array Value) (h0 : Heap) (Q : Option Value → Heap → List Loc → Prop) : Prop :=
  MetFree l y (head1 (Jvm.Cond.code y bytes maxL ret :: ws) rm) (fun a U => a = as ∧ Z.Warmed39 U.vm ∧ U.heap = h0) (fun _ _ _ _ _ => True) (fun _ U o U' => ∃ v L, o = .returned v ∧ Q v U'.heap L ∧ FrameEnd U o U' L rm.cells rm.slots)
theorem own_ret {v : Option Value} {Q : Option Value → Heap → List Loc → Prop} {k n : Nat} {st : State} (X : Stand p l e R s m args below meth c T locs cells slots) (hv : meth.sig.returnType = none → v = none) (hlocks : meth.locks = false)
    (hst : ∀ fs, (∀ (f : JFrame) (acts : List Action), f.method = m → f.locked = none → f.entered = [] → (doReturn e (T.setTop f) acts v).1 = T.setFrames fs) → Steps p.tables e below st (T.setFrames fs))
    (hQ : Q v T.heap locs) (hk : cells ≤ k) (hn : slots ≤ n) : own_G p e below (own_P s Q k n) st := by
  obtain ⟨fs, hr, hrun, hended, hW, hsame⟩ := X.leave (v := v) hv hlocks
  exact ⟨_, _, hst fs hr, hrun, hended, _, _, rfl, hQ, ⟨_, rfl⟩, hW, hsame.mono hk hn⟩
theorem own_retI {Q : Option Value → Heap → List Loc → Prop} {k n : Nat} (X : Stand p l e R s m args below meth c T locs cells slots) (hx : p.tables.exec = Jvm.exec) {pc : Nat} {Ls : Array Slot} {z : Int32} {rest : List Value} (hret : meth.sig.returnType = some .int) (hlocks : meth.locks = false) (hd : decode c.code pc = .ok (.ireturn, 1))
    (hQ : Q (some (.int z)) T.heap locs) (hk : cells ≤ k) (hn : slots ≤ n) : own_G p e below (own_P s Q k n) (T.setTop (mkF m pc Ls (.int z :: rest))) := by
  refine own_ret X (fun h => by rw [hret] at h; cases h) hlocks (fun fs hr => ?_) hQ hk hn
  have hm' : T.vm.method? m = some meth := X.method'
  have hn : narrow .int (.int z) = .int z := rfl
  show Steps p.tables e below (T.setTop { method := m, pc := pc, locals := Ls, stack := _ :: rest, locked := none }) _
  jvm_step X.here [X.here.top, hx, hd, hm', hret, hn]
  first | (intro acts; rw [hr _ acts rfl rfl rfl]) | rw [hr _ _ rfl rfl rfl]
  exact Steps.refl _
theorem own_retN {Q : Option Value → Heap → List Loc → Prop} {k n : Nat} {t : FieldType} (X : Stand p l e R s m args below meth c T locs cells slots) (hx : p.tables.exec = Jvm.exec) {pc : Nat} {Ls : Array Slot} {z : Int32} {rest : List Value} (hret : meth.sig.returnType = some t) (ht : t = .boolean ∨ t = .byte ∨ t = .char ∨ t = .short) (hlocks : meth.locks = false) (hd : decode c.code pc = .ok (.ireturn, 1))
    (hQ : Q (some (.int (nar t z))) T.heap locs) (hk : cells ≤ k) (hn : slots ≤ n) : own_G p e below (own_P s Q k n) (T.setTop (mkF m pc Ls (.int z :: rest))) :=
  own_ret X (fun h => by rw [hret] at h; cases h) hlocks (fun fs hr => retN X hx hret ht hd hr) hQ hk hn
theorem own_retL {Q : Option Value → Heap → List Loc → Prop} {k n : Nat} (X : Stand p l e R s m args below meth c T locs cells slots) (hx : p.tables.exec = Jvm.exec) {pc : Nat} {Ls : Array Slot} {z : Int64} (hret : meth.sig.returnType = some .long) (hlocks : meth.locks = false) (hd : decode c.code pc = .ok (.lreturn, 1))
    (hQ : Q (some (.long z)) T.heap locs) (hk : cells ≤ k) (hn : slots ≤ n) : own_G p e below (own_P s Q k n) (T.setTop (mkF m pc Ls [.long z])) :=
  own_ret X (fun h => by rw [hret] at h; cases h) hlocks (fun fs hr => X.lreturnOut hx hret hd hr) hQ hk hn
theorem own_retV {Q : Option Value → Heap → List Loc → Prop} {k n : Nat} (X : Stand p l e R s m args below meth c T locs cells slots) (hx : p.tables.exec = Jvm.exec) {pc : Nat} {Ls : Array Slot} (hret : meth.sig.returnType = none) (hlocks : meth.locks = false) (hd : decode c.code pc = .ok (.return_, 1))
    (hQ : Q none T.heap locs) (hk : cells ≤ k) (hn : slots ≤ n) : own_G p e below (own_P s Q k n) (T.setTop (mkF m pc Ls [])) :=
  own_ret X (fun _ => rfl) hlocks (fun fs hr => X.returnOut hx hret hd hr) hQ hk hn
theorem own_retA {Q : Option Value → Heap → List Loc → Prop} {k n : Nat} {t : FieldType} {v : Value} (X : Stand p l e R s m args below meth c T locs cells slots) (hx : p.tables.exec = Jvm.exec) {pc : Nat} {Ls : Array Slot} {rest : List Value} (hret : meth.sig.returnType = some t) (ht : t.isReference = true) (hv : v.isRef = true) (hlocks : meth.locks = false) (hd : decode c.code pc = .ok (.areturn, 1))
    (hQ : Q (some v) T.heap locs) (hk : cells ≤ k) (hn : slots ≤ n) : own_G p e below (own_P s Q k n) (T.setTop (mkF m pc Ls (v :: rest))) := by
  refine own_ret X (fun h => by rw [hret] at h; cases h) hlocks (fun fs hr => ?_) hQ hk hn
  have hm' : T.vm.method? m = some meth := X.method'
  show Steps p.tables e below (T.setTop { method := m, pc := pc, locals := Ls, stack := _ :: rest, locked := none }) _
  jvm_step X.here [X.here.top, hx, hd, hm', hret, ht, hv]
  first | (intro acts; rw [hr _ acts rfl rfl rfl]) | rw [hr _ _ rfl rfl rfl]
  exact Steps.refl _
/-- a static method by its contract -/
theorem own_callS {own : String} {index : Nat} {y : MethodName} {bytes : ByteArray} {maxL W : Nat} {ret : Option FieldType} {rm : Room} {as : Array Value} {Q : Option Value → Heap → List Loc → Prop}
    (X : Stand p l e R s m args below meth c T locs cells slots) (hx : p.tables.exec = Jvm.exec) (hZ : Z.Warmed39 s.vm) (hown : s.vm.findClass own = some m.cls)
    (w1 : (Jvm.Cond.methodLink own index y).before a0 Z = true) (w2 : (Jvm.Cond.static y).before a0 Z = true) (w3 : (Jvm.Cond.initialized y.cls).before a0 Z = true) (w4 : (Jvm.Cond.code y bytes maxL ret).before a0 Z = true)
    (hy : y.cls ≠ "java/lang/invoke/MethodHandle" ∧ y.cls ≠ "java/lang/invoke/VarHandle") (hM : own_C l Z y bytes maxL ret [] rm as h0 Q)
    (hf : rm.frames + 1 ≤ R.frames) (hl : W + (maxL + 11) + rm.locals ≤ R.locals) (hcc : cells + rm.cells ≤ R.cells) (hss : slots + rm.slots ≤ R.slots) (e0 : T.heap = h0)
    {pc : Nat} {Ls : Array Slot} {st argsL rest : List Value} (hsize : Ls.size = c.maxLocals) (hlen : ∀ sig, parseMethodDescriptor y.desc = some sig → argsL.length = sig.parameters.length) (has : argsL.toArray = as)
    (hst : st = argsL.reverse ++ rest) (hW : 2 * 0 + (rest.map fun v => v.category).sum ≤ W) (hd : decode c.code pc = .ok (.invokestatic index, 3)) :
    ∃ (v : Option Value) (T' : State) (L : List Loc), Stand p l e R s m args below meth c T' (locs ++ L) (cells + rm.cells) (slots + rm.slots) ∧ Q v T'.heap L ∧
      ∀ target, Steps p.tables e below (T'.setTop (mkF m (pc + 3) Ls (v.toList ++ rest))) target → Steps p.tables e below (T.setTop (mkF m pc Ls st)) target := by
  obtain ⟨v, _, ⟨T', L', k', n'⟩, -, X', ⟨Lc, hQ, h1, h2, h3⟩, stp⟩ := Jvm.LawKit.callS X hx (y := y) hown (mvT hZ w1) (mvT hZ w2) (mvT hZ w3) (mvT hZ w4) hy
    (backOf (W := W) hM hZ w4 w3 hf hl) (g := mkF m pc Ls st) rfl hsize (argsL := argsL) (rest := rest) hlen hst hW hd (fun _ _ => ⟨has, e0, hcc, hss⟩)
  dsimp only [Pt.U, Pt.locs, Pt.cells, Pt.slots] at X' h1 h2 h3 stp hQ
  subst h1 h2 h3
  exact ⟨v, T', Lc, X', hQ, stp⟩
/-- a static method that leaves the heap as it was -/
theorem own_callP {own : String} {index : Nat} {y : MethodName} {bytes : ByteArray} {maxL W : Nat} {ret : Option FieldType} {rm : Room} {as : Array Value} {w : Value}
    (X : Stand p l e R s m args below meth c T locs cells slots) (hx : p.tables.exec = Jvm.exec) (hZ : Z.Warmed39 s.vm) (hown : s.vm.findClass own = some m.cls)
    (w1 : (Jvm.Cond.methodLink own index y).before a0 Z = true) (w2 : (Jvm.Cond.static y).before a0 Z = true) (w3 : (Jvm.Cond.initialized y.cls).before a0 Z = true) (w4 : (Jvm.Cond.code y bytes maxL ret).before a0 Z = true)
    (hy : y.cls ≠ "java/lang/invoke/MethodHandle" ∧ y.cls ≠ "java/lang/invoke/VarHandle") (hM : own_C l Z y bytes maxL ret [] rm as h0 (own_Q w h0))
    (hf : rm.frames + 1 ≤ R.frames) (hl : W + (maxL + 11) + rm.locals ≤ R.locals) (hrc : rm.cells = 0) (hrs : rm.slots = 0) (hcc : cells + rm.cells ≤ R.cells) (hss : slots + rm.slots ≤ R.slots) (e0 : T.heap = h0)
    {pc : Nat} {Ls : Array Slot} {st argsL rest : List Value} (hsize : Ls.size = c.maxLocals) (hlen : ∀ sig, parseMethodDescriptor y.desc = some sig → argsL.length = sig.parameters.length) (has : argsL.toArray = as)
    (hst : st = argsL.reverse ++ rest) (hW : 2 * 0 + (rest.map fun v => v.category).sum ≤ W) (hd : decode c.code pc = .ok (.invokestatic index, 3)) :
    ∃ (T' : State), Stand p l e R s m args below meth c T' locs cells slots ∧ T'.heap = h0 ∧
      ∀ target, Steps p.tables e below (T'.setTop (mkF m (pc + 3) Ls (w :: rest))) target → Steps p.tables e below (T.setTop (mkF m pc Ls st)) target := by
  obtain ⟨v, T', L, X', ⟨rfl, rfl, hh⟩, stp⟩ := own_callS X hx hZ hown w1 w2 w3 w4 hy hM hf hl hcc hss e0 hsize hlen has hst hW hd
  rw [List.append_nil, hrc, hrs] at X'
  exact ⟨T', X', hh, stp⟩
theorem own_b1 {x a : Int32} (h : x < a) : x.toInt ≤ a.toInt - 1 := by rw [Int32.lt_iff_toInt_lt] at h; omega
theorem own_b2 {x a : Int32} (h : ¬ x < a) : a.toInt ≤ x.toInt := by rw [Int32.lt_iff_toInt_lt] at h; omega
theorem own_b3 {x a : Int32} (h : a < x) : a.toInt + 1 ≤ x.toInt := by rw [Int32.lt_iff_toInt_lt] at h; omega
theorem own_b4 {x a : Int32} (h : ¬ a < x) : x.toInt ≤ a.toInt := by rw [Int32.lt_iff_toInt_lt] at h; omega
theorem own_b5 {x b : Int32} {k : Int} (h : x.toInt ≤ k) (q : k < b.toInt) : x < b := by rw [Int32.lt_iff_toInt_lt]; omega
theorem own_b6 {x b : Int32} {k : Int} (h : k ≤ x.toInt) (q : b.toInt ≤ k) : ¬ x < b := by rw [Int32.lt_iff_toInt_lt]; omega
theorem own_b7 {x b : Int32} {k : Int} (h : k ≤ x.toInt) (q : b.toInt < k) : b < x := by rw [Int32.lt_iff_toInt_lt]; omega
theorem own_b8 {x b : Int32} {k : Int} (h : x.toInt ≤ k) (q : k ≤ b.toInt) : ¬ b < x := by rw [Int32.lt_iff_toInt_lt]; omega
theorem own_b9 {x b : Int32} {k : Int} (h : x.toInt ≤ k) (q : k < b.toInt) : ¬ x = b := fun e => by subst e; omega
theorem own_b10 {x b : Int32} {k : Int} (h : k ≤ x.toInt) (q : b.toInt < k) : ¬ x = b := fun e => by subst e; omega
theorem own_of_eq {x a : Int32} {P : Int32 → Prop} (h : x = a) (q : P a) : P x := h ▸ q
end OwnKit
section OwnHeap
variable {p : Program} {l : Launch} {e : Env} {R : Room} {s : State} {m : MethodId} {args : Array Value} {below : List Frame} {meth : Method} {c : Code} {T : State} {locs : List Loc} {cells slots : Nat} {Z : State} {a0 : Array Value} {h0 h : Heap} {n0 : Nat}
/-- the writes lie at or above n0, and q says the rest -/
def own_W (n0 : Nat) (q : Option Value → Heap → Prop) : Option Value → Heap → List Loc → Prop := fun v h L => Fr n0 L ∧ q v h
theorem own_newA (X : Stand p l e R s m args below meth c T locs cells slots) (hx : p.tables.exec = Jvm.exec) (hZ : Z.Warmed39 s.vm) {aty : ArrayType} (w : (Jvm.Cond.arrayClass (newarray.typeOf aty)).before a0 Z = true) (eT : T.heap = h) {pc : Nat} {Ls : Array Slot} (hd : decode c.code pc = .ok (.newarray aty, 2)) {n : Int32} {rest : List Value}
    (hn : ¬ n < 0) {cap : Nat} (hcap : n.toNatClampNeg ≤ cap) (hb : cap * 8 ≤ 536870912) (hc : cells + 1 ≤ R.cells) (hl : slots + cap ≤ R.slots) (len : Nat) {ad : String} (had : "[" ++ (newarray.typeOf aty).toString = ad) :
    ∃ T' h' k a, Stand p l e R s m args below meth c T' locs (cells + 1) (slots + cap) ∧ T'.heap = h' ∧ Ext h h' ∧ a = h.size ∧ Arv Z h' a k (newarray.typeOf aty) n (List.replicate len (defaultValue (newarray.typeOf aty))) (defaultValue (newarray.typeOf aty)) ∧ Exa Z h' a ad ∧
      ∀ target, Steps p.tables e below (T'.setTop (mkF m (pc + 2) Ls (.ref a :: rest))) target → Steps p.tables e below (T.setTop (mkF m pc Ls (.int n :: rest))) target := by
  obtain ⟨T', h', k, X', e', E, A, Ex, st⟩ := newPE X hx hZ w eT (g := mkF m pc Ls (.int n :: rest)) rfl hd rfl hn hcap hb hc hl had
  exact ⟨T', h', k, h.size, X', e', E, rfl, (Arv.new A hn).pad (fun i => by have := pad_rep [] (defaultValue (newarray.typeOf aty)) len i; rwa [List.nil_append] at this), Ex, st⟩
theorem own_stB (X : Stand p l e R s m args below meth c T locs cells slots) (N : Fr n0 locs) (hx : p.tables.exec = Jvm.exec) (hZ : Z.Warmed39 s.vm) (eT : T.heap = h) {a : Addr} {k : ClassId} {z : Int32} {vs : List Value} {d : Value} (V : Arv Z h a k .byte z vs d) (ga : n0 ≤ a) {j x : Int32} {i : Nat} (hj : ¬ j < 0 ∧ j < z) (hi : j.toNatClampNeg = i) (hl : i < vs.length)
    {pc : Nat} {Ls : Array Slot} {rest : List Value} (hd : decode c.code pc = .ok (.bastore, 1)) :
    ∃ T' h' L', Stand p l e R s m args below meth c T' L' cells slots ∧ Fr n0 L' ∧ T'.heap = h' ∧ Wr h h' a i (.int x.toInt8.toInt32) ∧ Arv Z h' a k .byte z (vs.set i (.int x.toInt8.toInt32)) d ∧
      ∀ target, Steps p.tables e below (T'.setTop (mkF m (pc + 1) Ls rest)) target → Steps p.tables e below (T.setTop (mkF m pc Ls (.int x :: .int j :: .ref a :: rest))) target := by
  obtain ⟨cl, Ar, q, S, Nn, H, G⟩ := V
  obtain ⟨T', h', X', e', W, st⟩ := stB X hx hZ eT Ar (j := j) (x := x) (inb_of S hj) (g := mkF m pc Ls (.int x :: .int j :: .ref a :: rest)) rfl rfl hd
  subst hi
  exact ⟨T', h', _, X', Fr.snoc X' N ga, e', W, Arv.set Ar q S Nn H G (fits_nar_byte x) W _ rfl hl, st⟩
theorem own_stI (X : Stand p l e R s m args below meth c T locs cells slots) (N : Fr n0 locs) (hx : p.tables.exec = Jvm.exec) (hZ : Z.Warmed39 s.vm) (eT : T.heap = h) {a : Addr} {k : ClassId} {z : Int32} {vs : List Value} {d : Value} (V : Arv Z h a k .int z vs d) (ga : n0 ≤ a) {j x : Int32} {i : Nat} (hj : ¬ j < 0 ∧ j < z) (hi : j.toNatClampNeg = i) (hl : i < vs.length)
    {pc : Nat} {Ls : Array Slot} {rest : List Value} (hd : decode c.code pc = .ok (.iastore, 1)) :
    ∃ T' h' L', Stand p l e R s m args below meth c T' L' cells slots ∧ Fr n0 L' ∧ T'.heap = h' ∧ Wr h h' a i (.int x) ∧ Arv Z h' a k .int z (vs.set i (.int x)) d ∧
      ∀ target, Steps p.tables e below (T'.setTop (mkF m (pc + 1) Ls rest)) target → Steps p.tables e below (T.setTop (mkF m pc Ls (.int x :: .int j :: .ref a :: rest))) target := by
  obtain ⟨cl, Ar, q, S, Nn, H, G⟩ := V
  obtain ⟨T', h', X', e', W, st⟩ := stI X hx hZ eT Ar (j := j) (x := x) (inb_of S hj) (g := mkF m pc Ls (.int x :: .int j :: .ref a :: rest)) rfl rfl hd
  subst hi
  exact ⟨T', h', _, X', Fr.snoc X' N ga, e', W, Arv.set Ar q S Nn H G rfl W _ rfl hl, st⟩
theorem own_stC (X : Stand p l e R s m args below meth c T locs cells slots) (N : Fr n0 locs) (hx : p.tables.exec = Jvm.exec) (hZ : Z.Warmed39 s.vm) (eT : T.heap = h) {a : Addr} {k : ClassId} {z : Int32} {vs : List Value} {d : Value} (V : Arv Z h a k .char z vs d) (ga : n0 ≤ a) {j x : Int32} {i : Nat} (hj : ¬ j < 0 ∧ j < z) (hi : j.toNatClampNeg = i) (hl : i < vs.length)
    {pc : Nat} {Ls : Array Slot} {rest : List Value} (hd : decode c.code pc = .ok (.castore, 1)) :
    ∃ T' h' L', Stand p l e R s m args below meth c T' L' cells slots ∧ Fr n0 L' ∧ T'.heap = h' ∧ Wr h h' a i (.int (nar .char x)) ∧ Arv Z h' a k .char z (vs.set i (.int (nar .char x))) d ∧
      ∀ target, Steps p.tables e below (T'.setTop (mkF m (pc + 1) Ls rest)) target → Steps p.tables e below (T.setTop (mkF m pc Ls (.int x :: .int j :: .ref a :: rest))) target := by
  obtain ⟨cl, Ar, q, S, Nn, H, G⟩ := V
  obtain ⟨T', h', X', e', W, st⟩ := stC X hx hZ eT Ar (j := j) (x := x) (inb_of S hj) (g := mkF m pc Ls (.int x :: .int j :: .ref a :: rest)) rfl rfl hd
  subst hi
  exact ⟨T', h', _, X', Fr.snoc X' N ga, e', W, Arv.set Ar q S Nn H G (fits_nar_char x) W _ rfl hl, st⟩
theorem own_ldB (X : Stand p l e R s m args below meth c T locs cells slots) (hx : p.tables.exec = Jvm.exec) (hZ : Z.Warmed39 s.vm) (eT : T.heap = h) {a : Addr} {k : ClassId} {z : Int32} {vs : List Value} {d v : Value} (V : Arv Z h a k .byte z vs d) {j : Int32} (hj : ¬ j < 0 ∧ j < z) (hv : vs.getD j.toNatClampNeg d = v)
    {pc : Nat} {Ls : Array Slot} {rest : List Value} (hd : decode c.code pc = .ok (.baload, 1)) (target : State) (hr : Steps p.tables e below (T.setTop (mkF m (pc + 1) Ls (v :: rest))) target) : Steps p.tables e below (T.setTop (mkF m pc Ls (.int j :: .ref a :: rest))) target := by
  obtain ⟨cl, Ar, q, S, Nn, H, G⟩ := V
  have hin := inb_of S hj
  refine X.baloadBytes hx (j := j) (v := v) (by rw [eT]; exact Ar.1) (State.isArrayOf_alike hZ.alike Ar.2.1) Ar.2.2 hin ?_ (g := mkF m pc Ls (.int j :: .ref a :: rest)) rfl rfl hd _ hr
  rw [H _ (Nat.lt_of_not_le fun q => hin (Or.inr q)), hv]
theorem own_ldI (X : Stand p l e R s m args below meth c T locs cells slots) (hx : p.tables.exec = Jvm.exec) (hZ : Z.Warmed39 s.vm) (eT : T.heap = h) {a : Addr} {k : ClassId} {z : Int32} {vs : List Value} {d v : Value} (V : Arv Z h a k .int z vs d) {j : Int32} (hj : ¬ j < 0 ∧ j < z) (hv : vs.getD j.toNatClampNeg d = v)
    {pc : Nat} {Ls : Array Slot} {rest : List Value} (hd : decode c.code pc = .ok (.iaload, 1)) (target : State) (hr : Steps p.tables e below (T.setTop (mkF m (pc + 1) Ls (v :: rest))) target) : Steps p.tables e below (T.setTop (mkF m pc Ls (.int j :: .ref a :: rest))) target := by
  obtain ⟨cl, Ar, q, S, Nn, H, G⟩ := V
  have hin := inb_of S hj
  refine X.iaload hx (j := j) (v := v) (by rw [eT]; exact Ar.1) (State.isArrayOf_alike hZ.alike Ar.2.1) Ar.2.2 hin ?_ (g := mkF m pc Ls (.int j :: .ref a :: rest)) rfl rfl hd _ hr
  rw [H _ (Nat.lt_of_not_le fun q => hin (Or.inr q)), hv]
theorem own_ldC (X : Stand p l e R s m args below meth c T locs cells slots) (hx : p.tables.exec = Jvm.exec) (hZ : Z.Warmed39 s.vm) (eT : T.heap = h) {a : Addr} {k : ClassId} {z : Int32} {vs : List Value} {d v : Value} (V : Arv Z h a k .char z vs d) {j : Int32} (hj : ¬ j < 0 ∧ j < z) (hv : vs.getD j.toNatClampNeg d = v)
    {pc : Nat} {Ls : Array Slot} {rest : List Value} (hd : decode c.code pc = .ok (.caload, 1)) (target : State) (hr : Steps p.tables e below (T.setTop (mkF m (pc + 1) Ls (v :: rest))) target) : Steps p.tables e below (T.setTop (mkF m pc Ls (.int j :: .ref a :: rest))) target := by
  obtain ⟨cl, Ar, q, S, Nn, H, G⟩ := V
  have hin := inb_of S hj
  refine X.caload hx (j := j) (v := v) (by rw [eT]; exact Ar.1) (State.isArrayOf_alike hZ.alike Ar.2.1) Ar.2.2 hin ?_ (g := mkF m pc Ls (.int j :: .ref a :: rest)) rfl rfl hd _ hr
  rw [H _ (Nat.lt_of_not_le fun q => hin (Or.inr q)), hv]
theorem own_len (X : Stand p l e R s m args below meth c T locs cells slots) (hx : p.tables.exec = Jvm.exec) (hZ : Z.Warmed39 s.vm) (eT : T.heap = h) {a : Addr} {k : ClassId} {ty : FieldType} {z : Int32} {vs : List Value} {d : Value} (V : Arv Z h a k ty z vs d)
    {pc : Nat} {Ls : Array Slot} {rest : List Value} (hd : decode c.code pc = .ok (.arraylength, 1)) (target : State) (hr : Steps p.tables e below (T.setTop (mkF m (pc + 1) Ls (.int z :: rest))) target) : Steps p.tables e below (T.setTop (mkF m pc Ls (.ref a :: rest))) target := by
  obtain ⟨cl, Ar, q, S, Nn, H, G⟩ := V
  refine X.arraylength hx (by rw [eT]; exact Ar.1) (State.isArrayOf_alike hZ.alike Ar.2.1) (g := mkF m pc Ls (.ref a :: rest)) rfl rfl hd _ ?_
  rw [len_of S Nn]
  exact hr
/-- an array cloned -/
theorem own_clone (X : Stand p l e R s m args below meth c T locs cells slots) (hx : p.tables.exec = Jvm.exec) (hZ : Z.Warmed39 s.vm) {own ad : String} {index : Nat} (hown : s.vm.findClass own = some m.cls)
    (w1 : (Jvm.Cond.methodLink own index ⟨ad, "clone", "()Ljava/lang/Object;"⟩).before a0 Z = true) (w2 : (Jvm.Cond.sameMethod ad "java/lang/Object" "clone" "()Ljava/lang/Object;").before a0 Z = true) (w3 : (Jvm.Cond.native ⟨"java/lang/Object", "clone", "()Ljava/lang/Object;"⟩).before a0 Z = true)
    (w4 : (Jvm.Cond.instanceMethod ⟨"java/lang/Object", "clone", "()Ljava/lang/Object;"⟩).before a0 Z = true) (w5 : (Jvm.Cond.selects ad ⟨ad, "clone", "()Ljava/lang/Object;"⟩ ⟨"java/lang/Object", "clone", "()Ljava/lang/Object;"⟩).before a0 Z = true) (w6 : (Jvm.Cond.castable ad "java/lang/Cloneable").before a0 Z = true)
    (eT : T.heap = h) {a : Addr} {k : ClassId} {ty : FieldType} {z : Int32} {vs : List Value} {dv : Value} (F : Arv Z h a k ty z vs dv) (E : Exa Z h a ad) {pc : Nat} {Ls : Array Slot} {rest : List Value} (hsize : Ls.size = c.maxLocals) (hd : decode c.code pc = .ok (.invokevirtual index, 3))
    (hf : 1 ≤ R.frames) {W cap : Nat} (hW : 2 * 0 + (rest.map fun v => v.category).sum ≤ W) (hl : W + 14 ≤ R.locals) (hcap : z.toNatClampNeg ≤ cap) (hc : cells + 1 ≤ R.cells) (hsl : slots + cap ≤ R.slots) :
    ∃ T' h' b, Stand p l e R s m args below meth c T' locs (cells + 1) (slots + cap) ∧ T'.heap = h' ∧ Ext h h' ∧ b = h.size ∧ Arv Z h' b k ty z vs dv ∧ Exa Z h' b ad ∧
      ∀ target, Steps p.tables e below (T'.setTop (mkF m (pc + 3) Ls (.ref b :: rest))) target → Steps p.tables e below (T.setTop (mkF m pc Ls (.ref a :: rest))) target := by
  obtain ⟨T', h', X', e', ex, V, E', st⟩ := cloneH X hx hZ hown w1 w2 w3 w4 w5 w6 eT F.arh E (g := mkF m pc Ls (.ref a :: rest)) rfl hsize rfl hd hf hW hl hcap hc hsl
  exact ⟨T', h', h.size, X', e', ex, rfl, V, E', st⟩
/-- a field written -/
theorem own_putF (X : Stand p l e R s m args below meth c T locs cells slots) (N : Fr n0 locs) (hx : p.tables.exec = Jvm.exec) (hZ : Z.Warmed39 s.vm) {own O n d C : String} {index kk : Nat} {ty : FieldType} (hown : s.vm.findClass own = some m.cls) (w : (Jvm.Cond.fieldLink own index O n d).before a0 Z = true)
    (eT : T.heap = h) {a : Addr} {v old : Value} (F : Fld Z h a O n d old) (E : Exa Z h a C) (L : (Jvm.Cond.lays C O n d).before a0 Z = true ∨ ((Jvm.Cond.laysFinal C O n d).before a0 Z = true ∧ own = O ∧ meth.name = "<init>")) (wi : (Jvm.Cond.instantiable C kk).before a0 Z = true) (ga : n0 ≤ a)
    (hty : parseFieldDescriptor d = some ty) (hn : narrow ty v = v) (hf : fits ty v = true) {pc : Nat} {Ls : Array Slot} {rest : List Value} (hd : decode c.code pc = .ok (.putfield index, 3)) :
    ∃ T' h' L', Stand p l e R s m args below meth c T' L' cells slots ∧ Fr n0 L' ∧ T'.heap = h' ∧ Wr h h' a (Jvm.RoadKit.slotOf Z O n d) v ∧ Fld Z h' a O n d v ∧
      ∀ target, Steps p.tables e below (T'.setTop (mkF m (pc + 3) Ls rest)) target → Steps p.tables e below (T.setTop (mkF m pc Ls (v :: .ref a :: rest))) target := by
  obtain ⟨T', h', X', e', W, st⟩ := putF X hx hZ hown (host := "") (Or.inl w) Via.refl eT F E L wi hty hn hf (g := mkF m pc Ls (v :: .ref a :: rest)) rfl rfl hd
  exact ⟨T', h', _, X', Fr.snoc X' N ga, e', W, F.same W, st⟩
theorem own_putFN (X : Stand p l e R s m args below meth c T locs cells slots) (N : Fr n0 locs) (hx : p.tables.exec = Jvm.exec) (hZ : Z.Warmed39 s.vm) {own O n d C : String} {index kk : Nat} {ty : FieldType} (hown : s.vm.findClass own = some m.cls) (w : (Jvm.Cond.fieldLink own index O n d).before a0 Z = true)
    (eT : T.heap = h) {a : Addr} {v v' old : Value} (F : Fld Z h a O n d old) (E : Exa Z h a C) (L : (Jvm.Cond.lays C O n d).before a0 Z = true ∨ ((Jvm.Cond.laysFinal C O n d).before a0 Z = true ∧ own = O ∧ meth.name = "<init>")) (wi : (Jvm.Cond.instantiable C kk).before a0 Z = true) (ga : n0 ≤ a)
    (hty : parseFieldDescriptor d = some ty) (hn : narrow ty v = v') (hf : fits ty v' = true) {pc : Nat} {Ls : Array Slot} {rest : List Value} (hd : decode c.code pc = .ok (.putfield index, 3)) :
    ∃ T' h' L', Stand p l e R s m args below meth c T' L' cells slots ∧ Fr n0 L' ∧ T'.heap = h' ∧ Wr h h' a (Jvm.RoadKit.slotOf Z O n d) v' ∧ Fld Z h' a O n d v' ∧
      ∀ target, Steps p.tables e below (T'.setTop (mkF m (pc + 3) Ls rest)) target → Steps p.tables e below (T.setTop (mkF m pc Ls (v :: .ref a :: rest))) target := by
  obtain ⟨T', h', X', e', W, st⟩ := putFN X hx hZ hown w Via.refl eT F E L wi hty hn hf (g := mkF m pc Ls (v :: .ref a :: rest)) rfl rfl hd
  exact ⟨T', h', _, X', Fr.snoc X' N ga, e', W, F.same W, st⟩
/-- new -/
theorem own_newO (X : Stand p l e R s m args below meth c T locs cells slots) (hx : p.tables.exec = Jvm.exec) (hZ : Z.Warmed39 s.vm) {own C : String} {index n : Nat} (hown : s.vm.findClass own = some m.cls) (w : (Jvm.Cond.classLink own index C).before a0 Z = true) (wi : (Jvm.Cond.instantiable C n).before a0 Z = true) (wz : (Jvm.Cond.initialized C).before a0 Z = true) (eT : T.heap = h)
    {pc : Nat} {Ls : Array Slot} {rest : List Value} (hd : decode c.code pc = .ok (.new index, 3)) (hc : cells + 1 ≤ R.cells) (hl : slots + n ≤ R.slots) :
    ∃ T' h' a, Stand p l e R s m args below meth c T' locs (cells + 1) (slots + n) ∧ T'.heap = h' ∧ Ext h h' ∧ a = h.size ∧ Exa Z h' a C ∧ (∀ {O nm d : String} {ty : FieldType}, Laid Z a0 C O nm d → parseFieldDescriptor d = some ty → Fld Z h' a O nm d (defaultValue ty)) ∧
      ∀ target, Steps p.tables e below (T'.setTop (mkF m (pc + 3) Ls (.ref a :: rest))) target → Steps p.tables e below (T.setTop (mkF m pc Ls rest)) target := by
  obtain ⟨T', h', X', e', E, A, D, -, st⟩ := newO X hx hZ hown w wi wz eT (g := mkF m pc Ls rest) rfl hd hc hl
  exact ⟨T', h', h.size, X', e', E, rfl, A, D, st⟩
/-- a static method that may write and make -/
theorem own_callSW {own : String} {index : Nat} {y : MethodName} {bytes : ByteArray} {maxL W : Nat} {ret : Option FieldType} {rm : Room} {as : Array Value} {q : Option Value → Heap → Prop}
    (X : Stand p l e R s m args below meth c T locs cells slots) (N : Fr n0 locs) (hx : p.tables.exec = Jvm.exec) (hZ : Z.Warmed39 s.vm) (hown : s.vm.findClass own = some m.cls)
    (w1 : (Jvm.Cond.methodLink own index y).before a0 Z = true) (w2 : (Jvm.Cond.static y).before a0 Z = true) (w3 : (Jvm.Cond.initialized y.cls).before a0 Z = true) (w4 : (Jvm.Cond.code y bytes maxL ret).before a0 Z = true)
    (hy : y.cls ≠ "java/lang/invoke/MethodHandle" ∧ y.cls ≠ "java/lang/invoke/VarHandle") (hM : own_C l Z y bytes maxL ret [] rm as h (own_W n0 q))
    (hf : rm.frames + 1 ≤ R.frames) (hl : W + (maxL + 11) + rm.locals ≤ R.locals) (hcc : cells + rm.cells ≤ R.cells) (hss : slots + rm.slots ≤ R.slots) (e0 : T.heap = h)
    {pc : Nat} {Ls : Array Slot} {st argsL rest : List Value} (hsize : Ls.size = c.maxLocals) (hlen : ∀ sig, parseMethodDescriptor y.desc = some sig → argsL.length = sig.parameters.length) (has : argsL.toArray = as)
    (hst : st = argsL.reverse ++ rest) (hW : 2 * 0 + (rest.map fun v => v.category).sum ≤ W) (hd : decode c.code pc = .ok (.invokestatic index, 3)) :
    ∃ (v : Option Value) (T' : State) (h' : Heap) (L' : List Loc), Stand p l e R s m args below meth c T' L' (cells + rm.cells) (slots + rm.slots) ∧ Fr n0 L' ∧ T'.heap = h' ∧ q v h' ∧
      ∀ target, Steps p.tables e below (T'.setTop (mkF m (pc + 3) Ls (v.toList ++ rest))) target → Steps p.tables e below (T.setTop (mkF m pc Ls st)) target := by
  obtain ⟨v, T', L, X', ⟨N', hq⟩, stp⟩ := own_callS X hx hZ hown w1 w2 w3 w4 hy hM hf hl hcc hss e0 hsize hlen has hst hW hd
  exact ⟨v, T', _, _, X', N.app N', rfl, hq, stp⟩
/-- a constructor by its contract -/
theorem own_callI {own : String} {index : Nat} {y : MethodName} {bytes : ByteArray} {maxL W : Nat} {rm : Room} {as : Array Value} {q : Option Value → Heap → Prop} {a : Addr}
    (X : Stand p l e R s m args below meth c T locs cells slots) (N : Fr n0 locs) (hx : p.tables.exec = Jvm.exec) (hZ : Z.Warmed39 s.vm) (hy1 : y.name = "<init>") (hown : s.vm.findClass own = some m.cls)
    (w1 : (Jvm.Cond.methodLink own index y).before a0 Z = true) (w2 : (Jvm.Cond.instanceMethod y).before a0 Z = true) (w3 : (Jvm.Cond.initialized y.cls).before a0 Z = true) (w4 : (Jvm.Cond.code y bytes maxL none).before a0 Z = true)
    (hy : y.cls ≠ "java/lang/invoke/MethodHandle" ∧ y.cls ≠ "java/lang/invoke/VarHandle") (hM : own_C l Z y bytes maxL none [] rm as h (own_W n0 q))
    (hf : rm.frames + 1 ≤ R.frames) (hl : W + (maxL + 11) + rm.locals ≤ R.locals) (hcc : cells + rm.cells ≤ R.cells) (hss : slots + rm.slots ≤ R.slots) (e0 : T.heap = h)
    {pc : Nat} {Ls : Array Slot} {st argsL rest : List Value} (hsize : Ls.size = c.maxLocals) (hlen : ∀ sig, parseMethodDescriptor y.desc = some sig → argsL.length = sig.parameters.length) (has : (Value.ref a :: argsL).toArray = as)
    (hst : st = argsL.reverse ++ .ref a :: rest) (hW : 2 * 0 + (rest.map fun v => v.category).sum ≤ W) (hd : decode c.code pc = .ok (.invokespecial index, 3)) :
    ∃ (v : Option Value) (T' : State) (h' : Heap) (L' : List Loc), Stand p l e R s m args below meth c T' L' (cells + rm.cells) (slots + rm.slots) ∧ Fr n0 L' ∧ T'.heap = h' ∧ q v h' ∧
      ∀ target, Steps p.tables e below (T'.setTop (mkF m (pc + 3) Ls (v.toList ++ rest))) target → Steps p.tables e below (T.setTop (mkF m pc Ls st)) target := by
  obtain ⟨v, _, ⟨T', L', k', n'⟩, -, X', ⟨Lc, ⟨N', hq⟩, h1, h2, h3⟩, stp⟩ := X.specialBack hx (y := y) hy1 hown (mvT hZ w1) (mvT hZ w2) (mvT hZ w4) hy
    (backOf (W := W) hM hZ w4 w3 hf hl) (g := mkF m pc Ls st) rfl hsize (Steps.refl _) (a := a) (argsL := argsL) (rest := rest) hlen hst hW hd (fun _ _ => ⟨has, e0, hcc, hss⟩)
  dsimp only [Pt.U, Pt.locs, Pt.cells, Pt.slots] at X' h1 h2 h3 stp hq
  subst h1 h2 h3
  exact ⟨v, T', _, _, X', N.app N', rfl, hq, fun t k => stp.trans k⟩
/-- an instance method by its contract -/
theorem own_callV {own C : String} {index : Nat} {y z : MethodName} {bytes : ByteArray} {maxL W : Nat} {ret : Option FieldType} {rm : Room} {as : Array Value} {q : Option Value → Heap → Prop} {a : Addr}
    (X : Stand p l e R s m args below meth c T locs cells slots) (N : Fr n0 locs) (hx : p.tables.exec = Jvm.exec) (hZ : Z.Warmed39 s.vm) (hown : s.vm.findClass own = some m.cls)
    (w1 : (Jvm.Cond.methodLink own index y).before a0 Z = true) (w2 : (Jvm.Cond.declares y).before a0 Z = true) (hnf : NotFace s y) (ws : (Jvm.Cond.selects C y z).before a0 Z = true) (wi : (Jvm.Cond.instanceMethod z).before a0 Z = true) (w3 : (Jvm.Cond.initialized z.cls).before a0 Z = true) (w4 : (Jvm.Cond.code z bytes maxL ret).before a0 Z = true)
    (hy : y.cls ≠ "java/lang/invoke/MethodHandle" ∧ y.cls ≠ "java/lang/invoke/VarHandle") (hM : own_C l Z z bytes maxL ret [] rm as h (own_W n0 q))
    (hf : rm.frames + 1 ≤ R.frames) (hl : W + (maxL + 11) + rm.locals ≤ R.locals) (hcc : cells + rm.cells ≤ R.cells) (hss : slots + rm.slots ≤ R.slots) (e0 : T.heap = h) (E : Exa Z h a C)
    {pc : Nat} {Ls : Array Slot} {st argsL rest : List Value} (hsize : Ls.size = c.maxLocals) (hlen : ∀ sig, parseMethodDescriptor y.desc = some sig → argsL.length = sig.parameters.length) (has : (Value.ref a :: argsL).toArray = as)
    (hst : st = argsL.reverse ++ .ref a :: rest) (hW : 2 * 0 + (rest.map fun v => v.category).sum ≤ W) (hd : decode c.code pc = .ok (.invokevirtual index, 3)) :
    ∃ (v : Option Value) (T' : State) (h' : Heap) (L' : List Loc), Stand p l e R s m args below meth c T' L' (cells + rm.cells) (slots + rm.slots) ∧ Fr n0 L' ∧ T'.heap = h' ∧ q v h' ∧
      ∀ target, Steps p.tables e below (T'.setTop (mkF m (pc + 3) Ls (v.toList ++ rest))) target → Steps p.tables e below (T.setTop (mkF m pc Ls st)) target := by
  obtain ⟨cq, kq, qa, qb, qc⟩ := isOf hZ e0 E
  obtain ⟨v, _, ⟨T', L', k', n'⟩, -, X', ⟨Lc, ⟨N', hq⟩, h1, h2, h3⟩, stp⟩ := X.virtualBack hx (y := y) (z := z) hown (mvT hZ w1) (mvT hZ w2) hnf (mvT hZ ws) (mvT hZ wi) hy
    (backOf (W := W) hM hZ w4 w3 hf hl) qa qc (g := mkF m pc Ls st) rfl hsize (Steps.refl _) (argsL := argsL) (rest := rest) hlen hst hW hd (fun _ _ => ⟨has, e0, hcc, hss⟩)
  dsimp only [Pt.U, Pt.locs, Pt.cells, Pt.slots] at X' h1 h2 h3 stp hq
  subst h1 h2 h3
  exact ⟨v, T', _, _, X', N.app N', rfl, hq, fun t k => stp.trans k⟩
/-- an instance method that leaves the heap as it was -/
theorem own_callVP {own C : String} {index : Nat} {y z : MethodName} {bytes : ByteArray} {maxL W : Nat} {ret : Option FieldType} {rm : Room} {as : Array Value} {w : Value} {a : Addr}
    (X : Stand p l e R s m args below meth c T locs cells slots) (hx : p.tables.exec = Jvm.exec) (hZ : Z.Warmed39 s.vm) (hown : s.vm.findClass own = some m.cls)
    (w1 : (Jvm.Cond.methodLink own index y).before a0 Z = true) (w2 : (Jvm.Cond.declares y).before a0 Z = true) (hnf : NotFace s y) (ws : (Jvm.Cond.selects C y z).before a0 Z = true) (wi : (Jvm.Cond.instanceMethod z).before a0 Z = true) (w3 : (Jvm.Cond.initialized z.cls).before a0 Z = true) (w4 : (Jvm.Cond.code z bytes maxL ret).before a0 Z = true)
    (hy : y.cls ≠ "java/lang/invoke/MethodHandle" ∧ y.cls ≠ "java/lang/invoke/VarHandle") (hM : own_C l Z z bytes maxL ret [] rm as h (own_Q w h))
    (hf : rm.frames + 1 ≤ R.frames) (hl : W + (maxL + 11) + rm.locals ≤ R.locals) (hrc : rm.cells = 0) (hrs : rm.slots = 0) (hcc : cells + rm.cells ≤ R.cells) (hss : slots + rm.slots ≤ R.slots) (e0 : T.heap = h) (E : Exa Z h a C)
    {pc : Nat} {Ls : Array Slot} {st argsL rest : List Value} (hsize : Ls.size = c.maxLocals) (hlen : ∀ sig, parseMethodDescriptor y.desc = some sig → argsL.length = sig.parameters.length) (has : (Value.ref a :: argsL).toArray = as)
    (hst : st = argsL.reverse ++ .ref a :: rest) (hW : 2 * 0 + (rest.map fun v => v.category).sum ≤ W) (hd : decode c.code pc = .ok (.invokevirtual index, 3)) :
    ∃ (T' : State), Stand p l e R s m args below meth c T' locs cells slots ∧ T'.heap = h ∧
      ∀ target, Steps p.tables e below (T'.setTop (mkF m (pc + 3) Ls (w :: rest))) target → Steps p.tables e below (T.setTop (mkF m pc Ls st)) target := by
  obtain ⟨cq, kq, qa, qb, qc⟩ := isOf hZ e0 E
  obtain ⟨v, _, ⟨T', L', k', n'⟩, -, X', ⟨Lc, ⟨rfl, rfl, hh⟩, h1, h2, h3⟩, stp⟩ := X.virtualBack hx (y := y) (z := z) hown (mvT hZ w1) (mvT hZ w2) hnf (mvT hZ ws) (mvT hZ wi) hy
    (backOf (W := W) hM hZ w4 w3 hf hl) qa qc (g := mkF m pc Ls st) rfl hsize (Steps.refl _) (argsL := argsL) (rest := rest) hlen hst hW hd (fun _ _ => ⟨has, e0, hcc, hss⟩)
  dsimp only [Pt.U, Pt.locs, Pt.cells, Pt.slots] at X' h1 h2 h3 stp hh
  subst h1 h2 h3
  rw [List.append_nil, hrc, hrs] at X'
  exact ⟨T', X', hh, fun t k => stp.trans k⟩
theorem own_ke {h h' : Heap} (K : Keep h h' []) : Ext h h' := ⟨K.1, fun a c q => K.2.1 a c q (by simp)⟩
theorem own_ldA (X : Stand p l e R s m args below meth c T locs cells slots) (hx : p.tables.exec = Jvm.exec) (hZ : Z.Warmed39 s.vm) (eT : T.heap = h) {a : Addr} {k : ClassId} {ty : FieldType} {z : Int32} {vs : List Value} {d v : Value} (V : Arv Z h a k ty z vs d) (hty : ty.isReference = true) {j : Int32} (hj : ¬ j < 0 ∧ j < z) (hv : vs.getD j.toNatClampNeg d = v)
    {pc : Nat} {Ls : Array Slot} {rest : List Value} (hd : decode c.code pc = .ok (.aaload, 1)) (target : State) (hr : Steps p.tables e below (T.setTop (mkF m (pc + 1) Ls (v :: rest))) target) : Steps p.tables e below (T.setTop (mkF m pc Ls (.int j :: .ref a :: rest))) target := by
  obtain ⟨cl, Ar, q, S, Nn, H, G⟩ := V
  have hin := inb_of S hj
  refine X.aaload hx (j := j) (v := v) (by rw [eT]; exact Ar.1) (State.isArrayOf_alike hZ.alike Ar.2.1) hty Ar.2.2 hin ?_ (g := mkF m pc Ls (.int j :: .ref a :: rest)) rfl rfl hd _ hr
  rw [H _ (Nat.lt_of_not_le fun q => hin (Or.inr q)), hv]
end OwnHeap
theorem own_pd0 : parseMethodDescriptor "(II)I" = some ⟨[.int, .int], some .int⟩ := by decide +kernel
theorem own_pd1 : parseMethodDescriptor "(IIII)I" = some ⟨[.int, .int, .int, .int], some .int⟩ := by decide +kernel
theorem own_pd2 : parseMethodDescriptor "([I)I" = some ⟨[(.array .int)], some .int⟩ := by decide +kernel
def own_kf (a b c d : Int32) : Int32 := ((((((((((0 : Int32) <<< ((8 : Int32) &&& 31)) ||| (d &&& (255 : Int32))) <<< ((8 : Int32) &&& 31)) ||| (c &&& (255 : Int32))) <<< ((8 : Int32) &&& 31)) ||| (b &&& (255 : Int32))) <<< ((8 : Int32) &&& 31)) ||| (a &&& (255 : Int32))))
theorem own_d1_0 : decode prog_5_method_3_code 0 = .ok (.iload_n 0, 1) := by decide +kernel
theorem own_d1_1 : decode prog_5_method_3_code 1 = .ok (.sipush 255, 3) := by decide +kernel
theorem own_d1_4 : decode prog_5_method_3_code 4 = .ok (.iand, 1) := by decide +kernel
theorem own_d1_5 : decode prog_5_method_3_code 5 = .ok (.iload_n 1, 1) := by decide +kernel
theorem own_d1_6 : decode prog_5_method_3_code 6 = .ok (.sipush 255, 3) := by decide +kernel
theorem own_d1_9 : decode prog_5_method_3_code 9 = .ok (.iand, 1) := by decide +kernel
theorem own_d1_10 : decode prog_5_method_3_code 10 = .ok (.bipush 8, 2) := by decide +kernel
theorem own_d1_12 : decode prog_5_method_3_code 12 = .ok (.ishl, 1) := by decide +kernel
theorem own_d1_13 : decode prog_5_method_3_code 13 = .ok (.ior, 1) := by decide +kernel
theorem own_d1_14 : decode prog_5_method_3_code 14 = .ok (.iload_n 2, 1) := by decide +kernel
theorem own_d1_15 : decode prog_5_method_3_code 15 = .ok (.sipush 255, 3) := by decide +kernel
theorem own_d1_18 : decode prog_5_method_3_code 18 = .ok (.iand, 1) := by decide +kernel
theorem own_d1_19 : decode prog_5_method_3_code 19 = .ok (.bipush 16, 2) := by decide +kernel
theorem own_d1_21 : decode prog_5_method_3_code 21 = .ok (.ishl, 1) := by decide +kernel
theorem own_d1_22 : decode prog_5_method_3_code 22 = .ok (.ior, 1) := by decide +kernel
theorem own_d1_23 : decode prog_5_method_3_code 23 = .ok (.iload_n 3, 1) := by decide +kernel
theorem own_d1_24 : decode prog_5_method_3_code 24 = .ok (.sipush 255, 3) := by decide +kernel
theorem own_d1_27 : decode prog_5_method_3_code 27 = .ok (.iand, 1) := by decide +kernel
theorem own_d1_28 : decode prog_5_method_3_code 28 = .ok (.bipush 24, 2) := by decide +kernel
theorem own_d1_30 : decode prog_5_method_3_code 30 = .ok (.ishl, 1) := by decide +kernel
theorem own_d1_31 : decode prog_5_method_3_code 31 = .ok (.ior, 1) := by decide +kernel
theorem own_d1_32 : decode prog_5_method_3_code 32 = .ok (.ireturn, 1) := by decide +kernel
abbrev own_R1 : Room := { frames := 0, cells := 0, slots := 0, locals := 0 }
theorem own_pn1 : plainFor (⟨"com/example/skipstitch/skipstitch/GramTable", "key", "(IIII)I"⟩ : MethodName) = true := plainFor_of_name (by first | (simp [plainName, overriddenIn]; done) | decide +kernel)
theorem own_ef1 (m : MethodId) (p0 : Int32) (p1 : Int32) (p2 : Int32) (p3 : Int32) : entryFrame m #[(.int p0), (.int p1), (.int p2), (.int p3)] 4 = mkF m 0 #[.val (.int p0), .val (.int p1), .val (.int p2), .val (.int p3)] [] := by first | (simp [entryFrame, mkF, argsToLocals, Value.category]; done) | rfl
def own_F1 (p0 : Int32) (p1 : Int32) (p2 : Int32) (p3 : Int32) : Int32 := ((((p0 &&& (255 : Int32)) ||| ((p1 &&& (255 : Int32)) <<< ((8 : Int32) &&& 31))) ||| ((p2 &&& (255 : Int32)) <<< ((16 : Int32) &&& 31))) ||| ((p3 &&& (255 : Int32)) <<< ((24 : Int32) &&& 31)))
set_option maxRecDepth 65536 in
set_option maxHeartbeats 40000000 in
theorem own_rm1 (l : Launch) (Z : State) (a0 : Array Value) (hw : ∀ d ∈ tables_1, d.before a0 Z = true) (ws : List Jvm.Cond) (p0 : Int32) (p1 : Int32) (p2 : Int32) (p3 : Int32) (h0 : Heap) :
    own_C l Z (⟨"com/example/skipstitch/skipstitch/GramTable", "key", "(IIII)I"⟩ : MethodName) prog_5_method_3_code 4 (some .int) ws own_R1 #[(.int p0), (.int p1), (.int p2), (.int p3)] h0 (own_Q (.int (own_F1 p0 p1 p2 p3)) h0) := by
  refine MetFree.of_bodySF own_pn1 hisR ?_
  intro p e s m args below meth c s₁ Bd hml0 hP hK
  obtain ⟨rfl, hZ, hh⟩ := hP
  have hx := Bd.exec
  have hby := Bd.bytes
  have hml : c.maxLocals = 4 := hml0
  have hown : s.vm.findClass "com/example/skipstitch/skipstitch/GramTable" = some m.cls := findClass_of_methodNamed Bd.named
  have X0 : Stand p l e own_R1 s m #[(.int p0), (.int p1), (.int p2), (.int p3)] below meth c s₁ [] 0 0 := Stand.of_body Bd
  have e0 : s₁.heap = h0 := by rw [← hh, Bd.state]; rfl
  show own_G p e below (own_P s (own_Q (.int (own_F1 p0 p1 p2 p3)) h0) own_R1.cells own_R1.slots) (s₁.setTop (entryFrame m #[(.int p0), (.int p1), (.int p2), (.int p3)] 4))
  rw [own_ef1 m p0 p1 p2 p3]
  show own_G p e below _ (s₁.setTop (mkF m 0 #[.val (.int p0), .val (.int p1), .val (.int p2), .val (.int p3)] []))
  refine own_via (fun t k => XS.iloadN X0.here hx rfl (hb hby own_d1_0) rfl k) ?_
  show own_G p e below _ (s₁.setTop (mkF m 1 #[.val (.int p0), .val (.int p1), .val (.int p2), .val (.int p3)] [(.int p0)]))
  refine own_via (fun t k => XS.sipush X0.here hx rfl (hb hby own_d1_1) k) ?_
  show own_G p e below _ (s₁.setTop (mkF m 4 #[.val (.int p0), .val (.int p1), .val (.int p2), .val (.int p3)] [(.int (255 : Int32)), (.int p0)]))
  refine own_via (fun t k => XS.iand X0.here hx rfl (hb hby own_d1_4) rfl k) ?_
  show own_G p e below _ (s₁.setTop (mkF m 5 #[.val (.int p0), .val (.int p1), .val (.int p2), .val (.int p3)] [(.int (p0 &&& (255 : Int32)))]))
  refine own_via (fun t k => XS.iloadN X0.here hx rfl (hb hby own_d1_5) rfl k) ?_
  show own_G p e below _ (s₁.setTop (mkF m 6 #[.val (.int p0), .val (.int p1), .val (.int p2), .val (.int p3)] [(.int p1), (.int (p0 &&& (255 : Int32)))]))
  refine own_via (fun t k => XS.sipush X0.here hx rfl (hb hby own_d1_6) k) ?_
  show own_G p e below _ (s₁.setTop (mkF m 9 #[.val (.int p0), .val (.int p1), .val (.int p2), .val (.int p3)] [(.int (255 : Int32)), (.int p1), (.int (p0 &&& (255 : Int32)))]))
  refine own_via (fun t k => XS.iand X0.here hx rfl (hb hby own_d1_9) rfl k) ?_
  show own_G p e below _ (s₁.setTop (mkF m 10 #[.val (.int p0), .val (.int p1), .val (.int p2), .val (.int p3)] [(.int (p1 &&& (255 : Int32))), (.int (p0 &&& (255 : Int32)))]))
  refine own_via (fun t k => XS.bipush X0.here hx rfl (hb hby own_d1_10) k) ?_
  show own_G p e below _ (s₁.setTop (mkF m 12 #[.val (.int p0), .val (.int p1), .val (.int p2), .val (.int p3)] [(.int (8 : Int32)), (.int (p1 &&& (255 : Int32))), (.int (p0 &&& (255 : Int32)))]))
  refine own_via (fun t k => XS.ishl X0.here hx rfl (hb hby own_d1_12) rfl k) ?_
  show own_G p e below _ (s₁.setTop (mkF m 13 #[.val (.int p0), .val (.int p1), .val (.int p2), .val (.int p3)] [(.int ((p1 &&& (255 : Int32)) <<< ((8 : Int32) &&& 31))), (.int (p0 &&& (255 : Int32)))]))
  refine own_via (fun t k => XS.ior X0.here hx rfl (hb hby own_d1_13) rfl k) ?_
  show own_G p e below _ (s₁.setTop (mkF m 14 #[.val (.int p0), .val (.int p1), .val (.int p2), .val (.int p3)] [(.int ((p0 &&& (255 : Int32)) ||| ((p1 &&& (255 : Int32)) <<< ((8 : Int32) &&& 31))))]))
  refine own_via (fun t k => XS.iloadN X0.here hx rfl (hb hby own_d1_14) rfl k) ?_
  show own_G p e below _ (s₁.setTop (mkF m 15 #[.val (.int p0), .val (.int p1), .val (.int p2), .val (.int p3)] [(.int p2), (.int ((p0 &&& (255 : Int32)) ||| ((p1 &&& (255 : Int32)) <<< ((8 : Int32) &&& 31))))]))
  refine own_via (fun t k => XS.sipush X0.here hx rfl (hb hby own_d1_15) k) ?_
  show own_G p e below _ (s₁.setTop (mkF m 18 #[.val (.int p0), .val (.int p1), .val (.int p2), .val (.int p3)] [(.int (255 : Int32)), (.int p2), (.int ((p0 &&& (255 : Int32)) ||| ((p1 &&& (255 : Int32)) <<< ((8 : Int32) &&& 31))))]))
  refine own_via (fun t k => XS.iand X0.here hx rfl (hb hby own_d1_18) rfl k) ?_
  show own_G p e below _ (s₁.setTop (mkF m 19 #[.val (.int p0), .val (.int p1), .val (.int p2), .val (.int p3)] [(.int (p2 &&& (255 : Int32))), (.int ((p0 &&& (255 : Int32)) ||| ((p1 &&& (255 : Int32)) <<< ((8 : Int32) &&& 31))))]))
  refine own_via (fun t k => XS.bipush X0.here hx rfl (hb hby own_d1_19) k) ?_
  show own_G p e below _ (s₁.setTop (mkF m 21 #[.val (.int p0), .val (.int p1), .val (.int p2), .val (.int p3)] [(.int (16 : Int32)), (.int (p2 &&& (255 : Int32))), (.int ((p0 &&& (255 : Int32)) ||| ((p1 &&& (255 : Int32)) <<< ((8 : Int32) &&& 31))))]))
  refine own_via (fun t k => XS.ishl X0.here hx rfl (hb hby own_d1_21) rfl k) ?_
  show own_G p e below _ (s₁.setTop (mkF m 22 #[.val (.int p0), .val (.int p1), .val (.int p2), .val (.int p3)] [(.int ((p2 &&& (255 : Int32)) <<< ((16 : Int32) &&& 31))), (.int ((p0 &&& (255 : Int32)) ||| ((p1 &&& (255 : Int32)) <<< ((8 : Int32) &&& 31))))]))
  refine own_via (fun t k => XS.ior X0.here hx rfl (hb hby own_d1_22) rfl k) ?_
  show own_G p e below _ (s₁.setTop (mkF m 23 #[.val (.int p0), .val (.int p1), .val (.int p2), .val (.int p3)] [(.int (((p0 &&& (255 : Int32)) ||| ((p1 &&& (255 : Int32)) <<< ((8 : Int32) &&& 31))) ||| ((p2 &&& (255 : Int32)) <<< ((16 : Int32) &&& 31))))]))
  refine own_via (fun t k => XS.iloadN X0.here hx rfl (hb hby own_d1_23) rfl k) ?_
  show own_G p e below _ (s₁.setTop (mkF m 24 #[.val (.int p0), .val (.int p1), .val (.int p2), .val (.int p3)] [(.int p3), (.int (((p0 &&& (255 : Int32)) ||| ((p1 &&& (255 : Int32)) <<< ((8 : Int32) &&& 31))) ||| ((p2 &&& (255 : Int32)) <<< ((16 : Int32) &&& 31))))]))
  refine own_via (fun t k => XS.sipush X0.here hx rfl (hb hby own_d1_24) k) ?_
  show own_G p e below _ (s₁.setTop (mkF m 27 #[.val (.int p0), .val (.int p1), .val (.int p2), .val (.int p3)] [(.int (255 : Int32)), (.int p3), (.int (((p0 &&& (255 : Int32)) ||| ((p1 &&& (255 : Int32)) <<< ((8 : Int32) &&& 31))) ||| ((p2 &&& (255 : Int32)) <<< ((16 : Int32) &&& 31))))]))
  refine own_via (fun t k => XS.iand X0.here hx rfl (hb hby own_d1_27) rfl k) ?_
  show own_G p e below _ (s₁.setTop (mkF m 28 #[.val (.int p0), .val (.int p1), .val (.int p2), .val (.int p3)] [(.int (p3 &&& (255 : Int32))), (.int (((p0 &&& (255 : Int32)) ||| ((p1 &&& (255 : Int32)) <<< ((8 : Int32) &&& 31))) ||| ((p2 &&& (255 : Int32)) <<< ((16 : Int32) &&& 31))))]))
  refine own_via (fun t k => XS.bipush X0.here hx rfl (hb hby own_d1_28) k) ?_
  show own_G p e below _ (s₁.setTop (mkF m 30 #[.val (.int p0), .val (.int p1), .val (.int p2), .val (.int p3)] [(.int (24 : Int32)), (.int (p3 &&& (255 : Int32))), (.int (((p0 &&& (255 : Int32)) ||| ((p1 &&& (255 : Int32)) <<< ((8 : Int32) &&& 31))) ||| ((p2 &&& (255 : Int32)) <<< ((16 : Int32) &&& 31))))]))
  refine own_via (fun t k => XS.ishl X0.here hx rfl (hb hby own_d1_30) rfl k) ?_
  show own_G p e below _ (s₁.setTop (mkF m 31 #[.val (.int p0), .val (.int p1), .val (.int p2), .val (.int p3)] [(.int ((p3 &&& (255 : Int32)) <<< ((24 : Int32) &&& 31))), (.int (((p0 &&& (255 : Int32)) ||| ((p1 &&& (255 : Int32)) <<< ((8 : Int32) &&& 31))) ||| ((p2 &&& (255 : Int32)) <<< ((16 : Int32) &&& 31))))]))
  refine own_via (fun t k => XS.ior X0.here hx rfl (hb hby own_d1_31) rfl k) ?_
  show own_G p e below _ (s₁.setTop (mkF m 32 #[.val (.int p0), .val (.int p1), .val (.int p2), .val (.int p3)] [(.int ((((p0 &&& (255 : Int32)) ||| ((p1 &&& (255 : Int32)) <<< ((8 : Int32) &&& 31))) ||| ((p2 &&& (255 : Int32)) <<< ((16 : Int32) &&& 31))) ||| ((p3 &&& (255 : Int32)) <<< ((24 : Int32) &&& 31))))]))
  exact own_retI X0 hx Bd.returns Bd.notSynchronized (hb hby own_d1_32) ⟨by show (some (.int ((((p0 &&& (255 : Int32)) ||| ((p1 &&& (255 : Int32)) <<< ((8 : Int32) &&& 31))) ||| ((p2 &&& (255 : Int32)) <<< ((16 : Int32) &&& 31))) ||| ((p3 &&& (255 : Int32)) <<< ((24 : Int32) &&& 31)))) : Option Value) = some (.int (own_F1 p0 p1 p2 p3)); simp only [own_F1], rfl, e0⟩ (by decide) (by decide)
theorem own_d3_0 : decode jdk_29_method_69_code 0 = .ok (.iload_n 0, 1) := by decide +kernel
theorem own_d3_1 : decode jdk_29_method_69_code 1 = .ok (.iload_n 1, 1) := by decide +kernel
theorem own_d3_2 : decode jdk_29_method_69_code 2 = .ok (.if_icmp .gt 7, 3) := by decide +kernel
theorem own_d3_5 : decode jdk_29_method_69_code 5 = .ok (.iload_n 0, 1) := by decide +kernel
theorem own_d3_6 : decode jdk_29_method_69_code 6 = .ok (.goto 4, 3) := by decide +kernel
theorem own_d3_9 : decode jdk_29_method_69_code 9 = .ok (.iload_n 1, 1) := by decide +kernel
theorem own_d3_10 : decode jdk_29_method_69_code 10 = .ok (.ireturn, 1) := by decide +kernel
abbrev own_R3 : Room := { frames := 0, cells := 0, slots := 0, locals := 0 }
theorem own_pn3 : plainFor (⟨"java/lang/Math", "min", "(II)I"⟩ : MethodName) = true := Jvm.Free.JP.mathPlain rfl (by decide +kernel)
theorem own_ef3 (m : MethodId) (p0 : Int32) (p1 : Int32) : entryFrame m #[(.int p0), (.int p1)] 2 = mkF m 0 #[.val (.int p0), .val (.int p1)] [] := by first | (simp [entryFrame, mkF, argsToLocals, Value.category]; done) | rfl
def own_F3 (p0 : Int32) (p1 : Int32) : Int32 := (if p1 < p0 then p1 else p0)
set_option maxRecDepth 65536 in
set_option maxHeartbeats 40000000 in
theorem own_rm3 (l : Launch) (Z : State) (a0 : Array Value) (hw : ∀ d ∈ tables_1, d.before a0 Z = true) (ws : List Jvm.Cond) (p0 : Int32) (p1 : Int32) (h0 : Heap) :
    own_C l Z (⟨"java/lang/Math", "min", "(II)I"⟩ : MethodName) jdk_29_method_69_code 2 (some .int) ws own_R3 #[(.int p0), (.int p1)] h0 (own_Q (.int (own_F3 p0 p1)) h0) := by
  refine MetFree.of_bodySF own_pn3 hisR ?_
  intro p e s m args below meth c s₁ Bd hml0 hP hK
  obtain ⟨rfl, hZ, hh⟩ := hP
  have hx := Bd.exec
  have hby := Bd.bytes
  have hml : c.maxLocals = 2 := hml0
  have hown : s.vm.findClass "java/lang/Math" = some m.cls := findClass_of_methodNamed Bd.named
  have X0 : Stand p l e own_R3 s m #[(.int p0), (.int p1)] below meth c s₁ [] 0 0 := Stand.of_body Bd
  have e0 : s₁.heap = h0 := by rw [← hh, Bd.state]; rfl
  show own_G p e below (own_P s (own_Q (.int (own_F3 p0 p1)) h0) own_R3.cells own_R3.slots) (s₁.setTop (entryFrame m #[(.int p0), (.int p1)] 2))
  rw [own_ef3 m p0 p1]
  show own_G p e below _ (s₁.setTop (mkF m 0 #[.val (.int p0), .val (.int p1)] []))
  refine own_via (fun t k => XS.iloadN X0.here hx rfl (hb hby own_d3_0) rfl k) ?_
  show own_G p e below _ (s₁.setTop (mkF m 1 #[.val (.int p0), .val (.int p1)] [(.int p0)]))
  refine own_via (fun t k => XS.iloadN X0.here hx rfl (hb hby own_d3_1) rfl k) ?_
  show own_G p e below _ (s₁.setTop (mkF m 2 #[.val (.int p0), .val (.int p1)] [(.int p1), (.int p0)]))
  by_cases hc1 : p1 < p0
  ·
    refine own_via (fun t k => XS.icmpYes X0.here hx rfl (pc0 := 2) (pc' := 9) rfl (hb hby own_d3_2) rfl (tlt hc1).2.2.1 (by decide) (by decide) k) ?_
    show own_G p e below _ (s₁.setTop (mkF m 9 #[.val (.int p0), .val (.int p1)] []))
    refine own_via (fun t k => XS.iloadN X0.here hx rfl (hb hby own_d3_9) rfl k) ?_
    show own_G p e below _ (s₁.setTop (mkF m 10 #[.val (.int p0), .val (.int p1)] [(.int p1)]))
    exact own_retI X0 hx Bd.returns Bd.notSynchronized (hb hby own_d3_10) ⟨by show (some (.int p1) : Option Value) = some (.int (own_F3 p0 p1)); simp only [own_F3, if_pos hc1], rfl, e0⟩ (by decide) (by decide)
  ·
    refine own_via (fun t k => XS.icmpNo X0.here hx rfl (hb hby own_d3_2) rfl (flt hc1).2.2.1 k) ?_
    show own_G p e below _ (s₁.setTop (mkF m 5 #[.val (.int p0), .val (.int p1)] []))
    refine own_via (fun t k => XS.iloadN X0.here hx rfl (hb hby own_d3_5) rfl k) ?_
    show own_G p e below _ (s₁.setTop (mkF m 6 #[.val (.int p0), .val (.int p1)] [(.int p0)]))
    refine own_via (fun t k => XS.goto X0.here hx rfl (pc0 := 6) (pc' := 10) rfl (hb hby own_d3_6) (by decide) (by decide) k) ?_
    show own_G p e below _ (s₁.setTop (mkF m 10 #[.val (.int p0), .val (.int p1)] [(.int p0)]))
    exact own_retI X0 hx Bd.returns Bd.notSynchronized (hb hby own_d3_10) ⟨by show (some (.int p0) : Option Value) = some (.int (own_F3 p0 p1)); simp only [own_F3, if_neg hc1], rfl, e0⟩ (by decide) (by decide)
theorem own_d2_0 : decode prog_5_method_4_code 0 = .ok (.iconst 0, 1) := by decide +kernel
theorem own_d2_1 : decode prog_5_method_4_code 1 = .ok (.istore_n 1, 1) := by decide +kernel
theorem own_d2_2 : decode prog_5_method_4_code 2 = .ok (.aload_n 0, 1) := by decide +kernel
theorem own_d2_3 : decode prog_5_method_4_code 3 = .ok (.arraylength, 1) := by decide +kernel
theorem own_d2_4 : decode prog_5_method_4_code 4 = .ok (.iconst 4, 1) := by decide +kernel
theorem own_d2_5 : decode prog_5_method_4_code 5 = .ok (.invokestatic 25, 3) := by decide +kernel
theorem own_d2_8 : decode prog_5_method_4_code 8 = .ok (.iconst 1, 1) := by decide +kernel
theorem own_d2_9 : decode prog_5_method_4_code 9 = .ok (.isub, 1) := by decide +kernel
theorem own_d2_10 : decode prog_5_method_4_code 10 = .ok (.istore_n 2, 1) := by decide +kernel
theorem own_d2_11 : decode prog_5_method_4_code 11 = .ok (.iload_n 2, 1) := by decide +kernel
theorem own_d2_12 : decode prog_5_method_4_code 12 = .ok (.ifCond .lt 22, 3) := by decide +kernel
theorem own_d2_15 : decode prog_5_method_4_code 15 = .ok (.iload_n 1, 1) := by decide +kernel
theorem own_d2_16 : decode prog_5_method_4_code 16 = .ok (.bipush 8, 2) := by decide +kernel
theorem own_d2_18 : decode prog_5_method_4_code 18 = .ok (.ishl, 1) := by decide +kernel
theorem own_d2_19 : decode prog_5_method_4_code 19 = .ok (.aload_n 0, 1) := by decide +kernel
theorem own_d2_20 : decode prog_5_method_4_code 20 = .ok (.iload_n 2, 1) := by decide +kernel
theorem own_d2_21 : decode prog_5_method_4_code 21 = .ok (.iaload, 1) := by decide +kernel
theorem own_d2_22 : decode prog_5_method_4_code 22 = .ok (.sipush 255, 3) := by decide +kernel
theorem own_d2_25 : decode prog_5_method_4_code 25 = .ok (.iand, 1) := by decide +kernel
theorem own_d2_26 : decode prog_5_method_4_code 26 = .ok (.ior, 1) := by decide +kernel
theorem own_d2_27 : decode prog_5_method_4_code 27 = .ok (.istore_n 1, 1) := by decide +kernel
theorem own_d2_28 : decode prog_5_method_4_code 28 = .ok (.iinc 2 (-1), 3) := by decide +kernel
theorem own_d2_31 : decode prog_5_method_4_code 31 = .ok (.goto (-20), 3) := by decide +kernel
theorem own_d2_34 : decode prog_5_method_4_code 34 = .ok (.iload_n 1, 1) := by decide +kernel
theorem own_d2_35 : decode prog_5_method_4_code 35 = .ok (.ireturn, 1) := by decide +kernel
abbrev own_kof_R : Room := { frames := 1, cells := 0, slots := 0, locals := 13 }
theorem own_pn2 : plainFor (⟨"com/example/skipstitch/skipstitch/GramTable", "keyOfFirst", "([I)I"⟩ : MethodName) = true := plainFor_of_name (by first | (simp [plainName, overriddenIn]; done) | decide +kernel)
theorem own_kof_ef (m : MethodId) (a1 : Addr) : entryFrame m #[(.ref a1)] 3 = mkF m 0 #[.val (.ref a1), .unset, .unset] [] := by first | (simp [entryFrame, mkF, argsToLocals, Value.category]; done) | rfl
set_option maxRecDepth 65536 in
set_option maxHeartbeats 40000000 in
theorem own_kof (l : Launch) (Z : State) (a0 : Array Value) (hw : ∀ d ∈ tables_1, d.before a0 Z = true) (ws : List Jvm.Cond) (a1 : Addr) (k0 : ClassId) (b0 : Int32) (b1 : Int32) (b2 : Int32) (b3 : Int32) (h0 : Heap)  (i_V0 : Arv Z h0 a1 k0 .int (4 : Int32) [(.int b0), (.int b1), (.int b2), (.int b3)] (.int (0 : Int32))) :
    own_C l Z (⟨"com/example/skipstitch/skipstitch/GramTable", "keyOfFirst", "([I)I"⟩ : MethodName) prog_5_method_4_code 3 (some .int) ws own_kof_R #[(.ref a1)] h0 (own_Q (.int (own_kf b0 b1 b2 b3)) h0) := by
  refine MetFree.of_bodySF own_pn2 hisR ?_
  intro p e s m args below meth c s₁ Bd hml0 hP hK
  obtain ⟨rfl, hZ, hh⟩ := hP
  have hx := Bd.exec
  have hby := Bd.bytes
  have hml : c.maxLocals = 3 := hml0
  have hown : s.vm.findClass "com/example/skipstitch/skipstitch/GramTable" = some m.cls := findClass_of_methodNamed Bd.named
  have hnm := (name_of_methodNamed Bd.named Bd.method).1
  have X0 : Stand p l e own_kof_R s m #[(.ref a1)] below meth c s₁ [] 0 0 := Stand.of_body Bd
  have e0 : s₁.heap = h0 := by rw [← hh, Bd.state]; rfl
  show own_G p e below (own_P s (own_Q (.int (own_kf b0 b1 b2 b3)) h0) own_kof_R.cells own_kof_R.slots) (s₁.setTop (entryFrame m #[(.ref a1)] 3))
  rw [own_kof_ef m a1]
  show own_G p e below _ (s₁.setTop (mkF m 0 #[.val (.ref a1), .unset, .unset] []))
  refine own_via (fun t k => XS.iconst X0.here hx rfl (hb hby own_d2_0) k) ?_
  show own_G p e below _ (s₁.setTop (mkF m 1 #[.val (.ref a1), .unset, .unset] [(.int (0 : Int32))]))
  refine own_via (fun t k => XS.istoreN X0.here hx rfl (hb hby own_d2_1) rfl (l' := #[.val (.ref a1), .val (.int (0 : Int32)), .unset]) rfl k) ?_
  show own_G p e below _ (s₁.setTop (mkF m 2 #[.val (.ref a1), .val (.int (0 : Int32)), .unset] []))
  refine own_via (fun t k => XS.aloadN X0.here hx rfl (hb hby own_d2_2) rfl rfl k) ?_
  show own_G p e below _ (s₁.setTop (mkF m 3 #[.val (.ref a1), .val (.int (0 : Int32)), .unset] [(.ref a1)]))
  refine own_via (own_len X0 hx hZ e0 i_V0 (pc := 3) (Ls := #[.val (.ref a1), .val (.int (0 : Int32)), .unset]) (rest := []) (hb hby own_d2_3)) ?_
  show own_G p e below _ (s₁.setTop (mkF m 4 #[.val (.ref a1), .val (.int (0 : Int32)), .unset] [(.int (4 : Int32))]))
  refine own_via (fun t k => XS.iconst X0.here hx rfl (hb hby own_d2_4) k) ?_
  show own_G p e below _ (s₁.setTop (mkF m 5 #[.val (.ref a1), .val (.int (0 : Int32)), .unset] [(.int (4 : Int32)), (.int (4 : Int32))]))
  obtain ⟨T1, X1, e1, st1⟩ := own_callP (y := (⟨"java/lang/Math", "min", "(II)I"⟩ : MethodName)) (W := 0) X0 hx hZ hown (hw _ (List.mem_of_getElem? (i := 8) rfl)) (hw _ (List.mem_of_getElem? (i := 9) rfl)) (hw _ (List.mem_of_getElem? (i := 10) rfl)) (hw _ (List.mem_of_getElem? (i := 11) rfl)) (by decide) (own_rm3 l Z a0 hw [] (4 : Int32) (4 : Int32) h0) (by decide) (by decide) rfl rfl (by decide) (by decide) e0 (pc := 5) (Ls := #[.val (.ref a1), .val (.int (0 : Int32)), .unset]) (st := [(.int (4 : Int32)), (.int (4 : Int32))]) (argsL := [(.int (4 : Int32)), (.int (4 : Int32))]) (rest := []) (by rw [hml]; rfl) (lenOf own_pd0 rfl) rfl rfl (Nat.le_of_eq rfl) (hb hby own_d2_5)
  refine own_via st1 ?_
  show own_G p e below _ (T1.setTop (mkF m 8 #[.val (.ref a1), .val (.int (0 : Int32)), .unset] [(.int (own_F3 (4 : Int32) (4 : Int32)))]))
  rw [show (own_F3 (4 : Int32) (4 : Int32)) = (4 : Int32) from by decide]
  show own_G p e below _ (T1.setTop (mkF m 8 #[.val (.ref a1), .val (.int (0 : Int32)), .unset] [(.int (4 : Int32))]))
  refine own_via (fun t k => XS.iconst X1.here hx rfl (hb hby own_d2_8) k) ?_
  show own_G p e below _ (T1.setTop (mkF m 9 #[.val (.ref a1), .val (.int (0 : Int32)), .unset] [(.int (1 : Int32)), (.int (4 : Int32))]))
  refine own_via (fun t k => XS.isub X1.here hx rfl (hb hby own_d2_9) rfl k) ?_
  show own_G p e below _ (T1.setTop (mkF m 10 #[.val (.ref a1), .val (.int (0 : Int32)), .unset] [(.int (3 : Int32))]))
  refine own_via (fun t k => XS.istoreN X1.here hx rfl (hb hby own_d2_10) rfl (l' := #[.val (.ref a1), .val (.int (0 : Int32)), .val (.int (3 : Int32))]) rfl k) ?_
  show own_G p e below _ (T1.setTop (mkF m 11 #[.val (.ref a1), .val (.int (0 : Int32)), .val (.int (3 : Int32))] []))
  refine own_via (fun t k => XS.iloadN X1.here hx rfl (hb hby own_d2_11) rfl k) ?_
  show own_G p e below _ (T1.setTop (mkF m 12 #[.val (.ref a1), .val (.int (0 : Int32)), .val (.int (3 : Int32))] [(.int (3 : Int32))]))
  refine own_via (fun t k => XS.ifNo X1.here hx rfl (hb hby own_d2_12) rfl ((if0 _ _).trans (flt (by decide : ¬ ((3 : Int32) < (0 : Int32)))).1) k) ?_
  show own_G p e below _ (T1.setTop (mkF m 15 #[.val (.ref a1), .val (.int (0 : Int32)), .val (.int (3 : Int32))] []))
  refine own_via (fun t k => XS.iloadN X1.here hx rfl (hb hby own_d2_15) rfl k) ?_
  show own_G p e below _ (T1.setTop (mkF m 16 #[.val (.ref a1), .val (.int (0 : Int32)), .val (.int (3 : Int32))] [(.int (0 : Int32))]))
  refine own_via (fun t k => XS.bipush X1.here hx rfl (hb hby own_d2_16) k) ?_
  show own_G p e below _ (T1.setTop (mkF m 18 #[.val (.ref a1), .val (.int (0 : Int32)), .val (.int (3 : Int32))] [(.int (8 : Int32)), (.int (0 : Int32))]))
  refine own_via (fun t k => XS.ishl X1.here hx rfl (hb hby own_d2_18) rfl k) ?_
  show own_G p e below _ (T1.setTop (mkF m 19 #[.val (.ref a1), .val (.int (0 : Int32)), .val (.int (3 : Int32))] [(.int ((0 : Int32) <<< ((8 : Int32) &&& 31)))]))
  refine own_via (fun t k => XS.aloadN X1.here hx rfl (hb hby own_d2_19) rfl rfl k) ?_
  show own_G p e below _ (T1.setTop (mkF m 20 #[.val (.ref a1), .val (.int (0 : Int32)), .val (.int (3 : Int32))] [(.ref a1), (.int ((0 : Int32) <<< ((8 : Int32) &&& 31)))]))
  refine own_via (fun t k => XS.iloadN X1.here hx rfl (hb hby own_d2_20) rfl k) ?_
  show own_G p e below _ (T1.setTop (mkF m 21 #[.val (.ref a1), .val (.int (0 : Int32)), .val (.int (3 : Int32))] [(.int (3 : Int32)), (.ref a1), (.int ((0 : Int32) <<< ((8 : Int32) &&& 31)))]))
  refine own_via (own_ldI X1 hx hZ e1 i_V0 (j := (3 : Int32)) ⟨by decide, by decide⟩ (v := (.int b3)) rfl (pc := 21) (Ls := #[.val (.ref a1), .val (.int (0 : Int32)), .val (.int (3 : Int32))]) (rest := [(.int ((0 : Int32) <<< ((8 : Int32) &&& 31)))]) (hb hby own_d2_21)) ?_
  show own_G p e below _ (T1.setTop (mkF m 22 #[.val (.ref a1), .val (.int (0 : Int32)), .val (.int (3 : Int32))] [(.int b3), (.int ((0 : Int32) <<< ((8 : Int32) &&& 31)))]))
  refine own_via (fun t k => XS.sipush X1.here hx rfl (hb hby own_d2_22) k) ?_
  show own_G p e below _ (T1.setTop (mkF m 25 #[.val (.ref a1), .val (.int (0 : Int32)), .val (.int (3 : Int32))] [(.int (255 : Int32)), (.int b3), (.int ((0 : Int32) <<< ((8 : Int32) &&& 31)))]))
  refine own_via (fun t k => XS.iand X1.here hx rfl (hb hby own_d2_25) rfl k) ?_
  show own_G p e below _ (T1.setTop (mkF m 26 #[.val (.ref a1), .val (.int (0 : Int32)), .val (.int (3 : Int32))] [(.int (b3 &&& (255 : Int32))), (.int ((0 : Int32) <<< ((8 : Int32) &&& 31)))]))
  refine own_via (fun t k => XS.ior X1.here hx rfl (hb hby own_d2_26) rfl k) ?_
  show own_G p e below _ (T1.setTop (mkF m 27 #[.val (.ref a1), .val (.int (0 : Int32)), .val (.int (3 : Int32))] [(.int (((0 : Int32) <<< ((8 : Int32) &&& 31)) ||| (b3 &&& (255 : Int32))))]))
  refine own_via (fun t k => XS.istoreN X1.here hx rfl (hb hby own_d2_27) rfl (l' := #[.val (.ref a1), .val (.int (((0 : Int32) <<< ((8 : Int32) &&& 31)) ||| (b3 &&& (255 : Int32)))), .val (.int (3 : Int32))]) rfl k) ?_
  show own_G p e below _ (T1.setTop (mkF m 28 #[.val (.ref a1), .val (.int (((0 : Int32) <<< ((8 : Int32) &&& 31)) ||| (b3 &&& (255 : Int32)))), .val (.int (3 : Int32))] []))
  refine own_via (fun t k => XS.iinc X1.here hx rfl (hb hby own_d2_28) rfl (l' := #[.val (.ref a1), .val (.int (((0 : Int32) <<< ((8 : Int32) &&& 31)) ||| (b3 &&& (255 : Int32)))), .val (.int (2 : Int32))]) rfl k) ?_
  show own_G p e below _ (T1.setTop (mkF m 31 #[.val (.ref a1), .val (.int (((0 : Int32) <<< ((8 : Int32) &&& 31)) ||| (b3 &&& (255 : Int32)))), .val (.int (2 : Int32))] []))
  refine own_via (fun t k => XS.goto X1.here hx rfl (pc0 := 31) (pc' := 11) rfl (hb hby own_d2_31) (by decide) (by decide) k) ?_
  show own_G p e below _ (T1.setTop (mkF m 11 #[.val (.ref a1), .val (.int (((0 : Int32) <<< ((8 : Int32) &&& 31)) ||| (b3 &&& (255 : Int32)))), .val (.int (2 : Int32))] []))
  refine own_via (fun t k => XS.iloadN X1.here hx rfl (hb hby own_d2_11) rfl k) ?_
  show own_G p e below _ (T1.setTop (mkF m 12 #[.val (.ref a1), .val (.int (((0 : Int32) <<< ((8 : Int32) &&& 31)) ||| (b3 &&& (255 : Int32)))), .val (.int (2 : Int32))] [(.int (2 : Int32))]))
  refine own_via (fun t k => XS.ifNo X1.here hx rfl (hb hby own_d2_12) rfl ((if0 _ _).trans (flt (by decide : ¬ ((2 : Int32) < (0 : Int32)))).1) k) ?_
  show own_G p e below _ (T1.setTop (mkF m 15 #[.val (.ref a1), .val (.int (((0 : Int32) <<< ((8 : Int32) &&& 31)) ||| (b3 &&& (255 : Int32)))), .val (.int (2 : Int32))] []))
  refine own_via (fun t k => XS.iloadN X1.here hx rfl (hb hby own_d2_15) rfl k) ?_
  show own_G p e below _ (T1.setTop (mkF m 16 #[.val (.ref a1), .val (.int (((0 : Int32) <<< ((8 : Int32) &&& 31)) ||| (b3 &&& (255 : Int32)))), .val (.int (2 : Int32))] [(.int (((0 : Int32) <<< ((8 : Int32) &&& 31)) ||| (b3 &&& (255 : Int32))))]))
  refine own_via (fun t k => XS.bipush X1.here hx rfl (hb hby own_d2_16) k) ?_
  show own_G p e below _ (T1.setTop (mkF m 18 #[.val (.ref a1), .val (.int (((0 : Int32) <<< ((8 : Int32) &&& 31)) ||| (b3 &&& (255 : Int32)))), .val (.int (2 : Int32))] [(.int (8 : Int32)), (.int (((0 : Int32) <<< ((8 : Int32) &&& 31)) ||| (b3 &&& (255 : Int32))))]))
  refine own_via (fun t k => XS.ishl X1.here hx rfl (hb hby own_d2_18) rfl k) ?_
  show own_G p e below _ (T1.setTop (mkF m 19 #[.val (.ref a1), .val (.int (((0 : Int32) <<< ((8 : Int32) &&& 31)) ||| (b3 &&& (255 : Int32)))), .val (.int (2 : Int32))] [(.int ((((0 : Int32) <<< ((8 : Int32) &&& 31)) ||| (b3 &&& (255 : Int32))) <<< ((8 : Int32) &&& 31)))]))
  refine own_via (fun t k => XS.aloadN X1.here hx rfl (hb hby own_d2_19) rfl rfl k) ?_
  show own_G p e below _ (T1.setTop (mkF m 20 #[.val (.ref a1), .val (.int (((0 : Int32) <<< ((8 : Int32) &&& 31)) ||| (b3 &&& (255 : Int32)))), .val (.int (2 : Int32))] [(.ref a1), (.int ((((0 : Int32) <<< ((8 : Int32) &&& 31)) ||| (b3 &&& (255 : Int32))) <<< ((8 : Int32) &&& 31)))]))
  refine own_via (fun t k => XS.iloadN X1.here hx rfl (hb hby own_d2_20) rfl k) ?_
  show own_G p e below _ (T1.setTop (mkF m 21 #[.val (.ref a1), .val (.int (((0 : Int32) <<< ((8 : Int32) &&& 31)) ||| (b3 &&& (255 : Int32)))), .val (.int (2 : Int32))] [(.int (2 : Int32)), (.ref a1), (.int ((((0 : Int32) <<< ((8 : Int32) &&& 31)) ||| (b3 &&& (255 : Int32))) <<< ((8 : Int32) &&& 31)))]))
  refine own_via (own_ldI X1 hx hZ e1 i_V0 (j := (2 : Int32)) ⟨by decide, by decide⟩ (v := (.int b2)) rfl (pc := 21) (Ls := #[.val (.ref a1), .val (.int (((0 : Int32) <<< ((8 : Int32) &&& 31)) ||| (b3 &&& (255 : Int32)))), .val (.int (2 : Int32))]) (rest := [(.int ((((0 : Int32) <<< ((8 : Int32) &&& 31)) ||| (b3 &&& (255 : Int32))) <<< ((8 : Int32) &&& 31)))]) (hb hby own_d2_21)) ?_
  show own_G p e below _ (T1.setTop (mkF m 22 #[.val (.ref a1), .val (.int (((0 : Int32) <<< ((8 : Int32) &&& 31)) ||| (b3 &&& (255 : Int32)))), .val (.int (2 : Int32))] [(.int b2), (.int ((((0 : Int32) <<< ((8 : Int32) &&& 31)) ||| (b3 &&& (255 : Int32))) <<< ((8 : Int32) &&& 31)))]))
  refine own_via (fun t k => XS.sipush X1.here hx rfl (hb hby own_d2_22) k) ?_
  show own_G p e below _ (T1.setTop (mkF m 25 #[.val (.ref a1), .val (.int (((0 : Int32) <<< ((8 : Int32) &&& 31)) ||| (b3 &&& (255 : Int32)))), .val (.int (2 : Int32))] [(.int (255 : Int32)), (.int b2), (.int ((((0 : Int32) <<< ((8 : Int32) &&& 31)) ||| (b3 &&& (255 : Int32))) <<< ((8 : Int32) &&& 31)))]))
  refine own_via (fun t k => XS.iand X1.here hx rfl (hb hby own_d2_25) rfl k) ?_
  show own_G p e below _ (T1.setTop (mkF m 26 #[.val (.ref a1), .val (.int (((0 : Int32) <<< ((8 : Int32) &&& 31)) ||| (b3 &&& (255 : Int32)))), .val (.int (2 : Int32))] [(.int (b2 &&& (255 : Int32))), (.int ((((0 : Int32) <<< ((8 : Int32) &&& 31)) ||| (b3 &&& (255 : Int32))) <<< ((8 : Int32) &&& 31)))]))
  refine own_via (fun t k => XS.ior X1.here hx rfl (hb hby own_d2_26) rfl k) ?_
  show own_G p e below _ (T1.setTop (mkF m 27 #[.val (.ref a1), .val (.int (((0 : Int32) <<< ((8 : Int32) &&& 31)) ||| (b3 &&& (255 : Int32)))), .val (.int (2 : Int32))] [(.int (((((0 : Int32) <<< ((8 : Int32) &&& 31)) ||| (b3 &&& (255 : Int32))) <<< ((8 : Int32) &&& 31)) ||| (b2 &&& (255 : Int32))))]))
  refine own_via (fun t k => XS.istoreN X1.here hx rfl (hb hby own_d2_27) rfl (l' := #[.val (.ref a1), .val (.int (((((0 : Int32) <<< ((8 : Int32) &&& 31)) ||| (b3 &&& (255 : Int32))) <<< ((8 : Int32) &&& 31)) ||| (b2 &&& (255 : Int32)))), .val (.int (2 : Int32))]) rfl k) ?_
  show own_G p e below _ (T1.setTop (mkF m 28 #[.val (.ref a1), .val (.int (((((0 : Int32) <<< ((8 : Int32) &&& 31)) ||| (b3 &&& (255 : Int32))) <<< ((8 : Int32) &&& 31)) ||| (b2 &&& (255 : Int32)))), .val (.int (2 : Int32))] []))
  refine own_via (fun t k => XS.iinc X1.here hx rfl (hb hby own_d2_28) rfl (l' := #[.val (.ref a1), .val (.int (((((0 : Int32) <<< ((8 : Int32) &&& 31)) ||| (b3 &&& (255 : Int32))) <<< ((8 : Int32) &&& 31)) ||| (b2 &&& (255 : Int32)))), .val (.int (1 : Int32))]) rfl k) ?_
  show own_G p e below _ (T1.setTop (mkF m 31 #[.val (.ref a1), .val (.int (((((0 : Int32) <<< ((8 : Int32) &&& 31)) ||| (b3 &&& (255 : Int32))) <<< ((8 : Int32) &&& 31)) ||| (b2 &&& (255 : Int32)))), .val (.int (1 : Int32))] []))
  refine own_via (fun t k => XS.goto X1.here hx rfl (pc0 := 31) (pc' := 11) rfl (hb hby own_d2_31) (by decide) (by decide) k) ?_
  show own_G p e below _ (T1.setTop (mkF m 11 #[.val (.ref a1), .val (.int (((((0 : Int32) <<< ((8 : Int32) &&& 31)) ||| (b3 &&& (255 : Int32))) <<< ((8 : Int32) &&& 31)) ||| (b2 &&& (255 : Int32)))), .val (.int (1 : Int32))] []))
  refine own_via (fun t k => XS.iloadN X1.here hx rfl (hb hby own_d2_11) rfl k) ?_
  show own_G p e below _ (T1.setTop (mkF m 12 #[.val (.ref a1), .val (.int (((((0 : Int32) <<< ((8 : Int32) &&& 31)) ||| (b3 &&& (255 : Int32))) <<< ((8 : Int32) &&& 31)) ||| (b2 &&& (255 : Int32)))), .val (.int (1 : Int32))] [(.int (1 : Int32))]))
  refine own_via (fun t k => XS.ifNo X1.here hx rfl (hb hby own_d2_12) rfl ((if0 _ _).trans (flt (by decide : ¬ ((1 : Int32) < (0 : Int32)))).1) k) ?_
  show own_G p e below _ (T1.setTop (mkF m 15 #[.val (.ref a1), .val (.int (((((0 : Int32) <<< ((8 : Int32) &&& 31)) ||| (b3 &&& (255 : Int32))) <<< ((8 : Int32) &&& 31)) ||| (b2 &&& (255 : Int32)))), .val (.int (1 : Int32))] []))
  refine own_via (fun t k => XS.iloadN X1.here hx rfl (hb hby own_d2_15) rfl k) ?_
  show own_G p e below _ (T1.setTop (mkF m 16 #[.val (.ref a1), .val (.int (((((0 : Int32) <<< ((8 : Int32) &&& 31)) ||| (b3 &&& (255 : Int32))) <<< ((8 : Int32) &&& 31)) ||| (b2 &&& (255 : Int32)))), .val (.int (1 : Int32))] [(.int (((((0 : Int32) <<< ((8 : Int32) &&& 31)) ||| (b3 &&& (255 : Int32))) <<< ((8 : Int32) &&& 31)) ||| (b2 &&& (255 : Int32))))]))
  refine own_via (fun t k => XS.bipush X1.here hx rfl (hb hby own_d2_16) k) ?_
  show own_G p e below _ (T1.setTop (mkF m 18 #[.val (.ref a1), .val (.int (((((0 : Int32) <<< ((8 : Int32) &&& 31)) ||| (b3 &&& (255 : Int32))) <<< ((8 : Int32) &&& 31)) ||| (b2 &&& (255 : Int32)))), .val (.int (1 : Int32))] [(.int (8 : Int32)), (.int (((((0 : Int32) <<< ((8 : Int32) &&& 31)) ||| (b3 &&& (255 : Int32))) <<< ((8 : Int32) &&& 31)) ||| (b2 &&& (255 : Int32))))]))
  refine own_via (fun t k => XS.ishl X1.here hx rfl (hb hby own_d2_18) rfl k) ?_
  show own_G p e below _ (T1.setTop (mkF m 19 #[.val (.ref a1), .val (.int (((((0 : Int32) <<< ((8 : Int32) &&& 31)) ||| (b3 &&& (255 : Int32))) <<< ((8 : Int32) &&& 31)) ||| (b2 &&& (255 : Int32)))), .val (.int (1 : Int32))] [(.int ((((((0 : Int32) <<< ((8 : Int32) &&& 31)) ||| (b3 &&& (255 : Int32))) <<< ((8 : Int32) &&& 31)) ||| (b2 &&& (255 : Int32))) <<< ((8 : Int32) &&& 31)))]))
  refine own_via (fun t k => XS.aloadN X1.here hx rfl (hb hby own_d2_19) rfl rfl k) ?_
  show own_G p e below _ (T1.setTop (mkF m 20 #[.val (.ref a1), .val (.int (((((0 : Int32) <<< ((8 : Int32) &&& 31)) ||| (b3 &&& (255 : Int32))) <<< ((8 : Int32) &&& 31)) ||| (b2 &&& (255 : Int32)))), .val (.int (1 : Int32))] [(.ref a1), (.int ((((((0 : Int32) <<< ((8 : Int32) &&& 31)) ||| (b3 &&& (255 : Int32))) <<< ((8 : Int32) &&& 31)) ||| (b2 &&& (255 : Int32))) <<< ((8 : Int32) &&& 31)))]))
  refine own_via (fun t k => XS.iloadN X1.here hx rfl (hb hby own_d2_20) rfl k) ?_
  show own_G p e below _ (T1.setTop (mkF m 21 #[.val (.ref a1), .val (.int (((((0 : Int32) <<< ((8 : Int32) &&& 31)) ||| (b3 &&& (255 : Int32))) <<< ((8 : Int32) &&& 31)) ||| (b2 &&& (255 : Int32)))), .val (.int (1 : Int32))] [(.int (1 : Int32)), (.ref a1), (.int ((((((0 : Int32) <<< ((8 : Int32) &&& 31)) ||| (b3 &&& (255 : Int32))) <<< ((8 : Int32) &&& 31)) ||| (b2 &&& (255 : Int32))) <<< ((8 : Int32) &&& 31)))]))
  refine own_via (own_ldI X1 hx hZ e1 i_V0 (j := (1 : Int32)) ⟨by decide, by decide⟩ (v := (.int b1)) rfl (pc := 21) (Ls := #[.val (.ref a1), .val (.int (((((0 : Int32) <<< ((8 : Int32) &&& 31)) ||| (b3 &&& (255 : Int32))) <<< ((8 : Int32) &&& 31)) ||| (b2 &&& (255 : Int32)))), .val (.int (1 : Int32))]) (rest := [(.int ((((((0 : Int32) <<< ((8 : Int32) &&& 31)) ||| (b3 &&& (255 : Int32))) <<< ((8 : Int32) &&& 31)) ||| (b2 &&& (255 : Int32))) <<< ((8 : Int32) &&& 31)))]) (hb hby own_d2_21)) ?_
  show own_G p e below _ (T1.setTop (mkF m 22 #[.val (.ref a1), .val (.int (((((0 : Int32) <<< ((8 : Int32) &&& 31)) ||| (b3 &&& (255 : Int32))) <<< ((8 : Int32) &&& 31)) ||| (b2 &&& (255 : Int32)))), .val (.int (1 : Int32))] [(.int b1), (.int ((((((0 : Int32) <<< ((8 : Int32) &&& 31)) ||| (b3 &&& (255 : Int32))) <<< ((8 : Int32) &&& 31)) ||| (b2 &&& (255 : Int32))) <<< ((8 : Int32) &&& 31)))]))
  refine own_via (fun t k => XS.sipush X1.here hx rfl (hb hby own_d2_22) k) ?_
  show own_G p e below _ (T1.setTop (mkF m 25 #[.val (.ref a1), .val (.int (((((0 : Int32) <<< ((8 : Int32) &&& 31)) ||| (b3 &&& (255 : Int32))) <<< ((8 : Int32) &&& 31)) ||| (b2 &&& (255 : Int32)))), .val (.int (1 : Int32))] [(.int (255 : Int32)), (.int b1), (.int ((((((0 : Int32) <<< ((8 : Int32) &&& 31)) ||| (b3 &&& (255 : Int32))) <<< ((8 : Int32) &&& 31)) ||| (b2 &&& (255 : Int32))) <<< ((8 : Int32) &&& 31)))]))
  refine own_via (fun t k => XS.iand X1.here hx rfl (hb hby own_d2_25) rfl k) ?_
  show own_G p e below _ (T1.setTop (mkF m 26 #[.val (.ref a1), .val (.int (((((0 : Int32) <<< ((8 : Int32) &&& 31)) ||| (b3 &&& (255 : Int32))) <<< ((8 : Int32) &&& 31)) ||| (b2 &&& (255 : Int32)))), .val (.int (1 : Int32))] [(.int (b1 &&& (255 : Int32))), (.int ((((((0 : Int32) <<< ((8 : Int32) &&& 31)) ||| (b3 &&& (255 : Int32))) <<< ((8 : Int32) &&& 31)) ||| (b2 &&& (255 : Int32))) <<< ((8 : Int32) &&& 31)))]))
  refine own_via (fun t k => XS.ior X1.here hx rfl (hb hby own_d2_26) rfl k) ?_
  show own_G p e below _ (T1.setTop (mkF m 27 #[.val (.ref a1), .val (.int (((((0 : Int32) <<< ((8 : Int32) &&& 31)) ||| (b3 &&& (255 : Int32))) <<< ((8 : Int32) &&& 31)) ||| (b2 &&& (255 : Int32)))), .val (.int (1 : Int32))] [(.int (((((((0 : Int32) <<< ((8 : Int32) &&& 31)) ||| (b3 &&& (255 : Int32))) <<< ((8 : Int32) &&& 31)) ||| (b2 &&& (255 : Int32))) <<< ((8 : Int32) &&& 31)) ||| (b1 &&& (255 : Int32))))]))
  refine own_via (fun t k => XS.istoreN X1.here hx rfl (hb hby own_d2_27) rfl (l' := #[.val (.ref a1), .val (.int (((((((0 : Int32) <<< ((8 : Int32) &&& 31)) ||| (b3 &&& (255 : Int32))) <<< ((8 : Int32) &&& 31)) ||| (b2 &&& (255 : Int32))) <<< ((8 : Int32) &&& 31)) ||| (b1 &&& (255 : Int32)))), .val (.int (1 : Int32))]) rfl k) ?_
  show own_G p e below _ (T1.setTop (mkF m 28 #[.val (.ref a1), .val (.int (((((((0 : Int32) <<< ((8 : Int32) &&& 31)) ||| (b3 &&& (255 : Int32))) <<< ((8 : Int32) &&& 31)) ||| (b2 &&& (255 : Int32))) <<< ((8 : Int32) &&& 31)) ||| (b1 &&& (255 : Int32)))), .val (.int (1 : Int32))] []))
  refine own_via (fun t k => XS.iinc X1.here hx rfl (hb hby own_d2_28) rfl (l' := #[.val (.ref a1), .val (.int (((((((0 : Int32) <<< ((8 : Int32) &&& 31)) ||| (b3 &&& (255 : Int32))) <<< ((8 : Int32) &&& 31)) ||| (b2 &&& (255 : Int32))) <<< ((8 : Int32) &&& 31)) ||| (b1 &&& (255 : Int32)))), .val (.int (0 : Int32))]) rfl k) ?_
  show own_G p e below _ (T1.setTop (mkF m 31 #[.val (.ref a1), .val (.int (((((((0 : Int32) <<< ((8 : Int32) &&& 31)) ||| (b3 &&& (255 : Int32))) <<< ((8 : Int32) &&& 31)) ||| (b2 &&& (255 : Int32))) <<< ((8 : Int32) &&& 31)) ||| (b1 &&& (255 : Int32)))), .val (.int (0 : Int32))] []))
  refine own_via (fun t k => XS.goto X1.here hx rfl (pc0 := 31) (pc' := 11) rfl (hb hby own_d2_31) (by decide) (by decide) k) ?_
  show own_G p e below _ (T1.setTop (mkF m 11 #[.val (.ref a1), .val (.int (((((((0 : Int32) <<< ((8 : Int32) &&& 31)) ||| (b3 &&& (255 : Int32))) <<< ((8 : Int32) &&& 31)) ||| (b2 &&& (255 : Int32))) <<< ((8 : Int32) &&& 31)) ||| (b1 &&& (255 : Int32)))), .val (.int (0 : Int32))] []))
  refine own_via (fun t k => XS.iloadN X1.here hx rfl (hb hby own_d2_11) rfl k) ?_
  show own_G p e below _ (T1.setTop (mkF m 12 #[.val (.ref a1), .val (.int (((((((0 : Int32) <<< ((8 : Int32) &&& 31)) ||| (b3 &&& (255 : Int32))) <<< ((8 : Int32) &&& 31)) ||| (b2 &&& (255 : Int32))) <<< ((8 : Int32) &&& 31)) ||| (b1 &&& (255 : Int32)))), .val (.int (0 : Int32))] [(.int (0 : Int32))]))
  refine own_via (fun t k => XS.ifNo X1.here hx rfl (hb hby own_d2_12) rfl ((if0 _ _).trans (flt (by decide : ¬ ((0 : Int32) < (0 : Int32)))).1) k) ?_
  show own_G p e below _ (T1.setTop (mkF m 15 #[.val (.ref a1), .val (.int (((((((0 : Int32) <<< ((8 : Int32) &&& 31)) ||| (b3 &&& (255 : Int32))) <<< ((8 : Int32) &&& 31)) ||| (b2 &&& (255 : Int32))) <<< ((8 : Int32) &&& 31)) ||| (b1 &&& (255 : Int32)))), .val (.int (0 : Int32))] []))
  refine own_via (fun t k => XS.iloadN X1.here hx rfl (hb hby own_d2_15) rfl k) ?_
  show own_G p e below _ (T1.setTop (mkF m 16 #[.val (.ref a1), .val (.int (((((((0 : Int32) <<< ((8 : Int32) &&& 31)) ||| (b3 &&& (255 : Int32))) <<< ((8 : Int32) &&& 31)) ||| (b2 &&& (255 : Int32))) <<< ((8 : Int32) &&& 31)) ||| (b1 &&& (255 : Int32)))), .val (.int (0 : Int32))] [(.int (((((((0 : Int32) <<< ((8 : Int32) &&& 31)) ||| (b3 &&& (255 : Int32))) <<< ((8 : Int32) &&& 31)) ||| (b2 &&& (255 : Int32))) <<< ((8 : Int32) &&& 31)) ||| (b1 &&& (255 : Int32))))]))
  refine own_via (fun t k => XS.bipush X1.here hx rfl (hb hby own_d2_16) k) ?_
  show own_G p e below _ (T1.setTop (mkF m 18 #[.val (.ref a1), .val (.int (((((((0 : Int32) <<< ((8 : Int32) &&& 31)) ||| (b3 &&& (255 : Int32))) <<< ((8 : Int32) &&& 31)) ||| (b2 &&& (255 : Int32))) <<< ((8 : Int32) &&& 31)) ||| (b1 &&& (255 : Int32)))), .val (.int (0 : Int32))] [(.int (8 : Int32)), (.int (((((((0 : Int32) <<< ((8 : Int32) &&& 31)) ||| (b3 &&& (255 : Int32))) <<< ((8 : Int32) &&& 31)) ||| (b2 &&& (255 : Int32))) <<< ((8 : Int32) &&& 31)) ||| (b1 &&& (255 : Int32))))]))
  refine own_via (fun t k => XS.ishl X1.here hx rfl (hb hby own_d2_18) rfl k) ?_
  show own_G p e below _ (T1.setTop (mkF m 19 #[.val (.ref a1), .val (.int (((((((0 : Int32) <<< ((8 : Int32) &&& 31)) ||| (b3 &&& (255 : Int32))) <<< ((8 : Int32) &&& 31)) ||| (b2 &&& (255 : Int32))) <<< ((8 : Int32) &&& 31)) ||| (b1 &&& (255 : Int32)))), .val (.int (0 : Int32))] [(.int ((((((((0 : Int32) <<< ((8 : Int32) &&& 31)) ||| (b3 &&& (255 : Int32))) <<< ((8 : Int32) &&& 31)) ||| (b2 &&& (255 : Int32))) <<< ((8 : Int32) &&& 31)) ||| (b1 &&& (255 : Int32))) <<< ((8 : Int32) &&& 31)))]))
  refine own_via (fun t k => XS.aloadN X1.here hx rfl (hb hby own_d2_19) rfl rfl k) ?_
  show own_G p e below _ (T1.setTop (mkF m 20 #[.val (.ref a1), .val (.int (((((((0 : Int32) <<< ((8 : Int32) &&& 31)) ||| (b3 &&& (255 : Int32))) <<< ((8 : Int32) &&& 31)) ||| (b2 &&& (255 : Int32))) <<< ((8 : Int32) &&& 31)) ||| (b1 &&& (255 : Int32)))), .val (.int (0 : Int32))] [(.ref a1), (.int ((((((((0 : Int32) <<< ((8 : Int32) &&& 31)) ||| (b3 &&& (255 : Int32))) <<< ((8 : Int32) &&& 31)) ||| (b2 &&& (255 : Int32))) <<< ((8 : Int32) &&& 31)) ||| (b1 &&& (255 : Int32))) <<< ((8 : Int32) &&& 31)))]))
  refine own_via (fun t k => XS.iloadN X1.here hx rfl (hb hby own_d2_20) rfl k) ?_
  show own_G p e below _ (T1.setTop (mkF m 21 #[.val (.ref a1), .val (.int (((((((0 : Int32) <<< ((8 : Int32) &&& 31)) ||| (b3 &&& (255 : Int32))) <<< ((8 : Int32) &&& 31)) ||| (b2 &&& (255 : Int32))) <<< ((8 : Int32) &&& 31)) ||| (b1 &&& (255 : Int32)))), .val (.int (0 : Int32))] [(.int (0 : Int32)), (.ref a1), (.int ((((((((0 : Int32) <<< ((8 : Int32) &&& 31)) ||| (b3 &&& (255 : Int32))) <<< ((8 : Int32) &&& 31)) ||| (b2 &&& (255 : Int32))) <<< ((8 : Int32) &&& 31)) ||| (b1 &&& (255 : Int32))) <<< ((8 : Int32) &&& 31)))]))
  refine own_via (own_ldI X1 hx hZ e1 i_V0 (j := (0 : Int32)) ⟨by decide, by decide⟩ (v := (.int b0)) rfl (pc := 21) (Ls := #[.val (.ref a1), .val (.int (((((((0 : Int32) <<< ((8 : Int32) &&& 31)) ||| (b3 &&& (255 : Int32))) <<< ((8 : Int32) &&& 31)) ||| (b2 &&& (255 : Int32))) <<< ((8 : Int32) &&& 31)) ||| (b1 &&& (255 : Int32)))), .val (.int (0 : Int32))]) (rest := [(.int ((((((((0 : Int32) <<< ((8 : Int32) &&& 31)) ||| (b3 &&& (255 : Int32))) <<< ((8 : Int32) &&& 31)) ||| (b2 &&& (255 : Int32))) <<< ((8 : Int32) &&& 31)) ||| (b1 &&& (255 : Int32))) <<< ((8 : Int32) &&& 31)))]) (hb hby own_d2_21)) ?_
  show own_G p e below _ (T1.setTop (mkF m 22 #[.val (.ref a1), .val (.int (((((((0 : Int32) <<< ((8 : Int32) &&& 31)) ||| (b3 &&& (255 : Int32))) <<< ((8 : Int32) &&& 31)) ||| (b2 &&& (255 : Int32))) <<< ((8 : Int32) &&& 31)) ||| (b1 &&& (255 : Int32)))), .val (.int (0 : Int32))] [(.int b0), (.int ((((((((0 : Int32) <<< ((8 : Int32) &&& 31)) ||| (b3 &&& (255 : Int32))) <<< ((8 : Int32) &&& 31)) ||| (b2 &&& (255 : Int32))) <<< ((8 : Int32) &&& 31)) ||| (b1 &&& (255 : Int32))) <<< ((8 : Int32) &&& 31)))]))
  refine own_via (fun t k => XS.sipush X1.here hx rfl (hb hby own_d2_22) k) ?_
  show own_G p e below _ (T1.setTop (mkF m 25 #[.val (.ref a1), .val (.int (((((((0 : Int32) <<< ((8 : Int32) &&& 31)) ||| (b3 &&& (255 : Int32))) <<< ((8 : Int32) &&& 31)) ||| (b2 &&& (255 : Int32))) <<< ((8 : Int32) &&& 31)) ||| (b1 &&& (255 : Int32)))), .val (.int (0 : Int32))] [(.int (255 : Int32)), (.int b0), (.int ((((((((0 : Int32) <<< ((8 : Int32) &&& 31)) ||| (b3 &&& (255 : Int32))) <<< ((8 : Int32) &&& 31)) ||| (b2 &&& (255 : Int32))) <<< ((8 : Int32) &&& 31)) ||| (b1 &&& (255 : Int32))) <<< ((8 : Int32) &&& 31)))]))
  refine own_via (fun t k => XS.iand X1.here hx rfl (hb hby own_d2_25) rfl k) ?_
  show own_G p e below _ (T1.setTop (mkF m 26 #[.val (.ref a1), .val (.int (((((((0 : Int32) <<< ((8 : Int32) &&& 31)) ||| (b3 &&& (255 : Int32))) <<< ((8 : Int32) &&& 31)) ||| (b2 &&& (255 : Int32))) <<< ((8 : Int32) &&& 31)) ||| (b1 &&& (255 : Int32)))), .val (.int (0 : Int32))] [(.int (b0 &&& (255 : Int32))), (.int ((((((((0 : Int32) <<< ((8 : Int32) &&& 31)) ||| (b3 &&& (255 : Int32))) <<< ((8 : Int32) &&& 31)) ||| (b2 &&& (255 : Int32))) <<< ((8 : Int32) &&& 31)) ||| (b1 &&& (255 : Int32))) <<< ((8 : Int32) &&& 31)))]))
  refine own_via (fun t k => XS.ior X1.here hx rfl (hb hby own_d2_26) rfl k) ?_
  show own_G p e below _ (T1.setTop (mkF m 27 #[.val (.ref a1), .val (.int (((((((0 : Int32) <<< ((8 : Int32) &&& 31)) ||| (b3 &&& (255 : Int32))) <<< ((8 : Int32) &&& 31)) ||| (b2 &&& (255 : Int32))) <<< ((8 : Int32) &&& 31)) ||| (b1 &&& (255 : Int32)))), .val (.int (0 : Int32))] [(.int (((((((((0 : Int32) <<< ((8 : Int32) &&& 31)) ||| (b3 &&& (255 : Int32))) <<< ((8 : Int32) &&& 31)) ||| (b2 &&& (255 : Int32))) <<< ((8 : Int32) &&& 31)) ||| (b1 &&& (255 : Int32))) <<< ((8 : Int32) &&& 31)) ||| (b0 &&& (255 : Int32))))]))
  refine own_via (fun t k => XS.istoreN X1.here hx rfl (hb hby own_d2_27) rfl (l' := #[.val (.ref a1), .val (.int (((((((((0 : Int32) <<< ((8 : Int32) &&& 31)) ||| (b3 &&& (255 : Int32))) <<< ((8 : Int32) &&& 31)) ||| (b2 &&& (255 : Int32))) <<< ((8 : Int32) &&& 31)) ||| (b1 &&& (255 : Int32))) <<< ((8 : Int32) &&& 31)) ||| (b0 &&& (255 : Int32)))), .val (.int (0 : Int32))]) rfl k) ?_
  show own_G p e below _ (T1.setTop (mkF m 28 #[.val (.ref a1), .val (.int (((((((((0 : Int32) <<< ((8 : Int32) &&& 31)) ||| (b3 &&& (255 : Int32))) <<< ((8 : Int32) &&& 31)) ||| (b2 &&& (255 : Int32))) <<< ((8 : Int32) &&& 31)) ||| (b1 &&& (255 : Int32))) <<< ((8 : Int32) &&& 31)) ||| (b0 &&& (255 : Int32)))), .val (.int (0 : Int32))] []))
  refine own_via (fun t k => XS.iinc X1.here hx rfl (hb hby own_d2_28) rfl (l' := #[.val (.ref a1), .val (.int (((((((((0 : Int32) <<< ((8 : Int32) &&& 31)) ||| (b3 &&& (255 : Int32))) <<< ((8 : Int32) &&& 31)) ||| (b2 &&& (255 : Int32))) <<< ((8 : Int32) &&& 31)) ||| (b1 &&& (255 : Int32))) <<< ((8 : Int32) &&& 31)) ||| (b0 &&& (255 : Int32)))), .val (.int (-1 : Int32))]) rfl k) ?_
  show own_G p e below _ (T1.setTop (mkF m 31 #[.val (.ref a1), .val (.int (((((((((0 : Int32) <<< ((8 : Int32) &&& 31)) ||| (b3 &&& (255 : Int32))) <<< ((8 : Int32) &&& 31)) ||| (b2 &&& (255 : Int32))) <<< ((8 : Int32) &&& 31)) ||| (b1 &&& (255 : Int32))) <<< ((8 : Int32) &&& 31)) ||| (b0 &&& (255 : Int32)))), .val (.int (-1 : Int32))] []))
  refine own_via (fun t k => XS.goto X1.here hx rfl (pc0 := 31) (pc' := 11) rfl (hb hby own_d2_31) (by decide) (by decide) k) ?_
  show own_G p e below _ (T1.setTop (mkF m 11 #[.val (.ref a1), .val (.int (((((((((0 : Int32) <<< ((8 : Int32) &&& 31)) ||| (b3 &&& (255 : Int32))) <<< ((8 : Int32) &&& 31)) ||| (b2 &&& (255 : Int32))) <<< ((8 : Int32) &&& 31)) ||| (b1 &&& (255 : Int32))) <<< ((8 : Int32) &&& 31)) ||| (b0 &&& (255 : Int32)))), .val (.int (-1 : Int32))] []))
  refine own_via (fun t k => XS.iloadN X1.here hx rfl (hb hby own_d2_11) rfl k) ?_
  show own_G p e below _ (T1.setTop (mkF m 12 #[.val (.ref a1), .val (.int (((((((((0 : Int32) <<< ((8 : Int32) &&& 31)) ||| (b3 &&& (255 : Int32))) <<< ((8 : Int32) &&& 31)) ||| (b2 &&& (255 : Int32))) <<< ((8 : Int32) &&& 31)) ||| (b1 &&& (255 : Int32))) <<< ((8 : Int32) &&& 31)) ||| (b0 &&& (255 : Int32)))), .val (.int (-1 : Int32))] [(.int (-1 : Int32))]))
  refine own_via (fun t k => XS.ifYes X1.here hx rfl (pc0 := 12) (pc' := 34) rfl (hb hby own_d2_12) rfl ((if0 _ _).trans (tlt (by decide : (-1 : Int32) < (0 : Int32))).1) (by decide) (by decide) k) ?_
  show own_G p e below _ (T1.setTop (mkF m 34 #[.val (.ref a1), .val (.int (((((((((0 : Int32) <<< ((8 : Int32) &&& 31)) ||| (b3 &&& (255 : Int32))) <<< ((8 : Int32) &&& 31)) ||| (b2 &&& (255 : Int32))) <<< ((8 : Int32) &&& 31)) ||| (b1 &&& (255 : Int32))) <<< ((8 : Int32) &&& 31)) ||| (b0 &&& (255 : Int32)))), .val (.int (-1 : Int32))] []))
  refine own_via (fun t k => XS.iloadN X1.here hx rfl (hb hby own_d2_34) rfl k) ?_
  show own_G p e below _ (T1.setTop (mkF m 35 #[.val (.ref a1), .val (.int (((((((((0 : Int32) <<< ((8 : Int32) &&& 31)) ||| (b3 &&& (255 : Int32))) <<< ((8 : Int32) &&& 31)) ||| (b2 &&& (255 : Int32))) <<< ((8 : Int32) &&& 31)) ||| (b1 &&& (255 : Int32))) <<< ((8 : Int32) &&& 31)) ||| (b0 &&& (255 : Int32)))), .val (.int (-1 : Int32))] [(.int (((((((((0 : Int32) <<< ((8 : Int32) &&& 31)) ||| (b3 &&& (255 : Int32))) <<< ((8 : Int32) &&& 31)) ||| (b2 &&& (255 : Int32))) <<< ((8 : Int32) &&& 31)) ||| (b1 &&& (255 : Int32))) <<< ((8 : Int32) &&& 31)) ||| (b0 &&& (255 : Int32))))]))
  exact own_retI X1 hx Bd.returns Bd.notSynchronized (hb hby own_d2_35) ⟨rfl, rfl, e1⟩ (by decide) (by decide)
theorem own_key (a b c d : Int32) : ((own_F1 a b c d).toInt - (a.toInt % 256 + b.toInt % 256 * 256 + c.toInt % 256 * 65536 + d.toInt % 256 * 16777216)) % 4294967296 = 0 := by
  have h1 := c_mask a 255 8 (by decide) (by decide)
  have h2 := c_mask b 255 8 (by decide) (by decide)
  have h3 := c_mask c 255 8 (by decide) (by decide)
  have h4 := c_mask d 255 8 (by decide) (by decide)
  unfold own_F1
  generalize a &&& 255 = a' at *
  generalize b &&& 255 = b' at *
  generalize c &&& 255 = c' at *
  generalize d &&& 255 = d' at *
  have s2 := c_ishl b' 8 8 (by decide)
  have s3 := c_ishl c' 16 16 (by decide)
  have s4 := c_ishl d' 24 24 (by decide)
  generalize b' <<< ((8 : Int32) &&& 31) = b2 at *
  generalize c' <<< ((16 : Int32) &&& 31) = c2 at *
  generalize d' <<< ((24 : Int32) &&& 31) = d2 at *
  have r2 := rng32 b2
  have r3 := rng32 c2
  have r4 := rng32 d2
  have o1 := c_or' a' b2 8 (by decide) 256 (by decide) (by omega) (by omega) (by omega)
  have p1 := rng32 (a' ||| b2)
  generalize a' ||| b2 = x at *
  have o2 := c_or' x c2 16 (by decide) 65536 (by decide) (by omega) (by omega) (by omega)
  have p2 := rng32 (x ||| c2)
  generalize x ||| c2 = y at *
  have o3 := c_or' y d2 24 (by decide) 16777216 (by decide) (by omega) (by omega) (by omega)
  generalize y ||| d2 = z at *
  omega
theorem own_kf_step (x b : Int32) : (((x <<< ((8 : Int32) &&& 31)) ||| (b &&& (255 : Int32))).toInt - (x.toInt * 256 + b.toInt % 256)) % 4294967296 = 0 := by
  have h1 := c_mask b 255 8 (by decide) (by decide)
  have s2 := c_ishl x 8 8 (by decide)
  generalize b &&& 255 = b' at *
  generalize x <<< ((8 : Int32) &&& 31) = y at *
  have r := rng32 y
  have o1 := c_or y b' 8 (by decide) 256 (by decide) (by omega) (by omega) (by omega)
  omega
theorem own_kf_eq (a b c d : Int32) : own_F1 a b c d = own_kf a b c d := by
  have k := own_key a b c d
  have r := rng32 (own_F1 a b c d)
  rw [← Int32.toInt_inj]
  unfold own_kf
  have s1 := own_kf_step 0 d
  generalize (((0 : Int32) <<< ((8 : Int32) &&& 31)) ||| (d &&& (255 : Int32))) = x1 at *
  have s2 := own_kf_step x1 c
  generalize ((x1 <<< ((8 : Int32) &&& 31)) ||| (c &&& (255 : Int32))) = x2 at *
  have s3 := own_kf_step x2 b
  generalize ((x2 <<< ((8 : Int32) &&& 31)) ||| (b &&& (255 : Int32))) = x3 at *
  have s4 := own_kf_step x3 a
  generalize ((x3 <<< ((8 : Int32) &&& 31)) ||| (a &&& (255 : Int32))) = x4 at *
  have r4 := rng32 x4
  rw [show (0 : Int32).toInt = 0 from rfl] at s1
  omega
theorem own_k0 {a b c d k : Int32} (h : own_F1 a b c d = k) : (k &&& (255 : Int32)) = (a &&& (255 : Int32)) := by
  subst h
  have k := own_key a b c d
  have h1 := c_mask a 255 8 (by decide) (by decide)
  have h2 := c_mask (own_F1 a b c d) 255 8 (by decide) (by decide)
  rw [← Int32.toInt_inj]
  omega
theorem own_k1 {a b c d k : Int32} (h : own_F1 a b c d = k) : ((k >>> ((8 : Int32) &&& 31)) &&& (255 : Int32)) = (b &&& (255 : Int32)) := by
  subst h
  have k := own_key a b c d
  have h1 := c_mask b 255 8 (by decide) (by decide)
  have h2 := c_mask (own_F1 a b c d >>> ((8 : Int32) &&& 31)) 255 8 (by decide) (by decide)
  have h3 := c_ishr (own_F1 a b c d) 8 8 (by decide)
  rw [← Int32.toInt_inj]
  omega
theorem own_k2 {a b c d k : Int32} (h : own_F1 a b c d = k) : ((k >>> ((16 : Int32) &&& 31)) &&& (255 : Int32)) = (c &&& (255 : Int32)) := by
  subst h
  have k := own_key a b c d
  have h1 := c_mask c 255 8 (by decide) (by decide)
  have h2 := c_mask (own_F1 a b c d >>> ((16 : Int32) &&& 31)) 255 8 (by decide) (by decide)
  have h3 := c_ishr (own_F1 a b c d) 16 16 (by decide)
  rw [← Int32.toInt_inj]
  omega
theorem own_k3 {a b c d k : Int32} (h : own_F1 a b c d = k) : ((k.toUInt32 >>> ((24 : Int32) &&& 31).toUInt32).toInt32) = (d &&& (255 : Int32)) := by
  subst h
  have k := own_key a b c d
  have h1 := c_mask d 255 8 (by decide) (by decide)
  have h3 := c_iushr (own_F1 a b c d) 24 24 (by decide) (by decide)
  rw [← Int32.toInt_inj]
  omega
theorem own_k4 {a b c d k : Int32} (h : own_F1 a b c d = k) : k = own_kf a b c d := by
  subst h
  exact own_kf_eq a b c d
theorem own_pn0 : plainFor x = true := plainFor_of_name (by first | (simp [plainName, overriddenIn]; done) | decide +kernel)
theorem own_rm0_ef (m : MethodId) (p0 : Int32) (p1 : Int32) (p2 : Int32) (p3 : Int32) : entryFrame m #[(.int p0), (.int p1), (.int p2), (.int p3)] maxLocals = mkF m 0 #[.val (.int p0), .val (.int p1), .val (.int p2), .val (.int p3), .unset, .unset, .unset, .unset, .unset, .unset, .unset] [] := by first | (simp [entryFrame, mkF, argsToLocals, Value.category, maxLocals]; done) | rfl
set_option maxRecDepth 65536 in
set_option maxHeartbeats 40000000 in
theorem own_rm0 (l : Launch) (Z : State) (a0 : Array Value) (hw : ∀ d ∈ tables_1, d.before a0 Z = true) (ws : List Jvm.Cond) (p0 : Int32) (p1 : Int32) (p2 : Int32) (p3 : Int32)  (h0 : Heap) (n0 : Nat) (Z0 : n0 ≤ h0.size)  :
    own_C l Z x code maxLocals ret ws room_1 #[(.int p0), (.int p1), (.int p2), (.int p3)] h0 (own_W n0 (fun v _ => v = some (.int 1))) := by
  refine MetFree.of_bodySF own_pn0 hisR ?_
  intro p e s m args below meth c s₁ Bd hml0 hP hK
  obtain ⟨rfl, hZ, hh⟩ := hP
  have hx := Bd.exec
  have hby := Bd.bytes
  have hml : c.maxLocals = 11 := hml0
  have hown : s.vm.findClass "com/example/skipstitch/skipstitch/GramTableKeyPinLaw" = some m.cls := findClass_of_methodNamed Bd.named
  have hnm := (name_of_methodNamed Bd.named Bd.method).1
  have X0 : Stand p l e room_1 s m #[(.int p0), (.int p1), (.int p2), (.int p3)] below meth c s₁ [] 0 0 := Stand.of_body Bd
  have e0 : s₁.heap = h0 := by rw [← hh, Bd.state]; rfl
  have N0 := Fr.nil n0
  show own_G p e below (own_P s (own_W n0 (fun v _ => v = some (.int 1))) room_1.cells room_1.slots) (s₁.setTop (entryFrame m #[(.int p0), (.int p1), (.int p2), (.int p3)] maxLocals))
  rw [own_rm0_ef m p0 p1 p2 p3]
  show own_G p e below _ (s₁.setTop (mkF m 0 #[.val (.int p0), .val (.int p1), .val (.int p2), .val (.int p3), .unset, .unset, .unset, .unset, .unset, .unset, .unset] []))
  refine own_via (fun t k => XS.iloadN X0.here hx rfl (hb hby at_0) rfl k) ?_
  show own_G p e below _ (s₁.setTop (mkF m 1 #[.val (.int p0), .val (.int p1), .val (.int p2), .val (.int p3), .unset, .unset, .unset, .unset, .unset, .unset, .unset] [(.int p0)]))
  refine own_via (fun t k => XS.iloadN X0.here hx rfl (hb hby at_1) rfl k) ?_
  show own_G p e below _ (s₁.setTop (mkF m 2 #[.val (.int p0), .val (.int p1), .val (.int p2), .val (.int p3), .unset, .unset, .unset, .unset, .unset, .unset, .unset] [(.int p1), (.int p0)]))
  refine own_via (fun t k => XS.iloadN X0.here hx rfl (hb hby at_2) rfl k) ?_
  show own_G p e below _ (s₁.setTop (mkF m 3 #[.val (.int p0), .val (.int p1), .val (.int p2), .val (.int p3), .unset, .unset, .unset, .unset, .unset, .unset, .unset] [(.int p2), (.int p1), (.int p0)]))
  refine own_via (fun t k => XS.iloadN X0.here hx rfl (hb hby at_3) rfl k) ?_
  show own_G p e below _ (s₁.setTop (mkF m 4 #[.val (.int p0), .val (.int p1), .val (.int p2), .val (.int p3), .unset, .unset, .unset, .unset, .unset, .unset, .unset] [(.int p3), (.int p2), (.int p1), (.int p0)]))
  obtain ⟨T1, X1, e1, st1⟩ := own_callP (y := (⟨"com/example/skipstitch/skipstitch/GramTable", "key", "(IIII)I"⟩ : MethodName)) (W := 0) X0 hx hZ hown (hw _ (List.mem_of_getElem? (i := 0) rfl)) (hw _ (List.mem_of_getElem? (i := 1) rfl)) (hw _ (List.mem_of_getElem? (i := 2) rfl)) (hw _ (List.mem_of_getElem? (i := 3) rfl)) (by decide) (own_rm1 l Z a0 hw [] p0 p1 p2 p3 h0) (by decide) (by decide) rfl rfl (by decide) (by decide) e0 (pc := 4) (Ls := #[.val (.int p0), .val (.int p1), .val (.int p2), .val (.int p3), .unset, .unset, .unset, .unset, .unset, .unset, .unset]) (st := [(.int p3), (.int p2), (.int p1), (.int p0)]) (argsL := [(.int p0), (.int p1), (.int p2), (.int p3)]) (rest := []) (by rw [hml]; rfl) (lenOf own_pd1 rfl) rfl rfl (Nat.le_of_eq rfl) (hb hby at_4)
  refine own_via st1 ?_
  show own_G p e below _ (T1.setTop (mkF m 7 #[.val (.int p0), .val (.int p1), .val (.int p2), .val (.int p3), .unset, .unset, .unset, .unset, .unset, .unset, .unset] [(.int (own_F1 p0 p1 p2 p3))]))
  generalize hvg2 : (own_F1 p0 p1 p2 p3) = vg2
  show own_G p e below _ (T1.setTop (mkF m 7 #[.val (.int p0), .val (.int p1), .val (.int p2), .val (.int p3), .unset, .unset, .unset, .unset, .unset, .unset, .unset] [(.int vg2)]))
  refine own_via (fun t k => XS.istore X1.here hx rfl (hb hby at_7) rfl (l' := #[.val (.int p0), .val (.int p1), .val (.int p2), .val (.int p3), .val (.int vg2), .unset, .unset, .unset, .unset, .unset, .unset]) rfl k) ?_
  show own_G p e below _ (T1.setTop (mkF m 9 #[.val (.int p0), .val (.int p1), .val (.int p2), .val (.int p3), .val (.int vg2), .unset, .unset, .unset, .unset, .unset, .unset] []))
  refine own_via (fun t k => XS.iload X1.here hx rfl (hb hby at_9) rfl k) ?_
  show own_G p e below _ (T1.setTop (mkF m 11 #[.val (.int p0), .val (.int p1), .val (.int p2), .val (.int p3), .val (.int vg2), .unset, .unset, .unset, .unset, .unset, .unset] [(.int vg2)]))
  refine own_via (fun t k => XS.sipush X1.here hx rfl (hb hby at_11) k) ?_
  show own_G p e below _ (T1.setTop (mkF m 14 #[.val (.int p0), .val (.int p1), .val (.int p2), .val (.int p3), .val (.int vg2), .unset, .unset, .unset, .unset, .unset, .unset] [(.int (255 : Int32)), (.int vg2)]))
  refine own_via (fun t k => XS.iand X1.here hx rfl (hb hby at_14) rfl k) ?_
  show own_G p e below _ (T1.setTop (mkF m 15 #[.val (.int p0), .val (.int p1), .val (.int p2), .val (.int p3), .val (.int vg2), .unset, .unset, .unset, .unset, .unset, .unset] [(.int (vg2 &&& (255 : Int32)))]))
  refine own_via (fun t k => XS.iloadN X1.here hx rfl (hb hby at_15) rfl k) ?_
  show own_G p e below _ (T1.setTop (mkF m 16 #[.val (.int p0), .val (.int p1), .val (.int p2), .val (.int p3), .val (.int vg2), .unset, .unset, .unset, .unset, .unset, .unset] [(.int p0), (.int (vg2 &&& (255 : Int32)))]))
  refine own_via (fun t k => XS.sipush X1.here hx rfl (hb hby at_16) k) ?_
  show own_G p e below _ (T1.setTop (mkF m 19 #[.val (.int p0), .val (.int p1), .val (.int p2), .val (.int p3), .val (.int vg2), .unset, .unset, .unset, .unset, .unset, .unset] [(.int (255 : Int32)), (.int p0), (.int (vg2 &&& (255 : Int32)))]))
  refine own_via (fun t k => XS.iand X1.here hx rfl (hb hby at_19) rfl k) ?_
  show own_G p e below _ (T1.setTop (mkF m 20 #[.val (.int p0), .val (.int p1), .val (.int p2), .val (.int p3), .val (.int vg2), .unset, .unset, .unset, .unset, .unset, .unset] [(.int (p0 &&& (255 : Int32))), (.int (vg2 &&& (255 : Int32)))]))
  refine own_via (fun t k => XS.icmpNo X1.here hx rfl (hb hby at_20) rfl (teq (own_k0 hvg2)).2 k) ?_
  show own_G p e below _ (T1.setTop (mkF m 23 #[.val (.int p0), .val (.int p1), .val (.int p2), .val (.int p3), .val (.int vg2), .unset, .unset, .unset, .unset, .unset, .unset] []))
  refine own_via (fun t k => XS.iconst X1.here hx rfl (hb hby at_23) k) ?_
  show own_G p e below _ (T1.setTop (mkF m 24 #[.val (.int p0), .val (.int p1), .val (.int p2), .val (.int p3), .val (.int vg2), .unset, .unset, .unset, .unset, .unset, .unset] [(.int (1 : Int32))]))
  refine own_via (fun t k => XS.goto X1.here hx rfl (pc0 := 24) (pc' := 28) rfl (hb hby at_24) (by decide) (by decide) k) ?_
  show own_G p e below _ (T1.setTop (mkF m 28 #[.val (.int p0), .val (.int p1), .val (.int p2), .val (.int p3), .val (.int vg2), .unset, .unset, .unset, .unset, .unset, .unset] [(.int (1 : Int32))]))
  refine own_via (fun t k => XS.istore X1.here hx rfl (hb hby at_28) rfl (l' := #[.val (.int p0), .val (.int p1), .val (.int p2), .val (.int p3), .val (.int vg2), .val (.int (1 : Int32)), .unset, .unset, .unset, .unset, .unset]) rfl k) ?_
  show own_G p e below _ (T1.setTop (mkF m 30 #[.val (.int p0), .val (.int p1), .val (.int p2), .val (.int p3), .val (.int vg2), .val (.int (1 : Int32)), .unset, .unset, .unset, .unset, .unset] []))
  refine own_via (fun t k => XS.iload X1.here hx rfl (hb hby at_30) rfl k) ?_
  show own_G p e below _ (T1.setTop (mkF m 32 #[.val (.int p0), .val (.int p1), .val (.int p2), .val (.int p3), .val (.int vg2), .val (.int (1 : Int32)), .unset, .unset, .unset, .unset, .unset] [(.int vg2)]))
  refine own_via (fun t k => XS.bipush X1.here hx rfl (hb hby at_32) k) ?_
  show own_G p e below _ (T1.setTop (mkF m 34 #[.val (.int p0), .val (.int p1), .val (.int p2), .val (.int p3), .val (.int vg2), .val (.int (1 : Int32)), .unset, .unset, .unset, .unset, .unset] [(.int (8 : Int32)), (.int vg2)]))
  refine own_via (fun t k => XS.ishr X1.here hx rfl (hb hby at_34) rfl k) ?_
  show own_G p e below _ (T1.setTop (mkF m 35 #[.val (.int p0), .val (.int p1), .val (.int p2), .val (.int p3), .val (.int vg2), .val (.int (1 : Int32)), .unset, .unset, .unset, .unset, .unset] [(.int (vg2 >>> ((8 : Int32) &&& 31)))]))
  refine own_via (fun t k => XS.sipush X1.here hx rfl (hb hby at_35) k) ?_
  show own_G p e below _ (T1.setTop (mkF m 38 #[.val (.int p0), .val (.int p1), .val (.int p2), .val (.int p3), .val (.int vg2), .val (.int (1 : Int32)), .unset, .unset, .unset, .unset, .unset] [(.int (255 : Int32)), (.int (vg2 >>> ((8 : Int32) &&& 31)))]))
  refine own_via (fun t k => XS.iand X1.here hx rfl (hb hby at_38) rfl k) ?_
  show own_G p e below _ (T1.setTop (mkF m 39 #[.val (.int p0), .val (.int p1), .val (.int p2), .val (.int p3), .val (.int vg2), .val (.int (1 : Int32)), .unset, .unset, .unset, .unset, .unset] [(.int ((vg2 >>> ((8 : Int32) &&& 31)) &&& (255 : Int32)))]))
  refine own_via (fun t k => XS.iloadN X1.here hx rfl (hb hby at_39) rfl k) ?_
  show own_G p e below _ (T1.setTop (mkF m 40 #[.val (.int p0), .val (.int p1), .val (.int p2), .val (.int p3), .val (.int vg2), .val (.int (1 : Int32)), .unset, .unset, .unset, .unset, .unset] [(.int p1), (.int ((vg2 >>> ((8 : Int32) &&& 31)) &&& (255 : Int32)))]))
  refine own_via (fun t k => XS.sipush X1.here hx rfl (hb hby at_40) k) ?_
  show own_G p e below _ (T1.setTop (mkF m 43 #[.val (.int p0), .val (.int p1), .val (.int p2), .val (.int p3), .val (.int vg2), .val (.int (1 : Int32)), .unset, .unset, .unset, .unset, .unset] [(.int (255 : Int32)), (.int p1), (.int ((vg2 >>> ((8 : Int32) &&& 31)) &&& (255 : Int32)))]))
  refine own_via (fun t k => XS.iand X1.here hx rfl (hb hby at_43) rfl k) ?_
  show own_G p e below _ (T1.setTop (mkF m 44 #[.val (.int p0), .val (.int p1), .val (.int p2), .val (.int p3), .val (.int vg2), .val (.int (1 : Int32)), .unset, .unset, .unset, .unset, .unset] [(.int (p1 &&& (255 : Int32))), (.int ((vg2 >>> ((8 : Int32) &&& 31)) &&& (255 : Int32)))]))
  refine own_via (fun t k => XS.icmpNo X1.here hx rfl (hb hby at_44) rfl (teq (own_k1 hvg2)).2 k) ?_
  show own_G p e below _ (T1.setTop (mkF m 47 #[.val (.int p0), .val (.int p1), .val (.int p2), .val (.int p3), .val (.int vg2), .val (.int (1 : Int32)), .unset, .unset, .unset, .unset, .unset] []))
  refine own_via (fun t k => XS.iconst X1.here hx rfl (hb hby at_47) k) ?_
  show own_G p e below _ (T1.setTop (mkF m 48 #[.val (.int p0), .val (.int p1), .val (.int p2), .val (.int p3), .val (.int vg2), .val (.int (1 : Int32)), .unset, .unset, .unset, .unset, .unset] [(.int (1 : Int32))]))
  refine own_via (fun t k => XS.goto X1.here hx rfl (pc0 := 48) (pc' := 52) rfl (hb hby at_48) (by decide) (by decide) k) ?_
  show own_G p e below _ (T1.setTop (mkF m 52 #[.val (.int p0), .val (.int p1), .val (.int p2), .val (.int p3), .val (.int vg2), .val (.int (1 : Int32)), .unset, .unset, .unset, .unset, .unset] [(.int (1 : Int32))]))
  refine own_via (fun t k => XS.istore X1.here hx rfl (hb hby at_52) rfl (l' := #[.val (.int p0), .val (.int p1), .val (.int p2), .val (.int p3), .val (.int vg2), .val (.int (1 : Int32)), .val (.int (1 : Int32)), .unset, .unset, .unset, .unset]) rfl k) ?_
  show own_G p e below _ (T1.setTop (mkF m 54 #[.val (.int p0), .val (.int p1), .val (.int p2), .val (.int p3), .val (.int vg2), .val (.int (1 : Int32)), .val (.int (1 : Int32)), .unset, .unset, .unset, .unset] []))
  refine own_via (fun t k => XS.iload X1.here hx rfl (hb hby at_54) rfl k) ?_
  show own_G p e below _ (T1.setTop (mkF m 56 #[.val (.int p0), .val (.int p1), .val (.int p2), .val (.int p3), .val (.int vg2), .val (.int (1 : Int32)), .val (.int (1 : Int32)), .unset, .unset, .unset, .unset] [(.int vg2)]))
  refine own_via (fun t k => XS.bipush X1.here hx rfl (hb hby at_56) k) ?_
  show own_G p e below _ (T1.setTop (mkF m 58 #[.val (.int p0), .val (.int p1), .val (.int p2), .val (.int p3), .val (.int vg2), .val (.int (1 : Int32)), .val (.int (1 : Int32)), .unset, .unset, .unset, .unset] [(.int (16 : Int32)), (.int vg2)]))
  refine own_via (fun t k => XS.ishr X1.here hx rfl (hb hby at_58) rfl k) ?_
  show own_G p e below _ (T1.setTop (mkF m 59 #[.val (.int p0), .val (.int p1), .val (.int p2), .val (.int p3), .val (.int vg2), .val (.int (1 : Int32)), .val (.int (1 : Int32)), .unset, .unset, .unset, .unset] [(.int (vg2 >>> ((16 : Int32) &&& 31)))]))
  refine own_via (fun t k => XS.sipush X1.here hx rfl (hb hby at_59) k) ?_
  show own_G p e below _ (T1.setTop (mkF m 62 #[.val (.int p0), .val (.int p1), .val (.int p2), .val (.int p3), .val (.int vg2), .val (.int (1 : Int32)), .val (.int (1 : Int32)), .unset, .unset, .unset, .unset] [(.int (255 : Int32)), (.int (vg2 >>> ((16 : Int32) &&& 31)))]))
  refine own_via (fun t k => XS.iand X1.here hx rfl (hb hby at_62) rfl k) ?_
  show own_G p e below _ (T1.setTop (mkF m 63 #[.val (.int p0), .val (.int p1), .val (.int p2), .val (.int p3), .val (.int vg2), .val (.int (1 : Int32)), .val (.int (1 : Int32)), .unset, .unset, .unset, .unset] [(.int ((vg2 >>> ((16 : Int32) &&& 31)) &&& (255 : Int32)))]))
  refine own_via (fun t k => XS.iloadN X1.here hx rfl (hb hby at_63) rfl k) ?_
  show own_G p e below _ (T1.setTop (mkF m 64 #[.val (.int p0), .val (.int p1), .val (.int p2), .val (.int p3), .val (.int vg2), .val (.int (1 : Int32)), .val (.int (1 : Int32)), .unset, .unset, .unset, .unset] [(.int p2), (.int ((vg2 >>> ((16 : Int32) &&& 31)) &&& (255 : Int32)))]))
  refine own_via (fun t k => XS.sipush X1.here hx rfl (hb hby at_64) k) ?_
  show own_G p e below _ (T1.setTop (mkF m 67 #[.val (.int p0), .val (.int p1), .val (.int p2), .val (.int p3), .val (.int vg2), .val (.int (1 : Int32)), .val (.int (1 : Int32)), .unset, .unset, .unset, .unset] [(.int (255 : Int32)), (.int p2), (.int ((vg2 >>> ((16 : Int32) &&& 31)) &&& (255 : Int32)))]))
  refine own_via (fun t k => XS.iand X1.here hx rfl (hb hby at_67) rfl k) ?_
  show own_G p e below _ (T1.setTop (mkF m 68 #[.val (.int p0), .val (.int p1), .val (.int p2), .val (.int p3), .val (.int vg2), .val (.int (1 : Int32)), .val (.int (1 : Int32)), .unset, .unset, .unset, .unset] [(.int (p2 &&& (255 : Int32))), (.int ((vg2 >>> ((16 : Int32) &&& 31)) &&& (255 : Int32)))]))
  refine own_via (fun t k => XS.icmpNo X1.here hx rfl (hb hby at_68) rfl (teq (own_k2 hvg2)).2 k) ?_
  show own_G p e below _ (T1.setTop (mkF m 71 #[.val (.int p0), .val (.int p1), .val (.int p2), .val (.int p3), .val (.int vg2), .val (.int (1 : Int32)), .val (.int (1 : Int32)), .unset, .unset, .unset, .unset] []))
  refine own_via (fun t k => XS.iconst X1.here hx rfl (hb hby at_71) k) ?_
  show own_G p e below _ (T1.setTop (mkF m 72 #[.val (.int p0), .val (.int p1), .val (.int p2), .val (.int p3), .val (.int vg2), .val (.int (1 : Int32)), .val (.int (1 : Int32)), .unset, .unset, .unset, .unset] [(.int (1 : Int32))]))
  refine own_via (fun t k => XS.goto X1.here hx rfl (pc0 := 72) (pc' := 76) rfl (hb hby at_72) (by decide) (by decide) k) ?_
  show own_G p e below _ (T1.setTop (mkF m 76 #[.val (.int p0), .val (.int p1), .val (.int p2), .val (.int p3), .val (.int vg2), .val (.int (1 : Int32)), .val (.int (1 : Int32)), .unset, .unset, .unset, .unset] [(.int (1 : Int32))]))
  refine own_via (fun t k => XS.istore X1.here hx rfl (hb hby at_76) rfl (l' := #[.val (.int p0), .val (.int p1), .val (.int p2), .val (.int p3), .val (.int vg2), .val (.int (1 : Int32)), .val (.int (1 : Int32)), .val (.int (1 : Int32)), .unset, .unset, .unset]) rfl k) ?_
  show own_G p e below _ (T1.setTop (mkF m 78 #[.val (.int p0), .val (.int p1), .val (.int p2), .val (.int p3), .val (.int vg2), .val (.int (1 : Int32)), .val (.int (1 : Int32)), .val (.int (1 : Int32)), .unset, .unset, .unset] []))
  refine own_via (fun t k => XS.iload X1.here hx rfl (hb hby at_78) rfl k) ?_
  show own_G p e below _ (T1.setTop (mkF m 80 #[.val (.int p0), .val (.int p1), .val (.int p2), .val (.int p3), .val (.int vg2), .val (.int (1 : Int32)), .val (.int (1 : Int32)), .val (.int (1 : Int32)), .unset, .unset, .unset] [(.int vg2)]))
  refine own_via (fun t k => XS.bipush X1.here hx rfl (hb hby at_80) k) ?_
  show own_G p e below _ (T1.setTop (mkF m 82 #[.val (.int p0), .val (.int p1), .val (.int p2), .val (.int p3), .val (.int vg2), .val (.int (1 : Int32)), .val (.int (1 : Int32)), .val (.int (1 : Int32)), .unset, .unset, .unset] [(.int (24 : Int32)), (.int vg2)]))
  refine own_via (fun t k => XS.iushr X1.here hx rfl (hb hby at_82) rfl k) ?_
  show own_G p e below _ (T1.setTop (mkF m 83 #[.val (.int p0), .val (.int p1), .val (.int p2), .val (.int p3), .val (.int vg2), .val (.int (1 : Int32)), .val (.int (1 : Int32)), .val (.int (1 : Int32)), .unset, .unset, .unset] [(.int ((vg2.toUInt32 >>> ((24 : Int32) &&& 31).toUInt32).toInt32))]))
  refine own_via (fun t k => XS.iloadN X1.here hx rfl (hb hby at_83) rfl k) ?_
  show own_G p e below _ (T1.setTop (mkF m 84 #[.val (.int p0), .val (.int p1), .val (.int p2), .val (.int p3), .val (.int vg2), .val (.int (1 : Int32)), .val (.int (1 : Int32)), .val (.int (1 : Int32)), .unset, .unset, .unset] [(.int p3), (.int ((vg2.toUInt32 >>> ((24 : Int32) &&& 31).toUInt32).toInt32))]))
  refine own_via (fun t k => XS.sipush X1.here hx rfl (hb hby at_84) k) ?_
  show own_G p e below _ (T1.setTop (mkF m 87 #[.val (.int p0), .val (.int p1), .val (.int p2), .val (.int p3), .val (.int vg2), .val (.int (1 : Int32)), .val (.int (1 : Int32)), .val (.int (1 : Int32)), .unset, .unset, .unset] [(.int (255 : Int32)), (.int p3), (.int ((vg2.toUInt32 >>> ((24 : Int32) &&& 31).toUInt32).toInt32))]))
  refine own_via (fun t k => XS.iand X1.here hx rfl (hb hby at_87) rfl k) ?_
  show own_G p e below _ (T1.setTop (mkF m 88 #[.val (.int p0), .val (.int p1), .val (.int p2), .val (.int p3), .val (.int vg2), .val (.int (1 : Int32)), .val (.int (1 : Int32)), .val (.int (1 : Int32)), .unset, .unset, .unset] [(.int (p3 &&& (255 : Int32))), (.int ((vg2.toUInt32 >>> ((24 : Int32) &&& 31).toUInt32).toInt32))]))
  refine own_via (fun t k => XS.icmpNo X1.here hx rfl (hb hby at_88) rfl (teq (own_k3 hvg2)).2 k) ?_
  show own_G p e below _ (T1.setTop (mkF m 91 #[.val (.int p0), .val (.int p1), .val (.int p2), .val (.int p3), .val (.int vg2), .val (.int (1 : Int32)), .val (.int (1 : Int32)), .val (.int (1 : Int32)), .unset, .unset, .unset] []))
  refine own_via (fun t k => XS.iconst X1.here hx rfl (hb hby at_91) k) ?_
  show own_G p e below _ (T1.setTop (mkF m 92 #[.val (.int p0), .val (.int p1), .val (.int p2), .val (.int p3), .val (.int vg2), .val (.int (1 : Int32)), .val (.int (1 : Int32)), .val (.int (1 : Int32)), .unset, .unset, .unset] [(.int (1 : Int32))]))
  refine own_via (fun t k => XS.goto X1.here hx rfl (pc0 := 92) (pc' := 96) rfl (hb hby at_92) (by decide) (by decide) k) ?_
  show own_G p e below _ (T1.setTop (mkF m 96 #[.val (.int p0), .val (.int p1), .val (.int p2), .val (.int p3), .val (.int vg2), .val (.int (1 : Int32)), .val (.int (1 : Int32)), .val (.int (1 : Int32)), .unset, .unset, .unset] [(.int (1 : Int32))]))
  refine own_via (fun t k => XS.istore X1.here hx rfl (hb hby at_96) rfl (l' := #[.val (.int p0), .val (.int p1), .val (.int p2), .val (.int p3), .val (.int vg2), .val (.int (1 : Int32)), .val (.int (1 : Int32)), .val (.int (1 : Int32)), .val (.int (1 : Int32)), .unset, .unset]) rfl k) ?_
  show own_G p e below _ (T1.setTop (mkF m 98 #[.val (.int p0), .val (.int p1), .val (.int p2), .val (.int p3), .val (.int vg2), .val (.int (1 : Int32)), .val (.int (1 : Int32)), .val (.int (1 : Int32)), .val (.int (1 : Int32)), .unset, .unset] []))
  refine own_via (fun t k => XS.iconst X1.here hx rfl (hb hby at_98) k) ?_
  show own_G p e below _ (T1.setTop (mkF m 99 #[.val (.int p0), .val (.int p1), .val (.int p2), .val (.int p3), .val (.int vg2), .val (.int (1 : Int32)), .val (.int (1 : Int32)), .val (.int (1 : Int32)), .val (.int (1 : Int32)), .unset, .unset] [(.int (4 : Int32))]))
  obtain ⟨T3, h3, k3, b3, X3, e3, E3, ga3, V3, Ex3, st3⟩ := own_newA X1 hx hZ (hw _ (List.mem_of_getElem? (i := 4) rfl)) e1 (pc := 99) (Ls := #[.val (.int p0), .val (.int p1), .val (.int p2), .val (.int p3), .val (.int vg2), .val (.int (1 : Int32)), .val (.int (1 : Int32)), .val (.int (1 : Int32)), .val (.int (1 : Int32)), .unset, .unset]) (rest := []) (hb hby at_99) (n := (4 : Int32)) (by decide) (cap := 4) (by decide) (by decide) (by decide) (by decide) 4 rfl
  refine own_via st3 ?_
  have f4 : Arv Z h3 b3 k3 .int (4 : Int32) [(.int (0 : Int32)), (.int (0 : Int32)), (.int (0 : Int32)), (.int (0 : Int32))] (.int (0 : Int32)) := V3
  have g_b3 : n0 ≤ b3 := Nat.le_trans Z0 (Nat.le_of_eq ga3.symm)
  have Zs5 : n0 ≤ h3.size := Nat.le_trans Z0 E3.1
  show own_G p e below _ (T3.setTop (mkF m 101 #[.val (.int p0), .val (.int p1), .val (.int p2), .val (.int p3), .val (.int vg2), .val (.int (1 : Int32)), .val (.int (1 : Int32)), .val (.int (1 : Int32)), .val (.int (1 : Int32)), .unset, .unset] [(.ref b3)]))
  refine own_via (fun t k => XS.dup X3.here hx rfl (hb hby at_101) rfl rfl k) ?_
  show own_G p e below _ (T3.setTop (mkF m 102 #[.val (.int p0), .val (.int p1), .val (.int p2), .val (.int p3), .val (.int vg2), .val (.int (1 : Int32)), .val (.int (1 : Int32)), .val (.int (1 : Int32)), .val (.int (1 : Int32)), .unset, .unset] [(.ref b3), (.ref b3)]))
  refine own_via (fun t k => XS.iconst X3.here hx rfl (hb hby at_102) k) ?_
  show own_G p e below _ (T3.setTop (mkF m 103 #[.val (.int p0), .val (.int p1), .val (.int p2), .val (.int p3), .val (.int vg2), .val (.int (1 : Int32)), .val (.int (1 : Int32)), .val (.int (1 : Int32)), .val (.int (1 : Int32)), .unset, .unset] [(.int (0 : Int32)), (.ref b3), (.ref b3)]))
  refine own_via (fun t k => XS.iloadN X3.here hx rfl (hb hby at_103) rfl k) ?_
  show own_G p e below _ (T3.setTop (mkF m 104 #[.val (.int p0), .val (.int p1), .val (.int p2), .val (.int p3), .val (.int vg2), .val (.int (1 : Int32)), .val (.int (1 : Int32)), .val (.int (1 : Int32)), .val (.int (1 : Int32)), .unset, .unset] [(.int p0), (.int (0 : Int32)), (.ref b3), (.ref b3)]))
  obtain ⟨T6, h6, L6, X6, N6, e6, W6, V6, st6⟩ := own_stI X3 N0 hx hZ e3 f4 g_b3 (j := (0 : Int32)) (x := p0) (i := 0) ⟨by decide, by decide⟩ rfl (Nat.le_of_ble_eq_true rfl) (pc := 104) (Ls := #[.val (.int p0), .val (.int p1), .val (.int p2), .val (.int p3), .val (.int vg2), .val (.int (1 : Int32)), .val (.int (1 : Int32)), .val (.int (1 : Int32)), .val (.int (1 : Int32)), .unset, .unset]) (rest := [(.ref b3)]) (hb hby at_104)
  refine own_via st6 ?_
  have f7 : Arv Z h6 b3 k3 .int (4 : Int32) [(.int p0), (.int (0 : Int32)), (.int (0 : Int32)), (.int (0 : Int32))] (.int (0 : Int32)) := V6
  have Zs8 : n0 ≤ h6.size := by rw [W6.size]; exact Zs5
  show own_G p e below _ (T6.setTop (mkF m 105 #[.val (.int p0), .val (.int p1), .val (.int p2), .val (.int p3), .val (.int vg2), .val (.int (1 : Int32)), .val (.int (1 : Int32)), .val (.int (1 : Int32)), .val (.int (1 : Int32)), .unset, .unset] [(.ref b3)]))
  refine own_via (fun t k => XS.dup X6.here hx rfl (hb hby at_105) rfl rfl k) ?_
  show own_G p e below _ (T6.setTop (mkF m 106 #[.val (.int p0), .val (.int p1), .val (.int p2), .val (.int p3), .val (.int vg2), .val (.int (1 : Int32)), .val (.int (1 : Int32)), .val (.int (1 : Int32)), .val (.int (1 : Int32)), .unset, .unset] [(.ref b3), (.ref b3)]))
  refine own_via (fun t k => XS.iconst X6.here hx rfl (hb hby at_106) k) ?_
  show own_G p e below _ (T6.setTop (mkF m 107 #[.val (.int p0), .val (.int p1), .val (.int p2), .val (.int p3), .val (.int vg2), .val (.int (1 : Int32)), .val (.int (1 : Int32)), .val (.int (1 : Int32)), .val (.int (1 : Int32)), .unset, .unset] [(.int (1 : Int32)), (.ref b3), (.ref b3)]))
  refine own_via (fun t k => XS.iloadN X6.here hx rfl (hb hby at_107) rfl k) ?_
  show own_G p e below _ (T6.setTop (mkF m 108 #[.val (.int p0), .val (.int p1), .val (.int p2), .val (.int p3), .val (.int vg2), .val (.int (1 : Int32)), .val (.int (1 : Int32)), .val (.int (1 : Int32)), .val (.int (1 : Int32)), .unset, .unset] [(.int p1), (.int (1 : Int32)), (.ref b3), (.ref b3)]))
  obtain ⟨T9, h9, L9, X9, N9, e9, W9, V9, st9⟩ := own_stI X6 N6 hx hZ e6 f7 g_b3 (j := (1 : Int32)) (x := p1) (i := 1) ⟨by decide, by decide⟩ rfl (Nat.le_of_ble_eq_true rfl) (pc := 108) (Ls := #[.val (.int p0), .val (.int p1), .val (.int p2), .val (.int p3), .val (.int vg2), .val (.int (1 : Int32)), .val (.int (1 : Int32)), .val (.int (1 : Int32)), .val (.int (1 : Int32)), .unset, .unset]) (rest := [(.ref b3)]) (hb hby at_108)
  refine own_via st9 ?_
  have f10 : Arv Z h9 b3 k3 .int (4 : Int32) [(.int p0), (.int p1), (.int (0 : Int32)), (.int (0 : Int32))] (.int (0 : Int32)) := V9
  have Zs11 : n0 ≤ h9.size := by rw [W9.size]; exact Zs8
  show own_G p e below _ (T9.setTop (mkF m 109 #[.val (.int p0), .val (.int p1), .val (.int p2), .val (.int p3), .val (.int vg2), .val (.int (1 : Int32)), .val (.int (1 : Int32)), .val (.int (1 : Int32)), .val (.int (1 : Int32)), .unset, .unset] [(.ref b3)]))
  refine own_via (fun t k => XS.dup X9.here hx rfl (hb hby at_109) rfl rfl k) ?_
  show own_G p e below _ (T9.setTop (mkF m 110 #[.val (.int p0), .val (.int p1), .val (.int p2), .val (.int p3), .val (.int vg2), .val (.int (1 : Int32)), .val (.int (1 : Int32)), .val (.int (1 : Int32)), .val (.int (1 : Int32)), .unset, .unset] [(.ref b3), (.ref b3)]))
  refine own_via (fun t k => XS.iconst X9.here hx rfl (hb hby at_110) k) ?_
  show own_G p e below _ (T9.setTop (mkF m 111 #[.val (.int p0), .val (.int p1), .val (.int p2), .val (.int p3), .val (.int vg2), .val (.int (1 : Int32)), .val (.int (1 : Int32)), .val (.int (1 : Int32)), .val (.int (1 : Int32)), .unset, .unset] [(.int (2 : Int32)), (.ref b3), (.ref b3)]))
  refine own_via (fun t k => XS.iloadN X9.here hx rfl (hb hby at_111) rfl k) ?_
  show own_G p e below _ (T9.setTop (mkF m 112 #[.val (.int p0), .val (.int p1), .val (.int p2), .val (.int p3), .val (.int vg2), .val (.int (1 : Int32)), .val (.int (1 : Int32)), .val (.int (1 : Int32)), .val (.int (1 : Int32)), .unset, .unset] [(.int p2), (.int (2 : Int32)), (.ref b3), (.ref b3)]))
  obtain ⟨T12, h12, L12, X12, N12, e12, W12, V12, st12⟩ := own_stI X9 N9 hx hZ e9 f10 g_b3 (j := (2 : Int32)) (x := p2) (i := 2) ⟨by decide, by decide⟩ rfl (Nat.le_of_ble_eq_true rfl) (pc := 112) (Ls := #[.val (.int p0), .val (.int p1), .val (.int p2), .val (.int p3), .val (.int vg2), .val (.int (1 : Int32)), .val (.int (1 : Int32)), .val (.int (1 : Int32)), .val (.int (1 : Int32)), .unset, .unset]) (rest := [(.ref b3)]) (hb hby at_112)
  refine own_via st12 ?_
  have f13 : Arv Z h12 b3 k3 .int (4 : Int32) [(.int p0), (.int p1), (.int p2), (.int (0 : Int32))] (.int (0 : Int32)) := V12
  have Zs14 : n0 ≤ h12.size := by rw [W12.size]; exact Zs11
  show own_G p e below _ (T12.setTop (mkF m 113 #[.val (.int p0), .val (.int p1), .val (.int p2), .val (.int p3), .val (.int vg2), .val (.int (1 : Int32)), .val (.int (1 : Int32)), .val (.int (1 : Int32)), .val (.int (1 : Int32)), .unset, .unset] [(.ref b3)]))
  refine own_via (fun t k => XS.dup X12.here hx rfl (hb hby at_113) rfl rfl k) ?_
  show own_G p e below _ (T12.setTop (mkF m 114 #[.val (.int p0), .val (.int p1), .val (.int p2), .val (.int p3), .val (.int vg2), .val (.int (1 : Int32)), .val (.int (1 : Int32)), .val (.int (1 : Int32)), .val (.int (1 : Int32)), .unset, .unset] [(.ref b3), (.ref b3)]))
  refine own_via (fun t k => XS.iconst X12.here hx rfl (hb hby at_114) k) ?_
  show own_G p e below _ (T12.setTop (mkF m 115 #[.val (.int p0), .val (.int p1), .val (.int p2), .val (.int p3), .val (.int vg2), .val (.int (1 : Int32)), .val (.int (1 : Int32)), .val (.int (1 : Int32)), .val (.int (1 : Int32)), .unset, .unset] [(.int (3 : Int32)), (.ref b3), (.ref b3)]))
  refine own_via (fun t k => XS.iloadN X12.here hx rfl (hb hby at_115) rfl k) ?_
  show own_G p e below _ (T12.setTop (mkF m 116 #[.val (.int p0), .val (.int p1), .val (.int p2), .val (.int p3), .val (.int vg2), .val (.int (1 : Int32)), .val (.int (1 : Int32)), .val (.int (1 : Int32)), .val (.int (1 : Int32)), .unset, .unset] [(.int p3), (.int (3 : Int32)), (.ref b3), (.ref b3)]))
  obtain ⟨T15, h15, L15, X15, N15, e15, W15, V15, st15⟩ := own_stI X12 N12 hx hZ e12 f13 g_b3 (j := (3 : Int32)) (x := p3) (i := 3) ⟨by decide, by decide⟩ rfl (Nat.le_of_ble_eq_true rfl) (pc := 116) (Ls := #[.val (.int p0), .val (.int p1), .val (.int p2), .val (.int p3), .val (.int vg2), .val (.int (1 : Int32)), .val (.int (1 : Int32)), .val (.int (1 : Int32)), .val (.int (1 : Int32)), .unset, .unset]) (rest := [(.ref b3)]) (hb hby at_116)
  refine own_via st15 ?_
  have f16 : Arv Z h15 b3 k3 .int (4 : Int32) [(.int p0), (.int p1), (.int p2), (.int p3)] (.int (0 : Int32)) := V15
  have Zs17 : n0 ≤ h15.size := by rw [W15.size]; exact Zs14
  show own_G p e below _ (T15.setTop (mkF m 117 #[.val (.int p0), .val (.int p1), .val (.int p2), .val (.int p3), .val (.int vg2), .val (.int (1 : Int32)), .val (.int (1 : Int32)), .val (.int (1 : Int32)), .val (.int (1 : Int32)), .unset, .unset] [(.ref b3)]))
  refine own_via (fun t k => XS.astore X15.here hx rfl (hb hby at_117) rfl rfl (l' := #[.val (.int p0), .val (.int p1), .val (.int p2), .val (.int p3), .val (.int vg2), .val (.int (1 : Int32)), .val (.int (1 : Int32)), .val (.int (1 : Int32)), .val (.int (1 : Int32)), .val (.ref b3), .unset]) rfl k) ?_
  show own_G p e below _ (T15.setTop (mkF m 119 #[.val (.int p0), .val (.int p1), .val (.int p2), .val (.int p3), .val (.int vg2), .val (.int (1 : Int32)), .val (.int (1 : Int32)), .val (.int (1 : Int32)), .val (.int (1 : Int32)), .val (.ref b3), .unset] []))
  refine own_via (fun t k => XS.iload X15.here hx rfl (hb hby at_119) rfl k) ?_
  show own_G p e below _ (T15.setTop (mkF m 121 #[.val (.int p0), .val (.int p1), .val (.int p2), .val (.int p3), .val (.int vg2), .val (.int (1 : Int32)), .val (.int (1 : Int32)), .val (.int (1 : Int32)), .val (.int (1 : Int32)), .val (.ref b3), .unset] [(.int vg2)]))
  refine own_via (fun t k => XS.aload X15.here hx rfl (hb hby at_121) rfl rfl k) ?_
  show own_G p e below _ (T15.setTop (mkF m 123 #[.val (.int p0), .val (.int p1), .val (.int p2), .val (.int p3), .val (.int vg2), .val (.int (1 : Int32)), .val (.int (1 : Int32)), .val (.int (1 : Int32)), .val (.int (1 : Int32)), .val (.ref b3), .unset] [(.ref b3), (.int vg2)]))
  obtain ⟨T18, X18, e18, st18⟩ := own_callP (y := (⟨"com/example/skipstitch/skipstitch/GramTable", "keyOfFirst", "([I)I"⟩ : MethodName)) (W := 1) X15 hx hZ hown (hw _ (List.mem_of_getElem? (i := 5) rfl)) (hw _ (List.mem_of_getElem? (i := 6) rfl)) (hw _ (List.mem_of_getElem? (i := 2) rfl)) (hw _ (List.mem_of_getElem? (i := 7) rfl)) (by decide) (own_kof l Z a0 hw [] b3 k3 p0 p1 p2 p3 h15 f16) (by decide) (by decide) rfl rfl (by decide) (by decide) e15 (pc := 123) (Ls := #[.val (.int p0), .val (.int p1), .val (.int p2), .val (.int p3), .val (.int vg2), .val (.int (1 : Int32)), .val (.int (1 : Int32)), .val (.int (1 : Int32)), .val (.int (1 : Int32)), .val (.ref b3), .unset]) (st := [(.ref b3), (.int vg2)]) (argsL := [(.ref b3)]) (rest := [(.int vg2)]) (by rw [hml]; rfl) (lenOf own_pd2 rfl) rfl rfl (Nat.le_of_eq rfl) (hb hby at_123)
  refine own_via st18 ?_
  show own_G p e below _ (T18.setTop (mkF m 126 #[.val (.int p0), .val (.int p1), .val (.int p2), .val (.int p3), .val (.int vg2), .val (.int (1 : Int32)), .val (.int (1 : Int32)), .val (.int (1 : Int32)), .val (.int (1 : Int32)), .val (.ref b3), .unset] [(.int (own_kf p0 p1 p2 p3)), (.int vg2)]))
  refine own_via (fun t k => XS.icmpNo X18.here hx rfl (hb hby at_126) rfl (teq (own_k4 hvg2)).2 k) ?_
  show own_G p e below _ (T18.setTop (mkF m 129 #[.val (.int p0), .val (.int p1), .val (.int p2), .val (.int p3), .val (.int vg2), .val (.int (1 : Int32)), .val (.int (1 : Int32)), .val (.int (1 : Int32)), .val (.int (1 : Int32)), .val (.ref b3), .unset] []))
  refine own_via (fun t k => XS.iconst X18.here hx rfl (hb hby at_129) k) ?_
  show own_G p e below _ (T18.setTop (mkF m 130 #[.val (.int p0), .val (.int p1), .val (.int p2), .val (.int p3), .val (.int vg2), .val (.int (1 : Int32)), .val (.int (1 : Int32)), .val (.int (1 : Int32)), .val (.int (1 : Int32)), .val (.ref b3), .unset] [(.int (1 : Int32))]))
  refine own_via (fun t k => XS.goto X18.here hx rfl (pc0 := 130) (pc' := 134) rfl (hb hby at_130) (by decide) (by decide) k) ?_
  show own_G p e below _ (T18.setTop (mkF m 134 #[.val (.int p0), .val (.int p1), .val (.int p2), .val (.int p3), .val (.int vg2), .val (.int (1 : Int32)), .val (.int (1 : Int32)), .val (.int (1 : Int32)), .val (.int (1 : Int32)), .val (.ref b3), .unset] [(.int (1 : Int32))]))
  refine own_via (fun t k => XS.istore X18.here hx rfl (hb hby at_134) rfl (l' := #[.val (.int p0), .val (.int p1), .val (.int p2), .val (.int p3), .val (.int vg2), .val (.int (1 : Int32)), .val (.int (1 : Int32)), .val (.int (1 : Int32)), .val (.int (1 : Int32)), .val (.ref b3), .val (.int (1 : Int32))]) rfl k) ?_
  show own_G p e below _ (T18.setTop (mkF m 136 #[.val (.int p0), .val (.int p1), .val (.int p2), .val (.int p3), .val (.int vg2), .val (.int (1 : Int32)), .val (.int (1 : Int32)), .val (.int (1 : Int32)), .val (.int (1 : Int32)), .val (.ref b3), .val (.int (1 : Int32))] []))
  refine own_via (fun t k => XS.iload X18.here hx rfl (hb hby at_136) rfl k) ?_
  show own_G p e below _ (T18.setTop (mkF m 138 #[.val (.int p0), .val (.int p1), .val (.int p2), .val (.int p3), .val (.int vg2), .val (.int (1 : Int32)), .val (.int (1 : Int32)), .val (.int (1 : Int32)), .val (.int (1 : Int32)), .val (.ref b3), .val (.int (1 : Int32))] [(.int (1 : Int32))]))
  refine own_via (fun t k => XS.ifNo X18.here hx rfl (hb hby at_138) rfl ((if0 _ _).trans (feq (by decide : ¬ ((1 : Int32) = (0 : Int32)))).1) k) ?_
  show own_G p e below _ (T18.setTop (mkF m 141 #[.val (.int p0), .val (.int p1), .val (.int p2), .val (.int p3), .val (.int vg2), .val (.int (1 : Int32)), .val (.int (1 : Int32)), .val (.int (1 : Int32)), .val (.int (1 : Int32)), .val (.ref b3), .val (.int (1 : Int32))] []))
  refine own_via (fun t k => XS.iload X18.here hx rfl (hb hby at_141) rfl k) ?_
  show own_G p e below _ (T18.setTop (mkF m 143 #[.val (.int p0), .val (.int p1), .val (.int p2), .val (.int p3), .val (.int vg2), .val (.int (1 : Int32)), .val (.int (1 : Int32)), .val (.int (1 : Int32)), .val (.int (1 : Int32)), .val (.ref b3), .val (.int (1 : Int32))] [(.int (1 : Int32))]))
  refine own_via (fun t k => XS.ifNo X18.here hx rfl (hb hby at_143) rfl ((if0 _ _).trans (feq (by decide : ¬ ((1 : Int32) = (0 : Int32)))).1) k) ?_
  show own_G p e below _ (T18.setTop (mkF m 146 #[.val (.int p0), .val (.int p1), .val (.int p2), .val (.int p3), .val (.int vg2), .val (.int (1 : Int32)), .val (.int (1 : Int32)), .val (.int (1 : Int32)), .val (.int (1 : Int32)), .val (.ref b3), .val (.int (1 : Int32))] []))
  refine own_via (fun t k => XS.iload X18.here hx rfl (hb hby at_146) rfl k) ?_
  show own_G p e below _ (T18.setTop (mkF m 148 #[.val (.int p0), .val (.int p1), .val (.int p2), .val (.int p3), .val (.int vg2), .val (.int (1 : Int32)), .val (.int (1 : Int32)), .val (.int (1 : Int32)), .val (.int (1 : Int32)), .val (.ref b3), .val (.int (1 : Int32))] [(.int (1 : Int32))]))
  refine own_via (fun t k => XS.ifNo X18.here hx rfl (hb hby at_148) rfl ((if0 _ _).trans (feq (by decide : ¬ ((1 : Int32) = (0 : Int32)))).1) k) ?_
  show own_G p e below _ (T18.setTop (mkF m 151 #[.val (.int p0), .val (.int p1), .val (.int p2), .val (.int p3), .val (.int vg2), .val (.int (1 : Int32)), .val (.int (1 : Int32)), .val (.int (1 : Int32)), .val (.int (1 : Int32)), .val (.ref b3), .val (.int (1 : Int32))] []))
  refine own_via (fun t k => XS.iload X18.here hx rfl (hb hby at_151) rfl k) ?_
  show own_G p e below _ (T18.setTop (mkF m 153 #[.val (.int p0), .val (.int p1), .val (.int p2), .val (.int p3), .val (.int vg2), .val (.int (1 : Int32)), .val (.int (1 : Int32)), .val (.int (1 : Int32)), .val (.int (1 : Int32)), .val (.ref b3), .val (.int (1 : Int32))] [(.int (1 : Int32))]))
  refine own_via (fun t k => XS.ifNo X18.here hx rfl (hb hby at_153) rfl ((if0 _ _).trans (feq (by decide : ¬ ((1 : Int32) = (0 : Int32)))).1) k) ?_
  show own_G p e below _ (T18.setTop (mkF m 156 #[.val (.int p0), .val (.int p1), .val (.int p2), .val (.int p3), .val (.int vg2), .val (.int (1 : Int32)), .val (.int (1 : Int32)), .val (.int (1 : Int32)), .val (.int (1 : Int32)), .val (.ref b3), .val (.int (1 : Int32))] []))
  refine own_via (fun t k => XS.iload X18.here hx rfl (hb hby at_156) rfl k) ?_
  show own_G p e below _ (T18.setTop (mkF m 158 #[.val (.int p0), .val (.int p1), .val (.int p2), .val (.int p3), .val (.int vg2), .val (.int (1 : Int32)), .val (.int (1 : Int32)), .val (.int (1 : Int32)), .val (.int (1 : Int32)), .val (.ref b3), .val (.int (1 : Int32))] [(.int (1 : Int32))]))
  refine own_via (fun t k => XS.ifNo X18.here hx rfl (hb hby at_158) rfl ((if0 _ _).trans (feq (by decide : ¬ ((1 : Int32) = (0 : Int32)))).1) k) ?_
  show own_G p e below _ (T18.setTop (mkF m 161 #[.val (.int p0), .val (.int p1), .val (.int p2), .val (.int p3), .val (.int vg2), .val (.int (1 : Int32)), .val (.int (1 : Int32)), .val (.int (1 : Int32)), .val (.int (1 : Int32)), .val (.ref b3), .val (.int (1 : Int32))] []))
  refine own_via (fun t k => XS.iconst X18.here hx rfl (hb hby at_161) k) ?_
  show own_G p e below _ (T18.setTop (mkF m 162 #[.val (.int p0), .val (.int p1), .val (.int p2), .val (.int p3), .val (.int vg2), .val (.int (1 : Int32)), .val (.int (1 : Int32)), .val (.int (1 : Int32)), .val (.int (1 : Int32)), .val (.ref b3), .val (.int (1 : Int32))] [(.int (1 : Int32))]))
  refine own_via (fun t k => XS.goto X18.here hx rfl (pc0 := 162) (pc' := 166) rfl (hb hby at_162) (by decide) (by decide) k) ?_
  show own_G p e below _ (T18.setTop (mkF m 166 #[.val (.int p0), .val (.int p1), .val (.int p2), .val (.int p3), .val (.int vg2), .val (.int (1 : Int32)), .val (.int (1 : Int32)), .val (.int (1 : Int32)), .val (.int (1 : Int32)), .val (.ref b3), .val (.int (1 : Int32))] [(.int (1 : Int32))]))
  exact own_retN (t := .boolean) X18 hx Bd.returns (by simp) Bd.notSynchronized (hb hby at_166) ⟨N15, rfl⟩ (by decide) (by decide)
set_option maxRecDepth 65536 in
set_option maxHeartbeats 40000000 in
theorem comes_1 {Post : Tables → Env → Array Value → State → Outcome → State → Prop} (hpost : ∀ tb e args s v u, (limb_1_1.after args s (.returned v) u = true ∧ limb_1_2.after args s (.returned v) u = true) → FrameEnd s (.returned v) u (Jvm.fieldLocs frame_1_writes args s ++ Jvm.arrayLocs frame_1_arrays args s ++ Jvm.staticLocs frame_1_statics s) 16 128 → Post tb e args s (.returned v) u) :
    ArmFor flags0 classFile x code maxLocals ret World_1 tables_1 room_1 Calls_1 rest_1 Pre_1 Post := by
  intro l hfl _ _ p e ha hc hk s m args below hf hA hF happ hP
  obtain ⟨hcalls, hrest, hpre⟩ := hP
  obtain ⟨-, -, -, hnamed, -, -, -, hat⟩ := (Spec.applies_iff hf).mp happ
  obtain ⟨hg, hn⟩ := and_e (Cond.before_iff.mp (show (Jvm.Cond.and given_1 narrow_1).before args s = true from hpre))
  obtain ⟨g1, g2⟩ := and_e hg
  obtain ⟨g3, g4⟩ := and_e g2
  obtain ⟨g5, g6⟩ := and_e g4
  obtain ⟨g7, g8⟩ := and_e g6
  obtain ⟨w0, w1, w2, w3, rfl⟩ : ∃ w0 w1 w2 w3 : Value, args = #[w0, w1, w2, w3] := by
    have hs : args.size = 4 := by simpa [Cond.value, given_1] using g1
    obtain ⟨L⟩ := args
    match L, hs with
    | [w0, w1, w2, w3], _ => exact ⟨w0, w1, w2, w3, rfl⟩
  have hw := fun d (hd : d ∈ tables_1) => atoms_spec (ws := Jvm.Cond.code x code maxLocals ret :: tables_1) hat d (List.mem_cons_of_mem _ hd)
  obtain ⟨i0, ei0⟩ := is_v g3
  obtain rfl : w0 = (.int i0) := Option.some.inj ei0
  obtain ⟨i1, ei1⟩ := is_v g5
  obtain rfl : w1 = (.int i1) := Option.some.inj ei1
  obtain ⟨i2, ei2⟩ := is_v g7
  obtain rfl : w2 = (.int i2) := Option.some.inj ei2
  obtain ⟨i3, ei3⟩ := is_v g8
  obtain rfl : w3 = (.int i3) := Option.some.inj ei3
  obtain ⟨n, o, h1, h2, h3, _, L, rfl, ⟨N, rfl⟩, hq⟩ := own_rm0 l s _ hw tables_1 i0 i1 i2 i3 s.heap s.heap.size (Nat.le_refl _)  p e ha hc hk s m _ below hf ((Spec.applies_iff_loose hf).mp happ).1 ⟨rfl, State.Warmed39.refl s, rfl⟩ trivial
  refine ⟨n, _, h1, h2, h3, hpost _ _ _ _ _ _ ⟨Cond.after_iff.mpr rfl, Cond.after_iff.mpr (eq_i res_at (Term.int_eval (1)) rfl)⟩ ⟨hq.1, hq.2.1, (hq.2.2.sift fun y hy => Or.inr (N y hy)).mono (by decide) (by decide)⟩⟩
theorem main_1_1 : Claimed_1_1 := comes_1 fun _ _ _ _ _ _ h hF => ⟨h.1, hF⟩
theorem main_1_2 : Claimed_1_2 := comes_1 fun _ _ _ _ _ _ h hF => ⟨h.2, hF⟩
end Jvm.Pilot.@@N@@
namespace Jvm.Pilot.@@N@@
open Jvm Jvm.ClassFile Sem Op Lib Jvm.Free Jvm.Stand Jvm.Pilot.@@N@@.Jvm.D
/-! MADE BY PROGRAM (witnessworld.py) out of the Statement's table words and the real class files: 10 classes; the members and pool entries that the words name. The judged class is class 1, her method 1. -/
namespace start1
open Jvm.ClassFile
def u (s : String) : CpInfo := .utf8 (stringToUtf16 s)
/-- a pool by its gaps: so many unusable entries, then the entry; so many at the end -/
def gap : Nat → List CpInfo → List CpInfo
  | 0, r => r
  | n + 1, r => .unusable :: gap n r
def poolList (es : List (Nat × CpInfo)) (last : Nat) : List CpInfo := es.foldr (fun e r => gap e.1 (e.2 :: r)) (gap last [])
def pool (es : List (Nat × CpInfo)) (last : Nat) : Array CpInfo := ⟨poolList es last⟩
def fileOf (pool : Array CpInfo) (this : Nat) (attrs : Array Attribute := #[]) (ms : Array MethodInfo := #[]) (fl : Nat := 33) (sup : Nat := 0) (ifs : Array Nat := #[]) (fds : Array FieldInfo := #[]) : ClassFile where
  minorVersion := 0
  majorVersion := 65
  constantPool := pool
  accessFlags := fl
  thisClass := this
  superClass := sup
  interfaces := ifs
  fields := fds
  methods := ms
  attributes := attrs
def plain (name : String) (sup : Option ClassId) : Class where
  name := name
  kind := .ordinary
  loader := none
  accessFlags := 33
  super := sup
  interfaces := #[]
  cf := none
  fields := #[]
  methods := #[]
  instanceTypes := #[]
  staticTypes := #[]
  resolved := #[]
  callSites := []
  init := .initialized
  statics := none
  mirror := none

def pool0 : Array CpInfo := pool [(5, u "<init>"), (0, u "()V"), (1, .class_ 10), (1, u "java/lang/Object")] 113

def k0m0 : Method := { name := "<init>", desc := "()V", sig := { parameters := [], returnType := none }, accessFlags := 1, code := none }
/-- java/lang/Object -/
def k0 : Class := { plain "java/lang/Object" none with
  accessFlags := 33
  interfaces := #[]
  cf := some (fileOf pool0 8 #[] #[{ accessFlags := 1, nameIndex := 5, descriptorIndex := 6, attributes := #[] }] 33 0 #[] #[])
  fields := #[]
  methods := #[k0m0]
  instanceTypes := #[]
  staticTypes := #[]
  resolved := Array.replicate 124 none
  statics := none }

def pool1 : Array CpInfo := pool [(2, .class_ 4), (1, u "java/lang/Object"), (0, u "<init>"), (0, u "()V"), (0, .methodref 8 9), (0, .class_ 10), (0, .nameAndType 11 12), (0, u "com/example/skipstitch/skipstitch/GramTable"), (0, u "key"), (0, u "(IIII)I"), (0, .methodref 8 14), (0, .nameAndType 15 16), (0, u "keyOfFirst"), (0, u "([I)I"), (0, .class_ 18), (0, u "com/example/skipstitch/skipstitch/GramTableKeyPinLaw"), (2, u "law"), (0, u "(IIII)Z")] 5

def k1m0 : Method := { name := "<init>", desc := "()V", sig := { parameters := [], returnType := none }, accessFlags := 1, code := none }
def k1c1 : Code := { maxStack := 4, maxLocals := 11, code := code, exceptionTable := #[], attributes := #[] }
def k1m1 : Method := { name := "law", desc := "(IIII)Z", sig := { parameters := [.int, .int, .int, .int], returnType := some .boolean }, accessFlags := 9, code := some k1c1 }
/-- com/example/skipstitch/skipstitch/GramTableKeyPinLaw -/
def k1 : Class := { plain "com/example/skipstitch/skipstitch/GramTableKeyPinLaw" (some 0) with
  accessFlags := 49
  interfaces := #[]
  cf := some (fileOf pool1 17 #[] #[{ accessFlags := 1, nameIndex := 5, descriptorIndex := 6, attributes := #[] }, { accessFlags := 9, nameIndex := 21, descriptorIndex := 22, attributes := #[] }] 49 2 #[] #[])
  fields := #[]
  methods := #[k1m0, k1m1]
  instanceTypes := #[]
  staticTypes := #[]
  resolved := Array.replicate 28 none
  statics := none }

def pool2 : Array CpInfo := pool [(4, .class_ 6), (1, u "java/lang/Object"), (3, .class_ 12), (1, u "com/example/skipstitch/skipstitch/GramTable"), (0, u "stride"), (0, u "I"), (2, u "shift"), (2, u "held"), (0, u "[J"), (2, u "offsets"), (0, .methodref 26 27), (0, .class_ 28), (0, .nameAndType 29 30), (0, u "java/lang/Math"), (0, u "min"), (0, u "(II)I"), (11, u "key"), (0, u "(IIII)I"), (6, u "GRAM"), (2, u "MAX_STRIDE"), (1, u "MIN_STRIDE"), (1, u "HELD_BITS_PER_OFFSET"), (1, u "ENTRIES_PER_OFFSET"), (0, u "HASH"), (8, u "keyOfFirst"), (0, u "([I)I")] 8

def k2c0 : Code := { maxStack := 3, maxLocals := 4, code := prog_5_method_3_code, exceptionTable := #[], attributes := #[] }
def k2m0 : Method := { name := "key", desc := "(IIII)I", sig := { parameters := [.int, .int, .int, .int], returnType := some .int }, accessFlags := 8, code := some k2c0 }
def k2c1 : Code := { maxStack := 3, maxLocals := 3, code := prog_5_method_4_code, exceptionTable := #[], attributes := #[] }
def k2m1 : Method := { name := "keyOfFirst", desc := "([I)I", sig := { parameters := [(.array .int)], returnType := some .int }, accessFlags := 8, code := some k2c1 }
/-- com/example/skipstitch/skipstitch/GramTable -/
def k2 : Class := { plain "com/example/skipstitch/skipstitch/GramTable" (some 0) with
  accessFlags := 48
  interfaces := #[]
  cf := some (fileOf pool2 10 #[] #[{ accessFlags := 8, nameIndex := 42, descriptorIndex := 43, attributes := #[] }, { accessFlags := 8, nameIndex := 69, descriptorIndex := 70, attributes := #[] }] 48 4 #[] #[{ accessFlags := 24, nameIndex := 50, descriptorIndex := 14, attributes := #[] }, { accessFlags := 24, nameIndex := 53, descriptorIndex := 14, attributes := #[] }, { accessFlags := 26, nameIndex := 55, descriptorIndex := 14, attributes := #[] }, { accessFlags := 26, nameIndex := 57, descriptorIndex := 14, attributes := #[] }, { accessFlags := 26, nameIndex := 59, descriptorIndex := 14, attributes := #[] }, { accessFlags := 26, nameIndex := 60, descriptorIndex := 14, attributes := #[] }, { accessFlags := 18, nameIndex := 13, descriptorIndex := 14, attributes := #[] }, { accessFlags := 18, nameIndex := 17, descriptorIndex := 14, attributes := #[] }, { accessFlags := 18, nameIndex := 20, descriptorIndex := 21, attributes := #[] }, { accessFlags := 18, nameIndex := 24, descriptorIndex := 21, attributes := #[] }])
  fields := #[{ name := "GRAM", type := .int, accessFlags := 24, slot := 0, constantValue := 0 }, { name := "MAX_STRIDE", type := .int, accessFlags := 24, slot := 1, constantValue := 0 }, { name := "MIN_STRIDE", type := .int, accessFlags := 26, slot := 2, constantValue := 0 }, { name := "HELD_BITS_PER_OFFSET", type := .int, accessFlags := 26, slot := 3, constantValue := 0 }, { name := "ENTRIES_PER_OFFSET", type := .int, accessFlags := 26, slot := 4, constantValue := 0 }, { name := "HASH", type := .int, accessFlags := 26, slot := 5, constantValue := 0 }, { name := "stride", type := .int, accessFlags := 18, slot := 0, constantValue := 0 }, { name := "shift", type := .int, accessFlags := 18, slot := 1, constantValue := 0 }, { name := "held", type := (.array .long), accessFlags := 18, slot := 2, constantValue := 0 }, { name := "offsets", type := (.array .long), accessFlags := 18, slot := 3, constantValue := 0 }]
  methods := #[k2m0, k2m1]
  instanceTypes := #[.int, .int, (.array .long), (.array .long)]
  staticTypes := #[.int, .int, .int, .int, .int, .int]
  resolved := Array.replicate 79 none
  statics := none }

def pool3 : Array CpInfo := pool [(1, .class_ 2), (0, u "java/lang/Math"), (1, .class_ 6), (1, u "java/lang/Object"), (0, u "<init>"), (0, u "()V"), (89, .class_ 100), (1, u "java/lang/Math$RandomNumberGeneratorHolder"), (71, u "negativeZeroFloatBits"), (0, u "J"), (2, u "negativeZeroDoubleBits"), (24, u "min"), (43, u "$assertionsDisabled"), (0, u "Z"), (88, u "(II)I"), (2, u "twoToTheDoubleScaleDown"), (0, u "D"), (4, u "twoToTheDoubleScaleUp"), (9, u "E"), (3, u "PI"), (2, u "TAU"), (2, u "DEGREES_TO_RADIANS"), (0, u "RADIANS_TO_DEGREES")] 94

def k3m0 : Method := { name := "<init>", desc := "()V", sig := { parameters := [], returnType := none }, accessFlags := 2, code := none }
def k3c1 : Code := { maxStack := 2, maxLocals := 2, code := jdk_29_method_69_code, exceptionTable := #[], attributes := #[] }
def k3m1 : Method := { name := "min", desc := "(II)I", sig := { parameters := [.int, .int], returnType := some .int }, accessFlags := 9, code := some k3c1 }
/-- java/lang/Math -/
def k3 : Class := { plain "java/lang/Math" (some 0) with
  accessFlags := 49
  interfaces := #[]
  cf := some (fileOf pool3 1 #[.nestMembers #[98]] #[{ accessFlags := 2, nameIndex := 7, descriptorIndex := 8, attributes := #[] }, { accessFlags := 9, nameIndex := 201, descriptorIndex := 335, attributes := #[] }] 49 4 #[] #[{ accessFlags := 25, nameIndex := 354, descriptorIndex := 339, attributes := #[] }, { accessFlags := 25, nameIndex := 358, descriptorIndex := 339, attributes := #[] }, { accessFlags := 25, nameIndex := 361, descriptorIndex := 339, attributes := #[] }, { accessFlags := 26, nameIndex := 364, descriptorIndex := 339, attributes := #[] }, { accessFlags := 26, nameIndex := 365, descriptorIndex := 339, attributes := #[] }, { accessFlags := 26, nameIndex := 172, descriptorIndex := 173, attributes := #[] }, { accessFlags := 26, nameIndex := 176, descriptorIndex := 173, attributes := #[] }, { accessFlags := 8, nameIndex := 344, descriptorIndex := 339, attributes := #[] }, { accessFlags := 8, nameIndex := 338, descriptorIndex := 339, attributes := #[] }, { accessFlags := 4120, nameIndex := 245, descriptorIndex := 246, attributes := #[] }])
  fields := #[{ name := "E", type := .double, accessFlags := 25, slot := 0, constantValue := 0 }, { name := "PI", type := .double, accessFlags := 25, slot := 1, constantValue := 0 }, { name := "TAU", type := .double, accessFlags := 25, slot := 2, constantValue := 0 }, { name := "DEGREES_TO_RADIANS", type := .double, accessFlags := 26, slot := 3, constantValue := 0 }, { name := "RADIANS_TO_DEGREES", type := .double, accessFlags := 26, slot := 4, constantValue := 0 }, { name := "negativeZeroFloatBits", type := .long, accessFlags := 26, slot := 5, constantValue := 0 }, { name := "negativeZeroDoubleBits", type := .long, accessFlags := 26, slot := 6, constantValue := 0 }, { name := "twoToTheDoubleScaleUp", type := .double, accessFlags := 8, slot := 7, constantValue := 0 }, { name := "twoToTheDoubleScaleDown", type := .double, accessFlags := 8, slot := 8, constantValue := 0 }, { name := "$assertionsDisabled", type := .boolean, accessFlags := 4120, slot := 9, constantValue := 0 }]
  methods := #[k3m0, k3m1]
  instanceTypes := #[]
  staticTypes := #[.double, .double, .double, .double, .double, .long, .long, .double, .double, .boolean]
  resolved := Array.replicate 460 none
  statics := none }

def pool4 : Array CpInfo := pool [(1, u "java/lang/Cloneable"), (0, .class_ 1), (0, u "java/lang/Object"), (0, .class_ 3)] 3

/-- java/lang/Cloneable -/
def k4 : Class := { plain "java/lang/Cloneable" (some 0) with
  accessFlags := 1537
  interfaces := #[]
  cf := some (fileOf pool4 2 #[] #[] 1537 4 #[] #[])
  fields := #[]
  methods := #[]
  instanceTypes := #[]
  staticTypes := #[]
  resolved := Array.replicate 8 none
  statics := none }

def pool5 : Array CpInfo := pool [(1, u "java/io/Serializable"), (0, .class_ 1), (0, u "java/lang/Object"), (0, .class_ 3)] 3

/-- java/io/Serializable -/
def k5 : Class := { plain "java/io/Serializable" (some 0) with
  accessFlags := 1537
  interfaces := #[]
  cf := some (fileOf pool5 2 #[] #[] 1537 4 #[] #[])
  fields := #[]
  methods := #[]
  instanceTypes := #[]
  staticTypes := #[]
  resolved := Array.replicate 8 none
  statics := none }

/-- the primitive byte -/
def k6 : Class := { plain "byte" none with kind := .primitive 'B', accessFlags := 0x411 }
/-- [B -/
def k7 : Class := { plain "[B" (some 0) with kind := .array 6 .byte, interfaces := #[4, 5], accessFlags := 1041 }

/-- the primitive int -/
def k8 : Class := { plain "int" none with kind := .primitive 'I', accessFlags := 0x411 }
/-- [I -/
def k9 : Class := { plain "[I" (some 0) with kind := .array 8 .int, interfaces := #[4, 5], accessFlags := 1041 }

def heap : Heap := #[]
def classes : Array Class := #[k0, k1, k2, k3, k4, k5, k6, k7, k8, k9]
def interned : List (Array UInt16 × Addr) := []
def slotsUsed : Nat := 0
def theMethod : MethodId := ⟨1, 1⟩
def args0 : Array Value := #[.int 5, .int 300, .int 7, .int 2]
def aboutOver (below : List Frame) : State where
  vm := { classes := classes, interned := interned.toArray }
  heap := heap
  slotsUsed := slotsUsed
  threads := #[{ frames := .invoking theMethod args0 :: below }]
def below0 : List Frame := [.native { method := ⟨0, 0⟩, args := #[] }]
def about1 : State := aboutOver below0
def p0 : Program := .bare "" "" ""
def e0 : Env := launch0.env 0 0 0
theorem w_frames : about1.frames = Frame.invoking theMethod args0 :: below0 := rfl
set_option maxRecDepth 65536 in
theorem w_args : argsFit about1.vm theMethod args0 = true := by decide +kernel
set_option maxRecDepth 65536 in
theorem w_heap : heapFits about1 = true := by decide +kernel
set_option maxRecDepth 65536 in
theorem w_runnable : about1.curStatus? = some .runnable := by decide +kernel
set_option maxRecDepth 65536 in
theorem w_alone : about1.alone = true := by decide +kernel
set_option maxRecDepth 65536 in
theorem w_named : about1.methodNamed? x = some theMethod := by decide +kernel
set_option maxRecDepth 65536 in
theorem w_hears : about1.hears theMethod below0 = true := by decide +kernel
set_option maxRecDepth 65536 in
theorem w_ripe : about1.ripe theMethod args0 below0 = true := by decide +kernel
theorem w_running : about1.status = .running := rfl
set_option maxRecDepth 65536 in
theorem w_room : about1.hasRoom e0.platform room_1 = true :=
  launch0.hasRoom_least _ room_1 (by decide +kernel) (by decide +kernel) (by decide +kernel) (by decide +kernel) (by decide +kernel) (by decide +kernel)
theorem allAtoms_all (ts : List Jvm.Cond) (a : Array Jvm.Value) (st : Jvm.State) : (allAtoms ts).before a st = ts.all (fun c => c.before a st) := by
  induction ts with
  | nil => rfl
  | cons c t ih =>
    show (Jvm.Cond.and c (allAtoms t)).before a st = _
    rw [Jvm.Cond.before_and, ih, List.all_cons]
def words1 : List Jvm.Cond := Jvm.Cond.code x code maxLocals ret :: tables_1
/-- a 'code' word, met by the world's own term for the bytes: nothing is compared byte by byte -/
theorem code_word {y : MethodName} {bytes : ByteArray} {mx : Nat} {rt : Option FieldType} {a : Array Value} {s : State} {m : MethodId} {meth : Method} {c : Code} (h1 : s.methodNamed? y = some m) (h2 : s.vm.method? m = some meth) (h3 : meth.code = some c) (h4 : c.code = bytes)
    (h5 : (c.maxLocals == mx && c.exceptionTable.isEmpty && decide (c.maxStack ≤ mostOperands) && decide (meth.sig.returnType = rt) && !meth.locks && decide (parseMethodDescriptor y.desc = some meth.sig)) = true) : (Jvm.Cond.code y bytes mx rt).before a s = true := by
  simp only [Bool.and_eq_true, beq_iff_eq, Bool.not_eq_true', decide_eq_true_eq] at h5
  obtain ⟨⟨⟨⟨⟨g1, g2⟩, g3⟩, g4⟩, g5⟩, g6⟩ := h5
  simp [Cond.before, Cond.holds, Cond.value, h1, h2, h3, h4, g1, g2, g3, g4, g5, g6]
def isCode : Jvm.Cond → Bool
  | .code _ _ _ _ => true
  | _ => false
theorem all_split {L : List Jvm.Cond} {P : Jvm.Cond → Bool} (h1 : L.all (fun c => isCode c || P c) = true) (h2 : ∀ c ∈ L.filter isCode, P c = true) : L.all P = true := by
  refine List.all_eq_true.mpr fun c hc => ?_
  have h := List.all_eq_true.mp h1 c hc
  rcases Bool.eq_false_or_eq_true (isCode c) with hi | hi
  · exact h2 c (List.mem_filter.mpr ⟨hc, hi⟩)
  · simpa [hi] using h
set_option maxRecDepth 65536 in
theorem w_c0 : (Jvm.Cond.code x code maxLocals ret).before args0 about1 = true := code_word (m := ⟨1, 1⟩) (meth := k1m1) (c := k1c1) (by decide +kernel) rfl rfl rfl (by decide +kernel)
set_option maxRecDepth 65536 in
theorem w_c1 : (Jvm.Cond.code ({ cls := "com/example/skipstitch/skipstitch/GramTable", name := "key", desc := "(IIII)I" } : Jvm.MethodName) prog_5_method_3_code (4 : Nat) (Option.some Jvm.ClassFile.FieldType.int)).before args0 about1 = true := code_word (m := ⟨2, 0⟩) (meth := k2m0) (c := k2c0) (by decide +kernel) rfl rfl rfl (by decide +kernel)
set_option maxRecDepth 65536 in
theorem w_c2 : (Jvm.Cond.code ({ cls := "com/example/skipstitch/skipstitch/GramTable", name := "keyOfFirst", desc := "([I)I" } : Jvm.MethodName) prog_5_method_4_code (3 : Nat) (Option.some Jvm.ClassFile.FieldType.int)).before args0 about1 = true := code_word (m := ⟨2, 1⟩) (meth := k2m1) (c := k2c1) (by decide +kernel) rfl rfl rfl (by decide +kernel)
set_option maxRecDepth 65536 in
theorem w_c3 : (Jvm.Cond.code ({ cls := "java/lang/Math", name := "min", desc := "(II)I" } : Jvm.MethodName) jdk_29_method_69_code (2 : Nat) (Option.some Jvm.ClassFile.FieldType.int)).before args0 about1 = true := code_word (m := ⟨3, 1⟩) (meth := k3m1) (c := k3c1) (by decide +kernel) rfl rfl rfl (by decide +kernel)
def codes1 : List Jvm.Cond := [Jvm.Cond.code x code maxLocals ret, Jvm.Cond.code ({ cls := "com/example/skipstitch/skipstitch/GramTable", name := "key", desc := "(IIII)I" } : Jvm.MethodName) prog_5_method_3_code (4 : Nat) (Option.some Jvm.ClassFile.FieldType.int), Jvm.Cond.code ({ cls := "com/example/skipstitch/skipstitch/GramTable", name := "keyOfFirst", desc := "([I)I" } : Jvm.MethodName) prog_5_method_4_code (3 : Nat) (Option.some Jvm.ClassFile.FieldType.int), Jvm.Cond.code ({ cls := "java/lang/Math", name := "min", desc := "(II)I" } : Jvm.MethodName) jdk_29_method_69_code (2 : Nat) (Option.some Jvm.ClassFile.FieldType.int)]
set_option maxRecDepth 65536 in
theorem codes_eq : words1.filter isCode = codes1 := rfl
theorem w_codes : ∀ c ∈ words1.filter isCode, c.before args0 about1 = true := by
  rw [codes_eq]
  intro c hc
  simp only [codes1, List.mem_cons, List.not_mem_nil, or_false] at hc
  rcases hc with rfl | rfl | rfl | rfl
  · exact w_c0
  · exact w_c1
  · exact w_c2
  · exact w_c3
set_option maxRecDepth 65536 in
theorem w_t1 : words1.all (fun c => isCode c || c.before args0 about1) = true := by decide +kernel
theorem w_tables : (allAtoms (Jvm.Cond.code x code maxLocals ret :: tables_1)).before args0 about1 = true := by
  rw [allAtoms_all]
  show words1.all (fun c => c.before args0 about1) = true
  refine all_split ?_ w_codes
  rw [w_t1]
set_option maxRecDepth 65536 in
theorem w_case : (Jvm.Cond.and given_1 narrow_1).before args0 about1 = true := by decide +kernel
theorem w_applies : (headSpec (Jvm.Cond.code x code maxLocals ret :: tables_1) room_1).applies x e0.platform about1 = true :=
  (Spec.applies_iff w_frames).mpr ⟨w_running, w_runnable, w_alone, w_named, w_hears, w_ripe, w_room, w_tables⟩
theorem atStart : AtStart classFile x code maxLocals ret World_1 tables_1 room_1 Calls_1 rest_1 Pre_1 launch0 p0 e0 about1 theMethod args0 below0 :=
  ⟨lists_1, trivial, launch0.admits_env _ _ _, launch0.least_env, fairChoices_fair.cas, fairChoices_fair.clock, w_frames, w_args, w_heap, w_applies, trivial, trivial, w_case⟩
end start1
theorem witness_1 : WitnessClaimed_1 := ⟨start1.p0, start1.e0, start1.about1, start1.theMethod, start1.args0, start1.below0, start1.atStart⟩
end Jvm.Pilot.@@N@@
