import JvmDerived
import JvmDerived.Pilot.@@N@@Statement
import JvmDerived.Pilot.@@N@@Code
set_option linter.unusedVariables false
set_option linter.unusedSimpArgs false
set_option maxRecDepth 65536
set_option maxHeartbeats 20000000
namespace Jvm.Pilot.@@N@@
open Jvm Jvm.ClassFile Sem Op Lib Jvm.Free Jvm.Stand Jvm.LawKit Jvm.RoadKit Bundle Jvm.Pilot.@@N@@.Jvm.D
section OwnKit
variable {p : Program} {l : Launch} {e : Env} {R : Room} {s : State} {m : MethodId} {args : Array Value} {below : List Frame} {meth : Method} {c : Code} {T : State} {locs : List Loc} {cells slots : Nat} {Z : State} {a0 : Array Value} {h0 : Heap}
/-- from this state the run comes to the end of the invocation, and there P holds -/
def own_G (p : Program) (e : Env) (below : List Frame) (P : Outcome → State → Prop) (st : State) : Prop :=
  ∃ (u : State) (o : Outcome), Steps p.tables e below st u ∧ u.status = .running ∧ Ended u below o ∧ P o u
theorem own_via {P : Outcome → State → Prop} {st st' : State} (k : ∀ t, Steps p.tables e below st' t → Steps p.tables e below st t) (h : own_G p e below P st') : own_G p e below P st := by
  obtain ⟨u, o, h1, h2⟩ := h
  exact ⟨u, o, k _ h1, h2⟩
/-- what a contract says of the end -/
def own_P (s : State) (Q : Option Value → Heap → List Loc → Prop) (k n : Nat) : Outcome → State → Prop := fun o u => ∃ v L, o = .returned v ∧ Q v u.heap L ∧ FrameEnd s o u L k n
/-- it returns w and leaves the heap as it was -/
def own_Q (w : Value) (h0 : Heap) : Option Value → Heap → List Loc → Prop := fun v h L => v = some w ∧ L = [] ∧ h = h0
/-- a contract -/
def own_C (l : Launch) (Z : State) (y : MethodName) (bytes : ByteArray) (maxL : Nat) (ret : Option FieldType) (ws : List Jvm.Cond) (rm : Room) (as : Array Value) (h0 : Heap) (Q : Option Value → Heap → List Loc → Prop) : Prop :=
  MetFree l y (head1 (Jvm.Cond.code y bytes maxL ret :: ws) rm) (fun a U => a = as ∧ Z.Warmed39 U.vm ∧ U.heap = h0) (fun _ _ _ _ _ => True) (fun _ U o U' => ∃ v L, o = .returned v ∧ Q v U'.heap L ∧ FrameEnd U o U' L rm.cells rm.slots)
theorem own_ret {v : Option Value} {Q : Option Value → Heap → List Loc → Prop} {k n : Nat} {st : State} (X : Stand p l e R s m args below meth c T locs cells slots) (hv : meth.sig.returnType = none → v = none) (hlocks : meth.locks = false)
    (hst : ∀ fs, (∀ (f : JFrame) (acts : List Action), f.method = m → f.locked = none → f.entered = [] → (doReturn e (T.setTop f) acts v).1 = T.setFrames fs) → Steps p.tables e below st (T.setFrames fs))
    (hQ : Q v T.heap locs) (hk : cells ≤ k) (hn : slots ≤ n) : own_G p e below (own_P s Q k n) st := by
  obtain ⟨fs, hr, hrun, hended, hW, hsame⟩ := X.leave (v := v) hv hlocks
  exact ⟨_, _, hst fs hr, hrun, hended, _, _, rfl, hQ, ⟨_, rfl⟩, hW, hsame.mono hk hn⟩
theorem own_retI {Q : Option Value → Heap → List Loc → Prop} {k n : Nat} (X : Stand p l e R s m args below meth c T locs cells slots) (hx : p.tables.exec = Jvm.exec) {pc : Nat} {Ls : Array Slot} {z : Int32} {rest : List Value} (hret : meth.sig.returnType = some .int) (hlocks : meth.locks = false) (hd : decode c.code pc = .ok (.ireturn, 1))
    (hQ : Q (some (.int z)) T.heap locs) (hk : cells ≤ k) (hn : slots ≤ n) : own_G p e below (own_P s Q k n) (T.setTop (mkF m pc Ls (.int z :: rest))) := by
  refine own_ret X (fun h => by rw [hret] at h; cases h) hlocks (fun fs hr => ?_) hQ hk hn
  have hm' : T.vm.method? m = some meth := X.method'
  have hn : narrow .int (.int z) = .int z := rfl
  show Steps p.tables e below (T.setTop { method := m, pc := pc, locals := Ls, stack := _ :: rest, locked := none }) _
  jvm_step X.here [X.here.top, hx, hd, hm', hret, hn]
  first | (intro acts; rw [hr _ acts rfl rfl rfl]) | rw [hr _ _ rfl rfl rfl]
  exact Steps.refl _
theorem own_retN {Q : Option Value → Heap → List Loc → Prop} {k n : Nat} {t : FieldType} (X : Stand p l e R s m args below meth c T locs cells slots) (hx : p.tables.exec = Jvm.exec) {pc : Nat} {Ls : Array Slot} {z : Int32} {rest : List Value} (hret : meth.sig.returnType = some t) (ht : t = .boolean ∨ t = .byte ∨ t = .char ∨ t = .short) (hlocks : meth.locks = false) (hd : decode c.code pc = .ok (.ireturn, 1))
    (hQ : Q (some (.int (nar t z))) T.heap locs) (hk : cells ≤ k) (hn : slots ≤ n) : own_G p e below (own_P s Q k n) (T.setTop (mkF m pc Ls (.int z :: rest))) :=
  own_ret X (fun h => by rw [hret] at h; cases h) hlocks (fun fs hr => retN X hx hret ht hd hr) hQ hk hn
theorem own_retL {Q : Option Value → Heap → List Loc → Prop} {k n : Nat} (X : Stand p l e R s m args below meth c T locs cells slots) (hx : p.tables.exec = Jvm.exec) {pc : Nat} {Ls : Array Slot} {z : Int64} (hret : meth.sig.returnType = some .long) (hlocks : meth.locks = false) (hd : decode c.code pc = .ok (.lreturn, 1))
    (hQ : Q (some (.long z)) T.heap locs) (hk : cells ≤ k) (hn : slots ≤ n) : own_G p e below (own_P s Q k n) (T.setTop (mkF m pc Ls [.long z])) :=
  own_ret X (fun h => by rw [hret] at h; cases h) hlocks (fun fs hr => X.lreturnOut hx hret hd hr) hQ hk hn
theorem own_retV {Q : Option Value → Heap → List Loc → Prop} {k n : Nat} (X : Stand p l e R s m args below meth c T locs cells slots) (hx : p.tables.exec = Jvm.exec) {pc : Nat} {Ls : Array Slot} (hret : meth.sig.returnType = none) (hlocks : meth.locks = false) (hd : decode c.code pc = .ok (.return_, 1))
    (hQ : Q none T.heap locs) (hk : cells ≤ k) (hn : slots ≤ n) : own_G p e below (own_P s Q k n) (T.setTop (mkF m pc Ls [])) :=
  own_ret X (fun _ => rfl) hlocks (fun fs hr => X.returnOut hx hret hd hr) hQ hk hn
theorem own_retA {Q : Option Value → Heap → List Loc → Prop} {k n : Nat} {t : FieldType} {v : Value} (X : Stand p l e R s m args below meth c T locs cells slots) (hx : p.tables.exec = Jvm.exec) {pc : Nat} {Ls : Array Slot} {rest : List Value} (hret : meth.sig.returnType = some t) (ht : t.isReference = true) (hv : v.isRef = true) (hlocks : meth.locks = false) (hd : decode c.code pc = .ok (.areturn, 1))
    (hQ : Q (some v) T.heap locs) (hk : cells ≤ k) (hn : slots ≤ n) : own_G p e below (own_P s Q k n) (T.setTop (mkF m pc Ls (v :: rest))) := by
  refine own_ret X (fun h => by rw [hret] at h; cases h) hlocks (fun fs hr => ?_) hQ hk hn
  have hm' : T.vm.method? m = some meth := X.method'
  show Steps p.tables e below (T.setTop { method := m, pc := pc, locals := Ls, stack := _ :: rest, locked := none }) _
  jvm_step X.here [X.here.top, hx, hd, hm', hret, ht, hv]
  first | (intro acts; rw [hr _ acts rfl rfl rfl]) | rw [hr _ _ rfl rfl rfl]
  exact Steps.refl _
/-- a static method by its contract -/
theorem own_callS {own : String} {index : Nat} {y : MethodName} {bytes : ByteArray} {maxL W : Nat} {ret : Option FieldType} {rm : Room} {as : Array Value} {Q : Option Value → Heap → List Loc → Prop}
    (X : Stand p l e R s m args below meth c T locs cells slots) (hx : p.tables.exec = Jvm.exec) (hZ : Z.Warmed39 s.vm) (hown : s.vm.findClass own = some m.cls)
    (w1 : (Jvm.Cond.methodLink own index y).before a0 Z = true) (w2 : (Jvm.Cond.static y).before a0 Z = true) (w3 : (Jvm.Cond.initialized y.cls).before a0 Z = true) (w4 : (Jvm.Cond.code y bytes maxL ret).before a0 Z = true)
    (hy : y.cls ≠ "java/lang/invoke/MethodHandle" ∧ y.cls ≠ "java/lang/invoke/VarHandle") (hM : own_C l Z y bytes maxL ret [] rm as h0 Q)
    (hf : rm.frames + 1 ≤ R.frames) (hl : W + (maxL + 11) + rm.locals ≤ R.locals) (hcc : cells + rm.cells ≤ R.cells) (hss : slots + rm.slots ≤ R.slots) (e0 : T.heap = h0)
    {pc : Nat} {Ls : Array Slot} {st argsL rest : List Value} (hsize : Ls.size = c.maxLocals) (hlen : ∀ sig, parseMethodDescriptor y.desc = some sig → argsL.length = sig.parameters.length) (has : argsL.toArray = as)
    (hst : st = argsL.reverse ++ rest) (hW : 2 * 0 + (rest.map fun v => v.category).sum ≤ W) (hd : decode c.code pc = .ok (.invokestatic index, 3)) :
    ∃ (v : Option Value) (T' : State) (L : List Loc), Stand p l e R s m args below meth c T' (locs ++ L) (cells + rm.cells) (slots + rm.slots) ∧ Q v T'.heap L ∧
      ∀ target, Steps p.tables e below (T'.setTop (mkF m (pc + 3) Ls (v.toList ++ rest))) target → Steps p.tables e below (T.setTop (mkF m pc Ls st)) target := by
  obtain ⟨v, _, ⟨T', L', k', n'⟩, -, X', ⟨Lc, hQ, h1, h2, h3⟩, stp⟩ := Jvm.LawKit.callS X hx (y := y) hown (mvT hZ w1) (mvT hZ w2) (mvT hZ w3) (mvT hZ w4) hy
    (backOf (W := W) hM hZ w4 w3 hf hl) (g := mkF m pc Ls st) rfl hsize (argsL := argsL) (rest := rest) hlen hst hW hd (fun _ _ => ⟨has, e0, hcc, hss⟩)
  dsimp only [Pt.U, Pt.locs, Pt.cells, Pt.slots] at X' h1 h2 h3 stp hQ
  subst h1 h2 h3
  exact ⟨v, T', Lc, X', hQ, stp⟩
/-- a static method that leaves the heap as it was -/
theorem own_callP {own : String} {index : Nat} {y : MethodName} {bytes : ByteArray} {maxL W : Nat} {ret : Option FieldType} {rm : Room} {as : Array Value} {w : Value}
    (X : Stand p l e R s m args below meth c T locs cells slots) (hx : p.tables.exec = Jvm.exec) (hZ : Z.Warmed39 s.vm) (hown : s.vm.findClass own = some m.cls)
    (w1 : (Jvm.Cond.methodLink own index y).before a0 Z = true) (w2 : (Jvm.Cond.static y).before a0 Z = true) (w3 : (Jvm.Cond.initialized y.cls).before a0 Z = true) (w4 : (Jvm.Cond.code y bytes maxL ret).before a0 Z = true)
    (hy : y.cls ≠ "java/lang/invoke/MethodHandle" ∧ y.cls ≠ "java/lang/invoke/VarHandle") (hM : own_C l Z y bytes maxL ret [] rm as h0 (own_Q w h0))
    (hf : rm.frames + 1 ≤ R.frames) (hl : W + (maxL + 11) + rm.locals ≤ R.locals) (hrc : rm.cells = 0) (hrs : rm.slots = 0) (hcc : cells + rm.cells ≤ R.cells) (hss : slots + rm.slots ≤ R.slots) (e0 : T.heap = h0)
    {pc : Nat} {Ls : Array Slot} {st argsL rest : List Value} (hsize : Ls.size = c.maxLocals) (hlen : ∀ sig, parseMethodDescriptor y.desc = some sig → argsL.length = sig.parameters.length) (has : argsL.toArray = as)
    (hst : st = argsL.reverse ++ rest) (hW : 2 * 0 + (rest.map fun v => v.category).sum ≤ W) (hd : decode c.code pc = .ok (.invokestatic index, 3)) :
    ∃ (T' : State), Stand p l e R s m args below meth c T' locs cells slots ∧ T'.heap = h0 ∧
      ∀ target, Steps p.tables e below (T'.setTop (mkF m (pc + 3) Ls (w :: rest))) target → Steps p.tables e below (T.setTop (mkF m pc Ls st)) target := by
  obtain ⟨v, T', L, X', ⟨rfl, rfl, hh⟩, stp⟩ := own_callS X hx hZ hown w1 w2 w3 w4 hy hM hf hl hcc hss e0 hsize hlen has hst hW hd
  rw [List.append_nil, hrc, hrs] at X'
  exact ⟨T', X', hh, stp⟩
theorem own_b1 {x a : Int32} (h : x < a) : x.toInt ≤ a.toInt - 1 := by rw [Int32.lt_iff_toInt_lt] at h; omega
theorem own_b2 {x a : Int32} (h : ¬ x < a) : a.toInt ≤ x.toInt := by rw [Int32.lt_iff_toInt_lt] at h; omega
theorem own_b3 {x a : Int32} (h : a < x) : a.toInt + 1 ≤ x.toInt := by rw [Int32.lt_iff_toInt_lt] at h; omega
theorem own_b4 {x a : Int32} (h : ¬ a < x) : x.toInt ≤ a.toInt := by rw [Int32.lt_iff_toInt_lt] at h; omega
theorem own_b5 {x b : Int32} {k : Int} (h : x.toInt ≤ k) (q : k < b.toInt) : x < b := by rw [Int32.lt_iff_toInt_lt]; omega
theorem own_b6 {x b : Int32} {k : Int} (h : k ≤ x.toInt) (q : b.toInt ≤ k) : ¬ x < b := by rw [Int32.lt_iff_toInt_lt]; omega
theorem own_b7 {x b : Int32} {k : Int} (h : k ≤ x.toInt) (q : b.toInt < k) : b < x := by rw [Int32.lt_iff_toInt_lt]; omega
theorem own_b8 {x b : Int32} {k : Int} (h : x.toInt ≤ k) (q : k ≤ b.toInt) : ¬ b < x := by rw [Int32.lt_iff_toInt_lt]; omega
theorem own_b9 {x b : Int32} {k : Int} (h : x.toInt ≤ k) (q : k < b.toInt) : ¬ x = b := fun e => by subst e; omega
theorem own_b10 {x b : Int32} {k : Int} (h : k ≤ x.toInt) (q : b.toInt < k) : ¬ x = b := fun e => by subst e; omega
theorem own_q1 {x a b : Int32} (h : x = a) (q : a < b) : x < b := h ▸ q
theorem own_q2 {x a b : Int32} (h : x = a) (q : ¬ a < b) : ¬ x < b := h ▸ q
theorem own_q3 {x a b : Int32} (h : x = a) (q : b < a) : b < x := h ▸ q
theorem own_q4 {x a b : Int32} (h : x = a) (q : ¬ b < a) : ¬ b < x := h ▸ q
theorem own_q5 {x a b : Int32} (h : x = a) (q : a = b) : x = b := h ▸ q
theorem own_q6 {x a b : Int32} (h : x = a) (q : ¬ a = b) : ¬ x = b := h ▸ q
end OwnKit
section OwnHeap
variable {p : Program} {l : Launch} {e : Env} {R : Room} {s : State} {m : MethodId} {args : Array Value} {below : List Frame} {meth : Method} {c : Code} {T : State} {locs : List Loc} {cells slots : Nat} {Z : State} {a0 : Array Value} {h0 h : Heap} {n0 : Nat}
/-- the writes lie at or above n0, and q says the rest -/
def own_W (n0 : Nat) (q : Option Value → Heap → Prop) : Option Value → Heap → List Loc → Prop := fun v h L => Fr n0 L ∧ q v h
theorem own_newA (X : Stand p l e R s m args below meth c T locs cells slots) (hx : p.tables.exec = Jvm.exec) (hZ : Z.Warmed39 s.vm) {aty : ArrayType} (w : (Jvm.Cond.arrayClass (newarray.typeOf aty)).before a0 Z = true) (eT : T.heap = h) {pc : Nat} {Ls : Array Slot} (hd : decode c.code pc = .ok (.newarray aty, 2)) {n : Int32} {rest : List Value}
    (hn : ¬ n < 0) {cap : Nat} (hcap : n.toNatClampNeg ≤ cap) (hb : cap * 8 ≤ 536870912) (hc : cells + 1 ≤ R.cells) (hl : slots + cap ≤ R.slots) (len : Nat) {ad : String} (had : "[" ++ (newarray.typeOf aty).toString = ad) :
    ∃ T' h' k a, Stand p l e R s m args below meth c T' locs (cells + 1) (slots + cap) ∧ T'.heap = h' ∧ Ext h h' ∧ a = h.size ∧ Arv Z h' a k (newarray.typeOf aty) n (List.replicate len (defaultValue (newarray.typeOf aty))) (defaultValue (newarray.typeOf aty)) ∧ Exa Z h' a ad ∧
      ∀ target, Steps p.tables e below (T'.setTop (mkF m (pc + 2) Ls (.ref a :: rest))) target → Steps p.tables e below (T.setTop (mkF m pc Ls (.int n :: rest))) target := by
  obtain ⟨T', h', k, X', e', E, A, Ex, st⟩ := newPE X hx hZ w eT (g := mkF m pc Ls (.int n :: rest)) rfl hd rfl hn hcap hb hc hl had
  exact ⟨T', h', k, h.size, X', e', E, rfl, (Arv.new A hn).pad (fun i => by have := pad_rep [] (defaultValue (newarray.typeOf aty)) len i; rwa [List.nil_append] at this), Ex, st⟩
theorem own_stB (X : Stand p l e R s m args below meth c T locs cells slots) (N : Fr n0 locs) (hx : p.tables.exec = Jvm.exec) (hZ : Z.Warmed39 s.vm) (eT : T.heap = h) {a : Addr} {k : ClassId} {z : Int32} {vs : List Value} {d : Value} (V : Arv Z h a k .byte z vs d) (ga : n0 ≤ a) {j x : Int32} {i : Nat} (hj : ¬ j < 0 ∧ j < z) (hi : j.toNatClampNeg = i) (hl : i < vs.length)
    {pc : Nat} {Ls : Array Slot} {rest : List Value} (hd : decode c.code pc = .ok (.bastore, 1)) :
    ∃ T' h' L', Stand p l e R s m args below meth c T' L' cells slots ∧ Fr n0 L' ∧ T'.heap = h' ∧ Wr h h' a i (.int x.toInt8.toInt32) ∧ Arv Z h' a k .byte z (vs.set i (.int x.toInt8.toInt32)) d ∧
      ∀ target, Steps p.tables e below (T'.setTop (mkF m (pc + 1) Ls rest)) target → Steps p.tables e below (T.setTop (mkF m pc Ls (.int x :: .int j :: .ref a :: rest))) target := by
  obtain ⟨cl, Ar, q, S, Nn, H, G⟩ := V
  obtain ⟨T', h', X', e', W, st⟩ := stB X hx hZ eT Ar (j := j) (x := x) (inb_of S hj) (g := mkF m pc Ls (.int x :: .int j :: .ref a :: rest)) rfl rfl hd
  subst hi
  exact ⟨T', h', _, X', Fr.snoc X' N ga, e', W, Arv.set Ar q S Nn H G (fits_nar_byte x) W _ rfl hl, st⟩
theorem own_stI (X : Stand p l e R s m args below meth c T locs cells slots) (N : Fr n0 locs) (hx : p.tables.exec = Jvm.exec) (hZ : Z.Warmed39 s.vm) (eT : T.heap = h) {a : Addr} {k : ClassId} {z : Int32} {vs : List Value} {d : Value} (V : Arv Z h a k .int z vs d) (ga : n0 ≤ a) {j x : Int32} {i : Nat} (hj : ¬ j < 0 ∧ j < z) (hi : j.toNatClampNeg = i) (hl : i < vs.length)
    {pc : Nat} {Ls : Array Slot} {rest : List Value} (hd : decode c.code pc = .ok (.iastore, 1)) :
    ∃ T' h' L', Stand p l e R s m args below meth c T' L' cells slots ∧ Fr n0 L' ∧ T'.heap = h' ∧ Wr h h' a i (.int x) ∧ Arv Z h' a k .int z (vs.set i (.int x)) d ∧
      ∀ target, Steps p.tables e below (T'.setTop (mkF m (pc + 1) Ls rest)) target → Steps p.tables e below (T.setTop (mkF m pc Ls (.int x :: .int j :: .ref a :: rest))) target := by
  obtain ⟨cl, Ar, q, S, Nn, H, G⟩ := V
  obtain ⟨T', h', X', e', W, st⟩ := stI X hx hZ eT Ar (j := j) (x := x) (inb_of S hj) (g := mkF m pc Ls (.int x :: .int j :: .ref a :: rest)) rfl rfl hd
  subst hi
  exact ⟨T', h', _, X', Fr.snoc X' N ga, e', W, Arv.set Ar q S Nn H G rfl W _ rfl hl, st⟩
theorem own_stC (X : Stand p l e R s m args below meth c T locs cells slots) (N : Fr n0 locs) (hx : p.tables.exec = Jvm.exec) (hZ : Z.Warmed39 s.vm) (eT : T.heap = h) {a : Addr} {k : ClassId} {z : Int32} {vs : List Value} {d : Value} (V : Arv Z h a k .char z vs d) (ga : n0 ≤ a) {j x : Int32} {i : Nat} (hj : ¬ j < 0 ∧ j < z) (hi : j.toNatClampNeg = i) (hl : i < vs.length)
    {pc : Nat} {Ls : Array Slot} {rest : List Value} (hd : decode c.code pc = .ok (.castore, 1)) :
    ∃ T' h' L', Stand p l e R s m args below meth c T' L' cells slots ∧ Fr n0 L' ∧ T'.heap = h' ∧ Wr h h' a i (.int (nar .char x)) ∧ Arv Z h' a k .char z (vs.set i (.int (nar .char x))) d ∧
      ∀ target, Steps p.tables e below (T'.setTop (mkF m (pc + 1) Ls rest)) target → Steps p.tables e below (T.setTop (mkF m pc Ls (.int x :: .int j :: .ref a :: rest))) target := by
  obtain ⟨cl, Ar, q, S, Nn, H, G⟩ := V
  obtain ⟨T', h', X', e', W, st⟩ := stC X hx hZ eT Ar (j := j) (x := x) (inb_of S hj) (g := mkF m pc Ls (.int x :: .int j :: .ref a :: rest)) rfl rfl hd
  subst hi
  exact ⟨T', h', _, X', Fr.snoc X' N ga, e', W, Arv.set Ar q S Nn H G (fits_nar_char x) W _ rfl hl, st⟩
theorem own_ldB (X : Stand p l e R s m args below meth c T locs cells slots) (hx : p.tables.exec = Jvm.exec) (hZ : Z.Warmed39 s.vm) (eT : T.heap = h) {a : Addr} {k : ClassId} {z : Int32} {vs : List Value} {d v : Value} (V : Arv Z h a k .byte z vs d) {j : Int32} (hj : ¬ j < 0 ∧ j < z) (hv : vs.getD j.toNatClampNeg d = v)
    {pc : Nat} {Ls : Array Slot} {rest : List Value} (hd : decode c.code pc = .ok (.baload, 1)) (target : State) (hr : Steps p.tables e below (T.setTop (mkF m (pc + 1) Ls (v :: rest))) target) : Steps p.tables e below (T.setTop (mkF m pc Ls (.int j :: .ref a :: rest))) target := by
  obtain ⟨cl, Ar, q, S, Nn, H, G⟩ := V
  have hin := inb_of S hj
  refine X.baloadBytes hx (j := j) (v := v) (by rw [eT]; exact Ar.1) (State.isArrayOf_alike hZ.alike Ar.2.1) Ar.2.2 hin ?_ (g := mkF m pc Ls (.int j :: .ref a :: rest)) rfl rfl hd _ hr
  rw [H _ (Nat.lt_of_not_le fun q => hin (Or.inr q)), hv]
theorem own_ldI (X : Stand p l e R s m args below meth c T locs cells slots) (hx : p.tables.exec = Jvm.exec) (hZ : Z.Warmed39 s.vm) (eT : T.heap = h) {a : Addr} {k : ClassId} {z : Int32} {vs : List Value} {d v : Value} (V : Arv Z h a k .int z vs d) {j : Int32} (hj : ¬ j < 0 ∧ j < z) (hv : vs.getD j.toNatClampNeg d = v)
    {pc : Nat} {Ls : Array Slot} {rest : List Value} (hd : decode c.code pc = .ok (.iaload, 1)) (target : State) (hr : Steps p.tables e below (T.setTop (mkF m (pc + 1) Ls (v :: rest))) target) : Steps p.tables e below (T.setTop (mkF m pc Ls (.int j :: .ref a :: rest))) target := by
  obtain ⟨cl, Ar, q, S, Nn, H, G⟩ := V
  have hin := inb_of S hj
  refine X.iaload hx (j := j) (v := v) (by rw [eT]; exact Ar.1) (State.isArrayOf_alike hZ.alike Ar.2.1) Ar.2.2 hin ?_ (g := mkF m pc Ls (.int j :: .ref a :: rest)) rfl rfl hd _ hr
  rw [H _ (Nat.lt_of_not_le fun q => hin (Or.inr q)), hv]
theorem own_ldC (X : Stand p l e R s m args below meth c T locs cells slots) (hx : p.tables.exec = Jvm.exec) (hZ : Z.Warmed39 s.vm) (eT : T.heap = h) {a : Addr} {k : ClassId} {z : Int32} {vs : List Value} {d v : Value} (V : Arv Z h a k .char z vs d) {j : Int32} (hj : ¬ j < 0 ∧ j < z) (hv : vs.getD j.toNatClampNeg d = v)
    {pc : Nat} {Ls : Array Slot} {rest : List Value} (hd : decode c.code pc = .ok (.caload, 1)) (target : State) (hr : Steps p.tables e below (T.setTop (mkF m (pc + 1) Ls (v :: rest))) target) : Steps p.tables e below (T.setTop (mkF m pc Ls (.int j :: .ref a :: rest))) target := by
  obtain ⟨cl, Ar, q, S, Nn, H, G⟩ := V
  have hin := inb_of S hj
  refine X.caload hx (j := j) (v := v) (by rw [eT]; exact Ar.1) (State.isArrayOf_alike hZ.alike Ar.2.1) Ar.2.2 hin ?_ (g := mkF m pc Ls (.int j :: .ref a :: rest)) rfl rfl hd _ hr
  rw [H _ (Nat.lt_of_not_le fun q => hin (Or.inr q)), hv]
theorem own_len (X : Stand p l e R s m args below meth c T locs cells slots) (hx : p.tables.exec = Jvm.exec) (hZ : Z.Warmed39 s.vm) (eT : T.heap = h) {a : Addr} {k : ClassId} {ty : FieldType} {z : Int32} {vs : List Value} {d : Value} (V : Arv Z h a k ty z vs d)
    {pc : Nat} {Ls : Array Slot} {rest : List Value} (hd : decode c.code pc = .ok (.arraylength, 1)) (target : State) (hr : Steps p.tables e below (T.setTop (mkF m (pc + 1) Ls (.int z :: rest))) target) : Steps p.tables e below (T.setTop (mkF m pc Ls (.ref a :: rest))) target := by
  obtain ⟨cl, Ar, q, S, Nn, H, G⟩ := V
  refine X.arraylength hx (by rw [eT]; exact Ar.1) (State.isArrayOf_alike hZ.alike Ar.2.1) (g := mkF m pc Ls (.ref a :: rest)) rfl rfl hd _ ?_
  rw [len_of S Nn]
  exact hr
/-- an array cloned -/
theorem own_clone (X : Stand p l e R s m args below meth c T locs cells slots) (hx : p.tables.exec = Jvm.exec) (hZ : Z.Warmed39 s.vm) {own ad : String} {index : Nat} (hown : s.vm.findClass own = some m.cls)
    (w1 : (Jvm.Cond.methodLink own index ⟨ad, "clone", "()Ljava/lang/Object;"⟩).before a0 Z = true) (w2 : (Jvm.Cond.sameMethod ad "java/lang/Object" "clone" "()Ljava/lang/Object;").before a0 Z = true) (w3 : (Jvm.Cond.native ⟨"java/lang/Object", "clone", "()Ljava/lang/Object;"⟩).before a0 Z = true)
    (w4 : (Jvm.Cond.instanceMethod ⟨"java/lang/Object", "clone", "()Ljava/lang/Object;"⟩).before a0 Z = true) (w5 : (Jvm.Cond.selects ad ⟨ad, "clone", "()Ljava/lang/Object;"⟩ ⟨"java/lang/Object", "clone", "()Ljava/lang/Object;"⟩).before a0 Z = true) (w6 : (Jvm.Cond.castable ad "java/lang/Cloneable").before a0 Z = true)
    (eT : T.heap = h) {a : Addr} {k : ClassId} {ty : FieldType} {z : Int32} {vs : List Value} {dv : Value} (F : Arv Z h a k ty z vs dv) (E : Exa Z h a ad) {pc : Nat} {Ls : Array Slot} {rest : List Value} (hsize : Ls.size = c.maxLocals) (hd : decode c.code pc = .ok (.invokevirtual index, 3))
    (hf : 1 ≤ R.frames) {W cap : Nat} (hW : 2 * 0 + (rest.map fun v => v.category).sum ≤ W) (hl : W + 14 ≤ R.locals) (hcap : z.toNatClampNeg ≤ cap) (hc : cells + 1 ≤ R.cells) (hsl : slots + cap ≤ R.slots) :
    ∃ T' h' b, Stand p l e R s m args below meth c T' locs (cells + 1) (slots + cap) ∧ T'.heap = h' ∧ Ext h h' ∧ b = h.size ∧ Arv Z h' b k ty z vs dv ∧ Exa Z h' b ad ∧
      ∀ target, Steps p.tables e below (T'.setTop (mkF m (pc + 3) Ls (.ref b :: rest))) target → Steps p.tables e below (T.setTop (mkF m pc Ls (.ref a :: rest))) target := by
  obtain ⟨T', h', X', e', ex, V, E', st⟩ := cloneH X hx hZ hown w1 w2 w3 w4 w5 w6 eT F.arh E (g := mkF m pc Ls (.ref a :: rest)) rfl hsize rfl hd hf hW hl hcap hc hsl
  exact ⟨T', h', h.size, X', e', ex, rfl, V, E', st⟩
/-- a field written -/
theorem own_putF (X : Stand p l e R s m args below meth c T locs cells slots) (N : Fr n0 locs) (hx : p.tables.exec = Jvm.exec) (hZ : Z.Warmed39 s.vm) {own O n d C : String} {index kk : Nat} {ty : FieldType} (hown : s.vm.findClass own = some m.cls) (w : (Jvm.Cond.fieldLink own index O n d).before a0 Z = true)
    (eT : T.heap = h) {a : Addr} {v old : Value} (F : Fld Z h a O n d old) (E : Exa Z h a C) (L : (Jvm.Cond.lays C O n d).before a0 Z = true ∨ ((Jvm.Cond.laysFinal C O n d).before a0 Z = true ∧ own = O ∧ meth.name = "<init>")) (wi : (Jvm.Cond.instantiable C kk).before a0 Z = true) (ga : n0 ≤ a)
    (hty : parseFieldDescriptor d = some ty) (hn : narrow ty v = v) (hf : fits ty v = true) {pc : Nat} {Ls : Array Slot} {rest : List Value} (hd : decode c.code pc = .ok (.putfield index, 3)) :
    ∃ T' h' L', Stand p l e R s m args below meth c T' L' cells slots ∧ Fr n0 L' ∧ T'.heap = h' ∧ Wr h h' a (Jvm.RoadKit.slotOf Z O n d) v ∧ Fld Z h' a O n d v ∧
      ∀ target, Steps p.tables e below (T'.setTop (mkF m (pc + 3) Ls rest)) target → Steps p.tables e below (T.setTop (mkF m pc Ls (v :: .ref a :: rest))) target := by
  obtain ⟨T', h', X', e', W, st⟩ := putF X hx hZ hown (host := "") (Or.inl w) Via.refl eT F E L wi hty hn hf (g := mkF m pc Ls (v :: .ref a :: rest)) rfl rfl hd
  exact ⟨T', h', _, X', Fr.snoc X' N ga, e', W, F.same W, st⟩
theorem own_putFN (X : Stand p l e R s m args below meth c T locs cells slots) (N : Fr n0 locs) (hx : p.tables.exec = Jvm.exec) (hZ : Z.Warmed39 s.vm) {own O n d C : String} {index kk : Nat} {ty : FieldType} (hown : s.vm.findClass own = some m.cls) (w : (Jvm.Cond.fieldLink own index O n d).before a0 Z = true)
    (eT : T.heap = h) {a : Addr} {v v' old : Value} (F : Fld Z h a O n d old) (E : Exa Z h a C) (L : (Jvm.Cond.lays C O n d).before a0 Z = true ∨ ((Jvm.Cond.laysFinal C O n d).before a0 Z = true ∧ own = O ∧ meth.name = "<init>")) (wi : (Jvm.Cond.instantiable C kk).before a0 Z = true) (ga : n0 ≤ a)
    (hty : parseFieldDescriptor d = some ty) (hn : narrow ty v = v') (hf : fits ty v' = true) {pc : Nat} {Ls : Array Slot} {rest : List Value} (hd : decode c.code pc = .ok (.putfield index, 3)) :
    ∃ T' h' L', Stand p l e R s m args below meth c T' L' cells slots ∧ Fr n0 L' ∧ T'.heap = h' ∧ Wr h h' a (Jvm.RoadKit.slotOf Z O n d) v' ∧ Fld Z h' a O n d v' ∧
      ∀ target, Steps p.tables e below (T'.setTop (mkF m (pc + 3) Ls rest)) target → Steps p.tables e below (T.setTop (mkF m pc Ls (v :: .ref a :: rest))) target := by
  obtain ⟨T', h', X', e', W, st⟩ := putFN X hx hZ hown w Via.refl eT F E L wi hty hn hf (g := mkF m pc Ls (v :: .ref a :: rest)) rfl rfl hd
  exact ⟨T', h', _, X', Fr.snoc X' N ga, e', W, F.same W, st⟩
/-- new -/
theorem own_newO (X : Stand p l e R s m args below meth c T locs cells slots) (hx : p.tables.exec = Jvm.exec) (hZ : Z.Warmed39 s.vm) {own C : String} {index n : Nat} (hown : s.vm.findClass own = some m.cls) (w : (Jvm.Cond.classLink own index C).before a0 Z = true) (wi : (Jvm.Cond.instantiable C n).before a0 Z = true) (wz : (Jvm.Cond.initialized C).before a0 Z = true) (eT : T.heap = h)
    {pc : Nat} {Ls : Array Slot} {rest : List Value} (hd : decode c.code pc = .ok (.new index, 3)) (hc : cells + 1 ≤ R.cells) (hl : slots + n ≤ R.slots) :
    ∃ T' h' a, Stand p l e R s m args below meth c T' locs (cells + 1) (slots + n) ∧ T'.heap = h' ∧ Ext h h' ∧ a = h.size ∧ Exa Z h' a C ∧ (∀ {O nm d : String} {ty : FieldType}, Laid Z a0 C O nm d → parseFieldDescriptor d = some ty → Fld Z h' a O nm d (defaultValue ty)) ∧
      ∀ target, Steps p.tables e below (T'.setTop (mkF m (pc + 3) Ls (.ref a :: rest))) target → Steps p.tables e below (T.setTop (mkF m pc Ls rest)) target := by
  obtain ⟨T', h', X', e', E, A, D, -, st⟩ := newO X hx hZ hown w wi wz eT (g := mkF m pc Ls rest) rfl hd hc hl
  exact ⟨T', h', h.size, X', e', E, rfl, A, D, st⟩
/-- a static method that may write and make -/
theorem own_callSW {own : String} {index : Nat} {y : MethodName} {bytes : ByteArray} {maxL W : Nat} {ret : Option FieldType} {rm : Room} {as : Array Value} {q : Option Value → Heap → Prop}
    (X : Stand p l e R s m args below meth c T locs cells slots) (N : Fr n0 locs) (hx : p.tables.exec = Jvm.exec) (hZ : Z.Warmed39 s.vm) (hown : s.vm.findClass own = some m.cls)
    (w1 : (Jvm.Cond.methodLink own index y).before a0 Z = true) (w2 : (Jvm.Cond.static y).before a0 Z = true) (w3 : (Jvm.Cond.initialized y.cls).before a0 Z = true) (w4 : (Jvm.Cond.code y bytes maxL ret).before a0 Z = true)
    (hy : y.cls ≠ "java/lang/invoke/MethodHandle" ∧ y.cls ≠ "java/lang/invoke/VarHandle") (hM : own_C l Z y bytes maxL ret [] rm as h (own_W n0 q))
    (hf : rm.frames + 1 ≤ R.frames) (hl : W + (maxL + 11) + rm.locals ≤ R.locals) (hcc : cells + rm.cells ≤ R.cells) (hss : slots + rm.slots ≤ R.slots) (e0 : T.heap = h)
    {pc : Nat} {Ls : Array Slot} {st argsL rest : List Value} (hsize : Ls.size = c.maxLocals) (hlen : ∀ sig, parseMethodDescriptor y.desc = some sig → argsL.length = sig.parameters.length) (has : argsL.toArray = as)
    (hst : st = argsL.reverse ++ rest) (hW : 2 * 0 + (rest.map fun v => v.category).sum ≤ W) (hd : decode c.code pc = .ok (.invokestatic index, 3)) :
    ∃ (v : Option Value) (T' : State) (h' : Heap) (L' : List Loc), Stand p l e R s m args below meth c T' L' (cells + rm.cells) (slots + rm.slots) ∧ Fr n0 L' ∧ T'.heap = h' ∧ q v h' ∧
      ∀ target, Steps p.tables e below (T'.setTop (mkF m (pc + 3) Ls (v.toList ++ rest))) target → Steps p.tables e below (T.setTop (mkF m pc Ls st)) target := by
  obtain ⟨v, T', L, X', ⟨N', hq⟩, stp⟩ := own_callS X hx hZ hown w1 w2 w3 w4 hy hM hf hl hcc hss e0 hsize hlen has hst hW hd
  exact ⟨v, T', _, _, X', N.app N', rfl, hq, stp⟩
/-- a constructor by its contract -/
theorem own_callI {own : String} {index : Nat} {y : MethodName} {bytes : ByteArray} {maxL W : Nat} {rm : Room} {as : Array Value} {q : Option Value → Heap → Prop} {a : Addr}
    (X : Stand p l e R s m args below meth c T locs cells slots) (N : Fr n0 locs) (hx : p.tables.exec = Jvm.exec) (hZ : Z.Warmed39 s.vm) (hy1 : y.name = "<init>") (hown : s.vm.findClass own = some m.cls)
    (w1 : (Jvm.Cond.methodLink own index y).before a0 Z = true) (w2 : (Jvm.Cond.instanceMethod y).before a0 Z = true) (w3 : (Jvm.Cond.initialized y.cls).before a0 Z = true) (w4 : (Jvm.Cond.code y bytes maxL none).before a0 Z = true)
    (hy : y.cls ≠ "java/lang/invoke/MethodHandle" ∧ y.cls ≠ "java/lang/invoke/VarHandle") (hM : own_C l Z y bytes maxL none [] rm as h (own_W n0 q))
    (hf : rm.frames + 1 ≤ R.frames) (hl : W + (maxL + 11) + rm.locals ≤ R.locals) (hcc : cells + rm.cells ≤ R.cells) (hss : slots + rm.slots ≤ R.slots) (e0 : T.heap = h)
    {pc : Nat} {Ls : Array Slot} {st argsL rest : List Value} (hsize : Ls.size = c.maxLocals) (hlen : ∀ sig, parseMethodDescriptor y.desc = some sig → argsL.length = sig.parameters.length) (has : (Value.ref a :: argsL).toArray = as)
    (hst : st = argsL.reverse ++ .ref a :: rest) (hW : 2 * 0 + (rest.map fun v => v.category).sum ≤ W) (hd : decode c.code pc = .ok (.invokespecial index, 3)) :
    ∃ (v : Option Value) (T' : State) (h' : Heap) (L' : List Loc), Stand p l e R s m args below meth c T' L' (cells + rm.cells) (slots + rm.slots) ∧ Fr n0 L' ∧ T'.heap = h' ∧ q v h' ∧
      ∀ target, Steps p.tables e below (T'.setTop (mkF m (pc + 3) Ls (v.toList ++ rest))) target → Steps p.tables e below (T.setTop (mkF m pc Ls st)) target := by
  obtain ⟨v, _, ⟨T', L', k', n'⟩, -, X', ⟨Lc, ⟨N', hq⟩, h1, h2, h3⟩, stp⟩ := X.specialBack hx (y := y) hy1 hown (mvT hZ w1) (mvT hZ w2) (mvT hZ w4) hy
    (backOf (W := W) hM hZ w4 w3 hf hl) (g := mkF m pc Ls st) rfl hsize (Steps.refl _) (a := a) (argsL := argsL) (rest := rest) hlen hst hW hd (fun _ _ => ⟨has, e0, hcc, hss⟩)
  dsimp only [Pt.U, Pt.locs, Pt.cells, Pt.slots] at X' h1 h2 h3 stp hq
  subst h1 h2 h3
  exact ⟨v, T', _, _, X', N.app N', rfl, hq, fun t k => stp.trans k⟩
/-- an instance method by its contract -/
theorem own_callV {own C : String} {index : Nat} {y z : MethodName} {bytes : ByteArray} {maxL W : Nat} {ret : Option FieldType} {rm : Room} {as : Array Value} {q : Option Value → Heap → Prop} {a : Addr}
    (X : Stand p l e R s m args below meth c T locs cells slots) (N : Fr n0 locs) (hx : p.tables.exec = Jvm.exec) (hZ : Z.Warmed39 s.vm) (hown : s.vm.findClass own = some m.cls)
    (w1 : (Jvm.Cond.methodLink own index y).before a0 Z = true) (w2 : (Jvm.Cond.declares y).before a0 Z = true) (hnf : NotFace s y) (ws : (Jvm.Cond.selects C y z).before a0 Z = true) (wi : (Jvm.Cond.instanceMethod z).before a0 Z = true) (w3 : (Jvm.Cond.initialized z.cls).before a0 Z = true) (w4 : (Jvm.Cond.code z bytes maxL ret).before a0 Z = true)
    (hy : y.cls ≠ "java/lang/invoke/MethodHandle" ∧ y.cls ≠ "java/lang/invoke/VarHandle") (hM : own_C l Z z bytes maxL ret [] rm as h (own_W n0 q))
    (hf : rm.frames + 1 ≤ R.frames) (hl : W + (maxL + 11) + rm.locals ≤ R.locals) (hcc : cells + rm.cells ≤ R.cells) (hss : slots + rm.slots ≤ R.slots) (e0 : T.heap = h) (E : Exa Z h a C)
    {pc : Nat} {Ls : Array Slot} {st argsL rest : List Value} (hsize : Ls.size = c.maxLocals) (hlen : ∀ sig, parseMethodDescriptor y.desc = some sig → argsL.length = sig.parameters.length) (has : (Value.ref a :: argsL).toArray = as)
    (hst : st = argsL.reverse ++ .ref a :: rest) (hW : 2 * 0 + (rest.map fun v => v.category).sum ≤ W) (hd : decode c.code pc = .ok (.invokevirtual index, 3)) :
    ∃ (v : Option Value) (T' : State) (h' : Heap) (L' : List Loc), Stand p l e R s m args below meth c T' L' (cells + rm.cells) (slots + rm.slots) ∧ Fr n0 L' ∧ T'.heap = h' ∧ q v h' ∧
      ∀ target, Steps p.tables e below (T'.setTop (mkF m (pc + 3) Ls (v.toList ++ rest))) target → Steps p.tables e below (T.setTop (mkF m pc Ls st)) target := by
  obtain ⟨cq, kq, qa, qb, qc⟩ := isOf hZ e0 E
  obtain ⟨v, _, ⟨T', L', k', n'⟩, -, X', ⟨Lc, ⟨N', hq⟩, h1, h2, h3⟩, stp⟩ := X.virtualBack hx (y := y) (z := z) hown (mvT hZ w1) (mvT hZ w2) hnf (mvT hZ ws) (mvT hZ wi) hy
    (backOf (W := W) hM hZ w4 w3 hf hl) qa qc (g := mkF m pc Ls st) rfl hsize (Steps.refl _) (argsL := argsL) (rest := rest) hlen hst hW hd (fun _ _ => ⟨has, e0, hcc, hss⟩)
  dsimp only [Pt.U, Pt.locs, Pt.cells, Pt.slots] at X' h1 h2 h3 stp hq
  subst h1 h2 h3
  exact ⟨v, T', _, _, X', N.app N', rfl, hq, fun t k => stp.trans k⟩
/-- an instance method that leaves the heap as it was -/
theorem own_callVP {own C : String} {index : Nat} {y z : MethodName} {bytes : ByteArray} {maxL W : Nat} {ret : Option FieldType} {rm : Room} {as : Array Value} {w : Value} {a : Addr}
    (X : Stand p l e R s m args below meth c T locs cells slots) (hx : p.tables.exec = Jvm.exec) (hZ : Z.Warmed39 s.vm) (hown : s.vm.findClass own = some m.cls)
    (w1 : (Jvm.Cond.methodLink own index y).before a0 Z = true) (w2 : (Jvm.Cond.declares y).before a0 Z = true) (hnf : NotFace s y) (ws : (Jvm.Cond.selects C y z).before a0 Z = true) (wi : (Jvm.Cond.instanceMethod z).before a0 Z = true) (w3 : (Jvm.Cond.initialized z.cls).before a0 Z = true) (w4 : (Jvm.Cond.code z bytes maxL ret).before a0 Z = true)
    (hy : y.cls ≠ "java/lang/invoke/MethodHandle" ∧ y.cls ≠ "java/lang/invoke/VarHandle") (hM : own_C l Z z bytes maxL ret [] rm as h (own_Q w h))
    (hf : rm.frames + 1 ≤ R.frames) (hl : W + (maxL + 11) + rm.locals ≤ R.locals) (hrc : rm.cells = 0) (hrs : rm.slots = 0) (hcc : cells + rm.cells ≤ R.cells) (hss : slots + rm.slots ≤ R.slots) (e0 : T.heap = h) (E : Exa Z h a C)
    {pc : Nat} {Ls : Array Slot} {st argsL rest : List Value} (hsize : Ls.size = c.maxLocals) (hlen : ∀ sig, parseMethodDescriptor y.desc = some sig → argsL.length = sig.parameters.length) (has : (Value.ref a :: argsL).toArray = as)
    (hst : st = argsL.reverse ++ .ref a :: rest) (hW : 2 * 0 + (rest.map fun v => v.category).sum ≤ W) (hd : decode c.code pc = .ok (.invokevirtual index, 3)) :
    ∃ (T' : State), Stand p l e R s m args below meth c T' locs cells slots ∧ T'.heap = h ∧
      ∀ target, Steps p.tables e below (T'.setTop (mkF m (pc + 3) Ls (w :: rest))) target → Steps p.tables e below (T.setTop (mkF m pc Ls st)) target := by
  obtain ⟨cq, kq, qa, qb, qc⟩ := isOf hZ e0 E
  obtain ⟨v, _, ⟨T', L', k', n'⟩, -, X', ⟨Lc, ⟨rfl, rfl, hh⟩, h1, h2, h3⟩, stp⟩ := X.virtualBack hx (y := y) (z := z) hown (mvT hZ w1) (mvT hZ w2) hnf (mvT hZ ws) (mvT hZ wi) hy
    (backOf (W := W) hM hZ w4 w3 hf hl) qa qc (g := mkF m pc Ls st) rfl hsize (Steps.refl _) (argsL := argsL) (rest := rest) hlen hst hW hd (fun _ _ => ⟨has, e0, hcc, hss⟩)
  dsimp only [Pt.U, Pt.locs, Pt.cells, Pt.slots] at X' h1 h2 h3 stp hh
  subst h1 h2 h3
  rw [List.append_nil, hrc, hrs] at X'
  exact ⟨T', X', hh, fun t k => stp.trans k⟩
theorem own_ke {h h' : Heap} (K : Keep h h' []) : Ext h h' := ⟨K.1, fun a c q => K.2.1 a c q (by simp)⟩
theorem own_ldA (X : Stand p l e R s m args below meth c T locs cells slots) (hx : p.tables.exec = Jvm.exec) (hZ : Z.Warmed39 s.vm) (eT : T.heap = h) {a : Addr} {k : ClassId} {ty : FieldType} {z : Int32} {vs : List Value} {d v : Value} (V : Arv Z h a k ty z vs d) (hty : ty.isReference = true) {j : Int32} (hj : ¬ j < 0 ∧ j < z) (hv : vs.getD j.toNatClampNeg d = v)
    {pc : Nat} {Ls : Array Slot} {rest : List Value} (hd : decode c.code pc = .ok (.aaload, 1)) (target : State) (hr : Steps p.tables e below (T.setTop (mkF m (pc + 1) Ls (v :: rest))) target) : Steps p.tables e below (T.setTop (mkF m pc Ls (.int j :: .ref a :: rest))) target := by
  obtain ⟨cl, Ar, q, S, Nn, H, G⟩ := V
  have hin := inb_of S hj
  refine X.aaload hx (j := j) (v := v) (by rw [eT]; exact Ar.1) (State.isArrayOf_alike hZ.alike Ar.2.1) hty Ar.2.2 hin ?_ (g := mkF m pc Ls (.int j :: .ref a :: rest)) rfl rfl hd _ hr
  rw [H _ (Nat.lt_of_not_le fun q => hin (Or.inr q)), hv]
end OwnHeap
theorem own_pd0 : parseMethodDescriptor "(I)Lcom/example/clementi/clementi/query/Truth;" = some ⟨[.int], some (.object "com/example/clementi/clementi/query/Truth")⟩ := by decide +kernel
theorem own_pd1 : parseMethodDescriptor "(Lcom/example/clementi/clementi/query/Truth;)Lcom/example/clementi/clementi/query/Truth;" = some ⟨[(.object "com/example/clementi/clementi/query/Truth")], some (.object "com/example/clementi/clementi/query/Truth")⟩ := by decide +kernel
theorem own_pd2 : parseMethodDescriptor "(Lcom/example/clementi/clementi/query/Truth;)I" = some ⟨[(.object "com/example/clementi/clementi/query/Truth")], some .int⟩ := by decide +kernel
theorem own_pd3 : parseMethodDescriptor "(II)I" = some ⟨[.int, .int], some .int⟩ := by decide +kernel
theorem own_eqR {args : Array Value} {s : State} {a b : Term} {y : Addr} (h : (Jvm.Cond.eq a b).value args s none s [] = some true) (hb : b.eval args s none [] s = some (.ref y)) : a.eval args s none [] s = some (.ref y) := by
  cases ha : a.eval args s none [] s with
  | none => simp [Cond.value, ha] at h
  | some v => cases v <;> simp [Cond.value, ha, hb] at h ⊢ <;> exact h
theorem own_eqI {args : Array Value} {s : State} {a : Term} {i : Int32} (h : (Jvm.Cond.eq a (.int i)).value args s none s [] = some true) : a.eval args s none [] s = some (.int i) := by
  cases ha : a.eval args s none [] s with
  | none => simp [Cond.value, ha] at h
  | some v => cases v <;> simp [Cond.value, ha, Term.eval] at h ⊢ <;> exact h
theorem own_fldI {args : Array Value} {s : State} {t : Term} {C n d : String} {i : Int32} {x : Addr} (h : (Jvm.Cond.eq (.field t C n d) (.int i)).value args s none s [] = some true) (e : t.eval args s none [] s = some (.ref x)) : Fld s s.heap x C n d (.int i) := by
  have g := own_eqI h
  rw [fld_at e] at g
  exact Fld.start g
theorem own_d4_0 : decode jdk_29_method_69_code 0 = .ok (.iload_n 0, 1) := by decide +kernel
theorem own_d4_1 : decode jdk_29_method_69_code 1 = .ok (.iload_n 1, 1) := by decide +kernel
theorem own_d4_2 : decode jdk_29_method_69_code 2 = .ok (.if_icmp .gt 7, 3) := by decide +kernel
theorem own_d4_5 : decode jdk_29_method_69_code 5 = .ok (.iload_n 0, 1) := by decide +kernel
theorem own_d4_6 : decode jdk_29_method_69_code 6 = .ok (.goto 4, 3) := by decide +kernel
theorem own_d4_9 : decode jdk_29_method_69_code 9 = .ok (.iload_n 1, 1) := by decide +kernel
theorem own_d4_10 : decode jdk_29_method_69_code 10 = .ok (.ireturn, 1) := by decide +kernel
abbrev own_R4 : Room := { frames := 0, cells := 0, slots := 0, locals := 0 }
theorem own_pn4 : plainFor (⟨"java/lang/Math", "min", "(II)I"⟩ : MethodName) = true := Jvm.Free.JP.mathPlain rfl (by decide +kernel)
theorem own_ef4 (m : MethodId) (p0 : Int32) (p1 : Int32) : entryFrame m #[(.int p0), (.int p1)] 2 = mkF m 0 #[.val (.int p0), .val (.int p1)] [] := by first | (simp [entryFrame, mkF, argsToLocals, Value.category]; done) | rfl
def own_F4 (p0 : Int32) (p1 : Int32) : Int32 := (if p1 < p0 then p1 else p0)
set_option maxRecDepth 65536 in
set_option maxHeartbeats 40000000 in
theorem own_rm4 (l : Launch) (Z : State) (a0 : Array Value) (hw : ∀ d ∈ tables_1, d.before a0 Z = true) (ws : List Jvm.Cond) (p0 : Int32) (p1 : Int32) (h0 : Heap) :
    own_C l Z (⟨"java/lang/Math", "min", "(II)I"⟩ : MethodName) jdk_29_method_69_code 2 (some .int) ws own_R4 #[(.int p0), (.int p1)] h0 (own_Q (.int (own_F4 p0 p1)) h0) := by
  refine MetFree.of_bodySF own_pn4 hisR ?_
  intro p e s m args below meth c s₁ Bd hml0 hP hK
  obtain ⟨rfl, hZ, hh⟩ := hP
  have hx := Bd.exec
  have hby := Bd.bytes
  have hml : c.maxLocals = 2 := hml0
  have hown : s.vm.findClass "java/lang/Math" = some m.cls := findClass_of_methodNamed Bd.named
  have X0 : Stand p l e own_R4 s m #[(.int p0), (.int p1)] below meth c s₁ [] 0 0 := Stand.of_body Bd
  have e0 : s₁.heap = h0 := by rw [← hh, Bd.state]; rfl
  show own_G p e below (own_P s (own_Q (.int (own_F4 p0 p1)) h0) own_R4.cells own_R4.slots) (s₁.setTop (entryFrame m #[(.int p0), (.int p1)] 2))
  rw [own_ef4 m p0 p1]
  show own_G p e below _ (s₁.setTop (mkF m 0 #[.val (.int p0), .val (.int p1)] []))
  refine own_via (fun t k => XS.iloadN X0.here hx rfl (hb hby own_d4_0) rfl k) ?_
  show own_G p e below _ (s₁.setTop (mkF m 1 #[.val (.int p0), .val (.int p1)] [(.int p0)]))
  refine own_via (fun t k => XS.iloadN X0.here hx rfl (hb hby own_d4_1) rfl k) ?_
  show own_G p e below _ (s₁.setTop (mkF m 2 #[.val (.int p0), .val (.int p1)] [(.int p1), (.int p0)]))
  by_cases hc1 : p1 < p0
  ·
    refine own_via (fun t k => XS.icmpYes X0.here hx rfl (pc0 := 2) (pc' := 9) rfl (hb hby own_d4_2) rfl (tlt hc1).2.2.1 (by decide) (by decide) k) ?_
    show own_G p e below _ (s₁.setTop (mkF m 9 #[.val (.int p0), .val (.int p1)] []))
    refine own_via (fun t k => XS.iloadN X0.here hx rfl (hb hby own_d4_9) rfl k) ?_
    show own_G p e below _ (s₁.setTop (mkF m 10 #[.val (.int p0), .val (.int p1)] [(.int p1)]))
    exact own_retI X0 hx Bd.returns Bd.notSynchronized (hb hby own_d4_10) ⟨by show (some (.int p1) : Option Value) = some (.int (own_F4 p0 p1)); simp only [own_F4, if_pos hc1], rfl, e0⟩ (by decide) (by decide)
  ·
    refine own_via (fun t k => XS.icmpNo X0.here hx rfl (hb hby own_d4_2) rfl (flt hc1).2.2.1 k) ?_
    show own_G p e below _ (s₁.setTop (mkF m 5 #[.val (.int p0), .val (.int p1)] []))
    refine own_via (fun t k => XS.iloadN X0.here hx rfl (hb hby own_d4_5) rfl k) ?_
    show own_G p e below _ (s₁.setTop (mkF m 6 #[.val (.int p0), .val (.int p1)] [(.int p0)]))
    refine own_via (fun t k => XS.goto X0.here hx rfl (pc0 := 6) (pc' := 10) rfl (hb hby own_d4_6) (by decide) (by decide) k) ?_
    show own_G p e below _ (s₁.setTop (mkF m 10 #[.val (.int p0), .val (.int p1)] [(.int p0)]))
    exact own_retI X0 hx Bd.returns Bd.notSynchronized (hb hby own_d4_10) ⟨by show (some (.int p0) : Option Value) = some (.int (own_F4 p0 p1)); simp only [own_F4, if_neg hc1], rfl, e0⟩ (by decide) (by decide)
theorem own_d1_0 : decode method_2_code 0 = .ok (.iload_n 0, 1) := by decide +kernel
theorem own_d1_1 : decode method_2_code 1 = .ok (.ldc 7, 2) := by decide +kernel
theorem own_d1_3 : decode method_2_code 3 = .ok (.iand, 1) := by decide +kernel
theorem own_d1_4 : decode method_2_code 4 = .ok (.iconst 3, 1) := by decide +kernel
theorem own_d1_5 : decode method_2_code 5 = .ok (.irem, 1) := by decide +kernel
theorem own_d1_6 : decode method_2_code 6 = .ok (.istore_n 1, 1) := by decide +kernel
theorem own_d1_7 : decode method_2_code 7 = .ok (.iload_n 1, 1) := by decide +kernel
theorem own_d1_8 : decode method_2_code 8 = .ok (.ifCond .ne 7, 3) := by decide +kernel
theorem own_d1_11 : decode method_2_code 11 = .ok (.getstatic 8, 3) := by decide +kernel
theorem own_d1_14 : decode method_2_code 14 = .ok (.areturn, 1) := by decide +kernel
abbrev own_pickF_R : Room := { frames := 0, cells := 0, slots := 0, locals := 0 }
theorem own_pn1 : plainFor (⟨"com/example/clementi/clementi/query/TruthAndPinLaw", "pick", "(I)Lcom/example/clementi/clementi/query/Truth;"⟩ : MethodName) = true := plainFor_of_name (by first | (simp [plainName, overriddenIn]; done) | decide +kernel)
theorem own_pickF_ef (m : MethodId) (p1 : Int32) : entryFrame m #[(.int p1)] 2 = mkF m 0 #[.val (.int p1), .unset] [] := by first | (simp [entryFrame, mkF, argsToLocals, Value.category]; done) | rfl
set_option maxRecDepth 65536 in
set_option maxHeartbeats 40000000 in
theorem own_pickF (l : Launch) (Z : State) (a0 : Array Value) (hw : ∀ d ∈ tables_1, d.before a0 Z = true) (ws : List Jvm.Cond) (p1 : Int32) (wF : Addr) (wU : Addr) (wT : Addr) (h0 : Heap)  (i_S1 : Sta Z h0 "com/example/clementi/clementi/query/Truth" "FALSE" "Lcom/example/clementi/clementi/query/Truth;" (.ref wF)) (i_S2 : Sta Z h0 "com/example/clementi/clementi/query/Truth" "UNKNOWN" "Lcom/example/clementi/clementi/query/Truth;" (.ref wU)) (i_S3 : Sta Z h0 "com/example/clementi/clementi/query/Truth" "TRUE" "Lcom/example/clementi/clementi/query/Truth;" (.ref wT)) (hp_h0 : ((p1 &&& (2147483647 : Int32)) - ((p1 &&& (2147483647 : Int32)) / (3 : Int32)) * (3 : Int32)) = (0 : Int32)) :
    own_C l Z (⟨"com/example/clementi/clementi/query/TruthAndPinLaw", "pick", "(I)Lcom/example/clementi/clementi/query/Truth;"⟩ : MethodName) method_2_code 2 (some (.object "com/example/clementi/clementi/query/Truth")) ws own_pickF_R #[(.int p1)] h0 (own_Q (.ref wF) h0) := by
  refine MetFree.of_bodySF own_pn1 hisR ?_
  intro p e s m args below meth c s₁ Bd hml0 hP hK
  obtain ⟨rfl, hZ, hh⟩ := hP
  have hx := Bd.exec
  have hby := Bd.bytes
  have hml : c.maxLocals = 2 := hml0
  have hown : s.vm.findClass "com/example/clementi/clementi/query/TruthAndPinLaw" = some m.cls := findClass_of_methodNamed Bd.named
  have hnm := (name_of_methodNamed Bd.named Bd.method).1
  have X0 : Stand p l e own_pickF_R s m #[(.int p1)] below meth c s₁ [] 0 0 := Stand.of_body Bd
  have e0 : s₁.heap = h0 := by rw [← hh, Bd.state]; rfl
  show own_G p e below (own_P s (own_Q (.ref wF) h0) own_pickF_R.cells own_pickF_R.slots) (s₁.setTop (entryFrame m #[(.int p1)] 2))
  rw [own_pickF_ef m p1]
  show own_G p e below _ (s₁.setTop (mkF m 0 #[.val (.int p1), .unset] []))
  refine own_via (fun t k => XS.iloadN X0.here hx rfl (hb hby own_d1_0) rfl k) ?_
  show own_G p e below _ (s₁.setTop (mkF m 1 #[.val (.int p1), .unset] [(.int p1)]))
  refine own_via (X0.ldcInt hx hown (mvT hZ (hw _ (List.mem_of_getElem? (i := 4) rfl))) (g := (mkF m 1 #[.val (.int p1), .unset] [(.int p1)])) rfl (hb hby own_d1_1)) ?_
  show own_G p e below _ (s₁.setTop (mkF m 3 #[.val (.int p1), .unset] [(.int (2147483647 : Int32)), (.int p1)]))
  refine own_via (fun t k => XS.iand X0.here hx rfl (hb hby own_d1_3) rfl k) ?_
  show own_G p e below _ (s₁.setTop (mkF m 4 #[.val (.int p1), .unset] [(.int (p1 &&& (2147483647 : Int32)))]))
  refine own_via (fun t k => XS.iconst X0.here hx rfl (hb hby own_d1_4) k) ?_
  show own_G p e below _ (s₁.setTop (mkF m 5 #[.val (.int p1), .unset] [(.int (3 : Int32)), (.int (p1 &&& (2147483647 : Int32)))]))
  refine own_via (fun t k => XS.irem X0.here hx rfl (hb hby own_d1_5) rfl (by decide) k) ?_
  show own_G p e below _ (s₁.setTop (mkF m 6 #[.val (.int p1), .unset] [(.int ((p1 &&& (2147483647 : Int32)) - ((p1 &&& (2147483647 : Int32)) / (3 : Int32)) * (3 : Int32)))]))
  refine own_via (fun t k => XS.istoreN X0.here hx rfl (hb hby own_d1_6) rfl (l' := #[.val (.int p1), .val (.int ((p1 &&& (2147483647 : Int32)) - ((p1 &&& (2147483647 : Int32)) / (3 : Int32)) * (3 : Int32)))]) rfl k) ?_
  show own_G p e below _ (s₁.setTop (mkF m 7 #[.val (.int p1), .val (.int ((p1 &&& (2147483647 : Int32)) - ((p1 &&& (2147483647 : Int32)) / (3 : Int32)) * (3 : Int32)))] []))
  refine own_via (fun t k => XS.iloadN X0.here hx rfl (hb hby own_d1_7) rfl k) ?_
  show own_G p e below _ (s₁.setTop (mkF m 8 #[.val (.int p1), .val (.int ((p1 &&& (2147483647 : Int32)) - ((p1 &&& (2147483647 : Int32)) / (3 : Int32)) * (3 : Int32)))] [(.int ((p1 &&& (2147483647 : Int32)) - ((p1 &&& (2147483647 : Int32)) / (3 : Int32)) * (3 : Int32)))]))
  refine own_via (fun t k => XS.ifNo X0.here hx rfl (hb hby own_d1_8) rfl ((if0 _ _).trans (teq hp_h0).2) k) ?_
  show own_G p e below _ (s₁.setTop (mkF m 11 #[.val (.int p1), .val (.int ((p1 &&& (2147483647 : Int32)) - ((p1 &&& (2147483647 : Int32)) / (3 : Int32)) * (3 : Int32)))] []))
  obtain ⟨T1, X1, e1, st1⟩ := getS2 X0 hx hZ hown (host := "") (Or.inl (hw _ (List.mem_of_getElem? (i := 5) rfl))) Via.refl e0 i_S1 (g := (mkF m 11 #[.val (.int p1), .val (.int ((p1 &&& (2147483647 : Int32)) - ((p1 &&& (2147483647 : Int32)) / (3 : Int32)) * (3 : Int32)))] [])) rfl (hb hby own_d1_11)
  refine own_via st1 ?_
  show own_G p e below _ (T1.setTop (mkF m 14 #[.val (.int p1), .val (.int ((p1 &&& (2147483647 : Int32)) - ((p1 &&& (2147483647 : Int32)) / (3 : Int32)) * (3 : Int32)))] [(.ref wF)]))
  exact own_retA X1 hx Bd.returns rfl rfl Bd.notSynchronized (hb hby own_d1_14) ⟨rfl, rfl, e1⟩ (by decide) (by decide)
theorem own_d1_15 : decode method_2_code 15 = .ok (.iload_n 1, 1) := by decide +kernel
theorem own_d1_16 : decode method_2_code 16 = .ok (.iconst 1, 1) := by decide +kernel
theorem own_d1_17 : decode method_2_code 17 = .ok (.if_icmp .ne 7, 3) := by decide +kernel
theorem own_d1_20 : decode method_2_code 20 = .ok (.getstatic 14, 3) := by decide +kernel
theorem own_d1_23 : decode method_2_code 23 = .ok (.areturn, 1) := by decide +kernel
abbrev own_pickU_R : Room := { frames := 0, cells := 0, slots := 0, locals := 0 }
theorem own_pickU_ef (m : MethodId) (p1 : Int32) : entryFrame m #[(.int p1)] 2 = mkF m 0 #[.val (.int p1), .unset] [] := by first | (simp [entryFrame, mkF, argsToLocals, Value.category]; done) | rfl
set_option maxRecDepth 65536 in
set_option maxHeartbeats 40000000 in
theorem own_pickU (l : Launch) (Z : State) (a0 : Array Value) (hw : ∀ d ∈ tables_1, d.before a0 Z = true) (ws : List Jvm.Cond) (p1 : Int32) (wF : Addr) (wU : Addr) (wT : Addr) (h0 : Heap)  (i_S1 : Sta Z h0 "com/example/clementi/clementi/query/Truth" "FALSE" "Lcom/example/clementi/clementi/query/Truth;" (.ref wF)) (i_S2 : Sta Z h0 "com/example/clementi/clementi/query/Truth" "UNKNOWN" "Lcom/example/clementi/clementi/query/Truth;" (.ref wU)) (i_S3 : Sta Z h0 "com/example/clementi/clementi/query/Truth" "TRUE" "Lcom/example/clementi/clementi/query/Truth;" (.ref wT)) (hp_h0 : ¬ (((p1 &&& (2147483647 : Int32)) - ((p1 &&& (2147483647 : Int32)) / (3 : Int32)) * (3 : Int32)) = (0 : Int32))) (hp_h1 : ((p1 &&& (2147483647 : Int32)) - ((p1 &&& (2147483647 : Int32)) / (3 : Int32)) * (3 : Int32)) = (1 : Int32)) :
    own_C l Z (⟨"com/example/clementi/clementi/query/TruthAndPinLaw", "pick", "(I)Lcom/example/clementi/clementi/query/Truth;"⟩ : MethodName) method_2_code 2 (some (.object "com/example/clementi/clementi/query/Truth")) ws own_pickU_R #[(.int p1)] h0 (own_Q (.ref wU) h0) := by
  refine MetFree.of_bodySF own_pn1 hisR ?_
  intro p e s m args below meth c s₁ Bd hml0 hP hK
  obtain ⟨rfl, hZ, hh⟩ := hP
  have hx := Bd.exec
  have hby := Bd.bytes
  have hml : c.maxLocals = 2 := hml0
  have hown : s.vm.findClass "com/example/clementi/clementi/query/TruthAndPinLaw" = some m.cls := findClass_of_methodNamed Bd.named
  have hnm := (name_of_methodNamed Bd.named Bd.method).1
  have X0 : Stand p l e own_pickU_R s m #[(.int p1)] below meth c s₁ [] 0 0 := Stand.of_body Bd
  have e0 : s₁.heap = h0 := by rw [← hh, Bd.state]; rfl
  show own_G p e below (own_P s (own_Q (.ref wU) h0) own_pickU_R.cells own_pickU_R.slots) (s₁.setTop (entryFrame m #[(.int p1)] 2))
  rw [own_pickU_ef m p1]
  show own_G p e below _ (s₁.setTop (mkF m 0 #[.val (.int p1), .unset] []))
  refine own_via (fun t k => XS.iloadN X0.here hx rfl (hb hby own_d1_0) rfl k) ?_
  show own_G p e below _ (s₁.setTop (mkF m 1 #[.val (.int p1), .unset] [(.int p1)]))
  refine own_via (X0.ldcInt hx hown (mvT hZ (hw _ (List.mem_of_getElem? (i := 4) rfl))) (g := (mkF m 1 #[.val (.int p1), .unset] [(.int p1)])) rfl (hb hby own_d1_1)) ?_
  show own_G p e below _ (s₁.setTop (mkF m 3 #[.val (.int p1), .unset] [(.int (2147483647 : Int32)), (.int p1)]))
  refine own_via (fun t k => XS.iand X0.here hx rfl (hb hby own_d1_3) rfl k) ?_
  show own_G p e below _ (s₁.setTop (mkF m 4 #[.val (.int p1), .unset] [(.int (p1 &&& (2147483647 : Int32)))]))
  refine own_via (fun t k => XS.iconst X0.here hx rfl (hb hby own_d1_4) k) ?_
  show own_G p e below _ (s₁.setTop (mkF m 5 #[.val (.int p1), .unset] [(.int (3 : Int32)), (.int (p1 &&& (2147483647 : Int32)))]))
  refine own_via (fun t k => XS.irem X0.here hx rfl (hb hby own_d1_5) rfl (by decide) k) ?_
  show own_G p e below _ (s₁.setTop (mkF m 6 #[.val (.int p1), .unset] [(.int ((p1 &&& (2147483647 : Int32)) - ((p1 &&& (2147483647 : Int32)) / (3 : Int32)) * (3 : Int32)))]))
  refine own_via (fun t k => XS.istoreN X0.here hx rfl (hb hby own_d1_6) rfl (l' := #[.val (.int p1), .val (.int ((p1 &&& (2147483647 : Int32)) - ((p1 &&& (2147483647 : Int32)) / (3 : Int32)) * (3 : Int32)))]) rfl k) ?_
  show own_G p e below _ (s₁.setTop (mkF m 7 #[.val (.int p1), .val (.int ((p1 &&& (2147483647 : Int32)) - ((p1 &&& (2147483647 : Int32)) / (3 : Int32)) * (3 : Int32)))] []))
  refine own_via (fun t k => XS.iloadN X0.here hx rfl (hb hby own_d1_7) rfl k) ?_
  show own_G p e below _ (s₁.setTop (mkF m 8 #[.val (.int p1), .val (.int ((p1 &&& (2147483647 : Int32)) - ((p1 &&& (2147483647 : Int32)) / (3 : Int32)) * (3 : Int32)))] [(.int ((p1 &&& (2147483647 : Int32)) - ((p1 &&& (2147483647 : Int32)) / (3 : Int32)) * (3 : Int32)))]))
  refine own_via (fun t k => XS.ifYes X0.here hx rfl (pc0 := 8) (pc' := 15) rfl (hb hby own_d1_8) rfl ((if0 _ _).trans (feq hp_h0).2) (by decide) (by decide) k) ?_
  show own_G p e below _ (s₁.setTop (mkF m 15 #[.val (.int p1), .val (.int ((p1 &&& (2147483647 : Int32)) - ((p1 &&& (2147483647 : Int32)) / (3 : Int32)) * (3 : Int32)))] []))
  refine own_via (fun t k => XS.iloadN X0.here hx rfl (hb hby own_d1_15) rfl k) ?_
  show own_G p e below _ (s₁.setTop (mkF m 16 #[.val (.int p1), .val (.int ((p1 &&& (2147483647 : Int32)) - ((p1 &&& (2147483647 : Int32)) / (3 : Int32)) * (3 : Int32)))] [(.int ((p1 &&& (2147483647 : Int32)) - ((p1 &&& (2147483647 : Int32)) / (3 : Int32)) * (3 : Int32)))]))
  refine own_via (fun t k => XS.iconst X0.here hx rfl (hb hby own_d1_16) k) ?_
  show own_G p e below _ (s₁.setTop (mkF m 17 #[.val (.int p1), .val (.int ((p1 &&& (2147483647 : Int32)) - ((p1 &&& (2147483647 : Int32)) / (3 : Int32)) * (3 : Int32)))] [(.int (1 : Int32)), (.int ((p1 &&& (2147483647 : Int32)) - ((p1 &&& (2147483647 : Int32)) / (3 : Int32)) * (3 : Int32)))]))
  refine own_via (fun t k => XS.icmpNo X0.here hx rfl (hb hby own_d1_17) rfl (teq hp_h1).2 k) ?_
  show own_G p e below _ (s₁.setTop (mkF m 20 #[.val (.int p1), .val (.int ((p1 &&& (2147483647 : Int32)) - ((p1 &&& (2147483647 : Int32)) / (3 : Int32)) * (3 : Int32)))] []))
  obtain ⟨T1, X1, e1, st1⟩ := getS2 X0 hx hZ hown (host := "") (Or.inl (hw _ (List.mem_of_getElem? (i := 23) rfl))) Via.refl e0 i_S2 (g := (mkF m 20 #[.val (.int p1), .val (.int ((p1 &&& (2147483647 : Int32)) - ((p1 &&& (2147483647 : Int32)) / (3 : Int32)) * (3 : Int32)))] [])) rfl (hb hby own_d1_20)
  refine own_via st1 ?_
  show own_G p e below _ (T1.setTop (mkF m 23 #[.val (.int p1), .val (.int ((p1 &&& (2147483647 : Int32)) - ((p1 &&& (2147483647 : Int32)) / (3 : Int32)) * (3 : Int32)))] [(.ref wU)]))
  exact own_retA X1 hx Bd.returns rfl rfl Bd.notSynchronized (hb hby own_d1_23) ⟨rfl, rfl, e1⟩ (by decide) (by decide)
theorem own_d1_24 : decode method_2_code 24 = .ok (.getstatic 17, 3) := by decide +kernel
theorem own_d1_27 : decode method_2_code 27 = .ok (.areturn, 1) := by decide +kernel
abbrev own_pickT_R : Room := { frames := 0, cells := 0, slots := 0, locals := 0 }
theorem own_pickT_ef (m : MethodId) (p1 : Int32) : entryFrame m #[(.int p1)] 2 = mkF m 0 #[.val (.int p1), .unset] [] := by first | (simp [entryFrame, mkF, argsToLocals, Value.category]; done) | rfl
set_option maxRecDepth 65536 in
set_option maxHeartbeats 40000000 in
theorem own_pickT (l : Launch) (Z : State) (a0 : Array Value) (hw : ∀ d ∈ tables_1, d.before a0 Z = true) (ws : List Jvm.Cond) (p1 : Int32) (wF : Addr) (wU : Addr) (wT : Addr) (h0 : Heap)  (i_S1 : Sta Z h0 "com/example/clementi/clementi/query/Truth" "FALSE" "Lcom/example/clementi/clementi/query/Truth;" (.ref wF)) (i_S2 : Sta Z h0 "com/example/clementi/clementi/query/Truth" "UNKNOWN" "Lcom/example/clementi/clementi/query/Truth;" (.ref wU)) (i_S3 : Sta Z h0 "com/example/clementi/clementi/query/Truth" "TRUE" "Lcom/example/clementi/clementi/query/Truth;" (.ref wT)) (hp_h0 : ¬ (((p1 &&& (2147483647 : Int32)) - ((p1 &&& (2147483647 : Int32)) / (3 : Int32)) * (3 : Int32)) = (0 : Int32))) (hp_h1 : ¬ (((p1 &&& (2147483647 : Int32)) - ((p1 &&& (2147483647 : Int32)) / (3 : Int32)) * (3 : Int32)) = (1 : Int32))) :
    own_C l Z (⟨"com/example/clementi/clementi/query/TruthAndPinLaw", "pick", "(I)Lcom/example/clementi/clementi/query/Truth;"⟩ : MethodName) method_2_code 2 (some (.object "com/example/clementi/clementi/query/Truth")) ws own_pickT_R #[(.int p1)] h0 (own_Q (.ref wT) h0) := by
  refine MetFree.of_bodySF own_pn1 hisR ?_
  intro p e s m args below meth c s₁ Bd hml0 hP hK
  obtain ⟨rfl, hZ, hh⟩ := hP
  have hx := Bd.exec
  have hby := Bd.bytes
  have hml : c.maxLocals = 2 := hml0
  have hown : s.vm.findClass "com/example/clementi/clementi/query/TruthAndPinLaw" = some m.cls := findClass_of_methodNamed Bd.named
  have hnm := (name_of_methodNamed Bd.named Bd.method).1
  have X0 : Stand p l e own_pickT_R s m #[(.int p1)] below meth c s₁ [] 0 0 := Stand.of_body Bd
  have e0 : s₁.heap = h0 := by rw [← hh, Bd.state]; rfl
  show own_G p e below (own_P s (own_Q (.ref wT) h0) own_pickT_R.cells own_pickT_R.slots) (s₁.setTop (entryFrame m #[(.int p1)] 2))
  rw [own_pickT_ef m p1]
  show own_G p e below _ (s₁.setTop (mkF m 0 #[.val (.int p1), .unset] []))
  refine own_via (fun t k => XS.iloadN X0.here hx rfl (hb hby own_d1_0) rfl k) ?_
  show own_G p e below _ (s₁.setTop (mkF m 1 #[.val (.int p1), .unset] [(.int p1)]))
  refine own_via (X0.ldcInt hx hown (mvT hZ (hw _ (List.mem_of_getElem? (i := 4) rfl))) (g := (mkF m 1 #[.val (.int p1), .unset] [(.int p1)])) rfl (hb hby own_d1_1)) ?_
  show own_G p e below _ (s₁.setTop (mkF m 3 #[.val (.int p1), .unset] [(.int (2147483647 : Int32)), (.int p1)]))
  refine own_via (fun t k => XS.iand X0.here hx rfl (hb hby own_d1_3) rfl k) ?_
  show own_G p e below _ (s₁.setTop (mkF m 4 #[.val (.int p1), .unset] [(.int (p1 &&& (2147483647 : Int32)))]))
  refine own_via (fun t k => XS.iconst X0.here hx rfl (hb hby own_d1_4) k) ?_
  show own_G p e below _ (s₁.setTop (mkF m 5 #[.val (.int p1), .unset] [(.int (3 : Int32)), (.int (p1 &&& (2147483647 : Int32)))]))
  refine own_via (fun t k => XS.irem X0.here hx rfl (hb hby own_d1_5) rfl (by decide) k) ?_
  show own_G p e below _ (s₁.setTop (mkF m 6 #[.val (.int p1), .unset] [(.int ((p1 &&& (2147483647 : Int32)) - ((p1 &&& (2147483647 : Int32)) / (3 : Int32)) * (3 : Int32)))]))
  refine own_via (fun t k => XS.istoreN X0.here hx rfl (hb hby own_d1_6) rfl (l' := #[.val (.int p1), .val (.int ((p1 &&& (2147483647 : Int32)) - ((p1 &&& (2147483647 : Int32)) / (3 : Int32)) * (3 : Int32)))]) rfl k) ?_
  show own_G p e below _ (s₁.setTop (mkF m 7 #[.val (.int p1), .val (.int ((p1 &&& (2147483647 : Int32)) - ((p1 &&& (2147483647 : Int32)) / (3 : Int32)) * (3 : Int32)))] []))
  refine own_via (fun t k => XS.iloadN X0.here hx rfl (hb hby own_d1_7) rfl k) ?_
  show own_G p e below _ (s₁.setTop (mkF m 8 #[.val (.int p1), .val (.int ((p1 &&& (2147483647 : Int32)) - ((p1 &&& (2147483647 : Int32)) / (3 : Int32)) * (3 : Int32)))] [(.int ((p1 &&& (2147483647 : Int32)) - ((p1 &&& (2147483647 : Int32)) / (3 : Int32)) * (3 : Int32)))]))
  refine own_via (fun t k => XS.ifYes X0.here hx rfl (pc0 := 8) (pc' := 15) rfl (hb hby own_d1_8) rfl ((if0 _ _).trans (feq hp_h0).2) (by decide) (by decide) k) ?_
  show own_G p e below _ (s₁.setTop (mkF m 15 #[.val (.int p1), .val (.int ((p1 &&& (2147483647 : Int32)) - ((p1 &&& (2147483647 : Int32)) / (3 : Int32)) * (3 : Int32)))] []))
  refine own_via (fun t k => XS.iloadN X0.here hx rfl (hb hby own_d1_15) rfl k) ?_
  show own_G p e below _ (s₁.setTop (mkF m 16 #[.val (.int p1), .val (.int ((p1 &&& (2147483647 : Int32)) - ((p1 &&& (2147483647 : Int32)) / (3 : Int32)) * (3 : Int32)))] [(.int ((p1 &&& (2147483647 : Int32)) - ((p1 &&& (2147483647 : Int32)) / (3 : Int32)) * (3 : Int32)))]))
  refine own_via (fun t k => XS.iconst X0.here hx rfl (hb hby own_d1_16) k) ?_
  show own_G p e below _ (s₁.setTop (mkF m 17 #[.val (.int p1), .val (.int ((p1 &&& (2147483647 : Int32)) - ((p1 &&& (2147483647 : Int32)) / (3 : Int32)) * (3 : Int32)))] [(.int (1 : Int32)), (.int ((p1 &&& (2147483647 : Int32)) - ((p1 &&& (2147483647 : Int32)) / (3 : Int32)) * (3 : Int32)))]))
  refine own_via (fun t k => XS.icmpYes X0.here hx rfl (pc0 := 17) (pc' := 24) rfl (hb hby own_d1_17) rfl (feq hp_h1).2 (by decide) (by decide) k) ?_
  show own_G p e below _ (s₁.setTop (mkF m 24 #[.val (.int p1), .val (.int ((p1 &&& (2147483647 : Int32)) - ((p1 &&& (2147483647 : Int32)) / (3 : Int32)) * (3 : Int32)))] []))
  obtain ⟨T1, X1, e1, st1⟩ := getS2 X0 hx hZ hown (host := "") (Or.inl (hw _ (List.mem_of_getElem? (i := 21) rfl))) Via.refl e0 i_S3 (g := (mkF m 24 #[.val (.int p1), .val (.int ((p1 &&& (2147483647 : Int32)) - ((p1 &&& (2147483647 : Int32)) / (3 : Int32)) * (3 : Int32)))] [])) rfl (hb hby own_d1_24)
  refine own_via st1 ?_
  show own_G p e below _ (T1.setTop (mkF m 27 #[.val (.int p1), .val (.int ((p1 &&& (2147483647 : Int32)) - ((p1 &&& (2147483647 : Int32)) / (3 : Int32)) * (3 : Int32)))] [(.ref wT)]))
  exact own_retA X1 hx Bd.returns rfl rfl Bd.notSynchronized (hb hby own_d1_27) ⟨rfl, rfl, e1⟩ (by decide) (by decide)
theorem own_d3_0 : decode method_3_code 0 = .ok (.aload_n 0, 1) := by decide +kernel
theorem own_d3_1 : decode method_3_code 1 = .ok (.getstatic 8, 3) := by decide +kernel
theorem own_d3_4 : decode method_3_code 4 = .ok (.if_acmp .ne 5, 3) := by decide +kernel
theorem own_d3_7 : decode method_3_code 7 = .ok (.iconst 0, 1) := by decide +kernel
theorem own_d3_8 : decode method_3_code 8 = .ok (.ireturn, 1) := by decide +kernel
abbrev own_rankF_R : Room := { frames := 0, cells := 0, slots := 0, locals := 0 }
theorem own_pn3 : plainFor (⟨"com/example/clementi/clementi/query/TruthAndPinLaw", "rank", "(Lcom/example/clementi/clementi/query/Truth;)I"⟩ : MethodName) = true := plainFor_of_name (by first | (simp [plainName, overriddenIn]; done) | decide +kernel)
theorem own_rankF_ef (m : MethodId) (wF : Addr) : entryFrame m #[(.ref wF)] 1 = mkF m 0 #[.val (.ref wF)] [] := by first | (simp [entryFrame, mkF, argsToLocals, Value.category]; done) | rfl
set_option maxRecDepth 65536 in
set_option maxHeartbeats 40000000 in
theorem own_rankF (l : Launch) (Z : State) (a0 : Array Value) (hw : ∀ d ∈ tables_1, d.before a0 Z = true) (ws : List Jvm.Cond) (wF : Addr) (wU : Addr) (wT : Addr) (h0 : Heap)  (i_S1 : Sta Z h0 "com/example/clementi/clementi/query/Truth" "FALSE" "Lcom/example/clementi/clementi/query/Truth;" (.ref wF)) (i_S2 : Sta Z h0 "com/example/clementi/clementi/query/Truth" "UNKNOWN" "Lcom/example/clementi/clementi/query/Truth;" (.ref wU)) (i_S3 : Sta Z h0 "com/example/clementi/clementi/query/Truth" "TRUE" "Lcom/example/clementi/clementi/query/Truth;" (.ref wT)) (ne_wF_wU : wF ≠ wU) (ne_wF_wT : wF ≠ wT) (ne_wU_wT : wU ≠ wT) :
    own_C l Z (⟨"com/example/clementi/clementi/query/TruthAndPinLaw", "rank", "(Lcom/example/clementi/clementi/query/Truth;)I"⟩ : MethodName) method_3_code 1 (some .int) ws own_rankF_R #[(.ref wF)] h0 (own_Q (.int (0 : Int32)) h0) := by
  refine MetFree.of_bodySF own_pn3 hisR ?_
  intro p e s m args below meth c s₁ Bd hml0 hP hK
  obtain ⟨rfl, hZ, hh⟩ := hP
  have hx := Bd.exec
  have hby := Bd.bytes
  have hml : c.maxLocals = 1 := hml0
  have hown : s.vm.findClass "com/example/clementi/clementi/query/TruthAndPinLaw" = some m.cls := findClass_of_methodNamed Bd.named
  have hnm := (name_of_methodNamed Bd.named Bd.method).1
  have X0 : Stand p l e own_rankF_R s m #[(.ref wF)] below meth c s₁ [] 0 0 := Stand.of_body Bd
  have e0 : s₁.heap = h0 := by rw [← hh, Bd.state]; rfl
  show own_G p e below (own_P s (own_Q (.int (0 : Int32)) h0) own_rankF_R.cells own_rankF_R.slots) (s₁.setTop (entryFrame m #[(.ref wF)] 1))
  rw [own_rankF_ef m wF]
  show own_G p e below _ (s₁.setTop (mkF m 0 #[.val (.ref wF)] []))
  refine own_via (fun t k => XS.aloadN X0.here hx rfl (hb hby own_d3_0) rfl rfl k) ?_
  show own_G p e below _ (s₁.setTop (mkF m 1 #[.val (.ref wF)] [(.ref wF)]))
  obtain ⟨T1, X1, e1, st1⟩ := getS2 X0 hx hZ hown (host := "") (Or.inl (hw _ (List.mem_of_getElem? (i := 5) rfl))) Via.refl e0 i_S1 (g := (mkF m 1 #[.val (.ref wF)] [(.ref wF)])) rfl (hb hby own_d3_1)
  refine own_via st1 ?_
  show own_G p e below _ (T1.setTop (mkF m 4 #[.val (.ref wF)] [(.ref wF), (.ref wF)]))
  refine own_via (fun t k => Jvm.RoadKit.acmp (g := (mkF m 4 #[.val (.ref wF)] [(.ref wF), (.ref wF)])) X1 hx rfl rfl rfl (pc0 := 4) (pc' := 7) (same := true) rfl (hb hby own_d3_4) rfl (decide_eq_true rfl) (by decide) (by decide) k) ?_
  show own_G p e below _ (T1.setTop (mkF m 7 #[.val (.ref wF)] []))
  refine own_via (fun t k => XS.iconst X1.here hx rfl (hb hby own_d3_7) k) ?_
  show own_G p e below _ (T1.setTop (mkF m 8 #[.val (.ref wF)] [(.int (0 : Int32))]))
  exact own_retI X1 hx Bd.returns Bd.notSynchronized (hb hby own_d3_8) ⟨rfl, rfl, e1⟩ (by decide) (by decide)
theorem own_d3_9 : decode method_3_code 9 = .ok (.aload_n 0, 1) := by decide +kernel
theorem own_d3_10 : decode method_3_code 10 = .ok (.getstatic 14, 3) := by decide +kernel
theorem own_d3_13 : decode method_3_code 13 = .ok (.if_acmp .ne 5, 3) := by decide +kernel
theorem own_d3_16 : decode method_3_code 16 = .ok (.iconst 1, 1) := by decide +kernel
theorem own_d3_17 : decode method_3_code 17 = .ok (.ireturn, 1) := by decide +kernel
abbrev own_rankU_R : Room := { frames := 0, cells := 0, slots := 0, locals := 0 }
theorem own_rankU_ef (m : MethodId) (wU : Addr) : entryFrame m #[(.ref wU)] 1 = mkF m 0 #[.val (.ref wU)] [] := by first | (simp [entryFrame, mkF, argsToLocals, Value.category]; done) | rfl
set_option maxRecDepth 65536 in
set_option maxHeartbeats 40000000 in
theorem own_rankU (l : Launch) (Z : State) (a0 : Array Value) (hw : ∀ d ∈ tables_1, d.before a0 Z = true) (ws : List Jvm.Cond) (wU : Addr) (wF : Addr) (wT : Addr) (h0 : Heap)  (i_S1 : Sta Z h0 "com/example/clementi/clementi/query/Truth" "FALSE" "Lcom/example/clementi/clementi/query/Truth;" (.ref wF)) (i_S2 : Sta Z h0 "com/example/clementi/clementi/query/Truth" "UNKNOWN" "Lcom/example/clementi/clementi/query/Truth;" (.ref wU)) (i_S3 : Sta Z h0 "com/example/clementi/clementi/query/Truth" "TRUE" "Lcom/example/clementi/clementi/query/Truth;" (.ref wT)) (ne_wF_wU : wF ≠ wU) (ne_wF_wT : wF ≠ wT) (ne_wU_wT : wU ≠ wT) :
    own_C l Z (⟨"com/example/clementi/clementi/query/TruthAndPinLaw", "rank", "(Lcom/example/clementi/clementi/query/Truth;)I"⟩ : MethodName) method_3_code 1 (some .int) ws own_rankU_R #[(.ref wU)] h0 (own_Q (.int (1 : Int32)) h0) := by
  refine MetFree.of_bodySF own_pn3 hisR ?_
  intro p e s m args below meth c s₁ Bd hml0 hP hK
  obtain ⟨rfl, hZ, hh⟩ := hP
  have hx := Bd.exec
  have hby := Bd.bytes
  have hml : c.maxLocals = 1 := hml0
  have hown : s.vm.findClass "com/example/clementi/clementi/query/TruthAndPinLaw" = some m.cls := findClass_of_methodNamed Bd.named
  have hnm := (name_of_methodNamed Bd.named Bd.method).1
  have X0 : Stand p l e own_rankU_R s m #[(.ref wU)] below meth c s₁ [] 0 0 := Stand.of_body Bd
  have e0 : s₁.heap = h0 := by rw [← hh, Bd.state]; rfl
  show own_G p e below (own_P s (own_Q (.int (1 : Int32)) h0) own_rankU_R.cells own_rankU_R.slots) (s₁.setTop (entryFrame m #[(.ref wU)] 1))
  rw [own_rankU_ef m wU]
  show own_G p e below _ (s₁.setTop (mkF m 0 #[.val (.ref wU)] []))
  refine own_via (fun t k => XS.aloadN X0.here hx rfl (hb hby own_d3_0) rfl rfl k) ?_
  show own_G p e below _ (s₁.setTop (mkF m 1 #[.val (.ref wU)] [(.ref wU)]))
  obtain ⟨T1, X1, e1, st1⟩ := getS2 X0 hx hZ hown (host := "") (Or.inl (hw _ (List.mem_of_getElem? (i := 5) rfl))) Via.refl e0 i_S1 (g := (mkF m 1 #[.val (.ref wU)] [(.ref wU)])) rfl (hb hby own_d3_1)
  refine own_via st1 ?_
  show own_G p e below _ (T1.setTop (mkF m 4 #[.val (.ref wU)] [(.ref wF), (.ref wU)]))
  refine own_via (fun t k => Jvm.RoadKit.acmp (g := (mkF m 4 #[.val (.ref wU)] [(.ref wF), (.ref wU)])) X1 hx rfl rfl rfl (pc0 := 4) (pc' := 9) (same := false) rfl (hb hby own_d3_4) rfl (decide_eq_false fun q => (Ne.symm ne_wF_wU) (Value.ref.inj q)) (by decide) (by decide) k) ?_
  show own_G p e below _ (T1.setTop (mkF m 9 #[.val (.ref wU)] []))
  refine own_via (fun t k => XS.aloadN X1.here hx rfl (hb hby own_d3_9) rfl rfl k) ?_
  show own_G p e below _ (T1.setTop (mkF m 10 #[.val (.ref wU)] [(.ref wU)]))
  obtain ⟨T2, X2, e2, st2⟩ := getS2 X1 hx hZ hown (host := "") (Or.inl (hw _ (List.mem_of_getElem? (i := 23) rfl))) Via.refl e1 i_S2 (g := (mkF m 10 #[.val (.ref wU)] [(.ref wU)])) rfl (hb hby own_d3_10)
  refine own_via st2 ?_
  show own_G p e below _ (T2.setTop (mkF m 13 #[.val (.ref wU)] [(.ref wU), (.ref wU)]))
  refine own_via (fun t k => Jvm.RoadKit.acmp (g := (mkF m 13 #[.val (.ref wU)] [(.ref wU), (.ref wU)])) X2 hx rfl rfl rfl (pc0 := 13) (pc' := 16) (same := true) rfl (hb hby own_d3_13) rfl (decide_eq_true rfl) (by decide) (by decide) k) ?_
  show own_G p e below _ (T2.setTop (mkF m 16 #[.val (.ref wU)] []))
  refine own_via (fun t k => XS.iconst X2.here hx rfl (hb hby own_d3_16) k) ?_
  show own_G p e below _ (T2.setTop (mkF m 17 #[.val (.ref wU)] [(.int (1 : Int32))]))
  exact own_retI X2 hx Bd.returns Bd.notSynchronized (hb hby own_d3_17) ⟨rfl, rfl, e2⟩ (by decide) (by decide)
theorem own_d3_18 : decode method_3_code 18 = .ok (.aload_n 0, 1) := by decide +kernel
theorem own_d3_19 : decode method_3_code 19 = .ok (.getstatic 17, 3) := by decide +kernel
theorem own_d3_22 : decode method_3_code 22 = .ok (.if_acmp .ne 5, 3) := by decide +kernel
theorem own_d3_25 : decode method_3_code 25 = .ok (.iconst 2, 1) := by decide +kernel
theorem own_d3_26 : decode method_3_code 26 = .ok (.ireturn, 1) := by decide +kernel
abbrev own_rankT_R : Room := { frames := 0, cells := 0, slots := 0, locals := 0 }
theorem own_rankT_ef (m : MethodId) (wT : Addr) : entryFrame m #[(.ref wT)] 1 = mkF m 0 #[.val (.ref wT)] [] := by first | (simp [entryFrame, mkF, argsToLocals, Value.category]; done) | rfl
set_option maxRecDepth 65536 in
set_option maxHeartbeats 40000000 in
theorem own_rankT (l : Launch) (Z : State) (a0 : Array Value) (hw : ∀ d ∈ tables_1, d.before a0 Z = true) (ws : List Jvm.Cond) (wT : Addr) (wF : Addr) (wU : Addr) (h0 : Heap)  (i_S1 : Sta Z h0 "com/example/clementi/clementi/query/Truth" "FALSE" "Lcom/example/clementi/clementi/query/Truth;" (.ref wF)) (i_S2 : Sta Z h0 "com/example/clementi/clementi/query/Truth" "UNKNOWN" "Lcom/example/clementi/clementi/query/Truth;" (.ref wU)) (i_S3 : Sta Z h0 "com/example/clementi/clementi/query/Truth" "TRUE" "Lcom/example/clementi/clementi/query/Truth;" (.ref wT)) (ne_wF_wU : wF ≠ wU) (ne_wF_wT : wF ≠ wT) (ne_wU_wT : wU ≠ wT) :
    own_C l Z (⟨"com/example/clementi/clementi/query/TruthAndPinLaw", "rank", "(Lcom/example/clementi/clementi/query/Truth;)I"⟩ : MethodName) method_3_code 1 (some .int) ws own_rankT_R #[(.ref wT)] h0 (own_Q (.int (2 : Int32)) h0) := by
  refine MetFree.of_bodySF own_pn3 hisR ?_
  intro p e s m args below meth c s₁ Bd hml0 hP hK
  obtain ⟨rfl, hZ, hh⟩ := hP
  have hx := Bd.exec
  have hby := Bd.bytes
  have hml : c.maxLocals = 1 := hml0
  have hown : s.vm.findClass "com/example/clementi/clementi/query/TruthAndPinLaw" = some m.cls := findClass_of_methodNamed Bd.named
  have hnm := (name_of_methodNamed Bd.named Bd.method).1
  have X0 : Stand p l e own_rankT_R s m #[(.ref wT)] below meth c s₁ [] 0 0 := Stand.of_body Bd
  have e0 : s₁.heap = h0 := by rw [← hh, Bd.state]; rfl
  show own_G p e below (own_P s (own_Q (.int (2 : Int32)) h0) own_rankT_R.cells own_rankT_R.slots) (s₁.setTop (entryFrame m #[(.ref wT)] 1))
  rw [own_rankT_ef m wT]
  show own_G p e below _ (s₁.setTop (mkF m 0 #[.val (.ref wT)] []))
  refine own_via (fun t k => XS.aloadN X0.here hx rfl (hb hby own_d3_0) rfl rfl k) ?_
  show own_G p e below _ (s₁.setTop (mkF m 1 #[.val (.ref wT)] [(.ref wT)]))
  obtain ⟨T1, X1, e1, st1⟩ := getS2 X0 hx hZ hown (host := "") (Or.inl (hw _ (List.mem_of_getElem? (i := 5) rfl))) Via.refl e0 i_S1 (g := (mkF m 1 #[.val (.ref wT)] [(.ref wT)])) rfl (hb hby own_d3_1)
  refine own_via st1 ?_
  show own_G p e below _ (T1.setTop (mkF m 4 #[.val (.ref wT)] [(.ref wF), (.ref wT)]))
  refine own_via (fun t k => Jvm.RoadKit.acmp (g := (mkF m 4 #[.val (.ref wT)] [(.ref wF), (.ref wT)])) X1 hx rfl rfl rfl (pc0 := 4) (pc' := 9) (same := false) rfl (hb hby own_d3_4) rfl (decide_eq_false fun q => (Ne.symm ne_wF_wT) (Value.ref.inj q)) (by decide) (by decide) k) ?_
  show own_G p e below _ (T1.setTop (mkF m 9 #[.val (.ref wT)] []))
  refine own_via (fun t k => XS.aloadN X1.here hx rfl (hb hby own_d3_9) rfl rfl k) ?_
  show own_G p e below _ (T1.setTop (mkF m 10 #[.val (.ref wT)] [(.ref wT)]))
  obtain ⟨T2, X2, e2, st2⟩ := getS2 X1 hx hZ hown (host := "") (Or.inl (hw _ (List.mem_of_getElem? (i := 23) rfl))) Via.refl e1 i_S2 (g := (mkF m 10 #[.val (.ref wT)] [(.ref wT)])) rfl (hb hby own_d3_10)
  refine own_via st2 ?_
  show own_G p e below _ (T2.setTop (mkF m 13 #[.val (.ref wT)] [(.ref wU), (.ref wT)]))
  refine own_via (fun t k => Jvm.RoadKit.acmp (g := (mkF m 13 #[.val (.ref wT)] [(.ref wU), (.ref wT)])) X2 hx rfl rfl rfl (pc0 := 13) (pc' := 18) (same := false) rfl (hb hby own_d3_13) rfl (decide_eq_false fun q => (Ne.symm ne_wU_wT) (Value.ref.inj q)) (by decide) (by decide) k) ?_
  show own_G p e below _ (T2.setTop (mkF m 18 #[.val (.ref wT)] []))
  refine own_via (fun t k => XS.aloadN X2.here hx rfl (hb hby own_d3_18) rfl rfl k) ?_
  show own_G p e below _ (T2.setTop (mkF m 19 #[.val (.ref wT)] [(.ref wT)]))
  obtain ⟨T3, X3, e3, st3⟩ := getS2 X2 hx hZ hown (host := "") (Or.inl (hw _ (List.mem_of_getElem? (i := 21) rfl))) Via.refl e2 i_S3 (g := (mkF m 19 #[.val (.ref wT)] [(.ref wT)])) rfl (hb hby own_d3_19)
  refine own_via st3 ?_
  show own_G p e below _ (T3.setTop (mkF m 22 #[.val (.ref wT)] [(.ref wT), (.ref wT)]))
  refine own_via (fun t k => Jvm.RoadKit.acmp (g := (mkF m 22 #[.val (.ref wT)] [(.ref wT), (.ref wT)])) X3 hx rfl rfl rfl (pc0 := 22) (pc' := 25) (same := true) rfl (hb hby own_d3_22) rfl (decide_eq_true rfl) (by decide) (by decide) k) ?_
  show own_G p e below _ (T3.setTop (mkF m 25 #[.val (.ref wT)] []))
  refine own_via (fun t k => XS.iconst X3.here hx rfl (hb hby own_d3_25) k) ?_
  show own_G p e below _ (T3.setTop (mkF m 26 #[.val (.ref wT)] [(.int (2 : Int32))]))
  exact own_retI X3 hx Bd.returns Bd.notSynchronized (hb hby own_d3_26) ⟨rfl, rfl, e3⟩ (by decide) (by decide)
theorem own_d2_0 : decode prog_33_method_5_code 0 = .ok (.aload_n 0, 1) := by decide +kernel
theorem own_d2_1 : decode prog_33_method_5_code 1 = .ok (.getstatic 3, 3) := by decide +kernel
theorem own_d2_4 : decode prog_33_method_5_code 4 = .ok (.if_acmp .eq 10, 3) := by decide +kernel
theorem own_d2_14 : decode prog_33_method_5_code 14 = .ok (.getstatic 3, 3) := by decide +kernel
theorem own_d2_17 : decode prog_33_method_5_code 17 = .ok (.astore_n 2, 1) := by decide +kernel
theorem own_d2_18 : decode prog_33_method_5_code 18 = .ok (.goto 28, 3) := by decide +kernel
theorem own_d2_46 : decode prog_33_method_5_code 46 = .ok (.aload_n 2, 1) := by decide +kernel
theorem own_d2_47 : decode prog_33_method_5_code 47 = .ok (.areturn, 1) := by decide +kernel
abbrev own_andFF_R : Room := { frames := 0, cells := 0, slots := 0, locals := 0 }
theorem own_pn2 : plainFor (⟨"com/example/clementi/clementi/query/Truth", "and", "(Lcom/example/clementi/clementi/query/Truth;)Lcom/example/clementi/clementi/query/Truth;"⟩ : MethodName) = true := plainFor_of_name (by first | (simp [plainName, overriddenIn]; done) | decide +kernel)
theorem own_andFF_ef (m : MethodId) (wF : Addr) : entryFrame m #[(.ref wF), (.ref wF)] 3 = mkF m 0 #[.val (.ref wF), .val (.ref wF), .unset] [] := by first | (simp [entryFrame, mkF, argsToLocals, Value.category]; done) | rfl
set_option maxRecDepth 65536 in
set_option maxHeartbeats 40000000 in
theorem own_andFF (l : Launch) (Z : State) (a0 : Array Value) (hw : ∀ d ∈ tables_1, d.before a0 Z = true) (ws : List Jvm.Cond) (wF : Addr) (wU : Addr) (wT : Addr) (h0 : Heap)  (i_S1 : Sta Z h0 "com/example/clementi/clementi/query/Truth" "FALSE" "Lcom/example/clementi/clementi/query/Truth;" (.ref wF)) (i_S2 : Sta Z h0 "com/example/clementi/clementi/query/Truth" "UNKNOWN" "Lcom/example/clementi/clementi/query/Truth;" (.ref wU)) (i_S3 : Sta Z h0 "com/example/clementi/clementi/query/Truth" "TRUE" "Lcom/example/clementi/clementi/query/Truth;" (.ref wT)) (ne_wF_wU : wF ≠ wU) (ne_wF_wT : wF ≠ wT) (ne_wU_wT : wU ≠ wT) :
    own_C l Z (⟨"com/example/clementi/clementi/query/Truth", "and", "(Lcom/example/clementi/clementi/query/Truth;)Lcom/example/clementi/clementi/query/Truth;"⟩ : MethodName) prog_33_method_5_code 3 (some (.object "com/example/clementi/clementi/query/Truth")) ws own_andFF_R #[(.ref wF), (.ref wF)] h0 (own_Q (.ref wF) h0) := by
  refine MetFree.of_bodySF own_pn2 hisR ?_
  intro p e s m args below meth c s₁ Bd hml0 hP hK
  obtain ⟨rfl, hZ, hh⟩ := hP
  have hx := Bd.exec
  have hby := Bd.bytes
  have hml : c.maxLocals = 3 := hml0
  have hown : s.vm.findClass "com/example/clementi/clementi/query/Truth" = some m.cls := findClass_of_methodNamed Bd.named
  have hnm := (name_of_methodNamed Bd.named Bd.method).1
  have X0 : Stand p l e own_andFF_R s m #[(.ref wF), (.ref wF)] below meth c s₁ [] 0 0 := Stand.of_body Bd
  have e0 : s₁.heap = h0 := by rw [← hh, Bd.state]; rfl
  show own_G p e below (own_P s (own_Q (.ref wF) h0) own_andFF_R.cells own_andFF_R.slots) (s₁.setTop (entryFrame m #[(.ref wF), (.ref wF)] 3))
  rw [own_andFF_ef m wF]
  show own_G p e below _ (s₁.setTop (mkF m 0 #[.val (.ref wF), .val (.ref wF), .unset] []))
  refine own_via (fun t k => XS.aloadN X0.here hx rfl (hb hby own_d2_0) rfl rfl k) ?_
  show own_G p e below _ (s₁.setTop (mkF m 1 #[.val (.ref wF), .val (.ref wF), .unset] [(.ref wF)]))
  obtain ⟨T1, X1, e1, st1⟩ := getS2 X0 hx hZ hown (host := "") (Or.inl (hw _ (List.mem_of_getElem? (i := 13) rfl))) Via.refl e0 i_S1 (g := (mkF m 1 #[.val (.ref wF), .val (.ref wF), .unset] [(.ref wF)])) rfl (hb hby own_d2_1)
  refine own_via st1 ?_
  show own_G p e below _ (T1.setTop (mkF m 4 #[.val (.ref wF), .val (.ref wF), .unset] [(.ref wF), (.ref wF)]))
  refine own_via (fun t k => Jvm.RoadKit.acmp (g := (mkF m 4 #[.val (.ref wF), .val (.ref wF), .unset] [(.ref wF), (.ref wF)])) X1 hx rfl rfl rfl (pc0 := 4) (pc' := 14) (same := true) rfl (hb hby own_d2_4) rfl (decide_eq_true rfl) (by decide) (by decide) k) ?_
  show own_G p e below _ (T1.setTop (mkF m 14 #[.val (.ref wF), .val (.ref wF), .unset] []))
  obtain ⟨T2, X2, e2, st2⟩ := getS2 X1 hx hZ hown (host := "") (Or.inl (hw _ (List.mem_of_getElem? (i := 13) rfl))) Via.refl e1 i_S1 (g := (mkF m 14 #[.val (.ref wF), .val (.ref wF), .unset] [])) rfl (hb hby own_d2_14)
  refine own_via st2 ?_
  show own_G p e below _ (T2.setTop (mkF m 17 #[.val (.ref wF), .val (.ref wF), .unset] [(.ref wF)]))
  refine own_via (fun t k => XS.astoreN X2.here hx rfl (hb hby own_d2_17) rfl rfl (l' := #[.val (.ref wF), .val (.ref wF), .val (.ref wF)]) rfl k) ?_
  show own_G p e below _ (T2.setTop (mkF m 18 #[.val (.ref wF), .val (.ref wF), .val (.ref wF)] []))
  refine own_via (fun t k => XS.goto X2.here hx rfl (pc0 := 18) (pc' := 46) rfl (hb hby own_d2_18) (by decide) (by decide) k) ?_
  show own_G p e below _ (T2.setTop (mkF m 46 #[.val (.ref wF), .val (.ref wF), .val (.ref wF)] []))
  refine own_via (fun t k => XS.aloadN X2.here hx rfl (hb hby own_d2_46) rfl rfl k) ?_
  show own_G p e below _ (T2.setTop (mkF m 47 #[.val (.ref wF), .val (.ref wF), .val (.ref wF)] [(.ref wF)]))
  exact own_retA X2 hx Bd.returns rfl rfl Bd.notSynchronized (hb hby own_d2_47) ⟨rfl, rfl, e2⟩ (by decide) (by decide)
abbrev own_andFU_R : Room := { frames := 0, cells := 0, slots := 0, locals := 0 }
theorem own_andFU_ef (m : MethodId) (wF : Addr) (wU : Addr) : entryFrame m #[(.ref wF), (.ref wU)] 3 = mkF m 0 #[.val (.ref wF), .val (.ref wU), .unset] [] := by first | (simp [entryFrame, mkF, argsToLocals, Value.category]; done) | rfl
set_option maxRecDepth 65536 in
set_option maxHeartbeats 40000000 in
theorem own_andFU (l : Launch) (Z : State) (a0 : Array Value) (hw : ∀ d ∈ tables_1, d.before a0 Z = true) (ws : List Jvm.Cond) (wF : Addr) (wU : Addr) (wT : Addr) (h0 : Heap)  (i_S1 : Sta Z h0 "com/example/clementi/clementi/query/Truth" "FALSE" "Lcom/example/clementi/clementi/query/Truth;" (.ref wF)) (i_S2 : Sta Z h0 "com/example/clementi/clementi/query/Truth" "UNKNOWN" "Lcom/example/clementi/clementi/query/Truth;" (.ref wU)) (i_S3 : Sta Z h0 "com/example/clementi/clementi/query/Truth" "TRUE" "Lcom/example/clementi/clementi/query/Truth;" (.ref wT)) (ne_wF_wU : wF ≠ wU) (ne_wF_wT : wF ≠ wT) (ne_wU_wT : wU ≠ wT) :
    own_C l Z (⟨"com/example/clementi/clementi/query/Truth", "and", "(Lcom/example/clementi/clementi/query/Truth;)Lcom/example/clementi/clementi/query/Truth;"⟩ : MethodName) prog_33_method_5_code 3 (some (.object "com/example/clementi/clementi/query/Truth")) ws own_andFU_R #[(.ref wF), (.ref wU)] h0 (own_Q (.ref wF) h0) := by
  refine MetFree.of_bodySF own_pn2 hisR ?_
  intro p e s m args below meth c s₁ Bd hml0 hP hK
  obtain ⟨rfl, hZ, hh⟩ := hP
  have hx := Bd.exec
  have hby := Bd.bytes
  have hml : c.maxLocals = 3 := hml0
  have hown : s.vm.findClass "com/example/clementi/clementi/query/Truth" = some m.cls := findClass_of_methodNamed Bd.named
  have hnm := (name_of_methodNamed Bd.named Bd.method).1
  have X0 : Stand p l e own_andFU_R s m #[(.ref wF), (.ref wU)] below meth c s₁ [] 0 0 := Stand.of_body Bd
  have e0 : s₁.heap = h0 := by rw [← hh, Bd.state]; rfl
  show own_G p e below (own_P s (own_Q (.ref wF) h0) own_andFU_R.cells own_andFU_R.slots) (s₁.setTop (entryFrame m #[(.ref wF), (.ref wU)] 3))
  rw [own_andFU_ef m wF wU]
  show own_G p e below _ (s₁.setTop (mkF m 0 #[.val (.ref wF), .val (.ref wU), .unset] []))
  refine own_via (fun t k => XS.aloadN X0.here hx rfl (hb hby own_d2_0) rfl rfl k) ?_
  show own_G p e below _ (s₁.setTop (mkF m 1 #[.val (.ref wF), .val (.ref wU), .unset] [(.ref wF)]))
  obtain ⟨T1, X1, e1, st1⟩ := getS2 X0 hx hZ hown (host := "") (Or.inl (hw _ (List.mem_of_getElem? (i := 13) rfl))) Via.refl e0 i_S1 (g := (mkF m 1 #[.val (.ref wF), .val (.ref wU), .unset] [(.ref wF)])) rfl (hb hby own_d2_1)
  refine own_via st1 ?_
  show own_G p e below _ (T1.setTop (mkF m 4 #[.val (.ref wF), .val (.ref wU), .unset] [(.ref wF), (.ref wF)]))
  refine own_via (fun t k => Jvm.RoadKit.acmp (g := (mkF m 4 #[.val (.ref wF), .val (.ref wU), .unset] [(.ref wF), (.ref wF)])) X1 hx rfl rfl rfl (pc0 := 4) (pc' := 14) (same := true) rfl (hb hby own_d2_4) rfl (decide_eq_true rfl) (by decide) (by decide) k) ?_
  show own_G p e below _ (T1.setTop (mkF m 14 #[.val (.ref wF), .val (.ref wU), .unset] []))
  obtain ⟨T2, X2, e2, st2⟩ := getS2 X1 hx hZ hown (host := "") (Or.inl (hw _ (List.mem_of_getElem? (i := 13) rfl))) Via.refl e1 i_S1 (g := (mkF m 14 #[.val (.ref wF), .val (.ref wU), .unset] [])) rfl (hb hby own_d2_14)
  refine own_via st2 ?_
  show own_G p e below _ (T2.setTop (mkF m 17 #[.val (.ref wF), .val (.ref wU), .unset] [(.ref wF)]))
  refine own_via (fun t k => XS.astoreN X2.here hx rfl (hb hby own_d2_17) rfl rfl (l' := #[.val (.ref wF), .val (.ref wU), .val (.ref wF)]) rfl k) ?_
  show own_G p e below _ (T2.setTop (mkF m 18 #[.val (.ref wF), .val (.ref wU), .val (.ref wF)] []))
  refine own_via (fun t k => XS.goto X2.here hx rfl (pc0 := 18) (pc' := 46) rfl (hb hby own_d2_18) (by decide) (by decide) k) ?_
  show own_G p e below _ (T2.setTop (mkF m 46 #[.val (.ref wF), .val (.ref wU), .val (.ref wF)] []))
  refine own_via (fun t k => XS.aloadN X2.here hx rfl (hb hby own_d2_46) rfl rfl k) ?_
  show own_G p e below _ (T2.setTop (mkF m 47 #[.val (.ref wF), .val (.ref wU), .val (.ref wF)] [(.ref wF)]))
  exact own_retA X2 hx Bd.returns rfl rfl Bd.notSynchronized (hb hby own_d2_47) ⟨rfl, rfl, e2⟩ (by decide) (by decide)
abbrev own_andFT_R : Room := { frames := 0, cells := 0, slots := 0, locals := 0 }
theorem own_andFT_ef (m : MethodId) (wF : Addr) (wT : Addr) : entryFrame m #[(.ref wF), (.ref wT)] 3 = mkF m 0 #[.val (.ref wF), .val (.ref wT), .unset] [] := by first | (simp [entryFrame, mkF, argsToLocals, Value.category]; done) | rfl
set_option maxRecDepth 65536 in
set_option maxHeartbeats 40000000 in
theorem own_andFT (l : Launch) (Z : State) (a0 : Array Value) (hw : ∀ d ∈ tables_1, d.before a0 Z = true) (ws : List Jvm.Cond) (wF : Addr) (wT : Addr) (wU : Addr) (h0 : Heap)  (i_S1 : Sta Z h0 "com/example/clementi/clementi/query/Truth" "FALSE" "Lcom/example/clementi/clementi/query/Truth;" (.ref wF)) (i_S2 : Sta Z h0 "com/example/clementi/clementi/query/Truth" "UNKNOWN" "Lcom/example/clementi/clementi/query/Truth;" (.ref wU)) (i_S3 : Sta Z h0 "com/example/clementi/clementi/query/Truth" "TRUE" "Lcom/example/clementi/clementi/query/Truth;" (.ref wT)) (ne_wF_wU : wF ≠ wU) (ne_wF_wT : wF ≠ wT) (ne_wU_wT : wU ≠ wT) :
    own_C l Z (⟨"com/example/clementi/clementi/query/Truth", "and", "(Lcom/example/clementi/clementi/query/Truth;)Lcom/example/clementi/clementi/query/Truth;"⟩ : MethodName) prog_33_method_5_code 3 (some (.object "com/example/clementi/clementi/query/Truth")) ws own_andFT_R #[(.ref wF), (.ref wT)] h0 (own_Q (.ref wF) h0) := by
  refine MetFree.of_bodySF own_pn2 hisR ?_
  intro p e s m args below meth c s₁ Bd hml0 hP hK
  obtain ⟨rfl, hZ, hh⟩ := hP
  have hx := Bd.exec
  have hby := Bd.bytes
  have hml : c.maxLocals = 3 := hml0
  have hown : s.vm.findClass "com/example/clementi/clementi/query/Truth" = some m.cls := findClass_of_methodNamed Bd.named
  have hnm := (name_of_methodNamed Bd.named Bd.method).1
  have X0 : Stand p l e own_andFT_R s m #[(.ref wF), (.ref wT)] below meth c s₁ [] 0 0 := Stand.of_body Bd
  have e0 : s₁.heap = h0 := by rw [← hh, Bd.state]; rfl
  show own_G p e below (own_P s (own_Q (.ref wF) h0) own_andFT_R.cells own_andFT_R.slots) (s₁.setTop (entryFrame m #[(.ref wF), (.ref wT)] 3))
  rw [own_andFT_ef m wF wT]
  show own_G p e below _ (s₁.setTop (mkF m 0 #[.val (.ref wF), .val (.ref wT), .unset] []))
  refine own_via (fun t k => XS.aloadN X0.here hx rfl (hb hby own_d2_0) rfl rfl k) ?_
  show own_G p e below _ (s₁.setTop (mkF m 1 #[.val (.ref wF), .val (.ref wT), .unset] [(.ref wF)]))
  obtain ⟨T1, X1, e1, st1⟩ := getS2 X0 hx hZ hown (host := "") (Or.inl (hw _ (List.mem_of_getElem? (i := 13) rfl))) Via.refl e0 i_S1 (g := (mkF m 1 #[.val (.ref wF), .val (.ref wT), .unset] [(.ref wF)])) rfl (hb hby own_d2_1)
  refine own_via st1 ?_
  show own_G p e below _ (T1.setTop (mkF m 4 #[.val (.ref wF), .val (.ref wT), .unset] [(.ref wF), (.ref wF)]))
  refine own_via (fun t k => Jvm.RoadKit.acmp (g := (mkF m 4 #[.val (.ref wF), .val (.ref wT), .unset] [(.ref wF), (.ref wF)])) X1 hx rfl rfl rfl (pc0 := 4) (pc' := 14) (same := true) rfl (hb hby own_d2_4) rfl (decide_eq_true rfl) (by decide) (by decide) k) ?_
  show own_G p e below _ (T1.setTop (mkF m 14 #[.val (.ref wF), .val (.ref wT), .unset] []))
  obtain ⟨T2, X2, e2, st2⟩ := getS2 X1 hx hZ hown (host := "") (Or.inl (hw _ (List.mem_of_getElem? (i := 13) rfl))) Via.refl e1 i_S1 (g := (mkF m 14 #[.val (.ref wF), .val (.ref wT), .unset] [])) rfl (hb hby own_d2_14)
  refine own_via st2 ?_
  show own_G p e below _ (T2.setTop (mkF m 17 #[.val (.ref wF), .val (.ref wT), .unset] [(.ref wF)]))
  refine own_via (fun t k => XS.astoreN X2.here hx rfl (hb hby own_d2_17) rfl rfl (l' := #[.val (.ref wF), .val (.ref wT), .val (.ref wF)]) rfl k) ?_
  show own_G p e below _ (T2.setTop (mkF m 18 #[.val (.ref wF), .val (.ref wT), .val (.ref wF)] []))
  refine own_via (fun t k => XS.goto X2.here hx rfl (pc0 := 18) (pc' := 46) rfl (hb hby own_d2_18) (by decide) (by decide) k) ?_
  show own_G p e below _ (T2.setTop (mkF m 46 #[.val (.ref wF), .val (.ref wT), .val (.ref wF)] []))
  refine own_via (fun t k => XS.aloadN X2.here hx rfl (hb hby own_d2_46) rfl rfl k) ?_
  show own_G p e below _ (T2.setTop (mkF m 47 #[.val (.ref wF), .val (.ref wT), .val (.ref wF)] [(.ref wF)]))
  exact own_retA X2 hx Bd.returns rfl rfl Bd.notSynchronized (hb hby own_d2_47) ⟨rfl, rfl, e2⟩ (by decide) (by decide)
theorem own_d2_7 : decode prog_33_method_5_code 7 = .ok (.aload_n 1, 1) := by decide +kernel
theorem own_d2_8 : decode prog_33_method_5_code 8 = .ok (.getstatic 3, 3) := by decide +kernel
theorem own_d2_11 : decode prog_33_method_5_code 11 = .ok (.if_acmp .ne 10, 3) := by decide +kernel
abbrev own_andUF_R : Room := { frames := 0, cells := 0, slots := 0, locals := 0 }
theorem own_andUF_ef (m : MethodId) (wU : Addr) (wF : Addr) : entryFrame m #[(.ref wU), (.ref wF)] 3 = mkF m 0 #[.val (.ref wU), .val (.ref wF), .unset] [] := by first | (simp [entryFrame, mkF, argsToLocals, Value.category]; done) | rfl
set_option maxRecDepth 65536 in
set_option maxHeartbeats 40000000 in
theorem own_andUF (l : Launch) (Z : State) (a0 : Array Value) (hw : ∀ d ∈ tables_1, d.before a0 Z = true) (ws : List Jvm.Cond) (wU : Addr) (wF : Addr) (wT : Addr) (h0 : Heap)  (i_S1 : Sta Z h0 "com/example/clementi/clementi/query/Truth" "FALSE" "Lcom/example/clementi/clementi/query/Truth;" (.ref wF)) (i_S2 : Sta Z h0 "com/example/clementi/clementi/query/Truth" "UNKNOWN" "Lcom/example/clementi/clementi/query/Truth;" (.ref wU)) (i_S3 : Sta Z h0 "com/example/clementi/clementi/query/Truth" "TRUE" "Lcom/example/clementi/clementi/query/Truth;" (.ref wT)) (ne_wF_wU : wF ≠ wU) (ne_wF_wT : wF ≠ wT) (ne_wU_wT : wU ≠ wT) :
    own_C l Z (⟨"com/example/clementi/clementi/query/Truth", "and", "(Lcom/example/clementi/clementi/query/Truth;)Lcom/example/clementi/clementi/query/Truth;"⟩ : MethodName) prog_33_method_5_code 3 (some (.object "com/example/clementi/clementi/query/Truth")) ws own_andUF_R #[(.ref wU), (.ref wF)] h0 (own_Q (.ref wF) h0) := by
  refine MetFree.of_bodySF own_pn2 hisR ?_
  intro p e s m args below meth c s₁ Bd hml0 hP hK
  obtain ⟨rfl, hZ, hh⟩ := hP
  have hx := Bd.exec
  have hby := Bd.bytes
  have hml : c.maxLocals = 3 := hml0
  have hown : s.vm.findClass "com/example/clementi/clementi/query/Truth" = some m.cls := findClass_of_methodNamed Bd.named
  have hnm := (name_of_methodNamed Bd.named Bd.method).1
  have X0 : Stand p l e own_andUF_R s m #[(.ref wU), (.ref wF)] below meth c s₁ [] 0 0 := Stand.of_body Bd
  have e0 : s₁.heap = h0 := by rw [← hh, Bd.state]; rfl
  show own_G p e below (own_P s (own_Q (.ref wF) h0) own_andUF_R.cells own_andUF_R.slots) (s₁.setTop (entryFrame m #[(.ref wU), (.ref wF)] 3))
  rw [own_andUF_ef m wU wF]
  show own_G p e below _ (s₁.setTop (mkF m 0 #[.val (.ref wU), .val (.ref wF), .unset] []))
  refine own_via (fun t k => XS.aloadN X0.here hx rfl (hb hby own_d2_0) rfl rfl k) ?_
  show own_G p e below _ (s₁.setTop (mkF m 1 #[.val (.ref wU), .val (.ref wF), .unset] [(.ref wU)]))
  obtain ⟨T1, X1, e1, st1⟩ := getS2 X0 hx hZ hown (host := "") (Or.inl (hw _ (List.mem_of_getElem? (i := 13) rfl))) Via.refl e0 i_S1 (g := (mkF m 1 #[.val (.ref wU), .val (.ref wF), .unset] [(.ref wU)])) rfl (hb hby own_d2_1)
  refine own_via st1 ?_
  show own_G p e below _ (T1.setTop (mkF m 4 #[.val (.ref wU), .val (.ref wF), .unset] [(.ref wF), (.ref wU)]))
  refine own_via (fun t k => Jvm.RoadKit.acmp (g := (mkF m 4 #[.val (.ref wU), .val (.ref wF), .unset] [(.ref wF), (.ref wU)])) X1 hx rfl rfl rfl (pc0 := 4) (pc' := 7) (same := false) rfl (hb hby own_d2_4) rfl (decide_eq_false fun q => (Ne.symm ne_wF_wU) (Value.ref.inj q)) (by decide) (by decide) k) ?_
  show own_G p e below _ (T1.setTop (mkF m 7 #[.val (.ref wU), .val (.ref wF), .unset] []))
  refine own_via (fun t k => XS.aloadN X1.here hx rfl (hb hby own_d2_7) rfl rfl k) ?_
  show own_G p e below _ (T1.setTop (mkF m 8 #[.val (.ref wU), .val (.ref wF), .unset] [(.ref wF)]))
  obtain ⟨T2, X2, e2, st2⟩ := getS2 X1 hx hZ hown (host := "") (Or.inl (hw _ (List.mem_of_getElem? (i := 13) rfl))) Via.refl e1 i_S1 (g := (mkF m 8 #[.val (.ref wU), .val (.ref wF), .unset] [(.ref wF)])) rfl (hb hby own_d2_8)
  refine own_via st2 ?_
  show own_G p e below _ (T2.setTop (mkF m 11 #[.val (.ref wU), .val (.ref wF), .unset] [(.ref wF), (.ref wF)]))
  refine own_via (fun t k => Jvm.RoadKit.acmp (g := (mkF m 11 #[.val (.ref wU), .val (.ref wF), .unset] [(.ref wF), (.ref wF)])) X2 hx rfl rfl rfl (pc0 := 11) (pc' := 14) (same := true) rfl (hb hby own_d2_11) rfl (decide_eq_true rfl) (by decide) (by decide) k) ?_
  show own_G p e below _ (T2.setTop (mkF m 14 #[.val (.ref wU), .val (.ref wF), .unset] []))
  obtain ⟨T3, X3, e3, st3⟩ := getS2 X2 hx hZ hown (host := "") (Or.inl (hw _ (List.mem_of_getElem? (i := 13) rfl))) Via.refl e2 i_S1 (g := (mkF m 14 #[.val (.ref wU), .val (.ref wF), .unset] [])) rfl (hb hby own_d2_14)
  refine own_via st3 ?_
  show own_G p e below _ (T3.setTop (mkF m 17 #[.val (.ref wU), .val (.ref wF), .unset] [(.ref wF)]))
  refine own_via (fun t k => XS.astoreN X3.here hx rfl (hb hby own_d2_17) rfl rfl (l' := #[.val (.ref wU), .val (.ref wF), .val (.ref wF)]) rfl k) ?_
  show own_G p e below _ (T3.setTop (mkF m 18 #[.val (.ref wU), .val (.ref wF), .val (.ref wF)] []))
  refine own_via (fun t k => XS.goto X3.here hx rfl (pc0 := 18) (pc' := 46) rfl (hb hby own_d2_18) (by decide) (by decide) k) ?_
  show own_G p e below _ (T3.setTop (mkF m 46 #[.val (.ref wU), .val (.ref wF), .val (.ref wF)] []))
  refine own_via (fun t k => XS.aloadN X3.here hx rfl (hb hby own_d2_46) rfl rfl k) ?_
  show own_G p e below _ (T3.setTop (mkF m 47 #[.val (.ref wU), .val (.ref wF), .val (.ref wF)] [(.ref wF)]))
  exact own_retA X3 hx Bd.returns rfl rfl Bd.notSynchronized (hb hby own_d2_47) ⟨rfl, rfl, e3⟩ (by decide) (by decide)
theorem own_d2_21 : decode prog_33_method_5_code 21 = .ok (.aload_n 0, 1) := by decide +kernel
theorem own_d2_22 : decode prog_33_method_5_code 22 = .ok (.getstatic 10, 3) := by decide +kernel
theorem own_d2_25 : decode prog_33_method_5_code 25 = .ok (.if_acmp .eq 10, 3) := by decide +kernel
theorem own_d2_35 : decode prog_33_method_5_code 35 = .ok (.getstatic 10, 3) := by decide +kernel
theorem own_d2_38 : decode prog_33_method_5_code 38 = .ok (.astore_n 2, 1) := by decide +kernel
theorem own_d2_39 : decode prog_33_method_5_code 39 = .ok (.goto 7, 3) := by decide +kernel
abbrev own_andUU_R : Room := { frames := 0, cells := 0, slots := 0, locals := 0 }
theorem own_andUU_ef (m : MethodId) (wU : Addr) : entryFrame m #[(.ref wU), (.ref wU)] 3 = mkF m 0 #[.val (.ref wU), .val (.ref wU), .unset] [] := by first | (simp [entryFrame, mkF, argsToLocals, Value.category]; done) | rfl
set_option maxRecDepth 65536 in
set_option maxHeartbeats 40000000 in
theorem own_andUU (l : Launch) (Z : State) (a0 : Array Value) (hw : ∀ d ∈ tables_1, d.before a0 Z = true) (ws : List Jvm.Cond) (wU : Addr) (wF : Addr) (wT : Addr) (h0 : Heap)  (i_S1 : Sta Z h0 "com/example/clementi/clementi/query/Truth" "FALSE" "Lcom/example/clementi/clementi/query/Truth;" (.ref wF)) (i_S2 : Sta Z h0 "com/example/clementi/clementi/query/Truth" "UNKNOWN" "Lcom/example/clementi/clementi/query/Truth;" (.ref wU)) (i_S3 : Sta Z h0 "com/example/clementi/clementi/query/Truth" "TRUE" "Lcom/example/clementi/clementi/query/Truth;" (.ref wT)) (ne_wF_wU : wF ≠ wU) (ne_wF_wT : wF ≠ wT) (ne_wU_wT : wU ≠ wT) :
    own_C l Z (⟨"com/example/clementi/clementi/query/Truth", "and", "(Lcom/example/clementi/clementi/query/Truth;)Lcom/example/clementi/clementi/query/Truth;"⟩ : MethodName) prog_33_method_5_code 3 (some (.object "com/example/clementi/clementi/query/Truth")) ws own_andUU_R #[(.ref wU), (.ref wU)] h0 (own_Q (.ref wU) h0) := by
  refine MetFree.of_bodySF own_pn2 hisR ?_
  intro p e s m args below meth c s₁ Bd hml0 hP hK
  obtain ⟨rfl, hZ, hh⟩ := hP
  have hx := Bd.exec
  have hby := Bd.bytes
  have hml : c.maxLocals = 3 := hml0
  have hown : s.vm.findClass "com/example/clementi/clementi/query/Truth" = some m.cls := findClass_of_methodNamed Bd.named
  have hnm := (name_of_methodNamed Bd.named Bd.method).1
  have X0 : Stand p l e own_andUU_R s m #[(.ref wU), (.ref wU)] below meth c s₁ [] 0 0 := Stand.of_body Bd
  have e0 : s₁.heap = h0 := by rw [← hh, Bd.state]; rfl
  show own_G p e below (own_P s (own_Q (.ref wU) h0) own_andUU_R.cells own_andUU_R.slots) (s₁.setTop (entryFrame m #[(.ref wU), (.ref wU)] 3))
  rw [own_andUU_ef m wU]
  show own_G p e below _ (s₁.setTop (mkF m 0 #[.val (.ref wU), .val (.ref wU), .unset] []))
  refine own_via (fun t k => XS.aloadN X0.here hx rfl (hb hby own_d2_0) rfl rfl k) ?_
  show own_G p e below _ (s₁.setTop (mkF m 1 #[.val (.ref wU), .val (.ref wU), .unset] [(.ref wU)]))
  obtain ⟨T1, X1, e1, st1⟩ := getS2 X0 hx hZ hown (host := "") (Or.inl (hw _ (List.mem_of_getElem? (i := 13) rfl))) Via.refl e0 i_S1 (g := (mkF m 1 #[.val (.ref wU), .val (.ref wU), .unset] [(.ref wU)])) rfl (hb hby own_d2_1)
  refine own_via st1 ?_
  show own_G p e below _ (T1.setTop (mkF m 4 #[.val (.ref wU), .val (.ref wU), .unset] [(.ref wF), (.ref wU)]))
  refine own_via (fun t k => Jvm.RoadKit.acmp (g := (mkF m 4 #[.val (.ref wU), .val (.ref wU), .unset] [(.ref wF), (.ref wU)])) X1 hx rfl rfl rfl (pc0 := 4) (pc' := 7) (same := false) rfl (hb hby own_d2_4) rfl (decide_eq_false fun q => (Ne.symm ne_wF_wU) (Value.ref.inj q)) (by decide) (by decide) k) ?_
  show own_G p e below _ (T1.setTop (mkF m 7 #[.val (.ref wU), .val (.ref wU), .unset] []))
  refine own_via (fun t k => XS.aloadN X1.here hx rfl (hb hby own_d2_7) rfl rfl k) ?_
  show own_G p e below _ (T1.setTop (mkF m 8 #[.val (.ref wU), .val (.ref wU), .unset] [(.ref wU)]))
  obtain ⟨T2, X2, e2, st2⟩ := getS2 X1 hx hZ hown (host := "") (Or.inl (hw _ (List.mem_of_getElem? (i := 13) rfl))) Via.refl e1 i_S1 (g := (mkF m 8 #[.val (.ref wU), .val (.ref wU), .unset] [(.ref wU)])) rfl (hb hby own_d2_8)
  refine own_via st2 ?_
  show own_G p e below _ (T2.setTop (mkF m 11 #[.val (.ref wU), .val (.ref wU), .unset] [(.ref wF), (.ref wU)]))
  refine own_via (fun t k => Jvm.RoadKit.acmp (g := (mkF m 11 #[.val (.ref wU), .val (.ref wU), .unset] [(.ref wF), (.ref wU)])) X2 hx rfl rfl rfl (pc0 := 11) (pc' := 21) (same := false) rfl (hb hby own_d2_11) rfl (decide_eq_false fun q => (Ne.symm ne_wF_wU) (Value.ref.inj q)) (by decide) (by decide) k) ?_
  show own_G p e below _ (T2.setTop (mkF m 21 #[.val (.ref wU), .val (.ref wU), .unset] []))
  refine own_via (fun t k => XS.aloadN X2.here hx rfl (hb hby own_d2_21) rfl rfl k) ?_
  show own_G p e below _ (T2.setTop (mkF m 22 #[.val (.ref wU), .val (.ref wU), .unset] [(.ref wU)]))
  obtain ⟨T3, X3, e3, st3⟩ := getS2 X2 hx hZ hown (host := "") (Or.inl (hw _ (List.mem_of_getElem? (i := 25) rfl))) Via.refl e2 i_S2 (g := (mkF m 22 #[.val (.ref wU), .val (.ref wU), .unset] [(.ref wU)])) rfl (hb hby own_d2_22)
  refine own_via st3 ?_
  show own_G p e below _ (T3.setTop (mkF m 25 #[.val (.ref wU), .val (.ref wU), .unset] [(.ref wU), (.ref wU)]))
  refine own_via (fun t k => Jvm.RoadKit.acmp (g := (mkF m 25 #[.val (.ref wU), .val (.ref wU), .unset] [(.ref wU), (.ref wU)])) X3 hx rfl rfl rfl (pc0 := 25) (pc' := 35) (same := true) rfl (hb hby own_d2_25) rfl (decide_eq_true rfl) (by decide) (by decide) k) ?_
  show own_G p e below _ (T3.setTop (mkF m 35 #[.val (.ref wU), .val (.ref wU), .unset] []))
  obtain ⟨T4, X4, e4, st4⟩ := getS2 X3 hx hZ hown (host := "") (Or.inl (hw _ (List.mem_of_getElem? (i := 25) rfl))) Via.refl e3 i_S2 (g := (mkF m 35 #[.val (.ref wU), .val (.ref wU), .unset] [])) rfl (hb hby own_d2_35)
  refine own_via st4 ?_
  show own_G p e below _ (T4.setTop (mkF m 38 #[.val (.ref wU), .val (.ref wU), .unset] [(.ref wU)]))
  refine own_via (fun t k => XS.astoreN X4.here hx rfl (hb hby own_d2_38) rfl rfl (l' := #[.val (.ref wU), .val (.ref wU), .val (.ref wU)]) rfl k) ?_
  show own_G p e below _ (T4.setTop (mkF m 39 #[.val (.ref wU), .val (.ref wU), .val (.ref wU)] []))
  refine own_via (fun t k => XS.goto X4.here hx rfl (pc0 := 39) (pc' := 46) rfl (hb hby own_d2_39) (by decide) (by decide) k) ?_
  show own_G p e below _ (T4.setTop (mkF m 46 #[.val (.ref wU), .val (.ref wU), .val (.ref wU)] []))
  refine own_via (fun t k => XS.aloadN X4.here hx rfl (hb hby own_d2_46) rfl rfl k) ?_
  show own_G p e below _ (T4.setTop (mkF m 47 #[.val (.ref wU), .val (.ref wU), .val (.ref wU)] [(.ref wU)]))
  exact own_retA X4 hx Bd.returns rfl rfl Bd.notSynchronized (hb hby own_d2_47) ⟨rfl, rfl, e4⟩ (by decide) (by decide)
abbrev own_andUT_R : Room := { frames := 0, cells := 0, slots := 0, locals := 0 }
theorem own_andUT_ef (m : MethodId) (wU : Addr) (wT : Addr) : entryFrame m #[(.ref wU), (.ref wT)] 3 = mkF m 0 #[.val (.ref wU), .val (.ref wT), .unset] [] := by first | (simp [entryFrame, mkF, argsToLocals, Value.category]; done) | rfl
set_option maxRecDepth 65536 in
set_option maxHeartbeats 40000000 in
theorem own_andUT (l : Launch) (Z : State) (a0 : Array Value) (hw : ∀ d ∈ tables_1, d.before a0 Z = true) (ws : List Jvm.Cond) (wU : Addr) (wT : Addr) (wF : Addr) (h0 : Heap)  (i_S1 : Sta Z h0 "com/example/clementi/clementi/query/Truth" "FALSE" "Lcom/example/clementi/clementi/query/Truth;" (.ref wF)) (i_S2 : Sta Z h0 "com/example/clementi/clementi/query/Truth" "UNKNOWN" "Lcom/example/clementi/clementi/query/Truth;" (.ref wU)) (i_S3 : Sta Z h0 "com/example/clementi/clementi/query/Truth" "TRUE" "Lcom/example/clementi/clementi/query/Truth;" (.ref wT)) (ne_wF_wU : wF ≠ wU) (ne_wF_wT : wF ≠ wT) (ne_wU_wT : wU ≠ wT) :
    own_C l Z (⟨"com/example/clementi/clementi/query/Truth", "and", "(Lcom/example/clementi/clementi/query/Truth;)Lcom/example/clementi/clementi/query/Truth;"⟩ : MethodName) prog_33_method_5_code 3 (some (.object "com/example/clementi/clementi/query/Truth")) ws own_andUT_R #[(.ref wU), (.ref wT)] h0 (own_Q (.ref wU) h0) := by
  refine MetFree.of_bodySF own_pn2 hisR ?_
  intro p e s m args below meth c s₁ Bd hml0 hP hK
  obtain ⟨rfl, hZ, hh⟩ := hP
  have hx := Bd.exec
  have hby := Bd.bytes
  have hml : c.maxLocals = 3 := hml0
  have hown : s.vm.findClass "com/example/clementi/clementi/query/Truth" = some m.cls := findClass_of_methodNamed Bd.named
  have hnm := (name_of_methodNamed Bd.named Bd.method).1
  have X0 : Stand p l e own_andUT_R s m #[(.ref wU), (.ref wT)] below meth c s₁ [] 0 0 := Stand.of_body Bd
  have e0 : s₁.heap = h0 := by rw [← hh, Bd.state]; rfl
  show own_G p e below (own_P s (own_Q (.ref wU) h0) own_andUT_R.cells own_andUT_R.slots) (s₁.setTop (entryFrame m #[(.ref wU), (.ref wT)] 3))
  rw [own_andUT_ef m wU wT]
  show own_G p e below _ (s₁.setTop (mkF m 0 #[.val (.ref wU), .val (.ref wT), .unset] []))
  refine own_via (fun t k => XS.aloadN X0.here hx rfl (hb hby own_d2_0) rfl rfl k) ?_
  show own_G p e below _ (s₁.setTop (mkF m 1 #[.val (.ref wU), .val (.ref wT), .unset] [(.ref wU)]))
  obtain ⟨T1, X1, e1, st1⟩ := getS2 X0 hx hZ hown (host := "") (Or.inl (hw _ (List.mem_of_getElem? (i := 13) rfl))) Via.refl e0 i_S1 (g := (mkF m 1 #[.val (.ref wU), .val (.ref wT), .unset] [(.ref wU)])) rfl (hb hby own_d2_1)
  refine own_via st1 ?_
  show own_G p e below _ (T1.setTop (mkF m 4 #[.val (.ref wU), .val (.ref wT), .unset] [(.ref wF), (.ref wU)]))
  refine own_via (fun t k => Jvm.RoadKit.acmp (g := (mkF m 4 #[.val (.ref wU), .val (.ref wT), .unset] [(.ref wF), (.ref wU)])) X1 hx rfl rfl rfl (pc0 := 4) (pc' := 7) (same := false) rfl (hb hby own_d2_4) rfl (decide_eq_false fun q => (Ne.symm ne_wF_wU) (Value.ref.inj q)) (by decide) (by decide) k) ?_
  show own_G p e below _ (T1.setTop (mkF m 7 #[.val (.ref wU), .val (.ref wT), .unset] []))
  refine own_via (fun t k => XS.aloadN X1.here hx rfl (hb hby own_d2_7) rfl rfl k) ?_
  show own_G p e below _ (T1.setTop (mkF m 8 #[.val (.ref wU), .val (.ref wT), .unset] [(.ref wT)]))
  obtain ⟨T2, X2, e2, st2⟩ := getS2 X1 hx hZ hown (host := "") (Or.inl (hw _ (List.mem_of_getElem? (i := 13) rfl))) Via.refl e1 i_S1 (g := (mkF m 8 #[.val (.ref wU), .val (.ref wT), .unset] [(.ref wT)])) rfl (hb hby own_d2_8)
  refine own_via st2 ?_
  show own_G p e below _ (T2.setTop (mkF m 11 #[.val (.ref wU), .val (.ref wT), .unset] [(.ref wF), (.ref wT)]))
  refine own_via (fun t k => Jvm.RoadKit.acmp (g := (mkF m 11 #[.val (.ref wU), .val (.ref wT), .unset] [(.ref wF), (.ref wT)])) X2 hx rfl rfl rfl (pc0 := 11) (pc' := 21) (same := false) rfl (hb hby own_d2_11) rfl (decide_eq_false fun q => (Ne.symm ne_wF_wT) (Value.ref.inj q)) (by decide) (by decide) k) ?_
  show own_G p e below _ (T2.setTop (mkF m 21 #[.val (.ref wU), .val (.ref wT), .unset] []))
  refine own_via (fun t k => XS.aloadN X2.here hx rfl (hb hby own_d2_21) rfl rfl k) ?_
  show own_G p e below _ (T2.setTop (mkF m 22 #[.val (.ref wU), .val (.ref wT), .unset] [(.ref wU)]))
  obtain ⟨T3, X3, e3, st3⟩ := getS2 X2 hx hZ hown (host := "") (Or.inl (hw _ (List.mem_of_getElem? (i := 25) rfl))) Via.refl e2 i_S2 (g := (mkF m 22 #[.val (.ref wU), .val (.ref wT), .unset] [(.ref wU)])) rfl (hb hby own_d2_22)
  refine own_via st3 ?_
  show own_G p e below _ (T3.setTop (mkF m 25 #[.val (.ref wU), .val (.ref wT), .unset] [(.ref wU), (.ref wU)]))
  refine own_via (fun t k => Jvm.RoadKit.acmp (g := (mkF m 25 #[.val (.ref wU), .val (.ref wT), .unset] [(.ref wU), (.ref wU)])) X3 hx rfl rfl rfl (pc0 := 25) (pc' := 35) (same := true) rfl (hb hby own_d2_25) rfl (decide_eq_true rfl) (by decide) (by decide) k) ?_
  show own_G p e below _ (T3.setTop (mkF m 35 #[.val (.ref wU), .val (.ref wT), .unset] []))
  obtain ⟨T4, X4, e4, st4⟩ := getS2 X3 hx hZ hown (host := "") (Or.inl (hw _ (List.mem_of_getElem? (i := 25) rfl))) Via.refl e3 i_S2 (g := (mkF m 35 #[.val (.ref wU), .val (.ref wT), .unset] [])) rfl (hb hby own_d2_35)
  refine own_via st4 ?_
  show own_G p e below _ (T4.setTop (mkF m 38 #[.val (.ref wU), .val (.ref wT), .unset] [(.ref wU)]))
  refine own_via (fun t k => XS.astoreN X4.here hx rfl (hb hby own_d2_38) rfl rfl (l' := #[.val (.ref wU), .val (.ref wT), .val (.ref wU)]) rfl k) ?_
  show own_G p e below _ (T4.setTop (mkF m 39 #[.val (.ref wU), .val (.ref wT), .val (.ref wU)] []))
  refine own_via (fun t k => XS.goto X4.here hx rfl (pc0 := 39) (pc' := 46) rfl (hb hby own_d2_39) (by decide) (by decide) k) ?_
  show own_G p e below _ (T4.setTop (mkF m 46 #[.val (.ref wU), .val (.ref wT), .val (.ref wU)] []))
  refine own_via (fun t k => XS.aloadN X4.here hx rfl (hb hby own_d2_46) rfl rfl k) ?_
  show own_G p e below _ (T4.setTop (mkF m 47 #[.val (.ref wU), .val (.ref wT), .val (.ref wU)] [(.ref wU)]))
  exact own_retA X4 hx Bd.returns rfl rfl Bd.notSynchronized (hb hby own_d2_47) ⟨rfl, rfl, e4⟩ (by decide) (by decide)
abbrev own_andTF_R : Room := { frames := 0, cells := 0, slots := 0, locals := 0 }
theorem own_andTF_ef (m : MethodId) (wT : Addr) (wF : Addr) : entryFrame m #[(.ref wT), (.ref wF)] 3 = mkF m 0 #[.val (.ref wT), .val (.ref wF), .unset] [] := by first | (simp [entryFrame, mkF, argsToLocals, Value.category]; done) | rfl
set_option maxRecDepth 65536 in
set_option maxHeartbeats 40000000 in
theorem own_andTF (l : Launch) (Z : State) (a0 : Array Value) (hw : ∀ d ∈ tables_1, d.before a0 Z = true) (ws : List Jvm.Cond) (wT : Addr) (wF : Addr) (wU : Addr) (h0 : Heap)  (i_S1 : Sta Z h0 "com/example/clementi/clementi/query/Truth" "FALSE" "Lcom/example/clementi/clementi/query/Truth;" (.ref wF)) (i_S2 : Sta Z h0 "com/example/clementi/clementi/query/Truth" "UNKNOWN" "Lcom/example/clementi/clementi/query/Truth;" (.ref wU)) (i_S3 : Sta Z h0 "com/example/clementi/clementi/query/Truth" "TRUE" "Lcom/example/clementi/clementi/query/Truth;" (.ref wT)) (ne_wF_wU : wF ≠ wU) (ne_wF_wT : wF ≠ wT) (ne_wU_wT : wU ≠ wT) :
    own_C l Z (⟨"com/example/clementi/clementi/query/Truth", "and", "(Lcom/example/clementi/clementi/query/Truth;)Lcom/example/clementi/clementi/query/Truth;"⟩ : MethodName) prog_33_method_5_code 3 (some (.object "com/example/clementi/clementi/query/Truth")) ws own_andTF_R #[(.ref wT), (.ref wF)] h0 (own_Q (.ref wF) h0) := by
  refine MetFree.of_bodySF own_pn2 hisR ?_
  intro p e s m args below meth c s₁ Bd hml0 hP hK
  obtain ⟨rfl, hZ, hh⟩ := hP
  have hx := Bd.exec
  have hby := Bd.bytes
  have hml : c.maxLocals = 3 := hml0
  have hown : s.vm.findClass "com/example/clementi/clementi/query/Truth" = some m.cls := findClass_of_methodNamed Bd.named
  have hnm := (name_of_methodNamed Bd.named Bd.method).1
  have X0 : Stand p l e own_andTF_R s m #[(.ref wT), (.ref wF)] below meth c s₁ [] 0 0 := Stand.of_body Bd
  have e0 : s₁.heap = h0 := by rw [← hh, Bd.state]; rfl
  show own_G p e below (own_P s (own_Q (.ref wF) h0) own_andTF_R.cells own_andTF_R.slots) (s₁.setTop (entryFrame m #[(.ref wT), (.ref wF)] 3))
  rw [own_andTF_ef m wT wF]
  show own_G p e below _ (s₁.setTop (mkF m 0 #[.val (.ref wT), .val (.ref wF), .unset] []))
  refine own_via (fun t k => XS.aloadN X0.here hx rfl (hb hby own_d2_0) rfl rfl k) ?_
  show own_G p e below _ (s₁.setTop (mkF m 1 #[.val (.ref wT), .val (.ref wF), .unset] [(.ref wT)]))
  obtain ⟨T1, X1, e1, st1⟩ := getS2 X0 hx hZ hown (host := "") (Or.inl (hw _ (List.mem_of_getElem? (i := 13) rfl))) Via.refl e0 i_S1 (g := (mkF m 1 #[.val (.ref wT), .val (.ref wF), .unset] [(.ref wT)])) rfl (hb hby own_d2_1)
  refine own_via st1 ?_
  show own_G p e below _ (T1.setTop (mkF m 4 #[.val (.ref wT), .val (.ref wF), .unset] [(.ref wF), (.ref wT)]))
  refine own_via (fun t k => Jvm.RoadKit.acmp (g := (mkF m 4 #[.val (.ref wT), .val (.ref wF), .unset] [(.ref wF), (.ref wT)])) X1 hx rfl rfl rfl (pc0 := 4) (pc' := 7) (same := false) rfl (hb hby own_d2_4) rfl (decide_eq_false fun q => (Ne.symm ne_wF_wT) (Value.ref.inj q)) (by decide) (by decide) k) ?_
  show own_G p e below _ (T1.setTop (mkF m 7 #[.val (.ref wT), .val (.ref wF), .unset] []))
  refine own_via (fun t k => XS.aloadN X1.here hx rfl (hb hby own_d2_7) rfl rfl k) ?_
  show own_G p e below _ (T1.setTop (mkF m 8 #[.val (.ref wT), .val (.ref wF), .unset] [(.ref wF)]))
  obtain ⟨T2, X2, e2, st2⟩ := getS2 X1 hx hZ hown (host := "") (Or.inl (hw _ (List.mem_of_getElem? (i := 13) rfl))) Via.refl e1 i_S1 (g := (mkF m 8 #[.val (.ref wT), .val (.ref wF), .unset] [(.ref wF)])) rfl (hb hby own_d2_8)
  refine own_via st2 ?_
  show own_G p e below _ (T2.setTop (mkF m 11 #[.val (.ref wT), .val (.ref wF), .unset] [(.ref wF), (.ref wF)]))
  refine own_via (fun t k => Jvm.RoadKit.acmp (g := (mkF m 11 #[.val (.ref wT), .val (.ref wF), .unset] [(.ref wF), (.ref wF)])) X2 hx rfl rfl rfl (pc0 := 11) (pc' := 14) (same := true) rfl (hb hby own_d2_11) rfl (decide_eq_true rfl) (by decide) (by decide) k) ?_
  show own_G p e below _ (T2.setTop (mkF m 14 #[.val (.ref wT), .val (.ref wF), .unset] []))
  obtain ⟨T3, X3, e3, st3⟩ := getS2 X2 hx hZ hown (host := "") (Or.inl (hw _ (List.mem_of_getElem? (i := 13) rfl))) Via.refl e2 i_S1 (g := (mkF m 14 #[.val (.ref wT), .val (.ref wF), .unset] [])) rfl (hb hby own_d2_14)
  refine own_via st3 ?_
  show own_G p e below _ (T3.setTop (mkF m 17 #[.val (.ref wT), .val (.ref wF), .unset] [(.ref wF)]))
  refine own_via (fun t k => XS.astoreN X3.here hx rfl (hb hby own_d2_17) rfl rfl (l' := #[.val (.ref wT), .val (.ref wF), .val (.ref wF)]) rfl k) ?_
  show own_G p e below _ (T3.setTop (mkF m 18 #[.val (.ref wT), .val (.ref wF), .val (.ref wF)] []))
  refine own_via (fun t k => XS.goto X3.here hx rfl (pc0 := 18) (pc' := 46) rfl (hb hby own_d2_18) (by decide) (by decide) k) ?_
  show own_G p e below _ (T3.setTop (mkF m 46 #[.val (.ref wT), .val (.ref wF), .val (.ref wF)] []))
  refine own_via (fun t k => XS.aloadN X3.here hx rfl (hb hby own_d2_46) rfl rfl k) ?_
  show own_G p e below _ (T3.setTop (mkF m 47 #[.val (.ref wT), .val (.ref wF), .val (.ref wF)] [(.ref wF)]))
  exact own_retA X3 hx Bd.returns rfl rfl Bd.notSynchronized (hb hby own_d2_47) ⟨rfl, rfl, e3⟩ (by decide) (by decide)
theorem own_d2_28 : decode prog_33_method_5_code 28 = .ok (.aload_n 1, 1) := by decide +kernel
theorem own_d2_29 : decode prog_33_method_5_code 29 = .ok (.getstatic 10, 3) := by decide +kernel
theorem own_d2_32 : decode prog_33_method_5_code 32 = .ok (.if_acmp .ne 10, 3) := by decide +kernel
abbrev own_andTU_R : Room := { frames := 0, cells := 0, slots := 0, locals := 0 }
theorem own_andTU_ef (m : MethodId) (wT : Addr) (wU : Addr) : entryFrame m #[(.ref wT), (.ref wU)] 3 = mkF m 0 #[.val (.ref wT), .val (.ref wU), .unset] [] := by first | (simp [entryFrame, mkF, argsToLocals, Value.category]; done) | rfl
set_option maxRecDepth 65536 in
set_option maxHeartbeats 40000000 in
theorem own_andTU (l : Launch) (Z : State) (a0 : Array Value) (hw : ∀ d ∈ tables_1, d.before a0 Z = true) (ws : List Jvm.Cond) (wT : Addr) (wU : Addr) (wF : Addr) (h0 : Heap)  (i_S1 : Sta Z h0 "com/example/clementi/clementi/query/Truth" "FALSE" "Lcom/example/clementi/clementi/query/Truth;" (.ref wF)) (i_S2 : Sta Z h0 "com/example/clementi/clementi/query/Truth" "UNKNOWN" "Lcom/example/clementi/clementi/query/Truth;" (.ref wU)) (i_S3 : Sta Z h0 "com/example/clementi/clementi/query/Truth" "TRUE" "Lcom/example/clementi/clementi/query/Truth;" (.ref wT)) (ne_wF_wU : wF ≠ wU) (ne_wF_wT : wF ≠ wT) (ne_wU_wT : wU ≠ wT) :
    own_C l Z (⟨"com/example/clementi/clementi/query/Truth", "and", "(Lcom/example/clementi/clementi/query/Truth;)Lcom/example/clementi/clementi/query/Truth;"⟩ : MethodName) prog_33_method_5_code 3 (some (.object "com/example/clementi/clementi/query/Truth")) ws own_andTU_R #[(.ref wT), (.ref wU)] h0 (own_Q (.ref wU) h0) := by
  refine MetFree.of_bodySF own_pn2 hisR ?_
  intro p e s m args below meth c s₁ Bd hml0 hP hK
  obtain ⟨rfl, hZ, hh⟩ := hP
  have hx := Bd.exec
  have hby := Bd.bytes
  have hml : c.maxLocals = 3 := hml0
  have hown : s.vm.findClass "com/example/clementi/clementi/query/Truth" = some m.cls := findClass_of_methodNamed Bd.named
  have hnm := (name_of_methodNamed Bd.named Bd.method).1
  have X0 : Stand p l e own_andTU_R s m #[(.ref wT), (.ref wU)] below meth c s₁ [] 0 0 := Stand.of_body Bd
  have e0 : s₁.heap = h0 := by rw [← hh, Bd.state]; rfl
  show own_G p e below (own_P s (own_Q (.ref wU) h0) own_andTU_R.cells own_andTU_R.slots) (s₁.setTop (entryFrame m #[(.ref wT), (.ref wU)] 3))
  rw [own_andTU_ef m wT wU]
  show own_G p e below _ (s₁.setTop (mkF m 0 #[.val (.ref wT), .val (.ref wU), .unset] []))
  refine own_via (fun t k => XS.aloadN X0.here hx rfl (hb hby own_d2_0) rfl rfl k) ?_
  show own_G p e below _ (s₁.setTop (mkF m 1 #[.val (.ref wT), .val (.ref wU), .unset] [(.ref wT)]))
  obtain ⟨T1, X1, e1, st1⟩ := getS2 X0 hx hZ hown (host := "") (Or.inl (hw _ (List.mem_of_getElem? (i := 13) rfl))) Via.refl e0 i_S1 (g := (mkF m 1 #[.val (.ref wT), .val (.ref wU), .unset] [(.ref wT)])) rfl (hb hby own_d2_1)
  refine own_via st1 ?_
  show own_G p e below _ (T1.setTop (mkF m 4 #[.val (.ref wT), .val (.ref wU), .unset] [(.ref wF), (.ref wT)]))
  refine own_via (fun t k => Jvm.RoadKit.acmp (g := (mkF m 4 #[.val (.ref wT), .val (.ref wU), .unset] [(.ref wF), (.ref wT)])) X1 hx rfl rfl rfl (pc0 := 4) (pc' := 7) (same := false) rfl (hb hby own_d2_4) rfl (decide_eq_false fun q => (Ne.symm ne_wF_wT) (Value.ref.inj q)) (by decide) (by decide) k) ?_
  show own_G p e below _ (T1.setTop (mkF m 7 #[.val (.ref wT), .val (.ref wU), .unset] []))
  refine own_via (fun t k => XS.aloadN X1.here hx rfl (hb hby own_d2_7) rfl rfl k) ?_
  show own_G p e below _ (T1.setTop (mkF m 8 #[.val (.ref wT), .val (.ref wU), .unset] [(.ref wU)]))
  obtain ⟨T2, X2, e2, st2⟩ := getS2 X1 hx hZ hown (host := "") (Or.inl (hw _ (List.mem_of_getElem? (i := 13) rfl))) Via.refl e1 i_S1 (g := (mkF m 8 #[.val (.ref wT), .val (.ref wU), .unset] [(.ref wU)])) rfl (hb hby own_d2_8)
  refine own_via st2 ?_
  show own_G p e below _ (T2.setTop (mkF m 11 #[.val (.ref wT), .val (.ref wU), .unset] [(.ref wF), (.ref wU)]))
  refine own_via (fun t k => Jvm.RoadKit.acmp (g := (mkF m 11 #[.val (.ref wT), .val (.ref wU), .unset] [(.ref wF), (.ref wU)])) X2 hx rfl rfl rfl (pc0 := 11) (pc' := 21) (same := false) rfl (hb hby own_d2_11) rfl (decide_eq_false fun q => (Ne.symm ne_wF_wU) (Value.ref.inj q)) (by decide) (by decide) k) ?_
  show own_G p e below _ (T2.setTop (mkF m 21 #[.val (.ref wT), .val (.ref wU), .unset] []))
  refine own_via (fun t k => XS.aloadN X2.here hx rfl (hb hby own_d2_21) rfl rfl k) ?_
  show own_G p e below _ (T2.setTop (mkF m 22 #[.val (.ref wT), .val (.ref wU), .unset] [(.ref wT)]))
  obtain ⟨T3, X3, e3, st3⟩ := getS2 X2 hx hZ hown (host := "") (Or.inl (hw _ (List.mem_of_getElem? (i := 25) rfl))) Via.refl e2 i_S2 (g := (mkF m 22 #[.val (.ref wT), .val (.ref wU), .unset] [(.ref wT)])) rfl (hb hby own_d2_22)
  refine own_via st3 ?_
  show own_G p e below _ (T3.setTop (mkF m 25 #[.val (.ref wT), .val (.ref wU), .unset] [(.ref wU), (.ref wT)]))
  refine own_via (fun t k => Jvm.RoadKit.acmp (g := (mkF m 25 #[.val (.ref wT), .val (.ref wU), .unset] [(.ref wU), (.ref wT)])) X3 hx rfl rfl rfl (pc0 := 25) (pc' := 28) (same := false) rfl (hb hby own_d2_25) rfl (decide_eq_false fun q => (Ne.symm ne_wU_wT) (Value.ref.inj q)) (by decide) (by decide) k) ?_
  show own_G p e below _ (T3.setTop (mkF m 28 #[.val (.ref wT), .val (.ref wU), .unset] []))
  refine own_via (fun t k => XS.aloadN X3.here hx rfl (hb hby own_d2_28) rfl rfl k) ?_
  show own_G p e below _ (T3.setTop (mkF m 29 #[.val (.ref wT), .val (.ref wU), .unset] [(.ref wU)]))
  obtain ⟨T4, X4, e4, st4⟩ := getS2 X3 hx hZ hown (host := "") (Or.inl (hw _ (List.mem_of_getElem? (i := 25) rfl))) Via.refl e3 i_S2 (g := (mkF m 29 #[.val (.ref wT), .val (.ref wU), .unset] [(.ref wU)])) rfl (hb hby own_d2_29)
  refine own_via st4 ?_
  show own_G p e below _ (T4.setTop (mkF m 32 #[.val (.ref wT), .val (.ref wU), .unset] [(.ref wU), (.ref wU)]))
  refine own_via (fun t k => Jvm.RoadKit.acmp (g := (mkF m 32 #[.val (.ref wT), .val (.ref wU), .unset] [(.ref wU), (.ref wU)])) X4 hx rfl rfl rfl (pc0 := 32) (pc' := 35) (same := true) rfl (hb hby own_d2_32) rfl (decide_eq_true rfl) (by decide) (by decide) k) ?_
  show own_G p e below _ (T4.setTop (mkF m 35 #[.val (.ref wT), .val (.ref wU), .unset] []))
  obtain ⟨T5, X5, e5, st5⟩ := getS2 X4 hx hZ hown (host := "") (Or.inl (hw _ (List.mem_of_getElem? (i := 25) rfl))) Via.refl e4 i_S2 (g := (mkF m 35 #[.val (.ref wT), .val (.ref wU), .unset] [])) rfl (hb hby own_d2_35)
  refine own_via st5 ?_
  show own_G p e below _ (T5.setTop (mkF m 38 #[.val (.ref wT), .val (.ref wU), .unset] [(.ref wU)]))
  refine own_via (fun t k => XS.astoreN X5.here hx rfl (hb hby own_d2_38) rfl rfl (l' := #[.val (.ref wT), .val (.ref wU), .val (.ref wU)]) rfl k) ?_
  show own_G p e below _ (T5.setTop (mkF m 39 #[.val (.ref wT), .val (.ref wU), .val (.ref wU)] []))
  refine own_via (fun t k => XS.goto X5.here hx rfl (pc0 := 39) (pc' := 46) rfl (hb hby own_d2_39) (by decide) (by decide) k) ?_
  show own_G p e below _ (T5.setTop (mkF m 46 #[.val (.ref wT), .val (.ref wU), .val (.ref wU)] []))
  refine own_via (fun t k => XS.aloadN X5.here hx rfl (hb hby own_d2_46) rfl rfl k) ?_
  show own_G p e below _ (T5.setTop (mkF m 47 #[.val (.ref wT), .val (.ref wU), .val (.ref wU)] [(.ref wU)]))
  exact own_retA X5 hx Bd.returns rfl rfl Bd.notSynchronized (hb hby own_d2_47) ⟨rfl, rfl, e5⟩ (by decide) (by decide)
theorem own_d2_42 : decode prog_33_method_5_code 42 = .ok (.getstatic 7, 3) := by decide +kernel
theorem own_d2_45 : decode prog_33_method_5_code 45 = .ok (.astore_n 2, 1) := by decide +kernel
abbrev own_andTT_R : Room := { frames := 0, cells := 0, slots := 0, locals := 0 }
theorem own_andTT_ef (m : MethodId) (wT : Addr) : entryFrame m #[(.ref wT), (.ref wT)] 3 = mkF m 0 #[.val (.ref wT), .val (.ref wT), .unset] [] := by first | (simp [entryFrame, mkF, argsToLocals, Value.category]; done) | rfl
set_option maxRecDepth 65536 in
set_option maxHeartbeats 40000000 in
theorem own_andTT (l : Launch) (Z : State) (a0 : Array Value) (hw : ∀ d ∈ tables_1, d.before a0 Z = true) (ws : List Jvm.Cond) (wT : Addr) (wF : Addr) (wU : Addr) (h0 : Heap)  (i_S1 : Sta Z h0 "com/example/clementi/clementi/query/Truth" "FALSE" "Lcom/example/clementi/clementi/query/Truth;" (.ref wF)) (i_S2 : Sta Z h0 "com/example/clementi/clementi/query/Truth" "UNKNOWN" "Lcom/example/clementi/clementi/query/Truth;" (.ref wU)) (i_S3 : Sta Z h0 "com/example/clementi/clementi/query/Truth" "TRUE" "Lcom/example/clementi/clementi/query/Truth;" (.ref wT)) (ne_wF_wU : wF ≠ wU) (ne_wF_wT : wF ≠ wT) (ne_wU_wT : wU ≠ wT) :
    own_C l Z (⟨"com/example/clementi/clementi/query/Truth", "and", "(Lcom/example/clementi/clementi/query/Truth;)Lcom/example/clementi/clementi/query/Truth;"⟩ : MethodName) prog_33_method_5_code 3 (some (.object "com/example/clementi/clementi/query/Truth")) ws own_andTT_R #[(.ref wT), (.ref wT)] h0 (own_Q (.ref wT) h0) := by
  refine MetFree.of_bodySF own_pn2 hisR ?_
  intro p e s m args below meth c s₁ Bd hml0 hP hK
  obtain ⟨rfl, hZ, hh⟩ := hP
  have hx := Bd.exec
  have hby := Bd.bytes
  have hml : c.maxLocals = 3 := hml0
  have hown : s.vm.findClass "com/example/clementi/clementi/query/Truth" = some m.cls := findClass_of_methodNamed Bd.named
  have hnm := (name_of_methodNamed Bd.named Bd.method).1
  have X0 : Stand p l e own_andTT_R s m #[(.ref wT), (.ref wT)] below meth c s₁ [] 0 0 := Stand.of_body Bd
  have e0 : s₁.heap = h0 := by rw [← hh, Bd.state]; rfl
  show own_G p e below (own_P s (own_Q (.ref wT) h0) own_andTT_R.cells own_andTT_R.slots) (s₁.setTop (entryFrame m #[(.ref wT), (.ref wT)] 3))
  rw [own_andTT_ef m wT]
  show own_G p e below _ (s₁.setTop (mkF m 0 #[.val (.ref wT), .val (.ref wT), .unset] []))
  refine own_via (fun t k => XS.aloadN X0.here hx rfl (hb hby own_d2_0) rfl rfl k) ?_
  show own_G p e below _ (s₁.setTop (mkF m 1 #[.val (.ref wT), .val (.ref wT), .unset] [(.ref wT)]))
  obtain ⟨T1, X1, e1, st1⟩ := getS2 X0 hx hZ hown (host := "") (Or.inl (hw _ (List.mem_of_getElem? (i := 13) rfl))) Via.refl e0 i_S1 (g := (mkF m 1 #[.val (.ref wT), .val (.ref wT), .unset] [(.ref wT)])) rfl (hb hby own_d2_1)
  refine own_via st1 ?_
  show own_G p e below _ (T1.setTop (mkF m 4 #[.val (.ref wT), .val (.ref wT), .unset] [(.ref wF), (.ref wT)]))
  refine own_via (fun t k => Jvm.RoadKit.acmp (g := (mkF m 4 #[.val (.ref wT), .val (.ref wT), .unset] [(.ref wF), (.ref wT)])) X1 hx rfl rfl rfl (pc0 := 4) (pc' := 7) (same := false) rfl (hb hby own_d2_4) rfl (decide_eq_false fun q => (Ne.symm ne_wF_wT) (Value.ref.inj q)) (by decide) (by decide) k) ?_
  show own_G p e below _ (T1.setTop (mkF m 7 #[.val (.ref wT), .val (.ref wT), .unset] []))
  refine own_via (fun t k => XS.aloadN X1.here hx rfl (hb hby own_d2_7) rfl rfl k) ?_
  show own_G p e below _ (T1.setTop (mkF m 8 #[.val (.ref wT), .val (.ref wT), .unset] [(.ref wT)]))
  obtain ⟨T2, X2, e2, st2⟩ := getS2 X1 hx hZ hown (host := "") (Or.inl (hw _ (List.mem_of_getElem? (i := 13) rfl))) Via.refl e1 i_S1 (g := (mkF m 8 #[.val (.ref wT), .val (.ref wT), .unset] [(.ref wT)])) rfl (hb hby own_d2_8)
  refine own_via st2 ?_
  show own_G p e below _ (T2.setTop (mkF m 11 #[.val (.ref wT), .val (.ref wT), .unset] [(.ref wF), (.ref wT)]))
  refine own_via (fun t k => Jvm.RoadKit.acmp (g := (mkF m 11 #[.val (.ref wT), .val (.ref wT), .unset] [(.ref wF), (.ref wT)])) X2 hx rfl rfl rfl (pc0 := 11) (pc' := 21) (same := false) rfl (hb hby own_d2_11) rfl (decide_eq_false fun q => (Ne.symm ne_wF_wT) (Value.ref.inj q)) (by decide) (by decide) k) ?_
  show own_G p e below _ (T2.setTop (mkF m 21 #[.val (.ref wT), .val (.ref wT), .unset] []))
  refine own_via (fun t k => XS.aloadN X2.here hx rfl (hb hby own_d2_21) rfl rfl k) ?_
  show own_G p e below _ (T2.setTop (mkF m 22 #[.val (.ref wT), .val (.ref wT), .unset] [(.ref wT)]))
  obtain ⟨T3, X3, e3, st3⟩ := getS2 X2 hx hZ hown (host := "") (Or.inl (hw _ (List.mem_of_getElem? (i := 25) rfl))) Via.refl e2 i_S2 (g := (mkF m 22 #[.val (.ref wT), .val (.ref wT), .unset] [(.ref wT)])) rfl (hb hby own_d2_22)
  refine own_via st3 ?_
  show own_G p e below _ (T3.setTop (mkF m 25 #[.val (.ref wT), .val (.ref wT), .unset] [(.ref wU), (.ref wT)]))
  refine own_via (fun t k => Jvm.RoadKit.acmp (g := (mkF m 25 #[.val (.ref wT), .val (.ref wT), .unset] [(.ref wU), (.ref wT)])) X3 hx rfl rfl rfl (pc0 := 25) (pc' := 28) (same := false) rfl (hb hby own_d2_25) rfl (decide_eq_false fun q => (Ne.symm ne_wU_wT) (Value.ref.inj q)) (by decide) (by decide) k) ?_
  show own_G p e below _ (T3.setTop (mkF m 28 #[.val (.ref wT), .val (.ref wT), .unset] []))
  refine own_via (fun t k => XS.aloadN X3.here hx rfl (hb hby own_d2_28) rfl rfl k) ?_
  show own_G p e below _ (T3.setTop (mkF m 29 #[.val (.ref wT), .val (.ref wT), .unset] [(.ref wT)]))
  obtain ⟨T4, X4, e4, st4⟩ := getS2 X3 hx hZ hown (host := "") (Or.inl (hw _ (List.mem_of_getElem? (i := 25) rfl))) Via.refl e3 i_S2 (g := (mkF m 29 #[.val (.ref wT), .val (.ref wT), .unset] [(.ref wT)])) rfl (hb hby own_d2_29)
  refine own_via st4 ?_
  show own_G p e below _ (T4.setTop (mkF m 32 #[.val (.ref wT), .val (.ref wT), .unset] [(.ref wU), (.ref wT)]))
  refine own_via (fun t k => Jvm.RoadKit.acmp (g := (mkF m 32 #[.val (.ref wT), .val (.ref wT), .unset] [(.ref wU), (.ref wT)])) X4 hx rfl rfl rfl (pc0 := 32) (pc' := 42) (same := false) rfl (hb hby own_d2_32) rfl (decide_eq_false fun q => (Ne.symm ne_wU_wT) (Value.ref.inj q)) (by decide) (by decide) k) ?_
  show own_G p e below _ (T4.setTop (mkF m 42 #[.val (.ref wT), .val (.ref wT), .unset] []))
  obtain ⟨T5, X5, e5, st5⟩ := getS2 X4 hx hZ hown (host := "") (Or.inl (hw _ (List.mem_of_getElem? (i := 26) rfl))) Via.refl e4 i_S3 (g := (mkF m 42 #[.val (.ref wT), .val (.ref wT), .unset] [])) rfl (hb hby own_d2_42)
  refine own_via st5 ?_
  show own_G p e below _ (T5.setTop (mkF m 45 #[.val (.ref wT), .val (.ref wT), .unset] [(.ref wT)]))
  refine own_via (fun t k => XS.astoreN X5.here hx rfl (hb hby own_d2_45) rfl rfl (l' := #[.val (.ref wT), .val (.ref wT), .val (.ref wT)]) rfl k) ?_
  show own_G p e below _ (T5.setTop (mkF m 46 #[.val (.ref wT), .val (.ref wT), .val (.ref wT)] []))
  refine own_via (fun t k => XS.aloadN X5.here hx rfl (hb hby own_d2_46) rfl rfl k) ?_
  show own_G p e below _ (T5.setTop (mkF m 47 #[.val (.ref wT), .val (.ref wT), .val (.ref wT)] [(.ref wT)]))
  exact own_retA X5 hx Bd.returns rfl rfl Bd.notSynchronized (hb hby own_d2_47) ⟨rfl, rfl, e5⟩ (by decide) (by decide)
theorem own_pn0 : plainFor x = true := plainFor_of_name (by first | (simp [plainName, overriddenIn]; done) | decide +kernel)
theorem own_rm0_ef (m : MethodId) (p0 : Int32) (p1 : Int32) : entryFrame m #[(.int p0), (.int p1)] maxLocals = mkF m 0 #[.val (.int p0), .val (.int p1), .unset, .unset, .unset, .unset] [] := by first | (simp [entryFrame, mkF, argsToLocals, Value.category, maxLocals]; done) | rfl
set_option maxRecDepth 65536 in
set_option maxHeartbeats 40000000 in
theorem own_rm0 (l : Launch) (Z : State) (a0 : Array Value) (hw : ∀ d ∈ tables_1, d.before a0 Z = true) (ws : List Jvm.Cond) (p0 : Int32) (p1 : Int32) (wF : Addr) (wU : Addr) (wT : Addr) (h0 : Heap) (n0 : Nat) (Z0 : n0 ≤ h0.size) (i_S1 : Sta Z h0 "com/example/clementi/clementi/query/Truth" "FALSE" "Lcom/example/clementi/clementi/query/Truth;" (.ref wF)) (i_S2 : Sta Z h0 "com/example/clementi/clementi/query/Truth" "UNKNOWN" "Lcom/example/clementi/clementi/query/Truth;" (.ref wU)) (i_S3 : Sta Z h0 "com/example/clementi/clementi/query/Truth" "TRUE" "Lcom/example/clementi/clementi/query/Truth;" (.ref wT)) (i_E1 : Exa Z h0 wF "com/example/clementi/clementi/query/Truth") (i_E2 : Exa Z h0 wU "com/example/clementi/clementi/query/Truth") (i_E3 : Exa Z h0 wT "com/example/clementi/clementi/query/Truth") (ne_wF_wU : wF ≠ wU) (ne_wF_wT : wF ≠ wT) (ne_wU_wT : wU ≠ wT) :
    own_C l Z x code maxLocals ret ws room_1 #[(.int p0), (.int p1)] h0 (own_W n0 (fun v _ => v = some (.int 1))) := by
  refine MetFree.of_bodySF own_pn0 hisR ?_
  intro p e s m args below meth c s₁ Bd hml0 hP hK
  obtain ⟨rfl, hZ, hh⟩ := hP
  have hx := Bd.exec
  have hby := Bd.bytes
  have hml : c.maxLocals = 6 := hml0
  have hown : s.vm.findClass "com/example/clementi/clementi/query/TruthAndPinLaw" = some m.cls := findClass_of_methodNamed Bd.named
  have hnm := (name_of_methodNamed Bd.named Bd.method).1
  have X0 : Stand p l e room_1 s m #[(.int p0), (.int p1)] below meth c s₁ [] 0 0 := Stand.of_body Bd
  have e0 : s₁.heap = h0 := by rw [← hh, Bd.state]; rfl
  have N0 := Fr.nil n0
  show own_G p e below (own_P s (own_W n0 (fun v _ => v = some (.int 1))) room_1.cells room_1.slots) (s₁.setTop (entryFrame m #[(.int p0), (.int p1)] maxLocals))
  rw [own_rm0_ef m p0 p1]
  show own_G p e below _ (s₁.setTop (mkF m 0 #[.val (.int p0), .val (.int p1), .unset, .unset, .unset, .unset] []))
  refine own_via (fun t k => XS.iloadN X0.here hx rfl (hb hby at_0) rfl k) ?_
  show own_G p e below _ (s₁.setTop (mkF m 1 #[.val (.int p0), .val (.int p1), .unset, .unset, .unset, .unset] [(.int p0)]))
  by_cases hc1 : ((p0 &&& (2147483647 : Int32)) - ((p0 &&& (2147483647 : Int32)) / (3 : Int32)) * (3 : Int32)) = (0 : Int32)
  ·
    show own_G p e below _ (s₁.setTop (mkF m 1 #[.val (.int p0), .val (.int p1), .unset, .unset, .unset, .unset] [(.int p0)]))
    obtain ⟨T2, X2, e2, st2⟩ := own_callP (y := (⟨"com/example/clementi/clementi/query/TruthAndPinLaw", "pick", "(I)Lcom/example/clementi/clementi/query/Truth;"⟩ : MethodName)) (W := 0) X0 hx hZ hown (hw _ (List.mem_of_getElem? (i := 0) rfl)) (hw _ (List.mem_of_getElem? (i := 1) rfl)) (hw _ (List.mem_of_getElem? (i := 2) rfl)) (hw _ (List.mem_of_getElem? (i := 3) rfl)) (by decide) (own_pickF l Z a0 hw [] p0 wF wU wT h0 i_S1 i_S2 i_S3 hc1) (by decide) (by decide) rfl rfl (by decide) (by decide) e0 (pc := 1) (Ls := #[.val (.int p0), .val (.int p1), .unset, .unset, .unset, .unset]) (st := [(.int p0)]) (argsL := [(.int p0)]) (rest := []) (by rw [hml]; rfl) (lenOf own_pd0 rfl) rfl rfl (Nat.le_of_eq rfl) (hb hby at_1)
    refine own_via st2 ?_
    show own_G p e below _ (T2.setTop (mkF m 4 #[.val (.int p0), .val (.int p1), .unset, .unset, .unset, .unset] [(.ref wF)]))
    refine own_via (fun t k => XS.astoreN X2.here hx rfl (hb hby at_4) rfl rfl (l' := #[.val (.int p0), .val (.int p1), .val (.ref wF), .unset, .unset, .unset]) rfl k) ?_
    show own_G p e below _ (T2.setTop (mkF m 5 #[.val (.int p0), .val (.int p1), .val (.ref wF), .unset, .unset, .unset] []))
    refine own_via (fun t k => XS.iloadN X2.here hx rfl (hb hby at_5) rfl k) ?_
    show own_G p e below _ (T2.setTop (mkF m 6 #[.val (.int p0), .val (.int p1), .val (.ref wF), .unset, .unset, .unset] [(.int p1)]))
    by_cases hc3 : ((p1 &&& (2147483647 : Int32)) - ((p1 &&& (2147483647 : Int32)) / (3 : Int32)) * (3 : Int32)) = (0 : Int32)
    ·
      show own_G p e below _ (T2.setTop (mkF m 6 #[.val (.int p0), .val (.int p1), .val (.ref wF), .unset, .unset, .unset] [(.int p1)]))
      obtain ⟨T4, X4, e4, st4⟩ := own_callP (y := (⟨"com/example/clementi/clementi/query/TruthAndPinLaw", "pick", "(I)Lcom/example/clementi/clementi/query/Truth;"⟩ : MethodName)) (W := 0) X2 hx hZ hown (hw _ (List.mem_of_getElem? (i := 0) rfl)) (hw _ (List.mem_of_getElem? (i := 1) rfl)) (hw _ (List.mem_of_getElem? (i := 2) rfl)) (hw _ (List.mem_of_getElem? (i := 3) rfl)) (by decide) (own_pickF l Z a0 hw [] p1 wF wU wT h0 i_S1 i_S2 i_S3 hc3) (by decide) (by decide) rfl rfl (by decide) (by decide) e2 (pc := 6) (Ls := #[.val (.int p0), .val (.int p1), .val (.ref wF), .unset, .unset, .unset]) (st := [(.int p1)]) (argsL := [(.int p1)]) (rest := []) (by rw [hml]; rfl) (lenOf own_pd0 rfl) rfl rfl (Nat.le_of_eq rfl) (hb hby at_6)
      refine own_via st4 ?_
      show own_G p e below _ (T4.setTop (mkF m 9 #[.val (.int p0), .val (.int p1), .val (.ref wF), .unset, .unset, .unset] [(.ref wF)]))
      refine own_via (fun t k => XS.astoreN X4.here hx rfl (hb hby at_9) rfl rfl (l' := #[.val (.int p0), .val (.int p1), .val (.ref wF), .val (.ref wF), .unset, .unset]) rfl k) ?_
      show own_G p e below _ (T4.setTop (mkF m 10 #[.val (.int p0), .val (.int p1), .val (.ref wF), .val (.ref wF), .unset, .unset] []))
      refine own_via (fun t k => XS.aloadN X4.here hx rfl (hb hby at_10) rfl rfl k) ?_
      show own_G p e below _ (T4.setTop (mkF m 11 #[.val (.int p0), .val (.int p1), .val (.ref wF), .val (.ref wF), .unset, .unset] [(.ref wF)]))
      refine own_via (fun t k => XS.aloadN X4.here hx rfl (hb hby at_11) rfl rfl k) ?_
      show own_G p e below _ (T4.setTop (mkF m 12 #[.val (.int p0), .val (.int p1), .val (.ref wF), .val (.ref wF), .unset, .unset] [(.ref wF), (.ref wF)]))
      obtain ⟨T5, X5, e5, st5⟩ := own_callVP (y := (⟨"com/example/clementi/clementi/query/Truth", "and", "(Lcom/example/clementi/clementi/query/Truth;)Lcom/example/clementi/clementi/query/Truth;"⟩ : MethodName)) (z := (⟨"com/example/clementi/clementi/query/Truth", "and", "(Lcom/example/clementi/clementi/query/Truth;)Lcom/example/clementi/clementi/query/Truth;"⟩ : MethodName)) (W := 0) (a := wF) X4 hx hZ hown (hw _ (List.mem_of_getElem? (i := 8) rfl)) (hw _ (List.mem_of_getElem? (i := 9) rfl)) (notFace_of_selects (args := #[]) (mvT hZ (hw _ (List.mem_of_getElem? (i := 11) rfl)))) (hw _ (List.mem_of_getElem? (i := 11) rfl)) (hw _ (List.mem_of_getElem? (i := 10) rfl)) (hw _ (List.mem_of_getElem? (i := 6) rfl)) (hw _ (List.mem_of_getElem? (i := 12) rfl)) (by decide) (own_andFF l Z a0 hw [] wF wU wT h0 i_S1 i_S2 i_S3 ne_wF_wU ne_wF_wT ne_wU_wT) (by decide) (by decide) rfl rfl (by decide) (by decide) e4 i_E1 (pc := 12) (Ls := #[.val (.int p0), .val (.int p1), .val (.ref wF), .val (.ref wF), .unset, .unset]) (st := [(.ref wF), (.ref wF)]) (argsL := [(.ref wF)]) (rest := []) (by rw [hml]; rfl) (lenOf own_pd1 rfl) rfl rfl (Nat.le_of_eq rfl) (hb hby at_12)
      refine own_via st5 ?_
      show own_G p e below _ (T5.setTop (mkF m 15 #[.val (.int p0), .val (.int p1), .val (.ref wF), .val (.ref wF), .unset, .unset] [(.ref wF)]))
      refine own_via (fun t k => XS.astore X5.here hx rfl (hb hby at_15) rfl rfl (l' := #[.val (.int p0), .val (.int p1), .val (.ref wF), .val (.ref wF), .val (.ref wF), .unset]) rfl k) ?_
      show own_G p e below _ (T5.setTop (mkF m 17 #[.val (.int p0), .val (.int p1), .val (.ref wF), .val (.ref wF), .val (.ref wF), .unset] []))
      refine own_via (fun t k => XS.aloadN X5.here hx rfl (hb hby at_17) rfl rfl k) ?_
      show own_G p e below _ (T5.setTop (mkF m 18 #[.val (.int p0), .val (.int p1), .val (.ref wF), .val (.ref wF), .val (.ref wF), .unset] [(.ref wF)]))
      obtain ⟨T6, X6, e6, st6⟩ := own_callP (y := (⟨"com/example/clementi/clementi/query/TruthAndPinLaw", "rank", "(Lcom/example/clementi/clementi/query/Truth;)I"⟩ : MethodName)) (W := 0) X5 hx hZ hown (hw _ (List.mem_of_getElem? (i := 14) rfl)) (hw _ (List.mem_of_getElem? (i := 15) rfl)) (hw _ (List.mem_of_getElem? (i := 2) rfl)) (hw _ (List.mem_of_getElem? (i := 16) rfl)) (by decide) (own_rankF l Z a0 hw [] wF wU wT h0 i_S1 i_S2 i_S3 ne_wF_wU ne_wF_wT ne_wU_wT) (by decide) (by decide) rfl rfl (by decide) (by decide) e5 (pc := 18) (Ls := #[.val (.int p0), .val (.int p1), .val (.ref wF), .val (.ref wF), .val (.ref wF), .unset]) (st := [(.ref wF)]) (argsL := [(.ref wF)]) (rest := []) (by rw [hml]; rfl) (lenOf own_pd2 rfl) rfl rfl (Nat.le_of_eq rfl) (hb hby at_18)
      refine own_via st6 ?_
      show own_G p e below _ (T6.setTop (mkF m 21 #[.val (.int p0), .val (.int p1), .val (.ref wF), .val (.ref wF), .val (.ref wF), .unset] [(.int (0 : Int32))]))
      refine own_via (fun t k => XS.aloadN X6.here hx rfl (hb hby at_21) rfl rfl k) ?_
      show own_G p e below _ (T6.setTop (mkF m 22 #[.val (.int p0), .val (.int p1), .val (.ref wF), .val (.ref wF), .val (.ref wF), .unset] [(.ref wF), (.int (0 : Int32))]))
      obtain ⟨T7, X7, e7, st7⟩ := own_callP (y := (⟨"com/example/clementi/clementi/query/TruthAndPinLaw", "rank", "(Lcom/example/clementi/clementi/query/Truth;)I"⟩ : MethodName)) (W := 1) X6 hx hZ hown (hw _ (List.mem_of_getElem? (i := 14) rfl)) (hw _ (List.mem_of_getElem? (i := 15) rfl)) (hw _ (List.mem_of_getElem? (i := 2) rfl)) (hw _ (List.mem_of_getElem? (i := 16) rfl)) (by decide) (own_rankF l Z a0 hw [] wF wU wT h0 i_S1 i_S2 i_S3 ne_wF_wU ne_wF_wT ne_wU_wT) (by decide) (by decide) rfl rfl (by decide) (by decide) e6 (pc := 22) (Ls := #[.val (.int p0), .val (.int p1), .val (.ref wF), .val (.ref wF), .val (.ref wF), .unset]) (st := [(.ref wF), (.int (0 : Int32))]) (argsL := [(.ref wF)]) (rest := [(.int (0 : Int32))]) (by rw [hml]; rfl) (lenOf own_pd2 rfl) rfl rfl (Nat.le_of_eq rfl) (hb hby at_22)
      refine own_via st7 ?_
      show own_G p e below _ (T7.setTop (mkF m 25 #[.val (.int p0), .val (.int p1), .val (.ref wF), .val (.ref wF), .val (.ref wF), .unset] [(.int (0 : Int32)), (.int (0 : Int32))]))
      obtain ⟨T8, X8, e8, st8⟩ := own_callP (y := (⟨"java/lang/Math", "min", "(II)I"⟩ : MethodName)) (W := 0) X7 hx hZ hown (hw _ (List.mem_of_getElem? (i := 17) rfl)) (hw _ (List.mem_of_getElem? (i := 18) rfl)) (hw _ (List.mem_of_getElem? (i := 19) rfl)) (hw _ (List.mem_of_getElem? (i := 20) rfl)) (by decide) (own_rm4 l Z a0 hw [] (0 : Int32) (0 : Int32) h0) (by decide) (by decide) rfl rfl (by decide) (by decide) e7 (pc := 25) (Ls := #[.val (.int p0), .val (.int p1), .val (.ref wF), .val (.ref wF), .val (.ref wF), .unset]) (st := [(.int (0 : Int32)), (.int (0 : Int32))]) (argsL := [(.int (0 : Int32)), (.int (0 : Int32))]) (rest := []) (by rw [hml]; rfl) (lenOf own_pd3 rfl) rfl rfl (Nat.le_of_eq rfl) (hb hby at_25)
      refine own_via st8 ?_
      show own_G p e below _ (T8.setTop (mkF m 28 #[.val (.int p0), .val (.int p1), .val (.ref wF), .val (.ref wF), .val (.ref wF), .unset] [(.int (own_F4 (0 : Int32) (0 : Int32)))]))
      rw [show (own_F4 (0 : Int32) (0 : Int32)) = (0 : Int32) from by decide]
      show own_G p e below _ (T8.setTop (mkF m 28 #[.val (.int p0), .val (.int p1), .val (.ref wF), .val (.ref wF), .val (.ref wF), .unset] [(.int (0 : Int32))]))
      refine own_via (fun t k => XS.istore X8.here hx rfl (hb hby at_28) rfl (l' := #[.val (.int p0), .val (.int p1), .val (.ref wF), .val (.ref wF), .val (.ref wF), .val (.int (0 : Int32))]) rfl k) ?_
      show own_G p e below _ (T8.setTop (mkF m 30 #[.val (.int p0), .val (.int p1), .val (.ref wF), .val (.ref wF), .val (.ref wF), .val (.int (0 : Int32))] []))
      refine own_via (fun t k => XS.aload X8.here hx rfl (hb hby at_30) rfl rfl k) ?_
      show own_G p e below _ (T8.setTop (mkF m 32 #[.val (.int p0), .val (.int p1), .val (.ref wF), .val (.ref wF), .val (.ref wF), .val (.int (0 : Int32))] [(.ref wF)]))
      obtain ⟨T9, X9, e9, st9⟩ := own_callP (y := (⟨"com/example/clementi/clementi/query/TruthAndPinLaw", "rank", "(Lcom/example/clementi/clementi/query/Truth;)I"⟩ : MethodName)) (W := 0) X8 hx hZ hown (hw _ (List.mem_of_getElem? (i := 14) rfl)) (hw _ (List.mem_of_getElem? (i := 15) rfl)) (hw _ (List.mem_of_getElem? (i := 2) rfl)) (hw _ (List.mem_of_getElem? (i := 16) rfl)) (by decide) (own_rankF l Z a0 hw [] wF wU wT h0 i_S1 i_S2 i_S3 ne_wF_wU ne_wF_wT ne_wU_wT) (by decide) (by decide) rfl rfl (by decide) (by decide) e8 (pc := 32) (Ls := #[.val (.int p0), .val (.int p1), .val (.ref wF), .val (.ref wF), .val (.ref wF), .val (.int (0 : Int32))]) (st := [(.ref wF)]) (argsL := [(.ref wF)]) (rest := []) (by rw [hml]; rfl) (lenOf own_pd2 rfl) rfl rfl (Nat.le_of_eq rfl) (hb hby at_32)
      refine own_via st9 ?_
      show own_G p e below _ (T9.setTop (mkF m 35 #[.val (.int p0), .val (.int p1), .val (.ref wF), .val (.ref wF), .val (.ref wF), .val (.int (0 : Int32))] [(.int (0 : Int32))]))
      refine own_via (fun t k => XS.iload X9.here hx rfl (hb hby at_35) rfl k) ?_
      show own_G p e below _ (T9.setTop (mkF m 37 #[.val (.int p0), .val (.int p1), .val (.ref wF), .val (.ref wF), .val (.ref wF), .val (.int (0 : Int32))] [(.int (0 : Int32)), (.int (0 : Int32))]))
      refine own_via (fun t k => XS.icmpNo X9.here hx rfl (hb hby at_37) rfl (teq (by decide : (0 : Int32) = (0 : Int32))).2 k) ?_
      show own_G p e below _ (T9.setTop (mkF m 40 #[.val (.int p0), .val (.int p1), .val (.ref wF), .val (.ref wF), .val (.ref wF), .val (.int (0 : Int32))] []))
      refine own_via (fun t k => XS.iconst X9.here hx rfl (hb hby at_40) k) ?_
      show own_G p e below _ (T9.setTop (mkF m 41 #[.val (.int p0), .val (.int p1), .val (.ref wF), .val (.ref wF), .val (.ref wF), .val (.int (0 : Int32))] [(.int (1 : Int32))]))
      refine own_via (fun t k => XS.goto X9.here hx rfl (pc0 := 41) (pc' := 45) rfl (hb hby at_41) (by decide) (by decide) k) ?_
      show own_G p e below _ (T9.setTop (mkF m 45 #[.val (.int p0), .val (.int p1), .val (.ref wF), .val (.ref wF), .val (.ref wF), .val (.int (0 : Int32))] [(.int (1 : Int32))]))
      exact own_retN (t := .boolean) X9 hx Bd.returns (by simp) Bd.notSynchronized (hb hby at_45) ⟨N0, rfl⟩ (by decide) (by decide)
    ·
      show own_G p e below _ (T2.setTop (mkF m 6 #[.val (.int p0), .val (.int p1), .val (.ref wF), .unset, .unset, .unset] [(.int p1)]))
      by_cases hc10 : ((p1 &&& (2147483647 : Int32)) - ((p1 &&& (2147483647 : Int32)) / (3 : Int32)) * (3 : Int32)) = (1 : Int32)
      ·
        show own_G p e below _ (T2.setTop (mkF m 6 #[.val (.int p0), .val (.int p1), .val (.ref wF), .unset, .unset, .unset] [(.int p1)]))
        obtain ⟨T11, X11, e11, st11⟩ := own_callP (y := (⟨"com/example/clementi/clementi/query/TruthAndPinLaw", "pick", "(I)Lcom/example/clementi/clementi/query/Truth;"⟩ : MethodName)) (W := 0) X2 hx hZ hown (hw _ (List.mem_of_getElem? (i := 0) rfl)) (hw _ (List.mem_of_getElem? (i := 1) rfl)) (hw _ (List.mem_of_getElem? (i := 2) rfl)) (hw _ (List.mem_of_getElem? (i := 3) rfl)) (by decide) (own_pickU l Z a0 hw [] p1 wF wU wT h0 i_S1 i_S2 i_S3 hc3 hc10) (by decide) (by decide) rfl rfl (by decide) (by decide) e2 (pc := 6) (Ls := #[.val (.int p0), .val (.int p1), .val (.ref wF), .unset, .unset, .unset]) (st := [(.int p1)]) (argsL := [(.int p1)]) (rest := []) (by rw [hml]; rfl) (lenOf own_pd0 rfl) rfl rfl (Nat.le_of_eq rfl) (hb hby at_6)
        refine own_via st11 ?_
        show own_G p e below _ (T11.setTop (mkF m 9 #[.val (.int p0), .val (.int p1), .val (.ref wF), .unset, .unset, .unset] [(.ref wU)]))
        refine own_via (fun t k => XS.astoreN X11.here hx rfl (hb hby at_9) rfl rfl (l' := #[.val (.int p0), .val (.int p1), .val (.ref wF), .val (.ref wU), .unset, .unset]) rfl k) ?_
        show own_G p e below _ (T11.setTop (mkF m 10 #[.val (.int p0), .val (.int p1), .val (.ref wF), .val (.ref wU), .unset, .unset] []))
        refine own_via (fun t k => XS.aloadN X11.here hx rfl (hb hby at_10) rfl rfl k) ?_
        show own_G p e below _ (T11.setTop (mkF m 11 #[.val (.int p0), .val (.int p1), .val (.ref wF), .val (.ref wU), .unset, .unset] [(.ref wF)]))
        refine own_via (fun t k => XS.aloadN X11.here hx rfl (hb hby at_11) rfl rfl k) ?_
        show own_G p e below _ (T11.setTop (mkF m 12 #[.val (.int p0), .val (.int p1), .val (.ref wF), .val (.ref wU), .unset, .unset] [(.ref wU), (.ref wF)]))
        obtain ⟨T12, X12, e12, st12⟩ := own_callVP (y := (⟨"com/example/clementi/clementi/query/Truth", "and", "(Lcom/example/clementi/clementi/query/Truth;)Lcom/example/clementi/clementi/query/Truth;"⟩ : MethodName)) (z := (⟨"com/example/clementi/clementi/query/Truth", "and", "(Lcom/example/clementi/clementi/query/Truth;)Lcom/example/clementi/clementi/query/Truth;"⟩ : MethodName)) (W := 0) (a := wF) X11 hx hZ hown (hw _ (List.mem_of_getElem? (i := 8) rfl)) (hw _ (List.mem_of_getElem? (i := 9) rfl)) (notFace_of_selects (args := #[]) (mvT hZ (hw _ (List.mem_of_getElem? (i := 11) rfl)))) (hw _ (List.mem_of_getElem? (i := 11) rfl)) (hw _ (List.mem_of_getElem? (i := 10) rfl)) (hw _ (List.mem_of_getElem? (i := 6) rfl)) (hw _ (List.mem_of_getElem? (i := 12) rfl)) (by decide) (own_andFU l Z a0 hw [] wF wU wT h0 i_S1 i_S2 i_S3 ne_wF_wU ne_wF_wT ne_wU_wT) (by decide) (by decide) rfl rfl (by decide) (by decide) e11 i_E1 (pc := 12) (Ls := #[.val (.int p0), .val (.int p1), .val (.ref wF), .val (.ref wU), .unset, .unset]) (st := [(.ref wU), (.ref wF)]) (argsL := [(.ref wU)]) (rest := []) (by rw [hml]; rfl) (lenOf own_pd1 rfl) rfl rfl (Nat.le_of_eq rfl) (hb hby at_12)
        refine own_via st12 ?_
        show own_G p e below _ (T12.setTop (mkF m 15 #[.val (.int p0), .val (.int p1), .val (.ref wF), .val (.ref wU), .unset, .unset] [(.ref wF)]))
        refine own_via (fun t k => XS.astore X12.here hx rfl (hb hby at_15) rfl rfl (l' := #[.val (.int p0), .val (.int p1), .val (.ref wF), .val (.ref wU), .val (.ref wF), .unset]) rfl k) ?_
        show own_G p e below _ (T12.setTop (mkF m 17 #[.val (.int p0), .val (.int p1), .val (.ref wF), .val (.ref wU), .val (.ref wF), .unset] []))
        refine own_via (fun t k => XS.aloadN X12.here hx rfl (hb hby at_17) rfl rfl k) ?_
        show own_G p e below _ (T12.setTop (mkF m 18 #[.val (.int p0), .val (.int p1), .val (.ref wF), .val (.ref wU), .val (.ref wF), .unset] [(.ref wF)]))
        obtain ⟨T13, X13, e13, st13⟩ := own_callP (y := (⟨"com/example/clementi/clementi/query/TruthAndPinLaw", "rank", "(Lcom/example/clementi/clementi/query/Truth;)I"⟩ : MethodName)) (W := 0) X12 hx hZ hown (hw _ (List.mem_of_getElem? (i := 14) rfl)) (hw _ (List.mem_of_getElem? (i := 15) rfl)) (hw _ (List.mem_of_getElem? (i := 2) rfl)) (hw _ (List.mem_of_getElem? (i := 16) rfl)) (by decide) (own_rankF l Z a0 hw [] wF wU wT h0 i_S1 i_S2 i_S3 ne_wF_wU ne_wF_wT ne_wU_wT) (by decide) (by decide) rfl rfl (by decide) (by decide) e12 (pc := 18) (Ls := #[.val (.int p0), .val (.int p1), .val (.ref wF), .val (.ref wU), .val (.ref wF), .unset]) (st := [(.ref wF)]) (argsL := [(.ref wF)]) (rest := []) (by rw [hml]; rfl) (lenOf own_pd2 rfl) rfl rfl (Nat.le_of_eq rfl) (hb hby at_18)
        refine own_via st13 ?_
        show own_G p e below _ (T13.setTop (mkF m 21 #[.val (.int p0), .val (.int p1), .val (.ref wF), .val (.ref wU), .val (.ref wF), .unset] [(.int (0 : Int32))]))
        refine own_via (fun t k => XS.aloadN X13.here hx rfl (hb hby at_21) rfl rfl k) ?_
        show own_G p e below _ (T13.setTop (mkF m 22 #[.val (.int p0), .val (.int p1), .val (.ref wF), .val (.ref wU), .val (.ref wF), .unset] [(.ref wU), (.int (0 : Int32))]))
        obtain ⟨T14, X14, e14, st14⟩ := own_callP (y := (⟨"com/example/clementi/clementi/query/TruthAndPinLaw", "rank", "(Lcom/example/clementi/clementi/query/Truth;)I"⟩ : MethodName)) (W := 1) X13 hx hZ hown (hw _ (List.mem_of_getElem? (i := 14) rfl)) (hw _ (List.mem_of_getElem? (i := 15) rfl)) (hw _ (List.mem_of_getElem? (i := 2) rfl)) (hw _ (List.mem_of_getElem? (i := 16) rfl)) (by decide) (own_rankU l Z a0 hw [] wU wF wT h0 i_S1 i_S2 i_S3 ne_wF_wU ne_wF_wT ne_wU_wT) (by decide) (by decide) rfl rfl (by decide) (by decide) e13 (pc := 22) (Ls := #[.val (.int p0), .val (.int p1), .val (.ref wF), .val (.ref wU), .val (.ref wF), .unset]) (st := [(.ref wU), (.int (0 : Int32))]) (argsL := [(.ref wU)]) (rest := [(.int (0 : Int32))]) (by rw [hml]; rfl) (lenOf own_pd2 rfl) rfl rfl (Nat.le_of_eq rfl) (hb hby at_22)
        refine own_via st14 ?_
        show own_G p e below _ (T14.setTop (mkF m 25 #[.val (.int p0), .val (.int p1), .val (.ref wF), .val (.ref wU), .val (.ref wF), .unset] [(.int (1 : Int32)), (.int (0 : Int32))]))
        obtain ⟨T15, X15, e15, st15⟩ := own_callP (y := (⟨"java/lang/Math", "min", "(II)I"⟩ : MethodName)) (W := 0) X14 hx hZ hown (hw _ (List.mem_of_getElem? (i := 17) rfl)) (hw _ (List.mem_of_getElem? (i := 18) rfl)) (hw _ (List.mem_of_getElem? (i := 19) rfl)) (hw _ (List.mem_of_getElem? (i := 20) rfl)) (by decide) (own_rm4 l Z a0 hw [] (0 : Int32) (1 : Int32) h0) (by decide) (by decide) rfl rfl (by decide) (by decide) e14 (pc := 25) (Ls := #[.val (.int p0), .val (.int p1), .val (.ref wF), .val (.ref wU), .val (.ref wF), .unset]) (st := [(.int (1 : Int32)), (.int (0 : Int32))]) (argsL := [(.int (0 : Int32)), (.int (1 : Int32))]) (rest := []) (by rw [hml]; rfl) (lenOf own_pd3 rfl) rfl rfl (Nat.le_of_eq rfl) (hb hby at_25)
        refine own_via st15 ?_
        show own_G p e below _ (T15.setTop (mkF m 28 #[.val (.int p0), .val (.int p1), .val (.ref wF), .val (.ref wU), .val (.ref wF), .unset] [(.int (own_F4 (0 : Int32) (1 : Int32)))]))
        rw [show (own_F4 (0 : Int32) (1 : Int32)) = (0 : Int32) from by decide]
        show own_G p e below _ (T15.setTop (mkF m 28 #[.val (.int p0), .val (.int p1), .val (.ref wF), .val (.ref wU), .val (.ref wF), .unset] [(.int (0 : Int32))]))
        refine own_via (fun t k => XS.istore X15.here hx rfl (hb hby at_28) rfl (l' := #[.val (.int p0), .val (.int p1), .val (.ref wF), .val (.ref wU), .val (.ref wF), .val (.int (0 : Int32))]) rfl k) ?_
        show own_G p e below _ (T15.setTop (mkF m 30 #[.val (.int p0), .val (.int p1), .val (.ref wF), .val (.ref wU), .val (.ref wF), .val (.int (0 : Int32))] []))
        refine own_via (fun t k => XS.aload X15.here hx rfl (hb hby at_30) rfl rfl k) ?_
        show own_G p e below _ (T15.setTop (mkF m 32 #[.val (.int p0), .val (.int p1), .val (.ref wF), .val (.ref wU), .val (.ref wF), .val (.int (0 : Int32))] [(.ref wF)]))
        obtain ⟨T16, X16, e16, st16⟩ := own_callP (y := (⟨"com/example/clementi/clementi/query/TruthAndPinLaw", "rank", "(Lcom/example/clementi/clementi/query/Truth;)I"⟩ : MethodName)) (W := 0) X15 hx hZ hown (hw _ (List.mem_of_getElem? (i := 14) rfl)) (hw _ (List.mem_of_getElem? (i := 15) rfl)) (hw _ (List.mem_of_getElem? (i := 2) rfl)) (hw _ (List.mem_of_getElem? (i := 16) rfl)) (by decide) (own_rankF l Z a0 hw [] wF wU wT h0 i_S1 i_S2 i_S3 ne_wF_wU ne_wF_wT ne_wU_wT) (by decide) (by decide) rfl rfl (by decide) (by decide) e15 (pc := 32) (Ls := #[.val (.int p0), .val (.int p1), .val (.ref wF), .val (.ref wU), .val (.ref wF), .val (.int (0 : Int32))]) (st := [(.ref wF)]) (argsL := [(.ref wF)]) (rest := []) (by rw [hml]; rfl) (lenOf own_pd2 rfl) rfl rfl (Nat.le_of_eq rfl) (hb hby at_32)
        refine own_via st16 ?_
        show own_G p e below _ (T16.setTop (mkF m 35 #[.val (.int p0), .val (.int p1), .val (.ref wF), .val (.ref wU), .val (.ref wF), .val (.int (0 : Int32))] [(.int (0 : Int32))]))
        refine own_via (fun t k => XS.iload X16.here hx rfl (hb hby at_35) rfl k) ?_
        show own_G p e below _ (T16.setTop (mkF m 37 #[.val (.int p0), .val (.int p1), .val (.ref wF), .val (.ref wU), .val (.ref wF), .val (.int (0 : Int32))] [(.int (0 : Int32)), (.int (0 : Int32))]))
        refine own_via (fun t k => XS.icmpNo X16.here hx rfl (hb hby at_37) rfl (teq (by decide : (0 : Int32) = (0 : Int32))).2 k) ?_
        show own_G p e below _ (T16.setTop (mkF m 40 #[.val (.int p0), .val (.int p1), .val (.ref wF), .val (.ref wU), .val (.ref wF), .val (.int (0 : Int32))] []))
        refine own_via (fun t k => XS.iconst X16.here hx rfl (hb hby at_40) k) ?_
        show own_G p e below _ (T16.setTop (mkF m 41 #[.val (.int p0), .val (.int p1), .val (.ref wF), .val (.ref wU), .val (.ref wF), .val (.int (0 : Int32))] [(.int (1 : Int32))]))
        refine own_via (fun t k => XS.goto X16.here hx rfl (pc0 := 41) (pc' := 45) rfl (hb hby at_41) (by decide) (by decide) k) ?_
        show own_G p e below _ (T16.setTop (mkF m 45 #[.val (.int p0), .val (.int p1), .val (.ref wF), .val (.ref wU), .val (.ref wF), .val (.int (0 : Int32))] [(.int (1 : Int32))]))
        exact own_retN (t := .boolean) X16 hx Bd.returns (by simp) Bd.notSynchronized (hb hby at_45) ⟨N0, rfl⟩ (by decide) (by decide)
      ·
        show own_G p e below _ (T2.setTop (mkF m 6 #[.val (.int p0), .val (.int p1), .val (.ref wF), .unset, .unset, .unset] [(.int p1)]))
        obtain ⟨T17, X17, e17, st17⟩ := own_callP (y := (⟨"com/example/clementi/clementi/query/TruthAndPinLaw", "pick", "(I)Lcom/example/clementi/clementi/query/Truth;"⟩ : MethodName)) (W := 0) X2 hx hZ hown (hw _ (List.mem_of_getElem? (i := 0) rfl)) (hw _ (List.mem_of_getElem? (i := 1) rfl)) (hw _ (List.mem_of_getElem? (i := 2) rfl)) (hw _ (List.mem_of_getElem? (i := 3) rfl)) (by decide) (own_pickT l Z a0 hw [] p1 wF wU wT h0 i_S1 i_S2 i_S3 hc3 hc10) (by decide) (by decide) rfl rfl (by decide) (by decide) e2 (pc := 6) (Ls := #[.val (.int p0), .val (.int p1), .val (.ref wF), .unset, .unset, .unset]) (st := [(.int p1)]) (argsL := [(.int p1)]) (rest := []) (by rw [hml]; rfl) (lenOf own_pd0 rfl) rfl rfl (Nat.le_of_eq rfl) (hb hby at_6)
        refine own_via st17 ?_
        show own_G p e below _ (T17.setTop (mkF m 9 #[.val (.int p0), .val (.int p1), .val (.ref wF), .unset, .unset, .unset] [(.ref wT)]))
        refine own_via (fun t k => XS.astoreN X17.here hx rfl (hb hby at_9) rfl rfl (l' := #[.val (.int p0), .val (.int p1), .val (.ref wF), .val (.ref wT), .unset, .unset]) rfl k) ?_
        show own_G p e below _ (T17.setTop (mkF m 10 #[.val (.int p0), .val (.int p1), .val (.ref wF), .val (.ref wT), .unset, .unset] []))
        refine own_via (fun t k => XS.aloadN X17.here hx rfl (hb hby at_10) rfl rfl k) ?_
        show own_G p e below _ (T17.setTop (mkF m 11 #[.val (.int p0), .val (.int p1), .val (.ref wF), .val (.ref wT), .unset, .unset] [(.ref wF)]))
        refine own_via (fun t k => XS.aloadN X17.here hx rfl (hb hby at_11) rfl rfl k) ?_
        show own_G p e below _ (T17.setTop (mkF m 12 #[.val (.int p0), .val (.int p1), .val (.ref wF), .val (.ref wT), .unset, .unset] [(.ref wT), (.ref wF)]))
        obtain ⟨T18, X18, e18, st18⟩ := own_callVP (y := (⟨"com/example/clementi/clementi/query/Truth", "and", "(Lcom/example/clementi/clementi/query/Truth;)Lcom/example/clementi/clementi/query/Truth;"⟩ : MethodName)) (z := (⟨"com/example/clementi/clementi/query/Truth", "and", "(Lcom/example/clementi/clementi/query/Truth;)Lcom/example/clementi/clementi/query/Truth;"⟩ : MethodName)) (W := 0) (a := wF) X17 hx hZ hown (hw _ (List.mem_of_getElem? (i := 8) rfl)) (hw _ (List.mem_of_getElem? (i := 9) rfl)) (notFace_of_selects (args := #[]) (mvT hZ (hw _ (List.mem_of_getElem? (i := 11) rfl)))) (hw _ (List.mem_of_getElem? (i := 11) rfl)) (hw _ (List.mem_of_getElem? (i := 10) rfl)) (hw _ (List.mem_of_getElem? (i := 6) rfl)) (hw _ (List.mem_of_getElem? (i := 12) rfl)) (by decide) (own_andFT l Z a0 hw [] wF wT wU h0 i_S1 i_S2 i_S3 ne_wF_wU ne_wF_wT ne_wU_wT) (by decide) (by decide) rfl rfl (by decide) (by decide) e17 i_E1 (pc := 12) (Ls := #[.val (.int p0), .val (.int p1), .val (.ref wF), .val (.ref wT), .unset, .unset]) (st := [(.ref wT), (.ref wF)]) (argsL := [(.ref wT)]) (rest := []) (by rw [hml]; rfl) (lenOf own_pd1 rfl) rfl rfl (Nat.le_of_eq rfl) (hb hby at_12)
        refine own_via st18 ?_
        show own_G p e below _ (T18.setTop (mkF m 15 #[.val (.int p0), .val (.int p1), .val (.ref wF), .val (.ref wT), .unset, .unset] [(.ref wF)]))
        refine own_via (fun t k => XS.astore X18.here hx rfl (hb hby at_15) rfl rfl (l' := #[.val (.int p0), .val (.int p1), .val (.ref wF), .val (.ref wT), .val (.ref wF), .unset]) rfl k) ?_
        show own_G p e below _ (T18.setTop (mkF m 17 #[.val (.int p0), .val (.int p1), .val (.ref wF), .val (.ref wT), .val (.ref wF), .unset] []))
        refine own_via (fun t k => XS.aloadN X18.here hx rfl (hb hby at_17) rfl rfl k) ?_
        show own_G p e below _ (T18.setTop (mkF m 18 #[.val (.int p0), .val (.int p1), .val (.ref wF), .val (.ref wT), .val (.ref wF), .unset] [(.ref wF)]))
        obtain ⟨T19, X19, e19, st19⟩ := own_callP (y := (⟨"com/example/clementi/clementi/query/TruthAndPinLaw", "rank", "(Lcom/example/clementi/clementi/query/Truth;)I"⟩ : MethodName)) (W := 0) X18 hx hZ hown (hw _ (List.mem_of_getElem? (i := 14) rfl)) (hw _ (List.mem_of_getElem? (i := 15) rfl)) (hw _ (List.mem_of_getElem? (i := 2) rfl)) (hw _ (List.mem_of_getElem? (i := 16) rfl)) (by decide) (own_rankF l Z a0 hw [] wF wU wT h0 i_S1 i_S2 i_S3 ne_wF_wU ne_wF_wT ne_wU_wT) (by decide) (by decide) rfl rfl (by decide) (by decide) e18 (pc := 18) (Ls := #[.val (.int p0), .val (.int p1), .val (.ref wF), .val (.ref wT), .val (.ref wF), .unset]) (st := [(.ref wF)]) (argsL := [(.ref wF)]) (rest := []) (by rw [hml]; rfl) (lenOf own_pd2 rfl) rfl rfl (Nat.le_of_eq rfl) (hb hby at_18)
        refine own_via st19 ?_
        show own_G p e below _ (T19.setTop (mkF m 21 #[.val (.int p0), .val (.int p1), .val (.ref wF), .val (.ref wT), .val (.ref wF), .unset] [(.int (0 : Int32))]))
        refine own_via (fun t k => XS.aloadN X19.here hx rfl (hb hby at_21) rfl rfl k) ?_
        show own_G p e below _ (T19.setTop (mkF m 22 #[.val (.int p0), .val (.int p1), .val (.ref wF), .val (.ref wT), .val (.ref wF), .unset] [(.ref wT), (.int (0 : Int32))]))
        obtain ⟨T20, X20, e20, st20⟩ := own_callP (y := (⟨"com/example/clementi/clementi/query/TruthAndPinLaw", "rank", "(Lcom/example/clementi/clementi/query/Truth;)I"⟩ : MethodName)) (W := 1) X19 hx hZ hown (hw _ (List.mem_of_getElem? (i := 14) rfl)) (hw _ (List.mem_of_getElem? (i := 15) rfl)) (hw _ (List.mem_of_getElem? (i := 2) rfl)) (hw _ (List.mem_of_getElem? (i := 16) rfl)) (by decide) (own_rankT l Z a0 hw [] wT wF wU h0 i_S1 i_S2 i_S3 ne_wF_wU ne_wF_wT ne_wU_wT) (by decide) (by decide) rfl rfl (by decide) (by decide) e19 (pc := 22) (Ls := #[.val (.int p0), .val (.int p1), .val (.ref wF), .val (.ref wT), .val (.ref wF), .unset]) (st := [(.ref wT), (.int (0 : Int32))]) (argsL := [(.ref wT)]) (rest := [(.int (0 : Int32))]) (by rw [hml]; rfl) (lenOf own_pd2 rfl) rfl rfl (Nat.le_of_eq rfl) (hb hby at_22)
        refine own_via st20 ?_
        show own_G p e below _ (T20.setTop (mkF m 25 #[.val (.int p0), .val (.int p1), .val (.ref wF), .val (.ref wT), .val (.ref wF), .unset] [(.int (2 : Int32)), (.int (0 : Int32))]))
        obtain ⟨T21, X21, e21, st21⟩ := own_callP (y := (⟨"java/lang/Math", "min", "(II)I"⟩ : MethodName)) (W := 0) X20 hx hZ hown (hw _ (List.mem_of_getElem? (i := 17) rfl)) (hw _ (List.mem_of_getElem? (i := 18) rfl)) (hw _ (List.mem_of_getElem? (i := 19) rfl)) (hw _ (List.mem_of_getElem? (i := 20) rfl)) (by decide) (own_rm4 l Z a0 hw [] (0 : Int32) (2 : Int32) h0) (by decide) (by decide) rfl rfl (by decide) (by decide) e20 (pc := 25) (Ls := #[.val (.int p0), .val (.int p1), .val (.ref wF), .val (.ref wT), .val (.ref wF), .unset]) (st := [(.int (2 : Int32)), (.int (0 : Int32))]) (argsL := [(.int (0 : Int32)), (.int (2 : Int32))]) (rest := []) (by rw [hml]; rfl) (lenOf own_pd3 rfl) rfl rfl (Nat.le_of_eq rfl) (hb hby at_25)
        refine own_via st21 ?_
        show own_G p e below _ (T21.setTop (mkF m 28 #[.val (.int p0), .val (.int p1), .val (.ref wF), .val (.ref wT), .val (.ref wF), .unset] [(.int (own_F4 (0 : Int32) (2 : Int32)))]))
        rw [show (own_F4 (0 : Int32) (2 : Int32)) = (0 : Int32) from by decide]
        show own_G p e below _ (T21.setTop (mkF m 28 #[.val (.int p0), .val (.int p1), .val (.ref wF), .val (.ref wT), .val (.ref wF), .unset] [(.int (0 : Int32))]))
        refine own_via (fun t k => XS.istore X21.here hx rfl (hb hby at_28) rfl (l' := #[.val (.int p0), .val (.int p1), .val (.ref wF), .val (.ref wT), .val (.ref wF), .val (.int (0 : Int32))]) rfl k) ?_
        show own_G p e below _ (T21.setTop (mkF m 30 #[.val (.int p0), .val (.int p1), .val (.ref wF), .val (.ref wT), .val (.ref wF), .val (.int (0 : Int32))] []))
        refine own_via (fun t k => XS.aload X21.here hx rfl (hb hby at_30) rfl rfl k) ?_
        show own_G p e below _ (T21.setTop (mkF m 32 #[.val (.int p0), .val (.int p1), .val (.ref wF), .val (.ref wT), .val (.ref wF), .val (.int (0 : Int32))] [(.ref wF)]))
        obtain ⟨T22, X22, e22, st22⟩ := own_callP (y := (⟨"com/example/clementi/clementi/query/TruthAndPinLaw", "rank", "(Lcom/example/clementi/clementi/query/Truth;)I"⟩ : MethodName)) (W := 0) X21 hx hZ hown (hw _ (List.mem_of_getElem? (i := 14) rfl)) (hw _ (List.mem_of_getElem? (i := 15) rfl)) (hw _ (List.mem_of_getElem? (i := 2) rfl)) (hw _ (List.mem_of_getElem? (i := 16) rfl)) (by decide) (own_rankF l Z a0 hw [] wF wU wT h0 i_S1 i_S2 i_S3 ne_wF_wU ne_wF_wT ne_wU_wT) (by decide) (by decide) rfl rfl (by decide) (by decide) e21 (pc := 32) (Ls := #[.val (.int p0), .val (.int p1), .val (.ref wF), .val (.ref wT), .val (.ref wF), .val (.int (0 : Int32))]) (st := [(.ref wF)]) (argsL := [(.ref wF)]) (rest := []) (by rw [hml]; rfl) (lenOf own_pd2 rfl) rfl rfl (Nat.le_of_eq rfl) (hb hby at_32)
        refine own_via st22 ?_
        show own_G p e below _ (T22.setTop (mkF m 35 #[.val (.int p0), .val (.int p1), .val (.ref wF), .val (.ref wT), .val (.ref wF), .val (.int (0 : Int32))] [(.int (0 : Int32))]))
        refine own_via (fun t k => XS.iload X22.here hx rfl (hb hby at_35) rfl k) ?_
        show own_G p e below _ (T22.setTop (mkF m 37 #[.val (.int p0), .val (.int p1), .val (.ref wF), .val (.ref wT), .val (.ref wF), .val (.int (0 : Int32))] [(.int (0 : Int32)), (.int (0 : Int32))]))
        refine own_via (fun t k => XS.icmpNo X22.here hx rfl (hb hby at_37) rfl (teq (by decide : (0 : Int32) = (0 : Int32))).2 k) ?_
        show own_G p e below _ (T22.setTop (mkF m 40 #[.val (.int p0), .val (.int p1), .val (.ref wF), .val (.ref wT), .val (.ref wF), .val (.int (0 : Int32))] []))
        refine own_via (fun t k => XS.iconst X22.here hx rfl (hb hby at_40) k) ?_
        show own_G p e below _ (T22.setTop (mkF m 41 #[.val (.int p0), .val (.int p1), .val (.ref wF), .val (.ref wT), .val (.ref wF), .val (.int (0 : Int32))] [(.int (1 : Int32))]))
        refine own_via (fun t k => XS.goto X22.here hx rfl (pc0 := 41) (pc' := 45) rfl (hb hby at_41) (by decide) (by decide) k) ?_
        show own_G p e below _ (T22.setTop (mkF m 45 #[.val (.int p0), .val (.int p1), .val (.ref wF), .val (.ref wT), .val (.ref wF), .val (.int (0 : Int32))] [(.int (1 : Int32))]))
        exact own_retN (t := .boolean) X22 hx Bd.returns (by simp) Bd.notSynchronized (hb hby at_45) ⟨N0, rfl⟩ (by decide) (by decide)
  ·
    show own_G p e below _ (s₁.setTop (mkF m 1 #[.val (.int p0), .val (.int p1), .unset, .unset, .unset, .unset] [(.int p0)]))
    by_cases hc23 : ((p0 &&& (2147483647 : Int32)) - ((p0 &&& (2147483647 : Int32)) / (3 : Int32)) * (3 : Int32)) = (1 : Int32)
    ·
      show own_G p e below _ (s₁.setTop (mkF m 1 #[.val (.int p0), .val (.int p1), .unset, .unset, .unset, .unset] [(.int p0)]))
      obtain ⟨T24, X24, e24, st24⟩ := own_callP (y := (⟨"com/example/clementi/clementi/query/TruthAndPinLaw", "pick", "(I)Lcom/example/clementi/clementi/query/Truth;"⟩ : MethodName)) (W := 0) X0 hx hZ hown (hw _ (List.mem_of_getElem? (i := 0) rfl)) (hw _ (List.mem_of_getElem? (i := 1) rfl)) (hw _ (List.mem_of_getElem? (i := 2) rfl)) (hw _ (List.mem_of_getElem? (i := 3) rfl)) (by decide) (own_pickU l Z a0 hw [] p0 wF wU wT h0 i_S1 i_S2 i_S3 hc1 hc23) (by decide) (by decide) rfl rfl (by decide) (by decide) e0 (pc := 1) (Ls := #[.val (.int p0), .val (.int p1), .unset, .unset, .unset, .unset]) (st := [(.int p0)]) (argsL := [(.int p0)]) (rest := []) (by rw [hml]; rfl) (lenOf own_pd0 rfl) rfl rfl (Nat.le_of_eq rfl) (hb hby at_1)
      refine own_via st24 ?_
      show own_G p e below _ (T24.setTop (mkF m 4 #[.val (.int p0), .val (.int p1), .unset, .unset, .unset, .unset] [(.ref wU)]))
      refine own_via (fun t k => XS.astoreN X24.here hx rfl (hb hby at_4) rfl rfl (l' := #[.val (.int p0), .val (.int p1), .val (.ref wU), .unset, .unset, .unset]) rfl k) ?_
      show own_G p e below _ (T24.setTop (mkF m 5 #[.val (.int p0), .val (.int p1), .val (.ref wU), .unset, .unset, .unset] []))
      refine own_via (fun t k => XS.iloadN X24.here hx rfl (hb hby at_5) rfl k) ?_
      show own_G p e below _ (T24.setTop (mkF m 6 #[.val (.int p0), .val (.int p1), .val (.ref wU), .unset, .unset, .unset] [(.int p1)]))
      by_cases hc25 : ((p1 &&& (2147483647 : Int32)) - ((p1 &&& (2147483647 : Int32)) / (3 : Int32)) * (3 : Int32)) = (0 : Int32)
      ·
        show own_G p e below _ (T24.setTop (mkF m 6 #[.val (.int p0), .val (.int p1), .val (.ref wU), .unset, .unset, .unset] [(.int p1)]))
        obtain ⟨T26, X26, e26, st26⟩ := own_callP (y := (⟨"com/example/clementi/clementi/query/TruthAndPinLaw", "pick", "(I)Lcom/example/clementi/clementi/query/Truth;"⟩ : MethodName)) (W := 0) X24 hx hZ hown (hw _ (List.mem_of_getElem? (i := 0) rfl)) (hw _ (List.mem_of_getElem? (i := 1) rfl)) (hw _ (List.mem_of_getElem? (i := 2) rfl)) (hw _ (List.mem_of_getElem? (i := 3) rfl)) (by decide) (own_pickF l Z a0 hw [] p1 wF wU wT h0 i_S1 i_S2 i_S3 hc25) (by decide) (by decide) rfl rfl (by decide) (by decide) e24 (pc := 6) (Ls := #[.val (.int p0), .val (.int p1), .val (.ref wU), .unset, .unset, .unset]) (st := [(.int p1)]) (argsL := [(.int p1)]) (rest := []) (by rw [hml]; rfl) (lenOf own_pd0 rfl) rfl rfl (Nat.le_of_eq rfl) (hb hby at_6)
        refine own_via st26 ?_
        show own_G p e below _ (T26.setTop (mkF m 9 #[.val (.int p0), .val (.int p1), .val (.ref wU), .unset, .unset, .unset] [(.ref wF)]))
        refine own_via (fun t k => XS.astoreN X26.here hx rfl (hb hby at_9) rfl rfl (l' := #[.val (.int p0), .val (.int p1), .val (.ref wU), .val (.ref wF), .unset, .unset]) rfl k) ?_
        show own_G p e below _ (T26.setTop (mkF m 10 #[.val (.int p0), .val (.int p1), .val (.ref wU), .val (.ref wF), .unset, .unset] []))
        refine own_via (fun t k => XS.aloadN X26.here hx rfl (hb hby at_10) rfl rfl k) ?_
        show own_G p e below _ (T26.setTop (mkF m 11 #[.val (.int p0), .val (.int p1), .val (.ref wU), .val (.ref wF), .unset, .unset] [(.ref wU)]))
        refine own_via (fun t k => XS.aloadN X26.here hx rfl (hb hby at_11) rfl rfl k) ?_
        show own_G p e below _ (T26.setTop (mkF m 12 #[.val (.int p0), .val (.int p1), .val (.ref wU), .val (.ref wF), .unset, .unset] [(.ref wF), (.ref wU)]))
        obtain ⟨T27, X27, e27, st27⟩ := own_callVP (y := (⟨"com/example/clementi/clementi/query/Truth", "and", "(Lcom/example/clementi/clementi/query/Truth;)Lcom/example/clementi/clementi/query/Truth;"⟩ : MethodName)) (z := (⟨"com/example/clementi/clementi/query/Truth", "and", "(Lcom/example/clementi/clementi/query/Truth;)Lcom/example/clementi/clementi/query/Truth;"⟩ : MethodName)) (W := 0) (a := wU) X26 hx hZ hown (hw _ (List.mem_of_getElem? (i := 8) rfl)) (hw _ (List.mem_of_getElem? (i := 9) rfl)) (notFace_of_selects (args := #[]) (mvT hZ (hw _ (List.mem_of_getElem? (i := 11) rfl)))) (hw _ (List.mem_of_getElem? (i := 11) rfl)) (hw _ (List.mem_of_getElem? (i := 10) rfl)) (hw _ (List.mem_of_getElem? (i := 6) rfl)) (hw _ (List.mem_of_getElem? (i := 12) rfl)) (by decide) (own_andUF l Z a0 hw [] wU wF wT h0 i_S1 i_S2 i_S3 ne_wF_wU ne_wF_wT ne_wU_wT) (by decide) (by decide) rfl rfl (by decide) (by decide) e26 i_E2 (pc := 12) (Ls := #[.val (.int p0), .val (.int p1), .val (.ref wU), .val (.ref wF), .unset, .unset]) (st := [(.ref wF), (.ref wU)]) (argsL := [(.ref wF)]) (rest := []) (by rw [hml]; rfl) (lenOf own_pd1 rfl) rfl rfl (Nat.le_of_eq rfl) (hb hby at_12)
        refine own_via st27 ?_
        show own_G p e below _ (T27.setTop (mkF m 15 #[.val (.int p0), .val (.int p1), .val (.ref wU), .val (.ref wF), .unset, .unset] [(.ref wF)]))
        refine own_via (fun t k => XS.astore X27.here hx rfl (hb hby at_15) rfl rfl (l' := #[.val (.int p0), .val (.int p1), .val (.ref wU), .val (.ref wF), .val (.ref wF), .unset]) rfl k) ?_
        show own_G p e below _ (T27.setTop (mkF m 17 #[.val (.int p0), .val (.int p1), .val (.ref wU), .val (.ref wF), .val (.ref wF), .unset] []))
        refine own_via (fun t k => XS.aloadN X27.here hx rfl (hb hby at_17) rfl rfl k) ?_
        show own_G p e below _ (T27.setTop (mkF m 18 #[.val (.int p0), .val (.int p1), .val (.ref wU), .val (.ref wF), .val (.ref wF), .unset] [(.ref wU)]))
        obtain ⟨T28, X28, e28, st28⟩ := own_callP (y := (⟨"com/example/clementi/clementi/query/TruthAndPinLaw", "rank", "(Lcom/example/clementi/clementi/query/Truth;)I"⟩ : MethodName)) (W := 0) X27 hx hZ hown (hw _ (List.mem_of_getElem? (i := 14) rfl)) (hw _ (List.mem_of_getElem? (i := 15) rfl)) (hw _ (List.mem_of_getElem? (i := 2) rfl)) (hw _ (List.mem_of_getElem? (i := 16) rfl)) (by decide) (own_rankU l Z a0 hw [] wU wF wT h0 i_S1 i_S2 i_S3 ne_wF_wU ne_wF_wT ne_wU_wT) (by decide) (by decide) rfl rfl (by decide) (by decide) e27 (pc := 18) (Ls := #[.val (.int p0), .val (.int p1), .val (.ref wU), .val (.ref wF), .val (.ref wF), .unset]) (st := [(.ref wU)]) (argsL := [(.ref wU)]) (rest := []) (by rw [hml]; rfl) (lenOf own_pd2 rfl) rfl rfl (Nat.le_of_eq rfl) (hb hby at_18)
        refine own_via st28 ?_
        show own_G p e below _ (T28.setTop (mkF m 21 #[.val (.int p0), .val (.int p1), .val (.ref wU), .val (.ref wF), .val (.ref wF), .unset] [(.int (1 : Int32))]))
        refine own_via (fun t k => XS.aloadN X28.here hx rfl (hb hby at_21) rfl rfl k) ?_
        show own_G p e below _ (T28.setTop (mkF m 22 #[.val (.int p0), .val (.int p1), .val (.ref wU), .val (.ref wF), .val (.ref wF), .unset] [(.ref wF), (.int (1 : Int32))]))
        obtain ⟨T29, X29, e29, st29⟩ := own_callP (y := (⟨"com/example/clementi/clementi/query/TruthAndPinLaw", "rank", "(Lcom/example/clementi/clementi/query/Truth;)I"⟩ : MethodName)) (W := 1) X28 hx hZ hown (hw _ (List.mem_of_getElem? (i := 14) rfl)) (hw _ (List.mem_of_getElem? (i := 15) rfl)) (hw _ (List.mem_of_getElem? (i := 2) rfl)) (hw _ (List.mem_of_getElem? (i := 16) rfl)) (by decide) (own_rankF l Z a0 hw [] wF wU wT h0 i_S1 i_S2 i_S3 ne_wF_wU ne_wF_wT ne_wU_wT) (by decide) (by decide) rfl rfl (by decide) (by decide) e28 (pc := 22) (Ls := #[.val (.int p0), .val (.int p1), .val (.ref wU), .val (.ref wF), .val (.ref wF), .unset]) (st := [(.ref wF), (.int (1 : Int32))]) (argsL := [(.ref wF)]) (rest := [(.int (1 : Int32))]) (by rw [hml]; rfl) (lenOf own_pd2 rfl) rfl rfl (Nat.le_of_eq rfl) (hb hby at_22)
        refine own_via st29 ?_
        show own_G p e below _ (T29.setTop (mkF m 25 #[.val (.int p0), .val (.int p1), .val (.ref wU), .val (.ref wF), .val (.ref wF), .unset] [(.int (0 : Int32)), (.int (1 : Int32))]))
        obtain ⟨T30, X30, e30, st30⟩ := own_callP (y := (⟨"java/lang/Math", "min", "(II)I"⟩ : MethodName)) (W := 0) X29 hx hZ hown (hw _ (List.mem_of_getElem? (i := 17) rfl)) (hw _ (List.mem_of_getElem? (i := 18) rfl)) (hw _ (List.mem_of_getElem? (i := 19) rfl)) (hw _ (List.mem_of_getElem? (i := 20) rfl)) (by decide) (own_rm4 l Z a0 hw [] (1 : Int32) (0 : Int32) h0) (by decide) (by decide) rfl rfl (by decide) (by decide) e29 (pc := 25) (Ls := #[.val (.int p0), .val (.int p1), .val (.ref wU), .val (.ref wF), .val (.ref wF), .unset]) (st := [(.int (0 : Int32)), (.int (1 : Int32))]) (argsL := [(.int (1 : Int32)), (.int (0 : Int32))]) (rest := []) (by rw [hml]; rfl) (lenOf own_pd3 rfl) rfl rfl (Nat.le_of_eq rfl) (hb hby at_25)
        refine own_via st30 ?_
        show own_G p e below _ (T30.setTop (mkF m 28 #[.val (.int p0), .val (.int p1), .val (.ref wU), .val (.ref wF), .val (.ref wF), .unset] [(.int (own_F4 (1 : Int32) (0 : Int32)))]))
        rw [show (own_F4 (1 : Int32) (0 : Int32)) = (0 : Int32) from by decide]
        show own_G p e below _ (T30.setTop (mkF m 28 #[.val (.int p0), .val (.int p1), .val (.ref wU), .val (.ref wF), .val (.ref wF), .unset] [(.int (0 : Int32))]))
        refine own_via (fun t k => XS.istore X30.here hx rfl (hb hby at_28) rfl (l' := #[.val (.int p0), .val (.int p1), .val (.ref wU), .val (.ref wF), .val (.ref wF), .val (.int (0 : Int32))]) rfl k) ?_
        show own_G p e below _ (T30.setTop (mkF m 30 #[.val (.int p0), .val (.int p1), .val (.ref wU), .val (.ref wF), .val (.ref wF), .val (.int (0 : Int32))] []))
        refine own_via (fun t k => XS.aload X30.here hx rfl (hb hby at_30) rfl rfl k) ?_
        show own_G p e below _ (T30.setTop (mkF m 32 #[.val (.int p0), .val (.int p1), .val (.ref wU), .val (.ref wF), .val (.ref wF), .val (.int (0 : Int32))] [(.ref wF)]))
        obtain ⟨T31, X31, e31, st31⟩ := own_callP (y := (⟨"com/example/clementi/clementi/query/TruthAndPinLaw", "rank", "(Lcom/example/clementi/clementi/query/Truth;)I"⟩ : MethodName)) (W := 0) X30 hx hZ hown (hw _ (List.mem_of_getElem? (i := 14) rfl)) (hw _ (List.mem_of_getElem? (i := 15) rfl)) (hw _ (List.mem_of_getElem? (i := 2) rfl)) (hw _ (List.mem_of_getElem? (i := 16) rfl)) (by decide) (own_rankF l Z a0 hw [] wF wU wT h0 i_S1 i_S2 i_S3 ne_wF_wU ne_wF_wT ne_wU_wT) (by decide) (by decide) rfl rfl (by decide) (by decide) e30 (pc := 32) (Ls := #[.val (.int p0), .val (.int p1), .val (.ref wU), .val (.ref wF), .val (.ref wF), .val (.int (0 : Int32))]) (st := [(.ref wF)]) (argsL := [(.ref wF)]) (rest := []) (by rw [hml]; rfl) (lenOf own_pd2 rfl) rfl rfl (Nat.le_of_eq rfl) (hb hby at_32)
        refine own_via st31 ?_
        show own_G p e below _ (T31.setTop (mkF m 35 #[.val (.int p0), .val (.int p1), .val (.ref wU), .val (.ref wF), .val (.ref wF), .val (.int (0 : Int32))] [(.int (0 : Int32))]))
        refine own_via (fun t k => XS.iload X31.here hx rfl (hb hby at_35) rfl k) ?_
        show own_G p e below _ (T31.setTop (mkF m 37 #[.val (.int p0), .val (.int p1), .val (.ref wU), .val (.ref wF), .val (.ref wF), .val (.int (0 : Int32))] [(.int (0 : Int32)), (.int (0 : Int32))]))
        refine own_via (fun t k => XS.icmpNo X31.here hx rfl (hb hby at_37) rfl (teq (by decide : (0 : Int32) = (0 : Int32))).2 k) ?_
        show own_G p e below _ (T31.setTop (mkF m 40 #[.val (.int p0), .val (.int p1), .val (.ref wU), .val (.ref wF), .val (.ref wF), .val (.int (0 : Int32))] []))
        refine own_via (fun t k => XS.iconst X31.here hx rfl (hb hby at_40) k) ?_
        show own_G p e below _ (T31.setTop (mkF m 41 #[.val (.int p0), .val (.int p1), .val (.ref wU), .val (.ref wF), .val (.ref wF), .val (.int (0 : Int32))] [(.int (1 : Int32))]))
        refine own_via (fun t k => XS.goto X31.here hx rfl (pc0 := 41) (pc' := 45) rfl (hb hby at_41) (by decide) (by decide) k) ?_
        show own_G p e below _ (T31.setTop (mkF m 45 #[.val (.int p0), .val (.int p1), .val (.ref wU), .val (.ref wF), .val (.ref wF), .val (.int (0 : Int32))] [(.int (1 : Int32))]))
        exact own_retN (t := .boolean) X31 hx Bd.returns (by simp) Bd.notSynchronized (hb hby at_45) ⟨N0, rfl⟩ (by decide) (by decide)
      ·
        show own_G p e below _ (T24.setTop (mkF m 6 #[.val (.int p0), .val (.int p1), .val (.ref wU), .unset, .unset, .unset] [(.int p1)]))
        by_cases hc32 : ((p1 &&& (2147483647 : Int32)) - ((p1 &&& (2147483647 : Int32)) / (3 : Int32)) * (3 : Int32)) = (1 : Int32)
        ·
          show own_G p e below _ (T24.setTop (mkF m 6 #[.val (.int p0), .val (.int p1), .val (.ref wU), .unset, .unset, .unset] [(.int p1)]))
          obtain ⟨T33, X33, e33, st33⟩ := own_callP (y := (⟨"com/example/clementi/clementi/query/TruthAndPinLaw", "pick", "(I)Lcom/example/clementi/clementi/query/Truth;"⟩ : MethodName)) (W := 0) X24 hx hZ hown (hw _ (List.mem_of_getElem? (i := 0) rfl)) (hw _ (List.mem_of_getElem? (i := 1) rfl)) (hw _ (List.mem_of_getElem? (i := 2) rfl)) (hw _ (List.mem_of_getElem? (i := 3) rfl)) (by decide) (own_pickU l Z a0 hw [] p1 wF wU wT h0 i_S1 i_S2 i_S3 hc25 hc32) (by decide) (by decide) rfl rfl (by decide) (by decide) e24 (pc := 6) (Ls := #[.val (.int p0), .val (.int p1), .val (.ref wU), .unset, .unset, .unset]) (st := [(.int p1)]) (argsL := [(.int p1)]) (rest := []) (by rw [hml]; rfl) (lenOf own_pd0 rfl) rfl rfl (Nat.le_of_eq rfl) (hb hby at_6)
          refine own_via st33 ?_
          show own_G p e below _ (T33.setTop (mkF m 9 #[.val (.int p0), .val (.int p1), .val (.ref wU), .unset, .unset, .unset] [(.ref wU)]))
          refine own_via (fun t k => XS.astoreN X33.here hx rfl (hb hby at_9) rfl rfl (l' := #[.val (.int p0), .val (.int p1), .val (.ref wU), .val (.ref wU), .unset, .unset]) rfl k) ?_
          show own_G p e below _ (T33.setTop (mkF m 10 #[.val (.int p0), .val (.int p1), .val (.ref wU), .val (.ref wU), .unset, .unset] []))
          refine own_via (fun t k => XS.aloadN X33.here hx rfl (hb hby at_10) rfl rfl k) ?_
          show own_G p e below _ (T33.setTop (mkF m 11 #[.val (.int p0), .val (.int p1), .val (.ref wU), .val (.ref wU), .unset, .unset] [(.ref wU)]))
          refine own_via (fun t k => XS.aloadN X33.here hx rfl (hb hby at_11) rfl rfl k) ?_
          show own_G p e below _ (T33.setTop (mkF m 12 #[.val (.int p0), .val (.int p1), .val (.ref wU), .val (.ref wU), .unset, .unset] [(.ref wU), (.ref wU)]))
          obtain ⟨T34, X34, e34, st34⟩ := own_callVP (y := (⟨"com/example/clementi/clementi/query/Truth", "and", "(Lcom/example/clementi/clementi/query/Truth;)Lcom/example/clementi/clementi/query/Truth;"⟩ : MethodName)) (z := (⟨"com/example/clementi/clementi/query/Truth", "and", "(Lcom/example/clementi/clementi/query/Truth;)Lcom/example/clementi/clementi/query/Truth;"⟩ : MethodName)) (W := 0) (a := wU) X33 hx hZ hown (hw _ (List.mem_of_getElem? (i := 8) rfl)) (hw _ (List.mem_of_getElem? (i := 9) rfl)) (notFace_of_selects (args := #[]) (mvT hZ (hw _ (List.mem_of_getElem? (i := 11) rfl)))) (hw _ (List.mem_of_getElem? (i := 11) rfl)) (hw _ (List.mem_of_getElem? (i := 10) rfl)) (hw _ (List.mem_of_getElem? (i := 6) rfl)) (hw _ (List.mem_of_getElem? (i := 12) rfl)) (by decide) (own_andUU l Z a0 hw [] wU wF wT h0 i_S1 i_S2 i_S3 ne_wF_wU ne_wF_wT ne_wU_wT) (by decide) (by decide) rfl rfl (by decide) (by decide) e33 i_E2 (pc := 12) (Ls := #[.val (.int p0), .val (.int p1), .val (.ref wU), .val (.ref wU), .unset, .unset]) (st := [(.ref wU), (.ref wU)]) (argsL := [(.ref wU)]) (rest := []) (by rw [hml]; rfl) (lenOf own_pd1 rfl) rfl rfl (Nat.le_of_eq rfl) (hb hby at_12)
          refine own_via st34 ?_
          show own_G p e below _ (T34.setTop (mkF m 15 #[.val (.int p0), .val (.int p1), .val (.ref wU), .val (.ref wU), .unset, .unset] [(.ref wU)]))
          refine own_via (fun t k => XS.astore X34.here hx rfl (hb hby at_15) rfl rfl (l' := #[.val (.int p0), .val (.int p1), .val (.ref wU), .val (.ref wU), .val (.ref wU), .unset]) rfl k) ?_
          show own_G p e below _ (T34.setTop (mkF m 17 #[.val (.int p0), .val (.int p1), .val (.ref wU), .val (.ref wU), .val (.ref wU), .unset] []))
          refine own_via (fun t k => XS.aloadN X34.here hx rfl (hb hby at_17) rfl rfl k) ?_
          show own_G p e below _ (T34.setTop (mkF m 18 #[.val (.int p0), .val (.int p1), .val (.ref wU), .val (.ref wU), .val (.ref wU), .unset] [(.ref wU)]))
          obtain ⟨T35, X35, e35, st35⟩ := own_callP (y := (⟨"com/example/clementi/clementi/query/TruthAndPinLaw", "rank", "(Lcom/example/clementi/clementi/query/Truth;)I"⟩ : MethodName)) (W := 0) X34 hx hZ hown (hw _ (List.mem_of_getElem? (i := 14) rfl)) (hw _ (List.mem_of_getElem? (i := 15) rfl)) (hw _ (List.mem_of_getElem? (i := 2) rfl)) (hw _ (List.mem_of_getElem? (i := 16) rfl)) (by decide) (own_rankU l Z a0 hw [] wU wF wT h0 i_S1 i_S2 i_S3 ne_wF_wU ne_wF_wT ne_wU_wT) (by decide) (by decide) rfl rfl (by decide) (by decide) e34 (pc := 18) (Ls := #[.val (.int p0), .val (.int p1), .val (.ref wU), .val (.ref wU), .val (.ref wU), .unset]) (st := [(.ref wU)]) (argsL := [(.ref wU)]) (rest := []) (by rw [hml]; rfl) (lenOf own_pd2 rfl) rfl rfl (Nat.le_of_eq rfl) (hb hby at_18)
          refine own_via st35 ?_
          show own_G p e below _ (T35.setTop (mkF m 21 #[.val (.int p0), .val (.int p1), .val (.ref wU), .val (.ref wU), .val (.ref wU), .unset] [(.int (1 : Int32))]))
          refine own_via (fun t k => XS.aloadN X35.here hx rfl (hb hby at_21) rfl rfl k) ?_
          show own_G p e below _ (T35.setTop (mkF m 22 #[.val (.int p0), .val (.int p1), .val (.ref wU), .val (.ref wU), .val (.ref wU), .unset] [(.ref wU), (.int (1 : Int32))]))
          obtain ⟨T36, X36, e36, st36⟩ := own_callP (y := (⟨"com/example/clementi/clementi/query/TruthAndPinLaw", "rank", "(Lcom/example/clementi/clementi/query/Truth;)I"⟩ : MethodName)) (W := 1) X35 hx hZ hown (hw _ (List.mem_of_getElem? (i := 14) rfl)) (hw _ (List.mem_of_getElem? (i := 15) rfl)) (hw _ (List.mem_of_getElem? (i := 2) rfl)) (hw _ (List.mem_of_getElem? (i := 16) rfl)) (by decide) (own_rankU l Z a0 hw [] wU wF wT h0 i_S1 i_S2 i_S3 ne_wF_wU ne_wF_wT ne_wU_wT) (by decide) (by decide) rfl rfl (by decide) (by decide) e35 (pc := 22) (Ls := #[.val (.int p0), .val (.int p1), .val (.ref wU), .val (.ref wU), .val (.ref wU), .unset]) (st := [(.ref wU), (.int (1 : Int32))]) (argsL := [(.ref wU)]) (rest := [(.int (1 : Int32))]) (by rw [hml]; rfl) (lenOf own_pd2 rfl) rfl rfl (Nat.le_of_eq rfl) (hb hby at_22)
          refine own_via st36 ?_
          show own_G p e below _ (T36.setTop (mkF m 25 #[.val (.int p0), .val (.int p1), .val (.ref wU), .val (.ref wU), .val (.ref wU), .unset] [(.int (1 : Int32)), (.int (1 : Int32))]))
          obtain ⟨T37, X37, e37, st37⟩ := own_callP (y := (⟨"java/lang/Math", "min", "(II)I"⟩ : MethodName)) (W := 0) X36 hx hZ hown (hw _ (List.mem_of_getElem? (i := 17) rfl)) (hw _ (List.mem_of_getElem? (i := 18) rfl)) (hw _ (List.mem_of_getElem? (i := 19) rfl)) (hw _ (List.mem_of_getElem? (i := 20) rfl)) (by decide) (own_rm4 l Z a0 hw [] (1 : Int32) (1 : Int32) h0) (by decide) (by decide) rfl rfl (by decide) (by decide) e36 (pc := 25) (Ls := #[.val (.int p0), .val (.int p1), .val (.ref wU), .val (.ref wU), .val (.ref wU), .unset]) (st := [(.int (1 : Int32)), (.int (1 : Int32))]) (argsL := [(.int (1 : Int32)), (.int (1 : Int32))]) (rest := []) (by rw [hml]; rfl) (lenOf own_pd3 rfl) rfl rfl (Nat.le_of_eq rfl) (hb hby at_25)
          refine own_via st37 ?_
          show own_G p e below _ (T37.setTop (mkF m 28 #[.val (.int p0), .val (.int p1), .val (.ref wU), .val (.ref wU), .val (.ref wU), .unset] [(.int (own_F4 (1 : Int32) (1 : Int32)))]))
          rw [show (own_F4 (1 : Int32) (1 : Int32)) = (1 : Int32) from by decide]
          show own_G p e below _ (T37.setTop (mkF m 28 #[.val (.int p0), .val (.int p1), .val (.ref wU), .val (.ref wU), .val (.ref wU), .unset] [(.int (1 : Int32))]))
          refine own_via (fun t k => XS.istore X37.here hx rfl (hb hby at_28) rfl (l' := #[.val (.int p0), .val (.int p1), .val (.ref wU), .val (.ref wU), .val (.ref wU), .val (.int (1 : Int32))]) rfl k) ?_
          show own_G p e below _ (T37.setTop (mkF m 30 #[.val (.int p0), .val (.int p1), .val (.ref wU), .val (.ref wU), .val (.ref wU), .val (.int (1 : Int32))] []))
          refine own_via (fun t k => XS.aload X37.here hx rfl (hb hby at_30) rfl rfl k) ?_
          show own_G p e below _ (T37.setTop (mkF m 32 #[.val (.int p0), .val (.int p1), .val (.ref wU), .val (.ref wU), .val (.ref wU), .val (.int (1 : Int32))] [(.ref wU)]))
          obtain ⟨T38, X38, e38, st38⟩ := own_callP (y := (⟨"com/example/clementi/clementi/query/TruthAndPinLaw", "rank", "(Lcom/example/clementi/clementi/query/Truth;)I"⟩ : MethodName)) (W := 0) X37 hx hZ hown (hw _ (List.mem_of_getElem? (i := 14) rfl)) (hw _ (List.mem_of_getElem? (i := 15) rfl)) (hw _ (List.mem_of_getElem? (i := 2) rfl)) (hw _ (List.mem_of_getElem? (i := 16) rfl)) (by decide) (own_rankU l Z a0 hw [] wU wF wT h0 i_S1 i_S2 i_S3 ne_wF_wU ne_wF_wT ne_wU_wT) (by decide) (by decide) rfl rfl (by decide) (by decide) e37 (pc := 32) (Ls := #[.val (.int p0), .val (.int p1), .val (.ref wU), .val (.ref wU), .val (.ref wU), .val (.int (1 : Int32))]) (st := [(.ref wU)]) (argsL := [(.ref wU)]) (rest := []) (by rw [hml]; rfl) (lenOf own_pd2 rfl) rfl rfl (Nat.le_of_eq rfl) (hb hby at_32)
          refine own_via st38 ?_
          show own_G p e below _ (T38.setTop (mkF m 35 #[.val (.int p0), .val (.int p1), .val (.ref wU), .val (.ref wU), .val (.ref wU), .val (.int (1 : Int32))] [(.int (1 : Int32))]))
          refine own_via (fun t k => XS.iload X38.here hx rfl (hb hby at_35) rfl k) ?_
          show own_G p e below _ (T38.setTop (mkF m 37 #[.val (.int p0), .val (.int p1), .val (.ref wU), .val (.ref wU), .val (.ref wU), .val (.int (1 : Int32))] [(.int (1 : Int32)), (.int (1 : Int32))]))
          refine own_via (fun t k => XS.icmpNo X38.here hx rfl (hb hby at_37) rfl (teq (by decide : (1 : Int32) = (1 : Int32))).2 k) ?_
          show own_G p e below _ (T38.setTop (mkF m 40 #[.val (.int p0), .val (.int p1), .val (.ref wU), .val (.ref wU), .val (.ref wU), .val (.int (1 : Int32))] []))
          refine own_via (fun t k => XS.iconst X38.here hx rfl (hb hby at_40) k) ?_
          show own_G p e below _ (T38.setTop (mkF m 41 #[.val (.int p0), .val (.int p1), .val (.ref wU), .val (.ref wU), .val (.ref wU), .val (.int (1 : Int32))] [(.int (1 : Int32))]))
          refine own_via (fun t k => XS.goto X38.here hx rfl (pc0 := 41) (pc' := 45) rfl (hb hby at_41) (by decide) (by decide) k) ?_
          show own_G p e below _ (T38.setTop (mkF m 45 #[.val (.int p0), .val (.int p1), .val (.ref wU), .val (.ref wU), .val (.ref wU), .val (.int (1 : Int32))] [(.int (1 : Int32))]))
          exact own_retN (t := .boolean) X38 hx Bd.returns (by simp) Bd.notSynchronized (hb hby at_45) ⟨N0, rfl⟩ (by decide) (by decide)
        ·
          show own_G p e below _ (T24.setTop (mkF m 6 #[.val (.int p0), .val (.int p1), .val (.ref wU), .unset, .unset, .unset] [(.int p1)]))
          obtain ⟨T39, X39, e39, st39⟩ := own_callP (y := (⟨"com/example/clementi/clementi/query/TruthAndPinLaw", "pick", "(I)Lcom/example/clementi/clementi/query/Truth;"⟩ : MethodName)) (W := 0) X24 hx hZ hown (hw _ (List.mem_of_getElem? (i := 0) rfl)) (hw _ (List.mem_of_getElem? (i := 1) rfl)) (hw _ (List.mem_of_getElem? (i := 2) rfl)) (hw _ (List.mem_of_getElem? (i := 3) rfl)) (by decide) (own_pickT l Z a0 hw [] p1 wF wU wT h0 i_S1 i_S2 i_S3 hc25 hc32) (by decide) (by decide) rfl rfl (by decide) (by decide) e24 (pc := 6) (Ls := #[.val (.int p0), .val (.int p1), .val (.ref wU), .unset, .unset, .unset]) (st := [(.int p1)]) (argsL := [(.int p1)]) (rest := []) (by rw [hml]; rfl) (lenOf own_pd0 rfl) rfl rfl (Nat.le_of_eq rfl) (hb hby at_6)
          refine own_via st39 ?_
          show own_G p e below _ (T39.setTop (mkF m 9 #[.val (.int p0), .val (.int p1), .val (.ref wU), .unset, .unset, .unset] [(.ref wT)]))
          refine own_via (fun t k => XS.astoreN X39.here hx rfl (hb hby at_9) rfl rfl (l' := #[.val (.int p0), .val (.int p1), .val (.ref wU), .val (.ref wT), .unset, .unset]) rfl k) ?_
          show own_G p e below _ (T39.setTop (mkF m 10 #[.val (.int p0), .val (.int p1), .val (.ref wU), .val (.ref wT), .unset, .unset] []))
          refine own_via (fun t k => XS.aloadN X39.here hx rfl (hb hby at_10) rfl rfl k) ?_
          show own_G p e below _ (T39.setTop (mkF m 11 #[.val (.int p0), .val (.int p1), .val (.ref wU), .val (.ref wT), .unset, .unset] [(.ref wU)]))
          refine own_via (fun t k => XS.aloadN X39.here hx rfl (hb hby at_11) rfl rfl k) ?_
          show own_G p e below _ (T39.setTop (mkF m 12 #[.val (.int p0), .val (.int p1), .val (.ref wU), .val (.ref wT), .unset, .unset] [(.ref wT), (.ref wU)]))
          obtain ⟨T40, X40, e40, st40⟩ := own_callVP (y := (⟨"com/example/clementi/clementi/query/Truth", "and", "(Lcom/example/clementi/clementi/query/Truth;)Lcom/example/clementi/clementi/query/Truth;"⟩ : MethodName)) (z := (⟨"com/example/clementi/clementi/query/Truth", "and", "(Lcom/example/clementi/clementi/query/Truth;)Lcom/example/clementi/clementi/query/Truth;"⟩ : MethodName)) (W := 0) (a := wU) X39 hx hZ hown (hw _ (List.mem_of_getElem? (i := 8) rfl)) (hw _ (List.mem_of_getElem? (i := 9) rfl)) (notFace_of_selects (args := #[]) (mvT hZ (hw _ (List.mem_of_getElem? (i := 11) rfl)))) (hw _ (List.mem_of_getElem? (i := 11) rfl)) (hw _ (List.mem_of_getElem? (i := 10) rfl)) (hw _ (List.mem_of_getElem? (i := 6) rfl)) (hw _ (List.mem_of_getElem? (i := 12) rfl)) (by decide) (own_andUT l Z a0 hw [] wU wT wF h0 i_S1 i_S2 i_S3 ne_wF_wU ne_wF_wT ne_wU_wT) (by decide) (by decide) rfl rfl (by decide) (by decide) e39 i_E2 (pc := 12) (Ls := #[.val (.int p0), .val (.int p1), .val (.ref wU), .val (.ref wT), .unset, .unset]) (st := [(.ref wT), (.ref wU)]) (argsL := [(.ref wT)]) (rest := []) (by rw [hml]; rfl) (lenOf own_pd1 rfl) rfl rfl (Nat.le_of_eq rfl) (hb hby at_12)
          refine own_via st40 ?_
          show own_G p e below _ (T40.setTop (mkF m 15 #[.val (.int p0), .val (.int p1), .val (.ref wU), .val (.ref wT), .unset, .unset] [(.ref wU)]))
          refine own_via (fun t k => XS.astore X40.here hx rfl (hb hby at_15) rfl rfl (l' := #[.val (.int p0), .val (.int p1), .val (.ref wU), .val (.ref wT), .val (.ref wU), .unset]) rfl k) ?_
          show own_G p e below _ (T40.setTop (mkF m 17 #[.val (.int p0), .val (.int p1), .val (.ref wU), .val (.ref wT), .val (.ref wU), .unset] []))
          refine own_via (fun t k => XS.aloadN X40.here hx rfl (hb hby at_17) rfl rfl k) ?_
          show own_G p e below _ (T40.setTop (mkF m 18 #[.val (.int p0), .val (.int p1), .val (.ref wU), .val (.ref wT), .val (.ref wU), .unset] [(.ref wU)]))
          obtain ⟨T41, X41, e41, st41⟩ := own_callP (y := (⟨"com/example/clementi/clementi/query/TruthAndPinLaw", "rank", "(Lcom/example/clementi/clementi/query/Truth;)I"⟩ : MethodName)) (W := 0) X40 hx hZ hown (hw _ (List.mem_of_getElem? (i := 14) rfl)) (hw _ (List.mem_of_getElem? (i := 15) rfl)) (hw _ (List.mem_of_getElem? (i := 2) rfl)) (hw _ (List.mem_of_getElem? (i := 16) rfl)) (by decide) (own_rankU l Z a0 hw [] wU wF wT h0 i_S1 i_S2 i_S3 ne_wF_wU ne_wF_wT ne_wU_wT) (by decide) (by decide) rfl rfl (by decide) (by decide) e40 (pc := 18) (Ls := #[.val (.int p0), .val (.int p1), .val (.ref wU), .val (.ref wT), .val (.ref wU), .unset]) (st := [(.ref wU)]) (argsL := [(.ref wU)]) (rest := []) (by rw [hml]; rfl) (lenOf own_pd2 rfl) rfl rfl (Nat.le_of_eq rfl) (hb hby at_18)
          refine own_via st41 ?_
          show own_G p e below _ (T41.setTop (mkF m 21 #[.val (.int p0), .val (.int p1), .val (.ref wU), .val (.ref wT), .val (.ref wU), .unset] [(.int (1 : Int32))]))
          refine own_via (fun t k => XS.aloadN X41.here hx rfl (hb hby at_21) rfl rfl k) ?_
          show own_G p e below _ (T41.setTop (mkF m 22 #[.val (.int p0), .val (.int p1), .val (.ref wU), .val (.ref wT), .val (.ref wU), .unset] [(.ref wT), (.int (1 : Int32))]))
          obtain ⟨T42, X42, e42, st42⟩ := own_callP (y := (⟨"com/example/clementi/clementi/query/TruthAndPinLaw", "rank", "(Lcom/example/clementi/clementi/query/Truth;)I"⟩ : MethodName)) (W := 1) X41 hx hZ hown (hw _ (List.mem_of_getElem? (i := 14) rfl)) (hw _ (List.mem_of_getElem? (i := 15) rfl)) (hw _ (List.mem_of_getElem? (i := 2) rfl)) (hw _ (List.mem_of_getElem? (i := 16) rfl)) (by decide) (own_rankT l Z a0 hw [] wT wF wU h0 i_S1 i_S2 i_S3 ne_wF_wU ne_wF_wT ne_wU_wT) (by decide) (by decide) rfl rfl (by decide) (by decide) e41 (pc := 22) (Ls := #[.val (.int p0), .val (.int p1), .val (.ref wU), .val (.ref wT), .val (.ref wU), .unset]) (st := [(.ref wT), (.int (1 : Int32))]) (argsL := [(.ref wT)]) (rest := [(.int (1 : Int32))]) (by rw [hml]; rfl) (lenOf own_pd2 rfl) rfl rfl (Nat.le_of_eq rfl) (hb hby at_22)
          refine own_via st42 ?_
          show own_G p e below _ (T42.setTop (mkF m 25 #[.val (.int p0), .val (.int p1), .val (.ref wU), .val (.ref wT), .val (.ref wU), .unset] [(.int (2 : Int32)), (.int (1 : Int32))]))
          obtain ⟨T43, X43, e43, st43⟩ := own_callP (y := (⟨"java/lang/Math", "min", "(II)I"⟩ : MethodName)) (W := 0) X42 hx hZ hown (hw _ (List.mem_of_getElem? (i := 17) rfl)) (hw _ (List.mem_of_getElem? (i := 18) rfl)) (hw _ (List.mem_of_getElem? (i := 19) rfl)) (hw _ (List.mem_of_getElem? (i := 20) rfl)) (by decide) (own_rm4 l Z a0 hw [] (1 : Int32) (2 : Int32) h0) (by decide) (by decide) rfl rfl (by decide) (by decide) e42 (pc := 25) (Ls := #[.val (.int p0), .val (.int p1), .val (.ref wU), .val (.ref wT), .val (.ref wU), .unset]) (st := [(.int (2 : Int32)), (.int (1 : Int32))]) (argsL := [(.int (1 : Int32)), (.int (2 : Int32))]) (rest := []) (by rw [hml]; rfl) (lenOf own_pd3 rfl) rfl rfl (Nat.le_of_eq rfl) (hb hby at_25)
          refine own_via st43 ?_
          show own_G p e below _ (T43.setTop (mkF m 28 #[.val (.int p0), .val (.int p1), .val (.ref wU), .val (.ref wT), .val (.ref wU), .unset] [(.int (own_F4 (1 : Int32) (2 : Int32)))]))
          rw [show (own_F4 (1 : Int32) (2 : Int32)) = (1 : Int32) from by decide]
          show own_G p e below _ (T43.setTop (mkF m 28 #[.val (.int p0), .val (.int p1), .val (.ref wU), .val (.ref wT), .val (.ref wU), .unset] [(.int (1 : Int32))]))
          refine own_via (fun t k => XS.istore X43.here hx rfl (hb hby at_28) rfl (l' := #[.val (.int p0), .val (.int p1), .val (.ref wU), .val (.ref wT), .val (.ref wU), .val (.int (1 : Int32))]) rfl k) ?_
          show own_G p e below _ (T43.setTop (mkF m 30 #[.val (.int p0), .val (.int p1), .val (.ref wU), .val (.ref wT), .val (.ref wU), .val (.int (1 : Int32))] []))
          refine own_via (fun t k => XS.aload X43.here hx rfl (hb hby at_30) rfl rfl k) ?_
          show own_G p e below _ (T43.setTop (mkF m 32 #[.val (.int p0), .val (.int p1), .val (.ref wU), .val (.ref wT), .val (.ref wU), .val (.int (1 : Int32))] [(.ref wU)]))
          obtain ⟨T44, X44, e44, st44⟩ := own_callP (y := (⟨"com/example/clementi/clementi/query/TruthAndPinLaw", "rank", "(Lcom/example/clementi/clementi/query/Truth;)I"⟩ : MethodName)) (W := 0) X43 hx hZ hown (hw _ (List.mem_of_getElem? (i := 14) rfl)) (hw _ (List.mem_of_getElem? (i := 15) rfl)) (hw _ (List.mem_of_getElem? (i := 2) rfl)) (hw _ (List.mem_of_getElem? (i := 16) rfl)) (by decide) (own_rankU l Z a0 hw [] wU wF wT h0 i_S1 i_S2 i_S3 ne_wF_wU ne_wF_wT ne_wU_wT) (by decide) (by decide) rfl rfl (by decide) (by decide) e43 (pc := 32) (Ls := #[.val (.int p0), .val (.int p1), .val (.ref wU), .val (.ref wT), .val (.ref wU), .val (.int (1 : Int32))]) (st := [(.ref wU)]) (argsL := [(.ref wU)]) (rest := []) (by rw [hml]; rfl) (lenOf own_pd2 rfl) rfl rfl (Nat.le_of_eq rfl) (hb hby at_32)
          refine own_via st44 ?_
          show own_G p e below _ (T44.setTop (mkF m 35 #[.val (.int p0), .val (.int p1), .val (.ref wU), .val (.ref wT), .val (.ref wU), .val (.int (1 : Int32))] [(.int (1 : Int32))]))
          refine own_via (fun t k => XS.iload X44.here hx rfl (hb hby at_35) rfl k) ?_
          show own_G p e below _ (T44.setTop (mkF m 37 #[.val (.int p0), .val (.int p1), .val (.ref wU), .val (.ref wT), .val (.ref wU), .val (.int (1 : Int32))] [(.int (1 : Int32)), (.int (1 : Int32))]))
          refine own_via (fun t k => XS.icmpNo X44.here hx rfl (hb hby at_37) rfl (teq (by decide : (1 : Int32) = (1 : Int32))).2 k) ?_
          show own_G p e below _ (T44.setTop (mkF m 40 #[.val (.int p0), .val (.int p1), .val (.ref wU), .val (.ref wT), .val (.ref wU), .val (.int (1 : Int32))] []))
          refine own_via (fun t k => XS.iconst X44.here hx rfl (hb hby at_40) k) ?_
          show own_G p e below _ (T44.setTop (mkF m 41 #[.val (.int p0), .val (.int p1), .val (.ref wU), .val (.ref wT), .val (.ref wU), .val (.int (1 : Int32))] [(.int (1 : Int32))]))
          refine own_via (fun t k => XS.goto X44.here hx rfl (pc0 := 41) (pc' := 45) rfl (hb hby at_41) (by decide) (by decide) k) ?_
          show own_G p e below _ (T44.setTop (mkF m 45 #[.val (.int p0), .val (.int p1), .val (.ref wU), .val (.ref wT), .val (.ref wU), .val (.int (1 : Int32))] [(.int (1 : Int32))]))
          exact own_retN (t := .boolean) X44 hx Bd.returns (by simp) Bd.notSynchronized (hb hby at_45) ⟨N0, rfl⟩ (by decide) (by decide)
    ·
      show own_G p e below _ (s₁.setTop (mkF m 1 #[.val (.int p0), .val (.int p1), .unset, .unset, .unset, .unset] [(.int p0)]))
      obtain ⟨T45, X45, e45, st45⟩ := own_callP (y := (⟨"com/example/clementi/clementi/query/TruthAndPinLaw", "pick", "(I)Lcom/example/clementi/clementi/query/Truth;"⟩ : MethodName)) (W := 0) X0 hx hZ hown (hw _ (List.mem_of_getElem? (i := 0) rfl)) (hw _ (List.mem_of_getElem? (i := 1) rfl)) (hw _ (List.mem_of_getElem? (i := 2) rfl)) (hw _ (List.mem_of_getElem? (i := 3) rfl)) (by decide) (own_pickT l Z a0 hw [] p0 wF wU wT h0 i_S1 i_S2 i_S3 hc1 hc23) (by decide) (by decide) rfl rfl (by decide) (by decide) e0 (pc := 1) (Ls := #[.val (.int p0), .val (.int p1), .unset, .unset, .unset, .unset]) (st := [(.int p0)]) (argsL := [(.int p0)]) (rest := []) (by rw [hml]; rfl) (lenOf own_pd0 rfl) rfl rfl (Nat.le_of_eq rfl) (hb hby at_1)
      refine own_via st45 ?_
      show own_G p e below _ (T45.setTop (mkF m 4 #[.val (.int p0), .val (.int p1), .unset, .unset, .unset, .unset] [(.ref wT)]))
      refine own_via (fun t k => XS.astoreN X45.here hx rfl (hb hby at_4) rfl rfl (l' := #[.val (.int p0), .val (.int p1), .val (.ref wT), .unset, .unset, .unset]) rfl k) ?_
      show own_G p e below _ (T45.setTop (mkF m 5 #[.val (.int p0), .val (.int p1), .val (.ref wT), .unset, .unset, .unset] []))
      refine own_via (fun t k => XS.iloadN X45.here hx rfl (hb hby at_5) rfl k) ?_
      show own_G p e below _ (T45.setTop (mkF m 6 #[.val (.int p0), .val (.int p1), .val (.ref wT), .unset, .unset, .unset] [(.int p1)]))
      by_cases hc46 : ((p1 &&& (2147483647 : Int32)) - ((p1 &&& (2147483647 : Int32)) / (3 : Int32)) * (3 : Int32)) = (0 : Int32)
      ·
        show own_G p e below _ (T45.setTop (mkF m 6 #[.val (.int p0), .val (.int p1), .val (.ref wT), .unset, .unset, .unset] [(.int p1)]))
        obtain ⟨T47, X47, e47, st47⟩ := own_callP (y := (⟨"com/example/clementi/clementi/query/TruthAndPinLaw", "pick", "(I)Lcom/example/clementi/clementi/query/Truth;"⟩ : MethodName)) (W := 0) X45 hx hZ hown (hw _ (List.mem_of_getElem? (i := 0) rfl)) (hw _ (List.mem_of_getElem? (i := 1) rfl)) (hw _ (List.mem_of_getElem? (i := 2) rfl)) (hw _ (List.mem_of_getElem? (i := 3) rfl)) (by decide) (own_pickF l Z a0 hw [] p1 wF wU wT h0 i_S1 i_S2 i_S3 hc46) (by decide) (by decide) rfl rfl (by decide) (by decide) e45 (pc := 6) (Ls := #[.val (.int p0), .val (.int p1), .val (.ref wT), .unset, .unset, .unset]) (st := [(.int p1)]) (argsL := [(.int p1)]) (rest := []) (by rw [hml]; rfl) (lenOf own_pd0 rfl) rfl rfl (Nat.le_of_eq rfl) (hb hby at_6)
        refine own_via st47 ?_
        show own_G p e below _ (T47.setTop (mkF m 9 #[.val (.int p0), .val (.int p1), .val (.ref wT), .unset, .unset, .unset] [(.ref wF)]))
        refine own_via (fun t k => XS.astoreN X47.here hx rfl (hb hby at_9) rfl rfl (l' := #[.val (.int p0), .val (.int p1), .val (.ref wT), .val (.ref wF), .unset, .unset]) rfl k) ?_
        show own_G p e below _ (T47.setTop (mkF m 10 #[.val (.int p0), .val (.int p1), .val (.ref wT), .val (.ref wF), .unset, .unset] []))
        refine own_via (fun t k => XS.aloadN X47.here hx rfl (hb hby at_10) rfl rfl k) ?_
        show own_G p e below _ (T47.setTop (mkF m 11 #[.val (.int p0), .val (.int p1), .val (.ref wT), .val (.ref wF), .unset, .unset] [(.ref wT)]))
        refine own_via (fun t k => XS.aloadN X47.here hx rfl (hb hby at_11) rfl rfl k) ?_
        show own_G p e below _ (T47.setTop (mkF m 12 #[.val (.int p0), .val (.int p1), .val (.ref wT), .val (.ref wF), .unset, .unset] [(.ref wF), (.ref wT)]))
        obtain ⟨T48, X48, e48, st48⟩ := own_callVP (y := (⟨"com/example/clementi/clementi/query/Truth", "and", "(Lcom/example/clementi/clementi/query/Truth;)Lcom/example/clementi/clementi/query/Truth;"⟩ : MethodName)) (z := (⟨"com/example/clementi/clementi/query/Truth", "and", "(Lcom/example/clementi/clementi/query/Truth;)Lcom/example/clementi/clementi/query/Truth;"⟩ : MethodName)) (W := 0) (a := wT) X47 hx hZ hown (hw _ (List.mem_of_getElem? (i := 8) rfl)) (hw _ (List.mem_of_getElem? (i := 9) rfl)) (notFace_of_selects (args := #[]) (mvT hZ (hw _ (List.mem_of_getElem? (i := 11) rfl)))) (hw _ (List.mem_of_getElem? (i := 11) rfl)) (hw _ (List.mem_of_getElem? (i := 10) rfl)) (hw _ (List.mem_of_getElem? (i := 6) rfl)) (hw _ (List.mem_of_getElem? (i := 12) rfl)) (by decide) (own_andTF l Z a0 hw [] wT wF wU h0 i_S1 i_S2 i_S3 ne_wF_wU ne_wF_wT ne_wU_wT) (by decide) (by decide) rfl rfl (by decide) (by decide) e47 i_E3 (pc := 12) (Ls := #[.val (.int p0), .val (.int p1), .val (.ref wT), .val (.ref wF), .unset, .unset]) (st := [(.ref wF), (.ref wT)]) (argsL := [(.ref wF)]) (rest := []) (by rw [hml]; rfl) (lenOf own_pd1 rfl) rfl rfl (Nat.le_of_eq rfl) (hb hby at_12)
        refine own_via st48 ?_
        show own_G p e below _ (T48.setTop (mkF m 15 #[.val (.int p0), .val (.int p1), .val (.ref wT), .val (.ref wF), .unset, .unset] [(.ref wF)]))
        refine own_via (fun t k => XS.astore X48.here hx rfl (hb hby at_15) rfl rfl (l' := #[.val (.int p0), .val (.int p1), .val (.ref wT), .val (.ref wF), .val (.ref wF), .unset]) rfl k) ?_
        show own_G p e below _ (T48.setTop (mkF m 17 #[.val (.int p0), .val (.int p1), .val (.ref wT), .val (.ref wF), .val (.ref wF), .unset] []))
        refine own_via (fun t k => XS.aloadN X48.here hx rfl (hb hby at_17) rfl rfl k) ?_
        show own_G p e below _ (T48.setTop (mkF m 18 #[.val (.int p0), .val (.int p1), .val (.ref wT), .val (.ref wF), .val (.ref wF), .unset] [(.ref wT)]))
        obtain ⟨T49, X49, e49, st49⟩ := own_callP (y := (⟨"com/example/clementi/clementi/query/TruthAndPinLaw", "rank", "(Lcom/example/clementi/clementi/query/Truth;)I"⟩ : MethodName)) (W := 0) X48 hx hZ hown (hw _ (List.mem_of_getElem? (i := 14) rfl)) (hw _ (List.mem_of_getElem? (i := 15) rfl)) (hw _ (List.mem_of_getElem? (i := 2) rfl)) (hw _ (List.mem_of_getElem? (i := 16) rfl)) (by decide) (own_rankT l Z a0 hw [] wT wF wU h0 i_S1 i_S2 i_S3 ne_wF_wU ne_wF_wT ne_wU_wT) (by decide) (by decide) rfl rfl (by decide) (by decide) e48 (pc := 18) (Ls := #[.val (.int p0), .val (.int p1), .val (.ref wT), .val (.ref wF), .val (.ref wF), .unset]) (st := [(.ref wT)]) (argsL := [(.ref wT)]) (rest := []) (by rw [hml]; rfl) (lenOf own_pd2 rfl) rfl rfl (Nat.le_of_eq rfl) (hb hby at_18)
        refine own_via st49 ?_
        show own_G p e below _ (T49.setTop (mkF m 21 #[.val (.int p0), .val (.int p1), .val (.ref wT), .val (.ref wF), .val (.ref wF), .unset] [(.int (2 : Int32))]))
        refine own_via (fun t k => XS.aloadN X49.here hx rfl (hb hby at_21) rfl rfl k) ?_
        show own_G p e below _ (T49.setTop (mkF m 22 #[.val (.int p0), .val (.int p1), .val (.ref wT), .val (.ref wF), .val (.ref wF), .unset] [(.ref wF), (.int (2 : Int32))]))
        obtain ⟨T50, X50, e50, st50⟩ := own_callP (y := (⟨"com/example/clementi/clementi/query/TruthAndPinLaw", "rank", "(Lcom/example/clementi/clementi/query/Truth;)I"⟩ : MethodName)) (W := 1) X49 hx hZ hown (hw _ (List.mem_of_getElem? (i := 14) rfl)) (hw _ (List.mem_of_getElem? (i := 15) rfl)) (hw _ (List.mem_of_getElem? (i := 2) rfl)) (hw _ (List.mem_of_getElem? (i := 16) rfl)) (by decide) (own_rankF l Z a0 hw [] wF wU wT h0 i_S1 i_S2 i_S3 ne_wF_wU ne_wF_wT ne_wU_wT) (by decide) (by decide) rfl rfl (by decide) (by decide) e49 (pc := 22) (Ls := #[.val (.int p0), .val (.int p1), .val (.ref wT), .val (.ref wF), .val (.ref wF), .unset]) (st := [(.ref wF), (.int (2 : Int32))]) (argsL := [(.ref wF)]) (rest := [(.int (2 : Int32))]) (by rw [hml]; rfl) (lenOf own_pd2 rfl) rfl rfl (Nat.le_of_eq rfl) (hb hby at_22)
        refine own_via st50 ?_
        show own_G p e below _ (T50.setTop (mkF m 25 #[.val (.int p0), .val (.int p1), .val (.ref wT), .val (.ref wF), .val (.ref wF), .unset] [(.int (0 : Int32)), (.int (2 : Int32))]))
        obtain ⟨T51, X51, e51, st51⟩ := own_callP (y := (⟨"java/lang/Math", "min", "(II)I"⟩ : MethodName)) (W := 0) X50 hx hZ hown (hw _ (List.mem_of_getElem? (i := 17) rfl)) (hw _ (List.mem_of_getElem? (i := 18) rfl)) (hw _ (List.mem_of_getElem? (i := 19) rfl)) (hw _ (List.mem_of_getElem? (i := 20) rfl)) (by decide) (own_rm4 l Z a0 hw [] (2 : Int32) (0 : Int32) h0) (by decide) (by decide) rfl rfl (by decide) (by decide) e50 (pc := 25) (Ls := #[.val (.int p0), .val (.int p1), .val (.ref wT), .val (.ref wF), .val (.ref wF), .unset]) (st := [(.int (0 : Int32)), (.int (2 : Int32))]) (argsL := [(.int (2 : Int32)), (.int (0 : Int32))]) (rest := []) (by rw [hml]; rfl) (lenOf own_pd3 rfl) rfl rfl (Nat.le_of_eq rfl) (hb hby at_25)
        refine own_via st51 ?_
        show own_G p e below _ (T51.setTop (mkF m 28 #[.val (.int p0), .val (.int p1), .val (.ref wT), .val (.ref wF), .val (.ref wF), .unset] [(.int (own_F4 (2 : Int32) (0 : Int32)))]))
        rw [show (own_F4 (2 : Int32) (0 : Int32)) = (0 : Int32) from by decide]
        show own_G p e below _ (T51.setTop (mkF m 28 #[.val (.int p0), .val (.int p1), .val (.ref wT), .val (.ref wF), .val (.ref wF), .unset] [(.int (0 : Int32))]))
        refine own_via (fun t k => XS.istore X51.here hx rfl (hb hby at_28) rfl (l' := #[.val (.int p0), .val (.int p1), .val (.ref wT), .val (.ref wF), .val (.ref wF), .val (.int (0 : Int32))]) rfl k) ?_
        show own_G p e below _ (T51.setTop (mkF m 30 #[.val (.int p0), .val (.int p1), .val (.ref wT), .val (.ref wF), .val (.ref wF), .val (.int (0 : Int32))] []))
        refine own_via (fun t k => XS.aload X51.here hx rfl (hb hby at_30) rfl rfl k) ?_
        show own_G p e below _ (T51.setTop (mkF m 32 #[.val (.int p0), .val (.int p1), .val (.ref wT), .val (.ref wF), .val (.ref wF), .val (.int (0 : Int32))] [(.ref wF)]))
        obtain ⟨T52, X52, e52, st52⟩ := own_callP (y := (⟨"com/example/clementi/clementi/query/TruthAndPinLaw", "rank", "(Lcom/example/clementi/clementi/query/Truth;)I"⟩ : MethodName)) (W := 0) X51 hx hZ hown (hw _ (List.mem_of_getElem? (i := 14) rfl)) (hw _ (List.mem_of_getElem? (i := 15) rfl)) (hw _ (List.mem_of_getElem? (i := 2) rfl)) (hw _ (List.mem_of_getElem? (i := 16) rfl)) (by decide) (own_rankF l Z a0 hw [] wF wU wT h0 i_S1 i_S2 i_S3 ne_wF_wU ne_wF_wT ne_wU_wT) (by decide) (by decide) rfl rfl (by decide) (by decide) e51 (pc := 32) (Ls := #[.val (.int p0), .val (.int p1), .val (.ref wT), .val (.ref wF), .val (.ref wF), .val (.int (0 : Int32))]) (st := [(.ref wF)]) (argsL := [(.ref wF)]) (rest := []) (by rw [hml]; rfl) (lenOf own_pd2 rfl) rfl rfl (Nat.le_of_eq rfl) (hb hby at_32)
        refine own_via st52 ?_
        show own_G p e below _ (T52.setTop (mkF m 35 #[.val (.int p0), .val (.int p1), .val (.ref wT), .val (.ref wF), .val (.ref wF), .val (.int (0 : Int32))] [(.int (0 : Int32))]))
        refine own_via (fun t k => XS.iload X52.here hx rfl (hb hby at_35) rfl k) ?_
        show own_G p e below _ (T52.setTop (mkF m 37 #[.val (.int p0), .val (.int p1), .val (.ref wT), .val (.ref wF), .val (.ref wF), .val (.int (0 : Int32))] [(.int (0 : Int32)), (.int (0 : Int32))]))
        refine own_via (fun t k => XS.icmpNo X52.here hx rfl (hb hby at_37) rfl (teq (by decide : (0 : Int32) = (0 : Int32))).2 k) ?_
        show own_G p e below _ (T52.setTop (mkF m 40 #[.val (.int p0), .val (.int p1), .val (.ref wT), .val (.ref wF), .val (.ref wF), .val (.int (0 : Int32))] []))
        refine own_via (fun t k => XS.iconst X52.here hx rfl (hb hby at_40) k) ?_
        show own_G p e below _ (T52.setTop (mkF m 41 #[.val (.int p0), .val (.int p1), .val (.ref wT), .val (.ref wF), .val (.ref wF), .val (.int (0 : Int32))] [(.int (1 : Int32))]))
        refine own_via (fun t k => XS.goto X52.here hx rfl (pc0 := 41) (pc' := 45) rfl (hb hby at_41) (by decide) (by decide) k) ?_
        show own_G p e below _ (T52.setTop (mkF m 45 #[.val (.int p0), .val (.int p1), .val (.ref wT), .val (.ref wF), .val (.ref wF), .val (.int (0 : Int32))] [(.int (1 : Int32))]))
        exact own_retN (t := .boolean) X52 hx Bd.returns (by simp) Bd.notSynchronized (hb hby at_45) ⟨N0, rfl⟩ (by decide) (by decide)
      ·
        show own_G p e below _ (T45.setTop (mkF m 6 #[.val (.int p0), .val (.int p1), .val (.ref wT), .unset, .unset, .unset] [(.int p1)]))
        by_cases hc53 : ((p1 &&& (2147483647 : Int32)) - ((p1 &&& (2147483647 : Int32)) / (3 : Int32)) * (3 : Int32)) = (1 : Int32)
        ·
          show own_G p e below _ (T45.setTop (mkF m 6 #[.val (.int p0), .val (.int p1), .val (.ref wT), .unset, .unset, .unset] [(.int p1)]))
          obtain ⟨T54, X54, e54, st54⟩ := own_callP (y := (⟨"com/example/clementi/clementi/query/TruthAndPinLaw", "pick", "(I)Lcom/example/clementi/clementi/query/Truth;"⟩ : MethodName)) (W := 0) X45 hx hZ hown (hw _ (List.mem_of_getElem? (i := 0) rfl)) (hw _ (List.mem_of_getElem? (i := 1) rfl)) (hw _ (List.mem_of_getElem? (i := 2) rfl)) (hw _ (List.mem_of_getElem? (i := 3) rfl)) (by decide) (own_pickU l Z a0 hw [] p1 wF wU wT h0 i_S1 i_S2 i_S3 hc46 hc53) (by decide) (by decide) rfl rfl (by decide) (by decide) e45 (pc := 6) (Ls := #[.val (.int p0), .val (.int p1), .val (.ref wT), .unset, .unset, .unset]) (st := [(.int p1)]) (argsL := [(.int p1)]) (rest := []) (by rw [hml]; rfl) (lenOf own_pd0 rfl) rfl rfl (Nat.le_of_eq rfl) (hb hby at_6)
          refine own_via st54 ?_
          show own_G p e below _ (T54.setTop (mkF m 9 #[.val (.int p0), .val (.int p1), .val (.ref wT), .unset, .unset, .unset] [(.ref wU)]))
          refine own_via (fun t k => XS.astoreN X54.here hx rfl (hb hby at_9) rfl rfl (l' := #[.val (.int p0), .val (.int p1), .val (.ref wT), .val (.ref wU), .unset, .unset]) rfl k) ?_
          show own_G p e below _ (T54.setTop (mkF m 10 #[.val (.int p0), .val (.int p1), .val (.ref wT), .val (.ref wU), .unset, .unset] []))
          refine own_via (fun t k => XS.aloadN X54.here hx rfl (hb hby at_10) rfl rfl k) ?_
          show own_G p e below _ (T54.setTop (mkF m 11 #[.val (.int p0), .val (.int p1), .val (.ref wT), .val (.ref wU), .unset, .unset] [(.ref wT)]))
          refine own_via (fun t k => XS.aloadN X54.here hx rfl (hb hby at_11) rfl rfl k) ?_
          show own_G p e below _ (T54.setTop (mkF m 12 #[.val (.int p0), .val (.int p1), .val (.ref wT), .val (.ref wU), .unset, .unset] [(.ref wU), (.ref wT)]))
          obtain ⟨T55, X55, e55, st55⟩ := own_callVP (y := (⟨"com/example/clementi/clementi/query/Truth", "and", "(Lcom/example/clementi/clementi/query/Truth;)Lcom/example/clementi/clementi/query/Truth;"⟩ : MethodName)) (z := (⟨"com/example/clementi/clementi/query/Truth", "and", "(Lcom/example/clementi/clementi/query/Truth;)Lcom/example/clementi/clementi/query/Truth;"⟩ : MethodName)) (W := 0) (a := wT) X54 hx hZ hown (hw _ (List.mem_of_getElem? (i := 8) rfl)) (hw _ (List.mem_of_getElem? (i := 9) rfl)) (notFace_of_selects (args := #[]) (mvT hZ (hw _ (List.mem_of_getElem? (i := 11) rfl)))) (hw _ (List.mem_of_getElem? (i := 11) rfl)) (hw _ (List.mem_of_getElem? (i := 10) rfl)) (hw _ (List.mem_of_getElem? (i := 6) rfl)) (hw _ (List.mem_of_getElem? (i := 12) rfl)) (by decide) (own_andTU l Z a0 hw [] wT wU wF h0 i_S1 i_S2 i_S3 ne_wF_wU ne_wF_wT ne_wU_wT) (by decide) (by decide) rfl rfl (by decide) (by decide) e54 i_E3 (pc := 12) (Ls := #[.val (.int p0), .val (.int p1), .val (.ref wT), .val (.ref wU), .unset, .unset]) (st := [(.ref wU), (.ref wT)]) (argsL := [(.ref wU)]) (rest := []) (by rw [hml]; rfl) (lenOf own_pd1 rfl) rfl rfl (Nat.le_of_eq rfl) (hb hby at_12)
          refine own_via st55 ?_
          show own_G p e below _ (T55.setTop (mkF m 15 #[.val (.int p0), .val (.int p1), .val (.ref wT), .val (.ref wU), .unset, .unset] [(.ref wU)]))
          refine own_via (fun t k => XS.astore X55.here hx rfl (hb hby at_15) rfl rfl (l' := #[.val (.int p0), .val (.int p1), .val (.ref wT), .val (.ref wU), .val (.ref wU), .unset]) rfl k) ?_
          show own_G p e below _ (T55.setTop (mkF m 17 #[.val (.int p0), .val (.int p1), .val (.ref wT), .val (.ref wU), .val (.ref wU), .unset] []))
          refine own_via (fun t k => XS.aloadN X55.here hx rfl (hb hby at_17) rfl rfl k) ?_
          show own_G p e below _ (T55.setTop (mkF m 18 #[.val (.int p0), .val (.int p1), .val (.ref wT), .val (.ref wU), .val (.ref wU), .unset] [(.ref wT)]))
          obtain ⟨T56, X56, e56, st56⟩ := own_callP (y := (⟨"com/example/clementi/clementi/query/TruthAndPinLaw", "rank", "(Lcom/example/clementi/clementi/query/Truth;)I"⟩ : MethodName)) (W := 0) X55 hx hZ hown (hw _ (List.mem_of_getElem? (i := 14) rfl)) (hw _ (List.mem_of_getElem? (i := 15) rfl)) (hw _ (List.mem_of_getElem? (i := 2) rfl)) (hw _ (List.mem_of_getElem? (i := 16) rfl)) (by decide) (own_rankT l Z a0 hw [] wT wF wU h0 i_S1 i_S2 i_S3 ne_wF_wU ne_wF_wT ne_wU_wT) (by decide) (by decide) rfl rfl (by decide) (by decide) e55 (pc := 18) (Ls := #[.val (.int p0), .val (.int p1), .val (.ref wT), .val (.ref wU), .val (.ref wU), .unset]) (st := [(.ref wT)]) (argsL := [(.ref wT)]) (rest := []) (by rw [hml]; rfl) (lenOf own_pd2 rfl) rfl rfl (Nat.le_of_eq rfl) (hb hby at_18)
          refine own_via st56 ?_
          show own_G p e below _ (T56.setTop (mkF m 21 #[.val (.int p0), .val (.int p1), .val (.ref wT), .val (.ref wU), .val (.ref wU), .unset] [(.int (2 : Int32))]))
          refine own_via (fun t k => XS.aloadN X56.here hx rfl (hb hby at_21) rfl rfl k) ?_
          show own_G p e below _ (T56.setTop (mkF m 22 #[.val (.int p0), .val (.int p1), .val (.ref wT), .val (.ref wU), .val (.ref wU), .unset] [(.ref wU), (.int (2 : Int32))]))
          obtain ⟨T57, X57, e57, st57⟩ := own_callP (y := (⟨"com/example/clementi/clementi/query/TruthAndPinLaw", "rank", "(Lcom/example/clementi/clementi/query/Truth;)I"⟩ : MethodName)) (W := 1) X56 hx hZ hown (hw _ (List.mem_of_getElem? (i := 14) rfl)) (hw _ (List.mem_of_getElem? (i := 15) rfl)) (hw _ (List.mem_of_getElem? (i := 2) rfl)) (hw _ (List.mem_of_getElem? (i := 16) rfl)) (by decide) (own_rankU l Z a0 hw [] wU wF wT h0 i_S1 i_S2 i_S3 ne_wF_wU ne_wF_wT ne_wU_wT) (by decide) (by decide) rfl rfl (by decide) (by decide) e56 (pc := 22) (Ls := #[.val (.int p0), .val (.int p1), .val (.ref wT), .val (.ref wU), .val (.ref wU), .unset]) (st := [(.ref wU), (.int (2 : Int32))]) (argsL := [(.ref wU)]) (rest := [(.int (2 : Int32))]) (by rw [hml]; rfl) (lenOf own_pd2 rfl) rfl rfl (Nat.le_of_eq rfl) (hb hby at_22)
          refine own_via st57 ?_
          show own_G p e below _ (T57.setTop (mkF m 25 #[.val (.int p0), .val (.int p1), .val (.ref wT), .val (.ref wU), .val (.ref wU), .unset] [(.int (1 : Int32)), (.int (2 : Int32))]))
          obtain ⟨T58, X58, e58, st58⟩ := own_callP (y := (⟨"java/lang/Math", "min", "(II)I"⟩ : MethodName)) (W := 0) X57 hx hZ hown (hw _ (List.mem_of_getElem? (i := 17) rfl)) (hw _ (List.mem_of_getElem? (i := 18) rfl)) (hw _ (List.mem_of_getElem? (i := 19) rfl)) (hw _ (List.mem_of_getElem? (i := 20) rfl)) (by decide) (own_rm4 l Z a0 hw [] (2 : Int32) (1 : Int32) h0) (by decide) (by decide) rfl rfl (by decide) (by decide) e57 (pc := 25) (Ls := #[.val (.int p0), .val (.int p1), .val (.ref wT), .val (.ref wU), .val (.ref wU), .unset]) (st := [(.int (1 : Int32)), (.int (2 : Int32))]) (argsL := [(.int (2 : Int32)), (.int (1 : Int32))]) (rest := []) (by rw [hml]; rfl) (lenOf own_pd3 rfl) rfl rfl (Nat.le_of_eq rfl) (hb hby at_25)
          refine own_via st58 ?_
          show own_G p e below _ (T58.setTop (mkF m 28 #[.val (.int p0), .val (.int p1), .val (.ref wT), .val (.ref wU), .val (.ref wU), .unset] [(.int (own_F4 (2 : Int32) (1 : Int32)))]))
          rw [show (own_F4 (2 : Int32) (1 : Int32)) = (1 : Int32) from by decide]
          show own_G p e below _ (T58.setTop (mkF m 28 #[.val (.int p0), .val (.int p1), .val (.ref wT), .val (.ref wU), .val (.ref wU), .unset] [(.int (1 : Int32))]))
          refine own_via (fun t k => XS.istore X58.here hx rfl (hb hby at_28) rfl (l' := #[.val (.int p0), .val (.int p1), .val (.ref wT), .val (.ref wU), .val (.ref wU), .val (.int (1 : Int32))]) rfl k) ?_
          show own_G p e below _ (T58.setTop (mkF m 30 #[.val (.int p0), .val (.int p1), .val (.ref wT), .val (.ref wU), .val (.ref wU), .val (.int (1 : Int32))] []))
          refine own_via (fun t k => XS.aload X58.here hx rfl (hb hby at_30) rfl rfl k) ?_
          show own_G p e below _ (T58.setTop (mkF m 32 #[.val (.int p0), .val (.int p1), .val (.ref wT), .val (.ref wU), .val (.ref wU), .val (.int (1 : Int32))] [(.ref wU)]))
          obtain ⟨T59, X59, e59, st59⟩ := own_callP (y := (⟨"com/example/clementi/clementi/query/TruthAndPinLaw", "rank", "(Lcom/example/clementi/clementi/query/Truth;)I"⟩ : MethodName)) (W := 0) X58 hx hZ hown (hw _ (List.mem_of_getElem? (i := 14) rfl)) (hw _ (List.mem_of_getElem? (i := 15) rfl)) (hw _ (List.mem_of_getElem? (i := 2) rfl)) (hw _ (List.mem_of_getElem? (i := 16) rfl)) (by decide) (own_rankU l Z a0 hw [] wU wF wT h0 i_S1 i_S2 i_S3 ne_wF_wU ne_wF_wT ne_wU_wT) (by decide) (by decide) rfl rfl (by decide) (by decide) e58 (pc := 32) (Ls := #[.val (.int p0), .val (.int p1), .val (.ref wT), .val (.ref wU), .val (.ref wU), .val (.int (1 : Int32))]) (st := [(.ref wU)]) (argsL := [(.ref wU)]) (rest := []) (by rw [hml]; rfl) (lenOf own_pd2 rfl) rfl rfl (Nat.le_of_eq rfl) (hb hby at_32)
          refine own_via st59 ?_
          show own_G p e below _ (T59.setTop (mkF m 35 #[.val (.int p0), .val (.int p1), .val (.ref wT), .val (.ref wU), .val (.ref wU), .val (.int (1 : Int32))] [(.int (1 : Int32))]))
          refine own_via (fun t k => XS.iload X59.here hx rfl (hb hby at_35) rfl k) ?_
          show own_G p e below _ (T59.setTop (mkF m 37 #[.val (.int p0), .val (.int p1), .val (.ref wT), .val (.ref wU), .val (.ref wU), .val (.int (1 : Int32))] [(.int (1 : Int32)), (.int (1 : Int32))]))
          refine own_via (fun t k => XS.icmpNo X59.here hx rfl (hb hby at_37) rfl (teq (by decide : (1 : Int32) = (1 : Int32))).2 k) ?_
          show own_G p e below _ (T59.setTop (mkF m 40 #[.val (.int p0), .val (.int p1), .val (.ref wT), .val (.ref wU), .val (.ref wU), .val (.int (1 : Int32))] []))
          refine own_via (fun t k => XS.iconst X59.here hx rfl (hb hby at_40) k) ?_
          show own_G p e below _ (T59.setTop (mkF m 41 #[.val (.int p0), .val (.int p1), .val (.ref wT), .val (.ref wU), .val (.ref wU), .val (.int (1 : Int32))] [(.int (1 : Int32))]))
          refine own_via (fun t k => XS.goto X59.here hx rfl (pc0 := 41) (pc' := 45) rfl (hb hby at_41) (by decide) (by decide) k) ?_
          show own_G p e below _ (T59.setTop (mkF m 45 #[.val (.int p0), .val (.int p1), .val (.ref wT), .val (.ref wU), .val (.ref wU), .val (.int (1 : Int32))] [(.int (1 : Int32))]))
          exact own_retN (t := .boolean) X59 hx Bd.returns (by simp) Bd.notSynchronized (hb hby at_45) ⟨N0, rfl⟩ (by decide) (by decide)
        ·
          show own_G p e below _ (T45.setTop (mkF m 6 #[.val (.int p0), .val (.int p1), .val (.ref wT), .unset, .unset, .unset] [(.int p1)]))
          obtain ⟨T60, X60, e60, st60⟩ := own_callP (y := (⟨"com/example/clementi/clementi/query/TruthAndPinLaw", "pick", "(I)Lcom/example/clementi/clementi/query/Truth;"⟩ : MethodName)) (W := 0) X45 hx hZ hown (hw _ (List.mem_of_getElem? (i := 0) rfl)) (hw _ (List.mem_of_getElem? (i := 1) rfl)) (hw _ (List.mem_of_getElem? (i := 2) rfl)) (hw _ (List.mem_of_getElem? (i := 3) rfl)) (by decide) (own_pickT l Z a0 hw [] p1 wF wU wT h0 i_S1 i_S2 i_S3 hc46 hc53) (by decide) (by decide) rfl rfl (by decide) (by decide) e45 (pc := 6) (Ls := #[.val (.int p0), .val (.int p1), .val (.ref wT), .unset, .unset, .unset]) (st := [(.int p1)]) (argsL := [(.int p1)]) (rest := []) (by rw [hml]; rfl) (lenOf own_pd0 rfl) rfl rfl (Nat.le_of_eq rfl) (hb hby at_6)
          refine own_via st60 ?_
          show own_G p e below _ (T60.setTop (mkF m 9 #[.val (.int p0), .val (.int p1), .val (.ref wT), .unset, .unset, .unset] [(.ref wT)]))
          refine own_via (fun t k => XS.astoreN X60.here hx rfl (hb hby at_9) rfl rfl (l' := #[.val (.int p0), .val (.int p1), .val (.ref wT), .val (.ref wT), .unset, .unset]) rfl k) ?_
          show own_G p e below _ (T60.setTop (mkF m 10 #[.val (.int p0), .val (.int p1), .val (.ref wT), .val (.ref wT), .unset, .unset] []))
          refine own_via (fun t k => XS.aloadN X60.here hx rfl (hb hby at_10) rfl rfl k) ?_
          show own_G p e below _ (T60.setTop (mkF m 11 #[.val (.int p0), .val (.int p1), .val (.ref wT), .val (.ref wT), .unset, .unset] [(.ref wT)]))
          refine own_via (fun t k => XS.aloadN X60.here hx rfl (hb hby at_11) rfl rfl k) ?_
          show own_G p e below _ (T60.setTop (mkF m 12 #[.val (.int p0), .val (.int p1), .val (.ref wT), .val (.ref wT), .unset, .unset] [(.ref wT), (.ref wT)]))
          obtain ⟨T61, X61, e61, st61⟩ := own_callVP (y := (⟨"com/example/clementi/clementi/query/Truth", "and", "(Lcom/example/clementi/clementi/query/Truth;)Lcom/example/clementi/clementi/query/Truth;"⟩ : MethodName)) (z := (⟨"com/example/clementi/clementi/query/Truth", "and", "(Lcom/example/clementi/clementi/query/Truth;)Lcom/example/clementi/clementi/query/Truth;"⟩ : MethodName)) (W := 0) (a := wT) X60 hx hZ hown (hw _ (List.mem_of_getElem? (i := 8) rfl)) (hw _ (List.mem_of_getElem? (i := 9) rfl)) (notFace_of_selects (args := #[]) (mvT hZ (hw _ (List.mem_of_getElem? (i := 11) rfl)))) (hw _ (List.mem_of_getElem? (i := 11) rfl)) (hw _ (List.mem_of_getElem? (i := 10) rfl)) (hw _ (List.mem_of_getElem? (i := 6) rfl)) (hw _ (List.mem_of_getElem? (i := 12) rfl)) (by decide) (own_andTT l Z a0 hw [] wT wF wU h0 i_S1 i_S2 i_S3 ne_wF_wU ne_wF_wT ne_wU_wT) (by decide) (by decide) rfl rfl (by decide) (by decide) e60 i_E3 (pc := 12) (Ls := #[.val (.int p0), .val (.int p1), .val (.ref wT), .val (.ref wT), .unset, .unset]) (st := [(.ref wT), (.ref wT)]) (argsL := [(.ref wT)]) (rest := []) (by rw [hml]; rfl) (lenOf own_pd1 rfl) rfl rfl (Nat.le_of_eq rfl) (hb hby at_12)
          refine own_via st61 ?_
          show own_G p e below _ (T61.setTop (mkF m 15 #[.val (.int p0), .val (.int p1), .val (.ref wT), .val (.ref wT), .unset, .unset] [(.ref wT)]))
          refine own_via (fun t k => XS.astore X61.here hx rfl (hb hby at_15) rfl rfl (l' := #[.val (.int p0), .val (.int p1), .val (.ref wT), .val (.ref wT), .val (.ref wT), .unset]) rfl k) ?_
          show own_G p e below _ (T61.setTop (mkF m 17 #[.val (.int p0), .val (.int p1), .val (.ref wT), .val (.ref wT), .val (.ref wT), .unset] []))
          refine own_via (fun t k => XS.aloadN X61.here hx rfl (hb hby at_17) rfl rfl k) ?_
          show own_G p e below _ (T61.setTop (mkF m 18 #[.val (.int p0), .val (.int p1), .val (.ref wT), .val (.ref wT), .val (.ref wT), .unset] [(.ref wT)]))
          obtain ⟨T62, X62, e62, st62⟩ := own_callP (y := (⟨"com/example/clementi/clementi/query/TruthAndPinLaw", "rank", "(Lcom/example/clementi/clementi/query/Truth;)I"⟩ : MethodName)) (W := 0) X61 hx hZ hown (hw _ (List.mem_of_getElem? (i := 14) rfl)) (hw _ (List.mem_of_getElem? (i := 15) rfl)) (hw _ (List.mem_of_getElem? (i := 2) rfl)) (hw _ (List.mem_of_getElem? (i := 16) rfl)) (by decide) (own_rankT l Z a0 hw [] wT wF wU h0 i_S1 i_S2 i_S3 ne_wF_wU ne_wF_wT ne_wU_wT) (by decide) (by decide) rfl rfl (by decide) (by decide) e61 (pc := 18) (Ls := #[.val (.int p0), .val (.int p1), .val (.ref wT), .val (.ref wT), .val (.ref wT), .unset]) (st := [(.ref wT)]) (argsL := [(.ref wT)]) (rest := []) (by rw [hml]; rfl) (lenOf own_pd2 rfl) rfl rfl (Nat.le_of_eq rfl) (hb hby at_18)
          refine own_via st62 ?_
          show own_G p e below _ (T62.setTop (mkF m 21 #[.val (.int p0), .val (.int p1), .val (.ref wT), .val (.ref wT), .val (.ref wT), .unset] [(.int (2 : Int32))]))
          refine own_via (fun t k => XS.aloadN X62.here hx rfl (hb hby at_21) rfl rfl k) ?_
          show own_G p e below _ (T62.setTop (mkF m 22 #[.val (.int p0), .val (.int p1), .val (.ref wT), .val (.ref wT), .val (.ref wT), .unset] [(.ref wT), (.int (2 : Int32))]))
          obtain ⟨T63, X63, e63, st63⟩ := own_callP (y := (⟨"com/example/clementi/clementi/query/TruthAndPinLaw", "rank", "(Lcom/example/clementi/clementi/query/Truth;)I"⟩ : MethodName)) (W := 1) X62 hx hZ hown (hw _ (List.mem_of_getElem? (i := 14) rfl)) (hw _ (List.mem_of_getElem? (i := 15) rfl)) (hw _ (List.mem_of_getElem? (i := 2) rfl)) (hw _ (List.mem_of_getElem? (i := 16) rfl)) (by decide) (own_rankT l Z a0 hw [] wT wF wU h0 i_S1 i_S2 i_S3 ne_wF_wU ne_wF_wT ne_wU_wT) (by decide) (by decide) rfl rfl (by decide) (by decide) e62 (pc := 22) (Ls := #[.val (.int p0), .val (.int p1), .val (.ref wT), .val (.ref wT), .val (.ref wT), .unset]) (st := [(.ref wT), (.int (2 : Int32))]) (argsL := [(.ref wT)]) (rest := [(.int (2 : Int32))]) (by rw [hml]; rfl) (lenOf own_pd2 rfl) rfl rfl (Nat.le_of_eq rfl) (hb hby at_22)
          refine own_via st63 ?_
          show own_G p e below _ (T63.setTop (mkF m 25 #[.val (.int p0), .val (.int p1), .val (.ref wT), .val (.ref wT), .val (.ref wT), .unset] [(.int (2 : Int32)), (.int (2 : Int32))]))
          obtain ⟨T64, X64, e64, st64⟩ := own_callP (y := (⟨"java/lang/Math", "min", "(II)I"⟩ : MethodName)) (W := 0) X63 hx hZ hown (hw _ (List.mem_of_getElem? (i := 17) rfl)) (hw _ (List.mem_of_getElem? (i := 18) rfl)) (hw _ (List.mem_of_getElem? (i := 19) rfl)) (hw _ (List.mem_of_getElem? (i := 20) rfl)) (by decide) (own_rm4 l Z a0 hw [] (2 : Int32) (2 : Int32) h0) (by decide) (by decide) rfl rfl (by decide) (by decide) e63 (pc := 25) (Ls := #[.val (.int p0), .val (.int p1), .val (.ref wT), .val (.ref wT), .val (.ref wT), .unset]) (st := [(.int (2 : Int32)), (.int (2 : Int32))]) (argsL := [(.int (2 : Int32)), (.int (2 : Int32))]) (rest := []) (by rw [hml]; rfl) (lenOf own_pd3 rfl) rfl rfl (Nat.le_of_eq rfl) (hb hby at_25)
          refine own_via st64 ?_
          show own_G p e below _ (T64.setTop (mkF m 28 #[.val (.int p0), .val (.int p1), .val (.ref wT), .val (.ref wT), .val (.ref wT), .unset] [(.int (own_F4 (2 : Int32) (2 : Int32)))]))
          rw [show (own_F4 (2 : Int32) (2 : Int32)) = (2 : Int32) from by decide]
          show own_G p e below _ (T64.setTop (mkF m 28 #[.val (.int p0), .val (.int p1), .val (.ref wT), .val (.ref wT), .val (.ref wT), .unset] [(.int (2 : Int32))]))
          refine own_via (fun t k => XS.istore X64.here hx rfl (hb hby at_28) rfl (l' := #[.val (.int p0), .val (.int p1), .val (.ref wT), .val (.ref wT), .val (.ref wT), .val (.int (2 : Int32))]) rfl k) ?_
          show own_G p e below _ (T64.setTop (mkF m 30 #[.val (.int p0), .val (.int p1), .val (.ref wT), .val (.ref wT), .val (.ref wT), .val (.int (2 : Int32))] []))
          refine own_via (fun t k => XS.aload X64.here hx rfl (hb hby at_30) rfl rfl k) ?_
          show own_G p e below _ (T64.setTop (mkF m 32 #[.val (.int p0), .val (.int p1), .val (.ref wT), .val (.ref wT), .val (.ref wT), .val (.int (2 : Int32))] [(.ref wT)]))
          obtain ⟨T65, X65, e65, st65⟩ := own_callP (y := (⟨"com/example/clementi/clementi/query/TruthAndPinLaw", "rank", "(Lcom/example/clementi/clementi/query/Truth;)I"⟩ : MethodName)) (W := 0) X64 hx hZ hown (hw _ (List.mem_of_getElem? (i := 14) rfl)) (hw _ (List.mem_of_getElem? (i := 15) rfl)) (hw _ (List.mem_of_getElem? (i := 2) rfl)) (hw _ (List.mem_of_getElem? (i := 16) rfl)) (by decide) (own_rankT l Z a0 hw [] wT wF wU h0 i_S1 i_S2 i_S3 ne_wF_wU ne_wF_wT ne_wU_wT) (by decide) (by decide) rfl rfl (by decide) (by decide) e64 (pc := 32) (Ls := #[.val (.int p0), .val (.int p1), .val (.ref wT), .val (.ref wT), .val (.ref wT), .val (.int (2 : Int32))]) (st := [(.ref wT)]) (argsL := [(.ref wT)]) (rest := []) (by rw [hml]; rfl) (lenOf own_pd2 rfl) rfl rfl (Nat.le_of_eq rfl) (hb hby at_32)
          refine own_via st65 ?_
          show own_G p e below _ (T65.setTop (mkF m 35 #[.val (.int p0), .val (.int p1), .val (.ref wT), .val (.ref wT), .val (.ref wT), .val (.int (2 : Int32))] [(.int (2 : Int32))]))
          refine own_via (fun t k => XS.iload X65.here hx rfl (hb hby at_35) rfl k) ?_
          show own_G p e below _ (T65.setTop (mkF m 37 #[.val (.int p0), .val (.int p1), .val (.ref wT), .val (.ref wT), .val (.ref wT), .val (.int (2 : Int32))] [(.int (2 : Int32)), (.int (2 : Int32))]))
          refine own_via (fun t k => XS.icmpNo X65.here hx rfl (hb hby at_37) rfl (teq (by decide : (2 : Int32) = (2 : Int32))).2 k) ?_
          show own_G p e below _ (T65.setTop (mkF m 40 #[.val (.int p0), .val (.int p1), .val (.ref wT), .val (.ref wT), .val (.ref wT), .val (.int (2 : Int32))] []))
          refine own_via (fun t k => XS.iconst X65.here hx rfl (hb hby at_40) k) ?_
          show own_G p e below _ (T65.setTop (mkF m 41 #[.val (.int p0), .val (.int p1), .val (.ref wT), .val (.ref wT), .val (.ref wT), .val (.int (2 : Int32))] [(.int (1 : Int32))]))
          refine own_via (fun t k => XS.goto X65.here hx rfl (pc0 := 41) (pc' := 45) rfl (hb hby at_41) (by decide) (by decide) k) ?_
          show own_G p e below _ (T65.setTop (mkF m 45 #[.val (.int p0), .val (.int p1), .val (.ref wT), .val (.ref wT), .val (.ref wT), .val (.int (2 : Int32))] [(.int (1 : Int32))]))
          exact own_retN (t := .boolean) X65 hx Bd.returns (by simp) Bd.notSynchronized (hb hby at_45) ⟨N0, rfl⟩ (by decide) (by decide)
set_option maxRecDepth 65536 in
set_option maxHeartbeats 40000000 in
theorem comes_1 {Post : Tables → Env → Array Value → State → Outcome → State → Prop} (hpost : ∀ tb e args s v u, (limb_1_1.after args s (.returned v) u = true ∧ limb_1_2.after args s (.returned v) u = true) → FrameEnd s (.returned v) u (Jvm.fieldLocs frame_1_writes args s ++ Jvm.arrayLocs frame_1_arrays args s ++ Jvm.staticLocs frame_1_statics s) 0 0 → Post tb e args s (.returned v) u) :
    ArmFor flags0 classFile x code maxLocals ret World_1 tables_1 room_1 Calls_1 rest_1 Pre_1 Post := by
  intro l hfl _ _ p e ha hc hk s m args below hf hA hF happ hP
  obtain ⟨hcalls, hrest, hpre⟩ := hP
  obtain ⟨-, -, -, hnamed, -, -, -, hat⟩ := (Spec.applies_iff hf).mp happ
  obtain ⟨hg, hn⟩ := and_e (Cond.before_iff.mp (show (Jvm.Cond.and given_1 narrow_1).before args s = true from hpre))
  obtain ⟨g1, g2⟩ := and_e hg
  obtain ⟨g3, g4⟩ := and_e g2
  obtain ⟨w0, w1, rfl⟩ : ∃ w0 w1 : Value, args = #[w0, w1] := by
    have hs : args.size = 2 := by simpa [Cond.value, given_1] using g1
    obtain ⟨L⟩ := args
    match L, hs with
    | [w0, w1], _ => exact ⟨w0, w1, rfl⟩
  have hw := fun d (hd : d ∈ tables_1) => atoms_spec (ws := Jvm.Cond.code x code maxLocals ret :: tables_1) hat d (List.mem_cons_of_mem _ hd)
  obtain ⟨i0, ei0⟩ := is_v g3
  obtain rfl : w0 = (.int i0) := Option.some.inj ei0
  obtain ⟨i1, ei1⟩ := is_v g4
  obtain rfl : w1 = (.int i1) := Option.some.inj ei1
  obtain ⟨hF, hn⟩ := and_e hn
  obtain ⟨hT, hn⟩ := and_e hn
  obtain ⟨hU, hn⟩ := and_e hn
  obtain ⟨oT, hn⟩ := and_e hn
  obtain ⟨oF, oU⟩ := and_e hn
  obtain ⟨xF, eF⟩ := exa_v hF
  obtain ⟨xU, eU⟩ := exa_v hU
  obtain ⟨xT, eT⟩ := exa_v hT
  have S1 := Sta.start eF (Or.inr ⟨(hw _ (List.mem_of_getElem? (i := 6) rfl)), (hw _ (List.mem_of_getElem? (i := 7) rfl))⟩)
  have S2 := Sta.start eU (Or.inr ⟨(hw _ (List.mem_of_getElem? (i := 6) rfl)), (hw _ (List.mem_of_getElem? (i := 24) rfl))⟩)
  have S3 := Sta.start eT (Or.inr ⟨(hw _ (List.mem_of_getElem? (i := 6) rfl)), (hw _ (List.mem_of_getElem? (i := 22) rfl))⟩)
  have nFU : xF ≠ xU := (own_fldI oF eF).ne (own_fldI oU eU) (by decide)
  have nFT : xF ≠ xT := (own_fldI oF eF).ne (own_fldI oT eT) (by decide)
  have nUT : xU ≠ xT := (own_fldI oU eU).ne (own_fldI oT eT) (by decide)
  obtain ⟨n, o, h1, h2, h3, _, L, rfl, ⟨N, rfl⟩, hq⟩ := own_rm0 l s _ hw tables_1 i0 i1 xF xU xT s.heap s.heap.size (Nat.le_refl _) S1 S2 S3 (Exa.start eF hF) (Exa.start eU hU) (Exa.start eT hT) nFU nFT nUT p e ha hc hk s m _ below hf ((Spec.applies_iff_loose hf).mp happ).1 ⟨rfl, State.Warmed39.refl s, rfl⟩ trivial
  refine ⟨n, _, h1, h2, h3, hpost _ _ _ _ _ _ ⟨Cond.after_iff.mpr rfl, Cond.after_iff.mpr (eq_i res_at (Term.int_eval (1)) rfl)⟩ ⟨hq.1, hq.2.1, (hq.2.2.sift fun y hy => Or.inr (N y hy)).mono (by decide) (by decide)⟩⟩
theorem main_1_1 : Claimed_1_1 := comes_1 fun _ _ _ _ _ _ h hF => ⟨h.1, hF⟩
theorem main_1_2 : Claimed_1_2 := comes_1 fun _ _ _ _ _ _ h hF => ⟨h.2, hF⟩
end Jvm.Pilot.@@N@@
namespace Jvm.Pilot.@@N@@
open Jvm Jvm.ClassFile Sem Op Lib Jvm.Free Jvm.Stand Jvm.Pilot.@@N@@.Jvm.D
/-! MADE BY PROGRAM (witnessworld.py) out of the Statement's table words and the real class files: 13 classes; the members and pool entries that the words name. The judged class is class 1, her method 3. -/
namespace start1
open Jvm.ClassFile
def u (s : String) : CpInfo := .utf8 (stringToUtf16 s)
/-- a pool by its gaps: so many unusable entries, then the entry; so many at the end -/
def gap : Nat → List CpInfo → List CpInfo
  | 0, r => r
  | n + 1, r => .unusable :: gap n r
def poolList (es : List (Nat × CpInfo)) (last : Nat) : List CpInfo := es.foldr (fun e r => gap e.1 (e.2 :: r)) (gap last [])
def pool (es : List (Nat × CpInfo)) (last : Nat) : Array CpInfo := ⟨poolList es last⟩
def fileOf (pool : Array CpInfo) (this : Nat) (attrs : Array Attribute := #[]) (ms : Array MethodInfo := #[]) (fl : Nat := 33) (sup : Nat := 0) (ifs : Array Nat := #[]) (fds : Array FieldInfo := #[]) : ClassFile where
  minorVersion := 0
  majorVersion := 65
  constantPool := pool
  accessFlags := fl
  thisClass := this
  superClass := sup
  interfaces := ifs
  fields := fds
  methods := ms
  attributes := attrs
def plain (name : String) (sup : Option ClassId) : Class where
  name := name
  kind := .ordinary
  loader := none
  accessFlags := 33
  super := sup
  interfaces := #[]
  cf := none
  fields := #[]
  methods := #[]
  instanceTypes := #[]
  staticTypes := #[]
  resolved := #[]
  callSites := []
  init := .initialized
  statics := none
  mirror := none

def pool0 : Array CpInfo := pool [(5, u "<init>"), (0, u "()V"), (1, .class_ 10), (1, u "java/lang/Object")] 113

def k0m0 : Method := { name := "<init>", desc := "()V", sig := { parameters := [], returnType := none }, accessFlags := 1, code := none }
/-- java/lang/Object -/
def k0 : Class := { plain "java/lang/Object" none with
  accessFlags := 33
  interfaces := #[]
  cf := some (fileOf pool0 8 #[] #[{ accessFlags := 1, nameIndex := 5, descriptorIndex := 6, attributes := #[] }] 33 0 #[] #[])
  fields := #[]
  methods := #[k0m0]
  instanceTypes := #[]
  staticTypes := #[]
  resolved := Array.replicate 124 none
  statics := none }

def pool1 : Array CpInfo := pool [(2, .class_ 4), (1, u "java/lang/Object"), (0, u "<init>"), (0, u "()V"), (0, .integer 2147483647), (0, .fieldref 9 10), (0, .class_ 11), (0, .nameAndType 12 13), (0, u "com/example/clementi/clementi/query/Truth"), (0, u "FALSE"), (0, u "Lcom/example/clementi/clementi/query/Truth;"), (0, .fieldref 9 15), (0, .nameAndType 16 13), (0, u "UNKNOWN"), (0, .fieldref 9 18), (0, .nameAndType 19 13), (0, u "TRUE"), (0, .methodref 21 22), (0, .class_ 23), (0, .nameAndType 24 25), (0, u "com/example/clementi/clementi/query/TruthAndPinLaw"), (0, u "pick"), (0, u "(I)Lcom/example/clementi/clementi/query/Truth;"), (0, .methodref 9 27), (0, .nameAndType 28 29), (0, u "and"), (0, u "(Lcom/example/clementi/clementi/query/Truth;)Lcom/example/clementi/clementi/query/Truth;"), (0, .methodref 21 31), (0, .nameAndType 32 33), (0, u "rank"), (0, u "(Lcom/example/clementi/clementi/query/Truth;)I"), (0, .methodref 35 36), (0, .class_ 37), (0, .nameAndType 38 39), (0, u "java/lang/Math"), (0, u "min"), (0, u "(II)I"), (3, u "law"), (0, u "(II)Z")] 2

def k1m0 : Method := { name := "<init>", desc := "()V", sig := { parameters := [], returnType := none }, accessFlags := 1, code := none }
def k1c1 : Code := { maxStack := 2, maxLocals := 2, code := method_2_code, exceptionTable := #[], attributes := #[] }
def k1m1 : Method := { name := "pick", desc := "(I)Lcom/example/clementi/clementi/query/Truth;", sig := { parameters := [.int], returnType := some (.object "com/example/clementi/clementi/query/Truth") }, accessFlags := 10, code := some k1c1 }
def k1c2 : Code := { maxStack := 2, maxLocals := 1, code := method_3_code, exceptionTable := #[], attributes := #[] }
def k1m2 : Method := { name := "rank", desc := "(Lcom/example/clementi/clementi/query/Truth;)I", sig := { parameters := [(.object "com/example/clementi/clementi/query/Truth")], returnType := some .int }, accessFlags := 10, code := some k1c2 }
def k1c3 : Code := { maxStack := 2, maxLocals := 6, code := code, exceptionTable := #[], attributes := #[] }
def k1m3 : Method := { name := "law", desc := "(II)Z", sig := { parameters := [.int, .int], returnType := some .boolean }, accessFlags := 9, code := some k1c3 }
/-- com/example/clementi/clementi/query/TruthAndPinLaw -/
def k1 : Class := { plain "com/example/clementi/clementi/query/TruthAndPinLaw" (some 0) with
  accessFlags := 49
  interfaces := #[]
  cf := some (fileOf pool1 21 #[] #[{ accessFlags := 1, nameIndex := 5, descriptorIndex := 6, attributes := #[] }, { accessFlags := 10, nameIndex := 24, descriptorIndex := 25, attributes := #[] }, { accessFlags := 10, nameIndex := 32, descriptorIndex := 33, attributes := #[] }, { accessFlags := 9, nameIndex := 43, descriptorIndex := 44, attributes := #[] }] 49 2 #[] #[])
  fields := #[]
  methods := #[k1m0, k1m1, k1m2, k1m3]
  instanceTypes := #[]
  staticTypes := #[]
  resolved := Array.replicate 47 none
  statics := none }

def pool2 : Array CpInfo := pool [(1, .class_ 2), (0, u "java/lang/constant/Constable"), (0, .class_ 4), (0, u "java/lang/Object")] 6

/-- java/lang/constant/Constable -/
def k2 : Class := { plain "java/lang/constant/Constable" (some 0) with
  accessFlags := 1537
  interfaces := #[]
  cf := some (fileOf pool2 1 #[] #[] 1537 3 #[] #[])
  fields := #[]
  methods := #[]
  instanceTypes := #[]
  staticTypes := #[]
  resolved := Array.replicate 11 none
  statics := none }

def pool3 : Array CpInfo := pool [(1, .class_ 2), (0, u "java/lang/Comparable"), (0, .class_ 4), (0, u "java/lang/Object")] 7

/-- java/lang/Comparable -/
def k3 : Class := { plain "java/lang/Comparable" (some 0) with
  accessFlags := 1537
  interfaces := #[]
  cf := some (fileOf pool3 1 #[] #[] 1537 3 #[] #[])
  fields := #[]
  methods := #[]
  instanceTypes := #[]
  staticTypes := #[]
  resolved := Array.replicate 12 none
  statics := none }

def pool4 : Array CpInfo := pool [(1, .class_ 2), (0, u "java/io/Serializable"), (0, .class_ 4), (0, u "java/lang/Object")] 2

/-- java/io/Serializable -/
def k4 : Class := { plain "java/io/Serializable" (some 0) with
  accessFlags := 1537
  interfaces := #[]
  cf := some (fileOf pool4 1 #[] #[] 1537 3 #[] #[])
  fields := #[]
  methods := #[]
  instanceTypes := #[]
  staticTypes := #[]
  resolved := Array.replicate 7 none
  statics := none }

def pool5 : Array CpInfo := pool [(2, .class_ 4), (1, u "java/lang/Enum"), (0, u "name"), (0, u "Ljava/lang/String;"), (2, u "ordinal"), (0, u "I"), (1, .class_ 14), (1, u "java/lang/Object"), (4, u "hash"), (86, .class_ 108), (1, u "java/lang/Enum$EnumDesc"), (2, .class_ 112), (0, u "java/lang/constant/Constable"), (0, .class_ 114), (0, u "java/lang/Comparable"), (0, .class_ 116), (0, u "java/io/Serializable")] 87

/-- java/lang/Enum -/
def k5 : Class := { plain "java/lang/Enum" (some 0) with
  accessFlags := 1057
  interfaces := #[2, 3, 4]
  cf := some (fileOf pool5 2 #[.nestMembers #[106]] #[] 1057 12 #[111, 113, 115] #[{ accessFlags := 18, nameIndex := 5, descriptorIndex := 6, attributes := #[] }, { accessFlags := 18, nameIndex := 9, descriptorIndex := 10, attributes := #[] }, { accessFlags := 2, nameIndex := 19, descriptorIndex := 10, attributes := #[] }])
  fields := #[{ name := "name", type := (.object "java/lang/String"), accessFlags := 18, slot := 0, constantValue := 0 }, { name := "ordinal", type := .int, accessFlags := 18, slot := 1, constantValue := 0 }, { name := "hash", type := .int, accessFlags := 2, slot := 2, constantValue := 0 }]
  methods := #[]
  instanceTypes := #[(.object "java/lang/String"), .int, .int]
  staticTypes := #[]
  resolved := Array.replicate 204 none
  statics := none }

def pool6 : Array CpInfo := pool [(1, .class_ 2), (0, u "com/example/clementi/clementi/query/Truth"), (0, .fieldref 1 4), (0, .nameAndType 5 6), (0, u "FALSE"), (0, u "Lcom/example/clementi/clementi/query/Truth;"), (0, .fieldref 1 8), (0, .nameAndType 9 6), (0, u "TRUE"), (0, .fieldref 1 11), (0, .nameAndType 12 6), (0, u "UNKNOWN"), (2, u "$VALUES"), (0, u "[Lcom/example/clementi/clementi/query/Truth;"), (6, .class_ 25), (1, u "java/lang/Enum"), (24, u "and"), (0, u "(Lcom/example/clementi/clementi/query/Truth;)Lcom/example/clementi/clementi/query/Truth;")] 4

def k6c0 : Code := { maxStack := 2, maxLocals := 3, code := prog_33_method_5_code, exceptionTable := #[], attributes := #[] }
def k6m0 : Method := { name := "and", desc := "(Lcom/example/clementi/clementi/query/Truth;)Lcom/example/clementi/clementi/query/Truth;", sig := { parameters := [(.object "com/example/clementi/clementi/query/Truth")], returnType := some (.object "com/example/clementi/clementi/query/Truth") }, accessFlags := 0, code := some k6c0 }
/-- com/example/clementi/clementi/query/Truth -/
def k6 : Class := { plain "com/example/clementi/clementi/query/Truth" (some 5) with
  accessFlags := 16432
  interfaces := #[]
  cf := some (fileOf pool6 1 #[] #[{ accessFlags := 0, nameIndex := 50, descriptorIndex := 51, attributes := #[] }] 16432 23 #[] #[{ accessFlags := 16409, nameIndex := 5, descriptorIndex := 6, attributes := #[] }, { accessFlags := 16409, nameIndex := 9, descriptorIndex := 6, attributes := #[] }, { accessFlags := 16409, nameIndex := 12, descriptorIndex := 6, attributes := #[] }, { accessFlags := 4122, nameIndex := 15, descriptorIndex := 16, attributes := #[] }])
  fields := #[{ name := "FALSE", type := (.object "com/example/clementi/clementi/query/Truth"), accessFlags := 16409, slot := 0, constantValue := 0 }, { name := "TRUE", type := (.object "com/example/clementi/clementi/query/Truth"), accessFlags := 16409, slot := 1, constantValue := 0 }, { name := "UNKNOWN", type := (.object "com/example/clementi/clementi/query/Truth"), accessFlags := 16409, slot := 2, constantValue := 0 }, { name := "$VALUES", type := (.array (.object "com/example/clementi/clementi/query/Truth")), accessFlags := 4122, slot := 3, constantValue := 0 }]
  methods := #[k6m0]
  instanceTypes := #[(.object "java/lang/String"), .int, .int]
  staticTypes := #[(.object "com/example/clementi/clementi/query/Truth"), (.object "com/example/clementi/clementi/query/Truth"), (.object "com/example/clementi/clementi/query/Truth"), (.array (.object "com/example/clementi/clementi/query/Truth"))]
  resolved := Array.replicate 56 none
  statics := some 0 }

def pool7 : Array CpInfo := pool [(1, .class_ 2), (0, u "java/lang/Math"), (1, .class_ 6), (1, u "java/lang/Object"), (0, u "<init>"), (0, u "()V"), (89, .class_ 100), (1, u "java/lang/Math$RandomNumberGeneratorHolder"), (71, u "negativeZeroFloatBits"), (0, u "J"), (2, u "negativeZeroDoubleBits"), (24, u "min"), (43, u "$assertionsDisabled"), (0, u "Z"), (88, u "(II)I"), (2, u "twoToTheDoubleScaleDown"), (0, u "D"), (4, u "twoToTheDoubleScaleUp"), (9, u "E"), (3, u "PI"), (2, u "TAU"), (2, u "DEGREES_TO_RADIANS"), (0, u "RADIANS_TO_DEGREES")] 94

def k7m0 : Method := { name := "<init>", desc := "()V", sig := { parameters := [], returnType := none }, accessFlags := 2, code := none }
def k7c1 : Code := { maxStack := 2, maxLocals := 2, code := jdk_29_method_69_code, exceptionTable := #[], attributes := #[] }
def k7m1 : Method := { name := "min", desc := "(II)I", sig := { parameters := [.int, .int], returnType := some .int }, accessFlags := 9, code := some k7c1 }
/-- java/lang/Math -/
def k7 : Class := { plain "java/lang/Math" (some 0) with
  accessFlags := 49
  interfaces := #[]
  cf := some (fileOf pool7 1 #[.nestMembers #[98]] #[{ accessFlags := 2, nameIndex := 7, descriptorIndex := 8, attributes := #[] }, { accessFlags := 9, nameIndex := 201, descriptorIndex := 335, attributes := #[] }] 49 4 #[] #[{ accessFlags := 25, nameIndex := 354, descriptorIndex := 339, attributes := #[] }, { accessFlags := 25, nameIndex := 358, descriptorIndex := 339, attributes := #[] }, { accessFlags := 25, nameIndex := 361, descriptorIndex := 339, attributes := #[] }, { accessFlags := 26, nameIndex := 364, descriptorIndex := 339, attributes := #[] }, { accessFlags := 26, nameIndex := 365, descriptorIndex := 339, attributes := #[] }, { accessFlags := 26, nameIndex := 172, descriptorIndex := 173, attributes := #[] }, { accessFlags := 26, nameIndex := 176, descriptorIndex := 173, attributes := #[] }, { accessFlags := 8, nameIndex := 344, descriptorIndex := 339, attributes := #[] }, { accessFlags := 8, nameIndex := 338, descriptorIndex := 339, attributes := #[] }, { accessFlags := 4120, nameIndex := 245, descriptorIndex := 246, attributes := #[] }])
  fields := #[{ name := "E", type := .double, accessFlags := 25, slot := 0, constantValue := 0 }, { name := "PI", type := .double, accessFlags := 25, slot := 1, constantValue := 0 }, { name := "TAU", type := .double, accessFlags := 25, slot := 2, constantValue := 0 }, { name := "DEGREES_TO_RADIANS", type := .double, accessFlags := 26, slot := 3, constantValue := 0 }, { name := "RADIANS_TO_DEGREES", type := .double, accessFlags := 26, slot := 4, constantValue := 0 }, { name := "negativeZeroFloatBits", type := .long, accessFlags := 26, slot := 5, constantValue := 0 }, { name := "negativeZeroDoubleBits", type := .long, accessFlags := 26, slot := 6, constantValue := 0 }, { name := "twoToTheDoubleScaleUp", type := .double, accessFlags := 8, slot := 7, constantValue := 0 }, { name := "twoToTheDoubleScaleDown", type := .double, accessFlags := 8, slot := 8, constantValue := 0 }, { name := "$assertionsDisabled", type := .boolean, accessFlags := 4120, slot := 9, constantValue := 0 }]
  methods := #[k7m0, k7m1]
  instanceTypes := #[]
  staticTypes := #[.double, .double, .double, .double, .double, .long, .long, .double, .double, .boolean]
  resolved := Array.replicate 460 none
  statics := none }

def pool8 : Array CpInfo := pool [(1, u "java/lang/Cloneable"), (0, .class_ 1), (0, u "java/lang/Object"), (0, .class_ 3)] 3

/-- java/lang/Cloneable -/
def k8 : Class := { plain "java/lang/Cloneable" (some 0) with
  accessFlags := 1537
  interfaces := #[]
  cf := some (fileOf pool8 2 #[] #[] 1537 4 #[] #[])
  fields := #[]
  methods := #[]
  instanceTypes := #[]
  staticTypes := #[]
  resolved := Array.replicate 8 none
  statics := none }

/-- the primitive byte -/
def k9 : Class := { plain "byte" none with kind := .primitive 'B', accessFlags := 0x411 }
/-- [B -/
def k10 : Class := { plain "[B" (some 0) with kind := .array 9 .byte, interfaces := #[8, 4], accessFlags := 1041 }

/-- the primitive int -/
def k11 : Class := { plain "int" none with kind := .primitive 'I', accessFlags := 0x411 }
/-- [I -/
def k12 : Class := { plain "[I" (some 0) with kind := .array 11 .int, interfaces := #[8, 4], accessFlags := 1041 }

def heap : Heap := #[{ cls := 6, slots := #[.ref 1, .ref 2, .ref 3, .null], vm := .statics 6 },
  { cls := 6, slots := #[.null, .int 0, .int 0], vm := .none },
  { cls := 6, slots := #[.null, .int 1, .int 0], vm := .none },
  { cls := 6, slots := #[.null, .int 2, .int 0], vm := .none }]
def classes : Array Class := #[k0, k1, k2, k3, k4, k5, k6, k7, k8, k9, k10, k11, k12]
def interned : List (Array UInt16 × Addr) := []
def slotsUsed : Nat := 13
def theMethod : MethodId := ⟨1, 3⟩
def args0 : Array Value := #[.int 5, .int 300]
def aboutOver (below : List Frame) : State where
  vm := { classes := classes, interned := interned.toArray }
  heap := heap
  slotsUsed := slotsUsed
  threads := #[{ frames := .invoking theMethod args0 :: below }]
def below0 : List Frame := [.native { method := ⟨0, 0⟩, args := #[] }]
def about1 : State := aboutOver below0
def p0 : Program := .bare "" "" ""
def e0 : Env := launch0.env 0 0 0
theorem w_frames : about1.frames = Frame.invoking theMethod args0 :: below0 := rfl
set_option maxRecDepth 65536 in
theorem w_args : argsFit about1.vm theMethod args0 = true := by decide +kernel
set_option maxRecDepth 65536 in
theorem w_heap : heapFits about1 = true := by decide +kernel
set_option maxRecDepth 65536 in
theorem w_runnable : about1.curStatus? = some .runnable := by decide +kernel
set_option maxRecDepth 65536 in
theorem w_alone : about1.alone = true := by decide +kernel
set_option maxRecDepth 65536 in
theorem w_named : about1.methodNamed? x = some theMethod := by decide +kernel
set_option maxRecDepth 65536 in
theorem w_hears : about1.hears theMethod below0 = true := by decide +kernel
set_option maxRecDepth 65536 in
theorem w_ripe : about1.ripe theMethod args0 below0 = true := by decide +kernel
theorem w_running : about1.status = .running := rfl
set_option maxRecDepth 65536 in
theorem w_room : about1.hasRoom e0.platform room_1 = true :=
  launch0.hasRoom_least _ room_1 (by decide +kernel) (by decide +kernel) (by decide +kernel) (by decide +kernel) (by decide +kernel) (by decide +kernel)
theorem allAtoms_all (ts : List Jvm.Cond) (a : Array Jvm.Value) (st : Jvm.State) : (allAtoms ts).before a st = ts.all (fun c => c.before a st) := by
  induction ts with
  | nil => rfl
  | cons c t ih =>
    show (Jvm.Cond.and c (allAtoms t)).before a st = _
    rw [Jvm.Cond.before_and, ih, List.all_cons]
def words1 : List Jvm.Cond := Jvm.Cond.code x code maxLocals ret :: tables_1
/-- a 'code' word, met by the world's own term for the bytes: nothing is compared byte by byte -/
theorem code_word {y : MethodName} {bytes : ByteArray} {mx : Nat} {rt : Option FieldType} {a : Array Value} {s : State} {m : MethodId} {meth : Method} {c : Code} (h1 : s.methodNamed? y = some m) (h2 : s.vm.method? m = some meth) (h3 : meth.code = some c) (h4 : c.code = bytes)
    (h5 : (c.maxLocals == mx && c.exceptionTable.isEmpty && decide (c.maxStack ≤ mostOperands) && decide (meth.sig.returnType = rt) && !meth.locks && decide (parseMethodDescriptor y.desc = some meth.sig)) = true) : (Jvm.Cond.code y bytes mx rt).before a s = true := by
  simp only [Bool.and_eq_true, beq_iff_eq, Bool.not_eq_true', decide_eq_true_eq] at h5
  obtain ⟨⟨⟨⟨⟨g1, g2⟩, g3⟩, g4⟩, g5⟩, g6⟩ := h5
  simp [Cond.before, Cond.holds, Cond.value, h1, h2, h3, h4, g1, g2, g3, g4, g5, g6]
def isCode : Jvm.Cond → Bool
  | .code _ _ _ _ => true
  | _ => false
theorem all_split {L : List Jvm.Cond} {P : Jvm.Cond → Bool} (h1 : L.all (fun c => isCode c || P c) = true) (h2 : ∀ c ∈ L.filter isCode, P c = true) : L.all P = true := by
  refine List.all_eq_true.mpr fun c hc => ?_
  have h := List.all_eq_true.mp h1 c hc
  rcases Bool.eq_false_or_eq_true (isCode c) with hi | hi
  · exact h2 c (List.mem_filter.mpr ⟨hc, hi⟩)
  · simpa [hi] using h
set_option maxRecDepth 65536 in
theorem w_c0 : (Jvm.Cond.code x code maxLocals ret).before args0 about1 = true := code_word (m := ⟨1, 3⟩) (meth := k1m3) (c := k1c3) (by decide +kernel) rfl rfl rfl (by decide +kernel)
set_option maxRecDepth 65536 in
theorem w_c1 : (Jvm.Cond.code ({ cls := "com/example/clementi/clementi/query/TruthAndPinLaw", name := "pick", desc := "(I)Lcom/example/clementi/clementi/query/Truth;" } : Jvm.MethodName) method_2_code (2 : Nat) (Option.some (Jvm.ClassFile.FieldType.object "com/example/clementi/clementi/query/Truth"))).before args0 about1 = true := code_word (m := ⟨1, 1⟩) (meth := k1m1) (c := k1c1) (by decide +kernel) rfl rfl rfl (by decide +kernel)
set_option maxRecDepth 65536 in
theorem w_c2 : (Jvm.Cond.code ({ cls := "com/example/clementi/clementi/query/Truth", name := "and", desc := "(Lcom/example/clementi/clementi/query/Truth;)Lcom/example/clementi/clementi/query/Truth;" } : Jvm.MethodName) prog_33_method_5_code (3 : Nat) (Option.some (Jvm.ClassFile.FieldType.object "com/example/clementi/clementi/query/Truth"))).before args0 about1 = true := code_word (m := ⟨6, 0⟩) (meth := k6m0) (c := k6c0) (by decide +kernel) rfl rfl rfl (by decide +kernel)
set_option maxRecDepth 65536 in
theorem w_c3 : (Jvm.Cond.code ({ cls := "com/example/clementi/clementi/query/TruthAndPinLaw", name := "rank", desc := "(Lcom/example/clementi/clementi/query/Truth;)I" } : Jvm.MethodName) method_3_code (1 : Nat) (Option.some Jvm.ClassFile.FieldType.int)).before args0 about1 = true := code_word (m := ⟨1, 2⟩) (meth := k1m2) (c := k1c2) (by decide +kernel) rfl rfl rfl (by decide +kernel)
set_option maxRecDepth 65536 in
theorem w_c4 : (Jvm.Cond.code ({ cls := "java/lang/Math", name := "min", desc := "(II)I" } : Jvm.MethodName) jdk_29_method_69_code (2 : Nat) (Option.some Jvm.ClassFile.FieldType.int)).before args0 about1 = true := code_word (m := ⟨7, 1⟩) (meth := k7m1) (c := k7c1) (by decide +kernel) rfl rfl rfl (by decide +kernel)
def codes1 : List Jvm.Cond := [Jvm.Cond.code x code maxLocals ret, Jvm.Cond.code ({ cls := "com/example/clementi/clementi/query/TruthAndPinLaw", name := "pick", desc := "(I)Lcom/example/clementi/clementi/query/Truth;" } : Jvm.MethodName) method_2_code (2 : Nat) (Option.some (Jvm.ClassFile.FieldType.object "com/example/clementi/clementi/query/Truth")), Jvm.Cond.code ({ cls := "com/example/clementi/clementi/query/Truth", name := "and", desc := "(Lcom/example/clementi/clementi/query/Truth;)Lcom/example/clementi/clementi/query/Truth;" } : Jvm.MethodName) prog_33_method_5_code (3 : Nat) (Option.some (Jvm.ClassFile.FieldType.object "com/example/clementi/clementi/query/Truth")), Jvm.Cond.code ({ cls := "com/example/clementi/clementi/query/TruthAndPinLaw", name := "rank", desc := "(Lcom/example/clementi/clementi/query/Truth;)I" } : Jvm.MethodName) method_3_code (1 : Nat) (Option.some Jvm.ClassFile.FieldType.int), Jvm.Cond.code ({ cls := "java/lang/Math", name := "min", desc := "(II)I" } : Jvm.MethodName) jdk_29_method_69_code (2 : Nat) (Option.some Jvm.ClassFile.FieldType.int)]
set_option maxRecDepth 65536 in
theorem codes_eq : words1.filter isCode = codes1 := rfl
theorem w_codes : ∀ c ∈ words1.filter isCode, c.before args0 about1 = true := by
  rw [codes_eq]
  intro c hc
  simp only [codes1, List.mem_cons, List.not_mem_nil, or_false] at hc
  rcases hc with rfl | rfl | rfl | rfl | rfl
  · exact w_c0
  · exact w_c1
  · exact w_c2
  · exact w_c3
  · exact w_c4
set_option maxRecDepth 65536 in
theorem w_t1 : (words1.take 24).all (fun c => isCode c || c.before args0 about1) = true := by decide +kernel
set_option maxRecDepth 65536 in
theorem w_t2 : (words1.drop 24).all (fun c => isCode c || c.before args0 about1) = true := by decide +kernel
theorem w_tables : (allAtoms (Jvm.Cond.code x code maxLocals ret :: tables_1)).before args0 about1 = true := by
  rw [allAtoms_all]
  show words1.all (fun c => c.before args0 about1) = true
  refine all_split ?_ w_codes
  rw [← List.take_append_drop 24 words1, List.all_append, w_t1, w_t2]
  rfl
set_option maxRecDepth 65536 in
theorem w_case : (Jvm.Cond.and given_1 narrow_1).before args0 about1 = true := by decide +kernel
theorem w_applies : (headSpec (Jvm.Cond.code x code maxLocals ret :: tables_1) room_1).applies x e0.platform about1 = true :=
  (Spec.applies_iff w_frames).mpr ⟨w_running, w_runnable, w_alone, w_named, w_hears, w_ripe, w_room, w_tables⟩
theorem atStart : AtStart classFile x code maxLocals ret World_1 tables_1 room_1 Calls_1 rest_1 Pre_1 launch0 p0 e0 about1 theMethod args0 below0 :=
  ⟨lists_1, trivial, launch0.admits_env _ _ _, launch0.least_env, fairChoices_fair.cas, fairChoices_fair.clock, w_frames, w_args, w_heap, w_applies, trivial, trivial, w_case⟩
end start1
theorem witness_1 : WitnessClaimed_1 := ⟨start1.p0, start1.e0, start1.about1, start1.theMethod, start1.args0, start1.below0, start1.atStart⟩
end Jvm.Pilot.@@N@@
