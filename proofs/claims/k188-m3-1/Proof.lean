import JvmDerived
import JvmDerived.Pilot.@@N@@Statement
import JvmDerived.Pilot.@@N@@Code
set_option linter.unusedVariables false
set_option linter.unusedSimpArgs false
set_option maxRecDepth 65536
set_option maxHeartbeats 20000000
namespace Jvm.Pilot.@@N@@
open Jvm Jvm.ClassFile Sem Op Lib Jvm.Free Jvm.Stand Jvm.LawKit Jvm.RoadKit Bundle Jvm.Pilot.@@N@@.Jvm.D
section OwnKit
variable {p : Program} {l : Launch} {e : Env} {R : Room} {s : State} {m : MethodId} {args : Array Value} {below : List Frame} {meth : Method} {c : Code} {T : State} {locs : List Loc} {cells slots : Nat} {Z : State} {a0 : Array Value} {h0 : Heap}
/-- from this state the run comes to the end of the invocation, and there P holds -/
def own_G (p : Program) (e : Env) (below : List Frame) (P : Outcome → State → Prop) (st : State) : Prop :=
  ∃ (u : State) (o : Outcome), Steps p.tables e below st u ∧ u.status = .running ∧ Ended u below o ∧ P o u
theorem own_via {P : Outcome → State → Prop} {st st' : State} (k : ∀ t, Steps p.tables e below st' t → Steps p.tables e below st t) (h : own_G p e below P st') : own_G p e below P st := by
  obtain ⟨u, o, h1, h2⟩ := h
  exact ⟨u, o, k _ h1, h2⟩
/-- what a contract says of the end -/
def own_P (s : State) (Q : Option Value → Heap → List Loc → Prop) (k n : Nat) : Outcome → State → Prop := fun o u => ∃ v L, o = .returned v ∧ Q v u.heap L ∧ FrameEnd s o u L k n
/-- it returns w and leaves the heap as it was -/
def own_Q (w : Value) (h0 : Heap) : Option Value → Heap → List Loc → Prop := fun v h L => v = some w ∧ L = [] ∧ h = h0
/-- a contract -/
def own_C (l : Launch) (Z : State) (y : MethodName) (bytes : ByteArray) (maxL : Nat) (ret : Option FieldType) (ws : List Jvm.Cond) (rm : Room) (as : Array Value) (h0 : Heap) (Q : Option Value → Heap → List Loc → Prop) : Prop :=
  MetFree l y (head1 (Jvm.Cond.code y bytes maxL ret :: ws) rm) (fun a U => a = as ∧ Z.Warmed39 U.vm ∧ U.heap = h0) (fun _ _ _ _ _ => True) (fun _ U o U' => ∃ v L, o = .returned v ∧ Q v U'.heap L ∧ FrameEnd U o U' L rm.cells rm.slots)
theorem own_ret {v : Option Value} {Q : Option Value → Heap → List Loc → Prop} {k n : Nat} {st : State} (X : Stand p l e R s m args below meth c T locs cells slots) (hv : meth.sig.returnType = none → v = none) (hlocks : meth.locks = false)
    (hst : ∀ fs, (∀ (f : JFrame) (acts : List Action), f.method = m → f.locked = none → f.entered = [] → (doReturn e (T.setTop f) acts v).1 = T.setFrames fs) → Steps p.tables e below st (T.setFrames fs))
    (hQ : Q v T.heap locs) (hk : cells ≤ k) (hn : slots ≤ n) : own_G p e below (own_P s Q k n) st := by
  obtain ⟨fs, hr, hrun, hended, hW, hsame⟩ := X.leave (v := v) hv hlocks
  exact ⟨_, _, hst fs hr, hrun, hended, _, _, rfl, hQ, ⟨_, rfl⟩, hW, hsame.mono hk hn⟩
theorem own_retI {Q : Option Value → Heap → List Loc → Prop} {k n : Nat} (X : Stand p l e R s m args below meth c T locs cells slots) (hx : p.tables.exec = Jvm.exec) {pc : Nat} {Ls : Array Slot} {z : Int32} {rest : List Value} (hret : meth.sig.returnType = some .int) (hlocks : meth.locks = false) (hd : decode c.code pc = .ok (.ireturn, 1))
    (hQ : Q (some (.int z)) T.heap locs) (hk : cells ≤ k) (hn : slots ≤ n) : own_G p e below (own_P s Q k n) (T.setTop (mkF m pc Ls (.int z :: rest))) := by
  refine own_ret X (fun h => by rw [hret] at h; cases h) hlocks (fun fs hr => ?_) hQ hk hn
  have hm' : T.vm.method? m = some meth := X.method'
  have hn : narrow .int (.int z) = .int z := rfl
  show Steps p.tables e below (T.setTop { method := m, pc := pc, locals := Ls, stack := _ :: rest, locked := none }) _
  jvm_step X.here [X.here.top, hx, hd, hm', hret, hn]
  first | (intro acts; rw [hr _ acts rfl rfl rfl]) | rw [hr _ _ rfl rfl rfl]
  exact Steps.refl _
theorem own_retN {Q : Option Value → Heap → List Loc → Prop} {k n : Nat} {t : FieldType} (X : Stand p l e R s m args below meth c T locs cells slots) (hx : p.tables.exec = Jvm.exec) {pc : Nat} {Ls : Array Slot} {z : Int32} {rest : List Value} (hret : meth.sig.returnType = some t) (ht : t = .boolean ∨ t = .byte ∨ t = .char ∨ t = .short) (hlocks : meth.locks = false) (hd : decode c.code pc = .ok (.ireturn, 1))
    (hQ : Q (some (.int (nar t z))) T.heap locs) (hk : cells ≤ k) (hn : slots ≤ n) : own_G p e below (own_P s Q k n) (T.setTop (mkF m pc Ls (.int z :: rest))) :=
  own_ret X (fun h => by rw [hret] at h; cases h) hlocks (fun fs hr => retN X hx hret ht hd hr) hQ hk hn
theorem own_retL {Q : Option Value → Heap → List Loc → Prop} {k n : Nat} (X : Stand p l e R s m args below meth c T locs cells slots) (hx : p.tables.exec = Jvm.exec) {pc : Nat} {Ls : Array Slot} {z : Int64} (hret : meth.sig.returnType = some .long) (hlocks : meth.locks = false) (hd : decode c.code pc = .ok (.lreturn, 1))
    (hQ : Q (some (.long z)) T.heap locs) (hk : cells ≤ k) (hn : slots ≤ n) : own_G p e below (own_P s Q k n) (T.setTop (mkF m pc Ls [.long z])) :=
  own_ret X (fun h => by rw [hret] at h; cases h) hlocks (fun fs hr => X.lreturnOut hx hret hd hr) hQ hk hn
theorem own_retV {Q : Option Value → Heap → List Loc → Prop} {k n : Nat} (X : Stand p l e R s m args below meth c T locs cells slots) (hx : p.tables.exec = Jvm.exec) {pc : Nat} {Ls : Array Slot} (hret : meth.sig.returnType = none) (hlocks : meth.locks = false) (hd : decode c.code pc = .ok (.return_, 1))
    (hQ : Q none T.heap locs) (hk : cells ≤ k) (hn : slots ≤ n) : own_G p e below (own_P s Q k n) (T.setTop (mkF m pc Ls [])) :=
  own_ret X (fun _ => rfl) hlocks (fun fs hr => X.returnOut hx hret hd hr) hQ hk hn
theorem own_retA {Q : Option Value → Heap → List Loc → Prop} {k n : Nat} {t : FieldType} {v : Value} (X : Stand p l e R s m args below meth c T locs cells slots) (hx : p.tables.exec = Jvm.exec) {pc : Nat} {Ls : Array Slot} {rest : List Value} (hret : meth.sig.returnType = some t) (ht : t.isReference = true) (hv : v.isRef = true) (hlocks : meth.locks = false) (hd : decode c.code pc = .ok (.areturn, 1))
    (hQ : Q (some v) T.heap locs) (hk : cells ≤ k) (hn : slots ≤ n) : own_G p e below (own_P s Q k n) (T.setTop (mkF m pc Ls (v :: rest))) := by
  refine own_ret X (fun h => by rw [hret] at h; cases h) hlocks (fun fs hr => ?_) hQ hk hn
  have hm' : T.vm.method? m = some meth := X.method'
  show Steps p.tables e below (T.setTop { method := m, pc := pc, locals := Ls, stack := _ :: rest, locked := none }) _
  jvm_step X.here [X.here.top, hx, hd, hm', hret, ht, hv]
  first | (intro acts; rw [hr _ acts rfl rfl rfl]) | rw [hr _ _ rfl rfl rfl]
  exact Steps.refl _
/-- a static method by its contract -/
theorem own_callS {own : String} {index : Nat} {y : MethodName} {bytes : ByteArray} {maxL W : Nat} {ret : Option FieldType} {rm : Room} {as : Array Value} {Q : Option Value → Heap → List Loc → Prop}
    (X : Stand p l e R s m args below meth c T locs cells slots) (hx : p.tables.exec = Jvm.exec) (hZ : Z.Warmed39 s.vm) (hown : s.vm.findClass own = some m.cls)
    (w1 : (Jvm.Cond.methodLink own index y).before a0 Z = true) (w2 : (Jvm.Cond.static y).before a0 Z = true) (w3 : (Jvm.Cond.initialized y.cls).before a0 Z = true) (w4 : (Jvm.Cond.code y bytes maxL ret).before a0 Z = true)
    (hy : y.cls ≠ "java/lang/invoke/MethodHandle" ∧ y.cls ≠ "java/lang/invoke/VarHandle") (hM : own_C l Z y bytes maxL ret [] rm as h0 Q)
    (hf : rm.frames + 1 ≤ R.frames) (hl : W + (maxL + 11) + rm.locals ≤ R.locals) (hcc : cells + rm.cells ≤ R.cells) (hss : slots + rm.slots ≤ R.slots) (e0 : T.heap = h0)
    {pc : Nat} {Ls : Array Slot} {st argsL rest : List Value} (hsize : Ls.size = c.maxLocals) (hlen : ∀ sig, parseMethodDescriptor y.desc = some sig → argsL.length = sig.parameters.length) (has : argsL.toArray = as)
    (hst : st = argsL.reverse ++ rest) (hW : 2 * 0 + (rest.map fun v => v.category).sum ≤ W) (hd : decode c.code pc = .ok (.invokestatic index, 3)) :
    ∃ (v : Option Value) (T' : State) (L : List Loc), Stand p l e R s m args below meth c T' (locs ++ L) (cells + rm.cells) (slots + rm.slots) ∧ Q v T'.heap L ∧
      ∀ target, Steps p.tables e below (T'.setTop (mkF m (pc + 3) Ls (v.toList ++ rest))) target → Steps p.tables e below (T.setTop (mkF m pc Ls st)) target := by
  obtain ⟨v, _, ⟨T', L', k', n'⟩, -, X', ⟨Lc, hQ, h1, h2, h3⟩, stp⟩ := Jvm.LawKit.callS X hx (y := y) hown (mvT hZ w1) (mvT hZ w2) (mvT hZ w3) (mvT hZ w4) hy
    (backOf (W := W) hM hZ w4 w3 hf hl) (g := mkF m pc Ls st) rfl hsize (argsL := argsL) (rest := rest) hlen hst hW hd (fun _ _ => ⟨has, e0, hcc, hss⟩)
  dsimp only [Pt.U, Pt.locs, Pt.cells, Pt.slots] at X' h1 h2 h3 stp hQ
  subst h1 h2 h3
  exact ⟨v, T', Lc, X', hQ, stp⟩
/-- a static method that leaves the heap as it was -/
theorem own_callP {own : String} {index : Nat} {y : MethodName} {bytes : ByteArray} {maxL W : Nat} {ret : Option FieldType} {rm : Room} {as : Array Value} {w : Value}
    (X : Stand p l e R s m args below meth c T locs cells slots) (hx : p.tables.exec = Jvm.exec) (hZ : Z.Warmed39 s.vm) (hown : s.vm.findClass own = some m.cls)
    (w1 : (Jvm.Cond.methodLink own index y).before a0 Z = true) (w2 : (Jvm.Cond.static y).before a0 Z = true) (w3 : (Jvm.Cond.initialized y.cls).before a0 Z = true) (w4 : (Jvm.Cond.code y bytes maxL ret).before a0 Z = true)
    (hy : y.cls ≠ "java/lang/invoke/MethodHandle" ∧ y.cls ≠ "java/lang/invoke/VarHandle") (hM : own_C l Z y bytes maxL ret [] rm as h0 (own_Q w h0))
    (hf : rm.frames + 1 ≤ R.frames) (hl : W + (maxL + 11) + rm.locals ≤ R.locals) (hrc : rm.cells = 0) (hrs : rm.slots = 0) (hcc : cells + rm.cells ≤ R.cells) (hss : slots + rm.slots ≤ R.slots) (e0 : T.heap = h0)
    {pc : Nat} {Ls : Array Slot} {st argsL rest : List Value} (hsize : Ls.size = c.maxLocals) (hlen : ∀ sig, parseMethodDescriptor y.desc = some sig → argsL.length = sig.parameters.length) (has : argsL.toArray = as)
    (hst : st = argsL.reverse ++ rest) (hW : 2 * 0 + (rest.map fun v => v.category).sum ≤ W) (hd : decode c.code pc = .ok (.invokestatic index, 3)) :
    ∃ (T' : State), Stand p l e R s m args below meth c T' locs cells slots ∧ T'.heap = h0 ∧
      ∀ target, Steps p.tables e below (T'.setTop (mkF m (pc + 3) Ls (w :: rest))) target → Steps p.tables e below (T.setTop (mkF m pc Ls st)) target := by
  obtain ⟨v, T', L, X', ⟨rfl, rfl, hh⟩, stp⟩ := own_callS X hx hZ hown w1 w2 w3 w4 hy hM hf hl hcc hss e0 hsize hlen has hst hW hd
  rw [List.append_nil, hrc, hrs] at X'
  exact ⟨T', X', hh, stp⟩
theorem own_b1 {x a : Int32} (h : x < a) : x.toInt ≤ a.toInt - 1 := by rw [Int32.lt_iff_toInt_lt] at h; omega
theorem own_b2 {x a : Int32} (h : ¬ x < a) : a.toInt ≤ x.toInt := by rw [Int32.lt_iff_toInt_lt] at h; omega
theorem own_b3 {x a : Int32} (h : a < x) : a.toInt + 1 ≤ x.toInt := by rw [Int32.lt_iff_toInt_lt] at h; omega
theorem own_b4 {x a : Int32} (h : ¬ a < x) : x.toInt ≤ a.toInt := by rw [Int32.lt_iff_toInt_lt] at h; omega
theorem own_b5 {x b : Int32} {k : Int} (h : x.toInt ≤ k) (q : k < b.toInt) : x < b := by rw [Int32.lt_iff_toInt_lt]; omega
theorem own_b6 {x b : Int32} {k : Int} (h : k ≤ x.toInt) (q : b.toInt ≤ k) : ¬ x < b := by rw [Int32.lt_iff_toInt_lt]; omega
theorem own_b7 {x b : Int32} {k : Int} (h : k ≤ x.toInt) (q : b.toInt < k) : b < x := by rw [Int32.lt_iff_toInt_lt]; omega
theorem own_b8 {x b : Int32} {k : Int} (h : x.toInt ≤ k) (q : k ≤ b.toInt) : ¬ b < x := by rw [Int32.lt_iff_toInt_lt]; omega
theorem own_b9 {x b : Int32} {k : Int} (h : x.toInt ≤ k) (q : k < b.toInt) : ¬ x = b := fun e => by subst e; omega
theorem own_b10 {x b : Int32} {k : Int} (h : k ≤ x.toInt) (q : b.toInt < k) : ¬ x = b := fun e => by subst e; omega
theorem own_q1 {x a b : Int32} (h : x = a) (q : a < b) : x < b := h ▸ q
theorem own_q2 {x a b : Int32} (h : x = a) (q : ¬ a < b) : ¬ x < b := h ▸ q
theorem own_q3 {x a b : Int32} (h : x = a) (q : b < a) : b < x := h ▸ q
theorem own_q4 {x a b : Int32} (h : x = a) (q : ¬ b < a) : ¬ b < x := h ▸ q
theorem own_q5 {x a b : Int32} (h : x = a) (q : a = b) : x = b := h ▸ q
theorem own_q6 {x a b : Int32} (h : x = a) (q : ¬ a = b) : ¬ x = b := h ▸ q
end OwnKit
section OwnHeap
variable {p : Program} {l : Launch} {e : Env} {R : Room} {s : State} {m : MethodId} {args : Array Value} {below : List Frame} {meth : Method} {c : Code} {T : State} {locs : List Loc} {cells slots : Nat} {Z : State} {a0 : Array Value} {h0 h : Heap} {n0 : Nat}
/-- the writes lie at or above n0, and q says the rest -/
def own_W (n0 : Nat) (q : Option Value → Heap → Prop) : Option Value → Heap → List Loc → Prop := fun v h L => Fr n0 L ∧ q v h
theorem own_newA (X : Stand p l e R s m args below meth c T locs cells slots) (hx : p.tables.exec = Jvm.exec) (hZ : Z.Warmed39 s.vm) {aty : ArrayType} (w : (Jvm.Cond.arrayClass (newarray.typeOf aty)).before a0 Z = true) (eT : T.heap = h) {pc : Nat} {Ls : Array Slot} (hd : decode c.code pc = .ok (.newarray aty, 2)) {n : Int32} {rest : List Value}
    (hn : ¬ n < 0) {cap : Nat} (hcap : n.toNatClampNeg ≤ cap) (hb : cap * 8 ≤ 536870912) (hc : cells + 1 ≤ R.cells) (hl : slots + cap ≤ R.slots) (len : Nat) {ad : String} (had : "[" ++ (newarray.typeOf aty).toString = ad) :
    ∃ T' h' k a, Stand p l e R s m args below meth c T' locs (cells + 1) (slots + cap) ∧ T'.heap = h' ∧ Ext h h' ∧ a = h.size ∧ Arv Z h' a k (newarray.typeOf aty) n (List.replicate len (defaultValue (newarray.typeOf aty))) (defaultValue (newarray.typeOf aty)) ∧ Exa Z h' a ad ∧
      ∀ target, Steps p.tables e below (T'.setTop (mkF m (pc + 2) Ls (.ref a :: rest))) target → Steps p.tables e below (T.setTop (mkF m pc Ls (.int n :: rest))) target := by
  obtain ⟨T', h', k, X', e', E, A, Ex, st⟩ := newPE X hx hZ w eT (g := mkF m pc Ls (.int n :: rest)) rfl hd rfl hn hcap hb hc hl had
  exact ⟨T', h', k, h.size, X', e', E, rfl, (Arv.new A hn).pad (fun i => by have := pad_rep [] (defaultValue (newarray.typeOf aty)) len i; rwa [List.nil_append] at this), Ex, st⟩
theorem own_stB (X : Stand p l e R s m args below meth c T locs cells slots) (N : Fr n0 locs) (hx : p.tables.exec = Jvm.exec) (hZ : Z.Warmed39 s.vm) (eT : T.heap = h) {a : Addr} {k : ClassId} {z : Int32} {vs : List Value} {d : Value} (V : Arv Z h a k .byte z vs d) (ga : n0 ≤ a) {j x : Int32} {i : Nat} (hj : ¬ j < 0 ∧ j < z) (hi : j.toNatClampNeg = i) (hl : i < vs.length)
    {pc : Nat} {Ls : Array Slot} {rest : List Value} (hd : decode c.code pc = .ok (.bastore, 1)) :
    ∃ T' h' L', Stand p l e R s m args below meth c T' L' cells slots ∧ Fr n0 L' ∧ T'.heap = h' ∧ Wr h h' a i (.int x.toInt8.toInt32) ∧ Arv Z h' a k .byte z (vs.set i (.int x.toInt8.toInt32)) d ∧
      ∀ target, Steps p.tables e below (T'.setTop (mkF m (pc + 1) Ls rest)) target → Steps p.tables e below (T.setTop (mkF m pc Ls (.int x :: .int j :: .ref a :: rest))) target := by
  obtain ⟨cl, Ar, q, S, Nn, H, G⟩ := V
  obtain ⟨T', h', X', e', W, st⟩ := stB X hx hZ eT Ar (j := j) (x := x) (inb_of S hj) (g := mkF m pc Ls (.int x :: .int j :: .ref a :: rest)) rfl rfl hd
  subst hi
  exact ⟨T', h', _, X', Fr.snoc X' N ga, e', W, Arv.set Ar q S Nn H G (fits_nar_byte x) W _ rfl hl, st⟩
theorem own_stI (X : Stand p l e R s m args below meth c T locs cells slots) (N : Fr n0 locs) (hx : p.tables.exec = Jvm.exec) (hZ : Z.Warmed39 s.vm) (eT : T.heap = h) {a : Addr} {k : ClassId} {z : Int32} {vs : List Value} {d : Value} (V : Arv Z h a k .int z vs d) (ga : n0 ≤ a) {j x : Int32} {i : Nat} (hj : ¬ j < 0 ∧ j < z) (hi : j.toNatClampNeg = i) (hl : i < vs.length)
    {pc : Nat} {Ls : Array Slot} {rest : List Value} (hd : decode c.code pc = .ok (.iastore, 1)) :
    ∃ T' h' L', Stand p l e R s m args below meth c T' L' cells slots ∧ Fr n0 L' ∧ T'.heap = h' ∧ Wr h h' a i (.int x) ∧ Arv Z h' a k .int z (vs.set i (.int x)) d ∧
      ∀ target, Steps p.tables e below (T'.setTop (mkF m (pc + 1) Ls rest)) target → Steps p.tables e below (T.setTop (mkF m pc Ls (.int x :: .int j :: .ref a :: rest))) target := by
  obtain ⟨cl, Ar, q, S, Nn, H, G⟩ := V
  obtain ⟨T', h', X', e', W, st⟩ := stI X hx hZ eT Ar (j := j) (x := x) (inb_of S hj) (g := mkF m pc Ls (.int x :: .int j :: .ref a :: rest)) rfl rfl hd
  subst hi
  exact ⟨T', h', _, X', Fr.snoc X' N ga, e', W, Arv.set Ar q S Nn H G rfl W _ rfl hl, st⟩
theorem own_stC (X : Stand p l e R s m args below meth c T locs cells slots) (N : Fr n0 locs) (hx : p.tables.exec = Jvm.exec) (hZ : Z.Warmed39 s.vm) (eT : T.heap = h) {a : Addr} {k : ClassId} {z : Int32} {vs : List Value} {d : Value} (V : Arv Z h a k .char z vs d) (ga : n0 ≤ a) {j x : Int32} {i : Nat} (hj : ¬ j < 0 ∧ j < z) (hi : j.toNatClampNeg = i) (hl : i < vs.length)
    {pc : Nat} {Ls : Array Slot} {rest : List Value} (hd : decode c.code pc = .ok (.castore, 1)) :
    ∃ T' h' L', Stand p l e R s m args below meth c T' L' cells slots ∧ Fr n0 L' ∧ T'.heap = h' ∧ Wr h h' a i (.int (nar .char x)) ∧ Arv Z h' a k .char z (vs.set i (.int (nar .char x))) d ∧
      ∀ target, Steps p.tables e below (T'.setTop (mkF m (pc + 1) Ls rest)) target → Steps p.tables e below (T.setTop (mkF m pc Ls (.int x :: .int j :: .ref a :: rest))) target := by
  obtain ⟨cl, Ar, q, S, Nn, H, G⟩ := V
  obtain ⟨T', h', X', e', W, st⟩ := stC X hx hZ eT Ar (j := j) (x := x) (inb_of S hj) (g := mkF m pc Ls (.int x :: .int j :: .ref a :: rest)) rfl rfl hd
  subst hi
  exact ⟨T', h', _, X', Fr.snoc X' N ga, e', W, Arv.set Ar q S Nn H G (fits_nar_char x) W _ rfl hl, st⟩
theorem own_ldB (X : Stand p l e R s m args below meth c T locs cells slots) (hx : p.tables.exec = Jvm.exec) (hZ : Z.Warmed39 s.vm) (eT : T.heap = h) {a : Addr} {k : ClassId} {z : Int32} {vs : List Value} {d v : Value} (V : Arv Z h a k .byte z vs d) {j : Int32} (hj : ¬ j < 0 ∧ j < z) (hv : vs.getD j.toNatClampNeg d = v)
    {pc : Nat} {Ls : Array Slot} {rest : List Value} (hd : decode c.code pc = .ok (.baload, 1)) (target : State) (hr : Steps p.tables e below (T.setTop (mkF m (pc + 1) Ls (v :: rest))) target) : Steps p.tables e below (T.setTop (mkF m pc Ls (.int j :: .ref a :: rest))) target := by
  obtain ⟨cl, Ar, q, S, Nn, H, G⟩ := V
  have hin := inb_of S hj
  refine X.baloadBytes hx (j := j) (v := v) (by rw [eT]; exact Ar.1) (State.isArrayOf_alike hZ.alike Ar.2.1) Ar.2.2 hin ?_ (g := mkF m pc Ls (.int j :: .ref a :: rest)) rfl rfl hd _ hr
  rw [H _ (Nat.lt_of_not_le fun q => hin (Or.inr q)), hv]
theorem own_ldI (X : Stand p l e R s m args below meth c T locs cells slots) (hx : p.tables.exec = Jvm.exec) (hZ : Z.Warmed39 s.vm) (eT : T.heap = h) {a : Addr} {k : ClassId} {z : Int32} {vs : List Value} {d v : Value} (V : Arv Z h a k .int z vs d) {j : Int32} (hj : ¬ j < 0 ∧ j < z) (hv : vs.getD j.toNatClampNeg d = v)
    {pc : Nat} {Ls : Array Slot} {rest : List Value} (hd : decode c.code pc = .ok (.iaload, 1)) (target : State) (hr : Steps p.tables e below (T.setTop (mkF m (pc + 1) Ls (v :: rest))) target) : Steps p.tables e below (T.setTop (mkF m pc Ls (.int j :: .ref a :: rest))) target := by
  obtain ⟨cl, Ar, q, S, Nn, H, G⟩ := V
  have hin := inb_of S hj
  refine X.iaload hx (j := j) (v := v) (by rw [eT]; exact Ar.1) (State.isArrayOf_alike hZ.alike Ar.2.1) Ar.2.2 hin ?_ (g := mkF m pc Ls (.int j :: .ref a :: rest)) rfl rfl hd _ hr
  rw [H _ (Nat.lt_of_not_le fun q => hin (Or.inr q)), hv]
theorem own_ldC (X : Stand p l e R s m args below meth c T locs cells slots) (hx : p.tables.exec = Jvm.exec) (hZ : Z.Warmed39 s.vm) (eT : T.heap = h) {a : Addr} {k : ClassId} {z : Int32} {vs : List Value} {d v : Value} (V : Arv Z h a k .char z vs d) {j : Int32} (hj : ¬ j < 0 ∧ j < z) (hv : vs.getD j.toNatClampNeg d = v)
    {pc : Nat} {Ls : Array Slot} {rest : List Value} (hd : decode c.code pc = .ok (.caload, 1)) (target : State) (hr : Steps p.tables e below (T.setTop (mkF m (pc + 1) Ls (v :: rest))) target) : Steps p.tables e below (T.setTop (mkF m pc Ls (.int j :: .ref a :: rest))) target := by
  obtain ⟨cl, Ar, q, S, Nn, H, G⟩ := V
  have hin := inb_of S hj
  refine X.caload hx (j := j) (v := v) (by rw [eT]; exact Ar.1) (State.isArrayOf_alike hZ.alike Ar.2.1) Ar.2.2 hin ?_ (g := mkF m pc Ls (.int j :: .ref a :: rest)) rfl rfl hd _ hr
  rw [H _ (Nat.lt_of_not_le fun q => hin (Or.inr q)), hv]
theorem own_len (X : Stand p l e R s m args below meth c T locs cells slots) (hx : p.tables.exec = Jvm.exec) (hZ : Z.Warmed39 s.vm) (eT : T.heap = h) {a : Addr} {k : ClassId} {ty : FieldType} {z : Int32} {vs : List Value} {d : Value} (V : Arv Z h a k ty z vs d)
    {pc : Nat} {Ls : Array Slot} {rest : List Value} (hd : decode c.code pc = .ok (.arraylength, 1)) (target : State) (hr : Steps p.tables e below (T.setTop (mkF m (pc + 1) Ls (.int z :: rest))) target) : Steps p.tables e below (T.setTop (mkF m pc Ls (.ref a :: rest))) target := by
  obtain ⟨cl, Ar, q, S, Nn, H, G⟩ := V
  refine X.arraylength hx (by rw [eT]; exact Ar.1) (State.isArrayOf_alike hZ.alike Ar.2.1) (g := mkF m pc Ls (.ref a :: rest)) rfl rfl hd _ ?_
  rw [len_of S Nn]
  exact hr
/-- an array cloned -/
theorem own_clone (X : Stand p l e R s m args below meth c T locs cells slots) (hx : p.tables.exec = Jvm.exec) (hZ : Z.Warmed39 s.vm) {own ad : String} {index : Nat} (hown : s.vm.findClass own = some m.cls)
    (w1 : (Jvm.Cond.methodLink own index ⟨ad, "clone", "()Ljava/lang/Object;"⟩).before a0 Z = true) (w2 : (Jvm.Cond.sameMethod ad "java/lang/Object" "clone" "()Ljava/lang/Object;").before a0 Z = true) (w3 : (Jvm.Cond.native ⟨"java/lang/Object", "clone", "()Ljava/lang/Object;"⟩).before a0 Z = true)
    (w4 : (Jvm.Cond.instanceMethod ⟨"java/lang/Object", "clone", "()Ljava/lang/Object;"⟩).before a0 Z = true) (w5 : (Jvm.Cond.selects ad ⟨ad, "clone", "()Ljava/lang/Object;"⟩ ⟨"java/lang/Object", "clone", "()Ljava/lang/Object;"⟩).before a0 Z = true) (w6 : (Jvm.Cond.castable ad "java/lang/Cloneable").before a0 Z = true)
    (eT : T.heap = h) {a : Addr} {k : ClassId} {ty : FieldType} {z : Int32} {vs : List Value} {dv : Value} (F : Arv Z h a k ty z vs dv) (E : Exa Z h a ad) {pc : Nat} {Ls : Array Slot} {rest : List Value} (hsize : Ls.size = c.maxLocals) (hd : decode c.code pc = .ok (.invokevirtual index, 3))
    (hf : 1 ≤ R.frames) {W cap : Nat} (hW : 2 * 0 + (rest.map fun v => v.category).sum ≤ W) (hl : W + 14 ≤ R.locals) (hcap : z.toNatClampNeg ≤ cap) (hc : cells + 1 ≤ R.cells) (hsl : slots + cap ≤ R.slots) :
    ∃ T' h' b, Stand p l e R s m args below meth c T' locs (cells + 1) (slots + cap) ∧ T'.heap = h' ∧ Ext h h' ∧ b = h.size ∧ Arv Z h' b k ty z vs dv ∧ Exa Z h' b ad ∧
      ∀ target, Steps p.tables e below (T'.setTop (mkF m (pc + 3) Ls (.ref b :: rest))) target → Steps p.tables e below (T.setTop (mkF m pc Ls (.ref a :: rest))) target := by
  obtain ⟨T', h', X', e', ex, V, E', st⟩ := cloneH X hx hZ hown w1 w2 w3 w4 w5 w6 eT F.arh E (g := mkF m pc Ls (.ref a :: rest)) rfl hsize rfl hd hf hW hl hcap hc hsl
  exact ⟨T', h', h.size, X', e', ex, rfl, V, E', st⟩
/-- a field written -/
theorem own_putF (X : Stand p l e R s m args below meth c T locs cells slots) (N : Fr n0 locs) (hx : p.tables.exec = Jvm.exec) (hZ : Z.Warmed39 s.vm) {own O n d C : String} {index kk : Nat} {ty : FieldType} (hown : s.vm.findClass own = some m.cls) (w : (Jvm.Cond.fieldLink own index O n d).before a0 Z = true)
    (eT : T.heap = h) {a : Addr} {v old : Value} (F : Fld Z h a O n d old) (E : Exa Z h a C) (L : (Jvm.Cond.lays C O n d).before a0 Z = true ∨ ((Jvm.Cond.laysFinal C O n d).before a0 Z = true ∧ own = O ∧ meth.name = "<init>")) (wi : (Jvm.Cond.instantiable C kk).before a0 Z = true) (ga : n0 ≤ a)
    (hty : parseFieldDescriptor d = some ty) (hn : narrow ty v = v) (hf : fits ty v = true) {pc : Nat} {Ls : Array Slot} {rest : List Value} (hd : decode c.code pc = .ok (.putfield index, 3)) :
    ∃ T' h' L', Stand p l e R s m args below meth c T' L' cells slots ∧ Fr n0 L' ∧ T'.heap = h' ∧ Wr h h' a (Jvm.RoadKit.slotOf Z O n d) v ∧ Fld Z h' a O n d v ∧
      ∀ target, Steps p.tables e below (T'.setTop (mkF m (pc + 3) Ls rest)) target → Steps p.tables e below (T.setTop (mkF m pc Ls (v :: .ref a :: rest))) target := by
  obtain ⟨T', h', X', e', W, st⟩ := putF X hx hZ hown (host := "") (Or.inl w) Via.refl eT F E L wi hty hn hf (g := mkF m pc Ls (v :: .ref a :: rest)) rfl rfl hd
  exact ⟨T', h', _, X', Fr.snoc X' N ga, e', W, F.same W, st⟩
theorem own_putFN (X : Stand p l e R s m args below meth c T locs cells slots) (N : Fr n0 locs) (hx : p.tables.exec = Jvm.exec) (hZ : Z.Warmed39 s.vm) {own O n d C : String} {index kk : Nat} {ty : FieldType} (hown : s.vm.findClass own = some m.cls) (w : (Jvm.Cond.fieldLink own index O n d).before a0 Z = true)
    (eT : T.heap = h) {a : Addr} {v v' old : Value} (F : Fld Z h a O n d old) (E : Exa Z h a C) (L : (Jvm.Cond.lays C O n d).before a0 Z = true ∨ ((Jvm.Cond.laysFinal C O n d).before a0 Z = true ∧ own = O ∧ meth.name = "<init>")) (wi : (Jvm.Cond.instantiable C kk).before a0 Z = true) (ga : n0 ≤ a)
    (hty : parseFieldDescriptor d = some ty) (hn : narrow ty v = v') (hf : fits ty v' = true) {pc : Nat} {Ls : Array Slot} {rest : List Value} (hd : decode c.code pc = .ok (.putfield index, 3)) :
    ∃ T' h' L', Stand p l e R s m args below meth c T' L' cells slots ∧ Fr n0 L' ∧ T'.heap = h' ∧ Wr h h' a (Jvm.RoadKit.slotOf Z O n d) v' ∧ Fld Z h' a O n d v' ∧
      ∀ target, Steps p.tables e below (T'.setTop (mkF m (pc + 3) Ls rest)) target → Steps p.tables e below (T.setTop (mkF m pc Ls (v :: .ref a :: rest))) target := by
  obtain ⟨T', h', X', e', W, st⟩ := putFN X hx hZ hown w Via.refl eT F E L wi hty hn hf (g := mkF m pc Ls (v :: .ref a :: rest)) rfl rfl hd
  exact ⟨T', h', _, X', Fr.snoc X' N ga, e', W, F.same W, st⟩
/-- new -/
theorem own_newO (X : Stand p l e R s m args below meth c T locs cells slots) (hx : p.tables.exec = Jvm.exec) (hZ : Z.Warmed39 s.vm) {own C : String} {index n : Nat} (hown : s.vm.findClass own = some m.cls) (w : (Jvm.Cond.classLink own index C).before a0 Z = true) (wi : (Jvm.Cond.instantiable C n).before a0 Z = true) (wz : (Jvm.Cond.initialized C).before a0 Z = true) (eT : T.heap = h)
    {pc : Nat} {Ls : Array Slot} {rest : List Value} (hd : decode c.code pc = .ok (.new index, 3)) (hc : cells + 1 ≤ R.cells) (hl : slots + n ≤ R.slots) :
    ∃ T' h' a, Stand p l e R s m args below meth c T' locs (cells + 1) (slots + n) ∧ T'.heap = h' ∧ Ext h h' ∧ a = h.size ∧ Exa Z h' a C ∧ (∀ {O nm d : String} {ty : FieldType}, Laid Z a0 C O nm d → parseFieldDescriptor d = some ty → Fld Z h' a O nm d (defaultValue ty)) ∧
      ∀ target, Steps p.tables e below (T'.setTop (mkF m (pc + 3) Ls (.ref a :: rest))) target → Steps p.tables e below (T.setTop (mkF m pc Ls rest)) target := by
  obtain ⟨T', h', X', e', E, A, D, -, st⟩ := newO X hx hZ hown w wi wz eT (g := mkF m pc Ls rest) rfl hd hc hl
  exact ⟨T', h', h.size, X', e', E, rfl, A, D, st⟩
/-- a static method that may write and make -/
theorem own_callSW {own : String} {index : Nat} {y : MethodName} {bytes : ByteArray} {maxL W : Nat} {ret : Option FieldType} {rm : Room} {as : Array Value} {q : Option Value → Heap → Prop}
    (X : Stand p l e R s m args below meth c T locs cells slots) (N : Fr n0 locs) (hx : p.tables.exec = Jvm.exec) (hZ : Z.Warmed39 s.vm) (hown : s.vm.findClass own = some m.cls)
    (w1 : (Jvm.Cond.methodLink own index y).before a0 Z = true) (w2 : (Jvm.Cond.static y).before a0 Z = true) (w3 : (Jvm.Cond.initialized y.cls).before a0 Z = true) (w4 : (Jvm.Cond.code y bytes maxL ret).before a0 Z = true)
    (hy : y.cls ≠ "java/lang/invoke/MethodHandle" ∧ y.cls ≠ "java/lang/invoke/VarHandle") (hM : own_C l Z y bytes maxL ret [] rm as h (own_W n0 q))
    (hf : rm.frames + 1 ≤ R.frames) (hl : W + (maxL + 11) + rm.locals ≤ R.locals) (hcc : cells + rm.cells ≤ R.cells) (hss : slots + rm.slots ≤ R.slots) (e0 : T.heap = h)
    {pc : Nat} {Ls : Array Slot} {st argsL rest : List Value} (hsize : Ls.size = c.maxLocals) (hlen : ∀ sig, parseMethodDescriptor y.desc = some sig → argsL.length = sig.parameters.length) (has : argsL.toArray = as)
    (hst : st = argsL.reverse ++ rest) (hW : 2 * 0 + (rest.map fun v => v.category).sum ≤ W) (hd : decode c.code pc = .ok (.invokestatic index, 3)) :
    ∃ (v : Option Value) (T' : State) (h' : Heap) (L' : List Loc), Stand p l e R s m args below meth c T' L' (cells + rm.cells) (slots + rm.slots) ∧ Fr n0 L' ∧ T'.heap = h' ∧ q v h' ∧
      ∀ target, Steps p.tables e below (T'.setTop (mkF m (pc + 3) Ls (v.toList ++ rest))) target → Steps p.tables e below (T.setTop (mkF m pc Ls st)) target := by
  obtain ⟨v, T', L, X', ⟨N', hq⟩, stp⟩ := own_callS X hx hZ hown w1 w2 w3 w4 hy hM hf hl hcc hss e0 hsize hlen has hst hW hd
  exact ⟨v, T', _, _, X', N.app N', rfl, hq, stp⟩
/-- a constructor by its contract -/
theorem own_callI {own : String} {index : Nat} {y : MethodName} {bytes : ByteArray} {maxL W : Nat} {rm : Room} {as : Array Value} {q : Option Value → Heap → Prop} {a : Addr}
    (X : Stand p l e R s m args below meth c T locs cells slots) (N : Fr n0 locs) (hx : p.tables.exec = Jvm.exec) (hZ : Z.Warmed39 s.vm) (hy1 : y.name = "<init>") (hown : s.vm.findClass own = some m.cls)
    (w1 : (Jvm.Cond.methodLink own index y).before a0 Z = true) (w2 : (Jvm.Cond.instanceMethod y).before a0 Z = true) (w3 : (Jvm.Cond.initialized y.cls).before a0 Z = true) (w4 : (Jvm.Cond.code y bytes maxL none).before a0 Z = true)
    (hy : y.cls ≠ "java/lang/invoke/MethodHandle" ∧ y.cls ≠ "java/lang/invoke/VarHandle") (hM : own_C l Z y bytes maxL none [] rm as h (own_W n0 q))
    (hf : rm.frames + 1 ≤ R.frames) (hl : W + (maxL + 11) + rm.locals ≤ R.locals) (hcc : cells + rm.cells ≤ R.cells) (hss : slots + rm.slots ≤ R.slots) (e0 : T.heap = h)
    {pc : Nat} {Ls : Array Slot} {st argsL rest : List Value} (hsize : Ls.size = c.maxLocals) (hlen : ∀ sig, parseMethodDescriptor y.desc = some sig → argsL.length = sig.parameters.length) (has : (Value.ref a :: argsL).toArray = as)
    (hst : st = argsL.reverse ++ .ref a :: rest) (hW : 2 * 0 + (rest.map fun v => v.category).sum ≤ W) (hd : decode c.code pc = .ok (.invokespecial index, 3)) :
    ∃ (v : Option Value) (T' : State) (h' : Heap) (L' : List Loc), Stand p l e R s m args below meth c T' L' (cells + rm.cells) (slots + rm.slots) ∧ Fr n0 L' ∧ T'.heap = h' ∧ q v h' ∧
      ∀ target, Steps p.tables e below (T'.setTop (mkF m (pc + 3) Ls (v.toList ++ rest))) target → Steps p.tables e below (T.setTop (mkF m pc Ls st)) target := by
  obtain ⟨v, _, ⟨T', L', k', n'⟩, -, X', ⟨Lc, ⟨N', hq⟩, h1, h2, h3⟩, stp⟩ := X.specialBack hx (y := y) hy1 hown (mvT hZ w1) (mvT hZ w2) (mvT hZ w4) hy
    (backOf (W := W) hM hZ w4 w3 hf hl) (g := mkF m pc Ls st) rfl hsize (Steps.refl _) (a := a) (argsL := argsL) (rest := rest) hlen hst hW hd (fun _ _ => ⟨has, e0, hcc, hss⟩)
  dsimp only [Pt.U, Pt.locs, Pt.cells, Pt.slots] at X' h1 h2 h3 stp hq
  subst h1 h2 h3
  exact ⟨v, T', _, _, X', N.app N', rfl, hq, fun t k => stp.trans k⟩
/-- an instance method by its contract -/
theorem own_callV {own C : String} {index : Nat} {y z : MethodName} {bytes : ByteArray} {maxL W : Nat} {ret : Option FieldType} {rm : Room} {as : Array Value} {q : Option Value → Heap → Prop} {a : Addr}
    (X : Stand p l e R s m args below meth c T locs cells slots) (N : Fr n0 locs) (hx : p.tables.exec = Jvm.exec) (hZ : Z.Warmed39 s.vm) (hown : s.vm.findClass own = some m.cls)
    (w1 : (Jvm.Cond.methodLink own index y).before a0 Z = true) (w2 : (Jvm.Cond.declares y).before a0 Z = true) (hnf : NotFace s y) (ws : (Jvm.Cond.selects C y z).before a0 Z = true) (wi : (Jvm.Cond.instanceMethod z).before a0 Z = true) (w3 : (Jvm.Cond.initialized z.cls).before a0 Z = true) (w4 : (Jvm.Cond.code z bytes maxL ret).before a0 Z = true)
    (hy : y.cls ≠ "java/lang/invoke/MethodHandle" ∧ y.cls ≠ "java/lang/invoke/VarHandle") (hM : own_C l Z z bytes maxL ret [] rm as h (own_W n0 q))
    (hf : rm.frames + 1 ≤ R.frames) (hl : W + (maxL + 11) + rm.locals ≤ R.locals) (hcc : cells + rm.cells ≤ R.cells) (hss : slots + rm.slots ≤ R.slots) (e0 : T.heap = h) (E : Exa Z h a C)
    {pc : Nat} {Ls : Array Slot} {st argsL rest : List Value} (hsize : Ls.size = c.maxLocals) (hlen : ∀ sig, parseMethodDescriptor y.desc = some sig → argsL.length = sig.parameters.length) (has : (Value.ref a :: argsL).toArray = as)
    (hst : st = argsL.reverse ++ .ref a :: rest) (hW : 2 * 0 + (rest.map fun v => v.category).sum ≤ W) (hd : decode c.code pc = .ok (.invokevirtual index, 3)) :
    ∃ (v : Option Value) (T' : State) (h' : Heap) (L' : List Loc), Stand p l e R s m args below meth c T' L' (cells + rm.cells) (slots + rm.slots) ∧ Fr n0 L' ∧ T'.heap = h' ∧ q v h' ∧
      ∀ target, Steps p.tables e below (T'.setTop (mkF m (pc + 3) Ls (v.toList ++ rest))) target → Steps p.tables e below (T.setTop (mkF m pc Ls st)) target := by
  obtain ⟨cq, kq, qa, qb, qc⟩ := isOf hZ e0 E
  obtain ⟨v, _, ⟨T', L', k', n'⟩, -, X', ⟨Lc, ⟨N', hq⟩, h1, h2, h3⟩, stp⟩ := X.virtualBack hx (y := y) (z := z) hown (mvT hZ w1) (mvT hZ w2) hnf (mvT hZ ws) (mvT hZ wi) hy
    (backOf (W := W) hM hZ w4 w3 hf hl) qa qc (g := mkF m pc Ls st) rfl hsize (Steps.refl _) (argsL := argsL) (rest := rest) hlen hst hW hd (fun _ _ => ⟨has, e0, hcc, hss⟩)
  dsimp only [Pt.U, Pt.locs, Pt.cells, Pt.slots] at X' h1 h2 h3 stp hq
  subst h1 h2 h3
  exact ⟨v, T', _, _, X', N.app N', rfl, hq, fun t k => stp.trans k⟩
/-- an instance method that leaves the heap as it was -/
theorem own_callVP {own C : String} {index : Nat} {y z : MethodName} {bytes : ByteArray} {maxL W : Nat} {ret : Option FieldType} {rm : Room} {as : Array Value} {w : Value} {a : Addr}
    (X : Stand p l e R s m args below meth c T locs cells slots) (hx : p.tables.exec = Jvm.exec) (hZ : Z.Warmed39 s.vm) (hown : s.vm.findClass own = some m.cls)
    (w1 : (Jvm.Cond.methodLink own index y).before a0 Z = true) (w2 : (Jvm.Cond.declares y).before a0 Z = true) (hnf : NotFace s y) (ws : (Jvm.Cond.selects C y z).before a0 Z = true) (wi : (Jvm.Cond.instanceMethod z).before a0 Z = true) (w3 : (Jvm.Cond.initialized z.cls).before a0 Z = true) (w4 : (Jvm.Cond.code z bytes maxL ret).before a0 Z = true)
    (hy : y.cls ≠ "java/lang/invoke/MethodHandle" ∧ y.cls ≠ "java/lang/invoke/VarHandle") (hM : own_C l Z z bytes maxL ret [] rm as h (own_Q w h))
    (hf : rm.frames + 1 ≤ R.frames) (hl : W + (maxL + 11) + rm.locals ≤ R.locals) (hrc : rm.cells = 0) (hrs : rm.slots = 0) (hcc : cells + rm.cells ≤ R.cells) (hss : slots + rm.slots ≤ R.slots) (e0 : T.heap = h) (E : Exa Z h a C)
    {pc : Nat} {Ls : Array Slot} {st argsL rest : List Value} (hsize : Ls.size = c.maxLocals) (hlen : ∀ sig, parseMethodDescriptor y.desc = some sig → argsL.length = sig.parameters.length) (has : (Value.ref a :: argsL).toArray = as)
    (hst : st = argsL.reverse ++ .ref a :: rest) (hW : 2 * 0 + (rest.map fun v => v.category).sum ≤ W) (hd : decode c.code pc = .ok (.invokevirtual index, 3)) :
    ∃ (T' : State), Stand p l e R s m args below meth c T' locs cells slots ∧ T'.heap = h ∧
      ∀ target, Steps p.tables e below (T'.setTop (mkF m (pc + 3) Ls (w :: rest))) target → Steps p.tables e below (T.setTop (mkF m pc Ls st)) target := by
  obtain ⟨cq, kq, qa, qb, qc⟩ := isOf hZ e0 E
  obtain ⟨v, _, ⟨T', L', k', n'⟩, -, X', ⟨Lc, ⟨rfl, rfl, hh⟩, h1, h2, h3⟩, stp⟩ := X.virtualBack hx (y := y) (z := z) hown (mvT hZ w1) (mvT hZ w2) hnf (mvT hZ ws) (mvT hZ wi) hy
    (backOf (W := W) hM hZ w4 w3 hf hl) qa qc (g := mkF m pc Ls st) rfl hsize (Steps.refl _) (argsL := argsL) (rest := rest) hlen hst hW hd (fun _ _ => ⟨has, e0, hcc, hss⟩)
  dsimp only [Pt.U, Pt.locs, Pt.cells, Pt.slots] at X' h1 h2 h3 stp hh
  subst h1 h2 h3
  rw [List.append_nil, hrc, hrs] at X'
  exact ⟨T', X', hh, fun t k => stp.trans k⟩
theorem own_ke {h h' : Heap} (K : Keep h h' []) : Ext h h' := ⟨K.1, fun a c q => K.2.1 a c q (by simp)⟩
theorem own_ldA (X : Stand p l e R s m args below meth c T locs cells slots) (hx : p.tables.exec = Jvm.exec) (hZ : Z.Warmed39 s.vm) (eT : T.heap = h) {a : Addr} {k : ClassId} {ty : FieldType} {z : Int32} {vs : List Value} {d v : Value} (V : Arv Z h a k ty z vs d) (hty : ty.isReference = true) {j : Int32} (hj : ¬ j < 0 ∧ j < z) (hv : vs.getD j.toNatClampNeg d = v)
    {pc : Nat} {Ls : Array Slot} {rest : List Value} (hd : decode c.code pc = .ok (.aaload, 1)) (target : State) (hr : Steps p.tables e below (T.setTop (mkF m (pc + 1) Ls (v :: rest))) target) : Steps p.tables e below (T.setTop (mkF m pc Ls (.int j :: .ref a :: rest))) target := by
  obtain ⟨cl, Ar, q, S, Nn, H, G⟩ := V
  have hin := inb_of S hj
  refine X.aaload hx (j := j) (v := v) (by rw [eT]; exact Ar.1) (State.isArrayOf_alike hZ.alike Ar.2.1) hty Ar.2.2 hin ?_ (g := mkF m pc Ls (.int j :: .ref a :: rest)) rfl rfl hd _ hr
  rw [H _ (Nat.lt_of_not_le fun q => hin (Or.inr q)), hv]
end OwnHeap
theorem own_pd0 : parseMethodDescriptor "([BI)Lcom/example/bowerbird/bowerbird/Encoding;" = some ⟨[(.array .byte), .int], some (.object "com/example/bowerbird/bowerbird/Encoding")⟩ := by decide +kernel
theorem own_zero3 {p v : Int32} (h : (p &&& (16777215 : Int32)) = v) : ((((v.toUInt32 >>> ((24 : Int32) &&& 31).toUInt32).toInt32).toInt8.toInt32).toInt8.toInt32) = (0 : Int32) := by
  subst h
  have h1 := c_mask p 16777215 24 (by decide) (by decide)
  have s3 := c_iushr (p &&& 16777215) 24 24 (by decide) (by decide)
  have : (((p &&& (16777215 : Int32)).toUInt32 >>> ((24 : Int32) &&& 31).toUInt32).toInt32) = 0 := by
    rw [← Int32.toInt_inj, show (0 : Int32).toInt = 0 from rfl]
    omega
  rw [this]
  decide
theorem own_d1_0 : decode prog_11_method_5_code 0 = .ok (.iload_n 1, 1) := by decide +kernel
theorem own_d1_1 : decode prog_11_method_5_code 1 = .ok (.iconst 4, 1) := by decide +kernel
theorem own_d1_2 : decode prog_11_method_5_code 2 = .ok (.if_icmp .lt 15, 3) := by decide +kernel
theorem own_d1_17 : decode prog_11_method_5_code 17 = .ok (.getstatic 3, 3) := by decide +kernel
theorem own_d1_20 : decode prog_11_method_5_code 20 = .ok (.areturn, 1) := by decide +kernel
abbrev own_detJ_R : Room := { frames := 0, cells := 0, slots := 0, locals := 0 }
theorem own_pn1 : plainFor (⟨"com/example/bowerbird/bowerbird/Encoding", "detect", "([BI)Lcom/example/bowerbird/bowerbird/Encoding;"⟩ : MethodName) = true := plainFor_of_name (by first | (simp [plainName, overriddenIn]; done) | decide +kernel)
theorem own_detJ_ef (m : MethodId) (a1 : Addr) (n1 : Int32) : entryFrame m #[(.ref a1), (.int n1)] 2 = mkF m 0 #[.val (.ref a1), .val (.int n1)] [] := by first | (simp [entryFrame, mkF, argsToLocals, Value.category]; done) | rfl
set_option maxRecDepth 65536 in
set_option maxHeartbeats 40000000 in
theorem own_detJ (l : Launch) (Z : State) (a0 : Array Value) (hw : ∀ d ∈ tables_1, d.before a0 Z = true) (ws : List Jvm.Cond) (a1 : Addr) (n1 : Int32) (k1 : ClassId) (b0 : Int32) (b1 : Int32) (b2 : Int32) (b3 : Int32) (b4 : Int32) (b5 : Int32) (b6 : Int32) (b7 : Int32) (w1 : Addr) (w2 : Addr) (h0 : Heap)  (i_V1 : Arv Z h0 a1 k1 .byte (8 : Int32) [(.int b0), (.int b1), (.int b2), (.int b3), (.int b4), (.int b5), (.int b6), (.int b7)] (.int (0 : Int32))) (i_S1 : Sta Z h0 "com/example/bowerbird/bowerbird/Encoding" "BSON" "Lcom/example/bowerbird/bowerbird/Encoding;" (.ref w1)) (i_S2 : Sta Z h0 "com/example/bowerbird/bowerbird/Encoding" "JSON" "Lcom/example/bowerbird/bowerbird/Encoding;" (.ref w2)) (hp_hl : n1 < (4 : Int32)) :
    own_C l Z (⟨"com/example/bowerbird/bowerbird/Encoding", "detect", "([BI)Lcom/example/bowerbird/bowerbird/Encoding;"⟩ : MethodName) prog_11_method_5_code 2 (some (.object "com/example/bowerbird/bowerbird/Encoding")) ws own_detJ_R #[(.ref a1), (.int n1)] h0 (own_Q (.ref w2) h0) := by
  refine MetFree.of_bodySF own_pn1 hisR ?_
  intro p e s m args below meth c s₁ Bd hml0 hP hK
  obtain ⟨rfl, hZ, hh⟩ := hP
  have hx := Bd.exec
  have hby := Bd.bytes
  have hml : c.maxLocals = 2 := hml0
  have hown : s.vm.findClass "com/example/bowerbird/bowerbird/Encoding" = some m.cls := findClass_of_methodNamed Bd.named
  have hnm := (name_of_methodNamed Bd.named Bd.method).1
  have X0 : Stand p l e own_detJ_R s m #[(.ref a1), (.int n1)] below meth c s₁ [] 0 0 := Stand.of_body Bd
  have e0 : s₁.heap = h0 := by rw [← hh, Bd.state]; rfl
  show own_G p e below (own_P s (own_Q (.ref w2) h0) own_detJ_R.cells own_detJ_R.slots) (s₁.setTop (entryFrame m #[(.ref a1), (.int n1)] 2))
  rw [own_detJ_ef m a1 n1]
  show own_G p e below _ (s₁.setTop (mkF m 0 #[.val (.ref a1), .val (.int n1)] []))
  refine own_via (fun t k => XS.iloadN X0.here hx rfl (hb hby own_d1_0) rfl k) ?_
  show own_G p e below _ (s₁.setTop (mkF m 1 #[.val (.ref a1), .val (.int n1)] [(.int n1)]))
  refine own_via (fun t k => XS.iconst X0.here hx rfl (hb hby own_d1_1) k) ?_
  show own_G p e below _ (s₁.setTop (mkF m 2 #[.val (.ref a1), .val (.int n1)] [(.int (4 : Int32)), (.int n1)]))
  refine own_via (fun t k => XS.icmpYes X0.here hx rfl (pc0 := 2) (pc' := 17) rfl (hb hby own_d1_2) rfl (tlt hp_hl).1 (by decide) (by decide) k) ?_
  show own_G p e below _ (s₁.setTop (mkF m 17 #[.val (.ref a1), .val (.int n1)] []))
  obtain ⟨T1, X1, e1, st1⟩ := getS2 X0 hx hZ hown (host := "") (Or.inl (hw _ (List.mem_of_getElem? (i := 8) rfl))) Via.refl e0 i_S2 (g := (mkF m 17 #[.val (.ref a1), .val (.int n1)] [])) rfl (hb hby own_d1_17)
  refine own_via st1 ?_
  show own_G p e below _ (T1.setTop (mkF m 20 #[.val (.ref a1), .val (.int n1)] [(.ref w2)]))
  exact own_retA X1 hx Bd.returns rfl rfl Bd.notSynchronized (hb hby own_d1_20) ⟨rfl, rfl, e1⟩ (by decide) (by decide)
theorem own_d1_5 : decode prog_11_method_5_code 5 = .ok (.aload_n 0, 1) := by decide +kernel
theorem own_d1_6 : decode prog_11_method_5_code 6 = .ok (.iconst 3, 1) := by decide +kernel
theorem own_d1_7 : decode prog_11_method_5_code 7 = .ok (.baload, 1) := by decide +kernel
theorem own_d1_8 : decode prog_11_method_5_code 8 = .ok (.ifCond .ne 9, 3) := by decide +kernel
theorem own_d1_11 : decode prog_11_method_5_code 11 = .ok (.getstatic 7, 3) := by decide +kernel
theorem own_d1_14 : decode prog_11_method_5_code 14 = .ok (.goto 6, 3) := by decide +kernel
abbrev own_detB_R : Room := { frames := 0, cells := 0, slots := 0, locals := 0 }
theorem own_detB_ef (m : MethodId) (a1 : Addr) (n1 : Int32) : entryFrame m #[(.ref a1), (.int n1)] 2 = mkF m 0 #[.val (.ref a1), .val (.int n1)] [] := by first | (simp [entryFrame, mkF, argsToLocals, Value.category]; done) | rfl
set_option maxRecDepth 65536 in
set_option maxHeartbeats 40000000 in
theorem own_detB (l : Launch) (Z : State) (a0 : Array Value) (hw : ∀ d ∈ tables_1, d.before a0 Z = true) (ws : List Jvm.Cond) (a1 : Addr) (n1 : Int32) (k1 : ClassId) (b0 : Int32) (b1 : Int32) (b2 : Int32) (b3 : Int32) (b4 : Int32) (b5 : Int32) (b6 : Int32) (b7 : Int32) (w1 : Addr) (w2 : Addr) (h0 : Heap)  (i_V1 : Arv Z h0 a1 k1 .byte (8 : Int32) [(.int b0), (.int b1), (.int b2), (.int b3), (.int b4), (.int b5), (.int b6), (.int b7)] (.int (0 : Int32))) (i_S1 : Sta Z h0 "com/example/bowerbird/bowerbird/Encoding" "BSON" "Lcom/example/bowerbird/bowerbird/Encoding;" (.ref w1)) (i_S2 : Sta Z h0 "com/example/bowerbird/bowerbird/Encoding" "JSON" "Lcom/example/bowerbird/bowerbird/Encoding;" (.ref w2)) (hp_hl : ¬ (n1 < (4 : Int32))) (hp_hb : b3 = (0 : Int32)) :
    own_C l Z (⟨"com/example/bowerbird/bowerbird/Encoding", "detect", "([BI)Lcom/example/bowerbird/bowerbird/Encoding;"⟩ : MethodName) prog_11_method_5_code 2 (some (.object "com/example/bowerbird/bowerbird/Encoding")) ws own_detB_R #[(.ref a1), (.int n1)] h0 (own_Q (.ref w1) h0) := by
  refine MetFree.of_bodySF own_pn1 hisR ?_
  intro p e s m args below meth c s₁ Bd hml0 hP hK
  obtain ⟨rfl, hZ, hh⟩ := hP
  have hx := Bd.exec
  have hby := Bd.bytes
  have hml : c.maxLocals = 2 := hml0
  have hown : s.vm.findClass "com/example/bowerbird/bowerbird/Encoding" = some m.cls := findClass_of_methodNamed Bd.named
  have hnm := (name_of_methodNamed Bd.named Bd.method).1
  have X0 : Stand p l e own_detB_R s m #[(.ref a1), (.int n1)] below meth c s₁ [] 0 0 := Stand.of_body Bd
  have e0 : s₁.heap = h0 := by rw [← hh, Bd.state]; rfl
  show own_G p e below (own_P s (own_Q (.ref w1) h0) own_detB_R.cells own_detB_R.slots) (s₁.setTop (entryFrame m #[(.ref a1), (.int n1)] 2))
  rw [own_detB_ef m a1 n1]
  show own_G p e below _ (s₁.setTop (mkF m 0 #[.val (.ref a1), .val (.int n1)] []))
  refine own_via (fun t k => XS.iloadN X0.here hx rfl (hb hby own_d1_0) rfl k) ?_
  show own_G p e below _ (s₁.setTop (mkF m 1 #[.val (.ref a1), .val (.int n1)] [(.int n1)]))
  refine own_via (fun t k => XS.iconst X0.here hx rfl (hb hby own_d1_1) k) ?_
  show own_G p e below _ (s₁.setTop (mkF m 2 #[.val (.ref a1), .val (.int n1)] [(.int (4 : Int32)), (.int n1)]))
  refine own_via (fun t k => XS.icmpNo X0.here hx rfl (hb hby own_d1_2) rfl (flt hp_hl).1 k) ?_
  show own_G p e below _ (s₁.setTop (mkF m 5 #[.val (.ref a1), .val (.int n1)] []))
  refine own_via (fun t k => XS.aloadN X0.here hx rfl (hb hby own_d1_5) rfl rfl k) ?_
  show own_G p e below _ (s₁.setTop (mkF m 6 #[.val (.ref a1), .val (.int n1)] [(.ref a1)]))
  refine own_via (fun t k => XS.iconst X0.here hx rfl (hb hby own_d1_6) k) ?_
  show own_G p e below _ (s₁.setTop (mkF m 7 #[.val (.ref a1), .val (.int n1)] [(.int (3 : Int32)), (.ref a1)]))
  refine own_via (own_ldB X0 hx hZ e0 i_V1 (j := (3 : Int32)) ⟨by decide, by decide⟩ (v := (.int b3)) rfl (pc := 7) (Ls := #[.val (.ref a1), .val (.int n1)]) (rest := []) (hb hby own_d1_7)) ?_
  show own_G p e below _ (s₁.setTop (mkF m 8 #[.val (.ref a1), .val (.int n1)] [(.int b3)]))
  refine own_via (fun t k => XS.ifNo X0.here hx rfl (hb hby own_d1_8) rfl ((if0 _ _).trans (teq hp_hb).2) k) ?_
  show own_G p e below _ (s₁.setTop (mkF m 11 #[.val (.ref a1), .val (.int n1)] []))
  obtain ⟨T1, X1, e1, st1⟩ := getS2 X0 hx hZ hown (host := "") (Or.inl (hw _ (List.mem_of_getElem? (i := 12) rfl))) Via.refl e0 i_S1 (g := (mkF m 11 #[.val (.ref a1), .val (.int n1)] [])) rfl (hb hby own_d1_11)
  refine own_via st1 ?_
  show own_G p e below _ (T1.setTop (mkF m 14 #[.val (.ref a1), .val (.int n1)] [(.ref w1)]))
  refine own_via (fun t k => XS.goto X1.here hx rfl (pc0 := 14) (pc' := 20) rfl (hb hby own_d1_14) (by decide) (by decide) k) ?_
  show own_G p e below _ (T1.setTop (mkF m 20 #[.val (.ref a1), .val (.int n1)] [(.ref w1)]))
  exact own_retA X1 hx Bd.returns rfl rfl Bd.notSynchronized (hb hby own_d1_20) ⟨rfl, rfl, e1⟩ (by decide) (by decide)
abbrev own_detN_R : Room := { frames := 0, cells := 0, slots := 0, locals := 0 }
theorem own_detN_ef (m : MethodId) (a1 : Addr) (n1 : Int32) : entryFrame m #[(.ref a1), (.int n1)] 2 = mkF m 0 #[.val (.ref a1), .val (.int n1)] [] := by first | (simp [entryFrame, mkF, argsToLocals, Value.category]; done) | rfl
set_option maxRecDepth 65536 in
set_option maxHeartbeats 40000000 in
theorem own_detN (l : Launch) (Z : State) (a0 : Array Value) (hw : ∀ d ∈ tables_1, d.before a0 Z = true) (ws : List Jvm.Cond) (a1 : Addr) (n1 : Int32) (k1 : ClassId) (b0 : Int32) (b1 : Int32) (b2 : Int32) (b3 : Int32) (b4 : Int32) (b5 : Int32) (b6 : Int32) (b7 : Int32) (w1 : Addr) (w2 : Addr) (h0 : Heap)  (i_V1 : Arv Z h0 a1 k1 .byte (8 : Int32) [(.int b0), (.int b1), (.int b2), (.int b3), (.int b4), (.int b5), (.int b6), (.int b7)] (.int (0 : Int32))) (i_S1 : Sta Z h0 "com/example/bowerbird/bowerbird/Encoding" "BSON" "Lcom/example/bowerbird/bowerbird/Encoding;" (.ref w1)) (i_S2 : Sta Z h0 "com/example/bowerbird/bowerbird/Encoding" "JSON" "Lcom/example/bowerbird/bowerbird/Encoding;" (.ref w2)) (hp_hl : ¬ (n1 < (4 : Int32))) (hp_hb : ¬ (b3 = (0 : Int32))) :
    own_C l Z (⟨"com/example/bowerbird/bowerbird/Encoding", "detect", "([BI)Lcom/example/bowerbird/bowerbird/Encoding;"⟩ : MethodName) prog_11_method_5_code 2 (some (.object "com/example/bowerbird/bowerbird/Encoding")) ws own_detN_R #[(.ref a1), (.int n1)] h0 (own_Q (.ref w2) h0) := by
  refine MetFree.of_bodySF own_pn1 hisR ?_
  intro p e s m args below meth c s₁ Bd hml0 hP hK
  obtain ⟨rfl, hZ, hh⟩ := hP
  have hx := Bd.exec
  have hby := Bd.bytes
  have hml : c.maxLocals = 2 := hml0
  have hown : s.vm.findClass "com/example/bowerbird/bowerbird/Encoding" = some m.cls := findClass_of_methodNamed Bd.named
  have hnm := (name_of_methodNamed Bd.named Bd.method).1
  have X0 : Stand p l e own_detN_R s m #[(.ref a1), (.int n1)] below meth c s₁ [] 0 0 := Stand.of_body Bd
  have e0 : s₁.heap = h0 := by rw [← hh, Bd.state]; rfl
  show own_G p e below (own_P s (own_Q (.ref w2) h0) own_detN_R.cells own_detN_R.slots) (s₁.setTop (entryFrame m #[(.ref a1), (.int n1)] 2))
  rw [own_detN_ef m a1 n1]
  show own_G p e below _ (s₁.setTop (mkF m 0 #[.val (.ref a1), .val (.int n1)] []))
  refine own_via (fun t k => XS.iloadN X0.here hx rfl (hb hby own_d1_0) rfl k) ?_
  show own_G p e below _ (s₁.setTop (mkF m 1 #[.val (.ref a1), .val (.int n1)] [(.int n1)]))
  refine own_via (fun t k => XS.iconst X0.here hx rfl (hb hby own_d1_1) k) ?_
  show own_G p e below _ (s₁.setTop (mkF m 2 #[.val (.ref a1), .val (.int n1)] [(.int (4 : Int32)), (.int n1)]))
  refine own_via (fun t k => XS.icmpNo X0.here hx rfl (hb hby own_d1_2) rfl (flt hp_hl).1 k) ?_
  show own_G p e below _ (s₁.setTop (mkF m 5 #[.val (.ref a1), .val (.int n1)] []))
  refine own_via (fun t k => XS.aloadN X0.here hx rfl (hb hby own_d1_5) rfl rfl k) ?_
  show own_G p e below _ (s₁.setTop (mkF m 6 #[.val (.ref a1), .val (.int n1)] [(.ref a1)]))
  refine own_via (fun t k => XS.iconst X0.here hx rfl (hb hby own_d1_6) k) ?_
  show own_G p e below _ (s₁.setTop (mkF m 7 #[.val (.ref a1), .val (.int n1)] [(.int (3 : Int32)), (.ref a1)]))
  refine own_via (own_ldB X0 hx hZ e0 i_V1 (j := (3 : Int32)) ⟨by decide, by decide⟩ (v := (.int b3)) rfl (pc := 7) (Ls := #[.val (.ref a1), .val (.int n1)]) (rest := []) (hb hby own_d1_7)) ?_
  show own_G p e below _ (s₁.setTop (mkF m 8 #[.val (.ref a1), .val (.int n1)] [(.int b3)]))
  refine own_via (fun t k => XS.ifYes X0.here hx rfl (pc0 := 8) (pc' := 17) rfl (hb hby own_d1_8) rfl ((if0 _ _).trans (feq hp_hb).2) (by decide) (by decide) k) ?_
  show own_G p e below _ (s₁.setTop (mkF m 17 #[.val (.ref a1), .val (.int n1)] []))
  obtain ⟨T1, X1, e1, st1⟩ := getS2 X0 hx hZ hown (host := "") (Or.inl (hw _ (List.mem_of_getElem? (i := 8) rfl))) Via.refl e0 i_S2 (g := (mkF m 17 #[.val (.ref a1), .val (.int n1)] [])) rfl (hb hby own_d1_17)
  refine own_via st1 ?_
  show own_G p e below _ (T1.setTop (mkF m 20 #[.val (.ref a1), .val (.int n1)] [(.ref w2)]))
  exact own_retA X1 hx Bd.returns rfl rfl Bd.notSynchronized (hb hby own_d1_20) ⟨rfl, rfl, e1⟩ (by decide) (by decide)
theorem own_pn0 : plainFor x = true := plainFor_of_name (by first | (simp [plainName, overriddenIn]; done) | decide +kernel)
theorem own_rm0_ef (m : MethodId) (q0 : Int64) (p1 : Int32) (p2 : Int32) (p3 : Int32) : entryFrame m #[(.long q0), (.int p1), (.int p2), (.int p3)] maxLocals = mkF m 0 #[.val (.long q0), .second, .val (.int p1), .val (.int p2), .val (.int p3), .unset, .unset, .unset, .unset, .unset, .unset, .unset] [] := by first | (simp [entryFrame, mkF, argsToLocals, Value.category, maxLocals]; done) | rfl
set_option maxRecDepth 65536 in
set_option maxHeartbeats 40000000 in
theorem own_rm0 (l : Launch) (Z : State) (a0 : Array Value) (hw : ∀ d ∈ tables_1, d.before a0 Z = true) (ws : List Jvm.Cond) (q0 : Int64) (p1 : Int32) (p2 : Int32) (p3 : Int32) (w1 : Addr) (w2 : Addr) (h0 : Heap) (n0 : Nat) (Z0 : n0 ≤ h0.size) (i_S1 : Sta Z h0 "com/example/bowerbird/bowerbird/Encoding" "BSON" "Lcom/example/bowerbird/bowerbird/Encoding;" (.ref w1)) (i_S2 : Sta Z h0 "com/example/bowerbird/bowerbird/Encoding" "JSON" "Lcom/example/bowerbird/bowerbird/Encoding;" (.ref w2)) :
    own_C l Z x code maxLocals ret ws room_1 #[(.long q0), (.int p1), (.int p2), (.int p3)] h0 (own_W n0 (fun v _ => v = some (.int 1))) := by
  refine MetFree.of_bodySF own_pn0 hisR ?_
  intro p e s m args below meth c s₁ Bd hml0 hP hK
  obtain ⟨rfl, hZ, hh⟩ := hP
  have hx := Bd.exec
  have hby := Bd.bytes
  have hml : c.maxLocals = 12 := hml0
  have hown : s.vm.findClass "com/example/bowerbird/bowerbird/EncodingDetectPinLaw" = some m.cls := findClass_of_methodNamed Bd.named
  have hnm := (name_of_methodNamed Bd.named Bd.method).1
  have X0 : Stand p l e room_1 s m #[(.long q0), (.int p1), (.int p2), (.int p3)] below meth c s₁ [] 0 0 := Stand.of_body Bd
  have e0 : s₁.heap = h0 := by rw [← hh, Bd.state]; rfl
  have N0 := Fr.nil n0
  show own_G p e below (own_P s (own_W n0 (fun v _ => v = some (.int 1))) room_1.cells room_1.slots) (s₁.setTop (entryFrame m #[(.long q0), (.int p1), (.int p2), (.int p3)] maxLocals))
  rw [own_rm0_ef m q0 p1 p2 p3]
  show own_G p e below _ (s₁.setTop (mkF m 0 #[.val (.long q0), .second, .val (.int p1), .val (.int p2), .val (.int p3), .unset, .unset, .unset, .unset, .unset, .unset, .unset] []))
  refine own_via (fun t k => XS.bipush X0.here hx rfl (hb hby at_0) k) ?_
  show own_G p e below _ (s₁.setTop (mkF m 2 #[.val (.long q0), .second, .val (.int p1), .val (.int p2), .val (.int p3), .unset, .unset, .unset, .unset, .unset, .unset, .unset] [(.int (8 : Int32))]))
  obtain ⟨T1, h1, k1, b1, X1, e1, E1, ga1, V1, Ex1, st1⟩ := own_newA X0 hx hZ (hw _ (List.mem_of_getElem? (i := 0) rfl)) e0 (pc := 2) (Ls := #[.val (.long q0), .second, .val (.int p1), .val (.int p2), .val (.int p3), .unset, .unset, .unset, .unset, .unset, .unset, .unset]) (rest := []) (hb hby at_2) (n := (8 : Int32)) (by decide) (cap := 8) (by decide) (by decide) (by decide) (by decide) 8 rfl
  refine own_via st1 ?_
  have f2 : Sta Z h1 "com/example/bowerbird/bowerbird/Encoding" "BSON" "Lcom/example/bowerbird/bowerbird/Encoding;" (.ref w1) := i_S1.ext E1
  have f3 : Sta Z h1 "com/example/bowerbird/bowerbird/Encoding" "JSON" "Lcom/example/bowerbird/bowerbird/Encoding;" (.ref w2) := i_S2.ext E1
  have f4 : Arv Z h1 b1 k1 .byte (8 : Int32) [(.int (0 : Int32)), (.int (0 : Int32)), (.int (0 : Int32)), (.int (0 : Int32)), (.int (0 : Int32)), (.int (0 : Int32)), (.int (0 : Int32)), (.int (0 : Int32))] (.int (0 : Int32)) := V1
  have g_b1 : n0 ≤ b1 := Nat.le_trans Z0 (Nat.le_of_eq ga1.symm)
  have Zs5 : n0 ≤ h1.size := Nat.le_trans Z0 E1.1
  show own_G p e below _ (T1.setTop (mkF m 4 #[.val (.long q0), .second, .val (.int p1), .val (.int p2), .val (.int p3), .unset, .unset, .unset, .unset, .unset, .unset, .unset] [(.ref b1)]))
  refine own_via (fun t k => XS.astore X1.here hx rfl (hb hby at_4) rfl rfl (l' := #[.val (.long q0), .second, .val (.int p1), .val (.int p2), .val (.int p3), .val (.ref b1), .unset, .unset, .unset, .unset, .unset, .unset]) rfl k) ?_
  show own_G p e below _ (T1.setTop (mkF m 6 #[.val (.long q0), .second, .val (.int p1), .val (.int p2), .val (.int p3), .val (.ref b1), .unset, .unset, .unset, .unset, .unset, .unset] []))
  refine own_via (fun t k => XS.aload X1.here hx rfl (hb hby at_6) rfl rfl k) ?_
  show own_G p e below _ (T1.setTop (mkF m 8 #[.val (.long q0), .second, .val (.int p1), .val (.int p2), .val (.int p3), .val (.ref b1), .unset, .unset, .unset, .unset, .unset, .unset] [(.ref b1)]))
  refine own_via (fun t k => XS.iconst X1.here hx rfl (hb hby at_8) k) ?_
  show own_G p e below _ (T1.setTop (mkF m 9 #[.val (.long q0), .second, .val (.int p1), .val (.int p2), .val (.int p3), .val (.ref b1), .unset, .unset, .unset, .unset, .unset, .unset] [(.int (0 : Int32)), (.ref b1)]))
  refine own_via (fun t k => XS.lloadN X1.here hx rfl (hb hby at_9) rfl k) ?_
  show own_G p e below _ (T1.setTop (mkF m 10 #[.val (.long q0), .second, .val (.int p1), .val (.int p2), .val (.int p3), .val (.ref b1), .unset, .unset, .unset, .unset, .unset, .unset] [(.long q0), (.int (0 : Int32)), (.ref b1)]))
  refine own_via (fun t k => XS.l2i X1.here hx rfl (hb hby at_10) rfl k) ?_
  show own_G p e below _ (T1.setTop (mkF m 11 #[.val (.long q0), .second, .val (.int p1), .val (.int p2), .val (.int p3), .val (.ref b1), .unset, .unset, .unset, .unset, .unset, .unset] [(.int (q0.toInt32)), (.int (0 : Int32)), (.ref b1)]))
  refine own_via (fun t k => XS.i2b X1.here hx rfl (hb hby at_11) rfl k) ?_
  show own_G p e below _ (T1.setTop (mkF m 12 #[.val (.long q0), .second, .val (.int p1), .val (.int p2), .val (.int p3), .val (.ref b1), .unset, .unset, .unset, .unset, .unset, .unset] [(.int ((q0.toInt32).toInt8.toInt32)), (.int (0 : Int32)), (.ref b1)]))
  obtain ⟨T6, h6, L6, X6, N6, e6, W6, V6, st6⟩ := own_stB X1 N0 hx hZ e1 f4 g_b1 (j := (0 : Int32)) (x := ((q0.toInt32).toInt8.toInt32)) (i := 0) ⟨by decide, by decide⟩ rfl (Nat.le_of_ble_eq_true rfl) (pc := 12) (Ls := #[.val (.long q0), .second, .val (.int p1), .val (.int p2), .val (.int p3), .val (.ref b1), .unset, .unset, .unset, .unset, .unset, .unset]) (rest := []) (hb hby at_12)
  refine own_via st6 ?_
  have f7 : Sta Z h6 "com/example/bowerbird/bowerbird/Encoding" "BSON" "Lcom/example/bowerbird/bowerbird/Encoding;" (.ref w1) := f2.wr W6
  have f8 : Sta Z h6 "com/example/bowerbird/bowerbird/Encoding" "JSON" "Lcom/example/bowerbird/bowerbird/Encoding;" (.ref w2) := f3.wr W6
  have f9 : Arv Z h6 b1 k1 .byte (8 : Int32) [(.int (((q0.toInt32).toInt8.toInt32).toInt8.toInt32)), (.int (0 : Int32)), (.int (0 : Int32)), (.int (0 : Int32)), (.int (0 : Int32)), (.int (0 : Int32)), (.int (0 : Int32)), (.int (0 : Int32))] (.int (0 : Int32)) := V6
  have Zs10 : n0 ≤ h6.size := by rw [W6.size]; exact Zs5
  show own_G p e below _ (T6.setTop (mkF m 13 #[.val (.long q0), .second, .val (.int p1), .val (.int p2), .val (.int p3), .val (.ref b1), .unset, .unset, .unset, .unset, .unset, .unset] []))
  refine own_via (fun t k => XS.aload X6.here hx rfl (hb hby at_13) rfl rfl k) ?_
  show own_G p e below _ (T6.setTop (mkF m 15 #[.val (.long q0), .second, .val (.int p1), .val (.int p2), .val (.int p3), .val (.ref b1), .unset, .unset, .unset, .unset, .unset, .unset] [(.ref b1)]))
  refine own_via (fun t k => XS.iconst X6.here hx rfl (hb hby at_15) k) ?_
  show own_G p e below _ (T6.setTop (mkF m 16 #[.val (.long q0), .second, .val (.int p1), .val (.int p2), .val (.int p3), .val (.ref b1), .unset, .unset, .unset, .unset, .unset, .unset] [(.int (1 : Int32)), (.ref b1)]))
  refine own_via (fun t k => XS.lloadN X6.here hx rfl (hb hby at_16) rfl k) ?_
  show own_G p e below _ (T6.setTop (mkF m 17 #[.val (.long q0), .second, .val (.int p1), .val (.int p2), .val (.int p3), .val (.ref b1), .unset, .unset, .unset, .unset, .unset, .unset] [(.long q0), (.int (1 : Int32)), (.ref b1)]))
  refine own_via (fun t k => XS.bipush X6.here hx rfl (hb hby at_17) k) ?_
  show own_G p e below _ (T6.setTop (mkF m 19 #[.val (.long q0), .second, .val (.int p1), .val (.int p2), .val (.int p3), .val (.ref b1), .unset, .unset, .unset, .unset, .unset, .unset] [(.int (8 : Int32)), (.long q0), (.int (1 : Int32)), (.ref b1)]))
  refine own_via (fun t k => XS.lushr X6.here hx rfl (hb hby at_19) rfl k) ?_
  show own_G p e below _ (T6.setTop (mkF m 20 #[.val (.long q0), .second, .val (.int p1), .val (.int p2), .val (.int p3), .val (.ref b1), .unset, .unset, .unset, .unset, .unset, .unset] [(.long ((q0.toUInt64 >>> ((8 : Int32) &&& 0x3f).toInt64.toUInt64).toInt64)), (.int (1 : Int32)), (.ref b1)]))
  refine own_via (fun t k => XS.l2i X6.here hx rfl (hb hby at_20) rfl k) ?_
  show own_G p e below _ (T6.setTop (mkF m 21 #[.val (.long q0), .second, .val (.int p1), .val (.int p2), .val (.int p3), .val (.ref b1), .unset, .unset, .unset, .unset, .unset, .unset] [(.int (((q0.toUInt64 >>> ((8 : Int32) &&& 0x3f).toInt64.toUInt64).toInt64).toInt32)), (.int (1 : Int32)), (.ref b1)]))
  refine own_via (fun t k => XS.i2b X6.here hx rfl (hb hby at_21) rfl k) ?_
  show own_G p e below _ (T6.setTop (mkF m 22 #[.val (.long q0), .second, .val (.int p1), .val (.int p2), .val (.int p3), .val (.ref b1), .unset, .unset, .unset, .unset, .unset, .unset] [(.int ((((q0.toUInt64 >>> ((8 : Int32) &&& 0x3f).toInt64.toUInt64).toInt64).toInt32).toInt8.toInt32)), (.int (1 : Int32)), (.ref b1)]))
  obtain ⟨T11, h11, L11, X11, N11, e11, W11, V11, st11⟩ := own_stB X6 N6 hx hZ e6 f9 g_b1 (j := (1 : Int32)) (x := ((((q0.toUInt64 >>> ((8 : Int32) &&& 0x3f).toInt64.toUInt64).toInt64).toInt32).toInt8.toInt32)) (i := 1) ⟨by decide, by decide⟩ rfl (Nat.le_of_ble_eq_true rfl) (pc := 22) (Ls := #[.val (.long q0), .second, .val (.int p1), .val (.int p2), .val (.int p3), .val (.ref b1), .unset, .unset, .unset, .unset, .unset, .unset]) (rest := []) (hb hby at_22)
  refine own_via st11 ?_
  have f12 : Sta Z h11 "com/example/bowerbird/bowerbird/Encoding" "BSON" "Lcom/example/bowerbird/bowerbird/Encoding;" (.ref w1) := f7.wr W11
  have f13 : Sta Z h11 "com/example/bowerbird/bowerbird/Encoding" "JSON" "Lcom/example/bowerbird/bowerbird/Encoding;" (.ref w2) := f8.wr W11
  have f14 : Arv Z h11 b1 k1 .byte (8 : Int32) [(.int (((q0.toInt32).toInt8.toInt32).toInt8.toInt32)), (.int (((((q0.toUInt64 >>> ((8 : Int32) &&& 0x3f).toInt64.toUInt64).toInt64).toInt32).toInt8.toInt32).toInt8.toInt32)), (.int (0 : Int32)), (.int (0 : Int32)), (.int (0 : Int32)), (.int (0 : Int32)), (.int (0 : Int32)), (.int (0 : Int32))] (.int (0 : Int32)) := V11
  have Zs15 : n0 ≤ h11.size := by rw [W11.size]; exact Zs10
  show own_G p e below _ (T11.setTop (mkF m 23 #[.val (.long q0), .second, .val (.int p1), .val (.int p2), .val (.int p3), .val (.ref b1), .unset, .unset, .unset, .unset, .unset, .unset] []))
  refine own_via (fun t k => XS.aload X11.here hx rfl (hb hby at_23) rfl rfl k) ?_
  show own_G p e below _ (T11.setTop (mkF m 25 #[.val (.long q0), .second, .val (.int p1), .val (.int p2), .val (.int p3), .val (.ref b1), .unset, .unset, .unset, .unset, .unset, .unset] [(.ref b1)]))
  refine own_via (fun t k => XS.iconst X11.here hx rfl (hb hby at_25) k) ?_
  show own_G p e below _ (T11.setTop (mkF m 26 #[.val (.long q0), .second, .val (.int p1), .val (.int p2), .val (.int p3), .val (.ref b1), .unset, .unset, .unset, .unset, .unset, .unset] [(.int (2 : Int32)), (.ref b1)]))
  refine own_via (fun t k => XS.lloadN X11.here hx rfl (hb hby at_26) rfl k) ?_
  show own_G p e below _ (T11.setTop (mkF m 27 #[.val (.long q0), .second, .val (.int p1), .val (.int p2), .val (.int p3), .val (.ref b1), .unset, .unset, .unset, .unset, .unset, .unset] [(.long q0), (.int (2 : Int32)), (.ref b1)]))
  refine own_via (fun t k => XS.bipush X11.here hx rfl (hb hby at_27) k) ?_
  show own_G p e below _ (T11.setTop (mkF m 29 #[.val (.long q0), .second, .val (.int p1), .val (.int p2), .val (.int p3), .val (.ref b1), .unset, .unset, .unset, .unset, .unset, .unset] [(.int (16 : Int32)), (.long q0), (.int (2 : Int32)), (.ref b1)]))
  refine own_via (fun t k => XS.lushr X11.here hx rfl (hb hby at_29) rfl k) ?_
  show own_G p e below _ (T11.setTop (mkF m 30 #[.val (.long q0), .second, .val (.int p1), .val (.int p2), .val (.int p3), .val (.ref b1), .unset, .unset, .unset, .unset, .unset, .unset] [(.long ((q0.toUInt64 >>> ((16 : Int32) &&& 0x3f).toInt64.toUInt64).toInt64)), (.int (2 : Int32)), (.ref b1)]))
  refine own_via (fun t k => XS.l2i X11.here hx rfl (hb hby at_30) rfl k) ?_
  show own_G p e below _ (T11.setTop (mkF m 31 #[.val (.long q0), .second, .val (.int p1), .val (.int p2), .val (.int p3), .val (.ref b1), .unset, .unset, .unset, .unset, .unset, .unset] [(.int (((q0.toUInt64 >>> ((16 : Int32) &&& 0x3f).toInt64.toUInt64).toInt64).toInt32)), (.int (2 : Int32)), (.ref b1)]))
  refine own_via (fun t k => XS.i2b X11.here hx rfl (hb hby at_31) rfl k) ?_
  show own_G p e below _ (T11.setTop (mkF m 32 #[.val (.long q0), .second, .val (.int p1), .val (.int p2), .val (.int p3), .val (.ref b1), .unset, .unset, .unset, .unset, .unset, .unset] [(.int ((((q0.toUInt64 >>> ((16 : Int32) &&& 0x3f).toInt64.toUInt64).toInt64).toInt32).toInt8.toInt32)), (.int (2 : Int32)), (.ref b1)]))
  obtain ⟨T16, h16, L16, X16, N16, e16, W16, V16, st16⟩ := own_stB X11 N11 hx hZ e11 f14 g_b1 (j := (2 : Int32)) (x := ((((q0.toUInt64 >>> ((16 : Int32) &&& 0x3f).toInt64.toUInt64).toInt64).toInt32).toInt8.toInt32)) (i := 2) ⟨by decide, by decide⟩ rfl (Nat.le_of_ble_eq_true rfl) (pc := 32) (Ls := #[.val (.long q0), .second, .val (.int p1), .val (.int p2), .val (.int p3), .val (.ref b1), .unset, .unset, .unset, .unset, .unset, .unset]) (rest := []) (hb hby at_32)
  refine own_via st16 ?_
  have f17 : Sta Z h16 "com/example/bowerbird/bowerbird/Encoding" "BSON" "Lcom/example/bowerbird/bowerbird/Encoding;" (.ref w1) := f12.wr W16
  have f18 : Sta Z h16 "com/example/bowerbird/bowerbird/Encoding" "JSON" "Lcom/example/bowerbird/bowerbird/Encoding;" (.ref w2) := f13.wr W16
  have f19 : Arv Z h16 b1 k1 .byte (8 : Int32) [(.int (((q0.toInt32).toInt8.toInt32).toInt8.toInt32)), (.int (((((q0.toUInt64 >>> ((8 : Int32) &&& 0x3f).toInt64.toUInt64).toInt64).toInt32).toInt8.toInt32).toInt8.toInt32)), (.int (((((q0.toUInt64 >>> ((16 : Int32) &&& 0x3f).toInt64.toUInt64).toInt64).toInt32).toInt8.toInt32).toInt8.toInt32)), (.int (0 : Int32)), (.int (0 : Int32)), (.int (0 : Int32)), (.int (0 : Int32)), (.int (0 : Int32))] (.int (0 : Int32)) := V16
  have Zs20 : n0 ≤ h16.size := by rw [W16.size]; exact Zs15
  show own_G p e below _ (T16.setTop (mkF m 33 #[.val (.long q0), .second, .val (.int p1), .val (.int p2), .val (.int p3), .val (.ref b1), .unset, .unset, .unset, .unset, .unset, .unset] []))
  refine own_via (fun t k => XS.aload X16.here hx rfl (hb hby at_33) rfl rfl k) ?_
  show own_G p e below _ (T16.setTop (mkF m 35 #[.val (.long q0), .second, .val (.int p1), .val (.int p2), .val (.int p3), .val (.ref b1), .unset, .unset, .unset, .unset, .unset, .unset] [(.ref b1)]))
  refine own_via (fun t k => XS.iconst X16.here hx rfl (hb hby at_35) k) ?_
  show own_G p e below _ (T16.setTop (mkF m 36 #[.val (.long q0), .second, .val (.int p1), .val (.int p2), .val (.int p3), .val (.ref b1), .unset, .unset, .unset, .unset, .unset, .unset] [(.int (3 : Int32)), (.ref b1)]))
  refine own_via (fun t k => XS.lloadN X16.here hx rfl (hb hby at_36) rfl k) ?_
  show own_G p e below _ (T16.setTop (mkF m 37 #[.val (.long q0), .second, .val (.int p1), .val (.int p2), .val (.int p3), .val (.ref b1), .unset, .unset, .unset, .unset, .unset, .unset] [(.long q0), (.int (3 : Int32)), (.ref b1)]))
  refine own_via (fun t k => XS.bipush X16.here hx rfl (hb hby at_37) k) ?_
  show own_G p e below _ (T16.setTop (mkF m 39 #[.val (.long q0), .second, .val (.int p1), .val (.int p2), .val (.int p3), .val (.ref b1), .unset, .unset, .unset, .unset, .unset, .unset] [(.int (24 : Int32)), (.long q0), (.int (3 : Int32)), (.ref b1)]))
  refine own_via (fun t k => XS.lushr X16.here hx rfl (hb hby at_39) rfl k) ?_
  show own_G p e below _ (T16.setTop (mkF m 40 #[.val (.long q0), .second, .val (.int p1), .val (.int p2), .val (.int p3), .val (.ref b1), .unset, .unset, .unset, .unset, .unset, .unset] [(.long ((q0.toUInt64 >>> ((24 : Int32) &&& 0x3f).toInt64.toUInt64).toInt64)), (.int (3 : Int32)), (.ref b1)]))
  refine own_via (fun t k => XS.l2i X16.here hx rfl (hb hby at_40) rfl k) ?_
  show own_G p e below _ (T16.setTop (mkF m 41 #[.val (.long q0), .second, .val (.int p1), .val (.int p2), .val (.int p3), .val (.ref b1), .unset, .unset, .unset, .unset, .unset, .unset] [(.int (((q0.toUInt64 >>> ((24 : Int32) &&& 0x3f).toInt64.toUInt64).toInt64).toInt32)), (.int (3 : Int32)), (.ref b1)]))
  refine own_via (fun t k => XS.i2b X16.here hx rfl (hb hby at_41) rfl k) ?_
  show own_G p e below _ (T16.setTop (mkF m 42 #[.val (.long q0), .second, .val (.int p1), .val (.int p2), .val (.int p3), .val (.ref b1), .unset, .unset, .unset, .unset, .unset, .unset] [(.int ((((q0.toUInt64 >>> ((24 : Int32) &&& 0x3f).toInt64.toUInt64).toInt64).toInt32).toInt8.toInt32)), (.int (3 : Int32)), (.ref b1)]))
  obtain ⟨T21, h21, L21, X21, N21, e21, W21, V21, st21⟩ := own_stB X16 N16 hx hZ e16 f19 g_b1 (j := (3 : Int32)) (x := ((((q0.toUInt64 >>> ((24 : Int32) &&& 0x3f).toInt64.toUInt64).toInt64).toInt32).toInt8.toInt32)) (i := 3) ⟨by decide, by decide⟩ rfl (Nat.le_of_ble_eq_true rfl) (pc := 42) (Ls := #[.val (.long q0), .second, .val (.int p1), .val (.int p2), .val (.int p3), .val (.ref b1), .unset, .unset, .unset, .unset, .unset, .unset]) (rest := []) (hb hby at_42)
  refine own_via st21 ?_
  have f22 : Sta Z h21 "com/example/bowerbird/bowerbird/Encoding" "BSON" "Lcom/example/bowerbird/bowerbird/Encoding;" (.ref w1) := f17.wr W21
  have f23 : Sta Z h21 "com/example/bowerbird/bowerbird/Encoding" "JSON" "Lcom/example/bowerbird/bowerbird/Encoding;" (.ref w2) := f18.wr W21
  have f24 : Arv Z h21 b1 k1 .byte (8 : Int32) [(.int (((q0.toInt32).toInt8.toInt32).toInt8.toInt32)), (.int (((((q0.toUInt64 >>> ((8 : Int32) &&& 0x3f).toInt64.toUInt64).toInt64).toInt32).toInt8.toInt32).toInt8.toInt32)), (.int (((((q0.toUInt64 >>> ((16 : Int32) &&& 0x3f).toInt64.toUInt64).toInt64).toInt32).toInt8.toInt32).toInt8.toInt32)), (.int (((((q0.toUInt64 >>> ((24 : Int32) &&& 0x3f).toInt64.toUInt64).toInt64).toInt32).toInt8.toInt32).toInt8.toInt32)), (.int (0 : Int32)), (.int (0 : Int32)), (.int (0 : Int32)), (.int (0 : Int32))] (.int (0 : Int32)) := V21
  have Zs25 : n0 ≤ h21.size := by rw [W21.size]; exact Zs20
  show own_G p e below _ (T21.setTop (mkF m 43 #[.val (.long q0), .second, .val (.int p1), .val (.int p2), .val (.int p3), .val (.ref b1), .unset, .unset, .unset, .unset, .unset, .unset] []))
  refine own_via (fun t k => XS.aload X21.here hx rfl (hb hby at_43) rfl rfl k) ?_
  show own_G p e below _ (T21.setTop (mkF m 45 #[.val (.long q0), .second, .val (.int p1), .val (.int p2), .val (.int p3), .val (.ref b1), .unset, .unset, .unset, .unset, .unset, .unset] [(.ref b1)]))
  refine own_via (fun t k => XS.iconst X21.here hx rfl (hb hby at_45) k) ?_
  show own_G p e below _ (T21.setTop (mkF m 46 #[.val (.long q0), .second, .val (.int p1), .val (.int p2), .val (.int p3), .val (.ref b1), .unset, .unset, .unset, .unset, .unset, .unset] [(.int (4 : Int32)), (.ref b1)]))
  refine own_via (fun t k => XS.lloadN X21.here hx rfl (hb hby at_46) rfl k) ?_
  show own_G p e below _ (T21.setTop (mkF m 47 #[.val (.long q0), .second, .val (.int p1), .val (.int p2), .val (.int p3), .val (.ref b1), .unset, .unset, .unset, .unset, .unset, .unset] [(.long q0), (.int (4 : Int32)), (.ref b1)]))
  refine own_via (fun t k => XS.bipush X21.here hx rfl (hb hby at_47) k) ?_
  show own_G p e below _ (T21.setTop (mkF m 49 #[.val (.long q0), .second, .val (.int p1), .val (.int p2), .val (.int p3), .val (.ref b1), .unset, .unset, .unset, .unset, .unset, .unset] [(.int (32 : Int32)), (.long q0), (.int (4 : Int32)), (.ref b1)]))
  refine own_via (fun t k => XS.lushr X21.here hx rfl (hb hby at_49) rfl k) ?_
  show own_G p e below _ (T21.setTop (mkF m 50 #[.val (.long q0), .second, .val (.int p1), .val (.int p2), .val (.int p3), .val (.ref b1), .unset, .unset, .unset, .unset, .unset, .unset] [(.long ((q0.toUInt64 >>> ((32 : Int32) &&& 0x3f).toInt64.toUInt64).toInt64)), (.int (4 : Int32)), (.ref b1)]))
  refine own_via (fun t k => XS.l2i X21.here hx rfl (hb hby at_50) rfl k) ?_
  show own_G p e below _ (T21.setTop (mkF m 51 #[.val (.long q0), .second, .val (.int p1), .val (.int p2), .val (.int p3), .val (.ref b1), .unset, .unset, .unset, .unset, .unset, .unset] [(.int (((q0.toUInt64 >>> ((32 : Int32) &&& 0x3f).toInt64.toUInt64).toInt64).toInt32)), (.int (4 : Int32)), (.ref b1)]))
  refine own_via (fun t k => XS.i2b X21.here hx rfl (hb hby at_51) rfl k) ?_
  show own_G p e below _ (T21.setTop (mkF m 52 #[.val (.long q0), .second, .val (.int p1), .val (.int p2), .val (.int p3), .val (.ref b1), .unset, .unset, .unset, .unset, .unset, .unset] [(.int ((((q0.toUInt64 >>> ((32 : Int32) &&& 0x3f).toInt64.toUInt64).toInt64).toInt32).toInt8.toInt32)), (.int (4 : Int32)), (.ref b1)]))
  obtain ⟨T26, h26, L26, X26, N26, e26, W26, V26, st26⟩ := own_stB X21 N21 hx hZ e21 f24 g_b1 (j := (4 : Int32)) (x := ((((q0.toUInt64 >>> ((32 : Int32) &&& 0x3f).toInt64.toUInt64).toInt64).toInt32).toInt8.toInt32)) (i := 4) ⟨by decide, by decide⟩ rfl (Nat.le_of_ble_eq_true rfl) (pc := 52) (Ls := #[.val (.long q0), .second, .val (.int p1), .val (.int p2), .val (.int p3), .val (.ref b1), .unset, .unset, .unset, .unset, .unset, .unset]) (rest := []) (hb hby at_52)
  refine own_via st26 ?_
  have f27 : Sta Z h26 "com/example/bowerbird/bowerbird/Encoding" "BSON" "Lcom/example/bowerbird/bowerbird/Encoding;" (.ref w1) := f22.wr W26
  have f28 : Sta Z h26 "com/example/bowerbird/bowerbird/Encoding" "JSON" "Lcom/example/bowerbird/bowerbird/Encoding;" (.ref w2) := f23.wr W26
  have f29 : Arv Z h26 b1 k1 .byte (8 : Int32) [(.int (((q0.toInt32).toInt8.toInt32).toInt8.toInt32)), (.int (((((q0.toUInt64 >>> ((8 : Int32) &&& 0x3f).toInt64.toUInt64).toInt64).toInt32).toInt8.toInt32).toInt8.toInt32)), (.int (((((q0.toUInt64 >>> ((16 : Int32) &&& 0x3f).toInt64.toUInt64).toInt64).toInt32).toInt8.toInt32).toInt8.toInt32)), (.int (((((q0.toUInt64 >>> ((24 : Int32) &&& 0x3f).toInt64.toUInt64).toInt64).toInt32).toInt8.toInt32).toInt8.toInt32)), (.int (((((q0.toUInt64 >>> ((32 : Int32) &&& 0x3f).toInt64.toUInt64).toInt64).toInt32).toInt8.toInt32).toInt8.toInt32)), (.int (0 : Int32)), (.int (0 : Int32)), (.int (0 : Int32))] (.int (0 : Int32)) := V26
  have Zs30 : n0 ≤ h26.size := by rw [W26.size]; exact Zs25
  show own_G p e below _ (T26.setTop (mkF m 53 #[.val (.long q0), .second, .val (.int p1), .val (.int p2), .val (.int p3), .val (.ref b1), .unset, .unset, .unset, .unset, .unset, .unset] []))
  refine own_via (fun t k => XS.aload X26.here hx rfl (hb hby at_53) rfl rfl k) ?_
  show own_G p e below _ (T26.setTop (mkF m 55 #[.val (.long q0), .second, .val (.int p1), .val (.int p2), .val (.int p3), .val (.ref b1), .unset, .unset, .unset, .unset, .unset, .unset] [(.ref b1)]))
  refine own_via (fun t k => XS.iconst X26.here hx rfl (hb hby at_55) k) ?_
  show own_G p e below _ (T26.setTop (mkF m 56 #[.val (.long q0), .second, .val (.int p1), .val (.int p2), .val (.int p3), .val (.ref b1), .unset, .unset, .unset, .unset, .unset, .unset] [(.int (5 : Int32)), (.ref b1)]))
  refine own_via (fun t k => XS.lloadN X26.here hx rfl (hb hby at_56) rfl k) ?_
  show own_G p e below _ (T26.setTop (mkF m 57 #[.val (.long q0), .second, .val (.int p1), .val (.int p2), .val (.int p3), .val (.ref b1), .unset, .unset, .unset, .unset, .unset, .unset] [(.long q0), (.int (5 : Int32)), (.ref b1)]))
  refine own_via (fun t k => XS.bipush X26.here hx rfl (hb hby at_57) k) ?_
  show own_G p e below _ (T26.setTop (mkF m 59 #[.val (.long q0), .second, .val (.int p1), .val (.int p2), .val (.int p3), .val (.ref b1), .unset, .unset, .unset, .unset, .unset, .unset] [(.int (40 : Int32)), (.long q0), (.int (5 : Int32)), (.ref b1)]))
  refine own_via (fun t k => XS.lushr X26.here hx rfl (hb hby at_59) rfl k) ?_
  show own_G p e below _ (T26.setTop (mkF m 60 #[.val (.long q0), .second, .val (.int p1), .val (.int p2), .val (.int p3), .val (.ref b1), .unset, .unset, .unset, .unset, .unset, .unset] [(.long ((q0.toUInt64 >>> ((40 : Int32) &&& 0x3f).toInt64.toUInt64).toInt64)), (.int (5 : Int32)), (.ref b1)]))
  refine own_via (fun t k => XS.l2i X26.here hx rfl (hb hby at_60) rfl k) ?_
  show own_G p e below _ (T26.setTop (mkF m 61 #[.val (.long q0), .second, .val (.int p1), .val (.int p2), .val (.int p3), .val (.ref b1), .unset, .unset, .unset, .unset, .unset, .unset] [(.int (((q0.toUInt64 >>> ((40 : Int32) &&& 0x3f).toInt64.toUInt64).toInt64).toInt32)), (.int (5 : Int32)), (.ref b1)]))
  refine own_via (fun t k => XS.i2b X26.here hx rfl (hb hby at_61) rfl k) ?_
  show own_G p e below _ (T26.setTop (mkF m 62 #[.val (.long q0), .second, .val (.int p1), .val (.int p2), .val (.int p3), .val (.ref b1), .unset, .unset, .unset, .unset, .unset, .unset] [(.int ((((q0.toUInt64 >>> ((40 : Int32) &&& 0x3f).toInt64.toUInt64).toInt64).toInt32).toInt8.toInt32)), (.int (5 : Int32)), (.ref b1)]))
  obtain ⟨T31, h31, L31, X31, N31, e31, W31, V31, st31⟩ := own_stB X26 N26 hx hZ e26 f29 g_b1 (j := (5 : Int32)) (x := ((((q0.toUInt64 >>> ((40 : Int32) &&& 0x3f).toInt64.toUInt64).toInt64).toInt32).toInt8.toInt32)) (i := 5) ⟨by decide, by decide⟩ rfl (Nat.le_of_ble_eq_true rfl) (pc := 62) (Ls := #[.val (.long q0), .second, .val (.int p1), .val (.int p2), .val (.int p3), .val (.ref b1), .unset, .unset, .unset, .unset, .unset, .unset]) (rest := []) (hb hby at_62)
  refine own_via st31 ?_
  have f32 : Sta Z h31 "com/example/bowerbird/bowerbird/Encoding" "BSON" "Lcom/example/bowerbird/bowerbird/Encoding;" (.ref w1) := f27.wr W31
  have f33 : Sta Z h31 "com/example/bowerbird/bowerbird/Encoding" "JSON" "Lcom/example/bowerbird/bowerbird/Encoding;" (.ref w2) := f28.wr W31
  have f34 : Arv Z h31 b1 k1 .byte (8 : Int32) [(.int (((q0.toInt32).toInt8.toInt32).toInt8.toInt32)), (.int (((((q0.toUInt64 >>> ((8 : Int32) &&& 0x3f).toInt64.toUInt64).toInt64).toInt32).toInt8.toInt32).toInt8.toInt32)), (.int (((((q0.toUInt64 >>> ((16 : Int32) &&& 0x3f).toInt64.toUInt64).toInt64).toInt32).toInt8.toInt32).toInt8.toInt32)), (.int (((((q0.toUInt64 >>> ((24 : Int32) &&& 0x3f).toInt64.toUInt64).toInt64).toInt32).toInt8.toInt32).toInt8.toInt32)), (.int (((((q0.toUInt64 >>> ((32 : Int32) &&& 0x3f).toInt64.toUInt64).toInt64).toInt32).toInt8.toInt32).toInt8.toInt32)), (.int (((((q0.toUInt64 >>> ((40 : Int32) &&& 0x3f).toInt64.toUInt64).toInt64).toInt32).toInt8.toInt32).toInt8.toInt32)), (.int (0 : Int32)), (.int (0 : Int32))] (.int (0 : Int32)) := V31
  have Zs35 : n0 ≤ h31.size := by rw [W31.size]; exact Zs30
  show own_G p e below _ (T31.setTop (mkF m 63 #[.val (.long q0), .second, .val (.int p1), .val (.int p2), .val (.int p3), .val (.ref b1), .unset, .unset, .unset, .unset, .unset, .unset] []))
  refine own_via (fun t k => XS.aload X31.here hx rfl (hb hby at_63) rfl rfl k) ?_
  show own_G p e below _ (T31.setTop (mkF m 65 #[.val (.long q0), .second, .val (.int p1), .val (.int p2), .val (.int p3), .val (.ref b1), .unset, .unset, .unset, .unset, .unset, .unset] [(.ref b1)]))
  refine own_via (fun t k => XS.bipush X31.here hx rfl (hb hby at_65) k) ?_
  show own_G p e below _ (T31.setTop (mkF m 67 #[.val (.long q0), .second, .val (.int p1), .val (.int p2), .val (.int p3), .val (.ref b1), .unset, .unset, .unset, .unset, .unset, .unset] [(.int (6 : Int32)), (.ref b1)]))
  refine own_via (fun t k => XS.lloadN X31.here hx rfl (hb hby at_67) rfl k) ?_
  show own_G p e below _ (T31.setTop (mkF m 68 #[.val (.long q0), .second, .val (.int p1), .val (.int p2), .val (.int p3), .val (.ref b1), .unset, .unset, .unset, .unset, .unset, .unset] [(.long q0), (.int (6 : Int32)), (.ref b1)]))
  refine own_via (fun t k => XS.bipush X31.here hx rfl (hb hby at_68) k) ?_
  show own_G p e below _ (T31.setTop (mkF m 70 #[.val (.long q0), .second, .val (.int p1), .val (.int p2), .val (.int p3), .val (.ref b1), .unset, .unset, .unset, .unset, .unset, .unset] [(.int (48 : Int32)), (.long q0), (.int (6 : Int32)), (.ref b1)]))
  refine own_via (fun t k => XS.lushr X31.here hx rfl (hb hby at_70) rfl k) ?_
  show own_G p e below _ (T31.setTop (mkF m 71 #[.val (.long q0), .second, .val (.int p1), .val (.int p2), .val (.int p3), .val (.ref b1), .unset, .unset, .unset, .unset, .unset, .unset] [(.long ((q0.toUInt64 >>> ((48 : Int32) &&& 0x3f).toInt64.toUInt64).toInt64)), (.int (6 : Int32)), (.ref b1)]))
  refine own_via (fun t k => XS.l2i X31.here hx rfl (hb hby at_71) rfl k) ?_
  show own_G p e below _ (T31.setTop (mkF m 72 #[.val (.long q0), .second, .val (.int p1), .val (.int p2), .val (.int p3), .val (.ref b1), .unset, .unset, .unset, .unset, .unset, .unset] [(.int (((q0.toUInt64 >>> ((48 : Int32) &&& 0x3f).toInt64.toUInt64).toInt64).toInt32)), (.int (6 : Int32)), (.ref b1)]))
  refine own_via (fun t k => XS.i2b X31.here hx rfl (hb hby at_72) rfl k) ?_
  show own_G p e below _ (T31.setTop (mkF m 73 #[.val (.long q0), .second, .val (.int p1), .val (.int p2), .val (.int p3), .val (.ref b1), .unset, .unset, .unset, .unset, .unset, .unset] [(.int ((((q0.toUInt64 >>> ((48 : Int32) &&& 0x3f).toInt64.toUInt64).toInt64).toInt32).toInt8.toInt32)), (.int (6 : Int32)), (.ref b1)]))
  obtain ⟨T36, h36, L36, X36, N36, e36, W36, V36, st36⟩ := own_stB X31 N31 hx hZ e31 f34 g_b1 (j := (6 : Int32)) (x := ((((q0.toUInt64 >>> ((48 : Int32) &&& 0x3f).toInt64.toUInt64).toInt64).toInt32).toInt8.toInt32)) (i := 6) ⟨by decide, by decide⟩ rfl (Nat.le_of_ble_eq_true rfl) (pc := 73) (Ls := #[.val (.long q0), .second, .val (.int p1), .val (.int p2), .val (.int p3), .val (.ref b1), .unset, .unset, .unset, .unset, .unset, .unset]) (rest := []) (hb hby at_73)
  refine own_via st36 ?_
  have f37 : Sta Z h36 "com/example/bowerbird/bowerbird/Encoding" "BSON" "Lcom/example/bowerbird/bowerbird/Encoding;" (.ref w1) := f32.wr W36
  have f38 : Sta Z h36 "com/example/bowerbird/bowerbird/Encoding" "JSON" "Lcom/example/bowerbird/bowerbird/Encoding;" (.ref w2) := f33.wr W36
  have f39 : Arv Z h36 b1 k1 .byte (8 : Int32) [(.int (((q0.toInt32).toInt8.toInt32).toInt8.toInt32)), (.int (((((q0.toUInt64 >>> ((8 : Int32) &&& 0x3f).toInt64.toUInt64).toInt64).toInt32).toInt8.toInt32).toInt8.toInt32)), (.int (((((q0.toUInt64 >>> ((16 : Int32) &&& 0x3f).toInt64.toUInt64).toInt64).toInt32).toInt8.toInt32).toInt8.toInt32)), (.int (((((q0.toUInt64 >>> ((24 : Int32) &&& 0x3f).toInt64.toUInt64).toInt64).toInt32).toInt8.toInt32).toInt8.toInt32)), (.int (((((q0.toUInt64 >>> ((32 : Int32) &&& 0x3f).toInt64.toUInt64).toInt64).toInt32).toInt8.toInt32).toInt8.toInt32)), (.int (((((q0.toUInt64 >>> ((40 : Int32) &&& 0x3f).toInt64.toUInt64).toInt64).toInt32).toInt8.toInt32).toInt8.toInt32)), (.int (((((q0.toUInt64 >>> ((48 : Int32) &&& 0x3f).toInt64.toUInt64).toInt64).toInt32).toInt8.toInt32).toInt8.toInt32)), (.int (0 : Int32))] (.int (0 : Int32)) := V36
  have Zs40 : n0 ≤ h36.size := by rw [W36.size]; exact Zs35
  show own_G p e below _ (T36.setTop (mkF m 74 #[.val (.long q0), .second, .val (.int p1), .val (.int p2), .val (.int p3), .val (.ref b1), .unset, .unset, .unset, .unset, .unset, .unset] []))
  refine own_via (fun t k => XS.aload X36.here hx rfl (hb hby at_74) rfl rfl k) ?_
  show own_G p e below _ (T36.setTop (mkF m 76 #[.val (.long q0), .second, .val (.int p1), .val (.int p2), .val (.int p3), .val (.ref b1), .unset, .unset, .unset, .unset, .unset, .unset] [(.ref b1)]))
  refine own_via (fun t k => XS.bipush X36.here hx rfl (hb hby at_76) k) ?_
  show own_G p e below _ (T36.setTop (mkF m 78 #[.val (.long q0), .second, .val (.int p1), .val (.int p2), .val (.int p3), .val (.ref b1), .unset, .unset, .unset, .unset, .unset, .unset] [(.int (7 : Int32)), (.ref b1)]))
  refine own_via (fun t k => XS.lloadN X36.here hx rfl (hb hby at_78) rfl k) ?_
  show own_G p e below _ (T36.setTop (mkF m 79 #[.val (.long q0), .second, .val (.int p1), .val (.int p2), .val (.int p3), .val (.ref b1), .unset, .unset, .unset, .unset, .unset, .unset] [(.long q0), (.int (7 : Int32)), (.ref b1)]))
  refine own_via (fun t k => XS.bipush X36.here hx rfl (hb hby at_79) k) ?_
  show own_G p e below _ (T36.setTop (mkF m 81 #[.val (.long q0), .second, .val (.int p1), .val (.int p2), .val (.int p3), .val (.ref b1), .unset, .unset, .unset, .unset, .unset, .unset] [(.int (56 : Int32)), (.long q0), (.int (7 : Int32)), (.ref b1)]))
  refine own_via (fun t k => XS.lushr X36.here hx rfl (hb hby at_81) rfl k) ?_
  show own_G p e below _ (T36.setTop (mkF m 82 #[.val (.long q0), .second, .val (.int p1), .val (.int p2), .val (.int p3), .val (.ref b1), .unset, .unset, .unset, .unset, .unset, .unset] [(.long ((q0.toUInt64 >>> ((56 : Int32) &&& 0x3f).toInt64.toUInt64).toInt64)), (.int (7 : Int32)), (.ref b1)]))
  refine own_via (fun t k => XS.l2i X36.here hx rfl (hb hby at_82) rfl k) ?_
  show own_G p e below _ (T36.setTop (mkF m 83 #[.val (.long q0), .second, .val (.int p1), .val (.int p2), .val (.int p3), .val (.ref b1), .unset, .unset, .unset, .unset, .unset, .unset] [(.int (((q0.toUInt64 >>> ((56 : Int32) &&& 0x3f).toInt64.toUInt64).toInt64).toInt32)), (.int (7 : Int32)), (.ref b1)]))
  refine own_via (fun t k => XS.i2b X36.here hx rfl (hb hby at_83) rfl k) ?_
  show own_G p e below _ (T36.setTop (mkF m 84 #[.val (.long q0), .second, .val (.int p1), .val (.int p2), .val (.int p3), .val (.ref b1), .unset, .unset, .unset, .unset, .unset, .unset] [(.int ((((q0.toUInt64 >>> ((56 : Int32) &&& 0x3f).toInt64.toUInt64).toInt64).toInt32).toInt8.toInt32)), (.int (7 : Int32)), (.ref b1)]))
  obtain ⟨T41, h41, L41, X41, N41, e41, W41, V41, st41⟩ := own_stB X36 N36 hx hZ e36 f39 g_b1 (j := (7 : Int32)) (x := ((((q0.toUInt64 >>> ((56 : Int32) &&& 0x3f).toInt64.toUInt64).toInt64).toInt32).toInt8.toInt32)) (i := 7) ⟨by decide, by decide⟩ rfl (Nat.le_of_ble_eq_true rfl) (pc := 84) (Ls := #[.val (.long q0), .second, .val (.int p1), .val (.int p2), .val (.int p3), .val (.ref b1), .unset, .unset, .unset, .unset, .unset, .unset]) (rest := []) (hb hby at_84)
  refine own_via st41 ?_
  have f42 : Sta Z h41 "com/example/bowerbird/bowerbird/Encoding" "BSON" "Lcom/example/bowerbird/bowerbird/Encoding;" (.ref w1) := f37.wr W41
  have f43 : Sta Z h41 "com/example/bowerbird/bowerbird/Encoding" "JSON" "Lcom/example/bowerbird/bowerbird/Encoding;" (.ref w2) := f38.wr W41
  have f44 : Arv Z h41 b1 k1 .byte (8 : Int32) [(.int (((q0.toInt32).toInt8.toInt32).toInt8.toInt32)), (.int (((((q0.toUInt64 >>> ((8 : Int32) &&& 0x3f).toInt64.toUInt64).toInt64).toInt32).toInt8.toInt32).toInt8.toInt32)), (.int (((((q0.toUInt64 >>> ((16 : Int32) &&& 0x3f).toInt64.toUInt64).toInt64).toInt32).toInt8.toInt32).toInt8.toInt32)), (.int (((((q0.toUInt64 >>> ((24 : Int32) &&& 0x3f).toInt64.toUInt64).toInt64).toInt32).toInt8.toInt32).toInt8.toInt32)), (.int (((((q0.toUInt64 >>> ((32 : Int32) &&& 0x3f).toInt64.toUInt64).toInt64).toInt32).toInt8.toInt32).toInt8.toInt32)), (.int (((((q0.toUInt64 >>> ((40 : Int32) &&& 0x3f).toInt64.toUInt64).toInt64).toInt32).toInt8.toInt32).toInt8.toInt32)), (.int (((((q0.toUInt64 >>> ((48 : Int32) &&& 0x3f).toInt64.toUInt64).toInt64).toInt32).toInt8.toInt32).toInt8.toInt32)), (.int (((((q0.toUInt64 >>> ((56 : Int32) &&& 0x3f).toInt64.toUInt64).toInt64).toInt32).toInt8.toInt32).toInt8.toInt32))] (.int (0 : Int32)) := V41
  have Zs45 : n0 ≤ h41.size := by rw [W41.size]; exact Zs40
  show own_G p e below _ (T41.setTop (mkF m 85 #[.val (.long q0), .second, .val (.int p1), .val (.int p2), .val (.int p3), .val (.ref b1), .unset, .unset, .unset, .unset, .unset, .unset] []))
  refine own_via (fun t k => XS.iload X41.here hx rfl (hb hby at_85) rfl k) ?_
  show own_G p e below _ (T41.setTop (mkF m 87 #[.val (.long q0), .second, .val (.int p1), .val (.int p2), .val (.int p3), .val (.ref b1), .unset, .unset, .unset, .unset, .unset, .unset] [(.int p3)]))
  refine own_via (fun t k => XS.iconst X41.here hx rfl (hb hby at_87) k) ?_
  show own_G p e below _ (T41.setTop (mkF m 88 #[.val (.long q0), .second, .val (.int p1), .val (.int p2), .val (.int p3), .val (.ref b1), .unset, .unset, .unset, .unset, .unset, .unset] [(.int (1 : Int32)), (.int p3)]))
  refine own_via (fun t k => XS.iand X41.here hx rfl (hb hby at_88) rfl k) ?_
  show own_G p e below _ (T41.setTop (mkF m 89 #[.val (.long q0), .second, .val (.int p1), .val (.int p2), .val (.int p3), .val (.ref b1), .unset, .unset, .unset, .unset, .unset, .unset] [(.int (p3 &&& (1 : Int32)))]))
  by_cases hc46 : (p3 &&& (1 : Int32)) = (0 : Int32)
  ·
    refine own_via (fun t k => XS.ifYes X41.here hx rfl (pc0 := 89) (pc' := 96) rfl (hb hby at_89) rfl ((if0 _ _).trans (teq hc46).1) (by decide) (by decide) k) ?_
    show own_G p e below _ (T41.setTop (mkF m 96 #[.val (.long q0), .second, .val (.int p1), .val (.int p2), .val (.int p3), .val (.ref b1), .unset, .unset, .unset, .unset, .unset, .unset] []))
    refine own_via (fun t k => XS.iconst X41.here hx rfl (hb hby at_96) k) ?_
    show own_G p e below _ (T41.setTop (mkF m 97 #[.val (.long q0), .second, .val (.int p1), .val (.int p2), .val (.int p3), .val (.ref b1), .unset, .unset, .unset, .unset, .unset, .unset] [(.int (0 : Int32))]))
    refine own_via (fun t k => XS.istore X41.here hx rfl (hb hby at_97) rfl (l' := #[.val (.long q0), .second, .val (.int p1), .val (.int p2), .val (.int p3), .val (.ref b1), .val (.int (0 : Int32)), .unset, .unset, .unset, .unset, .unset]) rfl k) ?_
    show own_G p e below _ (T41.setTop (mkF m 99 #[.val (.long q0), .second, .val (.int p1), .val (.int p2), .val (.int p3), .val (.ref b1), .val (.int (0 : Int32)), .unset, .unset, .unset, .unset, .unset] []))
    refine own_via (fun t k => XS.iload X41.here hx rfl (hb hby at_99) rfl k) ?_
    show own_G p e below _ (T41.setTop (mkF m 101 #[.val (.long q0), .second, .val (.int p1), .val (.int p2), .val (.int p3), .val (.ref b1), .val (.int (0 : Int32)), .unset, .unset, .unset, .unset, .unset] [(.int (0 : Int32))]))
    refine own_via (fun t k => XS.ifYes X41.here hx rfl (pc0 := 101) (pc' := 147) rfl (hb hby at_101) rfl ((if0 _ _).trans (teq (by decide : (0 : Int32) = (0 : Int32))).1) (by decide) (by decide) k) ?_
    show own_G p e below _ (T41.setTop (mkF m 147 #[.val (.long q0), .second, .val (.int p1), .val (.int p2), .val (.int p3), .val (.ref b1), .val (.int (0 : Int32)), .unset, .unset, .unset, .unset, .unset] []))
    refine own_via (fun t k => XS.iloadN X41.here hx rfl (hb hby at_147) rfl k) ?_
    show own_G p e below _ (T41.setTop (mkF m 148 #[.val (.long q0), .second, .val (.int p1), .val (.int p2), .val (.int p3), .val (.ref b1), .val (.int (0 : Int32)), .unset, .unset, .unset, .unset, .unset] [(.int p1)]))
    refine own_via (X41.ldcInt hx hown (mvT hZ (hw _ (List.mem_of_getElem? (i := 1) rfl))) (g := (mkF m 148 #[.val (.long q0), .second, .val (.int p1), .val (.int p2), .val (.int p3), .val (.ref b1), .val (.int (0 : Int32)), .unset, .unset, .unset, .unset, .unset] [(.int p1)])) rfl (hb hby at_148)) ?_
    show own_G p e below _ (T41.setTop (mkF m 150 #[.val (.long q0), .second, .val (.int p1), .val (.int p2), .val (.int p3), .val (.ref b1), .val (.int (0 : Int32)), .unset, .unset, .unset, .unset, .unset] [(.int (2147483647 : Int32)), (.int p1)]))
    refine own_via (fun t k => XS.iand X41.here hx rfl (hb hby at_150) rfl k) ?_
    show own_G p e below _ (T41.setTop (mkF m 151 #[.val (.long q0), .second, .val (.int p1), .val (.int p2), .val (.int p3), .val (.ref b1), .val (.int (0 : Int32)), .unset, .unset, .unset, .unset, .unset] [(.int (p1 &&& (2147483647 : Int32)))]))
    refine own_via (fun t k => XS.bipush X41.here hx rfl (hb hby at_151) k) ?_
    show own_G p e below _ (T41.setTop (mkF m 153 #[.val (.long q0), .second, .val (.int p1), .val (.int p2), .val (.int p3), .val (.ref b1), .val (.int (0 : Int32)), .unset, .unset, .unset, .unset, .unset] [(.int (9 : Int32)), (.int (p1 &&& (2147483647 : Int32)))]))
    refine own_via (fun t k => XS.irem X41.here hx rfl (hb hby at_153) rfl (by decide) k) ?_
    show own_G p e below _ (T41.setTop (mkF m 154 #[.val (.long q0), .second, .val (.int p1), .val (.int p2), .val (.int p3), .val (.ref b1), .val (.int (0 : Int32)), .unset, .unset, .unset, .unset, .unset] [(.int ((p1 &&& (2147483647 : Int32)) - ((p1 &&& (2147483647 : Int32)) / (9 : Int32)) * (9 : Int32)))]))
    generalize hvg47 : ((p1 &&& (2147483647 : Int32)) - ((p1 &&& (2147483647 : Int32)) / (9 : Int32)) * (9 : Int32)) = vg47
    show own_G p e below _ (T41.setTop (mkF m 154 #[.val (.long q0), .second, .val (.int p1), .val (.int p2), .val (.int p3), .val (.ref b1), .val (.int (0 : Int32)), .unset, .unset, .unset, .unset, .unset] [(.int vg47)]))
    refine own_via (fun t k => XS.istore X41.here hx rfl (hb hby at_154) rfl (l' := #[.val (.long q0), .second, .val (.int p1), .val (.int p2), .val (.int p3), .val (.ref b1), .val (.int (0 : Int32)), .val (.int vg47), .unset, .unset, .unset, .unset]) rfl k) ?_
    show own_G p e below _ (T41.setTop (mkF m 156 #[.val (.long q0), .second, .val (.int p1), .val (.int p2), .val (.int p3), .val (.ref b1), .val (.int (0 : Int32)), .val (.int vg47), .unset, .unset, .unset, .unset] []))
    refine own_via (fun t k => XS.iload X41.here hx rfl (hb hby at_156) rfl k) ?_
    show own_G p e below _ (T41.setTop (mkF m 158 #[.val (.long q0), .second, .val (.int p1), .val (.int p2), .val (.int p3), .val (.ref b1), .val (.int (0 : Int32)), .val (.int vg47), .unset, .unset, .unset, .unset] [(.int vg47)]))
    refine own_via (fun t k => XS.iconst X41.here hx rfl (hb hby at_158) k) ?_
    show own_G p e below _ (T41.setTop (mkF m 159 #[.val (.long q0), .second, .val (.int p1), .val (.int p2), .val (.int p3), .val (.ref b1), .val (.int (0 : Int32)), .val (.int vg47), .unset, .unset, .unset, .unset] [(.int (4 : Int32)), (.int vg47)]))
    by_cases hc48 : vg47 < (4 : Int32)
    ·
      refine own_via (fun t k => XS.icmpYes X41.here hx rfl (pc0 := 159) (pc' := 166) rfl (hb hby at_159) rfl (tlt hc48).1 (by decide) (by decide) k) ?_
      show own_G p e below _ (T41.setTop (mkF m 166 #[.val (.long q0), .second, .val (.int p1), .val (.int p2), .val (.int p3), .val (.ref b1), .val (.int (0 : Int32)), .val (.int vg47), .unset, .unset, .unset, .unset] []))
      refine own_via (fun t k => XS.iconst X41.here hx rfl (hb hby at_166) k) ?_
      show own_G p e below _ (T41.setTop (mkF m 167 #[.val (.long q0), .second, .val (.int p1), .val (.int p2), .val (.int p3), .val (.ref b1), .val (.int (0 : Int32)), .val (.int vg47), .unset, .unset, .unset, .unset] [(.int (0 : Int32))]))
      refine own_via (fun t k => XS.istore X41.here hx rfl (hb hby at_167) rfl (l' := #[.val (.long q0), .second, .val (.int p1), .val (.int p2), .val (.int p3), .val (.ref b1), .val (.int (0 : Int32)), .val (.int vg47), .val (.int (0 : Int32)), .unset, .unset, .unset]) rfl k) ?_
      show own_G p e below _ (T41.setTop (mkF m 169 #[.val (.long q0), .second, .val (.int p1), .val (.int p2), .val (.int p3), .val (.ref b1), .val (.int (0 : Int32)), .val (.int vg47), .val (.int (0 : Int32)), .unset, .unset, .unset] []))
      refine own_via (fun t k => XS.aload X41.here hx rfl (hb hby at_169) rfl rfl k) ?_
      show own_G p e below _ (T41.setTop (mkF m 171 #[.val (.long q0), .second, .val (.int p1), .val (.int p2), .val (.int p3), .val (.ref b1), .val (.int (0 : Int32)), .val (.int vg47), .val (.int (0 : Int32)), .unset, .unset, .unset] [(.ref b1)]))
      refine own_via (fun t k => XS.iconst X41.here hx rfl (hb hby at_171) k) ?_
      show own_G p e below _ (T41.setTop (mkF m 172 #[.val (.long q0), .second, .val (.int p1), .val (.int p2), .val (.int p3), .val (.ref b1), .val (.int (0 : Int32)), .val (.int vg47), .val (.int (0 : Int32)), .unset, .unset, .unset] [(.int (3 : Int32)), (.ref b1)]))
      refine own_via (own_ldB X41 hx hZ e41 f44 (j := (3 : Int32)) ⟨by decide, by decide⟩ (v := (.int (((((q0.toUInt64 >>> ((24 : Int32) &&& 0x3f).toInt64.toUInt64).toInt64).toInt32).toInt8.toInt32).toInt8.toInt32))) rfl (pc := 172) (Ls := #[.val (.long q0), .second, .val (.int p1), .val (.int p2), .val (.int p3), .val (.ref b1), .val (.int (0 : Int32)), .val (.int vg47), .val (.int (0 : Int32)), .unset, .unset, .unset]) (rest := []) (hb hby at_172)) ?_
      show own_G p e below _ (T41.setTop (mkF m 173 #[.val (.long q0), .second, .val (.int p1), .val (.int p2), .val (.int p3), .val (.ref b1), .val (.int (0 : Int32)), .val (.int vg47), .val (.int (0 : Int32)), .unset, .unset, .unset] [(.int (((((q0.toUInt64 >>> ((24 : Int32) &&& 0x3f).toInt64.toUInt64).toInt64).toInt32).toInt8.toInt32).toInt8.toInt32))]))
      by_cases hc49 : (((((q0.toUInt64 >>> ((24 : Int32) &&& 0x3f).toInt64.toUInt64).toInt64).toInt32).toInt8.toInt32).toInt8.toInt32) = (0 : Int32)
      ·
        refine own_via (fun t k => XS.ifNo X41.here hx rfl (hb hby at_173) rfl ((if0 _ _).trans (teq hc49).2) k) ?_
        show own_G p e below _ (T41.setTop (mkF m 176 #[.val (.long q0), .second, .val (.int p1), .val (.int p2), .val (.int p3), .val (.ref b1), .val (.int (0 : Int32)), .val (.int vg47), .val (.int (0 : Int32)), .unset, .unset, .unset] []))
        refine own_via (fun t k => XS.iconst X41.here hx rfl (hb hby at_176) k) ?_
        show own_G p e below _ (T41.setTop (mkF m 177 #[.val (.long q0), .second, .val (.int p1), .val (.int p2), .val (.int p3), .val (.ref b1), .val (.int (0 : Int32)), .val (.int vg47), .val (.int (0 : Int32)), .unset, .unset, .unset] [(.int (1 : Int32))]))
        refine own_via (fun t k => XS.goto X41.here hx rfl (pc0 := 177) (pc' := 181) rfl (hb hby at_177) (by decide) (by decide) k) ?_
        show own_G p e below _ (T41.setTop (mkF m 181 #[.val (.long q0), .second, .val (.int p1), .val (.int p2), .val (.int p3), .val (.ref b1), .val (.int (0 : Int32)), .val (.int vg47), .val (.int (0 : Int32)), .unset, .unset, .unset] [(.int (1 : Int32))]))
        refine own_via (fun t k => XS.istore X41.here hx rfl (hb hby at_181) rfl (l' := #[.val (.long q0), .second, .val (.int p1), .val (.int p2), .val (.int p3), .val (.ref b1), .val (.int (0 : Int32)), .val (.int vg47), .val (.int (0 : Int32)), .val (.int (1 : Int32)), .unset, .unset]) rfl k) ?_
        show own_G p e below _ (T41.setTop (mkF m 183 #[.val (.long q0), .second, .val (.int p1), .val (.int p2), .val (.int p3), .val (.ref b1), .val (.int (0 : Int32)), .val (.int vg47), .val (.int (0 : Int32)), .val (.int (1 : Int32)), .unset, .unset] []))
        refine own_via (fun t k => XS.iload X41.here hx rfl (hb hby at_183) rfl k) ?_
        show own_G p e below _ (T41.setTop (mkF m 185 #[.val (.long q0), .second, .val (.int p1), .val (.int p2), .val (.int p3), .val (.ref b1), .val (.int (0 : Int32)), .val (.int vg47), .val (.int (0 : Int32)), .val (.int (1 : Int32)), .unset, .unset] [(.int (0 : Int32))]))
        refine own_via (fun t k => XS.ifYes X41.here hx rfl (pc0 := 185) (pc' := 209) rfl (hb hby at_185) rfl ((if0 _ _).trans (teq (by decide : (0 : Int32) = (0 : Int32))).1) (by decide) (by decide) k) ?_
        show own_G p e below _ (T41.setTop (mkF m 209 #[.val (.long q0), .second, .val (.int p1), .val (.int p2), .val (.int p3), .val (.ref b1), .val (.int (0 : Int32)), .val (.int vg47), .val (.int (0 : Int32)), .val (.int (1 : Int32)), .unset, .unset] []))
        obtain ⟨T50, X50, e50, st50⟩ := getS2 X41 hx hZ hown (host := "") (Or.inl (hw _ (List.mem_of_getElem? (i := 2) rfl))) Via.refl e41 f43 (g := (mkF m 209 #[.val (.long q0), .second, .val (.int p1), .val (.int p2), .val (.int p3), .val (.ref b1), .val (.int (0 : Int32)), .val (.int vg47), .val (.int (0 : Int32)), .val (.int (1 : Int32)), .unset, .unset] [])) rfl (hb hby at_209)
        refine own_via st50 ?_
        show own_G p e below _ (T50.setTop (mkF m 212 #[.val (.long q0), .second, .val (.int p1), .val (.int p2), .val (.int p3), .val (.ref b1), .val (.int (0 : Int32)), .val (.int vg47), .val (.int (0 : Int32)), .val (.int (1 : Int32)), .unset, .unset] [(.ref w2)]))
        refine own_via (fun t k => XS.astore X50.here hx rfl (hb hby at_212) rfl rfl (l' := #[.val (.long q0), .second, .val (.int p1), .val (.int p2), .val (.int p3), .val (.ref b1), .val (.int (0 : Int32)), .val (.int vg47), .val (.int (0 : Int32)), .val (.int (1 : Int32)), .val (.ref w2), .unset]) rfl k) ?_
        show own_G p e below _ (T50.setTop (mkF m 214 #[.val (.long q0), .second, .val (.int p1), .val (.int p2), .val (.int p3), .val (.ref b1), .val (.int (0 : Int32)), .val (.int vg47), .val (.int (0 : Int32)), .val (.int (1 : Int32)), .val (.ref w2), .unset] []))
        refine own_via (fun t k => XS.aload X50.here hx rfl (hb hby at_214) rfl rfl k) ?_
        show own_G p e below _ (T50.setTop (mkF m 216 #[.val (.long q0), .second, .val (.int p1), .val (.int p2), .val (.int p3), .val (.ref b1), .val (.int (0 : Int32)), .val (.int vg47), .val (.int (0 : Int32)), .val (.int (1 : Int32)), .val (.ref w2), .unset] [(.ref b1)]))
        refine own_via (fun t k => XS.iload X50.here hx rfl (hb hby at_216) rfl k) ?_
        show own_G p e below _ (T50.setTop (mkF m 218 #[.val (.long q0), .second, .val (.int p1), .val (.int p2), .val (.int p3), .val (.ref b1), .val (.int (0 : Int32)), .val (.int vg47), .val (.int (0 : Int32)), .val (.int (1 : Int32)), .val (.ref w2), .unset] [(.int vg47), (.ref b1)]))
        obtain ⟨T51, X51, e51, st51⟩ := own_callP (y := (⟨"com/example/bowerbird/bowerbird/Encoding", "detect", "([BI)Lcom/example/bowerbird/bowerbird/Encoding;"⟩ : MethodName)) (W := 0) X50 hx hZ hown (hw _ (List.mem_of_getElem? (i := 5) rfl)) (hw _ (List.mem_of_getElem? (i := 6) rfl)) (hw _ (List.mem_of_getElem? (i := 3) rfl)) (hw _ (List.mem_of_getElem? (i := 7) rfl)) (by decide) (own_detJ l Z a0 hw [] b1 vg47 k1 (((q0.toInt32).toInt8.toInt32).toInt8.toInt32) (((((q0.toUInt64 >>> ((8 : Int32) &&& 0x3f).toInt64.toUInt64).toInt64).toInt32).toInt8.toInt32).toInt8.toInt32) (((((q0.toUInt64 >>> ((16 : Int32) &&& 0x3f).toInt64.toUInt64).toInt64).toInt32).toInt8.toInt32).toInt8.toInt32) (((((q0.toUInt64 >>> ((24 : Int32) &&& 0x3f).toInt64.toUInt64).toInt64).toInt32).toInt8.toInt32).toInt8.toInt32) (((((q0.toUInt64 >>> ((32 : Int32) &&& 0x3f).toInt64.toUInt64).toInt64).toInt32).toInt8.toInt32).toInt8.toInt32) (((((q0.toUInt64 >>> ((40 : Int32) &&& 0x3f).toInt64.toUInt64).toInt64).toInt32).toInt8.toInt32).toInt8.toInt32) (((((q0.toUInt64 >>> ((48 : Int32) &&& 0x3f).toInt64.toUInt64).toInt64).toInt32).toInt8.toInt32).toInt8.toInt32) (((((q0.toUInt64 >>> ((56 : Int32) &&& 0x3f).toInt64.toUInt64).toInt64).toInt32).toInt8.toInt32).toInt8.toInt32) w1 w2 h41 f44 f42 f43 hc48) (by decide) (by decide) rfl rfl (by decide) (by decide) e50 (pc := 218) (Ls := #[.val (.long q0), .second, .val (.int p1), .val (.int p2), .val (.int p3), .val (.ref b1), .val (.int (0 : Int32)), .val (.int vg47), .val (.int (0 : Int32)), .val (.int (1 : Int32)), .val (.ref w2), .unset]) (st := [(.int vg47), (.ref b1)]) (argsL := [(.ref b1), (.int vg47)]) (rest := []) (by rw [hml]; rfl) (lenOf own_pd0 rfl) rfl rfl (Nat.le_of_eq rfl) (hb hby at_218)
        refine own_via st51 ?_
        show own_G p e below _ (T51.setTop (mkF m 221 #[.val (.long q0), .second, .val (.int p1), .val (.int p2), .val (.int p3), .val (.ref b1), .val (.int (0 : Int32)), .val (.int vg47), .val (.int (0 : Int32)), .val (.int (1 : Int32)), .val (.ref w2), .unset] [(.ref w2)]))
        refine own_via (fun t k => XS.astore X51.here hx rfl (hb hby at_221) rfl rfl (l' := #[.val (.long q0), .second, .val (.int p1), .val (.int p2), .val (.int p3), .val (.ref b1), .val (.int (0 : Int32)), .val (.int vg47), .val (.int (0 : Int32)), .val (.int (1 : Int32)), .val (.ref w2), .val (.ref w2)]) rfl k) ?_
        show own_G p e below _ (T51.setTop (mkF m 223 #[.val (.long q0), .second, .val (.int p1), .val (.int p2), .val (.int p3), .val (.ref b1), .val (.int (0 : Int32)), .val (.int vg47), .val (.int (0 : Int32)), .val (.int (1 : Int32)), .val (.ref w2), .val (.ref w2)] []))
        refine own_via (fun t k => XS.aload X51.here hx rfl (hb hby at_223) rfl rfl k) ?_
        show own_G p e below _ (T51.setTop (mkF m 225 #[.val (.long q0), .second, .val (.int p1), .val (.int p2), .val (.int p3), .val (.ref b1), .val (.int (0 : Int32)), .val (.int vg47), .val (.int (0 : Int32)), .val (.int (1 : Int32)), .val (.ref w2), .val (.ref w2)] [(.ref w2)]))
        refine own_via (fun t k => XS.aload X51.here hx rfl (hb hby at_225) rfl rfl k) ?_
        show own_G p e below _ (T51.setTop (mkF m 227 #[.val (.long q0), .second, .val (.int p1), .val (.int p2), .val (.int p3), .val (.ref b1), .val (.int (0 : Int32)), .val (.int vg47), .val (.int (0 : Int32)), .val (.int (1 : Int32)), .val (.ref w2), .val (.ref w2)] [(.ref w2), (.ref w2)]))
        refine own_via (fun t k => Jvm.RoadKit.acmp (g := (mkF m 227 #[.val (.long q0), .second, .val (.int p1), .val (.int p2), .val (.int p3), .val (.ref b1), .val (.int (0 : Int32)), .val (.int vg47), .val (.int (0 : Int32)), .val (.int (1 : Int32)), .val (.ref w2), .val (.ref w2)] [(.ref w2), (.ref w2)])) X51 hx rfl rfl rfl (pc0 := 227) (pc' := 232) (same := true) rfl (hb hby at_227) rfl (decide_eq_true rfl) (by decide) (by decide) k) ?_
        show own_G p e below _ (T51.setTop (mkF m 232 #[.val (.long q0), .second, .val (.int p1), .val (.int p2), .val (.int p3), .val (.ref b1), .val (.int (0 : Int32)), .val (.int vg47), .val (.int (0 : Int32)), .val (.int (1 : Int32)), .val (.ref w2), .val (.ref w2)] []))
        refine own_via (fun t k => XS.iload X51.here hx rfl (hb hby at_232) rfl k) ?_
        show own_G p e below _ (T51.setTop (mkF m 234 #[.val (.long q0), .second, .val (.int p1), .val (.int p2), .val (.int p3), .val (.ref b1), .val (.int (0 : Int32)), .val (.int vg47), .val (.int (0 : Int32)), .val (.int (1 : Int32)), .val (.ref w2), .val (.ref w2)] [(.int (0 : Int32))]))
        refine own_via (fun t k => XS.ifYes X51.here hx rfl (pc0 := 234) (pc' := 252) rfl (hb hby at_234) rfl ((if0 _ _).trans (teq (by decide : (0 : Int32) = (0 : Int32))).1) (by decide) (by decide) k) ?_
        show own_G p e below _ (T51.setTop (mkF m 252 #[.val (.long q0), .second, .val (.int p1), .val (.int p2), .val (.int p3), .val (.ref b1), .val (.int (0 : Int32)), .val (.int vg47), .val (.int (0 : Int32)), .val (.int (1 : Int32)), .val (.ref w2), .val (.ref w2)] []))
        refine own_via (fun t k => XS.iconst X51.here hx rfl (hb hby at_252) k) ?_
        show own_G p e below _ (T51.setTop (mkF m 253 #[.val (.long q0), .second, .val (.int p1), .val (.int p2), .val (.int p3), .val (.ref b1), .val (.int (0 : Int32)), .val (.int vg47), .val (.int (0 : Int32)), .val (.int (1 : Int32)), .val (.ref w2), .val (.ref w2)] [(.int (1 : Int32))]))
        exact own_retN (t := .boolean) X51 hx Bd.returns (by simp) Bd.notSynchronized (hb hby at_253) ⟨N41, rfl⟩ (by decide) (by decide)
      ·
        refine own_via (fun t k => XS.ifYes X41.here hx rfl (pc0 := 173) (pc' := 180) rfl (hb hby at_173) rfl ((if0 _ _).trans (feq hc49).2) (by decide) (by decide) k) ?_
        show own_G p e below _ (T41.setTop (mkF m 180 #[.val (.long q0), .second, .val (.int p1), .val (.int p2), .val (.int p3), .val (.ref b1), .val (.int (0 : Int32)), .val (.int vg47), .val (.int (0 : Int32)), .unset, .unset, .unset] []))
        refine own_via (fun t k => XS.iconst X41.here hx rfl (hb hby at_180) k) ?_
        show own_G p e below _ (T41.setTop (mkF m 181 #[.val (.long q0), .second, .val (.int p1), .val (.int p2), .val (.int p3), .val (.ref b1), .val (.int (0 : Int32)), .val (.int vg47), .val (.int (0 : Int32)), .unset, .unset, .unset] [(.int (0 : Int32))]))
        refine own_via (fun t k => XS.istore X41.here hx rfl (hb hby at_181) rfl (l' := #[.val (.long q0), .second, .val (.int p1), .val (.int p2), .val (.int p3), .val (.ref b1), .val (.int (0 : Int32)), .val (.int vg47), .val (.int (0 : Int32)), .val (.int (0 : Int32)), .unset, .unset]) rfl k) ?_
        show own_G p e below _ (T41.setTop (mkF m 183 #[.val (.long q0), .second, .val (.int p1), .val (.int p2), .val (.int p3), .val (.ref b1), .val (.int (0 : Int32)), .val (.int vg47), .val (.int (0 : Int32)), .val (.int (0 : Int32)), .unset, .unset] []))
        refine own_via (fun t k => XS.iload X41.here hx rfl (hb hby at_183) rfl k) ?_
        show own_G p e below _ (T41.setTop (mkF m 185 #[.val (.long q0), .second, .val (.int p1), .val (.int p2), .val (.int p3), .val (.ref b1), .val (.int (0 : Int32)), .val (.int vg47), .val (.int (0 : Int32)), .val (.int (0 : Int32)), .unset, .unset] [(.int (0 : Int32))]))
        refine own_via (fun t k => XS.ifYes X41.here hx rfl (pc0 := 185) (pc' := 209) rfl (hb hby at_185) rfl ((if0 _ _).trans (teq (by decide : (0 : Int32) = (0 : Int32))).1) (by decide) (by decide) k) ?_
        show own_G p e below _ (T41.setTop (mkF m 209 #[.val (.long q0), .second, .val (.int p1), .val (.int p2), .val (.int p3), .val (.ref b1), .val (.int (0 : Int32)), .val (.int vg47), .val (.int (0 : Int32)), .val (.int (0 : Int32)), .unset, .unset] []))
        obtain ⟨T52, X52, e52, st52⟩ := getS2 X41 hx hZ hown (host := "") (Or.inl (hw _ (List.mem_of_getElem? (i := 2) rfl))) Via.refl e41 f43 (g := (mkF m 209 #[.val (.long q0), .second, .val (.int p1), .val (.int p2), .val (.int p3), .val (.ref b1), .val (.int (0 : Int32)), .val (.int vg47), .val (.int (0 : Int32)), .val (.int (0 : Int32)), .unset, .unset] [])) rfl (hb hby at_209)
        refine own_via st52 ?_
        show own_G p e below _ (T52.setTop (mkF m 212 #[.val (.long q0), .second, .val (.int p1), .val (.int p2), .val (.int p3), .val (.ref b1), .val (.int (0 : Int32)), .val (.int vg47), .val (.int (0 : Int32)), .val (.int (0 : Int32)), .unset, .unset] [(.ref w2)]))
        refine own_via (fun t k => XS.astore X52.here hx rfl (hb hby at_212) rfl rfl (l' := #[.val (.long q0), .second, .val (.int p1), .val (.int p2), .val (.int p3), .val (.ref b1), .val (.int (0 : Int32)), .val (.int vg47), .val (.int (0 : Int32)), .val (.int (0 : Int32)), .val (.ref w2), .unset]) rfl k) ?_
        show own_G p e below _ (T52.setTop (mkF m 214 #[.val (.long q0), .second, .val (.int p1), .val (.int p2), .val (.int p3), .val (.ref b1), .val (.int (0 : Int32)), .val (.int vg47), .val (.int (0 : Int32)), .val (.int (0 : Int32)), .val (.ref w2), .unset] []))
        refine own_via (fun t k => XS.aload X52.here hx rfl (hb hby at_214) rfl rfl k) ?_
        show own_G p e below _ (T52.setTop (mkF m 216 #[.val (.long q0), .second, .val (.int p1), .val (.int p2), .val (.int p3), .val (.ref b1), .val (.int (0 : Int32)), .val (.int vg47), .val (.int (0 : Int32)), .val (.int (0 : Int32)), .val (.ref w2), .unset] [(.ref b1)]))
        refine own_via (fun t k => XS.iload X52.here hx rfl (hb hby at_216) rfl k) ?_
        show own_G p e below _ (T52.setTop (mkF m 218 #[.val (.long q0), .second, .val (.int p1), .val (.int p2), .val (.int p3), .val (.ref b1), .val (.int (0 : Int32)), .val (.int vg47), .val (.int (0 : Int32)), .val (.int (0 : Int32)), .val (.ref w2), .unset] [(.int vg47), (.ref b1)]))
        obtain ⟨T53, X53, e53, st53⟩ := own_callP (y := (⟨"com/example/bowerbird/bowerbird/Encoding", "detect", "([BI)Lcom/example/bowerbird/bowerbird/Encoding;"⟩ : MethodName)) (W := 0) X52 hx hZ hown (hw _ (List.mem_of_getElem? (i := 5) rfl)) (hw _ (List.mem_of_getElem? (i := 6) rfl)) (hw _ (List.mem_of_getElem? (i := 3) rfl)) (hw _ (List.mem_of_getElem? (i := 7) rfl)) (by decide) (own_detJ l Z a0 hw [] b1 vg47 k1 (((q0.toInt32).toInt8.toInt32).toInt8.toInt32) (((((q0.toUInt64 >>> ((8 : Int32) &&& 0x3f).toInt64.toUInt64).toInt64).toInt32).toInt8.toInt32).toInt8.toInt32) (((((q0.toUInt64 >>> ((16 : Int32) &&& 0x3f).toInt64.toUInt64).toInt64).toInt32).toInt8.toInt32).toInt8.toInt32) (((((q0.toUInt64 >>> ((24 : Int32) &&& 0x3f).toInt64.toUInt64).toInt64).toInt32).toInt8.toInt32).toInt8.toInt32) (((((q0.toUInt64 >>> ((32 : Int32) &&& 0x3f).toInt64.toUInt64).toInt64).toInt32).toInt8.toInt32).toInt8.toInt32) (((((q0.toUInt64 >>> ((40 : Int32) &&& 0x3f).toInt64.toUInt64).toInt64).toInt32).toInt8.toInt32).toInt8.toInt32) (((((q0.toUInt64 >>> ((48 : Int32) &&& 0x3f).toInt64.toUInt64).toInt64).toInt32).toInt8.toInt32).toInt8.toInt32) (((((q0.toUInt64 >>> ((56 : Int32) &&& 0x3f).toInt64.toUInt64).toInt64).toInt32).toInt8.toInt32).toInt8.toInt32) w1 w2 h41 f44 f42 f43 hc48) (by decide) (by decide) rfl rfl (by decide) (by decide) e52 (pc := 218) (Ls := #[.val (.long q0), .second, .val (.int p1), .val (.int p2), .val (.int p3), .val (.ref b1), .val (.int (0 : Int32)), .val (.int vg47), .val (.int (0 : Int32)), .val (.int (0 : Int32)), .val (.ref w2), .unset]) (st := [(.int vg47), (.ref b1)]) (argsL := [(.ref b1), (.int vg47)]) (rest := []) (by rw [hml]; rfl) (lenOf own_pd0 rfl) rfl rfl (Nat.le_of_eq rfl) (hb hby at_218)
        refine own_via st53 ?_
        show own_G p e below _ (T53.setTop (mkF m 221 #[.val (.long q0), .second, .val (.int p1), .val (.int p2), .val (.int p3), .val (.ref b1), .val (.int (0 : Int32)), .val (.int vg47), .val (.int (0 : Int32)), .val (.int (0 : Int32)), .val (.ref w2), .unset] [(.ref w2)]))
        refine own_via (fun t k => XS.astore X53.here hx rfl (hb hby at_221) rfl rfl (l' := #[.val (.long q0), .second, .val (.int p1), .val (.int p2), .val (.int p3), .val (.ref b1), .val (.int (0 : Int32)), .val (.int vg47), .val (.int (0 : Int32)), .val (.int (0 : Int32)), .val (.ref w2), .val (.ref w2)]) rfl k) ?_
        show own_G p e below _ (T53.setTop (mkF m 223 #[.val (.long q0), .second, .val (.int p1), .val (.int p2), .val (.int p3), .val (.ref b1), .val (.int (0 : Int32)), .val (.int vg47), .val (.int (0 : Int32)), .val (.int (0 : Int32)), .val (.ref w2), .val (.ref w2)] []))
        refine own_via (fun t k => XS.aload X53.here hx rfl (hb hby at_223) rfl rfl k) ?_
        show own_G p e below _ (T53.setTop (mkF m 225 #[.val (.long q0), .second, .val (.int p1), .val (.int p2), .val (.int p3), .val (.ref b1), .val (.int (0 : Int32)), .val (.int vg47), .val (.int (0 : Int32)), .val (.int (0 : Int32)), .val (.ref w2), .val (.ref w2)] [(.ref w2)]))
        refine own_via (fun t k => XS.aload X53.here hx rfl (hb hby at_225) rfl rfl k) ?_
        show own_G p e below _ (T53.setTop (mkF m 227 #[.val (.long q0), .second, .val (.int p1), .val (.int p2), .val (.int p3), .val (.ref b1), .val (.int (0 : Int32)), .val (.int vg47), .val (.int (0 : Int32)), .val (.int (0 : Int32)), .val (.ref w2), .val (.ref w2)] [(.ref w2), (.ref w2)]))
        refine own_via (fun t k => Jvm.RoadKit.acmp (g := (mkF m 227 #[.val (.long q0), .second, .val (.int p1), .val (.int p2), .val (.int p3), .val (.ref b1), .val (.int (0 : Int32)), .val (.int vg47), .val (.int (0 : Int32)), .val (.int (0 : Int32)), .val (.ref w2), .val (.ref w2)] [(.ref w2), (.ref w2)])) X53 hx rfl rfl rfl (pc0 := 227) (pc' := 232) (same := true) rfl (hb hby at_227) rfl (decide_eq_true rfl) (by decide) (by decide) k) ?_
        show own_G p e below _ (T53.setTop (mkF m 232 #[.val (.long q0), .second, .val (.int p1), .val (.int p2), .val (.int p3), .val (.ref b1), .val (.int (0 : Int32)), .val (.int vg47), .val (.int (0 : Int32)), .val (.int (0 : Int32)), .val (.ref w2), .val (.ref w2)] []))
        refine own_via (fun t k => XS.iload X53.here hx rfl (hb hby at_232) rfl k) ?_
        show own_G p e below _ (T53.setTop (mkF m 234 #[.val (.long q0), .second, .val (.int p1), .val (.int p2), .val (.int p3), .val (.ref b1), .val (.int (0 : Int32)), .val (.int vg47), .val (.int (0 : Int32)), .val (.int (0 : Int32)), .val (.ref w2), .val (.ref w2)] [(.int (0 : Int32))]))
        refine own_via (fun t k => XS.ifYes X53.here hx rfl (pc0 := 234) (pc' := 252) rfl (hb hby at_234) rfl ((if0 _ _).trans (teq (by decide : (0 : Int32) = (0 : Int32))).1) (by decide) (by decide) k) ?_
        show own_G p e below _ (T53.setTop (mkF m 252 #[.val (.long q0), .second, .val (.int p1), .val (.int p2), .val (.int p3), .val (.ref b1), .val (.int (0 : Int32)), .val (.int vg47), .val (.int (0 : Int32)), .val (.int (0 : Int32)), .val (.ref w2), .val (.ref w2)] []))
        refine own_via (fun t k => XS.iconst X53.here hx rfl (hb hby at_252) k) ?_
        show own_G p e below _ (T53.setTop (mkF m 253 #[.val (.long q0), .second, .val (.int p1), .val (.int p2), .val (.int p3), .val (.ref b1), .val (.int (0 : Int32)), .val (.int vg47), .val (.int (0 : Int32)), .val (.int (0 : Int32)), .val (.ref w2), .val (.ref w2)] [(.int (1 : Int32))]))
        exact own_retN (t := .boolean) X53 hx Bd.returns (by simp) Bd.notSynchronized (hb hby at_253) ⟨N41, rfl⟩ (by decide) (by decide)
    ·
      refine own_via (fun t k => XS.icmpNo X41.here hx rfl (hb hby at_159) rfl (flt hc48).1 k) ?_
      show own_G p e below _ (T41.setTop (mkF m 162 #[.val (.long q0), .second, .val (.int p1), .val (.int p2), .val (.int p3), .val (.ref b1), .val (.int (0 : Int32)), .val (.int vg47), .unset, .unset, .unset, .unset] []))
      refine own_via (fun t k => XS.iconst X41.here hx rfl (hb hby at_162) k) ?_
      show own_G p e below _ (T41.setTop (mkF m 163 #[.val (.long q0), .second, .val (.int p1), .val (.int p2), .val (.int p3), .val (.ref b1), .val (.int (0 : Int32)), .val (.int vg47), .unset, .unset, .unset, .unset] [(.int (1 : Int32))]))
      refine own_via (fun t k => XS.goto X41.here hx rfl (pc0 := 163) (pc' := 167) rfl (hb hby at_163) (by decide) (by decide) k) ?_
      show own_G p e below _ (T41.setTop (mkF m 167 #[.val (.long q0), .second, .val (.int p1), .val (.int p2), .val (.int p3), .val (.ref b1), .val (.int (0 : Int32)), .val (.int vg47), .unset, .unset, .unset, .unset] [(.int (1 : Int32))]))
      refine own_via (fun t k => XS.istore X41.here hx rfl (hb hby at_167) rfl (l' := #[.val (.long q0), .second, .val (.int p1), .val (.int p2), .val (.int p3), .val (.ref b1), .val (.int (0 : Int32)), .val (.int vg47), .val (.int (1 : Int32)), .unset, .unset, .unset]) rfl k) ?_
      show own_G p e below _ (T41.setTop (mkF m 169 #[.val (.long q0), .second, .val (.int p1), .val (.int p2), .val (.int p3), .val (.ref b1), .val (.int (0 : Int32)), .val (.int vg47), .val (.int (1 : Int32)), .unset, .unset, .unset] []))
      refine own_via (fun t k => XS.aload X41.here hx rfl (hb hby at_169) rfl rfl k) ?_
      show own_G p e below _ (T41.setTop (mkF m 171 #[.val (.long q0), .second, .val (.int p1), .val (.int p2), .val (.int p3), .val (.ref b1), .val (.int (0 : Int32)), .val (.int vg47), .val (.int (1 : Int32)), .unset, .unset, .unset] [(.ref b1)]))
      refine own_via (fun t k => XS.iconst X41.here hx rfl (hb hby at_171) k) ?_
      show own_G p e below _ (T41.setTop (mkF m 172 #[.val (.long q0), .second, .val (.int p1), .val (.int p2), .val (.int p3), .val (.ref b1), .val (.int (0 : Int32)), .val (.int vg47), .val (.int (1 : Int32)), .unset, .unset, .unset] [(.int (3 : Int32)), (.ref b1)]))
      refine own_via (own_ldB X41 hx hZ e41 f44 (j := (3 : Int32)) ⟨by decide, by decide⟩ (v := (.int (((((q0.toUInt64 >>> ((24 : Int32) &&& 0x3f).toInt64.toUInt64).toInt64).toInt32).toInt8.toInt32).toInt8.toInt32))) rfl (pc := 172) (Ls := #[.val (.long q0), .second, .val (.int p1), .val (.int p2), .val (.int p3), .val (.ref b1), .val (.int (0 : Int32)), .val (.int vg47), .val (.int (1 : Int32)), .unset, .unset, .unset]) (rest := []) (hb hby at_172)) ?_
      show own_G p e below _ (T41.setTop (mkF m 173 #[.val (.long q0), .second, .val (.int p1), .val (.int p2), .val (.int p3), .val (.ref b1), .val (.int (0 : Int32)), .val (.int vg47), .val (.int (1 : Int32)), .unset, .unset, .unset] [(.int (((((q0.toUInt64 >>> ((24 : Int32) &&& 0x3f).toInt64.toUInt64).toInt64).toInt32).toInt8.toInt32).toInt8.toInt32))]))
      by_cases hc54 : (((((q0.toUInt64 >>> ((24 : Int32) &&& 0x3f).toInt64.toUInt64).toInt64).toInt32).toInt8.toInt32).toInt8.toInt32) = (0 : Int32)
      ·
        refine own_via (fun t k => XS.ifNo X41.here hx rfl (hb hby at_173) rfl ((if0 _ _).trans (teq hc54).2) k) ?_
        show own_G p e below _ (T41.setTop (mkF m 176 #[.val (.long q0), .second, .val (.int p1), .val (.int p2), .val (.int p3), .val (.ref b1), .val (.int (0 : Int32)), .val (.int vg47), .val (.int (1 : Int32)), .unset, .unset, .unset] []))
        refine own_via (fun t k => XS.iconst X41.here hx rfl (hb hby at_176) k) ?_
        show own_G p e below _ (T41.setTop (mkF m 177 #[.val (.long q0), .second, .val (.int p1), .val (.int p2), .val (.int p3), .val (.ref b1), .val (.int (0 : Int32)), .val (.int vg47), .val (.int (1 : Int32)), .unset, .unset, .unset] [(.int (1 : Int32))]))
        refine own_via (fun t k => XS.goto X41.here hx rfl (pc0 := 177) (pc' := 181) rfl (hb hby at_177) (by decide) (by decide) k) ?_
        show own_G p e below _ (T41.setTop (mkF m 181 #[.val (.long q0), .second, .val (.int p1), .val (.int p2), .val (.int p3), .val (.ref b1), .val (.int (0 : Int32)), .val (.int vg47), .val (.int (1 : Int32)), .unset, .unset, .unset] [(.int (1 : Int32))]))
        refine own_via (fun t k => XS.istore X41.here hx rfl (hb hby at_181) rfl (l' := #[.val (.long q0), .second, .val (.int p1), .val (.int p2), .val (.int p3), .val (.ref b1), .val (.int (0 : Int32)), .val (.int vg47), .val (.int (1 : Int32)), .val (.int (1 : Int32)), .unset, .unset]) rfl k) ?_
        show own_G p e below _ (T41.setTop (mkF m 183 #[.val (.long q0), .second, .val (.int p1), .val (.int p2), .val (.int p3), .val (.ref b1), .val (.int (0 : Int32)), .val (.int vg47), .val (.int (1 : Int32)), .val (.int (1 : Int32)), .unset, .unset] []))
        refine own_via (fun t k => XS.iload X41.here hx rfl (hb hby at_183) rfl k) ?_
        show own_G p e below _ (T41.setTop (mkF m 185 #[.val (.long q0), .second, .val (.int p1), .val (.int p2), .val (.int p3), .val (.ref b1), .val (.int (0 : Int32)), .val (.int vg47), .val (.int (1 : Int32)), .val (.int (1 : Int32)), .unset, .unset] [(.int (1 : Int32))]))
        refine own_via (fun t k => XS.ifNo X41.here hx rfl (hb hby at_185) rfl ((if0 _ _).trans (feq (by decide : ¬ ((1 : Int32) = (0 : Int32)))).1) k) ?_
        show own_G p e below _ (T41.setTop (mkF m 188 #[.val (.long q0), .second, .val (.int p1), .val (.int p2), .val (.int p3), .val (.ref b1), .val (.int (0 : Int32)), .val (.int vg47), .val (.int (1 : Int32)), .val (.int (1 : Int32)), .unset, .unset] []))
        refine own_via (fun t k => XS.iload X41.here hx rfl (hb hby at_188) rfl k) ?_
        show own_G p e below _ (T41.setTop (mkF m 190 #[.val (.long q0), .second, .val (.int p1), .val (.int p2), .val (.int p3), .val (.ref b1), .val (.int (0 : Int32)), .val (.int vg47), .val (.int (1 : Int32)), .val (.int (1 : Int32)), .unset, .unset] [(.int (1 : Int32))]))
        refine own_via (fun t k => XS.ifNo X41.here hx rfl (hb hby at_190) rfl ((if0 _ _).trans (feq (by decide : ¬ ((1 : Int32) = (0 : Int32)))).1) k) ?_
        show own_G p e below _ (T41.setTop (mkF m 193 #[.val (.long q0), .second, .val (.int p1), .val (.int p2), .val (.int p3), .val (.ref b1), .val (.int (0 : Int32)), .val (.int vg47), .val (.int (1 : Int32)), .val (.int (1 : Int32)), .unset, .unset] []))
        obtain ⟨T55, X55, e55, st55⟩ := getS2 X41 hx hZ hown (host := "") (Or.inl (hw _ (List.mem_of_getElem? (i := 10) rfl))) Via.refl e41 f42 (g := (mkF m 193 #[.val (.long q0), .second, .val (.int p1), .val (.int p2), .val (.int p3), .val (.ref b1), .val (.int (0 : Int32)), .val (.int vg47), .val (.int (1 : Int32)), .val (.int (1 : Int32)), .unset, .unset] [])) rfl (hb hby at_193)
        refine own_via st55 ?_
        show own_G p e below _ (T55.setTop (mkF m 196 #[.val (.long q0), .second, .val (.int p1), .val (.int p2), .val (.int p3), .val (.ref b1), .val (.int (0 : Int32)), .val (.int vg47), .val (.int (1 : Int32)), .val (.int (1 : Int32)), .unset, .unset] [(.ref w1)]))
        refine own_via (fun t k => XS.astore X55.here hx rfl (hb hby at_196) rfl rfl (l' := #[.val (.long q0), .second, .val (.int p1), .val (.int p2), .val (.int p3), .val (.ref b1), .val (.int (0 : Int32)), .val (.int vg47), .val (.int (1 : Int32)), .val (.int (1 : Int32)), .val (.ref w1), .unset]) rfl k) ?_
        show own_G p e below _ (T55.setTop (mkF m 198 #[.val (.long q0), .second, .val (.int p1), .val (.int p2), .val (.int p3), .val (.ref b1), .val (.int (0 : Int32)), .val (.int vg47), .val (.int (1 : Int32)), .val (.int (1 : Int32)), .val (.ref w1), .unset] []))
        refine own_via (fun t k => XS.goto X55.here hx rfl (pc0 := 198) (pc' := 214) rfl (hb hby at_198) (by decide) (by decide) k) ?_
        show own_G p e below _ (T55.setTop (mkF m 214 #[.val (.long q0), .second, .val (.int p1), .val (.int p2), .val (.int p3), .val (.ref b1), .val (.int (0 : Int32)), .val (.int vg47), .val (.int (1 : Int32)), .val (.int (1 : Int32)), .val (.ref w1), .unset] []))
        refine own_via (fun t k => XS.aload X55.here hx rfl (hb hby at_214) rfl rfl k) ?_
        show own_G p e below _ (T55.setTop (mkF m 216 #[.val (.long q0), .second, .val (.int p1), .val (.int p2), .val (.int p3), .val (.ref b1), .val (.int (0 : Int32)), .val (.int vg47), .val (.int (1 : Int32)), .val (.int (1 : Int32)), .val (.ref w1), .unset] [(.ref b1)]))
        refine own_via (fun t k => XS.iload X55.here hx rfl (hb hby at_216) rfl k) ?_
        show own_G p e below _ (T55.setTop (mkF m 218 #[.val (.long q0), .second, .val (.int p1), .val (.int p2), .val (.int p3), .val (.ref b1), .val (.int (0 : Int32)), .val (.int vg47), .val (.int (1 : Int32)), .val (.int (1 : Int32)), .val (.ref w1), .unset] [(.int vg47), (.ref b1)]))
        obtain ⟨T56, X56, e56, st56⟩ := own_callP (y := (⟨"com/example/bowerbird/bowerbird/Encoding", "detect", "([BI)Lcom/example/bowerbird/bowerbird/Encoding;"⟩ : MethodName)) (W := 0) X55 hx hZ hown (hw _ (List.mem_of_getElem? (i := 5) rfl)) (hw _ (List.mem_of_getElem? (i := 6) rfl)) (hw _ (List.mem_of_getElem? (i := 3) rfl)) (hw _ (List.mem_of_getElem? (i := 7) rfl)) (by decide) (own_detB l Z a0 hw [] b1 vg47 k1 (((q0.toInt32).toInt8.toInt32).toInt8.toInt32) (((((q0.toUInt64 >>> ((8 : Int32) &&& 0x3f).toInt64.toUInt64).toInt64).toInt32).toInt8.toInt32).toInt8.toInt32) (((((q0.toUInt64 >>> ((16 : Int32) &&& 0x3f).toInt64.toUInt64).toInt64).toInt32).toInt8.toInt32).toInt8.toInt32) (((((q0.toUInt64 >>> ((24 : Int32) &&& 0x3f).toInt64.toUInt64).toInt64).toInt32).toInt8.toInt32).toInt8.toInt32) (((((q0.toUInt64 >>> ((32 : Int32) &&& 0x3f).toInt64.toUInt64).toInt64).toInt32).toInt8.toInt32).toInt8.toInt32) (((((q0.toUInt64 >>> ((40 : Int32) &&& 0x3f).toInt64.toUInt64).toInt64).toInt32).toInt8.toInt32).toInt8.toInt32) (((((q0.toUInt64 >>> ((48 : Int32) &&& 0x3f).toInt64.toUInt64).toInt64).toInt32).toInt8.toInt32).toInt8.toInt32) (((((q0.toUInt64 >>> ((56 : Int32) &&& 0x3f).toInt64.toUInt64).toInt64).toInt32).toInt8.toInt32).toInt8.toInt32) w1 w2 h41 f44 f42 f43 hc48 hc54) (by decide) (by decide) rfl rfl (by decide) (by decide) e55 (pc := 218) (Ls := #[.val (.long q0), .second, .val (.int p1), .val (.int p2), .val (.int p3), .val (.ref b1), .val (.int (0 : Int32)), .val (.int vg47), .val (.int (1 : Int32)), .val (.int (1 : Int32)), .val (.ref w1), .unset]) (st := [(.int vg47), (.ref b1)]) (argsL := [(.ref b1), (.int vg47)]) (rest := []) (by rw [hml]; rfl) (lenOf own_pd0 rfl) rfl rfl (Nat.le_of_eq rfl) (hb hby at_218)
        refine own_via st56 ?_
        show own_G p e below _ (T56.setTop (mkF m 221 #[.val (.long q0), .second, .val (.int p1), .val (.int p2), .val (.int p3), .val (.ref b1), .val (.int (0 : Int32)), .val (.int vg47), .val (.int (1 : Int32)), .val (.int (1 : Int32)), .val (.ref w1), .unset] [(.ref w1)]))
        refine own_via (fun t k => XS.astore X56.here hx rfl (hb hby at_221) rfl rfl (l' := #[.val (.long q0), .second, .val (.int p1), .val (.int p2), .val (.int p3), .val (.ref b1), .val (.int (0 : Int32)), .val (.int vg47), .val (.int (1 : Int32)), .val (.int (1 : Int32)), .val (.ref w1), .val (.ref w1)]) rfl k) ?_
        show own_G p e below _ (T56.setTop (mkF m 223 #[.val (.long q0), .second, .val (.int p1), .val (.int p2), .val (.int p3), .val (.ref b1), .val (.int (0 : Int32)), .val (.int vg47), .val (.int (1 : Int32)), .val (.int (1 : Int32)), .val (.ref w1), .val (.ref w1)] []))
        refine own_via (fun t k => XS.aload X56.here hx rfl (hb hby at_223) rfl rfl k) ?_
        show own_G p e below _ (T56.setTop (mkF m 225 #[.val (.long q0), .second, .val (.int p1), .val (.int p2), .val (.int p3), .val (.ref b1), .val (.int (0 : Int32)), .val (.int vg47), .val (.int (1 : Int32)), .val (.int (1 : Int32)), .val (.ref w1), .val (.ref w1)] [(.ref w1)]))
        refine own_via (fun t k => XS.aload X56.here hx rfl (hb hby at_225) rfl rfl k) ?_
        show own_G p e below _ (T56.setTop (mkF m 227 #[.val (.long q0), .second, .val (.int p1), .val (.int p2), .val (.int p3), .val (.ref b1), .val (.int (0 : Int32)), .val (.int vg47), .val (.int (1 : Int32)), .val (.int (1 : Int32)), .val (.ref w1), .val (.ref w1)] [(.ref w1), (.ref w1)]))
        refine own_via (fun t k => Jvm.RoadKit.acmp (g := (mkF m 227 #[.val (.long q0), .second, .val (.int p1), .val (.int p2), .val (.int p3), .val (.ref b1), .val (.int (0 : Int32)), .val (.int vg47), .val (.int (1 : Int32)), .val (.int (1 : Int32)), .val (.ref w1), .val (.ref w1)] [(.ref w1), (.ref w1)])) X56 hx rfl rfl rfl (pc0 := 227) (pc' := 232) (same := true) rfl (hb hby at_227) rfl (decide_eq_true rfl) (by decide) (by decide) k) ?_
        show own_G p e below _ (T56.setTop (mkF m 232 #[.val (.long q0), .second, .val (.int p1), .val (.int p2), .val (.int p3), .val (.ref b1), .val (.int (0 : Int32)), .val (.int vg47), .val (.int (1 : Int32)), .val (.int (1 : Int32)), .val (.ref w1), .val (.ref w1)] []))
        refine own_via (fun t k => XS.iload X56.here hx rfl (hb hby at_232) rfl k) ?_
        show own_G p e below _ (T56.setTop (mkF m 234 #[.val (.long q0), .second, .val (.int p1), .val (.int p2), .val (.int p3), .val (.ref b1), .val (.int (0 : Int32)), .val (.int vg47), .val (.int (1 : Int32)), .val (.int (1 : Int32)), .val (.ref w1), .val (.ref w1)] [(.int (0 : Int32))]))
        refine own_via (fun t k => XS.ifYes X56.here hx rfl (pc0 := 234) (pc' := 252) rfl (hb hby at_234) rfl ((if0 _ _).trans (teq (by decide : (0 : Int32) = (0 : Int32))).1) (by decide) (by decide) k) ?_
        show own_G p e below _ (T56.setTop (mkF m 252 #[.val (.long q0), .second, .val (.int p1), .val (.int p2), .val (.int p3), .val (.ref b1), .val (.int (0 : Int32)), .val (.int vg47), .val (.int (1 : Int32)), .val (.int (1 : Int32)), .val (.ref w1), .val (.ref w1)] []))
        refine own_via (fun t k => XS.iconst X56.here hx rfl (hb hby at_252) k) ?_
        show own_G p e below _ (T56.setTop (mkF m 253 #[.val (.long q0), .second, .val (.int p1), .val (.int p2), .val (.int p3), .val (.ref b1), .val (.int (0 : Int32)), .val (.int vg47), .val (.int (1 : Int32)), .val (.int (1 : Int32)), .val (.ref w1), .val (.ref w1)] [(.int (1 : Int32))]))
        exact own_retN (t := .boolean) X56 hx Bd.returns (by simp) Bd.notSynchronized (hb hby at_253) ⟨N41, rfl⟩ (by decide) (by decide)
      ·
        refine own_via (fun t k => XS.ifYes X41.here hx rfl (pc0 := 173) (pc' := 180) rfl (hb hby at_173) rfl ((if0 _ _).trans (feq hc54).2) (by decide) (by decide) k) ?_
        show own_G p e below _ (T41.setTop (mkF m 180 #[.val (.long q0), .second, .val (.int p1), .val (.int p2), .val (.int p3), .val (.ref b1), .val (.int (0 : Int32)), .val (.int vg47), .val (.int (1 : Int32)), .unset, .unset, .unset] []))
        refine own_via (fun t k => XS.iconst X41.here hx rfl (hb hby at_180) k) ?_
        show own_G p e below _ (T41.setTop (mkF m 181 #[.val (.long q0), .second, .val (.int p1), .val (.int p2), .val (.int p3), .val (.ref b1), .val (.int (0 : Int32)), .val (.int vg47), .val (.int (1 : Int32)), .unset, .unset, .unset] [(.int (0 : Int32))]))
        refine own_via (fun t k => XS.istore X41.here hx rfl (hb hby at_181) rfl (l' := #[.val (.long q0), .second, .val (.int p1), .val (.int p2), .val (.int p3), .val (.ref b1), .val (.int (0 : Int32)), .val (.int vg47), .val (.int (1 : Int32)), .val (.int (0 : Int32)), .unset, .unset]) rfl k) ?_
        show own_G p e below _ (T41.setTop (mkF m 183 #[.val (.long q0), .second, .val (.int p1), .val (.int p2), .val (.int p3), .val (.ref b1), .val (.int (0 : Int32)), .val (.int vg47), .val (.int (1 : Int32)), .val (.int (0 : Int32)), .unset, .unset] []))
        refine own_via (fun t k => XS.iload X41.here hx rfl (hb hby at_183) rfl k) ?_
        show own_G p e below _ (T41.setTop (mkF m 185 #[.val (.long q0), .second, .val (.int p1), .val (.int p2), .val (.int p3), .val (.ref b1), .val (.int (0 : Int32)), .val (.int vg47), .val (.int (1 : Int32)), .val (.int (0 : Int32)), .unset, .unset] [(.int (1 : Int32))]))
        refine own_via (fun t k => XS.ifNo X41.here hx rfl (hb hby at_185) rfl ((if0 _ _).trans (feq (by decide : ¬ ((1 : Int32) = (0 : Int32)))).1) k) ?_
        show own_G p e below _ (T41.setTop (mkF m 188 #[.val (.long q0), .second, .val (.int p1), .val (.int p2), .val (.int p3), .val (.ref b1), .val (.int (0 : Int32)), .val (.int vg47), .val (.int (1 : Int32)), .val (.int (0 : Int32)), .unset, .unset] []))
        refine own_via (fun t k => XS.iload X41.here hx rfl (hb hby at_188) rfl k) ?_
        show own_G p e below _ (T41.setTop (mkF m 190 #[.val (.long q0), .second, .val (.int p1), .val (.int p2), .val (.int p3), .val (.ref b1), .val (.int (0 : Int32)), .val (.int vg47), .val (.int (1 : Int32)), .val (.int (0 : Int32)), .unset, .unset] [(.int (0 : Int32))]))
        refine own_via (fun t k => XS.ifYes X41.here hx rfl (pc0 := 190) (pc' := 201) rfl (hb hby at_190) rfl ((if0 _ _).trans (teq (by decide : (0 : Int32) = (0 : Int32))).1) (by decide) (by decide) k) ?_
        show own_G p e below _ (T41.setTop (mkF m 201 #[.val (.long q0), .second, .val (.int p1), .val (.int p2), .val (.int p3), .val (.ref b1), .val (.int (0 : Int32)), .val (.int vg47), .val (.int (1 : Int32)), .val (.int (0 : Int32)), .unset, .unset] []))
        obtain ⟨T57, X57, e57, st57⟩ := getS2 X41 hx hZ hown (host := "") (Or.inl (hw _ (List.mem_of_getElem? (i := 2) rfl))) Via.refl e41 f43 (g := (mkF m 201 #[.val (.long q0), .second, .val (.int p1), .val (.int p2), .val (.int p3), .val (.ref b1), .val (.int (0 : Int32)), .val (.int vg47), .val (.int (1 : Int32)), .val (.int (0 : Int32)), .unset, .unset] [])) rfl (hb hby at_201)
        refine own_via st57 ?_
        show own_G p e below _ (T57.setTop (mkF m 204 #[.val (.long q0), .second, .val (.int p1), .val (.int p2), .val (.int p3), .val (.ref b1), .val (.int (0 : Int32)), .val (.int vg47), .val (.int (1 : Int32)), .val (.int (0 : Int32)), .unset, .unset] [(.ref w2)]))
        refine own_via (fun t k => XS.astore X57.here hx rfl (hb hby at_204) rfl rfl (l' := #[.val (.long q0), .second, .val (.int p1), .val (.int p2), .val (.int p3), .val (.ref b1), .val (.int (0 : Int32)), .val (.int vg47), .val (.int (1 : Int32)), .val (.int (0 : Int32)), .val (.ref w2), .unset]) rfl k) ?_
        show own_G p e below _ (T57.setTop (mkF m 206 #[.val (.long q0), .second, .val (.int p1), .val (.int p2), .val (.int p3), .val (.ref b1), .val (.int (0 : Int32)), .val (.int vg47), .val (.int (1 : Int32)), .val (.int (0 : Int32)), .val (.ref w2), .unset] []))
        refine own_via (fun t k => XS.goto X57.here hx rfl (pc0 := 206) (pc' := 214) rfl (hb hby at_206) (by decide) (by decide) k) ?_
        show own_G p e below _ (T57.setTop (mkF m 214 #[.val (.long q0), .second, .val (.int p1), .val (.int p2), .val (.int p3), .val (.ref b1), .val (.int (0 : Int32)), .val (.int vg47), .val (.int (1 : Int32)), .val (.int (0 : Int32)), .val (.ref w2), .unset] []))
        refine own_via (fun t k => XS.aload X57.here hx rfl (hb hby at_214) rfl rfl k) ?_
        show own_G p e below _ (T57.setTop (mkF m 216 #[.val (.long q0), .second, .val (.int p1), .val (.int p2), .val (.int p3), .val (.ref b1), .val (.int (0 : Int32)), .val (.int vg47), .val (.int (1 : Int32)), .val (.int (0 : Int32)), .val (.ref w2), .unset] [(.ref b1)]))
        refine own_via (fun t k => XS.iload X57.here hx rfl (hb hby at_216) rfl k) ?_
        show own_G p e below _ (T57.setTop (mkF m 218 #[.val (.long q0), .second, .val (.int p1), .val (.int p2), .val (.int p3), .val (.ref b1), .val (.int (0 : Int32)), .val (.int vg47), .val (.int (1 : Int32)), .val (.int (0 : Int32)), .val (.ref w2), .unset] [(.int vg47), (.ref b1)]))
        obtain ⟨T58, X58, e58, st58⟩ := own_callP (y := (⟨"com/example/bowerbird/bowerbird/Encoding", "detect", "([BI)Lcom/example/bowerbird/bowerbird/Encoding;"⟩ : MethodName)) (W := 0) X57 hx hZ hown (hw _ (List.mem_of_getElem? (i := 5) rfl)) (hw _ (List.mem_of_getElem? (i := 6) rfl)) (hw _ (List.mem_of_getElem? (i := 3) rfl)) (hw _ (List.mem_of_getElem? (i := 7) rfl)) (by decide) (own_detN l Z a0 hw [] b1 vg47 k1 (((q0.toInt32).toInt8.toInt32).toInt8.toInt32) (((((q0.toUInt64 >>> ((8 : Int32) &&& 0x3f).toInt64.toUInt64).toInt64).toInt32).toInt8.toInt32).toInt8.toInt32) (((((q0.toUInt64 >>> ((16 : Int32) &&& 0x3f).toInt64.toUInt64).toInt64).toInt32).toInt8.toInt32).toInt8.toInt32) (((((q0.toUInt64 >>> ((24 : Int32) &&& 0x3f).toInt64.toUInt64).toInt64).toInt32).toInt8.toInt32).toInt8.toInt32) (((((q0.toUInt64 >>> ((32 : Int32) &&& 0x3f).toInt64.toUInt64).toInt64).toInt32).toInt8.toInt32).toInt8.toInt32) (((((q0.toUInt64 >>> ((40 : Int32) &&& 0x3f).toInt64.toUInt64).toInt64).toInt32).toInt8.toInt32).toInt8.toInt32) (((((q0.toUInt64 >>> ((48 : Int32) &&& 0x3f).toInt64.toUInt64).toInt64).toInt32).toInt8.toInt32).toInt8.toInt32) (((((q0.toUInt64 >>> ((56 : Int32) &&& 0x3f).toInt64.toUInt64).toInt64).toInt32).toInt8.toInt32).toInt8.toInt32) w1 w2 h41 f44 f42 f43 hc48 hc54) (by decide) (by decide) rfl rfl (by decide) (by decide) e57 (pc := 218) (Ls := #[.val (.long q0), .second, .val (.int p1), .val (.int p2), .val (.int p3), .val (.ref b1), .val (.int (0 : Int32)), .val (.int vg47), .val (.int (1 : Int32)), .val (.int (0 : Int32)), .val (.ref w2), .unset]) (st := [(.int vg47), (.ref b1)]) (argsL := [(.ref b1), (.int vg47)]) (rest := []) (by rw [hml]; rfl) (lenOf own_pd0 rfl) rfl rfl (Nat.le_of_eq rfl) (hb hby at_218)
        refine own_via st58 ?_
        show own_G p e below _ (T58.setTop (mkF m 221 #[.val (.long q0), .second, .val (.int p1), .val (.int p2), .val (.int p3), .val (.ref b1), .val (.int (0 : Int32)), .val (.int vg47), .val (.int (1 : Int32)), .val (.int (0 : Int32)), .val (.ref w2), .unset] [(.ref w2)]))
        refine own_via (fun t k => XS.astore X58.here hx rfl (hb hby at_221) rfl rfl (l' := #[.val (.long q0), .second, .val (.int p1), .val (.int p2), .val (.int p3), .val (.ref b1), .val (.int (0 : Int32)), .val (.int vg47), .val (.int (1 : Int32)), .val (.int (0 : Int32)), .val (.ref w2), .val (.ref w2)]) rfl k) ?_
        show own_G p e below _ (T58.setTop (mkF m 223 #[.val (.long q0), .second, .val (.int p1), .val (.int p2), .val (.int p3), .val (.ref b1), .val (.int (0 : Int32)), .val (.int vg47), .val (.int (1 : Int32)), .val (.int (0 : Int32)), .val (.ref w2), .val (.ref w2)] []))
        refine own_via (fun t k => XS.aload X58.here hx rfl (hb hby at_223) rfl rfl k) ?_
        show own_G p e below _ (T58.setTop (mkF m 225 #[.val (.long q0), .second, .val (.int p1), .val (.int p2), .val (.int p3), .val (.ref b1), .val (.int (0 : Int32)), .val (.int vg47), .val (.int (1 : Int32)), .val (.int (0 : Int32)), .val (.ref w2), .val (.ref w2)] [(.ref w2)]))
        refine own_via (fun t k => XS.aload X58.here hx rfl (hb hby at_225) rfl rfl k) ?_
        show own_G p e below _ (T58.setTop (mkF m 227 #[.val (.long q0), .second, .val (.int p1), .val (.int p2), .val (.int p3), .val (.ref b1), .val (.int (0 : Int32)), .val (.int vg47), .val (.int (1 : Int32)), .val (.int (0 : Int32)), .val (.ref w2), .val (.ref w2)] [(.ref w2), (.ref w2)]))
        refine own_via (fun t k => Jvm.RoadKit.acmp (g := (mkF m 227 #[.val (.long q0), .second, .val (.int p1), .val (.int p2), .val (.int p3), .val (.ref b1), .val (.int (0 : Int32)), .val (.int vg47), .val (.int (1 : Int32)), .val (.int (0 : Int32)), .val (.ref w2), .val (.ref w2)] [(.ref w2), (.ref w2)])) X58 hx rfl rfl rfl (pc0 := 227) (pc' := 232) (same := true) rfl (hb hby at_227) rfl (decide_eq_true rfl) (by decide) (by decide) k) ?_
        show own_G p e below _ (T58.setTop (mkF m 232 #[.val (.long q0), .second, .val (.int p1), .val (.int p2), .val (.int p3), .val (.ref b1), .val (.int (0 : Int32)), .val (.int vg47), .val (.int (1 : Int32)), .val (.int (0 : Int32)), .val (.ref w2), .val (.ref w2)] []))
        refine own_via (fun t k => XS.iload X58.here hx rfl (hb hby at_232) rfl k) ?_
        show own_G p e below _ (T58.setTop (mkF m 234 #[.val (.long q0), .second, .val (.int p1), .val (.int p2), .val (.int p3), .val (.ref b1), .val (.int (0 : Int32)), .val (.int vg47), .val (.int (1 : Int32)), .val (.int (0 : Int32)), .val (.ref w2), .val (.ref w2)] [(.int (0 : Int32))]))
        refine own_via (fun t k => XS.ifYes X58.here hx rfl (pc0 := 234) (pc' := 252) rfl (hb hby at_234) rfl ((if0 _ _).trans (teq (by decide : (0 : Int32) = (0 : Int32))).1) (by decide) (by decide) k) ?_
        show own_G p e below _ (T58.setTop (mkF m 252 #[.val (.long q0), .second, .val (.int p1), .val (.int p2), .val (.int p3), .val (.ref b1), .val (.int (0 : Int32)), .val (.int vg47), .val (.int (1 : Int32)), .val (.int (0 : Int32)), .val (.ref w2), .val (.ref w2)] []))
        refine own_via (fun t k => XS.iconst X58.here hx rfl (hb hby at_252) k) ?_
        show own_G p e below _ (T58.setTop (mkF m 253 #[.val (.long q0), .second, .val (.int p1), .val (.int p2), .val (.int p3), .val (.ref b1), .val (.int (0 : Int32)), .val (.int vg47), .val (.int (1 : Int32)), .val (.int (0 : Int32)), .val (.ref w2), .val (.ref w2)] [(.int (1 : Int32))]))
        exact own_retN (t := .boolean) X58 hx Bd.returns (by simp) Bd.notSynchronized (hb hby at_253) ⟨N41, rfl⟩ (by decide) (by decide)
  ·
    refine own_via (fun t k => XS.ifNo X41.here hx rfl (hb hby at_89) rfl ((if0 _ _).trans (feq hc46).1) k) ?_
    show own_G p e below _ (T41.setTop (mkF m 92 #[.val (.long q0), .second, .val (.int p1), .val (.int p2), .val (.int p3), .val (.ref b1), .unset, .unset, .unset, .unset, .unset, .unset] []))
    refine own_via (fun t k => XS.iconst X41.here hx rfl (hb hby at_92) k) ?_
    show own_G p e below _ (T41.setTop (mkF m 93 #[.val (.long q0), .second, .val (.int p1), .val (.int p2), .val (.int p3), .val (.ref b1), .unset, .unset, .unset, .unset, .unset, .unset] [(.int (1 : Int32))]))
    refine own_via (fun t k => XS.goto X41.here hx rfl (pc0 := 93) (pc' := 97) rfl (hb hby at_93) (by decide) (by decide) k) ?_
    show own_G p e below _ (T41.setTop (mkF m 97 #[.val (.long q0), .second, .val (.int p1), .val (.int p2), .val (.int p3), .val (.ref b1), .unset, .unset, .unset, .unset, .unset, .unset] [(.int (1 : Int32))]))
    refine own_via (fun t k => XS.istore X41.here hx rfl (hb hby at_97) rfl (l' := #[.val (.long q0), .second, .val (.int p1), .val (.int p2), .val (.int p3), .val (.ref b1), .val (.int (1 : Int32)), .unset, .unset, .unset, .unset, .unset]) rfl k) ?_
    show own_G p e below _ (T41.setTop (mkF m 99 #[.val (.long q0), .second, .val (.int p1), .val (.int p2), .val (.int p3), .val (.ref b1), .val (.int (1 : Int32)), .unset, .unset, .unset, .unset, .unset] []))
    refine own_via (fun t k => XS.iload X41.here hx rfl (hb hby at_99) rfl k) ?_
    show own_G p e below _ (T41.setTop (mkF m 101 #[.val (.long q0), .second, .val (.int p1), .val (.int p2), .val (.int p3), .val (.ref b1), .val (.int (1 : Int32)), .unset, .unset, .unset, .unset, .unset] [(.int (1 : Int32))]))
    refine own_via (fun t k => XS.ifNo X41.here hx rfl (hb hby at_101) rfl ((if0 _ _).trans (feq (by decide : ¬ ((1 : Int32) = (0 : Int32)))).1) k) ?_
    show own_G p e below _ (T41.setTop (mkF m 104 #[.val (.long q0), .second, .val (.int p1), .val (.int p2), .val (.int p3), .val (.ref b1), .val (.int (1 : Int32)), .unset, .unset, .unset, .unset, .unset] []))
    refine own_via (fun t k => XS.iloadN X41.here hx rfl (hb hby at_104) rfl k) ?_
    show own_G p e below _ (T41.setTop (mkF m 105 #[.val (.long q0), .second, .val (.int p1), .val (.int p2), .val (.int p3), .val (.ref b1), .val (.int (1 : Int32)), .unset, .unset, .unset, .unset, .unset] [(.int p2)]))
    refine own_via (X41.ldcInt hx hown (mvT hZ (hw _ (List.mem_of_getElem? (i := 9) rfl))) (g := (mkF m 105 #[.val (.long q0), .second, .val (.int p1), .val (.int p2), .val (.int p3), .val (.ref b1), .val (.int (1 : Int32)), .unset, .unset, .unset, .unset, .unset] [(.int p2)])) rfl (hb hby at_105)) ?_
    show own_G p e below _ (T41.setTop (mkF m 107 #[.val (.long q0), .second, .val (.int p1), .val (.int p2), .val (.int p3), .val (.ref b1), .val (.int (1 : Int32)), .unset, .unset, .unset, .unset, .unset] [(.int (16777215 : Int32)), (.int p2)]))
    refine own_via (fun t k => XS.iand X41.here hx rfl (hb hby at_107) rfl k) ?_
    show own_G p e below _ (T41.setTop (mkF m 108 #[.val (.long q0), .second, .val (.int p1), .val (.int p2), .val (.int p3), .val (.ref b1), .val (.int (1 : Int32)), .unset, .unset, .unset, .unset, .unset] [(.int (p2 &&& (16777215 : Int32)))]))
    generalize hvg59 : (p2 &&& (16777215 : Int32)) = vg59
    show own_G p e below _ (T41.setTop (mkF m 108 #[.val (.long q0), .second, .val (.int p1), .val (.int p2), .val (.int p3), .val (.ref b1), .val (.int (1 : Int32)), .unset, .unset, .unset, .unset, .unset] [(.int vg59)]))
    refine own_via (fun t k => XS.istore X41.here hx rfl (hb hby at_108) rfl (l' := #[.val (.long q0), .second, .val (.int p1), .val (.int p2), .val (.int p3), .val (.ref b1), .val (.int (1 : Int32)), .val (.int vg59), .unset, .unset, .unset, .unset]) rfl k) ?_
    show own_G p e below _ (T41.setTop (mkF m 110 #[.val (.long q0), .second, .val (.int p1), .val (.int p2), .val (.int p3), .val (.ref b1), .val (.int (1 : Int32)), .val (.int vg59), .unset, .unset, .unset, .unset] []))
    refine own_via (fun t k => XS.aload X41.here hx rfl (hb hby at_110) rfl rfl k) ?_
    show own_G p e below _ (T41.setTop (mkF m 112 #[.val (.long q0), .second, .val (.int p1), .val (.int p2), .val (.int p3), .val (.ref b1), .val (.int (1 : Int32)), .val (.int vg59), .unset, .unset, .unset, .unset] [(.ref b1)]))
    refine own_via (fun t k => XS.iconst X41.here hx rfl (hb hby at_112) k) ?_
    show own_G p e below _ (T41.setTop (mkF m 113 #[.val (.long q0), .second, .val (.int p1), .val (.int p2), .val (.int p3), .val (.ref b1), .val (.int (1 : Int32)), .val (.int vg59), .unset, .unset, .unset, .unset] [(.int (0 : Int32)), (.ref b1)]))
    refine own_via (fun t k => XS.iload X41.here hx rfl (hb hby at_113) rfl k) ?_
    show own_G p e below _ (T41.setTop (mkF m 115 #[.val (.long q0), .second, .val (.int p1), .val (.int p2), .val (.int p3), .val (.ref b1), .val (.int (1 : Int32)), .val (.int vg59), .unset, .unset, .unset, .unset] [(.int vg59), (.int (0 : Int32)), (.ref b1)]))
    refine own_via (fun t k => XS.i2b X41.here hx rfl (hb hby at_115) rfl k) ?_
    show own_G p e below _ (T41.setTop (mkF m 116 #[.val (.long q0), .second, .val (.int p1), .val (.int p2), .val (.int p3), .val (.ref b1), .val (.int (1 : Int32)), .val (.int vg59), .unset, .unset, .unset, .unset] [(.int (vg59.toInt8.toInt32)), (.int (0 : Int32)), (.ref b1)]))
    obtain ⟨T60, h60, L60, X60, N60, e60, W60, V60, st60⟩ := own_stB X41 N41 hx hZ e41 f44 g_b1 (j := (0 : Int32)) (x := (vg59.toInt8.toInt32)) (i := 0) ⟨by decide, by decide⟩ rfl (Nat.le_of_ble_eq_true rfl) (pc := 116) (Ls := #[.val (.long q0), .second, .val (.int p1), .val (.int p2), .val (.int p3), .val (.ref b1), .val (.int (1 : Int32)), .val (.int vg59), .unset, .unset, .unset, .unset]) (rest := []) (hb hby at_116)
    refine own_via st60 ?_
    have f61 : Sta Z h60 "com/example/bowerbird/bowerbird/Encoding" "BSON" "Lcom/example/bowerbird/bowerbird/Encoding;" (.ref w1) := f42.wr W60
    have f62 : Sta Z h60 "com/example/bowerbird/bowerbird/Encoding" "JSON" "Lcom/example/bowerbird/bowerbird/Encoding;" (.ref w2) := f43.wr W60
    have f63 : Arv Z h60 b1 k1 .byte (8 : Int32) [(.int ((vg59.toInt8.toInt32).toInt8.toInt32)), (.int (((((q0.toUInt64 >>> ((8 : Int32) &&& 0x3f).toInt64.toUInt64).toInt64).toInt32).toInt8.toInt32).toInt8.toInt32)), (.int (((((q0.toUInt64 >>> ((16 : Int32) &&& 0x3f).toInt64.toUInt64).toInt64).toInt32).toInt8.toInt32).toInt8.toInt32)), (.int (((((q0.toUInt64 >>> ((24 : Int32) &&& 0x3f).toInt64.toUInt64).toInt64).toInt32).toInt8.toInt32).toInt8.toInt32)), (.int (((((q0.toUInt64 >>> ((32 : Int32) &&& 0x3f).toInt64.toUInt64).toInt64).toInt32).toInt8.toInt32).toInt8.toInt32)), (.int (((((q0.toUInt64 >>> ((40 : Int32) &&& 0x3f).toInt64.toUInt64).toInt64).toInt32).toInt8.toInt32).toInt8.toInt32)), (.int (((((q0.toUInt64 >>> ((48 : Int32) &&& 0x3f).toInt64.toUInt64).toInt64).toInt32).toInt8.toInt32).toInt8.toInt32)), (.int (((((q0.toUInt64 >>> ((56 : Int32) &&& 0x3f).toInt64.toUInt64).toInt64).toInt32).toInt8.toInt32).toInt8.toInt32))] (.int (0 : Int32)) := V60
    have Zs64 : n0 ≤ h60.size := by rw [W60.size]; exact Zs45
    show own_G p e below _ (T60.setTop (mkF m 117 #[.val (.long q0), .second, .val (.int p1), .val (.int p2), .val (.int p3), .val (.ref b1), .val (.int (1 : Int32)), .val (.int vg59), .unset, .unset, .unset, .unset] []))
    refine own_via (fun t k => XS.aload X60.here hx rfl (hb hby at_117) rfl rfl k) ?_
    show own_G p e below _ (T60.setTop (mkF m 119 #[.val (.long q0), .second, .val (.int p1), .val (.int p2), .val (.int p3), .val (.ref b1), .val (.int (1 : Int32)), .val (.int vg59), .unset, .unset, .unset, .unset] [(.ref b1)]))
    refine own_via (fun t k => XS.iconst X60.here hx rfl (hb hby at_119) k) ?_
    show own_G p e below _ (T60.setTop (mkF m 120 #[.val (.long q0), .second, .val (.int p1), .val (.int p2), .val (.int p3), .val (.ref b1), .val (.int (1 : Int32)), .val (.int vg59), .unset, .unset, .unset, .unset] [(.int (1 : Int32)), (.ref b1)]))
    refine own_via (fun t k => XS.iload X60.here hx rfl (hb hby at_120) rfl k) ?_
    show own_G p e below _ (T60.setTop (mkF m 122 #[.val (.long q0), .second, .val (.int p1), .val (.int p2), .val (.int p3), .val (.ref b1), .val (.int (1 : Int32)), .val (.int vg59), .unset, .unset, .unset, .unset] [(.int vg59), (.int (1 : Int32)), (.ref b1)]))
    refine own_via (fun t k => XS.bipush X60.here hx rfl (hb hby at_122) k) ?_
    show own_G p e below _ (T60.setTop (mkF m 124 #[.val (.long q0), .second, .val (.int p1), .val (.int p2), .val (.int p3), .val (.ref b1), .val (.int (1 : Int32)), .val (.int vg59), .unset, .unset, .unset, .unset] [(.int (8 : Int32)), (.int vg59), (.int (1 : Int32)), (.ref b1)]))
    refine own_via (fun t k => XS.iushr X60.here hx rfl (hb hby at_124) rfl k) ?_
    show own_G p e below _ (T60.setTop (mkF m 125 #[.val (.long q0), .second, .val (.int p1), .val (.int p2), .val (.int p3), .val (.ref b1), .val (.int (1 : Int32)), .val (.int vg59), .unset, .unset, .unset, .unset] [(.int ((vg59.toUInt32 >>> ((8 : Int32) &&& 31).toUInt32).toInt32)), (.int (1 : Int32)), (.ref b1)]))
    refine own_via (fun t k => XS.i2b X60.here hx rfl (hb hby at_125) rfl k) ?_
    show own_G p e below _ (T60.setTop (mkF m 126 #[.val (.long q0), .second, .val (.int p1), .val (.int p2), .val (.int p3), .val (.ref b1), .val (.int (1 : Int32)), .val (.int vg59), .unset, .unset, .unset, .unset] [(.int (((vg59.toUInt32 >>> ((8 : Int32) &&& 31).toUInt32).toInt32).toInt8.toInt32)), (.int (1 : Int32)), (.ref b1)]))
    obtain ⟨T65, h65, L65, X65, N65, e65, W65, V65, st65⟩ := own_stB X60 N60 hx hZ e60 f63 g_b1 (j := (1 : Int32)) (x := (((vg59.toUInt32 >>> ((8 : Int32) &&& 31).toUInt32).toInt32).toInt8.toInt32)) (i := 1) ⟨by decide, by decide⟩ rfl (Nat.le_of_ble_eq_true rfl) (pc := 126) (Ls := #[.val (.long q0), .second, .val (.int p1), .val (.int p2), .val (.int p3), .val (.ref b1), .val (.int (1 : Int32)), .val (.int vg59), .unset, .unset, .unset, .unset]) (rest := []) (hb hby at_126)
    refine own_via st65 ?_
    have f66 : Sta Z h65 "com/example/bowerbird/bowerbird/Encoding" "BSON" "Lcom/example/bowerbird/bowerbird/Encoding;" (.ref w1) := f61.wr W65
    have f67 : Sta Z h65 "com/example/bowerbird/bowerbird/Encoding" "JSON" "Lcom/example/bowerbird/bowerbird/Encoding;" (.ref w2) := f62.wr W65
    have f68 : Arv Z h65 b1 k1 .byte (8 : Int32) [(.int ((vg59.toInt8.toInt32).toInt8.toInt32)), (.int ((((vg59.toUInt32 >>> ((8 : Int32) &&& 31).toUInt32).toInt32).toInt8.toInt32).toInt8.toInt32)), (.int (((((q0.toUInt64 >>> ((16 : Int32) &&& 0x3f).toInt64.toUInt64).toInt64).toInt32).toInt8.toInt32).toInt8.toInt32)), (.int (((((q0.toUInt64 >>> ((24 : Int32) &&& 0x3f).toInt64.toUInt64).toInt64).toInt32).toInt8.toInt32).toInt8.toInt32)), (.int (((((q0.toUInt64 >>> ((32 : Int32) &&& 0x3f).toInt64.toUInt64).toInt64).toInt32).toInt8.toInt32).toInt8.toInt32)), (.int (((((q0.toUInt64 >>> ((40 : Int32) &&& 0x3f).toInt64.toUInt64).toInt64).toInt32).toInt8.toInt32).toInt8.toInt32)), (.int (((((q0.toUInt64 >>> ((48 : Int32) &&& 0x3f).toInt64.toUInt64).toInt64).toInt32).toInt8.toInt32).toInt8.toInt32)), (.int (((((q0.toUInt64 >>> ((56 : Int32) &&& 0x3f).toInt64.toUInt64).toInt64).toInt32).toInt8.toInt32).toInt8.toInt32))] (.int (0 : Int32)) := V65
    have Zs69 : n0 ≤ h65.size := by rw [W65.size]; exact Zs64
    show own_G p e below _ (T65.setTop (mkF m 127 #[.val (.long q0), .second, .val (.int p1), .val (.int p2), .val (.int p3), .val (.ref b1), .val (.int (1 : Int32)), .val (.int vg59), .unset, .unset, .unset, .unset] []))
    refine own_via (fun t k => XS.aload X65.here hx rfl (hb hby at_127) rfl rfl k) ?_
    show own_G p e below _ (T65.setTop (mkF m 129 #[.val (.long q0), .second, .val (.int p1), .val (.int p2), .val (.int p3), .val (.ref b1), .val (.int (1 : Int32)), .val (.int vg59), .unset, .unset, .unset, .unset] [(.ref b1)]))
    refine own_via (fun t k => XS.iconst X65.here hx rfl (hb hby at_129) k) ?_
    show own_G p e below _ (T65.setTop (mkF m 130 #[.val (.long q0), .second, .val (.int p1), .val (.int p2), .val (.int p3), .val (.ref b1), .val (.int (1 : Int32)), .val (.int vg59), .unset, .unset, .unset, .unset] [(.int (2 : Int32)), (.ref b1)]))
    refine own_via (fun t k => XS.iload X65.here hx rfl (hb hby at_130) rfl k) ?_
    show own_G p e below _ (T65.setTop (mkF m 132 #[.val (.long q0), .second, .val (.int p1), .val (.int p2), .val (.int p3), .val (.ref b1), .val (.int (1 : Int32)), .val (.int vg59), .unset, .unset, .unset, .unset] [(.int vg59), (.int (2 : Int32)), (.ref b1)]))
    refine own_via (fun t k => XS.bipush X65.here hx rfl (hb hby at_132) k) ?_
    show own_G p e below _ (T65.setTop (mkF m 134 #[.val (.long q0), .second, .val (.int p1), .val (.int p2), .val (.int p3), .val (.ref b1), .val (.int (1 : Int32)), .val (.int vg59), .unset, .unset, .unset, .unset] [(.int (16 : Int32)), (.int vg59), (.int (2 : Int32)), (.ref b1)]))
    refine own_via (fun t k => XS.iushr X65.here hx rfl (hb hby at_134) rfl k) ?_
    show own_G p e below _ (T65.setTop (mkF m 135 #[.val (.long q0), .second, .val (.int p1), .val (.int p2), .val (.int p3), .val (.ref b1), .val (.int (1 : Int32)), .val (.int vg59), .unset, .unset, .unset, .unset] [(.int ((vg59.toUInt32 >>> ((16 : Int32) &&& 31).toUInt32).toInt32)), (.int (2 : Int32)), (.ref b1)]))
    refine own_via (fun t k => XS.i2b X65.here hx rfl (hb hby at_135) rfl k) ?_
    show own_G p e below _ (T65.setTop (mkF m 136 #[.val (.long q0), .second, .val (.int p1), .val (.int p2), .val (.int p3), .val (.ref b1), .val (.int (1 : Int32)), .val (.int vg59), .unset, .unset, .unset, .unset] [(.int (((vg59.toUInt32 >>> ((16 : Int32) &&& 31).toUInt32).toInt32).toInt8.toInt32)), (.int (2 : Int32)), (.ref b1)]))
    obtain ⟨T70, h70, L70, X70, N70, e70, W70, V70, st70⟩ := own_stB X65 N65 hx hZ e65 f68 g_b1 (j := (2 : Int32)) (x := (((vg59.toUInt32 >>> ((16 : Int32) &&& 31).toUInt32).toInt32).toInt8.toInt32)) (i := 2) ⟨by decide, by decide⟩ rfl (Nat.le_of_ble_eq_true rfl) (pc := 136) (Ls := #[.val (.long q0), .second, .val (.int p1), .val (.int p2), .val (.int p3), .val (.ref b1), .val (.int (1 : Int32)), .val (.int vg59), .unset, .unset, .unset, .unset]) (rest := []) (hb hby at_136)
    refine own_via st70 ?_
    have f71 : Sta Z h70 "com/example/bowerbird/bowerbird/Encoding" "BSON" "Lcom/example/bowerbird/bowerbird/Encoding;" (.ref w1) := f66.wr W70
    have f72 : Sta Z h70 "com/example/bowerbird/bowerbird/Encoding" "JSON" "Lcom/example/bowerbird/bowerbird/Encoding;" (.ref w2) := f67.wr W70
    have f73 : Arv Z h70 b1 k1 .byte (8 : Int32) [(.int ((vg59.toInt8.toInt32).toInt8.toInt32)), (.int ((((vg59.toUInt32 >>> ((8 : Int32) &&& 31).toUInt32).toInt32).toInt8.toInt32).toInt8.toInt32)), (.int ((((vg59.toUInt32 >>> ((16 : Int32) &&& 31).toUInt32).toInt32).toInt8.toInt32).toInt8.toInt32)), (.int (((((q0.toUInt64 >>> ((24 : Int32) &&& 0x3f).toInt64.toUInt64).toInt64).toInt32).toInt8.toInt32).toInt8.toInt32)), (.int (((((q0.toUInt64 >>> ((32 : Int32) &&& 0x3f).toInt64.toUInt64).toInt64).toInt32).toInt8.toInt32).toInt8.toInt32)), (.int (((((q0.toUInt64 >>> ((40 : Int32) &&& 0x3f).toInt64.toUInt64).toInt64).toInt32).toInt8.toInt32).toInt8.toInt32)), (.int (((((q0.toUInt64 >>> ((48 : Int32) &&& 0x3f).toInt64.toUInt64).toInt64).toInt32).toInt8.toInt32).toInt8.toInt32)), (.int (((((q0.toUInt64 >>> ((56 : Int32) &&& 0x3f).toInt64.toUInt64).toInt64).toInt32).toInt8.toInt32).toInt8.toInt32))] (.int (0 : Int32)) := V70
    have Zs74 : n0 ≤ h70.size := by rw [W70.size]; exact Zs69
    show own_G p e below _ (T70.setTop (mkF m 137 #[.val (.long q0), .second, .val (.int p1), .val (.int p2), .val (.int p3), .val (.ref b1), .val (.int (1 : Int32)), .val (.int vg59), .unset, .unset, .unset, .unset] []))
    refine own_via (fun t k => XS.aload X70.here hx rfl (hb hby at_137) rfl rfl k) ?_
    show own_G p e below _ (T70.setTop (mkF m 139 #[.val (.long q0), .second, .val (.int p1), .val (.int p2), .val (.int p3), .val (.ref b1), .val (.int (1 : Int32)), .val (.int vg59), .unset, .unset, .unset, .unset] [(.ref b1)]))
    refine own_via (fun t k => XS.iconst X70.here hx rfl (hb hby at_139) k) ?_
    show own_G p e below _ (T70.setTop (mkF m 140 #[.val (.long q0), .second, .val (.int p1), .val (.int p2), .val (.int p3), .val (.ref b1), .val (.int (1 : Int32)), .val (.int vg59), .unset, .unset, .unset, .unset] [(.int (3 : Int32)), (.ref b1)]))
    refine own_via (fun t k => XS.iload X70.here hx rfl (hb hby at_140) rfl k) ?_
    show own_G p e below _ (T70.setTop (mkF m 142 #[.val (.long q0), .second, .val (.int p1), .val (.int p2), .val (.int p3), .val (.ref b1), .val (.int (1 : Int32)), .val (.int vg59), .unset, .unset, .unset, .unset] [(.int vg59), (.int (3 : Int32)), (.ref b1)]))
    refine own_via (fun t k => XS.bipush X70.here hx rfl (hb hby at_142) k) ?_
    show own_G p e below _ (T70.setTop (mkF m 144 #[.val (.long q0), .second, .val (.int p1), .val (.int p2), .val (.int p3), .val (.ref b1), .val (.int (1 : Int32)), .val (.int vg59), .unset, .unset, .unset, .unset] [(.int (24 : Int32)), (.int vg59), (.int (3 : Int32)), (.ref b1)]))
    refine own_via (fun t k => XS.iushr X70.here hx rfl (hb hby at_144) rfl k) ?_
    show own_G p e below _ (T70.setTop (mkF m 145 #[.val (.long q0), .second, .val (.int p1), .val (.int p2), .val (.int p3), .val (.ref b1), .val (.int (1 : Int32)), .val (.int vg59), .unset, .unset, .unset, .unset] [(.int ((vg59.toUInt32 >>> ((24 : Int32) &&& 31).toUInt32).toInt32)), (.int (3 : Int32)), (.ref b1)]))
    refine own_via (fun t k => XS.i2b X70.here hx rfl (hb hby at_145) rfl k) ?_
    show own_G p e below _ (T70.setTop (mkF m 146 #[.val (.long q0), .second, .val (.int p1), .val (.int p2), .val (.int p3), .val (.ref b1), .val (.int (1 : Int32)), .val (.int vg59), .unset, .unset, .unset, .unset] [(.int (((vg59.toUInt32 >>> ((24 : Int32) &&& 31).toUInt32).toInt32).toInt8.toInt32)), (.int (3 : Int32)), (.ref b1)]))
    obtain ⟨T75, h75, L75, X75, N75, e75, W75, V75, st75⟩ := own_stB X70 N70 hx hZ e70 f73 g_b1 (j := (3 : Int32)) (x := (((vg59.toUInt32 >>> ((24 : Int32) &&& 31).toUInt32).toInt32).toInt8.toInt32)) (i := 3) ⟨by decide, by decide⟩ rfl (Nat.le_of_ble_eq_true rfl) (pc := 146) (Ls := #[.val (.long q0), .second, .val (.int p1), .val (.int p2), .val (.int p3), .val (.ref b1), .val (.int (1 : Int32)), .val (.int vg59), .unset, .unset, .unset, .unset]) (rest := []) (hb hby at_146)
    refine own_via st75 ?_
    have f76 : Sta Z h75 "com/example/bowerbird/bowerbird/Encoding" "BSON" "Lcom/example/bowerbird/bowerbird/Encoding;" (.ref w1) := f71.wr W75
    have f77 : Sta Z h75 "com/example/bowerbird/bowerbird/Encoding" "JSON" "Lcom/example/bowerbird/bowerbird/Encoding;" (.ref w2) := f72.wr W75
    have f78 : Arv Z h75 b1 k1 .byte (8 : Int32) [(.int ((vg59.toInt8.toInt32).toInt8.toInt32)), (.int ((((vg59.toUInt32 >>> ((8 : Int32) &&& 31).toUInt32).toInt32).toInt8.toInt32).toInt8.toInt32)), (.int ((((vg59.toUInt32 >>> ((16 : Int32) &&& 31).toUInt32).toInt32).toInt8.toInt32).toInt8.toInt32)), (.int ((((vg59.toUInt32 >>> ((24 : Int32) &&& 31).toUInt32).toInt32).toInt8.toInt32).toInt8.toInt32)), (.int (((((q0.toUInt64 >>> ((32 : Int32) &&& 0x3f).toInt64.toUInt64).toInt64).toInt32).toInt8.toInt32).toInt8.toInt32)), (.int (((((q0.toUInt64 >>> ((40 : Int32) &&& 0x3f).toInt64.toUInt64).toInt64).toInt32).toInt8.toInt32).toInt8.toInt32)), (.int (((((q0.toUInt64 >>> ((48 : Int32) &&& 0x3f).toInt64.toUInt64).toInt64).toInt32).toInt8.toInt32).toInt8.toInt32)), (.int (((((q0.toUInt64 >>> ((56 : Int32) &&& 0x3f).toInt64.toUInt64).toInt64).toInt32).toInt8.toInt32).toInt8.toInt32))] (.int (0 : Int32)) := V75
    have Zs79 : n0 ≤ h75.size := by rw [W75.size]; exact Zs74
    show own_G p e below _ (T75.setTop (mkF m 147 #[.val (.long q0), .second, .val (.int p1), .val (.int p2), .val (.int p3), .val (.ref b1), .val (.int (1 : Int32)), .val (.int vg59), .unset, .unset, .unset, .unset] []))
    refine own_via (fun t k => XS.iloadN X75.here hx rfl (hb hby at_147) rfl k) ?_
    show own_G p e below _ (T75.setTop (mkF m 148 #[.val (.long q0), .second, .val (.int p1), .val (.int p2), .val (.int p3), .val (.ref b1), .val (.int (1 : Int32)), .val (.int vg59), .unset, .unset, .unset, .unset] [(.int p1)]))
    refine own_via (X75.ldcInt hx hown (mvT hZ (hw _ (List.mem_of_getElem? (i := 1) rfl))) (g := (mkF m 148 #[.val (.long q0), .second, .val (.int p1), .val (.int p2), .val (.int p3), .val (.ref b1), .val (.int (1 : Int32)), .val (.int vg59), .unset, .unset, .unset, .unset] [(.int p1)])) rfl (hb hby at_148)) ?_
    show own_G p e below _ (T75.setTop (mkF m 150 #[.val (.long q0), .second, .val (.int p1), .val (.int p2), .val (.int p3), .val (.ref b1), .val (.int (1 : Int32)), .val (.int vg59), .unset, .unset, .unset, .unset] [(.int (2147483647 : Int32)), (.int p1)]))
    refine own_via (fun t k => XS.iand X75.here hx rfl (hb hby at_150) rfl k) ?_
    show own_G p e below _ (T75.setTop (mkF m 151 #[.val (.long q0), .second, .val (.int p1), .val (.int p2), .val (.int p3), .val (.ref b1), .val (.int (1 : Int32)), .val (.int vg59), .unset, .unset, .unset, .unset] [(.int (p1 &&& (2147483647 : Int32)))]))
    refine own_via (fun t k => XS.bipush X75.here hx rfl (hb hby at_151) k) ?_
    show own_G p e below _ (T75.setTop (mkF m 153 #[.val (.long q0), .second, .val (.int p1), .val (.int p2), .val (.int p3), .val (.ref b1), .val (.int (1 : Int32)), .val (.int vg59), .unset, .unset, .unset, .unset] [(.int (9 : Int32)), (.int (p1 &&& (2147483647 : Int32)))]))
    refine own_via (fun t k => XS.irem X75.here hx rfl (hb hby at_153) rfl (by decide) k) ?_
    show own_G p e below _ (T75.setTop (mkF m 154 #[.val (.long q0), .second, .val (.int p1), .val (.int p2), .val (.int p3), .val (.ref b1), .val (.int (1 : Int32)), .val (.int vg59), .unset, .unset, .unset, .unset] [(.int ((p1 &&& (2147483647 : Int32)) - ((p1 &&& (2147483647 : Int32)) / (9 : Int32)) * (9 : Int32)))]))
    generalize hvg80 : ((p1 &&& (2147483647 : Int32)) - ((p1 &&& (2147483647 : Int32)) / (9 : Int32)) * (9 : Int32)) = vg80
    show own_G p e below _ (T75.setTop (mkF m 154 #[.val (.long q0), .second, .val (.int p1), .val (.int p2), .val (.int p3), .val (.ref b1), .val (.int (1 : Int32)), .val (.int vg59), .unset, .unset, .unset, .unset] [(.int vg80)]))
    refine own_via (fun t k => XS.istore X75.here hx rfl (hb hby at_154) rfl (l' := #[.val (.long q0), .second, .val (.int p1), .val (.int p2), .val (.int p3), .val (.ref b1), .val (.int (1 : Int32)), .val (.int vg80), .unset, .unset, .unset, .unset]) rfl k) ?_
    show own_G p e below _ (T75.setTop (mkF m 156 #[.val (.long q0), .second, .val (.int p1), .val (.int p2), .val (.int p3), .val (.ref b1), .val (.int (1 : Int32)), .val (.int vg80), .unset, .unset, .unset, .unset] []))
    refine own_via (fun t k => XS.iload X75.here hx rfl (hb hby at_156) rfl k) ?_
    show own_G p e below _ (T75.setTop (mkF m 158 #[.val (.long q0), .second, .val (.int p1), .val (.int p2), .val (.int p3), .val (.ref b1), .val (.int (1 : Int32)), .val (.int vg80), .unset, .unset, .unset, .unset] [(.int vg80)]))
    refine own_via (fun t k => XS.iconst X75.here hx rfl (hb hby at_158) k) ?_
    show own_G p e below _ (T75.setTop (mkF m 159 #[.val (.long q0), .second, .val (.int p1), .val (.int p2), .val (.int p3), .val (.ref b1), .val (.int (1 : Int32)), .val (.int vg80), .unset, .unset, .unset, .unset] [(.int (4 : Int32)), (.int vg80)]))
    by_cases hc81 : vg80 < (4 : Int32)
    ·
      refine own_via (fun t k => XS.icmpYes X75.here hx rfl (pc0 := 159) (pc' := 166) rfl (hb hby at_159) rfl (tlt hc81).1 (by decide) (by decide) k) ?_
      show own_G p e below _ (T75.setTop (mkF m 166 #[.val (.long q0), .second, .val (.int p1), .val (.int p2), .val (.int p3), .val (.ref b1), .val (.int (1 : Int32)), .val (.int vg80), .unset, .unset, .unset, .unset] []))
      refine own_via (fun t k => XS.iconst X75.here hx rfl (hb hby at_166) k) ?_
      show own_G p e below _ (T75.setTop (mkF m 167 #[.val (.long q0), .second, .val (.int p1), .val (.int p2), .val (.int p3), .val (.ref b1), .val (.int (1 : Int32)), .val (.int vg80), .unset, .unset, .unset, .unset] [(.int (0 : Int32))]))
      refine own_via (fun t k => XS.istore X75.here hx rfl (hb hby at_167) rfl (l' := #[.val (.long q0), .second, .val (.int p1), .val (.int p2), .val (.int p3), .val (.ref b1), .val (.int (1 : Int32)), .val (.int vg80), .val (.int (0 : Int32)), .unset, .unset, .unset]) rfl k) ?_
      show own_G p e below _ (T75.setTop (mkF m 169 #[.val (.long q0), .second, .val (.int p1), .val (.int p2), .val (.int p3), .val (.ref b1), .val (.int (1 : Int32)), .val (.int vg80), .val (.int (0 : Int32)), .unset, .unset, .unset] []))
      refine own_via (fun t k => XS.aload X75.here hx rfl (hb hby at_169) rfl rfl k) ?_
      show own_G p e below _ (T75.setTop (mkF m 171 #[.val (.long q0), .second, .val (.int p1), .val (.int p2), .val (.int p3), .val (.ref b1), .val (.int (1 : Int32)), .val (.int vg80), .val (.int (0 : Int32)), .unset, .unset, .unset] [(.ref b1)]))
      refine own_via (fun t k => XS.iconst X75.here hx rfl (hb hby at_171) k) ?_
      show own_G p e below _ (T75.setTop (mkF m 172 #[.val (.long q0), .second, .val (.int p1), .val (.int p2), .val (.int p3), .val (.ref b1), .val (.int (1 : Int32)), .val (.int vg80), .val (.int (0 : Int32)), .unset, .unset, .unset] [(.int (3 : Int32)), (.ref b1)]))
      refine own_via (own_ldB X75 hx hZ e75 f78 (j := (3 : Int32)) ⟨by decide, by decide⟩ (v := (.int ((((vg59.toUInt32 >>> ((24 : Int32) &&& 31).toUInt32).toInt32).toInt8.toInt32).toInt8.toInt32))) rfl (pc := 172) (Ls := #[.val (.long q0), .second, .val (.int p1), .val (.int p2), .val (.int p3), .val (.ref b1), .val (.int (1 : Int32)), .val (.int vg80), .val (.int (0 : Int32)), .unset, .unset, .unset]) (rest := []) (hb hby at_172)) ?_
      show own_G p e below _ (T75.setTop (mkF m 173 #[.val (.long q0), .second, .val (.int p1), .val (.int p2), .val (.int p3), .val (.ref b1), .val (.int (1 : Int32)), .val (.int vg80), .val (.int (0 : Int32)), .unset, .unset, .unset] [(.int ((((vg59.toUInt32 >>> ((24 : Int32) &&& 31).toUInt32).toInt32).toInt8.toInt32).toInt8.toInt32))]))
      refine own_via (fun t k => XS.ifNo X75.here hx rfl (hb hby at_173) rfl ((if0 _ _).trans (teq (own_zero3 hvg59)).2) k) ?_
      show own_G p e below _ (T75.setTop (mkF m 176 #[.val (.long q0), .second, .val (.int p1), .val (.int p2), .val (.int p3), .val (.ref b1), .val (.int (1 : Int32)), .val (.int vg80), .val (.int (0 : Int32)), .unset, .unset, .unset] []))
      refine own_via (fun t k => XS.iconst X75.here hx rfl (hb hby at_176) k) ?_
      show own_G p e below _ (T75.setTop (mkF m 177 #[.val (.long q0), .second, .val (.int p1), .val (.int p2), .val (.int p3), .val (.ref b1), .val (.int (1 : Int32)), .val (.int vg80), .val (.int (0 : Int32)), .unset, .unset, .unset] [(.int (1 : Int32))]))
      refine own_via (fun t k => XS.goto X75.here hx rfl (pc0 := 177) (pc' := 181) rfl (hb hby at_177) (by decide) (by decide) k) ?_
      show own_G p e below _ (T75.setTop (mkF m 181 #[.val (.long q0), .second, .val (.int p1), .val (.int p2), .val (.int p3), .val (.ref b1), .val (.int (1 : Int32)), .val (.int vg80), .val (.int (0 : Int32)), .unset, .unset, .unset] [(.int (1 : Int32))]))
      refine own_via (fun t k => XS.istore X75.here hx rfl (hb hby at_181) rfl (l' := #[.val (.long q0), .second, .val (.int p1), .val (.int p2), .val (.int p3), .val (.ref b1), .val (.int (1 : Int32)), .val (.int vg80), .val (.int (0 : Int32)), .val (.int (1 : Int32)), .unset, .unset]) rfl k) ?_
      show own_G p e below _ (T75.setTop (mkF m 183 #[.val (.long q0), .second, .val (.int p1), .val (.int p2), .val (.int p3), .val (.ref b1), .val (.int (1 : Int32)), .val (.int vg80), .val (.int (0 : Int32)), .val (.int (1 : Int32)), .unset, .unset] []))
      refine own_via (fun t k => XS.iload X75.here hx rfl (hb hby at_183) rfl k) ?_
      show own_G p e below _ (T75.setTop (mkF m 185 #[.val (.long q0), .second, .val (.int p1), .val (.int p2), .val (.int p3), .val (.ref b1), .val (.int (1 : Int32)), .val (.int vg80), .val (.int (0 : Int32)), .val (.int (1 : Int32)), .unset, .unset] [(.int (0 : Int32))]))
      refine own_via (fun t k => XS.ifYes X75.here hx rfl (pc0 := 185) (pc' := 209) rfl (hb hby at_185) rfl ((if0 _ _).trans (teq (by decide : (0 : Int32) = (0 : Int32))).1) (by decide) (by decide) k) ?_
      show own_G p e below _ (T75.setTop (mkF m 209 #[.val (.long q0), .second, .val (.int p1), .val (.int p2), .val (.int p3), .val (.ref b1), .val (.int (1 : Int32)), .val (.int vg80), .val (.int (0 : Int32)), .val (.int (1 : Int32)), .unset, .unset] []))
      obtain ⟨T82, X82, e82, st82⟩ := getS2 X75 hx hZ hown (host := "") (Or.inl (hw _ (List.mem_of_getElem? (i := 2) rfl))) Via.refl e75 f77 (g := (mkF m 209 #[.val (.long q0), .second, .val (.int p1), .val (.int p2), .val (.int p3), .val (.ref b1), .val (.int (1 : Int32)), .val (.int vg80), .val (.int (0 : Int32)), .val (.int (1 : Int32)), .unset, .unset] [])) rfl (hb hby at_209)
      refine own_via st82 ?_
      show own_G p e below _ (T82.setTop (mkF m 212 #[.val (.long q0), .second, .val (.int p1), .val (.int p2), .val (.int p3), .val (.ref b1), .val (.int (1 : Int32)), .val (.int vg80), .val (.int (0 : Int32)), .val (.int (1 : Int32)), .unset, .unset] [(.ref w2)]))
      refine own_via (fun t k => XS.astore X82.here hx rfl (hb hby at_212) rfl rfl (l' := #[.val (.long q0), .second, .val (.int p1), .val (.int p2), .val (.int p3), .val (.ref b1), .val (.int (1 : Int32)), .val (.int vg80), .val (.int (0 : Int32)), .val (.int (1 : Int32)), .val (.ref w2), .unset]) rfl k) ?_
      show own_G p e below _ (T82.setTop (mkF m 214 #[.val (.long q0), .second, .val (.int p1), .val (.int p2), .val (.int p3), .val (.ref b1), .val (.int (1 : Int32)), .val (.int vg80), .val (.int (0 : Int32)), .val (.int (1 : Int32)), .val (.ref w2), .unset] []))
      refine own_via (fun t k => XS.aload X82.here hx rfl (hb hby at_214) rfl rfl k) ?_
      show own_G p e below _ (T82.setTop (mkF m 216 #[.val (.long q0), .second, .val (.int p1), .val (.int p2), .val (.int p3), .val (.ref b1), .val (.int (1 : Int32)), .val (.int vg80), .val (.int (0 : Int32)), .val (.int (1 : Int32)), .val (.ref w2), .unset] [(.ref b1)]))
      refine own_via (fun t k => XS.iload X82.here hx rfl (hb hby at_216) rfl k) ?_
      show own_G p e below _ (T82.setTop (mkF m 218 #[.val (.long q0), .second, .val (.int p1), .val (.int p2), .val (.int p3), .val (.ref b1), .val (.int (1 : Int32)), .val (.int vg80), .val (.int (0 : Int32)), .val (.int (1 : Int32)), .val (.ref w2), .unset] [(.int vg80), (.ref b1)]))
      obtain ⟨T83, X83, e83, st83⟩ := own_callP (y := (⟨"com/example/bowerbird/bowerbird/Encoding", "detect", "([BI)Lcom/example/bowerbird/bowerbird/Encoding;"⟩ : MethodName)) (W := 0) X82 hx hZ hown (hw _ (List.mem_of_getElem? (i := 5) rfl)) (hw _ (List.mem_of_getElem? (i := 6) rfl)) (hw _ (List.mem_of_getElem? (i := 3) rfl)) (hw _ (List.mem_of_getElem? (i := 7) rfl)) (by decide) (own_detJ l Z a0 hw [] b1 vg80 k1 ((vg59.toInt8.toInt32).toInt8.toInt32) ((((vg59.toUInt32 >>> ((8 : Int32) &&& 31).toUInt32).toInt32).toInt8.toInt32).toInt8.toInt32) ((((vg59.toUInt32 >>> ((16 : Int32) &&& 31).toUInt32).toInt32).toInt8.toInt32).toInt8.toInt32) ((((vg59.toUInt32 >>> ((24 : Int32) &&& 31).toUInt32).toInt32).toInt8.toInt32).toInt8.toInt32) (((((q0.toUInt64 >>> ((32 : Int32) &&& 0x3f).toInt64.toUInt64).toInt64).toInt32).toInt8.toInt32).toInt8.toInt32) (((((q0.toUInt64 >>> ((40 : Int32) &&& 0x3f).toInt64.toUInt64).toInt64).toInt32).toInt8.toInt32).toInt8.toInt32) (((((q0.toUInt64 >>> ((48 : Int32) &&& 0x3f).toInt64.toUInt64).toInt64).toInt32).toInt8.toInt32).toInt8.toInt32) (((((q0.toUInt64 >>> ((56 : Int32) &&& 0x3f).toInt64.toUInt64).toInt64).toInt32).toInt8.toInt32).toInt8.toInt32) w1 w2 h75 f78 f76 f77 hc81) (by decide) (by decide) rfl rfl (by decide) (by decide) e82 (pc := 218) (Ls := #[.val (.long q0), .second, .val (.int p1), .val (.int p2), .val (.int p3), .val (.ref b1), .val (.int (1 : Int32)), .val (.int vg80), .val (.int (0 : Int32)), .val (.int (1 : Int32)), .val (.ref w2), .unset]) (st := [(.int vg80), (.ref b1)]) (argsL := [(.ref b1), (.int vg80)]) (rest := []) (by rw [hml]; rfl) (lenOf own_pd0 rfl) rfl rfl (Nat.le_of_eq rfl) (hb hby at_218)
      refine own_via st83 ?_
      show own_G p e below _ (T83.setTop (mkF m 221 #[.val (.long q0), .second, .val (.int p1), .val (.int p2), .val (.int p3), .val (.ref b1), .val (.int (1 : Int32)), .val (.int vg80), .val (.int (0 : Int32)), .val (.int (1 : Int32)), .val (.ref w2), .unset] [(.ref w2)]))
      refine own_via (fun t k => XS.astore X83.here hx rfl (hb hby at_221) rfl rfl (l' := #[.val (.long q0), .second, .val (.int p1), .val (.int p2), .val (.int p3), .val (.ref b1), .val (.int (1 : Int32)), .val (.int vg80), .val (.int (0 : Int32)), .val (.int (1 : Int32)), .val (.ref w2), .val (.ref w2)]) rfl k) ?_
      show own_G p e below _ (T83.setTop (mkF m 223 #[.val (.long q0), .second, .val (.int p1), .val (.int p2), .val (.int p3), .val (.ref b1), .val (.int (1 : Int32)), .val (.int vg80), .val (.int (0 : Int32)), .val (.int (1 : Int32)), .val (.ref w2), .val (.ref w2)] []))
      refine own_via (fun t k => XS.aload X83.here hx rfl (hb hby at_223) rfl rfl k) ?_
      show own_G p e below _ (T83.setTop (mkF m 225 #[.val (.long q0), .second, .val (.int p1), .val (.int p2), .val (.int p3), .val (.ref b1), .val (.int (1 : Int32)), .val (.int vg80), .val (.int (0 : Int32)), .val (.int (1 : Int32)), .val (.ref w2), .val (.ref w2)] [(.ref w2)]))
      refine own_via (fun t k => XS.aload X83.here hx rfl (hb hby at_225) rfl rfl k) ?_
      show own_G p e below _ (T83.setTop (mkF m 227 #[.val (.long q0), .second, .val (.int p1), .val (.int p2), .val (.int p3), .val (.ref b1), .val (.int (1 : Int32)), .val (.int vg80), .val (.int (0 : Int32)), .val (.int (1 : Int32)), .val (.ref w2), .val (.ref w2)] [(.ref w2), (.ref w2)]))
      refine own_via (fun t k => Jvm.RoadKit.acmp (g := (mkF m 227 #[.val (.long q0), .second, .val (.int p1), .val (.int p2), .val (.int p3), .val (.ref b1), .val (.int (1 : Int32)), .val (.int vg80), .val (.int (0 : Int32)), .val (.int (1 : Int32)), .val (.ref w2), .val (.ref w2)] [(.ref w2), (.ref w2)])) X83 hx rfl rfl rfl (pc0 := 227) (pc' := 232) (same := true) rfl (hb hby at_227) rfl (decide_eq_true rfl) (by decide) (by decide) k) ?_
      show own_G p e below _ (T83.setTop (mkF m 232 #[.val (.long q0), .second, .val (.int p1), .val (.int p2), .val (.int p3), .val (.ref b1), .val (.int (1 : Int32)), .val (.int vg80), .val (.int (0 : Int32)), .val (.int (1 : Int32)), .val (.ref w2), .val (.ref w2)] []))
      refine own_via (fun t k => XS.iload X83.here hx rfl (hb hby at_232) rfl k) ?_
      show own_G p e below _ (T83.setTop (mkF m 234 #[.val (.long q0), .second, .val (.int p1), .val (.int p2), .val (.int p3), .val (.ref b1), .val (.int (1 : Int32)), .val (.int vg80), .val (.int (0 : Int32)), .val (.int (1 : Int32)), .val (.ref w2), .val (.ref w2)] [(.int (1 : Int32))]))
      refine own_via (fun t k => XS.ifNo X83.here hx rfl (hb hby at_234) rfl ((if0 _ _).trans (feq (by decide : ¬ ((1 : Int32) = (0 : Int32)))).1) k) ?_
      show own_G p e below _ (T83.setTop (mkF m 237 #[.val (.long q0), .second, .val (.int p1), .val (.int p2), .val (.int p3), .val (.ref b1), .val (.int (1 : Int32)), .val (.int vg80), .val (.int (0 : Int32)), .val (.int (1 : Int32)), .val (.ref w2), .val (.ref w2)] []))
      refine own_via (fun t k => XS.iload X83.here hx rfl (hb hby at_237) rfl k) ?_
      show own_G p e below _ (T83.setTop (mkF m 239 #[.val (.long q0), .second, .val (.int p1), .val (.int p2), .val (.int p3), .val (.ref b1), .val (.int (1 : Int32)), .val (.int vg80), .val (.int (0 : Int32)), .val (.int (1 : Int32)), .val (.ref w2), .val (.ref w2)] [(.int (0 : Int32))]))
      refine own_via (fun t k => XS.ifYes X83.here hx rfl (pc0 := 239) (pc' := 252) rfl (hb hby at_239) rfl ((if0 _ _).trans (teq (by decide : (0 : Int32) = (0 : Int32))).1) (by decide) (by decide) k) ?_
      show own_G p e below _ (T83.setTop (mkF m 252 #[.val (.long q0), .second, .val (.int p1), .val (.int p2), .val (.int p3), .val (.ref b1), .val (.int (1 : Int32)), .val (.int vg80), .val (.int (0 : Int32)), .val (.int (1 : Int32)), .val (.ref w2), .val (.ref w2)] []))
      refine own_via (fun t k => XS.iconst X83.here hx rfl (hb hby at_252) k) ?_
      show own_G p e below _ (T83.setTop (mkF m 253 #[.val (.long q0), .second, .val (.int p1), .val (.int p2), .val (.int p3), .val (.ref b1), .val (.int (1 : Int32)), .val (.int vg80), .val (.int (0 : Int32)), .val (.int (1 : Int32)), .val (.ref w2), .val (.ref w2)] [(.int (1 : Int32))]))
      exact own_retN (t := .boolean) X83 hx Bd.returns (by simp) Bd.notSynchronized (hb hby at_253) ⟨N75, rfl⟩ (by decide) (by decide)
    ·
      refine own_via (fun t k => XS.icmpNo X75.here hx rfl (hb hby at_159) rfl (flt hc81).1 k) ?_
      show own_G p e below _ (T75.setTop (mkF m 162 #[.val (.long q0), .second, .val (.int p1), .val (.int p2), .val (.int p3), .val (.ref b1), .val (.int (1 : Int32)), .val (.int vg80), .unset, .unset, .unset, .unset] []))
      refine own_via (fun t k => XS.iconst X75.here hx rfl (hb hby at_162) k) ?_
      show own_G p e below _ (T75.setTop (mkF m 163 #[.val (.long q0), .second, .val (.int p1), .val (.int p2), .val (.int p3), .val (.ref b1), .val (.int (1 : Int32)), .val (.int vg80), .unset, .unset, .unset, .unset] [(.int (1 : Int32))]))
      refine own_via (fun t k => XS.goto X75.here hx rfl (pc0 := 163) (pc' := 167) rfl (hb hby at_163) (by decide) (by decide) k) ?_
      show own_G p e below _ (T75.setTop (mkF m 167 #[.val (.long q0), .second, .val (.int p1), .val (.int p2), .val (.int p3), .val (.ref b1), .val (.int (1 : Int32)), .val (.int vg80), .unset, .unset, .unset, .unset] [(.int (1 : Int32))]))
      refine own_via (fun t k => XS.istore X75.here hx rfl (hb hby at_167) rfl (l' := #[.val (.long q0), .second, .val (.int p1), .val (.int p2), .val (.int p3), .val (.ref b1), .val (.int (1 : Int32)), .val (.int vg80), .val (.int (1 : Int32)), .unset, .unset, .unset]) rfl k) ?_
      show own_G p e below _ (T75.setTop (mkF m 169 #[.val (.long q0), .second, .val (.int p1), .val (.int p2), .val (.int p3), .val (.ref b1), .val (.int (1 : Int32)), .val (.int vg80), .val (.int (1 : Int32)), .unset, .unset, .unset] []))
      refine own_via (fun t k => XS.aload X75.here hx rfl (hb hby at_169) rfl rfl k) ?_
      show own_G p e below _ (T75.setTop (mkF m 171 #[.val (.long q0), .second, .val (.int p1), .val (.int p2), .val (.int p3), .val (.ref b1), .val (.int (1 : Int32)), .val (.int vg80), .val (.int (1 : Int32)), .unset, .unset, .unset] [(.ref b1)]))
      refine own_via (fun t k => XS.iconst X75.here hx rfl (hb hby at_171) k) ?_
      show own_G p e below _ (T75.setTop (mkF m 172 #[.val (.long q0), .second, .val (.int p1), .val (.int p2), .val (.int p3), .val (.ref b1), .val (.int (1 : Int32)), .val (.int vg80), .val (.int (1 : Int32)), .unset, .unset, .unset] [(.int (3 : Int32)), (.ref b1)]))
      refine own_via (own_ldB X75 hx hZ e75 f78 (j := (3 : Int32)) ⟨by decide, by decide⟩ (v := (.int ((((vg59.toUInt32 >>> ((24 : Int32) &&& 31).toUInt32).toInt32).toInt8.toInt32).toInt8.toInt32))) rfl (pc := 172) (Ls := #[.val (.long q0), .second, .val (.int p1), .val (.int p2), .val (.int p3), .val (.ref b1), .val (.int (1 : Int32)), .val (.int vg80), .val (.int (1 : Int32)), .unset, .unset, .unset]) (rest := []) (hb hby at_172)) ?_
      show own_G p e below _ (T75.setTop (mkF m 173 #[.val (.long q0), .second, .val (.int p1), .val (.int p2), .val (.int p3), .val (.ref b1), .val (.int (1 : Int32)), .val (.int vg80), .val (.int (1 : Int32)), .unset, .unset, .unset] [(.int ((((vg59.toUInt32 >>> ((24 : Int32) &&& 31).toUInt32).toInt32).toInt8.toInt32).toInt8.toInt32))]))
      refine own_via (fun t k => XS.ifNo X75.here hx rfl (hb hby at_173) rfl ((if0 _ _).trans (teq (own_zero3 hvg59)).2) k) ?_
      show own_G p e below _ (T75.setTop (mkF m 176 #[.val (.long q0), .second, .val (.int p1), .val (.int p2), .val (.int p3), .val (.ref b1), .val (.int (1 : Int32)), .val (.int vg80), .val (.int (1 : Int32)), .unset, .unset, .unset] []))
      refine own_via (fun t k => XS.iconst X75.here hx rfl (hb hby at_176) k) ?_
      show own_G p e below _ (T75.setTop (mkF m 177 #[.val (.long q0), .second, .val (.int p1), .val (.int p2), .val (.int p3), .val (.ref b1), .val (.int (1 : Int32)), .val (.int vg80), .val (.int (1 : Int32)), .unset, .unset, .unset] [(.int (1 : Int32))]))
      refine own_via (fun t k => XS.goto X75.here hx rfl (pc0 := 177) (pc' := 181) rfl (hb hby at_177) (by decide) (by decide) k) ?_
      show own_G p e below _ (T75.setTop (mkF m 181 #[.val (.long q0), .second, .val (.int p1), .val (.int p2), .val (.int p3), .val (.ref b1), .val (.int (1 : Int32)), .val (.int vg80), .val (.int (1 : Int32)), .unset, .unset, .unset] [(.int (1 : Int32))]))
      refine own_via (fun t k => XS.istore X75.here hx rfl (hb hby at_181) rfl (l' := #[.val (.long q0), .second, .val (.int p1), .val (.int p2), .val (.int p3), .val (.ref b1), .val (.int (1 : Int32)), .val (.int vg80), .val (.int (1 : Int32)), .val (.int (1 : Int32)), .unset, .unset]) rfl k) ?_
      show own_G p e below _ (T75.setTop (mkF m 183 #[.val (.long q0), .second, .val (.int p1), .val (.int p2), .val (.int p3), .val (.ref b1), .val (.int (1 : Int32)), .val (.int vg80), .val (.int (1 : Int32)), .val (.int (1 : Int32)), .unset, .unset] []))
      refine own_via (fun t k => XS.iload X75.here hx rfl (hb hby at_183) rfl k) ?_
      show own_G p e below _ (T75.setTop (mkF m 185 #[.val (.long q0), .second, .val (.int p1), .val (.int p2), .val (.int p3), .val (.ref b1), .val (.int (1 : Int32)), .val (.int vg80), .val (.int (1 : Int32)), .val (.int (1 : Int32)), .unset, .unset] [(.int (1 : Int32))]))
      refine own_via (fun t k => XS.ifNo X75.here hx rfl (hb hby at_185) rfl ((if0 _ _).trans (feq (by decide : ¬ ((1 : Int32) = (0 : Int32)))).1) k) ?_
      show own_G p e below _ (T75.setTop (mkF m 188 #[.val (.long q0), .second, .val (.int p1), .val (.int p2), .val (.int p3), .val (.ref b1), .val (.int (1 : Int32)), .val (.int vg80), .val (.int (1 : Int32)), .val (.int (1 : Int32)), .unset, .unset] []))
      refine own_via (fun t k => XS.iload X75.here hx rfl (hb hby at_188) rfl k) ?_
      show own_G p e below _ (T75.setTop (mkF m 190 #[.val (.long q0), .second, .val (.int p1), .val (.int p2), .val (.int p3), .val (.ref b1), .val (.int (1 : Int32)), .val (.int vg80), .val (.int (1 : Int32)), .val (.int (1 : Int32)), .unset, .unset] [(.int (1 : Int32))]))
      refine own_via (fun t k => XS.ifNo X75.here hx rfl (hb hby at_190) rfl ((if0 _ _).trans (feq (by decide : ¬ ((1 : Int32) = (0 : Int32)))).1) k) ?_
      show own_G p e below _ (T75.setTop (mkF m 193 #[.val (.long q0), .second, .val (.int p1), .val (.int p2), .val (.int p3), .val (.ref b1), .val (.int (1 : Int32)), .val (.int vg80), .val (.int (1 : Int32)), .val (.int (1 : Int32)), .unset, .unset] []))
      obtain ⟨T84, X84, e84, st84⟩ := getS2 X75 hx hZ hown (host := "") (Or.inl (hw _ (List.mem_of_getElem? (i := 10) rfl))) Via.refl e75 f76 (g := (mkF m 193 #[.val (.long q0), .second, .val (.int p1), .val (.int p2), .val (.int p3), .val (.ref b1), .val (.int (1 : Int32)), .val (.int vg80), .val (.int (1 : Int32)), .val (.int (1 : Int32)), .unset, .unset] [])) rfl (hb hby at_193)
      refine own_via st84 ?_
      show own_G p e below _ (T84.setTop (mkF m 196 #[.val (.long q0), .second, .val (.int p1), .val (.int p2), .val (.int p3), .val (.ref b1), .val (.int (1 : Int32)), .val (.int vg80), .val (.int (1 : Int32)), .val (.int (1 : Int32)), .unset, .unset] [(.ref w1)]))
      refine own_via (fun t k => XS.astore X84.here hx rfl (hb hby at_196) rfl rfl (l' := #[.val (.long q0), .second, .val (.int p1), .val (.int p2), .val (.int p3), .val (.ref b1), .val (.int (1 : Int32)), .val (.int vg80), .val (.int (1 : Int32)), .val (.int (1 : Int32)), .val (.ref w1), .unset]) rfl k) ?_
      show own_G p e below _ (T84.setTop (mkF m 198 #[.val (.long q0), .second, .val (.int p1), .val (.int p2), .val (.int p3), .val (.ref b1), .val (.int (1 : Int32)), .val (.int vg80), .val (.int (1 : Int32)), .val (.int (1 : Int32)), .val (.ref w1), .unset] []))
      refine own_via (fun t k => XS.goto X84.here hx rfl (pc0 := 198) (pc' := 214) rfl (hb hby at_198) (by decide) (by decide) k) ?_
      show own_G p e below _ (T84.setTop (mkF m 214 #[.val (.long q0), .second, .val (.int p1), .val (.int p2), .val (.int p3), .val (.ref b1), .val (.int (1 : Int32)), .val (.int vg80), .val (.int (1 : Int32)), .val (.int (1 : Int32)), .val (.ref w1), .unset] []))
      refine own_via (fun t k => XS.aload X84.here hx rfl (hb hby at_214) rfl rfl k) ?_
      show own_G p e below _ (T84.setTop (mkF m 216 #[.val (.long q0), .second, .val (.int p1), .val (.int p2), .val (.int p3), .val (.ref b1), .val (.int (1 : Int32)), .val (.int vg80), .val (.int (1 : Int32)), .val (.int (1 : Int32)), .val (.ref w1), .unset] [(.ref b1)]))
      refine own_via (fun t k => XS.iload X84.here hx rfl (hb hby at_216) rfl k) ?_
      show own_G p e below _ (T84.setTop (mkF m 218 #[.val (.long q0), .second, .val (.int p1), .val (.int p2), .val (.int p3), .val (.ref b1), .val (.int (1 : Int32)), .val (.int vg80), .val (.int (1 : Int32)), .val (.int (1 : Int32)), .val (.ref w1), .unset] [(.int vg80), (.ref b1)]))
      obtain ⟨T85, X85, e85, st85⟩ := own_callP (y := (⟨"com/example/bowerbird/bowerbird/Encoding", "detect", "([BI)Lcom/example/bowerbird/bowerbird/Encoding;"⟩ : MethodName)) (W := 0) X84 hx hZ hown (hw _ (List.mem_of_getElem? (i := 5) rfl)) (hw _ (List.mem_of_getElem? (i := 6) rfl)) (hw _ (List.mem_of_getElem? (i := 3) rfl)) (hw _ (List.mem_of_getElem? (i := 7) rfl)) (by decide) (own_detB l Z a0 hw [] b1 vg80 k1 ((vg59.toInt8.toInt32).toInt8.toInt32) ((((vg59.toUInt32 >>> ((8 : Int32) &&& 31).toUInt32).toInt32).toInt8.toInt32).toInt8.toInt32) ((((vg59.toUInt32 >>> ((16 : Int32) &&& 31).toUInt32).toInt32).toInt8.toInt32).toInt8.toInt32) ((((vg59.toUInt32 >>> ((24 : Int32) &&& 31).toUInt32).toInt32).toInt8.toInt32).toInt8.toInt32) (((((q0.toUInt64 >>> ((32 : Int32) &&& 0x3f).toInt64.toUInt64).toInt64).toInt32).toInt8.toInt32).toInt8.toInt32) (((((q0.toUInt64 >>> ((40 : Int32) &&& 0x3f).toInt64.toUInt64).toInt64).toInt32).toInt8.toInt32).toInt8.toInt32) (((((q0.toUInt64 >>> ((48 : Int32) &&& 0x3f).toInt64.toUInt64).toInt64).toInt32).toInt8.toInt32).toInt8.toInt32) (((((q0.toUInt64 >>> ((56 : Int32) &&& 0x3f).toInt64.toUInt64).toInt64).toInt32).toInt8.toInt32).toInt8.toInt32) w1 w2 h75 f78 f76 f77 hc81 (own_zero3 hvg59)) (by decide) (by decide) rfl rfl (by decide) (by decide) e84 (pc := 218) (Ls := #[.val (.long q0), .second, .val (.int p1), .val (.int p2), .val (.int p3), .val (.ref b1), .val (.int (1 : Int32)), .val (.int vg80), .val (.int (1 : Int32)), .val (.int (1 : Int32)), .val (.ref w1), .unset]) (st := [(.int vg80), (.ref b1)]) (argsL := [(.ref b1), (.int vg80)]) (rest := []) (by rw [hml]; rfl) (lenOf own_pd0 rfl) rfl rfl (Nat.le_of_eq rfl) (hb hby at_218)
      refine own_via st85 ?_
      show own_G p e below _ (T85.setTop (mkF m 221 #[.val (.long q0), .second, .val (.int p1), .val (.int p2), .val (.int p3), .val (.ref b1), .val (.int (1 : Int32)), .val (.int vg80), .val (.int (1 : Int32)), .val (.int (1 : Int32)), .val (.ref w1), .unset] [(.ref w1)]))
      refine own_via (fun t k => XS.astore X85.here hx rfl (hb hby at_221) rfl rfl (l' := #[.val (.long q0), .second, .val (.int p1), .val (.int p2), .val (.int p3), .val (.ref b1), .val (.int (1 : Int32)), .val (.int vg80), .val (.int (1 : Int32)), .val (.int (1 : Int32)), .val (.ref w1), .val (.ref w1)]) rfl k) ?_
      show own_G p e below _ (T85.setTop (mkF m 223 #[.val (.long q0), .second, .val (.int p1), .val (.int p2), .val (.int p3), .val (.ref b1), .val (.int (1 : Int32)), .val (.int vg80), .val (.int (1 : Int32)), .val (.int (1 : Int32)), .val (.ref w1), .val (.ref w1)] []))
      refine own_via (fun t k => XS.aload X85.here hx rfl (hb hby at_223) rfl rfl k) ?_
      show own_G p e below _ (T85.setTop (mkF m 225 #[.val (.long q0), .second, .val (.int p1), .val (.int p2), .val (.int p3), .val (.ref b1), .val (.int (1 : Int32)), .val (.int vg80), .val (.int (1 : Int32)), .val (.int (1 : Int32)), .val (.ref w1), .val (.ref w1)] [(.ref w1)]))
      refine own_via (fun t k => XS.aload X85.here hx rfl (hb hby at_225) rfl rfl k) ?_
      show own_G p e below _ (T85.setTop (mkF m 227 #[.val (.long q0), .second, .val (.int p1), .val (.int p2), .val (.int p3), .val (.ref b1), .val (.int (1 : Int32)), .val (.int vg80), .val (.int (1 : Int32)), .val (.int (1 : Int32)), .val (.ref w1), .val (.ref w1)] [(.ref w1), (.ref w1)]))
      refine own_via (fun t k => Jvm.RoadKit.acmp (g := (mkF m 227 #[.val (.long q0), .second, .val (.int p1), .val (.int p2), .val (.int p3), .val (.ref b1), .val (.int (1 : Int32)), .val (.int vg80), .val (.int (1 : Int32)), .val (.int (1 : Int32)), .val (.ref w1), .val (.ref w1)] [(.ref w1), (.ref w1)])) X85 hx rfl rfl rfl (pc0 := 227) (pc' := 232) (same := true) rfl (hb hby at_227) rfl (decide_eq_true rfl) (by decide) (by decide) k) ?_
      show own_G p e below _ (T85.setTop (mkF m 232 #[.val (.long q0), .second, .val (.int p1), .val (.int p2), .val (.int p3), .val (.ref b1), .val (.int (1 : Int32)), .val (.int vg80), .val (.int (1 : Int32)), .val (.int (1 : Int32)), .val (.ref w1), .val (.ref w1)] []))
      refine own_via (fun t k => XS.iload X85.here hx rfl (hb hby at_232) rfl k) ?_
      show own_G p e below _ (T85.setTop (mkF m 234 #[.val (.long q0), .second, .val (.int p1), .val (.int p2), .val (.int p3), .val (.ref b1), .val (.int (1 : Int32)), .val (.int vg80), .val (.int (1 : Int32)), .val (.int (1 : Int32)), .val (.ref w1), .val (.ref w1)] [(.int (1 : Int32))]))
      refine own_via (fun t k => XS.ifNo X85.here hx rfl (hb hby at_234) rfl ((if0 _ _).trans (feq (by decide : ¬ ((1 : Int32) = (0 : Int32)))).1) k) ?_
      show own_G p e below _ (T85.setTop (mkF m 237 #[.val (.long q0), .second, .val (.int p1), .val (.int p2), .val (.int p3), .val (.ref b1), .val (.int (1 : Int32)), .val (.int vg80), .val (.int (1 : Int32)), .val (.int (1 : Int32)), .val (.ref w1), .val (.ref w1)] []))
      refine own_via (fun t k => XS.iload X85.here hx rfl (hb hby at_237) rfl k) ?_
      show own_G p e below _ (T85.setTop (mkF m 239 #[.val (.long q0), .second, .val (.int p1), .val (.int p2), .val (.int p3), .val (.ref b1), .val (.int (1 : Int32)), .val (.int vg80), .val (.int (1 : Int32)), .val (.int (1 : Int32)), .val (.ref w1), .val (.ref w1)] [(.int (1 : Int32))]))
      refine own_via (fun t k => XS.ifNo X85.here hx rfl (hb hby at_239) rfl ((if0 _ _).trans (feq (by decide : ¬ ((1 : Int32) = (0 : Int32)))).1) k) ?_
      show own_G p e below _ (T85.setTop (mkF m 242 #[.val (.long q0), .second, .val (.int p1), .val (.int p2), .val (.int p3), .val (.ref b1), .val (.int (1 : Int32)), .val (.int vg80), .val (.int (1 : Int32)), .val (.int (1 : Int32)), .val (.ref w1), .val (.ref w1)] []))
      refine own_via (fun t k => XS.aload X85.here hx rfl (hb hby at_242) rfl rfl k) ?_
      show own_G p e below _ (T85.setTop (mkF m 244 #[.val (.long q0), .second, .val (.int p1), .val (.int p2), .val (.int p3), .val (.ref b1), .val (.int (1 : Int32)), .val (.int vg80), .val (.int (1 : Int32)), .val (.int (1 : Int32)), .val (.ref w1), .val (.ref w1)] [(.ref w1)]))
      obtain ⟨T86, X86, e86, st86⟩ := getS2 X85 hx hZ hown (host := "") (Or.inl (hw _ (List.mem_of_getElem? (i := 10) rfl))) Via.refl e85 f76 (g := (mkF m 244 #[.val (.long q0), .second, .val (.int p1), .val (.int p2), .val (.int p3), .val (.ref b1), .val (.int (1 : Int32)), .val (.int vg80), .val (.int (1 : Int32)), .val (.int (1 : Int32)), .val (.ref w1), .val (.ref w1)] [(.ref w1)])) rfl (hb hby at_244)
      refine own_via st86 ?_
      show own_G p e below _ (T86.setTop (mkF m 247 #[.val (.long q0), .second, .val (.int p1), .val (.int p2), .val (.int p3), .val (.ref b1), .val (.int (1 : Int32)), .val (.int vg80), .val (.int (1 : Int32)), .val (.int (1 : Int32)), .val (.ref w1), .val (.ref w1)] [(.ref w1), (.ref w1)]))
      refine own_via (fun t k => Jvm.RoadKit.acmp (g := (mkF m 247 #[.val (.long q0), .second, .val (.int p1), .val (.int p2), .val (.int p3), .val (.ref b1), .val (.int (1 : Int32)), .val (.int vg80), .val (.int (1 : Int32)), .val (.int (1 : Int32)), .val (.ref w1), .val (.ref w1)] [(.ref w1), (.ref w1)])) X86 hx rfl rfl rfl (pc0 := 247) (pc' := 252) (same := true) rfl (hb hby at_247) rfl (decide_eq_true rfl) (by decide) (by decide) k) ?_
      show own_G p e below _ (T86.setTop (mkF m 252 #[.val (.long q0), .second, .val (.int p1), .val (.int p2), .val (.int p3), .val (.ref b1), .val (.int (1 : Int32)), .val (.int vg80), .val (.int (1 : Int32)), .val (.int (1 : Int32)), .val (.ref w1), .val (.ref w1)] []))
      refine own_via (fun t k => XS.iconst X86.here hx rfl (hb hby at_252) k) ?_
      show own_G p e below _ (T86.setTop (mkF m 253 #[.val (.long q0), .second, .val (.int p1), .val (.int p2), .val (.int p3), .val (.ref b1), .val (.int (1 : Int32)), .val (.int vg80), .val (.int (1 : Int32)), .val (.int (1 : Int32)), .val (.ref w1), .val (.ref w1)] [(.int (1 : Int32))]))
      exact own_retN (t := .boolean) X86 hx Bd.returns (by simp) Bd.notSynchronized (hb hby at_253) ⟨N75, rfl⟩ (by decide) (by decide)
set_option maxRecDepth 65536 in
set_option maxHeartbeats 40000000 in
theorem comes_1 {Post : Tables → Env → Array Value → State → Outcome → State → Prop} (hpost : ∀ tb e args s v u, (limb_1_1.after args s (.returned v) u = true ∧ limb_1_2.after args s (.returned v) u = true) → FrameEnd s (.returned v) u (Jvm.fieldLocs frame_1_writes args s ++ Jvm.arrayLocs frame_1_arrays args s ++ Jvm.staticLocs frame_1_statics s) 16 128 → Post tb e args s (.returned v) u) :
    ArmFor flags0 classFile x code maxLocals ret World_1 tables_1 room_1 Calls_1 rest_1 Pre_1 Post := by
  intro l hfl _ _ p e ha hc hk s m args below hf hA hF happ hP
  obtain ⟨hcalls, hrest, hpre⟩ := hP
  obtain ⟨-, -, -, hnamed, -, -, -, hat⟩ := (Spec.applies_iff hf).mp happ
  obtain ⟨hg, hn⟩ := and_e (Cond.before_iff.mp (show (Jvm.Cond.and given_1 narrow_1).before args s = true from hpre))
  obtain ⟨g1, g2⟩ := and_e hg
  obtain ⟨g3, g4⟩ := and_e g2
  obtain ⟨g5, g6⟩ := and_e g4
  obtain ⟨g7, g8⟩ := and_e g6
  obtain ⟨w0, w1, w2, w3, rfl⟩ : ∃ w0 w1 w2 w3 : Value, args = #[w0, w1, w2, w3] := by
    have hs : args.size = 4 := by simpa [Cond.value, given_1] using g1
    obtain ⟨L⟩ := args
    match L, hs with
    | [w0, w1, w2, w3], _ => exact ⟨w0, w1, w2, w3, rfl⟩
  have hw := fun d (hd : d ∈ tables_1) => atoms_spec (ws := Jvm.Cond.code x code maxLocals ret :: tables_1) hat d (List.mem_cons_of_mem _ hd)
  obtain ⟨i0, ei0⟩ := isL_v g3
  obtain rfl : w0 = (.long i0) := Option.some.inj ei0
  obtain ⟨i1, ei1⟩ := is_v g5
  obtain rfl : w1 = (.int i1) := Option.some.inj ei1
  obtain ⟨i2, ei2⟩ := is_v g7
  obtain rfl : w2 = (.int i2) := Option.some.inj ei2
  obtain ⟨i3, ei3⟩ := is_v g8
  obtain rfl : w3 = (.int i3) := Option.some.inj ei3
  obtain ⟨hn1, hn2⟩ := and_e hn
  obtain ⟨x2, ev2⟩ := exa_v hn1
  obtain ⟨x1, ev1⟩ := exa_v hn2
  have S2 := Sta.start ev2 (Or.inr ⟨(hw _ (List.mem_of_getElem? (i := 3) rfl)), (hw _ (List.mem_of_getElem? (i := 4) rfl))⟩)
  have S1 := Sta.start ev1 (Or.inr ⟨(hw _ (List.mem_of_getElem? (i := 3) rfl)), (hw _ (List.mem_of_getElem? (i := 11) rfl))⟩)
  obtain ⟨n, o, h1, h2, h3, _, L, rfl, ⟨N, rfl⟩, hq⟩ := own_rm0 l s _ hw tables_1 i0 i1 i2 i3 x1 x2 s.heap s.heap.size (Nat.le_refl _) S1 S2 p e ha hc hk s m _ below hf ((Spec.applies_iff_loose hf).mp happ).1 ⟨rfl, State.Warmed39.refl s, rfl⟩ trivial
  refine ⟨n, _, h1, h2, h3, hpost _ _ _ _ _ _ ⟨Cond.after_iff.mpr rfl, Cond.after_iff.mpr (eq_i res_at (Term.int_eval (1)) rfl)⟩ ⟨hq.1, hq.2.1, (hq.2.2.sift fun y hy => Or.inr (N y hy)).mono (by decide) (by decide)⟩⟩
theorem main_1_1 : Claimed_1_1 := comes_1 fun _ _ _ _ _ _ h hF => ⟨h.1, hF⟩
theorem main_1_2 : Claimed_1_2 := comes_1 fun _ _ _ _ _ _ h hF => ⟨h.2, hF⟩
end Jvm.Pilot.@@N@@
namespace Jvm.Pilot.@@N@@
open Jvm Jvm.ClassFile Sem Op Lib Jvm.Free Jvm.Stand Jvm.Pilot.@@N@@.Jvm.D
/-! MADE BY PROGRAM (witnessworld.py) out of the Statement's table words and the real class files: 12 classes; the members and pool entries that the words name. The judged class is class 1, her method 1. -/
namespace start1
open Jvm.ClassFile
def u (s : String) : CpInfo := .utf8 (stringToUtf16 s)
/-- a pool by its gaps: so many unusable entries, then the entry; so many at the end -/
def gap : Nat → List CpInfo → List CpInfo
  | 0, r => r
  | n + 1, r => .unusable :: gap n r
def poolList (es : List (Nat × CpInfo)) (last : Nat) : List CpInfo := es.foldr (fun e r => gap e.1 (e.2 :: r)) (gap last [])
def pool (es : List (Nat × CpInfo)) (last : Nat) : Array CpInfo := ⟨poolList es last⟩
def fileOf (pool : Array CpInfo) (this : Nat) (attrs : Array Attribute := #[]) (ms : Array MethodInfo := #[]) (fl : Nat := 33) (sup : Nat := 0) (ifs : Array Nat := #[]) (fds : Array FieldInfo := #[]) : ClassFile where
  minorVersion := 0
  majorVersion := 65
  constantPool := pool
  accessFlags := fl
  thisClass := this
  superClass := sup
  interfaces := ifs
  fields := fds
  methods := ms
  attributes := attrs
def plain (name : String) (sup : Option ClassId) : Class where
  name := name
  kind := .ordinary
  loader := none
  accessFlags := 33
  super := sup
  interfaces := #[]
  cf := none
  fields := #[]
  methods := #[]
  instanceTypes := #[]
  staticTypes := #[]
  resolved := #[]
  callSites := []
  init := .initialized
  statics := none
  mirror := none

def pool0 : Array CpInfo := pool [(5, u "<init>"), (0, u "()V"), (1, .class_ 10), (1, u "java/lang/Object")] 113

def k0m0 : Method := { name := "<init>", desc := "()V", sig := { parameters := [], returnType := none }, accessFlags := 1, code := none }
/-- java/lang/Object -/
def k0 : Class := { plain "java/lang/Object" none with
  accessFlags := 33
  interfaces := #[]
  cf := some (fileOf pool0 8 #[] #[{ accessFlags := 1, nameIndex := 5, descriptorIndex := 6, attributes := #[] }] 33 0 #[] #[])
  fields := #[]
  methods := #[k0m0]
  instanceTypes := #[]
  staticTypes := #[]
  resolved := Array.replicate 124 none
  statics := none }

def pool1 : Array CpInfo := pool [(2, .class_ 4), (1, u "java/lang/Object"), (0, u "<init>"), (0, u "()V"), (0, .integer 16777215), (0, .integer 2147483647), (0, .fieldref 10 11), (0, .class_ 12), (0, .nameAndType 13 14), (0, u "com/example/bowerbird/bowerbird/Encoding"), (0, u "BSON"), (0, u "Lcom/example/bowerbird/bowerbird/Encoding;"), (0, .fieldref 10 16), (0, .nameAndType 17 14), (0, u "JSON"), (0, .methodref 10 19), (0, .nameAndType 20 21), (0, u "detect"), (0, u "([BI)Lcom/example/bowerbird/bowerbird/Encoding;"), (0, .class_ 23), (0, u "com/example/bowerbird/bowerbird/EncodingDetectPinLaw"), (2, u "law"), (0, u "(JIII)Z")] 5

def k1m0 : Method := { name := "<init>", desc := "()V", sig := { parameters := [], returnType := none }, accessFlags := 1, code := none }
def k1c1 : Code := { maxStack := 5, maxLocals := 12, code := code, exceptionTable := #[], attributes := #[] }
def k1m1 : Method := { name := "law", desc := "(JIII)Z", sig := { parameters := [.long, .int, .int, .int], returnType := some .boolean }, accessFlags := 9, code := some k1c1 }
/-- com/example/bowerbird/bowerbird/EncodingDetectPinLaw -/
def k1 : Class := { plain "com/example/bowerbird/bowerbird/EncodingDetectPinLaw" (some 0) with
  accessFlags := 49
  interfaces := #[]
  cf := some (fileOf pool1 22 #[] #[{ accessFlags := 1, nameIndex := 5, descriptorIndex := 6, attributes := #[] }, { accessFlags := 9, nameIndex := 26, descriptorIndex := 27, attributes := #[] }] 49 2 #[] #[])
  fields := #[]
  methods := #[k1m0, k1m1]
  instanceTypes := #[]
  staticTypes := #[]
  resolved := Array.replicate 33 none
  statics := none }

def pool2 : Array CpInfo := pool [(1, .class_ 2), (0, u "java/lang/constant/Constable"), (0, .class_ 4), (0, u "java/lang/Object")] 6

/-- java/lang/constant/Constable -/
def k2 : Class := { plain "java/lang/constant/Constable" (some 0) with
  accessFlags := 1537
  interfaces := #[]
  cf := some (fileOf pool2 1 #[] #[] 1537 3 #[] #[])
  fields := #[]
  methods := #[]
  instanceTypes := #[]
  staticTypes := #[]
  resolved := Array.replicate 11 none
  statics := none }

def pool3 : Array CpInfo := pool [(1, .class_ 2), (0, u "java/lang/Comparable"), (0, .class_ 4), (0, u "java/lang/Object")] 7

/-- java/lang/Comparable -/
def k3 : Class := { plain "java/lang/Comparable" (some 0) with
  accessFlags := 1537
  interfaces := #[]
  cf := some (fileOf pool3 1 #[] #[] 1537 3 #[] #[])
  fields := #[]
  methods := #[]
  instanceTypes := #[]
  staticTypes := #[]
  resolved := Array.replicate 12 none
  statics := none }

def pool4 : Array CpInfo := pool [(1, .class_ 2), (0, u "java/io/Serializable"), (0, .class_ 4), (0, u "java/lang/Object")] 2

/-- java/io/Serializable -/
def k4 : Class := { plain "java/io/Serializable" (some 0) with
  accessFlags := 1537
  interfaces := #[]
  cf := some (fileOf pool4 1 #[] #[] 1537 3 #[] #[])
  fields := #[]
  methods := #[]
  instanceTypes := #[]
  staticTypes := #[]
  resolved := Array.replicate 7 none
  statics := none }

def pool5 : Array CpInfo := pool [(2, .class_ 4), (1, u "java/lang/Enum"), (0, u "name"), (0, u "Ljava/lang/String;"), (2, u "ordinal"), (0, u "I"), (1, .class_ 14), (1, u "java/lang/Object"), (4, u "hash"), (86, .class_ 108), (1, u "java/lang/Enum$EnumDesc"), (2, .class_ 112), (0, u "java/lang/constant/Constable"), (0, .class_ 114), (0, u "java/lang/Comparable"), (0, .class_ 116), (0, u "java/io/Serializable")] 87

/-- java/lang/Enum -/
def k5 : Class := { plain "java/lang/Enum" (some 0) with
  accessFlags := 1057
  interfaces := #[2, 3, 4]
  cf := some (fileOf pool5 2 #[.nestMembers #[106]] #[] 1057 12 #[111, 113, 115] #[{ accessFlags := 18, nameIndex := 5, descriptorIndex := 6, attributes := #[] }, { accessFlags := 18, nameIndex := 9, descriptorIndex := 10, attributes := #[] }, { accessFlags := 2, nameIndex := 19, descriptorIndex := 10, attributes := #[] }])
  fields := #[{ name := "name", type := (.object "java/lang/String"), accessFlags := 18, slot := 0, constantValue := 0 }, { name := "ordinal", type := .int, accessFlags := 18, slot := 1, constantValue := 0 }, { name := "hash", type := .int, accessFlags := 2, slot := 2, constantValue := 0 }]
  methods := #[]
  instanceTypes := #[(.object "java/lang/String"), .int, .int]
  staticTypes := #[]
  resolved := Array.replicate 204 none
  statics := none }

def pool6 : Array CpInfo := pool [(1, .class_ 2), (0, u "com/example/bowerbird/bowerbird/Encoding"), (0, .fieldref 1 4), (0, .nameAndType 5 6), (0, u "JSON"), (0, u "Lcom/example/bowerbird/bowerbird/Encoding;"), (0, .fieldref 1 8), (0, .nameAndType 9 6), (0, u "BSON"), (2, u "$VALUES"), (0, u "[Lcom/example/bowerbird/bowerbird/Encoding;"), (6, .class_ 22), (1, u "java/lang/Enum"), (36, u "HEAD_LENGTH"), (0, u "I"), (10, u "detect"), (0, u "([BI)Lcom/example/bowerbird/bowerbird/Encoding;")] 4

def k6c0 : Code := { maxStack := 2, maxLocals := 2, code := prog_11_method_5_code, exceptionTable := #[], attributes := #[] }
def k6m0 : Method := { name := "detect", desc := "([BI)Lcom/example/bowerbird/bowerbird/Encoding;", sig := { parameters := [(.array .byte), .int], returnType := some (.object "com/example/bowerbird/bowerbird/Encoding") }, accessFlags := 8, code := some k6c0 }
/-- com/example/bowerbird/bowerbird/Encoding -/
def k6 : Class := { plain "com/example/bowerbird/bowerbird/Encoding" (some 5) with
  accessFlags := 16432
  interfaces := #[]
  cf := some (fileOf pool6 1 #[] #[{ accessFlags := 8, nameIndex := 71, descriptorIndex := 72, attributes := #[] }] 16432 20 #[] #[{ accessFlags := 16409, nameIndex := 5, descriptorIndex := 6, attributes := #[] }, { accessFlags := 16409, nameIndex := 9, descriptorIndex := 6, attributes := #[] }, { accessFlags := 24, nameIndex := 59, descriptorIndex := 60, attributes := #[] }, { accessFlags := 4122, nameIndex := 12, descriptorIndex := 13, attributes := #[] }])
  fields := #[{ name := "JSON", type := (.object "com/example/bowerbird/bowerbird/Encoding"), accessFlags := 16409, slot := 0, constantValue := 0 }, { name := "BSON", type := (.object "com/example/bowerbird/bowerbird/Encoding"), accessFlags := 16409, slot := 1, constantValue := 0 }, { name := "HEAD_LENGTH", type := .int, accessFlags := 24, slot := 2, constantValue := 0 }, { name := "$VALUES", type := (.array (.object "com/example/bowerbird/bowerbird/Encoding")), accessFlags := 4122, slot := 3, constantValue := 0 }]
  methods := #[k6m0]
  instanceTypes := #[(.object "java/lang/String"), .int, .int]
  staticTypes := #[(.object "com/example/bowerbird/bowerbird/Encoding"), (.object "com/example/bowerbird/bowerbird/Encoding"), .int, (.array (.object "com/example/bowerbird/bowerbird/Encoding"))]
  resolved := Array.replicate 77 none
  statics := some 0 }

def pool7 : Array CpInfo := pool [(1, u "java/lang/Cloneable"), (0, .class_ 1), (0, u "java/lang/Object"), (0, .class_ 3)] 3

/-- java/lang/Cloneable -/
def k7 : Class := { plain "java/lang/Cloneable" (some 0) with
  accessFlags := 1537
  interfaces := #[]
  cf := some (fileOf pool7 2 #[] #[] 1537 4 #[] #[])
  fields := #[]
  methods := #[]
  instanceTypes := #[]
  staticTypes := #[]
  resolved := Array.replicate 8 none
  statics := none }

/-- the primitive byte -/
def k8 : Class := { plain "byte" none with kind := .primitive 'B', accessFlags := 0x411 }
/-- [B -/
def k9 : Class := { plain "[B" (some 0) with kind := .array 8 .byte, interfaces := #[7, 4], accessFlags := 1041 }

/-- the primitive int -/
def k10 : Class := { plain "int" none with kind := .primitive 'I', accessFlags := 0x411 }
/-- [I -/
def k11 : Class := { plain "[I" (some 0) with kind := .array 10 .int, interfaces := #[7, 4], accessFlags := 1041 }

def heap : Heap := #[{ cls := 6, slots := #[.ref 1, .ref 2, .int 0, .null], vm := .statics 6 },
  { cls := 6, slots := #[.null, .int 0, .int 0], vm := .none },
  { cls := 6, slots := #[.null, .int 1, .int 0], vm := .none }]
def classes : Array Class := #[k0, k1, k2, k3, k4, k5, k6, k7, k8, k9, k10, k11]
def interned : List (Array UInt16 × Addr) := []
def slotsUsed : Nat := 10
def theMethod : MethodId := ⟨1, 1⟩
def args0 : Array Value := #[.long 5, .int 300, .int 7, .int 2]
def aboutOver (below : List Frame) : State where
  vm := { classes := classes, interned := interned.toArray }
  heap := heap
  slotsUsed := slotsUsed
  threads := #[{ frames := .invoking theMethod args0 :: below }]
def below0 : List Frame := [.native { method := ⟨0, 0⟩, args := #[] }]
def about1 : State := aboutOver below0
def p0 : Program := .bare "" "" ""
def e0 : Env := launch0.env 0 0 0
theorem w_frames : about1.frames = Frame.invoking theMethod args0 :: below0 := rfl
set_option maxRecDepth 65536 in
theorem w_args : argsFit about1.vm theMethod args0 = true := by decide +kernel
set_option maxRecDepth 65536 in
theorem w_heap : heapFits about1 = true := by decide +kernel
set_option maxRecDepth 65536 in
theorem w_runnable : about1.curStatus? = some .runnable := by decide +kernel
set_option maxRecDepth 65536 in
theorem w_alone : about1.alone = true := by decide +kernel
set_option maxRecDepth 65536 in
theorem w_named : about1.methodNamed? x = some theMethod := by decide +kernel
set_option maxRecDepth 65536 in
theorem w_hears : about1.hears theMethod below0 = true := by decide +kernel
set_option maxRecDepth 65536 in
theorem w_ripe : about1.ripe theMethod args0 below0 = true := by decide +kernel
theorem w_running : about1.status = .running := rfl
set_option maxRecDepth 65536 in
theorem w_room : about1.hasRoom e0.platform room_1 = true :=
  launch0.hasRoom_least _ room_1 (by decide +kernel) (by decide +kernel) (by decide +kernel) (by decide +kernel) (by decide +kernel) (by decide +kernel)
theorem allAtoms_all (ts : List Jvm.Cond) (a : Array Jvm.Value) (st : Jvm.State) : (allAtoms ts).before a st = ts.all (fun c => c.before a st) := by
  induction ts with
  | nil => rfl
  | cons c t ih =>
    show (Jvm.Cond.and c (allAtoms t)).before a st = _
    rw [Jvm.Cond.before_and, ih, List.all_cons]
def words1 : List Jvm.Cond := Jvm.Cond.code x code maxLocals ret :: tables_1
/-- a 'code' word, met by the world's own term for the bytes: nothing is compared byte by byte -/
theorem code_word {y : MethodName} {bytes : ByteArray} {mx : Nat} {rt : Option FieldType} {a : Array Value} {s : State} {m : MethodId} {meth : Method} {c : Code} (h1 : s.methodNamed? y = some m) (h2 : s.vm.method? m = some meth) (h3 : meth.code = some c) (h4 : c.code = bytes)
    (h5 : (c.maxLocals == mx && c.exceptionTable.isEmpty && decide (c.maxStack ≤ mostOperands) && decide (meth.sig.returnType = rt) && !meth.locks && decide (parseMethodDescriptor y.desc = some meth.sig)) = true) : (Jvm.Cond.code y bytes mx rt).before a s = true := by
  simp only [Bool.and_eq_true, beq_iff_eq, Bool.not_eq_true', decide_eq_true_eq] at h5
  obtain ⟨⟨⟨⟨⟨g1, g2⟩, g3⟩, g4⟩, g5⟩, g6⟩ := h5
  simp [Cond.before, Cond.holds, Cond.value, h1, h2, h3, h4, g1, g2, g3, g4, g5, g6]
def isCode : Jvm.Cond → Bool
  | .code _ _ _ _ => true
  | _ => false
theorem all_split {L : List Jvm.Cond} {P : Jvm.Cond → Bool} (h1 : L.all (fun c => isCode c || P c) = true) (h2 : ∀ c ∈ L.filter isCode, P c = true) : L.all P = true := by
  refine List.all_eq_true.mpr fun c hc => ?_
  have h := List.all_eq_true.mp h1 c hc
  rcases Bool.eq_false_or_eq_true (isCode c) with hi | hi
  · exact h2 c (List.mem_filter.mpr ⟨hc, hi⟩)
  · simpa [hi] using h
set_option maxRecDepth 65536 in
theorem w_c0 : (Jvm.Cond.code x code maxLocals ret).before args0 about1 = true := code_word (m := ⟨1, 1⟩) (meth := k1m1) (c := k1c1) (by decide +kernel) rfl rfl rfl (by decide +kernel)
set_option maxRecDepth 65536 in
theorem w_c1 : (Jvm.Cond.code ({ cls := "com/example/bowerbird/bowerbird/Encoding", name := "detect", desc := "([BI)Lcom/example/bowerbird/bowerbird/Encoding;" } : Jvm.MethodName) prog_11_method_5_code (2 : Nat) (Option.some (Jvm.ClassFile.FieldType.object "com/example/bowerbird/bowerbird/Encoding"))).before args0 about1 = true := code_word (m := ⟨6, 0⟩) (meth := k6m0) (c := k6c0) (by decide +kernel) rfl rfl rfl (by decide +kernel)
def codes1 : List Jvm.Cond := [Jvm.Cond.code x code maxLocals ret, Jvm.Cond.code ({ cls := "com/example/bowerbird/bowerbird/Encoding", name := "detect", desc := "([BI)Lcom/example/bowerbird/bowerbird/Encoding;" } : Jvm.MethodName) prog_11_method_5_code (2 : Nat) (Option.some (Jvm.ClassFile.FieldType.object "com/example/bowerbird/bowerbird/Encoding"))]
set_option maxRecDepth 65536 in
theorem codes_eq : words1.filter isCode = codes1 := rfl
theorem w_codes : ∀ c ∈ words1.filter isCode, c.before args0 about1 = true := by
  rw [codes_eq]
  intro c hc
  simp only [codes1, List.mem_cons, List.not_mem_nil, or_false] at hc
  rcases hc with rfl | rfl
  · exact w_c0
  · exact w_c1
set_option maxRecDepth 65536 in
theorem w_t1 : words1.all (fun c => isCode c || c.before args0 about1) = true := by decide +kernel
theorem w_tables : (allAtoms (Jvm.Cond.code x code maxLocals ret :: tables_1)).before args0 about1 = true := by
  rw [allAtoms_all]
  show words1.all (fun c => c.before args0 about1) = true
  refine all_split ?_ w_codes
  rw [w_t1]
set_option maxRecDepth 65536 in
theorem w_case : (Jvm.Cond.and given_1 narrow_1).before args0 about1 = true := by decide +kernel
theorem w_applies : (headSpec (Jvm.Cond.code x code maxLocals ret :: tables_1) room_1).applies x e0.platform about1 = true :=
  (Spec.applies_iff w_frames).mpr ⟨w_running, w_runnable, w_alone, w_named, w_hears, w_ripe, w_room, w_tables⟩
theorem atStart : AtStart classFile x code maxLocals ret World_1 tables_1 room_1 Calls_1 rest_1 Pre_1 launch0 p0 e0 about1 theMethod args0 below0 :=
  ⟨lists_1, trivial, launch0.admits_env _ _ _, launch0.least_env, fairChoices_fair.cas, fairChoices_fair.clock, w_frames, w_args, w_heap, w_applies, trivial, trivial, w_case⟩
end start1
theorem witness_1 : WitnessClaimed_1 := ⟨start1.p0, start1.e0, start1.about1, start1.theMethod, start1.args0, start1.below0, start1.atStart⟩
end Jvm.Pilot.@@N@@
