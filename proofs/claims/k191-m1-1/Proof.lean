import JvmDerived
import JvmDerived.Pilot.@@N@@Statement
import JvmDerived.Pilot.@@N@@Code
set_option linter.unusedVariables false
set_option linter.unusedSimpArgs false
set_option maxRecDepth 65536
set_option maxHeartbeats 20000000
namespace Jvm.Pilot.@@N@@
open Jvm Jvm.ClassFile Sem Op Lib Jvm.Free Jvm.Stand Jvm.LawKit Jvm.RoadKit Bundle Jvm.Pilot.@@N@@.Jvm.D
section OwnKit
variable {p : Program} {l : Launch} {e : Env} {R : Room} {s : State} {m : MethodId} {args : Array Value} {below : List Frame} {meth : Method} {c : Code} {T : State} {locs : List Loc} {cells slots : Nat} {Z : State} {a0 : Array Value} {h0 : Heap}
/-- from this state the run comes to the end of the invocation, and there P holds -/
def own_G (p : Program) (e : Env) (below : List Frame) (P : Outcome → State → Prop) (st : State) : Prop :=
  ∃ (u : State) (o : Outcome), Steps p.tables e below st u ∧ u.status = .running ∧ Ended u below o ∧ P o u
theorem own_via {P : Outcome → State → Prop} {st st' : State} (k : ∀ t, Steps p.tables e below st' t → Steps p.tables e below st t) (h : own_G p e below P st') : own_G p e below P st := by
  obtain ⟨u, o, h1, h2⟩ := h
  exact ⟨u, o, k _ h1, h2⟩
/-- what a contract says of the end -/
def own_P (s : State) (Q : Option Value → Heap → List Loc → Prop) (k n : Nat) : Outcome → State → Prop := fun o u => ∃ v L, o = .returned v ∧ Q v u.heap L ∧ FrameEnd s o u L k n
/-- it returns w and leaves the heap as it was -/
def own_Q (w : Value) (h0 : Heap) : Option Value → Heap → List Loc → Prop := fun v h L => v = some w ∧ L = [] ∧ h = h0
/-- a contract -/
def own_C (l : Launch) (Z : State) (y : MethodName) (bytes : ByteArray) (maxL : Nat) (ret : Option FieldType) (ws : List Jvm.Cond) (rm : Room) (as : Array Value) (h0 : Heap) (Q : Option Value → Heap → List Loc → Prop) : Prop :=
  MetFree l y (head1 (Jvm.Cond.code y bytes maxL ret :: ws) rm) (fun a U => a = as ∧ Z.Warmed39 U.vm ∧ U.heap = h0) (fun _ _ _ _ _ => True) (fun _ U o U' => ∃ v L, o = .returned v ∧ Q v U'.heap L ∧ FrameEnd U o U' L rm.cells rm.slots)
theorem own_ret {v : Option Value} {Q : Option Value → Heap → List Loc → Prop} {k n : Nat} {st : State} (X : Stand p l e R s m args below meth c T locs cells slots) (hv : meth.sig.returnType = none → v = none) (hlocks : meth.locks = false)
    (hst : ∀ fs, (∀ (f : JFrame) (acts : List Action), f.method = m → f.locked = none → f.entered = [] → (doReturn e (T.setTop f) acts v).1 = T.setFrames fs) → Steps p.tables e below st (T.setFrames fs))
    (hQ : Q v T.heap locs) (hk : cells ≤ k) (hn : slots ≤ n) : own_G p e below (own_P s Q k n) st := by
  obtain ⟨fs, hr, hrun, hended, hW, hsame⟩ := X.leave (v := v) hv hlocks
  exact ⟨_, _, hst fs hr, hrun, hended, _, _, rfl, hQ, ⟨_, rfl⟩, hW, hsame.mono hk hn⟩
theorem own_retI {Q : Option Value → Heap → List Loc → Prop} {k n : Nat} (X : Stand p l e R s m args below meth c T locs cells slots) (hx : p.tables.exec = Jvm.exec) {pc : Nat} {Ls : Array Slot} {z : Int32} {rest : List Value} (hret : meth.sig.returnType = some .int) (hlocks : meth.locks = false) (hd : decode c.code pc = .ok (.ireturn, 1))
    (hQ : Q (some (.int z)) T.heap locs) (hk : cells ≤ k) (hn : slots ≤ n) : own_G p e below (own_P s Q k n) (T.setTop (mkF m pc Ls (.int z :: rest))) := by
  refine own_ret X (fun h => by rw [hret] at h; cases h) hlocks (fun fs hr => ?_) hQ hk hn
  have hm' : T.vm.method? m = some meth := X.method'
  have hn : narrow .int (.int z) = .int z := rfl
  show Steps p.tables e below (T.setTop { method := m, pc := pc, locals := Ls, stack := _ :: rest, locked := none }) _
  jvm_step X.here [X.here.top, hx, hd, hm', hret, hn]
  first | (intro acts; rw [hr _ acts rfl rfl rfl]) | rw [hr _ _ rfl rfl rfl]
  exact Steps.refl _
theorem own_retN {Q : Option Value → Heap → List Loc → Prop} {k n : Nat} {t : FieldType} (X : Stand p l e R s m args below meth c T locs cells slots) (hx : p.tables.exec = Jvm.exec) {pc : Nat} {Ls : Array Slot} {z : Int32} {rest : List Value} (hret : meth.sig.returnType = some t) (ht : t = .boolean ∨ t = .byte ∨ t = .char ∨ t = .short) (hlocks : meth.locks = false) (hd : decode c.code pc = .ok (.ireturn, 1))
    (hQ : Q (some (.int (nar t z))) T.heap locs) (hk : cells ≤ k) (hn : slots ≤ n) : own_G p e below (own_P s Q k n) (T.setTop (mkF m pc Ls (.int z :: rest))) :=
  own_ret X (fun h => by rw [hret] at h; cases h) hlocks (fun fs hr => retN X hx hret ht hd hr) hQ hk hn
theorem own_retL {Q : Option Value → Heap → List Loc → Prop} {k n : Nat} (X : Stand p l e R s m args below meth c T locs cells slots) (hx : p.tables.exec = Jvm.exec) {pc : Nat} {Ls : Array Slot} {z : Int64} (hret : meth.sig.returnType = some .long) (hlocks : meth.locks = false) (hd : decode c.code pc = .ok (.lreturn, 1))
    (hQ : Q (some (.long z)) T.heap locs) (hk : cells ≤ k) (hn : slots ≤ n) : own_G p e below (own_P s Q k n) (T.setTop (mkF m pc Ls [.long z])) :=
  own_ret X (fun h => by rw [hret] at h; cases h) hlocks (fun fs hr => X.lreturnOut hx hret hd hr) hQ hk hn
theorem own_retV {Q : Option Value → Heap → List Loc → Prop} {k n : Nat} (X : Stand p l e R s m args below meth c T locs cells slots) (hx : p.tables.exec = Jvm.exec) {pc : Nat} {Ls : Array Slot} (hret : meth.sig.returnType = none) (hlocks : meth.locks = false) (hd : decode c.code pc = .ok (.return_, 1))
    (hQ : Q none T.heap locs) (hk : cells ≤ k) (hn : slots ≤ n) : own_G p e below (own_P s Q k n) (T.setTop (mkF m pc Ls [])) :=
  own_ret X (fun _ => rfl) hlocks (fun fs hr => X.returnOut hx hret hd hr) hQ hk hn
theorem own_retA {Q : Option Value → Heap → List Loc → Prop} {k n : Nat} {t : FieldType} {v : Value} (X : Stand p l e R s m args below meth c T locs cells slots) (hx : p.tables.exec = Jvm.exec) {pc : Nat} {Ls : Array Slot} {rest : List Value} (hret : meth.sig.returnType = some t) (ht : t.isReference = true) (hv : v.isRef = true) (hlocks : meth.locks = false) (hd : decode c.code pc = .ok (.areturn, 1))
    (hQ : Q (some v) T.heap locs) (hk : cells ≤ k) (hn : slots ≤ n) : own_G p e below (own_P s Q k n) (T.setTop (mkF m pc Ls (v :: rest))) := by
  refine own_ret X (fun h => by rw [hret] at h; cases h) hlocks (fun fs hr => ?_) hQ hk hn
  have hm' : T.vm.method? m = some meth := X.method'
  show Steps p.tables e below (T.setTop { method := m, pc := pc, locals := Ls, stack := _ :: rest, locked := none }) _
  jvm_step X.here [X.here.top, hx, hd, hm', hret, ht, hv]
  first | (intro acts; rw [hr _ acts rfl rfl rfl]) | rw [hr _ _ rfl rfl rfl]
  exact Steps.refl _
/-- a static method by its contract -/
theorem own_callS {own : String} {index : Nat} {y : MethodName} {bytes : ByteArray} {maxL W : Nat} {ret : Option FieldType} {rm : Room} {as : Array Value} {Q : Option Value → Heap → List Loc → Prop}
    (X : Stand p l e R s m args below meth c T locs cells slots) (hx : p.tables.exec = Jvm.exec) (hZ : Z.Warmed39 s.vm) (hown : s.vm.findClass own = some m.cls)
    (w1 : (Jvm.Cond.methodLink own index y).before a0 Z = true) (w2 : (Jvm.Cond.static y).before a0 Z = true) (w3 : (Jvm.Cond.initialized y.cls).before a0 Z = true) (w4 : (Jvm.Cond.code y bytes maxL ret).before a0 Z = true)
    (hy : y.cls ≠ "java/lang/invoke/MethodHandle" ∧ y.cls ≠ "java/lang/invoke/VarHandle") (hM : own_C l Z y bytes maxL ret [] rm as h0 Q)
    (hf : rm.frames + 1 ≤ R.frames) (hl : W + (maxL + 11) + rm.locals ≤ R.locals) (hcc : cells + rm.cells ≤ R.cells) (hss : slots + rm.slots ≤ R.slots) (e0 : T.heap = h0)
    {pc : Nat} {Ls : Array Slot} {st argsL rest : List Value} (hsize : Ls.size = c.maxLocals) (hlen : ∀ sig, parseMethodDescriptor y.desc = some sig → argsL.length = sig.parameters.length) (has : argsL.toArray = as)
    (hst : st = argsL.reverse ++ rest) (hW : 2 * 0 + (rest.map fun v => v.category).sum ≤ W) (hd : decode c.code pc = .ok (.invokestatic index, 3)) :
    ∃ (v : Option Value) (T' : State) (L : List Loc), Stand p l e R s m args below meth c T' (locs ++ L) (cells + rm.cells) (slots + rm.slots) ∧ Q v T'.heap L ∧
      ∀ target, Steps p.tables e below (T'.setTop (mkF m (pc + 3) Ls (v.toList ++ rest))) target → Steps p.tables e below (T.setTop (mkF m pc Ls st)) target := by
  obtain ⟨v, _, ⟨T', L', k', n'⟩, -, X', ⟨Lc, hQ, h1, h2, h3⟩, stp⟩ := Jvm.LawKit.callS X hx (y := y) hown (mvT hZ w1) (mvT hZ w2) (mvT hZ w3) (mvT hZ w4) hy
    (backOf (W := W) hM hZ w4 w3 hf hl) (g := mkF m pc Ls st) rfl hsize (argsL := argsL) (rest := rest) hlen hst hW hd (fun _ _ => ⟨has, e0, hcc, hss⟩)
  dsimp only [Pt.U, Pt.locs, Pt.cells, Pt.slots] at X' h1 h2 h3 stp hQ
  subst h1 h2 h3
  exact ⟨v, T', Lc, X', hQ, stp⟩
/-- a static method that leaves the heap as it was -/
theorem own_callP {own : String} {index : Nat} {y : MethodName} {bytes : ByteArray} {maxL W : Nat} {ret : Option FieldType} {rm : Room} {as : Array Value} {w : Value}
    (X : Stand p l e R s m args below meth c T locs cells slots) (hx : p.tables.exec = Jvm.exec) (hZ : Z.Warmed39 s.vm) (hown : s.vm.findClass own = some m.cls)
    (w1 : (Jvm.Cond.methodLink own index y).before a0 Z = true) (w2 : (Jvm.Cond.static y).before a0 Z = true) (w3 : (Jvm.Cond.initialized y.cls).before a0 Z = true) (w4 : (Jvm.Cond.code y bytes maxL ret).before a0 Z = true)
    (hy : y.cls ≠ "java/lang/invoke/MethodHandle" ∧ y.cls ≠ "java/lang/invoke/VarHandle") (hM : own_C l Z y bytes maxL ret [] rm as h0 (own_Q w h0))
    (hf : rm.frames + 1 ≤ R.frames) (hl : W + (maxL + 11) + rm.locals ≤ R.locals) (hrc : rm.cells = 0) (hrs : rm.slots = 0) (hcc : cells + rm.cells ≤ R.cells) (hss : slots + rm.slots ≤ R.slots) (e0 : T.heap = h0)
    {pc : Nat} {Ls : Array Slot} {st argsL rest : List Value} (hsize : Ls.size = c.maxLocals) (hlen : ∀ sig, parseMethodDescriptor y.desc = some sig → argsL.length = sig.parameters.length) (has : argsL.toArray = as)
    (hst : st = argsL.reverse ++ rest) (hW : 2 * 0 + (rest.map fun v => v.category).sum ≤ W) (hd : decode c.code pc = .ok (.invokestatic index, 3)) :
    ∃ (T' : State), Stand p l e R s m args below meth c T' locs cells slots ∧ T'.heap = h0 ∧
      ∀ target, Steps p.tables e below (T'.setTop (mkF m (pc + 3) Ls (w :: rest))) target → Steps p.tables e below (T.setTop (mkF m pc Ls st)) target := by
  obtain ⟨v, T', L, X', ⟨rfl, rfl, hh⟩, stp⟩ := own_callS X hx hZ hown w1 w2 w3 w4 hy hM hf hl hcc hss e0 hsize hlen has hst hW hd
  rw [List.append_nil, hrc, hrs] at X'
  exact ⟨T', X', hh, stp⟩
theorem own_b1 {x a : Int32} (h : x < a) : x.toInt ≤ a.toInt - 1 := by rw [Int32.lt_iff_toInt_lt] at h; omega
theorem own_b2 {x a : Int32} (h : ¬ x < a) : a.toInt ≤ x.toInt := by rw [Int32.lt_iff_toInt_lt] at h; omega
theorem own_b3 {x a : Int32} (h : a < x) : a.toInt + 1 ≤ x.toInt := by rw [Int32.lt_iff_toInt_lt] at h; omega
theorem own_b4 {x a : Int32} (h : ¬ a < x) : x.toInt ≤ a.toInt := by rw [Int32.lt_iff_toInt_lt] at h; omega
theorem own_b5 {x b : Int32} {k : Int} (h : x.toInt ≤ k) (q : k < b.toInt) : x < b := by rw [Int32.lt_iff_toInt_lt]; omega
theorem own_b6 {x b : Int32} {k : Int} (h : k ≤ x.toInt) (q : b.toInt ≤ k) : ¬ x < b := by rw [Int32.lt_iff_toInt_lt]; omega
theorem own_b7 {x b : Int32} {k : Int} (h : k ≤ x.toInt) (q : b.toInt < k) : b < x := by rw [Int32.lt_iff_toInt_lt]; omega
theorem own_b8 {x b : Int32} {k : Int} (h : x.toInt ≤ k) (q : k ≤ b.toInt) : ¬ b < x := by rw [Int32.lt_iff_toInt_lt]; omega
theorem own_b9 {x b : Int32} {k : Int} (h : x.toInt ≤ k) (q : k < b.toInt) : ¬ x = b := fun e => by subst e; omega
theorem own_b10 {x b : Int32} {k : Int} (h : k ≤ x.toInt) (q : b.toInt < k) : ¬ x = b := fun e => by subst e; omega
theorem own_q1 {x a b : Int32} (h : x = a) (q : a < b) : x < b := h ▸ q
theorem own_q2 {x a b : Int32} (h : x = a) (q : ¬ a < b) : ¬ x < b := h ▸ q
theorem own_q3 {x a b : Int32} (h : x = a) (q : b < a) : b < x := h ▸ q
theorem own_q4 {x a b : Int32} (h : x = a) (q : ¬ b < a) : ¬ b < x := h ▸ q
theorem own_q5 {x a b : Int32} (h : x = a) (q : a = b) : x = b := h ▸ q
theorem own_q6 {x a b : Int32} (h : x = a) (q : ¬ a = b) : ¬ x = b := h ▸ q
end OwnKit
section OwnHeap
variable {p : Program} {l : Launch} {e : Env} {R : Room} {s : State} {m : MethodId} {args : Array Value} {below : List Frame} {meth : Method} {c : Code} {T : State} {locs : List Loc} {cells slots : Nat} {Z : State} {a0 : Array Value} {h0 h : Heap} {n0 : Nat}
/-- the writes lie at or above n0, and q says the rest -/
def own_W (n0 : Nat) (q : Option Value → Heap → Prop) : Option Value → Heap → List Loc → Prop := fun v h L => Fr n0 L ∧ q v h
theorem own_newA (X : Stand p l e R s m args below meth c T locs cells slots) (hx : p.tables.exec = Jvm.exec) (hZ : Z.Warmed39 s.vm) {aty : ArrayType} (w : (Jvm.Cond.arrayClass (newarray.typeOf aty)).before a0 Z = true) (eT : T.heap = h) {pc : Nat} {Ls : Array Slot} (hd : decode c.code pc = .ok (.newarray aty, 2)) {n : Int32} {rest : List Value}
    (hn : ¬ n < 0) {cap : Nat} (hcap : n.toNatClampNeg ≤ cap) (hb : cap * 8 ≤ 536870912) (hc : cells + 1 ≤ R.cells) (hl : slots + cap ≤ R.slots) (len : Nat) {ad : String} (had : "[" ++ (newarray.typeOf aty).toString = ad) :
    ∃ T' h' k a, Stand p l e R s m args below meth c T' locs (cells + 1) (slots + cap) ∧ T'.heap = h' ∧ Ext h h' ∧ a = h.size ∧ Arv Z h' a k (newarray.typeOf aty) n (List.replicate len (defaultValue (newarray.typeOf aty))) (defaultValue (newarray.typeOf aty)) ∧ Exa Z h' a ad ∧
      ∀ target, Steps p.tables e below (T'.setTop (mkF m (pc + 2) Ls (.ref a :: rest))) target → Steps p.tables e below (T.setTop (mkF m pc Ls (.int n :: rest))) target := by
  obtain ⟨T', h', k, X', e', E, A, Ex, st⟩ := newPE X hx hZ w eT (g := mkF m pc Ls (.int n :: rest)) rfl hd rfl hn hcap hb hc hl had
  exact ⟨T', h', k, h.size, X', e', E, rfl, (Arv.new A hn).pad (fun i => by have := pad_rep [] (defaultValue (newarray.typeOf aty)) len i; rwa [List.nil_append] at this), Ex, st⟩
theorem own_stB (X : Stand p l e R s m args below meth c T locs cells slots) (N : Fr n0 locs) (hx : p.tables.exec = Jvm.exec) (hZ : Z.Warmed39 s.vm) (eT : T.heap = h) {a : Addr} {k : ClassId} {z : Int32} {vs : List Value} {d : Value} (V : Arv Z h a k .byte z vs d) (ga : n0 ≤ a) {j x : Int32} {i : Nat} (hj : ¬ j < 0 ∧ j < z) (hi : j.toNatClampNeg = i) (hl : i < vs.length)
    {pc : Nat} {Ls : Array Slot} {rest : List Value} (hd : decode c.code pc = .ok (.bastore, 1)) :
    ∃ T' h' L', Stand p l e R s m args below meth c T' L' cells slots ∧ Fr n0 L' ∧ T'.heap = h' ∧ Wr h h' a i (.int x.toInt8.toInt32) ∧ Arv Z h' a k .byte z (vs.set i (.int x.toInt8.toInt32)) d ∧
      ∀ target, Steps p.tables e below (T'.setTop (mkF m (pc + 1) Ls rest)) target → Steps p.tables e below (T.setTop (mkF m pc Ls (.int x :: .int j :: .ref a :: rest))) target := by
  obtain ⟨cl, Ar, q, S, Nn, H, G⟩ := V
  obtain ⟨T', h', X', e', W, st⟩ := stB X hx hZ eT Ar (j := j) (x := x) (inb_of S hj) (g := mkF m pc Ls (.int x :: .int j :: .ref a :: rest)) rfl rfl hd
  subst hi
  exact ⟨T', h', _, X', Fr.snoc X' N ga, e', W, Arv.set Ar q S Nn H G (fits_nar_byte x) W _ rfl hl, st⟩
theorem own_stI (X : Stand p l e R s m args below meth c T locs cells slots) (N : Fr n0 locs) (hx : p.tables.exec = Jvm.exec) (hZ : Z.Warmed39 s.vm) (eT : T.heap = h) {a : Addr} {k : ClassId} {z : Int32} {vs : List Value} {d : Value} (V : Arv Z h a k .int z vs d) (ga : n0 ≤ a) {j x : Int32} {i : Nat} (hj : ¬ j < 0 ∧ j < z) (hi : j.toNatClampNeg = i) (hl : i < vs.length)
    {pc : Nat} {Ls : Array Slot} {rest : List Value} (hd : decode c.code pc = .ok (.iastore, 1)) :
    ∃ T' h' L', Stand p l e R s m args below meth c T' L' cells slots ∧ Fr n0 L' ∧ T'.heap = h' ∧ Wr h h' a i (.int x) ∧ Arv Z h' a k .int z (vs.set i (.int x)) d ∧
      ∀ target, Steps p.tables e below (T'.setTop (mkF m (pc + 1) Ls rest)) target → Steps p.tables e below (T.setTop (mkF m pc Ls (.int x :: .int j :: .ref a :: rest))) target := by
  obtain ⟨cl, Ar, q, S, Nn, H, G⟩ := V
  obtain ⟨T', h', X', e', W, st⟩ := stI X hx hZ eT Ar (j := j) (x := x) (inb_of S hj) (g := mkF m pc Ls (.int x :: .int j :: .ref a :: rest)) rfl rfl hd
  subst hi
  exact ⟨T', h', _, X', Fr.snoc X' N ga, e', W, Arv.set Ar q S Nn H G rfl W _ rfl hl, st⟩
theorem own_stC (X : Stand p l e R s m args below meth c T locs cells slots) (N : Fr n0 locs) (hx : p.tables.exec = Jvm.exec) (hZ : Z.Warmed39 s.vm) (eT : T.heap = h) {a : Addr} {k : ClassId} {z : Int32} {vs : List Value} {d : Value} (V : Arv Z h a k .char z vs d) (ga : n0 ≤ a) {j x : Int32} {i : Nat} (hj : ¬ j < 0 ∧ j < z) (hi : j.toNatClampNeg = i) (hl : i < vs.length)
    {pc : Nat} {Ls : Array Slot} {rest : List Value} (hd : decode c.code pc = .ok (.castore, 1)) :
    ∃ T' h' L', Stand p l e R s m args below meth c T' L' cells slots ∧ Fr n0 L' ∧ T'.heap = h' ∧ Wr h h' a i (.int (nar .char x)) ∧ Arv Z h' a k .char z (vs.set i (.int (nar .char x))) d ∧
      ∀ target, Steps p.tables e below (T'.setTop (mkF m (pc + 1) Ls rest)) target → Steps p.tables e below (T.setTop (mkF m pc Ls (.int x :: .int j :: .ref a :: rest))) target := by
  obtain ⟨cl, Ar, q, S, Nn, H, G⟩ := V
  obtain ⟨T', h', X', e', W, st⟩ := stC X hx hZ eT Ar (j := j) (x := x) (inb_of S hj) (g := mkF m pc Ls (.int x :: .int j :: .ref a :: rest)) rfl rfl hd
  subst hi
  exact ⟨T', h', _, X', Fr.snoc X' N ga, e', W, Arv.set Ar q S Nn H G (fits_nar_char x) W _ rfl hl, st⟩
theorem own_ldB (X : Stand p l e R s m args below meth c T locs cells slots) (hx : p.tables.exec = Jvm.exec) (hZ : Z.Warmed39 s.vm) (eT : T.heap = h) {a : Addr} {k : ClassId} {z : Int32} {vs : List Value} {d v : Value} (V : Arv Z h a k .byte z vs d) {j : Int32} (hj : ¬ j < 0 ∧ j < z) (hv : vs.getD j.toNatClampNeg d = v)
    {pc : Nat} {Ls : Array Slot} {rest : List Value} (hd : decode c.code pc = .ok (.baload, 1)) (target : State) (hr : Steps p.tables e below (T.setTop (mkF m (pc + 1) Ls (v :: rest))) target) : Steps p.tables e below (T.setTop (mkF m pc Ls (.int j :: .ref a :: rest))) target := by
  obtain ⟨cl, Ar, q, S, Nn, H, G⟩ := V
  have hin := inb_of S hj
  refine X.baloadBytes hx (j := j) (v := v) (by rw [eT]; exact Ar.1) (State.isArrayOf_alike hZ.alike Ar.2.1) Ar.2.2 hin ?_ (g := mkF m pc Ls (.int j :: .ref a :: rest)) rfl rfl hd _ hr
  rw [H _ (Nat.lt_of_not_le fun q => hin (Or.inr q)), hv]
theorem own_ldI (X : Stand p l e R s m args below meth c T locs cells slots) (hx : p.tables.exec = Jvm.exec) (hZ : Z.Warmed39 s.vm) (eT : T.heap = h) {a : Addr} {k : ClassId} {z : Int32} {vs : List Value} {d v : Value} (V : Arv Z h a k .int z vs d) {j : Int32} (hj : ¬ j < 0 ∧ j < z) (hv : vs.getD j.toNatClampNeg d = v)
    {pc : Nat} {Ls : Array Slot} {rest : List Value} (hd : decode c.code pc = .ok (.iaload, 1)) (target : State) (hr : Steps p.tables e below (T.setTop (mkF m (pc + 1) Ls (v :: rest))) target) : Steps p.tables e below (T.setTop (mkF m pc Ls (.int j :: .ref a :: rest))) target := by
  obtain ⟨cl, Ar, q, S, Nn, H, G⟩ := V
  have hin := inb_of S hj
  refine X.iaload hx (j := j) (v := v) (by rw [eT]; exact Ar.1) (State.isArrayOf_alike hZ.alike Ar.2.1) Ar.2.2 hin ?_ (g := mkF m pc Ls (.int j :: .ref a :: rest)) rfl rfl hd _ hr
  rw [H _ (Nat.lt_of_not_le fun q => hin (Or.inr q)), hv]
theorem own_ldC (X : Stand p l e R s m args below meth c T locs cells slots) (hx : p.tables.exec = Jvm.exec) (hZ : Z.Warmed39 s.vm) (eT : T.heap = h) {a : Addr} {k : ClassId} {z : Int32} {vs : List Value} {d v : Value} (V : Arv Z h a k .char z vs d) {j : Int32} (hj : ¬ j < 0 ∧ j < z) (hv : vs.getD j.toNatClampNeg d = v)
    {pc : Nat} {Ls : Array Slot} {rest : List Value} (hd : decode c.code pc = .ok (.caload, 1)) (target : State) (hr : Steps p.tables e below (T.setTop (mkF m (pc + 1) Ls (v :: rest))) target) : Steps p.tables e below (T.setTop (mkF m pc Ls (.int j :: .ref a :: rest))) target := by
  obtain ⟨cl, Ar, q, S, Nn, H, G⟩ := V
  have hin := inb_of S hj
  refine X.caload hx (j := j) (v := v) (by rw [eT]; exact Ar.1) (State.isArrayOf_alike hZ.alike Ar.2.1) Ar.2.2 hin ?_ (g := mkF m pc Ls (.int j :: .ref a :: rest)) rfl rfl hd _ hr
  rw [H _ (Nat.lt_of_not_le fun q => hin (Or.inr q)), hv]
theorem own_len (X : Stand p l e R s m args below meth c T locs cells slots) (hx : p.tables.exec = Jvm.exec) (hZ : Z.Warmed39 s.vm) (eT : T.heap = h) {a : Addr} {k : ClassId} {ty : FieldType} {z : Int32} {vs : List Value} {d : Value} (V : Arv Z h a k ty z vs d)
    {pc : Nat} {Ls : Array Slot} {rest : List Value} (hd : decode c.code pc = .ok (.arraylength, 1)) (target : State) (hr : Steps p.tables e below (T.setTop (mkF m (pc + 1) Ls (.int z :: rest))) target) : Steps p.tables e below (T.setTop (mkF m pc Ls (.ref a :: rest))) target := by
  obtain ⟨cl, Ar, q, S, Nn, H, G⟩ := V
  refine X.arraylength hx (by rw [eT]; exact Ar.1) (State.isArrayOf_alike hZ.alike Ar.2.1) (g := mkF m pc Ls (.ref a :: rest)) rfl rfl hd _ ?_
  rw [len_of S Nn]
  exact hr
/-- an array cloned -/
theorem own_clone (X : Stand p l e R s m args below meth c T locs cells slots) (hx : p.tables.exec = Jvm.exec) (hZ : Z.Warmed39 s.vm) {own ad : String} {index : Nat} (hown : s.vm.findClass own = some m.cls)
    (w1 : (Jvm.Cond.methodLink own index ⟨ad, "clone", "()Ljava/lang/Object;"⟩).before a0 Z = true) (w2 : (Jvm.Cond.sameMethod ad "java/lang/Object" "clone" "()Ljava/lang/Object;").before a0 Z = true) (w3 : (Jvm.Cond.native ⟨"java/lang/Object", "clone", "()Ljava/lang/Object;"⟩).before a0 Z = true)
    (w4 : (Jvm.Cond.instanceMethod ⟨"java/lang/Object", "clone", "()Ljava/lang/Object;"⟩).before a0 Z = true) (w5 : (Jvm.Cond.selects ad ⟨ad, "clone", "()Ljava/lang/Object;"⟩ ⟨"java/lang/Object", "clone", "()Ljava/lang/Object;"⟩).before a0 Z = true) (w6 : (Jvm.Cond.castable ad "java/lang/Cloneable").before a0 Z = true)
    (eT : T.heap = h) {a : Addr} {k : ClassId} {ty : FieldType} {z : Int32} {vs : List Value} {dv : Value} (F : Arv Z h a k ty z vs dv) (E : Exa Z h a ad) {pc : Nat} {Ls : Array Slot} {rest : List Value} (hsize : Ls.size = c.maxLocals) (hd : decode c.code pc = .ok (.invokevirtual index, 3))
    (hf : 1 ≤ R.frames) {W cap : Nat} (hW : 2 * 0 + (rest.map fun v => v.category).sum ≤ W) (hl : W + 14 ≤ R.locals) (hcap : z.toNatClampNeg ≤ cap) (hc : cells + 1 ≤ R.cells) (hsl : slots + cap ≤ R.slots) :
    ∃ T' h' b, Stand p l e R s m args below meth c T' locs (cells + 1) (slots + cap) ∧ T'.heap = h' ∧ Ext h h' ∧ b = h.size ∧ Arv Z h' b k ty z vs dv ∧ Exa Z h' b ad ∧
      ∀ target, Steps p.tables e below (T'.setTop (mkF m (pc + 3) Ls (.ref b :: rest))) target → Steps p.tables e below (T.setTop (mkF m pc Ls (.ref a :: rest))) target := by
  obtain ⟨T', h', X', e', ex, V, E', st⟩ := cloneH X hx hZ hown w1 w2 w3 w4 w5 w6 eT F.arh E (g := mkF m pc Ls (.ref a :: rest)) rfl hsize rfl hd hf hW hl hcap hc hsl
  exact ⟨T', h', h.size, X', e', ex, rfl, V, E', st⟩
/-- a field written -/
theorem own_putF (X : Stand p l e R s m args below meth c T locs cells slots) (N : Fr n0 locs) (hx : p.tables.exec = Jvm.exec) (hZ : Z.Warmed39 s.vm) {own O n d C : String} {index kk : Nat} {ty : FieldType} (hown : s.vm.findClass own = some m.cls) (w : (Jvm.Cond.fieldLink own index O n d).before a0 Z = true)
    (eT : T.heap = h) {a : Addr} {v old : Value} (F : Fld Z h a O n d old) (E : Exa Z h a C) (L : (Jvm.Cond.lays C O n d).before a0 Z = true ∨ ((Jvm.Cond.laysFinal C O n d).before a0 Z = true ∧ own = O ∧ meth.name = "<init>")) (wi : (Jvm.Cond.instantiable C kk).before a0 Z = true) (ga : n0 ≤ a)
    (hty : parseFieldDescriptor d = some ty) (hn : narrow ty v = v) (hf : fits ty v = true) {pc : Nat} {Ls : Array Slot} {rest : List Value} (hd : decode c.code pc = .ok (.putfield index, 3)) :
    ∃ T' h' L', Stand p l e R s m args below meth c T' L' cells slots ∧ Fr n0 L' ∧ T'.heap = h' ∧ Wr h h' a (Jvm.RoadKit.slotOf Z O n d) v ∧ Fld Z h' a O n d v ∧
      ∀ target, Steps p.tables e below (T'.setTop (mkF m (pc + 3) Ls rest)) target → Steps p.tables e below (T.setTop (mkF m pc Ls (v :: .ref a :: rest))) target := by
  obtain ⟨T', h', X', e', W, st⟩ := putF X hx hZ hown (host := "") (Or.inl w) Via.refl eT F E L wi hty hn hf (g := mkF m pc Ls (v :: .ref a :: rest)) rfl rfl hd
  exact ⟨T', h', _, X', Fr.snoc X' N ga, e', W, F.same W, st⟩
theorem own_putFN (X : Stand p l e R s m args below meth c T locs cells slots) (N : Fr n0 locs) (hx : p.tables.exec = Jvm.exec) (hZ : Z.Warmed39 s.vm) {own O n d C : String} {index kk : Nat} {ty : FieldType} (hown : s.vm.findClass own = some m.cls) (w : (Jvm.Cond.fieldLink own index O n d).before a0 Z = true)
    (eT : T.heap = h) {a : Addr} {v v' old : Value} (F : Fld Z h a O n d old) (E : Exa Z h a C) (L : (Jvm.Cond.lays C O n d).before a0 Z = true ∨ ((Jvm.Cond.laysFinal C O n d).before a0 Z = true ∧ own = O ∧ meth.name = "<init>")) (wi : (Jvm.Cond.instantiable C kk).before a0 Z = true) (ga : n0 ≤ a)
    (hty : parseFieldDescriptor d = some ty) (hn : narrow ty v = v') (hf : fits ty v' = true) {pc : Nat} {Ls : Array Slot} {rest : List Value} (hd : decode c.code pc = .ok (.putfield index, 3)) :
    ∃ T' h' L', Stand p l e R s m args below meth c T' L' cells slots ∧ Fr n0 L' ∧ T'.heap = h' ∧ Wr h h' a (Jvm.RoadKit.slotOf Z O n d) v' ∧ Fld Z h' a O n d v' ∧
      ∀ target, Steps p.tables e below (T'.setTop (mkF m (pc + 3) Ls rest)) target → Steps p.tables e below (T.setTop (mkF m pc Ls (v :: .ref a :: rest))) target := by
  obtain ⟨T', h', X', e', W, st⟩ := putFN X hx hZ hown w Via.refl eT F E L wi hty hn hf (g := mkF m pc Ls (v :: .ref a :: rest)) rfl rfl hd
  exact ⟨T', h', _, X', Fr.snoc X' N ga, e', W, F.same W, st⟩
/-- new -/
theorem own_newO (X : Stand p l e R s m args below meth c T locs cells slots) (hx : p.tables.exec = Jvm.exec) (hZ : Z.Warmed39 s.vm) {own C : String} {index n : Nat} (hown : s.vm.findClass own = some m.cls) (w : (Jvm.Cond.classLink own index C).before a0 Z = true) (wi : (Jvm.Cond.instantiable C n).before a0 Z = true) (wz : (Jvm.Cond.initialized C).before a0 Z = true) (eT : T.heap = h)
    {pc : Nat} {Ls : Array Slot} {rest : List Value} (hd : decode c.code pc = .ok (.new index, 3)) (hc : cells + 1 ≤ R.cells) (hl : slots + n ≤ R.slots) :
    ∃ T' h' a, Stand p l e R s m args below meth c T' locs (cells + 1) (slots + n) ∧ T'.heap = h' ∧ Ext h h' ∧ a = h.size ∧ Exa Z h' a C ∧ (∀ {O nm d : String} {ty : FieldType}, Laid Z a0 C O nm d → parseFieldDescriptor d = some ty → Fld Z h' a O nm d (defaultValue ty)) ∧
      ∀ target, Steps p.tables e below (T'.setTop (mkF m (pc + 3) Ls (.ref a :: rest))) target → Steps p.tables e below (T.setTop (mkF m pc Ls rest)) target := by
  obtain ⟨T', h', X', e', E, A, D, -, st⟩ := newO X hx hZ hown w wi wz eT (g := mkF m pc Ls rest) rfl hd hc hl
  exact ⟨T', h', h.size, X', e', E, rfl, A, D, st⟩
/-- a static method that may write and make -/
theorem own_callSW {own : String} {index : Nat} {y : MethodName} {bytes : ByteArray} {maxL W : Nat} {ret : Option FieldType} {rm : Room} {as : Array Value} {q : Option Value → Heap → Prop}
    (X : Stand p l e R s m args below meth c T locs cells slots) (N : Fr n0 locs) (hx : p.tables.exec = Jvm.exec) (hZ : Z.Warmed39 s.vm) (hown : s.vm.findClass own = some m.cls)
    (w1 : (Jvm.Cond.methodLink own index y).before a0 Z = true) (w2 : (Jvm.Cond.static y).before a0 Z = true) (w3 : (Jvm.Cond.initialized y.cls).before a0 Z = true) (w4 : (Jvm.Cond.code y bytes maxL ret).before a0 Z = true)
    (hy : y.cls ≠ "java/lang/invoke/MethodHandle" ∧ y.cls ≠ "java/lang/invoke/VarHandle") (hM : own_C l Z y bytes maxL ret [] rm as h (own_W n0 q))
    (hf : rm.frames + 1 ≤ R.frames) (hl : W + (maxL + 11) + rm.locals ≤ R.locals) (hcc : cells + rm.cells ≤ R.cells) (hss : slots + rm.slots ≤ R.slots) (e0 : T.heap = h)
    {pc : Nat} {Ls : Array Slot} {st argsL rest : List Value} (hsize : Ls.size = c.maxLocals) (hlen : ∀ sig, parseMethodDescriptor y.desc = some sig → argsL.length = sig.parameters.length) (has : argsL.toArray = as)
    (hst : st = argsL.reverse ++ rest) (hW : 2 * 0 + (rest.map fun v => v.category).sum ≤ W) (hd : decode c.code pc = .ok (.invokestatic index, 3)) :
    ∃ (v : Option Value) (T' : State) (h' : Heap) (L' : List Loc), Stand p l e R s m args below meth c T' L' (cells + rm.cells) (slots + rm.slots) ∧ Fr n0 L' ∧ T'.heap = h' ∧ q v h' ∧
      ∀ target, Steps p.tables e below (T'.setTop (mkF m (pc + 3) Ls (v.toList ++ rest))) target → Steps p.tables e below (T.setTop (mkF m pc Ls st)) target := by
  obtain ⟨v, T', L, X', ⟨N', hq⟩, stp⟩ := own_callS X hx hZ hown w1 w2 w3 w4 hy hM hf hl hcc hss e0 hsize hlen has hst hW hd
  exact ⟨v, T', _, _, X', N.app N', rfl, hq, stp⟩
/-- a constructor by its contract -/
theorem own_callI {own : String} {index : Nat} {y : MethodName} {bytes : ByteArray} {maxL W : Nat} {rm : Room} {as : Array Value} {q : Option Value → Heap → Prop} {a : Addr}
    (X : Stand p l e R s m args below meth c T locs cells slots) (N : Fr n0 locs) (hx : p.tables.exec = Jvm.exec) (hZ : Z.Warmed39 s.vm) (hy1 : y.name = "<init>") (hown : s.vm.findClass own = some m.cls)
    (w1 : (Jvm.Cond.methodLink own index y).before a0 Z = true) (w2 : (Jvm.Cond.instanceMethod y).before a0 Z = true) (w3 : (Jvm.Cond.initialized y.cls).before a0 Z = true) (w4 : (Jvm.Cond.code y bytes maxL none).before a0 Z = true)
    (hy : y.cls ≠ "java/lang/invoke/MethodHandle" ∧ y.cls ≠ "java/lang/invoke/VarHandle") (hM : own_C l Z y bytes maxL none [] rm as h (own_W n0 q))
    (hf : rm.frames + 1 ≤ R.frames) (hl : W + (maxL + 11) + rm.locals ≤ R.locals) (hcc : cells + rm.cells ≤ R.cells) (hss : slots + rm.slots ≤ R.slots) (e0 : T.heap = h)
    {pc : Nat} {Ls : Array Slot} {st argsL rest : List Value} (hsize : Ls.size = c.maxLocals) (hlen : ∀ sig, parseMethodDescriptor y.desc = some sig → argsL.length = sig.parameters.length) (has : (Value.ref a :: argsL).toArray = as)
    (hst : st = argsL.reverse ++ .ref a :: rest) (hW : 2 * 0 + (rest.map fun v => v.category).sum ≤ W) (hd : decode c.code pc = .ok (.invokespecial index, 3)) :
    ∃ (v : Option Value) (T' : State) (h' : Heap) (L' : List Loc), Stand p l e R s m args below meth c T' L' (cells + rm.cells) (slots + rm.slots) ∧ Fr n0 L' ∧ T'.heap = h' ∧ q v h' ∧
      ∀ target, Steps p.tables e below (T'.setTop (mkF m (pc + 3) Ls (v.toList ++ rest))) target → Steps p.tables e below (T.setTop (mkF m pc Ls st)) target := by
  obtain ⟨v, _, ⟨T', L', k', n'⟩, -, X', ⟨Lc, ⟨N', hq⟩, h1, h2, h3⟩, stp⟩ := X.specialBack hx (y := y) hy1 hown (mvT hZ w1) (mvT hZ w2) (mvT hZ w4) hy
    (backOf (W := W) hM hZ w4 w3 hf hl) (g := mkF m pc Ls st) rfl hsize (Steps.refl _) (a := a) (argsL := argsL) (rest := rest) hlen hst hW hd (fun _ _ => ⟨has, e0, hcc, hss⟩)
  dsimp only [Pt.U, Pt.locs, Pt.cells, Pt.slots] at X' h1 h2 h3 stp hq
  subst h1 h2 h3
  exact ⟨v, T', _, _, X', N.app N', rfl, hq, fun t k => stp.trans k⟩
/-- an instance method by its contract -/
theorem own_callV {own C : String} {index : Nat} {y z : MethodName} {bytes : ByteArray} {maxL W : Nat} {ret : Option FieldType} {rm : Room} {as : Array Value} {q : Option Value → Heap → Prop} {a : Addr}
    (X : Stand p l e R s m args below meth c T locs cells slots) (N : Fr n0 locs) (hx : p.tables.exec = Jvm.exec) (hZ : Z.Warmed39 s.vm) (hown : s.vm.findClass own = some m.cls)
    (w1 : (Jvm.Cond.methodLink own index y).before a0 Z = true) (w2 : (Jvm.Cond.declares y).before a0 Z = true) (hnf : NotFace s y) (ws : (Jvm.Cond.selects C y z).before a0 Z = true) (wi : (Jvm.Cond.instanceMethod z).before a0 Z = true) (w3 : (Jvm.Cond.initialized z.cls).before a0 Z = true) (w4 : (Jvm.Cond.code z bytes maxL ret).before a0 Z = true)
    (hy : y.cls ≠ "java/lang/invoke/MethodHandle" ∧ y.cls ≠ "java/lang/invoke/VarHandle") (hM : own_C l Z z bytes maxL ret [] rm as h (own_W n0 q))
    (hf : rm.frames + 1 ≤ R.frames) (hl : W + (maxL + 11) + rm.locals ≤ R.locals) (hcc : cells + rm.cells ≤ R.cells) (hss : slots + rm.slots ≤ R.slots) (e0 : T.heap = h) (E : Exa Z h a C)
    {pc : Nat} {Ls : Array Slot} {st argsL rest : List Value} (hsize : Ls.size = c.maxLocals) (hlen : ∀ sig, parseMethodDescriptor y.desc = some sig → argsL.length = sig.parameters.length) (has : (Value.ref a :: argsL).toArray = as)
    (hst : st = argsL.reverse ++ .ref a :: rest) (hW : 2 * 0 + (rest.map fun v => v.category).sum ≤ W) (hd : decode c.code pc = .ok (.invokevirtual index, 3)) :
    ∃ (v : Option Value) (T' : State) (h' : Heap) (L' : List Loc), Stand p l e R s m args below meth c T' L' (cells + rm.cells) (slots + rm.slots) ∧ Fr n0 L' ∧ T'.heap = h' ∧ q v h' ∧
      ∀ target, Steps p.tables e below (T'.setTop (mkF m (pc + 3) Ls (v.toList ++ rest))) target → Steps p.tables e below (T.setTop (mkF m pc Ls st)) target := by
  obtain ⟨cq, kq, qa, qb, qc⟩ := isOf hZ e0 E
  obtain ⟨v, _, ⟨T', L', k', n'⟩, -, X', ⟨Lc, ⟨N', hq⟩, h1, h2, h3⟩, stp⟩ := X.virtualBack hx (y := y) (z := z) hown (mvT hZ w1) (mvT hZ w2) hnf (mvT hZ ws) (mvT hZ wi) hy
    (backOf (W := W) hM hZ w4 w3 hf hl) qa qc (g := mkF m pc Ls st) rfl hsize (Steps.refl _) (argsL := argsL) (rest := rest) hlen hst hW hd (fun _ _ => ⟨has, e0, hcc, hss⟩)
  dsimp only [Pt.U, Pt.locs, Pt.cells, Pt.slots] at X' h1 h2 h3 stp hq
  subst h1 h2 h3
  exact ⟨v, T', _, _, X', N.app N', rfl, hq, fun t k => stp.trans k⟩
/-- an instance method that leaves the heap as it was -/
theorem own_callVP {own C : String} {index : Nat} {y z : MethodName} {bytes : ByteArray} {maxL W : Nat} {ret : Option FieldType} {rm : Room} {as : Array Value} {w : Value} {a : Addr}
    (X : Stand p l e R s m args below meth c T locs cells slots) (hx : p.tables.exec = Jvm.exec) (hZ : Z.Warmed39 s.vm) (hown : s.vm.findClass own = some m.cls)
    (w1 : (Jvm.Cond.methodLink own index y).before a0 Z = true) (w2 : (Jvm.Cond.declares y).before a0 Z = true) (hnf : NotFace s y) (ws : (Jvm.Cond.selects C y z).before a0 Z = true) (wi : (Jvm.Cond.instanceMethod z).before a0 Z = true) (w3 : (Jvm.Cond.initialized z.cls).before a0 Z = true) (w4 : (Jvm.Cond.code z bytes maxL ret).before a0 Z = true)
    (hy : y.cls ≠ "java/lang/invoke/MethodHandle" ∧ y.cls ≠ "java/lang/invoke/VarHandle") (hM : own_C l Z z bytes maxL ret [] rm as h (own_Q w h))
    (hf : rm.frames + 1 ≤ R.frames) (hl : W + (maxL + 11) + rm.locals ≤ R.locals) (hrc : rm.cells = 0) (hrs : rm.slots = 0) (hcc : cells + rm.cells ≤ R.cells) (hss : slots + rm.slots ≤ R.slots) (e0 : T.heap = h) (E : Exa Z h a C)
    {pc : Nat} {Ls : Array Slot} {st argsL rest : List Value} (hsize : Ls.size = c.maxLocals) (hlen : ∀ sig, parseMethodDescriptor y.desc = some sig → argsL.length = sig.parameters.length) (has : (Value.ref a :: argsL).toArray = as)
    (hst : st = argsL.reverse ++ .ref a :: rest) (hW : 2 * 0 + (rest.map fun v => v.category).sum ≤ W) (hd : decode c.code pc = .ok (.invokevirtual index, 3)) :
    ∃ (T' : State), Stand p l e R s m args below meth c T' locs cells slots ∧ T'.heap = h ∧
      ∀ target, Steps p.tables e below (T'.setTop (mkF m (pc + 3) Ls (w :: rest))) target → Steps p.tables e below (T.setTop (mkF m pc Ls st)) target := by
  obtain ⟨cq, kq, qa, qb, qc⟩ := isOf hZ e0 E
  obtain ⟨v, _, ⟨T', L', k', n'⟩, -, X', ⟨Lc, ⟨rfl, rfl, hh⟩, h1, h2, h3⟩, stp⟩ := X.virtualBack hx (y := y) (z := z) hown (mvT hZ w1) (mvT hZ w2) hnf (mvT hZ ws) (mvT hZ wi) hy
    (backOf (W := W) hM hZ w4 w3 hf hl) qa qc (g := mkF m pc Ls st) rfl hsize (Steps.refl _) (argsL := argsL) (rest := rest) hlen hst hW hd (fun _ _ => ⟨has, e0, hcc, hss⟩)
  dsimp only [Pt.U, Pt.locs, Pt.cells, Pt.slots] at X' h1 h2 h3 stp hh
  subst h1 h2 h3
  rw [List.append_nil, hrc, hrs] at X'
  exact ⟨T', X', hh, fun t k => stp.trans k⟩
theorem own_ke {h h' : Heap} (K : Keep h h' []) : Ext h h' := ⟨K.1, fun a c q => K.2.1 a c q (by simp)⟩
theorem own_ldA (X : Stand p l e R s m args below meth c T locs cells slots) (hx : p.tables.exec = Jvm.exec) (hZ : Z.Warmed39 s.vm) (eT : T.heap = h) {a : Addr} {k : ClassId} {ty : FieldType} {z : Int32} {vs : List Value} {d v : Value} (V : Arv Z h a k ty z vs d) (hty : ty.isReference = true) {j : Int32} (hj : ¬ j < 0 ∧ j < z) (hv : vs.getD j.toNatClampNeg d = v)
    {pc : Nat} {Ls : Array Slot} {rest : List Value} (hd : decode c.code pc = .ok (.aaload, 1)) (target : State) (hr : Steps p.tables e below (T.setTop (mkF m (pc + 1) Ls (v :: rest))) target) : Steps p.tables e below (T.setTop (mkF m pc Ls (.int j :: .ref a :: rest))) target := by
  obtain ⟨cl, Ar, q, S, Nn, H, G⟩ := V
  have hin := inb_of S hj
  refine X.aaload hx (j := j) (v := v) (by rw [eT]; exact Ar.1) (State.isArrayOf_alike hZ.alike Ar.2.1) hty Ar.2.2 hin ?_ (g := mkF m pc Ls (.int j :: .ref a :: rest)) rfl rfl hd _ hr
  rw [H _ (Nat.lt_of_not_le fun q => hin (Or.inr q)), hv]
end OwnHeap
theorem own_pd0 : parseMethodDescriptor "(II)I" = some ⟨[.int, .int], some .int⟩ := by decide +kernel
theorem own_pd1 : parseMethodDescriptor "(I)Lcom/example/loudmark/loudmark/core/AudioEncoding;" = some ⟨[.int], some (.object "com/example/loudmark/loudmark/core/AudioEncoding")⟩ := by decide +kernel
theorem own_eqR {args : Array Value} {s : State} {a b : Term} {y : Addr} (h : (Jvm.Cond.eq a b).value args s none s [] = some true) (hb : b.eval args s none [] s = some (.ref y)) : a.eval args s none [] s = some (.ref y) := by
  cases ha : a.eval args s none [] s with
  | none => simp [Cond.value, ha] at h
  | some v => cases v <;> simp [Cond.value, ha, hb] at h ⊢ <;> exact h
theorem own_eqI {args : Array Value} {s : State} {a : Term} {i : Int32} (h : (Jvm.Cond.eq a (.int i)).value args s none s [] = some true) : a.eval args s none [] s = some (.int i) := by
  cases ha : a.eval args s none [] s with
  | none => simp [Cond.value, ha] at h
  | some v => cases v <;> simp [Cond.value, ha, Term.eval] at h ⊢ <;> exact h
theorem own_fldI {args : Array Value} {s : State} {t : Term} {C n d : String} {i : Int32} {x : Addr} (h : (Jvm.Cond.eq (.field t C n d) (.int i)).value args s none s [] = some true) (e : t.eval args s none [] s = some (.ref x)) : Fld s s.heap x C n d (.int i) := by
  have g := own_eqI h
  rw [fld_at e] at g
  exact Fld.start g
theorem own_len_lt {args : Array Value} {s : State} {t : Term} {v : Value} {r : Addr} {cl : Cell} (h : (Term.length t).eval args s none [] s = some v) (er : t.eval args s none [] s = some (.ref r)) (hA : s.arrayAt? r = some cl) : cl.slots.size < 2 ^ 31 := by
  apply Classical.byContradiction
  intro q
  have g : (Term.length t).eval args s none [] s = none := by simp [Term.eval, er, hA, q]
  rw [g] at h
  cases h
theorem own_start {args : Array Value} {s : State} (hf : Fit s) (hw : ∀ d ∈ tables_1, d.before args s = true) (hn : narrow_1.value args s none s [] = some true) :
    ∃ (r : Addr) (k : ClassId) (x0 x1 x2 x3 : Addr), Sta s s.heap "com/example/loudmark/loudmark/core/AudioEncoding" "ENCODINGS" "[Lcom/example/loudmark/loudmark/core/AudioEncoding;" (.ref r) ∧
      Arv s s.heap r k (.object "com/example/loudmark/loudmark/core/AudioEncoding") (4 : Int32) [(.ref x0), (.ref x1), (.ref x2), (.ref x3)] .null ∧
      Fld s s.heap x0 "com/example/loudmark/loudmark/core/AudioEncoding" "staticPayloadType" "I" (.int (-1 : Int32)) ∧ Fld s s.heap x1 "com/example/loudmark/loudmark/core/AudioEncoding" "staticPayloadType" "I" (.int (-1 : Int32)) ∧
      Fld s s.heap x2 "com/example/loudmark/loudmark/core/AudioEncoding" "staticPayloadType" "I" (.int (8 : Int32)) ∧ Fld s s.heap x3 "com/example/loudmark/loudmark/core/AudioEncoding" "staticPayloadType" "I" (.int (0 : Int32)) ∧
      Sta s s.heap "com/example/loudmark/loudmark/core/AudioEncoding" "PCMA" "Lcom/example/loudmark/loudmark/core/AudioEncoding;" (.ref x2) ∧ Sta s s.heap "com/example/loudmark/loudmark/core/AudioEncoding" "PCMU" "Lcom/example/loudmark/loudmark/core/AudioEncoding;" (.ref x3) := by
  obtain ⟨m1, hn⟩ := and_e hn
  obtain ⟨m2, hn⟩ := and_e hn
  obtain ⟨c0, hn⟩ := and_e hn
  obtain ⟨d0, hn⟩ := and_e hn
  obtain ⟨f0, hn⟩ := and_e hn
  obtain ⟨c1, hn⟩ := and_e hn
  obtain ⟨d1, hn⟩ := and_e hn
  obtain ⟨f1, hn⟩ := and_e hn
  obtain ⟨c2, hn⟩ := and_e hn
  obtain ⟨d2, hn⟩ := and_e hn
  obtain ⟨f2, hn⟩ := and_e hn
  obtain ⟨c3, hn⟩ := and_e hn
  obtain ⟨d3, f3⟩ := and_e hn
  obtain ⟨r, er⟩ := arr_v m1
  obtain ⟨cl, A⟩ := Arr.start er m1
  obtain ⟨x0, e0⟩ := exa_v c0
  obtain ⟨x1, e1⟩ := exa_v c1
  obtain ⟨x2, e2⟩ := exa_v c2
  obtain ⟨x3, e3⟩ := exa_v c3
  have hA : s.arrayAt? r = some cl := Arr.fin (Vm.Alike.refl _) A
  have el := own_eqI m2
  have hl : cl.slots.size < 2 ^ 31 := own_len_lt el er hA
  have el2 := (len_f er hA hl).symm.trans el
  have el3 : cl.slots.size.toInt32 = 4 := by injection el2 with e; injection e
  have at' : ∀ (j : Int32) (t : Term) (x : Addr), ¬ j < 0 → (Jvm.Cond.eq (.elem (.static "com/example/loudmark/loudmark/core/AudioEncoding" "ENCODINGS" "[Lcom/example/loudmark/loudmark/core/AudioEncoding;") (.int j)) t).value args s none s [] = some true → t.eval args s none [] s = some (.ref x) → cl.slots[j.toNatClampNeg]? = some (.ref x) := fun j t x hj h e => by
    have g := own_eqR h e
    rw [elem_f er (Term.int_eval j) hA hj] at g
    exact g
  have V := Arv.start (dv := .null) (vs := [.ref x0, .ref x1, .ref x2, .ref x3]) hf A hl el3 (by decide) rfl ⟨at' 0 _ x0 (by decide) d0 e0, at' 1 _ x1 (by decide) d1 e1, at' 2 _ x2 (by decide) d2 e2, at' 3 _ x3 (by decide) d3 e3, trivial⟩
  exact ⟨r, cl.cls, x0, x1, x2, x3, Sta.start er (Or.inr ⟨hw _ (List.mem_of_getElem? (i := 6) rfl), hw _ (List.mem_of_getElem? (i := 9) rfl)⟩), V, own_fldI f0 e0, own_fldI f1 e1, own_fldI f2 e2, own_fldI f3 e3,
    Sta.start e2 (Or.inr ⟨hw _ (List.mem_of_getElem? (i := 6) rfl), hw _ (List.mem_of_getElem? (i := 14) rfl)⟩), Sta.start e3 (Or.inr ⟨hw _ (List.mem_of_getElem? (i := 6) rfl), hw _ (List.mem_of_getElem? (i := 15) rfl)⟩)⟩
theorem own_d1_0 : decode method_2_code 0 = .ok (.iload_n 1, 1) := by decide +kernel
theorem own_d1_1 : decode method_2_code 1 = .ok (.iconst 3, 1) := by decide +kernel
theorem own_d1_2 : decode method_2_code 2 = .ok (.iand, 1) := by decide +kernel
theorem own_d1_3 : decode method_2_code 3 = .ok (.istore_n 2, 1) := by decide +kernel
theorem own_d1_4 : decode method_2_code 4 = .ok (.iload_n 2, 1) := by decide +kernel
theorem own_d1_5 : decode method_2_code 5 = .ok (.ifCond .ne 5, 3) := by decide +kernel
theorem own_d1_8 : decode method_2_code 8 = .ok (.iload_n 0, 1) := by decide +kernel
theorem own_d1_9 : decode method_2_code 9 = .ok (.ireturn, 1) := by decide +kernel
theorem own_d1_10 : decode method_2_code 10 = .ok (.iload_n 2, 1) := by decide +kernel
theorem own_d1_11 : decode method_2_code 11 = .ok (.iconst 1, 1) := by decide +kernel
theorem own_d1_12 : decode method_2_code 12 = .ok (.if_icmp .ne 8, 3) := by decide +kernel
theorem own_d1_15 : decode method_2_code 15 = .ok (.iload_n 0, 1) := by decide +kernel
theorem own_d1_16 : decode method_2_code 16 = .ok (.bipush 15, 2) := by decide +kernel
theorem own_d1_18 : decode method_2_code 18 = .ok (.iand, 1) := by decide +kernel
theorem own_d1_19 : decode method_2_code 19 = .ok (.ireturn, 1) := by decide +kernel
theorem own_d1_20 : decode method_2_code 20 = .ok (.iload_n 2, 1) := by decide +kernel
theorem own_d1_21 : decode method_2_code 21 = .ok (.iconst 2, 1) := by decide +kernel
theorem own_d1_22 : decode method_2_code 22 = .ok (.if_icmp .ne 9, 3) := by decide +kernel
theorem own_d1_25 : decode method_2_code 25 = .ok (.iload_n 0, 1) := by decide +kernel
theorem own_d1_26 : decode method_2_code 26 = .ok (.iconst 1, 1) := by decide +kernel
theorem own_d1_27 : decode method_2_code 27 = .ok (.iand, 1) := by decide +kernel
theorem own_d1_28 : decode method_2_code 28 = .ok (.iconst 1, 1) := by decide +kernel
theorem own_d1_29 : decode method_2_code 29 = .ok (.isub, 1) := by decide +kernel
theorem own_d1_30 : decode method_2_code 30 = .ok (.ireturn, 1) := by decide +kernel
theorem own_d1_31 : decode method_2_code 31 = .ok (.iload_n 0, 1) := by decide +kernel
theorem own_d1_32 : decode method_2_code 32 = .ok (.bipush 127, 2) := by decide +kernel
theorem own_d1_34 : decode method_2_code 34 = .ok (.iand, 1) := by decide +kernel
theorem own_d1_35 : decode method_2_code 35 = .ok (.ireturn, 1) := by decide +kernel
abbrev own_R1 : Room := { frames := 0, cells := 0, slots := 0, locals := 0 }
theorem own_pn1 : plainFor (⟨"com/example/loudmark/loudmark/core/AudioEncodingOfStaticPayloadTypePinLaw", "pick", "(II)I"⟩ : MethodName) = true := plainFor_of_name (by first | (simp [plainName, overriddenIn]; done) | decide +kernel)
theorem own_ef1 (m : MethodId) (p0 : Int32) (p1 : Int32) : entryFrame m #[(.int p0), (.int p1)] 3 = mkF m 0 #[.val (.int p0), .val (.int p1), .unset] [] := by first | (simp [entryFrame, mkF, argsToLocals, Value.category]; done) | rfl
def own_F1 (p0 : Int32) (p1 : Int32) : Int32 := (let vg1 : Int32 := (p1 &&& (3 : Int32)); (if vg1 = (0 : Int32) then p0 else (if vg1 = (1 : Int32) then (p0 &&& (15 : Int32)) else (if vg1 = (2 : Int32) then ((p0 &&& (1 : Int32)) - (1 : Int32)) else (p0 &&& (127 : Int32))))))
set_option maxRecDepth 65536 in
set_option maxHeartbeats 40000000 in
theorem own_rm1 (l : Launch) (Z : State) (a0 : Array Value) (hw : ∀ d ∈ tables_1, d.before a0 Z = true) (ws : List Jvm.Cond) (p0 : Int32) (p1 : Int32) (h0 : Heap) :
    own_C l Z (⟨"com/example/loudmark/loudmark/core/AudioEncodingOfStaticPayloadTypePinLaw", "pick", "(II)I"⟩ : MethodName) method_2_code 3 (some .int) ws own_R1 #[(.int p0), (.int p1)] h0 (own_Q (.int (own_F1 p0 p1)) h0) := by
  refine MetFree.of_bodySF own_pn1 hisR ?_
  intro p e s m args below meth c s₁ Bd hml0 hP hK
  obtain ⟨rfl, hZ, hh⟩ := hP
  have hx := Bd.exec
  have hby := Bd.bytes
  have hml : c.maxLocals = 3 := hml0
  have hown : s.vm.findClass "com/example/loudmark/loudmark/core/AudioEncodingOfStaticPayloadTypePinLaw" = some m.cls := findClass_of_methodNamed Bd.named
  have X0 : Stand p l e own_R1 s m #[(.int p0), (.int p1)] below meth c s₁ [] 0 0 := Stand.of_body Bd
  have e0 : s₁.heap = h0 := by rw [← hh, Bd.state]; rfl
  show own_G p e below (own_P s (own_Q (.int (own_F1 p0 p1)) h0) own_R1.cells own_R1.slots) (s₁.setTop (entryFrame m #[(.int p0), (.int p1)] 3))
  rw [own_ef1 m p0 p1]
  show own_G p e below _ (s₁.setTop (mkF m 0 #[.val (.int p0), .val (.int p1), .unset] []))
  refine own_via (fun t k => XS.iloadN X0.here hx rfl (hb hby own_d1_0) rfl k) ?_
  show own_G p e below _ (s₁.setTop (mkF m 1 #[.val (.int p0), .val (.int p1), .unset] [(.int p1)]))
  refine own_via (fun t k => XS.iconst X0.here hx rfl (hb hby own_d1_1) k) ?_
  show own_G p e below _ (s₁.setTop (mkF m 2 #[.val (.int p0), .val (.int p1), .unset] [(.int (3 : Int32)), (.int p1)]))
  refine own_via (fun t k => XS.iand X0.here hx rfl (hb hby own_d1_2) rfl k) ?_
  show own_G p e below _ (s₁.setTop (mkF m 3 #[.val (.int p0), .val (.int p1), .unset] [(.int (p1 &&& (3 : Int32)))]))
  generalize hvg1 : (p1 &&& (3 : Int32)) = vg1
  show own_G p e below _ (s₁.setTop (mkF m 3 #[.val (.int p0), .val (.int p1), .unset] [(.int vg1)]))
  refine own_via (fun t k => XS.istoreN X0.here hx rfl (hb hby own_d1_3) rfl (l' := #[.val (.int p0), .val (.int p1), .val (.int vg1)]) rfl k) ?_
  show own_G p e below _ (s₁.setTop (mkF m 4 #[.val (.int p0), .val (.int p1), .val (.int vg1)] []))
  refine own_via (fun t k => XS.iloadN X0.here hx rfl (hb hby own_d1_4) rfl k) ?_
  show own_G p e below _ (s₁.setTop (mkF m 5 #[.val (.int p0), .val (.int p1), .val (.int vg1)] [(.int vg1)]))
  by_cases hc2 : vg1 = (0 : Int32)
  ·
    refine own_via (fun t k => XS.ifNo X0.here hx rfl (hb hby own_d1_5) rfl ((if0 _ _).trans (teq hc2).2) k) ?_
    show own_G p e below _ (s₁.setTop (mkF m 8 #[.val (.int p0), .val (.int p1), .val (.int vg1)] []))
    refine own_via (fun t k => XS.iloadN X0.here hx rfl (hb hby own_d1_8) rfl k) ?_
    show own_G p e below _ (s₁.setTop (mkF m 9 #[.val (.int p0), .val (.int p1), .val (.int vg1)] [(.int p0)]))
    exact own_retI X0 hx Bd.returns Bd.notSynchronized (hb hby own_d1_9) ⟨by show (some (.int p0) : Option Value) = some (.int (own_F1 p0 p1)); subst hvg1; simp only [own_F1, if_pos hc2], rfl, e0⟩ (by decide) (by decide)
  ·
    refine own_via (fun t k => XS.ifYes X0.here hx rfl (pc0 := 5) (pc' := 10) rfl (hb hby own_d1_5) rfl ((if0 _ _).trans (feq hc2).2) (by decide) (by decide) k) ?_
    show own_G p e below _ (s₁.setTop (mkF m 10 #[.val (.int p0), .val (.int p1), .val (.int vg1)] []))
    refine own_via (fun t k => XS.iloadN X0.here hx rfl (hb hby own_d1_10) rfl k) ?_
    show own_G p e below _ (s₁.setTop (mkF m 11 #[.val (.int p0), .val (.int p1), .val (.int vg1)] [(.int vg1)]))
    refine own_via (fun t k => XS.iconst X0.here hx rfl (hb hby own_d1_11) k) ?_
    show own_G p e below _ (s₁.setTop (mkF m 12 #[.val (.int p0), .val (.int p1), .val (.int vg1)] [(.int (1 : Int32)), (.int vg1)]))
    by_cases hc3 : vg1 = (1 : Int32)
    ·
      refine own_via (fun t k => XS.icmpNo X0.here hx rfl (hb hby own_d1_12) rfl (teq hc3).2 k) ?_
      show own_G p e below _ (s₁.setTop (mkF m 15 #[.val (.int p0), .val (.int p1), .val (.int vg1)] []))
      refine own_via (fun t k => XS.iloadN X0.here hx rfl (hb hby own_d1_15) rfl k) ?_
      show own_G p e below _ (s₁.setTop (mkF m 16 #[.val (.int p0), .val (.int p1), .val (.int vg1)] [(.int p0)]))
      refine own_via (fun t k => XS.bipush X0.here hx rfl (hb hby own_d1_16) k) ?_
      show own_G p e below _ (s₁.setTop (mkF m 18 #[.val (.int p0), .val (.int p1), .val (.int vg1)] [(.int (15 : Int32)), (.int p0)]))
      refine own_via (fun t k => XS.iand X0.here hx rfl (hb hby own_d1_18) rfl k) ?_
      show own_G p e below _ (s₁.setTop (mkF m 19 #[.val (.int p0), .val (.int p1), .val (.int vg1)] [(.int (p0 &&& (15 : Int32)))]))
      exact own_retI X0 hx Bd.returns Bd.notSynchronized (hb hby own_d1_19) ⟨by show (some (.int (p0 &&& (15 : Int32))) : Option Value) = some (.int (own_F1 p0 p1)); subst hvg1; simp only [own_F1, if_neg hc2, if_pos hc3], rfl, e0⟩ (by decide) (by decide)
    ·
      refine own_via (fun t k => XS.icmpYes X0.here hx rfl (pc0 := 12) (pc' := 20) rfl (hb hby own_d1_12) rfl (feq hc3).2 (by decide) (by decide) k) ?_
      show own_G p e below _ (s₁.setTop (mkF m 20 #[.val (.int p0), .val (.int p1), .val (.int vg1)] []))
      refine own_via (fun t k => XS.iloadN X0.here hx rfl (hb hby own_d1_20) rfl k) ?_
      show own_G p e below _ (s₁.setTop (mkF m 21 #[.val (.int p0), .val (.int p1), .val (.int vg1)] [(.int vg1)]))
      refine own_via (fun t k => XS.iconst X0.here hx rfl (hb hby own_d1_21) k) ?_
      show own_G p e below _ (s₁.setTop (mkF m 22 #[.val (.int p0), .val (.int p1), .val (.int vg1)] [(.int (2 : Int32)), (.int vg1)]))
      by_cases hc4 : vg1 = (2 : Int32)
      ·
        refine own_via (fun t k => XS.icmpNo X0.here hx rfl (hb hby own_d1_22) rfl (teq hc4).2 k) ?_
        show own_G p e below _ (s₁.setTop (mkF m 25 #[.val (.int p0), .val (.int p1), .val (.int vg1)] []))
        refine own_via (fun t k => XS.iloadN X0.here hx rfl (hb hby own_d1_25) rfl k) ?_
        show own_G p e below _ (s₁.setTop (mkF m 26 #[.val (.int p0), .val (.int p1), .val (.int vg1)] [(.int p0)]))
        refine own_via (fun t k => XS.iconst X0.here hx rfl (hb hby own_d1_26) k) ?_
        show own_G p e below _ (s₁.setTop (mkF m 27 #[.val (.int p0), .val (.int p1), .val (.int vg1)] [(.int (1 : Int32)), (.int p0)]))
        refine own_via (fun t k => XS.iand X0.here hx rfl (hb hby own_d1_27) rfl k) ?_
        show own_G p e below _ (s₁.setTop (mkF m 28 #[.val (.int p0), .val (.int p1), .val (.int vg1)] [(.int (p0 &&& (1 : Int32)))]))
        refine own_via (fun t k => XS.iconst X0.here hx rfl (hb hby own_d1_28) k) ?_
        show own_G p e below _ (s₁.setTop (mkF m 29 #[.val (.int p0), .val (.int p1), .val (.int vg1)] [(.int (1 : Int32)), (.int (p0 &&& (1 : Int32)))]))
        refine own_via (fun t k => XS.isub X0.here hx rfl (hb hby own_d1_29) rfl k) ?_
        show own_G p e below _ (s₁.setTop (mkF m 30 #[.val (.int p0), .val (.int p1), .val (.int vg1)] [(.int ((p0 &&& (1 : Int32)) - (1 : Int32)))]))
        exact own_retI X0 hx Bd.returns Bd.notSynchronized (hb hby own_d1_30) ⟨by show (some (.int ((p0 &&& (1 : Int32)) - (1 : Int32))) : Option Value) = some (.int (own_F1 p0 p1)); subst hvg1; simp only [own_F1, if_neg hc2, if_neg hc3, if_pos hc4], rfl, e0⟩ (by decide) (by decide)
      ·
        refine own_via (fun t k => XS.icmpYes X0.here hx rfl (pc0 := 22) (pc' := 31) rfl (hb hby own_d1_22) rfl (feq hc4).2 (by decide) (by decide) k) ?_
        show own_G p e below _ (s₁.setTop (mkF m 31 #[.val (.int p0), .val (.int p1), .val (.int vg1)] []))
        refine own_via (fun t k => XS.iloadN X0.here hx rfl (hb hby own_d1_31) rfl k) ?_
        show own_G p e below _ (s₁.setTop (mkF m 32 #[.val (.int p0), .val (.int p1), .val (.int vg1)] [(.int p0)]))
        refine own_via (fun t k => XS.bipush X0.here hx rfl (hb hby own_d1_32) k) ?_
        show own_G p e below _ (s₁.setTop (mkF m 34 #[.val (.int p0), .val (.int p1), .val (.int vg1)] [(.int (127 : Int32)), (.int p0)]))
        refine own_via (fun t k => XS.iand X0.here hx rfl (hb hby own_d1_34) rfl k) ?_
        show own_G p e below _ (s₁.setTop (mkF m 35 #[.val (.int p0), .val (.int p1), .val (.int vg1)] [(.int (p0 &&& (127 : Int32)))]))
        exact own_retI X0 hx Bd.returns Bd.notSynchronized (hb hby own_d1_35) ⟨by show (some (.int (p0 &&& (127 : Int32))) : Option Value) = some (.int (own_F1 p0 p1)); subst hvg1; simp only [own_F1, if_neg hc2, if_neg hc3, if_neg hc4], rfl, e0⟩ (by decide) (by decide)
theorem own_d2_0 : decode prog_16_method_7_code 0 = .ok (.getstatic 76, 3) := by decide +kernel
theorem own_d2_3 : decode prog_16_method_7_code 3 = .ok (.astore_n 1, 1) := by decide +kernel
theorem own_d2_4 : decode prog_16_method_7_code 4 = .ok (.aload_n 1, 1) := by decide +kernel
theorem own_d2_5 : decode prog_16_method_7_code 5 = .ok (.arraylength, 1) := by decide +kernel
theorem own_d2_6 : decode prog_16_method_7_code 6 = .ok (.istore_n 2, 1) := by decide +kernel
theorem own_d2_7 : decode prog_16_method_7_code 7 = .ok (.iconst 0, 1) := by decide +kernel
theorem own_d2_8 : decode prog_16_method_7_code 8 = .ok (.istore_n 3, 1) := by decide +kernel
theorem own_d2_9 : decode prog_16_method_7_code 9 = .ok (.iload_n 3, 1) := by decide +kernel
theorem own_d2_10 : decode prog_16_method_7_code 10 = .ok (.iload_n 2, 1) := by decide +kernel
theorem own_d2_11 : decode prog_16_method_7_code 11 = .ok (.if_icmp .ge 30, 3) := by decide +kernel
theorem own_d2_14 : decode prog_16_method_7_code 14 = .ok (.aload_n 1, 1) := by decide +kernel
theorem own_d2_15 : decode prog_16_method_7_code 15 = .ok (.iload_n 3, 1) := by decide +kernel
theorem own_d2_16 : decode prog_16_method_7_code 16 = .ok (.aaload, 1) := by decide +kernel
theorem own_d2_17 : decode prog_16_method_7_code 17 = .ok (.astore 4, 2) := by decide +kernel
theorem own_d2_19 : decode prog_16_method_7_code 19 = .ok (.iload_n 0, 1) := by decide +kernel
theorem own_d2_20 : decode prog_16_method_7_code 20 = .ok (.ifCond .lt 15, 3) := by decide +kernel
theorem own_d2_35 : decode prog_16_method_7_code 35 = .ok (.iinc 3 1, 3) := by decide +kernel
theorem own_d2_38 : decode prog_16_method_7_code 38 = .ok (.goto (-29), 3) := by decide +kernel
theorem own_d2_41 : decode prog_16_method_7_code 41 = .ok (.aconst_null, 1) := by decide +kernel
theorem own_d2_42 : decode prog_16_method_7_code 42 = .ok (.areturn, 1) := by decide +kernel
abbrev own_ofN_R : Room := { frames := 0, cells := 0, slots := 0, locals := 0 }
theorem own_pn2 : plainFor (⟨"com/example/loudmark/loudmark/core/AudioEncoding", "ofStaticPayloadType", "(I)Lcom/example/loudmark/loudmark/core/AudioEncoding;"⟩ : MethodName) = true := plainFor_of_name (by first | (simp [plainName, overriddenIn]; done) | decide +kernel)
theorem own_ofN_ef (m : MethodId) (p1 : Int32) : entryFrame m #[(.int p1)] 5 = mkF m 0 #[.val (.int p1), .unset, .unset, .unset, .unset] [] := by first | (simp [entryFrame, mkF, argsToLocals, Value.category]; done) | rfl
set_option maxRecDepth 65536 in
set_option maxHeartbeats 40000000 in
theorem own_ofN (l : Launch) (Z : State) (a0 : Array Value) (hw : ∀ d ∈ tables_1, d.before a0 Z = true) (ws : List Jvm.Cond) (p1 : Int32) (r1 : Addr) (k1 : ClassId) (y0 : Addr) (y1 : Addr) (y2 : Addr) (y3 : Addr) (h0 : Heap)  (i_S1 : Sta Z h0 "com/example/loudmark/loudmark/core/AudioEncoding" "ENCODINGS" "[Lcom/example/loudmark/loudmark/core/AudioEncoding;" (.ref r1)) (i_V1 : Arv Z h0 r1 k1 (.object "com/example/loudmark/loudmark/core/AudioEncoding") (4 : Int32) [(.ref y0), (.ref y1), (.ref y2), (.ref y3)] .null) (i_F0 : Fld Z h0 y0 "com/example/loudmark/loudmark/core/AudioEncoding" "staticPayloadType" "I" (.int (-1 : Int32))) (i_F1 : Fld Z h0 y1 "com/example/loudmark/loudmark/core/AudioEncoding" "staticPayloadType" "I" (.int (-1 : Int32))) (i_F2 : Fld Z h0 y2 "com/example/loudmark/loudmark/core/AudioEncoding" "staticPayloadType" "I" (.int (8 : Int32))) (i_F3 : Fld Z h0 y3 "com/example/loudmark/loudmark/core/AudioEncoding" "staticPayloadType" "I" (.int (0 : Int32))) (hp_h0 : p1 < (0 : Int32)) :
    own_C l Z (⟨"com/example/loudmark/loudmark/core/AudioEncoding", "ofStaticPayloadType", "(I)Lcom/example/loudmark/loudmark/core/AudioEncoding;"⟩ : MethodName) prog_16_method_7_code 5 (some (.object "com/example/loudmark/loudmark/core/AudioEncoding")) ws own_ofN_R #[(.int p1)] h0 (own_Q .null h0) := by
  refine MetFree.of_bodySF own_pn2 hisR ?_
  intro p e s m args below meth c s₁ Bd hml0 hP hK
  obtain ⟨rfl, hZ, hh⟩ := hP
  have hx := Bd.exec
  have hby := Bd.bytes
  have hml : c.maxLocals = 5 := hml0
  have hown : s.vm.findClass "com/example/loudmark/loudmark/core/AudioEncoding" = some m.cls := findClass_of_methodNamed Bd.named
  have hnm := (name_of_methodNamed Bd.named Bd.method).1
  have X0 : Stand p l e own_ofN_R s m #[(.int p1)] below meth c s₁ [] 0 0 := Stand.of_body Bd
  have e0 : s₁.heap = h0 := by rw [← hh, Bd.state]; rfl
  show own_G p e below (own_P s (own_Q .null h0) own_ofN_R.cells own_ofN_R.slots) (s₁.setTop (entryFrame m #[(.int p1)] 5))
  rw [own_ofN_ef m p1]
  show own_G p e below _ (s₁.setTop (mkF m 0 #[.val (.int p1), .unset, .unset, .unset, .unset] []))
  obtain ⟨T1, X1, e1, st1⟩ := getS2 X0 hx hZ hown (host := "") (Or.inl (hw _ (List.mem_of_getElem? (i := 8) rfl))) Via.refl e0 i_S1 (g := (mkF m 0 #[.val (.int p1), .unset, .unset, .unset, .unset] [])) rfl (hb hby own_d2_0)
  refine own_via st1 ?_
  show own_G p e below _ (T1.setTop (mkF m 3 #[.val (.int p1), .unset, .unset, .unset, .unset] [(.ref r1)]))
  refine own_via (fun t k => XS.astoreN X1.here hx rfl (hb hby own_d2_3) rfl rfl (l' := #[.val (.int p1), .val (.ref r1), .unset, .unset, .unset]) rfl k) ?_
  show own_G p e below _ (T1.setTop (mkF m 4 #[.val (.int p1), .val (.ref r1), .unset, .unset, .unset] []))
  refine own_via (fun t k => XS.aloadN X1.here hx rfl (hb hby own_d2_4) rfl rfl k) ?_
  show own_G p e below _ (T1.setTop (mkF m 5 #[.val (.int p1), .val (.ref r1), .unset, .unset, .unset] [(.ref r1)]))
  refine own_via (own_len X1 hx hZ e1 i_V1 (pc := 5) (Ls := #[.val (.int p1), .val (.ref r1), .unset, .unset, .unset]) (rest := []) (hb hby own_d2_5)) ?_
  show own_G p e below _ (T1.setTop (mkF m 6 #[.val (.int p1), .val (.ref r1), .unset, .unset, .unset] [(.int (4 : Int32))]))
  refine own_via (fun t k => XS.istoreN X1.here hx rfl (hb hby own_d2_6) rfl (l' := #[.val (.int p1), .val (.ref r1), .val (.int (4 : Int32)), .unset, .unset]) rfl k) ?_
  show own_G p e below _ (T1.setTop (mkF m 7 #[.val (.int p1), .val (.ref r1), .val (.int (4 : Int32)), .unset, .unset] []))
  refine own_via (fun t k => XS.iconst X1.here hx rfl (hb hby own_d2_7) k) ?_
  show own_G p e below _ (T1.setTop (mkF m 8 #[.val (.int p1), .val (.ref r1), .val (.int (4 : Int32)), .unset, .unset] [(.int (0 : Int32))]))
  refine own_via (fun t k => XS.istoreN X1.here hx rfl (hb hby own_d2_8) rfl (l' := #[.val (.int p1), .val (.ref r1), .val (.int (4 : Int32)), .val (.int (0 : Int32)), .unset]) rfl k) ?_
  show own_G p e below _ (T1.setTop (mkF m 9 #[.val (.int p1), .val (.ref r1), .val (.int (4 : Int32)), .val (.int (0 : Int32)), .unset] []))
  refine own_via (fun t k => XS.iloadN X1.here hx rfl (hb hby own_d2_9) rfl k) ?_
  show own_G p e below _ (T1.setTop (mkF m 10 #[.val (.int p1), .val (.ref r1), .val (.int (4 : Int32)), .val (.int (0 : Int32)), .unset] [(.int (0 : Int32))]))
  refine own_via (fun t k => XS.iloadN X1.here hx rfl (hb hby own_d2_10) rfl k) ?_
  show own_G p e below _ (T1.setTop (mkF m 11 #[.val (.int p1), .val (.ref r1), .val (.int (4 : Int32)), .val (.int (0 : Int32)), .unset] [(.int (4 : Int32)), (.int (0 : Int32))]))
  refine own_via (fun t k => XS.icmpNo X1.here hx rfl (hb hby own_d2_11) rfl (tlt (by decide : (0 : Int32) < (4 : Int32))).2.1 k) ?_
  show own_G p e below _ (T1.setTop (mkF m 14 #[.val (.int p1), .val (.ref r1), .val (.int (4 : Int32)), .val (.int (0 : Int32)), .unset] []))
  refine own_via (fun t k => XS.aloadN X1.here hx rfl (hb hby own_d2_14) rfl rfl k) ?_
  show own_G p e below _ (T1.setTop (mkF m 15 #[.val (.int p1), .val (.ref r1), .val (.int (4 : Int32)), .val (.int (0 : Int32)), .unset] [(.ref r1)]))
  refine own_via (fun t k => XS.iloadN X1.here hx rfl (hb hby own_d2_15) rfl k) ?_
  show own_G p e below _ (T1.setTop (mkF m 16 #[.val (.int p1), .val (.ref r1), .val (.int (4 : Int32)), .val (.int (0 : Int32)), .unset] [(.int (0 : Int32)), (.ref r1)]))
  refine own_via (own_ldA X1 hx hZ e1 i_V1 rfl (j := (0 : Int32)) ⟨by decide, by decide⟩ (v := (.ref y0)) rfl (pc := 16) (Ls := #[.val (.int p1), .val (.ref r1), .val (.int (4 : Int32)), .val (.int (0 : Int32)), .unset]) (rest := []) (hb hby own_d2_16)) ?_
  show own_G p e below _ (T1.setTop (mkF m 17 #[.val (.int p1), .val (.ref r1), .val (.int (4 : Int32)), .val (.int (0 : Int32)), .unset] [(.ref y0)]))
  refine own_via (fun t k => XS.astore X1.here hx rfl (hb hby own_d2_17) rfl rfl (l' := #[.val (.int p1), .val (.ref r1), .val (.int (4 : Int32)), .val (.int (0 : Int32)), .val (.ref y0)]) rfl k) ?_
  show own_G p e below _ (T1.setTop (mkF m 19 #[.val (.int p1), .val (.ref r1), .val (.int (4 : Int32)), .val (.int (0 : Int32)), .val (.ref y0)] []))
  refine own_via (fun t k => XS.iloadN X1.here hx rfl (hb hby own_d2_19) rfl k) ?_
  show own_G p e below _ (T1.setTop (mkF m 20 #[.val (.int p1), .val (.ref r1), .val (.int (4 : Int32)), .val (.int (0 : Int32)), .val (.ref y0)] [(.int p1)]))
  refine own_via (fun t k => XS.ifYes X1.here hx rfl (pc0 := 20) (pc' := 35) rfl (hb hby own_d2_20) rfl ((if0 _ _).trans (tlt hp_h0).1) (by decide) (by decide) k) ?_
  show own_G p e below _ (T1.setTop (mkF m 35 #[.val (.int p1), .val (.ref r1), .val (.int (4 : Int32)), .val (.int (0 : Int32)), .val (.ref y0)] []))
  refine own_via (fun t k => XS.iinc X1.here hx rfl (hb hby own_d2_35) rfl (l' := #[.val (.int p1), .val (.ref r1), .val (.int (4 : Int32)), .val (.int (1 : Int32)), .val (.ref y0)]) rfl k) ?_
  show own_G p e below _ (T1.setTop (mkF m 38 #[.val (.int p1), .val (.ref r1), .val (.int (4 : Int32)), .val (.int (1 : Int32)), .val (.ref y0)] []))
  refine own_via (fun t k => XS.goto X1.here hx rfl (pc0 := 38) (pc' := 9) rfl (hb hby own_d2_38) (by decide) (by decide) k) ?_
  show own_G p e below _ (T1.setTop (mkF m 9 #[.val (.int p1), .val (.ref r1), .val (.int (4 : Int32)), .val (.int (1 : Int32)), .val (.ref y0)] []))
  refine own_via (fun t k => XS.iloadN X1.here hx rfl (hb hby own_d2_9) rfl k) ?_
  show own_G p e below _ (T1.setTop (mkF m 10 #[.val (.int p1), .val (.ref r1), .val (.int (4 : Int32)), .val (.int (1 : Int32)), .val (.ref y0)] [(.int (1 : Int32))]))
  refine own_via (fun t k => XS.iloadN X1.here hx rfl (hb hby own_d2_10) rfl k) ?_
  show own_G p e below _ (T1.setTop (mkF m 11 #[.val (.int p1), .val (.ref r1), .val (.int (4 : Int32)), .val (.int (1 : Int32)), .val (.ref y0)] [(.int (4 : Int32)), (.int (1 : Int32))]))
  refine own_via (fun t k => XS.icmpNo X1.here hx rfl (hb hby own_d2_11) rfl (tlt (by decide : (1 : Int32) < (4 : Int32))).2.1 k) ?_
  show own_G p e below _ (T1.setTop (mkF m 14 #[.val (.int p1), .val (.ref r1), .val (.int (4 : Int32)), .val (.int (1 : Int32)), .val (.ref y0)] []))
  refine own_via (fun t k => XS.aloadN X1.here hx rfl (hb hby own_d2_14) rfl rfl k) ?_
  show own_G p e below _ (T1.setTop (mkF m 15 #[.val (.int p1), .val (.ref r1), .val (.int (4 : Int32)), .val (.int (1 : Int32)), .val (.ref y0)] [(.ref r1)]))
  refine own_via (fun t k => XS.iloadN X1.here hx rfl (hb hby own_d2_15) rfl k) ?_
  show own_G p e below _ (T1.setTop (mkF m 16 #[.val (.int p1), .val (.ref r1), .val (.int (4 : Int32)), .val (.int (1 : Int32)), .val (.ref y0)] [(.int (1 : Int32)), (.ref r1)]))
  refine own_via (own_ldA X1 hx hZ e1 i_V1 rfl (j := (1 : Int32)) ⟨by decide, by decide⟩ (v := (.ref y1)) rfl (pc := 16) (Ls := #[.val (.int p1), .val (.ref r1), .val (.int (4 : Int32)), .val (.int (1 : Int32)), .val (.ref y0)]) (rest := []) (hb hby own_d2_16)) ?_
  show own_G p e below _ (T1.setTop (mkF m 17 #[.val (.int p1), .val (.ref r1), .val (.int (4 : Int32)), .val (.int (1 : Int32)), .val (.ref y0)] [(.ref y1)]))
  refine own_via (fun t k => XS.astore X1.here hx rfl (hb hby own_d2_17) rfl rfl (l' := #[.val (.int p1), .val (.ref r1), .val (.int (4 : Int32)), .val (.int (1 : Int32)), .val (.ref y1)]) rfl k) ?_
  show own_G p e below _ (T1.setTop (mkF m 19 #[.val (.int p1), .val (.ref r1), .val (.int (4 : Int32)), .val (.int (1 : Int32)), .val (.ref y1)] []))
  refine own_via (fun t k => XS.iloadN X1.here hx rfl (hb hby own_d2_19) rfl k) ?_
  show own_G p e below _ (T1.setTop (mkF m 20 #[.val (.int p1), .val (.ref r1), .val (.int (4 : Int32)), .val (.int (1 : Int32)), .val (.ref y1)] [(.int p1)]))
  refine own_via (fun t k => XS.ifYes X1.here hx rfl (pc0 := 20) (pc' := 35) rfl (hb hby own_d2_20) rfl ((if0 _ _).trans (tlt hp_h0).1) (by decide) (by decide) k) ?_
  show own_G p e below _ (T1.setTop (mkF m 35 #[.val (.int p1), .val (.ref r1), .val (.int (4 : Int32)), .val (.int (1 : Int32)), .val (.ref y1)] []))
  refine own_via (fun t k => XS.iinc X1.here hx rfl (hb hby own_d2_35) rfl (l' := #[.val (.int p1), .val (.ref r1), .val (.int (4 : Int32)), .val (.int (2 : Int32)), .val (.ref y1)]) rfl k) ?_
  show own_G p e below _ (T1.setTop (mkF m 38 #[.val (.int p1), .val (.ref r1), .val (.int (4 : Int32)), .val (.int (2 : Int32)), .val (.ref y1)] []))
  refine own_via (fun t k => XS.goto X1.here hx rfl (pc0 := 38) (pc' := 9) rfl (hb hby own_d2_38) (by decide) (by decide) k) ?_
  show own_G p e below _ (T1.setTop (mkF m 9 #[.val (.int p1), .val (.ref r1), .val (.int (4 : Int32)), .val (.int (2 : Int32)), .val (.ref y1)] []))
  refine own_via (fun t k => XS.iloadN X1.here hx rfl (hb hby own_d2_9) rfl k) ?_
  show own_G p e below _ (T1.setTop (mkF m 10 #[.val (.int p1), .val (.ref r1), .val (.int (4 : Int32)), .val (.int (2 : Int32)), .val (.ref y1)] [(.int (2 : Int32))]))
  refine own_via (fun t k => XS.iloadN X1.here hx rfl (hb hby own_d2_10) rfl k) ?_
  show own_G p e below _ (T1.setTop (mkF m 11 #[.val (.int p1), .val (.ref r1), .val (.int (4 : Int32)), .val (.int (2 : Int32)), .val (.ref y1)] [(.int (4 : Int32)), (.int (2 : Int32))]))
  refine own_via (fun t k => XS.icmpNo X1.here hx rfl (hb hby own_d2_11) rfl (tlt (by decide : (2 : Int32) < (4 : Int32))).2.1 k) ?_
  show own_G p e below _ (T1.setTop (mkF m 14 #[.val (.int p1), .val (.ref r1), .val (.int (4 : Int32)), .val (.int (2 : Int32)), .val (.ref y1)] []))
  refine own_via (fun t k => XS.aloadN X1.here hx rfl (hb hby own_d2_14) rfl rfl k) ?_
  show own_G p e below _ (T1.setTop (mkF m 15 #[.val (.int p1), .val (.ref r1), .val (.int (4 : Int32)), .val (.int (2 : Int32)), .val (.ref y1)] [(.ref r1)]))
  refine own_via (fun t k => XS.iloadN X1.here hx rfl (hb hby own_d2_15) rfl k) ?_
  show own_G p e below _ (T1.setTop (mkF m 16 #[.val (.int p1), .val (.ref r1), .val (.int (4 : Int32)), .val (.int (2 : Int32)), .val (.ref y1)] [(.int (2 : Int32)), (.ref r1)]))
  refine own_via (own_ldA X1 hx hZ e1 i_V1 rfl (j := (2 : Int32)) ⟨by decide, by decide⟩ (v := (.ref y2)) rfl (pc := 16) (Ls := #[.val (.int p1), .val (.ref r1), .val (.int (4 : Int32)), .val (.int (2 : Int32)), .val (.ref y1)]) (rest := []) (hb hby own_d2_16)) ?_
  show own_G p e below _ (T1.setTop (mkF m 17 #[.val (.int p1), .val (.ref r1), .val (.int (4 : Int32)), .val (.int (2 : Int32)), .val (.ref y1)] [(.ref y2)]))
  refine own_via (fun t k => XS.astore X1.here hx rfl (hb hby own_d2_17) rfl rfl (l' := #[.val (.int p1), .val (.ref r1), .val (.int (4 : Int32)), .val (.int (2 : Int32)), .val (.ref y2)]) rfl k) ?_
  show own_G p e below _ (T1.setTop (mkF m 19 #[.val (.int p1), .val (.ref r1), .val (.int (4 : Int32)), .val (.int (2 : Int32)), .val (.ref y2)] []))
  refine own_via (fun t k => XS.iloadN X1.here hx rfl (hb hby own_d2_19) rfl k) ?_
  show own_G p e below _ (T1.setTop (mkF m 20 #[.val (.int p1), .val (.ref r1), .val (.int (4 : Int32)), .val (.int (2 : Int32)), .val (.ref y2)] [(.int p1)]))
  refine own_via (fun t k => XS.ifYes X1.here hx rfl (pc0 := 20) (pc' := 35) rfl (hb hby own_d2_20) rfl ((if0 _ _).trans (tlt hp_h0).1) (by decide) (by decide) k) ?_
  show own_G p e below _ (T1.setTop (mkF m 35 #[.val (.int p1), .val (.ref r1), .val (.int (4 : Int32)), .val (.int (2 : Int32)), .val (.ref y2)] []))
  refine own_via (fun t k => XS.iinc X1.here hx rfl (hb hby own_d2_35) rfl (l' := #[.val (.int p1), .val (.ref r1), .val (.int (4 : Int32)), .val (.int (3 : Int32)), .val (.ref y2)]) rfl k) ?_
  show own_G p e below _ (T1.setTop (mkF m 38 #[.val (.int p1), .val (.ref r1), .val (.int (4 : Int32)), .val (.int (3 : Int32)), .val (.ref y2)] []))
  refine own_via (fun t k => XS.goto X1.here hx rfl (pc0 := 38) (pc' := 9) rfl (hb hby own_d2_38) (by decide) (by decide) k) ?_
  show own_G p e below _ (T1.setTop (mkF m 9 #[.val (.int p1), .val (.ref r1), .val (.int (4 : Int32)), .val (.int (3 : Int32)), .val (.ref y2)] []))
  refine own_via (fun t k => XS.iloadN X1.here hx rfl (hb hby own_d2_9) rfl k) ?_
  show own_G p e below _ (T1.setTop (mkF m 10 #[.val (.int p1), .val (.ref r1), .val (.int (4 : Int32)), .val (.int (3 : Int32)), .val (.ref y2)] [(.int (3 : Int32))]))
  refine own_via (fun t k => XS.iloadN X1.here hx rfl (hb hby own_d2_10) rfl k) ?_
  show own_G p e below _ (T1.setTop (mkF m 11 #[.val (.int p1), .val (.ref r1), .val (.int (4 : Int32)), .val (.int (3 : Int32)), .val (.ref y2)] [(.int (4 : Int32)), (.int (3 : Int32))]))
  refine own_via (fun t k => XS.icmpNo X1.here hx rfl (hb hby own_d2_11) rfl (tlt (by decide : (3 : Int32) < (4 : Int32))).2.1 k) ?_
  show own_G p e below _ (T1.setTop (mkF m 14 #[.val (.int p1), .val (.ref r1), .val (.int (4 : Int32)), .val (.int (3 : Int32)), .val (.ref y2)] []))
  refine own_via (fun t k => XS.aloadN X1.here hx rfl (hb hby own_d2_14) rfl rfl k) ?_
  show own_G p e below _ (T1.setTop (mkF m 15 #[.val (.int p1), .val (.ref r1), .val (.int (4 : Int32)), .val (.int (3 : Int32)), .val (.ref y2)] [(.ref r1)]))
  refine own_via (fun t k => XS.iloadN X1.here hx rfl (hb hby own_d2_15) rfl k) ?_
  show own_G p e below _ (T1.setTop (mkF m 16 #[.val (.int p1), .val (.ref r1), .val (.int (4 : Int32)), .val (.int (3 : Int32)), .val (.ref y2)] [(.int (3 : Int32)), (.ref r1)]))
  refine own_via (own_ldA X1 hx hZ e1 i_V1 rfl (j := (3 : Int32)) ⟨by decide, by decide⟩ (v := (.ref y3)) rfl (pc := 16) (Ls := #[.val (.int p1), .val (.ref r1), .val (.int (4 : Int32)), .val (.int (3 : Int32)), .val (.ref y2)]) (rest := []) (hb hby own_d2_16)) ?_
  show own_G p e below _ (T1.setTop (mkF m 17 #[.val (.int p1), .val (.ref r1), .val (.int (4 : Int32)), .val (.int (3 : Int32)), .val (.ref y2)] [(.ref y3)]))
  refine own_via (fun t k => XS.astore X1.here hx rfl (hb hby own_d2_17) rfl rfl (l' := #[.val (.int p1), .val (.ref r1), .val (.int (4 : Int32)), .val (.int (3 : Int32)), .val (.ref y3)]) rfl k) ?_
  show own_G p e below _ (T1.setTop (mkF m 19 #[.val (.int p1), .val (.ref r1), .val (.int (4 : Int32)), .val (.int (3 : Int32)), .val (.ref y3)] []))
  refine own_via (fun t k => XS.iloadN X1.here hx rfl (hb hby own_d2_19) rfl k) ?_
  show own_G p e below _ (T1.setTop (mkF m 20 #[.val (.int p1), .val (.ref r1), .val (.int (4 : Int32)), .val (.int (3 : Int32)), .val (.ref y3)] [(.int p1)]))
  refine own_via (fun t k => XS.ifYes X1.here hx rfl (pc0 := 20) (pc' := 35) rfl (hb hby own_d2_20) rfl ((if0 _ _).trans (tlt hp_h0).1) (by decide) (by decide) k) ?_
  show own_G p e below _ (T1.setTop (mkF m 35 #[.val (.int p1), .val (.ref r1), .val (.int (4 : Int32)), .val (.int (3 : Int32)), .val (.ref y3)] []))
  refine own_via (fun t k => XS.iinc X1.here hx rfl (hb hby own_d2_35) rfl (l' := #[.val (.int p1), .val (.ref r1), .val (.int (4 : Int32)), .val (.int (4 : Int32)), .val (.ref y3)]) rfl k) ?_
  show own_G p e below _ (T1.setTop (mkF m 38 #[.val (.int p1), .val (.ref r1), .val (.int (4 : Int32)), .val (.int (4 : Int32)), .val (.ref y3)] []))
  refine own_via (fun t k => XS.goto X1.here hx rfl (pc0 := 38) (pc' := 9) rfl (hb hby own_d2_38) (by decide) (by decide) k) ?_
  show own_G p e below _ (T1.setTop (mkF m 9 #[.val (.int p1), .val (.ref r1), .val (.int (4 : Int32)), .val (.int (4 : Int32)), .val (.ref y3)] []))
  refine own_via (fun t k => XS.iloadN X1.here hx rfl (hb hby own_d2_9) rfl k) ?_
  show own_G p e below _ (T1.setTop (mkF m 10 #[.val (.int p1), .val (.ref r1), .val (.int (4 : Int32)), .val (.int (4 : Int32)), .val (.ref y3)] [(.int (4 : Int32))]))
  refine own_via (fun t k => XS.iloadN X1.here hx rfl (hb hby own_d2_10) rfl k) ?_
  show own_G p e below _ (T1.setTop (mkF m 11 #[.val (.int p1), .val (.ref r1), .val (.int (4 : Int32)), .val (.int (4 : Int32)), .val (.ref y3)] [(.int (4 : Int32)), (.int (4 : Int32))]))
  refine own_via (fun t k => XS.icmpYes X1.here hx rfl (pc0 := 11) (pc' := 41) rfl (hb hby own_d2_11) rfl (flt (by decide : ¬ ((4 : Int32) < (4 : Int32)))).2.1 (by decide) (by decide) k) ?_
  show own_G p e below _ (T1.setTop (mkF m 41 #[.val (.int p1), .val (.ref r1), .val (.int (4 : Int32)), .val (.int (4 : Int32)), .val (.ref y3)] []))
  refine own_via (fun t k => XS.aconstNull X1.here hx rfl (hb hby own_d2_41) k) ?_
  show own_G p e below _ (T1.setTop (mkF m 42 #[.val (.int p1), .val (.ref r1), .val (.int (4 : Int32)), .val (.int (4 : Int32)), .val (.ref y3)] [.null]))
  exact own_retA X1 hx Bd.returns rfl rfl Bd.notSynchronized (hb hby own_d2_42) ⟨rfl, rfl, e1⟩ (by decide) (by decide)
theorem own_d3_0 : decode method_3_code 0 = .ok (.iload_n 0, 1) := by decide +kernel
theorem own_d3_1 : decode method_3_code 1 = .ok (.bipush 8, 2) := by decide +kernel
theorem own_d3_3 : decode method_3_code 3 = .ok (.if_icmp .ne 7, 3) := by decide +kernel
theorem own_d3_10 : decode method_3_code 10 = .ok (.iload_n 0, 1) := by decide +kernel
theorem own_d3_11 : decode method_3_code 11 = .ok (.ifCond .ne 7, 3) := by decide +kernel
theorem own_d3_18 : decode method_3_code 18 = .ok (.aconst_null, 1) := by decide +kernel
theorem own_d3_19 : decode method_3_code 19 = .ok (.areturn, 1) := by decide +kernel
abbrev own_exN_R : Room := { frames := 0, cells := 0, slots := 0, locals := 0 }
theorem own_pn3 : plainFor (⟨"com/example/loudmark/loudmark/core/AudioEncodingOfStaticPayloadTypePinLaw", "expected", "(I)Lcom/example/loudmark/loudmark/core/AudioEncoding;"⟩ : MethodName) = true := plainFor_of_name (by first | (simp [plainName, overriddenIn]; done) | decide +kernel)
theorem own_exN_ef (m : MethodId) (p1 : Int32) : entryFrame m #[(.int p1)] 1 = mkF m 0 #[.val (.int p1)] [] := by first | (simp [entryFrame, mkF, argsToLocals, Value.category]; done) | rfl
set_option maxRecDepth 65536 in
set_option maxHeartbeats 40000000 in
theorem own_exN (l : Launch) (Z : State) (a0 : Array Value) (hw : ∀ d ∈ tables_1, d.before a0 Z = true) (ws : List Jvm.Cond) (p1 : Int32) (y2 : Addr) (y3 : Addr) (h0 : Heap)  (i_S2 : Sta Z h0 "com/example/loudmark/loudmark/core/AudioEncoding" "PCMA" "Lcom/example/loudmark/loudmark/core/AudioEncoding;" (.ref y2)) (i_S3 : Sta Z h0 "com/example/loudmark/loudmark/core/AudioEncoding" "PCMU" "Lcom/example/loudmark/loudmark/core/AudioEncoding;" (.ref y3)) (hp_h0 : p1 < (0 : Int32)) :
    own_C l Z (⟨"com/example/loudmark/loudmark/core/AudioEncodingOfStaticPayloadTypePinLaw", "expected", "(I)Lcom/example/loudmark/loudmark/core/AudioEncoding;"⟩ : MethodName) method_3_code 1 (some (.object "com/example/loudmark/loudmark/core/AudioEncoding")) ws own_exN_R #[(.int p1)] h0 (own_Q .null h0) := by
  refine MetFree.of_bodySF own_pn3 hisR ?_
  intro p e s m args below meth c s₁ Bd hml0 hP hK
  obtain ⟨rfl, hZ, hh⟩ := hP
  have hx := Bd.exec
  have hby := Bd.bytes
  have hml : c.maxLocals = 1 := hml0
  have hown : s.vm.findClass "com/example/loudmark/loudmark/core/AudioEncodingOfStaticPayloadTypePinLaw" = some m.cls := findClass_of_methodNamed Bd.named
  have hnm := (name_of_methodNamed Bd.named Bd.method).1
  have X0 : Stand p l e own_exN_R s m #[(.int p1)] below meth c s₁ [] 0 0 := Stand.of_body Bd
  have e0 : s₁.heap = h0 := by rw [← hh, Bd.state]; rfl
  show own_G p e below (own_P s (own_Q .null h0) own_exN_R.cells own_exN_R.slots) (s₁.setTop (entryFrame m #[(.int p1)] 1))
  rw [own_exN_ef m p1]
  show own_G p e below _ (s₁.setTop (mkF m 0 #[.val (.int p1)] []))
  refine own_via (fun t k => XS.iloadN X0.here hx rfl (hb hby own_d3_0) rfl k) ?_
  show own_G p e below _ (s₁.setTop (mkF m 1 #[.val (.int p1)] [(.int p1)]))
  refine own_via (fun t k => XS.bipush X0.here hx rfl (hb hby own_d3_1) k) ?_
  show own_G p e below _ (s₁.setTop (mkF m 3 #[.val (.int p1)] [(.int (8 : Int32)), (.int p1)]))
  refine own_via (fun t k => XS.icmpYes X0.here hx rfl (pc0 := 3) (pc' := 10) rfl (hb hby own_d3_3) rfl (feq (own_b9 (own_b1 hp_h0) (by decide))).2 (by decide) (by decide) k) ?_
  show own_G p e below _ (s₁.setTop (mkF m 10 #[.val (.int p1)] []))
  refine own_via (fun t k => XS.iloadN X0.here hx rfl (hb hby own_d3_10) rfl k) ?_
  show own_G p e below _ (s₁.setTop (mkF m 11 #[.val (.int p1)] [(.int p1)]))
  refine own_via (fun t k => XS.ifYes X0.here hx rfl (pc0 := 11) (pc' := 18) rfl (hb hby own_d3_11) rfl ((if0 _ _).trans (feq (own_b9 (own_b1 hp_h0) (by decide))).2) (by decide) (by decide) k) ?_
  show own_G p e below _ (s₁.setTop (mkF m 18 #[.val (.int p1)] []))
  refine own_via (fun t k => XS.aconstNull X0.here hx rfl (hb hby own_d3_18) k) ?_
  show own_G p e below _ (s₁.setTop (mkF m 19 #[.val (.int p1)] [.null]))
  exact own_retA X0 hx Bd.returns rfl rfl Bd.notSynchronized (hb hby own_d3_19) ⟨rfl, rfl, e0⟩ (by decide) (by decide)
theorem own_d2_23 : decode prog_16_method_7_code 23 = .ok (.aload 4, 2) := by decide +kernel
theorem own_d2_25 : decode prog_16_method_7_code 25 = .ok (.getfield 46, 3) := by decide +kernel
theorem own_d2_28 : decode prog_16_method_7_code 28 = .ok (.iload_n 0, 1) := by decide +kernel
theorem own_d2_29 : decode prog_16_method_7_code 29 = .ok (.if_icmp .ne 6, 3) := by decide +kernel
theorem own_d2_32 : decode prog_16_method_7_code 32 = .ok (.aload 4, 2) := by decide +kernel
theorem own_d2_34 : decode prog_16_method_7_code 34 = .ok (.areturn, 1) := by decide +kernel
abbrev own_ofA_R : Room := { frames := 0, cells := 0, slots := 0, locals := 0 }
theorem own_ofA_ef (m : MethodId) (p1 : Int32) : entryFrame m #[(.int p1)] 5 = mkF m 0 #[.val (.int p1), .unset, .unset, .unset, .unset] [] := by first | (simp [entryFrame, mkF, argsToLocals, Value.category]; done) | rfl
set_option maxRecDepth 65536 in
set_option maxHeartbeats 40000000 in
theorem own_ofA (l : Launch) (Z : State) (a0 : Array Value) (hw : ∀ d ∈ tables_1, d.before a0 Z = true) (ws : List Jvm.Cond) (p1 : Int32) (r1 : Addr) (k1 : ClassId) (y0 : Addr) (y1 : Addr) (y2 : Addr) (y3 : Addr) (h0 : Heap)  (i_S1 : Sta Z h0 "com/example/loudmark/loudmark/core/AudioEncoding" "ENCODINGS" "[Lcom/example/loudmark/loudmark/core/AudioEncoding;" (.ref r1)) (i_V1 : Arv Z h0 r1 k1 (.object "com/example/loudmark/loudmark/core/AudioEncoding") (4 : Int32) [(.ref y0), (.ref y1), (.ref y2), (.ref y3)] .null) (i_F0 : Fld Z h0 y0 "com/example/loudmark/loudmark/core/AudioEncoding" "staticPayloadType" "I" (.int (-1 : Int32))) (i_F1 : Fld Z h0 y1 "com/example/loudmark/loudmark/core/AudioEncoding" "staticPayloadType" "I" (.int (-1 : Int32))) (i_F2 : Fld Z h0 y2 "com/example/loudmark/loudmark/core/AudioEncoding" "staticPayloadType" "I" (.int (8 : Int32))) (i_F3 : Fld Z h0 y3 "com/example/loudmark/loudmark/core/AudioEncoding" "staticPayloadType" "I" (.int (0 : Int32))) (hp_h0 : p1 = (8 : Int32)) :
    own_C l Z (⟨"com/example/loudmark/loudmark/core/AudioEncoding", "ofStaticPayloadType", "(I)Lcom/example/loudmark/loudmark/core/AudioEncoding;"⟩ : MethodName) prog_16_method_7_code 5 (some (.object "com/example/loudmark/loudmark/core/AudioEncoding")) ws own_ofA_R #[(.int p1)] h0 (own_Q (.ref y2) h0) := by
  refine MetFree.of_bodySF own_pn2 hisR ?_
  intro p e s m args below meth c s₁ Bd hml0 hP hK
  obtain ⟨rfl, hZ, hh⟩ := hP
  have hx := Bd.exec
  have hby := Bd.bytes
  have hml : c.maxLocals = 5 := hml0
  have hown : s.vm.findClass "com/example/loudmark/loudmark/core/AudioEncoding" = some m.cls := findClass_of_methodNamed Bd.named
  have hnm := (name_of_methodNamed Bd.named Bd.method).1
  have X0 : Stand p l e own_ofA_R s m #[(.int p1)] below meth c s₁ [] 0 0 := Stand.of_body Bd
  have e0 : s₁.heap = h0 := by rw [← hh, Bd.state]; rfl
  show own_G p e below (own_P s (own_Q (.ref y2) h0) own_ofA_R.cells own_ofA_R.slots) (s₁.setTop (entryFrame m #[(.int p1)] 5))
  rw [own_ofA_ef m p1]
  show own_G p e below _ (s₁.setTop (mkF m 0 #[.val (.int p1), .unset, .unset, .unset, .unset] []))
  obtain ⟨T1, X1, e1, st1⟩ := getS2 X0 hx hZ hown (host := "") (Or.inl (hw _ (List.mem_of_getElem? (i := 8) rfl))) Via.refl e0 i_S1 (g := (mkF m 0 #[.val (.int p1), .unset, .unset, .unset, .unset] [])) rfl (hb hby own_d2_0)
  refine own_via st1 ?_
  show own_G p e below _ (T1.setTop (mkF m 3 #[.val (.int p1), .unset, .unset, .unset, .unset] [(.ref r1)]))
  refine own_via (fun t k => XS.astoreN X1.here hx rfl (hb hby own_d2_3) rfl rfl (l' := #[.val (.int p1), .val (.ref r1), .unset, .unset, .unset]) rfl k) ?_
  show own_G p e below _ (T1.setTop (mkF m 4 #[.val (.int p1), .val (.ref r1), .unset, .unset, .unset] []))
  refine own_via (fun t k => XS.aloadN X1.here hx rfl (hb hby own_d2_4) rfl rfl k) ?_
  show own_G p e below _ (T1.setTop (mkF m 5 #[.val (.int p1), .val (.ref r1), .unset, .unset, .unset] [(.ref r1)]))
  refine own_via (own_len X1 hx hZ e1 i_V1 (pc := 5) (Ls := #[.val (.int p1), .val (.ref r1), .unset, .unset, .unset]) (rest := []) (hb hby own_d2_5)) ?_
  show own_G p e below _ (T1.setTop (mkF m 6 #[.val (.int p1), .val (.ref r1), .unset, .unset, .unset] [(.int (4 : Int32))]))
  refine own_via (fun t k => XS.istoreN X1.here hx rfl (hb hby own_d2_6) rfl (l' := #[.val (.int p1), .val (.ref r1), .val (.int (4 : Int32)), .unset, .unset]) rfl k) ?_
  show own_G p e below _ (T1.setTop (mkF m 7 #[.val (.int p1), .val (.ref r1), .val (.int (4 : Int32)), .unset, .unset] []))
  refine own_via (fun t k => XS.iconst X1.here hx rfl (hb hby own_d2_7) k) ?_
  show own_G p e below _ (T1.setTop (mkF m 8 #[.val (.int p1), .val (.ref r1), .val (.int (4 : Int32)), .unset, .unset] [(.int (0 : Int32))]))
  refine own_via (fun t k => XS.istoreN X1.here hx rfl (hb hby own_d2_8) rfl (l' := #[.val (.int p1), .val (.ref r1), .val (.int (4 : Int32)), .val (.int (0 : Int32)), .unset]) rfl k) ?_
  show own_G p e below _ (T1.setTop (mkF m 9 #[.val (.int p1), .val (.ref r1), .val (.int (4 : Int32)), .val (.int (0 : Int32)), .unset] []))
  refine own_via (fun t k => XS.iloadN X1.here hx rfl (hb hby own_d2_9) rfl k) ?_
  show own_G p e below _ (T1.setTop (mkF m 10 #[.val (.int p1), .val (.ref r1), .val (.int (4 : Int32)), .val (.int (0 : Int32)), .unset] [(.int (0 : Int32))]))
  refine own_via (fun t k => XS.iloadN X1.here hx rfl (hb hby own_d2_10) rfl k) ?_
  show own_G p e below _ (T1.setTop (mkF m 11 #[.val (.int p1), .val (.ref r1), .val (.int (4 : Int32)), .val (.int (0 : Int32)), .unset] [(.int (4 : Int32)), (.int (0 : Int32))]))
  refine own_via (fun t k => XS.icmpNo X1.here hx rfl (hb hby own_d2_11) rfl (tlt (by decide : (0 : Int32) < (4 : Int32))).2.1 k) ?_
  show own_G p e below _ (T1.setTop (mkF m 14 #[.val (.int p1), .val (.ref r1), .val (.int (4 : Int32)), .val (.int (0 : Int32)), .unset] []))
  refine own_via (fun t k => XS.aloadN X1.here hx rfl (hb hby own_d2_14) rfl rfl k) ?_
  show own_G p e below _ (T1.setTop (mkF m 15 #[.val (.int p1), .val (.ref r1), .val (.int (4 : Int32)), .val (.int (0 : Int32)), .unset] [(.ref r1)]))
  refine own_via (fun t k => XS.iloadN X1.here hx rfl (hb hby own_d2_15) rfl k) ?_
  show own_G p e below _ (T1.setTop (mkF m 16 #[.val (.int p1), .val (.ref r1), .val (.int (4 : Int32)), .val (.int (0 : Int32)), .unset] [(.int (0 : Int32)), (.ref r1)]))
  refine own_via (own_ldA X1 hx hZ e1 i_V1 rfl (j := (0 : Int32)) ⟨by decide, by decide⟩ (v := (.ref y0)) rfl (pc := 16) (Ls := #[.val (.int p1), .val (.ref r1), .val (.int (4 : Int32)), .val (.int (0 : Int32)), .unset]) (rest := []) (hb hby own_d2_16)) ?_
  show own_G p e below _ (T1.setTop (mkF m 17 #[.val (.int p1), .val (.ref r1), .val (.int (4 : Int32)), .val (.int (0 : Int32)), .unset] [(.ref y0)]))
  refine own_via (fun t k => XS.astore X1.here hx rfl (hb hby own_d2_17) rfl rfl (l' := #[.val (.int p1), .val (.ref r1), .val (.int (4 : Int32)), .val (.int (0 : Int32)), .val (.ref y0)]) rfl k) ?_
  show own_G p e below _ (T1.setTop (mkF m 19 #[.val (.int p1), .val (.ref r1), .val (.int (4 : Int32)), .val (.int (0 : Int32)), .val (.ref y0)] []))
  refine own_via (fun t k => XS.iloadN X1.here hx rfl (hb hby own_d2_19) rfl k) ?_
  show own_G p e below _ (T1.setTop (mkF m 20 #[.val (.int p1), .val (.ref r1), .val (.int (4 : Int32)), .val (.int (0 : Int32)), .val (.ref y0)] [(.int p1)]))
  refine own_via (fun t k => XS.ifNo X1.here hx rfl (hb hby own_d2_20) rfl ((if0 _ _).trans (flt (own_q2 hp_h0 (by decide))).1) k) ?_
  show own_G p e below _ (T1.setTop (mkF m 23 #[.val (.int p1), .val (.ref r1), .val (.int (4 : Int32)), .val (.int (0 : Int32)), .val (.ref y0)] []))
  refine own_via (fun t k => XS.aload X1.here hx rfl (hb hby own_d2_23) rfl rfl k) ?_
  show own_G p e below _ (T1.setTop (mkF m 25 #[.val (.int p1), .val (.ref r1), .val (.int (4 : Int32)), .val (.int (0 : Int32)), .val (.ref y0)] [(.ref y0)]))
  obtain ⟨T2, X2, e2, st2⟩ := getF X1 hx hZ hown (host := "") (Or.inl (hw _ (List.mem_of_getElem? (i := 11) rfl))) Via.refl e1 i_F0 (g := (mkF m 25 #[.val (.int p1), .val (.ref r1), .val (.int (4 : Int32)), .val (.int (0 : Int32)), .val (.ref y0)] [(.ref y0)])) rfl rfl (hb hby own_d2_25)
  refine own_via st2 ?_
  show own_G p e below _ (T2.setTop (mkF m 28 #[.val (.int p1), .val (.ref r1), .val (.int (4 : Int32)), .val (.int (0 : Int32)), .val (.ref y0)] [(.int (-1 : Int32))]))
  refine own_via (fun t k => XS.iloadN X2.here hx rfl (hb hby own_d2_28) rfl k) ?_
  show own_G p e below _ (T2.setTop (mkF m 29 #[.val (.int p1), .val (.ref r1), .val (.int (4 : Int32)), .val (.int (0 : Int32)), .val (.ref y0)] [(.int p1), (.int (-1 : Int32))]))
  refine own_via (fun t k => XS.icmpYes X2.here hx rfl (pc0 := 29) (pc' := 35) rfl (hb hby own_d2_29) rfl (feq (fun q => absurd (q.trans hp_h0) (by decide))).2 (by decide) (by decide) k) ?_
  show own_G p e below _ (T2.setTop (mkF m 35 #[.val (.int p1), .val (.ref r1), .val (.int (4 : Int32)), .val (.int (0 : Int32)), .val (.ref y0)] []))
  refine own_via (fun t k => XS.iinc X2.here hx rfl (hb hby own_d2_35) rfl (l' := #[.val (.int p1), .val (.ref r1), .val (.int (4 : Int32)), .val (.int (1 : Int32)), .val (.ref y0)]) rfl k) ?_
  show own_G p e below _ (T2.setTop (mkF m 38 #[.val (.int p1), .val (.ref r1), .val (.int (4 : Int32)), .val (.int (1 : Int32)), .val (.ref y0)] []))
  refine own_via (fun t k => XS.goto X2.here hx rfl (pc0 := 38) (pc' := 9) rfl (hb hby own_d2_38) (by decide) (by decide) k) ?_
  show own_G p e below _ (T2.setTop (mkF m 9 #[.val (.int p1), .val (.ref r1), .val (.int (4 : Int32)), .val (.int (1 : Int32)), .val (.ref y0)] []))
  refine own_via (fun t k => XS.iloadN X2.here hx rfl (hb hby own_d2_9) rfl k) ?_
  show own_G p e below _ (T2.setTop (mkF m 10 #[.val (.int p1), .val (.ref r1), .val (.int (4 : Int32)), .val (.int (1 : Int32)), .val (.ref y0)] [(.int (1 : Int32))]))
  refine own_via (fun t k => XS.iloadN X2.here hx rfl (hb hby own_d2_10) rfl k) ?_
  show own_G p e below _ (T2.setTop (mkF m 11 #[.val (.int p1), .val (.ref r1), .val (.int (4 : Int32)), .val (.int (1 : Int32)), .val (.ref y0)] [(.int (4 : Int32)), (.int (1 : Int32))]))
  refine own_via (fun t k => XS.icmpNo X2.here hx rfl (hb hby own_d2_11) rfl (tlt (by decide : (1 : Int32) < (4 : Int32))).2.1 k) ?_
  show own_G p e below _ (T2.setTop (mkF m 14 #[.val (.int p1), .val (.ref r1), .val (.int (4 : Int32)), .val (.int (1 : Int32)), .val (.ref y0)] []))
  refine own_via (fun t k => XS.aloadN X2.here hx rfl (hb hby own_d2_14) rfl rfl k) ?_
  show own_G p e below _ (T2.setTop (mkF m 15 #[.val (.int p1), .val (.ref r1), .val (.int (4 : Int32)), .val (.int (1 : Int32)), .val (.ref y0)] [(.ref r1)]))
  refine own_via (fun t k => XS.iloadN X2.here hx rfl (hb hby own_d2_15) rfl k) ?_
  show own_G p e below _ (T2.setTop (mkF m 16 #[.val (.int p1), .val (.ref r1), .val (.int (4 : Int32)), .val (.int (1 : Int32)), .val (.ref y0)] [(.int (1 : Int32)), (.ref r1)]))
  refine own_via (own_ldA X2 hx hZ e2 i_V1 rfl (j := (1 : Int32)) ⟨by decide, by decide⟩ (v := (.ref y1)) rfl (pc := 16) (Ls := #[.val (.int p1), .val (.ref r1), .val (.int (4 : Int32)), .val (.int (1 : Int32)), .val (.ref y0)]) (rest := []) (hb hby own_d2_16)) ?_
  show own_G p e below _ (T2.setTop (mkF m 17 #[.val (.int p1), .val (.ref r1), .val (.int (4 : Int32)), .val (.int (1 : Int32)), .val (.ref y0)] [(.ref y1)]))
  refine own_via (fun t k => XS.astore X2.here hx rfl (hb hby own_d2_17) rfl rfl (l' := #[.val (.int p1), .val (.ref r1), .val (.int (4 : Int32)), .val (.int (1 : Int32)), .val (.ref y1)]) rfl k) ?_
  show own_G p e below _ (T2.setTop (mkF m 19 #[.val (.int p1), .val (.ref r1), .val (.int (4 : Int32)), .val (.int (1 : Int32)), .val (.ref y1)] []))
  refine own_via (fun t k => XS.iloadN X2.here hx rfl (hb hby own_d2_19) rfl k) ?_
  show own_G p e below _ (T2.setTop (mkF m 20 #[.val (.int p1), .val (.ref r1), .val (.int (4 : Int32)), .val (.int (1 : Int32)), .val (.ref y1)] [(.int p1)]))
  refine own_via (fun t k => XS.ifNo X2.here hx rfl (hb hby own_d2_20) rfl ((if0 _ _).trans (flt (own_q2 hp_h0 (by decide))).1) k) ?_
  show own_G p e below _ (T2.setTop (mkF m 23 #[.val (.int p1), .val (.ref r1), .val (.int (4 : Int32)), .val (.int (1 : Int32)), .val (.ref y1)] []))
  refine own_via (fun t k => XS.aload X2.here hx rfl (hb hby own_d2_23) rfl rfl k) ?_
  show own_G p e below _ (T2.setTop (mkF m 25 #[.val (.int p1), .val (.ref r1), .val (.int (4 : Int32)), .val (.int (1 : Int32)), .val (.ref y1)] [(.ref y1)]))
  obtain ⟨T3, X3, e3, st3⟩ := getF X2 hx hZ hown (host := "") (Or.inl (hw _ (List.mem_of_getElem? (i := 11) rfl))) Via.refl e2 i_F1 (g := (mkF m 25 #[.val (.int p1), .val (.ref r1), .val (.int (4 : Int32)), .val (.int (1 : Int32)), .val (.ref y1)] [(.ref y1)])) rfl rfl (hb hby own_d2_25)
  refine own_via st3 ?_
  show own_G p e below _ (T3.setTop (mkF m 28 #[.val (.int p1), .val (.ref r1), .val (.int (4 : Int32)), .val (.int (1 : Int32)), .val (.ref y1)] [(.int (-1 : Int32))]))
  refine own_via (fun t k => XS.iloadN X3.here hx rfl (hb hby own_d2_28) rfl k) ?_
  show own_G p e below _ (T3.setTop (mkF m 29 #[.val (.int p1), .val (.ref r1), .val (.int (4 : Int32)), .val (.int (1 : Int32)), .val (.ref y1)] [(.int p1), (.int (-1 : Int32))]))
  refine own_via (fun t k => XS.icmpYes X3.here hx rfl (pc0 := 29) (pc' := 35) rfl (hb hby own_d2_29) rfl (feq (fun q => absurd (q.trans hp_h0) (by decide))).2 (by decide) (by decide) k) ?_
  show own_G p e below _ (T3.setTop (mkF m 35 #[.val (.int p1), .val (.ref r1), .val (.int (4 : Int32)), .val (.int (1 : Int32)), .val (.ref y1)] []))
  refine own_via (fun t k => XS.iinc X3.here hx rfl (hb hby own_d2_35) rfl (l' := #[.val (.int p1), .val (.ref r1), .val (.int (4 : Int32)), .val (.int (2 : Int32)), .val (.ref y1)]) rfl k) ?_
  show own_G p e below _ (T3.setTop (mkF m 38 #[.val (.int p1), .val (.ref r1), .val (.int (4 : Int32)), .val (.int (2 : Int32)), .val (.ref y1)] []))
  refine own_via (fun t k => XS.goto X3.here hx rfl (pc0 := 38) (pc' := 9) rfl (hb hby own_d2_38) (by decide) (by decide) k) ?_
  show own_G p e below _ (T3.setTop (mkF m 9 #[.val (.int p1), .val (.ref r1), .val (.int (4 : Int32)), .val (.int (2 : Int32)), .val (.ref y1)] []))
  refine own_via (fun t k => XS.iloadN X3.here hx rfl (hb hby own_d2_9) rfl k) ?_
  show own_G p e below _ (T3.setTop (mkF m 10 #[.val (.int p1), .val (.ref r1), .val (.int (4 : Int32)), .val (.int (2 : Int32)), .val (.ref y1)] [(.int (2 : Int32))]))
  refine own_via (fun t k => XS.iloadN X3.here hx rfl (hb hby own_d2_10) rfl k) ?_
  show own_G p e below _ (T3.setTop (mkF m 11 #[.val (.int p1), .val (.ref r1), .val (.int (4 : Int32)), .val (.int (2 : Int32)), .val (.ref y1)] [(.int (4 : Int32)), (.int (2 : Int32))]))
  refine own_via (fun t k => XS.icmpNo X3.here hx rfl (hb hby own_d2_11) rfl (tlt (by decide : (2 : Int32) < (4 : Int32))).2.1 k) ?_
  show own_G p e below _ (T3.setTop (mkF m 14 #[.val (.int p1), .val (.ref r1), .val (.int (4 : Int32)), .val (.int (2 : Int32)), .val (.ref y1)] []))
  refine own_via (fun t k => XS.aloadN X3.here hx rfl (hb hby own_d2_14) rfl rfl k) ?_
  show own_G p e below _ (T3.setTop (mkF m 15 #[.val (.int p1), .val (.ref r1), .val (.int (4 : Int32)), .val (.int (2 : Int32)), .val (.ref y1)] [(.ref r1)]))
  refine own_via (fun t k => XS.iloadN X3.here hx rfl (hb hby own_d2_15) rfl k) ?_
  show own_G p e below _ (T3.setTop (mkF m 16 #[.val (.int p1), .val (.ref r1), .val (.int (4 : Int32)), .val (.int (2 : Int32)), .val (.ref y1)] [(.int (2 : Int32)), (.ref r1)]))
  refine own_via (own_ldA X3 hx hZ e3 i_V1 rfl (j := (2 : Int32)) ⟨by decide, by decide⟩ (v := (.ref y2)) rfl (pc := 16) (Ls := #[.val (.int p1), .val (.ref r1), .val (.int (4 : Int32)), .val (.int (2 : Int32)), .val (.ref y1)]) (rest := []) (hb hby own_d2_16)) ?_
  show own_G p e below _ (T3.setTop (mkF m 17 #[.val (.int p1), .val (.ref r1), .val (.int (4 : Int32)), .val (.int (2 : Int32)), .val (.ref y1)] [(.ref y2)]))
  refine own_via (fun t k => XS.astore X3.here hx rfl (hb hby own_d2_17) rfl rfl (l' := #[.val (.int p1), .val (.ref r1), .val (.int (4 : Int32)), .val (.int (2 : Int32)), .val (.ref y2)]) rfl k) ?_
  show own_G p e below _ (T3.setTop (mkF m 19 #[.val (.int p1), .val (.ref r1), .val (.int (4 : Int32)), .val (.int (2 : Int32)), .val (.ref y2)] []))
  refine own_via (fun t k => XS.iloadN X3.here hx rfl (hb hby own_d2_19) rfl k) ?_
  show own_G p e below _ (T3.setTop (mkF m 20 #[.val (.int p1), .val (.ref r1), .val (.int (4 : Int32)), .val (.int (2 : Int32)), .val (.ref y2)] [(.int p1)]))
  refine own_via (fun t k => XS.ifNo X3.here hx rfl (hb hby own_d2_20) rfl ((if0 _ _).trans (flt (own_q2 hp_h0 (by decide))).1) k) ?_
  show own_G p e below _ (T3.setTop (mkF m 23 #[.val (.int p1), .val (.ref r1), .val (.int (4 : Int32)), .val (.int (2 : Int32)), .val (.ref y2)] []))
  refine own_via (fun t k => XS.aload X3.here hx rfl (hb hby own_d2_23) rfl rfl k) ?_
  show own_G p e below _ (T3.setTop (mkF m 25 #[.val (.int p1), .val (.ref r1), .val (.int (4 : Int32)), .val (.int (2 : Int32)), .val (.ref y2)] [(.ref y2)]))
  obtain ⟨T4, X4, e4, st4⟩ := getF X3 hx hZ hown (host := "") (Or.inl (hw _ (List.mem_of_getElem? (i := 11) rfl))) Via.refl e3 i_F2 (g := (mkF m 25 #[.val (.int p1), .val (.ref r1), .val (.int (4 : Int32)), .val (.int (2 : Int32)), .val (.ref y2)] [(.ref y2)])) rfl rfl (hb hby own_d2_25)
  refine own_via st4 ?_
  show own_G p e below _ (T4.setTop (mkF m 28 #[.val (.int p1), .val (.ref r1), .val (.int (4 : Int32)), .val (.int (2 : Int32)), .val (.ref y2)] [(.int (8 : Int32))]))
  refine own_via (fun t k => XS.iloadN X4.here hx rfl (hb hby own_d2_28) rfl k) ?_
  show own_G p e below _ (T4.setTop (mkF m 29 #[.val (.int p1), .val (.ref r1), .val (.int (4 : Int32)), .val (.int (2 : Int32)), .val (.ref y2)] [(.int p1), (.int (8 : Int32))]))
  refine own_via (fun t k => XS.icmpNo X4.here hx rfl (hb hby own_d2_29) rfl (teq hp_h0.symm).2 k) ?_
  show own_G p e below _ (T4.setTop (mkF m 32 #[.val (.int p1), .val (.ref r1), .val (.int (4 : Int32)), .val (.int (2 : Int32)), .val (.ref y2)] []))
  refine own_via (fun t k => XS.aload X4.here hx rfl (hb hby own_d2_32) rfl rfl k) ?_
  show own_G p e below _ (T4.setTop (mkF m 34 #[.val (.int p1), .val (.ref r1), .val (.int (4 : Int32)), .val (.int (2 : Int32)), .val (.ref y2)] [(.ref y2)]))
  exact own_retA X4 hx Bd.returns rfl rfl Bd.notSynchronized (hb hby own_d2_34) ⟨rfl, rfl, e4⟩ (by decide) (by decide)
theorem own_d3_6 : decode method_3_code 6 = .ok (.getstatic 7, 3) := by decide +kernel
theorem own_d3_9 : decode method_3_code 9 = .ok (.areturn, 1) := by decide +kernel
abbrev own_exA_R : Room := { frames := 0, cells := 0, slots := 0, locals := 0 }
theorem own_exA_ef (m : MethodId) (p1 : Int32) : entryFrame m #[(.int p1)] 1 = mkF m 0 #[.val (.int p1)] [] := by first | (simp [entryFrame, mkF, argsToLocals, Value.category]; done) | rfl
set_option maxRecDepth 65536 in
set_option maxHeartbeats 40000000 in
theorem own_exA (l : Launch) (Z : State) (a0 : Array Value) (hw : ∀ d ∈ tables_1, d.before a0 Z = true) (ws : List Jvm.Cond) (p1 : Int32) (y2 : Addr) (y3 : Addr) (h0 : Heap)  (i_S2 : Sta Z h0 "com/example/loudmark/loudmark/core/AudioEncoding" "PCMA" "Lcom/example/loudmark/loudmark/core/AudioEncoding;" (.ref y2)) (i_S3 : Sta Z h0 "com/example/loudmark/loudmark/core/AudioEncoding" "PCMU" "Lcom/example/loudmark/loudmark/core/AudioEncoding;" (.ref y3)) (hp_h0 : p1 = (8 : Int32)) :
    own_C l Z (⟨"com/example/loudmark/loudmark/core/AudioEncodingOfStaticPayloadTypePinLaw", "expected", "(I)Lcom/example/loudmark/loudmark/core/AudioEncoding;"⟩ : MethodName) method_3_code 1 (some (.object "com/example/loudmark/loudmark/core/AudioEncoding")) ws own_exA_R #[(.int p1)] h0 (own_Q (.ref y2) h0) := by
  refine MetFree.of_bodySF own_pn3 hisR ?_
  intro p e s m args below meth c s₁ Bd hml0 hP hK
  obtain ⟨rfl, hZ, hh⟩ := hP
  have hx := Bd.exec
  have hby := Bd.bytes
  have hml : c.maxLocals = 1 := hml0
  have hown : s.vm.findClass "com/example/loudmark/loudmark/core/AudioEncodingOfStaticPayloadTypePinLaw" = some m.cls := findClass_of_methodNamed Bd.named
  have hnm := (name_of_methodNamed Bd.named Bd.method).1
  have X0 : Stand p l e own_exA_R s m #[(.int p1)] below meth c s₁ [] 0 0 := Stand.of_body Bd
  have e0 : s₁.heap = h0 := by rw [← hh, Bd.state]; rfl
  show own_G p e below (own_P s (own_Q (.ref y2) h0) own_exA_R.cells own_exA_R.slots) (s₁.setTop (entryFrame m #[(.int p1)] 1))
  rw [own_exA_ef m p1]
  show own_G p e below _ (s₁.setTop (mkF m 0 #[.val (.int p1)] []))
  refine own_via (fun t k => XS.iloadN X0.here hx rfl (hb hby own_d3_0) rfl k) ?_
  show own_G p e below _ (s₁.setTop (mkF m 1 #[.val (.int p1)] [(.int p1)]))
  refine own_via (fun t k => XS.bipush X0.here hx rfl (hb hby own_d3_1) k) ?_
  show own_G p e below _ (s₁.setTop (mkF m 3 #[.val (.int p1)] [(.int (8 : Int32)), (.int p1)]))
  refine own_via (fun t k => XS.icmpNo X0.here hx rfl (hb hby own_d3_3) rfl (teq hp_h0).2 k) ?_
  show own_G p e below _ (s₁.setTop (mkF m 6 #[.val (.int p1)] []))
  obtain ⟨T1, X1, e1, st1⟩ := getS2 X0 hx hZ hown (host := "") (Or.inl (hw _ (List.mem_of_getElem? (i := 20) rfl))) Via.refl e0 i_S2 (g := (mkF m 6 #[.val (.int p1)] [])) rfl (hb hby own_d3_6)
  refine own_via st1 ?_
  show own_G p e below _ (T1.setTop (mkF m 9 #[.val (.int p1)] [(.ref y2)]))
  exact own_retA X1 hx Bd.returns rfl rfl Bd.notSynchronized (hb hby own_d3_9) ⟨rfl, rfl, e1⟩ (by decide) (by decide)
abbrev own_ofU_R : Room := { frames := 0, cells := 0, slots := 0, locals := 0 }
theorem own_ofU_ef (m : MethodId) (p1 : Int32) : entryFrame m #[(.int p1)] 5 = mkF m 0 #[.val (.int p1), .unset, .unset, .unset, .unset] [] := by first | (simp [entryFrame, mkF, argsToLocals, Value.category]; done) | rfl
set_option maxRecDepth 65536 in
set_option maxHeartbeats 40000000 in
theorem own_ofU (l : Launch) (Z : State) (a0 : Array Value) (hw : ∀ d ∈ tables_1, d.before a0 Z = true) (ws : List Jvm.Cond) (p1 : Int32) (r1 : Addr) (k1 : ClassId) (y0 : Addr) (y1 : Addr) (y2 : Addr) (y3 : Addr) (h0 : Heap)  (i_S1 : Sta Z h0 "com/example/loudmark/loudmark/core/AudioEncoding" "ENCODINGS" "[Lcom/example/loudmark/loudmark/core/AudioEncoding;" (.ref r1)) (i_V1 : Arv Z h0 r1 k1 (.object "com/example/loudmark/loudmark/core/AudioEncoding") (4 : Int32) [(.ref y0), (.ref y1), (.ref y2), (.ref y3)] .null) (i_F0 : Fld Z h0 y0 "com/example/loudmark/loudmark/core/AudioEncoding" "staticPayloadType" "I" (.int (-1 : Int32))) (i_F1 : Fld Z h0 y1 "com/example/loudmark/loudmark/core/AudioEncoding" "staticPayloadType" "I" (.int (-1 : Int32))) (i_F2 : Fld Z h0 y2 "com/example/loudmark/loudmark/core/AudioEncoding" "staticPayloadType" "I" (.int (8 : Int32))) (i_F3 : Fld Z h0 y3 "com/example/loudmark/loudmark/core/AudioEncoding" "staticPayloadType" "I" (.int (0 : Int32))) (hp_h0 : p1 = (0 : Int32)) :
    own_C l Z (⟨"com/example/loudmark/loudmark/core/AudioEncoding", "ofStaticPayloadType", "(I)Lcom/example/loudmark/loudmark/core/AudioEncoding;"⟩ : MethodName) prog_16_method_7_code 5 (some (.object "com/example/loudmark/loudmark/core/AudioEncoding")) ws own_ofU_R #[(.int p1)] h0 (own_Q (.ref y3) h0) := by
  refine MetFree.of_bodySF own_pn2 hisR ?_
  intro p e s m args below meth c s₁ Bd hml0 hP hK
  obtain ⟨rfl, hZ, hh⟩ := hP
  have hx := Bd.exec
  have hby := Bd.bytes
  have hml : c.maxLocals = 5 := hml0
  have hown : s.vm.findClass "com/example/loudmark/loudmark/core/AudioEncoding" = some m.cls := findClass_of_methodNamed Bd.named
  have hnm := (name_of_methodNamed Bd.named Bd.method).1
  have X0 : Stand p l e own_ofU_R s m #[(.int p1)] below meth c s₁ [] 0 0 := Stand.of_body Bd
  have e0 : s₁.heap = h0 := by rw [← hh, Bd.state]; rfl
  show own_G p e below (own_P s (own_Q (.ref y3) h0) own_ofU_R.cells own_ofU_R.slots) (s₁.setTop (entryFrame m #[(.int p1)] 5))
  rw [own_ofU_ef m p1]
  show own_G p e below _ (s₁.setTop (mkF m 0 #[.val (.int p1), .unset, .unset, .unset, .unset] []))
  obtain ⟨T1, X1, e1, st1⟩ := getS2 X0 hx hZ hown (host := "") (Or.inl (hw _ (List.mem_of_getElem? (i := 8) rfl))) Via.refl e0 i_S1 (g := (mkF m 0 #[.val (.int p1), .unset, .unset, .unset, .unset] [])) rfl (hb hby own_d2_0)
  refine own_via st1 ?_
  show own_G p e below _ (T1.setTop (mkF m 3 #[.val (.int p1), .unset, .unset, .unset, .unset] [(.ref r1)]))
  refine own_via (fun t k => XS.astoreN X1.here hx rfl (hb hby own_d2_3) rfl rfl (l' := #[.val (.int p1), .val (.ref r1), .unset, .unset, .unset]) rfl k) ?_
  show own_G p e below _ (T1.setTop (mkF m 4 #[.val (.int p1), .val (.ref r1), .unset, .unset, .unset] []))
  refine own_via (fun t k => XS.aloadN X1.here hx rfl (hb hby own_d2_4) rfl rfl k) ?_
  show own_G p e below _ (T1.setTop (mkF m 5 #[.val (.int p1), .val (.ref r1), .unset, .unset, .unset] [(.ref r1)]))
  refine own_via (own_len X1 hx hZ e1 i_V1 (pc := 5) (Ls := #[.val (.int p1), .val (.ref r1), .unset, .unset, .unset]) (rest := []) (hb hby own_d2_5)) ?_
  show own_G p e below _ (T1.setTop (mkF m 6 #[.val (.int p1), .val (.ref r1), .unset, .unset, .unset] [(.int (4 : Int32))]))
  refine own_via (fun t k => XS.istoreN X1.here hx rfl (hb hby own_d2_6) rfl (l' := #[.val (.int p1), .val (.ref r1), .val (.int (4 : Int32)), .unset, .unset]) rfl k) ?_
  show own_G p e below _ (T1.setTop (mkF m 7 #[.val (.int p1), .val (.ref r1), .val (.int (4 : Int32)), .unset, .unset] []))
  refine own_via (fun t k => XS.iconst X1.here hx rfl (hb hby own_d2_7) k) ?_
  show own_G p e below _ (T1.setTop (mkF m 8 #[.val (.int p1), .val (.ref r1), .val (.int (4 : Int32)), .unset, .unset] [(.int (0 : Int32))]))
  refine own_via (fun t k => XS.istoreN X1.here hx rfl (hb hby own_d2_8) rfl (l' := #[.val (.int p1), .val (.ref r1), .val (.int (4 : Int32)), .val (.int (0 : Int32)), .unset]) rfl k) ?_
  show own_G p e below _ (T1.setTop (mkF m 9 #[.val (.int p1), .val (.ref r1), .val (.int (4 : Int32)), .val (.int (0 : Int32)), .unset] []))
  refine own_via (fun t k => XS.iloadN X1.here hx rfl (hb hby own_d2_9) rfl k) ?_
  show own_G p e below _ (T1.setTop (mkF m 10 #[.val (.int p1), .val (.ref r1), .val (.int (4 : Int32)), .val (.int (0 : Int32)), .unset] [(.int (0 : Int32))]))
  refine own_via (fun t k => XS.iloadN X1.here hx rfl (hb hby own_d2_10) rfl k) ?_
  show own_G p e below _ (T1.setTop (mkF m 11 #[.val (.int p1), .val (.ref r1), .val (.int (4 : Int32)), .val (.int (0 : Int32)), .unset] [(.int (4 : Int32)), (.int (0 : Int32))]))
  refine own_via (fun t k => XS.icmpNo X1.here hx rfl (hb hby own_d2_11) rfl (tlt (by decide : (0 : Int32) < (4 : Int32))).2.1 k) ?_
  show own_G p e below _ (T1.setTop (mkF m 14 #[.val (.int p1), .val (.ref r1), .val (.int (4 : Int32)), .val (.int (0 : Int32)), .unset] []))
  refine own_via (fun t k => XS.aloadN X1.here hx rfl (hb hby own_d2_14) rfl rfl k) ?_
  show own_G p e below _ (T1.setTop (mkF m 15 #[.val (.int p1), .val (.ref r1), .val (.int (4 : Int32)), .val (.int (0 : Int32)), .unset] [(.ref r1)]))
  refine own_via (fun t k => XS.iloadN X1.here hx rfl (hb hby own_d2_15) rfl k) ?_
  show own_G p e below _ (T1.setTop (mkF m 16 #[.val (.int p1), .val (.ref r1), .val (.int (4 : Int32)), .val (.int (0 : Int32)), .unset] [(.int (0 : Int32)), (.ref r1)]))
  refine own_via (own_ldA X1 hx hZ e1 i_V1 rfl (j := (0 : Int32)) ⟨by decide, by decide⟩ (v := (.ref y0)) rfl (pc := 16) (Ls := #[.val (.int p1), .val (.ref r1), .val (.int (4 : Int32)), .val (.int (0 : Int32)), .unset]) (rest := []) (hb hby own_d2_16)) ?_
  show own_G p e below _ (T1.setTop (mkF m 17 #[.val (.int p1), .val (.ref r1), .val (.int (4 : Int32)), .val (.int (0 : Int32)), .unset] [(.ref y0)]))
  refine own_via (fun t k => XS.astore X1.here hx rfl (hb hby own_d2_17) rfl rfl (l' := #[.val (.int p1), .val (.ref r1), .val (.int (4 : Int32)), .val (.int (0 : Int32)), .val (.ref y0)]) rfl k) ?_
  show own_G p e below _ (T1.setTop (mkF m 19 #[.val (.int p1), .val (.ref r1), .val (.int (4 : Int32)), .val (.int (0 : Int32)), .val (.ref y0)] []))
  refine own_via (fun t k => XS.iloadN X1.here hx rfl (hb hby own_d2_19) rfl k) ?_
  show own_G p e below _ (T1.setTop (mkF m 20 #[.val (.int p1), .val (.ref r1), .val (.int (4 : Int32)), .val (.int (0 : Int32)), .val (.ref y0)] [(.int p1)]))
  refine own_via (fun t k => XS.ifNo X1.here hx rfl (hb hby own_d2_20) rfl ((if0 _ _).trans (flt (own_q2 hp_h0 (by decide))).1) k) ?_
  show own_G p e below _ (T1.setTop (mkF m 23 #[.val (.int p1), .val (.ref r1), .val (.int (4 : Int32)), .val (.int (0 : Int32)), .val (.ref y0)] []))
  refine own_via (fun t k => XS.aload X1.here hx rfl (hb hby own_d2_23) rfl rfl k) ?_
  show own_G p e below _ (T1.setTop (mkF m 25 #[.val (.int p1), .val (.ref r1), .val (.int (4 : Int32)), .val (.int (0 : Int32)), .val (.ref y0)] [(.ref y0)]))
  obtain ⟨T2, X2, e2, st2⟩ := getF X1 hx hZ hown (host := "") (Or.inl (hw _ (List.mem_of_getElem? (i := 11) rfl))) Via.refl e1 i_F0 (g := (mkF m 25 #[.val (.int p1), .val (.ref r1), .val (.int (4 : Int32)), .val (.int (0 : Int32)), .val (.ref y0)] [(.ref y0)])) rfl rfl (hb hby own_d2_25)
  refine own_via st2 ?_
  show own_G p e below _ (T2.setTop (mkF m 28 #[.val (.int p1), .val (.ref r1), .val (.int (4 : Int32)), .val (.int (0 : Int32)), .val (.ref y0)] [(.int (-1 : Int32))]))
  refine own_via (fun t k => XS.iloadN X2.here hx rfl (hb hby own_d2_28) rfl k) ?_
  show own_G p e below _ (T2.setTop (mkF m 29 #[.val (.int p1), .val (.ref r1), .val (.int (4 : Int32)), .val (.int (0 : Int32)), .val (.ref y0)] [(.int p1), (.int (-1 : Int32))]))
  refine own_via (fun t k => XS.icmpYes X2.here hx rfl (pc0 := 29) (pc' := 35) rfl (hb hby own_d2_29) rfl (feq (fun q => absurd (q.trans hp_h0) (by decide))).2 (by decide) (by decide) k) ?_
  show own_G p e below _ (T2.setTop (mkF m 35 #[.val (.int p1), .val (.ref r1), .val (.int (4 : Int32)), .val (.int (0 : Int32)), .val (.ref y0)] []))
  refine own_via (fun t k => XS.iinc X2.here hx rfl (hb hby own_d2_35) rfl (l' := #[.val (.int p1), .val (.ref r1), .val (.int (4 : Int32)), .val (.int (1 : Int32)), .val (.ref y0)]) rfl k) ?_
  show own_G p e below _ (T2.setTop (mkF m 38 #[.val (.int p1), .val (.ref r1), .val (.int (4 : Int32)), .val (.int (1 : Int32)), .val (.ref y0)] []))
  refine own_via (fun t k => XS.goto X2.here hx rfl (pc0 := 38) (pc' := 9) rfl (hb hby own_d2_38) (by decide) (by decide) k) ?_
  show own_G p e below _ (T2.setTop (mkF m 9 #[.val (.int p1), .val (.ref r1), .val (.int (4 : Int32)), .val (.int (1 : Int32)), .val (.ref y0)] []))
  refine own_via (fun t k => XS.iloadN X2.here hx rfl (hb hby own_d2_9) rfl k) ?_
  show own_G p e below _ (T2.setTop (mkF m 10 #[.val (.int p1), .val (.ref r1), .val (.int (4 : Int32)), .val (.int (1 : Int32)), .val (.ref y0)] [(.int (1 : Int32))]))
  refine own_via (fun t k => XS.iloadN X2.here hx rfl (hb hby own_d2_10) rfl k) ?_
  show own_G p e below _ (T2.setTop (mkF m 11 #[.val (.int p1), .val (.ref r1), .val (.int (4 : Int32)), .val (.int (1 : Int32)), .val (.ref y0)] [(.int (4 : Int32)), (.int (1 : Int32))]))
  refine own_via (fun t k => XS.icmpNo X2.here hx rfl (hb hby own_d2_11) rfl (tlt (by decide : (1 : Int32) < (4 : Int32))).2.1 k) ?_
  show own_G p e below _ (T2.setTop (mkF m 14 #[.val (.int p1), .val (.ref r1), .val (.int (4 : Int32)), .val (.int (1 : Int32)), .val (.ref y0)] []))
  refine own_via (fun t k => XS.aloadN X2.here hx rfl (hb hby own_d2_14) rfl rfl k) ?_
  show own_G p e below _ (T2.setTop (mkF m 15 #[.val (.int p1), .val (.ref r1), .val (.int (4 : Int32)), .val (.int (1 : Int32)), .val (.ref y0)] [(.ref r1)]))
  refine own_via (fun t k => XS.iloadN X2.here hx rfl (hb hby own_d2_15) rfl k) ?_
  show own_G p e below _ (T2.setTop (mkF m 16 #[.val (.int p1), .val (.ref r1), .val (.int (4 : Int32)), .val (.int (1 : Int32)), .val (.ref y0)] [(.int (1 : Int32)), (.ref r1)]))
  refine own_via (own_ldA X2 hx hZ e2 i_V1 rfl (j := (1 : Int32)) ⟨by decide, by decide⟩ (v := (.ref y1)) rfl (pc := 16) (Ls := #[.val (.int p1), .val (.ref r1), .val (.int (4 : Int32)), .val (.int (1 : Int32)), .val (.ref y0)]) (rest := []) (hb hby own_d2_16)) ?_
  show own_G p e below _ (T2.setTop (mkF m 17 #[.val (.int p1), .val (.ref r1), .val (.int (4 : Int32)), .val (.int (1 : Int32)), .val (.ref y0)] [(.ref y1)]))
  refine own_via (fun t k => XS.astore X2.here hx rfl (hb hby own_d2_17) rfl rfl (l' := #[.val (.int p1), .val (.ref r1), .val (.int (4 : Int32)), .val (.int (1 : Int32)), .val (.ref y1)]) rfl k) ?_
  show own_G p e below _ (T2.setTop (mkF m 19 #[.val (.int p1), .val (.ref r1), .val (.int (4 : Int32)), .val (.int (1 : Int32)), .val (.ref y1)] []))
  refine own_via (fun t k => XS.iloadN X2.here hx rfl (hb hby own_d2_19) rfl k) ?_
  show own_G p e below _ (T2.setTop (mkF m 20 #[.val (.int p1), .val (.ref r1), .val (.int (4 : Int32)), .val (.int (1 : Int32)), .val (.ref y1)] [(.int p1)]))
  refine own_via (fun t k => XS.ifNo X2.here hx rfl (hb hby own_d2_20) rfl ((if0 _ _).trans (flt (own_q2 hp_h0 (by decide))).1) k) ?_
  show own_G p e below _ (T2.setTop (mkF m 23 #[.val (.int p1), .val (.ref r1), .val (.int (4 : Int32)), .val (.int (1 : Int32)), .val (.ref y1)] []))
  refine own_via (fun t k => XS.aload X2.here hx rfl (hb hby own_d2_23) rfl rfl k) ?_
  show own_G p e below _ (T2.setTop (mkF m 25 #[.val (.int p1), .val (.ref r1), .val (.int (4 : Int32)), .val (.int (1 : Int32)), .val (.ref y1)] [(.ref y1)]))
  obtain ⟨T3, X3, e3, st3⟩ := getF X2 hx hZ hown (host := "") (Or.inl (hw _ (List.mem_of_getElem? (i := 11) rfl))) Via.refl e2 i_F1 (g := (mkF m 25 #[.val (.int p1), .val (.ref r1), .val (.int (4 : Int32)), .val (.int (1 : Int32)), .val (.ref y1)] [(.ref y1)])) rfl rfl (hb hby own_d2_25)
  refine own_via st3 ?_
  show own_G p e below _ (T3.setTop (mkF m 28 #[.val (.int p1), .val (.ref r1), .val (.int (4 : Int32)), .val (.int (1 : Int32)), .val (.ref y1)] [(.int (-1 : Int32))]))
  refine own_via (fun t k => XS.iloadN X3.here hx rfl (hb hby own_d2_28) rfl k) ?_
  show own_G p e below _ (T3.setTop (mkF m 29 #[.val (.int p1), .val (.ref r1), .val (.int (4 : Int32)), .val (.int (1 : Int32)), .val (.ref y1)] [(.int p1), (.int (-1 : Int32))]))
  refine own_via (fun t k => XS.icmpYes X3.here hx rfl (pc0 := 29) (pc' := 35) rfl (hb hby own_d2_29) rfl (feq (fun q => absurd (q.trans hp_h0) (by decide))).2 (by decide) (by decide) k) ?_
  show own_G p e below _ (T3.setTop (mkF m 35 #[.val (.int p1), .val (.ref r1), .val (.int (4 : Int32)), .val (.int (1 : Int32)), .val (.ref y1)] []))
  refine own_via (fun t k => XS.iinc X3.here hx rfl (hb hby own_d2_35) rfl (l' := #[.val (.int p1), .val (.ref r1), .val (.int (4 : Int32)), .val (.int (2 : Int32)), .val (.ref y1)]) rfl k) ?_
  show own_G p e below _ (T3.setTop (mkF m 38 #[.val (.int p1), .val (.ref r1), .val (.int (4 : Int32)), .val (.int (2 : Int32)), .val (.ref y1)] []))
  refine own_via (fun t k => XS.goto X3.here hx rfl (pc0 := 38) (pc' := 9) rfl (hb hby own_d2_38) (by decide) (by decide) k) ?_
  show own_G p e below _ (T3.setTop (mkF m 9 #[.val (.int p1), .val (.ref r1), .val (.int (4 : Int32)), .val (.int (2 : Int32)), .val (.ref y1)] []))
  refine own_via (fun t k => XS.iloadN X3.here hx rfl (hb hby own_d2_9) rfl k) ?_
  show own_G p e below _ (T3.setTop (mkF m 10 #[.val (.int p1), .val (.ref r1), .val (.int (4 : Int32)), .val (.int (2 : Int32)), .val (.ref y1)] [(.int (2 : Int32))]))
  refine own_via (fun t k => XS.iloadN X3.here hx rfl (hb hby own_d2_10) rfl k) ?_
  show own_G p e below _ (T3.setTop (mkF m 11 #[.val (.int p1), .val (.ref r1), .val (.int (4 : Int32)), .val (.int (2 : Int32)), .val (.ref y1)] [(.int (4 : Int32)), (.int (2 : Int32))]))
  refine own_via (fun t k => XS.icmpNo X3.here hx rfl (hb hby own_d2_11) rfl (tlt (by decide : (2 : Int32) < (4 : Int32))).2.1 k) ?_
  show own_G p e below _ (T3.setTop (mkF m 14 #[.val (.int p1), .val (.ref r1), .val (.int (4 : Int32)), .val (.int (2 : Int32)), .val (.ref y1)] []))
  refine own_via (fun t k => XS.aloadN X3.here hx rfl (hb hby own_d2_14) rfl rfl k) ?_
  show own_G p e below _ (T3.setTop (mkF m 15 #[.val (.int p1), .val (.ref r1), .val (.int (4 : Int32)), .val (.int (2 : Int32)), .val (.ref y1)] [(.ref r1)]))
  refine own_via (fun t k => XS.iloadN X3.here hx rfl (hb hby own_d2_15) rfl k) ?_
  show own_G p e below _ (T3.setTop (mkF m 16 #[.val (.int p1), .val (.ref r1), .val (.int (4 : Int32)), .val (.int (2 : Int32)), .val (.ref y1)] [(.int (2 : Int32)), (.ref r1)]))
  refine own_via (own_ldA X3 hx hZ e3 i_V1 rfl (j := (2 : Int32)) ⟨by decide, by decide⟩ (v := (.ref y2)) rfl (pc := 16) (Ls := #[.val (.int p1), .val (.ref r1), .val (.int (4 : Int32)), .val (.int (2 : Int32)), .val (.ref y1)]) (rest := []) (hb hby own_d2_16)) ?_
  show own_G p e below _ (T3.setTop (mkF m 17 #[.val (.int p1), .val (.ref r1), .val (.int (4 : Int32)), .val (.int (2 : Int32)), .val (.ref y1)] [(.ref y2)]))
  refine own_via (fun t k => XS.astore X3.here hx rfl (hb hby own_d2_17) rfl rfl (l' := #[.val (.int p1), .val (.ref r1), .val (.int (4 : Int32)), .val (.int (2 : Int32)), .val (.ref y2)]) rfl k) ?_
  show own_G p e below _ (T3.setTop (mkF m 19 #[.val (.int p1), .val (.ref r1), .val (.int (4 : Int32)), .val (.int (2 : Int32)), .val (.ref y2)] []))
  refine own_via (fun t k => XS.iloadN X3.here hx rfl (hb hby own_d2_19) rfl k) ?_
  show own_G p e below _ (T3.setTop (mkF m 20 #[.val (.int p1), .val (.ref r1), .val (.int (4 : Int32)), .val (.int (2 : Int32)), .val (.ref y2)] [(.int p1)]))
  refine own_via (fun t k => XS.ifNo X3.here hx rfl (hb hby own_d2_20) rfl ((if0 _ _).trans (flt (own_q2 hp_h0 (by decide))).1) k) ?_
  show own_G p e below _ (T3.setTop (mkF m 23 #[.val (.int p1), .val (.ref r1), .val (.int (4 : Int32)), .val (.int (2 : Int32)), .val (.ref y2)] []))
  refine own_via (fun t k => XS.aload X3.here hx rfl (hb hby own_d2_23) rfl rfl k) ?_
  show own_G p e below _ (T3.setTop (mkF m 25 #[.val (.int p1), .val (.ref r1), .val (.int (4 : Int32)), .val (.int (2 : Int32)), .val (.ref y2)] [(.ref y2)]))
  obtain ⟨T4, X4, e4, st4⟩ := getF X3 hx hZ hown (host := "") (Or.inl (hw _ (List.mem_of_getElem? (i := 11) rfl))) Via.refl e3 i_F2 (g := (mkF m 25 #[.val (.int p1), .val (.ref r1), .val (.int (4 : Int32)), .val (.int (2 : Int32)), .val (.ref y2)] [(.ref y2)])) rfl rfl (hb hby own_d2_25)
  refine own_via st4 ?_
  show own_G p e below _ (T4.setTop (mkF m 28 #[.val (.int p1), .val (.ref r1), .val (.int (4 : Int32)), .val (.int (2 : Int32)), .val (.ref y2)] [(.int (8 : Int32))]))
  refine own_via (fun t k => XS.iloadN X4.here hx rfl (hb hby own_d2_28) rfl k) ?_
  show own_G p e below _ (T4.setTop (mkF m 29 #[.val (.int p1), .val (.ref r1), .val (.int (4 : Int32)), .val (.int (2 : Int32)), .val (.ref y2)] [(.int p1), (.int (8 : Int32))]))
  refine own_via (fun t k => XS.icmpYes X4.here hx rfl (pc0 := 29) (pc' := 35) rfl (hb hby own_d2_29) rfl (feq (fun q => absurd (q.trans hp_h0) (by decide))).2 (by decide) (by decide) k) ?_
  show own_G p e below _ (T4.setTop (mkF m 35 #[.val (.int p1), .val (.ref r1), .val (.int (4 : Int32)), .val (.int (2 : Int32)), .val (.ref y2)] []))
  refine own_via (fun t k => XS.iinc X4.here hx rfl (hb hby own_d2_35) rfl (l' := #[.val (.int p1), .val (.ref r1), .val (.int (4 : Int32)), .val (.int (3 : Int32)), .val (.ref y2)]) rfl k) ?_
  show own_G p e below _ (T4.setTop (mkF m 38 #[.val (.int p1), .val (.ref r1), .val (.int (4 : Int32)), .val (.int (3 : Int32)), .val (.ref y2)] []))
  refine own_via (fun t k => XS.goto X4.here hx rfl (pc0 := 38) (pc' := 9) rfl (hb hby own_d2_38) (by decide) (by decide) k) ?_
  show own_G p e below _ (T4.setTop (mkF m 9 #[.val (.int p1), .val (.ref r1), .val (.int (4 : Int32)), .val (.int (3 : Int32)), .val (.ref y2)] []))
  refine own_via (fun t k => XS.iloadN X4.here hx rfl (hb hby own_d2_9) rfl k) ?_
  show own_G p e below _ (T4.setTop (mkF m 10 #[.val (.int p1), .val (.ref r1), .val (.int (4 : Int32)), .val (.int (3 : Int32)), .val (.ref y2)] [(.int (3 : Int32))]))
  refine own_via (fun t k => XS.iloadN X4.here hx rfl (hb hby own_d2_10) rfl k) ?_
  show own_G p e below _ (T4.setTop (mkF m 11 #[.val (.int p1), .val (.ref r1), .val (.int (4 : Int32)), .val (.int (3 : Int32)), .val (.ref y2)] [(.int (4 : Int32)), (.int (3 : Int32))]))
  refine own_via (fun t k => XS.icmpNo X4.here hx rfl (hb hby own_d2_11) rfl (tlt (by decide : (3 : Int32) < (4 : Int32))).2.1 k) ?_
  show own_G p e below _ (T4.setTop (mkF m 14 #[.val (.int p1), .val (.ref r1), .val (.int (4 : Int32)), .val (.int (3 : Int32)), .val (.ref y2)] []))
  refine own_via (fun t k => XS.aloadN X4.here hx rfl (hb hby own_d2_14) rfl rfl k) ?_
  show own_G p e below _ (T4.setTop (mkF m 15 #[.val (.int p1), .val (.ref r1), .val (.int (4 : Int32)), .val (.int (3 : Int32)), .val (.ref y2)] [(.ref r1)]))
  refine own_via (fun t k => XS.iloadN X4.here hx rfl (hb hby own_d2_15) rfl k) ?_
  show own_G p e below _ (T4.setTop (mkF m 16 #[.val (.int p1), .val (.ref r1), .val (.int (4 : Int32)), .val (.int (3 : Int32)), .val (.ref y2)] [(.int (3 : Int32)), (.ref r1)]))
  refine own_via (own_ldA X4 hx hZ e4 i_V1 rfl (j := (3 : Int32)) ⟨by decide, by decide⟩ (v := (.ref y3)) rfl (pc := 16) (Ls := #[.val (.int p1), .val (.ref r1), .val (.int (4 : Int32)), .val (.int (3 : Int32)), .val (.ref y2)]) (rest := []) (hb hby own_d2_16)) ?_
  show own_G p e below _ (T4.setTop (mkF m 17 #[.val (.int p1), .val (.ref r1), .val (.int (4 : Int32)), .val (.int (3 : Int32)), .val (.ref y2)] [(.ref y3)]))
  refine own_via (fun t k => XS.astore X4.here hx rfl (hb hby own_d2_17) rfl rfl (l' := #[.val (.int p1), .val (.ref r1), .val (.int (4 : Int32)), .val (.int (3 : Int32)), .val (.ref y3)]) rfl k) ?_
  show own_G p e below _ (T4.setTop (mkF m 19 #[.val (.int p1), .val (.ref r1), .val (.int (4 : Int32)), .val (.int (3 : Int32)), .val (.ref y3)] []))
  refine own_via (fun t k => XS.iloadN X4.here hx rfl (hb hby own_d2_19) rfl k) ?_
  show own_G p e below _ (T4.setTop (mkF m 20 #[.val (.int p1), .val (.ref r1), .val (.int (4 : Int32)), .val (.int (3 : Int32)), .val (.ref y3)] [(.int p1)]))
  refine own_via (fun t k => XS.ifNo X4.here hx rfl (hb hby own_d2_20) rfl ((if0 _ _).trans (flt (own_q2 hp_h0 (by decide))).1) k) ?_
  show own_G p e below _ (T4.setTop (mkF m 23 #[.val (.int p1), .val (.ref r1), .val (.int (4 : Int32)), .val (.int (3 : Int32)), .val (.ref y3)] []))
  refine own_via (fun t k => XS.aload X4.here hx rfl (hb hby own_d2_23) rfl rfl k) ?_
  show own_G p e below _ (T4.setTop (mkF m 25 #[.val (.int p1), .val (.ref r1), .val (.int (4 : Int32)), .val (.int (3 : Int32)), .val (.ref y3)] [(.ref y3)]))
  obtain ⟨T5, X5, e5, st5⟩ := getF X4 hx hZ hown (host := "") (Or.inl (hw _ (List.mem_of_getElem? (i := 11) rfl))) Via.refl e4 i_F3 (g := (mkF m 25 #[.val (.int p1), .val (.ref r1), .val (.int (4 : Int32)), .val (.int (3 : Int32)), .val (.ref y3)] [(.ref y3)])) rfl rfl (hb hby own_d2_25)
  refine own_via st5 ?_
  show own_G p e below _ (T5.setTop (mkF m 28 #[.val (.int p1), .val (.ref r1), .val (.int (4 : Int32)), .val (.int (3 : Int32)), .val (.ref y3)] [(.int (0 : Int32))]))
  refine own_via (fun t k => XS.iloadN X5.here hx rfl (hb hby own_d2_28) rfl k) ?_
  show own_G p e below _ (T5.setTop (mkF m 29 #[.val (.int p1), .val (.ref r1), .val (.int (4 : Int32)), .val (.int (3 : Int32)), .val (.ref y3)] [(.int p1), (.int (0 : Int32))]))
  refine own_via (fun t k => XS.icmpNo X5.here hx rfl (hb hby own_d2_29) rfl (teq hp_h0.symm).2 k) ?_
  show own_G p e below _ (T5.setTop (mkF m 32 #[.val (.int p1), .val (.ref r1), .val (.int (4 : Int32)), .val (.int (3 : Int32)), .val (.ref y3)] []))
  refine own_via (fun t k => XS.aload X5.here hx rfl (hb hby own_d2_32) rfl rfl k) ?_
  show own_G p e below _ (T5.setTop (mkF m 34 #[.val (.int p1), .val (.ref r1), .val (.int (4 : Int32)), .val (.int (3 : Int32)), .val (.ref y3)] [(.ref y3)]))
  exact own_retA X5 hx Bd.returns rfl rfl Bd.notSynchronized (hb hby own_d2_34) ⟨rfl, rfl, e5⟩ (by decide) (by decide)
theorem own_d3_14 : decode method_3_code 14 = .ok (.getstatic 13, 3) := by decide +kernel
theorem own_d3_17 : decode method_3_code 17 = .ok (.areturn, 1) := by decide +kernel
abbrev own_exU_R : Room := { frames := 0, cells := 0, slots := 0, locals := 0 }
theorem own_exU_ef (m : MethodId) (p1 : Int32) : entryFrame m #[(.int p1)] 1 = mkF m 0 #[.val (.int p1)] [] := by first | (simp [entryFrame, mkF, argsToLocals, Value.category]; done) | rfl
set_option maxRecDepth 65536 in
set_option maxHeartbeats 40000000 in
theorem own_exU (l : Launch) (Z : State) (a0 : Array Value) (hw : ∀ d ∈ tables_1, d.before a0 Z = true) (ws : List Jvm.Cond) (p1 : Int32) (y2 : Addr) (y3 : Addr) (h0 : Heap)  (i_S2 : Sta Z h0 "com/example/loudmark/loudmark/core/AudioEncoding" "PCMA" "Lcom/example/loudmark/loudmark/core/AudioEncoding;" (.ref y2)) (i_S3 : Sta Z h0 "com/example/loudmark/loudmark/core/AudioEncoding" "PCMU" "Lcom/example/loudmark/loudmark/core/AudioEncoding;" (.ref y3)) (hp_h0 : p1 = (0 : Int32)) :
    own_C l Z (⟨"com/example/loudmark/loudmark/core/AudioEncodingOfStaticPayloadTypePinLaw", "expected", "(I)Lcom/example/loudmark/loudmark/core/AudioEncoding;"⟩ : MethodName) method_3_code 1 (some (.object "com/example/loudmark/loudmark/core/AudioEncoding")) ws own_exU_R #[(.int p1)] h0 (own_Q (.ref y3) h0) := by
  refine MetFree.of_bodySF own_pn3 hisR ?_
  intro p e s m args below meth c s₁ Bd hml0 hP hK
  obtain ⟨rfl, hZ, hh⟩ := hP
  have hx := Bd.exec
  have hby := Bd.bytes
  have hml : c.maxLocals = 1 := hml0
  have hown : s.vm.findClass "com/example/loudmark/loudmark/core/AudioEncodingOfStaticPayloadTypePinLaw" = some m.cls := findClass_of_methodNamed Bd.named
  have hnm := (name_of_methodNamed Bd.named Bd.method).1
  have X0 : Stand p l e own_exU_R s m #[(.int p1)] below meth c s₁ [] 0 0 := Stand.of_body Bd
  have e0 : s₁.heap = h0 := by rw [← hh, Bd.state]; rfl
  show own_G p e below (own_P s (own_Q (.ref y3) h0) own_exU_R.cells own_exU_R.slots) (s₁.setTop (entryFrame m #[(.int p1)] 1))
  rw [own_exU_ef m p1]
  show own_G p e below _ (s₁.setTop (mkF m 0 #[.val (.int p1)] []))
  refine own_via (fun t k => XS.iloadN X0.here hx rfl (hb hby own_d3_0) rfl k) ?_
  show own_G p e below _ (s₁.setTop (mkF m 1 #[.val (.int p1)] [(.int p1)]))
  refine own_via (fun t k => XS.bipush X0.here hx rfl (hb hby own_d3_1) k) ?_
  show own_G p e below _ (s₁.setTop (mkF m 3 #[.val (.int p1)] [(.int (8 : Int32)), (.int p1)]))
  refine own_via (fun t k => XS.icmpYes X0.here hx rfl (pc0 := 3) (pc' := 10) rfl (hb hby own_d3_3) rfl (feq (own_q6 hp_h0 (by decide))).2 (by decide) (by decide) k) ?_
  show own_G p e below _ (s₁.setTop (mkF m 10 #[.val (.int p1)] []))
  refine own_via (fun t k => XS.iloadN X0.here hx rfl (hb hby own_d3_10) rfl k) ?_
  show own_G p e below _ (s₁.setTop (mkF m 11 #[.val (.int p1)] [(.int p1)]))
  refine own_via (fun t k => XS.ifNo X0.here hx rfl (hb hby own_d3_11) rfl ((if0 _ _).trans (teq hp_h0).2) k) ?_
  show own_G p e below _ (s₁.setTop (mkF m 14 #[.val (.int p1)] []))
  obtain ⟨T1, X1, e1, st1⟩ := getS2 X0 hx hZ hown (host := "") (Or.inl (hw _ (List.mem_of_getElem? (i := 19) rfl))) Via.refl e0 i_S3 (g := (mkF m 14 #[.val (.int p1)] [])) rfl (hb hby own_d3_14)
  refine own_via st1 ?_
  show own_G p e below _ (T1.setTop (mkF m 17 #[.val (.int p1)] [(.ref y3)]))
  exact own_retA X1 hx Bd.returns rfl rfl Bd.notSynchronized (hb hby own_d3_17) ⟨rfl, rfl, e1⟩ (by decide) (by decide)
abbrev own_ofO_R : Room := { frames := 0, cells := 0, slots := 0, locals := 0 }
theorem own_ofO_ef (m : MethodId) (p1 : Int32) : entryFrame m #[(.int p1)] 5 = mkF m 0 #[.val (.int p1), .unset, .unset, .unset, .unset] [] := by first | (simp [entryFrame, mkF, argsToLocals, Value.category]; done) | rfl
set_option maxRecDepth 65536 in
set_option maxHeartbeats 40000000 in
theorem own_ofO (l : Launch) (Z : State) (a0 : Array Value) (hw : ∀ d ∈ tables_1, d.before a0 Z = true) (ws : List Jvm.Cond) (p1 : Int32) (r1 : Addr) (k1 : ClassId) (y0 : Addr) (y1 : Addr) (y2 : Addr) (y3 : Addr) (h0 : Heap)  (i_S1 : Sta Z h0 "com/example/loudmark/loudmark/core/AudioEncoding" "ENCODINGS" "[Lcom/example/loudmark/loudmark/core/AudioEncoding;" (.ref r1)) (i_V1 : Arv Z h0 r1 k1 (.object "com/example/loudmark/loudmark/core/AudioEncoding") (4 : Int32) [(.ref y0), (.ref y1), (.ref y2), (.ref y3)] .null) (i_F0 : Fld Z h0 y0 "com/example/loudmark/loudmark/core/AudioEncoding" "staticPayloadType" "I" (.int (-1 : Int32))) (i_F1 : Fld Z h0 y1 "com/example/loudmark/loudmark/core/AudioEncoding" "staticPayloadType" "I" (.int (-1 : Int32))) (i_F2 : Fld Z h0 y2 "com/example/loudmark/loudmark/core/AudioEncoding" "staticPayloadType" "I" (.int (8 : Int32))) (i_F3 : Fld Z h0 y3 "com/example/loudmark/loudmark/core/AudioEncoding" "staticPayloadType" "I" (.int (0 : Int32))) (hp_h0 : ¬ (p1 < (0 : Int32))) (hp_h1 : ¬ (p1 = (8 : Int32))) (hp_h2 : ¬ (p1 = (0 : Int32))) :
    own_C l Z (⟨"com/example/loudmark/loudmark/core/AudioEncoding", "ofStaticPayloadType", "(I)Lcom/example/loudmark/loudmark/core/AudioEncoding;"⟩ : MethodName) prog_16_method_7_code 5 (some (.object "com/example/loudmark/loudmark/core/AudioEncoding")) ws own_ofO_R #[(.int p1)] h0 (own_Q .null h0) := by
  refine MetFree.of_bodySF own_pn2 hisR ?_
  intro p e s m args below meth c s₁ Bd hml0 hP hK
  obtain ⟨rfl, hZ, hh⟩ := hP
  have hx := Bd.exec
  have hby := Bd.bytes
  have hml : c.maxLocals = 5 := hml0
  have hown : s.vm.findClass "com/example/loudmark/loudmark/core/AudioEncoding" = some m.cls := findClass_of_methodNamed Bd.named
  have hnm := (name_of_methodNamed Bd.named Bd.method).1
  have X0 : Stand p l e own_ofO_R s m #[(.int p1)] below meth c s₁ [] 0 0 := Stand.of_body Bd
  have e0 : s₁.heap = h0 := by rw [← hh, Bd.state]; rfl
  show own_G p e below (own_P s (own_Q .null h0) own_ofO_R.cells own_ofO_R.slots) (s₁.setTop (entryFrame m #[(.int p1)] 5))
  rw [own_ofO_ef m p1]
  show own_G p e below _ (s₁.setTop (mkF m 0 #[.val (.int p1), .unset, .unset, .unset, .unset] []))
  obtain ⟨T1, X1, e1, st1⟩ := getS2 X0 hx hZ hown (host := "") (Or.inl (hw _ (List.mem_of_getElem? (i := 8) rfl))) Via.refl e0 i_S1 (g := (mkF m 0 #[.val (.int p1), .unset, .unset, .unset, .unset] [])) rfl (hb hby own_d2_0)
  refine own_via st1 ?_
  show own_G p e below _ (T1.setTop (mkF m 3 #[.val (.int p1), .unset, .unset, .unset, .unset] [(.ref r1)]))
  refine own_via (fun t k => XS.astoreN X1.here hx rfl (hb hby own_d2_3) rfl rfl (l' := #[.val (.int p1), .val (.ref r1), .unset, .unset, .unset]) rfl k) ?_
  show own_G p e below _ (T1.setTop (mkF m 4 #[.val (.int p1), .val (.ref r1), .unset, .unset, .unset] []))
  refine own_via (fun t k => XS.aloadN X1.here hx rfl (hb hby own_d2_4) rfl rfl k) ?_
  show own_G p e below _ (T1.setTop (mkF m 5 #[.val (.int p1), .val (.ref r1), .unset, .unset, .unset] [(.ref r1)]))
  refine own_via (own_len X1 hx hZ e1 i_V1 (pc := 5) (Ls := #[.val (.int p1), .val (.ref r1), .unset, .unset, .unset]) (rest := []) (hb hby own_d2_5)) ?_
  show own_G p e below _ (T1.setTop (mkF m 6 #[.val (.int p1), .val (.ref r1), .unset, .unset, .unset] [(.int (4 : Int32))]))
  refine own_via (fun t k => XS.istoreN X1.here hx rfl (hb hby own_d2_6) rfl (l' := #[.val (.int p1), .val (.ref r1), .val (.int (4 : Int32)), .unset, .unset]) rfl k) ?_
  show own_G p e below _ (T1.setTop (mkF m 7 #[.val (.int p1), .val (.ref r1), .val (.int (4 : Int32)), .unset, .unset] []))
  refine own_via (fun t k => XS.iconst X1.here hx rfl (hb hby own_d2_7) k) ?_
  show own_G p e below _ (T1.setTop (mkF m 8 #[.val (.int p1), .val (.ref r1), .val (.int (4 : Int32)), .unset, .unset] [(.int (0 : Int32))]))
  refine own_via (fun t k => XS.istoreN X1.here hx rfl (hb hby own_d2_8) rfl (l' := #[.val (.int p1), .val (.ref r1), .val (.int (4 : Int32)), .val (.int (0 : Int32)), .unset]) rfl k) ?_
  show own_G p e below _ (T1.setTop (mkF m 9 #[.val (.int p1), .val (.ref r1), .val (.int (4 : Int32)), .val (.int (0 : Int32)), .unset] []))
  refine own_via (fun t k => XS.iloadN X1.here hx rfl (hb hby own_d2_9) rfl k) ?_
  show own_G p e below _ (T1.setTop (mkF m 10 #[.val (.int p1), .val (.ref r1), .val (.int (4 : Int32)), .val (.int (0 : Int32)), .unset] [(.int (0 : Int32))]))
  refine own_via (fun t k => XS.iloadN X1.here hx rfl (hb hby own_d2_10) rfl k) ?_
  show own_G p e below _ (T1.setTop (mkF m 11 #[.val (.int p1), .val (.ref r1), .val (.int (4 : Int32)), .val (.int (0 : Int32)), .unset] [(.int (4 : Int32)), (.int (0 : Int32))]))
  refine own_via (fun t k => XS.icmpNo X1.here hx rfl (hb hby own_d2_11) rfl (tlt (by decide : (0 : Int32) < (4 : Int32))).2.1 k) ?_
  show own_G p e below _ (T1.setTop (mkF m 14 #[.val (.int p1), .val (.ref r1), .val (.int (4 : Int32)), .val (.int (0 : Int32)), .unset] []))
  refine own_via (fun t k => XS.aloadN X1.here hx rfl (hb hby own_d2_14) rfl rfl k) ?_
  show own_G p e below _ (T1.setTop (mkF m 15 #[.val (.int p1), .val (.ref r1), .val (.int (4 : Int32)), .val (.int (0 : Int32)), .unset] [(.ref r1)]))
  refine own_via (fun t k => XS.iloadN X1.here hx rfl (hb hby own_d2_15) rfl k) ?_
  show own_G p e below _ (T1.setTop (mkF m 16 #[.val (.int p1), .val (.ref r1), .val (.int (4 : Int32)), .val (.int (0 : Int32)), .unset] [(.int (0 : Int32)), (.ref r1)]))
  refine own_via (own_ldA X1 hx hZ e1 i_V1 rfl (j := (0 : Int32)) ⟨by decide, by decide⟩ (v := (.ref y0)) rfl (pc := 16) (Ls := #[.val (.int p1), .val (.ref r1), .val (.int (4 : Int32)), .val (.int (0 : Int32)), .unset]) (rest := []) (hb hby own_d2_16)) ?_
  show own_G p e below _ (T1.setTop (mkF m 17 #[.val (.int p1), .val (.ref r1), .val (.int (4 : Int32)), .val (.int (0 : Int32)), .unset] [(.ref y0)]))
  refine own_via (fun t k => XS.astore X1.here hx rfl (hb hby own_d2_17) rfl rfl (l' := #[.val (.int p1), .val (.ref r1), .val (.int (4 : Int32)), .val (.int (0 : Int32)), .val (.ref y0)]) rfl k) ?_
  show own_G p e below _ (T1.setTop (mkF m 19 #[.val (.int p1), .val (.ref r1), .val (.int (4 : Int32)), .val (.int (0 : Int32)), .val (.ref y0)] []))
  refine own_via (fun t k => XS.iloadN X1.here hx rfl (hb hby own_d2_19) rfl k) ?_
  show own_G p e below _ (T1.setTop (mkF m 20 #[.val (.int p1), .val (.ref r1), .val (.int (4 : Int32)), .val (.int (0 : Int32)), .val (.ref y0)] [(.int p1)]))
  refine own_via (fun t k => XS.ifNo X1.here hx rfl (hb hby own_d2_20) rfl ((if0 _ _).trans (flt hp_h0).1) k) ?_
  show own_G p e below _ (T1.setTop (mkF m 23 #[.val (.int p1), .val (.ref r1), .val (.int (4 : Int32)), .val (.int (0 : Int32)), .val (.ref y0)] []))
  refine own_via (fun t k => XS.aload X1.here hx rfl (hb hby own_d2_23) rfl rfl k) ?_
  show own_G p e below _ (T1.setTop (mkF m 25 #[.val (.int p1), .val (.ref r1), .val (.int (4 : Int32)), .val (.int (0 : Int32)), .val (.ref y0)] [(.ref y0)]))
  obtain ⟨T2, X2, e2, st2⟩ := getF X1 hx hZ hown (host := "") (Or.inl (hw _ (List.mem_of_getElem? (i := 11) rfl))) Via.refl e1 i_F0 (g := (mkF m 25 #[.val (.int p1), .val (.ref r1), .val (.int (4 : Int32)), .val (.int (0 : Int32)), .val (.ref y0)] [(.ref y0)])) rfl rfl (hb hby own_d2_25)
  refine own_via st2 ?_
  show own_G p e below _ (T2.setTop (mkF m 28 #[.val (.int p1), .val (.ref r1), .val (.int (4 : Int32)), .val (.int (0 : Int32)), .val (.ref y0)] [(.int (-1 : Int32))]))
  refine own_via (fun t k => XS.iloadN X2.here hx rfl (hb hby own_d2_28) rfl k) ?_
  show own_G p e below _ (T2.setTop (mkF m 29 #[.val (.int p1), .val (.ref r1), .val (.int (4 : Int32)), .val (.int (0 : Int32)), .val (.ref y0)] [(.int p1), (.int (-1 : Int32))]))
  refine own_via (fun t k => XS.icmpYes X2.here hx rfl (pc0 := 29) (pc' := 35) rfl (hb hby own_d2_29) rfl (feq (fun q => own_b10 (own_b2 hp_h0) (by decide) q.symm)).2 (by decide) (by decide) k) ?_
  show own_G p e below _ (T2.setTop (mkF m 35 #[.val (.int p1), .val (.ref r1), .val (.int (4 : Int32)), .val (.int (0 : Int32)), .val (.ref y0)] []))
  refine own_via (fun t k => XS.iinc X2.here hx rfl (hb hby own_d2_35) rfl (l' := #[.val (.int p1), .val (.ref r1), .val (.int (4 : Int32)), .val (.int (1 : Int32)), .val (.ref y0)]) rfl k) ?_
  show own_G p e below _ (T2.setTop (mkF m 38 #[.val (.int p1), .val (.ref r1), .val (.int (4 : Int32)), .val (.int (1 : Int32)), .val (.ref y0)] []))
  refine own_via (fun t k => XS.goto X2.here hx rfl (pc0 := 38) (pc' := 9) rfl (hb hby own_d2_38) (by decide) (by decide) k) ?_
  show own_G p e below _ (T2.setTop (mkF m 9 #[.val (.int p1), .val (.ref r1), .val (.int (4 : Int32)), .val (.int (1 : Int32)), .val (.ref y0)] []))
  refine own_via (fun t k => XS.iloadN X2.here hx rfl (hb hby own_d2_9) rfl k) ?_
  show own_G p e below _ (T2.setTop (mkF m 10 #[.val (.int p1), .val (.ref r1), .val (.int (4 : Int32)), .val (.int (1 : Int32)), .val (.ref y0)] [(.int (1 : Int32))]))
  refine own_via (fun t k => XS.iloadN X2.here hx rfl (hb hby own_d2_10) rfl k) ?_
  show own_G p e below _ (T2.setTop (mkF m 11 #[.val (.int p1), .val (.ref r1), .val (.int (4 : Int32)), .val (.int (1 : Int32)), .val (.ref y0)] [(.int (4 : Int32)), (.int (1 : Int32))]))
  refine own_via (fun t k => XS.icmpNo X2.here hx rfl (hb hby own_d2_11) rfl (tlt (by decide : (1 : Int32) < (4 : Int32))).2.1 k) ?_
  show own_G p e below _ (T2.setTop (mkF m 14 #[.val (.int p1), .val (.ref r1), .val (.int (4 : Int32)), .val (.int (1 : Int32)), .val (.ref y0)] []))
  refine own_via (fun t k => XS.aloadN X2.here hx rfl (hb hby own_d2_14) rfl rfl k) ?_
  show own_G p e below _ (T2.setTop (mkF m 15 #[.val (.int p1), .val (.ref r1), .val (.int (4 : Int32)), .val (.int (1 : Int32)), .val (.ref y0)] [(.ref r1)]))
  refine own_via (fun t k => XS.iloadN X2.here hx rfl (hb hby own_d2_15) rfl k) ?_
  show own_G p e below _ (T2.setTop (mkF m 16 #[.val (.int p1), .val (.ref r1), .val (.int (4 : Int32)), .val (.int (1 : Int32)), .val (.ref y0)] [(.int (1 : Int32)), (.ref r1)]))
  refine own_via (own_ldA X2 hx hZ e2 i_V1 rfl (j := (1 : Int32)) ⟨by decide, by decide⟩ (v := (.ref y1)) rfl (pc := 16) (Ls := #[.val (.int p1), .val (.ref r1), .val (.int (4 : Int32)), .val (.int (1 : Int32)), .val (.ref y0)]) (rest := []) (hb hby own_d2_16)) ?_
  show own_G p e below _ (T2.setTop (mkF m 17 #[.val (.int p1), .val (.ref r1), .val (.int (4 : Int32)), .val (.int (1 : Int32)), .val (.ref y0)] [(.ref y1)]))
  refine own_via (fun t k => XS.astore X2.here hx rfl (hb hby own_d2_17) rfl rfl (l' := #[.val (.int p1), .val (.ref r1), .val (.int (4 : Int32)), .val (.int (1 : Int32)), .val (.ref y1)]) rfl k) ?_
  show own_G p e below _ (T2.setTop (mkF m 19 #[.val (.int p1), .val (.ref r1), .val (.int (4 : Int32)), .val (.int (1 : Int32)), .val (.ref y1)] []))
  refine own_via (fun t k => XS.iloadN X2.here hx rfl (hb hby own_d2_19) rfl k) ?_
  show own_G p e below _ (T2.setTop (mkF m 20 #[.val (.int p1), .val (.ref r1), .val (.int (4 : Int32)), .val (.int (1 : Int32)), .val (.ref y1)] [(.int p1)]))
  refine own_via (fun t k => XS.ifNo X2.here hx rfl (hb hby own_d2_20) rfl ((if0 _ _).trans (flt hp_h0).1) k) ?_
  show own_G p e below _ (T2.setTop (mkF m 23 #[.val (.int p1), .val (.ref r1), .val (.int (4 : Int32)), .val (.int (1 : Int32)), .val (.ref y1)] []))
  refine own_via (fun t k => XS.aload X2.here hx rfl (hb hby own_d2_23) rfl rfl k) ?_
  show own_G p e below _ (T2.setTop (mkF m 25 #[.val (.int p1), .val (.ref r1), .val (.int (4 : Int32)), .val (.int (1 : Int32)), .val (.ref y1)] [(.ref y1)]))
  obtain ⟨T3, X3, e3, st3⟩ := getF X2 hx hZ hown (host := "") (Or.inl (hw _ (List.mem_of_getElem? (i := 11) rfl))) Via.refl e2 i_F1 (g := (mkF m 25 #[.val (.int p1), .val (.ref r1), .val (.int (4 : Int32)), .val (.int (1 : Int32)), .val (.ref y1)] [(.ref y1)])) rfl rfl (hb hby own_d2_25)
  refine own_via st3 ?_
  show own_G p e below _ (T3.setTop (mkF m 28 #[.val (.int p1), .val (.ref r1), .val (.int (4 : Int32)), .val (.int (1 : Int32)), .val (.ref y1)] [(.int (-1 : Int32))]))
  refine own_via (fun t k => XS.iloadN X3.here hx rfl (hb hby own_d2_28) rfl k) ?_
  show own_G p e below _ (T3.setTop (mkF m 29 #[.val (.int p1), .val (.ref r1), .val (.int (4 : Int32)), .val (.int (1 : Int32)), .val (.ref y1)] [(.int p1), (.int (-1 : Int32))]))
  refine own_via (fun t k => XS.icmpYes X3.here hx rfl (pc0 := 29) (pc' := 35) rfl (hb hby own_d2_29) rfl (feq (fun q => own_b10 (own_b2 hp_h0) (by decide) q.symm)).2 (by decide) (by decide) k) ?_
  show own_G p e below _ (T3.setTop (mkF m 35 #[.val (.int p1), .val (.ref r1), .val (.int (4 : Int32)), .val (.int (1 : Int32)), .val (.ref y1)] []))
  refine own_via (fun t k => XS.iinc X3.here hx rfl (hb hby own_d2_35) rfl (l' := #[.val (.int p1), .val (.ref r1), .val (.int (4 : Int32)), .val (.int (2 : Int32)), .val (.ref y1)]) rfl k) ?_
  show own_G p e below _ (T3.setTop (mkF m 38 #[.val (.int p1), .val (.ref r1), .val (.int (4 : Int32)), .val (.int (2 : Int32)), .val (.ref y1)] []))
  refine own_via (fun t k => XS.goto X3.here hx rfl (pc0 := 38) (pc' := 9) rfl (hb hby own_d2_38) (by decide) (by decide) k) ?_
  show own_G p e below _ (T3.setTop (mkF m 9 #[.val (.int p1), .val (.ref r1), .val (.int (4 : Int32)), .val (.int (2 : Int32)), .val (.ref y1)] []))
  refine own_via (fun t k => XS.iloadN X3.here hx rfl (hb hby own_d2_9) rfl k) ?_
  show own_G p e below _ (T3.setTop (mkF m 10 #[.val (.int p1), .val (.ref r1), .val (.int (4 : Int32)), .val (.int (2 : Int32)), .val (.ref y1)] [(.int (2 : Int32))]))
  refine own_via (fun t k => XS.iloadN X3.here hx rfl (hb hby own_d2_10) rfl k) ?_
  show own_G p e below _ (T3.setTop (mkF m 11 #[.val (.int p1), .val (.ref r1), .val (.int (4 : Int32)), .val (.int (2 : Int32)), .val (.ref y1)] [(.int (4 : Int32)), (.int (2 : Int32))]))
  refine own_via (fun t k => XS.icmpNo X3.here hx rfl (hb hby own_d2_11) rfl (tlt (by decide : (2 : Int32) < (4 : Int32))).2.1 k) ?_
  show own_G p e below _ (T3.setTop (mkF m 14 #[.val (.int p1), .val (.ref r1), .val (.int (4 : Int32)), .val (.int (2 : Int32)), .val (.ref y1)] []))
  refine own_via (fun t k => XS.aloadN X3.here hx rfl (hb hby own_d2_14) rfl rfl k) ?_
  show own_G p e below _ (T3.setTop (mkF m 15 #[.val (.int p1), .val (.ref r1), .val (.int (4 : Int32)), .val (.int (2 : Int32)), .val (.ref y1)] [(.ref r1)]))
  refine own_via (fun t k => XS.iloadN X3.here hx rfl (hb hby own_d2_15) rfl k) ?_
  show own_G p e below _ (T3.setTop (mkF m 16 #[.val (.int p1), .val (.ref r1), .val (.int (4 : Int32)), .val (.int (2 : Int32)), .val (.ref y1)] [(.int (2 : Int32)), (.ref r1)]))
  refine own_via (own_ldA X3 hx hZ e3 i_V1 rfl (j := (2 : Int32)) ⟨by decide, by decide⟩ (v := (.ref y2)) rfl (pc := 16) (Ls := #[.val (.int p1), .val (.ref r1), .val (.int (4 : Int32)), .val (.int (2 : Int32)), .val (.ref y1)]) (rest := []) (hb hby own_d2_16)) ?_
  show own_G p e below _ (T3.setTop (mkF m 17 #[.val (.int p1), .val (.ref r1), .val (.int (4 : Int32)), .val (.int (2 : Int32)), .val (.ref y1)] [(.ref y2)]))
  refine own_via (fun t k => XS.astore X3.here hx rfl (hb hby own_d2_17) rfl rfl (l' := #[.val (.int p1), .val (.ref r1), .val (.int (4 : Int32)), .val (.int (2 : Int32)), .val (.ref y2)]) rfl k) ?_
  show own_G p e below _ (T3.setTop (mkF m 19 #[.val (.int p1), .val (.ref r1), .val (.int (4 : Int32)), .val (.int (2 : Int32)), .val (.ref y2)] []))
  refine own_via (fun t k => XS.iloadN X3.here hx rfl (hb hby own_d2_19) rfl k) ?_
  show own_G p e below _ (T3.setTop (mkF m 20 #[.val (.int p1), .val (.ref r1), .val (.int (4 : Int32)), .val (.int (2 : Int32)), .val (.ref y2)] [(.int p1)]))
  refine own_via (fun t k => XS.ifNo X3.here hx rfl (hb hby own_d2_20) rfl ((if0 _ _).trans (flt hp_h0).1) k) ?_
  show own_G p e below _ (T3.setTop (mkF m 23 #[.val (.int p1), .val (.ref r1), .val (.int (4 : Int32)), .val (.int (2 : Int32)), .val (.ref y2)] []))
  refine own_via (fun t k => XS.aload X3.here hx rfl (hb hby own_d2_23) rfl rfl k) ?_
  show own_G p e below _ (T3.setTop (mkF m 25 #[.val (.int p1), .val (.ref r1), .val (.int (4 : Int32)), .val (.int (2 : Int32)), .val (.ref y2)] [(.ref y2)]))
  obtain ⟨T4, X4, e4, st4⟩ := getF X3 hx hZ hown (host := "") (Or.inl (hw _ (List.mem_of_getElem? (i := 11) rfl))) Via.refl e3 i_F2 (g := (mkF m 25 #[.val (.int p1), .val (.ref r1), .val (.int (4 : Int32)), .val (.int (2 : Int32)), .val (.ref y2)] [(.ref y2)])) rfl rfl (hb hby own_d2_25)
  refine own_via st4 ?_
  show own_G p e below _ (T4.setTop (mkF m 28 #[.val (.int p1), .val (.ref r1), .val (.int (4 : Int32)), .val (.int (2 : Int32)), .val (.ref y2)] [(.int (8 : Int32))]))
  refine own_via (fun t k => XS.iloadN X4.here hx rfl (hb hby own_d2_28) rfl k) ?_
  show own_G p e below _ (T4.setTop (mkF m 29 #[.val (.int p1), .val (.ref r1), .val (.int (4 : Int32)), .val (.int (2 : Int32)), .val (.ref y2)] [(.int p1), (.int (8 : Int32))]))
  refine own_via (fun t k => XS.icmpYes X4.here hx rfl (pc0 := 29) (pc' := 35) rfl (hb hby own_d2_29) rfl (feq (fun q => hp_h1 q.symm)).2 (by decide) (by decide) k) ?_
  show own_G p e below _ (T4.setTop (mkF m 35 #[.val (.int p1), .val (.ref r1), .val (.int (4 : Int32)), .val (.int (2 : Int32)), .val (.ref y2)] []))
  refine own_via (fun t k => XS.iinc X4.here hx rfl (hb hby own_d2_35) rfl (l' := #[.val (.int p1), .val (.ref r1), .val (.int (4 : Int32)), .val (.int (3 : Int32)), .val (.ref y2)]) rfl k) ?_
  show own_G p e below _ (T4.setTop (mkF m 38 #[.val (.int p1), .val (.ref r1), .val (.int (4 : Int32)), .val (.int (3 : Int32)), .val (.ref y2)] []))
  refine own_via (fun t k => XS.goto X4.here hx rfl (pc0 := 38) (pc' := 9) rfl (hb hby own_d2_38) (by decide) (by decide) k) ?_
  show own_G p e below _ (T4.setTop (mkF m 9 #[.val (.int p1), .val (.ref r1), .val (.int (4 : Int32)), .val (.int (3 : Int32)), .val (.ref y2)] []))
  refine own_via (fun t k => XS.iloadN X4.here hx rfl (hb hby own_d2_9) rfl k) ?_
  show own_G p e below _ (T4.setTop (mkF m 10 #[.val (.int p1), .val (.ref r1), .val (.int (4 : Int32)), .val (.int (3 : Int32)), .val (.ref y2)] [(.int (3 : Int32))]))
  refine own_via (fun t k => XS.iloadN X4.here hx rfl (hb hby own_d2_10) rfl k) ?_
  show own_G p e below _ (T4.setTop (mkF m 11 #[.val (.int p1), .val (.ref r1), .val (.int (4 : Int32)), .val (.int (3 : Int32)), .val (.ref y2)] [(.int (4 : Int32)), (.int (3 : Int32))]))
  refine own_via (fun t k => XS.icmpNo X4.here hx rfl (hb hby own_d2_11) rfl (tlt (by decide : (3 : Int32) < (4 : Int32))).2.1 k) ?_
  show own_G p e below _ (T4.setTop (mkF m 14 #[.val (.int p1), .val (.ref r1), .val (.int (4 : Int32)), .val (.int (3 : Int32)), .val (.ref y2)] []))
  refine own_via (fun t k => XS.aloadN X4.here hx rfl (hb hby own_d2_14) rfl rfl k) ?_
  show own_G p e below _ (T4.setTop (mkF m 15 #[.val (.int p1), .val (.ref r1), .val (.int (4 : Int32)), .val (.int (3 : Int32)), .val (.ref y2)] [(.ref r1)]))
  refine own_via (fun t k => XS.iloadN X4.here hx rfl (hb hby own_d2_15) rfl k) ?_
  show own_G p e below _ (T4.setTop (mkF m 16 #[.val (.int p1), .val (.ref r1), .val (.int (4 : Int32)), .val (.int (3 : Int32)), .val (.ref y2)] [(.int (3 : Int32)), (.ref r1)]))
  refine own_via (own_ldA X4 hx hZ e4 i_V1 rfl (j := (3 : Int32)) ⟨by decide, by decide⟩ (v := (.ref y3)) rfl (pc := 16) (Ls := #[.val (.int p1), .val (.ref r1), .val (.int (4 : Int32)), .val (.int (3 : Int32)), .val (.ref y2)]) (rest := []) (hb hby own_d2_16)) ?_
  show own_G p e below _ (T4.setTop (mkF m 17 #[.val (.int p1), .val (.ref r1), .val (.int (4 : Int32)), .val (.int (3 : Int32)), .val (.ref y2)] [(.ref y3)]))
  refine own_via (fun t k => XS.astore X4.here hx rfl (hb hby own_d2_17) rfl rfl (l' := #[.val (.int p1), .val (.ref r1), .val (.int (4 : Int32)), .val (.int (3 : Int32)), .val (.ref y3)]) rfl k) ?_
  show own_G p e below _ (T4.setTop (mkF m 19 #[.val (.int p1), .val (.ref r1), .val (.int (4 : Int32)), .val (.int (3 : Int32)), .val (.ref y3)] []))
  refine own_via (fun t k => XS.iloadN X4.here hx rfl (hb hby own_d2_19) rfl k) ?_
  show own_G p e below _ (T4.setTop (mkF m 20 #[.val (.int p1), .val (.ref r1), .val (.int (4 : Int32)), .val (.int (3 : Int32)), .val (.ref y3)] [(.int p1)]))
  refine own_via (fun t k => XS.ifNo X4.here hx rfl (hb hby own_d2_20) rfl ((if0 _ _).trans (flt hp_h0).1) k) ?_
  show own_G p e below _ (T4.setTop (mkF m 23 #[.val (.int p1), .val (.ref r1), .val (.int (4 : Int32)), .val (.int (3 : Int32)), .val (.ref y3)] []))
  refine own_via (fun t k => XS.aload X4.here hx rfl (hb hby own_d2_23) rfl rfl k) ?_
  show own_G p e below _ (T4.setTop (mkF m 25 #[.val (.int p1), .val (.ref r1), .val (.int (4 : Int32)), .val (.int (3 : Int32)), .val (.ref y3)] [(.ref y3)]))
  obtain ⟨T5, X5, e5, st5⟩ := getF X4 hx hZ hown (host := "") (Or.inl (hw _ (List.mem_of_getElem? (i := 11) rfl))) Via.refl e4 i_F3 (g := (mkF m 25 #[.val (.int p1), .val (.ref r1), .val (.int (4 : Int32)), .val (.int (3 : Int32)), .val (.ref y3)] [(.ref y3)])) rfl rfl (hb hby own_d2_25)
  refine own_via st5 ?_
  show own_G p e below _ (T5.setTop (mkF m 28 #[.val (.int p1), .val (.ref r1), .val (.int (4 : Int32)), .val (.int (3 : Int32)), .val (.ref y3)] [(.int (0 : Int32))]))
  refine own_via (fun t k => XS.iloadN X5.here hx rfl (hb hby own_d2_28) rfl k) ?_
  show own_G p e below _ (T5.setTop (mkF m 29 #[.val (.int p1), .val (.ref r1), .val (.int (4 : Int32)), .val (.int (3 : Int32)), .val (.ref y3)] [(.int p1), (.int (0 : Int32))]))
  refine own_via (fun t k => XS.icmpYes X5.here hx rfl (pc0 := 29) (pc' := 35) rfl (hb hby own_d2_29) rfl (feq (fun q => hp_h2 q.symm)).2 (by decide) (by decide) k) ?_
  show own_G p e below _ (T5.setTop (mkF m 35 #[.val (.int p1), .val (.ref r1), .val (.int (4 : Int32)), .val (.int (3 : Int32)), .val (.ref y3)] []))
  refine own_via (fun t k => XS.iinc X5.here hx rfl (hb hby own_d2_35) rfl (l' := #[.val (.int p1), .val (.ref r1), .val (.int (4 : Int32)), .val (.int (4 : Int32)), .val (.ref y3)]) rfl k) ?_
  show own_G p e below _ (T5.setTop (mkF m 38 #[.val (.int p1), .val (.ref r1), .val (.int (4 : Int32)), .val (.int (4 : Int32)), .val (.ref y3)] []))
  refine own_via (fun t k => XS.goto X5.here hx rfl (pc0 := 38) (pc' := 9) rfl (hb hby own_d2_38) (by decide) (by decide) k) ?_
  show own_G p e below _ (T5.setTop (mkF m 9 #[.val (.int p1), .val (.ref r1), .val (.int (4 : Int32)), .val (.int (4 : Int32)), .val (.ref y3)] []))
  refine own_via (fun t k => XS.iloadN X5.here hx rfl (hb hby own_d2_9) rfl k) ?_
  show own_G p e below _ (T5.setTop (mkF m 10 #[.val (.int p1), .val (.ref r1), .val (.int (4 : Int32)), .val (.int (4 : Int32)), .val (.ref y3)] [(.int (4 : Int32))]))
  refine own_via (fun t k => XS.iloadN X5.here hx rfl (hb hby own_d2_10) rfl k) ?_
  show own_G p e below _ (T5.setTop (mkF m 11 #[.val (.int p1), .val (.ref r1), .val (.int (4 : Int32)), .val (.int (4 : Int32)), .val (.ref y3)] [(.int (4 : Int32)), (.int (4 : Int32))]))
  refine own_via (fun t k => XS.icmpYes X5.here hx rfl (pc0 := 11) (pc' := 41) rfl (hb hby own_d2_11) rfl (flt (by decide : ¬ ((4 : Int32) < (4 : Int32)))).2.1 (by decide) (by decide) k) ?_
  show own_G p e below _ (T5.setTop (mkF m 41 #[.val (.int p1), .val (.ref r1), .val (.int (4 : Int32)), .val (.int (4 : Int32)), .val (.ref y3)] []))
  refine own_via (fun t k => XS.aconstNull X5.here hx rfl (hb hby own_d2_41) k) ?_
  show own_G p e below _ (T5.setTop (mkF m 42 #[.val (.int p1), .val (.ref r1), .val (.int (4 : Int32)), .val (.int (4 : Int32)), .val (.ref y3)] [.null]))
  exact own_retA X5 hx Bd.returns rfl rfl Bd.notSynchronized (hb hby own_d2_42) ⟨rfl, rfl, e5⟩ (by decide) (by decide)
abbrev own_exO_R : Room := { frames := 0, cells := 0, slots := 0, locals := 0 }
theorem own_exO_ef (m : MethodId) (p1 : Int32) : entryFrame m #[(.int p1)] 1 = mkF m 0 #[.val (.int p1)] [] := by first | (simp [entryFrame, mkF, argsToLocals, Value.category]; done) | rfl
set_option maxRecDepth 65536 in
set_option maxHeartbeats 40000000 in
theorem own_exO (l : Launch) (Z : State) (a0 : Array Value) (hw : ∀ d ∈ tables_1, d.before a0 Z = true) (ws : List Jvm.Cond) (p1 : Int32) (y2 : Addr) (y3 : Addr) (h0 : Heap)  (i_S2 : Sta Z h0 "com/example/loudmark/loudmark/core/AudioEncoding" "PCMA" "Lcom/example/loudmark/loudmark/core/AudioEncoding;" (.ref y2)) (i_S3 : Sta Z h0 "com/example/loudmark/loudmark/core/AudioEncoding" "PCMU" "Lcom/example/loudmark/loudmark/core/AudioEncoding;" (.ref y3)) (hp_h0 : ¬ (p1 < (0 : Int32))) (hp_h1 : ¬ (p1 = (8 : Int32))) (hp_h2 : ¬ (p1 = (0 : Int32))) :
    own_C l Z (⟨"com/example/loudmark/loudmark/core/AudioEncodingOfStaticPayloadTypePinLaw", "expected", "(I)Lcom/example/loudmark/loudmark/core/AudioEncoding;"⟩ : MethodName) method_3_code 1 (some (.object "com/example/loudmark/loudmark/core/AudioEncoding")) ws own_exO_R #[(.int p1)] h0 (own_Q .null h0) := by
  refine MetFree.of_bodySF own_pn3 hisR ?_
  intro p e s m args below meth c s₁ Bd hml0 hP hK
  obtain ⟨rfl, hZ, hh⟩ := hP
  have hx := Bd.exec
  have hby := Bd.bytes
  have hml : c.maxLocals = 1 := hml0
  have hown : s.vm.findClass "com/example/loudmark/loudmark/core/AudioEncodingOfStaticPayloadTypePinLaw" = some m.cls := findClass_of_methodNamed Bd.named
  have hnm := (name_of_methodNamed Bd.named Bd.method).1
  have X0 : Stand p l e own_exO_R s m #[(.int p1)] below meth c s₁ [] 0 0 := Stand.of_body Bd
  have e0 : s₁.heap = h0 := by rw [← hh, Bd.state]; rfl
  show own_G p e below (own_P s (own_Q .null h0) own_exO_R.cells own_exO_R.slots) (s₁.setTop (entryFrame m #[(.int p1)] 1))
  rw [own_exO_ef m p1]
  show own_G p e below _ (s₁.setTop (mkF m 0 #[.val (.int p1)] []))
  refine own_via (fun t k => XS.iloadN X0.here hx rfl (hb hby own_d3_0) rfl k) ?_
  show own_G p e below _ (s₁.setTop (mkF m 1 #[.val (.int p1)] [(.int p1)]))
  refine own_via (fun t k => XS.bipush X0.here hx rfl (hb hby own_d3_1) k) ?_
  show own_G p e below _ (s₁.setTop (mkF m 3 #[.val (.int p1)] [(.int (8 : Int32)), (.int p1)]))
  refine own_via (fun t k => XS.icmpYes X0.here hx rfl (pc0 := 3) (pc' := 10) rfl (hb hby own_d3_3) rfl (feq hp_h1).2 (by decide) (by decide) k) ?_
  show own_G p e below _ (s₁.setTop (mkF m 10 #[.val (.int p1)] []))
  refine own_via (fun t k => XS.iloadN X0.here hx rfl (hb hby own_d3_10) rfl k) ?_
  show own_G p e below _ (s₁.setTop (mkF m 11 #[.val (.int p1)] [(.int p1)]))
  refine own_via (fun t k => XS.ifYes X0.here hx rfl (pc0 := 11) (pc' := 18) rfl (hb hby own_d3_11) rfl ((if0 _ _).trans (feq hp_h2).2) (by decide) (by decide) k) ?_
  show own_G p e below _ (s₁.setTop (mkF m 18 #[.val (.int p1)] []))
  refine own_via (fun t k => XS.aconstNull X0.here hx rfl (hb hby own_d3_18) k) ?_
  show own_G p e below _ (s₁.setTop (mkF m 19 #[.val (.int p1)] [.null]))
  exact own_retA X0 hx Bd.returns rfl rfl Bd.notSynchronized (hb hby own_d3_19) ⟨rfl, rfl, e0⟩ (by decide) (by decide)
theorem own_pn0 : plainFor x = true := plainFor_of_name (by first | (simp [plainName, overriddenIn]; done) | decide +kernel)
theorem own_rm0_ef (m : MethodId) (p0 : Int32) (p1 : Int32) : entryFrame m #[(.int p0), (.int p1)] maxLocals = mkF m 0 #[.val (.int p0), .val (.int p1), .unset, .unset] [] := by first | (simp [entryFrame, mkF, argsToLocals, Value.category, maxLocals]; done) | rfl
set_option maxRecDepth 65536 in
set_option maxHeartbeats 40000000 in
theorem own_rm0 (l : Launch) (Z : State) (a0 : Array Value) (hw : ∀ d ∈ tables_1, d.before a0 Z = true) (ws : List Jvm.Cond) (p0 : Int32) (p1 : Int32) (r1 : Addr) (k1 : ClassId) (y0 : Addr) (y1 : Addr) (y2 : Addr) (y3 : Addr) (h0 : Heap) (n0 : Nat) (Z0 : n0 ≤ h0.size) (i_S1 : Sta Z h0 "com/example/loudmark/loudmark/core/AudioEncoding" "ENCODINGS" "[Lcom/example/loudmark/loudmark/core/AudioEncoding;" (.ref r1)) (i_V1 : Arv Z h0 r1 k1 (.object "com/example/loudmark/loudmark/core/AudioEncoding") (4 : Int32) [(.ref y0), (.ref y1), (.ref y2), (.ref y3)] .null) (i_F0 : Fld Z h0 y0 "com/example/loudmark/loudmark/core/AudioEncoding" "staticPayloadType" "I" (.int (-1 : Int32))) (i_F1 : Fld Z h0 y1 "com/example/loudmark/loudmark/core/AudioEncoding" "staticPayloadType" "I" (.int (-1 : Int32))) (i_F2 : Fld Z h0 y2 "com/example/loudmark/loudmark/core/AudioEncoding" "staticPayloadType" "I" (.int (8 : Int32))) (i_F3 : Fld Z h0 y3 "com/example/loudmark/loudmark/core/AudioEncoding" "staticPayloadType" "I" (.int (0 : Int32))) (i_S2 : Sta Z h0 "com/example/loudmark/loudmark/core/AudioEncoding" "PCMA" "Lcom/example/loudmark/loudmark/core/AudioEncoding;" (.ref y2)) (i_S3 : Sta Z h0 "com/example/loudmark/loudmark/core/AudioEncoding" "PCMU" "Lcom/example/loudmark/loudmark/core/AudioEncoding;" (.ref y3)) :
    own_C l Z x code maxLocals ret ws room_1 #[(.int p0), (.int p1)] h0 (own_W n0 (fun v _ => v = some (.int 1))) := by
  refine MetFree.of_bodySF own_pn0 hisR ?_
  intro p e s m args below meth c s₁ Bd hml0 hP hK
  obtain ⟨rfl, hZ, hh⟩ := hP
  have hx := Bd.exec
  have hby := Bd.bytes
  have hml : c.maxLocals = 4 := hml0
  have hown : s.vm.findClass "com/example/loudmark/loudmark/core/AudioEncodingOfStaticPayloadTypePinLaw" = some m.cls := findClass_of_methodNamed Bd.named
  have hnm := (name_of_methodNamed Bd.named Bd.method).1
  have X0 : Stand p l e room_1 s m #[(.int p0), (.int p1)] below meth c s₁ [] 0 0 := Stand.of_body Bd
  have e0 : s₁.heap = h0 := by rw [← hh, Bd.state]; rfl
  have N0 := Fr.nil n0
  show own_G p e below (own_P s (own_W n0 (fun v _ => v = some (.int 1))) room_1.cells room_1.slots) (s₁.setTop (entryFrame m #[(.int p0), (.int p1)] maxLocals))
  rw [own_rm0_ef m p0 p1]
  show own_G p e below _ (s₁.setTop (mkF m 0 #[.val (.int p0), .val (.int p1), .unset, .unset] []))
  refine own_via (fun t k => XS.iloadN X0.here hx rfl (hb hby at_0) rfl k) ?_
  show own_G p e below _ (s₁.setTop (mkF m 1 #[.val (.int p0), .val (.int p1), .unset, .unset] [(.int p0)]))
  refine own_via (fun t k => XS.iloadN X0.here hx rfl (hb hby at_1) rfl k) ?_
  show own_G p e below _ (s₁.setTop (mkF m 2 #[.val (.int p0), .val (.int p1), .unset, .unset] [(.int p1), (.int p0)]))
  obtain ⟨T1, X1, e1, st1⟩ := own_callP (y := (⟨"com/example/loudmark/loudmark/core/AudioEncodingOfStaticPayloadTypePinLaw", "pick", "(II)I"⟩ : MethodName)) (W := 0) X0 hx hZ hown (hw _ (List.mem_of_getElem? (i := 0) rfl)) (hw _ (List.mem_of_getElem? (i := 1) rfl)) (hw _ (List.mem_of_getElem? (i := 2) rfl)) (hw _ (List.mem_of_getElem? (i := 3) rfl)) (by decide) (own_rm1 l Z a0 hw [] p0 p1 h0) (by decide) (by decide) rfl rfl (by decide) (by decide) e0 (pc := 2) (Ls := #[.val (.int p0), .val (.int p1), .unset, .unset]) (st := [(.int p1), (.int p0)]) (argsL := [(.int p0), (.int p1)]) (rest := []) (by rw [hml]; rfl) (lenOf own_pd0 rfl) rfl rfl (Nat.le_of_eq rfl) (hb hby at_2)
  refine own_via st1 ?_
  show own_G p e below _ (T1.setTop (mkF m 5 #[.val (.int p0), .val (.int p1), .unset, .unset] [(.int (own_F1 p0 p1))]))
  generalize hvg2 : (own_F1 p0 p1) = vg2
  show own_G p e below _ (T1.setTop (mkF m 5 #[.val (.int p0), .val (.int p1), .unset, .unset] [(.int vg2)]))
  refine own_via (fun t k => XS.istoreN X1.here hx rfl (hb hby at_5) rfl (l' := #[.val (.int p0), .val (.int p1), .val (.int vg2), .unset]) rfl k) ?_
  show own_G p e below _ (T1.setTop (mkF m 6 #[.val (.int p0), .val (.int p1), .val (.int vg2), .unset] []))
  refine own_via (fun t k => XS.iloadN X1.here hx rfl (hb hby at_6) rfl k) ?_
  show own_G p e below _ (T1.setTop (mkF m 7 #[.val (.int p0), .val (.int p1), .val (.int vg2), .unset] [(.int vg2)]))
  by_cases hc3 : vg2 < (0 : Int32)
  ·
    show own_G p e below _ (T1.setTop (mkF m 7 #[.val (.int p0), .val (.int p1), .val (.int vg2), .unset] [(.int vg2)]))
    obtain ⟨T4, X4, e4, st4⟩ := own_callP (y := (⟨"com/example/loudmark/loudmark/core/AudioEncoding", "ofStaticPayloadType", "(I)Lcom/example/loudmark/loudmark/core/AudioEncoding;"⟩ : MethodName)) (W := 0) X1 hx hZ hown (hw _ (List.mem_of_getElem? (i := 4) rfl)) (hw _ (List.mem_of_getElem? (i := 5) rfl)) (hw _ (List.mem_of_getElem? (i := 6) rfl)) (hw _ (List.mem_of_getElem? (i := 7) rfl)) (by decide) (own_ofN l Z a0 hw [] vg2 r1 k1 y0 y1 y2 y3 h0 i_S1 i_V1 i_F0 i_F1 i_F2 i_F3 hc3) (by decide) (by decide) rfl rfl (by decide) (by decide) e1 (pc := 7) (Ls := #[.val (.int p0), .val (.int p1), .val (.int vg2), .unset]) (st := [(.int vg2)]) (argsL := [(.int vg2)]) (rest := []) (by rw [hml]; rfl) (lenOf own_pd1 rfl) rfl rfl (Nat.le_of_eq rfl) (hb hby at_7)
    refine own_via st4 ?_
    show own_G p e below _ (T4.setTop (mkF m 10 #[.val (.int p0), .val (.int p1), .val (.int vg2), .unset] [.null]))
    refine own_via (fun t k => XS.astoreN X4.here hx rfl (hb hby at_10) rfl rfl (l' := #[.val (.int p0), .val (.int p1), .val (.int vg2), .val .null]) rfl k) ?_
    show own_G p e below _ (T4.setTop (mkF m 11 #[.val (.int p0), .val (.int p1), .val (.int vg2), .val .null] []))
    refine own_via (fun t k => XS.aloadN X4.here hx rfl (hb hby at_11) rfl rfl k) ?_
    show own_G p e below _ (T4.setTop (mkF m 12 #[.val (.int p0), .val (.int p1), .val (.int vg2), .val .null] [.null]))
    refine own_via (fun t k => XS.iloadN X4.here hx rfl (hb hby at_12) rfl k) ?_
    show own_G p e below _ (T4.setTop (mkF m 13 #[.val (.int p0), .val (.int p1), .val (.int vg2), .val .null] [(.int vg2), .null]))
    obtain ⟨T5, X5, e5, st5⟩ := own_callP (y := (⟨"com/example/loudmark/loudmark/core/AudioEncodingOfStaticPayloadTypePinLaw", "expected", "(I)Lcom/example/loudmark/loudmark/core/AudioEncoding;"⟩ : MethodName)) (W := 1) X4 hx hZ hown (hw _ (List.mem_of_getElem? (i := 16) rfl)) (hw _ (List.mem_of_getElem? (i := 17) rfl)) (hw _ (List.mem_of_getElem? (i := 2) rfl)) (hw _ (List.mem_of_getElem? (i := 18) rfl)) (by decide) (own_exN l Z a0 hw [] vg2 y2 y3 h0 i_S2 i_S3 hc3) (by decide) (by decide) rfl rfl (by decide) (by decide) e4 (pc := 13) (Ls := #[.val (.int p0), .val (.int p1), .val (.int vg2), .val .null]) (st := [(.int vg2), .null]) (argsL := [(.int vg2)]) (rest := [.null]) (by rw [hml]; rfl) (lenOf own_pd1 rfl) rfl rfl (Nat.le_of_eq rfl) (hb hby at_13)
    refine own_via st5 ?_
    show own_G p e below _ (T5.setTop (mkF m 16 #[.val (.int p0), .val (.int p1), .val (.int vg2), .val .null] [.null, .null]))
    refine own_via (fun t k => Jvm.RoadKit.acmp (g := (mkF m 16 #[.val (.int p0), .val (.int p1), .val (.int vg2), .val .null] [.null, .null])) X5 hx rfl rfl rfl (pc0 := 16) (pc' := 19) (same := true) rfl (hb hby at_16) rfl (decide_eq_true rfl) (by decide) (by decide) k) ?_
    show own_G p e below _ (T5.setTop (mkF m 19 #[.val (.int p0), .val (.int p1), .val (.int vg2), .val .null] []))
    refine own_via (fun t k => XS.iconst X5.here hx rfl (hb hby at_19) k) ?_
    show own_G p e below _ (T5.setTop (mkF m 20 #[.val (.int p0), .val (.int p1), .val (.int vg2), .val .null] [(.int (1 : Int32))]))
    refine own_via (fun t k => XS.goto X5.here hx rfl (pc0 := 20) (pc' := 24) rfl (hb hby at_20) (by decide) (by decide) k) ?_
    show own_G p e below _ (T5.setTop (mkF m 24 #[.val (.int p0), .val (.int p1), .val (.int vg2), .val .null] [(.int (1 : Int32))]))
    exact own_retN (t := .boolean) X5 hx Bd.returns (by simp) Bd.notSynchronized (hb hby at_24) ⟨N0, rfl⟩ (by decide) (by decide)
  ·
    show own_G p e below _ (T1.setTop (mkF m 7 #[.val (.int p0), .val (.int p1), .val (.int vg2), .unset] [(.int vg2)]))
    by_cases hc6 : vg2 = (8 : Int32)
    ·
      show own_G p e below _ (T1.setTop (mkF m 7 #[.val (.int p0), .val (.int p1), .val (.int vg2), .unset] [(.int vg2)]))
      obtain ⟨T7, X7, e7, st7⟩ := own_callP (y := (⟨"com/example/loudmark/loudmark/core/AudioEncoding", "ofStaticPayloadType", "(I)Lcom/example/loudmark/loudmark/core/AudioEncoding;"⟩ : MethodName)) (W := 0) X1 hx hZ hown (hw _ (List.mem_of_getElem? (i := 4) rfl)) (hw _ (List.mem_of_getElem? (i := 5) rfl)) (hw _ (List.mem_of_getElem? (i := 6) rfl)) (hw _ (List.mem_of_getElem? (i := 7) rfl)) (by decide) (own_ofA l Z a0 hw [] vg2 r1 k1 y0 y1 y2 y3 h0 i_S1 i_V1 i_F0 i_F1 i_F2 i_F3 hc6) (by decide) (by decide) rfl rfl (by decide) (by decide) e1 (pc := 7) (Ls := #[.val (.int p0), .val (.int p1), .val (.int vg2), .unset]) (st := [(.int vg2)]) (argsL := [(.int vg2)]) (rest := []) (by rw [hml]; rfl) (lenOf own_pd1 rfl) rfl rfl (Nat.le_of_eq rfl) (hb hby at_7)
      refine own_via st7 ?_
      show own_G p e below _ (T7.setTop (mkF m 10 #[.val (.int p0), .val (.int p1), .val (.int vg2), .unset] [(.ref y2)]))
      refine own_via (fun t k => XS.astoreN X7.here hx rfl (hb hby at_10) rfl rfl (l' := #[.val (.int p0), .val (.int p1), .val (.int vg2), .val (.ref y2)]) rfl k) ?_
      show own_G p e below _ (T7.setTop (mkF m 11 #[.val (.int p0), .val (.int p1), .val (.int vg2), .val (.ref y2)] []))
      refine own_via (fun t k => XS.aloadN X7.here hx rfl (hb hby at_11) rfl rfl k) ?_
      show own_G p e below _ (T7.setTop (mkF m 12 #[.val (.int p0), .val (.int p1), .val (.int vg2), .val (.ref y2)] [(.ref y2)]))
      refine own_via (fun t k => XS.iloadN X7.here hx rfl (hb hby at_12) rfl k) ?_
      show own_G p e below _ (T7.setTop (mkF m 13 #[.val (.int p0), .val (.int p1), .val (.int vg2), .val (.ref y2)] [(.int vg2), (.ref y2)]))
      obtain ⟨T8, X8, e8, st8⟩ := own_callP (y := (⟨"com/example/loudmark/loudmark/core/AudioEncodingOfStaticPayloadTypePinLaw", "expected", "(I)Lcom/example/loudmark/loudmark/core/AudioEncoding;"⟩ : MethodName)) (W := 1) X7 hx hZ hown (hw _ (List.mem_of_getElem? (i := 16) rfl)) (hw _ (List.mem_of_getElem? (i := 17) rfl)) (hw _ (List.mem_of_getElem? (i := 2) rfl)) (hw _ (List.mem_of_getElem? (i := 18) rfl)) (by decide) (own_exA l Z a0 hw [] vg2 y2 y3 h0 i_S2 i_S3 hc6) (by decide) (by decide) rfl rfl (by decide) (by decide) e7 (pc := 13) (Ls := #[.val (.int p0), .val (.int p1), .val (.int vg2), .val (.ref y2)]) (st := [(.int vg2), (.ref y2)]) (argsL := [(.int vg2)]) (rest := [(.ref y2)]) (by rw [hml]; rfl) (lenOf own_pd1 rfl) rfl rfl (Nat.le_of_eq rfl) (hb hby at_13)
      refine own_via st8 ?_
      show own_G p e below _ (T8.setTop (mkF m 16 #[.val (.int p0), .val (.int p1), .val (.int vg2), .val (.ref y2)] [(.ref y2), (.ref y2)]))
      refine own_via (fun t k => Jvm.RoadKit.acmp (g := (mkF m 16 #[.val (.int p0), .val (.int p1), .val (.int vg2), .val (.ref y2)] [(.ref y2), (.ref y2)])) X8 hx rfl rfl rfl (pc0 := 16) (pc' := 19) (same := true) rfl (hb hby at_16) rfl (decide_eq_true rfl) (by decide) (by decide) k) ?_
      show own_G p e below _ (T8.setTop (mkF m 19 #[.val (.int p0), .val (.int p1), .val (.int vg2), .val (.ref y2)] []))
      refine own_via (fun t k => XS.iconst X8.here hx rfl (hb hby at_19) k) ?_
      show own_G p e below _ (T8.setTop (mkF m 20 #[.val (.int p0), .val (.int p1), .val (.int vg2), .val (.ref y2)] [(.int (1 : Int32))]))
      refine own_via (fun t k => XS.goto X8.here hx rfl (pc0 := 20) (pc' := 24) rfl (hb hby at_20) (by decide) (by decide) k) ?_
      show own_G p e below _ (T8.setTop (mkF m 24 #[.val (.int p0), .val (.int p1), .val (.int vg2), .val (.ref y2)] [(.int (1 : Int32))]))
      exact own_retN (t := .boolean) X8 hx Bd.returns (by simp) Bd.notSynchronized (hb hby at_24) ⟨N0, rfl⟩ (by decide) (by decide)
    ·
      show own_G p e below _ (T1.setTop (mkF m 7 #[.val (.int p0), .val (.int p1), .val (.int vg2), .unset] [(.int vg2)]))
      by_cases hc9 : vg2 = (0 : Int32)
      ·
        show own_G p e below _ (T1.setTop (mkF m 7 #[.val (.int p0), .val (.int p1), .val (.int vg2), .unset] [(.int vg2)]))
        obtain ⟨T10, X10, e10, st10⟩ := own_callP (y := (⟨"com/example/loudmark/loudmark/core/AudioEncoding", "ofStaticPayloadType", "(I)Lcom/example/loudmark/loudmark/core/AudioEncoding;"⟩ : MethodName)) (W := 0) X1 hx hZ hown (hw _ (List.mem_of_getElem? (i := 4) rfl)) (hw _ (List.mem_of_getElem? (i := 5) rfl)) (hw _ (List.mem_of_getElem? (i := 6) rfl)) (hw _ (List.mem_of_getElem? (i := 7) rfl)) (by decide) (own_ofU l Z a0 hw [] vg2 r1 k1 y0 y1 y2 y3 h0 i_S1 i_V1 i_F0 i_F1 i_F2 i_F3 hc9) (by decide) (by decide) rfl rfl (by decide) (by decide) e1 (pc := 7) (Ls := #[.val (.int p0), .val (.int p1), .val (.int vg2), .unset]) (st := [(.int vg2)]) (argsL := [(.int vg2)]) (rest := []) (by rw [hml]; rfl) (lenOf own_pd1 rfl) rfl rfl (Nat.le_of_eq rfl) (hb hby at_7)
        refine own_via st10 ?_
        show own_G p e below _ (T10.setTop (mkF m 10 #[.val (.int p0), .val (.int p1), .val (.int vg2), .unset] [(.ref y3)]))
        refine own_via (fun t k => XS.astoreN X10.here hx rfl (hb hby at_10) rfl rfl (l' := #[.val (.int p0), .val (.int p1), .val (.int vg2), .val (.ref y3)]) rfl k) ?_
        show own_G p e below _ (T10.setTop (mkF m 11 #[.val (.int p0), .val (.int p1), .val (.int vg2), .val (.ref y3)] []))
        refine own_via (fun t k => XS.aloadN X10.here hx rfl (hb hby at_11) rfl rfl k) ?_
        show own_G p e below _ (T10.setTop (mkF m 12 #[.val (.int p0), .val (.int p1), .val (.int vg2), .val (.ref y3)] [(.ref y3)]))
        refine own_via (fun t k => XS.iloadN X10.here hx rfl (hb hby at_12) rfl k) ?_
        show own_G p e below _ (T10.setTop (mkF m 13 #[.val (.int p0), .val (.int p1), .val (.int vg2), .val (.ref y3)] [(.int vg2), (.ref y3)]))
        obtain ⟨T11, X11, e11, st11⟩ := own_callP (y := (⟨"com/example/loudmark/loudmark/core/AudioEncodingOfStaticPayloadTypePinLaw", "expected", "(I)Lcom/example/loudmark/loudmark/core/AudioEncoding;"⟩ : MethodName)) (W := 1) X10 hx hZ hown (hw _ (List.mem_of_getElem? (i := 16) rfl)) (hw _ (List.mem_of_getElem? (i := 17) rfl)) (hw _ (List.mem_of_getElem? (i := 2) rfl)) (hw _ (List.mem_of_getElem? (i := 18) rfl)) (by decide) (own_exU l Z a0 hw [] vg2 y2 y3 h0 i_S2 i_S3 hc9) (by decide) (by decide) rfl rfl (by decide) (by decide) e10 (pc := 13) (Ls := #[.val (.int p0), .val (.int p1), .val (.int vg2), .val (.ref y3)]) (st := [(.int vg2), (.ref y3)]) (argsL := [(.int vg2)]) (rest := [(.ref y3)]) (by rw [hml]; rfl) (lenOf own_pd1 rfl) rfl rfl (Nat.le_of_eq rfl) (hb hby at_13)
        refine own_via st11 ?_
        show own_G p e below _ (T11.setTop (mkF m 16 #[.val (.int p0), .val (.int p1), .val (.int vg2), .val (.ref y3)] [(.ref y3), (.ref y3)]))
        refine own_via (fun t k => Jvm.RoadKit.acmp (g := (mkF m 16 #[.val (.int p0), .val (.int p1), .val (.int vg2), .val (.ref y3)] [(.ref y3), (.ref y3)])) X11 hx rfl rfl rfl (pc0 := 16) (pc' := 19) (same := true) rfl (hb hby at_16) rfl (decide_eq_true rfl) (by decide) (by decide) k) ?_
        show own_G p e below _ (T11.setTop (mkF m 19 #[.val (.int p0), .val (.int p1), .val (.int vg2), .val (.ref y3)] []))
        refine own_via (fun t k => XS.iconst X11.here hx rfl (hb hby at_19) k) ?_
        show own_G p e below _ (T11.setTop (mkF m 20 #[.val (.int p0), .val (.int p1), .val (.int vg2), .val (.ref y3)] [(.int (1 : Int32))]))
        refine own_via (fun t k => XS.goto X11.here hx rfl (pc0 := 20) (pc' := 24) rfl (hb hby at_20) (by decide) (by decide) k) ?_
        show own_G p e below _ (T11.setTop (mkF m 24 #[.val (.int p0), .val (.int p1), .val (.int vg2), .val (.ref y3)] [(.int (1 : Int32))]))
        exact own_retN (t := .boolean) X11 hx Bd.returns (by simp) Bd.notSynchronized (hb hby at_24) ⟨N0, rfl⟩ (by decide) (by decide)
      ·
        show own_G p e below _ (T1.setTop (mkF m 7 #[.val (.int p0), .val (.int p1), .val (.int vg2), .unset] [(.int vg2)]))
        obtain ⟨T12, X12, e12, st12⟩ := own_callP (y := (⟨"com/example/loudmark/loudmark/core/AudioEncoding", "ofStaticPayloadType", "(I)Lcom/example/loudmark/loudmark/core/AudioEncoding;"⟩ : MethodName)) (W := 0) X1 hx hZ hown (hw _ (List.mem_of_getElem? (i := 4) rfl)) (hw _ (List.mem_of_getElem? (i := 5) rfl)) (hw _ (List.mem_of_getElem? (i := 6) rfl)) (hw _ (List.mem_of_getElem? (i := 7) rfl)) (by decide) (own_ofO l Z a0 hw [] vg2 r1 k1 y0 y1 y2 y3 h0 i_S1 i_V1 i_F0 i_F1 i_F2 i_F3 hc3 hc6 hc9) (by decide) (by decide) rfl rfl (by decide) (by decide) e1 (pc := 7) (Ls := #[.val (.int p0), .val (.int p1), .val (.int vg2), .unset]) (st := [(.int vg2)]) (argsL := [(.int vg2)]) (rest := []) (by rw [hml]; rfl) (lenOf own_pd1 rfl) rfl rfl (Nat.le_of_eq rfl) (hb hby at_7)
        refine own_via st12 ?_
        show own_G p e below _ (T12.setTop (mkF m 10 #[.val (.int p0), .val (.int p1), .val (.int vg2), .unset] [.null]))
        refine own_via (fun t k => XS.astoreN X12.here hx rfl (hb hby at_10) rfl rfl (l' := #[.val (.int p0), .val (.int p1), .val (.int vg2), .val .null]) rfl k) ?_
        show own_G p e below _ (T12.setTop (mkF m 11 #[.val (.int p0), .val (.int p1), .val (.int vg2), .val .null] []))
        refine own_via (fun t k => XS.aloadN X12.here hx rfl (hb hby at_11) rfl rfl k) ?_
        show own_G p e below _ (T12.setTop (mkF m 12 #[.val (.int p0), .val (.int p1), .val (.int vg2), .val .null] [.null]))
        refine own_via (fun t k => XS.iloadN X12.here hx rfl (hb hby at_12) rfl k) ?_
        show own_G p e below _ (T12.setTop (mkF m 13 #[.val (.int p0), .val (.int p1), .val (.int vg2), .val .null] [(.int vg2), .null]))
        obtain ⟨T13, X13, e13, st13⟩ := own_callP (y := (⟨"com/example/loudmark/loudmark/core/AudioEncodingOfStaticPayloadTypePinLaw", "expected", "(I)Lcom/example/loudmark/loudmark/core/AudioEncoding;"⟩ : MethodName)) (W := 1) X12 hx hZ hown (hw _ (List.mem_of_getElem? (i := 16) rfl)) (hw _ (List.mem_of_getElem? (i := 17) rfl)) (hw _ (List.mem_of_getElem? (i := 2) rfl)) (hw _ (List.mem_of_getElem? (i := 18) rfl)) (by decide) (own_exO l Z a0 hw [] vg2 y2 y3 h0 i_S2 i_S3 hc3 hc6 hc9) (by decide) (by decide) rfl rfl (by decide) (by decide) e12 (pc := 13) (Ls := #[.val (.int p0), .val (.int p1), .val (.int vg2), .val .null]) (st := [(.int vg2), .null]) (argsL := [(.int vg2)]) (rest := [.null]) (by rw [hml]; rfl) (lenOf own_pd1 rfl) rfl rfl (Nat.le_of_eq rfl) (hb hby at_13)
        refine own_via st13 ?_
        show own_G p e below _ (T13.setTop (mkF m 16 #[.val (.int p0), .val (.int p1), .val (.int vg2), .val .null] [.null, .null]))
        refine own_via (fun t k => Jvm.RoadKit.acmp (g := (mkF m 16 #[.val (.int p0), .val (.int p1), .val (.int vg2), .val .null] [.null, .null])) X13 hx rfl rfl rfl (pc0 := 16) (pc' := 19) (same := true) rfl (hb hby at_16) rfl (decide_eq_true rfl) (by decide) (by decide) k) ?_
        show own_G p e below _ (T13.setTop (mkF m 19 #[.val (.int p0), .val (.int p1), .val (.int vg2), .val .null] []))
        refine own_via (fun t k => XS.iconst X13.here hx rfl (hb hby at_19) k) ?_
        show own_G p e below _ (T13.setTop (mkF m 20 #[.val (.int p0), .val (.int p1), .val (.int vg2), .val .null] [(.int (1 : Int32))]))
        refine own_via (fun t k => XS.goto X13.here hx rfl (pc0 := 20) (pc' := 24) rfl (hb hby at_20) (by decide) (by decide) k) ?_
        show own_G p e below _ (T13.setTop (mkF m 24 #[.val (.int p0), .val (.int p1), .val (.int vg2), .val .null] [(.int (1 : Int32))]))
        exact own_retN (t := .boolean) X13 hx Bd.returns (by simp) Bd.notSynchronized (hb hby at_24) ⟨N0, rfl⟩ (by decide) (by decide)
set_option maxRecDepth 65536 in
set_option maxHeartbeats 40000000 in
theorem comes_1 {Post : Tables → Env → Array Value → State → Outcome → State → Prop} (hpost : ∀ tb e args s v u, (limb_1_1.after args s (.returned v) u = true ∧ limb_1_2.after args s (.returned v) u = true) → FrameEnd s (.returned v) u (Jvm.fieldLocs frame_1_writes args s ++ Jvm.arrayLocs frame_1_arrays args s ++ Jvm.staticLocs frame_1_statics s) 0 0 → Post tb e args s (.returned v) u) :
    ArmFor flags0 classFile x code maxLocals ret World_1 tables_1 room_1 Calls_1 rest_1 Pre_1 Post := by
  intro l hfl _ _ p e ha hc hk s m args below hf hA hF happ hP
  obtain ⟨hcalls, hrest, hpre⟩ := hP
  obtain ⟨-, -, -, hnamed, -, -, -, hat⟩ := (Spec.applies_iff hf).mp happ
  obtain ⟨hg, hn⟩ := and_e (Cond.before_iff.mp (show (Jvm.Cond.and given_1 narrow_1).before args s = true from hpre))
  obtain ⟨g1, g2⟩ := and_e hg
  obtain ⟨g3, g4⟩ := and_e g2
  obtain ⟨w0, w1, rfl⟩ : ∃ w0 w1 : Value, args = #[w0, w1] := by
    have hs : args.size = 2 := by simpa [Cond.value, given_1] using g1
    obtain ⟨L⟩ := args
    match L, hs with
    | [w0, w1], _ => exact ⟨w0, w1, rfl⟩
  have hw := fun d (hd : d ∈ tables_1) => atoms_spec (ws := Jvm.Cond.code x code maxLocals ret :: tables_1) hat d (List.mem_cons_of_mem _ hd)
  obtain ⟨i0, ei0⟩ := is_v g3
  obtain rfl : w0 = (.int i0) := Option.some.inj ei0
  obtain ⟨i1, ei1⟩ := is_v g4
  obtain rfl : w1 = (.int i1) := Option.some.inj ei1
  have hfit : Fit s := fun {y c} hc i hi => by
    obtain ⟨ha, rfl⟩ := Array.getElem?_eq_some_iff.mp hc
    have q := List.all_eq_true.mp ((Array.all_eq_true_iff_forall_mem.mp hF) _ (Array.getElem_mem ha)) i (List.mem_range.mpr hi)
    simpa [Array.getElem?_eq_getElem hi] using q
  obtain ⟨rr, kk, x0, x1, x2, x3, S1, V1, F0, F1, F2, F3, S2, S3⟩ := own_start hfit hw hn
  obtain ⟨n, o, h1, h2, h3, _, L, rfl, ⟨N, rfl⟩, hq⟩ := own_rm0 l s _ hw tables_1 i0 i1 rr kk x0 x1 x2 x3 s.heap s.heap.size (Nat.le_refl _) S1 V1 F0 F1 F2 F3 S2 S3 p e ha hc hk s m _ below hf ((Spec.applies_iff_loose hf).mp happ).1 ⟨rfl, State.Warmed39.refl s, rfl⟩ trivial
  refine ⟨n, _, h1, h2, h3, hpost _ _ _ _ _ _ ⟨Cond.after_iff.mpr rfl, Cond.after_iff.mpr (eq_i res_at (Term.int_eval (1)) rfl)⟩ ⟨hq.1, hq.2.1, (hq.2.2.sift fun y hy => Or.inr (N y hy)).mono (by decide) (by decide)⟩⟩
theorem main_1_1 : Claimed_1_1 := comes_1 fun _ _ _ _ _ _ h hF => ⟨h.1, hF⟩
theorem main_1_2 : Claimed_1_2 := comes_1 fun _ _ _ _ _ _ h hF => ⟨h.2, hF⟩
end Jvm.Pilot.@@N@@
namespace Jvm.Pilot.@@N@@
open Jvm Jvm.ClassFile Sem Op Lib Jvm.Free Jvm.Stand Jvm.Pilot.@@N@@.Jvm.D
/-! MADE BY PROGRAM (witnessworld.py) out of the Statement's table words and the real class files: 13 classes; the members and pool entries that the words name. The judged class is class 1, her method 3. -/
namespace start1
open Jvm.ClassFile
def u (s : String) : CpInfo := .utf8 (stringToUtf16 s)
/-- a pool by its gaps: so many unusable entries, then the entry; so many at the end -/
def gap : Nat → List CpInfo → List CpInfo
  | 0, r => r
  | n + 1, r => .unusable :: gap n r
def poolList (es : List (Nat × CpInfo)) (last : Nat) : List CpInfo := es.foldr (fun e r => gap e.1 (e.2 :: r)) (gap last [])
def pool (es : List (Nat × CpInfo)) (last : Nat) : Array CpInfo := ⟨poolList es last⟩
def fileOf (pool : Array CpInfo) (this : Nat) (attrs : Array Attribute := #[]) (ms : Array MethodInfo := #[]) (fl : Nat := 33) (sup : Nat := 0) (ifs : Array Nat := #[]) (fds : Array FieldInfo := #[]) : ClassFile where
  minorVersion := 0
  majorVersion := 65
  constantPool := pool
  accessFlags := fl
  thisClass := this
  superClass := sup
  interfaces := ifs
  fields := fds
  methods := ms
  attributes := attrs
def plain (name : String) (sup : Option ClassId) : Class where
  name := name
  kind := .ordinary
  loader := none
  accessFlags := 33
  super := sup
  interfaces := #[]
  cf := none
  fields := #[]
  methods := #[]
  instanceTypes := #[]
  staticTypes := #[]
  resolved := #[]
  callSites := []
  init := .initialized
  statics := none
  mirror := none

def pool0 : Array CpInfo := pool [(5, u "<init>"), (0, u "()V"), (1, .class_ 10), (1, u "java/lang/Object")] 113

def k0m0 : Method := { name := "<init>", desc := "()V", sig := { parameters := [], returnType := none }, accessFlags := 1, code := none }
/-- java/lang/Object -/
def k0 : Class := { plain "java/lang/Object" none with
  accessFlags := 33
  interfaces := #[]
  cf := some (fileOf pool0 8 #[] #[{ accessFlags := 1, nameIndex := 5, descriptorIndex := 6, attributes := #[] }] 33 0 #[] #[])
  fields := #[]
  methods := #[k0m0]
  instanceTypes := #[]
  staticTypes := #[]
  resolved := Array.replicate 124 none
  statics := none }

def pool1 : Array CpInfo := pool [(2, .class_ 4), (1, u "java/lang/Object"), (0, u "<init>"), (0, u "()V"), (0, .fieldref 8 9), (0, .class_ 10), (0, .nameAndType 11 12), (0, u "com/example/loudmark/loudmark/core/AudioEncoding"), (0, u "PCMA"), (0, u "Lcom/example/loudmark/loudmark/core/AudioEncoding;"), (0, .fieldref 8 14), (0, .nameAndType 15 12), (0, u "PCMU"), (0, .methodref 17 18), (0, .class_ 19), (0, .nameAndType 20 21), (0, u "com/example/loudmark/loudmark/core/AudioEncodingOfStaticPayloadTypePinLaw"), (0, u "pick"), (0, u "(II)I"), (0, .methodref 8 23), (0, .nameAndType 24 25), (0, u "ofStaticPayloadType"), (0, u "(I)Lcom/example/loudmark/loudmark/core/AudioEncoding;"), (0, .methodref 17 27), (0, .nameAndType 28 25), (0, u "expected"), (3, u "law"), (0, u "(II)Z")] 2

def k1m0 : Method := { name := "<init>", desc := "()V", sig := { parameters := [], returnType := none }, accessFlags := 2, code := none }
def k1c1 : Code := { maxStack := 2, maxLocals := 3, code := method_2_code, exceptionTable := #[], attributes := #[] }
def k1m1 : Method := { name := "pick", desc := "(II)I", sig := { parameters := [.int, .int], returnType := some .int }, accessFlags := 10, code := some k1c1 }
def k1c2 : Code := { maxStack := 2, maxLocals := 1, code := method_3_code, exceptionTable := #[], attributes := #[] }
def k1m2 : Method := { name := "expected", desc := "(I)Lcom/example/loudmark/loudmark/core/AudioEncoding;", sig := { parameters := [.int], returnType := some (.object "com/example/loudmark/loudmark/core/AudioEncoding") }, accessFlags := 10, code := some k1c2 }
def k1c3 : Code := { maxStack := 2, maxLocals := 4, code := code, exceptionTable := #[], attributes := #[] }
def k1m3 : Method := { name := "law", desc := "(II)Z", sig := { parameters := [.int, .int], returnType := some .boolean }, accessFlags := 9, code := some k1c3 }
/-- com/example/loudmark/loudmark/core/AudioEncodingOfStaticPayloadTypePinLaw -/
def k1 : Class := { plain "com/example/loudmark/loudmark/core/AudioEncodingOfStaticPayloadTypePinLaw" (some 0) with
  accessFlags := 49
  interfaces := #[]
  cf := some (fileOf pool1 17 #[] #[{ accessFlags := 2, nameIndex := 5, descriptorIndex := 6, attributes := #[] }, { accessFlags := 10, nameIndex := 20, descriptorIndex := 21, attributes := #[] }, { accessFlags := 10, nameIndex := 28, descriptorIndex := 25, attributes := #[] }, { accessFlags := 9, nameIndex := 32, descriptorIndex := 33, attributes := #[] }] 49 2 #[] #[])
  fields := #[]
  methods := #[k1m0, k1m1, k1m2, k1m3]
  instanceTypes := #[]
  staticTypes := #[]
  resolved := Array.replicate 36 none
  statics := none }

def pool2 : Array CpInfo := pool [(1, .class_ 2), (0, u "java/lang/constant/Constable"), (0, .class_ 4), (0, u "java/lang/Object")] 6

/-- java/lang/constant/Constable -/
def k2 : Class := { plain "java/lang/constant/Constable" (some 0) with
  accessFlags := 1537
  interfaces := #[]
  cf := some (fileOf pool2 1 #[] #[] 1537 3 #[] #[])
  fields := #[]
  methods := #[]
  instanceTypes := #[]
  staticTypes := #[]
  resolved := Array.replicate 11 none
  statics := none }

def pool3 : Array CpInfo := pool [(1, .class_ 2), (0, u "java/lang/Comparable"), (0, .class_ 4), (0, u "java/lang/Object")] 7

/-- java/lang/Comparable -/
def k3 : Class := { plain "java/lang/Comparable" (some 0) with
  accessFlags := 1537
  interfaces := #[]
  cf := some (fileOf pool3 1 #[] #[] 1537 3 #[] #[])
  fields := #[]
  methods := #[]
  instanceTypes := #[]
  staticTypes := #[]
  resolved := Array.replicate 12 none
  statics := none }

def pool4 : Array CpInfo := pool [(1, .class_ 2), (0, u "java/io/Serializable"), (0, .class_ 4), (0, u "java/lang/Object")] 2

/-- java/io/Serializable -/
def k4 : Class := { plain "java/io/Serializable" (some 0) with
  accessFlags := 1537
  interfaces := #[]
  cf := some (fileOf pool4 1 #[] #[] 1537 3 #[] #[])
  fields := #[]
  methods := #[]
  instanceTypes := #[]
  staticTypes := #[]
  resolved := Array.replicate 7 none
  statics := none }

def pool5 : Array CpInfo := pool [(2, .class_ 4), (1, u "java/lang/Enum"), (0, u "name"), (0, u "Ljava/lang/String;"), (2, u "ordinal"), (0, u "I"), (1, .class_ 14), (1, u "java/lang/Object"), (4, u "hash"), (86, .class_ 108), (1, u "java/lang/Enum$EnumDesc"), (2, .class_ 112), (0, u "java/lang/constant/Constable"), (0, .class_ 114), (0, u "java/lang/Comparable"), (0, .class_ 116), (0, u "java/io/Serializable")] 87

/-- java/lang/Enum -/
def k5 : Class := { plain "java/lang/Enum" (some 0) with
  accessFlags := 1057
  interfaces := #[2, 3, 4]
  cf := some (fileOf pool5 2 #[.nestMembers #[106]] #[] 1057 12 #[111, 113, 115] #[{ accessFlags := 18, nameIndex := 5, descriptorIndex := 6, attributes := #[] }, { accessFlags := 18, nameIndex := 9, descriptorIndex := 10, attributes := #[] }, { accessFlags := 2, nameIndex := 19, descriptorIndex := 10, attributes := #[] }])
  fields := #[{ name := "name", type := (.object "java/lang/String"), accessFlags := 18, slot := 0, constantValue := 0 }, { name := "ordinal", type := .int, accessFlags := 18, slot := 1, constantValue := 0 }, { name := "hash", type := .int, accessFlags := 2, slot := 2, constantValue := 0 }]
  methods := #[]
  instanceTypes := #[(.object "java/lang/String"), .int, .int]
  staticTypes := #[]
  resolved := Array.replicate 204 none
  statics := none }

def pool6 : Array CpInfo := pool [(1, .class_ 2), (0, u "com/example/loudmark/loudmark/core/AudioEncoding"), (2, u "L8"), (0, u "Lcom/example/loudmark/loudmark/core/AudioEncoding;"), (2, u "L16"), (2, u "PCMA"), (2, u "PCMU"), (2, u "$VALUES"), (0, u "[Lcom/example/loudmark/loudmark/core/AudioEncoding;"), (6, .class_ 28), (1, u "java/lang/Enum"), (8, u "bytesPerSample"), (0, u "I"), (2, u "overloadPoint"), (2, u "encodeByte"), (0, u "Ljava/util/function/IntUnaryOperator;"), (0, .fieldref 1 47), (0, .nameAndType 48 38), (0, u "staticPayloadType"), (2, u "linear"), (0, u "[S"), (2, u "zeroMagnitude"), (20, .fieldref 1 77), (0, .nameAndType 78 19), (0, u "ENCODINGS"), (77, u "STATIC_PAYLOAD_RATE"), (11, u "ofStaticPayloadType"), (0, u "(I)Lcom/example/loudmark/loudmark/core/AudioEncoding;")] 47

def k6c0 : Code := { maxStack := 2, maxLocals := 5, code := prog_16_method_7_code, exceptionTable := #[], attributes := #[] }
def k6m0 : Method := { name := "ofStaticPayloadType", desc := "(I)Lcom/example/loudmark/loudmark/core/AudioEncoding;", sig := { parameters := [.int], returnType := some (.object "com/example/loudmark/loudmark/core/AudioEncoding") }, accessFlags := 9, code := some k6c0 }
/-- com/example/loudmark/loudmark/core/AudioEncoding -/
def k6 : Class := { plain "com/example/loudmark/loudmark/core/AudioEncoding" (some 5) with
  accessFlags := 16433
  interfaces := #[]
  cf := some (fileOf pool6 1 #[] #[{ accessFlags := 9, nameIndex := 168, descriptorIndex := 169, attributes := #[] }] 16433 26 #[] #[{ accessFlags := 16409, nameIndex := 5, descriptorIndex := 6, attributes := #[] }, { accessFlags := 16409, nameIndex := 9, descriptorIndex := 6, attributes := #[] }, { accessFlags := 16409, nameIndex := 12, descriptorIndex := 6, attributes := #[] }, { accessFlags := 16409, nameIndex := 15, descriptorIndex := 6, attributes := #[] }, { accessFlags := 25, nameIndex := 156, descriptorIndex := 38, attributes := #[] }, { accessFlags := 26, nameIndex := 78, descriptorIndex := 19, attributes := #[] }, { accessFlags := 18, nameIndex := 37, descriptorIndex := 38, attributes := #[] }, { accessFlags := 18, nameIndex := 41, descriptorIndex := 38, attributes := #[] }, { accessFlags := 18, nameIndex := 51, descriptorIndex := 52, attributes := #[] }, { accessFlags := 18, nameIndex := 44, descriptorIndex := 45, attributes := #[] }, { accessFlags := 18, nameIndex := 55, descriptorIndex := 38, attributes := #[] }, { accessFlags := 18, nameIndex := 48, descriptorIndex := 38, attributes := #[] }, { accessFlags := 4122, nameIndex := 18, descriptorIndex := 19, attributes := #[] }])
  fields := #[{ name := "L8", type := (.object "com/example/loudmark/loudmark/core/AudioEncoding"), accessFlags := 16409, slot := 0, constantValue := 0 }, { name := "L16", type := (.object "com/example/loudmark/loudmark/core/AudioEncoding"), accessFlags := 16409, slot := 1, constantValue := 0 }, { name := "PCMA", type := (.object "com/example/loudmark/loudmark/core/AudioEncoding"), accessFlags := 16409, slot := 2, constantValue := 0 }, { name := "PCMU", type := (.object "com/example/loudmark/loudmark/core/AudioEncoding"), accessFlags := 16409, slot := 3, constantValue := 0 }, { name := "STATIC_PAYLOAD_RATE", type := .int, accessFlags := 25, slot := 4, constantValue := 0 }, { name := "ENCODINGS", type := (.array (.object "com/example/loudmark/loudmark/core/AudioEncoding")), accessFlags := 26, slot := 5, constantValue := 0 }, { name := "bytesPerSample", type := .int, accessFlags := 18, slot := 3, constantValue := 0 }, { name := "overloadPoint", type := .int, accessFlags := 18, slot := 4, constantValue := 0 }, { name := "linear", type := (.array .short), accessFlags := 18, slot := 5, constantValue := 0 }, { name := "encodeByte", type := (.object "java/util/function/IntUnaryOperator"), accessFlags := 18, slot := 6, constantValue := 0 }, { name := "zeroMagnitude", type := .int, accessFlags := 18, slot := 7, constantValue := 0 }, { name := "staticPayloadType", type := .int, accessFlags := 18, slot := 8, constantValue := 0 }, { name := "$VALUES", type := (.array (.object "com/example/loudmark/loudmark/core/AudioEncoding")), accessFlags := 4122, slot := 6, constantValue := 0 }]
  methods := #[k6m0]
  instanceTypes := #[(.object "java/lang/String"), .int, .int, .int, .int, (.array .short), (.object "java/util/function/IntUnaryOperator"), .int, .int]
  staticTypes := #[(.object "com/example/loudmark/loudmark/core/AudioEncoding"), (.object "com/example/loudmark/loudmark/core/AudioEncoding"), (.object "com/example/loudmark/loudmark/core/AudioEncoding"), (.object "com/example/loudmark/loudmark/core/AudioEncoding"), .int, (.array (.object "com/example/loudmark/loudmark/core/AudioEncoding")), (.array (.object "com/example/loudmark/loudmark/core/AudioEncoding"))]
  resolved := Array.replicate 217 none
  statics := some 0 }

def pool7 : Array CpInfo := pool [(1, u "java/lang/Cloneable"), (0, .class_ 1), (0, u "java/lang/Object"), (0, .class_ 3)] 3

/-- java/lang/Cloneable -/
def k7 : Class := { plain "java/lang/Cloneable" (some 0) with
  accessFlags := 1537
  interfaces := #[]
  cf := some (fileOf pool7 2 #[] #[] 1537 4 #[] #[])
  fields := #[]
  methods := #[]
  instanceTypes := #[]
  staticTypes := #[]
  resolved := Array.replicate 8 none
  statics := none }

/-- the primitive byte -/
def k8 : Class := { plain "byte" none with kind := .primitive 'B', accessFlags := 0x411 }
/-- [B -/
def k9 : Class := { plain "[B" (some 0) with kind := .array 8 .byte, interfaces := #[7, 4], accessFlags := 1041 }

/-- the primitive int -/
def k10 : Class := { plain "int" none with kind := .primitive 'I', accessFlags := 0x411 }
/-- [I -/
def k11 : Class := { plain "[I" (some 0) with kind := .array 10 .int, interfaces := #[7, 4], accessFlags := 1041 }

/-- [Lcom/example/loudmark/loudmark/core/AudioEncoding; -/
def k12 : Class := { plain "[Lcom/example/loudmark/loudmark/core/AudioEncoding;" (some 0) with kind := .array 6 (.object "com/example/loudmark/loudmark/core/AudioEncoding"), interfaces := #[7, 4], accessFlags := 1041 }

def heap : Heap := #[{ cls := 6, slots := #[.ref 2, .ref 3, .ref 4, .ref 5, .int 0, .ref 1, .null], vm := .statics 6 },
  { cls := 12, slots := #[.ref 2, .ref 3, .ref 4, .ref 5], vm := .none },
  { cls := 6, slots := #[.null, .int 0, .int 0, .int 1, .int 1, .null, .null, .int 0, .int (-1)], vm := .none },
  { cls := 6, slots := #[.null, .int 1, .int 0, .int 1, .int 1, .null, .null, .int 0, .int (-1)], vm := .none },
  { cls := 6, slots := #[.null, .int 2, .int 0, .int 1, .int 1, .null, .null, .int 0, .int 8], vm := .none },
  { cls := 6, slots := #[.null, .int 3, .int 0, .int 1, .int 1, .null, .null, .int 0, .int 0], vm := .none }]
def classes : Array Class := #[k0, k1, k2, k3, k4, k5, k6, k7, k8, k9, k10, k11, k12]
def interned : List (Array UInt16 × Addr) := []
def slotsUsed : Nat := 47
def theMethod : MethodId := ⟨1, 3⟩
def args0 : Array Value := #[.int 5, .int 300]
def aboutOver (below : List Frame) : State where
  vm := { classes := classes, interned := interned.toArray }
  heap := heap
  slotsUsed := slotsUsed
  threads := #[{ frames := .invoking theMethod args0 :: below }]
def below0 : List Frame := [.native { method := ⟨0, 0⟩, args := #[] }]
def about1 : State := aboutOver below0
def p0 : Program := .bare "" "" ""
def e0 : Env := launch0.env 0 0 0
theorem w_frames : about1.frames = Frame.invoking theMethod args0 :: below0 := rfl
set_option maxRecDepth 65536 in
theorem w_args : argsFit about1.vm theMethod args0 = true := by decide +kernel
set_option maxRecDepth 65536 in
theorem w_heap : heapFits about1 = true := by decide +kernel
set_option maxRecDepth 65536 in
theorem w_runnable : about1.curStatus? = some .runnable := by decide +kernel
set_option maxRecDepth 65536 in
theorem w_alone : about1.alone = true := by decide +kernel
set_option maxRecDepth 65536 in
theorem w_named : about1.methodNamed? x = some theMethod := by decide +kernel
set_option maxRecDepth 65536 in
theorem w_hears : about1.hears theMethod below0 = true := by decide +kernel
set_option maxRecDepth 65536 in
theorem w_ripe : about1.ripe theMethod args0 below0 = true := by decide +kernel
theorem w_running : about1.status = .running := rfl
set_option maxRecDepth 65536 in
theorem w_room : about1.hasRoom e0.platform room_1 = true :=
  launch0.hasRoom_least _ room_1 (by decide +kernel) (by decide +kernel) (by decide +kernel) (by decide +kernel) (by decide +kernel) (by decide +kernel)
theorem allAtoms_all (ts : List Jvm.Cond) (a : Array Jvm.Value) (st : Jvm.State) : (allAtoms ts).before a st = ts.all (fun c => c.before a st) := by
  induction ts with
  | nil => rfl
  | cons c t ih =>
    show (Jvm.Cond.and c (allAtoms t)).before a st = _
    rw [Jvm.Cond.before_and, ih, List.all_cons]
def words1 : List Jvm.Cond := Jvm.Cond.code x code maxLocals ret :: tables_1
/-- a 'code' word, met by the world's own term for the bytes: nothing is compared byte by byte -/
theorem code_word {y : MethodName} {bytes : ByteArray} {mx : Nat} {rt : Option FieldType} {a : Array Value} {s : State} {m : MethodId} {meth : Method} {c : Code} (h1 : s.methodNamed? y = some m) (h2 : s.vm.method? m = some meth) (h3 : meth.code = some c) (h4 : c.code = bytes)
    (h5 : (c.maxLocals == mx && c.exceptionTable.isEmpty && decide (c.maxStack ≤ mostOperands) && decide (meth.sig.returnType = rt) && !meth.locks && decide (parseMethodDescriptor y.desc = some meth.sig)) = true) : (Jvm.Cond.code y bytes mx rt).before a s = true := by
  simp only [Bool.and_eq_true, beq_iff_eq, Bool.not_eq_true', decide_eq_true_eq] at h5
  obtain ⟨⟨⟨⟨⟨g1, g2⟩, g3⟩, g4⟩, g5⟩, g6⟩ := h5
  simp [Cond.before, Cond.holds, Cond.value, h1, h2, h3, h4, g1, g2, g3, g4, g5, g6]
def isCode : Jvm.Cond → Bool
  | .code _ _ _ _ => true
  | _ => false
theorem all_split {L : List Jvm.Cond} {P : Jvm.Cond → Bool} (h1 : L.all (fun c => isCode c || P c) = true) (h2 : ∀ c ∈ L.filter isCode, P c = true) : L.all P = true := by
  refine List.all_eq_true.mpr fun c hc => ?_
  have h := List.all_eq_true.mp h1 c hc
  rcases Bool.eq_false_or_eq_true (isCode c) with hi | hi
  · exact h2 c (List.mem_filter.mpr ⟨hc, hi⟩)
  · simpa [hi] using h
set_option maxRecDepth 65536 in
theorem w_c0 : (Jvm.Cond.code x code maxLocals ret).before args0 about1 = true := code_word (m := ⟨1, 3⟩) (meth := k1m3) (c := k1c3) (by decide +kernel) rfl rfl rfl (by decide +kernel)
set_option maxRecDepth 65536 in
theorem w_c1 : (Jvm.Cond.code ({ cls := "com/example/loudmark/loudmark/core/AudioEncodingOfStaticPayloadTypePinLaw", name := "pick", desc := "(II)I" } : Jvm.MethodName) method_2_code (3 : Nat) (Option.some Jvm.ClassFile.FieldType.int)).before args0 about1 = true := code_word (m := ⟨1, 1⟩) (meth := k1m1) (c := k1c1) (by decide +kernel) rfl rfl rfl (by decide +kernel)
set_option maxRecDepth 65536 in
theorem w_c2 : (Jvm.Cond.code ({ cls := "com/example/loudmark/loudmark/core/AudioEncoding", name := "ofStaticPayloadType", desc := "(I)Lcom/example/loudmark/loudmark/core/AudioEncoding;" } : Jvm.MethodName) prog_16_method_7_code (5 : Nat) (Option.some (Jvm.ClassFile.FieldType.object "com/example/loudmark/loudmark/core/AudioEncoding"))).before args0 about1 = true := code_word (m := ⟨6, 0⟩) (meth := k6m0) (c := k6c0) (by decide +kernel) rfl rfl rfl (by decide +kernel)
set_option maxRecDepth 65536 in
theorem w_c3 : (Jvm.Cond.code ({ cls := "com/example/loudmark/loudmark/core/AudioEncodingOfStaticPayloadTypePinLaw", name := "expected", desc := "(I)Lcom/example/loudmark/loudmark/core/AudioEncoding;" } : Jvm.MethodName) method_3_code (1 : Nat) (Option.some (Jvm.ClassFile.FieldType.object "com/example/loudmark/loudmark/core/AudioEncoding"))).before args0 about1 = true := code_word (m := ⟨1, 2⟩) (meth := k1m2) (c := k1c2) (by decide +kernel) rfl rfl rfl (by decide +kernel)
def codes1 : List Jvm.Cond := [Jvm.Cond.code x code maxLocals ret, Jvm.Cond.code ({ cls := "com/example/loudmark/loudmark/core/AudioEncodingOfStaticPayloadTypePinLaw", name := "pick", desc := "(II)I" } : Jvm.MethodName) method_2_code (3 : Nat) (Option.some Jvm.ClassFile.FieldType.int), Jvm.Cond.code ({ cls := "com/example/loudmark/loudmark/core/AudioEncoding", name := "ofStaticPayloadType", desc := "(I)Lcom/example/loudmark/loudmark/core/AudioEncoding;" } : Jvm.MethodName) prog_16_method_7_code (5 : Nat) (Option.some (Jvm.ClassFile.FieldType.object "com/example/loudmark/loudmark/core/AudioEncoding")), Jvm.Cond.code ({ cls := "com/example/loudmark/loudmark/core/AudioEncodingOfStaticPayloadTypePinLaw", name := "expected", desc := "(I)Lcom/example/loudmark/loudmark/core/AudioEncoding;" } : Jvm.MethodName) method_3_code (1 : Nat) (Option.some (Jvm.ClassFile.FieldType.object "com/example/loudmark/loudmark/core/AudioEncoding"))]
set_option maxRecDepth 65536 in
theorem codes_eq : words1.filter isCode = codes1 := rfl
theorem w_codes : ∀ c ∈ words1.filter isCode, c.before args0 about1 = true := by
  rw [codes_eq]
  intro c hc
  simp only [codes1, List.mem_cons, List.not_mem_nil, or_false] at hc
  rcases hc with rfl | rfl | rfl | rfl
  · exact w_c0
  · exact w_c1
  · exact w_c2
  · exact w_c3
set_option maxRecDepth 65536 in
theorem w_t1 : words1.all (fun c => isCode c || c.before args0 about1) = true := by decide +kernel
theorem w_tables : (allAtoms (Jvm.Cond.code x code maxLocals ret :: tables_1)).before args0 about1 = true := by
  rw [allAtoms_all]
  show words1.all (fun c => c.before args0 about1) = true
  refine all_split ?_ w_codes
  rw [w_t1]
set_option maxRecDepth 65536 in
theorem w_case : (Jvm.Cond.and given_1 narrow_1).before args0 about1 = true := by decide +kernel
theorem w_applies : (headSpec (Jvm.Cond.code x code maxLocals ret :: tables_1) room_1).applies x e0.platform about1 = true :=
  (Spec.applies_iff w_frames).mpr ⟨w_running, w_runnable, w_alone, w_named, w_hears, w_ripe, w_room, w_tables⟩
theorem atStart : AtStart classFile x code maxLocals ret World_1 tables_1 room_1 Calls_1 rest_1 Pre_1 launch0 p0 e0 about1 theMethod args0 below0 :=
  ⟨lists_1, trivial, launch0.admits_env _ _ _, launch0.least_env, fairChoices_fair.cas, fairChoices_fair.clock, w_frames, w_args, w_heap, w_applies, trivial, trivial, w_case⟩
end start1
theorem witness_1 : WitnessClaimed_1 := ⟨start1.p0, start1.e0, start1.about1, start1.theMethod, start1.args0, start1.below0, start1.atStart⟩
end Jvm.Pilot.@@N@@
