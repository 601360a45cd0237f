import JvmDerived
import JvmDerived.Pilot.@@N@@Statement
import JvmDerived.Pilot.@@N@@Code
set_option linter.unusedVariables false
set_option linter.unusedSimpArgs false
set_option maxRecDepth 65536
set_option maxHeartbeats 20000000
namespace Jvm.Pilot.@@N@@
open Jvm Jvm.ClassFile Sem Op Lib Jvm.Free Jvm.Stand Jvm.LawKit Jvm.RoadKit Bundle Jvm.Pilot.@@N@@.Jvm.D
section OwnKit
variable {p : Program} {l : Launch} {e : Env} {R : Room} {s : State} {m : MethodId} {args : Array Value} {below : List Frame} {meth : Method} {c : Code} {T : State} {locs : List Loc} {cells slots : Nat} {Z : State} {a0 : Array Value} {h0 : Heap}
/-- from this state the run comes to the end of the invocation, and there P holds -/
def own_G (p : Program) (e : Env) (below : List Frame) (P : Outcome → State → Prop) (st : State) : Prop :=
  ∃ (u : State) (o : Outcome), Steps p.tables e below st u ∧ u.status = .running ∧ Ended u below o ∧ P o u
theorem own_via {P : Outcome → State → Prop} {st st' : State} (k : ∀ t, Steps p.tables e below st' t → Steps p.tables e below st t) (h : own_G p e below P st') : own_G p e below P st := by
  obtain ⟨u, o, h1, h2⟩ := h
  exact ⟨u, o, k _ h1, h2⟩
/-- what a contract says of the end -/
def own_P (s : State) (Q : Option Value → Heap → List Loc → Prop) (k n : Nat) : Outcome → State → Prop := fun o u => ∃ v L, o = .returned v ∧ Q v u.heap L ∧ FrameEnd s o u L k n
/-- it returns w and leaves the heap as it was -/
def own_Q (w : Value) (h0 : Heap) : Option Value → Heap → List Loc → Prop := fun v h L => v = some w ∧ L = [] ∧ h = h0
/-- a contract -/
def own_C (l : Launch) (Z : State) (y : MethodName) (bytes : ByteArray) (maxL : Nat) (ret : Option FieldType) (ws : List Jvm.Cond) (rm : Room) (as : Array Value) (h0 : Heap) (Q : Option Value → Heap → List Loc → Prop) : Prop :=
  MetFree l y (head1 (Jvm.Cond.code y bytes maxL ret :: ws) rm) (fun a U => a = as ∧ Z.Warmed39 U.vm ∧ U.heap = h0) (fun _ _ _ _ _ => True) (fun _ U o U' => ∃ v L, o = .returned v ∧ Q v U'.heap L ∧ FrameEnd U o U' L rm.cells rm.slots)
theorem own_ret {v : Option Value} {Q : Option Value → Heap → List Loc → Prop} {k n : Nat} {st : State} (X : Stand p l e R s m args below meth c T locs cells slots) (hv : meth.sig.returnType = none → v = none) (hlocks : meth.locks = false)
    (hst : ∀ fs, (∀ (f : JFrame) (acts : List Action), f.method = m → f.locked = none → f.entered = [] → (doReturn e (T.setTop f) acts v).1 = T.setFrames fs) → Steps p.tables e below st (T.setFrames fs))
    (hQ : Q v T.heap locs) (hk : cells ≤ k) (hn : slots ≤ n) : own_G p e below (own_P s Q k n) st := by
  obtain ⟨fs, hr, hrun, hended, hW, hsame⟩ := X.leave (v := v) hv hlocks
  exact ⟨_, _, hst fs hr, hrun, hended, _, _, rfl, hQ, ⟨_, rfl⟩, hW, hsame.mono hk hn⟩
theorem own_retI {Q : Option Value → Heap → List Loc → Prop} {k n : Nat} (X : Stand p l e R s m args below meth c T locs cells slots) (hx : p.tables.exec = Jvm.exec) {pc : Nat} {Ls : Array Slot} {z : Int32} {rest : List Value} (hret : meth.sig.returnType = some .int) (hlocks : meth.locks = false) (hd : decode c.code pc = .ok (.ireturn, 1))
    (hQ : Q (some (.int z)) T.heap locs) (hk : cells ≤ k) (hn : slots ≤ n) : own_G p e below (own_P s Q k n) (T.setTop (mkF m pc Ls (.int z :: rest))) := by
  refine own_ret X (fun h => by rw [hret] at h; cases h) hlocks (fun fs hr => ?_) hQ hk hn
  have hm' : T.vm.method? m = some meth := X.method'
  have hn : narrow .int (.int z) = .int z := rfl
  show Steps p.tables e below (T.setTop { method := m, pc := pc, locals := Ls, stack := _ :: rest, locked := none }) _
  jvm_step X.here [X.here.top, hx, hd, hm', hret, hn]
  first | (intro acts; rw [hr _ acts rfl rfl rfl]) | rw [hr _ _ rfl rfl rfl]
  exact Steps.refl _
theorem own_retN {Q : Option Value → Heap → List Loc → Prop} {k n : Nat} {t : FieldType} (X : Stand p l e R s m args below meth c T locs cells slots) (hx : p.tables.exec = Jvm.exec) {pc : Nat} {Ls : Array Slot} {z : Int32} {rest : List Value} (hret : meth.sig.returnType = some t) (ht : t = .boolean ∨ t = .byte ∨ t = .char ∨ t = .short) (hlocks : meth.locks = false) (hd : decode c.code pc = .ok (.ireturn, 1))
    (hQ : Q (some (.int (nar t z))) T.heap locs) (hk : cells ≤ k) (hn : slots ≤ n) : own_G p e below (own_P s Q k n) (T.setTop (mkF m pc Ls (.int z :: rest))) :=
  own_ret X (fun h => by rw [hret] at h; cases h) hlocks (fun fs hr => retN X hx hret ht hd hr) hQ hk hn
theorem own_retL {Q : Option Value → Heap → List Loc → Prop} {k n : Nat} (X : Stand p l e R s m args below meth c T locs cells slots) (hx : p.tables.exec = Jvm.exec) {pc : Nat} {Ls : Array Slot} {z : Int64} (hret : meth.sig.returnType = some .long) (hlocks : meth.locks = false) (hd : decode c.code pc = .ok (.lreturn, 1))
    (hQ : Q (some (.long z)) T.heap locs) (hk : cells ≤ k) (hn : slots ≤ n) : own_G p e below (own_P s Q k n) (T.setTop (mkF m pc Ls [.long z])) :=
  own_ret X (fun h => by rw [hret] at h; cases h) hlocks (fun fs hr => X.lreturnOut hx hret hd hr) hQ hk hn
theorem own_retV {Q : Option Value → Heap → List Loc → Prop} {k n : Nat} (X : Stand p l e R s m args below meth c T locs cells slots) (hx : p.tables.exec = Jvm.exec) {pc : Nat} {Ls : Array Slot} (hret : meth.sig.returnType = none) (hlocks : meth.locks = false) (hd : decode c.code pc = .ok (.return_, 1))
    (hQ : Q none T.heap locs) (hk : cells ≤ k) (hn : slots ≤ n) : own_G p e below (own_P s Q k n) (T.setTop (mkF m pc Ls [])) :=
  own_ret X (fun _ => rfl) hlocks (fun fs hr => X.returnOut hx hret hd hr) hQ hk hn
theorem own_retA {Q : Option Value → Heap → List Loc → Prop} {k n : Nat} {t : FieldType} {v : Value} (X : Stand p l e R s m args below meth c T locs cells slots) (hx : p.tables.exec = Jvm.exec) {pc : Nat} {Ls : Array Slot} {rest : List Value} (hret : meth.sig.returnType = some t) (ht : t.isReference = true) (hv : v.isRef = true) (hlocks : meth.locks = false) (hd : decode c.code pc = .ok (.areturn, 1))
    (hQ : Q (some v) T.heap locs) (hk : cells ≤ k) (hn : slots ≤ n) : own_G p e below (own_P s Q k n) (T.setTop (mkF m pc Ls (v :: rest))) := by
  refine own_ret X (fun h => by rw [hret] at h; cases h) hlocks (fun fs hr => ?_) hQ hk hn
  have hm' : T.vm.method? m = some meth := X.method'
  show Steps p.tables e below (T.setTop { method := m, pc := pc, locals := Ls, stack := _ :: rest, locked := none }) _
  jvm_step X.here [X.here.top, hx, hd, hm', hret, ht, hv]
  first | (intro acts; rw [hr _ acts rfl rfl rfl]) | rw [hr _ _ rfl rfl rfl]
  exact Steps.refl _
/-- a static method by its contract -/
theorem own_callS {own : String} {index : Nat} {y : MethodName} {bytes : ByteArray} {maxL W : Nat} {ret : Option FieldType} {rm : Room} {as : Array Value} {Q : Option Value → Heap → List Loc → Prop}
    (X : Stand p l e R s m args below meth c T locs cells slots) (hx : p.tables.exec = Jvm.exec) (hZ : Z.Warmed39 s.vm) (hown : s.vm.findClass own = some m.cls)
    (w1 : (Jvm.Cond.methodLink own index y).before a0 Z = true) (w2 : (Jvm.Cond.static y).before a0 Z = true) (w3 : (Jvm.Cond.initialized y.cls).before a0 Z = true) (w4 : (Jvm.Cond.code y bytes maxL ret).before a0 Z = true)
    (hy : y.cls ≠ "java/lang/invoke/MethodHandle" ∧ y.cls ≠ "java/lang/invoke/VarHandle") (hM : own_C l Z y bytes maxL ret [] rm as h0 Q)
    (hf : rm.frames + 1 ≤ R.frames) (hl : W + (maxL + 11) + rm.locals ≤ R.locals) (hcc : cells + rm.cells ≤ R.cells) (hss : slots + rm.slots ≤ R.slots) (e0 : T.heap = h0)
    {pc : Nat} {Ls : Array Slot} {st argsL rest : List Value} (hsize : Ls.size = c.maxLocals) (hlen : ∀ sig, parseMethodDescriptor y.desc = some sig → argsL.length = sig.parameters.length) (has : argsL.toArray = as)
    (hst : st = argsL.reverse ++ rest) (hW : 2 * 0 + (rest.map fun v => v.category).sum ≤ W) (hd : decode c.code pc = .ok (.invokestatic index, 3)) :
    ∃ (v : Option Value) (T' : State) (L : List Loc), Stand p l e R s m args below meth c T' (locs ++ L) (cells + rm.cells) (slots + rm.slots) ∧ Q v T'.heap L ∧
      ∀ target, Steps p.tables e below (T'.setTop (mkF m (pc + 3) Ls (v.toList ++ rest))) target → Steps p.tables e below (T.setTop (mkF m pc Ls st)) target := by
  obtain ⟨v, _, ⟨T', L', k', n'⟩, -, X', ⟨Lc, hQ, h1, h2, h3⟩, stp⟩ := Jvm.LawKit.callS X hx (y := y) hown (mvT hZ w1) (mvT hZ w2) (mvT hZ w3) (mvT hZ w4) hy
    (backOf (W := W) hM hZ w4 w3 hf hl) (g := mkF m pc Ls st) rfl hsize (argsL := argsL) (rest := rest) hlen hst hW hd (fun _ _ => ⟨has, e0, hcc, hss⟩)
  dsimp only [Pt.U, Pt.locs, Pt.cells, Pt.slots] at X' h1 h2 h3 stp hQ
  subst h1 h2 h3
  exact ⟨v, T', Lc, X', hQ, stp⟩
/-- a static method that leaves the heap as it was -/
theorem own_callP {own : String} {index : Nat} {y : MethodName} {bytes : ByteArray} {maxL W : Nat} {ret : Option FieldType} {rm : Room} {as : Array Value} {w : Value}
    (X : Stand p l e R s m args below meth c T locs cells slots) (hx : p.tables.exec = Jvm.exec) (hZ : Z.Warmed39 s.vm) (hown : s.vm.findClass own = some m.cls)
    (w1 : (Jvm.Cond.methodLink own index y).before a0 Z = true) (w2 : (Jvm.Cond.static y).before a0 Z = true) (w3 : (Jvm.Cond.initialized y.cls).before a0 Z = true) (w4 : (Jvm.Cond.code y bytes maxL ret).before a0 Z = true)
    (hy : y.cls ≠ "java/lang/invoke/MethodHandle" ∧ y.cls ≠ "java/lang/invoke/VarHandle") (hM : own_C l Z y bytes maxL ret [] rm as h0 (own_Q w h0))
    (hf : rm.frames + 1 ≤ R.frames) (hl : W + (maxL + 11) + rm.locals ≤ R.locals) (hrc : rm.cells = 0) (hrs : rm.slots = 0) (hcc : cells + rm.cells ≤ R.cells) (hss : slots + rm.slots ≤ R.slots) (e0 : T.heap = h0)
    {pc : Nat} {Ls : Array Slot} {st argsL rest : List Value} (hsize : Ls.size = c.maxLocals) (hlen : ∀ sig, parseMethodDescriptor y.desc = some sig → argsL.length = sig.parameters.length) (has : argsL.toArray = as)
    (hst : st = argsL.reverse ++ rest) (hW : 2 * 0 + (rest.map fun v => v.category).sum ≤ W) (hd : decode c.code pc = .ok (.invokestatic index, 3)) :
    ∃ (T' : State), Stand p l e R s m args below meth c T' locs cells slots ∧ T'.heap = h0 ∧
      ∀ target, Steps p.tables e below (T'.setTop (mkF m (pc + 3) Ls (w :: rest))) target → Steps p.tables e below (T.setTop (mkF m pc Ls st)) target := by
  obtain ⟨v, T', L, X', ⟨rfl, rfl, hh⟩, stp⟩ := own_callS X hx hZ hown w1 w2 w3 w4 hy hM hf hl hcc hss e0 hsize hlen has hst hW hd
  rw [List.append_nil, hrc, hrs] at X'
  exact ⟨T', X', hh, stp⟩
theorem own_b1 {x a : Int32} (h : x < a) : x.toInt ≤ a.toInt - 1 := by rw [Int32.lt_iff_toInt_lt] at h; omega
theorem own_b2 {x a : Int32} (h : ¬ x < a) : a.toInt ≤ x.toInt := by rw [Int32.lt_iff_toInt_lt] at h; omega
theorem own_b3 {x a : Int32} (h : a < x) : a.toInt + 1 ≤ x.toInt := by rw [Int32.lt_iff_toInt_lt] at h; omega
theorem own_b4 {x a : Int32} (h : ¬ a < x) : x.toInt ≤ a.toInt := by rw [Int32.lt_iff_toInt_lt] at h; omega
theorem own_b5 {x b : Int32} {k : Int} (h : x.toInt ≤ k) (q : k < b.toInt) : x < b := by rw [Int32.lt_iff_toInt_lt]; omega
theorem own_b6 {x b : Int32} {k : Int} (h : k ≤ x.toInt) (q : b.toInt ≤ k) : ¬ x < b := by rw [Int32.lt_iff_toInt_lt]; omega
theorem own_b7 {x b : Int32} {k : Int} (h : k ≤ x.toInt) (q : b.toInt < k) : b < x := by rw [Int32.lt_iff_toInt_lt]; omega
theorem own_b8 {x b : Int32} {k : Int} (h : x.toInt ≤ k) (q : k ≤ b.toInt) : ¬ b < x := by rw [Int32.lt_iff_toInt_lt]; omega
theorem own_b9 {x b : Int32} {k : Int} (h : x.toInt ≤ k) (q : k < b.toInt) : ¬ x = b := fun e => by subst e; omega
theorem own_b10 {x b : Int32} {k : Int} (h : k ≤ x.toInt) (q : b.toInt < k) : ¬ x = b := fun e => by subst e; omega
theorem own_of_eq {x a : Int32} {P : Int32 → Prop} (h : x = a) (q : P a) : P x := h ▸ q
end OwnKit
theorem own_pd0 : parseMethodDescriptor "(I)I" = some ⟨[.int], some .int⟩ := by decide +kernel
theorem own_pd1 : parseMethodDescriptor "(IIII)I" = some ⟨[.int, .int, .int, .int], some .int⟩ := by decide +kernel
theorem own_d1_0 : decode prog_5_method_5_code 0 = .ok (.iload_n 0, 1) := by decide +kernel
theorem own_d1_1 : decode prog_5_method_5_code 1 = .ok (.iconst 4, 1) := by decide +kernel
theorem own_d1_2 : decode prog_5_method_5_code 2 = .ok (.if_icmp .lt 7, 3) := by decide +kernel
theorem own_d1_5 : decode prog_5_method_5_code 5 = .ok (.iconst (-1), 1) := by decide +kernel
theorem own_d1_6 : decode prog_5_method_5_code 6 = .ok (.goto 11, 3) := by decide +kernel
theorem own_d1_9 : decode prog_5_method_5_code 9 = .ok (.iconst 1, 1) := by decide +kernel
theorem own_d1_10 : decode prog_5_method_5_code 10 = .ok (.bipush 8, 2) := by decide +kernel
theorem own_d1_12 : decode prog_5_method_5_code 12 = .ok (.iload_n 0, 1) := by decide +kernel
theorem own_d1_13 : decode prog_5_method_5_code 13 = .ok (.imul, 1) := by decide +kernel
theorem own_d1_14 : decode prog_5_method_5_code 14 = .ok (.ishl, 1) := by decide +kernel
theorem own_d1_15 : decode prog_5_method_5_code 15 = .ok (.iconst 1, 1) := by decide +kernel
theorem own_d1_16 : decode prog_5_method_5_code 16 = .ok (.isub, 1) := by decide +kernel
theorem own_d1_17 : decode prog_5_method_5_code 17 = .ok (.ireturn, 1) := by decide +kernel
abbrev own_R1 : Room := { frames := 0, cells := 0, slots := 0, locals := 0 }
theorem own_pn1 : plainFor (⟨"com/example/skipstitch/skipstitch/GramTable", "maskOf", "(I)I"⟩ : MethodName) = true := plainFor_of_name (by first | (simp [plainName, overriddenIn]; done) | decide +kernel)
theorem own_ef1 (m : MethodId) (p0 : Int32) : entryFrame m #[(.int p0)] 1 = mkF m 0 #[.val (.int p0)] [] := by first | (simp [entryFrame, mkF, argsToLocals, Value.category]; done) | rfl
def own_F1 (p0 : Int32) : Int32 := (if p0 < (4 : Int32) then (((1 : Int32) <<< (((8 : Int32) * p0) &&& 31)) - (1 : Int32)) else (-1 : Int32))
set_option maxRecDepth 65536 in
set_option maxHeartbeats 40000000 in
theorem own_rm1 (l : Launch) (Z : State) (a0 : Array Value) (hw : ∀ d ∈ tables_1, d.before a0 Z = true) (ws : List Jvm.Cond) (p0 : Int32) (h0 : Heap) :
    own_C l Z (⟨"com/example/skipstitch/skipstitch/GramTable", "maskOf", "(I)I"⟩ : MethodName) prog_5_method_5_code 1 (some .int) ws own_R1 #[(.int p0)] h0 (own_Q (.int (own_F1 p0)) h0) := by
  refine MetFree.of_bodySF own_pn1 hisR ?_
  intro p e s m args below meth c s₁ Bd hml0 hP hK
  obtain ⟨rfl, hZ, hh⟩ := hP
  have hx := Bd.exec
  have hby := Bd.bytes
  have hml : c.maxLocals = 1 := hml0
  have hown : s.vm.findClass "com/example/skipstitch/skipstitch/GramTable" = some m.cls := findClass_of_methodNamed Bd.named
  have X0 : Stand p l e own_R1 s m #[(.int p0)] below meth c s₁ [] 0 0 := Stand.of_body Bd
  have e0 : s₁.heap = h0 := by rw [← hh, Bd.state]; rfl
  show own_G p e below (own_P s (own_Q (.int (own_F1 p0)) h0) own_R1.cells own_R1.slots) (s₁.setTop (entryFrame m #[(.int p0)] 1))
  rw [own_ef1 m p0]
  show own_G p e below _ (s₁.setTop (mkF m 0 #[.val (.int p0)] []))
  refine own_via (fun t k => XS.iloadN X0.here hx rfl (hb hby own_d1_0) rfl k) ?_
  show own_G p e below _ (s₁.setTop (mkF m 1 #[.val (.int p0)] [(.int p0)]))
  refine own_via (fun t k => XS.iconst X0.here hx rfl (hb hby own_d1_1) k) ?_
  show own_G p e below _ (s₁.setTop (mkF m 2 #[.val (.int p0)] [(.int (4 : Int32)), (.int p0)]))
  by_cases hc1 : p0 < (4 : Int32)
  ·
    refine own_via (fun t k => XS.icmpYes X0.here hx rfl (pc0 := 2) (pc' := 9) rfl (hb hby own_d1_2) rfl (tlt hc1).1 (by decide) (by decide) k) ?_
    show own_G p e below _ (s₁.setTop (mkF m 9 #[.val (.int p0)] []))
    refine own_via (fun t k => XS.iconst X0.here hx rfl (hb hby own_d1_9) k) ?_
    show own_G p e below _ (s₁.setTop (mkF m 10 #[.val (.int p0)] [(.int (1 : Int32))]))
    refine own_via (fun t k => XS.bipush X0.here hx rfl (hb hby own_d1_10) k) ?_
    show own_G p e below _ (s₁.setTop (mkF m 12 #[.val (.int p0)] [(.int (8 : Int32)), (.int (1 : Int32))]))
    refine own_via (fun t k => XS.iloadN X0.here hx rfl (hb hby own_d1_12) rfl k) ?_
    show own_G p e below _ (s₁.setTop (mkF m 13 #[.val (.int p0)] [(.int p0), (.int (8 : Int32)), (.int (1 : Int32))]))
    refine own_via (fun t k => XS.imul X0.here hx rfl (hb hby own_d1_13) rfl k) ?_
    show own_G p e below _ (s₁.setTop (mkF m 14 #[.val (.int p0)] [(.int ((8 : Int32) * p0)), (.int (1 : Int32))]))
    refine own_via (fun t k => XS.ishl X0.here hx rfl (hb hby own_d1_14) rfl k) ?_
    show own_G p e below _ (s₁.setTop (mkF m 15 #[.val (.int p0)] [(.int ((1 : Int32) <<< (((8 : Int32) * p0) &&& 31)))]))
    refine own_via (fun t k => XS.iconst X0.here hx rfl (hb hby own_d1_15) k) ?_
    show own_G p e below _ (s₁.setTop (mkF m 16 #[.val (.int p0)] [(.int (1 : Int32)), (.int ((1 : Int32) <<< (((8 : Int32) * p0) &&& 31)))]))
    refine own_via (fun t k => XS.isub X0.here hx rfl (hb hby own_d1_16) rfl k) ?_
    show own_G p e below _ (s₁.setTop (mkF m 17 #[.val (.int p0)] [(.int (((1 : Int32) <<< (((8 : Int32) * p0) &&& 31)) - (1 : Int32)))]))
    exact own_retI X0 hx Bd.returns Bd.notSynchronized (hb hby own_d1_17) ⟨by show (some (.int (((1 : Int32) <<< (((8 : Int32) * p0) &&& 31)) - (1 : Int32))) : Option Value) = some (.int (own_F1 p0)); simp only [own_F1, if_pos hc1], rfl, e0⟩ (by decide) (by decide)
  ·
    refine own_via (fun t k => XS.icmpNo X0.here hx rfl (hb hby own_d1_2) rfl (flt hc1).1 k) ?_
    show own_G p e below _ (s₁.setTop (mkF m 5 #[.val (.int p0)] []))
    refine own_via (fun t k => XS.iconst X0.here hx rfl (hb hby own_d1_5) k) ?_
    show own_G p e below _ (s₁.setTop (mkF m 6 #[.val (.int p0)] [(.int (-1 : Int32))]))
    refine own_via (fun t k => XS.goto X0.here hx rfl (pc0 := 6) (pc' := 17) rfl (hb hby own_d1_6) (by decide) (by decide) k) ?_
    show own_G p e below _ (s₁.setTop (mkF m 17 #[.val (.int p0)] [(.int (-1 : Int32))]))
    exact own_retI X0 hx Bd.returns Bd.notSynchronized (hb hby own_d1_17) ⟨by show (some (.int (-1 : Int32)) : Option Value) = some (.int (own_F1 p0)); simp only [own_F1, if_neg hc1], rfl, e0⟩ (by decide) (by decide)
theorem own_d2_0 : decode prog_5_method_3_code 0 = .ok (.iload_n 0, 1) := by decide +kernel
theorem own_d2_1 : decode prog_5_method_3_code 1 = .ok (.sipush 255, 3) := by decide +kernel
theorem own_d2_4 : decode prog_5_method_3_code 4 = .ok (.iand, 1) := by decide +kernel
theorem own_d2_5 : decode prog_5_method_3_code 5 = .ok (.iload_n 1, 1) := by decide +kernel
theorem own_d2_6 : decode prog_5_method_3_code 6 = .ok (.sipush 255, 3) := by decide +kernel
theorem own_d2_9 : decode prog_5_method_3_code 9 = .ok (.iand, 1) := by decide +kernel
theorem own_d2_10 : decode prog_5_method_3_code 10 = .ok (.bipush 8, 2) := by decide +kernel
theorem own_d2_12 : decode prog_5_method_3_code 12 = .ok (.ishl, 1) := by decide +kernel
theorem own_d2_13 : decode prog_5_method_3_code 13 = .ok (.ior, 1) := by decide +kernel
theorem own_d2_14 : decode prog_5_method_3_code 14 = .ok (.iload_n 2, 1) := by decide +kernel
theorem own_d2_15 : decode prog_5_method_3_code 15 = .ok (.sipush 255, 3) := by decide +kernel
theorem own_d2_18 : decode prog_5_method_3_code 18 = .ok (.iand, 1) := by decide +kernel
theorem own_d2_19 : decode prog_5_method_3_code 19 = .ok (.bipush 16, 2) := by decide +kernel
theorem own_d2_21 : decode prog_5_method_3_code 21 = .ok (.ishl, 1) := by decide +kernel
theorem own_d2_22 : decode prog_5_method_3_code 22 = .ok (.ior, 1) := by decide +kernel
theorem own_d2_23 : decode prog_5_method_3_code 23 = .ok (.iload_n 3, 1) := by decide +kernel
theorem own_d2_24 : decode prog_5_method_3_code 24 = .ok (.sipush 255, 3) := by decide +kernel
theorem own_d2_27 : decode prog_5_method_3_code 27 = .ok (.iand, 1) := by decide +kernel
theorem own_d2_28 : decode prog_5_method_3_code 28 = .ok (.bipush 24, 2) := by decide +kernel
theorem own_d2_30 : decode prog_5_method_3_code 30 = .ok (.ishl, 1) := by decide +kernel
theorem own_d2_31 : decode prog_5_method_3_code 31 = .ok (.ior, 1) := by decide +kernel
theorem own_d2_32 : decode prog_5_method_3_code 32 = .ok (.ireturn, 1) := by decide +kernel
abbrev own_R2 : Room := { frames := 0, cells := 0, slots := 0, locals := 0 }
theorem own_pn2 : plainFor (⟨"com/example/skipstitch/skipstitch/GramTable", "key", "(IIII)I"⟩ : MethodName) = true := plainFor_of_name (by first | (simp [plainName, overriddenIn]; done) | decide +kernel)
theorem own_ef2 (m : MethodId) (p0 : Int32) (p1 : Int32) (p2 : Int32) (p3 : Int32) : entryFrame m #[(.int p0), (.int p1), (.int p2), (.int p3)] 4 = mkF m 0 #[.val (.int p0), .val (.int p1), .val (.int p2), .val (.int p3)] [] := by first | (simp [entryFrame, mkF, argsToLocals, Value.category]; done) | rfl
def own_F2 (p0 : Int32) (p1 : Int32) (p2 : Int32) (p3 : Int32) : Int32 := ((((p0 &&& (255 : Int32)) ||| ((p1 &&& (255 : Int32)) <<< ((8 : Int32) &&& 31))) ||| ((p2 &&& (255 : Int32)) <<< ((16 : Int32) &&& 31))) ||| ((p3 &&& (255 : Int32)) <<< ((24 : Int32) &&& 31)))
set_option maxRecDepth 65536 in
set_option maxHeartbeats 40000000 in
theorem own_rm2 (l : Launch) (Z : State) (a0 : Array Value) (hw : ∀ d ∈ tables_1, d.before a0 Z = true) (ws : List Jvm.Cond) (p0 : Int32) (p1 : Int32) (p2 : Int32) (p3 : Int32) (h0 : Heap) :
    own_C l Z (⟨"com/example/skipstitch/skipstitch/GramTable", "key", "(IIII)I"⟩ : MethodName) prog_5_method_3_code 4 (some .int) ws own_R2 #[(.int p0), (.int p1), (.int p2), (.int p3)] h0 (own_Q (.int (own_F2 p0 p1 p2 p3)) h0) := by
  refine MetFree.of_bodySF own_pn2 hisR ?_
  intro p e s m args below meth c s₁ Bd hml0 hP hK
  obtain ⟨rfl, hZ, hh⟩ := hP
  have hx := Bd.exec
  have hby := Bd.bytes
  have hml : c.maxLocals = 4 := hml0
  have hown : s.vm.findClass "com/example/skipstitch/skipstitch/GramTable" = some m.cls := findClass_of_methodNamed Bd.named
  have X0 : Stand p l e own_R2 s m #[(.int p0), (.int p1), (.int p2), (.int p3)] below meth c s₁ [] 0 0 := Stand.of_body Bd
  have e0 : s₁.heap = h0 := by rw [← hh, Bd.state]; rfl
  show own_G p e below (own_P s (own_Q (.int (own_F2 p0 p1 p2 p3)) h0) own_R2.cells own_R2.slots) (s₁.setTop (entryFrame m #[(.int p0), (.int p1), (.int p2), (.int p3)] 4))
  rw [own_ef2 m p0 p1 p2 p3]
  show own_G p e below _ (s₁.setTop (mkF m 0 #[.val (.int p0), .val (.int p1), .val (.int p2), .val (.int p3)] []))
  refine own_via (fun t k => XS.iloadN X0.here hx rfl (hb hby own_d2_0) rfl k) ?_
  show own_G p e below _ (s₁.setTop (mkF m 1 #[.val (.int p0), .val (.int p1), .val (.int p2), .val (.int p3)] [(.int p0)]))
  refine own_via (fun t k => XS.sipush X0.here hx rfl (hb hby own_d2_1) k) ?_
  show own_G p e below _ (s₁.setTop (mkF m 4 #[.val (.int p0), .val (.int p1), .val (.int p2), .val (.int p3)] [(.int (255 : Int32)), (.int p0)]))
  refine own_via (fun t k => XS.iand X0.here hx rfl (hb hby own_d2_4) rfl k) ?_
  show own_G p e below _ (s₁.setTop (mkF m 5 #[.val (.int p0), .val (.int p1), .val (.int p2), .val (.int p3)] [(.int (p0 &&& (255 : Int32)))]))
  refine own_via (fun t k => XS.iloadN X0.here hx rfl (hb hby own_d2_5) rfl k) ?_
  show own_G p e below _ (s₁.setTop (mkF m 6 #[.val (.int p0), .val (.int p1), .val (.int p2), .val (.int p3)] [(.int p1), (.int (p0 &&& (255 : Int32)))]))
  refine own_via (fun t k => XS.sipush X0.here hx rfl (hb hby own_d2_6) k) ?_
  show own_G p e below _ (s₁.setTop (mkF m 9 #[.val (.int p0), .val (.int p1), .val (.int p2), .val (.int p3)] [(.int (255 : Int32)), (.int p1), (.int (p0 &&& (255 : Int32)))]))
  refine own_via (fun t k => XS.iand X0.here hx rfl (hb hby own_d2_9) rfl k) ?_
  show own_G p e below _ (s₁.setTop (mkF m 10 #[.val (.int p0), .val (.int p1), .val (.int p2), .val (.int p3)] [(.int (p1 &&& (255 : Int32))), (.int (p0 &&& (255 : Int32)))]))
  refine own_via (fun t k => XS.bipush X0.here hx rfl (hb hby own_d2_10) k) ?_
  show own_G p e below _ (s₁.setTop (mkF m 12 #[.val (.int p0), .val (.int p1), .val (.int p2), .val (.int p3)] [(.int (8 : Int32)), (.int (p1 &&& (255 : Int32))), (.int (p0 &&& (255 : Int32)))]))
  refine own_via (fun t k => XS.ishl X0.here hx rfl (hb hby own_d2_12) rfl k) ?_
  show own_G p e below _ (s₁.setTop (mkF m 13 #[.val (.int p0), .val (.int p1), .val (.int p2), .val (.int p3)] [(.int ((p1 &&& (255 : Int32)) <<< ((8 : Int32) &&& 31))), (.int (p0 &&& (255 : Int32)))]))
  refine own_via (fun t k => XS.ior X0.here hx rfl (hb hby own_d2_13) rfl k) ?_
  show own_G p e below _ (s₁.setTop (mkF m 14 #[.val (.int p0), .val (.int p1), .val (.int p2), .val (.int p3)] [(.int ((p0 &&& (255 : Int32)) ||| ((p1 &&& (255 : Int32)) <<< ((8 : Int32) &&& 31))))]))
  refine own_via (fun t k => XS.iloadN X0.here hx rfl (hb hby own_d2_14) rfl k) ?_
  show own_G p e below _ (s₁.setTop (mkF m 15 #[.val (.int p0), .val (.int p1), .val (.int p2), .val (.int p3)] [(.int p2), (.int ((p0 &&& (255 : Int32)) ||| ((p1 &&& (255 : Int32)) <<< ((8 : Int32) &&& 31))))]))
  refine own_via (fun t k => XS.sipush X0.here hx rfl (hb hby own_d2_15) k) ?_
  show own_G p e below _ (s₁.setTop (mkF m 18 #[.val (.int p0), .val (.int p1), .val (.int p2), .val (.int p3)] [(.int (255 : Int32)), (.int p2), (.int ((p0 &&& (255 : Int32)) ||| ((p1 &&& (255 : Int32)) <<< ((8 : Int32) &&& 31))))]))
  refine own_via (fun t k => XS.iand X0.here hx rfl (hb hby own_d2_18) rfl k) ?_
  show own_G p e below _ (s₁.setTop (mkF m 19 #[.val (.int p0), .val (.int p1), .val (.int p2), .val (.int p3)] [(.int (p2 &&& (255 : Int32))), (.int ((p0 &&& (255 : Int32)) ||| ((p1 &&& (255 : Int32)) <<< ((8 : Int32) &&& 31))))]))
  refine own_via (fun t k => XS.bipush X0.here hx rfl (hb hby own_d2_19) k) ?_
  show own_G p e below _ (s₁.setTop (mkF m 21 #[.val (.int p0), .val (.int p1), .val (.int p2), .val (.int p3)] [(.int (16 : Int32)), (.int (p2 &&& (255 : Int32))), (.int ((p0 &&& (255 : Int32)) ||| ((p1 &&& (255 : Int32)) <<< ((8 : Int32) &&& 31))))]))
  refine own_via (fun t k => XS.ishl X0.here hx rfl (hb hby own_d2_21) rfl k) ?_
  show own_G p e below _ (s₁.setTop (mkF m 22 #[.val (.int p0), .val (.int p1), .val (.int p2), .val (.int p3)] [(.int ((p2 &&& (255 : Int32)) <<< ((16 : Int32) &&& 31))), (.int ((p0 &&& (255 : Int32)) ||| ((p1 &&& (255 : Int32)) <<< ((8 : Int32) &&& 31))))]))
  refine own_via (fun t k => XS.ior X0.here hx rfl (hb hby own_d2_22) rfl k) ?_
  show own_G p e below _ (s₁.setTop (mkF m 23 #[.val (.int p0), .val (.int p1), .val (.int p2), .val (.int p3)] [(.int (((p0 &&& (255 : Int32)) ||| ((p1 &&& (255 : Int32)) <<< ((8 : Int32) &&& 31))) ||| ((p2 &&& (255 : Int32)) <<< ((16 : Int32) &&& 31))))]))
  refine own_via (fun t k => XS.iloadN X0.here hx rfl (hb hby own_d2_23) rfl k) ?_
  show own_G p e below _ (s₁.setTop (mkF m 24 #[.val (.int p0), .val (.int p1), .val (.int p2), .val (.int p3)] [(.int p3), (.int (((p0 &&& (255 : Int32)) ||| ((p1 &&& (255 : Int32)) <<< ((8 : Int32) &&& 31))) ||| ((p2 &&& (255 : Int32)) <<< ((16 : Int32) &&& 31))))]))
  refine own_via (fun t k => XS.sipush X0.here hx rfl (hb hby own_d2_24) k) ?_
  show own_G p e below _ (s₁.setTop (mkF m 27 #[.val (.int p0), .val (.int p1), .val (.int p2), .val (.int p3)] [(.int (255 : Int32)), (.int p3), (.int (((p0 &&& (255 : Int32)) ||| ((p1 &&& (255 : Int32)) <<< ((8 : Int32) &&& 31))) ||| ((p2 &&& (255 : Int32)) <<< ((16 : Int32) &&& 31))))]))
  refine own_via (fun t k => XS.iand X0.here hx rfl (hb hby own_d2_27) rfl k) ?_
  show own_G p e below _ (s₁.setTop (mkF m 28 #[.val (.int p0), .val (.int p1), .val (.int p2), .val (.int p3)] [(.int (p3 &&& (255 : Int32))), (.int (((p0 &&& (255 : Int32)) ||| ((p1 &&& (255 : Int32)) <<< ((8 : Int32) &&& 31))) ||| ((p2 &&& (255 : Int32)) <<< ((16 : Int32) &&& 31))))]))
  refine own_via (fun t k => XS.bipush X0.here hx rfl (hb hby own_d2_28) k) ?_
  show own_G p e below _ (s₁.setTop (mkF m 30 #[.val (.int p0), .val (.int p1), .val (.int p2), .val (.int p3)] [(.int (24 : Int32)), (.int (p3 &&& (255 : Int32))), (.int (((p0 &&& (255 : Int32)) ||| ((p1 &&& (255 : Int32)) <<< ((8 : Int32) &&& 31))) ||| ((p2 &&& (255 : Int32)) <<< ((16 : Int32) &&& 31))))]))
  refine own_via (fun t k => XS.ishl X0.here hx rfl (hb hby own_d2_30) rfl k) ?_
  show own_G p e below _ (s₁.setTop (mkF m 31 #[.val (.int p0), .val (.int p1), .val (.int p2), .val (.int p3)] [(.int ((p3 &&& (255 : Int32)) <<< ((24 : Int32) &&& 31))), (.int (((p0 &&& (255 : Int32)) ||| ((p1 &&& (255 : Int32)) <<< ((8 : Int32) &&& 31))) ||| ((p2 &&& (255 : Int32)) <<< ((16 : Int32) &&& 31))))]))
  refine own_via (fun t k => XS.ior X0.here hx rfl (hb hby own_d2_31) rfl k) ?_
  show own_G p e below _ (s₁.setTop (mkF m 32 #[.val (.int p0), .val (.int p1), .val (.int p2), .val (.int p3)] [(.int ((((p0 &&& (255 : Int32)) ||| ((p1 &&& (255 : Int32)) <<< ((8 : Int32) &&& 31))) ||| ((p2 &&& (255 : Int32)) <<< ((16 : Int32) &&& 31))) ||| ((p3 &&& (255 : Int32)) <<< ((24 : Int32) &&& 31))))]))
  exact own_retI X0 hx Bd.returns Bd.notSynchronized (hb hby own_d2_32) ⟨by show (some (.int ((((p0 &&& (255 : Int32)) ||| ((p1 &&& (255 : Int32)) <<< ((8 : Int32) &&& 31))) ||| ((p2 &&& (255 : Int32)) <<< ((16 : Int32) &&& 31))) ||| ((p3 &&& (255 : Int32)) <<< ((24 : Int32) &&& 31)))) : Option Value) = some (.int (own_F2 p0 p1 p2 p3)); simp only [own_F2], rfl, e0⟩ (by decide) (by decide)
theorem own_d3_0 : decode method_2_code 0 = .ok (.iload_n 0, 1) := by decide +kernel
theorem own_d3_1 : decode method_2_code 1 = .ok (.ifCond .ne 5, 3) := by decide +kernel
theorem own_d3_4 : decode method_2_code 4 = .ok (.iconst 0, 1) := by decide +kernel
theorem own_d3_5 : decode method_2_code 5 = .ok (.ireturn, 1) := by decide +kernel
theorem own_d3_6 : decode method_2_code 6 = .ok (.iload_n 0, 1) := by decide +kernel
theorem own_d3_7 : decode method_2_code 7 = .ok (.iconst 1, 1) := by decide +kernel
theorem own_d3_8 : decode method_2_code 8 = .ok (.if_icmp .ne 7, 3) := by decide +kernel
theorem own_d3_11 : decode method_2_code 11 = .ok (.sipush 255, 3) := by decide +kernel
theorem own_d3_14 : decode method_2_code 14 = .ok (.ireturn, 1) := by decide +kernel
theorem own_d3_15 : decode method_2_code 15 = .ok (.iload_n 0, 1) := by decide +kernel
theorem own_d3_16 : decode method_2_code 16 = .ok (.iconst 2, 1) := by decide +kernel
theorem own_d3_17 : decode method_2_code 17 = .ok (.if_icmp .ne 6, 3) := by decide +kernel
theorem own_d3_20 : decode method_2_code 20 = .ok (.ldc 7, 2) := by decide +kernel
theorem own_d3_22 : decode method_2_code 22 = .ok (.ireturn, 1) := by decide +kernel
theorem own_d3_23 : decode method_2_code 23 = .ok (.iload_n 0, 1) := by decide +kernel
theorem own_d3_24 : decode method_2_code 24 = .ok (.iconst 3, 1) := by decide +kernel
theorem own_d3_25 : decode method_2_code 25 = .ok (.if_icmp .ne 6, 3) := by decide +kernel
theorem own_d3_28 : decode method_2_code 28 = .ok (.ldc 8, 2) := by decide +kernel
theorem own_d3_30 : decode method_2_code 30 = .ok (.ireturn, 1) := by decide +kernel
theorem own_d3_31 : decode method_2_code 31 = .ok (.iconst (-1), 1) := by decide +kernel
theorem own_d3_32 : decode method_2_code 32 = .ok (.ireturn, 1) := by decide +kernel
abbrev own_R3 : Room := { frames := 0, cells := 0, slots := 0, locals := 0 }
theorem own_pn3 : plainFor (⟨"com/example/skipstitch/skipstitch/GramTableMaskOfPinLaw", "expectedMask", "(I)I"⟩ : MethodName) = true := plainFor_of_name (by first | (simp [plainName, overriddenIn]; done) | decide +kernel)
theorem own_ef3 (m : MethodId) (p0 : Int32) : entryFrame m #[(.int p0)] 1 = mkF m 0 #[.val (.int p0)] [] := by first | (simp [entryFrame, mkF, argsToLocals, Value.category]; done) | rfl
def own_F3 (p0 : Int32) : Int32 := (if p0 = (0 : Int32) then (0 : Int32) else (if p0 = (1 : Int32) then (255 : Int32) else (if p0 = (2 : Int32) then (65535 : Int32) else (if p0 = (3 : Int32) then (16777215 : Int32) else (-1 : Int32)))))
set_option maxRecDepth 65536 in
set_option maxHeartbeats 40000000 in
theorem own_rm3 (l : Launch) (Z : State) (a0 : Array Value) (hw : ∀ d ∈ tables_1, d.before a0 Z = true) (ws : List Jvm.Cond) (p0 : Int32) (h0 : Heap) :
    own_C l Z (⟨"com/example/skipstitch/skipstitch/GramTableMaskOfPinLaw", "expectedMask", "(I)I"⟩ : MethodName) method_2_code 1 (some .int) ws own_R3 #[(.int p0)] h0 (own_Q (.int (own_F3 p0)) h0) := by
  refine MetFree.of_bodySF own_pn3 hisR ?_
  intro p e s m args below meth c s₁ Bd hml0 hP hK
  obtain ⟨rfl, hZ, hh⟩ := hP
  have hx := Bd.exec
  have hby := Bd.bytes
  have hml : c.maxLocals = 1 := hml0
  have hown : s.vm.findClass "com/example/skipstitch/skipstitch/GramTableMaskOfPinLaw" = some m.cls := findClass_of_methodNamed Bd.named
  have X0 : Stand p l e own_R3 s m #[(.int p0)] below meth c s₁ [] 0 0 := Stand.of_body Bd
  have e0 : s₁.heap = h0 := by rw [← hh, Bd.state]; rfl
  show own_G p e below (own_P s (own_Q (.int (own_F3 p0)) h0) own_R3.cells own_R3.slots) (s₁.setTop (entryFrame m #[(.int p0)] 1))
  rw [own_ef3 m p0]
  show own_G p e below _ (s₁.setTop (mkF m 0 #[.val (.int p0)] []))
  refine own_via (fun t k => XS.iloadN X0.here hx rfl (hb hby own_d3_0) rfl k) ?_
  show own_G p e below _ (s₁.setTop (mkF m 1 #[.val (.int p0)] [(.int p0)]))
  by_cases hc1 : p0 = (0 : Int32)
  ·
    refine own_via (fun t k => XS.ifNo X0.here hx rfl (hb hby own_d3_1) rfl ((if0 _ _).trans (teq hc1).2) k) ?_
    show own_G p e below _ (s₁.setTop (mkF m 4 #[.val (.int p0)] []))
    refine own_via (fun t k => XS.iconst X0.here hx rfl (hb hby own_d3_4) k) ?_
    show own_G p e below _ (s₁.setTop (mkF m 5 #[.val (.int p0)] [(.int (0 : Int32))]))
    exact own_retI X0 hx Bd.returns Bd.notSynchronized (hb hby own_d3_5) ⟨by show (some (.int (0 : Int32)) : Option Value) = some (.int (own_F3 p0)); simp only [own_F3, if_pos hc1], rfl, e0⟩ (by decide) (by decide)
  ·
    refine own_via (fun t k => XS.ifYes X0.here hx rfl (pc0 := 1) (pc' := 6) rfl (hb hby own_d3_1) rfl ((if0 _ _).trans (feq hc1).2) (by decide) (by decide) k) ?_
    show own_G p e below _ (s₁.setTop (mkF m 6 #[.val (.int p0)] []))
    refine own_via (fun t k => XS.iloadN X0.here hx rfl (hb hby own_d3_6) rfl k) ?_
    show own_G p e below _ (s₁.setTop (mkF m 7 #[.val (.int p0)] [(.int p0)]))
    refine own_via (fun t k => XS.iconst X0.here hx rfl (hb hby own_d3_7) k) ?_
    show own_G p e below _ (s₁.setTop (mkF m 8 #[.val (.int p0)] [(.int (1 : Int32)), (.int p0)]))
    by_cases hc2 : p0 = (1 : Int32)
    ·
      refine own_via (fun t k => XS.icmpNo X0.here hx rfl (hb hby own_d3_8) rfl (teq hc2).2 k) ?_
      show own_G p e below _ (s₁.setTop (mkF m 11 #[.val (.int p0)] []))
      refine own_via (fun t k => XS.sipush X0.here hx rfl (hb hby own_d3_11) k) ?_
      show own_G p e below _ (s₁.setTop (mkF m 14 #[.val (.int p0)] [(.int (255 : Int32))]))
      exact own_retI X0 hx Bd.returns Bd.notSynchronized (hb hby own_d3_14) ⟨by show (some (.int (255 : Int32)) : Option Value) = some (.int (own_F3 p0)); simp only [own_F3, if_neg hc1, if_pos hc2], rfl, e0⟩ (by decide) (by decide)
    ·
      refine own_via (fun t k => XS.icmpYes X0.here hx rfl (pc0 := 8) (pc' := 15) rfl (hb hby own_d3_8) rfl (feq hc2).2 (by decide) (by decide) k) ?_
      show own_G p e below _ (s₁.setTop (mkF m 15 #[.val (.int p0)] []))
      refine own_via (fun t k => XS.iloadN X0.here hx rfl (hb hby own_d3_15) rfl k) ?_
      show own_G p e below _ (s₁.setTop (mkF m 16 #[.val (.int p0)] [(.int p0)]))
      refine own_via (fun t k => XS.iconst X0.here hx rfl (hb hby own_d3_16) k) ?_
      show own_G p e below _ (s₁.setTop (mkF m 17 #[.val (.int p0)] [(.int (2 : Int32)), (.int p0)]))
      by_cases hc3 : p0 = (2 : Int32)
      ·
        refine own_via (fun t k => XS.icmpNo X0.here hx rfl (hb hby own_d3_17) rfl (teq hc3).2 k) ?_
        show own_G p e below _ (s₁.setTop (mkF m 20 #[.val (.int p0)] []))
        refine own_via (X0.ldcInt hx hown (mvT hZ (hw _ (List.mem_of_getElem? (i := 13) rfl))) (g := (mkF m 20 #[.val (.int p0)] [])) rfl (hb hby own_d3_20)) ?_
        show own_G p e below _ (s₁.setTop (mkF m 22 #[.val (.int p0)] [(.int (65535 : Int32))]))
        exact own_retI X0 hx Bd.returns Bd.notSynchronized (hb hby own_d3_22) ⟨by show (some (.int (65535 : Int32)) : Option Value) = some (.int (own_F3 p0)); simp only [own_F3, if_neg hc1, if_neg hc2, if_pos hc3], rfl, e0⟩ (by decide) (by decide)
      ·
        refine own_via (fun t k => XS.icmpYes X0.here hx rfl (pc0 := 17) (pc' := 23) rfl (hb hby own_d3_17) rfl (feq hc3).2 (by decide) (by decide) k) ?_
        show own_G p e below _ (s₁.setTop (mkF m 23 #[.val (.int p0)] []))
        refine own_via (fun t k => XS.iloadN X0.here hx rfl (hb hby own_d3_23) rfl k) ?_
        show own_G p e below _ (s₁.setTop (mkF m 24 #[.val (.int p0)] [(.int p0)]))
        refine own_via (fun t k => XS.iconst X0.here hx rfl (hb hby own_d3_24) k) ?_
        show own_G p e below _ (s₁.setTop (mkF m 25 #[.val (.int p0)] [(.int (3 : Int32)), (.int p0)]))
        by_cases hc4 : p0 = (3 : Int32)
        ·
          refine own_via (fun t k => XS.icmpNo X0.here hx rfl (hb hby own_d3_25) rfl (teq hc4).2 k) ?_
          show own_G p e below _ (s₁.setTop (mkF m 28 #[.val (.int p0)] []))
          refine own_via (X0.ldcInt hx hown (mvT hZ (hw _ (List.mem_of_getElem? (i := 12) rfl))) (g := (mkF m 28 #[.val (.int p0)] [])) rfl (hb hby own_d3_28)) ?_
          show own_G p e below _ (s₁.setTop (mkF m 30 #[.val (.int p0)] [(.int (16777215 : Int32))]))
          exact own_retI X0 hx Bd.returns Bd.notSynchronized (hb hby own_d3_30) ⟨by show (some (.int (16777215 : Int32)) : Option Value) = some (.int (own_F3 p0)); simp only [own_F3, if_neg hc1, if_neg hc2, if_neg hc3, if_pos hc4], rfl, e0⟩ (by decide) (by decide)
        ·
          refine own_via (fun t k => XS.icmpYes X0.here hx rfl (pc0 := 25) (pc' := 31) rfl (hb hby own_d3_25) rfl (feq hc4).2 (by decide) (by decide) k) ?_
          show own_G p e below _ (s₁.setTop (mkF m 31 #[.val (.int p0)] []))
          refine own_via (fun t k => XS.iconst X0.here hx rfl (hb hby own_d3_31) k) ?_
          show own_G p e below _ (s₁.setTop (mkF m 32 #[.val (.int p0)] [(.int (-1 : Int32))]))
          exact own_retI X0 hx Bd.returns Bd.notSynchronized (hb hby own_d3_32) ⟨by show (some (.int (-1 : Int32)) : Option Value) = some (.int (own_F3 p0)); simp only [own_F3, if_neg hc1, if_neg hc2, if_neg hc3, if_neg hc4], rfl, e0⟩ (by decide) (by decide)
theorem own_pn0 : plainFor x = true := plainFor_of_name (by first | (simp [plainName, overriddenIn]; done) | decide +kernel)
theorem own_ef0 (m : MethodId) (p0 : Int32) (p1 : Int32) (p2 : Int32) (p3 : Int32) (p4 : Int32) (p5 : Int32) : entryFrame m #[(.int p0), (.int p1), (.int p2), (.int p3), (.int p4), (.int p5)] maxLocals = mkF m 0 #[.val (.int p0), .val (.int p1), .val (.int p2), .val (.int p3), .val (.int p4), .val (.int p5), .unset, .unset, .unset, .unset] [] := by first | (simp [entryFrame, mkF, argsToLocals, Value.category, maxLocals]; done) | rfl
def own_F0 (p0 : Int32) (p1 : Int32) (p2 : Int32) (p3 : Int32) (p4 : Int32) (p5 : Int32) : Int32 := (let zj2 : Int32 := (if (p0 &&& (1 : Int32)) = (0 : Int32) then (p1 &&& (2147483647 : Int32)) else (((p0.toUInt32 >>> ((1 : Int32) &&& 31).toUInt32).toInt32) &&& (7 : Int32))); (let vg4 : Int32 := (own_F1 zj2); (let vg6 : Int32 := (own_F2 p2 p3 p4 p5); (let zj8 : Int32 := (if zj2 < (1 : Int32) then (0 : Int32) else p2); (let zj10 : Int32 := (if zj2 < (2 : Int32) then (0 : Int32) else p3); (let zj12 : Int32 := (if zj2 < (3 : Int32) then (0 : Int32) else p4); (let zj14 : Int32 := (if zj2 < (4 : Int32) then (0 : Int32) else p5); (let vg16 : Int32 := (own_F2 zj8 zj10 zj12 zj14); (if vg4 = (own_F3 zj2) then (if (vg6 &&& vg4) = vg16 then (1 : Int32) else (0 : Int32)) else (0 : Int32))))))))))
set_option maxRecDepth 65536 in
set_option maxHeartbeats 40000000 in
theorem own_rm0 (l : Launch) (Z : State) (a0 : Array Value) (hw : ∀ d ∈ tables_1, d.before a0 Z = true) (ws : List Jvm.Cond) (p0 : Int32) (p1 : Int32) (p2 : Int32) (p3 : Int32) (p4 : Int32) (p5 : Int32) (h0 : Heap) :
    own_C l Z x code maxLocals ret ws room_1 #[(.int p0), (.int p1), (.int p2), (.int p3), (.int p4), (.int p5)] h0 (own_Q (.int (own_F0 p0 p1 p2 p3 p4 p5)) h0) := by
  refine MetFree.of_bodySF own_pn0 hisR ?_
  intro p e s m args below meth c s₁ Bd hml0 hP hK
  obtain ⟨rfl, hZ, hh⟩ := hP
  have hx := Bd.exec
  have hby := Bd.bytes
  have hml : c.maxLocals = 10 := hml0
  have hown : s.vm.findClass "com/example/skipstitch/skipstitch/GramTableMaskOfPinLaw" = some m.cls := findClass_of_methodNamed Bd.named
  have X0 : Stand p l e room_1 s m #[(.int p0), (.int p1), (.int p2), (.int p3), (.int p4), (.int p5)] below meth c s₁ [] 0 0 := Stand.of_body Bd
  have e0 : s₁.heap = h0 := by rw [← hh, Bd.state]; rfl
  show own_G p e below (own_P s (own_Q (.int (own_F0 p0 p1 p2 p3 p4 p5)) h0) room_1.cells room_1.slots) (s₁.setTop (entryFrame m #[(.int p0), (.int p1), (.int p2), (.int p3), (.int p4), (.int p5)] maxLocals))
  rw [own_ef0 m p0 p1 p2 p3 p4 p5]
  show own_G p e below _ (s₁.setTop (mkF m 0 #[.val (.int p0), .val (.int p1), .val (.int p2), .val (.int p3), .val (.int p4), .val (.int p5), .unset, .unset, .unset, .unset] []))
  refine own_via (fun t k => XS.iloadN X0.here hx rfl (hb hby at_0) rfl k) ?_
  show own_G p e below _ (s₁.setTop (mkF m 1 #[.val (.int p0), .val (.int p1), .val (.int p2), .val (.int p3), .val (.int p4), .val (.int p5), .unset, .unset, .unset, .unset] [(.int p0)]))
  refine own_via (fun t k => XS.iconst X0.here hx rfl (hb hby at_1) k) ?_
  show own_G p e below _ (s₁.setTop (mkF m 2 #[.val (.int p0), .val (.int p1), .val (.int p2), .val (.int p3), .val (.int p4), .val (.int p5), .unset, .unset, .unset, .unset] [(.int (1 : Int32)), (.int p0)]))
  refine own_via (fun t k => XS.iand X0.here hx rfl (hb hby at_2) rfl k) ?_
  show own_G p e below _ (s₁.setTop (mkF m 3 #[.val (.int p0), .val (.int p1), .val (.int p2), .val (.int p3), .val (.int p4), .val (.int p5), .unset, .unset, .unset, .unset] [(.int (p0 &&& (1 : Int32)))]))
  have J1 : ∀ (TJ1 : State) (XJ1 : Stand p l e room_1 s m #[(.int p0), (.int p1), (.int p2), (.int p3), (.int p4), (.int p5)] below meth c TJ1 [] 0 0) (EJ1 : TJ1.heap = h0) (zj2 : Int32), zj2 = (if (p0 &&& (1 : Int32)) = (0 : Int32) then (p1 &&& (2147483647 : Int32)) else (((p0.toUInt32 >>> ((1 : Int32) &&& 31).toUInt32).toInt32) &&& (7 : Int32))) → own_G p e below (own_P s (own_Q (.int (own_F0 p0 p1 p2 p3 p4 p5)) h0) 0 0) (TJ1.setTop (mkF m 19 #[.val (.int p0), .val (.int p1), .val (.int p2), .val (.int p3), .val (.int p4), .val (.int p5), .unset, .unset, .unset, .unset] [(.int zj2)])) := by
    intro TJ1 XJ1 EJ1 zj2 hzj2
    refine own_via (fun t k => XS.istore XJ1.here hx rfl (hb hby at_19) rfl (l' := #[.val (.int p0), .val (.int p1), .val (.int p2), .val (.int p3), .val (.int p4), .val (.int p5), .val (.int zj2), .unset, .unset, .unset]) rfl k) ?_
    show own_G p e below _ (TJ1.setTop (mkF m 21 #[.val (.int p0), .val (.int p1), .val (.int p2), .val (.int p3), .val (.int p4), .val (.int p5), .val (.int zj2), .unset, .unset, .unset] []))
    refine own_via (fun t k => XS.iload XJ1.here hx rfl (hb hby at_21) rfl k) ?_
    show own_G p e below _ (TJ1.setTop (mkF m 23 #[.val (.int p0), .val (.int p1), .val (.int p2), .val (.int p3), .val (.int p4), .val (.int p5), .val (.int zj2), .unset, .unset, .unset] [(.int zj2)]))
    obtain ⟨T3, X3, e3, st3⟩ := own_callP (y := (⟨"com/example/skipstitch/skipstitch/GramTable", "maskOf", "(I)I"⟩ : MethodName)) (W := 0) XJ1 hx hZ hown (hw _ (List.mem_of_getElem? (i := 1) rfl)) (hw _ (List.mem_of_getElem? (i := 2) rfl)) (hw _ (List.mem_of_getElem? (i := 3) rfl)) (hw _ (List.mem_of_getElem? (i := 4) rfl)) (by decide) (own_rm1 l Z a0 hw [] zj2 h0) (by decide) (by decide) rfl rfl (by decide) (by decide) EJ1 (pc := 23) (Ls := #[.val (.int p0), .val (.int p1), .val (.int p2), .val (.int p3), .val (.int p4), .val (.int p5), .val (.int zj2), .unset, .unset, .unset]) (st := [(.int zj2)]) (argsL := [(.int zj2)]) (rest := []) (by rw [hml]; rfl) (lenOf own_pd0 rfl) rfl rfl (Nat.le_of_eq rfl) (hb hby at_23)
    refine own_via st3 ?_
    show own_G p e below _ (T3.setTop (mkF m 26 #[.val (.int p0), .val (.int p1), .val (.int p2), .val (.int p3), .val (.int p4), .val (.int p5), .val (.int zj2), .unset, .unset, .unset] [(.int (own_F1 zj2))]))
    generalize hvg4 : (own_F1 zj2) = vg4
    show own_G p e below _ (T3.setTop (mkF m 26 #[.val (.int p0), .val (.int p1), .val (.int p2), .val (.int p3), .val (.int p4), .val (.int p5), .val (.int zj2), .unset, .unset, .unset] [(.int vg4)]))
    refine own_via (fun t k => XS.istore X3.here hx rfl (hb hby at_26) rfl (l' := #[.val (.int p0), .val (.int p1), .val (.int p2), .val (.int p3), .val (.int p4), .val (.int p5), .val (.int zj2), .val (.int vg4), .unset, .unset]) rfl k) ?_
    show own_G p e below _ (T3.setTop (mkF m 28 #[.val (.int p0), .val (.int p1), .val (.int p2), .val (.int p3), .val (.int p4), .val (.int p5), .val (.int zj2), .val (.int vg4), .unset, .unset] []))
    refine own_via (fun t k => XS.iloadN X3.here hx rfl (hb hby at_28) rfl k) ?_
    show own_G p e below _ (T3.setTop (mkF m 29 #[.val (.int p0), .val (.int p1), .val (.int p2), .val (.int p3), .val (.int p4), .val (.int p5), .val (.int zj2), .val (.int vg4), .unset, .unset] [(.int p2)]))
    refine own_via (fun t k => XS.iloadN X3.here hx rfl (hb hby at_29) rfl k) ?_
    show own_G p e below _ (T3.setTop (mkF m 30 #[.val (.int p0), .val (.int p1), .val (.int p2), .val (.int p3), .val (.int p4), .val (.int p5), .val (.int zj2), .val (.int vg4), .unset, .unset] [(.int p3), (.int p2)]))
    refine own_via (fun t k => XS.iload X3.here hx rfl (hb hby at_30) rfl k) ?_
    show own_G p e below _ (T3.setTop (mkF m 32 #[.val (.int p0), .val (.int p1), .val (.int p2), .val (.int p3), .val (.int p4), .val (.int p5), .val (.int zj2), .val (.int vg4), .unset, .unset] [(.int p4), (.int p3), (.int p2)]))
    refine own_via (fun t k => XS.iload X3.here hx rfl (hb hby at_32) rfl k) ?_
    show own_G p e below _ (T3.setTop (mkF m 34 #[.val (.int p0), .val (.int p1), .val (.int p2), .val (.int p3), .val (.int p4), .val (.int p5), .val (.int zj2), .val (.int vg4), .unset, .unset] [(.int p5), (.int p4), (.int p3), (.int p2)]))
    obtain ⟨T5, X5, e5, st5⟩ := own_callP (y := (⟨"com/example/skipstitch/skipstitch/GramTable", "key", "(IIII)I"⟩ : MethodName)) (W := 0) X3 hx hZ hown (hw _ (List.mem_of_getElem? (i := 5) rfl)) (hw _ (List.mem_of_getElem? (i := 6) rfl)) (hw _ (List.mem_of_getElem? (i := 3) rfl)) (hw _ (List.mem_of_getElem? (i := 7) rfl)) (by decide) (own_rm2 l Z a0 hw [] p2 p3 p4 p5 h0) (by decide) (by decide) rfl rfl (by decide) (by decide) e3 (pc := 34) (Ls := #[.val (.int p0), .val (.int p1), .val (.int p2), .val (.int p3), .val (.int p4), .val (.int p5), .val (.int zj2), .val (.int vg4), .unset, .unset]) (st := [(.int p5), (.int p4), (.int p3), (.int p2)]) (argsL := [(.int p2), (.int p3), (.int p4), (.int p5)]) (rest := []) (by rw [hml]; rfl) (lenOf own_pd1 rfl) rfl rfl (Nat.le_of_eq rfl) (hb hby at_34)
    refine own_via st5 ?_
    show own_G p e below _ (T5.setTop (mkF m 37 #[.val (.int p0), .val (.int p1), .val (.int p2), .val (.int p3), .val (.int p4), .val (.int p5), .val (.int zj2), .val (.int vg4), .unset, .unset] [(.int (own_F2 p2 p3 p4 p5))]))
    generalize hvg6 : (own_F2 p2 p3 p4 p5) = vg6
    show own_G p e below _ (T5.setTop (mkF m 37 #[.val (.int p0), .val (.int p1), .val (.int p2), .val (.int p3), .val (.int p4), .val (.int p5), .val (.int zj2), .val (.int vg4), .unset, .unset] [(.int vg6)]))
    refine own_via (fun t k => XS.istore X5.here hx rfl (hb hby at_37) rfl (l' := #[.val (.int p0), .val (.int p1), .val (.int p2), .val (.int p3), .val (.int p4), .val (.int p5), .val (.int zj2), .val (.int vg4), .val (.int vg6), .unset]) rfl k) ?_
    show own_G p e below _ (T5.setTop (mkF m 39 #[.val (.int p0), .val (.int p1), .val (.int p2), .val (.int p3), .val (.int p4), .val (.int p5), .val (.int zj2), .val (.int vg4), .val (.int vg6), .unset] []))
    refine own_via (fun t k => XS.iload X5.here hx rfl (hb hby at_39) rfl k) ?_
    show own_G p e below _ (T5.setTop (mkF m 41 #[.val (.int p0), .val (.int p1), .val (.int p2), .val (.int p3), .val (.int p4), .val (.int p5), .val (.int zj2), .val (.int vg4), .val (.int vg6), .unset] [(.int zj2)]))
    refine own_via (fun t k => XS.iconst X5.here hx rfl (hb hby at_41) k) ?_
    show own_G p e below _ (T5.setTop (mkF m 42 #[.val (.int p0), .val (.int p1), .val (.int p2), .val (.int p3), .val (.int p4), .val (.int p5), .val (.int zj2), .val (.int vg4), .val (.int vg6), .unset] [(.int (1 : Int32)), (.int zj2)]))
    have J7 : ∀ (TJ7 : State) (XJ7 : Stand p l e room_1 s m #[(.int p0), (.int p1), (.int p2), (.int p3), (.int p4), (.int p5)] below meth c TJ7 [] 0 0) (EJ7 : TJ7.heap = h0) (zj8 : Int32), zj8 = (if zj2 < (1 : Int32) then (0 : Int32) else p2) → own_G p e below (own_P s (own_Q (.int (own_F0 p0 p1 p2 p3 p4 p5)) h0) 0 0) (TJ7.setTop (mkF m 50 #[.val (.int p0), .val (.int p1), .val (.int p2), .val (.int p3), .val (.int p4), .val (.int p5), .val (.int zj2), .val (.int vg4), .val (.int vg6), .unset] [(.int zj8)])) := by
      intro TJ7 XJ7 EJ7 zj8 hzj8
      refine own_via (fun t k => XS.iload XJ7.here hx rfl (hb hby at_50) rfl k) ?_
      show own_G p e below _ (TJ7.setTop (mkF m 52 #[.val (.int p0), .val (.int p1), .val (.int p2), .val (.int p3), .val (.int p4), .val (.int p5), .val (.int zj2), .val (.int vg4), .val (.int vg6), .unset] [(.int zj2), (.int zj8)]))
      refine own_via (fun t k => XS.iconst XJ7.here hx rfl (hb hby at_52) k) ?_
      show own_G p e below _ (TJ7.setTop (mkF m 53 #[.val (.int p0), .val (.int p1), .val (.int p2), .val (.int p3), .val (.int p4), .val (.int p5), .val (.int zj2), .val (.int vg4), .val (.int vg6), .unset] [(.int (2 : Int32)), (.int zj2), (.int zj8)]))
      have J9 : ∀ (TJ9 : State) (XJ9 : Stand p l e room_1 s m #[(.int p0), (.int p1), (.int p2), (.int p3), (.int p4), (.int p5)] below meth c TJ9 [] 0 0) (EJ9 : TJ9.heap = h0) (zj10 : Int32), zj10 = (if zj2 < (2 : Int32) then (0 : Int32) else p3) → own_G p e below (own_P s (own_Q (.int (own_F0 p0 p1 p2 p3 p4 p5)) h0) 0 0) (TJ9.setTop (mkF m 61 #[.val (.int p0), .val (.int p1), .val (.int p2), .val (.int p3), .val (.int p4), .val (.int p5), .val (.int zj2), .val (.int vg4), .val (.int vg6), .unset] [(.int zj10), (.int zj8)])) := by
        intro TJ9 XJ9 EJ9 zj10 hzj10
        refine own_via (fun t k => XS.iload XJ9.here hx rfl (hb hby at_61) rfl k) ?_
        show own_G p e below _ (TJ9.setTop (mkF m 63 #[.val (.int p0), .val (.int p1), .val (.int p2), .val (.int p3), .val (.int p4), .val (.int p5), .val (.int zj2), .val (.int vg4), .val (.int vg6), .unset] [(.int zj2), (.int zj10), (.int zj8)]))
        refine own_via (fun t k => XS.iconst XJ9.here hx rfl (hb hby at_63) k) ?_
        show own_G p e below _ (TJ9.setTop (mkF m 64 #[.val (.int p0), .val (.int p1), .val (.int p2), .val (.int p3), .val (.int p4), .val (.int p5), .val (.int zj2), .val (.int vg4), .val (.int vg6), .unset] [(.int (3 : Int32)), (.int zj2), (.int zj10), (.int zj8)]))
        have J11 : ∀ (TJ11 : State) (XJ11 : Stand p l e room_1 s m #[(.int p0), (.int p1), (.int p2), (.int p3), (.int p4), (.int p5)] below meth c TJ11 [] 0 0) (EJ11 : TJ11.heap = h0) (zj12 : Int32), zj12 = (if zj2 < (3 : Int32) then (0 : Int32) else p4) → own_G p e below (own_P s (own_Q (.int (own_F0 p0 p1 p2 p3 p4 p5)) h0) 0 0) (TJ11.setTop (mkF m 73 #[.val (.int p0), .val (.int p1), .val (.int p2), .val (.int p3), .val (.int p4), .val (.int p5), .val (.int zj2), .val (.int vg4), .val (.int vg6), .unset] [(.int zj12), (.int zj10), (.int zj8)])) := by
          intro TJ11 XJ11 EJ11 zj12 hzj12
          refine own_via (fun t k => XS.iload XJ11.here hx rfl (hb hby at_73) rfl k) ?_
          show own_G p e below _ (TJ11.setTop (mkF m 75 #[.val (.int p0), .val (.int p1), .val (.int p2), .val (.int p3), .val (.int p4), .val (.int p5), .val (.int zj2), .val (.int vg4), .val (.int vg6), .unset] [(.int zj2), (.int zj12), (.int zj10), (.int zj8)]))
          refine own_via (fun t k => XS.iconst XJ11.here hx rfl (hb hby at_75) k) ?_
          show own_G p e below _ (TJ11.setTop (mkF m 76 #[.val (.int p0), .val (.int p1), .val (.int p2), .val (.int p3), .val (.int p4), .val (.int p5), .val (.int zj2), .val (.int vg4), .val (.int vg6), .unset] [(.int (4 : Int32)), (.int zj2), (.int zj12), (.int zj10), (.int zj8)]))
          have J13 : ∀ (TJ13 : State) (XJ13 : Stand p l e room_1 s m #[(.int p0), (.int p1), (.int p2), (.int p3), (.int p4), (.int p5)] below meth c TJ13 [] 0 0) (EJ13 : TJ13.heap = h0) (zj14 : Int32), zj14 = (if zj2 < (4 : Int32) then (0 : Int32) else p5) → own_G p e below (own_P s (own_Q (.int (own_F0 p0 p1 p2 p3 p4 p5)) h0) 0 0) (TJ13.setTop (mkF m 85 #[.val (.int p0), .val (.int p1), .val (.int p2), .val (.int p3), .val (.int p4), .val (.int p5), .val (.int zj2), .val (.int vg4), .val (.int vg6), .unset] [(.int zj14), (.int zj12), (.int zj10), (.int zj8)])) := by
            intro TJ13 XJ13 EJ13 zj14 hzj14
            obtain ⟨T15, X15, e15, st15⟩ := own_callP (y := (⟨"com/example/skipstitch/skipstitch/GramTable", "key", "(IIII)I"⟩ : MethodName)) (W := 0) XJ13 hx hZ hown (hw _ (List.mem_of_getElem? (i := 5) rfl)) (hw _ (List.mem_of_getElem? (i := 6) rfl)) (hw _ (List.mem_of_getElem? (i := 3) rfl)) (hw _ (List.mem_of_getElem? (i := 7) rfl)) (by decide) (own_rm2 l Z a0 hw [] zj8 zj10 zj12 zj14 h0) (by decide) (by decide) rfl rfl (by decide) (by decide) EJ13 (pc := 85) (Ls := #[.val (.int p0), .val (.int p1), .val (.int p2), .val (.int p3), .val (.int p4), .val (.int p5), .val (.int zj2), .val (.int vg4), .val (.int vg6), .unset]) (st := [(.int zj14), (.int zj12), (.int zj10), (.int zj8)]) (argsL := [(.int zj8), (.int zj10), (.int zj12), (.int zj14)]) (rest := []) (by rw [hml]; rfl) (lenOf own_pd1 rfl) rfl rfl (Nat.le_of_eq rfl) (hb hby at_85)
            refine own_via st15 ?_
            show own_G p e below _ (T15.setTop (mkF m 88 #[.val (.int p0), .val (.int p1), .val (.int p2), .val (.int p3), .val (.int p4), .val (.int p5), .val (.int zj2), .val (.int vg4), .val (.int vg6), .unset] [(.int (own_F2 zj8 zj10 zj12 zj14))]))
            generalize hvg16 : (own_F2 zj8 zj10 zj12 zj14) = vg16
            show own_G p e below _ (T15.setTop (mkF m 88 #[.val (.int p0), .val (.int p1), .val (.int p2), .val (.int p3), .val (.int p4), .val (.int p5), .val (.int zj2), .val (.int vg4), .val (.int vg6), .unset] [(.int vg16)]))
            refine own_via (fun t k => XS.istore X15.here hx rfl (hb hby at_88) rfl (l' := #[.val (.int p0), .val (.int p1), .val (.int p2), .val (.int p3), .val (.int p4), .val (.int p5), .val (.int zj2), .val (.int vg4), .val (.int vg6), .val (.int vg16)]) rfl k) ?_
            show own_G p e below _ (T15.setTop (mkF m 90 #[.val (.int p0), .val (.int p1), .val (.int p2), .val (.int p3), .val (.int p4), .val (.int p5), .val (.int zj2), .val (.int vg4), .val (.int vg6), .val (.int vg16)] []))
            refine own_via (fun t k => XS.iload X15.here hx rfl (hb hby at_90) rfl k) ?_
            show own_G p e below _ (T15.setTop (mkF m 92 #[.val (.int p0), .val (.int p1), .val (.int p2), .val (.int p3), .val (.int p4), .val (.int p5), .val (.int zj2), .val (.int vg4), .val (.int vg6), .val (.int vg16)] [(.int vg4)]))
            refine own_via (fun t k => XS.iload X15.here hx rfl (hb hby at_92) rfl k) ?_
            show own_G p e below _ (T15.setTop (mkF m 94 #[.val (.int p0), .val (.int p1), .val (.int p2), .val (.int p3), .val (.int p4), .val (.int p5), .val (.int zj2), .val (.int vg4), .val (.int vg6), .val (.int vg16)] [(.int zj2), (.int vg4)]))
            obtain ⟨T17, X17, e17, st17⟩ := own_callP (y := (⟨"com/example/skipstitch/skipstitch/GramTableMaskOfPinLaw", "expectedMask", "(I)I"⟩ : MethodName)) (W := 1) X15 hx hZ hown (hw _ (List.mem_of_getElem? (i := 8) rfl)) (hw _ (List.mem_of_getElem? (i := 9) rfl)) (hw _ (List.mem_of_getElem? (i := 10) rfl)) (hw _ (List.mem_of_getElem? (i := 11) rfl)) (by decide) (own_rm3 l Z a0 hw [] zj2 h0) (by decide) (by decide) rfl rfl (by decide) (by decide) e15 (pc := 94) (Ls := #[.val (.int p0), .val (.int p1), .val (.int p2), .val (.int p3), .val (.int p4), .val (.int p5), .val (.int zj2), .val (.int vg4), .val (.int vg6), .val (.int vg16)]) (st := [(.int zj2), (.int vg4)]) (argsL := [(.int zj2)]) (rest := [(.int vg4)]) (by rw [hml]; rfl) (lenOf own_pd0 rfl) rfl rfl (Nat.le_of_eq rfl) (hb hby at_94)
            refine own_via st17 ?_
            show own_G p e below _ (T17.setTop (mkF m 97 #[.val (.int p0), .val (.int p1), .val (.int p2), .val (.int p3), .val (.int p4), .val (.int p5), .val (.int zj2), .val (.int vg4), .val (.int vg6), .val (.int vg16)] [(.int (own_F3 zj2)), (.int vg4)]))
            by_cases hc18 : vg4 = (own_F3 zj2)
            ·
              refine own_via (fun t k => XS.icmpNo X17.here hx rfl (hb hby at_97) rfl (teq hc18).2 k) ?_
              show own_G p e below _ (T17.setTop (mkF m 100 #[.val (.int p0), .val (.int p1), .val (.int p2), .val (.int p3), .val (.int p4), .val (.int p5), .val (.int zj2), .val (.int vg4), .val (.int vg6), .val (.int vg16)] []))
              refine own_via (fun t k => XS.iload X17.here hx rfl (hb hby at_100) rfl k) ?_
              show own_G p e below _ (T17.setTop (mkF m 102 #[.val (.int p0), .val (.int p1), .val (.int p2), .val (.int p3), .val (.int p4), .val (.int p5), .val (.int zj2), .val (.int vg4), .val (.int vg6), .val (.int vg16)] [(.int vg6)]))
              refine own_via (fun t k => XS.iload X17.here hx rfl (hb hby at_102) rfl k) ?_
              show own_G p e below _ (T17.setTop (mkF m 104 #[.val (.int p0), .val (.int p1), .val (.int p2), .val (.int p3), .val (.int p4), .val (.int p5), .val (.int zj2), .val (.int vg4), .val (.int vg6), .val (.int vg16)] [(.int vg4), (.int vg6)]))
              refine own_via (fun t k => XS.iand X17.here hx rfl (hb hby at_104) rfl k) ?_
              show own_G p e below _ (T17.setTop (mkF m 105 #[.val (.int p0), .val (.int p1), .val (.int p2), .val (.int p3), .val (.int p4), .val (.int p5), .val (.int zj2), .val (.int vg4), .val (.int vg6), .val (.int vg16)] [(.int (vg6 &&& vg4))]))
              refine own_via (fun t k => XS.iload X17.here hx rfl (hb hby at_105) rfl k) ?_
              show own_G p e below _ (T17.setTop (mkF m 107 #[.val (.int p0), .val (.int p1), .val (.int p2), .val (.int p3), .val (.int p4), .val (.int p5), .val (.int zj2), .val (.int vg4), .val (.int vg6), .val (.int vg16)] [(.int vg16), (.int (vg6 &&& vg4))]))
              by_cases hc19 : (vg6 &&& vg4) = vg16
              ·
                refine own_via (fun t k => XS.icmpNo X17.here hx rfl (hb hby at_107) rfl (teq hc19).2 k) ?_
                show own_G p e below _ (T17.setTop (mkF m 110 #[.val (.int p0), .val (.int p1), .val (.int p2), .val (.int p3), .val (.int p4), .val (.int p5), .val (.int zj2), .val (.int vg4), .val (.int vg6), .val (.int vg16)] []))
                refine own_via (fun t k => XS.iconst X17.here hx rfl (hb hby at_110) k) ?_
                show own_G p e below _ (T17.setTop (mkF m 111 #[.val (.int p0), .val (.int p1), .val (.int p2), .val (.int p3), .val (.int p4), .val (.int p5), .val (.int zj2), .val (.int vg4), .val (.int vg6), .val (.int vg16)] [(.int (1 : Int32))]))
                refine own_via (fun t k => XS.goto X17.here hx rfl (pc0 := 111) (pc' := 115) rfl (hb hby at_111) (by decide) (by decide) k) ?_
                show own_G p e below _ (T17.setTop (mkF m 115 #[.val (.int p0), .val (.int p1), .val (.int p2), .val (.int p3), .val (.int p4), .val (.int p5), .val (.int zj2), .val (.int vg4), .val (.int vg6), .val (.int vg16)] [(.int (1 : Int32))]))
                exact own_retN (t := .boolean) X17 hx Bd.returns (by simp) Bd.notSynchronized (hb hby at_115) ⟨by show (some (.int (1 : Int32)) : Option Value) = some (.int (own_F0 p0 p1 p2 p3 p4 p5)); subst hvg16; subst hzj14; subst hzj12; subst hzj10; subst hzj8; subst hvg6; subst hvg4; subst hzj2; simp only [own_F0, if_pos hc18, if_pos hc19], rfl, e17⟩ (by decide) (by decide)
              ·
                refine own_via (fun t k => XS.icmpYes X17.here hx rfl (pc0 := 107) (pc' := 114) rfl (hb hby at_107) rfl (feq hc19).2 (by decide) (by decide) k) ?_
                show own_G p e below _ (T17.setTop (mkF m 114 #[.val (.int p0), .val (.int p1), .val (.int p2), .val (.int p3), .val (.int p4), .val (.int p5), .val (.int zj2), .val (.int vg4), .val (.int vg6), .val (.int vg16)] []))
                refine own_via (fun t k => XS.iconst X17.here hx rfl (hb hby at_114) k) ?_
                show own_G p e below _ (T17.setTop (mkF m 115 #[.val (.int p0), .val (.int p1), .val (.int p2), .val (.int p3), .val (.int p4), .val (.int p5), .val (.int zj2), .val (.int vg4), .val (.int vg6), .val (.int vg16)] [(.int (0 : Int32))]))
                exact own_retN (t := .boolean) X17 hx Bd.returns (by simp) Bd.notSynchronized (hb hby at_115) ⟨by show (some (.int (0 : Int32)) : Option Value) = some (.int (own_F0 p0 p1 p2 p3 p4 p5)); subst hvg16; subst hzj14; subst hzj12; subst hzj10; subst hzj8; subst hvg6; subst hvg4; subst hzj2; simp only [own_F0, if_pos hc18, if_neg hc19], rfl, e17⟩ (by decide) (by decide)
            ·
              refine own_via (fun t k => XS.icmpYes X17.here hx rfl (pc0 := 97) (pc' := 114) rfl (hb hby at_97) rfl (feq hc18).2 (by decide) (by decide) k) ?_
              show own_G p e below _ (T17.setTop (mkF m 114 #[.val (.int p0), .val (.int p1), .val (.int p2), .val (.int p3), .val (.int p4), .val (.int p5), .val (.int zj2), .val (.int vg4), .val (.int vg6), .val (.int vg16)] []))
              refine own_via (fun t k => XS.iconst X17.here hx rfl (hb hby at_114) k) ?_
              show own_G p e below _ (T17.setTop (mkF m 115 #[.val (.int p0), .val (.int p1), .val (.int p2), .val (.int p3), .val (.int p4), .val (.int p5), .val (.int zj2), .val (.int vg4), .val (.int vg6), .val (.int vg16)] [(.int (0 : Int32))]))
              exact own_retN (t := .boolean) X17 hx Bd.returns (by simp) Bd.notSynchronized (hb hby at_115) ⟨by show (some (.int (0 : Int32)) : Option Value) = some (.int (own_F0 p0 p1 p2 p3 p4 p5)); subst hvg16; subst hzj14; subst hzj12; subst hzj10; subst hzj8; subst hvg6; subst hvg4; subst hzj2; simp only [own_F0, if_neg hc18], rfl, e17⟩ (by decide) (by decide)
          by_cases hc20 : zj2 < (4 : Int32)
          ·
            refine own_via (fun t k => XS.icmpYes XJ11.here hx rfl (pc0 := 76) (pc' := 84) rfl (hb hby at_76) rfl (tlt hc20).1 (by decide) (by decide) k) ?_
            show own_G p e below _ (TJ11.setTop (mkF m 84 #[.val (.int p0), .val (.int p1), .val (.int p2), .val (.int p3), .val (.int p4), .val (.int p5), .val (.int zj2), .val (.int vg4), .val (.int vg6), .unset] [(.int zj12), (.int zj10), (.int zj8)]))
            refine own_via (fun t k => XS.iconst XJ11.here hx rfl (hb hby at_84) k) ?_
            show own_G p e below _ (TJ11.setTop (mkF m 85 #[.val (.int p0), .val (.int p1), .val (.int p2), .val (.int p3), .val (.int p4), .val (.int p5), .val (.int zj2), .val (.int vg4), .val (.int vg6), .unset] [(.int (0 : Int32)), (.int zj12), (.int zj10), (.int zj8)]))
            exact J13 _ XJ11 EJ11 _ (by simp only [if_pos hc20])
          ·
            refine own_via (fun t k => XS.icmpNo XJ11.here hx rfl (hb hby at_76) rfl (flt hc20).1 k) ?_
            show own_G p e below _ (TJ11.setTop (mkF m 79 #[.val (.int p0), .val (.int p1), .val (.int p2), .val (.int p3), .val (.int p4), .val (.int p5), .val (.int zj2), .val (.int vg4), .val (.int vg6), .unset] [(.int zj12), (.int zj10), (.int zj8)]))
            refine own_via (fun t k => XS.iload XJ11.here hx rfl (hb hby at_79) rfl k) ?_
            show own_G p e below _ (TJ11.setTop (mkF m 81 #[.val (.int p0), .val (.int p1), .val (.int p2), .val (.int p3), .val (.int p4), .val (.int p5), .val (.int zj2), .val (.int vg4), .val (.int vg6), .unset] [(.int p5), (.int zj12), (.int zj10), (.int zj8)]))
            refine own_via (fun t k => XS.goto XJ11.here hx rfl (pc0 := 81) (pc' := 85) rfl (hb hby at_81) (by decide) (by decide) k) ?_
            show own_G p e below _ (TJ11.setTop (mkF m 85 #[.val (.int p0), .val (.int p1), .val (.int p2), .val (.int p3), .val (.int p4), .val (.int p5), .val (.int zj2), .val (.int vg4), .val (.int vg6), .unset] [(.int p5), (.int zj12), (.int zj10), (.int zj8)]))
            exact J13 _ XJ11 EJ11 _ (by simp only [if_neg hc20])
        by_cases hc21 : zj2 < (3 : Int32)
        ·
          refine own_via (fun t k => XS.icmpYes XJ9.here hx rfl (pc0 := 64) (pc' := 72) rfl (hb hby at_64) rfl (tlt hc21).1 (by decide) (by decide) k) ?_
          show own_G p e below _ (TJ9.setTop (mkF m 72 #[.val (.int p0), .val (.int p1), .val (.int p2), .val (.int p3), .val (.int p4), .val (.int p5), .val (.int zj2), .val (.int vg4), .val (.int vg6), .unset] [(.int zj10), (.int zj8)]))
          refine own_via (fun t k => XS.iconst XJ9.here hx rfl (hb hby at_72) k) ?_
          show own_G p e below _ (TJ9.setTop (mkF m 73 #[.val (.int p0), .val (.int p1), .val (.int p2), .val (.int p3), .val (.int p4), .val (.int p5), .val (.int zj2), .val (.int vg4), .val (.int vg6), .unset] [(.int (0 : Int32)), (.int zj10), (.int zj8)]))
          exact J11 _ XJ9 EJ9 _ (by simp only [if_pos hc21])
        ·
          refine own_via (fun t k => XS.icmpNo XJ9.here hx rfl (hb hby at_64) rfl (flt hc21).1 k) ?_
          show own_G p e below _ (TJ9.setTop (mkF m 67 #[.val (.int p0), .val (.int p1), .val (.int p2), .val (.int p3), .val (.int p4), .val (.int p5), .val (.int zj2), .val (.int vg4), .val (.int vg6), .unset] [(.int zj10), (.int zj8)]))
          refine own_via (fun t k => XS.iload XJ9.here hx rfl (hb hby at_67) rfl k) ?_
          show own_G p e below _ (TJ9.setTop (mkF m 69 #[.val (.int p0), .val (.int p1), .val (.int p2), .val (.int p3), .val (.int p4), .val (.int p5), .val (.int zj2), .val (.int vg4), .val (.int vg6), .unset] [(.int p4), (.int zj10), (.int zj8)]))
          refine own_via (fun t k => XS.goto XJ9.here hx rfl (pc0 := 69) (pc' := 73) rfl (hb hby at_69) (by decide) (by decide) k) ?_
          show own_G p e below _ (TJ9.setTop (mkF m 73 #[.val (.int p0), .val (.int p1), .val (.int p2), .val (.int p3), .val (.int p4), .val (.int p5), .val (.int zj2), .val (.int vg4), .val (.int vg6), .unset] [(.int p4), (.int zj10), (.int zj8)]))
          exact J11 _ XJ9 EJ9 _ (by simp only [if_neg hc21])
      by_cases hc22 : zj2 < (2 : Int32)
      ·
        refine own_via (fun t k => XS.icmpYes XJ7.here hx rfl (pc0 := 53) (pc' := 60) rfl (hb hby at_53) rfl (tlt hc22).1 (by decide) (by decide) k) ?_
        show own_G p e below _ (TJ7.setTop (mkF m 60 #[.val (.int p0), .val (.int p1), .val (.int p2), .val (.int p3), .val (.int p4), .val (.int p5), .val (.int zj2), .val (.int vg4), .val (.int vg6), .unset] [(.int zj8)]))
        refine own_via (fun t k => XS.iconst XJ7.here hx rfl (hb hby at_60) k) ?_
        show own_G p e below _ (TJ7.setTop (mkF m 61 #[.val (.int p0), .val (.int p1), .val (.int p2), .val (.int p3), .val (.int p4), .val (.int p5), .val (.int zj2), .val (.int vg4), .val (.int vg6), .unset] [(.int (0 : Int32)), (.int zj8)]))
        exact J9 _ XJ7 EJ7 _ (by simp only [if_pos hc22])
      ·
        refine own_via (fun t k => XS.icmpNo XJ7.here hx rfl (hb hby at_53) rfl (flt hc22).1 k) ?_
        show own_G p e below _ (TJ7.setTop (mkF m 56 #[.val (.int p0), .val (.int p1), .val (.int p2), .val (.int p3), .val (.int p4), .val (.int p5), .val (.int zj2), .val (.int vg4), .val (.int vg6), .unset] [(.int zj8)]))
        refine own_via (fun t k => XS.iloadN XJ7.here hx rfl (hb hby at_56) rfl k) ?_
        show own_G p e below _ (TJ7.setTop (mkF m 57 #[.val (.int p0), .val (.int p1), .val (.int p2), .val (.int p3), .val (.int p4), .val (.int p5), .val (.int zj2), .val (.int vg4), .val (.int vg6), .unset] [(.int p3), (.int zj8)]))
        refine own_via (fun t k => XS.goto XJ7.here hx rfl (pc0 := 57) (pc' := 61) rfl (hb hby at_57) (by decide) (by decide) k) ?_
        show own_G p e below _ (TJ7.setTop (mkF m 61 #[.val (.int p0), .val (.int p1), .val (.int p2), .val (.int p3), .val (.int p4), .val (.int p5), .val (.int zj2), .val (.int vg4), .val (.int vg6), .unset] [(.int p3), (.int zj8)]))
        exact J9 _ XJ7 EJ7 _ (by simp only [if_neg hc22])
    by_cases hc23 : zj2 < (1 : Int32)
    ·
      refine own_via (fun t k => XS.icmpYes X5.here hx rfl (pc0 := 42) (pc' := 49) rfl (hb hby at_42) rfl (tlt hc23).1 (by decide) (by decide) k) ?_
      show own_G p e below _ (T5.setTop (mkF m 49 #[.val (.int p0), .val (.int p1), .val (.int p2), .val (.int p3), .val (.int p4), .val (.int p5), .val (.int zj2), .val (.int vg4), .val (.int vg6), .unset] []))
      refine own_via (fun t k => XS.iconst X5.here hx rfl (hb hby at_49) k) ?_
      show own_G p e below _ (T5.setTop (mkF m 50 #[.val (.int p0), .val (.int p1), .val (.int p2), .val (.int p3), .val (.int p4), .val (.int p5), .val (.int zj2), .val (.int vg4), .val (.int vg6), .unset] [(.int (0 : Int32))]))
      exact J7 _ X5 e5 _ (by simp only [if_pos hc23])
    ·
      refine own_via (fun t k => XS.icmpNo X5.here hx rfl (hb hby at_42) rfl (flt hc23).1 k) ?_
      show own_G p e below _ (T5.setTop (mkF m 45 #[.val (.int p0), .val (.int p1), .val (.int p2), .val (.int p3), .val (.int p4), .val (.int p5), .val (.int zj2), .val (.int vg4), .val (.int vg6), .unset] []))
      refine own_via (fun t k => XS.iloadN X5.here hx rfl (hb hby at_45) rfl k) ?_
      show own_G p e below _ (T5.setTop (mkF m 46 #[.val (.int p0), .val (.int p1), .val (.int p2), .val (.int p3), .val (.int p4), .val (.int p5), .val (.int zj2), .val (.int vg4), .val (.int vg6), .unset] [(.int p2)]))
      refine own_via (fun t k => XS.goto X5.here hx rfl (pc0 := 46) (pc' := 50) rfl (hb hby at_46) (by decide) (by decide) k) ?_
      show own_G p e below _ (T5.setTop (mkF m 50 #[.val (.int p0), .val (.int p1), .val (.int p2), .val (.int p3), .val (.int p4), .val (.int p5), .val (.int zj2), .val (.int vg4), .val (.int vg6), .unset] [(.int p2)]))
      exact J7 _ X5 e5 _ (by simp only [if_neg hc23])
  by_cases hc24 : (p0 &&& (1 : Int32)) = (0 : Int32)
  ·
    refine own_via (fun t k => XS.ifYes X0.here hx rfl (pc0 := 3) (pc' := 15) rfl (hb hby at_3) rfl ((if0 _ _).trans (teq hc24).1) (by decide) (by decide) k) ?_
    show own_G p e below _ (s₁.setTop (mkF m 15 #[.val (.int p0), .val (.int p1), .val (.int p2), .val (.int p3), .val (.int p4), .val (.int p5), .unset, .unset, .unset, .unset] []))
    refine own_via (fun t k => XS.iloadN X0.here hx rfl (hb hby at_15) rfl k) ?_
    show own_G p e below _ (s₁.setTop (mkF m 16 #[.val (.int p0), .val (.int p1), .val (.int p2), .val (.int p3), .val (.int p4), .val (.int p5), .unset, .unset, .unset, .unset] [(.int p1)]))
    refine own_via (X0.ldcInt hx hown (mvT hZ (hw _ (List.mem_of_getElem? (i := 0) rfl))) (g := (mkF m 16 #[.val (.int p0), .val (.int p1), .val (.int p2), .val (.int p3), .val (.int p4), .val (.int p5), .unset, .unset, .unset, .unset] [(.int p1)])) rfl (hb hby at_16)) ?_
    show own_G p e below _ (s₁.setTop (mkF m 18 #[.val (.int p0), .val (.int p1), .val (.int p2), .val (.int p3), .val (.int p4), .val (.int p5), .unset, .unset, .unset, .unset] [(.int (2147483647 : Int32)), (.int p1)]))
    refine own_via (fun t k => XS.iand X0.here hx rfl (hb hby at_18) rfl k) ?_
    show own_G p e below _ (s₁.setTop (mkF m 19 #[.val (.int p0), .val (.int p1), .val (.int p2), .val (.int p3), .val (.int p4), .val (.int p5), .unset, .unset, .unset, .unset] [(.int (p1 &&& (2147483647 : Int32)))]))
    exact J1 _ X0 e0 _ (by simp only [if_pos hc24])
  ·
    refine own_via (fun t k => XS.ifNo X0.here hx rfl (hb hby at_3) rfl ((if0 _ _).trans (feq hc24).1) k) ?_
    show own_G p e below _ (s₁.setTop (mkF m 6 #[.val (.int p0), .val (.int p1), .val (.int p2), .val (.int p3), .val (.int p4), .val (.int p5), .unset, .unset, .unset, .unset] []))
    refine own_via (fun t k => XS.iloadN X0.here hx rfl (hb hby at_6) rfl k) ?_
    show own_G p e below _ (s₁.setTop (mkF m 7 #[.val (.int p0), .val (.int p1), .val (.int p2), .val (.int p3), .val (.int p4), .val (.int p5), .unset, .unset, .unset, .unset] [(.int p0)]))
    refine own_via (fun t k => XS.iconst X0.here hx rfl (hb hby at_7) k) ?_
    show own_G p e below _ (s₁.setTop (mkF m 8 #[.val (.int p0), .val (.int p1), .val (.int p2), .val (.int p3), .val (.int p4), .val (.int p5), .unset, .unset, .unset, .unset] [(.int (1 : Int32)), (.int p0)]))
    refine own_via (fun t k => XS.iushr X0.here hx rfl (hb hby at_8) rfl k) ?_
    show own_G p e below _ (s₁.setTop (mkF m 9 #[.val (.int p0), .val (.int p1), .val (.int p2), .val (.int p3), .val (.int p4), .val (.int p5), .unset, .unset, .unset, .unset] [(.int ((p0.toUInt32 >>> ((1 : Int32) &&& 31).toUInt32).toInt32))]))
    refine own_via (fun t k => XS.bipush X0.here hx rfl (hb hby at_9) k) ?_
    show own_G p e below _ (s₁.setTop (mkF m 11 #[.val (.int p0), .val (.int p1), .val (.int p2), .val (.int p3), .val (.int p4), .val (.int p5), .unset, .unset, .unset, .unset] [(.int (7 : Int32)), (.int ((p0.toUInt32 >>> ((1 : Int32) &&& 31).toUInt32).toInt32))]))
    refine own_via (fun t k => XS.iand X0.here hx rfl (hb hby at_11) rfl k) ?_
    show own_G p e below _ (s₁.setTop (mkF m 12 #[.val (.int p0), .val (.int p1), .val (.int p2), .val (.int p3), .val (.int p4), .val (.int p5), .unset, .unset, .unset, .unset] [(.int (((p0.toUInt32 >>> ((1 : Int32) &&& 31).toUInt32).toInt32) &&& (7 : Int32)))]))
    refine own_via (fun t k => XS.goto X0.here hx rfl (pc0 := 12) (pc' := 19) rfl (hb hby at_12) (by decide) (by decide) k) ?_
    show own_G p e below _ (s₁.setTop (mkF m 19 #[.val (.int p0), .val (.int p1), .val (.int p2), .val (.int p3), .val (.int p4), .val (.int p5), .unset, .unset, .unset, .unset] [(.int (((p0.toUInt32 >>> ((1 : Int32) &&& 31).toUInt32).toInt32) &&& (7 : Int32)))]))
    exact J1 _ X0 e0 _ (by simp only [if_neg hc24])
theorem own_key (a b c d : Int32) : ((own_F2 a b c d).toInt - (a.toInt % 256 + b.toInt % 256 * 256 + c.toInt % 256 * 65536 + d.toInt % 256 * 16777216)) % 4294967296 = 0 := by
  have h1 := c_mask a 255 8 (by decide) (by decide)
  have h2 := c_mask b 255 8 (by decide) (by decide)
  have h3 := c_mask c 255 8 (by decide) (by decide)
  have h4 := c_mask d 255 8 (by decide) (by decide)
  unfold own_F2
  generalize a &&& 255 = a' at *
  generalize b &&& 255 = b' at *
  generalize c &&& 255 = c' at *
  generalize d &&& 255 = d' at *
  have s2 := c_ishl b' 8 8 (by decide)
  have s3 := c_ishl c' 16 16 (by decide)
  have s4 := c_ishl d' 24 24 (by decide)
  generalize b' <<< ((8 : Int32) &&& 31) = b2 at *
  generalize c' <<< ((16 : Int32) &&& 31) = c2 at *
  generalize d' <<< ((24 : Int32) &&& 31) = d2 at *
  have r2 := rng32 b2
  have r3 := rng32 c2
  have r4 := rng32 d2
  have o1 := c_or' a' b2 8 (by decide) 256 (by decide) (by omega) (by omega) (by omega)
  have p1 := rng32 (a' ||| b2)
  generalize a' ||| b2 = x at *
  have o2 := c_or' x c2 16 (by decide) 65536 (by decide) (by omega) (by omega) (by omega)
  have p2 := rng32 (x ||| c2)
  generalize x ||| c2 = y at *
  have o3 := c_or' y d2 24 (by decide) 16777216 (by decide) (by omega) (by omega) (by omega)
  generalize y ||| d2 = z at *
  omega
theorem own_core (n a b c d : Int32) (hn : 0 ≤ n.toInt) :
    own_F1 n = own_F3 n ∧ ((own_F2 a b c d) &&& (own_F1 n)) = own_F2 (if n < 1 then 0 else a) (if n < 2 then 0 else b) (if n < 3 then 0 else c) (if n < 4 then 0 else d) := by
  have k1 := own_key a b c d
  have e0 : (0 : Int32).toInt % 256 = 0 := by decide
  by_cases h4 : n < 4
  · have hr : n.toInt < 4 := Int32.lt_iff_toInt_lt.mp h4
    have hc : n = 0 ∨ n = 1 ∨ n = 2 ∨ n = 3 := by
      simp only [← Int32.toInt_inj, show (0 : Int32).toInt = 0 from rfl, show (1 : Int32).toInt = 1 from rfl, show (2 : Int32).toInt = 2 from rfl, show (3 : Int32).toInt = 3 from rfl]
      omega
    rcases hc with rfl | rfl | rfl | rfl
    · refine ⟨by decide, ?_⟩
      have k2 := own_key 0 0 0 0
      have m := c_mask (own_F2 a b c d) 0 0 (by decide) (by decide)
      rw [show own_F1 0 = 0 from by decide, if_pos (by decide), if_pos (by decide), if_pos (by decide), if_pos (by decide), ← Int32.toInt_inj]
      have r := rng32 (own_F2 0 0 0 0)
      rw [e0] at k2
      omega
    · refine ⟨by decide, ?_⟩
      have k2 := own_key a 0 0 0
      have m := c_mask (own_F2 a b c d) 255 8 (by decide) (by decide)
      rw [show own_F1 1 = 255 from by decide, if_neg (by decide), if_pos (by decide), if_pos (by decide), if_pos (by decide), ← Int32.toInt_inj]
      have r := rng32 (own_F2 a 0 0 0)
      rw [e0] at k2
      omega
    · refine ⟨by decide, ?_⟩
      have k2 := own_key a b 0 0
      have m := c_mask (own_F2 a b c d) 65535 16 (by decide) (by decide)
      rw [show own_F1 2 = 65535 from by decide, if_neg (by decide), if_neg (by decide), if_pos (by decide), if_pos (by decide), ← Int32.toInt_inj]
      have r := rng32 (own_F2 a b 0 0)
      rw [e0] at k2
      omega
    · refine ⟨by decide, ?_⟩
      have k2 := own_key a b c 0
      have m := c_mask (own_F2 a b c d) 16777215 24 (by decide) (by decide)
      rw [show own_F1 3 = 16777215 from by decide, if_neg (by decide), if_neg (by decide), if_neg (by decide), if_pos (by decide), ← Int32.toInt_inj]
      have r := rng32 (own_F2 a b c 0)
      rw [e0] at k2
      omega
  · have hr : ¬ n.toInt < 4 := fun q => h4 (Int32.lt_iff_toInt_lt.mpr q)
    have g : ∀ k : Int32, k.toInt ≤ 4 → ¬ n < k := fun k hk => by rw [Int32.lt_iff_toInt_lt]; omega
    have e1 : own_F1 n = -1 := by rw [own_F1, if_neg h4]
    have ne : ∀ k : Int32, k.toInt < 4 → ¬ n = k := fun k hk q => by subst q; omega
    have e3 : own_F3 n = -1 := by rw [own_F3, if_neg (ne 0 (by decide)), if_neg (ne 1 (by decide)), if_neg (ne 2 (by decide)), if_neg (ne 3 (by decide))]
    rw [e1, e3, if_neg (g 1 (by decide)), if_neg (g 2 (by decide)), if_neg (g 3 (by decide)), if_neg h4]
    exact ⟨rfl, Int32.and_neg_one⟩
theorem own_law (p0 p1 p2 p3 p4 p5 : Int32) : own_F0 p0 p1 p2 p3 p4 p5 = 1 := by
  simp only [own_F0]
  have hn : 0 ≤ (if (p0 &&& (1 : Int32)) = (0 : Int32) then (p1 &&& (2147483647 : Int32)) else (((p0.toUInt32 >>> ((1 : Int32) &&& 31).toUInt32).toInt32) &&& (7 : Int32))).toInt := by
    split
    · exact (c_and p1 2147483647 (by decide)).1
    · exact (c_and _ 7 (by decide)).1
  generalize (if (p0 &&& (1 : Int32)) = (0 : Int32) then (p1 &&& (2147483647 : Int32)) else (((p0.toUInt32 >>> ((1 : Int32) &&& 31).toUInt32).toInt32) &&& (7 : Int32))) = n at *
  obtain ⟨h1, h2⟩ := own_core n p2 p3 p4 p5 hn
  rw [if_pos h1, if_pos h2]
set_option maxRecDepth 65536 in
set_option maxHeartbeats 40000000 in
theorem comes_1 {Post : Tables → Env → Array Value → State → Outcome → State → Prop} (hpost : ∀ tb e args s v u, (limb_1_1.after args s (.returned v) u = true ∧ limb_1_2.after args s (.returned v) u = true) → FrameEnd s (.returned v) u (Jvm.fieldLocs frame_1_writes args s ++ Jvm.arrayLocs frame_1_arrays args s ++ Jvm.staticLocs frame_1_statics s) 0 0 → Post tb e args s (.returned v) u) :
    ArmFor flags0 classFile x code maxLocals ret World_1 tables_1 room_1 Calls_1 rest_1 Pre_1 Post := by
  intro l hfl _ _ p e ha hc hk s m args below hf hA hF happ hP
  obtain ⟨hcalls, hrest, hpre⟩ := hP
  obtain ⟨-, -, -, hnamed, -, -, -, hat⟩ := (Spec.applies_iff hf).mp happ
  obtain ⟨hg, hn⟩ := and_e (Cond.before_iff.mp (show (Jvm.Cond.and given_1 narrow_1).before args s = true from hpre))
  obtain ⟨g1, g2⟩ := and_e hg
  obtain ⟨g3, g4⟩ := and_e g2
  obtain ⟨g5, g6⟩ := and_e g4
  obtain ⟨g7, g8⟩ := and_e g6
  obtain ⟨g9, g10⟩ := and_e g8
  obtain ⟨g11, g12⟩ := and_e g10
  obtain ⟨w0, w1, w2, w3, w4, w5, rfl⟩ : ∃ w0 w1 w2 w3 w4 w5 : Value, args = #[w0, w1, w2, w3, w4, w5] := by
    have hs : args.size = 6 := by simpa [Cond.value, given_1] using g1
    obtain ⟨L⟩ := args
    match L, hs with
    | [w0, w1, w2, w3, w4, w5], _ => exact ⟨w0, w1, w2, w3, w4, w5, rfl⟩
  have hw := fun d (hd : d ∈ tables_1) => atoms_spec (ws := Jvm.Cond.code x code maxLocals ret :: tables_1) hat d (List.mem_cons_of_mem _ hd)
  obtain ⟨i0, ei0⟩ := is_v g3
  obtain rfl : w0 = (.int i0) := Option.some.inj ei0
  obtain ⟨i1, ei1⟩ := is_v g5
  obtain rfl : w1 = (.int i1) := Option.some.inj ei1
  obtain ⟨i2, ei2⟩ := is_v g7
  obtain rfl : w2 = (.int i2) := Option.some.inj ei2
  obtain ⟨i3, ei3⟩ := is_v g9
  obtain rfl : w3 = (.int i3) := Option.some.inj ei3
  obtain ⟨i4, ei4⟩ := is_v g11
  obtain rfl : w4 = (.int i4) := Option.some.inj ei4
  obtain ⟨i5, ei5⟩ := is_v g12
  obtain rfl : w5 = (.int i5) := Option.some.inj ei5
  obtain ⟨n, o, h1, h2, h3, _, L, rfl, ⟨rfl, rfl, -⟩, hq⟩ := own_rm0 l s _ hw tables_1 i0 i1 i2 i3 i4 i5 s.heap p e ha hc hk s m _ below hf ((Spec.applies_iff_loose hf).mp happ).1 ⟨rfl, State.Warmed39.refl s, rfl⟩ trivial
  rw [own_law i0 i1 i2 i3 i4 i5] at hq h3
  refine ⟨n, _, h1, h2, h3, hpost _ _ _ _ _ _ ⟨Cond.after_iff.mpr rfl, Cond.after_iff.mpr (eq_i res_at (Term.int_eval (1)) rfl)⟩ ⟨hq.1, hq.2.1, (hq.2.2.sift fun y hy => by cases hy).mono (by decide) (by decide)⟩⟩
theorem main_1_1 : Claimed_1_1 := comes_1 fun _ _ _ _ _ _ h hF => ⟨h.1, hF⟩
theorem main_1_2 : Claimed_1_2 := comes_1 fun _ _ _ _ _ _ h hF => ⟨h.2, hF⟩
end Jvm.Pilot.@@N@@
namespace Jvm.Pilot.@@N@@
open Jvm Jvm.ClassFile Sem Op Lib Jvm.Free Jvm.Stand Jvm.Pilot.@@N@@.Jvm.D
/-! MADE BY PROGRAM (witnessworld.py) out of the Statement's table words and the real class files: 9 classes; the members and pool entries that the words name. The judged class is class 1, her method 2. -/
namespace start1
open Jvm.ClassFile
def u (s : String) : CpInfo := .utf8 (stringToUtf16 s)
/-- a pool by its gaps: so many unusable entries, then the entry; so many at the end -/
def gap : Nat → List CpInfo → List CpInfo
  | 0, r => r
  | n + 1, r => .unusable :: gap n r
def poolList (es : List (Nat × CpInfo)) (last : Nat) : List CpInfo := es.foldr (fun e r => gap e.1 (e.2 :: r)) (gap last [])
def pool (es : List (Nat × CpInfo)) (last : Nat) : Array CpInfo := ⟨poolList es last⟩
def fileOf (pool : Array CpInfo) (this : Nat) (attrs : Array Attribute := #[]) (ms : Array MethodInfo := #[]) (fl : Nat := 33) (sup : Nat := 0) (ifs : Array Nat := #[]) (fds : Array FieldInfo := #[]) : ClassFile where
  minorVersion := 0
  majorVersion := 65
  constantPool := pool
  accessFlags := fl
  thisClass := this
  superClass := sup
  interfaces := ifs
  fields := fds
  methods := ms
  attributes := attrs
def plain (name : String) (sup : Option ClassId) : Class where
  name := name
  kind := .ordinary
  loader := none
  accessFlags := 33
  super := sup
  interfaces := #[]
  cf := none
  fields := #[]
  methods := #[]
  instanceTypes := #[]
  staticTypes := #[]
  resolved := #[]
  callSites := []
  init := .initialized
  statics := none
  mirror := none

def pool0 : Array CpInfo := pool [(5, u "<init>"), (0, u "()V"), (1, .class_ 10), (1, u "java/lang/Object")] 113

def k0m0 : Method := { name := "<init>", desc := "()V", sig := { parameters := [], returnType := none }, accessFlags := 1, code := none }
/-- java/lang/Object -/
def k0 : Class := { plain "java/lang/Object" none with
  accessFlags := 33
  interfaces := #[]
  cf := some (fileOf pool0 8 #[] #[{ accessFlags := 1, nameIndex := 5, descriptorIndex := 6, attributes := #[] }] 33 0 #[] #[])
  fields := #[]
  methods := #[k0m0]
  instanceTypes := #[]
  staticTypes := #[]
  resolved := Array.replicate 124 none
  statics := none }

def pool1 : Array CpInfo := pool [(2, .class_ 4), (1, u "java/lang/Object"), (0, u "<init>"), (0, u "()V"), (0, .integer 65535), (0, .integer 16777215), (0, .integer 2147483647), (0, .methodref 11 12), (0, .class_ 13), (0, .nameAndType 14 15), (0, u "com/example/skipstitch/skipstitch/GramTable"), (0, u "maskOf"), (0, u "(I)I"), (0, .methodref 11 17), (0, .nameAndType 18 19), (0, u "key"), (0, u "(IIII)I"), (0, .methodref 21 22), (0, .class_ 23), (0, .nameAndType 24 15), (0, u "com/example/skipstitch/skipstitch/GramTableMaskOfPinLaw"), (0, u "expectedMask"), (3, u "law"), (0, u "(IIIIII)Z")] 2

def k1m0 : Method := { name := "<init>", desc := "()V", sig := { parameters := [], returnType := none }, accessFlags := 1, code := none }
def k1c1 : Code := { maxStack := 2, maxLocals := 1, code := method_2_code, exceptionTable := #[], attributes := #[] }
def k1m1 : Method := { name := "expectedMask", desc := "(I)I", sig := { parameters := [.int], returnType := some .int }, accessFlags := 10, code := some k1c1 }
def k1c2 : Code := { maxStack := 5, maxLocals := 10, code := code, exceptionTable := #[], attributes := #[] }
def k1m2 : Method := { name := "law", desc := "(IIIIII)Z", sig := { parameters := [.int, .int, .int, .int, .int, .int], returnType := some .boolean }, accessFlags := 9, code := some k1c2 }
/-- com/example/skipstitch/skipstitch/GramTableMaskOfPinLaw -/
def k1 : Class := { plain "com/example/skipstitch/skipstitch/GramTableMaskOfPinLaw" (some 0) with
  accessFlags := 49
  interfaces := #[]
  cf := some (fileOf pool1 21 #[] #[{ accessFlags := 1, nameIndex := 5, descriptorIndex := 6, attributes := #[] }, { accessFlags := 10, nameIndex := 24, descriptorIndex := 15, attributes := #[] }, { accessFlags := 9, nameIndex := 28, descriptorIndex := 29, attributes := #[] }] 49 2 #[] #[])
  fields := #[]
  methods := #[k1m0, k1m1, k1m2]
  instanceTypes := #[]
  staticTypes := #[]
  resolved := Array.replicate 32 none
  statics := none }

def pool2 : Array CpInfo := pool [(4, .class_ 6), (1, u "java/lang/Object"), (3, .class_ 12), (1, u "com/example/skipstitch/skipstitch/GramTable"), (0, u "stride"), (0, u "I"), (2, u "shift"), (2, u "held"), (0, u "[J"), (2, u "offsets"), (11, u "(I)I"), (5, u "key"), (0, u "(IIII)I"), (6, u "GRAM"), (2, u "MAX_STRIDE"), (1, u "MIN_STRIDE"), (1, u "HELD_BITS_PER_OFFSET"), (1, u "ENTRIES_PER_OFFSET"), (0, u "HASH"), (10, u "maskOf")] 7

def k2c0 : Code := { maxStack := 3, maxLocals := 4, code := prog_5_method_3_code, exceptionTable := #[], attributes := #[] }
def k2m0 : Method := { name := "key", desc := "(IIII)I", sig := { parameters := [.int, .int, .int, .int], returnType := some .int }, accessFlags := 8, code := some k2c0 }
def k2c1 : Code := { maxStack := 3, maxLocals := 1, code := prog_5_method_5_code, exceptionTable := #[], attributes := #[] }
def k2m1 : Method := { name := "maskOf", desc := "(I)I", sig := { parameters := [.int], returnType := some .int }, accessFlags := 8, code := some k2c1 }
/-- com/example/skipstitch/skipstitch/GramTable -/
def k2 : Class := { plain "com/example/skipstitch/skipstitch/GramTable" (some 0) with
  accessFlags := 48
  interfaces := #[]
  cf := some (fileOf pool2 10 #[] #[{ accessFlags := 8, nameIndex := 42, descriptorIndex := 43, attributes := #[] }, { accessFlags := 8, nameIndex := 71, descriptorIndex := 36, attributes := #[] }] 48 4 #[] #[{ accessFlags := 24, nameIndex := 50, descriptorIndex := 14, attributes := #[] }, { accessFlags := 24, nameIndex := 53, descriptorIndex := 14, attributes := #[] }, { accessFlags := 26, nameIndex := 55, descriptorIndex := 14, attributes := #[] }, { accessFlags := 26, nameIndex := 57, descriptorIndex := 14, attributes := #[] }, { accessFlags := 26, nameIndex := 59, descriptorIndex := 14, attributes := #[] }, { accessFlags := 26, nameIndex := 60, descriptorIndex := 14, attributes := #[] }, { accessFlags := 18, nameIndex := 13, descriptorIndex := 14, attributes := #[] }, { accessFlags := 18, nameIndex := 17, descriptorIndex := 14, attributes := #[] }, { accessFlags := 18, nameIndex := 20, descriptorIndex := 21, attributes := #[] }, { accessFlags := 18, nameIndex := 24, descriptorIndex := 21, attributes := #[] }])
  fields := #[{ name := "GRAM", type := .int, accessFlags := 24, slot := 0, constantValue := 0 }, { name := "MAX_STRIDE", type := .int, accessFlags := 24, slot := 1, constantValue := 0 }, { name := "MIN_STRIDE", type := .int, accessFlags := 26, slot := 2, constantValue := 0 }, { name := "HELD_BITS_PER_OFFSET", type := .int, accessFlags := 26, slot := 3, constantValue := 0 }, { name := "ENTRIES_PER_OFFSET", type := .int, accessFlags := 26, slot := 4, constantValue := 0 }, { name := "HASH", type := .int, accessFlags := 26, slot := 5, constantValue := 0 }, { name := "stride", type := .int, accessFlags := 18, slot := 0, constantValue := 0 }, { name := "shift", type := .int, accessFlags := 18, slot := 1, constantValue := 0 }, { name := "held", type := (.array .long), accessFlags := 18, slot := 2, constantValue := 0 }, { name := "offsets", type := (.array .long), accessFlags := 18, slot := 3, constantValue := 0 }]
  methods := #[k2m0, k2m1]
  instanceTypes := #[.int, .int, (.array .long), (.array .long)]
  staticTypes := #[.int, .int, .int, .int, .int, .int]
  resolved := Array.replicate 79 none
  statics := none }

def pool3 : Array CpInfo := pool [(1, u "java/lang/Cloneable"), (0, .class_ 1), (0, u "java/lang/Object"), (0, .class_ 3)] 3

/-- java/lang/Cloneable -/
def k3 : Class := { plain "java/lang/Cloneable" (some 0) with
  accessFlags := 1537
  interfaces := #[]
  cf := some (fileOf pool3 2 #[] #[] 1537 4 #[] #[])
  fields := #[]
  methods := #[]
  instanceTypes := #[]
  staticTypes := #[]
  resolved := Array.replicate 8 none
  statics := none }

def pool4 : Array CpInfo := pool [(1, u "java/io/Serializable"), (0, .class_ 1), (0, u "java/lang/Object"), (0, .class_ 3)] 3

/-- java/io/Serializable -/
def k4 : Class := { plain "java/io/Serializable" (some 0) with
  accessFlags := 1537
  interfaces := #[]
  cf := some (fileOf pool4 2 #[] #[] 1537 4 #[] #[])
  fields := #[]
  methods := #[]
  instanceTypes := #[]
  staticTypes := #[]
  resolved := Array.replicate 8 none
  statics := none }

/-- the primitive byte -/
def k5 : Class := { plain "byte" none with kind := .primitive 'B', accessFlags := 0x411 }
/-- [B -/
def k6 : Class := { plain "[B" (some 0) with kind := .array 5 .byte, interfaces := #[3, 4], accessFlags := 1041 }

/-- the primitive int -/
def k7 : Class := { plain "int" none with kind := .primitive 'I', accessFlags := 0x411 }
/-- [I -/
def k8 : Class := { plain "[I" (some 0) with kind := .array 7 .int, interfaces := #[3, 4], accessFlags := 1041 }

def heap : Heap := #[]
def classes : Array Class := #[k0, k1, k2, k3, k4, k5, k6, k7, k8]
def interned : List (Array UInt16 × Addr) := []
def slotsUsed : Nat := 0
def theMethod : MethodId := ⟨1, 2⟩
def args0 : Array Value := #[.int 5, .int 300, .int 7, .int 2, .int 5, .int 300]
def aboutOver (below : List Frame) : State where
  vm := { classes := classes, interned := interned.toArray }
  heap := heap
  slotsUsed := slotsUsed
  threads := #[{ frames := .invoking theMethod args0 :: below }]
def below0 : List Frame := [.native { method := ⟨0, 0⟩, args := #[] }]
def about1 : State := aboutOver below0
def p0 : Program := .bare "" "" ""
def e0 : Env := launch0.env 0 0 0
theorem w_frames : about1.frames = Frame.invoking theMethod args0 :: below0 := rfl
set_option maxRecDepth 65536 in
theorem w_args : argsFit about1.vm theMethod args0 = true := by decide +kernel
set_option maxRecDepth 65536 in
theorem w_heap : heapFits about1 = true := by decide +kernel
set_option maxRecDepth 65536 in
theorem w_runnable : about1.curStatus? = some .runnable := by decide +kernel
set_option maxRecDepth 65536 in
theorem w_alone : about1.alone = true := by decide +kernel
set_option maxRecDepth 65536 in
theorem w_named : about1.methodNamed? x = some theMethod := by decide +kernel
set_option maxRecDepth 65536 in
theorem w_hears : about1.hears theMethod below0 = true := by decide +kernel
set_option maxRecDepth 65536 in
theorem w_ripe : about1.ripe theMethod args0 below0 = true := by decide +kernel
theorem w_running : about1.status = .running := rfl
set_option maxRecDepth 65536 in
theorem w_room : about1.hasRoom e0.platform room_1 = true :=
  launch0.hasRoom_least _ room_1 (by decide +kernel) (by decide +kernel) (by decide +kernel) (by decide +kernel) (by decide +kernel) (by decide +kernel)
theorem allAtoms_all (ts : List Jvm.Cond) (a : Array Jvm.Value) (st : Jvm.State) : (allAtoms ts).before a st = ts.all (fun c => c.before a st) := by
  induction ts with
  | nil => rfl
  | cons c t ih =>
    show (Jvm.Cond.and c (allAtoms t)).before a st = _
    rw [Jvm.Cond.before_and, ih, List.all_cons]
def words1 : List Jvm.Cond := Jvm.Cond.code x code maxLocals ret :: tables_1
/-- a 'code' word, met by the world's own term for the bytes: nothing is compared byte by byte -/
theorem code_word {y : MethodName} {bytes : ByteArray} {mx : Nat} {rt : Option FieldType} {a : Array Value} {s : State} {m : MethodId} {meth : Method} {c : Code} (h1 : s.methodNamed? y = some m) (h2 : s.vm.method? m = some meth) (h3 : meth.code = some c) (h4 : c.code = bytes)
    (h5 : (c.maxLocals == mx && c.exceptionTable.isEmpty && decide (c.maxStack ≤ mostOperands) && decide (meth.sig.returnType = rt) && !meth.locks && decide (parseMethodDescriptor y.desc = some meth.sig)) = true) : (Jvm.Cond.code y bytes mx rt).before a s = true := by
  simp only [Bool.and_eq_true, beq_iff_eq, Bool.not_eq_true', decide_eq_true_eq] at h5
  obtain ⟨⟨⟨⟨⟨g1, g2⟩, g3⟩, g4⟩, g5⟩, g6⟩ := h5
  simp [Cond.before, Cond.holds, Cond.value, h1, h2, h3, h4, g1, g2, g3, g4, g5, g6]
def isCode : Jvm.Cond → Bool
  | .code _ _ _ _ => true
  | _ => false
theorem all_split {L : List Jvm.Cond} {P : Jvm.Cond → Bool} (h1 : L.all (fun c => isCode c || P c) = true) (h2 : ∀ c ∈ L.filter isCode, P c = true) : L.all P = true := by
  refine List.all_eq_true.mpr fun c hc => ?_
  have h := List.all_eq_true.mp h1 c hc
  rcases Bool.eq_false_or_eq_true (isCode c) with hi | hi
  · exact h2 c (List.mem_filter.mpr ⟨hc, hi⟩)
  · simpa [hi] using h
set_option maxRecDepth 65536 in
theorem w_c0 : (Jvm.Cond.code x code maxLocals ret).before args0 about1 = true := code_word (m := ⟨1, 2⟩) (meth := k1m2) (c := k1c2) (by decide +kernel) rfl rfl rfl (by decide +kernel)
set_option maxRecDepth 65536 in
theorem w_c1 : (Jvm.Cond.code ({ cls := "com/example/skipstitch/skipstitch/GramTable", name := "maskOf", desc := "(I)I" } : Jvm.MethodName) prog_5_method_5_code (1 : Nat) (Option.some Jvm.ClassFile.FieldType.int)).before args0 about1 = true := code_word (m := ⟨2, 1⟩) (meth := k2m1) (c := k2c1) (by decide +kernel) rfl rfl rfl (by decide +kernel)
set_option maxRecDepth 65536 in
theorem w_c2 : (Jvm.Cond.code ({ cls := "com/example/skipstitch/skipstitch/GramTable", name := "key", desc := "(IIII)I" } : Jvm.MethodName) prog_5_method_3_code (4 : Nat) (Option.some Jvm.ClassFile.FieldType.int)).before args0 about1 = true := code_word (m := ⟨2, 0⟩) (meth := k2m0) (c := k2c0) (by decide +kernel) rfl rfl rfl (by decide +kernel)
set_option maxRecDepth 65536 in
theorem w_c3 : (Jvm.Cond.code ({ cls := "com/example/skipstitch/skipstitch/GramTableMaskOfPinLaw", name := "expectedMask", desc := "(I)I" } : Jvm.MethodName) method_2_code (1 : Nat) (Option.some Jvm.ClassFile.FieldType.int)).before args0 about1 = true := code_word (m := ⟨1, 1⟩) (meth := k1m1) (c := k1c1) (by decide +kernel) rfl rfl rfl (by decide +kernel)
def codes1 : List Jvm.Cond := [Jvm.Cond.code x code maxLocals ret, Jvm.Cond.code ({ cls := "com/example/skipstitch/skipstitch/GramTable", name := "maskOf", desc := "(I)I" } : Jvm.MethodName) prog_5_method_5_code (1 : Nat) (Option.some Jvm.ClassFile.FieldType.int), Jvm.Cond.code ({ cls := "com/example/skipstitch/skipstitch/GramTable", name := "key", desc := "(IIII)I" } : Jvm.MethodName) prog_5_method_3_code (4 : Nat) (Option.some Jvm.ClassFile.FieldType.int), Jvm.Cond.code ({ cls := "com/example/skipstitch/skipstitch/GramTableMaskOfPinLaw", name := "expectedMask", desc := "(I)I" } : Jvm.MethodName) method_2_code (1 : Nat) (Option.some Jvm.ClassFile.FieldType.int)]
set_option maxRecDepth 65536 in
theorem codes_eq : words1.filter isCode = codes1 := rfl
theorem w_codes : ∀ c ∈ words1.filter isCode, c.before args0 about1 = true := by
  rw [codes_eq]
  intro c hc
  simp only [codes1, List.mem_cons, List.not_mem_nil, or_false] at hc
  rcases hc with rfl | rfl | rfl | rfl
  · exact w_c0
  · exact w_c1
  · exact w_c2
  · exact w_c3
set_option maxRecDepth 65536 in
theorem w_t1 : words1.all (fun c => isCode c || c.before args0 about1) = true := by decide +kernel
theorem w_tables : (allAtoms (Jvm.Cond.code x code maxLocals ret :: tables_1)).before args0 about1 = true := by
  rw [allAtoms_all]
  show words1.all (fun c => c.before args0 about1) = true
  refine all_split ?_ w_codes
  rw [w_t1]
set_option maxRecDepth 65536 in
theorem w_case : (Jvm.Cond.and given_1 narrow_1).before args0 about1 = true := by decide +kernel
theorem w_applies : (headSpec (Jvm.Cond.code x code maxLocals ret :: tables_1) room_1).applies x e0.platform about1 = true :=
  (Spec.applies_iff w_frames).mpr ⟨w_running, w_runnable, w_alone, w_named, w_hears, w_ripe, w_room, w_tables⟩
theorem atStart : AtStart classFile x code maxLocals ret World_1 tables_1 room_1 Calls_1 rest_1 Pre_1 launch0 p0 e0 about1 theMethod args0 below0 :=
  ⟨lists_1, trivial, launch0.admits_env _ _ _, launch0.least_env, fairChoices_fair.cas, fairChoices_fair.clock, w_frames, w_args, w_heap, w_applies, trivial, trivial, w_case⟩
end start1
theorem witness_1 : WitnessClaimed_1 := ⟨start1.p0, start1.e0, start1.about1, start1.theMethod, start1.args0, start1.below0, start1.atStart⟩
end Jvm.Pilot.@@N@@
