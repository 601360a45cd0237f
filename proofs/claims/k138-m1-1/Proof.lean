import JvmDerived
import JvmDerived.Pilot.@@N@@Statement
import JvmDerived.Pilot.@@N@@Code
set_option linter.unusedVariables false
set_option linter.unusedSimpArgs false
set_option maxRecDepth 65536
set_option maxHeartbeats 20000000
namespace Jvm.Pilot.@@N@@
open Jvm Jvm.ClassFile Sem Op Lib Jvm.Free Jvm.Stand Jvm.LawKit Jvm.RoadKit Bundle Jvm.Pilot.@@N@@.Jvm.D
section OwnKit
variable {p : Program} {l : Launch} {e : Env} {R : Room} {s : State} {m : MethodId} {args : Array Value} {below : List Frame} {meth : Method} {c : Code} {T : State} {locs : List Loc} {cells slots : Nat} {Z : State} {a0 : Array Value} {h0 : Heap}
/-- from this state the run comes to the end of the invocation, and there P holds -/
def own_G (p : Program) (e : Env) (below : List Frame) (P : Outcome → State → Prop) (st : State) : Prop :=
  ∃ (u : State) (o : Outcome), Steps p.tables e below st u ∧ u.status = .running ∧ Ended u below o ∧ P o u
theorem own_via {P : Outcome → State → Prop} {st st' : State} (k : ∀ t, Steps p.tables e below st' t → Steps p.tables e below st t) (h : own_G p e below P st') : own_G p e below P st := by
  obtain ⟨u, o, h1, h2⟩ := h
  exact ⟨u, o, k _ h1, h2⟩
/-- what a contract says of the end -/
def own_P (s : State) (Q : Option Value → Heap → List Loc → Prop) (k n : Nat) : Outcome → State → Prop := fun o u => ∃ v L, o = .returned v ∧ Q v u.heap L ∧ FrameEnd s o u L k n
/-- it returns w and leaves the heap as it was -/
def own_Q (w : Value) (h0 : Heap) : Option Value → Heap → List Loc → Prop := fun v h L => v = some w ∧ L = [] ∧ h = h0
/-- a contract -/
def own_C (l : Launch) (Z : State) (y : MethodName) (bytes : ByteArray) (maxL : Nat) (ret : Option FieldType) (ws : List Jvm.Cond) (rm : Room) (as : Array Value) (h0 : Heap) (Q : Option Value → Heap → List Loc → Prop) : Prop :=
  MetFree l y (head1 (Jvm.Cond.code y bytes maxL ret :: ws) rm) (fun a U => a = as ∧ Z.Warmed39 U.vm ∧ U.heap = h0) (fun _ _ _ _ _ => True) (fun _ U o U' => ∃ v L, o = .returned v ∧ Q v U'.heap L ∧ FrameEnd U o U' L rm.cells rm.slots)
theorem own_ret {v : Option Value} {Q : Option Value → Heap → List Loc → Prop} {k n : Nat} {st : State} (X : Stand p l e R s m args below meth c T locs cells slots) (hv : meth.sig.returnType = none → v = none) (hlocks : meth.locks = false)
    (hst : ∀ fs, (∀ (f : JFrame) (acts : List Action), f.method = m → f.locked = none → f.entered = [] → (doReturn e (T.setTop f) acts v).1 = T.setFrames fs) → Steps p.tables e below st (T.setFrames fs))
    (hQ : Q v T.heap locs) (hk : cells ≤ k) (hn : slots ≤ n) : own_G p e below (own_P s Q k n) st := by
  obtain ⟨fs, hr, hrun, hended, hW, hsame⟩ := X.leave (v := v) hv hlocks
  exact ⟨_, _, hst fs hr, hrun, hended, _, _, rfl, hQ, ⟨_, rfl⟩, hW, hsame.mono hk hn⟩
theorem own_retI {Q : Option Value → Heap → List Loc → Prop} {k n : Nat} (X : Stand p l e R s m args below meth c T locs cells slots) (hx : p.tables.exec = Jvm.exec) {pc : Nat} {Ls : Array Slot} {z : Int32} {rest : List Value} (hret : meth.sig.returnType = some .int) (hlocks : meth.locks = false) (hd : decode c.code pc = .ok (.ireturn, 1))
    (hQ : Q (some (.int z)) T.heap locs) (hk : cells ≤ k) (hn : slots ≤ n) : own_G p e below (own_P s Q k n) (T.setTop (mkF m pc Ls (.int z :: rest))) := by
  refine own_ret X (fun h => by rw [hret] at h; cases h) hlocks (fun fs hr => ?_) hQ hk hn
  have hm' : T.vm.method? m = some meth := X.method'
  have hn : narrow .int (.int z) = .int z := rfl
  show Steps p.tables e below (T.setTop { method := m, pc := pc, locals := Ls, stack := _ :: rest, locked := none }) _
  jvm_step X.here [X.here.top, hx, hd, hm', hret, hn]
  first | (intro acts; rw [hr _ acts rfl rfl rfl]) | rw [hr _ _ rfl rfl rfl]
  exact Steps.refl _
theorem own_retN {Q : Option Value → Heap → List Loc → Prop} {k n : Nat} {t : FieldType} (X : Stand p l e R s m args below meth c T locs cells slots) (hx : p.tables.exec = Jvm.exec) {pc : Nat} {Ls : Array Slot} {z : Int32} {rest : List Value} (hret : meth.sig.returnType = some t) (ht : t = .boolean ∨ t = .byte ∨ t = .char ∨ t = .short) (hlocks : meth.locks = false) (hd : decode c.code pc = .ok (.ireturn, 1))
    (hQ : Q (some (.int (nar t z))) T.heap locs) (hk : cells ≤ k) (hn : slots ≤ n) : own_G p e below (own_P s Q k n) (T.setTop (mkF m pc Ls (.int z :: rest))) :=
  own_ret X (fun h => by rw [hret] at h; cases h) hlocks (fun fs hr => retN X hx hret ht hd hr) hQ hk hn
theorem own_retL {Q : Option Value → Heap → List Loc → Prop} {k n : Nat} (X : Stand p l e R s m args below meth c T locs cells slots) (hx : p.tables.exec = Jvm.exec) {pc : Nat} {Ls : Array Slot} {z : Int64} (hret : meth.sig.returnType = some .long) (hlocks : meth.locks = false) (hd : decode c.code pc = .ok (.lreturn, 1))
    (hQ : Q (some (.long z)) T.heap locs) (hk : cells ≤ k) (hn : slots ≤ n) : own_G p e below (own_P s Q k n) (T.setTop (mkF m pc Ls [.long z])) :=
  own_ret X (fun h => by rw [hret] at h; cases h) hlocks (fun fs hr => X.lreturnOut hx hret hd hr) hQ hk hn
theorem own_retV {Q : Option Value → Heap → List Loc → Prop} {k n : Nat} (X : Stand p l e R s m args below meth c T locs cells slots) (hx : p.tables.exec = Jvm.exec) {pc : Nat} {Ls : Array Slot} (hret : meth.sig.returnType = none) (hlocks : meth.locks = false) (hd : decode c.code pc = .ok (.return_, 1))
    (hQ : Q none T.heap locs) (hk : cells ≤ k) (hn : slots ≤ n) : own_G p e below (own_P s Q k n) (T.setTop (mkF m pc Ls [])) :=
  own_ret X (fun _ => rfl) hlocks (fun fs hr => X.returnOut hx hret hd hr) hQ hk hn
theorem own_retA {Q : Option Value → Heap → List Loc → Prop} {k n : Nat} {t : FieldType} {v : Value} (X : Stand p l e R s m args below meth c T locs cells slots) (hx : p.tables.exec = Jvm.exec) {pc : Nat} {Ls : Array Slot} {rest : List Value} (hret : meth.sig.returnType = some t) (ht : t.isReference = true) (hv : v.isRef = true) (hlocks : meth.locks = false) (hd : decode c.code pc = .ok (.areturn, 1))
    (hQ : Q (some v) T.heap locs) (hk : cells ≤ k) (hn : slots ≤ n) : own_G p e below (own_P s Q k n) (T.setTop (mkF m pc Ls (v :: rest))) := by
  refine own_ret X (fun h => by rw [hret] at h; cases h) hlocks (fun fs hr => ?_) hQ hk hn
  have hm' : T.vm.method? m = some meth := X.method'
  show Steps p.tables e below (T.setTop { method := m, pc := pc, locals := Ls, stack := _ :: rest, locked := none }) _
  jvm_step X.here [X.here.top, hx, hd, hm', hret, ht, hv]
  first | (intro acts; rw [hr _ acts rfl rfl rfl]) | rw [hr _ _ rfl rfl rfl]
  exact Steps.refl _
/-- a static method by its contract -/
theorem own_callS {own : String} {index : Nat} {y : MethodName} {bytes : ByteArray} {maxL W : Nat} {ret : Option FieldType} {rm : Room} {as : Array Value} {Q : Option Value → Heap → List Loc → Prop}
    (X : Stand p l e R s m args below meth c T locs cells slots) (hx : p.tables.exec = Jvm.exec) (hZ : Z.Warmed39 s.vm) (hown : s.vm.findClass own = some m.cls)
    (w1 : (Jvm.Cond.methodLink own index y).before a0 Z = true) (w2 : (Jvm.Cond.static y).before a0 Z = true) (w3 : (Jvm.Cond.initialized y.cls).before a0 Z = true) (w4 : (Jvm.Cond.code y bytes maxL ret).before a0 Z = true)
    (hy : y.cls ≠ "java/lang/invoke/MethodHandle" ∧ y.cls ≠ "java/lang/invoke/VarHandle") (hM : own_C l Z y bytes maxL ret [] rm as h0 Q)
    (hf : rm.frames + 1 ≤ R.frames) (hl : W + (maxL + 11) + rm.locals ≤ R.locals) (hcc : cells + rm.cells ≤ R.cells) (hss : slots + rm.slots ≤ R.slots) (e0 : T.heap = h0)
    {pc : Nat} {Ls : Array Slot} {st argsL rest : List Value} (hsize : Ls.size = c.maxLocals) (hlen : ∀ sig, parseMethodDescriptor y.desc = some sig → argsL.length = sig.parameters.length) (has : argsL.toArray = as)
    (hst : st = argsL.reverse ++ rest) (hW : 2 * 0 + (rest.map fun v => v.category).sum ≤ W) (hd : decode c.code pc = .ok (.invokestatic index, 3)) :
    ∃ (v : Option Value) (T' : State) (L : List Loc), Stand p l e R s m args below meth c T' (locs ++ L) (cells + rm.cells) (slots + rm.slots) ∧ Q v T'.heap L ∧
      ∀ target, Steps p.tables e below (T'.setTop (mkF m (pc + 3) Ls (v.toList ++ rest))) target → Steps p.tables e below (T.setTop (mkF m pc Ls st)) target := by
  obtain ⟨v, _, ⟨T', L', k', n'⟩, -, X', ⟨Lc, hQ, h1, h2, h3⟩, stp⟩ := Jvm.LawKit.callS X hx (y := y) hown (mvT hZ w1) (mvT hZ w2) (mvT hZ w3) (mvT hZ w4) hy
    (backOf (W := W) hM hZ w4 w3 hf hl) (g := mkF m pc Ls st) rfl hsize (argsL := argsL) (rest := rest) hlen hst hW hd (fun _ _ => ⟨has, e0, hcc, hss⟩)
  dsimp only [Pt.U, Pt.locs, Pt.cells, Pt.slots] at X' h1 h2 h3 stp hQ
  subst h1 h2 h3
  exact ⟨v, T', Lc, X', hQ, stp⟩
/-- a static method that leaves the heap as it was -/
theorem own_callP {own : String} {index : Nat} {y : MethodName} {bytes : ByteArray} {maxL W : Nat} {ret : Option FieldType} {rm : Room} {as : Array Value} {w : Value}
    (X : Stand p l e R s m args below meth c T locs cells slots) (hx : p.tables.exec = Jvm.exec) (hZ : Z.Warmed39 s.vm) (hown : s.vm.findClass own = some m.cls)
    (w1 : (Jvm.Cond.methodLink own index y).before a0 Z = true) (w2 : (Jvm.Cond.static y).before a0 Z = true) (w3 : (Jvm.Cond.initialized y.cls).before a0 Z = true) (w4 : (Jvm.Cond.code y bytes maxL ret).before a0 Z = true)
    (hy : y.cls ≠ "java/lang/invoke/MethodHandle" ∧ y.cls ≠ "java/lang/invoke/VarHandle") (hM : own_C l Z y bytes maxL ret [] rm as h0 (own_Q w h0))
    (hf : rm.frames + 1 ≤ R.frames) (hl : W + (maxL + 11) + rm.locals ≤ R.locals) (hrc : rm.cells = 0) (hrs : rm.slots = 0) (hcc : cells + rm.cells ≤ R.cells) (hss : slots + rm.slots ≤ R.slots) (e0 : T.heap = h0)
    {pc : Nat} {Ls : Array Slot} {st argsL rest : List Value} (hsize : Ls.size = c.maxLocals) (hlen : ∀ sig, parseMethodDescriptor y.desc = some sig → argsL.length = sig.parameters.length) (has : argsL.toArray = as)
    (hst : st = argsL.reverse ++ rest) (hW : 2 * 0 + (rest.map fun v => v.category).sum ≤ W) (hd : decode c.code pc = .ok (.invokestatic index, 3)) :
    ∃ (T' : State), Stand p l e R s m args below meth c T' locs cells slots ∧ T'.heap = h0 ∧
      ∀ target, Steps p.tables e below (T'.setTop (mkF m (pc + 3) Ls (w :: rest))) target → Steps p.tables e below (T.setTop (mkF m pc Ls st)) target := by
  obtain ⟨v, T', L, X', ⟨rfl, rfl, hh⟩, stp⟩ := own_callS X hx hZ hown w1 w2 w3 w4 hy hM hf hl hcc hss e0 hsize hlen has hst hW hd
  rw [List.append_nil, hrc, hrs] at X'
  exact ⟨T', X', hh, stp⟩
theorem own_b1 {x a : Int32} (h : x < a) : x.toInt ≤ a.toInt - 1 := by rw [Int32.lt_iff_toInt_lt] at h; omega
theorem own_b2 {x a : Int32} (h : ¬ x < a) : a.toInt ≤ x.toInt := by rw [Int32.lt_iff_toInt_lt] at h; omega
theorem own_b3 {x a : Int32} (h : a < x) : a.toInt + 1 ≤ x.toInt := by rw [Int32.lt_iff_toInt_lt] at h; omega
theorem own_b4 {x a : Int32} (h : ¬ a < x) : x.toInt ≤ a.toInt := by rw [Int32.lt_iff_toInt_lt] at h; omega
theorem own_b5 {x b : Int32} {k : Int} (h : x.toInt ≤ k) (q : k < b.toInt) : x < b := by rw [Int32.lt_iff_toInt_lt]; omega
theorem own_b6 {x b : Int32} {k : Int} (h : k ≤ x.toInt) (q : b.toInt ≤ k) : ¬ x < b := by rw [Int32.lt_iff_toInt_lt]; omega
theorem own_b7 {x b : Int32} {k : Int} (h : k ≤ x.toInt) (q : b.toInt < k) : b < x := by rw [Int32.lt_iff_toInt_lt]; omega
theorem own_b8 {x b : Int32} {k : Int} (h : x.toInt ≤ k) (q : k ≤ b.toInt) : ¬ b < x := by rw [Int32.lt_iff_toInt_lt]; omega
theorem own_b9 {x b : Int32} {k : Int} (h : x.toInt ≤ k) (q : k < b.toInt) : ¬ x = b := fun e => by subst e; omega
theorem own_b10 {x b : Int32} {k : Int} (h : k ≤ x.toInt) (q : b.toInt < k) : ¬ x = b := fun e => by subst e; omega
theorem own_of_eq {x a : Int32} {P : Int32 → Prop} (h : x = a) (q : P a) : P x := h ▸ q
end OwnKit
theorem own_pd0 : parseMethodDescriptor "(IZ)C" = some ⟨[.int, .boolean], some .char⟩ := by decide +kernel
theorem own_pd1 : parseMethodDescriptor "(CI)I" = some ⟨[.char, .int], some .int⟩ := by decide +kernel
theorem own_radix (p : Int32) {v : Int32} (h : ((2 : Int32) + ((p &&& (2147483647 : Int32)) - ((p &&& (2147483647 : Int32)) / (15 : Int32)) * (15 : Int32))) = v) : 2 ≤ v.toInt ∧ v.toInt ≤ 16 := by
  subst h
  have h1 := c_mask p 2147483647 31 (by decide) (by decide)
  generalize (p &&& (2147483647 : Int32)) = x at *
  have h2 := (c_idiv x 15 15 rfl (by decide)).1
  have h3 := c_imul (x / 15) 15
  have h4 := c_isub x (x / 15 * 15)
  have h5 := c_iadd 2 (x - x / 15 * 15)
  have h6 := rng32 (x / 15 * 15)
  have h7 := rng32 (x - x / 15 * 15)
  have h8 := rng32 ((2 : Int32) + (x - x / 15 * 15))
  rw [show (15 : Int32).toInt = 15 from rfl] at h3
  rw [show (2 : Int32).toInt = 2 from rfl] at h5
  omega
theorem own_nz (p : Int32) {v : Int32} (h : ((2 : Int32) + ((p &&& (2147483647 : Int32)) - ((p &&& (2147483647 : Int32)) / (15 : Int32)) * (15 : Int32))) = v) : v ≠ 0 := by
  intro q
  have := (own_radix p h).1
  rw [q] at this
  exact absurd this (by decide)
theorem own_d1_0 : decode method_3_code 0 = .ok (.iload_n 0, 1) := by decide +kernel
theorem own_d1_1 : decode method_3_code 1 = .ok (.bipush 10, 2) := by decide +kernel
theorem own_d1_3 : decode method_3_code 3 = .ok (.if_icmp .ge 9, 3) := by decide +kernel
theorem own_d1_6 : decode method_3_code 6 = .ok (.bipush 48, 2) := by decide +kernel
theorem own_d1_8 : decode method_3_code 8 = .ok (.iload_n 0, 1) := by decide +kernel
theorem own_d1_9 : decode method_3_code 9 = .ok (.iadd, 1) := by decide +kernel
theorem own_d1_10 : decode method_3_code 10 = .ok (.i2c, 1) := by decide +kernel
theorem own_d1_11 : decode method_3_code 11 = .ok (.ireturn, 1) := by decide +kernel
theorem own_d1_12 : decode method_3_code 12 = .ok (.iload_n 1, 1) := by decide +kernel
theorem own_d1_13 : decode method_3_code 13 = .ok (.ifCond .eq 8, 3) := by decide +kernel
theorem own_d1_16 : decode method_3_code 16 = .ok (.bipush 65, 2) := by decide +kernel
theorem own_d1_18 : decode method_3_code 18 = .ok (.goto 5, 3) := by decide +kernel
theorem own_d1_21 : decode method_3_code 21 = .ok (.bipush 97, 2) := by decide +kernel
theorem own_d1_23 : decode method_3_code 23 = .ok (.istore_n 2, 1) := by decide +kernel
theorem own_d1_24 : decode method_3_code 24 = .ok (.iload_n 2, 1) := by decide +kernel
theorem own_d1_25 : decode method_3_code 25 = .ok (.iload_n 0, 1) := by decide +kernel
theorem own_d1_26 : decode method_3_code 26 = .ok (.bipush 10, 2) := by decide +kernel
theorem own_d1_28 : decode method_3_code 28 = .ok (.isub, 1) := by decide +kernel
theorem own_d1_29 : decode method_3_code 29 = .ok (.iadd, 1) := by decide +kernel
theorem own_d1_30 : decode method_3_code 30 = .ok (.i2c, 1) := by decide +kernel
theorem own_d1_31 : decode method_3_code 31 = .ok (.ireturn, 1) := by decide +kernel
abbrev own_R1 : Room := { frames := 0, cells := 0, slots := 0, locals := 0 }
theorem own_pn1 : plainFor (⟨"com/example/fields_in_tables/fieldsintables/NumberReaderDigitValuePinLaw", "digitChar", "(IZ)C"⟩ : MethodName) = true := plainFor_of_name (by first | (simp [plainName, overriddenIn]; done) | decide +kernel)
theorem own_ef1 (m : MethodId) (p0 : Int32) (p1 : Int32) : entryFrame m #[(.int p0), (.int p1)] 3 = mkF m 0 #[.val (.int p0), .val (.int p1), .unset] [] := by first | (simp [entryFrame, mkF, argsToLocals, Value.category]; done) | rfl
def own_F1 (p0 : Int32) (p1 : Int32) : Int32 := (if p0 < (10 : Int32) then (nar .char (((48 : Int32) + p0).toUInt32.toUInt16.toUInt32.toInt32)) else (let zj3 : Int32 := (if p1 = (0 : Int32) then (97 : Int32) else (65 : Int32)); (nar .char ((zj3 + (p0 - (10 : Int32))).toUInt32.toUInt16.toUInt32.toInt32))))
set_option maxRecDepth 65536 in
set_option maxHeartbeats 40000000 in
theorem own_rm1 (l : Launch) (Z : State) (a0 : Array Value) (hw : ∀ d ∈ tables_1, d.before a0 Z = true) (ws : List Jvm.Cond) (p0 : Int32) (p1 : Int32) (h0 : Heap) :
    own_C l Z (⟨"com/example/fields_in_tables/fieldsintables/NumberReaderDigitValuePinLaw", "digitChar", "(IZ)C"⟩ : MethodName) method_3_code 3 (some .char) ws own_R1 #[(.int p0), (.int p1)] h0 (own_Q (.int (own_F1 p0 p1)) h0) := by
  refine MetFree.of_bodySF own_pn1 hisR ?_
  intro p e s m args below meth c s₁ Bd hml0 hP hK
  obtain ⟨rfl, hZ, hh⟩ := hP
  have hx := Bd.exec
  have hby := Bd.bytes
  have hml : c.maxLocals = 3 := hml0
  have hown : s.vm.findClass "com/example/fields_in_tables/fieldsintables/NumberReaderDigitValuePinLaw" = some m.cls := findClass_of_methodNamed Bd.named
  have X0 : Stand p l e own_R1 s m #[(.int p0), (.int p1)] below meth c s₁ [] 0 0 := Stand.of_body Bd
  have e0 : s₁.heap = h0 := by rw [← hh, Bd.state]; rfl
  show own_G p e below (own_P s (own_Q (.int (own_F1 p0 p1)) h0) own_R1.cells own_R1.slots) (s₁.setTop (entryFrame m #[(.int p0), (.int p1)] 3))
  rw [own_ef1 m p0 p1]
  show own_G p e below _ (s₁.setTop (mkF m 0 #[.val (.int p0), .val (.int p1), .unset] []))
  refine own_via (fun t k => XS.iloadN X0.here hx rfl (hb hby own_d1_0) rfl k) ?_
  show own_G p e below _ (s₁.setTop (mkF m 1 #[.val (.int p0), .val (.int p1), .unset] [(.int p0)]))
  refine own_via (fun t k => XS.bipush X0.here hx rfl (hb hby own_d1_1) k) ?_
  show own_G p e below _ (s₁.setTop (mkF m 3 #[.val (.int p0), .val (.int p1), .unset] [(.int (10 : Int32)), (.int p0)]))
  by_cases hc1 : p0 < (10 : Int32)
  ·
    refine own_via (fun t k => XS.icmpNo X0.here hx rfl (hb hby own_d1_3) rfl (tlt hc1).2.1 k) ?_
    show own_G p e below _ (s₁.setTop (mkF m 6 #[.val (.int p0), .val (.int p1), .unset] []))
    refine own_via (fun t k => XS.bipush X0.here hx rfl (hb hby own_d1_6) k) ?_
    show own_G p e below _ (s₁.setTop (mkF m 8 #[.val (.int p0), .val (.int p1), .unset] [(.int (48 : Int32))]))
    refine own_via (fun t k => XS.iloadN X0.here hx rfl (hb hby own_d1_8) rfl k) ?_
    show own_G p e below _ (s₁.setTop (mkF m 9 #[.val (.int p0), .val (.int p1), .unset] [(.int p0), (.int (48 : Int32))]))
    refine own_via (fun t k => XS.iadd X0.here hx rfl (hb hby own_d1_9) rfl k) ?_
    show own_G p e below _ (s₁.setTop (mkF m 10 #[.val (.int p0), .val (.int p1), .unset] [(.int ((48 : Int32) + p0))]))
    refine own_via (fun t k => XS.i2c X0.here hx rfl (hb hby own_d1_10) rfl k) ?_
    show own_G p e below _ (s₁.setTop (mkF m 11 #[.val (.int p0), .val (.int p1), .unset] [(.int (((48 : Int32) + p0).toUInt32.toUInt16.toUInt32.toInt32))]))
    exact own_retN (t := .char) X0 hx Bd.returns (by simp) Bd.notSynchronized (hb hby own_d1_11) ⟨by show (some (.int (nar .char (((48 : Int32) + p0).toUInt32.toUInt16.toUInt32.toInt32))) : Option Value) = some (.int (own_F1 p0 p1)); simp only [own_F1, if_pos hc1], rfl, e0⟩ (by decide) (by decide)
  ·
    refine own_via (fun t k => XS.icmpYes X0.here hx rfl (pc0 := 3) (pc' := 12) rfl (hb hby own_d1_3) rfl (flt hc1).2.1 (by decide) (by decide) k) ?_
    show own_G p e below _ (s₁.setTop (mkF m 12 #[.val (.int p0), .val (.int p1), .unset] []))
    refine own_via (fun t k => XS.iloadN X0.here hx rfl (hb hby own_d1_12) rfl k) ?_
    show own_G p e below _ (s₁.setTop (mkF m 13 #[.val (.int p0), .val (.int p1), .unset] [(.int p1)]))
    have J2 : ∀ (TJ2 : State) (XJ2 : Stand p l e own_R1 s m #[(.int p0), (.int p1)] below meth c TJ2 [] 0 0) (EJ2 : TJ2.heap = h0) (zj3 : Int32), zj3 = (if p1 = (0 : Int32) then (97 : Int32) else (65 : Int32)) → own_G p e below (own_P s (own_Q (.int (own_F1 p0 p1)) h0) 0 0) (TJ2.setTop (mkF m 23 #[.val (.int p0), .val (.int p1), .unset] [(.int zj3)])) := by
      intro TJ2 XJ2 EJ2 zj3 hzj3
      refine own_via (fun t k => XS.istoreN XJ2.here hx rfl (hb hby own_d1_23) rfl (l' := #[.val (.int p0), .val (.int p1), .val (.int zj3)]) rfl k) ?_
      show own_G p e below _ (TJ2.setTop (mkF m 24 #[.val (.int p0), .val (.int p1), .val (.int zj3)] []))
      refine own_via (fun t k => XS.iloadN XJ2.here hx rfl (hb hby own_d1_24) rfl k) ?_
      show own_G p e below _ (TJ2.setTop (mkF m 25 #[.val (.int p0), .val (.int p1), .val (.int zj3)] [(.int zj3)]))
      refine own_via (fun t k => XS.iloadN XJ2.here hx rfl (hb hby own_d1_25) rfl k) ?_
      show own_G p e below _ (TJ2.setTop (mkF m 26 #[.val (.int p0), .val (.int p1), .val (.int zj3)] [(.int p0), (.int zj3)]))
      refine own_via (fun t k => XS.bipush XJ2.here hx rfl (hb hby own_d1_26) k) ?_
      show own_G p e below _ (TJ2.setTop (mkF m 28 #[.val (.int p0), .val (.int p1), .val (.int zj3)] [(.int (10 : Int32)), (.int p0), (.int zj3)]))
      refine own_via (fun t k => XS.isub XJ2.here hx rfl (hb hby own_d1_28) rfl k) ?_
      show own_G p e below _ (TJ2.setTop (mkF m 29 #[.val (.int p0), .val (.int p1), .val (.int zj3)] [(.int (p0 - (10 : Int32))), (.int zj3)]))
      refine own_via (fun t k => XS.iadd XJ2.here hx rfl (hb hby own_d1_29) rfl k) ?_
      show own_G p e below _ (TJ2.setTop (mkF m 30 #[.val (.int p0), .val (.int p1), .val (.int zj3)] [(.int (zj3 + (p0 - (10 : Int32))))]))
      refine own_via (fun t k => XS.i2c XJ2.here hx rfl (hb hby own_d1_30) rfl k) ?_
      show own_G p e below _ (TJ2.setTop (mkF m 31 #[.val (.int p0), .val (.int p1), .val (.int zj3)] [(.int ((zj3 + (p0 - (10 : Int32))).toUInt32.toUInt16.toUInt32.toInt32))]))
      exact own_retN (t := .char) XJ2 hx Bd.returns (by simp) Bd.notSynchronized (hb hby own_d1_31) ⟨by show (some (.int (nar .char ((zj3 + (p0 - (10 : Int32))).toUInt32.toUInt16.toUInt32.toInt32))) : Option Value) = some (.int (own_F1 p0 p1)); subst hzj3; simp only [own_F1, if_neg hc1], rfl, EJ2⟩ (by decide) (by decide)
    by_cases hc4 : p1 = (0 : Int32)
    ·
      refine own_via (fun t k => XS.ifYes X0.here hx rfl (pc0 := 13) (pc' := 21) rfl (hb hby own_d1_13) rfl ((if0 _ _).trans (teq hc4).1) (by decide) (by decide) k) ?_
      show own_G p e below _ (s₁.setTop (mkF m 21 #[.val (.int p0), .val (.int p1), .unset] []))
      refine own_via (fun t k => XS.bipush X0.here hx rfl (hb hby own_d1_21) k) ?_
      show own_G p e below _ (s₁.setTop (mkF m 23 #[.val (.int p0), .val (.int p1), .unset] [(.int (97 : Int32))]))
      exact J2 _ X0 e0 _ (by simp only [if_pos hc4])
    ·
      refine own_via (fun t k => XS.ifNo X0.here hx rfl (hb hby own_d1_13) rfl ((if0 _ _).trans (feq hc4).1) k) ?_
      show own_G p e below _ (s₁.setTop (mkF m 16 #[.val (.int p0), .val (.int p1), .unset] []))
      refine own_via (fun t k => XS.bipush X0.here hx rfl (hb hby own_d1_16) k) ?_
      show own_G p e below _ (s₁.setTop (mkF m 18 #[.val (.int p0), .val (.int p1), .unset] [(.int (65 : Int32))]))
      refine own_via (fun t k => XS.goto X0.here hx rfl (pc0 := 18) (pc' := 23) rfl (hb hby own_d1_18) (by decide) (by decide) k) ?_
      show own_G p e below _ (s₁.setTop (mkF m 23 #[.val (.int p0), .val (.int p1), .unset] [(.int (65 : Int32))]))
      exact J2 _ X0 e0 _ (by simp only [if_neg hc4])
theorem own_d2_0 : decode prog_23_method_4_code 0 = .ok (.iload_n 0, 1) := by decide +kernel
theorem own_d2_1 : decode prog_23_method_4_code 1 = .ok (.bipush 48, 2) := by decide +kernel
theorem own_d2_3 : decode prog_23_method_4_code 3 = .ok (.if_icmp .lt 17, 3) := by decide +kernel
theorem own_d2_6 : decode prog_23_method_4_code 6 = .ok (.iload_n 0, 1) := by decide +kernel
theorem own_d2_7 : decode prog_23_method_4_code 7 = .ok (.bipush 57, 2) := by decide +kernel
theorem own_d2_9 : decode prog_23_method_4_code 9 = .ok (.if_icmp .gt 11, 3) := by decide +kernel
theorem own_d2_12 : decode prog_23_method_4_code 12 = .ok (.iload_n 0, 1) := by decide +kernel
theorem own_d2_13 : decode prog_23_method_4_code 13 = .ok (.bipush 48, 2) := by decide +kernel
theorem own_d2_15 : decode prog_23_method_4_code 15 = .ok (.isub, 1) := by decide +kernel
theorem own_d2_16 : decode prog_23_method_4_code 16 = .ok (.istore_n 2, 1) := by decide +kernel
theorem own_d2_17 : decode prog_23_method_4_code 17 = .ok (.goto 51, 3) := by decide +kernel
theorem own_d2_20 : decode prog_23_method_4_code 20 = .ok (.iload_n 0, 1) := by decide +kernel
theorem own_d2_21 : decode prog_23_method_4_code 21 = .ok (.bipush 97, 2) := by decide +kernel
theorem own_d2_23 : decode prog_23_method_4_code 23 = .ok (.if_icmp .lt 20, 3) := by decide +kernel
theorem own_d2_26 : decode prog_23_method_4_code 26 = .ok (.iload_n 0, 1) := by decide +kernel
theorem own_d2_27 : decode prog_23_method_4_code 27 = .ok (.bipush 122, 2) := by decide +kernel
theorem own_d2_29 : decode prog_23_method_4_code 29 = .ok (.if_icmp .gt 14, 3) := by decide +kernel
theorem own_d2_32 : decode prog_23_method_4_code 32 = .ok (.iload_n 0, 1) := by decide +kernel
theorem own_d2_33 : decode prog_23_method_4_code 33 = .ok (.bipush 97, 2) := by decide +kernel
theorem own_d2_35 : decode prog_23_method_4_code 35 = .ok (.isub, 1) := by decide +kernel
theorem own_d2_36 : decode prog_23_method_4_code 36 = .ok (.bipush 10, 2) := by decide +kernel
theorem own_d2_38 : decode prog_23_method_4_code 38 = .ok (.iadd, 1) := by decide +kernel
theorem own_d2_39 : decode prog_23_method_4_code 39 = .ok (.istore_n 2, 1) := by decide +kernel
theorem own_d2_40 : decode prog_23_method_4_code 40 = .ok (.goto 28, 3) := by decide +kernel
theorem own_d2_43 : decode prog_23_method_4_code 43 = .ok (.iload_n 0, 1) := by decide +kernel
theorem own_d2_44 : decode prog_23_method_4_code 44 = .ok (.bipush 65, 2) := by decide +kernel
theorem own_d2_46 : decode prog_23_method_4_code 46 = .ok (.if_icmp .lt 20, 3) := by decide +kernel
theorem own_d2_49 : decode prog_23_method_4_code 49 = .ok (.iload_n 0, 1) := by decide +kernel
theorem own_d2_50 : decode prog_23_method_4_code 50 = .ok (.bipush 90, 2) := by decide +kernel
theorem own_d2_52 : decode prog_23_method_4_code 52 = .ok (.if_icmp .gt 14, 3) := by decide +kernel
theorem own_d2_55 : decode prog_23_method_4_code 55 = .ok (.iload_n 0, 1) := by decide +kernel
theorem own_d2_56 : decode prog_23_method_4_code 56 = .ok (.bipush 65, 2) := by decide +kernel
theorem own_d2_58 : decode prog_23_method_4_code 58 = .ok (.isub, 1) := by decide +kernel
theorem own_d2_59 : decode prog_23_method_4_code 59 = .ok (.bipush 10, 2) := by decide +kernel
theorem own_d2_61 : decode prog_23_method_4_code 61 = .ok (.iadd, 1) := by decide +kernel
theorem own_d2_62 : decode prog_23_method_4_code 62 = .ok (.istore_n 2, 1) := by decide +kernel
theorem own_d2_63 : decode prog_23_method_4_code 63 = .ok (.goto 5, 3) := by decide +kernel
theorem own_d2_66 : decode prog_23_method_4_code 66 = .ok (.iconst (-1), 1) := by decide +kernel
theorem own_d2_67 : decode prog_23_method_4_code 67 = .ok (.istore_n 2, 1) := by decide +kernel
theorem own_d2_68 : decode prog_23_method_4_code 68 = .ok (.iload_n 2, 1) := by decide +kernel
theorem own_d2_69 : decode prog_23_method_4_code 69 = .ok (.iload_n 1, 1) := by decide +kernel
theorem own_d2_70 : decode prog_23_method_4_code 70 = .ok (.if_icmp .ge 7, 3) := by decide +kernel
theorem own_d2_73 : decode prog_23_method_4_code 73 = .ok (.iload_n 2, 1) := by decide +kernel
theorem own_d2_74 : decode prog_23_method_4_code 74 = .ok (.goto 4, 3) := by decide +kernel
theorem own_d2_77 : decode prog_23_method_4_code 77 = .ok (.iconst (-1), 1) := by decide +kernel
theorem own_d2_78 : decode prog_23_method_4_code 78 = .ok (.ireturn, 1) := by decide +kernel
abbrev own_R2 : Room := { frames := 0, cells := 0, slots := 0, locals := 0 }
theorem own_pn2 : plainFor (⟨"com/example/fields_in_tables/fieldsintables/NumberReader", "digitValue", "(CI)I"⟩ : MethodName) = true := plainFor_of_name (by first | (simp [plainName, overriddenIn]; done) | decide +kernel)
theorem own_ef2 (m : MethodId) (p0 : Int32) (p1 : Int32) : entryFrame m #[(.int p0), (.int p1)] 3 = mkF m 0 #[.val (.int p0), .val (.int p1), .unset] [] := by first | (simp [entryFrame, mkF, argsToLocals, Value.category]; done) | rfl
def own_F2 (p0 : Int32) (p1 : Int32) : Int32 := (let zj2 : Int32 := (if p0 < (48 : Int32) then (-1 : Int32) else (if (57 : Int32) < p0 then (if p0 < (97 : Int32) then (if p0 < (65 : Int32) then (-1 : Int32) else (if (90 : Int32) < p0 then (-1 : Int32) else ((p0 - (65 : Int32)) + (10 : Int32)))) else (if (122 : Int32) < p0 then (-1 : Int32) else ((p0 - (97 : Int32)) + (10 : Int32)))) else (p0 - (48 : Int32)))); (if zj2 < p1 then zj2 else (-1 : Int32)))
set_option maxRecDepth 65536 in
set_option maxHeartbeats 40000000 in
theorem own_rm2 (l : Launch) (Z : State) (a0 : Array Value) (hw : ∀ d ∈ tables_1, d.before a0 Z = true) (ws : List Jvm.Cond) (p0 : Int32) (p1 : Int32) (h0 : Heap) :
    own_C l Z (⟨"com/example/fields_in_tables/fieldsintables/NumberReader", "digitValue", "(CI)I"⟩ : MethodName) prog_23_method_4_code 3 (some .int) ws own_R2 #[(.int p0), (.int p1)] h0 (own_Q (.int (own_F2 p0 p1)) h0) := by
  refine MetFree.of_bodySF own_pn2 hisR ?_
  intro p e s m args below meth c s₁ Bd hml0 hP hK
  obtain ⟨rfl, hZ, hh⟩ := hP
  have hx := Bd.exec
  have hby := Bd.bytes
  have hml : c.maxLocals = 3 := hml0
  have hown : s.vm.findClass "com/example/fields_in_tables/fieldsintables/NumberReader" = some m.cls := findClass_of_methodNamed Bd.named
  have X0 : Stand p l e own_R2 s m #[(.int p0), (.int p1)] below meth c s₁ [] 0 0 := Stand.of_body Bd
  have e0 : s₁.heap = h0 := by rw [← hh, Bd.state]; rfl
  show own_G p e below (own_P s (own_Q (.int (own_F2 p0 p1)) h0) own_R2.cells own_R2.slots) (s₁.setTop (entryFrame m #[(.int p0), (.int p1)] 3))
  rw [own_ef2 m p0 p1]
  show own_G p e below _ (s₁.setTop (mkF m 0 #[.val (.int p0), .val (.int p1), .unset] []))
  refine own_via (fun t k => XS.iloadN X0.here hx rfl (hb hby own_d2_0) rfl k) ?_
  show own_G p e below _ (s₁.setTop (mkF m 1 #[.val (.int p0), .val (.int p1), .unset] [(.int p0)]))
  refine own_via (fun t k => XS.bipush X0.here hx rfl (hb hby own_d2_1) k) ?_
  show own_G p e below _ (s₁.setTop (mkF m 3 #[.val (.int p0), .val (.int p1), .unset] [(.int (48 : Int32)), (.int p0)]))
  have J1 : ∀ (TJ1 : State) (XJ1 : Stand p l e own_R2 s m #[(.int p0), (.int p1)] below meth c TJ1 [] 0 0) (EJ1 : TJ1.heap = h0) (zj2 : Int32), zj2 = (if p0 < (48 : Int32) then (-1 : Int32) else (if (57 : Int32) < p0 then (if p0 < (97 : Int32) then (if p0 < (65 : Int32) then (-1 : Int32) else (if (90 : Int32) < p0 then (-1 : Int32) else ((p0 - (65 : Int32)) + (10 : Int32)))) else (if (122 : Int32) < p0 then (-1 : Int32) else ((p0 - (97 : Int32)) + (10 : Int32)))) else (p0 - (48 : Int32)))) → own_G p e below (own_P s (own_Q (.int (own_F2 p0 p1)) h0) 0 0) (TJ1.setTop (mkF m 68 #[.val (.int p0), .val (.int p1), .val (.int zj2)] [])) := by
    intro TJ1 XJ1 EJ1 zj2 hzj2
    refine own_via (fun t k => XS.iloadN XJ1.here hx rfl (hb hby own_d2_68) rfl k) ?_
    show own_G p e below _ (TJ1.setTop (mkF m 69 #[.val (.int p0), .val (.int p1), .val (.int zj2)] [(.int zj2)]))
    refine own_via (fun t k => XS.iloadN XJ1.here hx rfl (hb hby own_d2_69) rfl k) ?_
    show own_G p e below _ (TJ1.setTop (mkF m 70 #[.val (.int p0), .val (.int p1), .val (.int zj2)] [(.int p1), (.int zj2)]))
    by_cases hc3 : zj2 < p1
    ·
      refine own_via (fun t k => XS.icmpNo XJ1.here hx rfl (hb hby own_d2_70) rfl (tlt hc3).2.1 k) ?_
      show own_G p e below _ (TJ1.setTop (mkF m 73 #[.val (.int p0), .val (.int p1), .val (.int zj2)] []))
      refine own_via (fun t k => XS.iloadN XJ1.here hx rfl (hb hby own_d2_73) rfl k) ?_
      show own_G p e below _ (TJ1.setTop (mkF m 74 #[.val (.int p0), .val (.int p1), .val (.int zj2)] [(.int zj2)]))
      refine own_via (fun t k => XS.goto XJ1.here hx rfl (pc0 := 74) (pc' := 78) rfl (hb hby own_d2_74) (by decide) (by decide) k) ?_
      show own_G p e below _ (TJ1.setTop (mkF m 78 #[.val (.int p0), .val (.int p1), .val (.int zj2)] [(.int zj2)]))
      exact own_retI XJ1 hx Bd.returns Bd.notSynchronized (hb hby own_d2_78) ⟨by show (some (.int zj2) : Option Value) = some (.int (own_F2 p0 p1)); subst hzj2; simp only [own_F2, if_pos hc3], rfl, EJ1⟩ (by decide) (by decide)
    ·
      refine own_via (fun t k => XS.icmpYes XJ1.here hx rfl (pc0 := 70) (pc' := 77) rfl (hb hby own_d2_70) rfl (flt hc3).2.1 (by decide) (by decide) k) ?_
      show own_G p e below _ (TJ1.setTop (mkF m 77 #[.val (.int p0), .val (.int p1), .val (.int zj2)] []))
      refine own_via (fun t k => XS.iconst XJ1.here hx rfl (hb hby own_d2_77) k) ?_
      show own_G p e below _ (TJ1.setTop (mkF m 78 #[.val (.int p0), .val (.int p1), .val (.int zj2)] [(.int (-1 : Int32))]))
      exact own_retI XJ1 hx Bd.returns Bd.notSynchronized (hb hby own_d2_78) ⟨by show (some (.int (-1 : Int32)) : Option Value) = some (.int (own_F2 p0 p1)); subst hzj2; simp only [own_F2, if_neg hc3], rfl, EJ1⟩ (by decide) (by decide)
  by_cases hc4 : p0 < (48 : Int32)
  ·
    refine own_via (fun t k => XS.icmpYes X0.here hx rfl (pc0 := 3) (pc' := 20) rfl (hb hby own_d2_3) rfl (tlt hc4).1 (by decide) (by decide) k) ?_
    show own_G p e below _ (s₁.setTop (mkF m 20 #[.val (.int p0), .val (.int p1), .unset] []))
    refine own_via (fun t k => XS.iloadN X0.here hx rfl (hb hby own_d2_20) rfl k) ?_
    show own_G p e below _ (s₁.setTop (mkF m 21 #[.val (.int p0), .val (.int p1), .unset] [(.int p0)]))
    refine own_via (fun t k => XS.bipush X0.here hx rfl (hb hby own_d2_21) k) ?_
    show own_G p e below _ (s₁.setTop (mkF m 23 #[.val (.int p0), .val (.int p1), .unset] [(.int (97 : Int32)), (.int p0)]))
    refine own_via (fun t k => XS.icmpYes X0.here hx rfl (pc0 := 23) (pc' := 43) rfl (hb hby own_d2_23) rfl (tlt (own_b5 (own_b1 hc4) (by decide))).1 (by decide) (by decide) k) ?_
    show own_G p e below _ (s₁.setTop (mkF m 43 #[.val (.int p0), .val (.int p1), .unset] []))
    refine own_via (fun t k => XS.iloadN X0.here hx rfl (hb hby own_d2_43) rfl k) ?_
    show own_G p e below _ (s₁.setTop (mkF m 44 #[.val (.int p0), .val (.int p1), .unset] [(.int p0)]))
    refine own_via (fun t k => XS.bipush X0.here hx rfl (hb hby own_d2_44) k) ?_
    show own_G p e below _ (s₁.setTop (mkF m 46 #[.val (.int p0), .val (.int p1), .unset] [(.int (65 : Int32)), (.int p0)]))
    refine own_via (fun t k => XS.icmpYes X0.here hx rfl (pc0 := 46) (pc' := 66) rfl (hb hby own_d2_46) rfl (tlt (own_b5 (own_b1 hc4) (by decide))).1 (by decide) (by decide) k) ?_
    show own_G p e below _ (s₁.setTop (mkF m 66 #[.val (.int p0), .val (.int p1), .unset] []))
    refine own_via (fun t k => XS.iconst X0.here hx rfl (hb hby own_d2_66) k) ?_
    show own_G p e below _ (s₁.setTop (mkF m 67 #[.val (.int p0), .val (.int p1), .unset] [(.int (-1 : Int32))]))
    refine own_via (fun t k => XS.istoreN X0.here hx rfl (hb hby own_d2_67) rfl (l' := #[.val (.int p0), .val (.int p1), .val (.int (-1 : Int32))]) rfl k) ?_
    show own_G p e below _ (s₁.setTop (mkF m 68 #[.val (.int p0), .val (.int p1), .val (.int (-1 : Int32))] []))
    exact J1 _ X0 e0 _ (by simp only [if_pos hc4])
  ·
    refine own_via (fun t k => XS.icmpNo X0.here hx rfl (hb hby own_d2_3) rfl (flt hc4).1 k) ?_
    show own_G p e below _ (s₁.setTop (mkF m 6 #[.val (.int p0), .val (.int p1), .unset] []))
    refine own_via (fun t k => XS.iloadN X0.here hx rfl (hb hby own_d2_6) rfl k) ?_
    show own_G p e below _ (s₁.setTop (mkF m 7 #[.val (.int p0), .val (.int p1), .unset] [(.int p0)]))
    refine own_via (fun t k => XS.bipush X0.here hx rfl (hb hby own_d2_7) k) ?_
    show own_G p e below _ (s₁.setTop (mkF m 9 #[.val (.int p0), .val (.int p1), .unset] [(.int (57 : Int32)), (.int p0)]))
    by_cases hc5 : (57 : Int32) < p0
    ·
      refine own_via (fun t k => XS.icmpYes X0.here hx rfl (pc0 := 9) (pc' := 20) rfl (hb hby own_d2_9) rfl (tlt hc5).2.2.1 (by decide) (by decide) k) ?_
      show own_G p e below _ (s₁.setTop (mkF m 20 #[.val (.int p0), .val (.int p1), .unset] []))
      refine own_via (fun t k => XS.iloadN X0.here hx rfl (hb hby own_d2_20) rfl k) ?_
      show own_G p e below _ (s₁.setTop (mkF m 21 #[.val (.int p0), .val (.int p1), .unset] [(.int p0)]))
      refine own_via (fun t k => XS.bipush X0.here hx rfl (hb hby own_d2_21) k) ?_
      show own_G p e below _ (s₁.setTop (mkF m 23 #[.val (.int p0), .val (.int p1), .unset] [(.int (97 : Int32)), (.int p0)]))
      by_cases hc6 : p0 < (97 : Int32)
      ·
        refine own_via (fun t k => XS.icmpYes X0.here hx rfl (pc0 := 23) (pc' := 43) rfl (hb hby own_d2_23) rfl (tlt hc6).1 (by decide) (by decide) k) ?_
        show own_G p e below _ (s₁.setTop (mkF m 43 #[.val (.int p0), .val (.int p1), .unset] []))
        refine own_via (fun t k => XS.iloadN X0.here hx rfl (hb hby own_d2_43) rfl k) ?_
        show own_G p e below _ (s₁.setTop (mkF m 44 #[.val (.int p0), .val (.int p1), .unset] [(.int p0)]))
        refine own_via (fun t k => XS.bipush X0.here hx rfl (hb hby own_d2_44) k) ?_
        show own_G p e below _ (s₁.setTop (mkF m 46 #[.val (.int p0), .val (.int p1), .unset] [(.int (65 : Int32)), (.int p0)]))
        by_cases hc7 : p0 < (65 : Int32)
        ·
          refine own_via (fun t k => XS.icmpYes X0.here hx rfl (pc0 := 46) (pc' := 66) rfl (hb hby own_d2_46) rfl (tlt hc7).1 (by decide) (by decide) k) ?_
          show own_G p e below _ (s₁.setTop (mkF m 66 #[.val (.int p0), .val (.int p1), .unset] []))
          refine own_via (fun t k => XS.iconst X0.here hx rfl (hb hby own_d2_66) k) ?_
          show own_G p e below _ (s₁.setTop (mkF m 67 #[.val (.int p0), .val (.int p1), .unset] [(.int (-1 : Int32))]))
          refine own_via (fun t k => XS.istoreN X0.here hx rfl (hb hby own_d2_67) rfl (l' := #[.val (.int p0), .val (.int p1), .val (.int (-1 : Int32))]) rfl k) ?_
          show own_G p e below _ (s₁.setTop (mkF m 68 #[.val (.int p0), .val (.int p1), .val (.int (-1 : Int32))] []))
          exact J1 _ X0 e0 _ (by simp only [if_neg hc4, if_pos hc5, if_pos hc6, if_pos hc7])
        ·
          refine own_via (fun t k => XS.icmpNo X0.here hx rfl (hb hby own_d2_46) rfl (flt hc7).1 k) ?_
          show own_G p e below _ (s₁.setTop (mkF m 49 #[.val (.int p0), .val (.int p1), .unset] []))
          refine own_via (fun t k => XS.iloadN X0.here hx rfl (hb hby own_d2_49) rfl k) ?_
          show own_G p e below _ (s₁.setTop (mkF m 50 #[.val (.int p0), .val (.int p1), .unset] [(.int p0)]))
          refine own_via (fun t k => XS.bipush X0.here hx rfl (hb hby own_d2_50) k) ?_
          show own_G p e below _ (s₁.setTop (mkF m 52 #[.val (.int p0), .val (.int p1), .unset] [(.int (90 : Int32)), (.int p0)]))
          by_cases hc8 : (90 : Int32) < p0
          ·
            refine own_via (fun t k => XS.icmpYes X0.here hx rfl (pc0 := 52) (pc' := 66) rfl (hb hby own_d2_52) rfl (tlt hc8).2.2.1 (by decide) (by decide) k) ?_
            show own_G p e below _ (s₁.setTop (mkF m 66 #[.val (.int p0), .val (.int p1), .unset] []))
            refine own_via (fun t k => XS.iconst X0.here hx rfl (hb hby own_d2_66) k) ?_
            show own_G p e below _ (s₁.setTop (mkF m 67 #[.val (.int p0), .val (.int p1), .unset] [(.int (-1 : Int32))]))
            refine own_via (fun t k => XS.istoreN X0.here hx rfl (hb hby own_d2_67) rfl (l' := #[.val (.int p0), .val (.int p1), .val (.int (-1 : Int32))]) rfl k) ?_
            show own_G p e below _ (s₁.setTop (mkF m 68 #[.val (.int p0), .val (.int p1), .val (.int (-1 : Int32))] []))
            exact J1 _ X0 e0 _ (by simp only [if_neg hc4, if_pos hc5, if_pos hc6, if_neg hc7, if_pos hc8])
          ·
            refine own_via (fun t k => XS.icmpNo X0.here hx rfl (hb hby own_d2_52) rfl (flt hc8).2.2.1 k) ?_
            show own_G p e below _ (s₁.setTop (mkF m 55 #[.val (.int p0), .val (.int p1), .unset] []))
            refine own_via (fun t k => XS.iloadN X0.here hx rfl (hb hby own_d2_55) rfl k) ?_
            show own_G p e below _ (s₁.setTop (mkF m 56 #[.val (.int p0), .val (.int p1), .unset] [(.int p0)]))
            refine own_via (fun t k => XS.bipush X0.here hx rfl (hb hby own_d2_56) k) ?_
            show own_G p e below _ (s₁.setTop (mkF m 58 #[.val (.int p0), .val (.int p1), .unset] [(.int (65 : Int32)), (.int p0)]))
            refine own_via (fun t k => XS.isub X0.here hx rfl (hb hby own_d2_58) rfl k) ?_
            show own_G p e below _ (s₁.setTop (mkF m 59 #[.val (.int p0), .val (.int p1), .unset] [(.int (p0 - (65 : Int32)))]))
            refine own_via (fun t k => XS.bipush X0.here hx rfl (hb hby own_d2_59) k) ?_
            show own_G p e below _ (s₁.setTop (mkF m 61 #[.val (.int p0), .val (.int p1), .unset] [(.int (10 : Int32)), (.int (p0 - (65 : Int32)))]))
            refine own_via (fun t k => XS.iadd X0.here hx rfl (hb hby own_d2_61) rfl k) ?_
            show own_G p e below _ (s₁.setTop (mkF m 62 #[.val (.int p0), .val (.int p1), .unset] [(.int ((p0 - (65 : Int32)) + (10 : Int32)))]))
            refine own_via (fun t k => XS.istoreN X0.here hx rfl (hb hby own_d2_62) rfl (l' := #[.val (.int p0), .val (.int p1), .val (.int ((p0 - (65 : Int32)) + (10 : Int32)))]) rfl k) ?_
            show own_G p e below _ (s₁.setTop (mkF m 63 #[.val (.int p0), .val (.int p1), .val (.int ((p0 - (65 : Int32)) + (10 : Int32)))] []))
            refine own_via (fun t k => XS.goto X0.here hx rfl (pc0 := 63) (pc' := 68) rfl (hb hby own_d2_63) (by decide) (by decide) k) ?_
            show own_G p e below _ (s₁.setTop (mkF m 68 #[.val (.int p0), .val (.int p1), .val (.int ((p0 - (65 : Int32)) + (10 : Int32)))] []))
            exact J1 _ X0 e0 _ (by simp only [if_neg hc4, if_pos hc5, if_pos hc6, if_neg hc7, if_neg hc8])
      ·
        refine own_via (fun t k => XS.icmpNo X0.here hx rfl (hb hby own_d2_23) rfl (flt hc6).1 k) ?_
        show own_G p e below _ (s₁.setTop (mkF m 26 #[.val (.int p0), .val (.int p1), .unset] []))
        refine own_via (fun t k => XS.iloadN X0.here hx rfl (hb hby own_d2_26) rfl k) ?_
        show own_G p e below _ (s₁.setTop (mkF m 27 #[.val (.int p0), .val (.int p1), .unset] [(.int p0)]))
        refine own_via (fun t k => XS.bipush X0.here hx rfl (hb hby own_d2_27) k) ?_
        show own_G p e below _ (s₁.setTop (mkF m 29 #[.val (.int p0), .val (.int p1), .unset] [(.int (122 : Int32)), (.int p0)]))
        by_cases hc9 : (122 : Int32) < p0
        ·
          refine own_via (fun t k => XS.icmpYes X0.here hx rfl (pc0 := 29) (pc' := 43) rfl (hb hby own_d2_29) rfl (tlt hc9).2.2.1 (by decide) (by decide) k) ?_
          show own_G p e below _ (s₁.setTop (mkF m 43 #[.val (.int p0), .val (.int p1), .unset] []))
          refine own_via (fun t k => XS.iloadN X0.here hx rfl (hb hby own_d2_43) rfl k) ?_
          show own_G p e below _ (s₁.setTop (mkF m 44 #[.val (.int p0), .val (.int p1), .unset] [(.int p0)]))
          refine own_via (fun t k => XS.bipush X0.here hx rfl (hb hby own_d2_44) k) ?_
          show own_G p e below _ (s₁.setTop (mkF m 46 #[.val (.int p0), .val (.int p1), .unset] [(.int (65 : Int32)), (.int p0)]))
          refine own_via (fun t k => XS.icmpNo X0.here hx rfl (hb hby own_d2_46) rfl (flt (own_b6 (own_b3 hc9) (by decide))).1 k) ?_
          show own_G p e below _ (s₁.setTop (mkF m 49 #[.val (.int p0), .val (.int p1), .unset] []))
          refine own_via (fun t k => XS.iloadN X0.here hx rfl (hb hby own_d2_49) rfl k) ?_
          show own_G p e below _ (s₁.setTop (mkF m 50 #[.val (.int p0), .val (.int p1), .unset] [(.int p0)]))
          refine own_via (fun t k => XS.bipush X0.here hx rfl (hb hby own_d2_50) k) ?_
          show own_G p e below _ (s₁.setTop (mkF m 52 #[.val (.int p0), .val (.int p1), .unset] [(.int (90 : Int32)), (.int p0)]))
          refine own_via (fun t k => XS.icmpYes X0.here hx rfl (pc0 := 52) (pc' := 66) rfl (hb hby own_d2_52) rfl (tlt (own_b7 (own_b3 hc9) (by decide))).2.2.1 (by decide) (by decide) k) ?_
          show own_G p e below _ (s₁.setTop (mkF m 66 #[.val (.int p0), .val (.int p1), .unset] []))
          refine own_via (fun t k => XS.iconst X0.here hx rfl (hb hby own_d2_66) k) ?_
          show own_G p e below _ (s₁.setTop (mkF m 67 #[.val (.int p0), .val (.int p1), .unset] [(.int (-1 : Int32))]))
          refine own_via (fun t k => XS.istoreN X0.here hx rfl (hb hby own_d2_67) rfl (l' := #[.val (.int p0), .val (.int p1), .val (.int (-1 : Int32))]) rfl k) ?_
          show own_G p e below _ (s₁.setTop (mkF m 68 #[.val (.int p0), .val (.int p1), .val (.int (-1 : Int32))] []))
          exact J1 _ X0 e0 _ (by simp only [if_neg hc4, if_pos hc5, if_neg hc6, if_pos hc9])
        ·
          refine own_via (fun t k => XS.icmpNo X0.here hx rfl (hb hby own_d2_29) rfl (flt hc9).2.2.1 k) ?_
          show own_G p e below _ (s₁.setTop (mkF m 32 #[.val (.int p0), .val (.int p1), .unset] []))
          refine own_via (fun t k => XS.iloadN X0.here hx rfl (hb hby own_d2_32) rfl k) ?_
          show own_G p e below _ (s₁.setTop (mkF m 33 #[.val (.int p0), .val (.int p1), .unset] [(.int p0)]))
          refine own_via (fun t k => XS.bipush X0.here hx rfl (hb hby own_d2_33) k) ?_
          show own_G p e below _ (s₁.setTop (mkF m 35 #[.val (.int p0), .val (.int p1), .unset] [(.int (97 : Int32)), (.int p0)]))
          refine own_via (fun t k => XS.isub X0.here hx rfl (hb hby own_d2_35) rfl k) ?_
          show own_G p e below _ (s₁.setTop (mkF m 36 #[.val (.int p0), .val (.int p1), .unset] [(.int (p0 - (97 : Int32)))]))
          refine own_via (fun t k => XS.bipush X0.here hx rfl (hb hby own_d2_36) k) ?_
          show own_G p e below _ (s₁.setTop (mkF m 38 #[.val (.int p0), .val (.int p1), .unset] [(.int (10 : Int32)), (.int (p0 - (97 : Int32)))]))
          refine own_via (fun t k => XS.iadd X0.here hx rfl (hb hby own_d2_38) rfl k) ?_
          show own_G p e below _ (s₁.setTop (mkF m 39 #[.val (.int p0), .val (.int p1), .unset] [(.int ((p0 - (97 : Int32)) + (10 : Int32)))]))
          refine own_via (fun t k => XS.istoreN X0.here hx rfl (hb hby own_d2_39) rfl (l' := #[.val (.int p0), .val (.int p1), .val (.int ((p0 - (97 : Int32)) + (10 : Int32)))]) rfl k) ?_
          show own_G p e below _ (s₁.setTop (mkF m 40 #[.val (.int p0), .val (.int p1), .val (.int ((p0 - (97 : Int32)) + (10 : Int32)))] []))
          refine own_via (fun t k => XS.goto X0.here hx rfl (pc0 := 40) (pc' := 68) rfl (hb hby own_d2_40) (by decide) (by decide) k) ?_
          show own_G p e below _ (s₁.setTop (mkF m 68 #[.val (.int p0), .val (.int p1), .val (.int ((p0 - (97 : Int32)) + (10 : Int32)))] []))
          exact J1 _ X0 e0 _ (by simp only [if_neg hc4, if_pos hc5, if_neg hc6, if_neg hc9])
    ·
      refine own_via (fun t k => XS.icmpNo X0.here hx rfl (hb hby own_d2_9) rfl (flt hc5).2.2.1 k) ?_
      show own_G p e below _ (s₁.setTop (mkF m 12 #[.val (.int p0), .val (.int p1), .unset] []))
      refine own_via (fun t k => XS.iloadN X0.here hx rfl (hb hby own_d2_12) rfl k) ?_
      show own_G p e below _ (s₁.setTop (mkF m 13 #[.val (.int p0), .val (.int p1), .unset] [(.int p0)]))
      refine own_via (fun t k => XS.bipush X0.here hx rfl (hb hby own_d2_13) k) ?_
      show own_G p e below _ (s₁.setTop (mkF m 15 #[.val (.int p0), .val (.int p1), .unset] [(.int (48 : Int32)), (.int p0)]))
      refine own_via (fun t k => XS.isub X0.here hx rfl (hb hby own_d2_15) rfl k) ?_
      show own_G p e below _ (s₁.setTop (mkF m 16 #[.val (.int p0), .val (.int p1), .unset] [(.int (p0 - (48 : Int32)))]))
      refine own_via (fun t k => XS.istoreN X0.here hx rfl (hb hby own_d2_16) rfl (l' := #[.val (.int p0), .val (.int p1), .val (.int (p0 - (48 : Int32)))]) rfl k) ?_
      show own_G p e below _ (s₁.setTop (mkF m 17 #[.val (.int p0), .val (.int p1), .val (.int (p0 - (48 : Int32)))] []))
      refine own_via (fun t k => XS.goto X0.here hx rfl (pc0 := 17) (pc' := 68) rfl (hb hby own_d2_17) (by decide) (by decide) k) ?_
      show own_G p e below _ (s₁.setTop (mkF m 68 #[.val (.int p0), .val (.int p1), .val (.int (p0 - (48 : Int32)))] []))
      exact J1 _ X0 e0 _ (by simp only [if_neg hc4, if_neg hc5])
theorem own_pn0 : plainFor x = true := plainFor_of_name (by first | (simp [plainName, overriddenIn]; done) | decide +kernel)
theorem own_ef0 (m : MethodId) (p0 : Int32) (p1 : Int32) (p2 : Int32) (p3 : Int32) : entryFrame m #[(.int p0), (.int p1), (.int p2), (.int p3)] maxLocals = mkF m 0 #[.val (.int p0), .val (.int p1), .val (.int p2), .val (.int p3), .unset, .unset, .unset, .unset, .unset, .unset] [] := by first | (simp [entryFrame, mkF, argsToLocals, Value.category, maxLocals]; done) | rfl
def own_F0 (p0 : Int32) (p1 : Int32) (p2 : Int32) (p3 : Int32) : Int32 := (let vg1 : Int32 := (p0.toUInt32.toUInt16.toUInt32.toInt32); (let vg2 : Int32 := ((2 : Int32) + ((p1 &&& (2147483647 : Int32)) - ((p1 &&& (2147483647 : Int32)) / (15 : Int32)) * (15 : Int32))); (let vg3 : Int32 := ((p2 &&& (2147483647 : Int32)) - ((p2 &&& (2147483647 : Int32)) / vg2) * vg2); (let zj5 : Int32 := (if (p3 &&& (1 : Int32)) = (0 : Int32) then (0 : Int32) else (1 : Int32)); (let vg7 : Int32 := (own_F1 vg3 zj5); (if (own_F2 vg7 vg2) = vg3 then (let vg11 : Int32 := (own_F2 vg1 vg2); (if vg11 = (-1 : Int32) then (1 : Int32) else (if vg11 < (0 : Int32) then (0 : Int32) else (if vg11 < vg2 then (if vg1 = (own_F1 vg11 (0 : Int32)) then (1 : Int32) else (if vg1 = (own_F1 vg11 (1 : Int32)) then (1 : Int32) else (0 : Int32))) else (0 : Int32))))) else (0 : Int32)))))))
set_option maxRecDepth 65536 in
set_option maxHeartbeats 40000000 in
theorem own_rm0 (l : Launch) (Z : State) (a0 : Array Value) (hw : ∀ d ∈ tables_1, d.before a0 Z = true) (ws : List Jvm.Cond) (p0 : Int32) (p1 : Int32) (p2 : Int32) (p3 : Int32) (h0 : Heap) :
    own_C l Z x code maxLocals ret ws room_1 #[(.int p0), (.int p1), (.int p2), (.int p3)] h0 (own_Q (.int (own_F0 p0 p1 p2 p3)) h0) := by
  refine MetFree.of_bodySF own_pn0 hisR ?_
  intro p e s m args below meth c s₁ Bd hml0 hP hK
  obtain ⟨rfl, hZ, hh⟩ := hP
  have hx := Bd.exec
  have hby := Bd.bytes
  have hml : c.maxLocals = 10 := hml0
  have hown : s.vm.findClass "com/example/fields_in_tables/fieldsintables/NumberReaderDigitValuePinLaw" = some m.cls := findClass_of_methodNamed Bd.named
  have X0 : Stand p l e room_1 s m #[(.int p0), (.int p1), (.int p2), (.int p3)] below meth c s₁ [] 0 0 := Stand.of_body Bd
  have e0 : s₁.heap = h0 := by rw [← hh, Bd.state]; rfl
  show own_G p e below (own_P s (own_Q (.int (own_F0 p0 p1 p2 p3)) h0) room_1.cells room_1.slots) (s₁.setTop (entryFrame m #[(.int p0), (.int p1), (.int p2), (.int p3)] maxLocals))
  rw [own_ef0 m p0 p1 p2 p3]
  show own_G p e below _ (s₁.setTop (mkF m 0 #[.val (.int p0), .val (.int p1), .val (.int p2), .val (.int p3), .unset, .unset, .unset, .unset, .unset, .unset] []))
  refine own_via (fun t k => XS.iloadN X0.here hx rfl (hb hby at_0) rfl k) ?_
  show own_G p e below _ (s₁.setTop (mkF m 1 #[.val (.int p0), .val (.int p1), .val (.int p2), .val (.int p3), .unset, .unset, .unset, .unset, .unset, .unset] [(.int p0)]))
  refine own_via (fun t k => XS.i2c X0.here hx rfl (hb hby at_1) rfl k) ?_
  show own_G p e below _ (s₁.setTop (mkF m 2 #[.val (.int p0), .val (.int p1), .val (.int p2), .val (.int p3), .unset, .unset, .unset, .unset, .unset, .unset] [(.int (p0.toUInt32.toUInt16.toUInt32.toInt32))]))
  generalize hvg1 : (p0.toUInt32.toUInt16.toUInt32.toInt32) = vg1
  show own_G p e below _ (s₁.setTop (mkF m 2 #[.val (.int p0), .val (.int p1), .val (.int p2), .val (.int p3), .unset, .unset, .unset, .unset, .unset, .unset] [(.int vg1)]))
  refine own_via (fun t k => XS.istore X0.here hx rfl (hb hby at_2) rfl (l' := #[.val (.int p0), .val (.int p1), .val (.int p2), .val (.int p3), .val (.int vg1), .unset, .unset, .unset, .unset, .unset]) rfl k) ?_
  show own_G p e below _ (s₁.setTop (mkF m 4 #[.val (.int p0), .val (.int p1), .val (.int p2), .val (.int p3), .val (.int vg1), .unset, .unset, .unset, .unset, .unset] []))
  refine own_via (fun t k => XS.iconst X0.here hx rfl (hb hby at_4) k) ?_
  show own_G p e below _ (s₁.setTop (mkF m 5 #[.val (.int p0), .val (.int p1), .val (.int p2), .val (.int p3), .val (.int vg1), .unset, .unset, .unset, .unset, .unset] [(.int (2 : Int32))]))
  refine own_via (fun t k => XS.iloadN X0.here hx rfl (hb hby at_5) rfl k) ?_
  show own_G p e below _ (s₁.setTop (mkF m 6 #[.val (.int p0), .val (.int p1), .val (.int p2), .val (.int p3), .val (.int vg1), .unset, .unset, .unset, .unset, .unset] [(.int p1), (.int (2 : Int32))]))
  refine own_via (X0.ldcInt hx hown (mvT hZ (hw _ (List.mem_of_getElem? (i := 0) rfl))) (g := (mkF m 6 #[.val (.int p0), .val (.int p1), .val (.int p2), .val (.int p3), .val (.int vg1), .unset, .unset, .unset, .unset, .unset] [(.int p1), (.int (2 : Int32))])) rfl (hb hby at_6)) ?_
  show own_G p e below _ (s₁.setTop (mkF m 8 #[.val (.int p0), .val (.int p1), .val (.int p2), .val (.int p3), .val (.int vg1), .unset, .unset, .unset, .unset, .unset] [(.int (2147483647 : Int32)), (.int p1), (.int (2 : Int32))]))
  refine own_via (fun t k => XS.iand X0.here hx rfl (hb hby at_8) rfl k) ?_
  show own_G p e below _ (s₁.setTop (mkF m 9 #[.val (.int p0), .val (.int p1), .val (.int p2), .val (.int p3), .val (.int vg1), .unset, .unset, .unset, .unset, .unset] [(.int (p1 &&& (2147483647 : Int32))), (.int (2 : Int32))]))
  refine own_via (fun t k => XS.bipush X0.here hx rfl (hb hby at_9) k) ?_
  show own_G p e below _ (s₁.setTop (mkF m 11 #[.val (.int p0), .val (.int p1), .val (.int p2), .val (.int p3), .val (.int vg1), .unset, .unset, .unset, .unset, .unset] [(.int (15 : Int32)), (.int (p1 &&& (2147483647 : Int32))), (.int (2 : Int32))]))
  refine own_via (fun t k => XS.irem X0.here hx rfl (hb hby at_11) rfl (by decide) k) ?_
  show own_G p e below _ (s₁.setTop (mkF m 12 #[.val (.int p0), .val (.int p1), .val (.int p2), .val (.int p3), .val (.int vg1), .unset, .unset, .unset, .unset, .unset] [(.int ((p1 &&& (2147483647 : Int32)) - ((p1 &&& (2147483647 : Int32)) / (15 : Int32)) * (15 : Int32))), (.int (2 : Int32))]))
  refine own_via (fun t k => XS.iadd X0.here hx rfl (hb hby at_12) rfl k) ?_
  show own_G p e below _ (s₁.setTop (mkF m 13 #[.val (.int p0), .val (.int p1), .val (.int p2), .val (.int p3), .val (.int vg1), .unset, .unset, .unset, .unset, .unset] [(.int ((2 : Int32) + ((p1 &&& (2147483647 : Int32)) - ((p1 &&& (2147483647 : Int32)) / (15 : Int32)) * (15 : Int32))))]))
  generalize hvg2 : ((2 : Int32) + ((p1 &&& (2147483647 : Int32)) - ((p1 &&& (2147483647 : Int32)) / (15 : Int32)) * (15 : Int32))) = vg2
  show own_G p e below _ (s₁.setTop (mkF m 13 #[.val (.int p0), .val (.int p1), .val (.int p2), .val (.int p3), .val (.int vg1), .unset, .unset, .unset, .unset, .unset] [(.int vg2)]))
  refine own_via (fun t k => XS.istore X0.here hx rfl (hb hby at_13) rfl (l' := #[.val (.int p0), .val (.int p1), .val (.int p2), .val (.int p3), .val (.int vg1), .val (.int vg2), .unset, .unset, .unset, .unset]) rfl k) ?_
  show own_G p e below _ (s₁.setTop (mkF m 15 #[.val (.int p0), .val (.int p1), .val (.int p2), .val (.int p3), .val (.int vg1), .val (.int vg2), .unset, .unset, .unset, .unset] []))
  refine own_via (fun t k => XS.iloadN X0.here hx rfl (hb hby at_15) rfl k) ?_
  show own_G p e below _ (s₁.setTop (mkF m 16 #[.val (.int p0), .val (.int p1), .val (.int p2), .val (.int p3), .val (.int vg1), .val (.int vg2), .unset, .unset, .unset, .unset] [(.int p2)]))
  refine own_via (X0.ldcInt hx hown (mvT hZ (hw _ (List.mem_of_getElem? (i := 0) rfl))) (g := (mkF m 16 #[.val (.int p0), .val (.int p1), .val (.int p2), .val (.int p3), .val (.int vg1), .val (.int vg2), .unset, .unset, .unset, .unset] [(.int p2)])) rfl (hb hby at_16)) ?_
  show own_G p e below _ (s₁.setTop (mkF m 18 #[.val (.int p0), .val (.int p1), .val (.int p2), .val (.int p3), .val (.int vg1), .val (.int vg2), .unset, .unset, .unset, .unset] [(.int (2147483647 : Int32)), (.int p2)]))
  refine own_via (fun t k => XS.iand X0.here hx rfl (hb hby at_18) rfl k) ?_
  show own_G p e below _ (s₁.setTop (mkF m 19 #[.val (.int p0), .val (.int p1), .val (.int p2), .val (.int p3), .val (.int vg1), .val (.int vg2), .unset, .unset, .unset, .unset] [(.int (p2 &&& (2147483647 : Int32)))]))
  refine own_via (fun t k => XS.iload X0.here hx rfl (hb hby at_19) rfl k) ?_
  show own_G p e below _ (s₁.setTop (mkF m 21 #[.val (.int p0), .val (.int p1), .val (.int p2), .val (.int p3), .val (.int vg1), .val (.int vg2), .unset, .unset, .unset, .unset] [(.int vg2), (.int (p2 &&& (2147483647 : Int32)))]))
  refine own_via (fun t k => XS.irem X0.here hx rfl (hb hby at_21) rfl (own_nz _ hvg2) k) ?_
  show own_G p e below _ (s₁.setTop (mkF m 22 #[.val (.int p0), .val (.int p1), .val (.int p2), .val (.int p3), .val (.int vg1), .val (.int vg2), .unset, .unset, .unset, .unset] [(.int ((p2 &&& (2147483647 : Int32)) - ((p2 &&& (2147483647 : Int32)) / vg2) * vg2))]))
  generalize hvg3 : ((p2 &&& (2147483647 : Int32)) - ((p2 &&& (2147483647 : Int32)) / vg2) * vg2) = vg3
  show own_G p e below _ (s₁.setTop (mkF m 22 #[.val (.int p0), .val (.int p1), .val (.int p2), .val (.int p3), .val (.int vg1), .val (.int vg2), .unset, .unset, .unset, .unset] [(.int vg3)]))
  refine own_via (fun t k => XS.istore X0.here hx rfl (hb hby at_22) rfl (l' := #[.val (.int p0), .val (.int p1), .val (.int p2), .val (.int p3), .val (.int vg1), .val (.int vg2), .val (.int vg3), .unset, .unset, .unset]) rfl k) ?_
  show own_G p e below _ (s₁.setTop (mkF m 24 #[.val (.int p0), .val (.int p1), .val (.int p2), .val (.int p3), .val (.int vg1), .val (.int vg2), .val (.int vg3), .unset, .unset, .unset] []))
  refine own_via (fun t k => XS.iloadN X0.here hx rfl (hb hby at_24) rfl k) ?_
  show own_G p e below _ (s₁.setTop (mkF m 25 #[.val (.int p0), .val (.int p1), .val (.int p2), .val (.int p3), .val (.int vg1), .val (.int vg2), .val (.int vg3), .unset, .unset, .unset] [(.int p3)]))
  refine own_via (fun t k => XS.iconst X0.here hx rfl (hb hby at_25) k) ?_
  show own_G p e below _ (s₁.setTop (mkF m 26 #[.val (.int p0), .val (.int p1), .val (.int p2), .val (.int p3), .val (.int vg1), .val (.int vg2), .val (.int vg3), .unset, .unset, .unset] [(.int (1 : Int32)), (.int p3)]))
  refine own_via (fun t k => XS.iand X0.here hx rfl (hb hby at_26) rfl k) ?_
  show own_G p e below _ (s₁.setTop (mkF m 27 #[.val (.int p0), .val (.int p1), .val (.int p2), .val (.int p3), .val (.int vg1), .val (.int vg2), .val (.int vg3), .unset, .unset, .unset] [(.int (p3 &&& (1 : Int32)))]))
  have J4 : ∀ (TJ4 : State) (XJ4 : Stand p l e room_1 s m #[(.int p0), (.int p1), (.int p2), (.int p3)] below meth c TJ4 [] 0 0) (EJ4 : TJ4.heap = h0) (zj5 : Int32), zj5 = (if (p3 &&& (1 : Int32)) = (0 : Int32) then (0 : Int32) else (1 : Int32)) → own_G p e below (own_P s (own_Q (.int (own_F0 p0 p1 p2 p3)) h0) 0 0) (TJ4.setTop (mkF m 35 #[.val (.int p0), .val (.int p1), .val (.int p2), .val (.int p3), .val (.int vg1), .val (.int vg2), .val (.int vg3), .unset, .unset, .unset] [(.int zj5)])) := by
    intro TJ4 XJ4 EJ4 zj5 hzj5
    refine own_via (fun t k => XS.istore XJ4.here hx rfl (hb hby at_35) rfl (l' := #[.val (.int p0), .val (.int p1), .val (.int p2), .val (.int p3), .val (.int vg1), .val (.int vg2), .val (.int vg3), .val (.int zj5), .unset, .unset]) rfl k) ?_
    show own_G p e below _ (TJ4.setTop (mkF m 37 #[.val (.int p0), .val (.int p1), .val (.int p2), .val (.int p3), .val (.int vg1), .val (.int vg2), .val (.int vg3), .val (.int zj5), .unset, .unset] []))
    refine own_via (fun t k => XS.iload XJ4.here hx rfl (hb hby at_37) rfl k) ?_
    show own_G p e below _ (TJ4.setTop (mkF m 39 #[.val (.int p0), .val (.int p1), .val (.int p2), .val (.int p3), .val (.int vg1), .val (.int vg2), .val (.int vg3), .val (.int zj5), .unset, .unset] [(.int vg3)]))
    refine own_via (fun t k => XS.iload XJ4.here hx rfl (hb hby at_39) rfl k) ?_
    show own_G p e below _ (TJ4.setTop (mkF m 41 #[.val (.int p0), .val (.int p1), .val (.int p2), .val (.int p3), .val (.int vg1), .val (.int vg2), .val (.int vg3), .val (.int zj5), .unset, .unset] [(.int zj5), (.int vg3)]))
    obtain ⟨T6, X6, e6, st6⟩ := own_callP (y := (⟨"com/example/fields_in_tables/fieldsintables/NumberReaderDigitValuePinLaw", "digitChar", "(IZ)C"⟩ : MethodName)) (W := 0) XJ4 hx hZ hown (hw _ (List.mem_of_getElem? (i := 1) rfl)) (hw _ (List.mem_of_getElem? (i := 2) rfl)) (hw _ (List.mem_of_getElem? (i := 3) rfl)) (hw _ (List.mem_of_getElem? (i := 4) rfl)) (by decide) (own_rm1 l Z a0 hw [] vg3 zj5 h0) (by decide) (by decide) rfl rfl (by decide) (by decide) EJ4 (pc := 41) (Ls := #[.val (.int p0), .val (.int p1), .val (.int p2), .val (.int p3), .val (.int vg1), .val (.int vg2), .val (.int vg3), .val (.int zj5), .unset, .unset]) (st := [(.int zj5), (.int vg3)]) (argsL := [(.int vg3), (.int zj5)]) (rest := []) (by rw [hml]; rfl) (lenOf own_pd0 rfl) rfl rfl (Nat.le_of_eq rfl) (hb hby at_41)
    refine own_via st6 ?_
    show own_G p e below _ (T6.setTop (mkF m 44 #[.val (.int p0), .val (.int p1), .val (.int p2), .val (.int p3), .val (.int vg1), .val (.int vg2), .val (.int vg3), .val (.int zj5), .unset, .unset] [(.int (own_F1 vg3 zj5))]))
    generalize hvg7 : (own_F1 vg3 zj5) = vg7
    show own_G p e below _ (T6.setTop (mkF m 44 #[.val (.int p0), .val (.int p1), .val (.int p2), .val (.int p3), .val (.int vg1), .val (.int vg2), .val (.int vg3), .val (.int zj5), .unset, .unset] [(.int vg7)]))
    refine own_via (fun t k => XS.istore X6.here hx rfl (hb hby at_44) rfl (l' := #[.val (.int p0), .val (.int p1), .val (.int p2), .val (.int p3), .val (.int vg1), .val (.int vg2), .val (.int vg3), .val (.int zj5), .val (.int vg7), .unset]) rfl k) ?_
    show own_G p e below _ (T6.setTop (mkF m 46 #[.val (.int p0), .val (.int p1), .val (.int p2), .val (.int p3), .val (.int vg1), .val (.int vg2), .val (.int vg3), .val (.int zj5), .val (.int vg7), .unset] []))
    refine own_via (fun t k => XS.iload X6.here hx rfl (hb hby at_46) rfl k) ?_
    show own_G p e below _ (T6.setTop (mkF m 48 #[.val (.int p0), .val (.int p1), .val (.int p2), .val (.int p3), .val (.int vg1), .val (.int vg2), .val (.int vg3), .val (.int zj5), .val (.int vg7), .unset] [(.int vg7)]))
    refine own_via (fun t k => XS.iload X6.here hx rfl (hb hby at_48) rfl k) ?_
    show own_G p e below _ (T6.setTop (mkF m 50 #[.val (.int p0), .val (.int p1), .val (.int p2), .val (.int p3), .val (.int vg1), .val (.int vg2), .val (.int vg3), .val (.int zj5), .val (.int vg7), .unset] [(.int vg2), (.int vg7)]))
    obtain ⟨T8, X8, e8, st8⟩ := own_callP (y := (⟨"com/example/fields_in_tables/fieldsintables/NumberReader", "digitValue", "(CI)I"⟩ : MethodName)) (W := 0) X6 hx hZ hown (hw _ (List.mem_of_getElem? (i := 5) rfl)) (hw _ (List.mem_of_getElem? (i := 6) rfl)) (hw _ (List.mem_of_getElem? (i := 7) rfl)) (hw _ (List.mem_of_getElem? (i := 8) rfl)) (by decide) (own_rm2 l Z a0 hw [] vg7 vg2 h0) (by decide) (by decide) rfl rfl (by decide) (by decide) e6 (pc := 50) (Ls := #[.val (.int p0), .val (.int p1), .val (.int p2), .val (.int p3), .val (.int vg1), .val (.int vg2), .val (.int vg3), .val (.int zj5), .val (.int vg7), .unset]) (st := [(.int vg2), (.int vg7)]) (argsL := [(.int vg7), (.int vg2)]) (rest := []) (by rw [hml]; rfl) (lenOf own_pd1 rfl) rfl rfl (Nat.le_of_eq rfl) (hb hby at_50)
    refine own_via st8 ?_
    show own_G p e below _ (T8.setTop (mkF m 53 #[.val (.int p0), .val (.int p1), .val (.int p2), .val (.int p3), .val (.int vg1), .val (.int vg2), .val (.int vg3), .val (.int zj5), .val (.int vg7), .unset] [(.int (own_F2 vg7 vg2))]))
    refine own_via (fun t k => XS.iload X8.here hx rfl (hb hby at_53) rfl k) ?_
    show own_G p e below _ (T8.setTop (mkF m 55 #[.val (.int p0), .val (.int p1), .val (.int p2), .val (.int p3), .val (.int vg1), .val (.int vg2), .val (.int vg3), .val (.int zj5), .val (.int vg7), .unset] [(.int vg3), (.int (own_F2 vg7 vg2))]))
    by_cases hc9 : (own_F2 vg7 vg2) = vg3
    ·
      refine own_via (fun t k => XS.icmpYes X8.here hx rfl (pc0 := 55) (pc' := 60) rfl (hb hby at_55) rfl (teq hc9).1 (by decide) (by decide) k) ?_
      show own_G p e below _ (T8.setTop (mkF m 60 #[.val (.int p0), .val (.int p1), .val (.int p2), .val (.int p3), .val (.int vg1), .val (.int vg2), .val (.int vg3), .val (.int zj5), .val (.int vg7), .unset] []))
      refine own_via (fun t k => XS.iload X8.here hx rfl (hb hby at_60) rfl k) ?_
      show own_G p e below _ (T8.setTop (mkF m 62 #[.val (.int p0), .val (.int p1), .val (.int p2), .val (.int p3), .val (.int vg1), .val (.int vg2), .val (.int vg3), .val (.int zj5), .val (.int vg7), .unset] [(.int vg1)]))
      refine own_via (fun t k => XS.iload X8.here hx rfl (hb hby at_62) rfl k) ?_
      show own_G p e below _ (T8.setTop (mkF m 64 #[.val (.int p0), .val (.int p1), .val (.int p2), .val (.int p3), .val (.int vg1), .val (.int vg2), .val (.int vg3), .val (.int zj5), .val (.int vg7), .unset] [(.int vg2), (.int vg1)]))
      obtain ⟨T10, X10, e10, st10⟩ := own_callP (y := (⟨"com/example/fields_in_tables/fieldsintables/NumberReader", "digitValue", "(CI)I"⟩ : MethodName)) (W := 0) X8 hx hZ hown (hw _ (List.mem_of_getElem? (i := 5) rfl)) (hw _ (List.mem_of_getElem? (i := 6) rfl)) (hw _ (List.mem_of_getElem? (i := 7) rfl)) (hw _ (List.mem_of_getElem? (i := 8) rfl)) (by decide) (own_rm2 l Z a0 hw [] vg1 vg2 h0) (by decide) (by decide) rfl rfl (by decide) (by decide) e8 (pc := 64) (Ls := #[.val (.int p0), .val (.int p1), .val (.int p2), .val (.int p3), .val (.int vg1), .val (.int vg2), .val (.int vg3), .val (.int zj5), .val (.int vg7), .unset]) (st := [(.int vg2), (.int vg1)]) (argsL := [(.int vg1), (.int vg2)]) (rest := []) (by rw [hml]; rfl) (lenOf own_pd1 rfl) rfl rfl (Nat.le_of_eq rfl) (hb hby at_64)
      refine own_via st10 ?_
      show own_G p e below _ (T10.setTop (mkF m 67 #[.val (.int p0), .val (.int p1), .val (.int p2), .val (.int p3), .val (.int vg1), .val (.int vg2), .val (.int vg3), .val (.int zj5), .val (.int vg7), .unset] [(.int (own_F2 vg1 vg2))]))
      generalize hvg11 : (own_F2 vg1 vg2) = vg11
      show own_G p e below _ (T10.setTop (mkF m 67 #[.val (.int p0), .val (.int p1), .val (.int p2), .val (.int p3), .val (.int vg1), .val (.int vg2), .val (.int vg3), .val (.int zj5), .val (.int vg7), .unset] [(.int vg11)]))
      refine own_via (fun t k => XS.istore X10.here hx rfl (hb hby at_67) rfl (l' := #[.val (.int p0), .val (.int p1), .val (.int p2), .val (.int p3), .val (.int vg1), .val (.int vg2), .val (.int vg3), .val (.int zj5), .val (.int vg7), .val (.int vg11)]) rfl k) ?_
      show own_G p e below _ (T10.setTop (mkF m 69 #[.val (.int p0), .val (.int p1), .val (.int p2), .val (.int p3), .val (.int vg1), .val (.int vg2), .val (.int vg3), .val (.int zj5), .val (.int vg7), .val (.int vg11)] []))
      refine own_via (fun t k => XS.iload X10.here hx rfl (hb hby at_69) rfl k) ?_
      show own_G p e below _ (T10.setTop (mkF m 71 #[.val (.int p0), .val (.int p1), .val (.int p2), .val (.int p3), .val (.int vg1), .val (.int vg2), .val (.int vg3), .val (.int zj5), .val (.int vg7), .val (.int vg11)] [(.int vg11)]))
      refine own_via (fun t k => XS.iconst X10.here hx rfl (hb hby at_71) k) ?_
      show own_G p e below _ (T10.setTop (mkF m 72 #[.val (.int p0), .val (.int p1), .val (.int p2), .val (.int p3), .val (.int vg1), .val (.int vg2), .val (.int vg3), .val (.int zj5), .val (.int vg7), .val (.int vg11)] [(.int (-1 : Int32)), (.int vg11)]))
      by_cases hc12 : vg11 = (-1 : Int32)
      ·
        refine own_via (fun t k => XS.icmpNo X10.here hx rfl (hb hby at_72) rfl (teq hc12).2 k) ?_
        show own_G p e below _ (T10.setTop (mkF m 75 #[.val (.int p0), .val (.int p1), .val (.int p2), .val (.int p3), .val (.int vg1), .val (.int vg2), .val (.int vg3), .val (.int zj5), .val (.int vg7), .val (.int vg11)] []))
        refine own_via (fun t k => XS.iconst X10.here hx rfl (hb hby at_75) k) ?_
        show own_G p e below _ (T10.setTop (mkF m 76 #[.val (.int p0), .val (.int p1), .val (.int p2), .val (.int p3), .val (.int vg1), .val (.int vg2), .val (.int vg3), .val (.int zj5), .val (.int vg7), .val (.int vg11)] [(.int (1 : Int32))]))
        exact own_retN (t := .boolean) X10 hx Bd.returns (by simp) Bd.notSynchronized (hb hby at_76) ⟨by show (some (.int (1 : Int32)) : Option Value) = some (.int (own_F0 p0 p1 p2 p3)); subst hvg11; subst hvg7; subst hzj5; subst hvg3; subst hvg2; subst hvg1; simp only [own_F0, if_pos hc9, if_pos hc12], rfl, e10⟩ (by decide) (by decide)
      ·
        refine own_via (fun t k => XS.icmpYes X10.here hx rfl (pc0 := 72) (pc' := 77) rfl (hb hby at_72) rfl (feq hc12).2 (by decide) (by decide) k) ?_
        show own_G p e below _ (T10.setTop (mkF m 77 #[.val (.int p0), .val (.int p1), .val (.int p2), .val (.int p3), .val (.int vg1), .val (.int vg2), .val (.int vg3), .val (.int zj5), .val (.int vg7), .val (.int vg11)] []))
        refine own_via (fun t k => XS.iload X10.here hx rfl (hb hby at_77) rfl k) ?_
        show own_G p e below _ (T10.setTop (mkF m 79 #[.val (.int p0), .val (.int p1), .val (.int p2), .val (.int p3), .val (.int vg1), .val (.int vg2), .val (.int vg3), .val (.int zj5), .val (.int vg7), .val (.int vg11)] [(.int vg11)]))
        by_cases hc13 : vg11 < (0 : Int32)
        ·
          refine own_via (fun t k => XS.ifYes X10.here hx rfl (pc0 := 79) (pc' := 89) rfl (hb hby at_79) rfl ((if0 _ _).trans (tlt hc13).1) (by decide) (by decide) k) ?_
          show own_G p e below _ (T10.setTop (mkF m 89 #[.val (.int p0), .val (.int p1), .val (.int p2), .val (.int p3), .val (.int vg1), .val (.int vg2), .val (.int vg3), .val (.int zj5), .val (.int vg7), .val (.int vg11)] []))
          refine own_via (fun t k => XS.iconst X10.here hx rfl (hb hby at_89) k) ?_
          show own_G p e below _ (T10.setTop (mkF m 90 #[.val (.int p0), .val (.int p1), .val (.int p2), .val (.int p3), .val (.int vg1), .val (.int vg2), .val (.int vg3), .val (.int zj5), .val (.int vg7), .val (.int vg11)] [(.int (0 : Int32))]))
          exact own_retN (t := .boolean) X10 hx Bd.returns (by simp) Bd.notSynchronized (hb hby at_90) ⟨by show (some (.int (0 : Int32)) : Option Value) = some (.int (own_F0 p0 p1 p2 p3)); subst hvg11; subst hvg7; subst hzj5; subst hvg3; subst hvg2; subst hvg1; simp only [own_F0, if_pos hc9, if_neg hc12, if_pos hc13], rfl, e10⟩ (by decide) (by decide)
        ·
          refine own_via (fun t k => XS.ifNo X10.here hx rfl (hb hby at_79) rfl ((if0 _ _).trans (flt hc13).1) k) ?_
          show own_G p e below _ (T10.setTop (mkF m 82 #[.val (.int p0), .val (.int p1), .val (.int p2), .val (.int p3), .val (.int vg1), .val (.int vg2), .val (.int vg3), .val (.int zj5), .val (.int vg7), .val (.int vg11)] []))
          refine own_via (fun t k => XS.iload X10.here hx rfl (hb hby at_82) rfl k) ?_
          show own_G p e below _ (T10.setTop (mkF m 84 #[.val (.int p0), .val (.int p1), .val (.int p2), .val (.int p3), .val (.int vg1), .val (.int vg2), .val (.int vg3), .val (.int zj5), .val (.int vg7), .val (.int vg11)] [(.int vg11)]))
          refine own_via (fun t k => XS.iload X10.here hx rfl (hb hby at_84) rfl k) ?_
          show own_G p e below _ (T10.setTop (mkF m 86 #[.val (.int p0), .val (.int p1), .val (.int p2), .val (.int p3), .val (.int vg1), .val (.int vg2), .val (.int vg3), .val (.int zj5), .val (.int vg7), .val (.int vg11)] [(.int vg2), (.int vg11)]))
          by_cases hc14 : vg11 < vg2
          ·
            refine own_via (fun t k => XS.icmpYes X10.here hx rfl (pc0 := 86) (pc' := 91) rfl (hb hby at_86) rfl (tlt hc14).1 (by decide) (by decide) k) ?_
            show own_G p e below _ (T10.setTop (mkF m 91 #[.val (.int p0), .val (.int p1), .val (.int p2), .val (.int p3), .val (.int vg1), .val (.int vg2), .val (.int vg3), .val (.int zj5), .val (.int vg7), .val (.int vg11)] []))
            refine own_via (fun t k => XS.iload X10.here hx rfl (hb hby at_91) rfl k) ?_
            show own_G p e below _ (T10.setTop (mkF m 93 #[.val (.int p0), .val (.int p1), .val (.int p2), .val (.int p3), .val (.int vg1), .val (.int vg2), .val (.int vg3), .val (.int zj5), .val (.int vg7), .val (.int vg11)] [(.int vg1)]))
            refine own_via (fun t k => XS.iload X10.here hx rfl (hb hby at_93) rfl k) ?_
            show own_G p e below _ (T10.setTop (mkF m 95 #[.val (.int p0), .val (.int p1), .val (.int p2), .val (.int p3), .val (.int vg1), .val (.int vg2), .val (.int vg3), .val (.int zj5), .val (.int vg7), .val (.int vg11)] [(.int vg11), (.int vg1)]))
            refine own_via (fun t k => XS.iconst X10.here hx rfl (hb hby at_95) k) ?_
            show own_G p e below _ (T10.setTop (mkF m 96 #[.val (.int p0), .val (.int p1), .val (.int p2), .val (.int p3), .val (.int vg1), .val (.int vg2), .val (.int vg3), .val (.int zj5), .val (.int vg7), .val (.int vg11)] [(.int (0 : Int32)), (.int vg11), (.int vg1)]))
            obtain ⟨T15, X15, e15, st15⟩ := own_callP (y := (⟨"com/example/fields_in_tables/fieldsintables/NumberReaderDigitValuePinLaw", "digitChar", "(IZ)C"⟩ : MethodName)) (W := 1) X10 hx hZ hown (hw _ (List.mem_of_getElem? (i := 1) rfl)) (hw _ (List.mem_of_getElem? (i := 2) rfl)) (hw _ (List.mem_of_getElem? (i := 3) rfl)) (hw _ (List.mem_of_getElem? (i := 4) rfl)) (by decide) (own_rm1 l Z a0 hw [] vg11 (0 : Int32) h0) (by decide) (by decide) rfl rfl (by decide) (by decide) e10 (pc := 96) (Ls := #[.val (.int p0), .val (.int p1), .val (.int p2), .val (.int p3), .val (.int vg1), .val (.int vg2), .val (.int vg3), .val (.int zj5), .val (.int vg7), .val (.int vg11)]) (st := [(.int (0 : Int32)), (.int vg11), (.int vg1)]) (argsL := [(.int vg11), (.int (0 : Int32))]) (rest := [(.int vg1)]) (by rw [hml]; rfl) (lenOf own_pd0 rfl) rfl rfl (Nat.le_of_eq rfl) (hb hby at_96)
            refine own_via st15 ?_
            show own_G p e below _ (T15.setTop (mkF m 99 #[.val (.int p0), .val (.int p1), .val (.int p2), .val (.int p3), .val (.int vg1), .val (.int vg2), .val (.int vg3), .val (.int zj5), .val (.int vg7), .val (.int vg11)] [(.int (own_F1 vg11 (0 : Int32))), (.int vg1)]))
            by_cases hc16 : vg1 = (own_F1 vg11 (0 : Int32))
            ·
              refine own_via (fun t k => XS.icmpYes X15.here hx rfl (pc0 := 99) (pc' := 113) rfl (hb hby at_99) rfl (teq hc16).1 (by decide) (by decide) k) ?_
              show own_G p e below _ (T15.setTop (mkF m 113 #[.val (.int p0), .val (.int p1), .val (.int p2), .val (.int p3), .val (.int vg1), .val (.int vg2), .val (.int vg3), .val (.int zj5), .val (.int vg7), .val (.int vg11)] []))
              refine own_via (fun t k => XS.iconst X15.here hx rfl (hb hby at_113) k) ?_
              show own_G p e below _ (T15.setTop (mkF m 114 #[.val (.int p0), .val (.int p1), .val (.int p2), .val (.int p3), .val (.int vg1), .val (.int vg2), .val (.int vg3), .val (.int zj5), .val (.int vg7), .val (.int vg11)] [(.int (1 : Int32))]))
              refine own_via (fun t k => XS.goto X15.here hx rfl (pc0 := 114) (pc' := 118) rfl (hb hby at_114) (by decide) (by decide) k) ?_
              show own_G p e below _ (T15.setTop (mkF m 118 #[.val (.int p0), .val (.int p1), .val (.int p2), .val (.int p3), .val (.int vg1), .val (.int vg2), .val (.int vg3), .val (.int zj5), .val (.int vg7), .val (.int vg11)] [(.int (1 : Int32))]))
              exact own_retN (t := .boolean) X15 hx Bd.returns (by simp) Bd.notSynchronized (hb hby at_118) ⟨by show (some (.int (1 : Int32)) : Option Value) = some (.int (own_F0 p0 p1 p2 p3)); subst hvg11; subst hvg7; subst hzj5; subst hvg3; subst hvg2; subst hvg1; simp only [own_F0, if_pos hc9, if_neg hc12, if_neg hc13, if_pos hc14, if_pos hc16], rfl, e15⟩ (by decide) (by decide)
            ·
              refine own_via (fun t k => XS.icmpNo X15.here hx rfl (hb hby at_99) rfl (feq hc16).1 k) ?_
              show own_G p e below _ (T15.setTop (mkF m 102 #[.val (.int p0), .val (.int p1), .val (.int p2), .val (.int p3), .val (.int vg1), .val (.int vg2), .val (.int vg3), .val (.int zj5), .val (.int vg7), .val (.int vg11)] []))
              refine own_via (fun t k => XS.iload X15.here hx rfl (hb hby at_102) rfl k) ?_
              show own_G p e below _ (T15.setTop (mkF m 104 #[.val (.int p0), .val (.int p1), .val (.int p2), .val (.int p3), .val (.int vg1), .val (.int vg2), .val (.int vg3), .val (.int zj5), .val (.int vg7), .val (.int vg11)] [(.int vg1)]))
              refine own_via (fun t k => XS.iload X15.here hx rfl (hb hby at_104) rfl k) ?_
              show own_G p e below _ (T15.setTop (mkF m 106 #[.val (.int p0), .val (.int p1), .val (.int p2), .val (.int p3), .val (.int vg1), .val (.int vg2), .val (.int vg3), .val (.int zj5), .val (.int vg7), .val (.int vg11)] [(.int vg11), (.int vg1)]))
              refine own_via (fun t k => XS.iconst X15.here hx rfl (hb hby at_106) k) ?_
              show own_G p e below _ (T15.setTop (mkF m 107 #[.val (.int p0), .val (.int p1), .val (.int p2), .val (.int p3), .val (.int vg1), .val (.int vg2), .val (.int vg3), .val (.int zj5), .val (.int vg7), .val (.int vg11)] [(.int (1 : Int32)), (.int vg11), (.int vg1)]))
              obtain ⟨T17, X17, e17, st17⟩ := own_callP (y := (⟨"com/example/fields_in_tables/fieldsintables/NumberReaderDigitValuePinLaw", "digitChar", "(IZ)C"⟩ : MethodName)) (W := 1) X15 hx hZ hown (hw _ (List.mem_of_getElem? (i := 1) rfl)) (hw _ (List.mem_of_getElem? (i := 2) rfl)) (hw _ (List.mem_of_getElem? (i := 3) rfl)) (hw _ (List.mem_of_getElem? (i := 4) rfl)) (by decide) (own_rm1 l Z a0 hw [] vg11 (1 : Int32) h0) (by decide) (by decide) rfl rfl (by decide) (by decide) e15 (pc := 107) (Ls := #[.val (.int p0), .val (.int p1), .val (.int p2), .val (.int p3), .val (.int vg1), .val (.int vg2), .val (.int vg3), .val (.int zj5), .val (.int vg7), .val (.int vg11)]) (st := [(.int (1 : Int32)), (.int vg11), (.int vg1)]) (argsL := [(.int vg11), (.int (1 : Int32))]) (rest := [(.int vg1)]) (by rw [hml]; rfl) (lenOf own_pd0 rfl) rfl rfl (Nat.le_of_eq rfl) (hb hby at_107)
              refine own_via st17 ?_
              show own_G p e below _ (T17.setTop (mkF m 110 #[.val (.int p0), .val (.int p1), .val (.int p2), .val (.int p3), .val (.int vg1), .val (.int vg2), .val (.int vg3), .val (.int zj5), .val (.int vg7), .val (.int vg11)] [(.int (own_F1 vg11 (1 : Int32))), (.int vg1)]))
              by_cases hc18 : vg1 = (own_F1 vg11 (1 : Int32))
              ·
                refine own_via (fun t k => XS.icmpNo X17.here hx rfl (hb hby at_110) rfl (teq hc18).2 k) ?_
                show own_G p e below _ (T17.setTop (mkF m 113 #[.val (.int p0), .val (.int p1), .val (.int p2), .val (.int p3), .val (.int vg1), .val (.int vg2), .val (.int vg3), .val (.int zj5), .val (.int vg7), .val (.int vg11)] []))
                refine own_via (fun t k => XS.iconst X17.here hx rfl (hb hby at_113) k) ?_
                show own_G p e below _ (T17.setTop (mkF m 114 #[.val (.int p0), .val (.int p1), .val (.int p2), .val (.int p3), .val (.int vg1), .val (.int vg2), .val (.int vg3), .val (.int zj5), .val (.int vg7), .val (.int vg11)] [(.int (1 : Int32))]))
                refine own_via (fun t k => XS.goto X17.here hx rfl (pc0 := 114) (pc' := 118) rfl (hb hby at_114) (by decide) (by decide) k) ?_
                show own_G p e below _ (T17.setTop (mkF m 118 #[.val (.int p0), .val (.int p1), .val (.int p2), .val (.int p3), .val (.int vg1), .val (.int vg2), .val (.int vg3), .val (.int zj5), .val (.int vg7), .val (.int vg11)] [(.int (1 : Int32))]))
                exact own_retN (t := .boolean) X17 hx Bd.returns (by simp) Bd.notSynchronized (hb hby at_118) ⟨by show (some (.int (1 : Int32)) : Option Value) = some (.int (own_F0 p0 p1 p2 p3)); subst hvg11; subst hvg7; subst hzj5; subst hvg3; subst hvg2; subst hvg1; simp only [own_F0, if_pos hc9, if_neg hc12, if_neg hc13, if_pos hc14, if_neg hc16, if_pos hc18], rfl, e17⟩ (by decide) (by decide)
              ·
                refine own_via (fun t k => XS.icmpYes X17.here hx rfl (pc0 := 110) (pc' := 117) rfl (hb hby at_110) rfl (feq hc18).2 (by decide) (by decide) k) ?_
                show own_G p e below _ (T17.setTop (mkF m 117 #[.val (.int p0), .val (.int p1), .val (.int p2), .val (.int p3), .val (.int vg1), .val (.int vg2), .val (.int vg3), .val (.int zj5), .val (.int vg7), .val (.int vg11)] []))
                refine own_via (fun t k => XS.iconst X17.here hx rfl (hb hby at_117) k) ?_
                show own_G p e below _ (T17.setTop (mkF m 118 #[.val (.int p0), .val (.int p1), .val (.int p2), .val (.int p3), .val (.int vg1), .val (.int vg2), .val (.int vg3), .val (.int zj5), .val (.int vg7), .val (.int vg11)] [(.int (0 : Int32))]))
                exact own_retN (t := .boolean) X17 hx Bd.returns (by simp) Bd.notSynchronized (hb hby at_118) ⟨by show (some (.int (0 : Int32)) : Option Value) = some (.int (own_F0 p0 p1 p2 p3)); subst hvg11; subst hvg7; subst hzj5; subst hvg3; subst hvg2; subst hvg1; simp only [own_F0, if_pos hc9, if_neg hc12, if_neg hc13, if_pos hc14, if_neg hc16, if_neg hc18], rfl, e17⟩ (by decide) (by decide)
          ·
            refine own_via (fun t k => XS.icmpNo X10.here hx rfl (hb hby at_86) rfl (flt hc14).1 k) ?_
            show own_G p e below _ (T10.setTop (mkF m 89 #[.val (.int p0), .val (.int p1), .val (.int p2), .val (.int p3), .val (.int vg1), .val (.int vg2), .val (.int vg3), .val (.int zj5), .val (.int vg7), .val (.int vg11)] []))
            refine own_via (fun t k => XS.iconst X10.here hx rfl (hb hby at_89) k) ?_
            show own_G p e below _ (T10.setTop (mkF m 90 #[.val (.int p0), .val (.int p1), .val (.int p2), .val (.int p3), .val (.int vg1), .val (.int vg2), .val (.int vg3), .val (.int zj5), .val (.int vg7), .val (.int vg11)] [(.int (0 : Int32))]))
            exact own_retN (t := .boolean) X10 hx Bd.returns (by simp) Bd.notSynchronized (hb hby at_90) ⟨by show (some (.int (0 : Int32)) : Option Value) = some (.int (own_F0 p0 p1 p2 p3)); subst hvg11; subst hvg7; subst hzj5; subst hvg3; subst hvg2; subst hvg1; simp only [own_F0, if_pos hc9, if_neg hc12, if_neg hc13, if_neg hc14], rfl, e10⟩ (by decide) (by decide)
    ·
      refine own_via (fun t k => XS.icmpNo X8.here hx rfl (hb hby at_55) rfl (feq hc9).1 k) ?_
      show own_G p e below _ (T8.setTop (mkF m 58 #[.val (.int p0), .val (.int p1), .val (.int p2), .val (.int p3), .val (.int vg1), .val (.int vg2), .val (.int vg3), .val (.int zj5), .val (.int vg7), .unset] []))
      refine own_via (fun t k => XS.iconst X8.here hx rfl (hb hby at_58) k) ?_
      show own_G p e below _ (T8.setTop (mkF m 59 #[.val (.int p0), .val (.int p1), .val (.int p2), .val (.int p3), .val (.int vg1), .val (.int vg2), .val (.int vg3), .val (.int zj5), .val (.int vg7), .unset] [(.int (0 : Int32))]))
      exact own_retN (t := .boolean) X8 hx Bd.returns (by simp) Bd.notSynchronized (hb hby at_59) ⟨by show (some (.int (0 : Int32)) : Option Value) = some (.int (own_F0 p0 p1 p2 p3)); subst hvg7; subst hzj5; subst hvg3; subst hvg2; subst hvg1; simp only [own_F0, if_neg hc9], rfl, e8⟩ (by decide) (by decide)
  by_cases hc19 : (p3 &&& (1 : Int32)) = (0 : Int32)
  ·
    refine own_via (fun t k => XS.ifYes X0.here hx rfl (pc0 := 27) (pc' := 34) rfl (hb hby at_27) rfl ((if0 _ _).trans (teq hc19).1) (by decide) (by decide) k) ?_
    show own_G p e below _ (s₁.setTop (mkF m 34 #[.val (.int p0), .val (.int p1), .val (.int p2), .val (.int p3), .val (.int vg1), .val (.int vg2), .val (.int vg3), .unset, .unset, .unset] []))
    refine own_via (fun t k => XS.iconst X0.here hx rfl (hb hby at_34) k) ?_
    show own_G p e below _ (s₁.setTop (mkF m 35 #[.val (.int p0), .val (.int p1), .val (.int p2), .val (.int p3), .val (.int vg1), .val (.int vg2), .val (.int vg3), .unset, .unset, .unset] [(.int (0 : Int32))]))
    exact J4 _ X0 e0 _ (by simp only [if_pos hc19])
  ·
    refine own_via (fun t k => XS.ifNo X0.here hx rfl (hb hby at_27) rfl ((if0 _ _).trans (feq hc19).1) k) ?_
    show own_G p e below _ (s₁.setTop (mkF m 30 #[.val (.int p0), .val (.int p1), .val (.int p2), .val (.int p3), .val (.int vg1), .val (.int vg2), .val (.int vg3), .unset, .unset, .unset] []))
    refine own_via (fun t k => XS.iconst X0.here hx rfl (hb hby at_30) k) ?_
    show own_G p e below _ (s₁.setTop (mkF m 31 #[.val (.int p0), .val (.int p1), .val (.int p2), .val (.int p3), .val (.int vg1), .val (.int vg2), .val (.int vg3), .unset, .unset, .unset] [(.int (1 : Int32))]))
    refine own_via (fun t k => XS.goto X0.here hx rfl (pc0 := 31) (pc' := 35) rfl (hb hby at_31) (by decide) (by decide) k) ?_
    show own_G p e below _ (s₁.setTop (mkF m 35 #[.val (.int p0), .val (.int p1), .val (.int p2), .val (.int p3), .val (.int vg1), .val (.int vg2), .val (.int vg3), .unset, .unset, .unset] [(.int (1 : Int32))]))
    exact J4 _ X0 e0 _ (by simp only [if_neg hc19])
theorem own_digit (v up : Int32) (h0 : 0 ≤ v.toInt) (h1 : v.toInt ≤ 35) : (v.toInt < 10 → (own_F1 v up).toInt = 48 + v.toInt) ∧ (10 ≤ v.toInt → up = 0 → (own_F1 v up).toInt = 87 + v.toInt) ∧ (10 ≤ v.toInt → ¬ up = 0 → (own_F1 v up).toInt = 55 + v.toInt) := by
  have n : ∀ x : Int32, nar .char x = x.toUInt32.toUInt16.toUInt32.toInt32 := fun _ => rfl
  have key : ∀ x : Int32, 0 ≤ x.toInt → x.toInt < 65536 → (nar .char (x.toUInt32.toUInt16.toUInt32.toInt32)).toInt = x.toInt := fun x a b => by
    have e1 := c_i2c x
    have e2 := c_i2c (x.toUInt32.toUInt16.toUInt32.toInt32)
    rw [n]
    omega
  have r1 := c_iadd 48 v
  have r2 := rng32 (48 + v)
  have s1 := c_isub v 10
  have s2 := rng32 (v - 10)
  have t1 := c_iadd 97 (v - 10)
  have t2 := rng32 (97 + (v - 10))
  have u1 := c_iadd 65 (v - 10)
  have u2 := rng32 (65 + (v - 10))
  rw [show (48 : Int32).toInt = 48 from rfl] at r1
  rw [show (10 : Int32).toInt = 10 from rfl] at s1
  rw [show (97 : Int32).toInt = 97 from rfl] at t1
  rw [show (65 : Int32).toInt = 65 from rfl] at u1
  refine ⟨fun q => ?_, fun q z => ?_, fun q z => ?_⟩
  · rw [own_F1, if_pos (by rw [Int32.lt_iff_toInt_lt]; exact q), key _ (by omega) (by omega)]; omega
  · rw [own_F1, if_neg (by rw [Int32.lt_iff_toInt_lt, show (10 : Int32).toInt = 10 from rfl]; omega)]
    simp only [if_pos z]
    rw [key _ (by omega) (by omega)]; omega
  · rw [own_F1, if_neg (by rw [Int32.lt_iff_toInt_lt, show (10 : Int32).toInt = 10 from rfl]; omega)]
    simp only [if_neg z]
    rw [key _ (by omega) (by omega)]; omega
theorem own_val (c r : Int32) (h0 : 0 ≤ c.toInt) (h1 : c.toInt ≤ 65535) :
    (own_F2 c r).toInt = -1 ∨ (own_F2 c r).toInt < r.toInt ∧ ((48 ≤ c.toInt ∧ c.toInt ≤ 57 ∧ (own_F2 c r).toInt = c.toInt - 48) ∨ (97 ≤ c.toInt ∧ c.toInt ≤ 122 ∧ (own_F2 c r).toInt = c.toInt - 87) ∨ (65 ≤ c.toInt ∧ c.toInt ≤ 90 ∧ (own_F2 c r).toInt = c.toInt - 55)) := by
  have a1 := c_isub c 48
  have a2 := rng32 (c - 48)
  have b1 := c_isub c 65
  have b2 := rng32 (c - 65)
  have b3 := c_iadd (c - 65) 10
  have b4 := rng32 (c - 65 + 10)
  have d1 := c_isub c 97
  have d2 := rng32 (c - 97)
  have d3 := c_iadd (c - 97) 10
  have d4 := rng32 (c - 97 + 10)
  simp only [show (48 : Int32).toInt = 48 from rfl, show (65 : Int32).toInt = 65 from rfl, show (10 : Int32).toInt = 10 from rfl, show (97 : Int32).toInt = 97 from rfl] at *
  simp only [own_F2, Int32.lt_iff_toInt_lt, show (48 : Int32).toInt = 48 from rfl, show (57 : Int32).toInt = 57 from rfl, show (65 : Int32).toInt = 65 from rfl, show (90 : Int32).toInt = 90 from rfl, show (97 : Int32).toInt = 97 from rfl, show (122 : Int32).toInt = 122 from rfl]
  have em : (-1 : Int32).toInt = -1 := rfl
  generalize (c - 48) = x1 at *
  generalize (c - 65 + 10) = x2 at *
  generalize (c - 97 + 10) = x3 at *
  by_cases q1 : c.toInt < 48 <;> by_cases q2 : 57 < c.toInt <;> by_cases q3 : c.toInt < 97 <;> by_cases q4 : 122 < c.toInt <;> by_cases q5 : c.toInt < 65 <;> by_cases q6 : 90 < c.toInt <;> simp only [q1, q2, q3, q4, q5, q6, if_true, if_false] <;> first | omega | (split <;> omega)
theorem own_valD (c r : Int32) (h0 : 0 ≤ c.toInt) (h1 : c.toInt ≤ 65535) (v : Int) (hr : v < r.toInt) (hv : (48 ≤ c.toInt ∧ c.toInt ≤ 57 ∧ v = c.toInt - 48) ∨ (97 ≤ c.toInt ∧ c.toInt ≤ 122 ∧ v = c.toInt - 87) ∨ (65 ≤ c.toInt ∧ c.toInt ≤ 90 ∧ v = c.toInt - 55)) : (own_F2 c r).toInt = v := by
  have a1 := c_isub c 48
  have a2 := rng32 (c - 48)
  have b1 := c_isub c 65
  have b2 := rng32 (c - 65)
  have b3 := c_iadd (c - 65) 10
  have b4 := rng32 (c - 65 + 10)
  have d1 := c_isub c 97
  have d2 := rng32 (c - 97)
  have d3 := c_iadd (c - 97) 10
  have d4 := rng32 (c - 97 + 10)
  simp only [show (48 : Int32).toInt = 48 from rfl, show (65 : Int32).toInt = 65 from rfl, show (10 : Int32).toInt = 10 from rfl, show (97 : Int32).toInt = 97 from rfl] at *
  simp only [own_F2, Int32.lt_iff_toInt_lt, show (48 : Int32).toInt = 48 from rfl, show (57 : Int32).toInt = 57 from rfl, show (65 : Int32).toInt = 65 from rfl, show (90 : Int32).toInt = 90 from rfl, show (97 : Int32).toInt = 97 from rfl, show (122 : Int32).toInt = 122 from rfl]
  have em : (-1 : Int32).toInt = -1 := rfl
  generalize (c - 48) = x1 at *
  generalize (c - 65 + 10) = x2 at *
  generalize (c - 97 + 10) = x3 at *
  by_cases q1 : c.toInt < 48 <;> by_cases q2 : 57 < c.toInt <;> by_cases q3 : c.toInt < 97 <;> by_cases q4 : 122 < c.toInt <;> by_cases q5 : c.toInt < 65 <;> by_cases q6 : 90 < c.toInt <;> simp only [q1, q2, q3, q4, q5, q6, if_true, if_false] <;> first | omega | (split <;> omega)
theorem own_law (p0 p1 p2 p3 : Int32) : own_F0 p0 p1 p2 p3 = 1 := by
  simp only [own_F0]
  have hc := c_i2c p0
  generalize p0.toUInt32.toUInt16.toUInt32.toInt32 = c at *
  have hr := own_radix p1 rfl
  generalize ((2 : Int32) + ((p1 &&& (2147483647 : Int32)) - ((p1 &&& (2147483647 : Int32)) / (15 : Int32)) * (15 : Int32))) = r at *
  have hm := c_mask p2 2147483647 31 (by decide) (by decide)
  rw [irem_eq_mod]
  have hv := (c_iremV (p2 &&& 2147483647) r).1 (by omega) (by omega)
  generalize (p2 &&& 2147483647) % r = v at *
  generalize (if (p3 &&& (1 : Int32)) = (0 : Int32) then (0 : Int32) else (1 : Int32)) = up
  have hd := own_digit v up (by omega) (by omega)
  generalize own_F1 v up = d at *
  have e1 : own_F2 d r = v := by
    rw [← Int32.toInt_inj]
    by_cases q : v.toInt < 10
    · have := hd.1 q
      exact own_valD d r (by omega) (by omega) _ hv.2.1 (by omega)
    · by_cases z : up = 0
      · have := hd.2.1 (by omega) z
        exact own_valD d r (by omega) (by omega) _ hv.2.1 (by omega)
      · have := hd.2.2 (by omega) z
        exact own_valD d r (by omega) (by omega) _ hv.2.1 (by omega)
  rw [if_pos e1]
  have hw := own_val c r (by omega) (by omega)
  generalize own_F2 c r = w at *
  by_cases q : w = -1
  · rw [if_pos q]
  · rw [if_neg q]
    have q' : ¬ w.toInt = -1 := fun h => q (by rw [← Int32.toInt_inj]; exact h)
    have hw' := hw.resolve_left q'
    rw [if_neg (by rw [Int32.lt_iff_toInt_lt, show (0 : Int32).toInt = 0 from rfl]; omega), if_pos (by rw [Int32.lt_iff_toInt_lt]; omega)]
    have f0 := own_digit w 0 (by omega) (by omega)
    have f1 := own_digit w 1 (by omega) (by omega)
    rcases hw'.2 with h | h | h
    · rw [if_pos (by rw [← Int32.toInt_inj]; have := f0.1 (by omega); omega)]
    · rw [if_pos (by rw [← Int32.toInt_inj]; have := f0.2.1 (by omega) rfl; omega)]
    · rw [if_pos (show c = own_F1 w 1 by rw [← Int32.toInt_inj]; have := f1.2.2 (by omega) (by decide); omega)]
      split <;> rfl
set_option maxRecDepth 65536 in
set_option maxHeartbeats 40000000 in
theorem comes_1 {Post : Tables → Env → Array Value → State → Outcome → State → Prop} (hpost : ∀ tb e args s v u, (limb_1_1.after args s (.returned v) u = true ∧ limb_1_2.after args s (.returned v) u = true) → FrameEnd s (.returned v) u (Jvm.fieldLocs frame_1_writes args s ++ Jvm.arrayLocs frame_1_arrays args s ++ Jvm.staticLocs frame_1_statics s) 0 0 → Post tb e args s (.returned v) u) :
    ArmFor flags0 classFile x code maxLocals ret World_1 tables_1 room_1 Calls_1 rest_1 Pre_1 Post := by
  intro l hfl _ _ p e ha hc hk s m args below hf hA hF happ hP
  obtain ⟨hcalls, hrest, hpre⟩ := hP
  obtain ⟨-, -, -, hnamed, -, -, -, hat⟩ := (Spec.applies_iff hf).mp happ
  obtain ⟨hg, hn⟩ := and_e (Cond.before_iff.mp (show (Jvm.Cond.and given_1 narrow_1).before args s = true from hpre))
  obtain ⟨g1, g2⟩ := and_e hg
  obtain ⟨g3, g4⟩ := and_e g2
  obtain ⟨g5, g6⟩ := and_e g4
  obtain ⟨g7, g8⟩ := and_e g6
  obtain ⟨w0, w1, w2, w3, rfl⟩ : ∃ w0 w1 w2 w3 : Value, args = #[w0, w1, w2, w3] := by
    have hs : args.size = 4 := by simpa [Cond.value, given_1] using g1
    obtain ⟨L⟩ := args
    match L, hs with
    | [w0, w1, w2, w3], _ => exact ⟨w0, w1, w2, w3, rfl⟩
  have hw := fun d (hd : d ∈ tables_1) => atoms_spec (ws := Jvm.Cond.code x code maxLocals ret :: tables_1) hat d (List.mem_cons_of_mem _ hd)
  obtain ⟨i0, ei0⟩ := is_v g3
  obtain rfl : w0 = (.int i0) := Option.some.inj ei0
  obtain ⟨i1, ei1⟩ := is_v g5
  obtain rfl : w1 = (.int i1) := Option.some.inj ei1
  obtain ⟨i2, ei2⟩ := is_v g7
  obtain rfl : w2 = (.int i2) := Option.some.inj ei2
  obtain ⟨i3, ei3⟩ := is_v g8
  obtain rfl : w3 = (.int i3) := Option.some.inj ei3
  obtain ⟨n, o, h1, h2, h3, _, L, rfl, ⟨rfl, rfl, -⟩, hq⟩ := own_rm0 l s _ hw tables_1 i0 i1 i2 i3 s.heap p e ha hc hk s m _ below hf ((Spec.applies_iff_loose hf).mp happ).1 ⟨rfl, State.Warmed39.refl s, rfl⟩ trivial
  rw [own_law i0 i1 i2 i3] at hq h3
  refine ⟨n, _, h1, h2, h3, hpost _ _ _ _ _ _ ⟨Cond.after_iff.mpr rfl, Cond.after_iff.mpr (eq_i res_at (Term.int_eval (1)) rfl)⟩ ⟨hq.1, hq.2.1, (hq.2.2.sift fun y hy => by cases hy).mono (by decide) (by decide)⟩⟩
theorem main_1_1 : Claimed_1_1 := comes_1 fun _ _ _ _ _ _ h hF => ⟨h.1, hF⟩
theorem main_1_2 : Claimed_1_2 := comes_1 fun _ _ _ _ _ _ h hF => ⟨h.2, hF⟩
end Jvm.Pilot.@@N@@
namespace Jvm.Pilot.@@N@@
open Jvm Jvm.ClassFile Sem Op Lib Jvm.Free Jvm.Stand Jvm.Pilot.@@N@@.Jvm.D
/-! MADE BY PROGRAM (witnessworld.py) out of the Statement's table words and the real class files: 9 classes; the members and pool entries that the words name. The judged class is class 1, her method 1. -/
namespace start1
open Jvm.ClassFile
def u (s : String) : CpInfo := .utf8 (stringToUtf16 s)
/-- a pool by its gaps: so many unusable entries, then the entry; so many at the end -/
def gap : Nat → List CpInfo → List CpInfo
  | 0, r => r
  | n + 1, r => .unusable :: gap n r
def poolList (es : List (Nat × CpInfo)) (last : Nat) : List CpInfo := es.foldr (fun e r => gap e.1 (e.2 :: r)) (gap last [])
def pool (es : List (Nat × CpInfo)) (last : Nat) : Array CpInfo := ⟨poolList es last⟩
def fileOf (pool : Array CpInfo) (this : Nat) (attrs : Array Attribute := #[]) (ms : Array MethodInfo := #[]) (fl : Nat := 33) (sup : Nat := 0) (ifs : Array Nat := #[]) (fds : Array FieldInfo := #[]) : ClassFile where
  minorVersion := 0
  majorVersion := 65
  constantPool := pool
  accessFlags := fl
  thisClass := this
  superClass := sup
  interfaces := ifs
  fields := fds
  methods := ms
  attributes := attrs
def plain (name : String) (sup : Option ClassId) : Class where
  name := name
  kind := .ordinary
  loader := none
  accessFlags := 33
  super := sup
  interfaces := #[]
  cf := none
  fields := #[]
  methods := #[]
  instanceTypes := #[]
  staticTypes := #[]
  resolved := #[]
  callSites := []
  init := .initialized
  statics := none
  mirror := none

def pool0 : Array CpInfo := pool [(5, u "<init>"), (0, u "()V"), (1, .class_ 10), (1, u "java/lang/Object")] 113

def k0m0 : Method := { name := "<init>", desc := "()V", sig := { parameters := [], returnType := none }, accessFlags := 1, code := none }
/-- java/lang/Object -/
def k0 : Class := { plain "java/lang/Object" none with
  accessFlags := 33
  interfaces := #[]
  cf := some (fileOf pool0 8 #[] #[{ accessFlags := 1, nameIndex := 5, descriptorIndex := 6, attributes := #[] }] 33 0 #[] #[])
  fields := #[]
  methods := #[k0m0]
  instanceTypes := #[]
  staticTypes := #[]
  resolved := Array.replicate 124 none
  statics := none }

def pool1 : Array CpInfo := pool [(2, .class_ 4), (1, u "java/lang/Object"), (0, u "<init>"), (0, u "()V"), (0, .integer 2147483647), (0, .methodref 9 10), (0, .class_ 11), (0, .nameAndType 12 13), (0, u "com/example/fields_in_tables/fieldsintables/NumberReaderDigitValuePinLaw"), (0, u "digitChar"), (0, u "(IZ)C"), (0, .methodref 15 16), (0, .class_ 17), (0, .nameAndType 18 19), (0, u "com/example/fields_in_tables/fieldsintables/NumberReader"), (0, u "digitValue"), (0, u "(CI)I"), (2, u "law"), (0, u "(IIII)Z")] 3

def k1m0 : Method := { name := "<init>", desc := "()V", sig := { parameters := [], returnType := none }, accessFlags := 1, code := none }
def k1c1 : Code := { maxStack := 3, maxLocals := 10, code := code, exceptionTable := #[], attributes := #[] }
def k1m1 : Method := { name := "law", desc := "(IIII)Z", sig := { parameters := [.int, .int, .int, .int], returnType := some .boolean }, accessFlags := 9, code := some k1c1 }
def k1c2 : Code := { maxStack := 3, maxLocals := 3, code := method_3_code, exceptionTable := #[], attributes := #[] }
def k1m2 : Method := { name := "digitChar", desc := "(IZ)C", sig := { parameters := [.int, .boolean], returnType := some .char }, accessFlags := 10, code := some k1c2 }
/-- com/example/fields_in_tables/fieldsintables/NumberReaderDigitValuePinLaw -/
def k1 : Class := { plain "com/example/fields_in_tables/fieldsintables/NumberReaderDigitValuePinLaw" (some 0) with
  accessFlags := 49
  interfaces := #[]
  cf := some (fileOf pool1 9 #[] #[{ accessFlags := 1, nameIndex := 5, descriptorIndex := 6, attributes := #[] }, { accessFlags := 9, nameIndex := 22, descriptorIndex := 23, attributes := #[] }, { accessFlags := 10, nameIndex := 12, descriptorIndex := 13, attributes := #[] }] 49 2 #[] #[])
  fields := #[]
  methods := #[k1m0, k1m1, k1m2]
  instanceTypes := #[]
  staticTypes := #[]
  resolved := Array.replicate 27 none
  statics := none }

def pool2 : Array CpInfo := pool [(2, .class_ 4), (1, u "java/lang/Object"), (3, .class_ 10), (1, u "com/example/fields_in_tables/fieldsintables/NumberReader"), (0, u "chars"), (0, u "[C"), (2, u "start"), (0, u "I"), (2, u "end"), (2, u "pos"), (2, u "digitValue"), (0, u "(CI)I"), (196, u "POINT_BETWEEN_DIGITS"), (0, u "Ljava/lang/String;"), (1, u "MAX_SIGNIFICANT_DIGITS"), (1, u "EXPONENT_BOUND"), (0, u "J")] 41

def k2c0 : Code := { maxStack := 2, maxLocals := 3, code := prog_23_method_4_code, exceptionTable := #[], attributes := #[] }
def k2m0 : Method := { name := "digitValue", desc := "(CI)I", sig := { parameters := [.char, .int], returnType := some .int }, accessFlags := 8, code := some k2c0 }
/-- com/example/fields_in_tables/fieldsintables/NumberReader -/
def k2 : Class := { plain "com/example/fields_in_tables/fieldsintables/NumberReader" (some 0) with
  accessFlags := 32
  interfaces := #[]
  cf := some (fileOf pool2 8 #[] #[{ accessFlags := 8, nameIndex := 25, descriptorIndex := 26, attributes := #[] }] 32 2 #[] #[{ accessFlags := 26, nameIndex := 223, descriptorIndex := 224, attributes := #[] }, { accessFlags := 26, nameIndex := 226, descriptorIndex := 16, attributes := #[] }, { accessFlags := 26, nameIndex := 228, descriptorIndex := 229, attributes := #[] }, { accessFlags := 18, nameIndex := 11, descriptorIndex := 12, attributes := #[] }, { accessFlags := 18, nameIndex := 15, descriptorIndex := 16, attributes := #[] }, { accessFlags := 18, nameIndex := 19, descriptorIndex := 16, attributes := #[] }, { accessFlags := 2, nameIndex := 22, descriptorIndex := 16, attributes := #[] }])
  fields := #[{ name := "POINT_BETWEEN_DIGITS", type := (.object "java/lang/String"), accessFlags := 26, slot := 0, constantValue := 0 }, { name := "MAX_SIGNIFICANT_DIGITS", type := .int, accessFlags := 26, slot := 1, constantValue := 0 }, { name := "EXPONENT_BOUND", type := .long, accessFlags := 26, slot := 2, constantValue := 0 }, { name := "chars", type := (.array .char), accessFlags := 18, slot := 0, constantValue := 0 }, { name := "start", type := .int, accessFlags := 18, slot := 1, constantValue := 0 }, { name := "end", type := .int, accessFlags := 18, slot := 2, constantValue := 0 }, { name := "pos", type := .int, accessFlags := 2, slot := 3, constantValue := 0 }]
  methods := #[k2m0]
  instanceTypes := #[(.array .char), .int, .int, .int]
  staticTypes := #[(.object "java/lang/String"), .int, .long]
  resolved := Array.replicate 271 none
  statics := none }

def pool3 : Array CpInfo := pool [(1, u "java/lang/Cloneable"), (0, .class_ 1), (0, u "java/lang/Object"), (0, .class_ 3)] 3

/-- java/lang/Cloneable -/
def k3 : Class := { plain "java/lang/Cloneable" (some 0) with
  accessFlags := 1537
  interfaces := #[]
  cf := some (fileOf pool3 2 #[] #[] 1537 4 #[] #[])
  fields := #[]
  methods := #[]
  instanceTypes := #[]
  staticTypes := #[]
  resolved := Array.replicate 8 none
  statics := none }

def pool4 : Array CpInfo := pool [(1, u "java/io/Serializable"), (0, .class_ 1), (0, u "java/lang/Object"), (0, .class_ 3)] 3

/-- java/io/Serializable -/
def k4 : Class := { plain "java/io/Serializable" (some 0) with
  accessFlags := 1537
  interfaces := #[]
  cf := some (fileOf pool4 2 #[] #[] 1537 4 #[] #[])
  fields := #[]
  methods := #[]
  instanceTypes := #[]
  staticTypes := #[]
  resolved := Array.replicate 8 none
  statics := none }

/-- the primitive byte -/
def k5 : Class := { plain "byte" none with kind := .primitive 'B', accessFlags := 0x411 }
/-- [B -/
def k6 : Class := { plain "[B" (some 0) with kind := .array 5 .byte, interfaces := #[3, 4], accessFlags := 1041 }

/-- the primitive int -/
def k7 : Class := { plain "int" none with kind := .primitive 'I', accessFlags := 0x411 }
/-- [I -/
def k8 : Class := { plain "[I" (some 0) with kind := .array 7 .int, interfaces := #[3, 4], accessFlags := 1041 }

def heap : Heap := #[]
def classes : Array Class := #[k0, k1, k2, k3, k4, k5, k6, k7, k8]
def interned : List (Array UInt16 × Addr) := []
def slotsUsed : Nat := 0
def theMethod : MethodId := ⟨1, 1⟩
def args0 : Array Value := #[.int 5, .int 300, .int 7, .int 2]
def aboutOver (below : List Frame) : State where
  vm := { classes := classes, interned := interned.toArray }
  heap := heap
  slotsUsed := slotsUsed
  threads := #[{ frames := .invoking theMethod args0 :: below }]
def below0 : List Frame := [.native { method := ⟨0, 0⟩, args := #[] }]
def about1 : State := aboutOver below0
def p0 : Program := .bare "" "" ""
def e0 : Env := launch0.env 0 0 0
theorem w_frames : about1.frames = Frame.invoking theMethod args0 :: below0 := rfl
set_option maxRecDepth 65536 in
theorem w_args : argsFit about1.vm theMethod args0 = true := by decide +kernel
set_option maxRecDepth 65536 in
theorem w_heap : heapFits about1 = true := by decide +kernel
set_option maxRecDepth 65536 in
theorem w_runnable : about1.curStatus? = some .runnable := by decide +kernel
set_option maxRecDepth 65536 in
theorem w_alone : about1.alone = true := by decide +kernel
set_option maxRecDepth 65536 in
theorem w_named : about1.methodNamed? x = some theMethod := by decide +kernel
set_option maxRecDepth 65536 in
theorem w_hears : about1.hears theMethod below0 = true := by decide +kernel
set_option maxRecDepth 65536 in
theorem w_ripe : about1.ripe theMethod args0 below0 = true := by decide +kernel
theorem w_running : about1.status = .running := rfl
set_option maxRecDepth 65536 in
theorem w_room : about1.hasRoom e0.platform room_1 = true :=
  launch0.hasRoom_least _ room_1 (by decide +kernel) (by decide +kernel) (by decide +kernel) (by decide +kernel) (by decide +kernel) (by decide +kernel)
theorem allAtoms_all (ts : List Jvm.Cond) (a : Array Jvm.Value) (st : Jvm.State) : (allAtoms ts).before a st = ts.all (fun c => c.before a st) := by
  induction ts with
  | nil => rfl
  | cons c t ih =>
    show (Jvm.Cond.and c (allAtoms t)).before a st = _
    rw [Jvm.Cond.before_and, ih, List.all_cons]
def words1 : List Jvm.Cond := Jvm.Cond.code x code maxLocals ret :: tables_1
/-- a 'code' word, met by the world's own term for the bytes: nothing is compared byte by byte -/
theorem code_word {y : MethodName} {bytes : ByteArray} {mx : Nat} {rt : Option FieldType} {a : Array Value} {s : State} {m : MethodId} {meth : Method} {c : Code} (h1 : s.methodNamed? y = some m) (h2 : s.vm.method? m = some meth) (h3 : meth.code = some c) (h4 : c.code = bytes)
    (h5 : (c.maxLocals == mx && c.exceptionTable.isEmpty && decide (c.maxStack ≤ mostOperands) && decide (meth.sig.returnType = rt) && !meth.locks && decide (parseMethodDescriptor y.desc = some meth.sig)) = true) : (Jvm.Cond.code y bytes mx rt).before a s = true := by
  simp only [Bool.and_eq_true, beq_iff_eq, Bool.not_eq_true', decide_eq_true_eq] at h5
  obtain ⟨⟨⟨⟨⟨g1, g2⟩, g3⟩, g4⟩, g5⟩, g6⟩ := h5
  simp [Cond.before, Cond.holds, Cond.value, h1, h2, h3, h4, g1, g2, g3, g4, g5, g6]
def isCode : Jvm.Cond → Bool
  | .code _ _ _ _ => true
  | _ => false
theorem all_split {L : List Jvm.Cond} {P : Jvm.Cond → Bool} (h1 : L.all (fun c => isCode c || P c) = true) (h2 : ∀ c ∈ L.filter isCode, P c = true) : L.all P = true := by
  refine List.all_eq_true.mpr fun c hc => ?_
  have h := List.all_eq_true.mp h1 c hc
  rcases Bool.eq_false_or_eq_true (isCode c) with hi | hi
  · exact h2 c (List.mem_filter.mpr ⟨hc, hi⟩)
  · simpa [hi] using h
set_option maxRecDepth 65536 in
theorem w_c0 : (Jvm.Cond.code x code maxLocals ret).before args0 about1 = true := code_word (m := ⟨1, 1⟩) (meth := k1m1) (c := k1c1) (by decide +kernel) rfl rfl rfl (by decide +kernel)
set_option maxRecDepth 65536 in
theorem w_c1 : (Jvm.Cond.code ({ cls := "com/example/fields_in_tables/fieldsintables/NumberReaderDigitValuePinLaw", name := "digitChar", desc := "(IZ)C" } : Jvm.MethodName) method_3_code (3 : Nat) (Option.some Jvm.ClassFile.FieldType.char)).before args0 about1 = true := code_word (m := ⟨1, 2⟩) (meth := k1m2) (c := k1c2) (by decide +kernel) rfl rfl rfl (by decide +kernel)
set_option maxRecDepth 65536 in
theorem w_c2 : (Jvm.Cond.code ({ cls := "com/example/fields_in_tables/fieldsintables/NumberReader", name := "digitValue", desc := "(CI)I" } : Jvm.MethodName) prog_23_method_4_code (3 : Nat) (Option.some Jvm.ClassFile.FieldType.int)).before args0 about1 = true := code_word (m := ⟨2, 0⟩) (meth := k2m0) (c := k2c0) (by decide +kernel) rfl rfl rfl (by decide +kernel)
def codes1 : List Jvm.Cond := [Jvm.Cond.code x code maxLocals ret, Jvm.Cond.code ({ cls := "com/example/fields_in_tables/fieldsintables/NumberReaderDigitValuePinLaw", name := "digitChar", desc := "(IZ)C" } : Jvm.MethodName) method_3_code (3 : Nat) (Option.some Jvm.ClassFile.FieldType.char), Jvm.Cond.code ({ cls := "com/example/fields_in_tables/fieldsintables/NumberReader", name := "digitValue", desc := "(CI)I" } : Jvm.MethodName) prog_23_method_4_code (3 : Nat) (Option.some Jvm.ClassFile.FieldType.int)]
set_option maxRecDepth 65536 in
theorem codes_eq : words1.filter isCode = codes1 := rfl
theorem w_codes : ∀ c ∈ words1.filter isCode, c.before args0 about1 = true := by
  rw [codes_eq]
  intro c hc
  simp only [codes1, List.mem_cons, List.not_mem_nil, or_false] at hc
  rcases hc with rfl | rfl | rfl
  · exact w_c0
  · exact w_c1
  · exact w_c2
set_option maxRecDepth 65536 in
theorem w_t1 : words1.all (fun c => isCode c || c.before args0 about1) = true := by decide +kernel
theorem w_tables : (allAtoms (Jvm.Cond.code x code maxLocals ret :: tables_1)).before args0 about1 = true := by
  rw [allAtoms_all]
  show words1.all (fun c => c.before args0 about1) = true
  refine all_split ?_ w_codes
  rw [w_t1]
set_option maxRecDepth 65536 in
theorem w_case : (Jvm.Cond.and given_1 narrow_1).before args0 about1 = true := by decide +kernel
theorem w_applies : (headSpec (Jvm.Cond.code x code maxLocals ret :: tables_1) room_1).applies x e0.platform about1 = true :=
  (Spec.applies_iff w_frames).mpr ⟨w_running, w_runnable, w_alone, w_named, w_hears, w_ripe, w_room, w_tables⟩
theorem atStart : AtStart classFile x code maxLocals ret World_1 tables_1 room_1 Calls_1 rest_1 Pre_1 launch0 p0 e0 about1 theMethod args0 below0 :=
  ⟨lists_1, trivial, launch0.admits_env _ _ _, launch0.least_env, fairChoices_fair.cas, fairChoices_fair.clock, w_frames, w_args, w_heap, w_applies, trivial, trivial, w_case⟩
end start1
theorem witness_1 : WitnessClaimed_1 := ⟨start1.p0, start1.e0, start1.about1, start1.theMethod, start1.args0, start1.below0, start1.atStart⟩
end Jvm.Pilot.@@N@@
