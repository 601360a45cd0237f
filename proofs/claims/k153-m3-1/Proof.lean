import JvmDerived
import JvmDerived.Pilot.@@N@@Statement
import JvmDerived.Pilot.@@N@@Code
set_option linter.unusedVariables false
set_option linter.unusedSimpArgs false
set_option maxRecDepth 65536
set_option maxHeartbeats 20000000
namespace Jvm.Pilot.@@N@@
open Jvm Jvm.ClassFile Sem Op Lib Jvm.Free Jvm.Stand Jvm.LawKit Jvm.RoadKit Bundle Jvm.Pilot.@@N@@.Jvm.D
section OwnKit
variable {p : Program} {l : Launch} {e : Env} {R : Room} {s : State} {m : MethodId} {args : Array Value} {below : List Frame} {meth : Method} {c : Code} {T : State} {locs : List Loc} {cells slots : Nat} {Z : State} {a0 : Array Value} {h0 : Heap}
/-- from this state the run comes to the end of the invocation, and there P holds -/
def own_G (p : Program) (e : Env) (below : List Frame) (P : Outcome → State → Prop) (st : State) : Prop :=
  ∃ (u : State) (o : Outcome), Steps p.tables e below st u ∧ u.status = .running ∧ Ended u below o ∧ P o u
theorem own_via {P : Outcome → State → Prop} {st st' : State} (k : ∀ t, Steps p.tables e below st' t → Steps p.tables e below st t) (h : own_G p e below P st') : own_G p e below P st := by
  obtain ⟨u, o, h1, h2⟩ := h
  exact ⟨u, o, k _ h1, h2⟩
/-- what a contract says of the end -/
def own_P (s : State) (Q : Option Value → Heap → List Loc → Prop) (k n : Nat) : Outcome → State → Prop := fun o u => ∃ v L, o = .returned v ∧ Q v u.heap L ∧ FrameEnd s o u L k n
/-- it returns w and leaves the heap as it was -/
def own_Q (w : Value) (h0 : Heap) : Option Value → Heap → List Loc → Prop := fun v h L => v = some w ∧ L = [] ∧ h = h0
/-- a contract -/
def own_C (l : Launch) (Z : State) (y : MethodName) (bytes : ByteArray) (maxL : Nat) (ret : Option FieldType) (ws : List Jvm.Cond) (rm : Room) (as : Array Value) (h0 : Heap) (Q : Option Value → Heap → List Loc → Prop) : Prop :=
  MetFree l y (head1 (Jvm.Cond.code y bytes maxL ret :: ws) rm) (fun a U => a = as ∧ Z.Warmed39 U.vm ∧ U.heap = h0) (fun _ _ _ _ _ => True) (fun _ U o U' => ∃ v L, o = .returned v ∧ Q v U'.heap L ∧ FrameEnd U o U' L rm.cells rm.slots)
theorem own_ret {v : Option Value} {Q : Option Value → Heap → List Loc → Prop} {k n : Nat} {st : State} (X : Stand p l e R s m args below meth c T locs cells slots) (hv : meth.sig.returnType = none → v = none) (hlocks : meth.locks = false)
    (hst : ∀ fs, (∀ (f : JFrame) (acts : List Action), f.method = m → f.locked = none → f.entered = [] → (doReturn e (T.setTop f) acts v).1 = T.setFrames fs) → Steps p.tables e below st (T.setFrames fs))
    (hQ : Q v T.heap locs) (hk : cells ≤ k) (hn : slots ≤ n) : own_G p e below (own_P s Q k n) st := by
  obtain ⟨fs, hr, hrun, hended, hW, hsame⟩ := X.leave (v := v) hv hlocks
  exact ⟨_, _, hst fs hr, hrun, hended, _, _, rfl, hQ, ⟨_, rfl⟩, hW, hsame.mono hk hn⟩
theorem own_retI {Q : Option Value → Heap → List Loc → Prop} {k n : Nat} (X : Stand p l e R s m args below meth c T locs cells slots) (hx : p.tables.exec = Jvm.exec) {pc : Nat} {Ls : Array Slot} {z : Int32} {rest : List Value} (hret : meth.sig.returnType = some .int) (hlocks : meth.locks = false) (hd : decode c.code pc = .ok (.ireturn, 1))
    (hQ : Q (some (.int z)) T.heap locs) (hk : cells ≤ k) (hn : slots ≤ n) : own_G p e below (own_P s Q k n) (T.setTop (mkF m pc Ls (.int z :: rest))) := by
  refine own_ret X (fun h => by rw [hret] at h; cases h) hlocks (fun fs hr => ?_) hQ hk hn
  have hm' : T.vm.method? m = some meth := X.method'
  have hn : narrow .int (.int z) = .int z := rfl
  show Steps p.tables e below (T.setTop { method := m, pc := pc, locals := Ls, stack := _ :: rest, locked := none }) _
  jvm_step X.here [X.here.top, hx, hd, hm', hret, hn]
  first | (intro acts; rw [hr _ acts rfl rfl rfl]) | rw [hr _ _ rfl rfl rfl]
  exact Steps.refl _
theorem own_retN {Q : Option Value → Heap → List Loc → Prop} {k n : Nat} {t : FieldType} (X : Stand p l e R s m args below meth c T locs cells slots) (hx : p.tables.exec = Jvm.exec) {pc : Nat} {Ls : Array Slot} {z : Int32} {rest : List Value} (hret : meth.sig.returnType = some t) (ht : t = .boolean ∨ t = .byte ∨ t = .char ∨ t = .short) (hlocks : meth.locks = false) (hd : decode c.code pc = .ok (.ireturn, 1))
    (hQ : Q (some (.int (nar t z))) T.heap locs) (hk : cells ≤ k) (hn : slots ≤ n) : own_G p e below (own_P s Q k n) (T.setTop (mkF m pc Ls (.int z :: rest))) :=
  own_ret X (fun h => by rw [hret] at h; cases h) hlocks (fun fs hr => retN X hx hret ht hd hr) hQ hk hn
theorem own_retL {Q : Option Value → Heap → List Loc → Prop} {k n : Nat} (X : Stand p l e R s m args below meth c T locs cells slots) (hx : p.tables.exec = Jvm.exec) {pc : Nat} {Ls : Array Slot} {z : Int64} (hret : meth.sig.returnType = some .long) (hlocks : meth.locks = false) (hd : decode c.code pc = .ok (.lreturn, 1))
    (hQ : Q (some (.long z)) T.heap locs) (hk : cells ≤ k) (hn : slots ≤ n) : own_G p e below (own_P s Q k n) (T.setTop (mkF m pc Ls [.long z])) :=
  own_ret X (fun h => by rw [hret] at h; cases h) hlocks (fun fs hr => X.lreturnOut hx hret hd hr) hQ hk hn
theorem own_retV {Q : Option Value → Heap → List Loc → Prop} {k n : Nat} (X : Stand p l e R s m args below meth c T locs cells slots) (hx : p.tables.exec = Jvm.exec) {pc : Nat} {Ls : Array Slot} (hret : meth.sig.returnType = none) (hlocks : meth.locks = false) (hd : decode c.code pc = .ok (.return_, 1))
    (hQ : Q none T.heap locs) (hk : cells ≤ k) (hn : slots ≤ n) : own_G p e below (own_P s Q k n) (T.setTop (mkF m pc Ls [])) :=
  own_ret X (fun _ => rfl) hlocks (fun fs hr => X.returnOut hx hret hd hr) hQ hk hn
theorem own_retA {Q : Option Value → Heap → List Loc → Prop} {k n : Nat} {t : FieldType} {v : Value} (X : Stand p l e R s m args below meth c T locs cells slots) (hx : p.tables.exec = Jvm.exec) {pc : Nat} {Ls : Array Slot} {rest : List Value} (hret : meth.sig.returnType = some t) (ht : t.isReference = true) (hv : v.isRef = true) (hlocks : meth.locks = false) (hd : decode c.code pc = .ok (.areturn, 1))
    (hQ : Q (some v) T.heap locs) (hk : cells ≤ k) (hn : slots ≤ n) : own_G p e below (own_P s Q k n) (T.setTop (mkF m pc Ls (v :: rest))) := by
  refine own_ret X (fun h => by rw [hret] at h; cases h) hlocks (fun fs hr => ?_) hQ hk hn
  have hm' : T.vm.method? m = some meth := X.method'
  show Steps p.tables e below (T.setTop { method := m, pc := pc, locals := Ls, stack := _ :: rest, locked := none }) _
  jvm_step X.here [X.here.top, hx, hd, hm', hret, ht, hv]
  first | (intro acts; rw [hr _ acts rfl rfl rfl]) | rw [hr _ _ rfl rfl rfl]
  exact Steps.refl _
/-- a static method by its contract -/
theorem own_callS {own : String} {index : Nat} {y : MethodName} {bytes : ByteArray} {maxL W : Nat} {ret : Option FieldType} {rm : Room} {as : Array Value} {Q : Option Value → Heap → List Loc → Prop}
    (X : Stand p l e R s m args below meth c T locs cells slots) (hx : p.tables.exec = Jvm.exec) (hZ : Z.Warmed39 s.vm) (hown : s.vm.findClass own = some m.cls)
    (w1 : (Jvm.Cond.methodLink own index y).before a0 Z = true) (w2 : (Jvm.Cond.static y).before a0 Z = true) (w3 : (Jvm.Cond.initialized y.cls).before a0 Z = true) (w4 : (Jvm.Cond.code y bytes maxL ret).before a0 Z = true)
    (hy : y.cls ≠ "java/lang/invoke/MethodHandle" ∧ y.cls ≠ "java/lang/invoke/VarHandle") (hM : own_C l Z y bytes maxL ret [] rm as h0 Q)
    (hf : rm.frames + 1 ≤ R.frames) (hl : W + (maxL + 11) + rm.locals ≤ R.locals) (hcc : cells + rm.cells ≤ R.cells) (hss : slots + rm.slots ≤ R.slots) (e0 : T.heap = h0)
    {pc : Nat} {Ls : Array Slot} {st argsL rest : List Value} (hsize : Ls.size = c.maxLocals) (hlen : ∀ sig, parseMethodDescriptor y.desc = some sig → argsL.length = sig.parameters.length) (has : argsL.toArray = as)
    (hst : st = argsL.reverse ++ rest) (hW : 2 * 0 + (rest.map fun v => v.category).sum ≤ W) (hd : decode c.code pc = .ok (.invokestatic index, 3)) :
    ∃ (v : Option Value) (T' : State) (L : List Loc), Stand p l e R s m args below meth c T' (locs ++ L) (cells + rm.cells) (slots + rm.slots) ∧ Q v T'.heap L ∧
      ∀ target, Steps p.tables e below (T'.setTop (mkF m (pc + 3) Ls (v.toList ++ rest))) target → Steps p.tables e below (T.setTop (mkF m pc Ls st)) target := by
  obtain ⟨v, _, ⟨T', L', k', n'⟩, -, X', ⟨Lc, hQ, h1, h2, h3⟩, stp⟩ := Jvm.LawKit.callS X hx (y := y) hown (mvT hZ w1) (mvT hZ w2) (mvT hZ w3) (mvT hZ w4) hy
    (backOf (W := W) hM hZ w4 w3 hf hl) (g := mkF m pc Ls st) rfl hsize (argsL := argsL) (rest := rest) hlen hst hW hd (fun _ _ => ⟨has, e0, hcc, hss⟩)
  dsimp only [Pt.U, Pt.locs, Pt.cells, Pt.slots] at X' h1 h2 h3 stp hQ
  subst h1 h2 h3
  exact ⟨v, T', Lc, X', hQ, stp⟩
/-- a static method that leaves the heap as it was -/
theorem own_callP {own : String} {index : Nat} {y : MethodName} {bytes : ByteArray} {maxL W : Nat} {ret : Option FieldType} {rm : Room} {as : Array Value} {w : Value}
    (X : Stand p l e R s m args below meth c T locs cells slots) (hx : p.tables.exec = Jvm.exec) (hZ : Z.Warmed39 s.vm) (hown : s.vm.findClass own = some m.cls)
    (w1 : (Jvm.Cond.methodLink own index y).before a0 Z = true) (w2 : (Jvm.Cond.static y).before a0 Z = true) (w3 : (Jvm.Cond.initialized y.cls).before a0 Z = true) (w4 : (Jvm.Cond.code y bytes maxL ret).before a0 Z = true)
    (hy : y.cls ≠ "java/lang/invoke/MethodHandle" ∧ y.cls ≠ "java/lang/invoke/VarHandle") (hM : own_C l Z y bytes maxL ret [] rm as h0 (own_Q w h0))
    (hf : rm.frames + 1 ≤ R.frames) (hl : W + (maxL + 11) + rm.locals ≤ R.locals) (hrc : rm.cells = 0) (hrs : rm.slots = 0) (hcc : cells + rm.cells ≤ R.cells) (hss : slots + rm.slots ≤ R.slots) (e0 : T.heap = h0)
    {pc : Nat} {Ls : Array Slot} {st argsL rest : List Value} (hsize : Ls.size = c.maxLocals) (hlen : ∀ sig, parseMethodDescriptor y.desc = some sig → argsL.length = sig.parameters.length) (has : argsL.toArray = as)
    (hst : st = argsL.reverse ++ rest) (hW : 2 * 0 + (rest.map fun v => v.category).sum ≤ W) (hd : decode c.code pc = .ok (.invokestatic index, 3)) :
    ∃ (T' : State), Stand p l e R s m args below meth c T' locs cells slots ∧ T'.heap = h0 ∧
      ∀ target, Steps p.tables e below (T'.setTop (mkF m (pc + 3) Ls (w :: rest))) target → Steps p.tables e below (T.setTop (mkF m pc Ls st)) target := by
  obtain ⟨v, T', L, X', ⟨rfl, rfl, hh⟩, stp⟩ := own_callS X hx hZ hown w1 w2 w3 w4 hy hM hf hl hcc hss e0 hsize hlen has hst hW hd
  rw [List.append_nil, hrc, hrs] at X'
  exact ⟨T', X', hh, stp⟩
theorem own_b1 {x a : Int32} (h : x < a) : x.toInt ≤ a.toInt - 1 := by rw [Int32.lt_iff_toInt_lt] at h; omega
theorem own_b2 {x a : Int32} (h : ¬ x < a) : a.toInt ≤ x.toInt := by rw [Int32.lt_iff_toInt_lt] at h; omega
theorem own_b3 {x a : Int32} (h : a < x) : a.toInt + 1 ≤ x.toInt := by rw [Int32.lt_iff_toInt_lt] at h; omega
theorem own_b4 {x a : Int32} (h : ¬ a < x) : x.toInt ≤ a.toInt := by rw [Int32.lt_iff_toInt_lt] at h; omega
theorem own_b5 {x b : Int32} {k : Int} (h : x.toInt ≤ k) (q : k < b.toInt) : x < b := by rw [Int32.lt_iff_toInt_lt]; omega
theorem own_b6 {x b : Int32} {k : Int} (h : k ≤ x.toInt) (q : b.toInt ≤ k) : ¬ x < b := by rw [Int32.lt_iff_toInt_lt]; omega
theorem own_b7 {x b : Int32} {k : Int} (h : k ≤ x.toInt) (q : b.toInt < k) : b < x := by rw [Int32.lt_iff_toInt_lt]; omega
theorem own_b8 {x b : Int32} {k : Int} (h : x.toInt ≤ k) (q : k ≤ b.toInt) : ¬ b < x := by rw [Int32.lt_iff_toInt_lt]; omega
theorem own_b9 {x b : Int32} {k : Int} (h : x.toInt ≤ k) (q : k < b.toInt) : ¬ x = b := fun e => by subst e; omega
theorem own_b10 {x b : Int32} {k : Int} (h : k ≤ x.toInt) (q : b.toInt < k) : ¬ x = b := fun e => by subst e; omega
theorem own_q1 {x a b : Int32} (h : x = a) (q : a < b) : x < b := h ▸ q
theorem own_q2 {x a b : Int32} (h : x = a) (q : ¬ a < b) : ¬ x < b := h ▸ q
theorem own_q3 {x a b : Int32} (h : x = a) (q : b < a) : b < x := h ▸ q
theorem own_q4 {x a b : Int32} (h : x = a) (q : ¬ b < a) : ¬ b < x := h ▸ q
theorem own_q5 {x a b : Int32} (h : x = a) (q : a = b) : x = b := h ▸ q
theorem own_q6 {x a b : Int32} (h : x = a) (q : ¬ a = b) : ¬ x = b := h ▸ q
end OwnKit
theorem own_pd0 : parseMethodDescriptor "(JJ)J" = some ⟨[.long, .long], some .long⟩ := by decide +kernel
theorem own_d2_0 : decode jdk_29_method_45_code 0 = .ok (.lload_n 0, 1) := by decide +kernel
theorem own_d2_1 : decode jdk_29_method_45_code 1 = .ok (.bipush 32, 2) := by decide +kernel
theorem own_d2_3 : decode jdk_29_method_45_code 3 = .ok (.lshr, 1) := by decide +kernel
theorem own_d2_4 : decode jdk_29_method_45_code 4 = .ok (.lstore 4, 2) := by decide +kernel
theorem own_d2_6 : decode jdk_29_method_45_code 6 = .ok (.lload_n 0, 1) := by decide +kernel
theorem own_d2_7 : decode jdk_29_method_45_code 7 = .ok (.ldc2_w 138, 3) := by decide +kernel
theorem own_d2_10 : decode jdk_29_method_45_code 10 = .ok (.land, 1) := by decide +kernel
theorem own_d2_11 : decode jdk_29_method_45_code 11 = .ok (.lstore 6, 2) := by decide +kernel
theorem own_d2_13 : decode jdk_29_method_45_code 13 = .ok (.lload_n 2, 1) := by decide +kernel
theorem own_d2_14 : decode jdk_29_method_45_code 14 = .ok (.bipush 32, 2) := by decide +kernel
theorem own_d2_16 : decode jdk_29_method_45_code 16 = .ok (.lshr, 1) := by decide +kernel
theorem own_d2_17 : decode jdk_29_method_45_code 17 = .ok (.lstore 8, 2) := by decide +kernel
theorem own_d2_19 : decode jdk_29_method_45_code 19 = .ok (.lload_n 2, 1) := by decide +kernel
theorem own_d2_20 : decode jdk_29_method_45_code 20 = .ok (.ldc2_w 138, 3) := by decide +kernel
theorem own_d2_23 : decode jdk_29_method_45_code 23 = .ok (.land, 1) := by decide +kernel
theorem own_d2_24 : decode jdk_29_method_45_code 24 = .ok (.lstore 10, 2) := by decide +kernel
theorem own_d2_26 : decode jdk_29_method_45_code 26 = .ok (.lload 6, 2) := by decide +kernel
theorem own_d2_28 : decode jdk_29_method_45_code 28 = .ok (.lload 10, 2) := by decide +kernel
theorem own_d2_30 : decode jdk_29_method_45_code 30 = .ok (.lmul, 1) := by decide +kernel
theorem own_d2_31 : decode jdk_29_method_45_code 31 = .ok (.lstore 12, 2) := by decide +kernel
theorem own_d2_33 : decode jdk_29_method_45_code 33 = .ok (.lload 4, 2) := by decide +kernel
theorem own_d2_35 : decode jdk_29_method_45_code 35 = .ok (.lload 10, 2) := by decide +kernel
theorem own_d2_37 : decode jdk_29_method_45_code 37 = .ok (.lmul, 1) := by decide +kernel
theorem own_d2_38 : decode jdk_29_method_45_code 38 = .ok (.lload 12, 2) := by decide +kernel
theorem own_d2_40 : decode jdk_29_method_45_code 40 = .ok (.bipush 32, 2) := by decide +kernel
theorem own_d2_42 : decode jdk_29_method_45_code 42 = .ok (.lushr, 1) := by decide +kernel
theorem own_d2_43 : decode jdk_29_method_45_code 43 = .ok (.ladd, 1) := by decide +kernel
theorem own_d2_44 : decode jdk_29_method_45_code 44 = .ok (.lstore 14, 2) := by decide +kernel
theorem own_d2_46 : decode jdk_29_method_45_code 46 = .ok (.lload 14, 2) := by decide +kernel
theorem own_d2_48 : decode jdk_29_method_45_code 48 = .ok (.ldc2_w 138, 3) := by decide +kernel
theorem own_d2_51 : decode jdk_29_method_45_code 51 = .ok (.land, 1) := by decide +kernel
theorem own_d2_52 : decode jdk_29_method_45_code 52 = .ok (.lstore 16, 2) := by decide +kernel
theorem own_d2_54 : decode jdk_29_method_45_code 54 = .ok (.lload 14, 2) := by decide +kernel
theorem own_d2_56 : decode jdk_29_method_45_code 56 = .ok (.bipush 32, 2) := by decide +kernel
theorem own_d2_58 : decode jdk_29_method_45_code 58 = .ok (.lshr, 1) := by decide +kernel
theorem own_d2_59 : decode jdk_29_method_45_code 59 = .ok (.lstore 18, 2) := by decide +kernel
theorem own_d2_61 : decode jdk_29_method_45_code 61 = .ok (.lload 16, 2) := by decide +kernel
theorem own_d2_63 : decode jdk_29_method_45_code 63 = .ok (.lload 6, 2) := by decide +kernel
theorem own_d2_65 : decode jdk_29_method_45_code 65 = .ok (.lload 8, 2) := by decide +kernel
theorem own_d2_67 : decode jdk_29_method_45_code 67 = .ok (.lmul, 1) := by decide +kernel
theorem own_d2_68 : decode jdk_29_method_45_code 68 = .ok (.ladd, 1) := by decide +kernel
theorem own_d2_69 : decode jdk_29_method_45_code 69 = .ok (.lstore 16, 2) := by decide +kernel
theorem own_d2_71 : decode jdk_29_method_45_code 71 = .ok (.lload 4, 2) := by decide +kernel
theorem own_d2_73 : decode jdk_29_method_45_code 73 = .ok (.lload 8, 2) := by decide +kernel
theorem own_d2_75 : decode jdk_29_method_45_code 75 = .ok (.lmul, 1) := by decide +kernel
theorem own_d2_76 : decode jdk_29_method_45_code 76 = .ok (.lload 18, 2) := by decide +kernel
theorem own_d2_78 : decode jdk_29_method_45_code 78 = .ok (.ladd, 1) := by decide +kernel
theorem own_d2_79 : decode jdk_29_method_45_code 79 = .ok (.lload 16, 2) := by decide +kernel
theorem own_d2_81 : decode jdk_29_method_45_code 81 = .ok (.bipush 32, 2) := by decide +kernel
theorem own_d2_83 : decode jdk_29_method_45_code 83 = .ok (.lshr, 1) := by decide +kernel
theorem own_d2_84 : decode jdk_29_method_45_code 84 = .ok (.ladd, 1) := by decide +kernel
theorem own_d2_85 : decode jdk_29_method_45_code 85 = .ok (.lreturn, 1) := by decide +kernel
abbrev own_R2 : Room := { frames := 0, cells := 0, slots := 0, locals := 0 }
theorem own_pn2 : plainFor (⟨"java/lang/Math", "multiplyHigh", "(JJ)J"⟩ : MethodName) = true := Jvm.Free.JP.mathPlain rfl (by decide +kernel)
theorem own_ef2 (m : MethodId) (q0 : Int64) (q1 : Int64) : entryFrame m #[(.long q0), (.long q1)] 20 = mkF m 0 #[.val (.long q0), .second, .val (.long q1), .second, .unset, .unset, .unset, .unset, .unset, .unset, .unset, .unset, .unset, .unset, .unset, .unset, .unset, .unset, .unset, .unset] [] := by first | (simp [entryFrame, mkF, argsToLocals, Value.category]; done) | rfl
def own_F2 (q0 : Int64) (q1 : Int64) : Int64 := (let vg1 : Int64 := (q0 >>> ((32 : Int32) &&& 0x3f).toInt64); (let vg2 : Int64 := (q0 &&& (4294967295 : Int64)); (let vg3 : Int64 := (q1 >>> ((32 : Int32) &&& 0x3f).toInt64); (let vg4 : Int64 := (q1 &&& (4294967295 : Int64)); (let vg5 : Int64 := (vg2 * vg4); (let vg6 : Int64 := ((vg1 * vg4) + ((vg5.toUInt64 >>> ((32 : Int32) &&& 0x3f).toInt64.toUInt64).toInt64)); (let vg7 : Int64 := (vg6 &&& (4294967295 : Int64)); (let vg8 : Int64 := (vg6 >>> ((32 : Int32) &&& 0x3f).toInt64); (let vg9 : Int64 := (vg7 + (vg2 * vg3)); (((vg1 * vg3) + vg8) + (vg9 >>> ((32 : Int32) &&& 0x3f).toInt64)))))))))))
set_option maxRecDepth 65536 in
set_option maxHeartbeats 40000000 in
theorem own_rm2 (l : Launch) (Z : State) (a0 : Array Value) (hw : ∀ d ∈ tables_1, d.before a0 Z = true) (ws : List Jvm.Cond) (q0 : Int64) (q1 : Int64) (h0 : Heap) :
    own_C l Z (⟨"java/lang/Math", "multiplyHigh", "(JJ)J"⟩ : MethodName) jdk_29_method_45_code 20 (some .long) ws own_R2 #[(.long q0), (.long q1)] h0 (own_Q (.long (own_F2 q0 q1)) h0) := by
  refine MetFree.of_bodySF own_pn2 hisR ?_
  intro p e s m args below meth c s₁ Bd hml0 hP hK
  obtain ⟨rfl, hZ, hh⟩ := hP
  have hx := Bd.exec
  have hby := Bd.bytes
  have hml : c.maxLocals = 20 := hml0
  have hown : s.vm.findClass "java/lang/Math" = some m.cls := findClass_of_methodNamed Bd.named
  have X0 : Stand p l e own_R2 s m #[(.long q0), (.long q1)] below meth c s₁ [] 0 0 := Stand.of_body Bd
  have e0 : s₁.heap = h0 := by rw [← hh, Bd.state]; rfl
  show own_G p e below (own_P s (own_Q (.long (own_F2 q0 q1)) h0) own_R2.cells own_R2.slots) (s₁.setTop (entryFrame m #[(.long q0), (.long q1)] 20))
  rw [own_ef2 m q0 q1]
  show own_G p e below _ (s₁.setTop (mkF m 0 #[.val (.long q0), .second, .val (.long q1), .second, .unset, .unset, .unset, .unset, .unset, .unset, .unset, .unset, .unset, .unset, .unset, .unset, .unset, .unset, .unset, .unset] []))
  refine own_via (fun t k => XS.lloadN X0.here hx rfl (hb hby own_d2_0) rfl k) ?_
  show own_G p e below _ (s₁.setTop (mkF m 1 #[.val (.long q0), .second, .val (.long q1), .second, .unset, .unset, .unset, .unset, .unset, .unset, .unset, .unset, .unset, .unset, .unset, .unset, .unset, .unset, .unset, .unset] [(.long q0)]))
  refine own_via (fun t k => XS.bipush X0.here hx rfl (hb hby own_d2_1) k) ?_
  show own_G p e below _ (s₁.setTop (mkF m 3 #[.val (.long q0), .second, .val (.long q1), .second, .unset, .unset, .unset, .unset, .unset, .unset, .unset, .unset, .unset, .unset, .unset, .unset, .unset, .unset, .unset, .unset] [(.int (32 : Int32)), (.long q0)]))
  refine own_via (fun t k => XS.lshr X0.here hx rfl (hb hby own_d2_3) rfl k) ?_
  show own_G p e below _ (s₁.setTop (mkF m 4 #[.val (.long q0), .second, .val (.long q1), .second, .unset, .unset, .unset, .unset, .unset, .unset, .unset, .unset, .unset, .unset, .unset, .unset, .unset, .unset, .unset, .unset] [(.long (q0 >>> ((32 : Int32) &&& 0x3f).toInt64))]))
  generalize hvg1 : (q0 >>> ((32 : Int32) &&& 0x3f).toInt64) = vg1
  show own_G p e below _ (s₁.setTop (mkF m 4 #[.val (.long q0), .second, .val (.long q1), .second, .unset, .unset, .unset, .unset, .unset, .unset, .unset, .unset, .unset, .unset, .unset, .unset, .unset, .unset, .unset, .unset] [(.long vg1)]))
  refine own_via (fun t k => XS.lstore X0.here hx rfl (hb hby own_d2_4) rfl (l' := #[.val (.long q0), .second, .val (.long q1), .second, .val (.long vg1), .second, .unset, .unset, .unset, .unset, .unset, .unset, .unset, .unset, .unset, .unset, .unset, .unset, .unset, .unset]) rfl k) ?_
  show own_G p e below _ (s₁.setTop (mkF m 6 #[.val (.long q0), .second, .val (.long q1), .second, .val (.long vg1), .second, .unset, .unset, .unset, .unset, .unset, .unset, .unset, .unset, .unset, .unset, .unset, .unset, .unset, .unset] []))
  refine own_via (fun t k => XS.lloadN X0.here hx rfl (hb hby own_d2_6) rfl k) ?_
  show own_G p e below _ (s₁.setTop (mkF m 7 #[.val (.long q0), .second, .val (.long q1), .second, .val (.long vg1), .second, .unset, .unset, .unset, .unset, .unset, .unset, .unset, .unset, .unset, .unset, .unset, .unset, .unset, .unset] [(.long q0)]))
  refine own_via (X0.ldc2Long hx hown (mvT hZ (hw _ (List.mem_of_getElem? (i := 10) rfl))) (g := (mkF m 7 #[.val (.long q0), .second, .val (.long q1), .second, .val (.long vg1), .second, .unset, .unset, .unset, .unset, .unset, .unset, .unset, .unset, .unset, .unset, .unset, .unset, .unset, .unset] [(.long q0)])) rfl (hb hby own_d2_7)) ?_
  show own_G p e below _ (s₁.setTop (mkF m 10 #[.val (.long q0), .second, .val (.long q1), .second, .val (.long vg1), .second, .unset, .unset, .unset, .unset, .unset, .unset, .unset, .unset, .unset, .unset, .unset, .unset, .unset, .unset] [(.long (4294967295 : Int64)), (.long q0)]))
  refine own_via (fun t k => XS.land X0.here hx rfl (hb hby own_d2_10) rfl k) ?_
  show own_G p e below _ (s₁.setTop (mkF m 11 #[.val (.long q0), .second, .val (.long q1), .second, .val (.long vg1), .second, .unset, .unset, .unset, .unset, .unset, .unset, .unset, .unset, .unset, .unset, .unset, .unset, .unset, .unset] [(.long (q0 &&& (4294967295 : Int64)))]))
  generalize hvg2 : (q0 &&& (4294967295 : Int64)) = vg2
  show own_G p e below _ (s₁.setTop (mkF m 11 #[.val (.long q0), .second, .val (.long q1), .second, .val (.long vg1), .second, .unset, .unset, .unset, .unset, .unset, .unset, .unset, .unset, .unset, .unset, .unset, .unset, .unset, .unset] [(.long vg2)]))
  refine own_via (fun t k => XS.lstore X0.here hx rfl (hb hby own_d2_11) rfl (l' := #[.val (.long q0), .second, .val (.long q1), .second, .val (.long vg1), .second, .val (.long vg2), .second, .unset, .unset, .unset, .unset, .unset, .unset, .unset, .unset, .unset, .unset, .unset, .unset]) rfl k) ?_
  show own_G p e below _ (s₁.setTop (mkF m 13 #[.val (.long q0), .second, .val (.long q1), .second, .val (.long vg1), .second, .val (.long vg2), .second, .unset, .unset, .unset, .unset, .unset, .unset, .unset, .unset, .unset, .unset, .unset, .unset] []))
  refine own_via (fun t k => XS.lloadN X0.here hx rfl (hb hby own_d2_13) rfl k) ?_
  show own_G p e below _ (s₁.setTop (mkF m 14 #[.val (.long q0), .second, .val (.long q1), .second, .val (.long vg1), .second, .val (.long vg2), .second, .unset, .unset, .unset, .unset, .unset, .unset, .unset, .unset, .unset, .unset, .unset, .unset] [(.long q1)]))
  refine own_via (fun t k => XS.bipush X0.here hx rfl (hb hby own_d2_14) k) ?_
  show own_G p e below _ (s₁.setTop (mkF m 16 #[.val (.long q0), .second, .val (.long q1), .second, .val (.long vg1), .second, .val (.long vg2), .second, .unset, .unset, .unset, .unset, .unset, .unset, .unset, .unset, .unset, .unset, .unset, .unset] [(.int (32 : Int32)), (.long q1)]))
  refine own_via (fun t k => XS.lshr X0.here hx rfl (hb hby own_d2_16) rfl k) ?_
  show own_G p e below _ (s₁.setTop (mkF m 17 #[.val (.long q0), .second, .val (.long q1), .second, .val (.long vg1), .second, .val (.long vg2), .second, .unset, .unset, .unset, .unset, .unset, .unset, .unset, .unset, .unset, .unset, .unset, .unset] [(.long (q1 >>> ((32 : Int32) &&& 0x3f).toInt64))]))
  generalize hvg3 : (q1 >>> ((32 : Int32) &&& 0x3f).toInt64) = vg3
  show own_G p e below _ (s₁.setTop (mkF m 17 #[.val (.long q0), .second, .val (.long q1), .second, .val (.long vg1), .second, .val (.long vg2), .second, .unset, .unset, .unset, .unset, .unset, .unset, .unset, .unset, .unset, .unset, .unset, .unset] [(.long vg3)]))
  refine own_via (fun t k => XS.lstore X0.here hx rfl (hb hby own_d2_17) rfl (l' := #[.val (.long q0), .second, .val (.long q1), .second, .val (.long vg1), .second, .val (.long vg2), .second, .val (.long vg3), .second, .unset, .unset, .unset, .unset, .unset, .unset, .unset, .unset, .unset, .unset]) rfl k) ?_
  show own_G p e below _ (s₁.setTop (mkF m 19 #[.val (.long q0), .second, .val (.long q1), .second, .val (.long vg1), .second, .val (.long vg2), .second, .val (.long vg3), .second, .unset, .unset, .unset, .unset, .unset, .unset, .unset, .unset, .unset, .unset] []))
  refine own_via (fun t k => XS.lloadN X0.here hx rfl (hb hby own_d2_19) rfl k) ?_
  show own_G p e below _ (s₁.setTop (mkF m 20 #[.val (.long q0), .second, .val (.long q1), .second, .val (.long vg1), .second, .val (.long vg2), .second, .val (.long vg3), .second, .unset, .unset, .unset, .unset, .unset, .unset, .unset, .unset, .unset, .unset] [(.long q1)]))
  refine own_via (X0.ldc2Long hx hown (mvT hZ (hw _ (List.mem_of_getElem? (i := 10) rfl))) (g := (mkF m 20 #[.val (.long q0), .second, .val (.long q1), .second, .val (.long vg1), .second, .val (.long vg2), .second, .val (.long vg3), .second, .unset, .unset, .unset, .unset, .unset, .unset, .unset, .unset, .unset, .unset] [(.long q1)])) rfl (hb hby own_d2_20)) ?_
  show own_G p e below _ (s₁.setTop (mkF m 23 #[.val (.long q0), .second, .val (.long q1), .second, .val (.long vg1), .second, .val (.long vg2), .second, .val (.long vg3), .second, .unset, .unset, .unset, .unset, .unset, .unset, .unset, .unset, .unset, .unset] [(.long (4294967295 : Int64)), (.long q1)]))
  refine own_via (fun t k => XS.land X0.here hx rfl (hb hby own_d2_23) rfl k) ?_
  show own_G p e below _ (s₁.setTop (mkF m 24 #[.val (.long q0), .second, .val (.long q1), .second, .val (.long vg1), .second, .val (.long vg2), .second, .val (.long vg3), .second, .unset, .unset, .unset, .unset, .unset, .unset, .unset, .unset, .unset, .unset] [(.long (q1 &&& (4294967295 : Int64)))]))
  generalize hvg4 : (q1 &&& (4294967295 : Int64)) = vg4
  show own_G p e below _ (s₁.setTop (mkF m 24 #[.val (.long q0), .second, .val (.long q1), .second, .val (.long vg1), .second, .val (.long vg2), .second, .val (.long vg3), .second, .unset, .unset, .unset, .unset, .unset, .unset, .unset, .unset, .unset, .unset] [(.long vg4)]))
  refine own_via (fun t k => XS.lstore X0.here hx rfl (hb hby own_d2_24) rfl (l' := #[.val (.long q0), .second, .val (.long q1), .second, .val (.long vg1), .second, .val (.long vg2), .second, .val (.long vg3), .second, .val (.long vg4), .second, .unset, .unset, .unset, .unset, .unset, .unset, .unset, .unset]) rfl k) ?_
  show own_G p e below _ (s₁.setTop (mkF m 26 #[.val (.long q0), .second, .val (.long q1), .second, .val (.long vg1), .second, .val (.long vg2), .second, .val (.long vg3), .second, .val (.long vg4), .second, .unset, .unset, .unset, .unset, .unset, .unset, .unset, .unset] []))
  refine own_via (fun t k => XS.lload X0.here hx rfl (hb hby own_d2_26) rfl k) ?_
  show own_G p e below _ (s₁.setTop (mkF m 28 #[.val (.long q0), .second, .val (.long q1), .second, .val (.long vg1), .second, .val (.long vg2), .second, .val (.long vg3), .second, .val (.long vg4), .second, .unset, .unset, .unset, .unset, .unset, .unset, .unset, .unset] [(.long vg2)]))
  refine own_via (fun t k => XS.lload X0.here hx rfl (hb hby own_d2_28) rfl k) ?_
  show own_G p e below _ (s₁.setTop (mkF m 30 #[.val (.long q0), .second, .val (.long q1), .second, .val (.long vg1), .second, .val (.long vg2), .second, .val (.long vg3), .second, .val (.long vg4), .second, .unset, .unset, .unset, .unset, .unset, .unset, .unset, .unset] [(.long vg4), (.long vg2)]))
  refine own_via (fun t k => XS.lmul X0.here hx rfl (hb hby own_d2_30) rfl k) ?_
  show own_G p e below _ (s₁.setTop (mkF m 31 #[.val (.long q0), .second, .val (.long q1), .second, .val (.long vg1), .second, .val (.long vg2), .second, .val (.long vg3), .second, .val (.long vg4), .second, .unset, .unset, .unset, .unset, .unset, .unset, .unset, .unset] [(.long (vg2 * vg4))]))
  generalize hvg5 : (vg2 * vg4) = vg5
  show own_G p e below _ (s₁.setTop (mkF m 31 #[.val (.long q0), .second, .val (.long q1), .second, .val (.long vg1), .second, .val (.long vg2), .second, .val (.long vg3), .second, .val (.long vg4), .second, .unset, .unset, .unset, .unset, .unset, .unset, .unset, .unset] [(.long vg5)]))
  refine own_via (fun t k => XS.lstore X0.here hx rfl (hb hby own_d2_31) rfl (l' := #[.val (.long q0), .second, .val (.long q1), .second, .val (.long vg1), .second, .val (.long vg2), .second, .val (.long vg3), .second, .val (.long vg4), .second, .val (.long vg5), .second, .unset, .unset, .unset, .unset, .unset, .unset]) rfl k) ?_
  show own_G p e below _ (s₁.setTop (mkF m 33 #[.val (.long q0), .second, .val (.long q1), .second, .val (.long vg1), .second, .val (.long vg2), .second, .val (.long vg3), .second, .val (.long vg4), .second, .val (.long vg5), .second, .unset, .unset, .unset, .unset, .unset, .unset] []))
  refine own_via (fun t k => XS.lload X0.here hx rfl (hb hby own_d2_33) rfl k) ?_
  show own_G p e below _ (s₁.setTop (mkF m 35 #[.val (.long q0), .second, .val (.long q1), .second, .val (.long vg1), .second, .val (.long vg2), .second, .val (.long vg3), .second, .val (.long vg4), .second, .val (.long vg5), .second, .unset, .unset, .unset, .unset, .unset, .unset] [(.long vg1)]))
  refine own_via (fun t k => XS.lload X0.here hx rfl (hb hby own_d2_35) rfl k) ?_
  show own_G p e below _ (s₁.setTop (mkF m 37 #[.val (.long q0), .second, .val (.long q1), .second, .val (.long vg1), .second, .val (.long vg2), .second, .val (.long vg3), .second, .val (.long vg4), .second, .val (.long vg5), .second, .unset, .unset, .unset, .unset, .unset, .unset] [(.long vg4), (.long vg1)]))
  refine own_via (fun t k => XS.lmul X0.here hx rfl (hb hby own_d2_37) rfl k) ?_
  show own_G p e below _ (s₁.setTop (mkF m 38 #[.val (.long q0), .second, .val (.long q1), .second, .val (.long vg1), .second, .val (.long vg2), .second, .val (.long vg3), .second, .val (.long vg4), .second, .val (.long vg5), .second, .unset, .unset, .unset, .unset, .unset, .unset] [(.long (vg1 * vg4))]))
  refine own_via (fun t k => XS.lload X0.here hx rfl (hb hby own_d2_38) rfl k) ?_
  show own_G p e below _ (s₁.setTop (mkF m 40 #[.val (.long q0), .second, .val (.long q1), .second, .val (.long vg1), .second, .val (.long vg2), .second, .val (.long vg3), .second, .val (.long vg4), .second, .val (.long vg5), .second, .unset, .unset, .unset, .unset, .unset, .unset] [(.long vg5), (.long (vg1 * vg4))]))
  refine own_via (fun t k => XS.bipush X0.here hx rfl (hb hby own_d2_40) k) ?_
  show own_G p e below _ (s₁.setTop (mkF m 42 #[.val (.long q0), .second, .val (.long q1), .second, .val (.long vg1), .second, .val (.long vg2), .second, .val (.long vg3), .second, .val (.long vg4), .second, .val (.long vg5), .second, .unset, .unset, .unset, .unset, .unset, .unset] [(.int (32 : Int32)), (.long vg5), (.long (vg1 * vg4))]))
  refine own_via (fun t k => XS.lushr X0.here hx rfl (hb hby own_d2_42) rfl k) ?_
  show own_G p e below _ (s₁.setTop (mkF m 43 #[.val (.long q0), .second, .val (.long q1), .second, .val (.long vg1), .second, .val (.long vg2), .second, .val (.long vg3), .second, .val (.long vg4), .second, .val (.long vg5), .second, .unset, .unset, .unset, .unset, .unset, .unset] [(.long ((vg5.toUInt64 >>> ((32 : Int32) &&& 0x3f).toInt64.toUInt64).toInt64)), (.long (vg1 * vg4))]))
  refine own_via (fun t k => XS.ladd X0.here hx rfl (hb hby own_d2_43) rfl k) ?_
  show own_G p e below _ (s₁.setTop (mkF m 44 #[.val (.long q0), .second, .val (.long q1), .second, .val (.long vg1), .second, .val (.long vg2), .second, .val (.long vg3), .second, .val (.long vg4), .second, .val (.long vg5), .second, .unset, .unset, .unset, .unset, .unset, .unset] [(.long ((vg1 * vg4) + ((vg5.toUInt64 >>> ((32 : Int32) &&& 0x3f).toInt64.toUInt64).toInt64)))]))
  generalize hvg6 : ((vg1 * vg4) + ((vg5.toUInt64 >>> ((32 : Int32) &&& 0x3f).toInt64.toUInt64).toInt64)) = vg6
  show own_G p e below _ (s₁.setTop (mkF m 44 #[.val (.long q0), .second, .val (.long q1), .second, .val (.long vg1), .second, .val (.long vg2), .second, .val (.long vg3), .second, .val (.long vg4), .second, .val (.long vg5), .second, .unset, .unset, .unset, .unset, .unset, .unset] [(.long vg6)]))
  refine own_via (fun t k => XS.lstore X0.here hx rfl (hb hby own_d2_44) rfl (l' := #[.val (.long q0), .second, .val (.long q1), .second, .val (.long vg1), .second, .val (.long vg2), .second, .val (.long vg3), .second, .val (.long vg4), .second, .val (.long vg5), .second, .val (.long vg6), .second, .unset, .unset, .unset, .unset]) rfl k) ?_
  show own_G p e below _ (s₁.setTop (mkF m 46 #[.val (.long q0), .second, .val (.long q1), .second, .val (.long vg1), .second, .val (.long vg2), .second, .val (.long vg3), .second, .val (.long vg4), .second, .val (.long vg5), .second, .val (.long vg6), .second, .unset, .unset, .unset, .unset] []))
  refine own_via (fun t k => XS.lload X0.here hx rfl (hb hby own_d2_46) rfl k) ?_
  show own_G p e below _ (s₁.setTop (mkF m 48 #[.val (.long q0), .second, .val (.long q1), .second, .val (.long vg1), .second, .val (.long vg2), .second, .val (.long vg3), .second, .val (.long vg4), .second, .val (.long vg5), .second, .val (.long vg6), .second, .unset, .unset, .unset, .unset] [(.long vg6)]))
  refine own_via (X0.ldc2Long hx hown (mvT hZ (hw _ (List.mem_of_getElem? (i := 10) rfl))) (g := (mkF m 48 #[.val (.long q0), .second, .val (.long q1), .second, .val (.long vg1), .second, .val (.long vg2), .second, .val (.long vg3), .second, .val (.long vg4), .second, .val (.long vg5), .second, .val (.long vg6), .second, .unset, .unset, .unset, .unset] [(.long vg6)])) rfl (hb hby own_d2_48)) ?_
  show own_G p e below _ (s₁.setTop (mkF m 51 #[.val (.long q0), .second, .val (.long q1), .second, .val (.long vg1), .second, .val (.long vg2), .second, .val (.long vg3), .second, .val (.long vg4), .second, .val (.long vg5), .second, .val (.long vg6), .second, .unset, .unset, .unset, .unset] [(.long (4294967295 : Int64)), (.long vg6)]))
  refine own_via (fun t k => XS.land X0.here hx rfl (hb hby own_d2_51) rfl k) ?_
  show own_G p e below _ (s₁.setTop (mkF m 52 #[.val (.long q0), .second, .val (.long q1), .second, .val (.long vg1), .second, .val (.long vg2), .second, .val (.long vg3), .second, .val (.long vg4), .second, .val (.long vg5), .second, .val (.long vg6), .second, .unset, .unset, .unset, .unset] [(.long (vg6 &&& (4294967295 : Int64)))]))
  generalize hvg7 : (vg6 &&& (4294967295 : Int64)) = vg7
  show own_G p e below _ (s₁.setTop (mkF m 52 #[.val (.long q0), .second, .val (.long q1), .second, .val (.long vg1), .second, .val (.long vg2), .second, .val (.long vg3), .second, .val (.long vg4), .second, .val (.long vg5), .second, .val (.long vg6), .second, .unset, .unset, .unset, .unset] [(.long vg7)]))
  refine own_via (fun t k => XS.lstore X0.here hx rfl (hb hby own_d2_52) rfl (l' := #[.val (.long q0), .second, .val (.long q1), .second, .val (.long vg1), .second, .val (.long vg2), .second, .val (.long vg3), .second, .val (.long vg4), .second, .val (.long vg5), .second, .val (.long vg6), .second, .val (.long vg7), .second, .unset, .unset]) rfl k) ?_
  show own_G p e below _ (s₁.setTop (mkF m 54 #[.val (.long q0), .second, .val (.long q1), .second, .val (.long vg1), .second, .val (.long vg2), .second, .val (.long vg3), .second, .val (.long vg4), .second, .val (.long vg5), .second, .val (.long vg6), .second, .val (.long vg7), .second, .unset, .unset] []))
  refine own_via (fun t k => XS.lload X0.here hx rfl (hb hby own_d2_54) rfl k) ?_
  show own_G p e below _ (s₁.setTop (mkF m 56 #[.val (.long q0), .second, .val (.long q1), .second, .val (.long vg1), .second, .val (.long vg2), .second, .val (.long vg3), .second, .val (.long vg4), .second, .val (.long vg5), .second, .val (.long vg6), .second, .val (.long vg7), .second, .unset, .unset] [(.long vg6)]))
  refine own_via (fun t k => XS.bipush X0.here hx rfl (hb hby own_d2_56) k) ?_
  show own_G p e below _ (s₁.setTop (mkF m 58 #[.val (.long q0), .second, .val (.long q1), .second, .val (.long vg1), .second, .val (.long vg2), .second, .val (.long vg3), .second, .val (.long vg4), .second, .val (.long vg5), .second, .val (.long vg6), .second, .val (.long vg7), .second, .unset, .unset] [(.int (32 : Int32)), (.long vg6)]))
  refine own_via (fun t k => XS.lshr X0.here hx rfl (hb hby own_d2_58) rfl k) ?_
  show own_G p e below _ (s₁.setTop (mkF m 59 #[.val (.long q0), .second, .val (.long q1), .second, .val (.long vg1), .second, .val (.long vg2), .second, .val (.long vg3), .second, .val (.long vg4), .second, .val (.long vg5), .second, .val (.long vg6), .second, .val (.long vg7), .second, .unset, .unset] [(.long (vg6 >>> ((32 : Int32) &&& 0x3f).toInt64))]))
  generalize hvg8 : (vg6 >>> ((32 : Int32) &&& 0x3f).toInt64) = vg8
  show own_G p e below _ (s₁.setTop (mkF m 59 #[.val (.long q0), .second, .val (.long q1), .second, .val (.long vg1), .second, .val (.long vg2), .second, .val (.long vg3), .second, .val (.long vg4), .second, .val (.long vg5), .second, .val (.long vg6), .second, .val (.long vg7), .second, .unset, .unset] [(.long vg8)]))
  refine own_via (fun t k => XS.lstore X0.here hx rfl (hb hby own_d2_59) rfl (l' := #[.val (.long q0), .second, .val (.long q1), .second, .val (.long vg1), .second, .val (.long vg2), .second, .val (.long vg3), .second, .val (.long vg4), .second, .val (.long vg5), .second, .val (.long vg6), .second, .val (.long vg7), .second, .val (.long vg8), .second]) rfl k) ?_
  show own_G p e below _ (s₁.setTop (mkF m 61 #[.val (.long q0), .second, .val (.long q1), .second, .val (.long vg1), .second, .val (.long vg2), .second, .val (.long vg3), .second, .val (.long vg4), .second, .val (.long vg5), .second, .val (.long vg6), .second, .val (.long vg7), .second, .val (.long vg8), .second] []))
  refine own_via (fun t k => XS.lload X0.here hx rfl (hb hby own_d2_61) rfl k) ?_
  show own_G p e below _ (s₁.setTop (mkF m 63 #[.val (.long q0), .second, .val (.long q1), .second, .val (.long vg1), .second, .val (.long vg2), .second, .val (.long vg3), .second, .val (.long vg4), .second, .val (.long vg5), .second, .val (.long vg6), .second, .val (.long vg7), .second, .val (.long vg8), .second] [(.long vg7)]))
  refine own_via (fun t k => XS.lload X0.here hx rfl (hb hby own_d2_63) rfl k) ?_
  show own_G p e below _ (s₁.setTop (mkF m 65 #[.val (.long q0), .second, .val (.long q1), .second, .val (.long vg1), .second, .val (.long vg2), .second, .val (.long vg3), .second, .val (.long vg4), .second, .val (.long vg5), .second, .val (.long vg6), .second, .val (.long vg7), .second, .val (.long vg8), .second] [(.long vg2), (.long vg7)]))
  refine own_via (fun t k => XS.lload X0.here hx rfl (hb hby own_d2_65) rfl k) ?_
  show own_G p e below _ (s₁.setTop (mkF m 67 #[.val (.long q0), .second, .val (.long q1), .second, .val (.long vg1), .second, .val (.long vg2), .second, .val (.long vg3), .second, .val (.long vg4), .second, .val (.long vg5), .second, .val (.long vg6), .second, .val (.long vg7), .second, .val (.long vg8), .second] [(.long vg3), (.long vg2), (.long vg7)]))
  refine own_via (fun t k => XS.lmul X0.here hx rfl (hb hby own_d2_67) rfl k) ?_
  show own_G p e below _ (s₁.setTop (mkF m 68 #[.val (.long q0), .second, .val (.long q1), .second, .val (.long vg1), .second, .val (.long vg2), .second, .val (.long vg3), .second, .val (.long vg4), .second, .val (.long vg5), .second, .val (.long vg6), .second, .val (.long vg7), .second, .val (.long vg8), .second] [(.long (vg2 * vg3)), (.long vg7)]))
  refine own_via (fun t k => XS.ladd X0.here hx rfl (hb hby own_d2_68) rfl k) ?_
  show own_G p e below _ (s₁.setTop (mkF m 69 #[.val (.long q0), .second, .val (.long q1), .second, .val (.long vg1), .second, .val (.long vg2), .second, .val (.long vg3), .second, .val (.long vg4), .second, .val (.long vg5), .second, .val (.long vg6), .second, .val (.long vg7), .second, .val (.long vg8), .second] [(.long (vg7 + (vg2 * vg3)))]))
  generalize hvg9 : (vg7 + (vg2 * vg3)) = vg9
  show own_G p e below _ (s₁.setTop (mkF m 69 #[.val (.long q0), .second, .val (.long q1), .second, .val (.long vg1), .second, .val (.long vg2), .second, .val (.long vg3), .second, .val (.long vg4), .second, .val (.long vg5), .second, .val (.long vg6), .second, .val (.long vg7), .second, .val (.long vg8), .second] [(.long vg9)]))
  refine own_via (fun t k => XS.lstore X0.here hx rfl (hb hby own_d2_69) rfl (l' := #[.val (.long q0), .second, .val (.long q1), .second, .val (.long vg1), .second, .val (.long vg2), .second, .val (.long vg3), .second, .val (.long vg4), .second, .val (.long vg5), .second, .val (.long vg6), .second, .val (.long vg9), .second, .val (.long vg8), .second]) rfl k) ?_
  show own_G p e below _ (s₁.setTop (mkF m 71 #[.val (.long q0), .second, .val (.long q1), .second, .val (.long vg1), .second, .val (.long vg2), .second, .val (.long vg3), .second, .val (.long vg4), .second, .val (.long vg5), .second, .val (.long vg6), .second, .val (.long vg9), .second, .val (.long vg8), .second] []))
  refine own_via (fun t k => XS.lload X0.here hx rfl (hb hby own_d2_71) rfl k) ?_
  show own_G p e below _ (s₁.setTop (mkF m 73 #[.val (.long q0), .second, .val (.long q1), .second, .val (.long vg1), .second, .val (.long vg2), .second, .val (.long vg3), .second, .val (.long vg4), .second, .val (.long vg5), .second, .val (.long vg6), .second, .val (.long vg9), .second, .val (.long vg8), .second] [(.long vg1)]))
  refine own_via (fun t k => XS.lload X0.here hx rfl (hb hby own_d2_73) rfl k) ?_
  show own_G p e below _ (s₁.setTop (mkF m 75 #[.val (.long q0), .second, .val (.long q1), .second, .val (.long vg1), .second, .val (.long vg2), .second, .val (.long vg3), .second, .val (.long vg4), .second, .val (.long vg5), .second, .val (.long vg6), .second, .val (.long vg9), .second, .val (.long vg8), .second] [(.long vg3), (.long vg1)]))
  refine own_via (fun t k => XS.lmul X0.here hx rfl (hb hby own_d2_75) rfl k) ?_
  show own_G p e below _ (s₁.setTop (mkF m 76 #[.val (.long q0), .second, .val (.long q1), .second, .val (.long vg1), .second, .val (.long vg2), .second, .val (.long vg3), .second, .val (.long vg4), .second, .val (.long vg5), .second, .val (.long vg6), .second, .val (.long vg9), .second, .val (.long vg8), .second] [(.long (vg1 * vg3))]))
  refine own_via (fun t k => XS.lload X0.here hx rfl (hb hby own_d2_76) rfl k) ?_
  show own_G p e below _ (s₁.setTop (mkF m 78 #[.val (.long q0), .second, .val (.long q1), .second, .val (.long vg1), .second, .val (.long vg2), .second, .val (.long vg3), .second, .val (.long vg4), .second, .val (.long vg5), .second, .val (.long vg6), .second, .val (.long vg9), .second, .val (.long vg8), .second] [(.long vg8), (.long (vg1 * vg3))]))
  refine own_via (fun t k => XS.ladd X0.here hx rfl (hb hby own_d2_78) rfl k) ?_
  show own_G p e below _ (s₁.setTop (mkF m 79 #[.val (.long q0), .second, .val (.long q1), .second, .val (.long vg1), .second, .val (.long vg2), .second, .val (.long vg3), .second, .val (.long vg4), .second, .val (.long vg5), .second, .val (.long vg6), .second, .val (.long vg9), .second, .val (.long vg8), .second] [(.long ((vg1 * vg3) + vg8))]))
  refine own_via (fun t k => XS.lload X0.here hx rfl (hb hby own_d2_79) rfl k) ?_
  show own_G p e below _ (s₁.setTop (mkF m 81 #[.val (.long q0), .second, .val (.long q1), .second, .val (.long vg1), .second, .val (.long vg2), .second, .val (.long vg3), .second, .val (.long vg4), .second, .val (.long vg5), .second, .val (.long vg6), .second, .val (.long vg9), .second, .val (.long vg8), .second] [(.long vg9), (.long ((vg1 * vg3) + vg8))]))
  refine own_via (fun t k => XS.bipush X0.here hx rfl (hb hby own_d2_81) k) ?_
  show own_G p e below _ (s₁.setTop (mkF m 83 #[.val (.long q0), .second, .val (.long q1), .second, .val (.long vg1), .second, .val (.long vg2), .second, .val (.long vg3), .second, .val (.long vg4), .second, .val (.long vg5), .second, .val (.long vg6), .second, .val (.long vg9), .second, .val (.long vg8), .second] [(.int (32 : Int32)), (.long vg9), (.long ((vg1 * vg3) + vg8))]))
  refine own_via (fun t k => XS.lshr X0.here hx rfl (hb hby own_d2_83) rfl k) ?_
  show own_G p e below _ (s₁.setTop (mkF m 84 #[.val (.long q0), .second, .val (.long q1), .second, .val (.long vg1), .second, .val (.long vg2), .second, .val (.long vg3), .second, .val (.long vg4), .second, .val (.long vg5), .second, .val (.long vg6), .second, .val (.long vg9), .second, .val (.long vg8), .second] [(.long (vg9 >>> ((32 : Int32) &&& 0x3f).toInt64)), (.long ((vg1 * vg3) + vg8))]))
  refine own_via (fun t k => XS.ladd X0.here hx rfl (hb hby own_d2_84) rfl k) ?_
  show own_G p e below _ (s₁.setTop (mkF m 85 #[.val (.long q0), .second, .val (.long q1), .second, .val (.long vg1), .second, .val (.long vg2), .second, .val (.long vg3), .second, .val (.long vg4), .second, .val (.long vg5), .second, .val (.long vg6), .second, .val (.long vg9), .second, .val (.long vg8), .second] [(.long (((vg1 * vg3) + vg8) + (vg9 >>> ((32 : Int32) &&& 0x3f).toInt64)))]))
  exact own_retL X0 hx Bd.returns Bd.notSynchronized (hb hby own_d2_85) ⟨by show (some (.long (((vg1 * vg3) + vg8) + (vg9 >>> ((32 : Int32) &&& 0x3f).toInt64))) : Option Value) = some (.long (own_F2 q0 q1)); subst hvg9; subst hvg8; subst hvg7; subst hvg6; subst hvg5; subst hvg4; subst hvg3; subst hvg2; subst hvg1; simp only [own_F2], rfl, e0⟩ (by decide) (by decide)
theorem own_d1_0 : decode prog_10_method_9_code 0 = .ok (.lload_n 0, 1) := by decide +kernel
theorem own_d1_1 : decode prog_10_method_9_code 1 = .ok (.lload_n 2, 1) := by decide +kernel
theorem own_d1_2 : decode prog_10_method_9_code 2 = .ok (.lmul, 1) := by decide +kernel
theorem own_d1_3 : decode prog_10_method_9_code 3 = .ok (.lstore 4, 2) := by decide +kernel
theorem own_d1_5 : decode prog_10_method_9_code 5 = .ok (.lload_n 0, 1) := by decide +kernel
theorem own_d1_6 : decode prog_10_method_9_code 6 = .ok (.lload_n 2, 1) := by decide +kernel
theorem own_d1_7 : decode prog_10_method_9_code 7 = .ok (.invokestatic 86, 3) := by decide +kernel
theorem own_d1_10 : decode prog_10_method_9_code 10 = .ok (.lstore 6, 2) := by decide +kernel
theorem own_d1_12 : decode prog_10_method_9_code 12 = .ok (.lload 4, 2) := by decide +kernel
theorem own_d1_14 : decode prog_10_method_9_code 14 = .ok (.ldc2_w 41, 3) := by decide +kernel
theorem own_d1_17 : decode prog_10_method_9_code 17 = .ok (.land, 1) := by decide +kernel
theorem own_d1_18 : decode prog_10_method_9_code 18 = .ok (.lload 4, 2) := by decide +kernel
theorem own_d1_20 : decode prog_10_method_9_code 20 = .ok (.bipush 61, 2) := by decide +kernel
theorem own_d1_22 : decode prog_10_method_9_code 22 = .ok (.lushr, 1) := by decide +kernel
theorem own_d1_23 : decode prog_10_method_9_code 23 = .ok (.lload 6, 2) := by decide +kernel
theorem own_d1_25 : decode prog_10_method_9_code 25 = .ok (.iconst 3, 1) := by decide +kernel
theorem own_d1_26 : decode prog_10_method_9_code 26 = .ok (.lshl, 1) := by decide +kernel
theorem own_d1_27 : decode prog_10_method_9_code 27 = .ok (.lor, 1) := by decide +kernel
theorem own_d1_28 : decode prog_10_method_9_code 28 = .ok (.ladd, 1) := by decide +kernel
theorem own_d1_29 : decode prog_10_method_9_code 29 = .ok (.lstore 8, 2) := by decide +kernel
theorem own_d1_31 : decode prog_10_method_9_code 31 = .ok (.lload 8, 2) := by decide +kernel
theorem own_d1_33 : decode prog_10_method_9_code 33 = .ok (.ldc2_w 41, 3) := by decide +kernel
theorem own_d1_36 : decode prog_10_method_9_code 36 = .ok (.land, 1) := by decide +kernel
theorem own_d1_37 : decode prog_10_method_9_code 37 = .ok (.lload 8, 2) := by decide +kernel
theorem own_d1_39 : decode prog_10_method_9_code 39 = .ok (.bipush 61, 2) := by decide +kernel
theorem own_d1_41 : decode prog_10_method_9_code 41 = .ok (.lushr, 1) := by decide +kernel
theorem own_d1_42 : decode prog_10_method_9_code 42 = .ok (.ladd, 1) := by decide +kernel
theorem own_d1_43 : decode prog_10_method_9_code 43 = .ok (.lstore 8, 2) := by decide +kernel
theorem own_d1_45 : decode prog_10_method_9_code 45 = .ok (.lload 8, 2) := by decide +kernel
theorem own_d1_47 : decode prog_10_method_9_code 47 = .ok (.ldc2_w 41, 3) := by decide +kernel
theorem own_d1_50 : decode prog_10_method_9_code 50 = .ok (.lcmp, 1) := by decide +kernel
theorem own_d1_51 : decode prog_10_method_9_code 51 = .ok (.ifCond .lt 12, 3) := by decide +kernel
theorem own_d1_54 : decode prog_10_method_9_code 54 = .ok (.lload 8, 2) := by decide +kernel
theorem own_d1_56 : decode prog_10_method_9_code 56 = .ok (.ldc2_w 41, 3) := by decide +kernel
theorem own_d1_59 : decode prog_10_method_9_code 59 = .ok (.lsub, 1) := by decide +kernel
theorem own_d1_60 : decode prog_10_method_9_code 60 = .ok (.goto 5, 3) := by decide +kernel
theorem own_d1_63 : decode prog_10_method_9_code 63 = .ok (.lload 8, 2) := by decide +kernel
theorem own_d1_65 : decode prog_10_method_9_code 65 = .ok (.lreturn, 1) := by decide +kernel
abbrev own_R1 : Room := { frames := 1, cells := 0, slots := 0, locals := 31 }
theorem own_pn1 : plainFor (⟨"com/example/finalis/finalis/KeyedHash", "times", "(JJ)J"⟩ : MethodName) = true := plainFor_of_name (by first | (simp [plainName, overriddenIn]; done) | decide +kernel)
theorem own_ef1 (m : MethodId) (q0 : Int64) (q1 : Int64) : entryFrame m #[(.long q0), (.long q1)] 10 = mkF m 0 #[.val (.long q0), .second, .val (.long q1), .second, .unset, .unset, .unset, .unset, .unset, .unset] [] := by first | (simp [entryFrame, mkF, argsToLocals, Value.category]; done) | rfl
def own_F1 (q0 : Int64) (q1 : Int64) : Int64 := (let vg1 : Int64 := (q0 * q1); (let vg3 : Int64 := (own_F2 q0 q1); (let vg4 : Int64 := ((vg1 &&& (2305843009213693951 : Int64)) + (((vg1.toUInt64 >>> ((61 : Int32) &&& 0x3f).toInt64.toUInt64).toInt64) ||| (vg3 <<< ((3 : Int32) &&& 0x3f).toInt64))); (let vg5 : Int64 := ((vg4 &&& (2305843009213693951 : Int64)) + ((vg4.toUInt64 >>> ((61 : Int32) &&& 0x3f).toInt64.toUInt64).toInt64)); (if vg5 < (2305843009213693951 : Int64) then vg5 else (vg5 - (2305843009213693951 : Int64)))))))
set_option maxRecDepth 65536 in
set_option maxHeartbeats 40000000 in
theorem own_rm1 (l : Launch) (Z : State) (a0 : Array Value) (hw : ∀ d ∈ tables_1, d.before a0 Z = true) (ws : List Jvm.Cond) (q0 : Int64) (q1 : Int64) (h0 : Heap) :
    own_C l Z (⟨"com/example/finalis/finalis/KeyedHash", "times", "(JJ)J"⟩ : MethodName) prog_10_method_9_code 10 (some .long) ws own_R1 #[(.long q0), (.long q1)] h0 (own_Q (.long (own_F1 q0 q1)) h0) := by
  refine MetFree.of_bodySF own_pn1 hisR ?_
  intro p e s m args below meth c s₁ Bd hml0 hP hK
  obtain ⟨rfl, hZ, hh⟩ := hP
  have hx := Bd.exec
  have hby := Bd.bytes
  have hml : c.maxLocals = 10 := hml0
  have hown : s.vm.findClass "com/example/finalis/finalis/KeyedHash" = some m.cls := findClass_of_methodNamed Bd.named
  have X0 : Stand p l e own_R1 s m #[(.long q0), (.long q1)] below meth c s₁ [] 0 0 := Stand.of_body Bd
  have e0 : s₁.heap = h0 := by rw [← hh, Bd.state]; rfl
  show own_G p e below (own_P s (own_Q (.long (own_F1 q0 q1)) h0) own_R1.cells own_R1.slots) (s₁.setTop (entryFrame m #[(.long q0), (.long q1)] 10))
  rw [own_ef1 m q0 q1]
  show own_G p e below _ (s₁.setTop (mkF m 0 #[.val (.long q0), .second, .val (.long q1), .second, .unset, .unset, .unset, .unset, .unset, .unset] []))
  refine own_via (fun t k => XS.lloadN X0.here hx rfl (hb hby own_d1_0) rfl k) ?_
  show own_G p e below _ (s₁.setTop (mkF m 1 #[.val (.long q0), .second, .val (.long q1), .second, .unset, .unset, .unset, .unset, .unset, .unset] [(.long q0)]))
  refine own_via (fun t k => XS.lloadN X0.here hx rfl (hb hby own_d1_1) rfl k) ?_
  show own_G p e below _ (s₁.setTop (mkF m 2 #[.val (.long q0), .second, .val (.long q1), .second, .unset, .unset, .unset, .unset, .unset, .unset] [(.long q1), (.long q0)]))
  refine own_via (fun t k => XS.lmul X0.here hx rfl (hb hby own_d1_2) rfl k) ?_
  show own_G p e below _ (s₁.setTop (mkF m 3 #[.val (.long q0), .second, .val (.long q1), .second, .unset, .unset, .unset, .unset, .unset, .unset] [(.long (q0 * q1))]))
  generalize hvg1 : (q0 * q1) = vg1
  show own_G p e below _ (s₁.setTop (mkF m 3 #[.val (.long q0), .second, .val (.long q1), .second, .unset, .unset, .unset, .unset, .unset, .unset] [(.long vg1)]))
  refine own_via (fun t k => XS.lstore X0.here hx rfl (hb hby own_d1_3) rfl (l' := #[.val (.long q0), .second, .val (.long q1), .second, .val (.long vg1), .second, .unset, .unset, .unset, .unset]) rfl k) ?_
  show own_G p e below _ (s₁.setTop (mkF m 5 #[.val (.long q0), .second, .val (.long q1), .second, .val (.long vg1), .second, .unset, .unset, .unset, .unset] []))
  refine own_via (fun t k => XS.lloadN X0.here hx rfl (hb hby own_d1_5) rfl k) ?_
  show own_G p e below _ (s₁.setTop (mkF m 6 #[.val (.long q0), .second, .val (.long q1), .second, .val (.long vg1), .second, .unset, .unset, .unset, .unset] [(.long q0)]))
  refine own_via (fun t k => XS.lloadN X0.here hx rfl (hb hby own_d1_6) rfl k) ?_
  show own_G p e below _ (s₁.setTop (mkF m 7 #[.val (.long q0), .second, .val (.long q1), .second, .val (.long vg1), .second, .unset, .unset, .unset, .unset] [(.long q1), (.long q0)]))
  obtain ⟨T2, X2, e2, st2⟩ := own_callP (y := (⟨"java/lang/Math", "multiplyHigh", "(JJ)J"⟩ : MethodName)) (W := 0) X0 hx hZ hown (hw _ (List.mem_of_getElem? (i := 6) rfl)) (hw _ (List.mem_of_getElem? (i := 7) rfl)) (hw _ (List.mem_of_getElem? (i := 8) rfl)) (hw _ (List.mem_of_getElem? (i := 9) rfl)) (by decide) (own_rm2 l Z a0 hw [] q0 q1 h0) (by decide) (by decide) rfl rfl (by decide) (by decide) e0 (pc := 7) (Ls := #[.val (.long q0), .second, .val (.long q1), .second, .val (.long vg1), .second, .unset, .unset, .unset, .unset]) (st := [(.long q1), (.long q0)]) (argsL := [(.long q0), (.long q1)]) (rest := []) (by rw [hml]; rfl) (lenOf own_pd0 rfl) rfl rfl (Nat.le_of_eq rfl) (hb hby own_d1_7)
  refine own_via st2 ?_
  show own_G p e below _ (T2.setTop (mkF m 10 #[.val (.long q0), .second, .val (.long q1), .second, .val (.long vg1), .second, .unset, .unset, .unset, .unset] [(.long (own_F2 q0 q1))]))
  generalize hvg3 : (own_F2 q0 q1) = vg3
  show own_G p e below _ (T2.setTop (mkF m 10 #[.val (.long q0), .second, .val (.long q1), .second, .val (.long vg1), .second, .unset, .unset, .unset, .unset] [(.long vg3)]))
  refine own_via (fun t k => XS.lstore X2.here hx rfl (hb hby own_d1_10) rfl (l' := #[.val (.long q0), .second, .val (.long q1), .second, .val (.long vg1), .second, .val (.long vg3), .second, .unset, .unset]) rfl k) ?_
  show own_G p e below _ (T2.setTop (mkF m 12 #[.val (.long q0), .second, .val (.long q1), .second, .val (.long vg1), .second, .val (.long vg3), .second, .unset, .unset] []))
  refine own_via (fun t k => XS.lload X2.here hx rfl (hb hby own_d1_12) rfl k) ?_
  show own_G p e below _ (T2.setTop (mkF m 14 #[.val (.long q0), .second, .val (.long q1), .second, .val (.long vg1), .second, .val (.long vg3), .second, .unset, .unset] [(.long vg1)]))
  refine own_via (X2.ldc2Long hx hown (mvT hZ (hw _ (List.mem_of_getElem? (i := 11) rfl))) (g := (mkF m 14 #[.val (.long q0), .second, .val (.long q1), .second, .val (.long vg1), .second, .val (.long vg3), .second, .unset, .unset] [(.long vg1)])) rfl (hb hby own_d1_14)) ?_
  show own_G p e below _ (T2.setTop (mkF m 17 #[.val (.long q0), .second, .val (.long q1), .second, .val (.long vg1), .second, .val (.long vg3), .second, .unset, .unset] [(.long (2305843009213693951 : Int64)), (.long vg1)]))
  refine own_via (fun t k => XS.land X2.here hx rfl (hb hby own_d1_17) rfl k) ?_
  show own_G p e below _ (T2.setTop (mkF m 18 #[.val (.long q0), .second, .val (.long q1), .second, .val (.long vg1), .second, .val (.long vg3), .second, .unset, .unset] [(.long (vg1 &&& (2305843009213693951 : Int64)))]))
  refine own_via (fun t k => XS.lload X2.here hx rfl (hb hby own_d1_18) rfl k) ?_
  show own_G p e below _ (T2.setTop (mkF m 20 #[.val (.long q0), .second, .val (.long q1), .second, .val (.long vg1), .second, .val (.long vg3), .second, .unset, .unset] [(.long vg1), (.long (vg1 &&& (2305843009213693951 : Int64)))]))
  refine own_via (fun t k => XS.bipush X2.here hx rfl (hb hby own_d1_20) k) ?_
  show own_G p e below _ (T2.setTop (mkF m 22 #[.val (.long q0), .second, .val (.long q1), .second, .val (.long vg1), .second, .val (.long vg3), .second, .unset, .unset] [(.int (61 : Int32)), (.long vg1), (.long (vg1 &&& (2305843009213693951 : Int64)))]))
  refine own_via (fun t k => XS.lushr X2.here hx rfl (hb hby own_d1_22) rfl k) ?_
  show own_G p e below _ (T2.setTop (mkF m 23 #[.val (.long q0), .second, .val (.long q1), .second, .val (.long vg1), .second, .val (.long vg3), .second, .unset, .unset] [(.long ((vg1.toUInt64 >>> ((61 : Int32) &&& 0x3f).toInt64.toUInt64).toInt64)), (.long (vg1 &&& (2305843009213693951 : Int64)))]))
  refine own_via (fun t k => XS.lload X2.here hx rfl (hb hby own_d1_23) rfl k) ?_
  show own_G p e below _ (T2.setTop (mkF m 25 #[.val (.long q0), .second, .val (.long q1), .second, .val (.long vg1), .second, .val (.long vg3), .second, .unset, .unset] [(.long vg3), (.long ((vg1.toUInt64 >>> ((61 : Int32) &&& 0x3f).toInt64.toUInt64).toInt64)), (.long (vg1 &&& (2305843009213693951 : Int64)))]))
  refine own_via (fun t k => XS.iconst X2.here hx rfl (hb hby own_d1_25) k) ?_
  show own_G p e below _ (T2.setTop (mkF m 26 #[.val (.long q0), .second, .val (.long q1), .second, .val (.long vg1), .second, .val (.long vg3), .second, .unset, .unset] [(.int (3 : Int32)), (.long vg3), (.long ((vg1.toUInt64 >>> ((61 : Int32) &&& 0x3f).toInt64.toUInt64).toInt64)), (.long (vg1 &&& (2305843009213693951 : Int64)))]))
  refine own_via (fun t k => XS.lshl X2.here hx rfl (hb hby own_d1_26) rfl k) ?_
  show own_G p e below _ (T2.setTop (mkF m 27 #[.val (.long q0), .second, .val (.long q1), .second, .val (.long vg1), .second, .val (.long vg3), .second, .unset, .unset] [(.long (vg3 <<< ((3 : Int32) &&& 0x3f).toInt64)), (.long ((vg1.toUInt64 >>> ((61 : Int32) &&& 0x3f).toInt64.toUInt64).toInt64)), (.long (vg1 &&& (2305843009213693951 : Int64)))]))
  refine own_via (fun t k => XS.lor X2.here hx rfl (hb hby own_d1_27) rfl k) ?_
  show own_G p e below _ (T2.setTop (mkF m 28 #[.val (.long q0), .second, .val (.long q1), .second, .val (.long vg1), .second, .val (.long vg3), .second, .unset, .unset] [(.long (((vg1.toUInt64 >>> ((61 : Int32) &&& 0x3f).toInt64.toUInt64).toInt64) ||| (vg3 <<< ((3 : Int32) &&& 0x3f).toInt64))), (.long (vg1 &&& (2305843009213693951 : Int64)))]))
  refine own_via (fun t k => XS.ladd X2.here hx rfl (hb hby own_d1_28) rfl k) ?_
  show own_G p e below _ (T2.setTop (mkF m 29 #[.val (.long q0), .second, .val (.long q1), .second, .val (.long vg1), .second, .val (.long vg3), .second, .unset, .unset] [(.long ((vg1 &&& (2305843009213693951 : Int64)) + (((vg1.toUInt64 >>> ((61 : Int32) &&& 0x3f).toInt64.toUInt64).toInt64) ||| (vg3 <<< ((3 : Int32) &&& 0x3f).toInt64))))]))
  generalize hvg4 : ((vg1 &&& (2305843009213693951 : Int64)) + (((vg1.toUInt64 >>> ((61 : Int32) &&& 0x3f).toInt64.toUInt64).toInt64) ||| (vg3 <<< ((3 : Int32) &&& 0x3f).toInt64))) = vg4
  show own_G p e below _ (T2.setTop (mkF m 29 #[.val (.long q0), .second, .val (.long q1), .second, .val (.long vg1), .second, .val (.long vg3), .second, .unset, .unset] [(.long vg4)]))
  refine own_via (fun t k => XS.lstore X2.here hx rfl (hb hby own_d1_29) rfl (l' := #[.val (.long q0), .second, .val (.long q1), .second, .val (.long vg1), .second, .val (.long vg3), .second, .val (.long vg4), .second]) rfl k) ?_
  show own_G p e below _ (T2.setTop (mkF m 31 #[.val (.long q0), .second, .val (.long q1), .second, .val (.long vg1), .second, .val (.long vg3), .second, .val (.long vg4), .second] []))
  refine own_via (fun t k => XS.lload X2.here hx rfl (hb hby own_d1_31) rfl k) ?_
  show own_G p e below _ (T2.setTop (mkF m 33 #[.val (.long q0), .second, .val (.long q1), .second, .val (.long vg1), .second, .val (.long vg3), .second, .val (.long vg4), .second] [(.long vg4)]))
  refine own_via (X2.ldc2Long hx hown (mvT hZ (hw _ (List.mem_of_getElem? (i := 11) rfl))) (g := (mkF m 33 #[.val (.long q0), .second, .val (.long q1), .second, .val (.long vg1), .second, .val (.long vg3), .second, .val (.long vg4), .second] [(.long vg4)])) rfl (hb hby own_d1_33)) ?_
  show own_G p e below _ (T2.setTop (mkF m 36 #[.val (.long q0), .second, .val (.long q1), .second, .val (.long vg1), .second, .val (.long vg3), .second, .val (.long vg4), .second] [(.long (2305843009213693951 : Int64)), (.long vg4)]))
  refine own_via (fun t k => XS.land X2.here hx rfl (hb hby own_d1_36) rfl k) ?_
  show own_G p e below _ (T2.setTop (mkF m 37 #[.val (.long q0), .second, .val (.long q1), .second, .val (.long vg1), .second, .val (.long vg3), .second, .val (.long vg4), .second] [(.long (vg4 &&& (2305843009213693951 : Int64)))]))
  refine own_via (fun t k => XS.lload X2.here hx rfl (hb hby own_d1_37) rfl k) ?_
  show own_G p e below _ (T2.setTop (mkF m 39 #[.val (.long q0), .second, .val (.long q1), .second, .val (.long vg1), .second, .val (.long vg3), .second, .val (.long vg4), .second] [(.long vg4), (.long (vg4 &&& (2305843009213693951 : Int64)))]))
  refine own_via (fun t k => XS.bipush X2.here hx rfl (hb hby own_d1_39) k) ?_
  show own_G p e below _ (T2.setTop (mkF m 41 #[.val (.long q0), .second, .val (.long q1), .second, .val (.long vg1), .second, .val (.long vg3), .second, .val (.long vg4), .second] [(.int (61 : Int32)), (.long vg4), (.long (vg4 &&& (2305843009213693951 : Int64)))]))
  refine own_via (fun t k => XS.lushr X2.here hx rfl (hb hby own_d1_41) rfl k) ?_
  show own_G p e below _ (T2.setTop (mkF m 42 #[.val (.long q0), .second, .val (.long q1), .second, .val (.long vg1), .second, .val (.long vg3), .second, .val (.long vg4), .second] [(.long ((vg4.toUInt64 >>> ((61 : Int32) &&& 0x3f).toInt64.toUInt64).toInt64)), (.long (vg4 &&& (2305843009213693951 : Int64)))]))
  refine own_via (fun t k => XS.ladd X2.here hx rfl (hb hby own_d1_42) rfl k) ?_
  show own_G p e below _ (T2.setTop (mkF m 43 #[.val (.long q0), .second, .val (.long q1), .second, .val (.long vg1), .second, .val (.long vg3), .second, .val (.long vg4), .second] [(.long ((vg4 &&& (2305843009213693951 : Int64)) + ((vg4.toUInt64 >>> ((61 : Int32) &&& 0x3f).toInt64.toUInt64).toInt64)))]))
  generalize hvg5 : ((vg4 &&& (2305843009213693951 : Int64)) + ((vg4.toUInt64 >>> ((61 : Int32) &&& 0x3f).toInt64.toUInt64).toInt64)) = vg5
  show own_G p e below _ (T2.setTop (mkF m 43 #[.val (.long q0), .second, .val (.long q1), .second, .val (.long vg1), .second, .val (.long vg3), .second, .val (.long vg4), .second] [(.long vg5)]))
  refine own_via (fun t k => XS.lstore X2.here hx rfl (hb hby own_d1_43) rfl (l' := #[.val (.long q0), .second, .val (.long q1), .second, .val (.long vg1), .second, .val (.long vg3), .second, .val (.long vg5), .second]) rfl k) ?_
  show own_G p e below _ (T2.setTop (mkF m 45 #[.val (.long q0), .second, .val (.long q1), .second, .val (.long vg1), .second, .val (.long vg3), .second, .val (.long vg5), .second] []))
  refine own_via (fun t k => XS.lload X2.here hx rfl (hb hby own_d1_45) rfl k) ?_
  show own_G p e below _ (T2.setTop (mkF m 47 #[.val (.long q0), .second, .val (.long q1), .second, .val (.long vg1), .second, .val (.long vg3), .second, .val (.long vg5), .second] [(.long vg5)]))
  refine own_via (X2.ldc2Long hx hown (mvT hZ (hw _ (List.mem_of_getElem? (i := 11) rfl))) (g := (mkF m 47 #[.val (.long q0), .second, .val (.long q1), .second, .val (.long vg1), .second, .val (.long vg3), .second, .val (.long vg5), .second] [(.long vg5)])) rfl (hb hby own_d1_47)) ?_
  show own_G p e below _ (T2.setTop (mkF m 50 #[.val (.long q0), .second, .val (.long q1), .second, .val (.long vg1), .second, .val (.long vg3), .second, .val (.long vg5), .second] [(.long (2305843009213693951 : Int64)), (.long vg5)]))
  refine own_via (fun t k => XS.lcmp X2.here hx rfl (hb hby own_d1_50) rfl k) ?_
  show own_G p e below _ (T2.setTop (mkF m 51 #[.val (.long q0), .second, .val (.long q1), .second, .val (.long vg1), .second, .val (.long vg3), .second, .val (.long vg5), .second] [(.int (lcmpW vg5 (2305843009213693951 : Int64)))]))
  by_cases hc6 : vg5 < (2305843009213693951 : Int64)
  ·
    refine own_via (fun t k => XS.ifYes X2.here hx rfl (pc0 := 51) (pc' := 63) rfl (hb hby own_d1_51) rfl ((if0 _ _).trans (tlt ((lw_lt _ _).mpr hc6)).1) (by decide) (by decide) k) ?_
    show own_G p e below _ (T2.setTop (mkF m 63 #[.val (.long q0), .second, .val (.long q1), .second, .val (.long vg1), .second, .val (.long vg3), .second, .val (.long vg5), .second] []))
    refine own_via (fun t k => XS.lload X2.here hx rfl (hb hby own_d1_63) rfl k) ?_
    show own_G p e below _ (T2.setTop (mkF m 65 #[.val (.long q0), .second, .val (.long q1), .second, .val (.long vg1), .second, .val (.long vg3), .second, .val (.long vg5), .second] [(.long vg5)]))
    exact own_retL X2 hx Bd.returns Bd.notSynchronized (hb hby own_d1_65) ⟨by show (some (.long vg5) : Option Value) = some (.long (own_F1 q0 q1)); subst hvg5; subst hvg4; subst hvg3; subst hvg1; simp only [own_F1, if_pos hc6], rfl, e2⟩ (by decide) (by decide)
  ·
    refine own_via (fun t k => XS.ifNo X2.here hx rfl (hb hby own_d1_51) rfl ((if0 _ _).trans (flt (fun q => hc6 ((lw_lt _ _).mp q))).1) k) ?_
    show own_G p e below _ (T2.setTop (mkF m 54 #[.val (.long q0), .second, .val (.long q1), .second, .val (.long vg1), .second, .val (.long vg3), .second, .val (.long vg5), .second] []))
    refine own_via (fun t k => XS.lload X2.here hx rfl (hb hby own_d1_54) rfl k) ?_
    show own_G p e below _ (T2.setTop (mkF m 56 #[.val (.long q0), .second, .val (.long q1), .second, .val (.long vg1), .second, .val (.long vg3), .second, .val (.long vg5), .second] [(.long vg5)]))
    refine own_via (X2.ldc2Long hx hown (mvT hZ (hw _ (List.mem_of_getElem? (i := 11) rfl))) (g := (mkF m 56 #[.val (.long q0), .second, .val (.long q1), .second, .val (.long vg1), .second, .val (.long vg3), .second, .val (.long vg5), .second] [(.long vg5)])) rfl (hb hby own_d1_56)) ?_
    show own_G p e below _ (T2.setTop (mkF m 59 #[.val (.long q0), .second, .val (.long q1), .second, .val (.long vg1), .second, .val (.long vg3), .second, .val (.long vg5), .second] [(.long (2305843009213693951 : Int64)), (.long vg5)]))
    refine own_via (fun t k => XS.lsub X2.here hx rfl (hb hby own_d1_59) rfl k) ?_
    show own_G p e below _ (T2.setTop (mkF m 60 #[.val (.long q0), .second, .val (.long q1), .second, .val (.long vg1), .second, .val (.long vg3), .second, .val (.long vg5), .second] [(.long (vg5 - (2305843009213693951 : Int64)))]))
    refine own_via (fun t k => XS.goto X2.here hx rfl (pc0 := 60) (pc' := 65) rfl (hb hby own_d1_60) (by decide) (by decide) k) ?_
    show own_G p e below _ (T2.setTop (mkF m 65 #[.val (.long q0), .second, .val (.long q1), .second, .val (.long vg1), .second, .val (.long vg3), .second, .val (.long vg5), .second] [(.long (vg5 - (2305843009213693951 : Int64)))]))
    exact own_retL X2 hx Bd.returns Bd.notSynchronized (hb hby own_d1_65) ⟨by show (some (.long (vg5 - (2305843009213693951 : Int64))) : Option Value) = some (.long (own_F1 q0 q1)); subst hvg5; subst hvg4; subst hvg3; subst hvg1; simp only [own_F1, if_neg hc6], rfl, e2⟩ (by decide) (by decide)
theorem own_d3_0 : decode method_3_code 0 = .ok (.ldc2_w 7, 3) := by decide +kernel
theorem own_d3_3 : decode method_3_code 3 = .ok (.lstore 4, 2) := by decide +kernel
theorem own_d3_5 : decode method_3_code 5 = .ok (.lload_n 0, 1) := by decide +kernel
theorem own_d3_6 : decode method_3_code 6 = .ok (.lload 4, 2) := by decide +kernel
theorem own_d3_8 : decode method_3_code 8 = .ok (.lrem, 1) := by decide +kernel
theorem own_d3_9 : decode method_3_code 9 = .ok (.lstore 6, 2) := by decide +kernel
theorem own_d3_11 : decode method_3_code 11 = .ok (.lload 6, 2) := by decide +kernel
theorem own_d3_13 : decode method_3_code 13 = .ok (.ldc2_w 22, 3) := by decide +kernel
theorem own_d3_16 : decode method_3_code 16 = .ok (.land, 1) := by decide +kernel
theorem own_d3_17 : decode method_3_code 17 = .ok (.lstore 8, 2) := by decide +kernel
theorem own_d3_19 : decode method_3_code 19 = .ok (.lload 6, 2) := by decide +kernel
theorem own_d3_21 : decode method_3_code 21 = .ok (.bipush 31, 2) := by decide +kernel
theorem own_d3_23 : decode method_3_code 23 = .ok (.lushr, 1) := by decide +kernel
theorem own_d3_24 : decode method_3_code 24 = .ok (.lstore 10, 2) := by decide +kernel
theorem own_d3_26 : decode method_3_code 26 = .ok (.lload_n 2, 1) := by decide +kernel
theorem own_d3_27 : decode method_3_code 27 = .ok (.ldc2_w 22, 3) := by decide +kernel
theorem own_d3_30 : decode method_3_code 30 = .ok (.land, 1) := by decide +kernel
theorem own_d3_31 : decode method_3_code 31 = .ok (.lstore 12, 2) := by decide +kernel
theorem own_d3_33 : decode method_3_code 33 = .ok (.lload_n 2, 1) := by decide +kernel
theorem own_d3_34 : decode method_3_code 34 = .ok (.bipush 31, 2) := by decide +kernel
theorem own_d3_36 : decode method_3_code 36 = .ok (.lushr, 1) := by decide +kernel
theorem own_d3_37 : decode method_3_code 37 = .ok (.lstore 14, 2) := by decide +kernel
theorem own_d3_39 : decode method_3_code 39 = .ok (.ldc2_w 24, 3) := by decide +kernel
theorem own_d3_42 : decode method_3_code 42 = .ok (.lload 10, 2) := by decide +kernel
theorem own_d3_44 : decode method_3_code 44 = .ok (.lload 14, 2) := by decide +kernel
theorem own_d3_46 : decode method_3_code 46 = .ok (.lmul, 1) := by decide +kernel
theorem own_d3_47 : decode method_3_code 47 = .ok (.lmul, 1) := by decide +kernel
theorem own_d3_48 : decode method_3_code 48 = .ok (.lload 4, 2) := by decide +kernel
theorem own_d3_50 : decode method_3_code 50 = .ok (.lrem, 1) := by decide +kernel
theorem own_d3_51 : decode method_3_code 51 = .ok (.lstore 16, 2) := by decide +kernel
theorem own_d3_53 : decode method_3_code 53 = .ok (.lload 10, 2) := by decide +kernel
theorem own_d3_55 : decode method_3_code 55 = .ok (.lload 12, 2) := by decide +kernel
theorem own_d3_57 : decode method_3_code 57 = .ok (.lmul, 1) := by decide +kernel
theorem own_d3_58 : decode method_3_code 58 = .ok (.lload 8, 2) := by decide +kernel
theorem own_d3_60 : decode method_3_code 60 = .ok (.lload 14, 2) := by decide +kernel
theorem own_d3_62 : decode method_3_code 62 = .ok (.lmul, 1) := by decide +kernel
theorem own_d3_63 : decode method_3_code 63 = .ok (.ladd, 1) := by decide +kernel
theorem own_d3_64 : decode method_3_code 64 = .ok (.lstore 18, 2) := by decide +kernel
theorem own_d3_66 : decode method_3_code 66 = .ok (.lload 18, 2) := by decide +kernel
theorem own_d3_68 : decode method_3_code 68 = .ok (.ldc2_w 26, 3) := by decide +kernel
theorem own_d3_71 : decode method_3_code 71 = .ok (.land, 1) := by decide +kernel
theorem own_d3_72 : decode method_3_code 72 = .ok (.lstore 20, 2) := by decide +kernel
theorem own_d3_74 : decode method_3_code 74 = .ok (.lload 18, 2) := by decide +kernel
theorem own_d3_76 : decode method_3_code 76 = .ok (.bipush 30, 2) := by decide +kernel
theorem own_d3_78 : decode method_3_code 78 = .ok (.lushr, 1) := by decide +kernel
theorem own_d3_79 : decode method_3_code 79 = .ok (.lstore 22, 2) := by decide +kernel
theorem own_d3_81 : decode method_3_code 81 = .ok (.lload 22, 2) := by decide +kernel
theorem own_d3_83 : decode method_3_code 83 = .ok (.lload 20, 2) := by decide +kernel
theorem own_d3_85 : decode method_3_code 85 = .ok (.bipush 31, 2) := by decide +kernel
theorem own_d3_87 : decode method_3_code 87 = .ok (.lshl, 1) := by decide +kernel
theorem own_d3_88 : decode method_3_code 88 = .ok (.ladd, 1) := by decide +kernel
theorem own_d3_89 : decode method_3_code 89 = .ok (.lload 4, 2) := by decide +kernel
theorem own_d3_91 : decode method_3_code 91 = .ok (.lrem, 1) := by decide +kernel
theorem own_d3_92 : decode method_3_code 92 = .ok (.lstore 24, 2) := by decide +kernel
theorem own_d3_94 : decode method_3_code 94 = .ok (.lload 8, 2) := by decide +kernel
theorem own_d3_96 : decode method_3_code 96 = .ok (.lload 12, 2) := by decide +kernel
theorem own_d3_98 : decode method_3_code 98 = .ok (.lmul, 1) := by decide +kernel
theorem own_d3_99 : decode method_3_code 99 = .ok (.lload 4, 2) := by decide +kernel
theorem own_d3_101 : decode method_3_code 101 = .ok (.lrem, 1) := by decide +kernel
theorem own_d3_102 : decode method_3_code 102 = .ok (.lstore 26, 2) := by decide +kernel
theorem own_d3_104 : decode method_3_code 104 = .ok (.lload 16, 2) := by decide +kernel
theorem own_d3_106 : decode method_3_code 106 = .ok (.lload 24, 2) := by decide +kernel
theorem own_d3_108 : decode method_3_code 108 = .ok (.ladd, 1) := by decide +kernel
theorem own_d3_109 : decode method_3_code 109 = .ok (.lload 26, 2) := by decide +kernel
theorem own_d3_111 : decode method_3_code 111 = .ok (.ladd, 1) := by decide +kernel
theorem own_d3_112 : decode method_3_code 112 = .ok (.lload 4, 2) := by decide +kernel
theorem own_d3_114 : decode method_3_code 114 = .ok (.lrem, 1) := by decide +kernel
theorem own_d3_115 : decode method_3_code 115 = .ok (.lreturn, 1) := by decide +kernel
abbrev own_R3 : Room := { frames := 0, cells := 0, slots := 0, locals := 0 }
theorem own_pn3 : plainFor (⟨"com/example/finalis/finalis/KeyedHashTimesPinLaw", "reference", "(JJ)J"⟩ : MethodName) = true := plainFor_of_name (by first | (simp [plainName, overriddenIn]; done) | decide +kernel)
theorem own_ef3 (m : MethodId) (q0 : Int64) (q1 : Int64) : entryFrame m #[(.long q0), (.long q1)] 28 = mkF m 0 #[.val (.long q0), .second, .val (.long q1), .second, .unset, .unset, .unset, .unset, .unset, .unset, .unset, .unset, .unset, .unset, .unset, .unset, .unset, .unset, .unset, .unset, .unset, .unset, .unset, .unset, .unset, .unset, .unset, .unset] [] := by first | (simp [entryFrame, mkF, argsToLocals, Value.category]; done) | rfl
def own_F3 (q0 : Int64) (q1 : Int64) : Int64 := (let vg1 : Int64 := (q0 - (q0 / (2305843009213693951 : Int64)) * (2305843009213693951 : Int64)); (let vg2 : Int64 := (vg1 &&& (2147483647 : Int64)); (let vg3 : Int64 := ((vg1.toUInt64 >>> ((31 : Int32) &&& 0x3f).toInt64.toUInt64).toInt64); (let vg4 : Int64 := (q1 &&& (2147483647 : Int64)); (let vg5 : Int64 := ((q1.toUInt64 >>> ((31 : Int32) &&& 0x3f).toInt64.toUInt64).toInt64); (let vg6 : Int64 := (((2 : Int64) * (vg3 * vg5)) - (((2 : Int64) * (vg3 * vg5)) / (2305843009213693951 : Int64)) * (2305843009213693951 : Int64)); (let vg7 : Int64 := ((vg3 * vg4) + (vg2 * vg5)); (let vg8 : Int64 := (vg7 &&& (1073741823 : Int64)); (let vg9 : Int64 := ((vg7.toUInt64 >>> ((30 : Int32) &&& 0x3f).toInt64.toUInt64).toInt64); (let vg10 : Int64 := ((vg9 + (vg8 <<< ((31 : Int32) &&& 0x3f).toInt64)) - ((vg9 + (vg8 <<< ((31 : Int32) &&& 0x3f).toInt64)) / (2305843009213693951 : Int64)) * (2305843009213693951 : Int64)); (let vg11 : Int64 := ((vg2 * vg4) - ((vg2 * vg4) / (2305843009213693951 : Int64)) * (2305843009213693951 : Int64)); (((vg6 + vg10) + vg11) - (((vg6 + vg10) + vg11) / (2305843009213693951 : Int64)) * (2305843009213693951 : Int64)))))))))))))
set_option maxRecDepth 65536 in
set_option maxHeartbeats 40000000 in
theorem own_rm3 (l : Launch) (Z : State) (a0 : Array Value) (hw : ∀ d ∈ tables_1, d.before a0 Z = true) (ws : List Jvm.Cond) (q0 : Int64) (q1 : Int64) (h0 : Heap) :
    own_C l Z (⟨"com/example/finalis/finalis/KeyedHashTimesPinLaw", "reference", "(JJ)J"⟩ : MethodName) method_3_code 28 (some .long) ws own_R3 #[(.long q0), (.long q1)] h0 (own_Q (.long (own_F3 q0 q1)) h0) := by
  refine MetFree.of_bodySF own_pn3 hisR ?_
  intro p e s m args below meth c s₁ Bd hml0 hP hK
  obtain ⟨rfl, hZ, hh⟩ := hP
  have hx := Bd.exec
  have hby := Bd.bytes
  have hml : c.maxLocals = 28 := hml0
  have hown : s.vm.findClass "com/example/finalis/finalis/KeyedHashTimesPinLaw" = some m.cls := findClass_of_methodNamed Bd.named
  have X0 : Stand p l e own_R3 s m #[(.long q0), (.long q1)] below meth c s₁ [] 0 0 := Stand.of_body Bd
  have e0 : s₁.heap = h0 := by rw [← hh, Bd.state]; rfl
  show own_G p e below (own_P s (own_Q (.long (own_F3 q0 q1)) h0) own_R3.cells own_R3.slots) (s₁.setTop (entryFrame m #[(.long q0), (.long q1)] 28))
  rw [own_ef3 m q0 q1]
  show own_G p e below _ (s₁.setTop (mkF m 0 #[.val (.long q0), .second, .val (.long q1), .second, .unset, .unset, .unset, .unset, .unset, .unset, .unset, .unset, .unset, .unset, .unset, .unset, .unset, .unset, .unset, .unset, .unset, .unset, .unset, .unset, .unset, .unset, .unset, .unset] []))
  refine own_via (X0.ldc2Long hx hown (mvT hZ (hw _ (List.mem_of_getElem? (i := 0) rfl))) (g := (mkF m 0 #[.val (.long q0), .second, .val (.long q1), .second, .unset, .unset, .unset, .unset, .unset, .unset, .unset, .unset, .unset, .unset, .unset, .unset, .unset, .unset, .unset, .unset, .unset, .unset, .unset, .unset, .unset, .unset, .unset, .unset] [])) rfl (hb hby own_d3_0)) ?_
  show own_G p e below _ (s₁.setTop (mkF m 3 #[.val (.long q0), .second, .val (.long q1), .second, .unset, .unset, .unset, .unset, .unset, .unset, .unset, .unset, .unset, .unset, .unset, .unset, .unset, .unset, .unset, .unset, .unset, .unset, .unset, .unset, .unset, .unset, .unset, .unset] [(.long (2305843009213693951 : Int64))]))
  refine own_via (fun t k => XS.lstore X0.here hx rfl (hb hby own_d3_3) rfl (l' := #[.val (.long q0), .second, .val (.long q1), .second, .val (.long (2305843009213693951 : Int64)), .second, .unset, .unset, .unset, .unset, .unset, .unset, .unset, .unset, .unset, .unset, .unset, .unset, .unset, .unset, .unset, .unset, .unset, .unset, .unset, .unset, .unset, .unset]) rfl k) ?_
  show own_G p e below _ (s₁.setTop (mkF m 5 #[.val (.long q0), .second, .val (.long q1), .second, .val (.long (2305843009213693951 : Int64)), .second, .unset, .unset, .unset, .unset, .unset, .unset, .unset, .unset, .unset, .unset, .unset, .unset, .unset, .unset, .unset, .unset, .unset, .unset, .unset, .unset, .unset, .unset] []))
  refine own_via (fun t k => XS.lloadN X0.here hx rfl (hb hby own_d3_5) rfl k) ?_
  show own_G p e below _ (s₁.setTop (mkF m 6 #[.val (.long q0), .second, .val (.long q1), .second, .val (.long (2305843009213693951 : Int64)), .second, .unset, .unset, .unset, .unset, .unset, .unset, .unset, .unset, .unset, .unset, .unset, .unset, .unset, .unset, .unset, .unset, .unset, .unset, .unset, .unset, .unset, .unset] [(.long q0)]))
  refine own_via (fun t k => XS.lload X0.here hx rfl (hb hby own_d3_6) rfl k) ?_
  show own_G p e below _ (s₁.setTop (mkF m 8 #[.val (.long q0), .second, .val (.long q1), .second, .val (.long (2305843009213693951 : Int64)), .second, .unset, .unset, .unset, .unset, .unset, .unset, .unset, .unset, .unset, .unset, .unset, .unset, .unset, .unset, .unset, .unset, .unset, .unset, .unset, .unset, .unset, .unset] [(.long (2305843009213693951 : Int64)), (.long q0)]))
  refine own_via (fun t k => XS.lrem X0.here hx rfl (hb hby own_d3_8) rfl (by decide) k) ?_
  show own_G p e below _ (s₁.setTop (mkF m 9 #[.val (.long q0), .second, .val (.long q1), .second, .val (.long (2305843009213693951 : Int64)), .second, .unset, .unset, .unset, .unset, .unset, .unset, .unset, .unset, .unset, .unset, .unset, .unset, .unset, .unset, .unset, .unset, .unset, .unset, .unset, .unset, .unset, .unset] [(.long (q0 - (q0 / (2305843009213693951 : Int64)) * (2305843009213693951 : Int64)))]))
  generalize hvg1 : (q0 - (q0 / (2305843009213693951 : Int64)) * (2305843009213693951 : Int64)) = vg1
  show own_G p e below _ (s₁.setTop (mkF m 9 #[.val (.long q0), .second, .val (.long q1), .second, .val (.long (2305843009213693951 : Int64)), .second, .unset, .unset, .unset, .unset, .unset, .unset, .unset, .unset, .unset, .unset, .unset, .unset, .unset, .unset, .unset, .unset, .unset, .unset, .unset, .unset, .unset, .unset] [(.long vg1)]))
  refine own_via (fun t k => XS.lstore X0.here hx rfl (hb hby own_d3_9) rfl (l' := #[.val (.long q0), .second, .val (.long q1), .second, .val (.long (2305843009213693951 : Int64)), .second, .val (.long vg1), .second, .unset, .unset, .unset, .unset, .unset, .unset, .unset, .unset, .unset, .unset, .unset, .unset, .unset, .unset, .unset, .unset, .unset, .unset, .unset, .unset]) rfl k) ?_
  show own_G p e below _ (s₁.setTop (mkF m 11 #[.val (.long q0), .second, .val (.long q1), .second, .val (.long (2305843009213693951 : Int64)), .second, .val (.long vg1), .second, .unset, .unset, .unset, .unset, .unset, .unset, .unset, .unset, .unset, .unset, .unset, .unset, .unset, .unset, .unset, .unset, .unset, .unset, .unset, .unset] []))
  refine own_via (fun t k => XS.lload X0.here hx rfl (hb hby own_d3_11) rfl k) ?_
  show own_G p e below _ (s₁.setTop (mkF m 13 #[.val (.long q0), .second, .val (.long q1), .second, .val (.long (2305843009213693951 : Int64)), .second, .val (.long vg1), .second, .unset, .unset, .unset, .unset, .unset, .unset, .unset, .unset, .unset, .unset, .unset, .unset, .unset, .unset, .unset, .unset, .unset, .unset, .unset, .unset] [(.long vg1)]))
  refine own_via (X0.ldc2Long hx hown (mvT hZ (hw _ (List.mem_of_getElem? (i := 16) rfl))) (g := (mkF m 13 #[.val (.long q0), .second, .val (.long q1), .second, .val (.long (2305843009213693951 : Int64)), .second, .val (.long vg1), .second, .unset, .unset, .unset, .unset, .unset, .unset, .unset, .unset, .unset, .unset, .unset, .unset, .unset, .unset, .unset, .unset, .unset, .unset, .unset, .unset] [(.long vg1)])) rfl (hb hby own_d3_13)) ?_
  show own_G p e below _ (s₁.setTop (mkF m 16 #[.val (.long q0), .second, .val (.long q1), .second, .val (.long (2305843009213693951 : Int64)), .second, .val (.long vg1), .second, .unset, .unset, .unset, .unset, .unset, .unset, .unset, .unset, .unset, .unset, .unset, .unset, .unset, .unset, .unset, .unset, .unset, .unset, .unset, .unset] [(.long (2147483647 : Int64)), (.long vg1)]))
  refine own_via (fun t k => XS.land X0.here hx rfl (hb hby own_d3_16) rfl k) ?_
  show own_G p e below _ (s₁.setTop (mkF m 17 #[.val (.long q0), .second, .val (.long q1), .second, .val (.long (2305843009213693951 : Int64)), .second, .val (.long vg1), .second, .unset, .unset, .unset, .unset, .unset, .unset, .unset, .unset, .unset, .unset, .unset, .unset, .unset, .unset, .unset, .unset, .unset, .unset, .unset, .unset] [(.long (vg1 &&& (2147483647 : Int64)))]))
  generalize hvg2 : (vg1 &&& (2147483647 : Int64)) = vg2
  show own_G p e below _ (s₁.setTop (mkF m 17 #[.val (.long q0), .second, .val (.long q1), .second, .val (.long (2305843009213693951 : Int64)), .second, .val (.long vg1), .second, .unset, .unset, .unset, .unset, .unset, .unset, .unset, .unset, .unset, .unset, .unset, .unset, .unset, .unset, .unset, .unset, .unset, .unset, .unset, .unset] [(.long vg2)]))
  refine own_via (fun t k => XS.lstore X0.here hx rfl (hb hby own_d3_17) rfl (l' := #[.val (.long q0), .second, .val (.long q1), .second, .val (.long (2305843009213693951 : Int64)), .second, .val (.long vg1), .second, .val (.long vg2), .second, .unset, .unset, .unset, .unset, .unset, .unset, .unset, .unset, .unset, .unset, .unset, .unset, .unset, .unset, .unset, .unset, .unset, .unset]) rfl k) ?_
  show own_G p e below _ (s₁.setTop (mkF m 19 #[.val (.long q0), .second, .val (.long q1), .second, .val (.long (2305843009213693951 : Int64)), .second, .val (.long vg1), .second, .val (.long vg2), .second, .unset, .unset, .unset, .unset, .unset, .unset, .unset, .unset, .unset, .unset, .unset, .unset, .unset, .unset, .unset, .unset, .unset, .unset] []))
  refine own_via (fun t k => XS.lload X0.here hx rfl (hb hby own_d3_19) rfl k) ?_
  show own_G p e below _ (s₁.setTop (mkF m 21 #[.val (.long q0), .second, .val (.long q1), .second, .val (.long (2305843009213693951 : Int64)), .second, .val (.long vg1), .second, .val (.long vg2), .second, .unset, .unset, .unset, .unset, .unset, .unset, .unset, .unset, .unset, .unset, .unset, .unset, .unset, .unset, .unset, .unset, .unset, .unset] [(.long vg1)]))
  refine own_via (fun t k => XS.bipush X0.here hx rfl (hb hby own_d3_21) k) ?_
  show own_G p e below _ (s₁.setTop (mkF m 23 #[.val (.long q0), .second, .val (.long q1), .second, .val (.long (2305843009213693951 : Int64)), .second, .val (.long vg1), .second, .val (.long vg2), .second, .unset, .unset, .unset, .unset, .unset, .unset, .unset, .unset, .unset, .unset, .unset, .unset, .unset, .unset, .unset, .unset, .unset, .unset] [(.int (31 : Int32)), (.long vg1)]))
  refine own_via (fun t k => XS.lushr X0.here hx rfl (hb hby own_d3_23) rfl k) ?_
  show own_G p e below _ (s₁.setTop (mkF m 24 #[.val (.long q0), .second, .val (.long q1), .second, .val (.long (2305843009213693951 : Int64)), .second, .val (.long vg1), .second, .val (.long vg2), .second, .unset, .unset, .unset, .unset, .unset, .unset, .unset, .unset, .unset, .unset, .unset, .unset, .unset, .unset, .unset, .unset, .unset, .unset] [(.long ((vg1.toUInt64 >>> ((31 : Int32) &&& 0x3f).toInt64.toUInt64).toInt64))]))
  generalize hvg3 : ((vg1.toUInt64 >>> ((31 : Int32) &&& 0x3f).toInt64.toUInt64).toInt64) = vg3
  show own_G p e below _ (s₁.setTop (mkF m 24 #[.val (.long q0), .second, .val (.long q1), .second, .val (.long (2305843009213693951 : Int64)), .second, .val (.long vg1), .second, .val (.long vg2), .second, .unset, .unset, .unset, .unset, .unset, .unset, .unset, .unset, .unset, .unset, .unset, .unset, .unset, .unset, .unset, .unset, .unset, .unset] [(.long vg3)]))
  refine own_via (fun t k => XS.lstore X0.here hx rfl (hb hby own_d3_24) rfl (l' := #[.val (.long q0), .second, .val (.long q1), .second, .val (.long (2305843009213693951 : Int64)), .second, .val (.long vg1), .second, .val (.long vg2), .second, .val (.long vg3), .second, .unset, .unset, .unset, .unset, .unset, .unset, .unset, .unset, .unset, .unset, .unset, .unset, .unset, .unset, .unset, .unset]) rfl k) ?_
  show own_G p e below _ (s₁.setTop (mkF m 26 #[.val (.long q0), .second, .val (.long q1), .second, .val (.long (2305843009213693951 : Int64)), .second, .val (.long vg1), .second, .val (.long vg2), .second, .val (.long vg3), .second, .unset, .unset, .unset, .unset, .unset, .unset, .unset, .unset, .unset, .unset, .unset, .unset, .unset, .unset, .unset, .unset] []))
  refine own_via (fun t k => XS.lloadN X0.here hx rfl (hb hby own_d3_26) rfl k) ?_
  show own_G p e below _ (s₁.setTop (mkF m 27 #[.val (.long q0), .second, .val (.long q1), .second, .val (.long (2305843009213693951 : Int64)), .second, .val (.long vg1), .second, .val (.long vg2), .second, .val (.long vg3), .second, .unset, .unset, .unset, .unset, .unset, .unset, .unset, .unset, .unset, .unset, .unset, .unset, .unset, .unset, .unset, .unset] [(.long q1)]))
  refine own_via (X0.ldc2Long hx hown (mvT hZ (hw _ (List.mem_of_getElem? (i := 16) rfl))) (g := (mkF m 27 #[.val (.long q0), .second, .val (.long q1), .second, .val (.long (2305843009213693951 : Int64)), .second, .val (.long vg1), .second, .val (.long vg2), .second, .val (.long vg3), .second, .unset, .unset, .unset, .unset, .unset, .unset, .unset, .unset, .unset, .unset, .unset, .unset, .unset, .unset, .unset, .unset] [(.long q1)])) rfl (hb hby own_d3_27)) ?_
  show own_G p e below _ (s₁.setTop (mkF m 30 #[.val (.long q0), .second, .val (.long q1), .second, .val (.long (2305843009213693951 : Int64)), .second, .val (.long vg1), .second, .val (.long vg2), .second, .val (.long vg3), .second, .unset, .unset, .unset, .unset, .unset, .unset, .unset, .unset, .unset, .unset, .unset, .unset, .unset, .unset, .unset, .unset] [(.long (2147483647 : Int64)), (.long q1)]))
  refine own_via (fun t k => XS.land X0.here hx rfl (hb hby own_d3_30) rfl k) ?_
  show own_G p e below _ (s₁.setTop (mkF m 31 #[.val (.long q0), .second, .val (.long q1), .second, .val (.long (2305843009213693951 : Int64)), .second, .val (.long vg1), .second, .val (.long vg2), .second, .val (.long vg3), .second, .unset, .unset, .unset, .unset, .unset, .unset, .unset, .unset, .unset, .unset, .unset, .unset, .unset, .unset, .unset, .unset] [(.long (q1 &&& (2147483647 : Int64)))]))
  generalize hvg4 : (q1 &&& (2147483647 : Int64)) = vg4
  show own_G p e below _ (s₁.setTop (mkF m 31 #[.val (.long q0), .second, .val (.long q1), .second, .val (.long (2305843009213693951 : Int64)), .second, .val (.long vg1), .second, .val (.long vg2), .second, .val (.long vg3), .second, .unset, .unset, .unset, .unset, .unset, .unset, .unset, .unset, .unset, .unset, .unset, .unset, .unset, .unset, .unset, .unset] [(.long vg4)]))
  refine own_via (fun t k => XS.lstore X0.here hx rfl (hb hby own_d3_31) rfl (l' := #[.val (.long q0), .second, .val (.long q1), .second, .val (.long (2305843009213693951 : Int64)), .second, .val (.long vg1), .second, .val (.long vg2), .second, .val (.long vg3), .second, .val (.long vg4), .second, .unset, .unset, .unset, .unset, .unset, .unset, .unset, .unset, .unset, .unset, .unset, .unset, .unset, .unset]) rfl k) ?_
  show own_G p e below _ (s₁.setTop (mkF m 33 #[.val (.long q0), .second, .val (.long q1), .second, .val (.long (2305843009213693951 : Int64)), .second, .val (.long vg1), .second, .val (.long vg2), .second, .val (.long vg3), .second, .val (.long vg4), .second, .unset, .unset, .unset, .unset, .unset, .unset, .unset, .unset, .unset, .unset, .unset, .unset, .unset, .unset] []))
  refine own_via (fun t k => XS.lloadN X0.here hx rfl (hb hby own_d3_33) rfl k) ?_
  show own_G p e below _ (s₁.setTop (mkF m 34 #[.val (.long q0), .second, .val (.long q1), .second, .val (.long (2305843009213693951 : Int64)), .second, .val (.long vg1), .second, .val (.long vg2), .second, .val (.long vg3), .second, .val (.long vg4), .second, .unset, .unset, .unset, .unset, .unset, .unset, .unset, .unset, .unset, .unset, .unset, .unset, .unset, .unset] [(.long q1)]))
  refine own_via (fun t k => XS.bipush X0.here hx rfl (hb hby own_d3_34) k) ?_
  show own_G p e below _ (s₁.setTop (mkF m 36 #[.val (.long q0), .second, .val (.long q1), .second, .val (.long (2305843009213693951 : Int64)), .second, .val (.long vg1), .second, .val (.long vg2), .second, .val (.long vg3), .second, .val (.long vg4), .second, .unset, .unset, .unset, .unset, .unset, .unset, .unset, .unset, .unset, .unset, .unset, .unset, .unset, .unset] [(.int (31 : Int32)), (.long q1)]))
  refine own_via (fun t k => XS.lushr X0.here hx rfl (hb hby own_d3_36) rfl k) ?_
  show own_G p e below _ (s₁.setTop (mkF m 37 #[.val (.long q0), .second, .val (.long q1), .second, .val (.long (2305843009213693951 : Int64)), .second, .val (.long vg1), .second, .val (.long vg2), .second, .val (.long vg3), .second, .val (.long vg4), .second, .unset, .unset, .unset, .unset, .unset, .unset, .unset, .unset, .unset, .unset, .unset, .unset, .unset, .unset] [(.long ((q1.toUInt64 >>> ((31 : Int32) &&& 0x3f).toInt64.toUInt64).toInt64))]))
  generalize hvg5 : ((q1.toUInt64 >>> ((31 : Int32) &&& 0x3f).toInt64.toUInt64).toInt64) = vg5
  show own_G p e below _ (s₁.setTop (mkF m 37 #[.val (.long q0), .second, .val (.long q1), .second, .val (.long (2305843009213693951 : Int64)), .second, .val (.long vg1), .second, .val (.long vg2), .second, .val (.long vg3), .second, .val (.long vg4), .second, .unset, .unset, .unset, .unset, .unset, .unset, .unset, .unset, .unset, .unset, .unset, .unset, .unset, .unset] [(.long vg5)]))
  refine own_via (fun t k => XS.lstore X0.here hx rfl (hb hby own_d3_37) rfl (l' := #[.val (.long q0), .second, .val (.long q1), .second, .val (.long (2305843009213693951 : Int64)), .second, .val (.long vg1), .second, .val (.long vg2), .second, .val (.long vg3), .second, .val (.long vg4), .second, .val (.long vg5), .second, .unset, .unset, .unset, .unset, .unset, .unset, .unset, .unset, .unset, .unset, .unset, .unset]) rfl k) ?_
  show own_G p e below _ (s₁.setTop (mkF m 39 #[.val (.long q0), .second, .val (.long q1), .second, .val (.long (2305843009213693951 : Int64)), .second, .val (.long vg1), .second, .val (.long vg2), .second, .val (.long vg3), .second, .val (.long vg4), .second, .val (.long vg5), .second, .unset, .unset, .unset, .unset, .unset, .unset, .unset, .unset, .unset, .unset, .unset, .unset] []))
  refine own_via (X0.ldc2Long hx hown (mvT hZ (hw _ (List.mem_of_getElem? (i := 17) rfl))) (g := (mkF m 39 #[.val (.long q0), .second, .val (.long q1), .second, .val (.long (2305843009213693951 : Int64)), .second, .val (.long vg1), .second, .val (.long vg2), .second, .val (.long vg3), .second, .val (.long vg4), .second, .val (.long vg5), .second, .unset, .unset, .unset, .unset, .unset, .unset, .unset, .unset, .unset, .unset, .unset, .unset] [])) rfl (hb hby own_d3_39)) ?_
  show own_G p e below _ (s₁.setTop (mkF m 42 #[.val (.long q0), .second, .val (.long q1), .second, .val (.long (2305843009213693951 : Int64)), .second, .val (.long vg1), .second, .val (.long vg2), .second, .val (.long vg3), .second, .val (.long vg4), .second, .val (.long vg5), .second, .unset, .unset, .unset, .unset, .unset, .unset, .unset, .unset, .unset, .unset, .unset, .unset] [(.long (2 : Int64))]))
  refine own_via (fun t k => XS.lload X0.here hx rfl (hb hby own_d3_42) rfl k) ?_
  show own_G p e below _ (s₁.setTop (mkF m 44 #[.val (.long q0), .second, .val (.long q1), .second, .val (.long (2305843009213693951 : Int64)), .second, .val (.long vg1), .second, .val (.long vg2), .second, .val (.long vg3), .second, .val (.long vg4), .second, .val (.long vg5), .second, .unset, .unset, .unset, .unset, .unset, .unset, .unset, .unset, .unset, .unset, .unset, .unset] [(.long vg3), (.long (2 : Int64))]))
  refine own_via (fun t k => XS.lload X0.here hx rfl (hb hby own_d3_44) rfl k) ?_
  show own_G p e below _ (s₁.setTop (mkF m 46 #[.val (.long q0), .second, .val (.long q1), .second, .val (.long (2305843009213693951 : Int64)), .second, .val (.long vg1), .second, .val (.long vg2), .second, .val (.long vg3), .second, .val (.long vg4), .second, .val (.long vg5), .second, .unset, .unset, .unset, .unset, .unset, .unset, .unset, .unset, .unset, .unset, .unset, .unset] [(.long vg5), (.long vg3), (.long (2 : Int64))]))
  refine own_via (fun t k => XS.lmul X0.here hx rfl (hb hby own_d3_46) rfl k) ?_
  show own_G p e below _ (s₁.setTop (mkF m 47 #[.val (.long q0), .second, .val (.long q1), .second, .val (.long (2305843009213693951 : Int64)), .second, .val (.long vg1), .second, .val (.long vg2), .second, .val (.long vg3), .second, .val (.long vg4), .second, .val (.long vg5), .second, .unset, .unset, .unset, .unset, .unset, .unset, .unset, .unset, .unset, .unset, .unset, .unset] [(.long (vg3 * vg5)), (.long (2 : Int64))]))
  refine own_via (fun t k => XS.lmul X0.here hx rfl (hb hby own_d3_47) rfl k) ?_
  show own_G p e below _ (s₁.setTop (mkF m 48 #[.val (.long q0), .second, .val (.long q1), .second, .val (.long (2305843009213693951 : Int64)), .second, .val (.long vg1), .second, .val (.long vg2), .second, .val (.long vg3), .second, .val (.long vg4), .second, .val (.long vg5), .second, .unset, .unset, .unset, .unset, .unset, .unset, .unset, .unset, .unset, .unset, .unset, .unset] [(.long ((2 : Int64) * (vg3 * vg5)))]))
  refine own_via (fun t k => XS.lload X0.here hx rfl (hb hby own_d3_48) rfl k) ?_
  show own_G p e below _ (s₁.setTop (mkF m 50 #[.val (.long q0), .second, .val (.long q1), .second, .val (.long (2305843009213693951 : Int64)), .second, .val (.long vg1), .second, .val (.long vg2), .second, .val (.long vg3), .second, .val (.long vg4), .second, .val (.long vg5), .second, .unset, .unset, .unset, .unset, .unset, .unset, .unset, .unset, .unset, .unset, .unset, .unset] [(.long (2305843009213693951 : Int64)), (.long ((2 : Int64) * (vg3 * vg5)))]))
  refine own_via (fun t k => XS.lrem X0.here hx rfl (hb hby own_d3_50) rfl (by decide) k) ?_
  show own_G p e below _ (s₁.setTop (mkF m 51 #[.val (.long q0), .second, .val (.long q1), .second, .val (.long (2305843009213693951 : Int64)), .second, .val (.long vg1), .second, .val (.long vg2), .second, .val (.long vg3), .second, .val (.long vg4), .second, .val (.long vg5), .second, .unset, .unset, .unset, .unset, .unset, .unset, .unset, .unset, .unset, .unset, .unset, .unset] [(.long (((2 : Int64) * (vg3 * vg5)) - (((2 : Int64) * (vg3 * vg5)) / (2305843009213693951 : Int64)) * (2305843009213693951 : Int64)))]))
  generalize hvg6 : (((2 : Int64) * (vg3 * vg5)) - (((2 : Int64) * (vg3 * vg5)) / (2305843009213693951 : Int64)) * (2305843009213693951 : Int64)) = vg6
  show own_G p e below _ (s₁.setTop (mkF m 51 #[.val (.long q0), .second, .val (.long q1), .second, .val (.long (2305843009213693951 : Int64)), .second, .val (.long vg1), .second, .val (.long vg2), .second, .val (.long vg3), .second, .val (.long vg4), .second, .val (.long vg5), .second, .unset, .unset, .unset, .unset, .unset, .unset, .unset, .unset, .unset, .unset, .unset, .unset] [(.long vg6)]))
  refine own_via (fun t k => XS.lstore X0.here hx rfl (hb hby own_d3_51) rfl (l' := #[.val (.long q0), .second, .val (.long q1), .second, .val (.long (2305843009213693951 : Int64)), .second, .val (.long vg1), .second, .val (.long vg2), .second, .val (.long vg3), .second, .val (.long vg4), .second, .val (.long vg5), .second, .val (.long vg6), .second, .unset, .unset, .unset, .unset, .unset, .unset, .unset, .unset, .unset, .unset]) rfl k) ?_
  show own_G p e below _ (s₁.setTop (mkF m 53 #[.val (.long q0), .second, .val (.long q1), .second, .val (.long (2305843009213693951 : Int64)), .second, .val (.long vg1), .second, .val (.long vg2), .second, .val (.long vg3), .second, .val (.long vg4), .second, .val (.long vg5), .second, .val (.long vg6), .second, .unset, .unset, .unset, .unset, .unset, .unset, .unset, .unset, .unset, .unset] []))
  refine own_via (fun t k => XS.lload X0.here hx rfl (hb hby own_d3_53) rfl k) ?_
  show own_G p e below _ (s₁.setTop (mkF m 55 #[.val (.long q0), .second, .val (.long q1), .second, .val (.long (2305843009213693951 : Int64)), .second, .val (.long vg1), .second, .val (.long vg2), .second, .val (.long vg3), .second, .val (.long vg4), .second, .val (.long vg5), .second, .val (.long vg6), .second, .unset, .unset, .unset, .unset, .unset, .unset, .unset, .unset, .unset, .unset] [(.long vg3)]))
  refine own_via (fun t k => XS.lload X0.here hx rfl (hb hby own_d3_55) rfl k) ?_
  show own_G p e below _ (s₁.setTop (mkF m 57 #[.val (.long q0), .second, .val (.long q1), .second, .val (.long (2305843009213693951 : Int64)), .second, .val (.long vg1), .second, .val (.long vg2), .second, .val (.long vg3), .second, .val (.long vg4), .second, .val (.long vg5), .second, .val (.long vg6), .second, .unset, .unset, .unset, .unset, .unset, .unset, .unset, .unset, .unset, .unset] [(.long vg4), (.long vg3)]))
  refine own_via (fun t k => XS.lmul X0.here hx rfl (hb hby own_d3_57) rfl k) ?_
  show own_G p e below _ (s₁.setTop (mkF m 58 #[.val (.long q0), .second, .val (.long q1), .second, .val (.long (2305843009213693951 : Int64)), .second, .val (.long vg1), .second, .val (.long vg2), .second, .val (.long vg3), .second, .val (.long vg4), .second, .val (.long vg5), .second, .val (.long vg6), .second, .unset, .unset, .unset, .unset, .unset, .unset, .unset, .unset, .unset, .unset] [(.long (vg3 * vg4))]))
  refine own_via (fun t k => XS.lload X0.here hx rfl (hb hby own_d3_58) rfl k) ?_
  show own_G p e below _ (s₁.setTop (mkF m 60 #[.val (.long q0), .second, .val (.long q1), .second, .val (.long (2305843009213693951 : Int64)), .second, .val (.long vg1), .second, .val (.long vg2), .second, .val (.long vg3), .second, .val (.long vg4), .second, .val (.long vg5), .second, .val (.long vg6), .second, .unset, .unset, .unset, .unset, .unset, .unset, .unset, .unset, .unset, .unset] [(.long vg2), (.long (vg3 * vg4))]))
  refine own_via (fun t k => XS.lload X0.here hx rfl (hb hby own_d3_60) rfl k) ?_
  show own_G p e below _ (s₁.setTop (mkF m 62 #[.val (.long q0), .second, .val (.long q1), .second, .val (.long (2305843009213693951 : Int64)), .second, .val (.long vg1), .second, .val (.long vg2), .second, .val (.long vg3), .second, .val (.long vg4), .second, .val (.long vg5), .second, .val (.long vg6), .second, .unset, .unset, .unset, .unset, .unset, .unset, .unset, .unset, .unset, .unset] [(.long vg5), (.long vg2), (.long (vg3 * vg4))]))
  refine own_via (fun t k => XS.lmul X0.here hx rfl (hb hby own_d3_62) rfl k) ?_
  show own_G p e below _ (s₁.setTop (mkF m 63 #[.val (.long q0), .second, .val (.long q1), .second, .val (.long (2305843009213693951 : Int64)), .second, .val (.long vg1), .second, .val (.long vg2), .second, .val (.long vg3), .second, .val (.long vg4), .second, .val (.long vg5), .second, .val (.long vg6), .second, .unset, .unset, .unset, .unset, .unset, .unset, .unset, .unset, .unset, .unset] [(.long (vg2 * vg5)), (.long (vg3 * vg4))]))
  refine own_via (fun t k => XS.ladd X0.here hx rfl (hb hby own_d3_63) rfl k) ?_
  show own_G p e below _ (s₁.setTop (mkF m 64 #[.val (.long q0), .second, .val (.long q1), .second, .val (.long (2305843009213693951 : Int64)), .second, .val (.long vg1), .second, .val (.long vg2), .second, .val (.long vg3), .second, .val (.long vg4), .second, .val (.long vg5), .second, .val (.long vg6), .second, .unset, .unset, .unset, .unset, .unset, .unset, .unset, .unset, .unset, .unset] [(.long ((vg3 * vg4) + (vg2 * vg5)))]))
  generalize hvg7 : ((vg3 * vg4) + (vg2 * vg5)) = vg7
  show own_G p e below _ (s₁.setTop (mkF m 64 #[.val (.long q0), .second, .val (.long q1), .second, .val (.long (2305843009213693951 : Int64)), .second, .val (.long vg1), .second, .val (.long vg2), .second, .val (.long vg3), .second, .val (.long vg4), .second, .val (.long vg5), .second, .val (.long vg6), .second, .unset, .unset, .unset, .unset, .unset, .unset, .unset, .unset, .unset, .unset] [(.long vg7)]))
  refine own_via (fun t k => XS.lstore X0.here hx rfl (hb hby own_d3_64) rfl (l' := #[.val (.long q0), .second, .val (.long q1), .second, .val (.long (2305843009213693951 : Int64)), .second, .val (.long vg1), .second, .val (.long vg2), .second, .val (.long vg3), .second, .val (.long vg4), .second, .val (.long vg5), .second, .val (.long vg6), .second, .val (.long vg7), .second, .unset, .unset, .unset, .unset, .unset, .unset, .unset, .unset]) rfl k) ?_
  show own_G p e below _ (s₁.setTop (mkF m 66 #[.val (.long q0), .second, .val (.long q1), .second, .val (.long (2305843009213693951 : Int64)), .second, .val (.long vg1), .second, .val (.long vg2), .second, .val (.long vg3), .second, .val (.long vg4), .second, .val (.long vg5), .second, .val (.long vg6), .second, .val (.long vg7), .second, .unset, .unset, .unset, .unset, .unset, .unset, .unset, .unset] []))
  refine own_via (fun t k => XS.lload X0.here hx rfl (hb hby own_d3_66) rfl k) ?_
  show own_G p e below _ (s₁.setTop (mkF m 68 #[.val (.long q0), .second, .val (.long q1), .second, .val (.long (2305843009213693951 : Int64)), .second, .val (.long vg1), .second, .val (.long vg2), .second, .val (.long vg3), .second, .val (.long vg4), .second, .val (.long vg5), .second, .val (.long vg6), .second, .val (.long vg7), .second, .unset, .unset, .unset, .unset, .unset, .unset, .unset, .unset] [(.long vg7)]))
  refine own_via (X0.ldc2Long hx hown (mvT hZ (hw _ (List.mem_of_getElem? (i := 18) rfl))) (g := (mkF m 68 #[.val (.long q0), .second, .val (.long q1), .second, .val (.long (2305843009213693951 : Int64)), .second, .val (.long vg1), .second, .val (.long vg2), .second, .val (.long vg3), .second, .val (.long vg4), .second, .val (.long vg5), .second, .val (.long vg6), .second, .val (.long vg7), .second, .unset, .unset, .unset, .unset, .unset, .unset, .unset, .unset] [(.long vg7)])) rfl (hb hby own_d3_68)) ?_
  show own_G p e below _ (s₁.setTop (mkF m 71 #[.val (.long q0), .second, .val (.long q1), .second, .val (.long (2305843009213693951 : Int64)), .second, .val (.long vg1), .second, .val (.long vg2), .second, .val (.long vg3), .second, .val (.long vg4), .second, .val (.long vg5), .second, .val (.long vg6), .second, .val (.long vg7), .second, .unset, .unset, .unset, .unset, .unset, .unset, .unset, .unset] [(.long (1073741823 : Int64)), (.long vg7)]))
  refine own_via (fun t k => XS.land X0.here hx rfl (hb hby own_d3_71) rfl k) ?_
  show own_G p e below _ (s₁.setTop (mkF m 72 #[.val (.long q0), .second, .val (.long q1), .second, .val (.long (2305843009213693951 : Int64)), .second, .val (.long vg1), .second, .val (.long vg2), .second, .val (.long vg3), .second, .val (.long vg4), .second, .val (.long vg5), .second, .val (.long vg6), .second, .val (.long vg7), .second, .unset, .unset, .unset, .unset, .unset, .unset, .unset, .unset] [(.long (vg7 &&& (1073741823 : Int64)))]))
  generalize hvg8 : (vg7 &&& (1073741823 : Int64)) = vg8
  show own_G p e below _ (s₁.setTop (mkF m 72 #[.val (.long q0), .second, .val (.long q1), .second, .val (.long (2305843009213693951 : Int64)), .second, .val (.long vg1), .second, .val (.long vg2), .second, .val (.long vg3), .second, .val (.long vg4), .second, .val (.long vg5), .second, .val (.long vg6), .second, .val (.long vg7), .second, .unset, .unset, .unset, .unset, .unset, .unset, .unset, .unset] [(.long vg8)]))
  refine own_via (fun t k => XS.lstore X0.here hx rfl (hb hby own_d3_72) rfl (l' := #[.val (.long q0), .second, .val (.long q1), .second, .val (.long (2305843009213693951 : Int64)), .second, .val (.long vg1), .second, .val (.long vg2), .second, .val (.long vg3), .second, .val (.long vg4), .second, .val (.long vg5), .second, .val (.long vg6), .second, .val (.long vg7), .second, .val (.long vg8), .second, .unset, .unset, .unset, .unset, .unset, .unset]) rfl k) ?_
  show own_G p e below _ (s₁.setTop (mkF m 74 #[.val (.long q0), .second, .val (.long q1), .second, .val (.long (2305843009213693951 : Int64)), .second, .val (.long vg1), .second, .val (.long vg2), .second, .val (.long vg3), .second, .val (.long vg4), .second, .val (.long vg5), .second, .val (.long vg6), .second, .val (.long vg7), .second, .val (.long vg8), .second, .unset, .unset, .unset, .unset, .unset, .unset] []))
  refine own_via (fun t k => XS.lload X0.here hx rfl (hb hby own_d3_74) rfl k) ?_
  show own_G p e below _ (s₁.setTop (mkF m 76 #[.val (.long q0), .second, .val (.long q1), .second, .val (.long (2305843009213693951 : Int64)), .second, .val (.long vg1), .second, .val (.long vg2), .second, .val (.long vg3), .second, .val (.long vg4), .second, .val (.long vg5), .second, .val (.long vg6), .second, .val (.long vg7), .second, .val (.long vg8), .second, .unset, .unset, .unset, .unset, .unset, .unset] [(.long vg7)]))
  refine own_via (fun t k => XS.bipush X0.here hx rfl (hb hby own_d3_76) k) ?_
  show own_G p e below _ (s₁.setTop (mkF m 78 #[.val (.long q0), .second, .val (.long q1), .second, .val (.long (2305843009213693951 : Int64)), .second, .val (.long vg1), .second, .val (.long vg2), .second, .val (.long vg3), .second, .val (.long vg4), .second, .val (.long vg5), .second, .val (.long vg6), .second, .val (.long vg7), .second, .val (.long vg8), .second, .unset, .unset, .unset, .unset, .unset, .unset] [(.int (30 : Int32)), (.long vg7)]))
  refine own_via (fun t k => XS.lushr X0.here hx rfl (hb hby own_d3_78) rfl k) ?_
  show own_G p e below _ (s₁.setTop (mkF m 79 #[.val (.long q0), .second, .val (.long q1), .second, .val (.long (2305843009213693951 : Int64)), .second, .val (.long vg1), .second, .val (.long vg2), .second, .val (.long vg3), .second, .val (.long vg4), .second, .val (.long vg5), .second, .val (.long vg6), .second, .val (.long vg7), .second, .val (.long vg8), .second, .unset, .unset, .unset, .unset, .unset, .unset] [(.long ((vg7.toUInt64 >>> ((30 : Int32) &&& 0x3f).toInt64.toUInt64).toInt64))]))
  generalize hvg9 : ((vg7.toUInt64 >>> ((30 : Int32) &&& 0x3f).toInt64.toUInt64).toInt64) = vg9
  show own_G p e below _ (s₁.setTop (mkF m 79 #[.val (.long q0), .second, .val (.long q1), .second, .val (.long (2305843009213693951 : Int64)), .second, .val (.long vg1), .second, .val (.long vg2), .second, .val (.long vg3), .second, .val (.long vg4), .second, .val (.long vg5), .second, .val (.long vg6), .second, .val (.long vg7), .second, .val (.long vg8), .second, .unset, .unset, .unset, .unset, .unset, .unset] [(.long vg9)]))
  refine own_via (fun t k => XS.lstore X0.here hx rfl (hb hby own_d3_79) rfl (l' := #[.val (.long q0), .second, .val (.long q1), .second, .val (.long (2305843009213693951 : Int64)), .second, .val (.long vg1), .second, .val (.long vg2), .second, .val (.long vg3), .second, .val (.long vg4), .second, .val (.long vg5), .second, .val (.long vg6), .second, .val (.long vg7), .second, .val (.long vg8), .second, .val (.long vg9), .second, .unset, .unset, .unset, .unset]) rfl k) ?_
  show own_G p e below _ (s₁.setTop (mkF m 81 #[.val (.long q0), .second, .val (.long q1), .second, .val (.long (2305843009213693951 : Int64)), .second, .val (.long vg1), .second, .val (.long vg2), .second, .val (.long vg3), .second, .val (.long vg4), .second, .val (.long vg5), .second, .val (.long vg6), .second, .val (.long vg7), .second, .val (.long vg8), .second, .val (.long vg9), .second, .unset, .unset, .unset, .unset] []))
  refine own_via (fun t k => XS.lload X0.here hx rfl (hb hby own_d3_81) rfl k) ?_
  show own_G p e below _ (s₁.setTop (mkF m 83 #[.val (.long q0), .second, .val (.long q1), .second, .val (.long (2305843009213693951 : Int64)), .second, .val (.long vg1), .second, .val (.long vg2), .second, .val (.long vg3), .second, .val (.long vg4), .second, .val (.long vg5), .second, .val (.long vg6), .second, .val (.long vg7), .second, .val (.long vg8), .second, .val (.long vg9), .second, .unset, .unset, .unset, .unset] [(.long vg9)]))
  refine own_via (fun t k => XS.lload X0.here hx rfl (hb hby own_d3_83) rfl k) ?_
  show own_G p e below _ (s₁.setTop (mkF m 85 #[.val (.long q0), .second, .val (.long q1), .second, .val (.long (2305843009213693951 : Int64)), .second, .val (.long vg1), .second, .val (.long vg2), .second, .val (.long vg3), .second, .val (.long vg4), .second, .val (.long vg5), .second, .val (.long vg6), .second, .val (.long vg7), .second, .val (.long vg8), .second, .val (.long vg9), .second, .unset, .unset, .unset, .unset] [(.long vg8), (.long vg9)]))
  refine own_via (fun t k => XS.bipush X0.here hx rfl (hb hby own_d3_85) k) ?_
  show own_G p e below _ (s₁.setTop (mkF m 87 #[.val (.long q0), .second, .val (.long q1), .second, .val (.long (2305843009213693951 : Int64)), .second, .val (.long vg1), .second, .val (.long vg2), .second, .val (.long vg3), .second, .val (.long vg4), .second, .val (.long vg5), .second, .val (.long vg6), .second, .val (.long vg7), .second, .val (.long vg8), .second, .val (.long vg9), .second, .unset, .unset, .unset, .unset] [(.int (31 : Int32)), (.long vg8), (.long vg9)]))
  refine own_via (fun t k => XS.lshl X0.here hx rfl (hb hby own_d3_87) rfl k) ?_
  show own_G p e below _ (s₁.setTop (mkF m 88 #[.val (.long q0), .second, .val (.long q1), .second, .val (.long (2305843009213693951 : Int64)), .second, .val (.long vg1), .second, .val (.long vg2), .second, .val (.long vg3), .second, .val (.long vg4), .second, .val (.long vg5), .second, .val (.long vg6), .second, .val (.long vg7), .second, .val (.long vg8), .second, .val (.long vg9), .second, .unset, .unset, .unset, .unset] [(.long (vg8 <<< ((31 : Int32) &&& 0x3f).toInt64)), (.long vg9)]))
  refine own_via (fun t k => XS.ladd X0.here hx rfl (hb hby own_d3_88) rfl k) ?_
  show own_G p e below _ (s₁.setTop (mkF m 89 #[.val (.long q0), .second, .val (.long q1), .second, .val (.long (2305843009213693951 : Int64)), .second, .val (.long vg1), .second, .val (.long vg2), .second, .val (.long vg3), .second, .val (.long vg4), .second, .val (.long vg5), .second, .val (.long vg6), .second, .val (.long vg7), .second, .val (.long vg8), .second, .val (.long vg9), .second, .unset, .unset, .unset, .unset] [(.long (vg9 + (vg8 <<< ((31 : Int32) &&& 0x3f).toInt64)))]))
  refine own_via (fun t k => XS.lload X0.here hx rfl (hb hby own_d3_89) rfl k) ?_
  show own_G p e below _ (s₁.setTop (mkF m 91 #[.val (.long q0), .second, .val (.long q1), .second, .val (.long (2305843009213693951 : Int64)), .second, .val (.long vg1), .second, .val (.long vg2), .second, .val (.long vg3), .second, .val (.long vg4), .second, .val (.long vg5), .second, .val (.long vg6), .second, .val (.long vg7), .second, .val (.long vg8), .second, .val (.long vg9), .second, .unset, .unset, .unset, .unset] [(.long (2305843009213693951 : Int64)), (.long (vg9 + (vg8 <<< ((31 : Int32) &&& 0x3f).toInt64)))]))
  refine own_via (fun t k => XS.lrem X0.here hx rfl (hb hby own_d3_91) rfl (by decide) k) ?_
  show own_G p e below _ (s₁.setTop (mkF m 92 #[.val (.long q0), .second, .val (.long q1), .second, .val (.long (2305843009213693951 : Int64)), .second, .val (.long vg1), .second, .val (.long vg2), .second, .val (.long vg3), .second, .val (.long vg4), .second, .val (.long vg5), .second, .val (.long vg6), .second, .val (.long vg7), .second, .val (.long vg8), .second, .val (.long vg9), .second, .unset, .unset, .unset, .unset] [(.long ((vg9 + (vg8 <<< ((31 : Int32) &&& 0x3f).toInt64)) - ((vg9 + (vg8 <<< ((31 : Int32) &&& 0x3f).toInt64)) / (2305843009213693951 : Int64)) * (2305843009213693951 : Int64)))]))
  generalize hvg10 : ((vg9 + (vg8 <<< ((31 : Int32) &&& 0x3f).toInt64)) - ((vg9 + (vg8 <<< ((31 : Int32) &&& 0x3f).toInt64)) / (2305843009213693951 : Int64)) * (2305843009213693951 : Int64)) = vg10
  show own_G p e below _ (s₁.setTop (mkF m 92 #[.val (.long q0), .second, .val (.long q1), .second, .val (.long (2305843009213693951 : Int64)), .second, .val (.long vg1), .second, .val (.long vg2), .second, .val (.long vg3), .second, .val (.long vg4), .second, .val (.long vg5), .second, .val (.long vg6), .second, .val (.long vg7), .second, .val (.long vg8), .second, .val (.long vg9), .second, .unset, .unset, .unset, .unset] [(.long vg10)]))
  refine own_via (fun t k => XS.lstore X0.here hx rfl (hb hby own_d3_92) rfl (l' := #[.val (.long q0), .second, .val (.long q1), .second, .val (.long (2305843009213693951 : Int64)), .second, .val (.long vg1), .second, .val (.long vg2), .second, .val (.long vg3), .second, .val (.long vg4), .second, .val (.long vg5), .second, .val (.long vg6), .second, .val (.long vg7), .second, .val (.long vg8), .second, .val (.long vg9), .second, .val (.long vg10), .second, .unset, .unset]) rfl k) ?_
  show own_G p e below _ (s₁.setTop (mkF m 94 #[.val (.long q0), .second, .val (.long q1), .second, .val (.long (2305843009213693951 : Int64)), .second, .val (.long vg1), .second, .val (.long vg2), .second, .val (.long vg3), .second, .val (.long vg4), .second, .val (.long vg5), .second, .val (.long vg6), .second, .val (.long vg7), .second, .val (.long vg8), .second, .val (.long vg9), .second, .val (.long vg10), .second, .unset, .unset] []))
  refine own_via (fun t k => XS.lload X0.here hx rfl (hb hby own_d3_94) rfl k) ?_
  show own_G p e below _ (s₁.setTop (mkF m 96 #[.val (.long q0), .second, .val (.long q1), .second, .val (.long (2305843009213693951 : Int64)), .second, .val (.long vg1), .second, .val (.long vg2), .second, .val (.long vg3), .second, .val (.long vg4), .second, .val (.long vg5), .second, .val (.long vg6), .second, .val (.long vg7), .second, .val (.long vg8), .second, .val (.long vg9), .second, .val (.long vg10), .second, .unset, .unset] [(.long vg2)]))
  refine own_via (fun t k => XS.lload X0.here hx rfl (hb hby own_d3_96) rfl k) ?_
  show own_G p e below _ (s₁.setTop (mkF m 98 #[.val (.long q0), .second, .val (.long q1), .second, .val (.long (2305843009213693951 : Int64)), .second, .val (.long vg1), .second, .val (.long vg2), .second, .val (.long vg3), .second, .val (.long vg4), .second, .val (.long vg5), .second, .val (.long vg6), .second, .val (.long vg7), .second, .val (.long vg8), .second, .val (.long vg9), .second, .val (.long vg10), .second, .unset, .unset] [(.long vg4), (.long vg2)]))
  refine own_via (fun t k => XS.lmul X0.here hx rfl (hb hby own_d3_98) rfl k) ?_
  show own_G p e below _ (s₁.setTop (mkF m 99 #[.val (.long q0), .second, .val (.long q1), .second, .val (.long (2305843009213693951 : Int64)), .second, .val (.long vg1), .second, .val (.long vg2), .second, .val (.long vg3), .second, .val (.long vg4), .second, .val (.long vg5), .second, .val (.long vg6), .second, .val (.long vg7), .second, .val (.long vg8), .second, .val (.long vg9), .second, .val (.long vg10), .second, .unset, .unset] [(.long (vg2 * vg4))]))
  refine own_via (fun t k => XS.lload X0.here hx rfl (hb hby own_d3_99) rfl k) ?_
  show own_G p e below _ (s₁.setTop (mkF m 101 #[.val (.long q0), .second, .val (.long q1), .second, .val (.long (2305843009213693951 : Int64)), .second, .val (.long vg1), .second, .val (.long vg2), .second, .val (.long vg3), .second, .val (.long vg4), .second, .val (.long vg5), .second, .val (.long vg6), .second, .val (.long vg7), .second, .val (.long vg8), .second, .val (.long vg9), .second, .val (.long vg10), .second, .unset, .unset] [(.long (2305843009213693951 : Int64)), (.long (vg2 * vg4))]))
  refine own_via (fun t k => XS.lrem X0.here hx rfl (hb hby own_d3_101) rfl (by decide) k) ?_
  show own_G p e below _ (s₁.setTop (mkF m 102 #[.val (.long q0), .second, .val (.long q1), .second, .val (.long (2305843009213693951 : Int64)), .second, .val (.long vg1), .second, .val (.long vg2), .second, .val (.long vg3), .second, .val (.long vg4), .second, .val (.long vg5), .second, .val (.long vg6), .second, .val (.long vg7), .second, .val (.long vg8), .second, .val (.long vg9), .second, .val (.long vg10), .second, .unset, .unset] [(.long ((vg2 * vg4) - ((vg2 * vg4) / (2305843009213693951 : Int64)) * (2305843009213693951 : Int64)))]))
  generalize hvg11 : ((vg2 * vg4) - ((vg2 * vg4) / (2305843009213693951 : Int64)) * (2305843009213693951 : Int64)) = vg11
  show own_G p e below _ (s₁.setTop (mkF m 102 #[.val (.long q0), .second, .val (.long q1), .second, .val (.long (2305843009213693951 : Int64)), .second, .val (.long vg1), .second, .val (.long vg2), .second, .val (.long vg3), .second, .val (.long vg4), .second, .val (.long vg5), .second, .val (.long vg6), .second, .val (.long vg7), .second, .val (.long vg8), .second, .val (.long vg9), .second, .val (.long vg10), .second, .unset, .unset] [(.long vg11)]))
  refine own_via (fun t k => XS.lstore X0.here hx rfl (hb hby own_d3_102) rfl (l' := #[.val (.long q0), .second, .val (.long q1), .second, .val (.long (2305843009213693951 : Int64)), .second, .val (.long vg1), .second, .val (.long vg2), .second, .val (.long vg3), .second, .val (.long vg4), .second, .val (.long vg5), .second, .val (.long vg6), .second, .val (.long vg7), .second, .val (.long vg8), .second, .val (.long vg9), .second, .val (.long vg10), .second, .val (.long vg11), .second]) rfl k) ?_
  show own_G p e below _ (s₁.setTop (mkF m 104 #[.val (.long q0), .second, .val (.long q1), .second, .val (.long (2305843009213693951 : Int64)), .second, .val (.long vg1), .second, .val (.long vg2), .second, .val (.long vg3), .second, .val (.long vg4), .second, .val (.long vg5), .second, .val (.long vg6), .second, .val (.long vg7), .second, .val (.long vg8), .second, .val (.long vg9), .second, .val (.long vg10), .second, .val (.long vg11), .second] []))
  refine own_via (fun t k => XS.lload X0.here hx rfl (hb hby own_d3_104) rfl k) ?_
  show own_G p e below _ (s₁.setTop (mkF m 106 #[.val (.long q0), .second, .val (.long q1), .second, .val (.long (2305843009213693951 : Int64)), .second, .val (.long vg1), .second, .val (.long vg2), .second, .val (.long vg3), .second, .val (.long vg4), .second, .val (.long vg5), .second, .val (.long vg6), .second, .val (.long vg7), .second, .val (.long vg8), .second, .val (.long vg9), .second, .val (.long vg10), .second, .val (.long vg11), .second] [(.long vg6)]))
  refine own_via (fun t k => XS.lload X0.here hx rfl (hb hby own_d3_106) rfl k) ?_
  show own_G p e below _ (s₁.setTop (mkF m 108 #[.val (.long q0), .second, .val (.long q1), .second, .val (.long (2305843009213693951 : Int64)), .second, .val (.long vg1), .second, .val (.long vg2), .second, .val (.long vg3), .second, .val (.long vg4), .second, .val (.long vg5), .second, .val (.long vg6), .second, .val (.long vg7), .second, .val (.long vg8), .second, .val (.long vg9), .second, .val (.long vg10), .second, .val (.long vg11), .second] [(.long vg10), (.long vg6)]))
  refine own_via (fun t k => XS.ladd X0.here hx rfl (hb hby own_d3_108) rfl k) ?_
  show own_G p e below _ (s₁.setTop (mkF m 109 #[.val (.long q0), .second, .val (.long q1), .second, .val (.long (2305843009213693951 : Int64)), .second, .val (.long vg1), .second, .val (.long vg2), .second, .val (.long vg3), .second, .val (.long vg4), .second, .val (.long vg5), .second, .val (.long vg6), .second, .val (.long vg7), .second, .val (.long vg8), .second, .val (.long vg9), .second, .val (.long vg10), .second, .val (.long vg11), .second] [(.long (vg6 + vg10))]))
  refine own_via (fun t k => XS.lload X0.here hx rfl (hb hby own_d3_109) rfl k) ?_
  show own_G p e below _ (s₁.setTop (mkF m 111 #[.val (.long q0), .second, .val (.long q1), .second, .val (.long (2305843009213693951 : Int64)), .second, .val (.long vg1), .second, .val (.long vg2), .second, .val (.long vg3), .second, .val (.long vg4), .second, .val (.long vg5), .second, .val (.long vg6), .second, .val (.long vg7), .second, .val (.long vg8), .second, .val (.long vg9), .second, .val (.long vg10), .second, .val (.long vg11), .second] [(.long vg11), (.long (vg6 + vg10))]))
  refine own_via (fun t k => XS.ladd X0.here hx rfl (hb hby own_d3_111) rfl k) ?_
  show own_G p e below _ (s₁.setTop (mkF m 112 #[.val (.long q0), .second, .val (.long q1), .second, .val (.long (2305843009213693951 : Int64)), .second, .val (.long vg1), .second, .val (.long vg2), .second, .val (.long vg3), .second, .val (.long vg4), .second, .val (.long vg5), .second, .val (.long vg6), .second, .val (.long vg7), .second, .val (.long vg8), .second, .val (.long vg9), .second, .val (.long vg10), .second, .val (.long vg11), .second] [(.long ((vg6 + vg10) + vg11))]))
  refine own_via (fun t k => XS.lload X0.here hx rfl (hb hby own_d3_112) rfl k) ?_
  show own_G p e below _ (s₁.setTop (mkF m 114 #[.val (.long q0), .second, .val (.long q1), .second, .val (.long (2305843009213693951 : Int64)), .second, .val (.long vg1), .second, .val (.long vg2), .second, .val (.long vg3), .second, .val (.long vg4), .second, .val (.long vg5), .second, .val (.long vg6), .second, .val (.long vg7), .second, .val (.long vg8), .second, .val (.long vg9), .second, .val (.long vg10), .second, .val (.long vg11), .second] [(.long (2305843009213693951 : Int64)), (.long ((vg6 + vg10) + vg11))]))
  refine own_via (fun t k => XS.lrem X0.here hx rfl (hb hby own_d3_114) rfl (by decide) k) ?_
  show own_G p e below _ (s₁.setTop (mkF m 115 #[.val (.long q0), .second, .val (.long q1), .second, .val (.long (2305843009213693951 : Int64)), .second, .val (.long vg1), .second, .val (.long vg2), .second, .val (.long vg3), .second, .val (.long vg4), .second, .val (.long vg5), .second, .val (.long vg6), .second, .val (.long vg7), .second, .val (.long vg8), .second, .val (.long vg9), .second, .val (.long vg10), .second, .val (.long vg11), .second] [(.long (((vg6 + vg10) + vg11) - (((vg6 + vg10) + vg11) / (2305843009213693951 : Int64)) * (2305843009213693951 : Int64)))]))
  exact own_retL X0 hx Bd.returns Bd.notSynchronized (hb hby own_d3_115) ⟨by show (some (.long (((vg6 + vg10) + vg11) - (((vg6 + vg10) + vg11) / (2305843009213693951 : Int64)) * (2305843009213693951 : Int64))) : Option Value) = some (.long (own_F3 q0 q1)); subst hvg11; subst hvg10; subst hvg9; subst hvg8; subst hvg7; subst hvg6; subst hvg5; subst hvg4; subst hvg3; subst hvg2; subst hvg1; simp only [own_F3], rfl, e0⟩ (by decide) (by decide)
theorem own_pn0 : plainFor x = true := plainFor_of_name (by first | (simp [plainName, overriddenIn]; done) | decide +kernel)
theorem own_ef0 (m : MethodId) (q0 : Int64) (q1 : Int64) : entryFrame m #[(.long q0), (.long q1)] maxLocals = mkF m 0 #[.val (.long q0), .second, .val (.long q1), .second, .unset, .unset, .unset, .unset, .unset, .unset, .unset, .unset] [] := by first | (simp [entryFrame, mkF, argsToLocals, Value.category, maxLocals]; done) | rfl
def own_F0 (q0 : Int64) (q1 : Int64) : Int32 := (let vg1 : Int64 := ((q0.toUInt64 >>> ((2 : Int32) &&& 0x3f).toInt64.toUInt64).toInt64); (let vg2 : Int64 := ((q1 &&& (9223372036854775807 : Int64)) - ((q1 &&& (9223372036854775807 : Int64)) / (2305843009213693951 : Int64)) * (2305843009213693951 : Int64)); (let vg4 : Int64 := (own_F1 vg1 vg2); (if vg4 = (own_F3 vg1 vg2) then (1 : Int32) else (0 : Int32)))))
set_option maxRecDepth 65536 in
set_option maxHeartbeats 40000000 in
theorem own_rm0 (l : Launch) (Z : State) (a0 : Array Value) (hw : ∀ d ∈ tables_1, d.before a0 Z = true) (ws : List Jvm.Cond) (q0 : Int64) (q1 : Int64) (h0 : Heap) :
    own_C l Z x code maxLocals ret ws room_1 #[(.long q0), (.long q1)] h0 (own_Q (.int (own_F0 q0 q1)) h0) := by
  refine MetFree.of_bodySF own_pn0 hisR ?_
  intro p e s m args below meth c s₁ Bd hml0 hP hK
  obtain ⟨rfl, hZ, hh⟩ := hP
  have hx := Bd.exec
  have hby := Bd.bytes
  have hml : c.maxLocals = 12 := hml0
  have hown : s.vm.findClass "com/example/finalis/finalis/KeyedHashTimesPinLaw" = some m.cls := findClass_of_methodNamed Bd.named
  have X0 : Stand p l e room_1 s m #[(.long q0), (.long q1)] below meth c s₁ [] 0 0 := Stand.of_body Bd
  have e0 : s₁.heap = h0 := by rw [← hh, Bd.state]; rfl
  show own_G p e below (own_P s (own_Q (.int (own_F0 q0 q1)) h0) room_1.cells room_1.slots) (s₁.setTop (entryFrame m #[(.long q0), (.long q1)] maxLocals))
  rw [own_ef0 m q0 q1]
  show own_G p e below _ (s₁.setTop (mkF m 0 #[.val (.long q0), .second, .val (.long q1), .second, .unset, .unset, .unset, .unset, .unset, .unset, .unset, .unset] []))
  refine own_via (X0.ldc2Long hx hown (mvT hZ (hw _ (List.mem_of_getElem? (i := 0) rfl))) (g := (mkF m 0 #[.val (.long q0), .second, .val (.long q1), .second, .unset, .unset, .unset, .unset, .unset, .unset, .unset, .unset] [])) rfl (hb hby at_0)) ?_
  show own_G p e below _ (s₁.setTop (mkF m 3 #[.val (.long q0), .second, .val (.long q1), .second, .unset, .unset, .unset, .unset, .unset, .unset, .unset, .unset] [(.long (2305843009213693951 : Int64))]))
  refine own_via (fun t k => XS.lstore X0.here hx rfl (hb hby at_3) rfl (l' := #[.val (.long q0), .second, .val (.long q1), .second, .val (.long (2305843009213693951 : Int64)), .second, .unset, .unset, .unset, .unset, .unset, .unset]) rfl k) ?_
  show own_G p e below _ (s₁.setTop (mkF m 5 #[.val (.long q0), .second, .val (.long q1), .second, .val (.long (2305843009213693951 : Int64)), .second, .unset, .unset, .unset, .unset, .unset, .unset] []))
  refine own_via (fun t k => XS.lloadN X0.here hx rfl (hb hby at_5) rfl k) ?_
  show own_G p e below _ (s₁.setTop (mkF m 6 #[.val (.long q0), .second, .val (.long q1), .second, .val (.long (2305843009213693951 : Int64)), .second, .unset, .unset, .unset, .unset, .unset, .unset] [(.long q0)]))
  refine own_via (fun t k => XS.iconst X0.here hx rfl (hb hby at_6) k) ?_
  show own_G p e below _ (s₁.setTop (mkF m 7 #[.val (.long q0), .second, .val (.long q1), .second, .val (.long (2305843009213693951 : Int64)), .second, .unset, .unset, .unset, .unset, .unset, .unset] [(.int (2 : Int32)), (.long q0)]))
  refine own_via (fun t k => XS.lushr X0.here hx rfl (hb hby at_7) rfl k) ?_
  show own_G p e below _ (s₁.setTop (mkF m 8 #[.val (.long q0), .second, .val (.long q1), .second, .val (.long (2305843009213693951 : Int64)), .second, .unset, .unset, .unset, .unset, .unset, .unset] [(.long ((q0.toUInt64 >>> ((2 : Int32) &&& 0x3f).toInt64.toUInt64).toInt64))]))
  generalize hvg1 : ((q0.toUInt64 >>> ((2 : Int32) &&& 0x3f).toInt64.toUInt64).toInt64) = vg1
  show own_G p e below _ (s₁.setTop (mkF m 8 #[.val (.long q0), .second, .val (.long q1), .second, .val (.long (2305843009213693951 : Int64)), .second, .unset, .unset, .unset, .unset, .unset, .unset] [(.long vg1)]))
  refine own_via (fun t k => XS.lstore X0.here hx rfl (hb hby at_8) rfl (l' := #[.val (.long q0), .second, .val (.long q1), .second, .val (.long (2305843009213693951 : Int64)), .second, .val (.long vg1), .second, .unset, .unset, .unset, .unset]) rfl k) ?_
  show own_G p e below _ (s₁.setTop (mkF m 10 #[.val (.long q0), .second, .val (.long q1), .second, .val (.long (2305843009213693951 : Int64)), .second, .val (.long vg1), .second, .unset, .unset, .unset, .unset] []))
  refine own_via (fun t k => XS.lloadN X0.here hx rfl (hb hby at_10) rfl k) ?_
  show own_G p e below _ (s₁.setTop (mkF m 11 #[.val (.long q0), .second, .val (.long q1), .second, .val (.long (2305843009213693951 : Int64)), .second, .val (.long vg1), .second, .unset, .unset, .unset, .unset] [(.long q1)]))
  refine own_via (X0.ldc2Long hx hown (mvT hZ (hw _ (List.mem_of_getElem? (i := 1) rfl))) (g := (mkF m 11 #[.val (.long q0), .second, .val (.long q1), .second, .val (.long (2305843009213693951 : Int64)), .second, .val (.long vg1), .second, .unset, .unset, .unset, .unset] [(.long q1)])) rfl (hb hby at_11)) ?_
  show own_G p e below _ (s₁.setTop (mkF m 14 #[.val (.long q0), .second, .val (.long q1), .second, .val (.long (2305843009213693951 : Int64)), .second, .val (.long vg1), .second, .unset, .unset, .unset, .unset] [(.long (9223372036854775807 : Int64)), (.long q1)]))
  refine own_via (fun t k => XS.land X0.here hx rfl (hb hby at_14) rfl k) ?_
  show own_G p e below _ (s₁.setTop (mkF m 15 #[.val (.long q0), .second, .val (.long q1), .second, .val (.long (2305843009213693951 : Int64)), .second, .val (.long vg1), .second, .unset, .unset, .unset, .unset] [(.long (q1 &&& (9223372036854775807 : Int64)))]))
  refine own_via (fun t k => XS.lload X0.here hx rfl (hb hby at_15) rfl k) ?_
  show own_G p e below _ (s₁.setTop (mkF m 17 #[.val (.long q0), .second, .val (.long q1), .second, .val (.long (2305843009213693951 : Int64)), .second, .val (.long vg1), .second, .unset, .unset, .unset, .unset] [(.long (2305843009213693951 : Int64)), (.long (q1 &&& (9223372036854775807 : Int64)))]))
  refine own_via (fun t k => XS.lrem X0.here hx rfl (hb hby at_17) rfl (by decide) k) ?_
  show own_G p e below _ (s₁.setTop (mkF m 18 #[.val (.long q0), .second, .val (.long q1), .second, .val (.long (2305843009213693951 : Int64)), .second, .val (.long vg1), .second, .unset, .unset, .unset, .unset] [(.long ((q1 &&& (9223372036854775807 : Int64)) - ((q1 &&& (9223372036854775807 : Int64)) / (2305843009213693951 : Int64)) * (2305843009213693951 : Int64)))]))
  generalize hvg2 : ((q1 &&& (9223372036854775807 : Int64)) - ((q1 &&& (9223372036854775807 : Int64)) / (2305843009213693951 : Int64)) * (2305843009213693951 : Int64)) = vg2
  show own_G p e below _ (s₁.setTop (mkF m 18 #[.val (.long q0), .second, .val (.long q1), .second, .val (.long (2305843009213693951 : Int64)), .second, .val (.long vg1), .second, .unset, .unset, .unset, .unset] [(.long vg2)]))
  refine own_via (fun t k => XS.lstore X0.here hx rfl (hb hby at_18) rfl (l' := #[.val (.long q0), .second, .val (.long q1), .second, .val (.long (2305843009213693951 : Int64)), .second, .val (.long vg1), .second, .val (.long vg2), .second, .unset, .unset]) rfl k) ?_
  show own_G p e below _ (s₁.setTop (mkF m 20 #[.val (.long q0), .second, .val (.long q1), .second, .val (.long (2305843009213693951 : Int64)), .second, .val (.long vg1), .second, .val (.long vg2), .second, .unset, .unset] []))
  refine own_via (fun t k => XS.lload X0.here hx rfl (hb hby at_20) rfl k) ?_
  show own_G p e below _ (s₁.setTop (mkF m 22 #[.val (.long q0), .second, .val (.long q1), .second, .val (.long (2305843009213693951 : Int64)), .second, .val (.long vg1), .second, .val (.long vg2), .second, .unset, .unset] [(.long vg1)]))
  refine own_via (fun t k => XS.lload X0.here hx rfl (hb hby at_22) rfl k) ?_
  show own_G p e below _ (s₁.setTop (mkF m 24 #[.val (.long q0), .second, .val (.long q1), .second, .val (.long (2305843009213693951 : Int64)), .second, .val (.long vg1), .second, .val (.long vg2), .second, .unset, .unset] [(.long vg2), (.long vg1)]))
  obtain ⟨T3, X3, e3, st3⟩ := own_callP (y := (⟨"com/example/finalis/finalis/KeyedHash", "times", "(JJ)J"⟩ : MethodName)) (W := 0) X0 hx hZ hown (hw _ (List.mem_of_getElem? (i := 2) rfl)) (hw _ (List.mem_of_getElem? (i := 3) rfl)) (hw _ (List.mem_of_getElem? (i := 4) rfl)) (hw _ (List.mem_of_getElem? (i := 5) rfl)) (by decide) (own_rm1 l Z a0 hw [] vg1 vg2 h0) (by decide) (by decide) rfl rfl (by decide) (by decide) e0 (pc := 24) (Ls := #[.val (.long q0), .second, .val (.long q1), .second, .val (.long (2305843009213693951 : Int64)), .second, .val (.long vg1), .second, .val (.long vg2), .second, .unset, .unset]) (st := [(.long vg2), (.long vg1)]) (argsL := [(.long vg1), (.long vg2)]) (rest := []) (by rw [hml]; rfl) (lenOf own_pd0 rfl) rfl rfl (Nat.le_of_eq rfl) (hb hby at_24)
  refine own_via st3 ?_
  show own_G p e below _ (T3.setTop (mkF m 27 #[.val (.long q0), .second, .val (.long q1), .second, .val (.long (2305843009213693951 : Int64)), .second, .val (.long vg1), .second, .val (.long vg2), .second, .unset, .unset] [(.long (own_F1 vg1 vg2))]))
  generalize hvg4 : (own_F1 vg1 vg2) = vg4
  show own_G p e below _ (T3.setTop (mkF m 27 #[.val (.long q0), .second, .val (.long q1), .second, .val (.long (2305843009213693951 : Int64)), .second, .val (.long vg1), .second, .val (.long vg2), .second, .unset, .unset] [(.long vg4)]))
  refine own_via (fun t k => XS.lstore X3.here hx rfl (hb hby at_27) rfl (l' := #[.val (.long q0), .second, .val (.long q1), .second, .val (.long (2305843009213693951 : Int64)), .second, .val (.long vg1), .second, .val (.long vg2), .second, .val (.long vg4), .second]) rfl k) ?_
  show own_G p e below _ (T3.setTop (mkF m 29 #[.val (.long q0), .second, .val (.long q1), .second, .val (.long (2305843009213693951 : Int64)), .second, .val (.long vg1), .second, .val (.long vg2), .second, .val (.long vg4), .second] []))
  refine own_via (fun t k => XS.lload X3.here hx rfl (hb hby at_29) rfl k) ?_
  show own_G p e below _ (T3.setTop (mkF m 31 #[.val (.long q0), .second, .val (.long q1), .second, .val (.long (2305843009213693951 : Int64)), .second, .val (.long vg1), .second, .val (.long vg2), .second, .val (.long vg4), .second] [(.long vg4)]))
  refine own_via (fun t k => XS.lload X3.here hx rfl (hb hby at_31) rfl k) ?_
  show own_G p e below _ (T3.setTop (mkF m 33 #[.val (.long q0), .second, .val (.long q1), .second, .val (.long (2305843009213693951 : Int64)), .second, .val (.long vg1), .second, .val (.long vg2), .second, .val (.long vg4), .second] [(.long vg1), (.long vg4)]))
  refine own_via (fun t k => XS.lload X3.here hx rfl (hb hby at_33) rfl k) ?_
  show own_G p e below _ (T3.setTop (mkF m 35 #[.val (.long q0), .second, .val (.long q1), .second, .val (.long (2305843009213693951 : Int64)), .second, .val (.long vg1), .second, .val (.long vg2), .second, .val (.long vg4), .second] [(.long vg2), (.long vg1), (.long vg4)]))
  obtain ⟨T5, X5, e5, st5⟩ := own_callP (y := (⟨"com/example/finalis/finalis/KeyedHashTimesPinLaw", "reference", "(JJ)J"⟩ : MethodName)) (W := 2) X3 hx hZ hown (hw _ (List.mem_of_getElem? (i := 12) rfl)) (hw _ (List.mem_of_getElem? (i := 13) rfl)) (hw _ (List.mem_of_getElem? (i := 14) rfl)) (hw _ (List.mem_of_getElem? (i := 15) rfl)) (by decide) (own_rm3 l Z a0 hw [] vg1 vg2 h0) (by decide) (by decide) rfl rfl (by decide) (by decide) e3 (pc := 35) (Ls := #[.val (.long q0), .second, .val (.long q1), .second, .val (.long (2305843009213693951 : Int64)), .second, .val (.long vg1), .second, .val (.long vg2), .second, .val (.long vg4), .second]) (st := [(.long vg2), (.long vg1), (.long vg4)]) (argsL := [(.long vg1), (.long vg2)]) (rest := [(.long vg4)]) (by rw [hml]; rfl) (lenOf own_pd0 rfl) rfl rfl (Nat.le_of_eq rfl) (hb hby at_35)
  refine own_via st5 ?_
  show own_G p e below _ (T5.setTop (mkF m 38 #[.val (.long q0), .second, .val (.long q1), .second, .val (.long (2305843009213693951 : Int64)), .second, .val (.long vg1), .second, .val (.long vg2), .second, .val (.long vg4), .second] [(.long (own_F3 vg1 vg2)), (.long vg4)]))
  refine own_via (fun t k => XS.lcmp X5.here hx rfl (hb hby at_38) rfl k) ?_
  show own_G p e below _ (T5.setTop (mkF m 39 #[.val (.long q0), .second, .val (.long q1), .second, .val (.long (2305843009213693951 : Int64)), .second, .val (.long vg1), .second, .val (.long vg2), .second, .val (.long vg4), .second] [(.int (lcmpW vg4 (own_F3 vg1 vg2)))]))
  by_cases hc6 : vg4 = (own_F3 vg1 vg2)
  ·
    refine own_via (fun t k => XS.ifNo X5.here hx rfl (hb hby at_39) rfl ((if0 _ _).trans (teq ((lw_eq _ _).mpr hc6)).2) k) ?_
    show own_G p e below _ (T5.setTop (mkF m 42 #[.val (.long q0), .second, .val (.long q1), .second, .val (.long (2305843009213693951 : Int64)), .second, .val (.long vg1), .second, .val (.long vg2), .second, .val (.long vg4), .second] []))
    refine own_via (fun t k => XS.iconst X5.here hx rfl (hb hby at_42) k) ?_
    show own_G p e below _ (T5.setTop (mkF m 43 #[.val (.long q0), .second, .val (.long q1), .second, .val (.long (2305843009213693951 : Int64)), .second, .val (.long vg1), .second, .val (.long vg2), .second, .val (.long vg4), .second] [(.int (1 : Int32))]))
    refine own_via (fun t k => XS.goto X5.here hx rfl (pc0 := 43) (pc' := 47) rfl (hb hby at_43) (by decide) (by decide) k) ?_
    show own_G p e below _ (T5.setTop (mkF m 47 #[.val (.long q0), .second, .val (.long q1), .second, .val (.long (2305843009213693951 : Int64)), .second, .val (.long vg1), .second, .val (.long vg2), .second, .val (.long vg4), .second] [(.int (1 : Int32))]))
    exact own_retN (t := .boolean) X5 hx Bd.returns (by simp) Bd.notSynchronized (hb hby at_47) ⟨by show (some (.int (1 : Int32)) : Option Value) = some (.int (own_F0 q0 q1)); subst hvg4; subst hvg2; subst hvg1; simp only [own_F0, if_pos hc6], rfl, e5⟩ (by decide) (by decide)
  ·
    refine own_via (fun t k => XS.ifYes X5.here hx rfl (pc0 := 39) (pc' := 46) rfl (hb hby at_39) rfl ((if0 _ _).trans (feq (fun q => hc6 ((lw_eq _ _).mp q))).2) (by decide) (by decide) k) ?_
    show own_G p e below _ (T5.setTop (mkF m 46 #[.val (.long q0), .second, .val (.long q1), .second, .val (.long (2305843009213693951 : Int64)), .second, .val (.long vg1), .second, .val (.long vg2), .second, .val (.long vg4), .second] []))
    refine own_via (fun t k => XS.iconst X5.here hx rfl (hb hby at_46) k) ?_
    show own_G p e below _ (T5.setTop (mkF m 47 #[.val (.long q0), .second, .val (.long q1), .second, .val (.long (2305843009213693951 : Int64)), .second, .val (.long vg1), .second, .val (.long vg2), .second, .val (.long vg4), .second] [(.int (0 : Int32))]))
    exact own_retN (t := .boolean) X5 hx Bd.returns (by simp) Bd.notSynchronized (hb hby at_47) ⟨by show (some (.int (0 : Int32)) : Option Value) = some (.int (own_F0 q0 q1)); subst hvg4; subst hvg2; subst hvg1; simp only [own_F0, if_neg hc6], rfl, e5⟩ (by decide) (by decide)
theorem own_mulb {a b A B : Int} (h1 : 0 ≤ a) (h2 : a ≤ A) (h3 : 0 ≤ b) (h4 : b ≤ B) : 0 ≤ a * b ∧ a * b ≤ A * B :=
  ⟨Int.mul_nonneg h1 h3, Int.mul_le_mul h2 h4 h3 (by omega)⟩
theorem own_split (x y K : Int) : x * y = K * K * ((x / K) * (y / K)) + K * ((x / K) * (y % K) + (x % K) * (y / K)) + (x % K) * (y % K) := by
  have hx := Int.mul_ediv_add_emod x K
  have hy := Int.mul_ediv_add_emod y K
  generalize x / K = a at *
  generalize x % K = b at *
  generalize y / K = c at *
  generalize y % K = d at *
  subst hx hy
  simp only [Int.add_mul, Int.mul_add]
  have e1 : K * a * (K * c) = K * K * (a * c) := by rw [Int.mul_assoc, Int.mul_assoc, Int.mul_left_comm a K c]
  have e2 : K * a * d = K * (a * d) := Int.mul_assoc _ _ _
  have e3 : b * (K * c) = K * (b * c) := Int.mul_left_comm _ _ _
  rw [e1, e2, e3]
  omega
/-- the high half of the product -/
theorem own_mh (x y : Int64) (h1 : 0 ≤ x.toInt) (h2 : x.toInt < 4611686018427387904) (h3 : 0 ≤ y.toInt) (h4 : y.toInt < 2305843009213693952) : (own_F2 x y).toInt = (x.toInt * y.toInt) / 18446744073709551616 := by
  simp only [own_F2]
  have a1 := c_lshr x 32 32 (by decide)
  have a2 := c_maskL x 4294967295 32 (by decide) (by decide)
  have b1 := c_lshr y 32 32 (by decide)
  have b2 := c_maskL y 4294967295 32 (by decide) (by decide)
  have hs := own_split x.toInt y.toInt 4294967296
  rw [show ((2 ^ 32 : Nat) : Int) = 4294967296 from rfl] at *
  generalize x >>> ((32 : Int32) &&& 0x3f).toInt64 = x1 at *
  generalize x &&& (4294967295 : Int64) = x2 at *
  generalize y >>> ((32 : Int32) &&& 0x3f).toInt64 = y1 at *
  generalize y &&& (4294967295 : Int64) = y2 at *
  rw [← a1, ← a2, ← b1, ← b2] at hs
  have A := own_mulb (a := x2.toInt) (b := y2.toInt) (A := 4294967295) (B := 4294967295) (by omega) (by omega) (by omega) (by omega)
  have B := own_mulb (a := x1.toInt) (b := y2.toInt) (A := 1073741823) (B := 4294967295) (by omega) (by omega) (by omega) (by omega)
  have Cc := own_mulb (a := x2.toInt) (b := y1.toInt) (A := 4294967295) (B := 536870911) (by omega) (by omega) (by omega) (by omega)
  have Dd := own_mulb (a := x1.toInt) (b := y1.toInt) (A := 1073741823) (B := 536870911) (by omega) (by omega) (by omega) (by omega)
  rw [hs]
  clear hs a1 a2 b1 b2 h1 h2 h3 h4
  have m1 := c_lmul x2 y2
  have m2 := c_lmul x1 y2
  have m3 := c_lmul x2 y1
  have m4 := c_lmul x1 y1
  have r1 := rng64 (x2 * y2)
  have r2 := rng64 (x1 * y2)
  have r3 := rng64 (x2 * y1)
  have r4 := rng64 (x1 * y1)
  generalize x2.toInt * y2.toInt = PA at *
  generalize x1.toInt * y2.toInt = PB at *
  generalize x2.toInt * y1.toInt = PC at *
  generalize x1.toInt * y1.toInt = PD at *
  generalize x2 * y2 = za at *
  generalize x1 * y2 = zb at *
  generalize x2 * y1 = zc at *
  generalize x1 * y1 = zd at *
  have s1 := c_lushr za 32 32 (by decide) (by decide)
  rw [show ((2 ^ 32 : Nat) : Int) = 4294967296 from rfl] at s1
  generalize (za.toUInt64 >>> ((32 : Int32) &&& 0x3f).toInt64.toUInt64).toInt64 = zs at *
  have t1 := c_ladd zb zs
  have t2 := rng64 (zb + zs)
  generalize zb + zs = t at *
  have u1 := c_maskL t 4294967295 32 (by decide) (by decide)
  have u2 := c_lshr t 32 32 (by decide)
  rw [show ((2 ^ 32 : Nat) : Int) = 4294967296 from rfl] at u1 u2
  generalize t &&& (4294967295 : Int64) = tl at *
  generalize t >>> ((32 : Int32) &&& 0x3f).toInt64 = th at *
  have v1 := c_ladd tl zc
  have v2 := rng64 (tl + zc)
  generalize tl + zc = w at *
  have w1 := c_lshr w 32 32 (by decide)
  rw [show ((2 ^ 32 : Nat) : Int) = 4294967296 from rfl] at w1
  generalize w >>> ((32 : Int32) &&& 0x3f).toInt64 = wh at *
  have f1 := c_ladd zd th
  have f2 := rng64 (zd + th)
  generalize zd + th = g at *
  have g1 := c_ladd g wh
  have g2 := rng64 (g + wh)
  omega
theorem own_ladd {x y : Int64} (h1 : -9223372036854775808 ≤ x.toInt + y.toInt) (h2 : x.toInt + y.toInt < 9223372036854775808) : (x + y).toInt = x.toInt + y.toInt := by
  have a := c_ladd x y
  have b := rng64 (x + y)
  omega
theorem own_lmul {x y : Int64} (h1 : 0 ≤ x.toInt * y.toInt) (h2 : x.toInt * y.toInt < 9223372036854775808) : (x * y).toInt = x.toInt * y.toInt := by
  have a := c_lmul x y
  have b := rng64 (x * y)
  omega
theorem own_lo61 (x : Int64) : (x &&& (2305843009213693951 : Int64)).toInt = x.toInt % 2305843009213693952 := c_maskL x 2305843009213693951 61 (by decide) (by decide)
theorem own_hi61 (x : Int64) : ((x.toUInt64 >>> ((61 : Int32) &&& 0x3f).toInt64.toUInt64).toInt64).toInt = x.toInt % 18446744073709551616 / 2305843009213693952 := c_lushr x 61 61 (by decide) (by decide)
theorem own_fold (P s r : Int) (h0 : 0 ≤ P) (e1 : s = P % 2305843009213693952 + P / 2305843009213693952) (e2 : r = s % 2305843009213693952 + s / 2305843009213693952) : P = r + 2305843009213693951 * (P / 2305843009213693952 + s / 2305843009213693952) := by omega
theorem own_emod {P r K : Int} (h : P = r + 2305843009213693951 * K) (h1 : 0 ≤ r) (h2 : r < 2305843009213693951) : P % 2305843009213693951 = r := by
  rw [h, Int.add_mul_emod_self_left]
  exact Int.emod_eq_of_lt h1 h2
/-- times: the product mod 2^61 - 1 -/
theorem own_times (x y : Int64) (h1 : 0 ≤ x.toInt) (h2 : x.toInt < 4611686018427387904) (h3 : 0 ≤ y.toInt) (h4 : y.toInt < 2305843009213693951) : (own_F1 x y).toInt = (x.toInt * y.toInt) % 2305843009213693951 := by
  simp only [own_F1]
  have hh := own_mh x y h1 h2 h3 (by omega)
  have hP := own_mulb (a := x.toInt) (b := y.toInt) (A := 4611686018427387903) (B := 2305843009213693950) h1 (by omega) h3 (by omega)
  have m := c_lmul x y
  generalize x.toInt * y.toInt = P at *
  generalize own_F2 x y = hi at *
  generalize x * y = lo at *
  clear h1 h2 h3 h4
  have a1 := own_lo61 lo
  have a2 := own_hi61 lo
  have a3 := c_lshl hi 3 3 (by decide)
  have a4 := rng64 (hi <<< ((3 : Int32) &&& 0x3f).toInt64)
  rw [show ((2 ^ 3 : Nat) : Int) = 8 from rfl] at a3
  generalize lo &&& (2305843009213693951 : Int64) = l1 at *
  generalize (lo.toUInt64 >>> ((61 : Int32) &&& 0x3f).toInt64.toUInt64).toInt64 = l2 at *
  generalize hi <<< ((3 : Int32) &&& 0x3f).toInt64 = h8 at *
  have f1 : l1.toInt = P % 2305843009213693952 := by rw [a1]; clear a1 a2 a3 a4 hh hP; omega
  have f2 : l2.toInt = P % 18446744073709551616 / 2305843009213693952 := by rw [a2]; clear a1 a2 a3 a4 hh hP f1; omega
  have f3 : h8.toInt = P / 18446744073709551616 * 8 := by rw [← hh]; clear a1 a2 f1 f2 m; omega
  clear a1 a2 a3 a4 m hh
  have o := c_orL' l2 h8 3 (by decide) 8 (by decide) (by omega) (by omega) (by omega)
  have o2 := rng64 (l2 ||| h8)
  generalize l2 ||| h8 = u at *
  have f4 : u.toInt = P / 2305843009213693952 := by clear f1; omega
  clear o o2 f2 f3
  have f5 : (l1 + u).toInt = P % 2305843009213693952 + P / 2305843009213693952 := by rw [own_ladd (by omega) (by omega), f1, f4]
  generalize l1 + u = s at *
  clear f1 f4
  have b1 := own_lo61 s
  have b2 := own_hi61 s
  have hb : 0 ≤ s.toInt ∧ s.toInt < 6917529027641081856 := by omega
  generalize s &&& (2305843009213693951 : Int64) = s3 at *
  generalize (s.toUInt64 >>> ((61 : Int32) &&& 0x3f).toInt64.toUInt64).toInt64 = s4 at *
  have e2 : (s3 + s4).toInt = s.toInt % 2305843009213693952 + s.toInt / 2305843009213693952 := by
    clear f5 hP
    rw [own_ladd (by omega) (by omega), b1, b2]
    omega
  generalize s3 + s4 = r at *
  clear b1 b2
  have K := own_fold P s.toInt r.toInt hP.1 f5 e2
  have hr : 0 ≤ r.toInt ∧ r.toInt ≤ 2305843009213693953 := by clear K f5 hP; omega
  have d1 := c_lsub r 2305843009213693951
  have d2 := rng64 (r - 2305843009213693951)
  rw [show (2305843009213693951 : Int64).toInt = 2305843009213693951 from rfl] at d1
  by_cases q : r < (2305843009213693951 : Int64)
  · rw [if_pos q]
    rw [Int64.lt_iff_toInt_lt, show (2305843009213693951 : Int64).toInt = 2305843009213693951 from rfl] at q
    exact (own_emod K hr.1 q).symm
  · rw [if_neg q]
    rw [Int64.lt_iff_toInt_lt, show (2305843009213693951 : Int64).toInt = 2305843009213693951 from rfl] at q
    have e3 : (r - 2305843009213693951).toInt = r.toInt - 2305843009213693951 := by clear K f5 e2 hP; omega
    rw [e3]
    refine (own_emod (K := P / 2305843009213693952 + s.toInt / 2305843009213693952 + 1) ?_ ?_ ?_).symm
    · rw [Int.mul_add]; omega
    · omega
    · omega
/-- a % p of longs -/
theorem own_rem (x : Int64) (h : 0 ≤ x.toInt) : (x - (x / (2305843009213693951 : Int64)) * (2305843009213693951 : Int64)).toInt = x.toInt % 2305843009213693951 := (c_lrem x 2305843009213693951 2305843009213693951 rfl).1 h
theorem own_sumd (A B D : Int) : (4611686018427387904 * D + 2147483648 * B + A) % 2305843009213693951 = ((2 * D) % 2305843009213693951 + (B / 1073741824 + B % 1073741824 * 2147483648) % 2305843009213693951 + A % 2305843009213693951) % 2305843009213693951 := by
  have e1 : 4611686018427387904 * D + 2147483648 * B + A = (2 * D + (B / 1073741824 + B % 1073741824 * 2147483648) + A) + 2305843009213693951 * (2 * D + B / 1073741824) := by omega
  rw [e1, Int.add_mul_emod_self_left]
  generalize 2 * D = x
  generalize B / 1073741824 + B % 1073741824 * 2147483648 = y
  clear e1
  omega
theorem own_ref (x y : Int64) (h1 : 0 ≤ x.toInt) (h3 : 0 ≤ y.toInt) (h4 : y.toInt < 2305843009213693951) : (own_F3 x y).toInt = (x.toInt * y.toInt) % 2305843009213693951 := by
  simp only [own_F3]
  have hr := own_rem x h1
  have hm : (x.toInt * y.toInt) % 2305843009213693951 = ((x.toInt % 2305843009213693951) * y.toInt) % 2305843009213693951 := by
    have q1 := Int.mul_emod x.toInt y.toInt 2305843009213693951
    have q2 := Int.mul_emod (x.toInt % 2305843009213693951) y.toInt 2305843009213693951
    rw [Int.emod_emod_of_dvd _ (Int.dvd_refl _)] at q2
    exact q1.trans q2.symm
  rw [hm, ← hr]
  generalize x - (x / (2305843009213693951 : Int64)) * (2305843009213693951 : Int64) = ra at *
  have hra : 0 ≤ ra.toInt ∧ ra.toInt < 2305843009213693951 := by omega
  clear hr hm h1
  have a1 := c_maskL ra 2147483647 31 (by decide) (by decide)
  have a2 := c_lushr ra 31 31 (by decide) (by decide)
  have b1 := c_maskL y 2147483647 31 (by decide) (by decide)
  have b2 := c_lushr y 31 31 (by decide) (by decide)
  have hs := own_split ra.toInt y.toInt 2147483648
  rw [show ((2 ^ 31 : Nat) : Int) = 2147483648 from rfl] at a1 a2 b1 b2
  generalize ra &&& (2147483647 : Int64) = a0 at *
  generalize (ra.toUInt64 >>> ((31 : Int32) &&& 0x3f).toInt64.toUInt64).toInt64 = a9 at *
  generalize y &&& (2147483647 : Int64) = y0 at *
  generalize (y.toUInt64 >>> ((31 : Int32) &&& 0x3f).toInt64.toUInt64).toInt64 = y9 at *
  have f1 : ra.toInt / 2147483648 = a9.toInt := by omega
  have f2 : y.toInt / 2147483648 = y9.toInt := by omega
  have f3 : ra.toInt % 2147483648 = a0.toInt := by omega
  have f4 : y.toInt % 2147483648 = y0.toInt := by omega
  rw [f1, f2, f3, f4] at hs
  have A := own_mulb (a := a0.toInt) (b := y0.toInt) (A := 2147483647) (B := 2147483647) (by omega) (by omega) (by omega) (by omega)
  have B := own_mulb (a := a9.toInt) (b := y0.toInt) (A := 1073741823) (B := 2147483647) (by omega) (by omega) (by omega) (by omega)
  have Cc := own_mulb (a := a0.toInt) (b := y9.toInt) (A := 2147483647) (B := 1073741823) (by omega) (by omega) (by omega) (by omega)
  have Dd := own_mulb (a := a9.toInt) (b := y9.toInt) (A := 1073741823) (B := 1073741823) (by omega) (by omega) (by omega) (by omega)
  rw [hs]
  clear hs a1 a2 b1 b2 f1 f2 f3 f4 hra h3 h4
  have m1 := own_lmul A.1 (by omega)
  have m2 := own_lmul B.1 (by omega)
  have m3 := own_lmul Cc.1 (by omega)
  have m4 := own_lmul Dd.1 (by omega)
  generalize a0.toInt * y0.toInt = PA at *
  generalize a9.toInt * y0.toInt = PB at *
  generalize a0.toInt * y9.toInt = PC at *
  generalize a9.toInt * y9.toInt = PD at *
  generalize a0 * y0 = za at *
  generalize a9 * y0 = zb at *
  generalize a0 * y9 = zc at *
  generalize a9 * y9 = zd at *
  have k1 : ((2 : Int64) * zd).toInt = 2 * PD := by rw [own_lmul (by rw [m4, show (2 : Int64).toInt = 2 from rfl]; omega) (by rw [m4, show (2 : Int64).toInt = 2 from rfl]; omega), m4, show (2 : Int64).toInt = 2 from rfl]
  generalize (2 : Int64) * zd = z2 at *
  have t1 := own_rem z2 (by omega)
  generalize z2 - (z2 / (2305843009213693951 : Int64)) * (2305843009213693951 : Int64) = tt1 at *
  have n1 : (zb + zc).toInt = PB + PC := by rw [own_ladd (by omega) (by omega), m2, m3]
  generalize zb + zc = mid at *
  have u1 := c_maskL mid 1073741823 30 (by decide) (by decide)
  have u2 := c_lushr mid 30 30 (by decide) (by decide)
  rw [show ((2 ^ 30 : Nat) : Int) = 1073741824 from rfl] at u1 u2
  have u3 : ((mid.toUInt64 >>> ((30 : Int32) &&& 0x3f).toInt64.toUInt64).toInt64).toInt = mid.toInt / 1073741824 := by omega
  clear u2 m2 m3 m4
  generalize mid &&& (1073741823 : Int64) = m0 at *
  generalize (mid.toUInt64 >>> ((30 : Int32) &&& 0x3f).toInt64.toUInt64).toInt64 = m9 at *
  have v1 := c_lshl m0 31 31 (by decide)
  have v2 := rng64 (m0 <<< ((31 : Int32) &&& 0x3f).toInt64)
  rw [show ((2 ^ 31 : Nat) : Int) = 2147483648 from rfl] at v1
  have v3 : (m0 <<< ((31 : Int32) &&& 0x3f).toInt64).toInt = mid.toInt % 1073741824 * 2147483648 := by clear t1 k1 A B Cc Dd u3; omega
  clear v1 v2
  generalize m0 <<< ((31 : Int32) &&& 0x3f).toInt64 = ms at *
  have w1 : (m9 + ms).toInt = mid.toInt / 1073741824 + mid.toInt % 1073741824 * 2147483648 := by rw [own_ladd (by omega) (by omega), u3, v3]
  generalize m9 + ms = mw at *
  have t2 := own_rem mw (by omega)
  generalize mw - (mw / (2305843009213693951 : Int64)) * (2305843009213693951 : Int64) = tt2 at *
  have t3 := own_rem za (by omega)
  generalize za - (za / (2305843009213693951 : Int64)) * (2305843009213693951 : Int64) = tt3 at *
  have x1 : (tt1 + tt2).toInt = tt1.toInt + tt2.toInt := own_ladd (by omega) (by omega)
  generalize tt1 + tt2 = y1 at *
  have x3 : (y1 + tt3).toInt = tt1.toInt + tt2.toInt + tt3.toInt := by rw [own_ladd (by omega) (by omega), x1]
  generalize y1 + tt3 = y2 at *
  have t4 := own_rem y2 (by omega)
  rw [t4, x3, t1, t2, t3, k1, w1, m1, n1, show (2147483648 * 2147483648 : Int) = 4611686018427387904 from rfl, own_sumd]
theorem own_law (x y : Int64) : own_F0 x y = 1 := by
  simp only [own_F0]
  have a1 := c_lushr x 2 2 (by decide) (by decide)
  rw [show ((2 ^ 2 : Nat) : Int) = 4 from rfl] at a1
  have b1 := c_maskL y 9223372036854775807 63 (by decide) (by decide)
  have b2 := own_rem (y &&& (9223372036854775807 : Int64)) (by omega)
  generalize (x.toUInt64 >>> ((2 : Int32) &&& 0x3f).toInt64.toUInt64).toInt64 = a at *
  generalize (y &&& (9223372036854775807 : Int64)) - ((y &&& (9223372036854775807 : Int64)) / (2305843009213693951 : Int64)) * (2305843009213693951 : Int64) = b at *
  have e1 := own_times a b (by omega) (by omega) (by omega) (by omega)
  have e2 := own_ref a b (by omega) (by omega) (by omega)
  rw [if_pos]
  rw [← Int64.toInt_inj, e1, e2]
set_option maxRecDepth 65536 in
set_option maxHeartbeats 40000000 in
theorem comes_1 {Post : Tables → Env → Array Value → State → Outcome → State → Prop} (hpost : ∀ tb e args s v u, (limb_1_1.after args s (.returned v) u = true ∧ limb_1_2.after args s (.returned v) u = true) → FrameEnd s (.returned v) u (Jvm.fieldLocs frame_1_writes args s ++ Jvm.arrayLocs frame_1_arrays args s ++ Jvm.staticLocs frame_1_statics s) 0 0 → Post tb e args s (.returned v) u) :
    ArmFor flags0 classFile x code maxLocals ret World_1 tables_1 room_1 Calls_1 rest_1 Pre_1 Post := by
  intro l hfl _ _ p e ha hc hk s m args below hf hA hF happ hP
  obtain ⟨hcalls, hrest, hpre⟩ := hP
  obtain ⟨-, -, -, hnamed, -, -, -, hat⟩ := (Spec.applies_iff hf).mp happ
  obtain ⟨hg, hn⟩ := and_e (Cond.before_iff.mp (show (Jvm.Cond.and given_1 narrow_1).before args s = true from hpre))
  obtain ⟨g1, g2⟩ := and_e hg
  obtain ⟨g3, g4⟩ := and_e g2
  obtain ⟨w0, w1, rfl⟩ : ∃ w0 w1 : Value, args = #[w0, w1] := by
    have hs : args.size = 2 := by simpa [Cond.value, given_1] using g1
    obtain ⟨L⟩ := args
    match L, hs with
    | [w0, w1], _ => exact ⟨w0, w1, rfl⟩
  have hw := fun d (hd : d ∈ tables_1) => atoms_spec (ws := Jvm.Cond.code x code maxLocals ret :: tables_1) hat d (List.mem_cons_of_mem _ hd)
  obtain ⟨i0, ei0⟩ := isL_v g3
  obtain rfl : w0 = (.long i0) := Option.some.inj ei0
  obtain ⟨i1, ei1⟩ := isL_v g4
  obtain rfl : w1 = (.long i1) := Option.some.inj ei1
  obtain ⟨n, o, h1, h2, h3, _, L, rfl, ⟨rfl, rfl, -⟩, hq⟩ := own_rm0 l s _ hw tables_1 i0 i1 s.heap p e ha hc hk s m _ below hf ((Spec.applies_iff_loose hf).mp happ).1 ⟨rfl, State.Warmed39.refl s, rfl⟩ trivial
  rw [own_law i0 i1] at hq h3
  refine ⟨n, _, h1, h2, h3, hpost _ _ _ _ _ _ ⟨Cond.after_iff.mpr rfl, Cond.after_iff.mpr (eq_i res_at (Term.int_eval (1)) rfl)⟩ ⟨hq.1, hq.2.1, (hq.2.2.sift fun y hy => by cases hy).mono (by decide) (by decide)⟩⟩
theorem main_1_1 : Claimed_1_1 := comes_1 fun _ _ _ _ _ _ h hF => ⟨h.1, hF⟩
theorem main_1_2 : Claimed_1_2 := comes_1 fun _ _ _ _ _ _ h hF => ⟨h.2, hF⟩
end Jvm.Pilot.@@N@@
namespace Jvm.Pilot.@@N@@
open Jvm Jvm.ClassFile Sem Op Lib Jvm.Free Jvm.Stand Jvm.Pilot.@@N@@.Jvm.D
/-! MADE BY PROGRAM (witnessworld.py) out of the Statement's table words and the real class files: 10 classes; the members and pool entries that the words name. The judged class is class 1, her method 1. -/
namespace start1
open Jvm.ClassFile
def u (s : String) : CpInfo := .utf8 (stringToUtf16 s)
/-- a pool by its gaps: so many unusable entries, then the entry; so many at the end -/
def gap : Nat → List CpInfo → List CpInfo
  | 0, r => r
  | n + 1, r => .unusable :: gap n r
def poolList (es : List (Nat × CpInfo)) (last : Nat) : List CpInfo := es.foldr (fun e r => gap e.1 (e.2 :: r)) (gap last [])
def pool (es : List (Nat × CpInfo)) (last : Nat) : Array CpInfo := ⟨poolList es last⟩
def fileOf (pool : Array CpInfo) (this : Nat) (attrs : Array Attribute := #[]) (ms : Array MethodInfo := #[]) (fl : Nat := 33) (sup : Nat := 0) (ifs : Array Nat := #[]) (fds : Array FieldInfo := #[]) : ClassFile where
  minorVersion := 0
  majorVersion := 65
  constantPool := pool
  accessFlags := fl
  thisClass := this
  superClass := sup
  interfaces := ifs
  fields := fds
  methods := ms
  attributes := attrs
def plain (name : String) (sup : Option ClassId) : Class where
  name := name
  kind := .ordinary
  loader := none
  accessFlags := 33
  super := sup
  interfaces := #[]
  cf := none
  fields := #[]
  methods := #[]
  instanceTypes := #[]
  staticTypes := #[]
  resolved := #[]
  callSites := []
  init := .initialized
  statics := none
  mirror := none

def pool0 : Array CpInfo := pool [(5, u "<init>"), (0, u "()V"), (1, .class_ 10), (1, u "java/lang/Object")] 113

def k0m0 : Method := { name := "<init>", desc := "()V", sig := { parameters := [], returnType := none }, accessFlags := 1, code := none }
/-- java/lang/Object -/
def k0 : Class := { plain "java/lang/Object" none with
  accessFlags := 33
  interfaces := #[]
  cf := some (fileOf pool0 8 #[] #[{ accessFlags := 1, nameIndex := 5, descriptorIndex := 6, attributes := #[] }] 33 0 #[] #[])
  fields := #[]
  methods := #[k0m0]
  instanceTypes := #[]
  staticTypes := #[]
  resolved := Array.replicate 124 none
  statics := none }

def pool1 : Array CpInfo := pool [(2, .class_ 4), (1, u "java/lang/Object"), (0, u "<init>"), (0, u "()V"), (0, .long 2305843009213693951), (1, .long 9223372036854775807), (1, .methodref 12 13), (0, .class_ 14), (0, .nameAndType 15 16), (0, u "com/example/finalis/finalis/KeyedHash"), (0, u "times"), (0, u "(JJ)J"), (0, .methodref 18 19), (0, .class_ 20), (0, .nameAndType 21 16), (0, u "com/example/finalis/finalis/KeyedHashTimesPinLaw"), (0, u "reference"), (0, .long 2147483647), (1, .long 2), (1, .long 1073741823), (3, u "law"), (0, u "(JJ)Z")] 3

def k1m0 : Method := { name := "<init>", desc := "()V", sig := { parameters := [], returnType := none }, accessFlags := 2, code := none }
def k1c1 : Code := { maxStack := 6, maxLocals := 12, code := code, exceptionTable := #[], attributes := #[] }
def k1m1 : Method := { name := "law", desc := "(JJ)Z", sig := { parameters := [.long, .long], returnType := some .boolean }, accessFlags := 9, code := some k1c1 }
def k1c2 : Code := { maxStack := 6, maxLocals := 28, code := method_3_code, exceptionTable := #[], attributes := #[] }
def k1m2 : Method := { name := "reference", desc := "(JJ)J", sig := { parameters := [.long, .long], returnType := some .long }, accessFlags := 10, code := some k1c2 }
/-- com/example/finalis/finalis/KeyedHashTimesPinLaw -/
def k1 : Class := { plain "com/example/finalis/finalis/KeyedHashTimesPinLaw" (some 0) with
  accessFlags := 49
  interfaces := #[]
  cf := some (fileOf pool1 18 #[] #[{ accessFlags := 2, nameIndex := 5, descriptorIndex := 6, attributes := #[] }, { accessFlags := 9, nameIndex := 30, descriptorIndex := 31, attributes := #[] }, { accessFlags := 10, nameIndex := 21, descriptorIndex := 16, attributes := #[] }] 49 2 #[] #[])
  fields := #[]
  methods := #[k1m0, k1m1, k1m2]
  instanceTypes := #[]
  staticTypes := #[]
  resolved := Array.replicate 35 none
  statics := none }

def pool2 : Array CpInfo := pool [(2, .class_ 4), (1, u "java/lang/Object"), (0, u "<init>"), (0, u "()V"), (11, .class_ 20), (1, u "com/example/finalis/finalis/KeyedHash"), (0, u "added"), (0, u "J"), (2, u "firstHigh"), (2, u "firstLow"), (2, u "secondHigh"), (2, u "secondLow"), (2, u "thirdHigh"), (2, u "thirdLow"), (0, .long 2305843009213693951), (3, u "(JJ)J"), (2, u "point"), (29, .class_ 80), (1, u "java/lang/Math"), (4, u "times"), (0, .methodref 78 87), (0, .nameAndType 88 45), (0, u "multiplyHigh"), (0, u "PRIME"), (1, u "LOW_HALF")] 10

def k2m0 : Method := { name := "<init>", desc := "()V", sig := { parameters := [], returnType := none }, accessFlags := 0, code := none }
def k2c1 : Code := { maxStack := 7, maxLocals := 10, code := prog_10_method_9_code, exceptionTable := #[], attributes := #[] }
def k2m1 : Method := { name := "times", desc := "(JJ)J", sig := { parameters := [.long, .long], returnType := some .long }, accessFlags := 8, code := some k2c1 }
/-- com/example/finalis/finalis/KeyedHash -/
def k2 : Class := { plain "com/example/finalis/finalis/KeyedHash" (some 0) with
  accessFlags := 48
  interfaces := #[]
  cf := some (fileOf pool2 18 #[] #[{ accessFlags := 0, nameIndex := 5, descriptorIndex := 6, attributes := #[] }, { accessFlags := 8, nameIndex := 85, descriptorIndex := 45, attributes := #[] }] 48 2 #[] #[{ accessFlags := 26, nameIndex := 89, descriptorIndex := 22, attributes := #[] }, { accessFlags := 26, nameIndex := 91, descriptorIndex := 22, attributes := #[] }, { accessFlags := 18, nameIndex := 21, descriptorIndex := 22, attributes := #[] }, { accessFlags := 18, nameIndex := 25, descriptorIndex := 22, attributes := #[] }, { accessFlags := 18, nameIndex := 28, descriptorIndex := 22, attributes := #[] }, { accessFlags := 18, nameIndex := 31, descriptorIndex := 22, attributes := #[] }, { accessFlags := 18, nameIndex := 34, descriptorIndex := 22, attributes := #[] }, { accessFlags := 18, nameIndex := 37, descriptorIndex := 22, attributes := #[] }, { accessFlags := 18, nameIndex := 40, descriptorIndex := 22, attributes := #[] }, { accessFlags := 18, nameIndex := 48, descriptorIndex := 22, attributes := #[] }])
  fields := #[{ name := "PRIME", type := .long, accessFlags := 26, slot := 0, constantValue := 0 }, { name := "LOW_HALF", type := .long, accessFlags := 26, slot := 1, constantValue := 0 }, { name := "added", type := .long, accessFlags := 18, slot := 0, constantValue := 0 }, { name := "firstHigh", type := .long, accessFlags := 18, slot := 1, constantValue := 0 }, { name := "firstLow", type := .long, accessFlags := 18, slot := 2, constantValue := 0 }, { name := "secondHigh", type := .long, accessFlags := 18, slot := 3, constantValue := 0 }, { name := "secondLow", type := .long, accessFlags := 18, slot := 4, constantValue := 0 }, { name := "thirdHigh", type := .long, accessFlags := 18, slot := 5, constantValue := 0 }, { name := "thirdLow", type := .long, accessFlags := 18, slot := 6, constantValue := 0 }, { name := "point", type := .long, accessFlags := 18, slot := 7, constantValue := 0 }]
  methods := #[k2m0, k2m1]
  instanceTypes := #[.long, .long, .long, .long, .long, .long, .long, .long]
  staticTypes := #[.long, .long]
  resolved := Array.replicate 102 none
  statics := none }

def pool3 : Array CpInfo := pool [(1, .class_ 2), (0, u "java/lang/Math"), (1, .class_ 6), (1, u "java/lang/Object"), (0, u "<init>"), (0, u "()V"), (89, .class_ 100), (1, u "java/lang/Math$RandomNumberGeneratorHolder"), (20, u "(JJ)J"), (16, .long 4294967295), (3, u "multiplyHigh"), (29, u "negativeZeroFloatBits"), (0, u "J"), (2, u "negativeZeroDoubleBits"), (68, u "$assertionsDisabled"), (0, u "Z"), (91, u "twoToTheDoubleScaleDown"), (0, u "D"), (4, u "twoToTheDoubleScaleUp"), (9, u "E"), (3, u "PI"), (2, u "TAU"), (2, u "DEGREES_TO_RADIANS"), (0, u "RADIANS_TO_DEGREES")] 94

def k3m0 : Method := { name := "<init>", desc := "()V", sig := { parameters := [], returnType := none }, accessFlags := 2, code := none }
def k3c1 : Code := { maxStack := 6, maxLocals := 20, code := jdk_29_method_45_code, exceptionTable := #[], attributes := #[] }
def k3m1 : Method := { name := "multiplyHigh", desc := "(JJ)J", sig := { parameters := [.long, .long], returnType := some .long }, accessFlags := 9, code := some k3c1 }
/-- java/lang/Math -/
def k3 : Class := { plain "java/lang/Math" (some 0) with
  accessFlags := 49
  interfaces := #[]
  cf := some (fileOf pool3 1 #[.nestMembers #[98]] #[{ accessFlags := 2, nameIndex := 7, descriptorIndex := 8, attributes := #[] }, { accessFlags := 9, nameIndex := 142, descriptorIndex := 121, attributes := #[] }] 49 4 #[] #[{ accessFlags := 25, nameIndex := 354, descriptorIndex := 339, attributes := #[] }, { accessFlags := 25, nameIndex := 358, descriptorIndex := 339, attributes := #[] }, { accessFlags := 25, nameIndex := 361, descriptorIndex := 339, attributes := #[] }, { accessFlags := 26, nameIndex := 364, descriptorIndex := 339, attributes := #[] }, { accessFlags := 26, nameIndex := 365, descriptorIndex := 339, attributes := #[] }, { accessFlags := 26, nameIndex := 172, descriptorIndex := 173, attributes := #[] }, { accessFlags := 26, nameIndex := 176, descriptorIndex := 173, attributes := #[] }, { accessFlags := 8, nameIndex := 344, descriptorIndex := 339, attributes := #[] }, { accessFlags := 8, nameIndex := 338, descriptorIndex := 339, attributes := #[] }, { accessFlags := 4120, nameIndex := 245, descriptorIndex := 246, attributes := #[] }])
  fields := #[{ name := "E", type := .double, accessFlags := 25, slot := 0, constantValue := 0 }, { name := "PI", type := .double, accessFlags := 25, slot := 1, constantValue := 0 }, { name := "TAU", type := .double, accessFlags := 25, slot := 2, constantValue := 0 }, { name := "DEGREES_TO_RADIANS", type := .double, accessFlags := 26, slot := 3, constantValue := 0 }, { name := "RADIANS_TO_DEGREES", type := .double, accessFlags := 26, slot := 4, constantValue := 0 }, { name := "negativeZeroFloatBits", type := .long, accessFlags := 26, slot := 5, constantValue := 0 }, { name := "negativeZeroDoubleBits", type := .long, accessFlags := 26, slot := 6, constantValue := 0 }, { name := "twoToTheDoubleScaleUp", type := .double, accessFlags := 8, slot := 7, constantValue := 0 }, { name := "twoToTheDoubleScaleDown", type := .double, accessFlags := 8, slot := 8, constantValue := 0 }, { name := "$assertionsDisabled", type := .boolean, accessFlags := 4120, slot := 9, constantValue := 0 }]
  methods := #[k3m0, k3m1]
  instanceTypes := #[]
  staticTypes := #[.double, .double, .double, .double, .double, .long, .long, .double, .double, .boolean]
  resolved := Array.replicate 460 none
  statics := none }

def pool4 : Array CpInfo := pool [(1, u "java/lang/Cloneable"), (0, .class_ 1), (0, u "java/lang/Object"), (0, .class_ 3)] 3

/-- java/lang/Cloneable -/
def k4 : Class := { plain "java/lang/Cloneable" (some 0) with
  accessFlags := 1537
  interfaces := #[]
  cf := some (fileOf pool4 2 #[] #[] 1537 4 #[] #[])
  fields := #[]
  methods := #[]
  instanceTypes := #[]
  staticTypes := #[]
  resolved := Array.replicate 8 none
  statics := none }

def pool5 : Array CpInfo := pool [(1, u "java/io/Serializable"), (0, .class_ 1), (0, u "java/lang/Object"), (0, .class_ 3)] 3

/-- java/io/Serializable -/
def k5 : Class := { plain "java/io/Serializable" (some 0) with
  accessFlags := 1537
  interfaces := #[]
  cf := some (fileOf pool5 2 #[] #[] 1537 4 #[] #[])
  fields := #[]
  methods := #[]
  instanceTypes := #[]
  staticTypes := #[]
  resolved := Array.replicate 8 none
  statics := none }

/-- the primitive byte -/
def k6 : Class := { plain "byte" none with kind := .primitive 'B', accessFlags := 0x411 }
/-- [B -/
def k7 : Class := { plain "[B" (some 0) with kind := .array 6 .byte, interfaces := #[4, 5], accessFlags := 1041 }

/-- the primitive int -/
def k8 : Class := { plain "int" none with kind := .primitive 'I', accessFlags := 0x411 }
/-- [I -/
def k9 : Class := { plain "[I" (some 0) with kind := .array 8 .int, interfaces := #[4, 5], accessFlags := 1041 }

def heap : Heap := #[]
def classes : Array Class := #[k0, k1, k2, k3, k4, k5, k6, k7, k8, k9]
def interned : List (Array UInt16 × Addr) := []
def slotsUsed : Nat := 0
def theMethod : MethodId := ⟨1, 1⟩
def args0 : Array Value := #[.long 5, .long 300]
def aboutOver (below : List Frame) : State where
  vm := { classes := classes, interned := interned.toArray }
  heap := heap
  slotsUsed := slotsUsed
  threads := #[{ frames := .invoking theMethod args0 :: below }]
def below0 : List Frame := [.native { method := ⟨0, 0⟩, args := #[] }]
def about1 : State := aboutOver below0
def p0 : Program := .bare "" "" ""
def e0 : Env := launch0.env 0 0 0
theorem w_frames : about1.frames = Frame.invoking theMethod args0 :: below0 := rfl
set_option maxRecDepth 65536 in
theorem w_args : argsFit about1.vm theMethod args0 = true := by decide +kernel
set_option maxRecDepth 65536 in
theorem w_heap : heapFits about1 = true := by decide +kernel
set_option maxRecDepth 65536 in
theorem w_runnable : about1.curStatus? = some .runnable := by decide +kernel
set_option maxRecDepth 65536 in
theorem w_alone : about1.alone = true := by decide +kernel
set_option maxRecDepth 65536 in
theorem w_named : about1.methodNamed? x = some theMethod := by decide +kernel
set_option maxRecDepth 65536 in
theorem w_hears : about1.hears theMethod below0 = true := by decide +kernel
set_option maxRecDepth 65536 in
theorem w_ripe : about1.ripe theMethod args0 below0 = true := by decide +kernel
theorem w_running : about1.status = .running := rfl
set_option maxRecDepth 65536 in
theorem w_room : about1.hasRoom e0.platform room_1 = true :=
  launch0.hasRoom_least _ room_1 (by decide +kernel) (by decide +kernel) (by decide +kernel) (by decide +kernel) (by decide +kernel) (by decide +kernel)
theorem allAtoms_all (ts : List Jvm.Cond) (a : Array Jvm.Value) (st : Jvm.State) : (allAtoms ts).before a st = ts.all (fun c => c.before a st) := by
  induction ts with
  | nil => rfl
  | cons c t ih =>
    show (Jvm.Cond.and c (allAtoms t)).before a st = _
    rw [Jvm.Cond.before_and, ih, List.all_cons]
def words1 : List Jvm.Cond := Jvm.Cond.code x code maxLocals ret :: tables_1
/-- a 'code' word, met by the world's own term for the bytes: nothing is compared byte by byte -/
theorem code_word {y : MethodName} {bytes : ByteArray} {mx : Nat} {rt : Option FieldType} {a : Array Value} {s : State} {m : MethodId} {meth : Method} {c : Code} (h1 : s.methodNamed? y = some m) (h2 : s.vm.method? m = some meth) (h3 : meth.code = some c) (h4 : c.code = bytes)
    (h5 : (c.maxLocals == mx && c.exceptionTable.isEmpty && decide (c.maxStack ≤ mostOperands) && decide (meth.sig.returnType = rt) && !meth.locks && decide (parseMethodDescriptor y.desc = some meth.sig)) = true) : (Jvm.Cond.code y bytes mx rt).before a s = true := by
  simp only [Bool.and_eq_true, beq_iff_eq, Bool.not_eq_true', decide_eq_true_eq] at h5
  obtain ⟨⟨⟨⟨⟨g1, g2⟩, g3⟩, g4⟩, g5⟩, g6⟩ := h5
  simp [Cond.before, Cond.holds, Cond.value, h1, h2, h3, h4, g1, g2, g3, g4, g5, g6]
def isCode : Jvm.Cond → Bool
  | .code _ _ _ _ => true
  | _ => false
theorem all_split {L : List Jvm.Cond} {P : Jvm.Cond → Bool} (h1 : L.all (fun c => isCode c || P c) = true) (h2 : ∀ c ∈ L.filter isCode, P c = true) : L.all P = true := by
  refine List.all_eq_true.mpr fun c hc => ?_
  have h := List.all_eq_true.mp h1 c hc
  rcases Bool.eq_false_or_eq_true (isCode c) with hi | hi
  · exact h2 c (List.mem_filter.mpr ⟨hc, hi⟩)
  · simpa [hi] using h
set_option maxRecDepth 65536 in
theorem w_c0 : (Jvm.Cond.code x code maxLocals ret).before args0 about1 = true := code_word (m := ⟨1, 1⟩) (meth := k1m1) (c := k1c1) (by decide +kernel) rfl rfl rfl (by decide +kernel)
set_option maxRecDepth 65536 in
theorem w_c1 : (Jvm.Cond.code ({ cls := "com/example/finalis/finalis/KeyedHash", name := "times", desc := "(JJ)J" } : Jvm.MethodName) prog_10_method_9_code (10 : Nat) (Option.some Jvm.ClassFile.FieldType.long)).before args0 about1 = true := code_word (m := ⟨2, 1⟩) (meth := k2m1) (c := k2c1) (by decide +kernel) rfl rfl rfl (by decide +kernel)
set_option maxRecDepth 65536 in
theorem w_c2 : (Jvm.Cond.code ({ cls := "java/lang/Math", name := "multiplyHigh", desc := "(JJ)J" } : Jvm.MethodName) jdk_29_method_45_code (20 : Nat) (Option.some Jvm.ClassFile.FieldType.long)).before args0 about1 = true := code_word (m := ⟨3, 1⟩) (meth := k3m1) (c := k3c1) (by decide +kernel) rfl rfl rfl (by decide +kernel)
set_option maxRecDepth 65536 in
theorem w_c3 : (Jvm.Cond.code ({ cls := "com/example/finalis/finalis/KeyedHashTimesPinLaw", name := "reference", desc := "(JJ)J" } : Jvm.MethodName) method_3_code (28 : Nat) (Option.some Jvm.ClassFile.FieldType.long)).before args0 about1 = true := code_word (m := ⟨1, 2⟩) (meth := k1m2) (c := k1c2) (by decide +kernel) rfl rfl rfl (by decide +kernel)
def codes1 : List Jvm.Cond := [Jvm.Cond.code x code maxLocals ret, Jvm.Cond.code ({ cls := "com/example/finalis/finalis/KeyedHash", name := "times", desc := "(JJ)J" } : Jvm.MethodName) prog_10_method_9_code (10 : Nat) (Option.some Jvm.ClassFile.FieldType.long), Jvm.Cond.code ({ cls := "java/lang/Math", name := "multiplyHigh", desc := "(JJ)J" } : Jvm.MethodName) jdk_29_method_45_code (20 : Nat) (Option.some Jvm.ClassFile.FieldType.long), Jvm.Cond.code ({ cls := "com/example/finalis/finalis/KeyedHashTimesPinLaw", name := "reference", desc := "(JJ)J" } : Jvm.MethodName) method_3_code (28 : Nat) (Option.some Jvm.ClassFile.FieldType.long)]
set_option maxRecDepth 65536 in
theorem codes_eq : words1.filter isCode = codes1 := rfl
theorem w_codes : ∀ c ∈ words1.filter isCode, c.before args0 about1 = true := by
  rw [codes_eq]
  intro c hc
  simp only [codes1, List.mem_cons, List.not_mem_nil, or_false] at hc
  rcases hc with rfl | rfl | rfl | rfl
  · exact w_c0
  · exact w_c1
  · exact w_c2
  · exact w_c3
set_option maxRecDepth 65536 in
theorem w_t1 : words1.all (fun c => isCode c || c.before args0 about1) = true := by decide +kernel
theorem w_tables : (allAtoms (Jvm.Cond.code x code maxLocals ret :: tables_1)).before args0 about1 = true := by
  rw [allAtoms_all]
  show words1.all (fun c => c.before args0 about1) = true
  refine all_split ?_ w_codes
  rw [w_t1]
set_option maxRecDepth 65536 in
theorem w_case : (Jvm.Cond.and given_1 narrow_1).before args0 about1 = true := by decide +kernel
theorem w_applies : (headSpec (Jvm.Cond.code x code maxLocals ret :: tables_1) room_1).applies x e0.platform about1 = true :=
  (Spec.applies_iff w_frames).mpr ⟨w_running, w_runnable, w_alone, w_named, w_hears, w_ripe, w_room, w_tables⟩
theorem atStart : AtStart classFile x code maxLocals ret World_1 tables_1 room_1 Calls_1 rest_1 Pre_1 launch0 p0 e0 about1 theMethod args0 below0 :=
  ⟨lists_1, trivial, launch0.admits_env _ _ _, launch0.least_env, fairChoices_fair.cas, fairChoices_fair.clock, w_frames, w_args, w_heap, w_applies, trivial, trivial, w_case⟩
end start1
theorem witness_1 : WitnessClaimed_1 := ⟨start1.p0, start1.e0, start1.about1, start1.theMethod, start1.args0, start1.below0, start1.atStart⟩
end Jvm.Pilot.@@N@@
