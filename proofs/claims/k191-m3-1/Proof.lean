import JvmDerived
import JvmDerived.Pilot.@@N@@Statement
import JvmDerived.Pilot.@@N@@Code
set_option linter.unusedVariables false
set_option linter.unusedSimpArgs false
namespace Jvm.Pilot.@@N@@
open Jvm Jvm.ClassFile Sem Op Lib Jvm.Free Jvm.Stand Jvm.LawKit Jvm.RoadKit Bundle Jvm.Pilot.@@N@@.Jvm.D
section OwnKit
variable {p : Program} {l : Launch} {e : Env} {R : Room} {s : State} {m : MethodId} {args : Array Value} {below : List Frame} {meth : Method} {c : Code} {T : State} {locs : List Loc} {cells slots : Nat} {Z : State} {a0 : Array Value} {h0 : Heap}
/-- from this state the run comes to the end of the invocation, and there P holds -/
def own_G (p : Program) (e : Env) (below : List Frame) (P : Outcome → State → Prop) (st : State) : Prop :=
  ∃ (u : State) (o : Outcome), Steps p.tables e below st u ∧ u.status = .running ∧ Ended u below o ∧ P o u
theorem own_via {P : Outcome → State → Prop} {st st' : State} (k : ∀ t, Steps p.tables e below st' t → Steps p.tables e below st t) (h : own_G p e below P st') : own_G p e below P st := by
  obtain ⟨u, o, h1, h2⟩ := h
  exact ⟨u, o, k _ h1, h2⟩
/-- what a contract says of the end -/
def own_P (s : State) (Q : Option Value → Heap → List Loc → Prop) (k n : Nat) : Outcome → State → Prop := fun o u => ∃ v L, o = .returned v ∧ Q v u.heap L ∧ FrameEnd s o u L k n
/-- it returns w and leaves the heap as it was -/
def own_Q (w : Value) (h0 : Heap) : Option Value → Heap → List Loc → Prop := fun v h L => v = some w ∧ L = [] ∧ h = h0
/-- a contract -/
def own_C (l : Launch) (Z : State) (y : MethodName) (bytes : ByteArray) (maxL : Nat) (ret : Option FieldType) (ws : List Jvm.Cond) (rm : Room) (as : Array Value) (h0 : Heap) (Q : Option Value → Heap → List Loc → Prop) : Prop :=
  MetFree l y (head1 (Jvm.Cond.code y bytes maxL ret :: ws) rm) (fun a U => a = as ∧ Z.Warmed39 U.vm ∧ U.heap = h0) (fun _ _ _ _ _ => True) (fun _ U o U' => ∃ v L, o = .returned v ∧ Q v U'.heap L ∧ FrameEnd U o U' L rm.cells rm.slots)
theorem own_ret {v : Option Value} {Q : Option Value → Heap → List Loc → Prop} {k n : Nat} {st : State} (X : Stand p l e R s m args below meth c T locs cells slots) (hv : meth.sig.returnType = none → v = none) (hlocks : meth.locks = false)
    (hst : ∀ fs, (∀ (f : JFrame) (acts : List Action), f.method = m → f.locked = none → f.entered = [] → (doReturn e (T.setTop f) acts v).1 = T.setFrames fs) → Steps p.tables e below st (T.setFrames fs))
    (hQ : Q v T.heap locs) (hk : cells ≤ k) (hn : slots ≤ n) : own_G p e below (own_P s Q k n) st := by
  obtain ⟨fs, hr, hrun, hended, hW, hsame⟩ := X.leave (v := v) hv hlocks
  exact ⟨_, _, hst fs hr, hrun, hended, _, _, rfl, hQ, ⟨_, rfl⟩, hW, hsame.mono hk hn⟩
theorem own_retI {Q : Option Value → Heap → List Loc → Prop} {k n : Nat} (X : Stand p l e R s m args below meth c T locs cells slots) (hx : p.tables.exec = Jvm.exec) {pc : Nat} {Ls : Array Slot} {z : Int32} {rest : List Value} (hret : meth.sig.returnType = some .int) (hlocks : meth.locks = false) (hd : decode c.code pc = .ok (.ireturn, 1))
    (hQ : Q (some (.int z)) T.heap locs) (hk : cells ≤ k) (hn : slots ≤ n) : own_G p e below (own_P s Q k n) (T.setTop (mkF m pc Ls (.int z :: rest))) := by
  refine own_ret X (fun h => by rw [hret] at h; cases h) hlocks (fun fs hr => ?_) hQ hk hn
  have hm' : T.vm.method? m = some meth := X.method'
  have hn : narrow .int (.int z) = .int z := rfl
  show Steps p.tables e below (T.setTop { method := m, pc := pc, locals := Ls, stack := _ :: rest, locked := none }) _
  jvm_step X.here [X.here.top, hx, hd, hm', hret, hn]
  first | (intro acts; rw [hr _ acts rfl rfl rfl]) | rw [hr _ _ rfl rfl rfl]
  exact Steps.refl _
theorem own_retN {Q : Option Value → Heap → List Loc → Prop} {k n : Nat} {t : FieldType} (X : Stand p l e R s m args below meth c T locs cells slots) (hx : p.tables.exec = Jvm.exec) {pc : Nat} {Ls : Array Slot} {z : Int32} {rest : List Value} (hret : meth.sig.returnType = some t) (ht : t = .boolean ∨ t = .byte ∨ t = .char ∨ t = .short) (hlocks : meth.locks = false) (hd : decode c.code pc = .ok (.ireturn, 1))
    (hQ : Q (some (.int (nar t z))) T.heap locs) (hk : cells ≤ k) (hn : slots ≤ n) : own_G p e below (own_P s Q k n) (T.setTop (mkF m pc Ls (.int z :: rest))) :=
  own_ret X (fun h => by rw [hret] at h; cases h) hlocks (fun fs hr => retN X hx hret ht hd hr) hQ hk hn
theorem own_retL {Q : Option Value → Heap → List Loc → Prop} {k n : Nat} (X : Stand p l e R s m args below meth c T locs cells slots) (hx : p.tables.exec = Jvm.exec) {pc : Nat} {Ls : Array Slot} {z : Int64} (hret : meth.sig.returnType = some .long) (hlocks : meth.locks = false) (hd : decode c.code pc = .ok (.lreturn, 1))
    (hQ : Q (some (.long z)) T.heap locs) (hk : cells ≤ k) (hn : slots ≤ n) : own_G p e below (own_P s Q k n) (T.setTop (mkF m pc Ls [.long z])) :=
  own_ret X (fun h => by rw [hret] at h; cases h) hlocks (fun fs hr => X.lreturnOut hx hret hd hr) hQ hk hn
theorem own_retV {Q : Option Value → Heap → List Loc → Prop} {k n : Nat} (X : Stand p l e R s m args below meth c T locs cells slots) (hx : p.tables.exec = Jvm.exec) {pc : Nat} {Ls : Array Slot} (hret : meth.sig.returnType = none) (hlocks : meth.locks = false) (hd : decode c.code pc = .ok (.return_, 1))
    (hQ : Q none T.heap locs) (hk : cells ≤ k) (hn : slots ≤ n) : own_G p e below (own_P s Q k n) (T.setTop (mkF m pc Ls [])) :=
  own_ret X (fun _ => rfl) hlocks (fun fs hr => X.returnOut hx hret hd hr) hQ hk hn
theorem own_retA {Q : Option Value → Heap → List Loc → Prop} {k n : Nat} {t : FieldType} {v : Value} (X : Stand p l e R s m args below meth c T locs cells slots) (hx : p.tables.exec = Jvm.exec) {pc : Nat} {Ls : Array Slot} {rest : List Value} (hret : meth.sig.returnType = some t) (ht : t.isReference = true) (hv : v.isRef = true) (hlocks : meth.locks = false) (hd : decode c.code pc = .ok (.areturn, 1))
    (hQ : Q (some v) T.heap locs) (hk : cells ≤ k) (hn : slots ≤ n) : own_G p e below (own_P s Q k n) (T.setTop (mkF m pc Ls (v :: rest))) := by
  refine own_ret X (fun h => by rw [hret] at h; cases h) hlocks (fun fs hr => ?_) hQ hk hn
  have hm' : T.vm.method? m = some meth := X.method'
  show Steps p.tables e below (T.setTop { method := m, pc := pc, locals := Ls, stack := _ :: rest, locked := none }) _
  jvm_step X.here [X.here.top, hx, hd, hm', hret, ht, hv]
  first | (intro acts; rw [hr _ acts rfl rfl rfl]) | rw [hr _ _ rfl rfl rfl]
  exact Steps.refl _
/-- a static method by its contract -/
theorem own_callS {own : String} {index : Nat} {y : MethodName} {bytes : ByteArray} {maxL W : Nat} {ret : Option FieldType} {rm : Room} {as : Array Value} {Q : Option Value → Heap → List Loc → Prop}
    (X : Stand p l e R s m args below meth c T locs cells slots) (hx : p.tables.exec = Jvm.exec) (hZ : Z.Warmed39 s.vm) (hown : s.vm.findClass own = some m.cls)
    (w1 : (Jvm.Cond.methodLink own index y).before a0 Z = true) (w2 : (Jvm.Cond.static y).before a0 Z = true) (w3 : (Jvm.Cond.initialized y.cls).before a0 Z = true) (w4 : (Jvm.Cond.code y bytes maxL ret).before a0 Z = true)
    (hy : y.cls ≠ "java/lang/invoke/MethodHandle" ∧ y.cls ≠ "java/lang/invoke/VarHandle") (hM : own_C l Z y bytes maxL ret [] rm as h0 Q)
    (hf : rm.frames + 1 ≤ R.frames) (hl : W + (maxL + 11) + rm.locals ≤ R.locals) (hcc : cells + rm.cells ≤ R.cells) (hss : slots + rm.slots ≤ R.slots) (e0 : T.heap = h0)
    {pc : Nat} {Ls : Array Slot} {st argsL rest : List Value} (hsize : Ls.size = c.maxLocals) (hlen : ∀ sig, parseMethodDescriptor y.desc = some sig → argsL.length = sig.parameters.length) (has : argsL.toArray = as)
    (hst : st = argsL.reverse ++ rest) (hW : 2 * 0 + (rest.map fun v => v.category).sum ≤ W) (hd : decode c.code pc = .ok (.invokestatic index, 3)) :
    ∃ (v : Option Value) (T' : State) (L : List Loc), Stand p l e R s m args below meth c T' (locs ++ L) (cells + rm.cells) (slots + rm.slots) ∧ Q v T'.heap L ∧
      ∀ target, Steps p.tables e below (T'.setTop (mkF m (pc + 3) Ls (v.toList ++ rest))) target → Steps p.tables e below (T.setTop (mkF m pc Ls st)) target := by
  obtain ⟨v, _, ⟨T', L', k', n'⟩, -, X', ⟨Lc, hQ, h1, h2, h3⟩, stp⟩ := Jvm.LawKit.callS X hx (y := y) hown (mvT hZ w1) (mvT hZ w2) (mvT hZ w3) (mvT hZ w4) hy
    (backOf (W := W) hM hZ w4 w3 hf hl) (g := mkF m pc Ls st) rfl hsize (argsL := argsL) (rest := rest) hlen hst hW hd (fun _ _ => ⟨has, e0, hcc, hss⟩)
  dsimp only [Pt.U, Pt.locs, Pt.cells, Pt.slots] at X' h1 h2 h3 stp hQ
  subst h1 h2 h3
  exact ⟨v, T', Lc, X', hQ, stp⟩
/-- a static method that leaves the heap as it was -/
theorem own_callP {own : String} {index : Nat} {y : MethodName} {bytes : ByteArray} {maxL W : Nat} {ret : Option FieldType} {rm : Room} {as : Array Value} {w : Value}
    (X : Stand p l e R s m args below meth c T locs cells slots) (hx : p.tables.exec = Jvm.exec) (hZ : Z.Warmed39 s.vm) (hown : s.vm.findClass own = some m.cls)
    (w1 : (Jvm.Cond.methodLink own index y).before a0 Z = true) (w2 : (Jvm.Cond.static y).before a0 Z = true) (w3 : (Jvm.Cond.initialized y.cls).before a0 Z = true) (w4 : (Jvm.Cond.code y bytes maxL ret).before a0 Z = true)
    (hy : y.cls ≠ "java/lang/invoke/MethodHandle" ∧ y.cls ≠ "java/lang/invoke/VarHandle") (hM : own_C l Z y bytes maxL ret [] rm as h0 (own_Q w h0))
    (hf : rm.frames + 1 ≤ R.frames) (hl : W + (maxL + 11) + rm.locals ≤ R.locals) (hrc : rm.cells = 0) (hrs : rm.slots = 0) (hcc : cells + rm.cells ≤ R.cells) (hss : slots + rm.slots ≤ R.slots) (e0 : T.heap = h0)
    {pc : Nat} {Ls : Array Slot} {st argsL rest : List Value} (hsize : Ls.size = c.maxLocals) (hlen : ∀ sig, parseMethodDescriptor y.desc = some sig → argsL.length = sig.parameters.length) (has : argsL.toArray = as)
    (hst : st = argsL.reverse ++ rest) (hW : 2 * 0 + (rest.map fun v => v.category).sum ≤ W) (hd : decode c.code pc = .ok (.invokestatic index, 3)) :
    ∃ (T' : State), Stand p l e R s m args below meth c T' locs cells slots ∧ T'.heap = h0 ∧
      ∀ target, Steps p.tables e below (T'.setTop (mkF m (pc + 3) Ls (w :: rest))) target → Steps p.tables e below (T.setTop (mkF m pc Ls st)) target := by
  obtain ⟨v, T', L, X', ⟨rfl, rfl, hh⟩, stp⟩ := own_callS X hx hZ hown w1 w2 w3 w4 hy hM hf hl hcc hss e0 hsize hlen has hst hW hd
  rw [List.append_nil, hrc, hrs] at X'
  exact ⟨T', X', hh, stp⟩
theorem own_b1 {x a : Int32} (h : x < a) : x.toInt ≤ a.toInt - 1 := by rw [Int32.lt_iff_toInt_lt] at h; omega
theorem own_b2 {x a : Int32} (h : ¬ x < a) : a.toInt ≤ x.toInt := by rw [Int32.lt_iff_toInt_lt] at h; omega
theorem own_b3 {x a : Int32} (h : a < x) : a.toInt + 1 ≤ x.toInt := by rw [Int32.lt_iff_toInt_lt] at h; omega
theorem own_b4 {x a : Int32} (h : ¬ a < x) : x.toInt ≤ a.toInt := by rw [Int32.lt_iff_toInt_lt] at h; omega
theorem own_b5 {x b : Int32} {k : Int} (h : x.toInt ≤ k) (q : k < b.toInt) : x < b := by rw [Int32.lt_iff_toInt_lt]; omega
theorem own_b6 {x b : Int32} {k : Int} (h : k ≤ x.toInt) (q : b.toInt ≤ k) : ¬ x < b := by rw [Int32.lt_iff_toInt_lt]; omega
theorem own_b7 {x b : Int32} {k : Int} (h : k ≤ x.toInt) (q : b.toInt < k) : b < x := by rw [Int32.lt_iff_toInt_lt]; omega
theorem own_b8 {x b : Int32} {k : Int} (h : x.toInt ≤ k) (q : k ≤ b.toInt) : ¬ b < x := by rw [Int32.lt_iff_toInt_lt]; omega
theorem own_b9 {x b : Int32} {k : Int} (h : x.toInt ≤ k) (q : k < b.toInt) : ¬ x = b := fun e => by subst e; omega
theorem own_b10 {x b : Int32} {k : Int} (h : k ≤ x.toInt) (q : b.toInt < k) : ¬ x = b := fun e => by subst e; omega
theorem own_of_eq {x a : Int32} {P : Int32 → Prop} (h : x = a) (q : P a) : P x := h ▸ q
end OwnKit
theorem own_pd0 : parseMethodDescriptor "(I)Z" = some ⟨[.int], some .boolean⟩ := by decide +kernel
theorem own_d2_0 : decode prog_19_method_2_code 0 = .ok (.iload_n 0, 1) := by decide +kernel
theorem own_d2_1 : decode prog_19_method_2_code 1 = .ok (.iconst 1, 1) := by decide +kernel
theorem own_d2_2 : decode prog_19_method_2_code 2 = .ok (.if_icmp .lt 14, 3) := by decide +kernel
theorem own_d2_5 : decode prog_19_method_2_code 5 = .ok (.iload_n 0, 1) := by decide +kernel
theorem own_d2_6 : decode prog_19_method_2_code 6 = .ok (.sipush 255, 3) := by decide +kernel
theorem own_d2_9 : decode prog_19_method_2_code 9 = .ok (.if_icmp .gt 7, 3) := by decide +kernel
theorem own_d2_12 : decode prog_19_method_2_code 12 = .ok (.iconst 1, 1) := by decide +kernel
theorem own_d2_13 : decode prog_19_method_2_code 13 = .ok (.goto 4, 3) := by decide +kernel
theorem own_d2_16 : decode prog_19_method_2_code 16 = .ok (.iconst 0, 1) := by decide +kernel
theorem own_d2_17 : decode prog_19_method_2_code 17 = .ok (.ireturn, 1) := by decide +kernel
abbrev own_R2 : Room := { frames := 0, cells := 0, slots := 0, locals := 0 }
theorem own_pn2 : plainFor (⟨"com/example/loudmark/loudmark/core/CsrcAudioLevels", "isSentId", "(I)Z"⟩ : MethodName) = true := plainFor_of_name (by first | (simp [plainName, overriddenIn]; done) | decide +kernel)
theorem own_ef2 (m : MethodId) (p0 : Int32) : entryFrame m #[(.int p0)] 1 = mkF m 0 #[.val (.int p0)] [] := by first | (simp [entryFrame, mkF, argsToLocals, Value.category]; done) | rfl
def own_F2 (p0 : Int32) : Int32 := (if p0 < (1 : Int32) then (0 : Int32) else (if (255 : Int32) < p0 then (0 : Int32) else (1 : Int32)))
set_option maxRecDepth 65536 in
set_option maxHeartbeats 40000000 in
theorem own_rm2 (l : Launch) (Z : State) (a0 : Array Value) (hw : ∀ d ∈ tables_1, d.before a0 Z = true) (ws : List Jvm.Cond) (p0 : Int32) (h0 : Heap) :
    own_C l Z (⟨"com/example/loudmark/loudmark/core/CsrcAudioLevels", "isSentId", "(I)Z"⟩ : MethodName) prog_19_method_2_code 1 (some .boolean) ws own_R2 #[(.int p0)] h0 (own_Q (.int (own_F2 p0)) h0) := by
  refine MetFree.of_bodySF own_pn2 hisR ?_
  intro p e s m args below meth c s₁ Bd hml0 hP hK
  obtain ⟨rfl, hZ, hh⟩ := hP
  have hx := Bd.exec
  have hby := Bd.bytes
  have hml : c.maxLocals = 1 := hml0
  have hown : s.vm.findClass "com/example/loudmark/loudmark/core/CsrcAudioLevels" = some m.cls := findClass_of_methodNamed Bd.named
  have X0 : Stand p l e own_R2 s m #[(.int p0)] below meth c s₁ [] 0 0 := Stand.of_body Bd
  have e0 : s₁.heap = h0 := by rw [← hh, Bd.state]; rfl
  show own_G p e below (own_P s (own_Q (.int (own_F2 p0)) h0) own_R2.cells own_R2.slots) (s₁.setTop (entryFrame m #[(.int p0)] 1))
  rw [own_ef2 m p0]
  show own_G p e below _ (s₁.setTop (mkF m 0 #[.val (.int p0)] []))
  refine own_via (fun t k => XS.iloadN X0.here hx rfl (hb hby own_d2_0) rfl k) ?_
  show own_G p e below _ (s₁.setTop (mkF m 1 #[.val (.int p0)] [(.int p0)]))
  refine own_via (fun t k => XS.iconst X0.here hx rfl (hb hby own_d2_1) k) ?_
  show own_G p e below _ (s₁.setTop (mkF m 2 #[.val (.int p0)] [(.int (1 : Int32)), (.int p0)]))
  by_cases hc1 : p0 < (1 : Int32)
  ·
    refine own_via (fun t k => XS.icmpYes X0.here hx rfl (pc0 := 2) (pc' := 16) rfl (hb hby own_d2_2) rfl (tlt hc1).1 (by decide) (by decide) k) ?_
    show own_G p e below _ (s₁.setTop (mkF m 16 #[.val (.int p0)] []))
    refine own_via (fun t k => XS.iconst X0.here hx rfl (hb hby own_d2_16) k) ?_
    show own_G p e below _ (s₁.setTop (mkF m 17 #[.val (.int p0)] [(.int (0 : Int32))]))
    exact own_retN (t := .boolean) X0 hx Bd.returns (by simp) Bd.notSynchronized (hb hby own_d2_17) ⟨by show (some (.int (0 : Int32)) : Option Value) = some (.int (own_F2 p0)); simp only [own_F2, if_pos hc1], rfl, e0⟩ (by decide) (by decide)
  ·
    refine own_via (fun t k => XS.icmpNo X0.here hx rfl (hb hby own_d2_2) rfl (flt hc1).1 k) ?_
    show own_G p e below _ (s₁.setTop (mkF m 5 #[.val (.int p0)] []))
    refine own_via (fun t k => XS.iloadN X0.here hx rfl (hb hby own_d2_5) rfl k) ?_
    show own_G p e below _ (s₁.setTop (mkF m 6 #[.val (.int p0)] [(.int p0)]))
    refine own_via (fun t k => XS.sipush X0.here hx rfl (hb hby own_d2_6) k) ?_
    show own_G p e below _ (s₁.setTop (mkF m 9 #[.val (.int p0)] [(.int (255 : Int32)), (.int p0)]))
    by_cases hc2 : (255 : Int32) < p0
    ·
      refine own_via (fun t k => XS.icmpYes X0.here hx rfl (pc0 := 9) (pc' := 16) rfl (hb hby own_d2_9) rfl (tlt hc2).2.2.1 (by decide) (by decide) k) ?_
      show own_G p e below _ (s₁.setTop (mkF m 16 #[.val (.int p0)] []))
      refine own_via (fun t k => XS.iconst X0.here hx rfl (hb hby own_d2_16) k) ?_
      show own_G p e below _ (s₁.setTop (mkF m 17 #[.val (.int p0)] [(.int (0 : Int32))]))
      exact own_retN (t := .boolean) X0 hx Bd.returns (by simp) Bd.notSynchronized (hb hby own_d2_17) ⟨by show (some (.int (0 : Int32)) : Option Value) = some (.int (own_F2 p0)); simp only [own_F2, if_neg hc1, if_pos hc2], rfl, e0⟩ (by decide) (by decide)
    ·
      refine own_via (fun t k => XS.icmpNo X0.here hx rfl (hb hby own_d2_9) rfl (flt hc2).2.2.1 k) ?_
      show own_G p e below _ (s₁.setTop (mkF m 12 #[.val (.int p0)] []))
      refine own_via (fun t k => XS.iconst X0.here hx rfl (hb hby own_d2_12) k) ?_
      show own_G p e below _ (s₁.setTop (mkF m 13 #[.val (.int p0)] [(.int (1 : Int32))]))
      refine own_via (fun t k => XS.goto X0.here hx rfl (pc0 := 13) (pc' := 17) rfl (hb hby own_d2_13) (by decide) (by decide) k) ?_
      show own_G p e below _ (s₁.setTop (mkF m 17 #[.val (.int p0)] [(.int (1 : Int32))]))
      exact own_retN (t := .boolean) X0 hx Bd.returns (by simp) Bd.notSynchronized (hb hby own_d2_17) ⟨by show (some (.int (1 : Int32)) : Option Value) = some (.int (own_F2 p0)); simp only [own_F2, if_neg hc1, if_neg hc2], rfl, e0⟩ (by decide) (by decide)
theorem own_d1_0 : decode method_2_code 0 = .ok (.iload_n 0, 1) := by decide +kernel
theorem own_d1_1 : decode method_2_code 1 = .ok (.sipush 255, 3) := by decide +kernel
theorem own_d1_4 : decode method_2_code 4 = .ok (.iand, 1) := by decide +kernel
theorem own_d1_5 : decode method_2_code 5 = .ok (.iload_n 0, 1) := by decide +kernel
theorem own_d1_6 : decode method_2_code 6 = .ok (.if_icmp .ne 11, 3) := by decide +kernel
theorem own_d1_9 : decode method_2_code 9 = .ok (.iload_n 0, 1) := by decide +kernel
theorem own_d1_10 : decode method_2_code 10 = .ok (.ifCond .eq 7, 3) := by decide +kernel
theorem own_d1_13 : decode method_2_code 13 = .ok (.iconst 1, 1) := by decide +kernel
theorem own_d1_14 : decode method_2_code 14 = .ok (.goto 4, 3) := by decide +kernel
theorem own_d1_17 : decode method_2_code 17 = .ok (.iconst 0, 1) := by decide +kernel
theorem own_d1_18 : decode method_2_code 18 = .ok (.istore_n 1, 1) := by decide +kernel
theorem own_d1_19 : decode method_2_code 19 = .ok (.iload_n 0, 1) := by decide +kernel
theorem own_d1_20 : decode method_2_code 20 = .ok (.invokestatic 7, 3) := by decide +kernel
theorem own_d1_23 : decode method_2_code 23 = .ok (.iload_n 1, 1) := by decide +kernel
theorem own_d1_24 : decode method_2_code 24 = .ok (.if_icmp .ne 7, 3) := by decide +kernel
theorem own_d1_27 : decode method_2_code 27 = .ok (.iconst 1, 1) := by decide +kernel
theorem own_d1_28 : decode method_2_code 28 = .ok (.goto 4, 3) := by decide +kernel
theorem own_d1_31 : decode method_2_code 31 = .ok (.iconst 0, 1) := by decide +kernel
theorem own_d1_32 : decode method_2_code 32 = .ok (.ireturn, 1) := by decide +kernel
abbrev own_R1 : Room := { frames := 1, cells := 0, slots := 0, locals := 12 }
theorem own_pn1 : plainFor (⟨"com/example/loudmark/loudmark/core/CsrcAudioLevelsIsSentIdPinLaw", "agrees", "(I)Z"⟩ : MethodName) = true := plainFor_of_name (by first | (simp [plainName, overriddenIn]; done) | decide +kernel)
theorem own_ef1 (m : MethodId) (p0 : Int32) : entryFrame m #[(.int p0)] 2 = mkF m 0 #[.val (.int p0), .unset] [] := by first | (simp [entryFrame, mkF, argsToLocals, Value.category]; done) | rfl
def own_F1 (p0 : Int32) : Int32 := (let zj2 : Int32 := (if (p0 &&& (255 : Int32)) = p0 then (if p0 = (0 : Int32) then (0 : Int32) else (1 : Int32)) else (0 : Int32)); (if (own_F2 p0) = zj2 then (1 : Int32) else (0 : Int32)))
set_option maxRecDepth 65536 in
set_option maxHeartbeats 40000000 in
theorem own_rm1 (l : Launch) (Z : State) (a0 : Array Value) (hw : ∀ d ∈ tables_1, d.before a0 Z = true) (ws : List Jvm.Cond) (p0 : Int32) (h0 : Heap) :
    own_C l Z (⟨"com/example/loudmark/loudmark/core/CsrcAudioLevelsIsSentIdPinLaw", "agrees", "(I)Z"⟩ : MethodName) method_2_code 2 (some .boolean) ws own_R1 #[(.int p0)] h0 (own_Q (.int (own_F1 p0)) h0) := by
  refine MetFree.of_bodySF own_pn1 hisR ?_
  intro p e s m args below meth c s₁ Bd hml0 hP hK
  obtain ⟨rfl, hZ, hh⟩ := hP
  have hx := Bd.exec
  have hby := Bd.bytes
  have hml : c.maxLocals = 2 := hml0
  have hown : s.vm.findClass "com/example/loudmark/loudmark/core/CsrcAudioLevelsIsSentIdPinLaw" = some m.cls := findClass_of_methodNamed Bd.named
  have X0 : Stand p l e own_R1 s m #[(.int p0)] below meth c s₁ [] 0 0 := Stand.of_body Bd
  have e0 : s₁.heap = h0 := by rw [← hh, Bd.state]; rfl
  show own_G p e below (own_P s (own_Q (.int (own_F1 p0)) h0) own_R1.cells own_R1.slots) (s₁.setTop (entryFrame m #[(.int p0)] 2))
  rw [own_ef1 m p0]
  show own_G p e below _ (s₁.setTop (mkF m 0 #[.val (.int p0), .unset] []))
  refine own_via (fun t k => XS.iloadN X0.here hx rfl (hb hby own_d1_0) rfl k) ?_
  show own_G p e below _ (s₁.setTop (mkF m 1 #[.val (.int p0), .unset] [(.int p0)]))
  refine own_via (fun t k => XS.sipush X0.here hx rfl (hb hby own_d1_1) k) ?_
  show own_G p e below _ (s₁.setTop (mkF m 4 #[.val (.int p0), .unset] [(.int (255 : Int32)), (.int p0)]))
  refine own_via (fun t k => XS.iand X0.here hx rfl (hb hby own_d1_4) rfl k) ?_
  show own_G p e below _ (s₁.setTop (mkF m 5 #[.val (.int p0), .unset] [(.int (p0 &&& (255 : Int32)))]))
  refine own_via (fun t k => XS.iloadN X0.here hx rfl (hb hby own_d1_5) rfl k) ?_
  show own_G p e below _ (s₁.setTop (mkF m 6 #[.val (.int p0), .unset] [(.int p0), (.int (p0 &&& (255 : Int32)))]))
  have J1 : ∀ (TJ1 : State) (XJ1 : Stand p l e own_R1 s m #[(.int p0)] below meth c TJ1 [] 0 0) (EJ1 : TJ1.heap = h0) (zj2 : Int32), zj2 = (if (p0 &&& (255 : Int32)) = p0 then (if p0 = (0 : Int32) then (0 : Int32) else (1 : Int32)) else (0 : Int32)) → own_G p e below (own_P s (own_Q (.int (own_F1 p0)) h0) 0 0) (TJ1.setTop (mkF m 18 #[.val (.int p0), .unset] [(.int zj2)])) := by
    intro TJ1 XJ1 EJ1 zj2 hzj2
    refine own_via (fun t k => XS.istoreN XJ1.here hx rfl (hb hby own_d1_18) rfl (l' := #[.val (.int p0), .val (.int zj2)]) rfl k) ?_
    show own_G p e below _ (TJ1.setTop (mkF m 19 #[.val (.int p0), .val (.int zj2)] []))
    refine own_via (fun t k => XS.iloadN XJ1.here hx rfl (hb hby own_d1_19) rfl k) ?_
    show own_G p e below _ (TJ1.setTop (mkF m 20 #[.val (.int p0), .val (.int zj2)] [(.int p0)]))
    obtain ⟨T3, X3, e3, st3⟩ := own_callP (y := (⟨"com/example/loudmark/loudmark/core/CsrcAudioLevels", "isSentId", "(I)Z"⟩ : MethodName)) (W := 0) XJ1 hx hZ hown (hw _ (List.mem_of_getElem? (i := 4) rfl)) (hw _ (List.mem_of_getElem? (i := 5) rfl)) (hw _ (List.mem_of_getElem? (i := 6) rfl)) (hw _ (List.mem_of_getElem? (i := 7) rfl)) (by decide) (own_rm2 l Z a0 hw [] p0 h0) (by decide) (by decide) rfl rfl (by decide) (by decide) EJ1 (pc := 20) (Ls := #[.val (.int p0), .val (.int zj2)]) (st := [(.int p0)]) (argsL := [(.int p0)]) (rest := []) (by rw [hml]; rfl) (lenOf own_pd0 rfl) rfl rfl (Nat.le_of_eq rfl) (hb hby own_d1_20)
    refine own_via st3 ?_
    show own_G p e below _ (T3.setTop (mkF m 23 #[.val (.int p0), .val (.int zj2)] [(.int (own_F2 p0))]))
    refine own_via (fun t k => XS.iloadN X3.here hx rfl (hb hby own_d1_23) rfl k) ?_
    show own_G p e below _ (T3.setTop (mkF m 24 #[.val (.int p0), .val (.int zj2)] [(.int zj2), (.int (own_F2 p0))]))
    by_cases hc4 : (own_F2 p0) = zj2
    ·
      refine own_via (fun t k => XS.icmpNo X3.here hx rfl (hb hby own_d1_24) rfl (teq hc4).2 k) ?_
      show own_G p e below _ (T3.setTop (mkF m 27 #[.val (.int p0), .val (.int zj2)] []))
      refine own_via (fun t k => XS.iconst X3.here hx rfl (hb hby own_d1_27) k) ?_
      show own_G p e below _ (T3.setTop (mkF m 28 #[.val (.int p0), .val (.int zj2)] [(.int (1 : Int32))]))
      refine own_via (fun t k => XS.goto X3.here hx rfl (pc0 := 28) (pc' := 32) rfl (hb hby own_d1_28) (by decide) (by decide) k) ?_
      show own_G p e below _ (T3.setTop (mkF m 32 #[.val (.int p0), .val (.int zj2)] [(.int (1 : Int32))]))
      exact own_retN (t := .boolean) X3 hx Bd.returns (by simp) Bd.notSynchronized (hb hby own_d1_32) ⟨by subst hzj2; show (some (.int (1 : Int32)) : Option Value) = some (.int (own_F1 p0)); simp only [own_F1, if_pos hc4], rfl, e3⟩ (by decide) (by decide)
    ·
      refine own_via (fun t k => XS.icmpYes X3.here hx rfl (pc0 := 24) (pc' := 31) rfl (hb hby own_d1_24) rfl (feq hc4).2 (by decide) (by decide) k) ?_
      show own_G p e below _ (T3.setTop (mkF m 31 #[.val (.int p0), .val (.int zj2)] []))
      refine own_via (fun t k => XS.iconst X3.here hx rfl (hb hby own_d1_31) k) ?_
      show own_G p e below _ (T3.setTop (mkF m 32 #[.val (.int p0), .val (.int zj2)] [(.int (0 : Int32))]))
      exact own_retN (t := .boolean) X3 hx Bd.returns (by simp) Bd.notSynchronized (hb hby own_d1_32) ⟨by subst hzj2; show (some (.int (0 : Int32)) : Option Value) = some (.int (own_F1 p0)); simp only [own_F1, if_neg hc4], rfl, e3⟩ (by decide) (by decide)
  by_cases hc5 : (p0 &&& (255 : Int32)) = p0
  ·
    refine own_via (fun t k => XS.icmpNo X0.here hx rfl (hb hby own_d1_6) rfl (teq hc5).2 k) ?_
    show own_G p e below _ (s₁.setTop (mkF m 9 #[.val (.int p0), .unset] []))
    refine own_via (fun t k => XS.iloadN X0.here hx rfl (hb hby own_d1_9) rfl k) ?_
    show own_G p e below _ (s₁.setTop (mkF m 10 #[.val (.int p0), .unset] [(.int p0)]))
    by_cases hc6 : p0 = (0 : Int32)
    ·
      refine own_via (fun t k => XS.ifYes X0.here hx rfl (pc0 := 10) (pc' := 17) rfl (hb hby own_d1_10) rfl ((if0 _ _).trans (teq hc6).1) (by decide) (by decide) k) ?_
      show own_G p e below _ (s₁.setTop (mkF m 17 #[.val (.int p0), .unset] []))
      refine own_via (fun t k => XS.iconst X0.here hx rfl (hb hby own_d1_17) k) ?_
      show own_G p e below _ (s₁.setTop (mkF m 18 #[.val (.int p0), .unset] [(.int (0 : Int32))]))
      exact J1 _ X0 e0 _ (by simp only [if_pos hc5, if_pos hc6])
    ·
      refine own_via (fun t k => XS.ifNo X0.here hx rfl (hb hby own_d1_10) rfl ((if0 _ _).trans (feq hc6).1) k) ?_
      show own_G p e below _ (s₁.setTop (mkF m 13 #[.val (.int p0), .unset] []))
      refine own_via (fun t k => XS.iconst X0.here hx rfl (hb hby own_d1_13) k) ?_
      show own_G p e below _ (s₁.setTop (mkF m 14 #[.val (.int p0), .unset] [(.int (1 : Int32))]))
      refine own_via (fun t k => XS.goto X0.here hx rfl (pc0 := 14) (pc' := 18) rfl (hb hby own_d1_14) (by decide) (by decide) k) ?_
      show own_G p e below _ (s₁.setTop (mkF m 18 #[.val (.int p0), .unset] [(.int (1 : Int32))]))
      exact J1 _ X0 e0 _ (by simp only [if_pos hc5, if_neg hc6])
  ·
    refine own_via (fun t k => XS.icmpYes X0.here hx rfl (pc0 := 6) (pc' := 17) rfl (hb hby own_d1_6) rfl (feq hc5).2 (by decide) (by decide) k) ?_
    show own_G p e below _ (s₁.setTop (mkF m 17 #[.val (.int p0), .unset] []))
    refine own_via (fun t k => XS.iconst X0.here hx rfl (hb hby own_d1_17) k) ?_
    show own_G p e below _ (s₁.setTop (mkF m 18 #[.val (.int p0), .unset] [(.int (0 : Int32))]))
    exact J1 _ X0 e0 _ (by simp only [if_neg hc5])
theorem own_pn0 : plainFor x = true := plainFor_of_name (by first | (simp [plainName, overriddenIn]; done) | decide +kernel)
theorem own_ef0 (m : MethodId) (p0 : Int32) (p1 : Int32) : entryFrame m #[(.int p0), (.int p1)] maxLocals = mkF m 0 #[.val (.int p0), .val (.int p1), .unset] [] := by first | (simp [entryFrame, mkF, argsToLocals, Value.category, maxLocals]; done) | rfl
def own_F0 (p0 : Int32) (p1 : Int32) : Int32 := (let vg1 : Int32 := ((p1 &&& (511 : Int32)) - (1 : Int32)); (if (own_F1 p0) = (0 : Int32) then (0 : Int32) else (if (own_F1 vg1) = (0 : Int32) then (0 : Int32) else (1 : Int32))))
set_option maxRecDepth 65536 in
set_option maxHeartbeats 40000000 in
theorem own_rm0 (l : Launch) (Z : State) (a0 : Array Value) (hw : ∀ d ∈ tables_1, d.before a0 Z = true) (ws : List Jvm.Cond) (p0 : Int32) (p1 : Int32) (h0 : Heap) :
    own_C l Z x code maxLocals ret ws room_1 #[(.int p0), (.int p1)] h0 (own_Q (.int (own_F0 p0 p1)) h0) := by
  refine MetFree.of_bodySF own_pn0 hisR ?_
  intro p e s m args below meth c s₁ Bd hml0 hP hK
  obtain ⟨rfl, hZ, hh⟩ := hP
  have hx := Bd.exec
  have hby := Bd.bytes
  have hml : c.maxLocals = 3 := hml0
  have hown : s.vm.findClass "com/example/loudmark/loudmark/core/CsrcAudioLevelsIsSentIdPinLaw" = some m.cls := findClass_of_methodNamed Bd.named
  have X0 : Stand p l e room_1 s m #[(.int p0), (.int p1)] below meth c s₁ [] 0 0 := Stand.of_body Bd
  have e0 : s₁.heap = h0 := by rw [← hh, Bd.state]; rfl
  show own_G p e below (own_P s (own_Q (.int (own_F0 p0 p1)) h0) room_1.cells room_1.slots) (s₁.setTop (entryFrame m #[(.int p0), (.int p1)] maxLocals))
  rw [own_ef0 m p0 p1]
  show own_G p e below _ (s₁.setTop (mkF m 0 #[.val (.int p0), .val (.int p1), .unset] []))
  refine own_via (fun t k => XS.iloadN X0.here hx rfl (hb hby at_0) rfl k) ?_
  show own_G p e below _ (s₁.setTop (mkF m 1 #[.val (.int p0), .val (.int p1), .unset] [(.int p1)]))
  refine own_via (fun t k => XS.sipush X0.here hx rfl (hb hby at_1) k) ?_
  show own_G p e below _ (s₁.setTop (mkF m 4 #[.val (.int p0), .val (.int p1), .unset] [(.int (511 : Int32)), (.int p1)]))
  refine own_via (fun t k => XS.iand X0.here hx rfl (hb hby at_4) rfl k) ?_
  show own_G p e below _ (s₁.setTop (mkF m 5 #[.val (.int p0), .val (.int p1), .unset] [(.int (p1 &&& (511 : Int32)))]))
  refine own_via (fun t k => XS.iconst X0.here hx rfl (hb hby at_5) k) ?_
  show own_G p e below _ (s₁.setTop (mkF m 6 #[.val (.int p0), .val (.int p1), .unset] [(.int (1 : Int32)), (.int (p1 &&& (511 : Int32)))]))
  refine own_via (fun t k => XS.isub X0.here hx rfl (hb hby at_6) rfl k) ?_
  show own_G p e below _ (s₁.setTop (mkF m 7 #[.val (.int p0), .val (.int p1), .unset] [(.int ((p1 &&& (511 : Int32)) - (1 : Int32)))]))
  generalize hvg1 : ((p1 &&& (511 : Int32)) - (1 : Int32)) = vg1
  show own_G p e below _ (s₁.setTop (mkF m 7 #[.val (.int p0), .val (.int p1), .unset] [(.int vg1)]))
  refine own_via (fun t k => XS.istoreN X0.here hx rfl (hb hby at_7) rfl (l' := #[.val (.int p0), .val (.int p1), .val (.int vg1)]) rfl k) ?_
  show own_G p e below _ (s₁.setTop (mkF m 8 #[.val (.int p0), .val (.int p1), .val (.int vg1)] []))
  refine own_via (fun t k => XS.iloadN X0.here hx rfl (hb hby at_8) rfl k) ?_
  show own_G p e below _ (s₁.setTop (mkF m 9 #[.val (.int p0), .val (.int p1), .val (.int vg1)] [(.int p0)]))
  obtain ⟨T2, X2, e2, st2⟩ := own_callP (y := (⟨"com/example/loudmark/loudmark/core/CsrcAudioLevelsIsSentIdPinLaw", "agrees", "(I)Z"⟩ : MethodName)) (W := 0) X0 hx hZ hown (hw _ (List.mem_of_getElem? (i := 0) rfl)) (hw _ (List.mem_of_getElem? (i := 1) rfl)) (hw _ (List.mem_of_getElem? (i := 2) rfl)) (hw _ (List.mem_of_getElem? (i := 3) rfl)) (by decide) (own_rm1 l Z a0 hw [] p0 h0) (by decide) (by decide) rfl rfl (by decide) (by decide) e0 (pc := 9) (Ls := #[.val (.int p0), .val (.int p1), .val (.int vg1)]) (st := [(.int p0)]) (argsL := [(.int p0)]) (rest := []) (by rw [hml]; rfl) (lenOf own_pd0 rfl) rfl rfl (Nat.le_of_eq rfl) (hb hby at_9)
  refine own_via st2 ?_
  show own_G p e below _ (T2.setTop (mkF m 12 #[.val (.int p0), .val (.int p1), .val (.int vg1)] [(.int (own_F1 p0))]))
  by_cases hc3 : (own_F1 p0) = (0 : Int32)
  ·
    refine own_via (fun t k => XS.ifYes X2.here hx rfl (pc0 := 12) (pc' := 26) rfl (hb hby at_12) rfl ((if0 _ _).trans (teq hc3).1) (by decide) (by decide) k) ?_
    show own_G p e below _ (T2.setTop (mkF m 26 #[.val (.int p0), .val (.int p1), .val (.int vg1)] []))
    refine own_via (fun t k => XS.iconst X2.here hx rfl (hb hby at_26) k) ?_
    show own_G p e below _ (T2.setTop (mkF m 27 #[.val (.int p0), .val (.int p1), .val (.int vg1)] [(.int (0 : Int32))]))
    exact own_retN (t := .boolean) X2 hx Bd.returns (by simp) Bd.notSynchronized (hb hby at_27) ⟨by subst hvg1; show (some (.int (0 : Int32)) : Option Value) = some (.int (own_F0 p0 p1)); simp only [own_F0, if_pos hc3], rfl, e2⟩ (by decide) (by decide)
  ·
    refine own_via (fun t k => XS.ifNo X2.here hx rfl (hb hby at_12) rfl ((if0 _ _).trans (feq hc3).1) k) ?_
    show own_G p e below _ (T2.setTop (mkF m 15 #[.val (.int p0), .val (.int p1), .val (.int vg1)] []))
    refine own_via (fun t k => XS.iloadN X2.here hx rfl (hb hby at_15) rfl k) ?_
    show own_G p e below _ (T2.setTop (mkF m 16 #[.val (.int p0), .val (.int p1), .val (.int vg1)] [(.int vg1)]))
    obtain ⟨T4, X4, e4, st4⟩ := own_callP (y := (⟨"com/example/loudmark/loudmark/core/CsrcAudioLevelsIsSentIdPinLaw", "agrees", "(I)Z"⟩ : MethodName)) (W := 0) X2 hx hZ hown (hw _ (List.mem_of_getElem? (i := 0) rfl)) (hw _ (List.mem_of_getElem? (i := 1) rfl)) (hw _ (List.mem_of_getElem? (i := 2) rfl)) (hw _ (List.mem_of_getElem? (i := 3) rfl)) (by decide) (own_rm1 l Z a0 hw [] vg1 h0) (by decide) (by decide) rfl rfl (by decide) (by decide) e2 (pc := 16) (Ls := #[.val (.int p0), .val (.int p1), .val (.int vg1)]) (st := [(.int vg1)]) (argsL := [(.int vg1)]) (rest := []) (by rw [hml]; rfl) (lenOf own_pd0 rfl) rfl rfl (Nat.le_of_eq rfl) (hb hby at_16)
    refine own_via st4 ?_
    show own_G p e below _ (T4.setTop (mkF m 19 #[.val (.int p0), .val (.int p1), .val (.int vg1)] [(.int (own_F1 vg1))]))
    by_cases hc5 : (own_F1 vg1) = (0 : Int32)
    ·
      refine own_via (fun t k => XS.ifYes X4.here hx rfl (pc0 := 19) (pc' := 26) rfl (hb hby at_19) rfl ((if0 _ _).trans (teq hc5).1) (by decide) (by decide) k) ?_
      show own_G p e below _ (T4.setTop (mkF m 26 #[.val (.int p0), .val (.int p1), .val (.int vg1)] []))
      refine own_via (fun t k => XS.iconst X4.here hx rfl (hb hby at_26) k) ?_
      show own_G p e below _ (T4.setTop (mkF m 27 #[.val (.int p0), .val (.int p1), .val (.int vg1)] [(.int (0 : Int32))]))
      exact own_retN (t := .boolean) X4 hx Bd.returns (by simp) Bd.notSynchronized (hb hby at_27) ⟨by subst hvg1; show (some (.int (0 : Int32)) : Option Value) = some (.int (own_F0 p0 p1)); simp only [own_F0, if_neg hc3, if_pos hc5], rfl, e4⟩ (by decide) (by decide)
    ·
      refine own_via (fun t k => XS.ifNo X4.here hx rfl (hb hby at_19) rfl ((if0 _ _).trans (feq hc5).1) k) ?_
      show own_G p e below _ (T4.setTop (mkF m 22 #[.val (.int p0), .val (.int p1), .val (.int vg1)] []))
      refine own_via (fun t k => XS.iconst X4.here hx rfl (hb hby at_22) k) ?_
      show own_G p e below _ (T4.setTop (mkF m 23 #[.val (.int p0), .val (.int p1), .val (.int vg1)] [(.int (1 : Int32))]))
      refine own_via (fun t k => XS.goto X4.here hx rfl (pc0 := 23) (pc' := 27) rfl (hb hby at_23) (by decide) (by decide) k) ?_
      show own_G p e below _ (T4.setTop (mkF m 27 #[.val (.int p0), .val (.int p1), .val (.int vg1)] [(.int (1 : Int32))]))
      exact own_retN (t := .boolean) X4 hx Bd.returns (by simp) Bd.notSynchronized (hb hby at_27) ⟨by subst hvg1; show (some (.int (1 : Int32)) : Option Value) = some (.int (own_F0 p0 p1)); simp only [own_F0, if_neg hc3, if_neg hc5], rfl, e4⟩ (by decide) (by decide)
theorem own_agrees (p : Int32) : own_F1 p = 1 := by
  have h1 := c_mask p 255 8 (by decide) (by decide)
  have h2 := rng32 p
  have e : own_F2 p = (if (p &&& 255) = p then (if p = 0 then 0 else 1) else 0) := by
    simp only [own_F2, Int32.lt_iff_toInt_lt, ← Int32.toInt_inj, h1]
    simp only [show (1 : Int32).toInt = 1 from rfl, show (255 : Int32).toInt = 255 from rfl, show (0 : Int32).toInt = 0 from rfl]
    generalize p.toInt = c at *
    repeat' split
    all_goals first | rfl | (exfalso; omega)
  simp only [own_F1, e, if_true]
theorem own_law (p q : Int32) : own_F0 p q = 1 := by
  simp only [own_F0, own_agrees]
  decide
set_option maxRecDepth 65536 in
set_option maxHeartbeats 40000000 in
theorem comes_1 {Post : Tables → Env → Array Value → State → Outcome → State → Prop} (hpost : ∀ tb e args s v u, (limb_1_1.after args s (.returned v) u = true ∧ limb_1_2.after args s (.returned v) u = true) → FrameEnd s (.returned v) u (Jvm.fieldLocs frame_1_writes args s ++ Jvm.arrayLocs frame_1_arrays args s ++ Jvm.staticLocs frame_1_statics s) 0 0 → Post tb e args s (.returned v) u) :
    ArmFor flags0 classFile x code maxLocals ret World_1 tables_1 room_1 Calls_1 rest_1 Pre_1 Post := by
  intro l hfl _ _ p e ha hc hk s m args below hf hA hF happ hP
  obtain ⟨hcalls, hrest, hpre⟩ := hP
  obtain ⟨-, -, -, hnamed, -, -, -, hat⟩ := (Spec.applies_iff hf).mp happ
  obtain ⟨hg, hn⟩ := and_e (Cond.before_iff.mp (show (Jvm.Cond.and given_1 narrow_1).before args s = true from hpre))
  obtain ⟨g1, g2⟩ := and_e hg
  obtain ⟨g3, g4⟩ := and_e g2
  obtain ⟨w0, w1, rfl⟩ : ∃ w0 w1 : Value, args = #[w0, w1] := by
    have hs : args.size = 2 := by simpa [Cond.value, given_1] using g1
    obtain ⟨L⟩ := args
    match L, hs with
    | [w0, w1], _ => exact ⟨w0, w1, rfl⟩
  have hw := fun d (hd : d ∈ tables_1) => atoms_spec (ws := Jvm.Cond.code x code maxLocals ret :: tables_1) hat d (List.mem_cons_of_mem _ hd)
  obtain ⟨i0, ei0⟩ := is_v g3
  obtain rfl : w0 = (.int i0) := Option.some.inj ei0
  obtain ⟨i1, ei1⟩ := is_v g4
  obtain rfl : w1 = (.int i1) := Option.some.inj ei1
  obtain ⟨n, o, h1, h2, h3, _, L, rfl, ⟨rfl, rfl, -⟩, hq⟩ := own_rm0 l s _ hw tables_1 i0 i1 s.heap p e ha hc hk s m _ below hf ((Spec.applies_iff_loose hf).mp happ).1 ⟨rfl, State.Warmed39.refl s, rfl⟩ trivial
  rw [own_law i0 i1] at hq h3
  refine ⟨n, _, h1, h2, h3, hpost _ _ _ _ _ _ ⟨Cond.after_iff.mpr rfl, Cond.after_iff.mpr (eq_i res_at (Term.int_eval (1)) rfl)⟩ ⟨hq.1, hq.2.1, (hq.2.2.sift fun y hy => by cases hy).mono (by decide) (by decide)⟩⟩
theorem main_1_1 : Claimed_1_1 := comes_1 fun _ _ _ _ _ _ h hF => ⟨h.1, hF⟩
theorem main_1_2 : Claimed_1_2 := comes_1 fun _ _ _ _ _ _ h hF => ⟨h.2, hF⟩
end Jvm.Pilot.@@N@@
namespace Jvm.Pilot.@@N@@
open Jvm Jvm.ClassFile Sem Op Lib Jvm.Free Jvm.Stand Jvm.Pilot.@@N@@.Jvm.D
/-! MADE BY PROGRAM (witnessworld.py) out of the Statement's table words and the real class files: 9 classes; the members and pool entries that the words name. The judged class is class 1, her method 2. -/
namespace start1
open Jvm.ClassFile
def u (s : String) : CpInfo := .utf8 (stringToUtf16 s)
/-- a pool by its gaps: so many unusable entries, then the entry; so many at the end -/
def gap : Nat → List CpInfo → List CpInfo
  | 0, r => r
  | n + 1, r => .unusable :: gap n r
def poolList (es : List (Nat × CpInfo)) (last : Nat) : List CpInfo := es.foldr (fun e r => gap e.1 (e.2 :: r)) (gap last [])
def pool (es : List (Nat × CpInfo)) (last : Nat) : Array CpInfo := ⟨poolList es last⟩
def fileOf (pool : Array CpInfo) (this : Nat) (attrs : Array Attribute := #[]) (ms : Array MethodInfo := #[]) (fl : Nat := 33) (sup : Nat := 0) (ifs : Array Nat := #[]) (fds : Array FieldInfo := #[]) : ClassFile where
  minorVersion := 0
  majorVersion := 65
  constantPool := pool
  accessFlags := fl
  thisClass := this
  superClass := sup
  interfaces := ifs
  fields := fds
  methods := ms
  attributes := attrs
def plain (name : String) (sup : Option ClassId) : Class where
  name := name
  kind := .ordinary
  loader := none
  accessFlags := 33
  super := sup
  interfaces := #[]
  cf := none
  fields := #[]
  methods := #[]
  instanceTypes := #[]
  staticTypes := #[]
  resolved := #[]
  callSites := []
  init := .initialized
  statics := none
  mirror := none

def pool0 : Array CpInfo := pool [(5, u "<init>"), (0, u "()V"), (1, .class_ 10), (1, u "java/lang/Object")] 113

def k0m0 : Method := { name := "<init>", desc := "()V", sig := { parameters := [], returnType := none }, accessFlags := 1, code := none }
/-- java/lang/Object -/
def k0 : Class := { plain "java/lang/Object" none with
  accessFlags := 33
  interfaces := #[]
  cf := some (fileOf pool0 8 #[] #[{ accessFlags := 1, nameIndex := 5, descriptorIndex := 6, attributes := #[] }] 33 0 #[] #[])
  fields := #[]
  methods := #[k0m0]
  instanceTypes := #[]
  staticTypes := #[]
  resolved := Array.replicate 124 none
  statics := none }

def pool1 : Array CpInfo := pool [(2, .class_ 4), (1, u "java/lang/Object"), (0, u "<init>"), (0, u "()V"), (0, .methodref 8 9), (0, .class_ 10), (0, .nameAndType 11 12), (0, u "com/example/loudmark/loudmark/core/CsrcAudioLevels"), (0, u "isSentId"), (0, u "(I)Z"), (0, .methodref 14 15), (0, .class_ 16), (0, .nameAndType 17 12), (0, u "com/example/loudmark/loudmark/core/CsrcAudioLevelsIsSentIdPinLaw"), (0, u "agrees"), (3, u "law"), (0, u "(II)Z")] 2

def k1m0 : Method := { name := "<init>", desc := "()V", sig := { parameters := [], returnType := none }, accessFlags := 2, code := none }
def k1c1 : Code := { maxStack := 2, maxLocals := 2, code := method_2_code, exceptionTable := #[], attributes := #[] }
def k1m1 : Method := { name := "agrees", desc := "(I)Z", sig := { parameters := [.int], returnType := some .boolean }, accessFlags := 10, code := some k1c1 }
def k1c2 : Code := { maxStack := 2, maxLocals := 3, code := code, exceptionTable := #[], attributes := #[] }
def k1m2 : Method := { name := "law", desc := "(II)Z", sig := { parameters := [.int, .int], returnType := some .boolean }, accessFlags := 9, code := some k1c2 }
/-- com/example/loudmark/loudmark/core/CsrcAudioLevelsIsSentIdPinLaw -/
def k1 : Class := { plain "com/example/loudmark/loudmark/core/CsrcAudioLevelsIsSentIdPinLaw" (some 0) with
  accessFlags := 49
  interfaces := #[]
  cf := some (fileOf pool1 14 #[] #[{ accessFlags := 2, nameIndex := 5, descriptorIndex := 6, attributes := #[] }, { accessFlags := 10, nameIndex := 17, descriptorIndex := 12, attributes := #[] }, { accessFlags := 9, nameIndex := 21, descriptorIndex := 22, attributes := #[] }] 49 2 #[] #[])
  fields := #[]
  methods := #[k1m0, k1m1, k1m2]
  instanceTypes := #[]
  staticTypes := #[]
  resolved := Array.replicate 25 none
  statics := none }

def pool2 : Array CpInfo := pool [(3, .class_ 4), (0, u "com/example/loudmark/loudmark/core/CsrcAudioLevels"), (1, .class_ 8), (1, u "java/lang/Object"), (0, u "<init>"), (0, u "()V"), (2, u "isSentId"), (0, u "(I)Z"), (114, u "URI"), (0, u "Ljava/lang/String;"), (3, u "MAX_SENT_ID"), (0, u "I"), (1, u "SENT_IDS")] 46

def k2m0 : Method := { name := "<init>", desc := "()V", sig := { parameters := [], returnType := none }, accessFlags := 2, code := none }
def k2c1 : Code := { maxStack := 2, maxLocals := 1, code := prog_19_method_2_code, exceptionTable := #[], attributes := #[] }
def k2m1 : Method := { name := "isSentId", desc := "(I)Z", sig := { parameters := [.int], returnType := some .boolean }, accessFlags := 8, code := some k2c1 }
/-- com/example/loudmark/loudmark/core/CsrcAudioLevels -/
def k2 : Class := { plain "com/example/loudmark/loudmark/core/CsrcAudioLevels" (some 0) with
  accessFlags := 49
  interfaces := #[]
  cf := some (fileOf pool2 3 #[] #[{ accessFlags := 2, nameIndex := 9, descriptorIndex := 10, attributes := #[] }, { accessFlags := 8, nameIndex := 13, descriptorIndex := 14, attributes := #[] }] 49 6 #[] #[{ accessFlags := 25, nameIndex := 129, descriptorIndex := 130, attributes := #[] }, { accessFlags := 25, nameIndex := 134, descriptorIndex := 135, attributes := #[] }, { accessFlags := 24, nameIndex := 137, descriptorIndex := 130, attributes := #[] }])
  fields := #[{ name := "URI", type := (.object "java/lang/String"), accessFlags := 25, slot := 0, constantValue := 0 }, { name := "MAX_SENT_ID", type := .int, accessFlags := 25, slot := 1, constantValue := 0 }, { name := "SENT_IDS", type := (.object "java/lang/String"), accessFlags := 24, slot := 2, constantValue := 0 }]
  methods := #[k2m0, k2m1]
  instanceTypes := #[]
  staticTypes := #[(.object "java/lang/String"), .int, (.object "java/lang/String")]
  resolved := Array.replicate 184 none
  statics := none }

def pool3 : Array CpInfo := pool [(1, u "java/lang/Cloneable"), (0, .class_ 1), (0, u "java/lang/Object"), (0, .class_ 3)] 3

/-- java/lang/Cloneable -/
def k3 : Class := { plain "java/lang/Cloneable" (some 0) with
  accessFlags := 1537
  interfaces := #[]
  cf := some (fileOf pool3 2 #[] #[] 1537 4 #[] #[])
  fields := #[]
  methods := #[]
  instanceTypes := #[]
  staticTypes := #[]
  resolved := Array.replicate 8 none
  statics := none }

def pool4 : Array CpInfo := pool [(1, u "java/io/Serializable"), (0, .class_ 1), (0, u "java/lang/Object"), (0, .class_ 3)] 3

/-- java/io/Serializable -/
def k4 : Class := { plain "java/io/Serializable" (some 0) with
  accessFlags := 1537
  interfaces := #[]
  cf := some (fileOf pool4 2 #[] #[] 1537 4 #[] #[])
  fields := #[]
  methods := #[]
  instanceTypes := #[]
  staticTypes := #[]
  resolved := Array.replicate 8 none
  statics := none }

/-- the primitive byte -/
def k5 : Class := { plain "byte" none with kind := .primitive 'B', accessFlags := 0x411 }
/-- [B -/
def k6 : Class := { plain "[B" (some 0) with kind := .array 5 .byte, interfaces := #[3, 4], accessFlags := 1041 }

/-- the primitive int -/
def k7 : Class := { plain "int" none with kind := .primitive 'I', accessFlags := 0x411 }
/-- [I -/
def k8 : Class := { plain "[I" (some 0) with kind := .array 7 .int, interfaces := #[3, 4], accessFlags := 1041 }

def heap : Heap := #[]
def classes : Array Class := #[k0, k1, k2, k3, k4, k5, k6, k7, k8]
def interned : List (Array UInt16 × Addr) := []
def slotsUsed : Nat := 0
def theMethod : MethodId := ⟨1, 2⟩
def args0 : Array Value := #[.int 5, .int 300]
def aboutOver (below : List Frame) : State where
  vm := { classes := classes, interned := interned.toArray }
  heap := heap
  slotsUsed := slotsUsed
  threads := #[{ frames := .invoking theMethod args0 :: below }]
def below0 : List Frame := [.native { method := ⟨0, 0⟩, args := #[] }]
def about1 : State := aboutOver below0
def p0 : Program := .bare "" "" ""
def e0 : Env := launch0.env 0 0 0
theorem w_frames : about1.frames = Frame.invoking theMethod args0 :: below0 := rfl
set_option maxRecDepth 65536 in
theorem w_args : argsFit about1.vm theMethod args0 = true := by decide +kernel
set_option maxRecDepth 65536 in
theorem w_heap : heapFits about1 = true := by decide +kernel
set_option maxRecDepth 65536 in
theorem w_runnable : about1.curStatus? = some .runnable := by decide +kernel
set_option maxRecDepth 65536 in
theorem w_alone : about1.alone = true := by decide +kernel
set_option maxRecDepth 65536 in
theorem w_named : about1.methodNamed? x = some theMethod := by decide +kernel
set_option maxRecDepth 65536 in
theorem w_hears : about1.hears theMethod below0 = true := by decide +kernel
set_option maxRecDepth 65536 in
theorem w_ripe : about1.ripe theMethod args0 below0 = true := by decide +kernel
theorem w_running : about1.status = .running := rfl
set_option maxRecDepth 65536 in
theorem w_room : about1.hasRoom e0.platform room_1 = true :=
  launch0.hasRoom_least _ room_1 (by decide +kernel) (by decide +kernel) (by decide +kernel) (by decide +kernel) (by decide +kernel) (by decide +kernel)
theorem allAtoms_all (ts : List Jvm.Cond) (a : Array Jvm.Value) (st : Jvm.State) : (allAtoms ts).before a st = ts.all (fun c => c.before a st) := by
  induction ts with
  | nil => rfl
  | cons c t ih =>
    show (Jvm.Cond.and c (allAtoms t)).before a st = _
    rw [Jvm.Cond.before_and, ih, List.all_cons]
def words1 : List Jvm.Cond := Jvm.Cond.code x code maxLocals ret :: tables_1
/-- a 'code' word, met by the world's own term for the bytes: nothing is compared byte by byte -/
theorem code_word {y : MethodName} {bytes : ByteArray} {mx : Nat} {rt : Option FieldType} {a : Array Value} {s : State} {m : MethodId} {meth : Method} {c : Code} (h1 : s.methodNamed? y = some m) (h2 : s.vm.method? m = some meth) (h3 : meth.code = some c) (h4 : c.code = bytes)
    (h5 : (c.maxLocals == mx && c.exceptionTable.isEmpty && decide (c.maxStack ≤ mostOperands) && decide (meth.sig.returnType = rt) && !meth.locks && decide (parseMethodDescriptor y.desc = some meth.sig)) = true) : (Jvm.Cond.code y bytes mx rt).before a s = true := by
  simp only [Bool.and_eq_true, beq_iff_eq, Bool.not_eq_true', decide_eq_true_eq] at h5
  obtain ⟨⟨⟨⟨⟨g1, g2⟩, g3⟩, g4⟩, g5⟩, g6⟩ := h5
  simp [Cond.before, Cond.holds, Cond.value, h1, h2, h3, h4, g1, g2, g3, g4, g5, g6]
def isCode : Jvm.Cond → Bool
  | .code _ _ _ _ => true
  | _ => false
theorem all_split {L : List Jvm.Cond} {P : Jvm.Cond → Bool} (h1 : L.all (fun c => isCode c || P c) = true) (h2 : ∀ c ∈ L.filter isCode, P c = true) : L.all P = true := by
  refine List.all_eq_true.mpr fun c hc => ?_
  have h := List.all_eq_true.mp h1 c hc
  rcases Bool.eq_false_or_eq_true (isCode c) with hi | hi
  · exact h2 c (List.mem_filter.mpr ⟨hc, hi⟩)
  · simpa [hi] using h
set_option maxRecDepth 65536 in
theorem w_c0 : (Jvm.Cond.code x code maxLocals ret).before args0 about1 = true := code_word (m := ⟨1, 2⟩) (meth := k1m2) (c := k1c2) (by decide +kernel) rfl rfl rfl (by decide +kernel)
set_option maxRecDepth 65536 in
theorem w_c1 : (Jvm.Cond.code ({ cls := "com/example/loudmark/loudmark/core/CsrcAudioLevelsIsSentIdPinLaw", name := "agrees", desc := "(I)Z" } : Jvm.MethodName) method_2_code (2 : Nat) (Option.some Jvm.ClassFile.FieldType.boolean)).before args0 about1 = true := code_word (m := ⟨1, 1⟩) (meth := k1m1) (c := k1c1) (by decide +kernel) rfl rfl rfl (by decide +kernel)
set_option maxRecDepth 65536 in
theorem w_c2 : (Jvm.Cond.code ({ cls := "com/example/loudmark/loudmark/core/CsrcAudioLevels", name := "isSentId", desc := "(I)Z" } : Jvm.MethodName) prog_19_method_2_code (1 : Nat) (Option.some Jvm.ClassFile.FieldType.boolean)).before args0 about1 = true := code_word (m := ⟨2, 1⟩) (meth := k2m1) (c := k2c1) (by decide +kernel) rfl rfl rfl (by decide +kernel)
def codes1 : List Jvm.Cond := [Jvm.Cond.code x code maxLocals ret, Jvm.Cond.code ({ cls := "com/example/loudmark/loudmark/core/CsrcAudioLevelsIsSentIdPinLaw", name := "agrees", desc := "(I)Z" } : Jvm.MethodName) method_2_code (2 : Nat) (Option.some Jvm.ClassFile.FieldType.boolean), Jvm.Cond.code ({ cls := "com/example/loudmark/loudmark/core/CsrcAudioLevels", name := "isSentId", desc := "(I)Z" } : Jvm.MethodName) prog_19_method_2_code (1 : Nat) (Option.some Jvm.ClassFile.FieldType.boolean)]
set_option maxRecDepth 65536 in
theorem codes_eq : words1.filter isCode = codes1 := rfl
theorem w_codes : ∀ c ∈ words1.filter isCode, c.before args0 about1 = true := by
  rw [codes_eq]
  intro c hc
  simp only [codes1, List.mem_cons, List.not_mem_nil, or_false] at hc
  rcases hc with rfl | rfl | rfl
  · exact w_c0
  · exact w_c1
  · exact w_c2
set_option maxRecDepth 65536 in
theorem w_t1 : words1.all (fun c => isCode c || c.before args0 about1) = true := by decide +kernel
theorem w_tables : (allAtoms (Jvm.Cond.code x code maxLocals ret :: tables_1)).before args0 about1 = true := by
  rw [allAtoms_all]
  show words1.all (fun c => c.before args0 about1) = true
  refine all_split ?_ w_codes
  rw [w_t1]
set_option maxRecDepth 65536 in
theorem w_case : (Jvm.Cond.and given_1 narrow_1).before args0 about1 = true := by decide +kernel
theorem w_applies : (headSpec (Jvm.Cond.code x code maxLocals ret :: tables_1) room_1).applies x e0.platform about1 = true :=
  (Spec.applies_iff w_frames).mpr ⟨w_running, w_runnable, w_alone, w_named, w_hears, w_ripe, w_room, w_tables⟩
theorem atStart : AtStart classFile x code maxLocals ret World_1 tables_1 room_1 Calls_1 rest_1 Pre_1 launch0 p0 e0 about1 theMethod args0 below0 :=
  ⟨lists_1, trivial, launch0.admits_env _ _ _, launch0.least_env, fairChoices_fair.cas, fairChoices_fair.clock, w_frames, w_args, w_heap, w_applies, trivial, trivial, w_case⟩
end start1
theorem witness_1 : WitnessClaimed_1 := ⟨start1.p0, start1.e0, start1.about1, start1.theMethod, start1.args0, start1.below0, start1.atStart⟩
end Jvm.Pilot.@@N@@
