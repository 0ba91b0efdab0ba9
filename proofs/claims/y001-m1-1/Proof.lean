import JvmDerived
import JvmDerived.Pilot.@@N@@Statement
import JvmDerived.Pilot.@@N@@Code
set_option linter.unusedVariables false
set_option linter.unusedSimpArgs false
namespace Jvm.RoadKit
open Sem ClassFile Op Lib Jvm.Stand Jvm.Free Jvm.LawKit
section New
variable {p : Program} {l : Launch} {e : Env} {R : Room} {s : State} {m : MethodId} {args : Array Value} {below : List Frame} {meth : Method} {c : Code} {T : State} {locs : List Loc} {cells slots : Nat}
theorem retI (X : Stand p l e R s m args below meth c T locs cells slots) (hx : p.tables.exec = Jvm.exec) {pc : Nat} {Ls : Array Slot} {z : Int32} {rest : List Value} (hret : meth.sig.returnType = some .int) (hd : decode c.code pc = .ok (.ireturn, 1)) {fs : List Frame}
    (hl : ∀ (f : JFrame) (acts : List Action), f.method = m → f.locked = none → f.entered = [] → (doReturn e (T.setTop f) acts (some (.int z))).1 = T.setFrames fs) : Steps p.tables e below (T.setTop (mkF m pc Ls (.int z :: rest))) (T.setFrames fs) := by
  have hm' : T.vm.method? m = some meth := X.method'
  have hn : narrow .int (.int z) = .int z := rfl
  show Steps p.tables e below (T.setTop { method := m, pc := pc, locals := Ls, stack := _ :: rest, locked := none }) _
  jvm_step X.here [X.here.top, hx, hd, hm', hret, hn]
  first | (intro acts; rw [hl _ acts rfl rfl rfl]) | rw [hl _ _ rfl rfl rfl]
  exact Steps.refl _
end New
end Jvm.RoadKit
namespace Jvm.Pilot.@@N@@
open Jvm Jvm.ClassFile Sem Op Lib Jvm.Free Jvm.Stand Jvm.LawKit Jvm.RoadKit Bundle Jvm.Pilot.@@N@@.Jvm.D
/-- the run from a frame of this method ends in a return with Q -/
def Go (p : Program) (e : Env) (s : State) (below : List Frame) (kc ks : Nat) (Q : Option Value → Heap → List Loc → Prop) (T : State) (f : JFrame) : Prop :=
  ∃ s₂ o, Steps p.tables e below (T.setTop f) s₂ ∧ s₂.status = .running ∧ Ended s₂ below o ∧ ∃ v L, o = .returned v ∧ Q v s₂.heap L ∧ FrameEnd s o s₂ L kc ks
/-- what is known of the method that runs -/
def Cx (p : Program) (s : State) (m : MethodId) (meth : Method) (c : Code) (Z : State) (own nm : String) (code : ByteArray) (maxL : Nat) (ret : Option FieldType) : Prop :=
  p.tables.exec = Jvm.exec ∧ Z.Warmed39 s.vm ∧ c.code = code ∧ c.maxLocals = maxL ∧ s.vm.findClass own = some m.cls ∧ meth.name = nm ∧ meth.sig.returnType = ret ∧ meth.locks = false
/-- a contract -/
def Ctr (l : Launch) (Z : State) (y : MethodName) (bytes : ByteArray) (maxL : Nat) (ret : Option FieldType) (ws : List Jvm.Cond) (rm : Room) (kc ks : Nat) (as : Array Value) (h : Heap) (Q : Option Value → Heap → List Loc → Prop) : Prop :=
  MetFree l y (head1 (Jvm.Cond.code y bytes maxL ret :: ws) rm) (fun a U => a = as ∧ Z.Warmed39 U.vm ∧ U.heap = h) (fun _ _ _ _ _ => True) (fun _ U o U' => ∃ v L, o = .returned v ∧ Q v U'.heap L ∧ FrameEnd U o U' L kc ks)
def bi (P : Prop) [Decidable P] : Int32 := if P then 1 else 0
theorem bi_t {P : Prop} [Decidable P] (h : P) : bi P = 1 := if_pos h
theorem bi_f {P : Prop} [Decidable P] (h : ¬ P) : bi P = 0 := if_neg h
theorem bi_n {P : Prop} [Decidable P] (h : P) : ¬ bi P = 0 := by rw [bi_t h]; decide
theorem bi_1 {P : Prop} [Decidable P] : bi P = 1 ↔ P := by unfold bi; split <;> simp_all
theorem bi_0 {P : Prop} [Decidable P] : bi P = 0 ↔ ¬ P := by unfold bi; split <;> simp_all
theorem bi_eq {P P' : Prop} [Decidable P] [Decidable P'] : bi P = bi P' ↔ (P ↔ P') := by unfold bi; split <;> split <;> simp_all
theorem bi_congr {P P' : Prop} [Decidable P] [Decidable P'] (h : P ↔ P') : bi P = bi P' := bi_eq.mpr h
theorem bi_fits {P : Prop} [Decidable P] : fits .boolean (.int (bi P)) = true := by unfold bi; split <;> rfl
theorem bi_nar {P : Prop} [Decidable P] : nar .boolean (bi P) = bi P := by unfold bi; split <;> rfl
section Own
variable {p : Program} {l : Launch} {e : Env} {R : Room} {s : State} {m : MethodId} {args : Array Value} {below : List Frame} {meth : Method} {c : Code} {T : State} {locs : List Loc} {cells slots kc ks : Nat} {Q : Option Value → Heap → List Loc → Prop} {Z : State} {a0 : Array Value} {h : Heap}
theorem Go.step {T' : State} {f f' : JFrame} (st : ∀ t, Steps p.tables e below (T'.setTop f') t → Steps p.tables e below (T.setTop f) t) (k : Go p e s below kc ks Q T' f') : Go p e s below kc ks Q T f := by
  obtain ⟨s₂, o, h1, r⟩ := k; exact ⟨s₂, o, st _ h1, r⟩
theorem Go.mono {Q' : Option Value → Heap → List Loc → Prop} {f : JFrame} (k : Go p e s below kc ks Q T f) (h : ∀ v h L, Q v h L → Q' v h L) : Go p e s below kc ks Q' T f := by
  obtain ⟨s₂, o, h1, h2, h3, v, L, h4, h5, h6⟩ := k; exact ⟨s₂, o, h1, h2, h3, v, L, h4, h _ _ _ h5, h6⟩
theorem Ctr.mk {y : MethodName} {bytes : ByteArray} {maxL : Nat} {ret : Option FieldType} {ws : List Jvm.Cond} {rm : Room} {as : Array Value} (hp : plainFor y = true)
    (hgo : ∀ (p : Program) (e : Env) (s : State) (m : MethodId) (below : List Frame) (meth : Method) (c : Code) (s₁ : State), Stand p l e rm s m as below meth c s₁ [] 0 0 → Cx p s m meth c Z y.cls y.name bytes maxL ret → s₁.heap = h → Go p e s below kc ks Q s₁ (entryFrame m as maxL)) :
    Ctr l Z y bytes maxL ret ws rm kc ks as h Q := by
  refine MetFree.of_bodySF hp hisR ?_
  intro p e s m args below meth c s₁ Bd hml0 hP hK
  obtain ⟨rfl, hZ, hh⟩ := hP
  exact hgo p e s m below meth c s₁ (Stand.of_body Bd) ⟨Bd.exec, hZ, Bd.bytes, hml0, findClass_of_methodNamed Bd.named, (name_of_methodNamed Bd.named Bd.method).1, Bd.returns, Bd.notSynchronized⟩ (by rw [← hh, Bd.state]; rfl)
theorem go_cast {f f' : JFrame} (q : f = f') (k : Go p e s below kc ks Q T f') : Go p e s below kc ks Q T f := q ▸ k
theorem go_retI (X : Stand p l e R s m args below meth c T locs cells slots) (hx : p.tables.exec = Jvm.exec) (hret : meth.sig.returnType = some .int) (hlk : meth.locks = false) {pc : Nat} {Ls : Array Slot} {z : Int32} {rest : List Value} (hd : decode c.code pc = .ok (.ireturn, 1))
    (hQ : Q (some (.int z)) T.heap locs) (hc : cells ≤ kc) (hs : slots ≤ ks) : Go p e s below kc ks Q T (mkF m pc Ls (.int z :: rest)) := by
  obtain ⟨fs, hr, hrun, hended, hW, hsame⟩ := X.leave (v := some (.int z)) (fun h => by rw [hret] at h; cases h) hlk
  exact ⟨_, _, retI X hx hret hd hr, hrun, hended, _, _, rfl, hQ, ⟨_, rfl⟩, hW, hsame.mono hc hs⟩
theorem go_retN (X : Stand p l e R s m args below meth c T locs cells slots) (hx : p.tables.exec = Jvm.exec) {t : FieldType} (hret : meth.sig.returnType = some t) (ht : t = .boolean ∨ t = .byte ∨ t = .char ∨ t = .short) (hlk : meth.locks = false) {pc : Nat} {Ls : Array Slot} {z w : Int32} {rest : List Value} (hd : decode c.code pc = .ok (.ireturn, 1))
    (hz : nar t z = w) (hQ : Q (some (.int w)) T.heap locs) (hc : cells ≤ kc) (hs : slots ≤ ks) : Go p e s below kc ks Q T (mkF m pc Ls (.int z :: rest)) := by
  subst hz
  obtain ⟨fs, hr, hrun, hended, hW, hsame⟩ := X.leave (v := some (.int (nar t z))) (fun h => by rw [hret] at h; cases h) hlk
  exact ⟨_, _, retN X hx hret ht hd hr, hrun, hended, _, _, rfl, hQ, ⟨_, rfl⟩, hW, hsame.mono hc hs⟩
theorem go_retJ (X : Stand p l e R s m args below meth c T locs cells slots) (hx : p.tables.exec = Jvm.exec) (hret : meth.sig.returnType = some .long) (hlk : meth.locks = false) {pc : Nat} {Ls : Array Slot} {z : Int64} (hd : decode c.code pc = .ok (.lreturn, 1))
    (hQ : Q (some (.long z)) T.heap locs) (hc : cells ≤ kc) (hs : slots ≤ ks) : Go p e s below kc ks Q T (mkF m pc Ls [.long z]) := by
  obtain ⟨fs, hr, hrun, hended, hW, hsame⟩ := X.leave (v := some (.long z)) (fun h => by rw [hret] at h; cases h) hlk
  exact ⟨_, _, X.lreturnOut hx hret hd hr, hrun, hended, _, _, rfl, hQ, ⟨_, rfl⟩, hW, hsame.mono hc hs⟩
theorem go_retA (X : Stand p l e R s m args below meth c T locs cells slots) (hx : p.tables.exec = Jvm.exec) {t : FieldType} (hret : meth.sig.returnType = some t) (ht : t.isReference = true) (hlk : meth.locks = false) {pc : Nat} {Ls : Array Slot} {w : Value} {rest : List Value} (hw : w.isRef = true) (hd : decode c.code pc = .ok (.areturn, 1))
    (hQ : Q (some w) T.heap locs) (hc : cells ≤ kc) (hs : slots ≤ ks) : Go p e s below kc ks Q T (mkF m pc Ls (w :: rest)) := by
  obtain ⟨fs, hr, hrun, hended, hW, hsame⟩ := X.leave (v := some w) (fun h => by rw [hret] at h; cases h) hlk
  have hn : narrow t w = w := by cases t <;> first | rfl | simp [FieldType.isReference] at ht
  exact ⟨_, _, retOut X hx hret hn (Or.inr (Or.inr (Or.inr (Or.inr ⟨rfl, ht, hw⟩)))) hd hr, hrun, hended, _, _, rfl, hQ, ⟨_, rfl⟩, hW, hsame.mono hc hs⟩
theorem go_ret (X : Stand p l e R s m args below meth c T locs cells slots) (hx : p.tables.exec = Jvm.exec) (hret : meth.sig.returnType = none) (hlk : meth.locks = false) {pc : Nat} {Ls : Array Slot} (hd : decode c.code pc = .ok (.return_, 1))
    (hQ : Q none T.heap locs) (hc : cells ≤ kc) (hs : slots ≤ ks) : Go p e s below kc ks Q T (mkF m pc Ls []) := by
  obtain ⟨fs, hr, hrun, hended, hW, hsame⟩ := X.leave (v := none) (fun _ => rfl) hlk
  exact ⟨_, _, X.returnOut hx hret hd hr, hrun, hended, _, _, rfl, hQ, ⟨_, rfl⟩, hW, hsame.mono hc hs⟩
/-! calls by a contract -/
section Calls
variable {own : String} {index : Nat} {y : MethodName} {bytes : ByteArray} {maxL : Nat} {ret r : Option FieldType} {rm : Room} {Qc : Option Value → Heap → List Loc → Prop} {argsL rest : List Value} {ps : List FieldType} {pc W : Nat} {Ls : Array Slot} {a : Addr}
theorem c_static (X : Stand p l e R s m args below meth c T locs cells slots) (hx : p.tables.exec = Jvm.exec) (hZ : Z.Warmed39 s.vm) (hown : s.vm.findClass own = some m.cls)
    (w1 : (Jvm.Cond.methodLink own index y).before a0 Z = true) (w2 : (Jvm.Cond.static y).before a0 Z = true) (w3 : (Jvm.Cond.initialized y.cls).before a0 Z = true) (w4 : (Jvm.Cond.code y bytes maxL ret).before a0 Z = true) (hy : y.cls ≠ "java/lang/invoke/MethodHandle" ∧ y.cls ≠ "java/lang/invoke/VarHandle")
    (hC : Ctr l Z y bytes maxL ret [] rm rm.cells rm.slots argsL.toArray h Qc) (eT : T.heap = h) (hpd : parseMethodDescriptor y.desc = some ⟨ps, r⟩) (hlen : argsL.length = ps.length) (hsz : Ls.size = c.maxLocals) (hW : 2 * 0 + (rest.map fun v => v.category).sum ≤ W)
    (hf : rm.frames + 1 ≤ R.frames) (hl : W + (maxL + 11) + rm.locals ≤ R.locals) (hc : cells + rm.cells ≤ R.cells) (hs : slots + rm.slots ≤ R.slots) (hd : decode c.code pc = .ok (.invokestatic index, 3)) :
    ∃ (v : Option Value) (T' : State) (L : List Loc), Stand p l e R s m args below meth c T' (locs ++ L) (cells + rm.cells) (slots + rm.slots) ∧ Qc v T'.heap L ∧
      ∀ t, Steps p.tables e below (T'.setTop (mkF m (pc + 3) Ls (v.toList ++ rest))) t → Steps p.tables e below (T.setTop (mkF m pc Ls (argsL.reverse ++ rest))) t := by
  obtain ⟨v, _, ⟨T', L', k', n'⟩, -, X', ⟨L, hQ, rfl, rfl, rfl⟩, st⟩ := Jvm.LawKit.callS X hx (y := y) hown (mvT hZ w1) (mvT hZ w2) (mvT hZ w3) (mvT hZ w4) hy (backOf (W := W) hC hZ w4 w3 hf hl) (g := mkF m pc Ls (argsL.reverse ++ rest)) rfl hsz (argsL := argsL) (rest := rest) (lenOf hpd hlen) rfl hW hd (fun _ _ => ⟨rfl, eT, hc, hs⟩)
  exact ⟨v, T', L, X', hQ, st⟩
theorem c_init (X : Stand p l e R s m args below meth c T locs cells slots) (hx : p.tables.exec = Jvm.exec) (hZ : Z.Warmed39 s.vm) (hown : s.vm.findClass own = some m.cls)
    (w1 : (Jvm.Cond.methodLink own index y).before a0 Z = true) (w2 : (Jvm.Cond.instanceMethod y).before a0 Z = true) (w3 : (Jvm.Cond.initialized y.cls).before a0 Z = true) (w4 : (Jvm.Cond.code y bytes maxL none).before a0 Z = true) (hn : y.name = "<init>") (hy : y.cls ≠ "java/lang/invoke/MethodHandle" ∧ y.cls ≠ "java/lang/invoke/VarHandle")
    (hC : Ctr l Z y bytes maxL none [] rm rm.cells rm.slots (.ref a :: argsL).toArray h Qc) (eT : T.heap = h) (hpd : parseMethodDescriptor y.desc = some ⟨ps, r⟩) (hlen : argsL.length = ps.length) (hsz : Ls.size = c.maxLocals) (hW : 2 * 0 + (rest.map fun v => v.category).sum ≤ W)
    (hf : rm.frames + 1 ≤ R.frames) (hl : W + (maxL + 11) + rm.locals ≤ R.locals) (hc : cells + rm.cells ≤ R.cells) (hs : slots + rm.slots ≤ R.slots) (hd : decode c.code pc = .ok (.invokespecial index, 3)) :
    ∃ (v : Option Value) (T' : State) (L : List Loc), Stand p l e R s m args below meth c T' (locs ++ L) (cells + rm.cells) (slots + rm.slots) ∧ Qc v T'.heap L ∧
      ∀ t, Steps p.tables e below (T'.setTop (mkF m (pc + 3) Ls (v.toList ++ rest))) t → Steps p.tables e below (T.setTop (mkF m pc Ls (argsL.reverse ++ .ref a :: rest))) t := by
  obtain ⟨v, _, ⟨T', L', k', n'⟩, -, X', ⟨L, hQ, rfl, rfl, rfl⟩, st⟩ := X.specialBack hx (y := y) hn hown (mvT hZ w1) (mvT hZ w2) (mvT hZ w4) hy (backOf (W := W) hC hZ w4 w3 hf hl) (g := mkF m pc Ls (argsL.reverse ++ .ref a :: rest)) rfl hsz (Steps.refl _) (a := a) (argsL := argsL) (rest := rest) (lenOf hpd hlen) rfl hW hd (fun _ _ => ⟨rfl, eT, hc, hs⟩)
  exact ⟨v, T', L, X', hQ, fun t k => st.trans k⟩
theorem c_virt {y' : MethodName} {C : String} (X : Stand p l e R s m args below meth c T locs cells slots) (hx : p.tables.exec = Jvm.exec) (hZ : Z.Warmed39 s.vm) (hown : s.vm.findClass own = some m.cls)
    (w1 : (Jvm.Cond.methodLink own index y').before a0 Z = true) (wd : (Jvm.Cond.declares y').before a0 Z = true) (nf : NotFace s y') (ws : (Jvm.Cond.selects C y' y).before a0 Z = true) (w2 : (Jvm.Cond.instanceMethod y).before a0 Z = true) (w3 : (Jvm.Cond.initialized y.cls).before a0 Z = true) (w4 : (Jvm.Cond.code y bytes maxL ret).before a0 Z = true) (hy : y'.cls ≠ "java/lang/invoke/MethodHandle" ∧ y'.cls ≠ "java/lang/invoke/VarHandle")
    (hC : Ctr l Z y bytes maxL ret [] rm rm.cells rm.slots (.ref a :: argsL).toArray h Qc) (eT : T.heap = h) (E : Exa Z h a C) (hpd : parseMethodDescriptor y'.desc = some ⟨ps, r⟩) (hlen : argsL.length = ps.length) (hsz : Ls.size = c.maxLocals) (hW : 2 * 0 + (rest.map fun v => v.category).sum ≤ W)
    (hf : rm.frames + 1 ≤ R.frames) (hl : W + (maxL + 11) + rm.locals ≤ R.locals) (hc : cells + rm.cells ≤ R.cells) (hs : slots + rm.slots ≤ R.slots) (hd : decode c.code pc = .ok (.invokevirtual index, 3)) :
    ∃ (v : Option Value) (T' : State) (L : List Loc), Stand p l e R s m args below meth c T' (locs ++ L) (cells + rm.cells) (slots + rm.slots) ∧ Qc v T'.heap L ∧
      ∀ t, Steps p.tables e below (T'.setTop (mkF m (pc + 3) Ls (v.toList ++ rest))) t → Steps p.tables e below (T.setTop (mkF m pc Ls (argsL.reverse ++ .ref a :: rest))) t := by
  obtain ⟨cq, kq, qa, qb, qc⟩ := isOf hZ eT E
  obtain ⟨v, _, ⟨T', L', k', n'⟩, -, X', ⟨L, hQ, rfl, rfl, rfl⟩, st⟩ := X.virtualBack hx (y := y') (z := y) hown (mvT hZ w1) (mvT hZ wd) nf (mvT hZ ws) (mvT hZ w2) hy (backOf (W := W) hC hZ w4 w3 hf hl) qa qc (g := mkF m pc Ls (argsL.reverse ++ .ref a :: rest)) rfl hsz (Steps.refl _) (argsL := argsL) (rest := rest) (lenOf hpd hlen) rfl hW hd (fun _ _ => ⟨rfl, eT, hc, hs⟩)
  exact ⟨v, T', L, X', hQ, fun t k => st.trans k⟩
theorem own_nf {y' z : MethodName} {C : String} {as : Array Value} (ws : (Jvm.Cond.selects C y' z).before as s = true) (h : z.cls = y.cls) : NotFace s y := fun r0 h0 => by
  obtain ⟨_, _, m2, -, -, q3, -, kP, hkP, hkPi⟩ := Cond.selects_spec ws
  have e1 := findClass_of_methodNamed q3
  rw [h] at e1
  have e2 : m2.cls = r0.cls := Option.some.inj (e1.symm.trans (findClass_of_methodNamed h0))
  exact ⟨kP, e2 ▸ hkP, hkPi⟩
/-- a private method of an object, by invokevirtual: its class isn't an interface (nf) -/
theorem c_priv {C : String} (X : Stand p l e R s m args below meth c T locs cells slots) (hx : p.tables.exec = Jvm.exec) (hZ : Z.Warmed39 s.vm) (hown : s.vm.findClass own = some m.cls)
    (w1 : (Jvm.Cond.methodLink own index y).before a0 Z = true) (w2 : (Jvm.Cond.instanceMethod y).before a0 Z = true) (nf : NotFace s y) (wp : (Jvm.Cond.privateMethod y).before a0 Z = true) (w3 : (Jvm.Cond.initialized y.cls).before a0 Z = true) (w4 : (Jvm.Cond.code y bytes maxL ret).before a0 Z = true) (hy : y.cls ≠ "java/lang/invoke/MethodHandle" ∧ y.cls ≠ "java/lang/invoke/VarHandle")
    (hC : Ctr l Z y bytes maxL ret [] rm rm.cells rm.slots (.ref a :: argsL).toArray h Qc) (eT : T.heap = h) (E : Exa Z h a C) (hpd : parseMethodDescriptor y.desc = some ⟨ps, r⟩) (hlen : argsL.length = ps.length) (hsz : Ls.size = c.maxLocals) (hW : 2 * 0 + (rest.map fun v => v.category).sum ≤ W)
    (hf : rm.frames + 1 ≤ R.frames) (hl : W + (maxL + 11) + rm.locals ≤ R.locals) (hc : cells + rm.cells ≤ R.cells) (hs : slots + rm.slots ≤ R.slots) (hd : decode c.code pc = .ok (.invokevirtual index, 3)) :
    ∃ (v : Option Value) (T' : State) (L : List Loc), Stand p l e R s m args below meth c T' (locs ++ L) (cells + rm.cells) (slots + rm.slots) ∧ Qc v T'.heap L ∧
      ∀ t, Steps p.tables e below (T'.setTop (mkF m (pc + 3) Ls (v.toList ++ rest))) t → Steps p.tables e below (T.setTop (mkF m pc Ls (argsL.reverse ++ .ref a :: rest))) t := by
  obtain ⟨cq, qa, qb⟩ := E.cell
  obtain ⟨mk, methM, hnamed, hmethM, hstM, habM⟩ := Cond.instanceMethod_spec (mvT (args := args) hZ w2)
  obtain ⟨methM', cM, hmethM', -, -, -, -, -, -, hsigM⟩ := Cond.code_spec hnamed (mvT (args := args) hZ w4)
  cases hmethM.symm.trans hmethM'
  obtain ⟨kP, hkP, hkPi⟩ := nf mk hnamed
  have hsel : selectMethod e.platform s.vm cq.cls mk = .method mk := selectMethod_private hmethM ((Cond.privateMethod_at (mvP hZ wp (args := #[]))) mk methM hnamed hmethM)
  obtain ⟨vm₁, X₁, hst⟩ := X.invokevirtual hx hown (mvT hZ w1) hnamed hmethM hstM hkP hkPi hy (a := a) (cell := cq) (by rw [eT]; exact qa) qb hsel hmethM habM hkP hkPi (g := mkF m pc Ls (argsL.reverse ++ .ref a :: rest)) rfl (argsL := argsL) (rest := rest) (lenOf hpd hlen _ hsigM) rfl hd
  obtain ⟨v, ⟨T', L', k', n'⟩, X', ⟨L, hQ, rfl, rfl, rfl⟩, hgo⟩ := (backOf (W := W) (len := 3) hC hZ w4 w3 hf hl) m meth c ⟨T.setVm vm₁, locs, cells, slots⟩ (mkF m pc Ls rest) (.invokevirtual index) mk (.ref a :: argsL).toArray X₁ rfl hsz hd hW (X₁.named hnamed) ⟨rfl, eT, hc, hs⟩
  exact ⟨v, T', L, X', hQ, fun t k => ((hst _ fun acts => by rw [doInvoke_state]; exact Steps.refl _).trans hgo).trans k⟩
/-- invokevirtual of a method that a class above the one that the entry names declares -/
theorem c_virtUp {y' : MethodName} {C owner : String} (X : Stand p l e R s m args below meth c T locs cells slots) (hx : p.tables.exec = Jvm.exec) (hZ : Z.Warmed39 s.vm) (hown : s.vm.findClass own = some m.cls)
    (w1 : (Jvm.Cond.methodLink own index y').before a0 Z = true) (wm : (Jvm.Cond.sameMethod y'.cls owner y'.name y'.desc).before a0 Z = true) (wd : (Jvm.Cond.declares ⟨owner, y'.name, y'.desc⟩).before a0 Z = true) (ws : (Jvm.Cond.selects C y' y).before a0 Z = true) (w2 : (Jvm.Cond.instanceMethod y).before a0 Z = true) (w3 : (Jvm.Cond.initialized y.cls).before a0 Z = true) (w4 : (Jvm.Cond.code y bytes maxL ret).before a0 Z = true) (hy : owner ≠ "java/lang/invoke/MethodHandle" ∧ owner ≠ "java/lang/invoke/VarHandle")
    (hC : Ctr l Z y bytes maxL ret [] rm rm.cells rm.slots (.ref a :: argsL).toArray h Qc) (eT : T.heap = h) (E : Exa Z h a C) (hpd : parseMethodDescriptor y'.desc = some ⟨ps, r⟩) (hlen : argsL.length = ps.length) (hsz : Ls.size = c.maxLocals) (hW : 2 * 0 + (rest.map fun v => v.category).sum ≤ W)
    (hf : rm.frames + 1 ≤ R.frames) (hl : W + (maxL + 11) + rm.locals ≤ R.locals) (hc : cells + rm.cells ≤ R.cells) (hs : slots + rm.slots ≤ R.slots) (hd : decode c.code pc = .ok (.invokevirtual index, 3)) :
    ∃ (v : Option Value) (T' : State) (L : List Loc), Stand p l e R s m args below meth c T' (locs ++ L) (cells + rm.cells) (slots + rm.slots) ∧ Qc v T'.heap L ∧
      ∀ t, Steps p.tables e below (T'.setTop (mkF m (pc + 3) Ls (v.toList ++ rest))) t → Steps p.tables e below (T.setTop (mkF m pc Ls (argsL.reverse ++ .ref a :: rest))) t := by
  obtain ⟨cq, kq, qa, qb, qc⟩ := isOf hZ eT E
  obtain ⟨v, _, ⟨T', L', k', n'⟩, -, X', ⟨L, hQ, rfl, rfl, rfl⟩, st⟩ := X.virtualBackUp hx (x := y') (y := y) hown (mvT hZ w1) (mvT hZ wm) (mvT hZ wd) hy (mvT hZ ws) (mvT hZ w2) (backOf (W := W) hC hZ w4 w3 hf hl) qa qc (g := mkF m pc Ls (argsL.reverse ++ .ref a :: rest)) rfl hsz (Steps.refl _) (argsL := argsL) (rest := rest) (lenOf hpd hlen) rfl hW hd (fun _ _ => ⟨rfl, eT, hc, hs⟩)
  exact ⟨v, T', L, X', hQ, fun t k => st.trans k⟩
end Calls
end Own
/-! arrays by a function of the place -/
def upd (f : Nat → Value) (k : Nat) (v : Value) : Nat → Value := fun i => if i = k then v else f i
def lst (L : List Value) : Nat → Value := fun i => L.getD i .null
theorem upd_eq {f : Nat → Value} {k : Nat} {v : Value} : upd f k v k = v := if_pos rfl
theorem upd_ne {f : Nat → Value} {k i : Nat} {v : Value} (h : i ≠ k) : upd f k v i = f i := if_neg h
def AV (Z : State) (h : Heap) (a : Addr) (ty : FieldType) (n : Nat) (f : Nat → Value) : Prop := ∃ c : Cell, Arr Z h a c ty ∧ c.slots.size = n ∧ n < 2147483648 ∧ ∀ i, i < n → c.slots[i]? = some (f i)
section Arrays
variable {Z : State} {h h' : Heap} {a b : Addr} {ty : FieldType} {n k : Nat} {f g : Nat → Value} {v w : Value} {j : Int32} {ws : List Addr} {sl : Nat}
theorem AV.lt (A : AV Z h a ty n f) : a < h.size := by obtain ⟨c, A, -⟩ := A; exact A.lt
theorem AV.ext (A : AV Z h a ty n f) (E : Ext h h') : AV Z h' a ty n f := by obtain ⟨c, A, r⟩ := A; exact ⟨c, A.ext E, r⟩
theorem AV.other (A : AV Z h b ty n f) (W : Wr h h' a sl v) (q : b ≠ a) : AV Z h' b ty n f := by obtain ⟨c, A, r⟩ := A; exact ⟨c, A.other W q, r⟩
theorem AV.keep (A : AV Z h a ty n f) (K : Keep h h' ws) (q : a ∉ ws) : AV Z h' a ty n f := by obtain ⟨c, A, r⟩ := A; exact ⟨c, ⟨K.2.1 a c A.1 q, A.2⟩, r⟩
theorem AV.congr (A : AV Z h a ty n f) (q : ∀ i, i < n → f i = g i) : AV Z h a ty n g := by obtain ⟨c, A, r1, r2, r3⟩ := A; exact ⟨c, A, r1, r2, fun i hi => by rw [r3 i hi, q i hi]⟩
theorem AV.bound (A : AV Z h a ty n f) : n < 2147483648 := by obtain ⟨c, A, r1, r2, r3⟩ := A; exact r2
theorem clamp_of (hj : j.toInt = (k : Int)) : j.toNatClampNeg = k := by show j.toInt.toNat = k; rw [hj]; rfl
theorem in_of {c : Cell} (hj : j.toInt = (k : Int)) (hs : c.slots.size = n) (hk : k < n) : ¬ (j < 0 ∨ c.slots.size ≤ j.toNatClampNeg) := by
  rw [clamp_of hj, hs, Int32.lt_iff_toInt_lt, hj]; simp only [Int32.reduceToInt]; omega
theorem AV.new {cA : ClassId} {z : Int32} (A : Arr Z h a (newA cA ty z) ty) (hz : z.toInt = (n : Int)) : AV Z h a ty n (fun _ => defaultValue ty) := by
  have q := clamp_of hz
  have hb := Int32.toInt_lt z
  refine ⟨_, A, by rw [sz_new]; exact q, by omega, fun i hi => ?_⟩
  have hi' : i < z.toNatClampNeg := by rw [q]; exact hi
  simp [newA, hi']
theorem AV.at (A : AV Z h a ty n f) (hj : j.toInt = (k : Int)) (hk : k < n) : ∃ cl : Cell, Arr Z h a cl ty ∧ ¬ (j < 0 ∨ cl.slots.size ≤ j.toNatClampNeg) ∧ cl.slots[j.toNatClampNeg]? = some (f k) := by
  obtain ⟨c, A, r1, r2, r3⟩ := A
  exact ⟨c, A, in_of hj r1 hk, by rw [clamp_of hj]; exact r3 k hk⟩
theorem AV.set (A : AV Z h a ty n f) (hj : j.toInt = (k : Int)) (hk : k < n) (W : Wr h h' a j.toNatClampNeg v) : AV Z h' a ty n (upd f k v) := by
  obtain ⟨c, A, r1, r2, r3⟩ := A
  refine ⟨_, A.same W, by rw [sz_set]; exact r1, r2, fun i hi => ?_⟩
  rw [clamp_of hj]
  by_cases e : i = k
  · subst e; simp [Cell.setSlot, r1, hi, upd]
  · rw [upd_ne e, ← r3 i hi]; exact Array.getElem?_setIfInBounds_ne (Ne.symm e)
theorem AV.setL {L L' : List Value} (A : AV Z h a ty n (lst L)) (hj : j.toInt = (k : Int)) (hk : k < n) (W : Wr h h' a j.toNatClampNeg v) (hl : k < L.length) (e : L.set k v = L') : AV Z h' a ty n (lst L') := by
  subst e
  refine (A.set hj hk W).congr fun i hi => ?_
  by_cases q : i = k
  · subst q; simp [upd, lst, List.getD_eq_getElem?_getD, hl]
  · rw [upd_ne q]; simp [lst, List.getD_eq_getElem?_getD, List.getElem?_set_ne (Ne.symm q)]
theorem AV.newL {L : List Value} (A : AV Z h a ty n (fun _ => v)) (e : L = List.replicate n v) : AV Z h a ty n (lst L) := by
  subst e; refine A.congr fun i hi => ?_
  simp [lst, List.getD_eq_getElem?_getD, List.getElem?_replicate, hi]
theorem AV.len (A : AV Z h a ty n f) : ∃ cl : Cell, Arr Z h a cl ty ∧ cl.slots.size.toInt32 = Int32.ofNat n := by
  obtain ⟨c, A, r1, r2, r3⟩ := A; exact ⟨c, A, by rw [r1]⟩
theorem own_cls {cA : ClassId} {z : Int32} {ad : String} (A : Arr Z h a (newA cA ty z) ty) (E : Exa Z h a ad) : Z.vm.findClass ad = some cA := by
  obtain ⟨cell, k, e1, e2, -⟩ := E
  cases A.1.symm.trans e1
  exact e2
theorem own_sto {cA : ClassId} {cl : Cell} {ad C : String} {y : Addr} (A : Arr Z h a cl ty) (E : Exa Z h a ad) (hA : Z.vm.findClass ad = some cA) (O : Ovr Z cA C) (I : Ins Z h y C true) : Sto Z h a (.ref y) := by
  obtain ⟨cell, k, e1, e2, -⟩ := E
  cases A.1.symm.trans e1
  have q : cl.cls = cA := Option.some.inj (e2.symm.trans hA)
  exact Sto.of A (q ▸ O) I
theorem own_sta_keep {C n' d : String} (F : Sta Z h C n' d v) (K : Keep h h' []) : Sta Z h' C n' d v := by
  obtain ⟨cf, i, k, f, st, cell, h1, h2, h3, h4, h5, h6, h7⟩ := F
  exact ⟨cf, i, k, f, st, cell, h1, h2, h3, h4, K.2.1 _ _ h5 (fun q => nomatch q), h6, h7⟩
end Arrays
section ASteps
variable {p : Program} {l : Launch} {e : Env} {R : Room} {s : State} {m : MethodId} {args : Array Value} {below : List Frame} {meth : Method} {c : Code} {T : State} {locs : List Loc} {cells slots : Nat} {Z : State} {a0 : Array Value} {h : Heap} {a : Addr} {n k pc : Nat} {f : Nat → Value} {j : Int32} {Ls : Array Slot} {rest : List Value}
theorem a_iload (X : Stand p l e R s m args below meth c T locs cells slots) (hx : p.tables.exec = Jvm.exec) (hZ : Z.Warmed39 s.vm) (eT : T.heap = h) (A : AV Z h a .int n f) (hj : j.toInt = (k : Int)) (hk : k < n) {x : Int32} (hv : f k = .int x) (hd : decode c.code pc = .ok (.iaload, 1)) :
    ∀ t, Steps p.tables e below (T.setTop (mkF m (pc + 1) Ls (.int x :: rest))) t → Steps p.tables e below (T.setTop (mkF m pc Ls (.int j :: .ref a :: rest))) t := by
  obtain ⟨cl, A, hin, hat⟩ := A.at hj hk
  rw [hv] at hat
  exact X.iaload hx (j := j) (v := .int x) (by rw [eT]; exact A.1) (State.isArrayOf_alike hZ.alike A.2.1) A.2.2 hin hat (g := mkF m pc Ls (.int j :: .ref a :: rest)) rfl rfl hd
theorem a_cload (X : Stand p l e R s m args below meth c T locs cells slots) (hx : p.tables.exec = Jvm.exec) (hZ : Z.Warmed39 s.vm) (eT : T.heap = h) (A : AV Z h a .char n f) (hj : j.toInt = (k : Int)) (hk : k < n) {x : Int32} (hv : f k = .int x) (hd : decode c.code pc = .ok (.caload, 1)) :
    ∀ t, Steps p.tables e below (T.setTop (mkF m (pc + 1) Ls (.int x :: rest))) t → Steps p.tables e below (T.setTop (mkF m pc Ls (.int j :: .ref a :: rest))) t := by
  obtain ⟨cl, A, hin, hat⟩ := A.at hj hk
  rw [hv] at hat
  exact X.caload hx (j := j) (v := .int x) (by rw [eT]; exact A.1) (State.isArrayOf_alike hZ.alike A.2.1) A.2.2 hin hat (g := mkF m pc Ls (.int j :: .ref a :: rest)) rfl rfl hd
theorem a_bload (X : Stand p l e R s m args below meth c T locs cells slots) (hx : p.tables.exec = Jvm.exec) (hZ : Z.Warmed39 s.vm) (eT : T.heap = h) (A : AV Z h a .byte n f) (hj : j.toInt = (k : Int)) (hk : k < n) {x : Int32} (hv : f k = .int x) (hd : decode c.code pc = .ok (.baload, 1)) :
    ∀ t, Steps p.tables e below (T.setTop (mkF m (pc + 1) Ls (.int x :: rest))) t → Steps p.tables e below (T.setTop (mkF m pc Ls (.int j :: .ref a :: rest))) t := by
  obtain ⟨cl, A, hin, hat⟩ := A.at hj hk
  rw [hv] at hat
  exact X.baloadBytes hx (j := j) (v := .int x) (by rw [eT]; exact A.1) (State.isArrayOf_alike hZ.alike A.2.1) A.2.2 hin hat (g := mkF m pc Ls (.int j :: .ref a :: rest)) rfl rfl hd
theorem a_jload (X : Stand p l e R s m args below meth c T locs cells slots) (hx : p.tables.exec = Jvm.exec) (hZ : Z.Warmed39 s.vm) (eT : T.heap = h) (A : AV Z h a .long n f) (hj : j.toInt = (k : Int)) (hk : k < n) {x : Int64} (hv : f k = .long x) (hd : decode c.code pc = .ok (.laload, 1)) :
    ∀ t, Steps p.tables e below (T.setTop (mkF m (pc + 1) Ls (.long x :: rest))) t → Steps p.tables e below (T.setTop (mkF m pc Ls (.int j :: .ref a :: rest))) t := by
  obtain ⟨cl, A, hin, hat⟩ := A.at hj hk
  rw [hv] at hat
  exact X.laload hx (j := j) (v := .long x) (by rw [eT]; exact A.1) (State.isArrayOf_alike hZ.alike A.2.1) A.2.2 hin hat (g := mkF m pc Ls (.int j :: .ref a :: rest)) rfl rfl hd
theorem a_rload {ty : FieldType} (X : Stand p l e R s m args below meth c T locs cells slots) (hx : p.tables.exec = Jvm.exec) (hZ : Z.Warmed39 s.vm) (eT : T.heap = h) (A : AV Z h a ty n f) (ht : ty.isReference = true) (hj : j.toInt = (k : Int)) (hk : k < n) {v : Value} (hv : f k = v) (hd : decode c.code pc = .ok (.aaload, 1)) :
    ∀ t, Steps p.tables e below (T.setTop (mkF m (pc + 1) Ls (v :: rest))) t → Steps p.tables e below (T.setTop (mkF m pc Ls (.int j :: .ref a :: rest))) t := by
  obtain ⟨cl, A, hin, hat⟩ := A.at hj hk
  rw [hv] at hat
  exact X.aaload hx (j := j) (v := v) (by rw [eT]; exact A.1) (State.isArrayOf_alike hZ.alike A.2.1) ht A.2.2 hin hat (g := mkF m pc Ls (.int j :: .ref a :: rest)) rfl rfl hd
theorem a_len {ty : FieldType} (X : Stand p l e R s m args below meth c T locs cells slots) (hx : p.tables.exec = Jvm.exec) (hZ : Z.Warmed39 s.vm) (eT : T.heap = h) (A : AV Z h a ty n f) {z : Int32} (hz : z.toInt = (n : Int)) (hd : decode c.code pc = .ok (.arraylength, 1)) :
    ∀ t, Steps p.tables e below (T.setTop (mkF m (pc + 1) Ls (.int z :: rest))) t → Steps p.tables e below (T.setTop (mkF m pc Ls (.ref a :: rest))) t := by
  obtain ⟨cl, A, hin⟩ := A.len
  have hb := Int32.toInt_lt z
  have q : cl.slots.size.toInt32 = z := by rw [hin]; exact Int32.toInt_inj.mp (by rw [hz]; exact Int32.toInt_ofNat_of_lt (by omega))
  intro t k
  refine X.arraylength hx (by rw [eT]; exact A.1) (State.isArrayOf_alike hZ.alike A.2.1) (g := mkF m pc Ls (.ref a :: rest)) rfl rfl hd _ ?_
  rw [q]; exact k
end ASteps
theorem own_c (x : Int32) : ∃ n : Nat, 1 ≤ n ∧ n ≤ 4 ∧ ((x &&& (3 : Int32)) + (1 : Int32)) = Int32.ofNat n := by
  have h1 := c_mask x 3 2 (by decide) (by decide)
  have h2 := c_iadd (x &&& 3) 1; have h3 := rng32 ((x &&& 3) + 1)
  simp only [Int32.reduceToInt] at *
  refine ⟨((x &&& 3) + 1).toInt.toNat, by omega, by omega, Int32.toInt_inj.mp ?_⟩
  rw [Int32.toInt_ofNat_of_lt (by omega)]; omega
theorem own_lt (i n : Nat) (h : i < 2147483648) (hn : n < 2147483648) : (Int32.ofNat i < Int32.ofNat n) ↔ i < n := by
  rw [Int32.lt_iff_toInt_lt, Int32.toInt_ofNat_of_lt (by omega), Int32.toInt_ofNat_of_lt (by omega)]; omega
theorem own_eq (i n : Nat) (h : i < 2147483648) (hn : n < 2147483648) : (Int32.ofNat i = Int32.ofNat n) ↔ i = n := by
  rw [← Int32.toInt_inj, Int32.toInt_ofNat_of_lt (by omega), Int32.toInt_ofNat_of_lt (by omega)]; omega
theorem own_add (i : Nat) : Int32.ofNat i + (1 : Int32) = Int32.ofNat (i + 1) := by rw [Int32.ofNat_add]; rfl
theorem ef_rmI (m : MethodId) (x0 : Addr) (x1 : Int32) : entryFrame m #[(.ref x0), (.int x1)] 2 = mkF m 0 #[.val (.ref x0), .val (.int x1)] [] := by first | (simp [entryFrame, mkF, argsToLocals, Value.category]; done) | rfl
theorem pn_0 : plainName "com/example/bearer/bearer/modem/LineBuffer" = true := by first | (simp [plainName, overriddenIn]; done) | decide +kernel
theorem d1_0 : decode prog_38_method_1_code 0 = .ok (.aload_n 0, 1) := by decide +kernel
theorem d1_1 : decode prog_38_method_1_code 1 = .ok (.invokespecial 1, 3) := by decide +kernel
theorem d1_4 : decode prog_38_method_1_code 4 = .ok (.aload_n 0, 1) := by decide +kernel
theorem d1_5 : decode prog_38_method_1_code 5 = .ok (.iload_n 1, 1) := by decide +kernel
theorem d1_6 : decode prog_38_method_1_code 6 = .ok (.newarray .byte, 2) := by decide +kernel
theorem d1_8 : decode prog_38_method_1_code 8 = .ok (.putfield 7, 3) := by decide +kernel
theorem d1_11 : decode prog_38_method_1_code 11 = .ok (.return_, 1) := by decide +kernel
set_option maxRecDepth 65536 in
set_option maxHeartbeats 40000000 in
theorem rmI (l : Launch) (Z : State) (a0 : Array Value) (hw : ∀ d ∈ tables_1, d.before a0 Z = true) (ws : List Jvm.Cond) (a : Addr) (n : Nat) (h0 : Heap) (n0 : Nat) (Z0 : n0 ≤ h0.size) (hn1 : 1 ≤ n) (hn : n ≤ 4) (E_a : Exa Z h0 a "com/example/bearer/bearer/modem/LineBuffer") (F_0 : Fld Z h0 a "com/example/bearer/bearer/modem/LineBuffer" "kept" "[B" .null) (F_1 : Fld Z h0 a "com/example/bearer/bearer/modem/LineBuffer" "length" "I" (.int (0 : Int32))) (F_2 : Fld Z h0 a "com/example/bearer/bearer/modem/LineBuffer" "cut" "Z" (.int (0 : Int32))) (g_a : n0 ≤ a) :
    Ctr l Z (⟨"com/example/bearer/bearer/modem/LineBuffer", "<init>", "(I)V"⟩ : MethodName) prog_38_method_1_code 2 none ws ({ frames := 1, cells := 1, slots := 4, locals := 12 } : Room) 1 4 #[(.ref a), (.int (Int32.ofNat n))] h0 (fun v h L => v = none ∧ Fr n0 L ∧ Keep h0 h [a] ∧ ∃ k, h0.size ≤ k ∧ Exa Z h a "com/example/bearer/bearer/modem/LineBuffer" ∧ Exa Z h k "[B" ∧ Fld Z h a "com/example/bearer/bearer/modem/LineBuffer" "kept" "[B" (.ref k) ∧ Fld Z h a "com/example/bearer/bearer/modem/LineBuffer" "length" "I" (.int (Int32.ofNat 0)) ∧ Fld Z h a "com/example/bearer/bearer/modem/LineBuffer" "cut" "Z" (.int (bi (false = true))) ∧ AV Z h k .byte n (fun _ => .int (0 : Int32))) := by
  refine Ctr.mk (plainFor_of_name pn_0) fun p e s m below meth c T0 X0 C e0 => go_cast (ef_rmI m a (Int32.ofNat n)) ?_
  have N0 := Fr.nil n0
  obtain ⟨hx, hZ, hby, hml, hown, hnm, hret, hlk⟩ := C
  obtain ⟨hI, eI⟩ : ∃ z, z = h0 := ⟨_, rfl⟩
  have K0 : Keep hI h0 [a] := by rw [eI]; exact Keep.refl _ _
  show Go _ _ _ _ _ _ _ T0 (mkF m 0 #[.val (.ref a), .val (.int (Int32.ofNat n))] [])
  refine Go.step (fun t k => XS.aloadN X0.here hx rfl (hb hby d1_0) rfl rfl k) ?_
  show Go _ _ _ _ _ _ _ T0 (mkF m 1 #[.val (.ref a), .val (.int (Int32.ofNat n))] [(.ref a)])
  obtain ⟨T1, X1, e1, st1⟩ := initO X0 hx hZ hown (hw _ (List.mem_of_getElem? (i := 7) rfl)) (hw _ (List.mem_of_getElem? (i := 8) rfl)) (hw _ (List.mem_of_getElem? (i := 9) rfl)) e0 (g := (mkF m 1 #[.val (.ref a), .val (.int (Int32.ofNat n))] [(.ref a)])) rfl (by rw [hml]; rfl) rfl (hb hby d1_1) (by decide) (W := 0) (by show 2 * 0 + _ ≤ _; exact Nat.le_of_eq rfl) (by decide)
  refine Go.step (st1) ?_
  show Go _ _ _ _ _ _ _ T1 (mkF m 4 #[.val (.ref a), .val (.int (Int32.ofNat n))] [])
  refine Go.step (fun t k => XS.aloadN X1.here hx rfl (hb hby d1_4) rfl rfl k) ?_
  show Go _ _ _ _ _ _ _ T1 (mkF m 5 #[.val (.ref a), .val (.int (Int32.ofNat n))] [(.ref a)])
  refine Go.step (fun t k => XS.iloadN X1.here hx rfl (hb hby d1_5) rfl k) ?_
  show Go _ _ _ _ _ _ _ T1 (mkF m 6 #[.val (.ref a), .val (.int (Int32.ofNat n))] [(.int (Int32.ofNat n)), (.ref a)])
  obtain ⟨T2, h2, k2, X2, e2, E2, A2, EA2, st2⟩ := newPE X1 hx hZ (hw _ (List.mem_of_getElem? (i := 0) rfl)) e1 (g := (mkF m 6 #[.val (.ref a), .val (.int (Int32.ofNat n))] [(.int (Int32.ofNat n)), (.ref a)])) rfl (hb hby d1_6) rfl (by rw [Int32.lt_iff_toInt_lt, Int32.toInt_ofNat_of_lt (by omega)]; simp only [Int32.reduceToInt]; omega) (cap := 4) (by rw [clamp_of (k := n) (Int32.toInt_ofNat_of_lt (by omega))]; omega) (by decide) (by decide) (by decide) (ad := "[B") rfl
  obtain ⟨b2, g2⟩ : ∃ z, z = h0.size := ⟨_, rfl⟩
  rw [← g2] at A2 EA2 st2
  have ne_a_b2 : a ≠ b2 := Nat.ne_of_lt (Nat.lt_of_lt_of_le E_a.lt (Nat.le_of_eq g2.symm))
  have gn_b2 : n0 ≤ b2 := Nat.le_trans Z0 (Nat.le_of_eq g2.symm)
  have sz_b2 : hI.size ≤ b2 := Nat.le_trans K0.1 (Nat.le_of_eq g2.symm)
  have Z2 : n0 ≤ h2.size := Nat.le_trans Z0 E2.1
  have K2 : Keep hI h2 [a] := K0.ext E2
  have V2 : AV Z h2 b2 .byte n (fun _ => (.int (0 : Int32))) := AV.new A2 (Int32.toInt_ofNat_of_lt (by omega))
  refine Go.step (st2) ?_
  show Go _ _ _ _ _ _ _ T2 (mkF m 8 #[.val (.ref a), .val (.int (Int32.ofNat n))] [(.ref b2), (.ref a)])
  have f4 := (Fld.ext E2 F_0)
  have f5 := (Exa.ext E2 E_a)
  obtain ⟨T3, h3, X3, e3, W3, st3⟩ := putF X2 hx hZ hown (host := "") (Or.inl (hw _ (List.mem_of_getElem? (i := 10) rfl))) Via.refl e2 f4 f5 (Or.inr ⟨(hw _ (List.mem_of_getElem? (i := 11) rfl)), rfl, hnm⟩) (hw _ (List.mem_of_getElem? (i := 2) rfl)) (ty := (.array .byte)) (by decide) rfl rfl (g := (mkF m 8 #[.val (.ref a), .val (.int (Int32.ofNat n))] [(.ref b2), (.ref a)])) rfl rfl (hb hby d1_8)
  have F3 := Fld.same W3 f4
  have N3 := Fr.snoc X3 N0 g_a
  have Z3 : n0 ≤ h3.size := Nat.le_trans Z2 (Keep.of_wr W3).1
  have K3 : Keep hI h3 [a] := K2.wr W3 (Or.inl (List.mem_of_getElem? (i := 0) rfl))
  refine Go.step (st3) ?_
  show Go _ _ _ _ _ _ _ T3 (mkF m 11 #[.val (.ref a), .val (.int (Int32.ofNat n))] [])
  have f6 := (Exa.wr W3 f5)
  have f7 := (Exa.wr W3 EA2)
  have f8 := (Fld.other W3 (Fld.ext E2 F_1) (Or.inr (slot_ne (Or.inl (hw _ (List.mem_of_getElem? (i := 18) rfl))) (Or.inr (hw _ (List.mem_of_getElem? (i := 11) rfl))) (by decide) (t := .int) (t' := (.array .byte)) (by decide) (by decide))))
  have f9 := (Fld.other W3 (Fld.ext E2 F_2) (Or.inr (slot_ne (Or.inl (hw _ (List.mem_of_getElem? (i := 20) rfl))) (Or.inr (hw _ (List.mem_of_getElem? (i := 11) rfl))) (by decide) (t := .boolean) (t' := (.array .byte)) (by decide) (by decide))))
  have f10 := (V2.other W3 (Ne.symm ne_a_b2))
  refine go_ret X3 hx hret hlk (hb hby d1_11) ?_ (by decide) (by decide)
  try rw [e3]
  exact ⟨rfl, N3, eI ▸ K3, b2, eI ▸ sz_b2, f6, f7, F3, f8, f9, f10⟩
theorem ef_rmY (m : MethodId) (x0 : Addr) (x1 : Int32) : entryFrame m #[(.ref x0), (.int x1)] 3 = mkF m 0 #[.val (.ref x0), .val (.int x1), .unset] [] := by first | (simp [entryFrame, mkF, argsToLocals, Value.category]; done) | rfl
theorem d3_0 : decode prog_38_method_2_code 0 = .ok (.aload_n 0, 1) := by decide +kernel
theorem d3_1 : decode prog_38_method_2_code 1 = .ok (.getfield 13, 3) := by decide +kernel
theorem d3_4 : decode prog_38_method_2_code 4 = .ok (.aload_n 0, 1) := by decide +kernel
theorem d3_5 : decode prog_38_method_2_code 5 = .ok (.getfield 7, 3) := by decide +kernel
theorem d3_8 : decode prog_38_method_2_code 8 = .ok (.arraylength, 1) := by decide +kernel
theorem d3_9 : decode prog_38_method_2_code 9 = .ok (.if_icmp .ge 22, 3) := by decide +kernel
theorem d3_12 : decode prog_38_method_2_code 12 = .ok (.aload_n 0, 1) := by decide +kernel
theorem d3_13 : decode prog_38_method_2_code 13 = .ok (.getfield 7, 3) := by decide +kernel
theorem d3_16 : decode prog_38_method_2_code 16 = .ok (.aload_n 0, 1) := by decide +kernel
theorem d3_17 : decode prog_38_method_2_code 17 = .ok (.dup, 1) := by decide +kernel
theorem d3_18 : decode prog_38_method_2_code 18 = .ok (.getfield 13, 3) := by decide +kernel
theorem d3_21 : decode prog_38_method_2_code 21 = .ok (.dup_x1, 1) := by decide +kernel
theorem d3_22 : decode prog_38_method_2_code 22 = .ok (.iconst 1, 1) := by decide +kernel
theorem d3_23 : decode prog_38_method_2_code 23 = .ok (.iadd, 1) := by decide +kernel
theorem d3_24 : decode prog_38_method_2_code 24 = .ok (.putfield 13, 3) := by decide +kernel
theorem d3_27 : decode prog_38_method_2_code 27 = .ok (.iload_n 1, 1) := by decide +kernel
theorem d3_28 : decode prog_38_method_2_code 28 = .ok (.bastore, 1) := by decide +kernel
theorem d3_29 : decode prog_38_method_2_code 29 = .ok (.iconst 0, 1) := by decide +kernel
theorem d3_30 : decode prog_38_method_2_code 30 = .ok (.ireturn, 1) := by decide +kernel
set_option maxRecDepth 65536 in
set_option maxHeartbeats 40000000 in
theorem rmY (l : Launch) (Z : State) (a0 : Array Value) (hw : ∀ d ∈ tables_1, d.before a0 Z = true) (ws : List Jvm.Cond) (a k : Addr) (n len : Nat) (ct : Bool) (f : Nat → Value) (x : Int32) (h0 : Heap) (n0 : Nat) (Z0 : n0 ≤ h0.size) (hn1 : 1 ≤ n) (hn : n ≤ 4) (hl : len ≤ n) (E_a : Exa Z h0 a "com/example/bearer/bearer/modem/LineBuffer") (F_0 : Fld Z h0 a "com/example/bearer/bearer/modem/LineBuffer" "kept" "[B" (.ref k)) (F_1 : Fld Z h0 a "com/example/bearer/bearer/modem/LineBuffer" "length" "I" (.int (Int32.ofNat len))) (F_2 : Fld Z h0 a "com/example/bearer/bearer/modem/LineBuffer" "cut" "Z" (.int (bi (ct = true)))) (V_k : AV Z h0 k .byte n f) (E_k : Exa Z h0 k "[B") (ne_a_k : a ≠ k) (g_a : n0 ≤ a) (g_k : n0 ≤ k) (hlt : len < n) :
    Ctr l Z (⟨"com/example/bearer/bearer/modem/LineBuffer", "add", "(B)Z"⟩ : MethodName) prog_38_method_2_code 3 (some .boolean) ws ({ frames := 0, cells := 0, slots := 0, locals := 0 } : Room) 0 0 #[(.ref a), (.int x)] h0 (fun v h L => v = some (.int (0 : Int32)) ∧ Fr n0 L ∧ Keep h0 h [a, k] ∧ Exa Z h a "com/example/bearer/bearer/modem/LineBuffer" ∧ Exa Z h k "[B" ∧ Fld Z h a "com/example/bearer/bearer/modem/LineBuffer" "kept" "[B" (.ref k) ∧ Fld Z h a "com/example/bearer/bearer/modem/LineBuffer" "length" "I" (.int (Int32.ofNat (len + 1))) ∧ Fld Z h a "com/example/bearer/bearer/modem/LineBuffer" "cut" "Z" (.int (bi (ct = true))) ∧ AV Z h k .byte n (upd f len (.int (nar .byte x)))) := by
  refine Ctr.mk (plainFor_of_name pn_0) fun p e s m below meth c T0 X0 C e0 => go_cast (ef_rmY m a x) ?_
  have N0 := Fr.nil n0
  obtain ⟨hx, hZ, hby, hml, hown, hnm, hret, hlk⟩ := C
  obtain ⟨hI, eI⟩ : ∃ z, z = h0 := ⟨_, rfl⟩
  have K0 : Keep hI h0 [a, k] := by rw [eI]; exact Keep.refl _ _
  show Go _ _ _ _ _ _ _ T0 (mkF m 0 #[.val (.ref a), .val (.int x), .unset] [])
  refine Go.step (fun t k => XS.aloadN X0.here hx rfl (hb hby d3_0) rfl rfl k) ?_
  show Go _ _ _ _ _ _ _ T0 (mkF m 1 #[.val (.ref a), .val (.int x), .unset] [(.ref a)])
  obtain ⟨T1, X1, e1, st1⟩ := getF X0 hx hZ hown (host := "") (Or.inl (hw _ (List.mem_of_getElem? (i := 17) rfl))) Via.refl e0 F_1 (g := (mkF m 1 #[.val (.ref a), .val (.int x), .unset] [(.ref a)])) rfl rfl (hb hby d3_1)
  refine Go.step (st1) ?_
  show Go _ _ _ _ _ _ _ T1 (mkF m 4 #[.val (.ref a), .val (.int x), .unset] [(.int (Int32.ofNat len))])
  refine Go.step (fun t k => XS.aloadN X1.here hx rfl (hb hby d3_4) rfl rfl k) ?_
  show Go _ _ _ _ _ _ _ T1 (mkF m 5 #[.val (.ref a), .val (.int x), .unset] [(.ref a), (.int (Int32.ofNat len))])
  obtain ⟨T2, X2, e2, st2⟩ := getF X1 hx hZ hown (host := "") (Or.inl (hw _ (List.mem_of_getElem? (i := 10) rfl))) Via.refl e1 F_0 (g := (mkF m 5 #[.val (.ref a), .val (.int x), .unset] [(.ref a), (.int (Int32.ofNat len))])) rfl rfl (hb hby d3_5)
  refine Go.step (st2) ?_
  show Go _ _ _ _ _ _ _ T2 (mkF m 8 #[.val (.ref a), .val (.int x), .unset] [(.ref k), (.int (Int32.ofNat len))])
  refine Go.step (a_len X2 hx hZ e2 V_k (z := (Int32.ofNat n)) (Int32.toInt_ofNat_of_lt (by omega)) (hb hby d3_8)) ?_
  show Go _ _ _ _ _ _ _ T2 (mkF m 9 #[.val (.ref a), .val (.int x), .unset] [(.int (Int32.ofNat n)), (.int (Int32.ofNat len))])
  refine Go.step (fun t k => XS.icmpNo X2.here hx rfl (hb hby d3_9) rfl (tlt ((own_lt len n (by omega) (by omega)).mpr hlt)).2.1 k) ?_
  show Go _ _ _ _ _ _ _ T2 (mkF m 12 #[.val (.ref a), .val (.int x), .unset] [])
  refine Go.step (fun t k => XS.aloadN X2.here hx rfl (hb hby d3_12) rfl rfl k) ?_
  show Go _ _ _ _ _ _ _ T2 (mkF m 13 #[.val (.ref a), .val (.int x), .unset] [(.ref a)])
  obtain ⟨T3, X3, e3, st3⟩ := getF X2 hx hZ hown (host := "") (Or.inl (hw _ (List.mem_of_getElem? (i := 10) rfl))) Via.refl e2 F_0 (g := (mkF m 13 #[.val (.ref a), .val (.int x), .unset] [(.ref a)])) rfl rfl (hb hby d3_13)
  refine Go.step (st3) ?_
  show Go _ _ _ _ _ _ _ T3 (mkF m 16 #[.val (.ref a), .val (.int x), .unset] [(.ref k)])
  refine Go.step (fun t k => XS.aloadN X3.here hx rfl (hb hby d3_16) rfl rfl k) ?_
  show Go _ _ _ _ _ _ _ T3 (mkF m 17 #[.val (.ref a), .val (.int x), .unset] [(.ref a), (.ref k)])
  refine Go.step (fun t k => XS.dup X3.here hx rfl (hb hby d3_17) rfl rfl k) ?_
  show Go _ _ _ _ _ _ _ T3 (mkF m 18 #[.val (.ref a), .val (.int x), .unset] [(.ref a), (.ref a), (.ref k)])
  obtain ⟨T4, X4, e4, st4⟩ := getF X3 hx hZ hown (host := "") (Or.inl (hw _ (List.mem_of_getElem? (i := 17) rfl))) Via.refl e3 F_1 (g := (mkF m 18 #[.val (.ref a), .val (.int x), .unset] [(.ref a), (.ref a), (.ref k)])) rfl rfl (hb hby d3_18)
  refine Go.step (st4) ?_
  show Go _ _ _ _ _ _ _ T4 (mkF m 21 #[.val (.ref a), .val (.int x), .unset] [(.int (Int32.ofNat len)), (.ref a), (.ref k)])
  refine Go.step (fun t k => XS.dupX1 X4.here hx rfl (hb hby d3_21) rfl rfl rfl k) ?_
  show Go _ _ _ _ _ _ _ T4 (mkF m 22 #[.val (.ref a), .val (.int x), .unset] [(.int (Int32.ofNat len)), (.ref a), (.int (Int32.ofNat len)), (.ref k)])
  refine Go.step (fun t k => XS.iconst X4.here hx rfl (hb hby d3_22) k) ?_
  show Go _ _ _ _ _ _ _ T4 (mkF m 23 #[.val (.ref a), .val (.int x), .unset] [(.int (1 : Int32)), (.int (Int32.ofNat len)), (.ref a), (.int (Int32.ofNat len)), (.ref k)])
  refine Go.step (fun t k => XS.iadd X4.here hx rfl (hb hby d3_23) rfl k) ?_
  show Go _ _ _ _ _ _ _ T4 (mkF m 24 #[.val (.ref a), .val (.int x), .unset] [(.int ((Int32.ofNat len) + (1 : Int32))), (.ref a), (.int (Int32.ofNat len)), (.ref k)])
  obtain ⟨T5, h5, X5, e5, W5, st5⟩ := putF X4 hx hZ hown (host := "") (Or.inl (hw _ (List.mem_of_getElem? (i := 17) rfl))) Via.refl e4 F_1 E_a (Or.inl (hw _ (List.mem_of_getElem? (i := 18) rfl))) (hw _ (List.mem_of_getElem? (i := 2) rfl)) (ty := .int) (by decide) rfl rfl (g := (mkF m 24 #[.val (.ref a), .val (.int x), .unset] [(.int ((Int32.ofNat len) + (1 : Int32))), (.ref a), (.int (Int32.ofNat len)), (.ref k)])) rfl rfl (hb hby d3_24)
  have F5 := Fld.same W5 F_1
  have N5 := Fr.snoc X5 N0 g_a
  have Z5 : n0 ≤ h5.size := Nat.le_trans Z0 (Keep.of_wr W5).1
  have K5 : Keep hI h5 [a, k] := K0.wr W5 (Or.inl (List.mem_of_getElem? (i := 0) rfl))
  refine Go.step (st5) ?_
  show Go _ _ _ _ _ _ _ T5 (mkF m 27 #[.val (.ref a), .val (.int x), .unset] [(.int (Int32.ofNat len)), (.ref k)])
  have f6 : Fld Z h5 a "com/example/bearer/bearer/modem/LineBuffer" "length" "I" (.int (Int32.ofNat (len + 1))) := by
    have q := F5
    rwa [own_add] at q
  refine Go.step (fun t k => XS.iloadN X5.here hx rfl (hb hby d3_27) rfl k) ?_
  show Go _ _ _ _ _ _ _ T5 (mkF m 28 #[.val (.ref a), .val (.int x), .unset] [(.int x), (.int (Int32.ofNat len)), (.ref k)])
  have f7 := (V_k.other W5 (Ne.symm ne_a_k))
  obtain ⟨cl8, Ar8, hin8, -⟩ := f7.at (j := (Int32.ofNat len)) (k := len) (Int32.toInt_ofNat_of_lt (by omega)) hlt
  obtain ⟨T8, h8, X8, e8, W8, st8⟩ := stB X5 hx hZ e5 Ar8 (j := (Int32.ofNat len)) hin8 (g := (mkF m 28 #[.val (.ref a), .val (.int x), .unset] [(.int x), (.int (Int32.ofNat len)), (.ref k)])) rfl rfl (hb hby d3_28)
  have V8 : AV Z h8 k .byte n (upd f len (.int (nar .byte x))) := AV.set f7 (k := len) (Int32.toInt_ofNat_of_lt (by omega)) hlt W8
  have N8 := Fr.snoc X8 N5 g_k
  have Z8 : n0 ≤ h8.size := Nat.le_trans Z5 (Keep.of_wr W8).1
  have K8 : Keep hI h8 [a, k] := K5.wr W8 (Or.inl (List.mem_of_getElem? (i := 1) rfl))
  refine Go.step (st8) ?_
  show Go _ _ _ _ _ _ _ T8 (mkF m 29 #[.val (.ref a), .val (.int x), .unset] [])
  refine Go.step (fun t k => XS.iconst X8.here hx rfl (hb hby d3_29) k) ?_
  show Go _ _ _ _ _ _ _ T8 (mkF m 30 #[.val (.ref a), .val (.int x), .unset] [(.int (0 : Int32))])
  have f9 := (Exa.wr W8 (Exa.wr W5 E_a))
  have f10 := (Exa.wr W8 (Exa.wr W5 E_k))
  have f11 := (Fld.other W8 (Fld.other W5 F_0 (Or.inr (slot_ne (Or.inr (hw _ (List.mem_of_getElem? (i := 11) rfl))) (Or.inl (hw _ (List.mem_of_getElem? (i := 18) rfl))) (by decide) (t := (.array .byte)) (t' := .int) (by decide) (by decide)))) (Or.inl ne_a_k))
  have f12 := (Fld.other W8 f6 (Or.inl ne_a_k))
  have f13 := (Fld.other W8 (Fld.other W5 F_2 (Or.inr (slot_ne (Or.inl (hw _ (List.mem_of_getElem? (i := 20) rfl))) (Or.inl (hw _ (List.mem_of_getElem? (i := 18) rfl))) (by decide) (t := .boolean) (t' := .int) (by decide) (by decide)))) (Or.inl ne_a_k))
  refine go_retN X8 hx (t := .boolean) hret (by simp) hlk (hb hby d3_30) (w := (0 : Int32)) rfl ?_ (by decide) (by decide)
  try rw [e8]
  exact ⟨rfl, N8, eI ▸ K8, f9, f10, f11, f12, f13, V8⟩
theorem ef_rmF (m : MethodId) (x0 : Addr) (x1 : Int32) : entryFrame m #[(.ref x0), (.int x1)] 3 = mkF m 0 #[.val (.ref x0), .val (.int x1), .unset] [] := by first | (simp [entryFrame, mkF, argsToLocals, Value.category]; done) | rfl
theorem d3_31 : decode prog_38_method_2_code 31 = .ok (.aload_n 0, 1) := by decide +kernel
theorem d3_32 : decode prog_38_method_2_code 32 = .ok (.getfield 17, 3) := by decide +kernel
theorem d3_35 : decode prog_38_method_2_code 35 = .ok (.ifCond .ne 7, 3) := by decide +kernel
theorem d3_42 : decode prog_38_method_2_code 42 = .ok (.iconst 0, 1) := by decide +kernel
theorem d3_43 : decode prog_38_method_2_code 43 = .ok (.istore_n 2, 1) := by decide +kernel
theorem d3_44 : decode prog_38_method_2_code 44 = .ok (.aload_n 0, 1) := by decide +kernel
theorem d3_45 : decode prog_38_method_2_code 45 = .ok (.iconst 1, 1) := by decide +kernel
theorem d3_46 : decode prog_38_method_2_code 46 = .ok (.putfield 17, 3) := by decide +kernel
theorem d3_49 : decode prog_38_method_2_code 49 = .ok (.iload_n 2, 1) := by decide +kernel
theorem d3_50 : decode prog_38_method_2_code 50 = .ok (.ireturn, 1) := by decide +kernel
theorem d3_38 : decode prog_38_method_2_code 38 = .ok (.iconst 1, 1) := by decide +kernel
theorem d3_39 : decode prog_38_method_2_code 39 = .ok (.goto 4, 3) := by decide +kernel
set_option maxRecDepth 65536 in
set_option maxHeartbeats 40000000 in
theorem rmF (l : Launch) (Z : State) (a0 : Array Value) (hw : ∀ d ∈ tables_1, d.before a0 Z = true) (ws : List Jvm.Cond) (a k : Addr) (n len : Nat) (ct : Bool) (f : Nat → Value) (x : Int32) (h0 : Heap) (n0 : Nat) (Z0 : n0 ≤ h0.size) (hn1 : 1 ≤ n) (hn : n ≤ 4) (hl : len ≤ n) (E_a : Exa Z h0 a "com/example/bearer/bearer/modem/LineBuffer") (F_0 : Fld Z h0 a "com/example/bearer/bearer/modem/LineBuffer" "kept" "[B" (.ref k)) (F_1 : Fld Z h0 a "com/example/bearer/bearer/modem/LineBuffer" "length" "I" (.int (Int32.ofNat len))) (F_2 : Fld Z h0 a "com/example/bearer/bearer/modem/LineBuffer" "cut" "Z" (.int (bi (ct = true)))) (V_k : AV Z h0 k .byte n f) (E_k : Exa Z h0 k "[B") (ne_a_k : a ≠ k) (g_a : n0 ≤ a) (g_k : n0 ≤ k) (hlt : ¬ len < n) :
    Ctr l Z (⟨"com/example/bearer/bearer/modem/LineBuffer", "add", "(B)Z"⟩ : MethodName) prog_38_method_2_code 3 (some .boolean) ws ({ frames := 0, cells := 0, slots := 0, locals := 0 } : Room) 0 0 #[(.ref a), (.int x)] h0 (fun v h L => v = some (.int (bi (¬ (ct = true)))) ∧ Fr n0 L ∧ Keep h0 h [a, k] ∧ Exa Z h a "com/example/bearer/bearer/modem/LineBuffer" ∧ Exa Z h k "[B" ∧ Fld Z h a "com/example/bearer/bearer/modem/LineBuffer" "kept" "[B" (.ref k) ∧ Fld Z h a "com/example/bearer/bearer/modem/LineBuffer" "length" "I" (.int (Int32.ofNat len)) ∧ Fld Z h a "com/example/bearer/bearer/modem/LineBuffer" "cut" "Z" (.int (bi (true = true))) ∧ AV Z h k .byte n f) := by
  refine Ctr.mk (plainFor_of_name pn_0) fun p e s m below meth c T0 X0 C e0 => go_cast (ef_rmF m a x) ?_
  have N0 := Fr.nil n0
  obtain ⟨hx, hZ, hby, hml, hown, hnm, hret, hlk⟩ := C
  obtain ⟨hI, eI⟩ : ∃ z, z = h0 := ⟨_, rfl⟩
  have K0 : Keep hI h0 [a, k] := by rw [eI]; exact Keep.refl _ _
  show Go _ _ _ _ _ _ _ T0 (mkF m 0 #[.val (.ref a), .val (.int x), .unset] [])
  refine Go.step (fun t k => XS.aloadN X0.here hx rfl (hb hby d3_0) rfl rfl k) ?_
  show Go _ _ _ _ _ _ _ T0 (mkF m 1 #[.val (.ref a), .val (.int x), .unset] [(.ref a)])
  obtain ⟨T1, X1, e1, st1⟩ := getF X0 hx hZ hown (host := "") (Or.inl (hw _ (List.mem_of_getElem? (i := 17) rfl))) Via.refl e0 F_1 (g := (mkF m 1 #[.val (.ref a), .val (.int x), .unset] [(.ref a)])) rfl rfl (hb hby d3_1)
  refine Go.step (st1) ?_
  show Go _ _ _ _ _ _ _ T1 (mkF m 4 #[.val (.ref a), .val (.int x), .unset] [(.int (Int32.ofNat len))])
  refine Go.step (fun t k => XS.aloadN X1.here hx rfl (hb hby d3_4) rfl rfl k) ?_
  show Go _ _ _ _ _ _ _ T1 (mkF m 5 #[.val (.ref a), .val (.int x), .unset] [(.ref a), (.int (Int32.ofNat len))])
  obtain ⟨T2, X2, e2, st2⟩ := getF X1 hx hZ hown (host := "") (Or.inl (hw _ (List.mem_of_getElem? (i := 10) rfl))) Via.refl e1 F_0 (g := (mkF m 5 #[.val (.ref a), .val (.int x), .unset] [(.ref a), (.int (Int32.ofNat len))])) rfl rfl (hb hby d3_5)
  refine Go.step (st2) ?_
  show Go _ _ _ _ _ _ _ T2 (mkF m 8 #[.val (.ref a), .val (.int x), .unset] [(.ref k), (.int (Int32.ofNat len))])
  refine Go.step (a_len X2 hx hZ e2 V_k (z := (Int32.ofNat n)) (Int32.toInt_ofNat_of_lt (by omega)) (hb hby d3_8)) ?_
  show Go _ _ _ _ _ _ _ T2 (mkF m 9 #[.val (.ref a), .val (.int x), .unset] [(.int (Int32.ofNat n)), (.int (Int32.ofNat len))])
  refine Go.step (fun t k => XS.icmpYes X2.here hx rfl (pc0 := 9) (pc' := 31) rfl (hb hby d3_9) rfl (flt (mt (own_lt len n (by omega) (by omega)).mp hlt)).2.1 (by decide) (by decide) k) ?_
  show Go _ _ _ _ _ _ _ T2 (mkF m 31 #[.val (.ref a), .val (.int x), .unset] [])
  refine Go.step (fun t k => XS.aloadN X2.here hx rfl (hb hby d3_31) rfl rfl k) ?_
  show Go _ _ _ _ _ _ _ T2 (mkF m 32 #[.val (.ref a), .val (.int x), .unset] [(.ref a)])
  obtain ⟨T3, X3, e3, st3⟩ := getF X2 hx hZ hown (host := "") (Or.inl (hw _ (List.mem_of_getElem? (i := 19) rfl))) Via.refl e2 F_2 (g := (mkF m 32 #[.val (.ref a), .val (.int x), .unset] [(.ref a)])) rfl rfl (hb hby d3_32)
  refine Go.step (st3) ?_
  show Go _ _ _ _ _ _ _ T3 (mkF m 35 #[.val (.ref a), .val (.int x), .unset] [(.int (bi (ct = true)))])
  by_cases c35_4 : ct = true
  · refine Go.step (fun t k => XS.ifYes X3.here hx rfl (pc0 := 35) (pc' := 42) rfl (hb hby d3_35) rfl ((if0 _ _).trans (feq (bi_n c35_4)).2) (by decide) (by decide) k) ?_
    show Go _ _ _ _ _ _ _ T3 (mkF m 42 #[.val (.ref a), .val (.int x), .unset] [])
    refine Go.step (fun t k => XS.iconst X3.here hx rfl (hb hby d3_42) k) ?_
    show Go _ _ _ _ _ _ _ T3 (mkF m 43 #[.val (.ref a), .val (.int x), .unset] [(.int (0 : Int32))])
    refine Go.step (fun t k => XS.istoreN X3.here hx rfl (hb hby d3_43) rfl (l' := #[.val (.ref a), .val (.int x), .val (.int (0 : Int32))]) rfl k) ?_
    show Go _ _ _ _ _ _ _ T3 (mkF m 44 #[.val (.ref a), .val (.int x), .val (.int (0 : Int32))] [])
    refine Go.step (fun t k => XS.aloadN X3.here hx rfl (hb hby d3_44) rfl rfl k) ?_
    show Go _ _ _ _ _ _ _ T3 (mkF m 45 #[.val (.ref a), .val (.int x), .val (.int (0 : Int32))] [(.ref a)])
    refine Go.step (fun t k => XS.iconst X3.here hx rfl (hb hby d3_45) k) ?_
    show Go _ _ _ _ _ _ _ T3 (mkF m 46 #[.val (.ref a), .val (.int x), .val (.int (0 : Int32))] [(.int (1 : Int32)), (.ref a)])
    obtain ⟨T5, h5, X5, e5, W5, st5⟩ := putFN X3 hx hZ hown (hw _ (List.mem_of_getElem? (i := 19) rfl)) Via.refl e3 F_2 E_a (Or.inl (hw _ (List.mem_of_getElem? (i := 20) rfl))) (hw _ (List.mem_of_getElem? (i := 2) rfl)) (ty := .boolean) (v' := (.int (1 : Int32))) (by decide) rfl rfl (g := (mkF m 46 #[.val (.ref a), .val (.int x), .val (.int (0 : Int32))] [(.int (1 : Int32)), (.ref a)])) rfl rfl (hb hby d3_46)
    have F5 := Fld.same W5 F_2
    have N5 := Fr.snoc X5 N0 g_a
    have Z5 : n0 ≤ h5.size := Nat.le_trans Z0 (Keep.of_wr W5).1
    have K5 : Keep hI h5 [a, k] := K0.wr W5 (Or.inl (List.mem_of_getElem? (i := 0) rfl))
    refine Go.step (st5) ?_
    show Go _ _ _ _ _ _ _ T5 (mkF m 49 #[.val (.ref a), .val (.int x), .val (.int (0 : Int32))] [])
    refine Go.step (fun t k => XS.iloadN X5.here hx rfl (hb hby d3_49) rfl k) ?_
    show Go _ _ _ _ _ _ _ T5 (mkF m 50 #[.val (.ref a), .val (.int x), .val (.int (0 : Int32))] [(.int (0 : Int32))])
    have f6 := (Exa.wr W5 E_a)
    have f7 := (Exa.wr W5 E_k)
    have f8 := (Fld.other W5 F_0 (Or.inr (slot_ne (Or.inr (hw _ (List.mem_of_getElem? (i := 11) rfl))) (Or.inl (hw _ (List.mem_of_getElem? (i := 20) rfl))) (by decide) (t := (.array .byte)) (t' := .boolean) (by decide) (by decide))))
    have f9 := (Fld.other W5 F_1 (Or.inr (slot_ne (Or.inl (hw _ (List.mem_of_getElem? (i := 18) rfl))) (Or.inl (hw _ (List.mem_of_getElem? (i := 20) rfl))) (by decide) (t := .int) (t' := .boolean) (by decide) (by decide))))
    have f10 := (V_k.other W5 (Ne.symm ne_a_k))
    refine go_retN X5 hx (t := .boolean) hret (by simp) hlk (hb hby d3_50) (w := (0 : Int32)) rfl ?_ (by decide) (by decide)
    try rw [e5]
    exact ⟨congrArg (fun z => some (Value.int z)) (bi_f (by simp only [eq_true c35_4, not_true_eq_false, not_false_eq_true, and_true, true_and, and_false, false_and, or_true, true_or, or_false, false_or, and_self, or_self])).symm, N5, eI ▸ K5, f6, f7, f8, f9, F5, f10⟩
  · refine Go.step (fun t k => XS.ifNo X3.here hx rfl (hb hby d3_35) rfl ((if0 _ _).trans (teq (bi_f c35_4)).2) k) ?_
    show Go _ _ _ _ _ _ _ T3 (mkF m 38 #[.val (.ref a), .val (.int x), .unset] [])
    refine Go.step (fun t k => XS.iconst X3.here hx rfl (hb hby d3_38) k) ?_
    show Go _ _ _ _ _ _ _ T3 (mkF m 39 #[.val (.ref a), .val (.int x), .unset] [(.int (1 : Int32))])
    refine Go.step (fun t k => XS.goto X3.here hx rfl (pc0 := 39) (pc' := 43) rfl (hb hby d3_39) (by decide) (by decide) k) ?_
    show Go _ _ _ _ _ _ _ T3 (mkF m 43 #[.val (.ref a), .val (.int x), .unset] [(.int (1 : Int32))])
    refine Go.step (fun t k => XS.istoreN X3.here hx rfl (hb hby d3_43) rfl (l' := #[.val (.ref a), .val (.int x), .val (.int (1 : Int32))]) rfl k) ?_
    show Go _ _ _ _ _ _ _ T3 (mkF m 44 #[.val (.ref a), .val (.int x), .val (.int (1 : Int32))] [])
    refine Go.step (fun t k => XS.aloadN X3.here hx rfl (hb hby d3_44) rfl rfl k) ?_
    show Go _ _ _ _ _ _ _ T3 (mkF m 45 #[.val (.ref a), .val (.int x), .val (.int (1 : Int32))] [(.ref a)])
    refine Go.step (fun t k => XS.iconst X3.here hx rfl (hb hby d3_45) k) ?_
    show Go _ _ _ _ _ _ _ T3 (mkF m 46 #[.val (.ref a), .val (.int x), .val (.int (1 : Int32))] [(.int (1 : Int32)), (.ref a)])
    obtain ⟨T11, h11, X11, e11, W11, st11⟩ := putFN X3 hx hZ hown (hw _ (List.mem_of_getElem? (i := 19) rfl)) Via.refl e3 F_2 E_a (Or.inl (hw _ (List.mem_of_getElem? (i := 20) rfl))) (hw _ (List.mem_of_getElem? (i := 2) rfl)) (ty := .boolean) (v' := (.int (1 : Int32))) (by decide) rfl rfl (g := (mkF m 46 #[.val (.ref a), .val (.int x), .val (.int (1 : Int32))] [(.int (1 : Int32)), (.ref a)])) rfl rfl (hb hby d3_46)
    have F11 := Fld.same W11 F_2
    have N11 := Fr.snoc X11 N0 g_a
    have Z11 : n0 ≤ h11.size := Nat.le_trans Z0 (Keep.of_wr W11).1
    have K11 : Keep hI h11 [a, k] := K0.wr W11 (Or.inl (List.mem_of_getElem? (i := 0) rfl))
    refine Go.step (st11) ?_
    show Go _ _ _ _ _ _ _ T11 (mkF m 49 #[.val (.ref a), .val (.int x), .val (.int (1 : Int32))] [])
    refine Go.step (fun t k => XS.iloadN X11.here hx rfl (hb hby d3_49) rfl k) ?_
    show Go _ _ _ _ _ _ _ T11 (mkF m 50 #[.val (.ref a), .val (.int x), .val (.int (1 : Int32))] [(.int (1 : Int32))])
    have f12 := (Exa.wr W11 E_a)
    have f13 := (Exa.wr W11 E_k)
    have f14 := (Fld.other W11 F_0 (Or.inr (slot_ne (Or.inr (hw _ (List.mem_of_getElem? (i := 11) rfl))) (Or.inl (hw _ (List.mem_of_getElem? (i := 20) rfl))) (by decide) (t := (.array .byte)) (t' := .boolean) (by decide) (by decide))))
    have f15 := (Fld.other W11 F_1 (Or.inr (slot_ne (Or.inl (hw _ (List.mem_of_getElem? (i := 18) rfl))) (Or.inl (hw _ (List.mem_of_getElem? (i := 20) rfl))) (by decide) (t := .int) (t' := .boolean) (by decide) (by decide))))
    have f16 := (V_k.other W11 (Ne.symm ne_a_k))
    refine go_retN X11 hx (t := .boolean) hret (by simp) hlk (hb hby d3_50) (w := (1 : Int32)) rfl ?_ (by decide) (by decide)
    try rw [e11]
    exact ⟨congrArg (fun z => some (Value.int z)) (bi_t (by simp only [eq_false c35_4, not_true_eq_false, not_false_eq_true, and_true, true_and, and_false, false_and, or_true, true_or, or_false, false_or, and_self, or_self])).symm, N11, eI ▸ K11, f12, f13, f14, f15, F11, f16⟩
theorem own_nar (x : Int32) : nar .byte (nar .byte x) = nar .byte x := by
  show x.toInt8.toInt32.toInt8.toInt32 = x.toInt8.toInt32
  rw [Int8.toInt8_toInt32]
theorem ef_rmQ (m : MethodId) (x0 : Addr) : entryFrame m #[(.ref x0)] 1 = mkF m 0 #[.val (.ref x0)] [] := by first | (simp [entryFrame, mkF, argsToLocals, Value.category]; done) | rfl
theorem d6_0 : decode prog_38_method_5_code 0 = .ok (.aload_n 0, 1) := by decide +kernel
theorem d6_1 : decode prog_38_method_5_code 1 = .ok (.getfield 17, 3) := by decide +kernel
theorem d6_4 : decode prog_38_method_5_code 4 = .ok (.ireturn, 1) := by decide +kernel
set_option maxRecDepth 65536 in
set_option maxHeartbeats 40000000 in
theorem rmQ (l : Launch) (Z : State) (a0 : Array Value) (hw : ∀ d ∈ tables_1, d.before a0 Z = true) (ws : List Jvm.Cond) (a k : Addr) (n len : Nat) (ct : Bool) (f : Nat → Value) (h0 : Heap) (n0 : Nat) (Z0 : n0 ≤ h0.size) (hn1 : 1 ≤ n) (hn : n ≤ 4) (hl : len ≤ n) (E_a : Exa Z h0 a "com/example/bearer/bearer/modem/LineBuffer") (F_0 : Fld Z h0 a "com/example/bearer/bearer/modem/LineBuffer" "kept" "[B" (.ref k)) (F_1 : Fld Z h0 a "com/example/bearer/bearer/modem/LineBuffer" "length" "I" (.int (Int32.ofNat len))) (F_2 : Fld Z h0 a "com/example/bearer/bearer/modem/LineBuffer" "cut" "Z" (.int (bi (ct = true)))) (V_k : AV Z h0 k .byte n f) (E_k : Exa Z h0 k "[B") (ne_a_k : a ≠ k) :
    Ctr l Z (⟨"com/example/bearer/bearer/modem/LineBuffer", "isCut", "()Z"⟩ : MethodName) prog_38_method_5_code 1 (some .boolean) ws ({ frames := 0, cells := 0, slots := 0, locals := 0 } : Room) 0 0 #[(.ref a)] h0 (fun v h L => v = some (.int (bi (ct = true))) ∧ L = [] ∧ h = h0) := by
  refine Ctr.mk (plainFor_of_name pn_0) fun p e s m below meth c T0 X0 C e0 => go_cast (ef_rmQ m a) ?_
  have N0 := Fr.nil n0
  obtain ⟨hx, hZ, hby, hml, hown, hnm, hret, hlk⟩ := C
  show Go _ _ _ _ _ _ _ T0 (mkF m 0 #[.val (.ref a)] [])
  refine Go.step (fun t k => XS.aloadN X0.here hx rfl (hb hby d6_0) rfl rfl k) ?_
  show Go _ _ _ _ _ _ _ T0 (mkF m 1 #[.val (.ref a)] [(.ref a)])
  obtain ⟨T1, X1, e1, st1⟩ := getF X0 hx hZ hown (host := "") (Or.inl (hw _ (List.mem_of_getElem? (i := 19) rfl))) Via.refl e0 F_2 (g := (mkF m 1 #[.val (.ref a)] [(.ref a)])) rfl rfl (hb hby d6_1)
  refine Go.step (st1) ?_
  show Go _ _ _ _ _ _ _ T1 (mkF m 4 #[.val (.ref a)] [(.int (bi (ct = true)))])
  refine go_retN X1 hx (t := .boolean) hret (by simp) hlk (hb hby d6_4) (w := (bi (ct = true))) bi_nar ?_ (by decide) (by decide)
  try rw [e1]
  exact ⟨rfl, rfl, rfl⟩
theorem ef_rmCp (m : MethodId) (x0 : Addr) (x1 : Int32) : entryFrame m #[(.ref x0), (.int x1)] 3 = mkF m 0 #[.val (.ref x0), .val (.int x1), .unset] [] := by first | (simp [entryFrame, mkF, argsToLocals, Value.category]; done) | rfl
theorem pn_1 : plainName "java/util/Arrays" = true := by first | (simp [plainName, overriddenIn]; done) | decide +kernel
theorem d5_0 : decode jdk_65_method_121_code 0 = .ok (.iload_n 1, 1) := by decide +kernel
theorem d5_1 : decode jdk_65_method_121_code 1 = .ok (.aload_n 0, 1) := by decide +kernel
theorem d5_2 : decode jdk_65_method_121_code 2 = .ok (.arraylength, 1) := by decide +kernel
theorem d5_3 : decode jdk_65_method_121_code 3 = .ok (.if_icmp .ne 11, 3) := by decide +kernel
theorem d5_6 : decode jdk_65_method_121_code 6 = .ok (.aload_n 0, 1) := by decide +kernel
theorem d5_7 : decode jdk_65_method_121_code 7 = .ok (.invokevirtual 310, 3) := by decide +kernel
theorem d5_10 : decode jdk_65_method_121_code 10 = .ok (.checkcast 311, 3) := by decide +kernel
theorem d5_13 : decode jdk_65_method_121_code 13 = .ok (.areturn, 1) := by decide +kernel
set_option maxRecDepth 65536 in
set_option maxHeartbeats 40000000 in
theorem rmCp (l : Launch) (Z : State) (a0 : Array Value) (hw : ∀ d ∈ tables_1, d.before a0 Z = true) (ws : List Jvm.Cond) (k : Addr) (n : Nat) (f : Nat → Value) (h0 : Heap) (n0 : Nat) (Z0 : n0 ≤ h0.size) (hn : n ≤ 4) (V_k : AV Z h0 k .byte n f) (E_k : Exa Z h0 k "[B") (hfit : ∀ i, i < n → fits .byte (f i) = true) :
    Ctr l Z (⟨"java/util/Arrays", "copyOf", "([BI)[B"⟩ : MethodName) jdk_65_method_121_code 3 (some (.array .byte)) ws ({ frames := 1, cells := 1, slots := 4, locals := 14 } : Room) 1 4 #[(.ref k), (.int (Int32.ofNat n))] h0 (fun v h L => ∃ b, v = some (.ref b) ∧ Fr n0 L ∧ Keep h0 h [] ∧ h0.size ≤ b ∧ AV Z h b .byte n f) := by
  refine Ctr.mk (plainFor_of_name pn_1) fun p e s m below meth c T0 X0 C e0 => go_cast (ef_rmCp m k (Int32.ofNat n)) ?_
  have N0 := Fr.nil n0
  obtain ⟨hx, hZ, hby, hml, hown, hnm, hret, hlk⟩ := C
  obtain ⟨hI, eI⟩ : ∃ z, z = h0 := ⟨_, rfl⟩
  have K0 : Keep hI h0 [] := by rw [eI]; exact Keep.refl _ _
  show Go _ _ _ _ _ _ _ T0 (mkF m 0 #[.val (.ref k), .val (.int (Int32.ofNat n)), .unset] [])
  refine Go.step (fun t k => XS.iloadN X0.here hx rfl (hb hby d5_0) rfl k) ?_
  show Go _ _ _ _ _ _ _ T0 (mkF m 1 #[.val (.ref k), .val (.int (Int32.ofNat n)), .unset] [(.int (Int32.ofNat n))])
  refine Go.step (fun t k => XS.aloadN X0.here hx rfl (hb hby d5_1) rfl rfl k) ?_
  show Go _ _ _ _ _ _ _ T0 (mkF m 2 #[.val (.ref k), .val (.int (Int32.ofNat n)), .unset] [(.ref k), (.int (Int32.ofNat n))])
  refine Go.step (a_len X0 hx hZ e0 V_k (z := (Int32.ofNat n)) (Int32.toInt_ofNat_of_lt (by omega)) (hb hby d5_2)) ?_
  show Go _ _ _ _ _ _ _ T0 (mkF m 3 #[.val (.ref k), .val (.int (Int32.ofNat n)), .unset] [(.int (Int32.ofNat n)), (.int (Int32.ofNat n))])
  refine Go.step (fun t k => XS.icmpNo X0.here hx rfl (hb hby d5_3) rfl (teq rfl).2 k) ?_
  show Go _ _ _ _ _ _ _ T0 (mkF m 6 #[.val (.ref k), .val (.int (Int32.ofNat n)), .unset] [])
  refine Go.step (fun t k => XS.aloadN X0.here hx rfl (hb hby d5_6) rfl rfl k) ?_
  show Go _ _ _ _ _ _ _ T0 (mkF m 7 #[.val (.ref k), .val (.int (Int32.ofNat n)), .unset] [(.ref k)])
  obtain ⟨cl1, Ar1, S1, -, H1⟩ := (show AV _ _ _ _ _ _ from V_k)
  have FC1 : FitC Z cl1 := fitC_of Ar1 fun i hi v hv => by rw [H1 i (by rw [← S1]; exact hi)] at hv; cases hv; exact hfit i (by rw [← S1]; exact hi)
  obtain ⟨T1, h1, X1, e1, E1, A1, EA1, st1⟩ := cloneA X0 hx hZ hown (hw _ (List.mem_of_getElem? (i := 30) rfl)) (hw _ (List.mem_of_getElem? (i := 31) rfl)) (hw _ (List.mem_of_getElem? (i := 35) rfl)) (hw _ (List.mem_of_getElem? (i := 33) rfl)) (hw _ (List.mem_of_getElem? (i := 34) rfl)) (hw _ (List.mem_of_getElem? (i := 36) rfl)) e0 Ar1 E_k FC1 (g := (mkF m 7 #[.val (.ref k), .val (.int (Int32.ofNat n)), .unset] [(.ref k)])) rfl (by rw [hml]; rfl) rfl (hb hby d5_7) (by decide) (W := 0) (by show 2 * 0 + _ ≤ _; exact Nat.le_of_eq rfl) (by decide) (cap := 4) (by rw [S1]; exact hn) (by decide) (by decide)
  obtain ⟨b1, g1⟩ : ∃ z, z = h0.size := ⟨_, rfl⟩
  rw [← g1] at A1 EA1 st1
  have ne_k_b1 : k ≠ b1 := Nat.ne_of_lt (Nat.lt_of_lt_of_le V_k.lt (Nat.le_of_eq g1.symm))
  have gn_b1 : n0 ≤ b1 := Nat.le_trans Z0 (Nat.le_of_eq g1.symm)
  have sz_b1 : hI.size ≤ b1 := Nat.le_trans K0.1 (Nat.le_of_eq g1.symm)
  have Z1 : n0 ≤ h1.size := Nat.le_trans Z0 E1.1
  have K1 : Keep hI h1 [] := K0.ext E1
  have V1 : AV Z h1 b1 .byte n f := ⟨_, A1, S1, by omega, H1⟩
  refine Go.step (st1) ?_
  show Go _ _ _ _ _ _ _ T1 (mkF m 10 #[.val (.ref k), .val (.int (Int32.ofNat n)), .unset] [(.ref b1)])
  obtain ⟨T2, X2, e2, st2⟩ := castY X1 hx hZ hown (hw _ (List.mem_of_getElem? (i := 37) rfl)) e1 (Ins.self EA1) (g := (mkF m 10 #[.val (.ref k), .val (.int (Int32.ofNat n)), .unset] [(.ref b1)])) rfl rfl (hb hby d5_10)
  refine Go.step (st2) ?_
  show Go _ _ _ _ _ _ _ T2 (mkF m 13 #[.val (.ref k), .val (.int (Int32.ofNat n)), .unset] [(.ref b1)])
  refine go_retA X2 hx (t := (.array .byte)) hret rfl hlk rfl (hb hby d5_13) ?_ (by decide) (by decide)
  try rw [e2]
  exact ⟨b1, rfl, N0, eI ▸ K1, eI ▸ sz_b1, V1⟩
theorem ef_rmB (m : MethodId) (x0 : Addr) : entryFrame m #[(.ref x0)] 1 = mkF m 0 #[.val (.ref x0)] [] := by first | (simp [entryFrame, mkF, argsToLocals, Value.category]; done) | rfl
theorem d4_0 : decode prog_38_method_9_code 0 = .ok (.aload_n 0, 1) := by decide +kernel
theorem d4_1 : decode prog_38_method_9_code 1 = .ok (.getfield 7, 3) := by decide +kernel
theorem d4_4 : decode prog_38_method_9_code 4 = .ok (.aload_n 0, 1) := by decide +kernel
theorem d4_5 : decode prog_38_method_9_code 5 = .ok (.getfield 13, 3) := by decide +kernel
theorem pd_0 : parseMethodDescriptor "([BI)[B" = some ⟨[(.array .byte), .int], some (.array .byte)⟩ := by decide +kernel
theorem d4_8 : decode prog_38_method_9_code 8 = .ok (.invokestatic 50, 3) := by decide +kernel
theorem d4_11 : decode prog_38_method_9_code 11 = .ok (.areturn, 1) := by decide +kernel
set_option maxRecDepth 65536 in
set_option maxHeartbeats 40000000 in
theorem rmB (l : Launch) (Z : State) (a0 : Array Value) (hw : ∀ d ∈ tables_1, d.before a0 Z = true) (ws : List Jvm.Cond) (a k : Addr) (n : Nat) (ct : Bool) (f : Nat → Value) (h0 : Heap) (n0 : Nat) (Z0 : n0 ≤ h0.size) (hn1 : 1 ≤ n) (hn : n ≤ 4) (E_a : Exa Z h0 a "com/example/bearer/bearer/modem/LineBuffer") (F_0 : Fld Z h0 a "com/example/bearer/bearer/modem/LineBuffer" "kept" "[B" (.ref k)) (F_1 : Fld Z h0 a "com/example/bearer/bearer/modem/LineBuffer" "length" "I" (.int (Int32.ofNat n))) (F_2 : Fld Z h0 a "com/example/bearer/bearer/modem/LineBuffer" "cut" "Z" (.int (bi (ct = true)))) (V_k : AV Z h0 k .byte n f) (E_k : Exa Z h0 k "[B") (ne_a_k : a ≠ k) (hfit : ∀ i, i < n → fits .byte (f i) = true) :
    Ctr l Z (⟨"com/example/bearer/bearer/modem/LineBuffer", "toByteArray", "()[B"⟩ : MethodName) prog_38_method_9_code 1 (some (.array .byte)) ws ({ frames := 2, cells := 1, slots := 4, locals := 28 } : Room) 1 4 #[(.ref a)] h0 (fun v h L => ∃ b, v = some (.ref b) ∧ Fr n0 L ∧ Keep h0 h [] ∧ h0.size ≤ b ∧ AV Z h b .byte n f) := by
  refine Ctr.mk (plainFor_of_name pn_0) fun p e s m below meth c T0 X0 C e0 => go_cast (ef_rmB m a) ?_
  have N0 := Fr.nil n0
  obtain ⟨hx, hZ, hby, hml, hown, hnm, hret, hlk⟩ := C
  obtain ⟨hI, eI⟩ : ∃ z, z = h0 := ⟨_, rfl⟩
  have K0 : Keep hI h0 [] := by rw [eI]; exact Keep.refl _ _
  show Go _ _ _ _ _ _ _ T0 (mkF m 0 #[.val (.ref a)] [])
  refine Go.step (fun t k => XS.aloadN X0.here hx rfl (hb hby d4_0) rfl rfl k) ?_
  show Go _ _ _ _ _ _ _ T0 (mkF m 1 #[.val (.ref a)] [(.ref a)])
  obtain ⟨T1, X1, e1, st1⟩ := getF X0 hx hZ hown (host := "") (Or.inl (hw _ (List.mem_of_getElem? (i := 10) rfl))) Via.refl e0 F_0 (g := (mkF m 1 #[.val (.ref a)] [(.ref a)])) rfl rfl (hb hby d4_1)
  refine Go.step (st1) ?_
  show Go _ _ _ _ _ _ _ T1 (mkF m 4 #[.val (.ref a)] [(.ref k)])
  refine Go.step (fun t k => XS.aloadN X1.here hx rfl (hb hby d4_4) rfl rfl k) ?_
  show Go _ _ _ _ _ _ _ T1 (mkF m 5 #[.val (.ref a)] [(.ref a), (.ref k)])
  obtain ⟨T2, X2, e2, st2⟩ := getF X1 hx hZ hown (host := "") (Or.inl (hw _ (List.mem_of_getElem? (i := 17) rfl))) Via.refl e1 F_1 (g := (mkF m 5 #[.val (.ref a)] [(.ref a), (.ref k)])) rfl rfl (hb hby d4_5)
  refine Go.step (st2) ?_
  show Go _ _ _ _ _ _ _ T2 (mkF m 8 #[.val (.ref a)] [(.int (Int32.ofNat n)), (.ref k)])
  obtain ⟨v3, T3, L3, X3, q3, st3⟩ := c_static X2 hx hZ hown (y := (⟨"java/util/Arrays", "copyOf", "([BI)[B"⟩ : MethodName)) (hw _ (List.mem_of_getElem? (i := 26) rfl)) (hw _ (List.mem_of_getElem? (i := 27) rfl)) (hw _ (List.mem_of_getElem? (i := 28) rfl)) (hw _ (List.mem_of_getElem? (i := 29) rfl)) (by decide) (argsL := [(.ref k), (.int (Int32.ofNat n))]) (rest := []) (rmCp l Z a0 hw [] k n f h0 n0 Z0 hn V_k E_k hfit) e2 pd_0 rfl (by rw [hml]; rfl) (W := 0) (by show 2 * 0 + _ ≤ _; exact Nat.le_of_eq rfl) (by decide) (by decide) (by decide) (by decide) (hb hby d4_8) (Ls := #[.val (.ref a)])
  generalize e3 : T3.heap = h3 at q3
  obtain ⟨b3, rfl, N3q, K3q, sz3, V3k⟩ := q3
  have N3 := Fr.app N0 N3q
  have ne_a_b3 : a ≠ b3 := Nat.ne_of_lt (Nat.lt_of_lt_of_le E_a.lt sz3)
  have ne_k_b3 : k ≠ b3 := Nat.ne_of_lt (Nat.lt_of_lt_of_le V_k.lt sz3)
  have gn_b3 : n0 ≤ b3 := Nat.le_trans Z0 sz3
  have sz_b3 : hI.size ≤ b3 := Nat.le_trans K0.1 sz3
  have K3 : Keep hI h3 [] := K0.trans K3q all0
  have Z3 : n0 ≤ h3.size := Nat.le_trans Z0 K3q.1
  refine Go.step (st3) ?_
  show Go _ _ _ _ _ _ _ T3 (mkF m 11 #[.val (.ref a)] [(.ref b3)])
  refine go_retA X3 hx (t := (.array .byte)) hret rfl hlk rfl (hb hby d4_11) ?_ (by decide) (by decide)
  try rw [e3]
  exact ⟨b3, rfl, N3, eI ▸ K3, eI ▸ sz_b3, V3k⟩
theorem ef_rm0 (m : MethodId) (x0 : Int32) (x1 : Int32) (x2 : Int32) (x3 : Int32) (x4 : Int32) : entryFrame m #[(.int x0), (.int x1), (.int x2), (.int x3), (.int x4)] maxLocals = mkF m 0 #[.val (.int x0), .val (.int x1), .val (.int x2), .val (.int x3), .val (.int x4), .unset, .unset, .unset, .unset, .unset, .unset, .unset, .unset, .unset] [] := by first | (simp [entryFrame, mkF, argsToLocals, Value.category, maxLocals]; done) | rfl
theorem pn_2 : plainName "com/example/bearer/bearer/modem/LineBufferAddPinLaw" = true := by first | (simp [plainName, overriddenIn]; done) | decide +kernel
theorem pd_1 : parseMethodDescriptor "(I)V" = some ⟨[.int], none⟩ := by decide +kernel
theorem pd_2 : parseMethodDescriptor "(B)Z" = some ⟨[.byte], some .boolean⟩ := by decide +kernel
theorem pd_3 : parseMethodDescriptor "()[B" = some ⟨[], some (.array .byte)⟩ := by decide +kernel
theorem pd_4 : parseMethodDescriptor "()Z" = some ⟨[], some .boolean⟩ := by decide +kernel
set_option maxRecDepth 65536 in
set_option maxHeartbeats 40000000 in
theorem rm0 (l : Launch) (Z : State) (a0 : Array Value) (hw : ∀ d ∈ tables_1, d.before a0 Z = true) (ws : List Jvm.Cond) (i0 i1 i2 i3 i4 : Int32) (h0 : Heap) (n0 : Nat) (Z0 : n0 ≤ h0.size)  :
    Ctr l Z x code maxLocals ret ws room_1 16 128 #[(.int i0), (.int i1), (.int i2), (.int i3), (.int i4)] h0 (fun v h L => v = some (.int (1 : Int32)) ∧ Fr n0 L) := by
  refine Ctr.mk (plainFor_of_name pn_2) fun p e s m below meth c T0 X0 C e0 => go_cast (ef_rm0 m i0 i1 i2 i3 i4) ?_
  have N0 := Fr.nil n0
  obtain ⟨hx, hZ, hby, hml, hown, hnm, hret, hlk⟩ := C
  show Go _ _ _ _ _ _ _ T0 (mkF m 0 #[.val (.int i0), .val (.int i1), .val (.int i2), .val (.int i3), .val (.int i4), .unset, .unset, .unset, .unset, .unset, .unset, .unset, .unset, .unset] [])
  refine Go.step (fun t k => XS.iloadN X0.here hx rfl (hb hby at_0) rfl k) ?_
  show Go _ _ _ _ _ _ _ T0 (mkF m 1 #[.val (.int i0), .val (.int i1), .val (.int i2), .val (.int i3), .val (.int i4), .unset, .unset, .unset, .unset, .unset, .unset, .unset, .unset, .unset] [(.int i0)])
  refine Go.step (fun t k => XS.iconst X0.here hx rfl (hb hby at_1) k) ?_
  show Go _ _ _ _ _ _ _ T0 (mkF m 2 #[.val (.int i0), .val (.int i1), .val (.int i2), .val (.int i3), .val (.int i4), .unset, .unset, .unset, .unset, .unset, .unset, .unset, .unset, .unset] [(.int (3 : Int32)), (.int i0)])
  refine Go.step (fun t k => XS.iand X0.here hx rfl (hb hby at_2) rfl k) ?_
  show Go _ _ _ _ _ _ _ T0 (mkF m 3 #[.val (.int i0), .val (.int i1), .val (.int i2), .val (.int i3), .val (.int i4), .unset, .unset, .unset, .unset, .unset, .unset, .unset, .unset, .unset] [(.int (i0 &&& (3 : Int32)))])
  refine Go.step (fun t k => XS.iconst X0.here hx rfl (hb hby at_3) k) ?_
  show Go _ _ _ _ _ _ _ T0 (mkF m 4 #[.val (.int i0), .val (.int i1), .val (.int i2), .val (.int i3), .val (.int i4), .unset, .unset, .unset, .unset, .unset, .unset, .unset, .unset, .unset] [(.int (1 : Int32)), (.int (i0 &&& (3 : Int32)))])
  refine Go.step (fun t k => XS.iadd X0.here hx rfl (hb hby at_4) rfl k) ?_
  show Go _ _ _ _ _ _ _ T0 (mkF m 5 #[.val (.int i0), .val (.int i1), .val (.int i2), .val (.int i3), .val (.int i4), .unset, .unset, .unset, .unset, .unset, .unset, .unset, .unset, .unset] [(.int ((i0 &&& (3 : Int32)) + (1 : Int32)))])
  refine Go.step (fun t k => XS.istore X0.here hx rfl (hb hby at_5) rfl (l' := #[.val (.int i0), .val (.int i1), .val (.int i2), .val (.int i3), .val (.int i4), .val (.int ((i0 &&& (3 : Int32)) + (1 : Int32))), .unset, .unset, .unset, .unset, .unset, .unset, .unset, .unset]) rfl k) ?_
  show Go _ _ _ _ _ _ _ T0 (mkF m 7 #[.val (.int i0), .val (.int i1), .val (.int i2), .val (.int i3), .val (.int i4), .val (.int ((i0 &&& (3 : Int32)) + (1 : Int32))), .unset, .unset, .unset, .unset, .unset, .unset, .unset, .unset] [])
  obtain ⟨n, hn1, hn4, en⟩ := own_c i0
  rw [en]
  rcases (by omega : n = 1 ∨ n = 2 ∨ n = 3 ∨ n = 4) with rfl | rfl | rfl | rfl
  · show Go _ _ _ _ _ _ _ T0 (mkF m 7 #[.val (.int i0), .val (.int i1), .val (.int i2), .val (.int i3), .val (.int i4), .val (.int (1 : Int32)), .unset, .unset, .unset, .unset, .unset, .unset, .unset, .unset] [])
    refine Go.step (fun t k => XS.iconst X0.here hx rfl (hb hby at_7) k) ?_
    show Go _ _ _ _ _ _ _ T0 (mkF m 8 #[.val (.int i0), .val (.int i1), .val (.int i2), .val (.int i3), .val (.int i4), .val (.int (1 : Int32)), .unset, .unset, .unset, .unset, .unset, .unset, .unset, .unset] [(.int (4 : Int32))])
    obtain ⟨T1, h1, k1, X1, e1, E1, A1, EA1, st1⟩ := newPE X0 hx hZ (hw _ (List.mem_of_getElem? (i := 0) rfl)) e0 (g := (mkF m 8 #[.val (.int i0), .val (.int i1), .val (.int i2), .val (.int i3), .val (.int i4), .val (.int (1 : Int32)), .unset, .unset, .unset, .unset, .unset, .unset, .unset, .unset] [(.int (4 : Int32))])) rfl (hb hby at_8) rfl (by decide) (cap := 4) (by decide) (by decide) (by decide) (by decide) (ad := "[B") rfl
    obtain ⟨b1, g1⟩ : ∃ z, z = h0.size := ⟨_, rfl⟩
    rw [← g1] at A1 EA1 st1
    have gn_b1 : n0 ≤ b1 := Nat.le_trans Z0 (Nat.le_of_eq g1.symm)
    have Z1 : n0 ≤ h1.size := Nat.le_trans Z0 E1.1
    have V1 : AV Z h1 b1 .byte 4 (lst [(.int (0 : Int32)), (.int (0 : Int32)), (.int (0 : Int32)), (.int (0 : Int32))]) := AV.newL (AV.new A1 (by decide)) rfl
    refine Go.step (st1) ?_
    show Go _ _ _ _ _ _ _ T1 (mkF m 10 #[.val (.int i0), .val (.int i1), .val (.int i2), .val (.int i3), .val (.int i4), .val (.int (1 : Int32)), .unset, .unset, .unset, .unset, .unset, .unset, .unset, .unset] [(.ref b1)])
    refine Go.step (fun t k => XS.astore X1.here hx rfl (hb hby at_10) rfl rfl (l' := #[.val (.int i0), .val (.int i1), .val (.int i2), .val (.int i3), .val (.int i4), .val (.int (1 : Int32)), .val (.ref b1), .unset, .unset, .unset, .unset, .unset, .unset, .unset]) rfl k) ?_
    show Go _ _ _ _ _ _ _ T1 (mkF m 12 #[.val (.int i0), .val (.int i1), .val (.int i2), .val (.int i3), .val (.int i4), .val (.int (1 : Int32)), .val (.ref b1), .unset, .unset, .unset, .unset, .unset, .unset, .unset] [])
    refine Go.step (fun t k => XS.aload X1.here hx rfl (hb hby at_12) rfl rfl k) ?_
    show Go _ _ _ _ _ _ _ T1 (mkF m 14 #[.val (.int i0), .val (.int i1), .val (.int i2), .val (.int i3), .val (.int i4), .val (.int (1 : Int32)), .val (.ref b1), .unset, .unset, .unset, .unset, .unset, .unset, .unset] [(.ref b1)])
    refine Go.step (fun t k => XS.iconst X1.here hx rfl (hb hby at_14) k) ?_
    show Go _ _ _ _ _ _ _ T1 (mkF m 15 #[.val (.int i0), .val (.int i1), .val (.int i2), .val (.int i3), .val (.int i4), .val (.int (1 : Int32)), .val (.ref b1), .unset, .unset, .unset, .unset, .unset, .unset, .unset] [(.int (0 : Int32)), (.ref b1)])
    refine Go.step (fun t k => XS.iloadN X1.here hx rfl (hb hby at_15) rfl k) ?_
    show Go _ _ _ _ _ _ _ T1 (mkF m 16 #[.val (.int i0), .val (.int i1), .val (.int i2), .val (.int i3), .val (.int i4), .val (.int (1 : Int32)), .val (.ref b1), .unset, .unset, .unset, .unset, .unset, .unset, .unset] [(.int i1), (.int (0 : Int32)), (.ref b1)])
    refine Go.step (fun t k => XS.i2b X1.here hx rfl (hb hby at_16) rfl k) ?_
    show Go _ _ _ _ _ _ _ T1 (mkF m 17 #[.val (.int i0), .val (.int i1), .val (.int i2), .val (.int i3), .val (.int i4), .val (.int (1 : Int32)), .val (.ref b1), .unset, .unset, .unset, .unset, .unset, .unset, .unset] [(.int (i1.toInt8.toInt32)), (.int (0 : Int32)), (.ref b1)])
    obtain ⟨cl2, Ar2, hin2, -⟩ := V1.at (j := (0 : Int32)) (k := 0) (by decide) (by decide)
    obtain ⟨T2, h2, X2, e2, W2, st2⟩ := stB X1 hx hZ e1 Ar2 (j := (0 : Int32)) hin2 (g := (mkF m 17 #[.val (.int i0), .val (.int i1), .val (.int i2), .val (.int i3), .val (.int i4), .val (.int (1 : Int32)), .val (.ref b1), .unset, .unset, .unset, .unset, .unset, .unset, .unset] [(.int (i1.toInt8.toInt32)), (.int (0 : Int32)), (.ref b1)])) rfl rfl (hb hby at_17)
    have V2 : AV Z h2 b1 .byte 4 (lst [(.int (nar .byte (i1.toInt8.toInt32))), (.int (0 : Int32)), (.int (0 : Int32)), (.int (0 : Int32))]) := AV.setL V1 (k := 0) (by decide) (by decide) W2 (Nat.le_of_ble_eq_true rfl) rfl
    have N2 := Fr.snoc X2 N0 gn_b1
    have Z2 : n0 ≤ h2.size := Nat.le_trans Z1 (Keep.of_wr W2).1
    refine Go.step (st2) ?_
    show Go _ _ _ _ _ _ _ T2 (mkF m 18 #[.val (.int i0), .val (.int i1), .val (.int i2), .val (.int i3), .val (.int i4), .val (.int (1 : Int32)), .val (.ref b1), .unset, .unset, .unset, .unset, .unset, .unset, .unset] [])
    refine Go.step (fun t k => XS.aload X2.here hx rfl (hb hby at_18) rfl rfl k) ?_
    show Go _ _ _ _ _ _ _ T2 (mkF m 20 #[.val (.int i0), .val (.int i1), .val (.int i2), .val (.int i3), .val (.int i4), .val (.int (1 : Int32)), .val (.ref b1), .unset, .unset, .unset, .unset, .unset, .unset, .unset] [(.ref b1)])
    refine Go.step (fun t k => XS.iconst X2.here hx rfl (hb hby at_20) k) ?_
    show Go _ _ _ _ _ _ _ T2 (mkF m 21 #[.val (.int i0), .val (.int i1), .val (.int i2), .val (.int i3), .val (.int i4), .val (.int (1 : Int32)), .val (.ref b1), .unset, .unset, .unset, .unset, .unset, .unset, .unset] [(.int (1 : Int32)), (.ref b1)])
    refine Go.step (fun t k => XS.iloadN X2.here hx rfl (hb hby at_21) rfl k) ?_
    show Go _ _ _ _ _ _ _ T2 (mkF m 22 #[.val (.int i0), .val (.int i1), .val (.int i2), .val (.int i3), .val (.int i4), .val (.int (1 : Int32)), .val (.ref b1), .unset, .unset, .unset, .unset, .unset, .unset, .unset] [(.int i2), (.int (1 : Int32)), (.ref b1)])
    refine Go.step (fun t k => XS.i2b X2.here hx rfl (hb hby at_22) rfl k) ?_
    show Go _ _ _ _ _ _ _ T2 (mkF m 23 #[.val (.int i0), .val (.int i1), .val (.int i2), .val (.int i3), .val (.int i4), .val (.int (1 : Int32)), .val (.ref b1), .unset, .unset, .unset, .unset, .unset, .unset, .unset] [(.int (i2.toInt8.toInt32)), (.int (1 : Int32)), (.ref b1)])
    obtain ⟨cl3, Ar3, hin3, -⟩ := V2.at (j := (1 : Int32)) (k := 1) (by decide) (by decide)
    obtain ⟨T3, h3, X3, e3, W3, st3⟩ := stB X2 hx hZ e2 Ar3 (j := (1 : Int32)) hin3 (g := (mkF m 23 #[.val (.int i0), .val (.int i1), .val (.int i2), .val (.int i3), .val (.int i4), .val (.int (1 : Int32)), .val (.ref b1), .unset, .unset, .unset, .unset, .unset, .unset, .unset] [(.int (i2.toInt8.toInt32)), (.int (1 : Int32)), (.ref b1)])) rfl rfl (hb hby at_23)
    have V3 : AV Z h3 b1 .byte 4 (lst [(.int (nar .byte (i1.toInt8.toInt32))), (.int (nar .byte (i2.toInt8.toInt32))), (.int (0 : Int32)), (.int (0 : Int32))]) := AV.setL V2 (k := 1) (by decide) (by decide) W3 (Nat.le_of_ble_eq_true rfl) rfl
    have N3 := Fr.snoc X3 N2 gn_b1
    have Z3 : n0 ≤ h3.size := Nat.le_trans Z2 (Keep.of_wr W3).1
    refine Go.step (st3) ?_
    show Go _ _ _ _ _ _ _ T3 (mkF m 24 #[.val (.int i0), .val (.int i1), .val (.int i2), .val (.int i3), .val (.int i4), .val (.int (1 : Int32)), .val (.ref b1), .unset, .unset, .unset, .unset, .unset, .unset, .unset] [])
    refine Go.step (fun t k => XS.aload X3.here hx rfl (hb hby at_24) rfl rfl k) ?_
    show Go _ _ _ _ _ _ _ T3 (mkF m 26 #[.val (.int i0), .val (.int i1), .val (.int i2), .val (.int i3), .val (.int i4), .val (.int (1 : Int32)), .val (.ref b1), .unset, .unset, .unset, .unset, .unset, .unset, .unset] [(.ref b1)])
    refine Go.step (fun t k => XS.iconst X3.here hx rfl (hb hby at_26) k) ?_
    show Go _ _ _ _ _ _ _ T3 (mkF m 27 #[.val (.int i0), .val (.int i1), .val (.int i2), .val (.int i3), .val (.int i4), .val (.int (1 : Int32)), .val (.ref b1), .unset, .unset, .unset, .unset, .unset, .unset, .unset] [(.int (2 : Int32)), (.ref b1)])
    refine Go.step (fun t k => XS.iloadN X3.here hx rfl (hb hby at_27) rfl k) ?_
    show Go _ _ _ _ _ _ _ T3 (mkF m 28 #[.val (.int i0), .val (.int i1), .val (.int i2), .val (.int i3), .val (.int i4), .val (.int (1 : Int32)), .val (.ref b1), .unset, .unset, .unset, .unset, .unset, .unset, .unset] [(.int i3), (.int (2 : Int32)), (.ref b1)])
    refine Go.step (fun t k => XS.i2b X3.here hx rfl (hb hby at_28) rfl k) ?_
    show Go _ _ _ _ _ _ _ T3 (mkF m 29 #[.val (.int i0), .val (.int i1), .val (.int i2), .val (.int i3), .val (.int i4), .val (.int (1 : Int32)), .val (.ref b1), .unset, .unset, .unset, .unset, .unset, .unset, .unset] [(.int (i3.toInt8.toInt32)), (.int (2 : Int32)), (.ref b1)])
    obtain ⟨cl4, Ar4, hin4, -⟩ := V3.at (j := (2 : Int32)) (k := 2) (by decide) (by decide)
    obtain ⟨T4, h4, X4, e4, W4, st4⟩ := stB X3 hx hZ e3 Ar4 (j := (2 : Int32)) hin4 (g := (mkF m 29 #[.val (.int i0), .val (.int i1), .val (.int i2), .val (.int i3), .val (.int i4), .val (.int (1 : Int32)), .val (.ref b1), .unset, .unset, .unset, .unset, .unset, .unset, .unset] [(.int (i3.toInt8.toInt32)), (.int (2 : Int32)), (.ref b1)])) rfl rfl (hb hby at_29)
    have V4 : AV Z h4 b1 .byte 4 (lst [(.int (nar .byte (i1.toInt8.toInt32))), (.int (nar .byte (i2.toInt8.toInt32))), (.int (nar .byte (i3.toInt8.toInt32))), (.int (0 : Int32))]) := AV.setL V3 (k := 2) (by decide) (by decide) W4 (Nat.le_of_ble_eq_true rfl) rfl
    have N4 := Fr.snoc X4 N3 gn_b1
    have Z4 : n0 ≤ h4.size := Nat.le_trans Z3 (Keep.of_wr W4).1
    refine Go.step (st4) ?_
    show Go _ _ _ _ _ _ _ T4 (mkF m 30 #[.val (.int i0), .val (.int i1), .val (.int i2), .val (.int i3), .val (.int i4), .val (.int (1 : Int32)), .val (.ref b1), .unset, .unset, .unset, .unset, .unset, .unset, .unset] [])
    refine Go.step (fun t k => XS.aload X4.here hx rfl (hb hby at_30) rfl rfl k) ?_
    show Go _ _ _ _ _ _ _ T4 (mkF m 32 #[.val (.int i0), .val (.int i1), .val (.int i2), .val (.int i3), .val (.int i4), .val (.int (1 : Int32)), .val (.ref b1), .unset, .unset, .unset, .unset, .unset, .unset, .unset] [(.ref b1)])
    refine Go.step (fun t k => XS.iconst X4.here hx rfl (hb hby at_32) k) ?_
    show Go _ _ _ _ _ _ _ T4 (mkF m 33 #[.val (.int i0), .val (.int i1), .val (.int i2), .val (.int i3), .val (.int i4), .val (.int (1 : Int32)), .val (.ref b1), .unset, .unset, .unset, .unset, .unset, .unset, .unset] [(.int (3 : Int32)), (.ref b1)])
    refine Go.step (fun t k => XS.iload X4.here hx rfl (hb hby at_33) rfl k) ?_
    show Go _ _ _ _ _ _ _ T4 (mkF m 35 #[.val (.int i0), .val (.int i1), .val (.int i2), .val (.int i3), .val (.int i4), .val (.int (1 : Int32)), .val (.ref b1), .unset, .unset, .unset, .unset, .unset, .unset, .unset] [(.int i4), (.int (3 : Int32)), (.ref b1)])
    refine Go.step (fun t k => XS.i2b X4.here hx rfl (hb hby at_35) rfl k) ?_
    show Go _ _ _ _ _ _ _ T4 (mkF m 36 #[.val (.int i0), .val (.int i1), .val (.int i2), .val (.int i3), .val (.int i4), .val (.int (1 : Int32)), .val (.ref b1), .unset, .unset, .unset, .unset, .unset, .unset, .unset] [(.int (i4.toInt8.toInt32)), (.int (3 : Int32)), (.ref b1)])
    obtain ⟨cl5, Ar5, hin5, -⟩ := V4.at (j := (3 : Int32)) (k := 3) (by decide) (by decide)
    obtain ⟨T5, h5, X5, e5, W5, st5⟩ := stB X4 hx hZ e4 Ar5 (j := (3 : Int32)) hin5 (g := (mkF m 36 #[.val (.int i0), .val (.int i1), .val (.int i2), .val (.int i3), .val (.int i4), .val (.int (1 : Int32)), .val (.ref b1), .unset, .unset, .unset, .unset, .unset, .unset, .unset] [(.int (i4.toInt8.toInt32)), (.int (3 : Int32)), (.ref b1)])) rfl rfl (hb hby at_36)
    have V5 : AV Z h5 b1 .byte 4 (lst [(.int (nar .byte (i1.toInt8.toInt32))), (.int (nar .byte (i2.toInt8.toInt32))), (.int (nar .byte (i3.toInt8.toInt32))), (.int (nar .byte (i4.toInt8.toInt32)))]) := AV.setL V4 (k := 3) (by decide) (by decide) W5 (Nat.le_of_ble_eq_true rfl) rfl
    have N5 := Fr.snoc X5 N4 gn_b1
    have Z5 : n0 ≤ h5.size := Nat.le_trans Z4 (Keep.of_wr W5).1
    refine Go.step (st5) ?_
    show Go _ _ _ _ _ _ _ T5 (mkF m 37 #[.val (.int i0), .val (.int i1), .val (.int i2), .val (.int i3), .val (.int i4), .val (.int (1 : Int32)), .val (.ref b1), .unset, .unset, .unset, .unset, .unset, .unset, .unset] [])
    obtain ⟨T6, h6, X6, e6, E6, A6, D6, -, st6⟩ := newO X5 hx hZ hown (hw _ (List.mem_of_getElem? (i := 1) rfl)) (hw _ (List.mem_of_getElem? (i := 2) rfl)) (hw _ (List.mem_of_getElem? (i := 3) rfl)) e5 (g := (mkF m 37 #[.val (.int i0), .val (.int i1), .val (.int i2), .val (.int i3), .val (.int i4), .val (.int (1 : Int32)), .val (.ref b1), .unset, .unset, .unset, .unset, .unset, .unset, .unset] [])) rfl (hb hby at_37) (by decide) (by decide)
    obtain ⟨b6, g6⟩ : ∃ z, z = h5.size := ⟨_, rfl⟩
    rw [← g6] at A6 D6 st6
    have f7 := (Exa.wr W5 (Exa.wr W4 (Exa.wr W3 (Exa.wr W2 EA1))))
    have ne_b1_b6 : b1 ≠ b6 := Nat.ne_of_lt (Nat.lt_of_lt_of_le f7.lt (Nat.le_of_eq g6.symm))
    have gn_b6 : n0 ≤ b6 := Nat.le_trans Z5 (Nat.le_of_eq g6.symm)
    have Z6 : n0 ≤ h6.size := Nat.le_trans Z5 E6.1
    have F6_kept : Fld Z h6 b6 "com/example/bearer/bearer/modem/LineBuffer" "kept" "[B" .null := D6 (Or.inr (hw _ (List.mem_of_getElem? (i := 11) rfl))) (ty := (.array .byte)) (by decide)
    have F6_length : Fld Z h6 b6 "com/example/bearer/bearer/modem/LineBuffer" "length" "I" (.int (0 : Int32)) := D6 (Or.inl (hw _ (List.mem_of_getElem? (i := 18) rfl))) (ty := .int) (by decide)
    have F6_cut : Fld Z h6 b6 "com/example/bearer/bearer/modem/LineBuffer" "cut" "Z" (.int (0 : Int32)) := D6 (Or.inl (hw _ (List.mem_of_getElem? (i := 20) rfl))) (ty := .boolean) (by decide)
    refine Go.step (st6) ?_
    show Go _ _ _ _ _ _ _ T6 (mkF m 40 #[.val (.int i0), .val (.int i1), .val (.int i2), .val (.int i3), .val (.int i4), .val (.int (1 : Int32)), .val (.ref b1), .unset, .unset, .unset, .unset, .unset, .unset, .unset] [(.ref b6)])
    refine Go.step (fun t k => XS.dup X6.here hx rfl (hb hby at_40) rfl rfl k) ?_
    show Go _ _ _ _ _ _ _ T6 (mkF m 41 #[.val (.int i0), .val (.int i1), .val (.int i2), .val (.int i3), .val (.int i4), .val (.int (1 : Int32)), .val (.ref b1), .unset, .unset, .unset, .unset, .unset, .unset, .unset] [(.ref b6), (.ref b6)])
    refine Go.step (fun t k => XS.iload X6.here hx rfl (hb hby at_41) rfl k) ?_
    show Go _ _ _ _ _ _ _ T6 (mkF m 43 #[.val (.int i0), .val (.int i1), .val (.int i2), .val (.int i3), .val (.int i4), .val (.int (1 : Int32)), .val (.ref b1), .unset, .unset, .unset, .unset, .unset, .unset, .unset] [(.int (1 : Int32)), (.ref b6), (.ref b6)])
    have f9 := (Exa.ext E6 f7)
    obtain ⟨v8, T8, L8, X8, q8, st8⟩ := c_init X6 hx hZ hown (y := (⟨"com/example/bearer/bearer/modem/LineBuffer", "<init>", "(I)V"⟩ : MethodName)) (hw _ (List.mem_of_getElem? (i := 4) rfl)) (hw _ (List.mem_of_getElem? (i := 5) rfl)) (hw _ (List.mem_of_getElem? (i := 3) rfl)) (hw _ (List.mem_of_getElem? (i := 6) rfl)) rfl (by decide) (a := b6) (argsL := [(.int (1 : Int32))]) (rest := [(.ref b6)]) (rmI l Z a0 hw [] b6 1 h6 n0 Z6 (by decide) (by decide) A6 F6_kept F6_length F6_cut gn_b6) e6 pd_1 rfl (by rw [hml]; rfl) (W := 1) (by show 2 * 0 + _ ≤ _; exact Nat.le_of_eq rfl) (by decide) (by decide) (by decide) (by decide) (hb hby at_43) (Ls := #[.val (.int i0), .val (.int i1), .val (.int i2), .val (.int i3), .val (.int i4), .val (.int (1 : Int32)), .val (.ref b1), .unset, .unset, .unset, .unset, .unset, .unset, .unset])
    generalize e8 : T8.heap = h8 at q8
    obtain ⟨rfl, N8q, K8q, b8, sz8, E8q, E8k, F8q0, F8q1, F8q2, V8k⟩ := q8
    have N8 := Fr.app N5 N8q
    have ne_b1_b8 : b1 ≠ b8 := Nat.ne_of_lt (Nat.lt_of_lt_of_le f9.lt sz8)
    have ne_b6_b8 : b6 ≠ b8 := Nat.ne_of_lt (Nat.lt_of_lt_of_le A6.lt sz8)
    have gn_b8 : n0 ≤ b8 := Nat.le_trans Z6 sz8
    have Z8 : n0 ≤ h8.size := Nat.le_trans Z6 K8q.1
    refine Go.step (st8) ?_
    show Go _ _ _ _ _ _ _ T8 (mkF m 46 #[.val (.int i0), .val (.int i1), .val (.int i2), .val (.int i3), .val (.int i4), .val (.int (1 : Int32)), .val (.ref b1), .unset, .unset, .unset, .unset, .unset, .unset, .unset] [(.ref b6)])
    refine Go.step (fun t k => XS.astore X8.here hx rfl (hb hby at_46) rfl rfl (l' := #[.val (.int i0), .val (.int i1), .val (.int i2), .val (.int i3), .val (.int i4), .val (.int (1 : Int32)), .val (.ref b1), .val (.ref b6), .unset, .unset, .unset, .unset, .unset, .unset]) rfl k) ?_
    show Go _ _ _ _ _ _ _ T8 (mkF m 48 #[.val (.int i0), .val (.int i1), .val (.int i2), .val (.int i3), .val (.int i4), .val (.int (1 : Int32)), .val (.ref b1), .val (.ref b6), .unset, .unset, .unset, .unset, .unset, .unset] [])
    refine Go.step (fun t k => XS.aload X8.here hx rfl (hb hby at_48) rfl rfl k) ?_
    show Go _ _ _ _ _ _ _ T8 (mkF m 50 #[.val (.int i0), .val (.int i1), .val (.int i2), .val (.int i3), .val (.int i4), .val (.int (1 : Int32)), .val (.ref b1), .val (.ref b6), .unset, .unset, .unset, .unset, .unset, .unset] [(.ref b6)])
    refine Go.step (fun t k => XS.aload X8.here hx rfl (hb hby at_50) rfl rfl k) ?_
    show Go _ _ _ _ _ _ _ T8 (mkF m 52 #[.val (.int i0), .val (.int i1), .val (.int i2), .val (.int i3), .val (.int i4), .val (.int (1 : Int32)), .val (.ref b1), .val (.ref b6), .unset, .unset, .unset, .unset, .unset, .unset] [(.ref b1), (.ref b6)])
    refine Go.step (fun t k => XS.iconst X8.here hx rfl (hb hby at_52) k) ?_
    show Go _ _ _ _ _ _ _ T8 (mkF m 53 #[.val (.int i0), .val (.int i1), .val (.int i2), .val (.int i3), .val (.int i4), .val (.int (1 : Int32)), .val (.ref b1), .val (.ref b6), .unset, .unset, .unset, .unset, .unset, .unset] [(.int (0 : Int32)), (.ref b1), (.ref b6)])
    have f10 := ((V5.ext E6).keep K8q (ninS ne_b1_b6 nin0))
    refine Go.step (a_bload X8 hx hZ e8 f10 (k := 0) (by decide) (by decide) (x := (nar .byte (i1.toInt8.toInt32))) rfl (hb hby at_53)) ?_
    show Go _ _ _ _ _ _ _ T8 (mkF m 54 #[.val (.int i0), .val (.int i1), .val (.int i2), .val (.int i3), .val (.int i4), .val (.int (1 : Int32)), .val (.ref b1), .val (.ref b6), .unset, .unset, .unset, .unset, .unset, .unset] [(.int (nar .byte (i1.toInt8.toInt32))), (.ref b6)])
    obtain ⟨v11, T11, L11, X11, q11, st11⟩ := c_virt X8 hx hZ hown (y' := (⟨"com/example/bearer/bearer/modem/LineBuffer", "add", "(B)Z"⟩ : MethodName)) (y := (⟨"com/example/bearer/bearer/modem/LineBuffer", "add", "(B)Z"⟩ : MethodName)) (C := "com/example/bearer/bearer/modem/LineBuffer") (hw _ (List.mem_of_getElem? (i := 12) rfl)) (hw _ (List.mem_of_getElem? (i := 13) rfl)) (notFace_of_selects (args := #[]) (mvT hZ (hw _ (List.mem_of_getElem? (i := 15) rfl)))) (hw _ (List.mem_of_getElem? (i := 15) rfl)) (hw _ (List.mem_of_getElem? (i := 14) rfl)) (hw _ (List.mem_of_getElem? (i := 3) rfl)) (hw _ (List.mem_of_getElem? (i := 16) rfl)) (by decide) (a := b6) (argsL := [(.int (nar .byte (i1.toInt8.toInt32)))]) (rest := []) (rmY l Z a0 hw [] b6 b8 1 0 false (fun _ => .int (0 : Int32)) (nar .byte (i1.toInt8.toInt32)) h8 n0 Z8 (by decide) (by decide) (by decide) E8q F8q0 F8q1 F8q2 V8k E8k ne_b6_b8 gn_b6 gn_b8  (by decide)) e8 E8q pd_2 rfl (by rw [hml]; rfl) (W := 0) (by show 2 * 0 + _ ≤ _; exact Nat.le_of_eq rfl) (by decide) (by decide) (by decide) (by decide) (hb hby at_54) (Ls := #[.val (.int i0), .val (.int i1), .val (.int i2), .val (.int i3), .val (.int i4), .val (.int (1 : Int32)), .val (.ref b1), .val (.ref b6), .unset, .unset, .unset, .unset, .unset, .unset])
    generalize e11 : T11.heap = h11 at q11
    obtain ⟨rfl, N11q, K11q, E11q, E11k, F11q0, F11q1, F11q2, V11k⟩ := q11
    have N11 := Fr.app N8 N11q
    have Z11 : n0 ≤ h11.size := Nat.le_trans Z8 K11q.1
    refine Go.step (st11) ?_
    show Go _ _ _ _ _ _ _ T11 (mkF m 57 #[.val (.int i0), .val (.int i1), .val (.int i2), .val (.int i3), .val (.int i4), .val (.int (1 : Int32)), .val (.ref b1), .val (.ref b6), .unset, .unset, .unset, .unset, .unset, .unset] [(.int (0 : Int32))])
    refine Go.step (fun t k => XS.istore X11.here hx rfl (hb hby at_57) rfl (l' := #[.val (.int i0), .val (.int i1), .val (.int i2), .val (.int i3), .val (.int i4), .val (.int (1 : Int32)), .val (.ref b1), .val (.ref b6), .val (.int (0 : Int32)), .unset, .unset, .unset, .unset, .unset]) rfl k) ?_
    show Go _ _ _ _ _ _ _ T11 (mkF m 59 #[.val (.int i0), .val (.int i1), .val (.int i2), .val (.int i3), .val (.int i4), .val (.int (1 : Int32)), .val (.ref b1), .val (.ref b6), .val (.int (0 : Int32)), .unset, .unset, .unset, .unset, .unset] [])
    refine Go.step (fun t k => XS.aload X11.here hx rfl (hb hby at_59) rfl rfl k) ?_
    show Go _ _ _ _ _ _ _ T11 (mkF m 61 #[.val (.int i0), .val (.int i1), .val (.int i2), .val (.int i3), .val (.int i4), .val (.int (1 : Int32)), .val (.ref b1), .val (.ref b6), .val (.int (0 : Int32)), .unset, .unset, .unset, .unset, .unset] [(.ref b6)])
    refine Go.step (fun t k => XS.aload X11.here hx rfl (hb hby at_61) rfl rfl k) ?_
    show Go _ _ _ _ _ _ _ T11 (mkF m 63 #[.val (.int i0), .val (.int i1), .val (.int i2), .val (.int i3), .val (.int i4), .val (.int (1 : Int32)), .val (.ref b1), .val (.ref b6), .val (.int (0 : Int32)), .unset, .unset, .unset, .unset, .unset] [(.ref b1), (.ref b6)])
    refine Go.step (fun t k => XS.iconst X11.here hx rfl (hb hby at_63) k) ?_
    show Go _ _ _ _ _ _ _ T11 (mkF m 64 #[.val (.int i0), .val (.int i1), .val (.int i2), .val (.int i3), .val (.int i4), .val (.int (1 : Int32)), .val (.ref b1), .val (.ref b6), .val (.int (0 : Int32)), .unset, .unset, .unset, .unset, .unset] [(.int (1 : Int32)), (.ref b1), (.ref b6)])
    have f12 := (f10.keep K11q (ninS ne_b1_b6 (ninS ne_b1_b8 nin0)))
    refine Go.step (a_bload X11 hx hZ e11 f12 (k := 1) (by decide) (by decide) (x := (nar .byte (i2.toInt8.toInt32))) rfl (hb hby at_64)) ?_
    show Go _ _ _ _ _ _ _ T11 (mkF m 65 #[.val (.int i0), .val (.int i1), .val (.int i2), .val (.int i3), .val (.int i4), .val (.int (1 : Int32)), .val (.ref b1), .val (.ref b6), .val (.int (0 : Int32)), .unset, .unset, .unset, .unset, .unset] [(.int (nar .byte (i2.toInt8.toInt32))), (.ref b6)])
    obtain ⟨v13, T13, L13, X13, q13, st13⟩ := c_virt X11 hx hZ hown (y' := (⟨"com/example/bearer/bearer/modem/LineBuffer", "add", "(B)Z"⟩ : MethodName)) (y := (⟨"com/example/bearer/bearer/modem/LineBuffer", "add", "(B)Z"⟩ : MethodName)) (C := "com/example/bearer/bearer/modem/LineBuffer") (hw _ (List.mem_of_getElem? (i := 12) rfl)) (hw _ (List.mem_of_getElem? (i := 13) rfl)) (notFace_of_selects (args := #[]) (mvT hZ (hw _ (List.mem_of_getElem? (i := 15) rfl)))) (hw _ (List.mem_of_getElem? (i := 15) rfl)) (hw _ (List.mem_of_getElem? (i := 14) rfl)) (hw _ (List.mem_of_getElem? (i := 3) rfl)) (hw _ (List.mem_of_getElem? (i := 16) rfl)) (by decide) (a := b6) (argsL := [(.int (nar .byte (i2.toInt8.toInt32)))]) (rest := []) (rmF l Z a0 hw [] b6 b8 1 1 false (upd (fun _ => .int (0 : Int32)) 0 (.int (nar .byte (nar .byte (i1.toInt8.toInt32))))) (nar .byte (i2.toInt8.toInt32)) h11 n0 Z11 (by decide) (by decide) (by decide) E11q F11q0 F11q1 F11q2 V11k E11k ne_b6_b8 gn_b6 gn_b8  (by decide)) e11 E11q pd_2 rfl (by rw [hml]; rfl) (W := 0) (by show 2 * 0 + _ ≤ _; exact Nat.le_of_eq rfl) (by decide) (by decide) (by decide) (by decide) (hb hby at_65) (Ls := #[.val (.int i0), .val (.int i1), .val (.int i2), .val (.int i3), .val (.int i4), .val (.int (1 : Int32)), .val (.ref b1), .val (.ref b6), .val (.int (0 : Int32)), .unset, .unset, .unset, .unset, .unset])
    generalize e13 : T13.heap = h13 at q13
    obtain ⟨rfl, N13q, K13q, E13q, E13k, F13q0, F13q1, F13q2, V13k⟩ := q13
    have N13 := Fr.app N11 N13q
    have Z13 : n0 ≤ h13.size := Nat.le_trans Z11 K13q.1
    refine Go.step (st13) ?_
    show Go _ _ _ _ _ _ _ T13 (mkF m 68 #[.val (.int i0), .val (.int i1), .val (.int i2), .val (.int i3), .val (.int i4), .val (.int (1 : Int32)), .val (.ref b1), .val (.ref b6), .val (.int (0 : Int32)), .unset, .unset, .unset, .unset, .unset] [(.int (bi (¬ (false = true))))])
    refine Go.step (fun t k => XS.istore X13.here hx rfl (hb hby at_68) rfl (l' := #[.val (.int i0), .val (.int i1), .val (.int i2), .val (.int i3), .val (.int i4), .val (.int (1 : Int32)), .val (.ref b1), .val (.ref b6), .val (.int (0 : Int32)), .val (.int (bi (¬ (false = true)))), .unset, .unset, .unset, .unset]) rfl k) ?_
    show Go _ _ _ _ _ _ _ T13 (mkF m 70 #[.val (.int i0), .val (.int i1), .val (.int i2), .val (.int i3), .val (.int i4), .val (.int (1 : Int32)), .val (.ref b1), .val (.ref b6), .val (.int (0 : Int32)), .val (.int (bi (¬ (false = true)))), .unset, .unset, .unset, .unset] [])
    refine Go.step (fun t k => XS.aload X13.here hx rfl (hb hby at_70) rfl rfl k) ?_
    show Go _ _ _ _ _ _ _ T13 (mkF m 72 #[.val (.int i0), .val (.int i1), .val (.int i2), .val (.int i3), .val (.int i4), .val (.int (1 : Int32)), .val (.ref b1), .val (.ref b6), .val (.int (0 : Int32)), .val (.int (bi (¬ (false = true)))), .unset, .unset, .unset, .unset] [(.ref b6)])
    refine Go.step (fun t k => XS.aload X13.here hx rfl (hb hby at_72) rfl rfl k) ?_
    show Go _ _ _ _ _ _ _ T13 (mkF m 74 #[.val (.int i0), .val (.int i1), .val (.int i2), .val (.int i3), .val (.int i4), .val (.int (1 : Int32)), .val (.ref b1), .val (.ref b6), .val (.int (0 : Int32)), .val (.int (bi (¬ (false = true)))), .unset, .unset, .unset, .unset] [(.ref b1), (.ref b6)])
    refine Go.step (fun t k => XS.iconst X13.here hx rfl (hb hby at_74) k) ?_
    show Go _ _ _ _ _ _ _ T13 (mkF m 75 #[.val (.int i0), .val (.int i1), .val (.int i2), .val (.int i3), .val (.int i4), .val (.int (1 : Int32)), .val (.ref b1), .val (.ref b6), .val (.int (0 : Int32)), .val (.int (bi (¬ (false = true)))), .unset, .unset, .unset, .unset] [(.int (2 : Int32)), (.ref b1), (.ref b6)])
    have f14 := (f12.keep K13q (ninS ne_b1_b6 (ninS ne_b1_b8 nin0)))
    refine Go.step (a_bload X13 hx hZ e13 f14 (k := 2) (by decide) (by decide) (x := (nar .byte (i3.toInt8.toInt32))) rfl (hb hby at_75)) ?_
    show Go _ _ _ _ _ _ _ T13 (mkF m 76 #[.val (.int i0), .val (.int i1), .val (.int i2), .val (.int i3), .val (.int i4), .val (.int (1 : Int32)), .val (.ref b1), .val (.ref b6), .val (.int (0 : Int32)), .val (.int (bi (¬ (false = true)))), .unset, .unset, .unset, .unset] [(.int (nar .byte (i3.toInt8.toInt32))), (.ref b6)])
    obtain ⟨v15, T15, L15, X15, q15, st15⟩ := c_virt X13 hx hZ hown (y' := (⟨"com/example/bearer/bearer/modem/LineBuffer", "add", "(B)Z"⟩ : MethodName)) (y := (⟨"com/example/bearer/bearer/modem/LineBuffer", "add", "(B)Z"⟩ : MethodName)) (C := "com/example/bearer/bearer/modem/LineBuffer") (hw _ (List.mem_of_getElem? (i := 12) rfl)) (hw _ (List.mem_of_getElem? (i := 13) rfl)) (notFace_of_selects (args := #[]) (mvT hZ (hw _ (List.mem_of_getElem? (i := 15) rfl)))) (hw _ (List.mem_of_getElem? (i := 15) rfl)) (hw _ (List.mem_of_getElem? (i := 14) rfl)) (hw _ (List.mem_of_getElem? (i := 3) rfl)) (hw _ (List.mem_of_getElem? (i := 16) rfl)) (by decide) (a := b6) (argsL := [(.int (nar .byte (i3.toInt8.toInt32)))]) (rest := []) (rmF l Z a0 hw [] b6 b8 1 1 true (upd (fun _ => .int (0 : Int32)) 0 (.int (nar .byte (nar .byte (i1.toInt8.toInt32))))) (nar .byte (i3.toInt8.toInt32)) h13 n0 Z13 (by decide) (by decide) (by decide) E13q F13q0 F13q1 F13q2 V13k E13k ne_b6_b8 gn_b6 gn_b8  (by decide)) e13 E13q pd_2 rfl (by rw [hml]; rfl) (W := 0) (by show 2 * 0 + _ ≤ _; exact Nat.le_of_eq rfl) (by decide) (by decide) (by decide) (by decide) (hb hby at_76) (Ls := #[.val (.int i0), .val (.int i1), .val (.int i2), .val (.int i3), .val (.int i4), .val (.int (1 : Int32)), .val (.ref b1), .val (.ref b6), .val (.int (0 : Int32)), .val (.int (bi (¬ (false = true)))), .unset, .unset, .unset, .unset])
    generalize e15 : T15.heap = h15 at q15
    obtain ⟨rfl, N15q, K15q, E15q, E15k, F15q0, F15q1, F15q2, V15k⟩ := q15
    have N15 := Fr.app N13 N15q
    have Z15 : n0 ≤ h15.size := Nat.le_trans Z13 K15q.1
    refine Go.step (st15) ?_
    show Go _ _ _ _ _ _ _ T15 (mkF m 79 #[.val (.int i0), .val (.int i1), .val (.int i2), .val (.int i3), .val (.int i4), .val (.int (1 : Int32)), .val (.ref b1), .val (.ref b6), .val (.int (0 : Int32)), .val (.int (bi (¬ (false = true)))), .unset, .unset, .unset, .unset] [(.int (bi (¬ (true = true))))])
    refine Go.step (fun t k => XS.istore X15.here hx rfl (hb hby at_79) rfl (l' := #[.val (.int i0), .val (.int i1), .val (.int i2), .val (.int i3), .val (.int i4), .val (.int (1 : Int32)), .val (.ref b1), .val (.ref b6), .val (.int (0 : Int32)), .val (.int (bi (¬ (false = true)))), .val (.int (bi (¬ (true = true)))), .unset, .unset, .unset]) rfl k) ?_
    show Go _ _ _ _ _ _ _ T15 (mkF m 81 #[.val (.int i0), .val (.int i1), .val (.int i2), .val (.int i3), .val (.int i4), .val (.int (1 : Int32)), .val (.ref b1), .val (.ref b6), .val (.int (0 : Int32)), .val (.int (bi (¬ (false = true)))), .val (.int (bi (¬ (true = true)))), .unset, .unset, .unset] [])
    refine Go.step (fun t k => XS.aload X15.here hx rfl (hb hby at_81) rfl rfl k) ?_
    show Go _ _ _ _ _ _ _ T15 (mkF m 83 #[.val (.int i0), .val (.int i1), .val (.int i2), .val (.int i3), .val (.int i4), .val (.int (1 : Int32)), .val (.ref b1), .val (.ref b6), .val (.int (0 : Int32)), .val (.int (bi (¬ (false = true)))), .val (.int (bi (¬ (true = true)))), .unset, .unset, .unset] [(.ref b6)])
    refine Go.step (fun t k => XS.aload X15.here hx rfl (hb hby at_83) rfl rfl k) ?_
    show Go _ _ _ _ _ _ _ T15 (mkF m 85 #[.val (.int i0), .val (.int i1), .val (.int i2), .val (.int i3), .val (.int i4), .val (.int (1 : Int32)), .val (.ref b1), .val (.ref b6), .val (.int (0 : Int32)), .val (.int (bi (¬ (false = true)))), .val (.int (bi (¬ (true = true)))), .unset, .unset, .unset] [(.ref b1), (.ref b6)])
    refine Go.step (fun t k => XS.iconst X15.here hx rfl (hb hby at_85) k) ?_
    show Go _ _ _ _ _ _ _ T15 (mkF m 86 #[.val (.int i0), .val (.int i1), .val (.int i2), .val (.int i3), .val (.int i4), .val (.int (1 : Int32)), .val (.ref b1), .val (.ref b6), .val (.int (0 : Int32)), .val (.int (bi (¬ (false = true)))), .val (.int (bi (¬ (true = true)))), .unset, .unset, .unset] [(.int (3 : Int32)), (.ref b1), (.ref b6)])
    have f16 := (f14.keep K15q (ninS ne_b1_b6 (ninS ne_b1_b8 nin0)))
    refine Go.step (a_bload X15 hx hZ e15 f16 (k := 3) (by decide) (by decide) (x := (nar .byte (i4.toInt8.toInt32))) rfl (hb hby at_86)) ?_
    show Go _ _ _ _ _ _ _ T15 (mkF m 87 #[.val (.int i0), .val (.int i1), .val (.int i2), .val (.int i3), .val (.int i4), .val (.int (1 : Int32)), .val (.ref b1), .val (.ref b6), .val (.int (0 : Int32)), .val (.int (bi (¬ (false = true)))), .val (.int (bi (¬ (true = true)))), .unset, .unset, .unset] [(.int (nar .byte (i4.toInt8.toInt32))), (.ref b6)])
    obtain ⟨v17, T17, L17, X17, q17, st17⟩ := c_virt X15 hx hZ hown (y' := (⟨"com/example/bearer/bearer/modem/LineBuffer", "add", "(B)Z"⟩ : MethodName)) (y := (⟨"com/example/bearer/bearer/modem/LineBuffer", "add", "(B)Z"⟩ : MethodName)) (C := "com/example/bearer/bearer/modem/LineBuffer") (hw _ (List.mem_of_getElem? (i := 12) rfl)) (hw _ (List.mem_of_getElem? (i := 13) rfl)) (notFace_of_selects (args := #[]) (mvT hZ (hw _ (List.mem_of_getElem? (i := 15) rfl)))) (hw _ (List.mem_of_getElem? (i := 15) rfl)) (hw _ (List.mem_of_getElem? (i := 14) rfl)) (hw _ (List.mem_of_getElem? (i := 3) rfl)) (hw _ (List.mem_of_getElem? (i := 16) rfl)) (by decide) (a := b6) (argsL := [(.int (nar .byte (i4.toInt8.toInt32)))]) (rest := []) (rmF l Z a0 hw [] b6 b8 1 1 true (upd (fun _ => .int (0 : Int32)) 0 (.int (nar .byte (nar .byte (i1.toInt8.toInt32))))) (nar .byte (i4.toInt8.toInt32)) h15 n0 Z15 (by decide) (by decide) (by decide) E15q F15q0 F15q1 F15q2 V15k E15k ne_b6_b8 gn_b6 gn_b8  (by decide)) e15 E15q pd_2 rfl (by rw [hml]; rfl) (W := 0) (by show 2 * 0 + _ ≤ _; exact Nat.le_of_eq rfl) (by decide) (by decide) (by decide) (by decide) (hb hby at_87) (Ls := #[.val (.int i0), .val (.int i1), .val (.int i2), .val (.int i3), .val (.int i4), .val (.int (1 : Int32)), .val (.ref b1), .val (.ref b6), .val (.int (0 : Int32)), .val (.int (bi (¬ (false = true)))), .val (.int (bi (¬ (true = true)))), .unset, .unset, .unset])
    generalize e17 : T17.heap = h17 at q17
    obtain ⟨rfl, N17q, K17q, E17q, E17k, F17q0, F17q1, F17q2, V17k⟩ := q17
    have N17 := Fr.app N15 N17q
    have Z17 : n0 ≤ h17.size := Nat.le_trans Z15 K17q.1
    refine Go.step (st17) ?_
    show Go _ _ _ _ _ _ _ T17 (mkF m 90 #[.val (.int i0), .val (.int i1), .val (.int i2), .val (.int i3), .val (.int i4), .val (.int (1 : Int32)), .val (.ref b1), .val (.ref b6), .val (.int (0 : Int32)), .val (.int (bi (¬ (false = true)))), .val (.int (bi (¬ (true = true)))), .unset, .unset, .unset] [(.int (bi (¬ (true = true))))])
    refine Go.step (fun t k => XS.istore X17.here hx rfl (hb hby at_90) rfl (l' := #[.val (.int i0), .val (.int i1), .val (.int i2), .val (.int i3), .val (.int i4), .val (.int (1 : Int32)), .val (.ref b1), .val (.ref b6), .val (.int (0 : Int32)), .val (.int (bi (¬ (false = true)))), .val (.int (bi (¬ (true = true)))), .val (.int (bi (¬ (true = true)))), .unset, .unset]) rfl k) ?_
    show Go _ _ _ _ _ _ _ T17 (mkF m 92 #[.val (.int i0), .val (.int i1), .val (.int i2), .val (.int i3), .val (.int i4), .val (.int (1 : Int32)), .val (.ref b1), .val (.ref b6), .val (.int (0 : Int32)), .val (.int (bi (¬ (false = true)))), .val (.int (bi (¬ (true = true)))), .val (.int (bi (¬ (true = true)))), .unset, .unset] [])
    refine Go.step (fun t k => XS.aload X17.here hx rfl (hb hby at_92) rfl rfl k) ?_
    show Go _ _ _ _ _ _ _ T17 (mkF m 94 #[.val (.int i0), .val (.int i1), .val (.int i2), .val (.int i3), .val (.int i4), .val (.int (1 : Int32)), .val (.ref b1), .val (.ref b6), .val (.int (0 : Int32)), .val (.int (bi (¬ (false = true)))), .val (.int (bi (¬ (true = true)))), .val (.int (bi (¬ (true = true)))), .unset, .unset] [(.ref b6)])
    have f19 := (((((f9.keep K8q).keep K11q).keep K13q).keep K15q).keep K17q)
    have hfit18 : ∀ i, i < 1 → fits .byte ((upd (fun _ => .int (0 : Int32)) 0 (.int (nar .byte (nar .byte (i1.toInt8.toInt32))))) i) = true := fun i hi => by
      rcases (by omega : i = 0) with rfl <;> exact fits_nar_byte _
    obtain ⟨v18, T18, L18, X18, q18, st18⟩ := c_virt X17 hx hZ hown (y' := (⟨"com/example/bearer/bearer/modem/LineBuffer", "toByteArray", "()[B"⟩ : MethodName)) (y := (⟨"com/example/bearer/bearer/modem/LineBuffer", "toByteArray", "()[B"⟩ : MethodName)) (C := "com/example/bearer/bearer/modem/LineBuffer") (hw _ (List.mem_of_getElem? (i := 21) rfl)) (hw _ (List.mem_of_getElem? (i := 22) rfl)) (notFace_of_selects (args := #[]) (mvT hZ (hw _ (List.mem_of_getElem? (i := 24) rfl)))) (hw _ (List.mem_of_getElem? (i := 24) rfl)) (hw _ (List.mem_of_getElem? (i := 23) rfl)) (hw _ (List.mem_of_getElem? (i := 3) rfl)) (hw _ (List.mem_of_getElem? (i := 25) rfl)) (by decide) (a := b6) (argsL := []) (rest := []) (rmB l Z a0 hw [] b6 b8 1 true (upd (fun _ => .int (0 : Int32)) 0 (.int (nar .byte (nar .byte (i1.toInt8.toInt32))))) h17 n0 Z17 (by decide) (by decide) E17q F17q0 F17q1 F17q2 V17k E17k ne_b6_b8 hfit18) e17 E17q pd_3 rfl (by rw [hml]; rfl) (W := 0) (by show 2 * 0 + _ ≤ _; exact Nat.le_of_eq rfl) (by decide) (by decide) (by decide) (by decide) (hb hby at_94) (Ls := #[.val (.int i0), .val (.int i1), .val (.int i2), .val (.int i3), .val (.int i4), .val (.int (1 : Int32)), .val (.ref b1), .val (.ref b6), .val (.int (0 : Int32)), .val (.int (bi (¬ (false = true)))), .val (.int (bi (¬ (true = true)))), .val (.int (bi (¬ (true = true)))), .unset, .unset])
    generalize e18 : T18.heap = h18 at q18
    obtain ⟨b18, rfl, N18q, K18q, sz18, V18k⟩ := q18
    have N18 := Fr.app N17 N18q
    have ne_b1_b18 : b1 ≠ b18 := Nat.ne_of_lt (Nat.lt_of_lt_of_le f19.lt sz18)
    have ne_b6_b18 : b6 ≠ b18 := Nat.ne_of_lt (Nat.lt_of_lt_of_le E17q.lt sz18)
    have ne_b8_b18 : b8 ≠ b18 := Nat.ne_of_lt (Nat.lt_of_lt_of_le E17k.lt sz18)
    have gn_b18 : n0 ≤ b18 := Nat.le_trans Z17 sz18
    have Z18 : n0 ≤ h18.size := Nat.le_trans Z17 K18q.1
    refine Go.step (st18) ?_
    show Go _ _ _ _ _ _ _ T18 (mkF m 97 #[.val (.int i0), .val (.int i1), .val (.int i2), .val (.int i3), .val (.int i4), .val (.int (1 : Int32)), .val (.ref b1), .val (.ref b6), .val (.int (0 : Int32)), .val (.int (bi (¬ (false = true)))), .val (.int (bi (¬ (true = true)))), .val (.int (bi (¬ (true = true)))), .unset, .unset] [(.ref b18)])
    refine Go.step (fun t k => XS.astore X18.here hx rfl (hb hby at_97) rfl rfl (l' := #[.val (.int i0), .val (.int i1), .val (.int i2), .val (.int i3), .val (.int i4), .val (.int (1 : Int32)), .val (.ref b1), .val (.ref b6), .val (.int (0 : Int32)), .val (.int (bi (¬ (false = true)))), .val (.int (bi (¬ (true = true)))), .val (.int (bi (¬ (true = true)))), .val (.ref b18), .unset]) rfl k) ?_
    show Go _ _ _ _ _ _ _ T18 (mkF m 99 #[.val (.int i0), .val (.int i1), .val (.int i2), .val (.int i3), .val (.int i4), .val (.int (1 : Int32)), .val (.ref b1), .val (.ref b6), .val (.int (0 : Int32)), .val (.int (bi (¬ (false = true)))), .val (.int (bi (¬ (true = true)))), .val (.int (bi (¬ (true = true)))), .val (.ref b18), .unset] [])
    refine Go.step (fun t k => XS.aload X18.here hx rfl (hb hby at_99) rfl rfl k) ?_
    show Go _ _ _ _ _ _ _ T18 (mkF m 101 #[.val (.int i0), .val (.int i1), .val (.int i2), .val (.int i3), .val (.int i4), .val (.int (1 : Int32)), .val (.ref b1), .val (.ref b6), .val (.int (0 : Int32)), .val (.int (bi (¬ (false = true)))), .val (.int (bi (¬ (true = true)))), .val (.int (bi (¬ (true = true)))), .val (.ref b18), .unset] [(.ref b6)])
    have f21 := (E17q.keep K18q)
    have f22 := (F17q0.keep K18q nin0)
    have f23 := (F17q1.keep K18q nin0)
    have f24 := (F17q2.keep K18q nin0)
    have f25 := (V17k.keep K18q nin0)
    have f26 := (E17k.keep K18q)
    obtain ⟨v20, T20, L20, X20, q20, st20⟩ := c_virt X18 hx hZ hown (y' := (⟨"com/example/bearer/bearer/modem/LineBuffer", "isCut", "()Z"⟩ : MethodName)) (y := (⟨"com/example/bearer/bearer/modem/LineBuffer", "isCut", "()Z"⟩ : MethodName)) (C := "com/example/bearer/bearer/modem/LineBuffer") (hw _ (List.mem_of_getElem? (i := 39) rfl)) (hw _ (List.mem_of_getElem? (i := 40) rfl)) (notFace_of_selects (args := #[]) (mvT hZ (hw _ (List.mem_of_getElem? (i := 42) rfl)))) (hw _ (List.mem_of_getElem? (i := 42) rfl)) (hw _ (List.mem_of_getElem? (i := 41) rfl)) (hw _ (List.mem_of_getElem? (i := 3) rfl)) (hw _ (List.mem_of_getElem? (i := 43) rfl)) (by decide) (a := b6) (argsL := []) (rest := []) (rmQ l Z a0 hw [] b6 b8 1 1 true (upd (fun _ => .int (0 : Int32)) 0 (.int (nar .byte (nar .byte (i1.toInt8.toInt32))))) h18 n0 Z18 (by decide) (by decide) (by decide) f21 f22 f23 f24 f25 f26 ne_b6_b8) e18 f21 pd_4 rfl (by rw [hml]; rfl) (W := 0) (by show 2 * 0 + _ ≤ _; exact Nat.le_of_eq rfl) (by decide) (by decide) (by decide) (by decide) (hb hby at_101) (Ls := #[.val (.int i0), .val (.int i1), .val (.int i2), .val (.int i3), .val (.int i4), .val (.int (1 : Int32)), .val (.ref b1), .val (.ref b6), .val (.int (0 : Int32)), .val (.int (bi (¬ (false = true)))), .val (.int (bi (¬ (true = true)))), .val (.int (bi (¬ (true = true)))), .val (.ref b18), .unset])
    obtain ⟨rfl, rfl, e20⟩ := q20
    have N20 := Fr.app N18 (Fr.nil n0)
    refine Go.step (st20) ?_
    show Go _ _ _ _ _ _ _ T20 (mkF m 104 #[.val (.int i0), .val (.int i1), .val (.int i2), .val (.int i3), .val (.int i4), .val (.int (1 : Int32)), .val (.ref b1), .val (.ref b6), .val (.int (0 : Int32)), .val (.int (bi (¬ (false = true)))), .val (.int (bi (¬ (true = true)))), .val (.int (bi (¬ (true = true)))), .val (.ref b18), .unset] [(.int (bi (true = true)))])
    refine Go.step (fun t k => XS.istore X20.here hx rfl (hb hby at_104) rfl (l' := #[.val (.int i0), .val (.int i1), .val (.int i2), .val (.int i3), .val (.int i4), .val (.int (1 : Int32)), .val (.ref b1), .val (.ref b6), .val (.int (0 : Int32)), .val (.int (bi (¬ (false = true)))), .val (.int (bi (¬ (true = true)))), .val (.int (bi (¬ (true = true)))), .val (.ref b18), .val (.int (bi (true = true)))]) rfl k) ?_
    show Go _ _ _ _ _ _ _ T20 (mkF m 106 #[.val (.int i0), .val (.int i1), .val (.int i2), .val (.int i3), .val (.int i4), .val (.int (1 : Int32)), .val (.ref b1), .val (.ref b6), .val (.int (0 : Int32)), .val (.int (bi (¬ (false = true)))), .val (.int (bi (¬ (true = true)))), .val (.int (bi (¬ (true = true)))), .val (.ref b18), .val (.int (bi (true = true)))] [])
    refine Go.step (fun t k => XS.iload X20.here hx rfl (hb hby at_106) rfl k) ?_
    show Go _ _ _ _ _ _ _ T20 (mkF m 108 #[.val (.int i0), .val (.int i1), .val (.int i2), .val (.int i3), .val (.int i4), .val (.int (1 : Int32)), .val (.ref b1), .val (.ref b6), .val (.int (0 : Int32)), .val (.int (bi (¬ (false = true)))), .val (.int (bi (¬ (true = true)))), .val (.int (bi (¬ (true = true)))), .val (.ref b18), .val (.int (bi (true = true)))] [(.int (0 : Int32))])
    refine Go.step (fun t k => XS.ifYes X20.here hx rfl (pc0 := 108) (pc' := 113) rfl (hb hby at_108) rfl ((if0 _ _).trans (teq (by decide)).1) (by decide) (by decide) k) ?_
    show Go _ _ _ _ _ _ _ T20 (mkF m 113 #[.val (.int i0), .val (.int i1), .val (.int i2), .val (.int i3), .val (.int i4), .val (.int (1 : Int32)), .val (.ref b1), .val (.ref b6), .val (.int (0 : Int32)), .val (.int (bi (¬ (false = true)))), .val (.int (bi (¬ (true = true)))), .val (.int (bi (¬ (true = true)))), .val (.ref b18), .val (.int (bi (true = true)))] [])
    refine Go.step (fun t k => XS.iload X20.here hx rfl (hb hby at_113) rfl k) ?_
    show Go _ _ _ _ _ _ _ T20 (mkF m 115 #[.val (.int i0), .val (.int i1), .val (.int i2), .val (.int i3), .val (.int i4), .val (.int (1 : Int32)), .val (.ref b1), .val (.ref b6), .val (.int (0 : Int32)), .val (.int (bi (¬ (false = true)))), .val (.int (bi (¬ (true = true)))), .val (.int (bi (¬ (true = true)))), .val (.ref b18), .val (.int (bi (true = true)))] [(.int (bi (¬ (false = true))))])
    refine Go.step (fun t k => XS.iload X20.here hx rfl (hb hby at_115) rfl k) ?_
    show Go _ _ _ _ _ _ _ T20 (mkF m 117 #[.val (.int i0), .val (.int i1), .val (.int i2), .val (.int i3), .val (.int i4), .val (.int (1 : Int32)), .val (.ref b1), .val (.ref b6), .val (.int (0 : Int32)), .val (.int (bi (¬ (false = true)))), .val (.int (bi (¬ (true = true)))), .val (.int (bi (¬ (true = true)))), .val (.ref b18), .val (.int (bi (true = true)))] [(.int (1 : Int32)), (.int (bi (¬ (false = true))))])
    refine Go.step (fun t k => XS.iconst X20.here hx rfl (hb hby at_117) k) ?_
    show Go _ _ _ _ _ _ _ T20 (mkF m 118 #[.val (.int i0), .val (.int i1), .val (.int i2), .val (.int i3), .val (.int i4), .val (.int (1 : Int32)), .val (.ref b1), .val (.ref b6), .val (.int (0 : Int32)), .val (.int (bi (¬ (false = true)))), .val (.int (bi (¬ (true = true)))), .val (.int (bi (¬ (true = true)))), .val (.ref b18), .val (.int (bi (true = true)))] [(.int (1 : Int32)), (.int (1 : Int32)), (.int (bi (¬ (false = true))))])
    refine Go.step (fun t k => XS.icmpNo X20.here hx rfl (hb hby at_118) rfl (teq (by decide)).2 k) ?_
    show Go _ _ _ _ _ _ _ T20 (mkF m 121 #[.val (.int i0), .val (.int i1), .val (.int i2), .val (.int i3), .val (.int i4), .val (.int (1 : Int32)), .val (.ref b1), .val (.ref b6), .val (.int (0 : Int32)), .val (.int (bi (¬ (false = true)))), .val (.int (bi (¬ (true = true)))), .val (.int (bi (¬ (true = true)))), .val (.ref b18), .val (.int (bi (true = true)))] [(.int (bi (¬ (false = true))))])
    refine Go.step (fun t k => XS.iconst X20.here hx rfl (hb hby at_121) k) ?_
    show Go _ _ _ _ _ _ _ T20 (mkF m 122 #[.val (.int i0), .val (.int i1), .val (.int i2), .val (.int i3), .val (.int i4), .val (.int (1 : Int32)), .val (.ref b1), .val (.ref b6), .val (.int (0 : Int32)), .val (.int (bi (¬ (false = true)))), .val (.int (bi (¬ (true = true)))), .val (.int (bi (¬ (true = true)))), .val (.ref b18), .val (.int (bi (true = true)))] [(.int (1 : Int32)), (.int (bi (¬ (false = true))))])
    refine Go.step (fun t k => XS.goto X20.here hx rfl (pc0 := 122) (pc' := 126) rfl (hb hby at_122) (by decide) (by decide) k) ?_
    show Go _ _ _ _ _ _ _ T20 (mkF m 126 #[.val (.int i0), .val (.int i1), .val (.int i2), .val (.int i3), .val (.int i4), .val (.int (1 : Int32)), .val (.ref b1), .val (.ref b6), .val (.int (0 : Int32)), .val (.int (bi (¬ (false = true)))), .val (.int (bi (¬ (true = true)))), .val (.int (bi (¬ (true = true)))), .val (.ref b18), .val (.int (bi (true = true)))] [(.int (1 : Int32)), (.int (bi (¬ (false = true))))])
    refine Go.step (fun t k => XS.icmpYes X20.here hx rfl (pc0 := 126) (pc' := 131) rfl (hb hby at_126) rfl (teq (by decide)).1 (by decide) (by decide) k) ?_
    show Go _ _ _ _ _ _ _ T20 (mkF m 131 #[.val (.int i0), .val (.int i1), .val (.int i2), .val (.int i3), .val (.int i4), .val (.int (1 : Int32)), .val (.ref b1), .val (.ref b6), .val (.int (0 : Int32)), .val (.int (bi (¬ (false = true)))), .val (.int (bi (¬ (true = true)))), .val (.int (bi (¬ (true = true)))), .val (.ref b18), .val (.int (bi (true = true)))] [])
    refine Go.step (fun t k => XS.iload X20.here hx rfl (hb hby at_131) rfl k) ?_
    show Go _ _ _ _ _ _ _ T20 (mkF m 133 #[.val (.int i0), .val (.int i1), .val (.int i2), .val (.int i3), .val (.int i4), .val (.int (1 : Int32)), .val (.ref b1), .val (.ref b6), .val (.int (0 : Int32)), .val (.int (bi (¬ (false = true)))), .val (.int (bi (¬ (true = true)))), .val (.int (bi (¬ (true = true)))), .val (.ref b18), .val (.int (bi (true = true)))] [(.int (bi (¬ (true = true))))])
    refine Go.step (fun t k => XS.iload X20.here hx rfl (hb hby at_133) rfl k) ?_
    show Go _ _ _ _ _ _ _ T20 (mkF m 135 #[.val (.int i0), .val (.int i1), .val (.int i2), .val (.int i3), .val (.int i4), .val (.int (1 : Int32)), .val (.ref b1), .val (.ref b6), .val (.int (0 : Int32)), .val (.int (bi (¬ (false = true)))), .val (.int (bi (¬ (true = true)))), .val (.int (bi (¬ (true = true)))), .val (.ref b18), .val (.int (bi (true = true)))] [(.int (1 : Int32)), (.int (bi (¬ (true = true))))])
    refine Go.step (fun t k => XS.iconst X20.here hx rfl (hb hby at_135) k) ?_
    show Go _ _ _ _ _ _ _ T20 (mkF m 136 #[.val (.int i0), .val (.int i1), .val (.int i2), .val (.int i3), .val (.int i4), .val (.int (1 : Int32)), .val (.ref b1), .val (.ref b6), .val (.int (0 : Int32)), .val (.int (bi (¬ (false = true)))), .val (.int (bi (¬ (true = true)))), .val (.int (bi (¬ (true = true)))), .val (.ref b18), .val (.int (bi (true = true)))] [(.int (2 : Int32)), (.int (1 : Int32)), (.int (bi (¬ (true = true))))])
    refine Go.step (fun t k => XS.icmpYes X20.here hx rfl (pc0 := 136) (pc' := 143) rfl (hb hby at_136) rfl (feq (by decide)).2 (by decide) (by decide) k) ?_
    show Go _ _ _ _ _ _ _ T20 (mkF m 143 #[.val (.int i0), .val (.int i1), .val (.int i2), .val (.int i3), .val (.int i4), .val (.int (1 : Int32)), .val (.ref b1), .val (.ref b6), .val (.int (0 : Int32)), .val (.int (bi (¬ (false = true)))), .val (.int (bi (¬ (true = true)))), .val (.int (bi (¬ (true = true)))), .val (.ref b18), .val (.int (bi (true = true)))] [(.int (bi (¬ (true = true))))])
    refine Go.step (fun t k => XS.iconst X20.here hx rfl (hb hby at_143) k) ?_
    show Go _ _ _ _ _ _ _ T20 (mkF m 144 #[.val (.int i0), .val (.int i1), .val (.int i2), .val (.int i3), .val (.int i4), .val (.int (1 : Int32)), .val (.ref b1), .val (.ref b6), .val (.int (0 : Int32)), .val (.int (bi (¬ (false = true)))), .val (.int (bi (¬ (true = true)))), .val (.int (bi (¬ (true = true)))), .val (.ref b18), .val (.int (bi (true = true)))] [(.int (0 : Int32)), (.int (bi (¬ (true = true))))])
    refine Go.step (fun t k => XS.icmpYes X20.here hx rfl (pc0 := 144) (pc' := 149) rfl (hb hby at_144) rfl (teq (bi_f (by decide))).1 (by decide) (by decide) k) ?_
    show Go _ _ _ _ _ _ _ T20 (mkF m 149 #[.val (.int i0), .val (.int i1), .val (.int i2), .val (.int i3), .val (.int i4), .val (.int (1 : Int32)), .val (.ref b1), .val (.ref b6), .val (.int (0 : Int32)), .val (.int (bi (¬ (false = true)))), .val (.int (bi (¬ (true = true)))), .val (.int (bi (¬ (true = true)))), .val (.ref b18), .val (.int (bi (true = true)))] [])
    refine Go.step (fun t k => XS.iload X20.here hx rfl (hb hby at_149) rfl k) ?_
    show Go _ _ _ _ _ _ _ T20 (mkF m 151 #[.val (.int i0), .val (.int i1), .val (.int i2), .val (.int i3), .val (.int i4), .val (.int (1 : Int32)), .val (.ref b1), .val (.ref b6), .val (.int (0 : Int32)), .val (.int (bi (¬ (false = true)))), .val (.int (bi (¬ (true = true)))), .val (.int (bi (¬ (true = true)))), .val (.ref b18), .val (.int (bi (true = true)))] [(.int (bi (¬ (true = true))))])
    refine Go.step (fun t k => XS.iload X20.here hx rfl (hb hby at_151) rfl k) ?_
    show Go _ _ _ _ _ _ _ T20 (mkF m 153 #[.val (.int i0), .val (.int i1), .val (.int i2), .val (.int i3), .val (.int i4), .val (.int (1 : Int32)), .val (.ref b1), .val (.ref b6), .val (.int (0 : Int32)), .val (.int (bi (¬ (false = true)))), .val (.int (bi (¬ (true = true)))), .val (.int (bi (¬ (true = true)))), .val (.ref b18), .val (.int (bi (true = true)))] [(.int (1 : Int32)), (.int (bi (¬ (true = true))))])
    refine Go.step (fun t k => XS.iconst X20.here hx rfl (hb hby at_153) k) ?_
    show Go _ _ _ _ _ _ _ T20 (mkF m 154 #[.val (.int i0), .val (.int i1), .val (.int i2), .val (.int i3), .val (.int i4), .val (.int (1 : Int32)), .val (.ref b1), .val (.ref b6), .val (.int (0 : Int32)), .val (.int (bi (¬ (false = true)))), .val (.int (bi (¬ (true = true)))), .val (.int (bi (¬ (true = true)))), .val (.ref b18), .val (.int (bi (true = true)))] [(.int (3 : Int32)), (.int (1 : Int32)), (.int (bi (¬ (true = true))))])
    refine Go.step (fun t k => XS.icmpYes X20.here hx rfl (pc0 := 154) (pc' := 161) rfl (hb hby at_154) rfl (feq (by decide)).2 (by decide) (by decide) k) ?_
    show Go _ _ _ _ _ _ _ T20 (mkF m 161 #[.val (.int i0), .val (.int i1), .val (.int i2), .val (.int i3), .val (.int i4), .val (.int (1 : Int32)), .val (.ref b1), .val (.ref b6), .val (.int (0 : Int32)), .val (.int (bi (¬ (false = true)))), .val (.int (bi (¬ (true = true)))), .val (.int (bi (¬ (true = true)))), .val (.ref b18), .val (.int (bi (true = true)))] [(.int (bi (¬ (true = true))))])
    refine Go.step (fun t k => XS.iconst X20.here hx rfl (hb hby at_161) k) ?_
    show Go _ _ _ _ _ _ _ T20 (mkF m 162 #[.val (.int i0), .val (.int i1), .val (.int i2), .val (.int i3), .val (.int i4), .val (.int (1 : Int32)), .val (.ref b1), .val (.ref b6), .val (.int (0 : Int32)), .val (.int (bi (¬ (false = true)))), .val (.int (bi (¬ (true = true)))), .val (.int (bi (¬ (true = true)))), .val (.ref b18), .val (.int (bi (true = true)))] [(.int (0 : Int32)), (.int (bi (¬ (true = true))))])
    refine Go.step (fun t k => XS.icmpYes X20.here hx rfl (pc0 := 162) (pc' := 167) rfl (hb hby at_162) rfl (teq (bi_f (by decide))).1 (by decide) (by decide) k) ?_
    show Go _ _ _ _ _ _ _ T20 (mkF m 167 #[.val (.int i0), .val (.int i1), .val (.int i2), .val (.int i3), .val (.int i4), .val (.int (1 : Int32)), .val (.ref b1), .val (.ref b6), .val (.int (0 : Int32)), .val (.int (bi (¬ (false = true)))), .val (.int (bi (¬ (true = true)))), .val (.int (bi (¬ (true = true)))), .val (.ref b18), .val (.int (bi (true = true)))] [])
    refine Go.step (fun t k => XS.iload X20.here hx rfl (hb hby at_167) rfl k) ?_
    show Go _ _ _ _ _ _ _ T20 (mkF m 169 #[.val (.int i0), .val (.int i1), .val (.int i2), .val (.int i3), .val (.int i4), .val (.int (1 : Int32)), .val (.ref b1), .val (.ref b6), .val (.int (0 : Int32)), .val (.int (bi (¬ (false = true)))), .val (.int (bi (¬ (true = true)))), .val (.int (bi (¬ (true = true)))), .val (.ref b18), .val (.int (bi (true = true)))] [(.int (bi (true = true)))])
    refine Go.step (fun t k => XS.iload X20.here hx rfl (hb hby at_169) rfl k) ?_
    show Go _ _ _ _ _ _ _ T20 (mkF m 171 #[.val (.int i0), .val (.int i1), .val (.int i2), .val (.int i3), .val (.int i4), .val (.int (1 : Int32)), .val (.ref b1), .val (.ref b6), .val (.int (0 : Int32)), .val (.int (bi (¬ (false = true)))), .val (.int (bi (¬ (true = true)))), .val (.int (bi (¬ (true = true)))), .val (.ref b18), .val (.int (bi (true = true)))] [(.int (1 : Int32)), (.int (bi (true = true)))])
    refine Go.step (fun t k => XS.iconst X20.here hx rfl (hb hby at_171) k) ?_
    show Go _ _ _ _ _ _ _ T20 (mkF m 172 #[.val (.int i0), .val (.int i1), .val (.int i2), .val (.int i3), .val (.int i4), .val (.int (1 : Int32)), .val (.ref b1), .val (.ref b6), .val (.int (0 : Int32)), .val (.int (bi (¬ (false = true)))), .val (.int (bi (¬ (true = true)))), .val (.int (bi (¬ (true = true)))), .val (.ref b18), .val (.int (bi (true = true)))] [(.int (4 : Int32)), (.int (1 : Int32)), (.int (bi (true = true)))])
    refine Go.step (fun t k => XS.icmpNo X20.here hx rfl (hb hby at_172) rfl (tlt (by decide)).2.1 k) ?_
    show Go _ _ _ _ _ _ _ T20 (mkF m 175 #[.val (.int i0), .val (.int i1), .val (.int i2), .val (.int i3), .val (.int i4), .val (.int (1 : Int32)), .val (.ref b1), .val (.ref b6), .val (.int (0 : Int32)), .val (.int (bi (¬ (false = true)))), .val (.int (bi (¬ (true = true)))), .val (.int (bi (¬ (true = true)))), .val (.ref b18), .val (.int (bi (true = true)))] [(.int (bi (true = true)))])
    refine Go.step (fun t k => XS.iconst X20.here hx rfl (hb hby at_175) k) ?_
    show Go _ _ _ _ _ _ _ T20 (mkF m 176 #[.val (.int i0), .val (.int i1), .val (.int i2), .val (.int i3), .val (.int i4), .val (.int (1 : Int32)), .val (.ref b1), .val (.ref b6), .val (.int (0 : Int32)), .val (.int (bi (¬ (false = true)))), .val (.int (bi (¬ (true = true)))), .val (.int (bi (¬ (true = true)))), .val (.ref b18), .val (.int (bi (true = true)))] [(.int (1 : Int32)), (.int (bi (true = true)))])
    refine Go.step (fun t k => XS.goto X20.here hx rfl (pc0 := 176) (pc' := 180) rfl (hb hby at_176) (by decide) (by decide) k) ?_
    show Go _ _ _ _ _ _ _ T20 (mkF m 180 #[.val (.int i0), .val (.int i1), .val (.int i2), .val (.int i3), .val (.int i4), .val (.int (1 : Int32)), .val (.ref b1), .val (.ref b6), .val (.int (0 : Int32)), .val (.int (bi (¬ (false = true)))), .val (.int (bi (¬ (true = true)))), .val (.int (bi (¬ (true = true)))), .val (.ref b18), .val (.int (bi (true = true)))] [(.int (1 : Int32)), (.int (bi (true = true)))])
    refine Go.step (fun t k => XS.icmpYes X20.here hx rfl (pc0 := 180) (pc' := 185) rfl (hb hby at_180) rfl (teq (by decide)).1 (by decide) (by decide) k) ?_
    show Go _ _ _ _ _ _ _ T20 (mkF m 185 #[.val (.int i0), .val (.int i1), .val (.int i2), .val (.int i3), .val (.int i4), .val (.int (1 : Int32)), .val (.ref b1), .val (.ref b6), .val (.int (0 : Int32)), .val (.int (bi (¬ (false = true)))), .val (.int (bi (¬ (true = true)))), .val (.int (bi (¬ (true = true)))), .val (.ref b18), .val (.int (bi (true = true)))] [])
    refine Go.step (fun t k => XS.aload X20.here hx rfl (hb hby at_185) rfl rfl k) ?_
    show Go _ _ _ _ _ _ _ T20 (mkF m 187 #[.val (.int i0), .val (.int i1), .val (.int i2), .val (.int i3), .val (.int i4), .val (.int (1 : Int32)), .val (.ref b1), .val (.ref b6), .val (.int (0 : Int32)), .val (.int (bi (¬ (false = true)))), .val (.int (bi (¬ (true = true)))), .val (.int (bi (¬ (true = true)))), .val (.ref b18), .val (.int (bi (true = true)))] [(.ref b18)])
    refine Go.step (a_len X20 hx hZ e20 V18k (z := (1 : Int32)) (by decide) (hb hby at_187)) ?_
    show Go _ _ _ _ _ _ _ T20 (mkF m 188 #[.val (.int i0), .val (.int i1), .val (.int i2), .val (.int i3), .val (.int i4), .val (.int (1 : Int32)), .val (.ref b1), .val (.ref b6), .val (.int (0 : Int32)), .val (.int (bi (¬ (false = true)))), .val (.int (bi (¬ (true = true)))), .val (.int (bi (¬ (true = true)))), .val (.ref b18), .val (.int (bi (true = true)))] [(.int (1 : Int32))])
    refine Go.step (fun t k => XS.iload X20.here hx rfl (hb hby at_188) rfl k) ?_
    show Go _ _ _ _ _ _ _ T20 (mkF m 190 #[.val (.int i0), .val (.int i1), .val (.int i2), .val (.int i3), .val (.int i4), .val (.int (1 : Int32)), .val (.ref b1), .val (.ref b6), .val (.int (0 : Int32)), .val (.int (bi (¬ (false = true)))), .val (.int (bi (¬ (true = true)))), .val (.int (bi (¬ (true = true)))), .val (.ref b18), .val (.int (bi (true = true)))] [(.int (1 : Int32)), (.int (1 : Int32))])
    refine Go.step (fun t k => XS.icmpYes X20.here hx rfl (pc0 := 190) (pc' := 195) rfl (hb hby at_190) rfl (teq (by decide)).1 (by decide) (by decide) k) ?_
    show Go _ _ _ _ _ _ _ T20 (mkF m 195 #[.val (.int i0), .val (.int i1), .val (.int i2), .val (.int i3), .val (.int i4), .val (.int (1 : Int32)), .val (.ref b1), .val (.ref b6), .val (.int (0 : Int32)), .val (.int (bi (¬ (false = true)))), .val (.int (bi (¬ (true = true)))), .val (.int (bi (¬ (true = true)))), .val (.ref b18), .val (.int (bi (true = true)))] [])
    refine Go.step (fun t k => XS.aload X20.here hx rfl (hb hby at_195) rfl rfl k) ?_
    show Go _ _ _ _ _ _ _ T20 (mkF m 197 #[.val (.int i0), .val (.int i1), .val (.int i2), .val (.int i3), .val (.int i4), .val (.int (1 : Int32)), .val (.ref b1), .val (.ref b6), .val (.int (0 : Int32)), .val (.int (bi (¬ (false = true)))), .val (.int (bi (¬ (true = true)))), .val (.int (bi (¬ (true = true)))), .val (.ref b18), .val (.int (bi (true = true)))] [(.ref b18)])
    refine Go.step (fun t k => XS.iconst X20.here hx rfl (hb hby at_197) k) ?_
    show Go _ _ _ _ _ _ _ T20 (mkF m 198 #[.val (.int i0), .val (.int i1), .val (.int i2), .val (.int i3), .val (.int i4), .val (.int (1 : Int32)), .val (.ref b1), .val (.ref b6), .val (.int (0 : Int32)), .val (.int (bi (¬ (false = true)))), .val (.int (bi (¬ (true = true)))), .val (.int (bi (¬ (true = true)))), .val (.ref b18), .val (.int (bi (true = true)))] [(.int (0 : Int32)), (.ref b18)])
    refine Go.step (a_bload X20 hx hZ e20 V18k (k := 0) (by decide) (by decide) (x := (nar .byte (nar .byte (i1.toInt8.toInt32)))) rfl (hb hby at_198)) ?_
    show Go _ _ _ _ _ _ _ T20 (mkF m 199 #[.val (.int i0), .val (.int i1), .val (.int i2), .val (.int i3), .val (.int i4), .val (.int (1 : Int32)), .val (.ref b1), .val (.ref b6), .val (.int (0 : Int32)), .val (.int (bi (¬ (false = true)))), .val (.int (bi (¬ (true = true)))), .val (.int (bi (¬ (true = true)))), .val (.ref b18), .val (.int (bi (true = true)))] [(.int (nar .byte (nar .byte (i1.toInt8.toInt32))))])
    refine Go.step (fun t k => XS.aload X20.here hx rfl (hb hby at_199) rfl rfl k) ?_
    show Go _ _ _ _ _ _ _ T20 (mkF m 201 #[.val (.int i0), .val (.int i1), .val (.int i2), .val (.int i3), .val (.int i4), .val (.int (1 : Int32)), .val (.ref b1), .val (.ref b6), .val (.int (0 : Int32)), .val (.int (bi (¬ (false = true)))), .val (.int (bi (¬ (true = true)))), .val (.int (bi (¬ (true = true)))), .val (.ref b18), .val (.int (bi (true = true)))] [(.ref b1), (.int (nar .byte (nar .byte (i1.toInt8.toInt32))))])
    refine Go.step (fun t k => XS.iconst X20.here hx rfl (hb hby at_201) k) ?_
    show Go _ _ _ _ _ _ _ T20 (mkF m 202 #[.val (.int i0), .val (.int i1), .val (.int i2), .val (.int i3), .val (.int i4), .val (.int (1 : Int32)), .val (.ref b1), .val (.ref b6), .val (.int (0 : Int32)), .val (.int (bi (¬ (false = true)))), .val (.int (bi (¬ (true = true)))), .val (.int (bi (¬ (true = true)))), .val (.ref b18), .val (.int (bi (true = true)))] [(.int (0 : Int32)), (.ref b1), (.int (nar .byte (nar .byte (i1.toInt8.toInt32))))])
    have f27 := ((f16.keep K17q (ninS ne_b1_b6 (ninS ne_b1_b8 nin0))).keep K18q nin0)
    refine Go.step (a_bload X20 hx hZ e20 f27 (k := 0) (by decide) (by decide) (x := (nar .byte (i1.toInt8.toInt32))) rfl (hb hby at_202)) ?_
    show Go _ _ _ _ _ _ _ T20 (mkF m 203 #[.val (.int i0), .val (.int i1), .val (.int i2), .val (.int i3), .val (.int i4), .val (.int (1 : Int32)), .val (.ref b1), .val (.ref b6), .val (.int (0 : Int32)), .val (.int (bi (¬ (false = true)))), .val (.int (bi (¬ (true = true)))), .val (.int (bi (¬ (true = true)))), .val (.ref b18), .val (.int (bi (true = true)))] [(.int (nar .byte (i1.toInt8.toInt32))), (.int (nar .byte (nar .byte (i1.toInt8.toInt32))))])
    refine Go.step (fun t k => XS.icmpYes X20.here hx rfl (pc0 := 203) (pc' := 208) rfl (hb hby at_203) rfl (teq (own_nar _)).1 (by decide) (by decide) k) ?_
    show Go _ _ _ _ _ _ _ T20 (mkF m 208 #[.val (.int i0), .val (.int i1), .val (.int i2), .val (.int i3), .val (.int i4), .val (.int (1 : Int32)), .val (.ref b1), .val (.ref b6), .val (.int (0 : Int32)), .val (.int (bi (¬ (false = true)))), .val (.int (bi (¬ (true = true)))), .val (.int (bi (¬ (true = true)))), .val (.ref b18), .val (.int (bi (true = true)))] [])
    refine Go.step (fun t k => XS.iload X20.here hx rfl (hb hby at_208) rfl k) ?_
    show Go _ _ _ _ _ _ _ T20 (mkF m 210 #[.val (.int i0), .val (.int i1), .val (.int i2), .val (.int i3), .val (.int i4), .val (.int (1 : Int32)), .val (.ref b1), .val (.ref b6), .val (.int (0 : Int32)), .val (.int (bi (¬ (false = true)))), .val (.int (bi (¬ (true = true)))), .val (.int (bi (¬ (true = true)))), .val (.ref b18), .val (.int (bi (true = true)))] [(.int (1 : Int32))])
    refine Go.step (fun t k => XS.iconst X20.here hx rfl (hb hby at_210) k) ?_
    show Go _ _ _ _ _ _ _ T20 (mkF m 211 #[.val (.int i0), .val (.int i1), .val (.int i2), .val (.int i3), .val (.int i4), .val (.int (1 : Int32)), .val (.ref b1), .val (.ref b6), .val (.int (0 : Int32)), .val (.int (bi (¬ (false = true)))), .val (.int (bi (¬ (true = true)))), .val (.int (bi (¬ (true = true)))), .val (.ref b18), .val (.int (bi (true = true)))] [(.int (2 : Int32)), (.int (1 : Int32))])
    refine Go.step (fun t k => XS.icmpYes X20.here hx rfl (pc0 := 211) (pc' := 227) rfl (hb hby at_211) rfl (tlt (by decide)).1 (by decide) (by decide) k) ?_
    show Go _ _ _ _ _ _ _ T20 (mkF m 227 #[.val (.int i0), .val (.int i1), .val (.int i2), .val (.int i3), .val (.int i4), .val (.int (1 : Int32)), .val (.ref b1), .val (.ref b6), .val (.int (0 : Int32)), .val (.int (bi (¬ (false = true)))), .val (.int (bi (¬ (true = true)))), .val (.int (bi (¬ (true = true)))), .val (.ref b18), .val (.int (bi (true = true)))] [])
    refine Go.step (fun t k => XS.iload X20.here hx rfl (hb hby at_227) rfl k) ?_
    show Go _ _ _ _ _ _ _ T20 (mkF m 229 #[.val (.int i0), .val (.int i1), .val (.int i2), .val (.int i3), .val (.int i4), .val (.int (1 : Int32)), .val (.ref b1), .val (.ref b6), .val (.int (0 : Int32)), .val (.int (bi (¬ (false = true)))), .val (.int (bi (¬ (true = true)))), .val (.int (bi (¬ (true = true)))), .val (.ref b18), .val (.int (bi (true = true)))] [(.int (1 : Int32))])
    refine Go.step (fun t k => XS.iconst X20.here hx rfl (hb hby at_229) k) ?_
    show Go _ _ _ _ _ _ _ T20 (mkF m 230 #[.val (.int i0), .val (.int i1), .val (.int i2), .val (.int i3), .val (.int i4), .val (.int (1 : Int32)), .val (.ref b1), .val (.ref b6), .val (.int (0 : Int32)), .val (.int (bi (¬ (false = true)))), .val (.int (bi (¬ (true = true)))), .val (.int (bi (¬ (true = true)))), .val (.ref b18), .val (.int (bi (true = true)))] [(.int (3 : Int32)), (.int (1 : Int32))])
    refine Go.step (fun t k => XS.icmpYes X20.here hx rfl (pc0 := 230) (pc' := 246) rfl (hb hby at_230) rfl (tlt (by decide)).1 (by decide) (by decide) k) ?_
    show Go _ _ _ _ _ _ _ T20 (mkF m 246 #[.val (.int i0), .val (.int i1), .val (.int i2), .val (.int i3), .val (.int i4), .val (.int (1 : Int32)), .val (.ref b1), .val (.ref b6), .val (.int (0 : Int32)), .val (.int (bi (¬ (false = true)))), .val (.int (bi (¬ (true = true)))), .val (.int (bi (¬ (true = true)))), .val (.ref b18), .val (.int (bi (true = true)))] [])
    refine Go.step (fun t k => XS.iload X20.here hx rfl (hb hby at_246) rfl k) ?_
    show Go _ _ _ _ _ _ _ T20 (mkF m 248 #[.val (.int i0), .val (.int i1), .val (.int i2), .val (.int i3), .val (.int i4), .val (.int (1 : Int32)), .val (.ref b1), .val (.ref b6), .val (.int (0 : Int32)), .val (.int (bi (¬ (false = true)))), .val (.int (bi (¬ (true = true)))), .val (.int (bi (¬ (true = true)))), .val (.ref b18), .val (.int (bi (true = true)))] [(.int (1 : Int32))])
    refine Go.step (fun t k => XS.iconst X20.here hx rfl (hb hby at_248) k) ?_
    show Go _ _ _ _ _ _ _ T20 (mkF m 249 #[.val (.int i0), .val (.int i1), .val (.int i2), .val (.int i3), .val (.int i4), .val (.int (1 : Int32)), .val (.ref b1), .val (.ref b6), .val (.int (0 : Int32)), .val (.int (bi (¬ (false = true)))), .val (.int (bi (¬ (true = true)))), .val (.int (bi (¬ (true = true)))), .val (.ref b18), .val (.int (bi (true = true)))] [(.int (4 : Int32)), (.int (1 : Int32))])
    refine Go.step (fun t k => XS.icmpYes X20.here hx rfl (pc0 := 249) (pc' := 265) rfl (hb hby at_249) rfl (tlt (by decide)).1 (by decide) (by decide) k) ?_
    show Go _ _ _ _ _ _ _ T20 (mkF m 265 #[.val (.int i0), .val (.int i1), .val (.int i2), .val (.int i3), .val (.int i4), .val (.int (1 : Int32)), .val (.ref b1), .val (.ref b6), .val (.int (0 : Int32)), .val (.int (bi (¬ (false = true)))), .val (.int (bi (¬ (true = true)))), .val (.int (bi (¬ (true = true)))), .val (.ref b18), .val (.int (bi (true = true)))] [])
    refine Go.step (fun t k => XS.iconst X20.here hx rfl (hb hby at_265) k) ?_
    show Go _ _ _ _ _ _ _ T20 (mkF m 266 #[.val (.int i0), .val (.int i1), .val (.int i2), .val (.int i3), .val (.int i4), .val (.int (1 : Int32)), .val (.ref b1), .val (.ref b6), .val (.int (0 : Int32)), .val (.int (bi (¬ (false = true)))), .val (.int (bi (¬ (true = true)))), .val (.int (bi (¬ (true = true)))), .val (.ref b18), .val (.int (bi (true = true)))] [(.int (1 : Int32))])
    refine go_retN X20 hx (t := .boolean) hret (by simp) hlk (hb hby at_266) (w := (1 : Int32)) rfl ?_ (by decide) (by decide)
    try rw [e20]
    exact ⟨rfl, N20⟩
  · show Go _ _ _ _ _ _ _ T0 (mkF m 7 #[.val (.int i0), .val (.int i1), .val (.int i2), .val (.int i3), .val (.int i4), .val (.int (2 : Int32)), .unset, .unset, .unset, .unset, .unset, .unset, .unset, .unset] [])
    refine Go.step (fun t k => XS.iconst X0.here hx rfl (hb hby at_7) k) ?_
    show Go _ _ _ _ _ _ _ T0 (mkF m 8 #[.val (.int i0), .val (.int i1), .val (.int i2), .val (.int i3), .val (.int i4), .val (.int (2 : Int32)), .unset, .unset, .unset, .unset, .unset, .unset, .unset, .unset] [(.int (4 : Int32))])
    obtain ⟨T28, h28, k28, X28, e28, E28, A28, EA28, st28⟩ := newPE X0 hx hZ (hw _ (List.mem_of_getElem? (i := 0) rfl)) e0 (g := (mkF m 8 #[.val (.int i0), .val (.int i1), .val (.int i2), .val (.int i3), .val (.int i4), .val (.int (2 : Int32)), .unset, .unset, .unset, .unset, .unset, .unset, .unset, .unset] [(.int (4 : Int32))])) rfl (hb hby at_8) rfl (by decide) (cap := 4) (by decide) (by decide) (by decide) (by decide) (ad := "[B") rfl
    obtain ⟨b28, g28⟩ : ∃ z, z = h0.size := ⟨_, rfl⟩
    rw [← g28] at A28 EA28 st28
    have gn_b28 : n0 ≤ b28 := Nat.le_trans Z0 (Nat.le_of_eq g28.symm)
    have Z28 : n0 ≤ h28.size := Nat.le_trans Z0 E28.1
    have V28 : AV Z h28 b28 .byte 4 (lst [(.int (0 : Int32)), (.int (0 : Int32)), (.int (0 : Int32)), (.int (0 : Int32))]) := AV.newL (AV.new A28 (by decide)) rfl
    refine Go.step (st28) ?_
    show Go _ _ _ _ _ _ _ T28 (mkF m 10 #[.val (.int i0), .val (.int i1), .val (.int i2), .val (.int i3), .val (.int i4), .val (.int (2 : Int32)), .unset, .unset, .unset, .unset, .unset, .unset, .unset, .unset] [(.ref b28)])
    refine Go.step (fun t k => XS.astore X28.here hx rfl (hb hby at_10) rfl rfl (l' := #[.val (.int i0), .val (.int i1), .val (.int i2), .val (.int i3), .val (.int i4), .val (.int (2 : Int32)), .val (.ref b28), .unset, .unset, .unset, .unset, .unset, .unset, .unset]) rfl k) ?_
    show Go _ _ _ _ _ _ _ T28 (mkF m 12 #[.val (.int i0), .val (.int i1), .val (.int i2), .val (.int i3), .val (.int i4), .val (.int (2 : Int32)), .val (.ref b28), .unset, .unset, .unset, .unset, .unset, .unset, .unset] [])
    refine Go.step (fun t k => XS.aload X28.here hx rfl (hb hby at_12) rfl rfl k) ?_
    show Go _ _ _ _ _ _ _ T28 (mkF m 14 #[.val (.int i0), .val (.int i1), .val (.int i2), .val (.int i3), .val (.int i4), .val (.int (2 : Int32)), .val (.ref b28), .unset, .unset, .unset, .unset, .unset, .unset, .unset] [(.ref b28)])
    refine Go.step (fun t k => XS.iconst X28.here hx rfl (hb hby at_14) k) ?_
    show Go _ _ _ _ _ _ _ T28 (mkF m 15 #[.val (.int i0), .val (.int i1), .val (.int i2), .val (.int i3), .val (.int i4), .val (.int (2 : Int32)), .val (.ref b28), .unset, .unset, .unset, .unset, .unset, .unset, .unset] [(.int (0 : Int32)), (.ref b28)])
    refine Go.step (fun t k => XS.iloadN X28.here hx rfl (hb hby at_15) rfl k) ?_
    show Go _ _ _ _ _ _ _ T28 (mkF m 16 #[.val (.int i0), .val (.int i1), .val (.int i2), .val (.int i3), .val (.int i4), .val (.int (2 : Int32)), .val (.ref b28), .unset, .unset, .unset, .unset, .unset, .unset, .unset] [(.int i1), (.int (0 : Int32)), (.ref b28)])
    refine Go.step (fun t k => XS.i2b X28.here hx rfl (hb hby at_16) rfl k) ?_
    show Go _ _ _ _ _ _ _ T28 (mkF m 17 #[.val (.int i0), .val (.int i1), .val (.int i2), .val (.int i3), .val (.int i4), .val (.int (2 : Int32)), .val (.ref b28), .unset, .unset, .unset, .unset, .unset, .unset, .unset] [(.int (i1.toInt8.toInt32)), (.int (0 : Int32)), (.ref b28)])
    obtain ⟨cl29, Ar29, hin29, -⟩ := V28.at (j := (0 : Int32)) (k := 0) (by decide) (by decide)
    obtain ⟨T29, h29, X29, e29, W29, st29⟩ := stB X28 hx hZ e28 Ar29 (j := (0 : Int32)) hin29 (g := (mkF m 17 #[.val (.int i0), .val (.int i1), .val (.int i2), .val (.int i3), .val (.int i4), .val (.int (2 : Int32)), .val (.ref b28), .unset, .unset, .unset, .unset, .unset, .unset, .unset] [(.int (i1.toInt8.toInt32)), (.int (0 : Int32)), (.ref b28)])) rfl rfl (hb hby at_17)
    have V29 : AV Z h29 b28 .byte 4 (lst [(.int (nar .byte (i1.toInt8.toInt32))), (.int (0 : Int32)), (.int (0 : Int32)), (.int (0 : Int32))]) := AV.setL V28 (k := 0) (by decide) (by decide) W29 (Nat.le_of_ble_eq_true rfl) rfl
    have N29 := Fr.snoc X29 N0 gn_b28
    have Z29 : n0 ≤ h29.size := Nat.le_trans Z28 (Keep.of_wr W29).1
    refine Go.step (st29) ?_
    show Go _ _ _ _ _ _ _ T29 (mkF m 18 #[.val (.int i0), .val (.int i1), .val (.int i2), .val (.int i3), .val (.int i4), .val (.int (2 : Int32)), .val (.ref b28), .unset, .unset, .unset, .unset, .unset, .unset, .unset] [])
    refine Go.step (fun t k => XS.aload X29.here hx rfl (hb hby at_18) rfl rfl k) ?_
    show Go _ _ _ _ _ _ _ T29 (mkF m 20 #[.val (.int i0), .val (.int i1), .val (.int i2), .val (.int i3), .val (.int i4), .val (.int (2 : Int32)), .val (.ref b28), .unset, .unset, .unset, .unset, .unset, .unset, .unset] [(.ref b28)])
    refine Go.step (fun t k => XS.iconst X29.here hx rfl (hb hby at_20) k) ?_
    show Go _ _ _ _ _ _ _ T29 (mkF m 21 #[.val (.int i0), .val (.int i1), .val (.int i2), .val (.int i3), .val (.int i4), .val (.int (2 : Int32)), .val (.ref b28), .unset, .unset, .unset, .unset, .unset, .unset, .unset] [(.int (1 : Int32)), (.ref b28)])
    refine Go.step (fun t k => XS.iloadN X29.here hx rfl (hb hby at_21) rfl k) ?_
    show Go _ _ _ _ _ _ _ T29 (mkF m 22 #[.val (.int i0), .val (.int i1), .val (.int i2), .val (.int i3), .val (.int i4), .val (.int (2 : Int32)), .val (.ref b28), .unset, .unset, .unset, .unset, .unset, .unset, .unset] [(.int i2), (.int (1 : Int32)), (.ref b28)])
    refine Go.step (fun t k => XS.i2b X29.here hx rfl (hb hby at_22) rfl k) ?_
    show Go _ _ _ _ _ _ _ T29 (mkF m 23 #[.val (.int i0), .val (.int i1), .val (.int i2), .val (.int i3), .val (.int i4), .val (.int (2 : Int32)), .val (.ref b28), .unset, .unset, .unset, .unset, .unset, .unset, .unset] [(.int (i2.toInt8.toInt32)), (.int (1 : Int32)), (.ref b28)])
    obtain ⟨cl30, Ar30, hin30, -⟩ := V29.at (j := (1 : Int32)) (k := 1) (by decide) (by decide)
    obtain ⟨T30, h30, X30, e30, W30, st30⟩ := stB X29 hx hZ e29 Ar30 (j := (1 : Int32)) hin30 (g := (mkF m 23 #[.val (.int i0), .val (.int i1), .val (.int i2), .val (.int i3), .val (.int i4), .val (.int (2 : Int32)), .val (.ref b28), .unset, .unset, .unset, .unset, .unset, .unset, .unset] [(.int (i2.toInt8.toInt32)), (.int (1 : Int32)), (.ref b28)])) rfl rfl (hb hby at_23)
    have V30 : AV Z h30 b28 .byte 4 (lst [(.int (nar .byte (i1.toInt8.toInt32))), (.int (nar .byte (i2.toInt8.toInt32))), (.int (0 : Int32)), (.int (0 : Int32))]) := AV.setL V29 (k := 1) (by decide) (by decide) W30 (Nat.le_of_ble_eq_true rfl) rfl
    have N30 := Fr.snoc X30 N29 gn_b28
    have Z30 : n0 ≤ h30.size := Nat.le_trans Z29 (Keep.of_wr W30).1
    refine Go.step (st30) ?_
    show Go _ _ _ _ _ _ _ T30 (mkF m 24 #[.val (.int i0), .val (.int i1), .val (.int i2), .val (.int i3), .val (.int i4), .val (.int (2 : Int32)), .val (.ref b28), .unset, .unset, .unset, .unset, .unset, .unset, .unset] [])
    refine Go.step (fun t k => XS.aload X30.here hx rfl (hb hby at_24) rfl rfl k) ?_
    show Go _ _ _ _ _ _ _ T30 (mkF m 26 #[.val (.int i0), .val (.int i1), .val (.int i2), .val (.int i3), .val (.int i4), .val (.int (2 : Int32)), .val (.ref b28), .unset, .unset, .unset, .unset, .unset, .unset, .unset] [(.ref b28)])
    refine Go.step (fun t k => XS.iconst X30.here hx rfl (hb hby at_26) k) ?_
    show Go _ _ _ _ _ _ _ T30 (mkF m 27 #[.val (.int i0), .val (.int i1), .val (.int i2), .val (.int i3), .val (.int i4), .val (.int (2 : Int32)), .val (.ref b28), .unset, .unset, .unset, .unset, .unset, .unset, .unset] [(.int (2 : Int32)), (.ref b28)])
    refine Go.step (fun t k => XS.iloadN X30.here hx rfl (hb hby at_27) rfl k) ?_
    show Go _ _ _ _ _ _ _ T30 (mkF m 28 #[.val (.int i0), .val (.int i1), .val (.int i2), .val (.int i3), .val (.int i4), .val (.int (2 : Int32)), .val (.ref b28), .unset, .unset, .unset, .unset, .unset, .unset, .unset] [(.int i3), (.int (2 : Int32)), (.ref b28)])
    refine Go.step (fun t k => XS.i2b X30.here hx rfl (hb hby at_28) rfl k) ?_
    show Go _ _ _ _ _ _ _ T30 (mkF m 29 #[.val (.int i0), .val (.int i1), .val (.int i2), .val (.int i3), .val (.int i4), .val (.int (2 : Int32)), .val (.ref b28), .unset, .unset, .unset, .unset, .unset, .unset, .unset] [(.int (i3.toInt8.toInt32)), (.int (2 : Int32)), (.ref b28)])
    obtain ⟨cl31, Ar31, hin31, -⟩ := V30.at (j := (2 : Int32)) (k := 2) (by decide) (by decide)
    obtain ⟨T31, h31, X31, e31, W31, st31⟩ := stB X30 hx hZ e30 Ar31 (j := (2 : Int32)) hin31 (g := (mkF m 29 #[.val (.int i0), .val (.int i1), .val (.int i2), .val (.int i3), .val (.int i4), .val (.int (2 : Int32)), .val (.ref b28), .unset, .unset, .unset, .unset, .unset, .unset, .unset] [(.int (i3.toInt8.toInt32)), (.int (2 : Int32)), (.ref b28)])) rfl rfl (hb hby at_29)
    have V31 : AV Z h31 b28 .byte 4 (lst [(.int (nar .byte (i1.toInt8.toInt32))), (.int (nar .byte (i2.toInt8.toInt32))), (.int (nar .byte (i3.toInt8.toInt32))), (.int (0 : Int32))]) := AV.setL V30 (k := 2) (by decide) (by decide) W31 (Nat.le_of_ble_eq_true rfl) rfl
    have N31 := Fr.snoc X31 N30 gn_b28
    have Z31 : n0 ≤ h31.size := Nat.le_trans Z30 (Keep.of_wr W31).1
    refine Go.step (st31) ?_
    show Go _ _ _ _ _ _ _ T31 (mkF m 30 #[.val (.int i0), .val (.int i1), .val (.int i2), .val (.int i3), .val (.int i4), .val (.int (2 : Int32)), .val (.ref b28), .unset, .unset, .unset, .unset, .unset, .unset, .unset] [])
    refine Go.step (fun t k => XS.aload X31.here hx rfl (hb hby at_30) rfl rfl k) ?_
    show Go _ _ _ _ _ _ _ T31 (mkF m 32 #[.val (.int i0), .val (.int i1), .val (.int i2), .val (.int i3), .val (.int i4), .val (.int (2 : Int32)), .val (.ref b28), .unset, .unset, .unset, .unset, .unset, .unset, .unset] [(.ref b28)])
    refine Go.step (fun t k => XS.iconst X31.here hx rfl (hb hby at_32) k) ?_
    show Go _ _ _ _ _ _ _ T31 (mkF m 33 #[.val (.int i0), .val (.int i1), .val (.int i2), .val (.int i3), .val (.int i4), .val (.int (2 : Int32)), .val (.ref b28), .unset, .unset, .unset, .unset, .unset, .unset, .unset] [(.int (3 : Int32)), (.ref b28)])
    refine Go.step (fun t k => XS.iload X31.here hx rfl (hb hby at_33) rfl k) ?_
    show Go _ _ _ _ _ _ _ T31 (mkF m 35 #[.val (.int i0), .val (.int i1), .val (.int i2), .val (.int i3), .val (.int i4), .val (.int (2 : Int32)), .val (.ref b28), .unset, .unset, .unset, .unset, .unset, .unset, .unset] [(.int i4), (.int (3 : Int32)), (.ref b28)])
    refine Go.step (fun t k => XS.i2b X31.here hx rfl (hb hby at_35) rfl k) ?_
    show Go _ _ _ _ _ _ _ T31 (mkF m 36 #[.val (.int i0), .val (.int i1), .val (.int i2), .val (.int i3), .val (.int i4), .val (.int (2 : Int32)), .val (.ref b28), .unset, .unset, .unset, .unset, .unset, .unset, .unset] [(.int (i4.toInt8.toInt32)), (.int (3 : Int32)), (.ref b28)])
    obtain ⟨cl32, Ar32, hin32, -⟩ := V31.at (j := (3 : Int32)) (k := 3) (by decide) (by decide)
    obtain ⟨T32, h32, X32, e32, W32, st32⟩ := stB X31 hx hZ e31 Ar32 (j := (3 : Int32)) hin32 (g := (mkF m 36 #[.val (.int i0), .val (.int i1), .val (.int i2), .val (.int i3), .val (.int i4), .val (.int (2 : Int32)), .val (.ref b28), .unset, .unset, .unset, .unset, .unset, .unset, .unset] [(.int (i4.toInt8.toInt32)), (.int (3 : Int32)), (.ref b28)])) rfl rfl (hb hby at_36)
    have V32 : AV Z h32 b28 .byte 4 (lst [(.int (nar .byte (i1.toInt8.toInt32))), (.int (nar .byte (i2.toInt8.toInt32))), (.int (nar .byte (i3.toInt8.toInt32))), (.int (nar .byte (i4.toInt8.toInt32)))]) := AV.setL V31 (k := 3) (by decide) (by decide) W32 (Nat.le_of_ble_eq_true rfl) rfl
    have N32 := Fr.snoc X32 N31 gn_b28
    have Z32 : n0 ≤ h32.size := Nat.le_trans Z31 (Keep.of_wr W32).1
    refine Go.step (st32) ?_
    show Go _ _ _ _ _ _ _ T32 (mkF m 37 #[.val (.int i0), .val (.int i1), .val (.int i2), .val (.int i3), .val (.int i4), .val (.int (2 : Int32)), .val (.ref b28), .unset, .unset, .unset, .unset, .unset, .unset, .unset] [])
    obtain ⟨T33, h33, X33, e33, E33, A33, D33, -, st33⟩ := newO X32 hx hZ hown (hw _ (List.mem_of_getElem? (i := 1) rfl)) (hw _ (List.mem_of_getElem? (i := 2) rfl)) (hw _ (List.mem_of_getElem? (i := 3) rfl)) e32 (g := (mkF m 37 #[.val (.int i0), .val (.int i1), .val (.int i2), .val (.int i3), .val (.int i4), .val (.int (2 : Int32)), .val (.ref b28), .unset, .unset, .unset, .unset, .unset, .unset, .unset] [])) rfl (hb hby at_37) (by decide) (by decide)
    obtain ⟨b33, g33⟩ : ∃ z, z = h32.size := ⟨_, rfl⟩
    rw [← g33] at A33 D33 st33
    have f34 := (Exa.wr W32 (Exa.wr W31 (Exa.wr W30 (Exa.wr W29 EA28))))
    have ne_b28_b33 : b28 ≠ b33 := Nat.ne_of_lt (Nat.lt_of_lt_of_le f34.lt (Nat.le_of_eq g33.symm))
    have gn_b33 : n0 ≤ b33 := Nat.le_trans Z32 (Nat.le_of_eq g33.symm)
    have Z33 : n0 ≤ h33.size := Nat.le_trans Z32 E33.1
    have F33_kept : Fld Z h33 b33 "com/example/bearer/bearer/modem/LineBuffer" "kept" "[B" .null := D33 (Or.inr (hw _ (List.mem_of_getElem? (i := 11) rfl))) (ty := (.array .byte)) (by decide)
    have F33_length : Fld Z h33 b33 "com/example/bearer/bearer/modem/LineBuffer" "length" "I" (.int (0 : Int32)) := D33 (Or.inl (hw _ (List.mem_of_getElem? (i := 18) rfl))) (ty := .int) (by decide)
    have F33_cut : Fld Z h33 b33 "com/example/bearer/bearer/modem/LineBuffer" "cut" "Z" (.int (0 : Int32)) := D33 (Or.inl (hw _ (List.mem_of_getElem? (i := 20) rfl))) (ty := .boolean) (by decide)
    refine Go.step (st33) ?_
    show Go _ _ _ _ _ _ _ T33 (mkF m 40 #[.val (.int i0), .val (.int i1), .val (.int i2), .val (.int i3), .val (.int i4), .val (.int (2 : Int32)), .val (.ref b28), .unset, .unset, .unset, .unset, .unset, .unset, .unset] [(.ref b33)])
    refine Go.step (fun t k => XS.dup X33.here hx rfl (hb hby at_40) rfl rfl k) ?_
    show Go _ _ _ _ _ _ _ T33 (mkF m 41 #[.val (.int i0), .val (.int i1), .val (.int i2), .val (.int i3), .val (.int i4), .val (.int (2 : Int32)), .val (.ref b28), .unset, .unset, .unset, .unset, .unset, .unset, .unset] [(.ref b33), (.ref b33)])
    refine Go.step (fun t k => XS.iload X33.here hx rfl (hb hby at_41) rfl k) ?_
    show Go _ _ _ _ _ _ _ T33 (mkF m 43 #[.val (.int i0), .val (.int i1), .val (.int i2), .val (.int i3), .val (.int i4), .val (.int (2 : Int32)), .val (.ref b28), .unset, .unset, .unset, .unset, .unset, .unset, .unset] [(.int (2 : Int32)), (.ref b33), (.ref b33)])
    have f36 := (Exa.ext E33 f34)
    obtain ⟨v35, T35, L35, X35, q35, st35⟩ := c_init X33 hx hZ hown (y := (⟨"com/example/bearer/bearer/modem/LineBuffer", "<init>", "(I)V"⟩ : MethodName)) (hw _ (List.mem_of_getElem? (i := 4) rfl)) (hw _ (List.mem_of_getElem? (i := 5) rfl)) (hw _ (List.mem_of_getElem? (i := 3) rfl)) (hw _ (List.mem_of_getElem? (i := 6) rfl)) rfl (by decide) (a := b33) (argsL := [(.int (2 : Int32))]) (rest := [(.ref b33)]) (rmI l Z a0 hw [] b33 2 h33 n0 Z33 (by decide) (by decide) A33 F33_kept F33_length F33_cut gn_b33) e33 pd_1 rfl (by rw [hml]; rfl) (W := 1) (by show 2 * 0 + _ ≤ _; exact Nat.le_of_eq rfl) (by decide) (by decide) (by decide) (by decide) (hb hby at_43) (Ls := #[.val (.int i0), .val (.int i1), .val (.int i2), .val (.int i3), .val (.int i4), .val (.int (2 : Int32)), .val (.ref b28), .unset, .unset, .unset, .unset, .unset, .unset, .unset])
    generalize e35 : T35.heap = h35 at q35
    obtain ⟨rfl, N35q, K35q, b35, sz35, E35q, E35k, F35q0, F35q1, F35q2, V35k⟩ := q35
    have N35 := Fr.app N32 N35q
    have ne_b28_b35 : b28 ≠ b35 := Nat.ne_of_lt (Nat.lt_of_lt_of_le f36.lt sz35)
    have ne_b33_b35 : b33 ≠ b35 := Nat.ne_of_lt (Nat.lt_of_lt_of_le A33.lt sz35)
    have gn_b35 : n0 ≤ b35 := Nat.le_trans Z33 sz35
    have Z35 : n0 ≤ h35.size := Nat.le_trans Z33 K35q.1
    refine Go.step (st35) ?_
    show Go _ _ _ _ _ _ _ T35 (mkF m 46 #[.val (.int i0), .val (.int i1), .val (.int i2), .val (.int i3), .val (.int i4), .val (.int (2 : Int32)), .val (.ref b28), .unset, .unset, .unset, .unset, .unset, .unset, .unset] [(.ref b33)])
    refine Go.step (fun t k => XS.astore X35.here hx rfl (hb hby at_46) rfl rfl (l' := #[.val (.int i0), .val (.int i1), .val (.int i2), .val (.int i3), .val (.int i4), .val (.int (2 : Int32)), .val (.ref b28), .val (.ref b33), .unset, .unset, .unset, .unset, .unset, .unset]) rfl k) ?_
    show Go _ _ _ _ _ _ _ T35 (mkF m 48 #[.val (.int i0), .val (.int i1), .val (.int i2), .val (.int i3), .val (.int i4), .val (.int (2 : Int32)), .val (.ref b28), .val (.ref b33), .unset, .unset, .unset, .unset, .unset, .unset] [])
    refine Go.step (fun t k => XS.aload X35.here hx rfl (hb hby at_48) rfl rfl k) ?_
    show Go _ _ _ _ _ _ _ T35 (mkF m 50 #[.val (.int i0), .val (.int i1), .val (.int i2), .val (.int i3), .val (.int i4), .val (.int (2 : Int32)), .val (.ref b28), .val (.ref b33), .unset, .unset, .unset, .unset, .unset, .unset] [(.ref b33)])
    refine Go.step (fun t k => XS.aload X35.here hx rfl (hb hby at_50) rfl rfl k) ?_
    show Go _ _ _ _ _ _ _ T35 (mkF m 52 #[.val (.int i0), .val (.int i1), .val (.int i2), .val (.int i3), .val (.int i4), .val (.int (2 : Int32)), .val (.ref b28), .val (.ref b33), .unset, .unset, .unset, .unset, .unset, .unset] [(.ref b28), (.ref b33)])
    refine Go.step (fun t k => XS.iconst X35.here hx rfl (hb hby at_52) k) ?_
    show Go _ _ _ _ _ _ _ T35 (mkF m 53 #[.val (.int i0), .val (.int i1), .val (.int i2), .val (.int i3), .val (.int i4), .val (.int (2 : Int32)), .val (.ref b28), .val (.ref b33), .unset, .unset, .unset, .unset, .unset, .unset] [(.int (0 : Int32)), (.ref b28), (.ref b33)])
    have f37 := ((V32.ext E33).keep K35q (ninS ne_b28_b33 nin0))
    refine Go.step (a_bload X35 hx hZ e35 f37 (k := 0) (by decide) (by decide) (x := (nar .byte (i1.toInt8.toInt32))) rfl (hb hby at_53)) ?_
    show Go _ _ _ _ _ _ _ T35 (mkF m 54 #[.val (.int i0), .val (.int i1), .val (.int i2), .val (.int i3), .val (.int i4), .val (.int (2 : Int32)), .val (.ref b28), .val (.ref b33), .unset, .unset, .unset, .unset, .unset, .unset] [(.int (nar .byte (i1.toInt8.toInt32))), (.ref b33)])
    obtain ⟨v38, T38, L38, X38, q38, st38⟩ := c_virt X35 hx hZ hown (y' := (⟨"com/example/bearer/bearer/modem/LineBuffer", "add", "(B)Z"⟩ : MethodName)) (y := (⟨"com/example/bearer/bearer/modem/LineBuffer", "add", "(B)Z"⟩ : MethodName)) (C := "com/example/bearer/bearer/modem/LineBuffer") (hw _ (List.mem_of_getElem? (i := 12) rfl)) (hw _ (List.mem_of_getElem? (i := 13) rfl)) (notFace_of_selects (args := #[]) (mvT hZ (hw _ (List.mem_of_getElem? (i := 15) rfl)))) (hw _ (List.mem_of_getElem? (i := 15) rfl)) (hw _ (List.mem_of_getElem? (i := 14) rfl)) (hw _ (List.mem_of_getElem? (i := 3) rfl)) (hw _ (List.mem_of_getElem? (i := 16) rfl)) (by decide) (a := b33) (argsL := [(.int (nar .byte (i1.toInt8.toInt32)))]) (rest := []) (rmY l Z a0 hw [] b33 b35 2 0 false (fun _ => .int (0 : Int32)) (nar .byte (i1.toInt8.toInt32)) h35 n0 Z35 (by decide) (by decide) (by decide) E35q F35q0 F35q1 F35q2 V35k E35k ne_b33_b35 gn_b33 gn_b35  (by decide)) e35 E35q pd_2 rfl (by rw [hml]; rfl) (W := 0) (by show 2 * 0 + _ ≤ _; exact Nat.le_of_eq rfl) (by decide) (by decide) (by decide) (by decide) (hb hby at_54) (Ls := #[.val (.int i0), .val (.int i1), .val (.int i2), .val (.int i3), .val (.int i4), .val (.int (2 : Int32)), .val (.ref b28), .val (.ref b33), .unset, .unset, .unset, .unset, .unset, .unset])
    generalize e38 : T38.heap = h38 at q38
    obtain ⟨rfl, N38q, K38q, E38q, E38k, F38q0, F38q1, F38q2, V38k⟩ := q38
    have N38 := Fr.app N35 N38q
    have Z38 : n0 ≤ h38.size := Nat.le_trans Z35 K38q.1
    refine Go.step (st38) ?_
    show Go _ _ _ _ _ _ _ T38 (mkF m 57 #[.val (.int i0), .val (.int i1), .val (.int i2), .val (.int i3), .val (.int i4), .val (.int (2 : Int32)), .val (.ref b28), .val (.ref b33), .unset, .unset, .unset, .unset, .unset, .unset] [(.int (0 : Int32))])
    refine Go.step (fun t k => XS.istore X38.here hx rfl (hb hby at_57) rfl (l' := #[.val (.int i0), .val (.int i1), .val (.int i2), .val (.int i3), .val (.int i4), .val (.int (2 : Int32)), .val (.ref b28), .val (.ref b33), .val (.int (0 : Int32)), .unset, .unset, .unset, .unset, .unset]) rfl k) ?_
    show Go _ _ _ _ _ _ _ T38 (mkF m 59 #[.val (.int i0), .val (.int i1), .val (.int i2), .val (.int i3), .val (.int i4), .val (.int (2 : Int32)), .val (.ref b28), .val (.ref b33), .val (.int (0 : Int32)), .unset, .unset, .unset, .unset, .unset] [])
    refine Go.step (fun t k => XS.aload X38.here hx rfl (hb hby at_59) rfl rfl k) ?_
    show Go _ _ _ _ _ _ _ T38 (mkF m 61 #[.val (.int i0), .val (.int i1), .val (.int i2), .val (.int i3), .val (.int i4), .val (.int (2 : Int32)), .val (.ref b28), .val (.ref b33), .val (.int (0 : Int32)), .unset, .unset, .unset, .unset, .unset] [(.ref b33)])
    refine Go.step (fun t k => XS.aload X38.here hx rfl (hb hby at_61) rfl rfl k) ?_
    show Go _ _ _ _ _ _ _ T38 (mkF m 63 #[.val (.int i0), .val (.int i1), .val (.int i2), .val (.int i3), .val (.int i4), .val (.int (2 : Int32)), .val (.ref b28), .val (.ref b33), .val (.int (0 : Int32)), .unset, .unset, .unset, .unset, .unset] [(.ref b28), (.ref b33)])
    refine Go.step (fun t k => XS.iconst X38.here hx rfl (hb hby at_63) k) ?_
    show Go _ _ _ _ _ _ _ T38 (mkF m 64 #[.val (.int i0), .val (.int i1), .val (.int i2), .val (.int i3), .val (.int i4), .val (.int (2 : Int32)), .val (.ref b28), .val (.ref b33), .val (.int (0 : Int32)), .unset, .unset, .unset, .unset, .unset] [(.int (1 : Int32)), (.ref b28), (.ref b33)])
    have f39 := (f37.keep K38q (ninS ne_b28_b33 (ninS ne_b28_b35 nin0)))
    refine Go.step (a_bload X38 hx hZ e38 f39 (k := 1) (by decide) (by decide) (x := (nar .byte (i2.toInt8.toInt32))) rfl (hb hby at_64)) ?_
    show Go _ _ _ _ _ _ _ T38 (mkF m 65 #[.val (.int i0), .val (.int i1), .val (.int i2), .val (.int i3), .val (.int i4), .val (.int (2 : Int32)), .val (.ref b28), .val (.ref b33), .val (.int (0 : Int32)), .unset, .unset, .unset, .unset, .unset] [(.int (nar .byte (i2.toInt8.toInt32))), (.ref b33)])
    obtain ⟨v40, T40, L40, X40, q40, st40⟩ := c_virt X38 hx hZ hown (y' := (⟨"com/example/bearer/bearer/modem/LineBuffer", "add", "(B)Z"⟩ : MethodName)) (y := (⟨"com/example/bearer/bearer/modem/LineBuffer", "add", "(B)Z"⟩ : MethodName)) (C := "com/example/bearer/bearer/modem/LineBuffer") (hw _ (List.mem_of_getElem? (i := 12) rfl)) (hw _ (List.mem_of_getElem? (i := 13) rfl)) (notFace_of_selects (args := #[]) (mvT hZ (hw _ (List.mem_of_getElem? (i := 15) rfl)))) (hw _ (List.mem_of_getElem? (i := 15) rfl)) (hw _ (List.mem_of_getElem? (i := 14) rfl)) (hw _ (List.mem_of_getElem? (i := 3) rfl)) (hw _ (List.mem_of_getElem? (i := 16) rfl)) (by decide) (a := b33) (argsL := [(.int (nar .byte (i2.toInt8.toInt32)))]) (rest := []) (rmY l Z a0 hw [] b33 b35 2 1 false (upd (fun _ => .int (0 : Int32)) 0 (.int (nar .byte (nar .byte (i1.toInt8.toInt32))))) (nar .byte (i2.toInt8.toInt32)) h38 n0 Z38 (by decide) (by decide) (by decide) E38q F38q0 F38q1 F38q2 V38k E38k ne_b33_b35 gn_b33 gn_b35  (by decide)) e38 E38q pd_2 rfl (by rw [hml]; rfl) (W := 0) (by show 2 * 0 + _ ≤ _; exact Nat.le_of_eq rfl) (by decide) (by decide) (by decide) (by decide) (hb hby at_65) (Ls := #[.val (.int i0), .val (.int i1), .val (.int i2), .val (.int i3), .val (.int i4), .val (.int (2 : Int32)), .val (.ref b28), .val (.ref b33), .val (.int (0 : Int32)), .unset, .unset, .unset, .unset, .unset])
    generalize e40 : T40.heap = h40 at q40
    obtain ⟨rfl, N40q, K40q, E40q, E40k, F40q0, F40q1, F40q2, V40k⟩ := q40
    have N40 := Fr.app N38 N40q
    have Z40 : n0 ≤ h40.size := Nat.le_trans Z38 K40q.1
    refine Go.step (st40) ?_
    show Go _ _ _ _ _ _ _ T40 (mkF m 68 #[.val (.int i0), .val (.int i1), .val (.int i2), .val (.int i3), .val (.int i4), .val (.int (2 : Int32)), .val (.ref b28), .val (.ref b33), .val (.int (0 : Int32)), .unset, .unset, .unset, .unset, .unset] [(.int (0 : Int32))])
    refine Go.step (fun t k => XS.istore X40.here hx rfl (hb hby at_68) rfl (l' := #[.val (.int i0), .val (.int i1), .val (.int i2), .val (.int i3), .val (.int i4), .val (.int (2 : Int32)), .val (.ref b28), .val (.ref b33), .val (.int (0 : Int32)), .val (.int (0 : Int32)), .unset, .unset, .unset, .unset]) rfl k) ?_
    show Go _ _ _ _ _ _ _ T40 (mkF m 70 #[.val (.int i0), .val (.int i1), .val (.int i2), .val (.int i3), .val (.int i4), .val (.int (2 : Int32)), .val (.ref b28), .val (.ref b33), .val (.int (0 : Int32)), .val (.int (0 : Int32)), .unset, .unset, .unset, .unset] [])
    refine Go.step (fun t k => XS.aload X40.here hx rfl (hb hby at_70) rfl rfl k) ?_
    show Go _ _ _ _ _ _ _ T40 (mkF m 72 #[.val (.int i0), .val (.int i1), .val (.int i2), .val (.int i3), .val (.int i4), .val (.int (2 : Int32)), .val (.ref b28), .val (.ref b33), .val (.int (0 : Int32)), .val (.int (0 : Int32)), .unset, .unset, .unset, .unset] [(.ref b33)])
    refine Go.step (fun t k => XS.aload X40.here hx rfl (hb hby at_72) rfl rfl k) ?_
    show Go _ _ _ _ _ _ _ T40 (mkF m 74 #[.val (.int i0), .val (.int i1), .val (.int i2), .val (.int i3), .val (.int i4), .val (.int (2 : Int32)), .val (.ref b28), .val (.ref b33), .val (.int (0 : Int32)), .val (.int (0 : Int32)), .unset, .unset, .unset, .unset] [(.ref b28), (.ref b33)])
    refine Go.step (fun t k => XS.iconst X40.here hx rfl (hb hby at_74) k) ?_
    show Go _ _ _ _ _ _ _ T40 (mkF m 75 #[.val (.int i0), .val (.int i1), .val (.int i2), .val (.int i3), .val (.int i4), .val (.int (2 : Int32)), .val (.ref b28), .val (.ref b33), .val (.int (0 : Int32)), .val (.int (0 : Int32)), .unset, .unset, .unset, .unset] [(.int (2 : Int32)), (.ref b28), (.ref b33)])
    have f41 := (f39.keep K40q (ninS ne_b28_b33 (ninS ne_b28_b35 nin0)))
    refine Go.step (a_bload X40 hx hZ e40 f41 (k := 2) (by decide) (by decide) (x := (nar .byte (i3.toInt8.toInt32))) rfl (hb hby at_75)) ?_
    show Go _ _ _ _ _ _ _ T40 (mkF m 76 #[.val (.int i0), .val (.int i1), .val (.int i2), .val (.int i3), .val (.int i4), .val (.int (2 : Int32)), .val (.ref b28), .val (.ref b33), .val (.int (0 : Int32)), .val (.int (0 : Int32)), .unset, .unset, .unset, .unset] [(.int (nar .byte (i3.toInt8.toInt32))), (.ref b33)])
    obtain ⟨v42, T42, L42, X42, q42, st42⟩ := c_virt X40 hx hZ hown (y' := (⟨"com/example/bearer/bearer/modem/LineBuffer", "add", "(B)Z"⟩ : MethodName)) (y := (⟨"com/example/bearer/bearer/modem/LineBuffer", "add", "(B)Z"⟩ : MethodName)) (C := "com/example/bearer/bearer/modem/LineBuffer") (hw _ (List.mem_of_getElem? (i := 12) rfl)) (hw _ (List.mem_of_getElem? (i := 13) rfl)) (notFace_of_selects (args := #[]) (mvT hZ (hw _ (List.mem_of_getElem? (i := 15) rfl)))) (hw _ (List.mem_of_getElem? (i := 15) rfl)) (hw _ (List.mem_of_getElem? (i := 14) rfl)) (hw _ (List.mem_of_getElem? (i := 3) rfl)) (hw _ (List.mem_of_getElem? (i := 16) rfl)) (by decide) (a := b33) (argsL := [(.int (nar .byte (i3.toInt8.toInt32)))]) (rest := []) (rmF l Z a0 hw [] b33 b35 2 2 false (upd (upd (fun _ => .int (0 : Int32)) 0 (.int (nar .byte (nar .byte (i1.toInt8.toInt32))))) 1 (.int (nar .byte (nar .byte (i2.toInt8.toInt32))))) (nar .byte (i3.toInt8.toInt32)) h40 n0 Z40 (by decide) (by decide) (by decide) E40q F40q0 F40q1 F40q2 V40k E40k ne_b33_b35 gn_b33 gn_b35  (by decide)) e40 E40q pd_2 rfl (by rw [hml]; rfl) (W := 0) (by show 2 * 0 + _ ≤ _; exact Nat.le_of_eq rfl) (by decide) (by decide) (by decide) (by decide) (hb hby at_76) (Ls := #[.val (.int i0), .val (.int i1), .val (.int i2), .val (.int i3), .val (.int i4), .val (.int (2 : Int32)), .val (.ref b28), .val (.ref b33), .val (.int (0 : Int32)), .val (.int (0 : Int32)), .unset, .unset, .unset, .unset])
    generalize e42 : T42.heap = h42 at q42
    obtain ⟨rfl, N42q, K42q, E42q, E42k, F42q0, F42q1, F42q2, V42k⟩ := q42
    have N42 := Fr.app N40 N42q
    have Z42 : n0 ≤ h42.size := Nat.le_trans Z40 K42q.1
    refine Go.step (st42) ?_
    show Go _ _ _ _ _ _ _ T42 (mkF m 79 #[.val (.int i0), .val (.int i1), .val (.int i2), .val (.int i3), .val (.int i4), .val (.int (2 : Int32)), .val (.ref b28), .val (.ref b33), .val (.int (0 : Int32)), .val (.int (0 : Int32)), .unset, .unset, .unset, .unset] [(.int (bi (¬ (false = true))))])
    refine Go.step (fun t k => XS.istore X42.here hx rfl (hb hby at_79) rfl (l' := #[.val (.int i0), .val (.int i1), .val (.int i2), .val (.int i3), .val (.int i4), .val (.int (2 : Int32)), .val (.ref b28), .val (.ref b33), .val (.int (0 : Int32)), .val (.int (0 : Int32)), .val (.int (bi (¬ (false = true)))), .unset, .unset, .unset]) rfl k) ?_
    show Go _ _ _ _ _ _ _ T42 (mkF m 81 #[.val (.int i0), .val (.int i1), .val (.int i2), .val (.int i3), .val (.int i4), .val (.int (2 : Int32)), .val (.ref b28), .val (.ref b33), .val (.int (0 : Int32)), .val (.int (0 : Int32)), .val (.int (bi (¬ (false = true)))), .unset, .unset, .unset] [])
    refine Go.step (fun t k => XS.aload X42.here hx rfl (hb hby at_81) rfl rfl k) ?_
    show Go _ _ _ _ _ _ _ T42 (mkF m 83 #[.val (.int i0), .val (.int i1), .val (.int i2), .val (.int i3), .val (.int i4), .val (.int (2 : Int32)), .val (.ref b28), .val (.ref b33), .val (.int (0 : Int32)), .val (.int (0 : Int32)), .val (.int (bi (¬ (false = true)))), .unset, .unset, .unset] [(.ref b33)])
    refine Go.step (fun t k => XS.aload X42.here hx rfl (hb hby at_83) rfl rfl k) ?_
    show Go _ _ _ _ _ _ _ T42 (mkF m 85 #[.val (.int i0), .val (.int i1), .val (.int i2), .val (.int i3), .val (.int i4), .val (.int (2 : Int32)), .val (.ref b28), .val (.ref b33), .val (.int (0 : Int32)), .val (.int (0 : Int32)), .val (.int (bi (¬ (false = true)))), .unset, .unset, .unset] [(.ref b28), (.ref b33)])
    refine Go.step (fun t k => XS.iconst X42.here hx rfl (hb hby at_85) k) ?_
    show Go _ _ _ _ _ _ _ T42 (mkF m 86 #[.val (.int i0), .val (.int i1), .val (.int i2), .val (.int i3), .val (.int i4), .val (.int (2 : Int32)), .val (.ref b28), .val (.ref b33), .val (.int (0 : Int32)), .val (.int (0 : Int32)), .val (.int (bi (¬ (false = true)))), .unset, .unset, .unset] [(.int (3 : Int32)), (.ref b28), (.ref b33)])
    have f43 := (f41.keep K42q (ninS ne_b28_b33 (ninS ne_b28_b35 nin0)))
    refine Go.step (a_bload X42 hx hZ e42 f43 (k := 3) (by decide) (by decide) (x := (nar .byte (i4.toInt8.toInt32))) rfl (hb hby at_86)) ?_
    show Go _ _ _ _ _ _ _ T42 (mkF m 87 #[.val (.int i0), .val (.int i1), .val (.int i2), .val (.int i3), .val (.int i4), .val (.int (2 : Int32)), .val (.ref b28), .val (.ref b33), .val (.int (0 : Int32)), .val (.int (0 : Int32)), .val (.int (bi (¬ (false = true)))), .unset, .unset, .unset] [(.int (nar .byte (i4.toInt8.toInt32))), (.ref b33)])
    obtain ⟨v44, T44, L44, X44, q44, st44⟩ := c_virt X42 hx hZ hown (y' := (⟨"com/example/bearer/bearer/modem/LineBuffer", "add", "(B)Z"⟩ : MethodName)) (y := (⟨"com/example/bearer/bearer/modem/LineBuffer", "add", "(B)Z"⟩ : MethodName)) (C := "com/example/bearer/bearer/modem/LineBuffer") (hw _ (List.mem_of_getElem? (i := 12) rfl)) (hw _ (List.mem_of_getElem? (i := 13) rfl)) (notFace_of_selects (args := #[]) (mvT hZ (hw _ (List.mem_of_getElem? (i := 15) rfl)))) (hw _ (List.mem_of_getElem? (i := 15) rfl)) (hw _ (List.mem_of_getElem? (i := 14) rfl)) (hw _ (List.mem_of_getElem? (i := 3) rfl)) (hw _ (List.mem_of_getElem? (i := 16) rfl)) (by decide) (a := b33) (argsL := [(.int (nar .byte (i4.toInt8.toInt32)))]) (rest := []) (rmF l Z a0 hw [] b33 b35 2 2 true (upd (upd (fun _ => .int (0 : Int32)) 0 (.int (nar .byte (nar .byte (i1.toInt8.toInt32))))) 1 (.int (nar .byte (nar .byte (i2.toInt8.toInt32))))) (nar .byte (i4.toInt8.toInt32)) h42 n0 Z42 (by decide) (by decide) (by decide) E42q F42q0 F42q1 F42q2 V42k E42k ne_b33_b35 gn_b33 gn_b35  (by decide)) e42 E42q pd_2 rfl (by rw [hml]; rfl) (W := 0) (by show 2 * 0 + _ ≤ _; exact Nat.le_of_eq rfl) (by decide) (by decide) (by decide) (by decide) (hb hby at_87) (Ls := #[.val (.int i0), .val (.int i1), .val (.int i2), .val (.int i3), .val (.int i4), .val (.int (2 : Int32)), .val (.ref b28), .val (.ref b33), .val (.int (0 : Int32)), .val (.int (0 : Int32)), .val (.int (bi (¬ (false = true)))), .unset, .unset, .unset])
    generalize e44 : T44.heap = h44 at q44
    obtain ⟨rfl, N44q, K44q, E44q, E44k, F44q0, F44q1, F44q2, V44k⟩ := q44
    have N44 := Fr.app N42 N44q
    have Z44 : n0 ≤ h44.size := Nat.le_trans Z42 K44q.1
    refine Go.step (st44) ?_
    show Go _ _ _ _ _ _ _ T44 (mkF m 90 #[.val (.int i0), .val (.int i1), .val (.int i2), .val (.int i3), .val (.int i4), .val (.int (2 : Int32)), .val (.ref b28), .val (.ref b33), .val (.int (0 : Int32)), .val (.int (0 : Int32)), .val (.int (bi (¬ (false = true)))), .unset, .unset, .unset] [(.int (bi (¬ (true = true))))])
    refine Go.step (fun t k => XS.istore X44.here hx rfl (hb hby at_90) rfl (l' := #[.val (.int i0), .val (.int i1), .val (.int i2), .val (.int i3), .val (.int i4), .val (.int (2 : Int32)), .val (.ref b28), .val (.ref b33), .val (.int (0 : Int32)), .val (.int (0 : Int32)), .val (.int (bi (¬ (false = true)))), .val (.int (bi (¬ (true = true)))), .unset, .unset]) rfl k) ?_
    show Go _ _ _ _ _ _ _ T44 (mkF m 92 #[.val (.int i0), .val (.int i1), .val (.int i2), .val (.int i3), .val (.int i4), .val (.int (2 : Int32)), .val (.ref b28), .val (.ref b33), .val (.int (0 : Int32)), .val (.int (0 : Int32)), .val (.int (bi (¬ (false = true)))), .val (.int (bi (¬ (true = true)))), .unset, .unset] [])
    refine Go.step (fun t k => XS.aload X44.here hx rfl (hb hby at_92) rfl rfl k) ?_
    show Go _ _ _ _ _ _ _ T44 (mkF m 94 #[.val (.int i0), .val (.int i1), .val (.int i2), .val (.int i3), .val (.int i4), .val (.int (2 : Int32)), .val (.ref b28), .val (.ref b33), .val (.int (0 : Int32)), .val (.int (0 : Int32)), .val (.int (bi (¬ (false = true)))), .val (.int (bi (¬ (true = true)))), .unset, .unset] [(.ref b33)])
    have f46 := (((((f36.keep K35q).keep K38q).keep K40q).keep K42q).keep K44q)
    have hfit45 : ∀ i, i < 2 → fits .byte ((upd (upd (fun _ => .int (0 : Int32)) 0 (.int (nar .byte (nar .byte (i1.toInt8.toInt32))))) 1 (.int (nar .byte (nar .byte (i2.toInt8.toInt32))))) i) = true := fun i hi => by
      rcases (by omega : i = 0 ∨ i = 1) with rfl | rfl <;> exact fits_nar_byte _
    obtain ⟨v45, T45, L45, X45, q45, st45⟩ := c_virt X44 hx hZ hown (y' := (⟨"com/example/bearer/bearer/modem/LineBuffer", "toByteArray", "()[B"⟩ : MethodName)) (y := (⟨"com/example/bearer/bearer/modem/LineBuffer", "toByteArray", "()[B"⟩ : MethodName)) (C := "com/example/bearer/bearer/modem/LineBuffer") (hw _ (List.mem_of_getElem? (i := 21) rfl)) (hw _ (List.mem_of_getElem? (i := 22) rfl)) (notFace_of_selects (args := #[]) (mvT hZ (hw _ (List.mem_of_getElem? (i := 24) rfl)))) (hw _ (List.mem_of_getElem? (i := 24) rfl)) (hw _ (List.mem_of_getElem? (i := 23) rfl)) (hw _ (List.mem_of_getElem? (i := 3) rfl)) (hw _ (List.mem_of_getElem? (i := 25) rfl)) (by decide) (a := b33) (argsL := []) (rest := []) (rmB l Z a0 hw [] b33 b35 2 true (upd (upd (fun _ => .int (0 : Int32)) 0 (.int (nar .byte (nar .byte (i1.toInt8.toInt32))))) 1 (.int (nar .byte (nar .byte (i2.toInt8.toInt32))))) h44 n0 Z44 (by decide) (by decide) E44q F44q0 F44q1 F44q2 V44k E44k ne_b33_b35 hfit45) e44 E44q pd_3 rfl (by rw [hml]; rfl) (W := 0) (by show 2 * 0 + _ ≤ _; exact Nat.le_of_eq rfl) (by decide) (by decide) (by decide) (by decide) (hb hby at_94) (Ls := #[.val (.int i0), .val (.int i1), .val (.int i2), .val (.int i3), .val (.int i4), .val (.int (2 : Int32)), .val (.ref b28), .val (.ref b33), .val (.int (0 : Int32)), .val (.int (0 : Int32)), .val (.int (bi (¬ (false = true)))), .val (.int (bi (¬ (true = true)))), .unset, .unset])
    generalize e45 : T45.heap = h45 at q45
    obtain ⟨b45, rfl, N45q, K45q, sz45, V45k⟩ := q45
    have N45 := Fr.app N44 N45q
    have ne_b28_b45 : b28 ≠ b45 := Nat.ne_of_lt (Nat.lt_of_lt_of_le f46.lt sz45)
    have ne_b33_b45 : b33 ≠ b45 := Nat.ne_of_lt (Nat.lt_of_lt_of_le E44q.lt sz45)
    have ne_b35_b45 : b35 ≠ b45 := Nat.ne_of_lt (Nat.lt_of_lt_of_le E44k.lt sz45)
    have gn_b45 : n0 ≤ b45 := Nat.le_trans Z44 sz45
    have Z45 : n0 ≤ h45.size := Nat.le_trans Z44 K45q.1
    refine Go.step (st45) ?_
    show Go _ _ _ _ _ _ _ T45 (mkF m 97 #[.val (.int i0), .val (.int i1), .val (.int i2), .val (.int i3), .val (.int i4), .val (.int (2 : Int32)), .val (.ref b28), .val (.ref b33), .val (.int (0 : Int32)), .val (.int (0 : Int32)), .val (.int (bi (¬ (false = true)))), .val (.int (bi (¬ (true = true)))), .unset, .unset] [(.ref b45)])
    refine Go.step (fun t k => XS.astore X45.here hx rfl (hb hby at_97) rfl rfl (l' := #[.val (.int i0), .val (.int i1), .val (.int i2), .val (.int i3), .val (.int i4), .val (.int (2 : Int32)), .val (.ref b28), .val (.ref b33), .val (.int (0 : Int32)), .val (.int (0 : Int32)), .val (.int (bi (¬ (false = true)))), .val (.int (bi (¬ (true = true)))), .val (.ref b45), .unset]) rfl k) ?_
    show Go _ _ _ _ _ _ _ T45 (mkF m 99 #[.val (.int i0), .val (.int i1), .val (.int i2), .val (.int i3), .val (.int i4), .val (.int (2 : Int32)), .val (.ref b28), .val (.ref b33), .val (.int (0 : Int32)), .val (.int (0 : Int32)), .val (.int (bi (¬ (false = true)))), .val (.int (bi (¬ (true = true)))), .val (.ref b45), .unset] [])
    refine Go.step (fun t k => XS.aload X45.here hx rfl (hb hby at_99) rfl rfl k) ?_
    show Go _ _ _ _ _ _ _ T45 (mkF m 101 #[.val (.int i0), .val (.int i1), .val (.int i2), .val (.int i3), .val (.int i4), .val (.int (2 : Int32)), .val (.ref b28), .val (.ref b33), .val (.int (0 : Int32)), .val (.int (0 : Int32)), .val (.int (bi (¬ (false = true)))), .val (.int (bi (¬ (true = true)))), .val (.ref b45), .unset] [(.ref b33)])
    have f48 := (E44q.keep K45q)
    have f49 := (F44q0.keep K45q nin0)
    have f50 := (F44q1.keep K45q nin0)
    have f51 := (F44q2.keep K45q nin0)
    have f52 := (V44k.keep K45q nin0)
    have f53 := (E44k.keep K45q)
    obtain ⟨v47, T47, L47, X47, q47, st47⟩ := c_virt X45 hx hZ hown (y' := (⟨"com/example/bearer/bearer/modem/LineBuffer", "isCut", "()Z"⟩ : MethodName)) (y := (⟨"com/example/bearer/bearer/modem/LineBuffer", "isCut", "()Z"⟩ : MethodName)) (C := "com/example/bearer/bearer/modem/LineBuffer") (hw _ (List.mem_of_getElem? (i := 39) rfl)) (hw _ (List.mem_of_getElem? (i := 40) rfl)) (notFace_of_selects (args := #[]) (mvT hZ (hw _ (List.mem_of_getElem? (i := 42) rfl)))) (hw _ (List.mem_of_getElem? (i := 42) rfl)) (hw _ (List.mem_of_getElem? (i := 41) rfl)) (hw _ (List.mem_of_getElem? (i := 3) rfl)) (hw _ (List.mem_of_getElem? (i := 43) rfl)) (by decide) (a := b33) (argsL := []) (rest := []) (rmQ l Z a0 hw [] b33 b35 2 2 true (upd (upd (fun _ => .int (0 : Int32)) 0 (.int (nar .byte (nar .byte (i1.toInt8.toInt32))))) 1 (.int (nar .byte (nar .byte (i2.toInt8.toInt32))))) h45 n0 Z45 (by decide) (by decide) (by decide) f48 f49 f50 f51 f52 f53 ne_b33_b35) e45 f48 pd_4 rfl (by rw [hml]; rfl) (W := 0) (by show 2 * 0 + _ ≤ _; exact Nat.le_of_eq rfl) (by decide) (by decide) (by decide) (by decide) (hb hby at_101) (Ls := #[.val (.int i0), .val (.int i1), .val (.int i2), .val (.int i3), .val (.int i4), .val (.int (2 : Int32)), .val (.ref b28), .val (.ref b33), .val (.int (0 : Int32)), .val (.int (0 : Int32)), .val (.int (bi (¬ (false = true)))), .val (.int (bi (¬ (true = true)))), .val (.ref b45), .unset])
    obtain ⟨rfl, rfl, e47⟩ := q47
    have N47 := Fr.app N45 (Fr.nil n0)
    refine Go.step (st47) ?_
    show Go _ _ _ _ _ _ _ T47 (mkF m 104 #[.val (.int i0), .val (.int i1), .val (.int i2), .val (.int i3), .val (.int i4), .val (.int (2 : Int32)), .val (.ref b28), .val (.ref b33), .val (.int (0 : Int32)), .val (.int (0 : Int32)), .val (.int (bi (¬ (false = true)))), .val (.int (bi (¬ (true = true)))), .val (.ref b45), .unset] [(.int (bi (true = true)))])
    refine Go.step (fun t k => XS.istore X47.here hx rfl (hb hby at_104) rfl (l' := #[.val (.int i0), .val (.int i1), .val (.int i2), .val (.int i3), .val (.int i4), .val (.int (2 : Int32)), .val (.ref b28), .val (.ref b33), .val (.int (0 : Int32)), .val (.int (0 : Int32)), .val (.int (bi (¬ (false = true)))), .val (.int (bi (¬ (true = true)))), .val (.ref b45), .val (.int (bi (true = true)))]) rfl k) ?_
    show Go _ _ _ _ _ _ _ T47 (mkF m 106 #[.val (.int i0), .val (.int i1), .val (.int i2), .val (.int i3), .val (.int i4), .val (.int (2 : Int32)), .val (.ref b28), .val (.ref b33), .val (.int (0 : Int32)), .val (.int (0 : Int32)), .val (.int (bi (¬ (false = true)))), .val (.int (bi (¬ (true = true)))), .val (.ref b45), .val (.int (bi (true = true)))] [])
    refine Go.step (fun t k => XS.iload X47.here hx rfl (hb hby at_106) rfl k) ?_
    show Go _ _ _ _ _ _ _ T47 (mkF m 108 #[.val (.int i0), .val (.int i1), .val (.int i2), .val (.int i3), .val (.int i4), .val (.int (2 : Int32)), .val (.ref b28), .val (.ref b33), .val (.int (0 : Int32)), .val (.int (0 : Int32)), .val (.int (bi (¬ (false = true)))), .val (.int (bi (¬ (true = true)))), .val (.ref b45), .val (.int (bi (true = true)))] [(.int (0 : Int32))])
    refine Go.step (fun t k => XS.ifYes X47.here hx rfl (pc0 := 108) (pc' := 113) rfl (hb hby at_108) rfl ((if0 _ _).trans (teq (by decide)).1) (by decide) (by decide) k) ?_
    show Go _ _ _ _ _ _ _ T47 (mkF m 113 #[.val (.int i0), .val (.int i1), .val (.int i2), .val (.int i3), .val (.int i4), .val (.int (2 : Int32)), .val (.ref b28), .val (.ref b33), .val (.int (0 : Int32)), .val (.int (0 : Int32)), .val (.int (bi (¬ (false = true)))), .val (.int (bi (¬ (true = true)))), .val (.ref b45), .val (.int (bi (true = true)))] [])
    refine Go.step (fun t k => XS.iload X47.here hx rfl (hb hby at_113) rfl k) ?_
    show Go _ _ _ _ _ _ _ T47 (mkF m 115 #[.val (.int i0), .val (.int i1), .val (.int i2), .val (.int i3), .val (.int i4), .val (.int (2 : Int32)), .val (.ref b28), .val (.ref b33), .val (.int (0 : Int32)), .val (.int (0 : Int32)), .val (.int (bi (¬ (false = true)))), .val (.int (bi (¬ (true = true)))), .val (.ref b45), .val (.int (bi (true = true)))] [(.int (0 : Int32))])
    refine Go.step (fun t k => XS.iload X47.here hx rfl (hb hby at_115) rfl k) ?_
    show Go _ _ _ _ _ _ _ T47 (mkF m 117 #[.val (.int i0), .val (.int i1), .val (.int i2), .val (.int i3), .val (.int i4), .val (.int (2 : Int32)), .val (.ref b28), .val (.ref b33), .val (.int (0 : Int32)), .val (.int (0 : Int32)), .val (.int (bi (¬ (false = true)))), .val (.int (bi (¬ (true = true)))), .val (.ref b45), .val (.int (bi (true = true)))] [(.int (2 : Int32)), (.int (0 : Int32))])
    refine Go.step (fun t k => XS.iconst X47.here hx rfl (hb hby at_117) k) ?_
    show Go _ _ _ _ _ _ _ T47 (mkF m 118 #[.val (.int i0), .val (.int i1), .val (.int i2), .val (.int i3), .val (.int i4), .val (.int (2 : Int32)), .val (.ref b28), .val (.ref b33), .val (.int (0 : Int32)), .val (.int (0 : Int32)), .val (.int (bi (¬ (false = true)))), .val (.int (bi (¬ (true = true)))), .val (.ref b45), .val (.int (bi (true = true)))] [(.int (1 : Int32)), (.int (2 : Int32)), (.int (0 : Int32))])
    refine Go.step (fun t k => XS.icmpYes X47.here hx rfl (pc0 := 118) (pc' := 125) rfl (hb hby at_118) rfl (feq (by decide)).2 (by decide) (by decide) k) ?_
    show Go _ _ _ _ _ _ _ T47 (mkF m 125 #[.val (.int i0), .val (.int i1), .val (.int i2), .val (.int i3), .val (.int i4), .val (.int (2 : Int32)), .val (.ref b28), .val (.ref b33), .val (.int (0 : Int32)), .val (.int (0 : Int32)), .val (.int (bi (¬ (false = true)))), .val (.int (bi (¬ (true = true)))), .val (.ref b45), .val (.int (bi (true = true)))] [(.int (0 : Int32))])
    refine Go.step (fun t k => XS.iconst X47.here hx rfl (hb hby at_125) k) ?_
    show Go _ _ _ _ _ _ _ T47 (mkF m 126 #[.val (.int i0), .val (.int i1), .val (.int i2), .val (.int i3), .val (.int i4), .val (.int (2 : Int32)), .val (.ref b28), .val (.ref b33), .val (.int (0 : Int32)), .val (.int (0 : Int32)), .val (.int (bi (¬ (false = true)))), .val (.int (bi (¬ (true = true)))), .val (.ref b45), .val (.int (bi (true = true)))] [(.int (0 : Int32)), (.int (0 : Int32))])
    refine Go.step (fun t k => XS.icmpYes X47.here hx rfl (pc0 := 126) (pc' := 131) rfl (hb hby at_126) rfl (teq (by decide)).1 (by decide) (by decide) k) ?_
    show Go _ _ _ _ _ _ _ T47 (mkF m 131 #[.val (.int i0), .val (.int i1), .val (.int i2), .val (.int i3), .val (.int i4), .val (.int (2 : Int32)), .val (.ref b28), .val (.ref b33), .val (.int (0 : Int32)), .val (.int (0 : Int32)), .val (.int (bi (¬ (false = true)))), .val (.int (bi (¬ (true = true)))), .val (.ref b45), .val (.int (bi (true = true)))] [])
    refine Go.step (fun t k => XS.iload X47.here hx rfl (hb hby at_131) rfl k) ?_
    show Go _ _ _ _ _ _ _ T47 (mkF m 133 #[.val (.int i0), .val (.int i1), .val (.int i2), .val (.int i3), .val (.int i4), .val (.int (2 : Int32)), .val (.ref b28), .val (.ref b33), .val (.int (0 : Int32)), .val (.int (0 : Int32)), .val (.int (bi (¬ (false = true)))), .val (.int (bi (¬ (true = true)))), .val (.ref b45), .val (.int (bi (true = true)))] [(.int (bi (¬ (false = true))))])
    refine Go.step (fun t k => XS.iload X47.here hx rfl (hb hby at_133) rfl k) ?_
    show Go _ _ _ _ _ _ _ T47 (mkF m 135 #[.val (.int i0), .val (.int i1), .val (.int i2), .val (.int i3), .val (.int i4), .val (.int (2 : Int32)), .val (.ref b28), .val (.ref b33), .val (.int (0 : Int32)), .val (.int (0 : Int32)), .val (.int (bi (¬ (false = true)))), .val (.int (bi (¬ (true = true)))), .val (.ref b45), .val (.int (bi (true = true)))] [(.int (2 : Int32)), (.int (bi (¬ (false = true))))])
    refine Go.step (fun t k => XS.iconst X47.here hx rfl (hb hby at_135) k) ?_
    show Go _ _ _ _ _ _ _ T47 (mkF m 136 #[.val (.int i0), .val (.int i1), .val (.int i2), .val (.int i3), .val (.int i4), .val (.int (2 : Int32)), .val (.ref b28), .val (.ref b33), .val (.int (0 : Int32)), .val (.int (0 : Int32)), .val (.int (bi (¬ (false = true)))), .val (.int (bi (¬ (true = true)))), .val (.ref b45), .val (.int (bi (true = true)))] [(.int (2 : Int32)), (.int (2 : Int32)), (.int (bi (¬ (false = true))))])
    refine Go.step (fun t k => XS.icmpNo X47.here hx rfl (hb hby at_136) rfl (teq (by decide)).2 k) ?_
    show Go _ _ _ _ _ _ _ T47 (mkF m 139 #[.val (.int i0), .val (.int i1), .val (.int i2), .val (.int i3), .val (.int i4), .val (.int (2 : Int32)), .val (.ref b28), .val (.ref b33), .val (.int (0 : Int32)), .val (.int (0 : Int32)), .val (.int (bi (¬ (false = true)))), .val (.int (bi (¬ (true = true)))), .val (.ref b45), .val (.int (bi (true = true)))] [(.int (bi (¬ (false = true))))])
    refine Go.step (fun t k => XS.iconst X47.here hx rfl (hb hby at_139) k) ?_
    show Go _ _ _ _ _ _ _ T47 (mkF m 140 #[.val (.int i0), .val (.int i1), .val (.int i2), .val (.int i3), .val (.int i4), .val (.int (2 : Int32)), .val (.ref b28), .val (.ref b33), .val (.int (0 : Int32)), .val (.int (0 : Int32)), .val (.int (bi (¬ (false = true)))), .val (.int (bi (¬ (true = true)))), .val (.ref b45), .val (.int (bi (true = true)))] [(.int (1 : Int32)), (.int (bi (¬ (false = true))))])
    refine Go.step (fun t k => XS.goto X47.here hx rfl (pc0 := 140) (pc' := 144) rfl (hb hby at_140) (by decide) (by decide) k) ?_
    show Go _ _ _ _ _ _ _ T47 (mkF m 144 #[.val (.int i0), .val (.int i1), .val (.int i2), .val (.int i3), .val (.int i4), .val (.int (2 : Int32)), .val (.ref b28), .val (.ref b33), .val (.int (0 : Int32)), .val (.int (0 : Int32)), .val (.int (bi (¬ (false = true)))), .val (.int (bi (¬ (true = true)))), .val (.ref b45), .val (.int (bi (true = true)))] [(.int (1 : Int32)), (.int (bi (¬ (false = true))))])
    refine Go.step (fun t k => XS.icmpYes X47.here hx rfl (pc0 := 144) (pc' := 149) rfl (hb hby at_144) rfl (teq (by decide)).1 (by decide) (by decide) k) ?_
    show Go _ _ _ _ _ _ _ T47 (mkF m 149 #[.val (.int i0), .val (.int i1), .val (.int i2), .val (.int i3), .val (.int i4), .val (.int (2 : Int32)), .val (.ref b28), .val (.ref b33), .val (.int (0 : Int32)), .val (.int (0 : Int32)), .val (.int (bi (¬ (false = true)))), .val (.int (bi (¬ (true = true)))), .val (.ref b45), .val (.int (bi (true = true)))] [])
    refine Go.step (fun t k => XS.iload X47.here hx rfl (hb hby at_149) rfl k) ?_
    show Go _ _ _ _ _ _ _ T47 (mkF m 151 #[.val (.int i0), .val (.int i1), .val (.int i2), .val (.int i3), .val (.int i4), .val (.int (2 : Int32)), .val (.ref b28), .val (.ref b33), .val (.int (0 : Int32)), .val (.int (0 : Int32)), .val (.int (bi (¬ (false = true)))), .val (.int (bi (¬ (true = true)))), .val (.ref b45), .val (.int (bi (true = true)))] [(.int (bi (¬ (true = true))))])
    refine Go.step (fun t k => XS.iload X47.here hx rfl (hb hby at_151) rfl k) ?_
    show Go _ _ _ _ _ _ _ T47 (mkF m 153 #[.val (.int i0), .val (.int i1), .val (.int i2), .val (.int i3), .val (.int i4), .val (.int (2 : Int32)), .val (.ref b28), .val (.ref b33), .val (.int (0 : Int32)), .val (.int (0 : Int32)), .val (.int (bi (¬ (false = true)))), .val (.int (bi (¬ (true = true)))), .val (.ref b45), .val (.int (bi (true = true)))] [(.int (2 : Int32)), (.int (bi (¬ (true = true))))])
    refine Go.step (fun t k => XS.iconst X47.here hx rfl (hb hby at_153) k) ?_
    show Go _ _ _ _ _ _ _ T47 (mkF m 154 #[.val (.int i0), .val (.int i1), .val (.int i2), .val (.int i3), .val (.int i4), .val (.int (2 : Int32)), .val (.ref b28), .val (.ref b33), .val (.int (0 : Int32)), .val (.int (0 : Int32)), .val (.int (bi (¬ (false = true)))), .val (.int (bi (¬ (true = true)))), .val (.ref b45), .val (.int (bi (true = true)))] [(.int (3 : Int32)), (.int (2 : Int32)), (.int (bi (¬ (true = true))))])
    refine Go.step (fun t k => XS.icmpYes X47.here hx rfl (pc0 := 154) (pc' := 161) rfl (hb hby at_154) rfl (feq (by decide)).2 (by decide) (by decide) k) ?_
    show Go _ _ _ _ _ _ _ T47 (mkF m 161 #[.val (.int i0), .val (.int i1), .val (.int i2), .val (.int i3), .val (.int i4), .val (.int (2 : Int32)), .val (.ref b28), .val (.ref b33), .val (.int (0 : Int32)), .val (.int (0 : Int32)), .val (.int (bi (¬ (false = true)))), .val (.int (bi (¬ (true = true)))), .val (.ref b45), .val (.int (bi (true = true)))] [(.int (bi (¬ (true = true))))])
    refine Go.step (fun t k => XS.iconst X47.here hx rfl (hb hby at_161) k) ?_
    show Go _ _ _ _ _ _ _ T47 (mkF m 162 #[.val (.int i0), .val (.int i1), .val (.int i2), .val (.int i3), .val (.int i4), .val (.int (2 : Int32)), .val (.ref b28), .val (.ref b33), .val (.int (0 : Int32)), .val (.int (0 : Int32)), .val (.int (bi (¬ (false = true)))), .val (.int (bi (¬ (true = true)))), .val (.ref b45), .val (.int (bi (true = true)))] [(.int (0 : Int32)), (.int (bi (¬ (true = true))))])
    refine Go.step (fun t k => XS.icmpYes X47.here hx rfl (pc0 := 162) (pc' := 167) rfl (hb hby at_162) rfl (teq (bi_f (by decide))).1 (by decide) (by decide) k) ?_
    show Go _ _ _ _ _ _ _ T47 (mkF m 167 #[.val (.int i0), .val (.int i1), .val (.int i2), .val (.int i3), .val (.int i4), .val (.int (2 : Int32)), .val (.ref b28), .val (.ref b33), .val (.int (0 : Int32)), .val (.int (0 : Int32)), .val (.int (bi (¬ (false = true)))), .val (.int (bi (¬ (true = true)))), .val (.ref b45), .val (.int (bi (true = true)))] [])
    refine Go.step (fun t k => XS.iload X47.here hx rfl (hb hby at_167) rfl k) ?_
    show Go _ _ _ _ _ _ _ T47 (mkF m 169 #[.val (.int i0), .val (.int i1), .val (.int i2), .val (.int i3), .val (.int i4), .val (.int (2 : Int32)), .val (.ref b28), .val (.ref b33), .val (.int (0 : Int32)), .val (.int (0 : Int32)), .val (.int (bi (¬ (false = true)))), .val (.int (bi (¬ (true = true)))), .val (.ref b45), .val (.int (bi (true = true)))] [(.int (bi (true = true)))])
    refine Go.step (fun t k => XS.iload X47.here hx rfl (hb hby at_169) rfl k) ?_
    show Go _ _ _ _ _ _ _ T47 (mkF m 171 #[.val (.int i0), .val (.int i1), .val (.int i2), .val (.int i3), .val (.int i4), .val (.int (2 : Int32)), .val (.ref b28), .val (.ref b33), .val (.int (0 : Int32)), .val (.int (0 : Int32)), .val (.int (bi (¬ (false = true)))), .val (.int (bi (¬ (true = true)))), .val (.ref b45), .val (.int (bi (true = true)))] [(.int (2 : Int32)), (.int (bi (true = true)))])
    refine Go.step (fun t k => XS.iconst X47.here hx rfl (hb hby at_171) k) ?_
    show Go _ _ _ _ _ _ _ T47 (mkF m 172 #[.val (.int i0), .val (.int i1), .val (.int i2), .val (.int i3), .val (.int i4), .val (.int (2 : Int32)), .val (.ref b28), .val (.ref b33), .val (.int (0 : Int32)), .val (.int (0 : Int32)), .val (.int (bi (¬ (false = true)))), .val (.int (bi (¬ (true = true)))), .val (.ref b45), .val (.int (bi (true = true)))] [(.int (4 : Int32)), (.int (2 : Int32)), (.int (bi (true = true)))])
    refine Go.step (fun t k => XS.icmpNo X47.here hx rfl (hb hby at_172) rfl (tlt (by decide)).2.1 k) ?_
    show Go _ _ _ _ _ _ _ T47 (mkF m 175 #[.val (.int i0), .val (.int i1), .val (.int i2), .val (.int i3), .val (.int i4), .val (.int (2 : Int32)), .val (.ref b28), .val (.ref b33), .val (.int (0 : Int32)), .val (.int (0 : Int32)), .val (.int (bi (¬ (false = true)))), .val (.int (bi (¬ (true = true)))), .val (.ref b45), .val (.int (bi (true = true)))] [(.int (bi (true = true)))])
    refine Go.step (fun t k => XS.iconst X47.here hx rfl (hb hby at_175) k) ?_
    show Go _ _ _ _ _ _ _ T47 (mkF m 176 #[.val (.int i0), .val (.int i1), .val (.int i2), .val (.int i3), .val (.int i4), .val (.int (2 : Int32)), .val (.ref b28), .val (.ref b33), .val (.int (0 : Int32)), .val (.int (0 : Int32)), .val (.int (bi (¬ (false = true)))), .val (.int (bi (¬ (true = true)))), .val (.ref b45), .val (.int (bi (true = true)))] [(.int (1 : Int32)), (.int (bi (true = true)))])
    refine Go.step (fun t k => XS.goto X47.here hx rfl (pc0 := 176) (pc' := 180) rfl (hb hby at_176) (by decide) (by decide) k) ?_
    show Go _ _ _ _ _ _ _ T47 (mkF m 180 #[.val (.int i0), .val (.int i1), .val (.int i2), .val (.int i3), .val (.int i4), .val (.int (2 : Int32)), .val (.ref b28), .val (.ref b33), .val (.int (0 : Int32)), .val (.int (0 : Int32)), .val (.int (bi (¬ (false = true)))), .val (.int (bi (¬ (true = true)))), .val (.ref b45), .val (.int (bi (true = true)))] [(.int (1 : Int32)), (.int (bi (true = true)))])
    refine Go.step (fun t k => XS.icmpYes X47.here hx rfl (pc0 := 180) (pc' := 185) rfl (hb hby at_180) rfl (teq (by decide)).1 (by decide) (by decide) k) ?_
    show Go _ _ _ _ _ _ _ T47 (mkF m 185 #[.val (.int i0), .val (.int i1), .val (.int i2), .val (.int i3), .val (.int i4), .val (.int (2 : Int32)), .val (.ref b28), .val (.ref b33), .val (.int (0 : Int32)), .val (.int (0 : Int32)), .val (.int (bi (¬ (false = true)))), .val (.int (bi (¬ (true = true)))), .val (.ref b45), .val (.int (bi (true = true)))] [])
    refine Go.step (fun t k => XS.aload X47.here hx rfl (hb hby at_185) rfl rfl k) ?_
    show Go _ _ _ _ _ _ _ T47 (mkF m 187 #[.val (.int i0), .val (.int i1), .val (.int i2), .val (.int i3), .val (.int i4), .val (.int (2 : Int32)), .val (.ref b28), .val (.ref b33), .val (.int (0 : Int32)), .val (.int (0 : Int32)), .val (.int (bi (¬ (false = true)))), .val (.int (bi (¬ (true = true)))), .val (.ref b45), .val (.int (bi (true = true)))] [(.ref b45)])
    refine Go.step (a_len X47 hx hZ e47 V45k (z := (2 : Int32)) (by decide) (hb hby at_187)) ?_
    show Go _ _ _ _ _ _ _ T47 (mkF m 188 #[.val (.int i0), .val (.int i1), .val (.int i2), .val (.int i3), .val (.int i4), .val (.int (2 : Int32)), .val (.ref b28), .val (.ref b33), .val (.int (0 : Int32)), .val (.int (0 : Int32)), .val (.int (bi (¬ (false = true)))), .val (.int (bi (¬ (true = true)))), .val (.ref b45), .val (.int (bi (true = true)))] [(.int (2 : Int32))])
    refine Go.step (fun t k => XS.iload X47.here hx rfl (hb hby at_188) rfl k) ?_
    show Go _ _ _ _ _ _ _ T47 (mkF m 190 #[.val (.int i0), .val (.int i1), .val (.int i2), .val (.int i3), .val (.int i4), .val (.int (2 : Int32)), .val (.ref b28), .val (.ref b33), .val (.int (0 : Int32)), .val (.int (0 : Int32)), .val (.int (bi (¬ (false = true)))), .val (.int (bi (¬ (true = true)))), .val (.ref b45), .val (.int (bi (true = true)))] [(.int (2 : Int32)), (.int (2 : Int32))])
    refine Go.step (fun t k => XS.icmpYes X47.here hx rfl (pc0 := 190) (pc' := 195) rfl (hb hby at_190) rfl (teq (by decide)).1 (by decide) (by decide) k) ?_
    show Go _ _ _ _ _ _ _ T47 (mkF m 195 #[.val (.int i0), .val (.int i1), .val (.int i2), .val (.int i3), .val (.int i4), .val (.int (2 : Int32)), .val (.ref b28), .val (.ref b33), .val (.int (0 : Int32)), .val (.int (0 : Int32)), .val (.int (bi (¬ (false = true)))), .val (.int (bi (¬ (true = true)))), .val (.ref b45), .val (.int (bi (true = true)))] [])
    refine Go.step (fun t k => XS.aload X47.here hx rfl (hb hby at_195) rfl rfl k) ?_
    show Go _ _ _ _ _ _ _ T47 (mkF m 197 #[.val (.int i0), .val (.int i1), .val (.int i2), .val (.int i3), .val (.int i4), .val (.int (2 : Int32)), .val (.ref b28), .val (.ref b33), .val (.int (0 : Int32)), .val (.int (0 : Int32)), .val (.int (bi (¬ (false = true)))), .val (.int (bi (¬ (true = true)))), .val (.ref b45), .val (.int (bi (true = true)))] [(.ref b45)])
    refine Go.step (fun t k => XS.iconst X47.here hx rfl (hb hby at_197) k) ?_
    show Go _ _ _ _ _ _ _ T47 (mkF m 198 #[.val (.int i0), .val (.int i1), .val (.int i2), .val (.int i3), .val (.int i4), .val (.int (2 : Int32)), .val (.ref b28), .val (.ref b33), .val (.int (0 : Int32)), .val (.int (0 : Int32)), .val (.int (bi (¬ (false = true)))), .val (.int (bi (¬ (true = true)))), .val (.ref b45), .val (.int (bi (true = true)))] [(.int (0 : Int32)), (.ref b45)])
    refine Go.step (a_bload X47 hx hZ e47 V45k (k := 0) (by decide) (by decide) (x := (nar .byte (nar .byte (i1.toInt8.toInt32)))) rfl (hb hby at_198)) ?_
    show Go _ _ _ _ _ _ _ T47 (mkF m 199 #[.val (.int i0), .val (.int i1), .val (.int i2), .val (.int i3), .val (.int i4), .val (.int (2 : Int32)), .val (.ref b28), .val (.ref b33), .val (.int (0 : Int32)), .val (.int (0 : Int32)), .val (.int (bi (¬ (false = true)))), .val (.int (bi (¬ (true = true)))), .val (.ref b45), .val (.int (bi (true = true)))] [(.int (nar .byte (nar .byte (i1.toInt8.toInt32))))])
    refine Go.step (fun t k => XS.aload X47.here hx rfl (hb hby at_199) rfl rfl k) ?_
    show Go _ _ _ _ _ _ _ T47 (mkF m 201 #[.val (.int i0), .val (.int i1), .val (.int i2), .val (.int i3), .val (.int i4), .val (.int (2 : Int32)), .val (.ref b28), .val (.ref b33), .val (.int (0 : Int32)), .val (.int (0 : Int32)), .val (.int (bi (¬ (false = true)))), .val (.int (bi (¬ (true = true)))), .val (.ref b45), .val (.int (bi (true = true)))] [(.ref b28), (.int (nar .byte (nar .byte (i1.toInt8.toInt32))))])
    refine Go.step (fun t k => XS.iconst X47.here hx rfl (hb hby at_201) k) ?_
    show Go _ _ _ _ _ _ _ T47 (mkF m 202 #[.val (.int i0), .val (.int i1), .val (.int i2), .val (.int i3), .val (.int i4), .val (.int (2 : Int32)), .val (.ref b28), .val (.ref b33), .val (.int (0 : Int32)), .val (.int (0 : Int32)), .val (.int (bi (¬ (false = true)))), .val (.int (bi (¬ (true = true)))), .val (.ref b45), .val (.int (bi (true = true)))] [(.int (0 : Int32)), (.ref b28), (.int (nar .byte (nar .byte (i1.toInt8.toInt32))))])
    have f54 := ((f43.keep K44q (ninS ne_b28_b33 (ninS ne_b28_b35 nin0))).keep K45q nin0)
    refine Go.step (a_bload X47 hx hZ e47 f54 (k := 0) (by decide) (by decide) (x := (nar .byte (i1.toInt8.toInt32))) rfl (hb hby at_202)) ?_
    show Go _ _ _ _ _ _ _ T47 (mkF m 203 #[.val (.int i0), .val (.int i1), .val (.int i2), .val (.int i3), .val (.int i4), .val (.int (2 : Int32)), .val (.ref b28), .val (.ref b33), .val (.int (0 : Int32)), .val (.int (0 : Int32)), .val (.int (bi (¬ (false = true)))), .val (.int (bi (¬ (true = true)))), .val (.ref b45), .val (.int (bi (true = true)))] [(.int (nar .byte (i1.toInt8.toInt32))), (.int (nar .byte (nar .byte (i1.toInt8.toInt32))))])
    refine Go.step (fun t k => XS.icmpYes X47.here hx rfl (pc0 := 203) (pc' := 208) rfl (hb hby at_203) rfl (teq (own_nar _)).1 (by decide) (by decide) k) ?_
    show Go _ _ _ _ _ _ _ T47 (mkF m 208 #[.val (.int i0), .val (.int i1), .val (.int i2), .val (.int i3), .val (.int i4), .val (.int (2 : Int32)), .val (.ref b28), .val (.ref b33), .val (.int (0 : Int32)), .val (.int (0 : Int32)), .val (.int (bi (¬ (false = true)))), .val (.int (bi (¬ (true = true)))), .val (.ref b45), .val (.int (bi (true = true)))] [])
    refine Go.step (fun t k => XS.iload X47.here hx rfl (hb hby at_208) rfl k) ?_
    show Go _ _ _ _ _ _ _ T47 (mkF m 210 #[.val (.int i0), .val (.int i1), .val (.int i2), .val (.int i3), .val (.int i4), .val (.int (2 : Int32)), .val (.ref b28), .val (.ref b33), .val (.int (0 : Int32)), .val (.int (0 : Int32)), .val (.int (bi (¬ (false = true)))), .val (.int (bi (¬ (true = true)))), .val (.ref b45), .val (.int (bi (true = true)))] [(.int (2 : Int32))])
    refine Go.step (fun t k => XS.iconst X47.here hx rfl (hb hby at_210) k) ?_
    show Go _ _ _ _ _ _ _ T47 (mkF m 211 #[.val (.int i0), .val (.int i1), .val (.int i2), .val (.int i3), .val (.int i4), .val (.int (2 : Int32)), .val (.ref b28), .val (.ref b33), .val (.int (0 : Int32)), .val (.int (0 : Int32)), .val (.int (bi (¬ (false = true)))), .val (.int (bi (¬ (true = true)))), .val (.ref b45), .val (.int (bi (true = true)))] [(.int (2 : Int32)), (.int (2 : Int32))])
    refine Go.step (fun t k => XS.icmpNo X47.here hx rfl (hb hby at_211) rfl (flt (by decide)).1 k) ?_
    show Go _ _ _ _ _ _ _ T47 (mkF m 214 #[.val (.int i0), .val (.int i1), .val (.int i2), .val (.int i3), .val (.int i4), .val (.int (2 : Int32)), .val (.ref b28), .val (.ref b33), .val (.int (0 : Int32)), .val (.int (0 : Int32)), .val (.int (bi (¬ (false = true)))), .val (.int (bi (¬ (true = true)))), .val (.ref b45), .val (.int (bi (true = true)))] [])
    refine Go.step (fun t k => XS.aload X47.here hx rfl (hb hby at_214) rfl rfl k) ?_
    show Go _ _ _ _ _ _ _ T47 (mkF m 216 #[.val (.int i0), .val (.int i1), .val (.int i2), .val (.int i3), .val (.int i4), .val (.int (2 : Int32)), .val (.ref b28), .val (.ref b33), .val (.int (0 : Int32)), .val (.int (0 : Int32)), .val (.int (bi (¬ (false = true)))), .val (.int (bi (¬ (true = true)))), .val (.ref b45), .val (.int (bi (true = true)))] [(.ref b45)])
    refine Go.step (fun t k => XS.iconst X47.here hx rfl (hb hby at_216) k) ?_
    show Go _ _ _ _ _ _ _ T47 (mkF m 217 #[.val (.int i0), .val (.int i1), .val (.int i2), .val (.int i3), .val (.int i4), .val (.int (2 : Int32)), .val (.ref b28), .val (.ref b33), .val (.int (0 : Int32)), .val (.int (0 : Int32)), .val (.int (bi (¬ (false = true)))), .val (.int (bi (¬ (true = true)))), .val (.ref b45), .val (.int (bi (true = true)))] [(.int (1 : Int32)), (.ref b45)])
    refine Go.step (a_bload X47 hx hZ e47 V45k (k := 1) (by decide) (by decide) (x := (nar .byte (nar .byte (i2.toInt8.toInt32)))) rfl (hb hby at_217)) ?_
    show Go _ _ _ _ _ _ _ T47 (mkF m 218 #[.val (.int i0), .val (.int i1), .val (.int i2), .val (.int i3), .val (.int i4), .val (.int (2 : Int32)), .val (.ref b28), .val (.ref b33), .val (.int (0 : Int32)), .val (.int (0 : Int32)), .val (.int (bi (¬ (false = true)))), .val (.int (bi (¬ (true = true)))), .val (.ref b45), .val (.int (bi (true = true)))] [(.int (nar .byte (nar .byte (i2.toInt8.toInt32))))])
    refine Go.step (fun t k => XS.aload X47.here hx rfl (hb hby at_218) rfl rfl k) ?_
    show Go _ _ _ _ _ _ _ T47 (mkF m 220 #[.val (.int i0), .val (.int i1), .val (.int i2), .val (.int i3), .val (.int i4), .val (.int (2 : Int32)), .val (.ref b28), .val (.ref b33), .val (.int (0 : Int32)), .val (.int (0 : Int32)), .val (.int (bi (¬ (false = true)))), .val (.int (bi (¬ (true = true)))), .val (.ref b45), .val (.int (bi (true = true)))] [(.ref b28), (.int (nar .byte (nar .byte (i2.toInt8.toInt32))))])
    refine Go.step (fun t k => XS.iconst X47.here hx rfl (hb hby at_220) k) ?_
    show Go _ _ _ _ _ _ _ T47 (mkF m 221 #[.val (.int i0), .val (.int i1), .val (.int i2), .val (.int i3), .val (.int i4), .val (.int (2 : Int32)), .val (.ref b28), .val (.ref b33), .val (.int (0 : Int32)), .val (.int (0 : Int32)), .val (.int (bi (¬ (false = true)))), .val (.int (bi (¬ (true = true)))), .val (.ref b45), .val (.int (bi (true = true)))] [(.int (1 : Int32)), (.ref b28), (.int (nar .byte (nar .byte (i2.toInt8.toInt32))))])
    refine Go.step (a_bload X47 hx hZ e47 f54 (k := 1) (by decide) (by decide) (x := (nar .byte (i2.toInt8.toInt32))) rfl (hb hby at_221)) ?_
    show Go _ _ _ _ _ _ _ T47 (mkF m 222 #[.val (.int i0), .val (.int i1), .val (.int i2), .val (.int i3), .val (.int i4), .val (.int (2 : Int32)), .val (.ref b28), .val (.ref b33), .val (.int (0 : Int32)), .val (.int (0 : Int32)), .val (.int (bi (¬ (false = true)))), .val (.int (bi (¬ (true = true)))), .val (.ref b45), .val (.int (bi (true = true)))] [(.int (nar .byte (i2.toInt8.toInt32))), (.int (nar .byte (nar .byte (i2.toInt8.toInt32))))])
    refine Go.step (fun t k => XS.icmpYes X47.here hx rfl (pc0 := 222) (pc' := 227) rfl (hb hby at_222) rfl (teq (own_nar _)).1 (by decide) (by decide) k) ?_
    show Go _ _ _ _ _ _ _ T47 (mkF m 227 #[.val (.int i0), .val (.int i1), .val (.int i2), .val (.int i3), .val (.int i4), .val (.int (2 : Int32)), .val (.ref b28), .val (.ref b33), .val (.int (0 : Int32)), .val (.int (0 : Int32)), .val (.int (bi (¬ (false = true)))), .val (.int (bi (¬ (true = true)))), .val (.ref b45), .val (.int (bi (true = true)))] [])
    refine Go.step (fun t k => XS.iload X47.here hx rfl (hb hby at_227) rfl k) ?_
    show Go _ _ _ _ _ _ _ T47 (mkF m 229 #[.val (.int i0), .val (.int i1), .val (.int i2), .val (.int i3), .val (.int i4), .val (.int (2 : Int32)), .val (.ref b28), .val (.ref b33), .val (.int (0 : Int32)), .val (.int (0 : Int32)), .val (.int (bi (¬ (false = true)))), .val (.int (bi (¬ (true = true)))), .val (.ref b45), .val (.int (bi (true = true)))] [(.int (2 : Int32))])
    refine Go.step (fun t k => XS.iconst X47.here hx rfl (hb hby at_229) k) ?_
    show Go _ _ _ _ _ _ _ T47 (mkF m 230 #[.val (.int i0), .val (.int i1), .val (.int i2), .val (.int i3), .val (.int i4), .val (.int (2 : Int32)), .val (.ref b28), .val (.ref b33), .val (.int (0 : Int32)), .val (.int (0 : Int32)), .val (.int (bi (¬ (false = true)))), .val (.int (bi (¬ (true = true)))), .val (.ref b45), .val (.int (bi (true = true)))] [(.int (3 : Int32)), (.int (2 : Int32))])
    refine Go.step (fun t k => XS.icmpYes X47.here hx rfl (pc0 := 230) (pc' := 246) rfl (hb hby at_230) rfl (tlt (by decide)).1 (by decide) (by decide) k) ?_
    show Go _ _ _ _ _ _ _ T47 (mkF m 246 #[.val (.int i0), .val (.int i1), .val (.int i2), .val (.int i3), .val (.int i4), .val (.int (2 : Int32)), .val (.ref b28), .val (.ref b33), .val (.int (0 : Int32)), .val (.int (0 : Int32)), .val (.int (bi (¬ (false = true)))), .val (.int (bi (¬ (true = true)))), .val (.ref b45), .val (.int (bi (true = true)))] [])
    refine Go.step (fun t k => XS.iload X47.here hx rfl (hb hby at_246) rfl k) ?_
    show Go _ _ _ _ _ _ _ T47 (mkF m 248 #[.val (.int i0), .val (.int i1), .val (.int i2), .val (.int i3), .val (.int i4), .val (.int (2 : Int32)), .val (.ref b28), .val (.ref b33), .val (.int (0 : Int32)), .val (.int (0 : Int32)), .val (.int (bi (¬ (false = true)))), .val (.int (bi (¬ (true = true)))), .val (.ref b45), .val (.int (bi (true = true)))] [(.int (2 : Int32))])
    refine Go.step (fun t k => XS.iconst X47.here hx rfl (hb hby at_248) k) ?_
    show Go _ _ _ _ _ _ _ T47 (mkF m 249 #[.val (.int i0), .val (.int i1), .val (.int i2), .val (.int i3), .val (.int i4), .val (.int (2 : Int32)), .val (.ref b28), .val (.ref b33), .val (.int (0 : Int32)), .val (.int (0 : Int32)), .val (.int (bi (¬ (false = true)))), .val (.int (bi (¬ (true = true)))), .val (.ref b45), .val (.int (bi (true = true)))] [(.int (4 : Int32)), (.int (2 : Int32))])
    refine Go.step (fun t k => XS.icmpYes X47.here hx rfl (pc0 := 249) (pc' := 265) rfl (hb hby at_249) rfl (tlt (by decide)).1 (by decide) (by decide) k) ?_
    show Go _ _ _ _ _ _ _ T47 (mkF m 265 #[.val (.int i0), .val (.int i1), .val (.int i2), .val (.int i3), .val (.int i4), .val (.int (2 : Int32)), .val (.ref b28), .val (.ref b33), .val (.int (0 : Int32)), .val (.int (0 : Int32)), .val (.int (bi (¬ (false = true)))), .val (.int (bi (¬ (true = true)))), .val (.ref b45), .val (.int (bi (true = true)))] [])
    refine Go.step (fun t k => XS.iconst X47.here hx rfl (hb hby at_265) k) ?_
    show Go _ _ _ _ _ _ _ T47 (mkF m 266 #[.val (.int i0), .val (.int i1), .val (.int i2), .val (.int i3), .val (.int i4), .val (.int (2 : Int32)), .val (.ref b28), .val (.ref b33), .val (.int (0 : Int32)), .val (.int (0 : Int32)), .val (.int (bi (¬ (false = true)))), .val (.int (bi (¬ (true = true)))), .val (.ref b45), .val (.int (bi (true = true)))] [(.int (1 : Int32))])
    refine go_retN X47 hx (t := .boolean) hret (by simp) hlk (hb hby at_266) (w := (1 : Int32)) rfl ?_ (by decide) (by decide)
    try rw [e47]
    exact ⟨rfl, N47⟩
  · show Go _ _ _ _ _ _ _ T0 (mkF m 7 #[.val (.int i0), .val (.int i1), .val (.int i2), .val (.int i3), .val (.int i4), .val (.int (3 : Int32)), .unset, .unset, .unset, .unset, .unset, .unset, .unset, .unset] [])
    refine Go.step (fun t k => XS.iconst X0.here hx rfl (hb hby at_7) k) ?_
    show Go _ _ _ _ _ _ _ T0 (mkF m 8 #[.val (.int i0), .val (.int i1), .val (.int i2), .val (.int i3), .val (.int i4), .val (.int (3 : Int32)), .unset, .unset, .unset, .unset, .unset, .unset, .unset, .unset] [(.int (4 : Int32))])
    obtain ⟨T55, h55, k55, X55, e55, E55, A55, EA55, st55⟩ := newPE X0 hx hZ (hw _ (List.mem_of_getElem? (i := 0) rfl)) e0 (g := (mkF m 8 #[.val (.int i0), .val (.int i1), .val (.int i2), .val (.int i3), .val (.int i4), .val (.int (3 : Int32)), .unset, .unset, .unset, .unset, .unset, .unset, .unset, .unset] [(.int (4 : Int32))])) rfl (hb hby at_8) rfl (by decide) (cap := 4) (by decide) (by decide) (by decide) (by decide) (ad := "[B") rfl
    obtain ⟨b55, g55⟩ : ∃ z, z = h0.size := ⟨_, rfl⟩
    rw [← g55] at A55 EA55 st55
    have gn_b55 : n0 ≤ b55 := Nat.le_trans Z0 (Nat.le_of_eq g55.symm)
    have Z55 : n0 ≤ h55.size := Nat.le_trans Z0 E55.1
    have V55 : AV Z h55 b55 .byte 4 (lst [(.int (0 : Int32)), (.int (0 : Int32)), (.int (0 : Int32)), (.int (0 : Int32))]) := AV.newL (AV.new A55 (by decide)) rfl
    refine Go.step (st55) ?_
    show Go _ _ _ _ _ _ _ T55 (mkF m 10 #[.val (.int i0), .val (.int i1), .val (.int i2), .val (.int i3), .val (.int i4), .val (.int (3 : Int32)), .unset, .unset, .unset, .unset, .unset, .unset, .unset, .unset] [(.ref b55)])
    refine Go.step (fun t k => XS.astore X55.here hx rfl (hb hby at_10) rfl rfl (l' := #[.val (.int i0), .val (.int i1), .val (.int i2), .val (.int i3), .val (.int i4), .val (.int (3 : Int32)), .val (.ref b55), .unset, .unset, .unset, .unset, .unset, .unset, .unset]) rfl k) ?_
    show Go _ _ _ _ _ _ _ T55 (mkF m 12 #[.val (.int i0), .val (.int i1), .val (.int i2), .val (.int i3), .val (.int i4), .val (.int (3 : Int32)), .val (.ref b55), .unset, .unset, .unset, .unset, .unset, .unset, .unset] [])
    refine Go.step (fun t k => XS.aload X55.here hx rfl (hb hby at_12) rfl rfl k) ?_
    show Go _ _ _ _ _ _ _ T55 (mkF m 14 #[.val (.int i0), .val (.int i1), .val (.int i2), .val (.int i3), .val (.int i4), .val (.int (3 : Int32)), .val (.ref b55), .unset, .unset, .unset, .unset, .unset, .unset, .unset] [(.ref b55)])
    refine Go.step (fun t k => XS.iconst X55.here hx rfl (hb hby at_14) k) ?_
    show Go _ _ _ _ _ _ _ T55 (mkF m 15 #[.val (.int i0), .val (.int i1), .val (.int i2), .val (.int i3), .val (.int i4), .val (.int (3 : Int32)), .val (.ref b55), .unset, .unset, .unset, .unset, .unset, .unset, .unset] [(.int (0 : Int32)), (.ref b55)])
    refine Go.step (fun t k => XS.iloadN X55.here hx rfl (hb hby at_15) rfl k) ?_
    show Go _ _ _ _ _ _ _ T55 (mkF m 16 #[.val (.int i0), .val (.int i1), .val (.int i2), .val (.int i3), .val (.int i4), .val (.int (3 : Int32)), .val (.ref b55), .unset, .unset, .unset, .unset, .unset, .unset, .unset] [(.int i1), (.int (0 : Int32)), (.ref b55)])
    refine Go.step (fun t k => XS.i2b X55.here hx rfl (hb hby at_16) rfl k) ?_
    show Go _ _ _ _ _ _ _ T55 (mkF m 17 #[.val (.int i0), .val (.int i1), .val (.int i2), .val (.int i3), .val (.int i4), .val (.int (3 : Int32)), .val (.ref b55), .unset, .unset, .unset, .unset, .unset, .unset, .unset] [(.int (i1.toInt8.toInt32)), (.int (0 : Int32)), (.ref b55)])
    obtain ⟨cl56, Ar56, hin56, -⟩ := V55.at (j := (0 : Int32)) (k := 0) (by decide) (by decide)
    obtain ⟨T56, h56, X56, e56, W56, st56⟩ := stB X55 hx hZ e55 Ar56 (j := (0 : Int32)) hin56 (g := (mkF m 17 #[.val (.int i0), .val (.int i1), .val (.int i2), .val (.int i3), .val (.int i4), .val (.int (3 : Int32)), .val (.ref b55), .unset, .unset, .unset, .unset, .unset, .unset, .unset] [(.int (i1.toInt8.toInt32)), (.int (0 : Int32)), (.ref b55)])) rfl rfl (hb hby at_17)
    have V56 : AV Z h56 b55 .byte 4 (lst [(.int (nar .byte (i1.toInt8.toInt32))), (.int (0 : Int32)), (.int (0 : Int32)), (.int (0 : Int32))]) := AV.setL V55 (k := 0) (by decide) (by decide) W56 (Nat.le_of_ble_eq_true rfl) rfl
    have N56 := Fr.snoc X56 N0 gn_b55
    have Z56 : n0 ≤ h56.size := Nat.le_trans Z55 (Keep.of_wr W56).1
    refine Go.step (st56) ?_
    show Go _ _ _ _ _ _ _ T56 (mkF m 18 #[.val (.int i0), .val (.int i1), .val (.int i2), .val (.int i3), .val (.int i4), .val (.int (3 : Int32)), .val (.ref b55), .unset, .unset, .unset, .unset, .unset, .unset, .unset] [])
    refine Go.step (fun t k => XS.aload X56.here hx rfl (hb hby at_18) rfl rfl k) ?_
    show Go _ _ _ _ _ _ _ T56 (mkF m 20 #[.val (.int i0), .val (.int i1), .val (.int i2), .val (.int i3), .val (.int i4), .val (.int (3 : Int32)), .val (.ref b55), .unset, .unset, .unset, .unset, .unset, .unset, .unset] [(.ref b55)])
    refine Go.step (fun t k => XS.iconst X56.here hx rfl (hb hby at_20) k) ?_
    show Go _ _ _ _ _ _ _ T56 (mkF m 21 #[.val (.int i0), .val (.int i1), .val (.int i2), .val (.int i3), .val (.int i4), .val (.int (3 : Int32)), .val (.ref b55), .unset, .unset, .unset, .unset, .unset, .unset, .unset] [(.int (1 : Int32)), (.ref b55)])
    refine Go.step (fun t k => XS.iloadN X56.here hx rfl (hb hby at_21) rfl k) ?_
    show Go _ _ _ _ _ _ _ T56 (mkF m 22 #[.val (.int i0), .val (.int i1), .val (.int i2), .val (.int i3), .val (.int i4), .val (.int (3 : Int32)), .val (.ref b55), .unset, .unset, .unset, .unset, .unset, .unset, .unset] [(.int i2), (.int (1 : Int32)), (.ref b55)])
    refine Go.step (fun t k => XS.i2b X56.here hx rfl (hb hby at_22) rfl k) ?_
    show Go _ _ _ _ _ _ _ T56 (mkF m 23 #[.val (.int i0), .val (.int i1), .val (.int i2), .val (.int i3), .val (.int i4), .val (.int (3 : Int32)), .val (.ref b55), .unset, .unset, .unset, .unset, .unset, .unset, .unset] [(.int (i2.toInt8.toInt32)), (.int (1 : Int32)), (.ref b55)])
    obtain ⟨cl57, Ar57, hin57, -⟩ := V56.at (j := (1 : Int32)) (k := 1) (by decide) (by decide)
    obtain ⟨T57, h57, X57, e57, W57, st57⟩ := stB X56 hx hZ e56 Ar57 (j := (1 : Int32)) hin57 (g := (mkF m 23 #[.val (.int i0), .val (.int i1), .val (.int i2), .val (.int i3), .val (.int i4), .val (.int (3 : Int32)), .val (.ref b55), .unset, .unset, .unset, .unset, .unset, .unset, .unset] [(.int (i2.toInt8.toInt32)), (.int (1 : Int32)), (.ref b55)])) rfl rfl (hb hby at_23)
    have V57 : AV Z h57 b55 .byte 4 (lst [(.int (nar .byte (i1.toInt8.toInt32))), (.int (nar .byte (i2.toInt8.toInt32))), (.int (0 : Int32)), (.int (0 : Int32))]) := AV.setL V56 (k := 1) (by decide) (by decide) W57 (Nat.le_of_ble_eq_true rfl) rfl
    have N57 := Fr.snoc X57 N56 gn_b55
    have Z57 : n0 ≤ h57.size := Nat.le_trans Z56 (Keep.of_wr W57).1
    refine Go.step (st57) ?_
    show Go _ _ _ _ _ _ _ T57 (mkF m 24 #[.val (.int i0), .val (.int i1), .val (.int i2), .val (.int i3), .val (.int i4), .val (.int (3 : Int32)), .val (.ref b55), .unset, .unset, .unset, .unset, .unset, .unset, .unset] [])
    refine Go.step (fun t k => XS.aload X57.here hx rfl (hb hby at_24) rfl rfl k) ?_
    show Go _ _ _ _ _ _ _ T57 (mkF m 26 #[.val (.int i0), .val (.int i1), .val (.int i2), .val (.int i3), .val (.int i4), .val (.int (3 : Int32)), .val (.ref b55), .unset, .unset, .unset, .unset, .unset, .unset, .unset] [(.ref b55)])
    refine Go.step (fun t k => XS.iconst X57.here hx rfl (hb hby at_26) k) ?_
    show Go _ _ _ _ _ _ _ T57 (mkF m 27 #[.val (.int i0), .val (.int i1), .val (.int i2), .val (.int i3), .val (.int i4), .val (.int (3 : Int32)), .val (.ref b55), .unset, .unset, .unset, .unset, .unset, .unset, .unset] [(.int (2 : Int32)), (.ref b55)])
    refine Go.step (fun t k => XS.iloadN X57.here hx rfl (hb hby at_27) rfl k) ?_
    show Go _ _ _ _ _ _ _ T57 (mkF m 28 #[.val (.int i0), .val (.int i1), .val (.int i2), .val (.int i3), .val (.int i4), .val (.int (3 : Int32)), .val (.ref b55), .unset, .unset, .unset, .unset, .unset, .unset, .unset] [(.int i3), (.int (2 : Int32)), (.ref b55)])
    refine Go.step (fun t k => XS.i2b X57.here hx rfl (hb hby at_28) rfl k) ?_
    show Go _ _ _ _ _ _ _ T57 (mkF m 29 #[.val (.int i0), .val (.int i1), .val (.int i2), .val (.int i3), .val (.int i4), .val (.int (3 : Int32)), .val (.ref b55), .unset, .unset, .unset, .unset, .unset, .unset, .unset] [(.int (i3.toInt8.toInt32)), (.int (2 : Int32)), (.ref b55)])
    obtain ⟨cl58, Ar58, hin58, -⟩ := V57.at (j := (2 : Int32)) (k := 2) (by decide) (by decide)
    obtain ⟨T58, h58, X58, e58, W58, st58⟩ := stB X57 hx hZ e57 Ar58 (j := (2 : Int32)) hin58 (g := (mkF m 29 #[.val (.int i0), .val (.int i1), .val (.int i2), .val (.int i3), .val (.int i4), .val (.int (3 : Int32)), .val (.ref b55), .unset, .unset, .unset, .unset, .unset, .unset, .unset] [(.int (i3.toInt8.toInt32)), (.int (2 : Int32)), (.ref b55)])) rfl rfl (hb hby at_29)
    have V58 : AV Z h58 b55 .byte 4 (lst [(.int (nar .byte (i1.toInt8.toInt32))), (.int (nar .byte (i2.toInt8.toInt32))), (.int (nar .byte (i3.toInt8.toInt32))), (.int (0 : Int32))]) := AV.setL V57 (k := 2) (by decide) (by decide) W58 (Nat.le_of_ble_eq_true rfl) rfl
    have N58 := Fr.snoc X58 N57 gn_b55
    have Z58 : n0 ≤ h58.size := Nat.le_trans Z57 (Keep.of_wr W58).1
    refine Go.step (st58) ?_
    show Go _ _ _ _ _ _ _ T58 (mkF m 30 #[.val (.int i0), .val (.int i1), .val (.int i2), .val (.int i3), .val (.int i4), .val (.int (3 : Int32)), .val (.ref b55), .unset, .unset, .unset, .unset, .unset, .unset, .unset] [])
    refine Go.step (fun t k => XS.aload X58.here hx rfl (hb hby at_30) rfl rfl k) ?_
    show Go _ _ _ _ _ _ _ T58 (mkF m 32 #[.val (.int i0), .val (.int i1), .val (.int i2), .val (.int i3), .val (.int i4), .val (.int (3 : Int32)), .val (.ref b55), .unset, .unset, .unset, .unset, .unset, .unset, .unset] [(.ref b55)])
    refine Go.step (fun t k => XS.iconst X58.here hx rfl (hb hby at_32) k) ?_
    show Go _ _ _ _ _ _ _ T58 (mkF m 33 #[.val (.int i0), .val (.int i1), .val (.int i2), .val (.int i3), .val (.int i4), .val (.int (3 : Int32)), .val (.ref b55), .unset, .unset, .unset, .unset, .unset, .unset, .unset] [(.int (3 : Int32)), (.ref b55)])
    refine Go.step (fun t k => XS.iload X58.here hx rfl (hb hby at_33) rfl k) ?_
    show Go _ _ _ _ _ _ _ T58 (mkF m 35 #[.val (.int i0), .val (.int i1), .val (.int i2), .val (.int i3), .val (.int i4), .val (.int (3 : Int32)), .val (.ref b55), .unset, .unset, .unset, .unset, .unset, .unset, .unset] [(.int i4), (.int (3 : Int32)), (.ref b55)])
    refine Go.step (fun t k => XS.i2b X58.here hx rfl (hb hby at_35) rfl k) ?_
    show Go _ _ _ _ _ _ _ T58 (mkF m 36 #[.val (.int i0), .val (.int i1), .val (.int i2), .val (.int i3), .val (.int i4), .val (.int (3 : Int32)), .val (.ref b55), .unset, .unset, .unset, .unset, .unset, .unset, .unset] [(.int (i4.toInt8.toInt32)), (.int (3 : Int32)), (.ref b55)])
    obtain ⟨cl59, Ar59, hin59, -⟩ := V58.at (j := (3 : Int32)) (k := 3) (by decide) (by decide)
    obtain ⟨T59, h59, X59, e59, W59, st59⟩ := stB X58 hx hZ e58 Ar59 (j := (3 : Int32)) hin59 (g := (mkF m 36 #[.val (.int i0), .val (.int i1), .val (.int i2), .val (.int i3), .val (.int i4), .val (.int (3 : Int32)), .val (.ref b55), .unset, .unset, .unset, .unset, .unset, .unset, .unset] [(.int (i4.toInt8.toInt32)), (.int (3 : Int32)), (.ref b55)])) rfl rfl (hb hby at_36)
    have V59 : AV Z h59 b55 .byte 4 (lst [(.int (nar .byte (i1.toInt8.toInt32))), (.int (nar .byte (i2.toInt8.toInt32))), (.int (nar .byte (i3.toInt8.toInt32))), (.int (nar .byte (i4.toInt8.toInt32)))]) := AV.setL V58 (k := 3) (by decide) (by decide) W59 (Nat.le_of_ble_eq_true rfl) rfl
    have N59 := Fr.snoc X59 N58 gn_b55
    have Z59 : n0 ≤ h59.size := Nat.le_trans Z58 (Keep.of_wr W59).1
    refine Go.step (st59) ?_
    show Go _ _ _ _ _ _ _ T59 (mkF m 37 #[.val (.int i0), .val (.int i1), .val (.int i2), .val (.int i3), .val (.int i4), .val (.int (3 : Int32)), .val (.ref b55), .unset, .unset, .unset, .unset, .unset, .unset, .unset] [])
    obtain ⟨T60, h60, X60, e60, E60, A60, D60, -, st60⟩ := newO X59 hx hZ hown (hw _ (List.mem_of_getElem? (i := 1) rfl)) (hw _ (List.mem_of_getElem? (i := 2) rfl)) (hw _ (List.mem_of_getElem? (i := 3) rfl)) e59 (g := (mkF m 37 #[.val (.int i0), .val (.int i1), .val (.int i2), .val (.int i3), .val (.int i4), .val (.int (3 : Int32)), .val (.ref b55), .unset, .unset, .unset, .unset, .unset, .unset, .unset] [])) rfl (hb hby at_37) (by decide) (by decide)
    obtain ⟨b60, g60⟩ : ∃ z, z = h59.size := ⟨_, rfl⟩
    rw [← g60] at A60 D60 st60
    have f61 := (Exa.wr W59 (Exa.wr W58 (Exa.wr W57 (Exa.wr W56 EA55))))
    have ne_b55_b60 : b55 ≠ b60 := Nat.ne_of_lt (Nat.lt_of_lt_of_le f61.lt (Nat.le_of_eq g60.symm))
    have gn_b60 : n0 ≤ b60 := Nat.le_trans Z59 (Nat.le_of_eq g60.symm)
    have Z60 : n0 ≤ h60.size := Nat.le_trans Z59 E60.1
    have F60_kept : Fld Z h60 b60 "com/example/bearer/bearer/modem/LineBuffer" "kept" "[B" .null := D60 (Or.inr (hw _ (List.mem_of_getElem? (i := 11) rfl))) (ty := (.array .byte)) (by decide)
    have F60_length : Fld Z h60 b60 "com/example/bearer/bearer/modem/LineBuffer" "length" "I" (.int (0 : Int32)) := D60 (Or.inl (hw _ (List.mem_of_getElem? (i := 18) rfl))) (ty := .int) (by decide)
    have F60_cut : Fld Z h60 b60 "com/example/bearer/bearer/modem/LineBuffer" "cut" "Z" (.int (0 : Int32)) := D60 (Or.inl (hw _ (List.mem_of_getElem? (i := 20) rfl))) (ty := .boolean) (by decide)
    refine Go.step (st60) ?_
    show Go _ _ _ _ _ _ _ T60 (mkF m 40 #[.val (.int i0), .val (.int i1), .val (.int i2), .val (.int i3), .val (.int i4), .val (.int (3 : Int32)), .val (.ref b55), .unset, .unset, .unset, .unset, .unset, .unset, .unset] [(.ref b60)])
    refine Go.step (fun t k => XS.dup X60.here hx rfl (hb hby at_40) rfl rfl k) ?_
    show Go _ _ _ _ _ _ _ T60 (mkF m 41 #[.val (.int i0), .val (.int i1), .val (.int i2), .val (.int i3), .val (.int i4), .val (.int (3 : Int32)), .val (.ref b55), .unset, .unset, .unset, .unset, .unset, .unset, .unset] [(.ref b60), (.ref b60)])
    refine Go.step (fun t k => XS.iload X60.here hx rfl (hb hby at_41) rfl k) ?_
    show Go _ _ _ _ _ _ _ T60 (mkF m 43 #[.val (.int i0), .val (.int i1), .val (.int i2), .val (.int i3), .val (.int i4), .val (.int (3 : Int32)), .val (.ref b55), .unset, .unset, .unset, .unset, .unset, .unset, .unset] [(.int (3 : Int32)), (.ref b60), (.ref b60)])
    have f63 := (Exa.ext E60 f61)
    obtain ⟨v62, T62, L62, X62, q62, st62⟩ := c_init X60 hx hZ hown (y := (⟨"com/example/bearer/bearer/modem/LineBuffer", "<init>", "(I)V"⟩ : MethodName)) (hw _ (List.mem_of_getElem? (i := 4) rfl)) (hw _ (List.mem_of_getElem? (i := 5) rfl)) (hw _ (List.mem_of_getElem? (i := 3) rfl)) (hw _ (List.mem_of_getElem? (i := 6) rfl)) rfl (by decide) (a := b60) (argsL := [(.int (3 : Int32))]) (rest := [(.ref b60)]) (rmI l Z a0 hw [] b60 3 h60 n0 Z60 (by decide) (by decide) A60 F60_kept F60_length F60_cut gn_b60) e60 pd_1 rfl (by rw [hml]; rfl) (W := 1) (by show 2 * 0 + _ ≤ _; exact Nat.le_of_eq rfl) (by decide) (by decide) (by decide) (by decide) (hb hby at_43) (Ls := #[.val (.int i0), .val (.int i1), .val (.int i2), .val (.int i3), .val (.int i4), .val (.int (3 : Int32)), .val (.ref b55), .unset, .unset, .unset, .unset, .unset, .unset, .unset])
    generalize e62 : T62.heap = h62 at q62
    obtain ⟨rfl, N62q, K62q, b62, sz62, E62q, E62k, F62q0, F62q1, F62q2, V62k⟩ := q62
    have N62 := Fr.app N59 N62q
    have ne_b55_b62 : b55 ≠ b62 := Nat.ne_of_lt (Nat.lt_of_lt_of_le f63.lt sz62)
    have ne_b60_b62 : b60 ≠ b62 := Nat.ne_of_lt (Nat.lt_of_lt_of_le A60.lt sz62)
    have gn_b62 : n0 ≤ b62 := Nat.le_trans Z60 sz62
    have Z62 : n0 ≤ h62.size := Nat.le_trans Z60 K62q.1
    refine Go.step (st62) ?_
    show Go _ _ _ _ _ _ _ T62 (mkF m 46 #[.val (.int i0), .val (.int i1), .val (.int i2), .val (.int i3), .val (.int i4), .val (.int (3 : Int32)), .val (.ref b55), .unset, .unset, .unset, .unset, .unset, .unset, .unset] [(.ref b60)])
    refine Go.step (fun t k => XS.astore X62.here hx rfl (hb hby at_46) rfl rfl (l' := #[.val (.int i0), .val (.int i1), .val (.int i2), .val (.int i3), .val (.int i4), .val (.int (3 : Int32)), .val (.ref b55), .val (.ref b60), .unset, .unset, .unset, .unset, .unset, .unset]) rfl k) ?_
    show Go _ _ _ _ _ _ _ T62 (mkF m 48 #[.val (.int i0), .val (.int i1), .val (.int i2), .val (.int i3), .val (.int i4), .val (.int (3 : Int32)), .val (.ref b55), .val (.ref b60), .unset, .unset, .unset, .unset, .unset, .unset] [])
    refine Go.step (fun t k => XS.aload X62.here hx rfl (hb hby at_48) rfl rfl k) ?_
    show Go _ _ _ _ _ _ _ T62 (mkF m 50 #[.val (.int i0), .val (.int i1), .val (.int i2), .val (.int i3), .val (.int i4), .val (.int (3 : Int32)), .val (.ref b55), .val (.ref b60), .unset, .unset, .unset, .unset, .unset, .unset] [(.ref b60)])
    refine Go.step (fun t k => XS.aload X62.here hx rfl (hb hby at_50) rfl rfl k) ?_
    show Go _ _ _ _ _ _ _ T62 (mkF m 52 #[.val (.int i0), .val (.int i1), .val (.int i2), .val (.int i3), .val (.int i4), .val (.int (3 : Int32)), .val (.ref b55), .val (.ref b60), .unset, .unset, .unset, .unset, .unset, .unset] [(.ref b55), (.ref b60)])
    refine Go.step (fun t k => XS.iconst X62.here hx rfl (hb hby at_52) k) ?_
    show Go _ _ _ _ _ _ _ T62 (mkF m 53 #[.val (.int i0), .val (.int i1), .val (.int i2), .val (.int i3), .val (.int i4), .val (.int (3 : Int32)), .val (.ref b55), .val (.ref b60), .unset, .unset, .unset, .unset, .unset, .unset] [(.int (0 : Int32)), (.ref b55), (.ref b60)])
    have f64 := ((V59.ext E60).keep K62q (ninS ne_b55_b60 nin0))
    refine Go.step (a_bload X62 hx hZ e62 f64 (k := 0) (by decide) (by decide) (x := (nar .byte (i1.toInt8.toInt32))) rfl (hb hby at_53)) ?_
    show Go _ _ _ _ _ _ _ T62 (mkF m 54 #[.val (.int i0), .val (.int i1), .val (.int i2), .val (.int i3), .val (.int i4), .val (.int (3 : Int32)), .val (.ref b55), .val (.ref b60), .unset, .unset, .unset, .unset, .unset, .unset] [(.int (nar .byte (i1.toInt8.toInt32))), (.ref b60)])
    obtain ⟨v65, T65, L65, X65, q65, st65⟩ := c_virt X62 hx hZ hown (y' := (⟨"com/example/bearer/bearer/modem/LineBuffer", "add", "(B)Z"⟩ : MethodName)) (y := (⟨"com/example/bearer/bearer/modem/LineBuffer", "add", "(B)Z"⟩ : MethodName)) (C := "com/example/bearer/bearer/modem/LineBuffer") (hw _ (List.mem_of_getElem? (i := 12) rfl)) (hw _ (List.mem_of_getElem? (i := 13) rfl)) (notFace_of_selects (args := #[]) (mvT hZ (hw _ (List.mem_of_getElem? (i := 15) rfl)))) (hw _ (List.mem_of_getElem? (i := 15) rfl)) (hw _ (List.mem_of_getElem? (i := 14) rfl)) (hw _ (List.mem_of_getElem? (i := 3) rfl)) (hw _ (List.mem_of_getElem? (i := 16) rfl)) (by decide) (a := b60) (argsL := [(.int (nar .byte (i1.toInt8.toInt32)))]) (rest := []) (rmY l Z a0 hw [] b60 b62 3 0 false (fun _ => .int (0 : Int32)) (nar .byte (i1.toInt8.toInt32)) h62 n0 Z62 (by decide) (by decide) (by decide) E62q F62q0 F62q1 F62q2 V62k E62k ne_b60_b62 gn_b60 gn_b62  (by decide)) e62 E62q pd_2 rfl (by rw [hml]; rfl) (W := 0) (by show 2 * 0 + _ ≤ _; exact Nat.le_of_eq rfl) (by decide) (by decide) (by decide) (by decide) (hb hby at_54) (Ls := #[.val (.int i0), .val (.int i1), .val (.int i2), .val (.int i3), .val (.int i4), .val (.int (3 : Int32)), .val (.ref b55), .val (.ref b60), .unset, .unset, .unset, .unset, .unset, .unset])
    generalize e65 : T65.heap = h65 at q65
    obtain ⟨rfl, N65q, K65q, E65q, E65k, F65q0, F65q1, F65q2, V65k⟩ := q65
    have N65 := Fr.app N62 N65q
    have Z65 : n0 ≤ h65.size := Nat.le_trans Z62 K65q.1
    refine Go.step (st65) ?_
    show Go _ _ _ _ _ _ _ T65 (mkF m 57 #[.val (.int i0), .val (.int i1), .val (.int i2), .val (.int i3), .val (.int i4), .val (.int (3 : Int32)), .val (.ref b55), .val (.ref b60), .unset, .unset, .unset, .unset, .unset, .unset] [(.int (0 : Int32))])
    refine Go.step (fun t k => XS.istore X65.here hx rfl (hb hby at_57) rfl (l' := #[.val (.int i0), .val (.int i1), .val (.int i2), .val (.int i3), .val (.int i4), .val (.int (3 : Int32)), .val (.ref b55), .val (.ref b60), .val (.int (0 : Int32)), .unset, .unset, .unset, .unset, .unset]) rfl k) ?_
    show Go _ _ _ _ _ _ _ T65 (mkF m 59 #[.val (.int i0), .val (.int i1), .val (.int i2), .val (.int i3), .val (.int i4), .val (.int (3 : Int32)), .val (.ref b55), .val (.ref b60), .val (.int (0 : Int32)), .unset, .unset, .unset, .unset, .unset] [])
    refine Go.step (fun t k => XS.aload X65.here hx rfl (hb hby at_59) rfl rfl k) ?_
    show Go _ _ _ _ _ _ _ T65 (mkF m 61 #[.val (.int i0), .val (.int i1), .val (.int i2), .val (.int i3), .val (.int i4), .val (.int (3 : Int32)), .val (.ref b55), .val (.ref b60), .val (.int (0 : Int32)), .unset, .unset, .unset, .unset, .unset] [(.ref b60)])
    refine Go.step (fun t k => XS.aload X65.here hx rfl (hb hby at_61) rfl rfl k) ?_
    show Go _ _ _ _ _ _ _ T65 (mkF m 63 #[.val (.int i0), .val (.int i1), .val (.int i2), .val (.int i3), .val (.int i4), .val (.int (3 : Int32)), .val (.ref b55), .val (.ref b60), .val (.int (0 : Int32)), .unset, .unset, .unset, .unset, .unset] [(.ref b55), (.ref b60)])
    refine Go.step (fun t k => XS.iconst X65.here hx rfl (hb hby at_63) k) ?_
    show Go _ _ _ _ _ _ _ T65 (mkF m 64 #[.val (.int i0), .val (.int i1), .val (.int i2), .val (.int i3), .val (.int i4), .val (.int (3 : Int32)), .val (.ref b55), .val (.ref b60), .val (.int (0 : Int32)), .unset, .unset, .unset, .unset, .unset] [(.int (1 : Int32)), (.ref b55), (.ref b60)])
    have f66 := (f64.keep K65q (ninS ne_b55_b60 (ninS ne_b55_b62 nin0)))
    refine Go.step (a_bload X65 hx hZ e65 f66 (k := 1) (by decide) (by decide) (x := (nar .byte (i2.toInt8.toInt32))) rfl (hb hby at_64)) ?_
    show Go _ _ _ _ _ _ _ T65 (mkF m 65 #[.val (.int i0), .val (.int i1), .val (.int i2), .val (.int i3), .val (.int i4), .val (.int (3 : Int32)), .val (.ref b55), .val (.ref b60), .val (.int (0 : Int32)), .unset, .unset, .unset, .unset, .unset] [(.int (nar .byte (i2.toInt8.toInt32))), (.ref b60)])
    obtain ⟨v67, T67, L67, X67, q67, st67⟩ := c_virt X65 hx hZ hown (y' := (⟨"com/example/bearer/bearer/modem/LineBuffer", "add", "(B)Z"⟩ : MethodName)) (y := (⟨"com/example/bearer/bearer/modem/LineBuffer", "add", "(B)Z"⟩ : MethodName)) (C := "com/example/bearer/bearer/modem/LineBuffer") (hw _ (List.mem_of_getElem? (i := 12) rfl)) (hw _ (List.mem_of_getElem? (i := 13) rfl)) (notFace_of_selects (args := #[]) (mvT hZ (hw _ (List.mem_of_getElem? (i := 15) rfl)))) (hw _ (List.mem_of_getElem? (i := 15) rfl)) (hw _ (List.mem_of_getElem? (i := 14) rfl)) (hw _ (List.mem_of_getElem? (i := 3) rfl)) (hw _ (List.mem_of_getElem? (i := 16) rfl)) (by decide) (a := b60) (argsL := [(.int (nar .byte (i2.toInt8.toInt32)))]) (rest := []) (rmY l Z a0 hw [] b60 b62 3 1 false (upd (fun _ => .int (0 : Int32)) 0 (.int (nar .byte (nar .byte (i1.toInt8.toInt32))))) (nar .byte (i2.toInt8.toInt32)) h65 n0 Z65 (by decide) (by decide) (by decide) E65q F65q0 F65q1 F65q2 V65k E65k ne_b60_b62 gn_b60 gn_b62  (by decide)) e65 E65q pd_2 rfl (by rw [hml]; rfl) (W := 0) (by show 2 * 0 + _ ≤ _; exact Nat.le_of_eq rfl) (by decide) (by decide) (by decide) (by decide) (hb hby at_65) (Ls := #[.val (.int i0), .val (.int i1), .val (.int i2), .val (.int i3), .val (.int i4), .val (.int (3 : Int32)), .val (.ref b55), .val (.ref b60), .val (.int (0 : Int32)), .unset, .unset, .unset, .unset, .unset])
    generalize e67 : T67.heap = h67 at q67
    obtain ⟨rfl, N67q, K67q, E67q, E67k, F67q0, F67q1, F67q2, V67k⟩ := q67
    have N67 := Fr.app N65 N67q
    have Z67 : n0 ≤ h67.size := Nat.le_trans Z65 K67q.1
    refine Go.step (st67) ?_
    show Go _ _ _ _ _ _ _ T67 (mkF m 68 #[.val (.int i0), .val (.int i1), .val (.int i2), .val (.int i3), .val (.int i4), .val (.int (3 : Int32)), .val (.ref b55), .val (.ref b60), .val (.int (0 : Int32)), .unset, .unset, .unset, .unset, .unset] [(.int (0 : Int32))])
    refine Go.step (fun t k => XS.istore X67.here hx rfl (hb hby at_68) rfl (l' := #[.val (.int i0), .val (.int i1), .val (.int i2), .val (.int i3), .val (.int i4), .val (.int (3 : Int32)), .val (.ref b55), .val (.ref b60), .val (.int (0 : Int32)), .val (.int (0 : Int32)), .unset, .unset, .unset, .unset]) rfl k) ?_
    show Go _ _ _ _ _ _ _ T67 (mkF m 70 #[.val (.int i0), .val (.int i1), .val (.int i2), .val (.int i3), .val (.int i4), .val (.int (3 : Int32)), .val (.ref b55), .val (.ref b60), .val (.int (0 : Int32)), .val (.int (0 : Int32)), .unset, .unset, .unset, .unset] [])
    refine Go.step (fun t k => XS.aload X67.here hx rfl (hb hby at_70) rfl rfl k) ?_
    show Go _ _ _ _ _ _ _ T67 (mkF m 72 #[.val (.int i0), .val (.int i1), .val (.int i2), .val (.int i3), .val (.int i4), .val (.int (3 : Int32)), .val (.ref b55), .val (.ref b60), .val (.int (0 : Int32)), .val (.int (0 : Int32)), .unset, .unset, .unset, .unset] [(.ref b60)])
    refine Go.step (fun t k => XS.aload X67.here hx rfl (hb hby at_72) rfl rfl k) ?_
    show Go _ _ _ _ _ _ _ T67 (mkF m 74 #[.val (.int i0), .val (.int i1), .val (.int i2), .val (.int i3), .val (.int i4), .val (.int (3 : Int32)), .val (.ref b55), .val (.ref b60), .val (.int (0 : Int32)), .val (.int (0 : Int32)), .unset, .unset, .unset, .unset] [(.ref b55), (.ref b60)])
    refine Go.step (fun t k => XS.iconst X67.here hx rfl (hb hby at_74) k) ?_
    show Go _ _ _ _ _ _ _ T67 (mkF m 75 #[.val (.int i0), .val (.int i1), .val (.int i2), .val (.int i3), .val (.int i4), .val (.int (3 : Int32)), .val (.ref b55), .val (.ref b60), .val (.int (0 : Int32)), .val (.int (0 : Int32)), .unset, .unset, .unset, .unset] [(.int (2 : Int32)), (.ref b55), (.ref b60)])
    have f68 := (f66.keep K67q (ninS ne_b55_b60 (ninS ne_b55_b62 nin0)))
    refine Go.step (a_bload X67 hx hZ e67 f68 (k := 2) (by decide) (by decide) (x := (nar .byte (i3.toInt8.toInt32))) rfl (hb hby at_75)) ?_
    show Go _ _ _ _ _ _ _ T67 (mkF m 76 #[.val (.int i0), .val (.int i1), .val (.int i2), .val (.int i3), .val (.int i4), .val (.int (3 : Int32)), .val (.ref b55), .val (.ref b60), .val (.int (0 : Int32)), .val (.int (0 : Int32)), .unset, .unset, .unset, .unset] [(.int (nar .byte (i3.toInt8.toInt32))), (.ref b60)])
    obtain ⟨v69, T69, L69, X69, q69, st69⟩ := c_virt X67 hx hZ hown (y' := (⟨"com/example/bearer/bearer/modem/LineBuffer", "add", "(B)Z"⟩ : MethodName)) (y := (⟨"com/example/bearer/bearer/modem/LineBuffer", "add", "(B)Z"⟩ : MethodName)) (C := "com/example/bearer/bearer/modem/LineBuffer") (hw _ (List.mem_of_getElem? (i := 12) rfl)) (hw _ (List.mem_of_getElem? (i := 13) rfl)) (notFace_of_selects (args := #[]) (mvT hZ (hw _ (List.mem_of_getElem? (i := 15) rfl)))) (hw _ (List.mem_of_getElem? (i := 15) rfl)) (hw _ (List.mem_of_getElem? (i := 14) rfl)) (hw _ (List.mem_of_getElem? (i := 3) rfl)) (hw _ (List.mem_of_getElem? (i := 16) rfl)) (by decide) (a := b60) (argsL := [(.int (nar .byte (i3.toInt8.toInt32)))]) (rest := []) (rmY l Z a0 hw [] b60 b62 3 2 false (upd (upd (fun _ => .int (0 : Int32)) 0 (.int (nar .byte (nar .byte (i1.toInt8.toInt32))))) 1 (.int (nar .byte (nar .byte (i2.toInt8.toInt32))))) (nar .byte (i3.toInt8.toInt32)) h67 n0 Z67 (by decide) (by decide) (by decide) E67q F67q0 F67q1 F67q2 V67k E67k ne_b60_b62 gn_b60 gn_b62  (by decide)) e67 E67q pd_2 rfl (by rw [hml]; rfl) (W := 0) (by show 2 * 0 + _ ≤ _; exact Nat.le_of_eq rfl) (by decide) (by decide) (by decide) (by decide) (hb hby at_76) (Ls := #[.val (.int i0), .val (.int i1), .val (.int i2), .val (.int i3), .val (.int i4), .val (.int (3 : Int32)), .val (.ref b55), .val (.ref b60), .val (.int (0 : Int32)), .val (.int (0 : Int32)), .unset, .unset, .unset, .unset])
    generalize e69 : T69.heap = h69 at q69
    obtain ⟨rfl, N69q, K69q, E69q, E69k, F69q0, F69q1, F69q2, V69k⟩ := q69
    have N69 := Fr.app N67 N69q
    have Z69 : n0 ≤ h69.size := Nat.le_trans Z67 K69q.1
    refine Go.step (st69) ?_
    show Go _ _ _ _ _ _ _ T69 (mkF m 79 #[.val (.int i0), .val (.int i1), .val (.int i2), .val (.int i3), .val (.int i4), .val (.int (3 : Int32)), .val (.ref b55), .val (.ref b60), .val (.int (0 : Int32)), .val (.int (0 : Int32)), .unset, .unset, .unset, .unset] [(.int (0 : Int32))])
    refine Go.step (fun t k => XS.istore X69.here hx rfl (hb hby at_79) rfl (l' := #[.val (.int i0), .val (.int i1), .val (.int i2), .val (.int i3), .val (.int i4), .val (.int (3 : Int32)), .val (.ref b55), .val (.ref b60), .val (.int (0 : Int32)), .val (.int (0 : Int32)), .val (.int (0 : Int32)), .unset, .unset, .unset]) rfl k) ?_
    show Go _ _ _ _ _ _ _ T69 (mkF m 81 #[.val (.int i0), .val (.int i1), .val (.int i2), .val (.int i3), .val (.int i4), .val (.int (3 : Int32)), .val (.ref b55), .val (.ref b60), .val (.int (0 : Int32)), .val (.int (0 : Int32)), .val (.int (0 : Int32)), .unset, .unset, .unset] [])
    refine Go.step (fun t k => XS.aload X69.here hx rfl (hb hby at_81) rfl rfl k) ?_
    show Go _ _ _ _ _ _ _ T69 (mkF m 83 #[.val (.int i0), .val (.int i1), .val (.int i2), .val (.int i3), .val (.int i4), .val (.int (3 : Int32)), .val (.ref b55), .val (.ref b60), .val (.int (0 : Int32)), .val (.int (0 : Int32)), .val (.int (0 : Int32)), .unset, .unset, .unset] [(.ref b60)])
    refine Go.step (fun t k => XS.aload X69.here hx rfl (hb hby at_83) rfl rfl k) ?_
    show Go _ _ _ _ _ _ _ T69 (mkF m 85 #[.val (.int i0), .val (.int i1), .val (.int i2), .val (.int i3), .val (.int i4), .val (.int (3 : Int32)), .val (.ref b55), .val (.ref b60), .val (.int (0 : Int32)), .val (.int (0 : Int32)), .val (.int (0 : Int32)), .unset, .unset, .unset] [(.ref b55), (.ref b60)])
    refine Go.step (fun t k => XS.iconst X69.here hx rfl (hb hby at_85) k) ?_
    show Go _ _ _ _ _ _ _ T69 (mkF m 86 #[.val (.int i0), .val (.int i1), .val (.int i2), .val (.int i3), .val (.int i4), .val (.int (3 : Int32)), .val (.ref b55), .val (.ref b60), .val (.int (0 : Int32)), .val (.int (0 : Int32)), .val (.int (0 : Int32)), .unset, .unset, .unset] [(.int (3 : Int32)), (.ref b55), (.ref b60)])
    have f70 := (f68.keep K69q (ninS ne_b55_b60 (ninS ne_b55_b62 nin0)))
    refine Go.step (a_bload X69 hx hZ e69 f70 (k := 3) (by decide) (by decide) (x := (nar .byte (i4.toInt8.toInt32))) rfl (hb hby at_86)) ?_
    show Go _ _ _ _ _ _ _ T69 (mkF m 87 #[.val (.int i0), .val (.int i1), .val (.int i2), .val (.int i3), .val (.int i4), .val (.int (3 : Int32)), .val (.ref b55), .val (.ref b60), .val (.int (0 : Int32)), .val (.int (0 : Int32)), .val (.int (0 : Int32)), .unset, .unset, .unset] [(.int (nar .byte (i4.toInt8.toInt32))), (.ref b60)])
    obtain ⟨v71, T71, L71, X71, q71, st71⟩ := c_virt X69 hx hZ hown (y' := (⟨"com/example/bearer/bearer/modem/LineBuffer", "add", "(B)Z"⟩ : MethodName)) (y := (⟨"com/example/bearer/bearer/modem/LineBuffer", "add", "(B)Z"⟩ : MethodName)) (C := "com/example/bearer/bearer/modem/LineBuffer") (hw _ (List.mem_of_getElem? (i := 12) rfl)) (hw _ (List.mem_of_getElem? (i := 13) rfl)) (notFace_of_selects (args := #[]) (mvT hZ (hw _ (List.mem_of_getElem? (i := 15) rfl)))) (hw _ (List.mem_of_getElem? (i := 15) rfl)) (hw _ (List.mem_of_getElem? (i := 14) rfl)) (hw _ (List.mem_of_getElem? (i := 3) rfl)) (hw _ (List.mem_of_getElem? (i := 16) rfl)) (by decide) (a := b60) (argsL := [(.int (nar .byte (i4.toInt8.toInt32)))]) (rest := []) (rmF l Z a0 hw [] b60 b62 3 3 false (upd (upd (upd (fun _ => .int (0 : Int32)) 0 (.int (nar .byte (nar .byte (i1.toInt8.toInt32))))) 1 (.int (nar .byte (nar .byte (i2.toInt8.toInt32))))) 2 (.int (nar .byte (nar .byte (i3.toInt8.toInt32))))) (nar .byte (i4.toInt8.toInt32)) h69 n0 Z69 (by decide) (by decide) (by decide) E69q F69q0 F69q1 F69q2 V69k E69k ne_b60_b62 gn_b60 gn_b62  (by decide)) e69 E69q pd_2 rfl (by rw [hml]; rfl) (W := 0) (by show 2 * 0 + _ ≤ _; exact Nat.le_of_eq rfl) (by decide) (by decide) (by decide) (by decide) (hb hby at_87) (Ls := #[.val (.int i0), .val (.int i1), .val (.int i2), .val (.int i3), .val (.int i4), .val (.int (3 : Int32)), .val (.ref b55), .val (.ref b60), .val (.int (0 : Int32)), .val (.int (0 : Int32)), .val (.int (0 : Int32)), .unset, .unset, .unset])
    generalize e71 : T71.heap = h71 at q71
    obtain ⟨rfl, N71q, K71q, E71q, E71k, F71q0, F71q1, F71q2, V71k⟩ := q71
    have N71 := Fr.app N69 N71q
    have Z71 : n0 ≤ h71.size := Nat.le_trans Z69 K71q.1
    refine Go.step (st71) ?_
    show Go _ _ _ _ _ _ _ T71 (mkF m 90 #[.val (.int i0), .val (.int i1), .val (.int i2), .val (.int i3), .val (.int i4), .val (.int (3 : Int32)), .val (.ref b55), .val (.ref b60), .val (.int (0 : Int32)), .val (.int (0 : Int32)), .val (.int (0 : Int32)), .unset, .unset, .unset] [(.int (bi (¬ (false = true))))])
    refine Go.step (fun t k => XS.istore X71.here hx rfl (hb hby at_90) rfl (l' := #[.val (.int i0), .val (.int i1), .val (.int i2), .val (.int i3), .val (.int i4), .val (.int (3 : Int32)), .val (.ref b55), .val (.ref b60), .val (.int (0 : Int32)), .val (.int (0 : Int32)), .val (.int (0 : Int32)), .val (.int (bi (¬ (false = true)))), .unset, .unset]) rfl k) ?_
    show Go _ _ _ _ _ _ _ T71 (mkF m 92 #[.val (.int i0), .val (.int i1), .val (.int i2), .val (.int i3), .val (.int i4), .val (.int (3 : Int32)), .val (.ref b55), .val (.ref b60), .val (.int (0 : Int32)), .val (.int (0 : Int32)), .val (.int (0 : Int32)), .val (.int (bi (¬ (false = true)))), .unset, .unset] [])
    refine Go.step (fun t k => XS.aload X71.here hx rfl (hb hby at_92) rfl rfl k) ?_
    show Go _ _ _ _ _ _ _ T71 (mkF m 94 #[.val (.int i0), .val (.int i1), .val (.int i2), .val (.int i3), .val (.int i4), .val (.int (3 : Int32)), .val (.ref b55), .val (.ref b60), .val (.int (0 : Int32)), .val (.int (0 : Int32)), .val (.int (0 : Int32)), .val (.int (bi (¬ (false = true)))), .unset, .unset] [(.ref b60)])
    have f73 := (((((f63.keep K62q).keep K65q).keep K67q).keep K69q).keep K71q)
    have hfit72 : ∀ i, i < 3 → fits .byte ((upd (upd (upd (fun _ => .int (0 : Int32)) 0 (.int (nar .byte (nar .byte (i1.toInt8.toInt32))))) 1 (.int (nar .byte (nar .byte (i2.toInt8.toInt32))))) 2 (.int (nar .byte (nar .byte (i3.toInt8.toInt32))))) i) = true := fun i hi => by
      rcases (by omega : i = 0 ∨ i = 1 ∨ i = 2) with rfl | rfl | rfl <;> exact fits_nar_byte _
    obtain ⟨v72, T72, L72, X72, q72, st72⟩ := c_virt X71 hx hZ hown (y' := (⟨"com/example/bearer/bearer/modem/LineBuffer", "toByteArray", "()[B"⟩ : MethodName)) (y := (⟨"com/example/bearer/bearer/modem/LineBuffer", "toByteArray", "()[B"⟩ : MethodName)) (C := "com/example/bearer/bearer/modem/LineBuffer") (hw _ (List.mem_of_getElem? (i := 21) rfl)) (hw _ (List.mem_of_getElem? (i := 22) rfl)) (notFace_of_selects (args := #[]) (mvT hZ (hw _ (List.mem_of_getElem? (i := 24) rfl)))) (hw _ (List.mem_of_getElem? (i := 24) rfl)) (hw _ (List.mem_of_getElem? (i := 23) rfl)) (hw _ (List.mem_of_getElem? (i := 3) rfl)) (hw _ (List.mem_of_getElem? (i := 25) rfl)) (by decide) (a := b60) (argsL := []) (rest := []) (rmB l Z a0 hw [] b60 b62 3 true (upd (upd (upd (fun _ => .int (0 : Int32)) 0 (.int (nar .byte (nar .byte (i1.toInt8.toInt32))))) 1 (.int (nar .byte (nar .byte (i2.toInt8.toInt32))))) 2 (.int (nar .byte (nar .byte (i3.toInt8.toInt32))))) h71 n0 Z71 (by decide) (by decide) E71q F71q0 F71q1 F71q2 V71k E71k ne_b60_b62 hfit72) e71 E71q pd_3 rfl (by rw [hml]; rfl) (W := 0) (by show 2 * 0 + _ ≤ _; exact Nat.le_of_eq rfl) (by decide) (by decide) (by decide) (by decide) (hb hby at_94) (Ls := #[.val (.int i0), .val (.int i1), .val (.int i2), .val (.int i3), .val (.int i4), .val (.int (3 : Int32)), .val (.ref b55), .val (.ref b60), .val (.int (0 : Int32)), .val (.int (0 : Int32)), .val (.int (0 : Int32)), .val (.int (bi (¬ (false = true)))), .unset, .unset])
    generalize e72 : T72.heap = h72 at q72
    obtain ⟨b72, rfl, N72q, K72q, sz72, V72k⟩ := q72
    have N72 := Fr.app N71 N72q
    have ne_b55_b72 : b55 ≠ b72 := Nat.ne_of_lt (Nat.lt_of_lt_of_le f73.lt sz72)
    have ne_b60_b72 : b60 ≠ b72 := Nat.ne_of_lt (Nat.lt_of_lt_of_le E71q.lt sz72)
    have ne_b62_b72 : b62 ≠ b72 := Nat.ne_of_lt (Nat.lt_of_lt_of_le E71k.lt sz72)
    have gn_b72 : n0 ≤ b72 := Nat.le_trans Z71 sz72
    have Z72 : n0 ≤ h72.size := Nat.le_trans Z71 K72q.1
    refine Go.step (st72) ?_
    show Go _ _ _ _ _ _ _ T72 (mkF m 97 #[.val (.int i0), .val (.int i1), .val (.int i2), .val (.int i3), .val (.int i4), .val (.int (3 : Int32)), .val (.ref b55), .val (.ref b60), .val (.int (0 : Int32)), .val (.int (0 : Int32)), .val (.int (0 : Int32)), .val (.int (bi (¬ (false = true)))), .unset, .unset] [(.ref b72)])
    refine Go.step (fun t k => XS.astore X72.here hx rfl (hb hby at_97) rfl rfl (l' := #[.val (.int i0), .val (.int i1), .val (.int i2), .val (.int i3), .val (.int i4), .val (.int (3 : Int32)), .val (.ref b55), .val (.ref b60), .val (.int (0 : Int32)), .val (.int (0 : Int32)), .val (.int (0 : Int32)), .val (.int (bi (¬ (false = true)))), .val (.ref b72), .unset]) rfl k) ?_
    show Go _ _ _ _ _ _ _ T72 (mkF m 99 #[.val (.int i0), .val (.int i1), .val (.int i2), .val (.int i3), .val (.int i4), .val (.int (3 : Int32)), .val (.ref b55), .val (.ref b60), .val (.int (0 : Int32)), .val (.int (0 : Int32)), .val (.int (0 : Int32)), .val (.int (bi (¬ (false = true)))), .val (.ref b72), .unset] [])
    refine Go.step (fun t k => XS.aload X72.here hx rfl (hb hby at_99) rfl rfl k) ?_
    show Go _ _ _ _ _ _ _ T72 (mkF m 101 #[.val (.int i0), .val (.int i1), .val (.int i2), .val (.int i3), .val (.int i4), .val (.int (3 : Int32)), .val (.ref b55), .val (.ref b60), .val (.int (0 : Int32)), .val (.int (0 : Int32)), .val (.int (0 : Int32)), .val (.int (bi (¬ (false = true)))), .val (.ref b72), .unset] [(.ref b60)])
    have f75 := (E71q.keep K72q)
    have f76 := (F71q0.keep K72q nin0)
    have f77 := (F71q1.keep K72q nin0)
    have f78 := (F71q2.keep K72q nin0)
    have f79 := (V71k.keep K72q nin0)
    have f80 := (E71k.keep K72q)
    obtain ⟨v74, T74, L74, X74, q74, st74⟩ := c_virt X72 hx hZ hown (y' := (⟨"com/example/bearer/bearer/modem/LineBuffer", "isCut", "()Z"⟩ : MethodName)) (y := (⟨"com/example/bearer/bearer/modem/LineBuffer", "isCut", "()Z"⟩ : MethodName)) (C := "com/example/bearer/bearer/modem/LineBuffer") (hw _ (List.mem_of_getElem? (i := 39) rfl)) (hw _ (List.mem_of_getElem? (i := 40) rfl)) (notFace_of_selects (args := #[]) (mvT hZ (hw _ (List.mem_of_getElem? (i := 42) rfl)))) (hw _ (List.mem_of_getElem? (i := 42) rfl)) (hw _ (List.mem_of_getElem? (i := 41) rfl)) (hw _ (List.mem_of_getElem? (i := 3) rfl)) (hw _ (List.mem_of_getElem? (i := 43) rfl)) (by decide) (a := b60) (argsL := []) (rest := []) (rmQ l Z a0 hw [] b60 b62 3 3 true (upd (upd (upd (fun _ => .int (0 : Int32)) 0 (.int (nar .byte (nar .byte (i1.toInt8.toInt32))))) 1 (.int (nar .byte (nar .byte (i2.toInt8.toInt32))))) 2 (.int (nar .byte (nar .byte (i3.toInt8.toInt32))))) h72 n0 Z72 (by decide) (by decide) (by decide) f75 f76 f77 f78 f79 f80 ne_b60_b62) e72 f75 pd_4 rfl (by rw [hml]; rfl) (W := 0) (by show 2 * 0 + _ ≤ _; exact Nat.le_of_eq rfl) (by decide) (by decide) (by decide) (by decide) (hb hby at_101) (Ls := #[.val (.int i0), .val (.int i1), .val (.int i2), .val (.int i3), .val (.int i4), .val (.int (3 : Int32)), .val (.ref b55), .val (.ref b60), .val (.int (0 : Int32)), .val (.int (0 : Int32)), .val (.int (0 : Int32)), .val (.int (bi (¬ (false = true)))), .val (.ref b72), .unset])
    obtain ⟨rfl, rfl, e74⟩ := q74
    have N74 := Fr.app N72 (Fr.nil n0)
    refine Go.step (st74) ?_
    show Go _ _ _ _ _ _ _ T74 (mkF m 104 #[.val (.int i0), .val (.int i1), .val (.int i2), .val (.int i3), .val (.int i4), .val (.int (3 : Int32)), .val (.ref b55), .val (.ref b60), .val (.int (0 : Int32)), .val (.int (0 : Int32)), .val (.int (0 : Int32)), .val (.int (bi (¬ (false = true)))), .val (.ref b72), .unset] [(.int (bi (true = true)))])
    refine Go.step (fun t k => XS.istore X74.here hx rfl (hb hby at_104) rfl (l' := #[.val (.int i0), .val (.int i1), .val (.int i2), .val (.int i3), .val (.int i4), .val (.int (3 : Int32)), .val (.ref b55), .val (.ref b60), .val (.int (0 : Int32)), .val (.int (0 : Int32)), .val (.int (0 : Int32)), .val (.int (bi (¬ (false = true)))), .val (.ref b72), .val (.int (bi (true = true)))]) rfl k) ?_
    show Go _ _ _ _ _ _ _ T74 (mkF m 106 #[.val (.int i0), .val (.int i1), .val (.int i2), .val (.int i3), .val (.int i4), .val (.int (3 : Int32)), .val (.ref b55), .val (.ref b60), .val (.int (0 : Int32)), .val (.int (0 : Int32)), .val (.int (0 : Int32)), .val (.int (bi (¬ (false = true)))), .val (.ref b72), .val (.int (bi (true = true)))] [])
    refine Go.step (fun t k => XS.iload X74.here hx rfl (hb hby at_106) rfl k) ?_
    show Go _ _ _ _ _ _ _ T74 (mkF m 108 #[.val (.int i0), .val (.int i1), .val (.int i2), .val (.int i3), .val (.int i4), .val (.int (3 : Int32)), .val (.ref b55), .val (.ref b60), .val (.int (0 : Int32)), .val (.int (0 : Int32)), .val (.int (0 : Int32)), .val (.int (bi (¬ (false = true)))), .val (.ref b72), .val (.int (bi (true = true)))] [(.int (0 : Int32))])
    refine Go.step (fun t k => XS.ifYes X74.here hx rfl (pc0 := 108) (pc' := 113) rfl (hb hby at_108) rfl ((if0 _ _).trans (teq (by decide)).1) (by decide) (by decide) k) ?_
    show Go _ _ _ _ _ _ _ T74 (mkF m 113 #[.val (.int i0), .val (.int i1), .val (.int i2), .val (.int i3), .val (.int i4), .val (.int (3 : Int32)), .val (.ref b55), .val (.ref b60), .val (.int (0 : Int32)), .val (.int (0 : Int32)), .val (.int (0 : Int32)), .val (.int (bi (¬ (false = true)))), .val (.ref b72), .val (.int (bi (true = true)))] [])
    refine Go.step (fun t k => XS.iload X74.here hx rfl (hb hby at_113) rfl k) ?_
    show Go _ _ _ _ _ _ _ T74 (mkF m 115 #[.val (.int i0), .val (.int i1), .val (.int i2), .val (.int i3), .val (.int i4), .val (.int (3 : Int32)), .val (.ref b55), .val (.ref b60), .val (.int (0 : Int32)), .val (.int (0 : Int32)), .val (.int (0 : Int32)), .val (.int (bi (¬ (false = true)))), .val (.ref b72), .val (.int (bi (true = true)))] [(.int (0 : Int32))])
    refine Go.step (fun t k => XS.iload X74.here hx rfl (hb hby at_115) rfl k) ?_
    show Go _ _ _ _ _ _ _ T74 (mkF m 117 #[.val (.int i0), .val (.int i1), .val (.int i2), .val (.int i3), .val (.int i4), .val (.int (3 : Int32)), .val (.ref b55), .val (.ref b60), .val (.int (0 : Int32)), .val (.int (0 : Int32)), .val (.int (0 : Int32)), .val (.int (bi (¬ (false = true)))), .val (.ref b72), .val (.int (bi (true = true)))] [(.int (3 : Int32)), (.int (0 : Int32))])
    refine Go.step (fun t k => XS.iconst X74.here hx rfl (hb hby at_117) k) ?_
    show Go _ _ _ _ _ _ _ T74 (mkF m 118 #[.val (.int i0), .val (.int i1), .val (.int i2), .val (.int i3), .val (.int i4), .val (.int (3 : Int32)), .val (.ref b55), .val (.ref b60), .val (.int (0 : Int32)), .val (.int (0 : Int32)), .val (.int (0 : Int32)), .val (.int (bi (¬ (false = true)))), .val (.ref b72), .val (.int (bi (true = true)))] [(.int (1 : Int32)), (.int (3 : Int32)), (.int (0 : Int32))])
    refine Go.step (fun t k => XS.icmpYes X74.here hx rfl (pc0 := 118) (pc' := 125) rfl (hb hby at_118) rfl (feq (by decide)).2 (by decide) (by decide) k) ?_
    show Go _ _ _ _ _ _ _ T74 (mkF m 125 #[.val (.int i0), .val (.int i1), .val (.int i2), .val (.int i3), .val (.int i4), .val (.int (3 : Int32)), .val (.ref b55), .val (.ref b60), .val (.int (0 : Int32)), .val (.int (0 : Int32)), .val (.int (0 : Int32)), .val (.int (bi (¬ (false = true)))), .val (.ref b72), .val (.int (bi (true = true)))] [(.int (0 : Int32))])
    refine Go.step (fun t k => XS.iconst X74.here hx rfl (hb hby at_125) k) ?_
    show Go _ _ _ _ _ _ _ T74 (mkF m 126 #[.val (.int i0), .val (.int i1), .val (.int i2), .val (.int i3), .val (.int i4), .val (.int (3 : Int32)), .val (.ref b55), .val (.ref b60), .val (.int (0 : Int32)), .val (.int (0 : Int32)), .val (.int (0 : Int32)), .val (.int (bi (¬ (false = true)))), .val (.ref b72), .val (.int (bi (true = true)))] [(.int (0 : Int32)), (.int (0 : Int32))])
    refine Go.step (fun t k => XS.icmpYes X74.here hx rfl (pc0 := 126) (pc' := 131) rfl (hb hby at_126) rfl (teq (by decide)).1 (by decide) (by decide) k) ?_
    show Go _ _ _ _ _ _ _ T74 (mkF m 131 #[.val (.int i0), .val (.int i1), .val (.int i2), .val (.int i3), .val (.int i4), .val (.int (3 : Int32)), .val (.ref b55), .val (.ref b60), .val (.int (0 : Int32)), .val (.int (0 : Int32)), .val (.int (0 : Int32)), .val (.int (bi (¬ (false = true)))), .val (.ref b72), .val (.int (bi (true = true)))] [])
    refine Go.step (fun t k => XS.iload X74.here hx rfl (hb hby at_131) rfl k) ?_
    show Go _ _ _ _ _ _ _ T74 (mkF m 133 #[.val (.int i0), .val (.int i1), .val (.int i2), .val (.int i3), .val (.int i4), .val (.int (3 : Int32)), .val (.ref b55), .val (.ref b60), .val (.int (0 : Int32)), .val (.int (0 : Int32)), .val (.int (0 : Int32)), .val (.int (bi (¬ (false = true)))), .val (.ref b72), .val (.int (bi (true = true)))] [(.int (0 : Int32))])
    refine Go.step (fun t k => XS.iload X74.here hx rfl (hb hby at_133) rfl k) ?_
    show Go _ _ _ _ _ _ _ T74 (mkF m 135 #[.val (.int i0), .val (.int i1), .val (.int i2), .val (.int i3), .val (.int i4), .val (.int (3 : Int32)), .val (.ref b55), .val (.ref b60), .val (.int (0 : Int32)), .val (.int (0 : Int32)), .val (.int (0 : Int32)), .val (.int (bi (¬ (false = true)))), .val (.ref b72), .val (.int (bi (true = true)))] [(.int (3 : Int32)), (.int (0 : Int32))])
    refine Go.step (fun t k => XS.iconst X74.here hx rfl (hb hby at_135) k) ?_
    show Go _ _ _ _ _ _ _ T74 (mkF m 136 #[.val (.int i0), .val (.int i1), .val (.int i2), .val (.int i3), .val (.int i4), .val (.int (3 : Int32)), .val (.ref b55), .val (.ref b60), .val (.int (0 : Int32)), .val (.int (0 : Int32)), .val (.int (0 : Int32)), .val (.int (bi (¬ (false = true)))), .val (.ref b72), .val (.int (bi (true = true)))] [(.int (2 : Int32)), (.int (3 : Int32)), (.int (0 : Int32))])
    refine Go.step (fun t k => XS.icmpYes X74.here hx rfl (pc0 := 136) (pc' := 143) rfl (hb hby at_136) rfl (feq (by decide)).2 (by decide) (by decide) k) ?_
    show Go _ _ _ _ _ _ _ T74 (mkF m 143 #[.val (.int i0), .val (.int i1), .val (.int i2), .val (.int i3), .val (.int i4), .val (.int (3 : Int32)), .val (.ref b55), .val (.ref b60), .val (.int (0 : Int32)), .val (.int (0 : Int32)), .val (.int (0 : Int32)), .val (.int (bi (¬ (false = true)))), .val (.ref b72), .val (.int (bi (true = true)))] [(.int (0 : Int32))])
    refine Go.step (fun t k => XS.iconst X74.here hx rfl (hb hby at_143) k) ?_
    show Go _ _ _ _ _ _ _ T74 (mkF m 144 #[.val (.int i0), .val (.int i1), .val (.int i2), .val (.int i3), .val (.int i4), .val (.int (3 : Int32)), .val (.ref b55), .val (.ref b60), .val (.int (0 : Int32)), .val (.int (0 : Int32)), .val (.int (0 : Int32)), .val (.int (bi (¬ (false = true)))), .val (.ref b72), .val (.int (bi (true = true)))] [(.int (0 : Int32)), (.int (0 : Int32))])
    refine Go.step (fun t k => XS.icmpYes X74.here hx rfl (pc0 := 144) (pc' := 149) rfl (hb hby at_144) rfl (teq (by decide)).1 (by decide) (by decide) k) ?_
    show Go _ _ _ _ _ _ _ T74 (mkF m 149 #[.val (.int i0), .val (.int i1), .val (.int i2), .val (.int i3), .val (.int i4), .val (.int (3 : Int32)), .val (.ref b55), .val (.ref b60), .val (.int (0 : Int32)), .val (.int (0 : Int32)), .val (.int (0 : Int32)), .val (.int (bi (¬ (false = true)))), .val (.ref b72), .val (.int (bi (true = true)))] [])
    refine Go.step (fun t k => XS.iload X74.here hx rfl (hb hby at_149) rfl k) ?_
    show Go _ _ _ _ _ _ _ T74 (mkF m 151 #[.val (.int i0), .val (.int i1), .val (.int i2), .val (.int i3), .val (.int i4), .val (.int (3 : Int32)), .val (.ref b55), .val (.ref b60), .val (.int (0 : Int32)), .val (.int (0 : Int32)), .val (.int (0 : Int32)), .val (.int (bi (¬ (false = true)))), .val (.ref b72), .val (.int (bi (true = true)))] [(.int (bi (¬ (false = true))))])
    refine Go.step (fun t k => XS.iload X74.here hx rfl (hb hby at_151) rfl k) ?_
    show Go _ _ _ _ _ _ _ T74 (mkF m 153 #[.val (.int i0), .val (.int i1), .val (.int i2), .val (.int i3), .val (.int i4), .val (.int (3 : Int32)), .val (.ref b55), .val (.ref b60), .val (.int (0 : Int32)), .val (.int (0 : Int32)), .val (.int (0 : Int32)), .val (.int (bi (¬ (false = true)))), .val (.ref b72), .val (.int (bi (true = true)))] [(.int (3 : Int32)), (.int (bi (¬ (false = true))))])
    refine Go.step (fun t k => XS.iconst X74.here hx rfl (hb hby at_153) k) ?_
    show Go _ _ _ _ _ _ _ T74 (mkF m 154 #[.val (.int i0), .val (.int i1), .val (.int i2), .val (.int i3), .val (.int i4), .val (.int (3 : Int32)), .val (.ref b55), .val (.ref b60), .val (.int (0 : Int32)), .val (.int (0 : Int32)), .val (.int (0 : Int32)), .val (.int (bi (¬ (false = true)))), .val (.ref b72), .val (.int (bi (true = true)))] [(.int (3 : Int32)), (.int (3 : Int32)), (.int (bi (¬ (false = true))))])
    refine Go.step (fun t k => XS.icmpNo X74.here hx rfl (hb hby at_154) rfl (teq (by decide)).2 k) ?_
    show Go _ _ _ _ _ _ _ T74 (mkF m 157 #[.val (.int i0), .val (.int i1), .val (.int i2), .val (.int i3), .val (.int i4), .val (.int (3 : Int32)), .val (.ref b55), .val (.ref b60), .val (.int (0 : Int32)), .val (.int (0 : Int32)), .val (.int (0 : Int32)), .val (.int (bi (¬ (false = true)))), .val (.ref b72), .val (.int (bi (true = true)))] [(.int (bi (¬ (false = true))))])
    refine Go.step (fun t k => XS.iconst X74.here hx rfl (hb hby at_157) k) ?_
    show Go _ _ _ _ _ _ _ T74 (mkF m 158 #[.val (.int i0), .val (.int i1), .val (.int i2), .val (.int i3), .val (.int i4), .val (.int (3 : Int32)), .val (.ref b55), .val (.ref b60), .val (.int (0 : Int32)), .val (.int (0 : Int32)), .val (.int (0 : Int32)), .val (.int (bi (¬ (false = true)))), .val (.ref b72), .val (.int (bi (true = true)))] [(.int (1 : Int32)), (.int (bi (¬ (false = true))))])
    refine Go.step (fun t k => XS.goto X74.here hx rfl (pc0 := 158) (pc' := 162) rfl (hb hby at_158) (by decide) (by decide) k) ?_
    show Go _ _ _ _ _ _ _ T74 (mkF m 162 #[.val (.int i0), .val (.int i1), .val (.int i2), .val (.int i3), .val (.int i4), .val (.int (3 : Int32)), .val (.ref b55), .val (.ref b60), .val (.int (0 : Int32)), .val (.int (0 : Int32)), .val (.int (0 : Int32)), .val (.int (bi (¬ (false = true)))), .val (.ref b72), .val (.int (bi (true = true)))] [(.int (1 : Int32)), (.int (bi (¬ (false = true))))])
    refine Go.step (fun t k => XS.icmpYes X74.here hx rfl (pc0 := 162) (pc' := 167) rfl (hb hby at_162) rfl (teq (by decide)).1 (by decide) (by decide) k) ?_
    show Go _ _ _ _ _ _ _ T74 (mkF m 167 #[.val (.int i0), .val (.int i1), .val (.int i2), .val (.int i3), .val (.int i4), .val (.int (3 : Int32)), .val (.ref b55), .val (.ref b60), .val (.int (0 : Int32)), .val (.int (0 : Int32)), .val (.int (0 : Int32)), .val (.int (bi (¬ (false = true)))), .val (.ref b72), .val (.int (bi (true = true)))] [])
    refine Go.step (fun t k => XS.iload X74.here hx rfl (hb hby at_167) rfl k) ?_
    show Go _ _ _ _ _ _ _ T74 (mkF m 169 #[.val (.int i0), .val (.int i1), .val (.int i2), .val (.int i3), .val (.int i4), .val (.int (3 : Int32)), .val (.ref b55), .val (.ref b60), .val (.int (0 : Int32)), .val (.int (0 : Int32)), .val (.int (0 : Int32)), .val (.int (bi (¬ (false = true)))), .val (.ref b72), .val (.int (bi (true = true)))] [(.int (bi (true = true)))])
    refine Go.step (fun t k => XS.iload X74.here hx rfl (hb hby at_169) rfl k) ?_
    show Go _ _ _ _ _ _ _ T74 (mkF m 171 #[.val (.int i0), .val (.int i1), .val (.int i2), .val (.int i3), .val (.int i4), .val (.int (3 : Int32)), .val (.ref b55), .val (.ref b60), .val (.int (0 : Int32)), .val (.int (0 : Int32)), .val (.int (0 : Int32)), .val (.int (bi (¬ (false = true)))), .val (.ref b72), .val (.int (bi (true = true)))] [(.int (3 : Int32)), (.int (bi (true = true)))])
    refine Go.step (fun t k => XS.iconst X74.here hx rfl (hb hby at_171) k) ?_
    show Go _ _ _ _ _ _ _ T74 (mkF m 172 #[.val (.int i0), .val (.int i1), .val (.int i2), .val (.int i3), .val (.int i4), .val (.int (3 : Int32)), .val (.ref b55), .val (.ref b60), .val (.int (0 : Int32)), .val (.int (0 : Int32)), .val (.int (0 : Int32)), .val (.int (bi (¬ (false = true)))), .val (.ref b72), .val (.int (bi (true = true)))] [(.int (4 : Int32)), (.int (3 : Int32)), (.int (bi (true = true)))])
    refine Go.step (fun t k => XS.icmpNo X74.here hx rfl (hb hby at_172) rfl (tlt (by decide)).2.1 k) ?_
    show Go _ _ _ _ _ _ _ T74 (mkF m 175 #[.val (.int i0), .val (.int i1), .val (.int i2), .val (.int i3), .val (.int i4), .val (.int (3 : Int32)), .val (.ref b55), .val (.ref b60), .val (.int (0 : Int32)), .val (.int (0 : Int32)), .val (.int (0 : Int32)), .val (.int (bi (¬ (false = true)))), .val (.ref b72), .val (.int (bi (true = true)))] [(.int (bi (true = true)))])
    refine Go.step (fun t k => XS.iconst X74.here hx rfl (hb hby at_175) k) ?_
    show Go _ _ _ _ _ _ _ T74 (mkF m 176 #[.val (.int i0), .val (.int i1), .val (.int i2), .val (.int i3), .val (.int i4), .val (.int (3 : Int32)), .val (.ref b55), .val (.ref b60), .val (.int (0 : Int32)), .val (.int (0 : Int32)), .val (.int (0 : Int32)), .val (.int (bi (¬ (false = true)))), .val (.ref b72), .val (.int (bi (true = true)))] [(.int (1 : Int32)), (.int (bi (true = true)))])
    refine Go.step (fun t k => XS.goto X74.here hx rfl (pc0 := 176) (pc' := 180) rfl (hb hby at_176) (by decide) (by decide) k) ?_
    show Go _ _ _ _ _ _ _ T74 (mkF m 180 #[.val (.int i0), .val (.int i1), .val (.int i2), .val (.int i3), .val (.int i4), .val (.int (3 : Int32)), .val (.ref b55), .val (.ref b60), .val (.int (0 : Int32)), .val (.int (0 : Int32)), .val (.int (0 : Int32)), .val (.int (bi (¬ (false = true)))), .val (.ref b72), .val (.int (bi (true = true)))] [(.int (1 : Int32)), (.int (bi (true = true)))])
    refine Go.step (fun t k => XS.icmpYes X74.here hx rfl (pc0 := 180) (pc' := 185) rfl (hb hby at_180) rfl (teq (by decide)).1 (by decide) (by decide) k) ?_
    show Go _ _ _ _ _ _ _ T74 (mkF m 185 #[.val (.int i0), .val (.int i1), .val (.int i2), .val (.int i3), .val (.int i4), .val (.int (3 : Int32)), .val (.ref b55), .val (.ref b60), .val (.int (0 : Int32)), .val (.int (0 : Int32)), .val (.int (0 : Int32)), .val (.int (bi (¬ (false = true)))), .val (.ref b72), .val (.int (bi (true = true)))] [])
    refine Go.step (fun t k => XS.aload X74.here hx rfl (hb hby at_185) rfl rfl k) ?_
    show Go _ _ _ _ _ _ _ T74 (mkF m 187 #[.val (.int i0), .val (.int i1), .val (.int i2), .val (.int i3), .val (.int i4), .val (.int (3 : Int32)), .val (.ref b55), .val (.ref b60), .val (.int (0 : Int32)), .val (.int (0 : Int32)), .val (.int (0 : Int32)), .val (.int (bi (¬ (false = true)))), .val (.ref b72), .val (.int (bi (true = true)))] [(.ref b72)])
    refine Go.step (a_len X74 hx hZ e74 V72k (z := (3 : Int32)) (by decide) (hb hby at_187)) ?_
    show Go _ _ _ _ _ _ _ T74 (mkF m 188 #[.val (.int i0), .val (.int i1), .val (.int i2), .val (.int i3), .val (.int i4), .val (.int (3 : Int32)), .val (.ref b55), .val (.ref b60), .val (.int (0 : Int32)), .val (.int (0 : Int32)), .val (.int (0 : Int32)), .val (.int (bi (¬ (false = true)))), .val (.ref b72), .val (.int (bi (true = true)))] [(.int (3 : Int32))])
    refine Go.step (fun t k => XS.iload X74.here hx rfl (hb hby at_188) rfl k) ?_
    show Go _ _ _ _ _ _ _ T74 (mkF m 190 #[.val (.int i0), .val (.int i1), .val (.int i2), .val (.int i3), .val (.int i4), .val (.int (3 : Int32)), .val (.ref b55), .val (.ref b60), .val (.int (0 : Int32)), .val (.int (0 : Int32)), .val (.int (0 : Int32)), .val (.int (bi (¬ (false = true)))), .val (.ref b72), .val (.int (bi (true = true)))] [(.int (3 : Int32)), (.int (3 : Int32))])
    refine Go.step (fun t k => XS.icmpYes X74.here hx rfl (pc0 := 190) (pc' := 195) rfl (hb hby at_190) rfl (teq (by decide)).1 (by decide) (by decide) k) ?_
    show Go _ _ _ _ _ _ _ T74 (mkF m 195 #[.val (.int i0), .val (.int i1), .val (.int i2), .val (.int i3), .val (.int i4), .val (.int (3 : Int32)), .val (.ref b55), .val (.ref b60), .val (.int (0 : Int32)), .val (.int (0 : Int32)), .val (.int (0 : Int32)), .val (.int (bi (¬ (false = true)))), .val (.ref b72), .val (.int (bi (true = true)))] [])
    refine Go.step (fun t k => XS.aload X74.here hx rfl (hb hby at_195) rfl rfl k) ?_
    show Go _ _ _ _ _ _ _ T74 (mkF m 197 #[.val (.int i0), .val (.int i1), .val (.int i2), .val (.int i3), .val (.int i4), .val (.int (3 : Int32)), .val (.ref b55), .val (.ref b60), .val (.int (0 : Int32)), .val (.int (0 : Int32)), .val (.int (0 : Int32)), .val (.int (bi (¬ (false = true)))), .val (.ref b72), .val (.int (bi (true = true)))] [(.ref b72)])
    refine Go.step (fun t k => XS.iconst X74.here hx rfl (hb hby at_197) k) ?_
    show Go _ _ _ _ _ _ _ T74 (mkF m 198 #[.val (.int i0), .val (.int i1), .val (.int i2), .val (.int i3), .val (.int i4), .val (.int (3 : Int32)), .val (.ref b55), .val (.ref b60), .val (.int (0 : Int32)), .val (.int (0 : Int32)), .val (.int (0 : Int32)), .val (.int (bi (¬ (false = true)))), .val (.ref b72), .val (.int (bi (true = true)))] [(.int (0 : Int32)), (.ref b72)])
    refine Go.step (a_bload X74 hx hZ e74 V72k (k := 0) (by decide) (by decide) (x := (nar .byte (nar .byte (i1.toInt8.toInt32)))) rfl (hb hby at_198)) ?_
    show Go _ _ _ _ _ _ _ T74 (mkF m 199 #[.val (.int i0), .val (.int i1), .val (.int i2), .val (.int i3), .val (.int i4), .val (.int (3 : Int32)), .val (.ref b55), .val (.ref b60), .val (.int (0 : Int32)), .val (.int (0 : Int32)), .val (.int (0 : Int32)), .val (.int (bi (¬ (false = true)))), .val (.ref b72), .val (.int (bi (true = true)))] [(.int (nar .byte (nar .byte (i1.toInt8.toInt32))))])
    refine Go.step (fun t k => XS.aload X74.here hx rfl (hb hby at_199) rfl rfl k) ?_
    show Go _ _ _ _ _ _ _ T74 (mkF m 201 #[.val (.int i0), .val (.int i1), .val (.int i2), .val (.int i3), .val (.int i4), .val (.int (3 : Int32)), .val (.ref b55), .val (.ref b60), .val (.int (0 : Int32)), .val (.int (0 : Int32)), .val (.int (0 : Int32)), .val (.int (bi (¬ (false = true)))), .val (.ref b72), .val (.int (bi (true = true)))] [(.ref b55), (.int (nar .byte (nar .byte (i1.toInt8.toInt32))))])
    refine Go.step (fun t k => XS.iconst X74.here hx rfl (hb hby at_201) k) ?_
    show Go _ _ _ _ _ _ _ T74 (mkF m 202 #[.val (.int i0), .val (.int i1), .val (.int i2), .val (.int i3), .val (.int i4), .val (.int (3 : Int32)), .val (.ref b55), .val (.ref b60), .val (.int (0 : Int32)), .val (.int (0 : Int32)), .val (.int (0 : Int32)), .val (.int (bi (¬ (false = true)))), .val (.ref b72), .val (.int (bi (true = true)))] [(.int (0 : Int32)), (.ref b55), (.int (nar .byte (nar .byte (i1.toInt8.toInt32))))])
    have f81 := ((f70.keep K71q (ninS ne_b55_b60 (ninS ne_b55_b62 nin0))).keep K72q nin0)
    refine Go.step (a_bload X74 hx hZ e74 f81 (k := 0) (by decide) (by decide) (x := (nar .byte (i1.toInt8.toInt32))) rfl (hb hby at_202)) ?_
    show Go _ _ _ _ _ _ _ T74 (mkF m 203 #[.val (.int i0), .val (.int i1), .val (.int i2), .val (.int i3), .val (.int i4), .val (.int (3 : Int32)), .val (.ref b55), .val (.ref b60), .val (.int (0 : Int32)), .val (.int (0 : Int32)), .val (.int (0 : Int32)), .val (.int (bi (¬ (false = true)))), .val (.ref b72), .val (.int (bi (true = true)))] [(.int (nar .byte (i1.toInt8.toInt32))), (.int (nar .byte (nar .byte (i1.toInt8.toInt32))))])
    refine Go.step (fun t k => XS.icmpYes X74.here hx rfl (pc0 := 203) (pc' := 208) rfl (hb hby at_203) rfl (teq (own_nar _)).1 (by decide) (by decide) k) ?_
    show Go _ _ _ _ _ _ _ T74 (mkF m 208 #[.val (.int i0), .val (.int i1), .val (.int i2), .val (.int i3), .val (.int i4), .val (.int (3 : Int32)), .val (.ref b55), .val (.ref b60), .val (.int (0 : Int32)), .val (.int (0 : Int32)), .val (.int (0 : Int32)), .val (.int (bi (¬ (false = true)))), .val (.ref b72), .val (.int (bi (true = true)))] [])
    refine Go.step (fun t k => XS.iload X74.here hx rfl (hb hby at_208) rfl k) ?_
    show Go _ _ _ _ _ _ _ T74 (mkF m 210 #[.val (.int i0), .val (.int i1), .val (.int i2), .val (.int i3), .val (.int i4), .val (.int (3 : Int32)), .val (.ref b55), .val (.ref b60), .val (.int (0 : Int32)), .val (.int (0 : Int32)), .val (.int (0 : Int32)), .val (.int (bi (¬ (false = true)))), .val (.ref b72), .val (.int (bi (true = true)))] [(.int (3 : Int32))])
    refine Go.step (fun t k => XS.iconst X74.here hx rfl (hb hby at_210) k) ?_
    show Go _ _ _ _ _ _ _ T74 (mkF m 211 #[.val (.int i0), .val (.int i1), .val (.int i2), .val (.int i3), .val (.int i4), .val (.int (3 : Int32)), .val (.ref b55), .val (.ref b60), .val (.int (0 : Int32)), .val (.int (0 : Int32)), .val (.int (0 : Int32)), .val (.int (bi (¬ (false = true)))), .val (.ref b72), .val (.int (bi (true = true)))] [(.int (2 : Int32)), (.int (3 : Int32))])
    refine Go.step (fun t k => XS.icmpNo X74.here hx rfl (hb hby at_211) rfl (flt (by decide)).1 k) ?_
    show Go _ _ _ _ _ _ _ T74 (mkF m 214 #[.val (.int i0), .val (.int i1), .val (.int i2), .val (.int i3), .val (.int i4), .val (.int (3 : Int32)), .val (.ref b55), .val (.ref b60), .val (.int (0 : Int32)), .val (.int (0 : Int32)), .val (.int (0 : Int32)), .val (.int (bi (¬ (false = true)))), .val (.ref b72), .val (.int (bi (true = true)))] [])
    refine Go.step (fun t k => XS.aload X74.here hx rfl (hb hby at_214) rfl rfl k) ?_
    show Go _ _ _ _ _ _ _ T74 (mkF m 216 #[.val (.int i0), .val (.int i1), .val (.int i2), .val (.int i3), .val (.int i4), .val (.int (3 : Int32)), .val (.ref b55), .val (.ref b60), .val (.int (0 : Int32)), .val (.int (0 : Int32)), .val (.int (0 : Int32)), .val (.int (bi (¬ (false = true)))), .val (.ref b72), .val (.int (bi (true = true)))] [(.ref b72)])
    refine Go.step (fun t k => XS.iconst X74.here hx rfl (hb hby at_216) k) ?_
    show Go _ _ _ _ _ _ _ T74 (mkF m 217 #[.val (.int i0), .val (.int i1), .val (.int i2), .val (.int i3), .val (.int i4), .val (.int (3 : Int32)), .val (.ref b55), .val (.ref b60), .val (.int (0 : Int32)), .val (.int (0 : Int32)), .val (.int (0 : Int32)), .val (.int (bi (¬ (false = true)))), .val (.ref b72), .val (.int (bi (true = true)))] [(.int (1 : Int32)), (.ref b72)])
    refine Go.step (a_bload X74 hx hZ e74 V72k (k := 1) (by decide) (by decide) (x := (nar .byte (nar .byte (i2.toInt8.toInt32)))) rfl (hb hby at_217)) ?_
    show Go _ _ _ _ _ _ _ T74 (mkF m 218 #[.val (.int i0), .val (.int i1), .val (.int i2), .val (.int i3), .val (.int i4), .val (.int (3 : Int32)), .val (.ref b55), .val (.ref b60), .val (.int (0 : Int32)), .val (.int (0 : Int32)), .val (.int (0 : Int32)), .val (.int (bi (¬ (false = true)))), .val (.ref b72), .val (.int (bi (true = true)))] [(.int (nar .byte (nar .byte (i2.toInt8.toInt32))))])
    refine Go.step (fun t k => XS.aload X74.here hx rfl (hb hby at_218) rfl rfl k) ?_
    show Go _ _ _ _ _ _ _ T74 (mkF m 220 #[.val (.int i0), .val (.int i1), .val (.int i2), .val (.int i3), .val (.int i4), .val (.int (3 : Int32)), .val (.ref b55), .val (.ref b60), .val (.int (0 : Int32)), .val (.int (0 : Int32)), .val (.int (0 : Int32)), .val (.int (bi (¬ (false = true)))), .val (.ref b72), .val (.int (bi (true = true)))] [(.ref b55), (.int (nar .byte (nar .byte (i2.toInt8.toInt32))))])
    refine Go.step (fun t k => XS.iconst X74.here hx rfl (hb hby at_220) k) ?_
    show Go _ _ _ _ _ _ _ T74 (mkF m 221 #[.val (.int i0), .val (.int i1), .val (.int i2), .val (.int i3), .val (.int i4), .val (.int (3 : Int32)), .val (.ref b55), .val (.ref b60), .val (.int (0 : Int32)), .val (.int (0 : Int32)), .val (.int (0 : Int32)), .val (.int (bi (¬ (false = true)))), .val (.ref b72), .val (.int (bi (true = true)))] [(.int (1 : Int32)), (.ref b55), (.int (nar .byte (nar .byte (i2.toInt8.toInt32))))])
    refine Go.step (a_bload X74 hx hZ e74 f81 (k := 1) (by decide) (by decide) (x := (nar .byte (i2.toInt8.toInt32))) rfl (hb hby at_221)) ?_
    show Go _ _ _ _ _ _ _ T74 (mkF m 222 #[.val (.int i0), .val (.int i1), .val (.int i2), .val (.int i3), .val (.int i4), .val (.int (3 : Int32)), .val (.ref b55), .val (.ref b60), .val (.int (0 : Int32)), .val (.int (0 : Int32)), .val (.int (0 : Int32)), .val (.int (bi (¬ (false = true)))), .val (.ref b72), .val (.int (bi (true = true)))] [(.int (nar .byte (i2.toInt8.toInt32))), (.int (nar .byte (nar .byte (i2.toInt8.toInt32))))])
    refine Go.step (fun t k => XS.icmpYes X74.here hx rfl (pc0 := 222) (pc' := 227) rfl (hb hby at_222) rfl (teq (own_nar _)).1 (by decide) (by decide) k) ?_
    show Go _ _ _ _ _ _ _ T74 (mkF m 227 #[.val (.int i0), .val (.int i1), .val (.int i2), .val (.int i3), .val (.int i4), .val (.int (3 : Int32)), .val (.ref b55), .val (.ref b60), .val (.int (0 : Int32)), .val (.int (0 : Int32)), .val (.int (0 : Int32)), .val (.int (bi (¬ (false = true)))), .val (.ref b72), .val (.int (bi (true = true)))] [])
    refine Go.step (fun t k => XS.iload X74.here hx rfl (hb hby at_227) rfl k) ?_
    show Go _ _ _ _ _ _ _ T74 (mkF m 229 #[.val (.int i0), .val (.int i1), .val (.int i2), .val (.int i3), .val (.int i4), .val (.int (3 : Int32)), .val (.ref b55), .val (.ref b60), .val (.int (0 : Int32)), .val (.int (0 : Int32)), .val (.int (0 : Int32)), .val (.int (bi (¬ (false = true)))), .val (.ref b72), .val (.int (bi (true = true)))] [(.int (3 : Int32))])
    refine Go.step (fun t k => XS.iconst X74.here hx rfl (hb hby at_229) k) ?_
    show Go _ _ _ _ _ _ _ T74 (mkF m 230 #[.val (.int i0), .val (.int i1), .val (.int i2), .val (.int i3), .val (.int i4), .val (.int (3 : Int32)), .val (.ref b55), .val (.ref b60), .val (.int (0 : Int32)), .val (.int (0 : Int32)), .val (.int (0 : Int32)), .val (.int (bi (¬ (false = true)))), .val (.ref b72), .val (.int (bi (true = true)))] [(.int (3 : Int32)), (.int (3 : Int32))])
    refine Go.step (fun t k => XS.icmpNo X74.here hx rfl (hb hby at_230) rfl (flt (by decide)).1 k) ?_
    show Go _ _ _ _ _ _ _ T74 (mkF m 233 #[.val (.int i0), .val (.int i1), .val (.int i2), .val (.int i3), .val (.int i4), .val (.int (3 : Int32)), .val (.ref b55), .val (.ref b60), .val (.int (0 : Int32)), .val (.int (0 : Int32)), .val (.int (0 : Int32)), .val (.int (bi (¬ (false = true)))), .val (.ref b72), .val (.int (bi (true = true)))] [])
    refine Go.step (fun t k => XS.aload X74.here hx rfl (hb hby at_233) rfl rfl k) ?_
    show Go _ _ _ _ _ _ _ T74 (mkF m 235 #[.val (.int i0), .val (.int i1), .val (.int i2), .val (.int i3), .val (.int i4), .val (.int (3 : Int32)), .val (.ref b55), .val (.ref b60), .val (.int (0 : Int32)), .val (.int (0 : Int32)), .val (.int (0 : Int32)), .val (.int (bi (¬ (false = true)))), .val (.ref b72), .val (.int (bi (true = true)))] [(.ref b72)])
    refine Go.step (fun t k => XS.iconst X74.here hx rfl (hb hby at_235) k) ?_
    show Go _ _ _ _ _ _ _ T74 (mkF m 236 #[.val (.int i0), .val (.int i1), .val (.int i2), .val (.int i3), .val (.int i4), .val (.int (3 : Int32)), .val (.ref b55), .val (.ref b60), .val (.int (0 : Int32)), .val (.int (0 : Int32)), .val (.int (0 : Int32)), .val (.int (bi (¬ (false = true)))), .val (.ref b72), .val (.int (bi (true = true)))] [(.int (2 : Int32)), (.ref b72)])
    refine Go.step (a_bload X74 hx hZ e74 V72k (k := 2) (by decide) (by decide) (x := (nar .byte (nar .byte (i3.toInt8.toInt32)))) rfl (hb hby at_236)) ?_
    show Go _ _ _ _ _ _ _ T74 (mkF m 237 #[.val (.int i0), .val (.int i1), .val (.int i2), .val (.int i3), .val (.int i4), .val (.int (3 : Int32)), .val (.ref b55), .val (.ref b60), .val (.int (0 : Int32)), .val (.int (0 : Int32)), .val (.int (0 : Int32)), .val (.int (bi (¬ (false = true)))), .val (.ref b72), .val (.int (bi (true = true)))] [(.int (nar .byte (nar .byte (i3.toInt8.toInt32))))])
    refine Go.step (fun t k => XS.aload X74.here hx rfl (hb hby at_237) rfl rfl k) ?_
    show Go _ _ _ _ _ _ _ T74 (mkF m 239 #[.val (.int i0), .val (.int i1), .val (.int i2), .val (.int i3), .val (.int i4), .val (.int (3 : Int32)), .val (.ref b55), .val (.ref b60), .val (.int (0 : Int32)), .val (.int (0 : Int32)), .val (.int (0 : Int32)), .val (.int (bi (¬ (false = true)))), .val (.ref b72), .val (.int (bi (true = true)))] [(.ref b55), (.int (nar .byte (nar .byte (i3.toInt8.toInt32))))])
    refine Go.step (fun t k => XS.iconst X74.here hx rfl (hb hby at_239) k) ?_
    show Go _ _ _ _ _ _ _ T74 (mkF m 240 #[.val (.int i0), .val (.int i1), .val (.int i2), .val (.int i3), .val (.int i4), .val (.int (3 : Int32)), .val (.ref b55), .val (.ref b60), .val (.int (0 : Int32)), .val (.int (0 : Int32)), .val (.int (0 : Int32)), .val (.int (bi (¬ (false = true)))), .val (.ref b72), .val (.int (bi (true = true)))] [(.int (2 : Int32)), (.ref b55), (.int (nar .byte (nar .byte (i3.toInt8.toInt32))))])
    refine Go.step (a_bload X74 hx hZ e74 f81 (k := 2) (by decide) (by decide) (x := (nar .byte (i3.toInt8.toInt32))) rfl (hb hby at_240)) ?_
    show Go _ _ _ _ _ _ _ T74 (mkF m 241 #[.val (.int i0), .val (.int i1), .val (.int i2), .val (.int i3), .val (.int i4), .val (.int (3 : Int32)), .val (.ref b55), .val (.ref b60), .val (.int (0 : Int32)), .val (.int (0 : Int32)), .val (.int (0 : Int32)), .val (.int (bi (¬ (false = true)))), .val (.ref b72), .val (.int (bi (true = true)))] [(.int (nar .byte (i3.toInt8.toInt32))), (.int (nar .byte (nar .byte (i3.toInt8.toInt32))))])
    refine Go.step (fun t k => XS.icmpYes X74.here hx rfl (pc0 := 241) (pc' := 246) rfl (hb hby at_241) rfl (teq (own_nar _)).1 (by decide) (by decide) k) ?_
    show Go _ _ _ _ _ _ _ T74 (mkF m 246 #[.val (.int i0), .val (.int i1), .val (.int i2), .val (.int i3), .val (.int i4), .val (.int (3 : Int32)), .val (.ref b55), .val (.ref b60), .val (.int (0 : Int32)), .val (.int (0 : Int32)), .val (.int (0 : Int32)), .val (.int (bi (¬ (false = true)))), .val (.ref b72), .val (.int (bi (true = true)))] [])
    refine Go.step (fun t k => XS.iload X74.here hx rfl (hb hby at_246) rfl k) ?_
    show Go _ _ _ _ _ _ _ T74 (mkF m 248 #[.val (.int i0), .val (.int i1), .val (.int i2), .val (.int i3), .val (.int i4), .val (.int (3 : Int32)), .val (.ref b55), .val (.ref b60), .val (.int (0 : Int32)), .val (.int (0 : Int32)), .val (.int (0 : Int32)), .val (.int (bi (¬ (false = true)))), .val (.ref b72), .val (.int (bi (true = true)))] [(.int (3 : Int32))])
    refine Go.step (fun t k => XS.iconst X74.here hx rfl (hb hby at_248) k) ?_
    show Go _ _ _ _ _ _ _ T74 (mkF m 249 #[.val (.int i0), .val (.int i1), .val (.int i2), .val (.int i3), .val (.int i4), .val (.int (3 : Int32)), .val (.ref b55), .val (.ref b60), .val (.int (0 : Int32)), .val (.int (0 : Int32)), .val (.int (0 : Int32)), .val (.int (bi (¬ (false = true)))), .val (.ref b72), .val (.int (bi (true = true)))] [(.int (4 : Int32)), (.int (3 : Int32))])
    refine Go.step (fun t k => XS.icmpYes X74.here hx rfl (pc0 := 249) (pc' := 265) rfl (hb hby at_249) rfl (tlt (by decide)).1 (by decide) (by decide) k) ?_
    show Go _ _ _ _ _ _ _ T74 (mkF m 265 #[.val (.int i0), .val (.int i1), .val (.int i2), .val (.int i3), .val (.int i4), .val (.int (3 : Int32)), .val (.ref b55), .val (.ref b60), .val (.int (0 : Int32)), .val (.int (0 : Int32)), .val (.int (0 : Int32)), .val (.int (bi (¬ (false = true)))), .val (.ref b72), .val (.int (bi (true = true)))] [])
    refine Go.step (fun t k => XS.iconst X74.here hx rfl (hb hby at_265) k) ?_
    show Go _ _ _ _ _ _ _ T74 (mkF m 266 #[.val (.int i0), .val (.int i1), .val (.int i2), .val (.int i3), .val (.int i4), .val (.int (3 : Int32)), .val (.ref b55), .val (.ref b60), .val (.int (0 : Int32)), .val (.int (0 : Int32)), .val (.int (0 : Int32)), .val (.int (bi (¬ (false = true)))), .val (.ref b72), .val (.int (bi (true = true)))] [(.int (1 : Int32))])
    refine go_retN X74 hx (t := .boolean) hret (by simp) hlk (hb hby at_266) (w := (1 : Int32)) rfl ?_ (by decide) (by decide)
    try rw [e74]
    exact ⟨rfl, N74⟩
  · show Go _ _ _ _ _ _ _ T0 (mkF m 7 #[.val (.int i0), .val (.int i1), .val (.int i2), .val (.int i3), .val (.int i4), .val (.int (4 : Int32)), .unset, .unset, .unset, .unset, .unset, .unset, .unset, .unset] [])
    refine Go.step (fun t k => XS.iconst X0.here hx rfl (hb hby at_7) k) ?_
    show Go _ _ _ _ _ _ _ T0 (mkF m 8 #[.val (.int i0), .val (.int i1), .val (.int i2), .val (.int i3), .val (.int i4), .val (.int (4 : Int32)), .unset, .unset, .unset, .unset, .unset, .unset, .unset, .unset] [(.int (4 : Int32))])
    obtain ⟨T82, h82, k82, X82, e82, E82, A82, EA82, st82⟩ := newPE X0 hx hZ (hw _ (List.mem_of_getElem? (i := 0) rfl)) e0 (g := (mkF m 8 #[.val (.int i0), .val (.int i1), .val (.int i2), .val (.int i3), .val (.int i4), .val (.int (4 : Int32)), .unset, .unset, .unset, .unset, .unset, .unset, .unset, .unset] [(.int (4 : Int32))])) rfl (hb hby at_8) rfl (by decide) (cap := 4) (by decide) (by decide) (by decide) (by decide) (ad := "[B") rfl
    obtain ⟨b82, g82⟩ : ∃ z, z = h0.size := ⟨_, rfl⟩
    rw [← g82] at A82 EA82 st82
    have gn_b82 : n0 ≤ b82 := Nat.le_trans Z0 (Nat.le_of_eq g82.symm)
    have Z82 : n0 ≤ h82.size := Nat.le_trans Z0 E82.1
    have V82 : AV Z h82 b82 .byte 4 (lst [(.int (0 : Int32)), (.int (0 : Int32)), (.int (0 : Int32)), (.int (0 : Int32))]) := AV.newL (AV.new A82 (by decide)) rfl
    refine Go.step (st82) ?_
    show Go _ _ _ _ _ _ _ T82 (mkF m 10 #[.val (.int i0), .val (.int i1), .val (.int i2), .val (.int i3), .val (.int i4), .val (.int (4 : Int32)), .unset, .unset, .unset, .unset, .unset, .unset, .unset, .unset] [(.ref b82)])
    refine Go.step (fun t k => XS.astore X82.here hx rfl (hb hby at_10) rfl rfl (l' := #[.val (.int i0), .val (.int i1), .val (.int i2), .val (.int i3), .val (.int i4), .val (.int (4 : Int32)), .val (.ref b82), .unset, .unset, .unset, .unset, .unset, .unset, .unset]) rfl k) ?_
    show Go _ _ _ _ _ _ _ T82 (mkF m 12 #[.val (.int i0), .val (.int i1), .val (.int i2), .val (.int i3), .val (.int i4), .val (.int (4 : Int32)), .val (.ref b82), .unset, .unset, .unset, .unset, .unset, .unset, .unset] [])
    refine Go.step (fun t k => XS.aload X82.here hx rfl (hb hby at_12) rfl rfl k) ?_
    show Go _ _ _ _ _ _ _ T82 (mkF m 14 #[.val (.int i0), .val (.int i1), .val (.int i2), .val (.int i3), .val (.int i4), .val (.int (4 : Int32)), .val (.ref b82), .unset, .unset, .unset, .unset, .unset, .unset, .unset] [(.ref b82)])
    refine Go.step (fun t k => XS.iconst X82.here hx rfl (hb hby at_14) k) ?_
    show Go _ _ _ _ _ _ _ T82 (mkF m 15 #[.val (.int i0), .val (.int i1), .val (.int i2), .val (.int i3), .val (.int i4), .val (.int (4 : Int32)), .val (.ref b82), .unset, .unset, .unset, .unset, .unset, .unset, .unset] [(.int (0 : Int32)), (.ref b82)])
    refine Go.step (fun t k => XS.iloadN X82.here hx rfl (hb hby at_15) rfl k) ?_
    show Go _ _ _ _ _ _ _ T82 (mkF m 16 #[.val (.int i0), .val (.int i1), .val (.int i2), .val (.int i3), .val (.int i4), .val (.int (4 : Int32)), .val (.ref b82), .unset, .unset, .unset, .unset, .unset, .unset, .unset] [(.int i1), (.int (0 : Int32)), (.ref b82)])
    refine Go.step (fun t k => XS.i2b X82.here hx rfl (hb hby at_16) rfl k) ?_
    show Go _ _ _ _ _ _ _ T82 (mkF m 17 #[.val (.int i0), .val (.int i1), .val (.int i2), .val (.int i3), .val (.int i4), .val (.int (4 : Int32)), .val (.ref b82), .unset, .unset, .unset, .unset, .unset, .unset, .unset] [(.int (i1.toInt8.toInt32)), (.int (0 : Int32)), (.ref b82)])
    obtain ⟨cl83, Ar83, hin83, -⟩ := V82.at (j := (0 : Int32)) (k := 0) (by decide) (by decide)
    obtain ⟨T83, h83, X83, e83, W83, st83⟩ := stB X82 hx hZ e82 Ar83 (j := (0 : Int32)) hin83 (g := (mkF m 17 #[.val (.int i0), .val (.int i1), .val (.int i2), .val (.int i3), .val (.int i4), .val (.int (4 : Int32)), .val (.ref b82), .unset, .unset, .unset, .unset, .unset, .unset, .unset] [(.int (i1.toInt8.toInt32)), (.int (0 : Int32)), (.ref b82)])) rfl rfl (hb hby at_17)
    have V83 : AV Z h83 b82 .byte 4 (lst [(.int (nar .byte (i1.toInt8.toInt32))), (.int (0 : Int32)), (.int (0 : Int32)), (.int (0 : Int32))]) := AV.setL V82 (k := 0) (by decide) (by decide) W83 (Nat.le_of_ble_eq_true rfl) rfl
    have N83 := Fr.snoc X83 N0 gn_b82
    have Z83 : n0 ≤ h83.size := Nat.le_trans Z82 (Keep.of_wr W83).1
    refine Go.step (st83) ?_
    show Go _ _ _ _ _ _ _ T83 (mkF m 18 #[.val (.int i0), .val (.int i1), .val (.int i2), .val (.int i3), .val (.int i4), .val (.int (4 : Int32)), .val (.ref b82), .unset, .unset, .unset, .unset, .unset, .unset, .unset] [])
    refine Go.step (fun t k => XS.aload X83.here hx rfl (hb hby at_18) rfl rfl k) ?_
    show Go _ _ _ _ _ _ _ T83 (mkF m 20 #[.val (.int i0), .val (.int i1), .val (.int i2), .val (.int i3), .val (.int i4), .val (.int (4 : Int32)), .val (.ref b82), .unset, .unset, .unset, .unset, .unset, .unset, .unset] [(.ref b82)])
    refine Go.step (fun t k => XS.iconst X83.here hx rfl (hb hby at_20) k) ?_
    show Go _ _ _ _ _ _ _ T83 (mkF m 21 #[.val (.int i0), .val (.int i1), .val (.int i2), .val (.int i3), .val (.int i4), .val (.int (4 : Int32)), .val (.ref b82), .unset, .unset, .unset, .unset, .unset, .unset, .unset] [(.int (1 : Int32)), (.ref b82)])
    refine Go.step (fun t k => XS.iloadN X83.here hx rfl (hb hby at_21) rfl k) ?_
    show Go _ _ _ _ _ _ _ T83 (mkF m 22 #[.val (.int i0), .val (.int i1), .val (.int i2), .val (.int i3), .val (.int i4), .val (.int (4 : Int32)), .val (.ref b82), .unset, .unset, .unset, .unset, .unset, .unset, .unset] [(.int i2), (.int (1 : Int32)), (.ref b82)])
    refine Go.step (fun t k => XS.i2b X83.here hx rfl (hb hby at_22) rfl k) ?_
    show Go _ _ _ _ _ _ _ T83 (mkF m 23 #[.val (.int i0), .val (.int i1), .val (.int i2), .val (.int i3), .val (.int i4), .val (.int (4 : Int32)), .val (.ref b82), .unset, .unset, .unset, .unset, .unset, .unset, .unset] [(.int (i2.toInt8.toInt32)), (.int (1 : Int32)), (.ref b82)])
    obtain ⟨cl84, Ar84, hin84, -⟩ := V83.at (j := (1 : Int32)) (k := 1) (by decide) (by decide)
    obtain ⟨T84, h84, X84, e84, W84, st84⟩ := stB X83 hx hZ e83 Ar84 (j := (1 : Int32)) hin84 (g := (mkF m 23 #[.val (.int i0), .val (.int i1), .val (.int i2), .val (.int i3), .val (.int i4), .val (.int (4 : Int32)), .val (.ref b82), .unset, .unset, .unset, .unset, .unset, .unset, .unset] [(.int (i2.toInt8.toInt32)), (.int (1 : Int32)), (.ref b82)])) rfl rfl (hb hby at_23)
    have V84 : AV Z h84 b82 .byte 4 (lst [(.int (nar .byte (i1.toInt8.toInt32))), (.int (nar .byte (i2.toInt8.toInt32))), (.int (0 : Int32)), (.int (0 : Int32))]) := AV.setL V83 (k := 1) (by decide) (by decide) W84 (Nat.le_of_ble_eq_true rfl) rfl
    have N84 := Fr.snoc X84 N83 gn_b82
    have Z84 : n0 ≤ h84.size := Nat.le_trans Z83 (Keep.of_wr W84).1
    refine Go.step (st84) ?_
    show Go _ _ _ _ _ _ _ T84 (mkF m 24 #[.val (.int i0), .val (.int i1), .val (.int i2), .val (.int i3), .val (.int i4), .val (.int (4 : Int32)), .val (.ref b82), .unset, .unset, .unset, .unset, .unset, .unset, .unset] [])
    refine Go.step (fun t k => XS.aload X84.here hx rfl (hb hby at_24) rfl rfl k) ?_
    show Go _ _ _ _ _ _ _ T84 (mkF m 26 #[.val (.int i0), .val (.int i1), .val (.int i2), .val (.int i3), .val (.int i4), .val (.int (4 : Int32)), .val (.ref b82), .unset, .unset, .unset, .unset, .unset, .unset, .unset] [(.ref b82)])
    refine Go.step (fun t k => XS.iconst X84.here hx rfl (hb hby at_26) k) ?_
    show Go _ _ _ _ _ _ _ T84 (mkF m 27 #[.val (.int i0), .val (.int i1), .val (.int i2), .val (.int i3), .val (.int i4), .val (.int (4 : Int32)), .val (.ref b82), .unset, .unset, .unset, .unset, .unset, .unset, .unset] [(.int (2 : Int32)), (.ref b82)])
    refine Go.step (fun t k => XS.iloadN X84.here hx rfl (hb hby at_27) rfl k) ?_
    show Go _ _ _ _ _ _ _ T84 (mkF m 28 #[.val (.int i0), .val (.int i1), .val (.int i2), .val (.int i3), .val (.int i4), .val (.int (4 : Int32)), .val (.ref b82), .unset, .unset, .unset, .unset, .unset, .unset, .unset] [(.int i3), (.int (2 : Int32)), (.ref b82)])
    refine Go.step (fun t k => XS.i2b X84.here hx rfl (hb hby at_28) rfl k) ?_
    show Go _ _ _ _ _ _ _ T84 (mkF m 29 #[.val (.int i0), .val (.int i1), .val (.int i2), .val (.int i3), .val (.int i4), .val (.int (4 : Int32)), .val (.ref b82), .unset, .unset, .unset, .unset, .unset, .unset, .unset] [(.int (i3.toInt8.toInt32)), (.int (2 : Int32)), (.ref b82)])
    obtain ⟨cl85, Ar85, hin85, -⟩ := V84.at (j := (2 : Int32)) (k := 2) (by decide) (by decide)
    obtain ⟨T85, h85, X85, e85, W85, st85⟩ := stB X84 hx hZ e84 Ar85 (j := (2 : Int32)) hin85 (g := (mkF m 29 #[.val (.int i0), .val (.int i1), .val (.int i2), .val (.int i3), .val (.int i4), .val (.int (4 : Int32)), .val (.ref b82), .unset, .unset, .unset, .unset, .unset, .unset, .unset] [(.int (i3.toInt8.toInt32)), (.int (2 : Int32)), (.ref b82)])) rfl rfl (hb hby at_29)
    have V85 : AV Z h85 b82 .byte 4 (lst [(.int (nar .byte (i1.toInt8.toInt32))), (.int (nar .byte (i2.toInt8.toInt32))), (.int (nar .byte (i3.toInt8.toInt32))), (.int (0 : Int32))]) := AV.setL V84 (k := 2) (by decide) (by decide) W85 (Nat.le_of_ble_eq_true rfl) rfl
    have N85 := Fr.snoc X85 N84 gn_b82
    have Z85 : n0 ≤ h85.size := Nat.le_trans Z84 (Keep.of_wr W85).1
    refine Go.step (st85) ?_
    show Go _ _ _ _ _ _ _ T85 (mkF m 30 #[.val (.int i0), .val (.int i1), .val (.int i2), .val (.int i3), .val (.int i4), .val (.int (4 : Int32)), .val (.ref b82), .unset, .unset, .unset, .unset, .unset, .unset, .unset] [])
    refine Go.step (fun t k => XS.aload X85.here hx rfl (hb hby at_30) rfl rfl k) ?_
    show Go _ _ _ _ _ _ _ T85 (mkF m 32 #[.val (.int i0), .val (.int i1), .val (.int i2), .val (.int i3), .val (.int i4), .val (.int (4 : Int32)), .val (.ref b82), .unset, .unset, .unset, .unset, .unset, .unset, .unset] [(.ref b82)])
    refine Go.step (fun t k => XS.iconst X85.here hx rfl (hb hby at_32) k) ?_
    show Go _ _ _ _ _ _ _ T85 (mkF m 33 #[.val (.int i0), .val (.int i1), .val (.int i2), .val (.int i3), .val (.int i4), .val (.int (4 : Int32)), .val (.ref b82), .unset, .unset, .unset, .unset, .unset, .unset, .unset] [(.int (3 : Int32)), (.ref b82)])
    refine Go.step (fun t k => XS.iload X85.here hx rfl (hb hby at_33) rfl k) ?_
    show Go _ _ _ _ _ _ _ T85 (mkF m 35 #[.val (.int i0), .val (.int i1), .val (.int i2), .val (.int i3), .val (.int i4), .val (.int (4 : Int32)), .val (.ref b82), .unset, .unset, .unset, .unset, .unset, .unset, .unset] [(.int i4), (.int (3 : Int32)), (.ref b82)])
    refine Go.step (fun t k => XS.i2b X85.here hx rfl (hb hby at_35) rfl k) ?_
    show Go _ _ _ _ _ _ _ T85 (mkF m 36 #[.val (.int i0), .val (.int i1), .val (.int i2), .val (.int i3), .val (.int i4), .val (.int (4 : Int32)), .val (.ref b82), .unset, .unset, .unset, .unset, .unset, .unset, .unset] [(.int (i4.toInt8.toInt32)), (.int (3 : Int32)), (.ref b82)])
    obtain ⟨cl86, Ar86, hin86, -⟩ := V85.at (j := (3 : Int32)) (k := 3) (by decide) (by decide)
    obtain ⟨T86, h86, X86, e86, W86, st86⟩ := stB X85 hx hZ e85 Ar86 (j := (3 : Int32)) hin86 (g := (mkF m 36 #[.val (.int i0), .val (.int i1), .val (.int i2), .val (.int i3), .val (.int i4), .val (.int (4 : Int32)), .val (.ref b82), .unset, .unset, .unset, .unset, .unset, .unset, .unset] [(.int (i4.toInt8.toInt32)), (.int (3 : Int32)), (.ref b82)])) rfl rfl (hb hby at_36)
    have V86 : AV Z h86 b82 .byte 4 (lst [(.int (nar .byte (i1.toInt8.toInt32))), (.int (nar .byte (i2.toInt8.toInt32))), (.int (nar .byte (i3.toInt8.toInt32))), (.int (nar .byte (i4.toInt8.toInt32)))]) := AV.setL V85 (k := 3) (by decide) (by decide) W86 (Nat.le_of_ble_eq_true rfl) rfl
    have N86 := Fr.snoc X86 N85 gn_b82
    have Z86 : n0 ≤ h86.size := Nat.le_trans Z85 (Keep.of_wr W86).1
    refine Go.step (st86) ?_
    show Go _ _ _ _ _ _ _ T86 (mkF m 37 #[.val (.int i0), .val (.int i1), .val (.int i2), .val (.int i3), .val (.int i4), .val (.int (4 : Int32)), .val (.ref b82), .unset, .unset, .unset, .unset, .unset, .unset, .unset] [])
    obtain ⟨T87, h87, X87, e87, E87, A87, D87, -, st87⟩ := newO X86 hx hZ hown (hw _ (List.mem_of_getElem? (i := 1) rfl)) (hw _ (List.mem_of_getElem? (i := 2) rfl)) (hw _ (List.mem_of_getElem? (i := 3) rfl)) e86 (g := (mkF m 37 #[.val (.int i0), .val (.int i1), .val (.int i2), .val (.int i3), .val (.int i4), .val (.int (4 : Int32)), .val (.ref b82), .unset, .unset, .unset, .unset, .unset, .unset, .unset] [])) rfl (hb hby at_37) (by decide) (by decide)
    obtain ⟨b87, g87⟩ : ∃ z, z = h86.size := ⟨_, rfl⟩
    rw [← g87] at A87 D87 st87
    have f88 := (Exa.wr W86 (Exa.wr W85 (Exa.wr W84 (Exa.wr W83 EA82))))
    have ne_b82_b87 : b82 ≠ b87 := Nat.ne_of_lt (Nat.lt_of_lt_of_le f88.lt (Nat.le_of_eq g87.symm))
    have gn_b87 : n0 ≤ b87 := Nat.le_trans Z86 (Nat.le_of_eq g87.symm)
    have Z87 : n0 ≤ h87.size := Nat.le_trans Z86 E87.1
    have F87_kept : Fld Z h87 b87 "com/example/bearer/bearer/modem/LineBuffer" "kept" "[B" .null := D87 (Or.inr (hw _ (List.mem_of_getElem? (i := 11) rfl))) (ty := (.array .byte)) (by decide)
    have F87_length : Fld Z h87 b87 "com/example/bearer/bearer/modem/LineBuffer" "length" "I" (.int (0 : Int32)) := D87 (Or.inl (hw _ (List.mem_of_getElem? (i := 18) rfl))) (ty := .int) (by decide)
    have F87_cut : Fld Z h87 b87 "com/example/bearer/bearer/modem/LineBuffer" "cut" "Z" (.int (0 : Int32)) := D87 (Or.inl (hw _ (List.mem_of_getElem? (i := 20) rfl))) (ty := .boolean) (by decide)
    refine Go.step (st87) ?_
    show Go _ _ _ _ _ _ _ T87 (mkF m 40 #[.val (.int i0), .val (.int i1), .val (.int i2), .val (.int i3), .val (.int i4), .val (.int (4 : Int32)), .val (.ref b82), .unset, .unset, .unset, .unset, .unset, .unset, .unset] [(.ref b87)])
    refine Go.step (fun t k => XS.dup X87.here hx rfl (hb hby at_40) rfl rfl k) ?_
    show Go _ _ _ _ _ _ _ T87 (mkF m 41 #[.val (.int i0), .val (.int i1), .val (.int i2), .val (.int i3), .val (.int i4), .val (.int (4 : Int32)), .val (.ref b82), .unset, .unset, .unset, .unset, .unset, .unset, .unset] [(.ref b87), (.ref b87)])
    refine Go.step (fun t k => XS.iload X87.here hx rfl (hb hby at_41) rfl k) ?_
    show Go _ _ _ _ _ _ _ T87 (mkF m 43 #[.val (.int i0), .val (.int i1), .val (.int i2), .val (.int i3), .val (.int i4), .val (.int (4 : Int32)), .val (.ref b82), .unset, .unset, .unset, .unset, .unset, .unset, .unset] [(.int (4 : Int32)), (.ref b87), (.ref b87)])
    have f90 := (Exa.ext E87 f88)
    obtain ⟨v89, T89, L89, X89, q89, st89⟩ := c_init X87 hx hZ hown (y := (⟨"com/example/bearer/bearer/modem/LineBuffer", "<init>", "(I)V"⟩ : MethodName)) (hw _ (List.mem_of_getElem? (i := 4) rfl)) (hw _ (List.mem_of_getElem? (i := 5) rfl)) (hw _ (List.mem_of_getElem? (i := 3) rfl)) (hw _ (List.mem_of_getElem? (i := 6) rfl)) rfl (by decide) (a := b87) (argsL := [(.int (4 : Int32))]) (rest := [(.ref b87)]) (rmI l Z a0 hw [] b87 4 h87 n0 Z87 (by decide) (by decide) A87 F87_kept F87_length F87_cut gn_b87) e87 pd_1 rfl (by rw [hml]; rfl) (W := 1) (by show 2 * 0 + _ ≤ _; exact Nat.le_of_eq rfl) (by decide) (by decide) (by decide) (by decide) (hb hby at_43) (Ls := #[.val (.int i0), .val (.int i1), .val (.int i2), .val (.int i3), .val (.int i4), .val (.int (4 : Int32)), .val (.ref b82), .unset, .unset, .unset, .unset, .unset, .unset, .unset])
    generalize e89 : T89.heap = h89 at q89
    obtain ⟨rfl, N89q, K89q, b89, sz89, E89q, E89k, F89q0, F89q1, F89q2, V89k⟩ := q89
    have N89 := Fr.app N86 N89q
    have ne_b82_b89 : b82 ≠ b89 := Nat.ne_of_lt (Nat.lt_of_lt_of_le f90.lt sz89)
    have ne_b87_b89 : b87 ≠ b89 := Nat.ne_of_lt (Nat.lt_of_lt_of_le A87.lt sz89)
    have gn_b89 : n0 ≤ b89 := Nat.le_trans Z87 sz89
    have Z89 : n0 ≤ h89.size := Nat.le_trans Z87 K89q.1
    refine Go.step (st89) ?_
    show Go _ _ _ _ _ _ _ T89 (mkF m 46 #[.val (.int i0), .val (.int i1), .val (.int i2), .val (.int i3), .val (.int i4), .val (.int (4 : Int32)), .val (.ref b82), .unset, .unset, .unset, .unset, .unset, .unset, .unset] [(.ref b87)])
    refine Go.step (fun t k => XS.astore X89.here hx rfl (hb hby at_46) rfl rfl (l' := #[.val (.int i0), .val (.int i1), .val (.int i2), .val (.int i3), .val (.int i4), .val (.int (4 : Int32)), .val (.ref b82), .val (.ref b87), .unset, .unset, .unset, .unset, .unset, .unset]) rfl k) ?_
    show Go _ _ _ _ _ _ _ T89 (mkF m 48 #[.val (.int i0), .val (.int i1), .val (.int i2), .val (.int i3), .val (.int i4), .val (.int (4 : Int32)), .val (.ref b82), .val (.ref b87), .unset, .unset, .unset, .unset, .unset, .unset] [])
    refine Go.step (fun t k => XS.aload X89.here hx rfl (hb hby at_48) rfl rfl k) ?_
    show Go _ _ _ _ _ _ _ T89 (mkF m 50 #[.val (.int i0), .val (.int i1), .val (.int i2), .val (.int i3), .val (.int i4), .val (.int (4 : Int32)), .val (.ref b82), .val (.ref b87), .unset, .unset, .unset, .unset, .unset, .unset] [(.ref b87)])
    refine Go.step (fun t k => XS.aload X89.here hx rfl (hb hby at_50) rfl rfl k) ?_
    show Go _ _ _ _ _ _ _ T89 (mkF m 52 #[.val (.int i0), .val (.int i1), .val (.int i2), .val (.int i3), .val (.int i4), .val (.int (4 : Int32)), .val (.ref b82), .val (.ref b87), .unset, .unset, .unset, .unset, .unset, .unset] [(.ref b82), (.ref b87)])
    refine Go.step (fun t k => XS.iconst X89.here hx rfl (hb hby at_52) k) ?_
    show Go _ _ _ _ _ _ _ T89 (mkF m 53 #[.val (.int i0), .val (.int i1), .val (.int i2), .val (.int i3), .val (.int i4), .val (.int (4 : Int32)), .val (.ref b82), .val (.ref b87), .unset, .unset, .unset, .unset, .unset, .unset] [(.int (0 : Int32)), (.ref b82), (.ref b87)])
    have f91 := ((V86.ext E87).keep K89q (ninS ne_b82_b87 nin0))
    refine Go.step (a_bload X89 hx hZ e89 f91 (k := 0) (by decide) (by decide) (x := (nar .byte (i1.toInt8.toInt32))) rfl (hb hby at_53)) ?_
    show Go _ _ _ _ _ _ _ T89 (mkF m 54 #[.val (.int i0), .val (.int i1), .val (.int i2), .val (.int i3), .val (.int i4), .val (.int (4 : Int32)), .val (.ref b82), .val (.ref b87), .unset, .unset, .unset, .unset, .unset, .unset] [(.int (nar .byte (i1.toInt8.toInt32))), (.ref b87)])
    obtain ⟨v92, T92, L92, X92, q92, st92⟩ := c_virt X89 hx hZ hown (y' := (⟨"com/example/bearer/bearer/modem/LineBuffer", "add", "(B)Z"⟩ : MethodName)) (y := (⟨"com/example/bearer/bearer/modem/LineBuffer", "add", "(B)Z"⟩ : MethodName)) (C := "com/example/bearer/bearer/modem/LineBuffer") (hw _ (List.mem_of_getElem? (i := 12) rfl)) (hw _ (List.mem_of_getElem? (i := 13) rfl)) (notFace_of_selects (args := #[]) (mvT hZ (hw _ (List.mem_of_getElem? (i := 15) rfl)))) (hw _ (List.mem_of_getElem? (i := 15) rfl)) (hw _ (List.mem_of_getElem? (i := 14) rfl)) (hw _ (List.mem_of_getElem? (i := 3) rfl)) (hw _ (List.mem_of_getElem? (i := 16) rfl)) (by decide) (a := b87) (argsL := [(.int (nar .byte (i1.toInt8.toInt32)))]) (rest := []) (rmY l Z a0 hw [] b87 b89 4 0 false (fun _ => .int (0 : Int32)) (nar .byte (i1.toInt8.toInt32)) h89 n0 Z89 (by decide) (by decide) (by decide) E89q F89q0 F89q1 F89q2 V89k E89k ne_b87_b89 gn_b87 gn_b89  (by decide)) e89 E89q pd_2 rfl (by rw [hml]; rfl) (W := 0) (by show 2 * 0 + _ ≤ _; exact Nat.le_of_eq rfl) (by decide) (by decide) (by decide) (by decide) (hb hby at_54) (Ls := #[.val (.int i0), .val (.int i1), .val (.int i2), .val (.int i3), .val (.int i4), .val (.int (4 : Int32)), .val (.ref b82), .val (.ref b87), .unset, .unset, .unset, .unset, .unset, .unset])
    generalize e92 : T92.heap = h92 at q92
    obtain ⟨rfl, N92q, K92q, E92q, E92k, F92q0, F92q1, F92q2, V92k⟩ := q92
    have N92 := Fr.app N89 N92q
    have Z92 : n0 ≤ h92.size := Nat.le_trans Z89 K92q.1
    refine Go.step (st92) ?_
    show Go _ _ _ _ _ _ _ T92 (mkF m 57 #[.val (.int i0), .val (.int i1), .val (.int i2), .val (.int i3), .val (.int i4), .val (.int (4 : Int32)), .val (.ref b82), .val (.ref b87), .unset, .unset, .unset, .unset, .unset, .unset] [(.int (0 : Int32))])
    refine Go.step (fun t k => XS.istore X92.here hx rfl (hb hby at_57) rfl (l' := #[.val (.int i0), .val (.int i1), .val (.int i2), .val (.int i3), .val (.int i4), .val (.int (4 : Int32)), .val (.ref b82), .val (.ref b87), .val (.int (0 : Int32)), .unset, .unset, .unset, .unset, .unset]) rfl k) ?_
    show Go _ _ _ _ _ _ _ T92 (mkF m 59 #[.val (.int i0), .val (.int i1), .val (.int i2), .val (.int i3), .val (.int i4), .val (.int (4 : Int32)), .val (.ref b82), .val (.ref b87), .val (.int (0 : Int32)), .unset, .unset, .unset, .unset, .unset] [])
    refine Go.step (fun t k => XS.aload X92.here hx rfl (hb hby at_59) rfl rfl k) ?_
    show Go _ _ _ _ _ _ _ T92 (mkF m 61 #[.val (.int i0), .val (.int i1), .val (.int i2), .val (.int i3), .val (.int i4), .val (.int (4 : Int32)), .val (.ref b82), .val (.ref b87), .val (.int (0 : Int32)), .unset, .unset, .unset, .unset, .unset] [(.ref b87)])
    refine Go.step (fun t k => XS.aload X92.here hx rfl (hb hby at_61) rfl rfl k) ?_
    show Go _ _ _ _ _ _ _ T92 (mkF m 63 #[.val (.int i0), .val (.int i1), .val (.int i2), .val (.int i3), .val (.int i4), .val (.int (4 : Int32)), .val (.ref b82), .val (.ref b87), .val (.int (0 : Int32)), .unset, .unset, .unset, .unset, .unset] [(.ref b82), (.ref b87)])
    refine Go.step (fun t k => XS.iconst X92.here hx rfl (hb hby at_63) k) ?_
    show Go _ _ _ _ _ _ _ T92 (mkF m 64 #[.val (.int i0), .val (.int i1), .val (.int i2), .val (.int i3), .val (.int i4), .val (.int (4 : Int32)), .val (.ref b82), .val (.ref b87), .val (.int (0 : Int32)), .unset, .unset, .unset, .unset, .unset] [(.int (1 : Int32)), (.ref b82), (.ref b87)])
    have f93 := (f91.keep K92q (ninS ne_b82_b87 (ninS ne_b82_b89 nin0)))
    refine Go.step (a_bload X92 hx hZ e92 f93 (k := 1) (by decide) (by decide) (x := (nar .byte (i2.toInt8.toInt32))) rfl (hb hby at_64)) ?_
    show Go _ _ _ _ _ _ _ T92 (mkF m 65 #[.val (.int i0), .val (.int i1), .val (.int i2), .val (.int i3), .val (.int i4), .val (.int (4 : Int32)), .val (.ref b82), .val (.ref b87), .val (.int (0 : Int32)), .unset, .unset, .unset, .unset, .unset] [(.int (nar .byte (i2.toInt8.toInt32))), (.ref b87)])
    obtain ⟨v94, T94, L94, X94, q94, st94⟩ := c_virt X92 hx hZ hown (y' := (⟨"com/example/bearer/bearer/modem/LineBuffer", "add", "(B)Z"⟩ : MethodName)) (y := (⟨"com/example/bearer/bearer/modem/LineBuffer", "add", "(B)Z"⟩ : MethodName)) (C := "com/example/bearer/bearer/modem/LineBuffer") (hw _ (List.mem_of_getElem? (i := 12) rfl)) (hw _ (List.mem_of_getElem? (i := 13) rfl)) (notFace_of_selects (args := #[]) (mvT hZ (hw _ (List.mem_of_getElem? (i := 15) rfl)))) (hw _ (List.mem_of_getElem? (i := 15) rfl)) (hw _ (List.mem_of_getElem? (i := 14) rfl)) (hw _ (List.mem_of_getElem? (i := 3) rfl)) (hw _ (List.mem_of_getElem? (i := 16) rfl)) (by decide) (a := b87) (argsL := [(.int (nar .byte (i2.toInt8.toInt32)))]) (rest := []) (rmY l Z a0 hw [] b87 b89 4 1 false (upd (fun _ => .int (0 : Int32)) 0 (.int (nar .byte (nar .byte (i1.toInt8.toInt32))))) (nar .byte (i2.toInt8.toInt32)) h92 n0 Z92 (by decide) (by decide) (by decide) E92q F92q0 F92q1 F92q2 V92k E92k ne_b87_b89 gn_b87 gn_b89  (by decide)) e92 E92q pd_2 rfl (by rw [hml]; rfl) (W := 0) (by show 2 * 0 + _ ≤ _; exact Nat.le_of_eq rfl) (by decide) (by decide) (by decide) (by decide) (hb hby at_65) (Ls := #[.val (.int i0), .val (.int i1), .val (.int i2), .val (.int i3), .val (.int i4), .val (.int (4 : Int32)), .val (.ref b82), .val (.ref b87), .val (.int (0 : Int32)), .unset, .unset, .unset, .unset, .unset])
    generalize e94 : T94.heap = h94 at q94
    obtain ⟨rfl, N94q, K94q, E94q, E94k, F94q0, F94q1, F94q2, V94k⟩ := q94
    have N94 := Fr.app N92 N94q
    have Z94 : n0 ≤ h94.size := Nat.le_trans Z92 K94q.1
    refine Go.step (st94) ?_
    show Go _ _ _ _ _ _ _ T94 (mkF m 68 #[.val (.int i0), .val (.int i1), .val (.int i2), .val (.int i3), .val (.int i4), .val (.int (4 : Int32)), .val (.ref b82), .val (.ref b87), .val (.int (0 : Int32)), .unset, .unset, .unset, .unset, .unset] [(.int (0 : Int32))])
    refine Go.step (fun t k => XS.istore X94.here hx rfl (hb hby at_68) rfl (l' := #[.val (.int i0), .val (.int i1), .val (.int i2), .val (.int i3), .val (.int i4), .val (.int (4 : Int32)), .val (.ref b82), .val (.ref b87), .val (.int (0 : Int32)), .val (.int (0 : Int32)), .unset, .unset, .unset, .unset]) rfl k) ?_
    show Go _ _ _ _ _ _ _ T94 (mkF m 70 #[.val (.int i0), .val (.int i1), .val (.int i2), .val (.int i3), .val (.int i4), .val (.int (4 : Int32)), .val (.ref b82), .val (.ref b87), .val (.int (0 : Int32)), .val (.int (0 : Int32)), .unset, .unset, .unset, .unset] [])
    refine Go.step (fun t k => XS.aload X94.here hx rfl (hb hby at_70) rfl rfl k) ?_
    show Go _ _ _ _ _ _ _ T94 (mkF m 72 #[.val (.int i0), .val (.int i1), .val (.int i2), .val (.int i3), .val (.int i4), .val (.int (4 : Int32)), .val (.ref b82), .val (.ref b87), .val (.int (0 : Int32)), .val (.int (0 : Int32)), .unset, .unset, .unset, .unset] [(.ref b87)])
    refine Go.step (fun t k => XS.aload X94.here hx rfl (hb hby at_72) rfl rfl k) ?_
    show Go _ _ _ _ _ _ _ T94 (mkF m 74 #[.val (.int i0), .val (.int i1), .val (.int i2), .val (.int i3), .val (.int i4), .val (.int (4 : Int32)), .val (.ref b82), .val (.ref b87), .val (.int (0 : Int32)), .val (.int (0 : Int32)), .unset, .unset, .unset, .unset] [(.ref b82), (.ref b87)])
    refine Go.step (fun t k => XS.iconst X94.here hx rfl (hb hby at_74) k) ?_
    show Go _ _ _ _ _ _ _ T94 (mkF m 75 #[.val (.int i0), .val (.int i1), .val (.int i2), .val (.int i3), .val (.int i4), .val (.int (4 : Int32)), .val (.ref b82), .val (.ref b87), .val (.int (0 : Int32)), .val (.int (0 : Int32)), .unset, .unset, .unset, .unset] [(.int (2 : Int32)), (.ref b82), (.ref b87)])
    have f95 := (f93.keep K94q (ninS ne_b82_b87 (ninS ne_b82_b89 nin0)))
    refine Go.step (a_bload X94 hx hZ e94 f95 (k := 2) (by decide) (by decide) (x := (nar .byte (i3.toInt8.toInt32))) rfl (hb hby at_75)) ?_
    show Go _ _ _ _ _ _ _ T94 (mkF m 76 #[.val (.int i0), .val (.int i1), .val (.int i2), .val (.int i3), .val (.int i4), .val (.int (4 : Int32)), .val (.ref b82), .val (.ref b87), .val (.int (0 : Int32)), .val (.int (0 : Int32)), .unset, .unset, .unset, .unset] [(.int (nar .byte (i3.toInt8.toInt32))), (.ref b87)])
    obtain ⟨v96, T96, L96, X96, q96, st96⟩ := c_virt X94 hx hZ hown (y' := (⟨"com/example/bearer/bearer/modem/LineBuffer", "add", "(B)Z"⟩ : MethodName)) (y := (⟨"com/example/bearer/bearer/modem/LineBuffer", "add", "(B)Z"⟩ : MethodName)) (C := "com/example/bearer/bearer/modem/LineBuffer") (hw _ (List.mem_of_getElem? (i := 12) rfl)) (hw _ (List.mem_of_getElem? (i := 13) rfl)) (notFace_of_selects (args := #[]) (mvT hZ (hw _ (List.mem_of_getElem? (i := 15) rfl)))) (hw _ (List.mem_of_getElem? (i := 15) rfl)) (hw _ (List.mem_of_getElem? (i := 14) rfl)) (hw _ (List.mem_of_getElem? (i := 3) rfl)) (hw _ (List.mem_of_getElem? (i := 16) rfl)) (by decide) (a := b87) (argsL := [(.int (nar .byte (i3.toInt8.toInt32)))]) (rest := []) (rmY l Z a0 hw [] b87 b89 4 2 false (upd (upd (fun _ => .int (0 : Int32)) 0 (.int (nar .byte (nar .byte (i1.toInt8.toInt32))))) 1 (.int (nar .byte (nar .byte (i2.toInt8.toInt32))))) (nar .byte (i3.toInt8.toInt32)) h94 n0 Z94 (by decide) (by decide) (by decide) E94q F94q0 F94q1 F94q2 V94k E94k ne_b87_b89 gn_b87 gn_b89  (by decide)) e94 E94q pd_2 rfl (by rw [hml]; rfl) (W := 0) (by show 2 * 0 + _ ≤ _; exact Nat.le_of_eq rfl) (by decide) (by decide) (by decide) (by decide) (hb hby at_76) (Ls := #[.val (.int i0), .val (.int i1), .val (.int i2), .val (.int i3), .val (.int i4), .val (.int (4 : Int32)), .val (.ref b82), .val (.ref b87), .val (.int (0 : Int32)), .val (.int (0 : Int32)), .unset, .unset, .unset, .unset])
    generalize e96 : T96.heap = h96 at q96
    obtain ⟨rfl, N96q, K96q, E96q, E96k, F96q0, F96q1, F96q2, V96k⟩ := q96
    have N96 := Fr.app N94 N96q
    have Z96 : n0 ≤ h96.size := Nat.le_trans Z94 K96q.1
    refine Go.step (st96) ?_
    show Go _ _ _ _ _ _ _ T96 (mkF m 79 #[.val (.int i0), .val (.int i1), .val (.int i2), .val (.int i3), .val (.int i4), .val (.int (4 : Int32)), .val (.ref b82), .val (.ref b87), .val (.int (0 : Int32)), .val (.int (0 : Int32)), .unset, .unset, .unset, .unset] [(.int (0 : Int32))])
    refine Go.step (fun t k => XS.istore X96.here hx rfl (hb hby at_79) rfl (l' := #[.val (.int i0), .val (.int i1), .val (.int i2), .val (.int i3), .val (.int i4), .val (.int (4 : Int32)), .val (.ref b82), .val (.ref b87), .val (.int (0 : Int32)), .val (.int (0 : Int32)), .val (.int (0 : Int32)), .unset, .unset, .unset]) rfl k) ?_
    show Go _ _ _ _ _ _ _ T96 (mkF m 81 #[.val (.int i0), .val (.int i1), .val (.int i2), .val (.int i3), .val (.int i4), .val (.int (4 : Int32)), .val (.ref b82), .val (.ref b87), .val (.int (0 : Int32)), .val (.int (0 : Int32)), .val (.int (0 : Int32)), .unset, .unset, .unset] [])
    refine Go.step (fun t k => XS.aload X96.here hx rfl (hb hby at_81) rfl rfl k) ?_
    show Go _ _ _ _ _ _ _ T96 (mkF m 83 #[.val (.int i0), .val (.int i1), .val (.int i2), .val (.int i3), .val (.int i4), .val (.int (4 : Int32)), .val (.ref b82), .val (.ref b87), .val (.int (0 : Int32)), .val (.int (0 : Int32)), .val (.int (0 : Int32)), .unset, .unset, .unset] [(.ref b87)])
    refine Go.step (fun t k => XS.aload X96.here hx rfl (hb hby at_83) rfl rfl k) ?_
    show Go _ _ _ _ _ _ _ T96 (mkF m 85 #[.val (.int i0), .val (.int i1), .val (.int i2), .val (.int i3), .val (.int i4), .val (.int (4 : Int32)), .val (.ref b82), .val (.ref b87), .val (.int (0 : Int32)), .val (.int (0 : Int32)), .val (.int (0 : Int32)), .unset, .unset, .unset] [(.ref b82), (.ref b87)])
    refine Go.step (fun t k => XS.iconst X96.here hx rfl (hb hby at_85) k) ?_
    show Go _ _ _ _ _ _ _ T96 (mkF m 86 #[.val (.int i0), .val (.int i1), .val (.int i2), .val (.int i3), .val (.int i4), .val (.int (4 : Int32)), .val (.ref b82), .val (.ref b87), .val (.int (0 : Int32)), .val (.int (0 : Int32)), .val (.int (0 : Int32)), .unset, .unset, .unset] [(.int (3 : Int32)), (.ref b82), (.ref b87)])
    have f97 := (f95.keep K96q (ninS ne_b82_b87 (ninS ne_b82_b89 nin0)))
    refine Go.step (a_bload X96 hx hZ e96 f97 (k := 3) (by decide) (by decide) (x := (nar .byte (i4.toInt8.toInt32))) rfl (hb hby at_86)) ?_
    show Go _ _ _ _ _ _ _ T96 (mkF m 87 #[.val (.int i0), .val (.int i1), .val (.int i2), .val (.int i3), .val (.int i4), .val (.int (4 : Int32)), .val (.ref b82), .val (.ref b87), .val (.int (0 : Int32)), .val (.int (0 : Int32)), .val (.int (0 : Int32)), .unset, .unset, .unset] [(.int (nar .byte (i4.toInt8.toInt32))), (.ref b87)])
    obtain ⟨v98, T98, L98, X98, q98, st98⟩ := c_virt X96 hx hZ hown (y' := (⟨"com/example/bearer/bearer/modem/LineBuffer", "add", "(B)Z"⟩ : MethodName)) (y := (⟨"com/example/bearer/bearer/modem/LineBuffer", "add", "(B)Z"⟩ : MethodName)) (C := "com/example/bearer/bearer/modem/LineBuffer") (hw _ (List.mem_of_getElem? (i := 12) rfl)) (hw _ (List.mem_of_getElem? (i := 13) rfl)) (notFace_of_selects (args := #[]) (mvT hZ (hw _ (List.mem_of_getElem? (i := 15) rfl)))) (hw _ (List.mem_of_getElem? (i := 15) rfl)) (hw _ (List.mem_of_getElem? (i := 14) rfl)) (hw _ (List.mem_of_getElem? (i := 3) rfl)) (hw _ (List.mem_of_getElem? (i := 16) rfl)) (by decide) (a := b87) (argsL := [(.int (nar .byte (i4.toInt8.toInt32)))]) (rest := []) (rmY l Z a0 hw [] b87 b89 4 3 false (upd (upd (upd (fun _ => .int (0 : Int32)) 0 (.int (nar .byte (nar .byte (i1.toInt8.toInt32))))) 1 (.int (nar .byte (nar .byte (i2.toInt8.toInt32))))) 2 (.int (nar .byte (nar .byte (i3.toInt8.toInt32))))) (nar .byte (i4.toInt8.toInt32)) h96 n0 Z96 (by decide) (by decide) (by decide) E96q F96q0 F96q1 F96q2 V96k E96k ne_b87_b89 gn_b87 gn_b89  (by decide)) e96 E96q pd_2 rfl (by rw [hml]; rfl) (W := 0) (by show 2 * 0 + _ ≤ _; exact Nat.le_of_eq rfl) (by decide) (by decide) (by decide) (by decide) (hb hby at_87) (Ls := #[.val (.int i0), .val (.int i1), .val (.int i2), .val (.int i3), .val (.int i4), .val (.int (4 : Int32)), .val (.ref b82), .val (.ref b87), .val (.int (0 : Int32)), .val (.int (0 : Int32)), .val (.int (0 : Int32)), .unset, .unset, .unset])
    generalize e98 : T98.heap = h98 at q98
    obtain ⟨rfl, N98q, K98q, E98q, E98k, F98q0, F98q1, F98q2, V98k⟩ := q98
    have N98 := Fr.app N96 N98q
    have Z98 : n0 ≤ h98.size := Nat.le_trans Z96 K98q.1
    refine Go.step (st98) ?_
    show Go _ _ _ _ _ _ _ T98 (mkF m 90 #[.val (.int i0), .val (.int i1), .val (.int i2), .val (.int i3), .val (.int i4), .val (.int (4 : Int32)), .val (.ref b82), .val (.ref b87), .val (.int (0 : Int32)), .val (.int (0 : Int32)), .val (.int (0 : Int32)), .unset, .unset, .unset] [(.int (0 : Int32))])
    refine Go.step (fun t k => XS.istore X98.here hx rfl (hb hby at_90) rfl (l' := #[.val (.int i0), .val (.int i1), .val (.int i2), .val (.int i3), .val (.int i4), .val (.int (4 : Int32)), .val (.ref b82), .val (.ref b87), .val (.int (0 : Int32)), .val (.int (0 : Int32)), .val (.int (0 : Int32)), .val (.int (0 : Int32)), .unset, .unset]) rfl k) ?_
    show Go _ _ _ _ _ _ _ T98 (mkF m 92 #[.val (.int i0), .val (.int i1), .val (.int i2), .val (.int i3), .val (.int i4), .val (.int (4 : Int32)), .val (.ref b82), .val (.ref b87), .val (.int (0 : Int32)), .val (.int (0 : Int32)), .val (.int (0 : Int32)), .val (.int (0 : Int32)), .unset, .unset] [])
    refine Go.step (fun t k => XS.aload X98.here hx rfl (hb hby at_92) rfl rfl k) ?_
    show Go _ _ _ _ _ _ _ T98 (mkF m 94 #[.val (.int i0), .val (.int i1), .val (.int i2), .val (.int i3), .val (.int i4), .val (.int (4 : Int32)), .val (.ref b82), .val (.ref b87), .val (.int (0 : Int32)), .val (.int (0 : Int32)), .val (.int (0 : Int32)), .val (.int (0 : Int32)), .unset, .unset] [(.ref b87)])
    have f100 := (((((f90.keep K89q).keep K92q).keep K94q).keep K96q).keep K98q)
    have hfit99 : ∀ i, i < 4 → fits .byte ((upd (upd (upd (upd (fun _ => .int (0 : Int32)) 0 (.int (nar .byte (nar .byte (i1.toInt8.toInt32))))) 1 (.int (nar .byte (nar .byte (i2.toInt8.toInt32))))) 2 (.int (nar .byte (nar .byte (i3.toInt8.toInt32))))) 3 (.int (nar .byte (nar .byte (i4.toInt8.toInt32))))) i) = true := fun i hi => by
      rcases (by omega : i = 0 ∨ i = 1 ∨ i = 2 ∨ i = 3) with rfl | rfl | rfl | rfl <;> exact fits_nar_byte _
    obtain ⟨v99, T99, L99, X99, q99, st99⟩ := c_virt X98 hx hZ hown (y' := (⟨"com/example/bearer/bearer/modem/LineBuffer", "toByteArray", "()[B"⟩ : MethodName)) (y := (⟨"com/example/bearer/bearer/modem/LineBuffer", "toByteArray", "()[B"⟩ : MethodName)) (C := "com/example/bearer/bearer/modem/LineBuffer") (hw _ (List.mem_of_getElem? (i := 21) rfl)) (hw _ (List.mem_of_getElem? (i := 22) rfl)) (notFace_of_selects (args := #[]) (mvT hZ (hw _ (List.mem_of_getElem? (i := 24) rfl)))) (hw _ (List.mem_of_getElem? (i := 24) rfl)) (hw _ (List.mem_of_getElem? (i := 23) rfl)) (hw _ (List.mem_of_getElem? (i := 3) rfl)) (hw _ (List.mem_of_getElem? (i := 25) rfl)) (by decide) (a := b87) (argsL := []) (rest := []) (rmB l Z a0 hw [] b87 b89 4 false (upd (upd (upd (upd (fun _ => .int (0 : Int32)) 0 (.int (nar .byte (nar .byte (i1.toInt8.toInt32))))) 1 (.int (nar .byte (nar .byte (i2.toInt8.toInt32))))) 2 (.int (nar .byte (nar .byte (i3.toInt8.toInt32))))) 3 (.int (nar .byte (nar .byte (i4.toInt8.toInt32))))) h98 n0 Z98 (by decide) (by decide) E98q F98q0 F98q1 F98q2 V98k E98k ne_b87_b89 hfit99) e98 E98q pd_3 rfl (by rw [hml]; rfl) (W := 0) (by show 2 * 0 + _ ≤ _; exact Nat.le_of_eq rfl) (by decide) (by decide) (by decide) (by decide) (hb hby at_94) (Ls := #[.val (.int i0), .val (.int i1), .val (.int i2), .val (.int i3), .val (.int i4), .val (.int (4 : Int32)), .val (.ref b82), .val (.ref b87), .val (.int (0 : Int32)), .val (.int (0 : Int32)), .val (.int (0 : Int32)), .val (.int (0 : Int32)), .unset, .unset])
    generalize e99 : T99.heap = h99 at q99
    obtain ⟨b99, rfl, N99q, K99q, sz99, V99k⟩ := q99
    have N99 := Fr.app N98 N99q
    have ne_b82_b99 : b82 ≠ b99 := Nat.ne_of_lt (Nat.lt_of_lt_of_le f100.lt sz99)
    have ne_b87_b99 : b87 ≠ b99 := Nat.ne_of_lt (Nat.lt_of_lt_of_le E98q.lt sz99)
    have ne_b89_b99 : b89 ≠ b99 := Nat.ne_of_lt (Nat.lt_of_lt_of_le E98k.lt sz99)
    have gn_b99 : n0 ≤ b99 := Nat.le_trans Z98 sz99
    have Z99 : n0 ≤ h99.size := Nat.le_trans Z98 K99q.1
    refine Go.step (st99) ?_
    show Go _ _ _ _ _ _ _ T99 (mkF m 97 #[.val (.int i0), .val (.int i1), .val (.int i2), .val (.int i3), .val (.int i4), .val (.int (4 : Int32)), .val (.ref b82), .val (.ref b87), .val (.int (0 : Int32)), .val (.int (0 : Int32)), .val (.int (0 : Int32)), .val (.int (0 : Int32)), .unset, .unset] [(.ref b99)])
    refine Go.step (fun t k => XS.astore X99.here hx rfl (hb hby at_97) rfl rfl (l' := #[.val (.int i0), .val (.int i1), .val (.int i2), .val (.int i3), .val (.int i4), .val (.int (4 : Int32)), .val (.ref b82), .val (.ref b87), .val (.int (0 : Int32)), .val (.int (0 : Int32)), .val (.int (0 : Int32)), .val (.int (0 : Int32)), .val (.ref b99), .unset]) rfl k) ?_
    show Go _ _ _ _ _ _ _ T99 (mkF m 99 #[.val (.int i0), .val (.int i1), .val (.int i2), .val (.int i3), .val (.int i4), .val (.int (4 : Int32)), .val (.ref b82), .val (.ref b87), .val (.int (0 : Int32)), .val (.int (0 : Int32)), .val (.int (0 : Int32)), .val (.int (0 : Int32)), .val (.ref b99), .unset] [])
    refine Go.step (fun t k => XS.aload X99.here hx rfl (hb hby at_99) rfl rfl k) ?_
    show Go _ _ _ _ _ _ _ T99 (mkF m 101 #[.val (.int i0), .val (.int i1), .val (.int i2), .val (.int i3), .val (.int i4), .val (.int (4 : Int32)), .val (.ref b82), .val (.ref b87), .val (.int (0 : Int32)), .val (.int (0 : Int32)), .val (.int (0 : Int32)), .val (.int (0 : Int32)), .val (.ref b99), .unset] [(.ref b87)])
    have f102 := (E98q.keep K99q)
    have f103 := (F98q0.keep K99q nin0)
    have f104 := (F98q1.keep K99q nin0)
    have f105 := (F98q2.keep K99q nin0)
    have f106 := (V98k.keep K99q nin0)
    have f107 := (E98k.keep K99q)
    obtain ⟨v101, T101, L101, X101, q101, st101⟩ := c_virt X99 hx hZ hown (y' := (⟨"com/example/bearer/bearer/modem/LineBuffer", "isCut", "()Z"⟩ : MethodName)) (y := (⟨"com/example/bearer/bearer/modem/LineBuffer", "isCut", "()Z"⟩ : MethodName)) (C := "com/example/bearer/bearer/modem/LineBuffer") (hw _ (List.mem_of_getElem? (i := 39) rfl)) (hw _ (List.mem_of_getElem? (i := 40) rfl)) (notFace_of_selects (args := #[]) (mvT hZ (hw _ (List.mem_of_getElem? (i := 42) rfl)))) (hw _ (List.mem_of_getElem? (i := 42) rfl)) (hw _ (List.mem_of_getElem? (i := 41) rfl)) (hw _ (List.mem_of_getElem? (i := 3) rfl)) (hw _ (List.mem_of_getElem? (i := 43) rfl)) (by decide) (a := b87) (argsL := []) (rest := []) (rmQ l Z a0 hw [] b87 b89 4 4 false (upd (upd (upd (upd (fun _ => .int (0 : Int32)) 0 (.int (nar .byte (nar .byte (i1.toInt8.toInt32))))) 1 (.int (nar .byte (nar .byte (i2.toInt8.toInt32))))) 2 (.int (nar .byte (nar .byte (i3.toInt8.toInt32))))) 3 (.int (nar .byte (nar .byte (i4.toInt8.toInt32))))) h99 n0 Z99 (by decide) (by decide) (by decide) f102 f103 f104 f105 f106 f107 ne_b87_b89) e99 f102 pd_4 rfl (by rw [hml]; rfl) (W := 0) (by show 2 * 0 + _ ≤ _; exact Nat.le_of_eq rfl) (by decide) (by decide) (by decide) (by decide) (hb hby at_101) (Ls := #[.val (.int i0), .val (.int i1), .val (.int i2), .val (.int i3), .val (.int i4), .val (.int (4 : Int32)), .val (.ref b82), .val (.ref b87), .val (.int (0 : Int32)), .val (.int (0 : Int32)), .val (.int (0 : Int32)), .val (.int (0 : Int32)), .val (.ref b99), .unset])
    obtain ⟨rfl, rfl, e101⟩ := q101
    have N101 := Fr.app N99 (Fr.nil n0)
    refine Go.step (st101) ?_
    show Go _ _ _ _ _ _ _ T101 (mkF m 104 #[.val (.int i0), .val (.int i1), .val (.int i2), .val (.int i3), .val (.int i4), .val (.int (4 : Int32)), .val (.ref b82), .val (.ref b87), .val (.int (0 : Int32)), .val (.int (0 : Int32)), .val (.int (0 : Int32)), .val (.int (0 : Int32)), .val (.ref b99), .unset] [(.int (bi (false = true)))])
    refine Go.step (fun t k => XS.istore X101.here hx rfl (hb hby at_104) rfl (l' := #[.val (.int i0), .val (.int i1), .val (.int i2), .val (.int i3), .val (.int i4), .val (.int (4 : Int32)), .val (.ref b82), .val (.ref b87), .val (.int (0 : Int32)), .val (.int (0 : Int32)), .val (.int (0 : Int32)), .val (.int (0 : Int32)), .val (.ref b99), .val (.int (bi (false = true)))]) rfl k) ?_
    show Go _ _ _ _ _ _ _ T101 (mkF m 106 #[.val (.int i0), .val (.int i1), .val (.int i2), .val (.int i3), .val (.int i4), .val (.int (4 : Int32)), .val (.ref b82), .val (.ref b87), .val (.int (0 : Int32)), .val (.int (0 : Int32)), .val (.int (0 : Int32)), .val (.int (0 : Int32)), .val (.ref b99), .val (.int (bi (false = true)))] [])
    refine Go.step (fun t k => XS.iload X101.here hx rfl (hb hby at_106) rfl k) ?_
    show Go _ _ _ _ _ _ _ T101 (mkF m 108 #[.val (.int i0), .val (.int i1), .val (.int i2), .val (.int i3), .val (.int i4), .val (.int (4 : Int32)), .val (.ref b82), .val (.ref b87), .val (.int (0 : Int32)), .val (.int (0 : Int32)), .val (.int (0 : Int32)), .val (.int (0 : Int32)), .val (.ref b99), .val (.int (bi (false = true)))] [(.int (0 : Int32))])
    refine Go.step (fun t k => XS.ifYes X101.here hx rfl (pc0 := 108) (pc' := 113) rfl (hb hby at_108) rfl ((if0 _ _).trans (teq (by decide)).1) (by decide) (by decide) k) ?_
    show Go _ _ _ _ _ _ _ T101 (mkF m 113 #[.val (.int i0), .val (.int i1), .val (.int i2), .val (.int i3), .val (.int i4), .val (.int (4 : Int32)), .val (.ref b82), .val (.ref b87), .val (.int (0 : Int32)), .val (.int (0 : Int32)), .val (.int (0 : Int32)), .val (.int (0 : Int32)), .val (.ref b99), .val (.int (bi (false = true)))] [])
    refine Go.step (fun t k => XS.iload X101.here hx rfl (hb hby at_113) rfl k) ?_
    show Go _ _ _ _ _ _ _ T101 (mkF m 115 #[.val (.int i0), .val (.int i1), .val (.int i2), .val (.int i3), .val (.int i4), .val (.int (4 : Int32)), .val (.ref b82), .val (.ref b87), .val (.int (0 : Int32)), .val (.int (0 : Int32)), .val (.int (0 : Int32)), .val (.int (0 : Int32)), .val (.ref b99), .val (.int (bi (false = true)))] [(.int (0 : Int32))])
    refine Go.step (fun t k => XS.iload X101.here hx rfl (hb hby at_115) rfl k) ?_
    show Go _ _ _ _ _ _ _ T101 (mkF m 117 #[.val (.int i0), .val (.int i1), .val (.int i2), .val (.int i3), .val (.int i4), .val (.int (4 : Int32)), .val (.ref b82), .val (.ref b87), .val (.int (0 : Int32)), .val (.int (0 : Int32)), .val (.int (0 : Int32)), .val (.int (0 : Int32)), .val (.ref b99), .val (.int (bi (false = true)))] [(.int (4 : Int32)), (.int (0 : Int32))])
    refine Go.step (fun t k => XS.iconst X101.here hx rfl (hb hby at_117) k) ?_
    show Go _ _ _ _ _ _ _ T101 (mkF m 118 #[.val (.int i0), .val (.int i1), .val (.int i2), .val (.int i3), .val (.int i4), .val (.int (4 : Int32)), .val (.ref b82), .val (.ref b87), .val (.int (0 : Int32)), .val (.int (0 : Int32)), .val (.int (0 : Int32)), .val (.int (0 : Int32)), .val (.ref b99), .val (.int (bi (false = true)))] [(.int (1 : Int32)), (.int (4 : Int32)), (.int (0 : Int32))])
    refine Go.step (fun t k => XS.icmpYes X101.here hx rfl (pc0 := 118) (pc' := 125) rfl (hb hby at_118) rfl (feq (by decide)).2 (by decide) (by decide) k) ?_
    show Go _ _ _ _ _ _ _ T101 (mkF m 125 #[.val (.int i0), .val (.int i1), .val (.int i2), .val (.int i3), .val (.int i4), .val (.int (4 : Int32)), .val (.ref b82), .val (.ref b87), .val (.int (0 : Int32)), .val (.int (0 : Int32)), .val (.int (0 : Int32)), .val (.int (0 : Int32)), .val (.ref b99), .val (.int (bi (false = true)))] [(.int (0 : Int32))])
    refine Go.step (fun t k => XS.iconst X101.here hx rfl (hb hby at_125) k) ?_
    show Go _ _ _ _ _ _ _ T101 (mkF m 126 #[.val (.int i0), .val (.int i1), .val (.int i2), .val (.int i3), .val (.int i4), .val (.int (4 : Int32)), .val (.ref b82), .val (.ref b87), .val (.int (0 : Int32)), .val (.int (0 : Int32)), .val (.int (0 : Int32)), .val (.int (0 : Int32)), .val (.ref b99), .val (.int (bi (false = true)))] [(.int (0 : Int32)), (.int (0 : Int32))])
    refine Go.step (fun t k => XS.icmpYes X101.here hx rfl (pc0 := 126) (pc' := 131) rfl (hb hby at_126) rfl (teq (by decide)).1 (by decide) (by decide) k) ?_
    show Go _ _ _ _ _ _ _ T101 (mkF m 131 #[.val (.int i0), .val (.int i1), .val (.int i2), .val (.int i3), .val (.int i4), .val (.int (4 : Int32)), .val (.ref b82), .val (.ref b87), .val (.int (0 : Int32)), .val (.int (0 : Int32)), .val (.int (0 : Int32)), .val (.int (0 : Int32)), .val (.ref b99), .val (.int (bi (false = true)))] [])
    refine Go.step (fun t k => XS.iload X101.here hx rfl (hb hby at_131) rfl k) ?_
    show Go _ _ _ _ _ _ _ T101 (mkF m 133 #[.val (.int i0), .val (.int i1), .val (.int i2), .val (.int i3), .val (.int i4), .val (.int (4 : Int32)), .val (.ref b82), .val (.ref b87), .val (.int (0 : Int32)), .val (.int (0 : Int32)), .val (.int (0 : Int32)), .val (.int (0 : Int32)), .val (.ref b99), .val (.int (bi (false = true)))] [(.int (0 : Int32))])
    refine Go.step (fun t k => XS.iload X101.here hx rfl (hb hby at_133) rfl k) ?_
    show Go _ _ _ _ _ _ _ T101 (mkF m 135 #[.val (.int i0), .val (.int i1), .val (.int i2), .val (.int i3), .val (.int i4), .val (.int (4 : Int32)), .val (.ref b82), .val (.ref b87), .val (.int (0 : Int32)), .val (.int (0 : Int32)), .val (.int (0 : Int32)), .val (.int (0 : Int32)), .val (.ref b99), .val (.int (bi (false = true)))] [(.int (4 : Int32)), (.int (0 : Int32))])
    refine Go.step (fun t k => XS.iconst X101.here hx rfl (hb hby at_135) k) ?_
    show Go _ _ _ _ _ _ _ T101 (mkF m 136 #[.val (.int i0), .val (.int i1), .val (.int i2), .val (.int i3), .val (.int i4), .val (.int (4 : Int32)), .val (.ref b82), .val (.ref b87), .val (.int (0 : Int32)), .val (.int (0 : Int32)), .val (.int (0 : Int32)), .val (.int (0 : Int32)), .val (.ref b99), .val (.int (bi (false = true)))] [(.int (2 : Int32)), (.int (4 : Int32)), (.int (0 : Int32))])
    refine Go.step (fun t k => XS.icmpYes X101.here hx rfl (pc0 := 136) (pc' := 143) rfl (hb hby at_136) rfl (feq (by decide)).2 (by decide) (by decide) k) ?_
    show Go _ _ _ _ _ _ _ T101 (mkF m 143 #[.val (.int i0), .val (.int i1), .val (.int i2), .val (.int i3), .val (.int i4), .val (.int (4 : Int32)), .val (.ref b82), .val (.ref b87), .val (.int (0 : Int32)), .val (.int (0 : Int32)), .val (.int (0 : Int32)), .val (.int (0 : Int32)), .val (.ref b99), .val (.int (bi (false = true)))] [(.int (0 : Int32))])
    refine Go.step (fun t k => XS.iconst X101.here hx rfl (hb hby at_143) k) ?_
    show Go _ _ _ _ _ _ _ T101 (mkF m 144 #[.val (.int i0), .val (.int i1), .val (.int i2), .val (.int i3), .val (.int i4), .val (.int (4 : Int32)), .val (.ref b82), .val (.ref b87), .val (.int (0 : Int32)), .val (.int (0 : Int32)), .val (.int (0 : Int32)), .val (.int (0 : Int32)), .val (.ref b99), .val (.int (bi (false = true)))] [(.int (0 : Int32)), (.int (0 : Int32))])
    refine Go.step (fun t k => XS.icmpYes X101.here hx rfl (pc0 := 144) (pc' := 149) rfl (hb hby at_144) rfl (teq (by decide)).1 (by decide) (by decide) k) ?_
    show Go _ _ _ _ _ _ _ T101 (mkF m 149 #[.val (.int i0), .val (.int i1), .val (.int i2), .val (.int i3), .val (.int i4), .val (.int (4 : Int32)), .val (.ref b82), .val (.ref b87), .val (.int (0 : Int32)), .val (.int (0 : Int32)), .val (.int (0 : Int32)), .val (.int (0 : Int32)), .val (.ref b99), .val (.int (bi (false = true)))] [])
    refine Go.step (fun t k => XS.iload X101.here hx rfl (hb hby at_149) rfl k) ?_
    show Go _ _ _ _ _ _ _ T101 (mkF m 151 #[.val (.int i0), .val (.int i1), .val (.int i2), .val (.int i3), .val (.int i4), .val (.int (4 : Int32)), .val (.ref b82), .val (.ref b87), .val (.int (0 : Int32)), .val (.int (0 : Int32)), .val (.int (0 : Int32)), .val (.int (0 : Int32)), .val (.ref b99), .val (.int (bi (false = true)))] [(.int (0 : Int32))])
    refine Go.step (fun t k => XS.iload X101.here hx rfl (hb hby at_151) rfl k) ?_
    show Go _ _ _ _ _ _ _ T101 (mkF m 153 #[.val (.int i0), .val (.int i1), .val (.int i2), .val (.int i3), .val (.int i4), .val (.int (4 : Int32)), .val (.ref b82), .val (.ref b87), .val (.int (0 : Int32)), .val (.int (0 : Int32)), .val (.int (0 : Int32)), .val (.int (0 : Int32)), .val (.ref b99), .val (.int (bi (false = true)))] [(.int (4 : Int32)), (.int (0 : Int32))])
    refine Go.step (fun t k => XS.iconst X101.here hx rfl (hb hby at_153) k) ?_
    show Go _ _ _ _ _ _ _ T101 (mkF m 154 #[.val (.int i0), .val (.int i1), .val (.int i2), .val (.int i3), .val (.int i4), .val (.int (4 : Int32)), .val (.ref b82), .val (.ref b87), .val (.int (0 : Int32)), .val (.int (0 : Int32)), .val (.int (0 : Int32)), .val (.int (0 : Int32)), .val (.ref b99), .val (.int (bi (false = true)))] [(.int (3 : Int32)), (.int (4 : Int32)), (.int (0 : Int32))])
    refine Go.step (fun t k => XS.icmpYes X101.here hx rfl (pc0 := 154) (pc' := 161) rfl (hb hby at_154) rfl (feq (by decide)).2 (by decide) (by decide) k) ?_
    show Go _ _ _ _ _ _ _ T101 (mkF m 161 #[.val (.int i0), .val (.int i1), .val (.int i2), .val (.int i3), .val (.int i4), .val (.int (4 : Int32)), .val (.ref b82), .val (.ref b87), .val (.int (0 : Int32)), .val (.int (0 : Int32)), .val (.int (0 : Int32)), .val (.int (0 : Int32)), .val (.ref b99), .val (.int (bi (false = true)))] [(.int (0 : Int32))])
    refine Go.step (fun t k => XS.iconst X101.here hx rfl (hb hby at_161) k) ?_
    show Go _ _ _ _ _ _ _ T101 (mkF m 162 #[.val (.int i0), .val (.int i1), .val (.int i2), .val (.int i3), .val (.int i4), .val (.int (4 : Int32)), .val (.ref b82), .val (.ref b87), .val (.int (0 : Int32)), .val (.int (0 : Int32)), .val (.int (0 : Int32)), .val (.int (0 : Int32)), .val (.ref b99), .val (.int (bi (false = true)))] [(.int (0 : Int32)), (.int (0 : Int32))])
    refine Go.step (fun t k => XS.icmpYes X101.here hx rfl (pc0 := 162) (pc' := 167) rfl (hb hby at_162) rfl (teq (by decide)).1 (by decide) (by decide) k) ?_
    show Go _ _ _ _ _ _ _ T101 (mkF m 167 #[.val (.int i0), .val (.int i1), .val (.int i2), .val (.int i3), .val (.int i4), .val (.int (4 : Int32)), .val (.ref b82), .val (.ref b87), .val (.int (0 : Int32)), .val (.int (0 : Int32)), .val (.int (0 : Int32)), .val (.int (0 : Int32)), .val (.ref b99), .val (.int (bi (false = true)))] [])
    refine Go.step (fun t k => XS.iload X101.here hx rfl (hb hby at_167) rfl k) ?_
    show Go _ _ _ _ _ _ _ T101 (mkF m 169 #[.val (.int i0), .val (.int i1), .val (.int i2), .val (.int i3), .val (.int i4), .val (.int (4 : Int32)), .val (.ref b82), .val (.ref b87), .val (.int (0 : Int32)), .val (.int (0 : Int32)), .val (.int (0 : Int32)), .val (.int (0 : Int32)), .val (.ref b99), .val (.int (bi (false = true)))] [(.int (bi (false = true)))])
    refine Go.step (fun t k => XS.iload X101.here hx rfl (hb hby at_169) rfl k) ?_
    show Go _ _ _ _ _ _ _ T101 (mkF m 171 #[.val (.int i0), .val (.int i1), .val (.int i2), .val (.int i3), .val (.int i4), .val (.int (4 : Int32)), .val (.ref b82), .val (.ref b87), .val (.int (0 : Int32)), .val (.int (0 : Int32)), .val (.int (0 : Int32)), .val (.int (0 : Int32)), .val (.ref b99), .val (.int (bi (false = true)))] [(.int (4 : Int32)), (.int (bi (false = true)))])
    refine Go.step (fun t k => XS.iconst X101.here hx rfl (hb hby at_171) k) ?_
    show Go _ _ _ _ _ _ _ T101 (mkF m 172 #[.val (.int i0), .val (.int i1), .val (.int i2), .val (.int i3), .val (.int i4), .val (.int (4 : Int32)), .val (.ref b82), .val (.ref b87), .val (.int (0 : Int32)), .val (.int (0 : Int32)), .val (.int (0 : Int32)), .val (.int (0 : Int32)), .val (.ref b99), .val (.int (bi (false = true)))] [(.int (4 : Int32)), (.int (4 : Int32)), (.int (bi (false = true)))])
    refine Go.step (fun t k => XS.icmpYes X101.here hx rfl (pc0 := 172) (pc' := 179) rfl (hb hby at_172) rfl (flt (by decide)).2.1 (by decide) (by decide) k) ?_
    show Go _ _ _ _ _ _ _ T101 (mkF m 179 #[.val (.int i0), .val (.int i1), .val (.int i2), .val (.int i3), .val (.int i4), .val (.int (4 : Int32)), .val (.ref b82), .val (.ref b87), .val (.int (0 : Int32)), .val (.int (0 : Int32)), .val (.int (0 : Int32)), .val (.int (0 : Int32)), .val (.ref b99), .val (.int (bi (false = true)))] [(.int (bi (false = true)))])
    refine Go.step (fun t k => XS.iconst X101.here hx rfl (hb hby at_179) k) ?_
    show Go _ _ _ _ _ _ _ T101 (mkF m 180 #[.val (.int i0), .val (.int i1), .val (.int i2), .val (.int i3), .val (.int i4), .val (.int (4 : Int32)), .val (.ref b82), .val (.ref b87), .val (.int (0 : Int32)), .val (.int (0 : Int32)), .val (.int (0 : Int32)), .val (.int (0 : Int32)), .val (.ref b99), .val (.int (bi (false = true)))] [(.int (0 : Int32)), (.int (bi (false = true)))])
    refine Go.step (fun t k => XS.icmpYes X101.here hx rfl (pc0 := 180) (pc' := 185) rfl (hb hby at_180) rfl (teq (bi_f (by decide))).1 (by decide) (by decide) k) ?_
    show Go _ _ _ _ _ _ _ T101 (mkF m 185 #[.val (.int i0), .val (.int i1), .val (.int i2), .val (.int i3), .val (.int i4), .val (.int (4 : Int32)), .val (.ref b82), .val (.ref b87), .val (.int (0 : Int32)), .val (.int (0 : Int32)), .val (.int (0 : Int32)), .val (.int (0 : Int32)), .val (.ref b99), .val (.int (bi (false = true)))] [])
    refine Go.step (fun t k => XS.aload X101.here hx rfl (hb hby at_185) rfl rfl k) ?_
    show Go _ _ _ _ _ _ _ T101 (mkF m 187 #[.val (.int i0), .val (.int i1), .val (.int i2), .val (.int i3), .val (.int i4), .val (.int (4 : Int32)), .val (.ref b82), .val (.ref b87), .val (.int (0 : Int32)), .val (.int (0 : Int32)), .val (.int (0 : Int32)), .val (.int (0 : Int32)), .val (.ref b99), .val (.int (bi (false = true)))] [(.ref b99)])
    refine Go.step (a_len X101 hx hZ e101 V99k (z := (4 : Int32)) (by decide) (hb hby at_187)) ?_
    show Go _ _ _ _ _ _ _ T101 (mkF m 188 #[.val (.int i0), .val (.int i1), .val (.int i2), .val (.int i3), .val (.int i4), .val (.int (4 : Int32)), .val (.ref b82), .val (.ref b87), .val (.int (0 : Int32)), .val (.int (0 : Int32)), .val (.int (0 : Int32)), .val (.int (0 : Int32)), .val (.ref b99), .val (.int (bi (false = true)))] [(.int (4 : Int32))])
    refine Go.step (fun t k => XS.iload X101.here hx rfl (hb hby at_188) rfl k) ?_
    show Go _ _ _ _ _ _ _ T101 (mkF m 190 #[.val (.int i0), .val (.int i1), .val (.int i2), .val (.int i3), .val (.int i4), .val (.int (4 : Int32)), .val (.ref b82), .val (.ref b87), .val (.int (0 : Int32)), .val (.int (0 : Int32)), .val (.int (0 : Int32)), .val (.int (0 : Int32)), .val (.ref b99), .val (.int (bi (false = true)))] [(.int (4 : Int32)), (.int (4 : Int32))])
    refine Go.step (fun t k => XS.icmpYes X101.here hx rfl (pc0 := 190) (pc' := 195) rfl (hb hby at_190) rfl (teq (by decide)).1 (by decide) (by decide) k) ?_
    show Go _ _ _ _ _ _ _ T101 (mkF m 195 #[.val (.int i0), .val (.int i1), .val (.int i2), .val (.int i3), .val (.int i4), .val (.int (4 : Int32)), .val (.ref b82), .val (.ref b87), .val (.int (0 : Int32)), .val (.int (0 : Int32)), .val (.int (0 : Int32)), .val (.int (0 : Int32)), .val (.ref b99), .val (.int (bi (false = true)))] [])
    refine Go.step (fun t k => XS.aload X101.here hx rfl (hb hby at_195) rfl rfl k) ?_
    show Go _ _ _ _ _ _ _ T101 (mkF m 197 #[.val (.int i0), .val (.int i1), .val (.int i2), .val (.int i3), .val (.int i4), .val (.int (4 : Int32)), .val (.ref b82), .val (.ref b87), .val (.int (0 : Int32)), .val (.int (0 : Int32)), .val (.int (0 : Int32)), .val (.int (0 : Int32)), .val (.ref b99), .val (.int (bi (false = true)))] [(.ref b99)])
    refine Go.step (fun t k => XS.iconst X101.here hx rfl (hb hby at_197) k) ?_
    show Go _ _ _ _ _ _ _ T101 (mkF m 198 #[.val (.int i0), .val (.int i1), .val (.int i2), .val (.int i3), .val (.int i4), .val (.int (4 : Int32)), .val (.ref b82), .val (.ref b87), .val (.int (0 : Int32)), .val (.int (0 : Int32)), .val (.int (0 : Int32)), .val (.int (0 : Int32)), .val (.ref b99), .val (.int (bi (false = true)))] [(.int (0 : Int32)), (.ref b99)])
    refine Go.step (a_bload X101 hx hZ e101 V99k (k := 0) (by decide) (by decide) (x := (nar .byte (nar .byte (i1.toInt8.toInt32)))) rfl (hb hby at_198)) ?_
    show Go _ _ _ _ _ _ _ T101 (mkF m 199 #[.val (.int i0), .val (.int i1), .val (.int i2), .val (.int i3), .val (.int i4), .val (.int (4 : Int32)), .val (.ref b82), .val (.ref b87), .val (.int (0 : Int32)), .val (.int (0 : Int32)), .val (.int (0 : Int32)), .val (.int (0 : Int32)), .val (.ref b99), .val (.int (bi (false = true)))] [(.int (nar .byte (nar .byte (i1.toInt8.toInt32))))])
    refine Go.step (fun t k => XS.aload X101.here hx rfl (hb hby at_199) rfl rfl k) ?_
    show Go _ _ _ _ _ _ _ T101 (mkF m 201 #[.val (.int i0), .val (.int i1), .val (.int i2), .val (.int i3), .val (.int i4), .val (.int (4 : Int32)), .val (.ref b82), .val (.ref b87), .val (.int (0 : Int32)), .val (.int (0 : Int32)), .val (.int (0 : Int32)), .val (.int (0 : Int32)), .val (.ref b99), .val (.int (bi (false = true)))] [(.ref b82), (.int (nar .byte (nar .byte (i1.toInt8.toInt32))))])
    refine Go.step (fun t k => XS.iconst X101.here hx rfl (hb hby at_201) k) ?_
    show Go _ _ _ _ _ _ _ T101 (mkF m 202 #[.val (.int i0), .val (.int i1), .val (.int i2), .val (.int i3), .val (.int i4), .val (.int (4 : Int32)), .val (.ref b82), .val (.ref b87), .val (.int (0 : Int32)), .val (.int (0 : Int32)), .val (.int (0 : Int32)), .val (.int (0 : Int32)), .val (.ref b99), .val (.int (bi (false = true)))] [(.int (0 : Int32)), (.ref b82), (.int (nar .byte (nar .byte (i1.toInt8.toInt32))))])
    have f108 := ((f97.keep K98q (ninS ne_b82_b87 (ninS ne_b82_b89 nin0))).keep K99q nin0)
    refine Go.step (a_bload X101 hx hZ e101 f108 (k := 0) (by decide) (by decide) (x := (nar .byte (i1.toInt8.toInt32))) rfl (hb hby at_202)) ?_
    show Go _ _ _ _ _ _ _ T101 (mkF m 203 #[.val (.int i0), .val (.int i1), .val (.int i2), .val (.int i3), .val (.int i4), .val (.int (4 : Int32)), .val (.ref b82), .val (.ref b87), .val (.int (0 : Int32)), .val (.int (0 : Int32)), .val (.int (0 : Int32)), .val (.int (0 : Int32)), .val (.ref b99), .val (.int (bi (false = true)))] [(.int (nar .byte (i1.toInt8.toInt32))), (.int (nar .byte (nar .byte (i1.toInt8.toInt32))))])
    refine Go.step (fun t k => XS.icmpYes X101.here hx rfl (pc0 := 203) (pc' := 208) rfl (hb hby at_203) rfl (teq (own_nar _)).1 (by decide) (by decide) k) ?_
    show Go _ _ _ _ _ _ _ T101 (mkF m 208 #[.val (.int i0), .val (.int i1), .val (.int i2), .val (.int i3), .val (.int i4), .val (.int (4 : Int32)), .val (.ref b82), .val (.ref b87), .val (.int (0 : Int32)), .val (.int (0 : Int32)), .val (.int (0 : Int32)), .val (.int (0 : Int32)), .val (.ref b99), .val (.int (bi (false = true)))] [])
    refine Go.step (fun t k => XS.iload X101.here hx rfl (hb hby at_208) rfl k) ?_
    show Go _ _ _ _ _ _ _ T101 (mkF m 210 #[.val (.int i0), .val (.int i1), .val (.int i2), .val (.int i3), .val (.int i4), .val (.int (4 : Int32)), .val (.ref b82), .val (.ref b87), .val (.int (0 : Int32)), .val (.int (0 : Int32)), .val (.int (0 : Int32)), .val (.int (0 : Int32)), .val (.ref b99), .val (.int (bi (false = true)))] [(.int (4 : Int32))])
    refine Go.step (fun t k => XS.iconst X101.here hx rfl (hb hby at_210) k) ?_
    show Go _ _ _ _ _ _ _ T101 (mkF m 211 #[.val (.int i0), .val (.int i1), .val (.int i2), .val (.int i3), .val (.int i4), .val (.int (4 : Int32)), .val (.ref b82), .val (.ref b87), .val (.int (0 : Int32)), .val (.int (0 : Int32)), .val (.int (0 : Int32)), .val (.int (0 : Int32)), .val (.ref b99), .val (.int (bi (false = true)))] [(.int (2 : Int32)), (.int (4 : Int32))])
    refine Go.step (fun t k => XS.icmpNo X101.here hx rfl (hb hby at_211) rfl (flt (by decide)).1 k) ?_
    show Go _ _ _ _ _ _ _ T101 (mkF m 214 #[.val (.int i0), .val (.int i1), .val (.int i2), .val (.int i3), .val (.int i4), .val (.int (4 : Int32)), .val (.ref b82), .val (.ref b87), .val (.int (0 : Int32)), .val (.int (0 : Int32)), .val (.int (0 : Int32)), .val (.int (0 : Int32)), .val (.ref b99), .val (.int (bi (false = true)))] [])
    refine Go.step (fun t k => XS.aload X101.here hx rfl (hb hby at_214) rfl rfl k) ?_
    show Go _ _ _ _ _ _ _ T101 (mkF m 216 #[.val (.int i0), .val (.int i1), .val (.int i2), .val (.int i3), .val (.int i4), .val (.int (4 : Int32)), .val (.ref b82), .val (.ref b87), .val (.int (0 : Int32)), .val (.int (0 : Int32)), .val (.int (0 : Int32)), .val (.int (0 : Int32)), .val (.ref b99), .val (.int (bi (false = true)))] [(.ref b99)])
    refine Go.step (fun t k => XS.iconst X101.here hx rfl (hb hby at_216) k) ?_
    show Go _ _ _ _ _ _ _ T101 (mkF m 217 #[.val (.int i0), .val (.int i1), .val (.int i2), .val (.int i3), .val (.int i4), .val (.int (4 : Int32)), .val (.ref b82), .val (.ref b87), .val (.int (0 : Int32)), .val (.int (0 : Int32)), .val (.int (0 : Int32)), .val (.int (0 : Int32)), .val (.ref b99), .val (.int (bi (false = true)))] [(.int (1 : Int32)), (.ref b99)])
    refine Go.step (a_bload X101 hx hZ e101 V99k (k := 1) (by decide) (by decide) (x := (nar .byte (nar .byte (i2.toInt8.toInt32)))) rfl (hb hby at_217)) ?_
    show Go _ _ _ _ _ _ _ T101 (mkF m 218 #[.val (.int i0), .val (.int i1), .val (.int i2), .val (.int i3), .val (.int i4), .val (.int (4 : Int32)), .val (.ref b82), .val (.ref b87), .val (.int (0 : Int32)), .val (.int (0 : Int32)), .val (.int (0 : Int32)), .val (.int (0 : Int32)), .val (.ref b99), .val (.int (bi (false = true)))] [(.int (nar .byte (nar .byte (i2.toInt8.toInt32))))])
    refine Go.step (fun t k => XS.aload X101.here hx rfl (hb hby at_218) rfl rfl k) ?_
    show Go _ _ _ _ _ _ _ T101 (mkF m 220 #[.val (.int i0), .val (.int i1), .val (.int i2), .val (.int i3), .val (.int i4), .val (.int (4 : Int32)), .val (.ref b82), .val (.ref b87), .val (.int (0 : Int32)), .val (.int (0 : Int32)), .val (.int (0 : Int32)), .val (.int (0 : Int32)), .val (.ref b99), .val (.int (bi (false = true)))] [(.ref b82), (.int (nar .byte (nar .byte (i2.toInt8.toInt32))))])
    refine Go.step (fun t k => XS.iconst X101.here hx rfl (hb hby at_220) k) ?_
    show Go _ _ _ _ _ _ _ T101 (mkF m 221 #[.val (.int i0), .val (.int i1), .val (.int i2), .val (.int i3), .val (.int i4), .val (.int (4 : Int32)), .val (.ref b82), .val (.ref b87), .val (.int (0 : Int32)), .val (.int (0 : Int32)), .val (.int (0 : Int32)), .val (.int (0 : Int32)), .val (.ref b99), .val (.int (bi (false = true)))] [(.int (1 : Int32)), (.ref b82), (.int (nar .byte (nar .byte (i2.toInt8.toInt32))))])
    refine Go.step (a_bload X101 hx hZ e101 f108 (k := 1) (by decide) (by decide) (x := (nar .byte (i2.toInt8.toInt32))) rfl (hb hby at_221)) ?_
    show Go _ _ _ _ _ _ _ T101 (mkF m 222 #[.val (.int i0), .val (.int i1), .val (.int i2), .val (.int i3), .val (.int i4), .val (.int (4 : Int32)), .val (.ref b82), .val (.ref b87), .val (.int (0 : Int32)), .val (.int (0 : Int32)), .val (.int (0 : Int32)), .val (.int (0 : Int32)), .val (.ref b99), .val (.int (bi (false = true)))] [(.int (nar .byte (i2.toInt8.toInt32))), (.int (nar .byte (nar .byte (i2.toInt8.toInt32))))])
    refine Go.step (fun t k => XS.icmpYes X101.here hx rfl (pc0 := 222) (pc' := 227) rfl (hb hby at_222) rfl (teq (own_nar _)).1 (by decide) (by decide) k) ?_
    show Go _ _ _ _ _ _ _ T101 (mkF m 227 #[.val (.int i0), .val (.int i1), .val (.int i2), .val (.int i3), .val (.int i4), .val (.int (4 : Int32)), .val (.ref b82), .val (.ref b87), .val (.int (0 : Int32)), .val (.int (0 : Int32)), .val (.int (0 : Int32)), .val (.int (0 : Int32)), .val (.ref b99), .val (.int (bi (false = true)))] [])
    refine Go.step (fun t k => XS.iload X101.here hx rfl (hb hby at_227) rfl k) ?_
    show Go _ _ _ _ _ _ _ T101 (mkF m 229 #[.val (.int i0), .val (.int i1), .val (.int i2), .val (.int i3), .val (.int i4), .val (.int (4 : Int32)), .val (.ref b82), .val (.ref b87), .val (.int (0 : Int32)), .val (.int (0 : Int32)), .val (.int (0 : Int32)), .val (.int (0 : Int32)), .val (.ref b99), .val (.int (bi (false = true)))] [(.int (4 : Int32))])
    refine Go.step (fun t k => XS.iconst X101.here hx rfl (hb hby at_229) k) ?_
    show Go _ _ _ _ _ _ _ T101 (mkF m 230 #[.val (.int i0), .val (.int i1), .val (.int i2), .val (.int i3), .val (.int i4), .val (.int (4 : Int32)), .val (.ref b82), .val (.ref b87), .val (.int (0 : Int32)), .val (.int (0 : Int32)), .val (.int (0 : Int32)), .val (.int (0 : Int32)), .val (.ref b99), .val (.int (bi (false = true)))] [(.int (3 : Int32)), (.int (4 : Int32))])
    refine Go.step (fun t k => XS.icmpNo X101.here hx rfl (hb hby at_230) rfl (flt (by decide)).1 k) ?_
    show Go _ _ _ _ _ _ _ T101 (mkF m 233 #[.val (.int i0), .val (.int i1), .val (.int i2), .val (.int i3), .val (.int i4), .val (.int (4 : Int32)), .val (.ref b82), .val (.ref b87), .val (.int (0 : Int32)), .val (.int (0 : Int32)), .val (.int (0 : Int32)), .val (.int (0 : Int32)), .val (.ref b99), .val (.int (bi (false = true)))] [])
    refine Go.step (fun t k => XS.aload X101.here hx rfl (hb hby at_233) rfl rfl k) ?_
    show Go _ _ _ _ _ _ _ T101 (mkF m 235 #[.val (.int i0), .val (.int i1), .val (.int i2), .val (.int i3), .val (.int i4), .val (.int (4 : Int32)), .val (.ref b82), .val (.ref b87), .val (.int (0 : Int32)), .val (.int (0 : Int32)), .val (.int (0 : Int32)), .val (.int (0 : Int32)), .val (.ref b99), .val (.int (bi (false = true)))] [(.ref b99)])
    refine Go.step (fun t k => XS.iconst X101.here hx rfl (hb hby at_235) k) ?_
    show Go _ _ _ _ _ _ _ T101 (mkF m 236 #[.val (.int i0), .val (.int i1), .val (.int i2), .val (.int i3), .val (.int i4), .val (.int (4 : Int32)), .val (.ref b82), .val (.ref b87), .val (.int (0 : Int32)), .val (.int (0 : Int32)), .val (.int (0 : Int32)), .val (.int (0 : Int32)), .val (.ref b99), .val (.int (bi (false = true)))] [(.int (2 : Int32)), (.ref b99)])
    refine Go.step (a_bload X101 hx hZ e101 V99k (k := 2) (by decide) (by decide) (x := (nar .byte (nar .byte (i3.toInt8.toInt32)))) rfl (hb hby at_236)) ?_
    show Go _ _ _ _ _ _ _ T101 (mkF m 237 #[.val (.int i0), .val (.int i1), .val (.int i2), .val (.int i3), .val (.int i4), .val (.int (4 : Int32)), .val (.ref b82), .val (.ref b87), .val (.int (0 : Int32)), .val (.int (0 : Int32)), .val (.int (0 : Int32)), .val (.int (0 : Int32)), .val (.ref b99), .val (.int (bi (false = true)))] [(.int (nar .byte (nar .byte (i3.toInt8.toInt32))))])
    refine Go.step (fun t k => XS.aload X101.here hx rfl (hb hby at_237) rfl rfl k) ?_
    show Go _ _ _ _ _ _ _ T101 (mkF m 239 #[.val (.int i0), .val (.int i1), .val (.int i2), .val (.int i3), .val (.int i4), .val (.int (4 : Int32)), .val (.ref b82), .val (.ref b87), .val (.int (0 : Int32)), .val (.int (0 : Int32)), .val (.int (0 : Int32)), .val (.int (0 : Int32)), .val (.ref b99), .val (.int (bi (false = true)))] [(.ref b82), (.int (nar .byte (nar .byte (i3.toInt8.toInt32))))])
    refine Go.step (fun t k => XS.iconst X101.here hx rfl (hb hby at_239) k) ?_
    show Go _ _ _ _ _ _ _ T101 (mkF m 240 #[.val (.int i0), .val (.int i1), .val (.int i2), .val (.int i3), .val (.int i4), .val (.int (4 : Int32)), .val (.ref b82), .val (.ref b87), .val (.int (0 : Int32)), .val (.int (0 : Int32)), .val (.int (0 : Int32)), .val (.int (0 : Int32)), .val (.ref b99), .val (.int (bi (false = true)))] [(.int (2 : Int32)), (.ref b82), (.int (nar .byte (nar .byte (i3.toInt8.toInt32))))])
    refine Go.step (a_bload X101 hx hZ e101 f108 (k := 2) (by decide) (by decide) (x := (nar .byte (i3.toInt8.toInt32))) rfl (hb hby at_240)) ?_
    show Go _ _ _ _ _ _ _ T101 (mkF m 241 #[.val (.int i0), .val (.int i1), .val (.int i2), .val (.int i3), .val (.int i4), .val (.int (4 : Int32)), .val (.ref b82), .val (.ref b87), .val (.int (0 : Int32)), .val (.int (0 : Int32)), .val (.int (0 : Int32)), .val (.int (0 : Int32)), .val (.ref b99), .val (.int (bi (false = true)))] [(.int (nar .byte (i3.toInt8.toInt32))), (.int (nar .byte (nar .byte (i3.toInt8.toInt32))))])
    refine Go.step (fun t k => XS.icmpYes X101.here hx rfl (pc0 := 241) (pc' := 246) rfl (hb hby at_241) rfl (teq (own_nar _)).1 (by decide) (by decide) k) ?_
    show Go _ _ _ _ _ _ _ T101 (mkF m 246 #[.val (.int i0), .val (.int i1), .val (.int i2), .val (.int i3), .val (.int i4), .val (.int (4 : Int32)), .val (.ref b82), .val (.ref b87), .val (.int (0 : Int32)), .val (.int (0 : Int32)), .val (.int (0 : Int32)), .val (.int (0 : Int32)), .val (.ref b99), .val (.int (bi (false = true)))] [])
    refine Go.step (fun t k => XS.iload X101.here hx rfl (hb hby at_246) rfl k) ?_
    show Go _ _ _ _ _ _ _ T101 (mkF m 248 #[.val (.int i0), .val (.int i1), .val (.int i2), .val (.int i3), .val (.int i4), .val (.int (4 : Int32)), .val (.ref b82), .val (.ref b87), .val (.int (0 : Int32)), .val (.int (0 : Int32)), .val (.int (0 : Int32)), .val (.int (0 : Int32)), .val (.ref b99), .val (.int (bi (false = true)))] [(.int (4 : Int32))])
    refine Go.step (fun t k => XS.iconst X101.here hx rfl (hb hby at_248) k) ?_
    show Go _ _ _ _ _ _ _ T101 (mkF m 249 #[.val (.int i0), .val (.int i1), .val (.int i2), .val (.int i3), .val (.int i4), .val (.int (4 : Int32)), .val (.ref b82), .val (.ref b87), .val (.int (0 : Int32)), .val (.int (0 : Int32)), .val (.int (0 : Int32)), .val (.int (0 : Int32)), .val (.ref b99), .val (.int (bi (false = true)))] [(.int (4 : Int32)), (.int (4 : Int32))])
    refine Go.step (fun t k => XS.icmpNo X101.here hx rfl (hb hby at_249) rfl (flt (by decide)).1 k) ?_
    show Go _ _ _ _ _ _ _ T101 (mkF m 252 #[.val (.int i0), .val (.int i1), .val (.int i2), .val (.int i3), .val (.int i4), .val (.int (4 : Int32)), .val (.ref b82), .val (.ref b87), .val (.int (0 : Int32)), .val (.int (0 : Int32)), .val (.int (0 : Int32)), .val (.int (0 : Int32)), .val (.ref b99), .val (.int (bi (false = true)))] [])
    refine Go.step (fun t k => XS.aload X101.here hx rfl (hb hby at_252) rfl rfl k) ?_
    show Go _ _ _ _ _ _ _ T101 (mkF m 254 #[.val (.int i0), .val (.int i1), .val (.int i2), .val (.int i3), .val (.int i4), .val (.int (4 : Int32)), .val (.ref b82), .val (.ref b87), .val (.int (0 : Int32)), .val (.int (0 : Int32)), .val (.int (0 : Int32)), .val (.int (0 : Int32)), .val (.ref b99), .val (.int (bi (false = true)))] [(.ref b99)])
    refine Go.step (fun t k => XS.iconst X101.here hx rfl (hb hby at_254) k) ?_
    show Go _ _ _ _ _ _ _ T101 (mkF m 255 #[.val (.int i0), .val (.int i1), .val (.int i2), .val (.int i3), .val (.int i4), .val (.int (4 : Int32)), .val (.ref b82), .val (.ref b87), .val (.int (0 : Int32)), .val (.int (0 : Int32)), .val (.int (0 : Int32)), .val (.int (0 : Int32)), .val (.ref b99), .val (.int (bi (false = true)))] [(.int (3 : Int32)), (.ref b99)])
    refine Go.step (a_bload X101 hx hZ e101 V99k (k := 3) (by decide) (by decide) (x := (nar .byte (nar .byte (i4.toInt8.toInt32)))) rfl (hb hby at_255)) ?_
    show Go _ _ _ _ _ _ _ T101 (mkF m 256 #[.val (.int i0), .val (.int i1), .val (.int i2), .val (.int i3), .val (.int i4), .val (.int (4 : Int32)), .val (.ref b82), .val (.ref b87), .val (.int (0 : Int32)), .val (.int (0 : Int32)), .val (.int (0 : Int32)), .val (.int (0 : Int32)), .val (.ref b99), .val (.int (bi (false = true)))] [(.int (nar .byte (nar .byte (i4.toInt8.toInt32))))])
    refine Go.step (fun t k => XS.aload X101.here hx rfl (hb hby at_256) rfl rfl k) ?_
    show Go _ _ _ _ _ _ _ T101 (mkF m 258 #[.val (.int i0), .val (.int i1), .val (.int i2), .val (.int i3), .val (.int i4), .val (.int (4 : Int32)), .val (.ref b82), .val (.ref b87), .val (.int (0 : Int32)), .val (.int (0 : Int32)), .val (.int (0 : Int32)), .val (.int (0 : Int32)), .val (.ref b99), .val (.int (bi (false = true)))] [(.ref b82), (.int (nar .byte (nar .byte (i4.toInt8.toInt32))))])
    refine Go.step (fun t k => XS.iconst X101.here hx rfl (hb hby at_258) k) ?_
    show Go _ _ _ _ _ _ _ T101 (mkF m 259 #[.val (.int i0), .val (.int i1), .val (.int i2), .val (.int i3), .val (.int i4), .val (.int (4 : Int32)), .val (.ref b82), .val (.ref b87), .val (.int (0 : Int32)), .val (.int (0 : Int32)), .val (.int (0 : Int32)), .val (.int (0 : Int32)), .val (.ref b99), .val (.int (bi (false = true)))] [(.int (3 : Int32)), (.ref b82), (.int (nar .byte (nar .byte (i4.toInt8.toInt32))))])
    refine Go.step (a_bload X101 hx hZ e101 f108 (k := 3) (by decide) (by decide) (x := (nar .byte (i4.toInt8.toInt32))) rfl (hb hby at_259)) ?_
    show Go _ _ _ _ _ _ _ T101 (mkF m 260 #[.val (.int i0), .val (.int i1), .val (.int i2), .val (.int i3), .val (.int i4), .val (.int (4 : Int32)), .val (.ref b82), .val (.ref b87), .val (.int (0 : Int32)), .val (.int (0 : Int32)), .val (.int (0 : Int32)), .val (.int (0 : Int32)), .val (.ref b99), .val (.int (bi (false = true)))] [(.int (nar .byte (i4.toInt8.toInt32))), (.int (nar .byte (nar .byte (i4.toInt8.toInt32))))])
    refine Go.step (fun t k => XS.icmpYes X101.here hx rfl (pc0 := 260) (pc' := 265) rfl (hb hby at_260) rfl (teq (own_nar _)).1 (by decide) (by decide) k) ?_
    show Go _ _ _ _ _ _ _ T101 (mkF m 265 #[.val (.int i0), .val (.int i1), .val (.int i2), .val (.int i3), .val (.int i4), .val (.int (4 : Int32)), .val (.ref b82), .val (.ref b87), .val (.int (0 : Int32)), .val (.int (0 : Int32)), .val (.int (0 : Int32)), .val (.int (0 : Int32)), .val (.ref b99), .val (.int (bi (false = true)))] [])
    refine Go.step (fun t k => XS.iconst X101.here hx rfl (hb hby at_265) k) ?_
    show Go _ _ _ _ _ _ _ T101 (mkF m 266 #[.val (.int i0), .val (.int i1), .val (.int i2), .val (.int i3), .val (.int i4), .val (.int (4 : Int32)), .val (.ref b82), .val (.ref b87), .val (.int (0 : Int32)), .val (.int (0 : Int32)), .val (.int (0 : Int32)), .val (.int (0 : Int32)), .val (.ref b99), .val (.int (bi (false = true)))] [(.int (1 : Int32))])
    refine go_retN X101 hx (t := .boolean) hret (by simp) hlk (hb hby at_266) (w := (1 : Int32)) rfl ?_ (by decide) (by decide)
    try rw [e101]
    exact ⟨rfl, N101⟩
set_option maxRecDepth 65536 in
set_option maxHeartbeats 40000000 in
theorem comes_1 {Post : Tables → Env → Array Value → State → Outcome → State → Prop} (hpost : ∀ tb e args s v u, (limb_1_1.after args s (.returned v) u = true ∧ limb_1_2.after args s (.returned v) u = true ∧ True) → FrameEnd s (.returned v) u (Jvm.fieldLocs frame_1_writes args s ++ Jvm.arrayLocs frame_1_arrays args s ++ Jvm.staticLocs frame_1_statics s) 16 128 → Post tb e args s (.returned v) u) :
    ArmFor flags0 classFile x code maxLocals ret World_1 tables_1 room_1 Calls_1 rest_1 Pre_1 Post := by
  intro l hfl _ _ p e ha hc hk s m args below hf hA hF happ hP
  obtain ⟨hcalls, hrest, hpre⟩ := hP
  obtain ⟨-, -, -, hnamed, -, -, -, hat⟩ := (Spec.applies_iff hf).mp happ
  obtain ⟨hg, hn⟩ := and_e (Cond.before_iff.mp (show (Jvm.Cond.and given_1 narrow_1).before args s = true from hpre))
  obtain ⟨hcnt, hg1⟩ := and_e hg
  obtain ⟨ha0, hg2⟩ := and_e hg1
  obtain ⟨ha1, hg3⟩ := and_e hg2
  obtain ⟨ha2, hg4⟩ := and_e hg3
  obtain ⟨ha3, hg5⟩ := and_e hg4
  obtain ⟨w0, w1, w2, w3, w4, rfl⟩ : ∃ w0 w1 w2 w3 w4 : Value, args = #[w0, w1, w2, w3, w4] := by
    have hs : args.size = 5 := by simpa [Cond.value, given_1] using hcnt
    obtain ⟨L⟩ := args
    match L, hs with
    | [w0, w1, w2, w3, w4], _ => exact ⟨w0, w1, w2, w3, w4, rfl⟩
  have hw := fun d (hd : d ∈ tables_1) => atoms_spec (ws := Jvm.Cond.code x code maxLocals ret :: tables_1) hat d (List.mem_cons_of_mem _ hd)
  have hfit : Fit s := fun {y c} hc i hi => by
    obtain ⟨ha, rfl⟩ := Array.getElem?_eq_some_iff.mp hc
    have q := List.all_eq_true.mp ((Array.all_eq_true_iff_forall_mem.mp hF) _ (Array.getElem_mem ha)) i (List.mem_range.mpr hi)
    simpa [Array.getElem?_eq_getElem hi] using q
  obtain ⟨i0, ei0⟩ := is_v ha0
  obtain rfl : w0 = (.int i0) := Option.some.inj ei0
  obtain ⟨i1, ei1⟩ := is_v ha1
  obtain rfl : w1 = (.int i1) := Option.some.inj ei1
  obtain ⟨i2, ei2⟩ := is_v ha2
  obtain rfl : w2 = (.int i2) := Option.some.inj ei2
  obtain ⟨i3, ei3⟩ := is_v ha3
  obtain rfl : w3 = (.int i3) := Option.some.inj ei3
  obtain ⟨i4, ei4⟩ := is_v hg5
  obtain rfl : w4 = (.int i4) := Option.some.inj ei4
  obtain ⟨n, o, h1, h2, h3, _, L, rfl, ⟨rfl, N⟩, hq⟩ := rm0 l s _ hw tables_1 i0 i1 i2 i3 i4 s.heap s.heap.size (Nat.le_refl _)  p e ha hc hk s m _ below hf ((Spec.applies_iff_loose hf).mp happ).1 ⟨rfl, State.Warmed39.refl s, rfl⟩ trivial
  refine ⟨n, _, h1, h2, h3, hpost _ _ _ _ _ _ ⟨Cond.after_iff.mpr rfl, Cond.after_iff.mpr (eq_i res_at (Term.int_eval (1)) rfl), trivial⟩ ⟨hq.1, hq.2.1, (hq.2.2.sift fun y hy => Or.inr (N y hy)).mono (by decide) (by decide)⟩⟩
theorem main_1_1 : Claimed_1_1 := comes_1 fun _ _ _ _ _ _ h hF => ⟨h.1, hF⟩
theorem main_1_2 : Claimed_1_2 := comes_1 fun _ _ _ _ _ _ h hF => ⟨h.2.1, hF⟩
end Jvm.Pilot.@@N@@
namespace Jvm.Pilot.@@N@@
open Jvm Jvm.ClassFile Sem Op Lib Jvm.Free Jvm.Stand Jvm.Pilot.@@N@@.Jvm.D
/-! MADE BY PROGRAM (witnessworld.py) out of the Statement's table words and the real class files: 11 classes; the members and pool entries that the words name. The judged class is class 1, her method 1. -/
namespace start1
open Jvm.ClassFile
def u (s : String) : CpInfo := .utf8 (stringToUtf16 s)
/-- a pool by its gaps: so many unusable entries, then the entry; so many at the end -/
def gap : Nat → List CpInfo → List CpInfo
  | 0, r => r
  | n + 1, r => .unusable :: gap n r
def poolList (es : List (Nat × CpInfo)) (last : Nat) : List CpInfo := es.foldr (fun e r => gap e.1 (e.2 :: r)) (gap last [])
def pool (es : List (Nat × CpInfo)) (last : Nat) : Array CpInfo := ⟨poolList es last⟩
def fileOf (pool : Array CpInfo) (this : Nat) (attrs : Array Attribute := #[]) (ms : Array MethodInfo := #[]) (fl : Nat := 33) (sup : Nat := 0) (ifs : Array Nat := #[]) (fds : Array FieldInfo := #[]) : ClassFile where
  minorVersion := 0
  majorVersion := 65
  constantPool := pool
  accessFlags := fl
  thisClass := this
  superClass := sup
  interfaces := ifs
  fields := fds
  methods := ms
  attributes := attrs
def plain (name : String) (sup : Option ClassId) : Class where
  name := name
  kind := .ordinary
  loader := none
  accessFlags := 33
  super := sup
  interfaces := #[]
  cf := none
  fields := #[]
  methods := #[]
  instanceTypes := #[]
  staticTypes := #[]
  resolved := #[]
  callSites := []
  init := .initialized
  statics := none
  mirror := none

def pool0 : Array CpInfo := pool [(5, u "<init>"), (0, u "()V"), (1, .class_ 10), (1, u "java/lang/Object"), (85, u "clone"), (0, u "()Ljava/lang/Object;")] 26

def k0c0 : Code := { maxStack := 0, maxLocals := 1, code := object_method_1_code, exceptionTable := #[], attributes := #[] }
def k0m0 : Method := { name := "<init>", desc := "()V", sig := { parameters := [], returnType := none }, accessFlags := 1, code := some k0c0 }
def k0m1 : Method := { name := "clone", desc := "()Ljava/lang/Object;", sig := { parameters := [], returnType := some (.object "java/lang/Object") }, accessFlags := 260, code := none }
/-- java/lang/Object -/
def k0 : Class := { plain "java/lang/Object" none with
  accessFlags := 33
  interfaces := #[]
  cf := some (fileOf pool0 8 #[] #[{ accessFlags := 1, nameIndex := 5, descriptorIndex := 6, attributes := #[] }, { accessFlags := 260, nameIndex := 96, descriptorIndex := 97, attributes := #[] }] 33 0 #[] #[])
  fields := #[]
  methods := #[k0m0, k0m1]
  instanceTypes := #[]
  staticTypes := #[]
  resolved := Array.replicate 124 none
  statics := none }

def pool1 : Array CpInfo := pool [(2, .class_ 4), (1, u "java/lang/Object"), (0, u "<init>"), (0, u "()V"), (0, .class_ 8), (0, u "com/example/bearer/bearer/modem/LineBuffer"), (0, .methodref 7 10), (0, .nameAndType 5 11), (0, u "(I)V"), (0, .methodref 7 13), (0, .nameAndType 14 15), (0, u "add"), (0, u "(B)Z"), (0, .methodref 7 17), (0, .nameAndType 18 19), (0, u "toByteArray"), (0, u "()[B"), (0, .methodref 7 21), (0, .nameAndType 22 23), (0, u "isCut"), (0, u "()Z"), (0, .class_ 25), (0, u "com/example/bearer/bearer/modem/LineBufferAddPinLaw"), (2, u "law"), (0, u "(IIIII)Z")] 5

def k1m0 : Method := { name := "<init>", desc := "()V", sig := { parameters := [], returnType := none }, accessFlags := 2, code := none }
def k1c1 : Code := { maxStack := 3, maxLocals := 14, code := code, exceptionTable := #[], attributes := #[] }
def k1m1 : Method := { name := "law", desc := "(IIIII)Z", sig := { parameters := [.int, .int, .int, .int, .int], returnType := some .boolean }, accessFlags := 9, code := some k1c1 }
/-- com/example/bearer/bearer/modem/LineBufferAddPinLaw -/
def k1 : Class := { plain "com/example/bearer/bearer/modem/LineBufferAddPinLaw" (some 0) with
  accessFlags := 49
  interfaces := #[]
  cf := some (fileOf pool1 24 #[] #[{ accessFlags := 2, nameIndex := 5, descriptorIndex := 6, attributes := #[] }, { accessFlags := 9, nameIndex := 28, descriptorIndex := 29, attributes := #[] }] 49 2 #[] #[])
  fields := #[]
  methods := #[k1m0, k1m1]
  instanceTypes := #[]
  staticTypes := #[]
  resolved := Array.replicate 35 none
  statics := none }

def pool2 : Array CpInfo := pool [(2, .class_ 4), (1, u "java/lang/CharSequence"), (42, .class_ 48), (0, u "java/lang/CharSequence$1CodePointIterator"), (10, .class_ 60), (0, u "java/lang/CharSequence$1CharIterator"), (5, .class_ 67), (0, u "java/lang/Object")] 63

/-- java/lang/CharSequence -/
def k2 : Class := { plain "java/lang/CharSequence" (some 0) with
  accessFlags := 1537
  interfaces := #[]
  cf := some (fileOf pool2 2 #[.nestMembers #[47, 59]] #[] 1537 66 #[] #[])
  fields := #[]
  methods := #[]
  instanceTypes := #[]
  staticTypes := #[]
  resolved := Array.replicate 131 none
  statics := none }

def pool3 : Array CpInfo := pool [(1, .methodref 2 3), (0, .class_ 4), (0, .nameAndType 5 6), (0, u "java/lang/Object"), (0, u "<init>"), (0, u "()V"), (0, .fieldref 8 9), (0, .class_ 10), (0, .nameAndType 11 12), (0, u "com/example/bearer/bearer/modem/LineBuffer"), (0, u "kept"), (0, u "[B"), (0, .fieldref 8 14), (0, .nameAndType 15 16), (0, u "length"), (0, u "I"), (0, .fieldref 8 18), (0, .nameAndType 19 20), (0, u "cut"), (0, u "Z"), (1, .class_ 24), (1, u "java/lang/CharSequence"), (7, u "add"), (0, u "(B)Z"), (16, .methodref 51 52), (0, .class_ 53), (0, .nameAndType 54 55), (0, u "java/util/Arrays"), (0, u "copyOf"), (0, u "([BI)[B"), (13, u "BYTE_MASK"), (2, u "(I)V"), (6, u "()Z"), (0, u "isCut"), (2, u "toByteArray"), (0, u "()[B")] 3

def k3c0 : Code := { maxStack := 2, maxLocals := 2, code := prog_38_method_1_code, exceptionTable := #[], attributes := #[] }
def k3m0 : Method := { name := "<init>", desc := "(I)V", sig := { parameters := [.int], returnType := none }, accessFlags := 1, code := some k3c0 }
def k3c1 : Code := { maxStack := 5, maxLocals := 3, code := prog_38_method_2_code, exceptionTable := #[], attributes := #[] }
def k3m1 : Method := { name := "add", desc := "(B)Z", sig := { parameters := [.byte], returnType := some .boolean }, accessFlags := 1, code := some k3c1 }
def k3c2 : Code := { maxStack := 1, maxLocals := 1, code := prog_38_method_5_code, exceptionTable := #[], attributes := #[] }
def k3m2 : Method := { name := "isCut", desc := "()Z", sig := { parameters := [], returnType := some .boolean }, accessFlags := 1, code := some k3c2 }
def k3c3 : Code := { maxStack := 2, maxLocals := 1, code := prog_38_method_9_code, exceptionTable := #[], attributes := #[] }
def k3m3 : Method := { name := "toByteArray", desc := "()[B", sig := { parameters := [], returnType := some (.array .byte) }, accessFlags := 1, code := some k3c3 }
/-- com/example/bearer/bearer/modem/LineBuffer -/
def k3 : Class := { plain "com/example/bearer/bearer/modem/LineBuffer" (some 0) with
  accessFlags := 49
  interfaces := #[2]
  cf := some (fileOf pool3 8 #[] #[{ accessFlags := 1, nameIndex := 5, descriptorIndex := 72, attributes := #[] }, { accessFlags := 1, nameIndex := 32, descriptorIndex := 33, attributes := #[] }, { accessFlags := 1, nameIndex := 80, descriptorIndex := 79, attributes := #[] }, { accessFlags := 1, nameIndex := 83, descriptorIndex := 84, attributes := #[] }] 49 2 #[22] #[{ accessFlags := 26, nameIndex := 69, descriptorIndex := 16, attributes := #[] }, { accessFlags := 18, nameIndex := 11, descriptorIndex := 12, attributes := #[] }, { accessFlags := 2, nameIndex := 15, descriptorIndex := 16, attributes := #[] }, { accessFlags := 2, nameIndex := 19, descriptorIndex := 20, attributes := #[] }])
  fields := #[{ name := "BYTE_MASK", type := .int, accessFlags := 26, slot := 0, constantValue := 0 }, { name := "kept", type := (.array .byte), accessFlags := 18, slot := 0, constantValue := 0 }, { name := "length", type := .int, accessFlags := 2, slot := 1, constantValue := 0 }, { name := "cut", type := .boolean, accessFlags := 2, slot := 2, constantValue := 0 }]
  methods := #[k3m0, k3m1, k3m2, k3m3]
  instanceTypes := #[(.array .byte), .int, .boolean]
  staticTypes := #[.int]
  resolved := Array.replicate 88 none
  statics := none }

def pool4 : Array CpInfo := pool [(2, .class_ 4), (1, u "java/lang/Object"), (0, u "<init>"), (0, u "()V"), (7, .class_ 16), (1, u "java/util/Arrays"), (57, .class_ 76), (1, u "java/util/Arrays$NaturalOrder"), (32, u "()Ljava/lang/Object;"), (3, .class_ 115), (1, u "java/util/Arrays$LegacyMergeSort"), (1, u "Z"), (10, .nameAndType 129 109), (0, u "clone"), (172, u "copyOf"), (7, .methodref 311 128), (0, .class_ 312), (0, u "[B"), (62, .class_ 376), (0, u "java/util/Arrays$ArrayList"), (68, u "$assertionsDisabled"), (269, u "MIN_ARRAY_SORT_GRAN"), (0, u "I"), (2, u "INSERTIONSORT_THRESHOLD"), (149, u "([BI)[B"), (105, .class_ 976), (0, u "java/util/Arrays$ArrayItr")] 52

def k4m0 : Method := { name := "<init>", desc := "()V", sig := { parameters := [], returnType := none }, accessFlags := 2, code := none }
def k4c1 : Code := { maxStack := 6, maxLocals := 3, code := jdk_65_method_121_code, exceptionTable := #[], attributes := #[] }
def k4m1 : Method := { name := "copyOf", desc := "([BI)[B", sig := { parameters := [(.array .byte), .int], returnType := some (.array .byte) }, accessFlags := 9, code := some k4c1 }
/-- java/util/Arrays -/
def k4 : Class := { plain "java/util/Arrays" (some 0) with
  accessFlags := 49
  interfaces := #[]
  cf := some (fileOf pool4 14 #[.nestMembers #[975, 375, 113, 74]] #[{ accessFlags := 2, nameIndex := 5, descriptorIndex := 6, attributes := #[] }, { accessFlags := 9, nameIndex := 302, descriptorIndex := 869, attributes := #[] }] 49 2 #[] #[{ accessFlags := 26, nameIndex := 715, descriptorIndex := 716, attributes := #[] }, { accessFlags := 26, nameIndex := 719, descriptorIndex := 716, attributes := #[] }, { accessFlags := 4120, nameIndex := 445, descriptorIndex := 117, attributes := #[] }])
  fields := #[{ name := "MIN_ARRAY_SORT_GRAN", type := .int, accessFlags := 26, slot := 0, constantValue := 0 }, { name := "INSERTIONSORT_THRESHOLD", type := .int, accessFlags := 26, slot := 1, constantValue := 0 }, { name := "$assertionsDisabled", type := .boolean, accessFlags := 4120, slot := 2, constantValue := 0 }]
  methods := #[k4m0, k4m1]
  instanceTypes := #[]
  staticTypes := #[.int, .int, .boolean]
  resolved := Array.replicate 1029 none
  statics := none }

def pool5 : Array CpInfo := pool [(1, .class_ 2), (0, u "java/lang/Cloneable"), (0, .class_ 4), (0, u "java/lang/Object")] 2

/-- java/lang/Cloneable -/
def k5 : Class := { plain "java/lang/Cloneable" (some 0) with
  accessFlags := 1537
  interfaces := #[]
  cf := some (fileOf pool5 1 #[] #[] 1537 3 #[] #[])
  fields := #[]
  methods := #[]
  instanceTypes := #[]
  staticTypes := #[]
  resolved := Array.replicate 7 none
  statics := none }

def pool6 : Array CpInfo := pool [(1, u "java/io/Serializable"), (0, .class_ 1), (0, u "java/lang/Object"), (0, .class_ 3)] 3

/-- java/io/Serializable -/
def k6 : Class := { plain "java/io/Serializable" (some 0) with
  accessFlags := 1537
  interfaces := #[]
  cf := some (fileOf pool6 2 #[] #[] 1537 4 #[] #[])
  fields := #[]
  methods := #[]
  instanceTypes := #[]
  staticTypes := #[]
  resolved := Array.replicate 8 none
  statics := none }

/-- the primitive byte -/
def k7 : Class := { plain "byte" none with kind := .primitive 'B', accessFlags := 0x411 }
/-- [B -/
def k8 : Class := { plain "[B" (some 0) with kind := .array 7 .byte, interfaces := #[5, 6], accessFlags := 1041 }

/-- the primitive int -/
def k9 : Class := { plain "int" none with kind := .primitive 'I', accessFlags := 0x411 }
/-- [I -/
def k10 : Class := { plain "[I" (some 0) with kind := .array 9 .int, interfaces := #[5, 6], accessFlags := 1041 }

def heap : Heap := #[]
def classes : Array Class := #[k0, k1, k2, k3, k4, k5, k6, k7, k8, k9, k10]
def interned : List (Array UInt16 × Addr) := []
def slotsUsed : Nat := 0
def theMethod : MethodId := ⟨1, 1⟩
def args0 : Array Value := #[.int 5, .int 5, .int 5, .int 5, .int 5]
def aboutOver (below : List Frame) : State where
  vm := { classes := classes, interned := interned.toArray }
  heap := heap
  slotsUsed := slotsUsed
  threads := #[{ frames := .invoking theMethod args0 :: below }]
def below0 : List Frame := [.native { method := ⟨0, 0⟩, args := #[] }]
def about1 : State := aboutOver below0
def p0 : Program := .bare "" "" ""
def e0 : Env := launch0.env 0 0 0
theorem w_frames : about1.frames = Frame.invoking theMethod args0 :: below0 := rfl
set_option maxRecDepth 65536 in
theorem w_args : argsFit about1.vm theMethod args0 = true := by decide +kernel
set_option maxRecDepth 65536 in
theorem w_heap : heapFits about1 = true := by decide +kernel
set_option maxRecDepth 65536 in
theorem w_runnable : about1.curStatus? = some .runnable := by decide +kernel
set_option maxRecDepth 65536 in
theorem w_alone : about1.alone = true := by decide +kernel
set_option maxRecDepth 65536 in
theorem w_named : about1.methodNamed? x = some theMethod := by decide +kernel
set_option maxRecDepth 65536 in
theorem w_hears : about1.hears theMethod below0 = true := by decide +kernel
set_option maxRecDepth 65536 in
theorem w_ripe : about1.ripe theMethod args0 below0 = true := by decide +kernel
theorem w_running : about1.status = .running := rfl
set_option maxRecDepth 65536 in
theorem w_room : about1.hasRoom e0.platform room_1 = true :=
  launch0.hasRoom_least _ room_1 (by decide +kernel) (by decide +kernel) (by decide +kernel) (by decide +kernel) (by decide +kernel) (by decide +kernel)
theorem allAtoms_all (ts : List Jvm.Cond) (a : Array Jvm.Value) (st : Jvm.State) : (allAtoms ts).before a st = ts.all (fun c => c.before a st) := by
  induction ts with
  | nil => rfl
  | cons c t ih =>
    show (Jvm.Cond.and c (allAtoms t)).before a st = _
    rw [Jvm.Cond.before_and, ih, List.all_cons]
def words1 : List Jvm.Cond := Jvm.Cond.code x code maxLocals ret :: tables_1
/-- a 'code' word, met by the world's own term for the bytes: nothing is compared byte by byte -/
theorem code_word {y : MethodName} {bytes : ByteArray} {mx : Nat} {rt : Option FieldType} {a : Array Value} {s : State} {m : MethodId} {meth : Method} {c : Code} (h1 : s.methodNamed? y = some m) (h2 : s.vm.method? m = some meth) (h3 : meth.code = some c) (h4 : c.code = bytes)
    (h5 : (c.maxLocals == mx && c.exceptionTable.isEmpty && decide (c.maxStack ≤ mostOperands) && decide (meth.sig.returnType = rt) && !meth.locks && decide (parseMethodDescriptor y.desc = some meth.sig)) = true) : (Jvm.Cond.code y bytes mx rt).before a s = true := by
  simp only [Bool.and_eq_true, beq_iff_eq, Bool.not_eq_true', decide_eq_true_eq] at h5
  obtain ⟨⟨⟨⟨⟨g1, g2⟩, g3⟩, g4⟩, g5⟩, g6⟩ := h5
  simp [Cond.before, Cond.holds, Cond.value, h1, h2, h3, h4, g1, g2, g3, g4, g5, g6]
def isCode : Jvm.Cond → Bool
  | .code _ _ _ _ => true
  | _ => false
theorem all_split {L : List Jvm.Cond} {P : Jvm.Cond → Bool} (h1 : L.all (fun c => isCode c || P c) = true) (h2 : ∀ c ∈ L.filter isCode, P c = true) : L.all P = true := by
  refine List.all_eq_true.mpr fun c hc => ?_
  have h := List.all_eq_true.mp h1 c hc
  rcases Bool.eq_false_or_eq_true (isCode c) with hi | hi
  · exact h2 c (List.mem_filter.mpr ⟨hc, hi⟩)
  · simpa [hi] using h
set_option maxRecDepth 65536 in
theorem w_c0 : (Jvm.Cond.code x code maxLocals ret).before args0 about1 = true := code_word (m := ⟨1, 1⟩) (meth := k1m1) (c := k1c1) (by decide +kernel) rfl rfl rfl (by decide +kernel)
set_option maxRecDepth 65536 in
theorem w_c1 : (Jvm.Cond.code ({ cls := "com/example/bearer/bearer/modem/LineBuffer", name := "<init>", desc := "(I)V" } : Jvm.MethodName) prog_38_method_1_code (2 : Nat) (Option.none : Option Jvm.ClassFile.FieldType)).before args0 about1 = true := code_word (m := ⟨3, 0⟩) (meth := k3m0) (c := k3c0) (by decide +kernel) rfl rfl rfl (by decide +kernel)
set_option maxRecDepth 65536 in
theorem w_c2 : (Jvm.Cond.code ({ cls := "java/lang/Object", name := "<init>", desc := "()V" } : Jvm.MethodName) object_method_1_code (1 : Nat) (Option.none : Option Jvm.ClassFile.FieldType)).before args0 about1 = true := code_word (m := ⟨0, 0⟩) (meth := k0m0) (c := k0c0) (by decide +kernel) rfl rfl rfl (by decide +kernel)
set_option maxRecDepth 65536 in
theorem w_c3 : (Jvm.Cond.code ({ cls := "com/example/bearer/bearer/modem/LineBuffer", name := "add", desc := "(B)Z" } : Jvm.MethodName) prog_38_method_2_code (3 : Nat) (Option.some Jvm.ClassFile.FieldType.boolean)).before args0 about1 = true := code_word (m := ⟨3, 1⟩) (meth := k3m1) (c := k3c1) (by decide +kernel) rfl rfl rfl (by decide +kernel)
set_option maxRecDepth 65536 in
theorem w_c4 : (Jvm.Cond.code ({ cls := "com/example/bearer/bearer/modem/LineBuffer", name := "toByteArray", desc := "()[B" } : Jvm.MethodName) prog_38_method_9_code (1 : Nat) (Option.some (Jvm.ClassFile.FieldType.array Jvm.ClassFile.FieldType.byte))).before args0 about1 = true := code_word (m := ⟨3, 3⟩) (meth := k3m3) (c := k3c3) (by decide +kernel) rfl rfl rfl (by decide +kernel)
set_option maxRecDepth 65536 in
theorem w_c5 : (Jvm.Cond.code ({ cls := "java/util/Arrays", name := "copyOf", desc := "([BI)[B" } : Jvm.MethodName) jdk_65_method_121_code (3 : Nat) (Option.some (Jvm.ClassFile.FieldType.array Jvm.ClassFile.FieldType.byte))).before args0 about1 = true := code_word (m := ⟨4, 1⟩) (meth := k4m1) (c := k4c1) (by decide +kernel) rfl rfl rfl (by decide +kernel)
set_option maxRecDepth 65536 in
theorem w_c6 : (Jvm.Cond.code ({ cls := "com/example/bearer/bearer/modem/LineBuffer", name := "isCut", desc := "()Z" } : Jvm.MethodName) prog_38_method_5_code (1 : Nat) (Option.some Jvm.ClassFile.FieldType.boolean)).before args0 about1 = true := code_word (m := ⟨3, 2⟩) (meth := k3m2) (c := k3c2) (by decide +kernel) rfl rfl rfl (by decide +kernel)
def codes1 : List Jvm.Cond := [Jvm.Cond.code x code maxLocals ret, Jvm.Cond.code ({ cls := "com/example/bearer/bearer/modem/LineBuffer", name := "<init>", desc := "(I)V" } : Jvm.MethodName) prog_38_method_1_code (2 : Nat) (Option.none : Option Jvm.ClassFile.FieldType), Jvm.Cond.code ({ cls := "java/lang/Object", name := "<init>", desc := "()V" } : Jvm.MethodName) object_method_1_code (1 : Nat) (Option.none : Option Jvm.ClassFile.FieldType), Jvm.Cond.code ({ cls := "com/example/bearer/bearer/modem/LineBuffer", name := "add", desc := "(B)Z" } : Jvm.MethodName) prog_38_method_2_code (3 : Nat) (Option.some Jvm.ClassFile.FieldType.boolean), Jvm.Cond.code ({ cls := "com/example/bearer/bearer/modem/LineBuffer", name := "toByteArray", desc := "()[B" } : Jvm.MethodName) prog_38_method_9_code (1 : Nat) (Option.some (Jvm.ClassFile.FieldType.array Jvm.ClassFile.FieldType.byte)), Jvm.Cond.code ({ cls := "java/util/Arrays", name := "copyOf", desc := "([BI)[B" } : Jvm.MethodName) jdk_65_method_121_code (3 : Nat) (Option.some (Jvm.ClassFile.FieldType.array Jvm.ClassFile.FieldType.byte)), Jvm.Cond.code ({ cls := "com/example/bearer/bearer/modem/LineBuffer", name := "isCut", desc := "()Z" } : Jvm.MethodName) prog_38_method_5_code (1 : Nat) (Option.some Jvm.ClassFile.FieldType.boolean)]
set_option maxRecDepth 65536 in
theorem codes_eq : words1.filter isCode = codes1 := rfl
theorem w_codes : ∀ c ∈ words1.filter isCode, c.before args0 about1 = true := by
  rw [codes_eq]
  intro c hc
  simp only [codes1, List.mem_cons, List.not_mem_nil, or_false] at hc
  rcases hc with rfl | rfl | rfl | rfl | rfl | rfl | rfl
  · exact w_c0
  · exact w_c1
  · exact w_c2
  · exact w_c3
  · exact w_c4
  · exact w_c5
  · exact w_c6
set_option maxRecDepth 65536 in
theorem w_t1 : (words1.take 24).all (fun c => isCode c || c.before args0 about1) = true := by decide +kernel
set_option maxRecDepth 65536 in
theorem w_t2 : (words1.drop 24).all (fun c => isCode c || c.before args0 about1) = true := by decide +kernel
theorem w_tables : (allAtoms (Jvm.Cond.code x code maxLocals ret :: tables_1)).before args0 about1 = true := by
  rw [allAtoms_all]
  show words1.all (fun c => c.before args0 about1) = true
  refine all_split ?_ w_codes
  rw [← List.take_append_drop 24 words1, List.all_append, w_t1, w_t2]
  rfl
set_option maxRecDepth 65536 in
theorem w_case : (Jvm.Cond.and given_1 narrow_1).before args0 about1 = true := by decide +kernel
theorem w_applies : (headSpec (Jvm.Cond.code x code maxLocals ret :: tables_1) room_1).applies x e0.platform about1 = true :=
  (Spec.applies_iff w_frames).mpr ⟨w_running, w_runnable, w_alone, w_named, w_hears, w_ripe, w_room, w_tables⟩
theorem atStart : AtStart classFile x code maxLocals ret World_1 tables_1 room_1 Calls_1 rest_1 Pre_1 launch0 p0 e0 about1 theMethod args0 below0 :=
  ⟨lists_1, trivial, launch0.admits_env _ _ _, launch0.least_env, fairChoices_fair.cas, fairChoices_fair.clock, w_frames, w_args, w_heap, w_applies, trivial, trivial, w_case⟩
end start1
theorem witness_1 : WitnessClaimed_1 := ⟨start1.p0, start1.e0, start1.about1, start1.theMethod, start1.args0, start1.below0, start1.atStart⟩
end Jvm.Pilot.@@N@@
