import JvmDerived
import JvmDerived.Pilot.@@N@@Statement
import JvmDerived.Pilot.@@N@@Code
set_option linter.unusedVariables false
set_option linter.unusedSimpArgs false
namespace Jvm.RoadKit
open Sem ClassFile Op Lib Jvm.Stand Jvm.Free Jvm.LawKit
section New
variable {p : Program} {l : Launch} {e : Env} {R : Room} {s : State} {m : MethodId} {args : Array Value} {below : List Frame} {meth : Method} {c : Code} {T : State} {locs : List Loc} {cells slots : Nat}
theorem retI (X : Stand p l e R s m args below meth c T locs cells slots) (hx : p.tables.exec = Jvm.exec) {pc : Nat} {Ls : Array Slot} {z : Int32} {rest : List Value} (hret : meth.sig.returnType = some .int) (hd : decode c.code pc = .ok (.ireturn, 1)) {fs : List Frame}
    (hl : ∀ (f : JFrame) (acts : List Action), f.method = m → f.locked = none → f.entered = [] → (doReturn e (T.setTop f) acts (some (.int z))).1 = T.setFrames fs) : Steps p.tables e below (T.setTop (mkF m pc Ls (.int z :: rest))) (T.setFrames fs) := by
  have hm' : T.vm.method? m = some meth := X.method'
  have hn : narrow .int (.int z) = .int z := rfl
  show Steps p.tables e below (T.setTop { method := m, pc := pc, locals := Ls, stack := _ :: rest, locked := none }) _
  jvm_step X.here [X.here.top, hx, hd, hm', hret, hn]
  first | (intro acts; rw [hl _ acts rfl rfl rfl]) | rw [hl _ _ rfl rfl rfl]
  exact Steps.refl _
end New
end Jvm.RoadKit
namespace Jvm.Pilot.@@N@@
open Jvm Jvm.ClassFile Sem Op Lib Jvm.Free Jvm.Stand Jvm.LawKit Jvm.RoadKit Bundle Jvm.Pilot.@@N@@.Jvm.D
/-- the run from a frame of this method ends in a return with Q -/
def Go (p : Program) (e : Env) (s : State) (below : List Frame) (kc ks : Nat) (Q : Option Value → Heap → List Loc → Prop) (T : State) (f : JFrame) : Prop :=
  ∃ s₂ o, Steps p.tables e below (T.setTop f) s₂ ∧ s₂.status = .running ∧ Ended s₂ below o ∧ ∃ v L, o = .returned v ∧ Q v s₂.heap L ∧ FrameEnd s o s₂ L kc ks
/-- what is known of the method that runs -/
def Cx (p : Program) (s : State) (m : MethodId) (meth : Method) (c : Code) (Z : State) (own nm : String) (code : ByteArray) (maxL : Nat) (ret : Option FieldType) : Prop :=
  p.tables.exec = Jvm.exec ∧ Z.Warmed39 s.vm ∧ c.code = code ∧ c.maxLocals = maxL ∧ s.vm.findClass own = some m.cls ∧ meth.name = nm ∧ meth.sig.returnType = ret ∧ meth.locks = false
/-- a contract -/
def Ctr (l : Launch) (Z : State) (y : MethodName) (bytes : ByteArray) (maxL : Nat) (ret : Option FieldType) (ws : List Jvm.Cond) (rm : Room) (kc ks : Nat) (as : Array Value) (h : Heap) (Q : Option Value → Heap → List Loc → Prop) : Prop :=
  MetFree l y (head1 (Jvm.Cond.code y bytes maxL ret :: ws) rm) (fun a U => a = as ∧ Z.Warmed39 U.vm ∧ U.heap = h) (fun _ _ _ _ _ => True) (fun _ U o U' => ∃ v L, o = .returned v ∧ Q v U'.heap L ∧ FrameEnd U o U' L kc ks)
def bi (P : Prop) [Decidable P] : Int32 := if P then 1 else 0
theorem bi_t {P : Prop} [Decidable P] (h : P) : bi P = 1 := if_pos h
theorem bi_f {P : Prop} [Decidable P] (h : ¬ P) : bi P = 0 := if_neg h
theorem bi_n {P : Prop} [Decidable P] (h : P) : ¬ bi P = 0 := by rw [bi_t h]; decide
theorem bi_1 {P : Prop} [Decidable P] : bi P = 1 ↔ P := by unfold bi; split <;> simp_all
theorem bi_0 {P : Prop} [Decidable P] : bi P = 0 ↔ ¬ P := by unfold bi; split <;> simp_all
theorem bi_eq {P P' : Prop} [Decidable P] [Decidable P'] : bi P = bi P' ↔ (P ↔ P') := by unfold bi; split <;> split <;> simp_all
theorem bi_congr {P P' : Prop} [Decidable P] [Decidable P'] (h : P ↔ P') : bi P = bi P' := bi_eq.mpr h
theorem bi_fits {P : Prop} [Decidable P] : fits .boolean (.int (bi P)) = true := by unfold bi; split <;> rfl
theorem bi_nar {P : Prop} [Decidable P] : nar .boolean (bi P) = bi P := by unfold bi; split <;> rfl
section Own
variable {p : Program} {l : Launch} {e : Env} {R : Room} {s : State} {m : MethodId} {args : Array Value} {below : List Frame} {meth : Method} {c : Code} {T : State} {locs : List Loc} {cells slots kc ks : Nat} {Q : Option Value → Heap → List Loc → Prop} {Z : State} {a0 : Array Value} {h : Heap}
theorem Go.step {T' : State} {f f' : JFrame} (st : ∀ t, Steps p.tables e below (T'.setTop f') t → Steps p.tables e below (T.setTop f) t) (k : Go p e s below kc ks Q T' f') : Go p e s below kc ks Q T f := by
  obtain ⟨s₂, o, h1, r⟩ := k; exact ⟨s₂, o, st _ h1, r⟩
theorem Go.mono {Q' : Option Value → Heap → List Loc → Prop} {f : JFrame} (k : Go p e s below kc ks Q T f) (h : ∀ v h L, Q v h L → Q' v h L) : Go p e s below kc ks Q' T f := by
  obtain ⟨s₂, o, h1, h2, h3, v, L, h4, h5, h6⟩ := k; exact ⟨s₂, o, h1, h2, h3, v, L, h4, h _ _ _ h5, h6⟩
theorem Ctr.mk {y : MethodName} {bytes : ByteArray} {maxL : Nat} {ret : Option FieldType} {ws : List Jvm.Cond} {rm : Room} {as : Array Value} (hp : plainFor y = true)
    (hgo : ∀ (p : Program) (e : Env) (s : State) (m : MethodId) (below : List Frame) (meth : Method) (c : Code) (s₁ : State), Stand p l e rm s m as below meth c s₁ [] 0 0 → Cx p s m meth c Z y.cls y.name bytes maxL ret → s₁.heap = h → Go p e s below kc ks Q s₁ (entryFrame m as maxL)) :
    Ctr l Z y bytes maxL ret ws rm kc ks as h Q := by
  refine MetFree.of_bodySF hp hisR ?_
  intro p e s m args below meth c s₁ Bd hml0 hP hK
  obtain ⟨rfl, hZ, hh⟩ := hP
  exact hgo p e s m below meth c s₁ (Stand.of_body Bd) ⟨Bd.exec, hZ, Bd.bytes, hml0, findClass_of_methodNamed Bd.named, (name_of_methodNamed Bd.named Bd.method).1, Bd.returns, Bd.notSynchronized⟩ (by rw [← hh, Bd.state]; rfl)
theorem go_cast {f f' : JFrame} (q : f = f') (k : Go p e s below kc ks Q T f') : Go p e s below kc ks Q T f := q ▸ k
theorem go_retI (X : Stand p l e R s m args below meth c T locs cells slots) (hx : p.tables.exec = Jvm.exec) (hret : meth.sig.returnType = some .int) (hlk : meth.locks = false) {pc : Nat} {Ls : Array Slot} {z : Int32} {rest : List Value} (hd : decode c.code pc = .ok (.ireturn, 1))
    (hQ : Q (some (.int z)) T.heap locs) (hc : cells ≤ kc) (hs : slots ≤ ks) : Go p e s below kc ks Q T (mkF m pc Ls (.int z :: rest)) := by
  obtain ⟨fs, hr, hrun, hended, hW, hsame⟩ := X.leave (v := some (.int z)) (fun h => by rw [hret] at h; cases h) hlk
  exact ⟨_, _, retI X hx hret hd hr, hrun, hended, _, _, rfl, hQ, ⟨_, rfl⟩, hW, hsame.mono hc hs⟩
theorem go_retN (X : Stand p l e R s m args below meth c T locs cells slots) (hx : p.tables.exec = Jvm.exec) {t : FieldType} (hret : meth.sig.returnType = some t) (ht : t = .boolean ∨ t = .byte ∨ t = .char ∨ t = .short) (hlk : meth.locks = false) {pc : Nat} {Ls : Array Slot} {z w : Int32} {rest : List Value} (hd : decode c.code pc = .ok (.ireturn, 1))
    (hz : nar t z = w) (hQ : Q (some (.int w)) T.heap locs) (hc : cells ≤ kc) (hs : slots ≤ ks) : Go p e s below kc ks Q T (mkF m pc Ls (.int z :: rest)) := by
  subst hz
  obtain ⟨fs, hr, hrun, hended, hW, hsame⟩ := X.leave (v := some (.int (nar t z))) (fun h => by rw [hret] at h; cases h) hlk
  exact ⟨_, _, retN X hx hret ht hd hr, hrun, hended, _, _, rfl, hQ, ⟨_, rfl⟩, hW, hsame.mono hc hs⟩
theorem go_retJ (X : Stand p l e R s m args below meth c T locs cells slots) (hx : p.tables.exec = Jvm.exec) (hret : meth.sig.returnType = some .long) (hlk : meth.locks = false) {pc : Nat} {Ls : Array Slot} {z : Int64} (hd : decode c.code pc = .ok (.lreturn, 1))
    (hQ : Q (some (.long z)) T.heap locs) (hc : cells ≤ kc) (hs : slots ≤ ks) : Go p e s below kc ks Q T (mkF m pc Ls [.long z]) := by
  obtain ⟨fs, hr, hrun, hended, hW, hsame⟩ := X.leave (v := some (.long z)) (fun h => by rw [hret] at h; cases h) hlk
  exact ⟨_, _, X.lreturnOut hx hret hd hr, hrun, hended, _, _, rfl, hQ, ⟨_, rfl⟩, hW, hsame.mono hc hs⟩
theorem go_retA (X : Stand p l e R s m args below meth c T locs cells slots) (hx : p.tables.exec = Jvm.exec) {t : FieldType} (hret : meth.sig.returnType = some t) (ht : t.isReference = true) (hlk : meth.locks = false) {pc : Nat} {Ls : Array Slot} {w : Value} {rest : List Value} (hw : w.isRef = true) (hd : decode c.code pc = .ok (.areturn, 1))
    (hQ : Q (some w) T.heap locs) (hc : cells ≤ kc) (hs : slots ≤ ks) : Go p e s below kc ks Q T (mkF m pc Ls (w :: rest)) := by
  obtain ⟨fs, hr, hrun, hended, hW, hsame⟩ := X.leave (v := some w) (fun h => by rw [hret] at h; cases h) hlk
  have hn : narrow t w = w := by cases t <;> first | rfl | simp [FieldType.isReference] at ht
  exact ⟨_, _, retOut X hx hret hn (Or.inr (Or.inr (Or.inr (Or.inr ⟨rfl, ht, hw⟩)))) hd hr, hrun, hended, _, _, rfl, hQ, ⟨_, rfl⟩, hW, hsame.mono hc hs⟩
theorem go_ret (X : Stand p l e R s m args below meth c T locs cells slots) (hx : p.tables.exec = Jvm.exec) (hret : meth.sig.returnType = none) (hlk : meth.locks = false) {pc : Nat} {Ls : Array Slot} (hd : decode c.code pc = .ok (.return_, 1))
    (hQ : Q none T.heap locs) (hc : cells ≤ kc) (hs : slots ≤ ks) : Go p e s below kc ks Q T (mkF m pc Ls []) := by
  obtain ⟨fs, hr, hrun, hended, hW, hsame⟩ := X.leave (v := none) (fun _ => rfl) hlk
  exact ⟨_, _, X.returnOut hx hret hd hr, hrun, hended, _, _, rfl, hQ, ⟨_, rfl⟩, hW, hsame.mono hc hs⟩
/-! calls by a contract -/
section Calls
variable {own : String} {index : Nat} {y : MethodName} {bytes : ByteArray} {maxL : Nat} {ret r : Option FieldType} {rm : Room} {Qc : Option Value → Heap → List Loc → Prop} {argsL rest : List Value} {ps : List FieldType} {pc W : Nat} {Ls : Array Slot} {a : Addr}
theorem c_static (X : Stand p l e R s m args below meth c T locs cells slots) (hx : p.tables.exec = Jvm.exec) (hZ : Z.Warmed39 s.vm) (hown : s.vm.findClass own = some m.cls)
    (w1 : (Jvm.Cond.methodLink own index y).before a0 Z = true) (w2 : (Jvm.Cond.static y).before a0 Z = true) (w3 : (Jvm.Cond.initialized y.cls).before a0 Z = true) (w4 : (Jvm.Cond.code y bytes maxL ret).before a0 Z = true) (hy : y.cls ≠ "java/lang/invoke/MethodHandle" ∧ y.cls ≠ "java/lang/invoke/VarHandle")
    (hC : Ctr l Z y bytes maxL ret [] rm rm.cells rm.slots argsL.toArray h Qc) (eT : T.heap = h) (hpd : parseMethodDescriptor y.desc = some ⟨ps, r⟩) (hlen : argsL.length = ps.length) (hsz : Ls.size = c.maxLocals) (hW : 2 * 0 + (rest.map fun v => v.category).sum ≤ W)
    (hf : rm.frames + 1 ≤ R.frames) (hl : W + (maxL + 11) + rm.locals ≤ R.locals) (hc : cells + rm.cells ≤ R.cells) (hs : slots + rm.slots ≤ R.slots) (hd : decode c.code pc = .ok (.invokestatic index, 3)) :
    ∃ (v : Option Value) (T' : State) (L : List Loc), Stand p l e R s m args below meth c T' (locs ++ L) (cells + rm.cells) (slots + rm.slots) ∧ Qc v T'.heap L ∧
      ∀ t, Steps p.tables e below (T'.setTop (mkF m (pc + 3) Ls (v.toList ++ rest))) t → Steps p.tables e below (T.setTop (mkF m pc Ls (argsL.reverse ++ rest))) t := by
  obtain ⟨v, _, ⟨T', L', k', n'⟩, -, X', ⟨L, hQ, rfl, rfl, rfl⟩, st⟩ := Jvm.LawKit.callS X hx (y := y) hown (mvT hZ w1) (mvT hZ w2) (mvT hZ w3) (mvT hZ w4) hy (backOf (W := W) hC hZ w4 w3 hf hl) (g := mkF m pc Ls (argsL.reverse ++ rest)) rfl hsz (argsL := argsL) (rest := rest) (lenOf hpd hlen) rfl hW hd (fun _ _ => ⟨rfl, eT, hc, hs⟩)
  exact ⟨v, T', L, X', hQ, st⟩
theorem c_init (X : Stand p l e R s m args below meth c T locs cells slots) (hx : p.tables.exec = Jvm.exec) (hZ : Z.Warmed39 s.vm) (hown : s.vm.findClass own = some m.cls)
    (w1 : (Jvm.Cond.methodLink own index y).before a0 Z = true) (w2 : (Jvm.Cond.instanceMethod y).before a0 Z = true) (w3 : (Jvm.Cond.initialized y.cls).before a0 Z = true) (w4 : (Jvm.Cond.code y bytes maxL none).before a0 Z = true) (hn : y.name = "<init>") (hy : y.cls ≠ "java/lang/invoke/MethodHandle" ∧ y.cls ≠ "java/lang/invoke/VarHandle")
    (hC : Ctr l Z y bytes maxL none [] rm rm.cells rm.slots (.ref a :: argsL).toArray h Qc) (eT : T.heap = h) (hpd : parseMethodDescriptor y.desc = some ⟨ps, r⟩) (hlen : argsL.length = ps.length) (hsz : Ls.size = c.maxLocals) (hW : 2 * 0 + (rest.map fun v => v.category).sum ≤ W)
    (hf : rm.frames + 1 ≤ R.frames) (hl : W + (maxL + 11) + rm.locals ≤ R.locals) (hc : cells + rm.cells ≤ R.cells) (hs : slots + rm.slots ≤ R.slots) (hd : decode c.code pc = .ok (.invokespecial index, 3)) :
    ∃ (v : Option Value) (T' : State) (L : List Loc), Stand p l e R s m args below meth c T' (locs ++ L) (cells + rm.cells) (slots + rm.slots) ∧ Qc v T'.heap L ∧
      ∀ t, Steps p.tables e below (T'.setTop (mkF m (pc + 3) Ls (v.toList ++ rest))) t → Steps p.tables e below (T.setTop (mkF m pc Ls (argsL.reverse ++ .ref a :: rest))) t := by
  obtain ⟨v, _, ⟨T', L', k', n'⟩, -, X', ⟨L, hQ, rfl, rfl, rfl⟩, st⟩ := X.specialBack hx (y := y) hn hown (mvT hZ w1) (mvT hZ w2) (mvT hZ w4) hy (backOf (W := W) hC hZ w4 w3 hf hl) (g := mkF m pc Ls (argsL.reverse ++ .ref a :: rest)) rfl hsz (Steps.refl _) (a := a) (argsL := argsL) (rest := rest) (lenOf hpd hlen) rfl hW hd (fun _ _ => ⟨rfl, eT, hc, hs⟩)
  exact ⟨v, T', L, X', hQ, fun t k => st.trans k⟩
theorem c_virt {y' : MethodName} {C : String} (X : Stand p l e R s m args below meth c T locs cells slots) (hx : p.tables.exec = Jvm.exec) (hZ : Z.Warmed39 s.vm) (hown : s.vm.findClass own = some m.cls)
    (w1 : (Jvm.Cond.methodLink own index y').before a0 Z = true) (wd : (Jvm.Cond.declares y').before a0 Z = true) (nf : NotFace s y') (ws : (Jvm.Cond.selects C y' y).before a0 Z = true) (w2 : (Jvm.Cond.instanceMethod y).before a0 Z = true) (w3 : (Jvm.Cond.initialized y.cls).before a0 Z = true) (w4 : (Jvm.Cond.code y bytes maxL ret).before a0 Z = true) (hy : y'.cls ≠ "java/lang/invoke/MethodHandle" ∧ y'.cls ≠ "java/lang/invoke/VarHandle")
    (hC : Ctr l Z y bytes maxL ret [] rm rm.cells rm.slots (.ref a :: argsL).toArray h Qc) (eT : T.heap = h) (E : Exa Z h a C) (hpd : parseMethodDescriptor y'.desc = some ⟨ps, r⟩) (hlen : argsL.length = ps.length) (hsz : Ls.size = c.maxLocals) (hW : 2 * 0 + (rest.map fun v => v.category).sum ≤ W)
    (hf : rm.frames + 1 ≤ R.frames) (hl : W + (maxL + 11) + rm.locals ≤ R.locals) (hc : cells + rm.cells ≤ R.cells) (hs : slots + rm.slots ≤ R.slots) (hd : decode c.code pc = .ok (.invokevirtual index, 3)) :
    ∃ (v : Option Value) (T' : State) (L : List Loc), Stand p l e R s m args below meth c T' (locs ++ L) (cells + rm.cells) (slots + rm.slots) ∧ Qc v T'.heap L ∧
      ∀ t, Steps p.tables e below (T'.setTop (mkF m (pc + 3) Ls (v.toList ++ rest))) t → Steps p.tables e below (T.setTop (mkF m pc Ls (argsL.reverse ++ .ref a :: rest))) t := by
  obtain ⟨cq, kq, qa, qb, qc⟩ := isOf hZ eT E
  obtain ⟨v, _, ⟨T', L', k', n'⟩, -, X', ⟨L, hQ, rfl, rfl, rfl⟩, st⟩ := X.virtualBack hx (y := y') (z := y) hown (mvT hZ w1) (mvT hZ wd) nf (mvT hZ ws) (mvT hZ w2) hy (backOf (W := W) hC hZ w4 w3 hf hl) qa qc (g := mkF m pc Ls (argsL.reverse ++ .ref a :: rest)) rfl hsz (Steps.refl _) (argsL := argsL) (rest := rest) (lenOf hpd hlen) rfl hW hd (fun _ _ => ⟨rfl, eT, hc, hs⟩)
  exact ⟨v, T', L, X', hQ, fun t k => st.trans k⟩
theorem own_nf {y' z : MethodName} {C : String} {as : Array Value} (ws : (Jvm.Cond.selects C y' z).before as s = true) (h : z.cls = y.cls) : NotFace s y := fun r0 h0 => by
  obtain ⟨_, _, m2, -, -, q3, -, kP, hkP, hkPi⟩ := Cond.selects_spec ws
  have e1 := findClass_of_methodNamed q3
  rw [h] at e1
  have e2 : m2.cls = r0.cls := Option.some.inj (e1.symm.trans (findClass_of_methodNamed h0))
  exact ⟨kP, e2 ▸ hkP, hkPi⟩
/-- a private method of an object, by invokevirtual: its class isn't an interface (nf) -/
theorem c_priv {C : String} (X : Stand p l e R s m args below meth c T locs cells slots) (hx : p.tables.exec = Jvm.exec) (hZ : Z.Warmed39 s.vm) (hown : s.vm.findClass own = some m.cls)
    (w1 : (Jvm.Cond.methodLink own index y).before a0 Z = true) (w2 : (Jvm.Cond.instanceMethod y).before a0 Z = true) (nf : NotFace s y) (wp : (Jvm.Cond.privateMethod y).before a0 Z = true) (w3 : (Jvm.Cond.initialized y.cls).before a0 Z = true) (w4 : (Jvm.Cond.code y bytes maxL ret).before a0 Z = true) (hy : y.cls ≠ "java/lang/invoke/MethodHandle" ∧ y.cls ≠ "java/lang/invoke/VarHandle")
    (hC : Ctr l Z y bytes maxL ret [] rm rm.cells rm.slots (.ref a :: argsL).toArray h Qc) (eT : T.heap = h) (E : Exa Z h a C) (hpd : parseMethodDescriptor y.desc = some ⟨ps, r⟩) (hlen : argsL.length = ps.length) (hsz : Ls.size = c.maxLocals) (hW : 2 * 0 + (rest.map fun v => v.category).sum ≤ W)
    (hf : rm.frames + 1 ≤ R.frames) (hl : W + (maxL + 11) + rm.locals ≤ R.locals) (hc : cells + rm.cells ≤ R.cells) (hs : slots + rm.slots ≤ R.slots) (hd : decode c.code pc = .ok (.invokevirtual index, 3)) :
    ∃ (v : Option Value) (T' : State) (L : List Loc), Stand p l e R s m args below meth c T' (locs ++ L) (cells + rm.cells) (slots + rm.slots) ∧ Qc v T'.heap L ∧
      ∀ t, Steps p.tables e below (T'.setTop (mkF m (pc + 3) Ls (v.toList ++ rest))) t → Steps p.tables e below (T.setTop (mkF m pc Ls (argsL.reverse ++ .ref a :: rest))) t := by
  obtain ⟨cq, qa, qb⟩ := E.cell
  obtain ⟨mk, methM, hnamed, hmethM, hstM, habM⟩ := Cond.instanceMethod_spec (mvT (args := args) hZ w2)
  obtain ⟨methM', cM, hmethM', -, -, -, -, -, -, hsigM⟩ := Cond.code_spec hnamed (mvT (args := args) hZ w4)
  cases hmethM.symm.trans hmethM'
  obtain ⟨kP, hkP, hkPi⟩ := nf mk hnamed
  have hsel : selectMethod e.platform s.vm cq.cls mk = .method mk := selectMethod_private hmethM ((Cond.privateMethod_at (mvP hZ wp (args := #[]))) mk methM hnamed hmethM)
  obtain ⟨vm₁, X₁, hst⟩ := X.invokevirtual hx hown (mvT hZ w1) hnamed hmethM hstM hkP hkPi hy (a := a) (cell := cq) (by rw [eT]; exact qa) qb hsel hmethM habM hkP hkPi (g := mkF m pc Ls (argsL.reverse ++ .ref a :: rest)) rfl (argsL := argsL) (rest := rest) (lenOf hpd hlen _ hsigM) rfl hd
  obtain ⟨v, ⟨T', L', k', n'⟩, X', ⟨L, hQ, rfl, rfl, rfl⟩, hgo⟩ := (backOf (W := W) (len := 3) hC hZ w4 w3 hf hl) m meth c ⟨T.setVm vm₁, locs, cells, slots⟩ (mkF m pc Ls rest) (.invokevirtual index) mk (.ref a :: argsL).toArray X₁ rfl hsz hd hW (X₁.named hnamed) ⟨rfl, eT, hc, hs⟩
  exact ⟨v, T', L, X', hQ, fun t k => ((hst _ fun acts => by rw [doInvoke_state]; exact Steps.refl _).trans hgo).trans k⟩
/-- invokevirtual of a method that a class above the one that the entry names declares -/
theorem c_virtUp {y' : MethodName} {C owner : String} (X : Stand p l e R s m args below meth c T locs cells slots) (hx : p.tables.exec = Jvm.exec) (hZ : Z.Warmed39 s.vm) (hown : s.vm.findClass own = some m.cls)
    (w1 : (Jvm.Cond.methodLink own index y').before a0 Z = true) (wm : (Jvm.Cond.sameMethod y'.cls owner y'.name y'.desc).before a0 Z = true) (wd : (Jvm.Cond.declares ⟨owner, y'.name, y'.desc⟩).before a0 Z = true) (ws : (Jvm.Cond.selects C y' y).before a0 Z = true) (w2 : (Jvm.Cond.instanceMethod y).before a0 Z = true) (w3 : (Jvm.Cond.initialized y.cls).before a0 Z = true) (w4 : (Jvm.Cond.code y bytes maxL ret).before a0 Z = true) (hy : owner ≠ "java/lang/invoke/MethodHandle" ∧ owner ≠ "java/lang/invoke/VarHandle")
    (hC : Ctr l Z y bytes maxL ret [] rm rm.cells rm.slots (.ref a :: argsL).toArray h Qc) (eT : T.heap = h) (E : Exa Z h a C) (hpd : parseMethodDescriptor y'.desc = some ⟨ps, r⟩) (hlen : argsL.length = ps.length) (hsz : Ls.size = c.maxLocals) (hW : 2 * 0 + (rest.map fun v => v.category).sum ≤ W)
    (hf : rm.frames + 1 ≤ R.frames) (hl : W + (maxL + 11) + rm.locals ≤ R.locals) (hc : cells + rm.cells ≤ R.cells) (hs : slots + rm.slots ≤ R.slots) (hd : decode c.code pc = .ok (.invokevirtual index, 3)) :
    ∃ (v : Option Value) (T' : State) (L : List Loc), Stand p l e R s m args below meth c T' (locs ++ L) (cells + rm.cells) (slots + rm.slots) ∧ Qc v T'.heap L ∧
      ∀ t, Steps p.tables e below (T'.setTop (mkF m (pc + 3) Ls (v.toList ++ rest))) t → Steps p.tables e below (T.setTop (mkF m pc Ls (argsL.reverse ++ .ref a :: rest))) t := by
  obtain ⟨cq, kq, qa, qb, qc⟩ := isOf hZ eT E
  obtain ⟨v, _, ⟨T', L', k', n'⟩, -, X', ⟨L, hQ, rfl, rfl, rfl⟩, st⟩ := X.virtualBackUp hx (x := y') (y := y) hown (mvT hZ w1) (mvT hZ wm) (mvT hZ wd) hy (mvT hZ ws) (mvT hZ w2) (backOf (W := W) hC hZ w4 w3 hf hl) qa qc (g := mkF m pc Ls (argsL.reverse ++ .ref a :: rest)) rfl hsz (Steps.refl _) (argsL := argsL) (rest := rest) (lenOf hpd hlen) rfl hW hd (fun _ _ => ⟨rfl, eT, hc, hs⟩)
  exact ⟨v, T', L, X', hQ, fun t k => st.trans k⟩
end Calls
end Own
/-! arrays by a function of the place -/
def upd (f : Nat → Value) (k : Nat) (v : Value) : Nat → Value := fun i => if i = k then v else f i
def lst (L : List Value) : Nat → Value := fun i => L.getD i .null
theorem upd_eq {f : Nat → Value} {k : Nat} {v : Value} : upd f k v k = v := if_pos rfl
theorem upd_ne {f : Nat → Value} {k i : Nat} {v : Value} (h : i ≠ k) : upd f k v i = f i := if_neg h
def AV (Z : State) (h : Heap) (a : Addr) (ty : FieldType) (n : Nat) (f : Nat → Value) : Prop := ∃ c : Cell, Arr Z h a c ty ∧ c.slots.size = n ∧ n < 2147483648 ∧ ∀ i, i < n → c.slots[i]? = some (f i)
section Arrays
variable {Z : State} {h h' : Heap} {a b : Addr} {ty : FieldType} {n k : Nat} {f g : Nat → Value} {v w : Value} {j : Int32} {ws : List Addr} {sl : Nat}
theorem AV.lt (A : AV Z h a ty n f) : a < h.size := by obtain ⟨c, A, -⟩ := A; exact A.lt
theorem AV.ext (A : AV Z h a ty n f) (E : Ext h h') : AV Z h' a ty n f := by obtain ⟨c, A, r⟩ := A; exact ⟨c, A.ext E, r⟩
theorem AV.other (A : AV Z h b ty n f) (W : Wr h h' a sl v) (q : b ≠ a) : AV Z h' b ty n f := by obtain ⟨c, A, r⟩ := A; exact ⟨c, A.other W q, r⟩
theorem AV.keep (A : AV Z h a ty n f) (K : Keep h h' ws) (q : a ∉ ws) : AV Z h' a ty n f := by obtain ⟨c, A, r⟩ := A; exact ⟨c, ⟨K.2.1 a c A.1 q, A.2⟩, r⟩
theorem AV.congr (A : AV Z h a ty n f) (q : ∀ i, i < n → f i = g i) : AV Z h a ty n g := by obtain ⟨c, A, r1, r2, r3⟩ := A; exact ⟨c, A, r1, r2, fun i hi => by rw [r3 i hi, q i hi]⟩
theorem AV.bound (A : AV Z h a ty n f) : n < 2147483648 := by obtain ⟨c, A, r1, r2, r3⟩ := A; exact r2
theorem clamp_of (hj : j.toInt = (k : Int)) : j.toNatClampNeg = k := by show j.toInt.toNat = k; rw [hj]; rfl
theorem in_of {c : Cell} (hj : j.toInt = (k : Int)) (hs : c.slots.size = n) (hk : k < n) : ¬ (j < 0 ∨ c.slots.size ≤ j.toNatClampNeg) := by
  rw [clamp_of hj, hs, Int32.lt_iff_toInt_lt, hj]; simp only [Int32.reduceToInt]; omega
theorem AV.new {cA : ClassId} {z : Int32} (A : Arr Z h a (newA cA ty z) ty) (hz : z.toInt = (n : Int)) : AV Z h a ty n (fun _ => defaultValue ty) := by
  have q := clamp_of hz
  have hb := Int32.toInt_lt z
  refine ⟨_, A, by rw [sz_new]; exact q, by omega, fun i hi => ?_⟩
  have hi' : i < z.toNatClampNeg := by rw [q]; exact hi
  simp [newA, hi']
theorem AV.at (A : AV Z h a ty n f) (hj : j.toInt = (k : Int)) (hk : k < n) : ∃ cl : Cell, Arr Z h a cl ty ∧ ¬ (j < 0 ∨ cl.slots.size ≤ j.toNatClampNeg) ∧ cl.slots[j.toNatClampNeg]? = some (f k) := by
  obtain ⟨c, A, r1, r2, r3⟩ := A
  exact ⟨c, A, in_of hj r1 hk, by rw [clamp_of hj]; exact r3 k hk⟩
theorem AV.set (A : AV Z h a ty n f) (hj : j.toInt = (k : Int)) (hk : k < n) (W : Wr h h' a j.toNatClampNeg v) : AV Z h' a ty n (upd f k v) := by
  obtain ⟨c, A, r1, r2, r3⟩ := A
  refine ⟨_, A.same W, by rw [sz_set]; exact r1, r2, fun i hi => ?_⟩
  rw [clamp_of hj]
  by_cases e : i = k
  · subst e; simp [Cell.setSlot, r1, hi, upd]
  · rw [upd_ne e, ← r3 i hi]; exact Array.getElem?_setIfInBounds_ne (Ne.symm e)
theorem AV.setL {L L' : List Value} (A : AV Z h a ty n (lst L)) (hj : j.toInt = (k : Int)) (hk : k < n) (W : Wr h h' a j.toNatClampNeg v) (hl : k < L.length) (e : L.set k v = L') : AV Z h' a ty n (lst L') := by
  subst e
  refine (A.set hj hk W).congr fun i hi => ?_
  by_cases q : i = k
  · subst q; simp [upd, lst, List.getD_eq_getElem?_getD, hl]
  · rw [upd_ne q]; simp [lst, List.getD_eq_getElem?_getD, List.getElem?_set_ne (Ne.symm q)]
theorem AV.newL {L : List Value} (A : AV Z h a ty n (fun _ => v)) (e : L = List.replicate n v) : AV Z h a ty n (lst L) := by
  subst e; refine A.congr fun i hi => ?_
  simp [lst, List.getD_eq_getElem?_getD, List.getElem?_replicate, hi]
theorem AV.len (A : AV Z h a ty n f) : ∃ cl : Cell, Arr Z h a cl ty ∧ cl.slots.size.toInt32 = Int32.ofNat n := by
  obtain ⟨c, A, r1, r2, r3⟩ := A; exact ⟨c, A, by rw [r1]⟩
theorem own_cls {cA : ClassId} {z : Int32} {ad : String} (A : Arr Z h a (newA cA ty z) ty) (E : Exa Z h a ad) : Z.vm.findClass ad = some cA := by
  obtain ⟨cell, k, e1, e2, -⟩ := E
  cases A.1.symm.trans e1
  exact e2
theorem own_sto {cA : ClassId} {cl : Cell} {ad C : String} {y : Addr} (A : Arr Z h a cl ty) (E : Exa Z h a ad) (hA : Z.vm.findClass ad = some cA) (O : Ovr Z cA C) (I : Ins Z h y C true) : Sto Z h a (.ref y) := by
  obtain ⟨cell, k, e1, e2, -⟩ := E
  cases A.1.symm.trans e1
  have q : cl.cls = cA := Option.some.inj (e2.symm.trans hA)
  exact Sto.of A (q ▸ O) I
theorem own_sta_keep {C n' d : String} (F : Sta Z h C n' d v) (K : Keep h h' []) : Sta Z h' C n' d v := by
  obtain ⟨cf, i, k, f, st, cell, h1, h2, h3, h4, h5, h6, h7⟩ := F
  exact ⟨cf, i, k, f, st, cell, h1, h2, h3, h4, K.2.1 _ _ h5 (fun q => nomatch q), h6, h7⟩
end Arrays
section ASteps
variable {p : Program} {l : Launch} {e : Env} {R : Room} {s : State} {m : MethodId} {args : Array Value} {below : List Frame} {meth : Method} {c : Code} {T : State} {locs : List Loc} {cells slots : Nat} {Z : State} {a0 : Array Value} {h : Heap} {a : Addr} {n k pc : Nat} {f : Nat → Value} {j : Int32} {Ls : Array Slot} {rest : List Value}
theorem a_iload (X : Stand p l e R s m args below meth c T locs cells slots) (hx : p.tables.exec = Jvm.exec) (hZ : Z.Warmed39 s.vm) (eT : T.heap = h) (A : AV Z h a .int n f) (hj : j.toInt = (k : Int)) (hk : k < n) {x : Int32} (hv : f k = .int x) (hd : decode c.code pc = .ok (.iaload, 1)) :
    ∀ t, Steps p.tables e below (T.setTop (mkF m (pc + 1) Ls (.int x :: rest))) t → Steps p.tables e below (T.setTop (mkF m pc Ls (.int j :: .ref a :: rest))) t := by
  obtain ⟨cl, A, hin, hat⟩ := A.at hj hk
  rw [hv] at hat
  exact X.iaload hx (j := j) (v := .int x) (by rw [eT]; exact A.1) (State.isArrayOf_alike hZ.alike A.2.1) A.2.2 hin hat (g := mkF m pc Ls (.int j :: .ref a :: rest)) rfl rfl hd
theorem a_cload (X : Stand p l e R s m args below meth c T locs cells slots) (hx : p.tables.exec = Jvm.exec) (hZ : Z.Warmed39 s.vm) (eT : T.heap = h) (A : AV Z h a .char n f) (hj : j.toInt = (k : Int)) (hk : k < n) {x : Int32} (hv : f k = .int x) (hd : decode c.code pc = .ok (.caload, 1)) :
    ∀ t, Steps p.tables e below (T.setTop (mkF m (pc + 1) Ls (.int x :: rest))) t → Steps p.tables e below (T.setTop (mkF m pc Ls (.int j :: .ref a :: rest))) t := by
  obtain ⟨cl, A, hin, hat⟩ := A.at hj hk
  rw [hv] at hat
  exact X.caload hx (j := j) (v := .int x) (by rw [eT]; exact A.1) (State.isArrayOf_alike hZ.alike A.2.1) A.2.2 hin hat (g := mkF m pc Ls (.int j :: .ref a :: rest)) rfl rfl hd
theorem a_bload (X : Stand p l e R s m args below meth c T locs cells slots) (hx : p.tables.exec = Jvm.exec) (hZ : Z.Warmed39 s.vm) (eT : T.heap = h) (A : AV Z h a .byte n f) (hj : j.toInt = (k : Int)) (hk : k < n) {x : Int32} (hv : f k = .int x) (hd : decode c.code pc = .ok (.baload, 1)) :
    ∀ t, Steps p.tables e below (T.setTop (mkF m (pc + 1) Ls (.int x :: rest))) t → Steps p.tables e below (T.setTop (mkF m pc Ls (.int j :: .ref a :: rest))) t := by
  obtain ⟨cl, A, hin, hat⟩ := A.at hj hk
  rw [hv] at hat
  exact X.baloadBytes hx (j := j) (v := .int x) (by rw [eT]; exact A.1) (State.isArrayOf_alike hZ.alike A.2.1) A.2.2 hin hat (g := mkF m pc Ls (.int j :: .ref a :: rest)) rfl rfl hd
theorem a_jload (X : Stand p l e R s m args below meth c T locs cells slots) (hx : p.tables.exec = Jvm.exec) (hZ : Z.Warmed39 s.vm) (eT : T.heap = h) (A : AV Z h a .long n f) (hj : j.toInt = (k : Int)) (hk : k < n) {x : Int64} (hv : f k = .long x) (hd : decode c.code pc = .ok (.laload, 1)) :
    ∀ t, Steps p.tables e below (T.setTop (mkF m (pc + 1) Ls (.long x :: rest))) t → Steps p.tables e below (T.setTop (mkF m pc Ls (.int j :: .ref a :: rest))) t := by
  obtain ⟨cl, A, hin, hat⟩ := A.at hj hk
  rw [hv] at hat
  exact X.laload hx (j := j) (v := .long x) (by rw [eT]; exact A.1) (State.isArrayOf_alike hZ.alike A.2.1) A.2.2 hin hat (g := mkF m pc Ls (.int j :: .ref a :: rest)) rfl rfl hd
theorem a_rload {ty : FieldType} (X : Stand p l e R s m args below meth c T locs cells slots) (hx : p.tables.exec = Jvm.exec) (hZ : Z.Warmed39 s.vm) (eT : T.heap = h) (A : AV Z h a ty n f) (ht : ty.isReference = true) (hj : j.toInt = (k : Int)) (hk : k < n) {v : Value} (hv : f k = v) (hd : decode c.code pc = .ok (.aaload, 1)) :
    ∀ t, Steps p.tables e below (T.setTop (mkF m (pc + 1) Ls (v :: rest))) t → Steps p.tables e below (T.setTop (mkF m pc Ls (.int j :: .ref a :: rest))) t := by
  obtain ⟨cl, A, hin, hat⟩ := A.at hj hk
  rw [hv] at hat
  exact X.aaload hx (j := j) (v := v) (by rw [eT]; exact A.1) (State.isArrayOf_alike hZ.alike A.2.1) ht A.2.2 hin hat (g := mkF m pc Ls (.int j :: .ref a :: rest)) rfl rfl hd
theorem a_len {ty : FieldType} (X : Stand p l e R s m args below meth c T locs cells slots) (hx : p.tables.exec = Jvm.exec) (hZ : Z.Warmed39 s.vm) (eT : T.heap = h) (A : AV Z h a ty n f) {z : Int32} (hz : z.toInt = (n : Int)) (hd : decode c.code pc = .ok (.arraylength, 1)) :
    ∀ t, Steps p.tables e below (T.setTop (mkF m (pc + 1) Ls (.int z :: rest))) t → Steps p.tables e below (T.setTop (mkF m pc Ls (.ref a :: rest))) t := by
  obtain ⟨cl, A, hin⟩ := A.len
  have hb := Int32.toInt_lt z
  have q : cl.slots.size.toInt32 = z := by rw [hin]; exact Int32.toInt_inj.mp (by rw [hz]; exact Int32.toInt_ofNat_of_lt (by omega))
  intro t k
  refine X.arraylength hx (by rw [eT]; exact A.1) (State.isArrayOf_alike hZ.alike A.2.1) (g := mkF m pc Ls (.ref a :: rest)) rfl rfl hd _ ?_
  rw [q]; exact k
end ASteps
abbrev ofs (x : Int32) (c0 c1 c2 c3 c4 c5 : Addr) : Addr := if (1 : Int32) = x then c0 else if (5 : Int32) = x then c1 else if (2 : Int32) = x then c2 else if (3 : Int32) = x then c3 else if (0 : Int32) = x then c4 else if (4 : Int32) = x then c5 else c5
theorem own_sel {P : Addr → Prop} {x : Int32} {c0 c1 c2 c3 c4 c5 : Addr} (h0 : P c0) (h1 : P c1) (h2 : P c2) (h3 : P c3) (h4 : P c4) (h5 : P c5) : P (ofs x c0 c1 c2 c3 c4 c5) := by
  unfold ofs
  repeat' split
  all_goals assumption
theorem own_reg {x : Int32} {c0 c1 c2 c3 c4 c5 : Addr} (n02 : c0 ≠ c2) (n03 : c0 ≠ c3) (n04 : c0 ≠ c4) (n05 : c0 ≠ c5) (n12 : c1 ≠ c2) (n13 : c1 ≠ c3) (n14 : c1 ≠ c4) (n15 : c1 ≠ c5) : (ofs x c0 c1 c2 c3 c4 c5 = c0 ∨ ofs x c0 c1 c2 c3 c4 c5 = c1) ↔ ((x = (1 : Int32)) ∨ (x = (5 : Int32))) := by
  unfold ofs
  by_cases h1 : (1 : Int32) = x
  · rw [if_pos h1]; subst h1; simp
  · rw [if_neg h1]
    by_cases h2 : (5 : Int32) = x
    · rw [if_pos h2]; subst h2; simp
    · rw [if_neg h2]
      refine iff_of_false ?_ (fun q => q.elim (fun e => h1 e.symm) (fun e => h2 e.symm))
      split
      · exact fun q => q.elim (fun e => n02 e.symm) (fun e => n12 e.symm)
      · split
        · exact fun q => q.elim (fun e => n03 e.symm) (fun e => n13 e.symm)
        · split
          · exact fun q => q.elim (fun e => n04 e.symm) (fun e => n14 e.symm)
          · split
            · exact fun q => q.elim (fun e => n05 e.symm) (fun e => n15 e.symm)
            · exact fun q => q.elim (fun e => n05 e.symm) (fun e => n15 e.symm)
theorem own_idx (x : Int32) : ∃ n : Nat, n < 6 ∧ ((x &&& (2147483647 : Int32)) % (6 : Int32)) = Int32.ofNat n := by
  have h1 := c_mask x 2147483647 31 (by decide) (by decide)
  have h2 := (c_irem (x &&& 2147483647) 6 6 (by decide)).1
  refine ⟨((x &&& 2147483647) % 6).toInt.toNat, by omega, Int32.toInt_inj.mp ?_⟩
  rw [Int32.toInt_ofNat_of_lt (by omega)]; omega
theorem ef_rmS (m : MethodId) (x0 : Addr) : entryFrame m #[(.ref x0)] 1 = mkF m 0 #[.val (.ref x0)] [] := by first | (simp [entryFrame, mkF, argsToLocals, Value.category]; done) | rfl
theorem pn_0 : plainName "com/example/bearer/bearer/model/Registration" = true := by first | (simp [plainName, overriddenIn]; done) | decide +kernel
theorem d1_0 : decode prog_29_method_5_code 0 = .ok (.aload_n 0, 1) := by decide +kernel
theorem d1_1 : decode prog_29_method_5_code 1 = .ok (.getfield 41, 3) := by decide +kernel
theorem d1_4 : decode prog_29_method_5_code 4 = .ok (.ireturn, 1) := by decide +kernel
set_option maxRecDepth 65536 in
set_option maxHeartbeats 40000000 in
theorem rmS (l : Launch) (Z : State) (a0 : Array Value) (hw : ∀ d ∈ tables_1, d.before a0 Z = true) (ws : List Jvm.Cond) (a : Addr) (u : Int32) (h0 : Heap) (n0 : Nat) (Z0 : n0 ≤ h0.size) (F : Fld Z h0 a "com/example/bearer/bearer/model/Registration" "stat" "I" (.int u)) :
    Ctr l Z (⟨"com/example/bearer/bearer/model/Registration", "stat", "()I"⟩ : MethodName) prog_29_method_5_code 1 (some .int) ws ({ frames := 0, cells := 0, slots := 0, locals := 0 } : Room) 0 0 #[(.ref a)] h0 (fun v h L => v = some (.int u) ∧ L = [] ∧ h = h0) := by
  refine Ctr.mk (plainFor_of_name pn_0) fun p e s m below meth c T0 X0 C e0 => go_cast (ef_rmS m a) ?_
  have N0 := Fr.nil n0
  obtain ⟨hx, hZ, hby, hml, hown, hnm, hret, hlk⟩ := C
  show Go _ _ _ _ _ _ _ T0 (mkF m 0 #[.val (.ref a)] [])
  refine Go.step (fun t k => XS.aloadN X0.here hx rfl (hb hby d1_0) rfl rfl k) ?_
  show Go _ _ _ _ _ _ _ T0 (mkF m 1 #[.val (.ref a)] [(.ref a)])
  obtain ⟨T1, X1, e1, st1⟩ := getF X0 hx hZ hown (host := "") (Or.inl (hw _ (List.mem_of_getElem? (i := 22) rfl))) Via.refl e0 F (g := (mkF m 1 #[.val (.ref a)] [(.ref a)])) rfl rfl (hb hby d1_1)
  refine Go.step (st1) ?_
  show Go _ _ _ _ _ _ _ T1 (mkF m 4 #[.val (.ref a)] [(.int u)])
  refine go_retI X1 hx hret hlk (hb hby d1_4) ?_ (by decide) (by decide)
  try rw [e1]
  exact ⟨rfl, rfl, rfl⟩
theorem ef_rmR (m : MethodId) (x0 : Addr) : entryFrame m #[(.ref x0)] 1 = mkF m 0 #[.val (.ref x0)] [] := by first | (simp [entryFrame, mkF, argsToLocals, Value.category]; done) | rfl
theorem d2_0 : decode prog_29_method_6_code 0 = .ok (.aload_n 0, 1) := by decide +kernel
theorem d2_1 : decode prog_29_method_6_code 1 = .ok (.getstatic 3, 3) := by decide +kernel
theorem d2_4 : decode prog_29_method_6_code 4 = .ok (.if_acmp .eq 10, 3) := by decide +kernel
theorem d2_14 : decode prog_29_method_6_code 14 = .ok (.iconst 1, 1) := by decide +kernel
theorem d2_15 : decode prog_29_method_6_code 15 = .ok (.goto 4, 3) := by decide +kernel
theorem d2_19 : decode prog_29_method_6_code 19 = .ok (.ireturn, 1) := by decide +kernel
theorem d2_7 : decode prog_29_method_6_code 7 = .ok (.aload_n 0, 1) := by decide +kernel
theorem d2_8 : decode prog_29_method_6_code 8 = .ok (.getstatic 7, 3) := by decide +kernel
theorem d2_11 : decode prog_29_method_6_code 11 = .ok (.if_acmp .ne 7, 3) := by decide +kernel
theorem d2_18 : decode prog_29_method_6_code 18 = .ok (.iconst 0, 1) := by decide +kernel
set_option maxRecDepth 65536 in
set_option maxHeartbeats 40000000 in
theorem rmR (l : Launch) (Z : State) (a0 : Array Value) (hw : ∀ d ∈ tables_1, d.before a0 Z = true) (ws : List Jvm.Cond) (a c0 c1 : Addr) (h0 : Heap) (n0 : Nat) (Z0 : n0 ≤ h0.size) (Sc0 : Sta Z h0 "com/example/bearer/bearer/model/Registration" "HOME" "Lcom/example/bearer/bearer/model/Registration;" (.ref c0)) (Sc1 : Sta Z h0 "com/example/bearer/bearer/model/Registration" "ROAMING" "Lcom/example/bearer/bearer/model/Registration;" (.ref c1)) :
    Ctr l Z (⟨"com/example/bearer/bearer/model/Registration", "isRegistered", "()Z"⟩ : MethodName) prog_29_method_6_code 1 (some .boolean) ws ({ frames := 0, cells := 0, slots := 0, locals := 0 } : Room) 0 0 #[(.ref a)] h0 (fun v h L => v = some (.int (bi (a = c0 ∨ a = c1))) ∧ L = [] ∧ h = h0) := by
  refine Ctr.mk (plainFor_of_name pn_0) fun p e s m below meth c T0 X0 C e0 => go_cast (ef_rmR m a) ?_
  have N0 := Fr.nil n0
  obtain ⟨hx, hZ, hby, hml, hown, hnm, hret, hlk⟩ := C
  show Go _ _ _ _ _ _ _ T0 (mkF m 0 #[.val (.ref a)] [])
  refine Go.step (fun t k => XS.aloadN X0.here hx rfl (hb hby d2_0) rfl rfl k) ?_
  show Go _ _ _ _ _ _ _ T0 (mkF m 1 #[.val (.ref a)] [(.ref a)])
  obtain ⟨T1, X1, e1, st1⟩ := getS2 X0 hx hZ hown (host := "") (Or.inl (hw _ (List.mem_of_getElem? (i := 29) rfl))) Via.refl e0 Sc0 (g := (mkF m 1 #[.val (.ref a)] [(.ref a)])) rfl (hb hby d2_1)
  refine Go.step (st1) ?_
  show Go _ _ _ _ _ _ _ T1 (mkF m 4 #[.val (.ref a)] [(.ref c0), (.ref a)])
  by_cases c4_2 : a = c0
  · refine Go.step (fun t k => Jvm.RoadKit.acmp (g := (mkF m 4 #[.val (.ref a)] [(.ref c0), (.ref a)])) X1 hx rfl rfl rfl (pc0 := 4) (pc' := 14) (same := true) rfl (hb hby d2_4) rfl (decide_eq_true (congrArg Value.ref c4_2)) (by decide) (by decide) k) ?_
    show Go _ _ _ _ _ _ _ T1 (mkF m 14 #[.val (.ref a)] [])
    refine Go.step (fun t k => XS.iconst X1.here hx rfl (hb hby d2_14) k) ?_
    show Go _ _ _ _ _ _ _ T1 (mkF m 15 #[.val (.ref a)] [(.int (1 : Int32))])
    refine Go.step (fun t k => XS.goto X1.here hx rfl (pc0 := 15) (pc' := 19) rfl (hb hby d2_15) (by decide) (by decide) k) ?_
    show Go _ _ _ _ _ _ _ T1 (mkF m 19 #[.val (.ref a)] [(.int (1 : Int32))])
    refine go_retN X1 hx (t := .boolean) hret (by simp) hlk (hb hby d2_19) (w := (1 : Int32)) rfl ?_ (by decide) (by decide)
    try rw [e1]
    exact ⟨congrArg (fun z => some (Value.int z)) (bi_t (by simp only [eq_true c4_2, not_true_eq_false, not_false_eq_true, and_true, true_and, and_false, false_and, or_true, true_or, or_false, false_or, and_self, or_self])).symm, rfl, rfl⟩
  · refine Go.step (fun t k => Jvm.RoadKit.acmp (g := (mkF m 4 #[.val (.ref a)] [(.ref c0), (.ref a)])) X1 hx rfl rfl rfl (pc0 := 4) (pc' := 7) (same := false) rfl (hb hby d2_4) rfl (decide_eq_false fun q => c4_2 (Value.ref.inj q)) (by decide) (by decide) k) ?_
    show Go _ _ _ _ _ _ _ T1 (mkF m 7 #[.val (.ref a)] [])
    refine Go.step (fun t k => XS.aloadN X1.here hx rfl (hb hby d2_7) rfl rfl k) ?_
    show Go _ _ _ _ _ _ _ T1 (mkF m 8 #[.val (.ref a)] [(.ref a)])
    obtain ⟨T3, X3, e3, st3⟩ := getS2 X1 hx hZ hown (host := "") (Or.inl (hw _ (List.mem_of_getElem? (i := 48) rfl))) Via.refl e1 Sc1 (g := (mkF m 8 #[.val (.ref a)] [(.ref a)])) rfl (hb hby d2_8)
    refine Go.step (st3) ?_
    show Go _ _ _ _ _ _ _ T3 (mkF m 11 #[.val (.ref a)] [(.ref c1), (.ref a)])
    by_cases c11_4 : a = c1
    · refine Go.step (fun t k => Jvm.RoadKit.acmp (g := (mkF m 11 #[.val (.ref a)] [(.ref c1), (.ref a)])) X3 hx rfl rfl rfl (pc0 := 11) (pc' := 14) (same := true) rfl (hb hby d2_11) rfl (decide_eq_true (congrArg Value.ref c11_4)) (by decide) (by decide) k) ?_
      show Go _ _ _ _ _ _ _ T3 (mkF m 14 #[.val (.ref a)] [])
      refine Go.step (fun t k => XS.iconst X3.here hx rfl (hb hby d2_14) k) ?_
      show Go _ _ _ _ _ _ _ T3 (mkF m 15 #[.val (.ref a)] [(.int (1 : Int32))])
      refine Go.step (fun t k => XS.goto X3.here hx rfl (pc0 := 15) (pc' := 19) rfl (hb hby d2_15) (by decide) (by decide) k) ?_
      show Go _ _ _ _ _ _ _ T3 (mkF m 19 #[.val (.ref a)] [(.int (1 : Int32))])
      refine go_retN X3 hx (t := .boolean) hret (by simp) hlk (hb hby d2_19) (w := (1 : Int32)) rfl ?_ (by decide) (by decide)
      try rw [e3]
      exact ⟨congrArg (fun z => some (Value.int z)) (bi_t (by simp only [eq_false c4_2, eq_true c11_4, not_true_eq_false, not_false_eq_true, and_true, true_and, and_false, false_and, or_true, true_or, or_false, false_or, and_self, or_self])).symm, rfl, rfl⟩
    · refine Go.step (fun t k => Jvm.RoadKit.acmp (g := (mkF m 11 #[.val (.ref a)] [(.ref c1), (.ref a)])) X3 hx rfl rfl rfl (pc0 := 11) (pc' := 18) (same := false) rfl (hb hby d2_11) rfl (decide_eq_false fun q => c11_4 (Value.ref.inj q)) (by decide) (by decide) k) ?_
      show Go _ _ _ _ _ _ _ T3 (mkF m 18 #[.val (.ref a)] [])
      refine Go.step (fun t k => XS.iconst X3.here hx rfl (hb hby d2_18) k) ?_
      show Go _ _ _ _ _ _ _ T3 (mkF m 19 #[.val (.ref a)] [(.int (0 : Int32))])
      refine go_retN X3 hx (t := .boolean) hret (by simp) hlk (hb hby d2_19) (w := (0 : Int32)) rfl ?_ (by decide) (by decide)
      try rw [e3]
      exact ⟨congrArg (fun z => some (Value.int z)) (bi_f (by simp only [eq_false c4_2, eq_false c11_4, not_true_eq_false, not_false_eq_true, and_true, true_and, and_false, false_and, or_true, true_or, or_false, false_or, and_self, or_self])).symm, rfl, rfl⟩
theorem ef_rmV (m : MethodId)  : entryFrame m #[] 0 = mkF m 0 #[] [] := by first | (simp [entryFrame, mkF, argsToLocals, Value.category]; done) | rfl
theorem d4_0 : decode prog_29_method_1_code 0 = .ok (.getstatic 22, 3) := by decide +kernel
theorem d4_3 : decode prog_29_method_1_code 3 = .ok (.invokevirtual 26, 3) := by decide +kernel
theorem d4_6 : decode prog_29_method_1_code 6 = .ok (.checkcast 27, 3) := by decide +kernel
theorem d4_9 : decode prog_29_method_1_code 9 = .ok (.areturn, 1) := by decide +kernel
set_option maxRecDepth 65536 in
set_option maxHeartbeats 40000000 in
theorem rmV (l : Launch) (Z : State) (a0 : Array Value) (hw : ∀ d ∈ tables_1, d.before a0 Z = true) (ws : List Jvm.Cond) (c0 c1 c2 c3 c4 c5 va : Addr) (h0 : Heap) (n0 : Nat) (Z0 : n0 ≤ h0.size) (Sc0 : Sta Z h0 "com/example/bearer/bearer/model/Registration" "HOME" "Lcom/example/bearer/bearer/model/Registration;" (.ref c0)) (Sc1 : Sta Z h0 "com/example/bearer/bearer/model/Registration" "ROAMING" "Lcom/example/bearer/bearer/model/Registration;" (.ref c1)) (Sc2 : Sta Z h0 "com/example/bearer/bearer/model/Registration" "SEARCHING" "Lcom/example/bearer/bearer/model/Registration;" (.ref c2)) (Sc3 : Sta Z h0 "com/example/bearer/bearer/model/Registration" "DENIED" "Lcom/example/bearer/bearer/model/Registration;" (.ref c3)) (Sc4 : Sta Z h0 "com/example/bearer/bearer/model/Registration" "NOT_REGISTERED" "Lcom/example/bearer/bearer/model/Registration;" (.ref c4)) (Sc5 : Sta Z h0 "com/example/bearer/bearer/model/Registration" "UNKNOWN" "Lcom/example/bearer/bearer/model/Registration;" (.ref c5)) (Ec0 : Exa Z h0 c0 "com/example/bearer/bearer/model/Registration") (Ec1 : Exa Z h0 c1 "com/example/bearer/bearer/model/Registration") (Ec2 : Exa Z h0 c2 "com/example/bearer/bearer/model/Registration") (Ec3 : Exa Z h0 c3 "com/example/bearer/bearer/model/Registration") (Ec4 : Exa Z h0 c4 "com/example/bearer/bearer/model/Registration") (Ec5 : Exa Z h0 c5 "com/example/bearer/bearer/model/Registration") (Fc0 : Fld Z h0 c0 "com/example/bearer/bearer/model/Registration" "stat" "I" (.int (1 : Int32))) (Fc1 : Fld Z h0 c1 "com/example/bearer/bearer/model/Registration" "stat" "I" (.int (5 : Int32))) (Fc2 : Fld Z h0 c2 "com/example/bearer/bearer/model/Registration" "stat" "I" (.int (2 : Int32))) (Fc3 : Fld Z h0 c3 "com/example/bearer/bearer/model/Registration" "stat" "I" (.int (3 : Int32))) (Fc4 : Fld Z h0 c4 "com/example/bearer/bearer/model/Registration" "stat" "I" (.int (0 : Int32))) (Fc5 : Fld Z h0 c5 "com/example/bearer/bearer/model/Registration" "stat" "I" (.int (4 : Int32))) (SV : Sta Z h0 "com/example/bearer/bearer/model/Registration" "$VALUES" "[Lcom/example/bearer/bearer/model/Registration;" (.ref va)) (EV : Exa Z h0 va "[Lcom/example/bearer/bearer/model/Registration;") (VV : AV Z h0 va (.object "com/example/bearer/bearer/model/Registration") 6 (lst [(.ref c0), (.ref c1), (.ref c2), (.ref c3), (.ref c4), (.ref c5)])) :
    Ctr l Z (⟨"com/example/bearer/bearer/model/Registration", "values", "()[Lcom/example/bearer/bearer/model/Registration;"⟩ : MethodName) prog_29_method_1_code 0 (some (.array (.object "com/example/bearer/bearer/model/Registration"))) ws ({ frames := 1, cells := 1, slots := 6, locals := 14 } : Room) 1 6 #[] h0 (fun v h L => ∃ b, v = some (.ref b) ∧ Fr n0 L ∧ Keep h0 h [] ∧ h0.size ≤ b ∧ AV Z h b (.object "com/example/bearer/bearer/model/Registration") 6 (lst [(.ref c0), (.ref c1), (.ref c2), (.ref c3), (.ref c4), (.ref c5)])) := by
  refine Ctr.mk (plainFor_of_name pn_0) fun p e s m below meth c T0 X0 C e0 => go_cast (ef_rmV m ) ?_
  have N0 := Fr.nil n0
  obtain ⟨hx, hZ, hby, hml, hown, hnm, hret, hlk⟩ := C
  obtain ⟨hI, eI⟩ : ∃ z, z = h0 := ⟨_, rfl⟩
  have K0 : Keep hI h0 [] := by rw [eI]; exact Keep.refl _ _
  show Go _ _ _ _ _ _ _ T0 (mkF m 0 #[] [])
  obtain ⟨T1, X1, e1, st1⟩ := getS2 X0 hx hZ hown (host := "") (Or.inl (hw _ (List.mem_of_getElem? (i := 36) rfl))) Via.refl e0 SV (g := (mkF m 0 #[] [])) rfl (hb hby d4_0)
  refine Go.step (st1) ?_
  show Go _ _ _ _ _ _ _ T1 (mkF m 3 #[] [(.ref va)])
  obtain ⟨cl2, Ar2, S2, -, H2⟩ := (show AV _ _ _ _ _ _ from VV)
  have FC2 : FitC Z cl2 := fitC_of Ar2 fun i hi v hv => by
    have hi6 : i < 6 := by rw [← S2]; exact hi
    rw [H2 i hi6] at hv
    cases hv
    rcases (by omega : i = 0 ∨ i = 1 ∨ i = 2 ∨ i = 3 ∨ i = 4 ∨ i = 5) with rfl | rfl | rfl | rfl | rfl | rfl <;> rfl
  obtain ⟨T2, h2, X2, e2, E2, A2, EA2, st2⟩ := cloneA X1 hx hZ hown (hw _ (List.mem_of_getElem? (i := 38) rfl)) (hw _ (List.mem_of_getElem? (i := 39) rfl)) (hw _ (List.mem_of_getElem? (i := 43) rfl)) (hw _ (List.mem_of_getElem? (i := 41) rfl)) (hw _ (List.mem_of_getElem? (i := 42) rfl)) (hw _ (List.mem_of_getElem? (i := 44) rfl)) e1 Ar2 EV FC2 (g := (mkF m 3 #[] [(.ref va)])) rfl (by rw [hml]; rfl) rfl (hb hby d4_3) (by decide) (W := 0) (by show 2 * 0 + _ ≤ _; exact Nat.le_of_eq rfl) (by decide) (cap := 6) (by rw [S2]; exact Nat.le_refl _) (by decide) (by decide)
  obtain ⟨b2, g2⟩ : ∃ z, z = h0.size := ⟨_, rfl⟩
  rw [← g2] at A2 EA2 st2
  have gn_b2 : n0 ≤ b2 := Nat.le_trans Z0 (Nat.le_of_eq g2.symm)
  have sz_b2 : hI.size ≤ b2 := Nat.le_trans K0.1 (Nat.le_of_eq g2.symm)
  have Z2 : n0 ≤ h2.size := Nat.le_trans Z0 E2.1
  have K2 : Keep hI h2 [] := K0.ext E2
  have V2 : AV Z h2 b2 (.object "com/example/bearer/bearer/model/Registration") 6 (lst [(.ref c0), (.ref c1), (.ref c2), (.ref c3), (.ref c4), (.ref c5)]) := ⟨_, A2, S2, by omega, H2⟩
  refine Go.step (st2) ?_
  show Go _ _ _ _ _ _ _ T2 (mkF m 6 #[] [(.ref b2)])
  obtain ⟨T3, X3, e3, st3⟩ := castY X2 hx hZ hown (hw _ (List.mem_of_getElem? (i := 46) rfl)) e2 (Ins.self EA2) (g := (mkF m 6 #[] [(.ref b2)])) rfl rfl (hb hby d4_6)
  refine Go.step (st3) ?_
  show Go _ _ _ _ _ _ _ T3 (mkF m 9 #[] [(.ref b2)])
  refine go_retA X3 hx (t := (.array (.object "com/example/bearer/bearer/model/Registration"))) hret rfl hlk rfl (hb hby d4_9) ?_ (by decide) (by decide)
  try rw [e3]
  exact ⟨b2, rfl, N0, eI ▸ K2, eI ▸ sz_b2, V2⟩
theorem ef_rmO (m : MethodId) (x0 : Int32) : entryFrame m #[(.int x0)] 5 = mkF m 0 #[.val (.int x0), .unset, .unset, .unset, .unset] [] := by first | (simp [entryFrame, mkF, argsToLocals, Value.category]; done) | rfl
theorem pd_0 : parseMethodDescriptor "()[Lcom/example/bearer/bearer/model/Registration;" = some ⟨[], some (.array (.object "com/example/bearer/bearer/model/Registration"))⟩ := by decide +kernel
theorem d3_0 : decode prog_29_method_8_code 0 = .ok (.invokestatic 51, 3) := by decide +kernel
theorem d3_3 : decode prog_29_method_8_code 3 = .ok (.astore_n 1, 1) := by decide +kernel
theorem d3_4 : decode prog_29_method_8_code 4 = .ok (.aload_n 1, 1) := by decide +kernel
theorem d3_5 : decode prog_29_method_8_code 5 = .ok (.arraylength, 1) := by decide +kernel
theorem d3_6 : decode prog_29_method_8_code 6 = .ok (.istore_n 2, 1) := by decide +kernel
theorem d3_7 : decode prog_29_method_8_code 7 = .ok (.iconst 0, 1) := by decide +kernel
theorem d3_8 : decode prog_29_method_8_code 8 = .ok (.istore_n 3, 1) := by decide +kernel
theorem d3_9 : decode prog_29_method_8_code 9 = .ok (.iload_n 3, 1) := by decide +kernel
theorem d3_10 : decode prog_29_method_8_code 10 = .ok (.iload_n 2, 1) := by decide +kernel
theorem d3_11 : decode prog_29_method_8_code 11 = .ok (.if_icmp .ge 26, 3) := by decide +kernel
theorem d3_14 : decode prog_29_method_8_code 14 = .ok (.aload_n 1, 1) := by decide +kernel
theorem d3_15 : decode prog_29_method_8_code 15 = .ok (.iload_n 3, 1) := by decide +kernel
theorem d3_16 : decode prog_29_method_8_code 16 = .ok (.aaload, 1) := by decide +kernel
theorem d3_17 : decode prog_29_method_8_code 17 = .ok (.astore 4, 2) := by decide +kernel
theorem d3_19 : decode prog_29_method_8_code 19 = .ok (.aload 4, 2) := by decide +kernel
theorem d3_21 : decode prog_29_method_8_code 21 = .ok (.getfield 41, 3) := by decide +kernel
theorem d3_24 : decode prog_29_method_8_code 24 = .ok (.iload_n 0, 1) := by decide +kernel
theorem d3_25 : decode prog_29_method_8_code 25 = .ok (.if_icmp .ne 6, 3) := by decide +kernel
theorem d3_28 : decode prog_29_method_8_code 28 = .ok (.aload 4, 2) := by decide +kernel
theorem d3_30 : decode prog_29_method_8_code 30 = .ok (.areturn, 1) := by decide +kernel
theorem d3_31 : decode prog_29_method_8_code 31 = .ok (.iinc 3 1, 3) := by decide +kernel
theorem d3_34 : decode prog_29_method_8_code 34 = .ok (.goto (-25), 3) := by decide +kernel
theorem d3_37 : decode prog_29_method_8_code 37 = .ok (.getstatic 19, 3) := by decide +kernel
theorem d3_40 : decode prog_29_method_8_code 40 = .ok (.areturn, 1) := by decide +kernel
set_option maxRecDepth 65536 in
set_option maxHeartbeats 40000000 in
theorem rmO (l : Launch) (Z : State) (a0 : Array Value) (hw : ∀ d ∈ tables_1, d.before a0 Z = true) (ws : List Jvm.Cond) (x : Int32) (c0 c1 c2 c3 c4 c5 va : Addr) (h0 : Heap) (n0 : Nat) (Z0 : n0 ≤ h0.size) (Sc0 : Sta Z h0 "com/example/bearer/bearer/model/Registration" "HOME" "Lcom/example/bearer/bearer/model/Registration;" (.ref c0)) (Sc1 : Sta Z h0 "com/example/bearer/bearer/model/Registration" "ROAMING" "Lcom/example/bearer/bearer/model/Registration;" (.ref c1)) (Sc2 : Sta Z h0 "com/example/bearer/bearer/model/Registration" "SEARCHING" "Lcom/example/bearer/bearer/model/Registration;" (.ref c2)) (Sc3 : Sta Z h0 "com/example/bearer/bearer/model/Registration" "DENIED" "Lcom/example/bearer/bearer/model/Registration;" (.ref c3)) (Sc4 : Sta Z h0 "com/example/bearer/bearer/model/Registration" "NOT_REGISTERED" "Lcom/example/bearer/bearer/model/Registration;" (.ref c4)) (Sc5 : Sta Z h0 "com/example/bearer/bearer/model/Registration" "UNKNOWN" "Lcom/example/bearer/bearer/model/Registration;" (.ref c5)) (Ec0 : Exa Z h0 c0 "com/example/bearer/bearer/model/Registration") (Ec1 : Exa Z h0 c1 "com/example/bearer/bearer/model/Registration") (Ec2 : Exa Z h0 c2 "com/example/bearer/bearer/model/Registration") (Ec3 : Exa Z h0 c3 "com/example/bearer/bearer/model/Registration") (Ec4 : Exa Z h0 c4 "com/example/bearer/bearer/model/Registration") (Ec5 : Exa Z h0 c5 "com/example/bearer/bearer/model/Registration") (Fc0 : Fld Z h0 c0 "com/example/bearer/bearer/model/Registration" "stat" "I" (.int (1 : Int32))) (Fc1 : Fld Z h0 c1 "com/example/bearer/bearer/model/Registration" "stat" "I" (.int (5 : Int32))) (Fc2 : Fld Z h0 c2 "com/example/bearer/bearer/model/Registration" "stat" "I" (.int (2 : Int32))) (Fc3 : Fld Z h0 c3 "com/example/bearer/bearer/model/Registration" "stat" "I" (.int (3 : Int32))) (Fc4 : Fld Z h0 c4 "com/example/bearer/bearer/model/Registration" "stat" "I" (.int (0 : Int32))) (Fc5 : Fld Z h0 c5 "com/example/bearer/bearer/model/Registration" "stat" "I" (.int (4 : Int32))) (SV : Sta Z h0 "com/example/bearer/bearer/model/Registration" "$VALUES" "[Lcom/example/bearer/bearer/model/Registration;" (.ref va)) (EV : Exa Z h0 va "[Lcom/example/bearer/bearer/model/Registration;") (VV : AV Z h0 va (.object "com/example/bearer/bearer/model/Registration") 6 (lst [(.ref c0), (.ref c1), (.ref c2), (.ref c3), (.ref c4), (.ref c5)])) :
    Ctr l Z (⟨"com/example/bearer/bearer/model/Registration", "ofStat", "(I)Lcom/example/bearer/bearer/model/Registration;"⟩ : MethodName) prog_29_method_8_code 5 (some (.object "com/example/bearer/bearer/model/Registration")) ws ({ frames := 2, cells := 1, slots := 6, locals := 25 } : Room) 1 6 #[(.int x)] h0 (fun v h L => v = some (.ref (ofs x c0 c1 c2 c3 c4 c5)) ∧ Fr n0 L ∧ Keep h0 h []) := by
  refine Ctr.mk (plainFor_of_name pn_0) fun p e s m below meth c T0 X0 C e0 => go_cast (ef_rmO m x) ?_
  have N0 := Fr.nil n0
  obtain ⟨hx, hZ, hby, hml, hown, hnm, hret, hlk⟩ := C
  obtain ⟨hI, eI⟩ : ∃ z, z = h0 := ⟨_, rfl⟩
  have K0 : Keep hI h0 [] := by rw [eI]; exact Keep.refl _ _
  show Go _ _ _ _ _ _ _ T0 (mkF m 0 #[.val (.int x), .unset, .unset, .unset, .unset] [])
  obtain ⟨v1, T1, L1, X1, q1, st1⟩ := c_static X0 hx hZ hown (y := (⟨"com/example/bearer/bearer/model/Registration", "values", "()[Lcom/example/bearer/bearer/model/Registration;"⟩ : MethodName)) (hw _ (List.mem_of_getElem? (i := 33) rfl)) (hw _ (List.mem_of_getElem? (i := 34) rfl)) (hw _ (List.mem_of_getElem? (i := 3) rfl)) (hw _ (List.mem_of_getElem? (i := 35) rfl)) (by decide) (argsL := []) (rest := []) (rmV l Z a0 hw [] c0 c1 c2 c3 c4 c5 va h0 n0 Z0 Sc0 Sc1 Sc2 Sc3 Sc4 Sc5 Ec0 Ec1 Ec2 Ec3 Ec4 Ec5 Fc0 Fc1 Fc2 Fc3 Fc4 Fc5 SV EV VV) e0 pd_0 rfl (by rw [hml]; rfl) (W := 0) (by show 2 * 0 + _ ≤ _; exact Nat.le_of_eq rfl) (by decide) (by decide) (by decide) (by decide) (hb hby d3_0) (Ls := #[.val (.int x), .unset, .unset, .unset, .unset])
  generalize e1 : T1.heap = h1 at q1
  obtain ⟨b1, rfl, N1q, K1q, sz1, V1k⟩ := q1
  have N1 := Fr.app N0 N1q
  have Z1 : n0 ≤ h1.size := Nat.le_trans Z0 K1q.1
  have K1 : Keep hI h1 [] := K0.trans K1q all0
  refine Go.step (st1) ?_
  show Go _ _ _ _ _ _ _ T1 (mkF m 3 #[.val (.int x), .unset, .unset, .unset, .unset] [(.ref b1)])
  refine Go.step (fun t k => XS.astoreN X1.here hx rfl (hb hby d3_3) rfl rfl (l' := #[.val (.int x), .val (.ref b1), .unset, .unset, .unset]) rfl k) ?_
  show Go _ _ _ _ _ _ _ T1 (mkF m 4 #[.val (.int x), .val (.ref b1), .unset, .unset, .unset] [])
  refine Go.step (fun t k => XS.aloadN X1.here hx rfl (hb hby d3_4) rfl rfl k) ?_
  show Go _ _ _ _ _ _ _ T1 (mkF m 5 #[.val (.int x), .val (.ref b1), .unset, .unset, .unset] [(.ref b1)])
  refine Go.step (a_len X1 hx hZ e1 V1k (z := (6 : Int32)) (by decide) (hb hby d3_5)) ?_
  show Go _ _ _ _ _ _ _ T1 (mkF m 6 #[.val (.int x), .val (.ref b1), .unset, .unset, .unset] [(.int (6 : Int32))])
  refine Go.step (fun t k => XS.istoreN X1.here hx rfl (hb hby d3_6) rfl (l' := #[.val (.int x), .val (.ref b1), .val (.int (6 : Int32)), .unset, .unset]) rfl k) ?_
  show Go _ _ _ _ _ _ _ T1 (mkF m 7 #[.val (.int x), .val (.ref b1), .val (.int (6 : Int32)), .unset, .unset] [])
  refine Go.step (fun t k => XS.iconst X1.here hx rfl (hb hby d3_7) k) ?_
  show Go _ _ _ _ _ _ _ T1 (mkF m 8 #[.val (.int x), .val (.ref b1), .val (.int (6 : Int32)), .unset, .unset] [(.int (0 : Int32))])
  refine Go.step (fun t k => XS.istoreN X1.here hx rfl (hb hby d3_8) rfl (l' := #[.val (.int x), .val (.ref b1), .val (.int (6 : Int32)), .val (.int (0 : Int32)), .unset]) rfl k) ?_
  show Go _ _ _ _ _ _ _ T1 (mkF m 9 #[.val (.int x), .val (.ref b1), .val (.int (6 : Int32)), .val (.int (0 : Int32)), .unset] [])
  refine Go.step (fun t k => XS.iloadN X1.here hx rfl (hb hby d3_9) rfl k) ?_
  show Go _ _ _ _ _ _ _ T1 (mkF m 10 #[.val (.int x), .val (.ref b1), .val (.int (6 : Int32)), .val (.int (0 : Int32)), .unset] [(.int (0 : Int32))])
  refine Go.step (fun t k => XS.iloadN X1.here hx rfl (hb hby d3_10) rfl k) ?_
  show Go _ _ _ _ _ _ _ T1 (mkF m 11 #[.val (.int x), .val (.ref b1), .val (.int (6 : Int32)), .val (.int (0 : Int32)), .unset] [(.int (6 : Int32)), (.int (0 : Int32))])
  refine Go.step (fun t k => XS.icmpNo X1.here hx rfl (hb hby d3_11) rfl (tlt (by decide)).2.1 k) ?_
  show Go _ _ _ _ _ _ _ T1 (mkF m 14 #[.val (.int x), .val (.ref b1), .val (.int (6 : Int32)), .val (.int (0 : Int32)), .unset] [])
  refine Go.step (fun t k => XS.aloadN X1.here hx rfl (hb hby d3_14) rfl rfl k) ?_
  show Go _ _ _ _ _ _ _ T1 (mkF m 15 #[.val (.int x), .val (.ref b1), .val (.int (6 : Int32)), .val (.int (0 : Int32)), .unset] [(.ref b1)])
  refine Go.step (fun t k => XS.iloadN X1.here hx rfl (hb hby d3_15) rfl k) ?_
  show Go _ _ _ _ _ _ _ T1 (mkF m 16 #[.val (.int x), .val (.ref b1), .val (.int (6 : Int32)), .val (.int (0 : Int32)), .unset] [(.int (0 : Int32)), (.ref b1)])
  refine Go.step (a_rload X1 hx hZ e1 V1k rfl (k := 0) (by decide) (by decide) (v := (.ref c0)) rfl (hb hby d3_16)) ?_
  show Go _ _ _ _ _ _ _ T1 (mkF m 17 #[.val (.int x), .val (.ref b1), .val (.int (6 : Int32)), .val (.int (0 : Int32)), .unset] [(.ref c0)])
  refine Go.step (fun t k => XS.astore X1.here hx rfl (hb hby d3_17) rfl rfl (l' := #[.val (.int x), .val (.ref b1), .val (.int (6 : Int32)), .val (.int (0 : Int32)), .val (.ref c0)]) rfl k) ?_
  show Go _ _ _ _ _ _ _ T1 (mkF m 19 #[.val (.int x), .val (.ref b1), .val (.int (6 : Int32)), .val (.int (0 : Int32)), .val (.ref c0)] [])
  refine Go.step (fun t k => XS.aload X1.here hx rfl (hb hby d3_19) rfl rfl k) ?_
  show Go _ _ _ _ _ _ _ T1 (mkF m 21 #[.val (.int x), .val (.ref b1), .val (.int (6 : Int32)), .val (.int (0 : Int32)), .val (.ref c0)] [(.ref c0)])
  have f3 := (Fc0.keep K1q nin0)
  obtain ⟨T2, X2, e2, st2⟩ := getF X1 hx hZ hown (host := "") (Or.inl (hw _ (List.mem_of_getElem? (i := 22) rfl))) Via.refl e1 f3 (g := (mkF m 21 #[.val (.int x), .val (.ref b1), .val (.int (6 : Int32)), .val (.int (0 : Int32)), .val (.ref c0)] [(.ref c0)])) rfl rfl (hb hby d3_21)
  refine Go.step (st2) ?_
  show Go _ _ _ _ _ _ _ T2 (mkF m 24 #[.val (.int x), .val (.ref b1), .val (.int (6 : Int32)), .val (.int (0 : Int32)), .val (.ref c0)] [(.int (1 : Int32))])
  refine Go.step (fun t k => XS.iloadN X2.here hx rfl (hb hby d3_24) rfl k) ?_
  show Go _ _ _ _ _ _ _ T2 (mkF m 25 #[.val (.int x), .val (.ref b1), .val (.int (6 : Int32)), .val (.int (0 : Int32)), .val (.ref c0)] [(.int x), (.int (1 : Int32))])
  by_cases c25_4 : (1 : Int32) = x
  · refine Go.step (fun t k => XS.icmpNo X2.here hx rfl (hb hby d3_25) rfl (teq c25_4).2 k) ?_
    show Go _ _ _ _ _ _ _ T2 (mkF m 28 #[.val (.int x), .val (.ref b1), .val (.int (6 : Int32)), .val (.int (0 : Int32)), .val (.ref c0)] [])
    refine Go.step (fun t k => XS.aload X2.here hx rfl (hb hby d3_28) rfl rfl k) ?_
    show Go _ _ _ _ _ _ _ T2 (mkF m 30 #[.val (.int x), .val (.ref b1), .val (.int (6 : Int32)), .val (.int (0 : Int32)), .val (.ref c0)] [(.ref c0)])
    refine go_retA X2 hx (t := (.object "com/example/bearer/bearer/model/Registration")) hret rfl hlk rfl (hb hby d3_30) ?_ (by decide) (by decide)
    try rw [e2]
    exact ⟨congrArg (fun z => some (Value.ref z)) (by simp only [ofs, eq_true c25_4, if_true, if_false]), N1, eI ▸ K1⟩
  · refine Go.step (fun t k => XS.icmpYes X2.here hx rfl (pc0 := 25) (pc' := 31) rfl (hb hby d3_25) rfl (feq c25_4).2 (by decide) (by decide) k) ?_
    show Go _ _ _ _ _ _ _ T2 (mkF m 31 #[.val (.int x), .val (.ref b1), .val (.int (6 : Int32)), .val (.int (0 : Int32)), .val (.ref c0)] [])
    refine Go.step (fun t k => XS.iinc X2.here hx rfl (hb hby d3_31) rfl (l' := #[.val (.int x), .val (.ref b1), .val (.int (6 : Int32)), .val (.int (1 : Int32)), .val (.ref c0)]) rfl k) ?_
    show Go _ _ _ _ _ _ _ T2 (mkF m 34 #[.val (.int x), .val (.ref b1), .val (.int (6 : Int32)), .val (.int (1 : Int32)), .val (.ref c0)] [])
    refine Go.step (fun t k => XS.goto X2.here hx rfl (pc0 := 34) (pc' := 9) rfl (hb hby d3_34) (by decide) (by decide) k) ?_
    show Go _ _ _ _ _ _ _ T2 (mkF m 9 #[.val (.int x), .val (.ref b1), .val (.int (6 : Int32)), .val (.int (1 : Int32)), .val (.ref c0)] [])
    refine Go.step (fun t k => XS.iloadN X2.here hx rfl (hb hby d3_9) rfl k) ?_
    show Go _ _ _ _ _ _ _ T2 (mkF m 10 #[.val (.int x), .val (.ref b1), .val (.int (6 : Int32)), .val (.int (1 : Int32)), .val (.ref c0)] [(.int (1 : Int32))])
    refine Go.step (fun t k => XS.iloadN X2.here hx rfl (hb hby d3_10) rfl k) ?_
    show Go _ _ _ _ _ _ _ T2 (mkF m 11 #[.val (.int x), .val (.ref b1), .val (.int (6 : Int32)), .val (.int (1 : Int32)), .val (.ref c0)] [(.int (6 : Int32)), (.int (1 : Int32))])
    refine Go.step (fun t k => XS.icmpNo X2.here hx rfl (hb hby d3_11) rfl (tlt (by decide)).2.1 k) ?_
    show Go _ _ _ _ _ _ _ T2 (mkF m 14 #[.val (.int x), .val (.ref b1), .val (.int (6 : Int32)), .val (.int (1 : Int32)), .val (.ref c0)] [])
    refine Go.step (fun t k => XS.aloadN X2.here hx rfl (hb hby d3_14) rfl rfl k) ?_
    show Go _ _ _ _ _ _ _ T2 (mkF m 15 #[.val (.int x), .val (.ref b1), .val (.int (6 : Int32)), .val (.int (1 : Int32)), .val (.ref c0)] [(.ref b1)])
    refine Go.step (fun t k => XS.iloadN X2.here hx rfl (hb hby d3_15) rfl k) ?_
    show Go _ _ _ _ _ _ _ T2 (mkF m 16 #[.val (.int x), .val (.ref b1), .val (.int (6 : Int32)), .val (.int (1 : Int32)), .val (.ref c0)] [(.int (1 : Int32)), (.ref b1)])
    refine Go.step (a_rload X2 hx hZ e2 V1k rfl (k := 1) (by decide) (by decide) (v := (.ref c1)) rfl (hb hby d3_16)) ?_
    show Go _ _ _ _ _ _ _ T2 (mkF m 17 #[.val (.int x), .val (.ref b1), .val (.int (6 : Int32)), .val (.int (1 : Int32)), .val (.ref c0)] [(.ref c1)])
    refine Go.step (fun t k => XS.astore X2.here hx rfl (hb hby d3_17) rfl rfl (l' := #[.val (.int x), .val (.ref b1), .val (.int (6 : Int32)), .val (.int (1 : Int32)), .val (.ref c1)]) rfl k) ?_
    show Go _ _ _ _ _ _ _ T2 (mkF m 19 #[.val (.int x), .val (.ref b1), .val (.int (6 : Int32)), .val (.int (1 : Int32)), .val (.ref c1)] [])
    refine Go.step (fun t k => XS.aload X2.here hx rfl (hb hby d3_19) rfl rfl k) ?_
    show Go _ _ _ _ _ _ _ T2 (mkF m 21 #[.val (.int x), .val (.ref b1), .val (.int (6 : Int32)), .val (.int (1 : Int32)), .val (.ref c1)] [(.ref c1)])
    have f6 := (Fc1.keep K1q nin0)
    obtain ⟨T5, X5, e5, st5⟩ := getF X2 hx hZ hown (host := "") (Or.inl (hw _ (List.mem_of_getElem? (i := 22) rfl))) Via.refl e2 f6 (g := (mkF m 21 #[.val (.int x), .val (.ref b1), .val (.int (6 : Int32)), .val (.int (1 : Int32)), .val (.ref c1)] [(.ref c1)])) rfl rfl (hb hby d3_21)
    refine Go.step (st5) ?_
    show Go _ _ _ _ _ _ _ T5 (mkF m 24 #[.val (.int x), .val (.ref b1), .val (.int (6 : Int32)), .val (.int (1 : Int32)), .val (.ref c1)] [(.int (5 : Int32))])
    refine Go.step (fun t k => XS.iloadN X5.here hx rfl (hb hby d3_24) rfl k) ?_
    show Go _ _ _ _ _ _ _ T5 (mkF m 25 #[.val (.int x), .val (.ref b1), .val (.int (6 : Int32)), .val (.int (1 : Int32)), .val (.ref c1)] [(.int x), (.int (5 : Int32))])
    by_cases c25_7 : (5 : Int32) = x
    · refine Go.step (fun t k => XS.icmpNo X5.here hx rfl (hb hby d3_25) rfl (teq c25_7).2 k) ?_
      show Go _ _ _ _ _ _ _ T5 (mkF m 28 #[.val (.int x), .val (.ref b1), .val (.int (6 : Int32)), .val (.int (1 : Int32)), .val (.ref c1)] [])
      refine Go.step (fun t k => XS.aload X5.here hx rfl (hb hby d3_28) rfl rfl k) ?_
      show Go _ _ _ _ _ _ _ T5 (mkF m 30 #[.val (.int x), .val (.ref b1), .val (.int (6 : Int32)), .val (.int (1 : Int32)), .val (.ref c1)] [(.ref c1)])
      refine go_retA X5 hx (t := (.object "com/example/bearer/bearer/model/Registration")) hret rfl hlk rfl (hb hby d3_30) ?_ (by decide) (by decide)
      try rw [e5]
      exact ⟨congrArg (fun z => some (Value.ref z)) (by simp only [ofs, eq_false c25_4, eq_true c25_7, if_true, if_false]), N1, eI ▸ K1⟩
    · refine Go.step (fun t k => XS.icmpYes X5.here hx rfl (pc0 := 25) (pc' := 31) rfl (hb hby d3_25) rfl (feq c25_7).2 (by decide) (by decide) k) ?_
      show Go _ _ _ _ _ _ _ T5 (mkF m 31 #[.val (.int x), .val (.ref b1), .val (.int (6 : Int32)), .val (.int (1 : Int32)), .val (.ref c1)] [])
      refine Go.step (fun t k => XS.iinc X5.here hx rfl (hb hby d3_31) rfl (l' := #[.val (.int x), .val (.ref b1), .val (.int (6 : Int32)), .val (.int (2 : Int32)), .val (.ref c1)]) rfl k) ?_
      show Go _ _ _ _ _ _ _ T5 (mkF m 34 #[.val (.int x), .val (.ref b1), .val (.int (6 : Int32)), .val (.int (2 : Int32)), .val (.ref c1)] [])
      refine Go.step (fun t k => XS.goto X5.here hx rfl (pc0 := 34) (pc' := 9) rfl (hb hby d3_34) (by decide) (by decide) k) ?_
      show Go _ _ _ _ _ _ _ T5 (mkF m 9 #[.val (.int x), .val (.ref b1), .val (.int (6 : Int32)), .val (.int (2 : Int32)), .val (.ref c1)] [])
      refine Go.step (fun t k => XS.iloadN X5.here hx rfl (hb hby d3_9) rfl k) ?_
      show Go _ _ _ _ _ _ _ T5 (mkF m 10 #[.val (.int x), .val (.ref b1), .val (.int (6 : Int32)), .val (.int (2 : Int32)), .val (.ref c1)] [(.int (2 : Int32))])
      refine Go.step (fun t k => XS.iloadN X5.here hx rfl (hb hby d3_10) rfl k) ?_
      show Go _ _ _ _ _ _ _ T5 (mkF m 11 #[.val (.int x), .val (.ref b1), .val (.int (6 : Int32)), .val (.int (2 : Int32)), .val (.ref c1)] [(.int (6 : Int32)), (.int (2 : Int32))])
      refine Go.step (fun t k => XS.icmpNo X5.here hx rfl (hb hby d3_11) rfl (tlt (by decide)).2.1 k) ?_
      show Go _ _ _ _ _ _ _ T5 (mkF m 14 #[.val (.int x), .val (.ref b1), .val (.int (6 : Int32)), .val (.int (2 : Int32)), .val (.ref c1)] [])
      refine Go.step (fun t k => XS.aloadN X5.here hx rfl (hb hby d3_14) rfl rfl k) ?_
      show Go _ _ _ _ _ _ _ T5 (mkF m 15 #[.val (.int x), .val (.ref b1), .val (.int (6 : Int32)), .val (.int (2 : Int32)), .val (.ref c1)] [(.ref b1)])
      refine Go.step (fun t k => XS.iloadN X5.here hx rfl (hb hby d3_15) rfl k) ?_
      show Go _ _ _ _ _ _ _ T5 (mkF m 16 #[.val (.int x), .val (.ref b1), .val (.int (6 : Int32)), .val (.int (2 : Int32)), .val (.ref c1)] [(.int (2 : Int32)), (.ref b1)])
      refine Go.step (a_rload X5 hx hZ e5 V1k rfl (k := 2) (by decide) (by decide) (v := (.ref c2)) rfl (hb hby d3_16)) ?_
      show Go _ _ _ _ _ _ _ T5 (mkF m 17 #[.val (.int x), .val (.ref b1), .val (.int (6 : Int32)), .val (.int (2 : Int32)), .val (.ref c1)] [(.ref c2)])
      refine Go.step (fun t k => XS.astore X5.here hx rfl (hb hby d3_17) rfl rfl (l' := #[.val (.int x), .val (.ref b1), .val (.int (6 : Int32)), .val (.int (2 : Int32)), .val (.ref c2)]) rfl k) ?_
      show Go _ _ _ _ _ _ _ T5 (mkF m 19 #[.val (.int x), .val (.ref b1), .val (.int (6 : Int32)), .val (.int (2 : Int32)), .val (.ref c2)] [])
      refine Go.step (fun t k => XS.aload X5.here hx rfl (hb hby d3_19) rfl rfl k) ?_
      show Go _ _ _ _ _ _ _ T5 (mkF m 21 #[.val (.int x), .val (.ref b1), .val (.int (6 : Int32)), .val (.int (2 : Int32)), .val (.ref c2)] [(.ref c2)])
      have f9 := (Fc2.keep K1q nin0)
      obtain ⟨T8, X8, e8, st8⟩ := getF X5 hx hZ hown (host := "") (Or.inl (hw _ (List.mem_of_getElem? (i := 22) rfl))) Via.refl e5 f9 (g := (mkF m 21 #[.val (.int x), .val (.ref b1), .val (.int (6 : Int32)), .val (.int (2 : Int32)), .val (.ref c2)] [(.ref c2)])) rfl rfl (hb hby d3_21)
      refine Go.step (st8) ?_
      show Go _ _ _ _ _ _ _ T8 (mkF m 24 #[.val (.int x), .val (.ref b1), .val (.int (6 : Int32)), .val (.int (2 : Int32)), .val (.ref c2)] [(.int (2 : Int32))])
      refine Go.step (fun t k => XS.iloadN X8.here hx rfl (hb hby d3_24) rfl k) ?_
      show Go _ _ _ _ _ _ _ T8 (mkF m 25 #[.val (.int x), .val (.ref b1), .val (.int (6 : Int32)), .val (.int (2 : Int32)), .val (.ref c2)] [(.int x), (.int (2 : Int32))])
      by_cases c25_10 : (2 : Int32) = x
      · refine Go.step (fun t k => XS.icmpNo X8.here hx rfl (hb hby d3_25) rfl (teq c25_10).2 k) ?_
        show Go _ _ _ _ _ _ _ T8 (mkF m 28 #[.val (.int x), .val (.ref b1), .val (.int (6 : Int32)), .val (.int (2 : Int32)), .val (.ref c2)] [])
        refine Go.step (fun t k => XS.aload X8.here hx rfl (hb hby d3_28) rfl rfl k) ?_
        show Go _ _ _ _ _ _ _ T8 (mkF m 30 #[.val (.int x), .val (.ref b1), .val (.int (6 : Int32)), .val (.int (2 : Int32)), .val (.ref c2)] [(.ref c2)])
        refine go_retA X8 hx (t := (.object "com/example/bearer/bearer/model/Registration")) hret rfl hlk rfl (hb hby d3_30) ?_ (by decide) (by decide)
        try rw [e8]
        exact ⟨congrArg (fun z => some (Value.ref z)) (by simp only [ofs, eq_false c25_4, eq_false c25_7, eq_true c25_10, if_true, if_false]), N1, eI ▸ K1⟩
      · refine Go.step (fun t k => XS.icmpYes X8.here hx rfl (pc0 := 25) (pc' := 31) rfl (hb hby d3_25) rfl (feq c25_10).2 (by decide) (by decide) k) ?_
        show Go _ _ _ _ _ _ _ T8 (mkF m 31 #[.val (.int x), .val (.ref b1), .val (.int (6 : Int32)), .val (.int (2 : Int32)), .val (.ref c2)] [])
        refine Go.step (fun t k => XS.iinc X8.here hx rfl (hb hby d3_31) rfl (l' := #[.val (.int x), .val (.ref b1), .val (.int (6 : Int32)), .val (.int (3 : Int32)), .val (.ref c2)]) rfl k) ?_
        show Go _ _ _ _ _ _ _ T8 (mkF m 34 #[.val (.int x), .val (.ref b1), .val (.int (6 : Int32)), .val (.int (3 : Int32)), .val (.ref c2)] [])
        refine Go.step (fun t k => XS.goto X8.here hx rfl (pc0 := 34) (pc' := 9) rfl (hb hby d3_34) (by decide) (by decide) k) ?_
        show Go _ _ _ _ _ _ _ T8 (mkF m 9 #[.val (.int x), .val (.ref b1), .val (.int (6 : Int32)), .val (.int (3 : Int32)), .val (.ref c2)] [])
        refine Go.step (fun t k => XS.iloadN X8.here hx rfl (hb hby d3_9) rfl k) ?_
        show Go _ _ _ _ _ _ _ T8 (mkF m 10 #[.val (.int x), .val (.ref b1), .val (.int (6 : Int32)), .val (.int (3 : Int32)), .val (.ref c2)] [(.int (3 : Int32))])
        refine Go.step (fun t k => XS.iloadN X8.here hx rfl (hb hby d3_10) rfl k) ?_
        show Go _ _ _ _ _ _ _ T8 (mkF m 11 #[.val (.int x), .val (.ref b1), .val (.int (6 : Int32)), .val (.int (3 : Int32)), .val (.ref c2)] [(.int (6 : Int32)), (.int (3 : Int32))])
        refine Go.step (fun t k => XS.icmpNo X8.here hx rfl (hb hby d3_11) rfl (tlt (by decide)).2.1 k) ?_
        show Go _ _ _ _ _ _ _ T8 (mkF m 14 #[.val (.int x), .val (.ref b1), .val (.int (6 : Int32)), .val (.int (3 : Int32)), .val (.ref c2)] [])
        refine Go.step (fun t k => XS.aloadN X8.here hx rfl (hb hby d3_14) rfl rfl k) ?_
        show Go _ _ _ _ _ _ _ T8 (mkF m 15 #[.val (.int x), .val (.ref b1), .val (.int (6 : Int32)), .val (.int (3 : Int32)), .val (.ref c2)] [(.ref b1)])
        refine Go.step (fun t k => XS.iloadN X8.here hx rfl (hb hby d3_15) rfl k) ?_
        show Go _ _ _ _ _ _ _ T8 (mkF m 16 #[.val (.int x), .val (.ref b1), .val (.int (6 : Int32)), .val (.int (3 : Int32)), .val (.ref c2)] [(.int (3 : Int32)), (.ref b1)])
        refine Go.step (a_rload X8 hx hZ e8 V1k rfl (k := 3) (by decide) (by decide) (v := (.ref c3)) rfl (hb hby d3_16)) ?_
        show Go _ _ _ _ _ _ _ T8 (mkF m 17 #[.val (.int x), .val (.ref b1), .val (.int (6 : Int32)), .val (.int (3 : Int32)), .val (.ref c2)] [(.ref c3)])
        refine Go.step (fun t k => XS.astore X8.here hx rfl (hb hby d3_17) rfl rfl (l' := #[.val (.int x), .val (.ref b1), .val (.int (6 : Int32)), .val (.int (3 : Int32)), .val (.ref c3)]) rfl k) ?_
        show Go _ _ _ _ _ _ _ T8 (mkF m 19 #[.val (.int x), .val (.ref b1), .val (.int (6 : Int32)), .val (.int (3 : Int32)), .val (.ref c3)] [])
        refine Go.step (fun t k => XS.aload X8.here hx rfl (hb hby d3_19) rfl rfl k) ?_
        show Go _ _ _ _ _ _ _ T8 (mkF m 21 #[.val (.int x), .val (.ref b1), .val (.int (6 : Int32)), .val (.int (3 : Int32)), .val (.ref c3)] [(.ref c3)])
        have f12 := (Fc3.keep K1q nin0)
        obtain ⟨T11, X11, e11, st11⟩ := getF X8 hx hZ hown (host := "") (Or.inl (hw _ (List.mem_of_getElem? (i := 22) rfl))) Via.refl e8 f12 (g := (mkF m 21 #[.val (.int x), .val (.ref b1), .val (.int (6 : Int32)), .val (.int (3 : Int32)), .val (.ref c3)] [(.ref c3)])) rfl rfl (hb hby d3_21)
        refine Go.step (st11) ?_
        show Go _ _ _ _ _ _ _ T11 (mkF m 24 #[.val (.int x), .val (.ref b1), .val (.int (6 : Int32)), .val (.int (3 : Int32)), .val (.ref c3)] [(.int (3 : Int32))])
        refine Go.step (fun t k => XS.iloadN X11.here hx rfl (hb hby d3_24) rfl k) ?_
        show Go _ _ _ _ _ _ _ T11 (mkF m 25 #[.val (.int x), .val (.ref b1), .val (.int (6 : Int32)), .val (.int (3 : Int32)), .val (.ref c3)] [(.int x), (.int (3 : Int32))])
        by_cases c25_13 : (3 : Int32) = x
        · refine Go.step (fun t k => XS.icmpNo X11.here hx rfl (hb hby d3_25) rfl (teq c25_13).2 k) ?_
          show Go _ _ _ _ _ _ _ T11 (mkF m 28 #[.val (.int x), .val (.ref b1), .val (.int (6 : Int32)), .val (.int (3 : Int32)), .val (.ref c3)] [])
          refine Go.step (fun t k => XS.aload X11.here hx rfl (hb hby d3_28) rfl rfl k) ?_
          show Go _ _ _ _ _ _ _ T11 (mkF m 30 #[.val (.int x), .val (.ref b1), .val (.int (6 : Int32)), .val (.int (3 : Int32)), .val (.ref c3)] [(.ref c3)])
          refine go_retA X11 hx (t := (.object "com/example/bearer/bearer/model/Registration")) hret rfl hlk rfl (hb hby d3_30) ?_ (by decide) (by decide)
          try rw [e11]
          exact ⟨congrArg (fun z => some (Value.ref z)) (by simp only [ofs, eq_false c25_4, eq_false c25_7, eq_false c25_10, eq_true c25_13, if_true, if_false]), N1, eI ▸ K1⟩
        · refine Go.step (fun t k => XS.icmpYes X11.here hx rfl (pc0 := 25) (pc' := 31) rfl (hb hby d3_25) rfl (feq c25_13).2 (by decide) (by decide) k) ?_
          show Go _ _ _ _ _ _ _ T11 (mkF m 31 #[.val (.int x), .val (.ref b1), .val (.int (6 : Int32)), .val (.int (3 : Int32)), .val (.ref c3)] [])
          refine Go.step (fun t k => XS.iinc X11.here hx rfl (hb hby d3_31) rfl (l' := #[.val (.int x), .val (.ref b1), .val (.int (6 : Int32)), .val (.int (4 : Int32)), .val (.ref c3)]) rfl k) ?_
          show Go _ _ _ _ _ _ _ T11 (mkF m 34 #[.val (.int x), .val (.ref b1), .val (.int (6 : Int32)), .val (.int (4 : Int32)), .val (.ref c3)] [])
          refine Go.step (fun t k => XS.goto X11.here hx rfl (pc0 := 34) (pc' := 9) rfl (hb hby d3_34) (by decide) (by decide) k) ?_
          show Go _ _ _ _ _ _ _ T11 (mkF m 9 #[.val (.int x), .val (.ref b1), .val (.int (6 : Int32)), .val (.int (4 : Int32)), .val (.ref c3)] [])
          refine Go.step (fun t k => XS.iloadN X11.here hx rfl (hb hby d3_9) rfl k) ?_
          show Go _ _ _ _ _ _ _ T11 (mkF m 10 #[.val (.int x), .val (.ref b1), .val (.int (6 : Int32)), .val (.int (4 : Int32)), .val (.ref c3)] [(.int (4 : Int32))])
          refine Go.step (fun t k => XS.iloadN X11.here hx rfl (hb hby d3_10) rfl k) ?_
          show Go _ _ _ _ _ _ _ T11 (mkF m 11 #[.val (.int x), .val (.ref b1), .val (.int (6 : Int32)), .val (.int (4 : Int32)), .val (.ref c3)] [(.int (6 : Int32)), (.int (4 : Int32))])
          refine Go.step (fun t k => XS.icmpNo X11.here hx rfl (hb hby d3_11) rfl (tlt (by decide)).2.1 k) ?_
          show Go _ _ _ _ _ _ _ T11 (mkF m 14 #[.val (.int x), .val (.ref b1), .val (.int (6 : Int32)), .val (.int (4 : Int32)), .val (.ref c3)] [])
          refine Go.step (fun t k => XS.aloadN X11.here hx rfl (hb hby d3_14) rfl rfl k) ?_
          show Go _ _ _ _ _ _ _ T11 (mkF m 15 #[.val (.int x), .val (.ref b1), .val (.int (6 : Int32)), .val (.int (4 : Int32)), .val (.ref c3)] [(.ref b1)])
          refine Go.step (fun t k => XS.iloadN X11.here hx rfl (hb hby d3_15) rfl k) ?_
          show Go _ _ _ _ _ _ _ T11 (mkF m 16 #[.val (.int x), .val (.ref b1), .val (.int (6 : Int32)), .val (.int (4 : Int32)), .val (.ref c3)] [(.int (4 : Int32)), (.ref b1)])
          refine Go.step (a_rload X11 hx hZ e11 V1k rfl (k := 4) (by decide) (by decide) (v := (.ref c4)) rfl (hb hby d3_16)) ?_
          show Go _ _ _ _ _ _ _ T11 (mkF m 17 #[.val (.int x), .val (.ref b1), .val (.int (6 : Int32)), .val (.int (4 : Int32)), .val (.ref c3)] [(.ref c4)])
          refine Go.step (fun t k => XS.astore X11.here hx rfl (hb hby d3_17) rfl rfl (l' := #[.val (.int x), .val (.ref b1), .val (.int (6 : Int32)), .val (.int (4 : Int32)), .val (.ref c4)]) rfl k) ?_
          show Go _ _ _ _ _ _ _ T11 (mkF m 19 #[.val (.int x), .val (.ref b1), .val (.int (6 : Int32)), .val (.int (4 : Int32)), .val (.ref c4)] [])
          refine Go.step (fun t k => XS.aload X11.here hx rfl (hb hby d3_19) rfl rfl k) ?_
          show Go _ _ _ _ _ _ _ T11 (mkF m 21 #[.val (.int x), .val (.ref b1), .val (.int (6 : Int32)), .val (.int (4 : Int32)), .val (.ref c4)] [(.ref c4)])
          have f15 := (Fc4.keep K1q nin0)
          obtain ⟨T14, X14, e14, st14⟩ := getF X11 hx hZ hown (host := "") (Or.inl (hw _ (List.mem_of_getElem? (i := 22) rfl))) Via.refl e11 f15 (g := (mkF m 21 #[.val (.int x), .val (.ref b1), .val (.int (6 : Int32)), .val (.int (4 : Int32)), .val (.ref c4)] [(.ref c4)])) rfl rfl (hb hby d3_21)
          refine Go.step (st14) ?_
          show Go _ _ _ _ _ _ _ T14 (mkF m 24 #[.val (.int x), .val (.ref b1), .val (.int (6 : Int32)), .val (.int (4 : Int32)), .val (.ref c4)] [(.int (0 : Int32))])
          refine Go.step (fun t k => XS.iloadN X14.here hx rfl (hb hby d3_24) rfl k) ?_
          show Go _ _ _ _ _ _ _ T14 (mkF m 25 #[.val (.int x), .val (.ref b1), .val (.int (6 : Int32)), .val (.int (4 : Int32)), .val (.ref c4)] [(.int x), (.int (0 : Int32))])
          by_cases c25_16 : (0 : Int32) = x
          · refine Go.step (fun t k => XS.icmpNo X14.here hx rfl (hb hby d3_25) rfl (teq c25_16).2 k) ?_
            show Go _ _ _ _ _ _ _ T14 (mkF m 28 #[.val (.int x), .val (.ref b1), .val (.int (6 : Int32)), .val (.int (4 : Int32)), .val (.ref c4)] [])
            refine Go.step (fun t k => XS.aload X14.here hx rfl (hb hby d3_28) rfl rfl k) ?_
            show Go _ _ _ _ _ _ _ T14 (mkF m 30 #[.val (.int x), .val (.ref b1), .val (.int (6 : Int32)), .val (.int (4 : Int32)), .val (.ref c4)] [(.ref c4)])
            refine go_retA X14 hx (t := (.object "com/example/bearer/bearer/model/Registration")) hret rfl hlk rfl (hb hby d3_30) ?_ (by decide) (by decide)
            try rw [e14]
            exact ⟨congrArg (fun z => some (Value.ref z)) (by simp only [ofs, eq_false c25_4, eq_false c25_7, eq_false c25_10, eq_false c25_13, eq_true c25_16, if_true, if_false]), N1, eI ▸ K1⟩
          · refine Go.step (fun t k => XS.icmpYes X14.here hx rfl (pc0 := 25) (pc' := 31) rfl (hb hby d3_25) rfl (feq c25_16).2 (by decide) (by decide) k) ?_
            show Go _ _ _ _ _ _ _ T14 (mkF m 31 #[.val (.int x), .val (.ref b1), .val (.int (6 : Int32)), .val (.int (4 : Int32)), .val (.ref c4)] [])
            refine Go.step (fun t k => XS.iinc X14.here hx rfl (hb hby d3_31) rfl (l' := #[.val (.int x), .val (.ref b1), .val (.int (6 : Int32)), .val (.int (5 : Int32)), .val (.ref c4)]) rfl k) ?_
            show Go _ _ _ _ _ _ _ T14 (mkF m 34 #[.val (.int x), .val (.ref b1), .val (.int (6 : Int32)), .val (.int (5 : Int32)), .val (.ref c4)] [])
            refine Go.step (fun t k => XS.goto X14.here hx rfl (pc0 := 34) (pc' := 9) rfl (hb hby d3_34) (by decide) (by decide) k) ?_
            show Go _ _ _ _ _ _ _ T14 (mkF m 9 #[.val (.int x), .val (.ref b1), .val (.int (6 : Int32)), .val (.int (5 : Int32)), .val (.ref c4)] [])
            refine Go.step (fun t k => XS.iloadN X14.here hx rfl (hb hby d3_9) rfl k) ?_
            show Go _ _ _ _ _ _ _ T14 (mkF m 10 #[.val (.int x), .val (.ref b1), .val (.int (6 : Int32)), .val (.int (5 : Int32)), .val (.ref c4)] [(.int (5 : Int32))])
            refine Go.step (fun t k => XS.iloadN X14.here hx rfl (hb hby d3_10) rfl k) ?_
            show Go _ _ _ _ _ _ _ T14 (mkF m 11 #[.val (.int x), .val (.ref b1), .val (.int (6 : Int32)), .val (.int (5 : Int32)), .val (.ref c4)] [(.int (6 : Int32)), (.int (5 : Int32))])
            refine Go.step (fun t k => XS.icmpNo X14.here hx rfl (hb hby d3_11) rfl (tlt (by decide)).2.1 k) ?_
            show Go _ _ _ _ _ _ _ T14 (mkF m 14 #[.val (.int x), .val (.ref b1), .val (.int (6 : Int32)), .val (.int (5 : Int32)), .val (.ref c4)] [])
            refine Go.step (fun t k => XS.aloadN X14.here hx rfl (hb hby d3_14) rfl rfl k) ?_
            show Go _ _ _ _ _ _ _ T14 (mkF m 15 #[.val (.int x), .val (.ref b1), .val (.int (6 : Int32)), .val (.int (5 : Int32)), .val (.ref c4)] [(.ref b1)])
            refine Go.step (fun t k => XS.iloadN X14.here hx rfl (hb hby d3_15) rfl k) ?_
            show Go _ _ _ _ _ _ _ T14 (mkF m 16 #[.val (.int x), .val (.ref b1), .val (.int (6 : Int32)), .val (.int (5 : Int32)), .val (.ref c4)] [(.int (5 : Int32)), (.ref b1)])
            refine Go.step (a_rload X14 hx hZ e14 V1k rfl (k := 5) (by decide) (by decide) (v := (.ref c5)) rfl (hb hby d3_16)) ?_
            show Go _ _ _ _ _ _ _ T14 (mkF m 17 #[.val (.int x), .val (.ref b1), .val (.int (6 : Int32)), .val (.int (5 : Int32)), .val (.ref c4)] [(.ref c5)])
            refine Go.step (fun t k => XS.astore X14.here hx rfl (hb hby d3_17) rfl rfl (l' := #[.val (.int x), .val (.ref b1), .val (.int (6 : Int32)), .val (.int (5 : Int32)), .val (.ref c5)]) rfl k) ?_
            show Go _ _ _ _ _ _ _ T14 (mkF m 19 #[.val (.int x), .val (.ref b1), .val (.int (6 : Int32)), .val (.int (5 : Int32)), .val (.ref c5)] [])
            refine Go.step (fun t k => XS.aload X14.here hx rfl (hb hby d3_19) rfl rfl k) ?_
            show Go _ _ _ _ _ _ _ T14 (mkF m 21 #[.val (.int x), .val (.ref b1), .val (.int (6 : Int32)), .val (.int (5 : Int32)), .val (.ref c5)] [(.ref c5)])
            have f18 := (Fc5.keep K1q nin0)
            obtain ⟨T17, X17, e17, st17⟩ := getF X14 hx hZ hown (host := "") (Or.inl (hw _ (List.mem_of_getElem? (i := 22) rfl))) Via.refl e14 f18 (g := (mkF m 21 #[.val (.int x), .val (.ref b1), .val (.int (6 : Int32)), .val (.int (5 : Int32)), .val (.ref c5)] [(.ref c5)])) rfl rfl (hb hby d3_21)
            refine Go.step (st17) ?_
            show Go _ _ _ _ _ _ _ T17 (mkF m 24 #[.val (.int x), .val (.ref b1), .val (.int (6 : Int32)), .val (.int (5 : Int32)), .val (.ref c5)] [(.int (4 : Int32))])
            refine Go.step (fun t k => XS.iloadN X17.here hx rfl (hb hby d3_24) rfl k) ?_
            show Go _ _ _ _ _ _ _ T17 (mkF m 25 #[.val (.int x), .val (.ref b1), .val (.int (6 : Int32)), .val (.int (5 : Int32)), .val (.ref c5)] [(.int x), (.int (4 : Int32))])
            by_cases c25_19 : (4 : Int32) = x
            · refine Go.step (fun t k => XS.icmpNo X17.here hx rfl (hb hby d3_25) rfl (teq c25_19).2 k) ?_
              show Go _ _ _ _ _ _ _ T17 (mkF m 28 #[.val (.int x), .val (.ref b1), .val (.int (6 : Int32)), .val (.int (5 : Int32)), .val (.ref c5)] [])
              refine Go.step (fun t k => XS.aload X17.here hx rfl (hb hby d3_28) rfl rfl k) ?_
              show Go _ _ _ _ _ _ _ T17 (mkF m 30 #[.val (.int x), .val (.ref b1), .val (.int (6 : Int32)), .val (.int (5 : Int32)), .val (.ref c5)] [(.ref c5)])
              refine go_retA X17 hx (t := (.object "com/example/bearer/bearer/model/Registration")) hret rfl hlk rfl (hb hby d3_30) ?_ (by decide) (by decide)
              try rw [e17]
              exact ⟨congrArg (fun z => some (Value.ref z)) (by simp only [ofs, eq_false c25_4, eq_false c25_7, eq_false c25_10, eq_false c25_13, eq_false c25_16, eq_true c25_19, if_true, if_false]), N1, eI ▸ K1⟩
            · refine Go.step (fun t k => XS.icmpYes X17.here hx rfl (pc0 := 25) (pc' := 31) rfl (hb hby d3_25) rfl (feq c25_19).2 (by decide) (by decide) k) ?_
              show Go _ _ _ _ _ _ _ T17 (mkF m 31 #[.val (.int x), .val (.ref b1), .val (.int (6 : Int32)), .val (.int (5 : Int32)), .val (.ref c5)] [])
              refine Go.step (fun t k => XS.iinc X17.here hx rfl (hb hby d3_31) rfl (l' := #[.val (.int x), .val (.ref b1), .val (.int (6 : Int32)), .val (.int (6 : Int32)), .val (.ref c5)]) rfl k) ?_
              show Go _ _ _ _ _ _ _ T17 (mkF m 34 #[.val (.int x), .val (.ref b1), .val (.int (6 : Int32)), .val (.int (6 : Int32)), .val (.ref c5)] [])
              refine Go.step (fun t k => XS.goto X17.here hx rfl (pc0 := 34) (pc' := 9) rfl (hb hby d3_34) (by decide) (by decide) k) ?_
              show Go _ _ _ _ _ _ _ T17 (mkF m 9 #[.val (.int x), .val (.ref b1), .val (.int (6 : Int32)), .val (.int (6 : Int32)), .val (.ref c5)] [])
              refine Go.step (fun t k => XS.iloadN X17.here hx rfl (hb hby d3_9) rfl k) ?_
              show Go _ _ _ _ _ _ _ T17 (mkF m 10 #[.val (.int x), .val (.ref b1), .val (.int (6 : Int32)), .val (.int (6 : Int32)), .val (.ref c5)] [(.int (6 : Int32))])
              refine Go.step (fun t k => XS.iloadN X17.here hx rfl (hb hby d3_10) rfl k) ?_
              show Go _ _ _ _ _ _ _ T17 (mkF m 11 #[.val (.int x), .val (.ref b1), .val (.int (6 : Int32)), .val (.int (6 : Int32)), .val (.ref c5)] [(.int (6 : Int32)), (.int (6 : Int32))])
              refine Go.step (fun t k => XS.icmpYes X17.here hx rfl (pc0 := 11) (pc' := 37) rfl (hb hby d3_11) rfl (flt (by decide)).2.1 (by decide) (by decide) k) ?_
              show Go _ _ _ _ _ _ _ T17 (mkF m 37 #[.val (.int x), .val (.ref b1), .val (.int (6 : Int32)), .val (.int (6 : Int32)), .val (.ref c5)] [])
              have f21 := (own_sta_keep Sc5 K1q)
              obtain ⟨T20, X20, e20, st20⟩ := getS2 X17 hx hZ hown (host := "") (Or.inl (hw _ (List.mem_of_getElem? (i := 49) rfl))) Via.refl e17 f21 (g := (mkF m 37 #[.val (.int x), .val (.ref b1), .val (.int (6 : Int32)), .val (.int (6 : Int32)), .val (.ref c5)] [])) rfl (hb hby d3_37)
              refine Go.step (st20) ?_
              show Go _ _ _ _ _ _ _ T20 (mkF m 40 #[.val (.int x), .val (.ref b1), .val (.int (6 : Int32)), .val (.int (6 : Int32)), .val (.ref c5)] [(.ref c5)])
              refine go_retA X20 hx (t := (.object "com/example/bearer/bearer/model/Registration")) hret rfl hlk rfl (hb hby d3_40) ?_ (by decide) (by decide)
              try rw [e20]
              exact ⟨congrArg (fun z => some (Value.ref z)) (by simp only [ofs, eq_false c25_4, eq_false c25_7, eq_false c25_10, eq_false c25_13, eq_false c25_16, eq_false c25_19, if_true, if_false]), N1, eI ▸ K1⟩
theorem ef_rm0 (m : MethodId) (x0 : Int32) (x1 : Int32) : entryFrame m #[(.int x0), (.int x1)] maxLocals = mkF m 0 #[.val (.int x0), .val (.int x1), .unset, .unset, .unset, .unset, .unset, .unset] [] := by first | (simp [entryFrame, mkF, argsToLocals, Value.category, maxLocals]; done) | rfl
theorem pn_1 : plainName "com/example/bearer/bearer/model/RegistrationIsRegisteredPinLaw" = true := by first | (simp [plainName, overriddenIn]; done) | decide +kernel
theorem pd_1 : parseMethodDescriptor "()I" = some ⟨[], some .int⟩ := by decide +kernel
theorem pd_2 : parseMethodDescriptor "()Z" = some ⟨[], some .boolean⟩ := by decide +kernel
theorem pd_3 : parseMethodDescriptor "(I)Lcom/example/bearer/bearer/model/Registration;" = some ⟨[.int], some (.object "com/example/bearer/bearer/model/Registration")⟩ := by decide +kernel
set_option maxRecDepth 65536 in
set_option maxHeartbeats 40000000 in
theorem rm0 (l : Launch) (Z : State) (a0 : Array Value) (hw : ∀ d ∈ tables_1, d.before a0 Z = true) (ws : List Jvm.Cond) (i0 i1 : Int32) (c0 c1 c2 c3 c4 c5 va : Addr) (h0 : Heap) (n0 : Nat) (Z0 : n0 ≤ h0.size) (Sc0 : Sta Z h0 "com/example/bearer/bearer/model/Registration" "HOME" "Lcom/example/bearer/bearer/model/Registration;" (.ref c0)) (Sc1 : Sta Z h0 "com/example/bearer/bearer/model/Registration" "ROAMING" "Lcom/example/bearer/bearer/model/Registration;" (.ref c1)) (Sc2 : Sta Z h0 "com/example/bearer/bearer/model/Registration" "SEARCHING" "Lcom/example/bearer/bearer/model/Registration;" (.ref c2)) (Sc3 : Sta Z h0 "com/example/bearer/bearer/model/Registration" "DENIED" "Lcom/example/bearer/bearer/model/Registration;" (.ref c3)) (Sc4 : Sta Z h0 "com/example/bearer/bearer/model/Registration" "NOT_REGISTERED" "Lcom/example/bearer/bearer/model/Registration;" (.ref c4)) (Sc5 : Sta Z h0 "com/example/bearer/bearer/model/Registration" "UNKNOWN" "Lcom/example/bearer/bearer/model/Registration;" (.ref c5)) (Ec0 : Exa Z h0 c0 "com/example/bearer/bearer/model/Registration") (Ec1 : Exa Z h0 c1 "com/example/bearer/bearer/model/Registration") (Ec2 : Exa Z h0 c2 "com/example/bearer/bearer/model/Registration") (Ec3 : Exa Z h0 c3 "com/example/bearer/bearer/model/Registration") (Ec4 : Exa Z h0 c4 "com/example/bearer/bearer/model/Registration") (Ec5 : Exa Z h0 c5 "com/example/bearer/bearer/model/Registration") (Fc0 : Fld Z h0 c0 "com/example/bearer/bearer/model/Registration" "stat" "I" (.int (1 : Int32))) (Fc1 : Fld Z h0 c1 "com/example/bearer/bearer/model/Registration" "stat" "I" (.int (5 : Int32))) (Fc2 : Fld Z h0 c2 "com/example/bearer/bearer/model/Registration" "stat" "I" (.int (2 : Int32))) (Fc3 : Fld Z h0 c3 "com/example/bearer/bearer/model/Registration" "stat" "I" (.int (3 : Int32))) (Fc4 : Fld Z h0 c4 "com/example/bearer/bearer/model/Registration" "stat" "I" (.int (0 : Int32))) (Fc5 : Fld Z h0 c5 "com/example/bearer/bearer/model/Registration" "stat" "I" (.int (4 : Int32))) (SV : Sta Z h0 "com/example/bearer/bearer/model/Registration" "$VALUES" "[Lcom/example/bearer/bearer/model/Registration;" (.ref va)) (EV : Exa Z h0 va "[Lcom/example/bearer/bearer/model/Registration;") (VV : AV Z h0 va (.object "com/example/bearer/bearer/model/Registration") 6 (lst [(.ref c0), (.ref c1), (.ref c2), (.ref c3), (.ref c4), (.ref c5)])) (n01 : c0 ≠ c1) (n02 : c0 ≠ c2) (n03 : c0 ≠ c3) (n04 : c0 ≠ c4) (n05 : c0 ≠ c5) (n12 : c1 ≠ c2) (n13 : c1 ≠ c3) (n14 : c1 ≠ c4) (n15 : c1 ≠ c5) (n23 : c2 ≠ c3) (n24 : c2 ≠ c4) (n25 : c2 ≠ c5) (n34 : c3 ≠ c4) (n35 : c3 ≠ c5) (n45 : c4 ≠ c5) (nv0 : c0 ≠ va) (nv1 : c1 ≠ va) (nv2 : c2 ≠ va) (nv3 : c3 ≠ va) (nv4 : c4 ≠ va) (nv5 : c5 ≠ va) :
    Ctr l Z x code maxLocals ret ws room_1 16 128 #[(.int i0), (.int i1)] h0 (fun v h L => v = some (.int (1 : Int32)) ∧ Fr n0 L) := by
  refine Ctr.mk (plainFor_of_name pn_1) fun p e s m below meth c T0 X0 C e0 => go_cast (ef_rm0 m i0 i1) ?_
  have N0 := Fr.nil n0
  obtain ⟨hx, hZ, hby, hml, hown, hnm, hret, hlk⟩ := C
  show Go _ _ _ _ _ _ _ T0 (mkF m 0 #[.val (.int i0), .val (.int i1), .unset, .unset, .unset, .unset, .unset, .unset] [])
  refine Go.step (fun t k => XS.bipush X0.here hx rfl (hb hby at_0) k) ?_
  show Go _ _ _ _ _ _ _ T0 (mkF m 2 #[.val (.int i0), .val (.int i1), .unset, .unset, .unset, .unset, .unset, .unset] [(.int (6 : Int32))])
  obtain ⟨T1, h1, k1, X1, e1, E1, A1, EA1, O1, st1⟩ := newRE X0 hx hZ hown (hw _ (List.mem_of_getElem? (i := 0) rfl)) (hw _ (List.mem_of_getElem? (i := 1) rfl)) e0 (g := (mkF m 2 #[.val (.int i0), .val (.int i1), .unset, .unset, .unset, .unset, .unset, .unset] [(.int (6 : Int32))])) rfl (hb hby at_2) rfl (by decide) (cap := 6) (by decide) (by decide) (by decide) (by decide) (ad := "[Lcom/example/bearer/bearer/model/Registration;") rfl
  obtain ⟨b1, g1⟩ : ∃ z, z = h0.size := ⟨_, rfl⟩
  rw [← g1] at A1 EA1 st1
  have fc1 := own_cls A1 EA1
  have ne_c0_b1 : c0 ≠ b1 := Nat.ne_of_lt (Nat.lt_of_lt_of_le Ec0.lt (Nat.le_of_eq g1.symm))
  have ne_c1_b1 : c1 ≠ b1 := Nat.ne_of_lt (Nat.lt_of_lt_of_le Ec1.lt (Nat.le_of_eq g1.symm))
  have ne_c2_b1 : c2 ≠ b1 := Nat.ne_of_lt (Nat.lt_of_lt_of_le Ec2.lt (Nat.le_of_eq g1.symm))
  have ne_c3_b1 : c3 ≠ b1 := Nat.ne_of_lt (Nat.lt_of_lt_of_le Ec3.lt (Nat.le_of_eq g1.symm))
  have ne_c4_b1 : c4 ≠ b1 := Nat.ne_of_lt (Nat.lt_of_lt_of_le Ec4.lt (Nat.le_of_eq g1.symm))
  have ne_c5_b1 : c5 ≠ b1 := Nat.ne_of_lt (Nat.lt_of_lt_of_le Ec5.lt (Nat.le_of_eq g1.symm))
  have ne_va_b1 : va ≠ b1 := Nat.ne_of_lt (Nat.lt_of_lt_of_le EV.lt (Nat.le_of_eq g1.symm))
  have gn_b1 : n0 ≤ b1 := Nat.le_trans Z0 (Nat.le_of_eq g1.symm)
  have Z1 : n0 ≤ h1.size := Nat.le_trans Z0 E1.1
  have V1 : AV Z h1 b1 (.object "com/example/bearer/bearer/model/Registration") 6 (lst [.null, .null, .null, .null, .null, .null]) := AV.newL (AV.new A1 (by decide)) rfl
  refine Go.step (st1) ?_
  show Go _ _ _ _ _ _ _ T1 (mkF m 5 #[.val (.int i0), .val (.int i1), .unset, .unset, .unset, .unset, .unset, .unset] [(.ref b1)])
  refine Go.step (fun t k => XS.dup X1.here hx rfl (hb hby at_5) rfl rfl k) ?_
  show Go _ _ _ _ _ _ _ T1 (mkF m 6 #[.val (.int i0), .val (.int i1), .unset, .unset, .unset, .unset, .unset, .unset] [(.ref b1), (.ref b1)])
  refine Go.step (fun t k => XS.iconst X1.here hx rfl (hb hby at_6) k) ?_
  show Go _ _ _ _ _ _ _ T1 (mkF m 7 #[.val (.int i0), .val (.int i1), .unset, .unset, .unset, .unset, .unset, .unset] [(.int (0 : Int32)), (.ref b1), (.ref b1)])
  have f3 := (Sta.ext E1 Sc0)
  obtain ⟨T2, X2, e2, st2⟩ := getS2 X1 hx hZ hown (host := "") (Or.inl (hw _ (List.mem_of_getElem? (i := 2) rfl))) Via.refl e1 f3 (g := (mkF m 7 #[.val (.int i0), .val (.int i1), .unset, .unset, .unset, .unset, .unset, .unset] [(.int (0 : Int32)), (.ref b1), (.ref b1)])) rfl (hb hby at_7)
  refine Go.step (st2) ?_
  show Go _ _ _ _ _ _ _ T2 (mkF m 10 #[.val (.int i0), .val (.int i1), .unset, .unset, .unset, .unset, .unset, .unset] [(.ref c0), (.int (0 : Int32)), (.ref b1), (.ref b1)])
  obtain ⟨cl4, Ar4, hin4, -⟩ := V1.at (j := (0 : Int32)) (k := 0) (by decide) (by decide)
  have f5 := (Exa.ext E1 Ec0)
  obtain ⟨T4, h4, X4, e4, W4, st4⟩ := stR X2 hx hZ e2 Ar4 (j := (0 : Int32)) hin4 rfl (own_sto Ar4 EA1 fc1 O1 (Ins.self f5)) (g := (mkF m 10 #[.val (.int i0), .val (.int i1), .unset, .unset, .unset, .unset, .unset, .unset] [(.ref c0), (.int (0 : Int32)), (.ref b1), (.ref b1)])) rfl rfl (hb hby at_10)
  have V4 : AV Z h4 b1 (.object "com/example/bearer/bearer/model/Registration") 6 (lst [(.ref c0), .null, .null, .null, .null, .null]) := AV.setL V1 (k := 0) (by decide) (by decide) W4 (Nat.le_of_ble_eq_true rfl) rfl
  have N4 := Fr.snoc X4 N0 gn_b1
  have Z4 : n0 ≤ h4.size := Nat.le_trans Z1 (Keep.of_wr W4).1
  refine Go.step (st4) ?_
  show Go _ _ _ _ _ _ _ T4 (mkF m 11 #[.val (.int i0), .val (.int i1), .unset, .unset, .unset, .unset, .unset, .unset] [(.ref b1)])
  refine Go.step (fun t k => XS.dup X4.here hx rfl (hb hby at_11) rfl rfl k) ?_
  show Go _ _ _ _ _ _ _ T4 (mkF m 12 #[.val (.int i0), .val (.int i1), .unset, .unset, .unset, .unset, .unset, .unset] [(.ref b1), (.ref b1)])
  refine Go.step (fun t k => XS.iconst X4.here hx rfl (hb hby at_12) k) ?_
  show Go _ _ _ _ _ _ _ T4 (mkF m 13 #[.val (.int i0), .val (.int i1), .unset, .unset, .unset, .unset, .unset, .unset] [(.int (1 : Int32)), (.ref b1), (.ref b1)])
  have f7 := (Sta.wr W4 (Sta.ext E1 Sc1))
  obtain ⟨T6, X6, e6, st6⟩ := getS2 X4 hx hZ hown (host := "") (Or.inl (hw _ (List.mem_of_getElem? (i := 6) rfl))) Via.refl e4 f7 (g := (mkF m 13 #[.val (.int i0), .val (.int i1), .unset, .unset, .unset, .unset, .unset, .unset] [(.int (1 : Int32)), (.ref b1), (.ref b1)])) rfl (hb hby at_13)
  refine Go.step (st6) ?_
  show Go _ _ _ _ _ _ _ T6 (mkF m 16 #[.val (.int i0), .val (.int i1), .unset, .unset, .unset, .unset, .unset, .unset] [(.ref c1), (.int (1 : Int32)), (.ref b1), (.ref b1)])
  obtain ⟨cl8, Ar8, hin8, -⟩ := V4.at (j := (1 : Int32)) (k := 1) (by decide) (by decide)
  have f9 := (Exa.wr W4 EA1)
  have f10 := (Exa.wr W4 (Exa.ext E1 Ec1))
  obtain ⟨T8, h8, X8, e8, W8, st8⟩ := stR X6 hx hZ e6 Ar8 (j := (1 : Int32)) hin8 rfl (own_sto Ar8 f9 fc1 O1 (Ins.self f10)) (g := (mkF m 16 #[.val (.int i0), .val (.int i1), .unset, .unset, .unset, .unset, .unset, .unset] [(.ref c1), (.int (1 : Int32)), (.ref b1), (.ref b1)])) rfl rfl (hb hby at_16)
  have V8 : AV Z h8 b1 (.object "com/example/bearer/bearer/model/Registration") 6 (lst [(.ref c0), (.ref c1), .null, .null, .null, .null]) := AV.setL V4 (k := 1) (by decide) (by decide) W8 (Nat.le_of_ble_eq_true rfl) rfl
  have N8 := Fr.snoc X8 N4 gn_b1
  have Z8 : n0 ≤ h8.size := Nat.le_trans Z4 (Keep.of_wr W8).1
  refine Go.step (st8) ?_
  show Go _ _ _ _ _ _ _ T8 (mkF m 17 #[.val (.int i0), .val (.int i1), .unset, .unset, .unset, .unset, .unset, .unset] [(.ref b1)])
  refine Go.step (fun t k => XS.dup X8.here hx rfl (hb hby at_17) rfl rfl k) ?_
  show Go _ _ _ _ _ _ _ T8 (mkF m 18 #[.val (.int i0), .val (.int i1), .unset, .unset, .unset, .unset, .unset, .unset] [(.ref b1), (.ref b1)])
  refine Go.step (fun t k => XS.iconst X8.here hx rfl (hb hby at_18) k) ?_
  show Go _ _ _ _ _ _ _ T8 (mkF m 19 #[.val (.int i0), .val (.int i1), .unset, .unset, .unset, .unset, .unset, .unset] [(.int (2 : Int32)), (.ref b1), (.ref b1)])
  have f12 := (Sta.wr W8 (Sta.wr W4 (Sta.ext E1 Sc2)))
  obtain ⟨T11, X11, e11, st11⟩ := getS2 X8 hx hZ hown (host := "") (Or.inl (hw _ (List.mem_of_getElem? (i := 8) rfl))) Via.refl e8 f12 (g := (mkF m 19 #[.val (.int i0), .val (.int i1), .unset, .unset, .unset, .unset, .unset, .unset] [(.int (2 : Int32)), (.ref b1), (.ref b1)])) rfl (hb hby at_19)
  refine Go.step (st11) ?_
  show Go _ _ _ _ _ _ _ T11 (mkF m 22 #[.val (.int i0), .val (.int i1), .unset, .unset, .unset, .unset, .unset, .unset] [(.ref c2), (.int (2 : Int32)), (.ref b1), (.ref b1)])
  obtain ⟨cl13, Ar13, hin13, -⟩ := V8.at (j := (2 : Int32)) (k := 2) (by decide) (by decide)
  have f14 := (Exa.wr W8 f9)
  have f15 := (Exa.wr W8 (Exa.wr W4 (Exa.ext E1 Ec2)))
  obtain ⟨T13, h13, X13, e13, W13, st13⟩ := stR X11 hx hZ e11 Ar13 (j := (2 : Int32)) hin13 rfl (own_sto Ar13 f14 fc1 O1 (Ins.self f15)) (g := (mkF m 22 #[.val (.int i0), .val (.int i1), .unset, .unset, .unset, .unset, .unset, .unset] [(.ref c2), (.int (2 : Int32)), (.ref b1), (.ref b1)])) rfl rfl (hb hby at_22)
  have V13 : AV Z h13 b1 (.object "com/example/bearer/bearer/model/Registration") 6 (lst [(.ref c0), (.ref c1), (.ref c2), .null, .null, .null]) := AV.setL V8 (k := 2) (by decide) (by decide) W13 (Nat.le_of_ble_eq_true rfl) rfl
  have N13 := Fr.snoc X13 N8 gn_b1
  have Z13 : n0 ≤ h13.size := Nat.le_trans Z8 (Keep.of_wr W13).1
  refine Go.step (st13) ?_
  show Go _ _ _ _ _ _ _ T13 (mkF m 23 #[.val (.int i0), .val (.int i1), .unset, .unset, .unset, .unset, .unset, .unset] [(.ref b1)])
  refine Go.step (fun t k => XS.dup X13.here hx rfl (hb hby at_23) rfl rfl k) ?_
  show Go _ _ _ _ _ _ _ T13 (mkF m 24 #[.val (.int i0), .val (.int i1), .unset, .unset, .unset, .unset, .unset, .unset] [(.ref b1), (.ref b1)])
  refine Go.step (fun t k => XS.iconst X13.here hx rfl (hb hby at_24) k) ?_
  show Go _ _ _ _ _ _ _ T13 (mkF m 25 #[.val (.int i0), .val (.int i1), .unset, .unset, .unset, .unset, .unset, .unset] [(.int (3 : Int32)), (.ref b1), (.ref b1)])
  have f17 := (Sta.wr W13 (Sta.wr W8 (Sta.wr W4 (Sta.ext E1 Sc3))))
  obtain ⟨T16, X16, e16, st16⟩ := getS2 X13 hx hZ hown (host := "") (Or.inl (hw _ (List.mem_of_getElem? (i := 10) rfl))) Via.refl e13 f17 (g := (mkF m 25 #[.val (.int i0), .val (.int i1), .unset, .unset, .unset, .unset, .unset, .unset] [(.int (3 : Int32)), (.ref b1), (.ref b1)])) rfl (hb hby at_25)
  refine Go.step (st16) ?_
  show Go _ _ _ _ _ _ _ T16 (mkF m 28 #[.val (.int i0), .val (.int i1), .unset, .unset, .unset, .unset, .unset, .unset] [(.ref c3), (.int (3 : Int32)), (.ref b1), (.ref b1)])
  obtain ⟨cl18, Ar18, hin18, -⟩ := V13.at (j := (3 : Int32)) (k := 3) (by decide) (by decide)
  have f19 := (Exa.wr W13 f14)
  have f20 := (Exa.wr W13 (Exa.wr W8 (Exa.wr W4 (Exa.ext E1 Ec3))))
  obtain ⟨T18, h18, X18, e18, W18, st18⟩ := stR X16 hx hZ e16 Ar18 (j := (3 : Int32)) hin18 rfl (own_sto Ar18 f19 fc1 O1 (Ins.self f20)) (g := (mkF m 28 #[.val (.int i0), .val (.int i1), .unset, .unset, .unset, .unset, .unset, .unset] [(.ref c3), (.int (3 : Int32)), (.ref b1), (.ref b1)])) rfl rfl (hb hby at_28)
  have V18 : AV Z h18 b1 (.object "com/example/bearer/bearer/model/Registration") 6 (lst [(.ref c0), (.ref c1), (.ref c2), (.ref c3), .null, .null]) := AV.setL V13 (k := 3) (by decide) (by decide) W18 (Nat.le_of_ble_eq_true rfl) rfl
  have N18 := Fr.snoc X18 N13 gn_b1
  have Z18 : n0 ≤ h18.size := Nat.le_trans Z13 (Keep.of_wr W18).1
  refine Go.step (st18) ?_
  show Go _ _ _ _ _ _ _ T18 (mkF m 29 #[.val (.int i0), .val (.int i1), .unset, .unset, .unset, .unset, .unset, .unset] [(.ref b1)])
  refine Go.step (fun t k => XS.dup X18.here hx rfl (hb hby at_29) rfl rfl k) ?_
  show Go _ _ _ _ _ _ _ T18 (mkF m 30 #[.val (.int i0), .val (.int i1), .unset, .unset, .unset, .unset, .unset, .unset] [(.ref b1), (.ref b1)])
  refine Go.step (fun t k => XS.iconst X18.here hx rfl (hb hby at_30) k) ?_
  show Go _ _ _ _ _ _ _ T18 (mkF m 31 #[.val (.int i0), .val (.int i1), .unset, .unset, .unset, .unset, .unset, .unset] [(.int (4 : Int32)), (.ref b1), (.ref b1)])
  have f22 := (Sta.wr W18 (Sta.wr W13 (Sta.wr W8 (Sta.wr W4 (Sta.ext E1 Sc4)))))
  obtain ⟨T21, X21, e21, st21⟩ := getS2 X18 hx hZ hown (host := "") (Or.inl (hw _ (List.mem_of_getElem? (i := 12) rfl))) Via.refl e18 f22 (g := (mkF m 31 #[.val (.int i0), .val (.int i1), .unset, .unset, .unset, .unset, .unset, .unset] [(.int (4 : Int32)), (.ref b1), (.ref b1)])) rfl (hb hby at_31)
  refine Go.step (st21) ?_
  show Go _ _ _ _ _ _ _ T21 (mkF m 34 #[.val (.int i0), .val (.int i1), .unset, .unset, .unset, .unset, .unset, .unset] [(.ref c4), (.int (4 : Int32)), (.ref b1), (.ref b1)])
  obtain ⟨cl23, Ar23, hin23, -⟩ := V18.at (j := (4 : Int32)) (k := 4) (by decide) (by decide)
  have f24 := (Exa.wr W18 f19)
  have f25 := (Exa.wr W18 (Exa.wr W13 (Exa.wr W8 (Exa.wr W4 (Exa.ext E1 Ec4)))))
  obtain ⟨T23, h23, X23, e23, W23, st23⟩ := stR X21 hx hZ e21 Ar23 (j := (4 : Int32)) hin23 rfl (own_sto Ar23 f24 fc1 O1 (Ins.self f25)) (g := (mkF m 34 #[.val (.int i0), .val (.int i1), .unset, .unset, .unset, .unset, .unset, .unset] [(.ref c4), (.int (4 : Int32)), (.ref b1), (.ref b1)])) rfl rfl (hb hby at_34)
  have V23 : AV Z h23 b1 (.object "com/example/bearer/bearer/model/Registration") 6 (lst [(.ref c0), (.ref c1), (.ref c2), (.ref c3), (.ref c4), .null]) := AV.setL V18 (k := 4) (by decide) (by decide) W23 (Nat.le_of_ble_eq_true rfl) rfl
  have N23 := Fr.snoc X23 N18 gn_b1
  have Z23 : n0 ≤ h23.size := Nat.le_trans Z18 (Keep.of_wr W23).1
  refine Go.step (st23) ?_
  show Go _ _ _ _ _ _ _ T23 (mkF m 35 #[.val (.int i0), .val (.int i1), .unset, .unset, .unset, .unset, .unset, .unset] [(.ref b1)])
  refine Go.step (fun t k => XS.dup X23.here hx rfl (hb hby at_35) rfl rfl k) ?_
  show Go _ _ _ _ _ _ _ T23 (mkF m 36 #[.val (.int i0), .val (.int i1), .unset, .unset, .unset, .unset, .unset, .unset] [(.ref b1), (.ref b1)])
  refine Go.step (fun t k => XS.iconst X23.here hx rfl (hb hby at_36) k) ?_
  show Go _ _ _ _ _ _ _ T23 (mkF m 37 #[.val (.int i0), .val (.int i1), .unset, .unset, .unset, .unset, .unset, .unset] [(.int (5 : Int32)), (.ref b1), (.ref b1)])
  have f27 := (Sta.wr W23 (Sta.wr W18 (Sta.wr W13 (Sta.wr W8 (Sta.wr W4 (Sta.ext E1 Sc5))))))
  obtain ⟨T26, X26, e26, st26⟩ := getS2 X23 hx hZ hown (host := "") (Or.inl (hw _ (List.mem_of_getElem? (i := 14) rfl))) Via.refl e23 f27 (g := (mkF m 37 #[.val (.int i0), .val (.int i1), .unset, .unset, .unset, .unset, .unset, .unset] [(.int (5 : Int32)), (.ref b1), (.ref b1)])) rfl (hb hby at_37)
  refine Go.step (st26) ?_
  show Go _ _ _ _ _ _ _ T26 (mkF m 40 #[.val (.int i0), .val (.int i1), .unset, .unset, .unset, .unset, .unset, .unset] [(.ref c5), (.int (5 : Int32)), (.ref b1), (.ref b1)])
  obtain ⟨cl28, Ar28, hin28, -⟩ := V23.at (j := (5 : Int32)) (k := 5) (by decide) (by decide)
  have f29 := (Exa.wr W23 f24)
  have f30 := (Exa.wr W23 (Exa.wr W18 (Exa.wr W13 (Exa.wr W8 (Exa.wr W4 (Exa.ext E1 Ec5))))))
  obtain ⟨T28, h28, X28, e28, W28, st28⟩ := stR X26 hx hZ e26 Ar28 (j := (5 : Int32)) hin28 rfl (own_sto Ar28 f29 fc1 O1 (Ins.self f30)) (g := (mkF m 40 #[.val (.int i0), .val (.int i1), .unset, .unset, .unset, .unset, .unset, .unset] [(.ref c5), (.int (5 : Int32)), (.ref b1), (.ref b1)])) rfl rfl (hb hby at_40)
  have V28 : AV Z h28 b1 (.object "com/example/bearer/bearer/model/Registration") 6 (lst [(.ref c0), (.ref c1), (.ref c2), (.ref c3), (.ref c4), (.ref c5)]) := AV.setL V23 (k := 5) (by decide) (by decide) W28 (Nat.le_of_ble_eq_true rfl) rfl
  have N28 := Fr.snoc X28 N23 gn_b1
  have Z28 : n0 ≤ h28.size := Nat.le_trans Z23 (Keep.of_wr W28).1
  refine Go.step (st28) ?_
  show Go _ _ _ _ _ _ _ T28 (mkF m 41 #[.val (.int i0), .val (.int i1), .unset, .unset, .unset, .unset, .unset, .unset] [(.ref b1)])
  refine Go.step (fun t k => XS.astoreN X28.here hx rfl (hb hby at_41) rfl rfl (l' := #[.val (.int i0), .val (.int i1), .val (.ref b1), .unset, .unset, .unset, .unset, .unset]) rfl k) ?_
  show Go _ _ _ _ _ _ _ T28 (mkF m 42 #[.val (.int i0), .val (.int i1), .val (.ref b1), .unset, .unset, .unset, .unset, .unset] [])
  refine Go.step (fun t k => XS.aloadN X28.here hx rfl (hb hby at_42) rfl rfl k) ?_
  show Go _ _ _ _ _ _ _ T28 (mkF m 43 #[.val (.int i0), .val (.int i1), .val (.ref b1), .unset, .unset, .unset, .unset, .unset] [(.ref b1)])
  refine Go.step (fun t k => XS.iloadN X28.here hx rfl (hb hby at_43) rfl k) ?_
  show Go _ _ _ _ _ _ _ T28 (mkF m 44 #[.val (.int i0), .val (.int i1), .val (.ref b1), .unset, .unset, .unset, .unset, .unset] [(.int i0), (.ref b1)])
  refine Go.step (X28.ldcInt hx hown (mvT hZ (hw _ (List.mem_of_getElem? (i := 16) rfl))) (g := (mkF m 44 #[.val (.int i0), .val (.int i1), .val (.ref b1), .unset, .unset, .unset, .unset, .unset] [(.int i0), (.ref b1)])) rfl (hb hby at_44)) ?_
  show Go _ _ _ _ _ _ _ T28 (mkF m 46 #[.val (.int i0), .val (.int i1), .val (.ref b1), .unset, .unset, .unset, .unset, .unset] [(.int (2147483647 : Int32)), (.int i0), (.ref b1)])
  refine Go.step (fun t k => XS.iand X28.here hx rfl (hb hby at_46) rfl k) ?_
  show Go _ _ _ _ _ _ _ T28 (mkF m 47 #[.val (.int i0), .val (.int i1), .val (.ref b1), .unset, .unset, .unset, .unset, .unset] [(.int (i0 &&& (2147483647 : Int32))), (.ref b1)])
  refine Go.step (fun t k => XS.bipush X28.here hx rfl (hb hby at_47) k) ?_
  show Go _ _ _ _ _ _ _ T28 (mkF m 49 #[.val (.int i0), .val (.int i1), .val (.ref b1), .unset, .unset, .unset, .unset, .unset] [(.int (6 : Int32)), (.int (i0 &&& (2147483647 : Int32))), (.ref b1)])
  refine Go.step (fun t k => iremM X28 hx rfl (hb hby at_49) rfl (by decide) k) ?_
  show Go _ _ _ _ _ _ _ T28 (mkF m 50 #[.val (.int i0), .val (.int i1), .val (.ref b1), .unset, .unset, .unset, .unset, .unset] [(.int ((i0 &&& (2147483647 : Int32)) % (6 : Int32))), (.ref b1)])
  obtain ⟨n, hn, en⟩ := own_idx i0
  rw [en]
  rcases (by omega : n = 0 ∨ n = 1 ∨ n = 2 ∨ n = 3 ∨ n = 4 ∨ n = 5) with rfl | rfl | rfl | rfl | rfl | rfl
  · show Go _ _ _ _ _ _ _ T28 (mkF m 50 #[.val (.int i0), .val (.int i1), .val (.ref b1), .unset, .unset, .unset, .unset, .unset] [(.int (0 : Int32)), (.ref b1)])
    refine Go.step (a_rload X28 hx hZ e28 V28 rfl (k := 0) (by decide) (by decide) (v := (.ref c0)) rfl (hb hby at_50)) ?_
    show Go _ _ _ _ _ _ _ T28 (mkF m 51 #[.val (.int i0), .val (.int i1), .val (.ref b1), .unset, .unset, .unset, .unset, .unset] [(.ref c0)])
    refine Go.step (fun t k => XS.astoreN X28.here hx rfl (hb hby at_51) rfl rfl (l' := #[.val (.int i0), .val (.int i1), .val (.ref b1), .val (.ref c0), .unset, .unset, .unset, .unset]) rfl k) ?_
    show Go _ _ _ _ _ _ _ T28 (mkF m 52 #[.val (.int i0), .val (.int i1), .val (.ref b1), .val (.ref c0), .unset, .unset, .unset, .unset] [])
    refine Go.step (fun t k => XS.aloadN X28.here hx rfl (hb hby at_52) rfl rfl k) ?_
    show Go _ _ _ _ _ _ _ T28 (mkF m 53 #[.val (.int i0), .val (.int i1), .val (.ref b1), .val (.ref c0), .unset, .unset, .unset, .unset] [(.ref c0)])
    have f32 := (Fld.other W28 (Fld.other W23 (Fld.other W18 (Fld.other W13 (Fld.other W8 (Fld.other W4 (Fld.ext E1 Fc0) (Or.inl ne_c0_b1)) (Or.inl ne_c0_b1)) (Or.inl ne_c0_b1)) (Or.inl ne_c0_b1)) (Or.inl ne_c0_b1)) (Or.inl ne_c0_b1))
    have f33 := (Exa.wr W28 (Exa.wr W23 (Exa.wr W18 (Exa.wr W13 (Exa.wr W8 (Exa.wr W4 f5))))))
    obtain ⟨v31, T31, L31, X31, q31, st31⟩ := c_virt X28 hx hZ hown (y' := (⟨"com/example/bearer/bearer/model/Registration", "stat", "()I"⟩ : MethodName)) (y := (⟨"com/example/bearer/bearer/model/Registration", "stat", "()I"⟩ : MethodName)) (C := "com/example/bearer/bearer/model/Registration") (hw _ (List.mem_of_getElem? (i := 17) rfl)) (hw _ (List.mem_of_getElem? (i := 18) rfl)) (notFace_of_selects (args := #[]) (mvT hZ (hw _ (List.mem_of_getElem? (i := 20) rfl)))) (hw _ (List.mem_of_getElem? (i := 20) rfl)) (hw _ (List.mem_of_getElem? (i := 19) rfl)) (hw _ (List.mem_of_getElem? (i := 3) rfl)) (hw _ (List.mem_of_getElem? (i := 21) rfl)) (by decide) (a := c0) (argsL := []) (rest := []) (rmS l Z a0 hw [] c0 (1 : Int32) h28 n0 Z28 f32) e28 f33 pd_1 rfl (by rw [hml]; rfl) (W := 0) (by show 2 * 0 + _ ≤ _; exact Nat.le_of_eq rfl) (by decide) (by decide) (by decide) (by decide) (hb hby at_53) (Ls := #[.val (.int i0), .val (.int i1), .val (.ref b1), .val (.ref c0), .unset, .unset, .unset, .unset])
    obtain ⟨rfl, rfl, e31⟩ := q31
    have N31 := Fr.app N28 (Fr.nil n0)
    refine Go.step (st31) ?_
    show Go _ _ _ _ _ _ _ T31 (mkF m 56 #[.val (.int i0), .val (.int i1), .val (.ref b1), .val (.ref c0), .unset, .unset, .unset, .unset] [(.int (1 : Int32))])
    refine Go.step (fun t k => XS.istore X31.here hx rfl (hb hby at_56) rfl (l' := #[.val (.int i0), .val (.int i1), .val (.ref b1), .val (.ref c0), .val (.int (1 : Int32)), .unset, .unset, .unset]) rfl k) ?_
    show Go _ _ _ _ _ _ _ T31 (mkF m 58 #[.val (.int i0), .val (.int i1), .val (.ref b1), .val (.ref c0), .val (.int (1 : Int32)), .unset, .unset, .unset] [])
    refine Go.step (fun t k => XS.aloadN X31.here hx rfl (hb hby at_58) rfl rfl k) ?_
    show Go _ _ _ _ _ _ _ T31 (mkF m 59 #[.val (.int i0), .val (.int i1), .val (.ref b1), .val (.ref c0), .val (.int (1 : Int32)), .unset, .unset, .unset] [(.ref c0)])
    have f35 := (Sta.wr W28 (Sta.wr W23 (Sta.wr W18 (Sta.wr W13 (Sta.wr W8 (Sta.wr W4 f3))))))
    have f36 := (Sta.wr W28 (Sta.wr W23 (Sta.wr W18 (Sta.wr W13 (Sta.wr W8 f7)))))
    obtain ⟨v34, T34, L34, X34, q34, st34⟩ := c_virt X31 hx hZ hown (y' := (⟨"com/example/bearer/bearer/model/Registration", "isRegistered", "()Z"⟩ : MethodName)) (y := (⟨"com/example/bearer/bearer/model/Registration", "isRegistered", "()Z"⟩ : MethodName)) (C := "com/example/bearer/bearer/model/Registration") (hw _ (List.mem_of_getElem? (i := 24) rfl)) (hw _ (List.mem_of_getElem? (i := 25) rfl)) (notFace_of_selects (args := #[]) (mvT hZ (hw _ (List.mem_of_getElem? (i := 27) rfl)))) (hw _ (List.mem_of_getElem? (i := 27) rfl)) (hw _ (List.mem_of_getElem? (i := 26) rfl)) (hw _ (List.mem_of_getElem? (i := 3) rfl)) (hw _ (List.mem_of_getElem? (i := 28) rfl)) (by decide) (a := c0) (argsL := []) (rest := []) (rmR l Z a0 hw [] c0 c0 c1 h28 n0 Z28 f35 f36) e31 f33 pd_2 rfl (by rw [hml]; rfl) (W := 0) (by show 2 * 0 + _ ≤ _; exact Nat.le_of_eq rfl) (by decide) (by decide) (by decide) (by decide) (hb hby at_59) (Ls := #[.val (.int i0), .val (.int i1), .val (.ref b1), .val (.ref c0), .val (.int (1 : Int32)), .unset, .unset, .unset])
    obtain ⟨rfl, rfl, e34⟩ := q34
    have N34 := Fr.app N31 (Fr.nil n0)
    refine Go.step (st34) ?_
    show Go _ _ _ _ _ _ _ T34 (mkF m 62 #[.val (.int i0), .val (.int i1), .val (.ref b1), .val (.ref c0), .val (.int (1 : Int32)), .unset, .unset, .unset] [(.int (bi (c0 = c0 ∨ c0 = c1)))])
    rw [bi_t (P := c0 = c0 ∨ c0 = c1) (Or.inl rfl)]
    show Go _ _ _ _ _ _ _ T34 (mkF m 62 #[.val (.int i0), .val (.int i1), .val (.ref b1), .val (.ref c0), .val (.int (1 : Int32)), .unset, .unset, .unset] [(.int (1 : Int32))])
    refine Go.step (fun t k => XS.iload X34.here hx rfl (hb hby at_62) rfl k) ?_
    show Go _ _ _ _ _ _ _ T34 (mkF m 64 #[.val (.int i0), .val (.int i1), .val (.ref b1), .val (.ref c0), .val (.int (1 : Int32)), .unset, .unset, .unset] [(.int (1 : Int32)), (.int (1 : Int32))])
    refine Go.step (fun t k => XS.iconst X34.here hx rfl (hb hby at_64) k) ?_
    show Go _ _ _ _ _ _ _ T34 (mkF m 65 #[.val (.int i0), .val (.int i1), .val (.ref b1), .val (.ref c0), .val (.int (1 : Int32)), .unset, .unset, .unset] [(.int (1 : Int32)), (.int (1 : Int32)), (.int (1 : Int32))])
    refine Go.step (fun t k => XS.icmpYes X34.here hx rfl (pc0 := 65) (pc' := 74) rfl (hb hby at_65) rfl (teq (by decide)).1 (by decide) (by decide) k) ?_
    show Go _ _ _ _ _ _ _ T34 (mkF m 74 #[.val (.int i0), .val (.int i1), .val (.ref b1), .val (.ref c0), .val (.int (1 : Int32)), .unset, .unset, .unset] [(.int (1 : Int32))])
    refine Go.step (fun t k => XS.iconst X34.here hx rfl (hb hby at_74) k) ?_
    show Go _ _ _ _ _ _ _ T34 (mkF m 75 #[.val (.int i0), .val (.int i1), .val (.ref b1), .val (.ref c0), .val (.int (1 : Int32)), .unset, .unset, .unset] [(.int (1 : Int32)), (.int (1 : Int32))])
    refine Go.step (fun t k => XS.goto X34.here hx rfl (pc0 := 75) (pc' := 79) rfl (hb hby at_75) (by decide) (by decide) k) ?_
    show Go _ _ _ _ _ _ _ T34 (mkF m 79 #[.val (.int i0), .val (.int i1), .val (.ref b1), .val (.ref c0), .val (.int (1 : Int32)), .unset, .unset, .unset] [(.int (1 : Int32)), (.int (1 : Int32))])
    refine Go.step (fun t k => XS.icmpNo X34.here hx rfl (hb hby at_79) rfl (teq (by decide)).2 k) ?_
    show Go _ _ _ _ _ _ _ T34 (mkF m 82 #[.val (.int i0), .val (.int i1), .val (.ref b1), .val (.ref c0), .val (.int (1 : Int32)), .unset, .unset, .unset] [])
    refine Go.step (fun t k => XS.iconst X34.here hx rfl (hb hby at_82) k) ?_
    show Go _ _ _ _ _ _ _ T34 (mkF m 83 #[.val (.int i0), .val (.int i1), .val (.ref b1), .val (.ref c0), .val (.int (1 : Int32)), .unset, .unset, .unset] [(.int (1 : Int32))])
    refine Go.step (fun t k => XS.goto X34.here hx rfl (pc0 := 83) (pc' := 87) rfl (hb hby at_83) (by decide) (by decide) k) ?_
    show Go _ _ _ _ _ _ _ T34 (mkF m 87 #[.val (.int i0), .val (.int i1), .val (.ref b1), .val (.ref c0), .val (.int (1 : Int32)), .unset, .unset, .unset] [(.int (1 : Int32))])
    refine Go.step (fun t k => XS.istore X34.here hx rfl (hb hby at_87) rfl (l' := #[.val (.int i0), .val (.int i1), .val (.ref b1), .val (.ref c0), .val (.int (1 : Int32)), .val (.int (1 : Int32)), .unset, .unset]) rfl k) ?_
    show Go _ _ _ _ _ _ _ T34 (mkF m 89 #[.val (.int i0), .val (.int i1), .val (.ref b1), .val (.ref c0), .val (.int (1 : Int32)), .val (.int (1 : Int32)), .unset, .unset] [])
    refine Go.step (fun t k => XS.iloadN X34.here hx rfl (hb hby at_89) rfl k) ?_
    show Go _ _ _ _ _ _ _ T34 (mkF m 90 #[.val (.int i0), .val (.int i1), .val (.ref b1), .val (.ref c0), .val (.int (1 : Int32)), .val (.int (1 : Int32)), .unset, .unset] [(.int i1)])
    have f38 := (Sta.wr W28 (Sta.wr W23 (Sta.wr W18 (Sta.wr W13 f12))))
    have f39 := (Sta.wr W28 (Sta.wr W23 (Sta.wr W18 f17)))
    have f40 := (Sta.wr W28 (Sta.wr W23 f22))
    have f41 := (Sta.wr W28 f27)
    have f42 := (Exa.wr W28 (Exa.wr W23 (Exa.wr W18 (Exa.wr W13 (Exa.wr W8 f10)))))
    have f43 := (Exa.wr W28 (Exa.wr W23 (Exa.wr W18 (Exa.wr W13 f15))))
    have f44 := (Exa.wr W28 (Exa.wr W23 (Exa.wr W18 f20)))
    have f45 := (Exa.wr W28 (Exa.wr W23 f25))
    have f46 := (Exa.wr W28 f30)
    have f47 := (Fld.other W28 (Fld.other W23 (Fld.other W18 (Fld.other W13 (Fld.other W8 (Fld.other W4 (Fld.ext E1 Fc1) (Or.inl ne_c1_b1)) (Or.inl ne_c1_b1)) (Or.inl ne_c1_b1)) (Or.inl ne_c1_b1)) (Or.inl ne_c1_b1)) (Or.inl ne_c1_b1))
    have f48 := (Fld.other W28 (Fld.other W23 (Fld.other W18 (Fld.other W13 (Fld.other W8 (Fld.other W4 (Fld.ext E1 Fc2) (Or.inl ne_c2_b1)) (Or.inl ne_c2_b1)) (Or.inl ne_c2_b1)) (Or.inl ne_c2_b1)) (Or.inl ne_c2_b1)) (Or.inl ne_c2_b1))
    have f49 := (Fld.other W28 (Fld.other W23 (Fld.other W18 (Fld.other W13 (Fld.other W8 (Fld.other W4 (Fld.ext E1 Fc3) (Or.inl ne_c3_b1)) (Or.inl ne_c3_b1)) (Or.inl ne_c3_b1)) (Or.inl ne_c3_b1)) (Or.inl ne_c3_b1)) (Or.inl ne_c3_b1))
    have f50 := (Fld.other W28 (Fld.other W23 (Fld.other W18 (Fld.other W13 (Fld.other W8 (Fld.other W4 (Fld.ext E1 Fc4) (Or.inl ne_c4_b1)) (Or.inl ne_c4_b1)) (Or.inl ne_c4_b1)) (Or.inl ne_c4_b1)) (Or.inl ne_c4_b1)) (Or.inl ne_c4_b1))
    have f51 := (Fld.other W28 (Fld.other W23 (Fld.other W18 (Fld.other W13 (Fld.other W8 (Fld.other W4 (Fld.ext E1 Fc5) (Or.inl ne_c5_b1)) (Or.inl ne_c5_b1)) (Or.inl ne_c5_b1)) (Or.inl ne_c5_b1)) (Or.inl ne_c5_b1)) (Or.inl ne_c5_b1))
    have f52 := (Sta.wr W28 (Sta.wr W23 (Sta.wr W18 (Sta.wr W13 (Sta.wr W8 (Sta.wr W4 (Sta.ext E1 SV)))))))
    have f53 := (Exa.wr W28 (Exa.wr W23 (Exa.wr W18 (Exa.wr W13 (Exa.wr W8 (Exa.wr W4 (Exa.ext E1 EV)))))))
    have f54 := (((((((VV.ext E1).other W4 ne_va_b1).other W8 ne_va_b1).other W13 ne_va_b1).other W18 ne_va_b1).other W23 ne_va_b1).other W28 ne_va_b1)
    obtain ⟨v37, T37, L37, X37, q37, st37⟩ := c_static X34 hx hZ hown (y := (⟨"com/example/bearer/bearer/model/Registration", "ofStat", "(I)Lcom/example/bearer/bearer/model/Registration;"⟩ : MethodName)) (hw _ (List.mem_of_getElem? (i := 30) rfl)) (hw _ (List.mem_of_getElem? (i := 31) rfl)) (hw _ (List.mem_of_getElem? (i := 3) rfl)) (hw _ (List.mem_of_getElem? (i := 32) rfl)) (by decide) (argsL := [(.int i1)]) (rest := []) (rmO l Z a0 hw [] i1 c0 c1 c2 c3 c4 c5 va h28 n0 Z28 f35 f36 f38 f39 f40 f41 f33 f42 f43 f44 f45 f46 f32 f47 f48 f49 f50 f51 f52 f53 f54) e34 pd_3 rfl (by rw [hml]; rfl) (W := 0) (by show 2 * 0 + _ ≤ _; exact Nat.le_of_eq rfl) (by decide) (by decide) (by decide) (by decide) (hb hby at_90) (Ls := #[.val (.int i0), .val (.int i1), .val (.ref b1), .val (.ref c0), .val (.int (1 : Int32)), .val (.int (1 : Int32)), .unset, .unset])
    generalize e37 : T37.heap = h37 at q37
    obtain ⟨rfl, N37q, K37q⟩ := q37
    have N37 := Fr.app N34 N37q
    have Z37 : n0 ≤ h37.size := Nat.le_trans Z28 K37q.1
    have f55 := (f33.keep K37q)
    have f56 := (f42.keep K37q)
    have f57 := (f43.keep K37q)
    have f58 := (f44.keep K37q)
    have f59 := (f45.keep K37q)
    have f60 := (f46.keep K37q)
    refine Go.step (st37) ?_
    show Go _ _ _ _ _ _ _ T37 (mkF m 93 #[.val (.int i0), .val (.int i1), .val (.ref b1), .val (.ref c0), .val (.int (1 : Int32)), .val (.int (1 : Int32)), .unset, .unset] [(.ref (ofs i1 c0 c1 c2 c3 c4 c5))])
    refine Go.step (fun t k => XS.astore X37.here hx rfl (hb hby at_93) rfl rfl (l' := #[.val (.int i0), .val (.int i1), .val (.ref b1), .val (.ref c0), .val (.int (1 : Int32)), .val (.int (1 : Int32)), .val (.ref (ofs i1 c0 c1 c2 c3 c4 c5)), .unset]) rfl k) ?_
    show Go _ _ _ _ _ _ _ T37 (mkF m 95 #[.val (.int i0), .val (.int i1), .val (.ref b1), .val (.ref c0), .val (.int (1 : Int32)), .val (.int (1 : Int32)), .val (.ref (ofs i1 c0 c1 c2 c3 c4 c5)), .unset] [])
    refine Go.step (fun t k => XS.aload X37.here hx rfl (hb hby at_95) rfl rfl k) ?_
    show Go _ _ _ _ _ _ _ T37 (mkF m 97 #[.val (.int i0), .val (.int i1), .val (.ref b1), .val (.ref c0), .val (.int (1 : Int32)), .val (.int (1 : Int32)), .val (.ref (ofs i1 c0 c1 c2 c3 c4 c5)), .unset] [(.ref (ofs i1 c0 c1 c2 c3 c4 c5))])
    have f62 := (own_sta_keep f35 K37q)
    have f63 := (own_sta_keep f36 K37q)
    obtain ⟨v61, T61, L61, X61, q61, st61⟩ := c_virt X37 hx hZ hown (y' := (⟨"com/example/bearer/bearer/model/Registration", "isRegistered", "()Z"⟩ : MethodName)) (y := (⟨"com/example/bearer/bearer/model/Registration", "isRegistered", "()Z"⟩ : MethodName)) (C := "com/example/bearer/bearer/model/Registration") (hw _ (List.mem_of_getElem? (i := 24) rfl)) (hw _ (List.mem_of_getElem? (i := 25) rfl)) (notFace_of_selects (args := #[]) (mvT hZ (hw _ (List.mem_of_getElem? (i := 27) rfl)))) (hw _ (List.mem_of_getElem? (i := 27) rfl)) (hw _ (List.mem_of_getElem? (i := 26) rfl)) (hw _ (List.mem_of_getElem? (i := 3) rfl)) (hw _ (List.mem_of_getElem? (i := 28) rfl)) (by decide) (a := (ofs i1 c0 c1 c2 c3 c4 c5)) (argsL := []) (rest := []) (rmR l Z a0 hw [] (ofs i1 c0 c1 c2 c3 c4 c5) c0 c1 h37 n0 Z37 f62 f63) e37 (own_sel (P := fun c => Exa Z h37 c "com/example/bearer/bearer/model/Registration") f55 f56 f57 f58 f59 f60) pd_2 rfl (by rw [hml]; rfl) (W := 0) (by show 2 * 0 + _ ≤ _; exact Nat.le_of_eq rfl) (by decide) (by decide) (by decide) (by decide) (hb hby at_97) (Ls := #[.val (.int i0), .val (.int i1), .val (.ref b1), .val (.ref c0), .val (.int (1 : Int32)), .val (.int (1 : Int32)), .val (.ref (ofs i1 c0 c1 c2 c3 c4 c5)), .unset])
    obtain ⟨rfl, rfl, e61⟩ := q61
    have N61 := Fr.app N37 (Fr.nil n0)
    refine Go.step (st61) ?_
    show Go _ _ _ _ _ _ _ T61 (mkF m 100 #[.val (.int i0), .val (.int i1), .val (.ref b1), .val (.ref c0), .val (.int (1 : Int32)), .val (.int (1 : Int32)), .val (.ref (ofs i1 c0 c1 c2 c3 c4 c5)), .unset] [(.int (bi ((ofs i1 c0 c1 c2 c3 c4 c5) = c0 ∨ (ofs i1 c0 c1 c2 c3 c4 c5) = c1)))])
    refine Go.step (fun t k => XS.iloadN X61.here hx rfl (hb hby at_100) rfl k) ?_
    show Go _ _ _ _ _ _ _ T61 (mkF m 101 #[.val (.int i0), .val (.int i1), .val (.ref b1), .val (.ref c0), .val (.int (1 : Int32)), .val (.int (1 : Int32)), .val (.ref (ofs i1 c0 c1 c2 c3 c4 c5)), .unset] [(.int i1), (.int (bi ((ofs i1 c0 c1 c2 c3 c4 c5) = c0 ∨ (ofs i1 c0 c1 c2 c3 c4 c5) = c1)))])
    refine Go.step (fun t k => XS.iconst X61.here hx rfl (hb hby at_101) k) ?_
    show Go _ _ _ _ _ _ _ T61 (mkF m 102 #[.val (.int i0), .val (.int i1), .val (.ref b1), .val (.ref c0), .val (.int (1 : Int32)), .val (.int (1 : Int32)), .val (.ref (ofs i1 c0 c1 c2 c3 c4 c5)), .unset] [(.int (1 : Int32)), (.int i1), (.int (bi ((ofs i1 c0 c1 c2 c3 c4 c5) = c0 ∨ (ofs i1 c0 c1 c2 c3 c4 c5) = c1)))])
    obtain ⟨q102, hq102⟩ : ∃ q : Bool, q = true ↔ ((i1 = (1 : Int32)) ∨ (i1 = (5 : Int32))) := ⟨decide ((i1 = (1 : Int32)) ∨ (i1 = (5 : Int32))), decide_eq_true_iff⟩
    have j102 : Go p e s below 16 128 (fun v h L => v = some (.int (1 : Int32)) ∧ Fr n0 L) T61 (mkF m 115 #[.val (.int i0), .val (.int i1), .val (.ref b1), .val (.ref c0), .val (.int (1 : Int32)), .val (.int (1 : Int32)), .val (.ref (ofs i1 c0 c1 c2 c3 c4 c5)), .unset] [(.int (bi (q102 = true))), (.int (bi ((ofs i1 c0 c1 c2 c3 c4 c5) = c0 ∨ (ofs i1 c0 c1 c2 c3 c4 c5) = c1)))]) := by
      refine Go.step (fun t k => XS.icmpNo X61.here hx rfl (hb hby at_115) rfl (teq (bi_congr ((own_reg n02 n03 n04 n05 n12 n13 n14 n15).trans hq102.symm))).2 k) ?_
      show Go _ _ _ _ _ _ _ T61 (mkF m 118 #[.val (.int i0), .val (.int i1), .val (.ref b1), .val (.ref c0), .val (.int (1 : Int32)), .val (.int (1 : Int32)), .val (.ref (ofs i1 c0 c1 c2 c3 c4 c5)), .unset] [])
      refine Go.step (fun t k => XS.iconst X61.here hx rfl (hb hby at_118) k) ?_
      show Go _ _ _ _ _ _ _ T61 (mkF m 119 #[.val (.int i0), .val (.int i1), .val (.ref b1), .val (.ref c0), .val (.int (1 : Int32)), .val (.int (1 : Int32)), .val (.ref (ofs i1 c0 c1 c2 c3 c4 c5)), .unset] [(.int (1 : Int32))])
      refine Go.step (fun t k => XS.goto X61.here hx rfl (pc0 := 119) (pc' := 123) rfl (hb hby at_119) (by decide) (by decide) k) ?_
      show Go _ _ _ _ _ _ _ T61 (mkF m 123 #[.val (.int i0), .val (.int i1), .val (.ref b1), .val (.ref c0), .val (.int (1 : Int32)), .val (.int (1 : Int32)), .val (.ref (ofs i1 c0 c1 c2 c3 c4 c5)), .unset] [(.int (1 : Int32))])
      refine Go.step (fun t k => XS.istore X61.here hx rfl (hb hby at_123) rfl (l' := #[.val (.int i0), .val (.int i1), .val (.ref b1), .val (.ref c0), .val (.int (1 : Int32)), .val (.int (1 : Int32)), .val (.ref (ofs i1 c0 c1 c2 c3 c4 c5)), .val (.int (1 : Int32))]) rfl k) ?_
      show Go _ _ _ _ _ _ _ T61 (mkF m 125 #[.val (.int i0), .val (.int i1), .val (.ref b1), .val (.ref c0), .val (.int (1 : Int32)), .val (.int (1 : Int32)), .val (.ref (ofs i1 c0 c1 c2 c3 c4 c5)), .val (.int (1 : Int32))] [])
      refine Go.step (fun t k => XS.iload X61.here hx rfl (hb hby at_125) rfl k) ?_
      show Go _ _ _ _ _ _ _ T61 (mkF m 127 #[.val (.int i0), .val (.int i1), .val (.ref b1), .val (.ref c0), .val (.int (1 : Int32)), .val (.int (1 : Int32)), .val (.ref (ofs i1 c0 c1 c2 c3 c4 c5)), .val (.int (1 : Int32))] [(.int (1 : Int32))])
      refine Go.step (fun t k => XS.ifNo X61.here hx rfl (hb hby at_127) rfl ((if0 _ _).trans (feq (by decide)).1) k) ?_
      show Go _ _ _ _ _ _ _ T61 (mkF m 130 #[.val (.int i0), .val (.int i1), .val (.ref b1), .val (.ref c0), .val (.int (1 : Int32)), .val (.int (1 : Int32)), .val (.ref (ofs i1 c0 c1 c2 c3 c4 c5)), .val (.int (1 : Int32))] [])
      refine Go.step (fun t k => XS.iload X61.here hx rfl (hb hby at_130) rfl k) ?_
      show Go _ _ _ _ _ _ _ T61 (mkF m 132 #[.val (.int i0), .val (.int i1), .val (.ref b1), .val (.ref c0), .val (.int (1 : Int32)), .val (.int (1 : Int32)), .val (.ref (ofs i1 c0 c1 c2 c3 c4 c5)), .val (.int (1 : Int32))] [(.int (1 : Int32))])
      refine Go.step (fun t k => XS.ifNo X61.here hx rfl (hb hby at_132) rfl ((if0 _ _).trans (feq (by decide)).1) k) ?_
      show Go _ _ _ _ _ _ _ T61 (mkF m 135 #[.val (.int i0), .val (.int i1), .val (.ref b1), .val (.ref c0), .val (.int (1 : Int32)), .val (.int (1 : Int32)), .val (.ref (ofs i1 c0 c1 c2 c3 c4 c5)), .val (.int (1 : Int32))] [])
      refine Go.step (fun t k => XS.iconst X61.here hx rfl (hb hby at_135) k) ?_
      show Go _ _ _ _ _ _ _ T61 (mkF m 136 #[.val (.int i0), .val (.int i1), .val (.ref b1), .val (.ref c0), .val (.int (1 : Int32)), .val (.int (1 : Int32)), .val (.ref (ofs i1 c0 c1 c2 c3 c4 c5)), .val (.int (1 : Int32))] [(.int (1 : Int32))])
      refine Go.step (fun t k => XS.goto X61.here hx rfl (pc0 := 136) (pc' := 140) rfl (hb hby at_136) (by decide) (by decide) k) ?_
      show Go _ _ _ _ _ _ _ T61 (mkF m 140 #[.val (.int i0), .val (.int i1), .val (.ref b1), .val (.ref c0), .val (.int (1 : Int32)), .val (.int (1 : Int32)), .val (.ref (ofs i1 c0 c1 c2 c3 c4 c5)), .val (.int (1 : Int32))] [(.int (1 : Int32))])
      refine go_retN X61 hx (t := .boolean) hret (by simp) hlk (hb hby at_140) (w := (1 : Int32)) rfl ?_ (by decide) (by decide)
      try rw [e61]
      exact ⟨rfl, N61⟩
    by_cases c102_64 : i1 = (1 : Int32)
    · refine Go.step (fun t k => XS.icmpYes X61.here hx rfl (pc0 := 102) (pc' := 110) rfl (hb hby at_102) rfl (teq c102_64).1 (by decide) (by decide) k) ?_
      show Go _ _ _ _ _ _ _ T61 (mkF m 110 #[.val (.int i0), .val (.int i1), .val (.ref b1), .val (.ref c0), .val (.int (1 : Int32)), .val (.int (1 : Int32)), .val (.ref (ofs i1 c0 c1 c2 c3 c4 c5)), .unset] [(.int (bi ((ofs i1 c0 c1 c2 c3 c4 c5) = c0 ∨ (ofs i1 c0 c1 c2 c3 c4 c5) = c1)))])
      refine Go.step (fun t k => XS.iconst X61.here hx rfl (hb hby at_110) k) ?_
      show Go _ _ _ _ _ _ _ T61 (mkF m 111 #[.val (.int i0), .val (.int i1), .val (.ref b1), .val (.ref c0), .val (.int (1 : Int32)), .val (.int (1 : Int32)), .val (.ref (ofs i1 c0 c1 c2 c3 c4 c5)), .unset] [(.int (1 : Int32)), (.int (bi ((ofs i1 c0 c1 c2 c3 c4 c5) = c0 ∨ (ofs i1 c0 c1 c2 c3 c4 c5) = c1)))])
      refine Go.step (fun t k => XS.goto X61.here hx rfl (pc0 := 111) (pc' := 115) rfl (hb hby at_111) (by decide) (by decide) k) ?_
      show Go _ _ _ _ _ _ _ T61 (mkF m 115 #[.val (.int i0), .val (.int i1), .val (.ref b1), .val (.ref c0), .val (.int (1 : Int32)), .val (.int (1 : Int32)), .val (.ref (ofs i1 c0 c1 c2 c3 c4 c5)), .unset] [(.int (1 : Int32)), (.int (bi ((ofs i1 c0 c1 c2 c3 c4 c5) = c0 ∨ (ofs i1 c0 c1 c2 c3 c4 c5) = c1)))])
      rw [show (bi (q102 = true)) = (1 : Int32) from bi_t (hq102.mpr (by simp only [eq_true c102_64, not_true_eq_false, not_false_eq_true, and_true, true_and, and_false, false_and, or_true, true_or, or_false, false_or, and_self, or_self]))] at j102
      exact j102
    · refine Go.step (fun t k => XS.icmpNo X61.here hx rfl (hb hby at_102) rfl (feq c102_64).1 k) ?_
      show Go _ _ _ _ _ _ _ T61 (mkF m 105 #[.val (.int i0), .val (.int i1), .val (.ref b1), .val (.ref c0), .val (.int (1 : Int32)), .val (.int (1 : Int32)), .val (.ref (ofs i1 c0 c1 c2 c3 c4 c5)), .unset] [(.int (bi ((ofs i1 c0 c1 c2 c3 c4 c5) = c0 ∨ (ofs i1 c0 c1 c2 c3 c4 c5) = c1)))])
      refine Go.step (fun t k => XS.iloadN X61.here hx rfl (hb hby at_105) rfl k) ?_
      show Go _ _ _ _ _ _ _ T61 (mkF m 106 #[.val (.int i0), .val (.int i1), .val (.ref b1), .val (.ref c0), .val (.int (1 : Int32)), .val (.int (1 : Int32)), .val (.ref (ofs i1 c0 c1 c2 c3 c4 c5)), .unset] [(.int i1), (.int (bi ((ofs i1 c0 c1 c2 c3 c4 c5) = c0 ∨ (ofs i1 c0 c1 c2 c3 c4 c5) = c1)))])
      refine Go.step (fun t k => XS.iconst X61.here hx rfl (hb hby at_106) k) ?_
      show Go _ _ _ _ _ _ _ T61 (mkF m 107 #[.val (.int i0), .val (.int i1), .val (.ref b1), .val (.ref c0), .val (.int (1 : Int32)), .val (.int (1 : Int32)), .val (.ref (ofs i1 c0 c1 c2 c3 c4 c5)), .unset] [(.int (5 : Int32)), (.int i1), (.int (bi ((ofs i1 c0 c1 c2 c3 c4 c5) = c0 ∨ (ofs i1 c0 c1 c2 c3 c4 c5) = c1)))])
      by_cases c107_65 : i1 = (5 : Int32)
      · refine Go.step (fun t k => XS.icmpNo X61.here hx rfl (hb hby at_107) rfl (teq c107_65).2 k) ?_
        show Go _ _ _ _ _ _ _ T61 (mkF m 110 #[.val (.int i0), .val (.int i1), .val (.ref b1), .val (.ref c0), .val (.int (1 : Int32)), .val (.int (1 : Int32)), .val (.ref (ofs i1 c0 c1 c2 c3 c4 c5)), .unset] [(.int (bi ((ofs i1 c0 c1 c2 c3 c4 c5) = c0 ∨ (ofs i1 c0 c1 c2 c3 c4 c5) = c1)))])
        refine Go.step (fun t k => XS.iconst X61.here hx rfl (hb hby at_110) k) ?_
        show Go _ _ _ _ _ _ _ T61 (mkF m 111 #[.val (.int i0), .val (.int i1), .val (.ref b1), .val (.ref c0), .val (.int (1 : Int32)), .val (.int (1 : Int32)), .val (.ref (ofs i1 c0 c1 c2 c3 c4 c5)), .unset] [(.int (1 : Int32)), (.int (bi ((ofs i1 c0 c1 c2 c3 c4 c5) = c0 ∨ (ofs i1 c0 c1 c2 c3 c4 c5) = c1)))])
        refine Go.step (fun t k => XS.goto X61.here hx rfl (pc0 := 111) (pc' := 115) rfl (hb hby at_111) (by decide) (by decide) k) ?_
        show Go _ _ _ _ _ _ _ T61 (mkF m 115 #[.val (.int i0), .val (.int i1), .val (.ref b1), .val (.ref c0), .val (.int (1 : Int32)), .val (.int (1 : Int32)), .val (.ref (ofs i1 c0 c1 c2 c3 c4 c5)), .unset] [(.int (1 : Int32)), (.int (bi ((ofs i1 c0 c1 c2 c3 c4 c5) = c0 ∨ (ofs i1 c0 c1 c2 c3 c4 c5) = c1)))])
        rw [show (bi (q102 = true)) = (1 : Int32) from bi_t (hq102.mpr (by simp only [eq_false c102_64, eq_true c107_65, not_true_eq_false, not_false_eq_true, and_true, true_and, and_false, false_and, or_true, true_or, or_false, false_or, and_self, or_self]))] at j102
        exact j102
      · refine Go.step (fun t k => XS.icmpYes X61.here hx rfl (pc0 := 107) (pc' := 114) rfl (hb hby at_107) rfl (feq c107_65).2 (by decide) (by decide) k) ?_
        show Go _ _ _ _ _ _ _ T61 (mkF m 114 #[.val (.int i0), .val (.int i1), .val (.ref b1), .val (.ref c0), .val (.int (1 : Int32)), .val (.int (1 : Int32)), .val (.ref (ofs i1 c0 c1 c2 c3 c4 c5)), .unset] [(.int (bi ((ofs i1 c0 c1 c2 c3 c4 c5) = c0 ∨ (ofs i1 c0 c1 c2 c3 c4 c5) = c1)))])
        refine Go.step (fun t k => XS.iconst X61.here hx rfl (hb hby at_114) k) ?_
        show Go _ _ _ _ _ _ _ T61 (mkF m 115 #[.val (.int i0), .val (.int i1), .val (.ref b1), .val (.ref c0), .val (.int (1 : Int32)), .val (.int (1 : Int32)), .val (.ref (ofs i1 c0 c1 c2 c3 c4 c5)), .unset] [(.int (0 : Int32)), (.int (bi ((ofs i1 c0 c1 c2 c3 c4 c5) = c0 ∨ (ofs i1 c0 c1 c2 c3 c4 c5) = c1)))])
        rw [show (bi (q102 = true)) = (0 : Int32) from bi_f (mt hq102.mp (by simp only [eq_false c102_64, eq_false c107_65, not_true_eq_false, not_false_eq_true, and_true, true_and, and_false, false_and, or_true, true_or, or_false, false_or, and_self, or_self]))] at j102
        exact j102
  · show Go _ _ _ _ _ _ _ T28 (mkF m 50 #[.val (.int i0), .val (.int i1), .val (.ref b1), .unset, .unset, .unset, .unset, .unset] [(.int (1 : Int32)), (.ref b1)])
    refine Go.step (a_rload X28 hx hZ e28 V28 rfl (k := 1) (by decide) (by decide) (v := (.ref c1)) rfl (hb hby at_50)) ?_
    show Go _ _ _ _ _ _ _ T28 (mkF m 51 #[.val (.int i0), .val (.int i1), .val (.ref b1), .unset, .unset, .unset, .unset, .unset] [(.ref c1)])
    refine Go.step (fun t k => XS.astoreN X28.here hx rfl (hb hby at_51) rfl rfl (l' := #[.val (.int i0), .val (.int i1), .val (.ref b1), .val (.ref c1), .unset, .unset, .unset, .unset]) rfl k) ?_
    show Go _ _ _ _ _ _ _ T28 (mkF m 52 #[.val (.int i0), .val (.int i1), .val (.ref b1), .val (.ref c1), .unset, .unset, .unset, .unset] [])
    refine Go.step (fun t k => XS.aloadN X28.here hx rfl (hb hby at_52) rfl rfl k) ?_
    show Go _ _ _ _ _ _ _ T28 (mkF m 53 #[.val (.int i0), .val (.int i1), .val (.ref b1), .val (.ref c1), .unset, .unset, .unset, .unset] [(.ref c1)])
    have f67 := (Fld.other W28 (Fld.other W23 (Fld.other W18 (Fld.other W13 (Fld.other W8 (Fld.other W4 (Fld.ext E1 Fc1) (Or.inl ne_c1_b1)) (Or.inl ne_c1_b1)) (Or.inl ne_c1_b1)) (Or.inl ne_c1_b1)) (Or.inl ne_c1_b1)) (Or.inl ne_c1_b1))
    have f68 := (Exa.wr W28 (Exa.wr W23 (Exa.wr W18 (Exa.wr W13 (Exa.wr W8 f10)))))
    obtain ⟨v66, T66, L66, X66, q66, st66⟩ := c_virt X28 hx hZ hown (y' := (⟨"com/example/bearer/bearer/model/Registration", "stat", "()I"⟩ : MethodName)) (y := (⟨"com/example/bearer/bearer/model/Registration", "stat", "()I"⟩ : MethodName)) (C := "com/example/bearer/bearer/model/Registration") (hw _ (List.mem_of_getElem? (i := 17) rfl)) (hw _ (List.mem_of_getElem? (i := 18) rfl)) (notFace_of_selects (args := #[]) (mvT hZ (hw _ (List.mem_of_getElem? (i := 20) rfl)))) (hw _ (List.mem_of_getElem? (i := 20) rfl)) (hw _ (List.mem_of_getElem? (i := 19) rfl)) (hw _ (List.mem_of_getElem? (i := 3) rfl)) (hw _ (List.mem_of_getElem? (i := 21) rfl)) (by decide) (a := c1) (argsL := []) (rest := []) (rmS l Z a0 hw [] c1 (5 : Int32) h28 n0 Z28 f67) e28 f68 pd_1 rfl (by rw [hml]; rfl) (W := 0) (by show 2 * 0 + _ ≤ _; exact Nat.le_of_eq rfl) (by decide) (by decide) (by decide) (by decide) (hb hby at_53) (Ls := #[.val (.int i0), .val (.int i1), .val (.ref b1), .val (.ref c1), .unset, .unset, .unset, .unset])
    obtain ⟨rfl, rfl, e66⟩ := q66
    have N66 := Fr.app N28 (Fr.nil n0)
    refine Go.step (st66) ?_
    show Go _ _ _ _ _ _ _ T66 (mkF m 56 #[.val (.int i0), .val (.int i1), .val (.ref b1), .val (.ref c1), .unset, .unset, .unset, .unset] [(.int (5 : Int32))])
    refine Go.step (fun t k => XS.istore X66.here hx rfl (hb hby at_56) rfl (l' := #[.val (.int i0), .val (.int i1), .val (.ref b1), .val (.ref c1), .val (.int (5 : Int32)), .unset, .unset, .unset]) rfl k) ?_
    show Go _ _ _ _ _ _ _ T66 (mkF m 58 #[.val (.int i0), .val (.int i1), .val (.ref b1), .val (.ref c1), .val (.int (5 : Int32)), .unset, .unset, .unset] [])
    refine Go.step (fun t k => XS.aloadN X66.here hx rfl (hb hby at_58) rfl rfl k) ?_
    show Go _ _ _ _ _ _ _ T66 (mkF m 59 #[.val (.int i0), .val (.int i1), .val (.ref b1), .val (.ref c1), .val (.int (5 : Int32)), .unset, .unset, .unset] [(.ref c1)])
    have f70 := (Sta.wr W28 (Sta.wr W23 (Sta.wr W18 (Sta.wr W13 (Sta.wr W8 (Sta.wr W4 f3))))))
    have f71 := (Sta.wr W28 (Sta.wr W23 (Sta.wr W18 (Sta.wr W13 (Sta.wr W8 f7)))))
    obtain ⟨v69, T69, L69, X69, q69, st69⟩ := c_virt X66 hx hZ hown (y' := (⟨"com/example/bearer/bearer/model/Registration", "isRegistered", "()Z"⟩ : MethodName)) (y := (⟨"com/example/bearer/bearer/model/Registration", "isRegistered", "()Z"⟩ : MethodName)) (C := "com/example/bearer/bearer/model/Registration") (hw _ (List.mem_of_getElem? (i := 24) rfl)) (hw _ (List.mem_of_getElem? (i := 25) rfl)) (notFace_of_selects (args := #[]) (mvT hZ (hw _ (List.mem_of_getElem? (i := 27) rfl)))) (hw _ (List.mem_of_getElem? (i := 27) rfl)) (hw _ (List.mem_of_getElem? (i := 26) rfl)) (hw _ (List.mem_of_getElem? (i := 3) rfl)) (hw _ (List.mem_of_getElem? (i := 28) rfl)) (by decide) (a := c1) (argsL := []) (rest := []) (rmR l Z a0 hw [] c1 c0 c1 h28 n0 Z28 f70 f71) e66 f68 pd_2 rfl (by rw [hml]; rfl) (W := 0) (by show 2 * 0 + _ ≤ _; exact Nat.le_of_eq rfl) (by decide) (by decide) (by decide) (by decide) (hb hby at_59) (Ls := #[.val (.int i0), .val (.int i1), .val (.ref b1), .val (.ref c1), .val (.int (5 : Int32)), .unset, .unset, .unset])
    obtain ⟨rfl, rfl, e69⟩ := q69
    have N69 := Fr.app N66 (Fr.nil n0)
    refine Go.step (st69) ?_
    show Go _ _ _ _ _ _ _ T69 (mkF m 62 #[.val (.int i0), .val (.int i1), .val (.ref b1), .val (.ref c1), .val (.int (5 : Int32)), .unset, .unset, .unset] [(.int (bi (c1 = c0 ∨ c1 = c1)))])
    rw [bi_t (P := c1 = c0 ∨ c1 = c1) (Or.inr rfl)]
    show Go _ _ _ _ _ _ _ T69 (mkF m 62 #[.val (.int i0), .val (.int i1), .val (.ref b1), .val (.ref c1), .val (.int (5 : Int32)), .unset, .unset, .unset] [(.int (1 : Int32))])
    refine Go.step (fun t k => XS.iload X69.here hx rfl (hb hby at_62) rfl k) ?_
    show Go _ _ _ _ _ _ _ T69 (mkF m 64 #[.val (.int i0), .val (.int i1), .val (.ref b1), .val (.ref c1), .val (.int (5 : Int32)), .unset, .unset, .unset] [(.int (5 : Int32)), (.int (1 : Int32))])
    refine Go.step (fun t k => XS.iconst X69.here hx rfl (hb hby at_64) k) ?_
    show Go _ _ _ _ _ _ _ T69 (mkF m 65 #[.val (.int i0), .val (.int i1), .val (.ref b1), .val (.ref c1), .val (.int (5 : Int32)), .unset, .unset, .unset] [(.int (1 : Int32)), (.int (5 : Int32)), (.int (1 : Int32))])
    refine Go.step (fun t k => XS.icmpNo X69.here hx rfl (hb hby at_65) rfl (feq (by decide)).1 k) ?_
    show Go _ _ _ _ _ _ _ T69 (mkF m 68 #[.val (.int i0), .val (.int i1), .val (.ref b1), .val (.ref c1), .val (.int (5 : Int32)), .unset, .unset, .unset] [(.int (1 : Int32))])
    refine Go.step (fun t k => XS.iload X69.here hx rfl (hb hby at_68) rfl k) ?_
    show Go _ _ _ _ _ _ _ T69 (mkF m 70 #[.val (.int i0), .val (.int i1), .val (.ref b1), .val (.ref c1), .val (.int (5 : Int32)), .unset, .unset, .unset] [(.int (5 : Int32)), (.int (1 : Int32))])
    refine Go.step (fun t k => XS.iconst X69.here hx rfl (hb hby at_70) k) ?_
    show Go _ _ _ _ _ _ _ T69 (mkF m 71 #[.val (.int i0), .val (.int i1), .val (.ref b1), .val (.ref c1), .val (.int (5 : Int32)), .unset, .unset, .unset] [(.int (5 : Int32)), (.int (5 : Int32)), (.int (1 : Int32))])
    refine Go.step (fun t k => XS.icmpNo X69.here hx rfl (hb hby at_71) rfl (teq (by decide)).2 k) ?_
    show Go _ _ _ _ _ _ _ T69 (mkF m 74 #[.val (.int i0), .val (.int i1), .val (.ref b1), .val (.ref c1), .val (.int (5 : Int32)), .unset, .unset, .unset] [(.int (1 : Int32))])
    refine Go.step (fun t k => XS.iconst X69.here hx rfl (hb hby at_74) k) ?_
    show Go _ _ _ _ _ _ _ T69 (mkF m 75 #[.val (.int i0), .val (.int i1), .val (.ref b1), .val (.ref c1), .val (.int (5 : Int32)), .unset, .unset, .unset] [(.int (1 : Int32)), (.int (1 : Int32))])
    refine Go.step (fun t k => XS.goto X69.here hx rfl (pc0 := 75) (pc' := 79) rfl (hb hby at_75) (by decide) (by decide) k) ?_
    show Go _ _ _ _ _ _ _ T69 (mkF m 79 #[.val (.int i0), .val (.int i1), .val (.ref b1), .val (.ref c1), .val (.int (5 : Int32)), .unset, .unset, .unset] [(.int (1 : Int32)), (.int (1 : Int32))])
    refine Go.step (fun t k => XS.icmpNo X69.here hx rfl (hb hby at_79) rfl (teq (by decide)).2 k) ?_
    show Go _ _ _ _ _ _ _ T69 (mkF m 82 #[.val (.int i0), .val (.int i1), .val (.ref b1), .val (.ref c1), .val (.int (5 : Int32)), .unset, .unset, .unset] [])
    refine Go.step (fun t k => XS.iconst X69.here hx rfl (hb hby at_82) k) ?_
    show Go _ _ _ _ _ _ _ T69 (mkF m 83 #[.val (.int i0), .val (.int i1), .val (.ref b1), .val (.ref c1), .val (.int (5 : Int32)), .unset, .unset, .unset] [(.int (1 : Int32))])
    refine Go.step (fun t k => XS.goto X69.here hx rfl (pc0 := 83) (pc' := 87) rfl (hb hby at_83) (by decide) (by decide) k) ?_
    show Go _ _ _ _ _ _ _ T69 (mkF m 87 #[.val (.int i0), .val (.int i1), .val (.ref b1), .val (.ref c1), .val (.int (5 : Int32)), .unset, .unset, .unset] [(.int (1 : Int32))])
    refine Go.step (fun t k => XS.istore X69.here hx rfl (hb hby at_87) rfl (l' := #[.val (.int i0), .val (.int i1), .val (.ref b1), .val (.ref c1), .val (.int (5 : Int32)), .val (.int (1 : Int32)), .unset, .unset]) rfl k) ?_
    show Go _ _ _ _ _ _ _ T69 (mkF m 89 #[.val (.int i0), .val (.int i1), .val (.ref b1), .val (.ref c1), .val (.int (5 : Int32)), .val (.int (1 : Int32)), .unset, .unset] [])
    refine Go.step (fun t k => XS.iloadN X69.here hx rfl (hb hby at_89) rfl k) ?_
    show Go _ _ _ _ _ _ _ T69 (mkF m 90 #[.val (.int i0), .val (.int i1), .val (.ref b1), .val (.ref c1), .val (.int (5 : Int32)), .val (.int (1 : Int32)), .unset, .unset] [(.int i1)])
    have f73 := (Sta.wr W28 (Sta.wr W23 (Sta.wr W18 (Sta.wr W13 f12))))
    have f74 := (Sta.wr W28 (Sta.wr W23 (Sta.wr W18 f17)))
    have f75 := (Sta.wr W28 (Sta.wr W23 f22))
    have f76 := (Sta.wr W28 f27)
    have f77 := (Exa.wr W28 (Exa.wr W23 (Exa.wr W18 (Exa.wr W13 (Exa.wr W8 (Exa.wr W4 f5))))))
    have f78 := (Exa.wr W28 (Exa.wr W23 (Exa.wr W18 (Exa.wr W13 f15))))
    have f79 := (Exa.wr W28 (Exa.wr W23 (Exa.wr W18 f20)))
    have f80 := (Exa.wr W28 (Exa.wr W23 f25))
    have f81 := (Exa.wr W28 f30)
    have f82 := (Fld.other W28 (Fld.other W23 (Fld.other W18 (Fld.other W13 (Fld.other W8 (Fld.other W4 (Fld.ext E1 Fc0) (Or.inl ne_c0_b1)) (Or.inl ne_c0_b1)) (Or.inl ne_c0_b1)) (Or.inl ne_c0_b1)) (Or.inl ne_c0_b1)) (Or.inl ne_c0_b1))
    have f83 := (Fld.other W28 (Fld.other W23 (Fld.other W18 (Fld.other W13 (Fld.other W8 (Fld.other W4 (Fld.ext E1 Fc2) (Or.inl ne_c2_b1)) (Or.inl ne_c2_b1)) (Or.inl ne_c2_b1)) (Or.inl ne_c2_b1)) (Or.inl ne_c2_b1)) (Or.inl ne_c2_b1))
    have f84 := (Fld.other W28 (Fld.other W23 (Fld.other W18 (Fld.other W13 (Fld.other W8 (Fld.other W4 (Fld.ext E1 Fc3) (Or.inl ne_c3_b1)) (Or.inl ne_c3_b1)) (Or.inl ne_c3_b1)) (Or.inl ne_c3_b1)) (Or.inl ne_c3_b1)) (Or.inl ne_c3_b1))
    have f85 := (Fld.other W28 (Fld.other W23 (Fld.other W18 (Fld.other W13 (Fld.other W8 (Fld.other W4 (Fld.ext E1 Fc4) (Or.inl ne_c4_b1)) (Or.inl ne_c4_b1)) (Or.inl ne_c4_b1)) (Or.inl ne_c4_b1)) (Or.inl ne_c4_b1)) (Or.inl ne_c4_b1))
    have f86 := (Fld.other W28 (Fld.other W23 (Fld.other W18 (Fld.other W13 (Fld.other W8 (Fld.other W4 (Fld.ext E1 Fc5) (Or.inl ne_c5_b1)) (Or.inl ne_c5_b1)) (Or.inl ne_c5_b1)) (Or.inl ne_c5_b1)) (Or.inl ne_c5_b1)) (Or.inl ne_c5_b1))
    have f87 := (Sta.wr W28 (Sta.wr W23 (Sta.wr W18 (Sta.wr W13 (Sta.wr W8 (Sta.wr W4 (Sta.ext E1 SV)))))))
    have f88 := (Exa.wr W28 (Exa.wr W23 (Exa.wr W18 (Exa.wr W13 (Exa.wr W8 (Exa.wr W4 (Exa.ext E1 EV)))))))
    have f89 := (((((((VV.ext E1).other W4 ne_va_b1).other W8 ne_va_b1).other W13 ne_va_b1).other W18 ne_va_b1).other W23 ne_va_b1).other W28 ne_va_b1)
    obtain ⟨v72, T72, L72, X72, q72, st72⟩ := c_static X69 hx hZ hown (y := (⟨"com/example/bearer/bearer/model/Registration", "ofStat", "(I)Lcom/example/bearer/bearer/model/Registration;"⟩ : MethodName)) (hw _ (List.mem_of_getElem? (i := 30) rfl)) (hw _ (List.mem_of_getElem? (i := 31) rfl)) (hw _ (List.mem_of_getElem? (i := 3) rfl)) (hw _ (List.mem_of_getElem? (i := 32) rfl)) (by decide) (argsL := [(.int i1)]) (rest := []) (rmO l Z a0 hw [] i1 c0 c1 c2 c3 c4 c5 va h28 n0 Z28 f70 f71 f73 f74 f75 f76 f77 f68 f78 f79 f80 f81 f82 f67 f83 f84 f85 f86 f87 f88 f89) e69 pd_3 rfl (by rw [hml]; rfl) (W := 0) (by show 2 * 0 + _ ≤ _; exact Nat.le_of_eq rfl) (by decide) (by decide) (by decide) (by decide) (hb hby at_90) (Ls := #[.val (.int i0), .val (.int i1), .val (.ref b1), .val (.ref c1), .val (.int (5 : Int32)), .val (.int (1 : Int32)), .unset, .unset])
    generalize e72 : T72.heap = h72 at q72
    obtain ⟨rfl, N72q, K72q⟩ := q72
    have N72 := Fr.app N69 N72q
    have Z72 : n0 ≤ h72.size := Nat.le_trans Z28 K72q.1
    have f90 := (f77.keep K72q)
    have f91 := (f68.keep K72q)
    have f92 := (f78.keep K72q)
    have f93 := (f79.keep K72q)
    have f94 := (f80.keep K72q)
    have f95 := (f81.keep K72q)
    refine Go.step (st72) ?_
    show Go _ _ _ _ _ _ _ T72 (mkF m 93 #[.val (.int i0), .val (.int i1), .val (.ref b1), .val (.ref c1), .val (.int (5 : Int32)), .val (.int (1 : Int32)), .unset, .unset] [(.ref (ofs i1 c0 c1 c2 c3 c4 c5))])
    refine Go.step (fun t k => XS.astore X72.here hx rfl (hb hby at_93) rfl rfl (l' := #[.val (.int i0), .val (.int i1), .val (.ref b1), .val (.ref c1), .val (.int (5 : Int32)), .val (.int (1 : Int32)), .val (.ref (ofs i1 c0 c1 c2 c3 c4 c5)), .unset]) rfl k) ?_
    show Go _ _ _ _ _ _ _ T72 (mkF m 95 #[.val (.int i0), .val (.int i1), .val (.ref b1), .val (.ref c1), .val (.int (5 : Int32)), .val (.int (1 : Int32)), .val (.ref (ofs i1 c0 c1 c2 c3 c4 c5)), .unset] [])
    refine Go.step (fun t k => XS.aload X72.here hx rfl (hb hby at_95) rfl rfl k) ?_
    show Go _ _ _ _ _ _ _ T72 (mkF m 97 #[.val (.int i0), .val (.int i1), .val (.ref b1), .val (.ref c1), .val (.int (5 : Int32)), .val (.int (1 : Int32)), .val (.ref (ofs i1 c0 c1 c2 c3 c4 c5)), .unset] [(.ref (ofs i1 c0 c1 c2 c3 c4 c5))])
    have f97 := (own_sta_keep f70 K72q)
    have f98 := (own_sta_keep f71 K72q)
    obtain ⟨v96, T96, L96, X96, q96, st96⟩ := c_virt X72 hx hZ hown (y' := (⟨"com/example/bearer/bearer/model/Registration", "isRegistered", "()Z"⟩ : MethodName)) (y := (⟨"com/example/bearer/bearer/model/Registration", "isRegistered", "()Z"⟩ : MethodName)) (C := "com/example/bearer/bearer/model/Registration") (hw _ (List.mem_of_getElem? (i := 24) rfl)) (hw _ (List.mem_of_getElem? (i := 25) rfl)) (notFace_of_selects (args := #[]) (mvT hZ (hw _ (List.mem_of_getElem? (i := 27) rfl)))) (hw _ (List.mem_of_getElem? (i := 27) rfl)) (hw _ (List.mem_of_getElem? (i := 26) rfl)) (hw _ (List.mem_of_getElem? (i := 3) rfl)) (hw _ (List.mem_of_getElem? (i := 28) rfl)) (by decide) (a := (ofs i1 c0 c1 c2 c3 c4 c5)) (argsL := []) (rest := []) (rmR l Z a0 hw [] (ofs i1 c0 c1 c2 c3 c4 c5) c0 c1 h72 n0 Z72 f97 f98) e72 (own_sel (P := fun c => Exa Z h72 c "com/example/bearer/bearer/model/Registration") f90 f91 f92 f93 f94 f95) pd_2 rfl (by rw [hml]; rfl) (W := 0) (by show 2 * 0 + _ ≤ _; exact Nat.le_of_eq rfl) (by decide) (by decide) (by decide) (by decide) (hb hby at_97) (Ls := #[.val (.int i0), .val (.int i1), .val (.ref b1), .val (.ref c1), .val (.int (5 : Int32)), .val (.int (1 : Int32)), .val (.ref (ofs i1 c0 c1 c2 c3 c4 c5)), .unset])
    obtain ⟨rfl, rfl, e96⟩ := q96
    have N96 := Fr.app N72 (Fr.nil n0)
    refine Go.step (st96) ?_
    show Go _ _ _ _ _ _ _ T96 (mkF m 100 #[.val (.int i0), .val (.int i1), .val (.ref b1), .val (.ref c1), .val (.int (5 : Int32)), .val (.int (1 : Int32)), .val (.ref (ofs i1 c0 c1 c2 c3 c4 c5)), .unset] [(.int (bi ((ofs i1 c0 c1 c2 c3 c4 c5) = c0 ∨ (ofs i1 c0 c1 c2 c3 c4 c5) = c1)))])
    refine Go.step (fun t k => XS.iloadN X96.here hx rfl (hb hby at_100) rfl k) ?_
    show Go _ _ _ _ _ _ _ T96 (mkF m 101 #[.val (.int i0), .val (.int i1), .val (.ref b1), .val (.ref c1), .val (.int (5 : Int32)), .val (.int (1 : Int32)), .val (.ref (ofs i1 c0 c1 c2 c3 c4 c5)), .unset] [(.int i1), (.int (bi ((ofs i1 c0 c1 c2 c3 c4 c5) = c0 ∨ (ofs i1 c0 c1 c2 c3 c4 c5) = c1)))])
    refine Go.step (fun t k => XS.iconst X96.here hx rfl (hb hby at_101) k) ?_
    show Go _ _ _ _ _ _ _ T96 (mkF m 102 #[.val (.int i0), .val (.int i1), .val (.ref b1), .val (.ref c1), .val (.int (5 : Int32)), .val (.int (1 : Int32)), .val (.ref (ofs i1 c0 c1 c2 c3 c4 c5)), .unset] [(.int (1 : Int32)), (.int i1), (.int (bi ((ofs i1 c0 c1 c2 c3 c4 c5) = c0 ∨ (ofs i1 c0 c1 c2 c3 c4 c5) = c1)))])
    obtain ⟨q102, hq102⟩ : ∃ q : Bool, q = true ↔ ((i1 = (1 : Int32)) ∨ (i1 = (5 : Int32))) := ⟨decide ((i1 = (1 : Int32)) ∨ (i1 = (5 : Int32))), decide_eq_true_iff⟩
    have j102 : Go p e s below 16 128 (fun v h L => v = some (.int (1 : Int32)) ∧ Fr n0 L) T96 (mkF m 115 #[.val (.int i0), .val (.int i1), .val (.ref b1), .val (.ref c1), .val (.int (5 : Int32)), .val (.int (1 : Int32)), .val (.ref (ofs i1 c0 c1 c2 c3 c4 c5)), .unset] [(.int (bi (q102 = true))), (.int (bi ((ofs i1 c0 c1 c2 c3 c4 c5) = c0 ∨ (ofs i1 c0 c1 c2 c3 c4 c5) = c1)))]) := by
      refine Go.step (fun t k => XS.icmpNo X96.here hx rfl (hb hby at_115) rfl (teq (bi_congr ((own_reg n02 n03 n04 n05 n12 n13 n14 n15).trans hq102.symm))).2 k) ?_
      show Go _ _ _ _ _ _ _ T96 (mkF m 118 #[.val (.int i0), .val (.int i1), .val (.ref b1), .val (.ref c1), .val (.int (5 : Int32)), .val (.int (1 : Int32)), .val (.ref (ofs i1 c0 c1 c2 c3 c4 c5)), .unset] [])
      refine Go.step (fun t k => XS.iconst X96.here hx rfl (hb hby at_118) k) ?_
      show Go _ _ _ _ _ _ _ T96 (mkF m 119 #[.val (.int i0), .val (.int i1), .val (.ref b1), .val (.ref c1), .val (.int (5 : Int32)), .val (.int (1 : Int32)), .val (.ref (ofs i1 c0 c1 c2 c3 c4 c5)), .unset] [(.int (1 : Int32))])
      refine Go.step (fun t k => XS.goto X96.here hx rfl (pc0 := 119) (pc' := 123) rfl (hb hby at_119) (by decide) (by decide) k) ?_
      show Go _ _ _ _ _ _ _ T96 (mkF m 123 #[.val (.int i0), .val (.int i1), .val (.ref b1), .val (.ref c1), .val (.int (5 : Int32)), .val (.int (1 : Int32)), .val (.ref (ofs i1 c0 c1 c2 c3 c4 c5)), .unset] [(.int (1 : Int32))])
      refine Go.step (fun t k => XS.istore X96.here hx rfl (hb hby at_123) rfl (l' := #[.val (.int i0), .val (.int i1), .val (.ref b1), .val (.ref c1), .val (.int (5 : Int32)), .val (.int (1 : Int32)), .val (.ref (ofs i1 c0 c1 c2 c3 c4 c5)), .val (.int (1 : Int32))]) rfl k) ?_
      show Go _ _ _ _ _ _ _ T96 (mkF m 125 #[.val (.int i0), .val (.int i1), .val (.ref b1), .val (.ref c1), .val (.int (5 : Int32)), .val (.int (1 : Int32)), .val (.ref (ofs i1 c0 c1 c2 c3 c4 c5)), .val (.int (1 : Int32))] [])
      refine Go.step (fun t k => XS.iload X96.here hx rfl (hb hby at_125) rfl k) ?_
      show Go _ _ _ _ _ _ _ T96 (mkF m 127 #[.val (.int i0), .val (.int i1), .val (.ref b1), .val (.ref c1), .val (.int (5 : Int32)), .val (.int (1 : Int32)), .val (.ref (ofs i1 c0 c1 c2 c3 c4 c5)), .val (.int (1 : Int32))] [(.int (1 : Int32))])
      refine Go.step (fun t k => XS.ifNo X96.here hx rfl (hb hby at_127) rfl ((if0 _ _).trans (feq (by decide)).1) k) ?_
      show Go _ _ _ _ _ _ _ T96 (mkF m 130 #[.val (.int i0), .val (.int i1), .val (.ref b1), .val (.ref c1), .val (.int (5 : Int32)), .val (.int (1 : Int32)), .val (.ref (ofs i1 c0 c1 c2 c3 c4 c5)), .val (.int (1 : Int32))] [])
      refine Go.step (fun t k => XS.iload X96.here hx rfl (hb hby at_130) rfl k) ?_
      show Go _ _ _ _ _ _ _ T96 (mkF m 132 #[.val (.int i0), .val (.int i1), .val (.ref b1), .val (.ref c1), .val (.int (5 : Int32)), .val (.int (1 : Int32)), .val (.ref (ofs i1 c0 c1 c2 c3 c4 c5)), .val (.int (1 : Int32))] [(.int (1 : Int32))])
      refine Go.step (fun t k => XS.ifNo X96.here hx rfl (hb hby at_132) rfl ((if0 _ _).trans (feq (by decide)).1) k) ?_
      show Go _ _ _ _ _ _ _ T96 (mkF m 135 #[.val (.int i0), .val (.int i1), .val (.ref b1), .val (.ref c1), .val (.int (5 : Int32)), .val (.int (1 : Int32)), .val (.ref (ofs i1 c0 c1 c2 c3 c4 c5)), .val (.int (1 : Int32))] [])
      refine Go.step (fun t k => XS.iconst X96.here hx rfl (hb hby at_135) k) ?_
      show Go _ _ _ _ _ _ _ T96 (mkF m 136 #[.val (.int i0), .val (.int i1), .val (.ref b1), .val (.ref c1), .val (.int (5 : Int32)), .val (.int (1 : Int32)), .val (.ref (ofs i1 c0 c1 c2 c3 c4 c5)), .val (.int (1 : Int32))] [(.int (1 : Int32))])
      refine Go.step (fun t k => XS.goto X96.here hx rfl (pc0 := 136) (pc' := 140) rfl (hb hby at_136) (by decide) (by decide) k) ?_
      show Go _ _ _ _ _ _ _ T96 (mkF m 140 #[.val (.int i0), .val (.int i1), .val (.ref b1), .val (.ref c1), .val (.int (5 : Int32)), .val (.int (1 : Int32)), .val (.ref (ofs i1 c0 c1 c2 c3 c4 c5)), .val (.int (1 : Int32))] [(.int (1 : Int32))])
      refine go_retN X96 hx (t := .boolean) hret (by simp) hlk (hb hby at_140) (w := (1 : Int32)) rfl ?_ (by decide) (by decide)
      try rw [e96]
      exact ⟨rfl, N96⟩
    by_cases c102_99 : i1 = (1 : Int32)
    · refine Go.step (fun t k => XS.icmpYes X96.here hx rfl (pc0 := 102) (pc' := 110) rfl (hb hby at_102) rfl (teq c102_99).1 (by decide) (by decide) k) ?_
      show Go _ _ _ _ _ _ _ T96 (mkF m 110 #[.val (.int i0), .val (.int i1), .val (.ref b1), .val (.ref c1), .val (.int (5 : Int32)), .val (.int (1 : Int32)), .val (.ref (ofs i1 c0 c1 c2 c3 c4 c5)), .unset] [(.int (bi ((ofs i1 c0 c1 c2 c3 c4 c5) = c0 ∨ (ofs i1 c0 c1 c2 c3 c4 c5) = c1)))])
      refine Go.step (fun t k => XS.iconst X96.here hx rfl (hb hby at_110) k) ?_
      show Go _ _ _ _ _ _ _ T96 (mkF m 111 #[.val (.int i0), .val (.int i1), .val (.ref b1), .val (.ref c1), .val (.int (5 : Int32)), .val (.int (1 : Int32)), .val (.ref (ofs i1 c0 c1 c2 c3 c4 c5)), .unset] [(.int (1 : Int32)), (.int (bi ((ofs i1 c0 c1 c2 c3 c4 c5) = c0 ∨ (ofs i1 c0 c1 c2 c3 c4 c5) = c1)))])
      refine Go.step (fun t k => XS.goto X96.here hx rfl (pc0 := 111) (pc' := 115) rfl (hb hby at_111) (by decide) (by decide) k) ?_
      show Go _ _ _ _ _ _ _ T96 (mkF m 115 #[.val (.int i0), .val (.int i1), .val (.ref b1), .val (.ref c1), .val (.int (5 : Int32)), .val (.int (1 : Int32)), .val (.ref (ofs i1 c0 c1 c2 c3 c4 c5)), .unset] [(.int (1 : Int32)), (.int (bi ((ofs i1 c0 c1 c2 c3 c4 c5) = c0 ∨ (ofs i1 c0 c1 c2 c3 c4 c5) = c1)))])
      rw [show (bi (q102 = true)) = (1 : Int32) from bi_t (hq102.mpr (by simp only [eq_true c102_99, not_true_eq_false, not_false_eq_true, and_true, true_and, and_false, false_and, or_true, true_or, or_false, false_or, and_self, or_self]))] at j102
      exact j102
    · refine Go.step (fun t k => XS.icmpNo X96.here hx rfl (hb hby at_102) rfl (feq c102_99).1 k) ?_
      show Go _ _ _ _ _ _ _ T96 (mkF m 105 #[.val (.int i0), .val (.int i1), .val (.ref b1), .val (.ref c1), .val (.int (5 : Int32)), .val (.int (1 : Int32)), .val (.ref (ofs i1 c0 c1 c2 c3 c4 c5)), .unset] [(.int (bi ((ofs i1 c0 c1 c2 c3 c4 c5) = c0 ∨ (ofs i1 c0 c1 c2 c3 c4 c5) = c1)))])
      refine Go.step (fun t k => XS.iloadN X96.here hx rfl (hb hby at_105) rfl k) ?_
      show Go _ _ _ _ _ _ _ T96 (mkF m 106 #[.val (.int i0), .val (.int i1), .val (.ref b1), .val (.ref c1), .val (.int (5 : Int32)), .val (.int (1 : Int32)), .val (.ref (ofs i1 c0 c1 c2 c3 c4 c5)), .unset] [(.int i1), (.int (bi ((ofs i1 c0 c1 c2 c3 c4 c5) = c0 ∨ (ofs i1 c0 c1 c2 c3 c4 c5) = c1)))])
      refine Go.step (fun t k => XS.iconst X96.here hx rfl (hb hby at_106) k) ?_
      show Go _ _ _ _ _ _ _ T96 (mkF m 107 #[.val (.int i0), .val (.int i1), .val (.ref b1), .val (.ref c1), .val (.int (5 : Int32)), .val (.int (1 : Int32)), .val (.ref (ofs i1 c0 c1 c2 c3 c4 c5)), .unset] [(.int (5 : Int32)), (.int i1), (.int (bi ((ofs i1 c0 c1 c2 c3 c4 c5) = c0 ∨ (ofs i1 c0 c1 c2 c3 c4 c5) = c1)))])
      by_cases c107_100 : i1 = (5 : Int32)
      · refine Go.step (fun t k => XS.icmpNo X96.here hx rfl (hb hby at_107) rfl (teq c107_100).2 k) ?_
        show Go _ _ _ _ _ _ _ T96 (mkF m 110 #[.val (.int i0), .val (.int i1), .val (.ref b1), .val (.ref c1), .val (.int (5 : Int32)), .val (.int (1 : Int32)), .val (.ref (ofs i1 c0 c1 c2 c3 c4 c5)), .unset] [(.int (bi ((ofs i1 c0 c1 c2 c3 c4 c5) = c0 ∨ (ofs i1 c0 c1 c2 c3 c4 c5) = c1)))])
        refine Go.step (fun t k => XS.iconst X96.here hx rfl (hb hby at_110) k) ?_
        show Go _ _ _ _ _ _ _ T96 (mkF m 111 #[.val (.int i0), .val (.int i1), .val (.ref b1), .val (.ref c1), .val (.int (5 : Int32)), .val (.int (1 : Int32)), .val (.ref (ofs i1 c0 c1 c2 c3 c4 c5)), .unset] [(.int (1 : Int32)), (.int (bi ((ofs i1 c0 c1 c2 c3 c4 c5) = c0 ∨ (ofs i1 c0 c1 c2 c3 c4 c5) = c1)))])
        refine Go.step (fun t k => XS.goto X96.here hx rfl (pc0 := 111) (pc' := 115) rfl (hb hby at_111) (by decide) (by decide) k) ?_
        show Go _ _ _ _ _ _ _ T96 (mkF m 115 #[.val (.int i0), .val (.int i1), .val (.ref b1), .val (.ref c1), .val (.int (5 : Int32)), .val (.int (1 : Int32)), .val (.ref (ofs i1 c0 c1 c2 c3 c4 c5)), .unset] [(.int (1 : Int32)), (.int (bi ((ofs i1 c0 c1 c2 c3 c4 c5) = c0 ∨ (ofs i1 c0 c1 c2 c3 c4 c5) = c1)))])
        rw [show (bi (q102 = true)) = (1 : Int32) from bi_t (hq102.mpr (by simp only [eq_false c102_99, eq_true c107_100, not_true_eq_false, not_false_eq_true, and_true, true_and, and_false, false_and, or_true, true_or, or_false, false_or, and_self, or_self]))] at j102
        exact j102
      · refine Go.step (fun t k => XS.icmpYes X96.here hx rfl (pc0 := 107) (pc' := 114) rfl (hb hby at_107) rfl (feq c107_100).2 (by decide) (by decide) k) ?_
        show Go _ _ _ _ _ _ _ T96 (mkF m 114 #[.val (.int i0), .val (.int i1), .val (.ref b1), .val (.ref c1), .val (.int (5 : Int32)), .val (.int (1 : Int32)), .val (.ref (ofs i1 c0 c1 c2 c3 c4 c5)), .unset] [(.int (bi ((ofs i1 c0 c1 c2 c3 c4 c5) = c0 ∨ (ofs i1 c0 c1 c2 c3 c4 c5) = c1)))])
        refine Go.step (fun t k => XS.iconst X96.here hx rfl (hb hby at_114) k) ?_
        show Go _ _ _ _ _ _ _ T96 (mkF m 115 #[.val (.int i0), .val (.int i1), .val (.ref b1), .val (.ref c1), .val (.int (5 : Int32)), .val (.int (1 : Int32)), .val (.ref (ofs i1 c0 c1 c2 c3 c4 c5)), .unset] [(.int (0 : Int32)), (.int (bi ((ofs i1 c0 c1 c2 c3 c4 c5) = c0 ∨ (ofs i1 c0 c1 c2 c3 c4 c5) = c1)))])
        rw [show (bi (q102 = true)) = (0 : Int32) from bi_f (mt hq102.mp (by simp only [eq_false c102_99, eq_false c107_100, not_true_eq_false, not_false_eq_true, and_true, true_and, and_false, false_and, or_true, true_or, or_false, false_or, and_self, or_self]))] at j102
        exact j102
  · show Go _ _ _ _ _ _ _ T28 (mkF m 50 #[.val (.int i0), .val (.int i1), .val (.ref b1), .unset, .unset, .unset, .unset, .unset] [(.int (2 : Int32)), (.ref b1)])
    refine Go.step (a_rload X28 hx hZ e28 V28 rfl (k := 2) (by decide) (by decide) (v := (.ref c2)) rfl (hb hby at_50)) ?_
    show Go _ _ _ _ _ _ _ T28 (mkF m 51 #[.val (.int i0), .val (.int i1), .val (.ref b1), .unset, .unset, .unset, .unset, .unset] [(.ref c2)])
    refine Go.step (fun t k => XS.astoreN X28.here hx rfl (hb hby at_51) rfl rfl (l' := #[.val (.int i0), .val (.int i1), .val (.ref b1), .val (.ref c2), .unset, .unset, .unset, .unset]) rfl k) ?_
    show Go _ _ _ _ _ _ _ T28 (mkF m 52 #[.val (.int i0), .val (.int i1), .val (.ref b1), .val (.ref c2), .unset, .unset, .unset, .unset] [])
    refine Go.step (fun t k => XS.aloadN X28.here hx rfl (hb hby at_52) rfl rfl k) ?_
    show Go _ _ _ _ _ _ _ T28 (mkF m 53 #[.val (.int i0), .val (.int i1), .val (.ref b1), .val (.ref c2), .unset, .unset, .unset, .unset] [(.ref c2)])
    have f102 := (Fld.other W28 (Fld.other W23 (Fld.other W18 (Fld.other W13 (Fld.other W8 (Fld.other W4 (Fld.ext E1 Fc2) (Or.inl ne_c2_b1)) (Or.inl ne_c2_b1)) (Or.inl ne_c2_b1)) (Or.inl ne_c2_b1)) (Or.inl ne_c2_b1)) (Or.inl ne_c2_b1))
    have f103 := (Exa.wr W28 (Exa.wr W23 (Exa.wr W18 (Exa.wr W13 f15))))
    obtain ⟨v101, T101, L101, X101, q101, st101⟩ := c_virt X28 hx hZ hown (y' := (⟨"com/example/bearer/bearer/model/Registration", "stat", "()I"⟩ : MethodName)) (y := (⟨"com/example/bearer/bearer/model/Registration", "stat", "()I"⟩ : MethodName)) (C := "com/example/bearer/bearer/model/Registration") (hw _ (List.mem_of_getElem? (i := 17) rfl)) (hw _ (List.mem_of_getElem? (i := 18) rfl)) (notFace_of_selects (args := #[]) (mvT hZ (hw _ (List.mem_of_getElem? (i := 20) rfl)))) (hw _ (List.mem_of_getElem? (i := 20) rfl)) (hw _ (List.mem_of_getElem? (i := 19) rfl)) (hw _ (List.mem_of_getElem? (i := 3) rfl)) (hw _ (List.mem_of_getElem? (i := 21) rfl)) (by decide) (a := c2) (argsL := []) (rest := []) (rmS l Z a0 hw [] c2 (2 : Int32) h28 n0 Z28 f102) e28 f103 pd_1 rfl (by rw [hml]; rfl) (W := 0) (by show 2 * 0 + _ ≤ _; exact Nat.le_of_eq rfl) (by decide) (by decide) (by decide) (by decide) (hb hby at_53) (Ls := #[.val (.int i0), .val (.int i1), .val (.ref b1), .val (.ref c2), .unset, .unset, .unset, .unset])
    obtain ⟨rfl, rfl, e101⟩ := q101
    have N101 := Fr.app N28 (Fr.nil n0)
    refine Go.step (st101) ?_
    show Go _ _ _ _ _ _ _ T101 (mkF m 56 #[.val (.int i0), .val (.int i1), .val (.ref b1), .val (.ref c2), .unset, .unset, .unset, .unset] [(.int (2 : Int32))])
    refine Go.step (fun t k => XS.istore X101.here hx rfl (hb hby at_56) rfl (l' := #[.val (.int i0), .val (.int i1), .val (.ref b1), .val (.ref c2), .val (.int (2 : Int32)), .unset, .unset, .unset]) rfl k) ?_
    show Go _ _ _ _ _ _ _ T101 (mkF m 58 #[.val (.int i0), .val (.int i1), .val (.ref b1), .val (.ref c2), .val (.int (2 : Int32)), .unset, .unset, .unset] [])
    refine Go.step (fun t k => XS.aloadN X101.here hx rfl (hb hby at_58) rfl rfl k) ?_
    show Go _ _ _ _ _ _ _ T101 (mkF m 59 #[.val (.int i0), .val (.int i1), .val (.ref b1), .val (.ref c2), .val (.int (2 : Int32)), .unset, .unset, .unset] [(.ref c2)])
    have f105 := (Sta.wr W28 (Sta.wr W23 (Sta.wr W18 (Sta.wr W13 (Sta.wr W8 (Sta.wr W4 f3))))))
    have f106 := (Sta.wr W28 (Sta.wr W23 (Sta.wr W18 (Sta.wr W13 (Sta.wr W8 f7)))))
    obtain ⟨v104, T104, L104, X104, q104, st104⟩ := c_virt X101 hx hZ hown (y' := (⟨"com/example/bearer/bearer/model/Registration", "isRegistered", "()Z"⟩ : MethodName)) (y := (⟨"com/example/bearer/bearer/model/Registration", "isRegistered", "()Z"⟩ : MethodName)) (C := "com/example/bearer/bearer/model/Registration") (hw _ (List.mem_of_getElem? (i := 24) rfl)) (hw _ (List.mem_of_getElem? (i := 25) rfl)) (notFace_of_selects (args := #[]) (mvT hZ (hw _ (List.mem_of_getElem? (i := 27) rfl)))) (hw _ (List.mem_of_getElem? (i := 27) rfl)) (hw _ (List.mem_of_getElem? (i := 26) rfl)) (hw _ (List.mem_of_getElem? (i := 3) rfl)) (hw _ (List.mem_of_getElem? (i := 28) rfl)) (by decide) (a := c2) (argsL := []) (rest := []) (rmR l Z a0 hw [] c2 c0 c1 h28 n0 Z28 f105 f106) e101 f103 pd_2 rfl (by rw [hml]; rfl) (W := 0) (by show 2 * 0 + _ ≤ _; exact Nat.le_of_eq rfl) (by decide) (by decide) (by decide) (by decide) (hb hby at_59) (Ls := #[.val (.int i0), .val (.int i1), .val (.ref b1), .val (.ref c2), .val (.int (2 : Int32)), .unset, .unset, .unset])
    obtain ⟨rfl, rfl, e104⟩ := q104
    have N104 := Fr.app N101 (Fr.nil n0)
    refine Go.step (st104) ?_
    show Go _ _ _ _ _ _ _ T104 (mkF m 62 #[.val (.int i0), .val (.int i1), .val (.ref b1), .val (.ref c2), .val (.int (2 : Int32)), .unset, .unset, .unset] [(.int (bi (c2 = c0 ∨ c2 = c1)))])
    rw [bi_f (P := c2 = c0 ∨ c2 = c1) (fun q => q.elim (Ne.symm n02) (Ne.symm n12))]
    show Go _ _ _ _ _ _ _ T104 (mkF m 62 #[.val (.int i0), .val (.int i1), .val (.ref b1), .val (.ref c2), .val (.int (2 : Int32)), .unset, .unset, .unset] [(.int (0 : Int32))])
    refine Go.step (fun t k => XS.iload X104.here hx rfl (hb hby at_62) rfl k) ?_
    show Go _ _ _ _ _ _ _ T104 (mkF m 64 #[.val (.int i0), .val (.int i1), .val (.ref b1), .val (.ref c2), .val (.int (2 : Int32)), .unset, .unset, .unset] [(.int (2 : Int32)), (.int (0 : Int32))])
    refine Go.step (fun t k => XS.iconst X104.here hx rfl (hb hby at_64) k) ?_
    show Go _ _ _ _ _ _ _ T104 (mkF m 65 #[.val (.int i0), .val (.int i1), .val (.ref b1), .val (.ref c2), .val (.int (2 : Int32)), .unset, .unset, .unset] [(.int (1 : Int32)), (.int (2 : Int32)), (.int (0 : Int32))])
    refine Go.step (fun t k => XS.icmpNo X104.here hx rfl (hb hby at_65) rfl (feq (by decide)).1 k) ?_
    show Go _ _ _ _ _ _ _ T104 (mkF m 68 #[.val (.int i0), .val (.int i1), .val (.ref b1), .val (.ref c2), .val (.int (2 : Int32)), .unset, .unset, .unset] [(.int (0 : Int32))])
    refine Go.step (fun t k => XS.iload X104.here hx rfl (hb hby at_68) rfl k) ?_
    show Go _ _ _ _ _ _ _ T104 (mkF m 70 #[.val (.int i0), .val (.int i1), .val (.ref b1), .val (.ref c2), .val (.int (2 : Int32)), .unset, .unset, .unset] [(.int (2 : Int32)), (.int (0 : Int32))])
    refine Go.step (fun t k => XS.iconst X104.here hx rfl (hb hby at_70) k) ?_
    show Go _ _ _ _ _ _ _ T104 (mkF m 71 #[.val (.int i0), .val (.int i1), .val (.ref b1), .val (.ref c2), .val (.int (2 : Int32)), .unset, .unset, .unset] [(.int (5 : Int32)), (.int (2 : Int32)), (.int (0 : Int32))])
    refine Go.step (fun t k => XS.icmpYes X104.here hx rfl (pc0 := 71) (pc' := 78) rfl (hb hby at_71) rfl (feq (by decide)).2 (by decide) (by decide) k) ?_
    show Go _ _ _ _ _ _ _ T104 (mkF m 78 #[.val (.int i0), .val (.int i1), .val (.ref b1), .val (.ref c2), .val (.int (2 : Int32)), .unset, .unset, .unset] [(.int (0 : Int32))])
    refine Go.step (fun t k => XS.iconst X104.here hx rfl (hb hby at_78) k) ?_
    show Go _ _ _ _ _ _ _ T104 (mkF m 79 #[.val (.int i0), .val (.int i1), .val (.ref b1), .val (.ref c2), .val (.int (2 : Int32)), .unset, .unset, .unset] [(.int (0 : Int32)), (.int (0 : Int32))])
    refine Go.step (fun t k => XS.icmpNo X104.here hx rfl (hb hby at_79) rfl (teq (by decide)).2 k) ?_
    show Go _ _ _ _ _ _ _ T104 (mkF m 82 #[.val (.int i0), .val (.int i1), .val (.ref b1), .val (.ref c2), .val (.int (2 : Int32)), .unset, .unset, .unset] [])
    refine Go.step (fun t k => XS.iconst X104.here hx rfl (hb hby at_82) k) ?_
    show Go _ _ _ _ _ _ _ T104 (mkF m 83 #[.val (.int i0), .val (.int i1), .val (.ref b1), .val (.ref c2), .val (.int (2 : Int32)), .unset, .unset, .unset] [(.int (1 : Int32))])
    refine Go.step (fun t k => XS.goto X104.here hx rfl (pc0 := 83) (pc' := 87) rfl (hb hby at_83) (by decide) (by decide) k) ?_
    show Go _ _ _ _ _ _ _ T104 (mkF m 87 #[.val (.int i0), .val (.int i1), .val (.ref b1), .val (.ref c2), .val (.int (2 : Int32)), .unset, .unset, .unset] [(.int (1 : Int32))])
    refine Go.step (fun t k => XS.istore X104.here hx rfl (hb hby at_87) rfl (l' := #[.val (.int i0), .val (.int i1), .val (.ref b1), .val (.ref c2), .val (.int (2 : Int32)), .val (.int (1 : Int32)), .unset, .unset]) rfl k) ?_
    show Go _ _ _ _ _ _ _ T104 (mkF m 89 #[.val (.int i0), .val (.int i1), .val (.ref b1), .val (.ref c2), .val (.int (2 : Int32)), .val (.int (1 : Int32)), .unset, .unset] [])
    refine Go.step (fun t k => XS.iloadN X104.here hx rfl (hb hby at_89) rfl k) ?_
    show Go _ _ _ _ _ _ _ T104 (mkF m 90 #[.val (.int i0), .val (.int i1), .val (.ref b1), .val (.ref c2), .val (.int (2 : Int32)), .val (.int (1 : Int32)), .unset, .unset] [(.int i1)])
    have f108 := (Sta.wr W28 (Sta.wr W23 (Sta.wr W18 (Sta.wr W13 f12))))
    have f109 := (Sta.wr W28 (Sta.wr W23 (Sta.wr W18 f17)))
    have f110 := (Sta.wr W28 (Sta.wr W23 f22))
    have f111 := (Sta.wr W28 f27)
    have f112 := (Exa.wr W28 (Exa.wr W23 (Exa.wr W18 (Exa.wr W13 (Exa.wr W8 (Exa.wr W4 f5))))))
    have f113 := (Exa.wr W28 (Exa.wr W23 (Exa.wr W18 (Exa.wr W13 (Exa.wr W8 f10)))))
    have f114 := (Exa.wr W28 (Exa.wr W23 (Exa.wr W18 f20)))
    have f115 := (Exa.wr W28 (Exa.wr W23 f25))
    have f116 := (Exa.wr W28 f30)
    have f117 := (Fld.other W28 (Fld.other W23 (Fld.other W18 (Fld.other W13 (Fld.other W8 (Fld.other W4 (Fld.ext E1 Fc0) (Or.inl ne_c0_b1)) (Or.inl ne_c0_b1)) (Or.inl ne_c0_b1)) (Or.inl ne_c0_b1)) (Or.inl ne_c0_b1)) (Or.inl ne_c0_b1))
    have f118 := (Fld.other W28 (Fld.other W23 (Fld.other W18 (Fld.other W13 (Fld.other W8 (Fld.other W4 (Fld.ext E1 Fc1) (Or.inl ne_c1_b1)) (Or.inl ne_c1_b1)) (Or.inl ne_c1_b1)) (Or.inl ne_c1_b1)) (Or.inl ne_c1_b1)) (Or.inl ne_c1_b1))
    have f119 := (Fld.other W28 (Fld.other W23 (Fld.other W18 (Fld.other W13 (Fld.other W8 (Fld.other W4 (Fld.ext E1 Fc3) (Or.inl ne_c3_b1)) (Or.inl ne_c3_b1)) (Or.inl ne_c3_b1)) (Or.inl ne_c3_b1)) (Or.inl ne_c3_b1)) (Or.inl ne_c3_b1))
    have f120 := (Fld.other W28 (Fld.other W23 (Fld.other W18 (Fld.other W13 (Fld.other W8 (Fld.other W4 (Fld.ext E1 Fc4) (Or.inl ne_c4_b1)) (Or.inl ne_c4_b1)) (Or.inl ne_c4_b1)) (Or.inl ne_c4_b1)) (Or.inl ne_c4_b1)) (Or.inl ne_c4_b1))
    have f121 := (Fld.other W28 (Fld.other W23 (Fld.other W18 (Fld.other W13 (Fld.other W8 (Fld.other W4 (Fld.ext E1 Fc5) (Or.inl ne_c5_b1)) (Or.inl ne_c5_b1)) (Or.inl ne_c5_b1)) (Or.inl ne_c5_b1)) (Or.inl ne_c5_b1)) (Or.inl ne_c5_b1))
    have f122 := (Sta.wr W28 (Sta.wr W23 (Sta.wr W18 (Sta.wr W13 (Sta.wr W8 (Sta.wr W4 (Sta.ext E1 SV)))))))
    have f123 := (Exa.wr W28 (Exa.wr W23 (Exa.wr W18 (Exa.wr W13 (Exa.wr W8 (Exa.wr W4 (Exa.ext E1 EV)))))))
    have f124 := (((((((VV.ext E1).other W4 ne_va_b1).other W8 ne_va_b1).other W13 ne_va_b1).other W18 ne_va_b1).other W23 ne_va_b1).other W28 ne_va_b1)
    obtain ⟨v107, T107, L107, X107, q107, st107⟩ := c_static X104 hx hZ hown (y := (⟨"com/example/bearer/bearer/model/Registration", "ofStat", "(I)Lcom/example/bearer/bearer/model/Registration;"⟩ : MethodName)) (hw _ (List.mem_of_getElem? (i := 30) rfl)) (hw _ (List.mem_of_getElem? (i := 31) rfl)) (hw _ (List.mem_of_getElem? (i := 3) rfl)) (hw _ (List.mem_of_getElem? (i := 32) rfl)) (by decide) (argsL := [(.int i1)]) (rest := []) (rmO l Z a0 hw [] i1 c0 c1 c2 c3 c4 c5 va h28 n0 Z28 f105 f106 f108 f109 f110 f111 f112 f113 f103 f114 f115 f116 f117 f118 f102 f119 f120 f121 f122 f123 f124) e104 pd_3 rfl (by rw [hml]; rfl) (W := 0) (by show 2 * 0 + _ ≤ _; exact Nat.le_of_eq rfl) (by decide) (by decide) (by decide) (by decide) (hb hby at_90) (Ls := #[.val (.int i0), .val (.int i1), .val (.ref b1), .val (.ref c2), .val (.int (2 : Int32)), .val (.int (1 : Int32)), .unset, .unset])
    generalize e107 : T107.heap = h107 at q107
    obtain ⟨rfl, N107q, K107q⟩ := q107
    have N107 := Fr.app N104 N107q
    have Z107 : n0 ≤ h107.size := Nat.le_trans Z28 K107q.1
    have f125 := (f112.keep K107q)
    have f126 := (f113.keep K107q)
    have f127 := (f103.keep K107q)
    have f128 := (f114.keep K107q)
    have f129 := (f115.keep K107q)
    have f130 := (f116.keep K107q)
    refine Go.step (st107) ?_
    show Go _ _ _ _ _ _ _ T107 (mkF m 93 #[.val (.int i0), .val (.int i1), .val (.ref b1), .val (.ref c2), .val (.int (2 : Int32)), .val (.int (1 : Int32)), .unset, .unset] [(.ref (ofs i1 c0 c1 c2 c3 c4 c5))])
    refine Go.step (fun t k => XS.astore X107.here hx rfl (hb hby at_93) rfl rfl (l' := #[.val (.int i0), .val (.int i1), .val (.ref b1), .val (.ref c2), .val (.int (2 : Int32)), .val (.int (1 : Int32)), .val (.ref (ofs i1 c0 c1 c2 c3 c4 c5)), .unset]) rfl k) ?_
    show Go _ _ _ _ _ _ _ T107 (mkF m 95 #[.val (.int i0), .val (.int i1), .val (.ref b1), .val (.ref c2), .val (.int (2 : Int32)), .val (.int (1 : Int32)), .val (.ref (ofs i1 c0 c1 c2 c3 c4 c5)), .unset] [])
    refine Go.step (fun t k => XS.aload X107.here hx rfl (hb hby at_95) rfl rfl k) ?_
    show Go _ _ _ _ _ _ _ T107 (mkF m 97 #[.val (.int i0), .val (.int i1), .val (.ref b1), .val (.ref c2), .val (.int (2 : Int32)), .val (.int (1 : Int32)), .val (.ref (ofs i1 c0 c1 c2 c3 c4 c5)), .unset] [(.ref (ofs i1 c0 c1 c2 c3 c4 c5))])
    have f132 := (own_sta_keep f105 K107q)
    have f133 := (own_sta_keep f106 K107q)
    obtain ⟨v131, T131, L131, X131, q131, st131⟩ := c_virt X107 hx hZ hown (y' := (⟨"com/example/bearer/bearer/model/Registration", "isRegistered", "()Z"⟩ : MethodName)) (y := (⟨"com/example/bearer/bearer/model/Registration", "isRegistered", "()Z"⟩ : MethodName)) (C := "com/example/bearer/bearer/model/Registration") (hw _ (List.mem_of_getElem? (i := 24) rfl)) (hw _ (List.mem_of_getElem? (i := 25) rfl)) (notFace_of_selects (args := #[]) (mvT hZ (hw _ (List.mem_of_getElem? (i := 27) rfl)))) (hw _ (List.mem_of_getElem? (i := 27) rfl)) (hw _ (List.mem_of_getElem? (i := 26) rfl)) (hw _ (List.mem_of_getElem? (i := 3) rfl)) (hw _ (List.mem_of_getElem? (i := 28) rfl)) (by decide) (a := (ofs i1 c0 c1 c2 c3 c4 c5)) (argsL := []) (rest := []) (rmR l Z a0 hw [] (ofs i1 c0 c1 c2 c3 c4 c5) c0 c1 h107 n0 Z107 f132 f133) e107 (own_sel (P := fun c => Exa Z h107 c "com/example/bearer/bearer/model/Registration") f125 f126 f127 f128 f129 f130) pd_2 rfl (by rw [hml]; rfl) (W := 0) (by show 2 * 0 + _ ≤ _; exact Nat.le_of_eq rfl) (by decide) (by decide) (by decide) (by decide) (hb hby at_97) (Ls := #[.val (.int i0), .val (.int i1), .val (.ref b1), .val (.ref c2), .val (.int (2 : Int32)), .val (.int (1 : Int32)), .val (.ref (ofs i1 c0 c1 c2 c3 c4 c5)), .unset])
    obtain ⟨rfl, rfl, e131⟩ := q131
    have N131 := Fr.app N107 (Fr.nil n0)
    refine Go.step (st131) ?_
    show Go _ _ _ _ _ _ _ T131 (mkF m 100 #[.val (.int i0), .val (.int i1), .val (.ref b1), .val (.ref c2), .val (.int (2 : Int32)), .val (.int (1 : Int32)), .val (.ref (ofs i1 c0 c1 c2 c3 c4 c5)), .unset] [(.int (bi ((ofs i1 c0 c1 c2 c3 c4 c5) = c0 ∨ (ofs i1 c0 c1 c2 c3 c4 c5) = c1)))])
    refine Go.step (fun t k => XS.iloadN X131.here hx rfl (hb hby at_100) rfl k) ?_
    show Go _ _ _ _ _ _ _ T131 (mkF m 101 #[.val (.int i0), .val (.int i1), .val (.ref b1), .val (.ref c2), .val (.int (2 : Int32)), .val (.int (1 : Int32)), .val (.ref (ofs i1 c0 c1 c2 c3 c4 c5)), .unset] [(.int i1), (.int (bi ((ofs i1 c0 c1 c2 c3 c4 c5) = c0 ∨ (ofs i1 c0 c1 c2 c3 c4 c5) = c1)))])
    refine Go.step (fun t k => XS.iconst X131.here hx rfl (hb hby at_101) k) ?_
    show Go _ _ _ _ _ _ _ T131 (mkF m 102 #[.val (.int i0), .val (.int i1), .val (.ref b1), .val (.ref c2), .val (.int (2 : Int32)), .val (.int (1 : Int32)), .val (.ref (ofs i1 c0 c1 c2 c3 c4 c5)), .unset] [(.int (1 : Int32)), (.int i1), (.int (bi ((ofs i1 c0 c1 c2 c3 c4 c5) = c0 ∨ (ofs i1 c0 c1 c2 c3 c4 c5) = c1)))])
    obtain ⟨q102, hq102⟩ : ∃ q : Bool, q = true ↔ ((i1 = (1 : Int32)) ∨ (i1 = (5 : Int32))) := ⟨decide ((i1 = (1 : Int32)) ∨ (i1 = (5 : Int32))), decide_eq_true_iff⟩
    have j102 : Go p e s below 16 128 (fun v h L => v = some (.int (1 : Int32)) ∧ Fr n0 L) T131 (mkF m 115 #[.val (.int i0), .val (.int i1), .val (.ref b1), .val (.ref c2), .val (.int (2 : Int32)), .val (.int (1 : Int32)), .val (.ref (ofs i1 c0 c1 c2 c3 c4 c5)), .unset] [(.int (bi (q102 = true))), (.int (bi ((ofs i1 c0 c1 c2 c3 c4 c5) = c0 ∨ (ofs i1 c0 c1 c2 c3 c4 c5) = c1)))]) := by
      refine Go.step (fun t k => XS.icmpNo X131.here hx rfl (hb hby at_115) rfl (teq (bi_congr ((own_reg n02 n03 n04 n05 n12 n13 n14 n15).trans hq102.symm))).2 k) ?_
      show Go _ _ _ _ _ _ _ T131 (mkF m 118 #[.val (.int i0), .val (.int i1), .val (.ref b1), .val (.ref c2), .val (.int (2 : Int32)), .val (.int (1 : Int32)), .val (.ref (ofs i1 c0 c1 c2 c3 c4 c5)), .unset] [])
      refine Go.step (fun t k => XS.iconst X131.here hx rfl (hb hby at_118) k) ?_
      show Go _ _ _ _ _ _ _ T131 (mkF m 119 #[.val (.int i0), .val (.int i1), .val (.ref b1), .val (.ref c2), .val (.int (2 : Int32)), .val (.int (1 : Int32)), .val (.ref (ofs i1 c0 c1 c2 c3 c4 c5)), .unset] [(.int (1 : Int32))])
      refine Go.step (fun t k => XS.goto X131.here hx rfl (pc0 := 119) (pc' := 123) rfl (hb hby at_119) (by decide) (by decide) k) ?_
      show Go _ _ _ _ _ _ _ T131 (mkF m 123 #[.val (.int i0), .val (.int i1), .val (.ref b1), .val (.ref c2), .val (.int (2 : Int32)), .val (.int (1 : Int32)), .val (.ref (ofs i1 c0 c1 c2 c3 c4 c5)), .unset] [(.int (1 : Int32))])
      refine Go.step (fun t k => XS.istore X131.here hx rfl (hb hby at_123) rfl (l' := #[.val (.int i0), .val (.int i1), .val (.ref b1), .val (.ref c2), .val (.int (2 : Int32)), .val (.int (1 : Int32)), .val (.ref (ofs i1 c0 c1 c2 c3 c4 c5)), .val (.int (1 : Int32))]) rfl k) ?_
      show Go _ _ _ _ _ _ _ T131 (mkF m 125 #[.val (.int i0), .val (.int i1), .val (.ref b1), .val (.ref c2), .val (.int (2 : Int32)), .val (.int (1 : Int32)), .val (.ref (ofs i1 c0 c1 c2 c3 c4 c5)), .val (.int (1 : Int32))] [])
      refine Go.step (fun t k => XS.iload X131.here hx rfl (hb hby at_125) rfl k) ?_
      show Go _ _ _ _ _ _ _ T131 (mkF m 127 #[.val (.int i0), .val (.int i1), .val (.ref b1), .val (.ref c2), .val (.int (2 : Int32)), .val (.int (1 : Int32)), .val (.ref (ofs i1 c0 c1 c2 c3 c4 c5)), .val (.int (1 : Int32))] [(.int (1 : Int32))])
      refine Go.step (fun t k => XS.ifNo X131.here hx rfl (hb hby at_127) rfl ((if0 _ _).trans (feq (by decide)).1) k) ?_
      show Go _ _ _ _ _ _ _ T131 (mkF m 130 #[.val (.int i0), .val (.int i1), .val (.ref b1), .val (.ref c2), .val (.int (2 : Int32)), .val (.int (1 : Int32)), .val (.ref (ofs i1 c0 c1 c2 c3 c4 c5)), .val (.int (1 : Int32))] [])
      refine Go.step (fun t k => XS.iload X131.here hx rfl (hb hby at_130) rfl k) ?_
      show Go _ _ _ _ _ _ _ T131 (mkF m 132 #[.val (.int i0), .val (.int i1), .val (.ref b1), .val (.ref c2), .val (.int (2 : Int32)), .val (.int (1 : Int32)), .val (.ref (ofs i1 c0 c1 c2 c3 c4 c5)), .val (.int (1 : Int32))] [(.int (1 : Int32))])
      refine Go.step (fun t k => XS.ifNo X131.here hx rfl (hb hby at_132) rfl ((if0 _ _).trans (feq (by decide)).1) k) ?_
      show Go _ _ _ _ _ _ _ T131 (mkF m 135 #[.val (.int i0), .val (.int i1), .val (.ref b1), .val (.ref c2), .val (.int (2 : Int32)), .val (.int (1 : Int32)), .val (.ref (ofs i1 c0 c1 c2 c3 c4 c5)), .val (.int (1 : Int32))] [])
      refine Go.step (fun t k => XS.iconst X131.here hx rfl (hb hby at_135) k) ?_
      show Go _ _ _ _ _ _ _ T131 (mkF m 136 #[.val (.int i0), .val (.int i1), .val (.ref b1), .val (.ref c2), .val (.int (2 : Int32)), .val (.int (1 : Int32)), .val (.ref (ofs i1 c0 c1 c2 c3 c4 c5)), .val (.int (1 : Int32))] [(.int (1 : Int32))])
      refine Go.step (fun t k => XS.goto X131.here hx rfl (pc0 := 136) (pc' := 140) rfl (hb hby at_136) (by decide) (by decide) k) ?_
      show Go _ _ _ _ _ _ _ T131 (mkF m 140 #[.val (.int i0), .val (.int i1), .val (.ref b1), .val (.ref c2), .val (.int (2 : Int32)), .val (.int (1 : Int32)), .val (.ref (ofs i1 c0 c1 c2 c3 c4 c5)), .val (.int (1 : Int32))] [(.int (1 : Int32))])
      refine go_retN X131 hx (t := .boolean) hret (by simp) hlk (hb hby at_140) (w := (1 : Int32)) rfl ?_ (by decide) (by decide)
      try rw [e131]
      exact ⟨rfl, N131⟩
    by_cases c102_134 : i1 = (1 : Int32)
    · refine Go.step (fun t k => XS.icmpYes X131.here hx rfl (pc0 := 102) (pc' := 110) rfl (hb hby at_102) rfl (teq c102_134).1 (by decide) (by decide) k) ?_
      show Go _ _ _ _ _ _ _ T131 (mkF m 110 #[.val (.int i0), .val (.int i1), .val (.ref b1), .val (.ref c2), .val (.int (2 : Int32)), .val (.int (1 : Int32)), .val (.ref (ofs i1 c0 c1 c2 c3 c4 c5)), .unset] [(.int (bi ((ofs i1 c0 c1 c2 c3 c4 c5) = c0 ∨ (ofs i1 c0 c1 c2 c3 c4 c5) = c1)))])
      refine Go.step (fun t k => XS.iconst X131.here hx rfl (hb hby at_110) k) ?_
      show Go _ _ _ _ _ _ _ T131 (mkF m 111 #[.val (.int i0), .val (.int i1), .val (.ref b1), .val (.ref c2), .val (.int (2 : Int32)), .val (.int (1 : Int32)), .val (.ref (ofs i1 c0 c1 c2 c3 c4 c5)), .unset] [(.int (1 : Int32)), (.int (bi ((ofs i1 c0 c1 c2 c3 c4 c5) = c0 ∨ (ofs i1 c0 c1 c2 c3 c4 c5) = c1)))])
      refine Go.step (fun t k => XS.goto X131.here hx rfl (pc0 := 111) (pc' := 115) rfl (hb hby at_111) (by decide) (by decide) k) ?_
      show Go _ _ _ _ _ _ _ T131 (mkF m 115 #[.val (.int i0), .val (.int i1), .val (.ref b1), .val (.ref c2), .val (.int (2 : Int32)), .val (.int (1 : Int32)), .val (.ref (ofs i1 c0 c1 c2 c3 c4 c5)), .unset] [(.int (1 : Int32)), (.int (bi ((ofs i1 c0 c1 c2 c3 c4 c5) = c0 ∨ (ofs i1 c0 c1 c2 c3 c4 c5) = c1)))])
      rw [show (bi (q102 = true)) = (1 : Int32) from bi_t (hq102.mpr (by simp only [eq_true c102_134, not_true_eq_false, not_false_eq_true, and_true, true_and, and_false, false_and, or_true, true_or, or_false, false_or, and_self, or_self]))] at j102
      exact j102
    · refine Go.step (fun t k => XS.icmpNo X131.here hx rfl (hb hby at_102) rfl (feq c102_134).1 k) ?_
      show Go _ _ _ _ _ _ _ T131 (mkF m 105 #[.val (.int i0), .val (.int i1), .val (.ref b1), .val (.ref c2), .val (.int (2 : Int32)), .val (.int (1 : Int32)), .val (.ref (ofs i1 c0 c1 c2 c3 c4 c5)), .unset] [(.int (bi ((ofs i1 c0 c1 c2 c3 c4 c5) = c0 ∨ (ofs i1 c0 c1 c2 c3 c4 c5) = c1)))])
      refine Go.step (fun t k => XS.iloadN X131.here hx rfl (hb hby at_105) rfl k) ?_
      show Go _ _ _ _ _ _ _ T131 (mkF m 106 #[.val (.int i0), .val (.int i1), .val (.ref b1), .val (.ref c2), .val (.int (2 : Int32)), .val (.int (1 : Int32)), .val (.ref (ofs i1 c0 c1 c2 c3 c4 c5)), .unset] [(.int i1), (.int (bi ((ofs i1 c0 c1 c2 c3 c4 c5) = c0 ∨ (ofs i1 c0 c1 c2 c3 c4 c5) = c1)))])
      refine Go.step (fun t k => XS.iconst X131.here hx rfl (hb hby at_106) k) ?_
      show Go _ _ _ _ _ _ _ T131 (mkF m 107 #[.val (.int i0), .val (.int i1), .val (.ref b1), .val (.ref c2), .val (.int (2 : Int32)), .val (.int (1 : Int32)), .val (.ref (ofs i1 c0 c1 c2 c3 c4 c5)), .unset] [(.int (5 : Int32)), (.int i1), (.int (bi ((ofs i1 c0 c1 c2 c3 c4 c5) = c0 ∨ (ofs i1 c0 c1 c2 c3 c4 c5) = c1)))])
      by_cases c107_135 : i1 = (5 : Int32)
      · refine Go.step (fun t k => XS.icmpNo X131.here hx rfl (hb hby at_107) rfl (teq c107_135).2 k) ?_
        show Go _ _ _ _ _ _ _ T131 (mkF m 110 #[.val (.int i0), .val (.int i1), .val (.ref b1), .val (.ref c2), .val (.int (2 : Int32)), .val (.int (1 : Int32)), .val (.ref (ofs i1 c0 c1 c2 c3 c4 c5)), .unset] [(.int (bi ((ofs i1 c0 c1 c2 c3 c4 c5) = c0 ∨ (ofs i1 c0 c1 c2 c3 c4 c5) = c1)))])
        refine Go.step (fun t k => XS.iconst X131.here hx rfl (hb hby at_110) k) ?_
        show Go _ _ _ _ _ _ _ T131 (mkF m 111 #[.val (.int i0), .val (.int i1), .val (.ref b1), .val (.ref c2), .val (.int (2 : Int32)), .val (.int (1 : Int32)), .val (.ref (ofs i1 c0 c1 c2 c3 c4 c5)), .unset] [(.int (1 : Int32)), (.int (bi ((ofs i1 c0 c1 c2 c3 c4 c5) = c0 ∨ (ofs i1 c0 c1 c2 c3 c4 c5) = c1)))])
        refine Go.step (fun t k => XS.goto X131.here hx rfl (pc0 := 111) (pc' := 115) rfl (hb hby at_111) (by decide) (by decide) k) ?_
        show Go _ _ _ _ _ _ _ T131 (mkF m 115 #[.val (.int i0), .val (.int i1), .val (.ref b1), .val (.ref c2), .val (.int (2 : Int32)), .val (.int (1 : Int32)), .val (.ref (ofs i1 c0 c1 c2 c3 c4 c5)), .unset] [(.int (1 : Int32)), (.int (bi ((ofs i1 c0 c1 c2 c3 c4 c5) = c0 ∨ (ofs i1 c0 c1 c2 c3 c4 c5) = c1)))])
        rw [show (bi (q102 = true)) = (1 : Int32) from bi_t (hq102.mpr (by simp only [eq_false c102_134, eq_true c107_135, not_true_eq_false, not_false_eq_true, and_true, true_and, and_false, false_and, or_true, true_or, or_false, false_or, and_self, or_self]))] at j102
        exact j102
      · refine Go.step (fun t k => XS.icmpYes X131.here hx rfl (pc0 := 107) (pc' := 114) rfl (hb hby at_107) rfl (feq c107_135).2 (by decide) (by decide) k) ?_
        show Go _ _ _ _ _ _ _ T131 (mkF m 114 #[.val (.int i0), .val (.int i1), .val (.ref b1), .val (.ref c2), .val (.int (2 : Int32)), .val (.int (1 : Int32)), .val (.ref (ofs i1 c0 c1 c2 c3 c4 c5)), .unset] [(.int (bi ((ofs i1 c0 c1 c2 c3 c4 c5) = c0 ∨ (ofs i1 c0 c1 c2 c3 c4 c5) = c1)))])
        refine Go.step (fun t k => XS.iconst X131.here hx rfl (hb hby at_114) k) ?_
        show Go _ _ _ _ _ _ _ T131 (mkF m 115 #[.val (.int i0), .val (.int i1), .val (.ref b1), .val (.ref c2), .val (.int (2 : Int32)), .val (.int (1 : Int32)), .val (.ref (ofs i1 c0 c1 c2 c3 c4 c5)), .unset] [(.int (0 : Int32)), (.int (bi ((ofs i1 c0 c1 c2 c3 c4 c5) = c0 ∨ (ofs i1 c0 c1 c2 c3 c4 c5) = c1)))])
        rw [show (bi (q102 = true)) = (0 : Int32) from bi_f (mt hq102.mp (by simp only [eq_false c102_134, eq_false c107_135, not_true_eq_false, not_false_eq_true, and_true, true_and, and_false, false_and, or_true, true_or, or_false, false_or, and_self, or_self]))] at j102
        exact j102
  · show Go _ _ _ _ _ _ _ T28 (mkF m 50 #[.val (.int i0), .val (.int i1), .val (.ref b1), .unset, .unset, .unset, .unset, .unset] [(.int (3 : Int32)), (.ref b1)])
    refine Go.step (a_rload X28 hx hZ e28 V28 rfl (k := 3) (by decide) (by decide) (v := (.ref c3)) rfl (hb hby at_50)) ?_
    show Go _ _ _ _ _ _ _ T28 (mkF m 51 #[.val (.int i0), .val (.int i1), .val (.ref b1), .unset, .unset, .unset, .unset, .unset] [(.ref c3)])
    refine Go.step (fun t k => XS.astoreN X28.here hx rfl (hb hby at_51) rfl rfl (l' := #[.val (.int i0), .val (.int i1), .val (.ref b1), .val (.ref c3), .unset, .unset, .unset, .unset]) rfl k) ?_
    show Go _ _ _ _ _ _ _ T28 (mkF m 52 #[.val (.int i0), .val (.int i1), .val (.ref b1), .val (.ref c3), .unset, .unset, .unset, .unset] [])
    refine Go.step (fun t k => XS.aloadN X28.here hx rfl (hb hby at_52) rfl rfl k) ?_
    show Go _ _ _ _ _ _ _ T28 (mkF m 53 #[.val (.int i0), .val (.int i1), .val (.ref b1), .val (.ref c3), .unset, .unset, .unset, .unset] [(.ref c3)])
    have f137 := (Fld.other W28 (Fld.other W23 (Fld.other W18 (Fld.other W13 (Fld.other W8 (Fld.other W4 (Fld.ext E1 Fc3) (Or.inl ne_c3_b1)) (Or.inl ne_c3_b1)) (Or.inl ne_c3_b1)) (Or.inl ne_c3_b1)) (Or.inl ne_c3_b1)) (Or.inl ne_c3_b1))
    have f138 := (Exa.wr W28 (Exa.wr W23 (Exa.wr W18 f20)))
    obtain ⟨v136, T136, L136, X136, q136, st136⟩ := c_virt X28 hx hZ hown (y' := (⟨"com/example/bearer/bearer/model/Registration", "stat", "()I"⟩ : MethodName)) (y := (⟨"com/example/bearer/bearer/model/Registration", "stat", "()I"⟩ : MethodName)) (C := "com/example/bearer/bearer/model/Registration") (hw _ (List.mem_of_getElem? (i := 17) rfl)) (hw _ (List.mem_of_getElem? (i := 18) rfl)) (notFace_of_selects (args := #[]) (mvT hZ (hw _ (List.mem_of_getElem? (i := 20) rfl)))) (hw _ (List.mem_of_getElem? (i := 20) rfl)) (hw _ (List.mem_of_getElem? (i := 19) rfl)) (hw _ (List.mem_of_getElem? (i := 3) rfl)) (hw _ (List.mem_of_getElem? (i := 21) rfl)) (by decide) (a := c3) (argsL := []) (rest := []) (rmS l Z a0 hw [] c3 (3 : Int32) h28 n0 Z28 f137) e28 f138 pd_1 rfl (by rw [hml]; rfl) (W := 0) (by show 2 * 0 + _ ≤ _; exact Nat.le_of_eq rfl) (by decide) (by decide) (by decide) (by decide) (hb hby at_53) (Ls := #[.val (.int i0), .val (.int i1), .val (.ref b1), .val (.ref c3), .unset, .unset, .unset, .unset])
    obtain ⟨rfl, rfl, e136⟩ := q136
    have N136 := Fr.app N28 (Fr.nil n0)
    refine Go.step (st136) ?_
    show Go _ _ _ _ _ _ _ T136 (mkF m 56 #[.val (.int i0), .val (.int i1), .val (.ref b1), .val (.ref c3), .unset, .unset, .unset, .unset] [(.int (3 : Int32))])
    refine Go.step (fun t k => XS.istore X136.here hx rfl (hb hby at_56) rfl (l' := #[.val (.int i0), .val (.int i1), .val (.ref b1), .val (.ref c3), .val (.int (3 : Int32)), .unset, .unset, .unset]) rfl k) ?_
    show Go _ _ _ _ _ _ _ T136 (mkF m 58 #[.val (.int i0), .val (.int i1), .val (.ref b1), .val (.ref c3), .val (.int (3 : Int32)), .unset, .unset, .unset] [])
    refine Go.step (fun t k => XS.aloadN X136.here hx rfl (hb hby at_58) rfl rfl k) ?_
    show Go _ _ _ _ _ _ _ T136 (mkF m 59 #[.val (.int i0), .val (.int i1), .val (.ref b1), .val (.ref c3), .val (.int (3 : Int32)), .unset, .unset, .unset] [(.ref c3)])
    have f140 := (Sta.wr W28 (Sta.wr W23 (Sta.wr W18 (Sta.wr W13 (Sta.wr W8 (Sta.wr W4 f3))))))
    have f141 := (Sta.wr W28 (Sta.wr W23 (Sta.wr W18 (Sta.wr W13 (Sta.wr W8 f7)))))
    obtain ⟨v139, T139, L139, X139, q139, st139⟩ := c_virt X136 hx hZ hown (y' := (⟨"com/example/bearer/bearer/model/Registration", "isRegistered", "()Z"⟩ : MethodName)) (y := (⟨"com/example/bearer/bearer/model/Registration", "isRegistered", "()Z"⟩ : MethodName)) (C := "com/example/bearer/bearer/model/Registration") (hw _ (List.mem_of_getElem? (i := 24) rfl)) (hw _ (List.mem_of_getElem? (i := 25) rfl)) (notFace_of_selects (args := #[]) (mvT hZ (hw _ (List.mem_of_getElem? (i := 27) rfl)))) (hw _ (List.mem_of_getElem? (i := 27) rfl)) (hw _ (List.mem_of_getElem? (i := 26) rfl)) (hw _ (List.mem_of_getElem? (i := 3) rfl)) (hw _ (List.mem_of_getElem? (i := 28) rfl)) (by decide) (a := c3) (argsL := []) (rest := []) (rmR l Z a0 hw [] c3 c0 c1 h28 n0 Z28 f140 f141) e136 f138 pd_2 rfl (by rw [hml]; rfl) (W := 0) (by show 2 * 0 + _ ≤ _; exact Nat.le_of_eq rfl) (by decide) (by decide) (by decide) (by decide) (hb hby at_59) (Ls := #[.val (.int i0), .val (.int i1), .val (.ref b1), .val (.ref c3), .val (.int (3 : Int32)), .unset, .unset, .unset])
    obtain ⟨rfl, rfl, e139⟩ := q139
    have N139 := Fr.app N136 (Fr.nil n0)
    refine Go.step (st139) ?_
    show Go _ _ _ _ _ _ _ T139 (mkF m 62 #[.val (.int i0), .val (.int i1), .val (.ref b1), .val (.ref c3), .val (.int (3 : Int32)), .unset, .unset, .unset] [(.int (bi (c3 = c0 ∨ c3 = c1)))])
    rw [bi_f (P := c3 = c0 ∨ c3 = c1) (fun q => q.elim (Ne.symm n03) (Ne.symm n13))]
    show Go _ _ _ _ _ _ _ T139 (mkF m 62 #[.val (.int i0), .val (.int i1), .val (.ref b1), .val (.ref c3), .val (.int (3 : Int32)), .unset, .unset, .unset] [(.int (0 : Int32))])
    refine Go.step (fun t k => XS.iload X139.here hx rfl (hb hby at_62) rfl k) ?_
    show Go _ _ _ _ _ _ _ T139 (mkF m 64 #[.val (.int i0), .val (.int i1), .val (.ref b1), .val (.ref c3), .val (.int (3 : Int32)), .unset, .unset, .unset] [(.int (3 : Int32)), (.int (0 : Int32))])
    refine Go.step (fun t k => XS.iconst X139.here hx rfl (hb hby at_64) k) ?_
    show Go _ _ _ _ _ _ _ T139 (mkF m 65 #[.val (.int i0), .val (.int i1), .val (.ref b1), .val (.ref c3), .val (.int (3 : Int32)), .unset, .unset, .unset] [(.int (1 : Int32)), (.int (3 : Int32)), (.int (0 : Int32))])
    refine Go.step (fun t k => XS.icmpNo X139.here hx rfl (hb hby at_65) rfl (feq (by decide)).1 k) ?_
    show Go _ _ _ _ _ _ _ T139 (mkF m 68 #[.val (.int i0), .val (.int i1), .val (.ref b1), .val (.ref c3), .val (.int (3 : Int32)), .unset, .unset, .unset] [(.int (0 : Int32))])
    refine Go.step (fun t k => XS.iload X139.here hx rfl (hb hby at_68) rfl k) ?_
    show Go _ _ _ _ _ _ _ T139 (mkF m 70 #[.val (.int i0), .val (.int i1), .val (.ref b1), .val (.ref c3), .val (.int (3 : Int32)), .unset, .unset, .unset] [(.int (3 : Int32)), (.int (0 : Int32))])
    refine Go.step (fun t k => XS.iconst X139.here hx rfl (hb hby at_70) k) ?_
    show Go _ _ _ _ _ _ _ T139 (mkF m 71 #[.val (.int i0), .val (.int i1), .val (.ref b1), .val (.ref c3), .val (.int (3 : Int32)), .unset, .unset, .unset] [(.int (5 : Int32)), (.int (3 : Int32)), (.int (0 : Int32))])
    refine Go.step (fun t k => XS.icmpYes X139.here hx rfl (pc0 := 71) (pc' := 78) rfl (hb hby at_71) rfl (feq (by decide)).2 (by decide) (by decide) k) ?_
    show Go _ _ _ _ _ _ _ T139 (mkF m 78 #[.val (.int i0), .val (.int i1), .val (.ref b1), .val (.ref c3), .val (.int (3 : Int32)), .unset, .unset, .unset] [(.int (0 : Int32))])
    refine Go.step (fun t k => XS.iconst X139.here hx rfl (hb hby at_78) k) ?_
    show Go _ _ _ _ _ _ _ T139 (mkF m 79 #[.val (.int i0), .val (.int i1), .val (.ref b1), .val (.ref c3), .val (.int (3 : Int32)), .unset, .unset, .unset] [(.int (0 : Int32)), (.int (0 : Int32))])
    refine Go.step (fun t k => XS.icmpNo X139.here hx rfl (hb hby at_79) rfl (teq (by decide)).2 k) ?_
    show Go _ _ _ _ _ _ _ T139 (mkF m 82 #[.val (.int i0), .val (.int i1), .val (.ref b1), .val (.ref c3), .val (.int (3 : Int32)), .unset, .unset, .unset] [])
    refine Go.step (fun t k => XS.iconst X139.here hx rfl (hb hby at_82) k) ?_
    show Go _ _ _ _ _ _ _ T139 (mkF m 83 #[.val (.int i0), .val (.int i1), .val (.ref b1), .val (.ref c3), .val (.int (3 : Int32)), .unset, .unset, .unset] [(.int (1 : Int32))])
    refine Go.step (fun t k => XS.goto X139.here hx rfl (pc0 := 83) (pc' := 87) rfl (hb hby at_83) (by decide) (by decide) k) ?_
    show Go _ _ _ _ _ _ _ T139 (mkF m 87 #[.val (.int i0), .val (.int i1), .val (.ref b1), .val (.ref c3), .val (.int (3 : Int32)), .unset, .unset, .unset] [(.int (1 : Int32))])
    refine Go.step (fun t k => XS.istore X139.here hx rfl (hb hby at_87) rfl (l' := #[.val (.int i0), .val (.int i1), .val (.ref b1), .val (.ref c3), .val (.int (3 : Int32)), .val (.int (1 : Int32)), .unset, .unset]) rfl k) ?_
    show Go _ _ _ _ _ _ _ T139 (mkF m 89 #[.val (.int i0), .val (.int i1), .val (.ref b1), .val (.ref c3), .val (.int (3 : Int32)), .val (.int (1 : Int32)), .unset, .unset] [])
    refine Go.step (fun t k => XS.iloadN X139.here hx rfl (hb hby at_89) rfl k) ?_
    show Go _ _ _ _ _ _ _ T139 (mkF m 90 #[.val (.int i0), .val (.int i1), .val (.ref b1), .val (.ref c3), .val (.int (3 : Int32)), .val (.int (1 : Int32)), .unset, .unset] [(.int i1)])
    have f143 := (Sta.wr W28 (Sta.wr W23 (Sta.wr W18 (Sta.wr W13 f12))))
    have f144 := (Sta.wr W28 (Sta.wr W23 (Sta.wr W18 f17)))
    have f145 := (Sta.wr W28 (Sta.wr W23 f22))
    have f146 := (Sta.wr W28 f27)
    have f147 := (Exa.wr W28 (Exa.wr W23 (Exa.wr W18 (Exa.wr W13 (Exa.wr W8 (Exa.wr W4 f5))))))
    have f148 := (Exa.wr W28 (Exa.wr W23 (Exa.wr W18 (Exa.wr W13 (Exa.wr W8 f10)))))
    have f149 := (Exa.wr W28 (Exa.wr W23 (Exa.wr W18 (Exa.wr W13 f15))))
    have f150 := (Exa.wr W28 (Exa.wr W23 f25))
    have f151 := (Exa.wr W28 f30)
    have f152 := (Fld.other W28 (Fld.other W23 (Fld.other W18 (Fld.other W13 (Fld.other W8 (Fld.other W4 (Fld.ext E1 Fc0) (Or.inl ne_c0_b1)) (Or.inl ne_c0_b1)) (Or.inl ne_c0_b1)) (Or.inl ne_c0_b1)) (Or.inl ne_c0_b1)) (Or.inl ne_c0_b1))
    have f153 := (Fld.other W28 (Fld.other W23 (Fld.other W18 (Fld.other W13 (Fld.other W8 (Fld.other W4 (Fld.ext E1 Fc1) (Or.inl ne_c1_b1)) (Or.inl ne_c1_b1)) (Or.inl ne_c1_b1)) (Or.inl ne_c1_b1)) (Or.inl ne_c1_b1)) (Or.inl ne_c1_b1))
    have f154 := (Fld.other W28 (Fld.other W23 (Fld.other W18 (Fld.other W13 (Fld.other W8 (Fld.other W4 (Fld.ext E1 Fc2) (Or.inl ne_c2_b1)) (Or.inl ne_c2_b1)) (Or.inl ne_c2_b1)) (Or.inl ne_c2_b1)) (Or.inl ne_c2_b1)) (Or.inl ne_c2_b1))
    have f155 := (Fld.other W28 (Fld.other W23 (Fld.other W18 (Fld.other W13 (Fld.other W8 (Fld.other W4 (Fld.ext E1 Fc4) (Or.inl ne_c4_b1)) (Or.inl ne_c4_b1)) (Or.inl ne_c4_b1)) (Or.inl ne_c4_b1)) (Or.inl ne_c4_b1)) (Or.inl ne_c4_b1))
    have f156 := (Fld.other W28 (Fld.other W23 (Fld.other W18 (Fld.other W13 (Fld.other W8 (Fld.other W4 (Fld.ext E1 Fc5) (Or.inl ne_c5_b1)) (Or.inl ne_c5_b1)) (Or.inl ne_c5_b1)) (Or.inl ne_c5_b1)) (Or.inl ne_c5_b1)) (Or.inl ne_c5_b1))
    have f157 := (Sta.wr W28 (Sta.wr W23 (Sta.wr W18 (Sta.wr W13 (Sta.wr W8 (Sta.wr W4 (Sta.ext E1 SV)))))))
    have f158 := (Exa.wr W28 (Exa.wr W23 (Exa.wr W18 (Exa.wr W13 (Exa.wr W8 (Exa.wr W4 (Exa.ext E1 EV)))))))
    have f159 := (((((((VV.ext E1).other W4 ne_va_b1).other W8 ne_va_b1).other W13 ne_va_b1).other W18 ne_va_b1).other W23 ne_va_b1).other W28 ne_va_b1)
    obtain ⟨v142, T142, L142, X142, q142, st142⟩ := c_static X139 hx hZ hown (y := (⟨"com/example/bearer/bearer/model/Registration", "ofStat", "(I)Lcom/example/bearer/bearer/model/Registration;"⟩ : MethodName)) (hw _ (List.mem_of_getElem? (i := 30) rfl)) (hw _ (List.mem_of_getElem? (i := 31) rfl)) (hw _ (List.mem_of_getElem? (i := 3) rfl)) (hw _ (List.mem_of_getElem? (i := 32) rfl)) (by decide) (argsL := [(.int i1)]) (rest := []) (rmO l Z a0 hw [] i1 c0 c1 c2 c3 c4 c5 va h28 n0 Z28 f140 f141 f143 f144 f145 f146 f147 f148 f149 f138 f150 f151 f152 f153 f154 f137 f155 f156 f157 f158 f159) e139 pd_3 rfl (by rw [hml]; rfl) (W := 0) (by show 2 * 0 + _ ≤ _; exact Nat.le_of_eq rfl) (by decide) (by decide) (by decide) (by decide) (hb hby at_90) (Ls := #[.val (.int i0), .val (.int i1), .val (.ref b1), .val (.ref c3), .val (.int (3 : Int32)), .val (.int (1 : Int32)), .unset, .unset])
    generalize e142 : T142.heap = h142 at q142
    obtain ⟨rfl, N142q, K142q⟩ := q142
    have N142 := Fr.app N139 N142q
    have Z142 : n0 ≤ h142.size := Nat.le_trans Z28 K142q.1
    have f160 := (f147.keep K142q)
    have f161 := (f148.keep K142q)
    have f162 := (f149.keep K142q)
    have f163 := (f138.keep K142q)
    have f164 := (f150.keep K142q)
    have f165 := (f151.keep K142q)
    refine Go.step (st142) ?_
    show Go _ _ _ _ _ _ _ T142 (mkF m 93 #[.val (.int i0), .val (.int i1), .val (.ref b1), .val (.ref c3), .val (.int (3 : Int32)), .val (.int (1 : Int32)), .unset, .unset] [(.ref (ofs i1 c0 c1 c2 c3 c4 c5))])
    refine Go.step (fun t k => XS.astore X142.here hx rfl (hb hby at_93) rfl rfl (l' := #[.val (.int i0), .val (.int i1), .val (.ref b1), .val (.ref c3), .val (.int (3 : Int32)), .val (.int (1 : Int32)), .val (.ref (ofs i1 c0 c1 c2 c3 c4 c5)), .unset]) rfl k) ?_
    show Go _ _ _ _ _ _ _ T142 (mkF m 95 #[.val (.int i0), .val (.int i1), .val (.ref b1), .val (.ref c3), .val (.int (3 : Int32)), .val (.int (1 : Int32)), .val (.ref (ofs i1 c0 c1 c2 c3 c4 c5)), .unset] [])
    refine Go.step (fun t k => XS.aload X142.here hx rfl (hb hby at_95) rfl rfl k) ?_
    show Go _ _ _ _ _ _ _ T142 (mkF m 97 #[.val (.int i0), .val (.int i1), .val (.ref b1), .val (.ref c3), .val (.int (3 : Int32)), .val (.int (1 : Int32)), .val (.ref (ofs i1 c0 c1 c2 c3 c4 c5)), .unset] [(.ref (ofs i1 c0 c1 c2 c3 c4 c5))])
    have f167 := (own_sta_keep f140 K142q)
    have f168 := (own_sta_keep f141 K142q)
    obtain ⟨v166, T166, L166, X166, q166, st166⟩ := c_virt X142 hx hZ hown (y' := (⟨"com/example/bearer/bearer/model/Registration", "isRegistered", "()Z"⟩ : MethodName)) (y := (⟨"com/example/bearer/bearer/model/Registration", "isRegistered", "()Z"⟩ : MethodName)) (C := "com/example/bearer/bearer/model/Registration") (hw _ (List.mem_of_getElem? (i := 24) rfl)) (hw _ (List.mem_of_getElem? (i := 25) rfl)) (notFace_of_selects (args := #[]) (mvT hZ (hw _ (List.mem_of_getElem? (i := 27) rfl)))) (hw _ (List.mem_of_getElem? (i := 27) rfl)) (hw _ (List.mem_of_getElem? (i := 26) rfl)) (hw _ (List.mem_of_getElem? (i := 3) rfl)) (hw _ (List.mem_of_getElem? (i := 28) rfl)) (by decide) (a := (ofs i1 c0 c1 c2 c3 c4 c5)) (argsL := []) (rest := []) (rmR l Z a0 hw [] (ofs i1 c0 c1 c2 c3 c4 c5) c0 c1 h142 n0 Z142 f167 f168) e142 (own_sel (P := fun c => Exa Z h142 c "com/example/bearer/bearer/model/Registration") f160 f161 f162 f163 f164 f165) pd_2 rfl (by rw [hml]; rfl) (W := 0) (by show 2 * 0 + _ ≤ _; exact Nat.le_of_eq rfl) (by decide) (by decide) (by decide) (by decide) (hb hby at_97) (Ls := #[.val (.int i0), .val (.int i1), .val (.ref b1), .val (.ref c3), .val (.int (3 : Int32)), .val (.int (1 : Int32)), .val (.ref (ofs i1 c0 c1 c2 c3 c4 c5)), .unset])
    obtain ⟨rfl, rfl, e166⟩ := q166
    have N166 := Fr.app N142 (Fr.nil n0)
    refine Go.step (st166) ?_
    show Go _ _ _ _ _ _ _ T166 (mkF m 100 #[.val (.int i0), .val (.int i1), .val (.ref b1), .val (.ref c3), .val (.int (3 : Int32)), .val (.int (1 : Int32)), .val (.ref (ofs i1 c0 c1 c2 c3 c4 c5)), .unset] [(.int (bi ((ofs i1 c0 c1 c2 c3 c4 c5) = c0 ∨ (ofs i1 c0 c1 c2 c3 c4 c5) = c1)))])
    refine Go.step (fun t k => XS.iloadN X166.here hx rfl (hb hby at_100) rfl k) ?_
    show Go _ _ _ _ _ _ _ T166 (mkF m 101 #[.val (.int i0), .val (.int i1), .val (.ref b1), .val (.ref c3), .val (.int (3 : Int32)), .val (.int (1 : Int32)), .val (.ref (ofs i1 c0 c1 c2 c3 c4 c5)), .unset] [(.int i1), (.int (bi ((ofs i1 c0 c1 c2 c3 c4 c5) = c0 ∨ (ofs i1 c0 c1 c2 c3 c4 c5) = c1)))])
    refine Go.step (fun t k => XS.iconst X166.here hx rfl (hb hby at_101) k) ?_
    show Go _ _ _ _ _ _ _ T166 (mkF m 102 #[.val (.int i0), .val (.int i1), .val (.ref b1), .val (.ref c3), .val (.int (3 : Int32)), .val (.int (1 : Int32)), .val (.ref (ofs i1 c0 c1 c2 c3 c4 c5)), .unset] [(.int (1 : Int32)), (.int i1), (.int (bi ((ofs i1 c0 c1 c2 c3 c4 c5) = c0 ∨ (ofs i1 c0 c1 c2 c3 c4 c5) = c1)))])
    obtain ⟨q102, hq102⟩ : ∃ q : Bool, q = true ↔ ((i1 = (1 : Int32)) ∨ (i1 = (5 : Int32))) := ⟨decide ((i1 = (1 : Int32)) ∨ (i1 = (5 : Int32))), decide_eq_true_iff⟩
    have j102 : Go p e s below 16 128 (fun v h L => v = some (.int (1 : Int32)) ∧ Fr n0 L) T166 (mkF m 115 #[.val (.int i0), .val (.int i1), .val (.ref b1), .val (.ref c3), .val (.int (3 : Int32)), .val (.int (1 : Int32)), .val (.ref (ofs i1 c0 c1 c2 c3 c4 c5)), .unset] [(.int (bi (q102 = true))), (.int (bi ((ofs i1 c0 c1 c2 c3 c4 c5) = c0 ∨ (ofs i1 c0 c1 c2 c3 c4 c5) = c1)))]) := by
      refine Go.step (fun t k => XS.icmpNo X166.here hx rfl (hb hby at_115) rfl (teq (bi_congr ((own_reg n02 n03 n04 n05 n12 n13 n14 n15).trans hq102.symm))).2 k) ?_
      show Go _ _ _ _ _ _ _ T166 (mkF m 118 #[.val (.int i0), .val (.int i1), .val (.ref b1), .val (.ref c3), .val (.int (3 : Int32)), .val (.int (1 : Int32)), .val (.ref (ofs i1 c0 c1 c2 c3 c4 c5)), .unset] [])
      refine Go.step (fun t k => XS.iconst X166.here hx rfl (hb hby at_118) k) ?_
      show Go _ _ _ _ _ _ _ T166 (mkF m 119 #[.val (.int i0), .val (.int i1), .val (.ref b1), .val (.ref c3), .val (.int (3 : Int32)), .val (.int (1 : Int32)), .val (.ref (ofs i1 c0 c1 c2 c3 c4 c5)), .unset] [(.int (1 : Int32))])
      refine Go.step (fun t k => XS.goto X166.here hx rfl (pc0 := 119) (pc' := 123) rfl (hb hby at_119) (by decide) (by decide) k) ?_
      show Go _ _ _ _ _ _ _ T166 (mkF m 123 #[.val (.int i0), .val (.int i1), .val (.ref b1), .val (.ref c3), .val (.int (3 : Int32)), .val (.int (1 : Int32)), .val (.ref (ofs i1 c0 c1 c2 c3 c4 c5)), .unset] [(.int (1 : Int32))])
      refine Go.step (fun t k => XS.istore X166.here hx rfl (hb hby at_123) rfl (l' := #[.val (.int i0), .val (.int i1), .val (.ref b1), .val (.ref c3), .val (.int (3 : Int32)), .val (.int (1 : Int32)), .val (.ref (ofs i1 c0 c1 c2 c3 c4 c5)), .val (.int (1 : Int32))]) rfl k) ?_
      show Go _ _ _ _ _ _ _ T166 (mkF m 125 #[.val (.int i0), .val (.int i1), .val (.ref b1), .val (.ref c3), .val (.int (3 : Int32)), .val (.int (1 : Int32)), .val (.ref (ofs i1 c0 c1 c2 c3 c4 c5)), .val (.int (1 : Int32))] [])
      refine Go.step (fun t k => XS.iload X166.here hx rfl (hb hby at_125) rfl k) ?_
      show Go _ _ _ _ _ _ _ T166 (mkF m 127 #[.val (.int i0), .val (.int i1), .val (.ref b1), .val (.ref c3), .val (.int (3 : Int32)), .val (.int (1 : Int32)), .val (.ref (ofs i1 c0 c1 c2 c3 c4 c5)), .val (.int (1 : Int32))] [(.int (1 : Int32))])
      refine Go.step (fun t k => XS.ifNo X166.here hx rfl (hb hby at_127) rfl ((if0 _ _).trans (feq (by decide)).1) k) ?_
      show Go _ _ _ _ _ _ _ T166 (mkF m 130 #[.val (.int i0), .val (.int i1), .val (.ref b1), .val (.ref c3), .val (.int (3 : Int32)), .val (.int (1 : Int32)), .val (.ref (ofs i1 c0 c1 c2 c3 c4 c5)), .val (.int (1 : Int32))] [])
      refine Go.step (fun t k => XS.iload X166.here hx rfl (hb hby at_130) rfl k) ?_
      show Go _ _ _ _ _ _ _ T166 (mkF m 132 #[.val (.int i0), .val (.int i1), .val (.ref b1), .val (.ref c3), .val (.int (3 : Int32)), .val (.int (1 : Int32)), .val (.ref (ofs i1 c0 c1 c2 c3 c4 c5)), .val (.int (1 : Int32))] [(.int (1 : Int32))])
      refine Go.step (fun t k => XS.ifNo X166.here hx rfl (hb hby at_132) rfl ((if0 _ _).trans (feq (by decide)).1) k) ?_
      show Go _ _ _ _ _ _ _ T166 (mkF m 135 #[.val (.int i0), .val (.int i1), .val (.ref b1), .val (.ref c3), .val (.int (3 : Int32)), .val (.int (1 : Int32)), .val (.ref (ofs i1 c0 c1 c2 c3 c4 c5)), .val (.int (1 : Int32))] [])
      refine Go.step (fun t k => XS.iconst X166.here hx rfl (hb hby at_135) k) ?_
      show Go _ _ _ _ _ _ _ T166 (mkF m 136 #[.val (.int i0), .val (.int i1), .val (.ref b1), .val (.ref c3), .val (.int (3 : Int32)), .val (.int (1 : Int32)), .val (.ref (ofs i1 c0 c1 c2 c3 c4 c5)), .val (.int (1 : Int32))] [(.int (1 : Int32))])
      refine Go.step (fun t k => XS.goto X166.here hx rfl (pc0 := 136) (pc' := 140) rfl (hb hby at_136) (by decide) (by decide) k) ?_
      show Go _ _ _ _ _ _ _ T166 (mkF m 140 #[.val (.int i0), .val (.int i1), .val (.ref b1), .val (.ref c3), .val (.int (3 : Int32)), .val (.int (1 : Int32)), .val (.ref (ofs i1 c0 c1 c2 c3 c4 c5)), .val (.int (1 : Int32))] [(.int (1 : Int32))])
      refine go_retN X166 hx (t := .boolean) hret (by simp) hlk (hb hby at_140) (w := (1 : Int32)) rfl ?_ (by decide) (by decide)
      try rw [e166]
      exact ⟨rfl, N166⟩
    by_cases c102_169 : i1 = (1 : Int32)
    · refine Go.step (fun t k => XS.icmpYes X166.here hx rfl (pc0 := 102) (pc' := 110) rfl (hb hby at_102) rfl (teq c102_169).1 (by decide) (by decide) k) ?_
      show Go _ _ _ _ _ _ _ T166 (mkF m 110 #[.val (.int i0), .val (.int i1), .val (.ref b1), .val (.ref c3), .val (.int (3 : Int32)), .val (.int (1 : Int32)), .val (.ref (ofs i1 c0 c1 c2 c3 c4 c5)), .unset] [(.int (bi ((ofs i1 c0 c1 c2 c3 c4 c5) = c0 ∨ (ofs i1 c0 c1 c2 c3 c4 c5) = c1)))])
      refine Go.step (fun t k => XS.iconst X166.here hx rfl (hb hby at_110) k) ?_
      show Go _ _ _ _ _ _ _ T166 (mkF m 111 #[.val (.int i0), .val (.int i1), .val (.ref b1), .val (.ref c3), .val (.int (3 : Int32)), .val (.int (1 : Int32)), .val (.ref (ofs i1 c0 c1 c2 c3 c4 c5)), .unset] [(.int (1 : Int32)), (.int (bi ((ofs i1 c0 c1 c2 c3 c4 c5) = c0 ∨ (ofs i1 c0 c1 c2 c3 c4 c5) = c1)))])
      refine Go.step (fun t k => XS.goto X166.here hx rfl (pc0 := 111) (pc' := 115) rfl (hb hby at_111) (by decide) (by decide) k) ?_
      show Go _ _ _ _ _ _ _ T166 (mkF m 115 #[.val (.int i0), .val (.int i1), .val (.ref b1), .val (.ref c3), .val (.int (3 : Int32)), .val (.int (1 : Int32)), .val (.ref (ofs i1 c0 c1 c2 c3 c4 c5)), .unset] [(.int (1 : Int32)), (.int (bi ((ofs i1 c0 c1 c2 c3 c4 c5) = c0 ∨ (ofs i1 c0 c1 c2 c3 c4 c5) = c1)))])
      rw [show (bi (q102 = true)) = (1 : Int32) from bi_t (hq102.mpr (by simp only [eq_true c102_169, not_true_eq_false, not_false_eq_true, and_true, true_and, and_false, false_and, or_true, true_or, or_false, false_or, and_self, or_self]))] at j102
      exact j102
    · refine Go.step (fun t k => XS.icmpNo X166.here hx rfl (hb hby at_102) rfl (feq c102_169).1 k) ?_
      show Go _ _ _ _ _ _ _ T166 (mkF m 105 #[.val (.int i0), .val (.int i1), .val (.ref b1), .val (.ref c3), .val (.int (3 : Int32)), .val (.int (1 : Int32)), .val (.ref (ofs i1 c0 c1 c2 c3 c4 c5)), .unset] [(.int (bi ((ofs i1 c0 c1 c2 c3 c4 c5) = c0 ∨ (ofs i1 c0 c1 c2 c3 c4 c5) = c1)))])
      refine Go.step (fun t k => XS.iloadN X166.here hx rfl (hb hby at_105) rfl k) ?_
      show Go _ _ _ _ _ _ _ T166 (mkF m 106 #[.val (.int i0), .val (.int i1), .val (.ref b1), .val (.ref c3), .val (.int (3 : Int32)), .val (.int (1 : Int32)), .val (.ref (ofs i1 c0 c1 c2 c3 c4 c5)), .unset] [(.int i1), (.int (bi ((ofs i1 c0 c1 c2 c3 c4 c5) = c0 ∨ (ofs i1 c0 c1 c2 c3 c4 c5) = c1)))])
      refine Go.step (fun t k => XS.iconst X166.here hx rfl (hb hby at_106) k) ?_
      show Go _ _ _ _ _ _ _ T166 (mkF m 107 #[.val (.int i0), .val (.int i1), .val (.ref b1), .val (.ref c3), .val (.int (3 : Int32)), .val (.int (1 : Int32)), .val (.ref (ofs i1 c0 c1 c2 c3 c4 c5)), .unset] [(.int (5 : Int32)), (.int i1), (.int (bi ((ofs i1 c0 c1 c2 c3 c4 c5) = c0 ∨ (ofs i1 c0 c1 c2 c3 c4 c5) = c1)))])
      by_cases c107_170 : i1 = (5 : Int32)
      · refine Go.step (fun t k => XS.icmpNo X166.here hx rfl (hb hby at_107) rfl (teq c107_170).2 k) ?_
        show Go _ _ _ _ _ _ _ T166 (mkF m 110 #[.val (.int i0), .val (.int i1), .val (.ref b1), .val (.ref c3), .val (.int (3 : Int32)), .val (.int (1 : Int32)), .val (.ref (ofs i1 c0 c1 c2 c3 c4 c5)), .unset] [(.int (bi ((ofs i1 c0 c1 c2 c3 c4 c5) = c0 ∨ (ofs i1 c0 c1 c2 c3 c4 c5) = c1)))])
        refine Go.step (fun t k => XS.iconst X166.here hx rfl (hb hby at_110) k) ?_
        show Go _ _ _ _ _ _ _ T166 (mkF m 111 #[.val (.int i0), .val (.int i1), .val (.ref b1), .val (.ref c3), .val (.int (3 : Int32)), .val (.int (1 : Int32)), .val (.ref (ofs i1 c0 c1 c2 c3 c4 c5)), .unset] [(.int (1 : Int32)), (.int (bi ((ofs i1 c0 c1 c2 c3 c4 c5) = c0 ∨ (ofs i1 c0 c1 c2 c3 c4 c5) = c1)))])
        refine Go.step (fun t k => XS.goto X166.here hx rfl (pc0 := 111) (pc' := 115) rfl (hb hby at_111) (by decide) (by decide) k) ?_
        show Go _ _ _ _ _ _ _ T166 (mkF m 115 #[.val (.int i0), .val (.int i1), .val (.ref b1), .val (.ref c3), .val (.int (3 : Int32)), .val (.int (1 : Int32)), .val (.ref (ofs i1 c0 c1 c2 c3 c4 c5)), .unset] [(.int (1 : Int32)), (.int (bi ((ofs i1 c0 c1 c2 c3 c4 c5) = c0 ∨ (ofs i1 c0 c1 c2 c3 c4 c5) = c1)))])
        rw [show (bi (q102 = true)) = (1 : Int32) from bi_t (hq102.mpr (by simp only [eq_false c102_169, eq_true c107_170, not_true_eq_false, not_false_eq_true, and_true, true_and, and_false, false_and, or_true, true_or, or_false, false_or, and_self, or_self]))] at j102
        exact j102
      · refine Go.step (fun t k => XS.icmpYes X166.here hx rfl (pc0 := 107) (pc' := 114) rfl (hb hby at_107) rfl (feq c107_170).2 (by decide) (by decide) k) ?_
        show Go _ _ _ _ _ _ _ T166 (mkF m 114 #[.val (.int i0), .val (.int i1), .val (.ref b1), .val (.ref c3), .val (.int (3 : Int32)), .val (.int (1 : Int32)), .val (.ref (ofs i1 c0 c1 c2 c3 c4 c5)), .unset] [(.int (bi ((ofs i1 c0 c1 c2 c3 c4 c5) = c0 ∨ (ofs i1 c0 c1 c2 c3 c4 c5) = c1)))])
        refine Go.step (fun t k => XS.iconst X166.here hx rfl (hb hby at_114) k) ?_
        show Go _ _ _ _ _ _ _ T166 (mkF m 115 #[.val (.int i0), .val (.int i1), .val (.ref b1), .val (.ref c3), .val (.int (3 : Int32)), .val (.int (1 : Int32)), .val (.ref (ofs i1 c0 c1 c2 c3 c4 c5)), .unset] [(.int (0 : Int32)), (.int (bi ((ofs i1 c0 c1 c2 c3 c4 c5) = c0 ∨ (ofs i1 c0 c1 c2 c3 c4 c5) = c1)))])
        rw [show (bi (q102 = true)) = (0 : Int32) from bi_f (mt hq102.mp (by simp only [eq_false c102_169, eq_false c107_170, not_true_eq_false, not_false_eq_true, and_true, true_and, and_false, false_and, or_true, true_or, or_false, false_or, and_self, or_self]))] at j102
        exact j102
  · show Go _ _ _ _ _ _ _ T28 (mkF m 50 #[.val (.int i0), .val (.int i1), .val (.ref b1), .unset, .unset, .unset, .unset, .unset] [(.int (4 : Int32)), (.ref b1)])
    refine Go.step (a_rload X28 hx hZ e28 V28 rfl (k := 4) (by decide) (by decide) (v := (.ref c4)) rfl (hb hby at_50)) ?_
    show Go _ _ _ _ _ _ _ T28 (mkF m 51 #[.val (.int i0), .val (.int i1), .val (.ref b1), .unset, .unset, .unset, .unset, .unset] [(.ref c4)])
    refine Go.step (fun t k => XS.astoreN X28.here hx rfl (hb hby at_51) rfl rfl (l' := #[.val (.int i0), .val (.int i1), .val (.ref b1), .val (.ref c4), .unset, .unset, .unset, .unset]) rfl k) ?_
    show Go _ _ _ _ _ _ _ T28 (mkF m 52 #[.val (.int i0), .val (.int i1), .val (.ref b1), .val (.ref c4), .unset, .unset, .unset, .unset] [])
    refine Go.step (fun t k => XS.aloadN X28.here hx rfl (hb hby at_52) rfl rfl k) ?_
    show Go _ _ _ _ _ _ _ T28 (mkF m 53 #[.val (.int i0), .val (.int i1), .val (.ref b1), .val (.ref c4), .unset, .unset, .unset, .unset] [(.ref c4)])
    have f172 := (Fld.other W28 (Fld.other W23 (Fld.other W18 (Fld.other W13 (Fld.other W8 (Fld.other W4 (Fld.ext E1 Fc4) (Or.inl ne_c4_b1)) (Or.inl ne_c4_b1)) (Or.inl ne_c4_b1)) (Or.inl ne_c4_b1)) (Or.inl ne_c4_b1)) (Or.inl ne_c4_b1))
    have f173 := (Exa.wr W28 (Exa.wr W23 f25))
    obtain ⟨v171, T171, L171, X171, q171, st171⟩ := c_virt X28 hx hZ hown (y' := (⟨"com/example/bearer/bearer/model/Registration", "stat", "()I"⟩ : MethodName)) (y := (⟨"com/example/bearer/bearer/model/Registration", "stat", "()I"⟩ : MethodName)) (C := "com/example/bearer/bearer/model/Registration") (hw _ (List.mem_of_getElem? (i := 17) rfl)) (hw _ (List.mem_of_getElem? (i := 18) rfl)) (notFace_of_selects (args := #[]) (mvT hZ (hw _ (List.mem_of_getElem? (i := 20) rfl)))) (hw _ (List.mem_of_getElem? (i := 20) rfl)) (hw _ (List.mem_of_getElem? (i := 19) rfl)) (hw _ (List.mem_of_getElem? (i := 3) rfl)) (hw _ (List.mem_of_getElem? (i := 21) rfl)) (by decide) (a := c4) (argsL := []) (rest := []) (rmS l Z a0 hw [] c4 (0 : Int32) h28 n0 Z28 f172) e28 f173 pd_1 rfl (by rw [hml]; rfl) (W := 0) (by show 2 * 0 + _ ≤ _; exact Nat.le_of_eq rfl) (by decide) (by decide) (by decide) (by decide) (hb hby at_53) (Ls := #[.val (.int i0), .val (.int i1), .val (.ref b1), .val (.ref c4), .unset, .unset, .unset, .unset])
    obtain ⟨rfl, rfl, e171⟩ := q171
    have N171 := Fr.app N28 (Fr.nil n0)
    refine Go.step (st171) ?_
    show Go _ _ _ _ _ _ _ T171 (mkF m 56 #[.val (.int i0), .val (.int i1), .val (.ref b1), .val (.ref c4), .unset, .unset, .unset, .unset] [(.int (0 : Int32))])
    refine Go.step (fun t k => XS.istore X171.here hx rfl (hb hby at_56) rfl (l' := #[.val (.int i0), .val (.int i1), .val (.ref b1), .val (.ref c4), .val (.int (0 : Int32)), .unset, .unset, .unset]) rfl k) ?_
    show Go _ _ _ _ _ _ _ T171 (mkF m 58 #[.val (.int i0), .val (.int i1), .val (.ref b1), .val (.ref c4), .val (.int (0 : Int32)), .unset, .unset, .unset] [])
    refine Go.step (fun t k => XS.aloadN X171.here hx rfl (hb hby at_58) rfl rfl k) ?_
    show Go _ _ _ _ _ _ _ T171 (mkF m 59 #[.val (.int i0), .val (.int i1), .val (.ref b1), .val (.ref c4), .val (.int (0 : Int32)), .unset, .unset, .unset] [(.ref c4)])
    have f175 := (Sta.wr W28 (Sta.wr W23 (Sta.wr W18 (Sta.wr W13 (Sta.wr W8 (Sta.wr W4 f3))))))
    have f176 := (Sta.wr W28 (Sta.wr W23 (Sta.wr W18 (Sta.wr W13 (Sta.wr W8 f7)))))
    obtain ⟨v174, T174, L174, X174, q174, st174⟩ := c_virt X171 hx hZ hown (y' := (⟨"com/example/bearer/bearer/model/Registration", "isRegistered", "()Z"⟩ : MethodName)) (y := (⟨"com/example/bearer/bearer/model/Registration", "isRegistered", "()Z"⟩ : MethodName)) (C := "com/example/bearer/bearer/model/Registration") (hw _ (List.mem_of_getElem? (i := 24) rfl)) (hw _ (List.mem_of_getElem? (i := 25) rfl)) (notFace_of_selects (args := #[]) (mvT hZ (hw _ (List.mem_of_getElem? (i := 27) rfl)))) (hw _ (List.mem_of_getElem? (i := 27) rfl)) (hw _ (List.mem_of_getElem? (i := 26) rfl)) (hw _ (List.mem_of_getElem? (i := 3) rfl)) (hw _ (List.mem_of_getElem? (i := 28) rfl)) (by decide) (a := c4) (argsL := []) (rest := []) (rmR l Z a0 hw [] c4 c0 c1 h28 n0 Z28 f175 f176) e171 f173 pd_2 rfl (by rw [hml]; rfl) (W := 0) (by show 2 * 0 + _ ≤ _; exact Nat.le_of_eq rfl) (by decide) (by decide) (by decide) (by decide) (hb hby at_59) (Ls := #[.val (.int i0), .val (.int i1), .val (.ref b1), .val (.ref c4), .val (.int (0 : Int32)), .unset, .unset, .unset])
    obtain ⟨rfl, rfl, e174⟩ := q174
    have N174 := Fr.app N171 (Fr.nil n0)
    refine Go.step (st174) ?_
    show Go _ _ _ _ _ _ _ T174 (mkF m 62 #[.val (.int i0), .val (.int i1), .val (.ref b1), .val (.ref c4), .val (.int (0 : Int32)), .unset, .unset, .unset] [(.int (bi (c4 = c0 ∨ c4 = c1)))])
    rw [bi_f (P := c4 = c0 ∨ c4 = c1) (fun q => q.elim (Ne.symm n04) (Ne.symm n14))]
    show Go _ _ _ _ _ _ _ T174 (mkF m 62 #[.val (.int i0), .val (.int i1), .val (.ref b1), .val (.ref c4), .val (.int (0 : Int32)), .unset, .unset, .unset] [(.int (0 : Int32))])
    refine Go.step (fun t k => XS.iload X174.here hx rfl (hb hby at_62) rfl k) ?_
    show Go _ _ _ _ _ _ _ T174 (mkF m 64 #[.val (.int i0), .val (.int i1), .val (.ref b1), .val (.ref c4), .val (.int (0 : Int32)), .unset, .unset, .unset] [(.int (0 : Int32)), (.int (0 : Int32))])
    refine Go.step (fun t k => XS.iconst X174.here hx rfl (hb hby at_64) k) ?_
    show Go _ _ _ _ _ _ _ T174 (mkF m 65 #[.val (.int i0), .val (.int i1), .val (.ref b1), .val (.ref c4), .val (.int (0 : Int32)), .unset, .unset, .unset] [(.int (1 : Int32)), (.int (0 : Int32)), (.int (0 : Int32))])
    refine Go.step (fun t k => XS.icmpNo X174.here hx rfl (hb hby at_65) rfl (feq (by decide)).1 k) ?_
    show Go _ _ _ _ _ _ _ T174 (mkF m 68 #[.val (.int i0), .val (.int i1), .val (.ref b1), .val (.ref c4), .val (.int (0 : Int32)), .unset, .unset, .unset] [(.int (0 : Int32))])
    refine Go.step (fun t k => XS.iload X174.here hx rfl (hb hby at_68) rfl k) ?_
    show Go _ _ _ _ _ _ _ T174 (mkF m 70 #[.val (.int i0), .val (.int i1), .val (.ref b1), .val (.ref c4), .val (.int (0 : Int32)), .unset, .unset, .unset] [(.int (0 : Int32)), (.int (0 : Int32))])
    refine Go.step (fun t k => XS.iconst X174.here hx rfl (hb hby at_70) k) ?_
    show Go _ _ _ _ _ _ _ T174 (mkF m 71 #[.val (.int i0), .val (.int i1), .val (.ref b1), .val (.ref c4), .val (.int (0 : Int32)), .unset, .unset, .unset] [(.int (5 : Int32)), (.int (0 : Int32)), (.int (0 : Int32))])
    refine Go.step (fun t k => XS.icmpYes X174.here hx rfl (pc0 := 71) (pc' := 78) rfl (hb hby at_71) rfl (feq (by decide)).2 (by decide) (by decide) k) ?_
    show Go _ _ _ _ _ _ _ T174 (mkF m 78 #[.val (.int i0), .val (.int i1), .val (.ref b1), .val (.ref c4), .val (.int (0 : Int32)), .unset, .unset, .unset] [(.int (0 : Int32))])
    refine Go.step (fun t k => XS.iconst X174.here hx rfl (hb hby at_78) k) ?_
    show Go _ _ _ _ _ _ _ T174 (mkF m 79 #[.val (.int i0), .val (.int i1), .val (.ref b1), .val (.ref c4), .val (.int (0 : Int32)), .unset, .unset, .unset] [(.int (0 : Int32)), (.int (0 : Int32))])
    refine Go.step (fun t k => XS.icmpNo X174.here hx rfl (hb hby at_79) rfl (teq (by decide)).2 k) ?_
    show Go _ _ _ _ _ _ _ T174 (mkF m 82 #[.val (.int i0), .val (.int i1), .val (.ref b1), .val (.ref c4), .val (.int (0 : Int32)), .unset, .unset, .unset] [])
    refine Go.step (fun t k => XS.iconst X174.here hx rfl (hb hby at_82) k) ?_
    show Go _ _ _ _ _ _ _ T174 (mkF m 83 #[.val (.int i0), .val (.int i1), .val (.ref b1), .val (.ref c4), .val (.int (0 : Int32)), .unset, .unset, .unset] [(.int (1 : Int32))])
    refine Go.step (fun t k => XS.goto X174.here hx rfl (pc0 := 83) (pc' := 87) rfl (hb hby at_83) (by decide) (by decide) k) ?_
    show Go _ _ _ _ _ _ _ T174 (mkF m 87 #[.val (.int i0), .val (.int i1), .val (.ref b1), .val (.ref c4), .val (.int (0 : Int32)), .unset, .unset, .unset] [(.int (1 : Int32))])
    refine Go.step (fun t k => XS.istore X174.here hx rfl (hb hby at_87) rfl (l' := #[.val (.int i0), .val (.int i1), .val (.ref b1), .val (.ref c4), .val (.int (0 : Int32)), .val (.int (1 : Int32)), .unset, .unset]) rfl k) ?_
    show Go _ _ _ _ _ _ _ T174 (mkF m 89 #[.val (.int i0), .val (.int i1), .val (.ref b1), .val (.ref c4), .val (.int (0 : Int32)), .val (.int (1 : Int32)), .unset, .unset] [])
    refine Go.step (fun t k => XS.iloadN X174.here hx rfl (hb hby at_89) rfl k) ?_
    show Go _ _ _ _ _ _ _ T174 (mkF m 90 #[.val (.int i0), .val (.int i1), .val (.ref b1), .val (.ref c4), .val (.int (0 : Int32)), .val (.int (1 : Int32)), .unset, .unset] [(.int i1)])
    have f178 := (Sta.wr W28 (Sta.wr W23 (Sta.wr W18 (Sta.wr W13 f12))))
    have f179 := (Sta.wr W28 (Sta.wr W23 (Sta.wr W18 f17)))
    have f180 := (Sta.wr W28 (Sta.wr W23 f22))
    have f181 := (Sta.wr W28 f27)
    have f182 := (Exa.wr W28 (Exa.wr W23 (Exa.wr W18 (Exa.wr W13 (Exa.wr W8 (Exa.wr W4 f5))))))
    have f183 := (Exa.wr W28 (Exa.wr W23 (Exa.wr W18 (Exa.wr W13 (Exa.wr W8 f10)))))
    have f184 := (Exa.wr W28 (Exa.wr W23 (Exa.wr W18 (Exa.wr W13 f15))))
    have f185 := (Exa.wr W28 (Exa.wr W23 (Exa.wr W18 f20)))
    have f186 := (Exa.wr W28 f30)
    have f187 := (Fld.other W28 (Fld.other W23 (Fld.other W18 (Fld.other W13 (Fld.other W8 (Fld.other W4 (Fld.ext E1 Fc0) (Or.inl ne_c0_b1)) (Or.inl ne_c0_b1)) (Or.inl ne_c0_b1)) (Or.inl ne_c0_b1)) (Or.inl ne_c0_b1)) (Or.inl ne_c0_b1))
    have f188 := (Fld.other W28 (Fld.other W23 (Fld.other W18 (Fld.other W13 (Fld.other W8 (Fld.other W4 (Fld.ext E1 Fc1) (Or.inl ne_c1_b1)) (Or.inl ne_c1_b1)) (Or.inl ne_c1_b1)) (Or.inl ne_c1_b1)) (Or.inl ne_c1_b1)) (Or.inl ne_c1_b1))
    have f189 := (Fld.other W28 (Fld.other W23 (Fld.other W18 (Fld.other W13 (Fld.other W8 (Fld.other W4 (Fld.ext E1 Fc2) (Or.inl ne_c2_b1)) (Or.inl ne_c2_b1)) (Or.inl ne_c2_b1)) (Or.inl ne_c2_b1)) (Or.inl ne_c2_b1)) (Or.inl ne_c2_b1))
    have f190 := (Fld.other W28 (Fld.other W23 (Fld.other W18 (Fld.other W13 (Fld.other W8 (Fld.other W4 (Fld.ext E1 Fc3) (Or.inl ne_c3_b1)) (Or.inl ne_c3_b1)) (Or.inl ne_c3_b1)) (Or.inl ne_c3_b1)) (Or.inl ne_c3_b1)) (Or.inl ne_c3_b1))
    have f191 := (Fld.other W28 (Fld.other W23 (Fld.other W18 (Fld.other W13 (Fld.other W8 (Fld.other W4 (Fld.ext E1 Fc5) (Or.inl ne_c5_b1)) (Or.inl ne_c5_b1)) (Or.inl ne_c5_b1)) (Or.inl ne_c5_b1)) (Or.inl ne_c5_b1)) (Or.inl ne_c5_b1))
    have f192 := (Sta.wr W28 (Sta.wr W23 (Sta.wr W18 (Sta.wr W13 (Sta.wr W8 (Sta.wr W4 (Sta.ext E1 SV)))))))
    have f193 := (Exa.wr W28 (Exa.wr W23 (Exa.wr W18 (Exa.wr W13 (Exa.wr W8 (Exa.wr W4 (Exa.ext E1 EV)))))))
    have f194 := (((((((VV.ext E1).other W4 ne_va_b1).other W8 ne_va_b1).other W13 ne_va_b1).other W18 ne_va_b1).other W23 ne_va_b1).other W28 ne_va_b1)
    obtain ⟨v177, T177, L177, X177, q177, st177⟩ := c_static X174 hx hZ hown (y := (⟨"com/example/bearer/bearer/model/Registration", "ofStat", "(I)Lcom/example/bearer/bearer/model/Registration;"⟩ : MethodName)) (hw _ (List.mem_of_getElem? (i := 30) rfl)) (hw _ (List.mem_of_getElem? (i := 31) rfl)) (hw _ (List.mem_of_getElem? (i := 3) rfl)) (hw _ (List.mem_of_getElem? (i := 32) rfl)) (by decide) (argsL := [(.int i1)]) (rest := []) (rmO l Z a0 hw [] i1 c0 c1 c2 c3 c4 c5 va h28 n0 Z28 f175 f176 f178 f179 f180 f181 f182 f183 f184 f185 f173 f186 f187 f188 f189 f190 f172 f191 f192 f193 f194) e174 pd_3 rfl (by rw [hml]; rfl) (W := 0) (by show 2 * 0 + _ ≤ _; exact Nat.le_of_eq rfl) (by decide) (by decide) (by decide) (by decide) (hb hby at_90) (Ls := #[.val (.int i0), .val (.int i1), .val (.ref b1), .val (.ref c4), .val (.int (0 : Int32)), .val (.int (1 : Int32)), .unset, .unset])
    generalize e177 : T177.heap = h177 at q177
    obtain ⟨rfl, N177q, K177q⟩ := q177
    have N177 := Fr.app N174 N177q
    have Z177 : n0 ≤ h177.size := Nat.le_trans Z28 K177q.1
    have f195 := (f182.keep K177q)
    have f196 := (f183.keep K177q)
    have f197 := (f184.keep K177q)
    have f198 := (f185.keep K177q)
    have f199 := (f173.keep K177q)
    have f200 := (f186.keep K177q)
    refine Go.step (st177) ?_
    show Go _ _ _ _ _ _ _ T177 (mkF m 93 #[.val (.int i0), .val (.int i1), .val (.ref b1), .val (.ref c4), .val (.int (0 : Int32)), .val (.int (1 : Int32)), .unset, .unset] [(.ref (ofs i1 c0 c1 c2 c3 c4 c5))])
    refine Go.step (fun t k => XS.astore X177.here hx rfl (hb hby at_93) rfl rfl (l' := #[.val (.int i0), .val (.int i1), .val (.ref b1), .val (.ref c4), .val (.int (0 : Int32)), .val (.int (1 : Int32)), .val (.ref (ofs i1 c0 c1 c2 c3 c4 c5)), .unset]) rfl k) ?_
    show Go _ _ _ _ _ _ _ T177 (mkF m 95 #[.val (.int i0), .val (.int i1), .val (.ref b1), .val (.ref c4), .val (.int (0 : Int32)), .val (.int (1 : Int32)), .val (.ref (ofs i1 c0 c1 c2 c3 c4 c5)), .unset] [])
    refine Go.step (fun t k => XS.aload X177.here hx rfl (hb hby at_95) rfl rfl k) ?_
    show Go _ _ _ _ _ _ _ T177 (mkF m 97 #[.val (.int i0), .val (.int i1), .val (.ref b1), .val (.ref c4), .val (.int (0 : Int32)), .val (.int (1 : Int32)), .val (.ref (ofs i1 c0 c1 c2 c3 c4 c5)), .unset] [(.ref (ofs i1 c0 c1 c2 c3 c4 c5))])
    have f202 := (own_sta_keep f175 K177q)
    have f203 := (own_sta_keep f176 K177q)
    obtain ⟨v201, T201, L201, X201, q201, st201⟩ := c_virt X177 hx hZ hown (y' := (⟨"com/example/bearer/bearer/model/Registration", "isRegistered", "()Z"⟩ : MethodName)) (y := (⟨"com/example/bearer/bearer/model/Registration", "isRegistered", "()Z"⟩ : MethodName)) (C := "com/example/bearer/bearer/model/Registration") (hw _ (List.mem_of_getElem? (i := 24) rfl)) (hw _ (List.mem_of_getElem? (i := 25) rfl)) (notFace_of_selects (args := #[]) (mvT hZ (hw _ (List.mem_of_getElem? (i := 27) rfl)))) (hw _ (List.mem_of_getElem? (i := 27) rfl)) (hw _ (List.mem_of_getElem? (i := 26) rfl)) (hw _ (List.mem_of_getElem? (i := 3) rfl)) (hw _ (List.mem_of_getElem? (i := 28) rfl)) (by decide) (a := (ofs i1 c0 c1 c2 c3 c4 c5)) (argsL := []) (rest := []) (rmR l Z a0 hw [] (ofs i1 c0 c1 c2 c3 c4 c5) c0 c1 h177 n0 Z177 f202 f203) e177 (own_sel (P := fun c => Exa Z h177 c "com/example/bearer/bearer/model/Registration") f195 f196 f197 f198 f199 f200) pd_2 rfl (by rw [hml]; rfl) (W := 0) (by show 2 * 0 + _ ≤ _; exact Nat.le_of_eq rfl) (by decide) (by decide) (by decide) (by decide) (hb hby at_97) (Ls := #[.val (.int i0), .val (.int i1), .val (.ref b1), .val (.ref c4), .val (.int (0 : Int32)), .val (.int (1 : Int32)), .val (.ref (ofs i1 c0 c1 c2 c3 c4 c5)), .unset])
    obtain ⟨rfl, rfl, e201⟩ := q201
    have N201 := Fr.app N177 (Fr.nil n0)
    refine Go.step (st201) ?_
    show Go _ _ _ _ _ _ _ T201 (mkF m 100 #[.val (.int i0), .val (.int i1), .val (.ref b1), .val (.ref c4), .val (.int (0 : Int32)), .val (.int (1 : Int32)), .val (.ref (ofs i1 c0 c1 c2 c3 c4 c5)), .unset] [(.int (bi ((ofs i1 c0 c1 c2 c3 c4 c5) = c0 ∨ (ofs i1 c0 c1 c2 c3 c4 c5) = c1)))])
    refine Go.step (fun t k => XS.iloadN X201.here hx rfl (hb hby at_100) rfl k) ?_
    show Go _ _ _ _ _ _ _ T201 (mkF m 101 #[.val (.int i0), .val (.int i1), .val (.ref b1), .val (.ref c4), .val (.int (0 : Int32)), .val (.int (1 : Int32)), .val (.ref (ofs i1 c0 c1 c2 c3 c4 c5)), .unset] [(.int i1), (.int (bi ((ofs i1 c0 c1 c2 c3 c4 c5) = c0 ∨ (ofs i1 c0 c1 c2 c3 c4 c5) = c1)))])
    refine Go.step (fun t k => XS.iconst X201.here hx rfl (hb hby at_101) k) ?_
    show Go _ _ _ _ _ _ _ T201 (mkF m 102 #[.val (.int i0), .val (.int i1), .val (.ref b1), .val (.ref c4), .val (.int (0 : Int32)), .val (.int (1 : Int32)), .val (.ref (ofs i1 c0 c1 c2 c3 c4 c5)), .unset] [(.int (1 : Int32)), (.int i1), (.int (bi ((ofs i1 c0 c1 c2 c3 c4 c5) = c0 ∨ (ofs i1 c0 c1 c2 c3 c4 c5) = c1)))])
    obtain ⟨q102, hq102⟩ : ∃ q : Bool, q = true ↔ ((i1 = (1 : Int32)) ∨ (i1 = (5 : Int32))) := ⟨decide ((i1 = (1 : Int32)) ∨ (i1 = (5 : Int32))), decide_eq_true_iff⟩
    have j102 : Go p e s below 16 128 (fun v h L => v = some (.int (1 : Int32)) ∧ Fr n0 L) T201 (mkF m 115 #[.val (.int i0), .val (.int i1), .val (.ref b1), .val (.ref c4), .val (.int (0 : Int32)), .val (.int (1 : Int32)), .val (.ref (ofs i1 c0 c1 c2 c3 c4 c5)), .unset] [(.int (bi (q102 = true))), (.int (bi ((ofs i1 c0 c1 c2 c3 c4 c5) = c0 ∨ (ofs i1 c0 c1 c2 c3 c4 c5) = c1)))]) := by
      refine Go.step (fun t k => XS.icmpNo X201.here hx rfl (hb hby at_115) rfl (teq (bi_congr ((own_reg n02 n03 n04 n05 n12 n13 n14 n15).trans hq102.symm))).2 k) ?_
      show Go _ _ _ _ _ _ _ T201 (mkF m 118 #[.val (.int i0), .val (.int i1), .val (.ref b1), .val (.ref c4), .val (.int (0 : Int32)), .val (.int (1 : Int32)), .val (.ref (ofs i1 c0 c1 c2 c3 c4 c5)), .unset] [])
      refine Go.step (fun t k => XS.iconst X201.here hx rfl (hb hby at_118) k) ?_
      show Go _ _ _ _ _ _ _ T201 (mkF m 119 #[.val (.int i0), .val (.int i1), .val (.ref b1), .val (.ref c4), .val (.int (0 : Int32)), .val (.int (1 : Int32)), .val (.ref (ofs i1 c0 c1 c2 c3 c4 c5)), .unset] [(.int (1 : Int32))])
      refine Go.step (fun t k => XS.goto X201.here hx rfl (pc0 := 119) (pc' := 123) rfl (hb hby at_119) (by decide) (by decide) k) ?_
      show Go _ _ _ _ _ _ _ T201 (mkF m 123 #[.val (.int i0), .val (.int i1), .val (.ref b1), .val (.ref c4), .val (.int (0 : Int32)), .val (.int (1 : Int32)), .val (.ref (ofs i1 c0 c1 c2 c3 c4 c5)), .unset] [(.int (1 : Int32))])
      refine Go.step (fun t k => XS.istore X201.here hx rfl (hb hby at_123) rfl (l' := #[.val (.int i0), .val (.int i1), .val (.ref b1), .val (.ref c4), .val (.int (0 : Int32)), .val (.int (1 : Int32)), .val (.ref (ofs i1 c0 c1 c2 c3 c4 c5)), .val (.int (1 : Int32))]) rfl k) ?_
      show Go _ _ _ _ _ _ _ T201 (mkF m 125 #[.val (.int i0), .val (.int i1), .val (.ref b1), .val (.ref c4), .val (.int (0 : Int32)), .val (.int (1 : Int32)), .val (.ref (ofs i1 c0 c1 c2 c3 c4 c5)), .val (.int (1 : Int32))] [])
      refine Go.step (fun t k => XS.iload X201.here hx rfl (hb hby at_125) rfl k) ?_
      show Go _ _ _ _ _ _ _ T201 (mkF m 127 #[.val (.int i0), .val (.int i1), .val (.ref b1), .val (.ref c4), .val (.int (0 : Int32)), .val (.int (1 : Int32)), .val (.ref (ofs i1 c0 c1 c2 c3 c4 c5)), .val (.int (1 : Int32))] [(.int (1 : Int32))])
      refine Go.step (fun t k => XS.ifNo X201.here hx rfl (hb hby at_127) rfl ((if0 _ _).trans (feq (by decide)).1) k) ?_
      show Go _ _ _ _ _ _ _ T201 (mkF m 130 #[.val (.int i0), .val (.int i1), .val (.ref b1), .val (.ref c4), .val (.int (0 : Int32)), .val (.int (1 : Int32)), .val (.ref (ofs i1 c0 c1 c2 c3 c4 c5)), .val (.int (1 : Int32))] [])
      refine Go.step (fun t k => XS.iload X201.here hx rfl (hb hby at_130) rfl k) ?_
      show Go _ _ _ _ _ _ _ T201 (mkF m 132 #[.val (.int i0), .val (.int i1), .val (.ref b1), .val (.ref c4), .val (.int (0 : Int32)), .val (.int (1 : Int32)), .val (.ref (ofs i1 c0 c1 c2 c3 c4 c5)), .val (.int (1 : Int32))] [(.int (1 : Int32))])
      refine Go.step (fun t k => XS.ifNo X201.here hx rfl (hb hby at_132) rfl ((if0 _ _).trans (feq (by decide)).1) k) ?_
      show Go _ _ _ _ _ _ _ T201 (mkF m 135 #[.val (.int i0), .val (.int i1), .val (.ref b1), .val (.ref c4), .val (.int (0 : Int32)), .val (.int (1 : Int32)), .val (.ref (ofs i1 c0 c1 c2 c3 c4 c5)), .val (.int (1 : Int32))] [])
      refine Go.step (fun t k => XS.iconst X201.here hx rfl (hb hby at_135) k) ?_
      show Go _ _ _ _ _ _ _ T201 (mkF m 136 #[.val (.int i0), .val (.int i1), .val (.ref b1), .val (.ref c4), .val (.int (0 : Int32)), .val (.int (1 : Int32)), .val (.ref (ofs i1 c0 c1 c2 c3 c4 c5)), .val (.int (1 : Int32))] [(.int (1 : Int32))])
      refine Go.step (fun t k => XS.goto X201.here hx rfl (pc0 := 136) (pc' := 140) rfl (hb hby at_136) (by decide) (by decide) k) ?_
      show Go _ _ _ _ _ _ _ T201 (mkF m 140 #[.val (.int i0), .val (.int i1), .val (.ref b1), .val (.ref c4), .val (.int (0 : Int32)), .val (.int (1 : Int32)), .val (.ref (ofs i1 c0 c1 c2 c3 c4 c5)), .val (.int (1 : Int32))] [(.int (1 : Int32))])
      refine go_retN X201 hx (t := .boolean) hret (by simp) hlk (hb hby at_140) (w := (1 : Int32)) rfl ?_ (by decide) (by decide)
      try rw [e201]
      exact ⟨rfl, N201⟩
    by_cases c102_204 : i1 = (1 : Int32)
    · refine Go.step (fun t k => XS.icmpYes X201.here hx rfl (pc0 := 102) (pc' := 110) rfl (hb hby at_102) rfl (teq c102_204).1 (by decide) (by decide) k) ?_
      show Go _ _ _ _ _ _ _ T201 (mkF m 110 #[.val (.int i0), .val (.int i1), .val (.ref b1), .val (.ref c4), .val (.int (0 : Int32)), .val (.int (1 : Int32)), .val (.ref (ofs i1 c0 c1 c2 c3 c4 c5)), .unset] [(.int (bi ((ofs i1 c0 c1 c2 c3 c4 c5) = c0 ∨ (ofs i1 c0 c1 c2 c3 c4 c5) = c1)))])
      refine Go.step (fun t k => XS.iconst X201.here hx rfl (hb hby at_110) k) ?_
      show Go _ _ _ _ _ _ _ T201 (mkF m 111 #[.val (.int i0), .val (.int i1), .val (.ref b1), .val (.ref c4), .val (.int (0 : Int32)), .val (.int (1 : Int32)), .val (.ref (ofs i1 c0 c1 c2 c3 c4 c5)), .unset] [(.int (1 : Int32)), (.int (bi ((ofs i1 c0 c1 c2 c3 c4 c5) = c0 ∨ (ofs i1 c0 c1 c2 c3 c4 c5) = c1)))])
      refine Go.step (fun t k => XS.goto X201.here hx rfl (pc0 := 111) (pc' := 115) rfl (hb hby at_111) (by decide) (by decide) k) ?_
      show Go _ _ _ _ _ _ _ T201 (mkF m 115 #[.val (.int i0), .val (.int i1), .val (.ref b1), .val (.ref c4), .val (.int (0 : Int32)), .val (.int (1 : Int32)), .val (.ref (ofs i1 c0 c1 c2 c3 c4 c5)), .unset] [(.int (1 : Int32)), (.int (bi ((ofs i1 c0 c1 c2 c3 c4 c5) = c0 ∨ (ofs i1 c0 c1 c2 c3 c4 c5) = c1)))])
      rw [show (bi (q102 = true)) = (1 : Int32) from bi_t (hq102.mpr (by simp only [eq_true c102_204, not_true_eq_false, not_false_eq_true, and_true, true_and, and_false, false_and, or_true, true_or, or_false, false_or, and_self, or_self]))] at j102
      exact j102
    · refine Go.step (fun t k => XS.icmpNo X201.here hx rfl (hb hby at_102) rfl (feq c102_204).1 k) ?_
      show Go _ _ _ _ _ _ _ T201 (mkF m 105 #[.val (.int i0), .val (.int i1), .val (.ref b1), .val (.ref c4), .val (.int (0 : Int32)), .val (.int (1 : Int32)), .val (.ref (ofs i1 c0 c1 c2 c3 c4 c5)), .unset] [(.int (bi ((ofs i1 c0 c1 c2 c3 c4 c5) = c0 ∨ (ofs i1 c0 c1 c2 c3 c4 c5) = c1)))])
      refine Go.step (fun t k => XS.iloadN X201.here hx rfl (hb hby at_105) rfl k) ?_
      show Go _ _ _ _ _ _ _ T201 (mkF m 106 #[.val (.int i0), .val (.int i1), .val (.ref b1), .val (.ref c4), .val (.int (0 : Int32)), .val (.int (1 : Int32)), .val (.ref (ofs i1 c0 c1 c2 c3 c4 c5)), .unset] [(.int i1), (.int (bi ((ofs i1 c0 c1 c2 c3 c4 c5) = c0 ∨ (ofs i1 c0 c1 c2 c3 c4 c5) = c1)))])
      refine Go.step (fun t k => XS.iconst X201.here hx rfl (hb hby at_106) k) ?_
      show Go _ _ _ _ _ _ _ T201 (mkF m 107 #[.val (.int i0), .val (.int i1), .val (.ref b1), .val (.ref c4), .val (.int (0 : Int32)), .val (.int (1 : Int32)), .val (.ref (ofs i1 c0 c1 c2 c3 c4 c5)), .unset] [(.int (5 : Int32)), (.int i1), (.int (bi ((ofs i1 c0 c1 c2 c3 c4 c5) = c0 ∨ (ofs i1 c0 c1 c2 c3 c4 c5) = c1)))])
      by_cases c107_205 : i1 = (5 : Int32)
      · refine Go.step (fun t k => XS.icmpNo X201.here hx rfl (hb hby at_107) rfl (teq c107_205).2 k) ?_
        show Go _ _ _ _ _ _ _ T201 (mkF m 110 #[.val (.int i0), .val (.int i1), .val (.ref b1), .val (.ref c4), .val (.int (0 : Int32)), .val (.int (1 : Int32)), .val (.ref (ofs i1 c0 c1 c2 c3 c4 c5)), .unset] [(.int (bi ((ofs i1 c0 c1 c2 c3 c4 c5) = c0 ∨ (ofs i1 c0 c1 c2 c3 c4 c5) = c1)))])
        refine Go.step (fun t k => XS.iconst X201.here hx rfl (hb hby at_110) k) ?_
        show Go _ _ _ _ _ _ _ T201 (mkF m 111 #[.val (.int i0), .val (.int i1), .val (.ref b1), .val (.ref c4), .val (.int (0 : Int32)), .val (.int (1 : Int32)), .val (.ref (ofs i1 c0 c1 c2 c3 c4 c5)), .unset] [(.int (1 : Int32)), (.int (bi ((ofs i1 c0 c1 c2 c3 c4 c5) = c0 ∨ (ofs i1 c0 c1 c2 c3 c4 c5) = c1)))])
        refine Go.step (fun t k => XS.goto X201.here hx rfl (pc0 := 111) (pc' := 115) rfl (hb hby at_111) (by decide) (by decide) k) ?_
        show Go _ _ _ _ _ _ _ T201 (mkF m 115 #[.val (.int i0), .val (.int i1), .val (.ref b1), .val (.ref c4), .val (.int (0 : Int32)), .val (.int (1 : Int32)), .val (.ref (ofs i1 c0 c1 c2 c3 c4 c5)), .unset] [(.int (1 : Int32)), (.int (bi ((ofs i1 c0 c1 c2 c3 c4 c5) = c0 ∨ (ofs i1 c0 c1 c2 c3 c4 c5) = c1)))])
        rw [show (bi (q102 = true)) = (1 : Int32) from bi_t (hq102.mpr (by simp only [eq_false c102_204, eq_true c107_205, not_true_eq_false, not_false_eq_true, and_true, true_and, and_false, false_and, or_true, true_or, or_false, false_or, and_self, or_self]))] at j102
        exact j102
      · refine Go.step (fun t k => XS.icmpYes X201.here hx rfl (pc0 := 107) (pc' := 114) rfl (hb hby at_107) rfl (feq c107_205).2 (by decide) (by decide) k) ?_
        show Go _ _ _ _ _ _ _ T201 (mkF m 114 #[.val (.int i0), .val (.int i1), .val (.ref b1), .val (.ref c4), .val (.int (0 : Int32)), .val (.int (1 : Int32)), .val (.ref (ofs i1 c0 c1 c2 c3 c4 c5)), .unset] [(.int (bi ((ofs i1 c0 c1 c2 c3 c4 c5) = c0 ∨ (ofs i1 c0 c1 c2 c3 c4 c5) = c1)))])
        refine Go.step (fun t k => XS.iconst X201.here hx rfl (hb hby at_114) k) ?_
        show Go _ _ _ _ _ _ _ T201 (mkF m 115 #[.val (.int i0), .val (.int i1), .val (.ref b1), .val (.ref c4), .val (.int (0 : Int32)), .val (.int (1 : Int32)), .val (.ref (ofs i1 c0 c1 c2 c3 c4 c5)), .unset] [(.int (0 : Int32)), (.int (bi ((ofs i1 c0 c1 c2 c3 c4 c5) = c0 ∨ (ofs i1 c0 c1 c2 c3 c4 c5) = c1)))])
        rw [show (bi (q102 = true)) = (0 : Int32) from bi_f (mt hq102.mp (by simp only [eq_false c102_204, eq_false c107_205, not_true_eq_false, not_false_eq_true, and_true, true_and, and_false, false_and, or_true, true_or, or_false, false_or, and_self, or_self]))] at j102
        exact j102
  · show Go _ _ _ _ _ _ _ T28 (mkF m 50 #[.val (.int i0), .val (.int i1), .val (.ref b1), .unset, .unset, .unset, .unset, .unset] [(.int (5 : Int32)), (.ref b1)])
    refine Go.step (a_rload X28 hx hZ e28 V28 rfl (k := 5) (by decide) (by decide) (v := (.ref c5)) rfl (hb hby at_50)) ?_
    show Go _ _ _ _ _ _ _ T28 (mkF m 51 #[.val (.int i0), .val (.int i1), .val (.ref b1), .unset, .unset, .unset, .unset, .unset] [(.ref c5)])
    refine Go.step (fun t k => XS.astoreN X28.here hx rfl (hb hby at_51) rfl rfl (l' := #[.val (.int i0), .val (.int i1), .val (.ref b1), .val (.ref c5), .unset, .unset, .unset, .unset]) rfl k) ?_
    show Go _ _ _ _ _ _ _ T28 (mkF m 52 #[.val (.int i0), .val (.int i1), .val (.ref b1), .val (.ref c5), .unset, .unset, .unset, .unset] [])
    refine Go.step (fun t k => XS.aloadN X28.here hx rfl (hb hby at_52) rfl rfl k) ?_
    show Go _ _ _ _ _ _ _ T28 (mkF m 53 #[.val (.int i0), .val (.int i1), .val (.ref b1), .val (.ref c5), .unset, .unset, .unset, .unset] [(.ref c5)])
    have f207 := (Fld.other W28 (Fld.other W23 (Fld.other W18 (Fld.other W13 (Fld.other W8 (Fld.other W4 (Fld.ext E1 Fc5) (Or.inl ne_c5_b1)) (Or.inl ne_c5_b1)) (Or.inl ne_c5_b1)) (Or.inl ne_c5_b1)) (Or.inl ne_c5_b1)) (Or.inl ne_c5_b1))
    have f208 := (Exa.wr W28 f30)
    obtain ⟨v206, T206, L206, X206, q206, st206⟩ := c_virt X28 hx hZ hown (y' := (⟨"com/example/bearer/bearer/model/Registration", "stat", "()I"⟩ : MethodName)) (y := (⟨"com/example/bearer/bearer/model/Registration", "stat", "()I"⟩ : MethodName)) (C := "com/example/bearer/bearer/model/Registration") (hw _ (List.mem_of_getElem? (i := 17) rfl)) (hw _ (List.mem_of_getElem? (i := 18) rfl)) (notFace_of_selects (args := #[]) (mvT hZ (hw _ (List.mem_of_getElem? (i := 20) rfl)))) (hw _ (List.mem_of_getElem? (i := 20) rfl)) (hw _ (List.mem_of_getElem? (i := 19) rfl)) (hw _ (List.mem_of_getElem? (i := 3) rfl)) (hw _ (List.mem_of_getElem? (i := 21) rfl)) (by decide) (a := c5) (argsL := []) (rest := []) (rmS l Z a0 hw [] c5 (4 : Int32) h28 n0 Z28 f207) e28 f208 pd_1 rfl (by rw [hml]; rfl) (W := 0) (by show 2 * 0 + _ ≤ _; exact Nat.le_of_eq rfl) (by decide) (by decide) (by decide) (by decide) (hb hby at_53) (Ls := #[.val (.int i0), .val (.int i1), .val (.ref b1), .val (.ref c5), .unset, .unset, .unset, .unset])
    obtain ⟨rfl, rfl, e206⟩ := q206
    have N206 := Fr.app N28 (Fr.nil n0)
    refine Go.step (st206) ?_
    show Go _ _ _ _ _ _ _ T206 (mkF m 56 #[.val (.int i0), .val (.int i1), .val (.ref b1), .val (.ref c5), .unset, .unset, .unset, .unset] [(.int (4 : Int32))])
    refine Go.step (fun t k => XS.istore X206.here hx rfl (hb hby at_56) rfl (l' := #[.val (.int i0), .val (.int i1), .val (.ref b1), .val (.ref c5), .val (.int (4 : Int32)), .unset, .unset, .unset]) rfl k) ?_
    show Go _ _ _ _ _ _ _ T206 (mkF m 58 #[.val (.int i0), .val (.int i1), .val (.ref b1), .val (.ref c5), .val (.int (4 : Int32)), .unset, .unset, .unset] [])
    refine Go.step (fun t k => XS.aloadN X206.here hx rfl (hb hby at_58) rfl rfl k) ?_
    show Go _ _ _ _ _ _ _ T206 (mkF m 59 #[.val (.int i0), .val (.int i1), .val (.ref b1), .val (.ref c5), .val (.int (4 : Int32)), .unset, .unset, .unset] [(.ref c5)])
    have f210 := (Sta.wr W28 (Sta.wr W23 (Sta.wr W18 (Sta.wr W13 (Sta.wr W8 (Sta.wr W4 f3))))))
    have f211 := (Sta.wr W28 (Sta.wr W23 (Sta.wr W18 (Sta.wr W13 (Sta.wr W8 f7)))))
    obtain ⟨v209, T209, L209, X209, q209, st209⟩ := c_virt X206 hx hZ hown (y' := (⟨"com/example/bearer/bearer/model/Registration", "isRegistered", "()Z"⟩ : MethodName)) (y := (⟨"com/example/bearer/bearer/model/Registration", "isRegistered", "()Z"⟩ : MethodName)) (C := "com/example/bearer/bearer/model/Registration") (hw _ (List.mem_of_getElem? (i := 24) rfl)) (hw _ (List.mem_of_getElem? (i := 25) rfl)) (notFace_of_selects (args := #[]) (mvT hZ (hw _ (List.mem_of_getElem? (i := 27) rfl)))) (hw _ (List.mem_of_getElem? (i := 27) rfl)) (hw _ (List.mem_of_getElem? (i := 26) rfl)) (hw _ (List.mem_of_getElem? (i := 3) rfl)) (hw _ (List.mem_of_getElem? (i := 28) rfl)) (by decide) (a := c5) (argsL := []) (rest := []) (rmR l Z a0 hw [] c5 c0 c1 h28 n0 Z28 f210 f211) e206 f208 pd_2 rfl (by rw [hml]; rfl) (W := 0) (by show 2 * 0 + _ ≤ _; exact Nat.le_of_eq rfl) (by decide) (by decide) (by decide) (by decide) (hb hby at_59) (Ls := #[.val (.int i0), .val (.int i1), .val (.ref b1), .val (.ref c5), .val (.int (4 : Int32)), .unset, .unset, .unset])
    obtain ⟨rfl, rfl, e209⟩ := q209
    have N209 := Fr.app N206 (Fr.nil n0)
    refine Go.step (st209) ?_
    show Go _ _ _ _ _ _ _ T209 (mkF m 62 #[.val (.int i0), .val (.int i1), .val (.ref b1), .val (.ref c5), .val (.int (4 : Int32)), .unset, .unset, .unset] [(.int (bi (c5 = c0 ∨ c5 = c1)))])
    rw [bi_f (P := c5 = c0 ∨ c5 = c1) (fun q => q.elim (Ne.symm n05) (Ne.symm n15))]
    show Go _ _ _ _ _ _ _ T209 (mkF m 62 #[.val (.int i0), .val (.int i1), .val (.ref b1), .val (.ref c5), .val (.int (4 : Int32)), .unset, .unset, .unset] [(.int (0 : Int32))])
    refine Go.step (fun t k => XS.iload X209.here hx rfl (hb hby at_62) rfl k) ?_
    show Go _ _ _ _ _ _ _ T209 (mkF m 64 #[.val (.int i0), .val (.int i1), .val (.ref b1), .val (.ref c5), .val (.int (4 : Int32)), .unset, .unset, .unset] [(.int (4 : Int32)), (.int (0 : Int32))])
    refine Go.step (fun t k => XS.iconst X209.here hx rfl (hb hby at_64) k) ?_
    show Go _ _ _ _ _ _ _ T209 (mkF m 65 #[.val (.int i0), .val (.int i1), .val (.ref b1), .val (.ref c5), .val (.int (4 : Int32)), .unset, .unset, .unset] [(.int (1 : Int32)), (.int (4 : Int32)), (.int (0 : Int32))])
    refine Go.step (fun t k => XS.icmpNo X209.here hx rfl (hb hby at_65) rfl (feq (by decide)).1 k) ?_
    show Go _ _ _ _ _ _ _ T209 (mkF m 68 #[.val (.int i0), .val (.int i1), .val (.ref b1), .val (.ref c5), .val (.int (4 : Int32)), .unset, .unset, .unset] [(.int (0 : Int32))])
    refine Go.step (fun t k => XS.iload X209.here hx rfl (hb hby at_68) rfl k) ?_
    show Go _ _ _ _ _ _ _ T209 (mkF m 70 #[.val (.int i0), .val (.int i1), .val (.ref b1), .val (.ref c5), .val (.int (4 : Int32)), .unset, .unset, .unset] [(.int (4 : Int32)), (.int (0 : Int32))])
    refine Go.step (fun t k => XS.iconst X209.here hx rfl (hb hby at_70) k) ?_
    show Go _ _ _ _ _ _ _ T209 (mkF m 71 #[.val (.int i0), .val (.int i1), .val (.ref b1), .val (.ref c5), .val (.int (4 : Int32)), .unset, .unset, .unset] [(.int (5 : Int32)), (.int (4 : Int32)), (.int (0 : Int32))])
    refine Go.step (fun t k => XS.icmpYes X209.here hx rfl (pc0 := 71) (pc' := 78) rfl (hb hby at_71) rfl (feq (by decide)).2 (by decide) (by decide) k) ?_
    show Go _ _ _ _ _ _ _ T209 (mkF m 78 #[.val (.int i0), .val (.int i1), .val (.ref b1), .val (.ref c5), .val (.int (4 : Int32)), .unset, .unset, .unset] [(.int (0 : Int32))])
    refine Go.step (fun t k => XS.iconst X209.here hx rfl (hb hby at_78) k) ?_
    show Go _ _ _ _ _ _ _ T209 (mkF m 79 #[.val (.int i0), .val (.int i1), .val (.ref b1), .val (.ref c5), .val (.int (4 : Int32)), .unset, .unset, .unset] [(.int (0 : Int32)), (.int (0 : Int32))])
    refine Go.step (fun t k => XS.icmpNo X209.here hx rfl (hb hby at_79) rfl (teq (by decide)).2 k) ?_
    show Go _ _ _ _ _ _ _ T209 (mkF m 82 #[.val (.int i0), .val (.int i1), .val (.ref b1), .val (.ref c5), .val (.int (4 : Int32)), .unset, .unset, .unset] [])
    refine Go.step (fun t k => XS.iconst X209.here hx rfl (hb hby at_82) k) ?_
    show Go _ _ _ _ _ _ _ T209 (mkF m 83 #[.val (.int i0), .val (.int i1), .val (.ref b1), .val (.ref c5), .val (.int (4 : Int32)), .unset, .unset, .unset] [(.int (1 : Int32))])
    refine Go.step (fun t k => XS.goto X209.here hx rfl (pc0 := 83) (pc' := 87) rfl (hb hby at_83) (by decide) (by decide) k) ?_
    show Go _ _ _ _ _ _ _ T209 (mkF m 87 #[.val (.int i0), .val (.int i1), .val (.ref b1), .val (.ref c5), .val (.int (4 : Int32)), .unset, .unset, .unset] [(.int (1 : Int32))])
    refine Go.step (fun t k => XS.istore X209.here hx rfl (hb hby at_87) rfl (l' := #[.val (.int i0), .val (.int i1), .val (.ref b1), .val (.ref c5), .val (.int (4 : Int32)), .val (.int (1 : Int32)), .unset, .unset]) rfl k) ?_
    show Go _ _ _ _ _ _ _ T209 (mkF m 89 #[.val (.int i0), .val (.int i1), .val (.ref b1), .val (.ref c5), .val (.int (4 : Int32)), .val (.int (1 : Int32)), .unset, .unset] [])
    refine Go.step (fun t k => XS.iloadN X209.here hx rfl (hb hby at_89) rfl k) ?_
    show Go _ _ _ _ _ _ _ T209 (mkF m 90 #[.val (.int i0), .val (.int i1), .val (.ref b1), .val (.ref c5), .val (.int (4 : Int32)), .val (.int (1 : Int32)), .unset, .unset] [(.int i1)])
    have f213 := (Sta.wr W28 (Sta.wr W23 (Sta.wr W18 (Sta.wr W13 f12))))
    have f214 := (Sta.wr W28 (Sta.wr W23 (Sta.wr W18 f17)))
    have f215 := (Sta.wr W28 (Sta.wr W23 f22))
    have f216 := (Sta.wr W28 f27)
    have f217 := (Exa.wr W28 (Exa.wr W23 (Exa.wr W18 (Exa.wr W13 (Exa.wr W8 (Exa.wr W4 f5))))))
    have f218 := (Exa.wr W28 (Exa.wr W23 (Exa.wr W18 (Exa.wr W13 (Exa.wr W8 f10)))))
    have f219 := (Exa.wr W28 (Exa.wr W23 (Exa.wr W18 (Exa.wr W13 f15))))
    have f220 := (Exa.wr W28 (Exa.wr W23 (Exa.wr W18 f20)))
    have f221 := (Exa.wr W28 (Exa.wr W23 f25))
    have f222 := (Fld.other W28 (Fld.other W23 (Fld.other W18 (Fld.other W13 (Fld.other W8 (Fld.other W4 (Fld.ext E1 Fc0) (Or.inl ne_c0_b1)) (Or.inl ne_c0_b1)) (Or.inl ne_c0_b1)) (Or.inl ne_c0_b1)) (Or.inl ne_c0_b1)) (Or.inl ne_c0_b1))
    have f223 := (Fld.other W28 (Fld.other W23 (Fld.other W18 (Fld.other W13 (Fld.other W8 (Fld.other W4 (Fld.ext E1 Fc1) (Or.inl ne_c1_b1)) (Or.inl ne_c1_b1)) (Or.inl ne_c1_b1)) (Or.inl ne_c1_b1)) (Or.inl ne_c1_b1)) (Or.inl ne_c1_b1))
    have f224 := (Fld.other W28 (Fld.other W23 (Fld.other W18 (Fld.other W13 (Fld.other W8 (Fld.other W4 (Fld.ext E1 Fc2) (Or.inl ne_c2_b1)) (Or.inl ne_c2_b1)) (Or.inl ne_c2_b1)) (Or.inl ne_c2_b1)) (Or.inl ne_c2_b1)) (Or.inl ne_c2_b1))
    have f225 := (Fld.other W28 (Fld.other W23 (Fld.other W18 (Fld.other W13 (Fld.other W8 (Fld.other W4 (Fld.ext E1 Fc3) (Or.inl ne_c3_b1)) (Or.inl ne_c3_b1)) (Or.inl ne_c3_b1)) (Or.inl ne_c3_b1)) (Or.inl ne_c3_b1)) (Or.inl ne_c3_b1))
    have f226 := (Fld.other W28 (Fld.other W23 (Fld.other W18 (Fld.other W13 (Fld.other W8 (Fld.other W4 (Fld.ext E1 Fc4) (Or.inl ne_c4_b1)) (Or.inl ne_c4_b1)) (Or.inl ne_c4_b1)) (Or.inl ne_c4_b1)) (Or.inl ne_c4_b1)) (Or.inl ne_c4_b1))
    have f227 := (Sta.wr W28 (Sta.wr W23 (Sta.wr W18 (Sta.wr W13 (Sta.wr W8 (Sta.wr W4 (Sta.ext E1 SV)))))))
    have f228 := (Exa.wr W28 (Exa.wr W23 (Exa.wr W18 (Exa.wr W13 (Exa.wr W8 (Exa.wr W4 (Exa.ext E1 EV)))))))
    have f229 := (((((((VV.ext E1).other W4 ne_va_b1).other W8 ne_va_b1).other W13 ne_va_b1).other W18 ne_va_b1).other W23 ne_va_b1).other W28 ne_va_b1)
    obtain ⟨v212, T212, L212, X212, q212, st212⟩ := c_static X209 hx hZ hown (y := (⟨"com/example/bearer/bearer/model/Registration", "ofStat", "(I)Lcom/example/bearer/bearer/model/Registration;"⟩ : MethodName)) (hw _ (List.mem_of_getElem? (i := 30) rfl)) (hw _ (List.mem_of_getElem? (i := 31) rfl)) (hw _ (List.mem_of_getElem? (i := 3) rfl)) (hw _ (List.mem_of_getElem? (i := 32) rfl)) (by decide) (argsL := [(.int i1)]) (rest := []) (rmO l Z a0 hw [] i1 c0 c1 c2 c3 c4 c5 va h28 n0 Z28 f210 f211 f213 f214 f215 f216 f217 f218 f219 f220 f221 f208 f222 f223 f224 f225 f226 f207 f227 f228 f229) e209 pd_3 rfl (by rw [hml]; rfl) (W := 0) (by show 2 * 0 + _ ≤ _; exact Nat.le_of_eq rfl) (by decide) (by decide) (by decide) (by decide) (hb hby at_90) (Ls := #[.val (.int i0), .val (.int i1), .val (.ref b1), .val (.ref c5), .val (.int (4 : Int32)), .val (.int (1 : Int32)), .unset, .unset])
    generalize e212 : T212.heap = h212 at q212
    obtain ⟨rfl, N212q, K212q⟩ := q212
    have N212 := Fr.app N209 N212q
    have Z212 : n0 ≤ h212.size := Nat.le_trans Z28 K212q.1
    have f230 := (f217.keep K212q)
    have f231 := (f218.keep K212q)
    have f232 := (f219.keep K212q)
    have f233 := (f220.keep K212q)
    have f234 := (f221.keep K212q)
    have f235 := (f208.keep K212q)
    refine Go.step (st212) ?_
    show Go _ _ _ _ _ _ _ T212 (mkF m 93 #[.val (.int i0), .val (.int i1), .val (.ref b1), .val (.ref c5), .val (.int (4 : Int32)), .val (.int (1 : Int32)), .unset, .unset] [(.ref (ofs i1 c0 c1 c2 c3 c4 c5))])
    refine Go.step (fun t k => XS.astore X212.here hx rfl (hb hby at_93) rfl rfl (l' := #[.val (.int i0), .val (.int i1), .val (.ref b1), .val (.ref c5), .val (.int (4 : Int32)), .val (.int (1 : Int32)), .val (.ref (ofs i1 c0 c1 c2 c3 c4 c5)), .unset]) rfl k) ?_
    show Go _ _ _ _ _ _ _ T212 (mkF m 95 #[.val (.int i0), .val (.int i1), .val (.ref b1), .val (.ref c5), .val (.int (4 : Int32)), .val (.int (1 : Int32)), .val (.ref (ofs i1 c0 c1 c2 c3 c4 c5)), .unset] [])
    refine Go.step (fun t k => XS.aload X212.here hx rfl (hb hby at_95) rfl rfl k) ?_
    show Go _ _ _ _ _ _ _ T212 (mkF m 97 #[.val (.int i0), .val (.int i1), .val (.ref b1), .val (.ref c5), .val (.int (4 : Int32)), .val (.int (1 : Int32)), .val (.ref (ofs i1 c0 c1 c2 c3 c4 c5)), .unset] [(.ref (ofs i1 c0 c1 c2 c3 c4 c5))])
    have f237 := (own_sta_keep f210 K212q)
    have f238 := (own_sta_keep f211 K212q)
    obtain ⟨v236, T236, L236, X236, q236, st236⟩ := c_virt X212 hx hZ hown (y' := (⟨"com/example/bearer/bearer/model/Registration", "isRegistered", "()Z"⟩ : MethodName)) (y := (⟨"com/example/bearer/bearer/model/Registration", "isRegistered", "()Z"⟩ : MethodName)) (C := "com/example/bearer/bearer/model/Registration") (hw _ (List.mem_of_getElem? (i := 24) rfl)) (hw _ (List.mem_of_getElem? (i := 25) rfl)) (notFace_of_selects (args := #[]) (mvT hZ (hw _ (List.mem_of_getElem? (i := 27) rfl)))) (hw _ (List.mem_of_getElem? (i := 27) rfl)) (hw _ (List.mem_of_getElem? (i := 26) rfl)) (hw _ (List.mem_of_getElem? (i := 3) rfl)) (hw _ (List.mem_of_getElem? (i := 28) rfl)) (by decide) (a := (ofs i1 c0 c1 c2 c3 c4 c5)) (argsL := []) (rest := []) (rmR l Z a0 hw [] (ofs i1 c0 c1 c2 c3 c4 c5) c0 c1 h212 n0 Z212 f237 f238) e212 (own_sel (P := fun c => Exa Z h212 c "com/example/bearer/bearer/model/Registration") f230 f231 f232 f233 f234 f235) pd_2 rfl (by rw [hml]; rfl) (W := 0) (by show 2 * 0 + _ ≤ _; exact Nat.le_of_eq rfl) (by decide) (by decide) (by decide) (by decide) (hb hby at_97) (Ls := #[.val (.int i0), .val (.int i1), .val (.ref b1), .val (.ref c5), .val (.int (4 : Int32)), .val (.int (1 : Int32)), .val (.ref (ofs i1 c0 c1 c2 c3 c4 c5)), .unset])
    obtain ⟨rfl, rfl, e236⟩ := q236
    have N236 := Fr.app N212 (Fr.nil n0)
    refine Go.step (st236) ?_
    show Go _ _ _ _ _ _ _ T236 (mkF m 100 #[.val (.int i0), .val (.int i1), .val (.ref b1), .val (.ref c5), .val (.int (4 : Int32)), .val (.int (1 : Int32)), .val (.ref (ofs i1 c0 c1 c2 c3 c4 c5)), .unset] [(.int (bi ((ofs i1 c0 c1 c2 c3 c4 c5) = c0 ∨ (ofs i1 c0 c1 c2 c3 c4 c5) = c1)))])
    refine Go.step (fun t k => XS.iloadN X236.here hx rfl (hb hby at_100) rfl k) ?_
    show Go _ _ _ _ _ _ _ T236 (mkF m 101 #[.val (.int i0), .val (.int i1), .val (.ref b1), .val (.ref c5), .val (.int (4 : Int32)), .val (.int (1 : Int32)), .val (.ref (ofs i1 c0 c1 c2 c3 c4 c5)), .unset] [(.int i1), (.int (bi ((ofs i1 c0 c1 c2 c3 c4 c5) = c0 ∨ (ofs i1 c0 c1 c2 c3 c4 c5) = c1)))])
    refine Go.step (fun t k => XS.iconst X236.here hx rfl (hb hby at_101) k) ?_
    show Go _ _ _ _ _ _ _ T236 (mkF m 102 #[.val (.int i0), .val (.int i1), .val (.ref b1), .val (.ref c5), .val (.int (4 : Int32)), .val (.int (1 : Int32)), .val (.ref (ofs i1 c0 c1 c2 c3 c4 c5)), .unset] [(.int (1 : Int32)), (.int i1), (.int (bi ((ofs i1 c0 c1 c2 c3 c4 c5) = c0 ∨ (ofs i1 c0 c1 c2 c3 c4 c5) = c1)))])
    obtain ⟨q102, hq102⟩ : ∃ q : Bool, q = true ↔ ((i1 = (1 : Int32)) ∨ (i1 = (5 : Int32))) := ⟨decide ((i1 = (1 : Int32)) ∨ (i1 = (5 : Int32))), decide_eq_true_iff⟩
    have j102 : Go p e s below 16 128 (fun v h L => v = some (.int (1 : Int32)) ∧ Fr n0 L) T236 (mkF m 115 #[.val (.int i0), .val (.int i1), .val (.ref b1), .val (.ref c5), .val (.int (4 : Int32)), .val (.int (1 : Int32)), .val (.ref (ofs i1 c0 c1 c2 c3 c4 c5)), .unset] [(.int (bi (q102 = true))), (.int (bi ((ofs i1 c0 c1 c2 c3 c4 c5) = c0 ∨ (ofs i1 c0 c1 c2 c3 c4 c5) = c1)))]) := by
      refine Go.step (fun t k => XS.icmpNo X236.here hx rfl (hb hby at_115) rfl (teq (bi_congr ((own_reg n02 n03 n04 n05 n12 n13 n14 n15).trans hq102.symm))).2 k) ?_
      show Go _ _ _ _ _ _ _ T236 (mkF m 118 #[.val (.int i0), .val (.int i1), .val (.ref b1), .val (.ref c5), .val (.int (4 : Int32)), .val (.int (1 : Int32)), .val (.ref (ofs i1 c0 c1 c2 c3 c4 c5)), .unset] [])
      refine Go.step (fun t k => XS.iconst X236.here hx rfl (hb hby at_118) k) ?_
      show Go _ _ _ _ _ _ _ T236 (mkF m 119 #[.val (.int i0), .val (.int i1), .val (.ref b1), .val (.ref c5), .val (.int (4 : Int32)), .val (.int (1 : Int32)), .val (.ref (ofs i1 c0 c1 c2 c3 c4 c5)), .unset] [(.int (1 : Int32))])
      refine Go.step (fun t k => XS.goto X236.here hx rfl (pc0 := 119) (pc' := 123) rfl (hb hby at_119) (by decide) (by decide) k) ?_
      show Go _ _ _ _ _ _ _ T236 (mkF m 123 #[.val (.int i0), .val (.int i1), .val (.ref b1), .val (.ref c5), .val (.int (4 : Int32)), .val (.int (1 : Int32)), .val (.ref (ofs i1 c0 c1 c2 c3 c4 c5)), .unset] [(.int (1 : Int32))])
      refine Go.step (fun t k => XS.istore X236.here hx rfl (hb hby at_123) rfl (l' := #[.val (.int i0), .val (.int i1), .val (.ref b1), .val (.ref c5), .val (.int (4 : Int32)), .val (.int (1 : Int32)), .val (.ref (ofs i1 c0 c1 c2 c3 c4 c5)), .val (.int (1 : Int32))]) rfl k) ?_
      show Go _ _ _ _ _ _ _ T236 (mkF m 125 #[.val (.int i0), .val (.int i1), .val (.ref b1), .val (.ref c5), .val (.int (4 : Int32)), .val (.int (1 : Int32)), .val (.ref (ofs i1 c0 c1 c2 c3 c4 c5)), .val (.int (1 : Int32))] [])
      refine Go.step (fun t k => XS.iload X236.here hx rfl (hb hby at_125) rfl k) ?_
      show Go _ _ _ _ _ _ _ T236 (mkF m 127 #[.val (.int i0), .val (.int i1), .val (.ref b1), .val (.ref c5), .val (.int (4 : Int32)), .val (.int (1 : Int32)), .val (.ref (ofs i1 c0 c1 c2 c3 c4 c5)), .val (.int (1 : Int32))] [(.int (1 : Int32))])
      refine Go.step (fun t k => XS.ifNo X236.here hx rfl (hb hby at_127) rfl ((if0 _ _).trans (feq (by decide)).1) k) ?_
      show Go _ _ _ _ _ _ _ T236 (mkF m 130 #[.val (.int i0), .val (.int i1), .val (.ref b1), .val (.ref c5), .val (.int (4 : Int32)), .val (.int (1 : Int32)), .val (.ref (ofs i1 c0 c1 c2 c3 c4 c5)), .val (.int (1 : Int32))] [])
      refine Go.step (fun t k => XS.iload X236.here hx rfl (hb hby at_130) rfl k) ?_
      show Go _ _ _ _ _ _ _ T236 (mkF m 132 #[.val (.int i0), .val (.int i1), .val (.ref b1), .val (.ref c5), .val (.int (4 : Int32)), .val (.int (1 : Int32)), .val (.ref (ofs i1 c0 c1 c2 c3 c4 c5)), .val (.int (1 : Int32))] [(.int (1 : Int32))])
      refine Go.step (fun t k => XS.ifNo X236.here hx rfl (hb hby at_132) rfl ((if0 _ _).trans (feq (by decide)).1) k) ?_
      show Go _ _ _ _ _ _ _ T236 (mkF m 135 #[.val (.int i0), .val (.int i1), .val (.ref b1), .val (.ref c5), .val (.int (4 : Int32)), .val (.int (1 : Int32)), .val (.ref (ofs i1 c0 c1 c2 c3 c4 c5)), .val (.int (1 : Int32))] [])
      refine Go.step (fun t k => XS.iconst X236.here hx rfl (hb hby at_135) k) ?_
      show Go _ _ _ _ _ _ _ T236 (mkF m 136 #[.val (.int i0), .val (.int i1), .val (.ref b1), .val (.ref c5), .val (.int (4 : Int32)), .val (.int (1 : Int32)), .val (.ref (ofs i1 c0 c1 c2 c3 c4 c5)), .val (.int (1 : Int32))] [(.int (1 : Int32))])
      refine Go.step (fun t k => XS.goto X236.here hx rfl (pc0 := 136) (pc' := 140) rfl (hb hby at_136) (by decide) (by decide) k) ?_
      show Go _ _ _ _ _ _ _ T236 (mkF m 140 #[.val (.int i0), .val (.int i1), .val (.ref b1), .val (.ref c5), .val (.int (4 : Int32)), .val (.int (1 : Int32)), .val (.ref (ofs i1 c0 c1 c2 c3 c4 c5)), .val (.int (1 : Int32))] [(.int (1 : Int32))])
      refine go_retN X236 hx (t := .boolean) hret (by simp) hlk (hb hby at_140) (w := (1 : Int32)) rfl ?_ (by decide) (by decide)
      try rw [e236]
      exact ⟨rfl, N236⟩
    by_cases c102_239 : i1 = (1 : Int32)
    · refine Go.step (fun t k => XS.icmpYes X236.here hx rfl (pc0 := 102) (pc' := 110) rfl (hb hby at_102) rfl (teq c102_239).1 (by decide) (by decide) k) ?_
      show Go _ _ _ _ _ _ _ T236 (mkF m 110 #[.val (.int i0), .val (.int i1), .val (.ref b1), .val (.ref c5), .val (.int (4 : Int32)), .val (.int (1 : Int32)), .val (.ref (ofs i1 c0 c1 c2 c3 c4 c5)), .unset] [(.int (bi ((ofs i1 c0 c1 c2 c3 c4 c5) = c0 ∨ (ofs i1 c0 c1 c2 c3 c4 c5) = c1)))])
      refine Go.step (fun t k => XS.iconst X236.here hx rfl (hb hby at_110) k) ?_
      show Go _ _ _ _ _ _ _ T236 (mkF m 111 #[.val (.int i0), .val (.int i1), .val (.ref b1), .val (.ref c5), .val (.int (4 : Int32)), .val (.int (1 : Int32)), .val (.ref (ofs i1 c0 c1 c2 c3 c4 c5)), .unset] [(.int (1 : Int32)), (.int (bi ((ofs i1 c0 c1 c2 c3 c4 c5) = c0 ∨ (ofs i1 c0 c1 c2 c3 c4 c5) = c1)))])
      refine Go.step (fun t k => XS.goto X236.here hx rfl (pc0 := 111) (pc' := 115) rfl (hb hby at_111) (by decide) (by decide) k) ?_
      show Go _ _ _ _ _ _ _ T236 (mkF m 115 #[.val (.int i0), .val (.int i1), .val (.ref b1), .val (.ref c5), .val (.int (4 : Int32)), .val (.int (1 : Int32)), .val (.ref (ofs i1 c0 c1 c2 c3 c4 c5)), .unset] [(.int (1 : Int32)), (.int (bi ((ofs i1 c0 c1 c2 c3 c4 c5) = c0 ∨ (ofs i1 c0 c1 c2 c3 c4 c5) = c1)))])
      rw [show (bi (q102 = true)) = (1 : Int32) from bi_t (hq102.mpr (by simp only [eq_true c102_239, not_true_eq_false, not_false_eq_true, and_true, true_and, and_false, false_and, or_true, true_or, or_false, false_or, and_self, or_self]))] at j102
      exact j102
    · refine Go.step (fun t k => XS.icmpNo X236.here hx rfl (hb hby at_102) rfl (feq c102_239).1 k) ?_
      show Go _ _ _ _ _ _ _ T236 (mkF m 105 #[.val (.int i0), .val (.int i1), .val (.ref b1), .val (.ref c5), .val (.int (4 : Int32)), .val (.int (1 : Int32)), .val (.ref (ofs i1 c0 c1 c2 c3 c4 c5)), .unset] [(.int (bi ((ofs i1 c0 c1 c2 c3 c4 c5) = c0 ∨ (ofs i1 c0 c1 c2 c3 c4 c5) = c1)))])
      refine Go.step (fun t k => XS.iloadN X236.here hx rfl (hb hby at_105) rfl k) ?_
      show Go _ _ _ _ _ _ _ T236 (mkF m 106 #[.val (.int i0), .val (.int i1), .val (.ref b1), .val (.ref c5), .val (.int (4 : Int32)), .val (.int (1 : Int32)), .val (.ref (ofs i1 c0 c1 c2 c3 c4 c5)), .unset] [(.int i1), (.int (bi ((ofs i1 c0 c1 c2 c3 c4 c5) = c0 ∨ (ofs i1 c0 c1 c2 c3 c4 c5) = c1)))])
      refine Go.step (fun t k => XS.iconst X236.here hx rfl (hb hby at_106) k) ?_
      show Go _ _ _ _ _ _ _ T236 (mkF m 107 #[.val (.int i0), .val (.int i1), .val (.ref b1), .val (.ref c5), .val (.int (4 : Int32)), .val (.int (1 : Int32)), .val (.ref (ofs i1 c0 c1 c2 c3 c4 c5)), .unset] [(.int (5 : Int32)), (.int i1), (.int (bi ((ofs i1 c0 c1 c2 c3 c4 c5) = c0 ∨ (ofs i1 c0 c1 c2 c3 c4 c5) = c1)))])
      by_cases c107_240 : i1 = (5 : Int32)
      · refine Go.step (fun t k => XS.icmpNo X236.here hx rfl (hb hby at_107) rfl (teq c107_240).2 k) ?_
        show Go _ _ _ _ _ _ _ T236 (mkF m 110 #[.val (.int i0), .val (.int i1), .val (.ref b1), .val (.ref c5), .val (.int (4 : Int32)), .val (.int (1 : Int32)), .val (.ref (ofs i1 c0 c1 c2 c3 c4 c5)), .unset] [(.int (bi ((ofs i1 c0 c1 c2 c3 c4 c5) = c0 ∨ (ofs i1 c0 c1 c2 c3 c4 c5) = c1)))])
        refine Go.step (fun t k => XS.iconst X236.here hx rfl (hb hby at_110) k) ?_
        show Go _ _ _ _ _ _ _ T236 (mkF m 111 #[.val (.int i0), .val (.int i1), .val (.ref b1), .val (.ref c5), .val (.int (4 : Int32)), .val (.int (1 : Int32)), .val (.ref (ofs i1 c0 c1 c2 c3 c4 c5)), .unset] [(.int (1 : Int32)), (.int (bi ((ofs i1 c0 c1 c2 c3 c4 c5) = c0 ∨ (ofs i1 c0 c1 c2 c3 c4 c5) = c1)))])
        refine Go.step (fun t k => XS.goto X236.here hx rfl (pc0 := 111) (pc' := 115) rfl (hb hby at_111) (by decide) (by decide) k) ?_
        show Go _ _ _ _ _ _ _ T236 (mkF m 115 #[.val (.int i0), .val (.int i1), .val (.ref b1), .val (.ref c5), .val (.int (4 : Int32)), .val (.int (1 : Int32)), .val (.ref (ofs i1 c0 c1 c2 c3 c4 c5)), .unset] [(.int (1 : Int32)), (.int (bi ((ofs i1 c0 c1 c2 c3 c4 c5) = c0 ∨ (ofs i1 c0 c1 c2 c3 c4 c5) = c1)))])
        rw [show (bi (q102 = true)) = (1 : Int32) from bi_t (hq102.mpr (by simp only [eq_false c102_239, eq_true c107_240, not_true_eq_false, not_false_eq_true, and_true, true_and, and_false, false_and, or_true, true_or, or_false, false_or, and_self, or_self]))] at j102
        exact j102
      · refine Go.step (fun t k => XS.icmpYes X236.here hx rfl (pc0 := 107) (pc' := 114) rfl (hb hby at_107) rfl (feq c107_240).2 (by decide) (by decide) k) ?_
        show Go _ _ _ _ _ _ _ T236 (mkF m 114 #[.val (.int i0), .val (.int i1), .val (.ref b1), .val (.ref c5), .val (.int (4 : Int32)), .val (.int (1 : Int32)), .val (.ref (ofs i1 c0 c1 c2 c3 c4 c5)), .unset] [(.int (bi ((ofs i1 c0 c1 c2 c3 c4 c5) = c0 ∨ (ofs i1 c0 c1 c2 c3 c4 c5) = c1)))])
        refine Go.step (fun t k => XS.iconst X236.here hx rfl (hb hby at_114) k) ?_
        show Go _ _ _ _ _ _ _ T236 (mkF m 115 #[.val (.int i0), .val (.int i1), .val (.ref b1), .val (.ref c5), .val (.int (4 : Int32)), .val (.int (1 : Int32)), .val (.ref (ofs i1 c0 c1 c2 c3 c4 c5)), .unset] [(.int (0 : Int32)), (.int (bi ((ofs i1 c0 c1 c2 c3 c4 c5) = c0 ∨ (ofs i1 c0 c1 c2 c3 c4 c5) = c1)))])
        rw [show (bi (q102 = true)) = (0 : Int32) from bi_f (mt hq102.mp (by simp only [eq_false c102_239, eq_false c107_240, not_true_eq_false, not_false_eq_true, and_true, true_and, and_false, false_and, or_true, true_or, or_false, false_or, and_self, or_self]))] at j102
        exact j102
theorem own_fld {args : Array Value} {s : State} {t : Term} {a : Addr} {C n d : String} {k : Int32} (ev : t.eval args s none [] s = some (.ref a)) (h : (Jvm.Cond.eq (.field t C n d) (.int k)).value args s none s [] = some true) : Fld s s.heap a C n d (.int k) := by
  obtain ⟨x, y, ha, hb, -⟩ := cmp_v (Or.inl h)
  have hc := (fld_at ev).symm.trans ha
  have hy : y = .int k := (Option.some.inj hb).symm
  subst hy
  have hx : x = .int k := by
    simp only [Cond.value, ha, hb] at h
    cases x <;> simp at h
    rw [h]
  subst hx
  exact Fld.start hc
theorem own_len {args : Array Value} {s : State} {t : Term} {a : Addr} {cv : Cell} {ty : FieldType} (ev : t.eval args s none [] s = some (.ref a)) (A : Arr s s.heap a cv ty) (h : (Jvm.Cond.eq (.length t) (.int (6 : Int32))).value args s none s [] = some true) : cv.slots.size = 6 := by
  obtain ⟨x, y, ha, hb, -⟩ := cmp_v (Or.inl h)
  have q := A.fin (U := s) (Vm.Alike.refl _)
  by_cases hl : cv.slots.size < 2 ^ 31
  · rw [len_f ev q hl] at ha
    have hx := (Option.some.inj ha).symm
    have hy : y = .int 6 := (Option.some.inj hb).symm
    subst hx hy
    have e : cv.slots.size.toInt32 = 6 := by simpa [Cond.value, len_f ev q hl, hb] using h
    have e2 := congrArg Int32.toInt e
    rw [len_toInt hl] at e2
    simp only [Int32.reduceToInt] at e2
    omega
  · simp [Term.eval, ev, q, hl] at ha
theorem own_elem {args : Array Value} {s : State} {t u : Term} {a b : Addr} {cv : Cell} {ty : FieldType} {k : Int32} {n : Nat} (ev : t.eval args s none [] s = some (.ref a)) (A : Arr s s.heap a cv ty) (eu : u.eval args s none [] s = some (.ref b)) (hk : ¬ k < 0 ∧ k.toNatClampNeg = n) (h : (Jvm.Cond.eq (.elem t (.int k)) u).value args s none s [] = some true) : cv.slots[n]? = some (.ref b) := by
  obtain ⟨x, y, ha, hb, -⟩ := cmp_v (Or.inl h)
  have q := A.fin (U := s) (Vm.Alike.refl _)
  have e := (elem_f (a := .int k) ev rfl q hk.1).symm.trans ha
  rw [hk.2] at e
  cases eu.symm.trans hb
  have hx : x = .ref b := by
    simp only [Cond.value, ha, hb] at h
    cases x <;> simp at h
    rw [h]
  rw [e, hx]
set_option maxRecDepth 65536 in
set_option maxHeartbeats 40000000 in
theorem comes_1 {Post : Tables → Env → Array Value → State → Outcome → State → Prop} (hpost : ∀ tb e args s v u, (limb_1_1.after args s (.returned v) u = true ∧ limb_1_2.after args s (.returned v) u = true ∧ True) → FrameEnd s (.returned v) u (Jvm.fieldLocs frame_1_writes args s ++ Jvm.arrayLocs frame_1_arrays args s ++ Jvm.staticLocs frame_1_statics s) 16 128 → Post tb e args s (.returned v) u) :
    ArmFor flags0 classFile x code maxLocals ret World_1 tables_1 room_1 Calls_1 rest_1 Pre_1 Post := by
  intro l hfl _ _ p e ha hc hk s m args below hf hA hF happ hP
  obtain ⟨hcalls, hrest, hpre⟩ := hP
  obtain ⟨-, -, -, hnamed, -, -, -, hat⟩ := (Spec.applies_iff hf).mp happ
  obtain ⟨hg, hn⟩ := and_e (Cond.before_iff.mp (show (Jvm.Cond.and given_1 narrow_1).before args s = true from hpre))
  obtain ⟨hcnt, hg1⟩ := and_e hg
  obtain ⟨ha0, hg2⟩ := and_e hg1
  obtain ⟨w0, w1, rfl⟩ : ∃ w0 w1 : Value, args = #[w0, w1] := by
    have hs : args.size = 2 := by simpa [Cond.value, given_1] using hcnt
    obtain ⟨L⟩ := args
    match L, hs with
    | [w0, w1], _ => exact ⟨w0, w1, rfl⟩
  have hw := fun d (hd : d ∈ tables_1) => atoms_spec (ws := Jvm.Cond.code x code maxLocals ret :: tables_1) hat d (List.mem_cons_of_mem _ hd)
  have hfit : Fit s := fun {y c} hc i hi => by
    obtain ⟨ha, rfl⟩ := Array.getElem?_eq_some_iff.mp hc
    have q := List.all_eq_true.mp ((Array.all_eq_true_iff_forall_mem.mp hF) _ (Array.getElem_mem ha)) i (List.mem_range.mpr hi)
    simpa [Array.getElem?_eq_getElem hi] using q
  obtain ⟨i0, ei0⟩ := is_v ha0
  obtain rfl : w0 = (.int i0) := Option.some.inj ei0
  obtain ⟨i1, ei1⟩ := is_v hg2
  obtain rfl : w1 = (.int i1) := Option.some.inj ei1
  obtain ⟨nw0, nr0⟩ := and_e hn
  obtain ⟨nw1, nr1⟩ := and_e nr0
  obtain ⟨nw2, nr2⟩ := and_e nr1
  obtain ⟨nw3, nr3⟩ := and_e nr2
  obtain ⟨nw4, nr4⟩ := and_e nr3
  obtain ⟨nw5, nr5⟩ := and_e nr4
  obtain ⟨nw6, nr6⟩ := and_e nr5
  obtain ⟨nw7, nr7⟩ := and_e nr6
  obtain ⟨nw8, nr8⟩ := and_e nr7
  obtain ⟨nw9, nr9⟩ := and_e nr8
  obtain ⟨nw10, nr10⟩ := and_e nr9
  obtain ⟨nw11, nr11⟩ := and_e nr10
  obtain ⟨nw12, nr12⟩ := and_e nr11
  obtain ⟨nw13, nr13⟩ := and_e nr12
  obtain ⟨nw14, nr14⟩ := and_e nr13
  obtain ⟨nw15, nr15⟩ := and_e nr14
  obtain ⟨nw16, nr16⟩ := and_e nr15
  obtain ⟨nw17, nr17⟩ := and_e nr16
  obtain ⟨nw18, nr18⟩ := and_e nr17
  obtain ⟨nw19, nr19⟩ := and_e nr18
  obtain ⟨nw20, nr20⟩ := and_e nr19
  obtain ⟨nw21, nr21⟩ := and_e nr20
  obtain ⟨nw22, nr22⟩ := and_e nr21
  obtain ⟨nw23, nr23⟩ := and_e nr22
  obtain ⟨nw24, nr24⟩ := and_e nr23
  obtain ⟨nw25, nr25⟩ := and_e nr24
  obtain ⟨c0, ev0⟩ := exa_v nw0
  have Ec0 := Exa.start ev0 nw0
  have Sc0 := Sta.start ev0 (Or.inr ⟨(hw _ (List.mem_of_getElem? (i := 3) rfl)), (hw _ (List.mem_of_getElem? (i := 4) rfl))⟩)
  obtain ⟨c1, ev1⟩ := exa_v nw1
  have Ec1 := Exa.start ev1 nw1
  have Sc1 := Sta.start ev1 (Or.inr ⟨(hw _ (List.mem_of_getElem? (i := 3) rfl)), (hw _ (List.mem_of_getElem? (i := 7) rfl))⟩)
  obtain ⟨c2, ev2⟩ := exa_v nw2
  have Ec2 := Exa.start ev2 nw2
  have Sc2 := Sta.start ev2 (Or.inr ⟨(hw _ (List.mem_of_getElem? (i := 3) rfl)), (hw _ (List.mem_of_getElem? (i := 9) rfl))⟩)
  obtain ⟨c3, ev3⟩ := exa_v nw3
  have Ec3 := Exa.start ev3 nw3
  have Sc3 := Sta.start ev3 (Or.inr ⟨(hw _ (List.mem_of_getElem? (i := 3) rfl)), (hw _ (List.mem_of_getElem? (i := 11) rfl))⟩)
  obtain ⟨c4, ev4⟩ := exa_v nw4
  have Ec4 := Exa.start ev4 nw4
  have Sc4 := Sta.start ev4 (Or.inr ⟨(hw _ (List.mem_of_getElem? (i := 3) rfl)), (hw _ (List.mem_of_getElem? (i := 13) rfl))⟩)
  obtain ⟨c5, ev5⟩ := exa_v nw5
  have Ec5 := Exa.start ev5 nw5
  have Sc5 := Sta.start ev5 (Or.inr ⟨(hw _ (List.mem_of_getElem? (i := 3) rfl)), (hw _ (List.mem_of_getElem? (i := 15) rfl))⟩)
  obtain ⟨va, evV⟩ := exa_v nw8
  have EV := Exa.start evV nw8
  have SV := Sta.start evV (Or.inr ⟨(hw _ (List.mem_of_getElem? (i := 3) rfl)), (hw _ (List.mem_of_getElem? (i := 37) rfl))⟩)
  have Fc0 := own_fld ev0 nw6
  have Fc1 := own_fld ev1 nw16
  have Fc2 := own_fld ev2 nw17
  have Fc3 := own_fld ev3 nw18
  have Fc4 := own_fld ev4 nw23
  have Fc5 := own_fld ev5 nw24
  obtain ⟨cv, AV0⟩ := Arr.start evV nw7
  have hsz : cv.slots.size = 6 := own_len evV AV0 nw9
  have el0 : cv.slots[0]? = some (.ref c0) := own_elem evV AV0 ev0 (by decide) nw10
  have el1 : cv.slots[1]? = some (.ref c1) := own_elem evV AV0 ev1 (by decide) nw11
  have el2 : cv.slots[2]? = some (.ref c2) := own_elem evV AV0 ev2 (by decide) nw12
  have el3 : cv.slots[3]? = some (.ref c3) := own_elem evV AV0 ev3 (by decide) nw13
  have el4 : cv.slots[4]? = some (.ref c4) := own_elem evV AV0 ev4 (by decide) nw14
  have el5 : cv.slots[5]? = some (.ref c5) := own_elem evV AV0 ev5 (by decide) nw15
  have VV : AV s s.heap va (.object "com/example/bearer/bearer/model/Registration") 6 (lst [(.ref c0), (.ref c1), (.ref c2), (.ref c3), (.ref c4), (.ref c5)]) := ⟨cv, AV0, hsz, by decide, fun i hi => by
    rcases (by omega : i = 0 ∨ i = 1 ∨ i = 2 ∨ i = 3 ∨ i = 4 ∨ i = 5) with rfl | rfl | rfl | rfl | rfl | rfl
    · exact el0
    · exact el1
    · exact el2
    · exact el3
    · exact el4
    · exact el5⟩
  have n01 : c0 ≠ c1 := Fld.ne Fc0 Fc1 (by decide)
  have n02 : c0 ≠ c2 := Fld.ne Fc0 Fc2 (by decide)
  have n03 : c0 ≠ c3 := Fld.ne Fc0 Fc3 (by decide)
  have n04 : c0 ≠ c4 := Fld.ne Fc0 Fc4 (by decide)
  have n05 : c0 ≠ c5 := Fld.ne Fc0 Fc5 (by decide)
  have n12 : c1 ≠ c2 := Fld.ne Fc1 Fc2 (by decide)
  have n13 : c1 ≠ c3 := Fld.ne Fc1 Fc3 (by decide)
  have n14 : c1 ≠ c4 := Fld.ne Fc1 Fc4 (by decide)
  have n15 : c1 ≠ c5 := Fld.ne Fc1 Fc5 (by decide)
  have n23 : c2 ≠ c3 := Fld.ne Fc2 Fc3 (by decide)
  have n24 : c2 ≠ c4 := Fld.ne Fc2 Fc4 (by decide)
  have n25 : c2 ≠ c5 := Fld.ne Fc2 Fc5 (by decide)
  have n34 : c3 ≠ c4 := Fld.ne Fc3 Fc4 (by decide)
  have n35 : c3 ≠ c5 := Fld.ne Fc3 Fc5 (by decide)
  have n45 : c4 ≠ c5 := Fld.ne Fc4 Fc5 (by decide)
  have nv0 : c0 ≠ va := ne_exa Ec0 EV (by decide)
  have nv1 : c1 ≠ va := ne_exa Ec1 EV (by decide)
  have nv2 : c2 ≠ va := ne_exa Ec2 EV (by decide)
  have nv3 : c3 ≠ va := ne_exa Ec3 EV (by decide)
  have nv4 : c4 ≠ va := ne_exa Ec4 EV (by decide)
  have nv5 : c5 ≠ va := ne_exa Ec5 EV (by decide)
  obtain ⟨n, o, h1, h2, h3, _, L, rfl, ⟨rfl, N⟩, hq⟩ := rm0 l s _ hw tables_1 i0 i1 c0 c1 c2 c3 c4 c5 va s.heap s.heap.size (Nat.le_refl _) Sc0 Sc1 Sc2 Sc3 Sc4 Sc5 Ec0 Ec1 Ec2 Ec3 Ec4 Ec5 Fc0 Fc1 Fc2 Fc3 Fc4 Fc5 SV EV VV n01 n02 n03 n04 n05 n12 n13 n14 n15 n23 n24 n25 n34 n35 n45 nv0 nv1 nv2 nv3 nv4 nv5 p e ha hc hk s m _ below hf ((Spec.applies_iff_loose hf).mp happ).1 ⟨rfl, State.Warmed39.refl s, rfl⟩ trivial
  refine ⟨n, _, h1, h2, h3, hpost _ _ _ _ _ _ ⟨Cond.after_iff.mpr rfl, Cond.after_iff.mpr (eq_i res_at (Term.int_eval (1)) rfl), trivial⟩ ⟨hq.1, hq.2.1, (hq.2.2.sift fun y hy => Or.inr (N y hy)).mono (by decide) (by decide)⟩⟩
theorem main_1_1 : Claimed_1_1 := comes_1 fun _ _ _ _ _ _ h hF => ⟨h.1, hF⟩
theorem main_1_2 : Claimed_1_2 := comes_1 fun _ _ _ _ _ _ h hF => ⟨h.2.1, hF⟩
end Jvm.Pilot.@@N@@
namespace Jvm.Pilot.@@N@@
open Jvm Jvm.ClassFile Sem Op Lib Jvm.Free Jvm.Stand Jvm.Pilot.@@N@@.Jvm.D
/-! MADE BY PROGRAM (witnessworld.py) out of the Statement's table words and the real class files: 13 classes; the members and pool entries that the words name. The judged class is class 1, her method 1. -/
namespace start1
open Jvm.ClassFile
def u (s : String) : CpInfo := .utf8 (stringToUtf16 s)
/-- a pool by its gaps: so many unusable entries, then the entry; so many at the end -/
def gap : Nat → List CpInfo → List CpInfo
  | 0, r => r
  | n + 1, r => .unusable :: gap n r
def poolList (es : List (Nat × CpInfo)) (last : Nat) : List CpInfo := es.foldr (fun e r => gap e.1 (e.2 :: r)) (gap last [])
def pool (es : List (Nat × CpInfo)) (last : Nat) : Array CpInfo := ⟨poolList es last⟩
def fileOf (pool : Array CpInfo) (this : Nat) (attrs : Array Attribute := #[]) (ms : Array MethodInfo := #[]) (fl : Nat := 33) (sup : Nat := 0) (ifs : Array Nat := #[]) (fds : Array FieldInfo := #[]) : ClassFile where
  minorVersion := 0
  majorVersion := 65
  constantPool := pool
  accessFlags := fl
  thisClass := this
  superClass := sup
  interfaces := ifs
  fields := fds
  methods := ms
  attributes := attrs
def plain (name : String) (sup : Option ClassId) : Class where
  name := name
  kind := .ordinary
  loader := none
  accessFlags := 33
  super := sup
  interfaces := #[]
  cf := none
  fields := #[]
  methods := #[]
  instanceTypes := #[]
  staticTypes := #[]
  resolved := #[]
  callSites := []
  init := .initialized
  statics := none
  mirror := none

def pool0 : Array CpInfo := pool [(5, u "<init>"), (0, u "()V"), (1, .class_ 10), (1, u "java/lang/Object"), (85, u "clone"), (0, u "()Ljava/lang/Object;")] 26

def k0m0 : Method := { name := "<init>", desc := "()V", sig := { parameters := [], returnType := none }, accessFlags := 1, code := none }
def k0m1 : Method := { name := "clone", desc := "()Ljava/lang/Object;", sig := { parameters := [], returnType := some (.object "java/lang/Object") }, accessFlags := 260, code := none }
/-- java/lang/Object -/
def k0 : Class := { plain "java/lang/Object" none with
  accessFlags := 33
  interfaces := #[]
  cf := some (fileOf pool0 8 #[] #[{ accessFlags := 1, nameIndex := 5, descriptorIndex := 6, attributes := #[] }, { accessFlags := 260, nameIndex := 96, descriptorIndex := 97, attributes := #[] }] 33 0 #[] #[])
  fields := #[]
  methods := #[k0m0, k0m1]
  instanceTypes := #[]
  staticTypes := #[]
  resolved := Array.replicate 124 none
  statics := none }

def pool1 : Array CpInfo := pool [(2, .class_ 4), (1, u "java/lang/Object"), (0, u "<init>"), (0, u "()V"), (0, .class_ 8), (0, u "com/example/bearer/bearer/model/Registration"), (0, .fieldref 7 10), (0, .nameAndType 11 12), (0, u "HOME"), (0, u "Lcom/example/bearer/bearer/model/Registration;"), (0, .fieldref 7 14), (0, .nameAndType 15 12), (0, u "ROAMING"), (0, .fieldref 7 17), (0, .nameAndType 18 12), (0, u "SEARCHING"), (0, .fieldref 7 20), (0, .nameAndType 21 12), (0, u "DENIED"), (0, .fieldref 7 23), (0, .nameAndType 24 12), (0, u "NOT_REGISTERED"), (0, .fieldref 7 26), (0, .nameAndType 27 12), (0, u "UNKNOWN"), (0, .integer 2147483647), (0, .methodref 7 30), (0, .nameAndType 31 32), (0, u "stat"), (0, u "()I"), (0, .methodref 7 34), (0, .nameAndType 35 36), (0, u "isRegistered"), (0, u "()Z"), (0, .methodref 7 38), (0, .nameAndType 39 40), (0, u "ofStat"), (0, u "(I)Lcom/example/bearer/bearer/model/Registration;"), (0, .class_ 42), (0, u "com/example/bearer/bearer/model/RegistrationIsRegisteredPinLaw"), (2, u "law"), (0, u "(II)Z")] 5

def k1m0 : Method := { name := "<init>", desc := "()V", sig := { parameters := [], returnType := none }, accessFlags := 1, code := none }
def k1c1 : Code := { maxStack := 4, maxLocals := 8, code := code, exceptionTable := #[], attributes := #[] }
def k1m1 : Method := { name := "law", desc := "(II)Z", sig := { parameters := [.int, .int], returnType := some .boolean }, accessFlags := 9, code := some k1c1 }
/-- com/example/bearer/bearer/model/RegistrationIsRegisteredPinLaw -/
def k1 : Class := { plain "com/example/bearer/bearer/model/RegistrationIsRegisteredPinLaw" (some 0) with
  accessFlags := 49
  interfaces := #[]
  cf := some (fileOf pool1 41 #[] #[{ accessFlags := 1, nameIndex := 5, descriptorIndex := 6, attributes := #[] }, { accessFlags := 9, nameIndex := 45, descriptorIndex := 46, attributes := #[] }] 49 2 #[] #[])
  fields := #[]
  methods := #[k1m0, k1m1]
  instanceTypes := #[]
  staticTypes := #[]
  resolved := Array.replicate 52 none
  statics := none }

def pool2 : Array CpInfo := pool [(1, .class_ 2), (0, u "java/lang/constant/Constable"), (0, .class_ 4), (0, u "java/lang/Object")] 6

/-- java/lang/constant/Constable -/
def k2 : Class := { plain "java/lang/constant/Constable" (some 0) with
  accessFlags := 1537
  interfaces := #[]
  cf := some (fileOf pool2 1 #[] #[] 1537 3 #[] #[])
  fields := #[]
  methods := #[]
  instanceTypes := #[]
  staticTypes := #[]
  resolved := Array.replicate 11 none
  statics := none }

def pool3 : Array CpInfo := pool [(1, .class_ 2), (0, u "java/lang/Comparable"), (0, .class_ 4), (0, u "java/lang/Object")] 7

/-- java/lang/Comparable -/
def k3 : Class := { plain "java/lang/Comparable" (some 0) with
  accessFlags := 1537
  interfaces := #[]
  cf := some (fileOf pool3 1 #[] #[] 1537 3 #[] #[])
  fields := #[]
  methods := #[]
  instanceTypes := #[]
  staticTypes := #[]
  resolved := Array.replicate 12 none
  statics := none }

def pool4 : Array CpInfo := pool [(1, .class_ 2), (0, u "java/io/Serializable"), (0, .class_ 4), (0, u "java/lang/Object")] 2

/-- java/io/Serializable -/
def k4 : Class := { plain "java/io/Serializable" (some 0) with
  accessFlags := 1537
  interfaces := #[]
  cf := some (fileOf pool4 1 #[] #[] 1537 3 #[] #[])
  fields := #[]
  methods := #[]
  instanceTypes := #[]
  staticTypes := #[]
  resolved := Array.replicate 7 none
  statics := none }

def pool5 : Array CpInfo := pool [(2, .class_ 4), (1, u "java/lang/Enum"), (0, u "name"), (0, u "Ljava/lang/String;"), (2, u "ordinal"), (0, u "I"), (1, .class_ 14), (1, u "java/lang/Object"), (4, u "hash"), (86, .class_ 108), (1, u "java/lang/Enum$EnumDesc"), (2, .class_ 112), (0, u "java/lang/constant/Constable"), (0, .class_ 114), (0, u "java/lang/Comparable"), (0, .class_ 116), (0, u "java/io/Serializable")] 87

/-- java/lang/Enum -/
def k5 : Class := { plain "java/lang/Enum" (some 0) with
  accessFlags := 1057
  interfaces := #[2, 3, 4]
  cf := some (fileOf pool5 2 #[.nestMembers #[106]] #[] 1057 12 #[111, 113, 115] #[{ accessFlags := 18, nameIndex := 5, descriptorIndex := 6, attributes := #[] }, { accessFlags := 18, nameIndex := 9, descriptorIndex := 10, attributes := #[] }, { accessFlags := 2, nameIndex := 19, descriptorIndex := 10, attributes := #[] }])
  fields := #[{ name := "name", type := (.object "java/lang/String"), accessFlags := 18, slot := 0, constantValue := 0 }, { name := "ordinal", type := .int, accessFlags := 18, slot := 1, constantValue := 0 }, { name := "hash", type := .int, accessFlags := 2, slot := 2, constantValue := 0 }]
  methods := #[]
  instanceTypes := #[(.object "java/lang/String"), .int, .int]
  staticTypes := #[]
  resolved := Array.replicate 204 none
  statics := none }

def pool6 : Array CpInfo := pool [(1, .class_ 2), (0, u "com/example/bearer/bearer/model/Registration"), (0, .fieldref 1 4), (0, .nameAndType 5 6), (0, u "HOME"), (0, u "Lcom/example/bearer/bearer/model/Registration;"), (0, .fieldref 1 8), (0, .nameAndType 9 6), (0, u "ROAMING"), (2, u "SEARCHING"), (2, u "DENIED"), (2, u "NOT_REGISTERED"), (0, .fieldref 1 20), (0, .nameAndType 21 6), (0, u "UNKNOWN"), (0, .fieldref 1 23), (0, .nameAndType 24 25), (0, u "$VALUES"), (0, u "[Lcom/example/bearer/bearer/model/Registration;"), (0, .methodref 27 28), (0, .class_ 25), (0, .nameAndType 29 30), (0, u "clone"), (0, u "()Ljava/lang/Object;"), (1, .class_ 34), (1, u "java/lang/Enum"), (6, .fieldref 1 42), (0, .nameAndType 43 44), (0, u "stat"), (0, u "I"), (6, .methodref 1 52), (0, .nameAndType 53 54), (0, u "values"), (0, u "()[Lcom/example/bearer/bearer/model/Registration;"), (24, u "()I"), (0, u "isRegistered"), (0, u "()Z"), (3, u "ofStat"), (0, u "(I)Lcom/example/bearer/bearer/model/Registration;")] 5

def k6c0 : Code := { maxStack := 1, maxLocals := 0, code := prog_29_method_1_code, exceptionTable := #[], attributes := #[] }
def k6m0 : Method := { name := "values", desc := "()[Lcom/example/bearer/bearer/model/Registration;", sig := { parameters := [], returnType := some (.array (.object "com/example/bearer/bearer/model/Registration")) }, accessFlags := 9, code := some k6c0 }
def k6c1 : Code := { maxStack := 1, maxLocals := 1, code := prog_29_method_5_code, exceptionTable := #[], attributes := #[] }
def k6m1 : Method := { name := "stat", desc := "()I", sig := { parameters := [], returnType := some .int }, accessFlags := 1, code := some k6c1 }
def k6c2 : Code := { maxStack := 2, maxLocals := 1, code := prog_29_method_6_code, exceptionTable := #[], attributes := #[] }
def k6m2 : Method := { name := "isRegistered", desc := "()Z", sig := { parameters := [], returnType := some .boolean }, accessFlags := 1, code := some k6c2 }
def k6c3 : Code := { maxStack := 2, maxLocals := 5, code := prog_29_method_8_code, exceptionTable := #[], attributes := #[] }
def k6m3 : Method := { name := "ofStat", desc := "(I)Lcom/example/bearer/bearer/model/Registration;", sig := { parameters := [.int], returnType := some (.object "com/example/bearer/bearer/model/Registration") }, accessFlags := 9, code := some k6c3 }
/-- com/example/bearer/bearer/model/Registration -/
def k6 : Class := { plain "com/example/bearer/bearer/model/Registration" (some 5) with
  accessFlags := 16433
  interfaces := #[]
  cf := some (fileOf pool6 1 #[] #[{ accessFlags := 9, nameIndex := 53, descriptorIndex := 54, attributes := #[] }, { accessFlags := 1, nameIndex := 43, descriptorIndex := 79, attributes := #[] }, { accessFlags := 1, nameIndex := 80, descriptorIndex := 81, attributes := #[] }, { accessFlags := 9, nameIndex := 85, descriptorIndex := 86, attributes := #[] }] 16433 32 #[] #[{ accessFlags := 16409, nameIndex := 5, descriptorIndex := 6, attributes := #[] }, { accessFlags := 16409, nameIndex := 9, descriptorIndex := 6, attributes := #[] }, { accessFlags := 16409, nameIndex := 12, descriptorIndex := 6, attributes := #[] }, { accessFlags := 16409, nameIndex := 15, descriptorIndex := 6, attributes := #[] }, { accessFlags := 16409, nameIndex := 18, descriptorIndex := 6, attributes := #[] }, { accessFlags := 16409, nameIndex := 21, descriptorIndex := 6, attributes := #[] }, { accessFlags := 18, nameIndex := 43, descriptorIndex := 44, attributes := #[] }, { accessFlags := 4122, nameIndex := 24, descriptorIndex := 25, attributes := #[] }])
  fields := #[{ name := "HOME", type := (.object "com/example/bearer/bearer/model/Registration"), accessFlags := 16409, slot := 0, constantValue := 0 }, { name := "ROAMING", type := (.object "com/example/bearer/bearer/model/Registration"), accessFlags := 16409, slot := 1, constantValue := 0 }, { name := "SEARCHING", type := (.object "com/example/bearer/bearer/model/Registration"), accessFlags := 16409, slot := 2, constantValue := 0 }, { name := "DENIED", type := (.object "com/example/bearer/bearer/model/Registration"), accessFlags := 16409, slot := 3, constantValue := 0 }, { name := "NOT_REGISTERED", type := (.object "com/example/bearer/bearer/model/Registration"), accessFlags := 16409, slot := 4, constantValue := 0 }, { name := "UNKNOWN", type := (.object "com/example/bearer/bearer/model/Registration"), accessFlags := 16409, slot := 5, constantValue := 0 }, { name := "stat", type := .int, accessFlags := 18, slot := 3, constantValue := 0 }, { name := "$VALUES", type := (.array (.object "com/example/bearer/bearer/model/Registration")), accessFlags := 4122, slot := 6, constantValue := 0 }]
  methods := #[k6m0, k6m1, k6m2, k6m3]
  instanceTypes := #[(.object "java/lang/String"), .int, .int, .int]
  staticTypes := #[(.object "com/example/bearer/bearer/model/Registration"), (.object "com/example/bearer/bearer/model/Registration"), (.object "com/example/bearer/bearer/model/Registration"), (.object "com/example/bearer/bearer/model/Registration"), (.object "com/example/bearer/bearer/model/Registration"), (.object "com/example/bearer/bearer/model/Registration"), (.array (.object "com/example/bearer/bearer/model/Registration"))]
  resolved := Array.replicate 92 none
  statics := some 0 }

def pool7 : Array CpInfo := pool [(1, .class_ 2), (0, u "java/lang/Cloneable"), (0, .class_ 4), (0, u "java/lang/Object")] 2

/-- java/lang/Cloneable -/
def k7 : Class := { plain "java/lang/Cloneable" (some 0) with
  accessFlags := 1537
  interfaces := #[]
  cf := some (fileOf pool7 1 #[] #[] 1537 3 #[] #[])
  fields := #[]
  methods := #[]
  instanceTypes := #[]
  staticTypes := #[]
  resolved := Array.replicate 7 none
  statics := none }

/-- the primitive byte -/
def k8 : Class := { plain "byte" none with kind := .primitive 'B', accessFlags := 0x411 }
/-- [B -/
def k9 : Class := { plain "[B" (some 0) with kind := .array 8 .byte, interfaces := #[7, 4], accessFlags := 1041 }

/-- the primitive int -/
def k10 : Class := { plain "int" none with kind := .primitive 'I', accessFlags := 0x411 }
/-- [I -/
def k11 : Class := { plain "[I" (some 0) with kind := .array 10 .int, interfaces := #[7, 4], accessFlags := 1041 }

/-- [Lcom/example/bearer/bearer/model/Registration; -/
def k12 : Class := { plain "[Lcom/example/bearer/bearer/model/Registration;" (some 0) with kind := .array 6 (.object "com/example/bearer/bearer/model/Registration"), interfaces := #[7, 4], accessFlags := 1041 }

def heap : Heap := #[{ cls := 6, slots := #[.ref 2, .ref 3, .ref 4, .ref 5, .ref 6, .ref 7, .ref 1], vm := .statics 6 },
  { cls := 12, slots := #[.ref 2, .ref 3, .ref 4, .ref 5, .ref 6, .ref 7], vm := .none },
  { cls := 6, slots := #[.null, .int 0, .int 0, .int 1], vm := .none },
  { cls := 6, slots := #[.null, .int 1, .int 0, .int 5], vm := .none },
  { cls := 6, slots := #[.null, .int 2, .int 0, .int 2], vm := .none },
  { cls := 6, slots := #[.null, .int 3, .int 0, .int 3], vm := .none },
  { cls := 6, slots := #[.null, .int 4, .int 0, .int 0], vm := .none },
  { cls := 6, slots := #[.null, .int 5, .int 0, .int 4], vm := .none }]
def classes : Array Class := #[k0, k1, k2, k3, k4, k5, k6, k7, k8, k9, k10, k11, k12]
def interned : List (Array UInt16 × Addr) := []
def slotsUsed : Nat := 37
def theMethod : MethodId := ⟨1, 1⟩
def args0 : Array Value := #[.int 5, .int 5]
def aboutOver (below : List Frame) : State where
  vm := { classes := classes, interned := interned.toArray }
  heap := heap
  slotsUsed := slotsUsed
  threads := #[{ frames := .invoking theMethod args0 :: below }]
def below0 : List Frame := [.native { method := ⟨0, 0⟩, args := #[] }]
def about1 : State := aboutOver below0
def p0 : Program := .bare "" "" ""
def e0 : Env := launch0.env 0 0 0
theorem w_frames : about1.frames = Frame.invoking theMethod args0 :: below0 := rfl
set_option maxRecDepth 65536 in
theorem w_args : argsFit about1.vm theMethod args0 = true := by decide +kernel
set_option maxRecDepth 65536 in
theorem w_heap : heapFits about1 = true := by decide +kernel
set_option maxRecDepth 65536 in
theorem w_runnable : about1.curStatus? = some .runnable := by decide +kernel
set_option maxRecDepth 65536 in
theorem w_alone : about1.alone = true := by decide +kernel
set_option maxRecDepth 65536 in
theorem w_named : about1.methodNamed? x = some theMethod := by decide +kernel
set_option maxRecDepth 65536 in
theorem w_hears : about1.hears theMethod below0 = true := by decide +kernel
set_option maxRecDepth 65536 in
theorem w_ripe : about1.ripe theMethod args0 below0 = true := by decide +kernel
theorem w_running : about1.status = .running := rfl
set_option maxRecDepth 65536 in
theorem w_room : about1.hasRoom e0.platform room_1 = true :=
  launch0.hasRoom_least _ room_1 (by decide +kernel) (by decide +kernel) (by decide +kernel) (by decide +kernel) (by decide +kernel) (by decide +kernel)
theorem allAtoms_all (ts : List Jvm.Cond) (a : Array Jvm.Value) (st : Jvm.State) : (allAtoms ts).before a st = ts.all (fun c => c.before a st) := by
  induction ts with
  | nil => rfl
  | cons c t ih =>
    show (Jvm.Cond.and c (allAtoms t)).before a st = _
    rw [Jvm.Cond.before_and, ih, List.all_cons]
def words1 : List Jvm.Cond := Jvm.Cond.code x code maxLocals ret :: tables_1
/-- a 'code' word, met by the world's own term for the bytes: nothing is compared byte by byte -/
theorem code_word {y : MethodName} {bytes : ByteArray} {mx : Nat} {rt : Option FieldType} {a : Array Value} {s : State} {m : MethodId} {meth : Method} {c : Code} (h1 : s.methodNamed? y = some m) (h2 : s.vm.method? m = some meth) (h3 : meth.code = some c) (h4 : c.code = bytes)
    (h5 : (c.maxLocals == mx && c.exceptionTable.isEmpty && decide (c.maxStack ≤ mostOperands) && decide (meth.sig.returnType = rt) && !meth.locks && decide (parseMethodDescriptor y.desc = some meth.sig)) = true) : (Jvm.Cond.code y bytes mx rt).before a s = true := by
  simp only [Bool.and_eq_true, beq_iff_eq, Bool.not_eq_true', decide_eq_true_eq] at h5
  obtain ⟨⟨⟨⟨⟨g1, g2⟩, g3⟩, g4⟩, g5⟩, g6⟩ := h5
  simp [Cond.before, Cond.holds, Cond.value, h1, h2, h3, h4, g1, g2, g3, g4, g5, g6]
def isCode : Jvm.Cond → Bool
  | .code _ _ _ _ => true
  | _ => false
theorem all_split {L : List Jvm.Cond} {P : Jvm.Cond → Bool} (h1 : L.all (fun c => isCode c || P c) = true) (h2 : ∀ c ∈ L.filter isCode, P c = true) : L.all P = true := by
  refine List.all_eq_true.mpr fun c hc => ?_
  have h := List.all_eq_true.mp h1 c hc
  rcases Bool.eq_false_or_eq_true (isCode c) with hi | hi
  · exact h2 c (List.mem_filter.mpr ⟨hc, hi⟩)
  · simpa [hi] using h
set_option maxRecDepth 65536 in
theorem w_c0 : (Jvm.Cond.code x code maxLocals ret).before args0 about1 = true := code_word (m := ⟨1, 1⟩) (meth := k1m1) (c := k1c1) (by decide +kernel) rfl rfl rfl (by decide +kernel)
set_option maxRecDepth 65536 in
theorem w_c1 : (Jvm.Cond.code ({ cls := "com/example/bearer/bearer/model/Registration", name := "stat", desc := "()I" } : Jvm.MethodName) prog_29_method_5_code (1 : Nat) (Option.some Jvm.ClassFile.FieldType.int)).before args0 about1 = true := code_word (m := ⟨6, 1⟩) (meth := k6m1) (c := k6c1) (by decide +kernel) rfl rfl rfl (by decide +kernel)
set_option maxRecDepth 65536 in
theorem w_c2 : (Jvm.Cond.code ({ cls := "com/example/bearer/bearer/model/Registration", name := "isRegistered", desc := "()Z" } : Jvm.MethodName) prog_29_method_6_code (1 : Nat) (Option.some Jvm.ClassFile.FieldType.boolean)).before args0 about1 = true := code_word (m := ⟨6, 2⟩) (meth := k6m2) (c := k6c2) (by decide +kernel) rfl rfl rfl (by decide +kernel)
set_option maxRecDepth 65536 in
theorem w_c3 : (Jvm.Cond.code ({ cls := "com/example/bearer/bearer/model/Registration", name := "ofStat", desc := "(I)Lcom/example/bearer/bearer/model/Registration;" } : Jvm.MethodName) prog_29_method_8_code (5 : Nat) (Option.some (Jvm.ClassFile.FieldType.object "com/example/bearer/bearer/model/Registration"))).before args0 about1 = true := code_word (m := ⟨6, 3⟩) (meth := k6m3) (c := k6c3) (by decide +kernel) rfl rfl rfl (by decide +kernel)
set_option maxRecDepth 65536 in
theorem w_c4 : (Jvm.Cond.code ({ cls := "com/example/bearer/bearer/model/Registration", name := "values", desc := "()[Lcom/example/bearer/bearer/model/Registration;" } : Jvm.MethodName) prog_29_method_1_code (0 : Nat) (Option.some (Jvm.ClassFile.FieldType.array (Jvm.ClassFile.FieldType.object "com/example/bearer/bearer/model/Registration")))).before args0 about1 = true := code_word (m := ⟨6, 0⟩) (meth := k6m0) (c := k6c0) (by decide +kernel) rfl rfl rfl (by decide +kernel)
def codes1 : List Jvm.Cond := [Jvm.Cond.code x code maxLocals ret, Jvm.Cond.code ({ cls := "com/example/bearer/bearer/model/Registration", name := "stat", desc := "()I" } : Jvm.MethodName) prog_29_method_5_code (1 : Nat) (Option.some Jvm.ClassFile.FieldType.int), Jvm.Cond.code ({ cls := "com/example/bearer/bearer/model/Registration", name := "isRegistered", desc := "()Z" } : Jvm.MethodName) prog_29_method_6_code (1 : Nat) (Option.some Jvm.ClassFile.FieldType.boolean), Jvm.Cond.code ({ cls := "com/example/bearer/bearer/model/Registration", name := "ofStat", desc := "(I)Lcom/example/bearer/bearer/model/Registration;" } : Jvm.MethodName) prog_29_method_8_code (5 : Nat) (Option.some (Jvm.ClassFile.FieldType.object "com/example/bearer/bearer/model/Registration")), Jvm.Cond.code ({ cls := "com/example/bearer/bearer/model/Registration", name := "values", desc := "()[Lcom/example/bearer/bearer/model/Registration;" } : Jvm.MethodName) prog_29_method_1_code (0 : Nat) (Option.some (Jvm.ClassFile.FieldType.array (Jvm.ClassFile.FieldType.object "com/example/bearer/bearer/model/Registration")))]
set_option maxRecDepth 65536 in
theorem codes_eq : words1.filter isCode = codes1 := rfl
theorem w_codes : ∀ c ∈ words1.filter isCode, c.before args0 about1 = true := by
  rw [codes_eq]
  intro c hc
  simp only [codes1, List.mem_cons, List.not_mem_nil, or_false] at hc
  rcases hc with rfl | rfl | rfl | rfl | rfl
  · exact w_c0
  · exact w_c1
  · exact w_c2
  · exact w_c3
  · exact w_c4
set_option maxRecDepth 65536 in
theorem w_t1 : (words1.take 24).all (fun c => isCode c || c.before args0 about1) = true := by decide +kernel
set_option maxRecDepth 65536 in
theorem w_t2 : ((words1.drop 24).take 24).all (fun c => isCode c || c.before args0 about1) = true := by decide +kernel
set_option maxRecDepth 65536 in
theorem w_t3 : ((words1.drop 24).drop 24).all (fun c => isCode c || c.before args0 about1) = true := by decide +kernel
theorem w_tables : (allAtoms (Jvm.Cond.code x code maxLocals ret :: tables_1)).before args0 about1 = true := by
  rw [allAtoms_all]
  show words1.all (fun c => c.before args0 about1) = true
  refine all_split ?_ w_codes
  rw [← List.take_append_drop 24 words1, List.all_append, w_t1, ← List.take_append_drop 24 (words1.drop 24), List.all_append, w_t2, w_t3]
  rfl
set_option maxRecDepth 65536 in
theorem w_case : (Jvm.Cond.and given_1 narrow_1).before args0 about1 = true := by decide +kernel
theorem w_applies : (headSpec (Jvm.Cond.code x code maxLocals ret :: tables_1) room_1).applies x e0.platform about1 = true :=
  (Spec.applies_iff w_frames).mpr ⟨w_running, w_runnable, w_alone, w_named, w_hears, w_ripe, w_room, w_tables⟩
theorem atStart : AtStart classFile x code maxLocals ret World_1 tables_1 room_1 Calls_1 rest_1 Pre_1 launch0 p0 e0 about1 theMethod args0 below0 :=
  ⟨lists_1, trivial, launch0.admits_env _ _ _, launch0.least_env, fairChoices_fair.cas, fairChoices_fair.clock, w_frames, w_args, w_heap, w_applies, trivial, trivial, w_case⟩
end start1
theorem witness_1 : WitnessClaimed_1 := ⟨start1.p0, start1.e0, start1.about1, start1.theMethod, start1.args0, start1.below0, start1.atStart⟩
end Jvm.Pilot.@@N@@
