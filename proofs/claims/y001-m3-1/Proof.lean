import JvmDerived
import JvmDerived.Pilot.@@N@@Statement
import JvmDerived.Pilot.@@N@@Code
set_option linter.unusedVariables false
set_option linter.unusedSimpArgs false
namespace Jvm.RoadKit
open Sem ClassFile Op Lib Jvm.Stand Jvm.Free Jvm.LawKit
section New
variable {p : Program} {l : Launch} {e : Env} {R : Room} {s : State} {m : MethodId} {args : Array Value} {below : List Frame} {meth : Method} {c : Code} {T : State} {locs : List Loc} {cells slots : Nat}
theorem retI (X : Stand p l e R s m args below meth c T locs cells slots) (hx : p.tables.exec = Jvm.exec) {pc : Nat} {Ls : Array Slot} {z : Int32} {rest : List Value} (hret : meth.sig.returnType = some .int) (hd : decode c.code pc = .ok (.ireturn, 1)) {fs : List Frame}
    (hl : ∀ (f : JFrame) (acts : List Action), f.method = m → f.locked = none → f.entered = [] → (doReturn e (T.setTop f) acts (some (.int z))).1 = T.setFrames fs) : Steps p.tables e below (T.setTop (mkF m pc Ls (.int z :: rest))) (T.setFrames fs) := by
  have hm' : T.vm.method? m = some meth := X.method'
  have hn : narrow .int (.int z) = .int z := rfl
  show Steps p.tables e below (T.setTop { method := m, pc := pc, locals := Ls, stack := _ :: rest, locked := none }) _
  jvm_step X.here [X.here.top, hx, hd, hm', hret, hn]
  first | (intro acts; rw [hl _ acts rfl rfl rfl]) | rw [hl _ _ rfl rfl rfl]
  exact Steps.refl _
end New
end Jvm.RoadKit
namespace Jvm.Pilot.@@N@@
open Jvm Jvm.ClassFile Sem Op Lib Jvm.Free Jvm.Stand Jvm.LawKit Jvm.RoadKit Bundle Jvm.Pilot.@@N@@.Jvm.D
/-- the run from a frame of this method ends in a return with Q -/
def Go (p : Program) (e : Env) (s : State) (below : List Frame) (kc ks : Nat) (Q : Option Value → Heap → List Loc → Prop) (T : State) (f : JFrame) : Prop :=
  ∃ s₂ o, Steps p.tables e below (T.setTop f) s₂ ∧ s₂.status = .running ∧ Ended s₂ below o ∧ ∃ v L, o = .returned v ∧ Q v s₂.heap L ∧ FrameEnd s o s₂ L kc ks
/-- what is known of the method that runs -/
def Cx (p : Program) (s : State) (m : MethodId) (meth : Method) (c : Code) (Z : State) (own nm : String) (code : ByteArray) (maxL : Nat) (ret : Option FieldType) : Prop :=
  p.tables.exec = Jvm.exec ∧ Z.Warmed39 s.vm ∧ c.code = code ∧ c.maxLocals = maxL ∧ s.vm.findClass own = some m.cls ∧ meth.name = nm ∧ meth.sig.returnType = ret ∧ meth.locks = false
/-- a contract -/
def Ctr (l : Launch) (Z : State) (y : MethodName) (bytes : ByteArray) (maxL : Nat) (ret : Option FieldType) (ws : List Jvm.Cond) (rm : Room) (kc ks : Nat) (as : Array Value) (h : Heap) (Q : Option Value → Heap → List Loc → Prop) : Prop :=
  MetFree l y (head1 (Jvm.Cond.code y bytes maxL ret :: ws) rm) (fun a U => a = as ∧ Z.Warmed39 U.vm ∧ U.heap = h) (fun _ _ _ _ _ => True) (fun _ U o U' => ∃ v L, o = .returned v ∧ Q v U'.heap L ∧ FrameEnd U o U' L kc ks)
def bi (P : Prop) [Decidable P] : Int32 := if P then 1 else 0
theorem bi_t {P : Prop} [Decidable P] (h : P) : bi P = 1 := if_pos h
theorem bi_f {P : Prop} [Decidable P] (h : ¬ P) : bi P = 0 := if_neg h
theorem bi_n {P : Prop} [Decidable P] (h : P) : ¬ bi P = 0 := by rw [bi_t h]; decide
theorem bi_1 {P : Prop} [Decidable P] : bi P = 1 ↔ P := by unfold bi; split <;> simp_all
theorem bi_0 {P : Prop} [Decidable P] : bi P = 0 ↔ ¬ P := by unfold bi; split <;> simp_all
theorem bi_eq {P P' : Prop} [Decidable P] [Decidable P'] : bi P = bi P' ↔ (P ↔ P') := by unfold bi; split <;> split <;> simp_all
theorem bi_congr {P P' : Prop} [Decidable P] [Decidable P'] (h : P ↔ P') : bi P = bi P' := bi_eq.mpr h
theorem bi_fits {P : Prop} [Decidable P] : fits .boolean (.int (bi P)) = true := by unfold bi; split <;> rfl
theorem bi_nar {P : Prop} [Decidable P] : nar .boolean (bi P) = bi P := by unfold bi; split <;> rfl
section Own
variable {p : Program} {l : Launch} {e : Env} {R : Room} {s : State} {m : MethodId} {args : Array Value} {below : List Frame} {meth : Method} {c : Code} {T : State} {locs : List Loc} {cells slots kc ks : Nat} {Q : Option Value → Heap → List Loc → Prop} {Z : State} {a0 : Array Value} {h : Heap}
theorem Go.step {T' : State} {f f' : JFrame} (st : ∀ t, Steps p.tables e below (T'.setTop f') t → Steps p.tables e below (T.setTop f) t) (k : Go p e s below kc ks Q T' f') : Go p e s below kc ks Q T f := by
  obtain ⟨s₂, o, h1, r⟩ := k; exact ⟨s₂, o, st _ h1, r⟩
theorem Go.mono {Q' : Option Value → Heap → List Loc → Prop} {f : JFrame} (k : Go p e s below kc ks Q T f) (h : ∀ v h L, Q v h L → Q' v h L) : Go p e s below kc ks Q' T f := by
  obtain ⟨s₂, o, h1, h2, h3, v, L, h4, h5, h6⟩ := k; exact ⟨s₂, o, h1, h2, h3, v, L, h4, h _ _ _ h5, h6⟩
theorem Ctr.mk {y : MethodName} {bytes : ByteArray} {maxL : Nat} {ret : Option FieldType} {ws : List Jvm.Cond} {rm : Room} {as : Array Value} (hp : plainFor y = true)
    (hgo : ∀ (p : Program) (e : Env) (s : State) (m : MethodId) (below : List Frame) (meth : Method) (c : Code) (s₁ : State), Stand p l e rm s m as below meth c s₁ [] 0 0 → Cx p s m meth c Z y.cls y.name bytes maxL ret → s₁.heap = h → Go p e s below kc ks Q s₁ (entryFrame m as maxL)) :
    Ctr l Z y bytes maxL ret ws rm kc ks as h Q := by
  refine MetFree.of_bodySF hp hisR ?_
  intro p e s m args below meth c s₁ Bd hml0 hP hK
  obtain ⟨rfl, hZ, hh⟩ := hP
  exact hgo p e s m below meth c s₁ (Stand.of_body Bd) ⟨Bd.exec, hZ, Bd.bytes, hml0, findClass_of_methodNamed Bd.named, (name_of_methodNamed Bd.named Bd.method).1, Bd.returns, Bd.notSynchronized⟩ (by rw [← hh, Bd.state]; rfl)
theorem go_cast {f f' : JFrame} (q : f = f') (k : Go p e s below kc ks Q T f') : Go p e s below kc ks Q T f := q ▸ k
theorem go_retI (X : Stand p l e R s m args below meth c T locs cells slots) (hx : p.tables.exec = Jvm.exec) (hret : meth.sig.returnType = some .int) (hlk : meth.locks = false) {pc : Nat} {Ls : Array Slot} {z : Int32} {rest : List Value} (hd : decode c.code pc = .ok (.ireturn, 1))
    (hQ : Q (some (.int z)) T.heap locs) (hc : cells ≤ kc) (hs : slots ≤ ks) : Go p e s below kc ks Q T (mkF m pc Ls (.int z :: rest)) := by
  obtain ⟨fs, hr, hrun, hended, hW, hsame⟩ := X.leave (v := some (.int z)) (fun h => by rw [hret] at h; cases h) hlk
  exact ⟨_, _, retI X hx hret hd hr, hrun, hended, _, _, rfl, hQ, ⟨_, rfl⟩, hW, hsame.mono hc hs⟩
theorem go_retN (X : Stand p l e R s m args below meth c T locs cells slots) (hx : p.tables.exec = Jvm.exec) {t : FieldType} (hret : meth.sig.returnType = some t) (ht : t = .boolean ∨ t = .byte ∨ t = .char ∨ t = .short) (hlk : meth.locks = false) {pc : Nat} {Ls : Array Slot} {z w : Int32} {rest : List Value} (hd : decode c.code pc = .ok (.ireturn, 1))
    (hz : nar t z = w) (hQ : Q (some (.int w)) T.heap locs) (hc : cells ≤ kc) (hs : slots ≤ ks) : Go p e s below kc ks Q T (mkF m pc Ls (.int z :: rest)) := by
  subst hz
  obtain ⟨fs, hr, hrun, hended, hW, hsame⟩ := X.leave (v := some (.int (nar t z))) (fun h => by rw [hret] at h; cases h) hlk
  exact ⟨_, _, retN X hx hret ht hd hr, hrun, hended, _, _, rfl, hQ, ⟨_, rfl⟩, hW, hsame.mono hc hs⟩
theorem go_retJ (X : Stand p l e R s m args below meth c T locs cells slots) (hx : p.tables.exec = Jvm.exec) (hret : meth.sig.returnType = some .long) (hlk : meth.locks = false) {pc : Nat} {Ls : Array Slot} {z : Int64} (hd : decode c.code pc = .ok (.lreturn, 1))
    (hQ : Q (some (.long z)) T.heap locs) (hc : cells ≤ kc) (hs : slots ≤ ks) : Go p e s below kc ks Q T (mkF m pc Ls [.long z]) := by
  obtain ⟨fs, hr, hrun, hended, hW, hsame⟩ := X.leave (v := some (.long z)) (fun h => by rw [hret] at h; cases h) hlk
  exact ⟨_, _, X.lreturnOut hx hret hd hr, hrun, hended, _, _, rfl, hQ, ⟨_, rfl⟩, hW, hsame.mono hc hs⟩
theorem go_retA (X : Stand p l e R s m args below meth c T locs cells slots) (hx : p.tables.exec = Jvm.exec) {t : FieldType} (hret : meth.sig.returnType = some t) (ht : t.isReference = true) (hlk : meth.locks = false) {pc : Nat} {Ls : Array Slot} {w : Value} {rest : List Value} (hw : w.isRef = true) (hd : decode c.code pc = .ok (.areturn, 1))
    (hQ : Q (some w) T.heap locs) (hc : cells ≤ kc) (hs : slots ≤ ks) : Go p e s below kc ks Q T (mkF m pc Ls (w :: rest)) := by
  obtain ⟨fs, hr, hrun, hended, hW, hsame⟩ := X.leave (v := some w) (fun h => by rw [hret] at h; cases h) hlk
  have hn : narrow t w = w := by cases t <;> first | rfl | simp [FieldType.isReference] at ht
  exact ⟨_, _, retOut X hx hret hn (Or.inr (Or.inr (Or.inr (Or.inr ⟨rfl, ht, hw⟩)))) hd hr, hrun, hended, _, _, rfl, hQ, ⟨_, rfl⟩, hW, hsame.mono hc hs⟩
theorem go_ret (X : Stand p l e R s m args below meth c T locs cells slots) (hx : p.tables.exec = Jvm.exec) (hret : meth.sig.returnType = none) (hlk : meth.locks = false) {pc : Nat} {Ls : Array Slot} (hd : decode c.code pc = .ok (.return_, 1))
    (hQ : Q none T.heap locs) (hc : cells ≤ kc) (hs : slots ≤ ks) : Go p e s below kc ks Q T (mkF m pc Ls []) := by
  obtain ⟨fs, hr, hrun, hended, hW, hsame⟩ := X.leave (v := none) (fun _ => rfl) hlk
  exact ⟨_, _, X.returnOut hx hret hd hr, hrun, hended, _, _, rfl, hQ, ⟨_, rfl⟩, hW, hsame.mono hc hs⟩
/-! calls by a contract -/
section Calls
variable {own : String} {index : Nat} {y : MethodName} {bytes : ByteArray} {maxL : Nat} {ret r : Option FieldType} {rm : Room} {Qc : Option Value → Heap → List Loc → Prop} {argsL rest : List Value} {ps : List FieldType} {pc W : Nat} {Ls : Array Slot} {a : Addr}
theorem c_static (X : Stand p l e R s m args below meth c T locs cells slots) (hx : p.tables.exec = Jvm.exec) (hZ : Z.Warmed39 s.vm) (hown : s.vm.findClass own = some m.cls)
    (w1 : (Jvm.Cond.methodLink own index y).before a0 Z = true) (w2 : (Jvm.Cond.static y).before a0 Z = true) (w3 : (Jvm.Cond.initialized y.cls).before a0 Z = true) (w4 : (Jvm.Cond.code y bytes maxL ret).before a0 Z = true) (hy : y.cls ≠ "java/lang/invoke/MethodHandle" ∧ y.cls ≠ "java/lang/invoke/VarHandle")
    (hC : Ctr l Z y bytes maxL ret [] rm rm.cells rm.slots argsL.toArray h Qc) (eT : T.heap = h) (hpd : parseMethodDescriptor y.desc = some ⟨ps, r⟩) (hlen : argsL.length = ps.length) (hsz : Ls.size = c.maxLocals) (hW : 2 * 0 + (rest.map fun v => v.category).sum ≤ W)
    (hf : rm.frames + 1 ≤ R.frames) (hl : W + (maxL + 11) + rm.locals ≤ R.locals) (hc : cells + rm.cells ≤ R.cells) (hs : slots + rm.slots ≤ R.slots) (hd : decode c.code pc = .ok (.invokestatic index, 3)) :
    ∃ (v : Option Value) (T' : State) (L : List Loc), Stand p l e R s m args below meth c T' (locs ++ L) (cells + rm.cells) (slots + rm.slots) ∧ Qc v T'.heap L ∧
      ∀ t, Steps p.tables e below (T'.setTop (mkF m (pc + 3) Ls (v.toList ++ rest))) t → Steps p.tables e below (T.setTop (mkF m pc Ls (argsL.reverse ++ rest))) t := by
  obtain ⟨v, _, ⟨T', L', k', n'⟩, -, X', ⟨L, hQ, rfl, rfl, rfl⟩, st⟩ := Jvm.LawKit.callS X hx (y := y) hown (mvT hZ w1) (mvT hZ w2) (mvT hZ w3) (mvT hZ w4) hy (backOf (W := W) hC hZ w4 w3 hf hl) (g := mkF m pc Ls (argsL.reverse ++ rest)) rfl hsz (argsL := argsL) (rest := rest) (lenOf hpd hlen) rfl hW hd (fun _ _ => ⟨rfl, eT, hc, hs⟩)
  exact ⟨v, T', L, X', hQ, st⟩
theorem c_init (X : Stand p l e R s m args below meth c T locs cells slots) (hx : p.tables.exec = Jvm.exec) (hZ : Z.Warmed39 s.vm) (hown : s.vm.findClass own = some m.cls)
    (w1 : (Jvm.Cond.methodLink own index y).before a0 Z = true) (w2 : (Jvm.Cond.instanceMethod y).before a0 Z = true) (w3 : (Jvm.Cond.initialized y.cls).before a0 Z = true) (w4 : (Jvm.Cond.code y bytes maxL none).before a0 Z = true) (hn : y.name = "<init>") (hy : y.cls ≠ "java/lang/invoke/MethodHandle" ∧ y.cls ≠ "java/lang/invoke/VarHandle")
    (hC : Ctr l Z y bytes maxL none [] rm rm.cells rm.slots (.ref a :: argsL).toArray h Qc) (eT : T.heap = h) (hpd : parseMethodDescriptor y.desc = some ⟨ps, r⟩) (hlen : argsL.length = ps.length) (hsz : Ls.size = c.maxLocals) (hW : 2 * 0 + (rest.map fun v => v.category).sum ≤ W)
    (hf : rm.frames + 1 ≤ R.frames) (hl : W + (maxL + 11) + rm.locals ≤ R.locals) (hc : cells + rm.cells ≤ R.cells) (hs : slots + rm.slots ≤ R.slots) (hd : decode c.code pc = .ok (.invokespecial index, 3)) :
    ∃ (v : Option Value) (T' : State) (L : List Loc), Stand p l e R s m args below meth c T' (locs ++ L) (cells + rm.cells) (slots + rm.slots) ∧ Qc v T'.heap L ∧
      ∀ t, Steps p.tables e below (T'.setTop (mkF m (pc + 3) Ls (v.toList ++ rest))) t → Steps p.tables e below (T.setTop (mkF m pc Ls (argsL.reverse ++ .ref a :: rest))) t := by
  obtain ⟨v, _, ⟨T', L', k', n'⟩, -, X', ⟨L, hQ, rfl, rfl, rfl⟩, st⟩ := X.specialBack hx (y := y) hn hown (mvT hZ w1) (mvT hZ w2) (mvT hZ w4) hy (backOf (W := W) hC hZ w4 w3 hf hl) (g := mkF m pc Ls (argsL.reverse ++ .ref a :: rest)) rfl hsz (Steps.refl _) (a := a) (argsL := argsL) (rest := rest) (lenOf hpd hlen) rfl hW hd (fun _ _ => ⟨rfl, eT, hc, hs⟩)
  exact ⟨v, T', L, X', hQ, fun t k => st.trans k⟩
theorem c_virt {y' : MethodName} {C : String} (X : Stand p l e R s m args below meth c T locs cells slots) (hx : p.tables.exec = Jvm.exec) (hZ : Z.Warmed39 s.vm) (hown : s.vm.findClass own = some m.cls)
    (w1 : (Jvm.Cond.methodLink own index y').before a0 Z = true) (wd : (Jvm.Cond.declares y').before a0 Z = true) (nf : NotFace s y') (ws : (Jvm.Cond.selects C y' y).before a0 Z = true) (w2 : (Jvm.Cond.instanceMethod y).before a0 Z = true) (w3 : (Jvm.Cond.initialized y.cls).before a0 Z = true) (w4 : (Jvm.Cond.code y bytes maxL ret).before a0 Z = true) (hy : y'.cls ≠ "java/lang/invoke/MethodHandle" ∧ y'.cls ≠ "java/lang/invoke/VarHandle")
    (hC : Ctr l Z y bytes maxL ret [] rm rm.cells rm.slots (.ref a :: argsL).toArray h Qc) (eT : T.heap = h) (E : Exa Z h a C) (hpd : parseMethodDescriptor y'.desc = some ⟨ps, r⟩) (hlen : argsL.length = ps.length) (hsz : Ls.size = c.maxLocals) (hW : 2 * 0 + (rest.map fun v => v.category).sum ≤ W)
    (hf : rm.frames + 1 ≤ R.frames) (hl : W + (maxL + 11) + rm.locals ≤ R.locals) (hc : cells + rm.cells ≤ R.cells) (hs : slots + rm.slots ≤ R.slots) (hd : decode c.code pc = .ok (.invokevirtual index, 3)) :
    ∃ (v : Option Value) (T' : State) (L : List Loc), Stand p l e R s m args below meth c T' (locs ++ L) (cells + rm.cells) (slots + rm.slots) ∧ Qc v T'.heap L ∧
      ∀ t, Steps p.tables e below (T'.setTop (mkF m (pc + 3) Ls (v.toList ++ rest))) t → Steps p.tables e below (T.setTop (mkF m pc Ls (argsL.reverse ++ .ref a :: rest))) t := by
  obtain ⟨cq, kq, qa, qb, qc⟩ := isOf hZ eT E
  obtain ⟨v, _, ⟨T', L', k', n'⟩, -, X', ⟨L, hQ, rfl, rfl, rfl⟩, st⟩ := X.virtualBack hx (y := y') (z := y) hown (mvT hZ w1) (mvT hZ wd) nf (mvT hZ ws) (mvT hZ w2) hy (backOf (W := W) hC hZ w4 w3 hf hl) qa qc (g := mkF m pc Ls (argsL.reverse ++ .ref a :: rest)) rfl hsz (Steps.refl _) (argsL := argsL) (rest := rest) (lenOf hpd hlen) rfl hW hd (fun _ _ => ⟨rfl, eT, hc, hs⟩)
  exact ⟨v, T', L, X', hQ, fun t k => st.trans k⟩
theorem own_nf {y' z : MethodName} {C : String} {as : Array Value} (ws : (Jvm.Cond.selects C y' z).before as s = true) (h : z.cls = y.cls) : NotFace s y := fun r0 h0 => by
  obtain ⟨_, _, m2, -, -, q3, -, kP, hkP, hkPi⟩ := Cond.selects_spec ws
  have e1 := findClass_of_methodNamed q3
  rw [h] at e1
  have e2 : m2.cls = r0.cls := Option.some.inj (e1.symm.trans (findClass_of_methodNamed h0))
  exact ⟨kP, e2 ▸ hkP, hkPi⟩
/-- a private method of an object, by invokevirtual: its class isn't an interface (nf) -/
theorem c_priv {C : String} (X : Stand p l e R s m args below meth c T locs cells slots) (hx : p.tables.exec = Jvm.exec) (hZ : Z.Warmed39 s.vm) (hown : s.vm.findClass own = some m.cls)
    (w1 : (Jvm.Cond.methodLink own index y).before a0 Z = true) (w2 : (Jvm.Cond.instanceMethod y).before a0 Z = true) (nf : NotFace s y) (wp : (Jvm.Cond.privateMethod y).before a0 Z = true) (w3 : (Jvm.Cond.initialized y.cls).before a0 Z = true) (w4 : (Jvm.Cond.code y bytes maxL ret).before a0 Z = true) (hy : y.cls ≠ "java/lang/invoke/MethodHandle" ∧ y.cls ≠ "java/lang/invoke/VarHandle")
    (hC : Ctr l Z y bytes maxL ret [] rm rm.cells rm.slots (.ref a :: argsL).toArray h Qc) (eT : T.heap = h) (E : Exa Z h a C) (hpd : parseMethodDescriptor y.desc = some ⟨ps, r⟩) (hlen : argsL.length = ps.length) (hsz : Ls.size = c.maxLocals) (hW : 2 * 0 + (rest.map fun v => v.category).sum ≤ W)
    (hf : rm.frames + 1 ≤ R.frames) (hl : W + (maxL + 11) + rm.locals ≤ R.locals) (hc : cells + rm.cells ≤ R.cells) (hs : slots + rm.slots ≤ R.slots) (hd : decode c.code pc = .ok (.invokevirtual index, 3)) :
    ∃ (v : Option Value) (T' : State) (L : List Loc), Stand p l e R s m args below meth c T' (locs ++ L) (cells + rm.cells) (slots + rm.slots) ∧ Qc v T'.heap L ∧
      ∀ t, Steps p.tables e below (T'.setTop (mkF m (pc + 3) Ls (v.toList ++ rest))) t → Steps p.tables e below (T.setTop (mkF m pc Ls (argsL.reverse ++ .ref a :: rest))) t := by
  obtain ⟨cq, qa, qb⟩ := E.cell
  obtain ⟨mk, methM, hnamed, hmethM, hstM, habM⟩ := Cond.instanceMethod_spec (mvT (args := args) hZ w2)
  obtain ⟨methM', cM, hmethM', -, -, -, -, -, -, hsigM⟩ := Cond.code_spec hnamed (mvT (args := args) hZ w4)
  cases hmethM.symm.trans hmethM'
  obtain ⟨kP, hkP, hkPi⟩ := nf mk hnamed
  have hsel : selectMethod e.platform s.vm cq.cls mk = .method mk := selectMethod_private hmethM ((Cond.privateMethod_at (mvP hZ wp (args := #[]))) mk methM hnamed hmethM)
  obtain ⟨vm₁, X₁, hst⟩ := X.invokevirtual hx hown (mvT hZ w1) hnamed hmethM hstM hkP hkPi hy (a := a) (cell := cq) (by rw [eT]; exact qa) qb hsel hmethM habM hkP hkPi (g := mkF m pc Ls (argsL.reverse ++ .ref a :: rest)) rfl (argsL := argsL) (rest := rest) (lenOf hpd hlen _ hsigM) rfl hd
  obtain ⟨v, ⟨T', L', k', n'⟩, X', ⟨L, hQ, rfl, rfl, rfl⟩, hgo⟩ := (backOf (W := W) (len := 3) hC hZ w4 w3 hf hl) m meth c ⟨T.setVm vm₁, locs, cells, slots⟩ (mkF m pc Ls rest) (.invokevirtual index) mk (.ref a :: argsL).toArray X₁ rfl hsz hd hW (X₁.named hnamed) ⟨rfl, eT, hc, hs⟩
  exact ⟨v, T', L, X', hQ, fun t k => ((hst _ fun acts => by rw [doInvoke_state]; exact Steps.refl _).trans hgo).trans k⟩
/-- invokevirtual of a method that a class above the one that the entry names declares -/
theorem c_virtUp {y' : MethodName} {C owner : String} (X : Stand p l e R s m args below meth c T locs cells slots) (hx : p.tables.exec = Jvm.exec) (hZ : Z.Warmed39 s.vm) (hown : s.vm.findClass own = some m.cls)
    (w1 : (Jvm.Cond.methodLink own index y').before a0 Z = true) (wm : (Jvm.Cond.sameMethod y'.cls owner y'.name y'.desc).before a0 Z = true) (wd : (Jvm.Cond.declares ⟨owner, y'.name, y'.desc⟩).before a0 Z = true) (ws : (Jvm.Cond.selects C y' y).before a0 Z = true) (w2 : (Jvm.Cond.instanceMethod y).before a0 Z = true) (w3 : (Jvm.Cond.initialized y.cls).before a0 Z = true) (w4 : (Jvm.Cond.code y bytes maxL ret).before a0 Z = true) (hy : owner ≠ "java/lang/invoke/MethodHandle" ∧ owner ≠ "java/lang/invoke/VarHandle")
    (hC : Ctr l Z y bytes maxL ret [] rm rm.cells rm.slots (.ref a :: argsL).toArray h Qc) (eT : T.heap = h) (E : Exa Z h a C) (hpd : parseMethodDescriptor y'.desc = some ⟨ps, r⟩) (hlen : argsL.length = ps.length) (hsz : Ls.size = c.maxLocals) (hW : 2 * 0 + (rest.map fun v => v.category).sum ≤ W)
    (hf : rm.frames + 1 ≤ R.frames) (hl : W + (maxL + 11) + rm.locals ≤ R.locals) (hc : cells + rm.cells ≤ R.cells) (hs : slots + rm.slots ≤ R.slots) (hd : decode c.code pc = .ok (.invokevirtual index, 3)) :
    ∃ (v : Option Value) (T' : State) (L : List Loc), Stand p l e R s m args below meth c T' (locs ++ L) (cells + rm.cells) (slots + rm.slots) ∧ Qc v T'.heap L ∧
      ∀ t, Steps p.tables e below (T'.setTop (mkF m (pc + 3) Ls (v.toList ++ rest))) t → Steps p.tables e below (T.setTop (mkF m pc Ls (argsL.reverse ++ .ref a :: rest))) t := by
  obtain ⟨cq, kq, qa, qb, qc⟩ := isOf hZ eT E
  obtain ⟨v, _, ⟨T', L', k', n'⟩, -, X', ⟨L, hQ, rfl, rfl, rfl⟩, st⟩ := X.virtualBackUp hx (x := y') (y := y) hown (mvT hZ w1) (mvT hZ wm) (mvT hZ wd) hy (mvT hZ ws) (mvT hZ w2) (backOf (W := W) hC hZ w4 w3 hf hl) qa qc (g := mkF m pc Ls (argsL.reverse ++ .ref a :: rest)) rfl hsz (Steps.refl _) (argsL := argsL) (rest := rest) (lenOf hpd hlen) rfl hW hd (fun _ _ => ⟨rfl, eT, hc, hs⟩)
  exact ⟨v, T', L, X', hQ, fun t k => st.trans k⟩
end Calls
end Own
/-! arrays by a function of the place -/
def upd (f : Nat → Value) (k : Nat) (v : Value) : Nat → Value := fun i => if i = k then v else f i
def lst (L : List Value) : Nat → Value := fun i => L.getD i .null
theorem upd_eq {f : Nat → Value} {k : Nat} {v : Value} : upd f k v k = v := if_pos rfl
theorem upd_ne {f : Nat → Value} {k i : Nat} {v : Value} (h : i ≠ k) : upd f k v i = f i := if_neg h
def AV (Z : State) (h : Heap) (a : Addr) (ty : FieldType) (n : Nat) (f : Nat → Value) : Prop := ∃ c : Cell, Arr Z h a c ty ∧ c.slots.size = n ∧ n < 2147483648 ∧ ∀ i, i < n → c.slots[i]? = some (f i)
section Arrays
variable {Z : State} {h h' : Heap} {a b : Addr} {ty : FieldType} {n k : Nat} {f g : Nat → Value} {v w : Value} {j : Int32} {ws : List Addr} {sl : Nat}
theorem AV.lt (A : AV Z h a ty n f) : a < h.size := by obtain ⟨c, A, -⟩ := A; exact A.lt
theorem AV.ext (A : AV Z h a ty n f) (E : Ext h h') : AV Z h' a ty n f := by obtain ⟨c, A, r⟩ := A; exact ⟨c, A.ext E, r⟩
theorem AV.other (A : AV Z h b ty n f) (W : Wr h h' a sl v) (q : b ≠ a) : AV Z h' b ty n f := by obtain ⟨c, A, r⟩ := A; exact ⟨c, A.other W q, r⟩
theorem AV.keep (A : AV Z h a ty n f) (K : Keep h h' ws) (q : a ∉ ws) : AV Z h' a ty n f := by obtain ⟨c, A, r⟩ := A; exact ⟨c, ⟨K.2.1 a c A.1 q, A.2⟩, r⟩
theorem AV.congr (A : AV Z h a ty n f) (q : ∀ i, i < n → f i = g i) : AV Z h a ty n g := by obtain ⟨c, A, r1, r2, r3⟩ := A; exact ⟨c, A, r1, r2, fun i hi => by rw [r3 i hi, q i hi]⟩
theorem AV.bound (A : AV Z h a ty n f) : n < 2147483648 := by obtain ⟨c, A, r1, r2, r3⟩ := A; exact r2
theorem clamp_of (hj : j.toInt = (k : Int)) : j.toNatClampNeg = k := by show j.toInt.toNat = k; rw [hj]; rfl
theorem in_of {c : Cell} (hj : j.toInt = (k : Int)) (hs : c.slots.size = n) (hk : k < n) : ¬ (j < 0 ∨ c.slots.size ≤ j.toNatClampNeg) := by
  rw [clamp_of hj, hs, Int32.lt_iff_toInt_lt, hj]; simp only [Int32.reduceToInt]; omega
theorem AV.new {cA : ClassId} {z : Int32} (A : Arr Z h a (newA cA ty z) ty) (hz : z.toInt = (n : Int)) : AV Z h a ty n (fun _ => defaultValue ty) := by
  have q := clamp_of hz
  have hb := Int32.toInt_lt z
  refine ⟨_, A, by rw [sz_new]; exact q, by omega, fun i hi => ?_⟩
  have hi' : i < z.toNatClampNeg := by rw [q]; exact hi
  simp [newA, hi']
theorem AV.at (A : AV Z h a ty n f) (hj : j.toInt = (k : Int)) (hk : k < n) : ∃ cl : Cell, Arr Z h a cl ty ∧ ¬ (j < 0 ∨ cl.slots.size ≤ j.toNatClampNeg) ∧ cl.slots[j.toNatClampNeg]? = some (f k) := by
  obtain ⟨c, A, r1, r2, r3⟩ := A
  exact ⟨c, A, in_of hj r1 hk, by rw [clamp_of hj]; exact r3 k hk⟩
theorem AV.set (A : AV Z h a ty n f) (hj : j.toInt = (k : Int)) (hk : k < n) (W : Wr h h' a j.toNatClampNeg v) : AV Z h' a ty n (upd f k v) := by
  obtain ⟨c, A, r1, r2, r3⟩ := A
  refine ⟨_, A.same W, by rw [sz_set]; exact r1, r2, fun i hi => ?_⟩
  rw [clamp_of hj]
  by_cases e : i = k
  · subst e; simp [Cell.setSlot, r1, hi, upd]
  · rw [upd_ne e, ← r3 i hi]; exact Array.getElem?_setIfInBounds_ne (Ne.symm e)
theorem AV.setL {L L' : List Value} (A : AV Z h a ty n (lst L)) (hj : j.toInt = (k : Int)) (hk : k < n) (W : Wr h h' a j.toNatClampNeg v) (hl : k < L.length) (e : L.set k v = L') : AV Z h' a ty n (lst L') := by
  subst e
  refine (A.set hj hk W).congr fun i hi => ?_
  by_cases q : i = k
  · subst q; simp [upd, lst, List.getD_eq_getElem?_getD, hl]
  · rw [upd_ne q]; simp [lst, List.getD_eq_getElem?_getD, List.getElem?_set_ne (Ne.symm q)]
theorem AV.newL {L : List Value} (A : AV Z h a ty n (fun _ => v)) (e : L = List.replicate n v) : AV Z h a ty n (lst L) := by
  subst e; refine A.congr fun i hi => ?_
  simp [lst, List.getD_eq_getElem?_getD, List.getElem?_replicate, hi]
theorem AV.len (A : AV Z h a ty n f) : ∃ cl : Cell, Arr Z h a cl ty ∧ cl.slots.size.toInt32 = Int32.ofNat n := by
  obtain ⟨c, A, r1, r2, r3⟩ := A; exact ⟨c, A, by rw [r1]⟩
theorem own_cls {cA : ClassId} {z : Int32} {ad : String} (A : Arr Z h a (newA cA ty z) ty) (E : Exa Z h a ad) : Z.vm.findClass ad = some cA := by
  obtain ⟨cell, k, e1, e2, -⟩ := E
  cases A.1.symm.trans e1
  exact e2
theorem own_sto {cA : ClassId} {cl : Cell} {ad C : String} {y : Addr} (A : Arr Z h a cl ty) (E : Exa Z h a ad) (hA : Z.vm.findClass ad = some cA) (O : Ovr Z cA C) (I : Ins Z h y C true) : Sto Z h a (.ref y) := by
  obtain ⟨cell, k, e1, e2, -⟩ := E
  cases A.1.symm.trans e1
  have q : cl.cls = cA := Option.some.inj (e2.symm.trans hA)
  exact Sto.of A (q ▸ O) I
theorem own_sta_keep {C n' d : String} (F : Sta Z h C n' d v) (K : Keep h h' []) : Sta Z h' C n' d v := by
  obtain ⟨cf, i, k, f, st, cell, h1, h2, h3, h4, h5, h6, h7⟩ := F
  exact ⟨cf, i, k, f, st, cell, h1, h2, h3, h4, K.2.1 _ _ h5 (fun q => nomatch q), h6, h7⟩
end Arrays
section ASteps
variable {p : Program} {l : Launch} {e : Env} {R : Room} {s : State} {m : MethodId} {args : Array Value} {below : List Frame} {meth : Method} {c : Code} {T : State} {locs : List Loc} {cells slots : Nat} {Z : State} {a0 : Array Value} {h : Heap} {a : Addr} {n k pc : Nat} {f : Nat → Value} {j : Int32} {Ls : Array Slot} {rest : List Value}
theorem a_iload (X : Stand p l e R s m args below meth c T locs cells slots) (hx : p.tables.exec = Jvm.exec) (hZ : Z.Warmed39 s.vm) (eT : T.heap = h) (A : AV Z h a .int n f) (hj : j.toInt = (k : Int)) (hk : k < n) {x : Int32} (hv : f k = .int x) (hd : decode c.code pc = .ok (.iaload, 1)) :
    ∀ t, Steps p.tables e below (T.setTop (mkF m (pc + 1) Ls (.int x :: rest))) t → Steps p.tables e below (T.setTop (mkF m pc Ls (.int j :: .ref a :: rest))) t := by
  obtain ⟨cl, A, hin, hat⟩ := A.at hj hk
  rw [hv] at hat
  exact X.iaload hx (j := j) (v := .int x) (by rw [eT]; exact A.1) (State.isArrayOf_alike hZ.alike A.2.1) A.2.2 hin hat (g := mkF m pc Ls (.int j :: .ref a :: rest)) rfl rfl hd
theorem a_cload (X : Stand p l e R s m args below meth c T locs cells slots) (hx : p.tables.exec = Jvm.exec) (hZ : Z.Warmed39 s.vm) (eT : T.heap = h) (A : AV Z h a .char n f) (hj : j.toInt = (k : Int)) (hk : k < n) {x : Int32} (hv : f k = .int x) (hd : decode c.code pc = .ok (.caload, 1)) :
    ∀ t, Steps p.tables e below (T.setTop (mkF m (pc + 1) Ls (.int x :: rest))) t → Steps p.tables e below (T.setTop (mkF m pc Ls (.int j :: .ref a :: rest))) t := by
  obtain ⟨cl, A, hin, hat⟩ := A.at hj hk
  rw [hv] at hat
  exact X.caload hx (j := j) (v := .int x) (by rw [eT]; exact A.1) (State.isArrayOf_alike hZ.alike A.2.1) A.2.2 hin hat (g := mkF m pc Ls (.int j :: .ref a :: rest)) rfl rfl hd
theorem a_bload (X : Stand p l e R s m args below meth c T locs cells slots) (hx : p.tables.exec = Jvm.exec) (hZ : Z.Warmed39 s.vm) (eT : T.heap = h) (A : AV Z h a .byte n f) (hj : j.toInt = (k : Int)) (hk : k < n) {x : Int32} (hv : f k = .int x) (hd : decode c.code pc = .ok (.baload, 1)) :
    ∀ t, Steps p.tables e below (T.setTop (mkF m (pc + 1) Ls (.int x :: rest))) t → Steps p.tables e below (T.setTop (mkF m pc Ls (.int j :: .ref a :: rest))) t := by
  obtain ⟨cl, A, hin, hat⟩ := A.at hj hk
  rw [hv] at hat
  exact X.baloadBytes hx (j := j) (v := .int x) (by rw [eT]; exact A.1) (State.isArrayOf_alike hZ.alike A.2.1) A.2.2 hin hat (g := mkF m pc Ls (.int j :: .ref a :: rest)) rfl rfl hd
theorem a_jload (X : Stand p l e R s m args below meth c T locs cells slots) (hx : p.tables.exec = Jvm.exec) (hZ : Z.Warmed39 s.vm) (eT : T.heap = h) (A : AV Z h a .long n f) (hj : j.toInt = (k : Int)) (hk : k < n) {x : Int64} (hv : f k = .long x) (hd : decode c.code pc = .ok (.laload, 1)) :
    ∀ t, Steps p.tables e below (T.setTop (mkF m (pc + 1) Ls (.long x :: rest))) t → Steps p.tables e below (T.setTop (mkF m pc Ls (.int j :: .ref a :: rest))) t := by
  obtain ⟨cl, A, hin, hat⟩ := A.at hj hk
  rw [hv] at hat
  exact X.laload hx (j := j) (v := .long x) (by rw [eT]; exact A.1) (State.isArrayOf_alike hZ.alike A.2.1) A.2.2 hin hat (g := mkF m pc Ls (.int j :: .ref a :: rest)) rfl rfl hd
theorem a_rload {ty : FieldType} (X : Stand p l e R s m args below meth c T locs cells slots) (hx : p.tables.exec = Jvm.exec) (hZ : Z.Warmed39 s.vm) (eT : T.heap = h) (A : AV Z h a ty n f) (ht : ty.isReference = true) (hj : j.toInt = (k : Int)) (hk : k < n) {v : Value} (hv : f k = v) (hd : decode c.code pc = .ok (.aaload, 1)) :
    ∀ t, Steps p.tables e below (T.setTop (mkF m (pc + 1) Ls (v :: rest))) t → Steps p.tables e below (T.setTop (mkF m pc Ls (.int j :: .ref a :: rest))) t := by
  obtain ⟨cl, A, hin, hat⟩ := A.at hj hk
  rw [hv] at hat
  exact X.aaload hx (j := j) (v := v) (by rw [eT]; exact A.1) (State.isArrayOf_alike hZ.alike A.2.1) ht A.2.2 hin hat (g := mkF m pc Ls (.int j :: .ref a :: rest)) rfl rfl hd
theorem a_len {ty : FieldType} (X : Stand p l e R s m args below meth c T locs cells slots) (hx : p.tables.exec = Jvm.exec) (hZ : Z.Warmed39 s.vm) (eT : T.heap = h) (A : AV Z h a ty n f) {z : Int32} (hz : z.toInt = (n : Int)) (hd : decode c.code pc = .ok (.arraylength, 1)) :
    ∀ t, Steps p.tables e below (T.setTop (mkF m (pc + 1) Ls (.int z :: rest))) t → Steps p.tables e below (T.setTop (mkF m pc Ls (.ref a :: rest))) t := by
  obtain ⟨cl, A, hin⟩ := A.len
  have hb := Int32.toInt_lt z
  have q : cl.slots.size.toInt32 = z := by rw [hin]; exact Int32.toInt_inj.mp (by rw [hz]; exact Int32.toInt_ofNat_of_lt (by omega))
  intro t k
  refine X.arraylength hx (by rw [eT]; exact A.1) (State.isArrayOf_alike hZ.alike A.2.1) (g := mkF m pc Ls (.ref a :: rest)) rfl rfl hd _ ?_
  rw [q]; exact k
end ASteps
theorem own_c (x : Int32) : ∃ n : Nat, 1 ≤ n ∧ n ≤ 4 ∧ ((x &&& (3 : Int32)) + (1 : Int32)) = Int32.ofNat n := by
  have h1 := c_mask x 3 2 (by decide) (by decide)
  have h2 := c_iadd (x &&& 3) 1; have h3 := rng32 ((x &&& 3) + 1)
  simp only [Int32.reduceToInt] at *
  refine ⟨((x &&& 3) + 1).toInt.toNat, by omega, by omega, Int32.toInt_inj.mp ?_⟩
  rw [Int32.toInt_ofNat_of_lt (by omega)]; omega
theorem own_lt (i n : Nat) (h : i < 2147483648) (hn : n < 2147483648) : (Int32.ofNat i < Int32.ofNat n) ↔ i < n := by
  rw [Int32.lt_iff_toInt_lt, Int32.toInt_ofNat_of_lt (by omega), Int32.toInt_ofNat_of_lt (by omega)]; omega
theorem own_eq (i n : Nat) (h : i < 2147483648) (hn : n < 2147483648) : (Int32.ofNat i = Int32.ofNat n) ↔ i = n := by
  rw [← Int32.toInt_inj, Int32.toInt_ofNat_of_lt (by omega), Int32.toInt_ofNat_of_lt (by omega)]; omega
theorem own_add (i : Nat) : Int32.ofNat i + (1 : Int32) = Int32.ofNat (i + 1) := by rw [Int32.ofNat_add]; rfl
theorem ef_rmI (m : MethodId) (x0 : Addr) (x1 : Int32) : entryFrame m #[(.ref x0), (.int x1)] 2 = mkF m 0 #[.val (.ref x0), .val (.int x1)] [] := by first | (simp [entryFrame, mkF, argsToLocals, Value.category]; done) | rfl
theorem pn_0 : plainName "com/example/bearer/bearer/modem/LineBuffer" = true := by first | (simp [plainName, overriddenIn]; done) | decide +kernel
theorem d1_0 : decode prog_38_method_1_code 0 = .ok (.aload_n 0, 1) := by decide +kernel
theorem d1_1 : decode prog_38_method_1_code 1 = .ok (.invokespecial 1, 3) := by decide +kernel
theorem d1_4 : decode prog_38_method_1_code 4 = .ok (.aload_n 0, 1) := by decide +kernel
theorem d1_5 : decode prog_38_method_1_code 5 = .ok (.iload_n 1, 1) := by decide +kernel
theorem d1_6 : decode prog_38_method_1_code 6 = .ok (.newarray .byte, 2) := by decide +kernel
theorem d1_8 : decode prog_38_method_1_code 8 = .ok (.putfield 7, 3) := by decide +kernel
theorem d1_11 : decode prog_38_method_1_code 11 = .ok (.return_, 1) := by decide +kernel
set_option maxRecDepth 65536 in
set_option maxHeartbeats 40000000 in
theorem rmI (l : Launch) (Z : State) (a0 : Array Value) (hw : ∀ d ∈ tables_1, d.before a0 Z = true) (ws : List Jvm.Cond) (a : Addr) (n : Nat) (h0 : Heap) (n0 : Nat) (Z0 : n0 ≤ h0.size) (hn1 : 1 ≤ n) (hn : n ≤ 4) (E_a : Exa Z h0 a "com/example/bearer/bearer/modem/LineBuffer") (F_0 : Fld Z h0 a "com/example/bearer/bearer/modem/LineBuffer" "kept" "[B" .null) (F_1 : Fld Z h0 a "com/example/bearer/bearer/modem/LineBuffer" "length" "I" (.int (0 : Int32))) (F_2 : Fld Z h0 a "com/example/bearer/bearer/modem/LineBuffer" "cut" "Z" (.int (0 : Int32))) (g_a : n0 ≤ a) :
    Ctr l Z (⟨"com/example/bearer/bearer/modem/LineBuffer", "<init>", "(I)V"⟩ : MethodName) prog_38_method_1_code 2 none ws ({ frames := 1, cells := 1, slots := 4, locals := 12 } : Room) 1 4 #[(.ref a), (.int (Int32.ofNat n))] h0 (fun v h L => v = none ∧ Fr n0 L ∧ Keep h0 h [a] ∧ ∃ k, h0.size ≤ k ∧ Exa Z h a "com/example/bearer/bearer/modem/LineBuffer" ∧ Exa Z h k "[B" ∧ Fld Z h a "com/example/bearer/bearer/modem/LineBuffer" "kept" "[B" (.ref k) ∧ Fld Z h a "com/example/bearer/bearer/modem/LineBuffer" "length" "I" (.int (Int32.ofNat 0)) ∧ Fld Z h a "com/example/bearer/bearer/modem/LineBuffer" "cut" "Z" (.int (bi (false = true))) ∧ AV Z h k .byte n (fun _ => .int (0 : Int32))) := by
  refine Ctr.mk (plainFor_of_name pn_0) fun p e s m below meth c T0 X0 C e0 => go_cast (ef_rmI m a (Int32.ofNat n)) ?_
  have N0 := Fr.nil n0
  obtain ⟨hx, hZ, hby, hml, hown, hnm, hret, hlk⟩ := C
  obtain ⟨hI, eI⟩ : ∃ z, z = h0 := ⟨_, rfl⟩
  have K0 : Keep hI h0 [a] := by rw [eI]; exact Keep.refl _ _
  show Go _ _ _ _ _ _ _ T0 (mkF m 0 #[.val (.ref a), .val (.int (Int32.ofNat n))] [])
  refine Go.step (fun t k => XS.aloadN X0.here hx rfl (hb hby d1_0) rfl rfl k) ?_
  show Go _ _ _ _ _ _ _ T0 (mkF m 1 #[.val (.ref a), .val (.int (Int32.ofNat n))] [(.ref a)])
  obtain ⟨T1, X1, e1, st1⟩ := initO X0 hx hZ hown (hw _ (List.mem_of_getElem? (i := 6) rfl)) (hw _ (List.mem_of_getElem? (i := 7) rfl)) (hw _ (List.mem_of_getElem? (i := 8) rfl)) e0 (g := (mkF m 1 #[.val (.ref a), .val (.int (Int32.ofNat n))] [(.ref a)])) rfl (by rw [hml]; rfl) rfl (hb hby d1_1) (by decide) (W := 0) (by show 2 * 0 + _ ≤ _; exact Nat.le_of_eq rfl) (by decide)
  refine Go.step (st1) ?_
  show Go _ _ _ _ _ _ _ T1 (mkF m 4 #[.val (.ref a), .val (.int (Int32.ofNat n))] [])
  refine Go.step (fun t k => XS.aloadN X1.here hx rfl (hb hby d1_4) rfl rfl k) ?_
  show Go _ _ _ _ _ _ _ T1 (mkF m 5 #[.val (.ref a), .val (.int (Int32.ofNat n))] [(.ref a)])
  refine Go.step (fun t k => XS.iloadN X1.here hx rfl (hb hby d1_5) rfl k) ?_
  show Go _ _ _ _ _ _ _ T1 (mkF m 6 #[.val (.ref a), .val (.int (Int32.ofNat n))] [(.int (Int32.ofNat n)), (.ref a)])
  obtain ⟨T2, h2, k2, X2, e2, E2, A2, EA2, st2⟩ := newPE X1 hx hZ (hw _ (List.mem_of_getElem? (i := 9) rfl)) e1 (g := (mkF m 6 #[.val (.ref a), .val (.int (Int32.ofNat n))] [(.int (Int32.ofNat n)), (.ref a)])) rfl (hb hby d1_6) rfl (by rw [Int32.lt_iff_toInt_lt, Int32.toInt_ofNat_of_lt (by omega)]; simp only [Int32.reduceToInt]; omega) (cap := 4) (by rw [clamp_of (k := n) (Int32.toInt_ofNat_of_lt (by omega))]; omega) (by decide) (by decide) (by decide) (ad := "[B") rfl
  obtain ⟨b2, g2⟩ : ∃ z, z = h0.size := ⟨_, rfl⟩
  rw [← g2] at A2 EA2 st2
  have ne_a_b2 : a ≠ b2 := Nat.ne_of_lt (Nat.lt_of_lt_of_le E_a.lt (Nat.le_of_eq g2.symm))
  have gn_b2 : n0 ≤ b2 := Nat.le_trans Z0 (Nat.le_of_eq g2.symm)
  have sz_b2 : hI.size ≤ b2 := Nat.le_trans K0.1 (Nat.le_of_eq g2.symm)
  have Z2 : n0 ≤ h2.size := Nat.le_trans Z0 E2.1
  have K2 : Keep hI h2 [a] := K0.ext E2
  have V2 : AV Z h2 b2 .byte n (fun _ => (.int (0 : Int32))) := AV.new A2 (Int32.toInt_ofNat_of_lt (by omega))
  refine Go.step (st2) ?_
  show Go _ _ _ _ _ _ _ T2 (mkF m 8 #[.val (.ref a), .val (.int (Int32.ofNat n))] [(.ref b2), (.ref a)])
  have f4 := (Fld.ext E2 F_0)
  have f5 := (Exa.ext E2 E_a)
  obtain ⟨T3, h3, X3, e3, W3, st3⟩ := putF X2 hx hZ hown (host := "") (Or.inl (hw _ (List.mem_of_getElem? (i := 10) rfl))) Via.refl e2 f4 f5 (Or.inr ⟨(hw _ (List.mem_of_getElem? (i := 11) rfl)), rfl, hnm⟩) (hw _ (List.mem_of_getElem? (i := 1) rfl)) (ty := (.array .byte)) (by decide) rfl rfl (g := (mkF m 8 #[.val (.ref a), .val (.int (Int32.ofNat n))] [(.ref b2), (.ref a)])) rfl rfl (hb hby d1_8)
  have F3 := Fld.same W3 f4
  have N3 := Fr.snoc X3 N0 g_a
  have Z3 : n0 ≤ h3.size := Nat.le_trans Z2 (Keep.of_wr W3).1
  have K3 : Keep hI h3 [a] := K2.wr W3 (Or.inl (List.mem_of_getElem? (i := 0) rfl))
  refine Go.step (st3) ?_
  show Go _ _ _ _ _ _ _ T3 (mkF m 11 #[.val (.ref a), .val (.int (Int32.ofNat n))] [])
  have f6 := (Exa.wr W3 f5)
  have f7 := (Exa.wr W3 EA2)
  have f8 := (Fld.other W3 (Fld.ext E2 F_1) (Or.inr (slot_ne (Or.inl (hw _ (List.mem_of_getElem? (i := 18) rfl))) (Or.inr (hw _ (List.mem_of_getElem? (i := 11) rfl))) (by decide) (t := .int) (t' := (.array .byte)) (by decide) (by decide))))
  have f9 := (Fld.other W3 (Fld.ext E2 F_2) (Or.inr (slot_ne (Or.inl (hw _ (List.mem_of_getElem? (i := 20) rfl))) (Or.inr (hw _ (List.mem_of_getElem? (i := 11) rfl))) (by decide) (t := .boolean) (t' := (.array .byte)) (by decide) (by decide))))
  have f10 := (V2.other W3 (Ne.symm ne_a_b2))
  refine go_ret X3 hx hret hlk (hb hby d1_11) ?_ (by decide) (by decide)
  try rw [e3]
  exact ⟨rfl, N3, eI ▸ K3, b2, eI ▸ sz_b2, f6, f7, F3, f8, f9, f10⟩
theorem ef_rmY (m : MethodId) (x0 : Addr) (x1 : Int32) : entryFrame m #[(.ref x0), (.int x1)] 3 = mkF m 0 #[.val (.ref x0), .val (.int x1), .unset] [] := by first | (simp [entryFrame, mkF, argsToLocals, Value.category]; done) | rfl
theorem d3_0 : decode prog_38_method_2_code 0 = .ok (.aload_n 0, 1) := by decide +kernel
theorem d3_1 : decode prog_38_method_2_code 1 = .ok (.getfield 13, 3) := by decide +kernel
theorem d3_4 : decode prog_38_method_2_code 4 = .ok (.aload_n 0, 1) := by decide +kernel
theorem d3_5 : decode prog_38_method_2_code 5 = .ok (.getfield 7, 3) := by decide +kernel
theorem d3_8 : decode prog_38_method_2_code 8 = .ok (.arraylength, 1) := by decide +kernel
theorem d3_9 : decode prog_38_method_2_code 9 = .ok (.if_icmp .ge 22, 3) := by decide +kernel
theorem d3_12 : decode prog_38_method_2_code 12 = .ok (.aload_n 0, 1) := by decide +kernel
theorem d3_13 : decode prog_38_method_2_code 13 = .ok (.getfield 7, 3) := by decide +kernel
theorem d3_16 : decode prog_38_method_2_code 16 = .ok (.aload_n 0, 1) := by decide +kernel
theorem d3_17 : decode prog_38_method_2_code 17 = .ok (.dup, 1) := by decide +kernel
theorem d3_18 : decode prog_38_method_2_code 18 = .ok (.getfield 13, 3) := by decide +kernel
theorem d3_21 : decode prog_38_method_2_code 21 = .ok (.dup_x1, 1) := by decide +kernel
theorem d3_22 : decode prog_38_method_2_code 22 = .ok (.iconst 1, 1) := by decide +kernel
theorem d3_23 : decode prog_38_method_2_code 23 = .ok (.iadd, 1) := by decide +kernel
theorem d3_24 : decode prog_38_method_2_code 24 = .ok (.putfield 13, 3) := by decide +kernel
theorem d3_27 : decode prog_38_method_2_code 27 = .ok (.iload_n 1, 1) := by decide +kernel
theorem d3_28 : decode prog_38_method_2_code 28 = .ok (.bastore, 1) := by decide +kernel
theorem d3_29 : decode prog_38_method_2_code 29 = .ok (.iconst 0, 1) := by decide +kernel
theorem d3_30 : decode prog_38_method_2_code 30 = .ok (.ireturn, 1) := by decide +kernel
set_option maxRecDepth 65536 in
set_option maxHeartbeats 40000000 in
theorem rmY (l : Launch) (Z : State) (a0 : Array Value) (hw : ∀ d ∈ tables_1, d.before a0 Z = true) (ws : List Jvm.Cond) (a k : Addr) (n len : Nat) (ct : Bool) (f : Nat → Value) (x : Int32) (h0 : Heap) (n0 : Nat) (Z0 : n0 ≤ h0.size) (hn1 : 1 ≤ n) (hn : n ≤ 4) (hl : len ≤ n) (E_a : Exa Z h0 a "com/example/bearer/bearer/modem/LineBuffer") (F_0 : Fld Z h0 a "com/example/bearer/bearer/modem/LineBuffer" "kept" "[B" (.ref k)) (F_1 : Fld Z h0 a "com/example/bearer/bearer/modem/LineBuffer" "length" "I" (.int (Int32.ofNat len))) (F_2 : Fld Z h0 a "com/example/bearer/bearer/modem/LineBuffer" "cut" "Z" (.int (bi (ct = true)))) (V_k : AV Z h0 k .byte n f) (E_k : Exa Z h0 k "[B") (ne_a_k : a ≠ k) (g_a : n0 ≤ a) (g_k : n0 ≤ k) (hlt : len < n) :
    Ctr l Z (⟨"com/example/bearer/bearer/modem/LineBuffer", "add", "(B)Z"⟩ : MethodName) prog_38_method_2_code 3 (some .boolean) ws ({ frames := 0, cells := 0, slots := 0, locals := 0 } : Room) 0 0 #[(.ref a), (.int x)] h0 (fun v h L => v = some (.int (0 : Int32)) ∧ Fr n0 L ∧ Keep h0 h [a, k] ∧ Exa Z h a "com/example/bearer/bearer/modem/LineBuffer" ∧ Exa Z h k "[B" ∧ Fld Z h a "com/example/bearer/bearer/modem/LineBuffer" "kept" "[B" (.ref k) ∧ Fld Z h a "com/example/bearer/bearer/modem/LineBuffer" "length" "I" (.int (Int32.ofNat (len + 1))) ∧ Fld Z h a "com/example/bearer/bearer/modem/LineBuffer" "cut" "Z" (.int (bi (ct = true))) ∧ AV Z h k .byte n (upd f len (.int (nar .byte x)))) := by
  refine Ctr.mk (plainFor_of_name pn_0) fun p e s m below meth c T0 X0 C e0 => go_cast (ef_rmY m a x) ?_
  have N0 := Fr.nil n0
  obtain ⟨hx, hZ, hby, hml, hown, hnm, hret, hlk⟩ := C
  obtain ⟨hI, eI⟩ : ∃ z, z = h0 := ⟨_, rfl⟩
  have K0 : Keep hI h0 [a, k] := by rw [eI]; exact Keep.refl _ _
  show Go _ _ _ _ _ _ _ T0 (mkF m 0 #[.val (.ref a), .val (.int x), .unset] [])
  refine Go.step (fun t k => XS.aloadN X0.here hx rfl (hb hby d3_0) rfl rfl k) ?_
  show Go _ _ _ _ _ _ _ T0 (mkF m 1 #[.val (.ref a), .val (.int x), .unset] [(.ref a)])
  obtain ⟨T1, X1, e1, st1⟩ := getF X0 hx hZ hown (host := "") (Or.inl (hw _ (List.mem_of_getElem? (i := 17) rfl))) Via.refl e0 F_1 (g := (mkF m 1 #[.val (.ref a), .val (.int x), .unset] [(.ref a)])) rfl rfl (hb hby d3_1)
  refine Go.step (st1) ?_
  show Go _ _ _ _ _ _ _ T1 (mkF m 4 #[.val (.ref a), .val (.int x), .unset] [(.int (Int32.ofNat len))])
  refine Go.step (fun t k => XS.aloadN X1.here hx rfl (hb hby d3_4) rfl rfl k) ?_
  show Go _ _ _ _ _ _ _ T1 (mkF m 5 #[.val (.ref a), .val (.int x), .unset] [(.ref a), (.int (Int32.ofNat len))])
  obtain ⟨T2, X2, e2, st2⟩ := getF X1 hx hZ hown (host := "") (Or.inl (hw _ (List.mem_of_getElem? (i := 10) rfl))) Via.refl e1 F_0 (g := (mkF m 5 #[.val (.ref a), .val (.int x), .unset] [(.ref a), (.int (Int32.ofNat len))])) rfl rfl (hb hby d3_5)
  refine Go.step (st2) ?_
  show Go _ _ _ _ _ _ _ T2 (mkF m 8 #[.val (.ref a), .val (.int x), .unset] [(.ref k), (.int (Int32.ofNat len))])
  refine Go.step (a_len X2 hx hZ e2 V_k (z := (Int32.ofNat n)) (Int32.toInt_ofNat_of_lt (by omega)) (hb hby d3_8)) ?_
  show Go _ _ _ _ _ _ _ T2 (mkF m 9 #[.val (.ref a), .val (.int x), .unset] [(.int (Int32.ofNat n)), (.int (Int32.ofNat len))])
  refine Go.step (fun t k => XS.icmpNo X2.here hx rfl (hb hby d3_9) rfl (tlt ((own_lt len n (by omega) (by omega)).mpr hlt)).2.1 k) ?_
  show Go _ _ _ _ _ _ _ T2 (mkF m 12 #[.val (.ref a), .val (.int x), .unset] [])
  refine Go.step (fun t k => XS.aloadN X2.here hx rfl (hb hby d3_12) rfl rfl k) ?_
  show Go _ _ _ _ _ _ _ T2 (mkF m 13 #[.val (.ref a), .val (.int x), .unset] [(.ref a)])
  obtain ⟨T3, X3, e3, st3⟩ := getF X2 hx hZ hown (host := "") (Or.inl (hw _ (List.mem_of_getElem? (i := 10) rfl))) Via.refl e2 F_0 (g := (mkF m 13 #[.val (.ref a), .val (.int x), .unset] [(.ref a)])) rfl rfl (hb hby d3_13)
  refine Go.step (st3) ?_
  show Go _ _ _ _ _ _ _ T3 (mkF m 16 #[.val (.ref a), .val (.int x), .unset] [(.ref k)])
  refine Go.step (fun t k => XS.aloadN X3.here hx rfl (hb hby d3_16) rfl rfl k) ?_
  show Go _ _ _ _ _ _ _ T3 (mkF m 17 #[.val (.ref a), .val (.int x), .unset] [(.ref a), (.ref k)])
  refine Go.step (fun t k => XS.dup X3.here hx rfl (hb hby d3_17) rfl rfl k) ?_
  show Go _ _ _ _ _ _ _ T3 (mkF m 18 #[.val (.ref a), .val (.int x), .unset] [(.ref a), (.ref a), (.ref k)])
  obtain ⟨T4, X4, e4, st4⟩ := getF X3 hx hZ hown (host := "") (Or.inl (hw _ (List.mem_of_getElem? (i := 17) rfl))) Via.refl e3 F_1 (g := (mkF m 18 #[.val (.ref a), .val (.int x), .unset] [(.ref a), (.ref a), (.ref k)])) rfl rfl (hb hby d3_18)
  refine Go.step (st4) ?_
  show Go _ _ _ _ _ _ _ T4 (mkF m 21 #[.val (.ref a), .val (.int x), .unset] [(.int (Int32.ofNat len)), (.ref a), (.ref k)])
  refine Go.step (fun t k => XS.dupX1 X4.here hx rfl (hb hby d3_21) rfl rfl rfl k) ?_
  show Go _ _ _ _ _ _ _ T4 (mkF m 22 #[.val (.ref a), .val (.int x), .unset] [(.int (Int32.ofNat len)), (.ref a), (.int (Int32.ofNat len)), (.ref k)])
  refine Go.step (fun t k => XS.iconst X4.here hx rfl (hb hby d3_22) k) ?_
  show Go _ _ _ _ _ _ _ T4 (mkF m 23 #[.val (.ref a), .val (.int x), .unset] [(.int (1 : Int32)), (.int (Int32.ofNat len)), (.ref a), (.int (Int32.ofNat len)), (.ref k)])
  refine Go.step (fun t k => XS.iadd X4.here hx rfl (hb hby d3_23) rfl k) ?_
  show Go _ _ _ _ _ _ _ T4 (mkF m 24 #[.val (.ref a), .val (.int x), .unset] [(.int ((Int32.ofNat len) + (1 : Int32))), (.ref a), (.int (Int32.ofNat len)), (.ref k)])
  obtain ⟨T5, h5, X5, e5, W5, st5⟩ := putF X4 hx hZ hown (host := "") (Or.inl (hw _ (List.mem_of_getElem? (i := 17) rfl))) Via.refl e4 F_1 E_a (Or.inl (hw _ (List.mem_of_getElem? (i := 18) rfl))) (hw _ (List.mem_of_getElem? (i := 1) rfl)) (ty := .int) (by decide) rfl rfl (g := (mkF m 24 #[.val (.ref a), .val (.int x), .unset] [(.int ((Int32.ofNat len) + (1 : Int32))), (.ref a), (.int (Int32.ofNat len)), (.ref k)])) rfl rfl (hb hby d3_24)
  have F5 := Fld.same W5 F_1
  have N5 := Fr.snoc X5 N0 g_a
  have Z5 : n0 ≤ h5.size := Nat.le_trans Z0 (Keep.of_wr W5).1
  have K5 : Keep hI h5 [a, k] := K0.wr W5 (Or.inl (List.mem_of_getElem? (i := 0) rfl))
  refine Go.step (st5) ?_
  show Go _ _ _ _ _ _ _ T5 (mkF m 27 #[.val (.ref a), .val (.int x), .unset] [(.int (Int32.ofNat len)), (.ref k)])
  have f6 : Fld Z h5 a "com/example/bearer/bearer/modem/LineBuffer" "length" "I" (.int (Int32.ofNat (len + 1))) := by
    have q := F5
    rwa [own_add] at q
  refine Go.step (fun t k => XS.iloadN X5.here hx rfl (hb hby d3_27) rfl k) ?_
  show Go _ _ _ _ _ _ _ T5 (mkF m 28 #[.val (.ref a), .val (.int x), .unset] [(.int x), (.int (Int32.ofNat len)), (.ref k)])
  have f7 := (V_k.other W5 (Ne.symm ne_a_k))
  obtain ⟨cl8, Ar8, hin8, -⟩ := f7.at (j := (Int32.ofNat len)) (k := len) (Int32.toInt_ofNat_of_lt (by omega)) hlt
  obtain ⟨T8, h8, X8, e8, W8, st8⟩ := stB X5 hx hZ e5 Ar8 (j := (Int32.ofNat len)) hin8 (g := (mkF m 28 #[.val (.ref a), .val (.int x), .unset] [(.int x), (.int (Int32.ofNat len)), (.ref k)])) rfl rfl (hb hby d3_28)
  have V8 : AV Z h8 k .byte n (upd f len (.int (nar .byte x))) := AV.set f7 (k := len) (Int32.toInt_ofNat_of_lt (by omega)) hlt W8
  have N8 := Fr.snoc X8 N5 g_k
  have Z8 : n0 ≤ h8.size := Nat.le_trans Z5 (Keep.of_wr W8).1
  have K8 : Keep hI h8 [a, k] := K5.wr W8 (Or.inl (List.mem_of_getElem? (i := 1) rfl))
  refine Go.step (st8) ?_
  show Go _ _ _ _ _ _ _ T8 (mkF m 29 #[.val (.ref a), .val (.int x), .unset] [])
  refine Go.step (fun t k => XS.iconst X8.here hx rfl (hb hby d3_29) k) ?_
  show Go _ _ _ _ _ _ _ T8 (mkF m 30 #[.val (.ref a), .val (.int x), .unset] [(.int (0 : Int32))])
  have f9 := (Exa.wr W8 (Exa.wr W5 E_a))
  have f10 := (Exa.wr W8 (Exa.wr W5 E_k))
  have f11 := (Fld.other W8 (Fld.other W5 F_0 (Or.inr (slot_ne (Or.inr (hw _ (List.mem_of_getElem? (i := 11) rfl))) (Or.inl (hw _ (List.mem_of_getElem? (i := 18) rfl))) (by decide) (t := (.array .byte)) (t' := .int) (by decide) (by decide)))) (Or.inl ne_a_k))
  have f12 := (Fld.other W8 f6 (Or.inl ne_a_k))
  have f13 := (Fld.other W8 (Fld.other W5 F_2 (Or.inr (slot_ne (Or.inl (hw _ (List.mem_of_getElem? (i := 20) rfl))) (Or.inl (hw _ (List.mem_of_getElem? (i := 18) rfl))) (by decide) (t := .boolean) (t' := .int) (by decide) (by decide)))) (Or.inl ne_a_k))
  refine go_retN X8 hx (t := .boolean) hret (by simp) hlk (hb hby d3_30) (w := (0 : Int32)) rfl ?_ (by decide) (by decide)
  try rw [e8]
  exact ⟨rfl, N8, eI ▸ K8, f9, f10, f11, f12, f13, V8⟩
theorem ef_rmF (m : MethodId) (x0 : Addr) (x1 : Int32) : entryFrame m #[(.ref x0), (.int x1)] 3 = mkF m 0 #[.val (.ref x0), .val (.int x1), .unset] [] := by first | (simp [entryFrame, mkF, argsToLocals, Value.category]; done) | rfl
theorem d3_31 : decode prog_38_method_2_code 31 = .ok (.aload_n 0, 1) := by decide +kernel
theorem d3_32 : decode prog_38_method_2_code 32 = .ok (.getfield 17, 3) := by decide +kernel
theorem d3_35 : decode prog_38_method_2_code 35 = .ok (.ifCond .ne 7, 3) := by decide +kernel
theorem d3_42 : decode prog_38_method_2_code 42 = .ok (.iconst 0, 1) := by decide +kernel
theorem d3_43 : decode prog_38_method_2_code 43 = .ok (.istore_n 2, 1) := by decide +kernel
theorem d3_44 : decode prog_38_method_2_code 44 = .ok (.aload_n 0, 1) := by decide +kernel
theorem d3_45 : decode prog_38_method_2_code 45 = .ok (.iconst 1, 1) := by decide +kernel
theorem d3_46 : decode prog_38_method_2_code 46 = .ok (.putfield 17, 3) := by decide +kernel
theorem d3_49 : decode prog_38_method_2_code 49 = .ok (.iload_n 2, 1) := by decide +kernel
theorem d3_50 : decode prog_38_method_2_code 50 = .ok (.ireturn, 1) := by decide +kernel
theorem d3_38 : decode prog_38_method_2_code 38 = .ok (.iconst 1, 1) := by decide +kernel
theorem d3_39 : decode prog_38_method_2_code 39 = .ok (.goto 4, 3) := by decide +kernel
set_option maxRecDepth 65536 in
set_option maxHeartbeats 40000000 in
theorem rmF (l : Launch) (Z : State) (a0 : Array Value) (hw : ∀ d ∈ tables_1, d.before a0 Z = true) (ws : List Jvm.Cond) (a k : Addr) (n len : Nat) (ct : Bool) (f : Nat → Value) (x : Int32) (h0 : Heap) (n0 : Nat) (Z0 : n0 ≤ h0.size) (hn1 : 1 ≤ n) (hn : n ≤ 4) (hl : len ≤ n) (E_a : Exa Z h0 a "com/example/bearer/bearer/modem/LineBuffer") (F_0 : Fld Z h0 a "com/example/bearer/bearer/modem/LineBuffer" "kept" "[B" (.ref k)) (F_1 : Fld Z h0 a "com/example/bearer/bearer/modem/LineBuffer" "length" "I" (.int (Int32.ofNat len))) (F_2 : Fld Z h0 a "com/example/bearer/bearer/modem/LineBuffer" "cut" "Z" (.int (bi (ct = true)))) (V_k : AV Z h0 k .byte n f) (E_k : Exa Z h0 k "[B") (ne_a_k : a ≠ k) (g_a : n0 ≤ a) (g_k : n0 ≤ k) (hlt : ¬ len < n) :
    Ctr l Z (⟨"com/example/bearer/bearer/modem/LineBuffer", "add", "(B)Z"⟩ : MethodName) prog_38_method_2_code 3 (some .boolean) ws ({ frames := 0, cells := 0, slots := 0, locals := 0 } : Room) 0 0 #[(.ref a), (.int x)] h0 (fun v h L => v = some (.int (bi (¬ (ct = true)))) ∧ Fr n0 L ∧ Keep h0 h [a, k] ∧ Exa Z h a "com/example/bearer/bearer/modem/LineBuffer" ∧ Exa Z h k "[B" ∧ Fld Z h a "com/example/bearer/bearer/modem/LineBuffer" "kept" "[B" (.ref k) ∧ Fld Z h a "com/example/bearer/bearer/modem/LineBuffer" "length" "I" (.int (Int32.ofNat len)) ∧ Fld Z h a "com/example/bearer/bearer/modem/LineBuffer" "cut" "Z" (.int (bi (true = true))) ∧ AV Z h k .byte n f) := by
  refine Ctr.mk (plainFor_of_name pn_0) fun p e s m below meth c T0 X0 C e0 => go_cast (ef_rmF m a x) ?_
  have N0 := Fr.nil n0
  obtain ⟨hx, hZ, hby, hml, hown, hnm, hret, hlk⟩ := C
  obtain ⟨hI, eI⟩ : ∃ z, z = h0 := ⟨_, rfl⟩
  have K0 : Keep hI h0 [a, k] := by rw [eI]; exact Keep.refl _ _
  show Go _ _ _ _ _ _ _ T0 (mkF m 0 #[.val (.ref a), .val (.int x), .unset] [])
  refine Go.step (fun t k => XS.aloadN X0.here hx rfl (hb hby d3_0) rfl rfl k) ?_
  show Go _ _ _ _ _ _ _ T0 (mkF m 1 #[.val (.ref a), .val (.int x), .unset] [(.ref a)])
  obtain ⟨T1, X1, e1, st1⟩ := getF X0 hx hZ hown (host := "") (Or.inl (hw _ (List.mem_of_getElem? (i := 17) rfl))) Via.refl e0 F_1 (g := (mkF m 1 #[.val (.ref a), .val (.int x), .unset] [(.ref a)])) rfl rfl (hb hby d3_1)
  refine Go.step (st1) ?_
  show Go _ _ _ _ _ _ _ T1 (mkF m 4 #[.val (.ref a), .val (.int x), .unset] [(.int (Int32.ofNat len))])
  refine Go.step (fun t k => XS.aloadN X1.here hx rfl (hb hby d3_4) rfl rfl k) ?_
  show Go _ _ _ _ _ _ _ T1 (mkF m 5 #[.val (.ref a), .val (.int x), .unset] [(.ref a), (.int (Int32.ofNat len))])
  obtain ⟨T2, X2, e2, st2⟩ := getF X1 hx hZ hown (host := "") (Or.inl (hw _ (List.mem_of_getElem? (i := 10) rfl))) Via.refl e1 F_0 (g := (mkF m 5 #[.val (.ref a), .val (.int x), .unset] [(.ref a), (.int (Int32.ofNat len))])) rfl rfl (hb hby d3_5)
  refine Go.step (st2) ?_
  show Go _ _ _ _ _ _ _ T2 (mkF m 8 #[.val (.ref a), .val (.int x), .unset] [(.ref k), (.int (Int32.ofNat len))])
  refine Go.step (a_len X2 hx hZ e2 V_k (z := (Int32.ofNat n)) (Int32.toInt_ofNat_of_lt (by omega)) (hb hby d3_8)) ?_
  show Go _ _ _ _ _ _ _ T2 (mkF m 9 #[.val (.ref a), .val (.int x), .unset] [(.int (Int32.ofNat n)), (.int (Int32.ofNat len))])
  refine Go.step (fun t k => XS.icmpYes X2.here hx rfl (pc0 := 9) (pc' := 31) rfl (hb hby d3_9) rfl (flt (mt (own_lt len n (by omega) (by omega)).mp hlt)).2.1 (by decide) (by decide) k) ?_
  show Go _ _ _ _ _ _ _ T2 (mkF m 31 #[.val (.ref a), .val (.int x), .unset] [])
  refine Go.step (fun t k => XS.aloadN X2.here hx rfl (hb hby d3_31) rfl rfl k) ?_
  show Go _ _ _ _ _ _ _ T2 (mkF m 32 #[.val (.ref a), .val (.int x), .unset] [(.ref a)])
  obtain ⟨T3, X3, e3, st3⟩ := getF X2 hx hZ hown (host := "") (Or.inl (hw _ (List.mem_of_getElem? (i := 19) rfl))) Via.refl e2 F_2 (g := (mkF m 32 #[.val (.ref a), .val (.int x), .unset] [(.ref a)])) rfl rfl (hb hby d3_32)
  refine Go.step (st3) ?_
  show Go _ _ _ _ _ _ _ T3 (mkF m 35 #[.val (.ref a), .val (.int x), .unset] [(.int (bi (ct = true)))])
  by_cases c35_4 : ct = true
  · refine Go.step (fun t k => XS.ifYes X3.here hx rfl (pc0 := 35) (pc' := 42) rfl (hb hby d3_35) rfl ((if0 _ _).trans (feq (bi_n c35_4)).2) (by decide) (by decide) k) ?_
    show Go _ _ _ _ _ _ _ T3 (mkF m 42 #[.val (.ref a), .val (.int x), .unset] [])
    refine Go.step (fun t k => XS.iconst X3.here hx rfl (hb hby d3_42) k) ?_
    show Go _ _ _ _ _ _ _ T3 (mkF m 43 #[.val (.ref a), .val (.int x), .unset] [(.int (0 : Int32))])
    refine Go.step (fun t k => XS.istoreN X3.here hx rfl (hb hby d3_43) rfl (l' := #[.val (.ref a), .val (.int x), .val (.int (0 : Int32))]) rfl k) ?_
    show Go _ _ _ _ _ _ _ T3 (mkF m 44 #[.val (.ref a), .val (.int x), .val (.int (0 : Int32))] [])
    refine Go.step (fun t k => XS.aloadN X3.here hx rfl (hb hby d3_44) rfl rfl k) ?_
    show Go _ _ _ _ _ _ _ T3 (mkF m 45 #[.val (.ref a), .val (.int x), .val (.int (0 : Int32))] [(.ref a)])
    refine Go.step (fun t k => XS.iconst X3.here hx rfl (hb hby d3_45) k) ?_
    show Go _ _ _ _ _ _ _ T3 (mkF m 46 #[.val (.ref a), .val (.int x), .val (.int (0 : Int32))] [(.int (1 : Int32)), (.ref a)])
    obtain ⟨T5, h5, X5, e5, W5, st5⟩ := putFN X3 hx hZ hown (hw _ (List.mem_of_getElem? (i := 19) rfl)) Via.refl e3 F_2 E_a (Or.inl (hw _ (List.mem_of_getElem? (i := 20) rfl))) (hw _ (List.mem_of_getElem? (i := 1) rfl)) (ty := .boolean) (v' := (.int (1 : Int32))) (by decide) rfl rfl (g := (mkF m 46 #[.val (.ref a), .val (.int x), .val (.int (0 : Int32))] [(.int (1 : Int32)), (.ref a)])) rfl rfl (hb hby d3_46)
    have F5 := Fld.same W5 F_2
    have N5 := Fr.snoc X5 N0 g_a
    have Z5 : n0 ≤ h5.size := Nat.le_trans Z0 (Keep.of_wr W5).1
    have K5 : Keep hI h5 [a, k] := K0.wr W5 (Or.inl (List.mem_of_getElem? (i := 0) rfl))
    refine Go.step (st5) ?_
    show Go _ _ _ _ _ _ _ T5 (mkF m 49 #[.val (.ref a), .val (.int x), .val (.int (0 : Int32))] [])
    refine Go.step (fun t k => XS.iloadN X5.here hx rfl (hb hby d3_49) rfl k) ?_
    show Go _ _ _ _ _ _ _ T5 (mkF m 50 #[.val (.ref a), .val (.int x), .val (.int (0 : Int32))] [(.int (0 : Int32))])
    have f6 := (Exa.wr W5 E_a)
    have f7 := (Exa.wr W5 E_k)
    have f8 := (Fld.other W5 F_0 (Or.inr (slot_ne (Or.inr (hw _ (List.mem_of_getElem? (i := 11) rfl))) (Or.inl (hw _ (List.mem_of_getElem? (i := 20) rfl))) (by decide) (t := (.array .byte)) (t' := .boolean) (by decide) (by decide))))
    have f9 := (Fld.other W5 F_1 (Or.inr (slot_ne (Or.inl (hw _ (List.mem_of_getElem? (i := 18) rfl))) (Or.inl (hw _ (List.mem_of_getElem? (i := 20) rfl))) (by decide) (t := .int) (t' := .boolean) (by decide) (by decide))))
    have f10 := (V_k.other W5 (Ne.symm ne_a_k))
    refine go_retN X5 hx (t := .boolean) hret (by simp) hlk (hb hby d3_50) (w := (0 : Int32)) rfl ?_ (by decide) (by decide)
    try rw [e5]
    exact ⟨congrArg (fun z => some (Value.int z)) (bi_f (by simp only [eq_true c35_4, not_true_eq_false, not_false_eq_true, and_true, true_and, and_false, false_and, or_true, true_or, or_false, false_or, and_self, or_self])).symm, N5, eI ▸ K5, f6, f7, f8, f9, F5, f10⟩
  · refine Go.step (fun t k => XS.ifNo X3.here hx rfl (hb hby d3_35) rfl ((if0 _ _).trans (teq (bi_f c35_4)).2) k) ?_
    show Go _ _ _ _ _ _ _ T3 (mkF m 38 #[.val (.ref a), .val (.int x), .unset] [])
    refine Go.step (fun t k => XS.iconst X3.here hx rfl (hb hby d3_38) k) ?_
    show Go _ _ _ _ _ _ _ T3 (mkF m 39 #[.val (.ref a), .val (.int x), .unset] [(.int (1 : Int32))])
    refine Go.step (fun t k => XS.goto X3.here hx rfl (pc0 := 39) (pc' := 43) rfl (hb hby d3_39) (by decide) (by decide) k) ?_
    show Go _ _ _ _ _ _ _ T3 (mkF m 43 #[.val (.ref a), .val (.int x), .unset] [(.int (1 : Int32))])
    refine Go.step (fun t k => XS.istoreN X3.here hx rfl (hb hby d3_43) rfl (l' := #[.val (.ref a), .val (.int x), .val (.int (1 : Int32))]) rfl k) ?_
    show Go _ _ _ _ _ _ _ T3 (mkF m 44 #[.val (.ref a), .val (.int x), .val (.int (1 : Int32))] [])
    refine Go.step (fun t k => XS.aloadN X3.here hx rfl (hb hby d3_44) rfl rfl k) ?_
    show Go _ _ _ _ _ _ _ T3 (mkF m 45 #[.val (.ref a), .val (.int x), .val (.int (1 : Int32))] [(.ref a)])
    refine Go.step (fun t k => XS.iconst X3.here hx rfl (hb hby d3_45) k) ?_
    show Go _ _ _ _ _ _ _ T3 (mkF m 46 #[.val (.ref a), .val (.int x), .val (.int (1 : Int32))] [(.int (1 : Int32)), (.ref a)])
    obtain ⟨T11, h11, X11, e11, W11, st11⟩ := putFN X3 hx hZ hown (hw _ (List.mem_of_getElem? (i := 19) rfl)) Via.refl e3 F_2 E_a (Or.inl (hw _ (List.mem_of_getElem? (i := 20) rfl))) (hw _ (List.mem_of_getElem? (i := 1) rfl)) (ty := .boolean) (v' := (.int (1 : Int32))) (by decide) rfl rfl (g := (mkF m 46 #[.val (.ref a), .val (.int x), .val (.int (1 : Int32))] [(.int (1 : Int32)), (.ref a)])) rfl rfl (hb hby d3_46)
    have F11 := Fld.same W11 F_2
    have N11 := Fr.snoc X11 N0 g_a
    have Z11 : n0 ≤ h11.size := Nat.le_trans Z0 (Keep.of_wr W11).1
    have K11 : Keep hI h11 [a, k] := K0.wr W11 (Or.inl (List.mem_of_getElem? (i := 0) rfl))
    refine Go.step (st11) ?_
    show Go _ _ _ _ _ _ _ T11 (mkF m 49 #[.val (.ref a), .val (.int x), .val (.int (1 : Int32))] [])
    refine Go.step (fun t k => XS.iloadN X11.here hx rfl (hb hby d3_49) rfl k) ?_
    show Go _ _ _ _ _ _ _ T11 (mkF m 50 #[.val (.ref a), .val (.int x), .val (.int (1 : Int32))] [(.int (1 : Int32))])
    have f12 := (Exa.wr W11 E_a)
    have f13 := (Exa.wr W11 E_k)
    have f14 := (Fld.other W11 F_0 (Or.inr (slot_ne (Or.inr (hw _ (List.mem_of_getElem? (i := 11) rfl))) (Or.inl (hw _ (List.mem_of_getElem? (i := 20) rfl))) (by decide) (t := (.array .byte)) (t' := .boolean) (by decide) (by decide))))
    have f15 := (Fld.other W11 F_1 (Or.inr (slot_ne (Or.inl (hw _ (List.mem_of_getElem? (i := 18) rfl))) (Or.inl (hw _ (List.mem_of_getElem? (i := 20) rfl))) (by decide) (t := .int) (t' := .boolean) (by decide) (by decide))))
    have f16 := (V_k.other W11 (Ne.symm ne_a_k))
    refine go_retN X11 hx (t := .boolean) hret (by simp) hlk (hb hby d3_50) (w := (1 : Int32)) rfl ?_ (by decide) (by decide)
    try rw [e11]
    exact ⟨congrArg (fun z => some (Value.int z)) (bi_t (by simp only [eq_false c35_4, not_true_eq_false, not_false_eq_true, and_true, true_and, and_false, false_and, or_true, true_or, or_false, false_or, and_self, or_self])).symm, N11, eI ▸ K11, f12, f13, f14, f15, F11, f16⟩
theorem own_cnt (x : Int32) : ∃ n : Nat, n ≤ 3 ∧ (x &&& (3 : Int32)) = Int32.ofNat n := by
  have h1 := c_mask x 3 2 (by decide) (by decide)
  refine ⟨(x &&& 3).toInt.toNat, by omega, Int32.toInt_inj.mp ?_⟩
  rw [Int32.toInt_ofNat_of_lt (by omega)]; omega
abbrev mn (a b : Int32) : Int32 := if b < a then b else a
theorem own_min (a b : Nat) (ha : a < 2147483648) (hb : b < 2147483648) : mn (Int32.ofNat a) (Int32.ofNat b) = Int32.ofNat (min a b) := by
  have h := own_lt b a hb ha
  unfold mn
  by_cases q : b < a
  · rw [if_pos (h.mpr q), Nat.min_eq_right (by omega)]
  · rw [if_neg (mt h.mp q), Nat.min_eq_left (by omega)]
theorem ef_rmMin (m : MethodId) (x0 : Int32) (x1 : Int32) : entryFrame m #[(.int x0), (.int x1)] 2 = mkF m 0 #[.val (.int x0), .val (.int x1)] [] := by first | (simp [entryFrame, mkF, argsToLocals, Value.category]; done) | rfl
theorem pf_5 : plainFor (⟨"java/lang/Math", "min", "(II)I"⟩ : MethodName) = true := by decide +kernel
theorem d5_0 : decode jdk_29_method_69_code 0 = .ok (.iload_n 0, 1) := by decide +kernel
theorem d5_1 : decode jdk_29_method_69_code 1 = .ok (.iload_n 1, 1) := by decide +kernel
theorem d5_2 : decode jdk_29_method_69_code 2 = .ok (.if_icmp .gt 7, 3) := by decide +kernel
theorem d5_9 : decode jdk_29_method_69_code 9 = .ok (.iload_n 1, 1) := by decide +kernel
theorem d5_10 : decode jdk_29_method_69_code 10 = .ok (.ireturn, 1) := by decide +kernel
theorem d5_5 : decode jdk_29_method_69_code 5 = .ok (.iload_n 0, 1) := by decide +kernel
theorem d5_6 : decode jdk_29_method_69_code 6 = .ok (.goto 4, 3) := by decide +kernel
set_option maxRecDepth 65536 in
set_option maxHeartbeats 40000000 in
theorem rmMin (l : Launch) (Z : State) (a0 : Array Value) (hw : ∀ d ∈ tables_1, d.before a0 Z = true) (ws : List Jvm.Cond) (x y : Int32) (h0 : Heap) (n0 : Nat) (Z0 : n0 ≤ h0.size)  :
    Ctr l Z (⟨"java/lang/Math", "min", "(II)I"⟩ : MethodName) jdk_29_method_69_code 2 (some .int) ws ({ frames := 0, cells := 0, slots := 0, locals := 0 } : Room) 0 0 #[(.int x), (.int y)] h0 (fun v h L => v = some (.int (mn x y)) ∧ L = [] ∧ h = h0) := by
  refine Ctr.mk pf_5 fun p e s m below meth c T0 X0 C e0 => go_cast (ef_rmMin m x y) ?_
  have N0 := Fr.nil n0
  obtain ⟨hx, hZ, hby, hml, hown, hnm, hret, hlk⟩ := C
  show Go _ _ _ _ _ _ _ T0 (mkF m 0 #[.val (.int x), .val (.int y)] [])
  refine Go.step (fun t k => XS.iloadN X0.here hx rfl (hb hby d5_0) rfl k) ?_
  show Go _ _ _ _ _ _ _ T0 (mkF m 1 #[.val (.int x), .val (.int y)] [(.int x)])
  refine Go.step (fun t k => XS.iloadN X0.here hx rfl (hb hby d5_1) rfl k) ?_
  show Go _ _ _ _ _ _ _ T0 (mkF m 2 #[.val (.int x), .val (.int y)] [(.int y), (.int x)])
  by_cases c2_1 : y < x
  · refine Go.step (fun t k => XS.icmpYes X0.here hx rfl (pc0 := 2) (pc' := 9) rfl (hb hby d5_2) rfl (tlt c2_1).2.2.1 (by decide) (by decide) k) ?_
    show Go _ _ _ _ _ _ _ T0 (mkF m 9 #[.val (.int x), .val (.int y)] [])
    refine Go.step (fun t k => XS.iloadN X0.here hx rfl (hb hby d5_9) rfl k) ?_
    show Go _ _ _ _ _ _ _ T0 (mkF m 10 #[.val (.int x), .val (.int y)] [(.int y)])
    refine go_retI X0 hx hret hlk (hb hby d5_10) ?_ (by decide) (by decide)
    try rw [e0]
    exact ⟨congrArg (fun z => some (Value.int z)) (by simp only [mn, eq_true c2_1, if_true, if_false]), rfl, rfl⟩
  · refine Go.step (fun t k => XS.icmpNo X0.here hx rfl (hb hby d5_2) rfl (flt c2_1).2.2.1 k) ?_
    show Go _ _ _ _ _ _ _ T0 (mkF m 5 #[.val (.int x), .val (.int y)] [])
    refine Go.step (fun t k => XS.iloadN X0.here hx rfl (hb hby d5_5) rfl k) ?_
    show Go _ _ _ _ _ _ _ T0 (mkF m 6 #[.val (.int x), .val (.int y)] [(.int x)])
    refine Go.step (fun t k => XS.goto X0.here hx rfl (pc0 := 6) (pc' := 10) rfl (hb hby d5_6) (by decide) (by decide) k) ?_
    show Go _ _ _ _ _ _ _ T0 (mkF m 10 #[.val (.int x), .val (.int y)] [(.int x)])
    refine go_retI X0 hx hret hlk (hb hby d5_10) ?_ (by decide) (by decide)
    try rw [e0]
    exact ⟨congrArg (fun z => some (Value.int z)) (by simp only [mn, eq_false c2_1, if_true, if_false]), rfl, rfl⟩
theorem ef_rmCl (m : MethodId) (x0 : Addr) : entryFrame m #[(.ref x0)] 1 = mkF m 0 #[.val (.ref x0)] [] := by first | (simp [entryFrame, mkF, argsToLocals, Value.category]; done) | rfl
theorem d4_0 : decode prog_38_method_12_code 0 = .ok (.aload_n 0, 1) := by decide +kernel
theorem d4_1 : decode prog_38_method_12_code 1 = .ok (.iconst 0, 1) := by decide +kernel
theorem d4_2 : decode prog_38_method_12_code 2 = .ok (.putfield 13, 3) := by decide +kernel
theorem d4_5 : decode prog_38_method_12_code 5 = .ok (.aload_n 0, 1) := by decide +kernel
theorem d4_6 : decode prog_38_method_12_code 6 = .ok (.iconst 0, 1) := by decide +kernel
theorem d4_7 : decode prog_38_method_12_code 7 = .ok (.putfield 17, 3) := by decide +kernel
theorem d4_10 : decode prog_38_method_12_code 10 = .ok (.return_, 1) := by decide +kernel
set_option maxRecDepth 65536 in
set_option maxHeartbeats 40000000 in
theorem rmCl (l : Launch) (Z : State) (a0 : Array Value) (hw : ∀ d ∈ tables_1, d.before a0 Z = true) (ws : List Jvm.Cond) (a k : Addr) (n len : Nat) (ct : Bool) (f : Nat → Value) (h0 : Heap) (n0 : Nat) (Z0 : n0 ≤ h0.size) (hn1 : 1 ≤ n) (hn : n ≤ 4) (hl : len ≤ n) (E_a : Exa Z h0 a "com/example/bearer/bearer/modem/LineBuffer") (F_0 : Fld Z h0 a "com/example/bearer/bearer/modem/LineBuffer" "kept" "[B" (.ref k)) (F_1 : Fld Z h0 a "com/example/bearer/bearer/modem/LineBuffer" "length" "I" (.int (Int32.ofNat len))) (F_2 : Fld Z h0 a "com/example/bearer/bearer/modem/LineBuffer" "cut" "Z" (.int (bi (ct = true)))) (V_k : AV Z h0 k .byte n f) (E_k : Exa Z h0 k "[B") (ne_a_k : a ≠ k) (g_a : n0 ≤ a) (g_k : n0 ≤ k) :
    Ctr l Z (⟨"com/example/bearer/bearer/modem/LineBuffer", "clear", "()V"⟩ : MethodName) prog_38_method_12_code 1 none ws ({ frames := 0, cells := 0, slots := 0, locals := 0 } : Room) 0 0 #[(.ref a)] h0 (fun v h L => v = none ∧ Fr n0 L ∧ Keep h0 h [a, k] ∧ Exa Z h a "com/example/bearer/bearer/modem/LineBuffer" ∧ Exa Z h k "[B" ∧ Fld Z h a "com/example/bearer/bearer/modem/LineBuffer" "kept" "[B" (.ref k) ∧ Fld Z h a "com/example/bearer/bearer/modem/LineBuffer" "length" "I" (.int (Int32.ofNat 0)) ∧ Fld Z h a "com/example/bearer/bearer/modem/LineBuffer" "cut" "Z" (.int (bi (false = true))) ∧ AV Z h k .byte n f) := by
  refine Ctr.mk (plainFor_of_name pn_0) fun p e s m below meth c T0 X0 C e0 => go_cast (ef_rmCl m a) ?_
  have N0 := Fr.nil n0
  obtain ⟨hx, hZ, hby, hml, hown, hnm, hret, hlk⟩ := C
  obtain ⟨hI, eI⟩ : ∃ z, z = h0 := ⟨_, rfl⟩
  have K0 : Keep hI h0 [a, k] := by rw [eI]; exact Keep.refl _ _
  show Go _ _ _ _ _ _ _ T0 (mkF m 0 #[.val (.ref a)] [])
  refine Go.step (fun t k => XS.aloadN X0.here hx rfl (hb hby d4_0) rfl rfl k) ?_
  show Go _ _ _ _ _ _ _ T0 (mkF m 1 #[.val (.ref a)] [(.ref a)])
  refine Go.step (fun t k => XS.iconst X0.here hx rfl (hb hby d4_1) k) ?_
  show Go _ _ _ _ _ _ _ T0 (mkF m 2 #[.val (.ref a)] [(.int (0 : Int32)), (.ref a)])
  obtain ⟨T1, h1, X1, e1, W1, st1⟩ := putF X0 hx hZ hown (host := "") (Or.inl (hw _ (List.mem_of_getElem? (i := 17) rfl))) Via.refl e0 F_1 E_a (Or.inl (hw _ (List.mem_of_getElem? (i := 18) rfl))) (hw _ (List.mem_of_getElem? (i := 1) rfl)) (ty := .int) (by decide) rfl rfl (g := (mkF m 2 #[.val (.ref a)] [(.int (0 : Int32)), (.ref a)])) rfl rfl (hb hby d4_2)
  have F1 := Fld.same W1 F_1
  have N1 := Fr.snoc X1 N0 g_a
  have Z1 : n0 ≤ h1.size := Nat.le_trans Z0 (Keep.of_wr W1).1
  have K1 : Keep hI h1 [a, k] := K0.wr W1 (Or.inl (List.mem_of_getElem? (i := 0) rfl))
  refine Go.step (st1) ?_
  show Go _ _ _ _ _ _ _ T1 (mkF m 5 #[.val (.ref a)] [])
  refine Go.step (fun t k => XS.aloadN X1.here hx rfl (hb hby d4_5) rfl rfl k) ?_
  show Go _ _ _ _ _ _ _ T1 (mkF m 6 #[.val (.ref a)] [(.ref a)])
  refine Go.step (fun t k => XS.iconst X1.here hx rfl (hb hby d4_6) k) ?_
  show Go _ _ _ _ _ _ _ T1 (mkF m 7 #[.val (.ref a)] [(.int (0 : Int32)), (.ref a)])
  have f3 := (Fld.other W1 F_2 (Or.inr (slot_ne (Or.inl (hw _ (List.mem_of_getElem? (i := 20) rfl))) (Or.inl (hw _ (List.mem_of_getElem? (i := 18) rfl))) (by decide) (t := .boolean) (t' := .int) (by decide) (by decide))))
  have f4 := (Exa.wr W1 E_a)
  obtain ⟨T2, h2, X2, e2, W2, st2⟩ := putFN X1 hx hZ hown (hw _ (List.mem_of_getElem? (i := 19) rfl)) Via.refl e1 f3 f4 (Or.inl (hw _ (List.mem_of_getElem? (i := 20) rfl))) (hw _ (List.mem_of_getElem? (i := 1) rfl)) (ty := .boolean) (v' := (.int (0 : Int32))) (by decide) rfl rfl (g := (mkF m 7 #[.val (.ref a)] [(.int (0 : Int32)), (.ref a)])) rfl rfl (hb hby d4_7)
  have F2 := Fld.same W2 f3
  have N2 := Fr.snoc X2 N1 g_a
  have Z2 : n0 ≤ h2.size := Nat.le_trans Z1 (Keep.of_wr W2).1
  have K2 : Keep hI h2 [a, k] := K1.wr W2 (Or.inl (List.mem_of_getElem? (i := 0) rfl))
  refine Go.step (st2) ?_
  show Go _ _ _ _ _ _ _ T2 (mkF m 10 #[.val (.ref a)] [])
  have f5 := (Exa.wr W2 f4)
  have f6 := (Exa.wr W2 (Exa.wr W1 E_k))
  have f7 := (Fld.other W2 (Fld.other W1 F_0 (Or.inr (slot_ne (Or.inr (hw _ (List.mem_of_getElem? (i := 11) rfl))) (Or.inl (hw _ (List.mem_of_getElem? (i := 18) rfl))) (by decide) (t := (.array .byte)) (t' := .int) (by decide) (by decide)))) (Or.inr (slot_ne (Or.inr (hw _ (List.mem_of_getElem? (i := 11) rfl))) (Or.inl (hw _ (List.mem_of_getElem? (i := 20) rfl))) (by decide) (t := (.array .byte)) (t' := .boolean) (by decide) (by decide))))
  have f8 := (Fld.other W2 F1 (Or.inr (slot_ne (Or.inl (hw _ (List.mem_of_getElem? (i := 18) rfl))) (Or.inl (hw _ (List.mem_of_getElem? (i := 20) rfl))) (by decide) (t := .int) (t' := .boolean) (by decide) (by decide))))
  have f9 := ((V_k.other W1 (Ne.symm ne_a_k)).other W2 (Ne.symm ne_a_k))
  refine go_ret X2 hx hret hlk (hb hby d4_10) ?_ (by decide) (by decide)
  try rw [e2]
  exact ⟨rfl, N2, eI ▸ K2, f5, f6, f7, f8, F2, f9⟩
theorem ef_rmEm (m : MethodId) (x0 : Addr) : entryFrame m #[(.ref x0)] 1 = mkF m 0 #[.val (.ref x0)] [] := by first | (simp [entryFrame, mkF, argsToLocals, Value.category]; done) | rfl
theorem d6_0 : decode prog_38_method_4_code 0 = .ok (.aload_n 0, 1) := by decide +kernel
theorem d6_1 : decode prog_38_method_4_code 1 = .ok (.getfield 13, 3) := by decide +kernel
theorem d6_4 : decode prog_38_method_4_code 4 = .ok (.ifCond .ne 7, 3) := by decide +kernel
theorem d6_7 : decode prog_38_method_4_code 7 = .ok (.iconst 1, 1) := by decide +kernel
theorem d6_8 : decode prog_38_method_4_code 8 = .ok (.goto 4, 3) := by decide +kernel
theorem d6_12 : decode prog_38_method_4_code 12 = .ok (.ireturn, 1) := by decide +kernel
theorem d6_11 : decode prog_38_method_4_code 11 = .ok (.iconst 0, 1) := by decide +kernel
set_option maxRecDepth 65536 in
set_option maxHeartbeats 40000000 in
theorem rmEm (l : Launch) (Z : State) (a0 : Array Value) (hw : ∀ d ∈ tables_1, d.before a0 Z = true) (ws : List Jvm.Cond) (a k : Addr) (n len : Nat) (ct : Bool) (f : Nat → Value) (h0 : Heap) (n0 : Nat) (Z0 : n0 ≤ h0.size) (hn1 : 1 ≤ n) (hn : n ≤ 4) (hl : len ≤ n) (E_a : Exa Z h0 a "com/example/bearer/bearer/modem/LineBuffer") (F_0 : Fld Z h0 a "com/example/bearer/bearer/modem/LineBuffer" "kept" "[B" (.ref k)) (F_1 : Fld Z h0 a "com/example/bearer/bearer/modem/LineBuffer" "length" "I" (.int (Int32.ofNat len))) (F_2 : Fld Z h0 a "com/example/bearer/bearer/modem/LineBuffer" "cut" "Z" (.int (bi (ct = true)))) (V_k : AV Z h0 k .byte n f) (E_k : Exa Z h0 k "[B") (ne_a_k : a ≠ k) :
    Ctr l Z (⟨"com/example/bearer/bearer/modem/LineBuffer", "isEmpty", "()Z"⟩ : MethodName) prog_38_method_4_code 1 (some .boolean) ws ({ frames := 0, cells := 0, slots := 0, locals := 0 } : Room) 0 0 #[(.ref a)] h0 (fun v h L => v = some (.int (bi ((Int32.ofNat len) = (0 : Int32)))) ∧ L = [] ∧ h = h0) := by
  refine Ctr.mk (plainFor_of_name pn_0) fun p e s m below meth c T0 X0 C e0 => go_cast (ef_rmEm m a) ?_
  have N0 := Fr.nil n0
  obtain ⟨hx, hZ, hby, hml, hown, hnm, hret, hlk⟩ := C
  show Go _ _ _ _ _ _ _ T0 (mkF m 0 #[.val (.ref a)] [])
  refine Go.step (fun t k => XS.aloadN X0.here hx rfl (hb hby d6_0) rfl rfl k) ?_
  show Go _ _ _ _ _ _ _ T0 (mkF m 1 #[.val (.ref a)] [(.ref a)])
  obtain ⟨T1, X1, e1, st1⟩ := getF X0 hx hZ hown (host := "") (Or.inl (hw _ (List.mem_of_getElem? (i := 17) rfl))) Via.refl e0 F_1 (g := (mkF m 1 #[.val (.ref a)] [(.ref a)])) rfl rfl (hb hby d6_1)
  refine Go.step (st1) ?_
  show Go _ _ _ _ _ _ _ T1 (mkF m 4 #[.val (.ref a)] [(.int (Int32.ofNat len))])
  by_cases c4_2 : (Int32.ofNat len) = (0 : Int32)
  · refine Go.step (fun t k => XS.ifNo X1.here hx rfl (hb hby d6_4) rfl ((if0 _ _).trans (teq c4_2).2) k) ?_
    show Go _ _ _ _ _ _ _ T1 (mkF m 7 #[.val (.ref a)] [])
    refine Go.step (fun t k => XS.iconst X1.here hx rfl (hb hby d6_7) k) ?_
    show Go _ _ _ _ _ _ _ T1 (mkF m 8 #[.val (.ref a)] [(.int (1 : Int32))])
    refine Go.step (fun t k => XS.goto X1.here hx rfl (pc0 := 8) (pc' := 12) rfl (hb hby d6_8) (by decide) (by decide) k) ?_
    show Go _ _ _ _ _ _ _ T1 (mkF m 12 #[.val (.ref a)] [(.int (1 : Int32))])
    refine go_retN X1 hx (t := .boolean) hret (by simp) hlk (hb hby d6_12) (w := (1 : Int32)) rfl ?_ (by decide) (by decide)
    try rw [e1]
    exact ⟨congrArg (fun z => some (Value.int z)) (bi_t c4_2).symm, rfl, rfl⟩
  · refine Go.step (fun t k => XS.ifYes X1.here hx rfl (pc0 := 4) (pc' := 11) rfl (hb hby d6_4) rfl ((if0 _ _).trans (feq c4_2).2) (by decide) (by decide) k) ?_
    show Go _ _ _ _ _ _ _ T1 (mkF m 11 #[.val (.ref a)] [])
    refine Go.step (fun t k => XS.iconst X1.here hx rfl (hb hby d6_11) k) ?_
    show Go _ _ _ _ _ _ _ T1 (mkF m 12 #[.val (.ref a)] [(.int (0 : Int32))])
    refine go_retN X1 hx (t := .boolean) hret (by simp) hlk (hb hby d6_12) (w := (0 : Int32)) rfl ?_ (by decide) (by decide)
    try rw [e1]
    exact ⟨congrArg (fun z => some (Value.int z)) (bi_f c4_2).symm, rfl, rfl⟩
theorem ef_rmLn (m : MethodId) (x0 : Addr) : entryFrame m #[(.ref x0)] 1 = mkF m 0 #[.val (.ref x0)] [] := by first | (simp [entryFrame, mkF, argsToLocals, Value.category]; done) | rfl
theorem d7_0 : decode prog_38_method_6_code 0 = .ok (.aload_n 0, 1) := by decide +kernel
theorem d7_1 : decode prog_38_method_6_code 1 = .ok (.getfield 13, 3) := by decide +kernel
theorem d7_4 : decode prog_38_method_6_code 4 = .ok (.ireturn, 1) := by decide +kernel
set_option maxRecDepth 65536 in
set_option maxHeartbeats 40000000 in
theorem rmLn (l : Launch) (Z : State) (a0 : Array Value) (hw : ∀ d ∈ tables_1, d.before a0 Z = true) (ws : List Jvm.Cond) (a k : Addr) (n len : Nat) (ct : Bool) (f : Nat → Value) (h0 : Heap) (n0 : Nat) (Z0 : n0 ≤ h0.size) (hn1 : 1 ≤ n) (hn : n ≤ 4) (hl : len ≤ n) (E_a : Exa Z h0 a "com/example/bearer/bearer/modem/LineBuffer") (F_0 : Fld Z h0 a "com/example/bearer/bearer/modem/LineBuffer" "kept" "[B" (.ref k)) (F_1 : Fld Z h0 a "com/example/bearer/bearer/modem/LineBuffer" "length" "I" (.int (Int32.ofNat len))) (F_2 : Fld Z h0 a "com/example/bearer/bearer/modem/LineBuffer" "cut" "Z" (.int (bi (ct = true)))) (V_k : AV Z h0 k .byte n f) (E_k : Exa Z h0 k "[B") (ne_a_k : a ≠ k) :
    Ctr l Z (⟨"com/example/bearer/bearer/modem/LineBuffer", "length", "()I"⟩ : MethodName) prog_38_method_6_code 1 (some .int) ws ({ frames := 0, cells := 0, slots := 0, locals := 0 } : Room) 0 0 #[(.ref a)] h0 (fun v h L => v = some (.int (Int32.ofNat len)) ∧ L = [] ∧ h = h0) := by
  refine Ctr.mk (plainFor_of_name pn_0) fun p e s m below meth c T0 X0 C e0 => go_cast (ef_rmLn m a) ?_
  have N0 := Fr.nil n0
  obtain ⟨hx, hZ, hby, hml, hown, hnm, hret, hlk⟩ := C
  show Go _ _ _ _ _ _ _ T0 (mkF m 0 #[.val (.ref a)] [])
  refine Go.step (fun t k => XS.aloadN X0.here hx rfl (hb hby d7_0) rfl rfl k) ?_
  show Go _ _ _ _ _ _ _ T0 (mkF m 1 #[.val (.ref a)] [(.ref a)])
  obtain ⟨T1, X1, e1, st1⟩ := getF X0 hx hZ hown (host := "") (Or.inl (hw _ (List.mem_of_getElem? (i := 17) rfl))) Via.refl e0 F_1 (g := (mkF m 1 #[.val (.ref a)] [(.ref a)])) rfl rfl (hb hby d7_1)
  refine Go.step (st1) ?_
  show Go _ _ _ _ _ _ _ T1 (mkF m 4 #[.val (.ref a)] [(.int (Int32.ofNat len))])
  refine go_retI X1 hx hret hlk (hb hby d7_4) ?_ (by decide) (by decide)
  try rw [e1]
  exact ⟨rfl, rfl, rfl⟩
theorem ef_rm0 (m : MethodId) (x0 : Int32) (x1 : Int32) (x2 : Int32) (x3 : Int32) (x4 : Int32) (x5 : Int32) : entryFrame m #[(.int x0), (.int x1), (.int x2), (.int x3), (.int x4), (.int x5)] maxLocals = mkF m 0 #[.val (.int x0), .val (.int x1), .val (.int x2), .val (.int x3), .val (.int x4), .val (.int x5), .unset, .unset, .unset, .unset, .unset, .unset, .unset, .unset] [] := by first | (simp [entryFrame, mkF, argsToLocals, Value.category, maxLocals]; done) | rfl
theorem pn_1 : plainName "com/example/bearer/bearer/modem/LineBufferIsEmptyPinLaw" = true := by first | (simp [plainName, overriddenIn]; done) | decide +kernel
theorem pd_0 : parseMethodDescriptor "(I)V" = some ⟨[.int], none⟩ := by decide +kernel
theorem pd_1 : parseMethodDescriptor "(II)I" = some ⟨[.int, .int], some .int⟩ := by decide +kernel
theorem pd_2 : parseMethodDescriptor "()Z" = some ⟨[], some .boolean⟩ := by decide +kernel
theorem pd_3 : parseMethodDescriptor "()I" = some ⟨[], some .int⟩ := by decide +kernel
theorem pd_4 : parseMethodDescriptor "(B)Z" = some ⟨[.byte], some .boolean⟩ := by decide +kernel
theorem pd_5 : parseMethodDescriptor "()V" = some ⟨[], none⟩ := by decide +kernel
set_option maxRecDepth 65536 in
set_option maxHeartbeats 40000000 in
theorem rm0 (l : Launch) (Z : State) (a0 : Array Value) (hw : ∀ d ∈ tables_1, d.before a0 Z = true) (ws : List Jvm.Cond) (i0 i1 i2 i3 i4 i5 : Int32) (h0 : Heap) (n0 : Nat) (Z0 : n0 ≤ h0.size)  :
    Ctr l Z x code maxLocals ret ws room_1 16 128 #[(.int i0), (.int i1), (.int i2), (.int i3), (.int i4), (.int i5)] h0 (fun v h L => v = some (.int (1 : Int32)) ∧ Fr n0 L) := by
  refine Ctr.mk (plainFor_of_name pn_1) fun p e s m below meth c T0 X0 C e0 => go_cast (ef_rm0 m i0 i1 i2 i3 i4 i5) ?_
  have N0 := Fr.nil n0
  obtain ⟨hx, hZ, hby, hml, hown, hnm, hret, hlk⟩ := C
  show Go _ _ _ _ _ _ _ T0 (mkF m 0 #[.val (.int i0), .val (.int i1), .val (.int i2), .val (.int i3), .val (.int i4), .val (.int i5), .unset, .unset, .unset, .unset, .unset, .unset, .unset, .unset] [])
  refine Go.step (fun t k => XS.iloadN X0.here hx rfl (hb hby at_0) rfl k) ?_
  show Go _ _ _ _ _ _ _ T0 (mkF m 1 #[.val (.int i0), .val (.int i1), .val (.int i2), .val (.int i3), .val (.int i4), .val (.int i5), .unset, .unset, .unset, .unset, .unset, .unset, .unset, .unset] [(.int i0)])
  refine Go.step (fun t k => XS.iconst X0.here hx rfl (hb hby at_1) k) ?_
  show Go _ _ _ _ _ _ _ T0 (mkF m 2 #[.val (.int i0), .val (.int i1), .val (.int i2), .val (.int i3), .val (.int i4), .val (.int i5), .unset, .unset, .unset, .unset, .unset, .unset, .unset, .unset] [(.int (3 : Int32)), (.int i0)])
  refine Go.step (fun t k => XS.iand X0.here hx rfl (hb hby at_2) rfl k) ?_
  show Go _ _ _ _ _ _ _ T0 (mkF m 3 #[.val (.int i0), .val (.int i1), .val (.int i2), .val (.int i3), .val (.int i4), .val (.int i5), .unset, .unset, .unset, .unset, .unset, .unset, .unset, .unset] [(.int (i0 &&& (3 : Int32)))])
  refine Go.step (fun t k => XS.iconst X0.here hx rfl (hb hby at_3) k) ?_
  show Go _ _ _ _ _ _ _ T0 (mkF m 4 #[.val (.int i0), .val (.int i1), .val (.int i2), .val (.int i3), .val (.int i4), .val (.int i5), .unset, .unset, .unset, .unset, .unset, .unset, .unset, .unset] [(.int (1 : Int32)), (.int (i0 &&& (3 : Int32)))])
  refine Go.step (fun t k => XS.iadd X0.here hx rfl (hb hby at_4) rfl k) ?_
  show Go _ _ _ _ _ _ _ T0 (mkF m 5 #[.val (.int i0), .val (.int i1), .val (.int i2), .val (.int i3), .val (.int i4), .val (.int i5), .unset, .unset, .unset, .unset, .unset, .unset, .unset, .unset] [(.int ((i0 &&& (3 : Int32)) + (1 : Int32)))])
  refine Go.step (fun t k => XS.istore X0.here hx rfl (hb hby at_5) rfl (l' := #[.val (.int i0), .val (.int i1), .val (.int i2), .val (.int i3), .val (.int i4), .val (.int i5), .val (.int ((i0 &&& (3 : Int32)) + (1 : Int32))), .unset, .unset, .unset, .unset, .unset, .unset, .unset]) rfl k) ?_
  show Go _ _ _ _ _ _ _ T0 (mkF m 7 #[.val (.int i0), .val (.int i1), .val (.int i2), .val (.int i3), .val (.int i4), .val (.int i5), .val (.int ((i0 &&& (3 : Int32)) + (1 : Int32))), .unset, .unset, .unset, .unset, .unset, .unset, .unset] [])
  obtain ⟨n, hn1, hn4, en⟩ := own_c i0
  rw [en]
  show Go _ _ _ _ _ _ _ T0 (mkF m 7 #[.val (.int i0), .val (.int i1), .val (.int i2), .val (.int i3), .val (.int i4), .val (.int i5), .val (.int (Int32.ofNat n)), .unset, .unset, .unset, .unset, .unset, .unset, .unset] [])
  refine Go.step (fun t k => XS.iloadN X0.here hx rfl (hb hby at_7) rfl k) ?_
  show Go _ _ _ _ _ _ _ T0 (mkF m 8 #[.val (.int i0), .val (.int i1), .val (.int i2), .val (.int i3), .val (.int i4), .val (.int i5), .val (.int (Int32.ofNat n)), .unset, .unset, .unset, .unset, .unset, .unset, .unset] [(.int i1)])
  refine Go.step (fun t k => XS.iconst X0.here hx rfl (hb hby at_8) k) ?_
  show Go _ _ _ _ _ _ _ T0 (mkF m 9 #[.val (.int i0), .val (.int i1), .val (.int i2), .val (.int i3), .val (.int i4), .val (.int i5), .val (.int (Int32.ofNat n)), .unset, .unset, .unset, .unset, .unset, .unset, .unset] [(.int (3 : Int32)), (.int i1)])
  refine Go.step (fun t k => XS.iand X0.here hx rfl (hb hby at_9) rfl k) ?_
  show Go _ _ _ _ _ _ _ T0 (mkF m 10 #[.val (.int i0), .val (.int i1), .val (.int i2), .val (.int i3), .val (.int i4), .val (.int i5), .val (.int (Int32.ofNat n)), .unset, .unset, .unset, .unset, .unset, .unset, .unset] [(.int (i1 &&& (3 : Int32)))])
  refine Go.step (fun t k => XS.istore X0.here hx rfl (hb hby at_10) rfl (l' := #[.val (.int i0), .val (.int i1), .val (.int i2), .val (.int i3), .val (.int i4), .val (.int i5), .val (.int (Int32.ofNat n)), .val (.int (i1 &&& (3 : Int32))), .unset, .unset, .unset, .unset, .unset, .unset]) rfl k) ?_
  show Go _ _ _ _ _ _ _ T0 (mkF m 12 #[.val (.int i0), .val (.int i1), .val (.int i2), .val (.int i3), .val (.int i4), .val (.int i5), .val (.int (Int32.ofNat n)), .val (.int (i1 &&& (3 : Int32))), .unset, .unset, .unset, .unset, .unset, .unset] [])
  obtain ⟨cnt, hcnt, ecnt⟩ := own_cnt i1
  rw [ecnt]
  show Go _ _ _ _ _ _ _ T0 (mkF m 12 #[.val (.int i0), .val (.int i1), .val (.int i2), .val (.int i3), .val (.int i4), .val (.int i5), .val (.int (Int32.ofNat n)), .val (.int (Int32.ofNat cnt)), .unset, .unset, .unset, .unset, .unset, .unset] [])
  refine Go.step (fun t k => XS.iload X0.here hx rfl (hb hby at_12) rfl k) ?_
  show Go _ _ _ _ _ _ _ T0 (mkF m 14 #[.val (.int i0), .val (.int i1), .val (.int i2), .val (.int i3), .val (.int i4), .val (.int i5), .val (.int (Int32.ofNat n)), .val (.int (Int32.ofNat cnt)), .unset, .unset, .unset, .unset, .unset, .unset] [(.int i5)])
  refine Go.step (fun t k => XS.iconst X0.here hx rfl (hb hby at_14) k) ?_
  show Go _ _ _ _ _ _ _ T0 (mkF m 15 #[.val (.int i0), .val (.int i1), .val (.int i2), .val (.int i3), .val (.int i4), .val (.int i5), .val (.int (Int32.ofNat n)), .val (.int (Int32.ofNat cnt)), .unset, .unset, .unset, .unset, .unset, .unset] [(.int (1 : Int32)), (.int i5)])
  refine Go.step (fun t k => XS.iand X0.here hx rfl (hb hby at_15) rfl k) ?_
  show Go _ _ _ _ _ _ _ T0 (mkF m 16 #[.val (.int i0), .val (.int i1), .val (.int i2), .val (.int i3), .val (.int i4), .val (.int i5), .val (.int (Int32.ofNat n)), .val (.int (Int32.ofNat cnt)), .unset, .unset, .unset, .unset, .unset, .unset] [(.int (i5 &&& (1 : Int32)))])
  obtain ⟨q16, hq16⟩ : ∃ q : Bool, q = true ↔ (¬ ((i5 &&& (1 : Int32)) = (0 : Int32))) := ⟨decide (¬ ((i5 &&& (1 : Int32)) = (0 : Int32))), decide_eq_true_iff⟩
  have j16 : Go p e s below 16 128 (fun v h L => v = some (.int (1 : Int32)) ∧ Fr n0 L) T0 (mkF m 24 #[.val (.int i0), .val (.int i1), .val (.int i2), .val (.int i3), .val (.int i4), .val (.int i5), .val (.int (Int32.ofNat n)), .val (.int (Int32.ofNat cnt)), .unset, .unset, .unset, .unset, .unset, .unset] [(.int (bi (q16 = true)))]) := by
    refine Go.step (fun t k => XS.istore X0.here hx rfl (hb hby at_24) rfl (l' := #[.val (.int i0), .val (.int i1), .val (.int i2), .val (.int i3), .val (.int i4), .val (.int i5), .val (.int (Int32.ofNat n)), .val (.int (Int32.ofNat cnt)), .val (.int (bi (q16 = true))), .unset, .unset, .unset, .unset, .unset]) rfl k) ?_
    show Go _ _ _ _ _ _ _ T0 (mkF m 26 #[.val (.int i0), .val (.int i1), .val (.int i2), .val (.int i3), .val (.int i4), .val (.int i5), .val (.int (Int32.ofNat n)), .val (.int (Int32.ofNat cnt)), .val (.int (bi (q16 = true))), .unset, .unset, .unset, .unset, .unset] [])
    refine Go.step (fun t k => XS.iload X0.here hx rfl (hb hby at_26) rfl k) ?_
    show Go _ _ _ _ _ _ _ T0 (mkF m 28 #[.val (.int i0), .val (.int i1), .val (.int i2), .val (.int i3), .val (.int i4), .val (.int i5), .val (.int (Int32.ofNat n)), .val (.int (Int32.ofNat cnt)), .val (.int (bi (q16 = true))), .unset, .unset, .unset, .unset, .unset] [(.int i5)])
    refine Go.step (fun t k => XS.iconst X0.here hx rfl (hb hby at_28) k) ?_
    show Go _ _ _ _ _ _ _ T0 (mkF m 29 #[.val (.int i0), .val (.int i1), .val (.int i2), .val (.int i3), .val (.int i4), .val (.int i5), .val (.int (Int32.ofNat n)), .val (.int (Int32.ofNat cnt)), .val (.int (bi (q16 = true))), .unset, .unset, .unset, .unset, .unset] [(.int (2 : Int32)), (.int i5)])
    refine Go.step (fun t k => XS.iand X0.here hx rfl (hb hby at_29) rfl k) ?_
    show Go _ _ _ _ _ _ _ T0 (mkF m 30 #[.val (.int i0), .val (.int i1), .val (.int i2), .val (.int i3), .val (.int i4), .val (.int i5), .val (.int (Int32.ofNat n)), .val (.int (Int32.ofNat cnt)), .val (.int (bi (q16 = true))), .unset, .unset, .unset, .unset, .unset] [(.int (i5 &&& (2 : Int32)))])
    obtain ⟨q30, hq30⟩ : ∃ q : Bool, q = true ↔ (¬ ((i5 &&& (2 : Int32)) = (0 : Int32))) := ⟨decide (¬ ((i5 &&& (2 : Int32)) = (0 : Int32))), decide_eq_true_iff⟩
    have j30 : Go p e s below 16 128 (fun v h L => v = some (.int (1 : Int32)) ∧ Fr n0 L) T0 (mkF m 38 #[.val (.int i0), .val (.int i1), .val (.int i2), .val (.int i3), .val (.int i4), .val (.int i5), .val (.int (Int32.ofNat n)), .val (.int (Int32.ofNat cnt)), .val (.int (bi (q16 = true))), .unset, .unset, .unset, .unset, .unset] [(.int (bi (q30 = true)))]) := by
      refine Go.step (fun t k => XS.istore X0.here hx rfl (hb hby at_38) rfl (l' := #[.val (.int i0), .val (.int i1), .val (.int i2), .val (.int i3), .val (.int i4), .val (.int i5), .val (.int (Int32.ofNat n)), .val (.int (Int32.ofNat cnt)), .val (.int (bi (q16 = true))), .val (.int (bi (q30 = true))), .unset, .unset, .unset, .unset]) rfl k) ?_
      show Go _ _ _ _ _ _ _ T0 (mkF m 40 #[.val (.int i0), .val (.int i1), .val (.int i2), .val (.int i3), .val (.int i4), .val (.int i5), .val (.int (Int32.ofNat n)), .val (.int (Int32.ofNat cnt)), .val (.int (bi (q16 = true))), .val (.int (bi (q30 = true))), .unset, .unset, .unset, .unset] [])
      obtain ⟨T1, h1, X1, e1, E1, A1, D1, -, st1⟩ := newO X0 hx hZ hown (hw _ (List.mem_of_getElem? (i := 0) rfl)) (hw _ (List.mem_of_getElem? (i := 1) rfl)) (hw _ (List.mem_of_getElem? (i := 2) rfl)) e0 (g := (mkF m 40 #[.val (.int i0), .val (.int i1), .val (.int i2), .val (.int i3), .val (.int i4), .val (.int i5), .val (.int (Int32.ofNat n)), .val (.int (Int32.ofNat cnt)), .val (.int (bi (q16 = true))), .val (.int (bi (q30 = true))), .unset, .unset, .unset, .unset] [])) rfl (hb hby at_40) (by decide) (by decide)
      obtain ⟨b1, g1⟩ : ∃ z, z = h0.size := ⟨_, rfl⟩
      rw [← g1] at A1 D1 st1
      have gn_b1 : n0 ≤ b1 := Nat.le_trans Z0 (Nat.le_of_eq g1.symm)
      have Z1 : n0 ≤ h1.size := Nat.le_trans Z0 E1.1
      have F1_kept : Fld Z h1 b1 "com/example/bearer/bearer/modem/LineBuffer" "kept" "[B" .null := D1 (Or.inr (hw _ (List.mem_of_getElem? (i := 11) rfl))) (ty := (.array .byte)) (by decide)
      have F1_length : Fld Z h1 b1 "com/example/bearer/bearer/modem/LineBuffer" "length" "I" (.int (0 : Int32)) := D1 (Or.inl (hw _ (List.mem_of_getElem? (i := 18) rfl))) (ty := .int) (by decide)
      have F1_cut : Fld Z h1 b1 "com/example/bearer/bearer/modem/LineBuffer" "cut" "Z" (.int (0 : Int32)) := D1 (Or.inl (hw _ (List.mem_of_getElem? (i := 20) rfl))) (ty := .boolean) (by decide)
      refine Go.step (st1) ?_
      show Go _ _ _ _ _ _ _ T1 (mkF m 43 #[.val (.int i0), .val (.int i1), .val (.int i2), .val (.int i3), .val (.int i4), .val (.int i5), .val (.int (Int32.ofNat n)), .val (.int (Int32.ofNat cnt)), .val (.int (bi (q16 = true))), .val (.int (bi (q30 = true))), .unset, .unset, .unset, .unset] [(.ref b1)])
      refine Go.step (fun t k => XS.dup X1.here hx rfl (hb hby at_43) rfl rfl k) ?_
      show Go _ _ _ _ _ _ _ T1 (mkF m 44 #[.val (.int i0), .val (.int i1), .val (.int i2), .val (.int i3), .val (.int i4), .val (.int i5), .val (.int (Int32.ofNat n)), .val (.int (Int32.ofNat cnt)), .val (.int (bi (q16 = true))), .val (.int (bi (q30 = true))), .unset, .unset, .unset, .unset] [(.ref b1), (.ref b1)])
      refine Go.step (fun t k => XS.iload X1.here hx rfl (hb hby at_44) rfl k) ?_
      show Go _ _ _ _ _ _ _ T1 (mkF m 46 #[.val (.int i0), .val (.int i1), .val (.int i2), .val (.int i3), .val (.int i4), .val (.int i5), .val (.int (Int32.ofNat n)), .val (.int (Int32.ofNat cnt)), .val (.int (bi (q16 = true))), .val (.int (bi (q30 = true))), .unset, .unset, .unset, .unset] [(.int (Int32.ofNat n)), (.ref b1), (.ref b1)])
      obtain ⟨v2, T2, L2, X2, q2, st2⟩ := c_init X1 hx hZ hown (y := (⟨"com/example/bearer/bearer/modem/LineBuffer", "<init>", "(I)V"⟩ : MethodName)) (hw _ (List.mem_of_getElem? (i := 3) rfl)) (hw _ (List.mem_of_getElem? (i := 4) rfl)) (hw _ (List.mem_of_getElem? (i := 2) rfl)) (hw _ (List.mem_of_getElem? (i := 5) rfl)) rfl (by decide) (a := b1) (argsL := [(.int (Int32.ofNat n))]) (rest := [(.ref b1)]) (rmI l Z a0 hw [] b1 n h1 n0 Z1 hn1 hn4 A1 F1_kept F1_length F1_cut gn_b1) e1 pd_0 rfl (by rw [hml]; rfl) (W := 1) (by show 2 * 0 + _ ≤ _; exact Nat.le_of_eq rfl) (by decide) (by decide) (by decide) (by decide) (hb hby at_46) (Ls := #[.val (.int i0), .val (.int i1), .val (.int i2), .val (.int i3), .val (.int i4), .val (.int i5), .val (.int (Int32.ofNat n)), .val (.int (Int32.ofNat cnt)), .val (.int (bi (q16 = true))), .val (.int (bi (q30 = true))), .unset, .unset, .unset, .unset])
      generalize e2 : T2.heap = h2 at q2
      obtain ⟨rfl, N2q, K2q, b2, sz2, E2q, E2k, F2q0, F2q1, F2q2, V2k⟩ := q2
      have N2 := Fr.app N0 N2q
      have ne_b1_b2 : b1 ≠ b2 := Nat.ne_of_lt (Nat.lt_of_lt_of_le A1.lt sz2)
      have gn_b2 : n0 ≤ b2 := Nat.le_trans Z1 sz2
      have Z2 : n0 ≤ h2.size := Nat.le_trans Z1 K2q.1
      refine Go.step (st2) ?_
      show Go _ _ _ _ _ _ _ T2 (mkF m 49 #[.val (.int i0), .val (.int i1), .val (.int i2), .val (.int i3), .val (.int i4), .val (.int i5), .val (.int (Int32.ofNat n)), .val (.int (Int32.ofNat cnt)), .val (.int (bi (q16 = true))), .val (.int (bi (q30 = true))), .unset, .unset, .unset, .unset] [(.ref b1)])
      refine Go.step (fun t k => XS.astore X2.here hx rfl (hb hby at_49) rfl rfl (l' := #[.val (.int i0), .val (.int i1), .val (.int i2), .val (.int i3), .val (.int i4), .val (.int i5), .val (.int (Int32.ofNat n)), .val (.int (Int32.ofNat cnt)), .val (.int (bi (q16 = true))), .val (.int (bi (q30 = true))), .val (.ref b1), .unset, .unset, .unset]) rfl k) ?_
      show Go _ _ _ _ _ _ _ T2 (mkF m 51 #[.val (.int i0), .val (.int i1), .val (.int i2), .val (.int i3), .val (.int i4), .val (.int i5), .val (.int (Int32.ofNat n)), .val (.int (Int32.ofNat cnt)), .val (.int (bi (q16 = true))), .val (.int (bi (q30 = true))), .val (.ref b1), .unset, .unset, .unset] [])
      refine Go.step (fun t k => XS.iload X2.here hx rfl (hb hby at_51) rfl k) ?_
      show Go _ _ _ _ _ _ _ T2 (mkF m 53 #[.val (.int i0), .val (.int i1), .val (.int i2), .val (.int i3), .val (.int i4), .val (.int i5), .val (.int (Int32.ofNat n)), .val (.int (Int32.ofNat cnt)), .val (.int (bi (q16 = true))), .val (.int (bi (q30 = true))), .val (.ref b1), .unset, .unset, .unset] [(.int (Int32.ofNat cnt))])
      have k64 : ∀ (l64 : Nat) (c64 : Bool) (fn64 : Nat → Value) (T64 : State) (lc64 : List Loc) (hh64 : Heap) (X64 : Stand p l e room_1 s m #[(.int i0), (.int i1), (.int i2), (.int i3), (.int i4), (.int i5)] below meth c T64 lc64 2 7) (e64 : T64.heap = hh64) (N64 : Fr n0 lc64) (Z64 : n0 ≤ hh64.size) (f64_0 : Exa Z hh64 b1 "com/example/bearer/bearer/modem/LineBuffer") (f64_1 : Exa Z hh64 b2 "[B") (f64_2 : Fld Z hh64 b1 "com/example/bearer/bearer/modem/LineBuffer" "kept" "[B" (.ref b2)) (f64_3 : Fld Z hh64 b1 "com/example/bearer/bearer/modem/LineBuffer" "length" "I" (.int (Int32.ofNat l64))) (f64_4 : Fld Z hh64 b1 "com/example/bearer/bearer/modem/LineBuffer" "cut" "Z" (.int (bi (c64 = true)))) (f64_5 : AV Z hh64 b2 .byte n fn64) (hl64 : l64 = min (min cnt 1) n) (hb64 : l64 ≤ n),
          Go p e s below 16 128 (fun v h L => v = some (.int (1 : Int32)) ∧ Fr n0 L) T64 (mkF m 64 #[.val (.int i0), .val (.int i1), .val (.int i2), .val (.int i3), .val (.int i4), .val (.int i5), .val (.int (Int32.ofNat n)), .val (.int (Int32.ofNat cnt)), .val (.int (bi (q16 = true))), .val (.int (bi (q30 = true))), .val (.ref b1), .unset, .unset, .unset] []) := by
        intro l64 c64 fn64 T64 lc64 hh64 X64 e64 N64 Z64 f64_0 f64_1 f64_2 f64_3 f64_4 f64_5 hl64 hb64
        refine Go.step (fun t k => XS.iload X64.here hx rfl (hb hby at_64) rfl k) ?_
        show Go _ _ _ _ _ _ _ T64 (mkF m 66 #[.val (.int i0), .val (.int i1), .val (.int i2), .val (.int i3), .val (.int i4), .val (.int i5), .val (.int (Int32.ofNat n)), .val (.int (Int32.ofNat cnt)), .val (.int (bi (q16 = true))), .val (.int (bi (q30 = true))), .val (.ref b1), .unset, .unset, .unset] [(.int (Int32.ofNat cnt))])
        refine Go.step (fun t k => XS.iconst X64.here hx rfl (hb hby at_66) k) ?_
        show Go _ _ _ _ _ _ _ T64 (mkF m 67 #[.val (.int i0), .val (.int i1), .val (.int i2), .val (.int i3), .val (.int i4), .val (.int i5), .val (.int (Int32.ofNat n)), .val (.int (Int32.ofNat cnt)), .val (.int (bi (q16 = true))), .val (.int (bi (q30 = true))), .val (.ref b1), .unset, .unset, .unset] [(.int (1 : Int32)), (.int (Int32.ofNat cnt))])
        have k78 : ∀ (l78 : Nat) (c78 : Bool) (fn78 : Nat → Value) (T78 : State) (lc78 : List Loc) (hh78 : Heap) (X78 : Stand p l e room_1 s m #[(.int i0), (.int i1), (.int i2), (.int i3), (.int i4), (.int i5)] below meth c T78 lc78 2 7) (e78 : T78.heap = hh78) (N78 : Fr n0 lc78) (Z78 : n0 ≤ hh78.size) (f78_0 : Exa Z hh78 b1 "com/example/bearer/bearer/modem/LineBuffer") (f78_1 : Exa Z hh78 b2 "[B") (f78_2 : Fld Z hh78 b1 "com/example/bearer/bearer/modem/LineBuffer" "kept" "[B" (.ref b2)) (f78_3 : Fld Z hh78 b1 "com/example/bearer/bearer/modem/LineBuffer" "length" "I" (.int (Int32.ofNat l78))) (f78_4 : Fld Z hh78 b1 "com/example/bearer/bearer/modem/LineBuffer" "cut" "Z" (.int (bi (c78 = true)))) (f78_5 : AV Z hh78 b2 .byte n fn78) (hl78 : l78 = min (min cnt 2) n) (hb78 : l78 ≤ n),
            Go p e s below 16 128 (fun v h L => v = some (.int (1 : Int32)) ∧ Fr n0 L) T78 (mkF m 78 #[.val (.int i0), .val (.int i1), .val (.int i2), .val (.int i3), .val (.int i4), .val (.int i5), .val (.int (Int32.ofNat n)), .val (.int (Int32.ofNat cnt)), .val (.int (bi (q16 = true))), .val (.int (bi (q30 = true))), .val (.ref b1), .unset, .unset, .unset] []) := by
          intro l78 c78 fn78 T78 lc78 hh78 X78 e78 N78 Z78 f78_0 f78_1 f78_2 f78_3 f78_4 f78_5 hl78 hb78
          refine Go.step (fun t k => XS.iload X78.here hx rfl (hb hby at_78) rfl k) ?_
          show Go _ _ _ _ _ _ _ T78 (mkF m 80 #[.val (.int i0), .val (.int i1), .val (.int i2), .val (.int i3), .val (.int i4), .val (.int i5), .val (.int (Int32.ofNat n)), .val (.int (Int32.ofNat cnt)), .val (.int (bi (q16 = true))), .val (.int (bi (q30 = true))), .val (.ref b1), .unset, .unset, .unset] [(.int (Int32.ofNat cnt))])
          refine Go.step (fun t k => XS.iconst X78.here hx rfl (hb hby at_80) k) ?_
          show Go _ _ _ _ _ _ _ T78 (mkF m 81 #[.val (.int i0), .val (.int i1), .val (.int i2), .val (.int i3), .val (.int i4), .val (.int i5), .val (.int (Int32.ofNat n)), .val (.int (Int32.ofNat cnt)), .val (.int (bi (q16 = true))), .val (.int (bi (q30 = true))), .val (.ref b1), .unset, .unset, .unset] [(.int (2 : Int32)), (.int (Int32.ofNat cnt))])
          have k93 : ∀ (l93 : Nat) (c93 : Bool) (fn93 : Nat → Value) (T93 : State) (lc93 : List Loc) (hh93 : Heap) (X93 : Stand p l e room_1 s m #[(.int i0), (.int i1), (.int i2), (.int i3), (.int i4), (.int i5)] below meth c T93 lc93 2 7) (e93 : T93.heap = hh93) (N93 : Fr n0 lc93) (Z93 : n0 ≤ hh93.size) (f93_0 : Exa Z hh93 b1 "com/example/bearer/bearer/modem/LineBuffer") (f93_1 : Exa Z hh93 b2 "[B") (f93_2 : Fld Z hh93 b1 "com/example/bearer/bearer/modem/LineBuffer" "kept" "[B" (.ref b2)) (f93_3 : Fld Z hh93 b1 "com/example/bearer/bearer/modem/LineBuffer" "length" "I" (.int (Int32.ofNat l93))) (f93_4 : Fld Z hh93 b1 "com/example/bearer/bearer/modem/LineBuffer" "cut" "Z" (.int (bi (c93 = true)))) (f93_5 : AV Z hh93 b2 .byte n fn93) (hl93 : l93 = min (min cnt 3) n) (hb93 : l93 ≤ n),
              Go p e s below 16 128 (fun v h L => v = some (.int (1 : Int32)) ∧ Fr n0 L) T93 (mkF m 93 #[.val (.int i0), .val (.int i1), .val (.int i2), .val (.int i3), .val (.int i4), .val (.int i5), .val (.int (Int32.ofNat n)), .val (.int (Int32.ofNat cnt)), .val (.int (bi (q16 = true))), .val (.int (bi (q30 = true))), .val (.ref b1), .unset, .unset, .unset] []) := by
            intro l93 c93 fn93 T93 lc93 hh93 X93 e93 N93 Z93 f93_0 f93_1 f93_2 f93_3 f93_4 f93_5 hl93 hb93
            refine Go.step (fun t k => XS.iload X93.here hx rfl (hb hby at_93) rfl k) ?_
            show Go _ _ _ _ _ _ _ T93 (mkF m 95 #[.val (.int i0), .val (.int i1), .val (.int i2), .val (.int i3), .val (.int i4), .val (.int i5), .val (.int (Int32.ofNat n)), .val (.int (Int32.ofNat cnt)), .val (.int (bi (q16 = true))), .val (.int (bi (q30 = true))), .val (.ref b1), .unset, .unset, .unset] [(.int (bi (q16 = true)))])
            have k103 : ∀ (l103 : Nat) (c103 : Bool) (fn103 : Nat → Value) (T103 : State) (lc103 : List Loc) (hh103 : Heap) (X103 : Stand p l e room_1 s m #[(.int i0), (.int i1), (.int i2), (.int i3), (.int i4), (.int i5)] below meth c T103 lc103 2 7) (e103 : T103.heap = hh103) (N103 : Fr n0 lc103) (Z103 : n0 ≤ hh103.size) (f103_0 : Exa Z hh103 b1 "com/example/bearer/bearer/modem/LineBuffer") (f103_1 : Exa Z hh103 b2 "[B") (f103_2 : Fld Z hh103 b1 "com/example/bearer/bearer/modem/LineBuffer" "kept" "[B" (.ref b2)) (f103_3 : Fld Z hh103 b1 "com/example/bearer/bearer/modem/LineBuffer" "length" "I" (.int (Int32.ofNat l103))) (f103_4 : Fld Z hh103 b1 "com/example/bearer/bearer/modem/LineBuffer" "cut" "Z" (.int (bi (c103 = true)))) (f103_5 : AV Z hh103 b2 .byte n fn103) (hl103 : l103 = (if q16 = true then 0 else min cnt n)) (hb103 : l103 ≤ n),
                Go p e s below 16 128 (fun v h L => v = some (.int (1 : Int32)) ∧ Fr n0 L) T103 (mkF m 103 #[.val (.int i0), .val (.int i1), .val (.int i2), .val (.int i3), .val (.int i4), .val (.int i5), .val (.int (Int32.ofNat n)), .val (.int (Int32.ofNat cnt)), .val (.int (bi (q16 = true))), .val (.int (bi (q30 = true))), .val (.ref b1), .unset, .unset, .unset] []) := by
              intro l103 c103 fn103 T103 lc103 hh103 X103 e103 N103 Z103 f103_0 f103_1 f103_2 f103_3 f103_4 f103_5 hl103 hb103
              refine Go.step (fun t k => XS.iload X103.here hx rfl (hb hby at_103) rfl k) ?_
              show Go _ _ _ _ _ _ _ T103 (mkF m 105 #[.val (.int i0), .val (.int i1), .val (.int i2), .val (.int i3), .val (.int i4), .val (.int i5), .val (.int (Int32.ofNat n)), .val (.int (Int32.ofNat cnt)), .val (.int (bi (q16 = true))), .val (.int (bi (q30 = true))), .val (.ref b1), .unset, .unset, .unset] [(.int (bi (q30 = true)))])
              have k116 : ∀ (l116 : Nat) (c116 : Bool) (fn116 : Nat → Value) (T116 : State) (lc116 : List Loc) (hh116 : Heap) (X116 : Stand p l e room_1 s m #[(.int i0), (.int i1), (.int i2), (.int i3), (.int i4), (.int i5)] below meth c T116 lc116 2 7) (e116 : T116.heap = hh116) (N116 : Fr n0 lc116) (Z116 : n0 ≤ hh116.size) (f116_0 : Exa Z hh116 b1 "com/example/bearer/bearer/modem/LineBuffer") (f116_1 : Exa Z hh116 b2 "[B") (f116_2 : Fld Z hh116 b1 "com/example/bearer/bearer/modem/LineBuffer" "kept" "[B" (.ref b2)) (f116_3 : Fld Z hh116 b1 "com/example/bearer/bearer/modem/LineBuffer" "length" "I" (.int (Int32.ofNat l116))) (f116_4 : Fld Z hh116 b1 "com/example/bearer/bearer/modem/LineBuffer" "cut" "Z" (.int (bi (c116 = true)))) (f116_5 : AV Z hh116 b2 .byte n fn116) (hl116 : l116 = (if q30 = true then min ((if q16 = true then 0 else min cnt n) + 1) n else (if q16 = true then 0 else min cnt n))) (hb116 : l116 ≤ n),
                  Go p e s below 16 128 (fun v h L => v = some (.int (1 : Int32)) ∧ Fr n0 L) T116 (mkF m 116 #[.val (.int i0), .val (.int i1), .val (.int i2), .val (.int i3), .val (.int i4), .val (.int i5), .val (.int (Int32.ofNat n)), .val (.int (Int32.ofNat cnt)), .val (.int (bi (q16 = true))), .val (.int (bi (q30 = true))), .val (.ref b1), .unset, .unset, .unset] []) := by
                intro l116 c116 fn116 T116 lc116 hh116 X116 e116 N116 Z116 f116_0 f116_1 f116_2 f116_3 f116_4 f116_5 hl116 hb116
                refine Go.step (fun t k => XS.iload X116.here hx rfl (hb hby at_116) rfl k) ?_
                show Go _ _ _ _ _ _ _ T116 (mkF m 118 #[.val (.int i0), .val (.int i1), .val (.int i2), .val (.int i3), .val (.int i4), .val (.int i5), .val (.int (Int32.ofNat n)), .val (.int (Int32.ofNat cnt)), .val (.int (bi (q16 = true))), .val (.int (bi (q30 = true))), .val (.ref b1), .unset, .unset, .unset] [(.int (bi (q16 = true)))])
                by_cases c118_3 : q16 = true
                · refine Go.step (fun t k => XS.ifNo X116.here hx rfl (hb hby at_118) rfl ((if0 _ _).trans (feq (bi_n c118_3)).1) k) ?_
                  show Go _ _ _ _ _ _ _ T116 (mkF m 121 #[.val (.int i0), .val (.int i1), .val (.int i2), .val (.int i3), .val (.int i4), .val (.int i5), .val (.int (Int32.ofNat n)), .val (.int (Int32.ofNat cnt)), .val (.int (bi (q16 = true))), .val (.int (bi (q30 = true))), .val (.ref b1), .unset, .unset, .unset] [])
                  refine Go.step (fun t k => XS.iconst X116.here hx rfl (hb hby at_121) k) ?_
                  show Go _ _ _ _ _ _ _ T116 (mkF m 122 #[.val (.int i0), .val (.int i1), .val (.int i2), .val (.int i3), .val (.int i4), .val (.int i5), .val (.int (Int32.ofNat n)), .val (.int (Int32.ofNat cnt)), .val (.int (bi (q16 = true))), .val (.int (bi (q30 = true))), .val (.ref b1), .unset, .unset, .unset] [(.int (0 : Int32))])
                  refine Go.step (fun t k => XS.goto X116.here hx rfl (pc0 := 122) (pc' := 132) rfl (hb hby at_122) (by decide) (by decide) k) ?_
                  show Go _ _ _ _ _ _ _ T116 (mkF m 132 #[.val (.int i0), .val (.int i1), .val (.int i2), .val (.int i3), .val (.int i4), .val (.int i5), .val (.int (Int32.ofNat n)), .val (.int (Int32.ofNat cnt)), .val (.int (bi (q16 = true))), .val (.int (bi (q30 = true))), .val (.ref b1), .unset, .unset, .unset] [(.int (0 : Int32))])
                  show Go _ _ _ _ _ _ _ T116 (mkF m 132 #[.val (.int i0), .val (.int i1), .val (.int i2), .val (.int i3), .val (.int i4), .val (.int i5), .val (.int (Int32.ofNat n)), .val (.int (Int32.ofNat cnt)), .val (.int (bi (q16 = true))), .val (.int (bi (q30 = true))), .val (.ref b1), .unset, .unset, .unset] [(.int (Int32.ofNat 0))])
                  refine Go.step (fun t k => XS.istore X116.here hx rfl (hb hby at_132) rfl (l' := #[.val (.int i0), .val (.int i1), .val (.int i2), .val (.int i3), .val (.int i4), .val (.int i5), .val (.int (Int32.ofNat n)), .val (.int (Int32.ofNat cnt)), .val (.int (bi (q16 = true))), .val (.int (bi (q30 = true))), .val (.ref b1), .val (.int (Int32.ofNat 0)), .unset, .unset]) rfl k) ?_
                  show Go _ _ _ _ _ _ _ T116 (mkF m 134 #[.val (.int i0), .val (.int i1), .val (.int i2), .val (.int i3), .val (.int i4), .val (.int i5), .val (.int (Int32.ofNat n)), .val (.int (Int32.ofNat cnt)), .val (.int (bi (q16 = true))), .val (.int (bi (q30 = true))), .val (.ref b1), .val (.int (Int32.ofNat 0)), .unset, .unset] [])
                  refine Go.step (fun t k => XS.iload X116.here hx rfl (hb hby at_134) rfl k) ?_
                  show Go _ _ _ _ _ _ _ T116 (mkF m 136 #[.val (.int i0), .val (.int i1), .val (.int i2), .val (.int i3), .val (.int i4), .val (.int i5), .val (.int (Int32.ofNat n)), .val (.int (Int32.ofNat cnt)), .val (.int (bi (q16 = true))), .val (.int (bi (q30 = true))), .val (.ref b1), .val (.int (Int32.ofNat 0)), .unset, .unset] [(.int (bi (q30 = true)))])
                  by_cases c136_4 : q30 = true
                  · refine Go.step (fun t k => XS.ifNo X116.here hx rfl (hb hby at_136) rfl ((if0 _ _).trans (feq (bi_n c136_4)).1) k) ?_
                    show Go _ _ _ _ _ _ _ T116 (mkF m 139 #[.val (.int i0), .val (.int i1), .val (.int i2), .val (.int i3), .val (.int i4), .val (.int i5), .val (.int (Int32.ofNat n)), .val (.int (Int32.ofNat cnt)), .val (.int (bi (q16 = true))), .val (.int (bi (q30 = true))), .val (.ref b1), .val (.int (Int32.ofNat 0)), .unset, .unset] [])
                    refine Go.step (fun t k => XS.iload X116.here hx rfl (hb hby at_139) rfl k) ?_
                    show Go _ _ _ _ _ _ _ T116 (mkF m 141 #[.val (.int i0), .val (.int i1), .val (.int i2), .val (.int i3), .val (.int i4), .val (.int i5), .val (.int (Int32.ofNat n)), .val (.int (Int32.ofNat cnt)), .val (.int (bi (q16 = true))), .val (.int (bi (q30 = true))), .val (.ref b1), .val (.int (Int32.ofNat 0)), .unset, .unset] [(.int (Int32.ofNat 0))])
                    refine Go.step (fun t k => XS.iconst X116.here hx rfl (hb hby at_141) k) ?_
                    show Go _ _ _ _ _ _ _ T116 (mkF m 142 #[.val (.int i0), .val (.int i1), .val (.int i2), .val (.int i3), .val (.int i4), .val (.int i5), .val (.int (Int32.ofNat n)), .val (.int (Int32.ofNat cnt)), .val (.int (bi (q16 = true))), .val (.int (bi (q30 = true))), .val (.ref b1), .val (.int (Int32.ofNat 0)), .unset, .unset] [(.int (1 : Int32)), (.int (Int32.ofNat 0))])
                    refine Go.step (fun t k => XS.iadd X116.here hx rfl (hb hby at_142) rfl k) ?_
                    show Go _ _ _ _ _ _ _ T116 (mkF m 143 #[.val (.int i0), .val (.int i1), .val (.int i2), .val (.int i3), .val (.int i4), .val (.int i5), .val (.int (Int32.ofNat n)), .val (.int (Int32.ofNat cnt)), .val (.int (bi (q16 = true))), .val (.int (bi (q30 = true))), .val (.ref b1), .val (.int (Int32.ofNat 0)), .unset, .unset] [(.int ((Int32.ofNat 0) + (1 : Int32)))])
                    rw [own_add]
                    show Go _ _ _ _ _ _ _ T116 (mkF m 143 #[.val (.int i0), .val (.int i1), .val (.int i2), .val (.int i3), .val (.int i4), .val (.int i5), .val (.int (Int32.ofNat n)), .val (.int (Int32.ofNat cnt)), .val (.int (bi (q16 = true))), .val (.int (bi (q30 = true))), .val (.ref b1), .val (.int (Int32.ofNat 0)), .unset, .unset] [(.int (Int32.ofNat (0 + 1)))])
                    refine Go.step (fun t k => XS.iload X116.here hx rfl (hb hby at_143) rfl k) ?_
                    show Go _ _ _ _ _ _ _ T116 (mkF m 145 #[.val (.int i0), .val (.int i1), .val (.int i2), .val (.int i3), .val (.int i4), .val (.int i5), .val (.int (Int32.ofNat n)), .val (.int (Int32.ofNat cnt)), .val (.int (bi (q16 = true))), .val (.int (bi (q30 = true))), .val (.ref b1), .val (.int (Int32.ofNat 0)), .unset, .unset] [(.int (Int32.ofNat n)), (.int (Int32.ofNat (0 + 1)))])
                    obtain ⟨v5, T5, L5, X5, q5, st5⟩ := c_static X116 hx hZ hown (y := (⟨"java/lang/Math", "min", "(II)I"⟩ : MethodName)) (hw _ (List.mem_of_getElem? (i := 26) rfl)) (hw _ (List.mem_of_getElem? (i := 27) rfl)) (hw _ (List.mem_of_getElem? (i := 28) rfl)) (hw _ (List.mem_of_getElem? (i := 29) rfl)) (by decide) (argsL := [(.int (Int32.ofNat (0 + 1))), (.int (Int32.ofNat n))]) (rest := []) (rmMin l Z a0 hw [] (Int32.ofNat (0 + 1)) (Int32.ofNat n)  hh116 n0 Z116 ) e116 pd_1 rfl (by rw [hml]; rfl) (W := 0) (by show 2 * 0 + _ ≤ _; exact Nat.le_of_eq rfl) (by decide) (by decide) (by decide) (by decide) (hb hby at_145) (Ls := #[.val (.int i0), .val (.int i1), .val (.int i2), .val (.int i3), .val (.int i4), .val (.int i5), .val (.int (Int32.ofNat n)), .val (.int (Int32.ofNat cnt)), .val (.int (bi (q16 = true))), .val (.int (bi (q30 = true))), .val (.ref b1), .val (.int (Int32.ofNat 0)), .unset, .unset])
                    obtain ⟨rfl, rfl, e5⟩ := q5
                    have N5 := Fr.app N116 (Fr.nil n0)
                    refine Go.step (st5) ?_
                    show Go _ _ _ _ _ _ _ T5 (mkF m 148 #[.val (.int i0), .val (.int i1), .val (.int i2), .val (.int i3), .val (.int i4), .val (.int i5), .val (.int (Int32.ofNat n)), .val (.int (Int32.ofNat cnt)), .val (.int (bi (q16 = true))), .val (.int (bi (q30 = true))), .val (.ref b1), .val (.int (Int32.ofNat 0)), .unset, .unset] [(.int (mn (Int32.ofNat (0 + 1)) (Int32.ofNat n)))])
                    rw [own_min _ _ (by omega) (by omega)]
                    show Go _ _ _ _ _ _ _ T5 (mkF m 148 #[.val (.int i0), .val (.int i1), .val (.int i2), .val (.int i3), .val (.int i4), .val (.int i5), .val (.int (Int32.ofNat n)), .val (.int (Int32.ofNat cnt)), .val (.int (bi (q16 = true))), .val (.int (bi (q30 = true))), .val (.ref b1), .val (.int (Int32.ofNat 0)), .unset, .unset] [(.int (Int32.ofNat (min (0 + 1) n)))])
                    refine Go.step (fun t k => XS.istore X5.here hx rfl (hb hby at_148) rfl (l' := #[.val (.int i0), .val (.int i1), .val (.int i2), .val (.int i3), .val (.int i4), .val (.int i5), .val (.int (Int32.ofNat n)), .val (.int (Int32.ofNat cnt)), .val (.int (bi (q16 = true))), .val (.int (bi (q30 = true))), .val (.ref b1), .val (.int (Int32.ofNat (min (0 + 1) n))), .unset, .unset]) rfl k) ?_
                    show Go _ _ _ _ _ _ _ T5 (mkF m 150 #[.val (.int i0), .val (.int i1), .val (.int i2), .val (.int i3), .val (.int i4), .val (.int i5), .val (.int (Int32.ofNat n)), .val (.int (Int32.ofNat cnt)), .val (.int (bi (q16 = true))), .val (.int (bi (q30 = true))), .val (.ref b1), .val (.int (Int32.ofNat (min (0 + 1) n))), .unset, .unset] [])
                    refine Go.step (fun t k => XS.iload X5.here hx rfl (hb hby at_150) rfl k) ?_
                    show Go _ _ _ _ _ _ _ T5 (mkF m 152 #[.val (.int i0), .val (.int i1), .val (.int i2), .val (.int i3), .val (.int i4), .val (.int i5), .val (.int (Int32.ofNat n)), .val (.int (Int32.ofNat cnt)), .val (.int (bi (q16 = true))), .val (.int (bi (q30 = true))), .val (.ref b1), .val (.int (Int32.ofNat (min (0 + 1) n))), .unset, .unset] [(.int (Int32.ofNat (min (0 + 1) n)))])
                    obtain ⟨q152, hq152⟩ : ∃ q : Bool, q = true ↔ ((Int32.ofNat (min (0 + 1) n)) = (0 : Int32)) := ⟨decide ((Int32.ofNat (min (0 + 1) n)) = (0 : Int32)), decide_eq_true_iff⟩
                    have j152 : Go p e s below 16 128 (fun v h L => v = some (.int (1 : Int32)) ∧ Fr n0 L) T5 (mkF m 160 #[.val (.int i0), .val (.int i1), .val (.int i2), .val (.int i3), .val (.int i4), .val (.int i5), .val (.int (Int32.ofNat n)), .val (.int (Int32.ofNat cnt)), .val (.int (bi (q16 = true))), .val (.int (bi (q30 = true))), .val (.ref b1), .val (.int (Int32.ofNat (min (0 + 1) n))), .unset, .unset] [(.int (bi (q152 = true)))]) := by
                      refine Go.step (fun t k => XS.istore X5.here hx rfl (hb hby at_160) rfl (l' := #[.val (.int i0), .val (.int i1), .val (.int i2), .val (.int i3), .val (.int i4), .val (.int i5), .val (.int (Int32.ofNat n)), .val (.int (Int32.ofNat cnt)), .val (.int (bi (q16 = true))), .val (.int (bi (q30 = true))), .val (.ref b1), .val (.int (Int32.ofNat (min (0 + 1) n))), .val (.int (bi (q152 = true))), .unset]) rfl k) ?_
                      show Go _ _ _ _ _ _ _ T5 (mkF m 162 #[.val (.int i0), .val (.int i1), .val (.int i2), .val (.int i3), .val (.int i4), .val (.int i5), .val (.int (Int32.ofNat n)), .val (.int (Int32.ofNat cnt)), .val (.int (bi (q16 = true))), .val (.int (bi (q30 = true))), .val (.ref b1), .val (.int (Int32.ofNat (min (0 + 1) n))), .val (.int (bi (q152 = true))), .unset] [])
                      refine Go.step (fun t k => XS.aload X5.here hx rfl (hb hby at_162) rfl rfl k) ?_
                      show Go _ _ _ _ _ _ _ T5 (mkF m 164 #[.val (.int i0), .val (.int i1), .val (.int i2), .val (.int i3), .val (.int i4), .val (.int i5), .val (.int (Int32.ofNat n)), .val (.int (Int32.ofNat cnt)), .val (.int (bi (q16 = true))), .val (.int (bi (q30 = true))), .val (.ref b1), .val (.int (Int32.ofNat (min (0 + 1) n))), .val (.int (bi (q152 = true))), .unset] [(.ref b1)])
                      obtain ⟨v6, T6, L6, X6, q6, st6⟩ := c_virt X5 hx hZ hown (y' := (⟨"com/example/bearer/bearer/modem/LineBuffer", "isEmpty", "()Z"⟩ : MethodName)) (y := (⟨"com/example/bearer/bearer/modem/LineBuffer", "isEmpty", "()Z"⟩ : MethodName)) (C := "com/example/bearer/bearer/modem/LineBuffer") (hw _ (List.mem_of_getElem? (i := 30) rfl)) (hw _ (List.mem_of_getElem? (i := 31) rfl)) (notFace_of_selects (args := #[]) (mvT hZ (hw _ (List.mem_of_getElem? (i := 33) rfl)))) (hw _ (List.mem_of_getElem? (i := 33) rfl)) (hw _ (List.mem_of_getElem? (i := 32) rfl)) (hw _ (List.mem_of_getElem? (i := 2) rfl)) (hw _ (List.mem_of_getElem? (i := 34) rfl)) (by decide) (a := b1) (argsL := []) (rest := []) (rmEm l Z a0 hw [] b1 b2 n l116 c116 fn116 hh116 n0 Z116 hn1 hn4 (by omega) f116_0 f116_2 f116_3 f116_4 f116_5 f116_1 ne_b1_b2) e5 f116_0 pd_2 rfl (by rw [hml]; rfl) (W := 0) (by show 2 * 0 + _ ≤ _; exact Nat.le_of_eq rfl) (by decide) (by decide) (by decide) (by decide) (hb hby at_164) (Ls := #[.val (.int i0), .val (.int i1), .val (.int i2), .val (.int i3), .val (.int i4), .val (.int i5), .val (.int (Int32.ofNat n)), .val (.int (Int32.ofNat cnt)), .val (.int (bi (q16 = true))), .val (.int (bi (q30 = true))), .val (.ref b1), .val (.int (Int32.ofNat (min (0 + 1) n))), .val (.int (bi (q152 = true))), .unset])
                      obtain ⟨rfl, rfl, e6⟩ := q6
                      have N6 := Fr.app N5 (Fr.nil n0)
                      refine Go.step (st6) ?_
                      show Go _ _ _ _ _ _ _ T6 (mkF m 167 #[.val (.int i0), .val (.int i1), .val (.int i2), .val (.int i3), .val (.int i4), .val (.int i5), .val (.int (Int32.ofNat n)), .val (.int (Int32.ofNat cnt)), .val (.int (bi (q16 = true))), .val (.int (bi (q30 = true))), .val (.ref b1), .val (.int (Int32.ofNat (min (0 + 1) n))), .val (.int (bi (q152 = true))), .unset] [(.int (bi ((Int32.ofNat l116) = (0 : Int32))))])
                      refine Go.step (fun t k => XS.istore X6.here hx rfl (hb hby at_167) rfl (l' := #[.val (.int i0), .val (.int i1), .val (.int i2), .val (.int i3), .val (.int i4), .val (.int i5), .val (.int (Int32.ofNat n)), .val (.int (Int32.ofNat cnt)), .val (.int (bi (q16 = true))), .val (.int (bi (q30 = true))), .val (.ref b1), .val (.int (Int32.ofNat (min (0 + 1) n))), .val (.int (bi (q152 = true))), .val (.int (bi ((Int32.ofNat l116) = (0 : Int32))))]) rfl k) ?_
                      show Go _ _ _ _ _ _ _ T6 (mkF m 169 #[.val (.int i0), .val (.int i1), .val (.int i2), .val (.int i3), .val (.int i4), .val (.int i5), .val (.int (Int32.ofNat n)), .val (.int (Int32.ofNat cnt)), .val (.int (bi (q16 = true))), .val (.int (bi (q30 = true))), .val (.ref b1), .val (.int (Int32.ofNat (min (0 + 1) n))), .val (.int (bi (q152 = true))), .val (.int (bi ((Int32.ofNat l116) = (0 : Int32))))] [])
                      refine Go.step (fun t k => XS.iload X6.here hx rfl (hb hby at_169) rfl k) ?_
                      show Go _ _ _ _ _ _ _ T6 (mkF m 171 #[.val (.int i0), .val (.int i1), .val (.int i2), .val (.int i3), .val (.int i4), .val (.int i5), .val (.int (Int32.ofNat n)), .val (.int (Int32.ofNat cnt)), .val (.int (bi (q16 = true))), .val (.int (bi (q30 = true))), .val (.ref b1), .val (.int (Int32.ofNat (min (0 + 1) n))), .val (.int (bi (q152 = true))), .val (.int (bi ((Int32.ofNat l116) = (0 : Int32))))] [(.int (bi ((Int32.ofNat l116) = (0 : Int32))))])
                      refine Go.step (fun t k => XS.iload X6.here hx rfl (hb hby at_171) rfl k) ?_
                      show Go _ _ _ _ _ _ _ T6 (mkF m 173 #[.val (.int i0), .val (.int i1), .val (.int i2), .val (.int i3), .val (.int i4), .val (.int i5), .val (.int (Int32.ofNat n)), .val (.int (Int32.ofNat cnt)), .val (.int (bi (q16 = true))), .val (.int (bi (q30 = true))), .val (.ref b1), .val (.int (Int32.ofNat (min (0 + 1) n))), .val (.int (bi (q152 = true))), .val (.int (bi ((Int32.ofNat l116) = (0 : Int32))))] [(.int (bi (q152 = true))), (.int (bi ((Int32.ofNat l116) = (0 : Int32))))])
                      rw [if_pos c136_4, if_pos c118_3] at hl116
                      refine Go.step (fun t k => XS.icmpNo X6.here hx rfl (hb hby at_173) rfl (teq (bi_congr (by rw [hq152]; exact (own_eq l116 0 (by omega) (by omega)).trans (Iff.trans (by omega) (own_eq (min (0 + 1) n) 0 (by omega) (by omega)).symm)))).2 k) ?_
                      show Go _ _ _ _ _ _ _ T6 (mkF m 176 #[.val (.int i0), .val (.int i1), .val (.int i2), .val (.int i3), .val (.int i4), .val (.int i5), .val (.int (Int32.ofNat n)), .val (.int (Int32.ofNat cnt)), .val (.int (bi (q16 = true))), .val (.int (bi (q30 = true))), .val (.ref b1), .val (.int (Int32.ofNat (min (0 + 1) n))), .val (.int (bi (q152 = true))), .val (.int (bi ((Int32.ofNat l116) = (0 : Int32))))] [])
                      refine Go.step (fun t k => XS.iload X6.here hx rfl (hb hby at_176) rfl k) ?_
                      show Go _ _ _ _ _ _ _ T6 (mkF m 178 #[.val (.int i0), .val (.int i1), .val (.int i2), .val (.int i3), .val (.int i4), .val (.int i5), .val (.int (Int32.ofNat n)), .val (.int (Int32.ofNat cnt)), .val (.int (bi (q16 = true))), .val (.int (bi (q30 = true))), .val (.ref b1), .val (.int (Int32.ofNat (min (0 + 1) n))), .val (.int (bi (q152 = true))), .val (.int (bi ((Int32.ofNat l116) = (0 : Int32))))] [(.int (bi ((Int32.ofNat l116) = (0 : Int32))))])
                      refine Go.step (fun t k => XS.aload X6.here hx rfl (hb hby at_178) rfl rfl k) ?_
                      show Go _ _ _ _ _ _ _ T6 (mkF m 180 #[.val (.int i0), .val (.int i1), .val (.int i2), .val (.int i3), .val (.int i4), .val (.int i5), .val (.int (Int32.ofNat n)), .val (.int (Int32.ofNat cnt)), .val (.int (bi (q16 = true))), .val (.int (bi (q30 = true))), .val (.ref b1), .val (.int (Int32.ofNat (min (0 + 1) n))), .val (.int (bi (q152 = true))), .val (.int (bi ((Int32.ofNat l116) = (0 : Int32))))] [(.ref b1), (.int (bi ((Int32.ofNat l116) = (0 : Int32))))])
                      obtain ⟨v7, T7, L7, X7, q7, st7⟩ := c_virt X6 hx hZ hown (y' := (⟨"com/example/bearer/bearer/modem/LineBuffer", "length", "()I"⟩ : MethodName)) (y := (⟨"com/example/bearer/bearer/modem/LineBuffer", "length", "()I"⟩ : MethodName)) (C := "com/example/bearer/bearer/modem/LineBuffer") (hw _ (List.mem_of_getElem? (i := 35) rfl)) (hw _ (List.mem_of_getElem? (i := 36) rfl)) (notFace_of_selects (args := #[]) (mvT hZ (hw _ (List.mem_of_getElem? (i := 38) rfl)))) (hw _ (List.mem_of_getElem? (i := 38) rfl)) (hw _ (List.mem_of_getElem? (i := 37) rfl)) (hw _ (List.mem_of_getElem? (i := 2) rfl)) (hw _ (List.mem_of_getElem? (i := 39) rfl)) (by decide) (a := b1) (argsL := []) (rest := [(.int (bi ((Int32.ofNat l116) = (0 : Int32))))]) (rmLn l Z a0 hw [] b1 b2 n l116 c116 fn116 hh116 n0 Z116 hn1 hn4 (by omega) f116_0 f116_2 f116_3 f116_4 f116_5 f116_1 ne_b1_b2) e6 f116_0 pd_3 rfl (by rw [hml]; rfl) (W := 1) (by show 2 * 0 + _ ≤ _; exact Nat.le_of_eq rfl) (by decide) (by decide) (by decide) (by decide) (hb hby at_180) (Ls := #[.val (.int i0), .val (.int i1), .val (.int i2), .val (.int i3), .val (.int i4), .val (.int i5), .val (.int (Int32.ofNat n)), .val (.int (Int32.ofNat cnt)), .val (.int (bi (q16 = true))), .val (.int (bi (q30 = true))), .val (.ref b1), .val (.int (Int32.ofNat (min (0 + 1) n))), .val (.int (bi (q152 = true))), .val (.int (bi ((Int32.ofNat l116) = (0 : Int32))))])
                      obtain ⟨rfl, rfl, e7⟩ := q7
                      have N7 := Fr.app N6 (Fr.nil n0)
                      refine Go.step (st7) ?_
                      show Go _ _ _ _ _ _ _ T7 (mkF m 183 #[.val (.int i0), .val (.int i1), .val (.int i2), .val (.int i3), .val (.int i4), .val (.int i5), .val (.int (Int32.ofNat n)), .val (.int (Int32.ofNat cnt)), .val (.int (bi (q16 = true))), .val (.int (bi (q30 = true))), .val (.ref b1), .val (.int (Int32.ofNat (min (0 + 1) n))), .val (.int (bi (q152 = true))), .val (.int (bi ((Int32.ofNat l116) = (0 : Int32))))] [(.int (Int32.ofNat l116)), (.int (bi ((Int32.ofNat l116) = (0 : Int32))))])
                      obtain ⟨q183, hq183⟩ : ∃ q : Bool, q = true ↔ ((Int32.ofNat l116) = (0 : Int32)) := ⟨decide ((Int32.ofNat l116) = (0 : Int32)), decide_eq_true_iff⟩
                      have j183 : Go p e s below 16 128 (fun v h L => v = some (.int (1 : Int32)) ∧ Fr n0 L) T7 (mkF m 191 #[.val (.int i0), .val (.int i1), .val (.int i2), .val (.int i3), .val (.int i4), .val (.int i5), .val (.int (Int32.ofNat n)), .val (.int (Int32.ofNat cnt)), .val (.int (bi (q16 = true))), .val (.int (bi (q30 = true))), .val (.ref b1), .val (.int (Int32.ofNat (min (0 + 1) n))), .val (.int (bi (q152 = true))), .val (.int (bi ((Int32.ofNat l116) = (0 : Int32))))] [(.int (bi (q183 = true))), (.int (bi ((Int32.ofNat l116) = (0 : Int32))))]) := by
                        refine Go.step (fun t k => XS.icmpNo X7.here hx rfl (hb hby at_191) rfl (teq (bi_congr hq183.symm)).2 k) ?_
                        show Go _ _ _ _ _ _ _ T7 (mkF m 194 #[.val (.int i0), .val (.int i1), .val (.int i2), .val (.int i3), .val (.int i4), .val (.int i5), .val (.int (Int32.ofNat n)), .val (.int (Int32.ofNat cnt)), .val (.int (bi (q16 = true))), .val (.int (bi (q30 = true))), .val (.ref b1), .val (.int (Int32.ofNat (min (0 + 1) n))), .val (.int (bi (q152 = true))), .val (.int (bi ((Int32.ofNat l116) = (0 : Int32))))] [])
                        refine Go.step (fun t k => XS.iconst X7.here hx rfl (hb hby at_194) k) ?_
                        show Go _ _ _ _ _ _ _ T7 (mkF m 195 #[.val (.int i0), .val (.int i1), .val (.int i2), .val (.int i3), .val (.int i4), .val (.int i5), .val (.int (Int32.ofNat n)), .val (.int (Int32.ofNat cnt)), .val (.int (bi (q16 = true))), .val (.int (bi (q30 = true))), .val (.ref b1), .val (.int (Int32.ofNat (min (0 + 1) n))), .val (.int (bi (q152 = true))), .val (.int (bi ((Int32.ofNat l116) = (0 : Int32))))] [(.int (1 : Int32))])
                        refine Go.step (fun t k => XS.goto X7.here hx rfl (pc0 := 195) (pc' := 199) rfl (hb hby at_195) (by decide) (by decide) k) ?_
                        show Go _ _ _ _ _ _ _ T7 (mkF m 199 #[.val (.int i0), .val (.int i1), .val (.int i2), .val (.int i3), .val (.int i4), .val (.int i5), .val (.int (Int32.ofNat n)), .val (.int (Int32.ofNat cnt)), .val (.int (bi (q16 = true))), .val (.int (bi (q30 = true))), .val (.ref b1), .val (.int (Int32.ofNat (min (0 + 1) n))), .val (.int (bi (q152 = true))), .val (.int (bi ((Int32.ofNat l116) = (0 : Int32))))] [(.int (1 : Int32))])
                        refine go_retN X7 hx (t := .boolean) hret (by simp) hlk (hb hby at_199) (w := (1 : Int32)) rfl ?_ (by decide) (by decide)
                        try rw [e7]
                        exact ⟨rfl, N7⟩
                      by_cases c183_8 : (Int32.ofNat l116) = (0 : Int32)
                      · refine Go.step (fun t k => XS.ifNo X7.here hx rfl (hb hby at_183) rfl ((if0 _ _).trans (teq c183_8).2) k) ?_
                        show Go _ _ _ _ _ _ _ T7 (mkF m 186 #[.val (.int i0), .val (.int i1), .val (.int i2), .val (.int i3), .val (.int i4), .val (.int i5), .val (.int (Int32.ofNat n)), .val (.int (Int32.ofNat cnt)), .val (.int (bi (q16 = true))), .val (.int (bi (q30 = true))), .val (.ref b1), .val (.int (Int32.ofNat (min (0 + 1) n))), .val (.int (bi (q152 = true))), .val (.int (bi ((Int32.ofNat l116) = (0 : Int32))))] [(.int (bi ((Int32.ofNat l116) = (0 : Int32))))])
                        refine Go.step (fun t k => XS.iconst X7.here hx rfl (hb hby at_186) k) ?_
                        show Go _ _ _ _ _ _ _ T7 (mkF m 187 #[.val (.int i0), .val (.int i1), .val (.int i2), .val (.int i3), .val (.int i4), .val (.int i5), .val (.int (Int32.ofNat n)), .val (.int (Int32.ofNat cnt)), .val (.int (bi (q16 = true))), .val (.int (bi (q30 = true))), .val (.ref b1), .val (.int (Int32.ofNat (min (0 + 1) n))), .val (.int (bi (q152 = true))), .val (.int (bi ((Int32.ofNat l116) = (0 : Int32))))] [(.int (1 : Int32)), (.int (bi ((Int32.ofNat l116) = (0 : Int32))))])
                        refine Go.step (fun t k => XS.goto X7.here hx rfl (pc0 := 187) (pc' := 191) rfl (hb hby at_187) (by decide) (by decide) k) ?_
                        show Go _ _ _ _ _ _ _ T7 (mkF m 191 #[.val (.int i0), .val (.int i1), .val (.int i2), .val (.int i3), .val (.int i4), .val (.int i5), .val (.int (Int32.ofNat n)), .val (.int (Int32.ofNat cnt)), .val (.int (bi (q16 = true))), .val (.int (bi (q30 = true))), .val (.ref b1), .val (.int (Int32.ofNat (min (0 + 1) n))), .val (.int (bi (q152 = true))), .val (.int (bi ((Int32.ofNat l116) = (0 : Int32))))] [(.int (1 : Int32)), (.int (bi ((Int32.ofNat l116) = (0 : Int32))))])
                        rw [show (bi (q183 = true)) = (1 : Int32) from bi_t (hq183.mpr (by simp only [eq_true c183_8, not_true_eq_false, not_false_eq_true, and_true, true_and, and_false, false_and, or_true, true_or, or_false, false_or, and_self, or_self]))] at j183
                        exact j183
                      · refine Go.step (fun t k => XS.ifYes X7.here hx rfl (pc0 := 183) (pc' := 190) rfl (hb hby at_183) rfl ((if0 _ _).trans (feq c183_8).2) (by decide) (by decide) k) ?_
                        show Go _ _ _ _ _ _ _ T7 (mkF m 190 #[.val (.int i0), .val (.int i1), .val (.int i2), .val (.int i3), .val (.int i4), .val (.int i5), .val (.int (Int32.ofNat n)), .val (.int (Int32.ofNat cnt)), .val (.int (bi (q16 = true))), .val (.int (bi (q30 = true))), .val (.ref b1), .val (.int (Int32.ofNat (min (0 + 1) n))), .val (.int (bi (q152 = true))), .val (.int (bi ((Int32.ofNat l116) = (0 : Int32))))] [(.int (bi ((Int32.ofNat l116) = (0 : Int32))))])
                        refine Go.step (fun t k => XS.iconst X7.here hx rfl (hb hby at_190) k) ?_
                        show Go _ _ _ _ _ _ _ T7 (mkF m 191 #[.val (.int i0), .val (.int i1), .val (.int i2), .val (.int i3), .val (.int i4), .val (.int i5), .val (.int (Int32.ofNat n)), .val (.int (Int32.ofNat cnt)), .val (.int (bi (q16 = true))), .val (.int (bi (q30 = true))), .val (.ref b1), .val (.int (Int32.ofNat (min (0 + 1) n))), .val (.int (bi (q152 = true))), .val (.int (bi ((Int32.ofNat l116) = (0 : Int32))))] [(.int (0 : Int32)), (.int (bi ((Int32.ofNat l116) = (0 : Int32))))])
                        rw [show (bi (q183 = true)) = (0 : Int32) from bi_f (mt hq183.mp (by simp only [eq_false c183_8, not_true_eq_false, not_false_eq_true, and_true, true_and, and_false, false_and, or_true, true_or, or_false, false_or, and_self, or_self]))] at j183
                        exact j183
                    by_cases c152_9 : (Int32.ofNat (min (0 + 1) n)) = (0 : Int32)
                    · refine Go.step (fun t k => XS.ifNo X5.here hx rfl (hb hby at_152) rfl ((if0 _ _).trans (teq c152_9).2) k) ?_
                      show Go _ _ _ _ _ _ _ T5 (mkF m 155 #[.val (.int i0), .val (.int i1), .val (.int i2), .val (.int i3), .val (.int i4), .val (.int i5), .val (.int (Int32.ofNat n)), .val (.int (Int32.ofNat cnt)), .val (.int (bi (q16 = true))), .val (.int (bi (q30 = true))), .val (.ref b1), .val (.int (Int32.ofNat (min (0 + 1) n))), .unset, .unset] [])
                      refine Go.step (fun t k => XS.iconst X5.here hx rfl (hb hby at_155) k) ?_
                      show Go _ _ _ _ _ _ _ T5 (mkF m 156 #[.val (.int i0), .val (.int i1), .val (.int i2), .val (.int i3), .val (.int i4), .val (.int i5), .val (.int (Int32.ofNat n)), .val (.int (Int32.ofNat cnt)), .val (.int (bi (q16 = true))), .val (.int (bi (q30 = true))), .val (.ref b1), .val (.int (Int32.ofNat (min (0 + 1) n))), .unset, .unset] [(.int (1 : Int32))])
                      refine Go.step (fun t k => XS.goto X5.here hx rfl (pc0 := 156) (pc' := 160) rfl (hb hby at_156) (by decide) (by decide) k) ?_
                      show Go _ _ _ _ _ _ _ T5 (mkF m 160 #[.val (.int i0), .val (.int i1), .val (.int i2), .val (.int i3), .val (.int i4), .val (.int i5), .val (.int (Int32.ofNat n)), .val (.int (Int32.ofNat cnt)), .val (.int (bi (q16 = true))), .val (.int (bi (q30 = true))), .val (.ref b1), .val (.int (Int32.ofNat (min (0 + 1) n))), .unset, .unset] [(.int (1 : Int32))])
                      rw [show (bi (q152 = true)) = (1 : Int32) from bi_t (hq152.mpr (by simp only [eq_true c152_9, not_true_eq_false, not_false_eq_true, and_true, true_and, and_false, false_and, or_true, true_or, or_false, false_or, and_self, or_self]))] at j152
                      exact j152
                    · refine Go.step (fun t k => XS.ifYes X5.here hx rfl (pc0 := 152) (pc' := 159) rfl (hb hby at_152) rfl ((if0 _ _).trans (feq c152_9).2) (by decide) (by decide) k) ?_
                      show Go _ _ _ _ _ _ _ T5 (mkF m 159 #[.val (.int i0), .val (.int i1), .val (.int i2), .val (.int i3), .val (.int i4), .val (.int i5), .val (.int (Int32.ofNat n)), .val (.int (Int32.ofNat cnt)), .val (.int (bi (q16 = true))), .val (.int (bi (q30 = true))), .val (.ref b1), .val (.int (Int32.ofNat (min (0 + 1) n))), .unset, .unset] [])
                      refine Go.step (fun t k => XS.iconst X5.here hx rfl (hb hby at_159) k) ?_
                      show Go _ _ _ _ _ _ _ T5 (mkF m 160 #[.val (.int i0), .val (.int i1), .val (.int i2), .val (.int i3), .val (.int i4), .val (.int i5), .val (.int (Int32.ofNat n)), .val (.int (Int32.ofNat cnt)), .val (.int (bi (q16 = true))), .val (.int (bi (q30 = true))), .val (.ref b1), .val (.int (Int32.ofNat (min (0 + 1) n))), .unset, .unset] [(.int (0 : Int32))])
                      rw [show (bi (q152 = true)) = (0 : Int32) from bi_f (mt hq152.mp (by simp only [eq_false c152_9, not_true_eq_false, not_false_eq_true, and_true, true_and, and_false, false_and, or_true, true_or, or_false, false_or, and_self, or_self]))] at j152
                      exact j152
                  · refine Go.step (fun t k => XS.ifYes X116.here hx rfl (pc0 := 136) (pc' := 150) rfl (hb hby at_136) rfl ((if0 _ _).trans (teq (bi_f c136_4)).1) (by decide) (by decide) k) ?_
                    show Go _ _ _ _ _ _ _ T116 (mkF m 150 #[.val (.int i0), .val (.int i1), .val (.int i2), .val (.int i3), .val (.int i4), .val (.int i5), .val (.int (Int32.ofNat n)), .val (.int (Int32.ofNat cnt)), .val (.int (bi (q16 = true))), .val (.int (bi (q30 = true))), .val (.ref b1), .val (.int (Int32.ofNat 0)), .unset, .unset] [])
                    refine Go.step (fun t k => XS.iload X116.here hx rfl (hb hby at_150) rfl k) ?_
                    show Go _ _ _ _ _ _ _ T116 (mkF m 152 #[.val (.int i0), .val (.int i1), .val (.int i2), .val (.int i3), .val (.int i4), .val (.int i5), .val (.int (Int32.ofNat n)), .val (.int (Int32.ofNat cnt)), .val (.int (bi (q16 = true))), .val (.int (bi (q30 = true))), .val (.ref b1), .val (.int (Int32.ofNat 0)), .unset, .unset] [(.int (Int32.ofNat 0))])
                    obtain ⟨q152, hq152⟩ : ∃ q : Bool, q = true ↔ ((Int32.ofNat 0) = (0 : Int32)) := ⟨decide ((Int32.ofNat 0) = (0 : Int32)), decide_eq_true_iff⟩
                    have j152 : Go p e s below 16 128 (fun v h L => v = some (.int (1 : Int32)) ∧ Fr n0 L) T116 (mkF m 160 #[.val (.int i0), .val (.int i1), .val (.int i2), .val (.int i3), .val (.int i4), .val (.int i5), .val (.int (Int32.ofNat n)), .val (.int (Int32.ofNat cnt)), .val (.int (bi (q16 = true))), .val (.int (bi (q30 = true))), .val (.ref b1), .val (.int (Int32.ofNat 0)), .unset, .unset] [(.int (bi (q152 = true)))]) := by
                      refine Go.step (fun t k => XS.istore X116.here hx rfl (hb hby at_160) rfl (l' := #[.val (.int i0), .val (.int i1), .val (.int i2), .val (.int i3), .val (.int i4), .val (.int i5), .val (.int (Int32.ofNat n)), .val (.int (Int32.ofNat cnt)), .val (.int (bi (q16 = true))), .val (.int (bi (q30 = true))), .val (.ref b1), .val (.int (Int32.ofNat 0)), .val (.int (bi (q152 = true))), .unset]) rfl k) ?_
                      show Go _ _ _ _ _ _ _ T116 (mkF m 162 #[.val (.int i0), .val (.int i1), .val (.int i2), .val (.int i3), .val (.int i4), .val (.int i5), .val (.int (Int32.ofNat n)), .val (.int (Int32.ofNat cnt)), .val (.int (bi (q16 = true))), .val (.int (bi (q30 = true))), .val (.ref b1), .val (.int (Int32.ofNat 0)), .val (.int (bi (q152 = true))), .unset] [])
                      refine Go.step (fun t k => XS.aload X116.here hx rfl (hb hby at_162) rfl rfl k) ?_
                      show Go _ _ _ _ _ _ _ T116 (mkF m 164 #[.val (.int i0), .val (.int i1), .val (.int i2), .val (.int i3), .val (.int i4), .val (.int i5), .val (.int (Int32.ofNat n)), .val (.int (Int32.ofNat cnt)), .val (.int (bi (q16 = true))), .val (.int (bi (q30 = true))), .val (.ref b1), .val (.int (Int32.ofNat 0)), .val (.int (bi (q152 = true))), .unset] [(.ref b1)])
                      obtain ⟨v10, T10, L10, X10, q10, st10⟩ := c_virt X116 hx hZ hown (y' := (⟨"com/example/bearer/bearer/modem/LineBuffer", "isEmpty", "()Z"⟩ : MethodName)) (y := (⟨"com/example/bearer/bearer/modem/LineBuffer", "isEmpty", "()Z"⟩ : MethodName)) (C := "com/example/bearer/bearer/modem/LineBuffer") (hw _ (List.mem_of_getElem? (i := 30) rfl)) (hw _ (List.mem_of_getElem? (i := 31) rfl)) (notFace_of_selects (args := #[]) (mvT hZ (hw _ (List.mem_of_getElem? (i := 33) rfl)))) (hw _ (List.mem_of_getElem? (i := 33) rfl)) (hw _ (List.mem_of_getElem? (i := 32) rfl)) (hw _ (List.mem_of_getElem? (i := 2) rfl)) (hw _ (List.mem_of_getElem? (i := 34) rfl)) (by decide) (a := b1) (argsL := []) (rest := []) (rmEm l Z a0 hw [] b1 b2 n l116 c116 fn116 hh116 n0 Z116 hn1 hn4 (by omega) f116_0 f116_2 f116_3 f116_4 f116_5 f116_1 ne_b1_b2) e116 f116_0 pd_2 rfl (by rw [hml]; rfl) (W := 0) (by show 2 * 0 + _ ≤ _; exact Nat.le_of_eq rfl) (by decide) (by decide) (by decide) (by decide) (hb hby at_164) (Ls := #[.val (.int i0), .val (.int i1), .val (.int i2), .val (.int i3), .val (.int i4), .val (.int i5), .val (.int (Int32.ofNat n)), .val (.int (Int32.ofNat cnt)), .val (.int (bi (q16 = true))), .val (.int (bi (q30 = true))), .val (.ref b1), .val (.int (Int32.ofNat 0)), .val (.int (bi (q152 = true))), .unset])
                      obtain ⟨rfl, rfl, e10⟩ := q10
                      have N10 := Fr.app N116 (Fr.nil n0)
                      refine Go.step (st10) ?_
                      show Go _ _ _ _ _ _ _ T10 (mkF m 167 #[.val (.int i0), .val (.int i1), .val (.int i2), .val (.int i3), .val (.int i4), .val (.int i5), .val (.int (Int32.ofNat n)), .val (.int (Int32.ofNat cnt)), .val (.int (bi (q16 = true))), .val (.int (bi (q30 = true))), .val (.ref b1), .val (.int (Int32.ofNat 0)), .val (.int (bi (q152 = true))), .unset] [(.int (bi ((Int32.ofNat l116) = (0 : Int32))))])
                      refine Go.step (fun t k => XS.istore X10.here hx rfl (hb hby at_167) rfl (l' := #[.val (.int i0), .val (.int i1), .val (.int i2), .val (.int i3), .val (.int i4), .val (.int i5), .val (.int (Int32.ofNat n)), .val (.int (Int32.ofNat cnt)), .val (.int (bi (q16 = true))), .val (.int (bi (q30 = true))), .val (.ref b1), .val (.int (Int32.ofNat 0)), .val (.int (bi (q152 = true))), .val (.int (bi ((Int32.ofNat l116) = (0 : Int32))))]) rfl k) ?_
                      show Go _ _ _ _ _ _ _ T10 (mkF m 169 #[.val (.int i0), .val (.int i1), .val (.int i2), .val (.int i3), .val (.int i4), .val (.int i5), .val (.int (Int32.ofNat n)), .val (.int (Int32.ofNat cnt)), .val (.int (bi (q16 = true))), .val (.int (bi (q30 = true))), .val (.ref b1), .val (.int (Int32.ofNat 0)), .val (.int (bi (q152 = true))), .val (.int (bi ((Int32.ofNat l116) = (0 : Int32))))] [])
                      refine Go.step (fun t k => XS.iload X10.here hx rfl (hb hby at_169) rfl k) ?_
                      show Go _ _ _ _ _ _ _ T10 (mkF m 171 #[.val (.int i0), .val (.int i1), .val (.int i2), .val (.int i3), .val (.int i4), .val (.int i5), .val (.int (Int32.ofNat n)), .val (.int (Int32.ofNat cnt)), .val (.int (bi (q16 = true))), .val (.int (bi (q30 = true))), .val (.ref b1), .val (.int (Int32.ofNat 0)), .val (.int (bi (q152 = true))), .val (.int (bi ((Int32.ofNat l116) = (0 : Int32))))] [(.int (bi ((Int32.ofNat l116) = (0 : Int32))))])
                      refine Go.step (fun t k => XS.iload X10.here hx rfl (hb hby at_171) rfl k) ?_
                      show Go _ _ _ _ _ _ _ T10 (mkF m 173 #[.val (.int i0), .val (.int i1), .val (.int i2), .val (.int i3), .val (.int i4), .val (.int i5), .val (.int (Int32.ofNat n)), .val (.int (Int32.ofNat cnt)), .val (.int (bi (q16 = true))), .val (.int (bi (q30 = true))), .val (.ref b1), .val (.int (Int32.ofNat 0)), .val (.int (bi (q152 = true))), .val (.int (bi ((Int32.ofNat l116) = (0 : Int32))))] [(.int (bi (q152 = true))), (.int (bi ((Int32.ofNat l116) = (0 : Int32))))])
                      rw [if_neg c136_4, if_pos c118_3] at hl116
                      refine Go.step (fun t k => XS.icmpNo X10.here hx rfl (hb hby at_173) rfl (teq (bi_congr (by rw [hq152]; exact (own_eq l116 0 (by omega) (by omega)).trans (Iff.trans (by omega) (own_eq 0 0 (by omega) (by omega)).symm)))).2 k) ?_
                      show Go _ _ _ _ _ _ _ T10 (mkF m 176 #[.val (.int i0), .val (.int i1), .val (.int i2), .val (.int i3), .val (.int i4), .val (.int i5), .val (.int (Int32.ofNat n)), .val (.int (Int32.ofNat cnt)), .val (.int (bi (q16 = true))), .val (.int (bi (q30 = true))), .val (.ref b1), .val (.int (Int32.ofNat 0)), .val (.int (bi (q152 = true))), .val (.int (bi ((Int32.ofNat l116) = (0 : Int32))))] [])
                      refine Go.step (fun t k => XS.iload X10.here hx rfl (hb hby at_176) rfl k) ?_
                      show Go _ _ _ _ _ _ _ T10 (mkF m 178 #[.val (.int i0), .val (.int i1), .val (.int i2), .val (.int i3), .val (.int i4), .val (.int i5), .val (.int (Int32.ofNat n)), .val (.int (Int32.ofNat cnt)), .val (.int (bi (q16 = true))), .val (.int (bi (q30 = true))), .val (.ref b1), .val (.int (Int32.ofNat 0)), .val (.int (bi (q152 = true))), .val (.int (bi ((Int32.ofNat l116) = (0 : Int32))))] [(.int (bi ((Int32.ofNat l116) = (0 : Int32))))])
                      refine Go.step (fun t k => XS.aload X10.here hx rfl (hb hby at_178) rfl rfl k) ?_
                      show Go _ _ _ _ _ _ _ T10 (mkF m 180 #[.val (.int i0), .val (.int i1), .val (.int i2), .val (.int i3), .val (.int i4), .val (.int i5), .val (.int (Int32.ofNat n)), .val (.int (Int32.ofNat cnt)), .val (.int (bi (q16 = true))), .val (.int (bi (q30 = true))), .val (.ref b1), .val (.int (Int32.ofNat 0)), .val (.int (bi (q152 = true))), .val (.int (bi ((Int32.ofNat l116) = (0 : Int32))))] [(.ref b1), (.int (bi ((Int32.ofNat l116) = (0 : Int32))))])
                      obtain ⟨v11, T11, L11, X11, q11, st11⟩ := c_virt X10 hx hZ hown (y' := (⟨"com/example/bearer/bearer/modem/LineBuffer", "length", "()I"⟩ : MethodName)) (y := (⟨"com/example/bearer/bearer/modem/LineBuffer", "length", "()I"⟩ : MethodName)) (C := "com/example/bearer/bearer/modem/LineBuffer") (hw _ (List.mem_of_getElem? (i := 35) rfl)) (hw _ (List.mem_of_getElem? (i := 36) rfl)) (notFace_of_selects (args := #[]) (mvT hZ (hw _ (List.mem_of_getElem? (i := 38) rfl)))) (hw _ (List.mem_of_getElem? (i := 38) rfl)) (hw _ (List.mem_of_getElem? (i := 37) rfl)) (hw _ (List.mem_of_getElem? (i := 2) rfl)) (hw _ (List.mem_of_getElem? (i := 39) rfl)) (by decide) (a := b1) (argsL := []) (rest := [(.int (bi ((Int32.ofNat l116) = (0 : Int32))))]) (rmLn l Z a0 hw [] b1 b2 n l116 c116 fn116 hh116 n0 Z116 hn1 hn4 (by omega) f116_0 f116_2 f116_3 f116_4 f116_5 f116_1 ne_b1_b2) e10 f116_0 pd_3 rfl (by rw [hml]; rfl) (W := 1) (by show 2 * 0 + _ ≤ _; exact Nat.le_of_eq rfl) (by decide) (by decide) (by decide) (by decide) (hb hby at_180) (Ls := #[.val (.int i0), .val (.int i1), .val (.int i2), .val (.int i3), .val (.int i4), .val (.int i5), .val (.int (Int32.ofNat n)), .val (.int (Int32.ofNat cnt)), .val (.int (bi (q16 = true))), .val (.int (bi (q30 = true))), .val (.ref b1), .val (.int (Int32.ofNat 0)), .val (.int (bi (q152 = true))), .val (.int (bi ((Int32.ofNat l116) = (0 : Int32))))])
                      obtain ⟨rfl, rfl, e11⟩ := q11
                      have N11 := Fr.app N10 (Fr.nil n0)
                      refine Go.step (st11) ?_
                      show Go _ _ _ _ _ _ _ T11 (mkF m 183 #[.val (.int i0), .val (.int i1), .val (.int i2), .val (.int i3), .val (.int i4), .val (.int i5), .val (.int (Int32.ofNat n)), .val (.int (Int32.ofNat cnt)), .val (.int (bi (q16 = true))), .val (.int (bi (q30 = true))), .val (.ref b1), .val (.int (Int32.ofNat 0)), .val (.int (bi (q152 = true))), .val (.int (bi ((Int32.ofNat l116) = (0 : Int32))))] [(.int (Int32.ofNat l116)), (.int (bi ((Int32.ofNat l116) = (0 : Int32))))])
                      obtain ⟨q183, hq183⟩ : ∃ q : Bool, q = true ↔ ((Int32.ofNat l116) = (0 : Int32)) := ⟨decide ((Int32.ofNat l116) = (0 : Int32)), decide_eq_true_iff⟩
                      have j183 : Go p e s below 16 128 (fun v h L => v = some (.int (1 : Int32)) ∧ Fr n0 L) T11 (mkF m 191 #[.val (.int i0), .val (.int i1), .val (.int i2), .val (.int i3), .val (.int i4), .val (.int i5), .val (.int (Int32.ofNat n)), .val (.int (Int32.ofNat cnt)), .val (.int (bi (q16 = true))), .val (.int (bi (q30 = true))), .val (.ref b1), .val (.int (Int32.ofNat 0)), .val (.int (bi (q152 = true))), .val (.int (bi ((Int32.ofNat l116) = (0 : Int32))))] [(.int (bi (q183 = true))), (.int (bi ((Int32.ofNat l116) = (0 : Int32))))]) := by
                        refine Go.step (fun t k => XS.icmpNo X11.here hx rfl (hb hby at_191) rfl (teq (bi_congr hq183.symm)).2 k) ?_
                        show Go _ _ _ _ _ _ _ T11 (mkF m 194 #[.val (.int i0), .val (.int i1), .val (.int i2), .val (.int i3), .val (.int i4), .val (.int i5), .val (.int (Int32.ofNat n)), .val (.int (Int32.ofNat cnt)), .val (.int (bi (q16 = true))), .val (.int (bi (q30 = true))), .val (.ref b1), .val (.int (Int32.ofNat 0)), .val (.int (bi (q152 = true))), .val (.int (bi ((Int32.ofNat l116) = (0 : Int32))))] [])
                        refine Go.step (fun t k => XS.iconst X11.here hx rfl (hb hby at_194) k) ?_
                        show Go _ _ _ _ _ _ _ T11 (mkF m 195 #[.val (.int i0), .val (.int i1), .val (.int i2), .val (.int i3), .val (.int i4), .val (.int i5), .val (.int (Int32.ofNat n)), .val (.int (Int32.ofNat cnt)), .val (.int (bi (q16 = true))), .val (.int (bi (q30 = true))), .val (.ref b1), .val (.int (Int32.ofNat 0)), .val (.int (bi (q152 = true))), .val (.int (bi ((Int32.ofNat l116) = (0 : Int32))))] [(.int (1 : Int32))])
                        refine Go.step (fun t k => XS.goto X11.here hx rfl (pc0 := 195) (pc' := 199) rfl (hb hby at_195) (by decide) (by decide) k) ?_
                        show Go _ _ _ _ _ _ _ T11 (mkF m 199 #[.val (.int i0), .val (.int i1), .val (.int i2), .val (.int i3), .val (.int i4), .val (.int i5), .val (.int (Int32.ofNat n)), .val (.int (Int32.ofNat cnt)), .val (.int (bi (q16 = true))), .val (.int (bi (q30 = true))), .val (.ref b1), .val (.int (Int32.ofNat 0)), .val (.int (bi (q152 = true))), .val (.int (bi ((Int32.ofNat l116) = (0 : Int32))))] [(.int (1 : Int32))])
                        refine go_retN X11 hx (t := .boolean) hret (by simp) hlk (hb hby at_199) (w := (1 : Int32)) rfl ?_ (by decide) (by decide)
                        try rw [e11]
                        exact ⟨rfl, N11⟩
                      by_cases c183_12 : (Int32.ofNat l116) = (0 : Int32)
                      · refine Go.step (fun t k => XS.ifNo X11.here hx rfl (hb hby at_183) rfl ((if0 _ _).trans (teq c183_12).2) k) ?_
                        show Go _ _ _ _ _ _ _ T11 (mkF m 186 #[.val (.int i0), .val (.int i1), .val (.int i2), .val (.int i3), .val (.int i4), .val (.int i5), .val (.int (Int32.ofNat n)), .val (.int (Int32.ofNat cnt)), .val (.int (bi (q16 = true))), .val (.int (bi (q30 = true))), .val (.ref b1), .val (.int (Int32.ofNat 0)), .val (.int (bi (q152 = true))), .val (.int (bi ((Int32.ofNat l116) = (0 : Int32))))] [(.int (bi ((Int32.ofNat l116) = (0 : Int32))))])
                        refine Go.step (fun t k => XS.iconst X11.here hx rfl (hb hby at_186) k) ?_
                        show Go _ _ _ _ _ _ _ T11 (mkF m 187 #[.val (.int i0), .val (.int i1), .val (.int i2), .val (.int i3), .val (.int i4), .val (.int i5), .val (.int (Int32.ofNat n)), .val (.int (Int32.ofNat cnt)), .val (.int (bi (q16 = true))), .val (.int (bi (q30 = true))), .val (.ref b1), .val (.int (Int32.ofNat 0)), .val (.int (bi (q152 = true))), .val (.int (bi ((Int32.ofNat l116) = (0 : Int32))))] [(.int (1 : Int32)), (.int (bi ((Int32.ofNat l116) = (0 : Int32))))])
                        refine Go.step (fun t k => XS.goto X11.here hx rfl (pc0 := 187) (pc' := 191) rfl (hb hby at_187) (by decide) (by decide) k) ?_
                        show Go _ _ _ _ _ _ _ T11 (mkF m 191 #[.val (.int i0), .val (.int i1), .val (.int i2), .val (.int i3), .val (.int i4), .val (.int i5), .val (.int (Int32.ofNat n)), .val (.int (Int32.ofNat cnt)), .val (.int (bi (q16 = true))), .val (.int (bi (q30 = true))), .val (.ref b1), .val (.int (Int32.ofNat 0)), .val (.int (bi (q152 = true))), .val (.int (bi ((Int32.ofNat l116) = (0 : Int32))))] [(.int (1 : Int32)), (.int (bi ((Int32.ofNat l116) = (0 : Int32))))])
                        rw [show (bi (q183 = true)) = (1 : Int32) from bi_t (hq183.mpr (by simp only [eq_true c183_12, not_true_eq_false, not_false_eq_true, and_true, true_and, and_false, false_and, or_true, true_or, or_false, false_or, and_self, or_self]))] at j183
                        exact j183
                      · refine Go.step (fun t k => XS.ifYes X11.here hx rfl (pc0 := 183) (pc' := 190) rfl (hb hby at_183) rfl ((if0 _ _).trans (feq c183_12).2) (by decide) (by decide) k) ?_
                        show Go _ _ _ _ _ _ _ T11 (mkF m 190 #[.val (.int i0), .val (.int i1), .val (.int i2), .val (.int i3), .val (.int i4), .val (.int i5), .val (.int (Int32.ofNat n)), .val (.int (Int32.ofNat cnt)), .val (.int (bi (q16 = true))), .val (.int (bi (q30 = true))), .val (.ref b1), .val (.int (Int32.ofNat 0)), .val (.int (bi (q152 = true))), .val (.int (bi ((Int32.ofNat l116) = (0 : Int32))))] [(.int (bi ((Int32.ofNat l116) = (0 : Int32))))])
                        refine Go.step (fun t k => XS.iconst X11.here hx rfl (hb hby at_190) k) ?_
                        show Go _ _ _ _ _ _ _ T11 (mkF m 191 #[.val (.int i0), .val (.int i1), .val (.int i2), .val (.int i3), .val (.int i4), .val (.int i5), .val (.int (Int32.ofNat n)), .val (.int (Int32.ofNat cnt)), .val (.int (bi (q16 = true))), .val (.int (bi (q30 = true))), .val (.ref b1), .val (.int (Int32.ofNat 0)), .val (.int (bi (q152 = true))), .val (.int (bi ((Int32.ofNat l116) = (0 : Int32))))] [(.int (0 : Int32)), (.int (bi ((Int32.ofNat l116) = (0 : Int32))))])
                        rw [show (bi (q183 = true)) = (0 : Int32) from bi_f (mt hq183.mp (by simp only [eq_false c183_12, not_true_eq_false, not_false_eq_true, and_true, true_and, and_false, false_and, or_true, true_or, or_false, false_or, and_self, or_self]))] at j183
                        exact j183
                    by_cases c152_13 : (Int32.ofNat 0) = (0 : Int32)
                    · refine Go.step (fun t k => XS.ifNo X116.here hx rfl (hb hby at_152) rfl ((if0 _ _).trans (teq c152_13).2) k) ?_
                      show Go _ _ _ _ _ _ _ T116 (mkF m 155 #[.val (.int i0), .val (.int i1), .val (.int i2), .val (.int i3), .val (.int i4), .val (.int i5), .val (.int (Int32.ofNat n)), .val (.int (Int32.ofNat cnt)), .val (.int (bi (q16 = true))), .val (.int (bi (q30 = true))), .val (.ref b1), .val (.int (Int32.ofNat 0)), .unset, .unset] [])
                      refine Go.step (fun t k => XS.iconst X116.here hx rfl (hb hby at_155) k) ?_
                      show Go _ _ _ _ _ _ _ T116 (mkF m 156 #[.val (.int i0), .val (.int i1), .val (.int i2), .val (.int i3), .val (.int i4), .val (.int i5), .val (.int (Int32.ofNat n)), .val (.int (Int32.ofNat cnt)), .val (.int (bi (q16 = true))), .val (.int (bi (q30 = true))), .val (.ref b1), .val (.int (Int32.ofNat 0)), .unset, .unset] [(.int (1 : Int32))])
                      refine Go.step (fun t k => XS.goto X116.here hx rfl (pc0 := 156) (pc' := 160) rfl (hb hby at_156) (by decide) (by decide) k) ?_
                      show Go _ _ _ _ _ _ _ T116 (mkF m 160 #[.val (.int i0), .val (.int i1), .val (.int i2), .val (.int i3), .val (.int i4), .val (.int i5), .val (.int (Int32.ofNat n)), .val (.int (Int32.ofNat cnt)), .val (.int (bi (q16 = true))), .val (.int (bi (q30 = true))), .val (.ref b1), .val (.int (Int32.ofNat 0)), .unset, .unset] [(.int (1 : Int32))])
                      rw [show (bi (q152 = true)) = (1 : Int32) from bi_t (hq152.mpr (by simp only [eq_true c152_13, not_true_eq_false, not_false_eq_true, and_true, true_and, and_false, false_and, or_true, true_or, or_false, false_or, and_self, or_self]))] at j152
                      exact j152
                    · refine Go.step (fun t k => XS.ifYes X116.here hx rfl (pc0 := 152) (pc' := 159) rfl (hb hby at_152) rfl ((if0 _ _).trans (feq c152_13).2) (by decide) (by decide) k) ?_
                      show Go _ _ _ _ _ _ _ T116 (mkF m 159 #[.val (.int i0), .val (.int i1), .val (.int i2), .val (.int i3), .val (.int i4), .val (.int i5), .val (.int (Int32.ofNat n)), .val (.int (Int32.ofNat cnt)), .val (.int (bi (q16 = true))), .val (.int (bi (q30 = true))), .val (.ref b1), .val (.int (Int32.ofNat 0)), .unset, .unset] [])
                      refine Go.step (fun t k => XS.iconst X116.here hx rfl (hb hby at_159) k) ?_
                      show Go _ _ _ _ _ _ _ T116 (mkF m 160 #[.val (.int i0), .val (.int i1), .val (.int i2), .val (.int i3), .val (.int i4), .val (.int i5), .val (.int (Int32.ofNat n)), .val (.int (Int32.ofNat cnt)), .val (.int (bi (q16 = true))), .val (.int (bi (q30 = true))), .val (.ref b1), .val (.int (Int32.ofNat 0)), .unset, .unset] [(.int (0 : Int32))])
                      rw [show (bi (q152 = true)) = (0 : Int32) from bi_f (mt hq152.mp (by simp only [eq_false c152_13, not_true_eq_false, not_false_eq_true, and_true, true_and, and_false, false_and, or_true, true_or, or_false, false_or, and_self, or_self]))] at j152
                      exact j152
                · refine Go.step (fun t k => XS.ifYes X116.here hx rfl (pc0 := 118) (pc' := 125) rfl (hb hby at_118) rfl ((if0 _ _).trans (teq (bi_f c118_3)).1) (by decide) (by decide) k) ?_
                  show Go _ _ _ _ _ _ _ T116 (mkF m 125 #[.val (.int i0), .val (.int i1), .val (.int i2), .val (.int i3), .val (.int i4), .val (.int i5), .val (.int (Int32.ofNat n)), .val (.int (Int32.ofNat cnt)), .val (.int (bi (q16 = true))), .val (.int (bi (q30 = true))), .val (.ref b1), .unset, .unset, .unset] [])
                  refine Go.step (fun t k => XS.iload X116.here hx rfl (hb hby at_125) rfl k) ?_
                  show Go _ _ _ _ _ _ _ T116 (mkF m 127 #[.val (.int i0), .val (.int i1), .val (.int i2), .val (.int i3), .val (.int i4), .val (.int i5), .val (.int (Int32.ofNat n)), .val (.int (Int32.ofNat cnt)), .val (.int (bi (q16 = true))), .val (.int (bi (q30 = true))), .val (.ref b1), .unset, .unset, .unset] [(.int (Int32.ofNat cnt))])
                  refine Go.step (fun t k => XS.iload X116.here hx rfl (hb hby at_127) rfl k) ?_
                  show Go _ _ _ _ _ _ _ T116 (mkF m 129 #[.val (.int i0), .val (.int i1), .val (.int i2), .val (.int i3), .val (.int i4), .val (.int i5), .val (.int (Int32.ofNat n)), .val (.int (Int32.ofNat cnt)), .val (.int (bi (q16 = true))), .val (.int (bi (q30 = true))), .val (.ref b1), .unset, .unset, .unset] [(.int (Int32.ofNat n)), (.int (Int32.ofNat cnt))])
                  obtain ⟨v14, T14, L14, X14, q14, st14⟩ := c_static X116 hx hZ hown (y := (⟨"java/lang/Math", "min", "(II)I"⟩ : MethodName)) (hw _ (List.mem_of_getElem? (i := 26) rfl)) (hw _ (List.mem_of_getElem? (i := 27) rfl)) (hw _ (List.mem_of_getElem? (i := 28) rfl)) (hw _ (List.mem_of_getElem? (i := 29) rfl)) (by decide) (argsL := [(.int (Int32.ofNat cnt)), (.int (Int32.ofNat n))]) (rest := []) (rmMin l Z a0 hw [] (Int32.ofNat cnt) (Int32.ofNat n)  hh116 n0 Z116 ) e116 pd_1 rfl (by rw [hml]; rfl) (W := 0) (by show 2 * 0 + _ ≤ _; exact Nat.le_of_eq rfl) (by decide) (by decide) (by decide) (by decide) (hb hby at_129) (Ls := #[.val (.int i0), .val (.int i1), .val (.int i2), .val (.int i3), .val (.int i4), .val (.int i5), .val (.int (Int32.ofNat n)), .val (.int (Int32.ofNat cnt)), .val (.int (bi (q16 = true))), .val (.int (bi (q30 = true))), .val (.ref b1), .unset, .unset, .unset])
                  obtain ⟨rfl, rfl, e14⟩ := q14
                  have N14 := Fr.app N116 (Fr.nil n0)
                  refine Go.step (st14) ?_
                  show Go _ _ _ _ _ _ _ T14 (mkF m 132 #[.val (.int i0), .val (.int i1), .val (.int i2), .val (.int i3), .val (.int i4), .val (.int i5), .val (.int (Int32.ofNat n)), .val (.int (Int32.ofNat cnt)), .val (.int (bi (q16 = true))), .val (.int (bi (q30 = true))), .val (.ref b1), .unset, .unset, .unset] [(.int (mn (Int32.ofNat cnt) (Int32.ofNat n)))])
                  rw [own_min _ _ (by omega) (by omega)]
                  show Go _ _ _ _ _ _ _ T14 (mkF m 132 #[.val (.int i0), .val (.int i1), .val (.int i2), .val (.int i3), .val (.int i4), .val (.int i5), .val (.int (Int32.ofNat n)), .val (.int (Int32.ofNat cnt)), .val (.int (bi (q16 = true))), .val (.int (bi (q30 = true))), .val (.ref b1), .unset, .unset, .unset] [(.int (Int32.ofNat (min cnt n)))])
                  refine Go.step (fun t k => XS.istore X14.here hx rfl (hb hby at_132) rfl (l' := #[.val (.int i0), .val (.int i1), .val (.int i2), .val (.int i3), .val (.int i4), .val (.int i5), .val (.int (Int32.ofNat n)), .val (.int (Int32.ofNat cnt)), .val (.int (bi (q16 = true))), .val (.int (bi (q30 = true))), .val (.ref b1), .val (.int (Int32.ofNat (min cnt n))), .unset, .unset]) rfl k) ?_
                  show Go _ _ _ _ _ _ _ T14 (mkF m 134 #[.val (.int i0), .val (.int i1), .val (.int i2), .val (.int i3), .val (.int i4), .val (.int i5), .val (.int (Int32.ofNat n)), .val (.int (Int32.ofNat cnt)), .val (.int (bi (q16 = true))), .val (.int (bi (q30 = true))), .val (.ref b1), .val (.int (Int32.ofNat (min cnt n))), .unset, .unset] [])
                  refine Go.step (fun t k => XS.iload X14.here hx rfl (hb hby at_134) rfl k) ?_
                  show Go _ _ _ _ _ _ _ T14 (mkF m 136 #[.val (.int i0), .val (.int i1), .val (.int i2), .val (.int i3), .val (.int i4), .val (.int i5), .val (.int (Int32.ofNat n)), .val (.int (Int32.ofNat cnt)), .val (.int (bi (q16 = true))), .val (.int (bi (q30 = true))), .val (.ref b1), .val (.int (Int32.ofNat (min cnt n))), .unset, .unset] [(.int (bi (q30 = true)))])
                  by_cases c136_15 : q30 = true
                  · refine Go.step (fun t k => XS.ifNo X14.here hx rfl (hb hby at_136) rfl ((if0 _ _).trans (feq (bi_n c136_15)).1) k) ?_
                    show Go _ _ _ _ _ _ _ T14 (mkF m 139 #[.val (.int i0), .val (.int i1), .val (.int i2), .val (.int i3), .val (.int i4), .val (.int i5), .val (.int (Int32.ofNat n)), .val (.int (Int32.ofNat cnt)), .val (.int (bi (q16 = true))), .val (.int (bi (q30 = true))), .val (.ref b1), .val (.int (Int32.ofNat (min cnt n))), .unset, .unset] [])
                    refine Go.step (fun t k => XS.iload X14.here hx rfl (hb hby at_139) rfl k) ?_
                    show Go _ _ _ _ _ _ _ T14 (mkF m 141 #[.val (.int i0), .val (.int i1), .val (.int i2), .val (.int i3), .val (.int i4), .val (.int i5), .val (.int (Int32.ofNat n)), .val (.int (Int32.ofNat cnt)), .val (.int (bi (q16 = true))), .val (.int (bi (q30 = true))), .val (.ref b1), .val (.int (Int32.ofNat (min cnt n))), .unset, .unset] [(.int (Int32.ofNat (min cnt n)))])
                    refine Go.step (fun t k => XS.iconst X14.here hx rfl (hb hby at_141) k) ?_
                    show Go _ _ _ _ _ _ _ T14 (mkF m 142 #[.val (.int i0), .val (.int i1), .val (.int i2), .val (.int i3), .val (.int i4), .val (.int i5), .val (.int (Int32.ofNat n)), .val (.int (Int32.ofNat cnt)), .val (.int (bi (q16 = true))), .val (.int (bi (q30 = true))), .val (.ref b1), .val (.int (Int32.ofNat (min cnt n))), .unset, .unset] [(.int (1 : Int32)), (.int (Int32.ofNat (min cnt n)))])
                    refine Go.step (fun t k => XS.iadd X14.here hx rfl (hb hby at_142) rfl k) ?_
                    show Go _ _ _ _ _ _ _ T14 (mkF m 143 #[.val (.int i0), .val (.int i1), .val (.int i2), .val (.int i3), .val (.int i4), .val (.int i5), .val (.int (Int32.ofNat n)), .val (.int (Int32.ofNat cnt)), .val (.int (bi (q16 = true))), .val (.int (bi (q30 = true))), .val (.ref b1), .val (.int (Int32.ofNat (min cnt n))), .unset, .unset] [(.int ((Int32.ofNat (min cnt n)) + (1 : Int32)))])
                    rw [own_add]
                    show Go _ _ _ _ _ _ _ T14 (mkF m 143 #[.val (.int i0), .val (.int i1), .val (.int i2), .val (.int i3), .val (.int i4), .val (.int i5), .val (.int (Int32.ofNat n)), .val (.int (Int32.ofNat cnt)), .val (.int (bi (q16 = true))), .val (.int (bi (q30 = true))), .val (.ref b1), .val (.int (Int32.ofNat (min cnt n))), .unset, .unset] [(.int (Int32.ofNat ((min cnt n) + 1)))])
                    refine Go.step (fun t k => XS.iload X14.here hx rfl (hb hby at_143) rfl k) ?_
                    show Go _ _ _ _ _ _ _ T14 (mkF m 145 #[.val (.int i0), .val (.int i1), .val (.int i2), .val (.int i3), .val (.int i4), .val (.int i5), .val (.int (Int32.ofNat n)), .val (.int (Int32.ofNat cnt)), .val (.int (bi (q16 = true))), .val (.int (bi (q30 = true))), .val (.ref b1), .val (.int (Int32.ofNat (min cnt n))), .unset, .unset] [(.int (Int32.ofNat n)), (.int (Int32.ofNat ((min cnt n) + 1)))])
                    obtain ⟨v16, T16, L16, X16, q16, st16⟩ := c_static X14 hx hZ hown (y := (⟨"java/lang/Math", "min", "(II)I"⟩ : MethodName)) (hw _ (List.mem_of_getElem? (i := 26) rfl)) (hw _ (List.mem_of_getElem? (i := 27) rfl)) (hw _ (List.mem_of_getElem? (i := 28) rfl)) (hw _ (List.mem_of_getElem? (i := 29) rfl)) (by decide) (argsL := [(.int (Int32.ofNat ((min cnt n) + 1))), (.int (Int32.ofNat n))]) (rest := []) (rmMin l Z a0 hw [] (Int32.ofNat ((min cnt n) + 1)) (Int32.ofNat n)  hh116 n0 Z116 ) e14 pd_1 rfl (by rw [hml]; rfl) (W := 0) (by show 2 * 0 + _ ≤ _; exact Nat.le_of_eq rfl) (by decide) (by decide) (by decide) (by decide) (hb hby at_145) (Ls := #[.val (.int i0), .val (.int i1), .val (.int i2), .val (.int i3), .val (.int i4), .val (.int i5), .val (.int (Int32.ofNat n)), .val (.int (Int32.ofNat cnt)), .val (.int (bi (q16 = true))), .val (.int (bi (q30 = true))), .val (.ref b1), .val (.int (Int32.ofNat (min cnt n))), .unset, .unset])
                    obtain ⟨rfl, rfl, e16⟩ := q16
                    have N16 := Fr.app N14 (Fr.nil n0)
                    refine Go.step (st16) ?_
                    show Go _ _ _ _ _ _ _ T16 (mkF m 148 #[.val (.int i0), .val (.int i1), .val (.int i2), .val (.int i3), .val (.int i4), .val (.int i5), .val (.int (Int32.ofNat n)), .val (.int (Int32.ofNat cnt)), .val (.int (bi (q16 = true))), .val (.int (bi (q30 = true))), .val (.ref b1), .val (.int (Int32.ofNat (min cnt n))), .unset, .unset] [(.int (mn (Int32.ofNat ((min cnt n) + 1)) (Int32.ofNat n)))])
                    rw [own_min _ _ (by omega) (by omega)]
                    show Go _ _ _ _ _ _ _ T16 (mkF m 148 #[.val (.int i0), .val (.int i1), .val (.int i2), .val (.int i3), .val (.int i4), .val (.int i5), .val (.int (Int32.ofNat n)), .val (.int (Int32.ofNat cnt)), .val (.int (bi (q16 = true))), .val (.int (bi (q30 = true))), .val (.ref b1), .val (.int (Int32.ofNat (min cnt n))), .unset, .unset] [(.int (Int32.ofNat (min ((min cnt n) + 1) n)))])
                    refine Go.step (fun t k => XS.istore X16.here hx rfl (hb hby at_148) rfl (l' := #[.val (.int i0), .val (.int i1), .val (.int i2), .val (.int i3), .val (.int i4), .val (.int i5), .val (.int (Int32.ofNat n)), .val (.int (Int32.ofNat cnt)), .val (.int (bi (q16 = true))), .val (.int (bi (q30 = true))), .val (.ref b1), .val (.int (Int32.ofNat (min ((min cnt n) + 1) n))), .unset, .unset]) rfl k) ?_
                    show Go _ _ _ _ _ _ _ T16 (mkF m 150 #[.val (.int i0), .val (.int i1), .val (.int i2), .val (.int i3), .val (.int i4), .val (.int i5), .val (.int (Int32.ofNat n)), .val (.int (Int32.ofNat cnt)), .val (.int (bi (q16 = true))), .val (.int (bi (q30 = true))), .val (.ref b1), .val (.int (Int32.ofNat (min ((min cnt n) + 1) n))), .unset, .unset] [])
                    refine Go.step (fun t k => XS.iload X16.here hx rfl (hb hby at_150) rfl k) ?_
                    show Go _ _ _ _ _ _ _ T16 (mkF m 152 #[.val (.int i0), .val (.int i1), .val (.int i2), .val (.int i3), .val (.int i4), .val (.int i5), .val (.int (Int32.ofNat n)), .val (.int (Int32.ofNat cnt)), .val (.int (bi (q16 = true))), .val (.int (bi (q30 = true))), .val (.ref b1), .val (.int (Int32.ofNat (min ((min cnt n) + 1) n))), .unset, .unset] [(.int (Int32.ofNat (min ((min cnt n) + 1) n)))])
                    obtain ⟨q152, hq152⟩ : ∃ q : Bool, q = true ↔ ((Int32.ofNat (min ((min cnt n) + 1) n)) = (0 : Int32)) := ⟨decide ((Int32.ofNat (min ((min cnt n) + 1) n)) = (0 : Int32)), decide_eq_true_iff⟩
                    have j152 : Go p e s below 16 128 (fun v h L => v = some (.int (1 : Int32)) ∧ Fr n0 L) T16 (mkF m 160 #[.val (.int i0), .val (.int i1), .val (.int i2), .val (.int i3), .val (.int i4), .val (.int i5), .val (.int (Int32.ofNat n)), .val (.int (Int32.ofNat cnt)), .val (.int (bi (q16 = true))), .val (.int (bi (q30 = true))), .val (.ref b1), .val (.int (Int32.ofNat (min ((min cnt n) + 1) n))), .unset, .unset] [(.int (bi (q152 = true)))]) := by
                      refine Go.step (fun t k => XS.istore X16.here hx rfl (hb hby at_160) rfl (l' := #[.val (.int i0), .val (.int i1), .val (.int i2), .val (.int i3), .val (.int i4), .val (.int i5), .val (.int (Int32.ofNat n)), .val (.int (Int32.ofNat cnt)), .val (.int (bi (q16 = true))), .val (.int (bi (q30 = true))), .val (.ref b1), .val (.int (Int32.ofNat (min ((min cnt n) + 1) n))), .val (.int (bi (q152 = true))), .unset]) rfl k) ?_
                      show Go _ _ _ _ _ _ _ T16 (mkF m 162 #[.val (.int i0), .val (.int i1), .val (.int i2), .val (.int i3), .val (.int i4), .val (.int i5), .val (.int (Int32.ofNat n)), .val (.int (Int32.ofNat cnt)), .val (.int (bi (q16 = true))), .val (.int (bi (q30 = true))), .val (.ref b1), .val (.int (Int32.ofNat (min ((min cnt n) + 1) n))), .val (.int (bi (q152 = true))), .unset] [])
                      refine Go.step (fun t k => XS.aload X16.here hx rfl (hb hby at_162) rfl rfl k) ?_
                      show Go _ _ _ _ _ _ _ T16 (mkF m 164 #[.val (.int i0), .val (.int i1), .val (.int i2), .val (.int i3), .val (.int i4), .val (.int i5), .val (.int (Int32.ofNat n)), .val (.int (Int32.ofNat cnt)), .val (.int (bi (q16 = true))), .val (.int (bi (q30 = true))), .val (.ref b1), .val (.int (Int32.ofNat (min ((min cnt n) + 1) n))), .val (.int (bi (q152 = true))), .unset] [(.ref b1)])
                      obtain ⟨v17, T17, L17, X17, q17, st17⟩ := c_virt X16 hx hZ hown (y' := (⟨"com/example/bearer/bearer/modem/LineBuffer", "isEmpty", "()Z"⟩ : MethodName)) (y := (⟨"com/example/bearer/bearer/modem/LineBuffer", "isEmpty", "()Z"⟩ : MethodName)) (C := "com/example/bearer/bearer/modem/LineBuffer") (hw _ (List.mem_of_getElem? (i := 30) rfl)) (hw _ (List.mem_of_getElem? (i := 31) rfl)) (notFace_of_selects (args := #[]) (mvT hZ (hw _ (List.mem_of_getElem? (i := 33) rfl)))) (hw _ (List.mem_of_getElem? (i := 33) rfl)) (hw _ (List.mem_of_getElem? (i := 32) rfl)) (hw _ (List.mem_of_getElem? (i := 2) rfl)) (hw _ (List.mem_of_getElem? (i := 34) rfl)) (by decide) (a := b1) (argsL := []) (rest := []) (rmEm l Z a0 hw [] b1 b2 n l116 c116 fn116 hh116 n0 Z116 hn1 hn4 (by omega) f116_0 f116_2 f116_3 f116_4 f116_5 f116_1 ne_b1_b2) e16 f116_0 pd_2 rfl (by rw [hml]; rfl) (W := 0) (by show 2 * 0 + _ ≤ _; exact Nat.le_of_eq rfl) (by decide) (by decide) (by decide) (by decide) (hb hby at_164) (Ls := #[.val (.int i0), .val (.int i1), .val (.int i2), .val (.int i3), .val (.int i4), .val (.int i5), .val (.int (Int32.ofNat n)), .val (.int (Int32.ofNat cnt)), .val (.int (bi (q16 = true))), .val (.int (bi (q30 = true))), .val (.ref b1), .val (.int (Int32.ofNat (min ((min cnt n) + 1) n))), .val (.int (bi (q152 = true))), .unset])
                      obtain ⟨rfl, rfl, e17⟩ := q17
                      have N17 := Fr.app N16 (Fr.nil n0)
                      refine Go.step (st17) ?_
                      show Go _ _ _ _ _ _ _ T17 (mkF m 167 #[.val (.int i0), .val (.int i1), .val (.int i2), .val (.int i3), .val (.int i4), .val (.int i5), .val (.int (Int32.ofNat n)), .val (.int (Int32.ofNat cnt)), .val (.int (bi (q16 = true))), .val (.int (bi (q30 = true))), .val (.ref b1), .val (.int (Int32.ofNat (min ((min cnt n) + 1) n))), .val (.int (bi (q152 = true))), .unset] [(.int (bi ((Int32.ofNat l116) = (0 : Int32))))])
                      refine Go.step (fun t k => XS.istore X17.here hx rfl (hb hby at_167) rfl (l' := #[.val (.int i0), .val (.int i1), .val (.int i2), .val (.int i3), .val (.int i4), .val (.int i5), .val (.int (Int32.ofNat n)), .val (.int (Int32.ofNat cnt)), .val (.int (bi (q16 = true))), .val (.int (bi (q30 = true))), .val (.ref b1), .val (.int (Int32.ofNat (min ((min cnt n) + 1) n))), .val (.int (bi (q152 = true))), .val (.int (bi ((Int32.ofNat l116) = (0 : Int32))))]) rfl k) ?_
                      show Go _ _ _ _ _ _ _ T17 (mkF m 169 #[.val (.int i0), .val (.int i1), .val (.int i2), .val (.int i3), .val (.int i4), .val (.int i5), .val (.int (Int32.ofNat n)), .val (.int (Int32.ofNat cnt)), .val (.int (bi (q16 = true))), .val (.int (bi (q30 = true))), .val (.ref b1), .val (.int (Int32.ofNat (min ((min cnt n) + 1) n))), .val (.int (bi (q152 = true))), .val (.int (bi ((Int32.ofNat l116) = (0 : Int32))))] [])
                      refine Go.step (fun t k => XS.iload X17.here hx rfl (hb hby at_169) rfl k) ?_
                      show Go _ _ _ _ _ _ _ T17 (mkF m 171 #[.val (.int i0), .val (.int i1), .val (.int i2), .val (.int i3), .val (.int i4), .val (.int i5), .val (.int (Int32.ofNat n)), .val (.int (Int32.ofNat cnt)), .val (.int (bi (q16 = true))), .val (.int (bi (q30 = true))), .val (.ref b1), .val (.int (Int32.ofNat (min ((min cnt n) + 1) n))), .val (.int (bi (q152 = true))), .val (.int (bi ((Int32.ofNat l116) = (0 : Int32))))] [(.int (bi ((Int32.ofNat l116) = (0 : Int32))))])
                      refine Go.step (fun t k => XS.iload X17.here hx rfl (hb hby at_171) rfl k) ?_
                      show Go _ _ _ _ _ _ _ T17 (mkF m 173 #[.val (.int i0), .val (.int i1), .val (.int i2), .val (.int i3), .val (.int i4), .val (.int i5), .val (.int (Int32.ofNat n)), .val (.int (Int32.ofNat cnt)), .val (.int (bi (q16 = true))), .val (.int (bi (q30 = true))), .val (.ref b1), .val (.int (Int32.ofNat (min ((min cnt n) + 1) n))), .val (.int (bi (q152 = true))), .val (.int (bi ((Int32.ofNat l116) = (0 : Int32))))] [(.int (bi (q152 = true))), (.int (bi ((Int32.ofNat l116) = (0 : Int32))))])
                      rw [if_pos c136_15, if_neg c118_3] at hl116
                      refine Go.step (fun t k => XS.icmpNo X17.here hx rfl (hb hby at_173) rfl (teq (bi_congr (by rw [hq152]; exact (own_eq l116 0 (by omega) (by omega)).trans (Iff.trans (by omega) (own_eq (min ((min cnt n) + 1) n) 0 (by omega) (by omega)).symm)))).2 k) ?_
                      show Go _ _ _ _ _ _ _ T17 (mkF m 176 #[.val (.int i0), .val (.int i1), .val (.int i2), .val (.int i3), .val (.int i4), .val (.int i5), .val (.int (Int32.ofNat n)), .val (.int (Int32.ofNat cnt)), .val (.int (bi (q16 = true))), .val (.int (bi (q30 = true))), .val (.ref b1), .val (.int (Int32.ofNat (min ((min cnt n) + 1) n))), .val (.int (bi (q152 = true))), .val (.int (bi ((Int32.ofNat l116) = (0 : Int32))))] [])
                      refine Go.step (fun t k => XS.iload X17.here hx rfl (hb hby at_176) rfl k) ?_
                      show Go _ _ _ _ _ _ _ T17 (mkF m 178 #[.val (.int i0), .val (.int i1), .val (.int i2), .val (.int i3), .val (.int i4), .val (.int i5), .val (.int (Int32.ofNat n)), .val (.int (Int32.ofNat cnt)), .val (.int (bi (q16 = true))), .val (.int (bi (q30 = true))), .val (.ref b1), .val (.int (Int32.ofNat (min ((min cnt n) + 1) n))), .val (.int (bi (q152 = true))), .val (.int (bi ((Int32.ofNat l116) = (0 : Int32))))] [(.int (bi ((Int32.ofNat l116) = (0 : Int32))))])
                      refine Go.step (fun t k => XS.aload X17.here hx rfl (hb hby at_178) rfl rfl k) ?_
                      show Go _ _ _ _ _ _ _ T17 (mkF m 180 #[.val (.int i0), .val (.int i1), .val (.int i2), .val (.int i3), .val (.int i4), .val (.int i5), .val (.int (Int32.ofNat n)), .val (.int (Int32.ofNat cnt)), .val (.int (bi (q16 = true))), .val (.int (bi (q30 = true))), .val (.ref b1), .val (.int (Int32.ofNat (min ((min cnt n) + 1) n))), .val (.int (bi (q152 = true))), .val (.int (bi ((Int32.ofNat l116) = (0 : Int32))))] [(.ref b1), (.int (bi ((Int32.ofNat l116) = (0 : Int32))))])
                      obtain ⟨v18, T18, L18, X18, q18, st18⟩ := c_virt X17 hx hZ hown (y' := (⟨"com/example/bearer/bearer/modem/LineBuffer", "length", "()I"⟩ : MethodName)) (y := (⟨"com/example/bearer/bearer/modem/LineBuffer", "length", "()I"⟩ : MethodName)) (C := "com/example/bearer/bearer/modem/LineBuffer") (hw _ (List.mem_of_getElem? (i := 35) rfl)) (hw _ (List.mem_of_getElem? (i := 36) rfl)) (notFace_of_selects (args := #[]) (mvT hZ (hw _ (List.mem_of_getElem? (i := 38) rfl)))) (hw _ (List.mem_of_getElem? (i := 38) rfl)) (hw _ (List.mem_of_getElem? (i := 37) rfl)) (hw _ (List.mem_of_getElem? (i := 2) rfl)) (hw _ (List.mem_of_getElem? (i := 39) rfl)) (by decide) (a := b1) (argsL := []) (rest := [(.int (bi ((Int32.ofNat l116) = (0 : Int32))))]) (rmLn l Z a0 hw [] b1 b2 n l116 c116 fn116 hh116 n0 Z116 hn1 hn4 (by omega) f116_0 f116_2 f116_3 f116_4 f116_5 f116_1 ne_b1_b2) e17 f116_0 pd_3 rfl (by rw [hml]; rfl) (W := 1) (by show 2 * 0 + _ ≤ _; exact Nat.le_of_eq rfl) (by decide) (by decide) (by decide) (by decide) (hb hby at_180) (Ls := #[.val (.int i0), .val (.int i1), .val (.int i2), .val (.int i3), .val (.int i4), .val (.int i5), .val (.int (Int32.ofNat n)), .val (.int (Int32.ofNat cnt)), .val (.int (bi (q16 = true))), .val (.int (bi (q30 = true))), .val (.ref b1), .val (.int (Int32.ofNat (min ((min cnt n) + 1) n))), .val (.int (bi (q152 = true))), .val (.int (bi ((Int32.ofNat l116) = (0 : Int32))))])
                      obtain ⟨rfl, rfl, e18⟩ := q18
                      have N18 := Fr.app N17 (Fr.nil n0)
                      refine Go.step (st18) ?_
                      show Go _ _ _ _ _ _ _ T18 (mkF m 183 #[.val (.int i0), .val (.int i1), .val (.int i2), .val (.int i3), .val (.int i4), .val (.int i5), .val (.int (Int32.ofNat n)), .val (.int (Int32.ofNat cnt)), .val (.int (bi (q16 = true))), .val (.int (bi (q30 = true))), .val (.ref b1), .val (.int (Int32.ofNat (min ((min cnt n) + 1) n))), .val (.int (bi (q152 = true))), .val (.int (bi ((Int32.ofNat l116) = (0 : Int32))))] [(.int (Int32.ofNat l116)), (.int (bi ((Int32.ofNat l116) = (0 : Int32))))])
                      obtain ⟨q183, hq183⟩ : ∃ q : Bool, q = true ↔ ((Int32.ofNat l116) = (0 : Int32)) := ⟨decide ((Int32.ofNat l116) = (0 : Int32)), decide_eq_true_iff⟩
                      have j183 : Go p e s below 16 128 (fun v h L => v = some (.int (1 : Int32)) ∧ Fr n0 L) T18 (mkF m 191 #[.val (.int i0), .val (.int i1), .val (.int i2), .val (.int i3), .val (.int i4), .val (.int i5), .val (.int (Int32.ofNat n)), .val (.int (Int32.ofNat cnt)), .val (.int (bi (q16 = true))), .val (.int (bi (q30 = true))), .val (.ref b1), .val (.int (Int32.ofNat (min ((min cnt n) + 1) n))), .val (.int (bi (q152 = true))), .val (.int (bi ((Int32.ofNat l116) = (0 : Int32))))] [(.int (bi (q183 = true))), (.int (bi ((Int32.ofNat l116) = (0 : Int32))))]) := by
                        refine Go.step (fun t k => XS.icmpNo X18.here hx rfl (hb hby at_191) rfl (teq (bi_congr hq183.symm)).2 k) ?_
                        show Go _ _ _ _ _ _ _ T18 (mkF m 194 #[.val (.int i0), .val (.int i1), .val (.int i2), .val (.int i3), .val (.int i4), .val (.int i5), .val (.int (Int32.ofNat n)), .val (.int (Int32.ofNat cnt)), .val (.int (bi (q16 = true))), .val (.int (bi (q30 = true))), .val (.ref b1), .val (.int (Int32.ofNat (min ((min cnt n) + 1) n))), .val (.int (bi (q152 = true))), .val (.int (bi ((Int32.ofNat l116) = (0 : Int32))))] [])
                        refine Go.step (fun t k => XS.iconst X18.here hx rfl (hb hby at_194) k) ?_
                        show Go _ _ _ _ _ _ _ T18 (mkF m 195 #[.val (.int i0), .val (.int i1), .val (.int i2), .val (.int i3), .val (.int i4), .val (.int i5), .val (.int (Int32.ofNat n)), .val (.int (Int32.ofNat cnt)), .val (.int (bi (q16 = true))), .val (.int (bi (q30 = true))), .val (.ref b1), .val (.int (Int32.ofNat (min ((min cnt n) + 1) n))), .val (.int (bi (q152 = true))), .val (.int (bi ((Int32.ofNat l116) = (0 : Int32))))] [(.int (1 : Int32))])
                        refine Go.step (fun t k => XS.goto X18.here hx rfl (pc0 := 195) (pc' := 199) rfl (hb hby at_195) (by decide) (by decide) k) ?_
                        show Go _ _ _ _ _ _ _ T18 (mkF m 199 #[.val (.int i0), .val (.int i1), .val (.int i2), .val (.int i3), .val (.int i4), .val (.int i5), .val (.int (Int32.ofNat n)), .val (.int (Int32.ofNat cnt)), .val (.int (bi (q16 = true))), .val (.int (bi (q30 = true))), .val (.ref b1), .val (.int (Int32.ofNat (min ((min cnt n) + 1) n))), .val (.int (bi (q152 = true))), .val (.int (bi ((Int32.ofNat l116) = (0 : Int32))))] [(.int (1 : Int32))])
                        refine go_retN X18 hx (t := .boolean) hret (by simp) hlk (hb hby at_199) (w := (1 : Int32)) rfl ?_ (by decide) (by decide)
                        try rw [e18]
                        exact ⟨rfl, N18⟩
                      by_cases c183_19 : (Int32.ofNat l116) = (0 : Int32)
                      · refine Go.step (fun t k => XS.ifNo X18.here hx rfl (hb hby at_183) rfl ((if0 _ _).trans (teq c183_19).2) k) ?_
                        show Go _ _ _ _ _ _ _ T18 (mkF m 186 #[.val (.int i0), .val (.int i1), .val (.int i2), .val (.int i3), .val (.int i4), .val (.int i5), .val (.int (Int32.ofNat n)), .val (.int (Int32.ofNat cnt)), .val (.int (bi (q16 = true))), .val (.int (bi (q30 = true))), .val (.ref b1), .val (.int (Int32.ofNat (min ((min cnt n) + 1) n))), .val (.int (bi (q152 = true))), .val (.int (bi ((Int32.ofNat l116) = (0 : Int32))))] [(.int (bi ((Int32.ofNat l116) = (0 : Int32))))])
                        refine Go.step (fun t k => XS.iconst X18.here hx rfl (hb hby at_186) k) ?_
                        show Go _ _ _ _ _ _ _ T18 (mkF m 187 #[.val (.int i0), .val (.int i1), .val (.int i2), .val (.int i3), .val (.int i4), .val (.int i5), .val (.int (Int32.ofNat n)), .val (.int (Int32.ofNat cnt)), .val (.int (bi (q16 = true))), .val (.int (bi (q30 = true))), .val (.ref b1), .val (.int (Int32.ofNat (min ((min cnt n) + 1) n))), .val (.int (bi (q152 = true))), .val (.int (bi ((Int32.ofNat l116) = (0 : Int32))))] [(.int (1 : Int32)), (.int (bi ((Int32.ofNat l116) = (0 : Int32))))])
                        refine Go.step (fun t k => XS.goto X18.here hx rfl (pc0 := 187) (pc' := 191) rfl (hb hby at_187) (by decide) (by decide) k) ?_
                        show Go _ _ _ _ _ _ _ T18 (mkF m 191 #[.val (.int i0), .val (.int i1), .val (.int i2), .val (.int i3), .val (.int i4), .val (.int i5), .val (.int (Int32.ofNat n)), .val (.int (Int32.ofNat cnt)), .val (.int (bi (q16 = true))), .val (.int (bi (q30 = true))), .val (.ref b1), .val (.int (Int32.ofNat (min ((min cnt n) + 1) n))), .val (.int (bi (q152 = true))), .val (.int (bi ((Int32.ofNat l116) = (0 : Int32))))] [(.int (1 : Int32)), (.int (bi ((Int32.ofNat l116) = (0 : Int32))))])
                        rw [show (bi (q183 = true)) = (1 : Int32) from bi_t (hq183.mpr (by simp only [eq_true c183_19, not_true_eq_false, not_false_eq_true, and_true, true_and, and_false, false_and, or_true, true_or, or_false, false_or, and_self, or_self]))] at j183
                        exact j183
                      · refine Go.step (fun t k => XS.ifYes X18.here hx rfl (pc0 := 183) (pc' := 190) rfl (hb hby at_183) rfl ((if0 _ _).trans (feq c183_19).2) (by decide) (by decide) k) ?_
                        show Go _ _ _ _ _ _ _ T18 (mkF m 190 #[.val (.int i0), .val (.int i1), .val (.int i2), .val (.int i3), .val (.int i4), .val (.int i5), .val (.int (Int32.ofNat n)), .val (.int (Int32.ofNat cnt)), .val (.int (bi (q16 = true))), .val (.int (bi (q30 = true))), .val (.ref b1), .val (.int (Int32.ofNat (min ((min cnt n) + 1) n))), .val (.int (bi (q152 = true))), .val (.int (bi ((Int32.ofNat l116) = (0 : Int32))))] [(.int (bi ((Int32.ofNat l116) = (0 : Int32))))])
                        refine Go.step (fun t k => XS.iconst X18.here hx rfl (hb hby at_190) k) ?_
                        show Go _ _ _ _ _ _ _ T18 (mkF m 191 #[.val (.int i0), .val (.int i1), .val (.int i2), .val (.int i3), .val (.int i4), .val (.int i5), .val (.int (Int32.ofNat n)), .val (.int (Int32.ofNat cnt)), .val (.int (bi (q16 = true))), .val (.int (bi (q30 = true))), .val (.ref b1), .val (.int (Int32.ofNat (min ((min cnt n) + 1) n))), .val (.int (bi (q152 = true))), .val (.int (bi ((Int32.ofNat l116) = (0 : Int32))))] [(.int (0 : Int32)), (.int (bi ((Int32.ofNat l116) = (0 : Int32))))])
                        rw [show (bi (q183 = true)) = (0 : Int32) from bi_f (mt hq183.mp (by simp only [eq_false c183_19, not_true_eq_false, not_false_eq_true, and_true, true_and, and_false, false_and, or_true, true_or, or_false, false_or, and_self, or_self]))] at j183
                        exact j183
                    by_cases c152_20 : (Int32.ofNat (min ((min cnt n) + 1) n)) = (0 : Int32)
                    · refine Go.step (fun t k => XS.ifNo X16.here hx rfl (hb hby at_152) rfl ((if0 _ _).trans (teq c152_20).2) k) ?_
                      show Go _ _ _ _ _ _ _ T16 (mkF m 155 #[.val (.int i0), .val (.int i1), .val (.int i2), .val (.int i3), .val (.int i4), .val (.int i5), .val (.int (Int32.ofNat n)), .val (.int (Int32.ofNat cnt)), .val (.int (bi (q16 = true))), .val (.int (bi (q30 = true))), .val (.ref b1), .val (.int (Int32.ofNat (min ((min cnt n) + 1) n))), .unset, .unset] [])
                      refine Go.step (fun t k => XS.iconst X16.here hx rfl (hb hby at_155) k) ?_
                      show Go _ _ _ _ _ _ _ T16 (mkF m 156 #[.val (.int i0), .val (.int i1), .val (.int i2), .val (.int i3), .val (.int i4), .val (.int i5), .val (.int (Int32.ofNat n)), .val (.int (Int32.ofNat cnt)), .val (.int (bi (q16 = true))), .val (.int (bi (q30 = true))), .val (.ref b1), .val (.int (Int32.ofNat (min ((min cnt n) + 1) n))), .unset, .unset] [(.int (1 : Int32))])
                      refine Go.step (fun t k => XS.goto X16.here hx rfl (pc0 := 156) (pc' := 160) rfl (hb hby at_156) (by decide) (by decide) k) ?_
                      show Go _ _ _ _ _ _ _ T16 (mkF m 160 #[.val (.int i0), .val (.int i1), .val (.int i2), .val (.int i3), .val (.int i4), .val (.int i5), .val (.int (Int32.ofNat n)), .val (.int (Int32.ofNat cnt)), .val (.int (bi (q16 = true))), .val (.int (bi (q30 = true))), .val (.ref b1), .val (.int (Int32.ofNat (min ((min cnt n) + 1) n))), .unset, .unset] [(.int (1 : Int32))])
                      rw [show (bi (q152 = true)) = (1 : Int32) from bi_t (hq152.mpr (by simp only [eq_true c152_20, not_true_eq_false, not_false_eq_true, and_true, true_and, and_false, false_and, or_true, true_or, or_false, false_or, and_self, or_self]))] at j152
                      exact j152
                    · refine Go.step (fun t k => XS.ifYes X16.here hx rfl (pc0 := 152) (pc' := 159) rfl (hb hby at_152) rfl ((if0 _ _).trans (feq c152_20).2) (by decide) (by decide) k) ?_
                      show Go _ _ _ _ _ _ _ T16 (mkF m 159 #[.val (.int i0), .val (.int i1), .val (.int i2), .val (.int i3), .val (.int i4), .val (.int i5), .val (.int (Int32.ofNat n)), .val (.int (Int32.ofNat cnt)), .val (.int (bi (q16 = true))), .val (.int (bi (q30 = true))), .val (.ref b1), .val (.int (Int32.ofNat (min ((min cnt n) + 1) n))), .unset, .unset] [])
                      refine Go.step (fun t k => XS.iconst X16.here hx rfl (hb hby at_159) k) ?_
                      show Go _ _ _ _ _ _ _ T16 (mkF m 160 #[.val (.int i0), .val (.int i1), .val (.int i2), .val (.int i3), .val (.int i4), .val (.int i5), .val (.int (Int32.ofNat n)), .val (.int (Int32.ofNat cnt)), .val (.int (bi (q16 = true))), .val (.int (bi (q30 = true))), .val (.ref b1), .val (.int (Int32.ofNat (min ((min cnt n) + 1) n))), .unset, .unset] [(.int (0 : Int32))])
                      rw [show (bi (q152 = true)) = (0 : Int32) from bi_f (mt hq152.mp (by simp only [eq_false c152_20, not_true_eq_false, not_false_eq_true, and_true, true_and, and_false, false_and, or_true, true_or, or_false, false_or, and_self, or_self]))] at j152
                      exact j152
                  · refine Go.step (fun t k => XS.ifYes X14.here hx rfl (pc0 := 136) (pc' := 150) rfl (hb hby at_136) rfl ((if0 _ _).trans (teq (bi_f c136_15)).1) (by decide) (by decide) k) ?_
                    show Go _ _ _ _ _ _ _ T14 (mkF m 150 #[.val (.int i0), .val (.int i1), .val (.int i2), .val (.int i3), .val (.int i4), .val (.int i5), .val (.int (Int32.ofNat n)), .val (.int (Int32.ofNat cnt)), .val (.int (bi (q16 = true))), .val (.int (bi (q30 = true))), .val (.ref b1), .val (.int (Int32.ofNat (min cnt n))), .unset, .unset] [])
                    refine Go.step (fun t k => XS.iload X14.here hx rfl (hb hby at_150) rfl k) ?_
                    show Go _ _ _ _ _ _ _ T14 (mkF m 152 #[.val (.int i0), .val (.int i1), .val (.int i2), .val (.int i3), .val (.int i4), .val (.int i5), .val (.int (Int32.ofNat n)), .val (.int (Int32.ofNat cnt)), .val (.int (bi (q16 = true))), .val (.int (bi (q30 = true))), .val (.ref b1), .val (.int (Int32.ofNat (min cnt n))), .unset, .unset] [(.int (Int32.ofNat (min cnt n)))])
                    obtain ⟨q152, hq152⟩ : ∃ q : Bool, q = true ↔ ((Int32.ofNat (min cnt n)) = (0 : Int32)) := ⟨decide ((Int32.ofNat (min cnt n)) = (0 : Int32)), decide_eq_true_iff⟩
                    have j152 : Go p e s below 16 128 (fun v h L => v = some (.int (1 : Int32)) ∧ Fr n0 L) T14 (mkF m 160 #[.val (.int i0), .val (.int i1), .val (.int i2), .val (.int i3), .val (.int i4), .val (.int i5), .val (.int (Int32.ofNat n)), .val (.int (Int32.ofNat cnt)), .val (.int (bi (q16 = true))), .val (.int (bi (q30 = true))), .val (.ref b1), .val (.int (Int32.ofNat (min cnt n))), .unset, .unset] [(.int (bi (q152 = true)))]) := by
                      refine Go.step (fun t k => XS.istore X14.here hx rfl (hb hby at_160) rfl (l' := #[.val (.int i0), .val (.int i1), .val (.int i2), .val (.int i3), .val (.int i4), .val (.int i5), .val (.int (Int32.ofNat n)), .val (.int (Int32.ofNat cnt)), .val (.int (bi (q16 = true))), .val (.int (bi (q30 = true))), .val (.ref b1), .val (.int (Int32.ofNat (min cnt n))), .val (.int (bi (q152 = true))), .unset]) rfl k) ?_
                      show Go _ _ _ _ _ _ _ T14 (mkF m 162 #[.val (.int i0), .val (.int i1), .val (.int i2), .val (.int i3), .val (.int i4), .val (.int i5), .val (.int (Int32.ofNat n)), .val (.int (Int32.ofNat cnt)), .val (.int (bi (q16 = true))), .val (.int (bi (q30 = true))), .val (.ref b1), .val (.int (Int32.ofNat (min cnt n))), .val (.int (bi (q152 = true))), .unset] [])
                      refine Go.step (fun t k => XS.aload X14.here hx rfl (hb hby at_162) rfl rfl k) ?_
                      show Go _ _ _ _ _ _ _ T14 (mkF m 164 #[.val (.int i0), .val (.int i1), .val (.int i2), .val (.int i3), .val (.int i4), .val (.int i5), .val (.int (Int32.ofNat n)), .val (.int (Int32.ofNat cnt)), .val (.int (bi (q16 = true))), .val (.int (bi (q30 = true))), .val (.ref b1), .val (.int (Int32.ofNat (min cnt n))), .val (.int (bi (q152 = true))), .unset] [(.ref b1)])
                      obtain ⟨v21, T21, L21, X21, q21, st21⟩ := c_virt X14 hx hZ hown (y' := (⟨"com/example/bearer/bearer/modem/LineBuffer", "isEmpty", "()Z"⟩ : MethodName)) (y := (⟨"com/example/bearer/bearer/modem/LineBuffer", "isEmpty", "()Z"⟩ : MethodName)) (C := "com/example/bearer/bearer/modem/LineBuffer") (hw _ (List.mem_of_getElem? (i := 30) rfl)) (hw _ (List.mem_of_getElem? (i := 31) rfl)) (notFace_of_selects (args := #[]) (mvT hZ (hw _ (List.mem_of_getElem? (i := 33) rfl)))) (hw _ (List.mem_of_getElem? (i := 33) rfl)) (hw _ (List.mem_of_getElem? (i := 32) rfl)) (hw _ (List.mem_of_getElem? (i := 2) rfl)) (hw _ (List.mem_of_getElem? (i := 34) rfl)) (by decide) (a := b1) (argsL := []) (rest := []) (rmEm l Z a0 hw [] b1 b2 n l116 c116 fn116 hh116 n0 Z116 hn1 hn4 (by omega) f116_0 f116_2 f116_3 f116_4 f116_5 f116_1 ne_b1_b2) e14 f116_0 pd_2 rfl (by rw [hml]; rfl) (W := 0) (by show 2 * 0 + _ ≤ _; exact Nat.le_of_eq rfl) (by decide) (by decide) (by decide) (by decide) (hb hby at_164) (Ls := #[.val (.int i0), .val (.int i1), .val (.int i2), .val (.int i3), .val (.int i4), .val (.int i5), .val (.int (Int32.ofNat n)), .val (.int (Int32.ofNat cnt)), .val (.int (bi (q16 = true))), .val (.int (bi (q30 = true))), .val (.ref b1), .val (.int (Int32.ofNat (min cnt n))), .val (.int (bi (q152 = true))), .unset])
                      obtain ⟨rfl, rfl, e21⟩ := q21
                      have N21 := Fr.app N14 (Fr.nil n0)
                      refine Go.step (st21) ?_
                      show Go _ _ _ _ _ _ _ T21 (mkF m 167 #[.val (.int i0), .val (.int i1), .val (.int i2), .val (.int i3), .val (.int i4), .val (.int i5), .val (.int (Int32.ofNat n)), .val (.int (Int32.ofNat cnt)), .val (.int (bi (q16 = true))), .val (.int (bi (q30 = true))), .val (.ref b1), .val (.int (Int32.ofNat (min cnt n))), .val (.int (bi (q152 = true))), .unset] [(.int (bi ((Int32.ofNat l116) = (0 : Int32))))])
                      refine Go.step (fun t k => XS.istore X21.here hx rfl (hb hby at_167) rfl (l' := #[.val (.int i0), .val (.int i1), .val (.int i2), .val (.int i3), .val (.int i4), .val (.int i5), .val (.int (Int32.ofNat n)), .val (.int (Int32.ofNat cnt)), .val (.int (bi (q16 = true))), .val (.int (bi (q30 = true))), .val (.ref b1), .val (.int (Int32.ofNat (min cnt n))), .val (.int (bi (q152 = true))), .val (.int (bi ((Int32.ofNat l116) = (0 : Int32))))]) rfl k) ?_
                      show Go _ _ _ _ _ _ _ T21 (mkF m 169 #[.val (.int i0), .val (.int i1), .val (.int i2), .val (.int i3), .val (.int i4), .val (.int i5), .val (.int (Int32.ofNat n)), .val (.int (Int32.ofNat cnt)), .val (.int (bi (q16 = true))), .val (.int (bi (q30 = true))), .val (.ref b1), .val (.int (Int32.ofNat (min cnt n))), .val (.int (bi (q152 = true))), .val (.int (bi ((Int32.ofNat l116) = (0 : Int32))))] [])
                      refine Go.step (fun t k => XS.iload X21.here hx rfl (hb hby at_169) rfl k) ?_
                      show Go _ _ _ _ _ _ _ T21 (mkF m 171 #[.val (.int i0), .val (.int i1), .val (.int i2), .val (.int i3), .val (.int i4), .val (.int i5), .val (.int (Int32.ofNat n)), .val (.int (Int32.ofNat cnt)), .val (.int (bi (q16 = true))), .val (.int (bi (q30 = true))), .val (.ref b1), .val (.int (Int32.ofNat (min cnt n))), .val (.int (bi (q152 = true))), .val (.int (bi ((Int32.ofNat l116) = (0 : Int32))))] [(.int (bi ((Int32.ofNat l116) = (0 : Int32))))])
                      refine Go.step (fun t k => XS.iload X21.here hx rfl (hb hby at_171) rfl k) ?_
                      show Go _ _ _ _ _ _ _ T21 (mkF m 173 #[.val (.int i0), .val (.int i1), .val (.int i2), .val (.int i3), .val (.int i4), .val (.int i5), .val (.int (Int32.ofNat n)), .val (.int (Int32.ofNat cnt)), .val (.int (bi (q16 = true))), .val (.int (bi (q30 = true))), .val (.ref b1), .val (.int (Int32.ofNat (min cnt n))), .val (.int (bi (q152 = true))), .val (.int (bi ((Int32.ofNat l116) = (0 : Int32))))] [(.int (bi (q152 = true))), (.int (bi ((Int32.ofNat l116) = (0 : Int32))))])
                      rw [if_neg c136_15, if_neg c118_3] at hl116
                      refine Go.step (fun t k => XS.icmpNo X21.here hx rfl (hb hby at_173) rfl (teq (bi_congr (by rw [hq152]; exact (own_eq l116 0 (by omega) (by omega)).trans (Iff.trans (by omega) (own_eq (min cnt n) 0 (by omega) (by omega)).symm)))).2 k) ?_
                      show Go _ _ _ _ _ _ _ T21 (mkF m 176 #[.val (.int i0), .val (.int i1), .val (.int i2), .val (.int i3), .val (.int i4), .val (.int i5), .val (.int (Int32.ofNat n)), .val (.int (Int32.ofNat cnt)), .val (.int (bi (q16 = true))), .val (.int (bi (q30 = true))), .val (.ref b1), .val (.int (Int32.ofNat (min cnt n))), .val (.int (bi (q152 = true))), .val (.int (bi ((Int32.ofNat l116) = (0 : Int32))))] [])
                      refine Go.step (fun t k => XS.iload X21.here hx rfl (hb hby at_176) rfl k) ?_
                      show Go _ _ _ _ _ _ _ T21 (mkF m 178 #[.val (.int i0), .val (.int i1), .val (.int i2), .val (.int i3), .val (.int i4), .val (.int i5), .val (.int (Int32.ofNat n)), .val (.int (Int32.ofNat cnt)), .val (.int (bi (q16 = true))), .val (.int (bi (q30 = true))), .val (.ref b1), .val (.int (Int32.ofNat (min cnt n))), .val (.int (bi (q152 = true))), .val (.int (bi ((Int32.ofNat l116) = (0 : Int32))))] [(.int (bi ((Int32.ofNat l116) = (0 : Int32))))])
                      refine Go.step (fun t k => XS.aload X21.here hx rfl (hb hby at_178) rfl rfl k) ?_
                      show Go _ _ _ _ _ _ _ T21 (mkF m 180 #[.val (.int i0), .val (.int i1), .val (.int i2), .val (.int i3), .val (.int i4), .val (.int i5), .val (.int (Int32.ofNat n)), .val (.int (Int32.ofNat cnt)), .val (.int (bi (q16 = true))), .val (.int (bi (q30 = true))), .val (.ref b1), .val (.int (Int32.ofNat (min cnt n))), .val (.int (bi (q152 = true))), .val (.int (bi ((Int32.ofNat l116) = (0 : Int32))))] [(.ref b1), (.int (bi ((Int32.ofNat l116) = (0 : Int32))))])
                      obtain ⟨v22, T22, L22, X22, q22, st22⟩ := c_virt X21 hx hZ hown (y' := (⟨"com/example/bearer/bearer/modem/LineBuffer", "length", "()I"⟩ : MethodName)) (y := (⟨"com/example/bearer/bearer/modem/LineBuffer", "length", "()I"⟩ : MethodName)) (C := "com/example/bearer/bearer/modem/LineBuffer") (hw _ (List.mem_of_getElem? (i := 35) rfl)) (hw _ (List.mem_of_getElem? (i := 36) rfl)) (notFace_of_selects (args := #[]) (mvT hZ (hw _ (List.mem_of_getElem? (i := 38) rfl)))) (hw _ (List.mem_of_getElem? (i := 38) rfl)) (hw _ (List.mem_of_getElem? (i := 37) rfl)) (hw _ (List.mem_of_getElem? (i := 2) rfl)) (hw _ (List.mem_of_getElem? (i := 39) rfl)) (by decide) (a := b1) (argsL := []) (rest := [(.int (bi ((Int32.ofNat l116) = (0 : Int32))))]) (rmLn l Z a0 hw [] b1 b2 n l116 c116 fn116 hh116 n0 Z116 hn1 hn4 (by omega) f116_0 f116_2 f116_3 f116_4 f116_5 f116_1 ne_b1_b2) e21 f116_0 pd_3 rfl (by rw [hml]; rfl) (W := 1) (by show 2 * 0 + _ ≤ _; exact Nat.le_of_eq rfl) (by decide) (by decide) (by decide) (by decide) (hb hby at_180) (Ls := #[.val (.int i0), .val (.int i1), .val (.int i2), .val (.int i3), .val (.int i4), .val (.int i5), .val (.int (Int32.ofNat n)), .val (.int (Int32.ofNat cnt)), .val (.int (bi (q16 = true))), .val (.int (bi (q30 = true))), .val (.ref b1), .val (.int (Int32.ofNat (min cnt n))), .val (.int (bi (q152 = true))), .val (.int (bi ((Int32.ofNat l116) = (0 : Int32))))])
                      obtain ⟨rfl, rfl, e22⟩ := q22
                      have N22 := Fr.app N21 (Fr.nil n0)
                      refine Go.step (st22) ?_
                      show Go _ _ _ _ _ _ _ T22 (mkF m 183 #[.val (.int i0), .val (.int i1), .val (.int i2), .val (.int i3), .val (.int i4), .val (.int i5), .val (.int (Int32.ofNat n)), .val (.int (Int32.ofNat cnt)), .val (.int (bi (q16 = true))), .val (.int (bi (q30 = true))), .val (.ref b1), .val (.int (Int32.ofNat (min cnt n))), .val (.int (bi (q152 = true))), .val (.int (bi ((Int32.ofNat l116) = (0 : Int32))))] [(.int (Int32.ofNat l116)), (.int (bi ((Int32.ofNat l116) = (0 : Int32))))])
                      obtain ⟨q183, hq183⟩ : ∃ q : Bool, q = true ↔ ((Int32.ofNat l116) = (0 : Int32)) := ⟨decide ((Int32.ofNat l116) = (0 : Int32)), decide_eq_true_iff⟩
                      have j183 : Go p e s below 16 128 (fun v h L => v = some (.int (1 : Int32)) ∧ Fr n0 L) T22 (mkF m 191 #[.val (.int i0), .val (.int i1), .val (.int i2), .val (.int i3), .val (.int i4), .val (.int i5), .val (.int (Int32.ofNat n)), .val (.int (Int32.ofNat cnt)), .val (.int (bi (q16 = true))), .val (.int (bi (q30 = true))), .val (.ref b1), .val (.int (Int32.ofNat (min cnt n))), .val (.int (bi (q152 = true))), .val (.int (bi ((Int32.ofNat l116) = (0 : Int32))))] [(.int (bi (q183 = true))), (.int (bi ((Int32.ofNat l116) = (0 : Int32))))]) := by
                        refine Go.step (fun t k => XS.icmpNo X22.here hx rfl (hb hby at_191) rfl (teq (bi_congr hq183.symm)).2 k) ?_
                        show Go _ _ _ _ _ _ _ T22 (mkF m 194 #[.val (.int i0), .val (.int i1), .val (.int i2), .val (.int i3), .val (.int i4), .val (.int i5), .val (.int (Int32.ofNat n)), .val (.int (Int32.ofNat cnt)), .val (.int (bi (q16 = true))), .val (.int (bi (q30 = true))), .val (.ref b1), .val (.int (Int32.ofNat (min cnt n))), .val (.int (bi (q152 = true))), .val (.int (bi ((Int32.ofNat l116) = (0 : Int32))))] [])
                        refine Go.step (fun t k => XS.iconst X22.here hx rfl (hb hby at_194) k) ?_
                        show Go _ _ _ _ _ _ _ T22 (mkF m 195 #[.val (.int i0), .val (.int i1), .val (.int i2), .val (.int i3), .val (.int i4), .val (.int i5), .val (.int (Int32.ofNat n)), .val (.int (Int32.ofNat cnt)), .val (.int (bi (q16 = true))), .val (.int (bi (q30 = true))), .val (.ref b1), .val (.int (Int32.ofNat (min cnt n))), .val (.int (bi (q152 = true))), .val (.int (bi ((Int32.ofNat l116) = (0 : Int32))))] [(.int (1 : Int32))])
                        refine Go.step (fun t k => XS.goto X22.here hx rfl (pc0 := 195) (pc' := 199) rfl (hb hby at_195) (by decide) (by decide) k) ?_
                        show Go _ _ _ _ _ _ _ T22 (mkF m 199 #[.val (.int i0), .val (.int i1), .val (.int i2), .val (.int i3), .val (.int i4), .val (.int i5), .val (.int (Int32.ofNat n)), .val (.int (Int32.ofNat cnt)), .val (.int (bi (q16 = true))), .val (.int (bi (q30 = true))), .val (.ref b1), .val (.int (Int32.ofNat (min cnt n))), .val (.int (bi (q152 = true))), .val (.int (bi ((Int32.ofNat l116) = (0 : Int32))))] [(.int (1 : Int32))])
                        refine go_retN X22 hx (t := .boolean) hret (by simp) hlk (hb hby at_199) (w := (1 : Int32)) rfl ?_ (by decide) (by decide)
                        try rw [e22]
                        exact ⟨rfl, N22⟩
                      by_cases c183_23 : (Int32.ofNat l116) = (0 : Int32)
                      · refine Go.step (fun t k => XS.ifNo X22.here hx rfl (hb hby at_183) rfl ((if0 _ _).trans (teq c183_23).2) k) ?_
                        show Go _ _ _ _ _ _ _ T22 (mkF m 186 #[.val (.int i0), .val (.int i1), .val (.int i2), .val (.int i3), .val (.int i4), .val (.int i5), .val (.int (Int32.ofNat n)), .val (.int (Int32.ofNat cnt)), .val (.int (bi (q16 = true))), .val (.int (bi (q30 = true))), .val (.ref b1), .val (.int (Int32.ofNat (min cnt n))), .val (.int (bi (q152 = true))), .val (.int (bi ((Int32.ofNat l116) = (0 : Int32))))] [(.int (bi ((Int32.ofNat l116) = (0 : Int32))))])
                        refine Go.step (fun t k => XS.iconst X22.here hx rfl (hb hby at_186) k) ?_
                        show Go _ _ _ _ _ _ _ T22 (mkF m 187 #[.val (.int i0), .val (.int i1), .val (.int i2), .val (.int i3), .val (.int i4), .val (.int i5), .val (.int (Int32.ofNat n)), .val (.int (Int32.ofNat cnt)), .val (.int (bi (q16 = true))), .val (.int (bi (q30 = true))), .val (.ref b1), .val (.int (Int32.ofNat (min cnt n))), .val (.int (bi (q152 = true))), .val (.int (bi ((Int32.ofNat l116) = (0 : Int32))))] [(.int (1 : Int32)), (.int (bi ((Int32.ofNat l116) = (0 : Int32))))])
                        refine Go.step (fun t k => XS.goto X22.here hx rfl (pc0 := 187) (pc' := 191) rfl (hb hby at_187) (by decide) (by decide) k) ?_
                        show Go _ _ _ _ _ _ _ T22 (mkF m 191 #[.val (.int i0), .val (.int i1), .val (.int i2), .val (.int i3), .val (.int i4), .val (.int i5), .val (.int (Int32.ofNat n)), .val (.int (Int32.ofNat cnt)), .val (.int (bi (q16 = true))), .val (.int (bi (q30 = true))), .val (.ref b1), .val (.int (Int32.ofNat (min cnt n))), .val (.int (bi (q152 = true))), .val (.int (bi ((Int32.ofNat l116) = (0 : Int32))))] [(.int (1 : Int32)), (.int (bi ((Int32.ofNat l116) = (0 : Int32))))])
                        rw [show (bi (q183 = true)) = (1 : Int32) from bi_t (hq183.mpr (by simp only [eq_true c183_23, not_true_eq_false, not_false_eq_true, and_true, true_and, and_false, false_and, or_true, true_or, or_false, false_or, and_self, or_self]))] at j183
                        exact j183
                      · refine Go.step (fun t k => XS.ifYes X22.here hx rfl (pc0 := 183) (pc' := 190) rfl (hb hby at_183) rfl ((if0 _ _).trans (feq c183_23).2) (by decide) (by decide) k) ?_
                        show Go _ _ _ _ _ _ _ T22 (mkF m 190 #[.val (.int i0), .val (.int i1), .val (.int i2), .val (.int i3), .val (.int i4), .val (.int i5), .val (.int (Int32.ofNat n)), .val (.int (Int32.ofNat cnt)), .val (.int (bi (q16 = true))), .val (.int (bi (q30 = true))), .val (.ref b1), .val (.int (Int32.ofNat (min cnt n))), .val (.int (bi (q152 = true))), .val (.int (bi ((Int32.ofNat l116) = (0 : Int32))))] [(.int (bi ((Int32.ofNat l116) = (0 : Int32))))])
                        refine Go.step (fun t k => XS.iconst X22.here hx rfl (hb hby at_190) k) ?_
                        show Go _ _ _ _ _ _ _ T22 (mkF m 191 #[.val (.int i0), .val (.int i1), .val (.int i2), .val (.int i3), .val (.int i4), .val (.int i5), .val (.int (Int32.ofNat n)), .val (.int (Int32.ofNat cnt)), .val (.int (bi (q16 = true))), .val (.int (bi (q30 = true))), .val (.ref b1), .val (.int (Int32.ofNat (min cnt n))), .val (.int (bi (q152 = true))), .val (.int (bi ((Int32.ofNat l116) = (0 : Int32))))] [(.int (0 : Int32)), (.int (bi ((Int32.ofNat l116) = (0 : Int32))))])
                        rw [show (bi (q183 = true)) = (0 : Int32) from bi_f (mt hq183.mp (by simp only [eq_false c183_23, not_true_eq_false, not_false_eq_true, and_true, true_and, and_false, false_and, or_true, true_or, or_false, false_or, and_self, or_self]))] at j183
                        exact j183
                    by_cases c152_24 : (Int32.ofNat (min cnt n)) = (0 : Int32)
                    · refine Go.step (fun t k => XS.ifNo X14.here hx rfl (hb hby at_152) rfl ((if0 _ _).trans (teq c152_24).2) k) ?_
                      show Go _ _ _ _ _ _ _ T14 (mkF m 155 #[.val (.int i0), .val (.int i1), .val (.int i2), .val (.int i3), .val (.int i4), .val (.int i5), .val (.int (Int32.ofNat n)), .val (.int (Int32.ofNat cnt)), .val (.int (bi (q16 = true))), .val (.int (bi (q30 = true))), .val (.ref b1), .val (.int (Int32.ofNat (min cnt n))), .unset, .unset] [])
                      refine Go.step (fun t k => XS.iconst X14.here hx rfl (hb hby at_155) k) ?_
                      show Go _ _ _ _ _ _ _ T14 (mkF m 156 #[.val (.int i0), .val (.int i1), .val (.int i2), .val (.int i3), .val (.int i4), .val (.int i5), .val (.int (Int32.ofNat n)), .val (.int (Int32.ofNat cnt)), .val (.int (bi (q16 = true))), .val (.int (bi (q30 = true))), .val (.ref b1), .val (.int (Int32.ofNat (min cnt n))), .unset, .unset] [(.int (1 : Int32))])
                      refine Go.step (fun t k => XS.goto X14.here hx rfl (pc0 := 156) (pc' := 160) rfl (hb hby at_156) (by decide) (by decide) k) ?_
                      show Go _ _ _ _ _ _ _ T14 (mkF m 160 #[.val (.int i0), .val (.int i1), .val (.int i2), .val (.int i3), .val (.int i4), .val (.int i5), .val (.int (Int32.ofNat n)), .val (.int (Int32.ofNat cnt)), .val (.int (bi (q16 = true))), .val (.int (bi (q30 = true))), .val (.ref b1), .val (.int (Int32.ofNat (min cnt n))), .unset, .unset] [(.int (1 : Int32))])
                      rw [show (bi (q152 = true)) = (1 : Int32) from bi_t (hq152.mpr (by simp only [eq_true c152_24, not_true_eq_false, not_false_eq_true, and_true, true_and, and_false, false_and, or_true, true_or, or_false, false_or, and_self, or_self]))] at j152
                      exact j152
                    · refine Go.step (fun t k => XS.ifYes X14.here hx rfl (pc0 := 152) (pc' := 159) rfl (hb hby at_152) rfl ((if0 _ _).trans (feq c152_24).2) (by decide) (by decide) k) ?_
                      show Go _ _ _ _ _ _ _ T14 (mkF m 159 #[.val (.int i0), .val (.int i1), .val (.int i2), .val (.int i3), .val (.int i4), .val (.int i5), .val (.int (Int32.ofNat n)), .val (.int (Int32.ofNat cnt)), .val (.int (bi (q16 = true))), .val (.int (bi (q30 = true))), .val (.ref b1), .val (.int (Int32.ofNat (min cnt n))), .unset, .unset] [])
                      refine Go.step (fun t k => XS.iconst X14.here hx rfl (hb hby at_159) k) ?_
                      show Go _ _ _ _ _ _ _ T14 (mkF m 160 #[.val (.int i0), .val (.int i1), .val (.int i2), .val (.int i3), .val (.int i4), .val (.int i5), .val (.int (Int32.ofNat n)), .val (.int (Int32.ofNat cnt)), .val (.int (bi (q16 = true))), .val (.int (bi (q30 = true))), .val (.ref b1), .val (.int (Int32.ofNat (min cnt n))), .unset, .unset] [(.int (0 : Int32))])
                      rw [show (bi (q152 = true)) = (0 : Int32) from bi_f (mt hq152.mp (by simp only [eq_false c152_24, not_true_eq_false, not_false_eq_true, and_true, true_and, and_false, false_and, or_true, true_or, or_false, false_or, and_self, or_self]))] at j152
                      exact j152
              by_cases c105_25 : q30 = true
              · refine Go.step (fun t k => XS.ifNo X103.here hx rfl (hb hby at_105) rfl ((if0 _ _).trans (feq (bi_n c105_25)).1) k) ?_
                show Go _ _ _ _ _ _ _ T103 (mkF m 108 #[.val (.int i0), .val (.int i1), .val (.int i2), .val (.int i3), .val (.int i4), .val (.int i5), .val (.int (Int32.ofNat n)), .val (.int (Int32.ofNat cnt)), .val (.int (bi (q16 = true))), .val (.int (bi (q30 = true))), .val (.ref b1), .unset, .unset, .unset] [])
                by_cases hlt108 : l103 < n
                · show Go _ _ _ _ _ _ _ T103 (mkF m 108 #[.val (.int i0), .val (.int i1), .val (.int i2), .val (.int i3), .val (.int i4), .val (.int i5), .val (.int (Int32.ofNat n)), .val (.int (Int32.ofNat cnt)), .val (.int (bi (q16 = true))), .val (.int (bi (q30 = true))), .val (.ref b1), .unset, .unset, .unset] [])
                  refine Go.step (fun t k => XS.aload X103.here hx rfl (hb hby at_108) rfl rfl k) ?_
                  show Go _ _ _ _ _ _ _ T103 (mkF m 110 #[.val (.int i0), .val (.int i1), .val (.int i2), .val (.int i3), .val (.int i4), .val (.int i5), .val (.int (Int32.ofNat n)), .val (.int (Int32.ofNat cnt)), .val (.int (bi (q16 = true))), .val (.int (bi (q30 = true))), .val (.ref b1), .unset, .unset, .unset] [(.ref b1)])
                  refine Go.step (fun t k => XS.iloadN X103.here hx rfl (hb hby at_110) rfl k) ?_
                  show Go _ _ _ _ _ _ _ T103 (mkF m 111 #[.val (.int i0), .val (.int i1), .val (.int i2), .val (.int i3), .val (.int i4), .val (.int i5), .val (.int (Int32.ofNat n)), .val (.int (Int32.ofNat cnt)), .val (.int (bi (q16 = true))), .val (.int (bi (q30 = true))), .val (.ref b1), .unset, .unset, .unset] [(.int i2), (.ref b1)])
                  refine Go.step (fun t k => XS.i2b X103.here hx rfl (hb hby at_111) rfl k) ?_
                  show Go _ _ _ _ _ _ _ T103 (mkF m 112 #[.val (.int i0), .val (.int i1), .val (.int i2), .val (.int i3), .val (.int i4), .val (.int i5), .val (.int (Int32.ofNat n)), .val (.int (Int32.ofNat cnt)), .val (.int (bi (q16 = true))), .val (.int (bi (q30 = true))), .val (.ref b1), .unset, .unset, .unset] [(.int (i2.toInt8.toInt32)), (.ref b1)])
                  obtain ⟨v26, T26, L26, X26, q26, st26⟩ := c_virt X103 hx hZ hown (y' := (⟨"com/example/bearer/bearer/modem/LineBuffer", "add", "(B)Z"⟩ : MethodName)) (y := (⟨"com/example/bearer/bearer/modem/LineBuffer", "add", "(B)Z"⟩ : MethodName)) (C := "com/example/bearer/bearer/modem/LineBuffer") (hw _ (List.mem_of_getElem? (i := 12) rfl)) (hw _ (List.mem_of_getElem? (i := 13) rfl)) (notFace_of_selects (args := #[]) (mvT hZ (hw _ (List.mem_of_getElem? (i := 15) rfl)))) (hw _ (List.mem_of_getElem? (i := 15) rfl)) (hw _ (List.mem_of_getElem? (i := 14) rfl)) (hw _ (List.mem_of_getElem? (i := 2) rfl)) (hw _ (List.mem_of_getElem? (i := 16) rfl)) (by decide) (a := b1) (argsL := [(.int (i2.toInt8.toInt32))]) (rest := []) (rmY l Z a0 hw [] b1 b2 n l103 c103 fn103 (i2.toInt8.toInt32) hh103 n0 Z103 hn1 hn4 (by omega) f103_0 f103_2 f103_3 f103_4 f103_5 f103_1 ne_b1_b2 gn_b1 gn_b2 hlt108) e103 f103_0 pd_4 rfl (by rw [hml]; rfl) (W := 0) (by show 2 * 0 + _ ≤ _; exact Nat.le_of_eq rfl) (by decide) (by decide) (by decide) (by decide) (hb hby at_112) (Ls := #[.val (.int i0), .val (.int i1), .val (.int i2), .val (.int i3), .val (.int i4), .val (.int i5), .val (.int (Int32.ofNat n)), .val (.int (Int32.ofNat cnt)), .val (.int (bi (q16 = true))), .val (.int (bi (q30 = true))), .val (.ref b1), .unset, .unset, .unset])
                  generalize e26 : T26.heap = h26 at q26
                  obtain ⟨rfl, N26q, K26q, E26q, E26k, F26q0, F26q1, F26q2, V26k⟩ := q26
                  have N26 := Fr.app N103 N26q
                  have Z26 : n0 ≤ h26.size := Nat.le_trans Z103 K26q.1
                  refine Go.step (st26) ?_
                  show Go _ _ _ _ _ _ _ T26 (mkF m 115 #[.val (.int i0), .val (.int i1), .val (.int i2), .val (.int i3), .val (.int i4), .val (.int i5), .val (.int (Int32.ofNat n)), .val (.int (Int32.ofNat cnt)), .val (.int (bi (q16 = true))), .val (.int (bi (q30 = true))), .val (.ref b1), .unset, .unset, .unset] [(.int (0 : Int32))])
                  refine Go.step (fun t k => XS.pop X26.here hx rfl (hb hby at_115) rfl rfl k) ?_
                  show Go _ _ _ _ _ _ _ T26 (mkF m 116 #[.val (.int i0), .val (.int i1), .val (.int i2), .val (.int i3), .val (.int i4), .val (.int i5), .val (.int (Int32.ofNat n)), .val (.int (Int32.ofNat cnt)), .val (.int (bi (q16 = true))), .val (.int (bi (q30 = true))), .val (.ref b1), .unset, .unset, .unset] [])
                  exact k116 (l103 + 1) c103 (upd fn103 l103 (.int (nar .byte (i2.toInt8.toInt32)))) _ _ _ (X26.more (by decide) (by decide)) e26 N26 Z26 E26q E26k F26q0 F26q1 F26q2 V26k (by rw [if_pos c105_25]; omega) (by omega)
                · show Go _ _ _ _ _ _ _ T103 (mkF m 108 #[.val (.int i0), .val (.int i1), .val (.int i2), .val (.int i3), .val (.int i4), .val (.int i5), .val (.int (Int32.ofNat n)), .val (.int (Int32.ofNat cnt)), .val (.int (bi (q16 = true))), .val (.int (bi (q30 = true))), .val (.ref b1), .unset, .unset, .unset] [])
                  refine Go.step (fun t k => XS.aload X103.here hx rfl (hb hby at_108) rfl rfl k) ?_
                  show Go _ _ _ _ _ _ _ T103 (mkF m 110 #[.val (.int i0), .val (.int i1), .val (.int i2), .val (.int i3), .val (.int i4), .val (.int i5), .val (.int (Int32.ofNat n)), .val (.int (Int32.ofNat cnt)), .val (.int (bi (q16 = true))), .val (.int (bi (q30 = true))), .val (.ref b1), .unset, .unset, .unset] [(.ref b1)])
                  refine Go.step (fun t k => XS.iloadN X103.here hx rfl (hb hby at_110) rfl k) ?_
                  show Go _ _ _ _ _ _ _ T103 (mkF m 111 #[.val (.int i0), .val (.int i1), .val (.int i2), .val (.int i3), .val (.int i4), .val (.int i5), .val (.int (Int32.ofNat n)), .val (.int (Int32.ofNat cnt)), .val (.int (bi (q16 = true))), .val (.int (bi (q30 = true))), .val (.ref b1), .unset, .unset, .unset] [(.int i2), (.ref b1)])
                  refine Go.step (fun t k => XS.i2b X103.here hx rfl (hb hby at_111) rfl k) ?_
                  show Go _ _ _ _ _ _ _ T103 (mkF m 112 #[.val (.int i0), .val (.int i1), .val (.int i2), .val (.int i3), .val (.int i4), .val (.int i5), .val (.int (Int32.ofNat n)), .val (.int (Int32.ofNat cnt)), .val (.int (bi (q16 = true))), .val (.int (bi (q30 = true))), .val (.ref b1), .unset, .unset, .unset] [(.int (i2.toInt8.toInt32)), (.ref b1)])
                  obtain ⟨v27, T27, L27, X27, q27, st27⟩ := c_virt X103 hx hZ hown (y' := (⟨"com/example/bearer/bearer/modem/LineBuffer", "add", "(B)Z"⟩ : MethodName)) (y := (⟨"com/example/bearer/bearer/modem/LineBuffer", "add", "(B)Z"⟩ : MethodName)) (C := "com/example/bearer/bearer/modem/LineBuffer") (hw _ (List.mem_of_getElem? (i := 12) rfl)) (hw _ (List.mem_of_getElem? (i := 13) rfl)) (notFace_of_selects (args := #[]) (mvT hZ (hw _ (List.mem_of_getElem? (i := 15) rfl)))) (hw _ (List.mem_of_getElem? (i := 15) rfl)) (hw _ (List.mem_of_getElem? (i := 14) rfl)) (hw _ (List.mem_of_getElem? (i := 2) rfl)) (hw _ (List.mem_of_getElem? (i := 16) rfl)) (by decide) (a := b1) (argsL := [(.int (i2.toInt8.toInt32))]) (rest := []) (rmF l Z a0 hw [] b1 b2 n l103 c103 fn103 (i2.toInt8.toInt32) hh103 n0 Z103 hn1 hn4 (by omega) f103_0 f103_2 f103_3 f103_4 f103_5 f103_1 ne_b1_b2 gn_b1 gn_b2 hlt108) e103 f103_0 pd_4 rfl (by rw [hml]; rfl) (W := 0) (by show 2 * 0 + _ ≤ _; exact Nat.le_of_eq rfl) (by decide) (by decide) (by decide) (by decide) (hb hby at_112) (Ls := #[.val (.int i0), .val (.int i1), .val (.int i2), .val (.int i3), .val (.int i4), .val (.int i5), .val (.int (Int32.ofNat n)), .val (.int (Int32.ofNat cnt)), .val (.int (bi (q16 = true))), .val (.int (bi (q30 = true))), .val (.ref b1), .unset, .unset, .unset])
                  generalize e27 : T27.heap = h27 at q27
                  obtain ⟨rfl, N27q, K27q, E27q, E27k, F27q0, F27q1, F27q2, V27k⟩ := q27
                  have N27 := Fr.app N103 N27q
                  have Z27 : n0 ≤ h27.size := Nat.le_trans Z103 K27q.1
                  refine Go.step (st27) ?_
                  show Go _ _ _ _ _ _ _ T27 (mkF m 115 #[.val (.int i0), .val (.int i1), .val (.int i2), .val (.int i3), .val (.int i4), .val (.int i5), .val (.int (Int32.ofNat n)), .val (.int (Int32.ofNat cnt)), .val (.int (bi (q16 = true))), .val (.int (bi (q30 = true))), .val (.ref b1), .unset, .unset, .unset] [(.int (bi (¬ (c103 = true))))])
                  refine Go.step (fun t k => XS.pop X27.here hx rfl (hb hby at_115) rfl rfl k) ?_
                  show Go _ _ _ _ _ _ _ T27 (mkF m 116 #[.val (.int i0), .val (.int i1), .val (.int i2), .val (.int i3), .val (.int i4), .val (.int i5), .val (.int (Int32.ofNat n)), .val (.int (Int32.ofNat cnt)), .val (.int (bi (q16 = true))), .val (.int (bi (q30 = true))), .val (.ref b1), .unset, .unset, .unset] [])
                  exact k116 l103 true fn103 _ _ _ (X27.more (by decide) (by decide)) e27 N27 Z27 E27q E27k F27q0 F27q1 F27q2 V27k (by rw [if_pos c105_25]; omega) (by omega)
              · refine Go.step (fun t k => XS.ifYes X103.here hx rfl (pc0 := 105) (pc' := 116) rfl (hb hby at_105) rfl ((if0 _ _).trans (teq (bi_f c105_25)).1) (by decide) (by decide) k) ?_
                show Go _ _ _ _ _ _ _ T103 (mkF m 116 #[.val (.int i0), .val (.int i1), .val (.int i2), .val (.int i3), .val (.int i4), .val (.int i5), .val (.int (Int32.ofNat n)), .val (.int (Int32.ofNat cnt)), .val (.int (bi (q16 = true))), .val (.int (bi (q30 = true))), .val (.ref b1), .unset, .unset, .unset] [])
                exact k116 l103 c103 fn103 _ _ _ (X103.more (by decide) (by decide)) e103 N103 Z103 f103_0 f103_1 f103_2 f103_3 f103_4 f103_5 (by rw [if_neg c105_25]; exact hl103) (by omega)
            by_cases c95_28 : q16 = true
            · refine Go.step (fun t k => XS.ifNo X93.here hx rfl (hb hby at_95) rfl ((if0 _ _).trans (feq (bi_n c95_28)).1) k) ?_
              show Go _ _ _ _ _ _ _ T93 (mkF m 98 #[.val (.int i0), .val (.int i1), .val (.int i2), .val (.int i3), .val (.int i4), .val (.int i5), .val (.int (Int32.ofNat n)), .val (.int (Int32.ofNat cnt)), .val (.int (bi (q16 = true))), .val (.int (bi (q30 = true))), .val (.ref b1), .unset, .unset, .unset] [])
              refine Go.step (fun t k => XS.aload X93.here hx rfl (hb hby at_98) rfl rfl k) ?_
              show Go _ _ _ _ _ _ _ T93 (mkF m 100 #[.val (.int i0), .val (.int i1), .val (.int i2), .val (.int i3), .val (.int i4), .val (.int i5), .val (.int (Int32.ofNat n)), .val (.int (Int32.ofNat cnt)), .val (.int (bi (q16 = true))), .val (.int (bi (q30 = true))), .val (.ref b1), .unset, .unset, .unset] [(.ref b1)])
              obtain ⟨v29, T29, L29, X29, q29, st29⟩ := c_virt X93 hx hZ hown (y' := (⟨"com/example/bearer/bearer/modem/LineBuffer", "clear", "()V"⟩ : MethodName)) (y := (⟨"com/example/bearer/bearer/modem/LineBuffer", "clear", "()V"⟩ : MethodName)) (C := "com/example/bearer/bearer/modem/LineBuffer") (hw _ (List.mem_of_getElem? (i := 21) rfl)) (hw _ (List.mem_of_getElem? (i := 22) rfl)) (notFace_of_selects (args := #[]) (mvT hZ (hw _ (List.mem_of_getElem? (i := 24) rfl)))) (hw _ (List.mem_of_getElem? (i := 24) rfl)) (hw _ (List.mem_of_getElem? (i := 23) rfl)) (hw _ (List.mem_of_getElem? (i := 2) rfl)) (hw _ (List.mem_of_getElem? (i := 25) rfl)) (by decide) (a := b1) (argsL := []) (rest := []) (rmCl l Z a0 hw [] b1 b2 n l93 c93 fn93 hh93 n0 Z93 hn1 hn4 (by omega) f93_0 f93_2 f93_3 f93_4 f93_5 f93_1 ne_b1_b2 gn_b1 gn_b2) e93 f93_0 pd_5 rfl (by rw [hml]; rfl) (W := 0) (by show 2 * 0 + _ ≤ _; exact Nat.le_of_eq rfl) (by decide) (by decide) (by decide) (by decide) (hb hby at_100) (Ls := #[.val (.int i0), .val (.int i1), .val (.int i2), .val (.int i3), .val (.int i4), .val (.int i5), .val (.int (Int32.ofNat n)), .val (.int (Int32.ofNat cnt)), .val (.int (bi (q16 = true))), .val (.int (bi (q30 = true))), .val (.ref b1), .unset, .unset, .unset])
              generalize e29 : T29.heap = h29 at q29
              obtain ⟨rfl, N29q, K29q, E29q, E29k, F29q0, F29q1, F29q2, V29k⟩ := q29
              have N29 := Fr.app N93 N29q
              have Z29 : n0 ≤ h29.size := Nat.le_trans Z93 K29q.1
              refine Go.step (st29) ?_
              show Go _ _ _ _ _ _ _ T29 (mkF m 103 #[.val (.int i0), .val (.int i1), .val (.int i2), .val (.int i3), .val (.int i4), .val (.int i5), .val (.int (Int32.ofNat n)), .val (.int (Int32.ofNat cnt)), .val (.int (bi (q16 = true))), .val (.int (bi (q30 = true))), .val (.ref b1), .unset, .unset, .unset] [])
              exact k103 0 false fn93 _ _ _ (X29.more (by decide) (by decide)) e29 N29 Z29 E29q E29k F29q0 F29q1 F29q2 V29k (by rw [if_pos c95_28]) (by omega)
            · refine Go.step (fun t k => XS.ifYes X93.here hx rfl (pc0 := 95) (pc' := 103) rfl (hb hby at_95) rfl ((if0 _ _).trans (teq (bi_f c95_28)).1) (by decide) (by decide) k) ?_
              show Go _ _ _ _ _ _ _ T93 (mkF m 103 #[.val (.int i0), .val (.int i1), .val (.int i2), .val (.int i3), .val (.int i4), .val (.int i5), .val (.int (Int32.ofNat n)), .val (.int (Int32.ofNat cnt)), .val (.int (bi (q16 = true))), .val (.int (bi (q30 = true))), .val (.ref b1), .unset, .unset, .unset] [])
              exact k103 l93 c93 fn93 _ _ _ (X93.more (by decide) (by decide)) e93 N93 Z93 f93_0 f93_1 f93_2 f93_3 f93_4 f93_5 (by rw [if_neg c95_28]; omega) (by omega)
          by_cases c81_30 : (2 : Int32) < (Int32.ofNat cnt)
          · refine Go.step (fun t k => XS.icmpNo X78.here hx rfl (hb hby at_81) rfl (tlt c81_30).2.2.2 k) ?_
            show Go _ _ _ _ _ _ _ T78 (mkF m 84 #[.val (.int i0), .val (.int i1), .val (.int i2), .val (.int i3), .val (.int i4), .val (.int i5), .val (.int (Int32.ofNat n)), .val (.int (Int32.ofNat cnt)), .val (.int (bi (q16 = true))), .val (.int (bi (q30 = true))), .val (.ref b1), .unset, .unset, .unset] [])
            by_cases hlt84 : l78 < n
            · show Go _ _ _ _ _ _ _ T78 (mkF m 84 #[.val (.int i0), .val (.int i1), .val (.int i2), .val (.int i3), .val (.int i4), .val (.int i5), .val (.int (Int32.ofNat n)), .val (.int (Int32.ofNat cnt)), .val (.int (bi (q16 = true))), .val (.int (bi (q30 = true))), .val (.ref b1), .unset, .unset, .unset] [])
              refine Go.step (fun t k => XS.aload X78.here hx rfl (hb hby at_84) rfl rfl k) ?_
              show Go _ _ _ _ _ _ _ T78 (mkF m 86 #[.val (.int i0), .val (.int i1), .val (.int i2), .val (.int i3), .val (.int i4), .val (.int i5), .val (.int (Int32.ofNat n)), .val (.int (Int32.ofNat cnt)), .val (.int (bi (q16 = true))), .val (.int (bi (q30 = true))), .val (.ref b1), .unset, .unset, .unset] [(.ref b1)])
              refine Go.step (fun t k => XS.iload X78.here hx rfl (hb hby at_86) rfl k) ?_
              show Go _ _ _ _ _ _ _ T78 (mkF m 88 #[.val (.int i0), .val (.int i1), .val (.int i2), .val (.int i3), .val (.int i4), .val (.int i5), .val (.int (Int32.ofNat n)), .val (.int (Int32.ofNat cnt)), .val (.int (bi (q16 = true))), .val (.int (bi (q30 = true))), .val (.ref b1), .unset, .unset, .unset] [(.int i4), (.ref b1)])
              refine Go.step (fun t k => XS.i2b X78.here hx rfl (hb hby at_88) rfl k) ?_
              show Go _ _ _ _ _ _ _ T78 (mkF m 89 #[.val (.int i0), .val (.int i1), .val (.int i2), .val (.int i3), .val (.int i4), .val (.int i5), .val (.int (Int32.ofNat n)), .val (.int (Int32.ofNat cnt)), .val (.int (bi (q16 = true))), .val (.int (bi (q30 = true))), .val (.ref b1), .unset, .unset, .unset] [(.int (i4.toInt8.toInt32)), (.ref b1)])
              obtain ⟨v31, T31, L31, X31, q31, st31⟩ := c_virt X78 hx hZ hown (y' := (⟨"com/example/bearer/bearer/modem/LineBuffer", "add", "(B)Z"⟩ : MethodName)) (y := (⟨"com/example/bearer/bearer/modem/LineBuffer", "add", "(B)Z"⟩ : MethodName)) (C := "com/example/bearer/bearer/modem/LineBuffer") (hw _ (List.mem_of_getElem? (i := 12) rfl)) (hw _ (List.mem_of_getElem? (i := 13) rfl)) (notFace_of_selects (args := #[]) (mvT hZ (hw _ (List.mem_of_getElem? (i := 15) rfl)))) (hw _ (List.mem_of_getElem? (i := 15) rfl)) (hw _ (List.mem_of_getElem? (i := 14) rfl)) (hw _ (List.mem_of_getElem? (i := 2) rfl)) (hw _ (List.mem_of_getElem? (i := 16) rfl)) (by decide) (a := b1) (argsL := [(.int (i4.toInt8.toInt32))]) (rest := []) (rmY l Z a0 hw [] b1 b2 n l78 c78 fn78 (i4.toInt8.toInt32) hh78 n0 Z78 hn1 hn4 (by omega) f78_0 f78_2 f78_3 f78_4 f78_5 f78_1 ne_b1_b2 gn_b1 gn_b2 hlt84) e78 f78_0 pd_4 rfl (by rw [hml]; rfl) (W := 0) (by show 2 * 0 + _ ≤ _; exact Nat.le_of_eq rfl) (by decide) (by decide) (by decide) (by decide) (hb hby at_89) (Ls := #[.val (.int i0), .val (.int i1), .val (.int i2), .val (.int i3), .val (.int i4), .val (.int i5), .val (.int (Int32.ofNat n)), .val (.int (Int32.ofNat cnt)), .val (.int (bi (q16 = true))), .val (.int (bi (q30 = true))), .val (.ref b1), .unset, .unset, .unset])
              generalize e31 : T31.heap = h31 at q31
              obtain ⟨rfl, N31q, K31q, E31q, E31k, F31q0, F31q1, F31q2, V31k⟩ := q31
              have N31 := Fr.app N78 N31q
              have Z31 : n0 ≤ h31.size := Nat.le_trans Z78 K31q.1
              refine Go.step (st31) ?_
              show Go _ _ _ _ _ _ _ T31 (mkF m 92 #[.val (.int i0), .val (.int i1), .val (.int i2), .val (.int i3), .val (.int i4), .val (.int i5), .val (.int (Int32.ofNat n)), .val (.int (Int32.ofNat cnt)), .val (.int (bi (q16 = true))), .val (.int (bi (q30 = true))), .val (.ref b1), .unset, .unset, .unset] [(.int (0 : Int32))])
              refine Go.step (fun t k => XS.pop X31.here hx rfl (hb hby at_92) rfl rfl k) ?_
              show Go _ _ _ _ _ _ _ T31 (mkF m 93 #[.val (.int i0), .val (.int i1), .val (.int i2), .val (.int i3), .val (.int i4), .val (.int i5), .val (.int (Int32.ofNat n)), .val (.int (Int32.ofNat cnt)), .val (.int (bi (q16 = true))), .val (.int (bi (q30 = true))), .val (.ref b1), .unset, .unset, .unset] [])
              exact k93 (l78 + 1) c78 (upd fn78 l78 (.int (nar .byte (i4.toInt8.toInt32)))) _ _ _ (X31.more (by decide) (by decide)) e31 N31 Z31 E31q E31k F31q0 F31q1 F31q2 V31k (by have q := (own_lt 2 cnt (by omega) (by omega)).mp c81_30; omega) (by omega)
            · show Go _ _ _ _ _ _ _ T78 (mkF m 84 #[.val (.int i0), .val (.int i1), .val (.int i2), .val (.int i3), .val (.int i4), .val (.int i5), .val (.int (Int32.ofNat n)), .val (.int (Int32.ofNat cnt)), .val (.int (bi (q16 = true))), .val (.int (bi (q30 = true))), .val (.ref b1), .unset, .unset, .unset] [])
              refine Go.step (fun t k => XS.aload X78.here hx rfl (hb hby at_84) rfl rfl k) ?_
              show Go _ _ _ _ _ _ _ T78 (mkF m 86 #[.val (.int i0), .val (.int i1), .val (.int i2), .val (.int i3), .val (.int i4), .val (.int i5), .val (.int (Int32.ofNat n)), .val (.int (Int32.ofNat cnt)), .val (.int (bi (q16 = true))), .val (.int (bi (q30 = true))), .val (.ref b1), .unset, .unset, .unset] [(.ref b1)])
              refine Go.step (fun t k => XS.iload X78.here hx rfl (hb hby at_86) rfl k) ?_
              show Go _ _ _ _ _ _ _ T78 (mkF m 88 #[.val (.int i0), .val (.int i1), .val (.int i2), .val (.int i3), .val (.int i4), .val (.int i5), .val (.int (Int32.ofNat n)), .val (.int (Int32.ofNat cnt)), .val (.int (bi (q16 = true))), .val (.int (bi (q30 = true))), .val (.ref b1), .unset, .unset, .unset] [(.int i4), (.ref b1)])
              refine Go.step (fun t k => XS.i2b X78.here hx rfl (hb hby at_88) rfl k) ?_
              show Go _ _ _ _ _ _ _ T78 (mkF m 89 #[.val (.int i0), .val (.int i1), .val (.int i2), .val (.int i3), .val (.int i4), .val (.int i5), .val (.int (Int32.ofNat n)), .val (.int (Int32.ofNat cnt)), .val (.int (bi (q16 = true))), .val (.int (bi (q30 = true))), .val (.ref b1), .unset, .unset, .unset] [(.int (i4.toInt8.toInt32)), (.ref b1)])
              obtain ⟨v32, T32, L32, X32, q32, st32⟩ := c_virt X78 hx hZ hown (y' := (⟨"com/example/bearer/bearer/modem/LineBuffer", "add", "(B)Z"⟩ : MethodName)) (y := (⟨"com/example/bearer/bearer/modem/LineBuffer", "add", "(B)Z"⟩ : MethodName)) (C := "com/example/bearer/bearer/modem/LineBuffer") (hw _ (List.mem_of_getElem? (i := 12) rfl)) (hw _ (List.mem_of_getElem? (i := 13) rfl)) (notFace_of_selects (args := #[]) (mvT hZ (hw _ (List.mem_of_getElem? (i := 15) rfl)))) (hw _ (List.mem_of_getElem? (i := 15) rfl)) (hw _ (List.mem_of_getElem? (i := 14) rfl)) (hw _ (List.mem_of_getElem? (i := 2) rfl)) (hw _ (List.mem_of_getElem? (i := 16) rfl)) (by decide) (a := b1) (argsL := [(.int (i4.toInt8.toInt32))]) (rest := []) (rmF l Z a0 hw [] b1 b2 n l78 c78 fn78 (i4.toInt8.toInt32) hh78 n0 Z78 hn1 hn4 (by omega) f78_0 f78_2 f78_3 f78_4 f78_5 f78_1 ne_b1_b2 gn_b1 gn_b2 hlt84) e78 f78_0 pd_4 rfl (by rw [hml]; rfl) (W := 0) (by show 2 * 0 + _ ≤ _; exact Nat.le_of_eq rfl) (by decide) (by decide) (by decide) (by decide) (hb hby at_89) (Ls := #[.val (.int i0), .val (.int i1), .val (.int i2), .val (.int i3), .val (.int i4), .val (.int i5), .val (.int (Int32.ofNat n)), .val (.int (Int32.ofNat cnt)), .val (.int (bi (q16 = true))), .val (.int (bi (q30 = true))), .val (.ref b1), .unset, .unset, .unset])
              generalize e32 : T32.heap = h32 at q32
              obtain ⟨rfl, N32q, K32q, E32q, E32k, F32q0, F32q1, F32q2, V32k⟩ := q32
              have N32 := Fr.app N78 N32q
              have Z32 : n0 ≤ h32.size := Nat.le_trans Z78 K32q.1
              refine Go.step (st32) ?_
              show Go _ _ _ _ _ _ _ T32 (mkF m 92 #[.val (.int i0), .val (.int i1), .val (.int i2), .val (.int i3), .val (.int i4), .val (.int i5), .val (.int (Int32.ofNat n)), .val (.int (Int32.ofNat cnt)), .val (.int (bi (q16 = true))), .val (.int (bi (q30 = true))), .val (.ref b1), .unset, .unset, .unset] [(.int (bi (¬ (c78 = true))))])
              refine Go.step (fun t k => XS.pop X32.here hx rfl (hb hby at_92) rfl rfl k) ?_
              show Go _ _ _ _ _ _ _ T32 (mkF m 93 #[.val (.int i0), .val (.int i1), .val (.int i2), .val (.int i3), .val (.int i4), .val (.int i5), .val (.int (Int32.ofNat n)), .val (.int (Int32.ofNat cnt)), .val (.int (bi (q16 = true))), .val (.int (bi (q30 = true))), .val (.ref b1), .unset, .unset, .unset] [])
              exact k93 l78 true fn78 _ _ _ (X32.more (by decide) (by decide)) e32 N32 Z32 E32q E32k F32q0 F32q1 F32q2 V32k (by have q := (own_lt 2 cnt (by omega) (by omega)).mp c81_30; omega) (by omega)
          · refine Go.step (fun t k => XS.icmpYes X78.here hx rfl (pc0 := 81) (pc' := 93) rfl (hb hby at_81) rfl (flt c81_30).2.2.2 (by decide) (by decide) k) ?_
            show Go _ _ _ _ _ _ _ T78 (mkF m 93 #[.val (.int i0), .val (.int i1), .val (.int i2), .val (.int i3), .val (.int i4), .val (.int i5), .val (.int (Int32.ofNat n)), .val (.int (Int32.ofNat cnt)), .val (.int (bi (q16 = true))), .val (.int (bi (q30 = true))), .val (.ref b1), .unset, .unset, .unset] [])
            exact k93 l78 c78 fn78 _ _ _ (X78.more (by decide) (by decide)) e78 N78 Z78 f78_0 f78_1 f78_2 f78_3 f78_4 f78_5 (by have q := mt (own_lt 2 cnt (by omega) (by omega)).mpr c81_30; omega) (by omega)
        by_cases c67_33 : (1 : Int32) < (Int32.ofNat cnt)
        · refine Go.step (fun t k => XS.icmpNo X64.here hx rfl (hb hby at_67) rfl (tlt c67_33).2.2.2 k) ?_
          show Go _ _ _ _ _ _ _ T64 (mkF m 70 #[.val (.int i0), .val (.int i1), .val (.int i2), .val (.int i3), .val (.int i4), .val (.int i5), .val (.int (Int32.ofNat n)), .val (.int (Int32.ofNat cnt)), .val (.int (bi (q16 = true))), .val (.int (bi (q30 = true))), .val (.ref b1), .unset, .unset, .unset] [])
          by_cases hlt70 : l64 < n
          · show Go _ _ _ _ _ _ _ T64 (mkF m 70 #[.val (.int i0), .val (.int i1), .val (.int i2), .val (.int i3), .val (.int i4), .val (.int i5), .val (.int (Int32.ofNat n)), .val (.int (Int32.ofNat cnt)), .val (.int (bi (q16 = true))), .val (.int (bi (q30 = true))), .val (.ref b1), .unset, .unset, .unset] [])
            refine Go.step (fun t k => XS.aload X64.here hx rfl (hb hby at_70) rfl rfl k) ?_
            show Go _ _ _ _ _ _ _ T64 (mkF m 72 #[.val (.int i0), .val (.int i1), .val (.int i2), .val (.int i3), .val (.int i4), .val (.int i5), .val (.int (Int32.ofNat n)), .val (.int (Int32.ofNat cnt)), .val (.int (bi (q16 = true))), .val (.int (bi (q30 = true))), .val (.ref b1), .unset, .unset, .unset] [(.ref b1)])
            refine Go.step (fun t k => XS.iloadN X64.here hx rfl (hb hby at_72) rfl k) ?_
            show Go _ _ _ _ _ _ _ T64 (mkF m 73 #[.val (.int i0), .val (.int i1), .val (.int i2), .val (.int i3), .val (.int i4), .val (.int i5), .val (.int (Int32.ofNat n)), .val (.int (Int32.ofNat cnt)), .val (.int (bi (q16 = true))), .val (.int (bi (q30 = true))), .val (.ref b1), .unset, .unset, .unset] [(.int i3), (.ref b1)])
            refine Go.step (fun t k => XS.i2b X64.here hx rfl (hb hby at_73) rfl k) ?_
            show Go _ _ _ _ _ _ _ T64 (mkF m 74 #[.val (.int i0), .val (.int i1), .val (.int i2), .val (.int i3), .val (.int i4), .val (.int i5), .val (.int (Int32.ofNat n)), .val (.int (Int32.ofNat cnt)), .val (.int (bi (q16 = true))), .val (.int (bi (q30 = true))), .val (.ref b1), .unset, .unset, .unset] [(.int (i3.toInt8.toInt32)), (.ref b1)])
            obtain ⟨v34, T34, L34, X34, q34, st34⟩ := c_virt X64 hx hZ hown (y' := (⟨"com/example/bearer/bearer/modem/LineBuffer", "add", "(B)Z"⟩ : MethodName)) (y := (⟨"com/example/bearer/bearer/modem/LineBuffer", "add", "(B)Z"⟩ : MethodName)) (C := "com/example/bearer/bearer/modem/LineBuffer") (hw _ (List.mem_of_getElem? (i := 12) rfl)) (hw _ (List.mem_of_getElem? (i := 13) rfl)) (notFace_of_selects (args := #[]) (mvT hZ (hw _ (List.mem_of_getElem? (i := 15) rfl)))) (hw _ (List.mem_of_getElem? (i := 15) rfl)) (hw _ (List.mem_of_getElem? (i := 14) rfl)) (hw _ (List.mem_of_getElem? (i := 2) rfl)) (hw _ (List.mem_of_getElem? (i := 16) rfl)) (by decide) (a := b1) (argsL := [(.int (i3.toInt8.toInt32))]) (rest := []) (rmY l Z a0 hw [] b1 b2 n l64 c64 fn64 (i3.toInt8.toInt32) hh64 n0 Z64 hn1 hn4 (by omega) f64_0 f64_2 f64_3 f64_4 f64_5 f64_1 ne_b1_b2 gn_b1 gn_b2 hlt70) e64 f64_0 pd_4 rfl (by rw [hml]; rfl) (W := 0) (by show 2 * 0 + _ ≤ _; exact Nat.le_of_eq rfl) (by decide) (by decide) (by decide) (by decide) (hb hby at_74) (Ls := #[.val (.int i0), .val (.int i1), .val (.int i2), .val (.int i3), .val (.int i4), .val (.int i5), .val (.int (Int32.ofNat n)), .val (.int (Int32.ofNat cnt)), .val (.int (bi (q16 = true))), .val (.int (bi (q30 = true))), .val (.ref b1), .unset, .unset, .unset])
            generalize e34 : T34.heap = h34 at q34
            obtain ⟨rfl, N34q, K34q, E34q, E34k, F34q0, F34q1, F34q2, V34k⟩ := q34
            have N34 := Fr.app N64 N34q
            have Z34 : n0 ≤ h34.size := Nat.le_trans Z64 K34q.1
            refine Go.step (st34) ?_
            show Go _ _ _ _ _ _ _ T34 (mkF m 77 #[.val (.int i0), .val (.int i1), .val (.int i2), .val (.int i3), .val (.int i4), .val (.int i5), .val (.int (Int32.ofNat n)), .val (.int (Int32.ofNat cnt)), .val (.int (bi (q16 = true))), .val (.int (bi (q30 = true))), .val (.ref b1), .unset, .unset, .unset] [(.int (0 : Int32))])
            refine Go.step (fun t k => XS.pop X34.here hx rfl (hb hby at_77) rfl rfl k) ?_
            show Go _ _ _ _ _ _ _ T34 (mkF m 78 #[.val (.int i0), .val (.int i1), .val (.int i2), .val (.int i3), .val (.int i4), .val (.int i5), .val (.int (Int32.ofNat n)), .val (.int (Int32.ofNat cnt)), .val (.int (bi (q16 = true))), .val (.int (bi (q30 = true))), .val (.ref b1), .unset, .unset, .unset] [])
            exact k78 (l64 + 1) c64 (upd fn64 l64 (.int (nar .byte (i3.toInt8.toInt32)))) _ _ _ (X34.more (by decide) (by decide)) e34 N34 Z34 E34q E34k F34q0 F34q1 F34q2 V34k (by have q := (own_lt 1 cnt (by omega) (by omega)).mp c67_33; omega) (by omega)
          · show Go _ _ _ _ _ _ _ T64 (mkF m 70 #[.val (.int i0), .val (.int i1), .val (.int i2), .val (.int i3), .val (.int i4), .val (.int i5), .val (.int (Int32.ofNat n)), .val (.int (Int32.ofNat cnt)), .val (.int (bi (q16 = true))), .val (.int (bi (q30 = true))), .val (.ref b1), .unset, .unset, .unset] [])
            refine Go.step (fun t k => XS.aload X64.here hx rfl (hb hby at_70) rfl rfl k) ?_
            show Go _ _ _ _ _ _ _ T64 (mkF m 72 #[.val (.int i0), .val (.int i1), .val (.int i2), .val (.int i3), .val (.int i4), .val (.int i5), .val (.int (Int32.ofNat n)), .val (.int (Int32.ofNat cnt)), .val (.int (bi (q16 = true))), .val (.int (bi (q30 = true))), .val (.ref b1), .unset, .unset, .unset] [(.ref b1)])
            refine Go.step (fun t k => XS.iloadN X64.here hx rfl (hb hby at_72) rfl k) ?_
            show Go _ _ _ _ _ _ _ T64 (mkF m 73 #[.val (.int i0), .val (.int i1), .val (.int i2), .val (.int i3), .val (.int i4), .val (.int i5), .val (.int (Int32.ofNat n)), .val (.int (Int32.ofNat cnt)), .val (.int (bi (q16 = true))), .val (.int (bi (q30 = true))), .val (.ref b1), .unset, .unset, .unset] [(.int i3), (.ref b1)])
            refine Go.step (fun t k => XS.i2b X64.here hx rfl (hb hby at_73) rfl k) ?_
            show Go _ _ _ _ _ _ _ T64 (mkF m 74 #[.val (.int i0), .val (.int i1), .val (.int i2), .val (.int i3), .val (.int i4), .val (.int i5), .val (.int (Int32.ofNat n)), .val (.int (Int32.ofNat cnt)), .val (.int (bi (q16 = true))), .val (.int (bi (q30 = true))), .val (.ref b1), .unset, .unset, .unset] [(.int (i3.toInt8.toInt32)), (.ref b1)])
            obtain ⟨v35, T35, L35, X35, q35, st35⟩ := c_virt X64 hx hZ hown (y' := (⟨"com/example/bearer/bearer/modem/LineBuffer", "add", "(B)Z"⟩ : MethodName)) (y := (⟨"com/example/bearer/bearer/modem/LineBuffer", "add", "(B)Z"⟩ : MethodName)) (C := "com/example/bearer/bearer/modem/LineBuffer") (hw _ (List.mem_of_getElem? (i := 12) rfl)) (hw _ (List.mem_of_getElem? (i := 13) rfl)) (notFace_of_selects (args := #[]) (mvT hZ (hw _ (List.mem_of_getElem? (i := 15) rfl)))) (hw _ (List.mem_of_getElem? (i := 15) rfl)) (hw _ (List.mem_of_getElem? (i := 14) rfl)) (hw _ (List.mem_of_getElem? (i := 2) rfl)) (hw _ (List.mem_of_getElem? (i := 16) rfl)) (by decide) (a := b1) (argsL := [(.int (i3.toInt8.toInt32))]) (rest := []) (rmF l Z a0 hw [] b1 b2 n l64 c64 fn64 (i3.toInt8.toInt32) hh64 n0 Z64 hn1 hn4 (by omega) f64_0 f64_2 f64_3 f64_4 f64_5 f64_1 ne_b1_b2 gn_b1 gn_b2 hlt70) e64 f64_0 pd_4 rfl (by rw [hml]; rfl) (W := 0) (by show 2 * 0 + _ ≤ _; exact Nat.le_of_eq rfl) (by decide) (by decide) (by decide) (by decide) (hb hby at_74) (Ls := #[.val (.int i0), .val (.int i1), .val (.int i2), .val (.int i3), .val (.int i4), .val (.int i5), .val (.int (Int32.ofNat n)), .val (.int (Int32.ofNat cnt)), .val (.int (bi (q16 = true))), .val (.int (bi (q30 = true))), .val (.ref b1), .unset, .unset, .unset])
            generalize e35 : T35.heap = h35 at q35
            obtain ⟨rfl, N35q, K35q, E35q, E35k, F35q0, F35q1, F35q2, V35k⟩ := q35
            have N35 := Fr.app N64 N35q
            have Z35 : n0 ≤ h35.size := Nat.le_trans Z64 K35q.1
            refine Go.step (st35) ?_
            show Go _ _ _ _ _ _ _ T35 (mkF m 77 #[.val (.int i0), .val (.int i1), .val (.int i2), .val (.int i3), .val (.int i4), .val (.int i5), .val (.int (Int32.ofNat n)), .val (.int (Int32.ofNat cnt)), .val (.int (bi (q16 = true))), .val (.int (bi (q30 = true))), .val (.ref b1), .unset, .unset, .unset] [(.int (bi (¬ (c64 = true))))])
            refine Go.step (fun t k => XS.pop X35.here hx rfl (hb hby at_77) rfl rfl k) ?_
            show Go _ _ _ _ _ _ _ T35 (mkF m 78 #[.val (.int i0), .val (.int i1), .val (.int i2), .val (.int i3), .val (.int i4), .val (.int i5), .val (.int (Int32.ofNat n)), .val (.int (Int32.ofNat cnt)), .val (.int (bi (q16 = true))), .val (.int (bi (q30 = true))), .val (.ref b1), .unset, .unset, .unset] [])
            exact k78 l64 true fn64 _ _ _ (X35.more (by decide) (by decide)) e35 N35 Z35 E35q E35k F35q0 F35q1 F35q2 V35k (by have q := (own_lt 1 cnt (by omega) (by omega)).mp c67_33; omega) (by omega)
        · refine Go.step (fun t k => XS.icmpYes X64.here hx rfl (pc0 := 67) (pc' := 78) rfl (hb hby at_67) rfl (flt c67_33).2.2.2 (by decide) (by decide) k) ?_
          show Go _ _ _ _ _ _ _ T64 (mkF m 78 #[.val (.int i0), .val (.int i1), .val (.int i2), .val (.int i3), .val (.int i4), .val (.int i5), .val (.int (Int32.ofNat n)), .val (.int (Int32.ofNat cnt)), .val (.int (bi (q16 = true))), .val (.int (bi (q30 = true))), .val (.ref b1), .unset, .unset, .unset] [])
          exact k78 l64 c64 fn64 _ _ _ (X64.more (by decide) (by decide)) e64 N64 Z64 f64_0 f64_1 f64_2 f64_3 f64_4 f64_5 (by have q := mt (own_lt 1 cnt (by omega) (by omega)).mpr c67_33; omega) (by omega)
      by_cases c53_36 : (0 : Int32) < (Int32.ofNat cnt)
      · refine Go.step (fun t k => XS.ifNo X2.here hx rfl (hb hby at_53) rfl ((if0 _ _).trans (tlt c53_36).2.2.2) k) ?_
        show Go _ _ _ _ _ _ _ T2 (mkF m 56 #[.val (.int i0), .val (.int i1), .val (.int i2), .val (.int i3), .val (.int i4), .val (.int i5), .val (.int (Int32.ofNat n)), .val (.int (Int32.ofNat cnt)), .val (.int (bi (q16 = true))), .val (.int (bi (q30 = true))), .val (.ref b1), .unset, .unset, .unset] [])
        by_cases hlt56 : 0 < n
        · show Go _ _ _ _ _ _ _ T2 (mkF m 56 #[.val (.int i0), .val (.int i1), .val (.int i2), .val (.int i3), .val (.int i4), .val (.int i5), .val (.int (Int32.ofNat n)), .val (.int (Int32.ofNat cnt)), .val (.int (bi (q16 = true))), .val (.int (bi (q30 = true))), .val (.ref b1), .unset, .unset, .unset] [])
          refine Go.step (fun t k => XS.aload X2.here hx rfl (hb hby at_56) rfl rfl k) ?_
          show Go _ _ _ _ _ _ _ T2 (mkF m 58 #[.val (.int i0), .val (.int i1), .val (.int i2), .val (.int i3), .val (.int i4), .val (.int i5), .val (.int (Int32.ofNat n)), .val (.int (Int32.ofNat cnt)), .val (.int (bi (q16 = true))), .val (.int (bi (q30 = true))), .val (.ref b1), .unset, .unset, .unset] [(.ref b1)])
          refine Go.step (fun t k => XS.iloadN X2.here hx rfl (hb hby at_58) rfl k) ?_
          show Go _ _ _ _ _ _ _ T2 (mkF m 59 #[.val (.int i0), .val (.int i1), .val (.int i2), .val (.int i3), .val (.int i4), .val (.int i5), .val (.int (Int32.ofNat n)), .val (.int (Int32.ofNat cnt)), .val (.int (bi (q16 = true))), .val (.int (bi (q30 = true))), .val (.ref b1), .unset, .unset, .unset] [(.int i2), (.ref b1)])
          refine Go.step (fun t k => XS.i2b X2.here hx rfl (hb hby at_59) rfl k) ?_
          show Go _ _ _ _ _ _ _ T2 (mkF m 60 #[.val (.int i0), .val (.int i1), .val (.int i2), .val (.int i3), .val (.int i4), .val (.int i5), .val (.int (Int32.ofNat n)), .val (.int (Int32.ofNat cnt)), .val (.int (bi (q16 = true))), .val (.int (bi (q30 = true))), .val (.ref b1), .unset, .unset, .unset] [(.int (i2.toInt8.toInt32)), (.ref b1)])
          obtain ⟨v37, T37, L37, X37, q37, st37⟩ := c_virt X2 hx hZ hown (y' := (⟨"com/example/bearer/bearer/modem/LineBuffer", "add", "(B)Z"⟩ : MethodName)) (y := (⟨"com/example/bearer/bearer/modem/LineBuffer", "add", "(B)Z"⟩ : MethodName)) (C := "com/example/bearer/bearer/modem/LineBuffer") (hw _ (List.mem_of_getElem? (i := 12) rfl)) (hw _ (List.mem_of_getElem? (i := 13) rfl)) (notFace_of_selects (args := #[]) (mvT hZ (hw _ (List.mem_of_getElem? (i := 15) rfl)))) (hw _ (List.mem_of_getElem? (i := 15) rfl)) (hw _ (List.mem_of_getElem? (i := 14) rfl)) (hw _ (List.mem_of_getElem? (i := 2) rfl)) (hw _ (List.mem_of_getElem? (i := 16) rfl)) (by decide) (a := b1) (argsL := [(.int (i2.toInt8.toInt32))]) (rest := []) (rmY l Z a0 hw [] b1 b2 n 0 false (fun _ => .int (0 : Int32)) (i2.toInt8.toInt32) h2 n0 Z2 hn1 hn4 (by omega) E2q F2q0 F2q1 F2q2 V2k E2k ne_b1_b2 gn_b1 gn_b2 hlt56) e2 E2q pd_4 rfl (by rw [hml]; rfl) (W := 0) (by show 2 * 0 + _ ≤ _; exact Nat.le_of_eq rfl) (by decide) (by decide) (by decide) (by decide) (hb hby at_60) (Ls := #[.val (.int i0), .val (.int i1), .val (.int i2), .val (.int i3), .val (.int i4), .val (.int i5), .val (.int (Int32.ofNat n)), .val (.int (Int32.ofNat cnt)), .val (.int (bi (q16 = true))), .val (.int (bi (q30 = true))), .val (.ref b1), .unset, .unset, .unset])
          generalize e37 : T37.heap = h37 at q37
          obtain ⟨rfl, N37q, K37q, E37q, E37k, F37q0, F37q1, F37q2, V37k⟩ := q37
          have N37 := Fr.app N2 N37q
          have Z37 : n0 ≤ h37.size := Nat.le_trans Z2 K37q.1
          refine Go.step (st37) ?_
          show Go _ _ _ _ _ _ _ T37 (mkF m 63 #[.val (.int i0), .val (.int i1), .val (.int i2), .val (.int i3), .val (.int i4), .val (.int i5), .val (.int (Int32.ofNat n)), .val (.int (Int32.ofNat cnt)), .val (.int (bi (q16 = true))), .val (.int (bi (q30 = true))), .val (.ref b1), .unset, .unset, .unset] [(.int (0 : Int32))])
          refine Go.step (fun t k => XS.pop X37.here hx rfl (hb hby at_63) rfl rfl k) ?_
          show Go _ _ _ _ _ _ _ T37 (mkF m 64 #[.val (.int i0), .val (.int i1), .val (.int i2), .val (.int i3), .val (.int i4), .val (.int i5), .val (.int (Int32.ofNat n)), .val (.int (Int32.ofNat cnt)), .val (.int (bi (q16 = true))), .val (.int (bi (q30 = true))), .val (.ref b1), .unset, .unset, .unset] [])
          exact k64 (0 + 1) false (upd (fun _ => .int (0 : Int32)) 0 (.int (nar .byte (i2.toInt8.toInt32)))) _ _ _ (X37.more (by decide) (by decide)) e37 N37 Z37 E37q E37k F37q0 F37q1 F37q2 V37k (by have q := (own_lt 0 cnt (by omega) (by omega)).mp c53_36; omega) (by omega)
        · show Go _ _ _ _ _ _ _ T2 (mkF m 56 #[.val (.int i0), .val (.int i1), .val (.int i2), .val (.int i3), .val (.int i4), .val (.int i5), .val (.int (Int32.ofNat n)), .val (.int (Int32.ofNat cnt)), .val (.int (bi (q16 = true))), .val (.int (bi (q30 = true))), .val (.ref b1), .unset, .unset, .unset] [])
          refine Go.step (fun t k => XS.aload X2.here hx rfl (hb hby at_56) rfl rfl k) ?_
          show Go _ _ _ _ _ _ _ T2 (mkF m 58 #[.val (.int i0), .val (.int i1), .val (.int i2), .val (.int i3), .val (.int i4), .val (.int i5), .val (.int (Int32.ofNat n)), .val (.int (Int32.ofNat cnt)), .val (.int (bi (q16 = true))), .val (.int (bi (q30 = true))), .val (.ref b1), .unset, .unset, .unset] [(.ref b1)])
          refine Go.step (fun t k => XS.iloadN X2.here hx rfl (hb hby at_58) rfl k) ?_
          show Go _ _ _ _ _ _ _ T2 (mkF m 59 #[.val (.int i0), .val (.int i1), .val (.int i2), .val (.int i3), .val (.int i4), .val (.int i5), .val (.int (Int32.ofNat n)), .val (.int (Int32.ofNat cnt)), .val (.int (bi (q16 = true))), .val (.int (bi (q30 = true))), .val (.ref b1), .unset, .unset, .unset] [(.int i2), (.ref b1)])
          refine Go.step (fun t k => XS.i2b X2.here hx rfl (hb hby at_59) rfl k) ?_
          show Go _ _ _ _ _ _ _ T2 (mkF m 60 #[.val (.int i0), .val (.int i1), .val (.int i2), .val (.int i3), .val (.int i4), .val (.int i5), .val (.int (Int32.ofNat n)), .val (.int (Int32.ofNat cnt)), .val (.int (bi (q16 = true))), .val (.int (bi (q30 = true))), .val (.ref b1), .unset, .unset, .unset] [(.int (i2.toInt8.toInt32)), (.ref b1)])
          obtain ⟨v38, T38, L38, X38, q38, st38⟩ := c_virt X2 hx hZ hown (y' := (⟨"com/example/bearer/bearer/modem/LineBuffer", "add", "(B)Z"⟩ : MethodName)) (y := (⟨"com/example/bearer/bearer/modem/LineBuffer", "add", "(B)Z"⟩ : MethodName)) (C := "com/example/bearer/bearer/modem/LineBuffer") (hw _ (List.mem_of_getElem? (i := 12) rfl)) (hw _ (List.mem_of_getElem? (i := 13) rfl)) (notFace_of_selects (args := #[]) (mvT hZ (hw _ (List.mem_of_getElem? (i := 15) rfl)))) (hw _ (List.mem_of_getElem? (i := 15) rfl)) (hw _ (List.mem_of_getElem? (i := 14) rfl)) (hw _ (List.mem_of_getElem? (i := 2) rfl)) (hw _ (List.mem_of_getElem? (i := 16) rfl)) (by decide) (a := b1) (argsL := [(.int (i2.toInt8.toInt32))]) (rest := []) (rmF l Z a0 hw [] b1 b2 n 0 false (fun _ => .int (0 : Int32)) (i2.toInt8.toInt32) h2 n0 Z2 hn1 hn4 (by omega) E2q F2q0 F2q1 F2q2 V2k E2k ne_b1_b2 gn_b1 gn_b2 hlt56) e2 E2q pd_4 rfl (by rw [hml]; rfl) (W := 0) (by show 2 * 0 + _ ≤ _; exact Nat.le_of_eq rfl) (by decide) (by decide) (by decide) (by decide) (hb hby at_60) (Ls := #[.val (.int i0), .val (.int i1), .val (.int i2), .val (.int i3), .val (.int i4), .val (.int i5), .val (.int (Int32.ofNat n)), .val (.int (Int32.ofNat cnt)), .val (.int (bi (q16 = true))), .val (.int (bi (q30 = true))), .val (.ref b1), .unset, .unset, .unset])
          generalize e38 : T38.heap = h38 at q38
          obtain ⟨rfl, N38q, K38q, E38q, E38k, F38q0, F38q1, F38q2, V38k⟩ := q38
          have N38 := Fr.app N2 N38q
          have Z38 : n0 ≤ h38.size := Nat.le_trans Z2 K38q.1
          refine Go.step (st38) ?_
          show Go _ _ _ _ _ _ _ T38 (mkF m 63 #[.val (.int i0), .val (.int i1), .val (.int i2), .val (.int i3), .val (.int i4), .val (.int i5), .val (.int (Int32.ofNat n)), .val (.int (Int32.ofNat cnt)), .val (.int (bi (q16 = true))), .val (.int (bi (q30 = true))), .val (.ref b1), .unset, .unset, .unset] [(.int (bi (¬ (false = true))))])
          refine Go.step (fun t k => XS.pop X38.here hx rfl (hb hby at_63) rfl rfl k) ?_
          show Go _ _ _ _ _ _ _ T38 (mkF m 64 #[.val (.int i0), .val (.int i1), .val (.int i2), .val (.int i3), .val (.int i4), .val (.int i5), .val (.int (Int32.ofNat n)), .val (.int (Int32.ofNat cnt)), .val (.int (bi (q16 = true))), .val (.int (bi (q30 = true))), .val (.ref b1), .unset, .unset, .unset] [])
          exact k64 0 true (fun _ => .int (0 : Int32)) _ _ _ (X38.more (by decide) (by decide)) e38 N38 Z38 E38q E38k F38q0 F38q1 F38q2 V38k (by have q := (own_lt 0 cnt (by omega) (by omega)).mp c53_36; omega) (by omega)
      · refine Go.step (fun t k => XS.ifYes X2.here hx rfl (pc0 := 53) (pc' := 64) rfl (hb hby at_53) rfl ((if0 _ _).trans (flt c53_36).2.2.2) (by decide) (by decide) k) ?_
        show Go _ _ _ _ _ _ _ T2 (mkF m 64 #[.val (.int i0), .val (.int i1), .val (.int i2), .val (.int i3), .val (.int i4), .val (.int i5), .val (.int (Int32.ofNat n)), .val (.int (Int32.ofNat cnt)), .val (.int (bi (q16 = true))), .val (.int (bi (q30 = true))), .val (.ref b1), .unset, .unset, .unset] [])
        exact k64 0 false (fun _ => .int (0 : Int32)) _ _ _ (X2.more (by decide) (by decide)) e2 N2 Z2 E2q E2k F2q0 F2q1 F2q2 V2k (by have q := mt (own_lt 0 cnt (by omega) (by omega)).mpr c53_36; omega) (by omega)
    by_cases c30_39 : (i5 &&& (2 : Int32)) = (0 : Int32)
    · refine Go.step (fun t k => XS.ifYes X0.here hx rfl (pc0 := 30) (pc' := 37) rfl (hb hby at_30) rfl ((if0 _ _).trans (teq c30_39).1) (by decide) (by decide) k) ?_
      show Go _ _ _ _ _ _ _ T0 (mkF m 37 #[.val (.int i0), .val (.int i1), .val (.int i2), .val (.int i3), .val (.int i4), .val (.int i5), .val (.int (Int32.ofNat n)), .val (.int (Int32.ofNat cnt)), .val (.int (bi (q16 = true))), .unset, .unset, .unset, .unset, .unset] [])
      refine Go.step (fun t k => XS.iconst X0.here hx rfl (hb hby at_37) k) ?_
      show Go _ _ _ _ _ _ _ T0 (mkF m 38 #[.val (.int i0), .val (.int i1), .val (.int i2), .val (.int i3), .val (.int i4), .val (.int i5), .val (.int (Int32.ofNat n)), .val (.int (Int32.ofNat cnt)), .val (.int (bi (q16 = true))), .unset, .unset, .unset, .unset, .unset] [(.int (0 : Int32))])
      rw [show (bi (q30 = true)) = (0 : Int32) from bi_f (mt hq30.mp (by simp only [eq_true c30_39, not_true_eq_false, not_false_eq_true, and_true, true_and, and_false, false_and, or_true, true_or, or_false, false_or, and_self, or_self]))] at j30
      exact j30
    · refine Go.step (fun t k => XS.ifNo X0.here hx rfl (hb hby at_30) rfl ((if0 _ _).trans (feq c30_39).1) k) ?_
      show Go _ _ _ _ _ _ _ T0 (mkF m 33 #[.val (.int i0), .val (.int i1), .val (.int i2), .val (.int i3), .val (.int i4), .val (.int i5), .val (.int (Int32.ofNat n)), .val (.int (Int32.ofNat cnt)), .val (.int (bi (q16 = true))), .unset, .unset, .unset, .unset, .unset] [])
      refine Go.step (fun t k => XS.iconst X0.here hx rfl (hb hby at_33) k) ?_
      show Go _ _ _ _ _ _ _ T0 (mkF m 34 #[.val (.int i0), .val (.int i1), .val (.int i2), .val (.int i3), .val (.int i4), .val (.int i5), .val (.int (Int32.ofNat n)), .val (.int (Int32.ofNat cnt)), .val (.int (bi (q16 = true))), .unset, .unset, .unset, .unset, .unset] [(.int (1 : Int32))])
      refine Go.step (fun t k => XS.goto X0.here hx rfl (pc0 := 34) (pc' := 38) rfl (hb hby at_34) (by decide) (by decide) k) ?_
      show Go _ _ _ _ _ _ _ T0 (mkF m 38 #[.val (.int i0), .val (.int i1), .val (.int i2), .val (.int i3), .val (.int i4), .val (.int i5), .val (.int (Int32.ofNat n)), .val (.int (Int32.ofNat cnt)), .val (.int (bi (q16 = true))), .unset, .unset, .unset, .unset, .unset] [(.int (1 : Int32))])
      rw [show (bi (q30 = true)) = (1 : Int32) from bi_t (hq30.mpr (by simp only [eq_false c30_39, not_true_eq_false, not_false_eq_true, and_true, true_and, and_false, false_and, or_true, true_or, or_false, false_or, and_self, or_self]))] at j30
      exact j30
  by_cases c16_40 : (i5 &&& (1 : Int32)) = (0 : Int32)
  · refine Go.step (fun t k => XS.ifYes X0.here hx rfl (pc0 := 16) (pc' := 23) rfl (hb hby at_16) rfl ((if0 _ _).trans (teq c16_40).1) (by decide) (by decide) k) ?_
    show Go _ _ _ _ _ _ _ T0 (mkF m 23 #[.val (.int i0), .val (.int i1), .val (.int i2), .val (.int i3), .val (.int i4), .val (.int i5), .val (.int (Int32.ofNat n)), .val (.int (Int32.ofNat cnt)), .unset, .unset, .unset, .unset, .unset, .unset] [])
    refine Go.step (fun t k => XS.iconst X0.here hx rfl (hb hby at_23) k) ?_
    show Go _ _ _ _ _ _ _ T0 (mkF m 24 #[.val (.int i0), .val (.int i1), .val (.int i2), .val (.int i3), .val (.int i4), .val (.int i5), .val (.int (Int32.ofNat n)), .val (.int (Int32.ofNat cnt)), .unset, .unset, .unset, .unset, .unset, .unset] [(.int (0 : Int32))])
    rw [show (bi (q16 = true)) = (0 : Int32) from bi_f (mt hq16.mp (by simp only [eq_true c16_40, not_true_eq_false, not_false_eq_true, and_true, true_and, and_false, false_and, or_true, true_or, or_false, false_or, and_self, or_self]))] at j16
    exact j16
  · refine Go.step (fun t k => XS.ifNo X0.here hx rfl (hb hby at_16) rfl ((if0 _ _).trans (feq c16_40).1) k) ?_
    show Go _ _ _ _ _ _ _ T0 (mkF m 19 #[.val (.int i0), .val (.int i1), .val (.int i2), .val (.int i3), .val (.int i4), .val (.int i5), .val (.int (Int32.ofNat n)), .val (.int (Int32.ofNat cnt)), .unset, .unset, .unset, .unset, .unset, .unset] [])
    refine Go.step (fun t k => XS.iconst X0.here hx rfl (hb hby at_19) k) ?_
    show Go _ _ _ _ _ _ _ T0 (mkF m 20 #[.val (.int i0), .val (.int i1), .val (.int i2), .val (.int i3), .val (.int i4), .val (.int i5), .val (.int (Int32.ofNat n)), .val (.int (Int32.ofNat cnt)), .unset, .unset, .unset, .unset, .unset, .unset] [(.int (1 : Int32))])
    refine Go.step (fun t k => XS.goto X0.here hx rfl (pc0 := 20) (pc' := 24) rfl (hb hby at_20) (by decide) (by decide) k) ?_
    show Go _ _ _ _ _ _ _ T0 (mkF m 24 #[.val (.int i0), .val (.int i1), .val (.int i2), .val (.int i3), .val (.int i4), .val (.int i5), .val (.int (Int32.ofNat n)), .val (.int (Int32.ofNat cnt)), .unset, .unset, .unset, .unset, .unset, .unset] [(.int (1 : Int32))])
    rw [show (bi (q16 = true)) = (1 : Int32) from bi_t (hq16.mpr (by simp only [eq_false c16_40, not_true_eq_false, not_false_eq_true, and_true, true_and, and_false, false_and, or_true, true_or, or_false, false_or, and_self, or_self]))] at j16
    exact j16
set_option maxRecDepth 65536 in
set_option maxHeartbeats 40000000 in
theorem comes_1 {Post : Tables → Env → Array Value → State → Outcome → State → Prop} (hpost : ∀ tb e args s v u, (limb_1_1.after args s (.returned v) u = true ∧ limb_1_2.after args s (.returned v) u = true ∧ True) → FrameEnd s (.returned v) u (Jvm.fieldLocs frame_1_writes args s ++ Jvm.arrayLocs frame_1_arrays args s ++ Jvm.staticLocs frame_1_statics s) 16 128 → Post tb e args s (.returned v) u) :
    ArmFor flags0 classFile x code maxLocals ret World_1 tables_1 room_1 Calls_1 rest_1 Pre_1 Post := by
  intro l hfl _ _ p e ha hc hk s m args below hf hA hF happ hP
  obtain ⟨hcalls, hrest, hpre⟩ := hP
  obtain ⟨-, -, -, hnamed, -, -, -, hat⟩ := (Spec.applies_iff hf).mp happ
  obtain ⟨hg, hn⟩ := and_e (Cond.before_iff.mp (show (Jvm.Cond.and given_1 narrow_1).before args s = true from hpre))
  obtain ⟨hcnt, hg1⟩ := and_e hg
  obtain ⟨ha0, hg2⟩ := and_e hg1
  obtain ⟨ha1, hg3⟩ := and_e hg2
  obtain ⟨ha2, hg4⟩ := and_e hg3
  obtain ⟨ha3, hg5⟩ := and_e hg4
  obtain ⟨ha4, hg6⟩ := and_e hg5
  obtain ⟨w0, w1, w2, w3, w4, w5, rfl⟩ : ∃ w0 w1 w2 w3 w4 w5 : Value, args = #[w0, w1, w2, w3, w4, w5] := by
    have hs : args.size = 6 := by simpa [Cond.value, given_1] using hcnt
    obtain ⟨L⟩ := args
    match L, hs with
    | [w0, w1, w2, w3, w4, w5], _ => exact ⟨w0, w1, w2, w3, w4, w5, rfl⟩
  have hw := fun d (hd : d ∈ tables_1) => atoms_spec (ws := Jvm.Cond.code x code maxLocals ret :: tables_1) hat d (List.mem_cons_of_mem _ hd)
  have hfit : Fit s := fun {y c} hc i hi => by
    obtain ⟨ha, rfl⟩ := Array.getElem?_eq_some_iff.mp hc
    have q := List.all_eq_true.mp ((Array.all_eq_true_iff_forall_mem.mp hF) _ (Array.getElem_mem ha)) i (List.mem_range.mpr hi)
    simpa [Array.getElem?_eq_getElem hi] using q
  obtain ⟨i0, ei0⟩ := is_v ha0
  obtain rfl : w0 = (.int i0) := Option.some.inj ei0
  obtain ⟨i1, ei1⟩ := is_v ha1
  obtain rfl : w1 = (.int i1) := Option.some.inj ei1
  obtain ⟨i2, ei2⟩ := is_v ha2
  obtain rfl : w2 = (.int i2) := Option.some.inj ei2
  obtain ⟨i3, ei3⟩ := is_v ha3
  obtain rfl : w3 = (.int i3) := Option.some.inj ei3
  obtain ⟨i4, ei4⟩ := is_v ha4
  obtain rfl : w4 = (.int i4) := Option.some.inj ei4
  obtain ⟨i5, ei5⟩ := is_v hg6
  obtain rfl : w5 = (.int i5) := Option.some.inj ei5
  obtain ⟨n, o, h1, h2, h3, _, L, rfl, ⟨rfl, N⟩, hq⟩ := rm0 l s _ hw tables_1 i0 i1 i2 i3 i4 i5 s.heap s.heap.size (Nat.le_refl _)  p e ha hc hk s m _ below hf ((Spec.applies_iff_loose hf).mp happ).1 ⟨rfl, State.Warmed39.refl s, rfl⟩ trivial
  refine ⟨n, _, h1, h2, h3, hpost _ _ _ _ _ _ ⟨Cond.after_iff.mpr rfl, Cond.after_iff.mpr (eq_i res_at (Term.int_eval (1)) rfl), trivial⟩ ⟨hq.1, hq.2.1, (hq.2.2.sift fun y hy => Or.inr (N y hy)).mono (by decide) (by decide)⟩⟩
theorem main_1_1 : Claimed_1_1 := comes_1 fun _ _ _ _ _ _ h hF => ⟨h.1, hF⟩
theorem main_1_2 : Claimed_1_2 := comes_1 fun _ _ _ _ _ _ h hF => ⟨h.2.1, hF⟩
end Jvm.Pilot.@@N@@
namespace Jvm.Pilot.@@N@@
open Jvm Jvm.ClassFile Sem Op Lib Jvm.Free Jvm.Stand Jvm.Pilot.@@N@@.Jvm.D
/-! MADE BY PROGRAM (witnessworld.py) out of the Statement's table words and the real class files: 11 classes; the members and pool entries that the words name. The judged class is class 1, her method 1. -/
namespace start1
open Jvm.ClassFile
def u (s : String) : CpInfo := .utf8 (stringToUtf16 s)
/-- a pool by its gaps: so many unusable entries, then the entry; so many at the end -/
def gap : Nat → List CpInfo → List CpInfo
  | 0, r => r
  | n + 1, r => .unusable :: gap n r
def poolList (es : List (Nat × CpInfo)) (last : Nat) : List CpInfo := es.foldr (fun e r => gap e.1 (e.2 :: r)) (gap last [])
def pool (es : List (Nat × CpInfo)) (last : Nat) : Array CpInfo := ⟨poolList es last⟩
def fileOf (pool : Array CpInfo) (this : Nat) (attrs : Array Attribute := #[]) (ms : Array MethodInfo := #[]) (fl : Nat := 33) (sup : Nat := 0) (ifs : Array Nat := #[]) (fds : Array FieldInfo := #[]) : ClassFile where
  minorVersion := 0
  majorVersion := 65
  constantPool := pool
  accessFlags := fl
  thisClass := this
  superClass := sup
  interfaces := ifs
  fields := fds
  methods := ms
  attributes := attrs
def plain (name : String) (sup : Option ClassId) : Class where
  name := name
  kind := .ordinary
  loader := none
  accessFlags := 33
  super := sup
  interfaces := #[]
  cf := none
  fields := #[]
  methods := #[]
  instanceTypes := #[]
  staticTypes := #[]
  resolved := #[]
  callSites := []
  init := .initialized
  statics := none
  mirror := none

def pool0 : Array CpInfo := pool [(5, u "<init>"), (0, u "()V"), (1, .class_ 10), (1, u "java/lang/Object")] 113

def k0c0 : Code := { maxStack := 0, maxLocals := 1, code := object_method_1_code, exceptionTable := #[], attributes := #[] }
def k0m0 : Method := { name := "<init>", desc := "()V", sig := { parameters := [], returnType := none }, accessFlags := 1, code := some k0c0 }
/-- java/lang/Object -/
def k0 : Class := { plain "java/lang/Object" none with
  accessFlags := 33
  interfaces := #[]
  cf := some (fileOf pool0 8 #[] #[{ accessFlags := 1, nameIndex := 5, descriptorIndex := 6, attributes := #[] }] 33 0 #[] #[])
  fields := #[]
  methods := #[k0m0]
  instanceTypes := #[]
  staticTypes := #[]
  resolved := Array.replicate 124 none
  statics := none }

def pool1 : Array CpInfo := pool [(2, .class_ 4), (1, u "java/lang/Object"), (0, u "<init>"), (0, u "()V"), (0, .class_ 8), (0, u "com/example/bearer/bearer/modem/LineBuffer"), (0, .methodref 7 10), (0, .nameAndType 5 11), (0, u "(I)V"), (0, .methodref 7 13), (0, .nameAndType 14 15), (0, u "add"), (0, u "(B)Z"), (0, .methodref 7 17), (0, .nameAndType 18 6), (0, u "clear"), (0, .methodref 20 21), (0, .class_ 22), (0, .nameAndType 23 24), (0, u "java/lang/Math"), (0, u "min"), (0, u "(II)I"), (0, .methodref 7 26), (0, .nameAndType 27 28), (0, u "isEmpty"), (0, u "()Z"), (0, .methodref 7 30), (0, .nameAndType 31 32), (0, u "length"), (0, u "()I"), (0, .class_ 34), (0, u "com/example/bearer/bearer/modem/LineBufferIsEmptyPinLaw"), (2, u "law"), (0, u "(IIIIII)Z")] 3

def k1m0 : Method := { name := "<init>", desc := "()V", sig := { parameters := [], returnType := none }, accessFlags := 2, code := none }
def k1c1 : Code := { maxStack := 3, maxLocals := 14, code := code, exceptionTable := #[], attributes := #[] }
def k1m1 : Method := { name := "law", desc := "(IIIIII)Z", sig := { parameters := [.int, .int, .int, .int, .int, .int], returnType := some .boolean }, accessFlags := 9, code := some k1c1 }
/-- com/example/bearer/bearer/modem/LineBufferIsEmptyPinLaw -/
def k1 : Class := { plain "com/example/bearer/bearer/modem/LineBufferIsEmptyPinLaw" (some 0) with
  accessFlags := 49
  interfaces := #[]
  cf := some (fileOf pool1 33 #[] #[{ accessFlags := 2, nameIndex := 5, descriptorIndex := 6, attributes := #[] }, { accessFlags := 9, nameIndex := 37, descriptorIndex := 38, attributes := #[] }] 49 2 #[] #[])
  fields := #[]
  methods := #[k1m0, k1m1]
  instanceTypes := #[]
  staticTypes := #[]
  resolved := Array.replicate 42 none
  statics := none }

def pool2 : Array CpInfo := pool [(2, .class_ 4), (1, u "java/lang/CharSequence"), (42, .class_ 48), (0, u "java/lang/CharSequence$1CodePointIterator"), (10, .class_ 60), (0, u "java/lang/CharSequence$1CharIterator"), (5, .class_ 67), (0, u "java/lang/Object")] 63

/-- java/lang/CharSequence -/
def k2 : Class := { plain "java/lang/CharSequence" (some 0) with
  accessFlags := 1537
  interfaces := #[]
  cf := some (fileOf pool2 2 #[.nestMembers #[47, 59]] #[] 1537 66 #[] #[])
  fields := #[]
  methods := #[]
  instanceTypes := #[]
  staticTypes := #[]
  resolved := Array.replicate 131 none
  statics := none }

def pool3 : Array CpInfo := pool [(1, .methodref 2 3), (0, .class_ 4), (0, .nameAndType 5 6), (0, u "java/lang/Object"), (0, u "<init>"), (0, u "()V"), (0, .fieldref 8 9), (0, .class_ 10), (0, .nameAndType 11 12), (0, u "com/example/bearer/bearer/modem/LineBuffer"), (0, u "kept"), (0, u "[B"), (0, .fieldref 8 14), (0, .nameAndType 15 16), (0, u "length"), (0, u "I"), (0, .fieldref 8 18), (0, .nameAndType 19 20), (0, u "cut"), (0, u "Z"), (1, .class_ 24), (1, u "java/lang/CharSequence"), (0, u "()I"), (6, u "add"), (0, u "(B)Z"), (35, u "BYTE_MASK"), (2, u "(I)V"), (5, u "isEmpty"), (0, u "()Z"), (5, u "clear")] 2

def k3c0 : Code := { maxStack := 2, maxLocals := 2, code := prog_38_method_1_code, exceptionTable := #[], attributes := #[] }
def k3m0 : Method := { name := "<init>", desc := "(I)V", sig := { parameters := [.int], returnType := none }, accessFlags := 1, code := some k3c0 }
def k3c1 : Code := { maxStack := 5, maxLocals := 3, code := prog_38_method_2_code, exceptionTable := #[], attributes := #[] }
def k3m1 : Method := { name := "add", desc := "(B)Z", sig := { parameters := [.byte], returnType := some .boolean }, accessFlags := 1, code := some k3c1 }
def k3c2 : Code := { maxStack := 1, maxLocals := 1, code := prog_38_method_4_code, exceptionTable := #[], attributes := #[] }
def k3m2 : Method := { name := "isEmpty", desc := "()Z", sig := { parameters := [], returnType := some .boolean }, accessFlags := 1, code := some k3c2 }
def k3c3 : Code := { maxStack := 1, maxLocals := 1, code := prog_38_method_6_code, exceptionTable := #[], attributes := #[] }
def k3m3 : Method := { name := "length", desc := "()I", sig := { parameters := [], returnType := some .int }, accessFlags := 1, code := some k3c3 }
def k3c4 : Code := { maxStack := 2, maxLocals := 1, code := prog_38_method_12_code, exceptionTable := #[], attributes := #[] }
def k3m4 : Method := { name := "clear", desc := "()V", sig := { parameters := [], returnType := none }, accessFlags := 1, code := some k3c4 }
/-- com/example/bearer/bearer/modem/LineBuffer -/
def k3 : Class := { plain "com/example/bearer/bearer/modem/LineBuffer" (some 0) with
  accessFlags := 49
  interfaces := #[2]
  cf := some (fileOf pool3 8 #[] #[{ accessFlags := 1, nameIndex := 5, descriptorIndex := 72, attributes := #[] }, { accessFlags := 1, nameIndex := 32, descriptorIndex := 33, attributes := #[] }, { accessFlags := 1, nameIndex := 78, descriptorIndex := 79, attributes := #[] }, { accessFlags := 1, nameIndex := 15, descriptorIndex := 25, attributes := #[] }, { accessFlags := 1, nameIndex := 85, descriptorIndex := 6, attributes := #[] }] 49 2 #[22] #[{ accessFlags := 26, nameIndex := 69, descriptorIndex := 16, attributes := #[] }, { accessFlags := 18, nameIndex := 11, descriptorIndex := 12, attributes := #[] }, { accessFlags := 2, nameIndex := 15, descriptorIndex := 16, attributes := #[] }, { accessFlags := 2, nameIndex := 19, descriptorIndex := 20, attributes := #[] }])
  fields := #[{ name := "BYTE_MASK", type := .int, accessFlags := 26, slot := 0, constantValue := 0 }, { name := "kept", type := (.array .byte), accessFlags := 18, slot := 0, constantValue := 0 }, { name := "length", type := .int, accessFlags := 2, slot := 1, constantValue := 0 }, { name := "cut", type := .boolean, accessFlags := 2, slot := 2, constantValue := 0 }]
  methods := #[k3m0, k3m1, k3m2, k3m3, k3m4]
  instanceTypes := #[(.array .byte), .int, .boolean]
  staticTypes := #[.int]
  resolved := Array.replicate 88 none
  statics := none }

def pool4 : Array CpInfo := pool [(1, .class_ 2), (0, u "java/lang/Math"), (1, .class_ 6), (1, u "java/lang/Object"), (0, u "<init>"), (0, u "()V"), (89, .class_ 100), (1, u "java/lang/Math$RandomNumberGeneratorHolder"), (71, u "negativeZeroFloatBits"), (0, u "J"), (2, u "negativeZeroDoubleBits"), (24, u "min"), (43, u "$assertionsDisabled"), (0, u "Z"), (88, u "(II)I"), (2, u "twoToTheDoubleScaleDown"), (0, u "D"), (4, u "twoToTheDoubleScaleUp"), (9, u "E"), (3, u "PI"), (2, u "TAU"), (2, u "DEGREES_TO_RADIANS"), (0, u "RADIANS_TO_DEGREES")] 94

def k4m0 : Method := { name := "<init>", desc := "()V", sig := { parameters := [], returnType := none }, accessFlags := 2, code := none }
def k4c1 : Code := { maxStack := 2, maxLocals := 2, code := jdk_29_method_69_code, exceptionTable := #[], attributes := #[] }
def k4m1 : Method := { name := "min", desc := "(II)I", sig := { parameters := [.int, .int], returnType := some .int }, accessFlags := 9, code := some k4c1 }
/-- java/lang/Math -/
def k4 : Class := { plain "java/lang/Math" (some 0) with
  accessFlags := 49
  interfaces := #[]
  cf := some (fileOf pool4 1 #[.nestMembers #[98]] #[{ accessFlags := 2, nameIndex := 7, descriptorIndex := 8, attributes := #[] }, { accessFlags := 9, nameIndex := 201, descriptorIndex := 335, attributes := #[] }] 49 4 #[] #[{ accessFlags := 25, nameIndex := 354, descriptorIndex := 339, attributes := #[] }, { accessFlags := 25, nameIndex := 358, descriptorIndex := 339, attributes := #[] }, { accessFlags := 25, nameIndex := 361, descriptorIndex := 339, attributes := #[] }, { accessFlags := 26, nameIndex := 364, descriptorIndex := 339, attributes := #[] }, { accessFlags := 26, nameIndex := 365, descriptorIndex := 339, attributes := #[] }, { accessFlags := 26, nameIndex := 172, descriptorIndex := 173, attributes := #[] }, { accessFlags := 26, nameIndex := 176, descriptorIndex := 173, attributes := #[] }, { accessFlags := 8, nameIndex := 344, descriptorIndex := 339, attributes := #[] }, { accessFlags := 8, nameIndex := 338, descriptorIndex := 339, attributes := #[] }, { accessFlags := 4120, nameIndex := 245, descriptorIndex := 246, attributes := #[] }])
  fields := #[{ name := "E", type := .double, accessFlags := 25, slot := 0, constantValue := 0 }, { name := "PI", type := .double, accessFlags := 25, slot := 1, constantValue := 0 }, { name := "TAU", type := .double, accessFlags := 25, slot := 2, constantValue := 0 }, { name := "DEGREES_TO_RADIANS", type := .double, accessFlags := 26, slot := 3, constantValue := 0 }, { name := "RADIANS_TO_DEGREES", type := .double, accessFlags := 26, slot := 4, constantValue := 0 }, { name := "negativeZeroFloatBits", type := .long, accessFlags := 26, slot := 5, constantValue := 0 }, { name := "negativeZeroDoubleBits", type := .long, accessFlags := 26, slot := 6, constantValue := 0 }, { name := "twoToTheDoubleScaleUp", type := .double, accessFlags := 8, slot := 7, constantValue := 0 }, { name := "twoToTheDoubleScaleDown", type := .double, accessFlags := 8, slot := 8, constantValue := 0 }, { name := "$assertionsDisabled", type := .boolean, accessFlags := 4120, slot := 9, constantValue := 0 }]
  methods := #[k4m0, k4m1]
  instanceTypes := #[]
  staticTypes := #[.double, .double, .double, .double, .double, .long, .long, .double, .double, .boolean]
  resolved := Array.replicate 460 none
  statics := none }

def pool5 : Array CpInfo := pool [(1, u "java/lang/Cloneable"), (0, .class_ 1), (0, u "java/lang/Object"), (0, .class_ 3)] 3

/-- java/lang/Cloneable -/
def k5 : Class := { plain "java/lang/Cloneable" (some 0) with
  accessFlags := 1537
  interfaces := #[]
  cf := some (fileOf pool5 2 #[] #[] 1537 4 #[] #[])
  fields := #[]
  methods := #[]
  instanceTypes := #[]
  staticTypes := #[]
  resolved := Array.replicate 8 none
  statics := none }

def pool6 : Array CpInfo := pool [(1, u "java/io/Serializable"), (0, .class_ 1), (0, u "java/lang/Object"), (0, .class_ 3)] 3

/-- java/io/Serializable -/
def k6 : Class := { plain "java/io/Serializable" (some 0) with
  accessFlags := 1537
  interfaces := #[]
  cf := some (fileOf pool6 2 #[] #[] 1537 4 #[] #[])
  fields := #[]
  methods := #[]
  instanceTypes := #[]
  staticTypes := #[]
  resolved := Array.replicate 8 none
  statics := none }

/-- the primitive byte -/
def k7 : Class := { plain "byte" none with kind := .primitive 'B', accessFlags := 0x411 }
/-- [B -/
def k8 : Class := { plain "[B" (some 0) with kind := .array 7 .byte, interfaces := #[5, 6], accessFlags := 1041 }

/-- the primitive int -/
def k9 : Class := { plain "int" none with kind := .primitive 'I', accessFlags := 0x411 }
/-- [I -/
def k10 : Class := { plain "[I" (some 0) with kind := .array 9 .int, interfaces := #[5, 6], accessFlags := 1041 }

def heap : Heap := #[]
def classes : Array Class := #[k0, k1, k2, k3, k4, k5, k6, k7, k8, k9, k10]
def interned : List (Array UInt16 × Addr) := []
def slotsUsed : Nat := 0
def theMethod : MethodId := ⟨1, 1⟩
def args0 : Array Value := #[.int 5, .int 5, .int 5, .int 5, .int 5, .int 5]
def aboutOver (below : List Frame) : State where
  vm := { classes := classes, interned := interned.toArray }
  heap := heap
  slotsUsed := slotsUsed
  threads := #[{ frames := .invoking theMethod args0 :: below }]
def below0 : List Frame := [.native { method := ⟨0, 0⟩, args := #[] }]
def about1 : State := aboutOver below0
def p0 : Program := .bare "" "" ""
def e0 : Env := launch0.env 0 0 0
theorem w_frames : about1.frames = Frame.invoking theMethod args0 :: below0 := rfl
set_option maxRecDepth 65536 in
theorem w_args : argsFit about1.vm theMethod args0 = true := by decide +kernel
set_option maxRecDepth 65536 in
theorem w_heap : heapFits about1 = true := by decide +kernel
set_option maxRecDepth 65536 in
theorem w_runnable : about1.curStatus? = some .runnable := by decide +kernel
set_option maxRecDepth 65536 in
theorem w_alone : about1.alone = true := by decide +kernel
set_option maxRecDepth 65536 in
theorem w_named : about1.methodNamed? x = some theMethod := by decide +kernel
set_option maxRecDepth 65536 in
theorem w_hears : about1.hears theMethod below0 = true := by decide +kernel
set_option maxRecDepth 65536 in
theorem w_ripe : about1.ripe theMethod args0 below0 = true := by decide +kernel
theorem w_running : about1.status = .running := rfl
set_option maxRecDepth 65536 in
theorem w_room : about1.hasRoom e0.platform room_1 = true :=
  launch0.hasRoom_least _ room_1 (by decide +kernel) (by decide +kernel) (by decide +kernel) (by decide +kernel) (by decide +kernel) (by decide +kernel)
theorem allAtoms_all (ts : List Jvm.Cond) (a : Array Jvm.Value) (st : Jvm.State) : (allAtoms ts).before a st = ts.all (fun c => c.before a st) := by
  induction ts with
  | nil => rfl
  | cons c t ih =>
    show (Jvm.Cond.and c (allAtoms t)).before a st = _
    rw [Jvm.Cond.before_and, ih, List.all_cons]
def words1 : List Jvm.Cond := Jvm.Cond.code x code maxLocals ret :: tables_1
/-- a 'code' word, met by the world's own term for the bytes: nothing is compared byte by byte -/
theorem code_word {y : MethodName} {bytes : ByteArray} {mx : Nat} {rt : Option FieldType} {a : Array Value} {s : State} {m : MethodId} {meth : Method} {c : Code} (h1 : s.methodNamed? y = some m) (h2 : s.vm.method? m = some meth) (h3 : meth.code = some c) (h4 : c.code = bytes)
    (h5 : (c.maxLocals == mx && c.exceptionTable.isEmpty && decide (c.maxStack ≤ mostOperands) && decide (meth.sig.returnType = rt) && !meth.locks && decide (parseMethodDescriptor y.desc = some meth.sig)) = true) : (Jvm.Cond.code y bytes mx rt).before a s = true := by
  simp only [Bool.and_eq_true, beq_iff_eq, Bool.not_eq_true', decide_eq_true_eq] at h5
  obtain ⟨⟨⟨⟨⟨g1, g2⟩, g3⟩, g4⟩, g5⟩, g6⟩ := h5
  simp [Cond.before, Cond.holds, Cond.value, h1, h2, h3, h4, g1, g2, g3, g4, g5, g6]
def isCode : Jvm.Cond → Bool
  | .code _ _ _ _ => true
  | _ => false
theorem all_split {L : List Jvm.Cond} {P : Jvm.Cond → Bool} (h1 : L.all (fun c => isCode c || P c) = true) (h2 : ∀ c ∈ L.filter isCode, P c = true) : L.all P = true := by
  refine List.all_eq_true.mpr fun c hc => ?_
  have h := List.all_eq_true.mp h1 c hc
  rcases Bool.eq_false_or_eq_true (isCode c) with hi | hi
  · exact h2 c (List.mem_filter.mpr ⟨hc, hi⟩)
  · simpa [hi] using h
set_option maxRecDepth 65536 in
theorem w_c0 : (Jvm.Cond.code x code maxLocals ret).before args0 about1 = true := code_word (m := ⟨1, 1⟩) (meth := k1m1) (c := k1c1) (by decide +kernel) rfl rfl rfl (by decide +kernel)
set_option maxRecDepth 65536 in
theorem w_c1 : (Jvm.Cond.code ({ cls := "com/example/bearer/bearer/modem/LineBuffer", name := "<init>", desc := "(I)V" } : Jvm.MethodName) prog_38_method_1_code (2 : Nat) (Option.none : Option Jvm.ClassFile.FieldType)).before args0 about1 = true := code_word (m := ⟨3, 0⟩) (meth := k3m0) (c := k3c0) (by decide +kernel) rfl rfl rfl (by decide +kernel)
set_option maxRecDepth 65536 in
theorem w_c2 : (Jvm.Cond.code ({ cls := "java/lang/Object", name := "<init>", desc := "()V" } : Jvm.MethodName) object_method_1_code (1 : Nat) (Option.none : Option Jvm.ClassFile.FieldType)).before args0 about1 = true := code_word (m := ⟨0, 0⟩) (meth := k0m0) (c := k0c0) (by decide +kernel) rfl rfl rfl (by decide +kernel)
set_option maxRecDepth 65536 in
theorem w_c3 : (Jvm.Cond.code ({ cls := "com/example/bearer/bearer/modem/LineBuffer", name := "add", desc := "(B)Z" } : Jvm.MethodName) prog_38_method_2_code (3 : Nat) (Option.some Jvm.ClassFile.FieldType.boolean)).before args0 about1 = true := code_word (m := ⟨3, 1⟩) (meth := k3m1) (c := k3c1) (by decide +kernel) rfl rfl rfl (by decide +kernel)
set_option maxRecDepth 65536 in
theorem w_c4 : (Jvm.Cond.code ({ cls := "com/example/bearer/bearer/modem/LineBuffer", name := "clear", desc := "()V" } : Jvm.MethodName) prog_38_method_12_code (1 : Nat) (Option.none : Option Jvm.ClassFile.FieldType)).before args0 about1 = true := code_word (m := ⟨3, 4⟩) (meth := k3m4) (c := k3c4) (by decide +kernel) rfl rfl rfl (by decide +kernel)
set_option maxRecDepth 65536 in
theorem w_c5 : (Jvm.Cond.code ({ cls := "java/lang/Math", name := "min", desc := "(II)I" } : Jvm.MethodName) jdk_29_method_69_code (2 : Nat) (Option.some Jvm.ClassFile.FieldType.int)).before args0 about1 = true := code_word (m := ⟨4, 1⟩) (meth := k4m1) (c := k4c1) (by decide +kernel) rfl rfl rfl (by decide +kernel)
set_option maxRecDepth 65536 in
theorem w_c6 : (Jvm.Cond.code ({ cls := "com/example/bearer/bearer/modem/LineBuffer", name := "isEmpty", desc := "()Z" } : Jvm.MethodName) prog_38_method_4_code (1 : Nat) (Option.some Jvm.ClassFile.FieldType.boolean)).before args0 about1 = true := code_word (m := ⟨3, 2⟩) (meth := k3m2) (c := k3c2) (by decide +kernel) rfl rfl rfl (by decide +kernel)
set_option maxRecDepth 65536 in
theorem w_c7 : (Jvm.Cond.code ({ cls := "com/example/bearer/bearer/modem/LineBuffer", name := "length", desc := "()I" } : Jvm.MethodName) prog_38_method_6_code (1 : Nat) (Option.some Jvm.ClassFile.FieldType.int)).before args0 about1 = true := code_word (m := ⟨3, 3⟩) (meth := k3m3) (c := k3c3) (by decide +kernel) rfl rfl rfl (by decide +kernel)
def codes1 : List Jvm.Cond := [Jvm.Cond.code x code maxLocals ret, Jvm.Cond.code ({ cls := "com/example/bearer/bearer/modem/LineBuffer", name := "<init>", desc := "(I)V" } : Jvm.MethodName) prog_38_method_1_code (2 : Nat) (Option.none : Option Jvm.ClassFile.FieldType), Jvm.Cond.code ({ cls := "java/lang/Object", name := "<init>", desc := "()V" } : Jvm.MethodName) object_method_1_code (1 : Nat) (Option.none : Option Jvm.ClassFile.FieldType), Jvm.Cond.code ({ cls := "com/example/bearer/bearer/modem/LineBuffer", name := "add", desc := "(B)Z" } : Jvm.MethodName) prog_38_method_2_code (3 : Nat) (Option.some Jvm.ClassFile.FieldType.boolean), Jvm.Cond.code ({ cls := "com/example/bearer/bearer/modem/LineBuffer", name := "clear", desc := "()V" } : Jvm.MethodName) prog_38_method_12_code (1 : Nat) (Option.none : Option Jvm.ClassFile.FieldType), Jvm.Cond.code ({ cls := "java/lang/Math", name := "min", desc := "(II)I" } : Jvm.MethodName) jdk_29_method_69_code (2 : Nat) (Option.some Jvm.ClassFile.FieldType.int), Jvm.Cond.code ({ cls := "com/example/bearer/bearer/modem/LineBuffer", name := "isEmpty", desc := "()Z" } : Jvm.MethodName) prog_38_method_4_code (1 : Nat) (Option.some Jvm.ClassFile.FieldType.boolean), Jvm.Cond.code ({ cls := "com/example/bearer/bearer/modem/LineBuffer", name := "length", desc := "()I" } : Jvm.MethodName) prog_38_method_6_code (1 : Nat) (Option.some Jvm.ClassFile.FieldType.int)]
set_option maxRecDepth 65536 in
theorem codes_eq : words1.filter isCode = codes1 := rfl
theorem w_codes : ∀ c ∈ words1.filter isCode, c.before args0 about1 = true := by
  rw [codes_eq]
  intro c hc
  simp only [codes1, List.mem_cons, List.not_mem_nil, or_false] at hc
  rcases hc with rfl | rfl | rfl | rfl | rfl | rfl | rfl | rfl
  · exact w_c0
  · exact w_c1
  · exact w_c2
  · exact w_c3
  · exact w_c4
  · exact w_c5
  · exact w_c6
  · exact w_c7
set_option maxRecDepth 65536 in
theorem w_t1 : (words1.take 24).all (fun c => isCode c || c.before args0 about1) = true := by decide +kernel
set_option maxRecDepth 65536 in
theorem w_t2 : (words1.drop 24).all (fun c => isCode c || c.before args0 about1) = true := by decide +kernel
theorem w_tables : (allAtoms (Jvm.Cond.code x code maxLocals ret :: tables_1)).before args0 about1 = true := by
  rw [allAtoms_all]
  show words1.all (fun c => c.before args0 about1) = true
  refine all_split ?_ w_codes
  rw [← List.take_append_drop 24 words1, List.all_append, w_t1, w_t2]
  rfl
set_option maxRecDepth 65536 in
theorem w_case : (Jvm.Cond.and given_1 narrow_1).before args0 about1 = true := by decide +kernel
theorem w_applies : (headSpec (Jvm.Cond.code x code maxLocals ret :: tables_1) room_1).applies x e0.platform about1 = true :=
  (Spec.applies_iff w_frames).mpr ⟨w_running, w_runnable, w_alone, w_named, w_hears, w_ripe, w_room, w_tables⟩
theorem atStart : AtStart classFile x code maxLocals ret World_1 tables_1 room_1 Calls_1 rest_1 Pre_1 launch0 p0 e0 about1 theMethod args0 below0 :=
  ⟨lists_1, trivial, launch0.admits_env _ _ _, launch0.least_env, fairChoices_fair.cas, fairChoices_fair.clock, w_frames, w_args, w_heap, w_applies, trivial, trivial, w_case⟩
end start1
theorem witness_1 : WitnessClaimed_1 := ⟨start1.p0, start1.e0, start1.about1, start1.theMethod, start1.args0, start1.below0, start1.atStart⟩
end Jvm.Pilot.@@N@@
