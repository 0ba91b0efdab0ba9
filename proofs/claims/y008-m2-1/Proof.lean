import JvmDerived
import JvmDerived.Pilot.@@N@@Statement
import JvmDerived.Pilot.@@N@@Code
set_option linter.unusedVariables false
set_option linter.unusedSimpArgs false
namespace Jvm.RoadKit
open Sem ClassFile Op Lib Jvm.Stand Jvm.Free Jvm.LawKit
section New
variable {p : Program} {l : Launch} {e : Env} {R : Room} {s : State} {m : MethodId} {args : Array Value} {below : List Frame} {meth : Method} {c : Code} {T : State} {locs : List Loc} {cells slots : Nat}
theorem retI (X : Stand p l e R s m args below meth c T locs cells slots) (hx : p.tables.exec = Jvm.exec) {pc : Nat} {Ls : Array Slot} {z : Int32} {rest : List Value} (hret : meth.sig.returnType = some .int) (hd : decode c.code pc = .ok (.ireturn, 1)) {fs : List Frame}
    (hl : ∀ (f : JFrame) (acts : List Action), f.method = m → f.locked = none → f.entered = [] → (doReturn e (T.setTop f) acts (some (.int z))).1 = T.setFrames fs) : Steps p.tables e below (T.setTop (mkF m pc Ls (.int z :: rest))) (T.setFrames fs) := by
  have hm' : T.vm.method? m = some meth := X.method'
  have hn : narrow .int (.int z) = .int z := rfl
  show Steps p.tables e below (T.setTop { method := m, pc := pc, locals := Ls, stack := _ :: rest, locked := none }) _
  jvm_step X.here [X.here.top, hx, hd, hm', hret, hn]
  first | (intro acts; rw [hl _ acts rfl rfl rfl]) | rw [hl _ _ rfl rfl rfl]
  exact Steps.refl _
end New
end Jvm.RoadKit
namespace Jvm.Pilot.@@N@@
open Jvm Jvm.ClassFile Sem Op Lib Jvm.Free Jvm.Stand Jvm.LawKit Jvm.RoadKit Bundle Jvm.Pilot.@@N@@.Jvm.D
/-- the run from a frame of this method ends in a return with Q -/
def Go (p : Program) (e : Env) (s : State) (below : List Frame) (kc ks : Nat) (Q : Option Value → Heap → List Loc → Prop) (T : State) (f : JFrame) : Prop :=
  ∃ s₂ o, Steps p.tables e below (T.setTop f) s₂ ∧ s₂.status = .running ∧ Ended s₂ below o ∧ ∃ v L, o = .returned v ∧ Q v s₂.heap L ∧ FrameEnd s o s₂ L kc ks
/-- what is known of the method that runs -/
def Cx (p : Program) (s : State) (m : MethodId) (meth : Method) (c : Code) (Z : State) (own nm : String) (code : ByteArray) (maxL : Nat) (ret : Option FieldType) : Prop :=
  p.tables.exec = Jvm.exec ∧ Z.Warmed39 s.vm ∧ c.code = code ∧ c.maxLocals = maxL ∧ s.vm.findClass own = some m.cls ∧ meth.name = nm ∧ meth.sig.returnType = ret ∧ meth.locks = false
/-- a contract -/
def Ctr (l : Launch) (Z : State) (y : MethodName) (bytes : ByteArray) (maxL : Nat) (ret : Option FieldType) (ws : List Jvm.Cond) (rm : Room) (kc ks : Nat) (as : Array Value) (h : Heap) (Q : Option Value → Heap → List Loc → Prop) : Prop :=
  MetFree l y (head1 (Jvm.Cond.code y bytes maxL ret :: ws) rm) (fun a U => a = as ∧ Z.Warmed39 U.vm ∧ U.heap = h) (fun _ _ _ _ _ => True) (fun _ U o U' => ∃ v L, o = .returned v ∧ Q v U'.heap L ∧ FrameEnd U o U' L kc ks)
def bi (P : Prop) [Decidable P] : Int32 := if P then 1 else 0
theorem bi_t {P : Prop} [Decidable P] (h : P) : bi P = 1 := if_pos h
theorem bi_f {P : Prop} [Decidable P] (h : ¬ P) : bi P = 0 := if_neg h
theorem bi_n {P : Prop} [Decidable P] (h : P) : ¬ bi P = 0 := by rw [bi_t h]; decide
theorem bi_1 {P : Prop} [Decidable P] : bi P = 1 ↔ P := by unfold bi; split <;> simp_all
theorem bi_0 {P : Prop} [Decidable P] : bi P = 0 ↔ ¬ P := by unfold bi; split <;> simp_all
theorem bi_eq {P P' : Prop} [Decidable P] [Decidable P'] : bi P = bi P' ↔ (P ↔ P') := by unfold bi; split <;> split <;> simp_all
theorem bi_congr {P P' : Prop} [Decidable P] [Decidable P'] (h : P ↔ P') : bi P = bi P' := bi_eq.mpr h
theorem bi_fits {P : Prop} [Decidable P] : fits .boolean (.int (bi P)) = true := by unfold bi; split <;> rfl
theorem bi_nar {P : Prop} [Decidable P] : nar .boolean (bi P) = bi P := by unfold bi; split <;> rfl
section Own
variable {p : Program} {l : Launch} {e : Env} {R : Room} {s : State} {m : MethodId} {args : Array Value} {below : List Frame} {meth : Method} {c : Code} {T : State} {locs : List Loc} {cells slots kc ks : Nat} {Q : Option Value → Heap → List Loc → Prop} {Z : State} {a0 : Array Value} {h : Heap}
theorem Go.step {T' : State} {f f' : JFrame} (st : ∀ t, Steps p.tables e below (T'.setTop f') t → Steps p.tables e below (T.setTop f) t) (k : Go p e s below kc ks Q T' f') : Go p e s below kc ks Q T f := by
  obtain ⟨s₂, o, h1, r⟩ := k; exact ⟨s₂, o, st _ h1, r⟩
theorem Go.mono {Q' : Option Value → Heap → List Loc → Prop} {f : JFrame} (k : Go p e s below kc ks Q T f) (h : ∀ v h L, Q v h L → Q' v h L) : Go p e s below kc ks Q' T f := by
  obtain ⟨s₂, o, h1, h2, h3, v, L, h4, h5, h6⟩ := k; exact ⟨s₂, o, h1, h2, h3, v, L, h4, h _ _ _ h5, h6⟩
theorem Ctr.mk {y : MethodName} {bytes : ByteArray} {maxL : Nat} {ret : Option FieldType} {ws : List Jvm.Cond} {rm : Room} {as : Array Value} (hp : plainFor y = true)
    (hgo : ∀ (p : Program) (e : Env) (s : State) (m : MethodId) (below : List Frame) (meth : Method) (c : Code) (s₁ : State), Stand p l e rm s m as below meth c s₁ [] 0 0 → Cx p s m meth c Z y.cls y.name bytes maxL ret → s₁.heap = h → Go p e s below kc ks Q s₁ (entryFrame m as maxL)) :
    Ctr l Z y bytes maxL ret ws rm kc ks as h Q := by
  refine MetFree.of_bodySF hp hisR ?_
  intro p e s m args below meth c s₁ Bd hml0 hP hK
  obtain ⟨rfl, hZ, hh⟩ := hP
  exact hgo p e s m below meth c s₁ (Stand.of_body Bd) ⟨Bd.exec, hZ, Bd.bytes, hml0, findClass_of_methodNamed Bd.named, (name_of_methodNamed Bd.named Bd.method).1, Bd.returns, Bd.notSynchronized⟩ (by rw [← hh, Bd.state]; rfl)
theorem go_cast {f f' : JFrame} (q : f = f') (k : Go p e s below kc ks Q T f') : Go p e s below kc ks Q T f := q ▸ k
theorem go_retI (X : Stand p l e R s m args below meth c T locs cells slots) (hx : p.tables.exec = Jvm.exec) (hret : meth.sig.returnType = some .int) (hlk : meth.locks = false) {pc : Nat} {Ls : Array Slot} {z : Int32} {rest : List Value} (hd : decode c.code pc = .ok (.ireturn, 1))
    (hQ : Q (some (.int z)) T.heap locs) (hc : cells ≤ kc) (hs : slots ≤ ks) : Go p e s below kc ks Q T (mkF m pc Ls (.int z :: rest)) := by
  obtain ⟨fs, hr, hrun, hended, hW, hsame⟩ := X.leave (v := some (.int z)) (fun h => by rw [hret] at h; cases h) hlk
  exact ⟨_, _, retI X hx hret hd hr, hrun, hended, _, _, rfl, hQ, ⟨_, rfl⟩, hW, hsame.mono hc hs⟩
theorem go_retN (X : Stand p l e R s m args below meth c T locs cells slots) (hx : p.tables.exec = Jvm.exec) {t : FieldType} (hret : meth.sig.returnType = some t) (ht : t = .boolean ∨ t = .byte ∨ t = .char ∨ t = .short) (hlk : meth.locks = false) {pc : Nat} {Ls : Array Slot} {z w : Int32} {rest : List Value} (hd : decode c.code pc = .ok (.ireturn, 1))
    (hz : nar t z = w) (hQ : Q (some (.int w)) T.heap locs) (hc : cells ≤ kc) (hs : slots ≤ ks) : Go p e s below kc ks Q T (mkF m pc Ls (.int z :: rest)) := by
  subst hz
  obtain ⟨fs, hr, hrun, hended, hW, hsame⟩ := X.leave (v := some (.int (nar t z))) (fun h => by rw [hret] at h; cases h) hlk
  exact ⟨_, _, retN X hx hret ht hd hr, hrun, hended, _, _, rfl, hQ, ⟨_, rfl⟩, hW, hsame.mono hc hs⟩
theorem go_retJ (X : Stand p l e R s m args below meth c T locs cells slots) (hx : p.tables.exec = Jvm.exec) (hret : meth.sig.returnType = some .long) (hlk : meth.locks = false) {pc : Nat} {Ls : Array Slot} {z : Int64} (hd : decode c.code pc = .ok (.lreturn, 1))
    (hQ : Q (some (.long z)) T.heap locs) (hc : cells ≤ kc) (hs : slots ≤ ks) : Go p e s below kc ks Q T (mkF m pc Ls [.long z]) := by
  obtain ⟨fs, hr, hrun, hended, hW, hsame⟩ := X.leave (v := some (.long z)) (fun h => by rw [hret] at h; cases h) hlk
  exact ⟨_, _, X.lreturnOut hx hret hd hr, hrun, hended, _, _, rfl, hQ, ⟨_, rfl⟩, hW, hsame.mono hc hs⟩
theorem go_retA (X : Stand p l e R s m args below meth c T locs cells slots) (hx : p.tables.exec = Jvm.exec) {t : FieldType} (hret : meth.sig.returnType = some t) (ht : t.isReference = true) (hlk : meth.locks = false) {pc : Nat} {Ls : Array Slot} {w : Value} {rest : List Value} (hw : w.isRef = true) (hd : decode c.code pc = .ok (.areturn, 1))
    (hQ : Q (some w) T.heap locs) (hc : cells ≤ kc) (hs : slots ≤ ks) : Go p e s below kc ks Q T (mkF m pc Ls (w :: rest)) := by
  obtain ⟨fs, hr, hrun, hended, hW, hsame⟩ := X.leave (v := some w) (fun h => by rw [hret] at h; cases h) hlk
  have hn : narrow t w = w := by cases t <;> first | rfl | simp [FieldType.isReference] at ht
  exact ⟨_, _, retOut X hx hret hn (Or.inr (Or.inr (Or.inr (Or.inr ⟨rfl, ht, hw⟩)))) hd hr, hrun, hended, _, _, rfl, hQ, ⟨_, rfl⟩, hW, hsame.mono hc hs⟩
theorem go_ret (X : Stand p l e R s m args below meth c T locs cells slots) (hx : p.tables.exec = Jvm.exec) (hret : meth.sig.returnType = none) (hlk : meth.locks = false) {pc : Nat} {Ls : Array Slot} (hd : decode c.code pc = .ok (.return_, 1))
    (hQ : Q none T.heap locs) (hc : cells ≤ kc) (hs : slots ≤ ks) : Go p e s below kc ks Q T (mkF m pc Ls []) := by
  obtain ⟨fs, hr, hrun, hended, hW, hsame⟩ := X.leave (v := none) (fun _ => rfl) hlk
  exact ⟨_, _, X.returnOut hx hret hd hr, hrun, hended, _, _, rfl, hQ, ⟨_, rfl⟩, hW, hsame.mono hc hs⟩
/-! calls by a contract -/
section Calls
variable {own : String} {index : Nat} {y : MethodName} {bytes : ByteArray} {maxL : Nat} {ret r : Option FieldType} {rm : Room} {Qc : Option Value → Heap → List Loc → Prop} {argsL rest : List Value} {ps : List FieldType} {pc W : Nat} {Ls : Array Slot} {a : Addr}
theorem c_static (X : Stand p l e R s m args below meth c T locs cells slots) (hx : p.tables.exec = Jvm.exec) (hZ : Z.Warmed39 s.vm) (hown : s.vm.findClass own = some m.cls)
    (w1 : (Jvm.Cond.methodLink own index y).before a0 Z = true) (w2 : (Jvm.Cond.static y).before a0 Z = true) (w3 : (Jvm.Cond.initialized y.cls).before a0 Z = true) (w4 : (Jvm.Cond.code y bytes maxL ret).before a0 Z = true) (hy : y.cls ≠ "java/lang/invoke/MethodHandle" ∧ y.cls ≠ "java/lang/invoke/VarHandle")
    (hC : Ctr l Z y bytes maxL ret [] rm rm.cells rm.slots argsL.toArray h Qc) (eT : T.heap = h) (hpd : parseMethodDescriptor y.desc = some ⟨ps, r⟩) (hlen : argsL.length = ps.length) (hsz : Ls.size = c.maxLocals) (hW : 2 * 0 + (rest.map fun v => v.category).sum ≤ W)
    (hf : rm.frames + 1 ≤ R.frames) (hl : W + (maxL + 11) + rm.locals ≤ R.locals) (hc : cells + rm.cells ≤ R.cells) (hs : slots + rm.slots ≤ R.slots) (hd : decode c.code pc = .ok (.invokestatic index, 3)) :
    ∃ (v : Option Value) (T' : State) (L : List Loc), Stand p l e R s m args below meth c T' (locs ++ L) (cells + rm.cells) (slots + rm.slots) ∧ Qc v T'.heap L ∧
      ∀ t, Steps p.tables e below (T'.setTop (mkF m (pc + 3) Ls (v.toList ++ rest))) t → Steps p.tables e below (T.setTop (mkF m pc Ls (argsL.reverse ++ rest))) t := by
  obtain ⟨v, _, ⟨T', L', k', n'⟩, -, X', ⟨L, hQ, rfl, rfl, rfl⟩, st⟩ := Jvm.LawKit.callS X hx (y := y) hown (mvT hZ w1) (mvT hZ w2) (mvT hZ w3) (mvT hZ w4) hy (backOf (W := W) hC hZ w4 w3 hf hl) (g := mkF m pc Ls (argsL.reverse ++ rest)) rfl hsz (argsL := argsL) (rest := rest) (lenOf hpd hlen) rfl hW hd (fun _ _ => ⟨rfl, eT, hc, hs⟩)
  exact ⟨v, T', L, X', hQ, st⟩
theorem c_init (X : Stand p l e R s m args below meth c T locs cells slots) (hx : p.tables.exec = Jvm.exec) (hZ : Z.Warmed39 s.vm) (hown : s.vm.findClass own = some m.cls)
    (w1 : (Jvm.Cond.methodLink own index y).before a0 Z = true) (w2 : (Jvm.Cond.instanceMethod y).before a0 Z = true) (w3 : (Jvm.Cond.initialized y.cls).before a0 Z = true) (w4 : (Jvm.Cond.code y bytes maxL none).before a0 Z = true) (hn : y.name = "<init>") (hy : y.cls ≠ "java/lang/invoke/MethodHandle" ∧ y.cls ≠ "java/lang/invoke/VarHandle")
    (hC : Ctr l Z y bytes maxL none [] rm rm.cells rm.slots (.ref a :: argsL).toArray h Qc) (eT : T.heap = h) (hpd : parseMethodDescriptor y.desc = some ⟨ps, r⟩) (hlen : argsL.length = ps.length) (hsz : Ls.size = c.maxLocals) (hW : 2 * 0 + (rest.map fun v => v.category).sum ≤ W)
    (hf : rm.frames + 1 ≤ R.frames) (hl : W + (maxL + 11) + rm.locals ≤ R.locals) (hc : cells + rm.cells ≤ R.cells) (hs : slots + rm.slots ≤ R.slots) (hd : decode c.code pc = .ok (.invokespecial index, 3)) :
    ∃ (v : Option Value) (T' : State) (L : List Loc), Stand p l e R s m args below meth c T' (locs ++ L) (cells + rm.cells) (slots + rm.slots) ∧ Qc v T'.heap L ∧
      ∀ t, Steps p.tables e below (T'.setTop (mkF m (pc + 3) Ls (v.toList ++ rest))) t → Steps p.tables e below (T.setTop (mkF m pc Ls (argsL.reverse ++ .ref a :: rest))) t := by
  obtain ⟨v, _, ⟨T', L', k', n'⟩, -, X', ⟨L, hQ, rfl, rfl, rfl⟩, st⟩ := X.specialBack hx (y := y) hn hown (mvT hZ w1) (mvT hZ w2) (mvT hZ w4) hy (backOf (W := W) hC hZ w4 w3 hf hl) (g := mkF m pc Ls (argsL.reverse ++ .ref a :: rest)) rfl hsz (Steps.refl _) (a := a) (argsL := argsL) (rest := rest) (lenOf hpd hlen) rfl hW hd (fun _ _ => ⟨rfl, eT, hc, hs⟩)
  exact ⟨v, T', L, X', hQ, fun t k => st.trans k⟩
theorem c_virt {y' : MethodName} {C : String} (X : Stand p l e R s m args below meth c T locs cells slots) (hx : p.tables.exec = Jvm.exec) (hZ : Z.Warmed39 s.vm) (hown : s.vm.findClass own = some m.cls)
    (w1 : (Jvm.Cond.methodLink own index y').before a0 Z = true) (wd : (Jvm.Cond.declares y').before a0 Z = true) (nf : NotFace s y') (ws : (Jvm.Cond.selects C y' y).before a0 Z = true) (w2 : (Jvm.Cond.instanceMethod y).before a0 Z = true) (w3 : (Jvm.Cond.initialized y.cls).before a0 Z = true) (w4 : (Jvm.Cond.code y bytes maxL ret).before a0 Z = true) (hy : y'.cls ≠ "java/lang/invoke/MethodHandle" ∧ y'.cls ≠ "java/lang/invoke/VarHandle")
    (hC : Ctr l Z y bytes maxL ret [] rm rm.cells rm.slots (.ref a :: argsL).toArray h Qc) (eT : T.heap = h) (E : Exa Z h a C) (hpd : parseMethodDescriptor y'.desc = some ⟨ps, r⟩) (hlen : argsL.length = ps.length) (hsz : Ls.size = c.maxLocals) (hW : 2 * 0 + (rest.map fun v => v.category).sum ≤ W)
    (hf : rm.frames + 1 ≤ R.frames) (hl : W + (maxL + 11) + rm.locals ≤ R.locals) (hc : cells + rm.cells ≤ R.cells) (hs : slots + rm.slots ≤ R.slots) (hd : decode c.code pc = .ok (.invokevirtual index, 3)) :
    ∃ (v : Option Value) (T' : State) (L : List Loc), Stand p l e R s m args below meth c T' (locs ++ L) (cells + rm.cells) (slots + rm.slots) ∧ Qc v T'.heap L ∧
      ∀ t, Steps p.tables e below (T'.setTop (mkF m (pc + 3) Ls (v.toList ++ rest))) t → Steps p.tables e below (T.setTop (mkF m pc Ls (argsL.reverse ++ .ref a :: rest))) t := by
  obtain ⟨cq, kq, qa, qb, qc⟩ := isOf hZ eT E
  obtain ⟨v, _, ⟨T', L', k', n'⟩, -, X', ⟨L, hQ, rfl, rfl, rfl⟩, st⟩ := X.virtualBack hx (y := y') (z := y) hown (mvT hZ w1) (mvT hZ wd) nf (mvT hZ ws) (mvT hZ w2) hy (backOf (W := W) hC hZ w4 w3 hf hl) qa qc (g := mkF m pc Ls (argsL.reverse ++ .ref a :: rest)) rfl hsz (Steps.refl _) (argsL := argsL) (rest := rest) (lenOf hpd hlen) rfl hW hd (fun _ _ => ⟨rfl, eT, hc, hs⟩)
  exact ⟨v, T', L, X', hQ, fun t k => st.trans k⟩
theorem own_nf {y' z : MethodName} {C : String} {as : Array Value} (ws : (Jvm.Cond.selects C y' z).before as s = true) (h : z.cls = y.cls) : NotFace s y := fun r0 h0 => by
  obtain ⟨_, _, m2, -, -, q3, -, kP, hkP, hkPi⟩ := Cond.selects_spec ws
  have e1 := findClass_of_methodNamed q3
  rw [h] at e1
  have e2 : m2.cls = r0.cls := Option.some.inj (e1.symm.trans (findClass_of_methodNamed h0))
  exact ⟨kP, e2 ▸ hkP, hkPi⟩
/-- a private method of an object, by invokevirtual: its class isn't an interface (nf) -/
theorem c_priv {C : String} (X : Stand p l e R s m args below meth c T locs cells slots) (hx : p.tables.exec = Jvm.exec) (hZ : Z.Warmed39 s.vm) (hown : s.vm.findClass own = some m.cls)
    (w1 : (Jvm.Cond.methodLink own index y).before a0 Z = true) (w2 : (Jvm.Cond.instanceMethod y).before a0 Z = true) (nf : NotFace s y) (wp : (Jvm.Cond.privateMethod y).before a0 Z = true) (w3 : (Jvm.Cond.initialized y.cls).before a0 Z = true) (w4 : (Jvm.Cond.code y bytes maxL ret).before a0 Z = true) (hy : y.cls ≠ "java/lang/invoke/MethodHandle" ∧ y.cls ≠ "java/lang/invoke/VarHandle")
    (hC : Ctr l Z y bytes maxL ret [] rm rm.cells rm.slots (.ref a :: argsL).toArray h Qc) (eT : T.heap = h) (E : Exa Z h a C) (hpd : parseMethodDescriptor y.desc = some ⟨ps, r⟩) (hlen : argsL.length = ps.length) (hsz : Ls.size = c.maxLocals) (hW : 2 * 0 + (rest.map fun v => v.category).sum ≤ W)
    (hf : rm.frames + 1 ≤ R.frames) (hl : W + (maxL + 11) + rm.locals ≤ R.locals) (hc : cells + rm.cells ≤ R.cells) (hs : slots + rm.slots ≤ R.slots) (hd : decode c.code pc = .ok (.invokevirtual index, 3)) :
    ∃ (v : Option Value) (T' : State) (L : List Loc), Stand p l e R s m args below meth c T' (locs ++ L) (cells + rm.cells) (slots + rm.slots) ∧ Qc v T'.heap L ∧
      ∀ t, Steps p.tables e below (T'.setTop (mkF m (pc + 3) Ls (v.toList ++ rest))) t → Steps p.tables e below (T.setTop (mkF m pc Ls (argsL.reverse ++ .ref a :: rest))) t := by
  obtain ⟨cq, qa, qb⟩ := E.cell
  obtain ⟨mk, methM, hnamed, hmethM, hstM, habM⟩ := Cond.instanceMethod_spec (mvT (args := args) hZ w2)
  obtain ⟨methM', cM, hmethM', -, -, -, -, -, -, hsigM⟩ := Cond.code_spec hnamed (mvT (args := args) hZ w4)
  cases hmethM.symm.trans hmethM'
  obtain ⟨kP, hkP, hkPi⟩ := nf mk hnamed
  have hsel : selectMethod e.platform s.vm cq.cls mk = .method mk := selectMethod_private hmethM ((Cond.privateMethod_at (mvP hZ wp (args := #[]))) mk methM hnamed hmethM)
  obtain ⟨vm₁, X₁, hst⟩ := X.invokevirtual hx hown (mvT hZ w1) hnamed hmethM hstM hkP hkPi hy (a := a) (cell := cq) (by rw [eT]; exact qa) qb hsel hmethM habM hkP hkPi (g := mkF m pc Ls (argsL.reverse ++ .ref a :: rest)) rfl (argsL := argsL) (rest := rest) (lenOf hpd hlen _ hsigM) rfl hd
  obtain ⟨v, ⟨T', L', k', n'⟩, X', ⟨L, hQ, rfl, rfl, rfl⟩, hgo⟩ := (backOf (W := W) (len := 3) hC hZ w4 w3 hf hl) m meth c ⟨T.setVm vm₁, locs, cells, slots⟩ (mkF m pc Ls rest) (.invokevirtual index) mk (.ref a :: argsL).toArray X₁ rfl hsz hd hW (X₁.named hnamed) ⟨rfl, eT, hc, hs⟩
  exact ⟨v, T', L, X', hQ, fun t k => ((hst _ fun acts => by rw [doInvoke_state]; exact Steps.refl _).trans hgo).trans k⟩
/-- invokevirtual of a method that a class above the one that the entry names declares -/
theorem c_virtUp {y' : MethodName} {C owner : String} (X : Stand p l e R s m args below meth c T locs cells slots) (hx : p.tables.exec = Jvm.exec) (hZ : Z.Warmed39 s.vm) (hown : s.vm.findClass own = some m.cls)
    (w1 : (Jvm.Cond.methodLink own index y').before a0 Z = true) (wm : (Jvm.Cond.sameMethod y'.cls owner y'.name y'.desc).before a0 Z = true) (wd : (Jvm.Cond.declares ⟨owner, y'.name, y'.desc⟩).before a0 Z = true) (ws : (Jvm.Cond.selects C y' y).before a0 Z = true) (w2 : (Jvm.Cond.instanceMethod y).before a0 Z = true) (w3 : (Jvm.Cond.initialized y.cls).before a0 Z = true) (w4 : (Jvm.Cond.code y bytes maxL ret).before a0 Z = true) (hy : owner ≠ "java/lang/invoke/MethodHandle" ∧ owner ≠ "java/lang/invoke/VarHandle")
    (hC : Ctr l Z y bytes maxL ret [] rm rm.cells rm.slots (.ref a :: argsL).toArray h Qc) (eT : T.heap = h) (E : Exa Z h a C) (hpd : parseMethodDescriptor y'.desc = some ⟨ps, r⟩) (hlen : argsL.length = ps.length) (hsz : Ls.size = c.maxLocals) (hW : 2 * 0 + (rest.map fun v => v.category).sum ≤ W)
    (hf : rm.frames + 1 ≤ R.frames) (hl : W + (maxL + 11) + rm.locals ≤ R.locals) (hc : cells + rm.cells ≤ R.cells) (hs : slots + rm.slots ≤ R.slots) (hd : decode c.code pc = .ok (.invokevirtual index, 3)) :
    ∃ (v : Option Value) (T' : State) (L : List Loc), Stand p l e R s m args below meth c T' (locs ++ L) (cells + rm.cells) (slots + rm.slots) ∧ Qc v T'.heap L ∧
      ∀ t, Steps p.tables e below (T'.setTop (mkF m (pc + 3) Ls (v.toList ++ rest))) t → Steps p.tables e below (T.setTop (mkF m pc Ls (argsL.reverse ++ .ref a :: rest))) t := by
  obtain ⟨cq, kq, qa, qb, qc⟩ := isOf hZ eT E
  obtain ⟨v, _, ⟨T', L', k', n'⟩, -, X', ⟨L, hQ, rfl, rfl, rfl⟩, st⟩ := X.virtualBackUp hx (x := y') (y := y) hown (mvT hZ w1) (mvT hZ wm) (mvT hZ wd) hy (mvT hZ ws) (mvT hZ w2) (backOf (W := W) hC hZ w4 w3 hf hl) qa qc (g := mkF m pc Ls (argsL.reverse ++ .ref a :: rest)) rfl hsz (Steps.refl _) (argsL := argsL) (rest := rest) (lenOf hpd hlen) rfl hW hd (fun _ _ => ⟨rfl, eT, hc, hs⟩)
  exact ⟨v, T', L, X', hQ, fun t k => st.trans k⟩
end Calls
end Own
/-! arrays by a function of the place -/
def upd (f : Nat → Value) (k : Nat) (v : Value) : Nat → Value := fun i => if i = k then v else f i
def lst (L : List Value) : Nat → Value := fun i => L.getD i .null
theorem upd_eq {f : Nat → Value} {k : Nat} {v : Value} : upd f k v k = v := if_pos rfl
theorem upd_ne {f : Nat → Value} {k i : Nat} {v : Value} (h : i ≠ k) : upd f k v i = f i := if_neg h
def AV (Z : State) (h : Heap) (a : Addr) (ty : FieldType) (n : Nat) (f : Nat → Value) : Prop := ∃ c : Cell, Arr Z h a c ty ∧ c.slots.size = n ∧ n < 2147483648 ∧ ∀ i, i < n → c.slots[i]? = some (f i)
section Arrays
variable {Z : State} {h h' : Heap} {a b : Addr} {ty : FieldType} {n k : Nat} {f g : Nat → Value} {v w : Value} {j : Int32} {ws : List Addr} {sl : Nat}
theorem AV.lt (A : AV Z h a ty n f) : a < h.size := by obtain ⟨c, A, -⟩ := A; exact A.lt
theorem AV.ext (A : AV Z h a ty n f) (E : Ext h h') : AV Z h' a ty n f := by obtain ⟨c, A, r⟩ := A; exact ⟨c, A.ext E, r⟩
theorem AV.other (A : AV Z h b ty n f) (W : Wr h h' a sl v) (q : b ≠ a) : AV Z h' b ty n f := by obtain ⟨c, A, r⟩ := A; exact ⟨c, A.other W q, r⟩
theorem AV.keep (A : AV Z h a ty n f) (K : Keep h h' ws) (q : a ∉ ws) : AV Z h' a ty n f := by obtain ⟨c, A, r⟩ := A; exact ⟨c, ⟨K.2.1 a c A.1 q, A.2⟩, r⟩
theorem AV.congr (A : AV Z h a ty n f) (q : ∀ i, i < n → f i = g i) : AV Z h a ty n g := by obtain ⟨c, A, r1, r2, r3⟩ := A; exact ⟨c, A, r1, r2, fun i hi => by rw [r3 i hi, q i hi]⟩
theorem AV.bound (A : AV Z h a ty n f) : n < 2147483648 := by obtain ⟨c, A, r1, r2, r3⟩ := A; exact r2
theorem clamp_of (hj : j.toInt = (k : Int)) : j.toNatClampNeg = k := by show j.toInt.toNat = k; rw [hj]; rfl
theorem in_of {c : Cell} (hj : j.toInt = (k : Int)) (hs : c.slots.size = n) (hk : k < n) : ¬ (j < 0 ∨ c.slots.size ≤ j.toNatClampNeg) := by
  rw [clamp_of hj, hs, Int32.lt_iff_toInt_lt, hj]; simp only [Int32.reduceToInt]; omega
theorem AV.new {cA : ClassId} {z : Int32} (A : Arr Z h a (newA cA ty z) ty) (hz : z.toInt = (n : Int)) : AV Z h a ty n (fun _ => defaultValue ty) := by
  have q := clamp_of hz
  have hb := Int32.toInt_lt z
  refine ⟨_, A, by rw [sz_new]; exact q, by omega, fun i hi => ?_⟩
  have hi' : i < z.toNatClampNeg := by rw [q]; exact hi
  simp [newA, hi']
theorem AV.at (A : AV Z h a ty n f) (hj : j.toInt = (k : Int)) (hk : k < n) : ∃ cl : Cell, Arr Z h a cl ty ∧ ¬ (j < 0 ∨ cl.slots.size ≤ j.toNatClampNeg) ∧ cl.slots[j.toNatClampNeg]? = some (f k) := by
  obtain ⟨c, A, r1, r2, r3⟩ := A
  exact ⟨c, A, in_of hj r1 hk, by rw [clamp_of hj]; exact r3 k hk⟩
theorem AV.set (A : AV Z h a ty n f) (hj : j.toInt = (k : Int)) (hk : k < n) (W : Wr h h' a j.toNatClampNeg v) : AV Z h' a ty n (upd f k v) := by
  obtain ⟨c, A, r1, r2, r3⟩ := A
  refine ⟨_, A.same W, by rw [sz_set]; exact r1, r2, fun i hi => ?_⟩
  rw [clamp_of hj]
  by_cases e : i = k
  · subst e; simp [Cell.setSlot, r1, hi, upd]
  · rw [upd_ne e, ← r3 i hi]; exact Array.getElem?_setIfInBounds_ne (Ne.symm e)
theorem AV.setL {L L' : List Value} (A : AV Z h a ty n (lst L)) (hj : j.toInt = (k : Int)) (hk : k < n) (W : Wr h h' a j.toNatClampNeg v) (hl : k < L.length) (e : L.set k v = L') : AV Z h' a ty n (lst L') := by
  subst e
  refine (A.set hj hk W).congr fun i hi => ?_
  by_cases q : i = k
  · subst q; simp [upd, lst, List.getD_eq_getElem?_getD, hl]
  · rw [upd_ne q]; simp [lst, List.getD_eq_getElem?_getD, List.getElem?_set_ne (Ne.symm q)]
theorem AV.newL {L : List Value} (A : AV Z h a ty n (fun _ => v)) (e : L = List.replicate n v) : AV Z h a ty n (lst L) := by
  subst e; refine A.congr fun i hi => ?_
  simp [lst, List.getD_eq_getElem?_getD, List.getElem?_replicate, hi]
theorem AV.len (A : AV Z h a ty n f) : ∃ cl : Cell, Arr Z h a cl ty ∧ cl.slots.size.toInt32 = Int32.ofNat n := by
  obtain ⟨c, A, r1, r2, r3⟩ := A; exact ⟨c, A, by rw [r1]⟩
theorem own_cls {cA : ClassId} {z : Int32} {ad : String} (A : Arr Z h a (newA cA ty z) ty) (E : Exa Z h a ad) : Z.vm.findClass ad = some cA := by
  obtain ⟨cell, k, e1, e2, -⟩ := E
  cases A.1.symm.trans e1
  exact e2
theorem own_sto {cA : ClassId} {cl : Cell} {ad C : String} {y : Addr} (A : Arr Z h a cl ty) (E : Exa Z h a ad) (hA : Z.vm.findClass ad = some cA) (O : Ovr Z cA C) (I : Ins Z h y C true) : Sto Z h a (.ref y) := by
  obtain ⟨cell, k, e1, e2, -⟩ := E
  cases A.1.symm.trans e1
  have q : cl.cls = cA := Option.some.inj (e2.symm.trans hA)
  exact Sto.of A (q ▸ O) I
theorem own_sta_keep {C n' d : String} (F : Sta Z h C n' d v) (K : Keep h h' []) : Sta Z h' C n' d v := by
  obtain ⟨cf, i, k, f, st, cell, h1, h2, h3, h4, h5, h6, h7⟩ := F
  exact ⟨cf, i, k, f, st, cell, h1, h2, h3, h4, K.2.1 _ _ h5 (fun q => nomatch q), h6, h7⟩
end Arrays
section ASteps
variable {p : Program} {l : Launch} {e : Env} {R : Room} {s : State} {m : MethodId} {args : Array Value} {below : List Frame} {meth : Method} {c : Code} {T : State} {locs : List Loc} {cells slots : Nat} {Z : State} {a0 : Array Value} {h : Heap} {a : Addr} {n k pc : Nat} {f : Nat → Value} {j : Int32} {Ls : Array Slot} {rest : List Value}
theorem a_iload (X : Stand p l e R s m args below meth c T locs cells slots) (hx : p.tables.exec = Jvm.exec) (hZ : Z.Warmed39 s.vm) (eT : T.heap = h) (A : AV Z h a .int n f) (hj : j.toInt = (k : Int)) (hk : k < n) {x : Int32} (hv : f k = .int x) (hd : decode c.code pc = .ok (.iaload, 1)) :
    ∀ t, Steps p.tables e below (T.setTop (mkF m (pc + 1) Ls (.int x :: rest))) t → Steps p.tables e below (T.setTop (mkF m pc Ls (.int j :: .ref a :: rest))) t := by
  obtain ⟨cl, A, hin, hat⟩ := A.at hj hk
  rw [hv] at hat
  exact X.iaload hx (j := j) (v := .int x) (by rw [eT]; exact A.1) (State.isArrayOf_alike hZ.alike A.2.1) A.2.2 hin hat (g := mkF m pc Ls (.int j :: .ref a :: rest)) rfl rfl hd
theorem a_cload (X : Stand p l e R s m args below meth c T locs cells slots) (hx : p.tables.exec = Jvm.exec) (hZ : Z.Warmed39 s.vm) (eT : T.heap = h) (A : AV Z h a .char n f) (hj : j.toInt = (k : Int)) (hk : k < n) {x : Int32} (hv : f k = .int x) (hd : decode c.code pc = .ok (.caload, 1)) :
    ∀ t, Steps p.tables e below (T.setTop (mkF m (pc + 1) Ls (.int x :: rest))) t → Steps p.tables e below (T.setTop (mkF m pc Ls (.int j :: .ref a :: rest))) t := by
  obtain ⟨cl, A, hin, hat⟩ := A.at hj hk
  rw [hv] at hat
  exact X.caload hx (j := j) (v := .int x) (by rw [eT]; exact A.1) (State.isArrayOf_alike hZ.alike A.2.1) A.2.2 hin hat (g := mkF m pc Ls (.int j :: .ref a :: rest)) rfl rfl hd
theorem a_bload (X : Stand p l e R s m args below meth c T locs cells slots) (hx : p.tables.exec = Jvm.exec) (hZ : Z.Warmed39 s.vm) (eT : T.heap = h) (A : AV Z h a .byte n f) (hj : j.toInt = (k : Int)) (hk : k < n) {x : Int32} (hv : f k = .int x) (hd : decode c.code pc = .ok (.baload, 1)) :
    ∀ t, Steps p.tables e below (T.setTop (mkF m (pc + 1) Ls (.int x :: rest))) t → Steps p.tables e below (T.setTop (mkF m pc Ls (.int j :: .ref a :: rest))) t := by
  obtain ⟨cl, A, hin, hat⟩ := A.at hj hk
  rw [hv] at hat
  exact X.baloadBytes hx (j := j) (v := .int x) (by rw [eT]; exact A.1) (State.isArrayOf_alike hZ.alike A.2.1) A.2.2 hin hat (g := mkF m pc Ls (.int j :: .ref a :: rest)) rfl rfl hd
theorem a_jload (X : Stand p l e R s m args below meth c T locs cells slots) (hx : p.tables.exec = Jvm.exec) (hZ : Z.Warmed39 s.vm) (eT : T.heap = h) (A : AV Z h a .long n f) (hj : j.toInt = (k : Int)) (hk : k < n) {x : Int64} (hv : f k = .long x) (hd : decode c.code pc = .ok (.laload, 1)) :
    ∀ t, Steps p.tables e below (T.setTop (mkF m (pc + 1) Ls (.long x :: rest))) t → Steps p.tables e below (T.setTop (mkF m pc Ls (.int j :: .ref a :: rest))) t := by
  obtain ⟨cl, A, hin, hat⟩ := A.at hj hk
  rw [hv] at hat
  exact X.laload hx (j := j) (v := .long x) (by rw [eT]; exact A.1) (State.isArrayOf_alike hZ.alike A.2.1) A.2.2 hin hat (g := mkF m pc Ls (.int j :: .ref a :: rest)) rfl rfl hd
theorem a_rload {ty : FieldType} (X : Stand p l e R s m args below meth c T locs cells slots) (hx : p.tables.exec = Jvm.exec) (hZ : Z.Warmed39 s.vm) (eT : T.heap = h) (A : AV Z h a ty n f) (ht : ty.isReference = true) (hj : j.toInt = (k : Int)) (hk : k < n) {v : Value} (hv : f k = v) (hd : decode c.code pc = .ok (.aaload, 1)) :
    ∀ t, Steps p.tables e below (T.setTop (mkF m (pc + 1) Ls (v :: rest))) t → Steps p.tables e below (T.setTop (mkF m pc Ls (.int j :: .ref a :: rest))) t := by
  obtain ⟨cl, A, hin, hat⟩ := A.at hj hk
  rw [hv] at hat
  exact X.aaload hx (j := j) (v := v) (by rw [eT]; exact A.1) (State.isArrayOf_alike hZ.alike A.2.1) ht A.2.2 hin hat (g := mkF m pc Ls (.int j :: .ref a :: rest)) rfl rfl hd
theorem a_len {ty : FieldType} (X : Stand p l e R s m args below meth c T locs cells slots) (hx : p.tables.exec = Jvm.exec) (hZ : Z.Warmed39 s.vm) (eT : T.heap = h) (A : AV Z h a ty n f) {z : Int32} (hz : z.toInt = (n : Int)) (hd : decode c.code pc = .ok (.arraylength, 1)) :
    ∀ t, Steps p.tables e below (T.setTop (mkF m (pc + 1) Ls (.int z :: rest))) t → Steps p.tables e below (T.setTop (mkF m pc Ls (.ref a :: rest))) t := by
  obtain ⟨cl, A, hin⟩ := A.len
  have hb := Int32.toInt_lt z
  have q : cl.slots.size.toInt32 = z := by rw [hin]; exact Int32.toInt_inj.mp (by rw [hz]; exact Int32.toInt_ofNat_of_lt (by omega))
  intro t k
  refine X.arraylength hx (by rw [eT]; exact A.1) (State.isArrayOf_alike hZ.alike A.2.1) (g := mkF m pc Ls (.ref a :: rest)) rfl rfl hd _ ?_
  rw [q]; exact k
end ASteps
abbrev gc (x : Int32) : Int32 := (((((x >>> ((0 : Int32) &&& 31)).toInt8.toInt32 &&& (255 : Int32)) <<< ((0 : Int32) &&& 31)) ||| (((x >>> ((8 : Int32) &&& 31)).toInt8.toInt32 &&& (255 : Int32)) <<< ((8 : Int32) &&& 31))).toUInt32.toUInt16.toUInt32.toInt32)
theorem own_gc (x : Int32) (h0 : 0 ≤ x.toInt) (h1 : x.toInt < 65536) : gc x = x := by
  have e0 : ((2 ^ 0 : Nat) : Int) = 1 := rfl
  have e8 : ((2 ^ 8 : Nat) : Int) = 256 := rfl
  unfold gc
  have a1 := c_ishr x 0 0 (by decide); have a2 := c_i2b (x >>> ((0 : Int32) &&& 31)); have a3 := c_mask (x >>> ((0 : Int32) &&& 31)).toInt8.toInt32 255 8 (by decide) (by decide); have a4 := c_ishl ((x >>> ((0 : Int32) &&& 31)).toInt8.toInt32 &&& 255) 0 0 (by decide)
  have b1 := c_ishr x 8 8 (by decide); have b2 := c_i2b (x >>> ((8 : Int32) &&& 31)); have b3 := c_mask (x >>> ((8 : Int32) &&& 31)).toInt8.toInt32 255 8 (by decide) (by decide); have b4 := c_ishl ((x >>> ((8 : Int32) &&& 31)).toInt8.toInt32 &&& 255) 8 8 (by decide)
  rw [e0] at a1 a4; rw [e8] at a3 b1 b3 b4
  generalize ((x >>> ((0 : Int32) &&& 31)).toInt8.toInt32 &&& 255) <<< ((0 : Int32) &&& 31) = lo at *
  generalize ((x >>> ((8 : Int32) &&& 31)).toInt8.toInt32 &&& 255) <<< ((8 : Int32) &&& 31) = hi at *
  have r1 := rng32 lo; have r2 := rng32 hi
  have c1 := c_or hi lo 8 (by decide) 256 rfl (by omega) (by omega) (by omega)
  rw [Int32.or_comm lo hi]
  have c2 := c_i2c (hi ||| lo)
  refine Int32.toInt_inj.mp ?_
  omega
theorem own_b8 (x : Int32) (h0 : 0 ≤ x.toInt) (h1 : x.toInt < 256) (k : Int32) (hk : 0 ≤ k.toInt ∧ k.toInt < 128) : x.toInt8.toInt32 = k.toInt8.toInt32 ↔ x = k := by
  have a := c_i2b x; have b := c_i2b k
  rw [← Int32.toInt_inj, ← Int32.toInt_inj]
  omega
theorem own_nc (x : Int32) : nar .char x.toUInt32.toUInt16.toUInt32.toInt32 = x.toUInt32.toUInt16.toUInt32.toInt32 := by
  show x.toUInt32.toUInt16.toUInt32.toInt32.toUInt32.toUInt16.toUInt32.toInt32 = x.toUInt32.toUInt16.toUInt32.toInt32
  rw [UInt32.toUInt32_toInt32, UInt16.toUInt16_toUInt32]
theorem own_nb (x : Int32) : nar .byte x.toInt8.toInt32 = x.toInt8.toInt32 := by
  show x.toInt8.toInt32.toInt8.toInt32 = x.toInt8.toInt32
  rw [Int8.toInt8_toInt32]
def NSt (h : Heap) (a : Addr) : Prop := ∀ c, h[a]? = some c → c.vm.isStatics = false
theorem Exa.nst {Z : State} {h : Heap} {a : Addr} {C : String} (E : Exa Z h a C) : NSt h a := fun c hc => by
  obtain ⟨cell, k, h1, -, -, h4, -⟩ := E
  cases h1.symm.trans hc
  exact h4
theorem AV.nst {Z : State} {h : Heap} {a : Addr} {ty : FieldType} {n : Nat} {f : Nat → Value} (A : AV Z h a ty n f) : NSt h a := fun c hc => by
  obtain ⟨cell, A, -⟩ := A
  have q := A.2.1.1
  have e : cell = c := Option.some.inj (A.1.symm.trans hc)
  rw [← e]
  cases hv : cell.vm <;> first | rfl | exact absurd hv (q _)
theorem own_sta_keepW {Z : State} {h h' : Heap} {C n d : String} {v : Value} {ws : List Addr} (F : Sta Z h C n d v) (K : Keep h h' ws) (q : ∀ x ∈ ws, NSt h x) : Sta Z h' C n d v := by
  obtain ⟨cf, i, k, f, st, cell, h1, h2, h3, h4, h5, h6, h7⟩ := F
  exact ⟨cf, i, k, f, st, cell, h1, h2, h3, h4, K.2.1 _ _ h5 (fun z => by have := q _ z _ h5; rw [h6] at this; cases this), h6, h7⟩
theorem own_ne0 {args : Array Value} {s : State} {t : Term} {x : Int32} (ev : t.eval args s none [] s = some (.int x)) (h : (Cond.not (Cond.eq t (.int 0))).value args s none s [] = some true) : ¬ x = 0 := by
  have hb : (Term.int 0).eval args s none [] s = some (.int 0) := rfl
  simpa [Cond.value, ev, hb] using h
theorem own_sti {args : Array Value} {s : State} {t : Term} {k : Int32} (h : (Cond.eq t (.int k)).value args s none s [] = some true) : t.eval args s none [] s = some (.int k) := by
  obtain ⟨x, y, ha, hb, -⟩ := cmp_v (Or.inl h)
  have hy : y = .int k := (Option.some.inj hb).symm
  subst hy
  have hx : x = .int k := by
    simp only [Cond.value, ha, hb] at h
    cases x <;> simp at h
    rw [h]
  rw [ha, hx]
theorem own_ref {args : Array Value} {s : State} {t : Term} (h : (Cond.isRef t).value args s none s [] = some true) : ∃ v, t.eval args s none [] s = some v ∧ v.category = 1 := by
  cases hv : t.eval args s none [] s with
  | none => simp [Cond.value, hv] at h
  | some v => exact ⟨v, rfl, by cases v <;> first | rfl | (simp [Cond.value, hv] at h)⟩
abbrev mn (a b : Int32) : Int32 := if b < a then b else a
abbrev mx (a b : Int32) : Int32 := if a < b then b else a
abbrev ix (p : Prop) [Decidable p] : Int32 := if p then (0 : Int32) else (-1 : Int32)
theorem ef_rm5L (m : MethodId) (x0 : Addr) (x1 : Int32) (x2 : Addr) (x3 : Int32) (x4 : Int32) : entryFrame m #[(.ref x0), (.int x1), (.ref x2), (.int x3), (.int x4)] 7 = mkF m 0 #[.val (.ref x0), .val (.int x1), .val (.ref x2), .val (.int x3), .val (.int x4), .unset, .unset] [] := by first | (simp [entryFrame, mkF, argsToLocals, Value.category]; done) | rfl
theorem pn_0 : plainName "java/lang/StringUTF16" = true := by first | (simp [plainName, overriddenIn]; done) | decide +kernel
theorem d5_0 : decode jdk_52_method_21_code 0 = .ok (.iconst 0, 1) := by decide +kernel
theorem d5_1 : decode jdk_52_method_21_code 1 = .ok (.istore 5, 2) := by decide +kernel
theorem d5_3 : decode jdk_52_method_21_code 3 = .ok (.iload 5, 2) := by decide +kernel
theorem d5_5 : decode jdk_52_method_21_code 5 = .ok (.iload 4, 2) := by decide +kernel
theorem d5_7 : decode jdk_52_method_21_code 7 = .ok (.if_icmp .ge 37, 3) := by decide +kernel
theorem d5_10 : decode jdk_52_method_21_code 10 = .ok (.aload_n 0, 1) := by decide +kernel
theorem d5_11 : decode jdk_52_method_21_code 11 = .ok (.iload_n 1, 1) := by decide +kernel
theorem d5_12 : decode jdk_52_method_21_code 12 = .ok (.caload, 1) := by decide +kernel
theorem d5_13 : decode jdk_52_method_21_code 13 = .ok (.istore 6, 2) := by decide +kernel
theorem d5_15 : decode jdk_52_method_21_code 15 = .ok (.iload 6, 2) := by decide +kernel
theorem d5_17 : decode jdk_52_method_21_code 17 = .ok (.sipush 255, 3) := by decide +kernel
theorem d5_20 : decode jdk_52_method_21_code 20 = .ok (.if_icmp .le 6, 3) := by decide +kernel
theorem d5_26 : decode jdk_52_method_21_code 26 = .ok (.aload_n 2, 1) := by decide +kernel
theorem d5_27 : decode jdk_52_method_21_code 27 = .ok (.iload_n 3, 1) := by decide +kernel
theorem d5_28 : decode jdk_52_method_21_code 28 = .ok (.iload 6, 2) := by decide +kernel
theorem d5_30 : decode jdk_52_method_21_code 30 = .ok (.i2b, 1) := by decide +kernel
theorem d5_31 : decode jdk_52_method_21_code 31 = .ok (.bastore, 1) := by decide +kernel
theorem d5_32 : decode jdk_52_method_21_code 32 = .ok (.iinc 1 1, 3) := by decide +kernel
theorem d5_35 : decode jdk_52_method_21_code 35 = .ok (.iinc 3 1, 3) := by decide +kernel
theorem d5_38 : decode jdk_52_method_21_code 38 = .ok (.iinc 5 1, 3) := by decide +kernel
theorem d5_41 : decode jdk_52_method_21_code 41 = .ok (.goto (-38), 3) := by decide +kernel
theorem d5_44 : decode jdk_52_method_21_code 44 = .ok (.iload 4, 2) := by decide +kernel
theorem d5_46 : decode jdk_52_method_21_code 46 = .ok (.ireturn, 1) := by decide +kernel
set_option maxRecDepth 65536 in
set_option maxHeartbeats 40000000 in
theorem rm5L (l : Launch) (Z : State) (a0 : Array Value) (hw : ∀ d ∈ tables_1, d.before a0 Z = true) (ws : List Jvm.Cond) (k d : Addr) (ch : Int32) (h0 : Heap) (n0 : Nat) (Z0 : n0 ≤ h0.size) (hL : ¬ (255 : Int32) < ch) (V_k : AV Z h0 k .char 1 (lst [(.int ch)])) (V_d : AV Z h0 d .byte 1 (lst [(.int (0 : Int32))])) (ne_k_d : k ≠ d) (g_d : n0 ≤ d) :
    Ctr l Z (⟨"java/lang/StringUTF16", "compress", "([CI[BII)I"⟩ : MethodName) jdk_52_method_21_code 7 (some .int) ws ({ frames := 0, cells := 0, slots := 0, locals := 0 } : Room) 0 0 #[(.ref k), (.int (0 : Int32)), (.ref d), (.int (0 : Int32)), (.int (1 : Int32))] h0 (fun v h L => v = some (.int (1 : Int32)) ∧ Fr n0 L ∧ Keep h0 h [d] ∧ AV Z h d .byte 1 (lst [(.int (ch.toInt8.toInt32))])) := by
  refine Ctr.mk (plainFor_of_name pn_0) fun p e s m below meth c T0 X0 C e0 => go_cast (ef_rm5L m k (0 : Int32) d (0 : Int32) (1 : Int32)) ?_
  have N0 := Fr.nil n0
  obtain ⟨hx, hZ, hby, hml, hown, hnm, hret, hlk⟩ := C
  obtain ⟨hI, eI⟩ : ∃ z, z = h0 := ⟨_, rfl⟩
  have K0 : Keep hI h0 [d] := by rw [eI]; exact Keep.refl _ _
  show Go _ _ _ _ _ _ _ T0 (mkF m 0 #[.val (.ref k), .val (.int (0 : Int32)), .val (.ref d), .val (.int (0 : Int32)), .val (.int (1 : Int32)), .unset, .unset] [])
  refine Go.step (fun tt kk => XS.iconst X0.here hx rfl (hb hby d5_0) kk) ?_
  show Go _ _ _ _ _ _ _ T0 (mkF m 1 _ [(.int (0 : Int32))])
  refine Go.step (fun tt kk => XS.istore X0.here hx rfl (hb hby d5_1) rfl (l' := #[.val (.ref k), .val (.int (0 : Int32)), .val (.ref d), .val (.int (0 : Int32)), .val (.int (1 : Int32)), .val (.int (0 : Int32)), .unset]) rfl kk) ?_
  show Go _ _ _ _ _ _ _ T0 (mkF m 3 _ [])
  refine Go.step (fun tt kk => XS.iload X0.here hx rfl (hb hby d5_3) rfl kk) ?_
  show Go _ _ _ _ _ _ _ T0 (mkF m 5 _ [(.int (0 : Int32))])
  refine Go.step (fun tt kk => XS.iload X0.here hx rfl (hb hby d5_5) rfl kk) ?_
  show Go _ _ _ _ _ _ _ T0 (mkF m 7 _ [(.int (1 : Int32)), (.int (0 : Int32))])
  refine Go.step (fun tt kk => XS.icmpNo X0.here hx rfl (hb hby d5_7) rfl (tlt (by decide)).2.1 kk) ?_
  show Go _ _ _ _ _ _ _ T0 (mkF m 10 _ [])
  refine Go.step (fun tt kk => XS.aloadN X0.here hx rfl (hb hby d5_10) rfl rfl kk) ?_
  show Go _ _ _ _ _ _ _ T0 (mkF m 11 _ [(.ref k)])
  refine Go.step (fun tt kk => XS.iloadN X0.here hx rfl (hb hby d5_11) rfl kk) ?_
  show Go _ _ _ _ _ _ _ T0 (mkF m 12 _ [(.int (0 : Int32)), (.ref k)])
  refine Go.step (a_cload X0 hx hZ e0 V_k (k := 0) (by decide) (by decide) (x := ch) rfl (hb hby d5_12)) ?_
  show Go _ _ _ _ _ _ _ T0 (mkF m 13 _ [(.int ch)])
  refine Go.step (fun tt kk => XS.istore X0.here hx rfl (hb hby d5_13) rfl (l' := #[.val (.ref k), .val (.int (0 : Int32)), .val (.ref d), .val (.int (0 : Int32)), .val (.int (1 : Int32)), .val (.int (0 : Int32)), .val (.int ch)]) rfl kk) ?_
  show Go _ _ _ _ _ _ _ T0 (mkF m 15 _ [])
  refine Go.step (fun tt kk => XS.iload X0.here hx rfl (hb hby d5_15) rfl kk) ?_
  show Go _ _ _ _ _ _ _ T0 (mkF m 17 _ [(.int ch)])
  refine Go.step (fun tt kk => XS.sipush X0.here hx rfl (hb hby d5_17) kk) ?_
  show Go _ _ _ _ _ _ _ T0 (mkF m 20 _ [(.int (255 : Int32)), (.int ch)])
  refine Go.step (fun tt kk => XS.icmpYes X0.here hx rfl (pc0 := 20) (pc' := 26) rfl (hb hby d5_20) rfl (flt hL).2.2.2 (by decide) (by decide) kk) ?_
  show Go _ _ _ _ _ _ _ T0 (mkF m 26 _ [])
  refine Go.step (fun tt kk => XS.aloadN X0.here hx rfl (hb hby d5_26) rfl rfl kk) ?_
  show Go _ _ _ _ _ _ _ T0 (mkF m 27 _ [(.ref d)])
  refine Go.step (fun tt kk => XS.iloadN X0.here hx rfl (hb hby d5_27) rfl kk) ?_
  show Go _ _ _ _ _ _ _ T0 (mkF m 28 _ [(.int (0 : Int32)), (.ref d)])
  refine Go.step (fun tt kk => XS.iload X0.here hx rfl (hb hby d5_28) rfl kk) ?_
  show Go _ _ _ _ _ _ _ T0 (mkF m 30 _ [(.int ch), (.int (0 : Int32)), (.ref d)])
  refine Go.step (fun tt kk => XS.i2b X0.here hx rfl (hb hby d5_30) rfl kk) ?_
  show Go _ _ _ _ _ _ _ T0 (mkF m 31 _ [(.int (ch.toInt8.toInt32)), (.int (0 : Int32)), (.ref d)])
  show Go _ _ _ _ _ _ _ T0 (mkF m 31 #[.val (.ref k), .val (.int (0 : Int32)), .val (.ref d), .val (.int (0 : Int32)), .val (.int (1 : Int32)), .val (.int (0 : Int32)), .val (.int ch)] [(.int (ch.toInt8.toInt32)), (.int (0 : Int32)), (.ref d)])
  obtain ⟨cl1, Ar1, hin1, -⟩ := V_d.at (j := (0 : Int32)) (k := 0) (by decide) (by decide)
  obtain ⟨T1, h1, X1, e1, W1, st1⟩ := stB X0 hx hZ e0 Ar1 (j := (0 : Int32)) hin1 (g := (mkF m 31 #[.val (.ref k), .val (.int (0 : Int32)), .val (.ref d), .val (.int (0 : Int32)), .val (.int (1 : Int32)), .val (.int (0 : Int32)), .val (.int ch)] [(.int (ch.toInt8.toInt32)), (.int (0 : Int32)), (.ref d)])) rfl rfl (hb hby d5_31)
  rw [(own_nb _)] at W1
  have V1 : AV Z h1 d .byte 1 (lst [(.int (ch.toInt8.toInt32))]) := AV.setL V_d (k := 0) (by decide) (by decide) W1 (Nat.le_of_ble_eq_true rfl) rfl
  have N1 := Fr.snoc X1 N0 g_d
  have Z1 : n0 ≤ h1.size := Nat.le_trans Z0 (Keep.of_wr W1).1
  have K1 : Keep hI h1 [d] := K0.wr W1 (Or.inl (List.mem_of_getElem? (i := 0) rfl))
  refine Go.step (st1) ?_
  show Go _ _ _ _ _ _ _ T1 (mkF m 32 _ [])
  refine Go.step (fun tt kk => XS.iinc X1.here hx rfl (hb hby d5_32) rfl (l' := #[.val (.ref k), .val (.int (1 : Int32)), .val (.ref d), .val (.int (0 : Int32)), .val (.int (1 : Int32)), .val (.int (0 : Int32)), .val (.int ch)]) rfl kk) ?_
  show Go _ _ _ _ _ _ _ T1 (mkF m 35 _ [])
  refine Go.step (fun tt kk => XS.iinc X1.here hx rfl (hb hby d5_35) rfl (l' := #[.val (.ref k), .val (.int (1 : Int32)), .val (.ref d), .val (.int (1 : Int32)), .val (.int (1 : Int32)), .val (.int (0 : Int32)), .val (.int ch)]) rfl kk) ?_
  show Go _ _ _ _ _ _ _ T1 (mkF m 38 _ [])
  refine Go.step (fun tt kk => XS.iinc X1.here hx rfl (hb hby d5_38) rfl (l' := #[.val (.ref k), .val (.int (1 : Int32)), .val (.ref d), .val (.int (1 : Int32)), .val (.int (1 : Int32)), .val (.int (1 : Int32)), .val (.int ch)]) rfl kk) ?_
  show Go _ _ _ _ _ _ _ T1 (mkF m 41 _ [])
  refine Go.step (fun tt kk => XS.goto X1.here hx rfl (pc0 := 41) (pc' := 3) rfl (hb hby d5_41) (by decide) (by decide) kk) ?_
  show Go _ _ _ _ _ _ _ T1 (mkF m 3 _ [])
  refine Go.step (fun tt kk => XS.iload X1.here hx rfl (hb hby d5_3) rfl kk) ?_
  show Go _ _ _ _ _ _ _ T1 (mkF m 5 _ [(.int (1 : Int32))])
  refine Go.step (fun tt kk => XS.iload X1.here hx rfl (hb hby d5_5) rfl kk) ?_
  show Go _ _ _ _ _ _ _ T1 (mkF m 7 _ [(.int (1 : Int32)), (.int (1 : Int32))])
  refine Go.step (fun tt kk => XS.icmpYes X1.here hx rfl (pc0 := 7) (pc' := 44) rfl (hb hby d5_7) rfl (flt (by decide)).2.1 (by decide) (by decide) kk) ?_
  show Go _ _ _ _ _ _ _ T1 (mkF m 44 _ [])
  refine Go.step (fun tt kk => XS.iload X1.here hx rfl (hb hby d5_44) rfl kk) ?_
  show Go _ _ _ _ _ _ _ T1 (mkF m 46 _ [(.int (1 : Int32))])
  refine go_retI X1 hx hret hlk (hb hby d5_46) ?_ (by decide) (by decide)
  try rw [e1]
  exact ⟨rfl, N1, eI ▸ K1, V1⟩
theorem ef_rm5U (m : MethodId) (x0 : Addr) (x1 : Int32) (x2 : Addr) (x3 : Int32) (x4 : Int32) : entryFrame m #[(.ref x0), (.int x1), (.ref x2), (.int x3), (.int x4)] 7 = mkF m 0 #[.val (.ref x0), .val (.int x1), .val (.ref x2), .val (.int x3), .val (.int x4), .unset, .unset] [] := by first | (simp [entryFrame, mkF, argsToLocals, Value.category]; done) | rfl
theorem d5_23 : decode jdk_52_method_21_code 23 = .ok (.iload 5, 2) := by decide +kernel
theorem d5_25 : decode jdk_52_method_21_code 25 = .ok (.ireturn, 1) := by decide +kernel
set_option maxRecDepth 65536 in
set_option maxHeartbeats 40000000 in
theorem rm5U (l : Launch) (Z : State) (a0 : Array Value) (hw : ∀ d ∈ tables_1, d.before a0 Z = true) (ws : List Jvm.Cond) (k d : Addr) (ch : Int32) (h0 : Heap) (n0 : Nat) (Z0 : n0 ≤ h0.size) (hU : (255 : Int32) < ch) (V_k : AV Z h0 k .char 1 (lst [(.int ch)])) :
    Ctr l Z (⟨"java/lang/StringUTF16", "compress", "([CI[BII)I"⟩ : MethodName) jdk_52_method_21_code 7 (some .int) ws ({ frames := 0, cells := 0, slots := 0, locals := 0 } : Room) 0 0 #[(.ref k), (.int (0 : Int32)), (.ref d), (.int (0 : Int32)), (.int (1 : Int32))] h0 (fun v h L => v = some (.int (0 : Int32)) ∧ L = [] ∧ h = h0) := by
  refine Ctr.mk (plainFor_of_name pn_0) fun p e s m below meth c T0 X0 C e0 => go_cast (ef_rm5U m k (0 : Int32) d (0 : Int32) (1 : Int32)) ?_
  have N0 := Fr.nil n0
  obtain ⟨hx, hZ, hby, hml, hown, hnm, hret, hlk⟩ := C
  show Go _ _ _ _ _ _ _ T0 (mkF m 0 #[.val (.ref k), .val (.int (0 : Int32)), .val (.ref d), .val (.int (0 : Int32)), .val (.int (1 : Int32)), .unset, .unset] [])
  refine Go.step (fun tt kk => XS.iconst X0.here hx rfl (hb hby d5_0) kk) ?_
  show Go _ _ _ _ _ _ _ T0 (mkF m 1 _ [(.int (0 : Int32))])
  refine Go.step (fun tt kk => XS.istore X0.here hx rfl (hb hby d5_1) rfl (l' := #[.val (.ref k), .val (.int (0 : Int32)), .val (.ref d), .val (.int (0 : Int32)), .val (.int (1 : Int32)), .val (.int (0 : Int32)), .unset]) rfl kk) ?_
  show Go _ _ _ _ _ _ _ T0 (mkF m 3 _ [])
  refine Go.step (fun tt kk => XS.iload X0.here hx rfl (hb hby d5_3) rfl kk) ?_
  show Go _ _ _ _ _ _ _ T0 (mkF m 5 _ [(.int (0 : Int32))])
  refine Go.step (fun tt kk => XS.iload X0.here hx rfl (hb hby d5_5) rfl kk) ?_
  show Go _ _ _ _ _ _ _ T0 (mkF m 7 _ [(.int (1 : Int32)), (.int (0 : Int32))])
  refine Go.step (fun tt kk => XS.icmpNo X0.here hx rfl (hb hby d5_7) rfl (tlt (by decide)).2.1 kk) ?_
  show Go _ _ _ _ _ _ _ T0 (mkF m 10 _ [])
  refine Go.step (fun tt kk => XS.aloadN X0.here hx rfl (hb hby d5_10) rfl rfl kk) ?_
  show Go _ _ _ _ _ _ _ T0 (mkF m 11 _ [(.ref k)])
  refine Go.step (fun tt kk => XS.iloadN X0.here hx rfl (hb hby d5_11) rfl kk) ?_
  show Go _ _ _ _ _ _ _ T0 (mkF m 12 _ [(.int (0 : Int32)), (.ref k)])
  refine Go.step (a_cload X0 hx hZ e0 V_k (k := 0) (by decide) (by decide) (x := ch) rfl (hb hby d5_12)) ?_
  show Go _ _ _ _ _ _ _ T0 (mkF m 13 _ [(.int ch)])
  refine Go.step (fun tt kk => XS.istore X0.here hx rfl (hb hby d5_13) rfl (l' := #[.val (.ref k), .val (.int (0 : Int32)), .val (.ref d), .val (.int (0 : Int32)), .val (.int (1 : Int32)), .val (.int (0 : Int32)), .val (.int ch)]) rfl kk) ?_
  show Go _ _ _ _ _ _ _ T0 (mkF m 15 _ [])
  refine Go.step (fun tt kk => XS.iload X0.here hx rfl (hb hby d5_15) rfl kk) ?_
  show Go _ _ _ _ _ _ _ T0 (mkF m 17 _ [(.int ch)])
  refine Go.step (fun tt kk => XS.sipush X0.here hx rfl (hb hby d5_17) kk) ?_
  show Go _ _ _ _ _ _ _ T0 (mkF m 20 _ [(.int (255 : Int32)), (.int ch)])
  refine Go.step (fun tt kk => XS.icmpNo X0.here hx rfl (hb hby d5_20) rfl (tlt hU).2.2.2 kk) ?_
  show Go _ _ _ _ _ _ _ T0 (mkF m 23 _ [])
  refine Go.step (fun tt kk => XS.iload X0.here hx rfl (hb hby d5_23) rfl kk) ?_
  show Go _ _ _ _ _ _ _ T0 (mkF m 25 _ [(.int (0 : Int32))])
  refine go_retI X0 hx hret hlk (hb hby d5_25) ?_ (by decide) (by decide)
  try rw [e0]
  exact ⟨rfl, rfl, rfl⟩
theorem ef_rm21 (m : MethodId) (x0 : Addr) (x1 : Int32) (x2 : Int32) : entryFrame m #[(.ref x0), (.int x1), (.int x2)] 3 = mkF m 0 #[.val (.ref x0), .val (.int x1), .val (.int x2)] [] := by first | (simp [entryFrame, mkF, argsToLocals, Value.category]; done) | rfl
theorem d21_0 : decode jdk_52_method_4_code 0 = .ok (.getstatic 44, 3) := by decide +kernel
theorem d21_3 : decode jdk_52_method_4_code 3 = .ok (.ifCond .ne 25, 3) := by decide +kernel
theorem d21_28 : decode jdk_52_method_4_code 28 = .ok (.iload_n 1, 1) := by decide +kernel
theorem d21_29 : decode jdk_52_method_4_code 29 = .ok (.iconst 1, 1) := by decide +kernel
theorem d21_30 : decode jdk_52_method_4_code 30 = .ok (.ishl, 1) := by decide +kernel
theorem d21_31 : decode jdk_52_method_4_code 31 = .ok (.istore_n 1, 1) := by decide +kernel
theorem d21_32 : decode jdk_52_method_4_code 32 = .ok (.aload_n 0, 1) := by decide +kernel
theorem d21_33 : decode jdk_52_method_4_code 33 = .ok (.iload_n 1, 1) := by decide +kernel
theorem d21_34 : decode jdk_52_method_4_code 34 = .ok (.iinc 1 1, 3) := by decide +kernel
theorem d21_37 : decode jdk_52_method_4_code 37 = .ok (.iload_n 2, 1) := by decide +kernel
theorem d21_38 : decode jdk_52_method_4_code 38 = .ok (.getstatic 59, 3) := by decide +kernel
theorem d21_41 : decode jdk_52_method_4_code 41 = .ok (.ishr, 1) := by decide +kernel
theorem d21_42 : decode jdk_52_method_4_code 42 = .ok (.i2b, 1) := by decide +kernel
theorem d21_43 : decode jdk_52_method_4_code 43 = .ok (.bastore, 1) := by decide +kernel
theorem d21_44 : decode jdk_52_method_4_code 44 = .ok (.aload_n 0, 1) := by decide +kernel
theorem d21_45 : decode jdk_52_method_4_code 45 = .ok (.iload_n 1, 1) := by decide +kernel
theorem d21_46 : decode jdk_52_method_4_code 46 = .ok (.iload_n 2, 1) := by decide +kernel
theorem d21_47 : decode jdk_52_method_4_code 47 = .ok (.getstatic 63, 3) := by decide +kernel
theorem d21_50 : decode jdk_52_method_4_code 50 = .ok (.ishr, 1) := by decide +kernel
theorem d21_51 : decode jdk_52_method_4_code 51 = .ok (.i2b, 1) := by decide +kernel
theorem d21_52 : decode jdk_52_method_4_code 52 = .ok (.bastore, 1) := by decide +kernel
theorem d21_53 : decode jdk_52_method_4_code 53 = .ok (.return_, 1) := by decide +kernel
set_option maxRecDepth 65536 in
set_option maxHeartbeats 40000000 in
theorem rm21 (l : Launch) (Z : State) (a0 : Array Value) (hw : ∀ d ∈ tables_1, d.before a0 Z = true) (ws : List Jvm.Cond) (d : Addr) (ch : Int32) (h0 : Heap) (n0 : Nat) (Z0 : n0 ≤ h0.size) (S1 : Sta Z h0 "java/lang/StringUTF16" "$assertionsDisabled" "Z" (.int (1 : Int32))) (S2 : Sta Z h0 "java/lang/StringUTF16" "HI_BYTE_SHIFT" "I" (.int (0 : Int32))) (S3 : Sta Z h0 "java/lang/StringUTF16" "LO_BYTE_SHIFT" "I" (.int (8 : Int32))) (V_d : AV Z h0 d .byte 2 (lst [(.int (0 : Int32)), (.int (0 : Int32))])) (g_d : n0 ≤ d) :
    Ctr l Z (⟨"java/lang/StringUTF16", "putChar", "([BII)V"⟩ : MethodName) jdk_52_method_4_code 3 none ws ({ frames := 0, cells := 0, slots := 0, locals := 0 } : Room) 0 0 #[(.ref d), (.int (0 : Int32)), (.int ch)] h0 (fun v h L => v = none ∧ Fr n0 L ∧ Keep h0 h [d] ∧ AV Z h d .byte 2 (lst [(.int ((ch >>> ((0 : Int32) &&& 31)).toInt8.toInt32)), (.int ((ch >>> ((8 : Int32) &&& 31)).toInt8.toInt32))])) := by
  refine Ctr.mk (plainFor_of_name pn_0) fun p e s m below meth c T0 X0 C e0 => go_cast (ef_rm21 m d (0 : Int32) ch) ?_
  have N0 := Fr.nil n0
  obtain ⟨hx, hZ, hby, hml, hown, hnm, hret, hlk⟩ := C
  obtain ⟨hI, eI⟩ : ∃ z, z = h0 := ⟨_, rfl⟩
  have K0 : Keep hI h0 [d] := by rw [eI]; exact Keep.refl _ _
  show Go _ _ _ _ _ _ _ T0 (mkF m 0 #[.val (.ref d), .val (.int (0 : Int32)), .val (.int ch)] [])
  obtain ⟨T1, X1, e1, st1⟩ := getS2 X0 hx hZ hown (host := "") (Or.inl (hw _ (List.mem_of_getElem? (i := 90) rfl))) Via.refl e0 S1 (g := (mkF m 0 #[.val (.ref d), .val (.int (0 : Int32)), .val (.int ch)] [])) rfl (hb hby d21_0)
  refine Go.step (st1) ?_
  show Go _ _ _ _ _ _ _ T1 (mkF m 3 _ [(.int (1 : Int32))])
  refine Go.step (fun tt kk => XS.ifYes X1.here hx rfl (pc0 := 3) (pc' := 28) rfl (hb hby d21_3) rfl ((if0 _ _).trans (feq (by decide)).2) (by decide) (by decide) kk) ?_
  show Go _ _ _ _ _ _ _ T1 (mkF m 28 _ [])
  refine Go.step (fun tt kk => XS.iloadN X1.here hx rfl (hb hby d21_28) rfl kk) ?_
  show Go _ _ _ _ _ _ _ T1 (mkF m 29 _ [(.int (0 : Int32))])
  refine Go.step (fun tt kk => XS.iconst X1.here hx rfl (hb hby d21_29) kk) ?_
  show Go _ _ _ _ _ _ _ T1 (mkF m 30 _ [(.int (1 : Int32)), (.int (0 : Int32))])
  refine Go.step (fun tt kk => XS.ishl X1.here hx rfl (hb hby d21_30) rfl kk) ?_
  show Go _ _ _ _ _ _ _ T1 (mkF m 31 _ [(.int ((0 : Int32) <<< ((1 : Int32) &&& 31)))])
  refine Go.step (fun tt kk => XS.istoreN X1.here hx rfl (hb hby d21_31) rfl (l' := #[.val (.ref d), .val (.int ((0 : Int32) <<< ((1 : Int32) &&& 31))), .val (.int ch)]) rfl kk) ?_
  show Go _ _ _ _ _ _ _ T1 (mkF m 32 _ [])
  rw [show ((0 : Int32) <<< ((1 : Int32) &&& 31)) = (0 : Int32) by decide]
  show Go _ _ _ _ _ _ _ T1 (mkF m 32 #[.val (.ref d), .val (.int (0 : Int32)), .val (.int ch)] [])
  refine Go.step (fun tt kk => XS.aloadN X1.here hx rfl (hb hby d21_32) rfl rfl kk) ?_
  show Go _ _ _ _ _ _ _ T1 (mkF m 33 _ [(.ref d)])
  refine Go.step (fun tt kk => XS.iloadN X1.here hx rfl (hb hby d21_33) rfl kk) ?_
  show Go _ _ _ _ _ _ _ T1 (mkF m 34 _ [(.int (0 : Int32)), (.ref d)])
  refine Go.step (fun tt kk => XS.iinc X1.here hx rfl (hb hby d21_34) rfl (l' := #[.val (.ref d), .val (.int (1 : Int32)), .val (.int ch)]) rfl kk) ?_
  show Go _ _ _ _ _ _ _ T1 (mkF m 37 _ [(.int (0 : Int32)), (.ref d)])
  refine Go.step (fun tt kk => XS.iloadN X1.here hx rfl (hb hby d21_37) rfl kk) ?_
  show Go _ _ _ _ _ _ _ T1 (mkF m 38 _ [(.int ch), (.int (0 : Int32)), (.ref d)])
  obtain ⟨T2, X2, e2, st2⟩ := getS2 X1 hx hZ hown (host := "") (Or.inl (hw _ (List.mem_of_getElem? (i := 91) rfl))) Via.refl e1 S2 (g := (mkF m 38 #[.val (.ref d), .val (.int (1 : Int32)), .val (.int ch)] [(.int ch), (.int (0 : Int32)), (.ref d)])) rfl (hb hby d21_38)
  refine Go.step (st2) ?_
  show Go _ _ _ _ _ _ _ T2 (mkF m 41 _ [(.int (0 : Int32)), (.int ch), (.int (0 : Int32)), (.ref d)])
  refine Go.step (fun tt kk => XS.ishr X2.here hx rfl (hb hby d21_41) rfl kk) ?_
  show Go _ _ _ _ _ _ _ T2 (mkF m 42 _ [(.int (ch >>> ((0 : Int32) &&& 31))), (.int (0 : Int32)), (.ref d)])
  refine Go.step (fun tt kk => XS.i2b X2.here hx rfl (hb hby d21_42) rfl kk) ?_
  show Go _ _ _ _ _ _ _ T2 (mkF m 43 _ [(.int ((ch >>> ((0 : Int32) &&& 31)).toInt8.toInt32)), (.int (0 : Int32)), (.ref d)])
  show Go _ _ _ _ _ _ _ T2 (mkF m 43 #[.val (.ref d), .val (.int (1 : Int32)), .val (.int ch)] [(.int ((ch >>> ((0 : Int32) &&& 31)).toInt8.toInt32)), (.int (0 : Int32)), (.ref d)])
  obtain ⟨cl3, Ar3, hin3, -⟩ := V_d.at (j := (0 : Int32)) (k := 0) (by decide) (by decide)
  obtain ⟨T3, h3, X3, e3, W3, st3⟩ := stB X2 hx hZ e2 Ar3 (j := (0 : Int32)) hin3 (g := (mkF m 43 #[.val (.ref d), .val (.int (1 : Int32)), .val (.int ch)] [(.int ((ch >>> ((0 : Int32) &&& 31)).toInt8.toInt32)), (.int (0 : Int32)), (.ref d)])) rfl rfl (hb hby d21_43)
  rw [(own_nb _)] at W3
  have V3 : AV Z h3 d .byte 2 (lst [(.int ((ch >>> ((0 : Int32) &&& 31)).toInt8.toInt32)), (.int (0 : Int32))]) := AV.setL V_d (k := 0) (by decide) (by decide) W3 (Nat.le_of_ble_eq_true rfl) rfl
  have N3 := Fr.snoc X3 N0 g_d
  have Z3 : n0 ≤ h3.size := Nat.le_trans Z0 (Keep.of_wr W3).1
  have K3 : Keep hI h3 [d] := K0.wr W3 (Or.inl (List.mem_of_getElem? (i := 0) rfl))
  refine Go.step (st3) ?_
  show Go _ _ _ _ _ _ _ T3 (mkF m 44 _ [])
  refine Go.step (fun tt kk => XS.aloadN X3.here hx rfl (hb hby d21_44) rfl rfl kk) ?_
  show Go _ _ _ _ _ _ _ T3 (mkF m 45 _ [(.ref d)])
  refine Go.step (fun tt kk => XS.iloadN X3.here hx rfl (hb hby d21_45) rfl kk) ?_
  show Go _ _ _ _ _ _ _ T3 (mkF m 46 _ [(.int (1 : Int32)), (.ref d)])
  refine Go.step (fun tt kk => XS.iloadN X3.here hx rfl (hb hby d21_46) rfl kk) ?_
  show Go _ _ _ _ _ _ _ T3 (mkF m 47 _ [(.int ch), (.int (1 : Int32)), (.ref d)])
  have f5 := (Sta.wr W3 S3)
  obtain ⟨T4, X4, e4, st4⟩ := getS2 X3 hx hZ hown (host := "") (Or.inl (hw _ (List.mem_of_getElem? (i := 92) rfl))) Via.refl e3 f5 (g := (mkF m 47 #[.val (.ref d), .val (.int (1 : Int32)), .val (.int ch)] [(.int ch), (.int (1 : Int32)), (.ref d)])) rfl (hb hby d21_47)
  refine Go.step (st4) ?_
  show Go _ _ _ _ _ _ _ T4 (mkF m 50 _ [(.int (8 : Int32)), (.int ch), (.int (1 : Int32)), (.ref d)])
  refine Go.step (fun tt kk => XS.ishr X4.here hx rfl (hb hby d21_50) rfl kk) ?_
  show Go _ _ _ _ _ _ _ T4 (mkF m 51 _ [(.int (ch >>> ((8 : Int32) &&& 31))), (.int (1 : Int32)), (.ref d)])
  refine Go.step (fun tt kk => XS.i2b X4.here hx rfl (hb hby d21_51) rfl kk) ?_
  show Go _ _ _ _ _ _ _ T4 (mkF m 52 _ [(.int ((ch >>> ((8 : Int32) &&& 31)).toInt8.toInt32)), (.int (1 : Int32)), (.ref d)])
  show Go _ _ _ _ _ _ _ T4 (mkF m 52 #[.val (.ref d), .val (.int (1 : Int32)), .val (.int ch)] [(.int ((ch >>> ((8 : Int32) &&& 31)).toInt8.toInt32)), (.int (1 : Int32)), (.ref d)])
  obtain ⟨cl6, Ar6, hin6, -⟩ := V3.at (j := (1 : Int32)) (k := 1) (by decide) (by decide)
  obtain ⟨T6, h6, X6, e6, W6, st6⟩ := stB X4 hx hZ e4 Ar6 (j := (1 : Int32)) hin6 (g := (mkF m 52 #[.val (.ref d), .val (.int (1 : Int32)), .val (.int ch)] [(.int ((ch >>> ((8 : Int32) &&& 31)).toInt8.toInt32)), (.int (1 : Int32)), (.ref d)])) rfl rfl (hb hby d21_52)
  rw [(own_nb _)] at W6
  have V6 : AV Z h6 d .byte 2 (lst [(.int ((ch >>> ((0 : Int32) &&& 31)).toInt8.toInt32)), (.int ((ch >>> ((8 : Int32) &&& 31)).toInt8.toInt32))]) := AV.setL V3 (k := 1) (by decide) (by decide) W6 (Nat.le_of_ble_eq_true rfl) rfl
  have N6 := Fr.snoc X6 N3 g_d
  have Z6 : n0 ≤ h6.size := Nat.le_trans Z3 (Keep.of_wr W6).1
  have K6 : Keep hI h6 [d] := K3.wr W6 (Or.inl (List.mem_of_getElem? (i := 0) rfl))
  refine Go.step (st6) ?_
  show Go _ _ _ _ _ _ _ T6 (mkF m 53 _ [])
  refine go_ret X6 hx hret hlk (hb hby d21_53) ?_ (by decide) (by decide)
  try rw [e6]
  exact ⟨rfl, N6, eI ▸ K6, V6⟩
theorem ef_rm22 (m : MethodId) (x0 : Addr) (x1 : Int32) : entryFrame m #[(.ref x0), (.int x1)] 2 = mkF m 0 #[.val (.ref x0), .val (.int x1)] [] := by first | (simp [entryFrame, mkF, argsToLocals, Value.category]; done) | rfl
theorem d22_0 : decode jdk_52_method_5_code 0 = .ok (.getstatic 44, 3) := by decide +kernel
theorem d22_3 : decode jdk_52_method_5_code 3 = .ok (.ifCond .ne 25, 3) := by decide +kernel
theorem d22_28 : decode jdk_52_method_5_code 28 = .ok (.iload_n 1, 1) := by decide +kernel
theorem d22_29 : decode jdk_52_method_5_code 29 = .ok (.iconst 1, 1) := by decide +kernel
theorem d22_30 : decode jdk_52_method_5_code 30 = .ok (.ishl, 1) := by decide +kernel
theorem d22_31 : decode jdk_52_method_5_code 31 = .ok (.istore_n 1, 1) := by decide +kernel
theorem d22_32 : decode jdk_52_method_5_code 32 = .ok (.aload_n 0, 1) := by decide +kernel
theorem d22_33 : decode jdk_52_method_5_code 33 = .ok (.iload_n 1, 1) := by decide +kernel
theorem d22_34 : decode jdk_52_method_5_code 34 = .ok (.iinc 1 1, 3) := by decide +kernel
theorem d22_37 : decode jdk_52_method_5_code 37 = .ok (.baload, 1) := by decide +kernel
theorem d22_38 : decode jdk_52_method_5_code 38 = .ok (.sipush 255, 3) := by decide +kernel
theorem d22_41 : decode jdk_52_method_5_code 41 = .ok (.iand, 1) := by decide +kernel
theorem d22_42 : decode jdk_52_method_5_code 42 = .ok (.getstatic 59, 3) := by decide +kernel
theorem d22_45 : decode jdk_52_method_5_code 45 = .ok (.ishl, 1) := by decide +kernel
theorem d22_46 : decode jdk_52_method_5_code 46 = .ok (.aload_n 0, 1) := by decide +kernel
theorem d22_47 : decode jdk_52_method_5_code 47 = .ok (.iload_n 1, 1) := by decide +kernel
theorem d22_48 : decode jdk_52_method_5_code 48 = .ok (.baload, 1) := by decide +kernel
theorem d22_49 : decode jdk_52_method_5_code 49 = .ok (.sipush 255, 3) := by decide +kernel
theorem d22_52 : decode jdk_52_method_5_code 52 = .ok (.iand, 1) := by decide +kernel
theorem d22_53 : decode jdk_52_method_5_code 53 = .ok (.getstatic 63, 3) := by decide +kernel
theorem d22_56 : decode jdk_52_method_5_code 56 = .ok (.ishl, 1) := by decide +kernel
theorem d22_57 : decode jdk_52_method_5_code 57 = .ok (.ior, 1) := by decide +kernel
theorem d22_58 : decode jdk_52_method_5_code 58 = .ok (.i2c, 1) := by decide +kernel
theorem d22_59 : decode jdk_52_method_5_code 59 = .ok (.ireturn, 1) := by decide +kernel
set_option maxRecDepth 65536 in
set_option maxHeartbeats 40000000 in
theorem rm22 (l : Launch) (Z : State) (a0 : Array Value) (hw : ∀ d ∈ tables_1, d.before a0 Z = true) (ws : List Jvm.Cond) (d : Addr) (ch : Int32) (h0 : Heap) (n0 : Nat) (Z0 : n0 ≤ h0.size) (hc0 : 0 ≤ ch.toInt) (hc1 : ch.toInt < 65536) (S1 : Sta Z h0 "java/lang/StringUTF16" "$assertionsDisabled" "Z" (.int (1 : Int32))) (S2 : Sta Z h0 "java/lang/StringUTF16" "HI_BYTE_SHIFT" "I" (.int (0 : Int32))) (S3 : Sta Z h0 "java/lang/StringUTF16" "LO_BYTE_SHIFT" "I" (.int (8 : Int32))) (V_d : AV Z h0 d .byte 2 (lst [(.int ((ch >>> ((0 : Int32) &&& 31)).toInt8.toInt32)), (.int ((ch >>> ((8 : Int32) &&& 31)).toInt8.toInt32))])) :
    Ctr l Z (⟨"java/lang/StringUTF16", "getChar", "([BI)C"⟩ : MethodName) jdk_52_method_5_code 2 (some .char) ws ({ frames := 0, cells := 0, slots := 0, locals := 0 } : Room) 0 0 #[(.ref d), (.int (0 : Int32))] h0 (fun v h L => v = some (.int ch) ∧ L = [] ∧ h = h0) := by
  refine Ctr.mk (plainFor_of_name pn_0) fun p e s m below meth c T0 X0 C e0 => go_cast (ef_rm22 m d (0 : Int32)) ?_
  have N0 := Fr.nil n0
  obtain ⟨hx, hZ, hby, hml, hown, hnm, hret, hlk⟩ := C
  show Go _ _ _ _ _ _ _ T0 (mkF m 0 #[.val (.ref d), .val (.int (0 : Int32))] [])
  obtain ⟨T1, X1, e1, st1⟩ := getS2 X0 hx hZ hown (host := "") (Or.inl (hw _ (List.mem_of_getElem? (i := 90) rfl))) Via.refl e0 S1 (g := (mkF m 0 #[.val (.ref d), .val (.int (0 : Int32))] [])) rfl (hb hby d22_0)
  refine Go.step (st1) ?_
  show Go _ _ _ _ _ _ _ T1 (mkF m 3 _ [(.int (1 : Int32))])
  refine Go.step (fun tt kk => XS.ifYes X1.here hx rfl (pc0 := 3) (pc' := 28) rfl (hb hby d22_3) rfl ((if0 _ _).trans (feq (by decide)).2) (by decide) (by decide) kk) ?_
  show Go _ _ _ _ _ _ _ T1 (mkF m 28 _ [])
  refine Go.step (fun tt kk => XS.iloadN X1.here hx rfl (hb hby d22_28) rfl kk) ?_
  show Go _ _ _ _ _ _ _ T1 (mkF m 29 _ [(.int (0 : Int32))])
  refine Go.step (fun tt kk => XS.iconst X1.here hx rfl (hb hby d22_29) kk) ?_
  show Go _ _ _ _ _ _ _ T1 (mkF m 30 _ [(.int (1 : Int32)), (.int (0 : Int32))])
  refine Go.step (fun tt kk => XS.ishl X1.here hx rfl (hb hby d22_30) rfl kk) ?_
  show Go _ _ _ _ _ _ _ T1 (mkF m 31 _ [(.int ((0 : Int32) <<< ((1 : Int32) &&& 31)))])
  refine Go.step (fun tt kk => XS.istoreN X1.here hx rfl (hb hby d22_31) rfl (l' := #[.val (.ref d), .val (.int ((0 : Int32) <<< ((1 : Int32) &&& 31)))]) rfl kk) ?_
  show Go _ _ _ _ _ _ _ T1 (mkF m 32 _ [])
  rw [show ((0 : Int32) <<< ((1 : Int32) &&& 31)) = (0 : Int32) by decide]
  show Go _ _ _ _ _ _ _ T1 (mkF m 32 #[.val (.ref d), .val (.int (0 : Int32))] [])
  refine Go.step (fun tt kk => XS.aloadN X1.here hx rfl (hb hby d22_32) rfl rfl kk) ?_
  show Go _ _ _ _ _ _ _ T1 (mkF m 33 _ [(.ref d)])
  refine Go.step (fun tt kk => XS.iloadN X1.here hx rfl (hb hby d22_33) rfl kk) ?_
  show Go _ _ _ _ _ _ _ T1 (mkF m 34 _ [(.int (0 : Int32)), (.ref d)])
  refine Go.step (fun tt kk => XS.iinc X1.here hx rfl (hb hby d22_34) rfl (l' := #[.val (.ref d), .val (.int (1 : Int32))]) rfl kk) ?_
  show Go _ _ _ _ _ _ _ T1 (mkF m 37 _ [(.int (0 : Int32)), (.ref d)])
  refine Go.step (a_bload X1 hx hZ e1 V_d (k := 0) (by decide) (by decide) (x := ((ch >>> ((0 : Int32) &&& 31)).toInt8.toInt32)) rfl (hb hby d22_37)) ?_
  show Go _ _ _ _ _ _ _ T1 (mkF m 38 _ [(.int ((ch >>> ((0 : Int32) &&& 31)).toInt8.toInt32))])
  refine Go.step (fun tt kk => XS.sipush X1.here hx rfl (hb hby d22_38) kk) ?_
  show Go _ _ _ _ _ _ _ T1 (mkF m 41 _ [(.int (255 : Int32)), (.int ((ch >>> ((0 : Int32) &&& 31)).toInt8.toInt32))])
  refine Go.step (fun tt kk => XS.iand X1.here hx rfl (hb hby d22_41) rfl kk) ?_
  show Go _ _ _ _ _ _ _ T1 (mkF m 42 _ [(.int (((ch >>> ((0 : Int32) &&& 31)).toInt8.toInt32) &&& (255 : Int32)))])
  obtain ⟨T2, X2, e2, st2⟩ := getS2 X1 hx hZ hown (host := "") (Or.inl (hw _ (List.mem_of_getElem? (i := 91) rfl))) Via.refl e1 S2 (g := (mkF m 42 #[.val (.ref d), .val (.int (1 : Int32))] [(.int (((ch >>> ((0 : Int32) &&& 31)).toInt8.toInt32) &&& (255 : Int32)))])) rfl (hb hby d22_42)
  refine Go.step (st2) ?_
  show Go _ _ _ _ _ _ _ T2 (mkF m 45 _ [(.int (0 : Int32)), (.int (((ch >>> ((0 : Int32) &&& 31)).toInt8.toInt32) &&& (255 : Int32)))])
  refine Go.step (fun tt kk => XS.ishl X2.here hx rfl (hb hby d22_45) rfl kk) ?_
  show Go _ _ _ _ _ _ _ T2 (mkF m 46 _ [(.int ((((ch >>> ((0 : Int32) &&& 31)).toInt8.toInt32) &&& (255 : Int32)) <<< ((0 : Int32) &&& 31)))])
  refine Go.step (fun tt kk => XS.aloadN X2.here hx rfl (hb hby d22_46) rfl rfl kk) ?_
  show Go _ _ _ _ _ _ _ T2 (mkF m 47 _ [(.ref d), (.int ((((ch >>> ((0 : Int32) &&& 31)).toInt8.toInt32) &&& (255 : Int32)) <<< ((0 : Int32) &&& 31)))])
  refine Go.step (fun tt kk => XS.iloadN X2.here hx rfl (hb hby d22_47) rfl kk) ?_
  show Go _ _ _ _ _ _ _ T2 (mkF m 48 _ [(.int (1 : Int32)), (.ref d), (.int ((((ch >>> ((0 : Int32) &&& 31)).toInt8.toInt32) &&& (255 : Int32)) <<< ((0 : Int32) &&& 31)))])
  refine Go.step (a_bload X2 hx hZ e2 V_d (k := 1) (by decide) (by decide) (x := ((ch >>> ((8 : Int32) &&& 31)).toInt8.toInt32)) rfl (hb hby d22_48)) ?_
  show Go _ _ _ _ _ _ _ T2 (mkF m 49 _ [(.int ((ch >>> ((8 : Int32) &&& 31)).toInt8.toInt32)), (.int ((((ch >>> ((0 : Int32) &&& 31)).toInt8.toInt32) &&& (255 : Int32)) <<< ((0 : Int32) &&& 31)))])
  refine Go.step (fun tt kk => XS.sipush X2.here hx rfl (hb hby d22_49) kk) ?_
  show Go _ _ _ _ _ _ _ T2 (mkF m 52 _ [(.int (255 : Int32)), (.int ((ch >>> ((8 : Int32) &&& 31)).toInt8.toInt32)), (.int ((((ch >>> ((0 : Int32) &&& 31)).toInt8.toInt32) &&& (255 : Int32)) <<< ((0 : Int32) &&& 31)))])
  refine Go.step (fun tt kk => XS.iand X2.here hx rfl (hb hby d22_52) rfl kk) ?_
  show Go _ _ _ _ _ _ _ T2 (mkF m 53 _ [(.int (((ch >>> ((8 : Int32) &&& 31)).toInt8.toInt32) &&& (255 : Int32))), (.int ((((ch >>> ((0 : Int32) &&& 31)).toInt8.toInt32) &&& (255 : Int32)) <<< ((0 : Int32) &&& 31)))])
  obtain ⟨T3, X3, e3, st3⟩ := getS2 X2 hx hZ hown (host := "") (Or.inl (hw _ (List.mem_of_getElem? (i := 92) rfl))) Via.refl e2 S3 (g := (mkF m 53 #[.val (.ref d), .val (.int (1 : Int32))] [(.int (((ch >>> ((8 : Int32) &&& 31)).toInt8.toInt32) &&& (255 : Int32))), (.int ((((ch >>> ((0 : Int32) &&& 31)).toInt8.toInt32) &&& (255 : Int32)) <<< ((0 : Int32) &&& 31)))])) rfl (hb hby d22_53)
  refine Go.step (st3) ?_
  show Go _ _ _ _ _ _ _ T3 (mkF m 56 _ [(.int (8 : Int32)), (.int (((ch >>> ((8 : Int32) &&& 31)).toInt8.toInt32) &&& (255 : Int32))), (.int ((((ch >>> ((0 : Int32) &&& 31)).toInt8.toInt32) &&& (255 : Int32)) <<< ((0 : Int32) &&& 31)))])
  refine Go.step (fun tt kk => XS.ishl X3.here hx rfl (hb hby d22_56) rfl kk) ?_
  show Go _ _ _ _ _ _ _ T3 (mkF m 57 _ [(.int ((((ch >>> ((8 : Int32) &&& 31)).toInt8.toInt32) &&& (255 : Int32)) <<< ((8 : Int32) &&& 31))), (.int ((((ch >>> ((0 : Int32) &&& 31)).toInt8.toInt32) &&& (255 : Int32)) <<< ((0 : Int32) &&& 31)))])
  refine Go.step (fun tt kk => XS.ior X3.here hx rfl (hb hby d22_57) rfl kk) ?_
  show Go _ _ _ _ _ _ _ T3 (mkF m 58 _ [(.int (((((ch >>> ((0 : Int32) &&& 31)).toInt8.toInt32) &&& (255 : Int32)) <<< ((0 : Int32) &&& 31)) ||| ((((ch >>> ((8 : Int32) &&& 31)).toInt8.toInt32) &&& (255 : Int32)) <<< ((8 : Int32) &&& 31))))])
  refine Go.step (fun tt kk => XS.i2c X3.here hx rfl (hb hby d22_58) rfl kk) ?_
  show Go _ _ _ _ _ _ _ T3 (mkF m 59 _ [(.int ((((((ch >>> ((0 : Int32) &&& 31)).toInt8.toInt32) &&& (255 : Int32)) <<< ((0 : Int32) &&& 31)) ||| ((((ch >>> ((8 : Int32) &&& 31)).toInt8.toInt32) &&& (255 : Int32)) <<< ((8 : Int32) &&& 31))).toUInt32.toUInt16.toUInt32.toInt32))])
  refine go_retN X3 hx (t := .char) hret (by simp) hlk (hb hby d22_59) (w := ch) ((own_nc _).trans (own_gc ch hc0 hc1)) ?_ (by decide) (by decide)
  try rw [e3]
  exact ⟨rfl, rfl, rfl⟩
theorem ef_rm20 (m : MethodId) (x0 : Int32) : entryFrame m #[(.int x0)] 1 = mkF m 0 #[.val (.int x0)] [] := by first | (simp [entryFrame, mkF, argsToLocals, Value.category]; done) | rfl
theorem d20_0 : decode jdk_52_method_3_code 0 = .ok (.iload_n 0, 1) := by decide +kernel
theorem d20_1 : decode jdk_52_method_3_code 1 = .ok (.ifCond .ge 11, 3) := by decide +kernel
theorem d20_12 : decode jdk_52_method_3_code 12 = .ok (.iload_n 0, 1) := by decide +kernel
theorem d20_13 : decode jdk_52_method_3_code 13 = .ok (.ldc 20, 2) := by decide +kernel
theorem d20_15 : decode jdk_52_method_3_code 15 = .ok (.if_icmp .lt 40, 3) := by decide +kernel
theorem d20_55 : decode jdk_52_method_3_code 55 = .ok (.iload_n 0, 1) := by decide +kernel
theorem d20_56 : decode jdk_52_method_3_code 56 = .ok (.iconst 1, 1) := by decide +kernel
theorem d20_57 : decode jdk_52_method_3_code 57 = .ok (.ishl, 1) := by decide +kernel
theorem d20_58 : decode jdk_52_method_3_code 58 = .ok (.ireturn, 1) := by decide +kernel
set_option maxRecDepth 65536 in
set_option maxHeartbeats 40000000 in
theorem rm20 (l : Launch) (Z : State) (a0 : Array Value) (hw : ∀ d ∈ tables_1, d.before a0 Z = true) (ws : List Jvm.Cond)  (h0 : Heap) (n0 : Nat) (Z0 : n0 ≤ h0.size)  :
    Ctr l Z (⟨"java/lang/StringUTF16", "newBytesLength", "(I)I"⟩ : MethodName) jdk_52_method_3_code 1 (some .int) ws ({ frames := 0, cells := 0, slots := 0, locals := 0 } : Room) 0 0 #[(.int (1 : Int32))] h0 (fun v h L => v = some (.int (2 : Int32)) ∧ L = [] ∧ h = h0) := by
  refine Ctr.mk (plainFor_of_name pn_0) fun p e s m below meth c T0 X0 C e0 => go_cast (ef_rm20 m (1 : Int32)) ?_
  have N0 := Fr.nil n0
  obtain ⟨hx, hZ, hby, hml, hown, hnm, hret, hlk⟩ := C
  show Go _ _ _ _ _ _ _ T0 (mkF m 0 #[.val (.int (1 : Int32))] [])
  refine Go.step (fun tt kk => XS.iloadN X0.here hx rfl (hb hby d20_0) rfl kk) ?_
  show Go _ _ _ _ _ _ _ T0 (mkF m 1 _ [(.int (1 : Int32))])
  refine Go.step (fun tt kk => XS.ifYes X0.here hx rfl (pc0 := 1) (pc' := 12) rfl (hb hby d20_1) rfl ((if0 _ _).trans (flt (by decide)).2.1) (by decide) (by decide) kk) ?_
  show Go _ _ _ _ _ _ _ T0 (mkF m 12 _ [])
  refine Go.step (fun tt kk => XS.iloadN X0.here hx rfl (hb hby d20_12) rfl kk) ?_
  show Go _ _ _ _ _ _ _ T0 (mkF m 13 _ [(.int (1 : Int32))])
  refine Go.step (X0.ldcInt hx hown (mvT hZ (hw _ (List.mem_of_getElem? (i := 86) rfl))) (g := (mkF m 13 #[.val (.int (1 : Int32))] [(.int (1 : Int32))])) rfl (hb hby d20_13)) ?_
  show Go _ _ _ _ _ _ _ T0 (mkF m 15 _ [(.int (1073741823 : Int32)), (.int (1 : Int32))])
  refine Go.step (fun tt kk => XS.icmpYes X0.here hx rfl (pc0 := 15) (pc' := 55) rfl (hb hby d20_15) rfl (tlt (by decide)).1 (by decide) (by decide) kk) ?_
  show Go _ _ _ _ _ _ _ T0 (mkF m 55 _ [])
  refine Go.step (fun tt kk => XS.iloadN X0.here hx rfl (hb hby d20_55) rfl kk) ?_
  show Go _ _ _ _ _ _ _ T0 (mkF m 56 _ [(.int (1 : Int32))])
  refine Go.step (fun tt kk => XS.iconst X0.here hx rfl (hb hby d20_56) kk) ?_
  show Go _ _ _ _ _ _ _ T0 (mkF m 57 _ [(.int (1 : Int32)), (.int (1 : Int32))])
  refine Go.step (fun tt kk => XS.ishl X0.here hx rfl (hb hby d20_57) rfl kk) ?_
  show Go _ _ _ _ _ _ _ T0 (mkF m 58 _ [(.int ((1 : Int32) <<< ((1 : Int32) &&& 31)))])
  refine go_retI X0 hx hret hlk (hb hby d20_58) ?_ (by decide) (by decide)
  try rw [e0]
  exact ⟨congrArg (fun z => some (Value.int z)) (by decide), rfl, rfl⟩
theorem ef_rm19 (m : MethodId) (x0 : Int32) : entryFrame m #[(.int x0)] 1 = mkF m 0 #[.val (.int x0)] [] := by first | (simp [entryFrame, mkF, argsToLocals, Value.category]; done) | rfl
theorem d19_0 : decode jdk_52_method_2_code 0 = .ok (.iload_n 0, 1) := by decide +kernel
theorem pd_0 : parseMethodDescriptor "(I)I" = some ⟨[.int], some .int⟩ := by decide +kernel
theorem d19_1 : decode jdk_52_method_2_code 1 = .ok (.invokestatic 11, 3) := by decide +kernel
theorem d19_4 : decode jdk_52_method_2_code 4 = .ok (.newarray .byte, 2) := by decide +kernel
theorem d19_6 : decode jdk_52_method_2_code 6 = .ok (.areturn, 1) := by decide +kernel
set_option maxRecDepth 65536 in
set_option maxHeartbeats 40000000 in
theorem rm19 (l : Launch) (Z : State) (a0 : Array Value) (hw : ∀ d ∈ tables_1, d.before a0 Z = true) (ws : List Jvm.Cond)  (h0 : Heap) (n0 : Nat) (Z0 : n0 ≤ h0.size)  :
    Ctr l Z (⟨"java/lang/StringUTF16", "newBytesFor", "(I)[B"⟩ : MethodName) jdk_52_method_2_code 1 (some (.array .byte)) ws ({ frames := 1, cells := 1, slots := 2, locals := 12 } : Room) 1 2 #[(.int (1 : Int32))] h0 (fun v h L => ∃ b, v = some (.ref b) ∧ Fr n0 L ∧ Keep h0 h [] ∧ h0.size ≤ b ∧ AV Z h b .byte 2 (lst [(.int (0 : Int32)), (.int (0 : Int32))])) := by
  refine Ctr.mk (plainFor_of_name pn_0) fun p e s m below meth c T0 X0 C e0 => go_cast (ef_rm19 m (1 : Int32)) ?_
  have N0 := Fr.nil n0
  obtain ⟨hx, hZ, hby, hml, hown, hnm, hret, hlk⟩ := C
  obtain ⟨hI, eI⟩ : ∃ z, z = h0 := ⟨_, rfl⟩
  have K0 : Keep hI h0 [] := by rw [eI]; exact Keep.refl _ _
  show Go _ _ _ _ _ _ _ T0 (mkF m 0 #[.val (.int (1 : Int32))] [])
  refine Go.step (fun tt kk => XS.iloadN X0.here hx rfl (hb hby d19_0) rfl kk) ?_
  show Go _ _ _ _ _ _ _ T0 (mkF m 1 _ [(.int (1 : Int32))])
  obtain ⟨v1, T1, L1, X1, q1, st1⟩ := c_static X0 hx hZ hown (y := (⟨"java/lang/StringUTF16", "newBytesLength", "(I)I"⟩ : MethodName)) (hw _ (List.mem_of_getElem? (i := 83) rfl)) (hw _ (List.mem_of_getElem? (i := 84) rfl)) (hw _ (List.mem_of_getElem? (i := 18) rfl)) (hw _ (List.mem_of_getElem? (i := 85) rfl)) (by decide) (argsL := [(.int (1 : Int32))]) (rest := []) (rm20 l Z a0 hw [] h0 n0 Z0) e0 pd_0 rfl (by rw [hml]; rfl) (W := 0) (by show 2 * 0 + _ ≤ _; exact Nat.le_of_eq rfl) (by decide) (by decide) (by decide) (by decide) (hb hby d19_1) (Ls := #[.val (.int (1 : Int32))])
  obtain ⟨rfl, rfl, e1⟩ := q1
  have N1 := Fr.app N0 (Fr.nil n0)
  refine Go.step (st1) ?_
  show Go _ _ _ _ _ _ _ T1 (mkF m 4 _ [(.int (2 : Int32))])
  obtain ⟨T2, h2, k2, X2, e2, E2, A2, EA2, st2⟩ := newPE X1 hx hZ (hw _ (List.mem_of_getElem? (i := 20) rfl)) e1 (g := (mkF m 4 #[.val (.int (1 : Int32))] [(.int (2 : Int32))])) rfl (hb hby d19_4) rfl (by decide) (cap := 2) (by decide) (by decide) (by decide) (by decide) (ad := "[B") rfl
  obtain ⟨b2, g2⟩ : ∃ z, z = h0.size := ⟨_, rfl⟩
  rw [← g2] at A2 EA2 st2
  have gn_b2 : n0 ≤ b2 := Nat.le_trans Z0 (Nat.le_of_eq g2.symm)
  have sz_b2 : hI.size ≤ b2 := Nat.le_trans K0.1 (Nat.le_of_eq g2.symm)
  have Z2 : n0 ≤ h2.size := Nat.le_trans Z0 E2.1
  have K2 : Keep hI h2 [] := K0.ext E2
  have V2 : AV Z h2 b2 .byte 2 (lst [(.int (0 : Int32)), (.int (0 : Int32))]) := AV.newL (AV.new A2 (by decide)) rfl
  refine Go.step (st2) ?_
  show Go _ _ _ _ _ _ _ T2 (mkF m 6 _ [(.ref b2)])
  refine go_retA X2 hx (t := (.array .byte)) hret rfl hlk rfl (hb hby d19_6) ?_ (by decide) (by decide)
  try rw [e2]
  exact ⟨b2, rfl, N1, eI ▸ K2, eI ▸ sz_b2, V2⟩
theorem ef_rm18 (m : MethodId) (x0 : Addr) (x1 : Int32) (x2 : Int32) : entryFrame m #[(.ref x0), (.int x1), (.int x2)] 5 = mkF m 0 #[.val (.ref x0), .val (.int x1), .val (.int x2), .unset, .unset] [] := by first | (simp [entryFrame, mkF, argsToLocals, Value.category]; done) | rfl
theorem d18_0 : decode jdk_52_method_14_code 0 = .ok (.iload_n 2, 1) := by decide +kernel
theorem pd_1 : parseMethodDescriptor "(I)[B" = some ⟨[.int], some (.array .byte)⟩ := by decide +kernel
theorem d18_1 : decode jdk_52_method_14_code 1 = .ok (.invokestatic 107, 3) := by decide +kernel
theorem d18_4 : decode jdk_52_method_14_code 4 = .ok (.astore_n 3, 1) := by decide +kernel
theorem d18_5 : decode jdk_52_method_14_code 5 = .ok (.iconst 0, 1) := by decide +kernel
theorem d18_6 : decode jdk_52_method_14_code 6 = .ok (.istore 4, 2) := by decide +kernel
theorem d18_8 : decode jdk_52_method_14_code 8 = .ok (.iload 4, 2) := by decide +kernel
theorem d18_10 : decode jdk_52_method_14_code 10 = .ok (.iload_n 2, 1) := by decide +kernel
theorem d18_11 : decode jdk_52_method_14_code 11 = .ok (.if_icmp .ge 21, 3) := by decide +kernel
theorem d18_14 : decode jdk_52_method_14_code 14 = .ok (.aload_n 3, 1) := by decide +kernel
theorem d18_15 : decode jdk_52_method_14_code 15 = .ok (.iload 4, 2) := by decide +kernel
theorem d18_17 : decode jdk_52_method_14_code 17 = .ok (.aload_n 0, 1) := by decide +kernel
theorem d18_18 : decode jdk_52_method_14_code 18 = .ok (.iload_n 1, 1) := by decide +kernel
theorem d18_19 : decode jdk_52_method_14_code 19 = .ok (.caload, 1) := by decide +kernel
theorem pd_2 : parseMethodDescriptor "([BII)V" = some ⟨[(.array .byte), .int, .int], none⟩ := by decide +kernel
theorem d18_20 : decode jdk_52_method_14_code 20 = .ok (.invokestatic 111, 3) := by decide +kernel
theorem d18_23 : decode jdk_52_method_14_code 23 = .ok (.iinc 1 1, 3) := by decide +kernel
theorem d18_26 : decode jdk_52_method_14_code 26 = .ok (.iinc 4 1, 3) := by decide +kernel
theorem d18_29 : decode jdk_52_method_14_code 29 = .ok (.goto (-21), 3) := by decide +kernel
theorem d18_32 : decode jdk_52_method_14_code 32 = .ok (.aload_n 3, 1) := by decide +kernel
theorem d18_33 : decode jdk_52_method_14_code 33 = .ok (.areturn, 1) := by decide +kernel
set_option maxRecDepth 65536 in
set_option maxHeartbeats 40000000 in
theorem rm18 (l : Launch) (Z : State) (a0 : Array Value) (hw : ∀ d ∈ tables_1, d.before a0 Z = true) (ws : List Jvm.Cond) (k : Addr) (ch : Int32) (h0 : Heap) (n0 : Nat) (Z0 : n0 ≤ h0.size) (S1 : Sta Z h0 "java/lang/StringUTF16" "$assertionsDisabled" "Z" (.int (1 : Int32))) (S2 : Sta Z h0 "java/lang/StringUTF16" "HI_BYTE_SHIFT" "I" (.int (0 : Int32))) (S3 : Sta Z h0 "java/lang/StringUTF16" "LO_BYTE_SHIFT" "I" (.int (8 : Int32))) (V_k : AV Z h0 k .char 1 (lst [(.int ch)])) :
    Ctr l Z (⟨"java/lang/StringUTF16", "toBytes", "([CII)[B"⟩ : MethodName) jdk_52_method_14_code 5 (some (.array .byte)) ws ({ frames := 2, cells := 1, slots := 2, locals := 24 } : Room) 1 2 #[(.ref k), (.int (0 : Int32)), (.int (1 : Int32))] h0 (fun v h L => ∃ b, v = some (.ref b) ∧ Fr n0 L ∧ Keep h0 h [] ∧ h0.size ≤ b ∧ AV Z h b .byte 2 (lst [(.int ((ch >>> ((0 : Int32) &&& 31)).toInt8.toInt32)), (.int ((ch >>> ((8 : Int32) &&& 31)).toInt8.toInt32))])) := by
  refine Ctr.mk (plainFor_of_name pn_0) fun p e s m below meth c T0 X0 C e0 => go_cast (ef_rm18 m k (0 : Int32) (1 : Int32)) ?_
  have N0 := Fr.nil n0
  obtain ⟨hx, hZ, hby, hml, hown, hnm, hret, hlk⟩ := C
  obtain ⟨hI, eI⟩ : ∃ z, z = h0 := ⟨_, rfl⟩
  have K0 : Keep hI h0 [] := by rw [eI]; exact Keep.refl _ _
  show Go _ _ _ _ _ _ _ T0 (mkF m 0 #[.val (.ref k), .val (.int (0 : Int32)), .val (.int (1 : Int32)), .unset, .unset] [])
  refine Go.step (fun tt kk => XS.iloadN X0.here hx rfl (hb hby d18_0) rfl kk) ?_
  show Go _ _ _ _ _ _ _ T0 (mkF m 1 _ [(.int (1 : Int32))])
  obtain ⟨v1, T1, L1, X1, q1, st1⟩ := c_static X0 hx hZ hown (y := (⟨"java/lang/StringUTF16", "newBytesFor", "(I)[B"⟩ : MethodName)) (hw _ (List.mem_of_getElem? (i := 80) rfl)) (hw _ (List.mem_of_getElem? (i := 81) rfl)) (hw _ (List.mem_of_getElem? (i := 18) rfl)) (hw _ (List.mem_of_getElem? (i := 82) rfl)) (by decide) (argsL := [(.int (1 : Int32))]) (rest := []) (rm19 l Z a0 hw [] h0 n0 Z0) e0 pd_1 rfl (by rw [hml]; rfl) (W := 0) (by show 2 * 0 + _ ≤ _; exact Nat.le_of_eq rfl) (by decide) (by decide) (by decide) (by decide) (hb hby d18_1) (Ls := #[.val (.ref k), .val (.int (0 : Int32)), .val (.int (1 : Int32)), .unset, .unset])
  generalize e1 : T1.heap = h1 at q1
  obtain ⟨bb1, rfl, N1q, K1q, sz_bb1, V1q⟩ := q1
  have N1 := Fr.app N0 N1q
  have Z1 : n0 ≤ h1.size := Nat.le_trans Z0 K1q.1
  have ne_k_bb1 : k ≠ bb1 := Nat.ne_of_lt (Nat.lt_of_lt_of_le V_k.lt sz_bb1)
  have gn_bb1 : n0 ≤ bb1 := Nat.le_trans Z0 sz_bb1
  have sy_bb1 : hI.size ≤ bb1 := Nat.le_trans K0.1 sz_bb1
  have K1 : Keep hI h1 [] := K0.trans K1q all0
  refine Go.step (st1) ?_
  show Go _ _ _ _ _ _ _ T1 (mkF m 4 _ [(.ref bb1)])
  refine Go.step (fun tt kk => XS.astoreN X1.here hx rfl (hb hby d18_4) rfl rfl (l' := #[.val (.ref k), .val (.int (0 : Int32)), .val (.int (1 : Int32)), .val (.ref bb1), .unset]) rfl kk) ?_
  show Go _ _ _ _ _ _ _ T1 (mkF m 5 _ [])
  refine Go.step (fun tt kk => XS.iconst X1.here hx rfl (hb hby d18_5) kk) ?_
  show Go _ _ _ _ _ _ _ T1 (mkF m 6 _ [(.int (0 : Int32))])
  refine Go.step (fun tt kk => XS.istore X1.here hx rfl (hb hby d18_6) rfl (l' := #[.val (.ref k), .val (.int (0 : Int32)), .val (.int (1 : Int32)), .val (.ref bb1), .val (.int (0 : Int32))]) rfl kk) ?_
  show Go _ _ _ _ _ _ _ T1 (mkF m 8 _ [])
  refine Go.step (fun tt kk => XS.iload X1.here hx rfl (hb hby d18_8) rfl kk) ?_
  show Go _ _ _ _ _ _ _ T1 (mkF m 10 _ [(.int (0 : Int32))])
  refine Go.step (fun tt kk => XS.iloadN X1.here hx rfl (hb hby d18_10) rfl kk) ?_
  show Go _ _ _ _ _ _ _ T1 (mkF m 11 _ [(.int (1 : Int32)), (.int (0 : Int32))])
  refine Go.step (fun tt kk => XS.icmpNo X1.here hx rfl (hb hby d18_11) rfl (tlt (by decide)).2.1 kk) ?_
  show Go _ _ _ _ _ _ _ T1 (mkF m 14 _ [])
  refine Go.step (fun tt kk => XS.aloadN X1.here hx rfl (hb hby d18_14) rfl rfl kk) ?_
  show Go _ _ _ _ _ _ _ T1 (mkF m 15 _ [(.ref bb1)])
  refine Go.step (fun tt kk => XS.iload X1.here hx rfl (hb hby d18_15) rfl kk) ?_
  show Go _ _ _ _ _ _ _ T1 (mkF m 17 _ [(.int (0 : Int32)), (.ref bb1)])
  refine Go.step (fun tt kk => XS.aloadN X1.here hx rfl (hb hby d18_17) rfl rfl kk) ?_
  show Go _ _ _ _ _ _ _ T1 (mkF m 18 _ [(.ref k), (.int (0 : Int32)), (.ref bb1)])
  refine Go.step (fun tt kk => XS.iloadN X1.here hx rfl (hb hby d18_18) rfl kk) ?_
  show Go _ _ _ _ _ _ _ T1 (mkF m 19 _ [(.int (0 : Int32)), (.ref k), (.int (0 : Int32)), (.ref bb1)])
  have f2 := (V_k.keep K1q nin0)
  refine Go.step (a_cload X1 hx hZ e1 f2 (k := 0) (by decide) (by decide) (x := ch) rfl (hb hby d18_19)) ?_
  show Go _ _ _ _ _ _ _ T1 (mkF m 20 _ [(.int ch), (.int (0 : Int32)), (.ref bb1)])
  have f4 := (own_sta_keep S1 K1q)
  have f5 := (own_sta_keep S2 K1q)
  have f6 := (own_sta_keep S3 K1q)
  obtain ⟨v3, T3, L3, X3, q3, st3⟩ := c_static X1 hx hZ hown (y := (⟨"java/lang/StringUTF16", "putChar", "([BII)V"⟩ : MethodName)) (hw _ (List.mem_of_getElem? (i := 87) rfl)) (hw _ (List.mem_of_getElem? (i := 88) rfl)) (hw _ (List.mem_of_getElem? (i := 18) rfl)) (hw _ (List.mem_of_getElem? (i := 89) rfl)) (by decide) (argsL := [(.ref bb1), (.int (0 : Int32)), (.int ch)]) (rest := []) (rm21 l Z a0 hw [] bb1 ch h1 n0 Z1 f4 f5 f6 V1q gn_bb1) e1 pd_2 rfl (by rw [hml]; rfl) (W := 0) (by show 2 * 0 + _ ≤ _; exact Nat.le_of_eq rfl) (by decide) (by decide) (by decide) (by decide) (hb hby d18_20) (Ls := #[.val (.ref k), .val (.int (0 : Int32)), .val (.int (1 : Int32)), .val (.ref bb1), .val (.int (0 : Int32))])
  generalize e3 : T3.heap = h3 at q3
  obtain ⟨rfl, N3q, K3q, V3q⟩ := q3
  have N3 := Fr.app N1 N3q
  have Z3 : n0 ≤ h3.size := Nat.le_trans Z1 K3q.1
  have K3 : Keep hI h3 [] := K1.trans K3q (allS (Or.inr sy_bb1) all0)
  refine Go.step (st3) ?_
  show Go _ _ _ _ _ _ _ T3 (mkF m 23 _ [])
  refine Go.step (fun tt kk => XS.iinc X3.here hx rfl (hb hby d18_23) rfl (l' := #[.val (.ref k), .val (.int (1 : Int32)), .val (.int (1 : Int32)), .val (.ref bb1), .val (.int (0 : Int32))]) rfl kk) ?_
  show Go _ _ _ _ _ _ _ T3 (mkF m 26 _ [])
  refine Go.step (fun tt kk => XS.iinc X3.here hx rfl (hb hby d18_26) rfl (l' := #[.val (.ref k), .val (.int (1 : Int32)), .val (.int (1 : Int32)), .val (.ref bb1), .val (.int (1 : Int32))]) rfl kk) ?_
  show Go _ _ _ _ _ _ _ T3 (mkF m 29 _ [])
  refine Go.step (fun tt kk => XS.goto X3.here hx rfl (pc0 := 29) (pc' := 8) rfl (hb hby d18_29) (by decide) (by decide) kk) ?_
  show Go _ _ _ _ _ _ _ T3 (mkF m 8 _ [])
  refine Go.step (fun tt kk => XS.iload X3.here hx rfl (hb hby d18_8) rfl kk) ?_
  show Go _ _ _ _ _ _ _ T3 (mkF m 10 _ [(.int (1 : Int32))])
  refine Go.step (fun tt kk => XS.iloadN X3.here hx rfl (hb hby d18_10) rfl kk) ?_
  show Go _ _ _ _ _ _ _ T3 (mkF m 11 _ [(.int (1 : Int32)), (.int (1 : Int32))])
  refine Go.step (fun tt kk => XS.icmpYes X3.here hx rfl (pc0 := 11) (pc' := 32) rfl (hb hby d18_11) rfl (flt (by decide)).2.1 (by decide) (by decide) kk) ?_
  show Go _ _ _ _ _ _ _ T3 (mkF m 32 _ [])
  refine Go.step (fun tt kk => XS.aloadN X3.here hx rfl (hb hby d18_32) rfl rfl kk) ?_
  show Go _ _ _ _ _ _ _ T3 (mkF m 33 _ [(.ref bb1)])
  refine go_retA X3 hx (t := (.array .byte)) hret rfl hlk rfl (hb hby d18_33) ?_ (by decide) (by decide)
  try rw [e3]
  exact ⟨bb1, rfl, N3, eI ▸ K3, eI ▸ sy_bb1, V3q⟩
theorem ef_rm4L (m : MethodId) (x0 : Addr) (x1 : Int32) (x2 : Int32) : entryFrame m #[(.ref x0), (.int x1), (.int x2)] 6 = mkF m 0 #[.val (.ref x0), .val (.int x1), .val (.int x2), .unset, .unset, .unset] [] := by first | (simp [entryFrame, mkF, argsToLocals, Value.category]; done) | rfl
theorem d4_0 : decode jdk_52_method_16_code 0 = .ok (.iload_n 2, 1) := by decide +kernel
theorem d4_1 : decode jdk_52_method_16_code 1 = .ok (.newarray .byte, 2) := by decide +kernel
theorem d4_3 : decode jdk_52_method_16_code 3 = .ok (.astore_n 3, 1) := by decide +kernel
theorem d4_4 : decode jdk_52_method_16_code 4 = .ok (.aload_n 0, 1) := by decide +kernel
theorem d4_5 : decode jdk_52_method_16_code 5 = .ok (.iload_n 1, 1) := by decide +kernel
theorem d4_6 : decode jdk_52_method_16_code 6 = .ok (.aload_n 3, 1) := by decide +kernel
theorem d4_7 : decode jdk_52_method_16_code 7 = .ok (.iconst 0, 1) := by decide +kernel
theorem d4_8 : decode jdk_52_method_16_code 8 = .ok (.iload_n 2, 1) := by decide +kernel
theorem pd_3 : parseMethodDescriptor "([CI[BII)I" = some ⟨[(.array .char), .int, (.array .byte), .int, .int], some .int⟩ := by decide +kernel
theorem d4_9 : decode jdk_52_method_16_code 9 = .ok (.invokestatic 115, 3) := by decide +kernel
theorem d4_12 : decode jdk_52_method_16_code 12 = .ok (.istore 4, 2) := by decide +kernel
theorem d4_14 : decode jdk_52_method_16_code 14 = .ok (.iload 4, 2) := by decide +kernel
theorem d4_16 : decode jdk_52_method_16_code 16 = .ok (.iload_n 2, 1) := by decide +kernel
theorem d4_17 : decode jdk_52_method_16_code 17 = .ok (.if_icmp .eq 40, 3) := by decide +kernel
theorem d4_57 : decode jdk_52_method_16_code 57 = .ok (.aload_n 3, 1) := by decide +kernel
theorem d4_58 : decode jdk_52_method_16_code 58 = .ok (.areturn, 1) := by decide +kernel
set_option maxRecDepth 65536 in
set_option maxHeartbeats 40000000 in
theorem rm4L (l : Launch) (Z : State) (a0 : Array Value) (hw : ∀ d ∈ tables_1, d.before a0 Z = true) (ws : List Jvm.Cond) (k : Addr) (ch : Int32) (h0 : Heap) (n0 : Nat) (Z0 : n0 ≤ h0.size) (hc0 : 0 ≤ ch.toInt) (hc1 : ch.toInt < 65536) (hL : ¬ (255 : Int32) < ch) (V_k : AV Z h0 k .char 1 (lst [(.int ch)])) :
    Ctr l Z (⟨"java/lang/StringUTF16", "compress", "([CII)[B"⟩ : MethodName) jdk_52_method_16_code 6 (some (.array .byte)) ws ({ frames := 1, cells := 1, slots := 1, locals := 18 } : Room) 1 1 #[(.ref k), (.int (0 : Int32)), (.int (1 : Int32))] h0 (fun v h L => ∃ b, v = some (.ref b) ∧ Fr n0 L ∧ Keep h0 h [] ∧ h0.size ≤ b ∧ AV Z h b .byte 1 (lst [(.int (ch.toInt8.toInt32))])) := by
  refine Ctr.mk (plainFor_of_name pn_0) fun p e s m below meth c T0 X0 C e0 => go_cast (ef_rm4L m k (0 : Int32) (1 : Int32)) ?_
  have N0 := Fr.nil n0
  obtain ⟨hx, hZ, hby, hml, hown, hnm, hret, hlk⟩ := C
  obtain ⟨hI, eI⟩ : ∃ z, z = h0 := ⟨_, rfl⟩
  have K0 : Keep hI h0 [] := by rw [eI]; exact Keep.refl _ _
  show Go _ _ _ _ _ _ _ T0 (mkF m 0 #[.val (.ref k), .val (.int (0 : Int32)), .val (.int (1 : Int32)), .unset, .unset, .unset] [])
  refine Go.step (fun tt kk => XS.iloadN X0.here hx rfl (hb hby d4_0) rfl kk) ?_
  show Go _ _ _ _ _ _ _ T0 (mkF m 1 _ [(.int (1 : Int32))])
  obtain ⟨T1, h1, k1, X1, e1, E1, A1, EA1, st1⟩ := newPE X0 hx hZ (hw _ (List.mem_of_getElem? (i := 20) rfl)) e0 (g := (mkF m 1 #[.val (.ref k), .val (.int (0 : Int32)), .val (.int (1 : Int32)), .unset, .unset, .unset] [(.int (1 : Int32))])) rfl (hb hby d4_1) rfl (by decide) (cap := 1) (by decide) (by decide) (by decide) (by decide) (ad := "[B") rfl
  obtain ⟨b1, g1⟩ : ∃ z, z = h0.size := ⟨_, rfl⟩
  rw [← g1] at A1 EA1 st1
  have ne_k_b1 : k ≠ b1 := Nat.ne_of_lt (Nat.lt_of_lt_of_le V_k.lt (Nat.le_of_eq g1.symm))
  have gn_b1 : n0 ≤ b1 := Nat.le_trans Z0 (Nat.le_of_eq g1.symm)
  have sz_b1 : hI.size ≤ b1 := Nat.le_trans K0.1 (Nat.le_of_eq g1.symm)
  have Z1 : n0 ≤ h1.size := Nat.le_trans Z0 E1.1
  have K1 : Keep hI h1 [] := K0.ext E1
  have V1 : AV Z h1 b1 .byte 1 (lst [(.int (0 : Int32))]) := AV.newL (AV.new A1 (by decide)) rfl
  refine Go.step (st1) ?_
  show Go _ _ _ _ _ _ _ T1 (mkF m 3 _ [(.ref b1)])
  refine Go.step (fun tt kk => XS.astoreN X1.here hx rfl (hb hby d4_3) rfl rfl (l' := #[.val (.ref k), .val (.int (0 : Int32)), .val (.int (1 : Int32)), .val (.ref b1), .unset, .unset]) rfl kk) ?_
  show Go _ _ _ _ _ _ _ T1 (mkF m 4 _ [])
  refine Go.step (fun tt kk => XS.aloadN X1.here hx rfl (hb hby d4_4) rfl rfl kk) ?_
  show Go _ _ _ _ _ _ _ T1 (mkF m 5 _ [(.ref k)])
  refine Go.step (fun tt kk => XS.iloadN X1.here hx rfl (hb hby d4_5) rfl kk) ?_
  show Go _ _ _ _ _ _ _ T1 (mkF m 6 _ [(.int (0 : Int32)), (.ref k)])
  refine Go.step (fun tt kk => XS.aloadN X1.here hx rfl (hb hby d4_6) rfl rfl kk) ?_
  show Go _ _ _ _ _ _ _ T1 (mkF m 7 _ [(.ref b1), (.int (0 : Int32)), (.ref k)])
  refine Go.step (fun tt kk => XS.iconst X1.here hx rfl (hb hby d4_7) kk) ?_
  show Go _ _ _ _ _ _ _ T1 (mkF m 8 _ [(.int (0 : Int32)), (.ref b1), (.int (0 : Int32)), (.ref k)])
  refine Go.step (fun tt kk => XS.iloadN X1.here hx rfl (hb hby d4_8) rfl kk) ?_
  show Go _ _ _ _ _ _ _ T1 (mkF m 9 _ [(.int (1 : Int32)), (.int (0 : Int32)), (.ref b1), (.int (0 : Int32)), (.ref k)])
  have f3 := (V_k.ext E1)
  obtain ⟨v2, T2, L2, X2, q2, st2⟩ := c_static X1 hx hZ hown (y := (⟨"java/lang/StringUTF16", "compress", "([CI[BII)I"⟩ : MethodName)) (hw _ (List.mem_of_getElem? (i := 21) rfl)) (hw _ (List.mem_of_getElem? (i := 22) rfl)) (hw _ (List.mem_of_getElem? (i := 18) rfl)) (hw _ (List.mem_of_getElem? (i := 23) rfl)) (by decide) (argsL := [(.ref k), (.int (0 : Int32)), (.ref b1), (.int (0 : Int32)), (.int (1 : Int32))]) (rest := []) (rm5L l Z a0 hw [] k b1 ch h1 n0 Z1 hL f3 V1 ne_k_b1 gn_b1) e1 pd_3 rfl (by rw [hml]; rfl) (W := 0) (by show 2 * 0 + _ ≤ _; exact Nat.le_of_eq rfl) (by decide) (by decide) (by decide) (by decide) (hb hby d4_9) (Ls := #[.val (.ref k), .val (.int (0 : Int32)), .val (.int (1 : Int32)), .val (.ref b1), .unset, .unset])
  generalize e2 : T2.heap = h2 at q2
  obtain ⟨rfl, N2q, K2q, V2q⟩ := q2
  have N2 := Fr.app N0 N2q
  have Z2 : n0 ≤ h2.size := Nat.le_trans Z1 K2q.1
  have K2 : Keep hI h2 [] := K1.trans K2q (allS (Or.inr sz_b1) all0)
  refine Go.step (st2) ?_
  show Go _ _ _ _ _ _ _ T2 (mkF m 12 _ [(.int (1 : Int32))])
  refine Go.step (fun tt kk => XS.istore X2.here hx rfl (hb hby d4_12) rfl (l' := #[.val (.ref k), .val (.int (0 : Int32)), .val (.int (1 : Int32)), .val (.ref b1), .val (.int (1 : Int32)), .unset]) rfl kk) ?_
  show Go _ _ _ _ _ _ _ T2 (mkF m 14 _ [])
  refine Go.step (fun tt kk => XS.iload X2.here hx rfl (hb hby d4_14) rfl kk) ?_
  show Go _ _ _ _ _ _ _ T2 (mkF m 16 _ [(.int (1 : Int32))])
  refine Go.step (fun tt kk => XS.iloadN X2.here hx rfl (hb hby d4_16) rfl kk) ?_
  show Go _ _ _ _ _ _ _ T2 (mkF m 17 _ [(.int (1 : Int32)), (.int (1 : Int32))])
  refine Go.step (fun tt kk => XS.icmpYes X2.here hx rfl (pc0 := 17) (pc' := 57) rfl (hb hby d4_17) rfl (teq (by decide)).1 (by decide) (by decide) kk) ?_
  show Go _ _ _ _ _ _ _ T2 (mkF m 57 _ [])
  refine Go.step (fun tt kk => XS.aloadN X2.here hx rfl (hb hby d4_57) rfl rfl kk) ?_
  show Go _ _ _ _ _ _ _ T2 (mkF m 58 _ [(.ref b1)])
  refine go_retA X2 hx (t := (.array .byte)) hret rfl hlk rfl (hb hby d4_58) ?_ (by decide) (by decide)
  try rw [e2]
  exact ⟨b1, rfl, N2, eI ▸ K2, eI ▸ sz_b1, V2q⟩
theorem ef_rm4U (m : MethodId) (x0 : Addr) (x1 : Int32) (x2 : Int32) : entryFrame m #[(.ref x0), (.int x1), (.int x2)] 6 = mkF m 0 #[.val (.ref x0), .val (.int x1), .val (.int x2), .unset, .unset, .unset] [] := by first | (simp [entryFrame, mkF, argsToLocals, Value.category]; done) | rfl
theorem d4_20 : decode jdk_52_method_16_code 20 = .ok (.aload_n 0, 1) := by decide +kernel
theorem d4_21 : decode jdk_52_method_16_code 21 = .ok (.iload_n 1, 1) := by decide +kernel
theorem d4_22 : decode jdk_52_method_16_code 22 = .ok (.iload_n 2, 1) := by decide +kernel
theorem pd_4 : parseMethodDescriptor "([CII)[B" = some ⟨[(.array .char), .int, .int], some (.array .byte)⟩ := by decide +kernel
theorem d4_23 : decode jdk_52_method_16_code 23 = .ok (.invokestatic 119, 3) := by decide +kernel
theorem d4_26 : decode jdk_52_method_16_code 26 = .ok (.astore 5, 2) := by decide +kernel
theorem d4_28 : decode jdk_52_method_16_code 28 = .ok (.aload 5, 2) := by decide +kernel
theorem d4_30 : decode jdk_52_method_16_code 30 = .ok (.iload 4, 2) := by decide +kernel
theorem pd_5 : parseMethodDescriptor "([BI)C" = some ⟨[(.array .byte), .int], some .char⟩ := by decide +kernel
theorem d4_32 : decode jdk_52_method_16_code 32 = .ok (.invokestatic 71, 3) := by decide +kernel
theorem d4_35 : decode jdk_52_method_16_code 35 = .ok (.sipush 255, 3) := by decide +kernel
theorem d4_38 : decode jdk_52_method_16_code 38 = .ok (.if_icmp .gt 16, 3) := by decide +kernel
theorem d4_54 : decode jdk_52_method_16_code 54 = .ok (.aload 5, 2) := by decide +kernel
theorem d4_56 : decode jdk_52_method_16_code 56 = .ok (.areturn, 1) := by decide +kernel
set_option maxRecDepth 65536 in
set_option maxHeartbeats 40000000 in
theorem rm4U (l : Launch) (Z : State) (a0 : Array Value) (hw : ∀ d ∈ tables_1, d.before a0 Z = true) (ws : List Jvm.Cond) (k : Addr) (ch : Int32) (h0 : Heap) (n0 : Nat) (Z0 : n0 ≤ h0.size) (hc0 : 0 ≤ ch.toInt) (hc1 : ch.toInt < 65536) (hU : (255 : Int32) < ch) (S1 : Sta Z h0 "java/lang/StringUTF16" "$assertionsDisabled" "Z" (.int (1 : Int32))) (S2 : Sta Z h0 "java/lang/StringUTF16" "HI_BYTE_SHIFT" "I" (.int (0 : Int32))) (S3 : Sta Z h0 "java/lang/StringUTF16" "LO_BYTE_SHIFT" "I" (.int (8 : Int32))) (V_k : AV Z h0 k .char 1 (lst [(.int ch)])) :
    Ctr l Z (⟨"java/lang/StringUTF16", "compress", "([CII)[B"⟩ : MethodName) jdk_52_method_16_code 6 (some (.array .byte)) ws ({ frames := 3, cells := 2, slots := 3, locals := 40 } : Room) 2 3 #[(.ref k), (.int (0 : Int32)), (.int (1 : Int32))] h0 (fun v h L => ∃ b, v = some (.ref b) ∧ Fr n0 L ∧ Keep h0 h [] ∧ h0.size ≤ b ∧ AV Z h b .byte 2 (lst [(.int ((ch >>> ((0 : Int32) &&& 31)).toInt8.toInt32)), (.int ((ch >>> ((8 : Int32) &&& 31)).toInt8.toInt32))])) := by
  refine Ctr.mk (plainFor_of_name pn_0) fun p e s m below meth c T0 X0 C e0 => go_cast (ef_rm4U m k (0 : Int32) (1 : Int32)) ?_
  have N0 := Fr.nil n0
  obtain ⟨hx, hZ, hby, hml, hown, hnm, hret, hlk⟩ := C
  obtain ⟨hI, eI⟩ : ∃ z, z = h0 := ⟨_, rfl⟩
  have K0 : Keep hI h0 [] := by rw [eI]; exact Keep.refl _ _
  show Go _ _ _ _ _ _ _ T0 (mkF m 0 #[.val (.ref k), .val (.int (0 : Int32)), .val (.int (1 : Int32)), .unset, .unset, .unset] [])
  refine Go.step (fun tt kk => XS.iloadN X0.here hx rfl (hb hby d4_0) rfl kk) ?_
  show Go _ _ _ _ _ _ _ T0 (mkF m 1 _ [(.int (1 : Int32))])
  obtain ⟨T1, h1, k1, X1, e1, E1, A1, EA1, st1⟩ := newPE X0 hx hZ (hw _ (List.mem_of_getElem? (i := 20) rfl)) e0 (g := (mkF m 1 #[.val (.ref k), .val (.int (0 : Int32)), .val (.int (1 : Int32)), .unset, .unset, .unset] [(.int (1 : Int32))])) rfl (hb hby d4_1) rfl (by decide) (cap := 1) (by decide) (by decide) (by decide) (by decide) (ad := "[B") rfl
  obtain ⟨b1, g1⟩ : ∃ z, z = h0.size := ⟨_, rfl⟩
  rw [← g1] at A1 EA1 st1
  have ne_k_b1 : k ≠ b1 := Nat.ne_of_lt (Nat.lt_of_lt_of_le V_k.lt (Nat.le_of_eq g1.symm))
  have gn_b1 : n0 ≤ b1 := Nat.le_trans Z0 (Nat.le_of_eq g1.symm)
  have sz_b1 : hI.size ≤ b1 := Nat.le_trans K0.1 (Nat.le_of_eq g1.symm)
  have Z1 : n0 ≤ h1.size := Nat.le_trans Z0 E1.1
  have K1 : Keep hI h1 [] := K0.ext E1
  have V1 : AV Z h1 b1 .byte 1 (lst [(.int (0 : Int32))]) := AV.newL (AV.new A1 (by decide)) rfl
  refine Go.step (st1) ?_
  show Go _ _ _ _ _ _ _ T1 (mkF m 3 _ [(.ref b1)])
  refine Go.step (fun tt kk => XS.astoreN X1.here hx rfl (hb hby d4_3) rfl rfl (l' := #[.val (.ref k), .val (.int (0 : Int32)), .val (.int (1 : Int32)), .val (.ref b1), .unset, .unset]) rfl kk) ?_
  show Go _ _ _ _ _ _ _ T1 (mkF m 4 _ [])
  refine Go.step (fun tt kk => XS.aloadN X1.here hx rfl (hb hby d4_4) rfl rfl kk) ?_
  show Go _ _ _ _ _ _ _ T1 (mkF m 5 _ [(.ref k)])
  refine Go.step (fun tt kk => XS.iloadN X1.here hx rfl (hb hby d4_5) rfl kk) ?_
  show Go _ _ _ _ _ _ _ T1 (mkF m 6 _ [(.int (0 : Int32)), (.ref k)])
  refine Go.step (fun tt kk => XS.aloadN X1.here hx rfl (hb hby d4_6) rfl rfl kk) ?_
  show Go _ _ _ _ _ _ _ T1 (mkF m 7 _ [(.ref b1), (.int (0 : Int32)), (.ref k)])
  refine Go.step (fun tt kk => XS.iconst X1.here hx rfl (hb hby d4_7) kk) ?_
  show Go _ _ _ _ _ _ _ T1 (mkF m 8 _ [(.int (0 : Int32)), (.ref b1), (.int (0 : Int32)), (.ref k)])
  refine Go.step (fun tt kk => XS.iloadN X1.here hx rfl (hb hby d4_8) rfl kk) ?_
  show Go _ _ _ _ _ _ _ T1 (mkF m 9 _ [(.int (1 : Int32)), (.int (0 : Int32)), (.ref b1), (.int (0 : Int32)), (.ref k)])
  have f3 := (V_k.ext E1)
  obtain ⟨v2, T2, L2, X2, q2, st2⟩ := c_static X1 hx hZ hown (y := (⟨"java/lang/StringUTF16", "compress", "([CI[BII)I"⟩ : MethodName)) (hw _ (List.mem_of_getElem? (i := 21) rfl)) (hw _ (List.mem_of_getElem? (i := 22) rfl)) (hw _ (List.mem_of_getElem? (i := 18) rfl)) (hw _ (List.mem_of_getElem? (i := 23) rfl)) (by decide) (argsL := [(.ref k), (.int (0 : Int32)), (.ref b1), (.int (0 : Int32)), (.int (1 : Int32))]) (rest := []) (rm5U l Z a0 hw [] k b1 ch h1 n0 Z1 hU f3) e1 pd_3 rfl (by rw [hml]; rfl) (W := 0) (by show 2 * 0 + _ ≤ _; exact Nat.le_of_eq rfl) (by decide) (by decide) (by decide) (by decide) (hb hby d4_9) (Ls := #[.val (.ref k), .val (.int (0 : Int32)), .val (.int (1 : Int32)), .val (.ref b1), .unset, .unset])
  obtain ⟨rfl, rfl, e2⟩ := q2
  have N2 := Fr.app N0 (Fr.nil n0)
  refine Go.step (st2) ?_
  show Go _ _ _ _ _ _ _ T2 (mkF m 12 _ [(.int (0 : Int32))])
  refine Go.step (fun tt kk => XS.istore X2.here hx rfl (hb hby d4_12) rfl (l' := #[.val (.ref k), .val (.int (0 : Int32)), .val (.int (1 : Int32)), .val (.ref b1), .val (.int (0 : Int32)), .unset]) rfl kk) ?_
  show Go _ _ _ _ _ _ _ T2 (mkF m 14 _ [])
  refine Go.step (fun tt kk => XS.iload X2.here hx rfl (hb hby d4_14) rfl kk) ?_
  show Go _ _ _ _ _ _ _ T2 (mkF m 16 _ [(.int (0 : Int32))])
  refine Go.step (fun tt kk => XS.iloadN X2.here hx rfl (hb hby d4_16) rfl kk) ?_
  show Go _ _ _ _ _ _ _ T2 (mkF m 17 _ [(.int (1 : Int32)), (.int (0 : Int32))])
  refine Go.step (fun tt kk => XS.icmpNo X2.here hx rfl (hb hby d4_17) rfl (feq (by decide)).1 kk) ?_
  show Go _ _ _ _ _ _ _ T2 (mkF m 20 _ [])
  refine Go.step (fun tt kk => XS.aloadN X2.here hx rfl (hb hby d4_20) rfl rfl kk) ?_
  show Go _ _ _ _ _ _ _ T2 (mkF m 21 _ [(.ref k)])
  refine Go.step (fun tt kk => XS.iloadN X2.here hx rfl (hb hby d4_21) rfl kk) ?_
  show Go _ _ _ _ _ _ _ T2 (mkF m 22 _ [(.int (0 : Int32)), (.ref k)])
  refine Go.step (fun tt kk => XS.iloadN X2.here hx rfl (hb hby d4_22) rfl kk) ?_
  show Go _ _ _ _ _ _ _ T2 (mkF m 23 _ [(.int (1 : Int32)), (.int (0 : Int32)), (.ref k)])
  have f5 := (Sta.ext E1 S1)
  have f6 := (Sta.ext E1 S2)
  have f7 := (Sta.ext E1 S3)
  obtain ⟨v4, T4, L4, X4, q4, st4⟩ := c_static X2 hx hZ hown (y := (⟨"java/lang/StringUTF16", "toBytes", "([CII)[B"⟩ : MethodName)) (hw _ (List.mem_of_getElem? (i := 77) rfl)) (hw _ (List.mem_of_getElem? (i := 78) rfl)) (hw _ (List.mem_of_getElem? (i := 18) rfl)) (hw _ (List.mem_of_getElem? (i := 79) rfl)) (by decide) (argsL := [(.ref k), (.int (0 : Int32)), (.int (1 : Int32))]) (rest := []) (rm18 l Z a0 hw [] k ch h1 n0 Z1 f5 f6 f7 f3) e2 pd_4 rfl (by rw [hml]; rfl) (W := 0) (by show 2 * 0 + _ ≤ _; exact Nat.le_of_eq rfl) (by decide) (by decide) (by decide) (by decide) (hb hby d4_23) (Ls := #[.val (.ref k), .val (.int (0 : Int32)), .val (.int (1 : Int32)), .val (.ref b1), .val (.int (0 : Int32)), .unset])
  generalize e4 : T4.heap = h4 at q4
  obtain ⟨bt4, rfl, N4q, K4q, sz_bt4, V4q⟩ := q4
  have N4 := Fr.app N2 N4q
  have Z4 : n0 ≤ h4.size := Nat.le_trans Z1 K4q.1
  have ne_k_bt4 : k ≠ bt4 := Nat.ne_of_lt (Nat.lt_of_lt_of_le f3.lt sz_bt4)
  have ne_b1_bt4 : b1 ≠ bt4 := Nat.ne_of_lt (Nat.lt_of_lt_of_le EA1.lt sz_bt4)
  have gn_bt4 : n0 ≤ bt4 := Nat.le_trans Z1 sz_bt4
  have sy_bt4 : hI.size ≤ bt4 := Nat.le_trans K1.1 sz_bt4
  have K4 : Keep hI h4 [] := K1.trans K4q all0
  refine Go.step (st4) ?_
  show Go _ _ _ _ _ _ _ T4 (mkF m 26 _ [(.ref bt4)])
  refine Go.step (fun tt kk => XS.astore X4.here hx rfl (hb hby d4_26) rfl rfl (l' := #[.val (.ref k), .val (.int (0 : Int32)), .val (.int (1 : Int32)), .val (.ref b1), .val (.int (0 : Int32)), .val (.ref bt4)]) rfl kk) ?_
  show Go _ _ _ _ _ _ _ T4 (mkF m 28 _ [])
  refine Go.step (fun tt kk => XS.aload X4.here hx rfl (hb hby d4_28) rfl rfl kk) ?_
  show Go _ _ _ _ _ _ _ T4 (mkF m 30 _ [(.ref bt4)])
  refine Go.step (fun tt kk => XS.iload X4.here hx rfl (hb hby d4_30) rfl kk) ?_
  show Go _ _ _ _ _ _ _ T4 (mkF m 32 _ [(.int (0 : Int32)), (.ref bt4)])
  have f9 := (own_sta_keep f5 K4q)
  have f10 := (own_sta_keep f6 K4q)
  have f11 := (own_sta_keep f7 K4q)
  obtain ⟨v8, T8, L8, X8, q8, st8⟩ := c_static X4 hx hZ hown (y := (⟨"java/lang/StringUTF16", "getChar", "([BI)C"⟩ : MethodName)) (hw _ (List.mem_of_getElem? (i := 93) rfl)) (hw _ (List.mem_of_getElem? (i := 94) rfl)) (hw _ (List.mem_of_getElem? (i := 18) rfl)) (hw _ (List.mem_of_getElem? (i := 95) rfl)) (by decide) (argsL := [(.ref bt4), (.int (0 : Int32))]) (rest := []) (rm22 l Z a0 hw [] bt4 ch h4 n0 Z4 hc0 hc1 f9 f10 f11 V4q) e4 pd_5 rfl (by rw [hml]; rfl) (W := 0) (by show 2 * 0 + _ ≤ _; exact Nat.le_of_eq rfl) (by decide) (by decide) (by decide) (by decide) (hb hby d4_32) (Ls := #[.val (.ref k), .val (.int (0 : Int32)), .val (.int (1 : Int32)), .val (.ref b1), .val (.int (0 : Int32)), .val (.ref bt4)])
  obtain ⟨rfl, rfl, e8⟩ := q8
  have N8 := Fr.app N4 (Fr.nil n0)
  refine Go.step (st8) ?_
  show Go _ _ _ _ _ _ _ T8 (mkF m 35 _ [(.int ch)])
  refine Go.step (fun tt kk => XS.sipush X8.here hx rfl (hb hby d4_35) kk) ?_
  show Go _ _ _ _ _ _ _ T8 (mkF m 38 _ [(.int (255 : Int32)), (.int ch)])
  refine Go.step (fun tt kk => XS.icmpYes X8.here hx rfl (pc0 := 38) (pc' := 54) rfl (hb hby d4_38) rfl (tlt hU).2.2.1 (by decide) (by decide) kk) ?_
  show Go _ _ _ _ _ _ _ T8 (mkF m 54 _ [])
  refine Go.step (fun tt kk => XS.aload X8.here hx rfl (hb hby d4_54) rfl rfl kk) ?_
  show Go _ _ _ _ _ _ _ T8 (mkF m 56 _ [(.ref bt4)])
  refine go_retA X8 hx (t := (.array .byte)) hret rfl hlk rfl (hb hby d4_56) ?_ (by decide) (by decide)
  try rw [e8]
  exact ⟨bt4, rfl, N8, eI ▸ K4, eI ▸ sy_bt4, V4q⟩
theorem ef_rm6L (m : MethodId) (x0 : Addr) (x1 : Int32) : entryFrame m #[(.ref x0), (.int x1)] 2 = mkF m 0 #[.val (.ref x0), .val (.int x1)] [] := by first | (simp [entryFrame, mkF, argsToLocals, Value.category]; done) | rfl
theorem d6_0 : decode jdk_52_method_15_code 0 = .ok (.iload_n 1, 1) := by decide +kernel
theorem d6_1 : decode jdk_52_method_15_code 1 = .ok (.aload_n 0, 1) := by decide +kernel
theorem d6_2 : decode jdk_52_method_15_code 2 = .ok (.arraylength, 1) := by decide +kernel
theorem d6_3 : decode jdk_52_method_15_code 3 = .ok (.isub, 1) := by decide +kernel
theorem d6_4 : decode jdk_52_method_15_code 4 = .ok (.bipush 31, 2) := by decide +kernel
theorem d6_6 : decode jdk_52_method_15_code 6 = .ok (.iushr, 1) := by decide +kernel
theorem d6_7 : decode jdk_52_method_15_code 7 = .ok (.i2b, 1) := by decide +kernel
theorem d6_8 : decode jdk_52_method_15_code 8 = .ok (.ireturn, 1) := by decide +kernel
set_option maxRecDepth 65536 in
set_option maxHeartbeats 40000000 in
theorem rm6L (l : Launch) (Z : State) (a0 : Array Value) (hw : ∀ d ∈ tables_1, d.before a0 Z = true) (ws : List Jvm.Cond) (d : Addr) (ch : Int32) (h0 : Heap) (n0 : Nat) (Z0 : n0 ≤ h0.size) (V_d : AV Z h0 d .byte 1 (lst [(.int (ch.toInt8.toInt32))])) :
    Ctr l Z (⟨"java/lang/StringUTF16", "coderFromArrayLen", "([BI)B"⟩ : MethodName) jdk_52_method_15_code 2 (some .byte) ws ({ frames := 0, cells := 0, slots := 0, locals := 0 } : Room) 0 0 #[(.ref d), (.int (1 : Int32))] h0 (fun v h L => v = some (.int (0 : Int32)) ∧ L = [] ∧ h = h0) := by
  refine Ctr.mk (plainFor_of_name pn_0) fun p e s m below meth c T0 X0 C e0 => go_cast (ef_rm6L m d (1 : Int32)) ?_
  have N0 := Fr.nil n0
  obtain ⟨hx, hZ, hby, hml, hown, hnm, hret, hlk⟩ := C
  show Go _ _ _ _ _ _ _ T0 (mkF m 0 #[.val (.ref d), .val (.int (1 : Int32))] [])
  refine Go.step (fun tt kk => XS.iloadN X0.here hx rfl (hb hby d6_0) rfl kk) ?_
  show Go _ _ _ _ _ _ _ T0 (mkF m 1 _ [(.int (1 : Int32))])
  refine Go.step (fun tt kk => XS.aloadN X0.here hx rfl (hb hby d6_1) rfl rfl kk) ?_
  show Go _ _ _ _ _ _ _ T0 (mkF m 2 _ [(.ref d), (.int (1 : Int32))])
  refine Go.step (a_len X0 hx hZ e0 V_d (z := (1 : Int32)) (by decide) (hb hby d6_2)) ?_
  show Go _ _ _ _ _ _ _ T0 (mkF m 3 _ [(.int (1 : Int32)), (.int (1 : Int32))])
  refine Go.step (fun tt kk => XS.isub X0.here hx rfl (hb hby d6_3) rfl kk) ?_
  show Go _ _ _ _ _ _ _ T0 (mkF m 4 _ [(.int ((1 : Int32) - (1 : Int32)))])
  refine Go.step (fun tt kk => XS.bipush X0.here hx rfl (hb hby d6_4) kk) ?_
  show Go _ _ _ _ _ _ _ T0 (mkF m 6 _ [(.int (31 : Int32)), (.int ((1 : Int32) - (1 : Int32)))])
  refine Go.step (fun tt kk => XS.iushr X0.here hx rfl (hb hby d6_6) rfl kk) ?_
  show Go _ _ _ _ _ _ _ T0 (mkF m 7 _ [(.int ((((1 : Int32) - (1 : Int32)).toUInt32 >>> ((31 : Int32) &&& 31).toUInt32).toInt32))])
  refine Go.step (fun tt kk => XS.i2b X0.here hx rfl (hb hby d6_7) rfl kk) ?_
  show Go _ _ _ _ _ _ _ T0 (mkF m 8 _ [(.int (((((1 : Int32) - (1 : Int32)).toUInt32 >>> ((31 : Int32) &&& 31).toUInt32).toInt32).toInt8.toInt32))])
  refine go_retN X0 hx (t := .byte) hret (by simp) hlk (hb hby d6_8) (w := (0 : Int32)) (by decide) ?_ (by decide) (by decide)
  try rw [e0]
  exact ⟨rfl, rfl, rfl⟩
theorem ef_rm6U (m : MethodId) (x0 : Addr) (x1 : Int32) : entryFrame m #[(.ref x0), (.int x1)] 2 = mkF m 0 #[.val (.ref x0), .val (.int x1)] [] := by first | (simp [entryFrame, mkF, argsToLocals, Value.category]; done) | rfl
set_option maxRecDepth 65536 in
set_option maxHeartbeats 40000000 in
theorem rm6U (l : Launch) (Z : State) (a0 : Array Value) (hw : ∀ d ∈ tables_1, d.before a0 Z = true) (ws : List Jvm.Cond) (d : Addr) (ch : Int32) (h0 : Heap) (n0 : Nat) (Z0 : n0 ≤ h0.size) (V_d : AV Z h0 d .byte 2 (lst [(.int ((ch >>> ((0 : Int32) &&& 31)).toInt8.toInt32)), (.int ((ch >>> ((8 : Int32) &&& 31)).toInt8.toInt32))])) :
    Ctr l Z (⟨"java/lang/StringUTF16", "coderFromArrayLen", "([BI)B"⟩ : MethodName) jdk_52_method_15_code 2 (some .byte) ws ({ frames := 0, cells := 0, slots := 0, locals := 0 } : Room) 0 0 #[(.ref d), (.int (1 : Int32))] h0 (fun v h L => v = some (.int (1 : Int32)) ∧ L = [] ∧ h = h0) := by
  refine Ctr.mk (plainFor_of_name pn_0) fun p e s m below meth c T0 X0 C e0 => go_cast (ef_rm6U m d (1 : Int32)) ?_
  have N0 := Fr.nil n0
  obtain ⟨hx, hZ, hby, hml, hown, hnm, hret, hlk⟩ := C
  show Go _ _ _ _ _ _ _ T0 (mkF m 0 #[.val (.ref d), .val (.int (1 : Int32))] [])
  refine Go.step (fun tt kk => XS.iloadN X0.here hx rfl (hb hby d6_0) rfl kk) ?_
  show Go _ _ _ _ _ _ _ T0 (mkF m 1 _ [(.int (1 : Int32))])
  refine Go.step (fun tt kk => XS.aloadN X0.here hx rfl (hb hby d6_1) rfl rfl kk) ?_
  show Go _ _ _ _ _ _ _ T0 (mkF m 2 _ [(.ref d), (.int (1 : Int32))])
  refine Go.step (a_len X0 hx hZ e0 V_d (z := (2 : Int32)) (by decide) (hb hby d6_2)) ?_
  show Go _ _ _ _ _ _ _ T0 (mkF m 3 _ [(.int (2 : Int32)), (.int (1 : Int32))])
  refine Go.step (fun tt kk => XS.isub X0.here hx rfl (hb hby d6_3) rfl kk) ?_
  show Go _ _ _ _ _ _ _ T0 (mkF m 4 _ [(.int ((1 : Int32) - (2 : Int32)))])
  refine Go.step (fun tt kk => XS.bipush X0.here hx rfl (hb hby d6_4) kk) ?_
  show Go _ _ _ _ _ _ _ T0 (mkF m 6 _ [(.int (31 : Int32)), (.int ((1 : Int32) - (2 : Int32)))])
  refine Go.step (fun tt kk => XS.iushr X0.here hx rfl (hb hby d6_6) rfl kk) ?_
  show Go _ _ _ _ _ _ _ T0 (mkF m 7 _ [(.int ((((1 : Int32) - (2 : Int32)).toUInt32 >>> ((31 : Int32) &&& 31).toUInt32).toInt32))])
  refine Go.step (fun tt kk => XS.i2b X0.here hx rfl (hb hby d6_7) rfl kk) ?_
  show Go _ _ _ _ _ _ _ T0 (mkF m 8 _ [(.int (((((1 : Int32) - (2 : Int32)).toUInt32 >>> ((31 : Int32) &&& 31).toUInt32).toInt32).toInt8.toInt32))])
  refine go_retN X0 hx (t := .byte) hret (by simp) hlk (hb hby d6_8) (w := (1 : Int32)) (by decide) ?_ (by decide) (by decide)
  try rw [e0]
  exact ⟨rfl, rfl, rfl⟩
theorem ef_rm2L (m : MethodId) (x0 : Addr) (x1 : Addr) (x2 : Int32) (x3 : Int32) : entryFrame m #[(.ref x0), (.ref x1), (.int x2), (.int x3), .null] 6 = mkF m 0 #[.val (.ref x0), .val (.ref x1), .val (.int x2), .val (.int x3), .val .null, .unset] [] := by first | (simp [entryFrame, mkF, argsToLocals, Value.category]; done) | rfl
theorem pn_1 : plainName "java/lang/String" = true := by first | (simp [plainName, overriddenIn]; done) | decide +kernel
theorem d2_0 : decode jdk_42_method_149_code 0 = .ok (.aload_n 0, 1) := by decide +kernel
theorem d2_1 : decode jdk_42_method_149_code 1 = .ok (.invokespecial 1, 3) := by decide +kernel
theorem d2_4 : decode jdk_42_method_149_code 4 = .ok (.iload_n 3, 1) := by decide +kernel
theorem d2_5 : decode jdk_42_method_149_code 5 = .ok (.ifCond .ne 22, 3) := by decide +kernel
theorem d2_27 : decode jdk_42_method_149_code 27 = .ok (.getstatic 38, 3) := by decide +kernel
theorem d2_30 : decode jdk_42_method_149_code 30 = .ok (.ifCond .eq 28, 3) := by decide +kernel
theorem d2_33 : decode jdk_42_method_149_code 33 = .ok (.aload_n 1, 1) := by decide +kernel
theorem d2_34 : decode jdk_42_method_149_code 34 = .ok (.iload_n 2, 1) := by decide +kernel
theorem d2_35 : decode jdk_42_method_149_code 35 = .ok (.iload_n 3, 1) := by decide +kernel
theorem d2_36 : decode jdk_42_method_149_code 36 = .ok (.invokestatic 177, 3) := by decide +kernel
theorem d2_39 : decode jdk_42_method_149_code 39 = .ok (.astore 5, 2) := by decide +kernel
theorem d2_41 : decode jdk_42_method_149_code 41 = .ok (.aload_n 0, 1) := by decide +kernel
theorem d2_42 : decode jdk_42_method_149_code 42 = .ok (.aload 5, 2) := by decide +kernel
theorem d2_44 : decode jdk_42_method_149_code 44 = .ok (.iload_n 3, 1) := by decide +kernel
theorem pd_6 : parseMethodDescriptor "([BI)B" = some ⟨[(.array .byte), .int], some .byte⟩ := by decide +kernel
theorem d2_45 : decode jdk_42_method_149_code 45 = .ok (.invokestatic 47, 3) := by decide +kernel
theorem d2_48 : decode jdk_42_method_149_code 48 = .ok (.putfield 15, 3) := by decide +kernel
theorem d2_51 : decode jdk_42_method_149_code 51 = .ok (.aload_n 0, 1) := by decide +kernel
theorem d2_52 : decode jdk_42_method_149_code 52 = .ok (.aload 5, 2) := by decide +kernel
theorem d2_54 : decode jdk_42_method_149_code 54 = .ok (.putfield 9, 3) := by decide +kernel
theorem d2_57 : decode jdk_42_method_149_code 57 = .ok (.return_, 1) := by decide +kernel
set_option maxRecDepth 65536 in
set_option maxHeartbeats 40000000 in
theorem rm2L (l : Launch) (Z : State) (a0 : Array Value) (hw : ∀ d ∈ tables_1, d.before a0 Z = true) (ws : List Jvm.Cond) (a k : Addr) (ch : Int32) (cs : Int32)  (h0 : Heap) (n0 : Nat) (Z0 : n0 ≤ h0.size) (hc0 : 0 ≤ ch.toInt) (hc1 : ch.toInt < 65536) (hL : ¬ (255 : Int32) < ch) (hcs : ¬ cs = (0 : Int32)) (S0 : Sta Z h0 "java/lang/String" "COMPACT_STRINGS" "Z" (.int cs)) (V_k : AV Z h0 k .char 1 (lst [(.int ch)])) (E_a : Exa Z h0 a "java/lang/String") (F_0 : Fld Z h0 a "java/lang/String" "coder" "B" (.int (0 : Int32))) (F_1 : Fld Z h0 a "java/lang/String" "value" "[B" .null) (g_a : n0 ≤ a) (ne_a_k : a ≠ k) :
    Ctr l Z (⟨"java/lang/String", "<init>", "([CIILjava/lang/Void;)V"⟩ : MethodName) jdk_42_method_149_code 6 none ws ({ frames := 2, cells := 1, slots := 1, locals := 35 } : Room) 1 1 #[(.ref a), (.ref k), (.int (0 : Int32)), (.int (1 : Int32)), .null] h0 (fun v h L => ∃ b, v = none ∧ Fr n0 L ∧ Keep h0 h [a] ∧ h0.size ≤ b ∧ Exa Z h a "java/lang/String" ∧ Fld Z h a "java/lang/String" "coder" "B" (.int (0 : Int32)) ∧ Fld Z h a "java/lang/String" "value" "[B" (.ref b) ∧ AV Z h b .byte 1 (lst [(.int (ch.toInt8.toInt32))])) := by
  refine Ctr.mk (plainFor_of_name pn_1) fun p e s m below meth c T0 X0 C e0 => go_cast (ef_rm2L m a k (0 : Int32) (1 : Int32)) ?_
  have N0 := Fr.nil n0
  obtain ⟨hx, hZ, hby, hml, hown, hnm, hret, hlk⟩ := C
  obtain ⟨hI, eI⟩ : ∃ z, z = h0 := ⟨_, rfl⟩
  have K0 : Keep hI h0 [a] := by rw [eI]; exact Keep.refl _ _
  show Go _ _ _ _ _ _ _ T0 (mkF m 0 #[.val (.ref a), .val (.ref k), .val (.int (0 : Int32)), .val (.int (1 : Int32)), .val .null, .unset] [])
  refine Go.step (fun tt kk => XS.aloadN X0.here hx rfl (hb hby d2_0) rfl rfl kk) ?_
  show Go _ _ _ _ _ _ _ T0 (mkF m 1 _ [(.ref a)])
  obtain ⟨T1, X1, e1, st1⟩ := initO X0 hx hZ hown (hw _ (List.mem_of_getElem? (i := 12) rfl)) (hw _ (List.mem_of_getElem? (i := 13) rfl)) (hw _ (List.mem_of_getElem? (i := 14) rfl)) e0 (g := (mkF m 1 #[.val (.ref a), .val (.ref k), .val (.int (0 : Int32)), .val (.int (1 : Int32)), .val .null, .unset] [(.ref a)])) rfl (by rw [hml]; rfl) rfl (hb hby d2_1) (by decide) (W := 0) (by show 2 * 0 + _ ≤ _; exact Nat.le_of_eq rfl) (by decide)
  refine Go.step (st1) ?_
  show Go _ _ _ _ _ _ _ T1 (mkF m 4 _ [])
  refine Go.step (fun tt kk => XS.iloadN X1.here hx rfl (hb hby d2_4) rfl kk) ?_
  show Go _ _ _ _ _ _ _ T1 (mkF m 5 _ [(.int (1 : Int32))])
  refine Go.step (fun tt kk => XS.ifYes X1.here hx rfl (pc0 := 5) (pc' := 27) rfl (hb hby d2_5) rfl ((if0 _ _).trans (feq (by decide)).2) (by decide) (by decide) kk) ?_
  show Go _ _ _ _ _ _ _ T1 (mkF m 27 _ [])
  obtain ⟨T2, X2, e2, st2⟩ := getS2 X1 hx hZ hown (host := "") (Or.inl (hw _ (List.mem_of_getElem? (i := 15) rfl))) Via.refl e1 S0 (g := (mkF m 27 #[.val (.ref a), .val (.ref k), .val (.int (0 : Int32)), .val (.int (1 : Int32)), .val .null, .unset] [])) rfl (hb hby d2_27)
  refine Go.step (st2) ?_
  show Go _ _ _ _ _ _ _ T2 (mkF m 30 _ [(.int cs)])
  refine Go.step (fun tt kk => XS.ifNo X2.here hx rfl (hb hby d2_30) rfl ((if0 _ _).trans (feq hcs).1) kk) ?_
  show Go _ _ _ _ _ _ _ T2 (mkF m 33 _ [])
  refine Go.step (fun tt kk => XS.aloadN X2.here hx rfl (hb hby d2_33) rfl rfl kk) ?_
  show Go _ _ _ _ _ _ _ T2 (mkF m 34 _ [(.ref k)])
  refine Go.step (fun tt kk => XS.iloadN X2.here hx rfl (hb hby d2_34) rfl kk) ?_
  show Go _ _ _ _ _ _ _ T2 (mkF m 35 _ [(.int (0 : Int32)), (.ref k)])
  refine Go.step (fun tt kk => XS.iloadN X2.here hx rfl (hb hby d2_35) rfl kk) ?_
  show Go _ _ _ _ _ _ _ T2 (mkF m 36 _ [(.int (1 : Int32)), (.int (0 : Int32)), (.ref k)])
  obtain ⟨v3, T3, L3, X3, q3, st3⟩ := c_static X2 hx hZ hown (y := (⟨"java/lang/StringUTF16", "compress", "([CII)[B"⟩ : MethodName)) (hw _ (List.mem_of_getElem? (i := 16) rfl)) (hw _ (List.mem_of_getElem? (i := 17) rfl)) (hw _ (List.mem_of_getElem? (i := 18) rfl)) (hw _ (List.mem_of_getElem? (i := 19) rfl)) (by decide) (argsL := [(.ref k), (.int (0 : Int32)), (.int (1 : Int32))]) (rest := []) (rm4L l Z a0 hw [] k ch h0 n0 Z0 hc0 hc1 hL  V_k) e2 pd_4 rfl (by rw [hml]; rfl) (W := 0) (by show 2 * 0 + _ ≤ _; exact Nat.le_of_eq rfl) (by decide) (by decide) (by decide) (by decide) (hb hby d2_36) (Ls := #[.val (.ref a), .val (.ref k), .val (.int (0 : Int32)), .val (.int (1 : Int32)), .val .null, .unset])
  generalize e3 : T3.heap = h3 at q3
  obtain ⟨bc3, rfl, N3q, K3q, sz_bc3, V3q⟩ := q3
  have N3 := Fr.app N0 N3q
  have Z3 : n0 ≤ h3.size := Nat.le_trans Z0 K3q.1
  have ne_a_bc3 : a ≠ bc3 := Nat.ne_of_lt (Nat.lt_of_lt_of_le E_a.lt sz_bc3)
  have ne_k_bc3 : k ≠ bc3 := Nat.ne_of_lt (Nat.lt_of_lt_of_le V_k.lt sz_bc3)
  have gn_bc3 : n0 ≤ bc3 := Nat.le_trans Z0 sz_bc3
  have sy_bc3 : hI.size ≤ bc3 := Nat.le_trans K0.1 sz_bc3
  have K3 : Keep hI h3 [a] := K0.trans K3q all0
  refine Go.step (st3) ?_
  show Go _ _ _ _ _ _ _ T3 (mkF m 39 _ [(.ref bc3)])
  refine Go.step (fun tt kk => XS.astore X3.here hx rfl (hb hby d2_39) rfl rfl (l' := #[.val (.ref a), .val (.ref k), .val (.int (0 : Int32)), .val (.int (1 : Int32)), .val .null, .val (.ref bc3)]) rfl kk) ?_
  show Go _ _ _ _ _ _ _ T3 (mkF m 41 _ [])
  refine Go.step (fun tt kk => XS.aloadN X3.here hx rfl (hb hby d2_41) rfl rfl kk) ?_
  show Go _ _ _ _ _ _ _ T3 (mkF m 42 _ [(.ref a)])
  refine Go.step (fun tt kk => XS.aload X3.here hx rfl (hb hby d2_42) rfl rfl kk) ?_
  show Go _ _ _ _ _ _ _ T3 (mkF m 44 _ [(.ref bc3), (.ref a)])
  refine Go.step (fun tt kk => XS.iloadN X3.here hx rfl (hb hby d2_44) rfl kk) ?_
  show Go _ _ _ _ _ _ _ T3 (mkF m 45 _ [(.int (1 : Int32)), (.ref bc3), (.ref a)])
  obtain ⟨v4, T4, L4, X4, q4, st4⟩ := c_static X3 hx hZ hown (y := (⟨"java/lang/StringUTF16", "coderFromArrayLen", "([BI)B"⟩ : MethodName)) (hw _ (List.mem_of_getElem? (i := 24) rfl)) (hw _ (List.mem_of_getElem? (i := 25) rfl)) (hw _ (List.mem_of_getElem? (i := 18) rfl)) (hw _ (List.mem_of_getElem? (i := 26) rfl)) (by decide) (argsL := [(.ref bc3), (.int (1 : Int32))]) (rest := [(.ref a)]) (rm6L l Z a0 hw [] bc3 ch h3 n0 Z3 V3q) e3 pd_6 rfl (by rw [hml]; rfl) (W := 1) (by show 2 * 0 + _ ≤ _; exact Nat.le_of_eq rfl) (by decide) (by decide) (by decide) (by decide) (hb hby d2_45) (Ls := #[.val (.ref a), .val (.ref k), .val (.int (0 : Int32)), .val (.int (1 : Int32)), .val .null, .val (.ref bc3)])
  obtain ⟨rfl, rfl, e4⟩ := q4
  have N4 := Fr.app N3 (Fr.nil n0)
  refine Go.step (st4) ?_
  show Go _ _ _ _ _ _ _ T4 (mkF m 48 _ [(.int (0 : Int32)), (.ref a)])
  have f6 := (F_0.keep K3q nin0)
  have f7 := (E_a.keep K3q)
  obtain ⟨T5, h5, X5, e5, W5, st5⟩ := putFN X4 hx hZ hown (hw _ (List.mem_of_getElem? (i := 27) rfl)) Via.refl e4 f6 f7 (Or.inr ⟨(hw _ (List.mem_of_getElem? (i := 28) rfl)), rfl, hnm⟩) (hw _ (List.mem_of_getElem? (i := 3) rfl)) (ty := .byte) (v' := (.int (0 : Int32))) (by decide) rfl rfl (g := (mkF m 48 #[.val (.ref a), .val (.ref k), .val (.int (0 : Int32)), .val (.int (1 : Int32)), .val .null, .val (.ref bc3)] [(.int (0 : Int32)), (.ref a)])) rfl rfl (hb hby d2_48)
  have F5 := Fld.same W5 f6
  have N5 := Fr.snoc X5 N4 g_a
  have Z5 : n0 ≤ h5.size := Nat.le_trans Z3 (Keep.of_wr W5).1
  have K5 : Keep hI h5 [a] := K3.wr W5 (Or.inl (List.mem_of_getElem? (i := 0) rfl))
  refine Go.step (st5) ?_
  show Go _ _ _ _ _ _ _ T5 (mkF m 51 _ [])
  refine Go.step (fun tt kk => XS.aloadN X5.here hx rfl (hb hby d2_51) rfl rfl kk) ?_
  show Go _ _ _ _ _ _ _ T5 (mkF m 52 _ [(.ref a)])
  refine Go.step (fun tt kk => XS.aload X5.here hx rfl (hb hby d2_52) rfl rfl kk) ?_
  show Go _ _ _ _ _ _ _ T5 (mkF m 54 _ [(.ref bc3), (.ref a)])
  have f9 := (Fld.other W5 (F_1.keep K3q nin0) (Or.inr (slot_ne (Or.inr (hw _ (List.mem_of_getElem? (i := 30) rfl))) (Or.inr (hw _ (List.mem_of_getElem? (i := 28) rfl))) (by decide) (t := (.array .byte)) (t' := .byte) (by decide) (by decide))))
  have f10 := (Exa.wr W5 f7)
  obtain ⟨T8, h8, X8, e8, W8, st8⟩ := putF X5 hx hZ hown (host := "") (Or.inl (hw _ (List.mem_of_getElem? (i := 29) rfl))) Via.refl e5 f9 f10 (Or.inr ⟨(hw _ (List.mem_of_getElem? (i := 30) rfl)), rfl, hnm⟩) (hw _ (List.mem_of_getElem? (i := 3) rfl)) (ty := (.array .byte)) (by decide) rfl rfl (g := (mkF m 54 #[.val (.ref a), .val (.ref k), .val (.int (0 : Int32)), .val (.int (1 : Int32)), .val .null, .val (.ref bc3)] [(.ref bc3), (.ref a)])) rfl rfl (hb hby d2_54)
  have F8 := Fld.same W8 f9
  have N8 := Fr.snoc X8 N5 g_a
  have Z8 : n0 ≤ h8.size := Nat.le_trans Z5 (Keep.of_wr W8).1
  have K8 : Keep hI h8 [a] := K5.wr W8 (Or.inl (List.mem_of_getElem? (i := 0) rfl))
  refine Go.step (st8) ?_
  show Go _ _ _ _ _ _ _ T8 (mkF m 57 _ [])
  have f11 := (Exa.wr W8 f10)
  have f12 := (Fld.other W8 F5 (Or.inr (slot_ne (Or.inr (hw _ (List.mem_of_getElem? (i := 28) rfl))) (Or.inr (hw _ (List.mem_of_getElem? (i := 30) rfl))) (by decide) (t := .byte) (t' := (.array .byte)) (by decide) (by decide))))
  have f13 := ((V3q.other W5 (Ne.symm ne_a_bc3)).other W8 (Ne.symm ne_a_bc3))
  refine go_ret X8 hx hret hlk (hb hby d2_57) ?_ (by decide) (by decide)
  try rw [e8]
  exact ⟨bc3, rfl, N8, eI ▸ K8, eI ▸ sy_bc3, f11, f12, F8, f13⟩
theorem ef_rm2U (m : MethodId) (x0 : Addr) (x1 : Addr) (x2 : Int32) (x3 : Int32) : entryFrame m #[(.ref x0), (.ref x1), (.int x2), (.int x3), .null] 6 = mkF m 0 #[.val (.ref x0), .val (.ref x1), .val (.int x2), .val (.int x3), .val .null, .unset] [] := by first | (simp [entryFrame, mkF, argsToLocals, Value.category]; done) | rfl
set_option maxRecDepth 65536 in
set_option maxHeartbeats 40000000 in
theorem rm2U (l : Launch) (Z : State) (a0 : Array Value) (hw : ∀ d ∈ tables_1, d.before a0 Z = true) (ws : List Jvm.Cond) (a k : Addr) (ch : Int32) (cs : Int32)  (h0 : Heap) (n0 : Nat) (Z0 : n0 ≤ h0.size) (hc0 : 0 ≤ ch.toInt) (hc1 : ch.toInt < 65536) (hU : (255 : Int32) < ch) (hcs : ¬ cs = (0 : Int32)) (S0 : Sta Z h0 "java/lang/String" "COMPACT_STRINGS" "Z" (.int cs)) (S1 : Sta Z h0 "java/lang/StringUTF16" "$assertionsDisabled" "Z" (.int (1 : Int32))) (S2 : Sta Z h0 "java/lang/StringUTF16" "HI_BYTE_SHIFT" "I" (.int (0 : Int32))) (S3 : Sta Z h0 "java/lang/StringUTF16" "LO_BYTE_SHIFT" "I" (.int (8 : Int32))) (V_k : AV Z h0 k .char 1 (lst [(.int ch)])) (E_a : Exa Z h0 a "java/lang/String") (F_0 : Fld Z h0 a "java/lang/String" "coder" "B" (.int (0 : Int32))) (F_1 : Fld Z h0 a "java/lang/String" "value" "[B" .null) (g_a : n0 ≤ a) (ne_a_k : a ≠ k) :
    Ctr l Z (⟨"java/lang/String", "<init>", "([CIILjava/lang/Void;)V"⟩ : MethodName) jdk_42_method_149_code 6 none ws ({ frames := 4, cells := 2, slots := 3, locals := 57 } : Room) 2 3 #[(.ref a), (.ref k), (.int (0 : Int32)), (.int (1 : Int32)), .null] h0 (fun v h L => ∃ b, v = none ∧ Fr n0 L ∧ Keep h0 h [a] ∧ h0.size ≤ b ∧ Exa Z h a "java/lang/String" ∧ Fld Z h a "java/lang/String" "coder" "B" (.int (1 : Int32)) ∧ Fld Z h a "java/lang/String" "value" "[B" (.ref b) ∧ AV Z h b .byte 2 (lst [(.int ((ch >>> ((0 : Int32) &&& 31)).toInt8.toInt32)), (.int ((ch >>> ((8 : Int32) &&& 31)).toInt8.toInt32))])) := by
  refine Ctr.mk (plainFor_of_name pn_1) fun p e s m below meth c T0 X0 C e0 => go_cast (ef_rm2U m a k (0 : Int32) (1 : Int32)) ?_
  have N0 := Fr.nil n0
  obtain ⟨hx, hZ, hby, hml, hown, hnm, hret, hlk⟩ := C
  obtain ⟨hI, eI⟩ : ∃ z, z = h0 := ⟨_, rfl⟩
  have K0 : Keep hI h0 [a] := by rw [eI]; exact Keep.refl _ _
  show Go _ _ _ _ _ _ _ T0 (mkF m 0 #[.val (.ref a), .val (.ref k), .val (.int (0 : Int32)), .val (.int (1 : Int32)), .val .null, .unset] [])
  refine Go.step (fun tt kk => XS.aloadN X0.here hx rfl (hb hby d2_0) rfl rfl kk) ?_
  show Go _ _ _ _ _ _ _ T0 (mkF m 1 _ [(.ref a)])
  obtain ⟨T1, X1, e1, st1⟩ := initO X0 hx hZ hown (hw _ (List.mem_of_getElem? (i := 12) rfl)) (hw _ (List.mem_of_getElem? (i := 13) rfl)) (hw _ (List.mem_of_getElem? (i := 14) rfl)) e0 (g := (mkF m 1 #[.val (.ref a), .val (.ref k), .val (.int (0 : Int32)), .val (.int (1 : Int32)), .val .null, .unset] [(.ref a)])) rfl (by rw [hml]; rfl) rfl (hb hby d2_1) (by decide) (W := 0) (by show 2 * 0 + _ ≤ _; exact Nat.le_of_eq rfl) (by decide)
  refine Go.step (st1) ?_
  show Go _ _ _ _ _ _ _ T1 (mkF m 4 _ [])
  refine Go.step (fun tt kk => XS.iloadN X1.here hx rfl (hb hby d2_4) rfl kk) ?_
  show Go _ _ _ _ _ _ _ T1 (mkF m 5 _ [(.int (1 : Int32))])
  refine Go.step (fun tt kk => XS.ifYes X1.here hx rfl (pc0 := 5) (pc' := 27) rfl (hb hby d2_5) rfl ((if0 _ _).trans (feq (by decide)).2) (by decide) (by decide) kk) ?_
  show Go _ _ _ _ _ _ _ T1 (mkF m 27 _ [])
  obtain ⟨T2, X2, e2, st2⟩ := getS2 X1 hx hZ hown (host := "") (Or.inl (hw _ (List.mem_of_getElem? (i := 15) rfl))) Via.refl e1 S0 (g := (mkF m 27 #[.val (.ref a), .val (.ref k), .val (.int (0 : Int32)), .val (.int (1 : Int32)), .val .null, .unset] [])) rfl (hb hby d2_27)
  refine Go.step (st2) ?_
  show Go _ _ _ _ _ _ _ T2 (mkF m 30 _ [(.int cs)])
  refine Go.step (fun tt kk => XS.ifNo X2.here hx rfl (hb hby d2_30) rfl ((if0 _ _).trans (feq hcs).1) kk) ?_
  show Go _ _ _ _ _ _ _ T2 (mkF m 33 _ [])
  refine Go.step (fun tt kk => XS.aloadN X2.here hx rfl (hb hby d2_33) rfl rfl kk) ?_
  show Go _ _ _ _ _ _ _ T2 (mkF m 34 _ [(.ref k)])
  refine Go.step (fun tt kk => XS.iloadN X2.here hx rfl (hb hby d2_34) rfl kk) ?_
  show Go _ _ _ _ _ _ _ T2 (mkF m 35 _ [(.int (0 : Int32)), (.ref k)])
  refine Go.step (fun tt kk => XS.iloadN X2.here hx rfl (hb hby d2_35) rfl kk) ?_
  show Go _ _ _ _ _ _ _ T2 (mkF m 36 _ [(.int (1 : Int32)), (.int (0 : Int32)), (.ref k)])
  obtain ⟨v3, T3, L3, X3, q3, st3⟩ := c_static X2 hx hZ hown (y := (⟨"java/lang/StringUTF16", "compress", "([CII)[B"⟩ : MethodName)) (hw _ (List.mem_of_getElem? (i := 16) rfl)) (hw _ (List.mem_of_getElem? (i := 17) rfl)) (hw _ (List.mem_of_getElem? (i := 18) rfl)) (hw _ (List.mem_of_getElem? (i := 19) rfl)) (by decide) (argsL := [(.ref k), (.int (0 : Int32)), (.int (1 : Int32))]) (rest := []) (rm4U l Z a0 hw [] k ch h0 n0 Z0 hc0 hc1 hU S1 S2 S3 V_k) e2 pd_4 rfl (by rw [hml]; rfl) (W := 0) (by show 2 * 0 + _ ≤ _; exact Nat.le_of_eq rfl) (by decide) (by decide) (by decide) (by decide) (hb hby d2_36) (Ls := #[.val (.ref a), .val (.ref k), .val (.int (0 : Int32)), .val (.int (1 : Int32)), .val .null, .unset])
  generalize e3 : T3.heap = h3 at q3
  obtain ⟨bc3, rfl, N3q, K3q, sz_bc3, V3q⟩ := q3
  have N3 := Fr.app N0 N3q
  have Z3 : n0 ≤ h3.size := Nat.le_trans Z0 K3q.1
  have ne_a_bc3 : a ≠ bc3 := Nat.ne_of_lt (Nat.lt_of_lt_of_le E_a.lt sz_bc3)
  have ne_k_bc3 : k ≠ bc3 := Nat.ne_of_lt (Nat.lt_of_lt_of_le V_k.lt sz_bc3)
  have gn_bc3 : n0 ≤ bc3 := Nat.le_trans Z0 sz_bc3
  have sy_bc3 : hI.size ≤ bc3 := Nat.le_trans K0.1 sz_bc3
  have K3 : Keep hI h3 [a] := K0.trans K3q all0
  refine Go.step (st3) ?_
  show Go _ _ _ _ _ _ _ T3 (mkF m 39 _ [(.ref bc3)])
  refine Go.step (fun tt kk => XS.astore X3.here hx rfl (hb hby d2_39) rfl rfl (l' := #[.val (.ref a), .val (.ref k), .val (.int (0 : Int32)), .val (.int (1 : Int32)), .val .null, .val (.ref bc3)]) rfl kk) ?_
  show Go _ _ _ _ _ _ _ T3 (mkF m 41 _ [])
  refine Go.step (fun tt kk => XS.aloadN X3.here hx rfl (hb hby d2_41) rfl rfl kk) ?_
  show Go _ _ _ _ _ _ _ T3 (mkF m 42 _ [(.ref a)])
  refine Go.step (fun tt kk => XS.aload X3.here hx rfl (hb hby d2_42) rfl rfl kk) ?_
  show Go _ _ _ _ _ _ _ T3 (mkF m 44 _ [(.ref bc3), (.ref a)])
  refine Go.step (fun tt kk => XS.iloadN X3.here hx rfl (hb hby d2_44) rfl kk) ?_
  show Go _ _ _ _ _ _ _ T3 (mkF m 45 _ [(.int (1 : Int32)), (.ref bc3), (.ref a)])
  obtain ⟨v4, T4, L4, X4, q4, st4⟩ := c_static X3 hx hZ hown (y := (⟨"java/lang/StringUTF16", "coderFromArrayLen", "([BI)B"⟩ : MethodName)) (hw _ (List.mem_of_getElem? (i := 24) rfl)) (hw _ (List.mem_of_getElem? (i := 25) rfl)) (hw _ (List.mem_of_getElem? (i := 18) rfl)) (hw _ (List.mem_of_getElem? (i := 26) rfl)) (by decide) (argsL := [(.ref bc3), (.int (1 : Int32))]) (rest := [(.ref a)]) (rm6U l Z a0 hw [] bc3 ch h3 n0 Z3 V3q) e3 pd_6 rfl (by rw [hml]; rfl) (W := 1) (by show 2 * 0 + _ ≤ _; exact Nat.le_of_eq rfl) (by decide) (by decide) (by decide) (by decide) (hb hby d2_45) (Ls := #[.val (.ref a), .val (.ref k), .val (.int (0 : Int32)), .val (.int (1 : Int32)), .val .null, .val (.ref bc3)])
  obtain ⟨rfl, rfl, e4⟩ := q4
  have N4 := Fr.app N3 (Fr.nil n0)
  refine Go.step (st4) ?_
  show Go _ _ _ _ _ _ _ T4 (mkF m 48 _ [(.int (1 : Int32)), (.ref a)])
  have f6 := (F_0.keep K3q nin0)
  have f7 := (E_a.keep K3q)
  obtain ⟨T5, h5, X5, e5, W5, st5⟩ := putFN X4 hx hZ hown (hw _ (List.mem_of_getElem? (i := 27) rfl)) Via.refl e4 f6 f7 (Or.inr ⟨(hw _ (List.mem_of_getElem? (i := 28) rfl)), rfl, hnm⟩) (hw _ (List.mem_of_getElem? (i := 3) rfl)) (ty := .byte) (v' := (.int (1 : Int32))) (by decide) rfl rfl (g := (mkF m 48 #[.val (.ref a), .val (.ref k), .val (.int (0 : Int32)), .val (.int (1 : Int32)), .val .null, .val (.ref bc3)] [(.int (1 : Int32)), (.ref a)])) rfl rfl (hb hby d2_48)
  have F5 := Fld.same W5 f6
  have N5 := Fr.snoc X5 N4 g_a
  have Z5 : n0 ≤ h5.size := Nat.le_trans Z3 (Keep.of_wr W5).1
  have K5 : Keep hI h5 [a] := K3.wr W5 (Or.inl (List.mem_of_getElem? (i := 0) rfl))
  refine Go.step (st5) ?_
  show Go _ _ _ _ _ _ _ T5 (mkF m 51 _ [])
  refine Go.step (fun tt kk => XS.aloadN X5.here hx rfl (hb hby d2_51) rfl rfl kk) ?_
  show Go _ _ _ _ _ _ _ T5 (mkF m 52 _ [(.ref a)])
  refine Go.step (fun tt kk => XS.aload X5.here hx rfl (hb hby d2_52) rfl rfl kk) ?_
  show Go _ _ _ _ _ _ _ T5 (mkF m 54 _ [(.ref bc3), (.ref a)])
  have f9 := (Fld.other W5 (F_1.keep K3q nin0) (Or.inr (slot_ne (Or.inr (hw _ (List.mem_of_getElem? (i := 30) rfl))) (Or.inr (hw _ (List.mem_of_getElem? (i := 28) rfl))) (by decide) (t := (.array .byte)) (t' := .byte) (by decide) (by decide))))
  have f10 := (Exa.wr W5 f7)
  obtain ⟨T8, h8, X8, e8, W8, st8⟩ := putF X5 hx hZ hown (host := "") (Or.inl (hw _ (List.mem_of_getElem? (i := 29) rfl))) Via.refl e5 f9 f10 (Or.inr ⟨(hw _ (List.mem_of_getElem? (i := 30) rfl)), rfl, hnm⟩) (hw _ (List.mem_of_getElem? (i := 3) rfl)) (ty := (.array .byte)) (by decide) rfl rfl (g := (mkF m 54 #[.val (.ref a), .val (.ref k), .val (.int (0 : Int32)), .val (.int (1 : Int32)), .val .null, .val (.ref bc3)] [(.ref bc3), (.ref a)])) rfl rfl (hb hby d2_54)
  have F8 := Fld.same W8 f9
  have N8 := Fr.snoc X8 N5 g_a
  have Z8 : n0 ≤ h8.size := Nat.le_trans Z5 (Keep.of_wr W8).1
  have K8 : Keep hI h8 [a] := K5.wr W8 (Or.inl (List.mem_of_getElem? (i := 0) rfl))
  refine Go.step (st8) ?_
  show Go _ _ _ _ _ _ _ T8 (mkF m 57 _ [])
  have f11 := (Exa.wr W8 f10)
  have f12 := (Fld.other W8 F5 (Or.inr (slot_ne (Or.inr (hw _ (List.mem_of_getElem? (i := 28) rfl))) (Or.inr (hw _ (List.mem_of_getElem? (i := 30) rfl))) (by decide) (t := .byte) (t' := (.array .byte)) (by decide) (by decide))))
  have f13 := ((V3q.other W5 (Ne.symm ne_a_bc3)).other W8 (Ne.symm ne_a_bc3))
  refine go_ret X8 hx hret hlk (hb hby d2_57) ?_ (by decide) (by decide)
  try rw [e8]
  exact ⟨bc3, rfl, N8, eI ▸ K8, eI ▸ sy_bc3, f11, f12, F8, f13⟩
theorem ef_rm1L (m : MethodId) (x0 : Addr) (x1 : Addr) : entryFrame m #[(.ref x0), (.ref x1)] 2 = mkF m 0 #[.val (.ref x0), .val (.ref x1)] [] := by first | (simp [entryFrame, mkF, argsToLocals, Value.category]; done) | rfl
theorem d1_0 : decode jdk_42_method_3_code 0 = .ok (.aload_n 0, 1) := by decide +kernel
theorem d1_1 : decode jdk_42_method_3_code 1 = .ok (.aload_n 1, 1) := by decide +kernel
theorem d1_2 : decode jdk_42_method_3_code 2 = .ok (.iconst 0, 1) := by decide +kernel
theorem d1_3 : decode jdk_42_method_3_code 3 = .ok (.aload_n 1, 1) := by decide +kernel
theorem d1_4 : decode jdk_42_method_3_code 4 = .ok (.arraylength, 1) := by decide +kernel
theorem d1_5 : decode jdk_42_method_3_code 5 = .ok (.aconst_null, 1) := by decide +kernel
theorem pd_7 : parseMethodDescriptor "([CIILjava/lang/Void;)V" = some ⟨[(.array .char), .int, .int, (.object "java/lang/Void")], none⟩ := by decide +kernel
theorem d1_6 : decode jdk_42_method_3_code 6 = .ok (.invokespecial 27, 3) := by decide +kernel
theorem d1_9 : decode jdk_42_method_3_code 9 = .ok (.return_, 1) := by decide +kernel
set_option maxRecDepth 65536 in
set_option maxHeartbeats 40000000 in
theorem rm1L (l : Launch) (Z : State) (a0 : Array Value) (hw : ∀ d ∈ tables_1, d.before a0 Z = true) (ws : List Jvm.Cond) (a k : Addr) (ch : Int32) (cs : Int32)  (h0 : Heap) (n0 : Nat) (Z0 : n0 ≤ h0.size) (hc0 : 0 ≤ ch.toInt) (hc1 : ch.toInt < 65536) (hL : ¬ (255 : Int32) < ch) (hcs : ¬ cs = (0 : Int32)) (S0 : Sta Z h0 "java/lang/String" "COMPACT_STRINGS" "Z" (.int cs)) (V_k : AV Z h0 k .char 1 (lst [(.int ch)])) (E_a : Exa Z h0 a "java/lang/String") (F_0 : Fld Z h0 a "java/lang/String" "coder" "B" (.int (0 : Int32))) (F_1 : Fld Z h0 a "java/lang/String" "value" "[B" .null) (g_a : n0 ≤ a) (ne_a_k : a ≠ k) :
    Ctr l Z (⟨"java/lang/String", "<init>", "([C)V"⟩ : MethodName) jdk_42_method_3_code 2 none ws ({ frames := 3, cells := 1, slots := 1, locals := 52 } : Room) 1 1 #[(.ref a), (.ref k)] h0 (fun v h L => ∃ b, v = none ∧ Fr n0 L ∧ Keep h0 h [a] ∧ h0.size ≤ b ∧ Exa Z h a "java/lang/String" ∧ Fld Z h a "java/lang/String" "coder" "B" (.int (0 : Int32)) ∧ Fld Z h a "java/lang/String" "value" "[B" (.ref b) ∧ AV Z h b .byte 1 (lst [(.int (ch.toInt8.toInt32))])) := by
  refine Ctr.mk (plainFor_of_name pn_1) fun p e s m below meth c T0 X0 C e0 => go_cast (ef_rm1L m a k) ?_
  have N0 := Fr.nil n0
  obtain ⟨hx, hZ, hby, hml, hown, hnm, hret, hlk⟩ := C
  obtain ⟨hI, eI⟩ : ∃ z, z = h0 := ⟨_, rfl⟩
  have K0 : Keep hI h0 [a] := by rw [eI]; exact Keep.refl _ _
  show Go _ _ _ _ _ _ _ T0 (mkF m 0 #[.val (.ref a), .val (.ref k)] [])
  refine Go.step (fun tt kk => XS.aloadN X0.here hx rfl (hb hby d1_0) rfl rfl kk) ?_
  show Go _ _ _ _ _ _ _ T0 (mkF m 1 _ [(.ref a)])
  refine Go.step (fun tt kk => XS.aloadN X0.here hx rfl (hb hby d1_1) rfl rfl kk) ?_
  show Go _ _ _ _ _ _ _ T0 (mkF m 2 _ [(.ref k), (.ref a)])
  refine Go.step (fun tt kk => XS.iconst X0.here hx rfl (hb hby d1_2) kk) ?_
  show Go _ _ _ _ _ _ _ T0 (mkF m 3 _ [(.int (0 : Int32)), (.ref k), (.ref a)])
  refine Go.step (fun tt kk => XS.aloadN X0.here hx rfl (hb hby d1_3) rfl rfl kk) ?_
  show Go _ _ _ _ _ _ _ T0 (mkF m 4 _ [(.ref k), (.int (0 : Int32)), (.ref k), (.ref a)])
  refine Go.step (a_len X0 hx hZ e0 V_k (z := (1 : Int32)) (by decide) (hb hby d1_4)) ?_
  show Go _ _ _ _ _ _ _ T0 (mkF m 5 _ [(.int (1 : Int32)), (.int (0 : Int32)), (.ref k), (.ref a)])
  refine Go.step (fun tt kk => XS.aconstNull X0.here hx rfl (hb hby d1_5) kk) ?_
  show Go _ _ _ _ _ _ _ T0 (mkF m 6 _ [.null, (.int (1 : Int32)), (.int (0 : Int32)), (.ref k), (.ref a)])
  obtain ⟨v1, T1, L1, X1, q1, st1⟩ := c_init X0 hx hZ hown (y := (⟨"java/lang/String", "<init>", "([CIILjava/lang/Void;)V"⟩ : MethodName)) (hw _ (List.mem_of_getElem? (i := 8) rfl)) (hw _ (List.mem_of_getElem? (i := 9) rfl)) (hw _ (List.mem_of_getElem? (i := 4) rfl)) (hw _ (List.mem_of_getElem? (i := 11) rfl)) rfl (by decide) (a := a) (argsL := [(.ref k), (.int (0 : Int32)), (.int (1 : Int32)), .null]) (rest := []) (rm2L l Z a0 hw [] a k ch cs  h0 n0 Z0 hc0 hc1 hL hcs S0 V_k E_a F_0 F_1 g_a ne_a_k) e0 pd_7 rfl (by rw [hml]; rfl) (W := 0) (by show 2 * 0 + _ ≤ _; exact Nat.le_of_eq rfl) (by decide) (by decide) (by decide) (by decide) (hb hby d1_6) (Ls := #[.val (.ref a), .val (.ref k)])
  generalize e1 : T1.heap = h1 at q1
  obtain ⟨bi1, rfl, N1q, K1q, sz_bi1, E1q, Fq10, Fq11, V1q⟩ := q1
  have N1 := Fr.app N0 N1q
  have Z1 : n0 ≤ h1.size := Nat.le_trans Z0 K1q.1
  have ne_a_bi1 : a ≠ bi1 := Nat.ne_of_lt (Nat.lt_of_lt_of_le E_a.lt sz_bi1)
  have ne_k_bi1 : k ≠ bi1 := Nat.ne_of_lt (Nat.lt_of_lt_of_le V_k.lt sz_bi1)
  have gn_bi1 : n0 ≤ bi1 := Nat.le_trans Z0 sz_bi1
  have sy_bi1 : hI.size ≤ bi1 := Nat.le_trans K0.1 sz_bi1
  have K1 : Keep hI h1 [a] := K0.trans K1q (allS (Or.inl (List.mem_of_getElem? (i := 0) rfl)) all0)
  refine Go.step (st1) ?_
  show Go _ _ _ _ _ _ _ T1 (mkF m 9 _ [])
  refine go_ret X1 hx hret hlk (hb hby d1_9) ?_ (by decide) (by decide)
  try rw [e1]
  exact ⟨bi1, rfl, N1, eI ▸ K1, eI ▸ sy_bi1, E1q, Fq10, Fq11, V1q⟩
theorem ef_rm1U (m : MethodId) (x0 : Addr) (x1 : Addr) : entryFrame m #[(.ref x0), (.ref x1)] 2 = mkF m 0 #[.val (.ref x0), .val (.ref x1)] [] := by first | (simp [entryFrame, mkF, argsToLocals, Value.category]; done) | rfl
set_option maxRecDepth 65536 in
set_option maxHeartbeats 40000000 in
theorem rm1U (l : Launch) (Z : State) (a0 : Array Value) (hw : ∀ d ∈ tables_1, d.before a0 Z = true) (ws : List Jvm.Cond) (a k : Addr) (ch : Int32) (cs : Int32)  (h0 : Heap) (n0 : Nat) (Z0 : n0 ≤ h0.size) (hc0 : 0 ≤ ch.toInt) (hc1 : ch.toInt < 65536) (hU : (255 : Int32) < ch) (hcs : ¬ cs = (0 : Int32)) (S0 : Sta Z h0 "java/lang/String" "COMPACT_STRINGS" "Z" (.int cs)) (S1 : Sta Z h0 "java/lang/StringUTF16" "$assertionsDisabled" "Z" (.int (1 : Int32))) (S2 : Sta Z h0 "java/lang/StringUTF16" "HI_BYTE_SHIFT" "I" (.int (0 : Int32))) (S3 : Sta Z h0 "java/lang/StringUTF16" "LO_BYTE_SHIFT" "I" (.int (8 : Int32))) (V_k : AV Z h0 k .char 1 (lst [(.int ch)])) (E_a : Exa Z h0 a "java/lang/String") (F_0 : Fld Z h0 a "java/lang/String" "coder" "B" (.int (0 : Int32))) (F_1 : Fld Z h0 a "java/lang/String" "value" "[B" .null) (g_a : n0 ≤ a) (ne_a_k : a ≠ k) :
    Ctr l Z (⟨"java/lang/String", "<init>", "([C)V"⟩ : MethodName) jdk_42_method_3_code 2 none ws ({ frames := 5, cells := 2, slots := 3, locals := 74 } : Room) 2 3 #[(.ref a), (.ref k)] h0 (fun v h L => ∃ b, v = none ∧ Fr n0 L ∧ Keep h0 h [a] ∧ h0.size ≤ b ∧ Exa Z h a "java/lang/String" ∧ Fld Z h a "java/lang/String" "coder" "B" (.int (1 : Int32)) ∧ Fld Z h a "java/lang/String" "value" "[B" (.ref b) ∧ AV Z h b .byte 2 (lst [(.int ((ch >>> ((0 : Int32) &&& 31)).toInt8.toInt32)), (.int ((ch >>> ((8 : Int32) &&& 31)).toInt8.toInt32))])) := by
  refine Ctr.mk (plainFor_of_name pn_1) fun p e s m below meth c T0 X0 C e0 => go_cast (ef_rm1U m a k) ?_
  have N0 := Fr.nil n0
  obtain ⟨hx, hZ, hby, hml, hown, hnm, hret, hlk⟩ := C
  obtain ⟨hI, eI⟩ : ∃ z, z = h0 := ⟨_, rfl⟩
  have K0 : Keep hI h0 [a] := by rw [eI]; exact Keep.refl _ _
  show Go _ _ _ _ _ _ _ T0 (mkF m 0 #[.val (.ref a), .val (.ref k)] [])
  refine Go.step (fun tt kk => XS.aloadN X0.here hx rfl (hb hby d1_0) rfl rfl kk) ?_
  show Go _ _ _ _ _ _ _ T0 (mkF m 1 _ [(.ref a)])
  refine Go.step (fun tt kk => XS.aloadN X0.here hx rfl (hb hby d1_1) rfl rfl kk) ?_
  show Go _ _ _ _ _ _ _ T0 (mkF m 2 _ [(.ref k), (.ref a)])
  refine Go.step (fun tt kk => XS.iconst X0.here hx rfl (hb hby d1_2) kk) ?_
  show Go _ _ _ _ _ _ _ T0 (mkF m 3 _ [(.int (0 : Int32)), (.ref k), (.ref a)])
  refine Go.step (fun tt kk => XS.aloadN X0.here hx rfl (hb hby d1_3) rfl rfl kk) ?_
  show Go _ _ _ _ _ _ _ T0 (mkF m 4 _ [(.ref k), (.int (0 : Int32)), (.ref k), (.ref a)])
  refine Go.step (a_len X0 hx hZ e0 V_k (z := (1 : Int32)) (by decide) (hb hby d1_4)) ?_
  show Go _ _ _ _ _ _ _ T0 (mkF m 5 _ [(.int (1 : Int32)), (.int (0 : Int32)), (.ref k), (.ref a)])
  refine Go.step (fun tt kk => XS.aconstNull X0.here hx rfl (hb hby d1_5) kk) ?_
  show Go _ _ _ _ _ _ _ T0 (mkF m 6 _ [.null, (.int (1 : Int32)), (.int (0 : Int32)), (.ref k), (.ref a)])
  obtain ⟨v1, T1, L1, X1, q1, st1⟩ := c_init X0 hx hZ hown (y := (⟨"java/lang/String", "<init>", "([CIILjava/lang/Void;)V"⟩ : MethodName)) (hw _ (List.mem_of_getElem? (i := 8) rfl)) (hw _ (List.mem_of_getElem? (i := 9) rfl)) (hw _ (List.mem_of_getElem? (i := 4) rfl)) (hw _ (List.mem_of_getElem? (i := 11) rfl)) rfl (by decide) (a := a) (argsL := [(.ref k), (.int (0 : Int32)), (.int (1 : Int32)), .null]) (rest := []) (rm2U l Z a0 hw [] a k ch cs  h0 n0 Z0 hc0 hc1 hU hcs S0 S1 S2 S3 V_k E_a F_0 F_1 g_a ne_a_k) e0 pd_7 rfl (by rw [hml]; rfl) (W := 0) (by show 2 * 0 + _ ≤ _; exact Nat.le_of_eq rfl) (by decide) (by decide) (by decide) (by decide) (hb hby d1_6) (Ls := #[.val (.ref a), .val (.ref k)])
  generalize e1 : T1.heap = h1 at q1
  obtain ⟨bi1, rfl, N1q, K1q, sz_bi1, E1q, Fq10, Fq11, V1q⟩ := q1
  have N1 := Fr.app N0 N1q
  have Z1 : n0 ≤ h1.size := Nat.le_trans Z0 K1q.1
  have ne_a_bi1 : a ≠ bi1 := Nat.ne_of_lt (Nat.lt_of_lt_of_le E_a.lt sz_bi1)
  have ne_k_bi1 : k ≠ bi1 := Nat.ne_of_lt (Nat.lt_of_lt_of_le V_k.lt sz_bi1)
  have gn_bi1 : n0 ≤ bi1 := Nat.le_trans Z0 sz_bi1
  have sy_bi1 : hI.size ≤ bi1 := Nat.le_trans K0.1 sz_bi1
  have K1 : Keep hI h1 [a] := K0.trans K1q (allS (Or.inl (List.mem_of_getElem? (i := 0) rfl)) all0)
  refine Go.step (st1) ?_
  show Go _ _ _ _ _ _ _ T1 (mkF m 9 _ [])
  refine go_ret X1 hx hret hlk (hb hby d1_9) ?_ (by decide) (by decide)
  try rw [e1]
  exact ⟨bi1, rfl, N1, eI ▸ K1, eI ▸ sy_bi1, E1q, Fq10, Fq11, V1q⟩
theorem ef_rm10L (m : MethodId) (x0 : Addr) : entryFrame m #[(.ref x0)] 1 = mkF m 0 #[.val (.ref x0)] [] := by first | (simp [entryFrame, mkF, argsToLocals, Value.category]; done) | rfl
theorem d10_0 : decode jdk_42_method_154_code 0 = .ok (.getstatic 38, 3) := by decide +kernel
theorem d10_3 : decode jdk_42_method_154_code 3 = .ok (.ifCond .eq 14, 3) := by decide +kernel
theorem d10_6 : decode jdk_42_method_154_code 6 = .ok (.aload_n 0, 1) := by decide +kernel
theorem d10_7 : decode jdk_42_method_154_code 7 = .ok (.getfield 15, 3) := by decide +kernel
theorem d10_10 : decode jdk_42_method_154_code 10 = .ok (.ifCond .ne 7, 3) := by decide +kernel
theorem d10_13 : decode jdk_42_method_154_code 13 = .ok (.iconst 1, 1) := by decide +kernel
theorem d10_14 : decode jdk_42_method_154_code 14 = .ok (.goto 4, 3) := by decide +kernel
theorem d10_18 : decode jdk_42_method_154_code 18 = .ok (.ireturn, 1) := by decide +kernel
set_option maxRecDepth 65536 in
set_option maxHeartbeats 40000000 in
theorem rm10L (l : Launch) (Z : State) (a0 : Array Value) (hw : ∀ d ∈ tables_1, d.before a0 Z = true) (ws : List Jvm.Cond) (a b : Addr) (ch : Int32) (cs : Int32) (h0 : Heap) (n0 : Nat) (Z0 : n0 ≤ h0.size) (hcs : ¬ cs = (0 : Int32)) (S0 : Sta Z h0 "java/lang/String" "COMPACT_STRINGS" "Z" (.int cs)) (E_a : Exa Z h0 a "java/lang/String") (F_0 : Fld Z h0 a "java/lang/String" "coder" "B" (.int (0 : Int32))) (F_1 : Fld Z h0 a "java/lang/String" "value" "[B" (.ref b)) (V_b : AV Z h0 b .byte 1 (lst [(.int (ch.toInt8.toInt32))])) :
    Ctr l Z (⟨"java/lang/String", "isLatin1", "()Z"⟩ : MethodName) jdk_42_method_154_code 1 (some .boolean) ws ({ frames := 0, cells := 0, slots := 0, locals := 0 } : Room) 0 0 #[(.ref a)] h0 (fun v h L => v = some (.int (1 : Int32)) ∧ L = [] ∧ h = h0) := by
  refine Ctr.mk (plainFor_of_name pn_1) fun p e s m below meth c T0 X0 C e0 => go_cast (ef_rm10L m a) ?_
  have N0 := Fr.nil n0
  obtain ⟨hx, hZ, hby, hml, hown, hnm, hret, hlk⟩ := C
  show Go _ _ _ _ _ _ _ T0 (mkF m 0 #[.val (.ref a)] [])
  obtain ⟨T1, X1, e1, st1⟩ := getS2 X0 hx hZ hown (host := "") (Or.inl (hw _ (List.mem_of_getElem? (i := 15) rfl))) Via.refl e0 S0 (g := (mkF m 0 #[.val (.ref a)] [])) rfl (hb hby d10_0)
  refine Go.step (st1) ?_
  show Go _ _ _ _ _ _ _ T1 (mkF m 3 _ [(.int cs)])
  refine Go.step (fun tt kk => XS.ifNo X1.here hx rfl (hb hby d10_3) rfl ((if0 _ _).trans (feq hcs).1) kk) ?_
  show Go _ _ _ _ _ _ _ T1 (mkF m 6 _ [])
  refine Go.step (fun tt kk => XS.aloadN X1.here hx rfl (hb hby d10_6) rfl rfl kk) ?_
  show Go _ _ _ _ _ _ _ T1 (mkF m 7 _ [(.ref a)])
  obtain ⟨T2, X2, e2, st2⟩ := getF X1 hx hZ hown (host := "") (Or.inl (hw _ (List.mem_of_getElem? (i := 27) rfl))) Via.refl e1 F_0 (g := (mkF m 7 #[.val (.ref a)] [(.ref a)])) rfl rfl (hb hby d10_7)
  refine Go.step (st2) ?_
  show Go _ _ _ _ _ _ _ T2 (mkF m 10 _ [(.int (0 : Int32))])
  refine Go.step (fun tt kk => XS.ifNo X2.here hx rfl (hb hby d10_10) rfl ((if0 _ _).trans (teq (by decide)).2) kk) ?_
  show Go _ _ _ _ _ _ _ T2 (mkF m 13 _ [])
  refine Go.step (fun tt kk => XS.iconst X2.here hx rfl (hb hby d10_13) kk) ?_
  show Go _ _ _ _ _ _ _ T2 (mkF m 14 _ [(.int (1 : Int32))])
  refine Go.step (fun tt kk => XS.goto X2.here hx rfl (pc0 := 14) (pc' := 18) rfl (hb hby d10_14) (by decide) (by decide) kk) ?_
  show Go _ _ _ _ _ _ _ T2 (mkF m 18 _ [(.int (1 : Int32))])
  refine go_retN X2 hx (t := .boolean) hret (by simp) hlk (hb hby d10_18) (w := (1 : Int32)) rfl ?_ (by decide) (by decide)
  try rw [e2]
  exact ⟨rfl, rfl, rfl⟩
theorem ef_rm10U (m : MethodId) (x0 : Addr) : entryFrame m #[(.ref x0)] 1 = mkF m 0 #[.val (.ref x0)] [] := by first | (simp [entryFrame, mkF, argsToLocals, Value.category]; done) | rfl
theorem d10_17 : decode jdk_42_method_154_code 17 = .ok (.iconst 0, 1) := by decide +kernel
set_option maxRecDepth 65536 in
set_option maxHeartbeats 40000000 in
theorem rm10U (l : Launch) (Z : State) (a0 : Array Value) (hw : ∀ d ∈ tables_1, d.before a0 Z = true) (ws : List Jvm.Cond) (a b : Addr) (ch : Int32) (cs : Int32) (h0 : Heap) (n0 : Nat) (Z0 : n0 ≤ h0.size) (hcs : ¬ cs = (0 : Int32)) (S0 : Sta Z h0 "java/lang/String" "COMPACT_STRINGS" "Z" (.int cs)) (E_a : Exa Z h0 a "java/lang/String") (F_0 : Fld Z h0 a "java/lang/String" "coder" "B" (.int (1 : Int32))) (F_1 : Fld Z h0 a "java/lang/String" "value" "[B" (.ref b)) (V_b : AV Z h0 b .byte 2 (lst [(.int ((ch >>> ((0 : Int32) &&& 31)).toInt8.toInt32)), (.int ((ch >>> ((8 : Int32) &&& 31)).toInt8.toInt32))])) :
    Ctr l Z (⟨"java/lang/String", "isLatin1", "()Z"⟩ : MethodName) jdk_42_method_154_code 1 (some .boolean) ws ({ frames := 0, cells := 0, slots := 0, locals := 0 } : Room) 0 0 #[(.ref a)] h0 (fun v h L => v = some (.int (0 : Int32)) ∧ L = [] ∧ h = h0) := by
  refine Ctr.mk (plainFor_of_name pn_1) fun p e s m below meth c T0 X0 C e0 => go_cast (ef_rm10U m a) ?_
  have N0 := Fr.nil n0
  obtain ⟨hx, hZ, hby, hml, hown, hnm, hret, hlk⟩ := C
  show Go _ _ _ _ _ _ _ T0 (mkF m 0 #[.val (.ref a)] [])
  obtain ⟨T1, X1, e1, st1⟩ := getS2 X0 hx hZ hown (host := "") (Or.inl (hw _ (List.mem_of_getElem? (i := 15) rfl))) Via.refl e0 S0 (g := (mkF m 0 #[.val (.ref a)] [])) rfl (hb hby d10_0)
  refine Go.step (st1) ?_
  show Go _ _ _ _ _ _ _ T1 (mkF m 3 _ [(.int cs)])
  refine Go.step (fun tt kk => XS.ifNo X1.here hx rfl (hb hby d10_3) rfl ((if0 _ _).trans (feq hcs).1) kk) ?_
  show Go _ _ _ _ _ _ _ T1 (mkF m 6 _ [])
  refine Go.step (fun tt kk => XS.aloadN X1.here hx rfl (hb hby d10_6) rfl rfl kk) ?_
  show Go _ _ _ _ _ _ _ T1 (mkF m 7 _ [(.ref a)])
  obtain ⟨T2, X2, e2, st2⟩ := getF X1 hx hZ hown (host := "") (Or.inl (hw _ (List.mem_of_getElem? (i := 27) rfl))) Via.refl e1 F_0 (g := (mkF m 7 #[.val (.ref a)] [(.ref a)])) rfl rfl (hb hby d10_7)
  refine Go.step (st2) ?_
  show Go _ _ _ _ _ _ _ T2 (mkF m 10 _ [(.int (1 : Int32))])
  refine Go.step (fun tt kk => XS.ifYes X2.here hx rfl (pc0 := 10) (pc' := 17) rfl (hb hby d10_10) rfl ((if0 _ _).trans (feq (by decide)).2) (by decide) (by decide) kk) ?_
  show Go _ _ _ _ _ _ _ T2 (mkF m 17 _ [])
  refine Go.step (fun tt kk => XS.iconst X2.here hx rfl (hb hby d10_17) kk) ?_
  show Go _ _ _ _ _ _ _ T2 (mkF m 18 _ [(.int (0 : Int32))])
  refine go_retN X2 hx (t := .boolean) hret (by simp) hlk (hb hby d10_18) (w := (0 : Int32)) rfl ?_ (by decide) (by decide)
  try rw [e2]
  exact ⟨rfl, rfl, rfl⟩
theorem ef_rm12L (m : MethodId) (x0 : Addr) : entryFrame m #[(.ref x0)] 1 = mkF m 0 #[.val (.ref x0)] [] := by first | (simp [entryFrame, mkF, argsToLocals, Value.category]; done) | rfl
theorem d12_0 : decode jdk_42_method_152_code 0 = .ok (.getstatic 38, 3) := by decide +kernel
theorem d12_3 : decode jdk_42_method_152_code 3 = .ok (.ifCond .eq 10, 3) := by decide +kernel
theorem d12_6 : decode jdk_42_method_152_code 6 = .ok (.aload_n 0, 1) := by decide +kernel
theorem d12_7 : decode jdk_42_method_152_code 7 = .ok (.getfield 15, 3) := by decide +kernel
theorem d12_10 : decode jdk_42_method_152_code 10 = .ok (.goto 4, 3) := by decide +kernel
theorem d12_14 : decode jdk_42_method_152_code 14 = .ok (.ireturn, 1) := by decide +kernel
set_option maxRecDepth 65536 in
set_option maxHeartbeats 40000000 in
theorem rm12L (l : Launch) (Z : State) (a0 : Array Value) (hw : ∀ d ∈ tables_1, d.before a0 Z = true) (ws : List Jvm.Cond) (a b : Addr) (ch : Int32) (cs : Int32) (h0 : Heap) (n0 : Nat) (Z0 : n0 ≤ h0.size) (hcs : ¬ cs = (0 : Int32)) (S0 : Sta Z h0 "java/lang/String" "COMPACT_STRINGS" "Z" (.int cs)) (E_a : Exa Z h0 a "java/lang/String") (F_0 : Fld Z h0 a "java/lang/String" "coder" "B" (.int (0 : Int32))) (F_1 : Fld Z h0 a "java/lang/String" "value" "[B" (.ref b)) (V_b : AV Z h0 b .byte 1 (lst [(.int (ch.toInt8.toInt32))])) :
    Ctr l Z (⟨"java/lang/String", "coder", "()B"⟩ : MethodName) jdk_42_method_152_code 1 (some .byte) ws ({ frames := 0, cells := 0, slots := 0, locals := 0 } : Room) 0 0 #[(.ref a)] h0 (fun v h L => v = some (.int (0 : Int32)) ∧ L = [] ∧ h = h0) := by
  refine Ctr.mk (plainFor_of_name pn_1) fun p e s m below meth c T0 X0 C e0 => go_cast (ef_rm12L m a) ?_
  have N0 := Fr.nil n0
  obtain ⟨hx, hZ, hby, hml, hown, hnm, hret, hlk⟩ := C
  show Go _ _ _ _ _ _ _ T0 (mkF m 0 #[.val (.ref a)] [])
  obtain ⟨T1, X1, e1, st1⟩ := getS2 X0 hx hZ hown (host := "") (Or.inl (hw _ (List.mem_of_getElem? (i := 15) rfl))) Via.refl e0 S0 (g := (mkF m 0 #[.val (.ref a)] [])) rfl (hb hby d12_0)
  refine Go.step (st1) ?_
  show Go _ _ _ _ _ _ _ T1 (mkF m 3 _ [(.int cs)])
  refine Go.step (fun tt kk => XS.ifNo X1.here hx rfl (hb hby d12_3) rfl ((if0 _ _).trans (feq hcs).1) kk) ?_
  show Go _ _ _ _ _ _ _ T1 (mkF m 6 _ [])
  refine Go.step (fun tt kk => XS.aloadN X1.here hx rfl (hb hby d12_6) rfl rfl kk) ?_
  show Go _ _ _ _ _ _ _ T1 (mkF m 7 _ [(.ref a)])
  obtain ⟨T2, X2, e2, st2⟩ := getF X1 hx hZ hown (host := "") (Or.inl (hw _ (List.mem_of_getElem? (i := 27) rfl))) Via.refl e1 F_0 (g := (mkF m 7 #[.val (.ref a)] [(.ref a)])) rfl rfl (hb hby d12_7)
  refine Go.step (st2) ?_
  show Go _ _ _ _ _ _ _ T2 (mkF m 10 _ [(.int (0 : Int32))])
  refine Go.step (fun tt kk => XS.goto X2.here hx rfl (pc0 := 10) (pc' := 14) rfl (hb hby d12_10) (by decide) (by decide) kk) ?_
  show Go _ _ _ _ _ _ _ T2 (mkF m 14 _ [(.int (0 : Int32))])
  refine go_retN X2 hx (t := .byte) hret (by simp) hlk (hb hby d12_14) (w := (0 : Int32)) rfl ?_ (by decide) (by decide)
  try rw [e2]
  exact ⟨rfl, rfl, rfl⟩
theorem ef_rm12U (m : MethodId) (x0 : Addr) : entryFrame m #[(.ref x0)] 1 = mkF m 0 #[.val (.ref x0)] [] := by first | (simp [entryFrame, mkF, argsToLocals, Value.category]; done) | rfl
set_option maxRecDepth 65536 in
set_option maxHeartbeats 40000000 in
theorem rm12U (l : Launch) (Z : State) (a0 : Array Value) (hw : ∀ d ∈ tables_1, d.before a0 Z = true) (ws : List Jvm.Cond) (a b : Addr) (ch : Int32) (cs : Int32) (h0 : Heap) (n0 : Nat) (Z0 : n0 ≤ h0.size) (hcs : ¬ cs = (0 : Int32)) (S0 : Sta Z h0 "java/lang/String" "COMPACT_STRINGS" "Z" (.int cs)) (E_a : Exa Z h0 a "java/lang/String") (F_0 : Fld Z h0 a "java/lang/String" "coder" "B" (.int (1 : Int32))) (F_1 : Fld Z h0 a "java/lang/String" "value" "[B" (.ref b)) (V_b : AV Z h0 b .byte 2 (lst [(.int ((ch >>> ((0 : Int32) &&& 31)).toInt8.toInt32)), (.int ((ch >>> ((8 : Int32) &&& 31)).toInt8.toInt32))])) :
    Ctr l Z (⟨"java/lang/String", "coder", "()B"⟩ : MethodName) jdk_42_method_152_code 1 (some .byte) ws ({ frames := 0, cells := 0, slots := 0, locals := 0 } : Room) 0 0 #[(.ref a)] h0 (fun v h L => v = some (.int (1 : Int32)) ∧ L = [] ∧ h = h0) := by
  refine Ctr.mk (plainFor_of_name pn_1) fun p e s m below meth c T0 X0 C e0 => go_cast (ef_rm12U m a) ?_
  have N0 := Fr.nil n0
  obtain ⟨hx, hZ, hby, hml, hown, hnm, hret, hlk⟩ := C
  show Go _ _ _ _ _ _ _ T0 (mkF m 0 #[.val (.ref a)] [])
  obtain ⟨T1, X1, e1, st1⟩ := getS2 X0 hx hZ hown (host := "") (Or.inl (hw _ (List.mem_of_getElem? (i := 15) rfl))) Via.refl e0 S0 (g := (mkF m 0 #[.val (.ref a)] [])) rfl (hb hby d12_0)
  refine Go.step (st1) ?_
  show Go _ _ _ _ _ _ _ T1 (mkF m 3 _ [(.int cs)])
  refine Go.step (fun tt kk => XS.ifNo X1.here hx rfl (hb hby d12_3) rfl ((if0 _ _).trans (feq hcs).1) kk) ?_
  show Go _ _ _ _ _ _ _ T1 (mkF m 6 _ [])
  refine Go.step (fun tt kk => XS.aloadN X1.here hx rfl (hb hby d12_6) rfl rfl kk) ?_
  show Go _ _ _ _ _ _ _ T1 (mkF m 7 _ [(.ref a)])
  obtain ⟨T2, X2, e2, st2⟩ := getF X1 hx hZ hown (host := "") (Or.inl (hw _ (List.mem_of_getElem? (i := 27) rfl))) Via.refl e1 F_0 (g := (mkF m 7 #[.val (.ref a)] [(.ref a)])) rfl rfl (hb hby d12_7)
  refine Go.step (st2) ?_
  show Go _ _ _ _ _ _ _ T2 (mkF m 10 _ [(.int (1 : Int32))])
  refine Go.step (fun tt kk => XS.goto X2.here hx rfl (pc0 := 10) (pc' := 14) rfl (hb hby d12_10) (by decide) (by decide) kk) ?_
  show Go _ _ _ _ _ _ _ T2 (mkF m 14 _ [(.int (1 : Int32))])
  refine go_retN X2 hx (t := .byte) hret (by simp) hlk (hb hby d12_14) (w := (1 : Int32)) rfl ?_ (by decide) (by decide)
  try rw [e2]
  exact ⟨rfl, rfl, rfl⟩
theorem ef_rm11L (m : MethodId) (x0 : Addr) : entryFrame m #[(.ref x0)] 1 = mkF m 0 #[.val (.ref x0)] [] := by first | (simp [entryFrame, mkF, argsToLocals, Value.category]; done) | rfl
theorem d11_0 : decode jdk_42_method_54_code 0 = .ok (.aload_n 0, 1) := by decide +kernel
theorem d11_1 : decode jdk_42_method_54_code 1 = .ok (.getfield 9, 3) := by decide +kernel
theorem d11_4 : decode jdk_42_method_54_code 4 = .ok (.arraylength, 1) := by decide +kernel
theorem d11_5 : decode jdk_42_method_54_code 5 = .ok (.aload_n 0, 1) := by decide +kernel
theorem pd_8 : parseMethodDescriptor "()B" = some ⟨[], some .byte⟩ := by decide +kernel
theorem d11_6 : decode jdk_42_method_54_code 6 = .ok (.invokevirtual 335, 3) := by decide +kernel
theorem d11_9 : decode jdk_42_method_54_code 9 = .ok (.ishr, 1) := by decide +kernel
theorem d11_10 : decode jdk_42_method_54_code 10 = .ok (.ireturn, 1) := by decide +kernel
set_option maxRecDepth 65536 in
set_option maxHeartbeats 40000000 in
theorem rm11L (l : Launch) (Z : State) (a0 : Array Value) (hw : ∀ d ∈ tables_1, d.before a0 Z = true) (ws : List Jvm.Cond) (a b : Addr) (ch : Int32) (cs : Int32) (h0 : Heap) (n0 : Nat) (Z0 : n0 ≤ h0.size) (hcs : ¬ cs = (0 : Int32)) (S0 : Sta Z h0 "java/lang/String" "COMPACT_STRINGS" "Z" (.int cs)) (E_a : Exa Z h0 a "java/lang/String") (F_0 : Fld Z h0 a "java/lang/String" "coder" "B" (.int (0 : Int32))) (F_1 : Fld Z h0 a "java/lang/String" "value" "[B" (.ref b)) (V_b : AV Z h0 b .byte 1 (lst [(.int (ch.toInt8.toInt32))])) :
    Ctr l Z (⟨"java/lang/String", "length", "()I"⟩ : MethodName) jdk_42_method_54_code 1 (some .int) ws ({ frames := 1, cells := 0, slots := 0, locals := 13 } : Room) 0 0 #[(.ref a)] h0 (fun v h L => v = some (.int (1 : Int32)) ∧ L = [] ∧ h = h0) := by
  refine Ctr.mk (plainFor_of_name pn_1) fun p e s m below meth c T0 X0 C e0 => go_cast (ef_rm11L m a) ?_
  have N0 := Fr.nil n0
  obtain ⟨hx, hZ, hby, hml, hown, hnm, hret, hlk⟩ := C
  show Go _ _ _ _ _ _ _ T0 (mkF m 0 #[.val (.ref a)] [])
  refine Go.step (fun tt kk => XS.aloadN X0.here hx rfl (hb hby d11_0) rfl rfl kk) ?_
  show Go _ _ _ _ _ _ _ T0 (mkF m 1 _ [(.ref a)])
  obtain ⟨T1, X1, e1, st1⟩ := getF X0 hx hZ hown (host := "") (Or.inl (hw _ (List.mem_of_getElem? (i := 29) rfl))) Via.refl e0 F_1 (g := (mkF m 1 #[.val (.ref a)] [(.ref a)])) rfl rfl (hb hby d11_1)
  refine Go.step (st1) ?_
  show Go _ _ _ _ _ _ _ T1 (mkF m 4 _ [(.ref b)])
  refine Go.step (a_len X1 hx hZ e1 V_b (z := (1 : Int32)) (by decide) (hb hby d11_4)) ?_
  show Go _ _ _ _ _ _ _ T1 (mkF m 5 _ [(.int (1 : Int32))])
  refine Go.step (fun tt kk => XS.aloadN X1.here hx rfl (hb hby d11_5) rfl rfl kk) ?_
  show Go _ _ _ _ _ _ _ T1 (mkF m 6 _ [(.ref a), (.int (1 : Int32))])
  obtain ⟨v2, T2, L2, X2, q2, st2⟩ := c_virt X1 hx hZ hown (y' := (⟨"java/lang/String", "coder", "()B"⟩ : MethodName)) (y := (⟨"java/lang/String", "coder", "()B"⟩ : MethodName)) (C := "java/lang/String") (hw _ (List.mem_of_getElem? (i := 53) rfl)) (hw _ (List.mem_of_getElem? (i := 54) rfl)) (notFace_of_selects (args := #[]) (mvT hZ (hw _ (List.mem_of_getElem? (i := 56) rfl)))) (hw _ (List.mem_of_getElem? (i := 56) rfl)) (hw _ (List.mem_of_getElem? (i := 55) rfl)) (hw _ (List.mem_of_getElem? (i := 4) rfl)) (hw _ (List.mem_of_getElem? (i := 57) rfl)) (by decide) (a := a) (argsL := []) (rest := [(.int (1 : Int32))]) (rm12L l Z a0 hw [] a b ch cs h0 n0 Z0 hcs S0 E_a F_0 F_1 V_b) e1 E_a pd_8 rfl (by rw [hml]; rfl) (W := 1) (by show 2 * 0 + _ ≤ _; exact Nat.le_of_eq rfl) (by decide) (by decide) (by decide) (by decide) (hb hby d11_6) (Ls := #[.val (.ref a)])
  obtain ⟨rfl, rfl, e2⟩ := q2
  have N2 := Fr.app N0 (Fr.nil n0)
  refine Go.step (st2) ?_
  show Go _ _ _ _ _ _ _ T2 (mkF m 9 _ [(.int (0 : Int32)), (.int (1 : Int32))])
  refine Go.step (fun tt kk => XS.ishr X2.here hx rfl (hb hby d11_9) rfl kk) ?_
  show Go _ _ _ _ _ _ _ T2 (mkF m 10 _ [(.int ((1 : Int32) >>> ((0 : Int32) &&& 31)))])
  refine go_retI X2 hx hret hlk (hb hby d11_10) ?_ (by decide) (by decide)
  try rw [e2]
  exact ⟨congrArg (fun z => some (Value.int z)) (by decide), rfl, rfl⟩
theorem ef_rm11U (m : MethodId) (x0 : Addr) : entryFrame m #[(.ref x0)] 1 = mkF m 0 #[.val (.ref x0)] [] := by first | (simp [entryFrame, mkF, argsToLocals, Value.category]; done) | rfl
set_option maxRecDepth 65536 in
set_option maxHeartbeats 40000000 in
theorem rm11U (l : Launch) (Z : State) (a0 : Array Value) (hw : ∀ d ∈ tables_1, d.before a0 Z = true) (ws : List Jvm.Cond) (a b : Addr) (ch : Int32) (cs : Int32) (h0 : Heap) (n0 : Nat) (Z0 : n0 ≤ h0.size) (hcs : ¬ cs = (0 : Int32)) (S0 : Sta Z h0 "java/lang/String" "COMPACT_STRINGS" "Z" (.int cs)) (E_a : Exa Z h0 a "java/lang/String") (F_0 : Fld Z h0 a "java/lang/String" "coder" "B" (.int (1 : Int32))) (F_1 : Fld Z h0 a "java/lang/String" "value" "[B" (.ref b)) (V_b : AV Z h0 b .byte 2 (lst [(.int ((ch >>> ((0 : Int32) &&& 31)).toInt8.toInt32)), (.int ((ch >>> ((8 : Int32) &&& 31)).toInt8.toInt32))])) :
    Ctr l Z (⟨"java/lang/String", "length", "()I"⟩ : MethodName) jdk_42_method_54_code 1 (some .int) ws ({ frames := 1, cells := 0, slots := 0, locals := 13 } : Room) 0 0 #[(.ref a)] h0 (fun v h L => v = some (.int (1 : Int32)) ∧ L = [] ∧ h = h0) := by
  refine Ctr.mk (plainFor_of_name pn_1) fun p e s m below meth c T0 X0 C e0 => go_cast (ef_rm11U m a) ?_
  have N0 := Fr.nil n0
  obtain ⟨hx, hZ, hby, hml, hown, hnm, hret, hlk⟩ := C
  show Go _ _ _ _ _ _ _ T0 (mkF m 0 #[.val (.ref a)] [])
  refine Go.step (fun tt kk => XS.aloadN X0.here hx rfl (hb hby d11_0) rfl rfl kk) ?_
  show Go _ _ _ _ _ _ _ T0 (mkF m 1 _ [(.ref a)])
  obtain ⟨T1, X1, e1, st1⟩ := getF X0 hx hZ hown (host := "") (Or.inl (hw _ (List.mem_of_getElem? (i := 29) rfl))) Via.refl e0 F_1 (g := (mkF m 1 #[.val (.ref a)] [(.ref a)])) rfl rfl (hb hby d11_1)
  refine Go.step (st1) ?_
  show Go _ _ _ _ _ _ _ T1 (mkF m 4 _ [(.ref b)])
  refine Go.step (a_len X1 hx hZ e1 V_b (z := (2 : Int32)) (by decide) (hb hby d11_4)) ?_
  show Go _ _ _ _ _ _ _ T1 (mkF m 5 _ [(.int (2 : Int32))])
  refine Go.step (fun tt kk => XS.aloadN X1.here hx rfl (hb hby d11_5) rfl rfl kk) ?_
  show Go _ _ _ _ _ _ _ T1 (mkF m 6 _ [(.ref a), (.int (2 : Int32))])
  obtain ⟨v2, T2, L2, X2, q2, st2⟩ := c_virt X1 hx hZ hown (y' := (⟨"java/lang/String", "coder", "()B"⟩ : MethodName)) (y := (⟨"java/lang/String", "coder", "()B"⟩ : MethodName)) (C := "java/lang/String") (hw _ (List.mem_of_getElem? (i := 53) rfl)) (hw _ (List.mem_of_getElem? (i := 54) rfl)) (notFace_of_selects (args := #[]) (mvT hZ (hw _ (List.mem_of_getElem? (i := 56) rfl)))) (hw _ (List.mem_of_getElem? (i := 56) rfl)) (hw _ (List.mem_of_getElem? (i := 55) rfl)) (hw _ (List.mem_of_getElem? (i := 4) rfl)) (hw _ (List.mem_of_getElem? (i := 57) rfl)) (by decide) (a := a) (argsL := []) (rest := [(.int (2 : Int32))]) (rm12U l Z a0 hw [] a b ch cs h0 n0 Z0 hcs S0 E_a F_0 F_1 V_b) e1 E_a pd_8 rfl (by rw [hml]; rfl) (W := 1) (by show 2 * 0 + _ ≤ _; exact Nat.le_of_eq rfl) (by decide) (by decide) (by decide) (by decide) (hb hby d11_6) (Ls := #[.val (.ref a)])
  obtain ⟨rfl, rfl, e2⟩ := q2
  have N2 := Fr.app N0 (Fr.nil n0)
  refine Go.step (st2) ?_
  show Go _ _ _ _ _ _ _ T2 (mkF m 9 _ [(.int (1 : Int32)), (.int (2 : Int32))])
  refine Go.step (fun tt kk => XS.ishr X2.here hx rfl (hb hby d11_9) rfl kk) ?_
  show Go _ _ _ _ _ _ _ T2 (mkF m 10 _ [(.int ((2 : Int32) >>> ((1 : Int32) &&& 31)))])
  refine go_retI X2 hx hret hlk (hb hby d11_10) ?_ (by decide) (by decide)
  try rw [e2]
  exact ⟨congrArg (fun z => some (Value.int z)) (by decide), rfl, rfl⟩
theorem ef_rmmx (m : MethodId) (x0 : Int32) (x1 : Int32) : entryFrame m #[(.int x0), (.int x1)] 2 = mkF m 0 #[.val (.int x0), .val (.int x1)] [] := by first | (simp [entryFrame, mkF, argsToLocals, Value.category]; done) | rfl
theorem pf_15 : plainFor (⟨"java/lang/Math", "max", "(II)I"⟩ : MethodName) = true := by decide +kernel
theorem d15_0 : decode jdk_29_method_65_code 0 = .ok (.iload_n 0, 1) := by decide +kernel
theorem d15_1 : decode jdk_29_method_65_code 1 = .ok (.iload_n 1, 1) := by decide +kernel
theorem d15_2 : decode jdk_29_method_65_code 2 = .ok (.if_icmp .lt 7, 3) := by decide +kernel
theorem d15_9 : decode jdk_29_method_65_code 9 = .ok (.iload_n 1, 1) := by decide +kernel
theorem d15_10 : decode jdk_29_method_65_code 10 = .ok (.ireturn, 1) := by decide +kernel
theorem d15_5 : decode jdk_29_method_65_code 5 = .ok (.iload_n 0, 1) := by decide +kernel
theorem d15_6 : decode jdk_29_method_65_code 6 = .ok (.goto 4, 3) := by decide +kernel
set_option maxRecDepth 65536 in
set_option maxHeartbeats 40000000 in
theorem rmmx (l : Launch) (Z : State) (a0 : Array Value) (hw : ∀ d ∈ tables_1, d.before a0 Z = true) (ws : List Jvm.Cond) (x y : Int32) (h0 : Heap) (n0 : Nat) (Z0 : n0 ≤ h0.size)  :
    Ctr l Z (⟨"java/lang/Math", "max", "(II)I"⟩ : MethodName) jdk_29_method_65_code 2 (some .int) ws ({ frames := 0, cells := 0, slots := 0, locals := 0 } : Room) 0 0 #[(.int x), (.int y)] h0 (fun v h L => v = some (.int (mx x y)) ∧ L = [] ∧ h = h0) := by
  refine Ctr.mk pf_15 fun p e s m below meth c T0 X0 C e0 => go_cast (ef_rmmx m x y) ?_
  have N0 := Fr.nil n0
  obtain ⟨hx, hZ, hby, hml, hown, hnm, hret, hlk⟩ := C
  show Go _ _ _ _ _ _ _ T0 (mkF m 0 #[.val (.int x), .val (.int y)] [])
  refine Go.step (fun tt kk => XS.iloadN X0.here hx rfl (hb hby d15_0) rfl kk) ?_
  show Go _ _ _ _ _ _ _ T0 (mkF m 1 _ [(.int x)])
  refine Go.step (fun tt kk => XS.iloadN X0.here hx rfl (hb hby d15_1) rfl kk) ?_
  show Go _ _ _ _ _ _ _ T0 (mkF m 2 _ [(.int y), (.int x)])
  by_cases c2_1 : x < y
  · refine Go.step (fun tt kk => XS.icmpYes X0.here hx rfl (pc0 := 2) (pc' := 9) rfl (hb hby d15_2) rfl (tlt c2_1).1 (by decide) (by decide) kk) ?_
    show Go _ _ _ _ _ _ _ T0 (mkF m 9 _ [])
    refine Go.step (fun tt kk => XS.iloadN X0.here hx rfl (hb hby d15_9) rfl kk) ?_
    show Go _ _ _ _ _ _ _ T0 (mkF m 10 _ [(.int y)])
    refine go_retI X0 hx hret hlk (hb hby d15_10) ?_ (by decide) (by decide)
    try rw [e0]
    exact ⟨congrArg (fun z => some (Value.int z)) (by simp only [mx, eq_true c2_1, if_true, if_false]), rfl, rfl⟩
  · refine Go.step (fun tt kk => XS.icmpNo X0.here hx rfl (hb hby d15_2) rfl (flt c2_1).1 kk) ?_
    show Go _ _ _ _ _ _ _ T0 (mkF m 5 _ [])
    refine Go.step (fun tt kk => XS.iloadN X0.here hx rfl (hb hby d15_5) rfl kk) ?_
    show Go _ _ _ _ _ _ _ T0 (mkF m 6 _ [(.int x)])
    refine Go.step (fun tt kk => XS.goto X0.here hx rfl (pc0 := 6) (pc' := 10) rfl (hb hby d15_6) (by decide) (by decide) kk) ?_
    show Go _ _ _ _ _ _ _ T0 (mkF m 10 _ [(.int x)])
    refine go_retI X0 hx hret hlk (hb hby d15_10) ?_ (by decide) (by decide)
    try rw [e0]
    exact ⟨congrArg (fun z => some (Value.int z)) (by simp only [mx, eq_false c2_1, if_true, if_false]), rfl, rfl⟩
theorem ef_rmmn (m : MethodId) (x0 : Int32) (x1 : Int32) : entryFrame m #[(.int x0), (.int x1)] 2 = mkF m 0 #[.val (.int x0), .val (.int x1)] [] := by first | (simp [entryFrame, mkF, argsToLocals, Value.category]; done) | rfl
theorem pf_16 : plainFor (⟨"java/lang/Math", "min", "(II)I"⟩ : MethodName) = true := by decide +kernel
theorem d16_0 : decode jdk_29_method_69_code 0 = .ok (.iload_n 0, 1) := by decide +kernel
theorem d16_1 : decode jdk_29_method_69_code 1 = .ok (.iload_n 1, 1) := by decide +kernel
theorem d16_2 : decode jdk_29_method_69_code 2 = .ok (.if_icmp .gt 7, 3) := by decide +kernel
theorem d16_9 : decode jdk_29_method_69_code 9 = .ok (.iload_n 1, 1) := by decide +kernel
theorem d16_10 : decode jdk_29_method_69_code 10 = .ok (.ireturn, 1) := by decide +kernel
theorem d16_5 : decode jdk_29_method_69_code 5 = .ok (.iload_n 0, 1) := by decide +kernel
theorem d16_6 : decode jdk_29_method_69_code 6 = .ok (.goto 4, 3) := by decide +kernel
set_option maxRecDepth 65536 in
set_option maxHeartbeats 40000000 in
theorem rmmn (l : Launch) (Z : State) (a0 : Array Value) (hw : ∀ d ∈ tables_1, d.before a0 Z = true) (ws : List Jvm.Cond) (x y : Int32) (h0 : Heap) (n0 : Nat) (Z0 : n0 ≤ h0.size)  :
    Ctr l Z (⟨"java/lang/Math", "min", "(II)I"⟩ : MethodName) jdk_29_method_69_code 2 (some .int) ws ({ frames := 0, cells := 0, slots := 0, locals := 0 } : Room) 0 0 #[(.int x), (.int y)] h0 (fun v h L => v = some (.int (mn x y)) ∧ L = [] ∧ h = h0) := by
  refine Ctr.mk pf_16 fun p e s m below meth c T0 X0 C e0 => go_cast (ef_rmmn m x y) ?_
  have N0 := Fr.nil n0
  obtain ⟨hx, hZ, hby, hml, hown, hnm, hret, hlk⟩ := C
  show Go _ _ _ _ _ _ _ T0 (mkF m 0 #[.val (.int x), .val (.int y)] [])
  refine Go.step (fun tt kk => XS.iloadN X0.here hx rfl (hb hby d16_0) rfl kk) ?_
  show Go _ _ _ _ _ _ _ T0 (mkF m 1 _ [(.int x)])
  refine Go.step (fun tt kk => XS.iloadN X0.here hx rfl (hb hby d16_1) rfl kk) ?_
  show Go _ _ _ _ _ _ _ T0 (mkF m 2 _ [(.int y), (.int x)])
  by_cases c2_1 : y < x
  · refine Go.step (fun tt kk => XS.icmpYes X0.here hx rfl (pc0 := 2) (pc' := 9) rfl (hb hby d16_2) rfl (tlt c2_1).2.2.1 (by decide) (by decide) kk) ?_
    show Go _ _ _ _ _ _ _ T0 (mkF m 9 _ [])
    refine Go.step (fun tt kk => XS.iloadN X0.here hx rfl (hb hby d16_9) rfl kk) ?_
    show Go _ _ _ _ _ _ _ T0 (mkF m 10 _ [(.int y)])
    refine go_retI X0 hx hret hlk (hb hby d16_10) ?_ (by decide) (by decide)
    try rw [e0]
    exact ⟨congrArg (fun z => some (Value.int z)) (by simp only [mn, eq_true c2_1, if_true, if_false]), rfl, rfl⟩
  · refine Go.step (fun tt kk => XS.icmpNo X0.here hx rfl (hb hby d16_2) rfl (flt c2_1).2.2.1 kk) ?_
    show Go _ _ _ _ _ _ _ T0 (mkF m 5 _ [])
    refine Go.step (fun tt kk => XS.iloadN X0.here hx rfl (hb hby d16_5) rfl kk) ?_
    show Go _ _ _ _ _ _ _ T0 (mkF m 6 _ [(.int x)])
    refine Go.step (fun tt kk => XS.goto X0.here hx rfl (pc0 := 6) (pc' := 10) rfl (hb hby d16_6) (by decide) (by decide) kk) ?_
    show Go _ _ _ _ _ _ _ T0 (mkF m 10 _ [(.int x)])
    refine go_retI X0 hx hret hlk (hb hby d16_10) ?_ (by decide) (by decide)
    try rw [e0]
    exact ⟨congrArg (fun z => some (Value.int z)) (by simp only [mn, eq_false c2_1, if_true, if_false]), rfl, rfl⟩
theorem ef_rm14_32 (m : MethodId) (x0 : Int32) : entryFrame m #[(.int x0)] 1 = mkF m 0 #[.val (.int x0)] [] := by first | (simp [entryFrame, mkF, argsToLocals, Value.category]; done) | rfl
theorem pn_2 : plainName "java/lang/StringLatin1" = true := by first | (simp [plainName, overriddenIn]; done) | decide +kernel
theorem d14_0 : decode jdk_43_method_4_code 0 = .ok (.iload_n 0, 1) := by decide +kernel
theorem d14_1 : decode jdk_43_method_4_code 1 = .ok (.ifCond .lt 14, 3) := by decide +kernel
theorem d14_4 : decode jdk_43_method_4_code 4 = .ok (.iload_n 0, 1) := by decide +kernel
theorem d14_5 : decode jdk_43_method_4_code 5 = .ok (.sipush 255, 3) := by decide +kernel
theorem d14_8 : decode jdk_43_method_4_code 8 = .ok (.if_icmp .gt 7, 3) := by decide +kernel
theorem d14_11 : decode jdk_43_method_4_code 11 = .ok (.iconst 1, 1) := by decide +kernel
theorem d14_12 : decode jdk_43_method_4_code 12 = .ok (.goto 4, 3) := by decide +kernel
theorem d14_16 : decode jdk_43_method_4_code 16 = .ok (.ireturn, 1) := by decide +kernel
set_option maxRecDepth 65536 in
set_option maxHeartbeats 40000000 in
theorem rm14_32 (l : Launch) (Z : State) (a0 : Array Value) (hw : ∀ d ∈ tables_1, d.before a0 Z = true) (ws : List Jvm.Cond)  (h0 : Heap) (n0 : Nat) (Z0 : n0 ≤ h0.size)  :
    Ctr l Z (⟨"java/lang/StringLatin1", "canEncode", "(I)Z"⟩ : MethodName) jdk_43_method_4_code 1 (some .boolean) ws ({ frames := 0, cells := 0, slots := 0, locals := 0 } : Room) 0 0 #[(.int (32 : Int32))] h0 (fun v h L => v = some (.int (1 : Int32)) ∧ L = [] ∧ h = h0) := by
  refine Ctr.mk (plainFor_of_name pn_2) fun p e s m below meth c T0 X0 C e0 => go_cast (ef_rm14_32 m (32 : Int32)) ?_
  have N0 := Fr.nil n0
  obtain ⟨hx, hZ, hby, hml, hown, hnm, hret, hlk⟩ := C
  show Go _ _ _ _ _ _ _ T0 (mkF m 0 #[.val (.int (32 : Int32))] [])
  refine Go.step (fun tt kk => XS.iloadN X0.here hx rfl (hb hby d14_0) rfl kk) ?_
  show Go _ _ _ _ _ _ _ T0 (mkF m 1 _ [(.int (32 : Int32))])
  refine Go.step (fun tt kk => XS.ifNo X0.here hx rfl (hb hby d14_1) rfl ((if0 _ _).trans (flt (by decide)).1) kk) ?_
  show Go _ _ _ _ _ _ _ T0 (mkF m 4 _ [])
  refine Go.step (fun tt kk => XS.iloadN X0.here hx rfl (hb hby d14_4) rfl kk) ?_
  show Go _ _ _ _ _ _ _ T0 (mkF m 5 _ [(.int (32 : Int32))])
  refine Go.step (fun tt kk => XS.sipush X0.here hx rfl (hb hby d14_5) kk) ?_
  show Go _ _ _ _ _ _ _ T0 (mkF m 8 _ [(.int (255 : Int32)), (.int (32 : Int32))])
  refine Go.step (fun tt kk => XS.icmpNo X0.here hx rfl (hb hby d14_8) rfl (flt (by decide)).2.2.1 kk) ?_
  show Go _ _ _ _ _ _ _ T0 (mkF m 11 _ [])
  refine Go.step (fun tt kk => XS.iconst X0.here hx rfl (hb hby d14_11) kk) ?_
  show Go _ _ _ _ _ _ _ T0 (mkF m 12 _ [(.int (1 : Int32))])
  refine Go.step (fun tt kk => XS.goto X0.here hx rfl (pc0 := 12) (pc' := 16) rfl (hb hby d14_12) (by decide) (by decide) kk) ?_
  show Go _ _ _ _ _ _ _ T0 (mkF m 16 _ [(.int (1 : Int32))])
  refine go_retN X0 hx (t := .boolean) hret (by simp) hlk (hb hby d14_16) (w := (1 : Int32)) rfl ?_ (by decide) (by decide)
  try rw [e0]
  exact ⟨rfl, rfl, rfl⟩
theorem ef_rm14_9 (m : MethodId) (x0 : Int32) : entryFrame m #[(.int x0)] 1 = mkF m 0 #[.val (.int x0)] [] := by first | (simp [entryFrame, mkF, argsToLocals, Value.category]; done) | rfl
set_option maxRecDepth 65536 in
set_option maxHeartbeats 40000000 in
theorem rm14_9 (l : Launch) (Z : State) (a0 : Array Value) (hw : ∀ d ∈ tables_1, d.before a0 Z = true) (ws : List Jvm.Cond)  (h0 : Heap) (n0 : Nat) (Z0 : n0 ≤ h0.size)  :
    Ctr l Z (⟨"java/lang/StringLatin1", "canEncode", "(I)Z"⟩ : MethodName) jdk_43_method_4_code 1 (some .boolean) ws ({ frames := 0, cells := 0, slots := 0, locals := 0 } : Room) 0 0 #[(.int (9 : Int32))] h0 (fun v h L => v = some (.int (1 : Int32)) ∧ L = [] ∧ h = h0) := by
  refine Ctr.mk (plainFor_of_name pn_2) fun p e s m below meth c T0 X0 C e0 => go_cast (ef_rm14_9 m (9 : Int32)) ?_
  have N0 := Fr.nil n0
  obtain ⟨hx, hZ, hby, hml, hown, hnm, hret, hlk⟩ := C
  show Go _ _ _ _ _ _ _ T0 (mkF m 0 #[.val (.int (9 : Int32))] [])
  refine Go.step (fun tt kk => XS.iloadN X0.here hx rfl (hb hby d14_0) rfl kk) ?_
  show Go _ _ _ _ _ _ _ T0 (mkF m 1 _ [(.int (9 : Int32))])
  refine Go.step (fun tt kk => XS.ifNo X0.here hx rfl (hb hby d14_1) rfl ((if0 _ _).trans (flt (by decide)).1) kk) ?_
  show Go _ _ _ _ _ _ _ T0 (mkF m 4 _ [])
  refine Go.step (fun tt kk => XS.iloadN X0.here hx rfl (hb hby d14_4) rfl kk) ?_
  show Go _ _ _ _ _ _ _ T0 (mkF m 5 _ [(.int (9 : Int32))])
  refine Go.step (fun tt kk => XS.sipush X0.here hx rfl (hb hby d14_5) kk) ?_
  show Go _ _ _ _ _ _ _ T0 (mkF m 8 _ [(.int (255 : Int32)), (.int (9 : Int32))])
  refine Go.step (fun tt kk => XS.icmpNo X0.here hx rfl (hb hby d14_8) rfl (flt (by decide)).2.2.1 kk) ?_
  show Go _ _ _ _ _ _ _ T0 (mkF m 11 _ [])
  refine Go.step (fun tt kk => XS.iconst X0.here hx rfl (hb hby d14_11) kk) ?_
  show Go _ _ _ _ _ _ _ T0 (mkF m 12 _ [(.int (1 : Int32))])
  refine Go.step (fun tt kk => XS.goto X0.here hx rfl (pc0 := 12) (pc' := 16) rfl (hb hby d14_12) (by decide) (by decide) kk) ?_
  show Go _ _ _ _ _ _ _ T0 (mkF m 16 _ [(.int (1 : Int32))])
  refine go_retN X0 hx (t := .boolean) hret (by simp) hlk (hb hby d14_16) (w := (1 : Int32)) rfl ?_ (by decide) (by decide)
  try rw [e0]
  exact ⟨rfl, rfl, rfl⟩
theorem ef_rm17_32 (m : MethodId) (x0 : Addr) (x1 : Int32) (x2 : Int32) (x3 : Int32) : entryFrame m #[(.ref x0), (.int x1), (.int x2), (.int x3)] 6 = mkF m 0 #[.val (.ref x0), .val (.int x1), .val (.int x2), .val (.int x3), .unset, .unset] [] := by first | (simp [entryFrame, mkF, argsToLocals, Value.category]; done) | rfl
theorem d17_0 : decode jdk_43_method_23_code 0 = .ok (.iload_n 1, 1) := by decide +kernel
theorem d17_1 : decode jdk_43_method_23_code 1 = .ok (.i2b, 1) := by decide +kernel
theorem d17_2 : decode jdk_43_method_23_code 2 = .ok (.istore 4, 2) := by decide +kernel
theorem d17_4 : decode jdk_43_method_23_code 4 = .ok (.iload_n 2, 1) := by decide +kernel
theorem d17_5 : decode jdk_43_method_23_code 5 = .ok (.istore 5, 2) := by decide +kernel
theorem d17_7 : decode jdk_43_method_23_code 7 = .ok (.iload 5, 2) := by decide +kernel
theorem d17_9 : decode jdk_43_method_23_code 9 = .ok (.iload_n 3, 1) := by decide +kernel
theorem d17_10 : decode jdk_43_method_23_code 10 = .ok (.if_icmp .ge 21, 3) := by decide +kernel
theorem d17_13 : decode jdk_43_method_23_code 13 = .ok (.aload_n 0, 1) := by decide +kernel
theorem d17_14 : decode jdk_43_method_23_code 14 = .ok (.iload 5, 2) := by decide +kernel
theorem d17_16 : decode jdk_43_method_23_code 16 = .ok (.baload, 1) := by decide +kernel
theorem d17_17 : decode jdk_43_method_23_code 17 = .ok (.iload 4, 2) := by decide +kernel
theorem d17_19 : decode jdk_43_method_23_code 19 = .ok (.if_icmp .ne 6, 3) := by decide +kernel
theorem d17_22 : decode jdk_43_method_23_code 22 = .ok (.iload 5, 2) := by decide +kernel
theorem d17_24 : decode jdk_43_method_23_code 24 = .ok (.ireturn, 1) := by decide +kernel
theorem d17_25 : decode jdk_43_method_23_code 25 = .ok (.iinc 5 1, 3) := by decide +kernel
theorem d17_28 : decode jdk_43_method_23_code 28 = .ok (.goto (-21), 3) := by decide +kernel
theorem d17_31 : decode jdk_43_method_23_code 31 = .ok (.iconst (-1), 1) := by decide +kernel
theorem d17_32 : decode jdk_43_method_23_code 32 = .ok (.ireturn, 1) := by decide +kernel
set_option maxRecDepth 65536 in
set_option maxHeartbeats 40000000 in
theorem rm17_32 (l : Launch) (Z : State) (a0 : Array Value) (hw : ∀ d ∈ tables_1, d.before a0 Z = true) (ws : List Jvm.Cond) (b : Addr) (ch : Int32) (h0 : Heap) (n0 : Nat) (Z0 : n0 ≤ h0.size) (V_b : AV Z h0 b .byte 1 (lst [(.int (ch.toInt8.toInt32))])) :
    Ctr l Z (⟨"java/lang/StringLatin1", "indexOfChar", "([BIII)I"⟩ : MethodName) jdk_43_method_23_code 6 (some .int) ws ({ frames := 0, cells := 0, slots := 0, locals := 0 } : Room) 0 0 #[(.ref b), (.int (32 : Int32)), (.int (0 : Int32)), (.int (1 : Int32))] h0 (fun v h L => v = some (.int (ix (ch.toInt8.toInt32 = (32 : Int32).toInt8.toInt32))) ∧ L = [] ∧ h = h0) := by
  refine Ctr.mk (plainFor_of_name pn_2) fun p e s m below meth c T0 X0 C e0 => go_cast (ef_rm17_32 m b (32 : Int32) (0 : Int32) (1 : Int32)) ?_
  have N0 := Fr.nil n0
  obtain ⟨hx, hZ, hby, hml, hown, hnm, hret, hlk⟩ := C
  show Go _ _ _ _ _ _ _ T0 (mkF m 0 #[.val (.ref b), .val (.int (32 : Int32)), .val (.int (0 : Int32)), .val (.int (1 : Int32)), .unset, .unset] [])
  refine Go.step (fun tt kk => XS.iloadN X0.here hx rfl (hb hby d17_0) rfl kk) ?_
  show Go _ _ _ _ _ _ _ T0 (mkF m 1 _ [(.int (32 : Int32))])
  refine Go.step (fun tt kk => XS.i2b X0.here hx rfl (hb hby d17_1) rfl kk) ?_
  show Go _ _ _ _ _ _ _ T0 (mkF m 2 _ [(.int ((32 : Int32).toInt8.toInt32))])
  refine Go.step (fun tt kk => XS.istore X0.here hx rfl (hb hby d17_2) rfl (l' := #[.val (.ref b), .val (.int (32 : Int32)), .val (.int (0 : Int32)), .val (.int (1 : Int32)), .val (.int ((32 : Int32).toInt8.toInt32)), .unset]) rfl kk) ?_
  show Go _ _ _ _ _ _ _ T0 (mkF m 4 _ [])
  refine Go.step (fun tt kk => XS.iloadN X0.here hx rfl (hb hby d17_4) rfl kk) ?_
  show Go _ _ _ _ _ _ _ T0 (mkF m 5 _ [(.int (0 : Int32))])
  refine Go.step (fun tt kk => XS.istore X0.here hx rfl (hb hby d17_5) rfl (l' := #[.val (.ref b), .val (.int (32 : Int32)), .val (.int (0 : Int32)), .val (.int (1 : Int32)), .val (.int ((32 : Int32).toInt8.toInt32)), .val (.int (0 : Int32))]) rfl kk) ?_
  show Go _ _ _ _ _ _ _ T0 (mkF m 7 _ [])
  refine Go.step (fun tt kk => XS.iload X0.here hx rfl (hb hby d17_7) rfl kk) ?_
  show Go _ _ _ _ _ _ _ T0 (mkF m 9 _ [(.int (0 : Int32))])
  refine Go.step (fun tt kk => XS.iloadN X0.here hx rfl (hb hby d17_9) rfl kk) ?_
  show Go _ _ _ _ _ _ _ T0 (mkF m 10 _ [(.int (1 : Int32)), (.int (0 : Int32))])
  refine Go.step (fun tt kk => XS.icmpNo X0.here hx rfl (hb hby d17_10) rfl (tlt (by decide)).2.1 kk) ?_
  show Go _ _ _ _ _ _ _ T0 (mkF m 13 _ [])
  refine Go.step (fun tt kk => XS.aloadN X0.here hx rfl (hb hby d17_13) rfl rfl kk) ?_
  show Go _ _ _ _ _ _ _ T0 (mkF m 14 _ [(.ref b)])
  refine Go.step (fun tt kk => XS.iload X0.here hx rfl (hb hby d17_14) rfl kk) ?_
  show Go _ _ _ _ _ _ _ T0 (mkF m 16 _ [(.int (0 : Int32)), (.ref b)])
  refine Go.step (a_bload X0 hx hZ e0 V_b (k := 0) (by decide) (by decide) (x := (ch.toInt8.toInt32)) rfl (hb hby d17_16)) ?_
  show Go _ _ _ _ _ _ _ T0 (mkF m 17 _ [(.int (ch.toInt8.toInt32))])
  refine Go.step (fun tt kk => XS.iload X0.here hx rfl (hb hby d17_17) rfl kk) ?_
  show Go _ _ _ _ _ _ _ T0 (mkF m 19 _ [(.int ((32 : Int32).toInt8.toInt32)), (.int (ch.toInt8.toInt32))])
  by_cases c19_1 : (ch.toInt8.toInt32) = ((32 : Int32).toInt8.toInt32)
  · refine Go.step (fun tt kk => XS.icmpNo X0.here hx rfl (hb hby d17_19) rfl (teq c19_1).2 kk) ?_
    show Go _ _ _ _ _ _ _ T0 (mkF m 22 _ [])
    refine Go.step (fun tt kk => XS.iload X0.here hx rfl (hb hby d17_22) rfl kk) ?_
    show Go _ _ _ _ _ _ _ T0 (mkF m 24 _ [(.int (0 : Int32))])
    refine go_retI X0 hx hret hlk (hb hby d17_24) ?_ (by decide) (by decide)
    try rw [e0]
    exact ⟨congrArg (fun z => some (Value.int z)) (if_pos c19_1).symm, rfl, rfl⟩
  · refine Go.step (fun tt kk => XS.icmpYes X0.here hx rfl (pc0 := 19) (pc' := 25) rfl (hb hby d17_19) rfl (feq c19_1).2 (by decide) (by decide) kk) ?_
    show Go _ _ _ _ _ _ _ T0 (mkF m 25 _ [])
    refine Go.step (fun tt kk => XS.iinc X0.here hx rfl (hb hby d17_25) rfl (l' := #[.val (.ref b), .val (.int (32 : Int32)), .val (.int (0 : Int32)), .val (.int (1 : Int32)), .val (.int ((32 : Int32).toInt8.toInt32)), .val (.int (1 : Int32))]) rfl kk) ?_
    show Go _ _ _ _ _ _ _ T0 (mkF m 28 _ [])
    refine Go.step (fun tt kk => XS.goto X0.here hx rfl (pc0 := 28) (pc' := 7) rfl (hb hby d17_28) (by decide) (by decide) kk) ?_
    show Go _ _ _ _ _ _ _ T0 (mkF m 7 _ [])
    refine Go.step (fun tt kk => XS.iload X0.here hx rfl (hb hby d17_7) rfl kk) ?_
    show Go _ _ _ _ _ _ _ T0 (mkF m 9 _ [(.int (1 : Int32))])
    refine Go.step (fun tt kk => XS.iloadN X0.here hx rfl (hb hby d17_9) rfl kk) ?_
    show Go _ _ _ _ _ _ _ T0 (mkF m 10 _ [(.int (1 : Int32)), (.int (1 : Int32))])
    refine Go.step (fun tt kk => XS.icmpYes X0.here hx rfl (pc0 := 10) (pc' := 31) rfl (hb hby d17_10) rfl (flt (by decide)).2.1 (by decide) (by decide) kk) ?_
    show Go _ _ _ _ _ _ _ T0 (mkF m 31 _ [])
    refine Go.step (fun tt kk => XS.iconst X0.here hx rfl (hb hby d17_31) kk) ?_
    show Go _ _ _ _ _ _ _ T0 (mkF m 32 _ [(.int (-1 : Int32))])
    refine go_retI X0 hx hret hlk (hb hby d17_32) ?_ (by decide) (by decide)
    try rw [e0]
    exact ⟨congrArg (fun z => some (Value.int z)) (if_neg c19_1).symm, rfl, rfl⟩
theorem ef_rm17_9 (m : MethodId) (x0 : Addr) (x1 : Int32) (x2 : Int32) (x3 : Int32) : entryFrame m #[(.ref x0), (.int x1), (.int x2), (.int x3)] 6 = mkF m 0 #[.val (.ref x0), .val (.int x1), .val (.int x2), .val (.int x3), .unset, .unset] [] := by first | (simp [entryFrame, mkF, argsToLocals, Value.category]; done) | rfl
set_option maxRecDepth 65536 in
set_option maxHeartbeats 40000000 in
theorem rm17_9 (l : Launch) (Z : State) (a0 : Array Value) (hw : ∀ d ∈ tables_1, d.before a0 Z = true) (ws : List Jvm.Cond) (b : Addr) (ch : Int32) (h0 : Heap) (n0 : Nat) (Z0 : n0 ≤ h0.size) (V_b : AV Z h0 b .byte 1 (lst [(.int (ch.toInt8.toInt32))])) :
    Ctr l Z (⟨"java/lang/StringLatin1", "indexOfChar", "([BIII)I"⟩ : MethodName) jdk_43_method_23_code 6 (some .int) ws ({ frames := 0, cells := 0, slots := 0, locals := 0 } : Room) 0 0 #[(.ref b), (.int (9 : Int32)), (.int (0 : Int32)), (.int (1 : Int32))] h0 (fun v h L => v = some (.int (ix (ch.toInt8.toInt32 = (9 : Int32).toInt8.toInt32))) ∧ L = [] ∧ h = h0) := by
  refine Ctr.mk (plainFor_of_name pn_2) fun p e s m below meth c T0 X0 C e0 => go_cast (ef_rm17_9 m b (9 : Int32) (0 : Int32) (1 : Int32)) ?_
  have N0 := Fr.nil n0
  obtain ⟨hx, hZ, hby, hml, hown, hnm, hret, hlk⟩ := C
  show Go _ _ _ _ _ _ _ T0 (mkF m 0 #[.val (.ref b), .val (.int (9 : Int32)), .val (.int (0 : Int32)), .val (.int (1 : Int32)), .unset, .unset] [])
  refine Go.step (fun tt kk => XS.iloadN X0.here hx rfl (hb hby d17_0) rfl kk) ?_
  show Go _ _ _ _ _ _ _ T0 (mkF m 1 _ [(.int (9 : Int32))])
  refine Go.step (fun tt kk => XS.i2b X0.here hx rfl (hb hby d17_1) rfl kk) ?_
  show Go _ _ _ _ _ _ _ T0 (mkF m 2 _ [(.int ((9 : Int32).toInt8.toInt32))])
  refine Go.step (fun tt kk => XS.istore X0.here hx rfl (hb hby d17_2) rfl (l' := #[.val (.ref b), .val (.int (9 : Int32)), .val (.int (0 : Int32)), .val (.int (1 : Int32)), .val (.int ((9 : Int32).toInt8.toInt32)), .unset]) rfl kk) ?_
  show Go _ _ _ _ _ _ _ T0 (mkF m 4 _ [])
  refine Go.step (fun tt kk => XS.iloadN X0.here hx rfl (hb hby d17_4) rfl kk) ?_
  show Go _ _ _ _ _ _ _ T0 (mkF m 5 _ [(.int (0 : Int32))])
  refine Go.step (fun tt kk => XS.istore X0.here hx rfl (hb hby d17_5) rfl (l' := #[.val (.ref b), .val (.int (9 : Int32)), .val (.int (0 : Int32)), .val (.int (1 : Int32)), .val (.int ((9 : Int32).toInt8.toInt32)), .val (.int (0 : Int32))]) rfl kk) ?_
  show Go _ _ _ _ _ _ _ T0 (mkF m 7 _ [])
  refine Go.step (fun tt kk => XS.iload X0.here hx rfl (hb hby d17_7) rfl kk) ?_
  show Go _ _ _ _ _ _ _ T0 (mkF m 9 _ [(.int (0 : Int32))])
  refine Go.step (fun tt kk => XS.iloadN X0.here hx rfl (hb hby d17_9) rfl kk) ?_
  show Go _ _ _ _ _ _ _ T0 (mkF m 10 _ [(.int (1 : Int32)), (.int (0 : Int32))])
  refine Go.step (fun tt kk => XS.icmpNo X0.here hx rfl (hb hby d17_10) rfl (tlt (by decide)).2.1 kk) ?_
  show Go _ _ _ _ _ _ _ T0 (mkF m 13 _ [])
  refine Go.step (fun tt kk => XS.aloadN X0.here hx rfl (hb hby d17_13) rfl rfl kk) ?_
  show Go _ _ _ _ _ _ _ T0 (mkF m 14 _ [(.ref b)])
  refine Go.step (fun tt kk => XS.iload X0.here hx rfl (hb hby d17_14) rfl kk) ?_
  show Go _ _ _ _ _ _ _ T0 (mkF m 16 _ [(.int (0 : Int32)), (.ref b)])
  refine Go.step (a_bload X0 hx hZ e0 V_b (k := 0) (by decide) (by decide) (x := (ch.toInt8.toInt32)) rfl (hb hby d17_16)) ?_
  show Go _ _ _ _ _ _ _ T0 (mkF m 17 _ [(.int (ch.toInt8.toInt32))])
  refine Go.step (fun tt kk => XS.iload X0.here hx rfl (hb hby d17_17) rfl kk) ?_
  show Go _ _ _ _ _ _ _ T0 (mkF m 19 _ [(.int ((9 : Int32).toInt8.toInt32)), (.int (ch.toInt8.toInt32))])
  by_cases c19_1 : (ch.toInt8.toInt32) = ((9 : Int32).toInt8.toInt32)
  · refine Go.step (fun tt kk => XS.icmpNo X0.here hx rfl (hb hby d17_19) rfl (teq c19_1).2 kk) ?_
    show Go _ _ _ _ _ _ _ T0 (mkF m 22 _ [])
    refine Go.step (fun tt kk => XS.iload X0.here hx rfl (hb hby d17_22) rfl kk) ?_
    show Go _ _ _ _ _ _ _ T0 (mkF m 24 _ [(.int (0 : Int32))])
    refine go_retI X0 hx hret hlk (hb hby d17_24) ?_ (by decide) (by decide)
    try rw [e0]
    exact ⟨congrArg (fun z => some (Value.int z)) (if_pos c19_1).symm, rfl, rfl⟩
  · refine Go.step (fun tt kk => XS.icmpYes X0.here hx rfl (pc0 := 19) (pc' := 25) rfl (hb hby d17_19) rfl (feq c19_1).2 (by decide) (by decide) kk) ?_
    show Go _ _ _ _ _ _ _ T0 (mkF m 25 _ [])
    refine Go.step (fun tt kk => XS.iinc X0.here hx rfl (hb hby d17_25) rfl (l' := #[.val (.ref b), .val (.int (9 : Int32)), .val (.int (0 : Int32)), .val (.int (1 : Int32)), .val (.int ((9 : Int32).toInt8.toInt32)), .val (.int (1 : Int32))]) rfl kk) ?_
    show Go _ _ _ _ _ _ _ T0 (mkF m 28 _ [])
    refine Go.step (fun tt kk => XS.goto X0.here hx rfl (pc0 := 28) (pc' := 7) rfl (hb hby d17_28) (by decide) (by decide) kk) ?_
    show Go _ _ _ _ _ _ _ T0 (mkF m 7 _ [])
    refine Go.step (fun tt kk => XS.iload X0.here hx rfl (hb hby d17_7) rfl kk) ?_
    show Go _ _ _ _ _ _ _ T0 (mkF m 9 _ [(.int (1 : Int32))])
    refine Go.step (fun tt kk => XS.iloadN X0.here hx rfl (hb hby d17_9) rfl kk) ?_
    show Go _ _ _ _ _ _ _ T0 (mkF m 10 _ [(.int (1 : Int32)), (.int (1 : Int32))])
    refine Go.step (fun tt kk => XS.icmpYes X0.here hx rfl (pc0 := 10) (pc' := 31) rfl (hb hby d17_10) rfl (flt (by decide)).2.1 (by decide) (by decide) kk) ?_
    show Go _ _ _ _ _ _ _ T0 (mkF m 31 _ [])
    refine Go.step (fun tt kk => XS.iconst X0.here hx rfl (hb hby d17_31) kk) ?_
    show Go _ _ _ _ _ _ _ T0 (mkF m 32 _ [(.int (-1 : Int32))])
    refine go_retI X0 hx hret hlk (hb hby d17_32) ?_ (by decide) (by decide)
    try rw [e0]
    exact ⟨congrArg (fun z => some (Value.int z)) (if_neg c19_1).symm, rfl, rfl⟩
theorem ef_rm13_32 (m : MethodId) (x0 : Addr) (x1 : Int32) (x2 : Int32) (x3 : Int32) : entryFrame m #[(.ref x0), (.int x1), (.int x2), (.int x3)] 4 = mkF m 0 #[.val (.ref x0), .val (.int x1), .val (.int x2), .val (.int x3)] [] := by first | (simp [entryFrame, mkF, argsToLocals, Value.category]; done) | rfl
theorem d13_0 : decode jdk_43_method_22_code 0 = .ok (.iload_n 1, 1) := by decide +kernel
theorem pd_9 : parseMethodDescriptor "(I)Z" = some ⟨[.int], some .boolean⟩ := by decide +kernel
theorem d13_1 : decode jdk_43_method_22_code 1 = .ok (.invokestatic 88, 3) := by decide +kernel
theorem d13_4 : decode jdk_43_method_22_code 4 = .ok (.ifCond .ne 5, 3) := by decide +kernel
theorem d13_9 : decode jdk_43_method_22_code 9 = .ok (.iload_n 2, 1) := by decide +kernel
theorem d13_10 : decode jdk_43_method_22_code 10 = .ok (.iconst 0, 1) := by decide +kernel
theorem pd_10 : parseMethodDescriptor "(II)I" = some ⟨[.int, .int], some .int⟩ := by decide +kernel
theorem d13_11 : decode jdk_43_method_22_code 11 = .ok (.invokestatic 92, 3) := by decide +kernel
theorem d13_14 : decode jdk_43_method_22_code 14 = .ok (.istore_n 2, 1) := by decide +kernel
theorem d13_15 : decode jdk_43_method_22_code 15 = .ok (.iload_n 3, 1) := by decide +kernel
theorem d13_16 : decode jdk_43_method_22_code 16 = .ok (.aload_n 0, 1) := by decide +kernel
theorem d13_17 : decode jdk_43_method_22_code 17 = .ok (.arraylength, 1) := by decide +kernel
theorem d13_18 : decode jdk_43_method_22_code 18 = .ok (.invokestatic 38, 3) := by decide +kernel
theorem d13_21 : decode jdk_43_method_22_code 21 = .ok (.istore_n 3, 1) := by decide +kernel
theorem d13_22 : decode jdk_43_method_22_code 22 = .ok (.iload_n 2, 1) := by decide +kernel
theorem d13_23 : decode jdk_43_method_22_code 23 = .ok (.iload_n 3, 1) := by decide +kernel
theorem d13_24 : decode jdk_43_method_22_code 24 = .ok (.if_icmp .lt 5, 3) := by decide +kernel
theorem d13_29 : decode jdk_43_method_22_code 29 = .ok (.aload_n 0, 1) := by decide +kernel
theorem d13_30 : decode jdk_43_method_22_code 30 = .ok (.iload_n 1, 1) := by decide +kernel
theorem d13_31 : decode jdk_43_method_22_code 31 = .ok (.iload_n 2, 1) := by decide +kernel
theorem d13_32 : decode jdk_43_method_22_code 32 = .ok (.iload_n 3, 1) := by decide +kernel
theorem pd_11 : parseMethodDescriptor "([BIII)I" = some ⟨[(.array .byte), .int, .int, .int], some .int⟩ := by decide +kernel
theorem d13_33 : decode jdk_43_method_22_code 33 = .ok (.invokestatic 95, 3) := by decide +kernel
theorem d13_36 : decode jdk_43_method_22_code 36 = .ok (.ireturn, 1) := by decide +kernel
set_option maxRecDepth 65536 in
set_option maxHeartbeats 40000000 in
theorem rm13_32 (l : Launch) (Z : State) (a0 : Array Value) (hw : ∀ d ∈ tables_1, d.before a0 Z = true) (ws : List Jvm.Cond) (b : Addr) (ch : Int32) (h0 : Heap) (n0 : Nat) (Z0 : n0 ≤ h0.size) (V_b : AV Z h0 b .byte 1 (lst [(.int (ch.toInt8.toInt32))])) :
    Ctr l Z (⟨"java/lang/StringLatin1", "indexOf", "([BIII)I"⟩ : MethodName) jdk_43_method_22_code 4 (some .int) ws ({ frames := 1, cells := 0, slots := 0, locals := 17 } : Room) 0 0 #[(.ref b), (.int (32 : Int32)), (.int (0 : Int32)), (.int (1 : Int32))] h0 (fun v h L => v = some (.int (ix (ch.toInt8.toInt32 = (32 : Int32).toInt8.toInt32))) ∧ L = [] ∧ h = h0) := by
  refine Ctr.mk (plainFor_of_name pn_2) fun p e s m below meth c T0 X0 C e0 => go_cast (ef_rm13_32 m b (32 : Int32) (0 : Int32) (1 : Int32)) ?_
  have N0 := Fr.nil n0
  obtain ⟨hx, hZ, hby, hml, hown, hnm, hret, hlk⟩ := C
  show Go _ _ _ _ _ _ _ T0 (mkF m 0 #[.val (.ref b), .val (.int (32 : Int32)), .val (.int (0 : Int32)), .val (.int (1 : Int32))] [])
  refine Go.step (fun tt kk => XS.iloadN X0.here hx rfl (hb hby d13_0) rfl kk) ?_
  show Go _ _ _ _ _ _ _ T0 (mkF m 1 _ [(.int (32 : Int32))])
  obtain ⟨v1, T1, L1, X1, q1, st1⟩ := c_static X0 hx hZ hown (y := (⟨"java/lang/StringLatin1", "canEncode", "(I)Z"⟩ : MethodName)) (hw _ (List.mem_of_getElem? (i := 62) rfl)) (hw _ (List.mem_of_getElem? (i := 63) rfl)) (hw _ (List.mem_of_getElem? (i := 60) rfl)) (hw _ (List.mem_of_getElem? (i := 64) rfl)) (by decide) (argsL := [(.int (32 : Int32))]) (rest := []) (rm14_32 l Z a0 hw [] h0 n0 Z0) e0 pd_9 rfl (by rw [hml]; rfl) (W := 0) (by show 2 * 0 + _ ≤ _; exact Nat.le_of_eq rfl) (by decide) (by decide) (by decide) (by decide) (hb hby d13_1) (Ls := #[.val (.ref b), .val (.int (32 : Int32)), .val (.int (0 : Int32)), .val (.int (1 : Int32))])
  obtain ⟨rfl, rfl, e1⟩ := q1
  have N1 := Fr.app N0 (Fr.nil n0)
  refine Go.step (st1) ?_
  show Go _ _ _ _ _ _ _ T1 (mkF m 4 _ [(.int (1 : Int32))])
  refine Go.step (fun tt kk => XS.ifYes X1.here hx rfl (pc0 := 4) (pc' := 9) rfl (hb hby d13_4) rfl ((if0 _ _).trans (feq (by decide)).2) (by decide) (by decide) kk) ?_
  show Go _ _ _ _ _ _ _ T1 (mkF m 9 _ [])
  refine Go.step (fun tt kk => XS.iloadN X1.here hx rfl (hb hby d13_9) rfl kk) ?_
  show Go _ _ _ _ _ _ _ T1 (mkF m 10 _ [(.int (0 : Int32))])
  refine Go.step (fun tt kk => XS.iconst X1.here hx rfl (hb hby d13_10) kk) ?_
  show Go _ _ _ _ _ _ _ T1 (mkF m 11 _ [(.int (0 : Int32)), (.int (0 : Int32))])
  obtain ⟨v2, T2, L2, X2, q2, st2⟩ := c_static X1 hx hZ hown (y := (⟨"java/lang/Math", "max", "(II)I"⟩ : MethodName)) (hw _ (List.mem_of_getElem? (i := 65) rfl)) (hw _ (List.mem_of_getElem? (i := 66) rfl)) (hw _ (List.mem_of_getElem? (i := 67) rfl)) (hw _ (List.mem_of_getElem? (i := 68) rfl)) (by decide) (argsL := [(.int (0 : Int32)), (.int (0 : Int32))]) (rest := []) (rmmx l Z a0 hw [] (0 : Int32) (0 : Int32) h0 n0 Z0) e1 pd_10 rfl (by rw [hml]; rfl) (W := 0) (by show 2 * 0 + _ ≤ _; exact Nat.le_of_eq rfl) (by decide) (by decide) (by decide) (by decide) (hb hby d13_11) (Ls := #[.val (.ref b), .val (.int (32 : Int32)), .val (.int (0 : Int32)), .val (.int (1 : Int32))])
  obtain ⟨rfl, rfl, e2⟩ := q2
  have N2 := Fr.app N1 (Fr.nil n0)
  refine Go.step (st2) ?_
  show Go _ _ _ _ _ _ _ T2 (mkF m 14 _ [(.int (mx (0 : Int32) (0 : Int32)))])
  rw [show (mx (0 : Int32) (0 : Int32)) = (0 : Int32) by decide]
  show Go _ _ _ _ _ _ _ T2 (mkF m 14 #[.val (.ref b), .val (.int (32 : Int32)), .val (.int (0 : Int32)), .val (.int (1 : Int32))] [(.int (0 : Int32))])
  refine Go.step (fun tt kk => XS.istoreN X2.here hx rfl (hb hby d13_14) rfl (l' := #[.val (.ref b), .val (.int (32 : Int32)), .val (.int (0 : Int32)), .val (.int (1 : Int32))]) rfl kk) ?_
  show Go _ _ _ _ _ _ _ T2 (mkF m 15 _ [])
  refine Go.step (fun tt kk => XS.iloadN X2.here hx rfl (hb hby d13_15) rfl kk) ?_
  show Go _ _ _ _ _ _ _ T2 (mkF m 16 _ [(.int (1 : Int32))])
  refine Go.step (fun tt kk => XS.aloadN X2.here hx rfl (hb hby d13_16) rfl rfl kk) ?_
  show Go _ _ _ _ _ _ _ T2 (mkF m 17 _ [(.ref b), (.int (1 : Int32))])
  refine Go.step (a_len X2 hx hZ e2 V_b (z := (1 : Int32)) (by decide) (hb hby d13_17)) ?_
  show Go _ _ _ _ _ _ _ T2 (mkF m 18 _ [(.int (1 : Int32)), (.int (1 : Int32))])
  obtain ⟨v3, T3, L3, X3, q3, st3⟩ := c_static X2 hx hZ hown (y := (⟨"java/lang/Math", "min", "(II)I"⟩ : MethodName)) (hw _ (List.mem_of_getElem? (i := 69) rfl)) (hw _ (List.mem_of_getElem? (i := 70) rfl)) (hw _ (List.mem_of_getElem? (i := 67) rfl)) (hw _ (List.mem_of_getElem? (i := 71) rfl)) (by decide) (argsL := [(.int (1 : Int32)), (.int (1 : Int32))]) (rest := []) (rmmn l Z a0 hw [] (1 : Int32) (1 : Int32) h0 n0 Z0) e2 pd_10 rfl (by rw [hml]; rfl) (W := 0) (by show 2 * 0 + _ ≤ _; exact Nat.le_of_eq rfl) (by decide) (by decide) (by decide) (by decide) (hb hby d13_18) (Ls := #[.val (.ref b), .val (.int (32 : Int32)), .val (.int (0 : Int32)), .val (.int (1 : Int32))])
  obtain ⟨rfl, rfl, e3⟩ := q3
  have N3 := Fr.app N2 (Fr.nil n0)
  refine Go.step (st3) ?_
  show Go _ _ _ _ _ _ _ T3 (mkF m 21 _ [(.int (mn (1 : Int32) (1 : Int32)))])
  rw [show (mn (1 : Int32) (1 : Int32)) = (1 : Int32) by decide]
  show Go _ _ _ _ _ _ _ T3 (mkF m 21 #[.val (.ref b), .val (.int (32 : Int32)), .val (.int (0 : Int32)), .val (.int (1 : Int32))] [(.int (1 : Int32))])
  refine Go.step (fun tt kk => XS.istoreN X3.here hx rfl (hb hby d13_21) rfl (l' := #[.val (.ref b), .val (.int (32 : Int32)), .val (.int (0 : Int32)), .val (.int (1 : Int32))]) rfl kk) ?_
  show Go _ _ _ _ _ _ _ T3 (mkF m 22 _ [])
  refine Go.step (fun tt kk => XS.iloadN X3.here hx rfl (hb hby d13_22) rfl kk) ?_
  show Go _ _ _ _ _ _ _ T3 (mkF m 23 _ [(.int (0 : Int32))])
  refine Go.step (fun tt kk => XS.iloadN X3.here hx rfl (hb hby d13_23) rfl kk) ?_
  show Go _ _ _ _ _ _ _ T3 (mkF m 24 _ [(.int (1 : Int32)), (.int (0 : Int32))])
  refine Go.step (fun tt kk => XS.icmpYes X3.here hx rfl (pc0 := 24) (pc' := 29) rfl (hb hby d13_24) rfl (tlt (by decide)).1 (by decide) (by decide) kk) ?_
  show Go _ _ _ _ _ _ _ T3 (mkF m 29 _ [])
  refine Go.step (fun tt kk => XS.aloadN X3.here hx rfl (hb hby d13_29) rfl rfl kk) ?_
  show Go _ _ _ _ _ _ _ T3 (mkF m 30 _ [(.ref b)])
  refine Go.step (fun tt kk => XS.iloadN X3.here hx rfl (hb hby d13_30) rfl kk) ?_
  show Go _ _ _ _ _ _ _ T3 (mkF m 31 _ [(.int (32 : Int32)), (.ref b)])
  refine Go.step (fun tt kk => XS.iloadN X3.here hx rfl (hb hby d13_31) rfl kk) ?_
  show Go _ _ _ _ _ _ _ T3 (mkF m 32 _ [(.int (0 : Int32)), (.int (32 : Int32)), (.ref b)])
  refine Go.step (fun tt kk => XS.iloadN X3.here hx rfl (hb hby d13_32) rfl kk) ?_
  show Go _ _ _ _ _ _ _ T3 (mkF m 33 _ [(.int (1 : Int32)), (.int (0 : Int32)), (.int (32 : Int32)), (.ref b)])
  obtain ⟨v4, T4, L4, X4, q4, st4⟩ := c_static X3 hx hZ hown (y := (⟨"java/lang/StringLatin1", "indexOfChar", "([BIII)I"⟩ : MethodName)) (hw _ (List.mem_of_getElem? (i := 72) rfl)) (hw _ (List.mem_of_getElem? (i := 73) rfl)) (hw _ (List.mem_of_getElem? (i := 60) rfl)) (hw _ (List.mem_of_getElem? (i := 74) rfl)) (by decide) (argsL := [(.ref b), (.int (32 : Int32)), (.int (0 : Int32)), (.int (1 : Int32))]) (rest := []) (rm17_32 l Z a0 hw [] b ch h0 n0 Z0 V_b) e3 pd_11 rfl (by rw [hml]; rfl) (W := 0) (by show 2 * 0 + _ ≤ _; exact Nat.le_of_eq rfl) (by decide) (by decide) (by decide) (by decide) (hb hby d13_33) (Ls := #[.val (.ref b), .val (.int (32 : Int32)), .val (.int (0 : Int32)), .val (.int (1 : Int32))])
  obtain ⟨rfl, rfl, e4⟩ := q4
  have N4 := Fr.app N3 (Fr.nil n0)
  refine Go.step (st4) ?_
  show Go _ _ _ _ _ _ _ T4 (mkF m 36 _ [(.int (ix (ch.toInt8.toInt32 = (32 : Int32).toInt8.toInt32)))])
  refine go_retI X4 hx hret hlk (hb hby d13_36) ?_ (by decide) (by decide)
  try rw [e4]
  exact ⟨rfl, rfl, rfl⟩
theorem ef_rm13_9 (m : MethodId) (x0 : Addr) (x1 : Int32) (x2 : Int32) (x3 : Int32) : entryFrame m #[(.ref x0), (.int x1), (.int x2), (.int x3)] 4 = mkF m 0 #[.val (.ref x0), .val (.int x1), .val (.int x2), .val (.int x3)] [] := by first | (simp [entryFrame, mkF, argsToLocals, Value.category]; done) | rfl
set_option maxRecDepth 65536 in
set_option maxHeartbeats 40000000 in
theorem rm13_9 (l : Launch) (Z : State) (a0 : Array Value) (hw : ∀ d ∈ tables_1, d.before a0 Z = true) (ws : List Jvm.Cond) (b : Addr) (ch : Int32) (h0 : Heap) (n0 : Nat) (Z0 : n0 ≤ h0.size) (V_b : AV Z h0 b .byte 1 (lst [(.int (ch.toInt8.toInt32))])) :
    Ctr l Z (⟨"java/lang/StringLatin1", "indexOf", "([BIII)I"⟩ : MethodName) jdk_43_method_22_code 4 (some .int) ws ({ frames := 1, cells := 0, slots := 0, locals := 17 } : Room) 0 0 #[(.ref b), (.int (9 : Int32)), (.int (0 : Int32)), (.int (1 : Int32))] h0 (fun v h L => v = some (.int (ix (ch.toInt8.toInt32 = (9 : Int32).toInt8.toInt32))) ∧ L = [] ∧ h = h0) := by
  refine Ctr.mk (plainFor_of_name pn_2) fun p e s m below meth c T0 X0 C e0 => go_cast (ef_rm13_9 m b (9 : Int32) (0 : Int32) (1 : Int32)) ?_
  have N0 := Fr.nil n0
  obtain ⟨hx, hZ, hby, hml, hown, hnm, hret, hlk⟩ := C
  show Go _ _ _ _ _ _ _ T0 (mkF m 0 #[.val (.ref b), .val (.int (9 : Int32)), .val (.int (0 : Int32)), .val (.int (1 : Int32))] [])
  refine Go.step (fun tt kk => XS.iloadN X0.here hx rfl (hb hby d13_0) rfl kk) ?_
  show Go _ _ _ _ _ _ _ T0 (mkF m 1 _ [(.int (9 : Int32))])
  obtain ⟨v1, T1, L1, X1, q1, st1⟩ := c_static X0 hx hZ hown (y := (⟨"java/lang/StringLatin1", "canEncode", "(I)Z"⟩ : MethodName)) (hw _ (List.mem_of_getElem? (i := 62) rfl)) (hw _ (List.mem_of_getElem? (i := 63) rfl)) (hw _ (List.mem_of_getElem? (i := 60) rfl)) (hw _ (List.mem_of_getElem? (i := 64) rfl)) (by decide) (argsL := [(.int (9 : Int32))]) (rest := []) (rm14_9 l Z a0 hw [] h0 n0 Z0) e0 pd_9 rfl (by rw [hml]; rfl) (W := 0) (by show 2 * 0 + _ ≤ _; exact Nat.le_of_eq rfl) (by decide) (by decide) (by decide) (by decide) (hb hby d13_1) (Ls := #[.val (.ref b), .val (.int (9 : Int32)), .val (.int (0 : Int32)), .val (.int (1 : Int32))])
  obtain ⟨rfl, rfl, e1⟩ := q1
  have N1 := Fr.app N0 (Fr.nil n0)
  refine Go.step (st1) ?_
  show Go _ _ _ _ _ _ _ T1 (mkF m 4 _ [(.int (1 : Int32))])
  refine Go.step (fun tt kk => XS.ifYes X1.here hx rfl (pc0 := 4) (pc' := 9) rfl (hb hby d13_4) rfl ((if0 _ _).trans (feq (by decide)).2) (by decide) (by decide) kk) ?_
  show Go _ _ _ _ _ _ _ T1 (mkF m 9 _ [])
  refine Go.step (fun tt kk => XS.iloadN X1.here hx rfl (hb hby d13_9) rfl kk) ?_
  show Go _ _ _ _ _ _ _ T1 (mkF m 10 _ [(.int (0 : Int32))])
  refine Go.step (fun tt kk => XS.iconst X1.here hx rfl (hb hby d13_10) kk) ?_
  show Go _ _ _ _ _ _ _ T1 (mkF m 11 _ [(.int (0 : Int32)), (.int (0 : Int32))])
  obtain ⟨v2, T2, L2, X2, q2, st2⟩ := c_static X1 hx hZ hown (y := (⟨"java/lang/Math", "max", "(II)I"⟩ : MethodName)) (hw _ (List.mem_of_getElem? (i := 65) rfl)) (hw _ (List.mem_of_getElem? (i := 66) rfl)) (hw _ (List.mem_of_getElem? (i := 67) rfl)) (hw _ (List.mem_of_getElem? (i := 68) rfl)) (by decide) (argsL := [(.int (0 : Int32)), (.int (0 : Int32))]) (rest := []) (rmmx l Z a0 hw [] (0 : Int32) (0 : Int32) h0 n0 Z0) e1 pd_10 rfl (by rw [hml]; rfl) (W := 0) (by show 2 * 0 + _ ≤ _; exact Nat.le_of_eq rfl) (by decide) (by decide) (by decide) (by decide) (hb hby d13_11) (Ls := #[.val (.ref b), .val (.int (9 : Int32)), .val (.int (0 : Int32)), .val (.int (1 : Int32))])
  obtain ⟨rfl, rfl, e2⟩ := q2
  have N2 := Fr.app N1 (Fr.nil n0)
  refine Go.step (st2) ?_
  show Go _ _ _ _ _ _ _ T2 (mkF m 14 _ [(.int (mx (0 : Int32) (0 : Int32)))])
  rw [show (mx (0 : Int32) (0 : Int32)) = (0 : Int32) by decide]
  show Go _ _ _ _ _ _ _ T2 (mkF m 14 #[.val (.ref b), .val (.int (9 : Int32)), .val (.int (0 : Int32)), .val (.int (1 : Int32))] [(.int (0 : Int32))])
  refine Go.step (fun tt kk => XS.istoreN X2.here hx rfl (hb hby d13_14) rfl (l' := #[.val (.ref b), .val (.int (9 : Int32)), .val (.int (0 : Int32)), .val (.int (1 : Int32))]) rfl kk) ?_
  show Go _ _ _ _ _ _ _ T2 (mkF m 15 _ [])
  refine Go.step (fun tt kk => XS.iloadN X2.here hx rfl (hb hby d13_15) rfl kk) ?_
  show Go _ _ _ _ _ _ _ T2 (mkF m 16 _ [(.int (1 : Int32))])
  refine Go.step (fun tt kk => XS.aloadN X2.here hx rfl (hb hby d13_16) rfl rfl kk) ?_
  show Go _ _ _ _ _ _ _ T2 (mkF m 17 _ [(.ref b), (.int (1 : Int32))])
  refine Go.step (a_len X2 hx hZ e2 V_b (z := (1 : Int32)) (by decide) (hb hby d13_17)) ?_
  show Go _ _ _ _ _ _ _ T2 (mkF m 18 _ [(.int (1 : Int32)), (.int (1 : Int32))])
  obtain ⟨v3, T3, L3, X3, q3, st3⟩ := c_static X2 hx hZ hown (y := (⟨"java/lang/Math", "min", "(II)I"⟩ : MethodName)) (hw _ (List.mem_of_getElem? (i := 69) rfl)) (hw _ (List.mem_of_getElem? (i := 70) rfl)) (hw _ (List.mem_of_getElem? (i := 67) rfl)) (hw _ (List.mem_of_getElem? (i := 71) rfl)) (by decide) (argsL := [(.int (1 : Int32)), (.int (1 : Int32))]) (rest := []) (rmmn l Z a0 hw [] (1 : Int32) (1 : Int32) h0 n0 Z0) e2 pd_10 rfl (by rw [hml]; rfl) (W := 0) (by show 2 * 0 + _ ≤ _; exact Nat.le_of_eq rfl) (by decide) (by decide) (by decide) (by decide) (hb hby d13_18) (Ls := #[.val (.ref b), .val (.int (9 : Int32)), .val (.int (0 : Int32)), .val (.int (1 : Int32))])
  obtain ⟨rfl, rfl, e3⟩ := q3
  have N3 := Fr.app N2 (Fr.nil n0)
  refine Go.step (st3) ?_
  show Go _ _ _ _ _ _ _ T3 (mkF m 21 _ [(.int (mn (1 : Int32) (1 : Int32)))])
  rw [show (mn (1 : Int32) (1 : Int32)) = (1 : Int32) by decide]
  show Go _ _ _ _ _ _ _ T3 (mkF m 21 #[.val (.ref b), .val (.int (9 : Int32)), .val (.int (0 : Int32)), .val (.int (1 : Int32))] [(.int (1 : Int32))])
  refine Go.step (fun tt kk => XS.istoreN X3.here hx rfl (hb hby d13_21) rfl (l' := #[.val (.ref b), .val (.int (9 : Int32)), .val (.int (0 : Int32)), .val (.int (1 : Int32))]) rfl kk) ?_
  show Go _ _ _ _ _ _ _ T3 (mkF m 22 _ [])
  refine Go.step (fun tt kk => XS.iloadN X3.here hx rfl (hb hby d13_22) rfl kk) ?_
  show Go _ _ _ _ _ _ _ T3 (mkF m 23 _ [(.int (0 : Int32))])
  refine Go.step (fun tt kk => XS.iloadN X3.here hx rfl (hb hby d13_23) rfl kk) ?_
  show Go _ _ _ _ _ _ _ T3 (mkF m 24 _ [(.int (1 : Int32)), (.int (0 : Int32))])
  refine Go.step (fun tt kk => XS.icmpYes X3.here hx rfl (pc0 := 24) (pc' := 29) rfl (hb hby d13_24) rfl (tlt (by decide)).1 (by decide) (by decide) kk) ?_
  show Go _ _ _ _ _ _ _ T3 (mkF m 29 _ [])
  refine Go.step (fun tt kk => XS.aloadN X3.here hx rfl (hb hby d13_29) rfl rfl kk) ?_
  show Go _ _ _ _ _ _ _ T3 (mkF m 30 _ [(.ref b)])
  refine Go.step (fun tt kk => XS.iloadN X3.here hx rfl (hb hby d13_30) rfl kk) ?_
  show Go _ _ _ _ _ _ _ T3 (mkF m 31 _ [(.int (9 : Int32)), (.ref b)])
  refine Go.step (fun tt kk => XS.iloadN X3.here hx rfl (hb hby d13_31) rfl kk) ?_
  show Go _ _ _ _ _ _ _ T3 (mkF m 32 _ [(.int (0 : Int32)), (.int (9 : Int32)), (.ref b)])
  refine Go.step (fun tt kk => XS.iloadN X3.here hx rfl (hb hby d13_32) rfl kk) ?_
  show Go _ _ _ _ _ _ _ T3 (mkF m 33 _ [(.int (1 : Int32)), (.int (0 : Int32)), (.int (9 : Int32)), (.ref b)])
  obtain ⟨v4, T4, L4, X4, q4, st4⟩ := c_static X3 hx hZ hown (y := (⟨"java/lang/StringLatin1", "indexOfChar", "([BIII)I"⟩ : MethodName)) (hw _ (List.mem_of_getElem? (i := 72) rfl)) (hw _ (List.mem_of_getElem? (i := 73) rfl)) (hw _ (List.mem_of_getElem? (i := 60) rfl)) (hw _ (List.mem_of_getElem? (i := 74) rfl)) (by decide) (argsL := [(.ref b), (.int (9 : Int32)), (.int (0 : Int32)), (.int (1 : Int32))]) (rest := []) (rm17_9 l Z a0 hw [] b ch h0 n0 Z0 V_b) e3 pd_11 rfl (by rw [hml]; rfl) (W := 0) (by show 2 * 0 + _ ≤ _; exact Nat.le_of_eq rfl) (by decide) (by decide) (by decide) (by decide) (hb hby d13_33) (Ls := #[.val (.ref b), .val (.int (9 : Int32)), .val (.int (0 : Int32)), .val (.int (1 : Int32))])
  obtain ⟨rfl, rfl, e4⟩ := q4
  have N4 := Fr.app N3 (Fr.nil n0)
  refine Go.step (st4) ?_
  show Go _ _ _ _ _ _ _ T4 (mkF m 36 _ [(.int (ix (ch.toInt8.toInt32 = (9 : Int32).toInt8.toInt32)))])
  refine go_retI X4 hx hret hlk (hb hby d13_36) ?_ (by decide) (by decide)
  try rw [e4]
  exact ⟨rfl, rfl, rfl⟩
theorem ef_rm26 (m : MethodId) (x0 : Addr) : entryFrame m #[(.ref x0)] 1 = mkF m 0 #[.val (.ref x0)] [] := by first | (simp [entryFrame, mkF, argsToLocals, Value.category]; done) | rfl
theorem d26_0 : decode jdk_52_method_6_code 0 = .ok (.aload_n 0, 1) := by decide +kernel
theorem d26_1 : decode jdk_52_method_6_code 1 = .ok (.arraylength, 1) := by decide +kernel
theorem d26_2 : decode jdk_52_method_6_code 2 = .ok (.iconst 1, 1) := by decide +kernel
theorem d26_3 : decode jdk_52_method_6_code 3 = .ok (.ishr, 1) := by decide +kernel
theorem d26_4 : decode jdk_52_method_6_code 4 = .ok (.ireturn, 1) := by decide +kernel
set_option maxRecDepth 65536 in
set_option maxHeartbeats 40000000 in
theorem rm26 (l : Launch) (Z : State) (a0 : Array Value) (hw : ∀ d ∈ tables_1, d.before a0 Z = true) (ws : List Jvm.Cond) (b : Addr) (ch : Int32) (h0 : Heap) (n0 : Nat) (Z0 : n0 ≤ h0.size) (V_b : AV Z h0 b .byte 2 (lst [(.int ((ch >>> ((0 : Int32) &&& 31)).toInt8.toInt32)), (.int ((ch >>> ((8 : Int32) &&& 31)).toInt8.toInt32))])) :
    Ctr l Z (⟨"java/lang/StringUTF16", "length", "([B)I"⟩ : MethodName) jdk_52_method_6_code 1 (some .int) ws ({ frames := 0, cells := 0, slots := 0, locals := 0 } : Room) 0 0 #[(.ref b)] h0 (fun v h L => v = some (.int (1 : Int32)) ∧ L = [] ∧ h = h0) := by
  refine Ctr.mk (plainFor_of_name pn_0) fun p e s m below meth c T0 X0 C e0 => go_cast (ef_rm26 m b) ?_
  have N0 := Fr.nil n0
  obtain ⟨hx, hZ, hby, hml, hown, hnm, hret, hlk⟩ := C
  show Go _ _ _ _ _ _ _ T0 (mkF m 0 #[.val (.ref b)] [])
  refine Go.step (fun tt kk => XS.aloadN X0.here hx rfl (hb hby d26_0) rfl rfl kk) ?_
  show Go _ _ _ _ _ _ _ T0 (mkF m 1 _ [(.ref b)])
  refine Go.step (a_len X0 hx hZ e0 V_b (z := (2 : Int32)) (by decide) (hb hby d26_1)) ?_
  show Go _ _ _ _ _ _ _ T0 (mkF m 2 _ [(.int (2 : Int32))])
  refine Go.step (fun tt kk => XS.iconst X0.here hx rfl (hb hby d26_2) kk) ?_
  show Go _ _ _ _ _ _ _ T0 (mkF m 3 _ [(.int (1 : Int32)), (.int (2 : Int32))])
  refine Go.step (fun tt kk => XS.ishr X0.here hx rfl (hb hby d26_3) rfl kk) ?_
  show Go _ _ _ _ _ _ _ T0 (mkF m 4 _ [(.int ((2 : Int32) >>> ((1 : Int32) &&& 31)))])
  refine go_retI X0 hx hret hlk (hb hby d26_4) ?_ (by decide) (by decide)
  try rw [e0]
  exact ⟨congrArg (fun z => some (Value.int z)) (by decide), rfl, rfl⟩
theorem ef_rm28 (m : MethodId) (x0 : Int32) (x1 : Int32) (x2 : Int32) (x3 : Value) (hc3 : x3.category = 1) : entryFrame m #[(.int x0), (.int x1), (.int x2), x3] 4 = mkF m 0 #[.val (.int x0), .val (.int x1), .val (.int x2), .val x3] [] := by (cases x3) <;> simp_all [entryFrame, mkF, argsToLocals, Value.category]
theorem pn_3 : plainName "jdk/internal/util/Preconditions" = true := by first | (simp [plainName, overriddenIn]; done) | decide +kernel
theorem d28_0 : decode jdk_41_method_12_code 0 = .ok (.iload_n 0, 1) := by decide +kernel
theorem d28_1 : decode jdk_41_method_12_code 1 = .ok (.ifCond .lt 13, 3) := by decide +kernel
theorem d28_4 : decode jdk_41_method_12_code 4 = .ok (.iload_n 0, 1) := by decide +kernel
theorem d28_5 : decode jdk_41_method_12_code 5 = .ok (.iload_n 1, 1) := by decide +kernel
theorem d28_6 : decode jdk_41_method_12_code 6 = .ok (.if_icmp .gt 8, 3) := by decide +kernel
theorem d28_9 : decode jdk_41_method_12_code 9 = .ok (.iload_n 1, 1) := by decide +kernel
theorem d28_10 : decode jdk_41_method_12_code 10 = .ok (.iload_n 2, 1) := by decide +kernel
theorem d28_11 : decode jdk_41_method_12_code 11 = .ok (.if_icmp .le 11, 3) := by decide +kernel
theorem d28_22 : decode jdk_41_method_12_code 22 = .ok (.iload_n 0, 1) := by decide +kernel
theorem d28_23 : decode jdk_41_method_12_code 23 = .ok (.ireturn, 1) := by decide +kernel
set_option maxRecDepth 65536 in
set_option maxHeartbeats 40000000 in
theorem rm28 (l : Launch) (Z : State) (a0 : Array Value) (hw : ∀ d ∈ tables_1, d.before a0 Z = true) (ws : List Jvm.Cond) (sf : Value) (h0 : Heap) (n0 : Nat) (Z0 : n0 ≤ h0.size) (hsf : sf.category = 1) :
    Ctr l Z (⟨"jdk/internal/util/Preconditions", "checkFromToIndex", "(IIILjava/util/function/BiFunction;)I"⟩ : MethodName) jdk_41_method_12_code 4 (some .int) ws ({ frames := 0, cells := 0, slots := 0, locals := 0 } : Room) 0 0 #[(.int (0 : Int32)), (.int (1 : Int32)), (.int (1 : Int32)), sf] h0 (fun v h L => v = some (.int (0 : Int32)) ∧ L = [] ∧ h = h0) := by
  refine Ctr.mk (plainFor_of_name pn_3) fun p e s m below meth c T0 X0 C e0 => go_cast (ef_rm28 m (0 : Int32) (1 : Int32) (1 : Int32) sf hsf) ?_
  have N0 := Fr.nil n0
  obtain ⟨hx, hZ, hby, hml, hown, hnm, hret, hlk⟩ := C
  show Go _ _ _ _ _ _ _ T0 (mkF m 0 #[.val (.int (0 : Int32)), .val (.int (1 : Int32)), .val (.int (1 : Int32)), .val sf] [])
  refine Go.step (fun tt kk => XS.iloadN X0.here hx rfl (hb hby d28_0) rfl kk) ?_
  show Go _ _ _ _ _ _ _ T0 (mkF m 1 _ [(.int (0 : Int32))])
  refine Go.step (fun tt kk => XS.ifNo X0.here hx rfl (hb hby d28_1) rfl ((if0 _ _).trans (flt (by decide)).1) kk) ?_
  show Go _ _ _ _ _ _ _ T0 (mkF m 4 _ [])
  refine Go.step (fun tt kk => XS.iloadN X0.here hx rfl (hb hby d28_4) rfl kk) ?_
  show Go _ _ _ _ _ _ _ T0 (mkF m 5 _ [(.int (0 : Int32))])
  refine Go.step (fun tt kk => XS.iloadN X0.here hx rfl (hb hby d28_5) rfl kk) ?_
  show Go _ _ _ _ _ _ _ T0 (mkF m 6 _ [(.int (1 : Int32)), (.int (0 : Int32))])
  refine Go.step (fun tt kk => XS.icmpNo X0.here hx rfl (hb hby d28_6) rfl (flt (by decide)).2.2.1 kk) ?_
  show Go _ _ _ _ _ _ _ T0 (mkF m 9 _ [])
  refine Go.step (fun tt kk => XS.iloadN X0.here hx rfl (hb hby d28_9) rfl kk) ?_
  show Go _ _ _ _ _ _ _ T0 (mkF m 10 _ [(.int (1 : Int32))])
  refine Go.step (fun tt kk => XS.iloadN X0.here hx rfl (hb hby d28_10) rfl kk) ?_
  show Go _ _ _ _ _ _ _ T0 (mkF m 11 _ [(.int (1 : Int32)), (.int (1 : Int32))])
  refine Go.step (fun tt kk => XS.icmpYes X0.here hx rfl (pc0 := 11) (pc' := 22) rfl (hb hby d28_11) rfl (flt (by decide)).2.2.2 (by decide) (by decide) kk) ?_
  show Go _ _ _ _ _ _ _ T0 (mkF m 22 _ [])
  refine Go.step (fun tt kk => XS.iloadN X0.here hx rfl (hb hby d28_22) rfl kk) ?_
  show Go _ _ _ _ _ _ _ T0 (mkF m 23 _ [(.int (0 : Int32))])
  refine go_retI X0 hx hret hlk (hb hby d28_23) ?_ (by decide) (by decide)
  try rw [e0]
  exact ⟨rfl, rfl, rfl⟩
theorem ef_rm27 (m : MethodId) (x0 : Int32) (x1 : Int32) (x2 : Int32) : entryFrame m #[(.int x0), (.int x1), (.int x2)] 3 = mkF m 0 #[.val (.int x0), .val (.int x1), .val (.int x2)] [] := by first | (simp [entryFrame, mkF, argsToLocals, Value.category]; done) | rfl
theorem d27_0 : decode jdk_42_method_158_code 0 = .ok (.iload_n 0, 1) := by decide +kernel
theorem d27_1 : decode jdk_42_method_158_code 1 = .ok (.iload_n 1, 1) := by decide +kernel
theorem d27_2 : decode jdk_42_method_158_code 2 = .ok (.iload_n 2, 1) := by decide +kernel
theorem d27_3 : decode jdk_42_method_158_code 3 = .ok (.getstatic 1053, 3) := by decide +kernel
theorem pd_12 : parseMethodDescriptor "(IIILjava/util/function/BiFunction;)I" = some ⟨[.int, .int, .int, (.object "java/util/function/BiFunction")], some .int⟩ := by decide +kernel
theorem d27_6 : decode jdk_42_method_158_code 6 = .ok (.invokestatic 1062, 3) := by decide +kernel
theorem d27_9 : decode jdk_42_method_158_code 9 = .ok (.pop, 1) := by decide +kernel
theorem d27_10 : decode jdk_42_method_158_code 10 = .ok (.return_, 1) := by decide +kernel
set_option maxRecDepth 65536 in
set_option maxHeartbeats 40000000 in
theorem rm27 (l : Launch) (Z : State) (a0 : Array Value) (hw : ∀ d ∈ tables_1, d.before a0 Z = true) (ws : List Jvm.Cond) (sf : Value) (h0 : Heap) (n0 : Nat) (Z0 : n0 ≤ h0.size) (hsf : sf.category = 1) (S4 : Sta Z h0 "jdk/internal/util/Preconditions" "SIOOBE_FORMATTER" "Ljava/util/function/BiFunction;" sf) :
    Ctr l Z (⟨"java/lang/String", "checkBoundsBeginEnd", "(III)V"⟩ : MethodName) jdk_42_method_158_code 3 none ws ({ frames := 1, cells := 0, slots := 0, locals := 15 } : Room) 0 0 #[(.int (0 : Int32)), (.int (1 : Int32)), (.int (1 : Int32))] h0 (fun v h L => v = none ∧ L = [] ∧ h = h0) := by
  refine Ctr.mk (plainFor_of_name pn_1) fun p e s m below meth c T0 X0 C e0 => go_cast (ef_rm27 m (0 : Int32) (1 : Int32) (1 : Int32)) ?_
  have N0 := Fr.nil n0
  obtain ⟨hx, hZ, hby, hml, hown, hnm, hret, hlk⟩ := C
  show Go _ _ _ _ _ _ _ T0 (mkF m 0 #[.val (.int (0 : Int32)), .val (.int (1 : Int32)), .val (.int (1 : Int32))] [])
  refine Go.step (fun tt kk => XS.iloadN X0.here hx rfl (hb hby d27_0) rfl kk) ?_
  show Go _ _ _ _ _ _ _ T0 (mkF m 1 _ [(.int (0 : Int32))])
  refine Go.step (fun tt kk => XS.iloadN X0.here hx rfl (hb hby d27_1) rfl kk) ?_
  show Go _ _ _ _ _ _ _ T0 (mkF m 2 _ [(.int (1 : Int32)), (.int (0 : Int32))])
  refine Go.step (fun tt kk => XS.iloadN X0.here hx rfl (hb hby d27_2) rfl kk) ?_
  show Go _ _ _ _ _ _ _ T0 (mkF m 3 _ [(.int (1 : Int32)), (.int (1 : Int32)), (.int (0 : Int32))])
  obtain ⟨T1, X1, e1, st1⟩ := getS2 X0 hx hZ hown (host := "") (Or.inl (hw _ (List.mem_of_getElem? (i := 114) rfl))) Via.refl e0 S4 (g := (mkF m 3 #[.val (.int (0 : Int32)), .val (.int (1 : Int32)), .val (.int (1 : Int32))] [(.int (1 : Int32)), (.int (1 : Int32)), (.int (0 : Int32))])) rfl (hb hby d27_3)
  refine Go.step (st1) ?_
  show Go _ _ _ _ _ _ _ T1 (mkF m 6 _ [sf, (.int (1 : Int32)), (.int (1 : Int32)), (.int (0 : Int32))])
  obtain ⟨v2, T2, L2, X2, q2, st2⟩ := c_static X1 hx hZ hown (y := (⟨"jdk/internal/util/Preconditions", "checkFromToIndex", "(IIILjava/util/function/BiFunction;)I"⟩ : MethodName)) (hw _ (List.mem_of_getElem? (i := 116) rfl)) (hw _ (List.mem_of_getElem? (i := 117) rfl)) (hw _ (List.mem_of_getElem? (i := 115) rfl)) (hw _ (List.mem_of_getElem? (i := 118) rfl)) (by decide) (argsL := [(.int (0 : Int32)), (.int (1 : Int32)), (.int (1 : Int32)), sf]) (rest := []) (rm28 l Z a0 hw [] sf h0 n0 Z0 hsf) e1 pd_12 rfl (by rw [hml]; rfl) (W := 0) (by show 2 * 0 + _ ≤ _; exact Nat.le_of_eq rfl) (by decide) (by decide) (by decide) (by decide) (hb hby d27_6) (Ls := #[.val (.int (0 : Int32)), .val (.int (1 : Int32)), .val (.int (1 : Int32))])
  obtain ⟨rfl, rfl, e2⟩ := q2
  have N2 := Fr.app N0 (Fr.nil n0)
  refine Go.step (st2) ?_
  show Go _ _ _ _ _ _ _ T2 (mkF m 9 _ [(.int (0 : Int32))])
  refine Go.step (fun tt kk => XS.pop X2.here hx rfl (hb hby d27_9) rfl rfl kk) ?_
  show Go _ _ _ _ _ _ _ T2 (mkF m 10 _ [])
  refine go_ret X2 hx hret hlk (hb hby d27_10) ?_ (by decide) (by decide)
  try rw [e2]
  exact ⟨rfl, rfl, rfl⟩
theorem ef_rm25 (m : MethodId) (x0 : Int32) (x1 : Int32) (x2 : Addr) : entryFrame m #[(.int x0), (.int x1), (.ref x2)] 3 = mkF m 0 #[.val (.int x0), .val (.int x1), .val (.ref x2)] [] := by first | (simp [entryFrame, mkF, argsToLocals, Value.category]; done) | rfl
theorem d25_0 : decode jdk_52_method_93_code 0 = .ok (.iload_n 0, 1) := by decide +kernel
theorem d25_1 : decode jdk_52_method_93_code 1 = .ok (.iload_n 1, 1) := by decide +kernel
theorem d25_2 : decode jdk_52_method_93_code 2 = .ok (.aload_n 2, 1) := by decide +kernel
theorem pd_13 : parseMethodDescriptor "([B)I" = some ⟨[(.array .byte)], some .int⟩ := by decide +kernel
theorem d25_3 : decode jdk_52_method_93_code 3 = .ok (.invokestatic 48, 3) := by decide +kernel
theorem pd_14 : parseMethodDescriptor "(III)V" = some ⟨[.int, .int, .int], none⟩ := by decide +kernel
theorem d25_6 : decode jdk_52_method_93_code 6 = .ok (.invokestatic 241, 3) := by decide +kernel
theorem d25_9 : decode jdk_52_method_93_code 9 = .ok (.return_, 1) := by decide +kernel
set_option maxRecDepth 65536 in
set_option maxHeartbeats 40000000 in
theorem rm25 (l : Launch) (Z : State) (a0 : Array Value) (hw : ∀ d ∈ tables_1, d.before a0 Z = true) (ws : List Jvm.Cond) (b : Addr) (ch : Int32) (sf : Value) (h0 : Heap) (n0 : Nat) (Z0 : n0 ≤ h0.size) (hsf : sf.category = 1) (S4 : Sta Z h0 "jdk/internal/util/Preconditions" "SIOOBE_FORMATTER" "Ljava/util/function/BiFunction;" sf) (V_b : AV Z h0 b .byte 2 (lst [(.int ((ch >>> ((0 : Int32) &&& 31)).toInt8.toInt32)), (.int ((ch >>> ((8 : Int32) &&& 31)).toInt8.toInt32))])) :
    Ctr l Z (⟨"java/lang/StringUTF16", "checkBoundsBeginEnd", "(II[B)V"⟩ : MethodName) jdk_52_method_93_code 3 none ws ({ frames := 2, cells := 0, slots := 0, locals := 29 } : Room) 0 0 #[(.int (0 : Int32)), (.int (1 : Int32)), (.ref b)] h0 (fun v h L => v = none ∧ L = [] ∧ h = h0) := by
  refine Ctr.mk (plainFor_of_name pn_0) fun p e s m below meth c T0 X0 C e0 => go_cast (ef_rm25 m (0 : Int32) (1 : Int32) b) ?_
  have N0 := Fr.nil n0
  obtain ⟨hx, hZ, hby, hml, hown, hnm, hret, hlk⟩ := C
  show Go _ _ _ _ _ _ _ T0 (mkF m 0 #[.val (.int (0 : Int32)), .val (.int (1 : Int32)), .val (.ref b)] [])
  refine Go.step (fun tt kk => XS.iloadN X0.here hx rfl (hb hby d25_0) rfl kk) ?_
  show Go _ _ _ _ _ _ _ T0 (mkF m 1 _ [(.int (0 : Int32))])
  refine Go.step (fun tt kk => XS.iloadN X0.here hx rfl (hb hby d25_1) rfl kk) ?_
  show Go _ _ _ _ _ _ _ T0 (mkF m 2 _ [(.int (1 : Int32)), (.int (0 : Int32))])
  refine Go.step (fun tt kk => XS.aloadN X0.here hx rfl (hb hby d25_2) rfl rfl kk) ?_
  show Go _ _ _ _ _ _ _ T0 (mkF m 3 _ [(.ref b), (.int (1 : Int32)), (.int (0 : Int32))])
  obtain ⟨v1, T1, L1, X1, q1, st1⟩ := c_static X0 hx hZ hown (y := (⟨"java/lang/StringUTF16", "length", "([B)I"⟩ : MethodName)) (hw _ (List.mem_of_getElem? (i := 108) rfl)) (hw _ (List.mem_of_getElem? (i := 109) rfl)) (hw _ (List.mem_of_getElem? (i := 18) rfl)) (hw _ (List.mem_of_getElem? (i := 110) rfl)) (by decide) (argsL := [(.ref b)]) (rest := [(.int (1 : Int32)), (.int (0 : Int32))]) (rm26 l Z a0 hw [] b ch h0 n0 Z0 V_b) e0 pd_13 rfl (by rw [hml]; rfl) (W := 2) (by show 2 * 0 + _ ≤ _; exact Nat.le_of_eq rfl) (by decide) (by decide) (by decide) (by decide) (hb hby d25_3) (Ls := #[.val (.int (0 : Int32)), .val (.int (1 : Int32)), .val (.ref b)])
  obtain ⟨rfl, rfl, e1⟩ := q1
  have N1 := Fr.app N0 (Fr.nil n0)
  refine Go.step (st1) ?_
  show Go _ _ _ _ _ _ _ T1 (mkF m 6 _ [(.int (1 : Int32)), (.int (1 : Int32)), (.int (0 : Int32))])
  obtain ⟨v2, T2, L2, X2, q2, st2⟩ := c_static X1 hx hZ hown (y := (⟨"java/lang/String", "checkBoundsBeginEnd", "(III)V"⟩ : MethodName)) (hw _ (List.mem_of_getElem? (i := 111) rfl)) (hw _ (List.mem_of_getElem? (i := 112) rfl)) (hw _ (List.mem_of_getElem? (i := 4) rfl)) (hw _ (List.mem_of_getElem? (i := 113) rfl)) (by decide) (argsL := [(.int (0 : Int32)), (.int (1 : Int32)), (.int (1 : Int32))]) (rest := []) (rm27 l Z a0 hw [] sf h0 n0 Z0 hsf S4) e1 pd_14 rfl (by rw [hml]; rfl) (W := 0) (by show 2 * 0 + _ ≤ _; exact Nat.le_of_eq rfl) (by decide) (by decide) (by decide) (by decide) (hb hby d25_6) (Ls := #[.val (.int (0 : Int32)), .val (.int (1 : Int32)), .val (.ref b)])
  obtain ⟨rfl, rfl, e2⟩ := q2
  have N2 := Fr.app N1 (Fr.nil n0)
  refine Go.step (st2) ?_
  show Go _ _ _ _ _ _ _ T2 (mkF m 9 _ [])
  refine go_ret X2 hx hret hlk (hb hby d25_9) ?_ (by decide) (by decide)
  try rw [e2]
  exact ⟨rfl, rfl, rfl⟩
theorem ef_rm29_32 (m : MethodId) (x0 : Addr) (x1 : Int32) (x2 : Int32) (x3 : Int32) : entryFrame m #[(.ref x0), (.int x1), (.int x2), (.int x3)] 5 = mkF m 0 #[.val (.ref x0), .val (.int x1), .val (.int x2), .val (.int x3), .unset] [] := by first | (simp [entryFrame, mkF, argsToLocals, Value.category]; done) | rfl
theorem d29_0 : decode jdk_52_method_48_code 0 = .ok (.iload_n 2, 1) := by decide +kernel
theorem d29_1 : decode jdk_52_method_48_code 1 = .ok (.istore 4, 2) := by decide +kernel
theorem d29_3 : decode jdk_52_method_48_code 3 = .ok (.iload 4, 2) := by decide +kernel
theorem d29_5 : decode jdk_52_method_48_code 5 = .ok (.iload_n 3, 1) := by decide +kernel
theorem d29_6 : decode jdk_52_method_48_code 6 = .ok (.if_icmp .ge 22, 3) := by decide +kernel
theorem d29_9 : decode jdk_52_method_48_code 9 = .ok (.aload_n 0, 1) := by decide +kernel
theorem d29_10 : decode jdk_52_method_48_code 10 = .ok (.iload 4, 2) := by decide +kernel
theorem d29_12 : decode jdk_52_method_48_code 12 = .ok (.invokestatic 71, 3) := by decide +kernel
theorem d29_15 : decode jdk_52_method_48_code 15 = .ok (.iload_n 1, 1) := by decide +kernel
theorem d29_16 : decode jdk_52_method_48_code 16 = .ok (.if_icmp .ne 6, 3) := by decide +kernel
theorem d29_22 : decode jdk_52_method_48_code 22 = .ok (.iinc 4 1, 3) := by decide +kernel
theorem d29_25 : decode jdk_52_method_48_code 25 = .ok (.goto (-22), 3) := by decide +kernel
theorem d29_28 : decode jdk_52_method_48_code 28 = .ok (.iconst (-1), 1) := by decide +kernel
theorem d29_29 : decode jdk_52_method_48_code 29 = .ok (.ireturn, 1) := by decide +kernel
set_option maxRecDepth 65536 in
set_option maxHeartbeats 40000000 in
theorem rm29_32 (l : Launch) (Z : State) (a0 : Array Value) (hw : ∀ d ∈ tables_1, d.before a0 Z = true) (ws : List Jvm.Cond) (b : Addr) (ch : Int32) (h0 : Heap) (n0 : Nat) (Z0 : n0 ≤ h0.size) (hc0 : 0 ≤ ch.toInt) (hc1 : ch.toInt < 65536) (hU : (255 : Int32) < ch) (S1 : Sta Z h0 "java/lang/StringUTF16" "$assertionsDisabled" "Z" (.int (1 : Int32))) (S2 : Sta Z h0 "java/lang/StringUTF16" "HI_BYTE_SHIFT" "I" (.int (0 : Int32))) (S3 : Sta Z h0 "java/lang/StringUTF16" "LO_BYTE_SHIFT" "I" (.int (8 : Int32))) (V_b : AV Z h0 b .byte 2 (lst [(.int ((ch >>> ((0 : Int32) &&& 31)).toInt8.toInt32)), (.int ((ch >>> ((8 : Int32) &&& 31)).toInt8.toInt32))])) :
    Ctr l Z (⟨"java/lang/StringUTF16", "indexOfCharUnsafe", "([BIII)I"⟩ : MethodName) jdk_52_method_48_code 5 (some .int) ws ({ frames := 1, cells := 0, slots := 0, locals := 13 } : Room) 0 0 #[(.ref b), (.int (32 : Int32)), (.int (0 : Int32)), (.int (1 : Int32))] h0 (fun v h L => v = some (.int (-1 : Int32)) ∧ L = [] ∧ h = h0) := by
  refine Ctr.mk (plainFor_of_name pn_0) fun p e s m below meth c T0 X0 C e0 => go_cast (ef_rm29_32 m b (32 : Int32) (0 : Int32) (1 : Int32)) ?_
  have N0 := Fr.nil n0
  obtain ⟨hx, hZ, hby, hml, hown, hnm, hret, hlk⟩ := C
  show Go _ _ _ _ _ _ _ T0 (mkF m 0 #[.val (.ref b), .val (.int (32 : Int32)), .val (.int (0 : Int32)), .val (.int (1 : Int32)), .unset] [])
  refine Go.step (fun tt kk => XS.iloadN X0.here hx rfl (hb hby d29_0) rfl kk) ?_
  show Go _ _ _ _ _ _ _ T0 (mkF m 1 _ [(.int (0 : Int32))])
  refine Go.step (fun tt kk => XS.istore X0.here hx rfl (hb hby d29_1) rfl (l' := #[.val (.ref b), .val (.int (32 : Int32)), .val (.int (0 : Int32)), .val (.int (1 : Int32)), .val (.int (0 : Int32))]) rfl kk) ?_
  show Go _ _ _ _ _ _ _ T0 (mkF m 3 _ [])
  refine Go.step (fun tt kk => XS.iload X0.here hx rfl (hb hby d29_3) rfl kk) ?_
  show Go _ _ _ _ _ _ _ T0 (mkF m 5 _ [(.int (0 : Int32))])
  refine Go.step (fun tt kk => XS.iloadN X0.here hx rfl (hb hby d29_5) rfl kk) ?_
  show Go _ _ _ _ _ _ _ T0 (mkF m 6 _ [(.int (1 : Int32)), (.int (0 : Int32))])
  refine Go.step (fun tt kk => XS.icmpNo X0.here hx rfl (hb hby d29_6) rfl (tlt (by decide)).2.1 kk) ?_
  show Go _ _ _ _ _ _ _ T0 (mkF m 9 _ [])
  refine Go.step (fun tt kk => XS.aloadN X0.here hx rfl (hb hby d29_9) rfl rfl kk) ?_
  show Go _ _ _ _ _ _ _ T0 (mkF m 10 _ [(.ref b)])
  refine Go.step (fun tt kk => XS.iload X0.here hx rfl (hb hby d29_10) rfl kk) ?_
  show Go _ _ _ _ _ _ _ T0 (mkF m 12 _ [(.int (0 : Int32)), (.ref b)])
  obtain ⟨v1, T1, L1, X1, q1, st1⟩ := c_static X0 hx hZ hown (y := (⟨"java/lang/StringUTF16", "getChar", "([BI)C"⟩ : MethodName)) (hw _ (List.mem_of_getElem? (i := 93) rfl)) (hw _ (List.mem_of_getElem? (i := 94) rfl)) (hw _ (List.mem_of_getElem? (i := 18) rfl)) (hw _ (List.mem_of_getElem? (i := 95) rfl)) (by decide) (argsL := [(.ref b), (.int (0 : Int32))]) (rest := []) (rm22 l Z a0 hw [] b ch h0 n0 Z0 hc0 hc1 S1 S2 S3 V_b) e0 pd_5 rfl (by rw [hml]; rfl) (W := 0) (by show 2 * 0 + _ ≤ _; exact Nat.le_of_eq rfl) (by decide) (by decide) (by decide) (by decide) (hb hby d29_12) (Ls := #[.val (.ref b), .val (.int (32 : Int32)), .val (.int (0 : Int32)), .val (.int (1 : Int32)), .val (.int (0 : Int32))])
  obtain ⟨rfl, rfl, e1⟩ := q1
  have N1 := Fr.app N0 (Fr.nil n0)
  refine Go.step (st1) ?_
  show Go _ _ _ _ _ _ _ T1 (mkF m 15 _ [(.int ch)])
  refine Go.step (fun tt kk => XS.iloadN X1.here hx rfl (hb hby d29_15) rfl kk) ?_
  show Go _ _ _ _ _ _ _ T1 (mkF m 16 _ [(.int (32 : Int32)), (.int ch)])
  refine Go.step (fun tt kk => XS.icmpYes X1.here hx rfl (pc0 := 16) (pc' := 22) rfl (hb hby d29_16) rfl (feq (fun q => by rw [q] at hU; revert hU; decide)).2 (by decide) (by decide) kk) ?_
  show Go _ _ _ _ _ _ _ T1 (mkF m 22 _ [])
  refine Go.step (fun tt kk => XS.iinc X1.here hx rfl (hb hby d29_22) rfl (l' := #[.val (.ref b), .val (.int (32 : Int32)), .val (.int (0 : Int32)), .val (.int (1 : Int32)), .val (.int (1 : Int32))]) rfl kk) ?_
  show Go _ _ _ _ _ _ _ T1 (mkF m 25 _ [])
  refine Go.step (fun tt kk => XS.goto X1.here hx rfl (pc0 := 25) (pc' := 3) rfl (hb hby d29_25) (by decide) (by decide) kk) ?_
  show Go _ _ _ _ _ _ _ T1 (mkF m 3 _ [])
  refine Go.step (fun tt kk => XS.iload X1.here hx rfl (hb hby d29_3) rfl kk) ?_
  show Go _ _ _ _ _ _ _ T1 (mkF m 5 _ [(.int (1 : Int32))])
  refine Go.step (fun tt kk => XS.iloadN X1.here hx rfl (hb hby d29_5) rfl kk) ?_
  show Go _ _ _ _ _ _ _ T1 (mkF m 6 _ [(.int (1 : Int32)), (.int (1 : Int32))])
  refine Go.step (fun tt kk => XS.icmpYes X1.here hx rfl (pc0 := 6) (pc' := 28) rfl (hb hby d29_6) rfl (flt (by decide)).2.1 (by decide) (by decide) kk) ?_
  show Go _ _ _ _ _ _ _ T1 (mkF m 28 _ [])
  refine Go.step (fun tt kk => XS.iconst X1.here hx rfl (hb hby d29_28) kk) ?_
  show Go _ _ _ _ _ _ _ T1 (mkF m 29 _ [(.int (-1 : Int32))])
  refine go_retI X1 hx hret hlk (hb hby d29_29) ?_ (by decide) (by decide)
  try rw [e1]
  exact ⟨rfl, rfl, rfl⟩
theorem ef_rm29_9 (m : MethodId) (x0 : Addr) (x1 : Int32) (x2 : Int32) (x3 : Int32) : entryFrame m #[(.ref x0), (.int x1), (.int x2), (.int x3)] 5 = mkF m 0 #[.val (.ref x0), .val (.int x1), .val (.int x2), .val (.int x3), .unset] [] := by first | (simp [entryFrame, mkF, argsToLocals, Value.category]; done) | rfl
set_option maxRecDepth 65536 in
set_option maxHeartbeats 40000000 in
theorem rm29_9 (l : Launch) (Z : State) (a0 : Array Value) (hw : ∀ d ∈ tables_1, d.before a0 Z = true) (ws : List Jvm.Cond) (b : Addr) (ch : Int32) (h0 : Heap) (n0 : Nat) (Z0 : n0 ≤ h0.size) (hc0 : 0 ≤ ch.toInt) (hc1 : ch.toInt < 65536) (hU : (255 : Int32) < ch) (S1 : Sta Z h0 "java/lang/StringUTF16" "$assertionsDisabled" "Z" (.int (1 : Int32))) (S2 : Sta Z h0 "java/lang/StringUTF16" "HI_BYTE_SHIFT" "I" (.int (0 : Int32))) (S3 : Sta Z h0 "java/lang/StringUTF16" "LO_BYTE_SHIFT" "I" (.int (8 : Int32))) (V_b : AV Z h0 b .byte 2 (lst [(.int ((ch >>> ((0 : Int32) &&& 31)).toInt8.toInt32)), (.int ((ch >>> ((8 : Int32) &&& 31)).toInt8.toInt32))])) :
    Ctr l Z (⟨"java/lang/StringUTF16", "indexOfCharUnsafe", "([BIII)I"⟩ : MethodName) jdk_52_method_48_code 5 (some .int) ws ({ frames := 1, cells := 0, slots := 0, locals := 13 } : Room) 0 0 #[(.ref b), (.int (9 : Int32)), (.int (0 : Int32)), (.int (1 : Int32))] h0 (fun v h L => v = some (.int (-1 : Int32)) ∧ L = [] ∧ h = h0) := by
  refine Ctr.mk (plainFor_of_name pn_0) fun p e s m below meth c T0 X0 C e0 => go_cast (ef_rm29_9 m b (9 : Int32) (0 : Int32) (1 : Int32)) ?_
  have N0 := Fr.nil n0
  obtain ⟨hx, hZ, hby, hml, hown, hnm, hret, hlk⟩ := C
  show Go _ _ _ _ _ _ _ T0 (mkF m 0 #[.val (.ref b), .val (.int (9 : Int32)), .val (.int (0 : Int32)), .val (.int (1 : Int32)), .unset] [])
  refine Go.step (fun tt kk => XS.iloadN X0.here hx rfl (hb hby d29_0) rfl kk) ?_
  show Go _ _ _ _ _ _ _ T0 (mkF m 1 _ [(.int (0 : Int32))])
  refine Go.step (fun tt kk => XS.istore X0.here hx rfl (hb hby d29_1) rfl (l' := #[.val (.ref b), .val (.int (9 : Int32)), .val (.int (0 : Int32)), .val (.int (1 : Int32)), .val (.int (0 : Int32))]) rfl kk) ?_
  show Go _ _ _ _ _ _ _ T0 (mkF m 3 _ [])
  refine Go.step (fun tt kk => XS.iload X0.here hx rfl (hb hby d29_3) rfl kk) ?_
  show Go _ _ _ _ _ _ _ T0 (mkF m 5 _ [(.int (0 : Int32))])
  refine Go.step (fun tt kk => XS.iloadN X0.here hx rfl (hb hby d29_5) rfl kk) ?_
  show Go _ _ _ _ _ _ _ T0 (mkF m 6 _ [(.int (1 : Int32)), (.int (0 : Int32))])
  refine Go.step (fun tt kk => XS.icmpNo X0.here hx rfl (hb hby d29_6) rfl (tlt (by decide)).2.1 kk) ?_
  show Go _ _ _ _ _ _ _ T0 (mkF m 9 _ [])
  refine Go.step (fun tt kk => XS.aloadN X0.here hx rfl (hb hby d29_9) rfl rfl kk) ?_
  show Go _ _ _ _ _ _ _ T0 (mkF m 10 _ [(.ref b)])
  refine Go.step (fun tt kk => XS.iload X0.here hx rfl (hb hby d29_10) rfl kk) ?_
  show Go _ _ _ _ _ _ _ T0 (mkF m 12 _ [(.int (0 : Int32)), (.ref b)])
  obtain ⟨v1, T1, L1, X1, q1, st1⟩ := c_static X0 hx hZ hown (y := (⟨"java/lang/StringUTF16", "getChar", "([BI)C"⟩ : MethodName)) (hw _ (List.mem_of_getElem? (i := 93) rfl)) (hw _ (List.mem_of_getElem? (i := 94) rfl)) (hw _ (List.mem_of_getElem? (i := 18) rfl)) (hw _ (List.mem_of_getElem? (i := 95) rfl)) (by decide) (argsL := [(.ref b), (.int (0 : Int32))]) (rest := []) (rm22 l Z a0 hw [] b ch h0 n0 Z0 hc0 hc1 S1 S2 S3 V_b) e0 pd_5 rfl (by rw [hml]; rfl) (W := 0) (by show 2 * 0 + _ ≤ _; exact Nat.le_of_eq rfl) (by decide) (by decide) (by decide) (by decide) (hb hby d29_12) (Ls := #[.val (.ref b), .val (.int (9 : Int32)), .val (.int (0 : Int32)), .val (.int (1 : Int32)), .val (.int (0 : Int32))])
  obtain ⟨rfl, rfl, e1⟩ := q1
  have N1 := Fr.app N0 (Fr.nil n0)
  refine Go.step (st1) ?_
  show Go _ _ _ _ _ _ _ T1 (mkF m 15 _ [(.int ch)])
  refine Go.step (fun tt kk => XS.iloadN X1.here hx rfl (hb hby d29_15) rfl kk) ?_
  show Go _ _ _ _ _ _ _ T1 (mkF m 16 _ [(.int (9 : Int32)), (.int ch)])
  refine Go.step (fun tt kk => XS.icmpYes X1.here hx rfl (pc0 := 16) (pc' := 22) rfl (hb hby d29_16) rfl (feq (fun q => by rw [q] at hU; revert hU; decide)).2 (by decide) (by decide) kk) ?_
  show Go _ _ _ _ _ _ _ T1 (mkF m 22 _ [])
  refine Go.step (fun tt kk => XS.iinc X1.here hx rfl (hb hby d29_22) rfl (l' := #[.val (.ref b), .val (.int (9 : Int32)), .val (.int (0 : Int32)), .val (.int (1 : Int32)), .val (.int (1 : Int32))]) rfl kk) ?_
  show Go _ _ _ _ _ _ _ T1 (mkF m 25 _ [])
  refine Go.step (fun tt kk => XS.goto X1.here hx rfl (pc0 := 25) (pc' := 3) rfl (hb hby d29_25) (by decide) (by decide) kk) ?_
  show Go _ _ _ _ _ _ _ T1 (mkF m 3 _ [])
  refine Go.step (fun tt kk => XS.iload X1.here hx rfl (hb hby d29_3) rfl kk) ?_
  show Go _ _ _ _ _ _ _ T1 (mkF m 5 _ [(.int (1 : Int32))])
  refine Go.step (fun tt kk => XS.iloadN X1.here hx rfl (hb hby d29_5) rfl kk) ?_
  show Go _ _ _ _ _ _ _ T1 (mkF m 6 _ [(.int (1 : Int32)), (.int (1 : Int32))])
  refine Go.step (fun tt kk => XS.icmpYes X1.here hx rfl (pc0 := 6) (pc' := 28) rfl (hb hby d29_6) rfl (flt (by decide)).2.1 (by decide) (by decide) kk) ?_
  show Go _ _ _ _ _ _ _ T1 (mkF m 28 _ [])
  refine Go.step (fun tt kk => XS.iconst X1.here hx rfl (hb hby d29_28) kk) ?_
  show Go _ _ _ _ _ _ _ T1 (mkF m 29 _ [(.int (-1 : Int32))])
  refine go_retI X1 hx hret hlk (hb hby d29_29) ?_ (by decide) (by decide)
  try rw [e1]
  exact ⟨rfl, rfl, rfl⟩
theorem ef_rm24_32 (m : MethodId) (x0 : Addr) (x1 : Int32) (x2 : Int32) (x3 : Int32) : entryFrame m #[(.ref x0), (.int x1), (.int x2), (.int x3)] 4 = mkF m 0 #[.val (.ref x0), .val (.int x1), .val (.int x2), .val (.int x3)] [] := by first | (simp [entryFrame, mkF, argsToLocals, Value.category]; done) | rfl
theorem d24_0 : decode jdk_52_method_47_code 0 = .ok (.iload_n 2, 1) := by decide +kernel
theorem d24_1 : decode jdk_52_method_47_code 1 = .ok (.iload_n 3, 1) := by decide +kernel
theorem d24_2 : decode jdk_52_method_47_code 2 = .ok (.aload_n 0, 1) := by decide +kernel
theorem pd_15 : parseMethodDescriptor "(II[B)V" = some ⟨[.int, .int, (.array .byte)], none⟩ := by decide +kernel
theorem d24_3 : decode jdk_52_method_47_code 3 = .ok (.invokestatic 96, 3) := by decide +kernel
theorem d24_6 : decode jdk_52_method_47_code 6 = .ok (.aload_n 0, 1) := by decide +kernel
theorem d24_7 : decode jdk_52_method_47_code 7 = .ok (.iload_n 1, 1) := by decide +kernel
theorem d24_8 : decode jdk_52_method_47_code 8 = .ok (.iload_n 2, 1) := by decide +kernel
theorem d24_9 : decode jdk_52_method_47_code 9 = .ok (.iload_n 3, 1) := by decide +kernel
theorem d24_10 : decode jdk_52_method_47_code 10 = .ok (.invokestatic 244, 3) := by decide +kernel
theorem d24_13 : decode jdk_52_method_47_code 13 = .ok (.ireturn, 1) := by decide +kernel
set_option maxRecDepth 65536 in
set_option maxHeartbeats 40000000 in
theorem rm24_32 (l : Launch) (Z : State) (a0 : Array Value) (hw : ∀ d ∈ tables_1, d.before a0 Z = true) (ws : List Jvm.Cond) (b : Addr) (ch : Int32) (sf : Value) (h0 : Heap) (n0 : Nat) (Z0 : n0 ≤ h0.size) (hc0 : 0 ≤ ch.toInt) (hc1 : ch.toInt < 65536) (hU : (255 : Int32) < ch) (hsf : sf.category = 1) (S4 : Sta Z h0 "jdk/internal/util/Preconditions" "SIOOBE_FORMATTER" "Ljava/util/function/BiFunction;" sf) (S1 : Sta Z h0 "java/lang/StringUTF16" "$assertionsDisabled" "Z" (.int (1 : Int32))) (S2 : Sta Z h0 "java/lang/StringUTF16" "HI_BYTE_SHIFT" "I" (.int (0 : Int32))) (S3 : Sta Z h0 "java/lang/StringUTF16" "LO_BYTE_SHIFT" "I" (.int (8 : Int32))) (V_b : AV Z h0 b .byte 2 (lst [(.int ((ch >>> ((0 : Int32) &&& 31)).toInt8.toInt32)), (.int ((ch >>> ((8 : Int32) &&& 31)).toInt8.toInt32))])) :
    Ctr l Z (⟨"java/lang/StringUTF16", "indexOfChar", "([BIII)I"⟩ : MethodName) jdk_52_method_47_code 4 (some .int) ws ({ frames := 3, cells := 0, slots := 0, locals := 43 } : Room) 0 0 #[(.ref b), (.int (32 : Int32)), (.int (0 : Int32)), (.int (1 : Int32))] h0 (fun v h L => v = some (.int (-1 : Int32)) ∧ L = [] ∧ h = h0) := by
  refine Ctr.mk (plainFor_of_name pn_0) fun p e s m below meth c T0 X0 C e0 => go_cast (ef_rm24_32 m b (32 : Int32) (0 : Int32) (1 : Int32)) ?_
  have N0 := Fr.nil n0
  obtain ⟨hx, hZ, hby, hml, hown, hnm, hret, hlk⟩ := C
  show Go _ _ _ _ _ _ _ T0 (mkF m 0 #[.val (.ref b), .val (.int (32 : Int32)), .val (.int (0 : Int32)), .val (.int (1 : Int32))] [])
  refine Go.step (fun tt kk => XS.iloadN X0.here hx rfl (hb hby d24_0) rfl kk) ?_
  show Go _ _ _ _ _ _ _ T0 (mkF m 1 _ [(.int (0 : Int32))])
  refine Go.step (fun tt kk => XS.iloadN X0.here hx rfl (hb hby d24_1) rfl kk) ?_
  show Go _ _ _ _ _ _ _ T0 (mkF m 2 _ [(.int (1 : Int32)), (.int (0 : Int32))])
  refine Go.step (fun tt kk => XS.aloadN X0.here hx rfl (hb hby d24_2) rfl rfl kk) ?_
  show Go _ _ _ _ _ _ _ T0 (mkF m 3 _ [(.ref b), (.int (1 : Int32)), (.int (0 : Int32))])
  obtain ⟨v1, T1, L1, X1, q1, st1⟩ := c_static X0 hx hZ hown (y := (⟨"java/lang/StringUTF16", "checkBoundsBeginEnd", "(II[B)V"⟩ : MethodName)) (hw _ (List.mem_of_getElem? (i := 105) rfl)) (hw _ (List.mem_of_getElem? (i := 106) rfl)) (hw _ (List.mem_of_getElem? (i := 18) rfl)) (hw _ (List.mem_of_getElem? (i := 107) rfl)) (by decide) (argsL := [(.int (0 : Int32)), (.int (1 : Int32)), (.ref b)]) (rest := []) (rm25 l Z a0 hw [] b ch sf h0 n0 Z0 hsf S4 V_b) e0 pd_15 rfl (by rw [hml]; rfl) (W := 0) (by show 2 * 0 + _ ≤ _; exact Nat.le_of_eq rfl) (by decide) (by decide) (by decide) (by decide) (hb hby d24_3) (Ls := #[.val (.ref b), .val (.int (32 : Int32)), .val (.int (0 : Int32)), .val (.int (1 : Int32))])
  obtain ⟨rfl, rfl, e1⟩ := q1
  have N1 := Fr.app N0 (Fr.nil n0)
  refine Go.step (st1) ?_
  show Go _ _ _ _ _ _ _ T1 (mkF m 6 _ [])
  refine Go.step (fun tt kk => XS.aloadN X1.here hx rfl (hb hby d24_6) rfl rfl kk) ?_
  show Go _ _ _ _ _ _ _ T1 (mkF m 7 _ [(.ref b)])
  refine Go.step (fun tt kk => XS.iloadN X1.here hx rfl (hb hby d24_7) rfl kk) ?_
  show Go _ _ _ _ _ _ _ T1 (mkF m 8 _ [(.int (32 : Int32)), (.ref b)])
  refine Go.step (fun tt kk => XS.iloadN X1.here hx rfl (hb hby d24_8) rfl kk) ?_
  show Go _ _ _ _ _ _ _ T1 (mkF m 9 _ [(.int (0 : Int32)), (.int (32 : Int32)), (.ref b)])
  refine Go.step (fun tt kk => XS.iloadN X1.here hx rfl (hb hby d24_9) rfl kk) ?_
  show Go _ _ _ _ _ _ _ T1 (mkF m 10 _ [(.int (1 : Int32)), (.int (0 : Int32)), (.int (32 : Int32)), (.ref b)])
  obtain ⟨v2, T2, L2, X2, q2, st2⟩ := c_static X1 hx hZ hown (y := (⟨"java/lang/StringUTF16", "indexOfCharUnsafe", "([BIII)I"⟩ : MethodName)) (hw _ (List.mem_of_getElem? (i := 119) rfl)) (hw _ (List.mem_of_getElem? (i := 120) rfl)) (hw _ (List.mem_of_getElem? (i := 18) rfl)) (hw _ (List.mem_of_getElem? (i := 121) rfl)) (by decide) (argsL := [(.ref b), (.int (32 : Int32)), (.int (0 : Int32)), (.int (1 : Int32))]) (rest := []) (rm29_32 l Z a0 hw [] b ch h0 n0 Z0 hc0 hc1 hU S1 S2 S3 V_b) e1 pd_11 rfl (by rw [hml]; rfl) (W := 0) (by show 2 * 0 + _ ≤ _; exact Nat.le_of_eq rfl) (by decide) (by decide) (by decide) (by decide) (hb hby d24_10) (Ls := #[.val (.ref b), .val (.int (32 : Int32)), .val (.int (0 : Int32)), .val (.int (1 : Int32))])
  obtain ⟨rfl, rfl, e2⟩ := q2
  have N2 := Fr.app N1 (Fr.nil n0)
  refine Go.step (st2) ?_
  show Go _ _ _ _ _ _ _ T2 (mkF m 13 _ [(.int (-1 : Int32))])
  refine go_retI X2 hx hret hlk (hb hby d24_13) ?_ (by decide) (by decide)
  try rw [e2]
  exact ⟨rfl, rfl, rfl⟩
theorem ef_rm24_9 (m : MethodId) (x0 : Addr) (x1 : Int32) (x2 : Int32) (x3 : Int32) : entryFrame m #[(.ref x0), (.int x1), (.int x2), (.int x3)] 4 = mkF m 0 #[.val (.ref x0), .val (.int x1), .val (.int x2), .val (.int x3)] [] := by first | (simp [entryFrame, mkF, argsToLocals, Value.category]; done) | rfl
set_option maxRecDepth 65536 in
set_option maxHeartbeats 40000000 in
theorem rm24_9 (l : Launch) (Z : State) (a0 : Array Value) (hw : ∀ d ∈ tables_1, d.before a0 Z = true) (ws : List Jvm.Cond) (b : Addr) (ch : Int32) (sf : Value) (h0 : Heap) (n0 : Nat) (Z0 : n0 ≤ h0.size) (hc0 : 0 ≤ ch.toInt) (hc1 : ch.toInt < 65536) (hU : (255 : Int32) < ch) (hsf : sf.category = 1) (S4 : Sta Z h0 "jdk/internal/util/Preconditions" "SIOOBE_FORMATTER" "Ljava/util/function/BiFunction;" sf) (S1 : Sta Z h0 "java/lang/StringUTF16" "$assertionsDisabled" "Z" (.int (1 : Int32))) (S2 : Sta Z h0 "java/lang/StringUTF16" "HI_BYTE_SHIFT" "I" (.int (0 : Int32))) (S3 : Sta Z h0 "java/lang/StringUTF16" "LO_BYTE_SHIFT" "I" (.int (8 : Int32))) (V_b : AV Z h0 b .byte 2 (lst [(.int ((ch >>> ((0 : Int32) &&& 31)).toInt8.toInt32)), (.int ((ch >>> ((8 : Int32) &&& 31)).toInt8.toInt32))])) :
    Ctr l Z (⟨"java/lang/StringUTF16", "indexOfChar", "([BIII)I"⟩ : MethodName) jdk_52_method_47_code 4 (some .int) ws ({ frames := 3, cells := 0, slots := 0, locals := 43 } : Room) 0 0 #[(.ref b), (.int (9 : Int32)), (.int (0 : Int32)), (.int (1 : Int32))] h0 (fun v h L => v = some (.int (-1 : Int32)) ∧ L = [] ∧ h = h0) := by
  refine Ctr.mk (plainFor_of_name pn_0) fun p e s m below meth c T0 X0 C e0 => go_cast (ef_rm24_9 m b (9 : Int32) (0 : Int32) (1 : Int32)) ?_
  have N0 := Fr.nil n0
  obtain ⟨hx, hZ, hby, hml, hown, hnm, hret, hlk⟩ := C
  show Go _ _ _ _ _ _ _ T0 (mkF m 0 #[.val (.ref b), .val (.int (9 : Int32)), .val (.int (0 : Int32)), .val (.int (1 : Int32))] [])
  refine Go.step (fun tt kk => XS.iloadN X0.here hx rfl (hb hby d24_0) rfl kk) ?_
  show Go _ _ _ _ _ _ _ T0 (mkF m 1 _ [(.int (0 : Int32))])
  refine Go.step (fun tt kk => XS.iloadN X0.here hx rfl (hb hby d24_1) rfl kk) ?_
  show Go _ _ _ _ _ _ _ T0 (mkF m 2 _ [(.int (1 : Int32)), (.int (0 : Int32))])
  refine Go.step (fun tt kk => XS.aloadN X0.here hx rfl (hb hby d24_2) rfl rfl kk) ?_
  show Go _ _ _ _ _ _ _ T0 (mkF m 3 _ [(.ref b), (.int (1 : Int32)), (.int (0 : Int32))])
  obtain ⟨v1, T1, L1, X1, q1, st1⟩ := c_static X0 hx hZ hown (y := (⟨"java/lang/StringUTF16", "checkBoundsBeginEnd", "(II[B)V"⟩ : MethodName)) (hw _ (List.mem_of_getElem? (i := 105) rfl)) (hw _ (List.mem_of_getElem? (i := 106) rfl)) (hw _ (List.mem_of_getElem? (i := 18) rfl)) (hw _ (List.mem_of_getElem? (i := 107) rfl)) (by decide) (argsL := [(.int (0 : Int32)), (.int (1 : Int32)), (.ref b)]) (rest := []) (rm25 l Z a0 hw [] b ch sf h0 n0 Z0 hsf S4 V_b) e0 pd_15 rfl (by rw [hml]; rfl) (W := 0) (by show 2 * 0 + _ ≤ _; exact Nat.le_of_eq rfl) (by decide) (by decide) (by decide) (by decide) (hb hby d24_3) (Ls := #[.val (.ref b), .val (.int (9 : Int32)), .val (.int (0 : Int32)), .val (.int (1 : Int32))])
  obtain ⟨rfl, rfl, e1⟩ := q1
  have N1 := Fr.app N0 (Fr.nil n0)
  refine Go.step (st1) ?_
  show Go _ _ _ _ _ _ _ T1 (mkF m 6 _ [])
  refine Go.step (fun tt kk => XS.aloadN X1.here hx rfl (hb hby d24_6) rfl rfl kk) ?_
  show Go _ _ _ _ _ _ _ T1 (mkF m 7 _ [(.ref b)])
  refine Go.step (fun tt kk => XS.iloadN X1.here hx rfl (hb hby d24_7) rfl kk) ?_
  show Go _ _ _ _ _ _ _ T1 (mkF m 8 _ [(.int (9 : Int32)), (.ref b)])
  refine Go.step (fun tt kk => XS.iloadN X1.here hx rfl (hb hby d24_8) rfl kk) ?_
  show Go _ _ _ _ _ _ _ T1 (mkF m 9 _ [(.int (0 : Int32)), (.int (9 : Int32)), (.ref b)])
  refine Go.step (fun tt kk => XS.iloadN X1.here hx rfl (hb hby d24_9) rfl kk) ?_
  show Go _ _ _ _ _ _ _ T1 (mkF m 10 _ [(.int (1 : Int32)), (.int (0 : Int32)), (.int (9 : Int32)), (.ref b)])
  obtain ⟨v2, T2, L2, X2, q2, st2⟩ := c_static X1 hx hZ hown (y := (⟨"java/lang/StringUTF16", "indexOfCharUnsafe", "([BIII)I"⟩ : MethodName)) (hw _ (List.mem_of_getElem? (i := 119) rfl)) (hw _ (List.mem_of_getElem? (i := 120) rfl)) (hw _ (List.mem_of_getElem? (i := 18) rfl)) (hw _ (List.mem_of_getElem? (i := 121) rfl)) (by decide) (argsL := [(.ref b), (.int (9 : Int32)), (.int (0 : Int32)), (.int (1 : Int32))]) (rest := []) (rm29_9 l Z a0 hw [] b ch h0 n0 Z0 hc0 hc1 hU S1 S2 S3 V_b) e1 pd_11 rfl (by rw [hml]; rfl) (W := 0) (by show 2 * 0 + _ ≤ _; exact Nat.le_of_eq rfl) (by decide) (by decide) (by decide) (by decide) (hb hby d24_10) (Ls := #[.val (.ref b), .val (.int (9 : Int32)), .val (.int (0 : Int32)), .val (.int (1 : Int32))])
  obtain ⟨rfl, rfl, e2⟩ := q2
  have N2 := Fr.app N1 (Fr.nil n0)
  refine Go.step (st2) ?_
  show Go _ _ _ _ _ _ _ T2 (mkF m 13 _ [(.int (-1 : Int32))])
  refine go_retI X2 hx hret hlk (hb hby d24_13) ?_ (by decide) (by decide)
  try rw [e2]
  exact ⟨rfl, rfl, rfl⟩
theorem ef_rm23_32 (m : MethodId) (x0 : Addr) (x1 : Int32) (x2 : Int32) (x3 : Int32) : entryFrame m #[(.ref x0), (.int x1), (.int x2), (.int x3)] 4 = mkF m 0 #[.val (.ref x0), .val (.int x1), .val (.int x2), .val (.int x3)] [] := by first | (simp [entryFrame, mkF, argsToLocals, Value.category]; done) | rfl
theorem d23_0 : decode jdk_52_method_40_code 0 = .ok (.iload_n 2, 1) := by decide +kernel
theorem d23_1 : decode jdk_52_method_40_code 1 = .ok (.iconst 0, 1) := by decide +kernel
theorem d23_2 : decode jdk_52_method_40_code 2 = .ok (.invokestatic 224, 3) := by decide +kernel
theorem d23_5 : decode jdk_52_method_40_code 5 = .ok (.istore_n 2, 1) := by decide +kernel
theorem d23_6 : decode jdk_52_method_40_code 6 = .ok (.iload_n 3, 1) := by decide +kernel
theorem d23_7 : decode jdk_52_method_40_code 7 = .ok (.aload_n 0, 1) := by decide +kernel
theorem d23_8 : decode jdk_52_method_40_code 8 = .ok (.arraylength, 1) := by decide +kernel
theorem d23_9 : decode jdk_52_method_40_code 9 = .ok (.iconst 1, 1) := by decide +kernel
theorem d23_10 : decode jdk_52_method_40_code 10 = .ok (.ishr, 1) := by decide +kernel
theorem d23_11 : decode jdk_52_method_40_code 11 = .ok (.invokestatic 183, 3) := by decide +kernel
theorem d23_14 : decode jdk_52_method_40_code 14 = .ok (.istore_n 3, 1) := by decide +kernel
theorem d23_15 : decode jdk_52_method_40_code 15 = .ok (.iload_n 2, 1) := by decide +kernel
theorem d23_16 : decode jdk_52_method_40_code 16 = .ok (.iload_n 3, 1) := by decide +kernel
theorem d23_17 : decode jdk_52_method_40_code 17 = .ok (.if_icmp .lt 5, 3) := by decide +kernel
theorem d23_22 : decode jdk_52_method_40_code 22 = .ok (.iload_n 1, 1) := by decide +kernel
theorem d23_23 : decode jdk_52_method_40_code 23 = .ok (.ldc 227, 2) := by decide +kernel
theorem d23_25 : decode jdk_52_method_40_code 25 = .ok (.if_icmp .ge 11, 3) := by decide +kernel
theorem d23_28 : decode jdk_52_method_40_code 28 = .ok (.aload_n 0, 1) := by decide +kernel
theorem d23_29 : decode jdk_52_method_40_code 29 = .ok (.iload_n 1, 1) := by decide +kernel
theorem d23_30 : decode jdk_52_method_40_code 30 = .ok (.iload_n 2, 1) := by decide +kernel
theorem d23_31 : decode jdk_52_method_40_code 31 = .ok (.iload_n 3, 1) := by decide +kernel
theorem d23_32 : decode jdk_52_method_40_code 32 = .ok (.invokestatic 228, 3) := by decide +kernel
theorem d23_35 : decode jdk_52_method_40_code 35 = .ok (.ireturn, 1) := by decide +kernel
set_option maxRecDepth 65536 in
set_option maxHeartbeats 40000000 in
theorem rm23_32 (l : Launch) (Z : State) (a0 : Array Value) (hw : ∀ d ∈ tables_1, d.before a0 Z = true) (ws : List Jvm.Cond) (b : Addr) (ch : Int32) (sf : Value) (h0 : Heap) (n0 : Nat) (Z0 : n0 ≤ h0.size) (hc0 : 0 ≤ ch.toInt) (hc1 : ch.toInt < 65536) (hU : (255 : Int32) < ch) (hsf : sf.category = 1) (S4 : Sta Z h0 "jdk/internal/util/Preconditions" "SIOOBE_FORMATTER" "Ljava/util/function/BiFunction;" sf) (S1 : Sta Z h0 "java/lang/StringUTF16" "$assertionsDisabled" "Z" (.int (1 : Int32))) (S2 : Sta Z h0 "java/lang/StringUTF16" "HI_BYTE_SHIFT" "I" (.int (0 : Int32))) (S3 : Sta Z h0 "java/lang/StringUTF16" "LO_BYTE_SHIFT" "I" (.int (8 : Int32))) (V_b : AV Z h0 b .byte 2 (lst [(.int ((ch >>> ((0 : Int32) &&& 31)).toInt8.toInt32)), (.int ((ch >>> ((8 : Int32) &&& 31)).toInt8.toInt32))])) :
    Ctr l Z (⟨"java/lang/StringUTF16", "indexOf", "([BIII)I"⟩ : MethodName) jdk_52_method_40_code 4 (some .int) ws ({ frames := 4, cells := 0, slots := 0, locals := 58 } : Room) 0 0 #[(.ref b), (.int (32 : Int32)), (.int (0 : Int32)), (.int (1 : Int32))] h0 (fun v h L => v = some (.int (-1 : Int32)) ∧ L = [] ∧ h = h0) := by
  refine Ctr.mk (plainFor_of_name pn_0) fun p e s m below meth c T0 X0 C e0 => go_cast (ef_rm23_32 m b (32 : Int32) (0 : Int32) (1 : Int32)) ?_
  have N0 := Fr.nil n0
  obtain ⟨hx, hZ, hby, hml, hown, hnm, hret, hlk⟩ := C
  show Go _ _ _ _ _ _ _ T0 (mkF m 0 #[.val (.ref b), .val (.int (32 : Int32)), .val (.int (0 : Int32)), .val (.int (1 : Int32))] [])
  refine Go.step (fun tt kk => XS.iloadN X0.here hx rfl (hb hby d23_0) rfl kk) ?_
  show Go _ _ _ _ _ _ _ T0 (mkF m 1 _ [(.int (0 : Int32))])
  refine Go.step (fun tt kk => XS.iconst X0.here hx rfl (hb hby d23_1) kk) ?_
  show Go _ _ _ _ _ _ _ T0 (mkF m 2 _ [(.int (0 : Int32)), (.int (0 : Int32))])
  obtain ⟨v1, T1, L1, X1, q1, st1⟩ := c_static X0 hx hZ hown (y := (⟨"java/lang/Math", "max", "(II)I"⟩ : MethodName)) (hw _ (List.mem_of_getElem? (i := 99) rfl)) (hw _ (List.mem_of_getElem? (i := 66) rfl)) (hw _ (List.mem_of_getElem? (i := 67) rfl)) (hw _ (List.mem_of_getElem? (i := 68) rfl)) (by decide) (argsL := [(.int (0 : Int32)), (.int (0 : Int32))]) (rest := []) (rmmx l Z a0 hw [] (0 : Int32) (0 : Int32) h0 n0 Z0) e0 pd_10 rfl (by rw [hml]; rfl) (W := 0) (by show 2 * 0 + _ ≤ _; exact Nat.le_of_eq rfl) (by decide) (by decide) (by decide) (by decide) (hb hby d23_2) (Ls := #[.val (.ref b), .val (.int (32 : Int32)), .val (.int (0 : Int32)), .val (.int (1 : Int32))])
  obtain ⟨rfl, rfl, e1⟩ := q1
  have N1 := Fr.app N0 (Fr.nil n0)
  refine Go.step (st1) ?_
  show Go _ _ _ _ _ _ _ T1 (mkF m 5 _ [(.int (mx (0 : Int32) (0 : Int32)))])
  rw [show (mx (0 : Int32) (0 : Int32)) = (0 : Int32) by decide]
  show Go _ _ _ _ _ _ _ T1 (mkF m 5 #[.val (.ref b), .val (.int (32 : Int32)), .val (.int (0 : Int32)), .val (.int (1 : Int32))] [(.int (0 : Int32))])
  refine Go.step (fun tt kk => XS.istoreN X1.here hx rfl (hb hby d23_5) rfl (l' := #[.val (.ref b), .val (.int (32 : Int32)), .val (.int (0 : Int32)), .val (.int (1 : Int32))]) rfl kk) ?_
  show Go _ _ _ _ _ _ _ T1 (mkF m 6 _ [])
  refine Go.step (fun tt kk => XS.iloadN X1.here hx rfl (hb hby d23_6) rfl kk) ?_
  show Go _ _ _ _ _ _ _ T1 (mkF m 7 _ [(.int (1 : Int32))])
  refine Go.step (fun tt kk => XS.aloadN X1.here hx rfl (hb hby d23_7) rfl rfl kk) ?_
  show Go _ _ _ _ _ _ _ T1 (mkF m 8 _ [(.ref b), (.int (1 : Int32))])
  refine Go.step (a_len X1 hx hZ e1 V_b (z := (2 : Int32)) (by decide) (hb hby d23_8)) ?_
  show Go _ _ _ _ _ _ _ T1 (mkF m 9 _ [(.int (2 : Int32)), (.int (1 : Int32))])
  refine Go.step (fun tt kk => XS.iconst X1.here hx rfl (hb hby d23_9) kk) ?_
  show Go _ _ _ _ _ _ _ T1 (mkF m 10 _ [(.int (1 : Int32)), (.int (2 : Int32)), (.int (1 : Int32))])
  refine Go.step (fun tt kk => XS.ishr X1.here hx rfl (hb hby d23_10) rfl kk) ?_
  show Go _ _ _ _ _ _ _ T1 (mkF m 11 _ [(.int ((2 : Int32) >>> ((1 : Int32) &&& 31))), (.int (1 : Int32))])
  rw [show ((2 : Int32) >>> ((1 : Int32) &&& 31)) = (1 : Int32) by decide]
  show Go _ _ _ _ _ _ _ T1 (mkF m 11 #[.val (.ref b), .val (.int (32 : Int32)), .val (.int (0 : Int32)), .val (.int (1 : Int32))] [(.int (1 : Int32)), (.int (1 : Int32))])
  obtain ⟨v2, T2, L2, X2, q2, st2⟩ := c_static X1 hx hZ hown (y := (⟨"java/lang/Math", "min", "(II)I"⟩ : MethodName)) (hw _ (List.mem_of_getElem? (i := 100) rfl)) (hw _ (List.mem_of_getElem? (i := 70) rfl)) (hw _ (List.mem_of_getElem? (i := 67) rfl)) (hw _ (List.mem_of_getElem? (i := 71) rfl)) (by decide) (argsL := [(.int (1 : Int32)), (.int (1 : Int32))]) (rest := []) (rmmn l Z a0 hw [] (1 : Int32) (1 : Int32) h0 n0 Z0) e1 pd_10 rfl (by rw [hml]; rfl) (W := 0) (by show 2 * 0 + _ ≤ _; exact Nat.le_of_eq rfl) (by decide) (by decide) (by decide) (by decide) (hb hby d23_11) (Ls := #[.val (.ref b), .val (.int (32 : Int32)), .val (.int (0 : Int32)), .val (.int (1 : Int32))])
  obtain ⟨rfl, rfl, e2⟩ := q2
  have N2 := Fr.app N1 (Fr.nil n0)
  refine Go.step (st2) ?_
  show Go _ _ _ _ _ _ _ T2 (mkF m 14 _ [(.int (mn (1 : Int32) (1 : Int32)))])
  rw [show (mn (1 : Int32) (1 : Int32)) = (1 : Int32) by decide]
  show Go _ _ _ _ _ _ _ T2 (mkF m 14 #[.val (.ref b), .val (.int (32 : Int32)), .val (.int (0 : Int32)), .val (.int (1 : Int32))] [(.int (1 : Int32))])
  refine Go.step (fun tt kk => XS.istoreN X2.here hx rfl (hb hby d23_14) rfl (l' := #[.val (.ref b), .val (.int (32 : Int32)), .val (.int (0 : Int32)), .val (.int (1 : Int32))]) rfl kk) ?_
  show Go _ _ _ _ _ _ _ T2 (mkF m 15 _ [])
  refine Go.step (fun tt kk => XS.iloadN X2.here hx rfl (hb hby d23_15) rfl kk) ?_
  show Go _ _ _ _ _ _ _ T2 (mkF m 16 _ [(.int (0 : Int32))])
  refine Go.step (fun tt kk => XS.iloadN X2.here hx rfl (hb hby d23_16) rfl kk) ?_
  show Go _ _ _ _ _ _ _ T2 (mkF m 17 _ [(.int (1 : Int32)), (.int (0 : Int32))])
  refine Go.step (fun tt kk => XS.icmpYes X2.here hx rfl (pc0 := 17) (pc' := 22) rfl (hb hby d23_17) rfl (tlt (by decide)).1 (by decide) (by decide) kk) ?_
  show Go _ _ _ _ _ _ _ T2 (mkF m 22 _ [])
  refine Go.step (fun tt kk => XS.iloadN X2.here hx rfl (hb hby d23_22) rfl kk) ?_
  show Go _ _ _ _ _ _ _ T2 (mkF m 23 _ [(.int (32 : Int32))])
  refine Go.step (X2.ldcInt hx hown (mvT hZ (hw _ (List.mem_of_getElem? (i := 101) rfl))) (g := (mkF m 23 #[.val (.ref b), .val (.int (32 : Int32)), .val (.int (0 : Int32)), .val (.int (1 : Int32))] [(.int (32 : Int32))])) rfl (hb hby d23_23)) ?_
  show Go _ _ _ _ _ _ _ T2 (mkF m 25 _ [(.int (65536 : Int32)), (.int (32 : Int32))])
  refine Go.step (fun tt kk => XS.icmpNo X2.here hx rfl (hb hby d23_25) rfl (tlt (by decide)).2.1 kk) ?_
  show Go _ _ _ _ _ _ _ T2 (mkF m 28 _ [])
  refine Go.step (fun tt kk => XS.aloadN X2.here hx rfl (hb hby d23_28) rfl rfl kk) ?_
  show Go _ _ _ _ _ _ _ T2 (mkF m 29 _ [(.ref b)])
  refine Go.step (fun tt kk => XS.iloadN X2.here hx rfl (hb hby d23_29) rfl kk) ?_
  show Go _ _ _ _ _ _ _ T2 (mkF m 30 _ [(.int (32 : Int32)), (.ref b)])
  refine Go.step (fun tt kk => XS.iloadN X2.here hx rfl (hb hby d23_30) rfl kk) ?_
  show Go _ _ _ _ _ _ _ T2 (mkF m 31 _ [(.int (0 : Int32)), (.int (32 : Int32)), (.ref b)])
  refine Go.step (fun tt kk => XS.iloadN X2.here hx rfl (hb hby d23_31) rfl kk) ?_
  show Go _ _ _ _ _ _ _ T2 (mkF m 32 _ [(.int (1 : Int32)), (.int (0 : Int32)), (.int (32 : Int32)), (.ref b)])
  obtain ⟨v3, T3, L3, X3, q3, st3⟩ := c_static X2 hx hZ hown (y := (⟨"java/lang/StringUTF16", "indexOfChar", "([BIII)I"⟩ : MethodName)) (hw _ (List.mem_of_getElem? (i := 102) rfl)) (hw _ (List.mem_of_getElem? (i := 103) rfl)) (hw _ (List.mem_of_getElem? (i := 18) rfl)) (hw _ (List.mem_of_getElem? (i := 104) rfl)) (by decide) (argsL := [(.ref b), (.int (32 : Int32)), (.int (0 : Int32)), (.int (1 : Int32))]) (rest := []) (rm24_32 l Z a0 hw [] b ch sf h0 n0 Z0 hc0 hc1 hU hsf S4 S1 S2 S3 V_b) e2 pd_11 rfl (by rw [hml]; rfl) (W := 0) (by show 2 * 0 + _ ≤ _; exact Nat.le_of_eq rfl) (by decide) (by decide) (by decide) (by decide) (hb hby d23_32) (Ls := #[.val (.ref b), .val (.int (32 : Int32)), .val (.int (0 : Int32)), .val (.int (1 : Int32))])
  obtain ⟨rfl, rfl, e3⟩ := q3
  have N3 := Fr.app N2 (Fr.nil n0)
  refine Go.step (st3) ?_
  show Go _ _ _ _ _ _ _ T3 (mkF m 35 _ [(.int (-1 : Int32))])
  refine go_retI X3 hx hret hlk (hb hby d23_35) ?_ (by decide) (by decide)
  try rw [e3]
  exact ⟨rfl, rfl, rfl⟩
theorem ef_rm23_9 (m : MethodId) (x0 : Addr) (x1 : Int32) (x2 : Int32) (x3 : Int32) : entryFrame m #[(.ref x0), (.int x1), (.int x2), (.int x3)] 4 = mkF m 0 #[.val (.ref x0), .val (.int x1), .val (.int x2), .val (.int x3)] [] := by first | (simp [entryFrame, mkF, argsToLocals, Value.category]; done) | rfl
set_option maxRecDepth 65536 in
set_option maxHeartbeats 40000000 in
theorem rm23_9 (l : Launch) (Z : State) (a0 : Array Value) (hw : ∀ d ∈ tables_1, d.before a0 Z = true) (ws : List Jvm.Cond) (b : Addr) (ch : Int32) (sf : Value) (h0 : Heap) (n0 : Nat) (Z0 : n0 ≤ h0.size) (hc0 : 0 ≤ ch.toInt) (hc1 : ch.toInt < 65536) (hU : (255 : Int32) < ch) (hsf : sf.category = 1) (S4 : Sta Z h0 "jdk/internal/util/Preconditions" "SIOOBE_FORMATTER" "Ljava/util/function/BiFunction;" sf) (S1 : Sta Z h0 "java/lang/StringUTF16" "$assertionsDisabled" "Z" (.int (1 : Int32))) (S2 : Sta Z h0 "java/lang/StringUTF16" "HI_BYTE_SHIFT" "I" (.int (0 : Int32))) (S3 : Sta Z h0 "java/lang/StringUTF16" "LO_BYTE_SHIFT" "I" (.int (8 : Int32))) (V_b : AV Z h0 b .byte 2 (lst [(.int ((ch >>> ((0 : Int32) &&& 31)).toInt8.toInt32)), (.int ((ch >>> ((8 : Int32) &&& 31)).toInt8.toInt32))])) :
    Ctr l Z (⟨"java/lang/StringUTF16", "indexOf", "([BIII)I"⟩ : MethodName) jdk_52_method_40_code 4 (some .int) ws ({ frames := 4, cells := 0, slots := 0, locals := 58 } : Room) 0 0 #[(.ref b), (.int (9 : Int32)), (.int (0 : Int32)), (.int (1 : Int32))] h0 (fun v h L => v = some (.int (-1 : Int32)) ∧ L = [] ∧ h = h0) := by
  refine Ctr.mk (plainFor_of_name pn_0) fun p e s m below meth c T0 X0 C e0 => go_cast (ef_rm23_9 m b (9 : Int32) (0 : Int32) (1 : Int32)) ?_
  have N0 := Fr.nil n0
  obtain ⟨hx, hZ, hby, hml, hown, hnm, hret, hlk⟩ := C
  show Go _ _ _ _ _ _ _ T0 (mkF m 0 #[.val (.ref b), .val (.int (9 : Int32)), .val (.int (0 : Int32)), .val (.int (1 : Int32))] [])
  refine Go.step (fun tt kk => XS.iloadN X0.here hx rfl (hb hby d23_0) rfl kk) ?_
  show Go _ _ _ _ _ _ _ T0 (mkF m 1 _ [(.int (0 : Int32))])
  refine Go.step (fun tt kk => XS.iconst X0.here hx rfl (hb hby d23_1) kk) ?_
  show Go _ _ _ _ _ _ _ T0 (mkF m 2 _ [(.int (0 : Int32)), (.int (0 : Int32))])
  obtain ⟨v1, T1, L1, X1, q1, st1⟩ := c_static X0 hx hZ hown (y := (⟨"java/lang/Math", "max", "(II)I"⟩ : MethodName)) (hw _ (List.mem_of_getElem? (i := 99) rfl)) (hw _ (List.mem_of_getElem? (i := 66) rfl)) (hw _ (List.mem_of_getElem? (i := 67) rfl)) (hw _ (List.mem_of_getElem? (i := 68) rfl)) (by decide) (argsL := [(.int (0 : Int32)), (.int (0 : Int32))]) (rest := []) (rmmx l Z a0 hw [] (0 : Int32) (0 : Int32) h0 n0 Z0) e0 pd_10 rfl (by rw [hml]; rfl) (W := 0) (by show 2 * 0 + _ ≤ _; exact Nat.le_of_eq rfl) (by decide) (by decide) (by decide) (by decide) (hb hby d23_2) (Ls := #[.val (.ref b), .val (.int (9 : Int32)), .val (.int (0 : Int32)), .val (.int (1 : Int32))])
  obtain ⟨rfl, rfl, e1⟩ := q1
  have N1 := Fr.app N0 (Fr.nil n0)
  refine Go.step (st1) ?_
  show Go _ _ _ _ _ _ _ T1 (mkF m 5 _ [(.int (mx (0 : Int32) (0 : Int32)))])
  rw [show (mx (0 : Int32) (0 : Int32)) = (0 : Int32) by decide]
  show Go _ _ _ _ _ _ _ T1 (mkF m 5 #[.val (.ref b), .val (.int (9 : Int32)), .val (.int (0 : Int32)), .val (.int (1 : Int32))] [(.int (0 : Int32))])
  refine Go.step (fun tt kk => XS.istoreN X1.here hx rfl (hb hby d23_5) rfl (l' := #[.val (.ref b), .val (.int (9 : Int32)), .val (.int (0 : Int32)), .val (.int (1 : Int32))]) rfl kk) ?_
  show Go _ _ _ _ _ _ _ T1 (mkF m 6 _ [])
  refine Go.step (fun tt kk => XS.iloadN X1.here hx rfl (hb hby d23_6) rfl kk) ?_
  show Go _ _ _ _ _ _ _ T1 (mkF m 7 _ [(.int (1 : Int32))])
  refine Go.step (fun tt kk => XS.aloadN X1.here hx rfl (hb hby d23_7) rfl rfl kk) ?_
  show Go _ _ _ _ _ _ _ T1 (mkF m 8 _ [(.ref b), (.int (1 : Int32))])
  refine Go.step (a_len X1 hx hZ e1 V_b (z := (2 : Int32)) (by decide) (hb hby d23_8)) ?_
  show Go _ _ _ _ _ _ _ T1 (mkF m 9 _ [(.int (2 : Int32)), (.int (1 : Int32))])
  refine Go.step (fun tt kk => XS.iconst X1.here hx rfl (hb hby d23_9) kk) ?_
  show Go _ _ _ _ _ _ _ T1 (mkF m 10 _ [(.int (1 : Int32)), (.int (2 : Int32)), (.int (1 : Int32))])
  refine Go.step (fun tt kk => XS.ishr X1.here hx rfl (hb hby d23_10) rfl kk) ?_
  show Go _ _ _ _ _ _ _ T1 (mkF m 11 _ [(.int ((2 : Int32) >>> ((1 : Int32) &&& 31))), (.int (1 : Int32))])
  rw [show ((2 : Int32) >>> ((1 : Int32) &&& 31)) = (1 : Int32) by decide]
  show Go _ _ _ _ _ _ _ T1 (mkF m 11 #[.val (.ref b), .val (.int (9 : Int32)), .val (.int (0 : Int32)), .val (.int (1 : Int32))] [(.int (1 : Int32)), (.int (1 : Int32))])
  obtain ⟨v2, T2, L2, X2, q2, st2⟩ := c_static X1 hx hZ hown (y := (⟨"java/lang/Math", "min", "(II)I"⟩ : MethodName)) (hw _ (List.mem_of_getElem? (i := 100) rfl)) (hw _ (List.mem_of_getElem? (i := 70) rfl)) (hw _ (List.mem_of_getElem? (i := 67) rfl)) (hw _ (List.mem_of_getElem? (i := 71) rfl)) (by decide) (argsL := [(.int (1 : Int32)), (.int (1 : Int32))]) (rest := []) (rmmn l Z a0 hw [] (1 : Int32) (1 : Int32) h0 n0 Z0) e1 pd_10 rfl (by rw [hml]; rfl) (W := 0) (by show 2 * 0 + _ ≤ _; exact Nat.le_of_eq rfl) (by decide) (by decide) (by decide) (by decide) (hb hby d23_11) (Ls := #[.val (.ref b), .val (.int (9 : Int32)), .val (.int (0 : Int32)), .val (.int (1 : Int32))])
  obtain ⟨rfl, rfl, e2⟩ := q2
  have N2 := Fr.app N1 (Fr.nil n0)
  refine Go.step (st2) ?_
  show Go _ _ _ _ _ _ _ T2 (mkF m 14 _ [(.int (mn (1 : Int32) (1 : Int32)))])
  rw [show (mn (1 : Int32) (1 : Int32)) = (1 : Int32) by decide]
  show Go _ _ _ _ _ _ _ T2 (mkF m 14 #[.val (.ref b), .val (.int (9 : Int32)), .val (.int (0 : Int32)), .val (.int (1 : Int32))] [(.int (1 : Int32))])
  refine Go.step (fun tt kk => XS.istoreN X2.here hx rfl (hb hby d23_14) rfl (l' := #[.val (.ref b), .val (.int (9 : Int32)), .val (.int (0 : Int32)), .val (.int (1 : Int32))]) rfl kk) ?_
  show Go _ _ _ _ _ _ _ T2 (mkF m 15 _ [])
  refine Go.step (fun tt kk => XS.iloadN X2.here hx rfl (hb hby d23_15) rfl kk) ?_
  show Go _ _ _ _ _ _ _ T2 (mkF m 16 _ [(.int (0 : Int32))])
  refine Go.step (fun tt kk => XS.iloadN X2.here hx rfl (hb hby d23_16) rfl kk) ?_
  show Go _ _ _ _ _ _ _ T2 (mkF m 17 _ [(.int (1 : Int32)), (.int (0 : Int32))])
  refine Go.step (fun tt kk => XS.icmpYes X2.here hx rfl (pc0 := 17) (pc' := 22) rfl (hb hby d23_17) rfl (tlt (by decide)).1 (by decide) (by decide) kk) ?_
  show Go _ _ _ _ _ _ _ T2 (mkF m 22 _ [])
  refine Go.step (fun tt kk => XS.iloadN X2.here hx rfl (hb hby d23_22) rfl kk) ?_
  show Go _ _ _ _ _ _ _ T2 (mkF m 23 _ [(.int (9 : Int32))])
  refine Go.step (X2.ldcInt hx hown (mvT hZ (hw _ (List.mem_of_getElem? (i := 101) rfl))) (g := (mkF m 23 #[.val (.ref b), .val (.int (9 : Int32)), .val (.int (0 : Int32)), .val (.int (1 : Int32))] [(.int (9 : Int32))])) rfl (hb hby d23_23)) ?_
  show Go _ _ _ _ _ _ _ T2 (mkF m 25 _ [(.int (65536 : Int32)), (.int (9 : Int32))])
  refine Go.step (fun tt kk => XS.icmpNo X2.here hx rfl (hb hby d23_25) rfl (tlt (by decide)).2.1 kk) ?_
  show Go _ _ _ _ _ _ _ T2 (mkF m 28 _ [])
  refine Go.step (fun tt kk => XS.aloadN X2.here hx rfl (hb hby d23_28) rfl rfl kk) ?_
  show Go _ _ _ _ _ _ _ T2 (mkF m 29 _ [(.ref b)])
  refine Go.step (fun tt kk => XS.iloadN X2.here hx rfl (hb hby d23_29) rfl kk) ?_
  show Go _ _ _ _ _ _ _ T2 (mkF m 30 _ [(.int (9 : Int32)), (.ref b)])
  refine Go.step (fun tt kk => XS.iloadN X2.here hx rfl (hb hby d23_30) rfl kk) ?_
  show Go _ _ _ _ _ _ _ T2 (mkF m 31 _ [(.int (0 : Int32)), (.int (9 : Int32)), (.ref b)])
  refine Go.step (fun tt kk => XS.iloadN X2.here hx rfl (hb hby d23_31) rfl kk) ?_
  show Go _ _ _ _ _ _ _ T2 (mkF m 32 _ [(.int (1 : Int32)), (.int (0 : Int32)), (.int (9 : Int32)), (.ref b)])
  obtain ⟨v3, T3, L3, X3, q3, st3⟩ := c_static X2 hx hZ hown (y := (⟨"java/lang/StringUTF16", "indexOfChar", "([BIII)I"⟩ : MethodName)) (hw _ (List.mem_of_getElem? (i := 102) rfl)) (hw _ (List.mem_of_getElem? (i := 103) rfl)) (hw _ (List.mem_of_getElem? (i := 18) rfl)) (hw _ (List.mem_of_getElem? (i := 104) rfl)) (by decide) (argsL := [(.ref b), (.int (9 : Int32)), (.int (0 : Int32)), (.int (1 : Int32))]) (rest := []) (rm24_9 l Z a0 hw [] b ch sf h0 n0 Z0 hc0 hc1 hU hsf S4 S1 S2 S3 V_b) e2 pd_11 rfl (by rw [hml]; rfl) (W := 0) (by show 2 * 0 + _ ≤ _; exact Nat.le_of_eq rfl) (by decide) (by decide) (by decide) (by decide) (hb hby d23_32) (Ls := #[.val (.ref b), .val (.int (9 : Int32)), .val (.int (0 : Int32)), .val (.int (1 : Int32))])
  obtain ⟨rfl, rfl, e3⟩ := q3
  have N3 := Fr.app N2 (Fr.nil n0)
  refine Go.step (st3) ?_
  show Go _ _ _ _ _ _ _ T3 (mkF m 35 _ [(.int (-1 : Int32))])
  refine go_retI X3 hx hret hlk (hb hby d23_35) ?_ (by decide) (by decide)
  try rw [e3]
  exact ⟨rfl, rfl, rfl⟩
theorem ef_rm9L_32 (m : MethodId) (x0 : Addr) (x1 : Int32) (x2 : Int32) : entryFrame m #[(.ref x0), (.int x1), (.int x2)] 3 = mkF m 0 #[.val (.ref x0), .val (.int x1), .val (.int x2)] [] := by first | (simp [entryFrame, mkF, argsToLocals, Value.category]; done) | rfl
theorem d9_0 : decode jdk_42_method_80_code 0 = .ok (.aload_n 0, 1) := by decide +kernel
theorem pd_16 : parseMethodDescriptor "()Z" = some ⟨[], some .boolean⟩ := by decide +kernel
theorem d9_1 : decode jdk_42_method_80_code 1 = .ok (.invokevirtual 492, 3) := by decide +kernel
theorem d9_4 : decode jdk_42_method_80_code 4 = .ok (.ifCond .eq 19, 3) := by decide +kernel
theorem d9_7 : decode jdk_42_method_80_code 7 = .ok (.aload_n 0, 1) := by decide +kernel
theorem d9_8 : decode jdk_42_method_80_code 8 = .ok (.getfield 9, 3) := by decide +kernel
theorem d9_11 : decode jdk_42_method_80_code 11 = .ok (.iload_n 1, 1) := by decide +kernel
theorem d9_12 : decode jdk_42_method_80_code 12 = .ok (.iload_n 2, 1) := by decide +kernel
theorem d9_13 : decode jdk_42_method_80_code 13 = .ok (.aload_n 0, 1) := by decide +kernel
theorem pd_17 : parseMethodDescriptor "()I" = some ⟨[], some .int⟩ := by decide +kernel
theorem d9_14 : decode jdk_42_method_80_code 14 = .ok (.invokevirtual 505, 3) := by decide +kernel
theorem d9_17 : decode jdk_42_method_80_code 17 = .ok (.invokestatic 637, 3) := by decide +kernel
theorem d9_20 : decode jdk_42_method_80_code 20 = .ok (.goto 16, 3) := by decide +kernel
theorem d9_36 : decode jdk_42_method_80_code 36 = .ok (.ireturn, 1) := by decide +kernel
set_option maxRecDepth 65536 in
set_option maxHeartbeats 40000000 in
theorem rm9L_32 (l : Launch) (Z : State) (a0 : Array Value) (hw : ∀ d ∈ tables_1, d.before a0 Z = true) (ws : List Jvm.Cond) (a b : Addr) (ch : Int32) (cs : Int32)  (h0 : Heap) (n0 : Nat) (Z0 : n0 ≤ h0.size) (hc0 : 0 ≤ ch.toInt) (hc1 : ch.toInt < 65536) (hL : ¬ (255 : Int32) < ch) (hcs : ¬ cs = (0 : Int32)) (S0 : Sta Z h0 "java/lang/String" "COMPACT_STRINGS" "Z" (.int cs)) (E_a : Exa Z h0 a "java/lang/String") (F_0 : Fld Z h0 a "java/lang/String" "coder" "B" (.int (0 : Int32))) (F_1 : Fld Z h0 a "java/lang/String" "value" "[B" (.ref b)) (V_b : AV Z h0 b .byte 1 (lst [(.int (ch.toInt8.toInt32))])) :
    Ctr l Z (⟨"java/lang/String", "indexOf", "(II)I"⟩ : MethodName) jdk_42_method_80_code 3 (some .int) ws ({ frames := 2, cells := 0, slots := 0, locals := 32 } : Room) 0 0 #[(.ref a), (.int (32 : Int32)), (.int (0 : Int32))] h0 (fun v h L => v = some (.int (ix (ch.toInt8.toInt32 = (32 : Int32).toInt8.toInt32))) ∧ L = [] ∧ h = h0) := by
  refine Ctr.mk (plainFor_of_name pn_1) fun p e s m below meth c T0 X0 C e0 => go_cast (ef_rm9L_32 m a (32 : Int32) (0 : Int32)) ?_
  have N0 := Fr.nil n0
  obtain ⟨hx, hZ, hby, hml, hown, hnm, hret, hlk⟩ := C
  show Go _ _ _ _ _ _ _ T0 (mkF m 0 #[.val (.ref a), .val (.int (32 : Int32)), .val (.int (0 : Int32))] [])
  refine Go.step (fun tt kk => XS.aloadN X0.here hx rfl (hb hby d9_0) rfl rfl kk) ?_
  show Go _ _ _ _ _ _ _ T0 (mkF m 1 _ [(.ref a)])
  obtain ⟨v1, T1, L1, X1, q1, st1⟩ := c_virt X0 hx hZ hown (y' := (⟨"java/lang/String", "isLatin1", "()Z"⟩ : MethodName)) (y := (⟨"java/lang/String", "isLatin1", "()Z"⟩ : MethodName)) (C := "java/lang/String") (hw _ (List.mem_of_getElem? (i := 43) rfl)) (hw _ (List.mem_of_getElem? (i := 44) rfl)) (notFace_of_selects (args := #[]) (mvT hZ (hw _ (List.mem_of_getElem? (i := 46) rfl)))) (hw _ (List.mem_of_getElem? (i := 46) rfl)) (hw _ (List.mem_of_getElem? (i := 45) rfl)) (hw _ (List.mem_of_getElem? (i := 4) rfl)) (hw _ (List.mem_of_getElem? (i := 47) rfl)) (by decide) (a := a) (argsL := []) (rest := []) (rm10L l Z a0 hw [] a b ch cs h0 n0 Z0 hcs S0 E_a F_0 F_1 V_b) e0 E_a pd_16 rfl (by rw [hml]; rfl) (W := 0) (by show 2 * 0 + _ ≤ _; exact Nat.le_of_eq rfl) (by decide) (by decide) (by decide) (by decide) (hb hby d9_1) (Ls := #[.val (.ref a), .val (.int (32 : Int32)), .val (.int (0 : Int32))])
  obtain ⟨rfl, rfl, e1⟩ := q1
  have N1 := Fr.app N0 (Fr.nil n0)
  refine Go.step (st1) ?_
  show Go _ _ _ _ _ _ _ T1 (mkF m 4 _ [(.int (1 : Int32))])
  refine Go.step (fun tt kk => XS.ifNo X1.here hx rfl (hb hby d9_4) rfl ((if0 _ _).trans (feq (by decide)).1) kk) ?_
  show Go _ _ _ _ _ _ _ T1 (mkF m 7 _ [])
  refine Go.step (fun tt kk => XS.aloadN X1.here hx rfl (hb hby d9_7) rfl rfl kk) ?_
  show Go _ _ _ _ _ _ _ T1 (mkF m 8 _ [(.ref a)])
  obtain ⟨T2, X2, e2, st2⟩ := getF X1 hx hZ hown (host := "") (Or.inl (hw _ (List.mem_of_getElem? (i := 29) rfl))) Via.refl e1 F_1 (g := (mkF m 8 #[.val (.ref a), .val (.int (32 : Int32)), .val (.int (0 : Int32))] [(.ref a)])) rfl rfl (hb hby d9_8)
  refine Go.step (st2) ?_
  show Go _ _ _ _ _ _ _ T2 (mkF m 11 _ [(.ref b)])
  refine Go.step (fun tt kk => XS.iloadN X2.here hx rfl (hb hby d9_11) rfl kk) ?_
  show Go _ _ _ _ _ _ _ T2 (mkF m 12 _ [(.int (32 : Int32)), (.ref b)])
  refine Go.step (fun tt kk => XS.iloadN X2.here hx rfl (hb hby d9_12) rfl kk) ?_
  show Go _ _ _ _ _ _ _ T2 (mkF m 13 _ [(.int (0 : Int32)), (.int (32 : Int32)), (.ref b)])
  refine Go.step (fun tt kk => XS.aloadN X2.here hx rfl (hb hby d9_13) rfl rfl kk) ?_
  show Go _ _ _ _ _ _ _ T2 (mkF m 14 _ [(.ref a), (.int (0 : Int32)), (.int (32 : Int32)), (.ref b)])
  obtain ⟨v3, T3, L3, X3, q3, st3⟩ := c_virt X2 hx hZ hown (y' := (⟨"java/lang/String", "length", "()I"⟩ : MethodName)) (y := (⟨"java/lang/String", "length", "()I"⟩ : MethodName)) (C := "java/lang/String") (hw _ (List.mem_of_getElem? (i := 48) rfl)) (hw _ (List.mem_of_getElem? (i := 49) rfl)) (notFace_of_selects (args := #[]) (mvT hZ (hw _ (List.mem_of_getElem? (i := 51) rfl)))) (hw _ (List.mem_of_getElem? (i := 51) rfl)) (hw _ (List.mem_of_getElem? (i := 50) rfl)) (hw _ (List.mem_of_getElem? (i := 4) rfl)) (hw _ (List.mem_of_getElem? (i := 52) rfl)) (by decide) (a := a) (argsL := []) (rest := [(.int (0 : Int32)), (.int (32 : Int32)), (.ref b)]) (rm11L l Z a0 hw [] a b ch cs h0 n0 Z0 hcs S0 E_a F_0 F_1 V_b) e2 E_a pd_17 rfl (by rw [hml]; rfl) (W := 3) (by show 2 * 0 + _ ≤ _; exact Nat.le_of_eq rfl) (by decide) (by decide) (by decide) (by decide) (hb hby d9_14) (Ls := #[.val (.ref a), .val (.int (32 : Int32)), .val (.int (0 : Int32))])
  obtain ⟨rfl, rfl, e3⟩ := q3
  have N3 := Fr.app N1 (Fr.nil n0)
  refine Go.step (st3) ?_
  show Go _ _ _ _ _ _ _ T3 (mkF m 17 _ [(.int (1 : Int32)), (.int (0 : Int32)), (.int (32 : Int32)), (.ref b)])
  obtain ⟨v4, T4, L4, X4, q4, st4⟩ := c_static X3 hx hZ hown (y := (⟨"java/lang/StringLatin1", "indexOf", "([BIII)I"⟩ : MethodName)) (hw _ (List.mem_of_getElem? (i := 58) rfl)) (hw _ (List.mem_of_getElem? (i := 59) rfl)) (hw _ (List.mem_of_getElem? (i := 60) rfl)) (hw _ (List.mem_of_getElem? (i := 61) rfl)) (by decide) (argsL := [(.ref b), (.int (32 : Int32)), (.int (0 : Int32)), (.int (1 : Int32))]) (rest := []) (rm13_32 l Z a0 hw [] b ch h0 n0 Z0 V_b) e3 pd_11 rfl (by rw [hml]; rfl) (W := 0) (by show 2 * 0 + _ ≤ _; exact Nat.le_of_eq rfl) (by decide) (by decide) (by decide) (by decide) (hb hby d9_17) (Ls := #[.val (.ref a), .val (.int (32 : Int32)), .val (.int (0 : Int32))])
  obtain ⟨rfl, rfl, e4⟩ := q4
  have N4 := Fr.app N3 (Fr.nil n0)
  refine Go.step (st4) ?_
  show Go _ _ _ _ _ _ _ T4 (mkF m 20 _ [(.int (ix (ch.toInt8.toInt32 = (32 : Int32).toInt8.toInt32)))])
  refine Go.step (fun tt kk => XS.goto X4.here hx rfl (pc0 := 20) (pc' := 36) rfl (hb hby d9_20) (by decide) (by decide) kk) ?_
  show Go _ _ _ _ _ _ _ T4 (mkF m 36 _ [(.int (ix (ch.toInt8.toInt32 = (32 : Int32).toInt8.toInt32)))])
  refine go_retI X4 hx hret hlk (hb hby d9_36) ?_ (by decide) (by decide)
  try rw [e4]
  exact ⟨rfl, rfl, rfl⟩
theorem ef_rm9L_9 (m : MethodId) (x0 : Addr) (x1 : Int32) (x2 : Int32) : entryFrame m #[(.ref x0), (.int x1), (.int x2)] 3 = mkF m 0 #[.val (.ref x0), .val (.int x1), .val (.int x2)] [] := by first | (simp [entryFrame, mkF, argsToLocals, Value.category]; done) | rfl
set_option maxRecDepth 65536 in
set_option maxHeartbeats 40000000 in
theorem rm9L_9 (l : Launch) (Z : State) (a0 : Array Value) (hw : ∀ d ∈ tables_1, d.before a0 Z = true) (ws : List Jvm.Cond) (a b : Addr) (ch : Int32) (cs : Int32)  (h0 : Heap) (n0 : Nat) (Z0 : n0 ≤ h0.size) (hc0 : 0 ≤ ch.toInt) (hc1 : ch.toInt < 65536) (hL : ¬ (255 : Int32) < ch) (hcs : ¬ cs = (0 : Int32)) (S0 : Sta Z h0 "java/lang/String" "COMPACT_STRINGS" "Z" (.int cs)) (E_a : Exa Z h0 a "java/lang/String") (F_0 : Fld Z h0 a "java/lang/String" "coder" "B" (.int (0 : Int32))) (F_1 : Fld Z h0 a "java/lang/String" "value" "[B" (.ref b)) (V_b : AV Z h0 b .byte 1 (lst [(.int (ch.toInt8.toInt32))])) :
    Ctr l Z (⟨"java/lang/String", "indexOf", "(II)I"⟩ : MethodName) jdk_42_method_80_code 3 (some .int) ws ({ frames := 2, cells := 0, slots := 0, locals := 32 } : Room) 0 0 #[(.ref a), (.int (9 : Int32)), (.int (0 : Int32))] h0 (fun v h L => v = some (.int (ix (ch.toInt8.toInt32 = (9 : Int32).toInt8.toInt32))) ∧ L = [] ∧ h = h0) := by
  refine Ctr.mk (plainFor_of_name pn_1) fun p e s m below meth c T0 X0 C e0 => go_cast (ef_rm9L_9 m a (9 : Int32) (0 : Int32)) ?_
  have N0 := Fr.nil n0
  obtain ⟨hx, hZ, hby, hml, hown, hnm, hret, hlk⟩ := C
  show Go _ _ _ _ _ _ _ T0 (mkF m 0 #[.val (.ref a), .val (.int (9 : Int32)), .val (.int (0 : Int32))] [])
  refine Go.step (fun tt kk => XS.aloadN X0.here hx rfl (hb hby d9_0) rfl rfl kk) ?_
  show Go _ _ _ _ _ _ _ T0 (mkF m 1 _ [(.ref a)])
  obtain ⟨v1, T1, L1, X1, q1, st1⟩ := c_virt X0 hx hZ hown (y' := (⟨"java/lang/String", "isLatin1", "()Z"⟩ : MethodName)) (y := (⟨"java/lang/String", "isLatin1", "()Z"⟩ : MethodName)) (C := "java/lang/String") (hw _ (List.mem_of_getElem? (i := 43) rfl)) (hw _ (List.mem_of_getElem? (i := 44) rfl)) (notFace_of_selects (args := #[]) (mvT hZ (hw _ (List.mem_of_getElem? (i := 46) rfl)))) (hw _ (List.mem_of_getElem? (i := 46) rfl)) (hw _ (List.mem_of_getElem? (i := 45) rfl)) (hw _ (List.mem_of_getElem? (i := 4) rfl)) (hw _ (List.mem_of_getElem? (i := 47) rfl)) (by decide) (a := a) (argsL := []) (rest := []) (rm10L l Z a0 hw [] a b ch cs h0 n0 Z0 hcs S0 E_a F_0 F_1 V_b) e0 E_a pd_16 rfl (by rw [hml]; rfl) (W := 0) (by show 2 * 0 + _ ≤ _; exact Nat.le_of_eq rfl) (by decide) (by decide) (by decide) (by decide) (hb hby d9_1) (Ls := #[.val (.ref a), .val (.int (9 : Int32)), .val (.int (0 : Int32))])
  obtain ⟨rfl, rfl, e1⟩ := q1
  have N1 := Fr.app N0 (Fr.nil n0)
  refine Go.step (st1) ?_
  show Go _ _ _ _ _ _ _ T1 (mkF m 4 _ [(.int (1 : Int32))])
  refine Go.step (fun tt kk => XS.ifNo X1.here hx rfl (hb hby d9_4) rfl ((if0 _ _).trans (feq (by decide)).1) kk) ?_
  show Go _ _ _ _ _ _ _ T1 (mkF m 7 _ [])
  refine Go.step (fun tt kk => XS.aloadN X1.here hx rfl (hb hby d9_7) rfl rfl kk) ?_
  show Go _ _ _ _ _ _ _ T1 (mkF m 8 _ [(.ref a)])
  obtain ⟨T2, X2, e2, st2⟩ := getF X1 hx hZ hown (host := "") (Or.inl (hw _ (List.mem_of_getElem? (i := 29) rfl))) Via.refl e1 F_1 (g := (mkF m 8 #[.val (.ref a), .val (.int (9 : Int32)), .val (.int (0 : Int32))] [(.ref a)])) rfl rfl (hb hby d9_8)
  refine Go.step (st2) ?_
  show Go _ _ _ _ _ _ _ T2 (mkF m 11 _ [(.ref b)])
  refine Go.step (fun tt kk => XS.iloadN X2.here hx rfl (hb hby d9_11) rfl kk) ?_
  show Go _ _ _ _ _ _ _ T2 (mkF m 12 _ [(.int (9 : Int32)), (.ref b)])
  refine Go.step (fun tt kk => XS.iloadN X2.here hx rfl (hb hby d9_12) rfl kk) ?_
  show Go _ _ _ _ _ _ _ T2 (mkF m 13 _ [(.int (0 : Int32)), (.int (9 : Int32)), (.ref b)])
  refine Go.step (fun tt kk => XS.aloadN X2.here hx rfl (hb hby d9_13) rfl rfl kk) ?_
  show Go _ _ _ _ _ _ _ T2 (mkF m 14 _ [(.ref a), (.int (0 : Int32)), (.int (9 : Int32)), (.ref b)])
  obtain ⟨v3, T3, L3, X3, q3, st3⟩ := c_virt X2 hx hZ hown (y' := (⟨"java/lang/String", "length", "()I"⟩ : MethodName)) (y := (⟨"java/lang/String", "length", "()I"⟩ : MethodName)) (C := "java/lang/String") (hw _ (List.mem_of_getElem? (i := 48) rfl)) (hw _ (List.mem_of_getElem? (i := 49) rfl)) (notFace_of_selects (args := #[]) (mvT hZ (hw _ (List.mem_of_getElem? (i := 51) rfl)))) (hw _ (List.mem_of_getElem? (i := 51) rfl)) (hw _ (List.mem_of_getElem? (i := 50) rfl)) (hw _ (List.mem_of_getElem? (i := 4) rfl)) (hw _ (List.mem_of_getElem? (i := 52) rfl)) (by decide) (a := a) (argsL := []) (rest := [(.int (0 : Int32)), (.int (9 : Int32)), (.ref b)]) (rm11L l Z a0 hw [] a b ch cs h0 n0 Z0 hcs S0 E_a F_0 F_1 V_b) e2 E_a pd_17 rfl (by rw [hml]; rfl) (W := 3) (by show 2 * 0 + _ ≤ _; exact Nat.le_of_eq rfl) (by decide) (by decide) (by decide) (by decide) (hb hby d9_14) (Ls := #[.val (.ref a), .val (.int (9 : Int32)), .val (.int (0 : Int32))])
  obtain ⟨rfl, rfl, e3⟩ := q3
  have N3 := Fr.app N1 (Fr.nil n0)
  refine Go.step (st3) ?_
  show Go _ _ _ _ _ _ _ T3 (mkF m 17 _ [(.int (1 : Int32)), (.int (0 : Int32)), (.int (9 : Int32)), (.ref b)])
  obtain ⟨v4, T4, L4, X4, q4, st4⟩ := c_static X3 hx hZ hown (y := (⟨"java/lang/StringLatin1", "indexOf", "([BIII)I"⟩ : MethodName)) (hw _ (List.mem_of_getElem? (i := 58) rfl)) (hw _ (List.mem_of_getElem? (i := 59) rfl)) (hw _ (List.mem_of_getElem? (i := 60) rfl)) (hw _ (List.mem_of_getElem? (i := 61) rfl)) (by decide) (argsL := [(.ref b), (.int (9 : Int32)), (.int (0 : Int32)), (.int (1 : Int32))]) (rest := []) (rm13_9 l Z a0 hw [] b ch h0 n0 Z0 V_b) e3 pd_11 rfl (by rw [hml]; rfl) (W := 0) (by show 2 * 0 + _ ≤ _; exact Nat.le_of_eq rfl) (by decide) (by decide) (by decide) (by decide) (hb hby d9_17) (Ls := #[.val (.ref a), .val (.int (9 : Int32)), .val (.int (0 : Int32))])
  obtain ⟨rfl, rfl, e4⟩ := q4
  have N4 := Fr.app N3 (Fr.nil n0)
  refine Go.step (st4) ?_
  show Go _ _ _ _ _ _ _ T4 (mkF m 20 _ [(.int (ix (ch.toInt8.toInt32 = (9 : Int32).toInt8.toInt32)))])
  refine Go.step (fun tt kk => XS.goto X4.here hx rfl (pc0 := 20) (pc' := 36) rfl (hb hby d9_20) (by decide) (by decide) kk) ?_
  show Go _ _ _ _ _ _ _ T4 (mkF m 36 _ [(.int (ix (ch.toInt8.toInt32 = (9 : Int32).toInt8.toInt32)))])
  refine go_retI X4 hx hret hlk (hb hby d9_36) ?_ (by decide) (by decide)
  try rw [e4]
  exact ⟨rfl, rfl, rfl⟩
theorem ef_rm9U_32 (m : MethodId) (x0 : Addr) (x1 : Int32) (x2 : Int32) : entryFrame m #[(.ref x0), (.int x1), (.int x2)] 3 = mkF m 0 #[.val (.ref x0), .val (.int x1), .val (.int x2)] [] := by first | (simp [entryFrame, mkF, argsToLocals, Value.category]; done) | rfl
theorem d9_23 : decode jdk_42_method_80_code 23 = .ok (.aload_n 0, 1) := by decide +kernel
theorem d9_24 : decode jdk_42_method_80_code 24 = .ok (.getfield 9, 3) := by decide +kernel
theorem d9_27 : decode jdk_42_method_80_code 27 = .ok (.iload_n 1, 1) := by decide +kernel
theorem d9_28 : decode jdk_42_method_80_code 28 = .ok (.iload_n 2, 1) := by decide +kernel
theorem d9_29 : decode jdk_42_method_80_code 29 = .ok (.aload_n 0, 1) := by decide +kernel
theorem d9_30 : decode jdk_42_method_80_code 30 = .ok (.invokevirtual 505, 3) := by decide +kernel
theorem d9_33 : decode jdk_42_method_80_code 33 = .ok (.invokestatic 640, 3) := by decide +kernel
set_option maxRecDepth 65536 in
set_option maxHeartbeats 40000000 in
theorem rm9U_32 (l : Launch) (Z : State) (a0 : Array Value) (hw : ∀ d ∈ tables_1, d.before a0 Z = true) (ws : List Jvm.Cond) (a b : Addr) (ch : Int32) (cs : Int32) (sf : Value)  (h0 : Heap) (n0 : Nat) (Z0 : n0 ≤ h0.size) (hc0 : 0 ≤ ch.toInt) (hc1 : ch.toInt < 65536) (hU : (255 : Int32) < ch) (hcs : ¬ cs = (0 : Int32)) (hsf : sf.category = 1) (S0 : Sta Z h0 "java/lang/String" "COMPACT_STRINGS" "Z" (.int cs)) (S4 : Sta Z h0 "jdk/internal/util/Preconditions" "SIOOBE_FORMATTER" "Ljava/util/function/BiFunction;" sf) (S1 : Sta Z h0 "java/lang/StringUTF16" "$assertionsDisabled" "Z" (.int (1 : Int32))) (S2 : Sta Z h0 "java/lang/StringUTF16" "HI_BYTE_SHIFT" "I" (.int (0 : Int32))) (S3 : Sta Z h0 "java/lang/StringUTF16" "LO_BYTE_SHIFT" "I" (.int (8 : Int32))) (E_a : Exa Z h0 a "java/lang/String") (F_0 : Fld Z h0 a "java/lang/String" "coder" "B" (.int (1 : Int32))) (F_1 : Fld Z h0 a "java/lang/String" "value" "[B" (.ref b)) (V_b : AV Z h0 b .byte 2 (lst [(.int ((ch >>> ((0 : Int32) &&& 31)).toInt8.toInt32)), (.int ((ch >>> ((8 : Int32) &&& 31)).toInt8.toInt32))])) :
    Ctr l Z (⟨"java/lang/String", "indexOf", "(II)I"⟩ : MethodName) jdk_42_method_80_code 3 (some .int) ws ({ frames := 5, cells := 0, slots := 0, locals := 73 } : Room) 0 0 #[(.ref a), (.int (32 : Int32)), (.int (0 : Int32))] h0 (fun v h L => v = some (.int (-1 : Int32)) ∧ L = [] ∧ h = h0) := by
  refine Ctr.mk (plainFor_of_name pn_1) fun p e s m below meth c T0 X0 C e0 => go_cast (ef_rm9U_32 m a (32 : Int32) (0 : Int32)) ?_
  have N0 := Fr.nil n0
  obtain ⟨hx, hZ, hby, hml, hown, hnm, hret, hlk⟩ := C
  show Go _ _ _ _ _ _ _ T0 (mkF m 0 #[.val (.ref a), .val (.int (32 : Int32)), .val (.int (0 : Int32))] [])
  refine Go.step (fun tt kk => XS.aloadN X0.here hx rfl (hb hby d9_0) rfl rfl kk) ?_
  show Go _ _ _ _ _ _ _ T0 (mkF m 1 _ [(.ref a)])
  obtain ⟨v1, T1, L1, X1, q1, st1⟩ := c_virt X0 hx hZ hown (y' := (⟨"java/lang/String", "isLatin1", "()Z"⟩ : MethodName)) (y := (⟨"java/lang/String", "isLatin1", "()Z"⟩ : MethodName)) (C := "java/lang/String") (hw _ (List.mem_of_getElem? (i := 43) rfl)) (hw _ (List.mem_of_getElem? (i := 44) rfl)) (notFace_of_selects (args := #[]) (mvT hZ (hw _ (List.mem_of_getElem? (i := 46) rfl)))) (hw _ (List.mem_of_getElem? (i := 46) rfl)) (hw _ (List.mem_of_getElem? (i := 45) rfl)) (hw _ (List.mem_of_getElem? (i := 4) rfl)) (hw _ (List.mem_of_getElem? (i := 47) rfl)) (by decide) (a := a) (argsL := []) (rest := []) (rm10U l Z a0 hw [] a b ch cs h0 n0 Z0 hcs S0 E_a F_0 F_1 V_b) e0 E_a pd_16 rfl (by rw [hml]; rfl) (W := 0) (by show 2 * 0 + _ ≤ _; exact Nat.le_of_eq rfl) (by decide) (by decide) (by decide) (by decide) (hb hby d9_1) (Ls := #[.val (.ref a), .val (.int (32 : Int32)), .val (.int (0 : Int32))])
  obtain ⟨rfl, rfl, e1⟩ := q1
  have N1 := Fr.app N0 (Fr.nil n0)
  refine Go.step (st1) ?_
  show Go _ _ _ _ _ _ _ T1 (mkF m 4 _ [(.int (0 : Int32))])
  refine Go.step (fun tt kk => XS.ifYes X1.here hx rfl (pc0 := 4) (pc' := 23) rfl (hb hby d9_4) rfl ((if0 _ _).trans (teq (by decide)).1) (by decide) (by decide) kk) ?_
  show Go _ _ _ _ _ _ _ T1 (mkF m 23 _ [])
  refine Go.step (fun tt kk => XS.aloadN X1.here hx rfl (hb hby d9_23) rfl rfl kk) ?_
  show Go _ _ _ _ _ _ _ T1 (mkF m 24 _ [(.ref a)])
  obtain ⟨T2, X2, e2, st2⟩ := getF X1 hx hZ hown (host := "") (Or.inl (hw _ (List.mem_of_getElem? (i := 29) rfl))) Via.refl e1 F_1 (g := (mkF m 24 #[.val (.ref a), .val (.int (32 : Int32)), .val (.int (0 : Int32))] [(.ref a)])) rfl rfl (hb hby d9_24)
  refine Go.step (st2) ?_
  show Go _ _ _ _ _ _ _ T2 (mkF m 27 _ [(.ref b)])
  refine Go.step (fun tt kk => XS.iloadN X2.here hx rfl (hb hby d9_27) rfl kk) ?_
  show Go _ _ _ _ _ _ _ T2 (mkF m 28 _ [(.int (32 : Int32)), (.ref b)])
  refine Go.step (fun tt kk => XS.iloadN X2.here hx rfl (hb hby d9_28) rfl kk) ?_
  show Go _ _ _ _ _ _ _ T2 (mkF m 29 _ [(.int (0 : Int32)), (.int (32 : Int32)), (.ref b)])
  refine Go.step (fun tt kk => XS.aloadN X2.here hx rfl (hb hby d9_29) rfl rfl kk) ?_
  show Go _ _ _ _ _ _ _ T2 (mkF m 30 _ [(.ref a), (.int (0 : Int32)), (.int (32 : Int32)), (.ref b)])
  obtain ⟨v3, T3, L3, X3, q3, st3⟩ := c_virt X2 hx hZ hown (y' := (⟨"java/lang/String", "length", "()I"⟩ : MethodName)) (y := (⟨"java/lang/String", "length", "()I"⟩ : MethodName)) (C := "java/lang/String") (hw _ (List.mem_of_getElem? (i := 48) rfl)) (hw _ (List.mem_of_getElem? (i := 49) rfl)) (notFace_of_selects (args := #[]) (mvT hZ (hw _ (List.mem_of_getElem? (i := 51) rfl)))) (hw _ (List.mem_of_getElem? (i := 51) rfl)) (hw _ (List.mem_of_getElem? (i := 50) rfl)) (hw _ (List.mem_of_getElem? (i := 4) rfl)) (hw _ (List.mem_of_getElem? (i := 52) rfl)) (by decide) (a := a) (argsL := []) (rest := [(.int (0 : Int32)), (.int (32 : Int32)), (.ref b)]) (rm11U l Z a0 hw [] a b ch cs h0 n0 Z0 hcs S0 E_a F_0 F_1 V_b) e2 E_a pd_17 rfl (by rw [hml]; rfl) (W := 3) (by show 2 * 0 + _ ≤ _; exact Nat.le_of_eq rfl) (by decide) (by decide) (by decide) (by decide) (hb hby d9_30) (Ls := #[.val (.ref a), .val (.int (32 : Int32)), .val (.int (0 : Int32))])
  obtain ⟨rfl, rfl, e3⟩ := q3
  have N3 := Fr.app N1 (Fr.nil n0)
  refine Go.step (st3) ?_
  show Go _ _ _ _ _ _ _ T3 (mkF m 33 _ [(.int (1 : Int32)), (.int (0 : Int32)), (.int (32 : Int32)), (.ref b)])
  obtain ⟨v4, T4, L4, X4, q4, st4⟩ := c_static X3 hx hZ hown (y := (⟨"java/lang/StringUTF16", "indexOf", "([BIII)I"⟩ : MethodName)) (hw _ (List.mem_of_getElem? (i := 96) rfl)) (hw _ (List.mem_of_getElem? (i := 97) rfl)) (hw _ (List.mem_of_getElem? (i := 18) rfl)) (hw _ (List.mem_of_getElem? (i := 98) rfl)) (by decide) (argsL := [(.ref b), (.int (32 : Int32)), (.int (0 : Int32)), (.int (1 : Int32))]) (rest := []) (rm23_32 l Z a0 hw [] b ch sf h0 n0 Z0 hc0 hc1 hU hsf S4 S1 S2 S3 V_b) e3 pd_11 rfl (by rw [hml]; rfl) (W := 0) (by show 2 * 0 + _ ≤ _; exact Nat.le_of_eq rfl) (by decide) (by decide) (by decide) (by decide) (hb hby d9_33) (Ls := #[.val (.ref a), .val (.int (32 : Int32)), .val (.int (0 : Int32))])
  obtain ⟨rfl, rfl, e4⟩ := q4
  have N4 := Fr.app N3 (Fr.nil n0)
  refine Go.step (st4) ?_
  show Go _ _ _ _ _ _ _ T4 (mkF m 36 _ [(.int (-1 : Int32))])
  refine go_retI X4 hx hret hlk (hb hby d9_36) ?_ (by decide) (by decide)
  try rw [e4]
  exact ⟨rfl, rfl, rfl⟩
theorem ef_rm9U_9 (m : MethodId) (x0 : Addr) (x1 : Int32) (x2 : Int32) : entryFrame m #[(.ref x0), (.int x1), (.int x2)] 3 = mkF m 0 #[.val (.ref x0), .val (.int x1), .val (.int x2)] [] := by first | (simp [entryFrame, mkF, argsToLocals, Value.category]; done) | rfl
set_option maxRecDepth 65536 in
set_option maxHeartbeats 40000000 in
theorem rm9U_9 (l : Launch) (Z : State) (a0 : Array Value) (hw : ∀ d ∈ tables_1, d.before a0 Z = true) (ws : List Jvm.Cond) (a b : Addr) (ch : Int32) (cs : Int32) (sf : Value)  (h0 : Heap) (n0 : Nat) (Z0 : n0 ≤ h0.size) (hc0 : 0 ≤ ch.toInt) (hc1 : ch.toInt < 65536) (hU : (255 : Int32) < ch) (hcs : ¬ cs = (0 : Int32)) (hsf : sf.category = 1) (S0 : Sta Z h0 "java/lang/String" "COMPACT_STRINGS" "Z" (.int cs)) (S4 : Sta Z h0 "jdk/internal/util/Preconditions" "SIOOBE_FORMATTER" "Ljava/util/function/BiFunction;" sf) (S1 : Sta Z h0 "java/lang/StringUTF16" "$assertionsDisabled" "Z" (.int (1 : Int32))) (S2 : Sta Z h0 "java/lang/StringUTF16" "HI_BYTE_SHIFT" "I" (.int (0 : Int32))) (S3 : Sta Z h0 "java/lang/StringUTF16" "LO_BYTE_SHIFT" "I" (.int (8 : Int32))) (E_a : Exa Z h0 a "java/lang/String") (F_0 : Fld Z h0 a "java/lang/String" "coder" "B" (.int (1 : Int32))) (F_1 : Fld Z h0 a "java/lang/String" "value" "[B" (.ref b)) (V_b : AV Z h0 b .byte 2 (lst [(.int ((ch >>> ((0 : Int32) &&& 31)).toInt8.toInt32)), (.int ((ch >>> ((8 : Int32) &&& 31)).toInt8.toInt32))])) :
    Ctr l Z (⟨"java/lang/String", "indexOf", "(II)I"⟩ : MethodName) jdk_42_method_80_code 3 (some .int) ws ({ frames := 5, cells := 0, slots := 0, locals := 73 } : Room) 0 0 #[(.ref a), (.int (9 : Int32)), (.int (0 : Int32))] h0 (fun v h L => v = some (.int (-1 : Int32)) ∧ L = [] ∧ h = h0) := by
  refine Ctr.mk (plainFor_of_name pn_1) fun p e s m below meth c T0 X0 C e0 => go_cast (ef_rm9U_9 m a (9 : Int32) (0 : Int32)) ?_
  have N0 := Fr.nil n0
  obtain ⟨hx, hZ, hby, hml, hown, hnm, hret, hlk⟩ := C
  show Go _ _ _ _ _ _ _ T0 (mkF m 0 #[.val (.ref a), .val (.int (9 : Int32)), .val (.int (0 : Int32))] [])
  refine Go.step (fun tt kk => XS.aloadN X0.here hx rfl (hb hby d9_0) rfl rfl kk) ?_
  show Go _ _ _ _ _ _ _ T0 (mkF m 1 _ [(.ref a)])
  obtain ⟨v1, T1, L1, X1, q1, st1⟩ := c_virt X0 hx hZ hown (y' := (⟨"java/lang/String", "isLatin1", "()Z"⟩ : MethodName)) (y := (⟨"java/lang/String", "isLatin1", "()Z"⟩ : MethodName)) (C := "java/lang/String") (hw _ (List.mem_of_getElem? (i := 43) rfl)) (hw _ (List.mem_of_getElem? (i := 44) rfl)) (notFace_of_selects (args := #[]) (mvT hZ (hw _ (List.mem_of_getElem? (i := 46) rfl)))) (hw _ (List.mem_of_getElem? (i := 46) rfl)) (hw _ (List.mem_of_getElem? (i := 45) rfl)) (hw _ (List.mem_of_getElem? (i := 4) rfl)) (hw _ (List.mem_of_getElem? (i := 47) rfl)) (by decide) (a := a) (argsL := []) (rest := []) (rm10U l Z a0 hw [] a b ch cs h0 n0 Z0 hcs S0 E_a F_0 F_1 V_b) e0 E_a pd_16 rfl (by rw [hml]; rfl) (W := 0) (by show 2 * 0 + _ ≤ _; exact Nat.le_of_eq rfl) (by decide) (by decide) (by decide) (by decide) (hb hby d9_1) (Ls := #[.val (.ref a), .val (.int (9 : Int32)), .val (.int (0 : Int32))])
  obtain ⟨rfl, rfl, e1⟩ := q1
  have N1 := Fr.app N0 (Fr.nil n0)
  refine Go.step (st1) ?_
  show Go _ _ _ _ _ _ _ T1 (mkF m 4 _ [(.int (0 : Int32))])
  refine Go.step (fun tt kk => XS.ifYes X1.here hx rfl (pc0 := 4) (pc' := 23) rfl (hb hby d9_4) rfl ((if0 _ _).trans (teq (by decide)).1) (by decide) (by decide) kk) ?_
  show Go _ _ _ _ _ _ _ T1 (mkF m 23 _ [])
  refine Go.step (fun tt kk => XS.aloadN X1.here hx rfl (hb hby d9_23) rfl rfl kk) ?_
  show Go _ _ _ _ _ _ _ T1 (mkF m 24 _ [(.ref a)])
  obtain ⟨T2, X2, e2, st2⟩ := getF X1 hx hZ hown (host := "") (Or.inl (hw _ (List.mem_of_getElem? (i := 29) rfl))) Via.refl e1 F_1 (g := (mkF m 24 #[.val (.ref a), .val (.int (9 : Int32)), .val (.int (0 : Int32))] [(.ref a)])) rfl rfl (hb hby d9_24)
  refine Go.step (st2) ?_
  show Go _ _ _ _ _ _ _ T2 (mkF m 27 _ [(.ref b)])
  refine Go.step (fun tt kk => XS.iloadN X2.here hx rfl (hb hby d9_27) rfl kk) ?_
  show Go _ _ _ _ _ _ _ T2 (mkF m 28 _ [(.int (9 : Int32)), (.ref b)])
  refine Go.step (fun tt kk => XS.iloadN X2.here hx rfl (hb hby d9_28) rfl kk) ?_
  show Go _ _ _ _ _ _ _ T2 (mkF m 29 _ [(.int (0 : Int32)), (.int (9 : Int32)), (.ref b)])
  refine Go.step (fun tt kk => XS.aloadN X2.here hx rfl (hb hby d9_29) rfl rfl kk) ?_
  show Go _ _ _ _ _ _ _ T2 (mkF m 30 _ [(.ref a), (.int (0 : Int32)), (.int (9 : Int32)), (.ref b)])
  obtain ⟨v3, T3, L3, X3, q3, st3⟩ := c_virt X2 hx hZ hown (y' := (⟨"java/lang/String", "length", "()I"⟩ : MethodName)) (y := (⟨"java/lang/String", "length", "()I"⟩ : MethodName)) (C := "java/lang/String") (hw _ (List.mem_of_getElem? (i := 48) rfl)) (hw _ (List.mem_of_getElem? (i := 49) rfl)) (notFace_of_selects (args := #[]) (mvT hZ (hw _ (List.mem_of_getElem? (i := 51) rfl)))) (hw _ (List.mem_of_getElem? (i := 51) rfl)) (hw _ (List.mem_of_getElem? (i := 50) rfl)) (hw _ (List.mem_of_getElem? (i := 4) rfl)) (hw _ (List.mem_of_getElem? (i := 52) rfl)) (by decide) (a := a) (argsL := []) (rest := [(.int (0 : Int32)), (.int (9 : Int32)), (.ref b)]) (rm11U l Z a0 hw [] a b ch cs h0 n0 Z0 hcs S0 E_a F_0 F_1 V_b) e2 E_a pd_17 rfl (by rw [hml]; rfl) (W := 3) (by show 2 * 0 + _ ≤ _; exact Nat.le_of_eq rfl) (by decide) (by decide) (by decide) (by decide) (hb hby d9_30) (Ls := #[.val (.ref a), .val (.int (9 : Int32)), .val (.int (0 : Int32))])
  obtain ⟨rfl, rfl, e3⟩ := q3
  have N3 := Fr.app N1 (Fr.nil n0)
  refine Go.step (st3) ?_
  show Go _ _ _ _ _ _ _ T3 (mkF m 33 _ [(.int (1 : Int32)), (.int (0 : Int32)), (.int (9 : Int32)), (.ref b)])
  obtain ⟨v4, T4, L4, X4, q4, st4⟩ := c_static X3 hx hZ hown (y := (⟨"java/lang/StringUTF16", "indexOf", "([BIII)I"⟩ : MethodName)) (hw _ (List.mem_of_getElem? (i := 96) rfl)) (hw _ (List.mem_of_getElem? (i := 97) rfl)) (hw _ (List.mem_of_getElem? (i := 18) rfl)) (hw _ (List.mem_of_getElem? (i := 98) rfl)) (by decide) (argsL := [(.ref b), (.int (9 : Int32)), (.int (0 : Int32)), (.int (1 : Int32))]) (rest := []) (rm23_9 l Z a0 hw [] b ch sf h0 n0 Z0 hc0 hc1 hU hsf S4 S1 S2 S3 V_b) e3 pd_11 rfl (by rw [hml]; rfl) (W := 0) (by show 2 * 0 + _ ≤ _; exact Nat.le_of_eq rfl) (by decide) (by decide) (by decide) (by decide) (hb hby d9_33) (Ls := #[.val (.ref a), .val (.int (9 : Int32)), .val (.int (0 : Int32))])
  obtain ⟨rfl, rfl, e4⟩ := q4
  have N4 := Fr.app N3 (Fr.nil n0)
  refine Go.step (st4) ?_
  show Go _ _ _ _ _ _ _ T4 (mkF m 36 _ [(.int (-1 : Int32))])
  refine go_retI X4 hx hret hlk (hb hby d9_36) ?_ (by decide) (by decide)
  try rw [e4]
  exact ⟨rfl, rfl, rfl⟩
abbrev fe (ch : Int32) : Int32 := mn (if (ix (ch.toInt8.toInt32 = (32 : Int32).toInt8.toInt32)) < (0 : Int32) then (1 : Int32) else (ix (ch.toInt8.toInt32 = (32 : Int32).toInt8.toInt32))) (if (ix (ch.toInt8.toInt32 = (9 : Int32).toInt8.toInt32)) < (0 : Int32) then (1 : Int32) else (ix (ch.toInt8.toInt32 = (9 : Int32).toInt8.toInt32)))
theorem own_fe (ch : Int32) (h0 : 0 ≤ ch.toInt) (hL : ¬ (255 : Int32) < ch) : (ch = 32 ∨ ch = 9) ↔ fe ch = 0 := by
  have h1 : ch.toInt < 256 := by rw [Int32.lt_iff_toInt_lt] at hL; simp only [Int32.reduceToInt] at hL; omega
  have e1 := own_b8 ch h0 h1 32 (by decide)
  have e2 := own_b8 ch h0 h1 9 (by decide)
  by_cases q1 : ch = 32
  · have q2 : ¬ ch = 9 := fun z => by rw [q1] at z; revert z; decide
    refine iff_of_true (Or.inl q1) ?_
    unfold fe ix
    rw [if_pos (e1.mpr q1), if_neg (mt e2.mp q2)]; decide
  · by_cases q2 : ch = 9
    · refine iff_of_true (Or.inr q2) ?_
      unfold fe ix
      rw [if_neg (mt e1.mp q1), if_pos (e2.mpr q2)]; decide
    · refine iff_of_false (fun z => z.elim q1 q2) ?_
      unfold fe ix
      rw [if_neg (mt e1.mp q1), if_neg (mt e2.mp q2)]; decide
theorem own_noU {ch : Int32} (hU : (255 : Int32) < ch) : ¬ (ch = 32 ∨ ch = 9) := by
  rintro (q | q) <;> rw [q] at hU <;> revert hU <;> decide
theorem ef_rm8L (m : MethodId) (x0 : Addr) (x1 : Int32) : entryFrame m #[(.ref x0), (.int x1)] 4 = mkF m 0 #[.val (.ref x0), .val (.int x1), .unset, .unset] [] := by first | (simp [entryFrame, mkF, argsToLocals, Value.category]; done) | rfl
theorem pn_4 : plainName "com/example/stowage/stowage/model/LineFields" = true := by first | (simp [plainName, overriddenIn]; done) | decide +kernel
theorem d8_0 : decode prog_41_method_4_code 0 = .ok (.aload_n 0, 1) := by decide +kernel
theorem d8_1 : decode prog_41_method_4_code 1 = .ok (.bipush 32, 2) := by decide +kernel
theorem d8_3 : decode prog_41_method_4_code 3 = .ok (.iload_n 1, 1) := by decide +kernel
theorem d8_4 : decode prog_41_method_4_code 4 = .ok (.invokevirtual 15, 3) := by decide +kernel
theorem d8_7 : decode prog_41_method_4_code 7 = .ok (.istore_n 2, 1) := by decide +kernel
theorem d8_8 : decode prog_41_method_4_code 8 = .ok (.aload_n 0, 1) := by decide +kernel
theorem d8_9 : decode prog_41_method_4_code 9 = .ok (.bipush 9, 2) := by decide +kernel
theorem d8_11 : decode prog_41_method_4_code 11 = .ok (.iload_n 1, 1) := by decide +kernel
theorem d8_12 : decode prog_41_method_4_code 12 = .ok (.invokevirtual 15, 3) := by decide +kernel
theorem d8_15 : decode prog_41_method_4_code 15 = .ok (.istore_n 3, 1) := by decide +kernel
theorem d8_16 : decode prog_41_method_4_code 16 = .ok (.iload_n 2, 1) := by decide +kernel
theorem d8_17 : decode prog_41_method_4_code 17 = .ok (.ifCond .ge 10, 3) := by decide +kernel
theorem d8_20 : decode prog_41_method_4_code 20 = .ok (.aload_n 0, 1) := by decide +kernel
theorem d8_21 : decode prog_41_method_4_code 21 = .ok (.invokevirtual 18, 3) := by decide +kernel
theorem d8_24 : decode prog_41_method_4_code 24 = .ok (.goto 4, 3) := by decide +kernel
theorem d8_28 : decode prog_41_method_4_code 28 = .ok (.iload_n 3, 1) := by decide +kernel
theorem d8_29 : decode prog_41_method_4_code 29 = .ok (.ifCond .ge 10, 3) := by decide +kernel
theorem d8_32 : decode prog_41_method_4_code 32 = .ok (.aload_n 0, 1) := by decide +kernel
theorem d8_33 : decode prog_41_method_4_code 33 = .ok (.invokevirtual 18, 3) := by decide +kernel
theorem d8_36 : decode prog_41_method_4_code 36 = .ok (.goto 4, 3) := by decide +kernel
theorem d8_40 : decode prog_41_method_4_code 40 = .ok (.invokestatic 22, 3) := by decide +kernel
theorem d8_43 : decode prog_41_method_4_code 43 = .ok (.ireturn, 1) := by decide +kernel
theorem d8_39 : decode prog_41_method_4_code 39 = .ok (.iload_n 3, 1) := by decide +kernel
theorem d8_27 : decode prog_41_method_4_code 27 = .ok (.iload_n 2, 1) := by decide +kernel
set_option maxRecDepth 65536 in
set_option maxHeartbeats 40000000 in
theorem rm8L (l : Launch) (Z : State) (a0 : Array Value) (hw : ∀ d ∈ tables_1, d.before a0 Z = true) (ws : List Jvm.Cond) (a b : Addr) (ch : Int32) (cs : Int32)  (h0 : Heap) (n0 : Nat) (Z0 : n0 ≤ h0.size) (hc0 : 0 ≤ ch.toInt) (hc1 : ch.toInt < 65536) (hL : ¬ (255 : Int32) < ch) (hcs : ¬ cs = (0 : Int32)) (S0 : Sta Z h0 "java/lang/String" "COMPACT_STRINGS" "Z" (.int cs)) (E_a : Exa Z h0 a "java/lang/String") (F_0 : Fld Z h0 a "java/lang/String" "coder" "B" (.int (0 : Int32))) (F_1 : Fld Z h0 a "java/lang/String" "value" "[B" (.ref b)) (V_b : AV Z h0 b .byte 1 (lst [(.int (ch.toInt8.toInt32))])) :
    Ctr l Z (⟨"com/example/stowage/stowage/model/LineFields", "fieldEnd", "(Ljava/lang/String;I)I"⟩ : MethodName) prog_41_method_4_code 4 (some .int) ws ({ frames := 3, cells := 0, slots := 0, locals := 46 } : Room) 0 0 #[(.ref a), (.int (0 : Int32))] h0 (fun v h L => v = some (.int (fe ch)) ∧ L = [] ∧ h = h0) := by
  refine Ctr.mk (plainFor_of_name pn_4) fun p e s m below meth c T0 X0 C e0 => go_cast (ef_rm8L m a (0 : Int32)) ?_
  have N0 := Fr.nil n0
  obtain ⟨hx, hZ, hby, hml, hown, hnm, hret, hlk⟩ := C
  show Go _ _ _ _ _ _ _ T0 (mkF m 0 #[.val (.ref a), .val (.int (0 : Int32)), .unset, .unset] [])
  refine Go.step (fun tt kk => XS.aloadN X0.here hx rfl (hb hby d8_0) rfl rfl kk) ?_
  show Go _ _ _ _ _ _ _ T0 (mkF m 1 _ [(.ref a)])
  refine Go.step (fun tt kk => XS.bipush X0.here hx rfl (hb hby d8_1) kk) ?_
  show Go _ _ _ _ _ _ _ T0 (mkF m 3 _ [(.int (32 : Int32)), (.ref a)])
  refine Go.step (fun tt kk => XS.iloadN X0.here hx rfl (hb hby d8_3) rfl kk) ?_
  show Go _ _ _ _ _ _ _ T0 (mkF m 4 _ [(.int (0 : Int32)), (.int (32 : Int32)), (.ref a)])
  obtain ⟨v1, T1, L1, X1, q1, st1⟩ := c_virt X0 hx hZ hown (y' := (⟨"java/lang/String", "indexOf", "(II)I"⟩ : MethodName)) (y := (⟨"java/lang/String", "indexOf", "(II)I"⟩ : MethodName)) (C := "java/lang/String") (hw _ (List.mem_of_getElem? (i := 38) rfl)) (hw _ (List.mem_of_getElem? (i := 39) rfl)) (notFace_of_selects (args := #[]) (mvT hZ (hw _ (List.mem_of_getElem? (i := 41) rfl)))) (hw _ (List.mem_of_getElem? (i := 41) rfl)) (hw _ (List.mem_of_getElem? (i := 40) rfl)) (hw _ (List.mem_of_getElem? (i := 4) rfl)) (hw _ (List.mem_of_getElem? (i := 42) rfl)) (by decide) (a := a) (argsL := [(.int (32 : Int32)), (.int (0 : Int32))]) (rest := []) (rm9L_32 l Z a0 hw [] a b ch cs  h0 n0 Z0 hc0 hc1 hL hcs S0 E_a F_0 F_1 V_b) e0 E_a pd_10 rfl (by rw [hml]; rfl) (W := 0) (by show 2 * 0 + _ ≤ _; exact Nat.le_of_eq rfl) (by decide) (by decide) (by decide) (by decide) (hb hby d8_4) (Ls := #[.val (.ref a), .val (.int (0 : Int32)), .unset, .unset])
  obtain ⟨rfl, rfl, e1⟩ := q1
  have N1 := Fr.app N0 (Fr.nil n0)
  refine Go.step (st1) ?_
  show Go _ _ _ _ _ _ _ T1 (mkF m 7 _ [(.int (ix (ch.toInt8.toInt32 = (32 : Int32).toInt8.toInt32)))])
  refine Go.step (fun tt kk => XS.istoreN X1.here hx rfl (hb hby d8_7) rfl (l' := #[.val (.ref a), .val (.int (0 : Int32)), .val (.int (ix (ch.toInt8.toInt32 = (32 : Int32).toInt8.toInt32))), .unset]) rfl kk) ?_
  show Go _ _ _ _ _ _ _ T1 (mkF m 8 _ [])
  refine Go.step (fun tt kk => XS.aloadN X1.here hx rfl (hb hby d8_8) rfl rfl kk) ?_
  show Go _ _ _ _ _ _ _ T1 (mkF m 9 _ [(.ref a)])
  refine Go.step (fun tt kk => XS.bipush X1.here hx rfl (hb hby d8_9) kk) ?_
  show Go _ _ _ _ _ _ _ T1 (mkF m 11 _ [(.int (9 : Int32)), (.ref a)])
  refine Go.step (fun tt kk => XS.iloadN X1.here hx rfl (hb hby d8_11) rfl kk) ?_
  show Go _ _ _ _ _ _ _ T1 (mkF m 12 _ [(.int (0 : Int32)), (.int (9 : Int32)), (.ref a)])
  obtain ⟨v2, T2, L2, X2, q2, st2⟩ := c_virt X1 hx hZ hown (y' := (⟨"java/lang/String", "indexOf", "(II)I"⟩ : MethodName)) (y := (⟨"java/lang/String", "indexOf", "(II)I"⟩ : MethodName)) (C := "java/lang/String") (hw _ (List.mem_of_getElem? (i := 38) rfl)) (hw _ (List.mem_of_getElem? (i := 39) rfl)) (notFace_of_selects (args := #[]) (mvT hZ (hw _ (List.mem_of_getElem? (i := 41) rfl)))) (hw _ (List.mem_of_getElem? (i := 41) rfl)) (hw _ (List.mem_of_getElem? (i := 40) rfl)) (hw _ (List.mem_of_getElem? (i := 4) rfl)) (hw _ (List.mem_of_getElem? (i := 42) rfl)) (by decide) (a := a) (argsL := [(.int (9 : Int32)), (.int (0 : Int32))]) (rest := []) (rm9L_9 l Z a0 hw [] a b ch cs  h0 n0 Z0 hc0 hc1 hL hcs S0 E_a F_0 F_1 V_b) e1 E_a pd_10 rfl (by rw [hml]; rfl) (W := 0) (by show 2 * 0 + _ ≤ _; exact Nat.le_of_eq rfl) (by decide) (by decide) (by decide) (by decide) (hb hby d8_12) (Ls := #[.val (.ref a), .val (.int (0 : Int32)), .val (.int (ix (ch.toInt8.toInt32 = (32 : Int32).toInt8.toInt32))), .unset])
  obtain ⟨rfl, rfl, e2⟩ := q2
  have N2 := Fr.app N1 (Fr.nil n0)
  refine Go.step (st2) ?_
  show Go _ _ _ _ _ _ _ T2 (mkF m 15 _ [(.int (ix (ch.toInt8.toInt32 = (9 : Int32).toInt8.toInt32)))])
  refine Go.step (fun tt kk => XS.istoreN X2.here hx rfl (hb hby d8_15) rfl (l' := #[.val (.ref a), .val (.int (0 : Int32)), .val (.int (ix (ch.toInt8.toInt32 = (32 : Int32).toInt8.toInt32))), .val (.int (ix (ch.toInt8.toInt32 = (9 : Int32).toInt8.toInt32)))]) rfl kk) ?_
  show Go _ _ _ _ _ _ _ T2 (mkF m 16 _ [])
  refine Go.step (fun tt kk => XS.iloadN X2.here hx rfl (hb hby d8_16) rfl kk) ?_
  show Go _ _ _ _ _ _ _ T2 (mkF m 17 _ [(.int (ix (ch.toInt8.toInt32 = (32 : Int32).toInt8.toInt32)))])
  by_cases c17_3 : (ix (ch.toInt8.toInt32 = (32 : Int32).toInt8.toInt32)) < (0 : Int32)
  · refine Go.step (fun tt kk => XS.ifNo X2.here hx rfl (hb hby d8_17) rfl ((if0 _ _).trans (tlt c17_3).2.1) kk) ?_
    show Go _ _ _ _ _ _ _ T2 (mkF m 20 _ [])
    refine Go.step (fun tt kk => XS.aloadN X2.here hx rfl (hb hby d8_20) rfl rfl kk) ?_
    show Go _ _ _ _ _ _ _ T2 (mkF m 21 _ [(.ref a)])
    obtain ⟨v4, T4, L4, X4, q4, st4⟩ := c_virt X2 hx hZ hown (y' := (⟨"java/lang/String", "length", "()I"⟩ : MethodName)) (y := (⟨"java/lang/String", "length", "()I"⟩ : MethodName)) (C := "java/lang/String") (hw _ (List.mem_of_getElem? (i := 75) rfl)) (hw _ (List.mem_of_getElem? (i := 49) rfl)) (notFace_of_selects (args := #[]) (mvT hZ (hw _ (List.mem_of_getElem? (i := 51) rfl)))) (hw _ (List.mem_of_getElem? (i := 51) rfl)) (hw _ (List.mem_of_getElem? (i := 50) rfl)) (hw _ (List.mem_of_getElem? (i := 4) rfl)) (hw _ (List.mem_of_getElem? (i := 52) rfl)) (by decide) (a := a) (argsL := []) (rest := []) (rm11L l Z a0 hw [] a b ch cs h0 n0 Z0 hcs S0 E_a F_0 F_1 V_b) e2 E_a pd_17 rfl (by rw [hml]; rfl) (W := 0) (by show 2 * 0 + _ ≤ _; exact Nat.le_of_eq rfl) (by decide) (by decide) (by decide) (by decide) (hb hby d8_21) (Ls := #[.val (.ref a), .val (.int (0 : Int32)), .val (.int (ix (ch.toInt8.toInt32 = (32 : Int32).toInt8.toInt32))), .val (.int (ix (ch.toInt8.toInt32 = (9 : Int32).toInt8.toInt32)))])
    obtain ⟨rfl, rfl, e4⟩ := q4
    have N4 := Fr.app N2 (Fr.nil n0)
    refine Go.step (st4) ?_
    show Go _ _ _ _ _ _ _ T4 (mkF m 24 _ [(.int (1 : Int32))])
    refine Go.step (fun tt kk => XS.goto X4.here hx rfl (pc0 := 24) (pc' := 28) rfl (hb hby d8_24) (by decide) (by decide) kk) ?_
    show Go _ _ _ _ _ _ _ T4 (mkF m 28 _ [(.int (1 : Int32))])
    refine Go.step (fun tt kk => XS.iloadN X4.here hx rfl (hb hby d8_28) rfl kk) ?_
    show Go _ _ _ _ _ _ _ T4 (mkF m 29 _ [(.int (ix (ch.toInt8.toInt32 = (9 : Int32).toInt8.toInt32))), (.int (1 : Int32))])
    by_cases c29_5 : (ix (ch.toInt8.toInt32 = (9 : Int32).toInt8.toInt32)) < (0 : Int32)
    · refine Go.step (fun tt kk => XS.ifNo X4.here hx rfl (hb hby d8_29) rfl ((if0 _ _).trans (tlt c29_5).2.1) kk) ?_
      show Go _ _ _ _ _ _ _ T4 (mkF m 32 _ [(.int (1 : Int32))])
      refine Go.step (fun tt kk => XS.aloadN X4.here hx rfl (hb hby d8_32) rfl rfl kk) ?_
      show Go _ _ _ _ _ _ _ T4 (mkF m 33 _ [(.ref a), (.int (1 : Int32))])
      obtain ⟨v6, T6, L6, X6, q6, st6⟩ := c_virt X4 hx hZ hown (y' := (⟨"java/lang/String", "length", "()I"⟩ : MethodName)) (y := (⟨"java/lang/String", "length", "()I"⟩ : MethodName)) (C := "java/lang/String") (hw _ (List.mem_of_getElem? (i := 75) rfl)) (hw _ (List.mem_of_getElem? (i := 49) rfl)) (notFace_of_selects (args := #[]) (mvT hZ (hw _ (List.mem_of_getElem? (i := 51) rfl)))) (hw _ (List.mem_of_getElem? (i := 51) rfl)) (hw _ (List.mem_of_getElem? (i := 50) rfl)) (hw _ (List.mem_of_getElem? (i := 4) rfl)) (hw _ (List.mem_of_getElem? (i := 52) rfl)) (by decide) (a := a) (argsL := []) (rest := [(.int (1 : Int32))]) (rm11L l Z a0 hw [] a b ch cs h0 n0 Z0 hcs S0 E_a F_0 F_1 V_b) e4 E_a pd_17 rfl (by rw [hml]; rfl) (W := 1) (by show 2 * 0 + _ ≤ _; exact Nat.le_of_eq rfl) (by decide) (by decide) (by decide) (by decide) (hb hby d8_33) (Ls := #[.val (.ref a), .val (.int (0 : Int32)), .val (.int (ix (ch.toInt8.toInt32 = (32 : Int32).toInt8.toInt32))), .val (.int (ix (ch.toInt8.toInt32 = (9 : Int32).toInt8.toInt32)))])
      obtain ⟨rfl, rfl, e6⟩ := q6
      have N6 := Fr.app N4 (Fr.nil n0)
      refine Go.step (st6) ?_
      show Go _ _ _ _ _ _ _ T6 (mkF m 36 _ [(.int (1 : Int32)), (.int (1 : Int32))])
      refine Go.step (fun tt kk => XS.goto X6.here hx rfl (pc0 := 36) (pc' := 40) rfl (hb hby d8_36) (by decide) (by decide) kk) ?_
      show Go _ _ _ _ _ _ _ T6 (mkF m 40 _ [(.int (1 : Int32)), (.int (1 : Int32))])
      obtain ⟨v7, T7, L7, X7, q7, st7⟩ := c_static X6 hx hZ hown (y := (⟨"java/lang/Math", "min", "(II)I"⟩ : MethodName)) (hw _ (List.mem_of_getElem? (i := 76) rfl)) (hw _ (List.mem_of_getElem? (i := 70) rfl)) (hw _ (List.mem_of_getElem? (i := 67) rfl)) (hw _ (List.mem_of_getElem? (i := 71) rfl)) (by decide) (argsL := [(.int (1 : Int32)), (.int (1 : Int32))]) (rest := []) (rmmn l Z a0 hw [] (1 : Int32) (1 : Int32) h0 n0 Z0) e6 pd_10 rfl (by rw [hml]; rfl) (W := 0) (by show 2 * 0 + _ ≤ _; exact Nat.le_of_eq rfl) (by decide) (by decide) (by decide) (by decide) (hb hby d8_40) (Ls := #[.val (.ref a), .val (.int (0 : Int32)), .val (.int (ix (ch.toInt8.toInt32 = (32 : Int32).toInt8.toInt32))), .val (.int (ix (ch.toInt8.toInt32 = (9 : Int32).toInt8.toInt32)))])
      obtain ⟨rfl, rfl, e7⟩ := q7
      have N7 := Fr.app N6 (Fr.nil n0)
      refine Go.step (st7) ?_
      show Go _ _ _ _ _ _ _ T7 (mkF m 43 _ [(.int (mn (1 : Int32) (1 : Int32)))])
      refine go_retI X7 hx hret hlk (hb hby d8_43) ?_ (by decide) (by decide)
      try rw [e7]
      exact ⟨congrArg (fun z => some (Value.int z)) (by simp only [fe, eq_true c17_3, eq_true c29_5, if_true, if_false]), rfl, rfl⟩
    · refine Go.step (fun tt kk => XS.ifYes X4.here hx rfl (pc0 := 29) (pc' := 39) rfl (hb hby d8_29) rfl ((if0 _ _).trans (flt c29_5).2.1) (by decide) (by decide) kk) ?_
      show Go _ _ _ _ _ _ _ T4 (mkF m 39 _ [(.int (1 : Int32))])
      refine Go.step (fun tt kk => XS.iloadN X4.here hx rfl (hb hby d8_39) rfl kk) ?_
      show Go _ _ _ _ _ _ _ T4 (mkF m 40 _ [(.int (ix (ch.toInt8.toInt32 = (9 : Int32).toInt8.toInt32))), (.int (1 : Int32))])
      obtain ⟨v8, T8, L8, X8, q8, st8⟩ := c_static X4 hx hZ hown (y := (⟨"java/lang/Math", "min", "(II)I"⟩ : MethodName)) (hw _ (List.mem_of_getElem? (i := 76) rfl)) (hw _ (List.mem_of_getElem? (i := 70) rfl)) (hw _ (List.mem_of_getElem? (i := 67) rfl)) (hw _ (List.mem_of_getElem? (i := 71) rfl)) (by decide) (argsL := [(.int (1 : Int32)), (.int (ix (ch.toInt8.toInt32 = (9 : Int32).toInt8.toInt32)))]) (rest := []) (rmmn l Z a0 hw [] (1 : Int32) (ix (ch.toInt8.toInt32 = (9 : Int32).toInt8.toInt32)) h0 n0 Z0) e4 pd_10 rfl (by rw [hml]; rfl) (W := 0) (by show 2 * 0 + _ ≤ _; exact Nat.le_of_eq rfl) (by decide) (by decide) (by decide) (by decide) (hb hby d8_40) (Ls := #[.val (.ref a), .val (.int (0 : Int32)), .val (.int (ix (ch.toInt8.toInt32 = (32 : Int32).toInt8.toInt32))), .val (.int (ix (ch.toInt8.toInt32 = (9 : Int32).toInt8.toInt32)))])
      obtain ⟨rfl, rfl, e8⟩ := q8
      have N8 := Fr.app N4 (Fr.nil n0)
      refine Go.step (st8) ?_
      show Go _ _ _ _ _ _ _ T8 (mkF m 43 _ [(.int (mn (1 : Int32) (ix (ch.toInt8.toInt32 = (9 : Int32).toInt8.toInt32))))])
      refine go_retI X8 hx hret hlk (hb hby d8_43) ?_ (by decide) (by decide)
      try rw [e8]
      exact ⟨congrArg (fun z => some (Value.int z)) (by simp only [fe, eq_true c17_3, eq_false c29_5, if_true, if_false]), rfl, rfl⟩
  · refine Go.step (fun tt kk => XS.ifYes X2.here hx rfl (pc0 := 17) (pc' := 27) rfl (hb hby d8_17) rfl ((if0 _ _).trans (flt c17_3).2.1) (by decide) (by decide) kk) ?_
    show Go _ _ _ _ _ _ _ T2 (mkF m 27 _ [])
    refine Go.step (fun tt kk => XS.iloadN X2.here hx rfl (hb hby d8_27) rfl kk) ?_
    show Go _ _ _ _ _ _ _ T2 (mkF m 28 _ [(.int (ix (ch.toInt8.toInt32 = (32 : Int32).toInt8.toInt32)))])
    refine Go.step (fun tt kk => XS.iloadN X2.here hx rfl (hb hby d8_28) rfl kk) ?_
    show Go _ _ _ _ _ _ _ T2 (mkF m 29 _ [(.int (ix (ch.toInt8.toInt32 = (9 : Int32).toInt8.toInt32))), (.int (ix (ch.toInt8.toInt32 = (32 : Int32).toInt8.toInt32)))])
    by_cases c29_9 : (ix (ch.toInt8.toInt32 = (9 : Int32).toInt8.toInt32)) < (0 : Int32)
    · refine Go.step (fun tt kk => XS.ifNo X2.here hx rfl (hb hby d8_29) rfl ((if0 _ _).trans (tlt c29_9).2.1) kk) ?_
      show Go _ _ _ _ _ _ _ T2 (mkF m 32 _ [(.int (ix (ch.toInt8.toInt32 = (32 : Int32).toInt8.toInt32)))])
      refine Go.step (fun tt kk => XS.aloadN X2.here hx rfl (hb hby d8_32) rfl rfl kk) ?_
      show Go _ _ _ _ _ _ _ T2 (mkF m 33 _ [(.ref a), (.int (ix (ch.toInt8.toInt32 = (32 : Int32).toInt8.toInt32)))])
      obtain ⟨v10, T10, L10, X10, q10, st10⟩ := c_virt X2 hx hZ hown (y' := (⟨"java/lang/String", "length", "()I"⟩ : MethodName)) (y := (⟨"java/lang/String", "length", "()I"⟩ : MethodName)) (C := "java/lang/String") (hw _ (List.mem_of_getElem? (i := 75) rfl)) (hw _ (List.mem_of_getElem? (i := 49) rfl)) (notFace_of_selects (args := #[]) (mvT hZ (hw _ (List.mem_of_getElem? (i := 51) rfl)))) (hw _ (List.mem_of_getElem? (i := 51) rfl)) (hw _ (List.mem_of_getElem? (i := 50) rfl)) (hw _ (List.mem_of_getElem? (i := 4) rfl)) (hw _ (List.mem_of_getElem? (i := 52) rfl)) (by decide) (a := a) (argsL := []) (rest := [(.int (ix (ch.toInt8.toInt32 = (32 : Int32).toInt8.toInt32)))]) (rm11L l Z a0 hw [] a b ch cs h0 n0 Z0 hcs S0 E_a F_0 F_1 V_b) e2 E_a pd_17 rfl (by rw [hml]; rfl) (W := 1) (by show 2 * 0 + _ ≤ _; exact Nat.le_of_eq rfl) (by decide) (by decide) (by decide) (by decide) (hb hby d8_33) (Ls := #[.val (.ref a), .val (.int (0 : Int32)), .val (.int (ix (ch.toInt8.toInt32 = (32 : Int32).toInt8.toInt32))), .val (.int (ix (ch.toInt8.toInt32 = (9 : Int32).toInt8.toInt32)))])
      obtain ⟨rfl, rfl, e10⟩ := q10
      have N10 := Fr.app N2 (Fr.nil n0)
      refine Go.step (st10) ?_
      show Go _ _ _ _ _ _ _ T10 (mkF m 36 _ [(.int (1 : Int32)), (.int (ix (ch.toInt8.toInt32 = (32 : Int32).toInt8.toInt32)))])
      refine Go.step (fun tt kk => XS.goto X10.here hx rfl (pc0 := 36) (pc' := 40) rfl (hb hby d8_36) (by decide) (by decide) kk) ?_
      show Go _ _ _ _ _ _ _ T10 (mkF m 40 _ [(.int (1 : Int32)), (.int (ix (ch.toInt8.toInt32 = (32 : Int32).toInt8.toInt32)))])
      obtain ⟨v11, T11, L11, X11, q11, st11⟩ := c_static X10 hx hZ hown (y := (⟨"java/lang/Math", "min", "(II)I"⟩ : MethodName)) (hw _ (List.mem_of_getElem? (i := 76) rfl)) (hw _ (List.mem_of_getElem? (i := 70) rfl)) (hw _ (List.mem_of_getElem? (i := 67) rfl)) (hw _ (List.mem_of_getElem? (i := 71) rfl)) (by decide) (argsL := [(.int (ix (ch.toInt8.toInt32 = (32 : Int32).toInt8.toInt32))), (.int (1 : Int32))]) (rest := []) (rmmn l Z a0 hw [] (ix (ch.toInt8.toInt32 = (32 : Int32).toInt8.toInt32)) (1 : Int32) h0 n0 Z0) e10 pd_10 rfl (by rw [hml]; rfl) (W := 0) (by show 2 * 0 + _ ≤ _; exact Nat.le_of_eq rfl) (by decide) (by decide) (by decide) (by decide) (hb hby d8_40) (Ls := #[.val (.ref a), .val (.int (0 : Int32)), .val (.int (ix (ch.toInt8.toInt32 = (32 : Int32).toInt8.toInt32))), .val (.int (ix (ch.toInt8.toInt32 = (9 : Int32).toInt8.toInt32)))])
      obtain ⟨rfl, rfl, e11⟩ := q11
      have N11 := Fr.app N10 (Fr.nil n0)
      refine Go.step (st11) ?_
      show Go _ _ _ _ _ _ _ T11 (mkF m 43 _ [(.int (mn (ix (ch.toInt8.toInt32 = (32 : Int32).toInt8.toInt32)) (1 : Int32)))])
      refine go_retI X11 hx hret hlk (hb hby d8_43) ?_ (by decide) (by decide)
      try rw [e11]
      exact ⟨congrArg (fun z => some (Value.int z)) (by simp only [fe, eq_false c17_3, eq_true c29_9, if_true, if_false]), rfl, rfl⟩
    · refine Go.step (fun tt kk => XS.ifYes X2.here hx rfl (pc0 := 29) (pc' := 39) rfl (hb hby d8_29) rfl ((if0 _ _).trans (flt c29_9).2.1) (by decide) (by decide) kk) ?_
      show Go _ _ _ _ _ _ _ T2 (mkF m 39 _ [(.int (ix (ch.toInt8.toInt32 = (32 : Int32).toInt8.toInt32)))])
      refine Go.step (fun tt kk => XS.iloadN X2.here hx rfl (hb hby d8_39) rfl kk) ?_
      show Go _ _ _ _ _ _ _ T2 (mkF m 40 _ [(.int (ix (ch.toInt8.toInt32 = (9 : Int32).toInt8.toInt32))), (.int (ix (ch.toInt8.toInt32 = (32 : Int32).toInt8.toInt32)))])
      obtain ⟨v12, T12, L12, X12, q12, st12⟩ := c_static X2 hx hZ hown (y := (⟨"java/lang/Math", "min", "(II)I"⟩ : MethodName)) (hw _ (List.mem_of_getElem? (i := 76) rfl)) (hw _ (List.mem_of_getElem? (i := 70) rfl)) (hw _ (List.mem_of_getElem? (i := 67) rfl)) (hw _ (List.mem_of_getElem? (i := 71) rfl)) (by decide) (argsL := [(.int (ix (ch.toInt8.toInt32 = (32 : Int32).toInt8.toInt32))), (.int (ix (ch.toInt8.toInt32 = (9 : Int32).toInt8.toInt32)))]) (rest := []) (rmmn l Z a0 hw [] (ix (ch.toInt8.toInt32 = (32 : Int32).toInt8.toInt32)) (ix (ch.toInt8.toInt32 = (9 : Int32).toInt8.toInt32)) h0 n0 Z0) e2 pd_10 rfl (by rw [hml]; rfl) (W := 0) (by show 2 * 0 + _ ≤ _; exact Nat.le_of_eq rfl) (by decide) (by decide) (by decide) (by decide) (hb hby d8_40) (Ls := #[.val (.ref a), .val (.int (0 : Int32)), .val (.int (ix (ch.toInt8.toInt32 = (32 : Int32).toInt8.toInt32))), .val (.int (ix (ch.toInt8.toInt32 = (9 : Int32).toInt8.toInt32)))])
      obtain ⟨rfl, rfl, e12⟩ := q12
      have N12 := Fr.app N2 (Fr.nil n0)
      refine Go.step (st12) ?_
      show Go _ _ _ _ _ _ _ T12 (mkF m 43 _ [(.int (mn (ix (ch.toInt8.toInt32 = (32 : Int32).toInt8.toInt32)) (ix (ch.toInt8.toInt32 = (9 : Int32).toInt8.toInt32))))])
      refine go_retI X12 hx hret hlk (hb hby d8_43) ?_ (by decide) (by decide)
      try rw [e12]
      exact ⟨congrArg (fun z => some (Value.int z)) (by simp only [fe, eq_false c17_3, eq_false c29_9, if_true, if_false]), rfl, rfl⟩
theorem ef_rm8U (m : MethodId) (x0 : Addr) (x1 : Int32) : entryFrame m #[(.ref x0), (.int x1)] 4 = mkF m 0 #[.val (.ref x0), .val (.int x1), .unset, .unset] [] := by first | (simp [entryFrame, mkF, argsToLocals, Value.category]; done) | rfl
set_option maxRecDepth 65536 in
set_option maxHeartbeats 40000000 in
theorem rm8U (l : Launch) (Z : State) (a0 : Array Value) (hw : ∀ d ∈ tables_1, d.before a0 Z = true) (ws : List Jvm.Cond) (a b : Addr) (ch : Int32) (cs : Int32) (sf : Value)  (h0 : Heap) (n0 : Nat) (Z0 : n0 ≤ h0.size) (hc0 : 0 ≤ ch.toInt) (hc1 : ch.toInt < 65536) (hU : (255 : Int32) < ch) (hcs : ¬ cs = (0 : Int32)) (hsf : sf.category = 1) (S0 : Sta Z h0 "java/lang/String" "COMPACT_STRINGS" "Z" (.int cs)) (S4 : Sta Z h0 "jdk/internal/util/Preconditions" "SIOOBE_FORMATTER" "Ljava/util/function/BiFunction;" sf) (S1 : Sta Z h0 "java/lang/StringUTF16" "$assertionsDisabled" "Z" (.int (1 : Int32))) (S2 : Sta Z h0 "java/lang/StringUTF16" "HI_BYTE_SHIFT" "I" (.int (0 : Int32))) (S3 : Sta Z h0 "java/lang/StringUTF16" "LO_BYTE_SHIFT" "I" (.int (8 : Int32))) (E_a : Exa Z h0 a "java/lang/String") (F_0 : Fld Z h0 a "java/lang/String" "coder" "B" (.int (1 : Int32))) (F_1 : Fld Z h0 a "java/lang/String" "value" "[B" (.ref b)) (V_b : AV Z h0 b .byte 2 (lst [(.int ((ch >>> ((0 : Int32) &&& 31)).toInt8.toInt32)), (.int ((ch >>> ((8 : Int32) &&& 31)).toInt8.toInt32))])) :
    Ctr l Z (⟨"com/example/stowage/stowage/model/LineFields", "fieldEnd", "(Ljava/lang/String;I)I"⟩ : MethodName) prog_41_method_4_code 4 (some .int) ws ({ frames := 6, cells := 0, slots := 0, locals := 87 } : Room) 0 0 #[(.ref a), (.int (0 : Int32))] h0 (fun v h L => v = some (.int (1 : Int32)) ∧ L = [] ∧ h = h0) := by
  refine Ctr.mk (plainFor_of_name pn_4) fun p e s m below meth c T0 X0 C e0 => go_cast (ef_rm8U m a (0 : Int32)) ?_
  have N0 := Fr.nil n0
  obtain ⟨hx, hZ, hby, hml, hown, hnm, hret, hlk⟩ := C
  show Go _ _ _ _ _ _ _ T0 (mkF m 0 #[.val (.ref a), .val (.int (0 : Int32)), .unset, .unset] [])
  refine Go.step (fun tt kk => XS.aloadN X0.here hx rfl (hb hby d8_0) rfl rfl kk) ?_
  show Go _ _ _ _ _ _ _ T0 (mkF m 1 _ [(.ref a)])
  refine Go.step (fun tt kk => XS.bipush X0.here hx rfl (hb hby d8_1) kk) ?_
  show Go _ _ _ _ _ _ _ T0 (mkF m 3 _ [(.int (32 : Int32)), (.ref a)])
  refine Go.step (fun tt kk => XS.iloadN X0.here hx rfl (hb hby d8_3) rfl kk) ?_
  show Go _ _ _ _ _ _ _ T0 (mkF m 4 _ [(.int (0 : Int32)), (.int (32 : Int32)), (.ref a)])
  obtain ⟨v1, T1, L1, X1, q1, st1⟩ := c_virt X0 hx hZ hown (y' := (⟨"java/lang/String", "indexOf", "(II)I"⟩ : MethodName)) (y := (⟨"java/lang/String", "indexOf", "(II)I"⟩ : MethodName)) (C := "java/lang/String") (hw _ (List.mem_of_getElem? (i := 38) rfl)) (hw _ (List.mem_of_getElem? (i := 39) rfl)) (notFace_of_selects (args := #[]) (mvT hZ (hw _ (List.mem_of_getElem? (i := 41) rfl)))) (hw _ (List.mem_of_getElem? (i := 41) rfl)) (hw _ (List.mem_of_getElem? (i := 40) rfl)) (hw _ (List.mem_of_getElem? (i := 4) rfl)) (hw _ (List.mem_of_getElem? (i := 42) rfl)) (by decide) (a := a) (argsL := [(.int (32 : Int32)), (.int (0 : Int32))]) (rest := []) (rm9U_32 l Z a0 hw [] a b ch cs sf  h0 n0 Z0 hc0 hc1 hU hcs hsf S0 S4 S1 S2 S3 E_a F_0 F_1 V_b) e0 E_a pd_10 rfl (by rw [hml]; rfl) (W := 0) (by show 2 * 0 + _ ≤ _; exact Nat.le_of_eq rfl) (by decide) (by decide) (by decide) (by decide) (hb hby d8_4) (Ls := #[.val (.ref a), .val (.int (0 : Int32)), .unset, .unset])
  obtain ⟨rfl, rfl, e1⟩ := q1
  have N1 := Fr.app N0 (Fr.nil n0)
  refine Go.step (st1) ?_
  show Go _ _ _ _ _ _ _ T1 (mkF m 7 _ [(.int (-1 : Int32))])
  refine Go.step (fun tt kk => XS.istoreN X1.here hx rfl (hb hby d8_7) rfl (l' := #[.val (.ref a), .val (.int (0 : Int32)), .val (.int (-1 : Int32)), .unset]) rfl kk) ?_
  show Go _ _ _ _ _ _ _ T1 (mkF m 8 _ [])
  refine Go.step (fun tt kk => XS.aloadN X1.here hx rfl (hb hby d8_8) rfl rfl kk) ?_
  show Go _ _ _ _ _ _ _ T1 (mkF m 9 _ [(.ref a)])
  refine Go.step (fun tt kk => XS.bipush X1.here hx rfl (hb hby d8_9) kk) ?_
  show Go _ _ _ _ _ _ _ T1 (mkF m 11 _ [(.int (9 : Int32)), (.ref a)])
  refine Go.step (fun tt kk => XS.iloadN X1.here hx rfl (hb hby d8_11) rfl kk) ?_
  show Go _ _ _ _ _ _ _ T1 (mkF m 12 _ [(.int (0 : Int32)), (.int (9 : Int32)), (.ref a)])
  obtain ⟨v2, T2, L2, X2, q2, st2⟩ := c_virt X1 hx hZ hown (y' := (⟨"java/lang/String", "indexOf", "(II)I"⟩ : MethodName)) (y := (⟨"java/lang/String", "indexOf", "(II)I"⟩ : MethodName)) (C := "java/lang/String") (hw _ (List.mem_of_getElem? (i := 38) rfl)) (hw _ (List.mem_of_getElem? (i := 39) rfl)) (notFace_of_selects (args := #[]) (mvT hZ (hw _ (List.mem_of_getElem? (i := 41) rfl)))) (hw _ (List.mem_of_getElem? (i := 41) rfl)) (hw _ (List.mem_of_getElem? (i := 40) rfl)) (hw _ (List.mem_of_getElem? (i := 4) rfl)) (hw _ (List.mem_of_getElem? (i := 42) rfl)) (by decide) (a := a) (argsL := [(.int (9 : Int32)), (.int (0 : Int32))]) (rest := []) (rm9U_9 l Z a0 hw [] a b ch cs sf  h0 n0 Z0 hc0 hc1 hU hcs hsf S0 S4 S1 S2 S3 E_a F_0 F_1 V_b) e1 E_a pd_10 rfl (by rw [hml]; rfl) (W := 0) (by show 2 * 0 + _ ≤ _; exact Nat.le_of_eq rfl) (by decide) (by decide) (by decide) (by decide) (hb hby d8_12) (Ls := #[.val (.ref a), .val (.int (0 : Int32)), .val (.int (-1 : Int32)), .unset])
  obtain ⟨rfl, rfl, e2⟩ := q2
  have N2 := Fr.app N1 (Fr.nil n0)
  refine Go.step (st2) ?_
  show Go _ _ _ _ _ _ _ T2 (mkF m 15 _ [(.int (-1 : Int32))])
  refine Go.step (fun tt kk => XS.istoreN X2.here hx rfl (hb hby d8_15) rfl (l' := #[.val (.ref a), .val (.int (0 : Int32)), .val (.int (-1 : Int32)), .val (.int (-1 : Int32))]) rfl kk) ?_
  show Go _ _ _ _ _ _ _ T2 (mkF m 16 _ [])
  refine Go.step (fun tt kk => XS.iloadN X2.here hx rfl (hb hby d8_16) rfl kk) ?_
  show Go _ _ _ _ _ _ _ T2 (mkF m 17 _ [(.int (-1 : Int32))])
  refine Go.step (fun tt kk => XS.ifNo X2.here hx rfl (hb hby d8_17) rfl ((if0 _ _).trans (tlt (by decide)).2.1) kk) ?_
  show Go _ _ _ _ _ _ _ T2 (mkF m 20 _ [])
  refine Go.step (fun tt kk => XS.aloadN X2.here hx rfl (hb hby d8_20) rfl rfl kk) ?_
  show Go _ _ _ _ _ _ _ T2 (mkF m 21 _ [(.ref a)])
  obtain ⟨v3, T3, L3, X3, q3, st3⟩ := c_virt X2 hx hZ hown (y' := (⟨"java/lang/String", "length", "()I"⟩ : MethodName)) (y := (⟨"java/lang/String", "length", "()I"⟩ : MethodName)) (C := "java/lang/String") (hw _ (List.mem_of_getElem? (i := 75) rfl)) (hw _ (List.mem_of_getElem? (i := 49) rfl)) (notFace_of_selects (args := #[]) (mvT hZ (hw _ (List.mem_of_getElem? (i := 51) rfl)))) (hw _ (List.mem_of_getElem? (i := 51) rfl)) (hw _ (List.mem_of_getElem? (i := 50) rfl)) (hw _ (List.mem_of_getElem? (i := 4) rfl)) (hw _ (List.mem_of_getElem? (i := 52) rfl)) (by decide) (a := a) (argsL := []) (rest := []) (rm11U l Z a0 hw [] a b ch cs h0 n0 Z0 hcs S0 E_a F_0 F_1 V_b) e2 E_a pd_17 rfl (by rw [hml]; rfl) (W := 0) (by show 2 * 0 + _ ≤ _; exact Nat.le_of_eq rfl) (by decide) (by decide) (by decide) (by decide) (hb hby d8_21) (Ls := #[.val (.ref a), .val (.int (0 : Int32)), .val (.int (-1 : Int32)), .val (.int (-1 : Int32))])
  obtain ⟨rfl, rfl, e3⟩ := q3
  have N3 := Fr.app N2 (Fr.nil n0)
  refine Go.step (st3) ?_
  show Go _ _ _ _ _ _ _ T3 (mkF m 24 _ [(.int (1 : Int32))])
  refine Go.step (fun tt kk => XS.goto X3.here hx rfl (pc0 := 24) (pc' := 28) rfl (hb hby d8_24) (by decide) (by decide) kk) ?_
  show Go _ _ _ _ _ _ _ T3 (mkF m 28 _ [(.int (1 : Int32))])
  refine Go.step (fun tt kk => XS.iloadN X3.here hx rfl (hb hby d8_28) rfl kk) ?_
  show Go _ _ _ _ _ _ _ T3 (mkF m 29 _ [(.int (-1 : Int32)), (.int (1 : Int32))])
  refine Go.step (fun tt kk => XS.ifNo X3.here hx rfl (hb hby d8_29) rfl ((if0 _ _).trans (tlt (by decide)).2.1) kk) ?_
  show Go _ _ _ _ _ _ _ T3 (mkF m 32 _ [(.int (1 : Int32))])
  refine Go.step (fun tt kk => XS.aloadN X3.here hx rfl (hb hby d8_32) rfl rfl kk) ?_
  show Go _ _ _ _ _ _ _ T3 (mkF m 33 _ [(.ref a), (.int (1 : Int32))])
  obtain ⟨v4, T4, L4, X4, q4, st4⟩ := c_virt X3 hx hZ hown (y' := (⟨"java/lang/String", "length", "()I"⟩ : MethodName)) (y := (⟨"java/lang/String", "length", "()I"⟩ : MethodName)) (C := "java/lang/String") (hw _ (List.mem_of_getElem? (i := 75) rfl)) (hw _ (List.mem_of_getElem? (i := 49) rfl)) (notFace_of_selects (args := #[]) (mvT hZ (hw _ (List.mem_of_getElem? (i := 51) rfl)))) (hw _ (List.mem_of_getElem? (i := 51) rfl)) (hw _ (List.mem_of_getElem? (i := 50) rfl)) (hw _ (List.mem_of_getElem? (i := 4) rfl)) (hw _ (List.mem_of_getElem? (i := 52) rfl)) (by decide) (a := a) (argsL := []) (rest := [(.int (1 : Int32))]) (rm11U l Z a0 hw [] a b ch cs h0 n0 Z0 hcs S0 E_a F_0 F_1 V_b) e3 E_a pd_17 rfl (by rw [hml]; rfl) (W := 1) (by show 2 * 0 + _ ≤ _; exact Nat.le_of_eq rfl) (by decide) (by decide) (by decide) (by decide) (hb hby d8_33) (Ls := #[.val (.ref a), .val (.int (0 : Int32)), .val (.int (-1 : Int32)), .val (.int (-1 : Int32))])
  obtain ⟨rfl, rfl, e4⟩ := q4
  have N4 := Fr.app N3 (Fr.nil n0)
  refine Go.step (st4) ?_
  show Go _ _ _ _ _ _ _ T4 (mkF m 36 _ [(.int (1 : Int32)), (.int (1 : Int32))])
  refine Go.step (fun tt kk => XS.goto X4.here hx rfl (pc0 := 36) (pc' := 40) rfl (hb hby d8_36) (by decide) (by decide) kk) ?_
  show Go _ _ _ _ _ _ _ T4 (mkF m 40 _ [(.int (1 : Int32)), (.int (1 : Int32))])
  obtain ⟨v5, T5, L5, X5, q5, st5⟩ := c_static X4 hx hZ hown (y := (⟨"java/lang/Math", "min", "(II)I"⟩ : MethodName)) (hw _ (List.mem_of_getElem? (i := 76) rfl)) (hw _ (List.mem_of_getElem? (i := 70) rfl)) (hw _ (List.mem_of_getElem? (i := 67) rfl)) (hw _ (List.mem_of_getElem? (i := 71) rfl)) (by decide) (argsL := [(.int (1 : Int32)), (.int (1 : Int32))]) (rest := []) (rmmn l Z a0 hw [] (1 : Int32) (1 : Int32) h0 n0 Z0) e4 pd_10 rfl (by rw [hml]; rfl) (W := 0) (by show 2 * 0 + _ ≤ _; exact Nat.le_of_eq rfl) (by decide) (by decide) (by decide) (by decide) (hb hby d8_40) (Ls := #[.val (.ref a), .val (.int (0 : Int32)), .val (.int (-1 : Int32)), .val (.int (-1 : Int32))])
  obtain ⟨rfl, rfl, e5⟩ := q5
  have N5 := Fr.app N4 (Fr.nil n0)
  refine Go.step (st5) ?_
  show Go _ _ _ _ _ _ _ T5 (mkF m 43 _ [(.int (mn (1 : Int32) (1 : Int32)))])
  refine go_retI X5 hx hret hlk (hb hby d8_43) ?_ (by decide) (by decide)
  try rw [e5]
  exact ⟨congrArg (fun z => some (Value.int z)) (by decide), rfl, rfl⟩
theorem ef_rm7 (m : MethodId) (x0 : Int32) : entryFrame m #[(.int x0)] 1 = mkF m 0 #[.val (.int x0)] [] := by first | (simp [entryFrame, mkF, argsToLocals, Value.category]; done) | rfl
theorem d7_0 : decode prog_41_method_3_code 0 = .ok (.iload_n 0, 1) := by decide +kernel
theorem d7_1 : decode prog_41_method_3_code 1 = .ok (.bipush 32, 2) := by decide +kernel
theorem d7_3 : decode prog_41_method_3_code 3 = .ok (.if_icmp .eq 9, 3) := by decide +kernel
theorem d7_12 : decode prog_41_method_3_code 12 = .ok (.iconst 1, 1) := by decide +kernel
theorem d7_13 : decode prog_41_method_3_code 13 = .ok (.goto 4, 3) := by decide +kernel
theorem d7_17 : decode prog_41_method_3_code 17 = .ok (.ireturn, 1) := by decide +kernel
theorem d7_6 : decode prog_41_method_3_code 6 = .ok (.iload_n 0, 1) := by decide +kernel
theorem d7_7 : decode prog_41_method_3_code 7 = .ok (.bipush 9, 2) := by decide +kernel
theorem d7_9 : decode prog_41_method_3_code 9 = .ok (.if_icmp .ne 7, 3) := by decide +kernel
theorem d7_16 : decode prog_41_method_3_code 16 = .ok (.iconst 0, 1) := by decide +kernel
set_option maxRecDepth 65536 in
set_option maxHeartbeats 40000000 in
theorem rm7 (l : Launch) (Z : State) (a0 : Array Value) (hw : ∀ d ∈ tables_1, d.before a0 Z = true) (ws : List Jvm.Cond) (x : Int32) (h0 : Heap) (n0 : Nat) (Z0 : n0 ≤ h0.size)  :
    Ctr l Z (⟨"com/example/stowage/stowage/model/LineFields", "isBlank", "(C)Z"⟩ : MethodName) prog_41_method_3_code 1 (some .boolean) ws ({ frames := 0, cells := 0, slots := 0, locals := 0 } : Room) 0 0 #[(.int x)] h0 (fun v h L => v = some (.int (bi (x = 32 ∨ x = 9))) ∧ L = [] ∧ h = h0) := by
  refine Ctr.mk (plainFor_of_name pn_4) fun p e s m below meth c T0 X0 C e0 => go_cast (ef_rm7 m x) ?_
  have N0 := Fr.nil n0
  obtain ⟨hx, hZ, hby, hml, hown, hnm, hret, hlk⟩ := C
  show Go _ _ _ _ _ _ _ T0 (mkF m 0 #[.val (.int x)] [])
  refine Go.step (fun tt kk => XS.iloadN X0.here hx rfl (hb hby d7_0) rfl kk) ?_
  show Go _ _ _ _ _ _ _ T0 (mkF m 1 _ [(.int x)])
  refine Go.step (fun tt kk => XS.bipush X0.here hx rfl (hb hby d7_1) kk) ?_
  show Go _ _ _ _ _ _ _ T0 (mkF m 3 _ [(.int (32 : Int32)), (.int x)])
  by_cases c3_1 : x = (32 : Int32)
  · refine Go.step (fun tt kk => XS.icmpYes X0.here hx rfl (pc0 := 3) (pc' := 12) rfl (hb hby d7_3) rfl (teq c3_1).1 (by decide) (by decide) kk) ?_
    show Go _ _ _ _ _ _ _ T0 (mkF m 12 _ [])
    refine Go.step (fun tt kk => XS.iconst X0.here hx rfl (hb hby d7_12) kk) ?_
    show Go _ _ _ _ _ _ _ T0 (mkF m 13 _ [(.int (1 : Int32))])
    refine Go.step (fun tt kk => XS.goto X0.here hx rfl (pc0 := 13) (pc' := 17) rfl (hb hby d7_13) (by decide) (by decide) kk) ?_
    show Go _ _ _ _ _ _ _ T0 (mkF m 17 _ [(.int (1 : Int32))])
    refine go_retN X0 hx (t := .boolean) hret (by simp) hlk (hb hby d7_17) (w := (1 : Int32)) rfl ?_ (by decide) (by decide)
    try rw [e0]
    exact ⟨congrArg (fun z => some (Value.int z)) (bi_t (by simp only [eq_true c3_1, not_true_eq_false, not_false_eq_true, and_true, true_and, and_false, false_and, or_true, true_or, or_false, false_or, and_self, or_self])).symm, rfl, rfl⟩
  · refine Go.step (fun tt kk => XS.icmpNo X0.here hx rfl (hb hby d7_3) rfl (feq c3_1).1 kk) ?_
    show Go _ _ _ _ _ _ _ T0 (mkF m 6 _ [])
    refine Go.step (fun tt kk => XS.iloadN X0.here hx rfl (hb hby d7_6) rfl kk) ?_
    show Go _ _ _ _ _ _ _ T0 (mkF m 7 _ [(.int x)])
    refine Go.step (fun tt kk => XS.bipush X0.here hx rfl (hb hby d7_7) kk) ?_
    show Go _ _ _ _ _ _ _ T0 (mkF m 9 _ [(.int (9 : Int32)), (.int x)])
    by_cases c9_2 : x = (9 : Int32)
    · refine Go.step (fun tt kk => XS.icmpNo X0.here hx rfl (hb hby d7_9) rfl (teq c9_2).2 kk) ?_
      show Go _ _ _ _ _ _ _ T0 (mkF m 12 _ [])
      refine Go.step (fun tt kk => XS.iconst X0.here hx rfl (hb hby d7_12) kk) ?_
      show Go _ _ _ _ _ _ _ T0 (mkF m 13 _ [(.int (1 : Int32))])
      refine Go.step (fun tt kk => XS.goto X0.here hx rfl (pc0 := 13) (pc' := 17) rfl (hb hby d7_13) (by decide) (by decide) kk) ?_
      show Go _ _ _ _ _ _ _ T0 (mkF m 17 _ [(.int (1 : Int32))])
      refine go_retN X0 hx (t := .boolean) hret (by simp) hlk (hb hby d7_17) (w := (1 : Int32)) rfl ?_ (by decide) (by decide)
      try rw [e0]
      exact ⟨congrArg (fun z => some (Value.int z)) (bi_t (by simp only [eq_false c3_1, eq_true c9_2, not_true_eq_false, not_false_eq_true, and_true, true_and, and_false, false_and, or_true, true_or, or_false, false_or, and_self, or_self])).symm, rfl, rfl⟩
    · refine Go.step (fun tt kk => XS.icmpYes X0.here hx rfl (pc0 := 9) (pc' := 16) rfl (hb hby d7_9) rfl (feq c9_2).2 (by decide) (by decide) kk) ?_
      show Go _ _ _ _ _ _ _ T0 (mkF m 16 _ [])
      refine Go.step (fun tt kk => XS.iconst X0.here hx rfl (hb hby d7_16) kk) ?_
      show Go _ _ _ _ _ _ _ T0 (mkF m 17 _ [(.int (0 : Int32))])
      refine go_retN X0 hx (t := .boolean) hret (by simp) hlk (hb hby d7_17) (w := (0 : Int32)) rfl ?_ (by decide) (by decide)
      try rw [e0]
      exact ⟨congrArg (fun z => some (Value.int z)) (bi_f (by simp only [eq_false c3_1, eq_false c9_2, not_true_eq_false, not_false_eq_true, and_true, true_and, and_false, false_and, or_true, true_or, or_false, false_or, and_self, or_self])).symm, rfl, rfl⟩
theorem ef_rm0 (m : MethodId) (x0 : Int32) : entryFrame m #[(.int x0)] maxLocals = mkF m 0 #[.val (.int x0), .unset, .unset, .unset, .unset, .unset, .unset] [] := by first | (simp [entryFrame, mkF, argsToLocals, Value.category, maxLocals]; done) | rfl
theorem pn_5 : plainName "com/example/stowage/stowage/model/LineFieldsIsBlankPinLaw" = true := by first | (simp [plainName, overriddenIn]; done) | decide +kernel
theorem pd_18 : parseMethodDescriptor "([C)V" = some ⟨[(.array .char)], none⟩ := by decide +kernel
theorem pd_19 : parseMethodDescriptor "(C)Z" = some ⟨[.char], some .boolean⟩ := by decide +kernel
theorem pd_20 : parseMethodDescriptor "(Ljava/lang/String;I)I" = some ⟨[(.object "java/lang/String"), .int], some .int⟩ := by decide +kernel
set_option maxRecDepth 65536 in
set_option maxHeartbeats 40000000 in
theorem rm0 (l : Launch) (Z : State) (a0 : Array Value) (hw : ∀ d ∈ tables_1, d.before a0 Z = true) (ws : List Jvm.Cond) (i0 : Int32) (cs : Int32) (sf : Value)  (h0 : Heap) (n0 : Nat) (Z0 : n0 ≤ h0.size) (hcs : ¬ cs = (0 : Int32)) (hsf : sf.category = 1) (S0 : Sta Z h0 "java/lang/String" "COMPACT_STRINGS" "Z" (.int cs)) (S1 : Sta Z h0 "java/lang/StringUTF16" "$assertionsDisabled" "Z" (.int (1 : Int32))) (S2 : Sta Z h0 "java/lang/StringUTF16" "HI_BYTE_SHIFT" "I" (.int (0 : Int32))) (S3 : Sta Z h0 "java/lang/StringUTF16" "LO_BYTE_SHIFT" "I" (.int (8 : Int32))) (S4 : Sta Z h0 "jdk/internal/util/Preconditions" "SIOOBE_FORMATTER" "Ljava/util/function/BiFunction;" sf) :
    Ctr l Z x code maxLocals ret ws room_1 16 128 #[(.int i0)] h0 (fun v h L => v = some (.int (1 : Int32)) ∧ Fr n0 L) := by
  refine Ctr.mk (plainFor_of_name pn_5) fun p e s m below meth c T0 X0 C e0 => go_cast (ef_rm0 m i0) ?_
  have N0 := Fr.nil n0
  obtain ⟨hx, hZ, hby, hml, hown, hnm, hret, hlk⟩ := C
  show Go _ _ _ _ _ _ _ T0 (mkF m 0 #[.val (.int i0), .unset, .unset, .unset, .unset, .unset, .unset] [])
  refine Go.step (fun tt kk => XS.iloadN X0.here hx rfl (hb hby at_0) rfl kk) ?_
  show Go _ _ _ _ _ _ _ T0 (mkF m 1 _ [(.int i0)])
  refine Go.step (X0.ldcInt hx hown (mvT hZ (hw _ (List.mem_of_getElem? (i := 0) rfl))) (g := (mkF m 1 #[.val (.int i0), .unset, .unset, .unset, .unset, .unset, .unset] [(.int i0)])) rfl (hb hby at_1)) ?_
  show Go _ _ _ _ _ _ _ T0 (mkF m 3 _ [(.int (65535 : Int32)), (.int i0)])
  refine Go.step (fun tt kk => XS.iand X0.here hx rfl (hb hby at_3) rfl kk) ?_
  show Go _ _ _ _ _ _ _ T0 (mkF m 4 _ [(.int (i0 &&& (65535 : Int32)))])
  refine Go.step (fun tt kk => XS.i2c X0.here hx rfl (hb hby at_4) rfl kk) ?_
  show Go _ _ _ _ _ _ _ T0 (mkF m 5 _ [(.int ((i0 &&& (65535 : Int32)).toUInt32.toUInt16.toUInt32.toInt32))])
  obtain ⟨-, hc0, hc1⟩ := c_i2c (i0 &&& (65535 : Int32))
  have hcn := own_nc (i0 &&& (65535 : Int32))
  generalize ((i0 &&& (65535 : Int32)).toUInt32.toUInt16.toUInt32.toInt32) = ch at hc0 hc1 hcn ⊢
  show Go _ _ _ _ _ _ _ T0 (mkF m 5 #[.val (.int i0), .unset, .unset, .unset, .unset, .unset, .unset] [(.int ch)])
  refine Go.step (fun tt kk => XS.istoreN X0.here hx rfl (hb hby at_5) rfl (l' := #[.val (.int i0), .val (.int ch), .unset, .unset, .unset, .unset, .unset]) rfl kk) ?_
  show Go _ _ _ _ _ _ _ T0 (mkF m 6 _ [])
  refine Go.step (fun tt kk => XS.iconst X0.here hx rfl (hb hby at_6) kk) ?_
  show Go _ _ _ _ _ _ _ T0 (mkF m 7 _ [(.int (1 : Int32))])
  obtain ⟨T1, h1, k1, X1, e1, E1, A1, EA1, st1⟩ := newPE X0 hx hZ (hw _ (List.mem_of_getElem? (i := 1) rfl)) e0 (g := (mkF m 7 #[.val (.int i0), .val (.int ch), .unset, .unset, .unset, .unset, .unset] [(.int (1 : Int32))])) rfl (hb hby at_7) rfl (by decide) (cap := 1) (by decide) (by decide) (by decide) (by decide) (ad := "[C") rfl
  obtain ⟨b1, g1⟩ : ∃ z, z = h0.size := ⟨_, rfl⟩
  rw [← g1] at A1 EA1 st1
  have gn_b1 : n0 ≤ b1 := Nat.le_trans Z0 (Nat.le_of_eq g1.symm)
  have Z1 : n0 ≤ h1.size := Nat.le_trans Z0 E1.1
  have V1 : AV Z h1 b1 .char 1 (lst [(.int (0 : Int32))]) := AV.newL (AV.new A1 (by decide)) rfl
  refine Go.step (st1) ?_
  show Go _ _ _ _ _ _ _ T1 (mkF m 9 _ [(.ref b1)])
  refine Go.step (fun tt kk => XS.dup X1.here hx rfl (hb hby at_9) rfl rfl kk) ?_
  show Go _ _ _ _ _ _ _ T1 (mkF m 10 _ [(.ref b1), (.ref b1)])
  refine Go.step (fun tt kk => XS.iconst X1.here hx rfl (hb hby at_10) kk) ?_
  show Go _ _ _ _ _ _ _ T1 (mkF m 11 _ [(.int (0 : Int32)), (.ref b1), (.ref b1)])
  refine Go.step (fun tt kk => XS.iloadN X1.here hx rfl (hb hby at_11) rfl kk) ?_
  show Go _ _ _ _ _ _ _ T1 (mkF m 12 _ [(.int ch), (.int (0 : Int32)), (.ref b1), (.ref b1)])
  obtain ⟨cl2, Ar2, hin2, -⟩ := V1.at (j := (0 : Int32)) (k := 0) (by decide) (by decide)
  obtain ⟨T2, h2, X2, e2, W2, st2⟩ := stC X1 hx hZ e1 Ar2 (j := (0 : Int32)) hin2 (g := (mkF m 12 #[.val (.int i0), .val (.int ch), .unset, .unset, .unset, .unset, .unset] [(.int ch), (.int (0 : Int32)), (.ref b1), (.ref b1)])) rfl rfl (hb hby at_12)
  rw [hcn] at W2
  have V2 : AV Z h2 b1 .char 1 (lst [(.int ch)]) := AV.setL V1 (k := 0) (by decide) (by decide) W2 (Nat.le_of_ble_eq_true rfl) rfl
  have N2 := Fr.snoc X2 N0 gn_b1
  have Z2 : n0 ≤ h2.size := Nat.le_trans Z1 (Keep.of_wr W2).1
  refine Go.step (st2) ?_
  show Go _ _ _ _ _ _ _ T2 (mkF m 13 _ [(.ref b1)])
  refine Go.step (fun tt kk => XS.astoreN X2.here hx rfl (hb hby at_13) rfl rfl (l' := #[.val (.int i0), .val (.int ch), .val (.ref b1), .unset, .unset, .unset, .unset]) rfl kk) ?_
  show Go _ _ _ _ _ _ _ T2 (mkF m 14 _ [])
  by_cases hL : (255 : Int32) < ch
  · have hU := hL
    show Go _ _ _ _ _ _ _ T2 (mkF m 14 #[.val (.int i0), .val (.int ch), .val (.ref b1), .unset, .unset, .unset, .unset] [])
    obtain ⟨T3, h3, X3, e3, E3, A3, D3, -, st3⟩ := newO X2 hx hZ hown (hw _ (List.mem_of_getElem? (i := 2) rfl)) (hw _ (List.mem_of_getElem? (i := 3) rfl)) (hw _ (List.mem_of_getElem? (i := 4) rfl)) e2 (g := (mkF m 14 #[.val (.int i0), .val (.int ch), .val (.ref b1), .unset, .unset, .unset, .unset] [])) rfl (hb hby at_14) (by decide) (by decide)
    obtain ⟨b3, g3⟩ : ∃ z, z = h2.size := ⟨_, rfl⟩
    rw [← g3] at A3 D3 st3
    have f4 := (Exa.wr W2 EA1)
    have ne_b1_b3 : b1 ≠ b3 := Nat.ne_of_lt (Nat.lt_of_lt_of_le f4.lt (Nat.le_of_eq g3.symm))
    have gn_b3 : n0 ≤ b3 := Nat.le_trans Z2 (Nat.le_of_eq g3.symm)
    have Z3 : n0 ≤ h3.size := Nat.le_trans Z2 E3.1
    have F3_coder : Fld Z h3 b3 "java/lang/String" "coder" "B" (.int (0 : Int32)) := D3 (Or.inr (hw _ (List.mem_of_getElem? (i := 28) rfl))) (ty := .byte) (by decide)
    have F3_value : Fld Z h3 b3 "java/lang/String" "value" "[B" .null := D3 (Or.inr (hw _ (List.mem_of_getElem? (i := 30) rfl))) (ty := (.array .byte)) (by decide)
    refine Go.step (st3) ?_
    show Go _ _ _ _ _ _ _ T3 (mkF m 17 _ [(.ref b3)])
    refine Go.step (fun tt kk => XS.dup X3.here hx rfl (hb hby at_17) rfl rfl kk) ?_
    show Go _ _ _ _ _ _ _ T3 (mkF m 18 _ [(.ref b3), (.ref b3)])
    refine Go.step (fun tt kk => XS.aloadN X3.here hx rfl (hb hby at_18) rfl rfl kk) ?_
    show Go _ _ _ _ _ _ _ T3 (mkF m 19 _ [(.ref b1), (.ref b3), (.ref b3)])
    have f6 := (Sta.ext E3 (Sta.wr W2 (Sta.ext E1 S0)))
    have f7 := (Sta.ext E3 (Sta.wr W2 (Sta.ext E1 S1)))
    have f8 := (Sta.ext E3 (Sta.wr W2 (Sta.ext E1 S2)))
    have f9 := (Sta.ext E3 (Sta.wr W2 (Sta.ext E1 S3)))
    have f10 := (V2.ext E3)
    obtain ⟨v5, T5, L5, X5, q5, st5⟩ := c_init X3 hx hZ hown (y := (⟨"java/lang/String", "<init>", "([C)V"⟩ : MethodName)) (hw _ (List.mem_of_getElem? (i := 5) rfl)) (hw _ (List.mem_of_getElem? (i := 6) rfl)) (hw _ (List.mem_of_getElem? (i := 4) rfl)) (hw _ (List.mem_of_getElem? (i := 7) rfl)) rfl (by decide) (a := b3) (argsL := [(.ref b1)]) (rest := [(.ref b3)]) (rm1U l Z a0 hw [] b3 b1 ch cs  h3 n0 Z3 hc0 hc1 hU hcs f6 f7 f8 f9 f10 A3 F3_coder F3_value gn_b3 (Ne.symm ne_b1_b3)) e3 pd_18 rfl (by rw [hml]; rfl) (W := 1) (by show 2 * 0 + _ ≤ _; exact Nat.le_of_eq rfl) (by decide) (by decide) (by decide) (by decide) (hb hby at_19) (Ls := #[.val (.int i0), .val (.int ch), .val (.ref b1), .unset, .unset, .unset, .unset])
    have f11 := (Exa.ext E3 f4)
    generalize e5 : T5.heap = h5 at q5
    obtain ⟨bi5, rfl, N5q, K5q, sz_bi5, E5q, Fq50, Fq51, V5q⟩ := q5
    have N5 := Fr.app N2 N5q
    have Z5 : n0 ≤ h5.size := Nat.le_trans Z3 K5q.1
    have ne_b1_bi5 : b1 ≠ bi5 := Nat.ne_of_lt (Nat.lt_of_lt_of_le f11.lt sz_bi5)
    have ne_b3_bi5 : b3 ≠ bi5 := Nat.ne_of_lt (Nat.lt_of_lt_of_le A3.lt sz_bi5)
    have gn_bi5 : n0 ≤ bi5 := Nat.le_trans Z3 sz_bi5
    refine Go.step (st5) ?_
    show Go _ _ _ _ _ _ _ T5 (mkF m 22 _ [(.ref b3)])
    refine Go.step (fun tt kk => XS.astoreN X5.here hx rfl (hb hby at_22) rfl rfl (l' := #[.val (.int i0), .val (.int ch), .val (.ref b1), .val (.ref b3), .unset, .unset, .unset]) rfl kk) ?_
    show Go _ _ _ _ _ _ _ T5 (mkF m 23 _ [])
    refine Go.step (fun tt kk => XS.iloadN X5.here hx rfl (hb hby at_23) rfl kk) ?_
    show Go _ _ _ _ _ _ _ T5 (mkF m 24 _ [(.int ch)])
    obtain ⟨v12, T12, L12, X12, q12, st12⟩ := c_static X5 hx hZ hown (y := (⟨"com/example/stowage/stowage/model/LineFields", "isBlank", "(C)Z"⟩ : MethodName)) (hw _ (List.mem_of_getElem? (i := 31) rfl)) (hw _ (List.mem_of_getElem? (i := 32) rfl)) (hw _ (List.mem_of_getElem? (i := 33) rfl)) (hw _ (List.mem_of_getElem? (i := 34) rfl)) (by decide) (argsL := [(.int ch)]) (rest := []) (rm7 l Z a0 hw [] ch h5 n0 Z5) e5 pd_19 rfl (by rw [hml]; rfl) (W := 0) (by show 2 * 0 + _ ≤ _; exact Nat.le_of_eq rfl) (by decide) (by decide) (by decide) (by decide) (hb hby at_24) (Ls := #[.val (.int i0), .val (.int ch), .val (.ref b1), .val (.ref b3), .unset, .unset, .unset])
    obtain ⟨rfl, rfl, e12⟩ := q12
    have N12 := Fr.app N5 (Fr.nil n0)
    refine Go.step (st12) ?_
    show Go _ _ _ _ _ _ _ T12 (mkF m 27 _ [(.int (bi (ch = 32 ∨ ch = 9)))])
    refine Go.step (fun tt kk => XS.istore X12.here hx rfl (hb hby at_27) rfl (l' := #[.val (.int i0), .val (.int ch), .val (.ref b1), .val (.ref b3), .val (.int (bi (ch = 32 ∨ ch = 9))), .unset, .unset]) rfl kk) ?_
    show Go _ _ _ _ _ _ _ T12 (mkF m 29 _ [])
    refine Go.step (fun tt kk => XS.aloadN X12.here hx rfl (hb hby at_29) rfl rfl kk) ?_
    show Go _ _ _ _ _ _ _ T12 (mkF m 30 _ [(.ref b3)])
    refine Go.step (fun tt kk => XS.iconst X12.here hx rfl (hb hby at_30) kk) ?_
    show Go _ _ _ _ _ _ _ T12 (mkF m 31 _ [(.int (0 : Int32)), (.ref b3)])
    have f14 := (own_sta_keepW f6 K5q (allS (Exa.nst A3) all0))
    have f15 := (own_sta_keepW (Sta.ext E3 (Sta.wr W2 (Sta.ext E1 S4))) K5q (allS (Exa.nst A3) all0))
    have f16 := (own_sta_keepW f7 K5q (allS (Exa.nst A3) all0))
    have f17 := (own_sta_keepW f8 K5q (allS (Exa.nst A3) all0))
    have f18 := (own_sta_keepW f9 K5q (allS (Exa.nst A3) all0))
    obtain ⟨v13, T13, L13, X13, q13, st13⟩ := c_static X12 hx hZ hown (y := (⟨"com/example/stowage/stowage/model/LineFields", "fieldEnd", "(Ljava/lang/String;I)I"⟩ : MethodName)) (hw _ (List.mem_of_getElem? (i := 35) rfl)) (hw _ (List.mem_of_getElem? (i := 36) rfl)) (hw _ (List.mem_of_getElem? (i := 33) rfl)) (hw _ (List.mem_of_getElem? (i := 37) rfl)) (by decide) (argsL := [(.ref b3), (.int (0 : Int32))]) (rest := []) (rm8U l Z a0 hw [] b3 bi5 ch cs sf  h5 n0 Z5 hc0 hc1 hU hcs hsf f14 f15 f16 f17 f18 E5q Fq50 Fq51 V5q) e12 pd_20 rfl (by rw [hml]; rfl) (W := 0) (by show 2 * 0 + _ ≤ _; exact Nat.le_of_eq rfl) (by decide) (by decide) (by decide) (by decide) (hb hby at_31) (Ls := #[.val (.int i0), .val (.int ch), .val (.ref b1), .val (.ref b3), .val (.int (bi (ch = 32 ∨ ch = 9))), .unset, .unset])
    obtain ⟨rfl, rfl, e13⟩ := q13
    have N13 := Fr.app N12 (Fr.nil n0)
    refine Go.step (st13) ?_
    show Go _ _ _ _ _ _ _ T13 (mkF m 34 _ [(.int (1 : Int32))])
    refine Go.step (fun tt kk => XS.istore X13.here hx rfl (hb hby at_34) rfl (l' := #[.val (.int i0), .val (.int ch), .val (.ref b1), .val (.ref b3), .val (.int (bi (ch = 32 ∨ ch = 9))), .val (.int (1 : Int32)), .unset]) rfl kk) ?_
    show Go _ _ _ _ _ _ _ T13 (mkF m 36 _ [])
    refine Go.step (fun tt kk => XS.iload X13.here hx rfl (hb hby at_36) rfl kk) ?_
    show Go _ _ _ _ _ _ _ T13 (mkF m 38 _ [(.int (1 : Int32))])
    refine Go.step (fun tt kk => XS.ifYes X13.here hx rfl (pc0 := 38) (pc' := 45) rfl (hb hby at_38) rfl ((if0 _ _).trans (feq (by decide)).2) (by decide) (by decide) kk) ?_
    show Go _ _ _ _ _ _ _ T13 (mkF m 45 _ [])
    refine Go.step (fun tt kk => XS.iconst X13.here hx rfl (hb hby at_45) kk) ?_
    show Go _ _ _ _ _ _ _ T13 (mkF m 46 _ [(.int (0 : Int32))])
    refine Go.step (fun tt kk => XS.istore X13.here hx rfl (hb hby at_46) rfl (l' := #[.val (.int i0), .val (.int ch), .val (.ref b1), .val (.ref b3), .val (.int (bi (ch = 32 ∨ ch = 9))), .val (.int (1 : Int32)), .val (.int (0 : Int32))]) rfl kk) ?_
    show Go _ _ _ _ _ _ _ T13 (mkF m 48 _ [])
    refine Go.step (fun tt kk => XS.iload X13.here hx rfl (hb hby at_48) rfl kk) ?_
    show Go _ _ _ _ _ _ _ T13 (mkF m 50 _ [(.int (bi (ch = 32 ∨ ch = 9)))])
    refine Go.step (fun tt kk => XS.iload X13.here hx rfl (hb hby at_50) rfl kk) ?_
    show Go _ _ _ _ _ _ _ T13 (mkF m 52 _ [(.int (0 : Int32)), (.int (bi (ch = 32 ∨ ch = 9)))])
    refine Go.step (fun tt kk => XS.icmpNo X13.here hx rfl (hb hby at_52) rfl (teq (bi_f (own_noU hU))).2 kk) ?_
    show Go _ _ _ _ _ _ _ T13 (mkF m 55 _ [])
    refine Go.step (fun tt kk => XS.iconst X13.here hx rfl (hb hby at_55) kk) ?_
    show Go _ _ _ _ _ _ _ T13 (mkF m 56 _ [(.int (1 : Int32))])
    refine Go.step (fun tt kk => XS.goto X13.here hx rfl (pc0 := 56) (pc' := 60) rfl (hb hby at_56) (by decide) (by decide) kk) ?_
    show Go _ _ _ _ _ _ _ T13 (mkF m 60 _ [(.int (1 : Int32))])
    refine go_retN X13 hx (t := .boolean) hret (by simp) hlk (hb hby at_60) (w := (1 : Int32)) rfl ?_ (by decide) (by decide)
    try rw [e13]
    exact ⟨rfl, N13⟩
  · show Go _ _ _ _ _ _ _ T2 (mkF m 14 #[.val (.int i0), .val (.int ch), .val (.ref b1), .unset, .unset, .unset, .unset] [])
    obtain ⟨T19, h19, X19, e19, E19, A19, D19, -, st19⟩ := newO X2 hx hZ hown (hw _ (List.mem_of_getElem? (i := 2) rfl)) (hw _ (List.mem_of_getElem? (i := 3) rfl)) (hw _ (List.mem_of_getElem? (i := 4) rfl)) e2 (g := (mkF m 14 #[.val (.int i0), .val (.int ch), .val (.ref b1), .unset, .unset, .unset, .unset] [])) rfl (hb hby at_14) (by decide) (by decide)
    obtain ⟨b19, g19⟩ : ∃ z, z = h2.size := ⟨_, rfl⟩
    rw [← g19] at A19 D19 st19
    have f20 := (Exa.wr W2 EA1)
    have ne_b1_b19 : b1 ≠ b19 := Nat.ne_of_lt (Nat.lt_of_lt_of_le f20.lt (Nat.le_of_eq g19.symm))
    have gn_b19 : n0 ≤ b19 := Nat.le_trans Z2 (Nat.le_of_eq g19.symm)
    have Z19 : n0 ≤ h19.size := Nat.le_trans Z2 E19.1
    have F19_coder : Fld Z h19 b19 "java/lang/String" "coder" "B" (.int (0 : Int32)) := D19 (Or.inr (hw _ (List.mem_of_getElem? (i := 28) rfl))) (ty := .byte) (by decide)
    have F19_value : Fld Z h19 b19 "java/lang/String" "value" "[B" .null := D19 (Or.inr (hw _ (List.mem_of_getElem? (i := 30) rfl))) (ty := (.array .byte)) (by decide)
    refine Go.step (st19) ?_
    show Go _ _ _ _ _ _ _ T19 (mkF m 17 _ [(.ref b19)])
    refine Go.step (fun tt kk => XS.dup X19.here hx rfl (hb hby at_17) rfl rfl kk) ?_
    show Go _ _ _ _ _ _ _ T19 (mkF m 18 _ [(.ref b19), (.ref b19)])
    refine Go.step (fun tt kk => XS.aloadN X19.here hx rfl (hb hby at_18) rfl rfl kk) ?_
    show Go _ _ _ _ _ _ _ T19 (mkF m 19 _ [(.ref b1), (.ref b19), (.ref b19)])
    have f22 := (Sta.ext E19 (Sta.wr W2 (Sta.ext E1 S0)))
    have f23 := (V2.ext E19)
    obtain ⟨v21, T21, L21, X21, q21, st21⟩ := c_init X19 hx hZ hown (y := (⟨"java/lang/String", "<init>", "([C)V"⟩ : MethodName)) (hw _ (List.mem_of_getElem? (i := 5) rfl)) (hw _ (List.mem_of_getElem? (i := 6) rfl)) (hw _ (List.mem_of_getElem? (i := 4) rfl)) (hw _ (List.mem_of_getElem? (i := 7) rfl)) rfl (by decide) (a := b19) (argsL := [(.ref b1)]) (rest := [(.ref b19)]) (rm1L l Z a0 hw [] b19 b1 ch cs  h19 n0 Z19 hc0 hc1 hL hcs f22 f23 A19 F19_coder F19_value gn_b19 (Ne.symm ne_b1_b19)) e19 pd_18 rfl (by rw [hml]; rfl) (W := 1) (by show 2 * 0 + _ ≤ _; exact Nat.le_of_eq rfl) (by decide) (by decide) (by decide) (by decide) (hb hby at_19) (Ls := #[.val (.int i0), .val (.int ch), .val (.ref b1), .unset, .unset, .unset, .unset])
    have f24 := (Exa.ext E19 f20)
    generalize e21 : T21.heap = h21 at q21
    obtain ⟨bi21, rfl, N21q, K21q, sz_bi21, E21q, Fq210, Fq211, V21q⟩ := q21
    have N21 := Fr.app N2 N21q
    have Z21 : n0 ≤ h21.size := Nat.le_trans Z19 K21q.1
    have ne_b1_bi21 : b1 ≠ bi21 := Nat.ne_of_lt (Nat.lt_of_lt_of_le f24.lt sz_bi21)
    have ne_b19_bi21 : b19 ≠ bi21 := Nat.ne_of_lt (Nat.lt_of_lt_of_le A19.lt sz_bi21)
    have gn_bi21 : n0 ≤ bi21 := Nat.le_trans Z19 sz_bi21
    refine Go.step (st21) ?_
    show Go _ _ _ _ _ _ _ T21 (mkF m 22 _ [(.ref b19)])
    refine Go.step (fun tt kk => XS.astoreN X21.here hx rfl (hb hby at_22) rfl rfl (l' := #[.val (.int i0), .val (.int ch), .val (.ref b1), .val (.ref b19), .unset, .unset, .unset]) rfl kk) ?_
    show Go _ _ _ _ _ _ _ T21 (mkF m 23 _ [])
    refine Go.step (fun tt kk => XS.iloadN X21.here hx rfl (hb hby at_23) rfl kk) ?_
    show Go _ _ _ _ _ _ _ T21 (mkF m 24 _ [(.int ch)])
    obtain ⟨v25, T25, L25, X25, q25, st25⟩ := c_static X21 hx hZ hown (y := (⟨"com/example/stowage/stowage/model/LineFields", "isBlank", "(C)Z"⟩ : MethodName)) (hw _ (List.mem_of_getElem? (i := 31) rfl)) (hw _ (List.mem_of_getElem? (i := 32) rfl)) (hw _ (List.mem_of_getElem? (i := 33) rfl)) (hw _ (List.mem_of_getElem? (i := 34) rfl)) (by decide) (argsL := [(.int ch)]) (rest := []) (rm7 l Z a0 hw [] ch h21 n0 Z21) e21 pd_19 rfl (by rw [hml]; rfl) (W := 0) (by show 2 * 0 + _ ≤ _; exact Nat.le_of_eq rfl) (by decide) (by decide) (by decide) (by decide) (hb hby at_24) (Ls := #[.val (.int i0), .val (.int ch), .val (.ref b1), .val (.ref b19), .unset, .unset, .unset])
    obtain ⟨rfl, rfl, e25⟩ := q25
    have N25 := Fr.app N21 (Fr.nil n0)
    refine Go.step (st25) ?_
    show Go _ _ _ _ _ _ _ T25 (mkF m 27 _ [(.int (bi (ch = 32 ∨ ch = 9)))])
    refine Go.step (fun tt kk => XS.istore X25.here hx rfl (hb hby at_27) rfl (l' := #[.val (.int i0), .val (.int ch), .val (.ref b1), .val (.ref b19), .val (.int (bi (ch = 32 ∨ ch = 9))), .unset, .unset]) rfl kk) ?_
    show Go _ _ _ _ _ _ _ T25 (mkF m 29 _ [])
    refine Go.step (fun tt kk => XS.aloadN X25.here hx rfl (hb hby at_29) rfl rfl kk) ?_
    show Go _ _ _ _ _ _ _ T25 (mkF m 30 _ [(.ref b19)])
    refine Go.step (fun tt kk => XS.iconst X25.here hx rfl (hb hby at_30) kk) ?_
    show Go _ _ _ _ _ _ _ T25 (mkF m 31 _ [(.int (0 : Int32)), (.ref b19)])
    have f27 := (own_sta_keepW f22 K21q (allS (Exa.nst A19) all0))
    obtain ⟨v26, T26, L26, X26, q26, st26⟩ := c_static X25 hx hZ hown (y := (⟨"com/example/stowage/stowage/model/LineFields", "fieldEnd", "(Ljava/lang/String;I)I"⟩ : MethodName)) (hw _ (List.mem_of_getElem? (i := 35) rfl)) (hw _ (List.mem_of_getElem? (i := 36) rfl)) (hw _ (List.mem_of_getElem? (i := 33) rfl)) (hw _ (List.mem_of_getElem? (i := 37) rfl)) (by decide) (argsL := [(.ref b19), (.int (0 : Int32))]) (rest := []) (rm8L l Z a0 hw [] b19 bi21 ch cs  h21 n0 Z21 hc0 hc1 hL hcs f27 E21q Fq210 Fq211 V21q) e25 pd_20 rfl (by rw [hml]; rfl) (W := 0) (by show 2 * 0 + _ ≤ _; exact Nat.le_of_eq rfl) (by decide) (by decide) (by decide) (by decide) (hb hby at_31) (Ls := #[.val (.int i0), .val (.int ch), .val (.ref b1), .val (.ref b19), .val (.int (bi (ch = 32 ∨ ch = 9))), .unset, .unset])
    obtain ⟨rfl, rfl, e26⟩ := q26
    have N26 := Fr.app N25 (Fr.nil n0)
    refine Go.step (st26) ?_
    show Go _ _ _ _ _ _ _ T26 (mkF m 34 _ [(.int (fe ch))])
    refine Go.step (fun tt kk => XS.istore X26.here hx rfl (hb hby at_34) rfl (l' := #[.val (.int i0), .val (.int ch), .val (.ref b1), .val (.ref b19), .val (.int (bi (ch = 32 ∨ ch = 9))), .val (.int (fe ch)), .unset]) rfl kk) ?_
    show Go _ _ _ _ _ _ _ T26 (mkF m 36 _ [])
    refine Go.step (fun tt kk => XS.iload X26.here hx rfl (hb hby at_36) rfl kk) ?_
    show Go _ _ _ _ _ _ _ T26 (mkF m 38 _ [(.int (fe ch))])
    by_cases c38_28 : (fe ch) = (0 : Int32)
    · refine Go.step (fun tt kk => XS.ifNo X26.here hx rfl (hb hby at_38) rfl ((if0 _ _).trans (teq c38_28).2) kk) ?_
      show Go _ _ _ _ _ _ _ T26 (mkF m 41 _ [])
      refine Go.step (fun tt kk => XS.iconst X26.here hx rfl (hb hby at_41) kk) ?_
      show Go _ _ _ _ _ _ _ T26 (mkF m 42 _ [(.int (1 : Int32))])
      refine Go.step (fun tt kk => XS.goto X26.here hx rfl (pc0 := 42) (pc' := 46) rfl (hb hby at_42) (by decide) (by decide) kk) ?_
      show Go _ _ _ _ _ _ _ T26 (mkF m 46 _ [(.int (1 : Int32))])
      refine Go.step (fun tt kk => XS.istore X26.here hx rfl (hb hby at_46) rfl (l' := #[.val (.int i0), .val (.int ch), .val (.ref b1), .val (.ref b19), .val (.int (bi (ch = 32 ∨ ch = 9))), .val (.int (fe ch)), .val (.int (1 : Int32))]) rfl kk) ?_
      show Go _ _ _ _ _ _ _ T26 (mkF m 48 _ [])
      refine Go.step (fun tt kk => XS.iload X26.here hx rfl (hb hby at_48) rfl kk) ?_
      show Go _ _ _ _ _ _ _ T26 (mkF m 50 _ [(.int (bi (ch = 32 ∨ ch = 9)))])
      refine Go.step (fun tt kk => XS.iload X26.here hx rfl (hb hby at_50) rfl kk) ?_
      show Go _ _ _ _ _ _ _ T26 (mkF m 52 _ [(.int (1 : Int32)), (.int (bi (ch = 32 ∨ ch = 9)))])
      refine Go.step (fun tt kk => XS.icmpNo X26.here hx rfl (hb hby at_52) rfl (teq (bi_t ((own_fe ch hc0 hL).mpr c38_28))).2 kk) ?_
      show Go _ _ _ _ _ _ _ T26 (mkF m 55 _ [])
      refine Go.step (fun tt kk => XS.iconst X26.here hx rfl (hb hby at_55) kk) ?_
      show Go _ _ _ _ _ _ _ T26 (mkF m 56 _ [(.int (1 : Int32))])
      refine Go.step (fun tt kk => XS.goto X26.here hx rfl (pc0 := 56) (pc' := 60) rfl (hb hby at_56) (by decide) (by decide) kk) ?_
      show Go _ _ _ _ _ _ _ T26 (mkF m 60 _ [(.int (1 : Int32))])
      refine go_retN X26 hx (t := .boolean) hret (by simp) hlk (hb hby at_60) (w := (1 : Int32)) rfl ?_ (by decide) (by decide)
      try rw [e26]
      exact ⟨rfl, N26⟩
    · refine Go.step (fun tt kk => XS.ifYes X26.here hx rfl (pc0 := 38) (pc' := 45) rfl (hb hby at_38) rfl ((if0 _ _).trans (feq c38_28).2) (by decide) (by decide) kk) ?_
      show Go _ _ _ _ _ _ _ T26 (mkF m 45 _ [])
      refine Go.step (fun tt kk => XS.iconst X26.here hx rfl (hb hby at_45) kk) ?_
      show Go _ _ _ _ _ _ _ T26 (mkF m 46 _ [(.int (0 : Int32))])
      refine Go.step (fun tt kk => XS.istore X26.here hx rfl (hb hby at_46) rfl (l' := #[.val (.int i0), .val (.int ch), .val (.ref b1), .val (.ref b19), .val (.int (bi (ch = 32 ∨ ch = 9))), .val (.int (fe ch)), .val (.int (0 : Int32))]) rfl kk) ?_
      show Go _ _ _ _ _ _ _ T26 (mkF m 48 _ [])
      refine Go.step (fun tt kk => XS.iload X26.here hx rfl (hb hby at_48) rfl kk) ?_
      show Go _ _ _ _ _ _ _ T26 (mkF m 50 _ [(.int (bi (ch = 32 ∨ ch = 9)))])
      refine Go.step (fun tt kk => XS.iload X26.here hx rfl (hb hby at_50) rfl kk) ?_
      show Go _ _ _ _ _ _ _ T26 (mkF m 52 _ [(.int (0 : Int32)), (.int (bi (ch = 32 ∨ ch = 9)))])
      refine Go.step (fun tt kk => XS.icmpNo X26.here hx rfl (hb hby at_52) rfl (teq (bi_f (mt (own_fe ch hc0 hL).mp c38_28))).2 kk) ?_
      show Go _ _ _ _ _ _ _ T26 (mkF m 55 _ [])
      refine Go.step (fun tt kk => XS.iconst X26.here hx rfl (hb hby at_55) kk) ?_
      show Go _ _ _ _ _ _ _ T26 (mkF m 56 _ [(.int (1 : Int32))])
      refine Go.step (fun tt kk => XS.goto X26.here hx rfl (pc0 := 56) (pc' := 60) rfl (hb hby at_56) (by decide) (by decide) kk) ?_
      show Go _ _ _ _ _ _ _ T26 (mkF m 60 _ [(.int (1 : Int32))])
      refine go_retN X26 hx (t := .boolean) hret (by simp) hlk (hb hby at_60) (w := (1 : Int32)) rfl ?_ (by decide) (by decide)
      try rw [e26]
      exact ⟨rfl, N26⟩
set_option maxRecDepth 65536 in
set_option maxHeartbeats 40000000 in
theorem comes_1 {Post : Tables → Env → Array Value → State → Outcome → State → Prop} (hpost : ∀ tb e args s v u, (limb_1_1.after args s (.returned v) u = true ∧ limb_1_2.after args s (.returned v) u = true ∧ True) → FrameEnd s (.returned v) u (Jvm.fieldLocs frame_1_writes args s ++ Jvm.arrayLocs frame_1_arrays args s ++ Jvm.staticLocs frame_1_statics s) 16 128 → Post tb e args s (.returned v) u) :
    ArmFor flags0 classFile x code maxLocals ret World_1 tables_1 room_1 Calls_1 rest_1 Pre_1 Post := by
  intro l hfl _ _ p e ha hc hk s m args below hf hA hF happ hP
  obtain ⟨hcalls, hrest, hpre⟩ := hP
  obtain ⟨-, -, -, hnamed, -, -, -, hat⟩ := (Spec.applies_iff hf).mp happ
  obtain ⟨hg, hn⟩ := and_e (Cond.before_iff.mp (show (Jvm.Cond.and given_1 narrow_1).before args s = true from hpre))
  obtain ⟨hcnt, hg1⟩ := and_e hg
  obtain ⟨w0, rfl⟩ : ∃ w0 : Value, args = #[w0] := by
    have hs : args.size = 1 := by simpa [Cond.value, given_1] using hcnt
    obtain ⟨L⟩ := args
    match L, hs with
    | [w0], _ => exact ⟨w0, rfl⟩
  have hw := fun d (hd : d ∈ tables_1) => atoms_spec (ws := Jvm.Cond.code x code maxLocals ret :: tables_1) hat d (List.mem_cons_of_mem _ hd)
  have hfit : Fit s := fun {y c} hc i hi => by
    obtain ⟨ha, rfl⟩ := Array.getElem?_eq_some_iff.mp hc
    have q := List.all_eq_true.mp ((Array.all_eq_true_iff_forall_mem.mp hF) _ (Array.getElem_mem ha)) i (List.mem_range.mpr hi)
    simpa [Array.getElem?_eq_getElem hi] using q
  obtain ⟨i0, ei0⟩ := is_v hg1
  obtain rfl : w0 = (.int i0) := Option.some.inj ei0
  have hr := Cond.before_iff.mp (show rest_1_c.before _ s = true from hrest)
  obtain ⟨rw0, rr0⟩ := and_e hr
  obtain ⟨rw1, rr1⟩ := and_e rr0
  obtain ⟨rw2, rr2⟩ := and_e rr1
  obtain ⟨rw3, rr3⟩ := and_e rr2
  obtain ⟨rw4, rr4⟩ := and_e rr3
  obtain ⟨rw5, rr5⟩ := and_e rr4
  obtain ⟨rw6, rr6⟩ := and_e rr5
  obtain ⟨rw7, rr7⟩ := and_e rr6
  obtain ⟨rw8, rr8⟩ := and_e rr7
  obtain ⟨rw9, rr9⟩ := and_e rr8
  obtain ⟨rw10, rr10⟩ := and_e rr9
  obtain ⟨rw11, rr11⟩ := and_e rr10
  obtain ⟨rw12, rr12⟩ := and_e rr11
  obtain ⟨rw13, rr13⟩ := and_e rr12
  obtain ⟨rw14, rr14⟩ := and_e rr13
  obtain ⟨rw15, rr15⟩ := and_e rr14
  obtain ⟨rw16, rr16⟩ := and_e rr15
  obtain ⟨rw17, rr17⟩ := and_e rr16
  obtain ⟨rw18, rr18⟩ := and_e rr17
  obtain ⟨cs, ev0⟩ := is_v rw1
  have hcs := own_ne0 ev0 rw2
  have S0 := Sta.start ev0 (Or.inl (Cond.before_iff.mpr rw0))
  have ev1 := own_sti rw12
  have S1 := Sta.start ev1 (Or.inl (Cond.before_iff.mpr rw11))
  have ev2 := own_sti rw15
  have S2 := Sta.start ev2 (Or.inl (Cond.before_iff.mpr rw14))
  have ev3 := own_sti rw18
  have S3 := Sta.start ev3 (Or.inl (Cond.before_iff.mpr rw17))
  obtain ⟨sf, ev4, hsf⟩ := own_ref rw8
  have S4 := Sta.start ev4 (Or.inl (Cond.before_iff.mpr rw7))
  obtain ⟨n, o, h1, h2, h3, _, L, rfl, ⟨rfl, N⟩, hq⟩ := rm0 l s _ hw tables_1 i0 cs sf s.heap s.heap.size (Nat.le_refl _) hcs hsf S0 S1 S2 S3 S4 p e ha hc hk s m _ below hf ((Spec.applies_iff_loose hf).mp happ).1 ⟨rfl, State.Warmed39.refl s, rfl⟩ trivial
  refine ⟨n, _, h1, h2, h3, hpost _ _ _ _ _ _ ⟨Cond.after_iff.mpr rfl, Cond.after_iff.mpr (eq_i res_at (Term.int_eval (1)) rfl), trivial⟩ ⟨hq.1, hq.2.1, (hq.2.2.sift fun y hy => Or.inr (N y hy)).mono (by decide) (by decide)⟩⟩
theorem main_1_1 : Claimed_1_1 := comes_1 fun _ _ _ _ _ _ h hF => ⟨h.1, hF⟩
theorem main_1_2 : Claimed_1_2 := comes_1 fun _ _ _ _ _ _ h hF => ⟨h.2.1, hF⟩
end Jvm.Pilot.@@N@@
namespace Jvm.Pilot.@@N@@
open Jvm Jvm.ClassFile Sem Op Lib Jvm.Free Jvm.Stand Jvm.Pilot.@@N@@.Jvm.D
/-! MADE BY PROGRAM (witnessworld.py) out of the Statement's table words and the real class files: 21 classes; the members and pool entries that the words name. The judged class is class 1, her method 1. -/
namespace start1
open Jvm.ClassFile
def u (s : String) : CpInfo := .utf8 (stringToUtf16 s)
/-- a pool by its gaps: so many unusable entries, then the entry; so many at the end -/
def gap : Nat → List CpInfo → List CpInfo
  | 0, r => r
  | n + 1, r => .unusable :: gap n r
def poolList (es : List (Nat × CpInfo)) (last : Nat) : List CpInfo := es.foldr (fun e r => gap e.1 (e.2 :: r)) (gap last [])
def pool (es : List (Nat × CpInfo)) (last : Nat) : Array CpInfo := ⟨poolList es last⟩
def fileOf (pool : Array CpInfo) (this : Nat) (attrs : Array Attribute := #[]) (ms : Array MethodInfo := #[]) (fl : Nat := 33) (sup : Nat := 0) (ifs : Array Nat := #[]) (fds : Array FieldInfo := #[]) : ClassFile where
  minorVersion := 0
  majorVersion := 65
  constantPool := pool
  accessFlags := fl
  thisClass := this
  superClass := sup
  interfaces := ifs
  fields := fds
  methods := ms
  attributes := attrs
def plain (name : String) (sup : Option ClassId) : Class where
  name := name
  kind := .ordinary
  loader := none
  accessFlags := 33
  super := sup
  interfaces := #[]
  cf := none
  fields := #[]
  methods := #[]
  instanceTypes := #[]
  staticTypes := #[]
  resolved := #[]
  callSites := []
  init := .initialized
  statics := none
  mirror := none

def pool0 : Array CpInfo := pool [(5, u "<init>"), (0, u "()V"), (1, .class_ 10), (1, u "java/lang/Object")] 113

def k0c0 : Code := { maxStack := 0, maxLocals := 1, code := object_method_1_code, exceptionTable := #[], attributes := #[] }
def k0m0 : Method := { name := "<init>", desc := "()V", sig := { parameters := [], returnType := none }, accessFlags := 1, code := some k0c0 }
/-- java/lang/Object -/
def k0 : Class := { plain "java/lang/Object" none with
  accessFlags := 33
  interfaces := #[]
  cf := some (fileOf pool0 8 #[] #[{ accessFlags := 1, nameIndex := 5, descriptorIndex := 6, attributes := #[] }] 33 0 #[] #[])
  fields := #[]
  methods := #[k0m0]
  instanceTypes := #[]
  staticTypes := #[]
  resolved := Array.replicate 124 none
  statics := none }

def pool1 : Array CpInfo := pool [(2, .class_ 4), (1, u "java/lang/Object"), (0, u "<init>"), (0, u "()V"), (0, .integer 65535), (0, .class_ 9), (0, u "java/lang/String"), (0, .methodref 8 11), (0, .nameAndType 5 12), (0, u "([C)V"), (0, .methodref 14 15), (0, .class_ 16), (0, .nameAndType 17 18), (0, u "com/example/stowage/stowage/model/LineFields"), (0, u "isBlank"), (0, u "(C)Z"), (0, .methodref 14 20), (0, .nameAndType 21 22), (0, u "fieldEnd"), (0, u "(Ljava/lang/String;I)I"), (0, .class_ 24), (0, u "com/example/stowage/stowage/model/LineFieldsIsBlankPinLaw"), (2, u "law"), (0, u "(I)Z")] 5

def k1m0 : Method := { name := "<init>", desc := "()V", sig := { parameters := [], returnType := none }, accessFlags := 2, code := none }
def k1c1 : Code := { maxStack := 4, maxLocals := 7, code := code, exceptionTable := #[], attributes := #[] }
def k1m1 : Method := { name := "law", desc := "(I)Z", sig := { parameters := [.int], returnType := some .boolean }, accessFlags := 9, code := some k1c1 }
/-- com/example/stowage/stowage/model/LineFieldsIsBlankPinLaw -/
def k1 : Class := { plain "com/example/stowage/stowage/model/LineFieldsIsBlankPinLaw" (some 0) with
  accessFlags := 49
  interfaces := #[]
  cf := some (fileOf pool1 23 #[] #[{ accessFlags := 2, nameIndex := 5, descriptorIndex := 6, attributes := #[] }, { accessFlags := 9, nameIndex := 27, descriptorIndex := 28, attributes := #[] }] 49 2 #[] #[])
  fields := #[]
  methods := #[k1m0, k1m1]
  instanceTypes := #[]
  staticTypes := #[]
  resolved := Array.replicate 34 none
  statics := none }

def pool2 : Array CpInfo := pool [(1, .class_ 2), (0, u "java/io/Serializable"), (0, .class_ 4), (0, u "java/lang/Object")] 2

/-- java/io/Serializable -/
def k2 : Class := { plain "java/io/Serializable" (some 0) with
  accessFlags := 1537
  interfaces := #[]
  cf := some (fileOf pool2 1 #[] #[] 1537 3 #[] #[])
  fields := #[]
  methods := #[]
  instanceTypes := #[]
  staticTypes := #[]
  resolved := Array.replicate 7 none
  statics := none }

def pool3 : Array CpInfo := pool [(1, .class_ 2), (0, u "java/lang/Comparable"), (0, .class_ 4), (0, u "java/lang/Object")] 7

/-- java/lang/Comparable -/
def k3 : Class := { plain "java/lang/Comparable" (some 0) with
  accessFlags := 1537
  interfaces := #[]
  cf := some (fileOf pool3 1 #[] #[] 1537 3 #[] #[])
  fields := #[]
  methods := #[]
  instanceTypes := #[]
  staticTypes := #[]
  resolved := Array.replicate 12 none
  statics := none }

def pool4 : Array CpInfo := pool [(2, .class_ 4), (1, u "java/lang/CharSequence"), (42, .class_ 48), (0, u "java/lang/CharSequence$1CodePointIterator"), (10, .class_ 60), (0, u "java/lang/CharSequence$1CharIterator"), (5, .class_ 67), (0, u "java/lang/Object")] 63

/-- java/lang/CharSequence -/
def k4 : Class := { plain "java/lang/CharSequence" (some 0) with
  accessFlags := 1537
  interfaces := #[]
  cf := some (fileOf pool4 2 #[.nestMembers #[47, 59]] #[] 1537 66 #[] #[])
  fields := #[]
  methods := #[]
  instanceTypes := #[]
  staticTypes := #[]
  resolved := Array.replicate 131 none
  statics := none }

def pool5 : Array CpInfo := pool [(1, .class_ 2), (0, u "java/lang/constant/Constable"), (0, .class_ 4), (0, u "java/lang/Object")] 6

/-- java/lang/constant/Constable -/
def k5 : Class := { plain "java/lang/constant/Constable" (some 0) with
  accessFlags := 1537
  interfaces := #[]
  cf := some (fileOf pool5 1 #[] #[] 1537 3 #[] #[])
  fields := #[]
  methods := #[]
  instanceTypes := #[]
  staticTypes := #[]
  resolved := Array.replicate 11 none
  statics := none }

def pool6 : Array CpInfo := pool [(1, .class_ 2), (0, u "java/lang/constant/ConstantDesc"), (0, .class_ 4), (0, u "java/lang/Object")] 32

/-- java/lang/constant/ConstantDesc -/
def k6 : Class := { plain "java/lang/constant/ConstantDesc" (some 0) with
  accessFlags := 1537
  interfaces := #[]
  cf := some (fileOf pool6 1 #[] #[] 1537 3 #[] #[])
  fields := #[]
  methods := #[]
  instanceTypes := #[]
  staticTypes := #[]
  resolved := Array.replicate 37 none
  statics := none }

def pool7 : Array CpInfo := pool [(1, .methodref 2 3), (0, .class_ 4), (0, .nameAndType 5 6), (0, u "java/lang/Object"), (0, u "<init>"), (0, u "()V"), (2, .fieldref 10 11), (0, .class_ 12), (0, .nameAndType 13 14), (0, u "java/lang/String"), (0, u "value"), (0, u "[B"), (0, .fieldref 10 16), (0, .nameAndType 17 18), (0, u "coder"), (0, u "B"), (2, u "hash"), (0, u "I"), (2, u "hashIsZero"), (0, u "Z"), (0, .methodref 10 28), (0, .nameAndType 5 29), (0, u "([CIILjava/lang/Void;)V"), (8, .fieldref 10 39), (0, .nameAndType 40 26), (0, u "COMPACT_STRINGS"), (1, .class_ 44), (1, u "java/lang/StringUTF16"), (0, u "compress"), (1, .methodref 42 48), (0, .nameAndType 49 50), (0, u "coderFromArrayLen"), (0, u "([BI)B"), (56, .class_ 109), (1, u "java/lang/StringLatin1"), (32, u "()Z"), (34, .methodref 42 178), (0, .nameAndType 45 179), (0, u "([CII)[B"), (154, u "()I"), (0, .methodref 10 336), (0, .nameAndType 17 337), (0, u "()B"), (154, .methodref 10 493), (0, .nameAndType 494 142), (0, u "isLatin1"), (10, .methodref 10 506), (0, .nameAndType 507 334), (0, u "length"), (5, u "checkFromToIndex"), (9, u "checkBoundsBeginEnd"), (0, u "(III)V"), (50, .class_ 576), (0, u "java/lang/CharSequence"), (22, u "CASE_INSENSITIVE_ORDER"), (0, u "Ljava/util/Comparator;"), (34, u "indexOf"), (0, u "(II)I"), (0, .methodref 107 638), (0, .nameAndType 635 639), (0, u "([BIII)I"), (0, .methodref 42 638), (369, u "([C)V"), (42, .fieldref 1054 1055), (0, .class_ 1056), (0, .nameAndType 1057 1058), (0, u "jdk/internal/util/Preconditions"), (0, u "SIOOBE_FORMATTER"), (0, u "Ljava/util/function/BiFunction;"), (3, .methodref 1054 1063), (0, .nameAndType 513 1064), (0, u "(IIILjava/util/function/BiFunction;)I"), (36, u "serialPersistentFields"), (0, u "[Ljava/io/ObjectStreamField;"), (0, .class_ 1104), (0, u "java/lang/String$CaseInsensitiveComparator"), (1, .class_ 1107), (0, u "java/io/Serializable"), (0, .class_ 1109), (0, u "java/lang/Comparable"), (0, .class_ 1111), (0, u "java/lang/constant/Constable"), (0, .class_ 1113), (0, u "java/lang/constant/ConstantDesc"), (2, u "serialVersionUID"), (0, u "J"), (3, u "REPL"), (0, u "C"), (2, u "LATIN1"), (1, u "UTF16")] 323

def k7m0 : Method := { name := "<init>", desc := "()V", sig := { parameters := [], returnType := none }, accessFlags := 1, code := none }
def k7c1 : Code := { maxStack := 5, maxLocals := 2, code := jdk_42_method_3_code, exceptionTable := #[], attributes := #[] }
def k7m1 : Method := { name := "<init>", desc := "([C)V", sig := { parameters := [(.array .char)], returnType := none }, accessFlags := 1, code := some k7c1 }
def k7c2 : Code := { maxStack := 2, maxLocals := 1, code := jdk_42_method_54_code, exceptionTable := #[], attributes := #[] }
def k7m2 : Method := { name := "length", desc := "()I", sig := { parameters := [], returnType := some .int }, accessFlags := 1, code := some k7c2 }
def k7c3 : Code := { maxStack := 4, maxLocals := 3, code := jdk_42_method_80_code, exceptionTable := #[], attributes := #[] }
def k7m3 : Method := { name := "indexOf", desc := "(II)I", sig := { parameters := [.int, .int], returnType := some .int }, accessFlags := 1, code := some k7c3 }
def k7c4 : Code := { maxStack := 4, maxLocals := 6, code := jdk_42_method_149_code, exceptionTable := #[], attributes := #[] }
def k7m4 : Method := { name := "<init>", desc := "([CIILjava/lang/Void;)V", sig := { parameters := [(.array .char), .int, .int, (.object "java/lang/Void")], returnType := none }, accessFlags := 2, code := some k7c4 }
def k7c5 : Code := { maxStack := 1, maxLocals := 1, code := jdk_42_method_152_code, exceptionTable := #[], attributes := #[] }
def k7m5 : Method := { name := "coder", desc := "()B", sig := { parameters := [], returnType := some .byte }, accessFlags := 0, code := some k7c5 }
def k7c6 : Code := { maxStack := 1, maxLocals := 1, code := jdk_42_method_154_code, exceptionTable := #[], attributes := #[] }
def k7m6 : Method := { name := "isLatin1", desc := "()Z", sig := { parameters := [], returnType := some .boolean }, accessFlags := 0, code := some k7c6 }
def k7c7 : Code := { maxStack := 4, maxLocals := 3, code := jdk_42_method_158_code, exceptionTable := #[], attributes := #[] }
def k7m7 : Method := { name := "checkBoundsBeginEnd", desc := "(III)V", sig := { parameters := [.int, .int, .int], returnType := none }, accessFlags := 8, code := some k7c7 }
/-- java/lang/String -/
def k7 : Class := { plain "java/lang/String" (some 0) with
  accessFlags := 49
  interfaces := #[2, 3, 4, 5, 6]
  cf := some (fileOf pool7 10 #[.nestMembers #[1103]] #[{ accessFlags := 1, nameIndex := 5, descriptorIndex := 6, attributes := #[] }, { accessFlags := 1, nameIndex := 5, descriptorIndex := 1010, attributes := #[] }, { accessFlags := 1, nameIndex := 507, descriptorIndex := 334, attributes := #[] }, { accessFlags := 1, nameIndex := 635, descriptorIndex := 636, attributes := #[] }, { accessFlags := 2, nameIndex := 5, descriptorIndex := 29, attributes := #[] }, { accessFlags := 0, nameIndex := 17, descriptorIndex := 337, attributes := #[] }, { accessFlags := 0, nameIndex := 494, descriptorIndex := 142, attributes := #[] }, { accessFlags := 8, nameIndex := 523, descriptorIndex := 524, attributes := #[] }] 49 2 #[1106, 1108, 575, 1110, 1112] #[{ accessFlags := 18, nameIndex := 13, descriptorIndex := 14, attributes := #[] }, { accessFlags := 18, nameIndex := 17, descriptorIndex := 18, attributes := #[] }, { accessFlags := 2, nameIndex := 21, descriptorIndex := 22, attributes := #[] }, { accessFlags := 2, nameIndex := 25, descriptorIndex := 26, attributes := #[] }, { accessFlags := 26, nameIndex := 1116, descriptorIndex := 1117, attributes := #[] }, { accessFlags := 24, nameIndex := 40, descriptorIndex := 26, attributes := #[] }, { accessFlags := 26, nameIndex := 1101, descriptorIndex := 1102, attributes := #[] }, { accessFlags := 26, nameIndex := 1121, descriptorIndex := 1122, attributes := #[] }, { accessFlags := 25, nameIndex := 599, descriptorIndex := 600, attributes := #[] }, { accessFlags := 24, nameIndex := 1125, descriptorIndex := 18, attributes := #[] }, { accessFlags := 24, nameIndex := 1127, descriptorIndex := 18, attributes := #[] }])
  fields := #[{ name := "value", type := (.array .byte), accessFlags := 18, slot := 0, constantValue := 0 }, { name := "coder", type := .byte, accessFlags := 18, slot := 1, constantValue := 0 }, { name := "hash", type := .int, accessFlags := 2, slot := 2, constantValue := 0 }, { name := "hashIsZero", type := .boolean, accessFlags := 2, slot := 3, constantValue := 0 }, { name := "serialVersionUID", type := .long, accessFlags := 26, slot := 0, constantValue := 0 }, { name := "COMPACT_STRINGS", type := .boolean, accessFlags := 24, slot := 1, constantValue := 0 }, { name := "serialPersistentFields", type := (.array (.object "java/io/ObjectStreamField")), accessFlags := 26, slot := 2, constantValue := 0 }, { name := "REPL", type := .char, accessFlags := 26, slot := 3, constantValue := 0 }, { name := "CASE_INSENSITIVE_ORDER", type := (.object "java/util/Comparator"), accessFlags := 25, slot := 4, constantValue := 0 }, { name := "LATIN1", type := .byte, accessFlags := 24, slot := 5, constantValue := 0 }, { name := "UTF16", type := .byte, accessFlags := 24, slot := 6, constantValue := 0 }]
  methods := #[k7m0, k7m1, k7m2, k7m3, k7m4, k7m5, k7m6, k7m7]
  instanceTypes := #[(.array .byte), .byte, .int, .boolean]
  staticTypes := #[.long, .boolean, (.array (.object "java/io/ObjectStreamField")), .char, (.object "java/util/Comparator"), .byte, .byte]
  resolved := Array.replicate 1451 none
  statics := some 0 }

def pool8 : Array CpInfo := pool [(3, .class_ 4), (0, u "java/lang/String"), (1, .class_ 8), (1, u "java/lang/Object"), (0, u "<init>"), (0, u "()V"), (0, .methodref 12 13), (0, .class_ 14), (0, .nameAndType 15 16), (0, u "java/lang/StringUTF16"), (0, u "newBytesLength"), (0, u "(I)I"), (3, .integer 1073741823), (23, .fieldref 12 45), (0, .nameAndType 46 47), (0, u "$assertionsDisabled"), (0, u "Z"), (0, .methodref 12 49), (0, .nameAndType 50 51), (0, u "length"), (0, u "([B)I"), (7, .fieldref 12 60), (0, .nameAndType 61 62), (0, u "HI_BYTE_SHIFT"), (0, u "I"), (0, .fieldref 12 64), (0, .nameAndType 65 62), (0, u "LO_BYTE_SHIFT"), (5, .methodref 12 72), (0, .nameAndType 73 74), (0, u "getChar"), (0, u "([BI)C"), (21, .methodref 12 97), (0, .nameAndType 98 99), (0, u "checkBoundsBeginEnd"), (0, u "(II[B)V"), (7, .methodref 12 108), (0, .nameAndType 109 110), (0, u "newBytesFor"), (0, u "(I)[B"), (0, .methodref 12 112), (0, .nameAndType 113 114), (0, u "putChar"), (0, u "([BII)V"), (0, .methodref 12 116), (0, .nameAndType 117 118), (0, u "compress"), (0, u "([CI[BII)I"), (0, .methodref 12 120), (0, .nameAndType 121 122), (0, u "toBytes"), (0, u "([CII)[B"), (60, .methodref 184 185), (0, .class_ 186), (0, .nameAndType 187 188), (0, u "java/lang/Math"), (0, u "min"), (0, u "(II)I"), (35, .methodref 184 225), (0, .nameAndType 226 188), (0, u "max"), (0, .integer 65536), (0, .methodref 12 229), (0, .nameAndType 230 231), (0, u "indexOfChar"), (0, u "([BIII)I"), (9, .methodref 3 242), (0, .nameAndType 98 243), (0, u "(III)V"), (0, .methodref 12 245), (0, .nameAndType 246 231), (0, u "indexOfCharUnsafe"), (14, u "coderFromArrayLen"), (0, u "([BI)B"), (5, u "indexOf"), (100, .class_ 371), (1, u "java/lang/StringUTF16$LinesSpliterator"), (58, u "MAX_LENGTH"), (196, .class_ 628), (0, u "java/lang/StringUTF16$CodePointsSpliterator"), (0, .class_ 630), (0, u "java/lang/StringUTF16$CharsSpliterator")] 4

def k8m0 : Method := { name := "<init>", desc := "()V", sig := { parameters := [], returnType := none }, accessFlags := 0, code := none }
def k8c1 : Code := { maxStack := 1, maxLocals := 1, code := jdk_52_method_2_code, exceptionTable := #[], attributes := #[] }
def k8m1 : Method := { name := "newBytesFor", desc := "(I)[B", sig := { parameters := [.int], returnType := some (.array .byte) }, accessFlags := 9, code := some k8c1 }
def k8c2 : Code := { maxStack := 4, maxLocals := 1, code := jdk_52_method_3_code, exceptionTable := #[], attributes := #[] }
def k8m2 : Method := { name := "newBytesLength", desc := "(I)I", sig := { parameters := [.int], returnType := some .int }, accessFlags := 9, code := some k8c2 }
def k8c3 : Code := { maxStack := 4, maxLocals := 3, code := jdk_52_method_4_code, exceptionTable := #[], attributes := #[] }
def k8m3 : Method := { name := "putChar", desc := "([BII)V", sig := { parameters := [(.array .byte), .int, .int], returnType := none }, accessFlags := 8, code := some k8c3 }
def k8c4 : Code := { maxStack := 3, maxLocals := 2, code := jdk_52_method_5_code, exceptionTable := #[], attributes := #[] }
def k8m4 : Method := { name := "getChar", desc := "([BI)C", sig := { parameters := [(.array .byte), .int], returnType := some .char }, accessFlags := 8, code := some k8c4 }
def k8c5 : Code := { maxStack := 2, maxLocals := 1, code := jdk_52_method_6_code, exceptionTable := #[], attributes := #[] }
def k8m5 : Method := { name := "length", desc := "([B)I", sig := { parameters := [(.array .byte)], returnType := some .int }, accessFlags := 9, code := some k8c5 }
def k8c6 : Code := { maxStack := 4, maxLocals := 5, code := jdk_52_method_14_code, exceptionTable := #[], attributes := #[] }
def k8m6 : Method := { name := "toBytes", desc := "([CII)[B", sig := { parameters := [(.array .char), .int, .int], returnType := some (.array .byte) }, accessFlags := 9, code := some k8c6 }
def k8c7 : Code := { maxStack := 2, maxLocals := 2, code := jdk_52_method_15_code, exceptionTable := #[], attributes := #[] }
def k8m7 : Method := { name := "coderFromArrayLen", desc := "([BI)B", sig := { parameters := [(.array .byte), .int], returnType := some .byte }, accessFlags := 8, code := some k8c7 }
def k8c8 : Code := { maxStack := 5, maxLocals := 6, code := jdk_52_method_16_code, exceptionTable := #[], attributes := #[] }
def k8m8 : Method := { name := "compress", desc := "([CII)[B", sig := { parameters := [(.array .char), .int, .int], returnType := some (.array .byte) }, accessFlags := 9, code := some k8c8 }
def k8c9 : Code := { maxStack := 3, maxLocals := 7, code := jdk_52_method_21_code, exceptionTable := #[], attributes := #[] }
def k8m9 : Method := { name := "compress", desc := "([CI[BII)I", sig := { parameters := [(.array .char), .int, (.array .byte), .int, .int], returnType := some .int }, accessFlags := 9, code := some k8c9 }
def k8c10 : Code := { maxStack := 4, maxLocals := 4, code := jdk_52_method_40_code, exceptionTable := #[], attributes := #[] }
def k8m10 : Method := { name := "indexOf", desc := "([BIII)I", sig := { parameters := [(.array .byte), .int, .int, .int], returnType := some .int }, accessFlags := 9, code := some k8c10 }
def k8c11 : Code := { maxStack := 4, maxLocals := 4, code := jdk_52_method_47_code, exceptionTable := #[], attributes := #[] }
def k8m11 : Method := { name := "indexOfChar", desc := "([BIII)I", sig := { parameters := [(.array .byte), .int, .int, .int], returnType := some .int }, accessFlags := 10, code := some k8c11 }
def k8c12 : Code := { maxStack := 2, maxLocals := 5, code := jdk_52_method_48_code, exceptionTable := #[], attributes := #[] }
def k8m12 : Method := { name := "indexOfCharUnsafe", desc := "([BIII)I", sig := { parameters := [(.array .byte), .int, .int, .int], returnType := some .int }, accessFlags := 10, code := some k8c12 }
def k8c13 : Code := { maxStack := 3, maxLocals := 3, code := jdk_52_method_93_code, exceptionTable := #[], attributes := #[] }
def k8m13 : Method := { name := "checkBoundsBeginEnd", desc := "(II[B)V", sig := { parameters := [.int, .int, (.array .byte)], returnType := none }, accessFlags := 9, code := some k8c13 }
/-- java/lang/StringUTF16 -/
def k8 : Class := { plain "java/lang/StringUTF16" (some 0) with
  accessFlags := 48
  interfaces := #[]
  cf := some (fileOf pool8 12 #[.nestMembers #[627, 629, 369]] #[{ accessFlags := 0, nameIndex := 9, descriptorIndex := 10, attributes := #[] }, { accessFlags := 9, nameIndex := 109, descriptorIndex := 110, attributes := #[] }, { accessFlags := 9, nameIndex := 15, descriptorIndex := 16, attributes := #[] }, { accessFlags := 8, nameIndex := 113, descriptorIndex := 114, attributes := #[] }, { accessFlags := 8, nameIndex := 73, descriptorIndex := 74, attributes := #[] }, { accessFlags := 9, nameIndex := 50, descriptorIndex := 51, attributes := #[] }, { accessFlags := 9, nameIndex := 121, descriptorIndex := 122, attributes := #[] }, { accessFlags := 8, nameIndex := 261, descriptorIndex := 262, attributes := #[] }, { accessFlags := 9, nameIndex := 117, descriptorIndex := 122, attributes := #[] }, { accessFlags := 9, nameIndex := 117, descriptorIndex := 118, attributes := #[] }, { accessFlags := 9, nameIndex := 268, descriptorIndex := 231, attributes := #[] }, { accessFlags := 10, nameIndex := 230, descriptorIndex := 231, attributes := #[] }, { accessFlags := 10, nameIndex := 246, descriptorIndex := 231, attributes := #[] }, { accessFlags := 9, nameIndex := 98, descriptorIndex := 99, attributes := #[] }] 48 6 #[] #[{ accessFlags := 26, nameIndex := 61, descriptorIndex := 62, attributes := #[] }, { accessFlags := 26, nameIndex := 65, descriptorIndex := 62, attributes := #[] }, { accessFlags := 24, nameIndex := 430, descriptorIndex := 62, attributes := #[] }, { accessFlags := 4120, nameIndex := 46, descriptorIndex := 47, attributes := #[] }])
  fields := #[{ name := "HI_BYTE_SHIFT", type := .int, accessFlags := 26, slot := 0, constantValue := 0 }, { name := "LO_BYTE_SHIFT", type := .int, accessFlags := 26, slot := 1, constantValue := 0 }, { name := "MAX_LENGTH", type := .int, accessFlags := 24, slot := 2, constantValue := 0 }, { name := "$assertionsDisabled", type := .boolean, accessFlags := 4120, slot := 3, constantValue := 0 }]
  methods := #[k8m0, k8m1, k8m2, k8m3, k8m4, k8m5, k8m6, k8m7, k8m8, k8m9, k8m10, k8m11, k8m12, k8m13]
  instanceTypes := #[]
  staticTypes := #[.int, .int, .int, .boolean]
  resolved := Array.replicate 635 none
  statics := some 1 }

def pool9 : Array CpInfo := pool [(2, .class_ 4), (1, u "java/lang/Object"), (0, u "<init>"), (0, u "()V"), (0, .class_ 8), (0, u "com/example/stowage/stowage/model/LineFields"), (1, .class_ 12), (1, u "java/lang/String"), (0, u "indexOf"), (1, .methodref 10 16), (0, .nameAndType 13 17), (0, u "(II)I"), (0, .methodref 10 19), (0, .nameAndType 20 21), (0, u "length"), (0, u "()I"), (0, .methodref 23 24), (0, .class_ 25), (0, .nameAndType 26 17), (0, u "java/lang/Math"), (0, u "min"), (6, u "isBlank"), (0, u "(C)Z"), (3, u "(Ljava/lang/String;I)I"), (4, u "NUL"), (0, u "C"), (7, u "fieldEnd")] 5

def k9m0 : Method := { name := "<init>", desc := "()V", sig := { parameters := [], returnType := none }, accessFlags := 2, code := none }
def k9c1 : Code := { maxStack := 2, maxLocals := 1, code := prog_41_method_3_code, exceptionTable := #[], attributes := #[] }
def k9m1 : Method := { name := "isBlank", desc := "(C)Z", sig := { parameters := [.char], returnType := some .boolean }, accessFlags := 8, code := some k9c1 }
def k9c2 : Code := { maxStack := 3, maxLocals := 4, code := prog_41_method_4_code, exceptionTable := #[], attributes := #[] }
def k9m2 : Method := { name := "fieldEnd", desc := "(Ljava/lang/String;I)I", sig := { parameters := [(.object "java/lang/String"), .int], returnType := some .int }, accessFlags := 8, code := some k9c2 }
/-- com/example/stowage/stowage/model/LineFields -/
def k9 : Class := { plain "com/example/stowage/stowage/model/LineFields" (some 0) with
  accessFlags := 48
  interfaces := #[]
  cf := some (fileOf pool9 7 #[] #[{ accessFlags := 2, nameIndex := 5, descriptorIndex := 6, attributes := #[] }, { accessFlags := 8, nameIndex := 33, descriptorIndex := 34, attributes := #[] }, { accessFlags := 8, nameIndex := 52, descriptorIndex := 38, attributes := #[] }] 48 2 #[] #[{ accessFlags := 26, nameIndex := 43, descriptorIndex := 44, attributes := #[] }])
  fields := #[{ name := "NUL", type := .char, accessFlags := 26, slot := 0, constantValue := 0 }]
  methods := #[k9m0, k9m1, k9m2]
  instanceTypes := #[]
  staticTypes := #[.char]
  resolved := Array.replicate 58 none
  statics := none }

def pool10 : Array CpInfo := pool [(4, .class_ 6), (1, u "java/lang/Object"), (0, u "<init>"), (0, u "()V"), (5, .class_ 16), (1, u "java/lang/StringLatin1"), (21, .methodref 39 40), (0, .class_ 41), (0, .nameAndType 42 43), (0, u "java/lang/Math"), (0, u "min"), (0, u "(II)I"), (44, .methodref 14 89), (0, .nameAndType 90 91), (0, u "canEncode"), (0, u "(I)Z"), (0, .methodref 39 93), (0, .nameAndType 94 43), (0, u "max"), (0, .methodref 14 96), (0, .nameAndType 97 98), (0, u "indexOfChar"), (0, u "([BIII)I"), (2, u "indexOf"), (19, u "$assertionsDisabled"), (0, u "Z"), (98, .class_ 223), (1, u "java/lang/StringLatin1$LinesSpliterator"), (166, .class_ 391), (0, u "java/lang/StringLatin1$CharsSpliterator")] 3

def k10m0 : Method := { name := "<init>", desc := "()V", sig := { parameters := [], returnType := none }, accessFlags := 0, code := none }
def k10c1 : Code := { maxStack := 2, maxLocals := 1, code := jdk_43_method_4_code, exceptionTable := #[], attributes := #[] }
def k10m1 : Method := { name := "canEncode", desc := "(I)Z", sig := { parameters := [.int], returnType := some .boolean }, accessFlags := 9, code := some k10c1 }
def k10c2 : Code := { maxStack := 4, maxLocals := 4, code := jdk_43_method_22_code, exceptionTable := #[], attributes := #[] }
def k10m2 : Method := { name := "indexOf", desc := "([BIII)I", sig := { parameters := [(.array .byte), .int, .int, .int], returnType := some .int }, accessFlags := 9, code := some k10c2 }
def k10c3 : Code := { maxStack := 2, maxLocals := 6, code := jdk_43_method_23_code, exceptionTable := #[], attributes := #[] }
def k10m3 : Method := { name := "indexOfChar", desc := "([BIII)I", sig := { parameters := [(.array .byte), .int, .int, .int], returnType := some .int }, accessFlags := 10, code := some k10c3 }
/-- java/lang/StringLatin1 -/
def k10 : Class := { plain "java/lang/StringLatin1" (some 0) with
  accessFlags := 48
  interfaces := #[]
  cf := some (fileOf pool10 14 #[.nestMembers #[390, 221]] #[{ accessFlags := 0, nameIndex := 7, descriptorIndex := 8, attributes := #[] }, { accessFlags := 9, nameIndex := 90, descriptorIndex := 91, attributes := #[] }, { accessFlags := 9, nameIndex := 101, descriptorIndex := 98, attributes := #[] }, { accessFlags := 10, nameIndex := 97, descriptorIndex := 98, attributes := #[] }] 48 4 #[] #[{ accessFlags := 4120, nameIndex := 121, descriptorIndex := 122, attributes := #[] }])
  fields := #[{ name := "$assertionsDisabled", type := .boolean, accessFlags := 4120, slot := 0, constantValue := 0 }]
  methods := #[k10m0, k10m1, k10m2, k10m3]
  instanceTypes := #[]
  staticTypes := #[.boolean]
  resolved := Array.replicate 395 none
  statics := none }

def pool11 : Array CpInfo := pool [(1, .class_ 2), (0, u "java/lang/Math"), (1, .class_ 6), (1, u "java/lang/Object"), (0, u "<init>"), (0, u "()V"), (89, .class_ 100), (1, u "java/lang/Math$RandomNumberGeneratorHolder"), (71, u "negativeZeroFloatBits"), (0, u "J"), (2, u "negativeZeroDoubleBits"), (21, u "max"), (2, u "min"), (43, u "$assertionsDisabled"), (0, u "Z"), (88, u "(II)I"), (2, u "twoToTheDoubleScaleDown"), (0, u "D"), (4, u "twoToTheDoubleScaleUp"), (9, u "E"), (3, u "PI"), (2, u "TAU"), (2, u "DEGREES_TO_RADIANS"), (0, u "RADIANS_TO_DEGREES")] 94

def k11m0 : Method := { name := "<init>", desc := "()V", sig := { parameters := [], returnType := none }, accessFlags := 2, code := none }
def k11c1 : Code := { maxStack := 2, maxLocals := 2, code := jdk_29_method_65_code, exceptionTable := #[], attributes := #[] }
def k11m1 : Method := { name := "max", desc := "(II)I", sig := { parameters := [.int, .int], returnType := some .int }, accessFlags := 9, code := some k11c1 }
def k11c2 : Code := { maxStack := 2, maxLocals := 2, code := jdk_29_method_69_code, exceptionTable := #[], attributes := #[] }
def k11m2 : Method := { name := "min", desc := "(II)I", sig := { parameters := [.int, .int], returnType := some .int }, accessFlags := 9, code := some k11c2 }
/-- java/lang/Math -/
def k11 : Class := { plain "java/lang/Math" (some 0) with
  accessFlags := 49
  interfaces := #[]
  cf := some (fileOf pool11 1 #[.nestMembers #[98]] #[{ accessFlags := 2, nameIndex := 7, descriptorIndex := 8, attributes := #[] }, { accessFlags := 9, nameIndex := 198, descriptorIndex := 335, attributes := #[] }, { accessFlags := 9, nameIndex := 201, descriptorIndex := 335, attributes := #[] }] 49 4 #[] #[{ accessFlags := 25, nameIndex := 354, descriptorIndex := 339, attributes := #[] }, { accessFlags := 25, nameIndex := 358, descriptorIndex := 339, attributes := #[] }, { accessFlags := 25, nameIndex := 361, descriptorIndex := 339, attributes := #[] }, { accessFlags := 26, nameIndex := 364, descriptorIndex := 339, attributes := #[] }, { accessFlags := 26, nameIndex := 365, descriptorIndex := 339, attributes := #[] }, { accessFlags := 26, nameIndex := 172, descriptorIndex := 173, attributes := #[] }, { accessFlags := 26, nameIndex := 176, descriptorIndex := 173, attributes := #[] }, { accessFlags := 8, nameIndex := 344, descriptorIndex := 339, attributes := #[] }, { accessFlags := 8, nameIndex := 338, descriptorIndex := 339, attributes := #[] }, { accessFlags := 4120, nameIndex := 245, descriptorIndex := 246, attributes := #[] }])
  fields := #[{ name := "E", type := .double, accessFlags := 25, slot := 0, constantValue := 0 }, { name := "PI", type := .double, accessFlags := 25, slot := 1, constantValue := 0 }, { name := "TAU", type := .double, accessFlags := 25, slot := 2, constantValue := 0 }, { name := "DEGREES_TO_RADIANS", type := .double, accessFlags := 26, slot := 3, constantValue := 0 }, { name := "RADIANS_TO_DEGREES", type := .double, accessFlags := 26, slot := 4, constantValue := 0 }, { name := "negativeZeroFloatBits", type := .long, accessFlags := 26, slot := 5, constantValue := 0 }, { name := "negativeZeroDoubleBits", type := .long, accessFlags := 26, slot := 6, constantValue := 0 }, { name := "twoToTheDoubleScaleUp", type := .double, accessFlags := 8, slot := 7, constantValue := 0 }, { name := "twoToTheDoubleScaleDown", type := .double, accessFlags := 8, slot := 8, constantValue := 0 }, { name := "$assertionsDisabled", type := .boolean, accessFlags := 4120, slot := 9, constantValue := 0 }]
  methods := #[k11m0, k11m1, k11m2]
  instanceTypes := #[]
  staticTypes := #[.double, .double, .double, .double, .double, .long, .long, .double, .double, .boolean]
  resolved := Array.replicate 460 none
  statics := none }

def pool12 : Array CpInfo := pool [(2, .class_ 4), (1, u "java/lang/Object"), (0, u "<init>"), (0, u "()V"), (17, .class_ 26), (1, u "jdk/internal/util/Preconditions"), (20, u "checkFromToIndex"), (7, .class_ 56), (0, u "jdk/internal/util/Preconditions$4"), (57, .class_ 115), (0, u "jdk/internal/util/Preconditions$1"), (7, u "SIOOBE_FORMATTER"), (0, u "Ljava/util/function/BiFunction;"), (0, .class_ 126), (0, u "jdk/internal/util/Preconditions$2"), (3, u "AIOOBE_FORMATTER"), (0, .class_ 132), (0, u "jdk/internal/util/Preconditions$3"), (3, u "IOOBE_FORMATTER"), (46, u "(IIILjava/util/function/BiFunction;)I")] 10

def k12m0 : Method := { name := "<init>", desc := "()V", sig := { parameters := [], returnType := none }, accessFlags := 1, code := none }
def k12c1 : Code := { maxStack := 4, maxLocals := 4, code := jdk_41_method_12_code, exceptionTable := #[], attributes := #[] }
def k12m1 : Method := { name := "checkFromToIndex", desc := "(IIILjava/util/function/BiFunction;)I", sig := { parameters := [.int, .int, .int, (.object "java/util/function/BiFunction")], returnType := some .int }, accessFlags := 9, code := some k12c1 }
/-- jdk/internal/util/Preconditions -/
def k12 : Class := { plain "jdk/internal/util/Preconditions" (some 0) with
  accessFlags := 33
  interfaces := #[]
  cf := some (fileOf pool12 24 #[.nestMembers #[55, 131, 125, 114]] #[{ accessFlags := 1, nameIndex := 5, descriptorIndex := 6, attributes := #[] }, { accessFlags := 9, nameIndex := 47, descriptorIndex := 183, attributes := #[] }] 33 2 #[] #[{ accessFlags := 25, nameIndex := 123, descriptorIndex := 124, attributes := #[] }, { accessFlags := 25, nameIndex := 130, descriptorIndex := 124, attributes := #[] }, { accessFlags := 25, nameIndex := 136, descriptorIndex := 124, attributes := #[] }])
  fields := #[{ name := "SIOOBE_FORMATTER", type := (.object "java/util/function/BiFunction"), accessFlags := 25, slot := 0, constantValue := 0 }, { name := "AIOOBE_FORMATTER", type := (.object "java/util/function/BiFunction"), accessFlags := 25, slot := 1, constantValue := 0 }, { name := "IOOBE_FORMATTER", type := (.object "java/util/function/BiFunction"), accessFlags := 25, slot := 2, constantValue := 0 }]
  methods := #[k12m0, k12m1]
  instanceTypes := #[]
  staticTypes := #[(.object "java/util/function/BiFunction"), (.object "java/util/function/BiFunction"), (.object "java/util/function/BiFunction")]
  resolved := Array.replicate 194 none
  statics := some 2 }

def pool13 : Array CpInfo := pool [(9, u "<init>"), (6, .class_ 18), (1, u "java/lang/Object"), (0, u "()V"), (1, .class_ 23), (1, u "jdk/internal/util/ArraysSupport"), (0, u "LOG2_ARRAY_LONG_INDEX_SCALE"), (0, u "I"), (2, u "U"), (0, u "Ljdk/internal/misc/Unsafe;"), (8, u "BIG_ENDIAN"), (0, u "Z"), (8, u "LOG2_BYTE_BIT_SIZE"), (4, u "LOG2_ARRAY_INT_INDEX_SCALE"), (54, u "JLA"), (0, u "Ljdk/internal/access/JavaLangAccess;"), (11, u "LOG2_ARRAY_BOOLEAN_INDEX_SCALE"), (9, u "LOG2_ARRAY_BYTE_INDEX_SCALE"), (5, u "LOG2_ARRAY_CHAR_INDEX_SCALE"), (5, u "LOG2_ARRAY_SHORT_INDEX_SCALE"), (18, u "LOG2_ARRAY_FLOAT_INDEX_SCALE"), (24, u "LOG2_ARRAY_DOUBLE_INDEX_SCALE"), (89, u "T_BOOLEAN"), (2, u "T_CHAR"), (1, u "T_FLOAT"), (1, u "T_DOUBLE"), (1, u "T_BYTE"), (1, u "T_SHORT"), (1, u "T_INT"), (1, u "T_LONG"), (1, u "SOFT_MAX_ARRAY_LENGTH")] 83

def k13m0 : Method := { name := "<init>", desc := "()V", sig := { parameters := [], returnType := none }, accessFlags := 2, code := none }
/-- jdk/internal/util/ArraysSupport -/
def k13 : Class := { plain "jdk/internal/util/ArraysSupport" (some 0) with
  accessFlags := 33
  interfaces := #[]
  cf := some (fileOf pool13 21 #[] #[{ accessFlags := 2, nameIndex := 9, descriptorIndex := 19, attributes := #[] }] 33 16 #[] #[{ accessFlags := 24, nameIndex := 28, descriptorIndex := 29, attributes := #[] }, { accessFlags := 26, nameIndex := 38, descriptorIndex := 39, attributes := #[] }, { accessFlags := 25, nameIndex := 121, descriptorIndex := 25, attributes := #[] }, { accessFlags := 25, nameIndex := 131, descriptorIndex := 25, attributes := #[] }, { accessFlags := 25, nameIndex := 137, descriptorIndex := 25, attributes := #[] }, { accessFlags := 25, nameIndex := 143, descriptorIndex := 25, attributes := #[] }, { accessFlags := 25, nameIndex := 53, descriptorIndex := 25, attributes := #[] }, { accessFlags := 25, nameIndex := 24, descriptorIndex := 25, attributes := #[] }, { accessFlags := 25, nameIndex := 162, descriptorIndex := 25, attributes := #[] }, { accessFlags := 25, nameIndex := 187, descriptorIndex := 25, attributes := #[] }, { accessFlags := 26, nameIndex := 48, descriptorIndex := 25, attributes := #[] }, { accessFlags := 25, nameIndex := 277, descriptorIndex := 25, attributes := #[] }, { accessFlags := 25, nameIndex := 280, descriptorIndex := 25, attributes := #[] }, { accessFlags := 25, nameIndex := 282, descriptorIndex := 25, attributes := #[] }, { accessFlags := 25, nameIndex := 284, descriptorIndex := 25, attributes := #[] }, { accessFlags := 25, nameIndex := 286, descriptorIndex := 25, attributes := #[] }, { accessFlags := 25, nameIndex := 288, descriptorIndex := 25, attributes := #[] }, { accessFlags := 25, nameIndex := 290, descriptorIndex := 25, attributes := #[] }, { accessFlags := 25, nameIndex := 292, descriptorIndex := 25, attributes := #[] }, { accessFlags := 26, nameIndex := 108, descriptorIndex := 109, attributes := #[] }, { accessFlags := 25, nameIndex := 294, descriptorIndex := 25, attributes := #[] }])
  fields := #[{ name := "U", type := (.object "jdk/internal/misc/Unsafe"), accessFlags := 24, slot := 0, constantValue := 0 }, { name := "BIG_ENDIAN", type := .boolean, accessFlags := 26, slot := 1, constantValue := 0 }, { name := "LOG2_ARRAY_BOOLEAN_INDEX_SCALE", type := .int, accessFlags := 25, slot := 2, constantValue := 0 }, { name := "LOG2_ARRAY_BYTE_INDEX_SCALE", type := .int, accessFlags := 25, slot := 3, constantValue := 0 }, { name := "LOG2_ARRAY_CHAR_INDEX_SCALE", type := .int, accessFlags := 25, slot := 4, constantValue := 0 }, { name := "LOG2_ARRAY_SHORT_INDEX_SCALE", type := .int, accessFlags := 25, slot := 5, constantValue := 0 }, { name := "LOG2_ARRAY_INT_INDEX_SCALE", type := .int, accessFlags := 25, slot := 6, constantValue := 0 }, { name := "LOG2_ARRAY_LONG_INDEX_SCALE", type := .int, accessFlags := 25, slot := 7, constantValue := 0 }, { name := "LOG2_ARRAY_FLOAT_INDEX_SCALE", type := .int, accessFlags := 25, slot := 8, constantValue := 0 }, { name := "LOG2_ARRAY_DOUBLE_INDEX_SCALE", type := .int, accessFlags := 25, slot := 9, constantValue := 0 }, { name := "LOG2_BYTE_BIT_SIZE", type := .int, accessFlags := 26, slot := 10, constantValue := 0 }, { name := "T_BOOLEAN", type := .int, accessFlags := 25, slot := 11, constantValue := 0 }, { name := "T_CHAR", type := .int, accessFlags := 25, slot := 12, constantValue := 0 }, { name := "T_FLOAT", type := .int, accessFlags := 25, slot := 13, constantValue := 0 }, { name := "T_DOUBLE", type := .int, accessFlags := 25, slot := 14, constantValue := 0 }, { name := "T_BYTE", type := .int, accessFlags := 25, slot := 15, constantValue := 0 }, { name := "T_SHORT", type := .int, accessFlags := 25, slot := 16, constantValue := 0 }, { name := "T_INT", type := .int, accessFlags := 25, slot := 17, constantValue := 0 }, { name := "T_LONG", type := .int, accessFlags := 25, slot := 18, constantValue := 0 }, { name := "JLA", type := (.object "jdk/internal/access/JavaLangAccess"), accessFlags := 26, slot := 19, constantValue := 0 }, { name := "SOFT_MAX_ARRAY_LENGTH", type := .int, accessFlags := 25, slot := 20, constantValue := 0 }]
  methods := #[k13m0]
  instanceTypes := #[]
  staticTypes := #[(.object "jdk/internal/misc/Unsafe"), .boolean, .int, .int, .int, .int, .int, .int, .int, .int, .int, .int, .int, .int, .int, .int, .int, .int, .int, (.object "jdk/internal/access/JavaLangAccess"), .int]
  resolved := Array.replicate 378 none
  statics := none }

def pool14 : Array CpInfo := pool [(1, u "java/lang/Cloneable"), (0, .class_ 1), (0, u "java/lang/Object"), (0, .class_ 3)] 3

/-- java/lang/Cloneable -/
def k14 : Class := { plain "java/lang/Cloneable" (some 0) with
  accessFlags := 1537
  interfaces := #[]
  cf := some (fileOf pool14 2 #[] #[] 1537 4 #[] #[])
  fields := #[]
  methods := #[]
  instanceTypes := #[]
  staticTypes := #[]
  resolved := Array.replicate 8 none
  statics := none }

/-- the primitive byte -/
def k15 : Class := { plain "byte" none with kind := .primitive 'B', accessFlags := 0x411 }
/-- [B -/
def k16 : Class := { plain "[B" (some 0) with kind := .array 15 .byte, interfaces := #[14, 2], accessFlags := 1041 }

/-- the primitive char -/
def k17 : Class := { plain "char" none with kind := .primitive 'C', accessFlags := 0x411 }
/-- [C -/
def k18 : Class := { plain "[C" (some 0) with kind := .array 17 .char, interfaces := #[14, 2], accessFlags := 1041 }

/-- the primitive int -/
def k19 : Class := { plain "int" none with kind := .primitive 'I', accessFlags := 0x411 }
/-- [I -/
def k20 : Class := { plain "[I" (some 0) with kind := .array 19 .int, interfaces := #[14, 2], accessFlags := 1041 }

def heap : Heap := #[{ cls := 7, slots := #[.long 0, .int 1, .null, .int 0, .null, .int 0, .int 0], vm := .statics 7 },
  { cls := 8, slots := #[.int 0, .int 8, .int 0, .int 1], vm := .statics 8 },
  { cls := 12, slots := #[.null, .null, .null], vm := .statics 12 }]
def classes : Array Class := #[k0, k1, k2, k3, k4, k5, k6, k7, k8, k9, k10, k11, k12, k13, k14, k15, k16, k17, k18, k19, k20]
def interned : List (Array UInt16 × Addr) := []
def slotsUsed : Nat := 14
def theMethod : MethodId := ⟨1, 1⟩
def args0 : Array Value := #[.int 5]
def aboutOver (below : List Frame) : State where
  vm := { classes := classes, interned := interned.toArray }
  heap := heap
  slotsUsed := slotsUsed
  threads := #[{ frames := .invoking theMethod args0 :: below }]
def below0 : List Frame := [.native { method := ⟨0, 0⟩, args := #[] }]
def about1 : State := aboutOver below0
def p0 : Program := .bare "" "" ""
def e0 : Env := launch0.env 0 0 0
theorem w_frames : about1.frames = Frame.invoking theMethod args0 :: below0 := rfl
set_option maxRecDepth 65536 in
theorem w_args : argsFit about1.vm theMethod args0 = true := by decide +kernel
set_option maxRecDepth 65536 in
theorem w_heap : heapFits about1 = true := by decide +kernel
set_option maxRecDepth 65536 in
theorem w_runnable : about1.curStatus? = some .runnable := by decide +kernel
set_option maxRecDepth 65536 in
theorem w_alone : about1.alone = true := by decide +kernel
set_option maxRecDepth 65536 in
theorem w_named : about1.methodNamed? x = some theMethod := by decide +kernel
set_option maxRecDepth 65536 in
theorem w_hears : about1.hears theMethod below0 = true := by decide +kernel
set_option maxRecDepth 65536 in
theorem w_ripe : about1.ripe theMethod args0 below0 = true := by decide +kernel
theorem w_running : about1.status = .running := rfl
set_option maxRecDepth 65536 in
theorem w_room : about1.hasRoom e0.platform room_1 = true :=
  launch0.hasRoom_least _ room_1 (by decide +kernel) (by decide +kernel) (by decide +kernel) (by decide +kernel) (by decide +kernel) (by decide +kernel)
theorem allAtoms_all (ts : List Jvm.Cond) (a : Array Jvm.Value) (st : Jvm.State) : (allAtoms ts).before a st = ts.all (fun c => c.before a st) := by
  induction ts with
  | nil => rfl
  | cons c t ih =>
    show (Jvm.Cond.and c (allAtoms t)).before a st = _
    rw [Jvm.Cond.before_and, ih, List.all_cons]
def words1 : List Jvm.Cond := Jvm.Cond.code x code maxLocals ret :: tables_1
/-- a 'code' word, met by the world's own term for the bytes: nothing is compared byte by byte -/
theorem code_word {y : MethodName} {bytes : ByteArray} {mx : Nat} {rt : Option FieldType} {a : Array Value} {s : State} {m : MethodId} {meth : Method} {c : Code} (h1 : s.methodNamed? y = some m) (h2 : s.vm.method? m = some meth) (h3 : meth.code = some c) (h4 : c.code = bytes)
    (h5 : (c.maxLocals == mx && c.exceptionTable.isEmpty && decide (c.maxStack ≤ mostOperands) && decide (meth.sig.returnType = rt) && !meth.locks && decide (parseMethodDescriptor y.desc = some meth.sig)) = true) : (Jvm.Cond.code y bytes mx rt).before a s = true := by
  simp only [Bool.and_eq_true, beq_iff_eq, Bool.not_eq_true', decide_eq_true_eq] at h5
  obtain ⟨⟨⟨⟨⟨g1, g2⟩, g3⟩, g4⟩, g5⟩, g6⟩ := h5
  simp [Cond.before, Cond.holds, Cond.value, h1, h2, h3, h4, g1, g2, g3, g4, g5, g6]
def isCode : Jvm.Cond → Bool
  | .code _ _ _ _ => true
  | _ => false
theorem all_split {L : List Jvm.Cond} {P : Jvm.Cond → Bool} (h1 : L.all (fun c => isCode c || P c) = true) (h2 : ∀ c ∈ L.filter isCode, P c = true) : L.all P = true := by
  refine List.all_eq_true.mpr fun c hc => ?_
  have h := List.all_eq_true.mp h1 c hc
  rcases Bool.eq_false_or_eq_true (isCode c) with hi | hi
  · exact h2 c (List.mem_filter.mpr ⟨hc, hi⟩)
  · simpa [hi] using h
set_option maxRecDepth 65536 in
theorem w_c0 : (Jvm.Cond.code x code maxLocals ret).before args0 about1 = true := code_word (m := ⟨1, 1⟩) (meth := k1m1) (c := k1c1) (by decide +kernel) rfl rfl rfl (by decide +kernel)
set_option maxRecDepth 65536 in
theorem w_c1 : (Jvm.Cond.code ({ cls := "java/lang/String", name := "<init>", desc := "([C)V" } : Jvm.MethodName) jdk_42_method_3_code (2 : Nat) (Option.none : Option Jvm.ClassFile.FieldType)).before args0 about1 = true := code_word (m := ⟨7, 1⟩) (meth := k7m1) (c := k7c1) (by decide +kernel) rfl rfl rfl (by decide +kernel)
set_option maxRecDepth 65536 in
theorem w_c2 : (Jvm.Cond.code ({ cls := "java/lang/String", name := "<init>", desc := "([CIILjava/lang/Void;)V" } : Jvm.MethodName) jdk_42_method_149_code (6 : Nat) (Option.none : Option Jvm.ClassFile.FieldType)).before args0 about1 = true := code_word (m := ⟨7, 4⟩) (meth := k7m4) (c := k7c4) (by decide +kernel) rfl rfl rfl (by decide +kernel)
set_option maxRecDepth 65536 in
theorem w_c3 : (Jvm.Cond.code ({ cls := "java/lang/Object", name := "<init>", desc := "()V" } : Jvm.MethodName) object_method_1_code (1 : Nat) (Option.none : Option Jvm.ClassFile.FieldType)).before args0 about1 = true := code_word (m := ⟨0, 0⟩) (meth := k0m0) (c := k0c0) (by decide +kernel) rfl rfl rfl (by decide +kernel)
set_option maxRecDepth 65536 in
theorem w_c4 : (Jvm.Cond.code ({ cls := "java/lang/StringUTF16", name := "compress", desc := "([CII)[B" } : Jvm.MethodName) jdk_52_method_16_code (6 : Nat) (Option.some (Jvm.ClassFile.FieldType.array Jvm.ClassFile.FieldType.byte))).before args0 about1 = true := code_word (m := ⟨8, 8⟩) (meth := k8m8) (c := k8c8) (by decide +kernel) rfl rfl rfl (by decide +kernel)
set_option maxRecDepth 65536 in
theorem w_c5 : (Jvm.Cond.code ({ cls := "java/lang/StringUTF16", name := "compress", desc := "([CI[BII)I" } : Jvm.MethodName) jdk_52_method_21_code (7 : Nat) (Option.some Jvm.ClassFile.FieldType.int)).before args0 about1 = true := code_word (m := ⟨8, 9⟩) (meth := k8m9) (c := k8c9) (by decide +kernel) rfl rfl rfl (by decide +kernel)
set_option maxRecDepth 65536 in
theorem w_c6 : (Jvm.Cond.code ({ cls := "java/lang/StringUTF16", name := "coderFromArrayLen", desc := "([BI)B" } : Jvm.MethodName) jdk_52_method_15_code (2 : Nat) (Option.some Jvm.ClassFile.FieldType.byte)).before args0 about1 = true := code_word (m := ⟨8, 7⟩) (meth := k8m7) (c := k8c7) (by decide +kernel) rfl rfl rfl (by decide +kernel)
set_option maxRecDepth 65536 in
theorem w_c7 : (Jvm.Cond.code ({ cls := "com/example/stowage/stowage/model/LineFields", name := "isBlank", desc := "(C)Z" } : Jvm.MethodName) prog_41_method_3_code (1 : Nat) (Option.some Jvm.ClassFile.FieldType.boolean)).before args0 about1 = true := code_word (m := ⟨9, 1⟩) (meth := k9m1) (c := k9c1) (by decide +kernel) rfl rfl rfl (by decide +kernel)
set_option maxRecDepth 65536 in
theorem w_c8 : (Jvm.Cond.code ({ cls := "com/example/stowage/stowage/model/LineFields", name := "fieldEnd", desc := "(Ljava/lang/String;I)I" } : Jvm.MethodName) prog_41_method_4_code (4 : Nat) (Option.some Jvm.ClassFile.FieldType.int)).before args0 about1 = true := code_word (m := ⟨9, 2⟩) (meth := k9m2) (c := k9c2) (by decide +kernel) rfl rfl rfl (by decide +kernel)
set_option maxRecDepth 65536 in
theorem w_c9 : (Jvm.Cond.code ({ cls := "java/lang/String", name := "indexOf", desc := "(II)I" } : Jvm.MethodName) jdk_42_method_80_code (3 : Nat) (Option.some Jvm.ClassFile.FieldType.int)).before args0 about1 = true := code_word (m := ⟨7, 3⟩) (meth := k7m3) (c := k7c3) (by decide +kernel) rfl rfl rfl (by decide +kernel)
set_option maxRecDepth 65536 in
theorem w_c10 : (Jvm.Cond.code ({ cls := "java/lang/String", name := "isLatin1", desc := "()Z" } : Jvm.MethodName) jdk_42_method_154_code (1 : Nat) (Option.some Jvm.ClassFile.FieldType.boolean)).before args0 about1 = true := code_word (m := ⟨7, 6⟩) (meth := k7m6) (c := k7c6) (by decide +kernel) rfl rfl rfl (by decide +kernel)
set_option maxRecDepth 65536 in
theorem w_c11 : (Jvm.Cond.code ({ cls := "java/lang/String", name := "length", desc := "()I" } : Jvm.MethodName) jdk_42_method_54_code (1 : Nat) (Option.some Jvm.ClassFile.FieldType.int)).before args0 about1 = true := code_word (m := ⟨7, 2⟩) (meth := k7m2) (c := k7c2) (by decide +kernel) rfl rfl rfl (by decide +kernel)
set_option maxRecDepth 65536 in
theorem w_c12 : (Jvm.Cond.code ({ cls := "java/lang/String", name := "coder", desc := "()B" } : Jvm.MethodName) jdk_42_method_152_code (1 : Nat) (Option.some Jvm.ClassFile.FieldType.byte)).before args0 about1 = true := code_word (m := ⟨7, 5⟩) (meth := k7m5) (c := k7c5) (by decide +kernel) rfl rfl rfl (by decide +kernel)
set_option maxRecDepth 65536 in
theorem w_c13 : (Jvm.Cond.code ({ cls := "java/lang/StringLatin1", name := "indexOf", desc := "([BIII)I" } : Jvm.MethodName) jdk_43_method_22_code (4 : Nat) (Option.some Jvm.ClassFile.FieldType.int)).before args0 about1 = true := code_word (m := ⟨10, 2⟩) (meth := k10m2) (c := k10c2) (by decide +kernel) rfl rfl rfl (by decide +kernel)
set_option maxRecDepth 65536 in
theorem w_c14 : (Jvm.Cond.code ({ cls := "java/lang/StringLatin1", name := "canEncode", desc := "(I)Z" } : Jvm.MethodName) jdk_43_method_4_code (1 : Nat) (Option.some Jvm.ClassFile.FieldType.boolean)).before args0 about1 = true := code_word (m := ⟨10, 1⟩) (meth := k10m1) (c := k10c1) (by decide +kernel) rfl rfl rfl (by decide +kernel)
set_option maxRecDepth 65536 in
theorem w_c15 : (Jvm.Cond.code ({ cls := "java/lang/Math", name := "max", desc := "(II)I" } : Jvm.MethodName) jdk_29_method_65_code (2 : Nat) (Option.some Jvm.ClassFile.FieldType.int)).before args0 about1 = true := code_word (m := ⟨11, 1⟩) (meth := k11m1) (c := k11c1) (by decide +kernel) rfl rfl rfl (by decide +kernel)
set_option maxRecDepth 65536 in
theorem w_c16 : (Jvm.Cond.code ({ cls := "java/lang/Math", name := "min", desc := "(II)I" } : Jvm.MethodName) jdk_29_method_69_code (2 : Nat) (Option.some Jvm.ClassFile.FieldType.int)).before args0 about1 = true := code_word (m := ⟨11, 2⟩) (meth := k11m2) (c := k11c2) (by decide +kernel) rfl rfl rfl (by decide +kernel)
set_option maxRecDepth 65536 in
theorem w_c17 : (Jvm.Cond.code ({ cls := "java/lang/StringLatin1", name := "indexOfChar", desc := "([BIII)I" } : Jvm.MethodName) jdk_43_method_23_code (6 : Nat) (Option.some Jvm.ClassFile.FieldType.int)).before args0 about1 = true := code_word (m := ⟨10, 3⟩) (meth := k10m3) (c := k10c3) (by decide +kernel) rfl rfl rfl (by decide +kernel)
set_option maxRecDepth 65536 in
theorem w_c18 : (Jvm.Cond.code ({ cls := "java/lang/StringUTF16", name := "toBytes", desc := "([CII)[B" } : Jvm.MethodName) jdk_52_method_14_code (5 : Nat) (Option.some (Jvm.ClassFile.FieldType.array Jvm.ClassFile.FieldType.byte))).before args0 about1 = true := code_word (m := ⟨8, 6⟩) (meth := k8m6) (c := k8c6) (by decide +kernel) rfl rfl rfl (by decide +kernel)
set_option maxRecDepth 65536 in
theorem w_c19 : (Jvm.Cond.code ({ cls := "java/lang/StringUTF16", name := "newBytesFor", desc := "(I)[B" } : Jvm.MethodName) jdk_52_method_2_code (1 : Nat) (Option.some (Jvm.ClassFile.FieldType.array Jvm.ClassFile.FieldType.byte))).before args0 about1 = true := code_word (m := ⟨8, 1⟩) (meth := k8m1) (c := k8c1) (by decide +kernel) rfl rfl rfl (by decide +kernel)
set_option maxRecDepth 65536 in
theorem w_c20 : (Jvm.Cond.code ({ cls := "java/lang/StringUTF16", name := "newBytesLength", desc := "(I)I" } : Jvm.MethodName) jdk_52_method_3_code (1 : Nat) (Option.some Jvm.ClassFile.FieldType.int)).before args0 about1 = true := code_word (m := ⟨8, 2⟩) (meth := k8m2) (c := k8c2) (by decide +kernel) rfl rfl rfl (by decide +kernel)
set_option maxRecDepth 65536 in
theorem w_c21 : (Jvm.Cond.code ({ cls := "java/lang/StringUTF16", name := "putChar", desc := "([BII)V" } : Jvm.MethodName) jdk_52_method_4_code (3 : Nat) (Option.none : Option Jvm.ClassFile.FieldType)).before args0 about1 = true := code_word (m := ⟨8, 3⟩) (meth := k8m3) (c := k8c3) (by decide +kernel) rfl rfl rfl (by decide +kernel)
set_option maxRecDepth 65536 in
theorem w_c22 : (Jvm.Cond.code ({ cls := "java/lang/StringUTF16", name := "getChar", desc := "([BI)C" } : Jvm.MethodName) jdk_52_method_5_code (2 : Nat) (Option.some Jvm.ClassFile.FieldType.char)).before args0 about1 = true := code_word (m := ⟨8, 4⟩) (meth := k8m4) (c := k8c4) (by decide +kernel) rfl rfl rfl (by decide +kernel)
set_option maxRecDepth 65536 in
theorem w_c23 : (Jvm.Cond.code ({ cls := "java/lang/StringUTF16", name := "indexOf", desc := "([BIII)I" } : Jvm.MethodName) jdk_52_method_40_code (4 : Nat) (Option.some Jvm.ClassFile.FieldType.int)).before args0 about1 = true := code_word (m := ⟨8, 10⟩) (meth := k8m10) (c := k8c10) (by decide +kernel) rfl rfl rfl (by decide +kernel)
set_option maxRecDepth 65536 in
theorem w_c24 : (Jvm.Cond.code ({ cls := "java/lang/StringUTF16", name := "indexOfChar", desc := "([BIII)I" } : Jvm.MethodName) jdk_52_method_47_code (4 : Nat) (Option.some Jvm.ClassFile.FieldType.int)).before args0 about1 = true := code_word (m := ⟨8, 11⟩) (meth := k8m11) (c := k8c11) (by decide +kernel) rfl rfl rfl (by decide +kernel)
set_option maxRecDepth 65536 in
theorem w_c25 : (Jvm.Cond.code ({ cls := "java/lang/StringUTF16", name := "checkBoundsBeginEnd", desc := "(II[B)V" } : Jvm.MethodName) jdk_52_method_93_code (3 : Nat) (Option.none : Option Jvm.ClassFile.FieldType)).before args0 about1 = true := code_word (m := ⟨8, 13⟩) (meth := k8m13) (c := k8c13) (by decide +kernel) rfl rfl rfl (by decide +kernel)
set_option maxRecDepth 65536 in
theorem w_c26 : (Jvm.Cond.code ({ cls := "java/lang/StringUTF16", name := "length", desc := "([B)I" } : Jvm.MethodName) jdk_52_method_6_code (1 : Nat) (Option.some Jvm.ClassFile.FieldType.int)).before args0 about1 = true := code_word (m := ⟨8, 5⟩) (meth := k8m5) (c := k8c5) (by decide +kernel) rfl rfl rfl (by decide +kernel)
set_option maxRecDepth 65536 in
theorem w_c27 : (Jvm.Cond.code ({ cls := "java/lang/String", name := "checkBoundsBeginEnd", desc := "(III)V" } : Jvm.MethodName) jdk_42_method_158_code (3 : Nat) (Option.none : Option Jvm.ClassFile.FieldType)).before args0 about1 = true := code_word (m := ⟨7, 7⟩) (meth := k7m7) (c := k7c7) (by decide +kernel) rfl rfl rfl (by decide +kernel)
set_option maxRecDepth 65536 in
theorem w_c28 : (Jvm.Cond.code ({ cls := "jdk/internal/util/Preconditions", name := "checkFromToIndex", desc := "(IIILjava/util/function/BiFunction;)I" } : Jvm.MethodName) jdk_41_method_12_code (4 : Nat) (Option.some Jvm.ClassFile.FieldType.int)).before args0 about1 = true := code_word (m := ⟨12, 1⟩) (meth := k12m1) (c := k12c1) (by decide +kernel) rfl rfl rfl (by decide +kernel)
set_option maxRecDepth 65536 in
theorem w_c29 : (Jvm.Cond.code ({ cls := "java/lang/StringUTF16", name := "indexOfCharUnsafe", desc := "([BIII)I" } : Jvm.MethodName) jdk_52_method_48_code (5 : Nat) (Option.some Jvm.ClassFile.FieldType.int)).before args0 about1 = true := code_word (m := ⟨8, 12⟩) (meth := k8m12) (c := k8c12) (by decide +kernel) rfl rfl rfl (by decide +kernel)
def codes1 : List Jvm.Cond := [Jvm.Cond.code x code maxLocals ret, Jvm.Cond.code ({ cls := "java/lang/String", name := "<init>", desc := "([C)V" } : Jvm.MethodName) jdk_42_method_3_code (2 : Nat) (Option.none : Option Jvm.ClassFile.FieldType), Jvm.Cond.code ({ cls := "java/lang/String", name := "<init>", desc := "([CIILjava/lang/Void;)V" } : Jvm.MethodName) jdk_42_method_149_code (6 : Nat) (Option.none : Option Jvm.ClassFile.FieldType), Jvm.Cond.code ({ cls := "java/lang/Object", name := "<init>", desc := "()V" } : Jvm.MethodName) object_method_1_code (1 : Nat) (Option.none : Option Jvm.ClassFile.FieldType), Jvm.Cond.code ({ cls := "java/lang/StringUTF16", name := "compress", desc := "([CII)[B" } : Jvm.MethodName) jdk_52_method_16_code (6 : Nat) (Option.some (Jvm.ClassFile.FieldType.array Jvm.ClassFile.FieldType.byte)), Jvm.Cond.code ({ cls := "java/lang/StringUTF16", name := "compress", desc := "([CI[BII)I" } : Jvm.MethodName) jdk_52_method_21_code (7 : Nat) (Option.some Jvm.ClassFile.FieldType.int), Jvm.Cond.code ({ cls := "java/lang/StringUTF16", name := "coderFromArrayLen", desc := "([BI)B" } : Jvm.MethodName) jdk_52_method_15_code (2 : Nat) (Option.some Jvm.ClassFile.FieldType.byte), Jvm.Cond.code ({ cls := "com/example/stowage/stowage/model/LineFields", name := "isBlank", desc := "(C)Z" } : Jvm.MethodName) prog_41_method_3_code (1 : Nat) (Option.some Jvm.ClassFile.FieldType.boolean), Jvm.Cond.code ({ cls := "com/example/stowage/stowage/model/LineFields", name := "fieldEnd", desc := "(Ljava/lang/String;I)I" } : Jvm.MethodName) prog_41_method_4_code (4 : Nat) (Option.some Jvm.ClassFile.FieldType.int), Jvm.Cond.code ({ cls := "java/lang/String", name := "indexOf", desc := "(II)I" } : Jvm.MethodName) jdk_42_method_80_code (3 : Nat) (Option.some Jvm.ClassFile.FieldType.int), Jvm.Cond.code ({ cls := "java/lang/String", name := "isLatin1", desc := "()Z" } : Jvm.MethodName) jdk_42_method_154_code (1 : Nat) (Option.some Jvm.ClassFile.FieldType.boolean), Jvm.Cond.code ({ cls := "java/lang/String", name := "length", desc := "()I" } : Jvm.MethodName) jdk_42_method_54_code (1 : Nat) (Option.some Jvm.ClassFile.FieldType.int), Jvm.Cond.code ({ cls := "java/lang/String", name := "coder", desc := "()B" } : Jvm.MethodName) jdk_42_method_152_code (1 : Nat) (Option.some Jvm.ClassFile.FieldType.byte), Jvm.Cond.code ({ cls := "java/lang/StringLatin1", name := "indexOf", desc := "([BIII)I" } : Jvm.MethodName) jdk_43_method_22_code (4 : Nat) (Option.some Jvm.ClassFile.FieldType.int), Jvm.Cond.code ({ cls := "java/lang/StringLatin1", name := "canEncode", desc := "(I)Z" } : Jvm.MethodName) jdk_43_method_4_code (1 : Nat) (Option.some Jvm.ClassFile.FieldType.boolean), Jvm.Cond.code ({ cls := "java/lang/Math", name := "max", desc := "(II)I" } : Jvm.MethodName) jdk_29_method_65_code (2 : Nat) (Option.some Jvm.ClassFile.FieldType.int), Jvm.Cond.code ({ cls := "java/lang/Math", name := "min", desc := "(II)I" } : Jvm.MethodName) jdk_29_method_69_code (2 : Nat) (Option.some Jvm.ClassFile.FieldType.int), Jvm.Cond.code ({ cls := "java/lang/StringLatin1", name := "indexOfChar", desc := "([BIII)I" } : Jvm.MethodName) jdk_43_method_23_code (6 : Nat) (Option.some Jvm.ClassFile.FieldType.int), Jvm.Cond.code ({ cls := "java/lang/StringUTF16", name := "toBytes", desc := "([CII)[B" } : Jvm.MethodName) jdk_52_method_14_code (5 : Nat) (Option.some (Jvm.ClassFile.FieldType.array Jvm.ClassFile.FieldType.byte)), Jvm.Cond.code ({ cls := "java/lang/StringUTF16", name := "newBytesFor", desc := "(I)[B" } : Jvm.MethodName) jdk_52_method_2_code (1 : Nat) (Option.some (Jvm.ClassFile.FieldType.array Jvm.ClassFile.FieldType.byte)), Jvm.Cond.code ({ cls := "java/lang/StringUTF16", name := "newBytesLength", desc := "(I)I" } : Jvm.MethodName) jdk_52_method_3_code (1 : Nat) (Option.some Jvm.ClassFile.FieldType.int), Jvm.Cond.code ({ cls := "java/lang/StringUTF16", name := "putChar", desc := "([BII)V" } : Jvm.MethodName) jdk_52_method_4_code (3 : Nat) (Option.none : Option Jvm.ClassFile.FieldType), Jvm.Cond.code ({ cls := "java/lang/StringUTF16", name := "getChar", desc := "([BI)C" } : Jvm.MethodName) jdk_52_method_5_code (2 : Nat) (Option.some Jvm.ClassFile.FieldType.char), Jvm.Cond.code ({ cls := "java/lang/StringUTF16", name := "indexOf", desc := "([BIII)I" } : Jvm.MethodName) jdk_52_method_40_code (4 : Nat) (Option.some Jvm.ClassFile.FieldType.int), Jvm.Cond.code ({ cls := "java/lang/StringUTF16", name := "indexOfChar", desc := "([BIII)I" } : Jvm.MethodName) jdk_52_method_47_code (4 : Nat) (Option.some Jvm.ClassFile.FieldType.int), Jvm.Cond.code ({ cls := "java/lang/StringUTF16", name := "checkBoundsBeginEnd", desc := "(II[B)V" } : Jvm.MethodName) jdk_52_method_93_code (3 : Nat) (Option.none : Option Jvm.ClassFile.FieldType), Jvm.Cond.code ({ cls := "java/lang/StringUTF16", name := "length", desc := "([B)I" } : Jvm.MethodName) jdk_52_method_6_code (1 : Nat) (Option.some Jvm.ClassFile.FieldType.int), Jvm.Cond.code ({ cls := "java/lang/String", name := "checkBoundsBeginEnd", desc := "(III)V" } : Jvm.MethodName) jdk_42_method_158_code (3 : Nat) (Option.none : Option Jvm.ClassFile.FieldType), Jvm.Cond.code ({ cls := "jdk/internal/util/Preconditions", name := "checkFromToIndex", desc := "(IIILjava/util/function/BiFunction;)I" } : Jvm.MethodName) jdk_41_method_12_code (4 : Nat) (Option.some Jvm.ClassFile.FieldType.int), Jvm.Cond.code ({ cls := "java/lang/StringUTF16", name := "indexOfCharUnsafe", desc := "([BIII)I" } : Jvm.MethodName) jdk_52_method_48_code (5 : Nat) (Option.some Jvm.ClassFile.FieldType.int)]
set_option maxRecDepth 65536 in
theorem codes_eq : words1.filter isCode = codes1 := rfl
theorem w_codes : ∀ c ∈ words1.filter isCode, c.before args0 about1 = true := by
  rw [codes_eq]
  intro c hc
  simp only [codes1, List.mem_cons, List.not_mem_nil, or_false] at hc
  rcases hc with rfl | rfl | rfl | rfl | rfl | rfl | rfl | rfl | rfl | rfl | rfl | rfl | rfl | rfl | rfl | rfl | rfl | rfl | rfl | rfl | rfl | rfl | rfl | rfl | rfl | rfl | rfl | rfl | rfl | rfl
  · exact w_c0
  · exact w_c1
  · exact w_c2
  · exact w_c3
  · exact w_c4
  · exact w_c5
  · exact w_c6
  · exact w_c7
  · exact w_c8
  · exact w_c9
  · exact w_c10
  · exact w_c11
  · exact w_c12
  · exact w_c13
  · exact w_c14
  · exact w_c15
  · exact w_c16
  · exact w_c17
  · exact w_c18
  · exact w_c19
  · exact w_c20
  · exact w_c21
  · exact w_c22
  · exact w_c23
  · exact w_c24
  · exact w_c25
  · exact w_c26
  · exact w_c27
  · exact w_c28
  · exact w_c29
set_option maxRecDepth 65536 in
theorem w_t1 : (words1.take 24).all (fun c => isCode c || c.before args0 about1) = true := by decide +kernel
set_option maxRecDepth 65536 in
theorem w_t2 : ((words1.drop 24).take 24).all (fun c => isCode c || c.before args0 about1) = true := by decide +kernel
set_option maxRecDepth 65536 in
theorem w_t3 : (((words1.drop 24).drop 24).take 24).all (fun c => isCode c || c.before args0 about1) = true := by decide +kernel
set_option maxRecDepth 65536 in
theorem w_t4 : ((((words1.drop 24).drop 24).drop 24).take 24).all (fun c => isCode c || c.before args0 about1) = true := by decide +kernel
set_option maxRecDepth 65536 in
theorem w_t5 : (((((words1.drop 24).drop 24).drop 24).drop 24).take 24).all (fun c => isCode c || c.before args0 about1) = true := by decide +kernel
set_option maxRecDepth 65536 in
theorem w_t6 : (((((words1.drop 24).drop 24).drop 24).drop 24).drop 24).all (fun c => isCode c || c.before args0 about1) = true := by decide +kernel
theorem w_tables : (allAtoms (Jvm.Cond.code x code maxLocals ret :: tables_1)).before args0 about1 = true := by
  rw [allAtoms_all]
  show words1.all (fun c => c.before args0 about1) = true
  refine all_split ?_ w_codes
  rw [← List.take_append_drop 24 words1, List.all_append, w_t1, ← List.take_append_drop 24 (words1.drop 24), List.all_append, w_t2, ← List.take_append_drop 24 ((words1.drop 24).drop 24), List.all_append, w_t3, ← List.take_append_drop 24 (((words1.drop 24).drop 24).drop 24), List.all_append, w_t4, ← List.take_append_drop 24 ((((words1.drop 24).drop 24).drop 24).drop 24), List.all_append, w_t5, w_t6]
  rfl
set_option maxRecDepth 65536 in
theorem w_rest : rest_1_c.before args0 about1 = true := by decide +kernel
set_option maxRecDepth 65536 in
theorem w_case : (Jvm.Cond.and given_1 narrow_1).before args0 about1 = true := by decide +kernel
theorem w_applies : (headSpec (Jvm.Cond.code x code maxLocals ret :: tables_1) room_1).applies x e0.platform about1 = true :=
  (Spec.applies_iff w_frames).mpr ⟨w_running, w_runnable, w_alone, w_named, w_hears, w_ripe, w_room, w_tables⟩
theorem atStart : AtStart classFile x code maxLocals ret World_1 tables_1 room_1 Calls_1 rest_1 Pre_1 launch0 p0 e0 about1 theMethod args0 below0 :=
  ⟨lists_1, trivial, launch0.admits_env _ _ _, launch0.least_env, fairChoices_fair.cas, fairChoices_fair.clock, w_frames, w_args, w_heap, w_applies, trivial, w_rest, w_case⟩
end start1
theorem witness_1 : WitnessClaimed_1 := ⟨start1.p0, start1.e0, start1.about1, start1.theMethod, start1.args0, start1.below0, start1.atStart⟩
end Jvm.Pilot.@@N@@
