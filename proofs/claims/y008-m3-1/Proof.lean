import JvmDerived
import JvmDerived.Pilot.@@N@@Statement
import JvmDerived.Pilot.@@N@@Code
set_option linter.unusedVariables false
set_option linter.unusedSimpArgs false
namespace Jvm.RoadKit
open Sem ClassFile Op Lib Jvm.Stand Jvm.Free Jvm.LawKit
section New
variable {p : Program} {l : Launch} {e : Env} {R : Room} {s : State} {m : MethodId} {args : Array Value} {below : List Frame} {meth : Method} {c : Code} {T : State} {locs : List Loc} {cells slots : Nat}
theorem retI (X : Stand p l e R s m args below meth c T locs cells slots) (hx : p.tables.exec = Jvm.exec) {pc : Nat} {Ls : Array Slot} {z : Int32} {rest : List Value} (hret : meth.sig.returnType = some .int) (hd : decode c.code pc = .ok (.ireturn, 1)) {fs : List Frame}
    (hl : ∀ (f : JFrame) (acts : List Action), f.method = m → f.locked = none → f.entered = [] → (doReturn e (T.setTop f) acts (some (.int z))).1 = T.setFrames fs) : Steps p.tables e below (T.setTop (mkF m pc Ls (.int z :: rest))) (T.setFrames fs) := by
  have hm' : T.vm.method? m = some meth := X.method'
  have hn : narrow .int (.int z) = .int z := rfl
  show Steps p.tables e below (T.setTop { method := m, pc := pc, locals := Ls, stack := _ :: rest, locked := none }) _
  jvm_step X.here [X.here.top, hx, hd, hm', hret, hn]
  first | (intro acts; rw [hl _ acts rfl rfl rfl]) | rw [hl _ _ rfl rfl rfl]
  exact Steps.refl _
end New
end Jvm.RoadKit
namespace Jvm.Pilot.@@N@@
open Jvm Jvm.ClassFile Sem Op Lib Jvm.Free Jvm.Stand Jvm.LawKit Jvm.RoadKit Bundle Jvm.Pilot.@@N@@.Jvm.D
/-- the run from a frame of this method ends in a return with Q -/
def Go (p : Program) (e : Env) (s : State) (below : List Frame) (kc ks : Nat) (Q : Option Value → Heap → List Loc → Prop) (T : State) (f : JFrame) : Prop :=
  ∃ s₂ o, Steps p.tables e below (T.setTop f) s₂ ∧ s₂.status = .running ∧ Ended s₂ below o ∧ ∃ v L, o = .returned v ∧ Q v s₂.heap L ∧ FrameEnd s o s₂ L kc ks
/-- what is known of the method that runs -/
def Cx (p : Program) (s : State) (m : MethodId) (meth : Method) (c : Code) (Z : State) (own nm : String) (code : ByteArray) (maxL : Nat) (ret : Option FieldType) : Prop :=
  p.tables.exec = Jvm.exec ∧ Z.Warmed39 s.vm ∧ c.code = code ∧ c.maxLocals = maxL ∧ s.vm.findClass own = some m.cls ∧ meth.name = nm ∧ meth.sig.returnType = ret ∧ meth.locks = false
/-- a contract -/
def Ctr (l : Launch) (Z : State) (y : MethodName) (bytes : ByteArray) (maxL : Nat) (ret : Option FieldType) (ws : List Jvm.Cond) (rm : Room) (kc ks : Nat) (as : Array Value) (h : Heap) (Q : Option Value → Heap → List Loc → Prop) : Prop :=
  MetFree l y (head1 (Jvm.Cond.code y bytes maxL ret :: ws) rm) (fun a U => a = as ∧ Z.Warmed39 U.vm ∧ U.heap = h) (fun _ _ _ _ _ => True) (fun _ U o U' => ∃ v L, o = .returned v ∧ Q v U'.heap L ∧ FrameEnd U o U' L kc ks)
def bi (P : Prop) [Decidable P] : Int32 := if P then 1 else 0
theorem bi_t {P : Prop} [Decidable P] (h : P) : bi P = 1 := if_pos h
theorem bi_f {P : Prop} [Decidable P] (h : ¬ P) : bi P = 0 := if_neg h
theorem bi_n {P : Prop} [Decidable P] (h : P) : ¬ bi P = 0 := by rw [bi_t h]; decide
theorem bi_1 {P : Prop} [Decidable P] : bi P = 1 ↔ P := by unfold bi; split <;> simp_all
theorem bi_0 {P : Prop} [Decidable P] : bi P = 0 ↔ ¬ P := by unfold bi; split <;> simp_all
theorem bi_eq {P P' : Prop} [Decidable P] [Decidable P'] : bi P = bi P' ↔ (P ↔ P') := by unfold bi; split <;> split <;> simp_all
theorem bi_congr {P P' : Prop} [Decidable P] [Decidable P'] (h : P ↔ P') : bi P = bi P' := bi_eq.mpr h
theorem bi_fits {P : Prop} [Decidable P] : fits .boolean (.int (bi P)) = true := by unfold bi; split <;> rfl
theorem bi_nar {P : Prop} [Decidable P] : nar .boolean (bi P) = bi P := by unfold bi; split <;> rfl
section Own
variable {p : Program} {l : Launch} {e : Env} {R : Room} {s : State} {m : MethodId} {args : Array Value} {below : List Frame} {meth : Method} {c : Code} {T : State} {locs : List Loc} {cells slots kc ks : Nat} {Q : Option Value → Heap → List Loc → Prop} {Z : State} {a0 : Array Value} {h : Heap}
theorem Go.step {T' : State} {f f' : JFrame} (st : ∀ t, Steps p.tables e below (T'.setTop f') t → Steps p.tables e below (T.setTop f) t) (k : Go p e s below kc ks Q T' f') : Go p e s below kc ks Q T f := by
  obtain ⟨s₂, o, h1, r⟩ := k; exact ⟨s₂, o, st _ h1, r⟩
theorem Go.mono {Q' : Option Value → Heap → List Loc → Prop} {f : JFrame} (k : Go p e s below kc ks Q T f) (h : ∀ v h L, Q v h L → Q' v h L) : Go p e s below kc ks Q' T f := by
  obtain ⟨s₂, o, h1, h2, h3, v, L, h4, h5, h6⟩ := k; exact ⟨s₂, o, h1, h2, h3, v, L, h4, h _ _ _ h5, h6⟩
theorem Ctr.mk {y : MethodName} {bytes : ByteArray} {maxL : Nat} {ret : Option FieldType} {ws : List Jvm.Cond} {rm : Room} {as : Array Value} (hp : plainFor y = true)
    (hgo : ∀ (p : Program) (e : Env) (s : State) (m : MethodId) (below : List Frame) (meth : Method) (c : Code) (s₁ : State), Stand p l e rm s m as below meth c s₁ [] 0 0 → Cx p s m meth c Z y.cls y.name bytes maxL ret → s₁.heap = h → Go p e s below kc ks Q s₁ (entryFrame m as maxL)) :
    Ctr l Z y bytes maxL ret ws rm kc ks as h Q := by
  refine MetFree.of_bodySF hp hisR ?_
  intro p e s m args below meth c s₁ Bd hml0 hP hK
  obtain ⟨rfl, hZ, hh⟩ := hP
  exact hgo p e s m below meth c s₁ (Stand.of_body Bd) ⟨Bd.exec, hZ, Bd.bytes, hml0, findClass_of_methodNamed Bd.named, (name_of_methodNamed Bd.named Bd.method).1, Bd.returns, Bd.notSynchronized⟩ (by rw [← hh, Bd.state]; rfl)
theorem go_cast {f f' : JFrame} (q : f = f') (k : Go p e s below kc ks Q T f') : Go p e s below kc ks Q T f := q ▸ k
theorem go_retI (X : Stand p l e R s m args below meth c T locs cells slots) (hx : p.tables.exec = Jvm.exec) (hret : meth.sig.returnType = some .int) (hlk : meth.locks = false) {pc : Nat} {Ls : Array Slot} {z : Int32} {rest : List Value} (hd : decode c.code pc = .ok (.ireturn, 1))
    (hQ : Q (some (.int z)) T.heap locs) (hc : cells ≤ kc) (hs : slots ≤ ks) : Go p e s below kc ks Q T (mkF m pc Ls (.int z :: rest)) := by
  obtain ⟨fs, hr, hrun, hended, hW, hsame⟩ := X.leave (v := some (.int z)) (fun h => by rw [hret] at h; cases h) hlk
  exact ⟨_, _, retI X hx hret hd hr, hrun, hended, _, _, rfl, hQ, ⟨_, rfl⟩, hW, hsame.mono hc hs⟩
theorem go_retN (X : Stand p l e R s m args below meth c T locs cells slots) (hx : p.tables.exec = Jvm.exec) {t : FieldType} (hret : meth.sig.returnType = some t) (ht : t = .boolean ∨ t = .byte ∨ t = .char ∨ t = .short) (hlk : meth.locks = false) {pc : Nat} {Ls : Array Slot} {z w : Int32} {rest : List Value} (hd : decode c.code pc = .ok (.ireturn, 1))
    (hz : nar t z = w) (hQ : Q (some (.int w)) T.heap locs) (hc : cells ≤ kc) (hs : slots ≤ ks) : Go p e s below kc ks Q T (mkF m pc Ls (.int z :: rest)) := by
  subst hz
  obtain ⟨fs, hr, hrun, hended, hW, hsame⟩ := X.leave (v := some (.int (nar t z))) (fun h => by rw [hret] at h; cases h) hlk
  exact ⟨_, _, retN X hx hret ht hd hr, hrun, hended, _, _, rfl, hQ, ⟨_, rfl⟩, hW, hsame.mono hc hs⟩
theorem go_retJ (X : Stand p l e R s m args below meth c T locs cells slots) (hx : p.tables.exec = Jvm.exec) (hret : meth.sig.returnType = some .long) (hlk : meth.locks = false) {pc : Nat} {Ls : Array Slot} {z : Int64} (hd : decode c.code pc = .ok (.lreturn, 1))
    (hQ : Q (some (.long z)) T.heap locs) (hc : cells ≤ kc) (hs : slots ≤ ks) : Go p e s below kc ks Q T (mkF m pc Ls [.long z]) := by
  obtain ⟨fs, hr, hrun, hended, hW, hsame⟩ := X.leave (v := some (.long z)) (fun h => by rw [hret] at h; cases h) hlk
  exact ⟨_, _, X.lreturnOut hx hret hd hr, hrun, hended, _, _, rfl, hQ, ⟨_, rfl⟩, hW, hsame.mono hc hs⟩
theorem go_retA (X : Stand p l e R s m args below meth c T locs cells slots) (hx : p.tables.exec = Jvm.exec) {t : FieldType} (hret : meth.sig.returnType = some t) (ht : t.isReference = true) (hlk : meth.locks = false) {pc : Nat} {Ls : Array Slot} {w : Value} {rest : List Value} (hw : w.isRef = true) (hd : decode c.code pc = .ok (.areturn, 1))
    (hQ : Q (some w) T.heap locs) (hc : cells ≤ kc) (hs : slots ≤ ks) : Go p e s below kc ks Q T (mkF m pc Ls (w :: rest)) := by
  obtain ⟨fs, hr, hrun, hended, hW, hsame⟩ := X.leave (v := some w) (fun h => by rw [hret] at h; cases h) hlk
  have hn : narrow t w = w := by cases t <;> first | rfl | simp [FieldType.isReference] at ht
  exact ⟨_, _, retOut X hx hret hn (Or.inr (Or.inr (Or.inr (Or.inr ⟨rfl, ht, hw⟩)))) hd hr, hrun, hended, _, _, rfl, hQ, ⟨_, rfl⟩, hW, hsame.mono hc hs⟩
theorem go_ret (X : Stand p l e R s m args below meth c T locs cells slots) (hx : p.tables.exec = Jvm.exec) (hret : meth.sig.returnType = none) (hlk : meth.locks = false) {pc : Nat} {Ls : Array Slot} (hd : decode c.code pc = .ok (.return_, 1))
    (hQ : Q none T.heap locs) (hc : cells ≤ kc) (hs : slots ≤ ks) : Go p e s below kc ks Q T (mkF m pc Ls []) := by
  obtain ⟨fs, hr, hrun, hended, hW, hsame⟩ := X.leave (v := none) (fun _ => rfl) hlk
  exact ⟨_, _, X.returnOut hx hret hd hr, hrun, hended, _, _, rfl, hQ, ⟨_, rfl⟩, hW, hsame.mono hc hs⟩
/-! calls by a contract -/
section Calls
variable {own : String} {index : Nat} {y : MethodName} {bytes : ByteArray} {maxL : Nat} {ret r : Option FieldType} {rm : Room} {Qc : Option Value → Heap → List Loc → Prop} {argsL rest : List Value} {ps : List FieldType} {pc W : Nat} {Ls : Array Slot} {a : Addr}
theorem c_static (X : Stand p l e R s m args below meth c T locs cells slots) (hx : p.tables.exec = Jvm.exec) (hZ : Z.Warmed39 s.vm) (hown : s.vm.findClass own = some m.cls)
    (w1 : (Jvm.Cond.methodLink own index y).before a0 Z = true) (w2 : (Jvm.Cond.static y).before a0 Z = true) (w3 : (Jvm.Cond.initialized y.cls).before a0 Z = true) (w4 : (Jvm.Cond.code y bytes maxL ret).before a0 Z = true) (hy : y.cls ≠ "java/lang/invoke/MethodHandle" ∧ y.cls ≠ "java/lang/invoke/VarHandle")
    (hC : Ctr l Z y bytes maxL ret [] rm rm.cells rm.slots argsL.toArray h Qc) (eT : T.heap = h) (hpd : parseMethodDescriptor y.desc = some ⟨ps, r⟩) (hlen : argsL.length = ps.length) (hsz : Ls.size = c.maxLocals) (hW : 2 * 0 + (rest.map fun v => v.category).sum ≤ W)
    (hf : rm.frames + 1 ≤ R.frames) (hl : W + (maxL + 11) + rm.locals ≤ R.locals) (hc : cells + rm.cells ≤ R.cells) (hs : slots + rm.slots ≤ R.slots) (hd : decode c.code pc = .ok (.invokestatic index, 3)) :
    ∃ (v : Option Value) (T' : State) (L : List Loc), Stand p l e R s m args below meth c T' (locs ++ L) (cells + rm.cells) (slots + rm.slots) ∧ Qc v T'.heap L ∧
      ∀ t, Steps p.tables e below (T'.setTop (mkF m (pc + 3) Ls (v.toList ++ rest))) t → Steps p.tables e below (T.setTop (mkF m pc Ls (argsL.reverse ++ rest))) t := by
  obtain ⟨v, _, ⟨T', L', k', n'⟩, -, X', ⟨L, hQ, rfl, rfl, rfl⟩, st⟩ := Jvm.LawKit.callS X hx (y := y) hown (mvT hZ w1) (mvT hZ w2) (mvT hZ w3) (mvT hZ w4) hy (backOf (W := W) hC hZ w4 w3 hf hl) (g := mkF m pc Ls (argsL.reverse ++ rest)) rfl hsz (argsL := argsL) (rest := rest) (lenOf hpd hlen) rfl hW hd (fun _ _ => ⟨rfl, eT, hc, hs⟩)
  exact ⟨v, T', L, X', hQ, st⟩
theorem c_init (X : Stand p l e R s m args below meth c T locs cells slots) (hx : p.tables.exec = Jvm.exec) (hZ : Z.Warmed39 s.vm) (hown : s.vm.findClass own = some m.cls)
    (w1 : (Jvm.Cond.methodLink own index y).before a0 Z = true) (w2 : (Jvm.Cond.instanceMethod y).before a0 Z = true) (w3 : (Jvm.Cond.initialized y.cls).before a0 Z = true) (w4 : (Jvm.Cond.code y bytes maxL none).before a0 Z = true) (hn : y.name = "<init>") (hy : y.cls ≠ "java/lang/invoke/MethodHandle" ∧ y.cls ≠ "java/lang/invoke/VarHandle")
    (hC : Ctr l Z y bytes maxL none [] rm rm.cells rm.slots (.ref a :: argsL).toArray h Qc) (eT : T.heap = h) (hpd : parseMethodDescriptor y.desc = some ⟨ps, r⟩) (hlen : argsL.length = ps.length) (hsz : Ls.size = c.maxLocals) (hW : 2 * 0 + (rest.map fun v => v.category).sum ≤ W)
    (hf : rm.frames + 1 ≤ R.frames) (hl : W + (maxL + 11) + rm.locals ≤ R.locals) (hc : cells + rm.cells ≤ R.cells) (hs : slots + rm.slots ≤ R.slots) (hd : decode c.code pc = .ok (.invokespecial index, 3)) :
    ∃ (v : Option Value) (T' : State) (L : List Loc), Stand p l e R s m args below meth c T' (locs ++ L) (cells + rm.cells) (slots + rm.slots) ∧ Qc v T'.heap L ∧
      ∀ t, Steps p.tables e below (T'.setTop (mkF m (pc + 3) Ls (v.toList ++ rest))) t → Steps p.tables e below (T.setTop (mkF m pc Ls (argsL.reverse ++ .ref a :: rest))) t := by
  obtain ⟨v, _, ⟨T', L', k', n'⟩, -, X', ⟨L, hQ, rfl, rfl, rfl⟩, st⟩ := X.specialBack hx (y := y) hn hown (mvT hZ w1) (mvT hZ w2) (mvT hZ w4) hy (backOf (W := W) hC hZ w4 w3 hf hl) (g := mkF m pc Ls (argsL.reverse ++ .ref a :: rest)) rfl hsz (Steps.refl _) (a := a) (argsL := argsL) (rest := rest) (lenOf hpd hlen) rfl hW hd (fun _ _ => ⟨rfl, eT, hc, hs⟩)
  exact ⟨v, T', L, X', hQ, fun t k => st.trans k⟩
theorem c_virt {y' : MethodName} {C : String} (X : Stand p l e R s m args below meth c T locs cells slots) (hx : p.tables.exec = Jvm.exec) (hZ : Z.Warmed39 s.vm) (hown : s.vm.findClass own = some m.cls)
    (w1 : (Jvm.Cond.methodLink own index y').before a0 Z = true) (wd : (Jvm.Cond.declares y').before a0 Z = true) (nf : NotFace s y') (ws : (Jvm.Cond.selects C y' y).before a0 Z = true) (w2 : (Jvm.Cond.instanceMethod y).before a0 Z = true) (w3 : (Jvm.Cond.initialized y.cls).before a0 Z = true) (w4 : (Jvm.Cond.code y bytes maxL ret).before a0 Z = true) (hy : y'.cls ≠ "java/lang/invoke/MethodHandle" ∧ y'.cls ≠ "java/lang/invoke/VarHandle")
    (hC : Ctr l Z y bytes maxL ret [] rm rm.cells rm.slots (.ref a :: argsL).toArray h Qc) (eT : T.heap = h) (E : Exa Z h a C) (hpd : parseMethodDescriptor y'.desc = some ⟨ps, r⟩) (hlen : argsL.length = ps.length) (hsz : Ls.size = c.maxLocals) (hW : 2 * 0 + (rest.map fun v => v.category).sum ≤ W)
    (hf : rm.frames + 1 ≤ R.frames) (hl : W + (maxL + 11) + rm.locals ≤ R.locals) (hc : cells + rm.cells ≤ R.cells) (hs : slots + rm.slots ≤ R.slots) (hd : decode c.code pc = .ok (.invokevirtual index, 3)) :
    ∃ (v : Option Value) (T' : State) (L : List Loc), Stand p l e R s m args below meth c T' (locs ++ L) (cells + rm.cells) (slots + rm.slots) ∧ Qc v T'.heap L ∧
      ∀ t, Steps p.tables e below (T'.setTop (mkF m (pc + 3) Ls (v.toList ++ rest))) t → Steps p.tables e below (T.setTop (mkF m pc Ls (argsL.reverse ++ .ref a :: rest))) t := by
  obtain ⟨cq, kq, qa, qb, qc⟩ := isOf hZ eT E
  obtain ⟨v, _, ⟨T', L', k', n'⟩, -, X', ⟨L, hQ, rfl, rfl, rfl⟩, st⟩ := X.virtualBack hx (y := y') (z := y) hown (mvT hZ w1) (mvT hZ wd) nf (mvT hZ ws) (mvT hZ w2) hy (backOf (W := W) hC hZ w4 w3 hf hl) qa qc (g := mkF m pc Ls (argsL.reverse ++ .ref a :: rest)) rfl hsz (Steps.refl _) (argsL := argsL) (rest := rest) (lenOf hpd hlen) rfl hW hd (fun _ _ => ⟨rfl, eT, hc, hs⟩)
  exact ⟨v, T', L, X', hQ, fun t k => st.trans k⟩
theorem own_nf {y' z : MethodName} {C : String} {as : Array Value} (ws : (Jvm.Cond.selects C y' z).before as s = true) (h : z.cls = y.cls) : NotFace s y := fun r0 h0 => by
  obtain ⟨_, _, m2, -, -, q3, -, kP, hkP, hkPi⟩ := Cond.selects_spec ws
  have e1 := findClass_of_methodNamed q3
  rw [h] at e1
  have e2 : m2.cls = r0.cls := Option.some.inj (e1.symm.trans (findClass_of_methodNamed h0))
  exact ⟨kP, e2 ▸ hkP, hkPi⟩
/-- a private method of an object, by invokevirtual: its class isn't an interface (nf) -/
theorem c_priv {C : String} (X : Stand p l e R s m args below meth c T locs cells slots) (hx : p.tables.exec = Jvm.exec) (hZ : Z.Warmed39 s.vm) (hown : s.vm.findClass own = some m.cls)
    (w1 : (Jvm.Cond.methodLink own index y).before a0 Z = true) (w2 : (Jvm.Cond.instanceMethod y).before a0 Z = true) (nf : NotFace s y) (wp : (Jvm.Cond.privateMethod y).before a0 Z = true) (w3 : (Jvm.Cond.initialized y.cls).before a0 Z = true) (w4 : (Jvm.Cond.code y bytes maxL ret).before a0 Z = true) (hy : y.cls ≠ "java/lang/invoke/MethodHandle" ∧ y.cls ≠ "java/lang/invoke/VarHandle")
    (hC : Ctr l Z y bytes maxL ret [] rm rm.cells rm.slots (.ref a :: argsL).toArray h Qc) (eT : T.heap = h) (E : Exa Z h a C) (hpd : parseMethodDescriptor y.desc = some ⟨ps, r⟩) (hlen : argsL.length = ps.length) (hsz : Ls.size = c.maxLocals) (hW : 2 * 0 + (rest.map fun v => v.category).sum ≤ W)
    (hf : rm.frames + 1 ≤ R.frames) (hl : W + (maxL + 11) + rm.locals ≤ R.locals) (hc : cells + rm.cells ≤ R.cells) (hs : slots + rm.slots ≤ R.slots) (hd : decode c.code pc = .ok (.invokevirtual index, 3)) :
    ∃ (v : Option Value) (T' : State) (L : List Loc), Stand p l e R s m args below meth c T' (locs ++ L) (cells + rm.cells) (slots + rm.slots) ∧ Qc v T'.heap L ∧
      ∀ t, Steps p.tables e below (T'.setTop (mkF m (pc + 3) Ls (v.toList ++ rest))) t → Steps p.tables e below (T.setTop (mkF m pc Ls (argsL.reverse ++ .ref a :: rest))) t := by
  obtain ⟨cq, qa, qb⟩ := E.cell
  obtain ⟨mk, methM, hnamed, hmethM, hstM, habM⟩ := Cond.instanceMethod_spec (mvT (args := args) hZ w2)
  obtain ⟨methM', cM, hmethM', -, -, -, -, -, -, hsigM⟩ := Cond.code_spec hnamed (mvT (args := args) hZ w4)
  cases hmethM.symm.trans hmethM'
  obtain ⟨kP, hkP, hkPi⟩ := nf mk hnamed
  have hsel : selectMethod e.platform s.vm cq.cls mk = .method mk := selectMethod_private hmethM ((Cond.privateMethod_at (mvP hZ wp (args := #[]))) mk methM hnamed hmethM)
  obtain ⟨vm₁, X₁, hst⟩ := X.invokevirtual hx hown (mvT hZ w1) hnamed hmethM hstM hkP hkPi hy (a := a) (cell := cq) (by rw [eT]; exact qa) qb hsel hmethM habM hkP hkPi (g := mkF m pc Ls (argsL.reverse ++ .ref a :: rest)) rfl (argsL := argsL) (rest := rest) (lenOf hpd hlen _ hsigM) rfl hd
  obtain ⟨v, ⟨T', L', k', n'⟩, X', ⟨L, hQ, rfl, rfl, rfl⟩, hgo⟩ := (backOf (W := W) (len := 3) hC hZ w4 w3 hf hl) m meth c ⟨T.setVm vm₁, locs, cells, slots⟩ (mkF m pc Ls rest) (.invokevirtual index) mk (.ref a :: argsL).toArray X₁ rfl hsz hd hW (X₁.named hnamed) ⟨rfl, eT, hc, hs⟩
  exact ⟨v, T', L, X', hQ, fun t k => ((hst _ fun acts => by rw [doInvoke_state]; exact Steps.refl _).trans hgo).trans k⟩
/-- invokevirtual of a method that a class above the one that the entry names declares -/
theorem c_virtUp {y' : MethodName} {C owner : String} (X : Stand p l e R s m args below meth c T locs cells slots) (hx : p.tables.exec = Jvm.exec) (hZ : Z.Warmed39 s.vm) (hown : s.vm.findClass own = some m.cls)
    (w1 : (Jvm.Cond.methodLink own index y').before a0 Z = true) (wm : (Jvm.Cond.sameMethod y'.cls owner y'.name y'.desc).before a0 Z = true) (wd : (Jvm.Cond.declares ⟨owner, y'.name, y'.desc⟩).before a0 Z = true) (ws : (Jvm.Cond.selects C y' y).before a0 Z = true) (w2 : (Jvm.Cond.instanceMethod y).before a0 Z = true) (w3 : (Jvm.Cond.initialized y.cls).before a0 Z = true) (w4 : (Jvm.Cond.code y bytes maxL ret).before a0 Z = true) (hy : owner ≠ "java/lang/invoke/MethodHandle" ∧ owner ≠ "java/lang/invoke/VarHandle")
    (hC : Ctr l Z y bytes maxL ret [] rm rm.cells rm.slots (.ref a :: argsL).toArray h Qc) (eT : T.heap = h) (E : Exa Z h a C) (hpd : parseMethodDescriptor y'.desc = some ⟨ps, r⟩) (hlen : argsL.length = ps.length) (hsz : Ls.size = c.maxLocals) (hW : 2 * 0 + (rest.map fun v => v.category).sum ≤ W)
    (hf : rm.frames + 1 ≤ R.frames) (hl : W + (maxL + 11) + rm.locals ≤ R.locals) (hc : cells + rm.cells ≤ R.cells) (hs : slots + rm.slots ≤ R.slots) (hd : decode c.code pc = .ok (.invokevirtual index, 3)) :
    ∃ (v : Option Value) (T' : State) (L : List Loc), Stand p l e R s m args below meth c T' (locs ++ L) (cells + rm.cells) (slots + rm.slots) ∧ Qc v T'.heap L ∧
      ∀ t, Steps p.tables e below (T'.setTop (mkF m (pc + 3) Ls (v.toList ++ rest))) t → Steps p.tables e below (T.setTop (mkF m pc Ls (argsL.reverse ++ .ref a :: rest))) t := by
  obtain ⟨cq, kq, qa, qb, qc⟩ := isOf hZ eT E
  obtain ⟨v, _, ⟨T', L', k', n'⟩, -, X', ⟨L, hQ, rfl, rfl, rfl⟩, st⟩ := X.virtualBackUp hx (x := y') (y := y) hown (mvT hZ w1) (mvT hZ wm) (mvT hZ wd) hy (mvT hZ ws) (mvT hZ w2) (backOf (W := W) hC hZ w4 w3 hf hl) qa qc (g := mkF m pc Ls (argsL.reverse ++ .ref a :: rest)) rfl hsz (Steps.refl _) (argsL := argsL) (rest := rest) (lenOf hpd hlen) rfl hW hd (fun _ _ => ⟨rfl, eT, hc, hs⟩)
  exact ⟨v, T', L, X', hQ, fun t k => st.trans k⟩
end Calls
end Own
abbrev PD (c : Int32) : Prop := ¬ (c < (48 : Int32)) ∧ ¬ ((57 : Int32) < c)
theorem own_a (c : Int32) : PD c ↔ (¬ ((c.toInt64 - (48 : Int64)) < (0 : Int64)) ∧ (¬ ((9 : Int64) < (c.toInt64 - (48 : Int64))))) := by
  have h1 := c_i2l c; have h2 := rng32 c; have h3 := c_lsub c.toInt64 48; have h4 := rng64 (c.toInt64 - 48)
  simp only [PD, Int32.lt_iff_toInt_lt, Int64.lt_iff_toInt_lt, Int32.reduceToInt, Int64.reduceToInt] at *
  omega
theorem own_b (k : Int32) : ∃ n : Nat, n < 12 ∧ (47 : Int32) + ((k &&& (2147483647 : Int32)) % (12 : Int32)) = Int32.ofNat (47 + n) := by
  have h1 := c_mask k 2147483647 31 (by decide) (by decide)
  have h2 := (c_irem (k &&& 2147483647) 12 12 (by decide)).1
  have h3 := c_iadd 47 ((k &&& 2147483647) % 12)
  have h4 := rng32 (47 + (k &&& 2147483647) % 12)
  have h5 := rng32 k
  simp only [Int32.reduceToInt] at *
  refine ⟨((k &&& 2147483647) % 12).toInt.toNat, by omega, Int32.toInt_inj.mp ?_⟩
  rw [Int32.toInt_ofNat_of_lt (by omega)]
  omega
theorem own_c : ∀ n : Fin 12, PD (Int32.ofNat (47 + n.1)) ↔ (¬ ((Int32.ofNat (47 + n.1)).toUInt32.toUInt16.toUInt32.toInt32 = (47 : Int32)) ∧ (¬ ((Int32.ofNat (47 + n.1)).toUInt32.toUInt16.toUInt32.toInt32 = (58 : Int32)))) := by decide +kernel
theorem own_d (k : Int32) : PD ((47 : Int32) + ((k &&& (2147483647 : Int32)) % (12 : Int32))) ↔ (¬ (((47 : Int32) + ((k &&& (2147483647 : Int32)) % (12 : Int32))).toUInt32.toUInt16.toUInt32.toInt32 = (47 : Int32)) ∧ (¬ (((47 : Int32) + ((k &&& (2147483647 : Int32)) % (12 : Int32))).toUInt32.toUInt16.toUInt32.toInt32 = (58 : Int32)))) := by
  obtain ⟨n, hn, e⟩ := own_b k
  rw [e]; exact own_c ⟨n, hn⟩
theorem ef_rm1 (m : MethodId) (x0 : Int32) : entryFrame m #[(.int x0)] 1 = mkF m 0 #[.val (.int x0)] [] := by first | (simp [entryFrame, mkF, argsToLocals, Value.category]; done) | rfl
theorem pn_0 : plainName "com/example/stowage/stowage/model/UriText" = true := by first | (simp [plainName, overriddenIn]; done) | decide +kernel
theorem d1_0 : decode prog_50_method_3_code 0 = .ok (.iload_n 0, 1) := by decide +kernel
theorem d1_1 : decode prog_50_method_3_code 1 = .ok (.bipush 48, 2) := by decide +kernel
theorem d1_3 : decode prog_50_method_3_code 3 = .ok (.if_icmp .lt 13, 3) := by decide +kernel
theorem d1_16 : decode prog_50_method_3_code 16 = .ok (.iconst 0, 1) := by decide +kernel
theorem d1_17 : decode prog_50_method_3_code 17 = .ok (.ireturn, 1) := by decide +kernel
theorem d1_6 : decode prog_50_method_3_code 6 = .ok (.iload_n 0, 1) := by decide +kernel
theorem d1_7 : decode prog_50_method_3_code 7 = .ok (.bipush 57, 2) := by decide +kernel
theorem d1_9 : decode prog_50_method_3_code 9 = .ok (.if_icmp .gt 7, 3) := by decide +kernel
theorem d1_12 : decode prog_50_method_3_code 12 = .ok (.iconst 1, 1) := by decide +kernel
theorem d1_13 : decode prog_50_method_3_code 13 = .ok (.goto 4, 3) := by decide +kernel
set_option maxRecDepth 65536 in
set_option maxHeartbeats 40000000 in
theorem rm1 (l : Launch) (Z : State) (a0 : Array Value) (hw : ∀ d ∈ tables_1, d.before a0 Z = true) (ws : List Jvm.Cond) (x : Int32) (h0 : Heap) (n0 : Nat) (Z0 : n0 ≤ h0.size)  :
    Ctr l Z (⟨"com/example/stowage/stowage/model/UriText", "isDigit", "(I)Z"⟩ : MethodName) prog_50_method_3_code 1 (some .boolean) ws ({ frames := 0, cells := 0, slots := 0, locals := 0 } : Room) 0 0 #[(.int x)] h0 (fun v h L => v = some (.int (bi (PD x))) ∧ L = [] ∧ h = h0) := by
  refine Ctr.mk (plainFor_of_name pn_0) fun p e s m below meth c T0 X0 C e0 => go_cast (ef_rm1 m x) ?_
  have N0 := Fr.nil n0
  obtain ⟨hx, hZ, hby, hml, hown, hnm, hret, hlk⟩ := C
  show Go _ _ _ _ _ _ _ T0 (mkF m 0 #[.val (.int x)] [])
  refine Go.step (fun t k => XS.iloadN X0.here hx rfl (hb hby d1_0) rfl k) ?_
  show Go _ _ _ _ _ _ _ T0 (mkF m 1 #[.val (.int x)] [(.int x)])
  refine Go.step (fun t k => XS.bipush X0.here hx rfl (hb hby d1_1) k) ?_
  show Go _ _ _ _ _ _ _ T0 (mkF m 3 #[.val (.int x)] [(.int (48 : Int32)), (.int x)])
  by_cases c3_1 : x < (48 : Int32)
  · refine Go.step (fun t k => XS.icmpYes X0.here hx rfl (pc0 := 3) (pc' := 16) rfl (hb hby d1_3) rfl (tlt c3_1).1 (by decide) (by decide) k) ?_
    show Go _ _ _ _ _ _ _ T0 (mkF m 16 #[.val (.int x)] [])
    refine Go.step (fun t k => XS.iconst X0.here hx rfl (hb hby d1_16) k) ?_
    show Go _ _ _ _ _ _ _ T0 (mkF m 17 #[.val (.int x)] [(.int (0 : Int32))])
    refine go_retN X0 hx (t := .boolean) hret (by simp) hlk (hb hby d1_17) (w := (0 : Int32)) rfl ?_ (by decide) (by decide)
    try rw [e0]
    exact ⟨congrArg (fun z => some (Value.int z)) (bi_f (by simp only [PD, eq_true c3_1, not_true_eq_false, not_false_eq_true, and_true, true_and, and_false, false_and, or_true, true_or, or_false, false_or, and_self, or_self])).symm, rfl, rfl⟩
  · refine Go.step (fun t k => XS.icmpNo X0.here hx rfl (hb hby d1_3) rfl (flt c3_1).1 k) ?_
    show Go _ _ _ _ _ _ _ T0 (mkF m 6 #[.val (.int x)] [])
    refine Go.step (fun t k => XS.iloadN X0.here hx rfl (hb hby d1_6) rfl k) ?_
    show Go _ _ _ _ _ _ _ T0 (mkF m 7 #[.val (.int x)] [(.int x)])
    refine Go.step (fun t k => XS.bipush X0.here hx rfl (hb hby d1_7) k) ?_
    show Go _ _ _ _ _ _ _ T0 (mkF m 9 #[.val (.int x)] [(.int (57 : Int32)), (.int x)])
    by_cases c9_2 : (57 : Int32) < x
    · refine Go.step (fun t k => XS.icmpYes X0.here hx rfl (pc0 := 9) (pc' := 16) rfl (hb hby d1_9) rfl (tlt c9_2).2.2.1 (by decide) (by decide) k) ?_
      show Go _ _ _ _ _ _ _ T0 (mkF m 16 #[.val (.int x)] [])
      refine Go.step (fun t k => XS.iconst X0.here hx rfl (hb hby d1_16) k) ?_
      show Go _ _ _ _ _ _ _ T0 (mkF m 17 #[.val (.int x)] [(.int (0 : Int32))])
      refine go_retN X0 hx (t := .boolean) hret (by simp) hlk (hb hby d1_17) (w := (0 : Int32)) rfl ?_ (by decide) (by decide)
      try rw [e0]
      exact ⟨congrArg (fun z => some (Value.int z)) (bi_f (by simp only [PD, eq_false c3_1, eq_true c9_2, not_true_eq_false, not_false_eq_true, and_true, true_and, and_false, false_and, or_true, true_or, or_false, false_or, and_self, or_self])).symm, rfl, rfl⟩
    · refine Go.step (fun t k => XS.icmpNo X0.here hx rfl (hb hby d1_9) rfl (flt c9_2).2.2.1 k) ?_
      show Go _ _ _ _ _ _ _ T0 (mkF m 12 #[.val (.int x)] [])
      refine Go.step (fun t k => XS.iconst X0.here hx rfl (hb hby d1_12) k) ?_
      show Go _ _ _ _ _ _ _ T0 (mkF m 13 #[.val (.int x)] [(.int (1 : Int32))])
      refine Go.step (fun t k => XS.goto X0.here hx rfl (pc0 := 13) (pc' := 17) rfl (hb hby d1_13) (by decide) (by decide) k) ?_
      show Go _ _ _ _ _ _ _ T0 (mkF m 17 #[.val (.int x)] [(.int (1 : Int32))])
      refine go_retN X0 hx (t := .boolean) hret (by simp) hlk (hb hby d1_17) (w := (1 : Int32)) rfl ?_ (by decide) (by decide)
      try rw [e0]
      exact ⟨congrArg (fun z => some (Value.int z)) (bi_t (by simp only [PD, eq_false c3_1, eq_false c9_2, not_true_eq_false, not_false_eq_true, and_true, true_and, and_false, false_and, or_true, true_or, or_false, false_or, and_self, or_self])).symm, rfl, rfl⟩
theorem ef_rm0 (m : MethodId) (x0 : Int32) (x1 : Int32) : entryFrame m #[(.int x0), (.int x1)] maxLocals = mkF m 0 #[.val (.int x0), .val (.int x1), .unset, .unset, .unset, .unset, .unset, .unset, .unset, .unset] [] := by first | (simp [entryFrame, mkF, argsToLocals, Value.category, maxLocals]; done) | rfl
theorem pn_1 : plainName "com/example/stowage/stowage/model/UriTextIsDigitPinLaw" = true := by first | (simp [plainName, overriddenIn]; done) | decide +kernel
theorem pd_0 : parseMethodDescriptor "(I)Z" = some ⟨[.int], some .boolean⟩ := by decide +kernel
set_option maxRecDepth 65536 in
set_option maxHeartbeats 40000000 in
theorem rm0 (l : Launch) (Z : State) (a0 : Array Value) (hw : ∀ d ∈ tables_1, d.before a0 Z = true) (ws : List Jvm.Cond) (i0 i1 : Int32) (h0 : Heap) (n0 : Nat) (Z0 : n0 ≤ h0.size)  :
    Ctr l Z x code maxLocals ret ws room_1 0 0 #[(.int i0), (.int i1)] h0 (fun v h L => v = some (.int (1 : Int32)) ∧ Fr n0 L) := by
  refine Ctr.mk (plainFor_of_name pn_1) fun p e s m below meth c T0 X0 C e0 => go_cast (ef_rm0 m i0 i1) ?_
  have N0 := Fr.nil n0
  obtain ⟨hx, hZ, hby, hml, hown, hnm, hret, hlk⟩ := C
  show Go _ _ _ _ _ _ _ T0 (mkF m 0 #[.val (.int i0), .val (.int i1), .unset, .unset, .unset, .unset, .unset, .unset, .unset, .unset] [])
  refine Go.step (fun t k => XS.iloadN X0.here hx rfl (hb hby at_0) rfl k) ?_
  show Go _ _ _ _ _ _ _ T0 (mkF m 1 #[.val (.int i0), .val (.int i1), .unset, .unset, .unset, .unset, .unset, .unset, .unset, .unset] [(.int i0)])
  refine Go.step (fun t k => XS.i2l X0.here hx rfl (hb hby at_1) rfl k) ?_
  show Go _ _ _ _ _ _ _ T0 (mkF m 2 #[.val (.int i0), .val (.int i1), .unset, .unset, .unset, .unset, .unset, .unset, .unset, .unset] [(.long (i0.toInt64))])
  refine Go.step (X0.ldc2Long hx hown (mvT hZ (hw _ (List.mem_of_getElem? (i := 0) rfl))) (g := (mkF m 2 #[.val (.int i0), .val (.int i1), .unset, .unset, .unset, .unset, .unset, .unset, .unset, .unset] [(.long (i0.toInt64))])) rfl (hb hby at_2)) ?_
  show Go _ _ _ _ _ _ _ T0 (mkF m 5 #[.val (.int i0), .val (.int i1), .unset, .unset, .unset, .unset, .unset, .unset, .unset, .unset] [(.long (48 : Int64)), (.long (i0.toInt64))])
  refine Go.step (fun t k => XS.lsub X0.here hx rfl (hb hby at_5) rfl k) ?_
  show Go _ _ _ _ _ _ _ T0 (mkF m 6 #[.val (.int i0), .val (.int i1), .unset, .unset, .unset, .unset, .unset, .unset, .unset, .unset] [(.long ((i0.toInt64) - (48 : Int64)))])
  refine Go.step (fun t k => XS.lstoreN X0.here hx rfl (hb hby at_6) rfl (l' := #[.val (.int i0), .val (.int i1), .val (.long ((i0.toInt64) - (48 : Int64))), .second, .unset, .unset, .unset, .unset, .unset, .unset]) rfl k) ?_
  show Go _ _ _ _ _ _ _ T0 (mkF m 7 #[.val (.int i0), .val (.int i1), .val (.long ((i0.toInt64) - (48 : Int64))), .second, .unset, .unset, .unset, .unset, .unset, .unset] [])
  refine Go.step (fun t k => XS.lloadN X0.here hx rfl (hb hby at_7) rfl k) ?_
  show Go _ _ _ _ _ _ _ T0 (mkF m 8 #[.val (.int i0), .val (.int i1), .val (.long ((i0.toInt64) - (48 : Int64))), .second, .unset, .unset, .unset, .unset, .unset, .unset] [(.long ((i0.toInt64) - (48 : Int64)))])
  refine Go.step (fun t k => XS.lconst X0.here hx rfl (hb hby at_8) k) ?_
  show Go _ _ _ _ _ _ _ T0 (mkF m 9 #[.val (.int i0), .val (.int i1), .val (.long ((i0.toInt64) - (48 : Int64))), .second, .unset, .unset, .unset, .unset, .unset, .unset] [(.long (0 : Int64)), (.long ((i0.toInt64) - (48 : Int64)))])
  refine Go.step (fun t k => XS.lcmp X0.here hx rfl (hb hby at_9) rfl k) ?_
  show Go _ _ _ _ _ _ _ T0 (mkF m 10 #[.val (.int i0), .val (.int i1), .val (.long ((i0.toInt64) - (48 : Int64))), .second, .unset, .unset, .unset, .unset, .unset, .unset] [(.int (lcmpW ((i0.toInt64) - (48 : Int64)) (0 : Int64)))])
  obtain ⟨q10, hq10⟩ : ∃ q : Bool, q = true ↔ (¬ (((i0.toInt64) - (48 : Int64)) < (0 : Int64)) ∧ (¬ ((9 : Int64) < ((i0.toInt64) - (48 : Int64))))) := ⟨decide (¬ (((i0.toInt64) - (48 : Int64)) < (0 : Int64)) ∧ (¬ ((9 : Int64) < ((i0.toInt64) - (48 : Int64))))), decide_eq_true_iff⟩
  have j10 : Go p e s below 0 0 (fun v h L => v = some (.int (1 : Int32)) ∧ Fr n0 L) T0 (mkF m 26 #[.val (.int i0), .val (.int i1), .val (.long ((i0.toInt64) - (48 : Int64))), .second, .unset, .unset, .unset, .unset, .unset, .unset] [(.int (bi (q10 = true)))]) := by
    refine Go.step (fun t k => XS.istore X0.here hx rfl (hb hby at_26) rfl (l' := #[.val (.int i0), .val (.int i1), .val (.long ((i0.toInt64) - (48 : Int64))), .second, .val (.int (bi (q10 = true))), .unset, .unset, .unset, .unset, .unset]) rfl k) ?_
    show Go _ _ _ _ _ _ _ T0 (mkF m 28 #[.val (.int i0), .val (.int i1), .val (.long ((i0.toInt64) - (48 : Int64))), .second, .val (.int (bi (q10 = true))), .unset, .unset, .unset, .unset, .unset] [])
    refine Go.step (fun t k => XS.iloadN X0.here hx rfl (hb hby at_28) rfl k) ?_
    show Go _ _ _ _ _ _ _ T0 (mkF m 29 #[.val (.int i0), .val (.int i1), .val (.long ((i0.toInt64) - (48 : Int64))), .second, .val (.int (bi (q10 = true))), .unset, .unset, .unset, .unset, .unset] [(.int i0)])
    obtain ⟨v1, T1, L1, X1, q1, st1⟩ := c_static X0 hx hZ hown (y := (⟨"com/example/stowage/stowage/model/UriText", "isDigit", "(I)Z"⟩ : MethodName)) (hw _ (List.mem_of_getElem? (i := 1) rfl)) (hw _ (List.mem_of_getElem? (i := 2) rfl)) (hw _ (List.mem_of_getElem? (i := 3) rfl)) (hw _ (List.mem_of_getElem? (i := 4) rfl)) (by decide) (argsL := [(.int i0)]) (rest := []) (rm1 l Z a0 hw [] i0  h0 n0 Z0 ) e0 pd_0 rfl (by rw [hml]; rfl) (W := 0) (by show 2 * 0 + _ ≤ _; exact Nat.le_of_eq rfl) (by decide) (by decide) (by decide) (by decide) (hb hby at_29) (Ls := #[.val (.int i0), .val (.int i1), .val (.long ((i0.toInt64) - (48 : Int64))), .second, .val (.int (bi (q10 = true))), .unset, .unset, .unset, .unset, .unset])
    obtain ⟨rfl, rfl, e1⟩ := q1
    have N1 := Fr.app N0 (Fr.nil n0)
    refine Go.step (st1) ?_
    show Go _ _ _ _ _ _ _ T1 (mkF m 32 #[.val (.int i0), .val (.int i1), .val (.long ((i0.toInt64) - (48 : Int64))), .second, .val (.int (bi (q10 = true))), .unset, .unset, .unset, .unset, .unset] [(.int (bi (PD i0)))])
    refine Go.step (fun t k => XS.iload X1.here hx rfl (hb hby at_32) rfl k) ?_
    show Go _ _ _ _ _ _ _ T1 (mkF m 34 #[.val (.int i0), .val (.int i1), .val (.long ((i0.toInt64) - (48 : Int64))), .second, .val (.int (bi (q10 = true))), .unset, .unset, .unset, .unset, .unset] [(.int (bi (q10 = true))), (.int (bi (PD i0)))])
    obtain ⟨q34, hq34⟩ : ∃ q : Bool, q = true ↔ ((bi (PD i0)) = (bi (q10 = true))) := ⟨decide ((bi (PD i0)) = (bi (q10 = true))), decide_eq_true_iff⟩
    have j34 : Go p e s below 0 0 (fun v h L => v = some (.int (1 : Int32)) ∧ Fr n0 L) T1 (mkF m 42 #[.val (.int i0), .val (.int i1), .val (.long ((i0.toInt64) - (48 : Int64))), .second, .val (.int (bi (q10 = true))), .unset, .unset, .unset, .unset, .unset] [(.int (bi (q34 = true)))]) := by
      refine Go.step (fun t k => XS.istore X1.here hx rfl (hb hby at_42) rfl (l' := #[.val (.int i0), .val (.int i1), .val (.long ((i0.toInt64) - (48 : Int64))), .second, .val (.int (bi (q10 = true))), .val (.int (bi (q34 = true))), .unset, .unset, .unset, .unset]) rfl k) ?_
      show Go _ _ _ _ _ _ _ T1 (mkF m 44 #[.val (.int i0), .val (.int i1), .val (.long ((i0.toInt64) - (48 : Int64))), .second, .val (.int (bi (q10 = true))), .val (.int (bi (q34 = true))), .unset, .unset, .unset, .unset] [])
      refine Go.step (fun t k => XS.bipush X1.here hx rfl (hb hby at_44) k) ?_
      show Go _ _ _ _ _ _ _ T1 (mkF m 46 #[.val (.int i0), .val (.int i1), .val (.long ((i0.toInt64) - (48 : Int64))), .second, .val (.int (bi (q10 = true))), .val (.int (bi (q34 = true))), .unset, .unset, .unset, .unset] [(.int (47 : Int32))])
      refine Go.step (fun t k => XS.iloadN X1.here hx rfl (hb hby at_46) rfl k) ?_
      show Go _ _ _ _ _ _ _ T1 (mkF m 47 #[.val (.int i0), .val (.int i1), .val (.long ((i0.toInt64) - (48 : Int64))), .second, .val (.int (bi (q10 = true))), .val (.int (bi (q34 = true))), .unset, .unset, .unset, .unset] [(.int i1), (.int (47 : Int32))])
      refine Go.step (X1.ldcInt hx hown (mvT hZ (hw _ (List.mem_of_getElem? (i := 5) rfl))) (g := (mkF m 47 #[.val (.int i0), .val (.int i1), .val (.long ((i0.toInt64) - (48 : Int64))), .second, .val (.int (bi (q10 = true))), .val (.int (bi (q34 = true))), .unset, .unset, .unset, .unset] [(.int i1), (.int (47 : Int32))])) rfl (hb hby at_47)) ?_
      show Go _ _ _ _ _ _ _ T1 (mkF m 49 #[.val (.int i0), .val (.int i1), .val (.long ((i0.toInt64) - (48 : Int64))), .second, .val (.int (bi (q10 = true))), .val (.int (bi (q34 = true))), .unset, .unset, .unset, .unset] [(.int (2147483647 : Int32)), (.int i1), (.int (47 : Int32))])
      refine Go.step (fun t k => XS.iand X1.here hx rfl (hb hby at_49) rfl k) ?_
      show Go _ _ _ _ _ _ _ T1 (mkF m 50 #[.val (.int i0), .val (.int i1), .val (.long ((i0.toInt64) - (48 : Int64))), .second, .val (.int (bi (q10 = true))), .val (.int (bi (q34 = true))), .unset, .unset, .unset, .unset] [(.int (i1 &&& (2147483647 : Int32))), (.int (47 : Int32))])
      refine Go.step (fun t k => XS.bipush X1.here hx rfl (hb hby at_50) k) ?_
      show Go _ _ _ _ _ _ _ T1 (mkF m 52 #[.val (.int i0), .val (.int i1), .val (.long ((i0.toInt64) - (48 : Int64))), .second, .val (.int (bi (q10 = true))), .val (.int (bi (q34 = true))), .unset, .unset, .unset, .unset] [(.int (12 : Int32)), (.int (i1 &&& (2147483647 : Int32))), (.int (47 : Int32))])
      refine Go.step (fun t k => iremM X1 hx rfl (hb hby at_52) rfl (by decide) k) ?_
      show Go _ _ _ _ _ _ _ T1 (mkF m 53 #[.val (.int i0), .val (.int i1), .val (.long ((i0.toInt64) - (48 : Int64))), .second, .val (.int (bi (q10 = true))), .val (.int (bi (q34 = true))), .unset, .unset, .unset, .unset] [(.int ((i1 &&& (2147483647 : Int32)) % (12 : Int32))), (.int (47 : Int32))])
      refine Go.step (fun t k => XS.iadd X1.here hx rfl (hb hby at_53) rfl k) ?_
      show Go _ _ _ _ _ _ _ T1 (mkF m 54 #[.val (.int i0), .val (.int i1), .val (.long ((i0.toInt64) - (48 : Int64))), .second, .val (.int (bi (q10 = true))), .val (.int (bi (q34 = true))), .unset, .unset, .unset, .unset] [(.int ((47 : Int32) + ((i1 &&& (2147483647 : Int32)) % (12 : Int32))))])
      refine Go.step (fun t k => XS.istore X1.here hx rfl (hb hby at_54) rfl (l' := #[.val (.int i0), .val (.int i1), .val (.long ((i0.toInt64) - (48 : Int64))), .second, .val (.int (bi (q10 = true))), .val (.int (bi (q34 = true))), .val (.int ((47 : Int32) + ((i1 &&& (2147483647 : Int32)) % (12 : Int32)))), .unset, .unset, .unset]) rfl k) ?_
      show Go _ _ _ _ _ _ _ T1 (mkF m 56 #[.val (.int i0), .val (.int i1), .val (.long ((i0.toInt64) - (48 : Int64))), .second, .val (.int (bi (q10 = true))), .val (.int (bi (q34 = true))), .val (.int ((47 : Int32) + ((i1 &&& (2147483647 : Int32)) % (12 : Int32)))), .unset, .unset, .unset] [])
      refine Go.step (fun t k => XS.iload X1.here hx rfl (hb hby at_56) rfl k) ?_
      show Go _ _ _ _ _ _ _ T1 (mkF m 58 #[.val (.int i0), .val (.int i1), .val (.long ((i0.toInt64) - (48 : Int64))), .second, .val (.int (bi (q10 = true))), .val (.int (bi (q34 = true))), .val (.int ((47 : Int32) + ((i1 &&& (2147483647 : Int32)) % (12 : Int32)))), .unset, .unset, .unset] [(.int ((47 : Int32) + ((i1 &&& (2147483647 : Int32)) % (12 : Int32))))])
      refine Go.step (fun t k => XS.i2c X1.here hx rfl (hb hby at_58) rfl k) ?_
      show Go _ _ _ _ _ _ _ T1 (mkF m 59 #[.val (.int i0), .val (.int i1), .val (.long ((i0.toInt64) - (48 : Int64))), .second, .val (.int (bi (q10 = true))), .val (.int (bi (q34 = true))), .val (.int ((47 : Int32) + ((i1 &&& (2147483647 : Int32)) % (12 : Int32)))), .unset, .unset, .unset] [(.int (((47 : Int32) + ((i1 &&& (2147483647 : Int32)) % (12 : Int32))).toUInt32.toUInt16.toUInt32.toInt32))])
      refine Go.step (fun t k => XS.istore X1.here hx rfl (hb hby at_59) rfl (l' := #[.val (.int i0), .val (.int i1), .val (.long ((i0.toInt64) - (48 : Int64))), .second, .val (.int (bi (q10 = true))), .val (.int (bi (q34 = true))), .val (.int ((47 : Int32) + ((i1 &&& (2147483647 : Int32)) % (12 : Int32)))), .val (.int (((47 : Int32) + ((i1 &&& (2147483647 : Int32)) % (12 : Int32))).toUInt32.toUInt16.toUInt32.toInt32)), .unset, .unset]) rfl k) ?_
      show Go _ _ _ _ _ _ _ T1 (mkF m 61 #[.val (.int i0), .val (.int i1), .val (.long ((i0.toInt64) - (48 : Int64))), .second, .val (.int (bi (q10 = true))), .val (.int (bi (q34 = true))), .val (.int ((47 : Int32) + ((i1 &&& (2147483647 : Int32)) % (12 : Int32)))), .val (.int (((47 : Int32) + ((i1 &&& (2147483647 : Int32)) % (12 : Int32))).toUInt32.toUInt16.toUInt32.toInt32)), .unset, .unset] [])
      refine Go.step (fun t k => XS.iload X1.here hx rfl (hb hby at_61) rfl k) ?_
      show Go _ _ _ _ _ _ _ T1 (mkF m 63 #[.val (.int i0), .val (.int i1), .val (.long ((i0.toInt64) - (48 : Int64))), .second, .val (.int (bi (q10 = true))), .val (.int (bi (q34 = true))), .val (.int ((47 : Int32) + ((i1 &&& (2147483647 : Int32)) % (12 : Int32)))), .val (.int (((47 : Int32) + ((i1 &&& (2147483647 : Int32)) % (12 : Int32))).toUInt32.toUInt16.toUInt32.toInt32)), .unset, .unset] [(.int (((47 : Int32) + ((i1 &&& (2147483647 : Int32)) % (12 : Int32))).toUInt32.toUInt16.toUInt32.toInt32))])
      refine Go.step (fun t k => XS.bipush X1.here hx rfl (hb hby at_63) k) ?_
      show Go _ _ _ _ _ _ _ T1 (mkF m 65 #[.val (.int i0), .val (.int i1), .val (.long ((i0.toInt64) - (48 : Int64))), .second, .val (.int (bi (q10 = true))), .val (.int (bi (q34 = true))), .val (.int ((47 : Int32) + ((i1 &&& (2147483647 : Int32)) % (12 : Int32)))), .val (.int (((47 : Int32) + ((i1 &&& (2147483647 : Int32)) % (12 : Int32))).toUInt32.toUInt16.toUInt32.toInt32)), .unset, .unset] [(.int (47 : Int32)), (.int (((47 : Int32) + ((i1 &&& (2147483647 : Int32)) % (12 : Int32))).toUInt32.toUInt16.toUInt32.toInt32))])
      obtain ⟨q65, hq65⟩ : ∃ q : Bool, q = true ↔ (¬ ((((47 : Int32) + ((i1 &&& (2147483647 : Int32)) % (12 : Int32))).toUInt32.toUInt16.toUInt32.toInt32) = (47 : Int32)) ∧ (¬ ((((47 : Int32) + ((i1 &&& (2147483647 : Int32)) % (12 : Int32))).toUInt32.toUInt16.toUInt32.toInt32) = (58 : Int32)))) := ⟨decide (¬ ((((47 : Int32) + ((i1 &&& (2147483647 : Int32)) % (12 : Int32))).toUInt32.toUInt16.toUInt32.toInt32) = (47 : Int32)) ∧ (¬ ((((47 : Int32) + ((i1 &&& (2147483647 : Int32)) % (12 : Int32))).toUInt32.toUInt16.toUInt32.toInt32) = (58 : Int32)))), decide_eq_true_iff⟩
      have j65 : Go p e s below 0 0 (fun v h L => v = some (.int (1 : Int32)) ∧ Fr n0 L) T1 (mkF m 80 #[.val (.int i0), .val (.int i1), .val (.long ((i0.toInt64) - (48 : Int64))), .second, .val (.int (bi (q10 = true))), .val (.int (bi (q34 = true))), .val (.int ((47 : Int32) + ((i1 &&& (2147483647 : Int32)) % (12 : Int32)))), .val (.int (((47 : Int32) + ((i1 &&& (2147483647 : Int32)) % (12 : Int32))).toUInt32.toUInt16.toUInt32.toInt32)), .unset, .unset] [(.int (bi (q65 = true)))]) := by
        refine Go.step (fun t k => XS.istore X1.here hx rfl (hb hby at_80) rfl (l' := #[.val (.int i0), .val (.int i1), .val (.long ((i0.toInt64) - (48 : Int64))), .second, .val (.int (bi (q10 = true))), .val (.int (bi (q34 = true))), .val (.int ((47 : Int32) + ((i1 &&& (2147483647 : Int32)) % (12 : Int32)))), .val (.int (((47 : Int32) + ((i1 &&& (2147483647 : Int32)) % (12 : Int32))).toUInt32.toUInt16.toUInt32.toInt32)), .val (.int (bi (q65 = true))), .unset]) rfl k) ?_
        show Go _ _ _ _ _ _ _ T1 (mkF m 82 #[.val (.int i0), .val (.int i1), .val (.long ((i0.toInt64) - (48 : Int64))), .second, .val (.int (bi (q10 = true))), .val (.int (bi (q34 = true))), .val (.int ((47 : Int32) + ((i1 &&& (2147483647 : Int32)) % (12 : Int32)))), .val (.int (((47 : Int32) + ((i1 &&& (2147483647 : Int32)) % (12 : Int32))).toUInt32.toUInt16.toUInt32.toInt32)), .val (.int (bi (q65 = true))), .unset] [])
        refine Go.step (fun t k => XS.iload X1.here hx rfl (hb hby at_82) rfl k) ?_
        show Go _ _ _ _ _ _ _ T1 (mkF m 84 #[.val (.int i0), .val (.int i1), .val (.long ((i0.toInt64) - (48 : Int64))), .second, .val (.int (bi (q10 = true))), .val (.int (bi (q34 = true))), .val (.int ((47 : Int32) + ((i1 &&& (2147483647 : Int32)) % (12 : Int32)))), .val (.int (((47 : Int32) + ((i1 &&& (2147483647 : Int32)) % (12 : Int32))).toUInt32.toUInt16.toUInt32.toInt32)), .val (.int (bi (q65 = true))), .unset] [(.int ((47 : Int32) + ((i1 &&& (2147483647 : Int32)) % (12 : Int32))))])
        obtain ⟨v2, T2, L2, X2, q2, st2⟩ := c_static X1 hx hZ hown (y := (⟨"com/example/stowage/stowage/model/UriText", "isDigit", "(I)Z"⟩ : MethodName)) (hw _ (List.mem_of_getElem? (i := 1) rfl)) (hw _ (List.mem_of_getElem? (i := 2) rfl)) (hw _ (List.mem_of_getElem? (i := 3) rfl)) (hw _ (List.mem_of_getElem? (i := 4) rfl)) (by decide) (argsL := [(.int ((47 : Int32) + ((i1 &&& (2147483647 : Int32)) % (12 : Int32))))]) (rest := []) (rm1 l Z a0 hw [] ((47 : Int32) + ((i1 &&& (2147483647 : Int32)) % (12 : Int32)))  h0 n0 Z0 ) e1 pd_0 rfl (by rw [hml]; rfl) (W := 0) (by show 2 * 0 + _ ≤ _; exact Nat.le_of_eq rfl) (by decide) (by decide) (by decide) (by decide) (hb hby at_84) (Ls := #[.val (.int i0), .val (.int i1), .val (.long ((i0.toInt64) - (48 : Int64))), .second, .val (.int (bi (q10 = true))), .val (.int (bi (q34 = true))), .val (.int ((47 : Int32) + ((i1 &&& (2147483647 : Int32)) % (12 : Int32)))), .val (.int (((47 : Int32) + ((i1 &&& (2147483647 : Int32)) % (12 : Int32))).toUInt32.toUInt16.toUInt32.toInt32)), .val (.int (bi (q65 = true))), .unset])
        obtain ⟨rfl, rfl, e2⟩ := q2
        have N2 := Fr.app N1 (Fr.nil n0)
        refine Go.step (st2) ?_
        show Go _ _ _ _ _ _ _ T2 (mkF m 87 #[.val (.int i0), .val (.int i1), .val (.long ((i0.toInt64) - (48 : Int64))), .second, .val (.int (bi (q10 = true))), .val (.int (bi (q34 = true))), .val (.int ((47 : Int32) + ((i1 &&& (2147483647 : Int32)) % (12 : Int32)))), .val (.int (((47 : Int32) + ((i1 &&& (2147483647 : Int32)) % (12 : Int32))).toUInt32.toUInt16.toUInt32.toInt32)), .val (.int (bi (q65 = true))), .unset] [(.int (bi (PD ((47 : Int32) + ((i1 &&& (2147483647 : Int32)) % (12 : Int32))))))])
        refine Go.step (fun t k => XS.iload X2.here hx rfl (hb hby at_87) rfl k) ?_
        show Go _ _ _ _ _ _ _ T2 (mkF m 89 #[.val (.int i0), .val (.int i1), .val (.long ((i0.toInt64) - (48 : Int64))), .second, .val (.int (bi (q10 = true))), .val (.int (bi (q34 = true))), .val (.int ((47 : Int32) + ((i1 &&& (2147483647 : Int32)) % (12 : Int32)))), .val (.int (((47 : Int32) + ((i1 &&& (2147483647 : Int32)) % (12 : Int32))).toUInt32.toUInt16.toUInt32.toInt32)), .val (.int (bi (q65 = true))), .unset] [(.int (bi (q65 = true))), (.int (bi (PD ((47 : Int32) + ((i1 &&& (2147483647 : Int32)) % (12 : Int32))))))])
        obtain ⟨q89, hq89⟩ : ∃ q : Bool, q = true ↔ ((bi (PD ((47 : Int32) + ((i1 &&& (2147483647 : Int32)) % (12 : Int32))))) = (bi (q65 = true))) := ⟨decide ((bi (PD ((47 : Int32) + ((i1 &&& (2147483647 : Int32)) % (12 : Int32))))) = (bi (q65 = true))), decide_eq_true_iff⟩
        have j89 : Go p e s below 0 0 (fun v h L => v = some (.int (1 : Int32)) ∧ Fr n0 L) T2 (mkF m 97 #[.val (.int i0), .val (.int i1), .val (.long ((i0.toInt64) - (48 : Int64))), .second, .val (.int (bi (q10 = true))), .val (.int (bi (q34 = true))), .val (.int ((47 : Int32) + ((i1 &&& (2147483647 : Int32)) % (12 : Int32)))), .val (.int (((47 : Int32) + ((i1 &&& (2147483647 : Int32)) % (12 : Int32))).toUInt32.toUInt16.toUInt32.toInt32)), .val (.int (bi (q65 = true))), .unset] [(.int (bi (q89 = true)))]) := by
          refine Go.step (fun t k => XS.istore X2.here hx rfl (hb hby at_97) rfl (l' := #[.val (.int i0), .val (.int i1), .val (.long ((i0.toInt64) - (48 : Int64))), .second, .val (.int (bi (q10 = true))), .val (.int (bi (q34 = true))), .val (.int ((47 : Int32) + ((i1 &&& (2147483647 : Int32)) % (12 : Int32)))), .val (.int (((47 : Int32) + ((i1 &&& (2147483647 : Int32)) % (12 : Int32))).toUInt32.toUInt16.toUInt32.toInt32)), .val (.int (bi (q65 = true))), .val (.int (bi (q89 = true)))]) rfl k) ?_
          show Go _ _ _ _ _ _ _ T2 (mkF m 99 #[.val (.int i0), .val (.int i1), .val (.long ((i0.toInt64) - (48 : Int64))), .second, .val (.int (bi (q10 = true))), .val (.int (bi (q34 = true))), .val (.int ((47 : Int32) + ((i1 &&& (2147483647 : Int32)) % (12 : Int32)))), .val (.int (((47 : Int32) + ((i1 &&& (2147483647 : Int32)) % (12 : Int32))).toUInt32.toUInt16.toUInt32.toInt32)), .val (.int (bi (q65 = true))), .val (.int (bi (q89 = true)))] [])
          refine Go.step (fun t k => XS.iload X2.here hx rfl (hb hby at_99) rfl k) ?_
          show Go _ _ _ _ _ _ _ T2 (mkF m 101 #[.val (.int i0), .val (.int i1), .val (.long ((i0.toInt64) - (48 : Int64))), .second, .val (.int (bi (q10 = true))), .val (.int (bi (q34 = true))), .val (.int ((47 : Int32) + ((i1 &&& (2147483647 : Int32)) % (12 : Int32)))), .val (.int (((47 : Int32) + ((i1 &&& (2147483647 : Int32)) % (12 : Int32))).toUInt32.toUInt16.toUInt32.toInt32)), .val (.int (bi (q65 = true))), .val (.int (bi (q89 = true)))] [(.int (bi (q34 = true)))])
          refine Go.step (fun t k => XS.ifNo X2.here hx rfl (hb hby at_101) rfl ((if0 _ _).trans (feq (bi_n (hq34.mpr (bi_congr ((own_a i0).trans hq10.symm))))).1) k) ?_
          show Go _ _ _ _ _ _ _ T2 (mkF m 104 #[.val (.int i0), .val (.int i1), .val (.long ((i0.toInt64) - (48 : Int64))), .second, .val (.int (bi (q10 = true))), .val (.int (bi (q34 = true))), .val (.int ((47 : Int32) + ((i1 &&& (2147483647 : Int32)) % (12 : Int32)))), .val (.int (((47 : Int32) + ((i1 &&& (2147483647 : Int32)) % (12 : Int32))).toUInt32.toUInt16.toUInt32.toInt32)), .val (.int (bi (q65 = true))), .val (.int (bi (q89 = true)))] [])
          refine Go.step (fun t k => XS.iload X2.here hx rfl (hb hby at_104) rfl k) ?_
          show Go _ _ _ _ _ _ _ T2 (mkF m 106 #[.val (.int i0), .val (.int i1), .val (.long ((i0.toInt64) - (48 : Int64))), .second, .val (.int (bi (q10 = true))), .val (.int (bi (q34 = true))), .val (.int ((47 : Int32) + ((i1 &&& (2147483647 : Int32)) % (12 : Int32)))), .val (.int (((47 : Int32) + ((i1 &&& (2147483647 : Int32)) % (12 : Int32))).toUInt32.toUInt16.toUInt32.toInt32)), .val (.int (bi (q65 = true))), .val (.int (bi (q89 = true)))] [(.int (bi (q89 = true)))])
          refine Go.step (fun t k => XS.ifNo X2.here hx rfl (hb hby at_106) rfl ((if0 _ _).trans (feq (bi_n (hq89.mpr (bi_congr ((own_d i1).trans hq65.symm))))).1) k) ?_
          show Go _ _ _ _ _ _ _ T2 (mkF m 109 #[.val (.int i0), .val (.int i1), .val (.long ((i0.toInt64) - (48 : Int64))), .second, .val (.int (bi (q10 = true))), .val (.int (bi (q34 = true))), .val (.int ((47 : Int32) + ((i1 &&& (2147483647 : Int32)) % (12 : Int32)))), .val (.int (((47 : Int32) + ((i1 &&& (2147483647 : Int32)) % (12 : Int32))).toUInt32.toUInt16.toUInt32.toInt32)), .val (.int (bi (q65 = true))), .val (.int (bi (q89 = true)))] [])
          refine Go.step (fun t k => XS.iconst X2.here hx rfl (hb hby at_109) k) ?_
          show Go _ _ _ _ _ _ _ T2 (mkF m 110 #[.val (.int i0), .val (.int i1), .val (.long ((i0.toInt64) - (48 : Int64))), .second, .val (.int (bi (q10 = true))), .val (.int (bi (q34 = true))), .val (.int ((47 : Int32) + ((i1 &&& (2147483647 : Int32)) % (12 : Int32)))), .val (.int (((47 : Int32) + ((i1 &&& (2147483647 : Int32)) % (12 : Int32))).toUInt32.toUInt16.toUInt32.toInt32)), .val (.int (bi (q65 = true))), .val (.int (bi (q89 = true)))] [(.int (1 : Int32))])
          refine Go.step (fun t k => XS.goto X2.here hx rfl (pc0 := 110) (pc' := 114) rfl (hb hby at_110) (by decide) (by decide) k) ?_
          show Go _ _ _ _ _ _ _ T2 (mkF m 114 #[.val (.int i0), .val (.int i1), .val (.long ((i0.toInt64) - (48 : Int64))), .second, .val (.int (bi (q10 = true))), .val (.int (bi (q34 = true))), .val (.int ((47 : Int32) + ((i1 &&& (2147483647 : Int32)) % (12 : Int32)))), .val (.int (((47 : Int32) + ((i1 &&& (2147483647 : Int32)) % (12 : Int32))).toUInt32.toUInt16.toUInt32.toInt32)), .val (.int (bi (q65 = true))), .val (.int (bi (q89 = true)))] [(.int (1 : Int32))])
          refine go_retN X2 hx (t := .boolean) hret (by simp) hlk (hb hby at_114) (w := (1 : Int32)) rfl ?_ (by decide) (by decide)
          try rw [e2]
          exact ⟨rfl, N2⟩
        by_cases c89_3 : (bi (PD ((47 : Int32) + ((i1 &&& (2147483647 : Int32)) % (12 : Int32))))) = (bi (q65 = true))
        · refine Go.step (fun t k => XS.icmpNo X2.here hx rfl (hb hby at_89) rfl (teq c89_3).2 k) ?_
          show Go _ _ _ _ _ _ _ T2 (mkF m 92 #[.val (.int i0), .val (.int i1), .val (.long ((i0.toInt64) - (48 : Int64))), .second, .val (.int (bi (q10 = true))), .val (.int (bi (q34 = true))), .val (.int ((47 : Int32) + ((i1 &&& (2147483647 : Int32)) % (12 : Int32)))), .val (.int (((47 : Int32) + ((i1 &&& (2147483647 : Int32)) % (12 : Int32))).toUInt32.toUInt16.toUInt32.toInt32)), .val (.int (bi (q65 = true))), .unset] [])
          refine Go.step (fun t k => XS.iconst X2.here hx rfl (hb hby at_92) k) ?_
          show Go _ _ _ _ _ _ _ T2 (mkF m 93 #[.val (.int i0), .val (.int i1), .val (.long ((i0.toInt64) - (48 : Int64))), .second, .val (.int (bi (q10 = true))), .val (.int (bi (q34 = true))), .val (.int ((47 : Int32) + ((i1 &&& (2147483647 : Int32)) % (12 : Int32)))), .val (.int (((47 : Int32) + ((i1 &&& (2147483647 : Int32)) % (12 : Int32))).toUInt32.toUInt16.toUInt32.toInt32)), .val (.int (bi (q65 = true))), .unset] [(.int (1 : Int32))])
          refine Go.step (fun t k => XS.goto X2.here hx rfl (pc0 := 93) (pc' := 97) rfl (hb hby at_93) (by decide) (by decide) k) ?_
          show Go _ _ _ _ _ _ _ T2 (mkF m 97 #[.val (.int i0), .val (.int i1), .val (.long ((i0.toInt64) - (48 : Int64))), .second, .val (.int (bi (q10 = true))), .val (.int (bi (q34 = true))), .val (.int ((47 : Int32) + ((i1 &&& (2147483647 : Int32)) % (12 : Int32)))), .val (.int (((47 : Int32) + ((i1 &&& (2147483647 : Int32)) % (12 : Int32))).toUInt32.toUInt16.toUInt32.toInt32)), .val (.int (bi (q65 = true))), .unset] [(.int (1 : Int32))])
          rw [show (bi (q89 = true)) = (1 : Int32) from bi_t (hq89.mpr (by simp only [eq_true c89_3, not_true_eq_false, not_false_eq_true, and_true, true_and, and_false, false_and, or_true, true_or, or_false, false_or, and_self, or_self]))] at j89
          exact j89
        · refine Go.step (fun t k => XS.icmpYes X2.here hx rfl (pc0 := 89) (pc' := 96) rfl (hb hby at_89) rfl (feq c89_3).2 (by decide) (by decide) k) ?_
          show Go _ _ _ _ _ _ _ T2 (mkF m 96 #[.val (.int i0), .val (.int i1), .val (.long ((i0.toInt64) - (48 : Int64))), .second, .val (.int (bi (q10 = true))), .val (.int (bi (q34 = true))), .val (.int ((47 : Int32) + ((i1 &&& (2147483647 : Int32)) % (12 : Int32)))), .val (.int (((47 : Int32) + ((i1 &&& (2147483647 : Int32)) % (12 : Int32))).toUInt32.toUInt16.toUInt32.toInt32)), .val (.int (bi (q65 = true))), .unset] [])
          refine Go.step (fun t k => XS.iconst X2.here hx rfl (hb hby at_96) k) ?_
          show Go _ _ _ _ _ _ _ T2 (mkF m 97 #[.val (.int i0), .val (.int i1), .val (.long ((i0.toInt64) - (48 : Int64))), .second, .val (.int (bi (q10 = true))), .val (.int (bi (q34 = true))), .val (.int ((47 : Int32) + ((i1 &&& (2147483647 : Int32)) % (12 : Int32)))), .val (.int (((47 : Int32) + ((i1 &&& (2147483647 : Int32)) % (12 : Int32))).toUInt32.toUInt16.toUInt32.toInt32)), .val (.int (bi (q65 = true))), .unset] [(.int (0 : Int32))])
          rw [show (bi (q89 = true)) = (0 : Int32) from bi_f (mt hq89.mp (by simp only [eq_false c89_3, not_true_eq_false, not_false_eq_true, and_true, true_and, and_false, false_and, or_true, true_or, or_false, false_or, and_self, or_self]))] at j89
          exact j89
      by_cases c65_4 : (((47 : Int32) + ((i1 &&& (2147483647 : Int32)) % (12 : Int32))).toUInt32.toUInt16.toUInt32.toInt32) = (47 : Int32)
      · refine Go.step (fun t k => XS.icmpYes X1.here hx rfl (pc0 := 65) (pc' := 79) rfl (hb hby at_65) rfl (teq c65_4).1 (by decide) (by decide) k) ?_
        show Go _ _ _ _ _ _ _ T1 (mkF m 79 #[.val (.int i0), .val (.int i1), .val (.long ((i0.toInt64) - (48 : Int64))), .second, .val (.int (bi (q10 = true))), .val (.int (bi (q34 = true))), .val (.int ((47 : Int32) + ((i1 &&& (2147483647 : Int32)) % (12 : Int32)))), .val (.int (((47 : Int32) + ((i1 &&& (2147483647 : Int32)) % (12 : Int32))).toUInt32.toUInt16.toUInt32.toInt32)), .unset, .unset] [])
        refine Go.step (fun t k => XS.iconst X1.here hx rfl (hb hby at_79) k) ?_
        show Go _ _ _ _ _ _ _ T1 (mkF m 80 #[.val (.int i0), .val (.int i1), .val (.long ((i0.toInt64) - (48 : Int64))), .second, .val (.int (bi (q10 = true))), .val (.int (bi (q34 = true))), .val (.int ((47 : Int32) + ((i1 &&& (2147483647 : Int32)) % (12 : Int32)))), .val (.int (((47 : Int32) + ((i1 &&& (2147483647 : Int32)) % (12 : Int32))).toUInt32.toUInt16.toUInt32.toInt32)), .unset, .unset] [(.int (0 : Int32))])
        rw [show (bi (q65 = true)) = (0 : Int32) from bi_f (mt hq65.mp (by simp only [eq_true c65_4, not_true_eq_false, not_false_eq_true, and_true, true_and, and_false, false_and, or_true, true_or, or_false, false_or, and_self, or_self]))] at j65
        exact j65
      · refine Go.step (fun t k => XS.icmpNo X1.here hx rfl (hb hby at_65) rfl (feq c65_4).1 k) ?_
        show Go _ _ _ _ _ _ _ T1 (mkF m 68 #[.val (.int i0), .val (.int i1), .val (.long ((i0.toInt64) - (48 : Int64))), .second, .val (.int (bi (q10 = true))), .val (.int (bi (q34 = true))), .val (.int ((47 : Int32) + ((i1 &&& (2147483647 : Int32)) % (12 : Int32)))), .val (.int (((47 : Int32) + ((i1 &&& (2147483647 : Int32)) % (12 : Int32))).toUInt32.toUInt16.toUInt32.toInt32)), .unset, .unset] [])
        refine Go.step (fun t k => XS.iload X1.here hx rfl (hb hby at_68) rfl k) ?_
        show Go _ _ _ _ _ _ _ T1 (mkF m 70 #[.val (.int i0), .val (.int i1), .val (.long ((i0.toInt64) - (48 : Int64))), .second, .val (.int (bi (q10 = true))), .val (.int (bi (q34 = true))), .val (.int ((47 : Int32) + ((i1 &&& (2147483647 : Int32)) % (12 : Int32)))), .val (.int (((47 : Int32) + ((i1 &&& (2147483647 : Int32)) % (12 : Int32))).toUInt32.toUInt16.toUInt32.toInt32)), .unset, .unset] [(.int (((47 : Int32) + ((i1 &&& (2147483647 : Int32)) % (12 : Int32))).toUInt32.toUInt16.toUInt32.toInt32))])
        refine Go.step (fun t k => XS.bipush X1.here hx rfl (hb hby at_70) k) ?_
        show Go _ _ _ _ _ _ _ T1 (mkF m 72 #[.val (.int i0), .val (.int i1), .val (.long ((i0.toInt64) - (48 : Int64))), .second, .val (.int (bi (q10 = true))), .val (.int (bi (q34 = true))), .val (.int ((47 : Int32) + ((i1 &&& (2147483647 : Int32)) % (12 : Int32)))), .val (.int (((47 : Int32) + ((i1 &&& (2147483647 : Int32)) % (12 : Int32))).toUInt32.toUInt16.toUInt32.toInt32)), .unset, .unset] [(.int (58 : Int32)), (.int (((47 : Int32) + ((i1 &&& (2147483647 : Int32)) % (12 : Int32))).toUInt32.toUInt16.toUInt32.toInt32))])
        by_cases c72_5 : (((47 : Int32) + ((i1 &&& (2147483647 : Int32)) % (12 : Int32))).toUInt32.toUInt16.toUInt32.toInt32) = (58 : Int32)
        · refine Go.step (fun t k => XS.icmpYes X1.here hx rfl (pc0 := 72) (pc' := 79) rfl (hb hby at_72) rfl (teq c72_5).1 (by decide) (by decide) k) ?_
          show Go _ _ _ _ _ _ _ T1 (mkF m 79 #[.val (.int i0), .val (.int i1), .val (.long ((i0.toInt64) - (48 : Int64))), .second, .val (.int (bi (q10 = true))), .val (.int (bi (q34 = true))), .val (.int ((47 : Int32) + ((i1 &&& (2147483647 : Int32)) % (12 : Int32)))), .val (.int (((47 : Int32) + ((i1 &&& (2147483647 : Int32)) % (12 : Int32))).toUInt32.toUInt16.toUInt32.toInt32)), .unset, .unset] [])
          refine Go.step (fun t k => XS.iconst X1.here hx rfl (hb hby at_79) k) ?_
          show Go _ _ _ _ _ _ _ T1 (mkF m 80 #[.val (.int i0), .val (.int i1), .val (.long ((i0.toInt64) - (48 : Int64))), .second, .val (.int (bi (q10 = true))), .val (.int (bi (q34 = true))), .val (.int ((47 : Int32) + ((i1 &&& (2147483647 : Int32)) % (12 : Int32)))), .val (.int (((47 : Int32) + ((i1 &&& (2147483647 : Int32)) % (12 : Int32))).toUInt32.toUInt16.toUInt32.toInt32)), .unset, .unset] [(.int (0 : Int32))])
          rw [show (bi (q65 = true)) = (0 : Int32) from bi_f (mt hq65.mp (by simp only [eq_false c65_4, eq_true c72_5, not_true_eq_false, not_false_eq_true, and_true, true_and, and_false, false_and, or_true, true_or, or_false, false_or, and_self, or_self]))] at j65
          exact j65
        · refine Go.step (fun t k => XS.icmpNo X1.here hx rfl (hb hby at_72) rfl (feq c72_5).1 k) ?_
          show Go _ _ _ _ _ _ _ T1 (mkF m 75 #[.val (.int i0), .val (.int i1), .val (.long ((i0.toInt64) - (48 : Int64))), .second, .val (.int (bi (q10 = true))), .val (.int (bi (q34 = true))), .val (.int ((47 : Int32) + ((i1 &&& (2147483647 : Int32)) % (12 : Int32)))), .val (.int (((47 : Int32) + ((i1 &&& (2147483647 : Int32)) % (12 : Int32))).toUInt32.toUInt16.toUInt32.toInt32)), .unset, .unset] [])
          refine Go.step (fun t k => XS.iconst X1.here hx rfl (hb hby at_75) k) ?_
          show Go _ _ _ _ _ _ _ T1 (mkF m 76 #[.val (.int i0), .val (.int i1), .val (.long ((i0.toInt64) - (48 : Int64))), .second, .val (.int (bi (q10 = true))), .val (.int (bi (q34 = true))), .val (.int ((47 : Int32) + ((i1 &&& (2147483647 : Int32)) % (12 : Int32)))), .val (.int (((47 : Int32) + ((i1 &&& (2147483647 : Int32)) % (12 : Int32))).toUInt32.toUInt16.toUInt32.toInt32)), .unset, .unset] [(.int (1 : Int32))])
          refine Go.step (fun t k => XS.goto X1.here hx rfl (pc0 := 76) (pc' := 80) rfl (hb hby at_76) (by decide) (by decide) k) ?_
          show Go _ _ _ _ _ _ _ T1 (mkF m 80 #[.val (.int i0), .val (.int i1), .val (.long ((i0.toInt64) - (48 : Int64))), .second, .val (.int (bi (q10 = true))), .val (.int (bi (q34 = true))), .val (.int ((47 : Int32) + ((i1 &&& (2147483647 : Int32)) % (12 : Int32)))), .val (.int (((47 : Int32) + ((i1 &&& (2147483647 : Int32)) % (12 : Int32))).toUInt32.toUInt16.toUInt32.toInt32)), .unset, .unset] [(.int (1 : Int32))])
          rw [show (bi (q65 = true)) = (1 : Int32) from bi_t (hq65.mpr (by simp only [eq_false c65_4, eq_false c72_5, not_true_eq_false, not_false_eq_true, and_true, true_and, and_false, false_and, or_true, true_or, or_false, false_or, and_self, or_self]))] at j65
          exact j65
    by_cases c34_6 : (bi (PD i0)) = (bi (q10 = true))
    · refine Go.step (fun t k => XS.icmpNo X1.here hx rfl (hb hby at_34) rfl (teq c34_6).2 k) ?_
      show Go _ _ _ _ _ _ _ T1 (mkF m 37 #[.val (.int i0), .val (.int i1), .val (.long ((i0.toInt64) - (48 : Int64))), .second, .val (.int (bi (q10 = true))), .unset, .unset, .unset, .unset, .unset] [])
      refine Go.step (fun t k => XS.iconst X1.here hx rfl (hb hby at_37) k) ?_
      show Go _ _ _ _ _ _ _ T1 (mkF m 38 #[.val (.int i0), .val (.int i1), .val (.long ((i0.toInt64) - (48 : Int64))), .second, .val (.int (bi (q10 = true))), .unset, .unset, .unset, .unset, .unset] [(.int (1 : Int32))])
      refine Go.step (fun t k => XS.goto X1.here hx rfl (pc0 := 38) (pc' := 42) rfl (hb hby at_38) (by decide) (by decide) k) ?_
      show Go _ _ _ _ _ _ _ T1 (mkF m 42 #[.val (.int i0), .val (.int i1), .val (.long ((i0.toInt64) - (48 : Int64))), .second, .val (.int (bi (q10 = true))), .unset, .unset, .unset, .unset, .unset] [(.int (1 : Int32))])
      rw [show (bi (q34 = true)) = (1 : Int32) from bi_t (hq34.mpr (by simp only [eq_true c34_6, not_true_eq_false, not_false_eq_true, and_true, true_and, and_false, false_and, or_true, true_or, or_false, false_or, and_self, or_self]))] at j34
      exact j34
    · refine Go.step (fun t k => XS.icmpYes X1.here hx rfl (pc0 := 34) (pc' := 41) rfl (hb hby at_34) rfl (feq c34_6).2 (by decide) (by decide) k) ?_
      show Go _ _ _ _ _ _ _ T1 (mkF m 41 #[.val (.int i0), .val (.int i1), .val (.long ((i0.toInt64) - (48 : Int64))), .second, .val (.int (bi (q10 = true))), .unset, .unset, .unset, .unset, .unset] [])
      refine Go.step (fun t k => XS.iconst X1.here hx rfl (hb hby at_41) k) ?_
      show Go _ _ _ _ _ _ _ T1 (mkF m 42 #[.val (.int i0), .val (.int i1), .val (.long ((i0.toInt64) - (48 : Int64))), .second, .val (.int (bi (q10 = true))), .unset, .unset, .unset, .unset, .unset] [(.int (0 : Int32))])
      rw [show (bi (q34 = true)) = (0 : Int32) from bi_f (mt hq34.mp (by simp only [eq_false c34_6, not_true_eq_false, not_false_eq_true, and_true, true_and, and_false, false_and, or_true, true_or, or_false, false_or, and_self, or_self]))] at j34
      exact j34
  by_cases c10_7 : ((i0.toInt64) - (48 : Int64)) < (0 : Int64)
  · refine Go.step (fun t k => XS.ifYes X0.here hx rfl (pc0 := 10) (pc' := 25) rfl (hb hby at_10) rfl ((if0 _ _).trans (tlt ((lw_lt _ _).mpr c10_7)).1) (by decide) (by decide) k) ?_
    show Go _ _ _ _ _ _ _ T0 (mkF m 25 #[.val (.int i0), .val (.int i1), .val (.long ((i0.toInt64) - (48 : Int64))), .second, .unset, .unset, .unset, .unset, .unset, .unset] [])
    refine Go.step (fun t k => XS.iconst X0.here hx rfl (hb hby at_25) k) ?_
    show Go _ _ _ _ _ _ _ T0 (mkF m 26 #[.val (.int i0), .val (.int i1), .val (.long ((i0.toInt64) - (48 : Int64))), .second, .unset, .unset, .unset, .unset, .unset, .unset] [(.int (0 : Int32))])
    rw [show (bi (q10 = true)) = (0 : Int32) from bi_f (mt hq10.mp (by simp only [eq_true c10_7, not_true_eq_false, not_false_eq_true, and_true, true_and, and_false, false_and, or_true, true_or, or_false, false_or, and_self, or_self]))] at j10
    exact j10
  · refine Go.step (fun t k => XS.ifNo X0.here hx rfl (hb hby at_10) rfl ((if0 _ _).trans (flt (fun q => c10_7 ((lw_lt _ _).mp q))).1) k) ?_
    show Go _ _ _ _ _ _ _ T0 (mkF m 13 #[.val (.int i0), .val (.int i1), .val (.long ((i0.toInt64) - (48 : Int64))), .second, .unset, .unset, .unset, .unset, .unset, .unset] [])
    refine Go.step (fun t k => XS.lloadN X0.here hx rfl (hb hby at_13) rfl k) ?_
    show Go _ _ _ _ _ _ _ T0 (mkF m 14 #[.val (.int i0), .val (.int i1), .val (.long ((i0.toInt64) - (48 : Int64))), .second, .unset, .unset, .unset, .unset, .unset, .unset] [(.long ((i0.toInt64) - (48 : Int64)))])
    refine Go.step (X0.ldc2Long hx hown (mvT hZ (hw _ (List.mem_of_getElem? (i := 6) rfl))) (g := (mkF m 14 #[.val (.int i0), .val (.int i1), .val (.long ((i0.toInt64) - (48 : Int64))), .second, .unset, .unset, .unset, .unset, .unset, .unset] [(.long ((i0.toInt64) - (48 : Int64)))])) rfl (hb hby at_14)) ?_
    show Go _ _ _ _ _ _ _ T0 (mkF m 17 #[.val (.int i0), .val (.int i1), .val (.long ((i0.toInt64) - (48 : Int64))), .second, .unset, .unset, .unset, .unset, .unset, .unset] [(.long (9 : Int64)), (.long ((i0.toInt64) - (48 : Int64)))])
    refine Go.step (fun t k => XS.lcmp X0.here hx rfl (hb hby at_17) rfl k) ?_
    show Go _ _ _ _ _ _ _ T0 (mkF m 18 #[.val (.int i0), .val (.int i1), .val (.long ((i0.toInt64) - (48 : Int64))), .second, .unset, .unset, .unset, .unset, .unset, .unset] [(.int (lcmpW ((i0.toInt64) - (48 : Int64)) (9 : Int64)))])
    by_cases c18_8 : (9 : Int64) < ((i0.toInt64) - (48 : Int64))
    · refine Go.step (fun t k => XS.ifYes X0.here hx rfl (pc0 := 18) (pc' := 25) rfl (hb hby at_18) rfl ((if0 _ _).trans (tlt ((lw_gt _ _).mpr c18_8)).2.2.1) (by decide) (by decide) k) ?_
      show Go _ _ _ _ _ _ _ T0 (mkF m 25 #[.val (.int i0), .val (.int i1), .val (.long ((i0.toInt64) - (48 : Int64))), .second, .unset, .unset, .unset, .unset, .unset, .unset] [])
      refine Go.step (fun t k => XS.iconst X0.here hx rfl (hb hby at_25) k) ?_
      show Go _ _ _ _ _ _ _ T0 (mkF m 26 #[.val (.int i0), .val (.int i1), .val (.long ((i0.toInt64) - (48 : Int64))), .second, .unset, .unset, .unset, .unset, .unset, .unset] [(.int (0 : Int32))])
      rw [show (bi (q10 = true)) = (0 : Int32) from bi_f (mt hq10.mp (by simp only [eq_false c10_7, eq_true c18_8, not_true_eq_false, not_false_eq_true, and_true, true_and, and_false, false_and, or_true, true_or, or_false, false_or, and_self, or_self]))] at j10
      exact j10
    · refine Go.step (fun t k => XS.ifNo X0.here hx rfl (hb hby at_18) rfl ((if0 _ _).trans (flt (fun q => c18_8 ((lw_gt _ _).mp q))).2.2.1) k) ?_
      show Go _ _ _ _ _ _ _ T0 (mkF m 21 #[.val (.int i0), .val (.int i1), .val (.long ((i0.toInt64) - (48 : Int64))), .second, .unset, .unset, .unset, .unset, .unset, .unset] [])
      refine Go.step (fun t k => XS.iconst X0.here hx rfl (hb hby at_21) k) ?_
      show Go _ _ _ _ _ _ _ T0 (mkF m 22 #[.val (.int i0), .val (.int i1), .val (.long ((i0.toInt64) - (48 : Int64))), .second, .unset, .unset, .unset, .unset, .unset, .unset] [(.int (1 : Int32))])
      refine Go.step (fun t k => XS.goto X0.here hx rfl (pc0 := 22) (pc' := 26) rfl (hb hby at_22) (by decide) (by decide) k) ?_
      show Go _ _ _ _ _ _ _ T0 (mkF m 26 #[.val (.int i0), .val (.int i1), .val (.long ((i0.toInt64) - (48 : Int64))), .second, .unset, .unset, .unset, .unset, .unset, .unset] [(.int (1 : Int32))])
      rw [show (bi (q10 = true)) = (1 : Int32) from bi_t (hq10.mpr (by simp only [eq_false c10_7, eq_false c18_8, not_true_eq_false, not_false_eq_true, and_true, true_and, and_false, false_and, or_true, true_or, or_false, false_or, and_self, or_self]))] at j10
      exact j10
set_option maxRecDepth 65536 in
set_option maxHeartbeats 40000000 in
theorem comes_1 {Post : Tables → Env → Array Value → State → Outcome → State → Prop} (hpost : ∀ tb e args s v u, (limb_1_1.after args s (.returned v) u = true ∧ limb_1_2.after args s (.returned v) u = true ∧ True) → FrameEnd s (.returned v) u (Jvm.fieldLocs frame_1_writes args s ++ Jvm.arrayLocs frame_1_arrays args s ++ Jvm.staticLocs frame_1_statics s) 0 0 → Post tb e args s (.returned v) u) :
    ArmFor flags0 classFile x code maxLocals ret World_1 tables_1 room_1 Calls_1 rest_1 Pre_1 Post := by
  intro l hfl _ _ p e ha hc hk s m args below hf hA hF happ hP
  obtain ⟨hcalls, hrest, hpre⟩ := hP
  obtain ⟨-, -, -, hnamed, -, -, -, hat⟩ := (Spec.applies_iff hf).mp happ
  obtain ⟨hg, hn⟩ := and_e (Cond.before_iff.mp (show (Jvm.Cond.and given_1 narrow_1).before args s = true from hpre))
  obtain ⟨hcnt, hg1⟩ := and_e hg
  obtain ⟨ha0, hg2⟩ := and_e hg1
  obtain ⟨w0, w1, rfl⟩ : ∃ w0 w1 : Value, args = #[w0, w1] := by
    have hs : args.size = 2 := by simpa [Cond.value, given_1] using hcnt
    obtain ⟨L⟩ := args
    match L, hs with
    | [w0, w1], _ => exact ⟨w0, w1, rfl⟩
  have hw := fun d (hd : d ∈ tables_1) => atoms_spec (ws := Jvm.Cond.code x code maxLocals ret :: tables_1) hat d (List.mem_cons_of_mem _ hd)
  have hfit : Fit s := fun {y c} hc i hi => by
    obtain ⟨ha, rfl⟩ := Array.getElem?_eq_some_iff.mp hc
    have q := List.all_eq_true.mp ((Array.all_eq_true_iff_forall_mem.mp hF) _ (Array.getElem_mem ha)) i (List.mem_range.mpr hi)
    simpa [Array.getElem?_eq_getElem hi] using q
  obtain ⟨i0, ei0⟩ := is_v ha0
  obtain rfl : w0 = (.int i0) := Option.some.inj ei0
  obtain ⟨i1, ei1⟩ := is_v hg2
  obtain rfl : w1 = (.int i1) := Option.some.inj ei1
  obtain ⟨n, o, h1, h2, h3, _, L, rfl, ⟨rfl, N⟩, hq⟩ := rm0 l s _ hw tables_1 i0 i1 s.heap s.heap.size (Nat.le_refl _)  p e ha hc hk s m _ below hf ((Spec.applies_iff_loose hf).mp happ).1 ⟨rfl, State.Warmed39.refl s, rfl⟩ trivial
  refine ⟨n, _, h1, h2, h3, hpost _ _ _ _ _ _ ⟨Cond.after_iff.mpr rfl, Cond.after_iff.mpr (eq_i res_at (Term.int_eval (1)) rfl), trivial⟩ ⟨hq.1, hq.2.1, (hq.2.2.sift fun y hy => Or.inr (N y hy)).mono (by decide) (by decide)⟩⟩
theorem main_1_1 : Claimed_1_1 := comes_1 fun _ _ _ _ _ _ h hF => ⟨h.1, hF⟩
theorem main_1_2 : Claimed_1_2 := comes_1 fun _ _ _ _ _ _ h hF => ⟨h.2.1, hF⟩
end Jvm.Pilot.@@N@@
namespace Jvm.Pilot.@@N@@
open Jvm Jvm.ClassFile Sem Op Lib Jvm.Free Jvm.Stand Jvm.Pilot.@@N@@.Jvm.D
/-! MADE BY PROGRAM (witnessworld.py) out of the Statement's table words and the real class files: 9 classes; the members and pool entries that the words name. The judged class is class 1, her method 1. -/
namespace start1
open Jvm.ClassFile
def u (s : String) : CpInfo := .utf8 (stringToUtf16 s)
/-- a pool by its gaps: so many unusable entries, then the entry; so many at the end -/
def gap : Nat → List CpInfo → List CpInfo
  | 0, r => r
  | n + 1, r => .unusable :: gap n r
def poolList (es : List (Nat × CpInfo)) (last : Nat) : List CpInfo := es.foldr (fun e r => gap e.1 (e.2 :: r)) (gap last [])
def pool (es : List (Nat × CpInfo)) (last : Nat) : Array CpInfo := ⟨poolList es last⟩
def fileOf (pool : Array CpInfo) (this : Nat) (attrs : Array Attribute := #[]) (ms : Array MethodInfo := #[]) (fl : Nat := 33) (sup : Nat := 0) (ifs : Array Nat := #[]) (fds : Array FieldInfo := #[]) : ClassFile where
  minorVersion := 0
  majorVersion := 65
  constantPool := pool
  accessFlags := fl
  thisClass := this
  superClass := sup
  interfaces := ifs
  fields := fds
  methods := ms
  attributes := attrs
def plain (name : String) (sup : Option ClassId) : Class where
  name := name
  kind := .ordinary
  loader := none
  accessFlags := 33
  super := sup
  interfaces := #[]
  cf := none
  fields := #[]
  methods := #[]
  instanceTypes := #[]
  staticTypes := #[]
  resolved := #[]
  callSites := []
  init := .initialized
  statics := none
  mirror := none

def pool0 : Array CpInfo := pool [(5, u "<init>"), (0, u "()V"), (1, .class_ 10), (1, u "java/lang/Object")] 113

def k0m0 : Method := { name := "<init>", desc := "()V", sig := { parameters := [], returnType := none }, accessFlags := 1, code := none }
/-- java/lang/Object -/
def k0 : Class := { plain "java/lang/Object" none with
  accessFlags := 33
  interfaces := #[]
  cf := some (fileOf pool0 8 #[] #[{ accessFlags := 1, nameIndex := 5, descriptorIndex := 6, attributes := #[] }] 33 0 #[] #[])
  fields := #[]
  methods := #[k0m0]
  instanceTypes := #[]
  staticTypes := #[]
  resolved := Array.replicate 124 none
  statics := none }

def pool1 : Array CpInfo := pool [(2, .class_ 4), (1, u "java/lang/Object"), (0, u "<init>"), (0, u "()V"), (0, .long 48), (1, .long 9), (1, .methodref 12 13), (0, .class_ 14), (0, .nameAndType 15 16), (0, u "com/example/stowage/stowage/model/UriText"), (0, u "isDigit"), (0, u "(I)Z"), (0, .integer 2147483647), (0, .class_ 19), (0, u "com/example/stowage/stowage/model/UriTextIsDigitPinLaw"), (2, u "law"), (0, u "(II)Z")] 3

def k1m0 : Method := { name := "<init>", desc := "()V", sig := { parameters := [], returnType := none }, accessFlags := 2, code := none }
def k1c1 : Code := { maxStack := 4, maxLocals := 10, code := code, exceptionTable := #[], attributes := #[] }
def k1m1 : Method := { name := "law", desc := "(II)Z", sig := { parameters := [.int, .int], returnType := some .boolean }, accessFlags := 9, code := some k1c1 }
/-- com/example/stowage/stowage/model/UriTextIsDigitPinLaw -/
def k1 : Class := { plain "com/example/stowage/stowage/model/UriTextIsDigitPinLaw" (some 0) with
  accessFlags := 49
  interfaces := #[]
  cf := some (fileOf pool1 18 #[] #[{ accessFlags := 2, nameIndex := 5, descriptorIndex := 6, attributes := #[] }, { accessFlags := 9, nameIndex := 22, descriptorIndex := 23, attributes := #[] }] 49 2 #[] #[])
  fields := #[]
  methods := #[k1m0, k1m1]
  instanceTypes := #[]
  staticTypes := #[]
  resolved := Array.replicate 27 none
  statics := none }

def pool2 : Array CpInfo := pool [(2, .class_ 4), (1, u "java/lang/Object"), (0, u "<init>"), (0, u "()V"), (1, .class_ 10), (1, u "com/example/stowage/stowage/model/UriText"), (1, u "(I)Z"), (2, u "isDigit"), (117, u "PERCENT"), (0, u "C"), (2, u "HEX_DIGITS"), (0, u "I"), (1, u "UNRESERVED_MARKS"), (0, u "Ljava/lang/String;"), (0, u "SEGMENT_MARKS")] 44

def k2m0 : Method := { name := "<init>", desc := "()V", sig := { parameters := [], returnType := none }, accessFlags := 2, code := none }
def k2c1 : Code := { maxStack := 2, maxLocals := 1, code := prog_50_method_3_code, exceptionTable := #[], attributes := #[] }
def k2m1 : Method := { name := "isDigit", desc := "(I)Z", sig := { parameters := [.int], returnType := some .boolean }, accessFlags := 8, code := some k2c1 }
/-- com/example/stowage/stowage/model/UriText -/
def k2 : Class := { plain "com/example/stowage/stowage/model/UriText" (some 0) with
  accessFlags := 48
  interfaces := #[]
  cf := some (fileOf pool2 8 #[] #[{ accessFlags := 2, nameIndex := 5, descriptorIndex := 6, attributes := #[] }, { accessFlags := 8, nameIndex := 15, descriptorIndex := 12, attributes := #[] }] 48 2 #[] #[{ accessFlags := 26, nameIndex := 133, descriptorIndex := 134, attributes := #[] }, { accessFlags := 26, nameIndex := 137, descriptorIndex := 138, attributes := #[] }, { accessFlags := 26, nameIndex := 140, descriptorIndex := 141, attributes := #[] }, { accessFlags := 26, nameIndex := 142, descriptorIndex := 141, attributes := #[] }])
  fields := #[{ name := "PERCENT", type := .char, accessFlags := 26, slot := 0, constantValue := 0 }, { name := "HEX_DIGITS", type := .int, accessFlags := 26, slot := 1, constantValue := 0 }, { name := "UNRESERVED_MARKS", type := (.object "java/lang/String"), accessFlags := 26, slot := 2, constantValue := 0 }, { name := "SEGMENT_MARKS", type := (.object "java/lang/String"), accessFlags := 26, slot := 3, constantValue := 0 }]
  methods := #[k2m0, k2m1]
  instanceTypes := #[]
  staticTypes := #[.char, .int, (.object "java/lang/String"), (.object "java/lang/String")]
  resolved := Array.replicate 187 none
  statics := none }

def pool3 : Array CpInfo := pool [(1, u "java/lang/Cloneable"), (0, .class_ 1), (0, u "java/lang/Object"), (0, .class_ 3)] 3

/-- java/lang/Cloneable -/
def k3 : Class := { plain "java/lang/Cloneable" (some 0) with
  accessFlags := 1537
  interfaces := #[]
  cf := some (fileOf pool3 2 #[] #[] 1537 4 #[] #[])
  fields := #[]
  methods := #[]
  instanceTypes := #[]
  staticTypes := #[]
  resolved := Array.replicate 8 none
  statics := none }

def pool4 : Array CpInfo := pool [(1, u "java/io/Serializable"), (0, .class_ 1), (0, u "java/lang/Object"), (0, .class_ 3)] 3

/-- java/io/Serializable -/
def k4 : Class := { plain "java/io/Serializable" (some 0) with
  accessFlags := 1537
  interfaces := #[]
  cf := some (fileOf pool4 2 #[] #[] 1537 4 #[] #[])
  fields := #[]
  methods := #[]
  instanceTypes := #[]
  staticTypes := #[]
  resolved := Array.replicate 8 none
  statics := none }

/-- the primitive byte -/
def k5 : Class := { plain "byte" none with kind := .primitive 'B', accessFlags := 0x411 }
/-- [B -/
def k6 : Class := { plain "[B" (some 0) with kind := .array 5 .byte, interfaces := #[3, 4], accessFlags := 1041 }

/-- the primitive int -/
def k7 : Class := { plain "int" none with kind := .primitive 'I', accessFlags := 0x411 }
/-- [I -/
def k8 : Class := { plain "[I" (some 0) with kind := .array 7 .int, interfaces := #[3, 4], accessFlags := 1041 }

def heap : Heap := #[]
def classes : Array Class := #[k0, k1, k2, k3, k4, k5, k6, k7, k8]
def interned : List (Array UInt16 × Addr) := []
def slotsUsed : Nat := 0
def theMethod : MethodId := ⟨1, 1⟩
def args0 : Array Value := #[.int 5, .int 5]
def aboutOver (below : List Frame) : State where
  vm := { classes := classes, interned := interned.toArray }
  heap := heap
  slotsUsed := slotsUsed
  threads := #[{ frames := .invoking theMethod args0 :: below }]
def below0 : List Frame := [.native { method := ⟨0, 0⟩, args := #[] }]
def about1 : State := aboutOver below0
def p0 : Program := .bare "" "" ""
def e0 : Env := launch0.env 0 0 0
theorem w_frames : about1.frames = Frame.invoking theMethod args0 :: below0 := rfl
set_option maxRecDepth 65536 in
theorem w_args : argsFit about1.vm theMethod args0 = true := by decide +kernel
set_option maxRecDepth 65536 in
theorem w_heap : heapFits about1 = true := by decide +kernel
set_option maxRecDepth 65536 in
theorem w_runnable : about1.curStatus? = some .runnable := by decide +kernel
set_option maxRecDepth 65536 in
theorem w_alone : about1.alone = true := by decide +kernel
set_option maxRecDepth 65536 in
theorem w_named : about1.methodNamed? x = some theMethod := by decide +kernel
set_option maxRecDepth 65536 in
theorem w_hears : about1.hears theMethod below0 = true := by decide +kernel
set_option maxRecDepth 65536 in
theorem w_ripe : about1.ripe theMethod args0 below0 = true := by decide +kernel
theorem w_running : about1.status = .running := rfl
set_option maxRecDepth 65536 in
theorem w_room : about1.hasRoom e0.platform room_1 = true :=
  launch0.hasRoom_least _ room_1 (by decide +kernel) (by decide +kernel) (by decide +kernel) (by decide +kernel) (by decide +kernel) (by decide +kernel)
theorem allAtoms_all (ts : List Jvm.Cond) (a : Array Jvm.Value) (st : Jvm.State) : (allAtoms ts).before a st = ts.all (fun c => c.before a st) := by
  induction ts with
  | nil => rfl
  | cons c t ih =>
    show (Jvm.Cond.and c (allAtoms t)).before a st = _
    rw [Jvm.Cond.before_and, ih, List.all_cons]
def words1 : List Jvm.Cond := Jvm.Cond.code x code maxLocals ret :: tables_1
/-- a 'code' word, met by the world's own term for the bytes: nothing is compared byte by byte -/
theorem code_word {y : MethodName} {bytes : ByteArray} {mx : Nat} {rt : Option FieldType} {a : Array Value} {s : State} {m : MethodId} {meth : Method} {c : Code} (h1 : s.methodNamed? y = some m) (h2 : s.vm.method? m = some meth) (h3 : meth.code = some c) (h4 : c.code = bytes)
    (h5 : (c.maxLocals == mx && c.exceptionTable.isEmpty && decide (c.maxStack ≤ mostOperands) && decide (meth.sig.returnType = rt) && !meth.locks && decide (parseMethodDescriptor y.desc = some meth.sig)) = true) : (Jvm.Cond.code y bytes mx rt).before a s = true := by
  simp only [Bool.and_eq_true, beq_iff_eq, Bool.not_eq_true', decide_eq_true_eq] at h5
  obtain ⟨⟨⟨⟨⟨g1, g2⟩, g3⟩, g4⟩, g5⟩, g6⟩ := h5
  simp [Cond.before, Cond.holds, Cond.value, h1, h2, h3, h4, g1, g2, g3, g4, g5, g6]
def isCode : Jvm.Cond → Bool
  | .code _ _ _ _ => true
  | _ => false
theorem all_split {L : List Jvm.Cond} {P : Jvm.Cond → Bool} (h1 : L.all (fun c => isCode c || P c) = true) (h2 : ∀ c ∈ L.filter isCode, P c = true) : L.all P = true := by
  refine List.all_eq_true.mpr fun c hc => ?_
  have h := List.all_eq_true.mp h1 c hc
  rcases Bool.eq_false_or_eq_true (isCode c) with hi | hi
  · exact h2 c (List.mem_filter.mpr ⟨hc, hi⟩)
  · simpa [hi] using h
set_option maxRecDepth 65536 in
theorem w_c0 : (Jvm.Cond.code x code maxLocals ret).before args0 about1 = true := code_word (m := ⟨1, 1⟩) (meth := k1m1) (c := k1c1) (by decide +kernel) rfl rfl rfl (by decide +kernel)
set_option maxRecDepth 65536 in
theorem w_c1 : (Jvm.Cond.code ({ cls := "com/example/stowage/stowage/model/UriText", name := "isDigit", desc := "(I)Z" } : Jvm.MethodName) prog_50_method_3_code (1 : Nat) (Option.some Jvm.ClassFile.FieldType.boolean)).before args0 about1 = true := code_word (m := ⟨2, 1⟩) (meth := k2m1) (c := k2c1) (by decide +kernel) rfl rfl rfl (by decide +kernel)
def codes1 : List Jvm.Cond := [Jvm.Cond.code x code maxLocals ret, Jvm.Cond.code ({ cls := "com/example/stowage/stowage/model/UriText", name := "isDigit", desc := "(I)Z" } : Jvm.MethodName) prog_50_method_3_code (1 : Nat) (Option.some Jvm.ClassFile.FieldType.boolean)]
set_option maxRecDepth 65536 in
theorem codes_eq : words1.filter isCode = codes1 := rfl
theorem w_codes : ∀ c ∈ words1.filter isCode, c.before args0 about1 = true := by
  rw [codes_eq]
  intro c hc
  simp only [codes1, List.mem_cons, List.not_mem_nil, or_false] at hc
  rcases hc with rfl | rfl
  · exact w_c0
  · exact w_c1
set_option maxRecDepth 65536 in
theorem w_t1 : words1.all (fun c => isCode c || c.before args0 about1) = true := by decide +kernel
theorem w_tables : (allAtoms (Jvm.Cond.code x code maxLocals ret :: tables_1)).before args0 about1 = true := by
  rw [allAtoms_all]
  show words1.all (fun c => c.before args0 about1) = true
  refine all_split ?_ w_codes
  rw [w_t1]
set_option maxRecDepth 65536 in
theorem w_case : (Jvm.Cond.and given_1 narrow_1).before args0 about1 = true := by decide +kernel
theorem w_applies : (headSpec (Jvm.Cond.code x code maxLocals ret :: tables_1) room_1).applies x e0.platform about1 = true :=
  (Spec.applies_iff w_frames).mpr ⟨w_running, w_runnable, w_alone, w_named, w_hears, w_ripe, w_room, w_tables⟩
theorem atStart : AtStart classFile x code maxLocals ret World_1 tables_1 room_1 Calls_1 rest_1 Pre_1 launch0 p0 e0 about1 theMethod args0 below0 :=
  ⟨lists_1, trivial, launch0.admits_env _ _ _, launch0.least_env, fairChoices_fair.cas, fairChoices_fair.clock, w_frames, w_args, w_heap, w_applies, trivial, trivial, w_case⟩
end start1
theorem witness_1 : WitnessClaimed_1 := ⟨start1.p0, start1.e0, start1.about1, start1.theMethod, start1.args0, start1.below0, start1.atStart⟩
end Jvm.Pilot.@@N@@
