import JvmDerived
import JvmDerived.Pilot.@@N@@Statement
import JvmDerived.Pilot.@@N@@Code
set_option linter.unusedVariables false
set_option linter.unusedSimpArgs false
namespace Jvm.RoadKit
open Sem ClassFile Op Lib Jvm.Stand Jvm.Free Jvm.LawKit
section New
variable {p : Program} {l : Launch} {e : Env} {R : Room} {s : State} {m : MethodId} {args : Array Value} {below : List Frame} {meth : Method} {c : Code} {T : State} {locs : List Loc} {cells slots : Nat}
theorem retI (X : Stand p l e R s m args below meth c T locs cells slots) (hx : p.tables.exec = Jvm.exec) {pc : Nat} {Ls : Array Slot} {z : Int32} {rest : List Value} (hret : meth.sig.returnType = some .int) (hd : decode c.code pc = .ok (.ireturn, 1)) {fs : List Frame}
    (hl : ∀ (f : JFrame) (acts : List Action), f.method = m → f.locked = none → f.entered = [] → (doReturn e (T.setTop f) acts (some (.int z))).1 = T.setFrames fs) : Steps p.tables e below (T.setTop (mkF m pc Ls (.int z :: rest))) (T.setFrames fs) := by
  have hm' : T.vm.method? m = some meth := X.method'
  have hn : narrow .int (.int z) = .int z := rfl
  show Steps p.tables e below (T.setTop { method := m, pc := pc, locals := Ls, stack := _ :: rest, locked := none }) _
  jvm_step X.here [X.here.top, hx, hd, hm', hret, hn]
  first | (intro acts; rw [hl _ acts rfl rfl rfl]) | rw [hl _ _ rfl rfl rfl]
  exact Steps.refl _
end New
end Jvm.RoadKit
namespace Jvm.Pilot.@@N@@
open Jvm Jvm.ClassFile Sem Op Lib Jvm.Free Jvm.Stand Jvm.LawKit Jvm.RoadKit Bundle Jvm.Pilot.@@N@@.Jvm.D
/-- the run from a frame of this method ends in a return with Q -/
def Go (p : Program) (e : Env) (s : State) (below : List Frame) (kc ks : Nat) (Q : Option Value → Heap → List Loc → Prop) (T : State) (f : JFrame) : Prop :=
  ∃ s₂ o, Steps p.tables e below (T.setTop f) s₂ ∧ s₂.status = .running ∧ Ended s₂ below o ∧ ∃ v L, o = .returned v ∧ Q v s₂.heap L ∧ FrameEnd s o s₂ L kc ks
/-- what is known of the method that runs -/
def Cx (p : Program) (s : State) (m : MethodId) (meth : Method) (c : Code) (Z : State) (own nm : String) (code : ByteArray) (maxL : Nat) (ret : Option FieldType) : Prop :=
  p.tables.exec = Jvm.exec ∧ Z.Warmed39 s.vm ∧ c.code = code ∧ c.maxLocals = maxL ∧ s.vm.findClass own = some m.cls ∧ meth.name = nm ∧ meth.sig.returnType = ret ∧ meth.locks = false
/-- a contract -/
def Ctr (l : Launch) (Z : State) (y : MethodName) (bytes : ByteArray) (maxL : Nat) (ret : Option FieldType) (ws : List Jvm.Cond) (rm : Room) (kc ks : Nat) (as : Array Value) (h : Heap) (Q : Option Value → Heap → List Loc → Prop) : Prop :=
  MetFree l y (head1 (Jvm.Cond.code y bytes maxL ret :: ws) rm) (fun a U => a = as ∧ Z.Warmed39 U.vm ∧ U.heap = h) (fun _ _ _ _ _ => True) (fun _ U o U' => ∃ v L, o = .returned v ∧ Q v U'.heap L ∧ FrameEnd U o U' L kc ks)
def bi (P : Prop) [Decidable P] : Int32 := if P then 1 else 0
theorem bi_t {P : Prop} [Decidable P] (h : P) : bi P = 1 := if_pos h
theorem bi_f {P : Prop} [Decidable P] (h : ¬ P) : bi P = 0 := if_neg h
theorem bi_n {P : Prop} [Decidable P] (h : P) : ¬ bi P = 0 := by rw [bi_t h]; decide
theorem bi_1 {P : Prop} [Decidable P] : bi P = 1 ↔ P := by unfold bi; split <;> simp_all
theorem bi_0 {P : Prop} [Decidable P] : bi P = 0 ↔ ¬ P := by unfold bi; split <;> simp_all
theorem bi_eq {P P' : Prop} [Decidable P] [Decidable P'] : bi P = bi P' ↔ (P ↔ P') := by unfold bi; split <;> split <;> simp_all
theorem bi_congr {P P' : Prop} [Decidable P] [Decidable P'] (h : P ↔ P') : bi P = bi P' := bi_eq.mpr h
theorem bi_fits {P : Prop} [Decidable P] : fits .boolean (.int (bi P)) = true := by unfold bi; split <;> rfl
theorem bi_nar {P : Prop} [Decidable P] : nar .boolean (bi P) = bi P := by unfold bi; split <;> rfl
section Own
variable {p : Program} {l : Launch} {e : Env} {R : Room} {s : State} {m : MethodId} {args : Array Value} {below : List Frame} {meth : Method} {c : Code} {T : State} {locs : List Loc} {cells slots kc ks : Nat} {Q : Option Value → Heap → List Loc → Prop} {Z : State} {a0 : Array Value} {h : Heap}
theorem Go.step {T' : State} {f f' : JFrame} (st : ∀ t, Steps p.tables e below (T'.setTop f') t → Steps p.tables e below (T.setTop f) t) (k : Go p e s below kc ks Q T' f') : Go p e s below kc ks Q T f := by
  obtain ⟨s₂, o, h1, r⟩ := k; exact ⟨s₂, o, st _ h1, r⟩
theorem Go.mono {Q' : Option Value → Heap → List Loc → Prop} {f : JFrame} (k : Go p e s below kc ks Q T f) (h : ∀ v h L, Q v h L → Q' v h L) : Go p e s below kc ks Q' T f := by
  obtain ⟨s₂, o, h1, h2, h3, v, L, h4, h5, h6⟩ := k; exact ⟨s₂, o, h1, h2, h3, v, L, h4, h _ _ _ h5, h6⟩
theorem Ctr.mk {y : MethodName} {bytes : ByteArray} {maxL : Nat} {ret : Option FieldType} {ws : List Jvm.Cond} {rm : Room} {as : Array Value} (hp : plainFor y = true)
    (hgo : ∀ (p : Program) (e : Env) (s : State) (m : MethodId) (below : List Frame) (meth : Method) (c : Code) (s₁ : State), Stand p l e rm s m as below meth c s₁ [] 0 0 → Cx p s m meth c Z y.cls y.name bytes maxL ret → s₁.heap = h → Go p e s below kc ks Q s₁ (entryFrame m as maxL)) :
    Ctr l Z y bytes maxL ret ws rm kc ks as h Q := by
  refine MetFree.of_bodySF hp hisR ?_
  intro p e s m args below meth c s₁ Bd hml0 hP hK
  obtain ⟨rfl, hZ, hh⟩ := hP
  exact hgo p e s m below meth c s₁ (Stand.of_body Bd) ⟨Bd.exec, hZ, Bd.bytes, hml0, findClass_of_methodNamed Bd.named, (name_of_methodNamed Bd.named Bd.method).1, Bd.returns, Bd.notSynchronized⟩ (by rw [← hh, Bd.state]; rfl)
theorem go_cast {f f' : JFrame} (q : f = f') (k : Go p e s below kc ks Q T f') : Go p e s below kc ks Q T f := q ▸ k
theorem go_retI (X : Stand p l e R s m args below meth c T locs cells slots) (hx : p.tables.exec = Jvm.exec) (hret : meth.sig.returnType = some .int) (hlk : meth.locks = false) {pc : Nat} {Ls : Array Slot} {z : Int32} {rest : List Value} (hd : decode c.code pc = .ok (.ireturn, 1))
    (hQ : Q (some (.int z)) T.heap locs) (hc : cells ≤ kc) (hs : slots ≤ ks) : Go p e s below kc ks Q T (mkF m pc Ls (.int z :: rest)) := by
  obtain ⟨fs, hr, hrun, hended, hW, hsame⟩ := X.leave (v := some (.int z)) (fun h => by rw [hret] at h; cases h) hlk
  exact ⟨_, _, retI X hx hret hd hr, hrun, hended, _, _, rfl, hQ, ⟨_, rfl⟩, hW, hsame.mono hc hs⟩
theorem go_retN (X : Stand p l e R s m args below meth c T locs cells slots) (hx : p.tables.exec = Jvm.exec) {t : FieldType} (hret : meth.sig.returnType = some t) (ht : t = .boolean ∨ t = .byte ∨ t = .char ∨ t = .short) (hlk : meth.locks = false) {pc : Nat} {Ls : Array Slot} {z w : Int32} {rest : List Value} (hd : decode c.code pc = .ok (.ireturn, 1))
    (hz : nar t z = w) (hQ : Q (some (.int w)) T.heap locs) (hc : cells ≤ kc) (hs : slots ≤ ks) : Go p e s below kc ks Q T (mkF m pc Ls (.int z :: rest)) := by
  subst hz
  obtain ⟨fs, hr, hrun, hended, hW, hsame⟩ := X.leave (v := some (.int (nar t z))) (fun h => by rw [hret] at h; cases h) hlk
  exact ⟨_, _, retN X hx hret ht hd hr, hrun, hended, _, _, rfl, hQ, ⟨_, rfl⟩, hW, hsame.mono hc hs⟩
theorem go_retJ (X : Stand p l e R s m args below meth c T locs cells slots) (hx : p.tables.exec = Jvm.exec) (hret : meth.sig.returnType = some .long) (hlk : meth.locks = false) {pc : Nat} {Ls : Array Slot} {z : Int64} (hd : decode c.code pc = .ok (.lreturn, 1))
    (hQ : Q (some (.long z)) T.heap locs) (hc : cells ≤ kc) (hs : slots ≤ ks) : Go p e s below kc ks Q T (mkF m pc Ls [.long z]) := by
  obtain ⟨fs, hr, hrun, hended, hW, hsame⟩ := X.leave (v := some (.long z)) (fun h => by rw [hret] at h; cases h) hlk
  exact ⟨_, _, X.lreturnOut hx hret hd hr, hrun, hended, _, _, rfl, hQ, ⟨_, rfl⟩, hW, hsame.mono hc hs⟩
theorem go_retA (X : Stand p l e R s m args below meth c T locs cells slots) (hx : p.tables.exec = Jvm.exec) {t : FieldType} (hret : meth.sig.returnType = some t) (ht : t.isReference = true) (hlk : meth.locks = false) {pc : Nat} {Ls : Array Slot} {w : Value} {rest : List Value} (hw : w.isRef = true) (hd : decode c.code pc = .ok (.areturn, 1))
    (hQ : Q (some w) T.heap locs) (hc : cells ≤ kc) (hs : slots ≤ ks) : Go p e s below kc ks Q T (mkF m pc Ls (w :: rest)) := by
  obtain ⟨fs, hr, hrun, hended, hW, hsame⟩ := X.leave (v := some w) (fun h => by rw [hret] at h; cases h) hlk
  have hn : narrow t w = w := by cases t <;> first | rfl | simp [FieldType.isReference] at ht
  exact ⟨_, _, retOut X hx hret hn (Or.inr (Or.inr (Or.inr (Or.inr ⟨rfl, ht, hw⟩)))) hd hr, hrun, hended, _, _, rfl, hQ, ⟨_, rfl⟩, hW, hsame.mono hc hs⟩
theorem go_ret (X : Stand p l e R s m args below meth c T locs cells slots) (hx : p.tables.exec = Jvm.exec) (hret : meth.sig.returnType = none) (hlk : meth.locks = false) {pc : Nat} {Ls : Array Slot} (hd : decode c.code pc = .ok (.return_, 1))
    (hQ : Q none T.heap locs) (hc : cells ≤ kc) (hs : slots ≤ ks) : Go p e s below kc ks Q T (mkF m pc Ls []) := by
  obtain ⟨fs, hr, hrun, hended, hW, hsame⟩ := X.leave (v := none) (fun _ => rfl) hlk
  exact ⟨_, _, X.returnOut hx hret hd hr, hrun, hended, _, _, rfl, hQ, ⟨_, rfl⟩, hW, hsame.mono hc hs⟩
/-! calls by a contract -/
section Calls
variable {own : String} {index : Nat} {y : MethodName} {bytes : ByteArray} {maxL : Nat} {ret r : Option FieldType} {rm : Room} {Qc : Option Value → Heap → List Loc → Prop} {argsL rest : List Value} {ps : List FieldType} {pc W : Nat} {Ls : Array Slot} {a : Addr}
theorem c_static (X : Stand p l e R s m args below meth c T locs cells slots) (hx : p.tables.exec = Jvm.exec) (hZ : Z.Warmed39 s.vm) (hown : s.vm.findClass own = some m.cls)
    (w1 : (Jvm.Cond.methodLink own index y).before a0 Z = true) (w2 : (Jvm.Cond.static y).before a0 Z = true) (w3 : (Jvm.Cond.initialized y.cls).before a0 Z = true) (w4 : (Jvm.Cond.code y bytes maxL ret).before a0 Z = true) (hy : y.cls ≠ "java/lang/invoke/MethodHandle" ∧ y.cls ≠ "java/lang/invoke/VarHandle")
    (hC : Ctr l Z y bytes maxL ret [] rm rm.cells rm.slots argsL.toArray h Qc) (eT : T.heap = h) (hpd : parseMethodDescriptor y.desc = some ⟨ps, r⟩) (hlen : argsL.length = ps.length) (hsz : Ls.size = c.maxLocals) (hW : 2 * 0 + (rest.map fun v => v.category).sum ≤ W)
    (hf : rm.frames + 1 ≤ R.frames) (hl : W + (maxL + 11) + rm.locals ≤ R.locals) (hc : cells + rm.cells ≤ R.cells) (hs : slots + rm.slots ≤ R.slots) (hd : decode c.code pc = .ok (.invokestatic index, 3)) :
    ∃ (v : Option Value) (T' : State) (L : List Loc), Stand p l e R s m args below meth c T' (locs ++ L) (cells + rm.cells) (slots + rm.slots) ∧ Qc v T'.heap L ∧
      ∀ t, Steps p.tables e below (T'.setTop (mkF m (pc + 3) Ls (v.toList ++ rest))) t → Steps p.tables e below (T.setTop (mkF m pc Ls (argsL.reverse ++ rest))) t := by
  obtain ⟨v, _, ⟨T', L', k', n'⟩, -, X', ⟨L, hQ, rfl, rfl, rfl⟩, st⟩ := Jvm.LawKit.callS X hx (y := y) hown (mvT hZ w1) (mvT hZ w2) (mvT hZ w3) (mvT hZ w4) hy (backOf (W := W) hC hZ w4 w3 hf hl) (g := mkF m pc Ls (argsL.reverse ++ rest)) rfl hsz (argsL := argsL) (rest := rest) (lenOf hpd hlen) rfl hW hd (fun _ _ => ⟨rfl, eT, hc, hs⟩)
  exact ⟨v, T', L, X', hQ, st⟩
theorem c_init (X : Stand p l e R s m args below meth c T locs cells slots) (hx : p.tables.exec = Jvm.exec) (hZ : Z.Warmed39 s.vm) (hown : s.vm.findClass own = some m.cls)
    (w1 : (Jvm.Cond.methodLink own index y).before a0 Z = true) (w2 : (Jvm.Cond.instanceMethod y).before a0 Z = true) (w3 : (Jvm.Cond.initialized y.cls).before a0 Z = true) (w4 : (Jvm.Cond.code y bytes maxL none).before a0 Z = true) (hn : y.name = "<init>") (hy : y.cls ≠ "java/lang/invoke/MethodHandle" ∧ y.cls ≠ "java/lang/invoke/VarHandle")
    (hC : Ctr l Z y bytes maxL none [] rm rm.cells rm.slots (.ref a :: argsL).toArray h Qc) (eT : T.heap = h) (hpd : parseMethodDescriptor y.desc = some ⟨ps, r⟩) (hlen : argsL.length = ps.length) (hsz : Ls.size = c.maxLocals) (hW : 2 * 0 + (rest.map fun v => v.category).sum ≤ W)
    (hf : rm.frames + 1 ≤ R.frames) (hl : W + (maxL + 11) + rm.locals ≤ R.locals) (hc : cells + rm.cells ≤ R.cells) (hs : slots + rm.slots ≤ R.slots) (hd : decode c.code pc = .ok (.invokespecial index, 3)) :
    ∃ (v : Option Value) (T' : State) (L : List Loc), Stand p l e R s m args below meth c T' (locs ++ L) (cells + rm.cells) (slots + rm.slots) ∧ Qc v T'.heap L ∧
      ∀ t, Steps p.tables e below (T'.setTop (mkF m (pc + 3) Ls (v.toList ++ rest))) t → Steps p.tables e below (T.setTop (mkF m pc Ls (argsL.reverse ++ .ref a :: rest))) t := by
  obtain ⟨v, _, ⟨T', L', k', n'⟩, -, X', ⟨L, hQ, rfl, rfl, rfl⟩, st⟩ := X.specialBack hx (y := y) hn hown (mvT hZ w1) (mvT hZ w2) (mvT hZ w4) hy (backOf (W := W) hC hZ w4 w3 hf hl) (g := mkF m pc Ls (argsL.reverse ++ .ref a :: rest)) rfl hsz (Steps.refl _) (a := a) (argsL := argsL) (rest := rest) (lenOf hpd hlen) rfl hW hd (fun _ _ => ⟨rfl, eT, hc, hs⟩)
  exact ⟨v, T', L, X', hQ, fun t k => st.trans k⟩
theorem c_virt {y' : MethodName} {C : String} (X : Stand p l e R s m args below meth c T locs cells slots) (hx : p.tables.exec = Jvm.exec) (hZ : Z.Warmed39 s.vm) (hown : s.vm.findClass own = some m.cls)
    (w1 : (Jvm.Cond.methodLink own index y').before a0 Z = true) (wd : (Jvm.Cond.declares y').before a0 Z = true) (nf : NotFace s y') (ws : (Jvm.Cond.selects C y' y).before a0 Z = true) (w2 : (Jvm.Cond.instanceMethod y).before a0 Z = true) (w3 : (Jvm.Cond.initialized y.cls).before a0 Z = true) (w4 : (Jvm.Cond.code y bytes maxL ret).before a0 Z = true) (hy : y'.cls ≠ "java/lang/invoke/MethodHandle" ∧ y'.cls ≠ "java/lang/invoke/VarHandle")
    (hC : Ctr l Z y bytes maxL ret [] rm rm.cells rm.slots (.ref a :: argsL).toArray h Qc) (eT : T.heap = h) (E : Exa Z h a C) (hpd : parseMethodDescriptor y'.desc = some ⟨ps, r⟩) (hlen : argsL.length = ps.length) (hsz : Ls.size = c.maxLocals) (hW : 2 * 0 + (rest.map fun v => v.category).sum ≤ W)
    (hf : rm.frames + 1 ≤ R.frames) (hl : W + (maxL + 11) + rm.locals ≤ R.locals) (hc : cells + rm.cells ≤ R.cells) (hs : slots + rm.slots ≤ R.slots) (hd : decode c.code pc = .ok (.invokevirtual index, 3)) :
    ∃ (v : Option Value) (T' : State) (L : List Loc), Stand p l e R s m args below meth c T' (locs ++ L) (cells + rm.cells) (slots + rm.slots) ∧ Qc v T'.heap L ∧
      ∀ t, Steps p.tables e below (T'.setTop (mkF m (pc + 3) Ls (v.toList ++ rest))) t → Steps p.tables e below (T.setTop (mkF m pc Ls (argsL.reverse ++ .ref a :: rest))) t := by
  obtain ⟨cq, kq, qa, qb, qc⟩ := isOf hZ eT E
  obtain ⟨v, _, ⟨T', L', k', n'⟩, -, X', ⟨L, hQ, rfl, rfl, rfl⟩, st⟩ := X.virtualBack hx (y := y') (z := y) hown (mvT hZ w1) (mvT hZ wd) nf (mvT hZ ws) (mvT hZ w2) hy (backOf (W := W) hC hZ w4 w3 hf hl) qa qc (g := mkF m pc Ls (argsL.reverse ++ .ref a :: rest)) rfl hsz (Steps.refl _) (argsL := argsL) (rest := rest) (lenOf hpd hlen) rfl hW hd (fun _ _ => ⟨rfl, eT, hc, hs⟩)
  exact ⟨v, T', L, X', hQ, fun t k => st.trans k⟩
theorem own_nf {y' z : MethodName} {C : String} {as : Array Value} (ws : (Jvm.Cond.selects C y' z).before as s = true) (h : z.cls = y.cls) : NotFace s y := fun r0 h0 => by
  obtain ⟨_, _, m2, -, -, q3, -, kP, hkP, hkPi⟩ := Cond.selects_spec ws
  have e1 := findClass_of_methodNamed q3
  rw [h] at e1
  have e2 : m2.cls = r0.cls := Option.some.inj (e1.symm.trans (findClass_of_methodNamed h0))
  exact ⟨kP, e2 ▸ hkP, hkPi⟩
/-- a private method of an object, by invokevirtual: its class isn't an interface (nf) -/
theorem c_priv {C : String} (X : Stand p l e R s m args below meth c T locs cells slots) (hx : p.tables.exec = Jvm.exec) (hZ : Z.Warmed39 s.vm) (hown : s.vm.findClass own = some m.cls)
    (w1 : (Jvm.Cond.methodLink own index y).before a0 Z = true) (w2 : (Jvm.Cond.instanceMethod y).before a0 Z = true) (nf : NotFace s y) (wp : (Jvm.Cond.privateMethod y).before a0 Z = true) (w3 : (Jvm.Cond.initialized y.cls).before a0 Z = true) (w4 : (Jvm.Cond.code y bytes maxL ret).before a0 Z = true) (hy : y.cls ≠ "java/lang/invoke/MethodHandle" ∧ y.cls ≠ "java/lang/invoke/VarHandle")
    (hC : Ctr l Z y bytes maxL ret [] rm rm.cells rm.slots (.ref a :: argsL).toArray h Qc) (eT : T.heap = h) (E : Exa Z h a C) (hpd : parseMethodDescriptor y.desc = some ⟨ps, r⟩) (hlen : argsL.length = ps.length) (hsz : Ls.size = c.maxLocals) (hW : 2 * 0 + (rest.map fun v => v.category).sum ≤ W)
    (hf : rm.frames + 1 ≤ R.frames) (hl : W + (maxL + 11) + rm.locals ≤ R.locals) (hc : cells + rm.cells ≤ R.cells) (hs : slots + rm.slots ≤ R.slots) (hd : decode c.code pc = .ok (.invokevirtual index, 3)) :
    ∃ (v : Option Value) (T' : State) (L : List Loc), Stand p l e R s m args below meth c T' (locs ++ L) (cells + rm.cells) (slots + rm.slots) ∧ Qc v T'.heap L ∧
      ∀ t, Steps p.tables e below (T'.setTop (mkF m (pc + 3) Ls (v.toList ++ rest))) t → Steps p.tables e below (T.setTop (mkF m pc Ls (argsL.reverse ++ .ref a :: rest))) t := by
  obtain ⟨cq, qa, qb⟩ := E.cell
  obtain ⟨mk, methM, hnamed, hmethM, hstM, habM⟩ := Cond.instanceMethod_spec (mvT (args := args) hZ w2)
  obtain ⟨methM', cM, hmethM', -, -, -, -, -, -, hsigM⟩ := Cond.code_spec hnamed (mvT (args := args) hZ w4)
  cases hmethM.symm.trans hmethM'
  obtain ⟨kP, hkP, hkPi⟩ := nf mk hnamed
  have hsel : selectMethod e.platform s.vm cq.cls mk = .method mk := selectMethod_private hmethM ((Cond.privateMethod_at (mvP hZ wp (args := #[]))) mk methM hnamed hmethM)
  obtain ⟨vm₁, X₁, hst⟩ := X.invokevirtual hx hown (mvT hZ w1) hnamed hmethM hstM hkP hkPi hy (a := a) (cell := cq) (by rw [eT]; exact qa) qb hsel hmethM habM hkP hkPi (g := mkF m pc Ls (argsL.reverse ++ .ref a :: rest)) rfl (argsL := argsL) (rest := rest) (lenOf hpd hlen _ hsigM) rfl hd
  obtain ⟨v, ⟨T', L', k', n'⟩, X', ⟨L, hQ, rfl, rfl, rfl⟩, hgo⟩ := (backOf (W := W) (len := 3) hC hZ w4 w3 hf hl) m meth c ⟨T.setVm vm₁, locs, cells, slots⟩ (mkF m pc Ls rest) (.invokevirtual index) mk (.ref a :: argsL).toArray X₁ rfl hsz hd hW (X₁.named hnamed) ⟨rfl, eT, hc, hs⟩
  exact ⟨v, T', L, X', hQ, fun t k => ((hst _ fun acts => by rw [doInvoke_state]; exact Steps.refl _).trans hgo).trans k⟩
/-- invokevirtual of a method that a class above the one that the entry names declares -/
theorem c_virtUp {y' : MethodName} {C owner : String} (X : Stand p l e R s m args below meth c T locs cells slots) (hx : p.tables.exec = Jvm.exec) (hZ : Z.Warmed39 s.vm) (hown : s.vm.findClass own = some m.cls)
    (w1 : (Jvm.Cond.methodLink own index y').before a0 Z = true) (wm : (Jvm.Cond.sameMethod y'.cls owner y'.name y'.desc).before a0 Z = true) (wd : (Jvm.Cond.declares ⟨owner, y'.name, y'.desc⟩).before a0 Z = true) (ws : (Jvm.Cond.selects C y' y).before a0 Z = true) (w2 : (Jvm.Cond.instanceMethod y).before a0 Z = true) (w3 : (Jvm.Cond.initialized y.cls).before a0 Z = true) (w4 : (Jvm.Cond.code y bytes maxL ret).before a0 Z = true) (hy : owner ≠ "java/lang/invoke/MethodHandle" ∧ owner ≠ "java/lang/invoke/VarHandle")
    (hC : Ctr l Z y bytes maxL ret [] rm rm.cells rm.slots (.ref a :: argsL).toArray h Qc) (eT : T.heap = h) (E : Exa Z h a C) (hpd : parseMethodDescriptor y'.desc = some ⟨ps, r⟩) (hlen : argsL.length = ps.length) (hsz : Ls.size = c.maxLocals) (hW : 2 * 0 + (rest.map fun v => v.category).sum ≤ W)
    (hf : rm.frames + 1 ≤ R.frames) (hl : W + (maxL + 11) + rm.locals ≤ R.locals) (hc : cells + rm.cells ≤ R.cells) (hs : slots + rm.slots ≤ R.slots) (hd : decode c.code pc = .ok (.invokevirtual index, 3)) :
    ∃ (v : Option Value) (T' : State) (L : List Loc), Stand p l e R s m args below meth c T' (locs ++ L) (cells + rm.cells) (slots + rm.slots) ∧ Qc v T'.heap L ∧
      ∀ t, Steps p.tables e below (T'.setTop (mkF m (pc + 3) Ls (v.toList ++ rest))) t → Steps p.tables e below (T.setTop (mkF m pc Ls (argsL.reverse ++ .ref a :: rest))) t := by
  obtain ⟨cq, kq, qa, qb, qc⟩ := isOf hZ eT E
  obtain ⟨v, _, ⟨T', L', k', n'⟩, -, X', ⟨L, hQ, rfl, rfl, rfl⟩, st⟩ := X.virtualBackUp hx (x := y') (y := y) hown (mvT hZ w1) (mvT hZ wm) (mvT hZ wd) hy (mvT hZ ws) (mvT hZ w2) (backOf (W := W) hC hZ w4 w3 hf hl) qa qc (g := mkF m pc Ls (argsL.reverse ++ .ref a :: rest)) rfl hsz (Steps.refl _) (argsL := argsL) (rest := rest) (lenOf hpd hlen) rfl hW hd (fun _ _ => ⟨rfl, eT, hc, hs⟩)
  exact ⟨v, T', L, X', hQ, fun t k => st.trans k⟩
end Calls
end Own
/-! arrays by a function of the place -/
def upd (f : Nat → Value) (k : Nat) (v : Value) : Nat → Value := fun i => if i = k then v else f i
def lst (L : List Value) : Nat → Value := fun i => L.getD i .null
theorem upd_eq {f : Nat → Value} {k : Nat} {v : Value} : upd f k v k = v := if_pos rfl
theorem upd_ne {f : Nat → Value} {k i : Nat} {v : Value} (h : i ≠ k) : upd f k v i = f i := if_neg h
def AV (Z : State) (h : Heap) (a : Addr) (ty : FieldType) (n : Nat) (f : Nat → Value) : Prop := ∃ c : Cell, Arr Z h a c ty ∧ c.slots.size = n ∧ n < 2147483648 ∧ ∀ i, i < n → c.slots[i]? = some (f i)
section Arrays
variable {Z : State} {h h' : Heap} {a b : Addr} {ty : FieldType} {n k : Nat} {f g : Nat → Value} {v w : Value} {j : Int32} {ws : List Addr} {sl : Nat}
theorem AV.lt (A : AV Z h a ty n f) : a < h.size := by obtain ⟨c, A, -⟩ := A; exact A.lt
theorem AV.ext (A : AV Z h a ty n f) (E : Ext h h') : AV Z h' a ty n f := by obtain ⟨c, A, r⟩ := A; exact ⟨c, A.ext E, r⟩
theorem AV.other (A : AV Z h b ty n f) (W : Wr h h' a sl v) (q : b ≠ a) : AV Z h' b ty n f := by obtain ⟨c, A, r⟩ := A; exact ⟨c, A.other W q, r⟩
theorem AV.keep (A : AV Z h a ty n f) (K : Keep h h' ws) (q : a ∉ ws) : AV Z h' a ty n f := by obtain ⟨c, A, r⟩ := A; exact ⟨c, ⟨K.2.1 a c A.1 q, A.2⟩, r⟩
theorem AV.congr (A : AV Z h a ty n f) (q : ∀ i, i < n → f i = g i) : AV Z h a ty n g := by obtain ⟨c, A, r1, r2, r3⟩ := A; exact ⟨c, A, r1, r2, fun i hi => by rw [r3 i hi, q i hi]⟩
theorem AV.bound (A : AV Z h a ty n f) : n < 2147483648 := by obtain ⟨c, A, r1, r2, r3⟩ := A; exact r2
theorem clamp_of (hj : j.toInt = (k : Int)) : j.toNatClampNeg = k := by show j.toInt.toNat = k; rw [hj]; rfl
theorem in_of {c : Cell} (hj : j.toInt = (k : Int)) (hs : c.slots.size = n) (hk : k < n) : ¬ (j < 0 ∨ c.slots.size ≤ j.toNatClampNeg) := by
  rw [clamp_of hj, hs, Int32.lt_iff_toInt_lt, hj]; simp only [Int32.reduceToInt]; omega
theorem AV.new {cA : ClassId} {z : Int32} (A : Arr Z h a (newA cA ty z) ty) (hz : z.toInt = (n : Int)) : AV Z h a ty n (fun _ => defaultValue ty) := by
  have q := clamp_of hz
  have hb := Int32.toInt_lt z
  refine ⟨_, A, by rw [sz_new]; exact q, by omega, fun i hi => ?_⟩
  have hi' : i < z.toNatClampNeg := by rw [q]; exact hi
  simp [newA, hi']
theorem AV.at (A : AV Z h a ty n f) (hj : j.toInt = (k : Int)) (hk : k < n) : ∃ cl : Cell, Arr Z h a cl ty ∧ ¬ (j < 0 ∨ cl.slots.size ≤ j.toNatClampNeg) ∧ cl.slots[j.toNatClampNeg]? = some (f k) := by
  obtain ⟨c, A, r1, r2, r3⟩ := A
  exact ⟨c, A, in_of hj r1 hk, by rw [clamp_of hj]; exact r3 k hk⟩
theorem AV.set (A : AV Z h a ty n f) (hj : j.toInt = (k : Int)) (hk : k < n) (W : Wr h h' a j.toNatClampNeg v) : AV Z h' a ty n (upd f k v) := by
  obtain ⟨c, A, r1, r2, r3⟩ := A
  refine ⟨_, A.same W, by rw [sz_set]; exact r1, r2, fun i hi => ?_⟩
  rw [clamp_of hj]
  by_cases e : i = k
  · subst e; simp [Cell.setSlot, r1, hi, upd]
  · rw [upd_ne e, ← r3 i hi]; exact Array.getElem?_setIfInBounds_ne (Ne.symm e)
theorem AV.setL {L L' : List Value} (A : AV Z h a ty n (lst L)) (hj : j.toInt = (k : Int)) (hk : k < n) (W : Wr h h' a j.toNatClampNeg v) (hl : k < L.length) (e : L.set k v = L') : AV Z h' a ty n (lst L') := by
  subst e
  refine (A.set hj hk W).congr fun i hi => ?_
  by_cases q : i = k
  · subst q; simp [upd, lst, List.getD_eq_getElem?_getD, hl]
  · rw [upd_ne q]; simp [lst, List.getD_eq_getElem?_getD, List.getElem?_set_ne (Ne.symm q)]
theorem AV.newL {L : List Value} (A : AV Z h a ty n (fun _ => v)) (e : L = List.replicate n v) : AV Z h a ty n (lst L) := by
  subst e; refine A.congr fun i hi => ?_
  simp [lst, List.getD_eq_getElem?_getD, List.getElem?_replicate, hi]
theorem AV.len (A : AV Z h a ty n f) : ∃ cl : Cell, Arr Z h a cl ty ∧ cl.slots.size.toInt32 = Int32.ofNat n := by
  obtain ⟨c, A, r1, r2, r3⟩ := A; exact ⟨c, A, by rw [r1]⟩
theorem own_cls {cA : ClassId} {z : Int32} {ad : String} (A : Arr Z h a (newA cA ty z) ty) (E : Exa Z h a ad) : Z.vm.findClass ad = some cA := by
  obtain ⟨cell, k, e1, e2, -⟩ := E
  cases A.1.symm.trans e1
  exact e2
theorem own_sto {cA : ClassId} {cl : Cell} {ad C : String} {y : Addr} (A : Arr Z h a cl ty) (E : Exa Z h a ad) (hA : Z.vm.findClass ad = some cA) (O : Ovr Z cA C) (I : Ins Z h y C true) : Sto Z h a (.ref y) := by
  obtain ⟨cell, k, e1, e2, -⟩ := E
  cases A.1.symm.trans e1
  have q : cl.cls = cA := Option.some.inj (e2.symm.trans hA)
  exact Sto.of A (q ▸ O) I
theorem own_sta_keep {C n' d : String} (F : Sta Z h C n' d v) (K : Keep h h' []) : Sta Z h' C n' d v := by
  obtain ⟨cf, i, k, f, st, cell, h1, h2, h3, h4, h5, h6, h7⟩ := F
  exact ⟨cf, i, k, f, st, cell, h1, h2, h3, h4, K.2.1 _ _ h5 (fun q => nomatch q), h6, h7⟩
end Arrays
section ASteps
variable {p : Program} {l : Launch} {e : Env} {R : Room} {s : State} {m : MethodId} {args : Array Value} {below : List Frame} {meth : Method} {c : Code} {T : State} {locs : List Loc} {cells slots : Nat} {Z : State} {a0 : Array Value} {h : Heap} {a : Addr} {n k pc : Nat} {f : Nat → Value} {j : Int32} {Ls : Array Slot} {rest : List Value}
theorem a_iload (X : Stand p l e R s m args below meth c T locs cells slots) (hx : p.tables.exec = Jvm.exec) (hZ : Z.Warmed39 s.vm) (eT : T.heap = h) (A : AV Z h a .int n f) (hj : j.toInt = (k : Int)) (hk : k < n) {x : Int32} (hv : f k = .int x) (hd : decode c.code pc = .ok (.iaload, 1)) :
    ∀ t, Steps p.tables e below (T.setTop (mkF m (pc + 1) Ls (.int x :: rest))) t → Steps p.tables e below (T.setTop (mkF m pc Ls (.int j :: .ref a :: rest))) t := by
  obtain ⟨cl, A, hin, hat⟩ := A.at hj hk
  rw [hv] at hat
  exact X.iaload hx (j := j) (v := .int x) (by rw [eT]; exact A.1) (State.isArrayOf_alike hZ.alike A.2.1) A.2.2 hin hat (g := mkF m pc Ls (.int j :: .ref a :: rest)) rfl rfl hd
theorem a_cload (X : Stand p l e R s m args below meth c T locs cells slots) (hx : p.tables.exec = Jvm.exec) (hZ : Z.Warmed39 s.vm) (eT : T.heap = h) (A : AV Z h a .char n f) (hj : j.toInt = (k : Int)) (hk : k < n) {x : Int32} (hv : f k = .int x) (hd : decode c.code pc = .ok (.caload, 1)) :
    ∀ t, Steps p.tables e below (T.setTop (mkF m (pc + 1) Ls (.int x :: rest))) t → Steps p.tables e below (T.setTop (mkF m pc Ls (.int j :: .ref a :: rest))) t := by
  obtain ⟨cl, A, hin, hat⟩ := A.at hj hk
  rw [hv] at hat
  exact X.caload hx (j := j) (v := .int x) (by rw [eT]; exact A.1) (State.isArrayOf_alike hZ.alike A.2.1) A.2.2 hin hat (g := mkF m pc Ls (.int j :: .ref a :: rest)) rfl rfl hd
theorem a_bload (X : Stand p l e R s m args below meth c T locs cells slots) (hx : p.tables.exec = Jvm.exec) (hZ : Z.Warmed39 s.vm) (eT : T.heap = h) (A : AV Z h a .byte n f) (hj : j.toInt = (k : Int)) (hk : k < n) {x : Int32} (hv : f k = .int x) (hd : decode c.code pc = .ok (.baload, 1)) :
    ∀ t, Steps p.tables e below (T.setTop (mkF m (pc + 1) Ls (.int x :: rest))) t → Steps p.tables e below (T.setTop (mkF m pc Ls (.int j :: .ref a :: rest))) t := by
  obtain ⟨cl, A, hin, hat⟩ := A.at hj hk
  rw [hv] at hat
  exact X.baloadBytes hx (j := j) (v := .int x) (by rw [eT]; exact A.1) (State.isArrayOf_alike hZ.alike A.2.1) A.2.2 hin hat (g := mkF m pc Ls (.int j :: .ref a :: rest)) rfl rfl hd
theorem a_jload (X : Stand p l e R s m args below meth c T locs cells slots) (hx : p.tables.exec = Jvm.exec) (hZ : Z.Warmed39 s.vm) (eT : T.heap = h) (A : AV Z h a .long n f) (hj : j.toInt = (k : Int)) (hk : k < n) {x : Int64} (hv : f k = .long x) (hd : decode c.code pc = .ok (.laload, 1)) :
    ∀ t, Steps p.tables e below (T.setTop (mkF m (pc + 1) Ls (.long x :: rest))) t → Steps p.tables e below (T.setTop (mkF m pc Ls (.int j :: .ref a :: rest))) t := by
  obtain ⟨cl, A, hin, hat⟩ := A.at hj hk
  rw [hv] at hat
  exact X.laload hx (j := j) (v := .long x) (by rw [eT]; exact A.1) (State.isArrayOf_alike hZ.alike A.2.1) A.2.2 hin hat (g := mkF m pc Ls (.int j :: .ref a :: rest)) rfl rfl hd
theorem a_rload {ty : FieldType} (X : Stand p l e R s m args below meth c T locs cells slots) (hx : p.tables.exec = Jvm.exec) (hZ : Z.Warmed39 s.vm) (eT : T.heap = h) (A : AV Z h a ty n f) (ht : ty.isReference = true) (hj : j.toInt = (k : Int)) (hk : k < n) {v : Value} (hv : f k = v) (hd : decode c.code pc = .ok (.aaload, 1)) :
    ∀ t, Steps p.tables e below (T.setTop (mkF m (pc + 1) Ls (v :: rest))) t → Steps p.tables e below (T.setTop (mkF m pc Ls (.int j :: .ref a :: rest))) t := by
  obtain ⟨cl, A, hin, hat⟩ := A.at hj hk
  rw [hv] at hat
  exact X.aaload hx (j := j) (v := v) (by rw [eT]; exact A.1) (State.isArrayOf_alike hZ.alike A.2.1) ht A.2.2 hin hat (g := mkF m pc Ls (.int j :: .ref a :: rest)) rfl rfl hd
theorem a_len {ty : FieldType} (X : Stand p l e R s m args below meth c T locs cells slots) (hx : p.tables.exec = Jvm.exec) (hZ : Z.Warmed39 s.vm) (eT : T.heap = h) (A : AV Z h a ty n f) {z : Int32} (hz : z.toInt = (n : Int)) (hd : decode c.code pc = .ok (.arraylength, 1)) :
    ∀ t, Steps p.tables e below (T.setTop (mkF m (pc + 1) Ls (.int z :: rest))) t → Steps p.tables e below (T.setTop (mkF m pc Ls (.ref a :: rest))) t := by
  obtain ⟨cl, A, hin⟩ := A.len
  have hb := Int32.toInt_lt z
  have q : cl.slots.size.toInt32 = z := by rw [hin]; exact Int32.toInt_inj.mp (by rw [hz]; exact Int32.toInt_ofNat_of_lt (by omega))
  intro t k
  refine X.arraylength hx (by rw [eT]; exact A.1) (State.isArrayOf_alike hZ.alike A.2.1) (g := mkF m pc Ls (.ref a :: rest)) rfl rfl hd _ ?_
  rw [q]; exact k
end ASteps
/-! the wide frame: a walk that may load a String constant -/
def GoW (p : Program) (e : Env) (s : State) (below : List Frame) (kc ks : Nat) (Q : Option Value → Heap → List Loc → Vm → Prop) (T : State) (f : JFrame) : Prop :=
  ∃ s₂ o, Steps p.tables e below (T.setTop f) s₂ ∧ s₂.status = .running ∧ Ended s₂ below o ∧ ∃ v L, o = .returned v ∧ Q v s₂.heap L s₂.vm ∧ ReturnedEndW s o s₂ L kc ks
def CtrW (l : Launch) (Z : State) (y : MethodName) (bytes : ByteArray) (maxL : Nat) (ret : Option FieldType) (ws : List Jvm.Cond) (rm : Room) (kc ks : Nat) (as : Array Value) (h : Heap) (V : Vm → Prop) (Q : Option Value → Heap → List Loc → Vm → Prop) : Prop :=
  MetFree l y (head1 (Jvm.Cond.code y bytes maxL ret :: ws) rm) (fun a U => a = as ∧ Z.Warmed39 U.vm ∧ U.heap = h ∧ V U.vm) (fun _ _ _ _ _ => True) (fun _ U o U' => ∃ v L, o = .returned v ∧ Q v U'.heap L U'.vm ∧ ReturnedEndW U o U' L kc ks)
/-- the start with later tables -/
def Reb (s s' T : State) : Prop := ∃ vm k, s' = s.setVm vm ∧ s.Since vm k ∧ k ≤ T.heap.size
section Wide
variable {p : Program} {l : Launch} {e : Env} {R : Room} {s : State} {m : MethodId} {args : Array Value} {below : List Frame} {meth : Method} {c : Code} {T : State} {locs : List Loc} {cells slots kc ks : Nat} {Z : State} {a0 : Array Value} {h : Heap}
theorem GoW.step {Q : Option Value → Heap → List Loc → Vm → Prop} {T' : State} {f f' : JFrame} (st : ∀ t, Steps p.tables e below (T'.setTop f') t → Steps p.tables e below (T.setTop f) t) (k : GoW p e s below kc ks Q T' f') : GoW p e s below kc ks Q T f := by
  obtain ⟨s₂, o, h1, r⟩ := k; exact ⟨s₂, o, st _ h1, r⟩
theorem gow_cast {Q : Option Value → Heap → List Loc → Vm → Prop} {f f' : JFrame} (q : f = f') (k : GoW p e s below kc ks Q T f') : GoW p e s below kc ks Q T f := q ▸ k
theorem GoW.reb {Q : Option Value → Heap → List Loc → Vm → Prop} {s' : State} {f : JFrame} (r : Reb s s' T) (g : GoW p e s' below kc ks Q T f) : GoW p e s below kc ks Q T f := by
  obtain ⟨vm, k, rfl, hS, hk⟩ := r
  obtain ⟨s₂, o, h1, h2, h3, v, L, h4, h5, h6, h7, h8, h9⟩ := g
  have hle : T.heap.size ≤ s₂.heap.size := h1.heap_le
  have hS3 := hS.trans (vm₂ := s₂.vm) (n₂ := s₂.heap.size) ⟨h7, h8⟩ (Nat.le_trans hk hle)
  exact ⟨s₂, o, h1, h2, h3, v, L, h4, h5, h6, hS3.1, hS3.2, h9.setVm s.vm⟩
theorem Go.w {Q : Option Value → Heap → List Loc → Prop} {QW : Option Value → Heap → List Loc → Vm → Prop} {f : JFrame} (hq : ∀ v h L vm, s.WarmedH vm → Q v h L → QW v h L vm) (g : Go p e s below kc ks Q T f) : GoW p e s below kc ks QW T f := by
  obtain ⟨s₂, o, h1, h2, h3, v, L, h4, h5, h6, h7, h8⟩ := g
  exact ⟨s₂, o, h1, h2, h3, v, L, h4, hq _ _ _ _ h7 h5, ReturnedEndW.of_narrow h6 h7 h8⟩
theorem CtrW.mk {y : MethodName} {bytes : ByteArray} {maxL : Nat} {ret : Option FieldType} {ws : List Jvm.Cond} {rm : Room} {as : Array Value} {V : Vm → Prop} {Q : Option Value → Heap → List Loc → Vm → Prop} (hp : plainFor y = true)
    (hgo : ∀ (p : Program) (e : Env) (s : State) (m : MethodId) (below : List Frame) (meth : Method) (c : Code) (s₁ : State), Stand p l e rm s m as below meth c s₁ [] 0 0 → Cx p s m meth c Z y.cls y.name bytes maxL ret → s₁.heap = h → V s.vm → s.heap = h → GoW p e s below kc ks Q s₁ (entryFrame m as maxL)) :
    CtrW l Z y bytes maxL ret ws rm kc ks as h V Q := by
  refine MetFree.of_bodySF hp hisR ?_
  intro p e s m args below meth c s₁ Bd hml0 hP hK
  obtain ⟨rfl, hZ, hh, hV⟩ := hP
  exact hgo p e s m below meth c s₁ (Stand.of_body Bd) ⟨Bd.exec, hZ, Bd.bytes, hml0, findClass_of_methodNamed Bd.named, (name_of_methodNamed Bd.named Bd.method).1, Bd.returns, Bd.notSynchronized⟩ (by rw [← hh, Bd.state]; rfl) hV hh
section Calls
variable {own : String} {index : Nat} {y : MethodName} {bytes : ByteArray} {maxL : Nat} {ret r : Option FieldType} {rm : Room} {V : Vm → Prop} {Qc : Option Value → Heap → List Loc → Vm → Prop} {argsL rest : List Value} {ps : List FieldType} {pc W : Nat} {Ls : Array Slot} {a : Addr}
theorem own_backW {len : Nat} {as' : Array Value} (hM : CtrW l Z y bytes maxL ret [] rm rm.cells rm.slots as' h V Qc) (hZ : Z.Warmed39 s.vm) (hV : ∀ vm, s.WarmedH vm → V vm)
    (wc : (Jvm.Cond.code y bytes maxL ret).before a0 Z = true) (wz : (Jvm.Cond.initialized y.cls).before a0 Z = true) (hf : rm.frames + 1 ≤ R.frames) (hl : W + (maxL + 11) + rm.locals ≤ R.locals) :
    BackS l R p e below s args y len W (fun A a => a = as' ∧ A.U.heap = h ∧ A.cells + rm.cells ≤ R.cells ∧ A.slots + rm.slots ≤ R.slots)
      (fun A _ v B => ∃ L, Qc v B.U.heap L B.U.vm ∧ B.locs = A.locs ++ L ∧ B.cells = A.cells + rm.cells ∧ B.slots = A.slots + rm.slots) :=
  BackS.of_freeW (bytes := bytes) (maxL := maxL) (ret := ret) (E := fun _ _ o t L k n => k = rm.cells ∧ n = rm.slots ∧ ∃ v, o = .returned v ∧ Qc v t.heap L t.vm) hM hf hl
    (fun m meth c A a Y hp => have hU : Z.Warmed39 A.U.vm := wtrans hZ Y.warmed
      ⟨by show (Cond.and _ .tt).before a A.U = true; rw [Cond.before_and, mv hU wc]; rfl, mv hU wc, mv hU wz, hp.2.2.1, hp.2.2.2⟩)
    (fun m meth c A a g mk Y hp => ⟨hp.1, wtrans hZ Y.warmed, hp.2.1, hV _ Y.warmed⟩) (fun _ _ _ _ _ _ _ _ _ => trivial)
    (fun _ _ _ _ ⟨v, L, h1, h2, h3⟩ => ⟨L, _, _, h3, rfl, rfl, v, h1, h2⟩)
    (fun m meth c A a g mk v t L k n Y hp _ _ ⟨e1, e2, v', e3, e4⟩ => by cases e3; subst e1 e2; exact ⟨L, e4, rfl, rfl, rfl⟩)
theorem c_staticW (X : Stand p l e R s m args below meth c T locs cells slots) (hx : p.tables.exec = Jvm.exec) (hZ : Z.Warmed39 s.vm) (hown : s.vm.findClass own = some m.cls)
    (w1 : (Jvm.Cond.methodLink own index y).before a0 Z = true) (w2 : (Jvm.Cond.static y).before a0 Z = true) (w3 : (Jvm.Cond.initialized y.cls).before a0 Z = true) (w4 : (Jvm.Cond.code y bytes maxL ret).before a0 Z = true) (hy : y.cls ≠ "java/lang/invoke/MethodHandle" ∧ y.cls ≠ "java/lang/invoke/VarHandle")
    (hC : CtrW l Z y bytes maxL ret [] rm rm.cells rm.slots argsL.toArray h V Qc) (hV : ∀ vm, s.WarmedH vm → V vm) (eT : T.heap = h) (hpd : parseMethodDescriptor y.desc = some ⟨ps, r⟩) (hlen : argsL.length = ps.length) (hsz : Ls.size = c.maxLocals) (hW : 2 * 0 + (rest.map fun v => v.category).sum ≤ W)
    (hf : rm.frames + 1 ≤ R.frames) (hl : W + (maxL + 11) + rm.locals ≤ R.locals) (hc : cells + rm.cells ≤ R.cells) (hs : slots + rm.slots ≤ R.slots) (hd : decode c.code pc = .ok (.invokestatic index, 3)) :
    ∃ (v : Option Value) (s' T' : State) (L : List Loc), Stand p l e R s' m args below meth c T' (locs ++ L) (cells + rm.cells) (slots + rm.slots) ∧ Reb s s' T' ∧ Z.Warmed39 s'.vm ∧ s'.vm.findClass own = some m.cls ∧ Qc v T'.heap L s'.vm ∧
      ∀ t, Steps p.tables e below (T'.setTop (mkF m (pc + 3) Ls (v.toList ++ rest))) t → Steps p.tables e below (T.setTop (mkF m pc Ls (argsL.reverse ++ rest))) t := by
  obtain ⟨v, _, ⟨T', L', k', n'⟩, -, X', hS, -, ⟨L, hQ, rfl, rfl, rfl⟩, st⟩ := callSS X hx (y := y) hown (mvT hZ w1) (mvT hZ w2) (mvT hZ w3) (mvT hZ w4) hy (own_backW (W := W) hC hZ hV w4 w3 hf hl) (g := mkF m pc Ls (argsL.reverse ++ rest)) rfl hsz (argsL := argsL) (rest := rest) (lenOf hpd hlen) rfl hW hd (fun _ _ => ⟨rfl, eT, hc, hs⟩)
  exact ⟨v, s.setVm T'.vm, T', L, X', ⟨_, _, rfl, hS, Nat.le_refl _⟩, State.Warmed39.trans (t := s) hZ hS.1, (hS.1.alike.findClass _ _).trans hown, hQ, fun t k => st.trans k⟩
theorem c_initW (X : Stand p l e R s m args below meth c T locs cells slots) (hx : p.tables.exec = Jvm.exec) (hZ : Z.Warmed39 s.vm) (hown : s.vm.findClass own = some m.cls)
    (w1 : (Jvm.Cond.methodLink own index y).before a0 Z = true) (w2 : (Jvm.Cond.instanceMethod y).before a0 Z = true) (w3 : (Jvm.Cond.initialized y.cls).before a0 Z = true) (w4 : (Jvm.Cond.code y bytes maxL none).before a0 Z = true) (hn : y.name = "<init>") (hy : y.cls ≠ "java/lang/invoke/MethodHandle" ∧ y.cls ≠ "java/lang/invoke/VarHandle")
    (hC : CtrW l Z y bytes maxL none [] rm rm.cells rm.slots (.ref a :: argsL).toArray h V Qc) (hV : ∀ vm, s.WarmedH vm → V vm) (eT : T.heap = h) (hpd : parseMethodDescriptor y.desc = some ⟨ps, r⟩) (hlen : argsL.length = ps.length) (hsz : Ls.size = c.maxLocals) (hW : 2 * 0 + (rest.map fun v => v.category).sum ≤ W)
    (hf : rm.frames + 1 ≤ R.frames) (hl : W + (maxL + 11) + rm.locals ≤ R.locals) (hc : cells + rm.cells ≤ R.cells) (hs : slots + rm.slots ≤ R.slots) (hd : decode c.code pc = .ok (.invokespecial index, 3)) :
    ∃ (v : Option Value) (s' T' : State) (L : List Loc), Stand p l e R s' m args below meth c T' (locs ++ L) (cells + rm.cells) (slots + rm.slots) ∧ Reb s s' T' ∧ Z.Warmed39 s'.vm ∧ s'.vm.findClass own = some m.cls ∧ Qc v T'.heap L s'.vm ∧
      ∀ t, Steps p.tables e below (T'.setTop (mkF m (pc + 3) Ls (v.toList ++ rest))) t → Steps p.tables e below (T.setTop (mkF m pc Ls (argsL.reverse ++ .ref a :: rest))) t := by
  obtain ⟨v, _, ⟨T', L', k', n'⟩, -, X', hS, -, ⟨L, hQ, rfl, rfl, rfl⟩, st⟩ := X.specialBackS hx (y := y) hn hown (mvT hZ w1) (mvT hZ w2) (mvT hZ w4) hy (own_backW (W := W) hC hZ hV w4 w3 hf hl) (g := mkF m pc Ls (argsL.reverse ++ .ref a :: rest)) rfl hsz (Steps.refl _) (a := a) (argsL := argsL) (rest := rest) (lenOf hpd hlen) rfl hW hd (fun _ _ => ⟨rfl, eT, hc, hs⟩)
  exact ⟨v, s.setVm T'.vm, T', L, X', ⟨_, _, rfl, hS, Nat.le_refl _⟩, State.Warmed39.trans (t := s) hZ hS.1, (hS.1.alike.findClass _ _).trans hown, hQ, fun t k => st.trans k⟩
end Calls
end Wide
abbrev gc (x : Int32) : Int32 := (((((x >>> ((0 : Int32) &&& 31)).toInt8.toInt32 &&& (255 : Int32)) <<< ((0 : Int32) &&& 31)) ||| (((x >>> ((8 : Int32) &&& 31)).toInt8.toInt32 &&& (255 : Int32)) <<< ((8 : Int32) &&& 31))).toUInt32.toUInt16.toUInt32.toInt32)
theorem own_gc (x : Int32) (h0 : 0 ≤ x.toInt) (h1 : x.toInt < 65536) : gc x = x := by
  have e0 : ((2 ^ 0 : Nat) : Int) = 1 := rfl
  have e8 : ((2 ^ 8 : Nat) : Int) = 256 := rfl
  unfold gc
  have a1 := c_ishr x 0 0 (by decide); have a2 := c_i2b (x >>> ((0 : Int32) &&& 31)); have a3 := c_mask (x >>> ((0 : Int32) &&& 31)).toInt8.toInt32 255 8 (by decide) (by decide); have a4 := c_ishl ((x >>> ((0 : Int32) &&& 31)).toInt8.toInt32 &&& 255) 0 0 (by decide)
  have b1 := c_ishr x 8 8 (by decide); have b2 := c_i2b (x >>> ((8 : Int32) &&& 31)); have b3 := c_mask (x >>> ((8 : Int32) &&& 31)).toInt8.toInt32 255 8 (by decide) (by decide); have b4 := c_ishl ((x >>> ((8 : Int32) &&& 31)).toInt8.toInt32 &&& 255) 8 8 (by decide)
  rw [e0] at a1 a4; rw [e8] at a3 b1 b3 b4
  generalize ((x >>> ((0 : Int32) &&& 31)).toInt8.toInt32 &&& 255) <<< ((0 : Int32) &&& 31) = lo at *
  generalize ((x >>> ((8 : Int32) &&& 31)).toInt8.toInt32 &&& 255) <<< ((8 : Int32) &&& 31) = hi at *
  have r1 := rng32 lo; have r2 := rng32 hi
  have c1 := c_or hi lo 8 (by decide) 256 rfl (by omega) (by omega) (by omega)
  rw [Int32.or_comm lo hi]
  have c2 := c_i2c (hi ||| lo)
  refine Int32.toInt_inj.mp ?_
  omega
theorem own_b8 (x : Int32) (h0 : 0 ≤ x.toInt) (h1 : x.toInt < 256) (k : Int32) (hk : 0 ≤ k.toInt ∧ k.toInt < 128) : x.toInt8.toInt32 = k.toInt8.toInt32 ↔ x = k := by
  have a := c_i2b x; have b := c_i2b k
  rw [← Int32.toInt_inj, ← Int32.toInt_inj]
  omega
theorem own_nc (x : Int32) : nar .char x.toUInt32.toUInt16.toUInt32.toInt32 = x.toUInt32.toUInt16.toUInt32.toInt32 := by
  show x.toUInt32.toUInt16.toUInt32.toInt32.toUInt32.toUInt16.toUInt32.toInt32 = x.toUInt32.toUInt16.toUInt32.toInt32
  rw [UInt32.toUInt32_toInt32, UInt16.toUInt16_toUInt32]
theorem own_nb (x : Int32) : nar .byte x.toInt8.toInt32 = x.toInt8.toInt32 := by
  show x.toInt8.toInt32.toInt8.toInt32 = x.toInt8.toInt32
  rw [Int8.toInt8_toInt32]
def NSt (h : Heap) (a : Addr) : Prop := ∀ c, h[a]? = some c → c.vm.isStatics = false
theorem Exa.nst {Z : State} {h : Heap} {a : Addr} {C : String} (E : Exa Z h a C) : NSt h a := fun c hc => by
  obtain ⟨cell, k, h1, -, -, h4, -⟩ := E
  cases h1.symm.trans hc
  exact h4
theorem AV.nst {Z : State} {h : Heap} {a : Addr} {ty : FieldType} {n : Nat} {f : Nat → Value} (A : AV Z h a ty n f) : NSt h a := fun c hc => by
  obtain ⟨cell, A, -⟩ := A
  have q := A.2.1.1
  have e : cell = c := Option.some.inj (A.1.symm.trans hc)
  rw [← e]
  cases hv : cell.vm <;> first | rfl | exact absurd hv (q _)
theorem own_sta_keepW {Z : State} {h h' : Heap} {C n d : String} {v : Value} {ws : List Addr} (F : Sta Z h C n d v) (K : Keep h h' ws) (q : ∀ x ∈ ws, NSt h x) : Sta Z h' C n d v := by
  obtain ⟨cf, i, k, f, st, cell, h1, h2, h3, h4, h5, h6, h7⟩ := F
  exact ⟨cf, i, k, f, st, cell, h1, h2, h3, h4, K.2.1 _ _ h5 (fun z => by have := q _ z _ h5; rw [h6] at this; cases this), h6, h7⟩
theorem own_ne0 {args : Array Value} {s : State} {t : Term} {x : Int32} (ev : t.eval args s none [] s = some (.int x)) (h : (Cond.not (Cond.eq t (.int 0))).value args s none s [] = some true) : ¬ x = 0 := by
  have hb : (Term.int 0).eval args s none [] s = some (.int 0) := rfl
  simpa [Cond.value, ev, hb] using h
theorem own_sti {args : Array Value} {s : State} {t : Term} {k : Int32} (h : (Cond.eq t (.int k)).value args s none s [] = some true) : t.eval args s none [] s = some (.int k) := by
  obtain ⟨x, y, ha, hb, -⟩ := cmp_v (Or.inl h)
  have hy : y = .int k := (Option.some.inj hb).symm
  subst hy
  have hx : x = .int k := by
    simp only [Cond.value, ha, hb] at h
    cases x <;> simp at h
    rw [h]
  rw [ha, hx]
theorem own_ref {args : Array Value} {s : State} {t : Term} (h : (Cond.isRef t).value args s none s [] = some true) : ∃ v, t.eval args s none [] s = some v ∧ v.category = 1 := by
  cases hv : t.eval args s none [] s with
  | none => simp [Cond.value, hv] at h
  | some v => exact ⟨v, rfl, by cases v <;> first | rfl | (simp [Cond.value, hv] at h)⟩
abbrev mn (a b : Int32) : Int32 := if b < a then b else a
abbrev mx (a b : Int32) : Int32 := if a < b then b else a
abbrev ix (p : Prop) [Decidable p] : Int32 := if p then (0 : Int32) else (-1 : Int32)
/-! the constant "" of java/lang/String, loaded or not yet -/
def VV (Z : State) (vm : Vm) (h : Heap) : Prop := IB Z vm [] ∨ ∃ a b, Lit (Z.setVm vm) "java/lang/String" 7 a ∧ Exa Z h a "java/lang/String" ∧ Fld Z h a "java/lang/String" "coder" "B" (.int (0 : Int32)) ∧ Fld Z h a "java/lang/String" "value" "[B" (.ref b)
section Lit0
variable {p : Program} {l : Launch} {e : Env} {R : Room} {s : State} {m : MethodId} {args : Array Value} {below : List Frame} {meth : Method} {c : Code} {T : State} {locs : List Loc} {cells slots : Nat} {Z : State} {a0 : Array Value} {h h' : Heap} {vm : Vm} {z b : Addr}
theorem own_stays {own : String} {index : Nat} (L : Lit (Z.setVm s.vm) own index z) (hW : s.WarmedH vm) : Lit (Z.setVm vm) own index z := Lit.stays (s := s) (vm0 := s.vm) (vm1 := vm) L hW.wide
theorem VV.warm (V : VV Z s.vm h) (hW : s.WarmedH vm) : VV Z vm h := by
  rcases V with ⟨more, i1, i2⟩ | ⟨a, b, L, r⟩
  · exact Or.inl ⟨more, hW.interned_eq.trans i1, i2⟩
  · exact Or.inr ⟨a, b, own_stays L hW, r⟩
theorem VV.keep (V : VV Z vm h) (K : Keep h h' []) : VV Z vm h' := by
  rcases V with I | ⟨a, b, L, r1, r2, r3⟩
  · exact Or.inl I
  · exact Or.inr ⟨a, b, L, r1.keep K, r2.keep K (by simp), r3.keep K (by simp)⟩
theorem VV.ext (V : VV Z vm h) (E : Ext h h') : VV Z vm h' := V.keep ((Keep.refl h []).ext E)
theorem own_ldc (X : Stand p l e R s m args below meth c T locs cells slots) (hx : p.tables.exec = Jvm.exec) (hZ : Z.Warmed39 s.vm) (hown : s.vm.findClass "java/lang/String" = some m.cls) (w : (Jvm.Cond.stringLink "java/lang/String" 7 "").before a0 Z = true) (wS : ∀ a ∈ Bundle.stringAtoms, a.before a0 Z = true)
    (eT : T.heap = h) (N : Fr s.heap.size locs) (hkeep : ∀ (b : Addr) (cl : Cell), Z.heap[b]? = some cl → s.heap[b]? = some cl) (V : VV Z s.vm h) (hh : Jvm.Lit.constHeld Z "java/lang/String" 7) (hcw : Jvm.Lit.compactW.before a0 Z = true)
    {pc : Nat} {Ls : Array Slot} {S : List Value} (hd : decode c.code pc = .ok (.ldc 7, 2)) (hc : cells + 2 ≤ R.cells) (hl : slots + 4 ≤ R.slots) :
    ∃ (s' : State) (z b : Addr) (T' : State) (h' : Heap), Stand p l e R s' m args below meth c T' locs (cells + 2) (slots + 4) ∧ Reb s s' T' ∧ Z.Warmed39 s'.vm ∧ s'.vm.findClass "java/lang/String" = some m.cls ∧ T'.heap = h' ∧ Ext h h' ∧ Lit (Z.setVm s'.vm) "java/lang/String" 7 z ∧
      Exa Z h' z "java/lang/String" ∧ Fld Z h' z "java/lang/String" "coder" "B" (.int (0 : Int32)) ∧ Fld Z h' z "java/lang/String" "value" "[B" (.ref b) ∧
      ∀ t, Steps p.tables e below (T'.setTop (mkF m (pc + 2) Ls (.ref z :: S))) t → Steps p.tables e below (T.setTop (mkF m pc Ls S)) t := by
  rcases V with I | ⟨a, b, L, r1, r2, r3⟩
  · obtain ⟨a, T', h', k1, b, k, X', e', E', hS', hk1, hW', ho', x1, x2, x3, -, -, -, -, L', st⟩ := ldcSVL (s := s) (vm0 := s.vm) X hx hZ hown w wS eT ((State.WarmedH.refl s).since 0) (Nat.zero_le _) N hkeep I (by simp) hh hcw (vs := []) (z := 0) ⟨by simp, rfl⟩ (by decide) rfl (g := mkF m pc Ls S) rfl hd (n := 0) (by simp) (by decide) hc hl
    exact ⟨s.setVm T'.vm, a, b, T', h', X', ⟨_, k1, rfl, hS', by rw [e']; exact hk1⟩, hW', ho', e', E', L', x1, x2, x3, st⟩
  · exact ⟨s, a, b, T, h, X.mono (by omega) (by omega), ⟨s.vm, 0, rfl, (State.WarmedH.refl s).since 0, Nat.zero_le _⟩, hZ, hown, eT, ⟨Nat.le_refl _, fun _ _ q => q⟩, L, r1, r2, r3, ldcAgain (s := s) (vm0 := s.vm) X hx hZ hown w L (g := mkF m pc Ls S) rfl hd⟩
theorem own_again (X : Stand p l e R s m args below meth c T locs cells slots) (hx : p.tables.exec = Jvm.exec) (hZ : Z.Warmed39 s.vm) (hown : s.vm.findClass "java/lang/String" = some m.cls) (w : (Jvm.Cond.stringLink "java/lang/String" 7 "").before a0 Z = true) (L : Lit (Z.setVm s.vm) "java/lang/String" 7 z)
    {pc : Nat} {Ls : Array Slot} {S : List Value} (hd : decode c.code pc = .ok (.ldc 7, 2)) : ∀ t, Steps p.tables e below (T.setTop (mkF m (pc + 2) Ls (.ref z :: S))) t → Steps p.tables e below (T.setTop (mkF m pc Ls S)) t :=
  ldcAgain (s := s) (vm0 := s.vm) X hx hZ hown w L (g := mkF m pc Ls S) rfl hd
end Lit0
theorem own_hK {hz h0 hI h : Heap} (hK : Keep hz h0 []) (eI : hI = h0) (K : Keep hI h []) : Keep hz h [] := by subst eI; exact hK.trans K (by simp)
theorem own_c8 (x : Int32) : ¬ (255 : Int32) < (x &&& (255 : Int32)).toUInt32.toUInt16.toUInt32.toInt32 := by
  have e8 : ((2 ^ 8 : Nat) : Int) = 256 := rfl
  have a := c_mask x 255 8 (by decide) (by decide); have b := c_i2c (x &&& (255 : Int32))
  rw [e8] at a
  rw [Int32.lt_iff_toInt_lt]; simp only [Int32.reduceToInt]; omega
theorem own_wS {a0 : Array Value} {Z : State} (hw : ∀ d ∈ tables_1, d.before a0 Z = true) : ∀ a ∈ Bundle.stringAtoms, a.before a0 Z = true := by
  intro a ha
  simp only [Bundle.stringAtoms, List.mem_cons, List.not_mem_nil, or_false] at ha
  rcases ha with rfl | rfl | rfl | rfl | rfl | rfl | rfl
  · exact (hw _ (List.mem_of_getElem? (i := 6) rfl))
  · exact (hw _ (List.mem_of_getElem? (i := 5) rfl))
  · exact (hw _ (List.mem_of_getElem? (i := 19) rfl))
  · exact (hw _ (List.mem_of_getElem? (i := 20) rfl))
  · exact (hw _ (List.mem_of_getElem? (i := 21) rfl))
  · exact (hw _ (List.mem_of_getElem? (i := 22) rfl))
  · exact (hw _ (List.mem_of_getElem? (i := 23) rfl))
theorem ef_rm15 (m : MethodId) (x0 : Addr) (x1 : Int32) (x2 : Addr) (x3 : Int32) (x4 : Int32) : entryFrame m #[(.ref x0), (.int x1), (.ref x2), (.int x3), (.int x4)] 7 = mkF m 0 #[.val (.ref x0), .val (.int x1), .val (.ref x2), .val (.int x3), .val (.int x4), .unset, .unset] [] := by first | (simp [entryFrame, mkF, argsToLocals, Value.category]; done) | rfl
theorem pn_0 : plainName "java/lang/StringUTF16" = true := by first | (simp [plainName, overriddenIn]; done) | decide +kernel
theorem d15_0 : decode jdk_52_method_21_code 0 = .ok (.iconst 0, 1) := by decide +kernel
theorem d15_1 : decode jdk_52_method_21_code 1 = .ok (.istore 5, 2) := by decide +kernel
theorem d15_3 : decode jdk_52_method_21_code 3 = .ok (.iload 5, 2) := by decide +kernel
theorem d15_5 : decode jdk_52_method_21_code 5 = .ok (.iload 4, 2) := by decide +kernel
theorem d15_7 : decode jdk_52_method_21_code 7 = .ok (.if_icmp .ge 37, 3) := by decide +kernel
theorem d15_10 : decode jdk_52_method_21_code 10 = .ok (.aload_n 0, 1) := by decide +kernel
theorem d15_11 : decode jdk_52_method_21_code 11 = .ok (.iload_n 1, 1) := by decide +kernel
theorem d15_12 : decode jdk_52_method_21_code 12 = .ok (.caload, 1) := by decide +kernel
theorem d15_13 : decode jdk_52_method_21_code 13 = .ok (.istore 6, 2) := by decide +kernel
theorem d15_15 : decode jdk_52_method_21_code 15 = .ok (.iload 6, 2) := by decide +kernel
theorem d15_17 : decode jdk_52_method_21_code 17 = .ok (.sipush 255, 3) := by decide +kernel
theorem d15_20 : decode jdk_52_method_21_code 20 = .ok (.if_icmp .le 6, 3) := by decide +kernel
theorem d15_26 : decode jdk_52_method_21_code 26 = .ok (.aload_n 2, 1) := by decide +kernel
theorem d15_27 : decode jdk_52_method_21_code 27 = .ok (.iload_n 3, 1) := by decide +kernel
theorem d15_28 : decode jdk_52_method_21_code 28 = .ok (.iload 6, 2) := by decide +kernel
theorem d15_30 : decode jdk_52_method_21_code 30 = .ok (.i2b, 1) := by decide +kernel
theorem d15_31 : decode jdk_52_method_21_code 31 = .ok (.bastore, 1) := by decide +kernel
theorem d15_32 : decode jdk_52_method_21_code 32 = .ok (.iinc 1 1, 3) := by decide +kernel
theorem d15_35 : decode jdk_52_method_21_code 35 = .ok (.iinc 3 1, 3) := by decide +kernel
theorem d15_38 : decode jdk_52_method_21_code 38 = .ok (.iinc 5 1, 3) := by decide +kernel
theorem d15_41 : decode jdk_52_method_21_code 41 = .ok (.goto (-38), 3) := by decide +kernel
theorem d15_44 : decode jdk_52_method_21_code 44 = .ok (.iload 4, 2) := by decide +kernel
theorem d15_46 : decode jdk_52_method_21_code 46 = .ok (.ireturn, 1) := by decide +kernel
set_option maxRecDepth 65536 in
set_option maxHeartbeats 40000000 in
theorem rm15 (l : Launch) (Z : State) (a0 : Array Value) (hw : ∀ d ∈ tables_1, d.before a0 Z = true) (ws : List Jvm.Cond) (k d : Addr) (ca cb : Int32) (h0 : Heap) (n0 : Nat) (Z0 : n0 ≤ h0.size) (hLa : ¬ (255 : Int32) < ca) (hLb : ¬ (255 : Int32) < cb) (V_k : AV Z h0 k .char 2 (lst [(.int ca), (.int cb)])) (V_d : AV Z h0 d .byte 2 (lst [(.int (0 : Int32)), (.int (0 : Int32))])) (ne_k_d : k ≠ d) (g_d : n0 ≤ d) :
    Ctr l Z (⟨"java/lang/StringUTF16", "compress", "([CI[BII)I"⟩ : MethodName) jdk_52_method_21_code 7 (some .int) ws ({ frames := 0, cells := 0, slots := 0, locals := 0 } : Room) 0 0 #[(.ref k), (.int (0 : Int32)), (.ref d), (.int (0 : Int32)), (.int (2 : Int32))] h0 (fun v h L => v = some (.int (2 : Int32)) ∧ Fr n0 L ∧ Keep h0 h [d] ∧ AV Z h d .byte 2 (lst [(.int (ca.toInt8.toInt32)), (.int (cb.toInt8.toInt32))])) := by
  refine Ctr.mk (plainFor_of_name pn_0) fun p e s m below meth c T0 X0 C e0 => go_cast (ef_rm15 m k (0 : Int32) d (0 : Int32) (2 : Int32)) ?_
  have N0 := Fr.nil n0
  obtain ⟨hx, hZ, hby, hml, hown, hnm, hret, hlk⟩ := C
  obtain ⟨hI, eI⟩ : ∃ z, z = h0 := ⟨_, rfl⟩
  have K0 : Keep hI h0 [d] := by rw [eI]; exact Keep.refl _ _
  show Go _ _ _ _ _ _ _ T0 (mkF m 0 #[.val (.ref k), .val (.int (0 : Int32)), .val (.ref d), .val (.int (0 : Int32)), .val (.int (2 : Int32)), .unset, .unset] [])
  refine Go.step (fun tt kk => XS.iconst X0.here hx rfl (hb hby d15_0) kk) ?_
  show Go _ _ _ _ _ _ _ T0 (mkF m 1 _ [(.int (0 : Int32))])
  refine Go.step (fun tt kk => XS.istore X0.here hx rfl (hb hby d15_1) rfl (l' := #[.val (.ref k), .val (.int (0 : Int32)), .val (.ref d), .val (.int (0 : Int32)), .val (.int (2 : Int32)), .val (.int (0 : Int32)), .unset]) rfl kk) ?_
  show Go _ _ _ _ _ _ _ T0 (mkF m 3 _ [])
  refine Go.step (fun tt kk => XS.iload X0.here hx rfl (hb hby d15_3) rfl kk) ?_
  show Go _ _ _ _ _ _ _ T0 (mkF m 5 _ [(.int (0 : Int32))])
  refine Go.step (fun tt kk => XS.iload X0.here hx rfl (hb hby d15_5) rfl kk) ?_
  show Go _ _ _ _ _ _ _ T0 (mkF m 7 _ [(.int (2 : Int32)), (.int (0 : Int32))])
  refine Go.step (fun tt kk => XS.icmpNo X0.here hx rfl (hb hby d15_7) rfl (tlt (by decide)).2.1 kk) ?_
  show Go _ _ _ _ _ _ _ T0 (mkF m 10 _ [])
  refine Go.step (fun tt kk => XS.aloadN X0.here hx rfl (hb hby d15_10) rfl rfl kk) ?_
  show Go _ _ _ _ _ _ _ T0 (mkF m 11 _ [(.ref k)])
  refine Go.step (fun tt kk => XS.iloadN X0.here hx rfl (hb hby d15_11) rfl kk) ?_
  show Go _ _ _ _ _ _ _ T0 (mkF m 12 _ [(.int (0 : Int32)), (.ref k)])
  refine Go.step (a_cload X0 hx hZ e0 V_k (k := 0) (by decide) (by decide) (x := ca) rfl (hb hby d15_12)) ?_
  show Go _ _ _ _ _ _ _ T0 (mkF m 13 _ [(.int ca)])
  refine Go.step (fun tt kk => XS.istore X0.here hx rfl (hb hby d15_13) rfl (l' := #[.val (.ref k), .val (.int (0 : Int32)), .val (.ref d), .val (.int (0 : Int32)), .val (.int (2 : Int32)), .val (.int (0 : Int32)), .val (.int ca)]) rfl kk) ?_
  show Go _ _ _ _ _ _ _ T0 (mkF m 15 _ [])
  refine Go.step (fun tt kk => XS.iload X0.here hx rfl (hb hby d15_15) rfl kk) ?_
  show Go _ _ _ _ _ _ _ T0 (mkF m 17 _ [(.int ca)])
  refine Go.step (fun tt kk => XS.sipush X0.here hx rfl (hb hby d15_17) kk) ?_
  show Go _ _ _ _ _ _ _ T0 (mkF m 20 _ [(.int (255 : Int32)), (.int ca)])
  refine Go.step (fun tt kk => XS.icmpYes X0.here hx rfl (pc0 := 20) (pc' := 26) rfl (hb hby d15_20) rfl (flt hLa).2.2.2 (by decide) (by decide) kk) ?_
  show Go _ _ _ _ _ _ _ T0 (mkF m 26 _ [])
  refine Go.step (fun tt kk => XS.aloadN X0.here hx rfl (hb hby d15_26) rfl rfl kk) ?_
  show Go _ _ _ _ _ _ _ T0 (mkF m 27 _ [(.ref d)])
  refine Go.step (fun tt kk => XS.iloadN X0.here hx rfl (hb hby d15_27) rfl kk) ?_
  show Go _ _ _ _ _ _ _ T0 (mkF m 28 _ [(.int (0 : Int32)), (.ref d)])
  refine Go.step (fun tt kk => XS.iload X0.here hx rfl (hb hby d15_28) rfl kk) ?_
  show Go _ _ _ _ _ _ _ T0 (mkF m 30 _ [(.int ca), (.int (0 : Int32)), (.ref d)])
  refine Go.step (fun tt kk => XS.i2b X0.here hx rfl (hb hby d15_30) rfl kk) ?_
  show Go _ _ _ _ _ _ _ T0 (mkF m 31 _ [(.int (ca.toInt8.toInt32)), (.int (0 : Int32)), (.ref d)])
  obtain ⟨cl1, Ar1, hin1, -⟩ := V_d.at (j := (0 : Int32)) (k := 0) (by decide) (by decide)
  obtain ⟨T1, h1, X1, e1, W1, st1⟩ := stB X0 hx hZ e0 Ar1 (j := (0 : Int32)) hin1 (g := (mkF m 31 #[.val (.ref k), .val (.int (0 : Int32)), .val (.ref d), .val (.int (0 : Int32)), .val (.int (2 : Int32)), .val (.int (0 : Int32)), .val (.int ca)] [(.int (ca.toInt8.toInt32)), (.int (0 : Int32)), (.ref d)])) rfl rfl (hb hby d15_31)
  rw [(own_nb _)] at W1
  have V1 : AV Z h1 d .byte 2 (lst [(.int (ca.toInt8.toInt32)), (.int (0 : Int32))]) := AV.setL V_d (k := 0) (by decide) (by decide) W1 (Nat.le_of_ble_eq_true rfl) rfl
  have N1 := Fr.snoc X1 N0 g_d
  have Z1 : n0 ≤ h1.size := Nat.le_trans Z0 (Keep.of_wr W1).1
  have K1 : Keep hI h1 [d] := K0.wr W1 (Or.inl (List.mem_of_getElem? (i := 0) rfl))
  refine Go.step (st1) ?_
  show Go _ _ _ _ _ _ _ T1 (mkF m 32 _ [])
  refine Go.step (fun tt kk => XS.iinc X1.here hx rfl (hb hby d15_32) rfl (l' := #[.val (.ref k), .val (.int (1 : Int32)), .val (.ref d), .val (.int (0 : Int32)), .val (.int (2 : Int32)), .val (.int (0 : Int32)), .val (.int ca)]) rfl kk) ?_
  show Go _ _ _ _ _ _ _ T1 (mkF m 35 _ [])
  refine Go.step (fun tt kk => XS.iinc X1.here hx rfl (hb hby d15_35) rfl (l' := #[.val (.ref k), .val (.int (1 : Int32)), .val (.ref d), .val (.int (1 : Int32)), .val (.int (2 : Int32)), .val (.int (0 : Int32)), .val (.int ca)]) rfl kk) ?_
  show Go _ _ _ _ _ _ _ T1 (mkF m 38 _ [])
  refine Go.step (fun tt kk => XS.iinc X1.here hx rfl (hb hby d15_38) rfl (l' := #[.val (.ref k), .val (.int (1 : Int32)), .val (.ref d), .val (.int (1 : Int32)), .val (.int (2 : Int32)), .val (.int (1 : Int32)), .val (.int ca)]) rfl kk) ?_
  show Go _ _ _ _ _ _ _ T1 (mkF m 41 _ [])
  refine Go.step (fun tt kk => XS.goto X1.here hx rfl (pc0 := 41) (pc' := 3) rfl (hb hby d15_41) (by decide) (by decide) kk) ?_
  show Go _ _ _ _ _ _ _ T1 (mkF m 3 _ [])
  refine Go.step (fun tt kk => XS.iload X1.here hx rfl (hb hby d15_3) rfl kk) ?_
  show Go _ _ _ _ _ _ _ T1 (mkF m 5 _ [(.int (1 : Int32))])
  refine Go.step (fun tt kk => XS.iload X1.here hx rfl (hb hby d15_5) rfl kk) ?_
  show Go _ _ _ _ _ _ _ T1 (mkF m 7 _ [(.int (2 : Int32)), (.int (1 : Int32))])
  refine Go.step (fun tt kk => XS.icmpNo X1.here hx rfl (hb hby d15_7) rfl (tlt (by decide)).2.1 kk) ?_
  show Go _ _ _ _ _ _ _ T1 (mkF m 10 _ [])
  refine Go.step (fun tt kk => XS.aloadN X1.here hx rfl (hb hby d15_10) rfl rfl kk) ?_
  show Go _ _ _ _ _ _ _ T1 (mkF m 11 _ [(.ref k)])
  refine Go.step (fun tt kk => XS.iloadN X1.here hx rfl (hb hby d15_11) rfl kk) ?_
  show Go _ _ _ _ _ _ _ T1 (mkF m 12 _ [(.int (1 : Int32)), (.ref k)])
  have f2 := (V_k.other W1 ne_k_d)
  refine Go.step (a_cload X1 hx hZ e1 f2 (k := 1) (by decide) (by decide) (x := cb) rfl (hb hby d15_12)) ?_
  show Go _ _ _ _ _ _ _ T1 (mkF m 13 _ [(.int cb)])
  refine Go.step (fun tt kk => XS.istore X1.here hx rfl (hb hby d15_13) rfl (l' := #[.val (.ref k), .val (.int (1 : Int32)), .val (.ref d), .val (.int (1 : Int32)), .val (.int (2 : Int32)), .val (.int (1 : Int32)), .val (.int cb)]) rfl kk) ?_
  show Go _ _ _ _ _ _ _ T1 (mkF m 15 _ [])
  refine Go.step (fun tt kk => XS.iload X1.here hx rfl (hb hby d15_15) rfl kk) ?_
  show Go _ _ _ _ _ _ _ T1 (mkF m 17 _ [(.int cb)])
  refine Go.step (fun tt kk => XS.sipush X1.here hx rfl (hb hby d15_17) kk) ?_
  show Go _ _ _ _ _ _ _ T1 (mkF m 20 _ [(.int (255 : Int32)), (.int cb)])
  refine Go.step (fun tt kk => XS.icmpYes X1.here hx rfl (pc0 := 20) (pc' := 26) rfl (hb hby d15_20) rfl (flt hLb).2.2.2 (by decide) (by decide) kk) ?_
  show Go _ _ _ _ _ _ _ T1 (mkF m 26 _ [])
  refine Go.step (fun tt kk => XS.aloadN X1.here hx rfl (hb hby d15_26) rfl rfl kk) ?_
  show Go _ _ _ _ _ _ _ T1 (mkF m 27 _ [(.ref d)])
  refine Go.step (fun tt kk => XS.iloadN X1.here hx rfl (hb hby d15_27) rfl kk) ?_
  show Go _ _ _ _ _ _ _ T1 (mkF m 28 _ [(.int (1 : Int32)), (.ref d)])
  refine Go.step (fun tt kk => XS.iload X1.here hx rfl (hb hby d15_28) rfl kk) ?_
  show Go _ _ _ _ _ _ _ T1 (mkF m 30 _ [(.int cb), (.int (1 : Int32)), (.ref d)])
  refine Go.step (fun tt kk => XS.i2b X1.here hx rfl (hb hby d15_30) rfl kk) ?_
  show Go _ _ _ _ _ _ _ T1 (mkF m 31 _ [(.int (cb.toInt8.toInt32)), (.int (1 : Int32)), (.ref d)])
  obtain ⟨cl3, Ar3, hin3, -⟩ := V1.at (j := (1 : Int32)) (k := 1) (by decide) (by decide)
  obtain ⟨T3, h3, X3, e3, W3, st3⟩ := stB X1 hx hZ e1 Ar3 (j := (1 : Int32)) hin3 (g := (mkF m 31 #[.val (.ref k), .val (.int (1 : Int32)), .val (.ref d), .val (.int (1 : Int32)), .val (.int (2 : Int32)), .val (.int (1 : Int32)), .val (.int cb)] [(.int (cb.toInt8.toInt32)), (.int (1 : Int32)), (.ref d)])) rfl rfl (hb hby d15_31)
  rw [(own_nb _)] at W3
  have V3 : AV Z h3 d .byte 2 (lst [(.int (ca.toInt8.toInt32)), (.int (cb.toInt8.toInt32))]) := AV.setL V1 (k := 1) (by decide) (by decide) W3 (Nat.le_of_ble_eq_true rfl) rfl
  have N3 := Fr.snoc X3 N1 g_d
  have Z3 : n0 ≤ h3.size := Nat.le_trans Z1 (Keep.of_wr W3).1
  have K3 : Keep hI h3 [d] := K1.wr W3 (Or.inl (List.mem_of_getElem? (i := 0) rfl))
  refine Go.step (st3) ?_
  show Go _ _ _ _ _ _ _ T3 (mkF m 32 _ [])
  refine Go.step (fun tt kk => XS.iinc X3.here hx rfl (hb hby d15_32) rfl (l' := #[.val (.ref k), .val (.int (2 : Int32)), .val (.ref d), .val (.int (1 : Int32)), .val (.int (2 : Int32)), .val (.int (1 : Int32)), .val (.int cb)]) rfl kk) ?_
  show Go _ _ _ _ _ _ _ T3 (mkF m 35 _ [])
  refine Go.step (fun tt kk => XS.iinc X3.here hx rfl (hb hby d15_35) rfl (l' := #[.val (.ref k), .val (.int (2 : Int32)), .val (.ref d), .val (.int (2 : Int32)), .val (.int (2 : Int32)), .val (.int (1 : Int32)), .val (.int cb)]) rfl kk) ?_
  show Go _ _ _ _ _ _ _ T3 (mkF m 38 _ [])
  refine Go.step (fun tt kk => XS.iinc X3.here hx rfl (hb hby d15_38) rfl (l' := #[.val (.ref k), .val (.int (2 : Int32)), .val (.ref d), .val (.int (2 : Int32)), .val (.int (2 : Int32)), .val (.int (2 : Int32)), .val (.int cb)]) rfl kk) ?_
  show Go _ _ _ _ _ _ _ T3 (mkF m 41 _ [])
  refine Go.step (fun tt kk => XS.goto X3.here hx rfl (pc0 := 41) (pc' := 3) rfl (hb hby d15_41) (by decide) (by decide) kk) ?_
  show Go _ _ _ _ _ _ _ T3 (mkF m 3 _ [])
  refine Go.step (fun tt kk => XS.iload X3.here hx rfl (hb hby d15_3) rfl kk) ?_
  show Go _ _ _ _ _ _ _ T3 (mkF m 5 _ [(.int (2 : Int32))])
  refine Go.step (fun tt kk => XS.iload X3.here hx rfl (hb hby d15_5) rfl kk) ?_
  show Go _ _ _ _ _ _ _ T3 (mkF m 7 _ [(.int (2 : Int32)), (.int (2 : Int32))])
  refine Go.step (fun tt kk => XS.icmpYes X3.here hx rfl (pc0 := 7) (pc' := 44) rfl (hb hby d15_7) rfl (flt (by decide)).2.1 (by decide) (by decide) kk) ?_
  show Go _ _ _ _ _ _ _ T3 (mkF m 44 _ [])
  refine Go.step (fun tt kk => XS.iload X3.here hx rfl (hb hby d15_44) rfl kk) ?_
  show Go _ _ _ _ _ _ _ T3 (mkF m 46 _ [(.int (2 : Int32))])
  refine go_retI X3 hx hret hlk (hb hby d15_46) ?_ (by decide) (by decide)
  try rw [e3]
  exact ⟨rfl, N3, eI ▸ K3, V3⟩
theorem ef_rm14 (m : MethodId) (x0 : Addr) (x1 : Int32) (x2 : Int32) : entryFrame m #[(.ref x0), (.int x1), (.int x2)] 6 = mkF m 0 #[.val (.ref x0), .val (.int x1), .val (.int x2), .unset, .unset, .unset] [] := by first | (simp [entryFrame, mkF, argsToLocals, Value.category]; done) | rfl
theorem d14_0 : decode jdk_52_method_16_code 0 = .ok (.iload_n 2, 1) := by decide +kernel
theorem d14_1 : decode jdk_52_method_16_code 1 = .ok (.newarray .byte, 2) := by decide +kernel
theorem d14_3 : decode jdk_52_method_16_code 3 = .ok (.astore_n 3, 1) := by decide +kernel
theorem d14_4 : decode jdk_52_method_16_code 4 = .ok (.aload_n 0, 1) := by decide +kernel
theorem d14_5 : decode jdk_52_method_16_code 5 = .ok (.iload_n 1, 1) := by decide +kernel
theorem d14_6 : decode jdk_52_method_16_code 6 = .ok (.aload_n 3, 1) := by decide +kernel
theorem d14_7 : decode jdk_52_method_16_code 7 = .ok (.iconst 0, 1) := by decide +kernel
theorem d14_8 : decode jdk_52_method_16_code 8 = .ok (.iload_n 2, 1) := by decide +kernel
theorem pd_0 : parseMethodDescriptor "([CI[BII)I" = some ⟨[(.array .char), .int, (.array .byte), .int, .int], some .int⟩ := by decide +kernel
theorem d14_9 : decode jdk_52_method_16_code 9 = .ok (.invokestatic 115, 3) := by decide +kernel
theorem d14_12 : decode jdk_52_method_16_code 12 = .ok (.istore 4, 2) := by decide +kernel
theorem d14_14 : decode jdk_52_method_16_code 14 = .ok (.iload 4, 2) := by decide +kernel
theorem d14_16 : decode jdk_52_method_16_code 16 = .ok (.iload_n 2, 1) := by decide +kernel
theorem d14_17 : decode jdk_52_method_16_code 17 = .ok (.if_icmp .eq 40, 3) := by decide +kernel
theorem d14_57 : decode jdk_52_method_16_code 57 = .ok (.aload_n 3, 1) := by decide +kernel
theorem d14_58 : decode jdk_52_method_16_code 58 = .ok (.areturn, 1) := by decide +kernel
set_option maxRecDepth 65536 in
set_option maxHeartbeats 40000000 in
theorem rm14 (l : Launch) (Z : State) (a0 : Array Value) (hw : ∀ d ∈ tables_1, d.before a0 Z = true) (ws : List Jvm.Cond) (k : Addr) (ca cb : Int32) (h0 : Heap) (n0 : Nat) (Z0 : n0 ≤ h0.size) (hLa : ¬ (255 : Int32) < ca) (hLb : ¬ (255 : Int32) < cb) (V_k : AV Z h0 k .char 2 (lst [(.int ca), (.int cb)])) :
    Ctr l Z (⟨"java/lang/StringUTF16", "compress", "([CII)[B"⟩ : MethodName) jdk_52_method_16_code 6 (some (.array .byte)) ws ({ frames := 1, cells := 1, slots := 2, locals := 18 } : Room) 1 2 #[(.ref k), (.int (0 : Int32)), (.int (2 : Int32))] h0 (fun v h L => ∃ b, v = some (.ref b) ∧ Fr n0 L ∧ Keep h0 h [] ∧ h0.size ≤ b ∧ AV Z h b .byte 2 (lst [(.int (ca.toInt8.toInt32)), (.int (cb.toInt8.toInt32))])) := by
  refine Ctr.mk (plainFor_of_name pn_0) fun p e s m below meth c T0 X0 C e0 => go_cast (ef_rm14 m k (0 : Int32) (2 : Int32)) ?_
  have N0 := Fr.nil n0
  obtain ⟨hx, hZ, hby, hml, hown, hnm, hret, hlk⟩ := C
  obtain ⟨hI, eI⟩ : ∃ z, z = h0 := ⟨_, rfl⟩
  have K0 : Keep hI h0 [] := by rw [eI]; exact Keep.refl _ _
  show Go _ _ _ _ _ _ _ T0 (mkF m 0 #[.val (.ref k), .val (.int (0 : Int32)), .val (.int (2 : Int32)), .unset, .unset, .unset] [])
  refine Go.step (fun tt kk => XS.iloadN X0.here hx rfl (hb hby d14_0) rfl kk) ?_
  show Go _ _ _ _ _ _ _ T0 (mkF m 1 _ [(.int (2 : Int32))])
  obtain ⟨T1, h1, k1, X1, e1, E1, A1, EA1, st1⟩ := newPE X0 hx hZ (hw _ (List.mem_of_getElem? (i := 19) rfl)) e0 (g := (mkF m 1 #[.val (.ref k), .val (.int (0 : Int32)), .val (.int (2 : Int32)), .unset, .unset, .unset] [(.int (2 : Int32))])) rfl (hb hby d14_1) rfl (by decide) (cap := 2) (by decide) (by decide) (by decide) (by decide) (ad := "[B") rfl
  obtain ⟨b1, g1⟩ : ∃ z, z = h0.size := ⟨_, rfl⟩
  rw [← g1] at A1 EA1 st1
  have ne_k_b1 : k ≠ b1 := Nat.ne_of_lt (Nat.lt_of_lt_of_le V_k.lt (Nat.le_of_eq g1.symm))
  have gn_b1 : n0 ≤ b1 := Nat.le_trans Z0 (Nat.le_of_eq g1.symm)
  have sz_b1 : hI.size ≤ b1 := Nat.le_trans K0.1 (Nat.le_of_eq g1.symm)
  have Z1 : n0 ≤ h1.size := Nat.le_trans Z0 E1.1
  have K1 : Keep hI h1 [] := K0.ext E1
  have V1 : AV Z h1 b1 .byte 2 (lst [(.int (0 : Int32)), (.int (0 : Int32))]) := AV.newL (AV.new A1 (by decide)) rfl
  refine Go.step (st1) ?_
  show Go _ _ _ _ _ _ _ T1 (mkF m 3 _ [(.ref b1)])
  refine Go.step (fun tt kk => XS.astoreN X1.here hx rfl (hb hby d14_3) rfl rfl (l' := #[.val (.ref k), .val (.int (0 : Int32)), .val (.int (2 : Int32)), .val (.ref b1), .unset, .unset]) rfl kk) ?_
  show Go _ _ _ _ _ _ _ T1 (mkF m 4 _ [])
  refine Go.step (fun tt kk => XS.aloadN X1.here hx rfl (hb hby d14_4) rfl rfl kk) ?_
  show Go _ _ _ _ _ _ _ T1 (mkF m 5 _ [(.ref k)])
  refine Go.step (fun tt kk => XS.iloadN X1.here hx rfl (hb hby d14_5) rfl kk) ?_
  show Go _ _ _ _ _ _ _ T1 (mkF m 6 _ [(.int (0 : Int32)), (.ref k)])
  refine Go.step (fun tt kk => XS.aloadN X1.here hx rfl (hb hby d14_6) rfl rfl kk) ?_
  show Go _ _ _ _ _ _ _ T1 (mkF m 7 _ [(.ref b1), (.int (0 : Int32)), (.ref k)])
  refine Go.step (fun tt kk => XS.iconst X1.here hx rfl (hb hby d14_7) kk) ?_
  show Go _ _ _ _ _ _ _ T1 (mkF m 8 _ [(.int (0 : Int32)), (.ref b1), (.int (0 : Int32)), (.ref k)])
  refine Go.step (fun tt kk => XS.iloadN X1.here hx rfl (hb hby d14_8) rfl kk) ?_
  show Go _ _ _ _ _ _ _ T1 (mkF m 9 _ [(.int (2 : Int32)), (.int (0 : Int32)), (.ref b1), (.int (0 : Int32)), (.ref k)])
  have f3 := (V_k.ext E1)
  obtain ⟨v2, T2, L2, X2, q2, st2⟩ := c_static X1 hx hZ hown (y := (⟨"java/lang/StringUTF16", "compress", "([CI[BII)I"⟩ : MethodName)) (hw _ (List.mem_of_getElem? (i := 83) rfl)) (hw _ (List.mem_of_getElem? (i := 84) rfl)) (hw _ (List.mem_of_getElem? (i := 81) rfl)) (hw _ (List.mem_of_getElem? (i := 85) rfl)) (by decide) (argsL := [(.ref k), (.int (0 : Int32)), (.ref b1), (.int (0 : Int32)), (.int (2 : Int32))]) (rest := []) (rm15 l Z a0 hw [] k b1 ca cb h1 n0 Z1 hLa hLb f3 V1 ne_k_b1 gn_b1) e1 pd_0 rfl (by rw [hml]; rfl) (W := 0) (by show 2 * 0 + _ ≤ _; exact Nat.le_of_eq rfl) (by decide) (by decide) (by decide) (by decide) (hb hby d14_9) (Ls := #[.val (.ref k), .val (.int (0 : Int32)), .val (.int (2 : Int32)), .val (.ref b1), .unset, .unset])
  generalize e2 : T2.heap = h2 at q2
  obtain ⟨rfl, N2q, K2q, V2q⟩ := q2
  have N2 := Fr.app N0 N2q
  have Z2 : n0 ≤ h2.size := Nat.le_trans Z1 K2q.1
  have K2 : Keep hI h2 [] := K1.trans K2q (allS (Or.inr sz_b1) all0)
  refine Go.step (st2) ?_
  show Go _ _ _ _ _ _ _ T2 (mkF m 12 _ [(.int (2 : Int32))])
  refine Go.step (fun tt kk => XS.istore X2.here hx rfl (hb hby d14_12) rfl (l' := #[.val (.ref k), .val (.int (0 : Int32)), .val (.int (2 : Int32)), .val (.ref b1), .val (.int (2 : Int32)), .unset]) rfl kk) ?_
  show Go _ _ _ _ _ _ _ T2 (mkF m 14 _ [])
  refine Go.step (fun tt kk => XS.iload X2.here hx rfl (hb hby d14_14) rfl kk) ?_
  show Go _ _ _ _ _ _ _ T2 (mkF m 16 _ [(.int (2 : Int32))])
  refine Go.step (fun tt kk => XS.iloadN X2.here hx rfl (hb hby d14_16) rfl kk) ?_
  show Go _ _ _ _ _ _ _ T2 (mkF m 17 _ [(.int (2 : Int32)), (.int (2 : Int32))])
  refine Go.step (fun tt kk => XS.icmpYes X2.here hx rfl (pc0 := 17) (pc' := 57) rfl (hb hby d14_17) rfl (teq (by decide)).1 (by decide) (by decide) kk) ?_
  show Go _ _ _ _ _ _ _ T2 (mkF m 57 _ [])
  refine Go.step (fun tt kk => XS.aloadN X2.here hx rfl (hb hby d14_57) rfl rfl kk) ?_
  show Go _ _ _ _ _ _ _ T2 (mkF m 58 _ [(.ref b1)])
  refine go_retA X2 hx (t := (.array .byte)) hret rfl hlk rfl (hb hby d14_58) ?_ (by decide) (by decide)
  try rw [e2]
  exact ⟨b1, rfl, N2, eI ▸ K2, eI ▸ sz_b1, V2q⟩
theorem ef_rm16 (m : MethodId) (x0 : Addr) (x1 : Int32) : entryFrame m #[(.ref x0), (.int x1)] 2 = mkF m 0 #[.val (.ref x0), .val (.int x1)] [] := by first | (simp [entryFrame, mkF, argsToLocals, Value.category]; done) | rfl
theorem d16_0 : decode jdk_52_method_15_code 0 = .ok (.iload_n 1, 1) := by decide +kernel
theorem d16_1 : decode jdk_52_method_15_code 1 = .ok (.aload_n 0, 1) := by decide +kernel
theorem d16_2 : decode jdk_52_method_15_code 2 = .ok (.arraylength, 1) := by decide +kernel
theorem d16_3 : decode jdk_52_method_15_code 3 = .ok (.isub, 1) := by decide +kernel
theorem d16_4 : decode jdk_52_method_15_code 4 = .ok (.bipush 31, 2) := by decide +kernel
theorem d16_6 : decode jdk_52_method_15_code 6 = .ok (.iushr, 1) := by decide +kernel
theorem d16_7 : decode jdk_52_method_15_code 7 = .ok (.i2b, 1) := by decide +kernel
theorem d16_8 : decode jdk_52_method_15_code 8 = .ok (.ireturn, 1) := by decide +kernel
set_option maxRecDepth 65536 in
set_option maxHeartbeats 40000000 in
theorem rm16 (l : Launch) (Z : State) (a0 : Array Value) (hw : ∀ d ∈ tables_1, d.before a0 Z = true) (ws : List Jvm.Cond) (d : Addr) (ca cb : Int32) (h0 : Heap) (n0 : Nat) (Z0 : n0 ≤ h0.size) (V_d : AV Z h0 d .byte 2 (lst [(.int (ca.toInt8.toInt32)), (.int (cb.toInt8.toInt32))])) :
    Ctr l Z (⟨"java/lang/StringUTF16", "coderFromArrayLen", "([BI)B"⟩ : MethodName) jdk_52_method_15_code 2 (some .byte) ws ({ frames := 0, cells := 0, slots := 0, locals := 0 } : Room) 0 0 #[(.ref d), (.int (2 : Int32))] h0 (fun v h L => v = some (.int (0 : Int32)) ∧ L = [] ∧ h = h0) := by
  refine Ctr.mk (plainFor_of_name pn_0) fun p e s m below meth c T0 X0 C e0 => go_cast (ef_rm16 m d (2 : Int32)) ?_
  have N0 := Fr.nil n0
  obtain ⟨hx, hZ, hby, hml, hown, hnm, hret, hlk⟩ := C
  show Go _ _ _ _ _ _ _ T0 (mkF m 0 #[.val (.ref d), .val (.int (2 : Int32))] [])
  refine Go.step (fun tt kk => XS.iloadN X0.here hx rfl (hb hby d16_0) rfl kk) ?_
  show Go _ _ _ _ _ _ _ T0 (mkF m 1 _ [(.int (2 : Int32))])
  refine Go.step (fun tt kk => XS.aloadN X0.here hx rfl (hb hby d16_1) rfl rfl kk) ?_
  show Go _ _ _ _ _ _ _ T0 (mkF m 2 _ [(.ref d), (.int (2 : Int32))])
  refine Go.step (a_len X0 hx hZ e0 V_d (z := (2 : Int32)) (by decide) (hb hby d16_2)) ?_
  show Go _ _ _ _ _ _ _ T0 (mkF m 3 _ [(.int (2 : Int32)), (.int (2 : Int32))])
  refine Go.step (fun tt kk => XS.isub X0.here hx rfl (hb hby d16_3) rfl kk) ?_
  show Go _ _ _ _ _ _ _ T0 (mkF m 4 _ [(.int ((2 : Int32) - (2 : Int32)))])
  refine Go.step (fun tt kk => XS.bipush X0.here hx rfl (hb hby d16_4) kk) ?_
  show Go _ _ _ _ _ _ _ T0 (mkF m 6 _ [(.int (31 : Int32)), (.int ((2 : Int32) - (2 : Int32)))])
  refine Go.step (fun tt kk => XS.iushr X0.here hx rfl (hb hby d16_6) rfl kk) ?_
  show Go _ _ _ _ _ _ _ T0 (mkF m 7 _ [(.int ((((2 : Int32) - (2 : Int32)).toUInt32 >>> ((31 : Int32) &&& 31).toUInt32).toInt32))])
  refine Go.step (fun tt kk => XS.i2b X0.here hx rfl (hb hby d16_7) rfl kk) ?_
  show Go _ _ _ _ _ _ _ T0 (mkF m 8 _ [(.int (((((2 : Int32) - (2 : Int32)).toUInt32 >>> ((31 : Int32) &&& 31).toUInt32).toInt32).toInt8.toInt32))])
  refine go_retN X0 hx (t := .byte) hret (by simp) hlk (hb hby d16_8) (w := (0 : Int32)) (by decide) ?_ (by decide) (by decide)
  try rw [e0]
  exact ⟨rfl, rfl, rfl⟩
theorem ef_rm3N (m : MethodId) (x0 : Addr) (x1 : Addr) (x2 : Int32) (x3 : Int32) : entryFrame m #[(.ref x0), (.ref x1), (.int x2), (.int x3), .null] 6 = mkF m 0 #[.val (.ref x0), .val (.ref x1), .val (.int x2), .val (.int x3), .val .null, .unset] [] := by first | (simp [entryFrame, mkF, argsToLocals, Value.category]; done) | rfl
theorem pn_1 : plainName "java/lang/String" = true := by first | (simp [plainName, overriddenIn]; done) | decide +kernel
theorem d3_0 : decode jdk_42_method_149_code 0 = .ok (.aload_n 0, 1) := by decide +kernel
theorem d3_1 : decode jdk_42_method_149_code 1 = .ok (.invokespecial 1, 3) := by decide +kernel
theorem d3_4 : decode jdk_42_method_149_code 4 = .ok (.iload_n 3, 1) := by decide +kernel
theorem d3_5 : decode jdk_42_method_149_code 5 = .ok (.ifCond .ne 22, 3) := by decide +kernel
theorem d3_27 : decode jdk_42_method_149_code 27 = .ok (.getstatic 38, 3) := by decide +kernel
theorem d3_30 : decode jdk_42_method_149_code 30 = .ok (.ifCond .eq 28, 3) := by decide +kernel
theorem d3_33 : decode jdk_42_method_149_code 33 = .ok (.aload_n 1, 1) := by decide +kernel
theorem d3_34 : decode jdk_42_method_149_code 34 = .ok (.iload_n 2, 1) := by decide +kernel
theorem d3_35 : decode jdk_42_method_149_code 35 = .ok (.iload_n 3, 1) := by decide +kernel
theorem pd_1 : parseMethodDescriptor "([CII)[B" = some ⟨[(.array .char), .int, .int], some (.array .byte)⟩ := by decide +kernel
theorem d3_36 : decode jdk_42_method_149_code 36 = .ok (.invokestatic 177, 3) := by decide +kernel
theorem d3_39 : decode jdk_42_method_149_code 39 = .ok (.astore 5, 2) := by decide +kernel
theorem d3_41 : decode jdk_42_method_149_code 41 = .ok (.aload_n 0, 1) := by decide +kernel
theorem d3_42 : decode jdk_42_method_149_code 42 = .ok (.aload 5, 2) := by decide +kernel
theorem d3_44 : decode jdk_42_method_149_code 44 = .ok (.iload_n 3, 1) := by decide +kernel
theorem pd_2 : parseMethodDescriptor "([BI)B" = some ⟨[(.array .byte), .int], some .byte⟩ := by decide +kernel
theorem d3_45 : decode jdk_42_method_149_code 45 = .ok (.invokestatic 47, 3) := by decide +kernel
theorem d3_48 : decode jdk_42_method_149_code 48 = .ok (.putfield 15, 3) := by decide +kernel
theorem d3_51 : decode jdk_42_method_149_code 51 = .ok (.aload_n 0, 1) := by decide +kernel
theorem d3_52 : decode jdk_42_method_149_code 52 = .ok (.aload 5, 2) := by decide +kernel
theorem d3_54 : decode jdk_42_method_149_code 54 = .ok (.putfield 9, 3) := by decide +kernel
theorem d3_57 : decode jdk_42_method_149_code 57 = .ok (.return_, 1) := by decide +kernel
set_option maxRecDepth 65536 in
set_option maxHeartbeats 40000000 in
theorem rm3N (l : Launch) (Z : State) (a0 : Array Value) (hw : ∀ d ∈ tables_1, d.before a0 Z = true) (ws : List Jvm.Cond) (a k : Addr) (ca cb : Int32) (cs : Int32) (h0 : Heap) (n0 : Nat) (Z0 : n0 ≤ h0.size) (hLa : ¬ (255 : Int32) < ca) (hLb : ¬ (255 : Int32) < cb) (hcs : ¬ cs = (0 : Int32)) (S0 : Sta Z h0 "java/lang/String" "COMPACT_STRINGS" "Z" (.int cs)) (V_k : AV Z h0 k .char 2 (lst [(.int ca), (.int cb)])) (E_a : Exa Z h0 a "java/lang/String") (F_0 : Fld Z h0 a "java/lang/String" "coder" "B" (.int (0 : Int32))) (F_1 : Fld Z h0 a "java/lang/String" "value" "[B" .null) (g_a : n0 ≤ a) (ne_a_k : a ≠ k) :
    Ctr l Z (⟨"java/lang/String", "<init>", "([CIILjava/lang/Void;)V"⟩ : MethodName) jdk_42_method_149_code 6 none ws ({ frames := 2, cells := 1, slots := 2, locals := 35 } : Room) 1 2 #[(.ref a), (.ref k), (.int (0 : Int32)), (.int (2 : Int32)), .null] h0 (fun v h L => v = none ∧ Fr n0 L ∧ Keep h0 h [a]) := by
  refine Ctr.mk (plainFor_of_name pn_1) fun p e s m below meth c T0 X0 C e0 => go_cast (ef_rm3N m a k (0 : Int32) (2 : Int32)) ?_
  have N0 := Fr.nil n0
  obtain ⟨hx, hZ, hby, hml, hown, hnm, hret, hlk⟩ := C
  obtain ⟨hI, eI⟩ : ∃ z, z = h0 := ⟨_, rfl⟩
  have K0 : Keep hI h0 [a] := by rw [eI]; exact Keep.refl _ _
  show Go _ _ _ _ _ _ _ T0 (mkF m 0 #[.val (.ref a), .val (.ref k), .val (.int (0 : Int32)), .val (.int (2 : Int32)), .val .null, .unset] [])
  refine Go.step (fun tt kk => XS.aloadN X0.here hx rfl (hb hby d3_0) rfl rfl kk) ?_
  show Go _ _ _ _ _ _ _ T0 (mkF m 1 _ [(.ref a)])
  obtain ⟨T1, X1, e1, st1⟩ := initO X0 hx hZ hown (hw _ (List.mem_of_getElem? (i := 15) rfl)) (hw _ (List.mem_of_getElem? (i := 16) rfl)) (hw _ (List.mem_of_getElem? (i := 17) rfl)) e0 (g := (mkF m 1 #[.val (.ref a), .val (.ref k), .val (.int (0 : Int32)), .val (.int (2 : Int32)), .val .null, .unset] [(.ref a)])) rfl (by rw [hml]; rfl) rfl (hb hby d3_1) (by decide) (W := 0) (by show 2 * 0 + _ ≤ _; exact Nat.le_of_eq rfl) (by decide)
  refine Go.step (st1) ?_
  show Go _ _ _ _ _ _ _ T1 (mkF m 4 _ [])
  refine Go.step (fun tt kk => XS.iloadN X1.here hx rfl (hb hby d3_4) rfl kk) ?_
  show Go _ _ _ _ _ _ _ T1 (mkF m 5 _ [(.int (2 : Int32))])
  refine Go.step (fun tt kk => XS.ifYes X1.here hx rfl (pc0 := 5) (pc' := 27) rfl (hb hby d3_5) rfl ((if0 _ _).trans (feq (by decide)).2) (by decide) (by decide) kk) ?_
  show Go _ _ _ _ _ _ _ T1 (mkF m 27 _ [])
  obtain ⟨T2, X2, e2, st2⟩ := getS2 X1 hx hZ hown (host := "") (Or.inl (hw _ (List.mem_of_getElem? (i := 67) rfl))) Via.refl e1 S0 (g := (mkF m 27 #[.val (.ref a), .val (.ref k), .val (.int (0 : Int32)), .val (.int (2 : Int32)), .val .null, .unset] [])) rfl (hb hby d3_27)
  refine Go.step (st2) ?_
  show Go _ _ _ _ _ _ _ T2 (mkF m 30 _ [(.int cs)])
  refine Go.step (fun tt kk => XS.ifNo X2.here hx rfl (hb hby d3_30) rfl ((if0 _ _).trans (feq hcs).1) kk) ?_
  show Go _ _ _ _ _ _ _ T2 (mkF m 33 _ [])
  refine Go.step (fun tt kk => XS.aloadN X2.here hx rfl (hb hby d3_33) rfl rfl kk) ?_
  show Go _ _ _ _ _ _ _ T2 (mkF m 34 _ [(.ref k)])
  refine Go.step (fun tt kk => XS.iloadN X2.here hx rfl (hb hby d3_34) rfl kk) ?_
  show Go _ _ _ _ _ _ _ T2 (mkF m 35 _ [(.int (0 : Int32)), (.ref k)])
  refine Go.step (fun tt kk => XS.iloadN X2.here hx rfl (hb hby d3_35) rfl kk) ?_
  show Go _ _ _ _ _ _ _ T2 (mkF m 36 _ [(.int (2 : Int32)), (.int (0 : Int32)), (.ref k)])
  obtain ⟨v3, T3, L3, X3, q3, st3⟩ := c_static X2 hx hZ hown (y := (⟨"java/lang/StringUTF16", "compress", "([CII)[B"⟩ : MethodName)) (hw _ (List.mem_of_getElem? (i := 79) rfl)) (hw _ (List.mem_of_getElem? (i := 80) rfl)) (hw _ (List.mem_of_getElem? (i := 81) rfl)) (hw _ (List.mem_of_getElem? (i := 82) rfl)) (by decide) (argsL := [(.ref k), (.int (0 : Int32)), (.int (2 : Int32))]) (rest := []) (rm14 l Z a0 hw [] k ca cb h0 n0 Z0 hLa hLb V_k) e2 pd_1 rfl (by rw [hml]; rfl) (W := 0) (by show 2 * 0 + _ ≤ _; exact Nat.le_of_eq rfl) (by decide) (by decide) (by decide) (by decide) (hb hby d3_36) (Ls := #[.val (.ref a), .val (.ref k), .val (.int (0 : Int32)), .val (.int (2 : Int32)), .val .null, .unset])
  generalize e3 : T3.heap = h3 at q3
  obtain ⟨bc3, rfl, N3q, K3q, sz_bc3, V3q⟩ := q3
  have N3 := Fr.app N0 N3q
  have Z3 : n0 ≤ h3.size := Nat.le_trans Z0 K3q.1
  have ne_a_bc3 : a ≠ bc3 := Nat.ne_of_lt (Nat.lt_of_lt_of_le E_a.lt sz_bc3)
  have ne_k_bc3 : k ≠ bc3 := Nat.ne_of_lt (Nat.lt_of_lt_of_le V_k.lt sz_bc3)
  have gn_bc3 : n0 ≤ bc3 := Nat.le_trans Z0 sz_bc3
  have sy_bc3 : hI.size ≤ bc3 := Nat.le_trans K0.1 sz_bc3
  have K3 : Keep hI h3 [a] := K0.trans K3q all0
  refine Go.step (st3) ?_
  show Go _ _ _ _ _ _ _ T3 (mkF m 39 _ [(.ref bc3)])
  refine Go.step (fun tt kk => XS.astore X3.here hx rfl (hb hby d3_39) rfl rfl (l' := #[.val (.ref a), .val (.ref k), .val (.int (0 : Int32)), .val (.int (2 : Int32)), .val .null, .val (.ref bc3)]) rfl kk) ?_
  show Go _ _ _ _ _ _ _ T3 (mkF m 41 _ [])
  refine Go.step (fun tt kk => XS.aloadN X3.here hx rfl (hb hby d3_41) rfl rfl kk) ?_
  show Go _ _ _ _ _ _ _ T3 (mkF m 42 _ [(.ref a)])
  refine Go.step (fun tt kk => XS.aload X3.here hx rfl (hb hby d3_42) rfl rfl kk) ?_
  show Go _ _ _ _ _ _ _ T3 (mkF m 44 _ [(.ref bc3), (.ref a)])
  refine Go.step (fun tt kk => XS.iloadN X3.here hx rfl (hb hby d3_44) rfl kk) ?_
  show Go _ _ _ _ _ _ _ T3 (mkF m 45 _ [(.int (2 : Int32)), (.ref bc3), (.ref a)])
  obtain ⟨v4, T4, L4, X4, q4, st4⟩ := c_static X3 hx hZ hown (y := (⟨"java/lang/StringUTF16", "coderFromArrayLen", "([BI)B"⟩ : MethodName)) (hw _ (List.mem_of_getElem? (i := 86) rfl)) (hw _ (List.mem_of_getElem? (i := 87) rfl)) (hw _ (List.mem_of_getElem? (i := 81) rfl)) (hw _ (List.mem_of_getElem? (i := 88) rfl)) (by decide) (argsL := [(.ref bc3), (.int (2 : Int32))]) (rest := [(.ref a)]) (rm16 l Z a0 hw [] bc3 ca cb h3 n0 Z3 V3q) e3 pd_2 rfl (by rw [hml]; rfl) (W := 1) (by show 2 * 0 + _ ≤ _; exact Nat.le_of_eq rfl) (by decide) (by decide) (by decide) (by decide) (hb hby d3_45) (Ls := #[.val (.ref a), .val (.ref k), .val (.int (0 : Int32)), .val (.int (2 : Int32)), .val .null, .val (.ref bc3)])
  obtain ⟨rfl, rfl, e4⟩ := q4
  have N4 := Fr.app N3 (Fr.nil n0)
  refine Go.step (st4) ?_
  show Go _ _ _ _ _ _ _ T4 (mkF m 48 _ [(.int (0 : Int32)), (.ref a)])
  have f6 := (F_0.keep K3q nin0)
  have f7 := (E_a.keep K3q)
  obtain ⟨T5, h5, X5, e5, W5, st5⟩ := putFN X4 hx hZ hown (hw _ (List.mem_of_getElem? (i := 25) rfl)) Via.refl e4 f6 f7 (Or.inr ⟨(hw _ (List.mem_of_getElem? (i := 21) rfl)), rfl, hnm⟩) (hw _ (List.mem_of_getElem? (i := 5) rfl)) (ty := .byte) (v' := (.int (0 : Int32))) (by decide) rfl rfl (g := (mkF m 48 #[.val (.ref a), .val (.ref k), .val (.int (0 : Int32)), .val (.int (2 : Int32)), .val .null, .val (.ref bc3)] [(.int (0 : Int32)), (.ref a)])) rfl rfl (hb hby d3_48)
  have F5 := Fld.same W5 f6
  have N5 := Fr.snoc X5 N4 g_a
  have Z5 : n0 ≤ h5.size := Nat.le_trans Z3 (Keep.of_wr W5).1
  have K5 : Keep hI h5 [a] := K3.wr W5 (Or.inl (List.mem_of_getElem? (i := 0) rfl))
  refine Go.step (st5) ?_
  show Go _ _ _ _ _ _ _ T5 (mkF m 51 _ [])
  refine Go.step (fun tt kk => XS.aloadN X5.here hx rfl (hb hby d3_51) rfl rfl kk) ?_
  show Go _ _ _ _ _ _ _ T5 (mkF m 52 _ [(.ref a)])
  refine Go.step (fun tt kk => XS.aload X5.here hx rfl (hb hby d3_52) rfl rfl kk) ?_
  show Go _ _ _ _ _ _ _ T5 (mkF m 54 _ [(.ref bc3), (.ref a)])
  have f9 := (Fld.other W5 (F_1.keep K3q nin0) (Or.inr (slot_ne (Or.inr (hw _ (List.mem_of_getElem? (i := 20) rfl))) (Or.inr (hw _ (List.mem_of_getElem? (i := 21) rfl))) (by decide) (t := (.array .byte)) (t' := .byte) (by decide) (by decide))))
  have f10 := (Exa.wr W5 f7)
  obtain ⟨T8, h8, X8, e8, W8, st8⟩ := putF X5 hx hZ hown (host := "") (Or.inl (hw _ (List.mem_of_getElem? (i := 24) rfl))) Via.refl e5 f9 f10 (Or.inr ⟨(hw _ (List.mem_of_getElem? (i := 20) rfl)), rfl, hnm⟩) (hw _ (List.mem_of_getElem? (i := 5) rfl)) (ty := (.array .byte)) (by decide) rfl rfl (g := (mkF m 54 #[.val (.ref a), .val (.ref k), .val (.int (0 : Int32)), .val (.int (2 : Int32)), .val .null, .val (.ref bc3)] [(.ref bc3), (.ref a)])) rfl rfl (hb hby d3_54)
  have F8 := Fld.same W8 f9
  have N8 := Fr.snoc X8 N5 g_a
  have Z8 : n0 ≤ h8.size := Nat.le_trans Z5 (Keep.of_wr W8).1
  have K8 : Keep hI h8 [a] := K5.wr W8 (Or.inl (List.mem_of_getElem? (i := 0) rfl))
  refine Go.step (st8) ?_
  show Go _ _ _ _ _ _ _ T8 (mkF m 57 _ [])
  refine go_ret X8 hx hret hlk (hb hby d3_57) ?_ (by decide) (by decide)
  try rw [e8]
  exact ⟨rfl, N8, eI ▸ K8⟩
theorem ef_rm3W (m : MethodId) (x0 : Addr) (x1 : Addr) (x2 : Int32) (x3 : Int32) : entryFrame m #[(.ref x0), (.ref x1), (.int x2), (.int x3), .null] 6 = mkF m 0 #[.val (.ref x0), .val (.ref x1), .val (.int x2), .val (.int x3), .val .null, .unset] [] := by first | (simp [entryFrame, mkF, argsToLocals, Value.category]; done) | rfl
theorem d3_8 : decode jdk_42_method_149_code 8 = .ok (.aload_n 0, 1) := by decide +kernel
theorem d3_9 : decode jdk_42_method_149_code 9 = .ok (.ldc 7, 2) := by decide +kernel
theorem d3_11 : decode jdk_42_method_149_code 11 = .ok (.getfield 9, 3) := by decide +kernel
theorem d3_14 : decode jdk_42_method_149_code 14 = .ok (.putfield 9, 3) := by decide +kernel
theorem d3_17 : decode jdk_42_method_149_code 17 = .ok (.aload_n 0, 1) := by decide +kernel
theorem d3_18 : decode jdk_42_method_149_code 18 = .ok (.ldc 7, 2) := by decide +kernel
theorem d3_20 : decode jdk_42_method_149_code 20 = .ok (.getfield 15, 3) := by decide +kernel
theorem d3_23 : decode jdk_42_method_149_code 23 = .ok (.putfield 15, 3) := by decide +kernel
theorem d3_26 : decode jdk_42_method_149_code 26 = .ok (.return_, 1) := by decide +kernel
set_option maxRecDepth 65536 in
set_option maxHeartbeats 40000000 in
theorem rm3W (l : Launch) (Z : State) (a0 : Array Value) (hw : ∀ d ∈ tables_1, d.before a0 Z = true) (ws : List Jvm.Cond) (a k : Addr) (h0 : Heap) (n0 : Nat) (Z0 : n0 ≤ h0.size) (E_a : Exa Z h0 a "java/lang/String") (F_0 : Fld Z h0 a "java/lang/String" "coder" "B" (.int (0 : Int32))) (F_1 : Fld Z h0 a "java/lang/String" "value" "[B" .null) (g_a : n0 ≤ a) (hK : Keep Z.heap h0 []) (hh : Jvm.Lit.constHeld Z "java/lang/String" 7) (hcw : Jvm.Lit.compactW.before a0 Z = true) :
    CtrW l Z (⟨"java/lang/String", "<init>", "([CIILjava/lang/Void;)V"⟩ : MethodName) jdk_42_method_149_code 6 none ws ({ frames := 1, cells := 2, slots := 4, locals := 12 } : Room) 2 4 #[(.ref a), (.ref k), (.int (0 : Int32)), (.int (0 : Int32)), .null] h0 (fun vm => VV Z vm h0) (fun v h L vm => v = none ∧ Fr n0 L ∧ Keep h0 h [a] ∧ VV Z vm h) := by
  refine CtrW.mk (plainFor_of_name pn_1) fun p e s m below meth c T0 X0 C e0 V0 hs0 => gow_cast (ef_rm3W m a k (0 : Int32) (0 : Int32)) ?_
  have N0 := Fr.nil n0
  obtain ⟨hx, hZ, hby, hml, hown, hnm, hret, hlk⟩ := C
  obtain ⟨hI, eI⟩ : ∃ z, z = h0 := ⟨_, rfl⟩
  have K0 : Keep hI h0 [a] := by rw [eI]; exact Keep.refl _ _
  show GoW _ _ _ _ _ _ _ T0 (mkF m 0 #[.val (.ref a), .val (.ref k), .val (.int (0 : Int32)), .val (.int (0 : Int32)), .val .null, .unset] [])
  refine GoW.step (fun tt kk => XS.aloadN X0.here hx rfl (hb hby d3_0) rfl rfl kk) ?_
  show GoW _ _ _ _ _ _ _ T0 (mkF m 1 _ [(.ref a)])
  obtain ⟨T1, X1, e1, st1⟩ := initO X0 hx hZ hown (hw _ (List.mem_of_getElem? (i := 15) rfl)) (hw _ (List.mem_of_getElem? (i := 16) rfl)) (hw _ (List.mem_of_getElem? (i := 17) rfl)) e0 (g := (mkF m 1 #[.val (.ref a), .val (.ref k), .val (.int (0 : Int32)), .val (.int (0 : Int32)), .val .null, .unset] [(.ref a)])) rfl (by rw [hml]; rfl) rfl (hb hby d3_1) (by decide) (W := 0) (by show 2 * 0 + _ ≤ _; exact Nat.le_of_eq rfl) (by decide)
  refine GoW.step (st1) ?_
  show GoW _ _ _ _ _ _ _ T1 (mkF m 4 _ [])
  refine GoW.step (fun tt kk => XS.iloadN X1.here hx rfl (hb hby d3_4) rfl kk) ?_
  show GoW _ _ _ _ _ _ _ T1 (mkF m 5 _ [(.int (0 : Int32))])
  refine GoW.step (fun tt kk => XS.ifNo X1.here hx rfl (hb hby d3_5) rfl ((if0 _ _).trans (teq (by decide)).2) kk) ?_
  show GoW _ _ _ _ _ _ _ T1 (mkF m 8 _ [])
  refine GoW.step (fun tt kk => XS.aloadN X1.here hx rfl (hb hby d3_8) rfl rfl kk) ?_
  show GoW _ _ _ _ _ _ _ T1 (mkF m 9 _ [(.ref a)])
  obtain ⟨s, z, bz, T2, h2, X2, r2, hZ, hown, e2, E2, Lz, Ez2, Fc2, Fv2, st2⟩ := own_ldc X1 hx hZ hown (hw _ (List.mem_of_getElem? (i := 18) rfl)) (own_wS hw) e1 (Fr.nil _) (fun b cl q => by rw [hs0]; exact hK.2.1 b cl q (by simp)) V0 hh hcw (Ls := #[.val (.ref a), .val (.ref k), .val (.int (0 : Int32)), .val (.int (0 : Int32)), .val .null, .unset]) (S := [(.ref a)]) (hb hby d3_9) (by decide) (by decide)
  refine GoW.step st2 (GoW.reb r2 (Go.w (Q := fun v h L => v = none ∧ Fr n0 L ∧ Keep h0 h [a] ∧ Exa Z h z "java/lang/String" ∧ Fld Z h z "java/lang/String" "coder" "B" (.int (0 : Int32)) ∧ Fld Z h z "java/lang/String" "value" "[B" (.ref bz)) (fun v h L vm hW q => ⟨q.1, q.2.1, q.2.2.1, Or.inr ⟨z, bz, own_stays Lz hW, q.2.2.2⟩⟩) ?_))
  have Z2 : n0 ≤ h2.size := Nat.le_trans Z0 E2.1
  have K2 : Keep hI h2 [a] := K0.ext E2
  have f3 := (Fld.ext E2 F_1)
  have ne_z_a : z ≠ a := Fld.ne Fv2 f3 (fun q => by cases q)
  show Go _ _ _ _ _ _ _ T2 (mkF m 11 #[.val (.ref a), .val (.ref k), .val (.int (0 : Int32)), .val (.int (0 : Int32)), .val .null, .unset] [(.ref z), (.ref a)])
  obtain ⟨T4, X4, e4, st4⟩ := getF X2 hx hZ hown (host := "") (Or.inl (hw _ (List.mem_of_getElem? (i := 24) rfl))) Via.refl e2 Fv2 (g := (mkF m 11 #[.val (.ref a), .val (.ref k), .val (.int (0 : Int32)), .val (.int (0 : Int32)), .val .null, .unset] [(.ref z), (.ref a)])) rfl rfl (hb hby d3_11)
  refine Go.step (st4) ?_
  show Go _ _ _ _ _ _ _ T4 (mkF m 14 _ [(.ref bz), (.ref a)])
  have f6 := (Exa.ext E2 E_a)
  obtain ⟨T5, h5, X5, e5, W5, st5⟩ := putF X4 hx hZ hown (host := "") (Or.inl (hw _ (List.mem_of_getElem? (i := 24) rfl))) Via.refl e4 f3 f6 (Or.inr ⟨(hw _ (List.mem_of_getElem? (i := 20) rfl)), rfl, hnm⟩) (hw _ (List.mem_of_getElem? (i := 5) rfl)) (ty := (.array .byte)) (by decide) rfl rfl (g := (mkF m 14 #[.val (.ref a), .val (.ref k), .val (.int (0 : Int32)), .val (.int (0 : Int32)), .val .null, .unset] [(.ref bz), (.ref a)])) rfl rfl (hb hby d3_14)
  have F5 := Fld.same W5 f3
  have N5 := Fr.snoc X5 N0 g_a
  have Z5 : n0 ≤ h5.size := Nat.le_trans Z2 (Keep.of_wr W5).1
  have K5 : Keep hI h5 [a] := K2.wr W5 (Or.inl (List.mem_of_getElem? (i := 0) rfl))
  refine Go.step (st5) ?_
  show Go _ _ _ _ _ _ _ T5 (mkF m 17 _ [])
  refine Go.step (fun tt kk => XS.aloadN X5.here hx rfl (hb hby d3_17) rfl rfl kk) ?_
  show Go _ _ _ _ _ _ _ T5 (mkF m 18 _ [(.ref a)])
  refine Go.step (own_again X5 hx hZ hown (hw _ (List.mem_of_getElem? (i := 18) rfl)) Lz (Ls := #[.val (.ref a), .val (.ref k), .val (.int (0 : Int32)), .val (.int (0 : Int32)), .val .null, .unset]) (S := [(.ref a)]) (hb hby d3_18)) ?_
  show Go _ _ _ _ _ _ _ T5 (mkF m 20 _ [(.ref z), (.ref a)])
  have f8 := (Fld.other W5 Fc2 (Or.inl ne_z_a))
  obtain ⟨T7, X7, e7, st7⟩ := getF X5 hx hZ hown (host := "") (Or.inl (hw _ (List.mem_of_getElem? (i := 25) rfl))) Via.refl e5 f8 (g := (mkF m 20 #[.val (.ref a), .val (.ref k), .val (.int (0 : Int32)), .val (.int (0 : Int32)), .val .null, .unset] [(.ref z), (.ref a)])) rfl rfl (hb hby d3_20)
  refine Go.step (st7) ?_
  show Go _ _ _ _ _ _ _ T7 (mkF m 23 _ [(.int (0 : Int32)), (.ref a)])
  have f10 := (Fld.other W5 (Fld.ext E2 F_0) (Or.inr (slot_ne (Or.inr (hw _ (List.mem_of_getElem? (i := 21) rfl))) (Or.inr (hw _ (List.mem_of_getElem? (i := 20) rfl))) (by decide) (t := .byte) (t' := (.array .byte)) (by decide) (by decide))))
  have f11 := (Exa.wr W5 f6)
  obtain ⟨T9, h9, X9, e9, W9, st9⟩ := putFN X7 hx hZ hown (hw _ (List.mem_of_getElem? (i := 25) rfl)) Via.refl e7 f10 f11 (Or.inr ⟨(hw _ (List.mem_of_getElem? (i := 21) rfl)), rfl, hnm⟩) (hw _ (List.mem_of_getElem? (i := 5) rfl)) (ty := .byte) (v' := (.int (0 : Int32))) (by decide) rfl rfl (g := (mkF m 23 #[.val (.ref a), .val (.ref k), .val (.int (0 : Int32)), .val (.int (0 : Int32)), .val .null, .unset] [(.int (0 : Int32)), (.ref a)])) rfl rfl (hb hby d3_23)
  have F9 := Fld.same W9 f10
  have N9 := Fr.snoc X9 N5 g_a
  have Z9 : n0 ≤ h9.size := Nat.le_trans Z5 (Keep.of_wr W9).1
  have K9 : Keep hI h9 [a] := K5.wr W9 (Or.inl (List.mem_of_getElem? (i := 0) rfl))
  refine Go.step (st9) ?_
  show Go _ _ _ _ _ _ _ T9 (mkF m 26 _ [])
  have f12 := (Exa.wr W9 (Exa.wr W5 Ez2))
  have f13 := (Fld.other W9 f8 (Or.inl ne_z_a))
  have f14 := (Fld.other W9 (Fld.other W5 Fv2 (Or.inl ne_z_a)) (Or.inl ne_z_a))
  refine go_ret X9 hx hret hlk (hb hby d3_26) ?_ (by decide) (by decide)
  try rw [e9]
  exact ⟨rfl, N9, eI ▸ K9, f12, f13, f14⟩
theorem ef_rm2N (m : MethodId) (x0 : Addr) (x1 : Addr) : entryFrame m #[(.ref x0), (.ref x1)] 2 = mkF m 0 #[.val (.ref x0), .val (.ref x1)] [] := by first | (simp [entryFrame, mkF, argsToLocals, Value.category]; done) | rfl
theorem d2_0 : decode jdk_42_method_3_code 0 = .ok (.aload_n 0, 1) := by decide +kernel
theorem d2_1 : decode jdk_42_method_3_code 1 = .ok (.aload_n 1, 1) := by decide +kernel
theorem d2_2 : decode jdk_42_method_3_code 2 = .ok (.iconst 0, 1) := by decide +kernel
theorem d2_3 : decode jdk_42_method_3_code 3 = .ok (.aload_n 1, 1) := by decide +kernel
theorem d2_4 : decode jdk_42_method_3_code 4 = .ok (.arraylength, 1) := by decide +kernel
theorem d2_5 : decode jdk_42_method_3_code 5 = .ok (.aconst_null, 1) := by decide +kernel
theorem pd_3 : parseMethodDescriptor "([CIILjava/lang/Void;)V" = some ⟨[(.array .char), .int, .int, (.object "java/lang/Void")], none⟩ := by decide +kernel
theorem d2_6 : decode jdk_42_method_3_code 6 = .ok (.invokespecial 27, 3) := by decide +kernel
theorem d2_9 : decode jdk_42_method_3_code 9 = .ok (.return_, 1) := by decide +kernel
set_option maxRecDepth 65536 in
set_option maxHeartbeats 40000000 in
theorem rm2N (l : Launch) (Z : State) (a0 : Array Value) (hw : ∀ d ∈ tables_1, d.before a0 Z = true) (ws : List Jvm.Cond) (a k : Addr) (ca cb : Int32) (cs : Int32) (h0 : Heap) (n0 : Nat) (Z0 : n0 ≤ h0.size) (hLa : ¬ (255 : Int32) < ca) (hLb : ¬ (255 : Int32) < cb) (hcs : ¬ cs = (0 : Int32)) (S0 : Sta Z h0 "java/lang/String" "COMPACT_STRINGS" "Z" (.int cs)) (V_k : AV Z h0 k .char 2 (lst [(.int ca), (.int cb)])) (E_a : Exa Z h0 a "java/lang/String") (F_0 : Fld Z h0 a "java/lang/String" "coder" "B" (.int (0 : Int32))) (F_1 : Fld Z h0 a "java/lang/String" "value" "[B" .null) (g_a : n0 ≤ a) (ne_a_k : a ≠ k) :
    Ctr l Z (⟨"java/lang/String", "<init>", "([C)V"⟩ : MethodName) jdk_42_method_3_code 2 none ws ({ frames := 3, cells := 1, slots := 2, locals := 52 } : Room) 1 2 #[(.ref a), (.ref k)] h0 (fun v h L => v = none ∧ Fr n0 L ∧ Keep h0 h [a]) := by
  refine Ctr.mk (plainFor_of_name pn_1) fun p e s m below meth c T0 X0 C e0 => go_cast (ef_rm2N m a k) ?_
  have N0 := Fr.nil n0
  obtain ⟨hx, hZ, hby, hml, hown, hnm, hret, hlk⟩ := C
  obtain ⟨hI, eI⟩ : ∃ z, z = h0 := ⟨_, rfl⟩
  have K0 : Keep hI h0 [a] := by rw [eI]; exact Keep.refl _ _
  show Go _ _ _ _ _ _ _ T0 (mkF m 0 #[.val (.ref a), .val (.ref k)] [])
  refine Go.step (fun tt kk => XS.aloadN X0.here hx rfl (hb hby d2_0) rfl rfl kk) ?_
  show Go _ _ _ _ _ _ _ T0 (mkF m 1 _ [(.ref a)])
  refine Go.step (fun tt kk => XS.aloadN X0.here hx rfl (hb hby d2_1) rfl rfl kk) ?_
  show Go _ _ _ _ _ _ _ T0 (mkF m 2 _ [(.ref k), (.ref a)])
  refine Go.step (fun tt kk => XS.iconst X0.here hx rfl (hb hby d2_2) kk) ?_
  show Go _ _ _ _ _ _ _ T0 (mkF m 3 _ [(.int (0 : Int32)), (.ref k), (.ref a)])
  refine Go.step (fun tt kk => XS.aloadN X0.here hx rfl (hb hby d2_3) rfl rfl kk) ?_
  show Go _ _ _ _ _ _ _ T0 (mkF m 4 _ [(.ref k), (.int (0 : Int32)), (.ref k), (.ref a)])
  refine Go.step (a_len X0 hx hZ e0 V_k (z := (2 : Int32)) (by decide) (hb hby d2_4)) ?_
  show Go _ _ _ _ _ _ _ T0 (mkF m 5 _ [(.int (2 : Int32)), (.int (0 : Int32)), (.ref k), (.ref a)])
  refine Go.step (fun tt kk => XS.aconstNull X0.here hx rfl (hb hby d2_5) kk) ?_
  show Go _ _ _ _ _ _ _ T0 (mkF m 6 _ [.null, (.int (2 : Int32)), (.int (0 : Int32)), (.ref k), (.ref a)])
  obtain ⟨v1, T1, L1, X1, q1, st1⟩ := c_init X0 hx hZ hown (y := (⟨"java/lang/String", "<init>", "([CIILjava/lang/Void;)V"⟩ : MethodName)) (hw _ (List.mem_of_getElem? (i := 11) rfl)) (hw _ (List.mem_of_getElem? (i := 12) rfl)) (hw _ (List.mem_of_getElem? (i := 6) rfl)) (hw _ (List.mem_of_getElem? (i := 14) rfl)) rfl (by decide) (a := a) (argsL := [(.ref k), (.int (0 : Int32)), (.int (2 : Int32)), .null]) (rest := []) (rm3N l Z a0 hw [] a k ca cb cs h0 n0 Z0 hLa hLb hcs S0 V_k E_a F_0 F_1 g_a ne_a_k) e0 pd_3 rfl (by rw [hml]; rfl) (W := 0) (by show 2 * 0 + _ ≤ _; exact Nat.le_of_eq rfl) (by decide) (by decide) (by decide) (by decide) (hb hby d2_6) (Ls := #[.val (.ref a), .val (.ref k)])
  generalize e1 : T1.heap = h1 at q1
  obtain ⟨rfl, N1q, K1q⟩ := q1
  have N1 := Fr.app N0 N1q
  have Z1 : n0 ≤ h1.size := Nat.le_trans Z0 K1q.1
  have K1 : Keep hI h1 [a] := K0.trans K1q (allS (Or.inl (List.mem_of_getElem? (i := 0) rfl)) all0)
  refine Go.step (st1) ?_
  show Go _ _ _ _ _ _ _ T1 (mkF m 9 _ [])
  refine go_ret X1 hx hret hlk (hb hby d2_9) ?_ (by decide) (by decide)
  try rw [e1]
  exact ⟨rfl, N1, eI ▸ K1⟩
theorem ef_rm2W (m : MethodId) (x0 : Addr) (x1 : Addr) : entryFrame m #[(.ref x0), (.ref x1)] 2 = mkF m 0 #[.val (.ref x0), .val (.ref x1)] [] := by first | (simp [entryFrame, mkF, argsToLocals, Value.category]; done) | rfl
set_option maxRecDepth 65536 in
set_option maxHeartbeats 40000000 in
theorem rm2W (l : Launch) (Z : State) (a0 : Array Value) (hw : ∀ d ∈ tables_1, d.before a0 Z = true) (ws : List Jvm.Cond) (a k : Addr) (h0 : Heap) (n0 : Nat) (Z0 : n0 ≤ h0.size) (V_k : AV Z h0 k .char 0 (lst [])) (E_a : Exa Z h0 a "java/lang/String") (F_0 : Fld Z h0 a "java/lang/String" "coder" "B" (.int (0 : Int32))) (F_1 : Fld Z h0 a "java/lang/String" "value" "[B" .null) (g_a : n0 ≤ a) (hK : Keep Z.heap h0 []) (hh : Jvm.Lit.constHeld Z "java/lang/String" 7) (hcw : Jvm.Lit.compactW.before a0 Z = true) :
    CtrW l Z (⟨"java/lang/String", "<init>", "([C)V"⟩ : MethodName) jdk_42_method_3_code 2 none ws ({ frames := 2, cells := 2, slots := 4, locals := 29 } : Room) 2 4 #[(.ref a), (.ref k)] h0 (fun vm => VV Z vm h0) (fun v h L vm => v = none ∧ Fr n0 L ∧ Keep h0 h [a] ∧ VV Z vm h) := by
  refine CtrW.mk (plainFor_of_name pn_1) fun p e s m below meth c T0 X0 C e0 V0 hs0 => gow_cast (ef_rm2W m a k) ?_
  have N0 := Fr.nil n0
  obtain ⟨hx, hZ, hby, hml, hown, hnm, hret, hlk⟩ := C
  obtain ⟨hI, eI⟩ : ∃ z, z = h0 := ⟨_, rfl⟩
  have K0 : Keep hI h0 [a] := by rw [eI]; exact Keep.refl _ _
  show GoW _ _ _ _ _ _ _ T0 (mkF m 0 #[.val (.ref a), .val (.ref k)] [])
  refine GoW.step (fun tt kk => XS.aloadN X0.here hx rfl (hb hby d2_0) rfl rfl kk) ?_
  show GoW _ _ _ _ _ _ _ T0 (mkF m 1 _ [(.ref a)])
  refine GoW.step (fun tt kk => XS.aloadN X0.here hx rfl (hb hby d2_1) rfl rfl kk) ?_
  show GoW _ _ _ _ _ _ _ T0 (mkF m 2 _ [(.ref k), (.ref a)])
  refine GoW.step (fun tt kk => XS.iconst X0.here hx rfl (hb hby d2_2) kk) ?_
  show GoW _ _ _ _ _ _ _ T0 (mkF m 3 _ [(.int (0 : Int32)), (.ref k), (.ref a)])
  refine GoW.step (fun tt kk => XS.aloadN X0.here hx rfl (hb hby d2_3) rfl rfl kk) ?_
  show GoW _ _ _ _ _ _ _ T0 (mkF m 4 _ [(.ref k), (.int (0 : Int32)), (.ref k), (.ref a)])
  refine GoW.step (a_len X0 hx hZ e0 V_k (z := (0 : Int32)) (by decide) (hb hby d2_4)) ?_
  show GoW _ _ _ _ _ _ _ T0 (mkF m 5 _ [(.int (0 : Int32)), (.int (0 : Int32)), (.ref k), (.ref a)])
  refine GoW.step (fun tt kk => XS.aconstNull X0.here hx rfl (hb hby d2_5) kk) ?_
  show GoW _ _ _ _ _ _ _ T0 (mkF m 6 _ [.null, (.int (0 : Int32)), (.int (0 : Int32)), (.ref k), (.ref a)])
  obtain ⟨v1, s, T1, L1, X1, r1, hZ, hown, q1, st1⟩ := c_initW X0 hx hZ hown (y := (⟨"java/lang/String", "<init>", "([CIILjava/lang/Void;)V"⟩ : MethodName)) (hw _ (List.mem_of_getElem? (i := 11) rfl)) (hw _ (List.mem_of_getElem? (i := 12) rfl)) (hw _ (List.mem_of_getElem? (i := 6) rfl)) (hw _ (List.mem_of_getElem? (i := 14) rfl)) rfl (by decide) (a := a) (argsL := [(.ref k), (.int (0 : Int32)), (.int (0 : Int32)), .null]) (rest := []) (rm3W l Z a0 hw [] a k h0 n0 Z0  E_a F_0 F_1 g_a hK hh hcw) (fun vm hW => VV.warm V0 hW) e0 pd_3 rfl (by rw [hml]; rfl) (W := 0) (by show 2 * 0 + _ ≤ _; exact Nat.le_of_eq rfl) (by decide) (by decide) (by decide) (by decide) (hb hby d2_6) (Ls := #[.val (.ref a), .val (.ref k)])
  generalize e1 : T1.heap = h1 at q1
  obtain ⟨rfl, N1q, K1q, V1q⟩ := q1
  have N1 := Fr.app N0 N1q
  have Z1 : n0 ≤ h1.size := Nat.le_trans Z0 K1q.1
  have K1 : Keep hI h1 [a] := K0.trans K1q (allS (Or.inl (List.mem_of_getElem? (i := 0) rfl)) all0)
  refine GoW.step st1 (GoW.reb r1 ?_)
  show GoW _ _ _ _ _ _ _ T1 (mkF m 9 _ [])
  refine Go.w (Q := fun v h L => v = none ∧ Fr n0 L ∧ Keep h0 h [a] ∧ VV Z s.vm h) (fun v h L vm hW q => ⟨q.1, q.2.1, q.2.2.1, VV.warm q.2.2.2 hW⟩) ?_
  show Go _ _ _ _ _ _ _ T1 (mkF m 9 #[.val (.ref a), .val (.ref k)] [])
  refine go_ret X1 hx hret hlk (hb hby d2_9) ?_ (by decide) (by decide)
  try rw [e1]
  exact ⟨rfl, N1, eI ▸ K1, V1q⟩
theorem ef_rm11 (m : MethodId) (x0 : Int32) : entryFrame m #[(.int x0)] 1 = mkF m 0 #[.val (.int x0)] [] := by first | (simp [entryFrame, mkF, argsToLocals, Value.category]; done) | rfl
theorem pn_2 : plainName "java/lang/StringLatin1" = true := by first | (simp [plainName, overriddenIn]; done) | decide +kernel
theorem d11_0 : decode jdk_43_method_3_code 0 = .ok (.iload_n 0, 1) := by decide +kernel
theorem d11_1 : decode jdk_43_method_3_code 1 = .ok (.sipush 255, 3) := by decide +kernel
theorem d11_4 : decode jdk_43_method_3_code 4 = .ok (.if_icmp .gt 7, 3) := by decide +kernel
theorem d11_7 : decode jdk_43_method_3_code 7 = .ok (.iconst 1, 1) := by decide +kernel
theorem d11_8 : decode jdk_43_method_3_code 8 = .ok (.goto 4, 3) := by decide +kernel
theorem d11_12 : decode jdk_43_method_3_code 12 = .ok (.ireturn, 1) := by decide +kernel
set_option maxRecDepth 65536 in
set_option maxHeartbeats 40000000 in
theorem rm11 (l : Launch) (Z : State) (a0 : Array Value) (hw : ∀ d ∈ tables_1, d.before a0 Z = true) (ws : List Jvm.Cond) (ch : Int32) (h0 : Heap) (n0 : Nat) (Z0 : n0 ≤ h0.size) (hL : ¬ (255 : Int32) < ch) :
    Ctr l Z (⟨"java/lang/StringLatin1", "canEncode", "(C)Z"⟩ : MethodName) jdk_43_method_3_code 1 (some .boolean) ws ({ frames := 0, cells := 0, slots := 0, locals := 0 } : Room) 0 0 #[(.int ch)] h0 (fun v h L => v = some (.int (1 : Int32)) ∧ L = [] ∧ h = h0) := by
  refine Ctr.mk (plainFor_of_name pn_2) fun p e s m below meth c T0 X0 C e0 => go_cast (ef_rm11 m ch) ?_
  have N0 := Fr.nil n0
  obtain ⟨hx, hZ, hby, hml, hown, hnm, hret, hlk⟩ := C
  show Go _ _ _ _ _ _ _ T0 (mkF m 0 #[.val (.int ch)] [])
  refine Go.step (fun tt kk => XS.iloadN X0.here hx rfl (hb hby d11_0) rfl kk) ?_
  show Go _ _ _ _ _ _ _ T0 (mkF m 1 _ [(.int ch)])
  refine Go.step (fun tt kk => XS.sipush X0.here hx rfl (hb hby d11_1) kk) ?_
  show Go _ _ _ _ _ _ _ T0 (mkF m 4 _ [(.int (255 : Int32)), (.int ch)])
  refine Go.step (fun tt kk => XS.icmpNo X0.here hx rfl (hb hby d11_4) rfl (flt hL).2.2.1 kk) ?_
  show Go _ _ _ _ _ _ _ T0 (mkF m 7 _ [])
  refine Go.step (fun tt kk => XS.iconst X0.here hx rfl (hb hby d11_7) kk) ?_
  show Go _ _ _ _ _ _ _ T0 (mkF m 8 _ [(.int (1 : Int32))])
  refine Go.step (fun tt kk => XS.goto X0.here hx rfl (pc0 := 8) (pc' := 12) rfl (hb hby d11_8) (by decide) (by decide) kk) ?_
  show Go _ _ _ _ _ _ _ T0 (mkF m 12 _ [(.int (1 : Int32))])
  refine go_retN X0 hx (t := .boolean) hret (by simp) hlk (hb hby d11_12) (w := (1 : Int32)) rfl ?_ (by decide) (by decide)
  try rw [e0]
  exact ⟨rfl, rfl, rfl⟩
theorem ef_rm12 (m : MethodId) (x0 : Int32) : entryFrame m #[(.int x0)] 1 = mkF m 0 #[.val (.int x0)] [] := by first | (simp [entryFrame, mkF, argsToLocals, Value.category]; done) | rfl
theorem d12_0 : decode jdk_43_method_46_code 0 = .ok (.iconst 1, 1) := by decide +kernel
theorem d12_1 : decode jdk_43_method_46_code 1 = .ok (.newarray .byte, 2) := by decide +kernel
theorem d12_3 : decode jdk_43_method_46_code 3 = .ok (.dup, 1) := by decide +kernel
theorem d12_4 : decode jdk_43_method_46_code 4 = .ok (.iconst 0, 1) := by decide +kernel
theorem d12_5 : decode jdk_43_method_46_code 5 = .ok (.iload_n 0, 1) := by decide +kernel
theorem d12_6 : decode jdk_43_method_46_code 6 = .ok (.i2b, 1) := by decide +kernel
theorem d12_7 : decode jdk_43_method_46_code 7 = .ok (.bastore, 1) := by decide +kernel
theorem d12_8 : decode jdk_43_method_46_code 8 = .ok (.areturn, 1) := by decide +kernel
set_option maxRecDepth 65536 in
set_option maxHeartbeats 40000000 in
theorem rm12 (l : Launch) (Z : State) (a0 : Array Value) (hw : ∀ d ∈ tables_1, d.before a0 Z = true) (ws : List Jvm.Cond) (ch : Int32) (h0 : Heap) (n0 : Nat) (Z0 : n0 ≤ h0.size)  :
    Ctr l Z (⟨"java/lang/StringLatin1", "toBytes", "(C)[B"⟩ : MethodName) jdk_43_method_46_code 1 (some (.array .byte)) ws ({ frames := 0, cells := 1, slots := 1, locals := 0 } : Room) 1 1 #[(.int ch)] h0 (fun v h L => ∃ b, v = some (.ref b) ∧ Fr n0 L ∧ Keep h0 h []) := by
  refine Ctr.mk (plainFor_of_name pn_2) fun p e s m below meth c T0 X0 C e0 => go_cast (ef_rm12 m ch) ?_
  have N0 := Fr.nil n0
  obtain ⟨hx, hZ, hby, hml, hown, hnm, hret, hlk⟩ := C
  obtain ⟨hI, eI⟩ : ∃ z, z = h0 := ⟨_, rfl⟩
  have K0 : Keep hI h0 [] := by rw [eI]; exact Keep.refl _ _
  show Go _ _ _ _ _ _ _ T0 (mkF m 0 #[.val (.int ch)] [])
  refine Go.step (fun tt kk => XS.iconst X0.here hx rfl (hb hby d12_0) kk) ?_
  show Go _ _ _ _ _ _ _ T0 (mkF m 1 _ [(.int (1 : Int32))])
  obtain ⟨T1, h1, k1, X1, e1, E1, A1, EA1, st1⟩ := newPE X0 hx hZ (hw _ (List.mem_of_getElem? (i := 19) rfl)) e0 (g := (mkF m 1 #[.val (.int ch)] [(.int (1 : Int32))])) rfl (hb hby d12_1) rfl (by decide) (cap := 1) (by decide) (by decide) (by decide) (by decide) (ad := "[B") rfl
  obtain ⟨b1, g1⟩ : ∃ z, z = h0.size := ⟨_, rfl⟩
  rw [← g1] at A1 EA1 st1
  have gn_b1 : n0 ≤ b1 := Nat.le_trans Z0 (Nat.le_of_eq g1.symm)
  have sz_b1 : hI.size ≤ b1 := Nat.le_trans K0.1 (Nat.le_of_eq g1.symm)
  have Z1 : n0 ≤ h1.size := Nat.le_trans Z0 E1.1
  have K1 : Keep hI h1 [] := K0.ext E1
  have V1 : AV Z h1 b1 .byte 1 (lst [(.int (0 : Int32))]) := AV.newL (AV.new A1 (by decide)) rfl
  refine Go.step (st1) ?_
  show Go _ _ _ _ _ _ _ T1 (mkF m 3 _ [(.ref b1)])
  refine Go.step (fun tt kk => XS.dup X1.here hx rfl (hb hby d12_3) rfl rfl kk) ?_
  show Go _ _ _ _ _ _ _ T1 (mkF m 4 _ [(.ref b1), (.ref b1)])
  refine Go.step (fun tt kk => XS.iconst X1.here hx rfl (hb hby d12_4) kk) ?_
  show Go _ _ _ _ _ _ _ T1 (mkF m 5 _ [(.int (0 : Int32)), (.ref b1), (.ref b1)])
  refine Go.step (fun tt kk => XS.iloadN X1.here hx rfl (hb hby d12_5) rfl kk) ?_
  show Go _ _ _ _ _ _ _ T1 (mkF m 6 _ [(.int ch), (.int (0 : Int32)), (.ref b1), (.ref b1)])
  refine Go.step (fun tt kk => XS.i2b X1.here hx rfl (hb hby d12_6) rfl kk) ?_
  show Go _ _ _ _ _ _ _ T1 (mkF m 7 _ [(.int (ch.toInt8.toInt32)), (.int (0 : Int32)), (.ref b1), (.ref b1)])
  obtain ⟨cl2, Ar2, hin2, -⟩ := V1.at (j := (0 : Int32)) (k := 0) (by decide) (by decide)
  obtain ⟨T2, h2, X2, e2, W2, st2⟩ := stB X1 hx hZ e1 Ar2 (j := (0 : Int32)) hin2 (g := (mkF m 7 #[.val (.int ch)] [(.int (ch.toInt8.toInt32)), (.int (0 : Int32)), (.ref b1), (.ref b1)])) rfl rfl (hb hby d12_7)
  rw [(own_nb _)] at W2
  have V2 : AV Z h2 b1 .byte 1 (lst [(.int (ch.toInt8.toInt32))]) := AV.setL V1 (k := 0) (by decide) (by decide) W2 (Nat.le_of_ble_eq_true rfl) rfl
  have N2 := Fr.snoc X2 N0 gn_b1
  have Z2 : n0 ≤ h2.size := Nat.le_trans Z1 (Keep.of_wr W2).1
  have K2 : Keep hI h2 [] := K1.wr W2 (Or.inr sz_b1)
  refine Go.step (st2) ?_
  show Go _ _ _ _ _ _ _ T2 (mkF m 8 _ [(.ref b1)])
  refine go_retA X2 hx (t := (.array .byte)) hret rfl hlk rfl (hb hby d12_8) ?_ (by decide) (by decide)
  try rw [e2]
  exact ⟨b1, rfl, N2, eI ▸ K2⟩
theorem ef_rm13 (m : MethodId) (x0 : Addr) (x1 : Addr) (x2 : Int32) : entryFrame m #[(.ref x0), (.ref x1), (.int x2)] 3 = mkF m 0 #[.val (.ref x0), .val (.ref x1), .val (.int x2)] [] := by first | (simp [entryFrame, mkF, argsToLocals, Value.category]; done) | rfl
theorem d13_0 : decode jdk_42_method_151_code 0 = .ok (.aload_n 0, 1) := by decide +kernel
theorem d13_1 : decode jdk_42_method_151_code 1 = .ok (.invokespecial 1, 3) := by decide +kernel
theorem d13_4 : decode jdk_42_method_151_code 4 = .ok (.aload_n 0, 1) := by decide +kernel
theorem d13_5 : decode jdk_42_method_151_code 5 = .ok (.aload_n 1, 1) := by decide +kernel
theorem d13_6 : decode jdk_42_method_151_code 6 = .ok (.putfield 9, 3) := by decide +kernel
theorem d13_9 : decode jdk_42_method_151_code 9 = .ok (.aload_n 0, 1) := by decide +kernel
theorem d13_10 : decode jdk_42_method_151_code 10 = .ok (.iload_n 2, 1) := by decide +kernel
theorem d13_11 : decode jdk_42_method_151_code 11 = .ok (.putfield 15, 3) := by decide +kernel
theorem d13_14 : decode jdk_42_method_151_code 14 = .ok (.return_, 1) := by decide +kernel
set_option maxRecDepth 65536 in
set_option maxHeartbeats 40000000 in
theorem rm13 (l : Launch) (Z : State) (a0 : Array Value) (hw : ∀ d ∈ tables_1, d.before a0 Z = true) (ws : List Jvm.Cond) (a k : Addr) (h0 : Heap) (n0 : Nat) (Z0 : n0 ≤ h0.size) (E_a : Exa Z h0 a "java/lang/String") (F_0 : Fld Z h0 a "java/lang/String" "coder" "B" (.int (0 : Int32))) (F_1 : Fld Z h0 a "java/lang/String" "value" "[B" .null) (g_a : n0 ≤ a) :
    Ctr l Z (⟨"java/lang/String", "<init>", "([BB)V"⟩ : MethodName) jdk_42_method_151_code 3 none ws ({ frames := 1, cells := 0, slots := 0, locals := 12 } : Room) 0 0 #[(.ref a), (.ref k), (.int (0 : Int32))] h0 (fun v h L => v = none ∧ Fr n0 L ∧ Keep h0 h [a]) := by
  refine Ctr.mk (plainFor_of_name pn_1) fun p e s m below meth c T0 X0 C e0 => go_cast (ef_rm13 m a k (0 : Int32)) ?_
  have N0 := Fr.nil n0
  obtain ⟨hx, hZ, hby, hml, hown, hnm, hret, hlk⟩ := C
  obtain ⟨hI, eI⟩ : ∃ z, z = h0 := ⟨_, rfl⟩
  have K0 : Keep hI h0 [a] := by rw [eI]; exact Keep.refl _ _
  show Go _ _ _ _ _ _ _ T0 (mkF m 0 #[.val (.ref a), .val (.ref k), .val (.int (0 : Int32))] [])
  refine Go.step (fun tt kk => XS.aloadN X0.here hx rfl (hb hby d13_0) rfl rfl kk) ?_
  show Go _ _ _ _ _ _ _ T0 (mkF m 1 _ [(.ref a)])
  obtain ⟨T1, X1, e1, st1⟩ := initO X0 hx hZ hown (hw _ (List.mem_of_getElem? (i := 15) rfl)) (hw _ (List.mem_of_getElem? (i := 16) rfl)) (hw _ (List.mem_of_getElem? (i := 17) rfl)) e0 (g := (mkF m 1 #[.val (.ref a), .val (.ref k), .val (.int (0 : Int32))] [(.ref a)])) rfl (by rw [hml]; rfl) rfl (hb hby d13_1) (by decide) (W := 0) (by show 2 * 0 + _ ≤ _; exact Nat.le_of_eq rfl) (by decide)
  refine Go.step (st1) ?_
  show Go _ _ _ _ _ _ _ T1 (mkF m 4 _ [])
  refine Go.step (fun tt kk => XS.aloadN X1.here hx rfl (hb hby d13_4) rfl rfl kk) ?_
  show Go _ _ _ _ _ _ _ T1 (mkF m 5 _ [(.ref a)])
  refine Go.step (fun tt kk => XS.aloadN X1.here hx rfl (hb hby d13_5) rfl rfl kk) ?_
  show Go _ _ _ _ _ _ _ T1 (mkF m 6 _ [(.ref k), (.ref a)])
  obtain ⟨T2, h2, X2, e2, W2, st2⟩ := putF X1 hx hZ hown (host := "") (Or.inl (hw _ (List.mem_of_getElem? (i := 24) rfl))) Via.refl e1 F_1 E_a (Or.inr ⟨(hw _ (List.mem_of_getElem? (i := 20) rfl)), rfl, hnm⟩) (hw _ (List.mem_of_getElem? (i := 5) rfl)) (ty := (.array .byte)) (by decide) rfl rfl (g := (mkF m 6 #[.val (.ref a), .val (.ref k), .val (.int (0 : Int32))] [(.ref k), (.ref a)])) rfl rfl (hb hby d13_6)
  have F2 := Fld.same W2 F_1
  have N2 := Fr.snoc X2 N0 g_a
  have Z2 : n0 ≤ h2.size := Nat.le_trans Z0 (Keep.of_wr W2).1
  have K2 : Keep hI h2 [a] := K0.wr W2 (Or.inl (List.mem_of_getElem? (i := 0) rfl))
  refine Go.step (st2) ?_
  show Go _ _ _ _ _ _ _ T2 (mkF m 9 _ [])
  refine Go.step (fun tt kk => XS.aloadN X2.here hx rfl (hb hby d13_9) rfl rfl kk) ?_
  show Go _ _ _ _ _ _ _ T2 (mkF m 10 _ [(.ref a)])
  refine Go.step (fun tt kk => XS.iloadN X2.here hx rfl (hb hby d13_10) rfl kk) ?_
  show Go _ _ _ _ _ _ _ T2 (mkF m 11 _ [(.int (0 : Int32)), (.ref a)])
  have f4 := (Fld.other W2 F_0 (Or.inr (slot_ne (Or.inr (hw _ (List.mem_of_getElem? (i := 21) rfl))) (Or.inr (hw _ (List.mem_of_getElem? (i := 20) rfl))) (by decide) (t := .byte) (t' := (.array .byte)) (by decide) (by decide))))
  have f5 := (Exa.wr W2 E_a)
  obtain ⟨T3, h3, X3, e3, W3, st3⟩ := putFN X2 hx hZ hown (hw _ (List.mem_of_getElem? (i := 25) rfl)) Via.refl e2 f4 f5 (Or.inr ⟨(hw _ (List.mem_of_getElem? (i := 21) rfl)), rfl, hnm⟩) (hw _ (List.mem_of_getElem? (i := 5) rfl)) (ty := .byte) (v' := (.int (0 : Int32))) (by decide) rfl rfl (g := (mkF m 11 #[.val (.ref a), .val (.ref k), .val (.int (0 : Int32))] [(.int (0 : Int32)), (.ref a)])) rfl rfl (hb hby d13_11)
  have F3 := Fld.same W3 f4
  have N3 := Fr.snoc X3 N2 g_a
  have Z3 : n0 ≤ h3.size := Nat.le_trans Z2 (Keep.of_wr W3).1
  have K3 : Keep hI h3 [a] := K2.wr W3 (Or.inl (List.mem_of_getElem? (i := 0) rfl))
  refine Go.step (st3) ?_
  show Go _ _ _ _ _ _ _ T3 (mkF m 14 _ [])
  refine go_ret X3 hx hret hlk (hb hby d13_14) ?_ (by decide) (by decide)
  try rw [e3]
  exact ⟨rfl, N3, eI ▸ K3⟩
theorem ef_rm10 (m : MethodId) (x0 : Int32) : entryFrame m #[(.int x0)] 1 = mkF m 0 #[.val (.int x0)] [] := by first | (simp [entryFrame, mkF, argsToLocals, Value.category]; done) | rfl
theorem d10_0 : decode jdk_42_method_139_code 0 = .ok (.getstatic 38, 3) := by decide +kernel
theorem d10_3 : decode jdk_42_method_139_code 3 = .ok (.ifCond .eq 23, 3) := by decide +kernel
theorem d10_6 : decode jdk_42_method_139_code 6 = .ok (.iload_n 0, 1) := by decide +kernel
theorem pd_4 : parseMethodDescriptor "(C)Z" = some ⟨[.char], some .boolean⟩ := by decide +kernel
theorem d10_7 : decode jdk_42_method_139_code 7 = .ok (.invokestatic 1015, 3) := by decide +kernel
theorem d10_10 : decode jdk_42_method_139_code 10 = .ok (.ifCond .eq 16, 3) := by decide +kernel
theorem d10_13 : decode jdk_42_method_139_code 13 = .ok (.new 10, 3) := by decide +kernel
theorem d10_16 : decode jdk_42_method_139_code 16 = .ok (.dup, 1) := by decide +kernel
theorem d10_17 : decode jdk_42_method_139_code 17 = .ok (.iload_n 0, 1) := by decide +kernel
theorem pd_5 : parseMethodDescriptor "(C)[B" = some ⟨[.char], some (.array .byte)⟩ := by decide +kernel
theorem d10_18 : decode jdk_42_method_139_code 18 = .ok (.invokestatic 1018, 3) := by decide +kernel
theorem d10_21 : decode jdk_42_method_139_code 21 = .ok (.iconst 0, 1) := by decide +kernel
theorem pd_6 : parseMethodDescriptor "([BB)V" = some ⟨[(.array .byte), .byte], none⟩ := by decide +kernel
theorem d10_22 : decode jdk_42_method_139_code 22 = .ok (.invokespecial 209, 3) := by decide +kernel
theorem d10_25 : decode jdk_42_method_139_code 25 = .ok (.areturn, 1) := by decide +kernel
set_option maxRecDepth 65536 in
set_option maxHeartbeats 40000000 in
theorem rm10 (l : Launch) (Z : State) (a0 : Array Value) (hw : ∀ d ∈ tables_1, d.before a0 Z = true) (ws : List Jvm.Cond) (ch cs : Int32) (h0 : Heap) (n0 : Nat) (Z0 : n0 ≤ h0.size) (hL : ¬ (255 : Int32) < ch) (hcs : ¬ cs = (0 : Int32)) (S0 : Sta Z h0 "java/lang/String" "COMPACT_STRINGS" "Z" (.int cs)) :
    Ctr l Z (⟨"java/lang/String", "valueOf", "(C)Ljava/lang/String;"⟩ : MethodName) jdk_42_method_139_code 1 (some (.object "java/lang/String")) ws ({ frames := 2, cells := 2, slots := 5, locals := 27 } : Room) 2 5 #[(.int ch)] h0 (fun v h L => ∃ b, v = some (.ref b) ∧ Fr n0 L ∧ Keep h0 h []) := by
  refine Ctr.mk (plainFor_of_name pn_1) fun p e s m below meth c T0 X0 C e0 => go_cast (ef_rm10 m ch) ?_
  have N0 := Fr.nil n0
  obtain ⟨hx, hZ, hby, hml, hown, hnm, hret, hlk⟩ := C
  obtain ⟨hI, eI⟩ : ∃ z, z = h0 := ⟨_, rfl⟩
  have K0 : Keep hI h0 [] := by rw [eI]; exact Keep.refl _ _
  show Go _ _ _ _ _ _ _ T0 (mkF m 0 #[.val (.int ch)] [])
  obtain ⟨T1, X1, e1, st1⟩ := getS2 X0 hx hZ hown (host := "") (Or.inl (hw _ (List.mem_of_getElem? (i := 67) rfl))) Via.refl e0 S0 (g := (mkF m 0 #[.val (.int ch)] [])) rfl (hb hby d10_0)
  refine Go.step (st1) ?_
  show Go _ _ _ _ _ _ _ T1 (mkF m 3 _ [(.int cs)])
  refine Go.step (fun tt kk => XS.ifNo X1.here hx rfl (hb hby d10_3) rfl ((if0 _ _).trans (feq hcs).1) kk) ?_
  show Go _ _ _ _ _ _ _ T1 (mkF m 6 _ [])
  refine Go.step (fun tt kk => XS.iloadN X1.here hx rfl (hb hby d10_6) rfl kk) ?_
  show Go _ _ _ _ _ _ _ T1 (mkF m 7 _ [(.int ch)])
  obtain ⟨v2, T2, L2, X2, q2, st2⟩ := c_static X1 hx hZ hown (y := (⟨"java/lang/StringLatin1", "canEncode", "(C)Z"⟩ : MethodName)) (hw _ (List.mem_of_getElem? (i := 68) rfl)) (hw _ (List.mem_of_getElem? (i := 69) rfl)) (hw _ (List.mem_of_getElem? (i := 70) rfl)) (hw _ (List.mem_of_getElem? (i := 71) rfl)) (by decide) (argsL := [(.int ch)]) (rest := []) (rm11 l Z a0 hw [] ch h0 n0 Z0 hL) e1 pd_4 rfl (by rw [hml]; rfl) (W := 0) (by show 2 * 0 + _ ≤ _; exact Nat.le_of_eq rfl) (by decide) (by decide) (by decide) (by decide) (hb hby d10_7) (Ls := #[.val (.int ch)])
  obtain ⟨rfl, rfl, e2⟩ := q2
  have N2 := Fr.app N0 (Fr.nil n0)
  refine Go.step (st2) ?_
  show Go _ _ _ _ _ _ _ T2 (mkF m 10 _ [(.int (1 : Int32))])
  refine Go.step (fun tt kk => XS.ifNo X2.here hx rfl (hb hby d10_10) rfl ((if0 _ _).trans (feq (by decide)).1) kk) ?_
  show Go _ _ _ _ _ _ _ T2 (mkF m 13 _ [])
  obtain ⟨T3, h3, X3, e3, E3, A3, D3, -, st3⟩ := newO X2 hx hZ hown (hw _ (List.mem_of_getElem? (i := 72) rfl)) (hw _ (List.mem_of_getElem? (i := 5) rfl)) (hw _ (List.mem_of_getElem? (i := 6) rfl)) e2 (g := (mkF m 13 #[.val (.int ch)] [])) rfl (hb hby d10_13) (by decide) (by decide)
  obtain ⟨b3, g3⟩ : ∃ z, z = h0.size := ⟨_, rfl⟩
  rw [← g3] at A3 D3 st3
  have gn_b3 : n0 ≤ b3 := Nat.le_trans Z0 (Nat.le_of_eq g3.symm)
  have sz_b3 : hI.size ≤ b3 := Nat.le_trans K0.1 (Nat.le_of_eq g3.symm)
  have Z3 : n0 ≤ h3.size := Nat.le_trans Z0 E3.1
  have K3 : Keep hI h3 [] := K0.ext E3
  have F3_value : Fld Z h3 b3 "java/lang/String" "value" "[B" .null := D3 (Or.inr (hw _ (List.mem_of_getElem? (i := 20) rfl))) (ty := (.array .byte)) (by decide)
  have F3_coder : Fld Z h3 b3 "java/lang/String" "coder" "B" (.int (0 : Int32)) := D3 (Or.inr (hw _ (List.mem_of_getElem? (i := 21) rfl))) (ty := .byte) (by decide)
  refine Go.step (st3) ?_
  show Go _ _ _ _ _ _ _ T3 (mkF m 16 _ [(.ref b3)])
  refine Go.step (fun tt kk => XS.dup X3.here hx rfl (hb hby d10_16) rfl rfl kk) ?_
  show Go _ _ _ _ _ _ _ T3 (mkF m 17 _ [(.ref b3), (.ref b3)])
  refine Go.step (fun tt kk => XS.iloadN X3.here hx rfl (hb hby d10_17) rfl kk) ?_
  show Go _ _ _ _ _ _ _ T3 (mkF m 18 _ [(.int ch), (.ref b3), (.ref b3)])
  obtain ⟨v4, T4, L4, X4, q4, st4⟩ := c_static X3 hx hZ hown (y := (⟨"java/lang/StringLatin1", "toBytes", "(C)[B"⟩ : MethodName)) (hw _ (List.mem_of_getElem? (i := 73) rfl)) (hw _ (List.mem_of_getElem? (i := 74) rfl)) (hw _ (List.mem_of_getElem? (i := 70) rfl)) (hw _ (List.mem_of_getElem? (i := 75) rfl)) (by decide) (argsL := [(.int ch)]) (rest := [(.ref b3), (.ref b3)]) (rm12 l Z a0 hw [] ch h3 n0 Z3) e3 pd_5 rfl (by rw [hml]; rfl) (W := 2) (by show 2 * 0 + _ ≤ _; exact Nat.le_of_eq rfl) (by decide) (by decide) (by decide) (by decide) (hb hby d10_18) (Ls := #[.val (.int ch)])
  generalize e4 : T4.heap = h4 at q4
  obtain ⟨bt4, rfl, N4q, K4q⟩ := q4
  have N4 := Fr.app N2 N4q
  have Z4 : n0 ≤ h4.size := Nat.le_trans Z3 K4q.1
  have K4 : Keep hI h4 [] := K3.trans K4q all0
  refine Go.step (st4) ?_
  show Go _ _ _ _ _ _ _ T4 (mkF m 21 _ [(.ref bt4), (.ref b3), (.ref b3)])
  refine Go.step (fun tt kk => XS.iconst X4.here hx rfl (hb hby d10_21) kk) ?_
  show Go _ _ _ _ _ _ _ T4 (mkF m 22 _ [(.int (0 : Int32)), (.ref bt4), (.ref b3), (.ref b3)])
  have f6 := (A3.keep K4q)
  have f7 := (F3_coder.keep K4q nin0)
  have f8 := (F3_value.keep K4q nin0)
  obtain ⟨v5, T5, L5, X5, q5, st5⟩ := c_init X4 hx hZ hown (y := (⟨"java/lang/String", "<init>", "([BB)V"⟩ : MethodName)) (hw _ (List.mem_of_getElem? (i := 76) rfl)) (hw _ (List.mem_of_getElem? (i := 77) rfl)) (hw _ (List.mem_of_getElem? (i := 6) rfl)) (hw _ (List.mem_of_getElem? (i := 78) rfl)) rfl (by decide) (a := b3) (argsL := [(.ref bt4), (.int (0 : Int32))]) (rest := [(.ref b3)]) (rm13 l Z a0 hw [] b3 bt4 h4 n0 Z4 f6 f7 f8 gn_b3) e4 pd_6 rfl (by rw [hml]; rfl) (W := 1) (by show 2 * 0 + _ ≤ _; exact Nat.le_of_eq rfl) (by decide) (by decide) (by decide) (by decide) (hb hby d10_22) (Ls := #[.val (.int ch)])
  generalize e5 : T5.heap = h5 at q5
  obtain ⟨rfl, N5q, K5q⟩ := q5
  have N5 := Fr.app N4 N5q
  have Z5 : n0 ≤ h5.size := Nat.le_trans Z4 K5q.1
  have K5 : Keep hI h5 [] := K4.trans K5q (allS (Or.inr sz_b3) all0)
  refine Go.step (st5) ?_
  show Go _ _ _ _ _ _ _ T5 (mkF m 25 _ [(.ref b3)])
  refine go_retA X5 hx (t := (.object "java/lang/String")) hret rfl hlk rfl (hb hby d10_25) ?_ (by decide) (by decide)
  try rw [e5]
  exact ⟨b3, rfl, N5, eI ▸ K5⟩
theorem ef_rm1 (m : MethodId) (x0 : Int32) (x1 : Int32) (x2 : Int32) : entryFrame m #[(.int x0), (.int x1), (.int x2)] 3 = mkF m 0 #[.val (.int x0), .val (.int x1), .val (.int x2)] [] := by first | (simp [entryFrame, mkF, argsToLocals, Value.category]; done) | rfl
theorem pn_3 : plainName "com/example/sleet/sleet/LeaseRecordLeasedPinLaw" = true := by first | (simp [plainName, overriddenIn]; done) | decide +kernel
theorem d1_0 : decode method_3_code 0 = .ok (.iload_n 0, 1) := by decide +kernel
theorem d1_1 : decode method_3_code 1 = .ok (.ifCond .ne 14, 3) := by decide +kernel
theorem d1_4 : decode method_3_code 4 = .ok (.new 26, 3) := by decide +kernel
theorem d1_7 : decode method_3_code 7 = .ok (.dup, 1) := by decide +kernel
theorem d1_8 : decode method_3_code 8 = .ok (.iconst 0, 1) := by decide +kernel
theorem d1_9 : decode method_3_code 9 = .ok (.newarray .char, 2) := by decide +kernel
theorem pd_7 : parseMethodDescriptor "([C)V" = some ⟨[(.array .char)], none⟩ := by decide +kernel
theorem d1_11 : decode method_3_code 11 = .ok (.invokespecial 28, 3) := by decide +kernel
theorem d1_14 : decode method_3_code 14 = .ok (.areturn, 1) := by decide +kernel
theorem d1_15 : decode method_3_code 15 = .ok (.iload_n 0, 1) := by decide +kernel
theorem d1_16 : decode method_3_code 16 = .ok (.iconst 1, 1) := by decide +kernel
theorem d1_17 : decode method_3_code 17 = .ok (.if_icmp .ne 8, 3) := by decide +kernel
theorem d1_20 : decode method_3_code 20 = .ok (.iload_n 1, 1) := by decide +kernel
theorem pd_8 : parseMethodDescriptor "(C)Ljava/lang/String;" = some ⟨[.char], some (.object "java/lang/String")⟩ := by decide +kernel
theorem d1_21 : decode method_3_code 21 = .ok (.invokestatic 31, 3) := by decide +kernel
theorem d1_24 : decode method_3_code 24 = .ok (.areturn, 1) := by decide +kernel
theorem d1_25 : decode method_3_code 25 = .ok (.new 26, 3) := by decide +kernel
theorem d1_28 : decode method_3_code 28 = .ok (.dup, 1) := by decide +kernel
theorem d1_29 : decode method_3_code 29 = .ok (.iconst 2, 1) := by decide +kernel
theorem d1_30 : decode method_3_code 30 = .ok (.newarray .char, 2) := by decide +kernel
theorem d1_32 : decode method_3_code 32 = .ok (.dup, 1) := by decide +kernel
theorem d1_33 : decode method_3_code 33 = .ok (.iconst 0, 1) := by decide +kernel
theorem d1_34 : decode method_3_code 34 = .ok (.iload_n 1, 1) := by decide +kernel
theorem d1_35 : decode method_3_code 35 = .ok (.castore, 1) := by decide +kernel
theorem d1_36 : decode method_3_code 36 = .ok (.dup, 1) := by decide +kernel
theorem d1_37 : decode method_3_code 37 = .ok (.iconst 1, 1) := by decide +kernel
theorem d1_38 : decode method_3_code 38 = .ok (.iload_n 2, 1) := by decide +kernel
theorem d1_39 : decode method_3_code 39 = .ok (.castore, 1) := by decide +kernel
theorem d1_40 : decode method_3_code 40 = .ok (.invokespecial 28, 3) := by decide +kernel
theorem d1_43 : decode method_3_code 43 = .ok (.areturn, 1) := by decide +kernel
set_option maxRecDepth 65536 in
set_option maxHeartbeats 40000000 in
theorem rm1 (l : Launch) (Z : State) (a0 : Array Value) (hw : ∀ d ∈ tables_1, d.before a0 Z = true) (ws : List Jvm.Cond) (len ca cb cs : Int32) (h0 : Heap) (n0 : Nat) (Z0 : n0 ≤ h0.size) (hLa : ¬ (255 : Int32) < ca) (hLb : ¬ (255 : Int32) < cb) (hna : nar .char ca = ca) (hnb : nar .char cb = cb) (hcs : ¬ cs = (0 : Int32)) (S0 : Sta Z h0 "java/lang/String" "COMPACT_STRINGS" "Z" (.int cs)) (hK : Keep Z.heap h0 []) (hh : Jvm.Lit.constHeld Z "java/lang/String" 7) (hcw : Jvm.Lit.compactW.before a0 Z = true) :
    CtrW l Z (⟨"com/example/sleet/sleet/LeaseRecordLeasedPinLaw", "text", "(ICC)Ljava/lang/String;"⟩ : MethodName) method_3_code 3 (some (.object "java/lang/String")) ws ({ frames := 4, cells := 4, slots := 8, locals := 66 } : Room) 4 8 #[(.int len), (.int ca), (.int cb)] h0 (fun vm => VV Z vm h0) (fun v h L vm => ∃ b, v = some (.ref b) ∧ Fr n0 L ∧ Keep h0 h [] ∧ VV Z vm h) := by
  refine CtrW.mk (plainFor_of_name pn_3) fun p e s m below meth c T0 X0 C e0 V0 hs0 => gow_cast (ef_rm1 m len ca cb) ?_
  have N0 := Fr.nil n0
  obtain ⟨hx, hZ, hby, hml, hown, hnm, hret, hlk⟩ := C
  obtain ⟨hI, eI⟩ : ∃ z, z = h0 := ⟨_, rfl⟩
  have K0 : Keep hI h0 [] := by rw [eI]; exact Keep.refl _ _
  show GoW _ _ _ _ _ _ _ T0 (mkF m 0 #[.val (.int len), .val (.int ca), .val (.int cb)] [])
  refine GoW.step (fun tt kk => XS.iloadN X0.here hx rfl (hb hby d1_0) rfl kk) ?_
  show GoW _ _ _ _ _ _ _ T0 (mkF m 1 _ [(.int len)])
  by_cases c1_1 : len = (0 : Int32)
  · refine GoW.step (fun tt kk => XS.ifNo X0.here hx rfl (hb hby d1_1) rfl ((if0 _ _).trans (teq c1_1).2) kk) ?_
    show GoW _ _ _ _ _ _ _ T0 (mkF m 4 _ [])
    obtain ⟨T2, h2, X2, e2, E2, A2, D2, -, st2⟩ := newO X0 hx hZ hown (hw _ (List.mem_of_getElem? (i := 4) rfl)) (hw _ (List.mem_of_getElem? (i := 5) rfl)) (hw _ (List.mem_of_getElem? (i := 6) rfl)) e0 (g := (mkF m 4 #[.val (.int len), .val (.int ca), .val (.int cb)] [])) rfl (hb hby d1_4) (by decide) (by decide)
    obtain ⟨b2, g2⟩ : ∃ z, z = h0.size := ⟨_, rfl⟩
    rw [← g2] at A2 D2 st2
    have gn_b2 : n0 ≤ b2 := Nat.le_trans Z0 (Nat.le_of_eq g2.symm)
    have sz_b2 : hI.size ≤ b2 := Nat.le_trans K0.1 (Nat.le_of_eq g2.symm)
    have Z2 : n0 ≤ h2.size := Nat.le_trans Z0 E2.1
    have K2 : Keep hI h2 [] := K0.ext E2
    have F2_value : Fld Z h2 b2 "java/lang/String" "value" "[B" .null := D2 (Or.inr (hw _ (List.mem_of_getElem? (i := 20) rfl))) (ty := (.array .byte)) (by decide)
    have F2_coder : Fld Z h2 b2 "java/lang/String" "coder" "B" (.int (0 : Int32)) := D2 (Or.inr (hw _ (List.mem_of_getElem? (i := 21) rfl))) (ty := .byte) (by decide)
    refine GoW.step (st2) ?_
    show GoW _ _ _ _ _ _ _ T2 (mkF m 7 _ [(.ref b2)])
    refine GoW.step (fun tt kk => XS.dup X2.here hx rfl (hb hby d1_7) rfl rfl kk) ?_
    show GoW _ _ _ _ _ _ _ T2 (mkF m 8 _ [(.ref b2), (.ref b2)])
    refine GoW.step (fun tt kk => XS.iconst X2.here hx rfl (hb hby d1_8) kk) ?_
    show GoW _ _ _ _ _ _ _ T2 (mkF m 9 _ [(.int (0 : Int32)), (.ref b2), (.ref b2)])
    obtain ⟨T3, h3, k3, X3, e3, E3, A3, EA3, st3⟩ := newPE X2 hx hZ (hw _ (List.mem_of_getElem? (i := 7) rfl)) e2 (g := (mkF m 9 #[.val (.int len), .val (.int ca), .val (.int cb)] [(.int (0 : Int32)), (.ref b2), (.ref b2)])) rfl (hb hby d1_9) rfl (by decide) (cap := 0) (by decide) (by decide) (by decide) (by decide) (ad := "[C") rfl
    obtain ⟨b3, g3⟩ : ∃ z, z = h2.size := ⟨_, rfl⟩
    rw [← g3] at A3 EA3 st3
    have ne_b2_b3 : b2 ≠ b3 := Nat.ne_of_lt (Nat.lt_of_lt_of_le A2.lt (Nat.le_of_eq g3.symm))
    have gn_b3 : n0 ≤ b3 := Nat.le_trans Z2 (Nat.le_of_eq g3.symm)
    have sz_b3 : hI.size ≤ b3 := Nat.le_trans K2.1 (Nat.le_of_eq g3.symm)
    have Z3 : n0 ≤ h3.size := Nat.le_trans Z2 E3.1
    have K3 : Keep hI h3 [] := K2.ext E3
    have V3 : AV Z h3 b3 .char 0 (lst []) := AV.newL (AV.new A3 (by decide)) rfl
    refine GoW.step (st3) ?_
    show GoW _ _ _ _ _ _ _ T3 (mkF m 11 _ [(.ref b3), (.ref b2), (.ref b2)])
    have f5 := (Exa.ext E3 A2)
    have f6 := (Fld.ext E3 F2_coder)
    have f7 := (Fld.ext E3 F2_value)
    obtain ⟨v4, s, T4, L4, X4, r4, hZ, hown, q4, st4⟩ := c_initW X3 hx hZ hown (y := (⟨"java/lang/String", "<init>", "([C)V"⟩ : MethodName)) (hw _ (List.mem_of_getElem? (i := 8) rfl)) (hw _ (List.mem_of_getElem? (i := 9) rfl)) (hw _ (List.mem_of_getElem? (i := 6) rfl)) (hw _ (List.mem_of_getElem? (i := 10) rfl)) rfl (by decide) (a := b2) (argsL := [(.ref b3)]) (rest := [(.ref b2)]) (rm2W l Z a0 hw [] b2 b3 h3 n0 Z3 V3  f5 f6 f7 gn_b2 (own_hK hK eI K3) hh hcw) (fun vm hW => VV.warm (VV.keep V0 (own_hK (Keep.refl _ _) eI K3)) hW) e3 pd_7 rfl (by rw [hml]; rfl) (W := 1) (by show 2 * 0 + _ ≤ _; exact Nat.le_of_eq rfl) (by decide) (by decide) (by decide) (by decide) (hb hby d1_11) (Ls := #[.val (.int len), .val (.int ca), .val (.int cb)])
    generalize e4 : T4.heap = h4 at q4
    obtain ⟨rfl, N4q, K4q, V4q⟩ := q4
    have N4 := Fr.app N0 N4q
    have Z4 : n0 ≤ h4.size := Nat.le_trans Z3 K4q.1
    have K4 : Keep hI h4 [] := K3.trans K4q (allS (Or.inr sz_b2) all0)
    refine GoW.step st4 (GoW.reb r4 ?_)
    show GoW _ _ _ _ _ _ _ T4 (mkF m 14 _ [(.ref b2)])
    refine Go.w (Q := fun v h L => ∃ b, v = some (.ref b) ∧ Fr n0 L ∧ Keep h0 h [] ∧ VV Z s.vm h) (fun v h L vm hW q => q.elim fun b q => ⟨b, q.1, q.2.1, q.2.2.1, VV.warm q.2.2.2 hW⟩) ?_
    show Go _ _ _ _ _ _ _ T4 (mkF m 14 #[.val (.int len), .val (.int ca), .val (.int cb)] [(.ref b2)])
    refine go_retA X4 hx (t := (.object "java/lang/String")) hret rfl hlk rfl (hb hby d1_14) ?_ (by decide) (by decide)
    try rw [e4]
    exact ⟨b2, rfl, N4, eI ▸ K4, V4q⟩
  · refine GoW.step (fun tt kk => XS.ifYes X0.here hx rfl (pc0 := 1) (pc' := 15) rfl (hb hby d1_1) rfl ((if0 _ _).trans (feq c1_1).2) (by decide) (by decide) kk) ?_
    show GoW _ _ _ _ _ _ _ T0 (mkF m 15 _ [])
    refine Go.w (Q := fun v h L => ∃ b, v = some (.ref b) ∧ Fr n0 L ∧ Keep h0 h []) (fun v h L vm hW q => q.elim fun b q => ⟨b, q.1, q.2.1, q.2.2, VV.warm (VV.keep V0 q.2.2) hW⟩) ?_
    show Go _ _ _ _ _ _ _ T0 (mkF m 15 #[.val (.int len), .val (.int ca), .val (.int cb)] [])
    refine Go.step (fun tt kk => XS.iloadN X0.here hx rfl (hb hby d1_15) rfl kk) ?_
    show Go _ _ _ _ _ _ _ T0 (mkF m 16 _ [(.int len)])
    refine Go.step (fun tt kk => XS.iconst X0.here hx rfl (hb hby d1_16) kk) ?_
    show Go _ _ _ _ _ _ _ T0 (mkF m 17 _ [(.int (1 : Int32)), (.int len)])
    by_cases c17_8 : len = (1 : Int32)
    · refine Go.step (fun tt kk => XS.icmpNo X0.here hx rfl (hb hby d1_17) rfl (teq c17_8).2 kk) ?_
      show Go _ _ _ _ _ _ _ T0 (mkF m 20 _ [])
      refine Go.step (fun tt kk => XS.iloadN X0.here hx rfl (hb hby d1_20) rfl kk) ?_
      show Go _ _ _ _ _ _ _ T0 (mkF m 21 _ [(.int ca)])
      obtain ⟨v9, T9, L9, X9, q9, st9⟩ := c_static X0 hx hZ hown (y := (⟨"java/lang/String", "valueOf", "(C)Ljava/lang/String;"⟩ : MethodName)) (hw _ (List.mem_of_getElem? (i := 64) rfl)) (hw _ (List.mem_of_getElem? (i := 65) rfl)) (hw _ (List.mem_of_getElem? (i := 6) rfl)) (hw _ (List.mem_of_getElem? (i := 66) rfl)) (by decide) (argsL := [(.int ca)]) (rest := []) (rm10 l Z a0 hw [] ca cs h0 n0 Z0 hLa hcs S0) e0 pd_8 rfl (by rw [hml]; rfl) (W := 0) (by show 2 * 0 + _ ≤ _; exact Nat.le_of_eq rfl) (by decide) (by decide) (by decide) (by decide) (hb hby d1_21) (Ls := #[.val (.int len), .val (.int ca), .val (.int cb)])
      generalize e9 : T9.heap = h9 at q9
      obtain ⟨bv9, rfl, N9q, K9q⟩ := q9
      have N9 := Fr.app N0 N9q
      have Z9 : n0 ≤ h9.size := Nat.le_trans Z0 K9q.1
      have K9 : Keep hI h9 [] := K0.trans K9q all0
      refine Go.step (st9) ?_
      show Go _ _ _ _ _ _ _ T9 (mkF m 24 _ [(.ref bv9)])
      refine go_retA X9 hx (t := (.object "java/lang/String")) hret rfl hlk rfl (hb hby d1_24) ?_ (by decide) (by decide)
      try rw [e9]
      exact ⟨bv9, rfl, N9, eI ▸ K9⟩
    · refine Go.step (fun tt kk => XS.icmpYes X0.here hx rfl (pc0 := 17) (pc' := 25) rfl (hb hby d1_17) rfl (feq c17_8).2 (by decide) (by decide) kk) ?_
      show Go _ _ _ _ _ _ _ T0 (mkF m 25 _ [])
      obtain ⟨T10, h10, X10, e10, E10, A10, D10, -, st10⟩ := newO X0 hx hZ hown (hw _ (List.mem_of_getElem? (i := 4) rfl)) (hw _ (List.mem_of_getElem? (i := 5) rfl)) (hw _ (List.mem_of_getElem? (i := 6) rfl)) e0 (g := (mkF m 25 #[.val (.int len), .val (.int ca), .val (.int cb)] [])) rfl (hb hby d1_25) (by decide) (by decide)
      obtain ⟨b10, g10⟩ : ∃ z, z = h0.size := ⟨_, rfl⟩
      rw [← g10] at A10 D10 st10
      have gn_b10 : n0 ≤ b10 := Nat.le_trans Z0 (Nat.le_of_eq g10.symm)
      have sz_b10 : hI.size ≤ b10 := Nat.le_trans K0.1 (Nat.le_of_eq g10.symm)
      have Z10 : n0 ≤ h10.size := Nat.le_trans Z0 E10.1
      have K10 : Keep hI h10 [] := K0.ext E10
      have F10_value : Fld Z h10 b10 "java/lang/String" "value" "[B" .null := D10 (Or.inr (hw _ (List.mem_of_getElem? (i := 20) rfl))) (ty := (.array .byte)) (by decide)
      have F10_coder : Fld Z h10 b10 "java/lang/String" "coder" "B" (.int (0 : Int32)) := D10 (Or.inr (hw _ (List.mem_of_getElem? (i := 21) rfl))) (ty := .byte) (by decide)
      refine Go.step (st10) ?_
      show Go _ _ _ _ _ _ _ T10 (mkF m 28 _ [(.ref b10)])
      refine Go.step (fun tt kk => XS.dup X10.here hx rfl (hb hby d1_28) rfl rfl kk) ?_
      show Go _ _ _ _ _ _ _ T10 (mkF m 29 _ [(.ref b10), (.ref b10)])
      refine Go.step (fun tt kk => XS.iconst X10.here hx rfl (hb hby d1_29) kk) ?_
      show Go _ _ _ _ _ _ _ T10 (mkF m 30 _ [(.int (2 : Int32)), (.ref b10), (.ref b10)])
      obtain ⟨T11, h11, k11, X11, e11, E11, A11, EA11, st11⟩ := newPE X10 hx hZ (hw _ (List.mem_of_getElem? (i := 7) rfl)) e10 (g := (mkF m 30 #[.val (.int len), .val (.int ca), .val (.int cb)] [(.int (2 : Int32)), (.ref b10), (.ref b10)])) rfl (hb hby d1_30) rfl (by decide) (cap := 2) (by decide) (by decide) (by decide) (by decide) (ad := "[C") rfl
      obtain ⟨b11, g11⟩ : ∃ z, z = h10.size := ⟨_, rfl⟩
      rw [← g11] at A11 EA11 st11
      have ne_b10_b11 : b10 ≠ b11 := Nat.ne_of_lt (Nat.lt_of_lt_of_le A10.lt (Nat.le_of_eq g11.symm))
      have gn_b11 : n0 ≤ b11 := Nat.le_trans Z10 (Nat.le_of_eq g11.symm)
      have sz_b11 : hI.size ≤ b11 := Nat.le_trans K10.1 (Nat.le_of_eq g11.symm)
      have Z11 : n0 ≤ h11.size := Nat.le_trans Z10 E11.1
      have K11 : Keep hI h11 [] := K10.ext E11
      have V11 : AV Z h11 b11 .char 2 (lst [(.int (0 : Int32)), (.int (0 : Int32))]) := AV.newL (AV.new A11 (by decide)) rfl
      refine Go.step (st11) ?_
      show Go _ _ _ _ _ _ _ T11 (mkF m 32 _ [(.ref b11), (.ref b10), (.ref b10)])
      refine Go.step (fun tt kk => XS.dup X11.here hx rfl (hb hby d1_32) rfl rfl kk) ?_
      show Go _ _ _ _ _ _ _ T11 (mkF m 33 _ [(.ref b11), (.ref b11), (.ref b10), (.ref b10)])
      refine Go.step (fun tt kk => XS.iconst X11.here hx rfl (hb hby d1_33) kk) ?_
      show Go _ _ _ _ _ _ _ T11 (mkF m 34 _ [(.int (0 : Int32)), (.ref b11), (.ref b11), (.ref b10), (.ref b10)])
      refine Go.step (fun tt kk => XS.iloadN X11.here hx rfl (hb hby d1_34) rfl kk) ?_
      show Go _ _ _ _ _ _ _ T11 (mkF m 35 _ [(.int ca), (.int (0 : Int32)), (.ref b11), (.ref b11), (.ref b10), (.ref b10)])
      obtain ⟨cl12, Ar12, hin12, -⟩ := V11.at (j := (0 : Int32)) (k := 0) (by decide) (by decide)
      obtain ⟨T12, h12, X12, e12, W12, st12⟩ := stC X11 hx hZ e11 Ar12 (j := (0 : Int32)) hin12 (g := (mkF m 35 #[.val (.int len), .val (.int ca), .val (.int cb)] [(.int ca), (.int (0 : Int32)), (.ref b11), (.ref b11), (.ref b10), (.ref b10)])) rfl rfl (hb hby d1_35)
      rw [hna] at W12
      have V12 : AV Z h12 b11 .char 2 (lst [(.int ca), (.int (0 : Int32))]) := AV.setL V11 (k := 0) (by decide) (by decide) W12 (Nat.le_of_ble_eq_true rfl) rfl
      have N12 := Fr.snoc X12 N0 gn_b11
      have Z12 : n0 ≤ h12.size := Nat.le_trans Z11 (Keep.of_wr W12).1
      have K12 : Keep hI h12 [] := K11.wr W12 (Or.inr sz_b11)
      refine Go.step (st12) ?_
      show Go _ _ _ _ _ _ _ T12 (mkF m 36 _ [(.ref b11), (.ref b10), (.ref b10)])
      refine Go.step (fun tt kk => XS.dup X12.here hx rfl (hb hby d1_36) rfl rfl kk) ?_
      show Go _ _ _ _ _ _ _ T12 (mkF m 37 _ [(.ref b11), (.ref b11), (.ref b10), (.ref b10)])
      refine Go.step (fun tt kk => XS.iconst X12.here hx rfl (hb hby d1_37) kk) ?_
      show Go _ _ _ _ _ _ _ T12 (mkF m 38 _ [(.int (1 : Int32)), (.ref b11), (.ref b11), (.ref b10), (.ref b10)])
      refine Go.step (fun tt kk => XS.iloadN X12.here hx rfl (hb hby d1_38) rfl kk) ?_
      show Go _ _ _ _ _ _ _ T12 (mkF m 39 _ [(.int cb), (.int (1 : Int32)), (.ref b11), (.ref b11), (.ref b10), (.ref b10)])
      obtain ⟨cl13, Ar13, hin13, -⟩ := V12.at (j := (1 : Int32)) (k := 1) (by decide) (by decide)
      obtain ⟨T13, h13, X13, e13, W13, st13⟩ := stC X12 hx hZ e12 Ar13 (j := (1 : Int32)) hin13 (g := (mkF m 39 #[.val (.int len), .val (.int ca), .val (.int cb)] [(.int cb), (.int (1 : Int32)), (.ref b11), (.ref b11), (.ref b10), (.ref b10)])) rfl rfl (hb hby d1_39)
      rw [hnb] at W13
      have V13 : AV Z h13 b11 .char 2 (lst [(.int ca), (.int cb)]) := AV.setL V12 (k := 1) (by decide) (by decide) W13 (Nat.le_of_ble_eq_true rfl) rfl
      have N13 := Fr.snoc X13 N12 gn_b11
      have Z13 : n0 ≤ h13.size := Nat.le_trans Z12 (Keep.of_wr W13).1
      have K13 : Keep hI h13 [] := K12.wr W13 (Or.inr sz_b11)
      refine Go.step (st13) ?_
      show Go _ _ _ _ _ _ _ T13 (mkF m 40 _ [(.ref b11), (.ref b10), (.ref b10)])
      have f15 := (Sta.wr W13 (Sta.wr W12 (Sta.ext E11 (Sta.ext E10 S0))))
      have f16 := (Exa.wr W13 (Exa.wr W12 (Exa.ext E11 A10)))
      have f17 := (Fld.other W13 (Fld.other W12 (Fld.ext E11 F10_coder) (Or.inl ne_b10_b11)) (Or.inl ne_b10_b11))
      have f18 := (Fld.other W13 (Fld.other W12 (Fld.ext E11 F10_value) (Or.inl ne_b10_b11)) (Or.inl ne_b10_b11))
      obtain ⟨v14, T14, L14, X14, q14, st14⟩ := c_init X13 hx hZ hown (y := (⟨"java/lang/String", "<init>", "([C)V"⟩ : MethodName)) (hw _ (List.mem_of_getElem? (i := 8) rfl)) (hw _ (List.mem_of_getElem? (i := 9) rfl)) (hw _ (List.mem_of_getElem? (i := 6) rfl)) (hw _ (List.mem_of_getElem? (i := 10) rfl)) rfl (by decide) (a := b10) (argsL := [(.ref b11)]) (rest := [(.ref b10)]) (rm2N l Z a0 hw [] b10 b11 ca cb cs h13 n0 Z13 hLa hLb hcs f15 V13 f16 f17 f18 gn_b10 ne_b10_b11) e13 pd_7 rfl (by rw [hml]; rfl) (W := 1) (by show 2 * 0 + _ ≤ _; exact Nat.le_of_eq rfl) (by decide) (by decide) (by decide) (by decide) (hb hby d1_40) (Ls := #[.val (.int len), .val (.int ca), .val (.int cb)])
      generalize e14 : T14.heap = h14 at q14
      obtain ⟨rfl, N14q, K14q⟩ := q14
      have N14 := Fr.app N13 N14q
      have Z14 : n0 ≤ h14.size := Nat.le_trans Z13 K14q.1
      have K14 : Keep hI h14 [] := K13.trans K14q (allS (Or.inr sz_b10) all0)
      refine Go.step (st14) ?_
      show Go _ _ _ _ _ _ _ T14 (mkF m 43 _ [(.ref b10)])
      refine go_retA X14 hx (t := (.object "java/lang/String")) hret rfl hlk rfl (hb hby d1_43) ?_ (by decide) (by decide)
      try rw [e14]
      exact ⟨b10, rfl, N14, eI ▸ K14⟩
theorem ef_rm6 (m : MethodId) (x0 : Addr) : entryFrame m #[(.ref x0)] 1 = mkF m 0 #[.val (.ref x0)] [] := by first | (simp [entryFrame, mkF, argsToLocals, Value.category]; done) | rfl
theorem pn_4 : plainName "java/lang/Record" = true := by first | (simp [plainName, overriddenIn]; done) | decide +kernel
theorem d6_0 : decode jdk_30_method_1_code 0 = .ok (.aload_n 0, 1) := by decide +kernel
theorem d6_1 : decode jdk_30_method_1_code 1 = .ok (.invokespecial 1, 3) := by decide +kernel
theorem d6_4 : decode jdk_30_method_1_code 4 = .ok (.return_, 1) := by decide +kernel
set_option maxRecDepth 65536 in
set_option maxHeartbeats 40000000 in
theorem rm6 (l : Launch) (Z : State) (a0 : Array Value) (hw : ∀ d ∈ tables_1, d.before a0 Z = true) (ws : List Jvm.Cond) (a : Addr) (h0 : Heap) (n0 : Nat) (Z0 : n0 ≤ h0.size)  :
    Ctr l Z (⟨"java/lang/Record", "<init>", "()V"⟩ : MethodName) jdk_30_method_1_code 1 none ws ({ frames := 1, cells := 0, slots := 0, locals := 12 } : Room) 0 0 #[(.ref a)] h0 (fun v h L => v = none ∧ L = [] ∧ h = h0) := by
  refine Ctr.mk (plainFor_of_name pn_4) fun p e s m below meth c T0 X0 C e0 => go_cast (ef_rm6 m a) ?_
  have N0 := Fr.nil n0
  obtain ⟨hx, hZ, hby, hml, hown, hnm, hret, hlk⟩ := C
  show Go _ _ _ _ _ _ _ T0 (mkF m 0 #[.val (.ref a)] [])
  refine Go.step (fun tt kk => XS.aloadN X0.here hx rfl (hb hby d6_0) rfl rfl kk) ?_
  show Go _ _ _ _ _ _ _ T0 (mkF m 1 _ [(.ref a)])
  obtain ⟨T1, X1, e1, st1⟩ := initO X0 hx hZ hown (hw _ (List.mem_of_getElem? (i := 37) rfl)) (hw _ (List.mem_of_getElem? (i := 16) rfl)) (hw _ (List.mem_of_getElem? (i := 17) rfl)) e0 (g := (mkF m 1 #[.val (.ref a)] [(.ref a)])) rfl (by rw [hml]; rfl) rfl (hb hby d6_1) (by decide) (W := 0) (by show 2 * 0 + _ ≤ _; exact Nat.le_of_eq rfl) (by decide)
  refine Go.step (st1) ?_
  show Go _ _ _ _ _ _ _ T1 (mkF m 4 _ [])
  refine go_ret X1 hx hret hlk (hb hby d6_4) ?_ (by decide) (by decide)
  try rw [e1]
  exact ⟨rfl, rfl, rfl⟩
theorem ef_rm5NN (m : MethodId) (x0 : Addr) (x1 : Int32) (x2 : Int64) (x5 : Int64) : entryFrame m #[(.ref x0), (.int x1), (.long x2), .null, .null, (.long x5)] 8 = mkF m 0 #[.val (.ref x0), .val (.int x1), .val (.long x2), .second, .val .null, .val .null, .val (.long x5), .second] [] := by first | (simp [entryFrame, mkF, argsToLocals, Value.category]; done) | rfl
theorem pn_5 : plainName "com/example/sleet/sleet/LeaseRecord" = true := by first | (simp [plainName, overriddenIn]; done) | decide +kernel
theorem d5_0 : decode prog_20_method_1_code 0 = .ok (.aload_n 0, 1) := by decide +kernel
theorem pd_9 : parseMethodDescriptor "()V" = some ⟨[], none⟩ := by decide +kernel
theorem d5_1 : decode prog_20_method_1_code 1 = .ok (.invokespecial 1, 3) := by decide +kernel
theorem d5_4 : decode prog_20_method_1_code 4 = .ok (.aload_n 0, 1) := by decide +kernel
theorem d5_5 : decode prog_20_method_1_code 5 = .ok (.iload_n 1, 1) := by decide +kernel
theorem d5_6 : decode prog_20_method_1_code 6 = .ok (.putfield 7, 3) := by decide +kernel
theorem d5_9 : decode prog_20_method_1_code 9 = .ok (.aload_n 0, 1) := by decide +kernel
theorem d5_10 : decode prog_20_method_1_code 10 = .ok (.lload_n 2, 1) := by decide +kernel
theorem d5_11 : decode prog_20_method_1_code 11 = .ok (.putfield 13, 3) := by decide +kernel
theorem d5_14 : decode prog_20_method_1_code 14 = .ok (.aload_n 0, 1) := by decide +kernel
theorem d5_15 : decode prog_20_method_1_code 15 = .ok (.aload 4, 2) := by decide +kernel
theorem d5_17 : decode prog_20_method_1_code 17 = .ok (.putfield 17, 3) := by decide +kernel
theorem d5_20 : decode prog_20_method_1_code 20 = .ok (.aload_n 0, 1) := by decide +kernel
theorem d5_21 : decode prog_20_method_1_code 21 = .ok (.aload 5, 2) := by decide +kernel
theorem d5_23 : decode prog_20_method_1_code 23 = .ok (.putfield 21, 3) := by decide +kernel
theorem d5_26 : decode prog_20_method_1_code 26 = .ok (.aload_n 0, 1) := by decide +kernel
theorem d5_27 : decode prog_20_method_1_code 27 = .ok (.lload 6, 2) := by decide +kernel
theorem d5_29 : decode prog_20_method_1_code 29 = .ok (.putfield 24, 3) := by decide +kernel
theorem d5_32 : decode prog_20_method_1_code 32 = .ok (.return_, 1) := by decide +kernel
set_option maxRecDepth 65536 in
set_option maxHeartbeats 40000000 in
theorem rm5NN (l : Launch) (Z : State) (a0 : Array Value) (hw : ∀ d ∈ tables_1, d.before a0 Z = true) (ws : List Jvm.Cond) (a : Addr) (x1 : Int32) (x2 x3 : Int64) (h0 : Heap) (n0 : Nat) (Z0 : n0 ≤ h0.size) (E_a : Exa Z h0 a "com/example/sleet/sleet/LeaseRecord") (F_0 : Fld Z h0 a "com/example/sleet/sleet/LeaseRecord" "node" "I" (.int (0 : Int32))) (F_1 : Fld Z h0 a "com/example/sleet/sleet/LeaseRecord" "mark" "J" (.long (0 : Int64))) (F_2 : Fld Z h0 a "com/example/sleet/sleet/LeaseRecord" "token" "Ljava/lang/String;" .null) (F_3 : Fld Z h0 a "com/example/sleet/sleet/LeaseRecord" "holder" "Ljava/lang/String;" .null) (F_4 : Fld Z h0 a "com/example/sleet/sleet/LeaseRecord" "expires" "J" (.long (0 : Int64))) (g_a : n0 ≤ a) :
    Ctr l Z (⟨"com/example/sleet/sleet/LeaseRecord", "<init>", "(IJLjava/lang/String;Ljava/lang/String;J)V"⟩ : MethodName) prog_20_method_1_code 8 none ws ({ frames := 2, cells := 0, slots := 0, locals := 24 } : Room) 0 0 #[(.ref a), (.int x1), (.long x2), .null, .null, (.long x3)] h0 (fun v h L => v = none ∧ Fr n0 L ∧ Keep h0 h [a] ∧ Exa Z h a "com/example/sleet/sleet/LeaseRecord" ∧ Fld Z h a "com/example/sleet/sleet/LeaseRecord" "node" "I" (.int x1) ∧ Fld Z h a "com/example/sleet/sleet/LeaseRecord" "mark" "J" (.long x2) ∧ Fld Z h a "com/example/sleet/sleet/LeaseRecord" "token" "Ljava/lang/String;" .null) := by
  refine Ctr.mk (plainFor_of_name pn_5) fun p e s m below meth c T0 X0 C e0 => go_cast (ef_rm5NN m a x1 x2 x3) ?_
  have N0 := Fr.nil n0
  obtain ⟨hx, hZ, hby, hml, hown, hnm, hret, hlk⟩ := C
  obtain ⟨hI, eI⟩ : ∃ z, z = h0 := ⟨_, rfl⟩
  have K0 : Keep hI h0 [a] := by rw [eI]; exact Keep.refl _ _
  show Go _ _ _ _ _ _ _ T0 (mkF m 0 #[.val (.ref a), .val (.int x1), .val (.long x2), .second, .val .null, .val .null, .val (.long x3), .second] [])
  refine Go.step (fun tt kk => XS.aloadN X0.here hx rfl (hb hby d5_0) rfl rfl kk) ?_
  show Go _ _ _ _ _ _ _ T0 (mkF m 1 _ [(.ref a)])
  obtain ⟨v1, T1, L1, X1, q1, st1⟩ := c_init X0 hx hZ hown (y := (⟨"java/lang/Record", "<init>", "()V"⟩ : MethodName)) (hw _ (List.mem_of_getElem? (i := 32) rfl)) (hw _ (List.mem_of_getElem? (i := 33) rfl)) (hw _ (List.mem_of_getElem? (i := 35) rfl)) (hw _ (List.mem_of_getElem? (i := 36) rfl)) rfl (by decide) (a := a) (argsL := []) (rest := []) (rm6 l Z a0 hw [] a  h0 n0 Z0 ) e0 pd_9 rfl (by rw [hml]; rfl) (W := 0) (by show 2 * 0 + _ ≤ _; exact Nat.le_of_eq rfl) (by decide) (by decide) (by decide) (by decide) (hb hby d5_1) (Ls := #[.val (.ref a), .val (.int x1), .val (.long x2), .second, .val .null, .val .null, .val (.long x3), .second])
  obtain ⟨rfl, rfl, e1⟩ := q1
  have N1 := Fr.app N0 (Fr.nil n0)
  refine Go.step (st1) ?_
  show Go _ _ _ _ _ _ _ T1 (mkF m 4 _ [])
  refine Go.step (fun tt kk => XS.aloadN X1.here hx rfl (hb hby d5_4) rfl rfl kk) ?_
  show Go _ _ _ _ _ _ _ T1 (mkF m 5 _ [(.ref a)])
  refine Go.step (fun tt kk => XS.iloadN X1.here hx rfl (hb hby d5_5) rfl kk) ?_
  show Go _ _ _ _ _ _ _ T1 (mkF m 6 _ [(.int x1), (.ref a)])
  obtain ⟨T2, h2, X2, e2, W2, st2⟩ := putF X1 hx hZ hown (host := "") (Or.inl (hw _ (List.mem_of_getElem? (i := 38) rfl))) Via.refl e1 F_0 E_a (Or.inr ⟨(hw _ (List.mem_of_getElem? (i := 39) rfl)), rfl, hnm⟩) (hw _ (List.mem_of_getElem? (i := 27) rfl)) (ty := .int) (by decide) rfl rfl (g := (mkF m 6 #[.val (.ref a), .val (.int x1), .val (.long x2), .second, .val .null, .val .null, .val (.long x3), .second] [(.int x1), (.ref a)])) rfl rfl (hb hby d5_6)
  have F2 := Fld.same W2 F_0
  have N2 := Fr.snoc X2 N1 g_a
  have Z2 : n0 ≤ h2.size := Nat.le_trans Z0 (Keep.of_wr W2).1
  have K2 : Keep hI h2 [a] := K0.wr W2 (Or.inl (List.mem_of_getElem? (i := 0) rfl))
  refine Go.step (st2) ?_
  show Go _ _ _ _ _ _ _ T2 (mkF m 9 _ [])
  refine Go.step (fun tt kk => XS.aloadN X2.here hx rfl (hb hby d5_9) rfl rfl kk) ?_
  show Go _ _ _ _ _ _ _ T2 (mkF m 10 _ [(.ref a)])
  refine Go.step (fun tt kk => XS.lloadN X2.here hx rfl (hb hby d5_10) rfl kk) ?_
  show Go _ _ _ _ _ _ _ T2 (mkF m 11 _ [(.long x2), (.ref a)])
  have f4 := (Fld.other W2 F_1 (Or.inr (slot_ne (Or.inr (hw _ (List.mem_of_getElem? (i := 41) rfl))) (Or.inr (hw _ (List.mem_of_getElem? (i := 39) rfl))) (by decide) (t := .long) (t' := .int) (by decide) (by decide))))
  have f5 := (Exa.wr W2 E_a)
  obtain ⟨T3, h3, X3, e3, W3, st3⟩ := putF X2 hx hZ hown (host := "") (Or.inl (hw _ (List.mem_of_getElem? (i := 40) rfl))) Via.refl e2 f4 f5 (Or.inr ⟨(hw _ (List.mem_of_getElem? (i := 41) rfl)), rfl, hnm⟩) (hw _ (List.mem_of_getElem? (i := 27) rfl)) (ty := .long) (by decide) rfl rfl (g := (mkF m 11 #[.val (.ref a), .val (.int x1), .val (.long x2), .second, .val .null, .val .null, .val (.long x3), .second] [(.long x2), (.ref a)])) rfl rfl (hb hby d5_11)
  have F3 := Fld.same W3 f4
  have N3 := Fr.snoc X3 N2 g_a
  have Z3 : n0 ≤ h3.size := Nat.le_trans Z2 (Keep.of_wr W3).1
  have K3 : Keep hI h3 [a] := K2.wr W3 (Or.inl (List.mem_of_getElem? (i := 0) rfl))
  refine Go.step (st3) ?_
  show Go _ _ _ _ _ _ _ T3 (mkF m 14 _ [])
  refine Go.step (fun tt kk => XS.aloadN X3.here hx rfl (hb hby d5_14) rfl rfl kk) ?_
  show Go _ _ _ _ _ _ _ T3 (mkF m 15 _ [(.ref a)])
  refine Go.step (fun tt kk => XS.aload X3.here hx rfl (hb hby d5_15) rfl rfl kk) ?_
  show Go _ _ _ _ _ _ _ T3 (mkF m 17 _ [.null, (.ref a)])
  have f7 := (Fld.other W3 (Fld.other W2 F_2 (Or.inr (slot_ne (Or.inr (hw _ (List.mem_of_getElem? (i := 43) rfl))) (Or.inr (hw _ (List.mem_of_getElem? (i := 39) rfl))) (by decide) (t := (.object "java/lang/String")) (t' := .int) (by decide) (by decide)))) (Or.inr (slot_ne (Or.inr (hw _ (List.mem_of_getElem? (i := 43) rfl))) (Or.inr (hw _ (List.mem_of_getElem? (i := 41) rfl))) (by decide) (t := (.object "java/lang/String")) (t' := .long) (by decide) (by decide))))
  have f8 := (Exa.wr W3 f5)
  obtain ⟨T6, h6, X6, e6, W6, st6⟩ := putF X3 hx hZ hown (host := "") (Or.inl (hw _ (List.mem_of_getElem? (i := 42) rfl))) Via.refl e3 f7 f8 (Or.inr ⟨(hw _ (List.mem_of_getElem? (i := 43) rfl)), rfl, hnm⟩) (hw _ (List.mem_of_getElem? (i := 27) rfl)) (ty := (.object "java/lang/String")) (by decide) rfl rfl (g := (mkF m 17 #[.val (.ref a), .val (.int x1), .val (.long x2), .second, .val .null, .val .null, .val (.long x3), .second] [.null, (.ref a)])) rfl rfl (hb hby d5_17)
  have F6 := Fld.same W6 f7
  have N6 := Fr.snoc X6 N3 g_a
  have Z6 : n0 ≤ h6.size := Nat.le_trans Z3 (Keep.of_wr W6).1
  have K6 : Keep hI h6 [a] := K3.wr W6 (Or.inl (List.mem_of_getElem? (i := 0) rfl))
  refine Go.step (st6) ?_
  show Go _ _ _ _ _ _ _ T6 (mkF m 20 _ [])
  refine Go.step (fun tt kk => XS.aloadN X6.here hx rfl (hb hby d5_20) rfl rfl kk) ?_
  show Go _ _ _ _ _ _ _ T6 (mkF m 21 _ [(.ref a)])
  refine Go.step (fun tt kk => XS.aload X6.here hx rfl (hb hby d5_21) rfl rfl kk) ?_
  show Go _ _ _ _ _ _ _ T6 (mkF m 23 _ [.null, (.ref a)])
  have f10 := (Fld.other W6 (Fld.other W3 (Fld.other W2 F_3 (Or.inr (slot_ne (Or.inr (hw _ (List.mem_of_getElem? (i := 45) rfl))) (Or.inr (hw _ (List.mem_of_getElem? (i := 39) rfl))) (by decide) (t := (.object "java/lang/String")) (t' := .int) (by decide) (by decide)))) (Or.inr (slot_ne (Or.inr (hw _ (List.mem_of_getElem? (i := 45) rfl))) (Or.inr (hw _ (List.mem_of_getElem? (i := 41) rfl))) (by decide) (t := (.object "java/lang/String")) (t' := .long) (by decide) (by decide)))) (Or.inr (slot_ne (Or.inr (hw _ (List.mem_of_getElem? (i := 45) rfl))) (Or.inr (hw _ (List.mem_of_getElem? (i := 43) rfl))) (by decide) (t := (.object "java/lang/String")) (t' := (.object "java/lang/String")) (by decide) (by decide))))
  have f11 := (Exa.wr W6 f8)
  obtain ⟨T9, h9, X9, e9, W9, st9⟩ := putF X6 hx hZ hown (host := "") (Or.inl (hw _ (List.mem_of_getElem? (i := 44) rfl))) Via.refl e6 f10 f11 (Or.inr ⟨(hw _ (List.mem_of_getElem? (i := 45) rfl)), rfl, hnm⟩) (hw _ (List.mem_of_getElem? (i := 27) rfl)) (ty := (.object "java/lang/String")) (by decide) rfl rfl (g := (mkF m 23 #[.val (.ref a), .val (.int x1), .val (.long x2), .second, .val .null, .val .null, .val (.long x3), .second] [.null, (.ref a)])) rfl rfl (hb hby d5_23)
  have F9 := Fld.same W9 f10
  have N9 := Fr.snoc X9 N6 g_a
  have Z9 : n0 ≤ h9.size := Nat.le_trans Z6 (Keep.of_wr W9).1
  have K9 : Keep hI h9 [a] := K6.wr W9 (Or.inl (List.mem_of_getElem? (i := 0) rfl))
  refine Go.step (st9) ?_
  show Go _ _ _ _ _ _ _ T9 (mkF m 26 _ [])
  refine Go.step (fun tt kk => XS.aloadN X9.here hx rfl (hb hby d5_26) rfl rfl kk) ?_
  show Go _ _ _ _ _ _ _ T9 (mkF m 27 _ [(.ref a)])
  refine Go.step (fun tt kk => XS.lload X9.here hx rfl (hb hby d5_27) rfl kk) ?_
  show Go _ _ _ _ _ _ _ T9 (mkF m 29 _ [(.long x3), (.ref a)])
  have f13 := (Fld.other W9 (Fld.other W6 (Fld.other W3 (Fld.other W2 F_4 (Or.inr (slot_ne (Or.inr (hw _ (List.mem_of_getElem? (i := 47) rfl))) (Or.inr (hw _ (List.mem_of_getElem? (i := 39) rfl))) (by decide) (t := .long) (t' := .int) (by decide) (by decide)))) (Or.inr (slot_ne (Or.inr (hw _ (List.mem_of_getElem? (i := 47) rfl))) (Or.inr (hw _ (List.mem_of_getElem? (i := 41) rfl))) (by decide) (t := .long) (t' := .long) (by decide) (by decide)))) (Or.inr (slot_ne (Or.inr (hw _ (List.mem_of_getElem? (i := 47) rfl))) (Or.inr (hw _ (List.mem_of_getElem? (i := 43) rfl))) (by decide) (t := .long) (t' := (.object "java/lang/String")) (by decide) (by decide)))) (Or.inr (slot_ne (Or.inr (hw _ (List.mem_of_getElem? (i := 47) rfl))) (Or.inr (hw _ (List.mem_of_getElem? (i := 45) rfl))) (by decide) (t := .long) (t' := (.object "java/lang/String")) (by decide) (by decide))))
  have f14 := (Exa.wr W9 f11)
  obtain ⟨T12, h12, X12, e12, W12, st12⟩ := putF X9 hx hZ hown (host := "") (Or.inl (hw _ (List.mem_of_getElem? (i := 46) rfl))) Via.refl e9 f13 f14 (Or.inr ⟨(hw _ (List.mem_of_getElem? (i := 47) rfl)), rfl, hnm⟩) (hw _ (List.mem_of_getElem? (i := 27) rfl)) (ty := .long) (by decide) rfl rfl (g := (mkF m 29 #[.val (.ref a), .val (.int x1), .val (.long x2), .second, .val .null, .val .null, .val (.long x3), .second] [(.long x3), (.ref a)])) rfl rfl (hb hby d5_29)
  have F12 := Fld.same W12 f13
  have N12 := Fr.snoc X12 N9 g_a
  have Z12 : n0 ≤ h12.size := Nat.le_trans Z9 (Keep.of_wr W12).1
  have K12 : Keep hI h12 [a] := K9.wr W12 (Or.inl (List.mem_of_getElem? (i := 0) rfl))
  refine Go.step (st12) ?_
  show Go _ _ _ _ _ _ _ T12 (mkF m 32 _ [])
  have f15 := (Exa.wr W12 f14)
  have f16 := (Fld.other W12 (Fld.other W9 (Fld.other W6 (Fld.other W3 F2 (Or.inr (slot_ne (Or.inr (hw _ (List.mem_of_getElem? (i := 39) rfl))) (Or.inr (hw _ (List.mem_of_getElem? (i := 41) rfl))) (by decide) (t := .int) (t' := .long) (by decide) (by decide)))) (Or.inr (slot_ne (Or.inr (hw _ (List.mem_of_getElem? (i := 39) rfl))) (Or.inr (hw _ (List.mem_of_getElem? (i := 43) rfl))) (by decide) (t := .int) (t' := (.object "java/lang/String")) (by decide) (by decide)))) (Or.inr (slot_ne (Or.inr (hw _ (List.mem_of_getElem? (i := 39) rfl))) (Or.inr (hw _ (List.mem_of_getElem? (i := 45) rfl))) (by decide) (t := .int) (t' := (.object "java/lang/String")) (by decide) (by decide)))) (Or.inr (slot_ne (Or.inr (hw _ (List.mem_of_getElem? (i := 39) rfl))) (Or.inr (hw _ (List.mem_of_getElem? (i := 47) rfl))) (by decide) (t := .int) (t' := .long) (by decide) (by decide))))
  have f17 := (Fld.other W12 (Fld.other W9 (Fld.other W6 F3 (Or.inr (slot_ne (Or.inr (hw _ (List.mem_of_getElem? (i := 41) rfl))) (Or.inr (hw _ (List.mem_of_getElem? (i := 43) rfl))) (by decide) (t := .long) (t' := (.object "java/lang/String")) (by decide) (by decide)))) (Or.inr (slot_ne (Or.inr (hw _ (List.mem_of_getElem? (i := 41) rfl))) (Or.inr (hw _ (List.mem_of_getElem? (i := 45) rfl))) (by decide) (t := .long) (t' := (.object "java/lang/String")) (by decide) (by decide)))) (Or.inr (slot_ne (Or.inr (hw _ (List.mem_of_getElem? (i := 41) rfl))) (Or.inr (hw _ (List.mem_of_getElem? (i := 47) rfl))) (by decide) (t := .long) (t' := .long) (by decide) (by decide))))
  have f18 := (Fld.other W12 (Fld.other W9 F6 (Or.inr (slot_ne (Or.inr (hw _ (List.mem_of_getElem? (i := 43) rfl))) (Or.inr (hw _ (List.mem_of_getElem? (i := 45) rfl))) (by decide) (t := (.object "java/lang/String")) (t' := (.object "java/lang/String")) (by decide) (by decide)))) (Or.inr (slot_ne (Or.inr (hw _ (List.mem_of_getElem? (i := 43) rfl))) (Or.inr (hw _ (List.mem_of_getElem? (i := 47) rfl))) (by decide) (t := (.object "java/lang/String")) (t' := .long) (by decide) (by decide))))
  refine go_ret X12 hx hret hlk (hb hby d5_32) ?_ (by decide) (by decide)
  try rw [e12]
  exact ⟨rfl, N12, eI ▸ K12, f15, f16, f17, f18⟩
theorem ef_rm5RR (m : MethodId) (x0 : Addr) (x1 : Int32) (x2 : Int64) (x3 : Addr) (x4 : Addr) (x5 : Int64) : entryFrame m #[(.ref x0), (.int x1), (.long x2), (.ref x3), (.ref x4), (.long x5)] 8 = mkF m 0 #[.val (.ref x0), .val (.int x1), .val (.long x2), .second, .val (.ref x3), .val (.ref x4), .val (.long x5), .second] [] := by first | (simp [entryFrame, mkF, argsToLocals, Value.category]; done) | rfl
set_option maxRecDepth 65536 in
set_option maxHeartbeats 40000000 in
theorem rm5RR (l : Launch) (Z : State) (a0 : Array Value) (hw : ∀ d ∈ tables_1, d.before a0 Z = true) (ws : List Jvm.Cond) (a : Addr) (x1 : Int32) (x2 x3 : Int64) (tk : Addr) (hd : Addr) (h0 : Heap) (n0 : Nat) (Z0 : n0 ≤ h0.size) (E_a : Exa Z h0 a "com/example/sleet/sleet/LeaseRecord") (F_0 : Fld Z h0 a "com/example/sleet/sleet/LeaseRecord" "node" "I" (.int (0 : Int32))) (F_1 : Fld Z h0 a "com/example/sleet/sleet/LeaseRecord" "mark" "J" (.long (0 : Int64))) (F_2 : Fld Z h0 a "com/example/sleet/sleet/LeaseRecord" "token" "Ljava/lang/String;" .null) (F_3 : Fld Z h0 a "com/example/sleet/sleet/LeaseRecord" "holder" "Ljava/lang/String;" .null) (F_4 : Fld Z h0 a "com/example/sleet/sleet/LeaseRecord" "expires" "J" (.long (0 : Int64))) (g_a : n0 ≤ a) :
    Ctr l Z (⟨"com/example/sleet/sleet/LeaseRecord", "<init>", "(IJLjava/lang/String;Ljava/lang/String;J)V"⟩ : MethodName) prog_20_method_1_code 8 none ws ({ frames := 2, cells := 0, slots := 0, locals := 24 } : Room) 0 0 #[(.ref a), (.int x1), (.long x2), (.ref tk), (.ref hd), (.long x3)] h0 (fun v h L => v = none ∧ Fr n0 L ∧ Keep h0 h [a] ∧ Exa Z h a "com/example/sleet/sleet/LeaseRecord" ∧ Fld Z h a "com/example/sleet/sleet/LeaseRecord" "node" "I" (.int x1) ∧ Fld Z h a "com/example/sleet/sleet/LeaseRecord" "mark" "J" (.long x2) ∧ Fld Z h a "com/example/sleet/sleet/LeaseRecord" "token" "Ljava/lang/String;" (.ref tk)) := by
  refine Ctr.mk (plainFor_of_name pn_5) fun p e s m below meth c T0 X0 C e0 => go_cast (ef_rm5RR m a x1 x2 tk hd x3) ?_
  have N0 := Fr.nil n0
  obtain ⟨hx, hZ, hby, hml, hown, hnm, hret, hlk⟩ := C
  obtain ⟨hI, eI⟩ : ∃ z, z = h0 := ⟨_, rfl⟩
  have K0 : Keep hI h0 [a] := by rw [eI]; exact Keep.refl _ _
  show Go _ _ _ _ _ _ _ T0 (mkF m 0 #[.val (.ref a), .val (.int x1), .val (.long x2), .second, .val (.ref tk), .val (.ref hd), .val (.long x3), .second] [])
  refine Go.step (fun tt kk => XS.aloadN X0.here hx rfl (hb hby d5_0) rfl rfl kk) ?_
  show Go _ _ _ _ _ _ _ T0 (mkF m 1 _ [(.ref a)])
  obtain ⟨v1, T1, L1, X1, q1, st1⟩ := c_init X0 hx hZ hown (y := (⟨"java/lang/Record", "<init>", "()V"⟩ : MethodName)) (hw _ (List.mem_of_getElem? (i := 32) rfl)) (hw _ (List.mem_of_getElem? (i := 33) rfl)) (hw _ (List.mem_of_getElem? (i := 35) rfl)) (hw _ (List.mem_of_getElem? (i := 36) rfl)) rfl (by decide) (a := a) (argsL := []) (rest := []) (rm6 l Z a0 hw [] a  h0 n0 Z0 ) e0 pd_9 rfl (by rw [hml]; rfl) (W := 0) (by show 2 * 0 + _ ≤ _; exact Nat.le_of_eq rfl) (by decide) (by decide) (by decide) (by decide) (hb hby d5_1) (Ls := #[.val (.ref a), .val (.int x1), .val (.long x2), .second, .val (.ref tk), .val (.ref hd), .val (.long x3), .second])
  obtain ⟨rfl, rfl, e1⟩ := q1
  have N1 := Fr.app N0 (Fr.nil n0)
  refine Go.step (st1) ?_
  show Go _ _ _ _ _ _ _ T1 (mkF m 4 _ [])
  refine Go.step (fun tt kk => XS.aloadN X1.here hx rfl (hb hby d5_4) rfl rfl kk) ?_
  show Go _ _ _ _ _ _ _ T1 (mkF m 5 _ [(.ref a)])
  refine Go.step (fun tt kk => XS.iloadN X1.here hx rfl (hb hby d5_5) rfl kk) ?_
  show Go _ _ _ _ _ _ _ T1 (mkF m 6 _ [(.int x1), (.ref a)])
  obtain ⟨T2, h2, X2, e2, W2, st2⟩ := putF X1 hx hZ hown (host := "") (Or.inl (hw _ (List.mem_of_getElem? (i := 38) rfl))) Via.refl e1 F_0 E_a (Or.inr ⟨(hw _ (List.mem_of_getElem? (i := 39) rfl)), rfl, hnm⟩) (hw _ (List.mem_of_getElem? (i := 27) rfl)) (ty := .int) (by decide) rfl rfl (g := (mkF m 6 #[.val (.ref a), .val (.int x1), .val (.long x2), .second, .val (.ref tk), .val (.ref hd), .val (.long x3), .second] [(.int x1), (.ref a)])) rfl rfl (hb hby d5_6)
  have F2 := Fld.same W2 F_0
  have N2 := Fr.snoc X2 N1 g_a
  have Z2 : n0 ≤ h2.size := Nat.le_trans Z0 (Keep.of_wr W2).1
  have K2 : Keep hI h2 [a] := K0.wr W2 (Or.inl (List.mem_of_getElem? (i := 0) rfl))
  refine Go.step (st2) ?_
  show Go _ _ _ _ _ _ _ T2 (mkF m 9 _ [])
  refine Go.step (fun tt kk => XS.aloadN X2.here hx rfl (hb hby d5_9) rfl rfl kk) ?_
  show Go _ _ _ _ _ _ _ T2 (mkF m 10 _ [(.ref a)])
  refine Go.step (fun tt kk => XS.lloadN X2.here hx rfl (hb hby d5_10) rfl kk) ?_
  show Go _ _ _ _ _ _ _ T2 (mkF m 11 _ [(.long x2), (.ref a)])
  have f4 := (Fld.other W2 F_1 (Or.inr (slot_ne (Or.inr (hw _ (List.mem_of_getElem? (i := 41) rfl))) (Or.inr (hw _ (List.mem_of_getElem? (i := 39) rfl))) (by decide) (t := .long) (t' := .int) (by decide) (by decide))))
  have f5 := (Exa.wr W2 E_a)
  obtain ⟨T3, h3, X3, e3, W3, st3⟩ := putF X2 hx hZ hown (host := "") (Or.inl (hw _ (List.mem_of_getElem? (i := 40) rfl))) Via.refl e2 f4 f5 (Or.inr ⟨(hw _ (List.mem_of_getElem? (i := 41) rfl)), rfl, hnm⟩) (hw _ (List.mem_of_getElem? (i := 27) rfl)) (ty := .long) (by decide) rfl rfl (g := (mkF m 11 #[.val (.ref a), .val (.int x1), .val (.long x2), .second, .val (.ref tk), .val (.ref hd), .val (.long x3), .second] [(.long x2), (.ref a)])) rfl rfl (hb hby d5_11)
  have F3 := Fld.same W3 f4
  have N3 := Fr.snoc X3 N2 g_a
  have Z3 : n0 ≤ h3.size := Nat.le_trans Z2 (Keep.of_wr W3).1
  have K3 : Keep hI h3 [a] := K2.wr W3 (Or.inl (List.mem_of_getElem? (i := 0) rfl))
  refine Go.step (st3) ?_
  show Go _ _ _ _ _ _ _ T3 (mkF m 14 _ [])
  refine Go.step (fun tt kk => XS.aloadN X3.here hx rfl (hb hby d5_14) rfl rfl kk) ?_
  show Go _ _ _ _ _ _ _ T3 (mkF m 15 _ [(.ref a)])
  refine Go.step (fun tt kk => XS.aload X3.here hx rfl (hb hby d5_15) rfl rfl kk) ?_
  show Go _ _ _ _ _ _ _ T3 (mkF m 17 _ [(.ref tk), (.ref a)])
  have f7 := (Fld.other W3 (Fld.other W2 F_2 (Or.inr (slot_ne (Or.inr (hw _ (List.mem_of_getElem? (i := 43) rfl))) (Or.inr (hw _ (List.mem_of_getElem? (i := 39) rfl))) (by decide) (t := (.object "java/lang/String")) (t' := .int) (by decide) (by decide)))) (Or.inr (slot_ne (Or.inr (hw _ (List.mem_of_getElem? (i := 43) rfl))) (Or.inr (hw _ (List.mem_of_getElem? (i := 41) rfl))) (by decide) (t := (.object "java/lang/String")) (t' := .long) (by decide) (by decide))))
  have f8 := (Exa.wr W3 f5)
  obtain ⟨T6, h6, X6, e6, W6, st6⟩ := putF X3 hx hZ hown (host := "") (Or.inl (hw _ (List.mem_of_getElem? (i := 42) rfl))) Via.refl e3 f7 f8 (Or.inr ⟨(hw _ (List.mem_of_getElem? (i := 43) rfl)), rfl, hnm⟩) (hw _ (List.mem_of_getElem? (i := 27) rfl)) (ty := (.object "java/lang/String")) (by decide) rfl rfl (g := (mkF m 17 #[.val (.ref a), .val (.int x1), .val (.long x2), .second, .val (.ref tk), .val (.ref hd), .val (.long x3), .second] [(.ref tk), (.ref a)])) rfl rfl (hb hby d5_17)
  have F6 := Fld.same W6 f7
  have N6 := Fr.snoc X6 N3 g_a
  have Z6 : n0 ≤ h6.size := Nat.le_trans Z3 (Keep.of_wr W6).1
  have K6 : Keep hI h6 [a] := K3.wr W6 (Or.inl (List.mem_of_getElem? (i := 0) rfl))
  refine Go.step (st6) ?_
  show Go _ _ _ _ _ _ _ T6 (mkF m 20 _ [])
  refine Go.step (fun tt kk => XS.aloadN X6.here hx rfl (hb hby d5_20) rfl rfl kk) ?_
  show Go _ _ _ _ _ _ _ T6 (mkF m 21 _ [(.ref a)])
  refine Go.step (fun tt kk => XS.aload X6.here hx rfl (hb hby d5_21) rfl rfl kk) ?_
  show Go _ _ _ _ _ _ _ T6 (mkF m 23 _ [(.ref hd), (.ref a)])
  have f10 := (Fld.other W6 (Fld.other W3 (Fld.other W2 F_3 (Or.inr (slot_ne (Or.inr (hw _ (List.mem_of_getElem? (i := 45) rfl))) (Or.inr (hw _ (List.mem_of_getElem? (i := 39) rfl))) (by decide) (t := (.object "java/lang/String")) (t' := .int) (by decide) (by decide)))) (Or.inr (slot_ne (Or.inr (hw _ (List.mem_of_getElem? (i := 45) rfl))) (Or.inr (hw _ (List.mem_of_getElem? (i := 41) rfl))) (by decide) (t := (.object "java/lang/String")) (t' := .long) (by decide) (by decide)))) (Or.inr (slot_ne (Or.inr (hw _ (List.mem_of_getElem? (i := 45) rfl))) (Or.inr (hw _ (List.mem_of_getElem? (i := 43) rfl))) (by decide) (t := (.object "java/lang/String")) (t' := (.object "java/lang/String")) (by decide) (by decide))))
  have f11 := (Exa.wr W6 f8)
  obtain ⟨T9, h9, X9, e9, W9, st9⟩ := putF X6 hx hZ hown (host := "") (Or.inl (hw _ (List.mem_of_getElem? (i := 44) rfl))) Via.refl e6 f10 f11 (Or.inr ⟨(hw _ (List.mem_of_getElem? (i := 45) rfl)), rfl, hnm⟩) (hw _ (List.mem_of_getElem? (i := 27) rfl)) (ty := (.object "java/lang/String")) (by decide) rfl rfl (g := (mkF m 23 #[.val (.ref a), .val (.int x1), .val (.long x2), .second, .val (.ref tk), .val (.ref hd), .val (.long x3), .second] [(.ref hd), (.ref a)])) rfl rfl (hb hby d5_23)
  have F9 := Fld.same W9 f10
  have N9 := Fr.snoc X9 N6 g_a
  have Z9 : n0 ≤ h9.size := Nat.le_trans Z6 (Keep.of_wr W9).1
  have K9 : Keep hI h9 [a] := K6.wr W9 (Or.inl (List.mem_of_getElem? (i := 0) rfl))
  refine Go.step (st9) ?_
  show Go _ _ _ _ _ _ _ T9 (mkF m 26 _ [])
  refine Go.step (fun tt kk => XS.aloadN X9.here hx rfl (hb hby d5_26) rfl rfl kk) ?_
  show Go _ _ _ _ _ _ _ T9 (mkF m 27 _ [(.ref a)])
  refine Go.step (fun tt kk => XS.lload X9.here hx rfl (hb hby d5_27) rfl kk) ?_
  show Go _ _ _ _ _ _ _ T9 (mkF m 29 _ [(.long x3), (.ref a)])
  have f13 := (Fld.other W9 (Fld.other W6 (Fld.other W3 (Fld.other W2 F_4 (Or.inr (slot_ne (Or.inr (hw _ (List.mem_of_getElem? (i := 47) rfl))) (Or.inr (hw _ (List.mem_of_getElem? (i := 39) rfl))) (by decide) (t := .long) (t' := .int) (by decide) (by decide)))) (Or.inr (slot_ne (Or.inr (hw _ (List.mem_of_getElem? (i := 47) rfl))) (Or.inr (hw _ (List.mem_of_getElem? (i := 41) rfl))) (by decide) (t := .long) (t' := .long) (by decide) (by decide)))) (Or.inr (slot_ne (Or.inr (hw _ (List.mem_of_getElem? (i := 47) rfl))) (Or.inr (hw _ (List.mem_of_getElem? (i := 43) rfl))) (by decide) (t := .long) (t' := (.object "java/lang/String")) (by decide) (by decide)))) (Or.inr (slot_ne (Or.inr (hw _ (List.mem_of_getElem? (i := 47) rfl))) (Or.inr (hw _ (List.mem_of_getElem? (i := 45) rfl))) (by decide) (t := .long) (t' := (.object "java/lang/String")) (by decide) (by decide))))
  have f14 := (Exa.wr W9 f11)
  obtain ⟨T12, h12, X12, e12, W12, st12⟩ := putF X9 hx hZ hown (host := "") (Or.inl (hw _ (List.mem_of_getElem? (i := 46) rfl))) Via.refl e9 f13 f14 (Or.inr ⟨(hw _ (List.mem_of_getElem? (i := 47) rfl)), rfl, hnm⟩) (hw _ (List.mem_of_getElem? (i := 27) rfl)) (ty := .long) (by decide) rfl rfl (g := (mkF m 29 #[.val (.ref a), .val (.int x1), .val (.long x2), .second, .val (.ref tk), .val (.ref hd), .val (.long x3), .second] [(.long x3), (.ref a)])) rfl rfl (hb hby d5_29)
  have F12 := Fld.same W12 f13
  have N12 := Fr.snoc X12 N9 g_a
  have Z12 : n0 ≤ h12.size := Nat.le_trans Z9 (Keep.of_wr W12).1
  have K12 : Keep hI h12 [a] := K9.wr W12 (Or.inl (List.mem_of_getElem? (i := 0) rfl))
  refine Go.step (st12) ?_
  show Go _ _ _ _ _ _ _ T12 (mkF m 32 _ [])
  have f15 := (Exa.wr W12 f14)
  have f16 := (Fld.other W12 (Fld.other W9 (Fld.other W6 (Fld.other W3 F2 (Or.inr (slot_ne (Or.inr (hw _ (List.mem_of_getElem? (i := 39) rfl))) (Or.inr (hw _ (List.mem_of_getElem? (i := 41) rfl))) (by decide) (t := .int) (t' := .long) (by decide) (by decide)))) (Or.inr (slot_ne (Or.inr (hw _ (List.mem_of_getElem? (i := 39) rfl))) (Or.inr (hw _ (List.mem_of_getElem? (i := 43) rfl))) (by decide) (t := .int) (t' := (.object "java/lang/String")) (by decide) (by decide)))) (Or.inr (slot_ne (Or.inr (hw _ (List.mem_of_getElem? (i := 39) rfl))) (Or.inr (hw _ (List.mem_of_getElem? (i := 45) rfl))) (by decide) (t := .int) (t' := (.object "java/lang/String")) (by decide) (by decide)))) (Or.inr (slot_ne (Or.inr (hw _ (List.mem_of_getElem? (i := 39) rfl))) (Or.inr (hw _ (List.mem_of_getElem? (i := 47) rfl))) (by decide) (t := .int) (t' := .long) (by decide) (by decide))))
  have f17 := (Fld.other W12 (Fld.other W9 (Fld.other W6 F3 (Or.inr (slot_ne (Or.inr (hw _ (List.mem_of_getElem? (i := 41) rfl))) (Or.inr (hw _ (List.mem_of_getElem? (i := 43) rfl))) (by decide) (t := .long) (t' := (.object "java/lang/String")) (by decide) (by decide)))) (Or.inr (slot_ne (Or.inr (hw _ (List.mem_of_getElem? (i := 41) rfl))) (Or.inr (hw _ (List.mem_of_getElem? (i := 45) rfl))) (by decide) (t := .long) (t' := (.object "java/lang/String")) (by decide) (by decide)))) (Or.inr (slot_ne (Or.inr (hw _ (List.mem_of_getElem? (i := 41) rfl))) (Or.inr (hw _ (List.mem_of_getElem? (i := 47) rfl))) (by decide) (t := .long) (t' := .long) (by decide) (by decide))))
  have f18 := (Fld.other W12 (Fld.other W9 F6 (Or.inr (slot_ne (Or.inr (hw _ (List.mem_of_getElem? (i := 43) rfl))) (Or.inr (hw _ (List.mem_of_getElem? (i := 45) rfl))) (by decide) (t := (.object "java/lang/String")) (t' := (.object "java/lang/String")) (by decide) (by decide)))) (Or.inr (slot_ne (Or.inr (hw _ (List.mem_of_getElem? (i := 43) rfl))) (Or.inr (hw _ (List.mem_of_getElem? (i := 47) rfl))) (by decide) (t := (.object "java/lang/String")) (t' := .long) (by decide) (by decide))))
  refine go_ret X12 hx hret hlk (hb hby d5_32) ?_ (by decide) (by decide)
  try rw [e12]
  exact ⟨rfl, N12, eI ▸ K12, f15, f16, f17, f18⟩
theorem ef_rm5RN (m : MethodId) (x0 : Addr) (x1 : Int32) (x2 : Int64) (x3 : Addr) (x5 : Int64) : entryFrame m #[(.ref x0), (.int x1), (.long x2), (.ref x3), .null, (.long x5)] 8 = mkF m 0 #[.val (.ref x0), .val (.int x1), .val (.long x2), .second, .val (.ref x3), .val .null, .val (.long x5), .second] [] := by first | (simp [entryFrame, mkF, argsToLocals, Value.category]; done) | rfl
set_option maxRecDepth 65536 in
set_option maxHeartbeats 40000000 in
theorem rm5RN (l : Launch) (Z : State) (a0 : Array Value) (hw : ∀ d ∈ tables_1, d.before a0 Z = true) (ws : List Jvm.Cond) (a : Addr) (x1 : Int32) (x2 x3 : Int64) (tk : Addr) (h0 : Heap) (n0 : Nat) (Z0 : n0 ≤ h0.size) (E_a : Exa Z h0 a "com/example/sleet/sleet/LeaseRecord") (F_0 : Fld Z h0 a "com/example/sleet/sleet/LeaseRecord" "node" "I" (.int (0 : Int32))) (F_1 : Fld Z h0 a "com/example/sleet/sleet/LeaseRecord" "mark" "J" (.long (0 : Int64))) (F_2 : Fld Z h0 a "com/example/sleet/sleet/LeaseRecord" "token" "Ljava/lang/String;" .null) (F_3 : Fld Z h0 a "com/example/sleet/sleet/LeaseRecord" "holder" "Ljava/lang/String;" .null) (F_4 : Fld Z h0 a "com/example/sleet/sleet/LeaseRecord" "expires" "J" (.long (0 : Int64))) (g_a : n0 ≤ a) :
    Ctr l Z (⟨"com/example/sleet/sleet/LeaseRecord", "<init>", "(IJLjava/lang/String;Ljava/lang/String;J)V"⟩ : MethodName) prog_20_method_1_code 8 none ws ({ frames := 2, cells := 0, slots := 0, locals := 24 } : Room) 0 0 #[(.ref a), (.int x1), (.long x2), (.ref tk), .null, (.long x3)] h0 (fun v h L => v = none ∧ Fr n0 L ∧ Keep h0 h [a] ∧ Exa Z h a "com/example/sleet/sleet/LeaseRecord" ∧ Fld Z h a "com/example/sleet/sleet/LeaseRecord" "node" "I" (.int x1) ∧ Fld Z h a "com/example/sleet/sleet/LeaseRecord" "mark" "J" (.long x2) ∧ Fld Z h a "com/example/sleet/sleet/LeaseRecord" "token" "Ljava/lang/String;" (.ref tk)) := by
  refine Ctr.mk (plainFor_of_name pn_5) fun p e s m below meth c T0 X0 C e0 => go_cast (ef_rm5RN m a x1 x2 tk x3) ?_
  have N0 := Fr.nil n0
  obtain ⟨hx, hZ, hby, hml, hown, hnm, hret, hlk⟩ := C
  obtain ⟨hI, eI⟩ : ∃ z, z = h0 := ⟨_, rfl⟩
  have K0 : Keep hI h0 [a] := by rw [eI]; exact Keep.refl _ _
  show Go _ _ _ _ _ _ _ T0 (mkF m 0 #[.val (.ref a), .val (.int x1), .val (.long x2), .second, .val (.ref tk), .val .null, .val (.long x3), .second] [])
  refine Go.step (fun tt kk => XS.aloadN X0.here hx rfl (hb hby d5_0) rfl rfl kk) ?_
  show Go _ _ _ _ _ _ _ T0 (mkF m 1 _ [(.ref a)])
  obtain ⟨v1, T1, L1, X1, q1, st1⟩ := c_init X0 hx hZ hown (y := (⟨"java/lang/Record", "<init>", "()V"⟩ : MethodName)) (hw _ (List.mem_of_getElem? (i := 32) rfl)) (hw _ (List.mem_of_getElem? (i := 33) rfl)) (hw _ (List.mem_of_getElem? (i := 35) rfl)) (hw _ (List.mem_of_getElem? (i := 36) rfl)) rfl (by decide) (a := a) (argsL := []) (rest := []) (rm6 l Z a0 hw [] a  h0 n0 Z0 ) e0 pd_9 rfl (by rw [hml]; rfl) (W := 0) (by show 2 * 0 + _ ≤ _; exact Nat.le_of_eq rfl) (by decide) (by decide) (by decide) (by decide) (hb hby d5_1) (Ls := #[.val (.ref a), .val (.int x1), .val (.long x2), .second, .val (.ref tk), .val .null, .val (.long x3), .second])
  obtain ⟨rfl, rfl, e1⟩ := q1
  have N1 := Fr.app N0 (Fr.nil n0)
  refine Go.step (st1) ?_
  show Go _ _ _ _ _ _ _ T1 (mkF m 4 _ [])
  refine Go.step (fun tt kk => XS.aloadN X1.here hx rfl (hb hby d5_4) rfl rfl kk) ?_
  show Go _ _ _ _ _ _ _ T1 (mkF m 5 _ [(.ref a)])
  refine Go.step (fun tt kk => XS.iloadN X1.here hx rfl (hb hby d5_5) rfl kk) ?_
  show Go _ _ _ _ _ _ _ T1 (mkF m 6 _ [(.int x1), (.ref a)])
  obtain ⟨T2, h2, X2, e2, W2, st2⟩ := putF X1 hx hZ hown (host := "") (Or.inl (hw _ (List.mem_of_getElem? (i := 38) rfl))) Via.refl e1 F_0 E_a (Or.inr ⟨(hw _ (List.mem_of_getElem? (i := 39) rfl)), rfl, hnm⟩) (hw _ (List.mem_of_getElem? (i := 27) rfl)) (ty := .int) (by decide) rfl rfl (g := (mkF m 6 #[.val (.ref a), .val (.int x1), .val (.long x2), .second, .val (.ref tk), .val .null, .val (.long x3), .second] [(.int x1), (.ref a)])) rfl rfl (hb hby d5_6)
  have F2 := Fld.same W2 F_0
  have N2 := Fr.snoc X2 N1 g_a
  have Z2 : n0 ≤ h2.size := Nat.le_trans Z0 (Keep.of_wr W2).1
  have K2 : Keep hI h2 [a] := K0.wr W2 (Or.inl (List.mem_of_getElem? (i := 0) rfl))
  refine Go.step (st2) ?_
  show Go _ _ _ _ _ _ _ T2 (mkF m 9 _ [])
  refine Go.step (fun tt kk => XS.aloadN X2.here hx rfl (hb hby d5_9) rfl rfl kk) ?_
  show Go _ _ _ _ _ _ _ T2 (mkF m 10 _ [(.ref a)])
  refine Go.step (fun tt kk => XS.lloadN X2.here hx rfl (hb hby d5_10) rfl kk) ?_
  show Go _ _ _ _ _ _ _ T2 (mkF m 11 _ [(.long x2), (.ref a)])
  have f4 := (Fld.other W2 F_1 (Or.inr (slot_ne (Or.inr (hw _ (List.mem_of_getElem? (i := 41) rfl))) (Or.inr (hw _ (List.mem_of_getElem? (i := 39) rfl))) (by decide) (t := .long) (t' := .int) (by decide) (by decide))))
  have f5 := (Exa.wr W2 E_a)
  obtain ⟨T3, h3, X3, e3, W3, st3⟩ := putF X2 hx hZ hown (host := "") (Or.inl (hw _ (List.mem_of_getElem? (i := 40) rfl))) Via.refl e2 f4 f5 (Or.inr ⟨(hw _ (List.mem_of_getElem? (i := 41) rfl)), rfl, hnm⟩) (hw _ (List.mem_of_getElem? (i := 27) rfl)) (ty := .long) (by decide) rfl rfl (g := (mkF m 11 #[.val (.ref a), .val (.int x1), .val (.long x2), .second, .val (.ref tk), .val .null, .val (.long x3), .second] [(.long x2), (.ref a)])) rfl rfl (hb hby d5_11)
  have F3 := Fld.same W3 f4
  have N3 := Fr.snoc X3 N2 g_a
  have Z3 : n0 ≤ h3.size := Nat.le_trans Z2 (Keep.of_wr W3).1
  have K3 : Keep hI h3 [a] := K2.wr W3 (Or.inl (List.mem_of_getElem? (i := 0) rfl))
  refine Go.step (st3) ?_
  show Go _ _ _ _ _ _ _ T3 (mkF m 14 _ [])
  refine Go.step (fun tt kk => XS.aloadN X3.here hx rfl (hb hby d5_14) rfl rfl kk) ?_
  show Go _ _ _ _ _ _ _ T3 (mkF m 15 _ [(.ref a)])
  refine Go.step (fun tt kk => XS.aload X3.here hx rfl (hb hby d5_15) rfl rfl kk) ?_
  show Go _ _ _ _ _ _ _ T3 (mkF m 17 _ [(.ref tk), (.ref a)])
  have f7 := (Fld.other W3 (Fld.other W2 F_2 (Or.inr (slot_ne (Or.inr (hw _ (List.mem_of_getElem? (i := 43) rfl))) (Or.inr (hw _ (List.mem_of_getElem? (i := 39) rfl))) (by decide) (t := (.object "java/lang/String")) (t' := .int) (by decide) (by decide)))) (Or.inr (slot_ne (Or.inr (hw _ (List.mem_of_getElem? (i := 43) rfl))) (Or.inr (hw _ (List.mem_of_getElem? (i := 41) rfl))) (by decide) (t := (.object "java/lang/String")) (t' := .long) (by decide) (by decide))))
  have f8 := (Exa.wr W3 f5)
  obtain ⟨T6, h6, X6, e6, W6, st6⟩ := putF X3 hx hZ hown (host := "") (Or.inl (hw _ (List.mem_of_getElem? (i := 42) rfl))) Via.refl e3 f7 f8 (Or.inr ⟨(hw _ (List.mem_of_getElem? (i := 43) rfl)), rfl, hnm⟩) (hw _ (List.mem_of_getElem? (i := 27) rfl)) (ty := (.object "java/lang/String")) (by decide) rfl rfl (g := (mkF m 17 #[.val (.ref a), .val (.int x1), .val (.long x2), .second, .val (.ref tk), .val .null, .val (.long x3), .second] [(.ref tk), (.ref a)])) rfl rfl (hb hby d5_17)
  have F6 := Fld.same W6 f7
  have N6 := Fr.snoc X6 N3 g_a
  have Z6 : n0 ≤ h6.size := Nat.le_trans Z3 (Keep.of_wr W6).1
  have K6 : Keep hI h6 [a] := K3.wr W6 (Or.inl (List.mem_of_getElem? (i := 0) rfl))
  refine Go.step (st6) ?_
  show Go _ _ _ _ _ _ _ T6 (mkF m 20 _ [])
  refine Go.step (fun tt kk => XS.aloadN X6.here hx rfl (hb hby d5_20) rfl rfl kk) ?_
  show Go _ _ _ _ _ _ _ T6 (mkF m 21 _ [(.ref a)])
  refine Go.step (fun tt kk => XS.aload X6.here hx rfl (hb hby d5_21) rfl rfl kk) ?_
  show Go _ _ _ _ _ _ _ T6 (mkF m 23 _ [.null, (.ref a)])
  have f10 := (Fld.other W6 (Fld.other W3 (Fld.other W2 F_3 (Or.inr (slot_ne (Or.inr (hw _ (List.mem_of_getElem? (i := 45) rfl))) (Or.inr (hw _ (List.mem_of_getElem? (i := 39) rfl))) (by decide) (t := (.object "java/lang/String")) (t' := .int) (by decide) (by decide)))) (Or.inr (slot_ne (Or.inr (hw _ (List.mem_of_getElem? (i := 45) rfl))) (Or.inr (hw _ (List.mem_of_getElem? (i := 41) rfl))) (by decide) (t := (.object "java/lang/String")) (t' := .long) (by decide) (by decide)))) (Or.inr (slot_ne (Or.inr (hw _ (List.mem_of_getElem? (i := 45) rfl))) (Or.inr (hw _ (List.mem_of_getElem? (i := 43) rfl))) (by decide) (t := (.object "java/lang/String")) (t' := (.object "java/lang/String")) (by decide) (by decide))))
  have f11 := (Exa.wr W6 f8)
  obtain ⟨T9, h9, X9, e9, W9, st9⟩ := putF X6 hx hZ hown (host := "") (Or.inl (hw _ (List.mem_of_getElem? (i := 44) rfl))) Via.refl e6 f10 f11 (Or.inr ⟨(hw _ (List.mem_of_getElem? (i := 45) rfl)), rfl, hnm⟩) (hw _ (List.mem_of_getElem? (i := 27) rfl)) (ty := (.object "java/lang/String")) (by decide) rfl rfl (g := (mkF m 23 #[.val (.ref a), .val (.int x1), .val (.long x2), .second, .val (.ref tk), .val .null, .val (.long x3), .second] [.null, (.ref a)])) rfl rfl (hb hby d5_23)
  have F9 := Fld.same W9 f10
  have N9 := Fr.snoc X9 N6 g_a
  have Z9 : n0 ≤ h9.size := Nat.le_trans Z6 (Keep.of_wr W9).1
  have K9 : Keep hI h9 [a] := K6.wr W9 (Or.inl (List.mem_of_getElem? (i := 0) rfl))
  refine Go.step (st9) ?_
  show Go _ _ _ _ _ _ _ T9 (mkF m 26 _ [])
  refine Go.step (fun tt kk => XS.aloadN X9.here hx rfl (hb hby d5_26) rfl rfl kk) ?_
  show Go _ _ _ _ _ _ _ T9 (mkF m 27 _ [(.ref a)])
  refine Go.step (fun tt kk => XS.lload X9.here hx rfl (hb hby d5_27) rfl kk) ?_
  show Go _ _ _ _ _ _ _ T9 (mkF m 29 _ [(.long x3), (.ref a)])
  have f13 := (Fld.other W9 (Fld.other W6 (Fld.other W3 (Fld.other W2 F_4 (Or.inr (slot_ne (Or.inr (hw _ (List.mem_of_getElem? (i := 47) rfl))) (Or.inr (hw _ (List.mem_of_getElem? (i := 39) rfl))) (by decide) (t := .long) (t' := .int) (by decide) (by decide)))) (Or.inr (slot_ne (Or.inr (hw _ (List.mem_of_getElem? (i := 47) rfl))) (Or.inr (hw _ (List.mem_of_getElem? (i := 41) rfl))) (by decide) (t := .long) (t' := .long) (by decide) (by decide)))) (Or.inr (slot_ne (Or.inr (hw _ (List.mem_of_getElem? (i := 47) rfl))) (Or.inr (hw _ (List.mem_of_getElem? (i := 43) rfl))) (by decide) (t := .long) (t' := (.object "java/lang/String")) (by decide) (by decide)))) (Or.inr (slot_ne (Or.inr (hw _ (List.mem_of_getElem? (i := 47) rfl))) (Or.inr (hw _ (List.mem_of_getElem? (i := 45) rfl))) (by decide) (t := .long) (t' := (.object "java/lang/String")) (by decide) (by decide))))
  have f14 := (Exa.wr W9 f11)
  obtain ⟨T12, h12, X12, e12, W12, st12⟩ := putF X9 hx hZ hown (host := "") (Or.inl (hw _ (List.mem_of_getElem? (i := 46) rfl))) Via.refl e9 f13 f14 (Or.inr ⟨(hw _ (List.mem_of_getElem? (i := 47) rfl)), rfl, hnm⟩) (hw _ (List.mem_of_getElem? (i := 27) rfl)) (ty := .long) (by decide) rfl rfl (g := (mkF m 29 #[.val (.ref a), .val (.int x1), .val (.long x2), .second, .val (.ref tk), .val .null, .val (.long x3), .second] [(.long x3), (.ref a)])) rfl rfl (hb hby d5_29)
  have F12 := Fld.same W12 f13
  have N12 := Fr.snoc X12 N9 g_a
  have Z12 : n0 ≤ h12.size := Nat.le_trans Z9 (Keep.of_wr W12).1
  have K12 : Keep hI h12 [a] := K9.wr W12 (Or.inl (List.mem_of_getElem? (i := 0) rfl))
  refine Go.step (st12) ?_
  show Go _ _ _ _ _ _ _ T12 (mkF m 32 _ [])
  have f15 := (Exa.wr W12 f14)
  have f16 := (Fld.other W12 (Fld.other W9 (Fld.other W6 (Fld.other W3 F2 (Or.inr (slot_ne (Or.inr (hw _ (List.mem_of_getElem? (i := 39) rfl))) (Or.inr (hw _ (List.mem_of_getElem? (i := 41) rfl))) (by decide) (t := .int) (t' := .long) (by decide) (by decide)))) (Or.inr (slot_ne (Or.inr (hw _ (List.mem_of_getElem? (i := 39) rfl))) (Or.inr (hw _ (List.mem_of_getElem? (i := 43) rfl))) (by decide) (t := .int) (t' := (.object "java/lang/String")) (by decide) (by decide)))) (Or.inr (slot_ne (Or.inr (hw _ (List.mem_of_getElem? (i := 39) rfl))) (Or.inr (hw _ (List.mem_of_getElem? (i := 45) rfl))) (by decide) (t := .int) (t' := (.object "java/lang/String")) (by decide) (by decide)))) (Or.inr (slot_ne (Or.inr (hw _ (List.mem_of_getElem? (i := 39) rfl))) (Or.inr (hw _ (List.mem_of_getElem? (i := 47) rfl))) (by decide) (t := .int) (t' := .long) (by decide) (by decide))))
  have f17 := (Fld.other W12 (Fld.other W9 (Fld.other W6 F3 (Or.inr (slot_ne (Or.inr (hw _ (List.mem_of_getElem? (i := 41) rfl))) (Or.inr (hw _ (List.mem_of_getElem? (i := 43) rfl))) (by decide) (t := .long) (t' := (.object "java/lang/String")) (by decide) (by decide)))) (Or.inr (slot_ne (Or.inr (hw _ (List.mem_of_getElem? (i := 41) rfl))) (Or.inr (hw _ (List.mem_of_getElem? (i := 45) rfl))) (by decide) (t := .long) (t' := (.object "java/lang/String")) (by decide) (by decide)))) (Or.inr (slot_ne (Or.inr (hw _ (List.mem_of_getElem? (i := 41) rfl))) (Or.inr (hw _ (List.mem_of_getElem? (i := 47) rfl))) (by decide) (t := .long) (t' := .long) (by decide) (by decide))))
  have f18 := (Fld.other W12 (Fld.other W9 F6 (Or.inr (slot_ne (Or.inr (hw _ (List.mem_of_getElem? (i := 43) rfl))) (Or.inr (hw _ (List.mem_of_getElem? (i := 45) rfl))) (by decide) (t := (.object "java/lang/String")) (t' := (.object "java/lang/String")) (by decide) (by decide)))) (Or.inr (slot_ne (Or.inr (hw _ (List.mem_of_getElem? (i := 43) rfl))) (Or.inr (hw _ (List.mem_of_getElem? (i := 47) rfl))) (by decide) (t := (.object "java/lang/String")) (t' := .long) (by decide) (by decide))))
  refine go_ret X12 hx hret hlk (hb hby d5_32) ?_ (by decide) (by decide)
  try rw [e12]
  exact ⟨rfl, N12, eI ▸ K12, f15, f16, f17, f18⟩
theorem ef_rm8 (m : MethodId) (x0 : Int64) (x1 : Int64) : entryFrame m #[(.long x0), (.long x1)] 4 = mkF m 0 #[.val (.long x0), .second, .val (.long x1), .second] [] := by first | (simp [entryFrame, mkF, argsToLocals, Value.category]; done) | rfl
theorem pf_8 : plainFor (⟨"java/lang/Math", "max", "(JJ)J"⟩ : MethodName) = true := by decide +kernel
theorem d8_0 : decode jdk_29_method_66_code 0 = .ok (.lload_n 0, 1) := by decide +kernel
theorem d8_1 : decode jdk_29_method_66_code 1 = .ok (.lload_n 2, 1) := by decide +kernel
theorem d8_2 : decode jdk_29_method_66_code 2 = .ok (.lcmp, 1) := by decide +kernel
theorem d8_3 : decode jdk_29_method_66_code 3 = .ok (.ifCond .lt 7, 3) := by decide +kernel
theorem d8_10 : decode jdk_29_method_66_code 10 = .ok (.lload_n 2, 1) := by decide +kernel
theorem d8_11 : decode jdk_29_method_66_code 11 = .ok (.lreturn, 1) := by decide +kernel
theorem d8_6 : decode jdk_29_method_66_code 6 = .ok (.lload_n 0, 1) := by decide +kernel
theorem d8_7 : decode jdk_29_method_66_code 7 = .ok (.goto 4, 3) := by decide +kernel
set_option maxRecDepth 65536 in
set_option maxHeartbeats 40000000 in
theorem rm8 (l : Launch) (Z : State) (a0 : Array Value) (hw : ∀ d ∈ tables_1, d.before a0 Z = true) (ws : List Jvm.Cond) (x y : Int64) (h0 : Heap) (n0 : Nat) (Z0 : n0 ≤ h0.size)  :
    Ctr l Z (⟨"java/lang/Math", "max", "(JJ)J"⟩ : MethodName) jdk_29_method_66_code 4 (some .long) ws ({ frames := 0, cells := 0, slots := 0, locals := 0 } : Room) 0 0 #[(.long x), (.long y)] h0 (fun v h L => v = some (.long (if x < y then y else x)) ∧ L = [] ∧ h = h0) := by
  refine Ctr.mk pf_8 fun p e s m below meth c T0 X0 C e0 => go_cast (ef_rm8 m x y) ?_
  have N0 := Fr.nil n0
  obtain ⟨hx, hZ, hby, hml, hown, hnm, hret, hlk⟩ := C
  show Go _ _ _ _ _ _ _ T0 (mkF m 0 #[.val (.long x), .second, .val (.long y), .second] [])
  refine Go.step (fun tt kk => XS.lloadN X0.here hx rfl (hb hby d8_0) rfl kk) ?_
  show Go _ _ _ _ _ _ _ T0 (mkF m 1 _ [(.long x)])
  refine Go.step (fun tt kk => XS.lloadN X0.here hx rfl (hb hby d8_1) rfl kk) ?_
  show Go _ _ _ _ _ _ _ T0 (mkF m 2 _ [(.long y), (.long x)])
  refine Go.step (fun tt kk => XS.lcmp X0.here hx rfl (hb hby d8_2) rfl kk) ?_
  show Go _ _ _ _ _ _ _ T0 (mkF m 3 _ [(.int (lcmpW x y))])
  by_cases c3_1 : x < y
  · refine Go.step (fun tt kk => XS.ifYes X0.here hx rfl (pc0 := 3) (pc' := 10) rfl (hb hby d8_3) rfl ((if0 _ _).trans (tlt ((lw_lt _ _).mpr c3_1)).1) (by decide) (by decide) kk) ?_
    show Go _ _ _ _ _ _ _ T0 (mkF m 10 _ [])
    refine Go.step (fun tt kk => XS.lloadN X0.here hx rfl (hb hby d8_10) rfl kk) ?_
    show Go _ _ _ _ _ _ _ T0 (mkF m 11 _ [(.long y)])
    refine go_retJ X0 hx hret hlk (hb hby d8_11) ?_ (by decide) (by decide)
    try rw [e0]
    exact ⟨congrArg (fun z => some (Value.long z)) (by simp only [eq_true c3_1, if_true, if_false]), rfl, rfl⟩
  · refine Go.step (fun tt kk => XS.ifNo X0.here hx rfl (hb hby d8_3) rfl ((if0 _ _).trans (flt (fun q => c3_1 ((lw_lt _ _).mp q))).1) kk) ?_
    show Go _ _ _ _ _ _ _ T0 (mkF m 6 _ [])
    refine Go.step (fun tt kk => XS.lloadN X0.here hx rfl (hb hby d8_6) rfl kk) ?_
    show Go _ _ _ _ _ _ _ T0 (mkF m 7 _ [(.long x)])
    refine Go.step (fun tt kk => XS.goto X0.here hx rfl (pc0 := 7) (pc' := 11) rfl (hb hby d8_7) (by decide) (by decide) kk) ?_
    show Go _ _ _ _ _ _ _ T0 (mkF m 11 _ [(.long x)])
    refine go_retJ X0 hx hret hlk (hb hby d8_11) ?_ (by decide) (by decide)
    try rw [e0]
    exact ⟨congrArg (fun z => some (Value.long z)) (by simp only [eq_false c3_1, if_true, if_false]), rfl, rfl⟩
theorem ef_rm7 (m : MethodId) (x0 : Addr) (x1 : Int64) : entryFrame m #[(.ref x0), (.long x1)] 3 = mkF m 0 #[.val (.ref x0), .val (.long x1), .second] [] := by first | (simp [entryFrame, mkF, argsToLocals, Value.category]; done) | rfl
theorem d7_0 : decode prog_20_method_4_code 0 = .ok (.new 8, 3) := by decide +kernel
theorem d7_3 : decode prog_20_method_4_code 3 = .ok (.dup, 1) := by decide +kernel
theorem d7_4 : decode prog_20_method_4_code 4 = .ok (.aload_n 0, 1) := by decide +kernel
theorem d7_5 : decode prog_20_method_4_code 5 = .ok (.getfield 7, 3) := by decide +kernel
theorem d7_8 : decode prog_20_method_4_code 8 = .ok (.aload_n 0, 1) := by decide +kernel
theorem d7_9 : decode prog_20_method_4_code 9 = .ok (.getfield 13, 3) := by decide +kernel
theorem d7_12 : decode prog_20_method_4_code 12 = .ok (.lload_n 1, 1) := by decide +kernel
theorem pd_10 : parseMethodDescriptor "(JJ)J" = some ⟨[.long, .long], some .long⟩ := by decide +kernel
theorem d7_13 : decode prog_20_method_4_code 13 = .ok (.invokestatic 72, 3) := by decide +kernel
theorem d7_16 : decode prog_20_method_4_code 16 = .ok (.aconst_null, 1) := by decide +kernel
theorem d7_17 : decode prog_20_method_4_code 17 = .ok (.aconst_null, 1) := by decide +kernel
theorem d7_18 : decode prog_20_method_4_code 18 = .ok (.lconst 0, 1) := by decide +kernel
theorem pd_11 : parseMethodDescriptor "(IJLjava/lang/String;Ljava/lang/String;J)V" = some ⟨[.int, .long, (.object "java/lang/String"), (.object "java/lang/String"), .long], none⟩ := by decide +kernel
theorem d7_19 : decode prog_20_method_4_code 19 = .ok (.invokespecial 59, 3) := by decide +kernel
theorem d7_22 : decode prog_20_method_4_code 22 = .ok (.areturn, 1) := by decide +kernel
set_option maxRecDepth 65536 in
set_option maxHeartbeats 40000000 in
theorem rm7 (l : Launch) (Z : State) (a0 : Array Value) (hw : ∀ d ∈ tables_1, d.before a0 Z = true) (ws : List Jvm.Cond) (a : Addr) (x1 : Int32) (x2 y : Int64) (h0 : Heap) (n0 : Nat) (Z0 : n0 ≤ h0.size) (E_a : Exa Z h0 a "com/example/sleet/sleet/LeaseRecord") (F_0 : Fld Z h0 a "com/example/sleet/sleet/LeaseRecord" "node" "I" (.int x1)) (F_1 : Fld Z h0 a "com/example/sleet/sleet/LeaseRecord" "mark" "J" (.long x2)) :
    Ctr l Z (⟨"com/example/sleet/sleet/LeaseRecord", "freed", "(J)Lcom/example/sleet/sleet/LeaseRecord;"⟩ : MethodName) prog_20_method_4_code 3 (some (.object "com/example/sleet/sleet/LeaseRecord")) ws ({ frames := 3, cells := 1, slots := 5, locals := 44 } : Room) 1 5 #[(.ref a), (.long y)] h0 (fun v h L => ∃ b, v = some (.ref b) ∧ Fr n0 L ∧ Keep h0 h [] ∧ h0.size ≤ b ∧ Exa Z h b "com/example/sleet/sleet/LeaseRecord" ∧ Fld Z h b "com/example/sleet/sleet/LeaseRecord" "token" "Ljava/lang/String;" .null) := by
  refine Ctr.mk (plainFor_of_name pn_5) fun p e s m below meth c T0 X0 C e0 => go_cast (ef_rm7 m a y) ?_
  have N0 := Fr.nil n0
  obtain ⟨hx, hZ, hby, hml, hown, hnm, hret, hlk⟩ := C
  obtain ⟨hI, eI⟩ : ∃ z, z = h0 := ⟨_, rfl⟩
  have K0 : Keep hI h0 [] := by rw [eI]; exact Keep.refl _ _
  show Go _ _ _ _ _ _ _ T0 (mkF m 0 #[.val (.ref a), .val (.long y), .second] [])
  obtain ⟨T1, h1, X1, e1, E1, A1, D1, -, st1⟩ := newO X0 hx hZ hown (hw _ (List.mem_of_getElem? (i := 53) rfl)) (hw _ (List.mem_of_getElem? (i := 27) rfl)) (hw _ (List.mem_of_getElem? (i := 28) rfl)) e0 (g := (mkF m 0 #[.val (.ref a), .val (.long y), .second] [])) rfl (hb hby d7_0) (by decide) (by decide)
  obtain ⟨b1, g1⟩ : ∃ z, z = h0.size := ⟨_, rfl⟩
  rw [← g1] at A1 D1 st1
  have ne_a_b1 : a ≠ b1 := Nat.ne_of_lt (Nat.lt_of_lt_of_le E_a.lt (Nat.le_of_eq g1.symm))
  have gn_b1 : n0 ≤ b1 := Nat.le_trans Z0 (Nat.le_of_eq g1.symm)
  have sz_b1 : hI.size ≤ b1 := Nat.le_trans K0.1 (Nat.le_of_eq g1.symm)
  have Z1 : n0 ≤ h1.size := Nat.le_trans Z0 E1.1
  have K1 : Keep hI h1 [] := K0.ext E1
  have F1_node : Fld Z h1 b1 "com/example/sleet/sleet/LeaseRecord" "node" "I" (.int (0 : Int32)) := D1 (Or.inr (hw _ (List.mem_of_getElem? (i := 39) rfl))) (ty := .int) (by decide)
  have F1_mark : Fld Z h1 b1 "com/example/sleet/sleet/LeaseRecord" "mark" "J" (.long (0 : Int64)) := D1 (Or.inr (hw _ (List.mem_of_getElem? (i := 41) rfl))) (ty := .long) (by decide)
  have F1_token : Fld Z h1 b1 "com/example/sleet/sleet/LeaseRecord" "token" "Ljava/lang/String;" .null := D1 (Or.inr (hw _ (List.mem_of_getElem? (i := 43) rfl))) (ty := (.object "java/lang/String")) (by decide)
  have F1_holder : Fld Z h1 b1 "com/example/sleet/sleet/LeaseRecord" "holder" "Ljava/lang/String;" .null := D1 (Or.inr (hw _ (List.mem_of_getElem? (i := 45) rfl))) (ty := (.object "java/lang/String")) (by decide)
  have F1_expires : Fld Z h1 b1 "com/example/sleet/sleet/LeaseRecord" "expires" "J" (.long (0 : Int64)) := D1 (Or.inr (hw _ (List.mem_of_getElem? (i := 47) rfl))) (ty := .long) (by decide)
  refine Go.step (st1) ?_
  show Go _ _ _ _ _ _ _ T1 (mkF m 3 _ [(.ref b1)])
  refine Go.step (fun tt kk => XS.dup X1.here hx rfl (hb hby d7_3) rfl rfl kk) ?_
  show Go _ _ _ _ _ _ _ T1 (mkF m 4 _ [(.ref b1), (.ref b1)])
  refine Go.step (fun tt kk => XS.aloadN X1.here hx rfl (hb hby d7_4) rfl rfl kk) ?_
  show Go _ _ _ _ _ _ _ T1 (mkF m 5 _ [(.ref a), (.ref b1), (.ref b1)])
  have f3 := (Fld.ext E1 F_0)
  obtain ⟨T2, X2, e2, st2⟩ := getF X1 hx hZ hown (host := "") (Or.inl (hw _ (List.mem_of_getElem? (i := 38) rfl))) Via.refl e1 f3 (g := (mkF m 5 #[.val (.ref a), .val (.long y), .second] [(.ref a), (.ref b1), (.ref b1)])) rfl rfl (hb hby d7_5)
  refine Go.step (st2) ?_
  show Go _ _ _ _ _ _ _ T2 (mkF m 8 _ [(.int x1), (.ref b1), (.ref b1)])
  refine Go.step (fun tt kk => XS.aloadN X2.here hx rfl (hb hby d7_8) rfl rfl kk) ?_
  show Go _ _ _ _ _ _ _ T2 (mkF m 9 _ [(.ref a), (.int x1), (.ref b1), (.ref b1)])
  have f5 := (Fld.ext E1 F_1)
  obtain ⟨T4, X4, e4, st4⟩ := getF X2 hx hZ hown (host := "") (Or.inl (hw _ (List.mem_of_getElem? (i := 40) rfl))) Via.refl e2 f5 (g := (mkF m 9 #[.val (.ref a), .val (.long y), .second] [(.ref a), (.int x1), (.ref b1), (.ref b1)])) rfl rfl (hb hby d7_9)
  refine Go.step (st4) ?_
  show Go _ _ _ _ _ _ _ T4 (mkF m 12 _ [(.long x2), (.int x1), (.ref b1), (.ref b1)])
  refine Go.step (fun tt kk => XS.lloadN X4.here hx rfl (hb hby d7_12) rfl kk) ?_
  show Go _ _ _ _ _ _ _ T4 (mkF m 13 _ [(.long y), (.long x2), (.int x1), (.ref b1), (.ref b1)])
  obtain ⟨v6, T6, L6, X6, q6, st6⟩ := c_static X4 hx hZ hown (y := (⟨"java/lang/Math", "max", "(JJ)J"⟩ : MethodName)) (hw _ (List.mem_of_getElem? (i := 54) rfl)) (hw _ (List.mem_of_getElem? (i := 55) rfl)) (hw _ (List.mem_of_getElem? (i := 56) rfl)) (hw _ (List.mem_of_getElem? (i := 57) rfl)) (by decide) (argsL := [(.long x2), (.long y)]) (rest := [(.int x1), (.ref b1), (.ref b1)]) (rm8 l Z a0 hw [] x2 y h1 n0 Z1) e4 pd_10 rfl (by rw [hml]; rfl) (W := 3) (by show 2 * 0 + _ ≤ _; exact Nat.le_of_eq rfl) (by decide) (by decide) (by decide) (by decide) (hb hby d7_13) (Ls := #[.val (.ref a), .val (.long y), .second])
  obtain ⟨rfl, rfl, e6⟩ := q6
  have N6 := Fr.app N0 (Fr.nil n0)
  refine Go.step (st6) ?_
  show Go _ _ _ _ _ _ _ T6 (mkF m 16 _ [(.long (if x2 < y then y else x2)), (.int x1), (.ref b1), (.ref b1)])
  refine Go.step (fun tt kk => XS.aconstNull X6.here hx rfl (hb hby d7_16) kk) ?_
  show Go _ _ _ _ _ _ _ T6 (mkF m 17 _ [.null, (.long (if x2 < y then y else x2)), (.int x1), (.ref b1), (.ref b1)])
  refine Go.step (fun tt kk => XS.aconstNull X6.here hx rfl (hb hby d7_17) kk) ?_
  show Go _ _ _ _ _ _ _ T6 (mkF m 18 _ [.null, .null, (.long (if x2 < y then y else x2)), (.int x1), (.ref b1), (.ref b1)])
  refine Go.step (fun tt kk => XS.lconst X6.here hx rfl (hb hby d7_18) kk) ?_
  show Go _ _ _ _ _ _ _ T6 (mkF m 19 _ [(.long (0 : Int64)), .null, .null, (.long (if x2 < y then y else x2)), (.int x1), (.ref b1), (.ref b1)])
  obtain ⟨v7, T7, L7, X7, q7, st7⟩ := c_init X6 hx hZ hown (y := (⟨"com/example/sleet/sleet/LeaseRecord", "<init>", "(IJLjava/lang/String;Ljava/lang/String;J)V"⟩ : MethodName)) (hw _ (List.mem_of_getElem? (i := 58) rfl)) (hw _ (List.mem_of_getElem? (i := 30) rfl)) (hw _ (List.mem_of_getElem? (i := 28) rfl)) (hw _ (List.mem_of_getElem? (i := 31) rfl)) rfl (by decide) (a := b1) (argsL := [(.int x1), (.long (if x2 < y then y else x2)), .null, .null, (.long (0 : Int64))]) (rest := [(.ref b1)]) (rm5NN l Z a0 hw [] b1 x1 (if x2 < y then y else x2) (0 : Int64)  h1 n0 Z1 A1 F1_node F1_mark F1_token F1_holder F1_expires gn_b1) e6 pd_11 rfl (by rw [hml]; rfl) (W := 1) (by show 2 * 0 + _ ≤ _; exact Nat.le_of_eq rfl) (by decide) (by decide) (by decide) (by decide) (hb hby d7_19) (Ls := #[.val (.ref a), .val (.long y), .second])
  generalize e7 : T7.heap = h7 at q7
  obtain ⟨rfl, N7q, K7q, E7q, Fq70, Fq71, Fq72⟩ := q7
  have N7 := Fr.app N6 N7q
  have Z7 : n0 ≤ h7.size := Nat.le_trans Z1 K7q.1
  have K7 : Keep hI h7 [] := K1.trans K7q (allS (Or.inr sz_b1) all0)
  refine Go.step (st7) ?_
  show Go _ _ _ _ _ _ _ T7 (mkF m 22 _ [(.ref b1)])
  refine go_retA X7 hx (t := (.object "com/example/sleet/sleet/LeaseRecord")) hret rfl hlk rfl (hb hby d7_22) ?_ (by decide) (by decide)
  try rw [e7]
  exact ⟨b1, rfl, N7, eI ▸ K7, eI ▸ sz_b1, E7q, Fq72⟩
theorem ef_rm9N (m : MethodId) (x0 : Addr) : entryFrame m #[(.ref x0)] 1 = mkF m 0 #[.val (.ref x0)] [] := by first | (simp [entryFrame, mkF, argsToLocals, Value.category]; done) | rfl
theorem d9_0 : decode prog_20_method_3_code 0 = .ok (.aload_n 0, 1) := by decide +kernel
theorem d9_1 : decode prog_20_method_3_code 1 = .ok (.getfield 17, 3) := by decide +kernel
theorem d9_4 : decode prog_20_method_3_code 4 = .ok (.ifnull 7, 3) := by decide +kernel
theorem d9_11 : decode prog_20_method_3_code 11 = .ok (.iconst 0, 1) := by decide +kernel
theorem d9_12 : decode prog_20_method_3_code 12 = .ok (.ireturn, 1) := by decide +kernel
set_option maxRecDepth 65536 in
set_option maxHeartbeats 40000000 in
theorem rm9N (l : Launch) (Z : State) (a0 : Array Value) (hw : ∀ d ∈ tables_1, d.before a0 Z = true) (ws : List Jvm.Cond) (a : Addr) (h0 : Heap) (n0 : Nat) (Z0 : n0 ≤ h0.size) (F_0 : Fld Z h0 a "com/example/sleet/sleet/LeaseRecord" "token" "Ljava/lang/String;" .null) :
    Ctr l Z (⟨"com/example/sleet/sleet/LeaseRecord", "leased", "()Z"⟩ : MethodName) prog_20_method_3_code 1 (some .boolean) ws ({ frames := 0, cells := 0, slots := 0, locals := 0 } : Room) 0 0 #[(.ref a)] h0 (fun v h L => v = some (.int (0 : Int32)) ∧ L = [] ∧ h = h0) := by
  refine Ctr.mk (plainFor_of_name pn_5) fun p e s m below meth c T0 X0 C e0 => go_cast (ef_rm9N m a) ?_
  have N0 := Fr.nil n0
  obtain ⟨hx, hZ, hby, hml, hown, hnm, hret, hlk⟩ := C
  show Go _ _ _ _ _ _ _ T0 (mkF m 0 #[.val (.ref a)] [])
  refine Go.step (fun tt kk => XS.aloadN X0.here hx rfl (hb hby d9_0) rfl rfl kk) ?_
  show Go _ _ _ _ _ _ _ T0 (mkF m 1 _ [(.ref a)])
  obtain ⟨T1, X1, e1, st1⟩ := getF X0 hx hZ hown (host := "") (Or.inl (hw _ (List.mem_of_getElem? (i := 42) rfl))) Via.refl e0 F_0 (g := (mkF m 1 #[.val (.ref a)] [(.ref a)])) rfl rfl (hb hby d9_1)
  refine Go.step (st1) ?_
  show Go _ _ _ _ _ _ _ T1 (mkF m 4 _ [.null])
  refine Go.step (fun tt kk => XS.ifnullYes X1.here hx rfl (pc0 := 4) (pc' := 11) rfl (hb hby d9_4) rfl (by decide) (by decide) kk) ?_
  show Go _ _ _ _ _ _ _ T1 (mkF m 11 _ [])
  refine Go.step (fun tt kk => XS.iconst X1.here hx rfl (hb hby d9_11) kk) ?_
  show Go _ _ _ _ _ _ _ T1 (mkF m 12 _ [(.int (0 : Int32))])
  refine go_retN X1 hx (t := .boolean) hret (by simp) hlk (hb hby d9_12) (w := (0 : Int32)) rfl ?_ (by decide) (by decide)
  try rw [e1]
  exact ⟨rfl, rfl, rfl⟩
theorem ef_rm9R (m : MethodId) (x0 : Addr) : entryFrame m #[(.ref x0)] 1 = mkF m 0 #[.val (.ref x0)] [] := by first | (simp [entryFrame, mkF, argsToLocals, Value.category]; done) | rfl
theorem d9_7 : decode prog_20_method_3_code 7 = .ok (.iconst 1, 1) := by decide +kernel
theorem d9_8 : decode prog_20_method_3_code 8 = .ok (.goto 4, 3) := by decide +kernel
set_option maxRecDepth 65536 in
set_option maxHeartbeats 40000000 in
theorem rm9R (l : Launch) (Z : State) (a0 : Array Value) (hw : ∀ d ∈ tables_1, d.before a0 Z = true) (ws : List Jvm.Cond) (a : Addr) (tk : Addr) (h0 : Heap) (n0 : Nat) (Z0 : n0 ≤ h0.size) (F_0 : Fld Z h0 a "com/example/sleet/sleet/LeaseRecord" "token" "Ljava/lang/String;" (.ref tk)) :
    Ctr l Z (⟨"com/example/sleet/sleet/LeaseRecord", "leased", "()Z"⟩ : MethodName) prog_20_method_3_code 1 (some .boolean) ws ({ frames := 0, cells := 0, slots := 0, locals := 0 } : Room) 0 0 #[(.ref a)] h0 (fun v h L => v = some (.int (1 : Int32)) ∧ L = [] ∧ h = h0) := by
  refine Ctr.mk (plainFor_of_name pn_5) fun p e s m below meth c T0 X0 C e0 => go_cast (ef_rm9R m a) ?_
  have N0 := Fr.nil n0
  obtain ⟨hx, hZ, hby, hml, hown, hnm, hret, hlk⟩ := C
  show Go _ _ _ _ _ _ _ T0 (mkF m 0 #[.val (.ref a)] [])
  refine Go.step (fun tt kk => XS.aloadN X0.here hx rfl (hb hby d9_0) rfl rfl kk) ?_
  show Go _ _ _ _ _ _ _ T0 (mkF m 1 _ [(.ref a)])
  obtain ⟨T1, X1, e1, st1⟩ := getF X0 hx hZ hown (host := "") (Or.inl (hw _ (List.mem_of_getElem? (i := 42) rfl))) Via.refl e0 F_0 (g := (mkF m 1 #[.val (.ref a)] [(.ref a)])) rfl rfl (hb hby d9_1)
  refine Go.step (st1) ?_
  show Go _ _ _ _ _ _ _ T1 (mkF m 4 _ [(.ref tk)])
  refine Go.step (fun tt kk => XS.ifnullNo X1.here hx rfl (hb hby d9_4) rfl kk) ?_
  show Go _ _ _ _ _ _ _ T1 (mkF m 7 _ [])
  refine Go.step (fun tt kk => XS.iconst X1.here hx rfl (hb hby d9_7) kk) ?_
  show Go _ _ _ _ _ _ _ T1 (mkF m 8 _ [(.int (1 : Int32))])
  refine Go.step (fun tt kk => XS.goto X1.here hx rfl (pc0 := 8) (pc' := 12) rfl (hb hby d9_8) (by decide) (by decide) kk) ?_
  show Go _ _ _ _ _ _ _ T1 (mkF m 12 _ [(.int (1 : Int32))])
  refine go_retN X1 hx (t := .boolean) hret (by simp) hlk (hb hby d9_12) (w := (1 : Int32)) rfl ?_ (by decide) (by decide)
  try rw [e1]
  exact ⟨rfl, rfl, rfl⟩
theorem ef_rm0 (m : MethodId) (x0 : Int32) (x1 : Int64) (x2 : Int32) (x3 : Int32) (x4 : Int64) (x5 : Int64) : entryFrame m #[(.int x0), (.long x1), (.int x2), (.int x3), (.long x4), (.long x5)] maxLocals = mkF m 0 #[.val (.int x0), .val (.long x1), .second, .val (.int x2), .val (.int x3), .val (.long x4), .second, .val (.long x5), .second, .unset, .unset, .unset, .unset, .unset, .unset, .unset, .unset, .unset, .unset, .unset, .unset, .unset] [] := by first | (simp [entryFrame, mkF, argsToLocals, Value.category, maxLocals]; done) | rfl
theorem pd_12 : parseMethodDescriptor "(J)Lcom/example/sleet/sleet/LeaseRecord;" = some ⟨[.long], some (.object "com/example/sleet/sleet/LeaseRecord")⟩ := by decide +kernel
theorem pd_13 : parseMethodDescriptor "()Z" = some ⟨[], some .boolean⟩ := by decide +kernel
theorem pd_14 : parseMethodDescriptor "(ICC)Ljava/lang/String;" = some ⟨[.int, .char, .char], some (.object "java/lang/String")⟩ := by decide +kernel
set_option maxRecDepth 65536 in
set_option maxHeartbeats 40000000 in
theorem rm0 (l : Launch) (Z : State) (a0 : Array Value) (hw : ∀ d ∈ tables_1, d.before a0 Z = true) (ws : List Jvm.Cond) (i0 : Int32) (i1 : Int64) (i2 i3 : Int32) (i4 i5 : Int64) (cs : Int32) (h0 : Heap) (n0 : Nat) (Z0 : n0 ≤ h0.size) (hcs : ¬ cs = (0 : Int32)) (S0 : Sta Z h0 "java/lang/String" "COMPACT_STRINGS" "Z" (.int cs)) (hK : Keep Z.heap h0 []) (hh : Jvm.Lit.constHeld Z "java/lang/String" 7) (hcw : Jvm.Lit.compactW.before a0 Z = true) :
    CtrW l Z x code maxLocals ret ws room_1 32 1152 #[(.int i0), (.long i1), (.int i2), (.int i3), (.long i4), (.long i5)] h0 (fun vm => VV Z vm h0) (fun v h L vm => v = some (.int (1 : Int32)) ∧ Fr n0 L) := by
  refine CtrW.mk (plainFor_of_name pn_3) fun p e s m below meth c T0 X0 C e0 V0 hs0 => gow_cast (ef_rm0 m i0 i1 i2 i3 i4 i5) ?_
  have N0 := Fr.nil n0
  obtain ⟨hx, hZ, hby, hml, hown, hnm, hret, hlk⟩ := C
  obtain ⟨hI, eI⟩ : ∃ z, z = h0 := ⟨_, rfl⟩
  have K0 : Keep hI h0 [] := by rw [eI]; exact Keep.refl _ _
  show GoW _ _ _ _ _ _ _ T0 (mkF m 0 #[.val (.int i0), .val (.long i1), .second, .val (.int i2), .val (.int i3), .val (.long i4), .second, .val (.long i5), .second, .unset, .unset, .unset, .unset, .unset, .unset, .unset, .unset, .unset, .unset, .unset, .unset, .unset] [])
  refine GoW.step (fun tt kk => XS.iloadN X0.here hx rfl (hb hby at_0) rfl kk) ?_
  show GoW _ _ _ _ _ _ _ T0 (mkF m 1 _ [(.int i2)])
  refine GoW.step (fun tt kk => XS.iconst X0.here hx rfl (hb hby at_1) kk) ?_
  show GoW _ _ _ _ _ _ _ T0 (mkF m 2 _ [(.int (1 : Int32)), (.int i2)])
  refine GoW.step (fun tt kk => XS.iand X0.here hx rfl (hb hby at_2) rfl kk) ?_
  show GoW _ _ _ _ _ _ _ T0 (mkF m 3 _ [(.int (i2 &&& (1 : Int32)))])
  by_cases c3_1 : (i2 &&& (1 : Int32)) = (0 : Int32)
  · refine GoW.step (fun tt kk => XS.ifYes X0.here hx rfl (pc0 := 3) (pc' := 10) rfl (hb hby at_3) rfl ((if0 _ _).trans (teq c3_1).1) (by decide) (by decide) kk) ?_
    show GoW _ _ _ _ _ _ _ T0 (mkF m 10 _ [])
    refine GoW.step (fun tt kk => XS.iconst X0.here hx rfl (hb hby at_10) kk) ?_
    show GoW _ _ _ _ _ _ _ T0 (mkF m 11 _ [(.int (0 : Int32))])
    refine GoW.step (fun tt kk => XS.istore X0.here hx rfl (hb hby at_11) rfl (l' := #[.val (.int i0), .val (.long i1), .second, .val (.int i2), .val (.int i3), .val (.long i4), .second, .val (.long i5), .second, .val (.int (0 : Int32)), .unset, .unset, .unset, .unset, .unset, .unset, .unset, .unset, .unset, .unset, .unset, .unset]) rfl kk) ?_
    show GoW _ _ _ _ _ _ _ T0 (mkF m 13 _ [])
    refine GoW.step (fun tt kk => XS.iloadN X0.here hx rfl (hb hby at_13) rfl kk) ?_
    show GoW _ _ _ _ _ _ _ T0 (mkF m 14 _ [(.int i2)])
    refine GoW.step (fun tt kk => XS.iconst X0.here hx rfl (hb hby at_14) kk) ?_
    show GoW _ _ _ _ _ _ _ T0 (mkF m 15 _ [(.int (1 : Int32)), (.int i2)])
    refine GoW.step (fun tt kk => XS.iushr X0.here hx rfl (hb hby at_15) rfl kk) ?_
    show GoW _ _ _ _ _ _ _ T0 (mkF m 16 _ [(.int ((i2.toUInt32 >>> ((1 : Int32) &&& 31).toUInt32).toInt32))])
    refine GoW.step (fun tt kk => XS.iconst X0.here hx rfl (hb hby at_16) kk) ?_
    show GoW _ _ _ _ _ _ _ T0 (mkF m 17 _ [(.int (3 : Int32)), (.int ((i2.toUInt32 >>> ((1 : Int32) &&& 31).toUInt32).toInt32))])
    refine GoW.step (fun tt kk => XS.iand X0.here hx rfl (hb hby at_17) rfl kk) ?_
    show GoW _ _ _ _ _ _ _ T0 (mkF m 18 _ [(.int (((i2.toUInt32 >>> ((1 : Int32) &&& 31).toUInt32).toInt32) &&& (3 : Int32)))])
    refine GoW.step (fun tt kk => XS.iconst X0.here hx rfl (hb hby at_18) kk) ?_
    show GoW _ _ _ _ _ _ _ T0 (mkF m 19 _ [(.int (3 : Int32)), (.int (((i2.toUInt32 >>> ((1 : Int32) &&& 31).toUInt32).toInt32) &&& (3 : Int32)))])
    refine GoW.step (fun tt kk => iremM X0 hx rfl (hb hby at_19) rfl (by decide) kk) ?_
    show GoW _ _ _ _ _ _ _ T0 (mkF m 20 _ [(.int ((((i2.toUInt32 >>> ((1 : Int32) &&& 31).toUInt32).toInt32) &&& (3 : Int32)) % (3 : Int32)))])
    generalize ((((i2.toUInt32 >>> ((1 : Int32) &&& 31).toUInt32).toInt32) &&& (3 : Int32)) % (3 : Int32)) = tln
    show GoW _ _ _ _ _ _ _ T0 (mkF m 20 #[.val (.int i0), .val (.long i1), .second, .val (.int i2), .val (.int i3), .val (.long i4), .second, .val (.long i5), .second, .val (.int (0 : Int32)), .unset, .unset, .unset, .unset, .unset, .unset, .unset, .unset, .unset, .unset, .unset, .unset] [(.int tln)])
    refine GoW.step (fun tt kk => XS.istore X0.here hx rfl (hb hby at_20) rfl (l' := #[.val (.int i0), .val (.long i1), .second, .val (.int i2), .val (.int i3), .val (.long i4), .second, .val (.long i5), .second, .val (.int (0 : Int32)), .val (.int tln), .unset, .unset, .unset, .unset, .unset, .unset, .unset, .unset, .unset, .unset, .unset]) rfl kk) ?_
    show GoW _ _ _ _ _ _ _ T0 (mkF m 22 _ [])
    refine GoW.step (fun tt kk => XS.iloadN X0.here hx rfl (hb hby at_22) rfl kk) ?_
    show GoW _ _ _ _ _ _ _ T0 (mkF m 23 _ [(.int i2)])
    refine GoW.step (fun tt kk => XS.iconst X0.here hx rfl (hb hby at_23) kk) ?_
    show GoW _ _ _ _ _ _ _ T0 (mkF m 24 _ [(.int (3 : Int32)), (.int i2)])
    refine GoW.step (fun tt kk => XS.iushr X0.here hx rfl (hb hby at_24) rfl kk) ?_
    show GoW _ _ _ _ _ _ _ T0 (mkF m 25 _ [(.int ((i2.toUInt32 >>> ((3 : Int32) &&& 31).toUInt32).toInt32))])
    refine GoW.step (fun tt kk => XS.iconst X0.here hx rfl (hb hby at_25) kk) ?_
    show GoW _ _ _ _ _ _ _ T0 (mkF m 26 _ [(.int (3 : Int32)), (.int ((i2.toUInt32 >>> ((3 : Int32) &&& 31).toUInt32).toInt32))])
    refine GoW.step (fun tt kk => XS.iand X0.here hx rfl (hb hby at_26) rfl kk) ?_
    show GoW _ _ _ _ _ _ _ T0 (mkF m 27 _ [(.int (((i2.toUInt32 >>> ((3 : Int32) &&& 31).toUInt32).toInt32) &&& (3 : Int32)))])
    generalize (((i2.toUInt32 >>> ((3 : Int32) &&& 31).toUInt32).toInt32) &&& (3 : Int32)) = hln
    show GoW _ _ _ _ _ _ _ T0 (mkF m 27 #[.val (.int i0), .val (.long i1), .second, .val (.int i2), .val (.int i3), .val (.long i4), .second, .val (.long i5), .second, .val (.int (0 : Int32)), .val (.int tln), .unset, .unset, .unset, .unset, .unset, .unset, .unset, .unset, .unset, .unset, .unset] [(.int hln)])
    refine GoW.step (fun tt kk => XS.istore X0.here hx rfl (hb hby at_27) rfl (l' := #[.val (.int i0), .val (.long i1), .second, .val (.int i2), .val (.int i3), .val (.long i4), .second, .val (.long i5), .second, .val (.int (0 : Int32)), .val (.int tln), .val (.int hln), .unset, .unset, .unset, .unset, .unset, .unset, .unset, .unset, .unset, .unset]) rfl kk) ?_
    show GoW _ _ _ _ _ _ _ T0 (mkF m 29 _ [])
    refine GoW.step (fun tt kk => XS.iload X0.here hx rfl (hb hby at_29) rfl kk) ?_
    show GoW _ _ _ _ _ _ _ T0 (mkF m 31 _ [(.int i3)])
    refine GoW.step (fun tt kk => XS.sipush X0.here hx rfl (hb hby at_31) kk) ?_
    show GoW _ _ _ _ _ _ _ T0 (mkF m 34 _ [(.int (255 : Int32)), (.int i3)])
    refine GoW.step (fun tt kk => XS.iand X0.here hx rfl (hb hby at_34) rfl kk) ?_
    show GoW _ _ _ _ _ _ _ T0 (mkF m 35 _ [(.int (i3 &&& (255 : Int32)))])
    refine GoW.step (fun tt kk => XS.i2c X0.here hx rfl (hb hby at_35) rfl kk) ?_
    show GoW _ _ _ _ _ _ _ T0 (mkF m 36 _ [(.int ((i3 &&& (255 : Int32)).toUInt32.toUInt16.toUInt32.toInt32))])
    have hL0 : ¬ (255 : Int32) < ((i3 &&& (255 : Int32)).toUInt32.toUInt16.toUInt32.toInt32) := own_c8 _
    have hn0 : nar .char ((i3 &&& (255 : Int32)).toUInt32.toUInt16.toUInt32.toInt32) = ((i3 &&& (255 : Int32)).toUInt32.toUInt16.toUInt32.toInt32) := own_nc _
    generalize ((i3 &&& (255 : Int32)).toUInt32.toUInt16.toUInt32.toInt32) = ch0 at hL0 hn0 ⊢
    show GoW _ _ _ _ _ _ _ T0 (mkF m 36 #[.val (.int i0), .val (.long i1), .second, .val (.int i2), .val (.int i3), .val (.long i4), .second, .val (.long i5), .second, .val (.int (0 : Int32)), .val (.int tln), .val (.int hln), .unset, .unset, .unset, .unset, .unset, .unset, .unset, .unset, .unset, .unset] [(.int ch0)])
    refine GoW.step (fun tt kk => XS.istore X0.here hx rfl (hb hby at_36) rfl (l' := #[.val (.int i0), .val (.long i1), .second, .val (.int i2), .val (.int i3), .val (.long i4), .second, .val (.long i5), .second, .val (.int (0 : Int32)), .val (.int tln), .val (.int hln), .val (.int ch0), .unset, .unset, .unset, .unset, .unset, .unset, .unset, .unset, .unset]) rfl kk) ?_
    show GoW _ _ _ _ _ _ _ T0 (mkF m 38 _ [])
    refine GoW.step (fun tt kk => XS.iload X0.here hx rfl (hb hby at_38) rfl kk) ?_
    show GoW _ _ _ _ _ _ _ T0 (mkF m 40 _ [(.int i3)])
    refine GoW.step (fun tt kk => XS.bipush X0.here hx rfl (hb hby at_40) kk) ?_
    show GoW _ _ _ _ _ _ _ T0 (mkF m 42 _ [(.int (8 : Int32)), (.int i3)])
    refine GoW.step (fun tt kk => XS.iushr X0.here hx rfl (hb hby at_42) rfl kk) ?_
    show GoW _ _ _ _ _ _ _ T0 (mkF m 43 _ [(.int ((i3.toUInt32 >>> ((8 : Int32) &&& 31).toUInt32).toInt32))])
    refine GoW.step (fun tt kk => XS.sipush X0.here hx rfl (hb hby at_43) kk) ?_
    show GoW _ _ _ _ _ _ _ T0 (mkF m 46 _ [(.int (255 : Int32)), (.int ((i3.toUInt32 >>> ((8 : Int32) &&& 31).toUInt32).toInt32))])
    refine GoW.step (fun tt kk => XS.iand X0.here hx rfl (hb hby at_46) rfl kk) ?_
    show GoW _ _ _ _ _ _ _ T0 (mkF m 47 _ [(.int (((i3.toUInt32 >>> ((8 : Int32) &&& 31).toUInt32).toInt32) &&& (255 : Int32)))])
    refine GoW.step (fun tt kk => XS.i2c X0.here hx rfl (hb hby at_47) rfl kk) ?_
    show GoW _ _ _ _ _ _ _ T0 (mkF m 48 _ [(.int ((((i3.toUInt32 >>> ((8 : Int32) &&& 31).toUInt32).toInt32) &&& (255 : Int32)).toUInt32.toUInt16.toUInt32.toInt32))])
    have hL1 : ¬ (255 : Int32) < ((((i3.toUInt32 >>> ((8 : Int32) &&& 31).toUInt32).toInt32) &&& (255 : Int32)).toUInt32.toUInt16.toUInt32.toInt32) := own_c8 _
    have hn1 : nar .char ((((i3.toUInt32 >>> ((8 : Int32) &&& 31).toUInt32).toInt32) &&& (255 : Int32)).toUInt32.toUInt16.toUInt32.toInt32) = ((((i3.toUInt32 >>> ((8 : Int32) &&& 31).toUInt32).toInt32) &&& (255 : Int32)).toUInt32.toUInt16.toUInt32.toInt32) := own_nc _
    generalize ((((i3.toUInt32 >>> ((8 : Int32) &&& 31).toUInt32).toInt32) &&& (255 : Int32)).toUInt32.toUInt16.toUInt32.toInt32) = ch1 at hL1 hn1 ⊢
    show GoW _ _ _ _ _ _ _ T0 (mkF m 48 #[.val (.int i0), .val (.long i1), .second, .val (.int i2), .val (.int i3), .val (.long i4), .second, .val (.long i5), .second, .val (.int (0 : Int32)), .val (.int tln), .val (.int hln), .val (.int ch0), .unset, .unset, .unset, .unset, .unset, .unset, .unset, .unset, .unset] [(.int ch1)])
    refine GoW.step (fun tt kk => XS.istore X0.here hx rfl (hb hby at_48) rfl (l' := #[.val (.int i0), .val (.long i1), .second, .val (.int i2), .val (.int i3), .val (.long i4), .second, .val (.long i5), .second, .val (.int (0 : Int32)), .val (.int tln), .val (.int hln), .val (.int ch0), .val (.int ch1), .unset, .unset, .unset, .unset, .unset, .unset, .unset, .unset]) rfl kk) ?_
    show GoW _ _ _ _ _ _ _ T0 (mkF m 50 _ [])
    refine GoW.step (fun tt kk => XS.iload X0.here hx rfl (hb hby at_50) rfl kk) ?_
    show GoW _ _ _ _ _ _ _ T0 (mkF m 52 _ [(.int i3)])
    refine GoW.step (fun tt kk => XS.bipush X0.here hx rfl (hb hby at_52) kk) ?_
    show GoW _ _ _ _ _ _ _ T0 (mkF m 54 _ [(.int (16 : Int32)), (.int i3)])
    refine GoW.step (fun tt kk => XS.iushr X0.here hx rfl (hb hby at_54) rfl kk) ?_
    show GoW _ _ _ _ _ _ _ T0 (mkF m 55 _ [(.int ((i3.toUInt32 >>> ((16 : Int32) &&& 31).toUInt32).toInt32))])
    refine GoW.step (fun tt kk => XS.sipush X0.here hx rfl (hb hby at_55) kk) ?_
    show GoW _ _ _ _ _ _ _ T0 (mkF m 58 _ [(.int (255 : Int32)), (.int ((i3.toUInt32 >>> ((16 : Int32) &&& 31).toUInt32).toInt32))])
    refine GoW.step (fun tt kk => XS.iand X0.here hx rfl (hb hby at_58) rfl kk) ?_
    show GoW _ _ _ _ _ _ _ T0 (mkF m 59 _ [(.int (((i3.toUInt32 >>> ((16 : Int32) &&& 31).toUInt32).toInt32) &&& (255 : Int32)))])
    refine GoW.step (fun tt kk => XS.i2c X0.here hx rfl (hb hby at_59) rfl kk) ?_
    show GoW _ _ _ _ _ _ _ T0 (mkF m 60 _ [(.int ((((i3.toUInt32 >>> ((16 : Int32) &&& 31).toUInt32).toInt32) &&& (255 : Int32)).toUInt32.toUInt16.toUInt32.toInt32))])
    have hL2 : ¬ (255 : Int32) < ((((i3.toUInt32 >>> ((16 : Int32) &&& 31).toUInt32).toInt32) &&& (255 : Int32)).toUInt32.toUInt16.toUInt32.toInt32) := own_c8 _
    have hn2 : nar .char ((((i3.toUInt32 >>> ((16 : Int32) &&& 31).toUInt32).toInt32) &&& (255 : Int32)).toUInt32.toUInt16.toUInt32.toInt32) = ((((i3.toUInt32 >>> ((16 : Int32) &&& 31).toUInt32).toInt32) &&& (255 : Int32)).toUInt32.toUInt16.toUInt32.toInt32) := own_nc _
    generalize ((((i3.toUInt32 >>> ((16 : Int32) &&& 31).toUInt32).toInt32) &&& (255 : Int32)).toUInt32.toUInt16.toUInt32.toInt32) = ch2 at hL2 hn2 ⊢
    show GoW _ _ _ _ _ _ _ T0 (mkF m 60 #[.val (.int i0), .val (.long i1), .second, .val (.int i2), .val (.int i3), .val (.long i4), .second, .val (.long i5), .second, .val (.int (0 : Int32)), .val (.int tln), .val (.int hln), .val (.int ch0), .val (.int ch1), .unset, .unset, .unset, .unset, .unset, .unset, .unset, .unset] [(.int ch2)])
    refine GoW.step (fun tt kk => XS.istore X0.here hx rfl (hb hby at_60) rfl (l' := #[.val (.int i0), .val (.long i1), .second, .val (.int i2), .val (.int i3), .val (.long i4), .second, .val (.long i5), .second, .val (.int (0 : Int32)), .val (.int tln), .val (.int hln), .val (.int ch0), .val (.int ch1), .val (.int ch2), .unset, .unset, .unset, .unset, .unset, .unset, .unset]) rfl kk) ?_
    show GoW _ _ _ _ _ _ _ T0 (mkF m 62 _ [])
    refine GoW.step (fun tt kk => XS.iload X0.here hx rfl (hb hby at_62) rfl kk) ?_
    show GoW _ _ _ _ _ _ _ T0 (mkF m 64 _ [(.int i3)])
    refine GoW.step (fun tt kk => XS.bipush X0.here hx rfl (hb hby at_64) kk) ?_
    show GoW _ _ _ _ _ _ _ T0 (mkF m 66 _ [(.int (24 : Int32)), (.int i3)])
    refine GoW.step (fun tt kk => XS.iushr X0.here hx rfl (hb hby at_66) rfl kk) ?_
    show GoW _ _ _ _ _ _ _ T0 (mkF m 67 _ [(.int ((i3.toUInt32 >>> ((24 : Int32) &&& 31).toUInt32).toInt32))])
    refine GoW.step (fun tt kk => XS.sipush X0.here hx rfl (hb hby at_67) kk) ?_
    show GoW _ _ _ _ _ _ _ T0 (mkF m 70 _ [(.int (255 : Int32)), (.int ((i3.toUInt32 >>> ((24 : Int32) &&& 31).toUInt32).toInt32))])
    refine GoW.step (fun tt kk => XS.iand X0.here hx rfl (hb hby at_70) rfl kk) ?_
    show GoW _ _ _ _ _ _ _ T0 (mkF m 71 _ [(.int (((i3.toUInt32 >>> ((24 : Int32) &&& 31).toUInt32).toInt32) &&& (255 : Int32)))])
    refine GoW.step (fun tt kk => XS.i2c X0.here hx rfl (hb hby at_71) rfl kk) ?_
    show GoW _ _ _ _ _ _ _ T0 (mkF m 72 _ [(.int ((((i3.toUInt32 >>> ((24 : Int32) &&& 31).toUInt32).toInt32) &&& (255 : Int32)).toUInt32.toUInt16.toUInt32.toInt32))])
    have hL3 : ¬ (255 : Int32) < ((((i3.toUInt32 >>> ((24 : Int32) &&& 31).toUInt32).toInt32) &&& (255 : Int32)).toUInt32.toUInt16.toUInt32.toInt32) := own_c8 _
    have hn3 : nar .char ((((i3.toUInt32 >>> ((24 : Int32) &&& 31).toUInt32).toInt32) &&& (255 : Int32)).toUInt32.toUInt16.toUInt32.toInt32) = ((((i3.toUInt32 >>> ((24 : Int32) &&& 31).toUInt32).toInt32) &&& (255 : Int32)).toUInt32.toUInt16.toUInt32.toInt32) := own_nc _
    generalize ((((i3.toUInt32 >>> ((24 : Int32) &&& 31).toUInt32).toInt32) &&& (255 : Int32)).toUInt32.toUInt16.toUInt32.toInt32) = ch3 at hL3 hn3 ⊢
    show GoW _ _ _ _ _ _ _ T0 (mkF m 72 #[.val (.int i0), .val (.long i1), .second, .val (.int i2), .val (.int i3), .val (.long i4), .second, .val (.long i5), .second, .val (.int (0 : Int32)), .val (.int tln), .val (.int hln), .val (.int ch0), .val (.int ch1), .val (.int ch2), .unset, .unset, .unset, .unset, .unset, .unset, .unset] [(.int ch3)])
    refine GoW.step (fun tt kk => XS.istore X0.here hx rfl (hb hby at_72) rfl (l' := #[.val (.int i0), .val (.long i1), .second, .val (.int i2), .val (.int i3), .val (.long i4), .second, .val (.long i5), .second, .val (.int (0 : Int32)), .val (.int tln), .val (.int hln), .val (.int ch0), .val (.int ch1), .val (.int ch2), .val (.int ch3), .unset, .unset, .unset, .unset, .unset, .unset]) rfl kk) ?_
    show GoW _ _ _ _ _ _ _ T0 (mkF m 74 _ [])
    refine GoW.step (fun tt kk => XS.iload X0.here hx rfl (hb hby at_74) rfl kk) ?_
    show GoW _ _ _ _ _ _ _ T0 (mkF m 76 _ [(.int (0 : Int32))])
    refine GoW.step (fun tt kk => XS.ifYes X0.here hx rfl (pc0 := 76) (pc' := 91) rfl (hb hby at_76) rfl ((if0 _ _).trans (teq (by decide)).1) (by decide) (by decide) kk) ?_
    show GoW _ _ _ _ _ _ _ T0 (mkF m 91 _ [])
    refine GoW.step (fun tt kk => XS.aconstNull X0.here hx rfl (hb hby at_91) kk) ?_
    show GoW _ _ _ _ _ _ _ T0 (mkF m 92 _ [.null])
    refine GoW.step (fun tt kk => XS.astore X0.here hx rfl (hb hby at_92) rfl rfl (l' := #[.val (.int i0), .val (.long i1), .second, .val (.int i2), .val (.int i3), .val (.long i4), .second, .val (.long i5), .second, .val (.int (0 : Int32)), .val (.int tln), .val (.int hln), .val (.int ch0), .val (.int ch1), .val (.int ch2), .val (.int ch3), .val .null, .unset, .unset, .unset, .unset, .unset]) rfl kk) ?_
    show GoW _ _ _ _ _ _ _ T0 (mkF m 94 _ [])
    refine GoW.step (fun tt kk => XS.iload X0.here hx rfl (hb hby at_94) rfl kk) ?_
    show GoW _ _ _ _ _ _ _ T0 (mkF m 96 _ [(.int (0 : Int32))])
    refine GoW.step (fun tt kk => XS.ifYes X0.here hx rfl (pc0 := 96) (pc' := 117) rfl (hb hby at_96) rfl ((if0 _ _).trans (teq (by decide)).1) (by decide) (by decide) kk) ?_
    show GoW _ _ _ _ _ _ _ T0 (mkF m 117 _ [])
    refine GoW.step (fun tt kk => XS.aconstNull X0.here hx rfl (hb hby at_117) kk) ?_
    show GoW _ _ _ _ _ _ _ T0 (mkF m 118 _ [.null])
    refine GoW.step (fun tt kk => XS.astore X0.here hx rfl (hb hby at_118) rfl rfl (l' := #[.val (.int i0), .val (.long i1), .second, .val (.int i2), .val (.int i3), .val (.long i4), .second, .val (.long i5), .second, .val (.int (0 : Int32)), .val (.int tln), .val (.int hln), .val (.int ch0), .val (.int ch1), .val (.int ch2), .val (.int ch3), .val .null, .val .null, .unset, .unset, .unset, .unset]) rfl kk) ?_
    show GoW _ _ _ _ _ _ _ T0 (mkF m 120 _ [])
    refine GoW.step (fun tt kk => XS.iload X0.here hx rfl (hb hby at_120) rfl kk) ?_
    show GoW _ _ _ _ _ _ _ T0 (mkF m 122 _ [(.int (0 : Int32))])
    refine GoW.step (fun tt kk => XS.ifYes X0.here hx rfl (pc0 := 122) (pc' := 130) rfl (hb hby at_122) rfl ((if0 _ _).trans (teq (by decide)).1) (by decide) (by decide) kk) ?_
    show GoW _ _ _ _ _ _ _ T0 (mkF m 130 _ [])
    refine GoW.step (fun tt kk => XS.lconst X0.here hx rfl (hb hby at_130) kk) ?_
    show GoW _ _ _ _ _ _ _ T0 (mkF m 131 _ [(.long (0 : Int64))])
    refine GoW.step (fun tt kk => XS.lstore X0.here hx rfl (hb hby at_131) rfl (l' := #[.val (.int i0), .val (.long i1), .second, .val (.int i2), .val (.int i3), .val (.long i4), .second, .val (.long i5), .second, .val (.int (0 : Int32)), .val (.int tln), .val (.int hln), .val (.int ch0), .val (.int ch1), .val (.int ch2), .val (.int ch3), .val .null, .val .null, .val (.long (0 : Int64)), .second, .unset, .unset]) rfl kk) ?_
    show GoW _ _ _ _ _ _ _ T0 (mkF m 133 _ [])
    refine Go.w (Q := fun v h L => v = some (.int (1 : Int32)) ∧ Fr n0 L) (fun _ _ _ _ _ q => q) ?_
    show Go _ _ _ _ _ _ _ T0 (mkF m 133 #[.val (.int i0), .val (.long i1), .second, .val (.int i2), .val (.int i3), .val (.long i4), .second, .val (.long i5), .second, .val (.int (0 : Int32)), .val (.int tln), .val (.int hln), .val (.int ch0), .val (.int ch1), .val (.int ch2), .val (.int ch3), .val .null, .val .null, .val (.long (0 : Int64)), .second, .unset, .unset] [])
    obtain ⟨T2, h2, X2, e2, E2, A2, D2, -, st2⟩ := newO X0 hx hZ hown (hw _ (List.mem_of_getElem? (i := 26) rfl)) (hw _ (List.mem_of_getElem? (i := 27) rfl)) (hw _ (List.mem_of_getElem? (i := 28) rfl)) e0 (g := (mkF m 133 #[.val (.int i0), .val (.long i1), .second, .val (.int i2), .val (.int i3), .val (.long i4), .second, .val (.long i5), .second, .val (.int (0 : Int32)), .val (.int tln), .val (.int hln), .val (.int ch0), .val (.int ch1), .val (.int ch2), .val (.int ch3), .val .null, .val .null, .val (.long (0 : Int64)), .second, .unset, .unset] [])) rfl (hb hby at_133) (by decide) (by decide)
    obtain ⟨b2, g2⟩ : ∃ z, z = h0.size := ⟨_, rfl⟩
    rw [← g2] at A2 D2 st2
    have gn_b2 : n0 ≤ b2 := Nat.le_trans Z0 (Nat.le_of_eq g2.symm)
    have sz_b2 : hI.size ≤ b2 := Nat.le_trans K0.1 (Nat.le_of_eq g2.symm)
    have Z2 : n0 ≤ h2.size := Nat.le_trans Z0 E2.1
    have K2 : Keep hI h2 [] := K0.ext E2
    have F2_node : Fld Z h2 b2 "com/example/sleet/sleet/LeaseRecord" "node" "I" (.int (0 : Int32)) := D2 (Or.inr (hw _ (List.mem_of_getElem? (i := 39) rfl))) (ty := .int) (by decide)
    have F2_mark : Fld Z h2 b2 "com/example/sleet/sleet/LeaseRecord" "mark" "J" (.long (0 : Int64)) := D2 (Or.inr (hw _ (List.mem_of_getElem? (i := 41) rfl))) (ty := .long) (by decide)
    have F2_token : Fld Z h2 b2 "com/example/sleet/sleet/LeaseRecord" "token" "Ljava/lang/String;" .null := D2 (Or.inr (hw _ (List.mem_of_getElem? (i := 43) rfl))) (ty := (.object "java/lang/String")) (by decide)
    have F2_holder : Fld Z h2 b2 "com/example/sleet/sleet/LeaseRecord" "holder" "Ljava/lang/String;" .null := D2 (Or.inr (hw _ (List.mem_of_getElem? (i := 45) rfl))) (ty := (.object "java/lang/String")) (by decide)
    have F2_expires : Fld Z h2 b2 "com/example/sleet/sleet/LeaseRecord" "expires" "J" (.long (0 : Int64)) := D2 (Or.inr (hw _ (List.mem_of_getElem? (i := 47) rfl))) (ty := .long) (by decide)
    refine Go.step (st2) ?_
    show Go _ _ _ _ _ _ _ T2 (mkF m 136 _ [(.ref b2)])
    refine Go.step (fun tt kk => XS.dup X2.here hx rfl (hb hby at_136) rfl rfl kk) ?_
    show Go _ _ _ _ _ _ _ T2 (mkF m 137 _ [(.ref b2), (.ref b2)])
    refine Go.step (fun tt kk => XS.iloadN X2.here hx rfl (hb hby at_137) rfl kk) ?_
    show Go _ _ _ _ _ _ _ T2 (mkF m 138 _ [(.int i0), (.ref b2), (.ref b2)])
    refine Go.step (fun tt kk => XS.lloadN X2.here hx rfl (hb hby at_138) rfl kk) ?_
    show Go _ _ _ _ _ _ _ T2 (mkF m 139 _ [(.long i1), (.int i0), (.ref b2), (.ref b2)])
    refine Go.step (fun tt kk => XS.aload X2.here hx rfl (hb hby at_139) rfl rfl kk) ?_
    show Go _ _ _ _ _ _ _ T2 (mkF m 141 _ [.null, (.long i1), (.int i0), (.ref b2), (.ref b2)])
    refine Go.step (fun tt kk => XS.aload X2.here hx rfl (hb hby at_141) rfl rfl kk) ?_
    show Go _ _ _ _ _ _ _ T2 (mkF m 143 _ [.null, .null, (.long i1), (.int i0), (.ref b2), (.ref b2)])
    refine Go.step (fun tt kk => XS.lload X2.here hx rfl (hb hby at_143) rfl kk) ?_
    show Go _ _ _ _ _ _ _ T2 (mkF m 145 _ [(.long (0 : Int64)), .null, .null, (.long i1), (.int i0), (.ref b2), (.ref b2)])
    obtain ⟨v3, T3, L3, X3, q3, st3⟩ := c_init X2 hx hZ hown (y := (⟨"com/example/sleet/sleet/LeaseRecord", "<init>", "(IJLjava/lang/String;Ljava/lang/String;J)V"⟩ : MethodName)) (hw _ (List.mem_of_getElem? (i := 29) rfl)) (hw _ (List.mem_of_getElem? (i := 30) rfl)) (hw _ (List.mem_of_getElem? (i := 28) rfl)) (hw _ (List.mem_of_getElem? (i := 31) rfl)) rfl (by decide) (a := b2) (argsL := [(.int i0), (.long i1), .null, .null, (.long (0 : Int64))]) (rest := [(.ref b2)]) (rm5NN l Z a0 hw [] b2 i0 i1 (0 : Int64)  h2 n0 Z2 A2 F2_node F2_mark F2_token F2_holder F2_expires gn_b2) e2 pd_11 rfl (by rw [hml]; rfl) (W := 1) (by show 2 * 0 + _ ≤ _; exact Nat.le_of_eq rfl) (by decide) (by decide) (by decide) (by decide) (hb hby at_145) (Ls := #[.val (.int i0), .val (.long i1), .second, .val (.int i2), .val (.int i3), .val (.long i4), .second, .val (.long i5), .second, .val (.int (0 : Int32)), .val (.int tln), .val (.int hln), .val (.int ch0), .val (.int ch1), .val (.int ch2), .val (.int ch3), .val .null, .val .null, .val (.long (0 : Int64)), .second, .unset, .unset])
    generalize e3 : T3.heap = h3 at q3
    obtain ⟨rfl, N3q, K3q, E3q, Fq30, Fq31, Fq32⟩ := q3
    have N3 := Fr.app N0 N3q
    have Z3 : n0 ≤ h3.size := Nat.le_trans Z2 K3q.1
    have K3 : Keep hI h3 [] := K2.trans K3q (allS (Or.inr sz_b2) all0)
    refine Go.step (st3) ?_
    show Go _ _ _ _ _ _ _ T3 (mkF m 148 _ [(.ref b2)])
    refine Go.step (fun tt kk => XS.astore X3.here hx rfl (hb hby at_148) rfl rfl (l' := #[.val (.int i0), .val (.long i1), .second, .val (.int i2), .val (.int i3), .val (.long i4), .second, .val (.long i5), .second, .val (.int (0 : Int32)), .val (.int tln), .val (.int hln), .val (.int ch0), .val (.int ch1), .val (.int ch2), .val (.int ch3), .val .null, .val .null, .val (.long (0 : Int64)), .second, .val (.ref b2), .unset]) rfl kk) ?_
    show Go _ _ _ _ _ _ _ T3 (mkF m 150 _ [])
    refine Go.step (fun tt kk => XS.aload X3.here hx rfl (hb hby at_150) rfl rfl kk) ?_
    show Go _ _ _ _ _ _ _ T3 (mkF m 152 _ [(.ref b2)])
    refine Go.step (fun tt kk => XS.lload X3.here hx rfl (hb hby at_152) rfl kk) ?_
    show Go _ _ _ _ _ _ _ T3 (mkF m 154 _ [(.long i5), (.ref b2)])
    obtain ⟨v4, T4, L4, X4, q4, st4⟩ := c_virt X3 hx hZ hown (y' := (⟨"com/example/sleet/sleet/LeaseRecord", "freed", "(J)Lcom/example/sleet/sleet/LeaseRecord;"⟩ : MethodName)) (y := (⟨"com/example/sleet/sleet/LeaseRecord", "freed", "(J)Lcom/example/sleet/sleet/LeaseRecord;"⟩ : MethodName)) (C := "com/example/sleet/sleet/LeaseRecord") (hw _ (List.mem_of_getElem? (i := 48) rfl)) (hw _ (List.mem_of_getElem? (i := 49) rfl)) (notFace_of_selects (args := #[]) (mvT hZ (hw _ (List.mem_of_getElem? (i := 51) rfl)))) (hw _ (List.mem_of_getElem? (i := 51) rfl)) (hw _ (List.mem_of_getElem? (i := 50) rfl)) (hw _ (List.mem_of_getElem? (i := 28) rfl)) (hw _ (List.mem_of_getElem? (i := 52) rfl)) (by decide) (a := b2) (argsL := [(.long i5)]) (rest := []) (rm7 l Z a0 hw [] b2 i0 i1 i5 h3 n0 Z3 E3q Fq30 Fq31) e3 E3q pd_12 rfl (by rw [hml]; rfl) (W := 0) (by show 2 * 0 + _ ≤ _; exact Nat.le_of_eq rfl) (by decide) (by decide) (by decide) (by decide) (hb hby at_154) (Ls := #[.val (.int i0), .val (.long i1), .second, .val (.int i2), .val (.int i3), .val (.long i4), .second, .val (.long i5), .second, .val (.int (0 : Int32)), .val (.int tln), .val (.int hln), .val (.int ch0), .val (.int ch1), .val (.int ch2), .val (.int ch3), .val .null, .val .null, .val (.long (0 : Int64)), .second, .val (.ref b2), .unset])
    generalize e4 : T4.heap = h4 at q4
    obtain ⟨bf4, rfl, N4q, K4q, sz_bf4, E4q, Fq4⟩ := q4
    have N4 := Fr.app N3 N4q
    have Z4 : n0 ≤ h4.size := Nat.le_trans Z3 K4q.1
    have ne_b2_bf4 : b2 ≠ bf4 := Nat.ne_of_lt (Nat.lt_of_lt_of_le E3q.lt sz_bf4)
    have gn_bf4 : n0 ≤ bf4 := Nat.le_trans Z3 sz_bf4
    have sy_bf4 : hI.size ≤ bf4 := Nat.le_trans K3.1 sz_bf4
    have K4 : Keep hI h4 [] := K3.trans K4q all0
    refine Go.step (st4) ?_
    show Go _ _ _ _ _ _ _ T4 (mkF m 157 _ [(.ref bf4)])
    refine Go.step (fun tt kk => XS.astore X4.here hx rfl (hb hby at_157) rfl rfl (l' := #[.val (.int i0), .val (.long i1), .second, .val (.int i2), .val (.int i3), .val (.long i4), .second, .val (.long i5), .second, .val (.int (0 : Int32)), .val (.int tln), .val (.int hln), .val (.int ch0), .val (.int ch1), .val (.int ch2), .val (.int ch3), .val .null, .val .null, .val (.long (0 : Int64)), .second, .val (.ref b2), .val (.ref bf4)]) rfl kk) ?_
    show Go _ _ _ _ _ _ _ T4 (mkF m 159 _ [])
    refine Go.step (fun tt kk => XS.aload X4.here hx rfl (hb hby at_159) rfl rfl kk) ?_
    show Go _ _ _ _ _ _ _ T4 (mkF m 161 _ [(.ref b2)])
    have f6 := (Fq32.keep K4q nin0)
    have f7 := (E3q.keep K4q)
    obtain ⟨v5, T5, L5, X5, q5, st5⟩ := c_virt X4 hx hZ hown (y' := (⟨"com/example/sleet/sleet/LeaseRecord", "leased", "()Z"⟩ : MethodName)) (y := (⟨"com/example/sleet/sleet/LeaseRecord", "leased", "()Z"⟩ : MethodName)) (C := "com/example/sleet/sleet/LeaseRecord") (hw _ (List.mem_of_getElem? (i := 59) rfl)) (hw _ (List.mem_of_getElem? (i := 60) rfl)) (notFace_of_selects (args := #[]) (mvT hZ (hw _ (List.mem_of_getElem? (i := 62) rfl)))) (hw _ (List.mem_of_getElem? (i := 62) rfl)) (hw _ (List.mem_of_getElem? (i := 61) rfl)) (hw _ (List.mem_of_getElem? (i := 28) rfl)) (hw _ (List.mem_of_getElem? (i := 63) rfl)) (by decide) (a := b2) (argsL := []) (rest := []) (rm9N l Z a0 hw [] b2  h4 n0 Z4 f6) e4 f7 pd_13 rfl (by rw [hml]; rfl) (W := 0) (by show 2 * 0 + _ ≤ _; exact Nat.le_of_eq rfl) (by decide) (by decide) (by decide) (by decide) (hb hby at_161) (Ls := #[.val (.int i0), .val (.long i1), .second, .val (.int i2), .val (.int i3), .val (.long i4), .second, .val (.long i5), .second, .val (.int (0 : Int32)), .val (.int tln), .val (.int hln), .val (.int ch0), .val (.int ch1), .val (.int ch2), .val (.int ch3), .val .null, .val .null, .val (.long (0 : Int64)), .second, .val (.ref b2), .val (.ref bf4)])
    obtain ⟨rfl, rfl, e5⟩ := q5
    have N5 := Fr.app N4 (Fr.nil n0)
    refine Go.step (st5) ?_
    show Go _ _ _ _ _ _ _ T5 (mkF m 164 _ [(.int (0 : Int32))])
    refine Go.step (fun tt kk => XS.iload X5.here hx rfl (hb hby at_164) rfl kk) ?_
    show Go _ _ _ _ _ _ _ T5 (mkF m 166 _ [(.int (0 : Int32)), (.int (0 : Int32))])
    refine Go.step (fun tt kk => XS.icmpNo X5.here hx rfl (hb hby at_166) rfl (teq (by decide)).2 kk) ?_
    show Go _ _ _ _ _ _ _ T5 (mkF m 169 _ [])
    refine Go.step (fun tt kk => XS.aload X5.here hx rfl (hb hby at_169) rfl rfl kk) ?_
    show Go _ _ _ _ _ _ _ T5 (mkF m 171 _ [(.ref bf4)])
    obtain ⟨v8, T8, L8, X8, q8, st8⟩ := c_virt X5 hx hZ hown (y' := (⟨"com/example/sleet/sleet/LeaseRecord", "leased", "()Z"⟩ : MethodName)) (y := (⟨"com/example/sleet/sleet/LeaseRecord", "leased", "()Z"⟩ : MethodName)) (C := "com/example/sleet/sleet/LeaseRecord") (hw _ (List.mem_of_getElem? (i := 59) rfl)) (hw _ (List.mem_of_getElem? (i := 60) rfl)) (notFace_of_selects (args := #[]) (mvT hZ (hw _ (List.mem_of_getElem? (i := 62) rfl)))) (hw _ (List.mem_of_getElem? (i := 62) rfl)) (hw _ (List.mem_of_getElem? (i := 61) rfl)) (hw _ (List.mem_of_getElem? (i := 28) rfl)) (hw _ (List.mem_of_getElem? (i := 63) rfl)) (by decide) (a := bf4) (argsL := []) (rest := []) (rm9N l Z a0 hw [] bf4  h4 n0 Z4 Fq4) e5 E4q pd_13 rfl (by rw [hml]; rfl) (W := 0) (by show 2 * 0 + _ ≤ _; exact Nat.le_of_eq rfl) (by decide) (by decide) (by decide) (by decide) (hb hby at_171) (Ls := #[.val (.int i0), .val (.long i1), .second, .val (.int i2), .val (.int i3), .val (.long i4), .second, .val (.long i5), .second, .val (.int (0 : Int32)), .val (.int tln), .val (.int hln), .val (.int ch0), .val (.int ch1), .val (.int ch2), .val (.int ch3), .val .null, .val .null, .val (.long (0 : Int64)), .second, .val (.ref b2), .val (.ref bf4)])
    obtain ⟨rfl, rfl, e8⟩ := q8
    have N8 := Fr.app N5 (Fr.nil n0)
    refine Go.step (st8) ?_
    show Go _ _ _ _ _ _ _ T8 (mkF m 174 _ [(.int (0 : Int32))])
    refine Go.step (fun tt kk => XS.ifNo X8.here hx rfl (hb hby at_174) rfl ((if0 _ _).trans (teq (by decide)).2) kk) ?_
    show Go _ _ _ _ _ _ _ T8 (mkF m 177 _ [])
    refine Go.step (fun tt kk => XS.iconst X8.here hx rfl (hb hby at_177) kk) ?_
    show Go _ _ _ _ _ _ _ T8 (mkF m 178 _ [(.int (1 : Int32))])
    refine Go.step (fun tt kk => XS.goto X8.here hx rfl (pc0 := 178) (pc' := 182) rfl (hb hby at_178) (by decide) (by decide) kk) ?_
    show Go _ _ _ _ _ _ _ T8 (mkF m 182 _ [(.int (1 : Int32))])
    refine go_retN X8 hx (t := .boolean) hret (by simp) hlk (hb hby at_182) (w := (1 : Int32)) rfl ?_ (by decide) (by decide)
    try rw [e8]
    exact ⟨rfl, N8⟩
  · refine GoW.step (fun tt kk => XS.ifNo X0.here hx rfl (hb hby at_3) rfl ((if0 _ _).trans (feq c3_1).1) kk) ?_
    show GoW _ _ _ _ _ _ _ T0 (mkF m 6 _ [])
    refine GoW.step (fun tt kk => XS.iconst X0.here hx rfl (hb hby at_6) kk) ?_
    show GoW _ _ _ _ _ _ _ T0 (mkF m 7 _ [(.int (1 : Int32))])
    refine GoW.step (fun tt kk => XS.goto X0.here hx rfl (pc0 := 7) (pc' := 11) rfl (hb hby at_7) (by decide) (by decide) kk) ?_
    show GoW _ _ _ _ _ _ _ T0 (mkF m 11 _ [(.int (1 : Int32))])
    refine GoW.step (fun tt kk => XS.istore X0.here hx rfl (hb hby at_11) rfl (l' := #[.val (.int i0), .val (.long i1), .second, .val (.int i2), .val (.int i3), .val (.long i4), .second, .val (.long i5), .second, .val (.int (1 : Int32)), .unset, .unset, .unset, .unset, .unset, .unset, .unset, .unset, .unset, .unset, .unset, .unset]) rfl kk) ?_
    show GoW _ _ _ _ _ _ _ T0 (mkF m 13 _ [])
    refine GoW.step (fun tt kk => XS.iloadN X0.here hx rfl (hb hby at_13) rfl kk) ?_
    show GoW _ _ _ _ _ _ _ T0 (mkF m 14 _ [(.int i2)])
    refine GoW.step (fun tt kk => XS.iconst X0.here hx rfl (hb hby at_14) kk) ?_
    show GoW _ _ _ _ _ _ _ T0 (mkF m 15 _ [(.int (1 : Int32)), (.int i2)])
    refine GoW.step (fun tt kk => XS.iushr X0.here hx rfl (hb hby at_15) rfl kk) ?_
    show GoW _ _ _ _ _ _ _ T0 (mkF m 16 _ [(.int ((i2.toUInt32 >>> ((1 : Int32) &&& 31).toUInt32).toInt32))])
    refine GoW.step (fun tt kk => XS.iconst X0.here hx rfl (hb hby at_16) kk) ?_
    show GoW _ _ _ _ _ _ _ T0 (mkF m 17 _ [(.int (3 : Int32)), (.int ((i2.toUInt32 >>> ((1 : Int32) &&& 31).toUInt32).toInt32))])
    refine GoW.step (fun tt kk => XS.iand X0.here hx rfl (hb hby at_17) rfl kk) ?_
    show GoW _ _ _ _ _ _ _ T0 (mkF m 18 _ [(.int (((i2.toUInt32 >>> ((1 : Int32) &&& 31).toUInt32).toInt32) &&& (3 : Int32)))])
    refine GoW.step (fun tt kk => XS.iconst X0.here hx rfl (hb hby at_18) kk) ?_
    show GoW _ _ _ _ _ _ _ T0 (mkF m 19 _ [(.int (3 : Int32)), (.int (((i2.toUInt32 >>> ((1 : Int32) &&& 31).toUInt32).toInt32) &&& (3 : Int32)))])
    refine GoW.step (fun tt kk => iremM X0 hx rfl (hb hby at_19) rfl (by decide) kk) ?_
    show GoW _ _ _ _ _ _ _ T0 (mkF m 20 _ [(.int ((((i2.toUInt32 >>> ((1 : Int32) &&& 31).toUInt32).toInt32) &&& (3 : Int32)) % (3 : Int32)))])
    generalize ((((i2.toUInt32 >>> ((1 : Int32) &&& 31).toUInt32).toInt32) &&& (3 : Int32)) % (3 : Int32)) = tln
    show GoW _ _ _ _ _ _ _ T0 (mkF m 20 #[.val (.int i0), .val (.long i1), .second, .val (.int i2), .val (.int i3), .val (.long i4), .second, .val (.long i5), .second, .val (.int (1 : Int32)), .unset, .unset, .unset, .unset, .unset, .unset, .unset, .unset, .unset, .unset, .unset, .unset] [(.int tln)])
    refine GoW.step (fun tt kk => XS.istore X0.here hx rfl (hb hby at_20) rfl (l' := #[.val (.int i0), .val (.long i1), .second, .val (.int i2), .val (.int i3), .val (.long i4), .second, .val (.long i5), .second, .val (.int (1 : Int32)), .val (.int tln), .unset, .unset, .unset, .unset, .unset, .unset, .unset, .unset, .unset, .unset, .unset]) rfl kk) ?_
    show GoW _ _ _ _ _ _ _ T0 (mkF m 22 _ [])
    refine GoW.step (fun tt kk => XS.iloadN X0.here hx rfl (hb hby at_22) rfl kk) ?_
    show GoW _ _ _ _ _ _ _ T0 (mkF m 23 _ [(.int i2)])
    refine GoW.step (fun tt kk => XS.iconst X0.here hx rfl (hb hby at_23) kk) ?_
    show GoW _ _ _ _ _ _ _ T0 (mkF m 24 _ [(.int (3 : Int32)), (.int i2)])
    refine GoW.step (fun tt kk => XS.iushr X0.here hx rfl (hb hby at_24) rfl kk) ?_
    show GoW _ _ _ _ _ _ _ T0 (mkF m 25 _ [(.int ((i2.toUInt32 >>> ((3 : Int32) &&& 31).toUInt32).toInt32))])
    refine GoW.step (fun tt kk => XS.iconst X0.here hx rfl (hb hby at_25) kk) ?_
    show GoW _ _ _ _ _ _ _ T0 (mkF m 26 _ [(.int (3 : Int32)), (.int ((i2.toUInt32 >>> ((3 : Int32) &&& 31).toUInt32).toInt32))])
    refine GoW.step (fun tt kk => XS.iand X0.here hx rfl (hb hby at_26) rfl kk) ?_
    show GoW _ _ _ _ _ _ _ T0 (mkF m 27 _ [(.int (((i2.toUInt32 >>> ((3 : Int32) &&& 31).toUInt32).toInt32) &&& (3 : Int32)))])
    generalize (((i2.toUInt32 >>> ((3 : Int32) &&& 31).toUInt32).toInt32) &&& (3 : Int32)) = hln
    show GoW _ _ _ _ _ _ _ T0 (mkF m 27 #[.val (.int i0), .val (.long i1), .second, .val (.int i2), .val (.int i3), .val (.long i4), .second, .val (.long i5), .second, .val (.int (1 : Int32)), .val (.int tln), .unset, .unset, .unset, .unset, .unset, .unset, .unset, .unset, .unset, .unset, .unset] [(.int hln)])
    refine GoW.step (fun tt kk => XS.istore X0.here hx rfl (hb hby at_27) rfl (l' := #[.val (.int i0), .val (.long i1), .second, .val (.int i2), .val (.int i3), .val (.long i4), .second, .val (.long i5), .second, .val (.int (1 : Int32)), .val (.int tln), .val (.int hln), .unset, .unset, .unset, .unset, .unset, .unset, .unset, .unset, .unset, .unset]) rfl kk) ?_
    show GoW _ _ _ _ _ _ _ T0 (mkF m 29 _ [])
    refine GoW.step (fun tt kk => XS.iload X0.here hx rfl (hb hby at_29) rfl kk) ?_
    show GoW _ _ _ _ _ _ _ T0 (mkF m 31 _ [(.int i3)])
    refine GoW.step (fun tt kk => XS.sipush X0.here hx rfl (hb hby at_31) kk) ?_
    show GoW _ _ _ _ _ _ _ T0 (mkF m 34 _ [(.int (255 : Int32)), (.int i3)])
    refine GoW.step (fun tt kk => XS.iand X0.here hx rfl (hb hby at_34) rfl kk) ?_
    show GoW _ _ _ _ _ _ _ T0 (mkF m 35 _ [(.int (i3 &&& (255 : Int32)))])
    refine GoW.step (fun tt kk => XS.i2c X0.here hx rfl (hb hby at_35) rfl kk) ?_
    show GoW _ _ _ _ _ _ _ T0 (mkF m 36 _ [(.int ((i3 &&& (255 : Int32)).toUInt32.toUInt16.toUInt32.toInt32))])
    have hL0 : ¬ (255 : Int32) < ((i3 &&& (255 : Int32)).toUInt32.toUInt16.toUInt32.toInt32) := own_c8 _
    have hn0 : nar .char ((i3 &&& (255 : Int32)).toUInt32.toUInt16.toUInt32.toInt32) = ((i3 &&& (255 : Int32)).toUInt32.toUInt16.toUInt32.toInt32) := own_nc _
    generalize ((i3 &&& (255 : Int32)).toUInt32.toUInt16.toUInt32.toInt32) = ch0 at hL0 hn0 ⊢
    show GoW _ _ _ _ _ _ _ T0 (mkF m 36 #[.val (.int i0), .val (.long i1), .second, .val (.int i2), .val (.int i3), .val (.long i4), .second, .val (.long i5), .second, .val (.int (1 : Int32)), .val (.int tln), .val (.int hln), .unset, .unset, .unset, .unset, .unset, .unset, .unset, .unset, .unset, .unset] [(.int ch0)])
    refine GoW.step (fun tt kk => XS.istore X0.here hx rfl (hb hby at_36) rfl (l' := #[.val (.int i0), .val (.long i1), .second, .val (.int i2), .val (.int i3), .val (.long i4), .second, .val (.long i5), .second, .val (.int (1 : Int32)), .val (.int tln), .val (.int hln), .val (.int ch0), .unset, .unset, .unset, .unset, .unset, .unset, .unset, .unset, .unset]) rfl kk) ?_
    show GoW _ _ _ _ _ _ _ T0 (mkF m 38 _ [])
    refine GoW.step (fun tt kk => XS.iload X0.here hx rfl (hb hby at_38) rfl kk) ?_
    show GoW _ _ _ _ _ _ _ T0 (mkF m 40 _ [(.int i3)])
    refine GoW.step (fun tt kk => XS.bipush X0.here hx rfl (hb hby at_40) kk) ?_
    show GoW _ _ _ _ _ _ _ T0 (mkF m 42 _ [(.int (8 : Int32)), (.int i3)])
    refine GoW.step (fun tt kk => XS.iushr X0.here hx rfl (hb hby at_42) rfl kk) ?_
    show GoW _ _ _ _ _ _ _ T0 (mkF m 43 _ [(.int ((i3.toUInt32 >>> ((8 : Int32) &&& 31).toUInt32).toInt32))])
    refine GoW.step (fun tt kk => XS.sipush X0.here hx rfl (hb hby at_43) kk) ?_
    show GoW _ _ _ _ _ _ _ T0 (mkF m 46 _ [(.int (255 : Int32)), (.int ((i3.toUInt32 >>> ((8 : Int32) &&& 31).toUInt32).toInt32))])
    refine GoW.step (fun tt kk => XS.iand X0.here hx rfl (hb hby at_46) rfl kk) ?_
    show GoW _ _ _ _ _ _ _ T0 (mkF m 47 _ [(.int (((i3.toUInt32 >>> ((8 : Int32) &&& 31).toUInt32).toInt32) &&& (255 : Int32)))])
    refine GoW.step (fun tt kk => XS.i2c X0.here hx rfl (hb hby at_47) rfl kk) ?_
    show GoW _ _ _ _ _ _ _ T0 (mkF m 48 _ [(.int ((((i3.toUInt32 >>> ((8 : Int32) &&& 31).toUInt32).toInt32) &&& (255 : Int32)).toUInt32.toUInt16.toUInt32.toInt32))])
    have hL1 : ¬ (255 : Int32) < ((((i3.toUInt32 >>> ((8 : Int32) &&& 31).toUInt32).toInt32) &&& (255 : Int32)).toUInt32.toUInt16.toUInt32.toInt32) := own_c8 _
    have hn1 : nar .char ((((i3.toUInt32 >>> ((8 : Int32) &&& 31).toUInt32).toInt32) &&& (255 : Int32)).toUInt32.toUInt16.toUInt32.toInt32) = ((((i3.toUInt32 >>> ((8 : Int32) &&& 31).toUInt32).toInt32) &&& (255 : Int32)).toUInt32.toUInt16.toUInt32.toInt32) := own_nc _
    generalize ((((i3.toUInt32 >>> ((8 : Int32) &&& 31).toUInt32).toInt32) &&& (255 : Int32)).toUInt32.toUInt16.toUInt32.toInt32) = ch1 at hL1 hn1 ⊢
    show GoW _ _ _ _ _ _ _ T0 (mkF m 48 #[.val (.int i0), .val (.long i1), .second, .val (.int i2), .val (.int i3), .val (.long i4), .second, .val (.long i5), .second, .val (.int (1 : Int32)), .val (.int tln), .val (.int hln), .val (.int ch0), .unset, .unset, .unset, .unset, .unset, .unset, .unset, .unset, .unset] [(.int ch1)])
    refine GoW.step (fun tt kk => XS.istore X0.here hx rfl (hb hby at_48) rfl (l' := #[.val (.int i0), .val (.long i1), .second, .val (.int i2), .val (.int i3), .val (.long i4), .second, .val (.long i5), .second, .val (.int (1 : Int32)), .val (.int tln), .val (.int hln), .val (.int ch0), .val (.int ch1), .unset, .unset, .unset, .unset, .unset, .unset, .unset, .unset]) rfl kk) ?_
    show GoW _ _ _ _ _ _ _ T0 (mkF m 50 _ [])
    refine GoW.step (fun tt kk => XS.iload X0.here hx rfl (hb hby at_50) rfl kk) ?_
    show GoW _ _ _ _ _ _ _ T0 (mkF m 52 _ [(.int i3)])
    refine GoW.step (fun tt kk => XS.bipush X0.here hx rfl (hb hby at_52) kk) ?_
    show GoW _ _ _ _ _ _ _ T0 (mkF m 54 _ [(.int (16 : Int32)), (.int i3)])
    refine GoW.step (fun tt kk => XS.iushr X0.here hx rfl (hb hby at_54) rfl kk) ?_
    show GoW _ _ _ _ _ _ _ T0 (mkF m 55 _ [(.int ((i3.toUInt32 >>> ((16 : Int32) &&& 31).toUInt32).toInt32))])
    refine GoW.step (fun tt kk => XS.sipush X0.here hx rfl (hb hby at_55) kk) ?_
    show GoW _ _ _ _ _ _ _ T0 (mkF m 58 _ [(.int (255 : Int32)), (.int ((i3.toUInt32 >>> ((16 : Int32) &&& 31).toUInt32).toInt32))])
    refine GoW.step (fun tt kk => XS.iand X0.here hx rfl (hb hby at_58) rfl kk) ?_
    show GoW _ _ _ _ _ _ _ T0 (mkF m 59 _ [(.int (((i3.toUInt32 >>> ((16 : Int32) &&& 31).toUInt32).toInt32) &&& (255 : Int32)))])
    refine GoW.step (fun tt kk => XS.i2c X0.here hx rfl (hb hby at_59) rfl kk) ?_
    show GoW _ _ _ _ _ _ _ T0 (mkF m 60 _ [(.int ((((i3.toUInt32 >>> ((16 : Int32) &&& 31).toUInt32).toInt32) &&& (255 : Int32)).toUInt32.toUInt16.toUInt32.toInt32))])
    have hL2 : ¬ (255 : Int32) < ((((i3.toUInt32 >>> ((16 : Int32) &&& 31).toUInt32).toInt32) &&& (255 : Int32)).toUInt32.toUInt16.toUInt32.toInt32) := own_c8 _
    have hn2 : nar .char ((((i3.toUInt32 >>> ((16 : Int32) &&& 31).toUInt32).toInt32) &&& (255 : Int32)).toUInt32.toUInt16.toUInt32.toInt32) = ((((i3.toUInt32 >>> ((16 : Int32) &&& 31).toUInt32).toInt32) &&& (255 : Int32)).toUInt32.toUInt16.toUInt32.toInt32) := own_nc _
    generalize ((((i3.toUInt32 >>> ((16 : Int32) &&& 31).toUInt32).toInt32) &&& (255 : Int32)).toUInt32.toUInt16.toUInt32.toInt32) = ch2 at hL2 hn2 ⊢
    show GoW _ _ _ _ _ _ _ T0 (mkF m 60 #[.val (.int i0), .val (.long i1), .second, .val (.int i2), .val (.int i3), .val (.long i4), .second, .val (.long i5), .second, .val (.int (1 : Int32)), .val (.int tln), .val (.int hln), .val (.int ch0), .val (.int ch1), .unset, .unset, .unset, .unset, .unset, .unset, .unset, .unset] [(.int ch2)])
    refine GoW.step (fun tt kk => XS.istore X0.here hx rfl (hb hby at_60) rfl (l' := #[.val (.int i0), .val (.long i1), .second, .val (.int i2), .val (.int i3), .val (.long i4), .second, .val (.long i5), .second, .val (.int (1 : Int32)), .val (.int tln), .val (.int hln), .val (.int ch0), .val (.int ch1), .val (.int ch2), .unset, .unset, .unset, .unset, .unset, .unset, .unset]) rfl kk) ?_
    show GoW _ _ _ _ _ _ _ T0 (mkF m 62 _ [])
    refine GoW.step (fun tt kk => XS.iload X0.here hx rfl (hb hby at_62) rfl kk) ?_
    show GoW _ _ _ _ _ _ _ T0 (mkF m 64 _ [(.int i3)])
    refine GoW.step (fun tt kk => XS.bipush X0.here hx rfl (hb hby at_64) kk) ?_
    show GoW _ _ _ _ _ _ _ T0 (mkF m 66 _ [(.int (24 : Int32)), (.int i3)])
    refine GoW.step (fun tt kk => XS.iushr X0.here hx rfl (hb hby at_66) rfl kk) ?_
    show GoW _ _ _ _ _ _ _ T0 (mkF m 67 _ [(.int ((i3.toUInt32 >>> ((24 : Int32) &&& 31).toUInt32).toInt32))])
    refine GoW.step (fun tt kk => XS.sipush X0.here hx rfl (hb hby at_67) kk) ?_
    show GoW _ _ _ _ _ _ _ T0 (mkF m 70 _ [(.int (255 : Int32)), (.int ((i3.toUInt32 >>> ((24 : Int32) &&& 31).toUInt32).toInt32))])
    refine GoW.step (fun tt kk => XS.iand X0.here hx rfl (hb hby at_70) rfl kk) ?_
    show GoW _ _ _ _ _ _ _ T0 (mkF m 71 _ [(.int (((i3.toUInt32 >>> ((24 : Int32) &&& 31).toUInt32).toInt32) &&& (255 : Int32)))])
    refine GoW.step (fun tt kk => XS.i2c X0.here hx rfl (hb hby at_71) rfl kk) ?_
    show GoW _ _ _ _ _ _ _ T0 (mkF m 72 _ [(.int ((((i3.toUInt32 >>> ((24 : Int32) &&& 31).toUInt32).toInt32) &&& (255 : Int32)).toUInt32.toUInt16.toUInt32.toInt32))])
    have hL3 : ¬ (255 : Int32) < ((((i3.toUInt32 >>> ((24 : Int32) &&& 31).toUInt32).toInt32) &&& (255 : Int32)).toUInt32.toUInt16.toUInt32.toInt32) := own_c8 _
    have hn3 : nar .char ((((i3.toUInt32 >>> ((24 : Int32) &&& 31).toUInt32).toInt32) &&& (255 : Int32)).toUInt32.toUInt16.toUInt32.toInt32) = ((((i3.toUInt32 >>> ((24 : Int32) &&& 31).toUInt32).toInt32) &&& (255 : Int32)).toUInt32.toUInt16.toUInt32.toInt32) := own_nc _
    generalize ((((i3.toUInt32 >>> ((24 : Int32) &&& 31).toUInt32).toInt32) &&& (255 : Int32)).toUInt32.toUInt16.toUInt32.toInt32) = ch3 at hL3 hn3 ⊢
    show GoW _ _ _ _ _ _ _ T0 (mkF m 72 #[.val (.int i0), .val (.long i1), .second, .val (.int i2), .val (.int i3), .val (.long i4), .second, .val (.long i5), .second, .val (.int (1 : Int32)), .val (.int tln), .val (.int hln), .val (.int ch0), .val (.int ch1), .val (.int ch2), .unset, .unset, .unset, .unset, .unset, .unset, .unset] [(.int ch3)])
    refine GoW.step (fun tt kk => XS.istore X0.here hx rfl (hb hby at_72) rfl (l' := #[.val (.int i0), .val (.long i1), .second, .val (.int i2), .val (.int i3), .val (.long i4), .second, .val (.long i5), .second, .val (.int (1 : Int32)), .val (.int tln), .val (.int hln), .val (.int ch0), .val (.int ch1), .val (.int ch2), .val (.int ch3), .unset, .unset, .unset, .unset, .unset, .unset]) rfl kk) ?_
    show GoW _ _ _ _ _ _ _ T0 (mkF m 74 _ [])
    refine GoW.step (fun tt kk => XS.iload X0.here hx rfl (hb hby at_74) rfl kk) ?_
    show GoW _ _ _ _ _ _ _ T0 (mkF m 76 _ [(.int (1 : Int32))])
    refine GoW.step (fun tt kk => XS.ifNo X0.here hx rfl (hb hby at_76) rfl ((if0 _ _).trans (feq (by decide)).1) kk) ?_
    show GoW _ _ _ _ _ _ _ T0 (mkF m 79 _ [])
    refine GoW.step (fun tt kk => XS.iload X0.here hx rfl (hb hby at_79) rfl kk) ?_
    show GoW _ _ _ _ _ _ _ T0 (mkF m 81 _ [(.int tln)])
    refine GoW.step (fun tt kk => XS.iload X0.here hx rfl (hb hby at_81) rfl kk) ?_
    show GoW _ _ _ _ _ _ _ T0 (mkF m 83 _ [(.int ch0), (.int tln)])
    refine GoW.step (fun tt kk => XS.iload X0.here hx rfl (hb hby at_83) rfl kk) ?_
    show GoW _ _ _ _ _ _ _ T0 (mkF m 85 _ [(.int ch1), (.int ch0), (.int tln)])
    obtain ⟨v9, s, T9, L9, X9, r9, hZ, hown, q9, st9⟩ := c_staticW X0 hx hZ hown (y := (⟨"com/example/sleet/sleet/LeaseRecordLeasedPinLaw", "text", "(ICC)Ljava/lang/String;"⟩ : MethodName)) (hw _ (List.mem_of_getElem? (i := 0) rfl)) (hw _ (List.mem_of_getElem? (i := 1) rfl)) (hw _ (List.mem_of_getElem? (i := 2) rfl)) (hw _ (List.mem_of_getElem? (i := 3) rfl)) (by decide) (argsL := [(.int tln), (.int ch0), (.int ch1)]) (rest := []) (rm1 l Z a0 hw [] tln ch0 ch1 cs h0 n0 Z0 hL0 hL1 hn0 hn1 hcs S0 hK hh hcw) (fun vm hW => VV.warm V0 hW) e0 pd_14 rfl (by rw [hml]; rfl) (W := 0) (by show 2 * 0 + _ ≤ _; exact Nat.le_of_eq rfl) (by decide) (by decide) (by decide) (by decide) (hb hby at_85) (Ls := #[.val (.int i0), .val (.long i1), .second, .val (.int i2), .val (.int i3), .val (.long i4), .second, .val (.long i5), .second, .val (.int (1 : Int32)), .val (.int tln), .val (.int hln), .val (.int ch0), .val (.int ch1), .val (.int ch2), .val (.int ch3), .unset, .unset, .unset, .unset, .unset, .unset])
    generalize e9 : T9.heap = h9 at q9
    obtain ⟨bx9, rfl, N9q, K9q, V9q⟩ := q9
    have N9 := Fr.app N0 N9q
    have Z9 : n0 ≤ h9.size := Nat.le_trans Z0 K9q.1
    have K9 : Keep hI h9 [] := K0.trans K9q all0
    refine GoW.step st9 (GoW.reb r9 ?_)
    show GoW _ _ _ _ _ _ _ T9 (mkF m 88 _ [(.ref bx9)])
    refine GoW.step (fun tt kk => XS.goto X9.here hx rfl (pc0 := 88) (pc' := 92) rfl (hb hby at_88) (by decide) (by decide) kk) ?_
    show GoW _ _ _ _ _ _ _ T9 (mkF m 92 _ [(.ref bx9)])
    refine GoW.step (fun tt kk => XS.astore X9.here hx rfl (hb hby at_92) rfl rfl (l' := #[.val (.int i0), .val (.long i1), .second, .val (.int i2), .val (.int i3), .val (.long i4), .second, .val (.long i5), .second, .val (.int (1 : Int32)), .val (.int tln), .val (.int hln), .val (.int ch0), .val (.int ch1), .val (.int ch2), .val (.int ch3), .val (.ref bx9), .unset, .unset, .unset, .unset, .unset]) rfl kk) ?_
    show GoW _ _ _ _ _ _ _ T9 (mkF m 94 _ [])
    refine GoW.step (fun tt kk => XS.iload X9.here hx rfl (hb hby at_94) rfl kk) ?_
    show GoW _ _ _ _ _ _ _ T9 (mkF m 96 _ [(.int (1 : Int32))])
    refine GoW.step (fun tt kk => XS.ifNo X9.here hx rfl (hb hby at_96) rfl ((if0 _ _).trans (feq (by decide)).1) kk) ?_
    show GoW _ _ _ _ _ _ _ T9 (mkF m 99 _ [])
    refine GoW.step (fun tt kk => XS.iload X9.here hx rfl (hb hby at_99) rfl kk) ?_
    show GoW _ _ _ _ _ _ _ T9 (mkF m 101 _ [(.int hln)])
    refine GoW.step (fun tt kk => XS.iconst X9.here hx rfl (hb hby at_101) kk) ?_
    show GoW _ _ _ _ _ _ _ T9 (mkF m 102 _ [(.int (3 : Int32)), (.int hln)])
    by_cases c102_10 : hln < (3 : Int32)
    · refine GoW.step (fun tt kk => XS.icmpNo X9.here hx rfl (hb hby at_102) rfl (tlt c102_10).2.1 kk) ?_
      show GoW _ _ _ _ _ _ _ T9 (mkF m 105 _ [])
      refine GoW.step (fun tt kk => XS.iload X9.here hx rfl (hb hby at_105) rfl kk) ?_
      show GoW _ _ _ _ _ _ _ T9 (mkF m 107 _ [(.int hln)])
      refine GoW.step (fun tt kk => XS.iload X9.here hx rfl (hb hby at_107) rfl kk) ?_
      show GoW _ _ _ _ _ _ _ T9 (mkF m 109 _ [(.int ch2), (.int hln)])
      refine GoW.step (fun tt kk => XS.iload X9.here hx rfl (hb hby at_109) rfl kk) ?_
      show GoW _ _ _ _ _ _ _ T9 (mkF m 111 _ [(.int ch3), (.int ch2), (.int hln)])
      have f12 := (own_sta_keep S0 K9q)
      obtain ⟨v11, s, T11, L11, X11, r11, hZ, hown, q11, st11⟩ := c_staticW X9 hx hZ hown (y := (⟨"com/example/sleet/sleet/LeaseRecordLeasedPinLaw", "text", "(ICC)Ljava/lang/String;"⟩ : MethodName)) (hw _ (List.mem_of_getElem? (i := 0) rfl)) (hw _ (List.mem_of_getElem? (i := 1) rfl)) (hw _ (List.mem_of_getElem? (i := 2) rfl)) (hw _ (List.mem_of_getElem? (i := 3) rfl)) (by decide) (argsL := [(.int hln), (.int ch2), (.int ch3)]) (rest := []) (rm1 l Z a0 hw [] hln ch2 ch3 cs h9 n0 Z9 hL2 hL3 hn2 hn3 hcs f12 (own_hK hK eI K9) hh hcw) (fun vm hW => VV.warm V9q hW) e9 pd_14 rfl (by rw [hml]; rfl) (W := 0) (by show 2 * 0 + _ ≤ _; exact Nat.le_of_eq rfl) (by decide) (by decide) (by decide) (by decide) (hb hby at_111) (Ls := #[.val (.int i0), .val (.long i1), .second, .val (.int i2), .val (.int i3), .val (.long i4), .second, .val (.long i5), .second, .val (.int (1 : Int32)), .val (.int tln), .val (.int hln), .val (.int ch0), .val (.int ch1), .val (.int ch2), .val (.int ch3), .val (.ref bx9), .unset, .unset, .unset, .unset, .unset])
      generalize e11 : T11.heap = h11 at q11
      obtain ⟨bx11, rfl, N11q, K11q, V11q⟩ := q11
      have N11 := Fr.app N9 N11q
      have Z11 : n0 ≤ h11.size := Nat.le_trans Z9 K11q.1
      have K11 : Keep hI h11 [] := K9.trans K11q all0
      refine GoW.step st11 (GoW.reb r11 ?_)
      show GoW _ _ _ _ _ _ _ T11 (mkF m 114 _ [(.ref bx11)])
      refine GoW.step (fun tt kk => XS.goto X11.here hx rfl (pc0 := 114) (pc' := 118) rfl (hb hby at_114) (by decide) (by decide) kk) ?_
      show GoW _ _ _ _ _ _ _ T11 (mkF m 118 _ [(.ref bx11)])
      refine GoW.step (fun tt kk => XS.astore X11.here hx rfl (hb hby at_118) rfl rfl (l' := #[.val (.int i0), .val (.long i1), .second, .val (.int i2), .val (.int i3), .val (.long i4), .second, .val (.long i5), .second, .val (.int (1 : Int32)), .val (.int tln), .val (.int hln), .val (.int ch0), .val (.int ch1), .val (.int ch2), .val (.int ch3), .val (.ref bx9), .val (.ref bx11), .unset, .unset, .unset, .unset]) rfl kk) ?_
      show GoW _ _ _ _ _ _ _ T11 (mkF m 120 _ [])
      refine GoW.step (fun tt kk => XS.iload X11.here hx rfl (hb hby at_120) rfl kk) ?_
      show GoW _ _ _ _ _ _ _ T11 (mkF m 122 _ [(.int (1 : Int32))])
      refine GoW.step (fun tt kk => XS.ifNo X11.here hx rfl (hb hby at_122) rfl ((if0 _ _).trans (feq (by decide)).1) kk) ?_
      show GoW _ _ _ _ _ _ _ T11 (mkF m 125 _ [])
      refine GoW.step (fun tt kk => XS.lload X11.here hx rfl (hb hby at_125) rfl kk) ?_
      show GoW _ _ _ _ _ _ _ T11 (mkF m 127 _ [(.long i4)])
      refine GoW.step (fun tt kk => XS.goto X11.here hx rfl (pc0 := 127) (pc' := 131) rfl (hb hby at_127) (by decide) (by decide) kk) ?_
      show GoW _ _ _ _ _ _ _ T11 (mkF m 131 _ [(.long i4)])
      refine GoW.step (fun tt kk => XS.lstore X11.here hx rfl (hb hby at_131) rfl (l' := #[.val (.int i0), .val (.long i1), .second, .val (.int i2), .val (.int i3), .val (.long i4), .second, .val (.long i5), .second, .val (.int (1 : Int32)), .val (.int tln), .val (.int hln), .val (.int ch0), .val (.int ch1), .val (.int ch2), .val (.int ch3), .val (.ref bx9), .val (.ref bx11), .val (.long i4), .second, .unset, .unset]) rfl kk) ?_
      show GoW _ _ _ _ _ _ _ T11 (mkF m 133 _ [])
      refine Go.w (Q := fun v h L => v = some (.int (1 : Int32)) ∧ Fr n0 L) (fun _ _ _ _ _ q => q) ?_
      show Go _ _ _ _ _ _ _ T11 (mkF m 133 #[.val (.int i0), .val (.long i1), .second, .val (.int i2), .val (.int i3), .val (.long i4), .second, .val (.long i5), .second, .val (.int (1 : Int32)), .val (.int tln), .val (.int hln), .val (.int ch0), .val (.int ch1), .val (.int ch2), .val (.int ch3), .val (.ref bx9), .val (.ref bx11), .val (.long i4), .second, .unset, .unset] [])
      obtain ⟨T13, h13, X13, e13, E13, A13, D13, -, st13⟩ := newO X11 hx hZ hown (hw _ (List.mem_of_getElem? (i := 26) rfl)) (hw _ (List.mem_of_getElem? (i := 27) rfl)) (hw _ (List.mem_of_getElem? (i := 28) rfl)) e11 (g := (mkF m 133 #[.val (.int i0), .val (.long i1), .second, .val (.int i2), .val (.int i3), .val (.long i4), .second, .val (.long i5), .second, .val (.int (1 : Int32)), .val (.int tln), .val (.int hln), .val (.int ch0), .val (.int ch1), .val (.int ch2), .val (.int ch3), .val (.ref bx9), .val (.ref bx11), .val (.long i4), .second, .unset, .unset] [])) rfl (hb hby at_133) (by decide) (by decide)
      obtain ⟨b13, g13⟩ : ∃ z, z = h11.size := ⟨_, rfl⟩
      rw [← g13] at A13 D13 st13
      have gn_b13 : n0 ≤ b13 := Nat.le_trans Z11 (Nat.le_of_eq g13.symm)
      have sz_b13 : hI.size ≤ b13 := Nat.le_trans K11.1 (Nat.le_of_eq g13.symm)
      have Z13 : n0 ≤ h13.size := Nat.le_trans Z11 E13.1
      have K13 : Keep hI h13 [] := K11.ext E13
      have F13_node : Fld Z h13 b13 "com/example/sleet/sleet/LeaseRecord" "node" "I" (.int (0 : Int32)) := D13 (Or.inr (hw _ (List.mem_of_getElem? (i := 39) rfl))) (ty := .int) (by decide)
      have F13_mark : Fld Z h13 b13 "com/example/sleet/sleet/LeaseRecord" "mark" "J" (.long (0 : Int64)) := D13 (Or.inr (hw _ (List.mem_of_getElem? (i := 41) rfl))) (ty := .long) (by decide)
      have F13_token : Fld Z h13 b13 "com/example/sleet/sleet/LeaseRecord" "token" "Ljava/lang/String;" .null := D13 (Or.inr (hw _ (List.mem_of_getElem? (i := 43) rfl))) (ty := (.object "java/lang/String")) (by decide)
      have F13_holder : Fld Z h13 b13 "com/example/sleet/sleet/LeaseRecord" "holder" "Ljava/lang/String;" .null := D13 (Or.inr (hw _ (List.mem_of_getElem? (i := 45) rfl))) (ty := (.object "java/lang/String")) (by decide)
      have F13_expires : Fld Z h13 b13 "com/example/sleet/sleet/LeaseRecord" "expires" "J" (.long (0 : Int64)) := D13 (Or.inr (hw _ (List.mem_of_getElem? (i := 47) rfl))) (ty := .long) (by decide)
      refine Go.step (st13) ?_
      show Go _ _ _ _ _ _ _ T13 (mkF m 136 _ [(.ref b13)])
      refine Go.step (fun tt kk => XS.dup X13.here hx rfl (hb hby at_136) rfl rfl kk) ?_
      show Go _ _ _ _ _ _ _ T13 (mkF m 137 _ [(.ref b13), (.ref b13)])
      refine Go.step (fun tt kk => XS.iloadN X13.here hx rfl (hb hby at_137) rfl kk) ?_
      show Go _ _ _ _ _ _ _ T13 (mkF m 138 _ [(.int i0), (.ref b13), (.ref b13)])
      refine Go.step (fun tt kk => XS.lloadN X13.here hx rfl (hb hby at_138) rfl kk) ?_
      show Go _ _ _ _ _ _ _ T13 (mkF m 139 _ [(.long i1), (.int i0), (.ref b13), (.ref b13)])
      refine Go.step (fun tt kk => XS.aload X13.here hx rfl (hb hby at_139) rfl rfl kk) ?_
      show Go _ _ _ _ _ _ _ T13 (mkF m 141 _ [(.ref bx9), (.long i1), (.int i0), (.ref b13), (.ref b13)])
      refine Go.step (fun tt kk => XS.aload X13.here hx rfl (hb hby at_141) rfl rfl kk) ?_
      show Go _ _ _ _ _ _ _ T13 (mkF m 143 _ [(.ref bx11), (.ref bx9), (.long i1), (.int i0), (.ref b13), (.ref b13)])
      refine Go.step (fun tt kk => XS.lload X13.here hx rfl (hb hby at_143) rfl kk) ?_
      show Go _ _ _ _ _ _ _ T13 (mkF m 145 _ [(.long i4), (.ref bx11), (.ref bx9), (.long i1), (.int i0), (.ref b13), (.ref b13)])
      obtain ⟨v14, T14, L14, X14, q14, st14⟩ := c_init X13 hx hZ hown (y := (⟨"com/example/sleet/sleet/LeaseRecord", "<init>", "(IJLjava/lang/String;Ljava/lang/String;J)V"⟩ : MethodName)) (hw _ (List.mem_of_getElem? (i := 29) rfl)) (hw _ (List.mem_of_getElem? (i := 30) rfl)) (hw _ (List.mem_of_getElem? (i := 28) rfl)) (hw _ (List.mem_of_getElem? (i := 31) rfl)) rfl (by decide) (a := b13) (argsL := [(.int i0), (.long i1), (.ref bx9), (.ref bx11), (.long i4)]) (rest := [(.ref b13)]) (rm5RR l Z a0 hw [] b13 i0 i1 i4 bx9 bx11 h13 n0 Z13 A13 F13_node F13_mark F13_token F13_holder F13_expires gn_b13) e13 pd_11 rfl (by rw [hml]; rfl) (W := 1) (by show 2 * 0 + _ ≤ _; exact Nat.le_of_eq rfl) (by decide) (by decide) (by decide) (by decide) (hb hby at_145) (Ls := #[.val (.int i0), .val (.long i1), .second, .val (.int i2), .val (.int i3), .val (.long i4), .second, .val (.long i5), .second, .val (.int (1 : Int32)), .val (.int tln), .val (.int hln), .val (.int ch0), .val (.int ch1), .val (.int ch2), .val (.int ch3), .val (.ref bx9), .val (.ref bx11), .val (.long i4), .second, .unset, .unset])
      generalize e14 : T14.heap = h14 at q14
      obtain ⟨rfl, N14q, K14q, E14q, Fq140, Fq141, Fq142⟩ := q14
      have N14 := Fr.app N11 N14q
      have Z14 : n0 ≤ h14.size := Nat.le_trans Z13 K14q.1
      have K14 : Keep hI h14 [] := K13.trans K14q (allS (Or.inr sz_b13) all0)
      refine Go.step (st14) ?_
      show Go _ _ _ _ _ _ _ T14 (mkF m 148 _ [(.ref b13)])
      refine Go.step (fun tt kk => XS.astore X14.here hx rfl (hb hby at_148) rfl rfl (l' := #[.val (.int i0), .val (.long i1), .second, .val (.int i2), .val (.int i3), .val (.long i4), .second, .val (.long i5), .second, .val (.int (1 : Int32)), .val (.int tln), .val (.int hln), .val (.int ch0), .val (.int ch1), .val (.int ch2), .val (.int ch3), .val (.ref bx9), .val (.ref bx11), .val (.long i4), .second, .val (.ref b13), .unset]) rfl kk) ?_
      show Go _ _ _ _ _ _ _ T14 (mkF m 150 _ [])
      refine Go.step (fun tt kk => XS.aload X14.here hx rfl (hb hby at_150) rfl rfl kk) ?_
      show Go _ _ _ _ _ _ _ T14 (mkF m 152 _ [(.ref b13)])
      refine Go.step (fun tt kk => XS.lload X14.here hx rfl (hb hby at_152) rfl kk) ?_
      show Go _ _ _ _ _ _ _ T14 (mkF m 154 _ [(.long i5), (.ref b13)])
      obtain ⟨v15, T15, L15, X15, q15, st15⟩ := c_virt X14 hx hZ hown (y' := (⟨"com/example/sleet/sleet/LeaseRecord", "freed", "(J)Lcom/example/sleet/sleet/LeaseRecord;"⟩ : MethodName)) (y := (⟨"com/example/sleet/sleet/LeaseRecord", "freed", "(J)Lcom/example/sleet/sleet/LeaseRecord;"⟩ : MethodName)) (C := "com/example/sleet/sleet/LeaseRecord") (hw _ (List.mem_of_getElem? (i := 48) rfl)) (hw _ (List.mem_of_getElem? (i := 49) rfl)) (notFace_of_selects (args := #[]) (mvT hZ (hw _ (List.mem_of_getElem? (i := 51) rfl)))) (hw _ (List.mem_of_getElem? (i := 51) rfl)) (hw _ (List.mem_of_getElem? (i := 50) rfl)) (hw _ (List.mem_of_getElem? (i := 28) rfl)) (hw _ (List.mem_of_getElem? (i := 52) rfl)) (by decide) (a := b13) (argsL := [(.long i5)]) (rest := []) (rm7 l Z a0 hw [] b13 i0 i1 i5 h14 n0 Z14 E14q Fq140 Fq141) e14 E14q pd_12 rfl (by rw [hml]; rfl) (W := 0) (by show 2 * 0 + _ ≤ _; exact Nat.le_of_eq rfl) (by decide) (by decide) (by decide) (by decide) (hb hby at_154) (Ls := #[.val (.int i0), .val (.long i1), .second, .val (.int i2), .val (.int i3), .val (.long i4), .second, .val (.long i5), .second, .val (.int (1 : Int32)), .val (.int tln), .val (.int hln), .val (.int ch0), .val (.int ch1), .val (.int ch2), .val (.int ch3), .val (.ref bx9), .val (.ref bx11), .val (.long i4), .second, .val (.ref b13), .unset])
      generalize e15 : T15.heap = h15 at q15
      obtain ⟨bf15, rfl, N15q, K15q, sz_bf15, E15q, Fq15⟩ := q15
      have N15 := Fr.app N14 N15q
      have Z15 : n0 ≤ h15.size := Nat.le_trans Z14 K15q.1
      have ne_b13_bf15 : b13 ≠ bf15 := Nat.ne_of_lt (Nat.lt_of_lt_of_le E14q.lt sz_bf15)
      have gn_bf15 : n0 ≤ bf15 := Nat.le_trans Z14 sz_bf15
      have sy_bf15 : hI.size ≤ bf15 := Nat.le_trans K14.1 sz_bf15
      have K15 : Keep hI h15 [] := K14.trans K15q all0
      refine Go.step (st15) ?_
      show Go _ _ _ _ _ _ _ T15 (mkF m 157 _ [(.ref bf15)])
      refine Go.step (fun tt kk => XS.astore X15.here hx rfl (hb hby at_157) rfl rfl (l' := #[.val (.int i0), .val (.long i1), .second, .val (.int i2), .val (.int i3), .val (.long i4), .second, .val (.long i5), .second, .val (.int (1 : Int32)), .val (.int tln), .val (.int hln), .val (.int ch0), .val (.int ch1), .val (.int ch2), .val (.int ch3), .val (.ref bx9), .val (.ref bx11), .val (.long i4), .second, .val (.ref b13), .val (.ref bf15)]) rfl kk) ?_
      show Go _ _ _ _ _ _ _ T15 (mkF m 159 _ [])
      refine Go.step (fun tt kk => XS.aload X15.here hx rfl (hb hby at_159) rfl rfl kk) ?_
      show Go _ _ _ _ _ _ _ T15 (mkF m 161 _ [(.ref b13)])
      have f17 := (Fq142.keep K15q nin0)
      have f18 := (E14q.keep K15q)
      obtain ⟨v16, T16, L16, X16, q16, st16⟩ := c_virt X15 hx hZ hown (y' := (⟨"com/example/sleet/sleet/LeaseRecord", "leased", "()Z"⟩ : MethodName)) (y := (⟨"com/example/sleet/sleet/LeaseRecord", "leased", "()Z"⟩ : MethodName)) (C := "com/example/sleet/sleet/LeaseRecord") (hw _ (List.mem_of_getElem? (i := 59) rfl)) (hw _ (List.mem_of_getElem? (i := 60) rfl)) (notFace_of_selects (args := #[]) (mvT hZ (hw _ (List.mem_of_getElem? (i := 62) rfl)))) (hw _ (List.mem_of_getElem? (i := 62) rfl)) (hw _ (List.mem_of_getElem? (i := 61) rfl)) (hw _ (List.mem_of_getElem? (i := 28) rfl)) (hw _ (List.mem_of_getElem? (i := 63) rfl)) (by decide) (a := b13) (argsL := []) (rest := []) (rm9R l Z a0 hw [] b13 bx9 h15 n0 Z15 f17) e15 f18 pd_13 rfl (by rw [hml]; rfl) (W := 0) (by show 2 * 0 + _ ≤ _; exact Nat.le_of_eq rfl) (by decide) (by decide) (by decide) (by decide) (hb hby at_161) (Ls := #[.val (.int i0), .val (.long i1), .second, .val (.int i2), .val (.int i3), .val (.long i4), .second, .val (.long i5), .second, .val (.int (1 : Int32)), .val (.int tln), .val (.int hln), .val (.int ch0), .val (.int ch1), .val (.int ch2), .val (.int ch3), .val (.ref bx9), .val (.ref bx11), .val (.long i4), .second, .val (.ref b13), .val (.ref bf15)])
      obtain ⟨rfl, rfl, e16⟩ := q16
      have N16 := Fr.app N15 (Fr.nil n0)
      refine Go.step (st16) ?_
      show Go _ _ _ _ _ _ _ T16 (mkF m 164 _ [(.int (1 : Int32))])
      refine Go.step (fun tt kk => XS.iload X16.here hx rfl (hb hby at_164) rfl kk) ?_
      show Go _ _ _ _ _ _ _ T16 (mkF m 166 _ [(.int (1 : Int32)), (.int (1 : Int32))])
      refine Go.step (fun tt kk => XS.icmpNo X16.here hx rfl (hb hby at_166) rfl (teq (by decide)).2 kk) ?_
      show Go _ _ _ _ _ _ _ T16 (mkF m 169 _ [])
      refine Go.step (fun tt kk => XS.aload X16.here hx rfl (hb hby at_169) rfl rfl kk) ?_
      show Go _ _ _ _ _ _ _ T16 (mkF m 171 _ [(.ref bf15)])
      obtain ⟨v19, T19, L19, X19, q19, st19⟩ := c_virt X16 hx hZ hown (y' := (⟨"com/example/sleet/sleet/LeaseRecord", "leased", "()Z"⟩ : MethodName)) (y := (⟨"com/example/sleet/sleet/LeaseRecord", "leased", "()Z"⟩ : MethodName)) (C := "com/example/sleet/sleet/LeaseRecord") (hw _ (List.mem_of_getElem? (i := 59) rfl)) (hw _ (List.mem_of_getElem? (i := 60) rfl)) (notFace_of_selects (args := #[]) (mvT hZ (hw _ (List.mem_of_getElem? (i := 62) rfl)))) (hw _ (List.mem_of_getElem? (i := 62) rfl)) (hw _ (List.mem_of_getElem? (i := 61) rfl)) (hw _ (List.mem_of_getElem? (i := 28) rfl)) (hw _ (List.mem_of_getElem? (i := 63) rfl)) (by decide) (a := bf15) (argsL := []) (rest := []) (rm9N l Z a0 hw [] bf15  h15 n0 Z15 Fq15) e16 E15q pd_13 rfl (by rw [hml]; rfl) (W := 0) (by show 2 * 0 + _ ≤ _; exact Nat.le_of_eq rfl) (by decide) (by decide) (by decide) (by decide) (hb hby at_171) (Ls := #[.val (.int i0), .val (.long i1), .second, .val (.int i2), .val (.int i3), .val (.long i4), .second, .val (.long i5), .second, .val (.int (1 : Int32)), .val (.int tln), .val (.int hln), .val (.int ch0), .val (.int ch1), .val (.int ch2), .val (.int ch3), .val (.ref bx9), .val (.ref bx11), .val (.long i4), .second, .val (.ref b13), .val (.ref bf15)])
      obtain ⟨rfl, rfl, e19⟩ := q19
      have N19 := Fr.app N16 (Fr.nil n0)
      refine Go.step (st19) ?_
      show Go _ _ _ _ _ _ _ T19 (mkF m 174 _ [(.int (0 : Int32))])
      refine Go.step (fun tt kk => XS.ifNo X19.here hx rfl (hb hby at_174) rfl ((if0 _ _).trans (teq (by decide)).2) kk) ?_
      show Go _ _ _ _ _ _ _ T19 (mkF m 177 _ [])
      refine Go.step (fun tt kk => XS.iconst X19.here hx rfl (hb hby at_177) kk) ?_
      show Go _ _ _ _ _ _ _ T19 (mkF m 178 _ [(.int (1 : Int32))])
      refine Go.step (fun tt kk => XS.goto X19.here hx rfl (pc0 := 178) (pc' := 182) rfl (hb hby at_178) (by decide) (by decide) kk) ?_
      show Go _ _ _ _ _ _ _ T19 (mkF m 182 _ [(.int (1 : Int32))])
      refine go_retN X19 hx (t := .boolean) hret (by simp) hlk (hb hby at_182) (w := (1 : Int32)) rfl ?_ (by decide) (by decide)
      try rw [e19]
      exact ⟨rfl, N19⟩
    · refine GoW.step (fun tt kk => XS.icmpYes X9.here hx rfl (pc0 := 102) (pc' := 117) rfl (hb hby at_102) rfl (flt c102_10).2.1 (by decide) (by decide) kk) ?_
      show GoW _ _ _ _ _ _ _ T9 (mkF m 117 _ [])
      refine GoW.step (fun tt kk => XS.aconstNull X9.here hx rfl (hb hby at_117) kk) ?_
      show GoW _ _ _ _ _ _ _ T9 (mkF m 118 _ [.null])
      refine GoW.step (fun tt kk => XS.astore X9.here hx rfl (hb hby at_118) rfl rfl (l' := #[.val (.int i0), .val (.long i1), .second, .val (.int i2), .val (.int i3), .val (.long i4), .second, .val (.long i5), .second, .val (.int (1 : Int32)), .val (.int tln), .val (.int hln), .val (.int ch0), .val (.int ch1), .val (.int ch2), .val (.int ch3), .val (.ref bx9), .val .null, .unset, .unset, .unset, .unset]) rfl kk) ?_
      show GoW _ _ _ _ _ _ _ T9 (mkF m 120 _ [])
      refine GoW.step (fun tt kk => XS.iload X9.here hx rfl (hb hby at_120) rfl kk) ?_
      show GoW _ _ _ _ _ _ _ T9 (mkF m 122 _ [(.int (1 : Int32))])
      refine GoW.step (fun tt kk => XS.ifNo X9.here hx rfl (hb hby at_122) rfl ((if0 _ _).trans (feq (by decide)).1) kk) ?_
      show GoW _ _ _ _ _ _ _ T9 (mkF m 125 _ [])
      refine GoW.step (fun tt kk => XS.lload X9.here hx rfl (hb hby at_125) rfl kk) ?_
      show GoW _ _ _ _ _ _ _ T9 (mkF m 127 _ [(.long i4)])
      refine GoW.step (fun tt kk => XS.goto X9.here hx rfl (pc0 := 127) (pc' := 131) rfl (hb hby at_127) (by decide) (by decide) kk) ?_
      show GoW _ _ _ _ _ _ _ T9 (mkF m 131 _ [(.long i4)])
      refine GoW.step (fun tt kk => XS.lstore X9.here hx rfl (hb hby at_131) rfl (l' := #[.val (.int i0), .val (.long i1), .second, .val (.int i2), .val (.int i3), .val (.long i4), .second, .val (.long i5), .second, .val (.int (1 : Int32)), .val (.int tln), .val (.int hln), .val (.int ch0), .val (.int ch1), .val (.int ch2), .val (.int ch3), .val (.ref bx9), .val .null, .val (.long i4), .second, .unset, .unset]) rfl kk) ?_
      show GoW _ _ _ _ _ _ _ T9 (mkF m 133 _ [])
      refine Go.w (Q := fun v h L => v = some (.int (1 : Int32)) ∧ Fr n0 L) (fun _ _ _ _ _ q => q) ?_
      show Go _ _ _ _ _ _ _ T9 (mkF m 133 #[.val (.int i0), .val (.long i1), .second, .val (.int i2), .val (.int i3), .val (.long i4), .second, .val (.long i5), .second, .val (.int (1 : Int32)), .val (.int tln), .val (.int hln), .val (.int ch0), .val (.int ch1), .val (.int ch2), .val (.int ch3), .val (.ref bx9), .val .null, .val (.long i4), .second, .unset, .unset] [])
      obtain ⟨T20, h20, X20, e20, E20, A20, D20, -, st20⟩ := newO X9 hx hZ hown (hw _ (List.mem_of_getElem? (i := 26) rfl)) (hw _ (List.mem_of_getElem? (i := 27) rfl)) (hw _ (List.mem_of_getElem? (i := 28) rfl)) e9 (g := (mkF m 133 #[.val (.int i0), .val (.long i1), .second, .val (.int i2), .val (.int i3), .val (.long i4), .second, .val (.long i5), .second, .val (.int (1 : Int32)), .val (.int tln), .val (.int hln), .val (.int ch0), .val (.int ch1), .val (.int ch2), .val (.int ch3), .val (.ref bx9), .val .null, .val (.long i4), .second, .unset, .unset] [])) rfl (hb hby at_133) (by decide) (by decide)
      obtain ⟨b20, g20⟩ : ∃ z, z = h9.size := ⟨_, rfl⟩
      rw [← g20] at A20 D20 st20
      have gn_b20 : n0 ≤ b20 := Nat.le_trans Z9 (Nat.le_of_eq g20.symm)
      have sz_b20 : hI.size ≤ b20 := Nat.le_trans K9.1 (Nat.le_of_eq g20.symm)
      have Z20 : n0 ≤ h20.size := Nat.le_trans Z9 E20.1
      have K20 : Keep hI h20 [] := K9.ext E20
      have F20_node : Fld Z h20 b20 "com/example/sleet/sleet/LeaseRecord" "node" "I" (.int (0 : Int32)) := D20 (Or.inr (hw _ (List.mem_of_getElem? (i := 39) rfl))) (ty := .int) (by decide)
      have F20_mark : Fld Z h20 b20 "com/example/sleet/sleet/LeaseRecord" "mark" "J" (.long (0 : Int64)) := D20 (Or.inr (hw _ (List.mem_of_getElem? (i := 41) rfl))) (ty := .long) (by decide)
      have F20_token : Fld Z h20 b20 "com/example/sleet/sleet/LeaseRecord" "token" "Ljava/lang/String;" .null := D20 (Or.inr (hw _ (List.mem_of_getElem? (i := 43) rfl))) (ty := (.object "java/lang/String")) (by decide)
      have F20_holder : Fld Z h20 b20 "com/example/sleet/sleet/LeaseRecord" "holder" "Ljava/lang/String;" .null := D20 (Or.inr (hw _ (List.mem_of_getElem? (i := 45) rfl))) (ty := (.object "java/lang/String")) (by decide)
      have F20_expires : Fld Z h20 b20 "com/example/sleet/sleet/LeaseRecord" "expires" "J" (.long (0 : Int64)) := D20 (Or.inr (hw _ (List.mem_of_getElem? (i := 47) rfl))) (ty := .long) (by decide)
      refine Go.step (st20) ?_
      show Go _ _ _ _ _ _ _ T20 (mkF m 136 _ [(.ref b20)])
      refine Go.step (fun tt kk => XS.dup X20.here hx rfl (hb hby at_136) rfl rfl kk) ?_
      show Go _ _ _ _ _ _ _ T20 (mkF m 137 _ [(.ref b20), (.ref b20)])
      refine Go.step (fun tt kk => XS.iloadN X20.here hx rfl (hb hby at_137) rfl kk) ?_
      show Go _ _ _ _ _ _ _ T20 (mkF m 138 _ [(.int i0), (.ref b20), (.ref b20)])
      refine Go.step (fun tt kk => XS.lloadN X20.here hx rfl (hb hby at_138) rfl kk) ?_
      show Go _ _ _ _ _ _ _ T20 (mkF m 139 _ [(.long i1), (.int i0), (.ref b20), (.ref b20)])
      refine Go.step (fun tt kk => XS.aload X20.here hx rfl (hb hby at_139) rfl rfl kk) ?_
      show Go _ _ _ _ _ _ _ T20 (mkF m 141 _ [(.ref bx9), (.long i1), (.int i0), (.ref b20), (.ref b20)])
      refine Go.step (fun tt kk => XS.aload X20.here hx rfl (hb hby at_141) rfl rfl kk) ?_
      show Go _ _ _ _ _ _ _ T20 (mkF m 143 _ [.null, (.ref bx9), (.long i1), (.int i0), (.ref b20), (.ref b20)])
      refine Go.step (fun tt kk => XS.lload X20.here hx rfl (hb hby at_143) rfl kk) ?_
      show Go _ _ _ _ _ _ _ T20 (mkF m 145 _ [(.long i4), .null, (.ref bx9), (.long i1), (.int i0), (.ref b20), (.ref b20)])
      obtain ⟨v21, T21, L21, X21, q21, st21⟩ := c_init X20 hx hZ hown (y := (⟨"com/example/sleet/sleet/LeaseRecord", "<init>", "(IJLjava/lang/String;Ljava/lang/String;J)V"⟩ : MethodName)) (hw _ (List.mem_of_getElem? (i := 29) rfl)) (hw _ (List.mem_of_getElem? (i := 30) rfl)) (hw _ (List.mem_of_getElem? (i := 28) rfl)) (hw _ (List.mem_of_getElem? (i := 31) rfl)) rfl (by decide) (a := b20) (argsL := [(.int i0), (.long i1), (.ref bx9), .null, (.long i4)]) (rest := [(.ref b20)]) (rm5RN l Z a0 hw [] b20 i0 i1 i4 bx9 h20 n0 Z20 A20 F20_node F20_mark F20_token F20_holder F20_expires gn_b20) e20 pd_11 rfl (by rw [hml]; rfl) (W := 1) (by show 2 * 0 + _ ≤ _; exact Nat.le_of_eq rfl) (by decide) (by decide) (by decide) (by decide) (hb hby at_145) (Ls := #[.val (.int i0), .val (.long i1), .second, .val (.int i2), .val (.int i3), .val (.long i4), .second, .val (.long i5), .second, .val (.int (1 : Int32)), .val (.int tln), .val (.int hln), .val (.int ch0), .val (.int ch1), .val (.int ch2), .val (.int ch3), .val (.ref bx9), .val .null, .val (.long i4), .second, .unset, .unset])
      generalize e21 : T21.heap = h21 at q21
      obtain ⟨rfl, N21q, K21q, E21q, Fq210, Fq211, Fq212⟩ := q21
      have N21 := Fr.app N9 N21q
      have Z21 : n0 ≤ h21.size := Nat.le_trans Z20 K21q.1
      have K21 : Keep hI h21 [] := K20.trans K21q (allS (Or.inr sz_b20) all0)
      refine Go.step (st21) ?_
      show Go _ _ _ _ _ _ _ T21 (mkF m 148 _ [(.ref b20)])
      refine Go.step (fun tt kk => XS.astore X21.here hx rfl (hb hby at_148) rfl rfl (l' := #[.val (.int i0), .val (.long i1), .second, .val (.int i2), .val (.int i3), .val (.long i4), .second, .val (.long i5), .second, .val (.int (1 : Int32)), .val (.int tln), .val (.int hln), .val (.int ch0), .val (.int ch1), .val (.int ch2), .val (.int ch3), .val (.ref bx9), .val .null, .val (.long i4), .second, .val (.ref b20), .unset]) rfl kk) ?_
      show Go _ _ _ _ _ _ _ T21 (mkF m 150 _ [])
      refine Go.step (fun tt kk => XS.aload X21.here hx rfl (hb hby at_150) rfl rfl kk) ?_
      show Go _ _ _ _ _ _ _ T21 (mkF m 152 _ [(.ref b20)])
      refine Go.step (fun tt kk => XS.lload X21.here hx rfl (hb hby at_152) rfl kk) ?_
      show Go _ _ _ _ _ _ _ T21 (mkF m 154 _ [(.long i5), (.ref b20)])
      obtain ⟨v22, T22, L22, X22, q22, st22⟩ := c_virt X21 hx hZ hown (y' := (⟨"com/example/sleet/sleet/LeaseRecord", "freed", "(J)Lcom/example/sleet/sleet/LeaseRecord;"⟩ : MethodName)) (y := (⟨"com/example/sleet/sleet/LeaseRecord", "freed", "(J)Lcom/example/sleet/sleet/LeaseRecord;"⟩ : MethodName)) (C := "com/example/sleet/sleet/LeaseRecord") (hw _ (List.mem_of_getElem? (i := 48) rfl)) (hw _ (List.mem_of_getElem? (i := 49) rfl)) (notFace_of_selects (args := #[]) (mvT hZ (hw _ (List.mem_of_getElem? (i := 51) rfl)))) (hw _ (List.mem_of_getElem? (i := 51) rfl)) (hw _ (List.mem_of_getElem? (i := 50) rfl)) (hw _ (List.mem_of_getElem? (i := 28) rfl)) (hw _ (List.mem_of_getElem? (i := 52) rfl)) (by decide) (a := b20) (argsL := [(.long i5)]) (rest := []) (rm7 l Z a0 hw [] b20 i0 i1 i5 h21 n0 Z21 E21q Fq210 Fq211) e21 E21q pd_12 rfl (by rw [hml]; rfl) (W := 0) (by show 2 * 0 + _ ≤ _; exact Nat.le_of_eq rfl) (by decide) (by decide) (by decide) (by decide) (hb hby at_154) (Ls := #[.val (.int i0), .val (.long i1), .second, .val (.int i2), .val (.int i3), .val (.long i4), .second, .val (.long i5), .second, .val (.int (1 : Int32)), .val (.int tln), .val (.int hln), .val (.int ch0), .val (.int ch1), .val (.int ch2), .val (.int ch3), .val (.ref bx9), .val .null, .val (.long i4), .second, .val (.ref b20), .unset])
      generalize e22 : T22.heap = h22 at q22
      obtain ⟨bf22, rfl, N22q, K22q, sz_bf22, E22q, Fq22⟩ := q22
      have N22 := Fr.app N21 N22q
      have Z22 : n0 ≤ h22.size := Nat.le_trans Z21 K22q.1
      have ne_b20_bf22 : b20 ≠ bf22 := Nat.ne_of_lt (Nat.lt_of_lt_of_le E21q.lt sz_bf22)
      have gn_bf22 : n0 ≤ bf22 := Nat.le_trans Z21 sz_bf22
      have sy_bf22 : hI.size ≤ bf22 := Nat.le_trans K21.1 sz_bf22
      have K22 : Keep hI h22 [] := K21.trans K22q all0
      refine Go.step (st22) ?_
      show Go _ _ _ _ _ _ _ T22 (mkF m 157 _ [(.ref bf22)])
      refine Go.step (fun tt kk => XS.astore X22.here hx rfl (hb hby at_157) rfl rfl (l' := #[.val (.int i0), .val (.long i1), .second, .val (.int i2), .val (.int i3), .val (.long i4), .second, .val (.long i5), .second, .val (.int (1 : Int32)), .val (.int tln), .val (.int hln), .val (.int ch0), .val (.int ch1), .val (.int ch2), .val (.int ch3), .val (.ref bx9), .val .null, .val (.long i4), .second, .val (.ref b20), .val (.ref bf22)]) rfl kk) ?_
      show Go _ _ _ _ _ _ _ T22 (mkF m 159 _ [])
      refine Go.step (fun tt kk => XS.aload X22.here hx rfl (hb hby at_159) rfl rfl kk) ?_
      show Go _ _ _ _ _ _ _ T22 (mkF m 161 _ [(.ref b20)])
      have f24 := (Fq212.keep K22q nin0)
      have f25 := (E21q.keep K22q)
      obtain ⟨v23, T23, L23, X23, q23, st23⟩ := c_virt X22 hx hZ hown (y' := (⟨"com/example/sleet/sleet/LeaseRecord", "leased", "()Z"⟩ : MethodName)) (y := (⟨"com/example/sleet/sleet/LeaseRecord", "leased", "()Z"⟩ : MethodName)) (C := "com/example/sleet/sleet/LeaseRecord") (hw _ (List.mem_of_getElem? (i := 59) rfl)) (hw _ (List.mem_of_getElem? (i := 60) rfl)) (notFace_of_selects (args := #[]) (mvT hZ (hw _ (List.mem_of_getElem? (i := 62) rfl)))) (hw _ (List.mem_of_getElem? (i := 62) rfl)) (hw _ (List.mem_of_getElem? (i := 61) rfl)) (hw _ (List.mem_of_getElem? (i := 28) rfl)) (hw _ (List.mem_of_getElem? (i := 63) rfl)) (by decide) (a := b20) (argsL := []) (rest := []) (rm9R l Z a0 hw [] b20 bx9 h22 n0 Z22 f24) e22 f25 pd_13 rfl (by rw [hml]; rfl) (W := 0) (by show 2 * 0 + _ ≤ _; exact Nat.le_of_eq rfl) (by decide) (by decide) (by decide) (by decide) (hb hby at_161) (Ls := #[.val (.int i0), .val (.long i1), .second, .val (.int i2), .val (.int i3), .val (.long i4), .second, .val (.long i5), .second, .val (.int (1 : Int32)), .val (.int tln), .val (.int hln), .val (.int ch0), .val (.int ch1), .val (.int ch2), .val (.int ch3), .val (.ref bx9), .val .null, .val (.long i4), .second, .val (.ref b20), .val (.ref bf22)])
      obtain ⟨rfl, rfl, e23⟩ := q23
      have N23 := Fr.app N22 (Fr.nil n0)
      refine Go.step (st23) ?_
      show Go _ _ _ _ _ _ _ T23 (mkF m 164 _ [(.int (1 : Int32))])
      refine Go.step (fun tt kk => XS.iload X23.here hx rfl (hb hby at_164) rfl kk) ?_
      show Go _ _ _ _ _ _ _ T23 (mkF m 166 _ [(.int (1 : Int32)), (.int (1 : Int32))])
      refine Go.step (fun tt kk => XS.icmpNo X23.here hx rfl (hb hby at_166) rfl (teq (by decide)).2 kk) ?_
      show Go _ _ _ _ _ _ _ T23 (mkF m 169 _ [])
      refine Go.step (fun tt kk => XS.aload X23.here hx rfl (hb hby at_169) rfl rfl kk) ?_
      show Go _ _ _ _ _ _ _ T23 (mkF m 171 _ [(.ref bf22)])
      obtain ⟨v26, T26, L26, X26, q26, st26⟩ := c_virt X23 hx hZ hown (y' := (⟨"com/example/sleet/sleet/LeaseRecord", "leased", "()Z"⟩ : MethodName)) (y := (⟨"com/example/sleet/sleet/LeaseRecord", "leased", "()Z"⟩ : MethodName)) (C := "com/example/sleet/sleet/LeaseRecord") (hw _ (List.mem_of_getElem? (i := 59) rfl)) (hw _ (List.mem_of_getElem? (i := 60) rfl)) (notFace_of_selects (args := #[]) (mvT hZ (hw _ (List.mem_of_getElem? (i := 62) rfl)))) (hw _ (List.mem_of_getElem? (i := 62) rfl)) (hw _ (List.mem_of_getElem? (i := 61) rfl)) (hw _ (List.mem_of_getElem? (i := 28) rfl)) (hw _ (List.mem_of_getElem? (i := 63) rfl)) (by decide) (a := bf22) (argsL := []) (rest := []) (rm9N l Z a0 hw [] bf22  h22 n0 Z22 Fq22) e23 E22q pd_13 rfl (by rw [hml]; rfl) (W := 0) (by show 2 * 0 + _ ≤ _; exact Nat.le_of_eq rfl) (by decide) (by decide) (by decide) (by decide) (hb hby at_171) (Ls := #[.val (.int i0), .val (.long i1), .second, .val (.int i2), .val (.int i3), .val (.long i4), .second, .val (.long i5), .second, .val (.int (1 : Int32)), .val (.int tln), .val (.int hln), .val (.int ch0), .val (.int ch1), .val (.int ch2), .val (.int ch3), .val (.ref bx9), .val .null, .val (.long i4), .second, .val (.ref b20), .val (.ref bf22)])
      obtain ⟨rfl, rfl, e26⟩ := q26
      have N26 := Fr.app N23 (Fr.nil n0)
      refine Go.step (st26) ?_
      show Go _ _ _ _ _ _ _ T26 (mkF m 174 _ [(.int (0 : Int32))])
      refine Go.step (fun tt kk => XS.ifNo X26.here hx rfl (hb hby at_174) rfl ((if0 _ _).trans (teq (by decide)).2) kk) ?_
      show Go _ _ _ _ _ _ _ T26 (mkF m 177 _ [])
      refine Go.step (fun tt kk => XS.iconst X26.here hx rfl (hb hby at_177) kk) ?_
      show Go _ _ _ _ _ _ _ T26 (mkF m 178 _ [(.int (1 : Int32))])
      refine Go.step (fun tt kk => XS.goto X26.here hx rfl (pc0 := 178) (pc' := 182) rfl (hb hby at_178) (by decide) (by decide) kk) ?_
      show Go _ _ _ _ _ _ _ T26 (mkF m 182 _ [(.int (1 : Int32))])
      refine go_retN X26 hx (t := .boolean) hret (by simp) hlk (hb hby at_182) (w := (1 : Int32)) rfl ?_ (by decide) (by decide)
      try rw [e26]
      exact ⟨rfl, N26⟩
set_option maxRecDepth 65536 in
set_option maxHeartbeats 40000000 in
theorem comes_1 {Post : Tables → Env → Array Value → State → Outcome → State → Prop} (hpost : ∀ tb e args s v u, (limb_1_1.after args s (.returned v) u = true ∧ limb_1_2.after args s (.returned v) u = true ∧ True) → ReturnedEndW s (.returned v) u (Jvm.fieldLocs frame_1_writes args s ++ Jvm.arrayLocs frame_1_arrays args s ++ Jvm.staticLocs frame_1_statics s) 32 1152 → Post tb e args s (.returned v) u) :
    ArmFor flags0 classFile x code maxLocals ret World_1 tables_1 room_1 Calls_1 rest_1 Pre_1 Post := by
  intro l hfl _ _ p e ha hc hk s m args below hf hA hF happ hP
  obtain ⟨hcalls, hrest, hpre⟩ := hP
  obtain ⟨-, -, -, hnamed, -, -, -, hat⟩ := (Spec.applies_iff hf).mp happ
  obtain ⟨hg, hn⟩ := and_e (Cond.before_iff.mp (show (Jvm.Cond.and given_1 narrow_1).before args s = true from hpre))
  obtain ⟨hcnt, hg1⟩ := and_e hg
  obtain ⟨ha0, hg2⟩ := and_e hg1
  obtain ⟨ha1, hg3⟩ := and_e hg2
  obtain ⟨ha2, hg4⟩ := and_e hg3
  obtain ⟨ha3, hg5⟩ := and_e hg4
  obtain ⟨ha4, hg6⟩ := and_e hg5
  obtain ⟨w0, w1, w2, w3, w4, w5, rfl⟩ : ∃ w0 w1 w2 w3 w4 w5 : Value, args = #[w0, w1, w2, w3, w4, w5] := by
    have hs : args.size = 6 := by simpa [Cond.value, given_1] using hcnt
    obtain ⟨L⟩ := args
    match L, hs with
    | [w0, w1, w2, w3, w4, w5], _ => exact ⟨w0, w1, w2, w3, w4, w5, rfl⟩
  have hw := fun d (hd : d ∈ tables_1) => atoms_spec (ws := Jvm.Cond.code x code maxLocals ret :: tables_1) hat d (List.mem_cons_of_mem _ hd)
  have hfit : Fit s := fun {y c} hc i hi => by
    obtain ⟨ha, rfl⟩ := Array.getElem?_eq_some_iff.mp hc
    have q := List.all_eq_true.mp ((Array.all_eq_true_iff_forall_mem.mp hF) _ (Array.getElem_mem ha)) i (List.mem_range.mpr hi)
    simpa [Array.getElem?_eq_getElem hi] using q
  obtain ⟨i0, ei0⟩ := is_v ha0
  obtain rfl : w0 = (.int i0) := Option.some.inj ei0
  obtain ⟨i1, ei1⟩ := isL_v ha1
  obtain rfl : w1 = (.long i1) := Option.some.inj ei1
  obtain ⟨i2, ei2⟩ := is_v ha2
  obtain rfl : w2 = (.int i2) := Option.some.inj ei2
  obtain ⟨i3, ei3⟩ := is_v ha3
  obtain rfl : w3 = (.int i3) := Option.some.inj ei3
  obtain ⟨i4, ei4⟩ := isL_v ha4
  obtain rfl : w4 = (.long i4) := Option.some.inj ei4
  obtain ⟨i5, ei5⟩ := isL_v hg6
  obtain rfl : w5 = (.long i5) := Option.some.inj ei5
  have hr := Cond.before_iff.mp (show rest_1_c.before _ s = true from hrest)
  obtain ⟨rw0, rr0⟩ := and_e hr
  obtain ⟨rw1, rr1⟩ := and_e rr0
  obtain ⟨rw2, rr2⟩ := and_e rr1
  obtain ⟨rw3, rr3⟩ := and_e rr2
  obtain ⟨rw4, rr4⟩ := and_e rr3
  obtain ⟨rw5, rr5⟩ := and_e rr4
  obtain ⟨rw6, rr6⟩ := and_e rr5
  obtain ⟨rw7, rr7⟩ := and_e rr6
  obtain ⟨rw8, rr8⟩ := and_e rr7
  obtain ⟨cs, ev0⟩ := is_v rw1
  have hcs := own_ne0 ev0 rw2
  have S0 := Sta.start ev0 (Or.inl (Cond.before_iff.mpr rw0))
  have hh : Jvm.Lit.constHeld s "java/lang/String" 7 := (show constsHeld consts_1 s from hcalls.1) ("java/lang/String", 7) (by simp [consts_1])
  obtain ⟨n, o, h1, h2, h3, _, L, rfl, ⟨rfl, N⟩, hq⟩ := rm0 l s _ hw tables_1 i0 i1 i2 i3 i4 i5 cs s.heap s.heap.size (Nat.le_refl _) hcs S0 (Keep.refl _ _) hh (Cond.before_iff.mpr rw2) p e ha hc hk s m _ below hf ((Spec.applies_iff_loose hf).mp happ).1 ⟨rfl, State.Warmed39.refl s, rfl, Or.inl IB.start⟩ trivial
  refine ⟨n, _, h1, h2, h3, hpost _ _ _ _ _ _ ⟨Cond.after_iff.mpr rfl, Cond.after_iff.mpr (eq_i res_at (Term.int_eval (1)) rfl), trivial⟩ ⟨hq.1, hq.2.1, hq.2.2.1, (hq.2.2.2.sift fun y hy => Or.inr (N y hy)).mono (by decide) (by decide)⟩⟩
theorem main_1_1 : Claimed_1_1 := comes_1 fun _ _ _ _ _ _ h hF => ⟨h.1, hF⟩
theorem main_1_2 : Claimed_1_2 := comes_1 fun _ _ _ _ _ _ h hF => ⟨h.2.1, hF⟩
end Jvm.Pilot.@@N@@
namespace Jvm.Pilot.@@N@@
open Jvm Jvm.ClassFile Sem Op Lib Jvm.Free Jvm.Stand Jvm.Pilot.@@N@@.Jvm.D
/-! MADE BY PROGRAM (witnessworld.py) out of the Statement's table words and the real class files: 20 classes; the members and pool entries that the words name. The judged class is class 1, her method 1. -/
namespace start1
open Jvm.ClassFile
def u (s : String) : CpInfo := .utf8 (stringToUtf16 s)
/-- a pool by its gaps: so many unusable entries, then the entry; so many at the end -/
def gap : Nat → List CpInfo → List CpInfo
  | 0, r => r
  | n + 1, r => .unusable :: gap n r
def poolList (es : List (Nat × CpInfo)) (last : Nat) : List CpInfo := es.foldr (fun e r => gap e.1 (e.2 :: r)) (gap last [])
def pool (es : List (Nat × CpInfo)) (last : Nat) : Array CpInfo := ⟨poolList es last⟩
def fileOf (pool : Array CpInfo) (this : Nat) (attrs : Array Attribute := #[]) (ms : Array MethodInfo := #[]) (fl : Nat := 33) (sup : Nat := 0) (ifs : Array Nat := #[]) (fds : Array FieldInfo := #[]) : ClassFile where
  minorVersion := 0
  majorVersion := 65
  constantPool := pool
  accessFlags := fl
  thisClass := this
  superClass := sup
  interfaces := ifs
  fields := fds
  methods := ms
  attributes := attrs
def plain (name : String) (sup : Option ClassId) : Class where
  name := name
  kind := .ordinary
  loader := none
  accessFlags := 33
  super := sup
  interfaces := #[]
  cf := none
  fields := #[]
  methods := #[]
  instanceTypes := #[]
  staticTypes := #[]
  resolved := #[]
  callSites := []
  init := .initialized
  statics := none
  mirror := none

def pool0 : Array CpInfo := pool [(5, u "<init>"), (0, u "()V"), (1, .class_ 10), (1, u "java/lang/Object")] 113

def k0c0 : Code := { maxStack := 0, maxLocals := 1, code := object_method_1_code, exceptionTable := #[], attributes := #[] }
def k0m0 : Method := { name := "<init>", desc := "()V", sig := { parameters := [], returnType := none }, accessFlags := 1, code := some k0c0 }
/-- java/lang/Object -/
def k0 : Class := { plain "java/lang/Object" none with
  accessFlags := 33
  interfaces := #[]
  cf := some (fileOf pool0 8 #[] #[{ accessFlags := 1, nameIndex := 5, descriptorIndex := 6, attributes := #[] }] 33 0 #[] #[])
  fields := #[]
  methods := #[k0m0]
  instanceTypes := #[]
  staticTypes := #[]
  resolved := Array.replicate 124 none
  statics := none }

def pool1 : Array CpInfo := pool [(2, .class_ 4), (1, u "java/lang/Object"), (0, u "<init>"), (0, u "()V"), (0, .methodref 8 9), (0, .class_ 10), (0, .nameAndType 11 12), (0, u "com/example/sleet/sleet/LeaseRecordLeasedPinLaw"), (0, u "text"), (0, u "(ICC)Ljava/lang/String;"), (0, .class_ 14), (0, u "com/example/sleet/sleet/LeaseRecord"), (0, .methodref 13 16), (0, .nameAndType 5 17), (0, u "(IJLjava/lang/String;Ljava/lang/String;J)V"), (0, .methodref 13 19), (0, .nameAndType 20 21), (0, u "freed"), (0, u "(J)Lcom/example/sleet/sleet/LeaseRecord;"), (0, .methodref 13 23), (0, .nameAndType 24 25), (0, u "leased"), (0, u "()Z"), (0, .class_ 27), (0, u "java/lang/String"), (0, .methodref 26 29), (0, .nameAndType 5 30), (0, u "([C)V"), (0, .methodref 26 32), (0, .nameAndType 33 34), (0, u "valueOf"), (0, u "(C)Ljava/lang/String;"), (2, u "law"), (0, u "(IJIIJJ)Z")] 3

def k1m0 : Method := { name := "<init>", desc := "()V", sig := { parameters := [], returnType := none }, accessFlags := 1, code := none }
def k1c1 : Code := { maxStack := 9, maxLocals := 22, code := code, exceptionTable := #[], attributes := #[] }
def k1m1 : Method := { name := "law", desc := "(IJIIJJ)Z", sig := { parameters := [.int, .long, .int, .int, .long, .long], returnType := some .boolean }, accessFlags := 9, code := some k1c1 }
def k1c2 : Code := { maxStack := 6, maxLocals := 3, code := method_3_code, exceptionTable := #[], attributes := #[] }
def k1m2 : Method := { name := "text", desc := "(ICC)Ljava/lang/String;", sig := { parameters := [.int, .char, .char], returnType := some (.object "java/lang/String") }, accessFlags := 10, code := some k1c2 }
/-- com/example/sleet/sleet/LeaseRecordLeasedPinLaw -/
def k1 : Class := { plain "com/example/sleet/sleet/LeaseRecordLeasedPinLaw" (some 0) with
  accessFlags := 49
  interfaces := #[]
  cf := some (fileOf pool1 8 #[] #[{ accessFlags := 1, nameIndex := 5, descriptorIndex := 6, attributes := #[] }, { accessFlags := 9, nameIndex := 37, descriptorIndex := 38, attributes := #[] }, { accessFlags := 10, nameIndex := 11, descriptorIndex := 12, attributes := #[] }] 49 2 #[] #[])
  fields := #[]
  methods := #[k1m0, k1m1, k1m2]
  instanceTypes := #[]
  staticTypes := #[]
  resolved := Array.replicate 42 none
  statics := none }

def pool2 : Array CpInfo := pool [(1, .class_ 2), (0, u "java/io/Serializable"), (0, .class_ 4), (0, u "java/lang/Object")] 2

/-- java/io/Serializable -/
def k2 : Class := { plain "java/io/Serializable" (some 0) with
  accessFlags := 1537
  interfaces := #[]
  cf := some (fileOf pool2 1 #[] #[] 1537 3 #[] #[])
  fields := #[]
  methods := #[]
  instanceTypes := #[]
  staticTypes := #[]
  resolved := Array.replicate 7 none
  statics := none }

def pool3 : Array CpInfo := pool [(1, .class_ 2), (0, u "java/lang/Comparable"), (0, .class_ 4), (0, u "java/lang/Object")] 7

/-- java/lang/Comparable -/
def k3 : Class := { plain "java/lang/Comparable" (some 0) with
  accessFlags := 1537
  interfaces := #[]
  cf := some (fileOf pool3 1 #[] #[] 1537 3 #[] #[])
  fields := #[]
  methods := #[]
  instanceTypes := #[]
  staticTypes := #[]
  resolved := Array.replicate 12 none
  statics := none }

def pool4 : Array CpInfo := pool [(2, .class_ 4), (1, u "java/lang/CharSequence"), (42, .class_ 48), (0, u "java/lang/CharSequence$1CodePointIterator"), (10, .class_ 60), (0, u "java/lang/CharSequence$1CharIterator"), (5, .class_ 67), (0, u "java/lang/Object")] 63

/-- java/lang/CharSequence -/
def k4 : Class := { plain "java/lang/CharSequence" (some 0) with
  accessFlags := 1537
  interfaces := #[]
  cf := some (fileOf pool4 2 #[.nestMembers #[47, 59]] #[] 1537 66 #[] #[])
  fields := #[]
  methods := #[]
  instanceTypes := #[]
  staticTypes := #[]
  resolved := Array.replicate 131 none
  statics := none }

def pool5 : Array CpInfo := pool [(1, .class_ 2), (0, u "java/lang/constant/Constable"), (0, .class_ 4), (0, u "java/lang/Object")] 6

/-- java/lang/constant/Constable -/
def k5 : Class := { plain "java/lang/constant/Constable" (some 0) with
  accessFlags := 1537
  interfaces := #[]
  cf := some (fileOf pool5 1 #[] #[] 1537 3 #[] #[])
  fields := #[]
  methods := #[]
  instanceTypes := #[]
  staticTypes := #[]
  resolved := Array.replicate 11 none
  statics := none }

def pool6 : Array CpInfo := pool [(1, .class_ 2), (0, u "java/lang/constant/ConstantDesc"), (0, .class_ 4), (0, u "java/lang/Object")] 32

/-- java/lang/constant/ConstantDesc -/
def k6 : Class := { plain "java/lang/constant/ConstantDesc" (some 0) with
  accessFlags := 1537
  interfaces := #[]
  cf := some (fileOf pool6 1 #[] #[] 1537 3 #[] #[])
  fields := #[]
  methods := #[]
  instanceTypes := #[]
  staticTypes := #[]
  resolved := Array.replicate 37 none
  statics := none }

def pool7 : Array CpInfo := pool [(1, .methodref 2 3), (0, .class_ 4), (0, .nameAndType 5 6), (0, u "java/lang/Object"), (0, u "<init>"), (0, u "()V"), (0, .string 8), (0, u ""), (0, .fieldref 10 11), (0, .class_ 12), (0, .nameAndType 13 14), (0, u "java/lang/String"), (0, u "value"), (0, u "[B"), (0, .fieldref 10 16), (0, .nameAndType 17 18), (0, u "coder"), (0, u "B"), (2, u "hash"), (0, u "I"), (2, u "hashIsZero"), (0, u "Z"), (0, .methodref 10 28), (0, .nameAndType 5 29), (0, u "([CIILjava/lang/Void;)V"), (8, .fieldref 10 39), (0, .nameAndType 40 26), (0, u "COMPACT_STRINGS"), (1, .class_ 44), (1, u "java/lang/StringUTF16"), (0, u "compress"), (1, .methodref 42 48), (0, .nameAndType 49 50), (0, u "coderFromArrayLen"), (0, u "([BI)B"), (2, u "toBytes"), (53, .class_ 109), (1, u "java/lang/StringLatin1"), (67, .methodref 42 178), (0, .nameAndType 45 179), (0, u "([CII)[B"), (29, .methodref 10 210), (0, .nameAndType 5 211), (0, u "([BB)V"), (157, u "(C)Z"), (205, .class_ 576), (0, u "java/lang/CharSequence"), (22, u "CASE_INSENSITIVE_ORDER"), (0, u "Ljava/util/Comparator;"), (181, u "valueOf"), (0, u "(C)Ljava/lang/String;"), (226, u "([C)V"), (4, .methodref 107 1016), (0, .nameAndType 1017 369), (0, u "canEncode"), (0, .methodref 107 1019), (0, .nameAndType 53 1020), (0, u "(C)[B"), (80, u "serialPersistentFields"), (0, u "[Ljava/io/ObjectStreamField;"), (0, .class_ 1104), (0, u "java/lang/String$CaseInsensitiveComparator"), (1, .class_ 1107), (0, u "java/io/Serializable"), (0, .class_ 1109), (0, u "java/lang/Comparable"), (0, .class_ 1111), (0, u "java/lang/constant/Constable"), (0, .class_ 1113), (0, u "java/lang/constant/ConstantDesc"), (2, u "serialVersionUID"), (0, u "J"), (3, u "REPL"), (0, u "C"), (2, u "LATIN1"), (1, u "UTF16")] 323

def k7m0 : Method := { name := "<init>", desc := "()V", sig := { parameters := [], returnType := none }, accessFlags := 1, code := none }
def k7c1 : Code := { maxStack := 5, maxLocals := 2, code := jdk_42_method_3_code, exceptionTable := #[], attributes := #[] }
def k7m1 : Method := { name := "<init>", desc := "([C)V", sig := { parameters := [(.array .char)], returnType := none }, accessFlags := 1, code := some k7c1 }
def k7c2 : Code := { maxStack := 4, maxLocals := 1, code := jdk_42_method_139_code, exceptionTable := #[], attributes := #[] }
def k7m2 : Method := { name := "valueOf", desc := "(C)Ljava/lang/String;", sig := { parameters := [.char], returnType := some (.object "java/lang/String") }, accessFlags := 9, code := some k7c2 }
def k7c3 : Code := { maxStack := 4, maxLocals := 6, code := jdk_42_method_149_code, exceptionTable := #[], attributes := #[] }
def k7m3 : Method := { name := "<init>", desc := "([CIILjava/lang/Void;)V", sig := { parameters := [(.array .char), .int, .int, (.object "java/lang/Void")], returnType := none }, accessFlags := 2, code := some k7c3 }
def k7c4 : Code := { maxStack := 2, maxLocals := 3, code := jdk_42_method_151_code, exceptionTable := #[], attributes := #[] }
def k7m4 : Method := { name := "<init>", desc := "([BB)V", sig := { parameters := [(.array .byte), .byte], returnType := none }, accessFlags := 0, code := some k7c4 }
/-- java/lang/String -/
def k7 : Class := { plain "java/lang/String" (some 0) with
  accessFlags := 49
  interfaces := #[2, 3, 4, 5, 6]
  cf := some (fileOf pool7 10 #[.nestMembers #[1103]] #[{ accessFlags := 1, nameIndex := 5, descriptorIndex := 6, attributes := #[] }, { accessFlags := 1, nameIndex := 5, descriptorIndex := 1010, attributes := #[] }, { accessFlags := 9, nameIndex := 782, descriptorIndex := 783, attributes := #[] }, { accessFlags := 2, nameIndex := 5, descriptorIndex := 29, attributes := #[] }, { accessFlags := 0, nameIndex := 5, descriptorIndex := 211, attributes := #[] }] 49 2 #[1106, 1108, 575, 1110, 1112] #[{ accessFlags := 18, nameIndex := 13, descriptorIndex := 14, attributes := #[] }, { accessFlags := 18, nameIndex := 17, descriptorIndex := 18, attributes := #[] }, { accessFlags := 2, nameIndex := 21, descriptorIndex := 22, attributes := #[] }, { accessFlags := 2, nameIndex := 25, descriptorIndex := 26, attributes := #[] }, { accessFlags := 26, nameIndex := 1116, descriptorIndex := 1117, attributes := #[] }, { accessFlags := 24, nameIndex := 40, descriptorIndex := 26, attributes := #[] }, { accessFlags := 26, nameIndex := 1101, descriptorIndex := 1102, attributes := #[] }, { accessFlags := 26, nameIndex := 1121, descriptorIndex := 1122, attributes := #[] }, { accessFlags := 25, nameIndex := 599, descriptorIndex := 600, attributes := #[] }, { accessFlags := 24, nameIndex := 1125, descriptorIndex := 18, attributes := #[] }, { accessFlags := 24, nameIndex := 1127, descriptorIndex := 18, attributes := #[] }])
  fields := #[{ name := "value", type := (.array .byte), accessFlags := 18, slot := 0, constantValue := 0 }, { name := "coder", type := .byte, accessFlags := 18, slot := 1, constantValue := 0 }, { name := "hash", type := .int, accessFlags := 2, slot := 2, constantValue := 0 }, { name := "hashIsZero", type := .boolean, accessFlags := 2, slot := 3, constantValue := 0 }, { name := "serialVersionUID", type := .long, accessFlags := 26, slot := 0, constantValue := 0 }, { name := "COMPACT_STRINGS", type := .boolean, accessFlags := 24, slot := 1, constantValue := 0 }, { name := "serialPersistentFields", type := (.array (.object "java/io/ObjectStreamField")), accessFlags := 26, slot := 2, constantValue := 0 }, { name := "REPL", type := .char, accessFlags := 26, slot := 3, constantValue := 0 }, { name := "CASE_INSENSITIVE_ORDER", type := (.object "java/util/Comparator"), accessFlags := 25, slot := 4, constantValue := 0 }, { name := "LATIN1", type := .byte, accessFlags := 24, slot := 5, constantValue := 0 }, { name := "UTF16", type := .byte, accessFlags := 24, slot := 6, constantValue := 0 }]
  methods := #[k7m0, k7m1, k7m2, k7m3, k7m4]
  instanceTypes := #[(.array .byte), .byte, .int, .boolean]
  staticTypes := #[.long, .boolean, (.array (.object "java/io/ObjectStreamField")), .char, (.object "java/util/Comparator"), .byte, .byte]
  resolved := Array.replicate 1451 none
  statics := some 0 }

def pool8 : Array CpInfo := pool [(1, .methodref 2 3), (0, .class_ 4), (0, .nameAndType 5 6), (0, u "java/lang/Object"), (0, u "<init>"), (0, u "()V"), (0, .class_ 8), (0, u "java/lang/Record")] 13

def k8c0 : Code := { maxStack := 1, maxLocals := 1, code := jdk_30_method_1_code, exceptionTable := #[], attributes := #[] }
def k8m0 : Method := { name := "<init>", desc := "()V", sig := { parameters := [], returnType := none }, accessFlags := 4, code := some k8c0 }
/-- java/lang/Record -/
def k8 : Class := { plain "java/lang/Record" (some 0) with
  accessFlags := 1057
  interfaces := #[]
  cf := some (fileOf pool8 7 #[] #[{ accessFlags := 4, nameIndex := 5, descriptorIndex := 6, attributes := #[] }] 1057 2 #[] #[])
  fields := #[]
  methods := #[k8m0]
  instanceTypes := #[]
  staticTypes := #[]
  resolved := Array.replicate 22 none
  statics := none }

def pool9 : Array CpInfo := pool [(1, .methodref 2 3), (0, .class_ 4), (0, .nameAndType 5 6), (0, u "java/lang/Record"), (0, u "<init>"), (0, u "()V"), (0, .fieldref 8 9), (0, .class_ 10), (0, .nameAndType 11 12), (0, u "com/example/sleet/sleet/LeaseRecord"), (0, u "node"), (0, u "I"), (0, .fieldref 8 14), (0, .nameAndType 15 16), (0, u "mark"), (0, u "J"), (0, .fieldref 8 18), (0, .nameAndType 19 20), (0, u "token"), (0, u "Ljava/lang/String;"), (0, .fieldref 8 22), (0, .nameAndType 23 20), (0, u "holder"), (0, .fieldref 8 25), (0, .nameAndType 26 16), (0, u "expires"), (32, .methodref 8 60), (0, .nameAndType 5 61), (0, u "(IJLjava/lang/String;Ljava/lang/String;J)V"), (10, .methodref 73 74), (0, .class_ 75), (0, .nameAndType 76 77), (0, u "java/lang/Math"), (0, u "max"), (0, u "(JJ)J"), (6, u "leased"), (0, u "()Z"), (27, u "freed"), (0, u "(J)Lcom/example/sleet/sleet/LeaseRecord;")] 41

def k9c0 : Code := { maxStack := 3, maxLocals := 8, code := prog_20_method_1_code, exceptionTable := #[], attributes := #[] }
def k9m0 : Method := { name := "<init>", desc := "(IJLjava/lang/String;Ljava/lang/String;J)V", sig := { parameters := [.int, .long, (.object "java/lang/String"), (.object "java/lang/String"), .long], returnType := none }, accessFlags := 0, code := some k9c0 }
def k9c1 : Code := { maxStack := 1, maxLocals := 1, code := prog_20_method_3_code, exceptionTable := #[], attributes := #[] }
def k9m1 : Method := { name := "leased", desc := "()Z", sig := { parameters := [], returnType := some .boolean }, accessFlags := 0, code := some k9c1 }
def k9c2 : Code := { maxStack := 9, maxLocals := 3, code := prog_20_method_4_code, exceptionTable := #[], attributes := #[] }
def k9m2 : Method := { name := "freed", desc := "(J)Lcom/example/sleet/sleet/LeaseRecord;", sig := { parameters := [.long], returnType := some (.object "com/example/sleet/sleet/LeaseRecord") }, accessFlags := 0, code := some k9c2 }
/-- com/example/sleet/sleet/LeaseRecord -/
def k9 : Class := { plain "com/example/sleet/sleet/LeaseRecord" (some 8) with
  accessFlags := 48
  interfaces := #[]
  cf := some (fileOf pool9 8 #[] #[{ accessFlags := 0, nameIndex := 5, descriptorIndex := 61, attributes := #[] }, { accessFlags := 0, nameIndex := 84, descriptorIndex := 85, attributes := #[] }, { accessFlags := 0, nameIndex := 113, descriptorIndex := 114, attributes := #[] }] 48 2 #[] #[{ accessFlags := 18, nameIndex := 11, descriptorIndex := 12, attributes := #[] }, { accessFlags := 18, nameIndex := 15, descriptorIndex := 16, attributes := #[] }, { accessFlags := 18, nameIndex := 19, descriptorIndex := 20, attributes := #[] }, { accessFlags := 18, nameIndex := 23, descriptorIndex := 20, attributes := #[] }, { accessFlags := 18, nameIndex := 26, descriptorIndex := 16, attributes := #[] }])
  fields := #[{ name := "node", type := .int, accessFlags := 18, slot := 0, constantValue := 0 }, { name := "mark", type := .long, accessFlags := 18, slot := 1, constantValue := 0 }, { name := "token", type := (.object "java/lang/String"), accessFlags := 18, slot := 2, constantValue := 0 }, { name := "holder", type := (.object "java/lang/String"), accessFlags := 18, slot := 3, constantValue := 0 }, { name := "expires", type := .long, accessFlags := 18, slot := 4, constantValue := 0 }]
  methods := #[k9m0, k9m1, k9m2]
  instanceTypes := #[.int, .long, (.object "java/lang/String"), (.object "java/lang/String"), .long]
  staticTypes := #[]
  resolved := Array.replicate 156 none
  statics := none }

def pool10 : Array CpInfo := pool [(1, .class_ 2), (0, u "java/lang/Math"), (1, .class_ 6), (1, u "java/lang/Object"), (0, u "<init>"), (0, u "()V"), (89, .class_ 100), (1, u "java/lang/Math$RandomNumberGeneratorHolder"), (20, u "(JJ)J"), (50, u "negativeZeroFloatBits"), (0, u "J"), (2, u "negativeZeroDoubleBits"), (21, u "max"), (46, u "$assertionsDisabled"), (0, u "Z"), (91, u "twoToTheDoubleScaleDown"), (0, u "D"), (4, u "twoToTheDoubleScaleUp"), (9, u "E"), (3, u "PI"), (2, u "TAU"), (2, u "DEGREES_TO_RADIANS"), (0, u "RADIANS_TO_DEGREES")] 94

def k10m0 : Method := { name := "<init>", desc := "()V", sig := { parameters := [], returnType := none }, accessFlags := 2, code := none }
def k10c1 : Code := { maxStack := 4, maxLocals := 4, code := jdk_29_method_66_code, exceptionTable := #[], attributes := #[] }
def k10m1 : Method := { name := "max", desc := "(JJ)J", sig := { parameters := [.long, .long], returnType := some .long }, accessFlags := 9, code := some k10c1 }
/-- java/lang/Math -/
def k10 : Class := { plain "java/lang/Math" (some 0) with
  accessFlags := 49
  interfaces := #[]
  cf := some (fileOf pool10 1 #[.nestMembers #[98]] #[{ accessFlags := 2, nameIndex := 7, descriptorIndex := 8, attributes := #[] }, { accessFlags := 9, nameIndex := 198, descriptorIndex := 121, attributes := #[] }] 49 4 #[] #[{ accessFlags := 25, nameIndex := 354, descriptorIndex := 339, attributes := #[] }, { accessFlags := 25, nameIndex := 358, descriptorIndex := 339, attributes := #[] }, { accessFlags := 25, nameIndex := 361, descriptorIndex := 339, attributes := #[] }, { accessFlags := 26, nameIndex := 364, descriptorIndex := 339, attributes := #[] }, { accessFlags := 26, nameIndex := 365, descriptorIndex := 339, attributes := #[] }, { accessFlags := 26, nameIndex := 172, descriptorIndex := 173, attributes := #[] }, { accessFlags := 26, nameIndex := 176, descriptorIndex := 173, attributes := #[] }, { accessFlags := 8, nameIndex := 344, descriptorIndex := 339, attributes := #[] }, { accessFlags := 8, nameIndex := 338, descriptorIndex := 339, attributes := #[] }, { accessFlags := 4120, nameIndex := 245, descriptorIndex := 246, attributes := #[] }])
  fields := #[{ name := "E", type := .double, accessFlags := 25, slot := 0, constantValue := 0 }, { name := "PI", type := .double, accessFlags := 25, slot := 1, constantValue := 0 }, { name := "TAU", type := .double, accessFlags := 25, slot := 2, constantValue := 0 }, { name := "DEGREES_TO_RADIANS", type := .double, accessFlags := 26, slot := 3, constantValue := 0 }, { name := "RADIANS_TO_DEGREES", type := .double, accessFlags := 26, slot := 4, constantValue := 0 }, { name := "negativeZeroFloatBits", type := .long, accessFlags := 26, slot := 5, constantValue := 0 }, { name := "negativeZeroDoubleBits", type := .long, accessFlags := 26, slot := 6, constantValue := 0 }, { name := "twoToTheDoubleScaleUp", type := .double, accessFlags := 8, slot := 7, constantValue := 0 }, { name := "twoToTheDoubleScaleDown", type := .double, accessFlags := 8, slot := 8, constantValue := 0 }, { name := "$assertionsDisabled", type := .boolean, accessFlags := 4120, slot := 9, constantValue := 0 }]
  methods := #[k10m0, k10m1]
  instanceTypes := #[]
  staticTypes := #[.double, .double, .double, .double, .double, .long, .long, .double, .double, .boolean]
  resolved := Array.replicate 460 none
  statics := none }

def pool11 : Array CpInfo := pool [(4, .class_ 6), (1, u "java/lang/Object"), (0, u "<init>"), (0, u "()V"), (5, .class_ 16), (1, u "java/lang/StringLatin1"), (73, u "canEncode"), (14, u "(C)Z"), (15, u "$assertionsDisabled"), (0, u "Z"), (98, .class_ 223), (1, u "java/lang/StringLatin1$LinesSpliterator"), (156, u "toBytes"), (1, u "(C)[B"), (7, .class_ 391), (0, u "java/lang/StringLatin1$CharsSpliterator")] 3

def k11m0 : Method := { name := "<init>", desc := "()V", sig := { parameters := [], returnType := none }, accessFlags := 0, code := none }
def k11c1 : Code := { maxStack := 2, maxLocals := 1, code := jdk_43_method_3_code, exceptionTable := #[], attributes := #[] }
def k11m1 : Method := { name := "canEncode", desc := "(C)Z", sig := { parameters := [.char], returnType := some .boolean }, accessFlags := 9, code := some k11c1 }
def k11c2 : Code := { maxStack := 4, maxLocals := 1, code := jdk_43_method_46_code, exceptionTable := #[], attributes := #[] }
def k11m2 : Method := { name := "toBytes", desc := "(C)[B", sig := { parameters := [.char], returnType := some (.array .byte) }, accessFlags := 9, code := some k11c2 }
/-- java/lang/StringLatin1 -/
def k11 : Class := { plain "java/lang/StringLatin1" (some 0) with
  accessFlags := 48
  interfaces := #[]
  cf := some (fileOf pool11 14 #[.nestMembers #[390, 221]] #[{ accessFlags := 0, nameIndex := 7, descriptorIndex := 8, attributes := #[] }, { accessFlags := 9, nameIndex := 90, descriptorIndex := 105, attributes := #[] }, { accessFlags := 9, nameIndex := 380, descriptorIndex := 382, attributes := #[] }] 48 4 #[] #[{ accessFlags := 4120, nameIndex := 121, descriptorIndex := 122, attributes := #[] }])
  fields := #[{ name := "$assertionsDisabled", type := .boolean, accessFlags := 4120, slot := 0, constantValue := 0 }]
  methods := #[k11m0, k11m1, k11m2]
  instanceTypes := #[]
  staticTypes := #[.boolean]
  resolved := Array.replicate 395 none
  statics := none }

def pool12 : Array CpInfo := pool [(6, .class_ 8), (1, u "java/lang/Object"), (0, u "<init>"), (0, u "()V"), (1, .class_ 14), (1, u "java/lang/StringUTF16"), (31, u "$assertionsDisabled"), (0, u "Z"), (13, u "HI_BYTE_SHIFT"), (0, u "I"), (2, u "LO_BYTE_SHIFT"), (49, .methodref 12 116), (0, .nameAndType 117 118), (0, u "compress"), (0, u "([CI[BII)I"), (3, u "([CII)[B"), (138, u "coderFromArrayLen"), (0, u "([BI)B"), (106, .class_ 371), (1, u "java/lang/StringUTF16$LinesSpliterator"), (58, u "MAX_LENGTH"), (196, .class_ 628), (0, u "java/lang/StringUTF16$CodePointsSpliterator"), (0, .class_ 630), (0, u "java/lang/StringUTF16$CharsSpliterator")] 4

def k12m0 : Method := { name := "<init>", desc := "()V", sig := { parameters := [], returnType := none }, accessFlags := 0, code := none }
def k12c1 : Code := { maxStack := 2, maxLocals := 2, code := jdk_52_method_15_code, exceptionTable := #[], attributes := #[] }
def k12m1 : Method := { name := "coderFromArrayLen", desc := "([BI)B", sig := { parameters := [(.array .byte), .int], returnType := some .byte }, accessFlags := 8, code := some k12c1 }
def k12c2 : Code := { maxStack := 5, maxLocals := 6, code := jdk_52_method_16_code, exceptionTable := #[], attributes := #[] }
def k12m2 : Method := { name := "compress", desc := "([CII)[B", sig := { parameters := [(.array .char), .int, .int], returnType := some (.array .byte) }, accessFlags := 9, code := some k12c2 }
def k12c3 : Code := { maxStack := 3, maxLocals := 7, code := jdk_52_method_21_code, exceptionTable := #[], attributes := #[] }
def k12m3 : Method := { name := "compress", desc := "([CI[BII)I", sig := { parameters := [(.array .char), .int, (.array .byte), .int, .int], returnType := some .int }, accessFlags := 9, code := some k12c3 }
/-- java/lang/StringUTF16 -/
def k12 : Class := { plain "java/lang/StringUTF16" (some 0) with
  accessFlags := 48
  interfaces := #[]
  cf := some (fileOf pool12 12 #[.nestMembers #[627, 629, 369]] #[{ accessFlags := 0, nameIndex := 9, descriptorIndex := 10, attributes := #[] }, { accessFlags := 8, nameIndex := 261, descriptorIndex := 262, attributes := #[] }, { accessFlags := 9, nameIndex := 117, descriptorIndex := 122, attributes := #[] }, { accessFlags := 9, nameIndex := 117, descriptorIndex := 118, attributes := #[] }] 48 6 #[] #[{ accessFlags := 26, nameIndex := 61, descriptorIndex := 62, attributes := #[] }, { accessFlags := 26, nameIndex := 65, descriptorIndex := 62, attributes := #[] }, { accessFlags := 24, nameIndex := 430, descriptorIndex := 62, attributes := #[] }, { accessFlags := 4120, nameIndex := 46, descriptorIndex := 47, attributes := #[] }])
  fields := #[{ name := "HI_BYTE_SHIFT", type := .int, accessFlags := 26, slot := 0, constantValue := 0 }, { name := "LO_BYTE_SHIFT", type := .int, accessFlags := 26, slot := 1, constantValue := 0 }, { name := "MAX_LENGTH", type := .int, accessFlags := 24, slot := 2, constantValue := 0 }, { name := "$assertionsDisabled", type := .boolean, accessFlags := 4120, slot := 3, constantValue := 0 }]
  methods := #[k12m0, k12m1, k12m2, k12m3]
  instanceTypes := #[]
  staticTypes := #[.int, .int, .int, .boolean]
  resolved := Array.replicate 635 none
  statics := none }

def pool13 : Array CpInfo := pool [(2, .class_ 4), (1, u "java/lang/Object"), (0, u "<init>"), (0, u "()V"), (17, .class_ 26), (1, u "jdk/internal/util/Preconditions"), (28, .class_ 56), (0, u "jdk/internal/util/Preconditions$4"), (57, .class_ 115), (0, u "jdk/internal/util/Preconditions$1"), (7, u "SIOOBE_FORMATTER"), (0, u "Ljava/util/function/BiFunction;"), (0, .class_ 126), (0, u "jdk/internal/util/Preconditions$2"), (3, u "AIOOBE_FORMATTER"), (0, .class_ 132), (0, u "jdk/internal/util/Preconditions$3"), (3, u "IOOBE_FORMATTER")] 57

def k13m0 : Method := { name := "<init>", desc := "()V", sig := { parameters := [], returnType := none }, accessFlags := 1, code := none }
/-- jdk/internal/util/Preconditions -/
def k13 : Class := { plain "jdk/internal/util/Preconditions" (some 0) with
  accessFlags := 33
  interfaces := #[]
  cf := some (fileOf pool13 24 #[.nestMembers #[55, 131, 125, 114]] #[{ accessFlags := 1, nameIndex := 5, descriptorIndex := 6, attributes := #[] }] 33 2 #[] #[{ accessFlags := 25, nameIndex := 123, descriptorIndex := 124, attributes := #[] }, { accessFlags := 25, nameIndex := 130, descriptorIndex := 124, attributes := #[] }, { accessFlags := 25, nameIndex := 136, descriptorIndex := 124, attributes := #[] }])
  fields := #[{ name := "SIOOBE_FORMATTER", type := (.object "java/util/function/BiFunction"), accessFlags := 25, slot := 0, constantValue := 0 }, { name := "AIOOBE_FORMATTER", type := (.object "java/util/function/BiFunction"), accessFlags := 25, slot := 1, constantValue := 0 }, { name := "IOOBE_FORMATTER", type := (.object "java/util/function/BiFunction"), accessFlags := 25, slot := 2, constantValue := 0 }]
  methods := #[k13m0]
  instanceTypes := #[]
  staticTypes := #[(.object "java/util/function/BiFunction"), (.object "java/util/function/BiFunction"), (.object "java/util/function/BiFunction")]
  resolved := Array.replicate 194 none
  statics := some 1 }

def pool14 : Array CpInfo := pool [(9, u "<init>"), (6, .class_ 18), (1, u "java/lang/Object"), (0, u "()V"), (1, .class_ 23), (1, u "jdk/internal/util/ArraysSupport"), (0, u "LOG2_ARRAY_LONG_INDEX_SCALE"), (0, u "I"), (2, u "U"), (0, u "Ljdk/internal/misc/Unsafe;"), (8, u "BIG_ENDIAN"), (0, u "Z"), (8, u "LOG2_BYTE_BIT_SIZE"), (4, u "LOG2_ARRAY_INT_INDEX_SCALE"), (54, u "JLA"), (0, u "Ljdk/internal/access/JavaLangAccess;"), (11, u "LOG2_ARRAY_BOOLEAN_INDEX_SCALE"), (9, u "LOG2_ARRAY_BYTE_INDEX_SCALE"), (5, u "LOG2_ARRAY_CHAR_INDEX_SCALE"), (5, u "LOG2_ARRAY_SHORT_INDEX_SCALE"), (18, u "LOG2_ARRAY_FLOAT_INDEX_SCALE"), (24, u "LOG2_ARRAY_DOUBLE_INDEX_SCALE"), (89, u "T_BOOLEAN"), (2, u "T_CHAR"), (1, u "T_FLOAT"), (1, u "T_DOUBLE"), (1, u "T_BYTE"), (1, u "T_SHORT"), (1, u "T_INT"), (1, u "T_LONG"), (1, u "SOFT_MAX_ARRAY_LENGTH")] 83

def k14m0 : Method := { name := "<init>", desc := "()V", sig := { parameters := [], returnType := none }, accessFlags := 2, code := none }
/-- jdk/internal/util/ArraysSupport -/
def k14 : Class := { plain "jdk/internal/util/ArraysSupport" (some 0) with
  accessFlags := 33
  interfaces := #[]
  cf := some (fileOf pool14 21 #[] #[{ accessFlags := 2, nameIndex := 9, descriptorIndex := 19, attributes := #[] }] 33 16 #[] #[{ accessFlags := 24, nameIndex := 28, descriptorIndex := 29, attributes := #[] }, { accessFlags := 26, nameIndex := 38, descriptorIndex := 39, attributes := #[] }, { accessFlags := 25, nameIndex := 121, descriptorIndex := 25, attributes := #[] }, { accessFlags := 25, nameIndex := 131, descriptorIndex := 25, attributes := #[] }, { accessFlags := 25, nameIndex := 137, descriptorIndex := 25, attributes := #[] }, { accessFlags := 25, nameIndex := 143, descriptorIndex := 25, attributes := #[] }, { accessFlags := 25, nameIndex := 53, descriptorIndex := 25, attributes := #[] }, { accessFlags := 25, nameIndex := 24, descriptorIndex := 25, attributes := #[] }, { accessFlags := 25, nameIndex := 162, descriptorIndex := 25, attributes := #[] }, { accessFlags := 25, nameIndex := 187, descriptorIndex := 25, attributes := #[] }, { accessFlags := 26, nameIndex := 48, descriptorIndex := 25, attributes := #[] }, { accessFlags := 25, nameIndex := 277, descriptorIndex := 25, attributes := #[] }, { accessFlags := 25, nameIndex := 280, descriptorIndex := 25, attributes := #[] }, { accessFlags := 25, nameIndex := 282, descriptorIndex := 25, attributes := #[] }, { accessFlags := 25, nameIndex := 284, descriptorIndex := 25, attributes := #[] }, { accessFlags := 25, nameIndex := 286, descriptorIndex := 25, attributes := #[] }, { accessFlags := 25, nameIndex := 288, descriptorIndex := 25, attributes := #[] }, { accessFlags := 25, nameIndex := 290, descriptorIndex := 25, attributes := #[] }, { accessFlags := 25, nameIndex := 292, descriptorIndex := 25, attributes := #[] }, { accessFlags := 26, nameIndex := 108, descriptorIndex := 109, attributes := #[] }, { accessFlags := 25, nameIndex := 294, descriptorIndex := 25, attributes := #[] }])
  fields := #[{ name := "U", type := (.object "jdk/internal/misc/Unsafe"), accessFlags := 24, slot := 0, constantValue := 0 }, { name := "BIG_ENDIAN", type := .boolean, accessFlags := 26, slot := 1, constantValue := 0 }, { name := "LOG2_ARRAY_BOOLEAN_INDEX_SCALE", type := .int, accessFlags := 25, slot := 2, constantValue := 0 }, { name := "LOG2_ARRAY_BYTE_INDEX_SCALE", type := .int, accessFlags := 25, slot := 3, constantValue := 0 }, { name := "LOG2_ARRAY_CHAR_INDEX_SCALE", type := .int, accessFlags := 25, slot := 4, constantValue := 0 }, { name := "LOG2_ARRAY_SHORT_INDEX_SCALE", type := .int, accessFlags := 25, slot := 5, constantValue := 0 }, { name := "LOG2_ARRAY_INT_INDEX_SCALE", type := .int, accessFlags := 25, slot := 6, constantValue := 0 }, { name := "LOG2_ARRAY_LONG_INDEX_SCALE", type := .int, accessFlags := 25, slot := 7, constantValue := 0 }, { name := "LOG2_ARRAY_FLOAT_INDEX_SCALE", type := .int, accessFlags := 25, slot := 8, constantValue := 0 }, { name := "LOG2_ARRAY_DOUBLE_INDEX_SCALE", type := .int, accessFlags := 25, slot := 9, constantValue := 0 }, { name := "LOG2_BYTE_BIT_SIZE", type := .int, accessFlags := 26, slot := 10, constantValue := 0 }, { name := "T_BOOLEAN", type := .int, accessFlags := 25, slot := 11, constantValue := 0 }, { name := "T_CHAR", type := .int, accessFlags := 25, slot := 12, constantValue := 0 }, { name := "T_FLOAT", type := .int, accessFlags := 25, slot := 13, constantValue := 0 }, { name := "T_DOUBLE", type := .int, accessFlags := 25, slot := 14, constantValue := 0 }, { name := "T_BYTE", type := .int, accessFlags := 25, slot := 15, constantValue := 0 }, { name := "T_SHORT", type := .int, accessFlags := 25, slot := 16, constantValue := 0 }, { name := "T_INT", type := .int, accessFlags := 25, slot := 17, constantValue := 0 }, { name := "T_LONG", type := .int, accessFlags := 25, slot := 18, constantValue := 0 }, { name := "JLA", type := (.object "jdk/internal/access/JavaLangAccess"), accessFlags := 26, slot := 19, constantValue := 0 }, { name := "SOFT_MAX_ARRAY_LENGTH", type := .int, accessFlags := 25, slot := 20, constantValue := 0 }]
  methods := #[k14m0]
  instanceTypes := #[]
  staticTypes := #[(.object "jdk/internal/misc/Unsafe"), .boolean, .int, .int, .int, .int, .int, .int, .int, .int, .int, .int, .int, .int, .int, .int, .int, .int, .int, (.object "jdk/internal/access/JavaLangAccess"), .int]
  resolved := Array.replicate 378 none
  statics := none }

def pool15 : Array CpInfo := pool [(1, u "java/lang/Cloneable"), (0, .class_ 1), (0, u "java/lang/Object"), (0, .class_ 3)] 3

/-- java/lang/Cloneable -/
def k15 : Class := { plain "java/lang/Cloneable" (some 0) with
  accessFlags := 1537
  interfaces := #[]
  cf := some (fileOf pool15 2 #[] #[] 1537 4 #[] #[])
  fields := #[]
  methods := #[]
  instanceTypes := #[]
  staticTypes := #[]
  resolved := Array.replicate 8 none
  statics := none }

/-- the primitive byte -/
def k16 : Class := { plain "byte" none with kind := .primitive 'B', accessFlags := 0x411 }
/-- [B -/
def k17 : Class := { plain "[B" (some 0) with kind := .array 16 .byte, interfaces := #[15, 2], accessFlags := 1041 }

/-- the primitive char -/
def k18 : Class := { plain "char" none with kind := .primitive 'C', accessFlags := 0x411 }
/-- [C -/
def k19 : Class := { plain "[C" (some 0) with kind := .array 18 .char, interfaces := #[15, 2], accessFlags := 1041 }

def heap : Heap := #[{ cls := 7, slots := #[.long 0, .int 1, .null, .int 0, .null, .int 0, .int 0], vm := .statics 7 },
  { cls := 13, slots := #[.null, .null, .null], vm := .statics 13 }]
def classes : Array Class := #[k0, k1, k2, k3, k4, k5, k6, k7, k8, k9, k10, k11, k12, k13, k14, k15, k16, k17, k18, k19]
def interned : List (Array UInt16 × Addr) := []
def slotsUsed : Nat := 10
def theMethod : MethodId := ⟨1, 1⟩
def args0 : Array Value := #[.int 5, .long 5, .int 5, .int 5, .long 5, .long 5]
def aboutOver (below : List Frame) : State where
  vm := { classes := classes, interned := interned.toArray }
  heap := heap
  slotsUsed := slotsUsed
  threads := #[{ frames := .invoking theMethod args0 :: below }]
def below0 : List Frame := [.native { method := ⟨0, 0⟩, args := #[] }]
def about1 : State := aboutOver below0
def p0 : Program := .bare "" "" ""
def e0 : Env := launch0.env 0 0 0
theorem w_frames : about1.frames = Frame.invoking theMethod args0 :: below0 := rfl
set_option maxRecDepth 65536 in
theorem w_args : argsFit about1.vm theMethod args0 = true := by decide +kernel
set_option maxRecDepth 65536 in
theorem w_heap : heapFits about1 = true := by decide +kernel
set_option maxRecDepth 65536 in
theorem w_runnable : about1.curStatus? = some .runnable := by decide +kernel
set_option maxRecDepth 65536 in
theorem w_alone : about1.alone = true := by decide +kernel
set_option maxRecDepth 65536 in
theorem w_named : about1.methodNamed? x = some theMethod := by decide +kernel
set_option maxRecDepth 65536 in
theorem w_hears : about1.hears theMethod below0 = true := by decide +kernel
set_option maxRecDepth 65536 in
theorem w_ripe : about1.ripe theMethod args0 below0 = true := by decide +kernel
theorem w_running : about1.status = .running := rfl
set_option maxRecDepth 65536 in
theorem w_room : about1.hasRoom e0.platform room_1 = true :=
  launch0.hasRoom_least _ room_1 (by decide +kernel) (by decide +kernel) (by decide +kernel) (by decide +kernel) (by decide +kernel) (by decide +kernel)
theorem allAtoms_all (ts : List Jvm.Cond) (a : Array Jvm.Value) (st : Jvm.State) : (allAtoms ts).before a st = ts.all (fun c => c.before a st) := by
  induction ts with
  | nil => rfl
  | cons c t ih =>
    show (Jvm.Cond.and c (allAtoms t)).before a st = _
    rw [Jvm.Cond.before_and, ih, List.all_cons]
def words1 : List Jvm.Cond := Jvm.Cond.code x code maxLocals ret :: tables_1
/-- a 'code' word, met by the world's own term for the bytes: nothing is compared byte by byte -/
theorem code_word {y : MethodName} {bytes : ByteArray} {mx : Nat} {rt : Option FieldType} {a : Array Value} {s : State} {m : MethodId} {meth : Method} {c : Code} (h1 : s.methodNamed? y = some m) (h2 : s.vm.method? m = some meth) (h3 : meth.code = some c) (h4 : c.code = bytes)
    (h5 : (c.maxLocals == mx && c.exceptionTable.isEmpty && decide (c.maxStack ≤ mostOperands) && decide (meth.sig.returnType = rt) && !meth.locks && decide (parseMethodDescriptor y.desc = some meth.sig)) = true) : (Jvm.Cond.code y bytes mx rt).before a s = true := by
  simp only [Bool.and_eq_true, beq_iff_eq, Bool.not_eq_true', decide_eq_true_eq] at h5
  obtain ⟨⟨⟨⟨⟨g1, g2⟩, g3⟩, g4⟩, g5⟩, g6⟩ := h5
  simp [Cond.before, Cond.holds, Cond.value, h1, h2, h3, h4, g1, g2, g3, g4, g5, g6]
def isCode : Jvm.Cond → Bool
  | .code _ _ _ _ => true
  | _ => false
theorem all_split {L : List Jvm.Cond} {P : Jvm.Cond → Bool} (h1 : L.all (fun c => isCode c || P c) = true) (h2 : ∀ c ∈ L.filter isCode, P c = true) : L.all P = true := by
  refine List.all_eq_true.mpr fun c hc => ?_
  have h := List.all_eq_true.mp h1 c hc
  rcases Bool.eq_false_or_eq_true (isCode c) with hi | hi
  · exact h2 c (List.mem_filter.mpr ⟨hc, hi⟩)
  · simpa [hi] using h
set_option maxRecDepth 65536 in
theorem w_c0 : (Jvm.Cond.code x code maxLocals ret).before args0 about1 = true := code_word (m := ⟨1, 1⟩) (meth := k1m1) (c := k1c1) (by decide +kernel) rfl rfl rfl (by decide +kernel)
set_option maxRecDepth 65536 in
theorem w_c1 : (Jvm.Cond.code ({ cls := "com/example/sleet/sleet/LeaseRecordLeasedPinLaw", name := "text", desc := "(ICC)Ljava/lang/String;" } : Jvm.MethodName) method_3_code (3 : Nat) (Option.some (Jvm.ClassFile.FieldType.object "java/lang/String"))).before args0 about1 = true := code_word (m := ⟨1, 2⟩) (meth := k1m2) (c := k1c2) (by decide +kernel) rfl rfl rfl (by decide +kernel)
set_option maxRecDepth 65536 in
theorem w_c2 : (Jvm.Cond.code ({ cls := "java/lang/String", name := "<init>", desc := "([C)V" } : Jvm.MethodName) jdk_42_method_3_code (2 : Nat) (Option.none : Option Jvm.ClassFile.FieldType)).before args0 about1 = true := code_word (m := ⟨7, 1⟩) (meth := k7m1) (c := k7c1) (by decide +kernel) rfl rfl rfl (by decide +kernel)
set_option maxRecDepth 65536 in
theorem w_c3 : (Jvm.Cond.code ({ cls := "java/lang/String", name := "<init>", desc := "([CIILjava/lang/Void;)V" } : Jvm.MethodName) jdk_42_method_149_code (6 : Nat) (Option.none : Option Jvm.ClassFile.FieldType)).before args0 about1 = true := code_word (m := ⟨7, 3⟩) (meth := k7m3) (c := k7c3) (by decide +kernel) rfl rfl rfl (by decide +kernel)
set_option maxRecDepth 65536 in
theorem w_c4 : (Jvm.Cond.code ({ cls := "java/lang/Object", name := "<init>", desc := "()V" } : Jvm.MethodName) object_method_1_code (1 : Nat) (Option.none : Option Jvm.ClassFile.FieldType)).before args0 about1 = true := code_word (m := ⟨0, 0⟩) (meth := k0m0) (c := k0c0) (by decide +kernel) rfl rfl rfl (by decide +kernel)
set_option maxRecDepth 65536 in
theorem w_c5 : (Jvm.Cond.code ({ cls := "com/example/sleet/sleet/LeaseRecord", name := "<init>", desc := "(IJLjava/lang/String;Ljava/lang/String;J)V" } : Jvm.MethodName) prog_20_method_1_code (8 : Nat) (Option.none : Option Jvm.ClassFile.FieldType)).before args0 about1 = true := code_word (m := ⟨9, 0⟩) (meth := k9m0) (c := k9c0) (by decide +kernel) rfl rfl rfl (by decide +kernel)
set_option maxRecDepth 65536 in
theorem w_c6 : (Jvm.Cond.code ({ cls := "java/lang/Record", name := "<init>", desc := "()V" } : Jvm.MethodName) jdk_30_method_1_code (1 : Nat) (Option.none : Option Jvm.ClassFile.FieldType)).before args0 about1 = true := code_word (m := ⟨8, 0⟩) (meth := k8m0) (c := k8c0) (by decide +kernel) rfl rfl rfl (by decide +kernel)
set_option maxRecDepth 65536 in
theorem w_c7 : (Jvm.Cond.code ({ cls := "com/example/sleet/sleet/LeaseRecord", name := "freed", desc := "(J)Lcom/example/sleet/sleet/LeaseRecord;" } : Jvm.MethodName) prog_20_method_4_code (3 : Nat) (Option.some (Jvm.ClassFile.FieldType.object "com/example/sleet/sleet/LeaseRecord"))).before args0 about1 = true := code_word (m := ⟨9, 2⟩) (meth := k9m2) (c := k9c2) (by decide +kernel) rfl rfl rfl (by decide +kernel)
set_option maxRecDepth 65536 in
theorem w_c8 : (Jvm.Cond.code ({ cls := "java/lang/Math", name := "max", desc := "(JJ)J" } : Jvm.MethodName) jdk_29_method_66_code (4 : Nat) (Option.some Jvm.ClassFile.FieldType.long)).before args0 about1 = true := code_word (m := ⟨10, 1⟩) (meth := k10m1) (c := k10c1) (by decide +kernel) rfl rfl rfl (by decide +kernel)
set_option maxRecDepth 65536 in
theorem w_c9 : (Jvm.Cond.code ({ cls := "com/example/sleet/sleet/LeaseRecord", name := "leased", desc := "()Z" } : Jvm.MethodName) prog_20_method_3_code (1 : Nat) (Option.some Jvm.ClassFile.FieldType.boolean)).before args0 about1 = true := code_word (m := ⟨9, 1⟩) (meth := k9m1) (c := k9c1) (by decide +kernel) rfl rfl rfl (by decide +kernel)
set_option maxRecDepth 65536 in
theorem w_c10 : (Jvm.Cond.code ({ cls := "java/lang/String", name := "valueOf", desc := "(C)Ljava/lang/String;" } : Jvm.MethodName) jdk_42_method_139_code (1 : Nat) (Option.some (Jvm.ClassFile.FieldType.object "java/lang/String"))).before args0 about1 = true := code_word (m := ⟨7, 2⟩) (meth := k7m2) (c := k7c2) (by decide +kernel) rfl rfl rfl (by decide +kernel)
set_option maxRecDepth 65536 in
theorem w_c11 : (Jvm.Cond.code ({ cls := "java/lang/StringLatin1", name := "canEncode", desc := "(C)Z" } : Jvm.MethodName) jdk_43_method_3_code (1 : Nat) (Option.some Jvm.ClassFile.FieldType.boolean)).before args0 about1 = true := code_word (m := ⟨11, 1⟩) (meth := k11m1) (c := k11c1) (by decide +kernel) rfl rfl rfl (by decide +kernel)
set_option maxRecDepth 65536 in
theorem w_c12 : (Jvm.Cond.code ({ cls := "java/lang/StringLatin1", name := "toBytes", desc := "(C)[B" } : Jvm.MethodName) jdk_43_method_46_code (1 : Nat) (Option.some (Jvm.ClassFile.FieldType.array Jvm.ClassFile.FieldType.byte))).before args0 about1 = true := code_word (m := ⟨11, 2⟩) (meth := k11m2) (c := k11c2) (by decide +kernel) rfl rfl rfl (by decide +kernel)
set_option maxRecDepth 65536 in
theorem w_c13 : (Jvm.Cond.code ({ cls := "java/lang/String", name := "<init>", desc := "([BB)V" } : Jvm.MethodName) jdk_42_method_151_code (3 : Nat) (Option.none : Option Jvm.ClassFile.FieldType)).before args0 about1 = true := code_word (m := ⟨7, 4⟩) (meth := k7m4) (c := k7c4) (by decide +kernel) rfl rfl rfl (by decide +kernel)
set_option maxRecDepth 65536 in
theorem w_c14 : (Jvm.Cond.code ({ cls := "java/lang/StringUTF16", name := "compress", desc := "([CII)[B" } : Jvm.MethodName) jdk_52_method_16_code (6 : Nat) (Option.some (Jvm.ClassFile.FieldType.array Jvm.ClassFile.FieldType.byte))).before args0 about1 = true := code_word (m := ⟨12, 2⟩) (meth := k12m2) (c := k12c2) (by decide +kernel) rfl rfl rfl (by decide +kernel)
set_option maxRecDepth 65536 in
theorem w_c15 : (Jvm.Cond.code ({ cls := "java/lang/StringUTF16", name := "compress", desc := "([CI[BII)I" } : Jvm.MethodName) jdk_52_method_21_code (7 : Nat) (Option.some Jvm.ClassFile.FieldType.int)).before args0 about1 = true := code_word (m := ⟨12, 3⟩) (meth := k12m3) (c := k12c3) (by decide +kernel) rfl rfl rfl (by decide +kernel)
set_option maxRecDepth 65536 in
theorem w_c16 : (Jvm.Cond.code ({ cls := "java/lang/StringUTF16", name := "coderFromArrayLen", desc := "([BI)B" } : Jvm.MethodName) jdk_52_method_15_code (2 : Nat) (Option.some Jvm.ClassFile.FieldType.byte)).before args0 about1 = true := code_word (m := ⟨12, 1⟩) (meth := k12m1) (c := k12c1) (by decide +kernel) rfl rfl rfl (by decide +kernel)
def codes1 : List Jvm.Cond := [Jvm.Cond.code x code maxLocals ret, Jvm.Cond.code ({ cls := "com/example/sleet/sleet/LeaseRecordLeasedPinLaw", name := "text", desc := "(ICC)Ljava/lang/String;" } : Jvm.MethodName) method_3_code (3 : Nat) (Option.some (Jvm.ClassFile.FieldType.object "java/lang/String")), Jvm.Cond.code ({ cls := "java/lang/String", name := "<init>", desc := "([C)V" } : Jvm.MethodName) jdk_42_method_3_code (2 : Nat) (Option.none : Option Jvm.ClassFile.FieldType), Jvm.Cond.code ({ cls := "java/lang/String", name := "<init>", desc := "([CIILjava/lang/Void;)V" } : Jvm.MethodName) jdk_42_method_149_code (6 : Nat) (Option.none : Option Jvm.ClassFile.FieldType), Jvm.Cond.code ({ cls := "java/lang/Object", name := "<init>", desc := "()V" } : Jvm.MethodName) object_method_1_code (1 : Nat) (Option.none : Option Jvm.ClassFile.FieldType), Jvm.Cond.code ({ cls := "com/example/sleet/sleet/LeaseRecord", name := "<init>", desc := "(IJLjava/lang/String;Ljava/lang/String;J)V" } : Jvm.MethodName) prog_20_method_1_code (8 : Nat) (Option.none : Option Jvm.ClassFile.FieldType), Jvm.Cond.code ({ cls := "java/lang/Record", name := "<init>", desc := "()V" } : Jvm.MethodName) jdk_30_method_1_code (1 : Nat) (Option.none : Option Jvm.ClassFile.FieldType), Jvm.Cond.code ({ cls := "com/example/sleet/sleet/LeaseRecord", name := "freed", desc := "(J)Lcom/example/sleet/sleet/LeaseRecord;" } : Jvm.MethodName) prog_20_method_4_code (3 : Nat) (Option.some (Jvm.ClassFile.FieldType.object "com/example/sleet/sleet/LeaseRecord")), Jvm.Cond.code ({ cls := "java/lang/Math", name := "max", desc := "(JJ)J" } : Jvm.MethodName) jdk_29_method_66_code (4 : Nat) (Option.some Jvm.ClassFile.FieldType.long), Jvm.Cond.code ({ cls := "com/example/sleet/sleet/LeaseRecord", name := "leased", desc := "()Z" } : Jvm.MethodName) prog_20_method_3_code (1 : Nat) (Option.some Jvm.ClassFile.FieldType.boolean), Jvm.Cond.code ({ cls := "java/lang/String", name := "valueOf", desc := "(C)Ljava/lang/String;" } : Jvm.MethodName) jdk_42_method_139_code (1 : Nat) (Option.some (Jvm.ClassFile.FieldType.object "java/lang/String")), Jvm.Cond.code ({ cls := "java/lang/StringLatin1", name := "canEncode", desc := "(C)Z" } : Jvm.MethodName) jdk_43_method_3_code (1 : Nat) (Option.some Jvm.ClassFile.FieldType.boolean), Jvm.Cond.code ({ cls := "java/lang/StringLatin1", name := "toBytes", desc := "(C)[B" } : Jvm.MethodName) jdk_43_method_46_code (1 : Nat) (Option.some (Jvm.ClassFile.FieldType.array Jvm.ClassFile.FieldType.byte)), Jvm.Cond.code ({ cls := "java/lang/String", name := "<init>", desc := "([BB)V" } : Jvm.MethodName) jdk_42_method_151_code (3 : Nat) (Option.none : Option Jvm.ClassFile.FieldType), Jvm.Cond.code ({ cls := "java/lang/StringUTF16", name := "compress", desc := "([CII)[B" } : Jvm.MethodName) jdk_52_method_16_code (6 : Nat) (Option.some (Jvm.ClassFile.FieldType.array Jvm.ClassFile.FieldType.byte)), Jvm.Cond.code ({ cls := "java/lang/StringUTF16", name := "compress", desc := "([CI[BII)I" } : Jvm.MethodName) jdk_52_method_21_code (7 : Nat) (Option.some Jvm.ClassFile.FieldType.int), Jvm.Cond.code ({ cls := "java/lang/StringUTF16", name := "coderFromArrayLen", desc := "([BI)B" } : Jvm.MethodName) jdk_52_method_15_code (2 : Nat) (Option.some Jvm.ClassFile.FieldType.byte)]
set_option maxRecDepth 65536 in
theorem codes_eq : words1.filter isCode = codes1 := rfl
theorem w_codes : ∀ c ∈ words1.filter isCode, c.before args0 about1 = true := by
  rw [codes_eq]
  intro c hc
  simp only [codes1, List.mem_cons, List.not_mem_nil, or_false] at hc
  rcases hc with rfl | rfl | rfl | rfl | rfl | rfl | rfl | rfl | rfl | rfl | rfl | rfl | rfl | rfl | rfl | rfl | rfl
  · exact w_c0
  · exact w_c1
  · exact w_c2
  · exact w_c3
  · exact w_c4
  · exact w_c5
  · exact w_c6
  · exact w_c7
  · exact w_c8
  · exact w_c9
  · exact w_c10
  · exact w_c11
  · exact w_c12
  · exact w_c13
  · exact w_c14
  · exact w_c15
  · exact w_c16
set_option maxRecDepth 65536 in
theorem w_t1 : (words1.take 24).all (fun c => isCode c || c.before args0 about1) = true := by decide +kernel
set_option maxRecDepth 65536 in
theorem w_t2 : ((words1.drop 24).take 24).all (fun c => isCode c || c.before args0 about1) = true := by decide +kernel
set_option maxRecDepth 65536 in
theorem w_t3 : (((words1.drop 24).drop 24).take 24).all (fun c => isCode c || c.before args0 about1) = true := by decide +kernel
set_option maxRecDepth 65536 in
theorem w_t4 : (((words1.drop 24).drop 24).drop 24).all (fun c => isCode c || c.before args0 about1) = true := by decide +kernel
theorem w_tables : (allAtoms (Jvm.Cond.code x code maxLocals ret :: tables_1)).before args0 about1 = true := by
  rw [allAtoms_all]
  show words1.all (fun c => c.before args0 about1) = true
  refine all_split ?_ w_codes
  rw [← List.take_append_drop 24 words1, List.all_append, w_t1, ← List.take_append_drop 24 (words1.drop 24), List.all_append, w_t2, ← List.take_append_drop 24 ((words1.drop 24).drop 24), List.all_append, w_t3, w_t4]
  rfl
set_option maxRecDepth 65536 in
theorem w_rest : rest_1_c.before args0 about1 = true := by decide +kernel
set_option maxRecDepth 65536 in
theorem w_case : (Jvm.Cond.and given_1 narrow_1).before args0 about1 = true := by decide +kernel
set_option maxRecDepth 65536 in
theorem w_consts : constsHeld consts_1 about1 := Jvm.Lit.constsHeldB_iff.mp (by decide +kernel)
theorem w_applies : (headSpec (Jvm.Cond.code x code maxLocals ret :: tables_1) room_1).applies x e0.platform about1 = true :=
  (Spec.applies_iff w_frames).mpr ⟨w_running, w_runnable, w_alone, w_named, w_hears, w_ripe, w_room, w_tables⟩
theorem atStart : AtStart classFile x code maxLocals ret World_1 tables_1 room_1 Calls_1 rest_1 Pre_1 launch0 p0 e0 about1 theMethod args0 below0 :=
  ⟨lists_1, trivial, launch0.admits_env _ _ _, launch0.least_env, fairChoices_fair.cas, fairChoices_fair.clock, w_frames, w_args, w_heap, w_applies, ⟨w_consts, trivial⟩, w_rest, w_case⟩
end start1
theorem witness_1 : WitnessClaimed_1 := ⟨start1.p0, start1.e0, start1.about1, start1.theMethod, start1.args0, start1.below0, start1.atStart⟩
end Jvm.Pilot.@@N@@
