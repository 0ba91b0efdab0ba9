import JvmDerived
import JvmDerived.Pilot.@@N@@Statement
import JvmDerived.Pilot.@@N@@Code
set_option linter.unusedVariables false
set_option linter.unusedSimpArgs false
namespace Jvm.RoadKit
open Sem ClassFile Op Lib Jvm.Stand Jvm.Free Jvm.LawKit
section New
variable {p : Program} {l : Launch} {e : Env} {R : Room} {s : State} {m : MethodId} {args : Array Value} {below : List Frame} {meth : Method} {c : Code} {T : State} {locs : List Loc} {cells slots : Nat}
theorem retI (X : Stand p l e R s m args below meth c T locs cells slots) (hx : p.tables.exec = Jvm.exec) {pc : Nat} {Ls : Array Slot} {z : Int32} {rest : List Value} (hret : meth.sig.returnType = some .int) (hd : decode c.code pc = .ok (.ireturn, 1)) {fs : List Frame}
    (hl : ∀ (f : JFrame) (acts : List Action), f.method = m → f.locked = none → f.entered = [] → (doReturn e (T.setTop f) acts (some (.int z))).1 = T.setFrames fs) : Steps p.tables e below (T.setTop (mkF m pc Ls (.int z :: rest))) (T.setFrames fs) := by
  have hm' : T.vm.method? m = some meth := X.method'
  have hn : narrow .int (.int z) = .int z := rfl
  show Steps p.tables e below (T.setTop { method := m, pc := pc, locals := Ls, stack := _ :: rest, locked := none }) _
  jvm_step X.here [X.here.top, hx, hd, hm', hret, hn]
  first | (intro acts; rw [hl _ acts rfl rfl rfl]) | rw [hl _ _ rfl rfl rfl]
  exact Steps.refl _
end New
end Jvm.RoadKit
namespace Jvm.Pilot.@@N@@
open Jvm Jvm.ClassFile Sem Op Lib Jvm.Free Jvm.Stand Jvm.LawKit Jvm.RoadKit Bundle Jvm.Pilot.@@N@@.Jvm.D
/-- the run from a frame of this method ends in a return with Q -/
def Go (p : Program) (e : Env) (s : State) (below : List Frame) (kc ks : Nat) (Q : Option Value → Heap → List Loc → Prop) (T : State) (f : JFrame) : Prop :=
  ∃ s₂ o, Steps p.tables e below (T.setTop f) s₂ ∧ s₂.status = .running ∧ Ended s₂ below o ∧ ∃ v L, o = .returned v ∧ Q v s₂.heap L ∧ FrameEnd s o s₂ L kc ks
/-- what is known of the method that runs -/
def Cx (p : Program) (s : State) (m : MethodId) (meth : Method) (c : Code) (Z : State) (own nm : String) (code : ByteArray) (maxL : Nat) (ret : Option FieldType) : Prop :=
  p.tables.exec = Jvm.exec ∧ Z.Warmed39 s.vm ∧ c.code = code ∧ c.maxLocals = maxL ∧ s.vm.findClass own = some m.cls ∧ meth.name = nm ∧ meth.sig.returnType = ret ∧ meth.locks = false
/-- a contract -/
def Ctr (l : Launch) (Z : State) (y : MethodName) (bytes : ByteArray) (maxL : Nat) (ret : Option FieldType) (ws : List Jvm.Cond) (rm : Room) (kc ks : Nat) (as : Array Value) (h : Heap) (Q : Option Value → Heap → List Loc → Prop) : Prop :=
  MetFree l y (head1 (Jvm.Cond.code y bytes maxL ret :: ws) rm) (fun a U => a = as ∧ Z.Warmed39 U.vm ∧ U.heap = h) (fun _ _ _ _ _ => True) (fun _ U o U' => ∃ v L, o = .returned v ∧ Q v U'.heap L ∧ FrameEnd U o U' L kc ks)
def bi (P : Prop) [Decidable P] : Int32 := if P then 1 else 0
theorem bi_t {P : Prop} [Decidable P] (h : P) : bi P = 1 := if_pos h
theorem bi_f {P : Prop} [Decidable P] (h : ¬ P) : bi P = 0 := if_neg h
theorem bi_n {P : Prop} [Decidable P] (h : P) : ¬ bi P = 0 := by rw [bi_t h]; decide
theorem bi_1 {P : Prop} [Decidable P] : bi P = 1 ↔ P := by unfold bi; split <;> simp_all
theorem bi_0 {P : Prop} [Decidable P] : bi P = 0 ↔ ¬ P := by unfold bi; split <;> simp_all
theorem bi_eq {P P' : Prop} [Decidable P] [Decidable P'] : bi P = bi P' ↔ (P ↔ P') := by unfold bi; split <;> split <;> simp_all
theorem bi_congr {P P' : Prop} [Decidable P] [Decidable P'] (h : P ↔ P') : bi P = bi P' := bi_eq.mpr h
theorem bi_fits {P : Prop} [Decidable P] : fits .boolean (.int (bi P)) = true := by unfold bi; split <;> rfl
theorem bi_nar {P : Prop} [Decidable P] : nar .boolean (bi P) = bi P := by unfold bi; split <;> rfl
section Own
variable {p : Program} {l : Launch} {e : Env} {R : Room} {s : State} {m : MethodId} {args : Array Value} {below : List Frame} {meth : Method} {c : Code} {T : State} {locs : List Loc} {cells slots kc ks : Nat} {Q : Option Value → Heap → List Loc → Prop} {Z : State} {a0 : Array Value} {h : Heap}
theorem Go.step {T' : State} {f f' : JFrame} (st : ∀ t, Steps p.tables e below (T'.setTop f') t → Steps p.tables e below (T.setTop f) t) (k : Go p e s below kc ks Q T' f') : Go p e s below kc ks Q T f := by
  obtain ⟨s₂, o, h1, r⟩ := k; exact ⟨s₂, o, st _ h1, r⟩
theorem Go.mono {Q' : Option Value → Heap → List Loc → Prop} {f : JFrame} (k : Go p e s below kc ks Q T f) (h : ∀ v h L, Q v h L → Q' v h L) : Go p e s below kc ks Q' T f := by
  obtain ⟨s₂, o, h1, h2, h3, v, L, h4, h5, h6⟩ := k; exact ⟨s₂, o, h1, h2, h3, v, L, h4, h _ _ _ h5, h6⟩
theorem Ctr.mk {y : MethodName} {bytes : ByteArray} {maxL : Nat} {ret : Option FieldType} {ws : List Jvm.Cond} {rm : Room} {as : Array Value} (hp : plainFor y = true)
    (hgo : ∀ (p : Program) (e : Env) (s : State) (m : MethodId) (below : List Frame) (meth : Method) (c : Code) (s₁ : State), Stand p l e rm s m as below meth c s₁ [] 0 0 → Cx p s m meth c Z y.cls y.name bytes maxL ret → s₁.heap = h → Go p e s below kc ks Q s₁ (entryFrame m as maxL)) :
    Ctr l Z y bytes maxL ret ws rm kc ks as h Q := by
  refine MetFree.of_bodySF hp hisR ?_
  intro p e s m args below meth c s₁ Bd hml0 hP hK
  obtain ⟨rfl, hZ, hh⟩ := hP
  exact hgo p e s m below meth c s₁ (Stand.of_body Bd) ⟨Bd.exec, hZ, Bd.bytes, hml0, findClass_of_methodNamed Bd.named, (name_of_methodNamed Bd.named Bd.method).1, Bd.returns, Bd.notSynchronized⟩ (by rw [← hh, Bd.state]; rfl)
theorem go_cast {f f' : JFrame} (q : f = f') (k : Go p e s below kc ks Q T f') : Go p e s below kc ks Q T f := q ▸ k
theorem go_retI (X : Stand p l e R s m args below meth c T locs cells slots) (hx : p.tables.exec = Jvm.exec) (hret : meth.sig.returnType = some .int) (hlk : meth.locks = false) {pc : Nat} {Ls : Array Slot} {z : Int32} {rest : List Value} (hd : decode c.code pc = .ok (.ireturn, 1))
    (hQ : Q (some (.int z)) T.heap locs) (hc : cells ≤ kc) (hs : slots ≤ ks) : Go p e s below kc ks Q T (mkF m pc Ls (.int z :: rest)) := by
  obtain ⟨fs, hr, hrun, hended, hW, hsame⟩ := X.leave (v := some (.int z)) (fun h => by rw [hret] at h; cases h) hlk
  exact ⟨_, _, retI X hx hret hd hr, hrun, hended, _, _, rfl, hQ, ⟨_, rfl⟩, hW, hsame.mono hc hs⟩
theorem go_retN (X : Stand p l e R s m args below meth c T locs cells slots) (hx : p.tables.exec = Jvm.exec) {t : FieldType} (hret : meth.sig.returnType = some t) (ht : t = .boolean ∨ t = .byte ∨ t = .char ∨ t = .short) (hlk : meth.locks = false) {pc : Nat} {Ls : Array Slot} {z w : Int32} {rest : List Value} (hd : decode c.code pc = .ok (.ireturn, 1))
    (hz : nar t z = w) (hQ : Q (some (.int w)) T.heap locs) (hc : cells ≤ kc) (hs : slots ≤ ks) : Go p e s below kc ks Q T (mkF m pc Ls (.int z :: rest)) := by
  subst hz
  obtain ⟨fs, hr, hrun, hended, hW, hsame⟩ := X.leave (v := some (.int (nar t z))) (fun h => by rw [hret] at h; cases h) hlk
  exact ⟨_, _, retN X hx hret ht hd hr, hrun, hended, _, _, rfl, hQ, ⟨_, rfl⟩, hW, hsame.mono hc hs⟩
theorem go_retJ (X : Stand p l e R s m args below meth c T locs cells slots) (hx : p.tables.exec = Jvm.exec) (hret : meth.sig.returnType = some .long) (hlk : meth.locks = false) {pc : Nat} {Ls : Array Slot} {z : Int64} (hd : decode c.code pc = .ok (.lreturn, 1))
    (hQ : Q (some (.long z)) T.heap locs) (hc : cells ≤ kc) (hs : slots ≤ ks) : Go p e s below kc ks Q T (mkF m pc Ls [.long z]) := by
  obtain ⟨fs, hr, hrun, hended, hW, hsame⟩ := X.leave (v := some (.long z)) (fun h => by rw [hret] at h; cases h) hlk
  exact ⟨_, _, X.lreturnOut hx hret hd hr, hrun, hended, _, _, rfl, hQ, ⟨_, rfl⟩, hW, hsame.mono hc hs⟩
theorem go_retA (X : Stand p l e R s m args below meth c T locs cells slots) (hx : p.tables.exec = Jvm.exec) {t : FieldType} (hret : meth.sig.returnType = some t) (ht : t.isReference = true) (hlk : meth.locks = false) {pc : Nat} {Ls : Array Slot} {w : Value} {rest : List Value} (hw : w.isRef = true) (hd : decode c.code pc = .ok (.areturn, 1))
    (hQ : Q (some w) T.heap locs) (hc : cells ≤ kc) (hs : slots ≤ ks) : Go p e s below kc ks Q T (mkF m pc Ls (w :: rest)) := by
  obtain ⟨fs, hr, hrun, hended, hW, hsame⟩ := X.leave (v := some w) (fun h => by rw [hret] at h; cases h) hlk
  have hn : narrow t w = w := by cases t <;> first | rfl | simp [FieldType.isReference] at ht
  exact ⟨_, _, retOut X hx hret hn (Or.inr (Or.inr (Or.inr (Or.inr ⟨rfl, ht, hw⟩)))) hd hr, hrun, hended, _, _, rfl, hQ, ⟨_, rfl⟩, hW, hsame.mono hc hs⟩
theorem go_ret (X : Stand p l e R s m args below meth c T locs cells slots) (hx : p.tables.exec = Jvm.exec) (hret : meth.sig.returnType = none) (hlk : meth.locks = false) {pc : Nat} {Ls : Array Slot} (hd : decode c.code pc = .ok (.return_, 1))
    (hQ : Q none T.heap locs) (hc : cells ≤ kc) (hs : slots ≤ ks) : Go p e s below kc ks Q T (mkF m pc Ls []) := by
  obtain ⟨fs, hr, hrun, hended, hW, hsame⟩ := X.leave (v := none) (fun _ => rfl) hlk
  exact ⟨_, _, X.returnOut hx hret hd hr, hrun, hended, _, _, rfl, hQ, ⟨_, rfl⟩, hW, hsame.mono hc hs⟩
/-! calls by a contract -/
section Calls
variable {own : String} {index : Nat} {y : MethodName} {bytes : ByteArray} {maxL : Nat} {ret r : Option FieldType} {rm : Room} {Qc : Option Value → Heap → List Loc → Prop} {argsL rest : List Value} {ps : List FieldType} {pc W : Nat} {Ls : Array Slot} {a : Addr}
theorem c_static (X : Stand p l e R s m args below meth c T locs cells slots) (hx : p.tables.exec = Jvm.exec) (hZ : Z.Warmed39 s.vm) (hown : s.vm.findClass own = some m.cls)
    (w1 : (Jvm.Cond.methodLink own index y).before a0 Z = true) (w2 : (Jvm.Cond.static y).before a0 Z = true) (w3 : (Jvm.Cond.initialized y.cls).before a0 Z = true) (w4 : (Jvm.Cond.code y bytes maxL ret).before a0 Z = true) (hy : y.cls ≠ "java/lang/invoke/MethodHandle" ∧ y.cls ≠ "java/lang/invoke/VarHandle")
    (hC : Ctr l Z y bytes maxL ret [] rm rm.cells rm.slots argsL.toArray h Qc) (eT : T.heap = h) (hpd : parseMethodDescriptor y.desc = some ⟨ps, r⟩) (hlen : argsL.length = ps.length) (hsz : Ls.size = c.maxLocals) (hW : 2 * 0 + (rest.map fun v => v.category).sum ≤ W)
    (hf : rm.frames + 1 ≤ R.frames) (hl : W + (maxL + 11) + rm.locals ≤ R.locals) (hc : cells + rm.cells ≤ R.cells) (hs : slots + rm.slots ≤ R.slots) (hd : decode c.code pc = .ok (.invokestatic index, 3)) :
    ∃ (v : Option Value) (T' : State) (L : List Loc), Stand p l e R s m args below meth c T' (locs ++ L) (cells + rm.cells) (slots + rm.slots) ∧ Qc v T'.heap L ∧
      ∀ t, Steps p.tables e below (T'.setTop (mkF m (pc + 3) Ls (v.toList ++ rest))) t → Steps p.tables e below (T.setTop (mkF m pc Ls (argsL.reverse ++ rest))) t := by
  obtain ⟨v, _, ⟨T', L', k', n'⟩, -, X', ⟨L, hQ, rfl, rfl, rfl⟩, st⟩ := Jvm.LawKit.callS X hx (y := y) hown (mvT hZ w1) (mvT hZ w2) (mvT hZ w3) (mvT hZ w4) hy (backOf (W := W) hC hZ w4 w3 hf hl) (g := mkF m pc Ls (argsL.reverse ++ rest)) rfl hsz (argsL := argsL) (rest := rest) (lenOf hpd hlen) rfl hW hd (fun _ _ => ⟨rfl, eT, hc, hs⟩)
  exact ⟨v, T', L, X', hQ, st⟩
theorem c_init (X : Stand p l e R s m args below meth c T locs cells slots) (hx : p.tables.exec = Jvm.exec) (hZ : Z.Warmed39 s.vm) (hown : s.vm.findClass own = some m.cls)
    (w1 : (Jvm.Cond.methodLink own index y).before a0 Z = true) (w2 : (Jvm.Cond.instanceMethod y).before a0 Z = true) (w3 : (Jvm.Cond.initialized y.cls).before a0 Z = true) (w4 : (Jvm.Cond.code y bytes maxL none).before a0 Z = true) (hn : y.name = "<init>") (hy : y.cls ≠ "java/lang/invoke/MethodHandle" ∧ y.cls ≠ "java/lang/invoke/VarHandle")
    (hC : Ctr l Z y bytes maxL none [] rm rm.cells rm.slots (.ref a :: argsL).toArray h Qc) (eT : T.heap = h) (hpd : parseMethodDescriptor y.desc = some ⟨ps, r⟩) (hlen : argsL.length = ps.length) (hsz : Ls.size = c.maxLocals) (hW : 2 * 0 + (rest.map fun v => v.category).sum ≤ W)
    (hf : rm.frames + 1 ≤ R.frames) (hl : W + (maxL + 11) + rm.locals ≤ R.locals) (hc : cells + rm.cells ≤ R.cells) (hs : slots + rm.slots ≤ R.slots) (hd : decode c.code pc = .ok (.invokespecial index, 3)) :
    ∃ (v : Option Value) (T' : State) (L : List Loc), Stand p l e R s m args below meth c T' (locs ++ L) (cells + rm.cells) (slots + rm.slots) ∧ Qc v T'.heap L ∧
      ∀ t, Steps p.tables e below (T'.setTop (mkF m (pc + 3) Ls (v.toList ++ rest))) t → Steps p.tables e below (T.setTop (mkF m pc Ls (argsL.reverse ++ .ref a :: rest))) t := by
  obtain ⟨v, _, ⟨T', L', k', n'⟩, -, X', ⟨L, hQ, rfl, rfl, rfl⟩, st⟩ := X.specialBack hx (y := y) hn hown (mvT hZ w1) (mvT hZ w2) (mvT hZ w4) hy (backOf (W := W) hC hZ w4 w3 hf hl) (g := mkF m pc Ls (argsL.reverse ++ .ref a :: rest)) rfl hsz (Steps.refl _) (a := a) (argsL := argsL) (rest := rest) (lenOf hpd hlen) rfl hW hd (fun _ _ => ⟨rfl, eT, hc, hs⟩)
  exact ⟨v, T', L, X', hQ, fun t k => st.trans k⟩
theorem c_virt {y' : MethodName} {C : String} (X : Stand p l e R s m args below meth c T locs cells slots) (hx : p.tables.exec = Jvm.exec) (hZ : Z.Warmed39 s.vm) (hown : s.vm.findClass own = some m.cls)
    (w1 : (Jvm.Cond.methodLink own index y').before a0 Z = true) (wd : (Jvm.Cond.declares y').before a0 Z = true) (nf : NotFace s y') (ws : (Jvm.Cond.selects C y' y).before a0 Z = true) (w2 : (Jvm.Cond.instanceMethod y).before a0 Z = true) (w3 : (Jvm.Cond.initialized y.cls).before a0 Z = true) (w4 : (Jvm.Cond.code y bytes maxL ret).before a0 Z = true) (hy : y'.cls ≠ "java/lang/invoke/MethodHandle" ∧ y'.cls ≠ "java/lang/invoke/VarHandle")
    (hC : Ctr l Z y bytes maxL ret [] rm rm.cells rm.slots (.ref a :: argsL).toArray h Qc) (eT : T.heap = h) (E : Exa Z h a C) (hpd : parseMethodDescriptor y'.desc = some ⟨ps, r⟩) (hlen : argsL.length = ps.length) (hsz : Ls.size = c.maxLocals) (hW : 2 * 0 + (rest.map fun v => v.category).sum ≤ W)
    (hf : rm.frames + 1 ≤ R.frames) (hl : W + (maxL + 11) + rm.locals ≤ R.locals) (hc : cells + rm.cells ≤ R.cells) (hs : slots + rm.slots ≤ R.slots) (hd : decode c.code pc = .ok (.invokevirtual index, 3)) :
    ∃ (v : Option Value) (T' : State) (L : List Loc), Stand p l e R s m args below meth c T' (locs ++ L) (cells + rm.cells) (slots + rm.slots) ∧ Qc v T'.heap L ∧
      ∀ t, Steps p.tables e below (T'.setTop (mkF m (pc + 3) Ls (v.toList ++ rest))) t → Steps p.tables e below (T.setTop (mkF m pc Ls (argsL.reverse ++ .ref a :: rest))) t := by
  obtain ⟨cq, kq, qa, qb, qc⟩ := isOf hZ eT E
  obtain ⟨v, _, ⟨T', L', k', n'⟩, -, X', ⟨L, hQ, rfl, rfl, rfl⟩, st⟩ := X.virtualBack hx (y := y') (z := y) hown (mvT hZ w1) (mvT hZ wd) nf (mvT hZ ws) (mvT hZ w2) hy (backOf (W := W) hC hZ w4 w3 hf hl) qa qc (g := mkF m pc Ls (argsL.reverse ++ .ref a :: rest)) rfl hsz (Steps.refl _) (argsL := argsL) (rest := rest) (lenOf hpd hlen) rfl hW hd (fun _ _ => ⟨rfl, eT, hc, hs⟩)
  exact ⟨v, T', L, X', hQ, fun t k => st.trans k⟩
theorem own_nf {y' z : MethodName} {C : String} {as : Array Value} (ws : (Jvm.Cond.selects C y' z).before as s = true) (h : z.cls = y.cls) : NotFace s y := fun r0 h0 => by
  obtain ⟨_, _, m2, -, -, q3, -, kP, hkP, hkPi⟩ := Cond.selects_spec ws
  have e1 := findClass_of_methodNamed q3
  rw [h] at e1
  have e2 : m2.cls = r0.cls := Option.some.inj (e1.symm.trans (findClass_of_methodNamed h0))
  exact ⟨kP, e2 ▸ hkP, hkPi⟩
/-- a private method of an object, by invokevirtual: its class isn't an interface (nf) -/
theorem c_priv {C : String} (X : Stand p l e R s m args below meth c T locs cells slots) (hx : p.tables.exec = Jvm.exec) (hZ : Z.Warmed39 s.vm) (hown : s.vm.findClass own = some m.cls)
    (w1 : (Jvm.Cond.methodLink own index y).before a0 Z = true) (w2 : (Jvm.Cond.instanceMethod y).before a0 Z = true) (nf : NotFace s y) (wp : (Jvm.Cond.privateMethod y).before a0 Z = true) (w3 : (Jvm.Cond.initialized y.cls).before a0 Z = true) (w4 : (Jvm.Cond.code y bytes maxL ret).before a0 Z = true) (hy : y.cls ≠ "java/lang/invoke/MethodHandle" ∧ y.cls ≠ "java/lang/invoke/VarHandle")
    (hC : Ctr l Z y bytes maxL ret [] rm rm.cells rm.slots (.ref a :: argsL).toArray h Qc) (eT : T.heap = h) (E : Exa Z h a C) (hpd : parseMethodDescriptor y.desc = some ⟨ps, r⟩) (hlen : argsL.length = ps.length) (hsz : Ls.size = c.maxLocals) (hW : 2 * 0 + (rest.map fun v => v.category).sum ≤ W)
    (hf : rm.frames + 1 ≤ R.frames) (hl : W + (maxL + 11) + rm.locals ≤ R.locals) (hc : cells + rm.cells ≤ R.cells) (hs : slots + rm.slots ≤ R.slots) (hd : decode c.code pc = .ok (.invokevirtual index, 3)) :
    ∃ (v : Option Value) (T' : State) (L : List Loc), Stand p l e R s m args below meth c T' (locs ++ L) (cells + rm.cells) (slots + rm.slots) ∧ Qc v T'.heap L ∧
      ∀ t, Steps p.tables e below (T'.setTop (mkF m (pc + 3) Ls (v.toList ++ rest))) t → Steps p.tables e below (T.setTop (mkF m pc Ls (argsL.reverse ++ .ref a :: rest))) t := by
  obtain ⟨cq, qa, qb⟩ := E.cell
  obtain ⟨mk, methM, hnamed, hmethM, hstM, habM⟩ := Cond.instanceMethod_spec (mvT (args := args) hZ w2)
  obtain ⟨methM', cM, hmethM', -, -, -, -, -, -, hsigM⟩ := Cond.code_spec hnamed (mvT (args := args) hZ w4)
  cases hmethM.symm.trans hmethM'
  obtain ⟨kP, hkP, hkPi⟩ := nf mk hnamed
  have hsel : selectMethod e.platform s.vm cq.cls mk = .method mk := selectMethod_private hmethM ((Cond.privateMethod_at (mvP hZ wp (args := #[]))) mk methM hnamed hmethM)
  obtain ⟨vm₁, X₁, hst⟩ := X.invokevirtual hx hown (mvT hZ w1) hnamed hmethM hstM hkP hkPi hy (a := a) (cell := cq) (by rw [eT]; exact qa) qb hsel hmethM habM hkP hkPi (g := mkF m pc Ls (argsL.reverse ++ .ref a :: rest)) rfl (argsL := argsL) (rest := rest) (lenOf hpd hlen _ hsigM) rfl hd
  obtain ⟨v, ⟨T', L', k', n'⟩, X', ⟨L, hQ, rfl, rfl, rfl⟩, hgo⟩ := (backOf (W := W) (len := 3) hC hZ w4 w3 hf hl) m meth c ⟨T.setVm vm₁, locs, cells, slots⟩ (mkF m pc Ls rest) (.invokevirtual index) mk (.ref a :: argsL).toArray X₁ rfl hsz hd hW (X₁.named hnamed) ⟨rfl, eT, hc, hs⟩
  exact ⟨v, T', L, X', hQ, fun t k => ((hst _ fun acts => by rw [doInvoke_state]; exact Steps.refl _).trans hgo).trans k⟩
/-- invokevirtual of a method that a class above the one that the entry names declares -/
theorem c_virtUp {y' : MethodName} {C owner : String} (X : Stand p l e R s m args below meth c T locs cells slots) (hx : p.tables.exec = Jvm.exec) (hZ : Z.Warmed39 s.vm) (hown : s.vm.findClass own = some m.cls)
    (w1 : (Jvm.Cond.methodLink own index y').before a0 Z = true) (wm : (Jvm.Cond.sameMethod y'.cls owner y'.name y'.desc).before a0 Z = true) (wd : (Jvm.Cond.declares ⟨owner, y'.name, y'.desc⟩).before a0 Z = true) (ws : (Jvm.Cond.selects C y' y).before a0 Z = true) (w2 : (Jvm.Cond.instanceMethod y).before a0 Z = true) (w3 : (Jvm.Cond.initialized y.cls).before a0 Z = true) (w4 : (Jvm.Cond.code y bytes maxL ret).before a0 Z = true) (hy : owner ≠ "java/lang/invoke/MethodHandle" ∧ owner ≠ "java/lang/invoke/VarHandle")
    (hC : Ctr l Z y bytes maxL ret [] rm rm.cells rm.slots (.ref a :: argsL).toArray h Qc) (eT : T.heap = h) (E : Exa Z h a C) (hpd : parseMethodDescriptor y'.desc = some ⟨ps, r⟩) (hlen : argsL.length = ps.length) (hsz : Ls.size = c.maxLocals) (hW : 2 * 0 + (rest.map fun v => v.category).sum ≤ W)
    (hf : rm.frames + 1 ≤ R.frames) (hl : W + (maxL + 11) + rm.locals ≤ R.locals) (hc : cells + rm.cells ≤ R.cells) (hs : slots + rm.slots ≤ R.slots) (hd : decode c.code pc = .ok (.invokevirtual index, 3)) :
    ∃ (v : Option Value) (T' : State) (L : List Loc), Stand p l e R s m args below meth c T' (locs ++ L) (cells + rm.cells) (slots + rm.slots) ∧ Qc v T'.heap L ∧
      ∀ t, Steps p.tables e below (T'.setTop (mkF m (pc + 3) Ls (v.toList ++ rest))) t → Steps p.tables e below (T.setTop (mkF m pc Ls (argsL.reverse ++ .ref a :: rest))) t := by
  obtain ⟨cq, kq, qa, qb, qc⟩ := isOf hZ eT E
  obtain ⟨v, _, ⟨T', L', k', n'⟩, -, X', ⟨L, hQ, rfl, rfl, rfl⟩, st⟩ := X.virtualBackUp hx (x := y') (y := y) hown (mvT hZ w1) (mvT hZ wm) (mvT hZ wd) hy (mvT hZ ws) (mvT hZ w2) (backOf (W := W) hC hZ w4 w3 hf hl) qa qc (g := mkF m pc Ls (argsL.reverse ++ .ref a :: rest)) rfl hsz (Steps.refl _) (argsL := argsL) (rest := rest) (lenOf hpd hlen) rfl hW hd (fun _ _ => ⟨rfl, eT, hc, hs⟩)
  exact ⟨v, T', L, X', hQ, fun t k => st.trans k⟩
end Calls
end Own
theorem ef_rm2 (m : MethodId) (x0 : Addr) : entryFrame m #[(.ref x0)] 1 = mkF m 0 #[.val (.ref x0)] [] := by first | (simp [entryFrame, mkF, argsToLocals, Value.category]; done) | rfl
theorem pn_0 : plainName "java/lang/Record" = true := by first | (simp [plainName, overriddenIn]; done) | decide +kernel
theorem d2_0 : decode jdk_30_method_1_code 0 = .ok (.aload_n 0, 1) := by decide +kernel
theorem d2_1 : decode jdk_30_method_1_code 1 = .ok (.invokespecial 1, 3) := by decide +kernel
theorem d2_4 : decode jdk_30_method_1_code 4 = .ok (.return_, 1) := by decide +kernel
set_option maxRecDepth 65536 in
set_option maxHeartbeats 40000000 in
theorem rm2 (l : Launch) (Z : State) (a0 : Array Value) (hw : ∀ d ∈ tables_1, d.before a0 Z = true) (ws : List Jvm.Cond) (a : Addr) (h0 : Heap) (n0 : Nat) (Z0 : n0 ≤ h0.size)  :
    Ctr l Z (⟨"java/lang/Record", "<init>", "()V"⟩ : MethodName) jdk_30_method_1_code 1 none ws ({ frames := 1, cells := 0, slots := 0, locals := 12 } : Room) 0 0 #[(.ref a)] h0 (fun v h L => v = none ∧ L = [] ∧ h = h0) := by
  refine Ctr.mk (plainFor_of_name pn_0) fun p e s m below meth c T0 X0 C e0 => go_cast (ef_rm2 m a) ?_
  have N0 := Fr.nil n0
  obtain ⟨hx, hZ, hby, hml, hown, hnm, hret, hlk⟩ := C
  show Go _ _ _ _ _ _ _ T0 (mkF m 0 #[.val (.ref a)] [])
  refine Go.step (fun t k => XS.aloadN X0.here hx rfl (hb hby d2_0) rfl rfl k) ?_
  show Go _ _ _ _ _ _ _ T0 (mkF m 1 #[.val (.ref a)] [(.ref a)])
  obtain ⟨T1, X1, e1, st1⟩ := initO X0 hx hZ hown (hw _ (List.mem_of_getElem? (i := 11) rfl)) (hw _ (List.mem_of_getElem? (i := 12) rfl)) (hw _ (List.mem_of_getElem? (i := 13) rfl)) e0 (g := (mkF m 1 #[.val (.ref a)] [(.ref a)])) rfl (by rw [hml]; rfl) rfl (hb hby d2_1) (by decide) (W := 0) (by show 2 * 0 + _ ≤ _; exact Nat.le_of_eq rfl) (by decide)
  refine Go.step (st1) ?_
  show Go _ _ _ _ _ _ _ T1 (mkF m 4 #[.val (.ref a)] [])
  refine go_ret X1 hx hret hlk (hb hby d2_4) ?_ (by decide) (by decide)
  try rw [e1]
  exact ⟨rfl, rfl, rfl⟩
theorem ef_rm1 (m : MethodId) (x0 : Addr) (x1 : Int32) (x2 : Int64) (x3 : Int64) : entryFrame m #[(.ref x0), (.int x1), (.long x2), (.long x3)] 6 = mkF m 0 #[.val (.ref x0), .val (.int x1), .val (.long x2), .second, .val (.long x3), .second] [] := by first | (simp [entryFrame, mkF, argsToLocals, Value.category]; done) | rfl
theorem pn_1 : plainName "com/example/sleet/sleet/Tenure" = true := by first | (simp [plainName, overriddenIn]; done) | decide +kernel
theorem d1_0 : decode prog_40_method_1_code 0 = .ok (.aload_n 0, 1) := by decide +kernel
theorem pd_0 : parseMethodDescriptor "()V" = some ⟨[], none⟩ := by decide +kernel
theorem d1_1 : decode prog_40_method_1_code 1 = .ok (.invokespecial 1, 3) := by decide +kernel
theorem d1_4 : decode prog_40_method_1_code 4 = .ok (.aload_n 0, 1) := by decide +kernel
theorem d1_5 : decode prog_40_method_1_code 5 = .ok (.iload_n 1, 1) := by decide +kernel
theorem d1_6 : decode prog_40_method_1_code 6 = .ok (.putfield 7, 3) := by decide +kernel
theorem d1_9 : decode prog_40_method_1_code 9 = .ok (.aload_n 0, 1) := by decide +kernel
theorem d1_10 : decode prog_40_method_1_code 10 = .ok (.lload_n 2, 1) := by decide +kernel
theorem d1_11 : decode prog_40_method_1_code 11 = .ok (.putfield 13, 3) := by decide +kernel
theorem d1_14 : decode prog_40_method_1_code 14 = .ok (.aload_n 0, 1) := by decide +kernel
theorem d1_15 : decode prog_40_method_1_code 15 = .ok (.lload 4, 2) := by decide +kernel
theorem d1_17 : decode prog_40_method_1_code 17 = .ok (.putfield 17, 3) := by decide +kernel
theorem d1_20 : decode prog_40_method_1_code 20 = .ok (.return_, 1) := by decide +kernel
set_option maxRecDepth 65536 in
set_option maxHeartbeats 40000000 in
theorem rm1 (l : Launch) (Z : State) (a0 : Array Value) (hw : ∀ d ∈ tables_1, d.before a0 Z = true) (ws : List Jvm.Cond) (a : Addr) (x1 : Int32) (x2 : Int64) (x3 : Int64) (u_node : Int32) (u_start : Int64) (u_mark : Int64)  (h0 : Heap) (n0 : Nat) (Z0 : n0 ≤ h0.size) (E_a : Exa Z h0 a "com/example/sleet/sleet/Tenure") (F_0 : Fld Z h0 a "com/example/sleet/sleet/Tenure" "node" "I" (.int u_node)) (F_1 : Fld Z h0 a "com/example/sleet/sleet/Tenure" "start" "J" (.long u_start)) (F_2 : Fld Z h0 a "com/example/sleet/sleet/Tenure" "mark" "J" (.long u_mark)) (g_a : n0 ≤ a) :
    Ctr l Z (⟨"com/example/sleet/sleet/Tenure", "<init>", "(IJJ)V"⟩ : MethodName) prog_40_method_1_code 6 none ws ({ frames := 2, cells := 0, slots := 0, locals := 24 } : Room) 0 0 #[(.ref a), (.int x1), (.long x2), (.long x3)] h0 (fun v h L => v = none ∧ Fr n0 L ∧ Keep h0 h [a] ∧ Exa Z h a "com/example/sleet/sleet/Tenure" ∧ Fld Z h a "com/example/sleet/sleet/Tenure" "node" "I" (.int x1) ∧ Fld Z h a "com/example/sleet/sleet/Tenure" "start" "J" (.long x2) ∧ Fld Z h a "com/example/sleet/sleet/Tenure" "mark" "J" (.long x3)) := by
  refine Ctr.mk (plainFor_of_name pn_1) fun p e s m below meth c T0 X0 C e0 => go_cast (ef_rm1 m a x1 x2 x3) ?_
  have N0 := Fr.nil n0
  obtain ⟨hx, hZ, hby, hml, hown, hnm, hret, hlk⟩ := C
  obtain ⟨hI, eI⟩ : ∃ z, z = h0 := ⟨_, rfl⟩
  have K0 : Keep hI h0 [a] := by rw [eI]; exact Keep.refl _ _
  show Go _ _ _ _ _ _ _ T0 (mkF m 0 #[.val (.ref a), .val (.int x1), .val (.long x2), .second, .val (.long x3), .second] [])
  refine Go.step (fun t k => XS.aloadN X0.here hx rfl (hb hby d1_0) rfl rfl k) ?_
  show Go _ _ _ _ _ _ _ T0 (mkF m 1 #[.val (.ref a), .val (.int x1), .val (.long x2), .second, .val (.long x3), .second] [(.ref a)])
  obtain ⟨v1, T1, L1, X1, q1, st1⟩ := c_init X0 hx hZ hown (y := (⟨"java/lang/Record", "<init>", "()V"⟩ : MethodName)) (hw _ (List.mem_of_getElem? (i := 6) rfl)) (hw _ (List.mem_of_getElem? (i := 7) rfl)) (hw _ (List.mem_of_getElem? (i := 9) rfl)) (hw _ (List.mem_of_getElem? (i := 10) rfl)) rfl (by decide) (a := a) (argsL := []) (rest := []) (rm2 l Z a0 hw [] a  h0 n0 Z0 ) e0 pd_0 rfl (by rw [hml]; rfl) (W := 0) (by show 2 * 0 + _ ≤ _; exact Nat.le_of_eq rfl) (by decide) (by decide) (by decide) (by decide) (hb hby d1_1) (Ls := #[.val (.ref a), .val (.int x1), .val (.long x2), .second, .val (.long x3), .second])
  obtain ⟨rfl, rfl, e1⟩ := q1
  have N1 := Fr.app N0 (Fr.nil n0)
  refine Go.step (st1) ?_
  show Go _ _ _ _ _ _ _ T1 (mkF m 4 #[.val (.ref a), .val (.int x1), .val (.long x2), .second, .val (.long x3), .second] [])
  refine Go.step (fun t k => XS.aloadN X1.here hx rfl (hb hby d1_4) rfl rfl k) ?_
  show Go _ _ _ _ _ _ _ T1 (mkF m 5 #[.val (.ref a), .val (.int x1), .val (.long x2), .second, .val (.long x3), .second] [(.ref a)])
  refine Go.step (fun t k => XS.iloadN X1.here hx rfl (hb hby d1_5) rfl k) ?_
  show Go _ _ _ _ _ _ _ T1 (mkF m 6 #[.val (.ref a), .val (.int x1), .val (.long x2), .second, .val (.long x3), .second] [(.int x1), (.ref a)])
  obtain ⟨T2, h2, X2, e2, W2, st2⟩ := putF X1 hx hZ hown (host := "") (Or.inl (hw _ (List.mem_of_getElem? (i := 14) rfl))) Via.refl e1 F_0 E_a (Or.inr ⟨(hw _ (List.mem_of_getElem? (i := 15) rfl)), rfl, hnm⟩) (hw _ (List.mem_of_getElem? (i := 1) rfl)) (ty := .int) (by decide) rfl rfl (g := (mkF m 6 #[.val (.ref a), .val (.int x1), .val (.long x2), .second, .val (.long x3), .second] [(.int x1), (.ref a)])) rfl rfl (hb hby d1_6)
  have F2 := Fld.same W2 F_0
  have N2 := Fr.snoc X2 N1 g_a
  have Z2 : n0 ≤ h2.size := Nat.le_trans Z0 (Keep.of_wr W2).1
  have K2 : Keep hI h2 [a] := K0.wr W2 (Or.inl (List.mem_of_getElem? (i := 0) rfl))
  refine Go.step (st2) ?_
  show Go _ _ _ _ _ _ _ T2 (mkF m 9 #[.val (.ref a), .val (.int x1), .val (.long x2), .second, .val (.long x3), .second] [])
  refine Go.step (fun t k => XS.aloadN X2.here hx rfl (hb hby d1_9) rfl rfl k) ?_
  show Go _ _ _ _ _ _ _ T2 (mkF m 10 #[.val (.ref a), .val (.int x1), .val (.long x2), .second, .val (.long x3), .second] [(.ref a)])
  refine Go.step (fun t k => XS.lloadN X2.here hx rfl (hb hby d1_10) rfl k) ?_
  show Go _ _ _ _ _ _ _ T2 (mkF m 11 #[.val (.ref a), .val (.int x1), .val (.long x2), .second, .val (.long x3), .second] [(.long x2), (.ref a)])
  have f4 := (Fld.other W2 F_1 (Or.inr (slot_ne (Or.inr (hw _ (List.mem_of_getElem? (i := 17) rfl))) (Or.inr (hw _ (List.mem_of_getElem? (i := 15) rfl))) (by decide) (t := .long) (t' := .int) (by decide) (by decide))))
  have f5 := (Exa.wr W2 E_a)
  obtain ⟨T3, h3, X3, e3, W3, st3⟩ := putF X2 hx hZ hown (host := "") (Or.inl (hw _ (List.mem_of_getElem? (i := 16) rfl))) Via.refl e2 f4 f5 (Or.inr ⟨(hw _ (List.mem_of_getElem? (i := 17) rfl)), rfl, hnm⟩) (hw _ (List.mem_of_getElem? (i := 1) rfl)) (ty := .long) (by decide) rfl rfl (g := (mkF m 11 #[.val (.ref a), .val (.int x1), .val (.long x2), .second, .val (.long x3), .second] [(.long x2), (.ref a)])) rfl rfl (hb hby d1_11)
  have F3 := Fld.same W3 f4
  have N3 := Fr.snoc X3 N2 g_a
  have Z3 : n0 ≤ h3.size := Nat.le_trans Z2 (Keep.of_wr W3).1
  have K3 : Keep hI h3 [a] := K2.wr W3 (Or.inl (List.mem_of_getElem? (i := 0) rfl))
  refine Go.step (st3) ?_
  show Go _ _ _ _ _ _ _ T3 (mkF m 14 #[.val (.ref a), .val (.int x1), .val (.long x2), .second, .val (.long x3), .second] [])
  refine Go.step (fun t k => XS.aloadN X3.here hx rfl (hb hby d1_14) rfl rfl k) ?_
  show Go _ _ _ _ _ _ _ T3 (mkF m 15 #[.val (.ref a), .val (.int x1), .val (.long x2), .second, .val (.long x3), .second] [(.ref a)])
  refine Go.step (fun t k => XS.lload X3.here hx rfl (hb hby d1_15) rfl k) ?_
  show Go _ _ _ _ _ _ _ T3 (mkF m 17 #[.val (.ref a), .val (.int x1), .val (.long x2), .second, .val (.long x3), .second] [(.long x3), (.ref a)])
  have f7 := (Fld.other W3 (Fld.other W2 F_2 (Or.inr (slot_ne (Or.inr (hw _ (List.mem_of_getElem? (i := 19) rfl))) (Or.inr (hw _ (List.mem_of_getElem? (i := 15) rfl))) (by decide) (t := .long) (t' := .int) (by decide) (by decide)))) (Or.inr (slot_ne (Or.inr (hw _ (List.mem_of_getElem? (i := 19) rfl))) (Or.inr (hw _ (List.mem_of_getElem? (i := 17) rfl))) (by decide) (t := .long) (t' := .long) (by decide) (by decide))))
  have f8 := (Exa.wr W3 f5)
  obtain ⟨T6, h6, X6, e6, W6, st6⟩ := putF X3 hx hZ hown (host := "") (Or.inl (hw _ (List.mem_of_getElem? (i := 18) rfl))) Via.refl e3 f7 f8 (Or.inr ⟨(hw _ (List.mem_of_getElem? (i := 19) rfl)), rfl, hnm⟩) (hw _ (List.mem_of_getElem? (i := 1) rfl)) (ty := .long) (by decide) rfl rfl (g := (mkF m 17 #[.val (.ref a), .val (.int x1), .val (.long x2), .second, .val (.long x3), .second] [(.long x3), (.ref a)])) rfl rfl (hb hby d1_17)
  have F6 := Fld.same W6 f7
  have N6 := Fr.snoc X6 N3 g_a
  have Z6 : n0 ≤ h6.size := Nat.le_trans Z3 (Keep.of_wr W6).1
  have K6 : Keep hI h6 [a] := K3.wr W6 (Or.inl (List.mem_of_getElem? (i := 0) rfl))
  refine Go.step (st6) ?_
  show Go _ _ _ _ _ _ _ T6 (mkF m 20 #[.val (.ref a), .val (.int x1), .val (.long x2), .second, .val (.long x3), .second] [])
  have f9 := (Exa.wr W6 f8)
  have f10 := (Fld.other W6 (Fld.other W3 F2 (Or.inr (slot_ne (Or.inr (hw _ (List.mem_of_getElem? (i := 15) rfl))) (Or.inr (hw _ (List.mem_of_getElem? (i := 17) rfl))) (by decide) (t := .int) (t' := .long) (by decide) (by decide)))) (Or.inr (slot_ne (Or.inr (hw _ (List.mem_of_getElem? (i := 15) rfl))) (Or.inr (hw _ (List.mem_of_getElem? (i := 19) rfl))) (by decide) (t := .int) (t' := .long) (by decide) (by decide))))
  have f11 := (Fld.other W6 F3 (Or.inr (slot_ne (Or.inr (hw _ (List.mem_of_getElem? (i := 17) rfl))) (Or.inr (hw _ (List.mem_of_getElem? (i := 19) rfl))) (by decide) (t := .long) (t' := .long) (by decide) (by decide))))
  refine go_ret X6 hx hret hlk (hb hby d1_20) ?_ (by decide) (by decide)
  try rw [e6]
  exact ⟨rfl, N6, eI ▸ K6, f9, f10, f11, F6⟩
theorem ef_rm5 (m : MethodId) (x0 : Addr) : entryFrame m #[(.ref x0)] 1 = mkF m 0 #[.val (.ref x0)] [] := by first | (simp [entryFrame, mkF, argsToLocals, Value.category]; done) | rfl
theorem d5_0 : decode prog_40_method_6_code 0 = .ok (.aload_n 0, 1) := by decide +kernel
theorem d5_1 : decode prog_40_method_6_code 1 = .ok (.getfield 7, 3) := by decide +kernel
theorem d5_4 : decode prog_40_method_6_code 4 = .ok (.ireturn, 1) := by decide +kernel
set_option maxRecDepth 65536 in
set_option maxHeartbeats 40000000 in
theorem rm5 (l : Launch) (Z : State) (a0 : Array Value) (hw : ∀ d ∈ tables_1, d.before a0 Z = true) (ws : List Jvm.Cond) (a : Addr) (u_node : Int32) (u_start : Int64) (u_mark : Int64)  (h0 : Heap) (n0 : Nat) (Z0 : n0 ≤ h0.size) (E_a : Exa Z h0 a "com/example/sleet/sleet/Tenure") (F_0 : Fld Z h0 a "com/example/sleet/sleet/Tenure" "node" "I" (.int u_node)) (F_1 : Fld Z h0 a "com/example/sleet/sleet/Tenure" "start" "J" (.long u_start)) (F_2 : Fld Z h0 a "com/example/sleet/sleet/Tenure" "mark" "J" (.long u_mark)) :
    Ctr l Z (⟨"com/example/sleet/sleet/Tenure", "node", "()I"⟩ : MethodName) prog_40_method_6_code 1 (some .int) ws ({ frames := 0, cells := 0, slots := 0, locals := 0 } : Room) 0 0 #[(.ref a)] h0 (fun v h L => v = some (.int u_node) ∧ L = [] ∧ h = h0) := by
  refine Ctr.mk (plainFor_of_name pn_1) fun p e s m below meth c T0 X0 C e0 => go_cast (ef_rm5 m a) ?_
  have N0 := Fr.nil n0
  obtain ⟨hx, hZ, hby, hml, hown, hnm, hret, hlk⟩ := C
  show Go _ _ _ _ _ _ _ T0 (mkF m 0 #[.val (.ref a)] [])
  refine Go.step (fun t k => XS.aloadN X0.here hx rfl (hb hby d5_0) rfl rfl k) ?_
  show Go _ _ _ _ _ _ _ T0 (mkF m 1 #[.val (.ref a)] [(.ref a)])
  obtain ⟨T1, X1, e1, st1⟩ := getF X0 hx hZ hown (host := "") (Or.inl (hw _ (List.mem_of_getElem? (i := 14) rfl))) Via.refl e0 F_0 (g := (mkF m 1 #[.val (.ref a)] [(.ref a)])) rfl rfl (hb hby d5_1)
  refine Go.step (st1) ?_
  show Go _ _ _ _ _ _ _ T1 (mkF m 4 #[.val (.ref a)] [(.int u_node)])
  refine go_retI X1 hx hret hlk (hb hby d5_4) ?_ (by decide) (by decide)
  try rw [e1]
  exact ⟨rfl, rfl, rfl⟩
theorem ef_rm6 (m : MethodId) (x0 : Addr) : entryFrame m #[(.ref x0)] 1 = mkF m 0 #[.val (.ref x0)] [] := by first | (simp [entryFrame, mkF, argsToLocals, Value.category]; done) | rfl
theorem d6_0 : decode prog_40_method_7_code 0 = .ok (.aload_n 0, 1) := by decide +kernel
theorem d6_1 : decode prog_40_method_7_code 1 = .ok (.getfield 13, 3) := by decide +kernel
theorem d6_4 : decode prog_40_method_7_code 4 = .ok (.lreturn, 1) := by decide +kernel
set_option maxRecDepth 65536 in
set_option maxHeartbeats 40000000 in
theorem rm6 (l : Launch) (Z : State) (a0 : Array Value) (hw : ∀ d ∈ tables_1, d.before a0 Z = true) (ws : List Jvm.Cond) (a : Addr) (u_node : Int32) (u_start : Int64) (u_mark : Int64)  (h0 : Heap) (n0 : Nat) (Z0 : n0 ≤ h0.size) (E_a : Exa Z h0 a "com/example/sleet/sleet/Tenure") (F_0 : Fld Z h0 a "com/example/sleet/sleet/Tenure" "node" "I" (.int u_node)) (F_1 : Fld Z h0 a "com/example/sleet/sleet/Tenure" "start" "J" (.long u_start)) (F_2 : Fld Z h0 a "com/example/sleet/sleet/Tenure" "mark" "J" (.long u_mark)) :
    Ctr l Z (⟨"com/example/sleet/sleet/Tenure", "start", "()J"⟩ : MethodName) prog_40_method_7_code 1 (some .long) ws ({ frames := 0, cells := 0, slots := 0, locals := 0 } : Room) 0 0 #[(.ref a)] h0 (fun v h L => v = some (.long u_start) ∧ L = [] ∧ h = h0) := by
  refine Ctr.mk (plainFor_of_name pn_1) fun p e s m below meth c T0 X0 C e0 => go_cast (ef_rm6 m a) ?_
  have N0 := Fr.nil n0
  obtain ⟨hx, hZ, hby, hml, hown, hnm, hret, hlk⟩ := C
  show Go _ _ _ _ _ _ _ T0 (mkF m 0 #[.val (.ref a)] [])
  refine Go.step (fun t k => XS.aloadN X0.here hx rfl (hb hby d6_0) rfl rfl k) ?_
  show Go _ _ _ _ _ _ _ T0 (mkF m 1 #[.val (.ref a)] [(.ref a)])
  obtain ⟨T1, X1, e1, st1⟩ := getF X0 hx hZ hown (host := "") (Or.inl (hw _ (List.mem_of_getElem? (i := 16) rfl))) Via.refl e0 F_1 (g := (mkF m 1 #[.val (.ref a)] [(.ref a)])) rfl rfl (hb hby d6_1)
  refine Go.step (st1) ?_
  show Go _ _ _ _ _ _ _ T1 (mkF m 4 #[.val (.ref a)] [(.long u_start)])
  refine go_retJ X1 hx hret hlk (hb hby d6_4) ?_ (by decide) (by decide)
  try rw [e1]
  exact ⟨rfl, rfl, rfl⟩
theorem ef_rm7 (m : MethodId) (x0 : Addr) : entryFrame m #[(.ref x0)] 1 = mkF m 0 #[.val (.ref x0)] [] := by first | (simp [entryFrame, mkF, argsToLocals, Value.category]; done) | rfl
theorem d7_0 : decode prog_40_method_8_code 0 = .ok (.aload_n 0, 1) := by decide +kernel
theorem d7_1 : decode prog_40_method_8_code 1 = .ok (.getfield 17, 3) := by decide +kernel
theorem d7_4 : decode prog_40_method_8_code 4 = .ok (.lreturn, 1) := by decide +kernel
set_option maxRecDepth 65536 in
set_option maxHeartbeats 40000000 in
theorem rm7 (l : Launch) (Z : State) (a0 : Array Value) (hw : ∀ d ∈ tables_1, d.before a0 Z = true) (ws : List Jvm.Cond) (a : Addr) (u_node : Int32) (u_start : Int64) (u_mark : Int64)  (h0 : Heap) (n0 : Nat) (Z0 : n0 ≤ h0.size) (E_a : Exa Z h0 a "com/example/sleet/sleet/Tenure") (F_0 : Fld Z h0 a "com/example/sleet/sleet/Tenure" "node" "I" (.int u_node)) (F_1 : Fld Z h0 a "com/example/sleet/sleet/Tenure" "start" "J" (.long u_start)) (F_2 : Fld Z h0 a "com/example/sleet/sleet/Tenure" "mark" "J" (.long u_mark)) :
    Ctr l Z (⟨"com/example/sleet/sleet/Tenure", "mark", "()J"⟩ : MethodName) prog_40_method_8_code 1 (some .long) ws ({ frames := 0, cells := 0, slots := 0, locals := 0 } : Room) 0 0 #[(.ref a)] h0 (fun v h L => v = some (.long u_mark) ∧ L = [] ∧ h = h0) := by
  refine Ctr.mk (plainFor_of_name pn_1) fun p e s m below meth c T0 X0 C e0 => go_cast (ef_rm7 m a) ?_
  have N0 := Fr.nil n0
  obtain ⟨hx, hZ, hby, hml, hown, hnm, hret, hlk⟩ := C
  show Go _ _ _ _ _ _ _ T0 (mkF m 0 #[.val (.ref a)] [])
  refine Go.step (fun t k => XS.aloadN X0.here hx rfl (hb hby d7_0) rfl rfl k) ?_
  show Go _ _ _ _ _ _ _ T0 (mkF m 1 #[.val (.ref a)] [(.ref a)])
  obtain ⟨T1, X1, e1, st1⟩ := getF X0 hx hZ hown (host := "") (Or.inl (hw _ (List.mem_of_getElem? (i := 18) rfl))) Via.refl e0 F_2 (g := (mkF m 1 #[.val (.ref a)] [(.ref a)])) rfl rfl (hb hby d7_1)
  refine Go.step (st1) ?_
  show Go _ _ _ _ _ _ _ T1 (mkF m 4 #[.val (.ref a)] [(.long u_mark)])
  refine go_retJ X1 hx hret hlk (hb hby d7_4) ?_ (by decide) (by decide)
  try rw [e1]
  exact ⟨rfl, rfl, rfl⟩
theorem ef_rm4 (m : MethodId) (x0 : Addr) (x1 : Int64) : entryFrame m #[(.ref x0), (.long x1)] 3 = mkF m 0 #[.val (.ref x0), .val (.long x1), .second] [] := by first | (simp [entryFrame, mkF, argsToLocals, Value.category]; done) | rfl
theorem d4_0 : decode prog_40_method_2_code 0 = .ok (.new 8, 3) := by decide +kernel
theorem d4_3 : decode prog_40_method_2_code 3 = .ok (.dup, 1) := by decide +kernel
theorem d4_4 : decode prog_40_method_2_code 4 = .ok (.aload_n 0, 1) := by decide +kernel
theorem d4_5 : decode prog_40_method_2_code 5 = .ok (.getfield 7, 3) := by decide +kernel
theorem d4_8 : decode prog_40_method_2_code 8 = .ok (.aload_n 0, 1) := by decide +kernel
theorem d4_9 : decode prog_40_method_2_code 9 = .ok (.getfield 13, 3) := by decide +kernel
theorem d4_12 : decode prog_40_method_2_code 12 = .ok (.lload_n 1, 1) := by decide +kernel
theorem pd_1 : parseMethodDescriptor "(IJJ)V" = some ⟨[.int, .long, .long], none⟩ := by decide +kernel
theorem d4_13 : decode prog_40_method_2_code 13 = .ok (.invokespecial 20, 3) := by decide +kernel
theorem d4_16 : decode prog_40_method_2_code 16 = .ok (.areturn, 1) := by decide +kernel
set_option maxRecDepth 65536 in
set_option maxHeartbeats 40000000 in
theorem rm4 (l : Launch) (Z : State) (a0 : Array Value) (hw : ∀ d ∈ tables_1, d.before a0 Z = true) (ws : List Jvm.Cond) (a : Addr) (x1 : Int64) (u_node : Int32) (u_start u_mark : Int64) (h0 : Heap) (n0 : Nat) (Z0 : n0 ≤ h0.size) (E_a : Exa Z h0 a "com/example/sleet/sleet/Tenure") (F_0 : Fld Z h0 a "com/example/sleet/sleet/Tenure" "node" "I" (.int u_node)) (F_1 : Fld Z h0 a "com/example/sleet/sleet/Tenure" "start" "J" (.long u_start)) (F_2 : Fld Z h0 a "com/example/sleet/sleet/Tenure" "mark" "J" (.long u_mark)) :
    Ctr l Z (⟨"com/example/sleet/sleet/Tenure", "marked", "(J)Lcom/example/sleet/sleet/Tenure;"⟩ : MethodName) prog_40_method_2_code 3 (some (.object "com/example/sleet/sleet/Tenure")) ws ({ frames := 3, cells := 1, slots := 3, locals := 42 } : Room) 1 3 #[(.ref a), (.long x1)] h0 (fun v h L => ∃ b, v = some (.ref b) ∧ Fr n0 L ∧ Keep h0 h [] ∧ h0.size ≤ b ∧ Exa Z h b "com/example/sleet/sleet/Tenure" ∧ Fld Z h b "com/example/sleet/sleet/Tenure" "node" "I" (.int u_node) ∧ Fld Z h b "com/example/sleet/sleet/Tenure" "start" "J" (.long u_start) ∧ Fld Z h b "com/example/sleet/sleet/Tenure" "mark" "J" (.long x1)) := by
  refine Ctr.mk (plainFor_of_name pn_1) fun p e s m below meth c T0 X0 C e0 => go_cast (ef_rm4 m a x1) ?_
  have N0 := Fr.nil n0
  obtain ⟨hx, hZ, hby, hml, hown, hnm, hret, hlk⟩ := C
  obtain ⟨hI, eI⟩ : ∃ z, z = h0 := ⟨_, rfl⟩
  have K0 : Keep hI h0 [] := by rw [eI]; exact Keep.refl _ _
  show Go _ _ _ _ _ _ _ T0 (mkF m 0 #[.val (.ref a), .val (.long x1), .second] [])
  obtain ⟨T1, h1, X1, e1, E1, A1, D1, -, st1⟩ := newO X0 hx hZ hown (hw _ (List.mem_of_getElem? (i := 25) rfl)) (hw _ (List.mem_of_getElem? (i := 1) rfl)) (hw _ (List.mem_of_getElem? (i := 2) rfl)) e0 (g := (mkF m 0 #[.val (.ref a), .val (.long x1), .second] [])) rfl (hb hby d4_0) (by decide) (by decide)
  obtain ⟨b1, g1⟩ : ∃ z, z = h0.size := ⟨_, rfl⟩
  rw [← g1] at A1 D1 st1
  have ne_a_b1 : a ≠ b1 := Nat.ne_of_lt (Nat.lt_of_lt_of_le E_a.lt (Nat.le_of_eq g1.symm))
  have gn_b1 : n0 ≤ b1 := Nat.le_trans Z0 (Nat.le_of_eq g1.symm)
  have sz_b1 : hI.size ≤ b1 := Nat.le_trans K0.1 (Nat.le_of_eq g1.symm)
  have Z1 : n0 ≤ h1.size := Nat.le_trans Z0 E1.1
  have K1 : Keep hI h1 [] := K0.ext E1
  have F1_node : Fld Z h1 b1 "com/example/sleet/sleet/Tenure" "node" "I" (.int (0 : Int32)) := D1 (Or.inr (hw _ (List.mem_of_getElem? (i := 15) rfl))) (ty := .int) (by decide)
  have F1_start : Fld Z h1 b1 "com/example/sleet/sleet/Tenure" "start" "J" (.long (0 : Int64)) := D1 (Or.inr (hw _ (List.mem_of_getElem? (i := 17) rfl))) (ty := .long) (by decide)
  have F1_mark : Fld Z h1 b1 "com/example/sleet/sleet/Tenure" "mark" "J" (.long (0 : Int64)) := D1 (Or.inr (hw _ (List.mem_of_getElem? (i := 19) rfl))) (ty := .long) (by decide)
  refine Go.step (st1) ?_
  show Go _ _ _ _ _ _ _ T1 (mkF m 3 #[.val (.ref a), .val (.long x1), .second] [(.ref b1)])
  refine Go.step (fun t k => XS.dup X1.here hx rfl (hb hby d4_3) rfl rfl k) ?_
  show Go _ _ _ _ _ _ _ T1 (mkF m 4 #[.val (.ref a), .val (.long x1), .second] [(.ref b1), (.ref b1)])
  refine Go.step (fun t k => XS.aloadN X1.here hx rfl (hb hby d4_4) rfl rfl k) ?_
  show Go _ _ _ _ _ _ _ T1 (mkF m 5 #[.val (.ref a), .val (.long x1), .second] [(.ref a), (.ref b1), (.ref b1)])
  have f3 := (Fld.ext E1 F_0)
  obtain ⟨T2, X2, e2, st2⟩ := getF X1 hx hZ hown (host := "") (Or.inl (hw _ (List.mem_of_getElem? (i := 14) rfl))) Via.refl e1 f3 (g := (mkF m 5 #[.val (.ref a), .val (.long x1), .second] [(.ref a), (.ref b1), (.ref b1)])) rfl rfl (hb hby d4_5)
  refine Go.step (st2) ?_
  show Go _ _ _ _ _ _ _ T2 (mkF m 8 #[.val (.ref a), .val (.long x1), .second] [(.int u_node), (.ref b1), (.ref b1)])
  refine Go.step (fun t k => XS.aloadN X2.here hx rfl (hb hby d4_8) rfl rfl k) ?_
  show Go _ _ _ _ _ _ _ T2 (mkF m 9 #[.val (.ref a), .val (.long x1), .second] [(.ref a), (.int u_node), (.ref b1), (.ref b1)])
  have f5 := (Fld.ext E1 F_1)
  obtain ⟨T4, X4, e4, st4⟩ := getF X2 hx hZ hown (host := "") (Or.inl (hw _ (List.mem_of_getElem? (i := 16) rfl))) Via.refl e2 f5 (g := (mkF m 9 #[.val (.ref a), .val (.long x1), .second] [(.ref a), (.int u_node), (.ref b1), (.ref b1)])) rfl rfl (hb hby d4_9)
  refine Go.step (st4) ?_
  show Go _ _ _ _ _ _ _ T4 (mkF m 12 #[.val (.ref a), .val (.long x1), .second] [(.long u_start), (.int u_node), (.ref b1), (.ref b1)])
  refine Go.step (fun t k => XS.lloadN X4.here hx rfl (hb hby d4_12) rfl k) ?_
  show Go _ _ _ _ _ _ _ T4 (mkF m 13 #[.val (.ref a), .val (.long x1), .second] [(.long x1), (.long u_start), (.int u_node), (.ref b1), (.ref b1)])
  obtain ⟨v6, T6, L6, X6, q6, st6⟩ := c_init X4 hx hZ hown (y := (⟨"com/example/sleet/sleet/Tenure", "<init>", "(IJJ)V"⟩ : MethodName)) (hw _ (List.mem_of_getElem? (i := 26) rfl)) (hw _ (List.mem_of_getElem? (i := 4) rfl)) (hw _ (List.mem_of_getElem? (i := 2) rfl)) (hw _ (List.mem_of_getElem? (i := 5) rfl)) rfl (by decide) (a := b1) (argsL := [(.int u_node), (.long u_start), (.long x1)]) (rest := [(.ref b1)]) (rm1 l Z a0 hw [] b1 (u_node) (u_start) (x1) ((0 : Int32)) ((0 : Int64)) ((0 : Int64))  h1 n0 Z1 A1 F1_node F1_start F1_mark gn_b1 ) e4 pd_1 rfl (by rw [hml]; rfl) (W := 1) (by show 2 * 0 + _ ≤ _; exact Nat.le_of_eq rfl) (by decide) (by decide) (by decide) (by decide) (hb hby d4_13) (Ls := #[.val (.ref a), .val (.long x1), .second])
  generalize e6 : T6.heap = h6 at q6
  obtain ⟨rfl, N6q, K6q, E6q, F6q0, F6q1, F6q2⟩ := q6
  have N6 := Fr.app N0 N6q
  have Z6 : n0 ≤ h6.size := Nat.le_trans Z1 K6q.1
  have K6 : Keep hI h6 [] := K1.trans K6q (allS (Or.inr sz_b1) all0)
  refine Go.step (st6) ?_
  show Go _ _ _ _ _ _ _ T6 (mkF m 16 #[.val (.ref a), .val (.long x1), .second] [(.ref b1)])
  refine go_retA X6 hx (t := (.object "com/example/sleet/sleet/Tenure")) hret rfl hlk rfl (hb hby d4_16) ?_ (by decide) (by decide)
  try rw [e6]
  exact ⟨b1, rfl, N6, eI ▸ K6, eI ▸ sz_b1, E6q, F6q0, F6q1, F6q2⟩
theorem ef_rm0 (m : MethodId) (x0 : Int32) (x1 : Int64) (x2 : Int64) (x3 : Int64) : entryFrame m #[(.int x0), (.long x1), (.long x2), (.long x3)] maxLocals = mkF m 0 #[.val (.int x0), .val (.long x1), .second, .val (.long x2), .second, .val (.long x3), .second, .unset, .unset, .unset, .unset] [] := by first | (simp [entryFrame, mkF, argsToLocals, Value.category, maxLocals]; done) | rfl
theorem pn_2 : plainName "com/example/sleet/sleet/TenureMarkedPinLaw" = true := by first | (simp [plainName, overriddenIn]; done) | decide +kernel
theorem pd_2 : parseMethodDescriptor "(J)Lcom/example/sleet/sleet/Tenure;" = some ⟨[.long], some (.object "com/example/sleet/sleet/Tenure")⟩ := by decide +kernel
theorem pd_3 : parseMethodDescriptor "()I" = some ⟨[], some .int⟩ := by decide +kernel
theorem pd_4 : parseMethodDescriptor "()J" = some ⟨[], some .long⟩ := by decide +kernel
set_option maxRecDepth 65536 in
set_option maxHeartbeats 40000000 in
theorem rm0 (l : Launch) (Z : State) (a0 : Array Value) (hw : ∀ d ∈ tables_1, d.before a0 Z = true) (ws : List Jvm.Cond) (i0 : Int32) (i1 i2 i3 : Int64) (h0 : Heap) (n0 : Nat) (Z0 : n0 ≤ h0.size)  :
    Ctr l Z x code maxLocals ret ws room_1 16 128 #[(.int i0), (.long i1), (.long i2), (.long i3)] h0 (fun v h L => v = some (.int (1 : Int32)) ∧ Fr n0 L) := by
  refine Ctr.mk (plainFor_of_name pn_2) fun p e s m below meth c T0 X0 C e0 => go_cast (ef_rm0 m i0 i1 i2 i3) ?_
  have N0 := Fr.nil n0
  obtain ⟨hx, hZ, hby, hml, hown, hnm, hret, hlk⟩ := C
  show Go _ _ _ _ _ _ _ T0 (mkF m 0 #[.val (.int i0), .val (.long i1), .second, .val (.long i2), .second, .val (.long i3), .second, .unset, .unset, .unset, .unset] [])
  obtain ⟨T1, h1, X1, e1, E1, A1, D1, -, st1⟩ := newO X0 hx hZ hown (hw _ (List.mem_of_getElem? (i := 0) rfl)) (hw _ (List.mem_of_getElem? (i := 1) rfl)) (hw _ (List.mem_of_getElem? (i := 2) rfl)) e0 (g := (mkF m 0 #[.val (.int i0), .val (.long i1), .second, .val (.long i2), .second, .val (.long i3), .second, .unset, .unset, .unset, .unset] [])) rfl (hb hby at_0) (by decide) (by decide)
  obtain ⟨b1, g1⟩ : ∃ z, z = h0.size := ⟨_, rfl⟩
  rw [← g1] at A1 D1 st1
  have gn_b1 : n0 ≤ b1 := Nat.le_trans Z0 (Nat.le_of_eq g1.symm)
  have Z1 : n0 ≤ h1.size := Nat.le_trans Z0 E1.1
  have F1_node : Fld Z h1 b1 "com/example/sleet/sleet/Tenure" "node" "I" (.int (0 : Int32)) := D1 (Or.inr (hw _ (List.mem_of_getElem? (i := 15) rfl))) (ty := .int) (by decide)
  have F1_start : Fld Z h1 b1 "com/example/sleet/sleet/Tenure" "start" "J" (.long (0 : Int64)) := D1 (Or.inr (hw _ (List.mem_of_getElem? (i := 17) rfl))) (ty := .long) (by decide)
  have F1_mark : Fld Z h1 b1 "com/example/sleet/sleet/Tenure" "mark" "J" (.long (0 : Int64)) := D1 (Or.inr (hw _ (List.mem_of_getElem? (i := 19) rfl))) (ty := .long) (by decide)
  refine Go.step (st1) ?_
  show Go _ _ _ _ _ _ _ T1 (mkF m 3 #[.val (.int i0), .val (.long i1), .second, .val (.long i2), .second, .val (.long i3), .second, .unset, .unset, .unset, .unset] [(.ref b1)])
  refine Go.step (fun t k => XS.dup X1.here hx rfl (hb hby at_3) rfl rfl k) ?_
  show Go _ _ _ _ _ _ _ T1 (mkF m 4 #[.val (.int i0), .val (.long i1), .second, .val (.long i2), .second, .val (.long i3), .second, .unset, .unset, .unset, .unset] [(.ref b1), (.ref b1)])
  refine Go.step (fun t k => XS.iloadN X1.here hx rfl (hb hby at_4) rfl k) ?_
  show Go _ _ _ _ _ _ _ T1 (mkF m 5 #[.val (.int i0), .val (.long i1), .second, .val (.long i2), .second, .val (.long i3), .second, .unset, .unset, .unset, .unset] [(.int i0), (.ref b1), (.ref b1)])
  refine Go.step (fun t k => XS.lloadN X1.here hx rfl (hb hby at_5) rfl k) ?_
  show Go _ _ _ _ _ _ _ T1 (mkF m 6 #[.val (.int i0), .val (.long i1), .second, .val (.long i2), .second, .val (.long i3), .second, .unset, .unset, .unset, .unset] [(.long i1), (.int i0), (.ref b1), (.ref b1)])
  refine Go.step (fun t k => XS.lloadN X1.here hx rfl (hb hby at_6) rfl k) ?_
  show Go _ _ _ _ _ _ _ T1 (mkF m 7 #[.val (.int i0), .val (.long i1), .second, .val (.long i2), .second, .val (.long i3), .second, .unset, .unset, .unset, .unset] [(.long i2), (.long i1), (.int i0), (.ref b1), (.ref b1)])
  obtain ⟨v2, T2, L2, X2, q2, st2⟩ := c_init X1 hx hZ hown (y := (⟨"com/example/sleet/sleet/Tenure", "<init>", "(IJJ)V"⟩ : MethodName)) (hw _ (List.mem_of_getElem? (i := 3) rfl)) (hw _ (List.mem_of_getElem? (i := 4) rfl)) (hw _ (List.mem_of_getElem? (i := 2) rfl)) (hw _ (List.mem_of_getElem? (i := 5) rfl)) rfl (by decide) (a := b1) (argsL := [(.int i0), (.long i1), (.long i2)]) (rest := [(.ref b1)]) (rm1 l Z a0 hw [] b1 (i0) (i1) (i2) ((0 : Int32)) ((0 : Int64)) ((0 : Int64))  h1 n0 Z1 A1 F1_node F1_start F1_mark gn_b1 ) e1 pd_1 rfl (by rw [hml]; rfl) (W := 1) (by show 2 * 0 + _ ≤ _; exact Nat.le_of_eq rfl) (by decide) (by decide) (by decide) (by decide) (hb hby at_7) (Ls := #[.val (.int i0), .val (.long i1), .second, .val (.long i2), .second, .val (.long i3), .second, .unset, .unset, .unset, .unset])
  generalize e2 : T2.heap = h2 at q2
  obtain ⟨rfl, N2q, K2q, E2q, F2q0, F2q1, F2q2⟩ := q2
  have N2 := Fr.app N0 N2q
  have Z2 : n0 ≤ h2.size := Nat.le_trans Z1 K2q.1
  refine Go.step (st2) ?_
  show Go _ _ _ _ _ _ _ T2 (mkF m 10 #[.val (.int i0), .val (.long i1), .second, .val (.long i2), .second, .val (.long i3), .second, .unset, .unset, .unset, .unset] [(.ref b1)])
  refine Go.step (fun t k => XS.astore X2.here hx rfl (hb hby at_10) rfl rfl (l' := #[.val (.int i0), .val (.long i1), .second, .val (.long i2), .second, .val (.long i3), .second, .val (.ref b1), .unset, .unset, .unset]) rfl k) ?_
  show Go _ _ _ _ _ _ _ T2 (mkF m 12 #[.val (.int i0), .val (.long i1), .second, .val (.long i2), .second, .val (.long i3), .second, .val (.ref b1), .unset, .unset, .unset] [])
  refine Go.step (fun t k => XS.aload X2.here hx rfl (hb hby at_12) rfl rfl k) ?_
  show Go _ _ _ _ _ _ _ T2 (mkF m 14 #[.val (.int i0), .val (.long i1), .second, .val (.long i2), .second, .val (.long i3), .second, .val (.ref b1), .unset, .unset, .unset] [(.ref b1)])
  refine Go.step (fun t k => XS.lload X2.here hx rfl (hb hby at_14) rfl k) ?_
  show Go _ _ _ _ _ _ _ T2 (mkF m 16 #[.val (.int i0), .val (.long i1), .second, .val (.long i2), .second, .val (.long i3), .second, .val (.ref b1), .unset, .unset, .unset] [(.long i3), (.ref b1)])
  obtain ⟨v3, T3, L3, X3, q3, st3⟩ := c_virt X2 hx hZ hown (y' := (⟨"com/example/sleet/sleet/Tenure", "marked", "(J)Lcom/example/sleet/sleet/Tenure;"⟩ : MethodName)) (y := (⟨"com/example/sleet/sleet/Tenure", "marked", "(J)Lcom/example/sleet/sleet/Tenure;"⟩ : MethodName)) (C := "com/example/sleet/sleet/Tenure") (hw _ (List.mem_of_getElem? (i := 20) rfl)) (hw _ (List.mem_of_getElem? (i := 21) rfl)) (notFace_of_selects (args := #[]) (mvT hZ (hw _ (List.mem_of_getElem? (i := 23) rfl)))) (hw _ (List.mem_of_getElem? (i := 23) rfl)) (hw _ (List.mem_of_getElem? (i := 22) rfl)) (hw _ (List.mem_of_getElem? (i := 2) rfl)) (hw _ (List.mem_of_getElem? (i := 24) rfl)) (by decide) (a := b1) (argsL := [(.long i3)]) (rest := []) (rm4 l Z a0 hw [] b1 i3 i0 i1 i2 h2 n0 Z2 E2q F2q0 F2q1 F2q2) e2 E2q pd_2 rfl (by rw [hml]; rfl) (W := 0) (by show 2 * 0 + _ ≤ _; exact Nat.le_of_eq rfl) (by decide) (by decide) (by decide) (by decide) (hb hby at_16) (Ls := #[.val (.int i0), .val (.long i1), .second, .val (.long i2), .second, .val (.long i3), .second, .val (.ref b1), .unset, .unset, .unset])
  generalize e3 : T3.heap = h3 at q3
  obtain ⟨b3, rfl, N3q, K3q, sz3, E3q, F3q0, F3q1, F3q2⟩ := q3
  have N3 := Fr.app N2 N3q
  have ne_b1_b3 : b1 ≠ b3 := Nat.ne_of_lt (Nat.lt_of_lt_of_le E2q.lt sz3)
  have gn_b3 : n0 ≤ b3 := Nat.le_trans Z2 sz3
  have Z3 : n0 ≤ h3.size := Nat.le_trans Z2 K3q.1
  refine Go.step (st3) ?_
  show Go _ _ _ _ _ _ _ T3 (mkF m 19 #[.val (.int i0), .val (.long i1), .second, .val (.long i2), .second, .val (.long i3), .second, .val (.ref b1), .unset, .unset, .unset] [(.ref b3)])
  refine Go.step (fun t k => XS.astore X3.here hx rfl (hb hby at_19) rfl rfl (l' := #[.val (.int i0), .val (.long i1), .second, .val (.long i2), .second, .val (.long i3), .second, .val (.ref b1), .val (.ref b3), .unset, .unset]) rfl k) ?_
  show Go _ _ _ _ _ _ _ T3 (mkF m 21 #[.val (.int i0), .val (.long i1), .second, .val (.long i2), .second, .val (.long i3), .second, .val (.ref b1), .val (.ref b3), .unset, .unset] [])
  refine Go.step (fun t k => XS.aload X3.here hx rfl (hb hby at_21) rfl rfl k) ?_
  show Go _ _ _ _ _ _ _ T3 (mkF m 23 #[.val (.int i0), .val (.long i1), .second, .val (.long i2), .second, .val (.long i3), .second, .val (.ref b1), .val (.ref b3), .unset, .unset] [(.ref b3)])
  obtain ⟨v4, T4, L4, X4, q4, st4⟩ := c_virt X3 hx hZ hown (y' := (⟨"com/example/sleet/sleet/Tenure", "node", "()I"⟩ : MethodName)) (y := (⟨"com/example/sleet/sleet/Tenure", "node", "()I"⟩ : MethodName)) (C := "com/example/sleet/sleet/Tenure") (hw _ (List.mem_of_getElem? (i := 27) rfl)) (hw _ (List.mem_of_getElem? (i := 28) rfl)) (notFace_of_selects (args := #[]) (mvT hZ (hw _ (List.mem_of_getElem? (i := 30) rfl)))) (hw _ (List.mem_of_getElem? (i := 30) rfl)) (hw _ (List.mem_of_getElem? (i := 29) rfl)) (hw _ (List.mem_of_getElem? (i := 2) rfl)) (hw _ (List.mem_of_getElem? (i := 31) rfl)) (by decide) (a := b3) (argsL := []) (rest := []) (rm5 l Z a0 hw [] b3  (i0) (i1) (i3)  h3 n0 Z3 E3q F3q0 F3q1 F3q2  ) e3 E3q pd_3 rfl (by rw [hml]; rfl) (W := 0) (by show 2 * 0 + _ ≤ _; exact Nat.le_of_eq rfl) (by decide) (by decide) (by decide) (by decide) (hb hby at_23) (Ls := #[.val (.int i0), .val (.long i1), .second, .val (.long i2), .second, .val (.long i3), .second, .val (.ref b1), .val (.ref b3), .unset, .unset])
  obtain ⟨rfl, rfl, e4⟩ := q4
  have N4 := Fr.app N3 (Fr.nil n0)
  refine Go.step (st4) ?_
  show Go _ _ _ _ _ _ _ T4 (mkF m 26 #[.val (.int i0), .val (.long i1), .second, .val (.long i2), .second, .val (.long i3), .second, .val (.ref b1), .val (.ref b3), .unset, .unset] [(.int i0)])
  refine Go.step (fun t k => XS.iloadN X4.here hx rfl (hb hby at_26) rfl k) ?_
  show Go _ _ _ _ _ _ _ T4 (mkF m 27 #[.val (.int i0), .val (.long i1), .second, .val (.long i2), .second, .val (.long i3), .second, .val (.ref b1), .val (.ref b3), .unset, .unset] [(.int i0), (.int i0)])
  refine Go.step (fun t k => XS.icmpNo X4.here hx rfl (hb hby at_27) rfl (teq rfl).2 k) ?_
  show Go _ _ _ _ _ _ _ T4 (mkF m 30 #[.val (.int i0), .val (.long i1), .second, .val (.long i2), .second, .val (.long i3), .second, .val (.ref b1), .val (.ref b3), .unset, .unset] [])
  refine Go.step (fun t k => XS.aload X4.here hx rfl (hb hby at_30) rfl rfl k) ?_
  show Go _ _ _ _ _ _ _ T4 (mkF m 32 #[.val (.int i0), .val (.long i1), .second, .val (.long i2), .second, .val (.long i3), .second, .val (.ref b1), .val (.ref b3), .unset, .unset] [(.ref b3)])
  obtain ⟨v5, T5, L5, X5, q5, st5⟩ := c_virt X4 hx hZ hown (y' := (⟨"com/example/sleet/sleet/Tenure", "start", "()J"⟩ : MethodName)) (y := (⟨"com/example/sleet/sleet/Tenure", "start", "()J"⟩ : MethodName)) (C := "com/example/sleet/sleet/Tenure") (hw _ (List.mem_of_getElem? (i := 32) rfl)) (hw _ (List.mem_of_getElem? (i := 33) rfl)) (notFace_of_selects (args := #[]) (mvT hZ (hw _ (List.mem_of_getElem? (i := 35) rfl)))) (hw _ (List.mem_of_getElem? (i := 35) rfl)) (hw _ (List.mem_of_getElem? (i := 34) rfl)) (hw _ (List.mem_of_getElem? (i := 2) rfl)) (hw _ (List.mem_of_getElem? (i := 36) rfl)) (by decide) (a := b3) (argsL := []) (rest := []) (rm6 l Z a0 hw [] b3  (i0) (i1) (i3)  h3 n0 Z3 E3q F3q0 F3q1 F3q2  ) e4 E3q pd_4 rfl (by rw [hml]; rfl) (W := 0) (by show 2 * 0 + _ ≤ _; exact Nat.le_of_eq rfl) (by decide) (by decide) (by decide) (by decide) (hb hby at_32) (Ls := #[.val (.int i0), .val (.long i1), .second, .val (.long i2), .second, .val (.long i3), .second, .val (.ref b1), .val (.ref b3), .unset, .unset])
  obtain ⟨rfl, rfl, e5⟩ := q5
  have N5 := Fr.app N4 (Fr.nil n0)
  refine Go.step (st5) ?_
  show Go _ _ _ _ _ _ _ T5 (mkF m 35 #[.val (.int i0), .val (.long i1), .second, .val (.long i2), .second, .val (.long i3), .second, .val (.ref b1), .val (.ref b3), .unset, .unset] [(.long i1)])
  refine Go.step (fun t k => XS.lloadN X5.here hx rfl (hb hby at_35) rfl k) ?_
  show Go _ _ _ _ _ _ _ T5 (mkF m 36 #[.val (.int i0), .val (.long i1), .second, .val (.long i2), .second, .val (.long i3), .second, .val (.ref b1), .val (.ref b3), .unset, .unset] [(.long i1), (.long i1)])
  refine Go.step (fun t k => XS.lcmp X5.here hx rfl (hb hby at_36) rfl k) ?_
  show Go _ _ _ _ _ _ _ T5 (mkF m 37 #[.val (.int i0), .val (.long i1), .second, .val (.long i2), .second, .val (.long i3), .second, .val (.ref b1), .val (.ref b3), .unset, .unset] [(.int (lcmpW i1 i1))])
  refine Go.step (fun t k => XS.ifNo X5.here hx rfl (hb hby at_37) rfl ((if0 _ _).trans (teq ((lw_eq _ _).mpr rfl)).2) k) ?_
  show Go _ _ _ _ _ _ _ T5 (mkF m 40 #[.val (.int i0), .val (.long i1), .second, .val (.long i2), .second, .val (.long i3), .second, .val (.ref b1), .val (.ref b3), .unset, .unset] [])
  refine Go.step (fun t k => XS.aload X5.here hx rfl (hb hby at_40) rfl rfl k) ?_
  show Go _ _ _ _ _ _ _ T5 (mkF m 42 #[.val (.int i0), .val (.long i1), .second, .val (.long i2), .second, .val (.long i3), .second, .val (.ref b1), .val (.ref b3), .unset, .unset] [(.ref b3)])
  obtain ⟨v6, T6, L6, X6, q6, st6⟩ := c_virt X5 hx hZ hown (y' := (⟨"com/example/sleet/sleet/Tenure", "mark", "()J"⟩ : MethodName)) (y := (⟨"com/example/sleet/sleet/Tenure", "mark", "()J"⟩ : MethodName)) (C := "com/example/sleet/sleet/Tenure") (hw _ (List.mem_of_getElem? (i := 37) rfl)) (hw _ (List.mem_of_getElem? (i := 38) rfl)) (notFace_of_selects (args := #[]) (mvT hZ (hw _ (List.mem_of_getElem? (i := 40) rfl)))) (hw _ (List.mem_of_getElem? (i := 40) rfl)) (hw _ (List.mem_of_getElem? (i := 39) rfl)) (hw _ (List.mem_of_getElem? (i := 2) rfl)) (hw _ (List.mem_of_getElem? (i := 41) rfl)) (by decide) (a := b3) (argsL := []) (rest := []) (rm7 l Z a0 hw [] b3  (i0) (i1) (i3)  h3 n0 Z3 E3q F3q0 F3q1 F3q2  ) e5 E3q pd_4 rfl (by rw [hml]; rfl) (W := 0) (by show 2 * 0 + _ ≤ _; exact Nat.le_of_eq rfl) (by decide) (by decide) (by decide) (by decide) (hb hby at_42) (Ls := #[.val (.int i0), .val (.long i1), .second, .val (.long i2), .second, .val (.long i3), .second, .val (.ref b1), .val (.ref b3), .unset, .unset])
  obtain ⟨rfl, rfl, e6⟩ := q6
  have N6 := Fr.app N5 (Fr.nil n0)
  refine Go.step (st6) ?_
  show Go _ _ _ _ _ _ _ T6 (mkF m 45 #[.val (.int i0), .val (.long i1), .second, .val (.long i2), .second, .val (.long i3), .second, .val (.ref b1), .val (.ref b3), .unset, .unset] [(.long i3)])
  refine Go.step (fun t k => XS.lload X6.here hx rfl (hb hby at_45) rfl k) ?_
  show Go _ _ _ _ _ _ _ T6 (mkF m 47 #[.val (.int i0), .val (.long i1), .second, .val (.long i2), .second, .val (.long i3), .second, .val (.ref b1), .val (.ref b3), .unset, .unset] [(.long i3), (.long i3)])
  refine Go.step (fun t k => XS.lcmp X6.here hx rfl (hb hby at_47) rfl k) ?_
  show Go _ _ _ _ _ _ _ T6 (mkF m 48 #[.val (.int i0), .val (.long i1), .second, .val (.long i2), .second, .val (.long i3), .second, .val (.ref b1), .val (.ref b3), .unset, .unset] [(.int (lcmpW i3 i3))])
  refine Go.step (fun t k => XS.ifNo X6.here hx rfl (hb hby at_48) rfl ((if0 _ _).trans (teq ((lw_eq _ _).mpr rfl)).2) k) ?_
  show Go _ _ _ _ _ _ _ T6 (mkF m 51 #[.val (.int i0), .val (.long i1), .second, .val (.long i2), .second, .val (.long i3), .second, .val (.ref b1), .val (.ref b3), .unset, .unset] [])
  refine Go.step (fun t k => XS.iconst X6.here hx rfl (hb hby at_51) k) ?_
  show Go _ _ _ _ _ _ _ T6 (mkF m 52 #[.val (.int i0), .val (.long i1), .second, .val (.long i2), .second, .val (.long i3), .second, .val (.ref b1), .val (.ref b3), .unset, .unset] [(.int (1 : Int32))])
  refine Go.step (fun t k => XS.goto X6.here hx rfl (pc0 := 52) (pc' := 56) rfl (hb hby at_52) (by decide) (by decide) k) ?_
  show Go _ _ _ _ _ _ _ T6 (mkF m 56 #[.val (.int i0), .val (.long i1), .second, .val (.long i2), .second, .val (.long i3), .second, .val (.ref b1), .val (.ref b3), .unset, .unset] [(.int (1 : Int32))])
  refine Go.step (fun t k => XS.istore X6.here hx rfl (hb hby at_56) rfl (l' := #[.val (.int i0), .val (.long i1), .second, .val (.long i2), .second, .val (.long i3), .second, .val (.ref b1), .val (.ref b3), .val (.int (1 : Int32)), .unset]) rfl k) ?_
  show Go _ _ _ _ _ _ _ T6 (mkF m 58 #[.val (.int i0), .val (.long i1), .second, .val (.long i2), .second, .val (.long i3), .second, .val (.ref b1), .val (.ref b3), .val (.int (1 : Int32)), .unset] [])
  refine Go.step (fun t k => XS.aload X6.here hx rfl (hb hby at_58) rfl rfl k) ?_
  show Go _ _ _ _ _ _ _ T6 (mkF m 60 #[.val (.int i0), .val (.long i1), .second, .val (.long i2), .second, .val (.long i3), .second, .val (.ref b1), .val (.ref b3), .val (.int (1 : Int32)), .unset] [(.ref b1)])
  have f8 := (E2q.keep K3q)
  have f9 := (F2q0.keep K3q nin0)
  have f10 := (F2q1.keep K3q nin0)
  have f11 := (F2q2.keep K3q nin0)
  obtain ⟨v7, T7, L7, X7, q7, st7⟩ := c_virt X6 hx hZ hown (y' := (⟨"com/example/sleet/sleet/Tenure", "node", "()I"⟩ : MethodName)) (y := (⟨"com/example/sleet/sleet/Tenure", "node", "()I"⟩ : MethodName)) (C := "com/example/sleet/sleet/Tenure") (hw _ (List.mem_of_getElem? (i := 27) rfl)) (hw _ (List.mem_of_getElem? (i := 28) rfl)) (notFace_of_selects (args := #[]) (mvT hZ (hw _ (List.mem_of_getElem? (i := 30) rfl)))) (hw _ (List.mem_of_getElem? (i := 30) rfl)) (hw _ (List.mem_of_getElem? (i := 29) rfl)) (hw _ (List.mem_of_getElem? (i := 2) rfl)) (hw _ (List.mem_of_getElem? (i := 31) rfl)) (by decide) (a := b1) (argsL := []) (rest := []) (rm5 l Z a0 hw [] b1  (i0) (i1) (i2)  h3 n0 Z3 f8 f9 f10 f11  ) e6 f8 pd_3 rfl (by rw [hml]; rfl) (W := 0) (by show 2 * 0 + _ ≤ _; exact Nat.le_of_eq rfl) (by decide) (by decide) (by decide) (by decide) (hb hby at_60) (Ls := #[.val (.int i0), .val (.long i1), .second, .val (.long i2), .second, .val (.long i3), .second, .val (.ref b1), .val (.ref b3), .val (.int (1 : Int32)), .unset])
  obtain ⟨rfl, rfl, e7⟩ := q7
  have N7 := Fr.app N6 (Fr.nil n0)
  refine Go.step (st7) ?_
  show Go _ _ _ _ _ _ _ T7 (mkF m 63 #[.val (.int i0), .val (.long i1), .second, .val (.long i2), .second, .val (.long i3), .second, .val (.ref b1), .val (.ref b3), .val (.int (1 : Int32)), .unset] [(.int i0)])
  refine Go.step (fun t k => XS.iloadN X7.here hx rfl (hb hby at_63) rfl k) ?_
  show Go _ _ _ _ _ _ _ T7 (mkF m 64 #[.val (.int i0), .val (.long i1), .second, .val (.long i2), .second, .val (.long i3), .second, .val (.ref b1), .val (.ref b3), .val (.int (1 : Int32)), .unset] [(.int i0), (.int i0)])
  refine Go.step (fun t k => XS.icmpNo X7.here hx rfl (hb hby at_64) rfl (teq rfl).2 k) ?_
  show Go _ _ _ _ _ _ _ T7 (mkF m 67 #[.val (.int i0), .val (.long i1), .second, .val (.long i2), .second, .val (.long i3), .second, .val (.ref b1), .val (.ref b3), .val (.int (1 : Int32)), .unset] [])
  refine Go.step (fun t k => XS.aload X7.here hx rfl (hb hby at_67) rfl rfl k) ?_
  show Go _ _ _ _ _ _ _ T7 (mkF m 69 #[.val (.int i0), .val (.long i1), .second, .val (.long i2), .second, .val (.long i3), .second, .val (.ref b1), .val (.ref b3), .val (.int (1 : Int32)), .unset] [(.ref b1)])
  obtain ⟨v12, T12, L12, X12, q12, st12⟩ := c_virt X7 hx hZ hown (y' := (⟨"com/example/sleet/sleet/Tenure", "start", "()J"⟩ : MethodName)) (y := (⟨"com/example/sleet/sleet/Tenure", "start", "()J"⟩ : MethodName)) (C := "com/example/sleet/sleet/Tenure") (hw _ (List.mem_of_getElem? (i := 32) rfl)) (hw _ (List.mem_of_getElem? (i := 33) rfl)) (notFace_of_selects (args := #[]) (mvT hZ (hw _ (List.mem_of_getElem? (i := 35) rfl)))) (hw _ (List.mem_of_getElem? (i := 35) rfl)) (hw _ (List.mem_of_getElem? (i := 34) rfl)) (hw _ (List.mem_of_getElem? (i := 2) rfl)) (hw _ (List.mem_of_getElem? (i := 36) rfl)) (by decide) (a := b1) (argsL := []) (rest := []) (rm6 l Z a0 hw [] b1  (i0) (i1) (i2)  h3 n0 Z3 f8 f9 f10 f11  ) e7 f8 pd_4 rfl (by rw [hml]; rfl) (W := 0) (by show 2 * 0 + _ ≤ _; exact Nat.le_of_eq rfl) (by decide) (by decide) (by decide) (by decide) (hb hby at_69) (Ls := #[.val (.int i0), .val (.long i1), .second, .val (.long i2), .second, .val (.long i3), .second, .val (.ref b1), .val (.ref b3), .val (.int (1 : Int32)), .unset])
  obtain ⟨rfl, rfl, e12⟩ := q12
  have N12 := Fr.app N7 (Fr.nil n0)
  refine Go.step (st12) ?_
  show Go _ _ _ _ _ _ _ T12 (mkF m 72 #[.val (.int i0), .val (.long i1), .second, .val (.long i2), .second, .val (.long i3), .second, .val (.ref b1), .val (.ref b3), .val (.int (1 : Int32)), .unset] [(.long i1)])
  refine Go.step (fun t k => XS.lloadN X12.here hx rfl (hb hby at_72) rfl k) ?_
  show Go _ _ _ _ _ _ _ T12 (mkF m 73 #[.val (.int i0), .val (.long i1), .second, .val (.long i2), .second, .val (.long i3), .second, .val (.ref b1), .val (.ref b3), .val (.int (1 : Int32)), .unset] [(.long i1), (.long i1)])
  refine Go.step (fun t k => XS.lcmp X12.here hx rfl (hb hby at_73) rfl k) ?_
  show Go _ _ _ _ _ _ _ T12 (mkF m 74 #[.val (.int i0), .val (.long i1), .second, .val (.long i2), .second, .val (.long i3), .second, .val (.ref b1), .val (.ref b3), .val (.int (1 : Int32)), .unset] [(.int (lcmpW i1 i1))])
  refine Go.step (fun t k => XS.ifNo X12.here hx rfl (hb hby at_74) rfl ((if0 _ _).trans (teq ((lw_eq _ _).mpr rfl)).2) k) ?_
  show Go _ _ _ _ _ _ _ T12 (mkF m 77 #[.val (.int i0), .val (.long i1), .second, .val (.long i2), .second, .val (.long i3), .second, .val (.ref b1), .val (.ref b3), .val (.int (1 : Int32)), .unset] [])
  refine Go.step (fun t k => XS.aload X12.here hx rfl (hb hby at_77) rfl rfl k) ?_
  show Go _ _ _ _ _ _ _ T12 (mkF m 79 #[.val (.int i0), .val (.long i1), .second, .val (.long i2), .second, .val (.long i3), .second, .val (.ref b1), .val (.ref b3), .val (.int (1 : Int32)), .unset] [(.ref b1)])
  obtain ⟨v13, T13, L13, X13, q13, st13⟩ := c_virt X12 hx hZ hown (y' := (⟨"com/example/sleet/sleet/Tenure", "mark", "()J"⟩ : MethodName)) (y := (⟨"com/example/sleet/sleet/Tenure", "mark", "()J"⟩ : MethodName)) (C := "com/example/sleet/sleet/Tenure") (hw _ (List.mem_of_getElem? (i := 37) rfl)) (hw _ (List.mem_of_getElem? (i := 38) rfl)) (notFace_of_selects (args := #[]) (mvT hZ (hw _ (List.mem_of_getElem? (i := 40) rfl)))) (hw _ (List.mem_of_getElem? (i := 40) rfl)) (hw _ (List.mem_of_getElem? (i := 39) rfl)) (hw _ (List.mem_of_getElem? (i := 2) rfl)) (hw _ (List.mem_of_getElem? (i := 41) rfl)) (by decide) (a := b1) (argsL := []) (rest := []) (rm7 l Z a0 hw [] b1  (i0) (i1) (i2)  h3 n0 Z3 f8 f9 f10 f11  ) e12 f8 pd_4 rfl (by rw [hml]; rfl) (W := 0) (by show 2 * 0 + _ ≤ _; exact Nat.le_of_eq rfl) (by decide) (by decide) (by decide) (by decide) (hb hby at_79) (Ls := #[.val (.int i0), .val (.long i1), .second, .val (.long i2), .second, .val (.long i3), .second, .val (.ref b1), .val (.ref b3), .val (.int (1 : Int32)), .unset])
  obtain ⟨rfl, rfl, e13⟩ := q13
  have N13 := Fr.app N12 (Fr.nil n0)
  refine Go.step (st13) ?_
  show Go _ _ _ _ _ _ _ T13 (mkF m 82 #[.val (.int i0), .val (.long i1), .second, .val (.long i2), .second, .val (.long i3), .second, .val (.ref b1), .val (.ref b3), .val (.int (1 : Int32)), .unset] [(.long i2)])
  refine Go.step (fun t k => XS.lloadN X13.here hx rfl (hb hby at_82) rfl k) ?_
  show Go _ _ _ _ _ _ _ T13 (mkF m 83 #[.val (.int i0), .val (.long i1), .second, .val (.long i2), .second, .val (.long i3), .second, .val (.ref b1), .val (.ref b3), .val (.int (1 : Int32)), .unset] [(.long i2), (.long i2)])
  refine Go.step (fun t k => XS.lcmp X13.here hx rfl (hb hby at_83) rfl k) ?_
  show Go _ _ _ _ _ _ _ T13 (mkF m 84 #[.val (.int i0), .val (.long i1), .second, .val (.long i2), .second, .val (.long i3), .second, .val (.ref b1), .val (.ref b3), .val (.int (1 : Int32)), .unset] [(.int (lcmpW i2 i2))])
  refine Go.step (fun t k => XS.ifNo X13.here hx rfl (hb hby at_84) rfl ((if0 _ _).trans (teq ((lw_eq _ _).mpr rfl)).2) k) ?_
  show Go _ _ _ _ _ _ _ T13 (mkF m 87 #[.val (.int i0), .val (.long i1), .second, .val (.long i2), .second, .val (.long i3), .second, .val (.ref b1), .val (.ref b3), .val (.int (1 : Int32)), .unset] [])
  refine Go.step (fun t k => XS.iconst X13.here hx rfl (hb hby at_87) k) ?_
  show Go _ _ _ _ _ _ _ T13 (mkF m 88 #[.val (.int i0), .val (.long i1), .second, .val (.long i2), .second, .val (.long i3), .second, .val (.ref b1), .val (.ref b3), .val (.int (1 : Int32)), .unset] [(.int (1 : Int32))])
  refine Go.step (fun t k => XS.goto X13.here hx rfl (pc0 := 88) (pc' := 92) rfl (hb hby at_88) (by decide) (by decide) k) ?_
  show Go _ _ _ _ _ _ _ T13 (mkF m 92 #[.val (.int i0), .val (.long i1), .second, .val (.long i2), .second, .val (.long i3), .second, .val (.ref b1), .val (.ref b3), .val (.int (1 : Int32)), .unset] [(.int (1 : Int32))])
  refine Go.step (fun t k => XS.istore X13.here hx rfl (hb hby at_92) rfl (l' := #[.val (.int i0), .val (.long i1), .second, .val (.long i2), .second, .val (.long i3), .second, .val (.ref b1), .val (.ref b3), .val (.int (1 : Int32)), .val (.int (1 : Int32))]) rfl k) ?_
  show Go _ _ _ _ _ _ _ T13 (mkF m 94 #[.val (.int i0), .val (.long i1), .second, .val (.long i2), .second, .val (.long i3), .second, .val (.ref b1), .val (.ref b3), .val (.int (1 : Int32)), .val (.int (1 : Int32))] [])
  refine Go.step (fun t k => XS.iload X13.here hx rfl (hb hby at_94) rfl k) ?_
  show Go _ _ _ _ _ _ _ T13 (mkF m 96 #[.val (.int i0), .val (.long i1), .second, .val (.long i2), .second, .val (.long i3), .second, .val (.ref b1), .val (.ref b3), .val (.int (1 : Int32)), .val (.int (1 : Int32))] [(.int (1 : Int32))])
  refine Go.step (fun t k => XS.ifNo X13.here hx rfl (hb hby at_96) rfl ((if0 _ _).trans (feq (by decide)).1) k) ?_
  show Go _ _ _ _ _ _ _ T13 (mkF m 99 #[.val (.int i0), .val (.long i1), .second, .val (.long i2), .second, .val (.long i3), .second, .val (.ref b1), .val (.ref b3), .val (.int (1 : Int32)), .val (.int (1 : Int32))] [])
  refine Go.step (fun t k => XS.iload X13.here hx rfl (hb hby at_99) rfl k) ?_
  show Go _ _ _ _ _ _ _ T13 (mkF m 101 #[.val (.int i0), .val (.long i1), .second, .val (.long i2), .second, .val (.long i3), .second, .val (.ref b1), .val (.ref b3), .val (.int (1 : Int32)), .val (.int (1 : Int32))] [(.int (1 : Int32))])
  refine Go.step (fun t k => XS.ifNo X13.here hx rfl (hb hby at_101) rfl ((if0 _ _).trans (feq (by decide)).1) k) ?_
  show Go _ _ _ _ _ _ _ T13 (mkF m 104 #[.val (.int i0), .val (.long i1), .second, .val (.long i2), .second, .val (.long i3), .second, .val (.ref b1), .val (.ref b3), .val (.int (1 : Int32)), .val (.int (1 : Int32))] [])
  refine Go.step (fun t k => XS.iconst X13.here hx rfl (hb hby at_104) k) ?_
  show Go _ _ _ _ _ _ _ T13 (mkF m 105 #[.val (.int i0), .val (.long i1), .second, .val (.long i2), .second, .val (.long i3), .second, .val (.ref b1), .val (.ref b3), .val (.int (1 : Int32)), .val (.int (1 : Int32))] [(.int (1 : Int32))])
  refine Go.step (fun t k => XS.goto X13.here hx rfl (pc0 := 105) (pc' := 109) rfl (hb hby at_105) (by decide) (by decide) k) ?_
  show Go _ _ _ _ _ _ _ T13 (mkF m 109 #[.val (.int i0), .val (.long i1), .second, .val (.long i2), .second, .val (.long i3), .second, .val (.ref b1), .val (.ref b3), .val (.int (1 : Int32)), .val (.int (1 : Int32))] [(.int (1 : Int32))])
  refine go_retN X13 hx (t := .boolean) hret (by simp) hlk (hb hby at_109) (w := (1 : Int32)) rfl ?_ (by decide) (by decide)
  try rw [e13]
  exact ⟨rfl, N13⟩
set_option maxRecDepth 65536 in
set_option maxHeartbeats 40000000 in
theorem comes_1 {Post : Tables → Env → Array Value → State → Outcome → State → Prop} (hpost : ∀ tb e args s v u, (limb_1_1.after args s (.returned v) u = true ∧ limb_1_2.after args s (.returned v) u = true ∧ True) → FrameEnd s (.returned v) u (Jvm.fieldLocs frame_1_writes args s ++ Jvm.arrayLocs frame_1_arrays args s ++ Jvm.staticLocs frame_1_statics s) 16 128 → Post tb e args s (.returned v) u) :
    ArmFor flags0 classFile x code maxLocals ret World_1 tables_1 room_1 Calls_1 rest_1 Pre_1 Post := by
  intro l hfl _ _ p e ha hc hk s m args below hf hA hF happ hP
  obtain ⟨hcalls, hrest, hpre⟩ := hP
  obtain ⟨-, -, -, hnamed, -, -, -, hat⟩ := (Spec.applies_iff hf).mp happ
  obtain ⟨hg, hn⟩ := and_e (Cond.before_iff.mp (show (Jvm.Cond.and given_1 narrow_1).before args s = true from hpre))
  obtain ⟨hcnt, hg1⟩ := and_e hg
  obtain ⟨ha0, hg2⟩ := and_e hg1
  obtain ⟨ha1, hg3⟩ := and_e hg2
  obtain ⟨ha2, hg4⟩ := and_e hg3
  obtain ⟨w0, w1, w2, w3, rfl⟩ : ∃ w0 w1 w2 w3 : Value, args = #[w0, w1, w2, w3] := by
    have hs : args.size = 4 := by simpa [Cond.value, given_1] using hcnt
    obtain ⟨L⟩ := args
    match L, hs with
    | [w0, w1, w2, w3], _ => exact ⟨w0, w1, w2, w3, rfl⟩
  have hw := fun d (hd : d ∈ tables_1) => atoms_spec (ws := Jvm.Cond.code x code maxLocals ret :: tables_1) hat d (List.mem_cons_of_mem _ hd)
  have hfit : Fit s := fun {y c} hc i hi => by
    obtain ⟨ha, rfl⟩ := Array.getElem?_eq_some_iff.mp hc
    have q := List.all_eq_true.mp ((Array.all_eq_true_iff_forall_mem.mp hF) _ (Array.getElem_mem ha)) i (List.mem_range.mpr hi)
    simpa [Array.getElem?_eq_getElem hi] using q
  obtain ⟨i0, ei0⟩ := is_v ha0
  obtain rfl : w0 = (.int i0) := Option.some.inj ei0
  obtain ⟨i1, ei1⟩ := isL_v ha1
  obtain rfl : w1 = (.long i1) := Option.some.inj ei1
  obtain ⟨i2, ei2⟩ := isL_v ha2
  obtain rfl : w2 = (.long i2) := Option.some.inj ei2
  obtain ⟨i3, ei3⟩ := isL_v hg4
  obtain rfl : w3 = (.long i3) := Option.some.inj ei3
  obtain ⟨n, o, h1, h2, h3, _, L, rfl, ⟨rfl, N⟩, hq⟩ := rm0 l s _ hw tables_1 i0 i1 i2 i3 s.heap s.heap.size (Nat.le_refl _)  p e ha hc hk s m _ below hf ((Spec.applies_iff_loose hf).mp happ).1 ⟨rfl, State.Warmed39.refl s, rfl⟩ trivial
  refine ⟨n, _, h1, h2, h3, hpost _ _ _ _ _ _ ⟨Cond.after_iff.mpr rfl, Cond.after_iff.mpr (eq_i res_at (Term.int_eval (1)) rfl), trivial⟩ ⟨hq.1, hq.2.1, (hq.2.2.sift fun y hy => Or.inr (N y hy)).mono (by decide) (by decide)⟩⟩
theorem main_1_1 : Claimed_1_1 := comes_1 fun _ _ _ _ _ _ h hF => ⟨h.1, hF⟩
theorem main_1_2 : Claimed_1_2 := comes_1 fun _ _ _ _ _ _ h hF => ⟨h.2.1, hF⟩
end Jvm.Pilot.@@N@@
namespace Jvm.Pilot.@@N@@
open Jvm Jvm.ClassFile Sem Op Lib Jvm.Free Jvm.Stand Jvm.Pilot.@@N@@.Jvm.D
/-! MADE BY PROGRAM (witnessworld.py) out of the Statement's table words and the real class files: 10 classes; the members and pool entries that the words name. The judged class is class 1, her method 1. -/
namespace start1
open Jvm.ClassFile
def u (s : String) : CpInfo := .utf8 (stringToUtf16 s)
/-- a pool by its gaps: so many unusable entries, then the entry; so many at the end -/
def gap : Nat → List CpInfo → List CpInfo
  | 0, r => r
  | n + 1, r => .unusable :: gap n r
def poolList (es : List (Nat × CpInfo)) (last : Nat) : List CpInfo := es.foldr (fun e r => gap e.1 (e.2 :: r)) (gap last [])
def pool (es : List (Nat × CpInfo)) (last : Nat) : Array CpInfo := ⟨poolList es last⟩
def fileOf (pool : Array CpInfo) (this : Nat) (attrs : Array Attribute := #[]) (ms : Array MethodInfo := #[]) (fl : Nat := 33) (sup : Nat := 0) (ifs : Array Nat := #[]) (fds : Array FieldInfo := #[]) : ClassFile where
  minorVersion := 0
  majorVersion := 65
  constantPool := pool
  accessFlags := fl
  thisClass := this
  superClass := sup
  interfaces := ifs
  fields := fds
  methods := ms
  attributes := attrs
def plain (name : String) (sup : Option ClassId) : Class where
  name := name
  kind := .ordinary
  loader := none
  accessFlags := 33
  super := sup
  interfaces := #[]
  cf := none
  fields := #[]
  methods := #[]
  instanceTypes := #[]
  staticTypes := #[]
  resolved := #[]
  callSites := []
  init := .initialized
  statics := none
  mirror := none

def pool0 : Array CpInfo := pool [(5, u "<init>"), (0, u "()V"), (1, .class_ 10), (1, u "java/lang/Object")] 113

def k0c0 : Code := { maxStack := 0, maxLocals := 1, code := object_method_1_code, exceptionTable := #[], attributes := #[] }
def k0m0 : Method := { name := "<init>", desc := "()V", sig := { parameters := [], returnType := none }, accessFlags := 1, code := some k0c0 }
/-- java/lang/Object -/
def k0 : Class := { plain "java/lang/Object" none with
  accessFlags := 33
  interfaces := #[]
  cf := some (fileOf pool0 8 #[] #[{ accessFlags := 1, nameIndex := 5, descriptorIndex := 6, attributes := #[] }] 33 0 #[] #[])
  fields := #[]
  methods := #[k0m0]
  instanceTypes := #[]
  staticTypes := #[]
  resolved := Array.replicate 124 none
  statics := none }

def pool1 : Array CpInfo := pool [(2, .class_ 4), (1, u "java/lang/Object"), (0, u "<init>"), (0, u "()V"), (0, .class_ 8), (0, u "com/example/sleet/sleet/Tenure"), (0, .methodref 7 10), (0, .nameAndType 5 11), (0, u "(IJJ)V"), (0, .methodref 7 13), (0, .nameAndType 14 15), (0, u "marked"), (0, u "(J)Lcom/example/sleet/sleet/Tenure;"), (0, .methodref 7 17), (0, .nameAndType 18 19), (0, u "node"), (0, u "()I"), (0, .methodref 7 21), (0, .nameAndType 22 23), (0, u "start"), (0, u "()J"), (0, .methodref 7 25), (0, .nameAndType 26 23), (0, u "mark"), (0, .class_ 28), (0, u "com/example/sleet/sleet/TenureMarkedPinLaw"), (2, u "law"), (0, u "(IJJJ)Z")] 3

def k1m0 : Method := { name := "<init>", desc := "()V", sig := { parameters := [], returnType := none }, accessFlags := 1, code := none }
def k1c1 : Code := { maxStack := 7, maxLocals := 11, code := code, exceptionTable := #[], attributes := #[] }
def k1m1 : Method := { name := "law", desc := "(IJJJ)Z", sig := { parameters := [.int, .long, .long, .long], returnType := some .boolean }, accessFlags := 9, code := some k1c1 }
/-- com/example/sleet/sleet/TenureMarkedPinLaw -/
def k1 : Class := { plain "com/example/sleet/sleet/TenureMarkedPinLaw" (some 0) with
  accessFlags := 49
  interfaces := #[]
  cf := some (fileOf pool1 27 #[] #[{ accessFlags := 1, nameIndex := 5, descriptorIndex := 6, attributes := #[] }, { accessFlags := 9, nameIndex := 31, descriptorIndex := 32, attributes := #[] }] 49 2 #[] #[])
  fields := #[]
  methods := #[k1m0, k1m1]
  instanceTypes := #[]
  staticTypes := #[]
  resolved := Array.replicate 36 none
  statics := none }

def pool2 : Array CpInfo := pool [(1, .methodref 2 3), (0, .class_ 4), (0, .nameAndType 5 6), (0, u "java/lang/Object"), (0, u "<init>"), (0, u "()V"), (0, .class_ 8), (0, u "java/lang/Record")] 13

def k2c0 : Code := { maxStack := 1, maxLocals := 1, code := jdk_30_method_1_code, exceptionTable := #[], attributes := #[] }
def k2m0 : Method := { name := "<init>", desc := "()V", sig := { parameters := [], returnType := none }, accessFlags := 4, code := some k2c0 }
/-- java/lang/Record -/
def k2 : Class := { plain "java/lang/Record" (some 0) with
  accessFlags := 1057
  interfaces := #[]
  cf := some (fileOf pool2 7 #[] #[{ accessFlags := 4, nameIndex := 5, descriptorIndex := 6, attributes := #[] }] 1057 2 #[] #[])
  fields := #[]
  methods := #[k2m0]
  instanceTypes := #[]
  staticTypes := #[]
  resolved := Array.replicate 22 none
  statics := none }

def pool3 : Array CpInfo := pool [(1, .methodref 2 3), (0, .class_ 4), (0, .nameAndType 5 6), (0, u "java/lang/Record"), (0, u "<init>"), (0, u "()V"), (0, .fieldref 8 9), (0, .class_ 10), (0, .nameAndType 11 12), (0, u "com/example/sleet/sleet/Tenure"), (0, u "node"), (0, u "I"), (0, .fieldref 8 14), (0, .nameAndType 15 16), (0, u "start"), (0, u "J"), (0, .fieldref 8 18), (0, .nameAndType 19 16), (0, u "mark"), (0, .methodref 8 21), (0, .nameAndType 5 22), (0, u "(IJJ)V"), (15, u "marked"), (0, u "(J)Lcom/example/sleet/sleet/Tenure;"), (1, u "()I"), (1, u "()J")] 22

def k3c0 : Code := { maxStack := 3, maxLocals := 6, code := prog_40_method_1_code, exceptionTable := #[], attributes := #[] }
def k3m0 : Method := { name := "<init>", desc := "(IJJ)V", sig := { parameters := [.int, .long, .long], returnType := none }, accessFlags := 0, code := some k3c0 }
def k3c1 : Code := { maxStack := 7, maxLocals := 3, code := prog_40_method_2_code, exceptionTable := #[], attributes := #[] }
def k3m1 : Method := { name := "marked", desc := "(J)Lcom/example/sleet/sleet/Tenure;", sig := { parameters := [.long], returnType := some (.object "com/example/sleet/sleet/Tenure") }, accessFlags := 0, code := some k3c1 }
def k3c2 : Code := { maxStack := 1, maxLocals := 1, code := prog_40_method_6_code, exceptionTable := #[], attributes := #[] }
def k3m2 : Method := { name := "node", desc := "()I", sig := { parameters := [], returnType := some .int }, accessFlags := 1, code := some k3c2 }
def k3c3 : Code := { maxStack := 2, maxLocals := 1, code := prog_40_method_7_code, exceptionTable := #[], attributes := #[] }
def k3m3 : Method := { name := "start", desc := "()J", sig := { parameters := [], returnType := some .long }, accessFlags := 1, code := some k3c3 }
def k3c4 : Code := { maxStack := 2, maxLocals := 1, code := prog_40_method_8_code, exceptionTable := #[], attributes := #[] }
def k3m4 : Method := { name := "mark", desc := "()J", sig := { parameters := [], returnType := some .long }, accessFlags := 1, code := some k3c4 }
/-- com/example/sleet/sleet/Tenure -/
def k3 : Class := { plain "com/example/sleet/sleet/Tenure" (some 2) with
  accessFlags := 48
  interfaces := #[]
  cf := some (fileOf pool3 8 #[] #[{ accessFlags := 0, nameIndex := 5, descriptorIndex := 22, attributes := #[] }, { accessFlags := 0, nameIndex := 38, descriptorIndex := 39, attributes := #[] }, { accessFlags := 1, nameIndex := 11, descriptorIndex := 41, attributes := #[] }, { accessFlags := 1, nameIndex := 15, descriptorIndex := 43, attributes := #[] }, { accessFlags := 1, nameIndex := 19, descriptorIndex := 43, attributes := #[] }] 48 2 #[] #[{ accessFlags := 18, nameIndex := 11, descriptorIndex := 12, attributes := #[] }, { accessFlags := 18, nameIndex := 15, descriptorIndex := 16, attributes := #[] }, { accessFlags := 18, nameIndex := 19, descriptorIndex := 16, attributes := #[] }])
  fields := #[{ name := "node", type := .int, accessFlags := 18, slot := 0, constantValue := 0 }, { name := "start", type := .long, accessFlags := 18, slot := 1, constantValue := 0 }, { name := "mark", type := .long, accessFlags := 18, slot := 2, constantValue := 0 }]
  methods := #[k3m0, k3m1, k3m2, k3m3, k3m4]
  instanceTypes := #[.int, .long, .long]
  staticTypes := #[]
  resolved := Array.replicate 66 none
  statics := none }

def pool4 : Array CpInfo := pool [(1, u "java/lang/Cloneable"), (0, .class_ 1), (0, u "java/lang/Object"), (0, .class_ 3)] 3

/-- java/lang/Cloneable -/
def k4 : Class := { plain "java/lang/Cloneable" (some 0) with
  accessFlags := 1537
  interfaces := #[]
  cf := some (fileOf pool4 2 #[] #[] 1537 4 #[] #[])
  fields := #[]
  methods := #[]
  instanceTypes := #[]
  staticTypes := #[]
  resolved := Array.replicate 8 none
  statics := none }

def pool5 : Array CpInfo := pool [(1, u "java/io/Serializable"), (0, .class_ 1), (0, u "java/lang/Object"), (0, .class_ 3)] 3

/-- java/io/Serializable -/
def k5 : Class := { plain "java/io/Serializable" (some 0) with
  accessFlags := 1537
  interfaces := #[]
  cf := some (fileOf pool5 2 #[] #[] 1537 4 #[] #[])
  fields := #[]
  methods := #[]
  instanceTypes := #[]
  staticTypes := #[]
  resolved := Array.replicate 8 none
  statics := none }

/-- the primitive byte -/
def k6 : Class := { plain "byte" none with kind := .primitive 'B', accessFlags := 0x411 }
/-- [B -/
def k7 : Class := { plain "[B" (some 0) with kind := .array 6 .byte, interfaces := #[4, 5], accessFlags := 1041 }

/-- the primitive int -/
def k8 : Class := { plain "int" none with kind := .primitive 'I', accessFlags := 0x411 }
/-- [I -/
def k9 : Class := { plain "[I" (some 0) with kind := .array 8 .int, interfaces := #[4, 5], accessFlags := 1041 }

def heap : Heap := #[]
def classes : Array Class := #[k0, k1, k2, k3, k4, k5, k6, k7, k8, k9]
def interned : List (Array UInt16 × Addr) := []
def slotsUsed : Nat := 0
def theMethod : MethodId := ⟨1, 1⟩
def args0 : Array Value := #[.int 5, .long 5, .long 5, .long 5]
def aboutOver (below : List Frame) : State where
  vm := { classes := classes, interned := interned.toArray }
  heap := heap
  slotsUsed := slotsUsed
  threads := #[{ frames := .invoking theMethod args0 :: below }]
def below0 : List Frame := [.native { method := ⟨0, 0⟩, args := #[] }]
def about1 : State := aboutOver below0
def p0 : Program := .bare "" "" ""
def e0 : Env := launch0.env 0 0 0
theorem w_frames : about1.frames = Frame.invoking theMethod args0 :: below0 := rfl
set_option maxRecDepth 65536 in
theorem w_args : argsFit about1.vm theMethod args0 = true := by decide +kernel
set_option maxRecDepth 65536 in
theorem w_heap : heapFits about1 = true := by decide +kernel
set_option maxRecDepth 65536 in
theorem w_runnable : about1.curStatus? = some .runnable := by decide +kernel
set_option maxRecDepth 65536 in
theorem w_alone : about1.alone = true := by decide +kernel
set_option maxRecDepth 65536 in
theorem w_named : about1.methodNamed? x = some theMethod := by decide +kernel
set_option maxRecDepth 65536 in
theorem w_hears : about1.hears theMethod below0 = true := by decide +kernel
set_option maxRecDepth 65536 in
theorem w_ripe : about1.ripe theMethod args0 below0 = true := by decide +kernel
theorem w_running : about1.status = .running := rfl
set_option maxRecDepth 65536 in
theorem w_room : about1.hasRoom e0.platform room_1 = true :=
  launch0.hasRoom_least _ room_1 (by decide +kernel) (by decide +kernel) (by decide +kernel) (by decide +kernel) (by decide +kernel) (by decide +kernel)
theorem allAtoms_all (ts : List Jvm.Cond) (a : Array Jvm.Value) (st : Jvm.State) : (allAtoms ts).before a st = ts.all (fun c => c.before a st) := by
  induction ts with
  | nil => rfl
  | cons c t ih =>
    show (Jvm.Cond.and c (allAtoms t)).before a st = _
    rw [Jvm.Cond.before_and, ih, List.all_cons]
def words1 : List Jvm.Cond := Jvm.Cond.code x code maxLocals ret :: tables_1
/-- a 'code' word, met by the world's own term for the bytes: nothing is compared byte by byte -/
theorem code_word {y : MethodName} {bytes : ByteArray} {mx : Nat} {rt : Option FieldType} {a : Array Value} {s : State} {m : MethodId} {meth : Method} {c : Code} (h1 : s.methodNamed? y = some m) (h2 : s.vm.method? m = some meth) (h3 : meth.code = some c) (h4 : c.code = bytes)
    (h5 : (c.maxLocals == mx && c.exceptionTable.isEmpty && decide (c.maxStack ≤ mostOperands) && decide (meth.sig.returnType = rt) && !meth.locks && decide (parseMethodDescriptor y.desc = some meth.sig)) = true) : (Jvm.Cond.code y bytes mx rt).before a s = true := by
  simp only [Bool.and_eq_true, beq_iff_eq, Bool.not_eq_true', decide_eq_true_eq] at h5
  obtain ⟨⟨⟨⟨⟨g1, g2⟩, g3⟩, g4⟩, g5⟩, g6⟩ := h5
  simp [Cond.before, Cond.holds, Cond.value, h1, h2, h3, h4, g1, g2, g3, g4, g5, g6]
def isCode : Jvm.Cond → Bool
  | .code _ _ _ _ => true
  | _ => false
theorem all_split {L : List Jvm.Cond} {P : Jvm.Cond → Bool} (h1 : L.all (fun c => isCode c || P c) = true) (h2 : ∀ c ∈ L.filter isCode, P c = true) : L.all P = true := by
  refine List.all_eq_true.mpr fun c hc => ?_
  have h := List.all_eq_true.mp h1 c hc
  rcases Bool.eq_false_or_eq_true (isCode c) with hi | hi
  · exact h2 c (List.mem_filter.mpr ⟨hc, hi⟩)
  · simpa [hi] using h
set_option maxRecDepth 65536 in
theorem w_c0 : (Jvm.Cond.code x code maxLocals ret).before args0 about1 = true := code_word (m := ⟨1, 1⟩) (meth := k1m1) (c := k1c1) (by decide +kernel) rfl rfl rfl (by decide +kernel)
set_option maxRecDepth 65536 in
theorem w_c1 : (Jvm.Cond.code ({ cls := "com/example/sleet/sleet/Tenure", name := "<init>", desc := "(IJJ)V" } : Jvm.MethodName) prog_40_method_1_code (6 : Nat) (Option.none : Option Jvm.ClassFile.FieldType)).before args0 about1 = true := code_word (m := ⟨3, 0⟩) (meth := k3m0) (c := k3c0) (by decide +kernel) rfl rfl rfl (by decide +kernel)
set_option maxRecDepth 65536 in
theorem w_c2 : (Jvm.Cond.code ({ cls := "java/lang/Record", name := "<init>", desc := "()V" } : Jvm.MethodName) jdk_30_method_1_code (1 : Nat) (Option.none : Option Jvm.ClassFile.FieldType)).before args0 about1 = true := code_word (m := ⟨2, 0⟩) (meth := k2m0) (c := k2c0) (by decide +kernel) rfl rfl rfl (by decide +kernel)
set_option maxRecDepth 65536 in
theorem w_c3 : (Jvm.Cond.code ({ cls := "java/lang/Object", name := "<init>", desc := "()V" } : Jvm.MethodName) object_method_1_code (1 : Nat) (Option.none : Option Jvm.ClassFile.FieldType)).before args0 about1 = true := code_word (m := ⟨0, 0⟩) (meth := k0m0) (c := k0c0) (by decide +kernel) rfl rfl rfl (by decide +kernel)
set_option maxRecDepth 65536 in
theorem w_c4 : (Jvm.Cond.code ({ cls := "com/example/sleet/sleet/Tenure", name := "marked", desc := "(J)Lcom/example/sleet/sleet/Tenure;" } : Jvm.MethodName) prog_40_method_2_code (3 : Nat) (Option.some (Jvm.ClassFile.FieldType.object "com/example/sleet/sleet/Tenure"))).before args0 about1 = true := code_word (m := ⟨3, 1⟩) (meth := k3m1) (c := k3c1) (by decide +kernel) rfl rfl rfl (by decide +kernel)
set_option maxRecDepth 65536 in
theorem w_c5 : (Jvm.Cond.code ({ cls := "com/example/sleet/sleet/Tenure", name := "node", desc := "()I" } : Jvm.MethodName) prog_40_method_6_code (1 : Nat) (Option.some Jvm.ClassFile.FieldType.int)).before args0 about1 = true := code_word (m := ⟨3, 2⟩) (meth := k3m2) (c := k3c2) (by decide +kernel) rfl rfl rfl (by decide +kernel)
set_option maxRecDepth 65536 in
theorem w_c6 : (Jvm.Cond.code ({ cls := "com/example/sleet/sleet/Tenure", name := "start", desc := "()J" } : Jvm.MethodName) prog_40_method_7_code (1 : Nat) (Option.some Jvm.ClassFile.FieldType.long)).before args0 about1 = true := code_word (m := ⟨3, 3⟩) (meth := k3m3) (c := k3c3) (by decide +kernel) rfl rfl rfl (by decide +kernel)
set_option maxRecDepth 65536 in
theorem w_c7 : (Jvm.Cond.code ({ cls := "com/example/sleet/sleet/Tenure", name := "mark", desc := "()J" } : Jvm.MethodName) prog_40_method_8_code (1 : Nat) (Option.some Jvm.ClassFile.FieldType.long)).before args0 about1 = true := code_word (m := ⟨3, 4⟩) (meth := k3m4) (c := k3c4) (by decide +kernel) rfl rfl rfl (by decide +kernel)
def codes1 : List Jvm.Cond := [Jvm.Cond.code x code maxLocals ret, Jvm.Cond.code ({ cls := "com/example/sleet/sleet/Tenure", name := "<init>", desc := "(IJJ)V" } : Jvm.MethodName) prog_40_method_1_code (6 : Nat) (Option.none : Option Jvm.ClassFile.FieldType), Jvm.Cond.code ({ cls := "java/lang/Record", name := "<init>", desc := "()V" } : Jvm.MethodName) jdk_30_method_1_code (1 : Nat) (Option.none : Option Jvm.ClassFile.FieldType), Jvm.Cond.code ({ cls := "java/lang/Object", name := "<init>", desc := "()V" } : Jvm.MethodName) object_method_1_code (1 : Nat) (Option.none : Option Jvm.ClassFile.FieldType), Jvm.Cond.code ({ cls := "com/example/sleet/sleet/Tenure", name := "marked", desc := "(J)Lcom/example/sleet/sleet/Tenure;" } : Jvm.MethodName) prog_40_method_2_code (3 : Nat) (Option.some (Jvm.ClassFile.FieldType.object "com/example/sleet/sleet/Tenure")), Jvm.Cond.code ({ cls := "com/example/sleet/sleet/Tenure", name := "node", desc := "()I" } : Jvm.MethodName) prog_40_method_6_code (1 : Nat) (Option.some Jvm.ClassFile.FieldType.int), Jvm.Cond.code ({ cls := "com/example/sleet/sleet/Tenure", name := "start", desc := "()J" } : Jvm.MethodName) prog_40_method_7_code (1 : Nat) (Option.some Jvm.ClassFile.FieldType.long), Jvm.Cond.code ({ cls := "com/example/sleet/sleet/Tenure", name := "mark", desc := "()J" } : Jvm.MethodName) prog_40_method_8_code (1 : Nat) (Option.some Jvm.ClassFile.FieldType.long)]
set_option maxRecDepth 65536 in
theorem codes_eq : words1.filter isCode = codes1 := rfl
theorem w_codes : ∀ c ∈ words1.filter isCode, c.before args0 about1 = true := by
  rw [codes_eq]
  intro c hc
  simp only [codes1, List.mem_cons, List.not_mem_nil, or_false] at hc
  rcases hc with rfl | rfl | rfl | rfl | rfl | rfl | rfl | rfl
  · exact w_c0
  · exact w_c1
  · exact w_c2
  · exact w_c3
  · exact w_c4
  · exact w_c5
  · exact w_c6
  · exact w_c7
set_option maxRecDepth 65536 in
theorem w_t1 : (words1.take 24).all (fun c => isCode c || c.before args0 about1) = true := by decide +kernel
set_option maxRecDepth 65536 in
theorem w_t2 : (words1.drop 24).all (fun c => isCode c || c.before args0 about1) = true := by decide +kernel
theorem w_tables : (allAtoms (Jvm.Cond.code x code maxLocals ret :: tables_1)).before args0 about1 = true := by
  rw [allAtoms_all]
  show words1.all (fun c => c.before args0 about1) = true
  refine all_split ?_ w_codes
  rw [← List.take_append_drop 24 words1, List.all_append, w_t1, w_t2]
  rfl
set_option maxRecDepth 65536 in
theorem w_case : (Jvm.Cond.and given_1 narrow_1).before args0 about1 = true := by decide +kernel
theorem w_applies : (headSpec (Jvm.Cond.code x code maxLocals ret :: tables_1) room_1).applies x e0.platform about1 = true :=
  (Spec.applies_iff w_frames).mpr ⟨w_running, w_runnable, w_alone, w_named, w_hears, w_ripe, w_room, w_tables⟩
theorem atStart : AtStart classFile x code maxLocals ret World_1 tables_1 room_1 Calls_1 rest_1 Pre_1 launch0 p0 e0 about1 theMethod args0 below0 :=
  ⟨lists_1, trivial, launch0.admits_env _ _ _, launch0.least_env, fairChoices_fair.cas, fairChoices_fair.clock, w_frames, w_args, w_heap, w_applies, trivial, trivial, w_case⟩
end start1
theorem witness_1 : WitnessClaimed_1 := ⟨start1.p0, start1.e0, start1.about1, start1.theMethod, start1.args0, start1.below0, start1.atStart⟩
end Jvm.Pilot.@@N@@
