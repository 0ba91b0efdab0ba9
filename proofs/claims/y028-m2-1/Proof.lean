import JvmDerived
import JvmDerived.Pilot.@@N@@Statement
import JvmDerived.Pilot.@@N@@Code
set_option linter.unusedVariables false
set_option linter.unusedSimpArgs false
namespace Jvm.RoadKit
open Sem ClassFile Op Lib Jvm.Stand Jvm.Free Jvm.LawKit
section New
variable {p : Program} {l : Launch} {e : Env} {R : Room} {s : State} {m : MethodId} {args : Array Value} {below : List Frame} {meth : Method} {c : Code} {T : State} {locs : List Loc} {cells slots : Nat}
theorem retI (X : Stand p l e R s m args below meth c T locs cells slots) (hx : p.tables.exec = Jvm.exec) {pc : Nat} {Ls : Array Slot} {z : Int32} {rest : List Value} (hret : meth.sig.returnType = some .int) (hd : decode c.code pc = .ok (.ireturn, 1)) {fs : List Frame}
    (hl : ∀ (f : JFrame) (acts : List Action), f.method = m → f.locked = none → f.entered = [] → (doReturn e (T.setTop f) acts (some (.int z))).1 = T.setFrames fs) : Steps p.tables e below (T.setTop (mkF m pc Ls (.int z :: rest))) (T.setFrames fs) := by
  have hm' : T.vm.method? m = some meth := X.method'
  have hn : narrow .int (.int z) = .int z := rfl
  show Steps p.tables e below (T.setTop { method := m, pc := pc, locals := Ls, stack := _ :: rest, locked := none }) _
  jvm_step X.here [X.here.top, hx, hd, hm', hret, hn]
  first | (intro acts; rw [hl _ acts rfl rfl rfl]) | rw [hl _ _ rfl rfl rfl]
  exact Steps.refl _
end New
end Jvm.RoadKit
namespace Jvm.Pilot.@@N@@
open Jvm Jvm.ClassFile Sem Op Lib Jvm.Free Jvm.Stand Jvm.LawKit Jvm.RoadKit Bundle Jvm.Pilot.@@N@@.Jvm.D
/-- the run from a frame of this method ends in a return with Q -/
def Go (p : Program) (e : Env) (s : State) (below : List Frame) (kc ks : Nat) (Q : Option Value → Heap → List Loc → Prop) (T : State) (f : JFrame) : Prop :=
  ∃ s₂ o, Steps p.tables e below (T.setTop f) s₂ ∧ s₂.status = .running ∧ Ended s₂ below o ∧ ∃ v L, o = .returned v ∧ Q v s₂.heap L ∧ FrameEnd s o s₂ L kc ks
/-- what is known of the method that runs -/
def Cx (p : Program) (s : State) (m : MethodId) (meth : Method) (c : Code) (Z : State) (own nm : String) (code : ByteArray) (maxL : Nat) (ret : Option FieldType) : Prop :=
  p.tables.exec = Jvm.exec ∧ Z.Warmed39 s.vm ∧ c.code = code ∧ c.maxLocals = maxL ∧ s.vm.findClass own = some m.cls ∧ meth.name = nm ∧ meth.sig.returnType = ret ∧ meth.locks = false
/-- a contract -/
def Ctr (l : Launch) (Z : State) (y : MethodName) (bytes : ByteArray) (maxL : Nat) (ret : Option FieldType) (ws : List Jvm.Cond) (rm : Room) (kc ks : Nat) (as : Array Value) (h : Heap) (Q : Option Value → Heap → List Loc → Prop) : Prop :=
  MetFree l y (head1 (Jvm.Cond.code y bytes maxL ret :: ws) rm) (fun a U => a = as ∧ Z.Warmed39 U.vm ∧ U.heap = h) (fun _ _ _ _ _ => True) (fun _ U o U' => ∃ v L, o = .returned v ∧ Q v U'.heap L ∧ FrameEnd U o U' L kc ks)
def bi (P : Prop) [Decidable P] : Int32 := if P then 1 else 0
theorem bi_t {P : Prop} [Decidable P] (h : P) : bi P = 1 := if_pos h
theorem bi_f {P : Prop} [Decidable P] (h : ¬ P) : bi P = 0 := if_neg h
theorem bi_n {P : Prop} [Decidable P] (h : P) : ¬ bi P = 0 := by rw [bi_t h]; decide
theorem bi_1 {P : Prop} [Decidable P] : bi P = 1 ↔ P := by unfold bi; split <;> simp_all
theorem bi_0 {P : Prop} [Decidable P] : bi P = 0 ↔ ¬ P := by unfold bi; split <;> simp_all
theorem bi_eq {P P' : Prop} [Decidable P] [Decidable P'] : bi P = bi P' ↔ (P ↔ P') := by unfold bi; split <;> split <;> simp_all
theorem bi_congr {P P' : Prop} [Decidable P] [Decidable P'] (h : P ↔ P') : bi P = bi P' := bi_eq.mpr h
theorem bi_fits {P : Prop} [Decidable P] : fits .boolean (.int (bi P)) = true := by unfold bi; split <;> rfl
theorem bi_nar {P : Prop} [Decidable P] : nar .boolean (bi P) = bi P := by unfold bi; split <;> rfl
section Own
variable {p : Program} {l : Launch} {e : Env} {R : Room} {s : State} {m : MethodId} {args : Array Value} {below : List Frame} {meth : Method} {c : Code} {T : State} {locs : List Loc} {cells slots kc ks : Nat} {Q : Option Value → Heap → List Loc → Prop} {Z : State} {a0 : Array Value} {h : Heap}
theorem Go.step {T' : State} {f f' : JFrame} (st : ∀ t, Steps p.tables e below (T'.setTop f') t → Steps p.tables e below (T.setTop f) t) (k : Go p e s below kc ks Q T' f') : Go p e s below kc ks Q T f := by
  obtain ⟨s₂, o, h1, r⟩ := k; exact ⟨s₂, o, st _ h1, r⟩
theorem Go.mono {Q' : Option Value → Heap → List Loc → Prop} {f : JFrame} (k : Go p e s below kc ks Q T f) (h : ∀ v h L, Q v h L → Q' v h L) : Go p e s below kc ks Q' T f := by
  obtain ⟨s₂, o, h1, h2, h3, v, L, h4, h5, h6⟩ := k; exact ⟨s₂, o, h1, h2, h3, v, L, h4, h _ _ _ h5, h6⟩
theorem Ctr.mk {y : MethodName} {bytes : ByteArray} {maxL : Nat} {ret : Option FieldType} {ws : List Jvm.Cond} {rm : Room} {as : Array Value} (hp : plainFor y = true)
    (hgo : ∀ (p : Program) (e : Env) (s : State) (m : MethodId) (below : List Frame) (meth : Method) (c : Code) (s₁ : State), Stand p l e rm s m as below meth c s₁ [] 0 0 → Cx p s m meth c Z y.cls y.name bytes maxL ret → s₁.heap = h → Go p e s below kc ks Q s₁ (entryFrame m as maxL)) :
    Ctr l Z y bytes maxL ret ws rm kc ks as h Q := by
  refine MetFree.of_bodySF hp hisR ?_
  intro p e s m args below meth c s₁ Bd hml0 hP hK
  obtain ⟨rfl, hZ, hh⟩ := hP
  exact hgo p e s m below meth c s₁ (Stand.of_body Bd) ⟨Bd.exec, hZ, Bd.bytes, hml0, findClass_of_methodNamed Bd.named, (name_of_methodNamed Bd.named Bd.method).1, Bd.returns, Bd.notSynchronized⟩ (by rw [← hh, Bd.state]; rfl)
theorem go_cast {f f' : JFrame} (q : f = f') (k : Go p e s below kc ks Q T f') : Go p e s below kc ks Q T f := q ▸ k
theorem go_retI (X : Stand p l e R s m args below meth c T locs cells slots) (hx : p.tables.exec = Jvm.exec) (hret : meth.sig.returnType = some .int) (hlk : meth.locks = false) {pc : Nat} {Ls : Array Slot} {z : Int32} {rest : List Value} (hd : decode c.code pc = .ok (.ireturn, 1))
    (hQ : Q (some (.int z)) T.heap locs) (hc : cells ≤ kc) (hs : slots ≤ ks) : Go p e s below kc ks Q T (mkF m pc Ls (.int z :: rest)) := by
  obtain ⟨fs, hr, hrun, hended, hW, hsame⟩ := X.leave (v := some (.int z)) (fun h => by rw [hret] at h; cases h) hlk
  exact ⟨_, _, retI X hx hret hd hr, hrun, hended, _, _, rfl, hQ, ⟨_, rfl⟩, hW, hsame.mono hc hs⟩
theorem go_retN (X : Stand p l e R s m args below meth c T locs cells slots) (hx : p.tables.exec = Jvm.exec) {t : FieldType} (hret : meth.sig.returnType = some t) (ht : t = .boolean ∨ t = .byte ∨ t = .char ∨ t = .short) (hlk : meth.locks = false) {pc : Nat} {Ls : Array Slot} {z w : Int32} {rest : List Value} (hd : decode c.code pc = .ok (.ireturn, 1))
    (hz : nar t z = w) (hQ : Q (some (.int w)) T.heap locs) (hc : cells ≤ kc) (hs : slots ≤ ks) : Go p e s below kc ks Q T (mkF m pc Ls (.int z :: rest)) := by
  subst hz
  obtain ⟨fs, hr, hrun, hended, hW, hsame⟩ := X.leave (v := some (.int (nar t z))) (fun h => by rw [hret] at h; cases h) hlk
  exact ⟨_, _, retN X hx hret ht hd hr, hrun, hended, _, _, rfl, hQ, ⟨_, rfl⟩, hW, hsame.mono hc hs⟩
theorem go_retJ (X : Stand p l e R s m args below meth c T locs cells slots) (hx : p.tables.exec = Jvm.exec) (hret : meth.sig.returnType = some .long) (hlk : meth.locks = false) {pc : Nat} {Ls : Array Slot} {z : Int64} (hd : decode c.code pc = .ok (.lreturn, 1))
    (hQ : Q (some (.long z)) T.heap locs) (hc : cells ≤ kc) (hs : slots ≤ ks) : Go p e s below kc ks Q T (mkF m pc Ls [.long z]) := by
  obtain ⟨fs, hr, hrun, hended, hW, hsame⟩ := X.leave (v := some (.long z)) (fun h => by rw [hret] at h; cases h) hlk
  exact ⟨_, _, X.lreturnOut hx hret hd hr, hrun, hended, _, _, rfl, hQ, ⟨_, rfl⟩, hW, hsame.mono hc hs⟩
theorem go_retA (X : Stand p l e R s m args below meth c T locs cells slots) (hx : p.tables.exec = Jvm.exec) {t : FieldType} (hret : meth.sig.returnType = some t) (ht : t.isReference = true) (hlk : meth.locks = false) {pc : Nat} {Ls : Array Slot} {w : Value} {rest : List Value} (hw : w.isRef = true) (hd : decode c.code pc = .ok (.areturn, 1))
    (hQ : Q (some w) T.heap locs) (hc : cells ≤ kc) (hs : slots ≤ ks) : Go p e s below kc ks Q T (mkF m pc Ls (w :: rest)) := by
  obtain ⟨fs, hr, hrun, hended, hW, hsame⟩ := X.leave (v := some w) (fun h => by rw [hret] at h; cases h) hlk
  have hn : narrow t w = w := by cases t <;> first | rfl | simp [FieldType.isReference] at ht
  exact ⟨_, _, retOut X hx hret hn (Or.inr (Or.inr (Or.inr (Or.inr ⟨rfl, ht, hw⟩)))) hd hr, hrun, hended, _, _, rfl, hQ, ⟨_, rfl⟩, hW, hsame.mono hc hs⟩
theorem go_ret (X : Stand p l e R s m args below meth c T locs cells slots) (hx : p.tables.exec = Jvm.exec) (hret : meth.sig.returnType = none) (hlk : meth.locks = false) {pc : Nat} {Ls : Array Slot} (hd : decode c.code pc = .ok (.return_, 1))
    (hQ : Q none T.heap locs) (hc : cells ≤ kc) (hs : slots ≤ ks) : Go p e s below kc ks Q T (mkF m pc Ls []) := by
  obtain ⟨fs, hr, hrun, hended, hW, hsame⟩ := X.leave (v := none) (fun _ => rfl) hlk
  exact ⟨_, _, X.returnOut hx hret hd hr, hrun, hended, _, _, rfl, hQ, ⟨_, rfl⟩, hW, hsame.mono hc hs⟩
/-! calls by a contract -/
section Calls
variable {own : String} {index : Nat} {y : MethodName} {bytes : ByteArray} {maxL : Nat} {ret r : Option FieldType} {rm : Room} {Qc : Option Value → Heap → List Loc → Prop} {argsL rest : List Value} {ps : List FieldType} {pc W : Nat} {Ls : Array Slot} {a : Addr}
theorem c_static (X : Stand p l e R s m args below meth c T locs cells slots) (hx : p.tables.exec = Jvm.exec) (hZ : Z.Warmed39 s.vm) (hown : s.vm.findClass own = some m.cls)
    (w1 : (Jvm.Cond.methodLink own index y).before a0 Z = true) (w2 : (Jvm.Cond.static y).before a0 Z = true) (w3 : (Jvm.Cond.initialized y.cls).before a0 Z = true) (w4 : (Jvm.Cond.code y bytes maxL ret).before a0 Z = true) (hy : y.cls ≠ "java/lang/invoke/MethodHandle" ∧ y.cls ≠ "java/lang/invoke/VarHandle")
    (hC : Ctr l Z y bytes maxL ret [] rm rm.cells rm.slots argsL.toArray h Qc) (eT : T.heap = h) (hpd : parseMethodDescriptor y.desc = some ⟨ps, r⟩) (hlen : argsL.length = ps.length) (hsz : Ls.size = c.maxLocals) (hW : 2 * 0 + (rest.map fun v => v.category).sum ≤ W)
    (hf : rm.frames + 1 ≤ R.frames) (hl : W + (maxL + 11) + rm.locals ≤ R.locals) (hc : cells + rm.cells ≤ R.cells) (hs : slots + rm.slots ≤ R.slots) (hd : decode c.code pc = .ok (.invokestatic index, 3)) :
    ∃ (v : Option Value) (T' : State) (L : List Loc), Stand p l e R s m args below meth c T' (locs ++ L) (cells + rm.cells) (slots + rm.slots) ∧ Qc v T'.heap L ∧
      ∀ t, Steps p.tables e below (T'.setTop (mkF m (pc + 3) Ls (v.toList ++ rest))) t → Steps p.tables e below (T.setTop (mkF m pc Ls (argsL.reverse ++ rest))) t := by
  obtain ⟨v, _, ⟨T', L', k', n'⟩, -, X', ⟨L, hQ, rfl, rfl, rfl⟩, st⟩ := Jvm.LawKit.callS X hx (y := y) hown (mvT hZ w1) (mvT hZ w2) (mvT hZ w3) (mvT hZ w4) hy (backOf (W := W) hC hZ w4 w3 hf hl) (g := mkF m pc Ls (argsL.reverse ++ rest)) rfl hsz (argsL := argsL) (rest := rest) (lenOf hpd hlen) rfl hW hd (fun _ _ => ⟨rfl, eT, hc, hs⟩)
  exact ⟨v, T', L, X', hQ, st⟩
theorem c_init (X : Stand p l e R s m args below meth c T locs cells slots) (hx : p.tables.exec = Jvm.exec) (hZ : Z.Warmed39 s.vm) (hown : s.vm.findClass own = some m.cls)
    (w1 : (Jvm.Cond.methodLink own index y).before a0 Z = true) (w2 : (Jvm.Cond.instanceMethod y).before a0 Z = true) (w3 : (Jvm.Cond.initialized y.cls).before a0 Z = true) (w4 : (Jvm.Cond.code y bytes maxL none).before a0 Z = true) (hn : y.name = "<init>") (hy : y.cls ≠ "java/lang/invoke/MethodHandle" ∧ y.cls ≠ "java/lang/invoke/VarHandle")
    (hC : Ctr l Z y bytes maxL none [] rm rm.cells rm.slots (.ref a :: argsL).toArray h Qc) (eT : T.heap = h) (hpd : parseMethodDescriptor y.desc = some ⟨ps, r⟩) (hlen : argsL.length = ps.length) (hsz : Ls.size = c.maxLocals) (hW : 2 * 0 + (rest.map fun v => v.category).sum ≤ W)
    (hf : rm.frames + 1 ≤ R.frames) (hl : W + (maxL + 11) + rm.locals ≤ R.locals) (hc : cells + rm.cells ≤ R.cells) (hs : slots + rm.slots ≤ R.slots) (hd : decode c.code pc = .ok (.invokespecial index, 3)) :
    ∃ (v : Option Value) (T' : State) (L : List Loc), Stand p l e R s m args below meth c T' (locs ++ L) (cells + rm.cells) (slots + rm.slots) ∧ Qc v T'.heap L ∧
      ∀ t, Steps p.tables e below (T'.setTop (mkF m (pc + 3) Ls (v.toList ++ rest))) t → Steps p.tables e below (T.setTop (mkF m pc Ls (argsL.reverse ++ .ref a :: rest))) t := by
  obtain ⟨v, _, ⟨T', L', k', n'⟩, -, X', ⟨L, hQ, rfl, rfl, rfl⟩, st⟩ := X.specialBack hx (y := y) hn hown (mvT hZ w1) (mvT hZ w2) (mvT hZ w4) hy (backOf (W := W) hC hZ w4 w3 hf hl) (g := mkF m pc Ls (argsL.reverse ++ .ref a :: rest)) rfl hsz (Steps.refl _) (a := a) (argsL := argsL) (rest := rest) (lenOf hpd hlen) rfl hW hd (fun _ _ => ⟨rfl, eT, hc, hs⟩)
  exact ⟨v, T', L, X', hQ, fun t k => st.trans k⟩
theorem c_virt {y' : MethodName} {C : String} (X : Stand p l e R s m args below meth c T locs cells slots) (hx : p.tables.exec = Jvm.exec) (hZ : Z.Warmed39 s.vm) (hown : s.vm.findClass own = some m.cls)
    (w1 : (Jvm.Cond.methodLink own index y').before a0 Z = true) (wd : (Jvm.Cond.declares y').before a0 Z = true) (nf : NotFace s y') (ws : (Jvm.Cond.selects C y' y).before a0 Z = true) (w2 : (Jvm.Cond.instanceMethod y).before a0 Z = true) (w3 : (Jvm.Cond.initialized y.cls).before a0 Z = true) (w4 : (Jvm.Cond.code y bytes maxL ret).before a0 Z = true) (hy : y'.cls ≠ "java/lang/invoke/MethodHandle" ∧ y'.cls ≠ "java/lang/invoke/VarHandle")
    (hC : Ctr l Z y bytes maxL ret [] rm rm.cells rm.slots (.ref a :: argsL).toArray h Qc) (eT : T.heap = h) (E : Exa Z h a C) (hpd : parseMethodDescriptor y'.desc = some ⟨ps, r⟩) (hlen : argsL.length = ps.length) (hsz : Ls.size = c.maxLocals) (hW : 2 * 0 + (rest.map fun v => v.category).sum ≤ W)
    (hf : rm.frames + 1 ≤ R.frames) (hl : W + (maxL + 11) + rm.locals ≤ R.locals) (hc : cells + rm.cells ≤ R.cells) (hs : slots + rm.slots ≤ R.slots) (hd : decode c.code pc = .ok (.invokevirtual index, 3)) :
    ∃ (v : Option Value) (T' : State) (L : List Loc), Stand p l e R s m args below meth c T' (locs ++ L) (cells + rm.cells) (slots + rm.slots) ∧ Qc v T'.heap L ∧
      ∀ t, Steps p.tables e below (T'.setTop (mkF m (pc + 3) Ls (v.toList ++ rest))) t → Steps p.tables e below (T.setTop (mkF m pc Ls (argsL.reverse ++ .ref a :: rest))) t := by
  obtain ⟨cq, kq, qa, qb, qc⟩ := isOf hZ eT E
  obtain ⟨v, _, ⟨T', L', k', n'⟩, -, X', ⟨L, hQ, rfl, rfl, rfl⟩, st⟩ := X.virtualBack hx (y := y') (z := y) hown (mvT hZ w1) (mvT hZ wd) nf (mvT hZ ws) (mvT hZ w2) hy (backOf (W := W) hC hZ w4 w3 hf hl) qa qc (g := mkF m pc Ls (argsL.reverse ++ .ref a :: rest)) rfl hsz (Steps.refl _) (argsL := argsL) (rest := rest) (lenOf hpd hlen) rfl hW hd (fun _ _ => ⟨rfl, eT, hc, hs⟩)
  exact ⟨v, T', L, X', hQ, fun t k => st.trans k⟩
theorem own_nf {y' z : MethodName} {C : String} {as : Array Value} (ws : (Jvm.Cond.selects C y' z).before as s = true) (h : z.cls = y.cls) : NotFace s y := fun r0 h0 => by
  obtain ⟨_, _, m2, -, -, q3, -, kP, hkP, hkPi⟩ := Cond.selects_spec ws
  have e1 := findClass_of_methodNamed q3
  rw [h] at e1
  have e2 : m2.cls = r0.cls := Option.some.inj (e1.symm.trans (findClass_of_methodNamed h0))
  exact ⟨kP, e2 ▸ hkP, hkPi⟩
/-- a private method of an object, by invokevirtual: its class isn't an interface (nf) -/
theorem c_priv {C : String} (X : Stand p l e R s m args below meth c T locs cells slots) (hx : p.tables.exec = Jvm.exec) (hZ : Z.Warmed39 s.vm) (hown : s.vm.findClass own = some m.cls)
    (w1 : (Jvm.Cond.methodLink own index y).before a0 Z = true) (w2 : (Jvm.Cond.instanceMethod y).before a0 Z = true) (nf : NotFace s y) (wp : (Jvm.Cond.privateMethod y).before a0 Z = true) (w3 : (Jvm.Cond.initialized y.cls).before a0 Z = true) (w4 : (Jvm.Cond.code y bytes maxL ret).before a0 Z = true) (hy : y.cls ≠ "java/lang/invoke/MethodHandle" ∧ y.cls ≠ "java/lang/invoke/VarHandle")
    (hC : Ctr l Z y bytes maxL ret [] rm rm.cells rm.slots (.ref a :: argsL).toArray h Qc) (eT : T.heap = h) (E : Exa Z h a C) (hpd : parseMethodDescriptor y.desc = some ⟨ps, r⟩) (hlen : argsL.length = ps.length) (hsz : Ls.size = c.maxLocals) (hW : 2 * 0 + (rest.map fun v => v.category).sum ≤ W)
    (hf : rm.frames + 1 ≤ R.frames) (hl : W + (maxL + 11) + rm.locals ≤ R.locals) (hc : cells + rm.cells ≤ R.cells) (hs : slots + rm.slots ≤ R.slots) (hd : decode c.code pc = .ok (.invokevirtual index, 3)) :
    ∃ (v : Option Value) (T' : State) (L : List Loc), Stand p l e R s m args below meth c T' (locs ++ L) (cells + rm.cells) (slots + rm.slots) ∧ Qc v T'.heap L ∧
      ∀ t, Steps p.tables e below (T'.setTop (mkF m (pc + 3) Ls (v.toList ++ rest))) t → Steps p.tables e below (T.setTop (mkF m pc Ls (argsL.reverse ++ .ref a :: rest))) t := by
  obtain ⟨cq, qa, qb⟩ := E.cell
  obtain ⟨mk, methM, hnamed, hmethM, hstM, habM⟩ := Cond.instanceMethod_spec (mvT (args := args) hZ w2)
  obtain ⟨methM', cM, hmethM', -, -, -, -, -, -, hsigM⟩ := Cond.code_spec hnamed (mvT (args := args) hZ w4)
  cases hmethM.symm.trans hmethM'
  obtain ⟨kP, hkP, hkPi⟩ := nf mk hnamed
  have hsel : selectMethod e.platform s.vm cq.cls mk = .method mk := selectMethod_private hmethM ((Cond.privateMethod_at (mvP hZ wp (args := #[]))) mk methM hnamed hmethM)
  obtain ⟨vm₁, X₁, hst⟩ := X.invokevirtual hx hown (mvT hZ w1) hnamed hmethM hstM hkP hkPi hy (a := a) (cell := cq) (by rw [eT]; exact qa) qb hsel hmethM habM hkP hkPi (g := mkF m pc Ls (argsL.reverse ++ .ref a :: rest)) rfl (argsL := argsL) (rest := rest) (lenOf hpd hlen _ hsigM) rfl hd
  obtain ⟨v, ⟨T', L', k', n'⟩, X', ⟨L, hQ, rfl, rfl, rfl⟩, hgo⟩ := (backOf (W := W) (len := 3) hC hZ w4 w3 hf hl) m meth c ⟨T.setVm vm₁, locs, cells, slots⟩ (mkF m pc Ls rest) (.invokevirtual index) mk (.ref a :: argsL).toArray X₁ rfl hsz hd hW (X₁.named hnamed) ⟨rfl, eT, hc, hs⟩
  exact ⟨v, T', L, X', hQ, fun t k => ((hst _ fun acts => by rw [doInvoke_state]; exact Steps.refl _).trans hgo).trans k⟩
/-- invokevirtual of a method that a class above the one that the entry names declares -/
theorem c_virtUp {y' : MethodName} {C owner : String} (X : Stand p l e R s m args below meth c T locs cells slots) (hx : p.tables.exec = Jvm.exec) (hZ : Z.Warmed39 s.vm) (hown : s.vm.findClass own = some m.cls)
    (w1 : (Jvm.Cond.methodLink own index y').before a0 Z = true) (wm : (Jvm.Cond.sameMethod y'.cls owner y'.name y'.desc).before a0 Z = true) (wd : (Jvm.Cond.declares ⟨owner, y'.name, y'.desc⟩).before a0 Z = true) (ws : (Jvm.Cond.selects C y' y).before a0 Z = true) (w2 : (Jvm.Cond.instanceMethod y).before a0 Z = true) (w3 : (Jvm.Cond.initialized y.cls).before a0 Z = true) (w4 : (Jvm.Cond.code y bytes maxL ret).before a0 Z = true) (hy : owner ≠ "java/lang/invoke/MethodHandle" ∧ owner ≠ "java/lang/invoke/VarHandle")
    (hC : Ctr l Z y bytes maxL ret [] rm rm.cells rm.slots (.ref a :: argsL).toArray h Qc) (eT : T.heap = h) (E : Exa Z h a C) (hpd : parseMethodDescriptor y'.desc = some ⟨ps, r⟩) (hlen : argsL.length = ps.length) (hsz : Ls.size = c.maxLocals) (hW : 2 * 0 + (rest.map fun v => v.category).sum ≤ W)
    (hf : rm.frames + 1 ≤ R.frames) (hl : W + (maxL + 11) + rm.locals ≤ R.locals) (hc : cells + rm.cells ≤ R.cells) (hs : slots + rm.slots ≤ R.slots) (hd : decode c.code pc = .ok (.invokevirtual index, 3)) :
    ∃ (v : Option Value) (T' : State) (L : List Loc), Stand p l e R s m args below meth c T' (locs ++ L) (cells + rm.cells) (slots + rm.slots) ∧ Qc v T'.heap L ∧
      ∀ t, Steps p.tables e below (T'.setTop (mkF m (pc + 3) Ls (v.toList ++ rest))) t → Steps p.tables e below (T.setTop (mkF m pc Ls (argsL.reverse ++ .ref a :: rest))) t := by
  obtain ⟨cq, kq, qa, qb, qc⟩ := isOf hZ eT E
  obtain ⟨v, _, ⟨T', L', k', n'⟩, -, X', ⟨L, hQ, rfl, rfl, rfl⟩, st⟩ := X.virtualBackUp hx (x := y') (y := y) hown (mvT hZ w1) (mvT hZ wm) (mvT hZ wd) hy (mvT hZ ws) (mvT hZ w2) (backOf (W := W) hC hZ w4 w3 hf hl) qa qc (g := mkF m pc Ls (argsL.reverse ++ .ref a :: rest)) rfl hsz (Steps.refl _) (argsL := argsL) (rest := rest) (lenOf hpd hlen) rfl hW hd (fun _ _ => ⟨rfl, eT, hc, hs⟩)
  exact ⟨v, T', L, X', hQ, fun t k => st.trans k⟩
end Calls
end Own
theorem own_m (x : Int64) : 0 ≤ (x &&& (9223372036854775807 : Int64)).toInt ∧ (x &&& (9223372036854775807 : Int64)).toInt ≤ 9223372036854775807 := by
  have h := c_maskL x 9223372036854775807 63 (by decide) (by decide)
  have := rng64 x
  constructor <;> omega
theorem own_nn (x : Int64) : ¬ ((x &&& (9223372036854775807 : Int64)) < (0 : Int64)) := by
  rw [Int64.lt_iff_toInt_lt]; have := (own_m x).1; simp only [Int64.reduceToInt]; omega
theorem own_nz (x : Int64) (h : ¬ ((x &&& (9223372036854775807 : Int64)) = (9223372036854775807 : Int64))) : ((x &&& (9223372036854775807 : Int64)) + (1 : Int64)).toInt = (x &&& (9223372036854775807 : Int64)).toInt + 1 ∧ ¬ ((x &&& (9223372036854775807 : Int64)) + (1 : Int64)) = 0 := by
  have h1 := own_m x; have h2 := c_ladd (x &&& (9223372036854775807 : Int64)) 1; have h3 := rng64 ((x &&& (9223372036854775807 : Int64)) + (1 : Int64))
  rw [← Int64.toInt_inj] at h ⊢
  simp only [Int64.reduceToInt] at *
  omega
abbrev OkU (b z : Int64) : Prop := 0 ≤ z.toInt ∧ z.toInt ≤ b.toInt
theorem own_u1 (b x : Int64) (h : b = (9223372036854775807 : Int64)) : OkU b (x &&& (9223372036854775807 : Int64)) := by
  have := own_m x; subst h; exact ⟨this.1, this.2⟩
theorem own_u2 (b x : Int64) (h : ¬ ((b &&& (9223372036854775807 : Int64)) = (9223372036854775807 : Int64))) : OkU (b &&& (9223372036854775807 : Int64)) ((x &&& (9223372036854775807 : Int64)) % ((b &&& (9223372036854775807 : Int64)) + (1 : Int64))) := by
  have h1 := (own_nz b h).1; have h2 := own_m b; have h3 := own_m x
  have h4 := (c_lrem (x &&& (9223372036854775807 : Int64)) ((b &&& (9223372036854775807 : Int64)) + (1 : Int64)) _ h1).1 h3.1
  rw [lrem_mod] at h4
  unfold OkU
  rw [h4]
  have h5 := Int.emod_nonneg (x &&& (9223372036854775807 : Int64)).toInt (b := (b &&& (9223372036854775807 : Int64)).toInt + 1) (by omega)
  have h6 := Int.emod_lt_of_pos (x &&& (9223372036854775807 : Int64)).toInt (b := (b &&& (9223372036854775807 : Int64)).toInt + 1) (by omega)
  omega
theorem own_left (b z : Int64) (h : OkU b z) : (b - z).toInt = b.toInt - z.toInt := by
  have h1 := c_lsub b z; have h2 := rng64 (b - z); have h3 := rng64 b; unfold OkU at h; omega
theorem own_pay (b z : Int64) (h : OkU b z) : ¬ ((b - (0 : Int64)) < z) := by
  rw [Int64.sub_zero, Int64.lt_iff_toInt_lt]; have := h.2; omega
theorem own_succ (a : Int64) (h : ¬ a = (9223372036854775807 : Int64)) : a < a + (1 : Int64) := by
  have h2 := c_ladd a 1; have h3 := rng64 (a + 1); have h4 := rng64 a
  rw [← Int64.toInt_inj] at h
  rw [Int64.lt_iff_toInt_lt]
  simp only [Int64.reduceToInt] at *
  omega
theorem ef_rm1 (m : MethodId) (x0 : Addr) (x1 : Int64) : entryFrame m #[(.ref x0), (.long x1)] 3 = mkF m 0 #[.val (.ref x0), .val (.long x1), .second] [] := by first | (simp [entryFrame, mkF, argsToLocals, Value.category]; done) | rfl
theorem pn_0 : plainName "com/example/tallowcast/tallowcast/graph/Fuel" = true := by first | (simp [plainName, overriddenIn]; done) | decide +kernel
theorem d1_0 : decode prog_33_method_1_code 0 = .ok (.aload_n 0, 1) := by decide +kernel
theorem d1_1 : decode prog_33_method_1_code 1 = .ok (.invokespecial 1, 3) := by decide +kernel
theorem d1_4 : decode prog_33_method_1_code 4 = .ok (.lload_n 1, 1) := by decide +kernel
theorem d1_5 : decode prog_33_method_1_code 5 = .ok (.lconst 0, 1) := by decide +kernel
theorem d1_6 : decode prog_33_method_1_code 6 = .ok (.lcmp, 1) := by decide +kernel
theorem d1_7 : decode prog_33_method_1_code 7 = .ok (.ifCond .ge 17, 3) := by decide +kernel
theorem d1_24 : decode prog_33_method_1_code 24 = .ok (.aload_n 0, 1) := by decide +kernel
theorem d1_25 : decode prog_33_method_1_code 25 = .ok (.lload_n 1, 1) := by decide +kernel
theorem d1_26 : decode prog_33_method_1_code 26 = .ok (.putfield 16, 3) := by decide +kernel
theorem d1_29 : decode prog_33_method_1_code 29 = .ok (.return_, 1) := by decide +kernel
set_option maxRecDepth 65536 in
set_option maxHeartbeats 40000000 in
theorem rm1 (l : Launch) (Z : State) (a0 : Array Value) (hw : ∀ d ∈ tables_1, d.before a0 Z = true) (ws : List Jvm.Cond) (a : Addr) (x1 : Int64) (u_budget : Int64) (u_used : Int64)  (h0 : Heap) (n0 : Nat) (Z0 : n0 ≤ h0.size) (E_a : Exa Z h0 a "com/example/tallowcast/tallowcast/graph/Fuel") (F_0 : Fld Z h0 a "com/example/tallowcast/tallowcast/graph/Fuel" "budget" "J" (.long u_budget)) (F_1 : Fld Z h0 a "com/example/tallowcast/tallowcast/graph/Fuel" "used" "J" (.long u_used)) (g_a : n0 ≤ a) (hx1 : ¬ (x1 < (0 : Int64))) :
    Ctr l Z (⟨"com/example/tallowcast/tallowcast/graph/Fuel", "<init>", "(J)V"⟩ : MethodName) prog_33_method_1_code 3 none ws ({ frames := 1, cells := 0, slots := 0, locals := 12 } : Room) 0 0 #[(.ref a), (.long x1)] h0 (fun v h L => v = none ∧ Fr n0 L ∧ Keep h0 h [a] ∧ Exa Z h a "com/example/tallowcast/tallowcast/graph/Fuel" ∧ Fld Z h a "com/example/tallowcast/tallowcast/graph/Fuel" "budget" "J" (.long x1) ∧ Fld Z h a "com/example/tallowcast/tallowcast/graph/Fuel" "used" "J" (.long u_used)) := by
  refine Ctr.mk (plainFor_of_name pn_0) fun p e s m below meth c T0 X0 C e0 => go_cast (ef_rm1 m a x1) ?_
  have N0 := Fr.nil n0
  obtain ⟨hx, hZ, hby, hml, hown, hnm, hret, hlk⟩ := C
  obtain ⟨hI, eI⟩ : ∃ z, z = h0 := ⟨_, rfl⟩
  have K0 : Keep hI h0 [a] := by rw [eI]; exact Keep.refl _ _
  show Go _ _ _ _ _ _ _ T0 (mkF m 0 #[.val (.ref a), .val (.long x1), .second] [])
  refine Go.step (fun t k => XS.aloadN X0.here hx rfl (hb hby d1_0) rfl rfl k) ?_
  show Go _ _ _ _ _ _ _ T0 (mkF m 1 #[.val (.ref a), .val (.long x1), .second] [(.ref a)])
  obtain ⟨T1, X1, e1, st1⟩ := initO X0 hx hZ hown (hw _ (List.mem_of_getElem? (i := 7) rfl)) (hw _ (List.mem_of_getElem? (i := 8) rfl)) (hw _ (List.mem_of_getElem? (i := 9) rfl)) e0 (g := (mkF m 1 #[.val (.ref a), .val (.long x1), .second] [(.ref a)])) rfl (by rw [hml]; rfl) rfl (hb hby d1_1) (by decide) (W := 0) (by show 2 * 0 + _ ≤ _; exact Nat.le_of_eq rfl) (by decide)
  refine Go.step (st1) ?_
  show Go _ _ _ _ _ _ _ T1 (mkF m 4 #[.val (.ref a), .val (.long x1), .second] [])
  refine Go.step (fun t k => XS.lloadN X1.here hx rfl (hb hby d1_4) rfl k) ?_
  show Go _ _ _ _ _ _ _ T1 (mkF m 5 #[.val (.ref a), .val (.long x1), .second] [(.long x1)])
  refine Go.step (fun t k => XS.lconst X1.here hx rfl (hb hby d1_5) k) ?_
  show Go _ _ _ _ _ _ _ T1 (mkF m 6 #[.val (.ref a), .val (.long x1), .second] [(.long (0 : Int64)), (.long x1)])
  refine Go.step (fun t k => XS.lcmp X1.here hx rfl (hb hby d1_6) rfl k) ?_
  show Go _ _ _ _ _ _ _ T1 (mkF m 7 #[.val (.ref a), .val (.long x1), .second] [(.int (lcmpW x1 (0 : Int64)))])
  refine Go.step (fun t k => XS.ifYes X1.here hx rfl (pc0 := 7) (pc' := 24) rfl (hb hby d1_7) rfl ((if0 _ _).trans (flt (fun q => hx1 ((lw_lt _ _).mp q))).2.1) (by decide) (by decide) k) ?_
  show Go _ _ _ _ _ _ _ T1 (mkF m 24 #[.val (.ref a), .val (.long x1), .second] [])
  refine Go.step (fun t k => XS.aloadN X1.here hx rfl (hb hby d1_24) rfl rfl k) ?_
  show Go _ _ _ _ _ _ _ T1 (mkF m 25 #[.val (.ref a), .val (.long x1), .second] [(.ref a)])
  refine Go.step (fun t k => XS.lloadN X1.here hx rfl (hb hby d1_25) rfl k) ?_
  show Go _ _ _ _ _ _ _ T1 (mkF m 26 #[.val (.ref a), .val (.long x1), .second] [(.long x1), (.ref a)])
  obtain ⟨T2, h2, X2, e2, W2, st2⟩ := putF X1 hx hZ hown (host := "") (Or.inl (hw _ (List.mem_of_getElem? (i := 10) rfl))) Via.refl e1 F_0 E_a (Or.inr ⟨(hw _ (List.mem_of_getElem? (i := 11) rfl)), rfl, hnm⟩) (hw _ (List.mem_of_getElem? (i := 2) rfl)) (ty := .long) (by decide) rfl rfl (g := (mkF m 26 #[.val (.ref a), .val (.long x1), .second] [(.long x1), (.ref a)])) rfl rfl (hb hby d1_26)
  have F2 := Fld.same W2 F_0
  have N2 := Fr.snoc X2 N0 g_a
  have Z2 : n0 ≤ h2.size := Nat.le_trans Z0 (Keep.of_wr W2).1
  have K2 : Keep hI h2 [a] := K0.wr W2 (Or.inl (List.mem_of_getElem? (i := 0) rfl))
  refine Go.step (st2) ?_
  show Go _ _ _ _ _ _ _ T2 (mkF m 29 #[.val (.ref a), .val (.long x1), .second] [])
  have f3 := (Exa.wr W2 E_a)
  have f4 := (Fld.other W2 F_1 (Or.inr (slot_ne (Or.inl (hw _ (List.mem_of_getElem? (i := 23) rfl))) (Or.inr (hw _ (List.mem_of_getElem? (i := 11) rfl))) (by decide) (t := .long) (t' := .long) (by decide) (by decide))))
  refine go_ret X2 hx hret hlk (hb hby d1_29) ?_ (by decide) (by decide)
  try rw [e2]
  exact ⟨rfl, N2, eI ▸ K2, f3, F2, f4⟩
theorem ef_rm4 (m : MethodId) (x0 : Addr) (x1 : Int64) : entryFrame m #[(.ref x0), (.long x1)] 3 = mkF m 0 #[.val (.ref x0), .val (.long x1), .second] [] := by first | (simp [entryFrame, mkF, argsToLocals, Value.category]; done) | rfl
theorem d4_0 : decode prog_33_method_5_code 0 = .ok (.lload_n 1, 1) := by decide +kernel
theorem d4_1 : decode prog_33_method_5_code 1 = .ok (.aload_n 0, 1) := by decide +kernel
theorem d4_2 : decode prog_33_method_5_code 2 = .ok (.getfield 16, 3) := by decide +kernel
theorem d4_5 : decode prog_33_method_5_code 5 = .ok (.aload_n 0, 1) := by decide +kernel
theorem d4_6 : decode prog_33_method_5_code 6 = .ok (.getfield 34, 3) := by decide +kernel
theorem d4_9 : decode prog_33_method_5_code 9 = .ok (.lsub, 1) := by decide +kernel
theorem d4_10 : decode prog_33_method_5_code 10 = .ok (.lcmp, 1) := by decide +kernel
theorem d4_11 : decode prog_33_method_5_code 11 = .ok (.ifCond .gt 7, 3) := by decide +kernel
theorem d4_18 : decode prog_33_method_5_code 18 = .ok (.iconst 0, 1) := by decide +kernel
theorem d4_19 : decode prog_33_method_5_code 19 = .ok (.ireturn, 1) := by decide +kernel
theorem d4_14 : decode prog_33_method_5_code 14 = .ok (.iconst 1, 1) := by decide +kernel
theorem d4_15 : decode prog_33_method_5_code 15 = .ok (.goto 4, 3) := by decide +kernel
set_option maxRecDepth 65536 in
set_option maxHeartbeats 40000000 in
theorem rm4 (l : Launch) (Z : State) (a0 : Array Value) (hw : ∀ d ∈ tables_1, d.before a0 Z = true) (ws : List Jvm.Cond) (a : Addr) (x1 : Int64) (u_budget : Int64) (u_used : Int64)  (h0 : Heap) (n0 : Nat) (Z0 : n0 ≤ h0.size) (E_a : Exa Z h0 a "com/example/tallowcast/tallowcast/graph/Fuel") (F_0 : Fld Z h0 a "com/example/tallowcast/tallowcast/graph/Fuel" "budget" "J" (.long u_budget)) (F_1 : Fld Z h0 a "com/example/tallowcast/tallowcast/graph/Fuel" "used" "J" (.long u_used)) :
    Ctr l Z (⟨"com/example/tallowcast/tallowcast/graph/Fuel", "canPay", "(J)Z"⟩ : MethodName) prog_33_method_5_code 3 (some .boolean) ws ({ frames := 0, cells := 0, slots := 0, locals := 0 } : Room) 0 0 #[(.ref a), (.long x1)] h0 (fun v h L => v = some (.int (bi (¬ ((u_budget - u_used) < x1)))) ∧ L = [] ∧ h = h0) := by
  refine Ctr.mk (plainFor_of_name pn_0) fun p e s m below meth c T0 X0 C e0 => go_cast (ef_rm4 m a x1) ?_
  have N0 := Fr.nil n0
  obtain ⟨hx, hZ, hby, hml, hown, hnm, hret, hlk⟩ := C
  show Go _ _ _ _ _ _ _ T0 (mkF m 0 #[.val (.ref a), .val (.long x1), .second] [])
  refine Go.step (fun t k => XS.lloadN X0.here hx rfl (hb hby d4_0) rfl k) ?_
  show Go _ _ _ _ _ _ _ T0 (mkF m 1 #[.val (.ref a), .val (.long x1), .second] [(.long x1)])
  refine Go.step (fun t k => XS.aloadN X0.here hx rfl (hb hby d4_1) rfl rfl k) ?_
  show Go _ _ _ _ _ _ _ T0 (mkF m 2 #[.val (.ref a), .val (.long x1), .second] [(.ref a), (.long x1)])
  obtain ⟨T1, X1, e1, st1⟩ := getF X0 hx hZ hown (host := "") (Or.inl (hw _ (List.mem_of_getElem? (i := 10) rfl))) Via.refl e0 F_0 (g := (mkF m 2 #[.val (.ref a), .val (.long x1), .second] [(.ref a), (.long x1)])) rfl rfl (hb hby d4_2)
  refine Go.step (st1) ?_
  show Go _ _ _ _ _ _ _ T1 (mkF m 5 #[.val (.ref a), .val (.long x1), .second] [(.long u_budget), (.long x1)])
  refine Go.step (fun t k => XS.aloadN X1.here hx rfl (hb hby d4_5) rfl rfl k) ?_
  show Go _ _ _ _ _ _ _ T1 (mkF m 6 #[.val (.ref a), .val (.long x1), .second] [(.ref a), (.long u_budget), (.long x1)])
  obtain ⟨T2, X2, e2, st2⟩ := getF X1 hx hZ hown (host := "") (Or.inl (hw _ (List.mem_of_getElem? (i := 22) rfl))) Via.refl e1 F_1 (g := (mkF m 6 #[.val (.ref a), .val (.long x1), .second] [(.ref a), (.long u_budget), (.long x1)])) rfl rfl (hb hby d4_6)
  refine Go.step (st2) ?_
  show Go _ _ _ _ _ _ _ T2 (mkF m 9 #[.val (.ref a), .val (.long x1), .second] [(.long u_used), (.long u_budget), (.long x1)])
  refine Go.step (fun t k => XS.lsub X2.here hx rfl (hb hby d4_9) rfl k) ?_
  show Go _ _ _ _ _ _ _ T2 (mkF m 10 #[.val (.ref a), .val (.long x1), .second] [(.long (u_budget - u_used)), (.long x1)])
  refine Go.step (fun t k => XS.lcmp X2.here hx rfl (hb hby d4_10) rfl k) ?_
  show Go _ _ _ _ _ _ _ T2 (mkF m 11 #[.val (.ref a), .val (.long x1), .second] [(.int (lcmpW x1 (u_budget - u_used)))])
  by_cases c11_3 : (u_budget - u_used) < x1
  · refine Go.step (fun t k => XS.ifYes X2.here hx rfl (pc0 := 11) (pc' := 18) rfl (hb hby d4_11) rfl ((if0 _ _).trans (tlt ((lw_gt _ _).mpr c11_3)).2.2.1) (by decide) (by decide) k) ?_
    show Go _ _ _ _ _ _ _ T2 (mkF m 18 #[.val (.ref a), .val (.long x1), .second] [])
    refine Go.step (fun t k => XS.iconst X2.here hx rfl (hb hby d4_18) k) ?_
    show Go _ _ _ _ _ _ _ T2 (mkF m 19 #[.val (.ref a), .val (.long x1), .second] [(.int (0 : Int32))])
    refine go_retN X2 hx (t := .boolean) hret (by simp) hlk (hb hby d4_19) (w := (0 : Int32)) rfl ?_ (by decide) (by decide)
    try rw [e2]
    exact ⟨congrArg (fun z => some (Value.int z)) (bi_f (by simp only [eq_true c11_3, not_true_eq_false, not_false_eq_true, and_true, true_and, and_false, false_and, or_true, true_or, or_false, false_or, and_self, or_self])).symm, rfl, rfl⟩
  · refine Go.step (fun t k => XS.ifNo X2.here hx rfl (hb hby d4_11) rfl ((if0 _ _).trans (flt (fun q => c11_3 ((lw_gt _ _).mp q))).2.2.1) k) ?_
    show Go _ _ _ _ _ _ _ T2 (mkF m 14 #[.val (.ref a), .val (.long x1), .second] [])
    refine Go.step (fun t k => XS.iconst X2.here hx rfl (hb hby d4_14) k) ?_
    show Go _ _ _ _ _ _ _ T2 (mkF m 15 #[.val (.ref a), .val (.long x1), .second] [(.int (1 : Int32))])
    refine Go.step (fun t k => XS.goto X2.here hx rfl (pc0 := 15) (pc' := 19) rfl (hb hby d4_15) (by decide) (by decide) k) ?_
    show Go _ _ _ _ _ _ _ T2 (mkF m 19 #[.val (.ref a), .val (.long x1), .second] [(.int (1 : Int32))])
    refine go_retN X2 hx (t := .boolean) hret (by simp) hlk (hb hby d4_19) (w := (1 : Int32)) rfl ?_ (by decide) (by decide)
    try rw [e2]
    exact ⟨congrArg (fun z => some (Value.int z)) (bi_t (by simp only [eq_false c11_3, not_true_eq_false, not_false_eq_true, and_true, true_and, and_false, false_and, or_true, true_or, or_false, false_or, and_self, or_self])).symm, rfl, rfl⟩
theorem ef_rm3 (m : MethodId) (x0 : Addr) (x1 : Int64) : entryFrame m #[(.ref x0), (.long x1)] 3 = mkF m 0 #[.val (.ref x0), .val (.long x1), .second] [] := by first | (simp [entryFrame, mkF, argsToLocals, Value.category]; done) | rfl
theorem d3_0 : decode prog_33_method_6_code 0 = .ok (.aload_n 0, 1) := by decide +kernel
theorem d3_1 : decode prog_33_method_6_code 1 = .ok (.lload_n 1, 1) := by decide +kernel
theorem pd_0 : parseMethodDescriptor "(J)Z" = some ⟨[.long], some .boolean⟩ := by decide +kernel
theorem d3_2 : decode prog_33_method_6_code 2 = .ok (.invokevirtual 37, 3) := by decide +kernel
theorem d3_5 : decode prog_33_method_6_code 5 = .ok (.ifCond .ne 26, 3) := by decide +kernel
theorem d3_31 : decode prog_33_method_6_code 31 = .ok (.aload_n 0, 1) := by decide +kernel
theorem d3_32 : decode prog_33_method_6_code 32 = .ok (.dup, 1) := by decide +kernel
theorem d3_33 : decode prog_33_method_6_code 33 = .ok (.getfield 34, 3) := by decide +kernel
theorem d3_36 : decode prog_33_method_6_code 36 = .ok (.lload_n 1, 1) := by decide +kernel
theorem d3_37 : decode prog_33_method_6_code 37 = .ok (.ladd, 1) := by decide +kernel
theorem d3_38 : decode prog_33_method_6_code 38 = .ok (.putfield 34, 3) := by decide +kernel
theorem d3_41 : decode prog_33_method_6_code 41 = .ok (.return_, 1) := by decide +kernel
set_option maxRecDepth 65536 in
set_option maxHeartbeats 40000000 in
theorem rm3 (l : Launch) (Z : State) (a0 : Array Value) (hw : ∀ d ∈ tables_1, d.before a0 Z = true) (ws : List Jvm.Cond) (a : Addr) (x1 : Int64) (u_budget : Int64) (u_used : Int64)  (h0 : Heap) (n0 : Nat) (Z0 : n0 ≤ h0.size) (E_a : Exa Z h0 a "com/example/tallowcast/tallowcast/graph/Fuel") (F_0 : Fld Z h0 a "com/example/tallowcast/tallowcast/graph/Fuel" "budget" "J" (.long u_budget)) (F_1 : Fld Z h0 a "com/example/tallowcast/tallowcast/graph/Fuel" "used" "J" (.long u_used)) (g_a : n0 ≤ a) (hpay : ¬ ((u_budget - u_used) < x1)) :
    Ctr l Z (⟨"com/example/tallowcast/tallowcast/graph/Fuel", "charge", "(J)V"⟩ : MethodName) prog_33_method_6_code 3 none ws ({ frames := 1, cells := 0, slots := 0, locals := 14 } : Room) 0 0 #[(.ref a), (.long x1)] h0 (fun v h L => v = none ∧ Fr n0 L ∧ Keep h0 h [a] ∧ Exa Z h a "com/example/tallowcast/tallowcast/graph/Fuel" ∧ Fld Z h a "com/example/tallowcast/tallowcast/graph/Fuel" "budget" "J" (.long u_budget) ∧ Fld Z h a "com/example/tallowcast/tallowcast/graph/Fuel" "used" "J" (.long (u_used + x1))) := by
  refine Ctr.mk (plainFor_of_name pn_0) fun p e s m below meth c T0 X0 C e0 => go_cast (ef_rm3 m a x1) ?_
  have N0 := Fr.nil n0
  obtain ⟨hx, hZ, hby, hml, hown, hnm, hret, hlk⟩ := C
  obtain ⟨hI, eI⟩ : ∃ z, z = h0 := ⟨_, rfl⟩
  have K0 : Keep hI h0 [a] := by rw [eI]; exact Keep.refl _ _
  show Go _ _ _ _ _ _ _ T0 (mkF m 0 #[.val (.ref a), .val (.long x1), .second] [])
  refine Go.step (fun t k => XS.aloadN X0.here hx rfl (hb hby d3_0) rfl rfl k) ?_
  show Go _ _ _ _ _ _ _ T0 (mkF m 1 #[.val (.ref a), .val (.long x1), .second] [(.ref a)])
  refine Go.step (fun t k => XS.lloadN X0.here hx rfl (hb hby d3_1) rfl k) ?_
  show Go _ _ _ _ _ _ _ T0 (mkF m 2 #[.val (.ref a), .val (.long x1), .second] [(.long x1), (.ref a)])
  obtain ⟨v1, T1, L1, X1, q1, st1⟩ := c_virt X0 hx hZ hown (y' := (⟨"com/example/tallowcast/tallowcast/graph/Fuel", "canPay", "(J)Z"⟩ : MethodName)) (y := (⟨"com/example/tallowcast/tallowcast/graph/Fuel", "canPay", "(J)Z"⟩ : MethodName)) (C := "com/example/tallowcast/tallowcast/graph/Fuel") (hw _ (List.mem_of_getElem? (i := 17) rfl)) (hw _ (List.mem_of_getElem? (i := 18) rfl)) (notFace_of_selects (args := #[]) (mvT hZ (hw _ (List.mem_of_getElem? (i := 20) rfl)))) (hw _ (List.mem_of_getElem? (i := 20) rfl)) (hw _ (List.mem_of_getElem? (i := 19) rfl)) (hw _ (List.mem_of_getElem? (i := 3) rfl)) (hw _ (List.mem_of_getElem? (i := 21) rfl)) (by decide) (a := a) (argsL := [(.long x1)]) (rest := []) (rm4 l Z a0 hw [] a (x1) (u_budget) (u_used)  h0 n0 Z0 E_a F_0 F_1  ) e0 E_a pd_0 rfl (by rw [hml]; rfl) (W := 0) (by show 2 * 0 + _ ≤ _; exact Nat.le_of_eq rfl) (by decide) (by decide) (by decide) (by decide) (hb hby d3_2) (Ls := #[.val (.ref a), .val (.long x1), .second])
  obtain ⟨rfl, rfl, e1⟩ := q1
  have N1 := Fr.app N0 (Fr.nil n0)
  refine Go.step (st1) ?_
  show Go _ _ _ _ _ _ _ T1 (mkF m 5 #[.val (.ref a), .val (.long x1), .second] [(.int (bi (¬ ((u_budget - u_used) < x1))))])
  refine Go.step (fun t k => XS.ifYes X1.here hx rfl (pc0 := 5) (pc' := 31) rfl (hb hby d3_5) rfl ((if0 _ _).trans (feq (bi_n hpay)).2) (by decide) (by decide) k) ?_
  show Go _ _ _ _ _ _ _ T1 (mkF m 31 #[.val (.ref a), .val (.long x1), .second] [])
  refine Go.step (fun t k => XS.aloadN X1.here hx rfl (hb hby d3_31) rfl rfl k) ?_
  show Go _ _ _ _ _ _ _ T1 (mkF m 32 #[.val (.ref a), .val (.long x1), .second] [(.ref a)])
  refine Go.step (fun t k => XS.dup X1.here hx rfl (hb hby d3_32) rfl rfl k) ?_
  show Go _ _ _ _ _ _ _ T1 (mkF m 33 #[.val (.ref a), .val (.long x1), .second] [(.ref a), (.ref a)])
  obtain ⟨T2, X2, e2, st2⟩ := getF X1 hx hZ hown (host := "") (Or.inl (hw _ (List.mem_of_getElem? (i := 22) rfl))) Via.refl e1 F_1 (g := (mkF m 33 #[.val (.ref a), .val (.long x1), .second] [(.ref a), (.ref a)])) rfl rfl (hb hby d3_33)
  refine Go.step (st2) ?_
  show Go _ _ _ _ _ _ _ T2 (mkF m 36 #[.val (.ref a), .val (.long x1), .second] [(.long u_used), (.ref a)])
  refine Go.step (fun t k => XS.lloadN X2.here hx rfl (hb hby d3_36) rfl k) ?_
  show Go _ _ _ _ _ _ _ T2 (mkF m 37 #[.val (.ref a), .val (.long x1), .second] [(.long x1), (.long u_used), (.ref a)])
  refine Go.step (fun t k => XS.ladd X2.here hx rfl (hb hby d3_37) rfl k) ?_
  show Go _ _ _ _ _ _ _ T2 (mkF m 38 #[.val (.ref a), .val (.long x1), .second] [(.long (u_used + x1)), (.ref a)])
  obtain ⟨T3, h3, X3, e3, W3, st3⟩ := putF X2 hx hZ hown (host := "") (Or.inl (hw _ (List.mem_of_getElem? (i := 22) rfl))) Via.refl e2 F_1 E_a (Or.inl (hw _ (List.mem_of_getElem? (i := 23) rfl))) (hw _ (List.mem_of_getElem? (i := 2) rfl)) (ty := .long) (by decide) rfl rfl (g := (mkF m 38 #[.val (.ref a), .val (.long x1), .second] [(.long (u_used + x1)), (.ref a)])) rfl rfl (hb hby d3_38)
  have F3 := Fld.same W3 F_1
  have N3 := Fr.snoc X3 N1 g_a
  have Z3 : n0 ≤ h3.size := Nat.le_trans Z0 (Keep.of_wr W3).1
  have K3 : Keep hI h3 [a] := K0.wr W3 (Or.inl (List.mem_of_getElem? (i := 0) rfl))
  refine Go.step (st3) ?_
  show Go _ _ _ _ _ _ _ T3 (mkF m 41 #[.val (.ref a), .val (.long x1), .second] [])
  have f4 := (Exa.wr W3 E_a)
  have f5 := (Fld.other W3 F_0 (Or.inr (slot_ne (Or.inr (hw _ (List.mem_of_getElem? (i := 11) rfl))) (Or.inl (hw _ (List.mem_of_getElem? (i := 23) rfl))) (by decide) (t := .long) (t' := .long) (by decide) (by decide))))
  refine go_ret X3 hx hret hlk (hb hby d3_41) ?_ (by decide) (by decide)
  try rw [e3]
  exact ⟨rfl, N3, eI ▸ K3, f4, f5, F3⟩
theorem ef_rm5 (m : MethodId) (x0 : Addr) : entryFrame m #[(.ref x0)] 1 = mkF m 0 #[.val (.ref x0)] [] := by first | (simp [entryFrame, mkF, argsToLocals, Value.category]; done) | rfl
theorem d5_0 : decode prog_33_method_4_code 0 = .ok (.aload_n 0, 1) := by decide +kernel
theorem d5_1 : decode prog_33_method_4_code 1 = .ok (.getfield 34, 3) := by decide +kernel
theorem d5_4 : decode prog_33_method_4_code 4 = .ok (.lreturn, 1) := by decide +kernel
set_option maxRecDepth 65536 in
set_option maxHeartbeats 40000000 in
theorem rm5 (l : Launch) (Z : State) (a0 : Array Value) (hw : ∀ d ∈ tables_1, d.before a0 Z = true) (ws : List Jvm.Cond) (a : Addr) (u_budget : Int64) (u_used : Int64)  (h0 : Heap) (n0 : Nat) (Z0 : n0 ≤ h0.size) (E_a : Exa Z h0 a "com/example/tallowcast/tallowcast/graph/Fuel") (F_0 : Fld Z h0 a "com/example/tallowcast/tallowcast/graph/Fuel" "budget" "J" (.long u_budget)) (F_1 : Fld Z h0 a "com/example/tallowcast/tallowcast/graph/Fuel" "used" "J" (.long u_used)) :
    Ctr l Z (⟨"com/example/tallowcast/tallowcast/graph/Fuel", "used", "()J"⟩ : MethodName) prog_33_method_4_code 1 (some .long) ws ({ frames := 0, cells := 0, slots := 0, locals := 0 } : Room) 0 0 #[(.ref a)] h0 (fun v h L => v = some (.long u_used) ∧ L = [] ∧ h = h0) := by
  refine Ctr.mk (plainFor_of_name pn_0) fun p e s m below meth c T0 X0 C e0 => go_cast (ef_rm5 m a) ?_
  have N0 := Fr.nil n0
  obtain ⟨hx, hZ, hby, hml, hown, hnm, hret, hlk⟩ := C
  show Go _ _ _ _ _ _ _ T0 (mkF m 0 #[.val (.ref a)] [])
  refine Go.step (fun t k => XS.aloadN X0.here hx rfl (hb hby d5_0) rfl rfl k) ?_
  show Go _ _ _ _ _ _ _ T0 (mkF m 1 #[.val (.ref a)] [(.ref a)])
  obtain ⟨T1, X1, e1, st1⟩ := getF X0 hx hZ hown (host := "") (Or.inl (hw _ (List.mem_of_getElem? (i := 22) rfl))) Via.refl e0 F_1 (g := (mkF m 1 #[.val (.ref a)] [(.ref a)])) rfl rfl (hb hby d5_1)
  refine Go.step (st1) ?_
  show Go _ _ _ _ _ _ _ T1 (mkF m 4 #[.val (.ref a)] [(.long u_used)])
  refine go_retJ X1 hx hret hlk (hb hby d5_4) ?_ (by decide) (by decide)
  try rw [e1]
  exact ⟨rfl, rfl, rfl⟩
theorem ef_rm0 (m : MethodId) (x0 : Int64) (x1 : Int64) (x2 : Int64) : entryFrame m #[(.long x0), (.long x1), (.long x2)] maxLocals = mkF m 0 #[.val (.long x0), .second, .val (.long x1), .second, .val (.long x2), .second, .unset, .unset, .unset, .unset, .unset, .unset, .unset, .unset, .unset, .unset, .unset, .unset, .unset] [] := by first | (simp [entryFrame, mkF, argsToLocals, Value.category, maxLocals]; done) | rfl
theorem pn_1 : plainName "com/example/tallowcast/tallowcast/graph/FuelCanPayPinLaw" = true := by first | (simp [plainName, overriddenIn]; done) | decide +kernel
theorem pd_1 : parseMethodDescriptor "(J)V" = some ⟨[.long], none⟩ := by decide +kernel
theorem pd_2 : parseMethodDescriptor "()J" = some ⟨[], some .long⟩ := by decide +kernel
set_option maxRecDepth 65536 in
set_option maxHeartbeats 40000000 in
theorem rm0 (l : Launch) (Z : State) (a0 : Array Value) (hw : ∀ d ∈ tables_1, d.before a0 Z = true) (ws : List Jvm.Cond) (i0 i1 i2 : Int64) (h0 : Heap) (n0 : Nat) (Z0 : n0 ≤ h0.size)  :
    Ctr l Z x code maxLocals ret ws room_1 16 128 #[(.long i0), (.long i1), (.long i2)] h0 (fun v h L => v = some (.int (1 : Int32)) ∧ Fr n0 L) := by
  refine Ctr.mk (plainFor_of_name pn_1) fun p e s m below meth c T0 X0 C e0 => go_cast (ef_rm0 m i0 i1 i2) ?_
  have N0 := Fr.nil n0
  obtain ⟨hx, hZ, hby, hml, hown, hnm, hret, hlk⟩ := C
  show Go _ _ _ _ _ _ _ T0 (mkF m 0 #[.val (.long i0), .second, .val (.long i1), .second, .val (.long i2), .second, .unset, .unset, .unset, .unset, .unset, .unset, .unset, .unset, .unset, .unset, .unset, .unset, .unset] [])
  refine Go.step (fun t k => XS.lloadN X0.here hx rfl (hb hby at_0) rfl k) ?_
  show Go _ _ _ _ _ _ _ T0 (mkF m 1 #[.val (.long i0), .second, .val (.long i1), .second, .val (.long i2), .second, .unset, .unset, .unset, .unset, .unset, .unset, .unset, .unset, .unset, .unset, .unset, .unset, .unset] [(.long i0)])
  refine Go.step (X0.ldc2Long hx hown (mvT hZ (hw _ (List.mem_of_getElem? (i := 0) rfl))) (g := (mkF m 1 #[.val (.long i0), .second, .val (.long i1), .second, .val (.long i2), .second, .unset, .unset, .unset, .unset, .unset, .unset, .unset, .unset, .unset, .unset, .unset, .unset, .unset] [(.long i0)])) rfl (hb hby at_1)) ?_
  show Go _ _ _ _ _ _ _ T0 (mkF m 4 #[.val (.long i0), .second, .val (.long i1), .second, .val (.long i2), .second, .unset, .unset, .unset, .unset, .unset, .unset, .unset, .unset, .unset, .unset, .unset, .unset, .unset] [(.long (9223372036854775807 : Int64)), (.long i0)])
  refine Go.step (fun t k => XS.land X0.here hx rfl (hb hby at_4) rfl k) ?_
  show Go _ _ _ _ _ _ _ T0 (mkF m 5 #[.val (.long i0), .second, .val (.long i1), .second, .val (.long i2), .second, .unset, .unset, .unset, .unset, .unset, .unset, .unset, .unset, .unset, .unset, .unset, .unset, .unset] [(.long (i0 &&& (9223372036854775807 : Int64)))])
  refine Go.step (fun t k => XS.lstore X0.here hx rfl (hb hby at_5) rfl (l' := #[.val (.long i0), .second, .val (.long i1), .second, .val (.long i2), .second, .val (.long (i0 &&& (9223372036854775807 : Int64))), .second, .unset, .unset, .unset, .unset, .unset, .unset, .unset, .unset, .unset, .unset, .unset]) rfl k) ?_
  show Go _ _ _ _ _ _ _ T0 (mkF m 7 #[.val (.long i0), .second, .val (.long i1), .second, .val (.long i2), .second, .val (.long (i0 &&& (9223372036854775807 : Int64))), .second, .unset, .unset, .unset, .unset, .unset, .unset, .unset, .unset, .unset, .unset, .unset] [])
  refine Go.step (fun t k => XS.lloadN X0.here hx rfl (hb hby at_7) rfl k) ?_
  show Go _ _ _ _ _ _ _ T0 (mkF m 8 #[.val (.long i0), .second, .val (.long i1), .second, .val (.long i2), .second, .val (.long (i0 &&& (9223372036854775807 : Int64))), .second, .unset, .unset, .unset, .unset, .unset, .unset, .unset, .unset, .unset, .unset, .unset] [(.long i1)])
  refine Go.step (X0.ldc2Long hx hown (mvT hZ (hw _ (List.mem_of_getElem? (i := 0) rfl))) (g := (mkF m 8 #[.val (.long i0), .second, .val (.long i1), .second, .val (.long i2), .second, .val (.long (i0 &&& (9223372036854775807 : Int64))), .second, .unset, .unset, .unset, .unset, .unset, .unset, .unset, .unset, .unset, .unset, .unset] [(.long i1)])) rfl (hb hby at_8)) ?_
  show Go _ _ _ _ _ _ _ T0 (mkF m 11 #[.val (.long i0), .second, .val (.long i1), .second, .val (.long i2), .second, .val (.long (i0 &&& (9223372036854775807 : Int64))), .second, .unset, .unset, .unset, .unset, .unset, .unset, .unset, .unset, .unset, .unset, .unset] [(.long (9223372036854775807 : Int64)), (.long i1)])
  refine Go.step (fun t k => XS.land X0.here hx rfl (hb hby at_11) rfl k) ?_
  show Go _ _ _ _ _ _ _ T0 (mkF m 12 #[.val (.long i0), .second, .val (.long i1), .second, .val (.long i2), .second, .val (.long (i0 &&& (9223372036854775807 : Int64))), .second, .unset, .unset, .unset, .unset, .unset, .unset, .unset, .unset, .unset, .unset, .unset] [(.long (i1 &&& (9223372036854775807 : Int64)))])
  refine Go.step (fun t k => XS.lstore X0.here hx rfl (hb hby at_12) rfl (l' := #[.val (.long i0), .second, .val (.long i1), .second, .val (.long i2), .second, .val (.long (i0 &&& (9223372036854775807 : Int64))), .second, .val (.long (i1 &&& (9223372036854775807 : Int64))), .second, .unset, .unset, .unset, .unset, .unset, .unset, .unset, .unset, .unset]) rfl k) ?_
  show Go _ _ _ _ _ _ _ T0 (mkF m 14 #[.val (.long i0), .second, .val (.long i1), .second, .val (.long i2), .second, .val (.long (i0 &&& (9223372036854775807 : Int64))), .second, .val (.long (i1 &&& (9223372036854775807 : Int64))), .second, .unset, .unset, .unset, .unset, .unset, .unset, .unset, .unset, .unset] [])
  refine Go.step (fun t k => XS.lload X0.here hx rfl (hb hby at_14) rfl k) ?_
  show Go _ _ _ _ _ _ _ T0 (mkF m 16 #[.val (.long i0), .second, .val (.long i1), .second, .val (.long i2), .second, .val (.long (i0 &&& (9223372036854775807 : Int64))), .second, .val (.long (i1 &&& (9223372036854775807 : Int64))), .second, .unset, .unset, .unset, .unset, .unset, .unset, .unset, .unset, .unset] [(.long (i0 &&& (9223372036854775807 : Int64)))])
  refine Go.step (X0.ldc2Long hx hown (mvT hZ (hw _ (List.mem_of_getElem? (i := 0) rfl))) (g := (mkF m 16 #[.val (.long i0), .second, .val (.long i1), .second, .val (.long i2), .second, .val (.long (i0 &&& (9223372036854775807 : Int64))), .second, .val (.long (i1 &&& (9223372036854775807 : Int64))), .second, .unset, .unset, .unset, .unset, .unset, .unset, .unset, .unset, .unset] [(.long (i0 &&& (9223372036854775807 : Int64)))])) rfl (hb hby at_16)) ?_
  show Go _ _ _ _ _ _ _ T0 (mkF m 19 #[.val (.long i0), .second, .val (.long i1), .second, .val (.long i2), .second, .val (.long (i0 &&& (9223372036854775807 : Int64))), .second, .val (.long (i1 &&& (9223372036854775807 : Int64))), .second, .unset, .unset, .unset, .unset, .unset, .unset, .unset, .unset, .unset] [(.long (9223372036854775807 : Int64)), (.long (i0 &&& (9223372036854775807 : Int64)))])
  refine Go.step (fun t k => XS.lcmp X0.here hx rfl (hb hby at_19) rfl k) ?_
  show Go _ _ _ _ _ _ _ T0 (mkF m 20 #[.val (.long i0), .second, .val (.long i1), .second, .val (.long i2), .second, .val (.long (i0 &&& (9223372036854775807 : Int64))), .second, .val (.long (i1 &&& (9223372036854775807 : Int64))), .second, .unset, .unset, .unset, .unset, .unset, .unset, .unset, .unset, .unset] [(.int (lcmpW (i0 &&& (9223372036854775807 : Int64)) (9223372036854775807 : Int64)))])
  have j20 : ∀ z : Int64, OkU (i0 &&& (9223372036854775807 : Int64)) z → Go p e s below 16 128 (fun v h L => v = some (.int (1 : Int32)) ∧ Fr n0 L) T0 (mkF m 35 #[.val (.long i0), .second, .val (.long i1), .second, .val (.long i2), .second, .val (.long (i0 &&& (9223372036854775807 : Int64))), .second, .val (.long (i1 &&& (9223372036854775807 : Int64))), .second, .unset, .unset, .unset, .unset, .unset, .unset, .unset, .unset, .unset] [(.long z)]) := by
    intro z hz
    refine Go.step (fun t k => XS.lstore X0.here hx rfl (hb hby at_35) rfl (l' := #[.val (.long i0), .second, .val (.long i1), .second, .val (.long i2), .second, .val (.long (i0 &&& (9223372036854775807 : Int64))), .second, .val (.long (i1 &&& (9223372036854775807 : Int64))), .second, .val (.long z), .second, .unset, .unset, .unset, .unset, .unset, .unset, .unset]) rfl k) ?_
    show Go _ _ _ _ _ _ _ T0 (mkF m 37 #[.val (.long i0), .second, .val (.long i1), .second, .val (.long i2), .second, .val (.long (i0 &&& (9223372036854775807 : Int64))), .second, .val (.long (i1 &&& (9223372036854775807 : Int64))), .second, .val (.long z), .second, .unset, .unset, .unset, .unset, .unset, .unset, .unset] [])
    obtain ⟨T1, h1, X1, e1, E1, A1, D1, -, st1⟩ := newO X0 hx hZ hown (hw _ (List.mem_of_getElem? (i := 1) rfl)) (hw _ (List.mem_of_getElem? (i := 2) rfl)) (hw _ (List.mem_of_getElem? (i := 3) rfl)) e0 (g := (mkF m 37 #[.val (.long i0), .second, .val (.long i1), .second, .val (.long i2), .second, .val (.long (i0 &&& (9223372036854775807 : Int64))), .second, .val (.long (i1 &&& (9223372036854775807 : Int64))), .second, .val (.long z), .second, .unset, .unset, .unset, .unset, .unset, .unset, .unset] [])) rfl (hb hby at_37) (by decide) (by decide)
    obtain ⟨b1, g1⟩ : ∃ z, z = h0.size := ⟨_, rfl⟩
    rw [← g1] at A1 D1 st1
    have gn_b1 : n0 ≤ b1 := Nat.le_trans Z0 (Nat.le_of_eq g1.symm)
    have Z1 : n0 ≤ h1.size := Nat.le_trans Z0 E1.1
    have F1_budget : Fld Z h1 b1 "com/example/tallowcast/tallowcast/graph/Fuel" "budget" "J" (.long (0 : Int64)) := D1 (Or.inr (hw _ (List.mem_of_getElem? (i := 11) rfl))) (ty := .long) (by decide)
    have F1_used : Fld Z h1 b1 "com/example/tallowcast/tallowcast/graph/Fuel" "used" "J" (.long (0 : Int64)) := D1 (Or.inl (hw _ (List.mem_of_getElem? (i := 23) rfl))) (ty := .long) (by decide)
    refine Go.step (st1) ?_
    show Go _ _ _ _ _ _ _ T1 (mkF m 40 #[.val (.long i0), .second, .val (.long i1), .second, .val (.long i2), .second, .val (.long (i0 &&& (9223372036854775807 : Int64))), .second, .val (.long (i1 &&& (9223372036854775807 : Int64))), .second, .val (.long z), .second, .unset, .unset, .unset, .unset, .unset, .unset, .unset] [(.ref b1)])
    refine Go.step (fun t k => XS.dup X1.here hx rfl (hb hby at_40) rfl rfl k) ?_
    show Go _ _ _ _ _ _ _ T1 (mkF m 41 #[.val (.long i0), .second, .val (.long i1), .second, .val (.long i2), .second, .val (.long (i0 &&& (9223372036854775807 : Int64))), .second, .val (.long (i1 &&& (9223372036854775807 : Int64))), .second, .val (.long z), .second, .unset, .unset, .unset, .unset, .unset, .unset, .unset] [(.ref b1), (.ref b1)])
    refine Go.step (fun t k => XS.lload X1.here hx rfl (hb hby at_41) rfl k) ?_
    show Go _ _ _ _ _ _ _ T1 (mkF m 43 #[.val (.long i0), .second, .val (.long i1), .second, .val (.long i2), .second, .val (.long (i0 &&& (9223372036854775807 : Int64))), .second, .val (.long (i1 &&& (9223372036854775807 : Int64))), .second, .val (.long z), .second, .unset, .unset, .unset, .unset, .unset, .unset, .unset] [(.long (i0 &&& (9223372036854775807 : Int64))), (.ref b1), (.ref b1)])
    obtain ⟨v2, T2, L2, X2, q2, st2⟩ := c_init X1 hx hZ hown (y := (⟨"com/example/tallowcast/tallowcast/graph/Fuel", "<init>", "(J)V"⟩ : MethodName)) (hw _ (List.mem_of_getElem? (i := 4) rfl)) (hw _ (List.mem_of_getElem? (i := 5) rfl)) (hw _ (List.mem_of_getElem? (i := 3) rfl)) (hw _ (List.mem_of_getElem? (i := 6) rfl)) rfl (by decide) (a := b1) (argsL := [(.long (i0 &&& (9223372036854775807 : Int64)))]) (rest := [(.ref b1)]) (rm1 l Z a0 hw [] b1 ((i0 &&& (9223372036854775807 : Int64))) ((0 : Int64)) ((0 : Int64))  h1 n0 Z1 A1 F1_budget F1_used gn_b1 (own_nn i0)) e1 pd_1 rfl (by rw [hml]; rfl) (W := 1) (by show 2 * 0 + _ ≤ _; exact Nat.le_of_eq rfl) (by decide) (by decide) (by decide) (by decide) (hb hby at_43) (Ls := #[.val (.long i0), .second, .val (.long i1), .second, .val (.long i2), .second, .val (.long (i0 &&& (9223372036854775807 : Int64))), .second, .val (.long (i1 &&& (9223372036854775807 : Int64))), .second, .val (.long z), .second, .unset, .unset, .unset, .unset, .unset, .unset, .unset])
    generalize e2 : T2.heap = h2 at q2
    obtain ⟨rfl, N2q, K2q, E2q, F2q0, F2q1⟩ := q2
    have N2 := Fr.app N0 N2q
    have Z2 : n0 ≤ h2.size := Nat.le_trans Z1 K2q.1
    refine Go.step (st2) ?_
    show Go _ _ _ _ _ _ _ T2 (mkF m 46 #[.val (.long i0), .second, .val (.long i1), .second, .val (.long i2), .second, .val (.long (i0 &&& (9223372036854775807 : Int64))), .second, .val (.long (i1 &&& (9223372036854775807 : Int64))), .second, .val (.long z), .second, .unset, .unset, .unset, .unset, .unset, .unset, .unset] [(.ref b1)])
    refine Go.step (fun t k => XS.astore X2.here hx rfl (hb hby at_46) rfl rfl (l' := #[.val (.long i0), .second, .val (.long i1), .second, .val (.long i2), .second, .val (.long (i0 &&& (9223372036854775807 : Int64))), .second, .val (.long (i1 &&& (9223372036854775807 : Int64))), .second, .val (.long z), .second, .val (.ref b1), .unset, .unset, .unset, .unset, .unset, .unset]) rfl k) ?_
    show Go _ _ _ _ _ _ _ T2 (mkF m 48 #[.val (.long i0), .second, .val (.long i1), .second, .val (.long i2), .second, .val (.long (i0 &&& (9223372036854775807 : Int64))), .second, .val (.long (i1 &&& (9223372036854775807 : Int64))), .second, .val (.long z), .second, .val (.ref b1), .unset, .unset, .unset, .unset, .unset, .unset] [])
    refine Go.step (fun t k => XS.aload X2.here hx rfl (hb hby at_48) rfl rfl k) ?_
    show Go _ _ _ _ _ _ _ T2 (mkF m 50 #[.val (.long i0), .second, .val (.long i1), .second, .val (.long i2), .second, .val (.long (i0 &&& (9223372036854775807 : Int64))), .second, .val (.long (i1 &&& (9223372036854775807 : Int64))), .second, .val (.long z), .second, .val (.ref b1), .unset, .unset, .unset, .unset, .unset, .unset] [(.ref b1)])
    refine Go.step (fun t k => XS.lload X2.here hx rfl (hb hby at_50) rfl k) ?_
    show Go _ _ _ _ _ _ _ T2 (mkF m 52 #[.val (.long i0), .second, .val (.long i1), .second, .val (.long i2), .second, .val (.long (i0 &&& (9223372036854775807 : Int64))), .second, .val (.long (i1 &&& (9223372036854775807 : Int64))), .second, .val (.long z), .second, .val (.ref b1), .unset, .unset, .unset, .unset, .unset, .unset] [(.long z), (.ref b1)])
    obtain ⟨v3, T3, L3, X3, q3, st3⟩ := c_virt X2 hx hZ hown (y' := (⟨"com/example/tallowcast/tallowcast/graph/Fuel", "charge", "(J)V"⟩ : MethodName)) (y := (⟨"com/example/tallowcast/tallowcast/graph/Fuel", "charge", "(J)V"⟩ : MethodName)) (C := "com/example/tallowcast/tallowcast/graph/Fuel") (hw _ (List.mem_of_getElem? (i := 12) rfl)) (hw _ (List.mem_of_getElem? (i := 13) rfl)) (notFace_of_selects (args := #[]) (mvT hZ (hw _ (List.mem_of_getElem? (i := 15) rfl)))) (hw _ (List.mem_of_getElem? (i := 15) rfl)) (hw _ (List.mem_of_getElem? (i := 14) rfl)) (hw _ (List.mem_of_getElem? (i := 3) rfl)) (hw _ (List.mem_of_getElem? (i := 16) rfl)) (by decide) (a := b1) (argsL := [(.long z)]) (rest := []) (rm3 l Z a0 hw [] b1 (z) ((i0 &&& (9223372036854775807 : Int64))) ((0 : Int64))  h2 n0 Z2 E2q F2q0 F2q1 gn_b1 (own_pay _ _ hz)) e2 E2q pd_1 rfl (by rw [hml]; rfl) (W := 0) (by show 2 * 0 + _ ≤ _; exact Nat.le_of_eq rfl) (by decide) (by decide) (by decide) (by decide) (hb hby at_52) (Ls := #[.val (.long i0), .second, .val (.long i1), .second, .val (.long i2), .second, .val (.long (i0 &&& (9223372036854775807 : Int64))), .second, .val (.long (i1 &&& (9223372036854775807 : Int64))), .second, .val (.long z), .second, .val (.ref b1), .unset, .unset, .unset, .unset, .unset, .unset])
    generalize e3 : T3.heap = h3 at q3
    obtain ⟨rfl, N3q, K3q, E3q, F3q0, F3q1⟩ := q3
    have N3 := Fr.app N2 N3q
    have Z3 : n0 ≤ h3.size := Nat.le_trans Z2 K3q.1
    refine Go.step (st3) ?_
    show Go _ _ _ _ _ _ _ T3 (mkF m 55 #[.val (.long i0), .second, .val (.long i1), .second, .val (.long i2), .second, .val (.long (i0 &&& (9223372036854775807 : Int64))), .second, .val (.long (i1 &&& (9223372036854775807 : Int64))), .second, .val (.long z), .second, .val (.ref b1), .unset, .unset, .unset, .unset, .unset, .unset] [])
    have f4 : Fld Z h3 b1 "com/example/tallowcast/tallowcast/graph/Fuel" "used" "J" (.long z) := by
      have q := F3q1
      rwa [Int64.zero_add] at q
    refine Go.step (fun t k => XS.lload X3.here hx rfl (hb hby at_55) rfl k) ?_
    show Go _ _ _ _ _ _ _ T3 (mkF m 57 #[.val (.long i0), .second, .val (.long i1), .second, .val (.long i2), .second, .val (.long (i0 &&& (9223372036854775807 : Int64))), .second, .val (.long (i1 &&& (9223372036854775807 : Int64))), .second, .val (.long z), .second, .val (.ref b1), .unset, .unset, .unset, .unset, .unset, .unset] [(.long (i0 &&& (9223372036854775807 : Int64)))])
    refine Go.step (fun t k => XS.lload X3.here hx rfl (hb hby at_57) rfl k) ?_
    show Go _ _ _ _ _ _ _ T3 (mkF m 59 #[.val (.long i0), .second, .val (.long i1), .second, .val (.long i2), .second, .val (.long (i0 &&& (9223372036854775807 : Int64))), .second, .val (.long (i1 &&& (9223372036854775807 : Int64))), .second, .val (.long z), .second, .val (.ref b1), .unset, .unset, .unset, .unset, .unset, .unset] [(.long z), (.long (i0 &&& (9223372036854775807 : Int64)))])
    refine Go.step (fun t k => XS.lsub X3.here hx rfl (hb hby at_59) rfl k) ?_
    show Go _ _ _ _ _ _ _ T3 (mkF m 60 #[.val (.long i0), .second, .val (.long i1), .second, .val (.long i2), .second, .val (.long (i0 &&& (9223372036854775807 : Int64))), .second, .val (.long (i1 &&& (9223372036854775807 : Int64))), .second, .val (.long z), .second, .val (.ref b1), .unset, .unset, .unset, .unset, .unset, .unset] [(.long ((i0 &&& (9223372036854775807 : Int64)) - z))])
    refine Go.step (fun t k => XS.lstore X3.here hx rfl (hb hby at_60) rfl (l' := #[.val (.long i0), .second, .val (.long i1), .second, .val (.long i2), .second, .val (.long (i0 &&& (9223372036854775807 : Int64))), .second, .val (.long (i1 &&& (9223372036854775807 : Int64))), .second, .val (.long z), .second, .val (.ref b1), .val (.long ((i0 &&& (9223372036854775807 : Int64)) - z)), .second, .unset, .unset, .unset, .unset]) rfl k) ?_
    show Go _ _ _ _ _ _ _ T3 (mkF m 62 #[.val (.long i0), .second, .val (.long i1), .second, .val (.long i2), .second, .val (.long (i0 &&& (9223372036854775807 : Int64))), .second, .val (.long (i1 &&& (9223372036854775807 : Int64))), .second, .val (.long z), .second, .val (.ref b1), .val (.long ((i0 &&& (9223372036854775807 : Int64)) - z)), .second, .unset, .unset, .unset, .unset] [])
    refine Go.step (fun t k => XS.lload X3.here hx rfl (hb hby at_62) rfl k) ?_
    show Go _ _ _ _ _ _ _ T3 (mkF m 64 #[.val (.long i0), .second, .val (.long i1), .second, .val (.long i2), .second, .val (.long (i0 &&& (9223372036854775807 : Int64))), .second, .val (.long (i1 &&& (9223372036854775807 : Int64))), .second, .val (.long z), .second, .val (.ref b1), .val (.long ((i0 &&& (9223372036854775807 : Int64)) - z)), .second, .unset, .unset, .unset, .unset] [(.long i2)])
    refine Go.step (fun t k => XS.lload X3.here hx rfl (hb hby at_64) rfl k) ?_
    show Go _ _ _ _ _ _ _ T3 (mkF m 66 #[.val (.long i0), .second, .val (.long i1), .second, .val (.long i2), .second, .val (.long (i0 &&& (9223372036854775807 : Int64))), .second, .val (.long (i1 &&& (9223372036854775807 : Int64))), .second, .val (.long z), .second, .val (.ref b1), .val (.long ((i0 &&& (9223372036854775807 : Int64)) - z)), .second, .unset, .unset, .unset, .unset] [(.long ((i0 &&& (9223372036854775807 : Int64)) - z)), (.long i2)])
    refine Go.step (fun t k => XS.lcmp X3.here hx rfl (hb hby at_66) rfl k) ?_
    show Go _ _ _ _ _ _ _ T3 (mkF m 67 #[.val (.long i0), .second, .val (.long i1), .second, .val (.long i2), .second, .val (.long (i0 &&& (9223372036854775807 : Int64))), .second, .val (.long (i1 &&& (9223372036854775807 : Int64))), .second, .val (.long z), .second, .val (.ref b1), .val (.long ((i0 &&& (9223372036854775807 : Int64)) - z)), .second, .unset, .unset, .unset, .unset] [(.int (lcmpW i2 ((i0 &&& (9223372036854775807 : Int64)) - z)))])
    obtain ⟨q67, hq67⟩ : ∃ q : Bool, q = true ↔ (¬ (((i0 &&& (9223372036854775807 : Int64)) - z) < i2)) := ⟨decide (¬ (((i0 &&& (9223372036854775807 : Int64)) - z) < i2)), decide_eq_true_iff⟩
    have j67 : Go p e s below 16 128 (fun v h L => v = some (.int (1 : Int32)) ∧ Fr n0 L) T3 (mkF m 75 #[.val (.long i0), .second, .val (.long i1), .second, .val (.long i2), .second, .val (.long (i0 &&& (9223372036854775807 : Int64))), .second, .val (.long (i1 &&& (9223372036854775807 : Int64))), .second, .val (.long z), .second, .val (.ref b1), .val (.long ((i0 &&& (9223372036854775807 : Int64)) - z)), .second, .unset, .unset, .unset, .unset] [(.int (bi (q67 = true)))]) := by
      refine Go.step (fun t k => XS.istore X3.here hx rfl (hb hby at_75) rfl (l' := #[.val (.long i0), .second, .val (.long i1), .second, .val (.long i2), .second, .val (.long (i0 &&& (9223372036854775807 : Int64))), .second, .val (.long (i1 &&& (9223372036854775807 : Int64))), .second, .val (.long z), .second, .val (.ref b1), .val (.long ((i0 &&& (9223372036854775807 : Int64)) - z)), .second, .val (.int (bi (q67 = true))), .unset, .unset, .unset]) rfl k) ?_
      show Go _ _ _ _ _ _ _ T3 (mkF m 77 #[.val (.long i0), .second, .val (.long i1), .second, .val (.long i2), .second, .val (.long (i0 &&& (9223372036854775807 : Int64))), .second, .val (.long (i1 &&& (9223372036854775807 : Int64))), .second, .val (.long z), .second, .val (.ref b1), .val (.long ((i0 &&& (9223372036854775807 : Int64)) - z)), .second, .val (.int (bi (q67 = true))), .unset, .unset, .unset] [])
      refine Go.step (fun t k => XS.aload X3.here hx rfl (hb hby at_77) rfl rfl k) ?_
      show Go _ _ _ _ _ _ _ T3 (mkF m 79 #[.val (.long i0), .second, .val (.long i1), .second, .val (.long i2), .second, .val (.long (i0 &&& (9223372036854775807 : Int64))), .second, .val (.long (i1 &&& (9223372036854775807 : Int64))), .second, .val (.long z), .second, .val (.ref b1), .val (.long ((i0 &&& (9223372036854775807 : Int64)) - z)), .second, .val (.int (bi (q67 = true))), .unset, .unset, .unset] [(.ref b1)])
      refine Go.step (fun t k => XS.lload X3.here hx rfl (hb hby at_79) rfl k) ?_
      show Go _ _ _ _ _ _ _ T3 (mkF m 81 #[.val (.long i0), .second, .val (.long i1), .second, .val (.long i2), .second, .val (.long (i0 &&& (9223372036854775807 : Int64))), .second, .val (.long (i1 &&& (9223372036854775807 : Int64))), .second, .val (.long z), .second, .val (.ref b1), .val (.long ((i0 &&& (9223372036854775807 : Int64)) - z)), .second, .val (.int (bi (q67 = true))), .unset, .unset, .unset] [(.long i2), (.ref b1)])
      obtain ⟨v5, T5, L5, X5, q5, st5⟩ := c_virt X3 hx hZ hown (y' := (⟨"com/example/tallowcast/tallowcast/graph/Fuel", "canPay", "(J)Z"⟩ : MethodName)) (y := (⟨"com/example/tallowcast/tallowcast/graph/Fuel", "canPay", "(J)Z"⟩ : MethodName)) (C := "com/example/tallowcast/tallowcast/graph/Fuel") (hw _ (List.mem_of_getElem? (i := 24) rfl)) (hw _ (List.mem_of_getElem? (i := 18) rfl)) (notFace_of_selects (args := #[]) (mvT hZ (hw _ (List.mem_of_getElem? (i := 20) rfl)))) (hw _ (List.mem_of_getElem? (i := 20) rfl)) (hw _ (List.mem_of_getElem? (i := 19) rfl)) (hw _ (List.mem_of_getElem? (i := 3) rfl)) (hw _ (List.mem_of_getElem? (i := 21) rfl)) (by decide) (a := b1) (argsL := [(.long i2)]) (rest := []) (rm4 l Z a0 hw [] b1 (i2) ((i0 &&& (9223372036854775807 : Int64))) (z)  h3 n0 Z3 E3q F3q0 f4  ) e3 E3q pd_0 rfl (by rw [hml]; rfl) (W := 0) (by show 2 * 0 + _ ≤ _; exact Nat.le_of_eq rfl) (by decide) (by decide) (by decide) (by decide) (hb hby at_81) (Ls := #[.val (.long i0), .second, .val (.long i1), .second, .val (.long i2), .second, .val (.long (i0 &&& (9223372036854775807 : Int64))), .second, .val (.long (i1 &&& (9223372036854775807 : Int64))), .second, .val (.long z), .second, .val (.ref b1), .val (.long ((i0 &&& (9223372036854775807 : Int64)) - z)), .second, .val (.int (bi (q67 = true))), .unset, .unset, .unset])
      obtain ⟨rfl, rfl, e5⟩ := q5
      have N5 := Fr.app N3 (Fr.nil n0)
      refine Go.step (st5) ?_
      show Go _ _ _ _ _ _ _ T5 (mkF m 84 #[.val (.long i0), .second, .val (.long i1), .second, .val (.long i2), .second, .val (.long (i0 &&& (9223372036854775807 : Int64))), .second, .val (.long (i1 &&& (9223372036854775807 : Int64))), .second, .val (.long z), .second, .val (.ref b1), .val (.long ((i0 &&& (9223372036854775807 : Int64)) - z)), .second, .val (.int (bi (q67 = true))), .unset, .unset, .unset] [(.int (bi (¬ (((i0 &&& (9223372036854775807 : Int64)) - z) < i2))))])
      refine Go.step (fun t k => XS.istore X5.here hx rfl (hb hby at_84) rfl (l' := #[.val (.long i0), .second, .val (.long i1), .second, .val (.long i2), .second, .val (.long (i0 &&& (9223372036854775807 : Int64))), .second, .val (.long (i1 &&& (9223372036854775807 : Int64))), .second, .val (.long z), .second, .val (.ref b1), .val (.long ((i0 &&& (9223372036854775807 : Int64)) - z)), .second, .val (.int (bi (q67 = true))), .val (.int (bi (¬ (((i0 &&& (9223372036854775807 : Int64)) - z) < i2)))), .unset, .unset]) rfl k) ?_
      show Go _ _ _ _ _ _ _ T5 (mkF m 86 #[.val (.long i0), .second, .val (.long i1), .second, .val (.long i2), .second, .val (.long (i0 &&& (9223372036854775807 : Int64))), .second, .val (.long (i1 &&& (9223372036854775807 : Int64))), .second, .val (.long z), .second, .val (.ref b1), .val (.long ((i0 &&& (9223372036854775807 : Int64)) - z)), .second, .val (.int (bi (q67 = true))), .val (.int (bi (¬ (((i0 &&& (9223372036854775807 : Int64)) - z) < i2)))), .unset, .unset] [])
      refine Go.step (fun t k => XS.aload X5.here hx rfl (hb hby at_86) rfl rfl k) ?_
      show Go _ _ _ _ _ _ _ T5 (mkF m 88 #[.val (.long i0), .second, .val (.long i1), .second, .val (.long i2), .second, .val (.long (i0 &&& (9223372036854775807 : Int64))), .second, .val (.long (i1 &&& (9223372036854775807 : Int64))), .second, .val (.long z), .second, .val (.ref b1), .val (.long ((i0 &&& (9223372036854775807 : Int64)) - z)), .second, .val (.int (bi (q67 = true))), .val (.int (bi (¬ (((i0 &&& (9223372036854775807 : Int64)) - z) < i2)))), .unset, .unset] [(.ref b1)])
      refine Go.step (fun t k => XS.lload X5.here hx rfl (hb hby at_88) rfl k) ?_
      show Go _ _ _ _ _ _ _ T5 (mkF m 90 #[.val (.long i0), .second, .val (.long i1), .second, .val (.long i2), .second, .val (.long (i0 &&& (9223372036854775807 : Int64))), .second, .val (.long (i1 &&& (9223372036854775807 : Int64))), .second, .val (.long z), .second, .val (.ref b1), .val (.long ((i0 &&& (9223372036854775807 : Int64)) - z)), .second, .val (.int (bi (q67 = true))), .val (.int (bi (¬ (((i0 &&& (9223372036854775807 : Int64)) - z) < i2)))), .unset, .unset] [(.long ((i0 &&& (9223372036854775807 : Int64)) - z)), (.ref b1)])
      obtain ⟨v6, T6, L6, X6, q6, st6⟩ := c_virt X5 hx hZ hown (y' := (⟨"com/example/tallowcast/tallowcast/graph/Fuel", "canPay", "(J)Z"⟩ : MethodName)) (y := (⟨"com/example/tallowcast/tallowcast/graph/Fuel", "canPay", "(J)Z"⟩ : MethodName)) (C := "com/example/tallowcast/tallowcast/graph/Fuel") (hw _ (List.mem_of_getElem? (i := 24) rfl)) (hw _ (List.mem_of_getElem? (i := 18) rfl)) (notFace_of_selects (args := #[]) (mvT hZ (hw _ (List.mem_of_getElem? (i := 20) rfl)))) (hw _ (List.mem_of_getElem? (i := 20) rfl)) (hw _ (List.mem_of_getElem? (i := 19) rfl)) (hw _ (List.mem_of_getElem? (i := 3) rfl)) (hw _ (List.mem_of_getElem? (i := 21) rfl)) (by decide) (a := b1) (argsL := [(.long ((i0 &&& (9223372036854775807 : Int64)) - z))]) (rest := []) (rm4 l Z a0 hw [] b1 (((i0 &&& (9223372036854775807 : Int64)) - z)) ((i0 &&& (9223372036854775807 : Int64))) (z)  h3 n0 Z3 E3q F3q0 f4  ) e5 E3q pd_0 rfl (by rw [hml]; rfl) (W := 0) (by show 2 * 0 + _ ≤ _; exact Nat.le_of_eq rfl) (by decide) (by decide) (by decide) (by decide) (hb hby at_90) (Ls := #[.val (.long i0), .second, .val (.long i1), .second, .val (.long i2), .second, .val (.long (i0 &&& (9223372036854775807 : Int64))), .second, .val (.long (i1 &&& (9223372036854775807 : Int64))), .second, .val (.long z), .second, .val (.ref b1), .val (.long ((i0 &&& (9223372036854775807 : Int64)) - z)), .second, .val (.int (bi (q67 = true))), .val (.int (bi (¬ (((i0 &&& (9223372036854775807 : Int64)) - z) < i2)))), .unset, .unset])
      obtain ⟨rfl, rfl, e6⟩ := q6
      have N6 := Fr.app N5 (Fr.nil n0)
      refine Go.step (st6) ?_
      show Go _ _ _ _ _ _ _ T6 (mkF m 93 #[.val (.long i0), .second, .val (.long i1), .second, .val (.long i2), .second, .val (.long (i0 &&& (9223372036854775807 : Int64))), .second, .val (.long (i1 &&& (9223372036854775807 : Int64))), .second, .val (.long z), .second, .val (.ref b1), .val (.long ((i0 &&& (9223372036854775807 : Int64)) - z)), .second, .val (.int (bi (q67 = true))), .val (.int (bi (¬ (((i0 &&& (9223372036854775807 : Int64)) - z) < i2)))), .unset, .unset] [(.int (bi (¬ (((i0 &&& (9223372036854775807 : Int64)) - z) < ((i0 &&& (9223372036854775807 : Int64)) - z)))))])
      refine Go.step (fun t k => XS.istore X6.here hx rfl (hb hby at_93) rfl (l' := #[.val (.long i0), .second, .val (.long i1), .second, .val (.long i2), .second, .val (.long (i0 &&& (9223372036854775807 : Int64))), .second, .val (.long (i1 &&& (9223372036854775807 : Int64))), .second, .val (.long z), .second, .val (.ref b1), .val (.long ((i0 &&& (9223372036854775807 : Int64)) - z)), .second, .val (.int (bi (q67 = true))), .val (.int (bi (¬ (((i0 &&& (9223372036854775807 : Int64)) - z) < i2)))), .val (.int (bi (¬ (((i0 &&& (9223372036854775807 : Int64)) - z) < ((i0 &&& (9223372036854775807 : Int64)) - z))))), .unset]) rfl k) ?_
      show Go _ _ _ _ _ _ _ T6 (mkF m 95 #[.val (.long i0), .second, .val (.long i1), .second, .val (.long i2), .second, .val (.long (i0 &&& (9223372036854775807 : Int64))), .second, .val (.long (i1 &&& (9223372036854775807 : Int64))), .second, .val (.long z), .second, .val (.ref b1), .val (.long ((i0 &&& (9223372036854775807 : Int64)) - z)), .second, .val (.int (bi (q67 = true))), .val (.int (bi (¬ (((i0 &&& (9223372036854775807 : Int64)) - z) < i2)))), .val (.int (bi (¬ (((i0 &&& (9223372036854775807 : Int64)) - z) < ((i0 &&& (9223372036854775807 : Int64)) - z))))), .unset] [])
      refine Go.step (fun t k => XS.lload X6.here hx rfl (hb hby at_95) rfl k) ?_
      show Go _ _ _ _ _ _ _ T6 (mkF m 97 #[.val (.long i0), .second, .val (.long i1), .second, .val (.long i2), .second, .val (.long (i0 &&& (9223372036854775807 : Int64))), .second, .val (.long (i1 &&& (9223372036854775807 : Int64))), .second, .val (.long z), .second, .val (.ref b1), .val (.long ((i0 &&& (9223372036854775807 : Int64)) - z)), .second, .val (.int (bi (q67 = true))), .val (.int (bi (¬ (((i0 &&& (9223372036854775807 : Int64)) - z) < i2)))), .val (.int (bi (¬ (((i0 &&& (9223372036854775807 : Int64)) - z) < ((i0 &&& (9223372036854775807 : Int64)) - z))))), .unset] [(.long ((i0 &&& (9223372036854775807 : Int64)) - z))])
      refine Go.step (X6.ldc2Long hx hown (mvT hZ (hw _ (List.mem_of_getElem? (i := 0) rfl))) (g := (mkF m 97 #[.val (.long i0), .second, .val (.long i1), .second, .val (.long i2), .second, .val (.long (i0 &&& (9223372036854775807 : Int64))), .second, .val (.long (i1 &&& (9223372036854775807 : Int64))), .second, .val (.long z), .second, .val (.ref b1), .val (.long ((i0 &&& (9223372036854775807 : Int64)) - z)), .second, .val (.int (bi (q67 = true))), .val (.int (bi (¬ (((i0 &&& (9223372036854775807 : Int64)) - z) < i2)))), .val (.int (bi (¬ (((i0 &&& (9223372036854775807 : Int64)) - z) < ((i0 &&& (9223372036854775807 : Int64)) - z))))), .unset] [(.long ((i0 &&& (9223372036854775807 : Int64)) - z))])) rfl (hb hby at_97)) ?_
      show Go _ _ _ _ _ _ _ T6 (mkF m 100 #[.val (.long i0), .second, .val (.long i1), .second, .val (.long i2), .second, .val (.long (i0 &&& (9223372036854775807 : Int64))), .second, .val (.long (i1 &&& (9223372036854775807 : Int64))), .second, .val (.long z), .second, .val (.ref b1), .val (.long ((i0 &&& (9223372036854775807 : Int64)) - z)), .second, .val (.int (bi (q67 = true))), .val (.int (bi (¬ (((i0 &&& (9223372036854775807 : Int64)) - z) < i2)))), .val (.int (bi (¬ (((i0 &&& (9223372036854775807 : Int64)) - z) < ((i0 &&& (9223372036854775807 : Int64)) - z))))), .unset] [(.long (9223372036854775807 : Int64)), (.long ((i0 &&& (9223372036854775807 : Int64)) - z))])
      refine Go.step (fun t k => XS.lcmp X6.here hx rfl (hb hby at_100) rfl k) ?_
      show Go _ _ _ _ _ _ _ T6 (mkF m 101 #[.val (.long i0), .second, .val (.long i1), .second, .val (.long i2), .second, .val (.long (i0 &&& (9223372036854775807 : Int64))), .second, .val (.long (i1 &&& (9223372036854775807 : Int64))), .second, .val (.long z), .second, .val (.ref b1), .val (.long ((i0 &&& (9223372036854775807 : Int64)) - z)), .second, .val (.int (bi (q67 = true))), .val (.int (bi (¬ (((i0 &&& (9223372036854775807 : Int64)) - z) < i2)))), .val (.int (bi (¬ (((i0 &&& (9223372036854775807 : Int64)) - z) < ((i0 &&& (9223372036854775807 : Int64)) - z))))), .unset] [(.int (lcmpW ((i0 &&& (9223372036854775807 : Int64)) - z) (9223372036854775807 : Int64)))])
      by_cases c101_7 : ((i0 &&& (9223372036854775807 : Int64)) - z) = (9223372036854775807 : Int64)
      · refine Go.step (fun t k => XS.ifNo X6.here hx rfl (hb hby at_101) rfl ((if0 _ _).trans (teq ((lw_eq _ _).mpr c101_7)).2) k) ?_
        show Go _ _ _ _ _ _ _ T6 (mkF m 104 #[.val (.long i0), .second, .val (.long i1), .second, .val (.long i2), .second, .val (.long (i0 &&& (9223372036854775807 : Int64))), .second, .val (.long (i1 &&& (9223372036854775807 : Int64))), .second, .val (.long z), .second, .val (.ref b1), .val (.long ((i0 &&& (9223372036854775807 : Int64)) - z)), .second, .val (.int (bi (q67 = true))), .val (.int (bi (¬ (((i0 &&& (9223372036854775807 : Int64)) - z) < i2)))), .val (.int (bi (¬ (((i0 &&& (9223372036854775807 : Int64)) - z) < ((i0 &&& (9223372036854775807 : Int64)) - z))))), .unset] [])
        refine Go.step (fun t k => XS.iconst X6.here hx rfl (hb hby at_104) k) ?_
        show Go _ _ _ _ _ _ _ T6 (mkF m 105 #[.val (.long i0), .second, .val (.long i1), .second, .val (.long i2), .second, .val (.long (i0 &&& (9223372036854775807 : Int64))), .second, .val (.long (i1 &&& (9223372036854775807 : Int64))), .second, .val (.long z), .second, .val (.ref b1), .val (.long ((i0 &&& (9223372036854775807 : Int64)) - z)), .second, .val (.int (bi (q67 = true))), .val (.int (bi (¬ (((i0 &&& (9223372036854775807 : Int64)) - z) < i2)))), .val (.int (bi (¬ (((i0 &&& (9223372036854775807 : Int64)) - z) < ((i0 &&& (9223372036854775807 : Int64)) - z))))), .unset] [(.int (0 : Int32))])
        refine Go.step (fun t k => XS.goto X6.here hx rfl (pc0 := 105) (pc' := 117) rfl (hb hby at_105) (by decide) (by decide) k) ?_
        show Go _ _ _ _ _ _ _ T6 (mkF m 117 #[.val (.long i0), .second, .val (.long i1), .second, .val (.long i2), .second, .val (.long (i0 &&& (9223372036854775807 : Int64))), .second, .val (.long (i1 &&& (9223372036854775807 : Int64))), .second, .val (.long z), .second, .val (.ref b1), .val (.long ((i0 &&& (9223372036854775807 : Int64)) - z)), .second, .val (.int (bi (q67 = true))), .val (.int (bi (¬ (((i0 &&& (9223372036854775807 : Int64)) - z) < i2)))), .val (.int (bi (¬ (((i0 &&& (9223372036854775807 : Int64)) - z) < ((i0 &&& (9223372036854775807 : Int64)) - z))))), .unset] [(.int (0 : Int32))])
        refine Go.step (fun t k => XS.istore X6.here hx rfl (hb hby at_117) rfl (l' := #[.val (.long i0), .second, .val (.long i1), .second, .val (.long i2), .second, .val (.long (i0 &&& (9223372036854775807 : Int64))), .second, .val (.long (i1 &&& (9223372036854775807 : Int64))), .second, .val (.long z), .second, .val (.ref b1), .val (.long ((i0 &&& (9223372036854775807 : Int64)) - z)), .second, .val (.int (bi (q67 = true))), .val (.int (bi (¬ (((i0 &&& (9223372036854775807 : Int64)) - z) < i2)))), .val (.int (bi (¬ (((i0 &&& (9223372036854775807 : Int64)) - z) < ((i0 &&& (9223372036854775807 : Int64)) - z))))), .val (.int (0 : Int32))]) rfl k) ?_
        show Go _ _ _ _ _ _ _ T6 (mkF m 119 #[.val (.long i0), .second, .val (.long i1), .second, .val (.long i2), .second, .val (.long (i0 &&& (9223372036854775807 : Int64))), .second, .val (.long (i1 &&& (9223372036854775807 : Int64))), .second, .val (.long z), .second, .val (.ref b1), .val (.long ((i0 &&& (9223372036854775807 : Int64)) - z)), .second, .val (.int (bi (q67 = true))), .val (.int (bi (¬ (((i0 &&& (9223372036854775807 : Int64)) - z) < i2)))), .val (.int (bi (¬ (((i0 &&& (9223372036854775807 : Int64)) - z) < ((i0 &&& (9223372036854775807 : Int64)) - z))))), .val (.int (0 : Int32))] [])
        refine Go.step (fun t k => XS.iload X6.here hx rfl (hb hby at_119) rfl k) ?_
        show Go _ _ _ _ _ _ _ T6 (mkF m 121 #[.val (.long i0), .second, .val (.long i1), .second, .val (.long i2), .second, .val (.long (i0 &&& (9223372036854775807 : Int64))), .second, .val (.long (i1 &&& (9223372036854775807 : Int64))), .second, .val (.long z), .second, .val (.ref b1), .val (.long ((i0 &&& (9223372036854775807 : Int64)) - z)), .second, .val (.int (bi (q67 = true))), .val (.int (bi (¬ (((i0 &&& (9223372036854775807 : Int64)) - z) < i2)))), .val (.int (bi (¬ (((i0 &&& (9223372036854775807 : Int64)) - z) < ((i0 &&& (9223372036854775807 : Int64)) - z))))), .val (.int (0 : Int32))] [(.int (bi (¬ (((i0 &&& (9223372036854775807 : Int64)) - z) < i2))))])
        refine Go.step (fun t k => XS.iload X6.here hx rfl (hb hby at_121) rfl k) ?_
        show Go _ _ _ _ _ _ _ T6 (mkF m 123 #[.val (.long i0), .second, .val (.long i1), .second, .val (.long i2), .second, .val (.long (i0 &&& (9223372036854775807 : Int64))), .second, .val (.long (i1 &&& (9223372036854775807 : Int64))), .second, .val (.long z), .second, .val (.ref b1), .val (.long ((i0 &&& (9223372036854775807 : Int64)) - z)), .second, .val (.int (bi (q67 = true))), .val (.int (bi (¬ (((i0 &&& (9223372036854775807 : Int64)) - z) < i2)))), .val (.int (bi (¬ (((i0 &&& (9223372036854775807 : Int64)) - z) < ((i0 &&& (9223372036854775807 : Int64)) - z))))), .val (.int (0 : Int32))] [(.int (bi (q67 = true))), (.int (bi (¬ (((i0 &&& (9223372036854775807 : Int64)) - z) < i2))))])
        refine Go.step (fun t k => XS.icmpNo X6.here hx rfl (hb hby at_123) rfl (teq (bi_congr hq67.symm)).2 k) ?_
        show Go _ _ _ _ _ _ _ T6 (mkF m 126 #[.val (.long i0), .second, .val (.long i1), .second, .val (.long i2), .second, .val (.long (i0 &&& (9223372036854775807 : Int64))), .second, .val (.long (i1 &&& (9223372036854775807 : Int64))), .second, .val (.long z), .second, .val (.ref b1), .val (.long ((i0 &&& (9223372036854775807 : Int64)) - z)), .second, .val (.int (bi (q67 = true))), .val (.int (bi (¬ (((i0 &&& (9223372036854775807 : Int64)) - z) < i2)))), .val (.int (bi (¬ (((i0 &&& (9223372036854775807 : Int64)) - z) < ((i0 &&& (9223372036854775807 : Int64)) - z))))), .val (.int (0 : Int32))] [])
        refine Go.step (fun t k => XS.iload X6.here hx rfl (hb hby at_126) rfl k) ?_
        show Go _ _ _ _ _ _ _ T6 (mkF m 128 #[.val (.long i0), .second, .val (.long i1), .second, .val (.long i2), .second, .val (.long (i0 &&& (9223372036854775807 : Int64))), .second, .val (.long (i1 &&& (9223372036854775807 : Int64))), .second, .val (.long z), .second, .val (.ref b1), .val (.long ((i0 &&& (9223372036854775807 : Int64)) - z)), .second, .val (.int (bi (q67 = true))), .val (.int (bi (¬ (((i0 &&& (9223372036854775807 : Int64)) - z) < i2)))), .val (.int (bi (¬ (((i0 &&& (9223372036854775807 : Int64)) - z) < ((i0 &&& (9223372036854775807 : Int64)) - z))))), .val (.int (0 : Int32))] [(.int (bi (¬ (((i0 &&& (9223372036854775807 : Int64)) - z) < ((i0 &&& (9223372036854775807 : Int64)) - z)))))])
        refine Go.step (fun t k => XS.ifNo X6.here hx rfl (hb hby at_128) rfl ((if0 _ _).trans (feq (bi_n Int64.lt_irrefl)).1) k) ?_
        show Go _ _ _ _ _ _ _ T6 (mkF m 131 #[.val (.long i0), .second, .val (.long i1), .second, .val (.long i2), .second, .val (.long (i0 &&& (9223372036854775807 : Int64))), .second, .val (.long (i1 &&& (9223372036854775807 : Int64))), .second, .val (.long z), .second, .val (.ref b1), .val (.long ((i0 &&& (9223372036854775807 : Int64)) - z)), .second, .val (.int (bi (q67 = true))), .val (.int (bi (¬ (((i0 &&& (9223372036854775807 : Int64)) - z) < i2)))), .val (.int (bi (¬ (((i0 &&& (9223372036854775807 : Int64)) - z) < ((i0 &&& (9223372036854775807 : Int64)) - z))))), .val (.int (0 : Int32))] [])
        refine Go.step (fun t k => XS.iload X6.here hx rfl (hb hby at_131) rfl k) ?_
        show Go _ _ _ _ _ _ _ T6 (mkF m 133 #[.val (.long i0), .second, .val (.long i1), .second, .val (.long i2), .second, .val (.long (i0 &&& (9223372036854775807 : Int64))), .second, .val (.long (i1 &&& (9223372036854775807 : Int64))), .second, .val (.long z), .second, .val (.ref b1), .val (.long ((i0 &&& (9223372036854775807 : Int64)) - z)), .second, .val (.int (bi (q67 = true))), .val (.int (bi (¬ (((i0 &&& (9223372036854775807 : Int64)) - z) < i2)))), .val (.int (bi (¬ (((i0 &&& (9223372036854775807 : Int64)) - z) < ((i0 &&& (9223372036854775807 : Int64)) - z))))), .val (.int (0 : Int32))] [(.int (0 : Int32))])
        refine Go.step (fun t k => XS.ifNo X6.here hx rfl (hb hby at_133) rfl ((if0 _ _).trans (teq rfl).2) k) ?_
        show Go _ _ _ _ _ _ _ T6 (mkF m 136 #[.val (.long i0), .second, .val (.long i1), .second, .val (.long i2), .second, .val (.long (i0 &&& (9223372036854775807 : Int64))), .second, .val (.long (i1 &&& (9223372036854775807 : Int64))), .second, .val (.long z), .second, .val (.ref b1), .val (.long ((i0 &&& (9223372036854775807 : Int64)) - z)), .second, .val (.int (bi (q67 = true))), .val (.int (bi (¬ (((i0 &&& (9223372036854775807 : Int64)) - z) < i2)))), .val (.int (bi (¬ (((i0 &&& (9223372036854775807 : Int64)) - z) < ((i0 &&& (9223372036854775807 : Int64)) - z))))), .val (.int (0 : Int32))] [])
        refine Go.step (fun t k => XS.aload X6.here hx rfl (hb hby at_136) rfl rfl k) ?_
        show Go _ _ _ _ _ _ _ T6 (mkF m 138 #[.val (.long i0), .second, .val (.long i1), .second, .val (.long i2), .second, .val (.long (i0 &&& (9223372036854775807 : Int64))), .second, .val (.long (i1 &&& (9223372036854775807 : Int64))), .second, .val (.long z), .second, .val (.ref b1), .val (.long ((i0 &&& (9223372036854775807 : Int64)) - z)), .second, .val (.int (bi (q67 = true))), .val (.int (bi (¬ (((i0 &&& (9223372036854775807 : Int64)) - z) < i2)))), .val (.int (bi (¬ (((i0 &&& (9223372036854775807 : Int64)) - z) < ((i0 &&& (9223372036854775807 : Int64)) - z))))), .val (.int (0 : Int32))] [(.ref b1)])
        obtain ⟨v8, T8, L8, X8, q8, st8⟩ := c_virt X6 hx hZ hown (y' := (⟨"com/example/tallowcast/tallowcast/graph/Fuel", "used", "()J"⟩ : MethodName)) (y := (⟨"com/example/tallowcast/tallowcast/graph/Fuel", "used", "()J"⟩ : MethodName)) (C := "com/example/tallowcast/tallowcast/graph/Fuel") (hw _ (List.mem_of_getElem? (i := 25) rfl)) (hw _ (List.mem_of_getElem? (i := 26) rfl)) (notFace_of_selects (args := #[]) (mvT hZ (hw _ (List.mem_of_getElem? (i := 28) rfl)))) (hw _ (List.mem_of_getElem? (i := 28) rfl)) (hw _ (List.mem_of_getElem? (i := 27) rfl)) (hw _ (List.mem_of_getElem? (i := 3) rfl)) (hw _ (List.mem_of_getElem? (i := 29) rfl)) (by decide) (a := b1) (argsL := []) (rest := []) (rm5 l Z a0 hw [] b1  ((i0 &&& (9223372036854775807 : Int64))) (z)  h3 n0 Z3 E3q F3q0 f4  ) e6 E3q pd_2 rfl (by rw [hml]; rfl) (W := 0) (by show 2 * 0 + _ ≤ _; exact Nat.le_of_eq rfl) (by decide) (by decide) (by decide) (by decide) (hb hby at_138) (Ls := #[.val (.long i0), .second, .val (.long i1), .second, .val (.long i2), .second, .val (.long (i0 &&& (9223372036854775807 : Int64))), .second, .val (.long (i1 &&& (9223372036854775807 : Int64))), .second, .val (.long z), .second, .val (.ref b1), .val (.long ((i0 &&& (9223372036854775807 : Int64)) - z)), .second, .val (.int (bi (q67 = true))), .val (.int (bi (¬ (((i0 &&& (9223372036854775807 : Int64)) - z) < i2)))), .val (.int (bi (¬ (((i0 &&& (9223372036854775807 : Int64)) - z) < ((i0 &&& (9223372036854775807 : Int64)) - z))))), .val (.int (0 : Int32))])
        obtain ⟨rfl, rfl, e8⟩ := q8
        have N8 := Fr.app N6 (Fr.nil n0)
        refine Go.step (st8) ?_
        show Go _ _ _ _ _ _ _ T8 (mkF m 141 #[.val (.long i0), .second, .val (.long i1), .second, .val (.long i2), .second, .val (.long (i0 &&& (9223372036854775807 : Int64))), .second, .val (.long (i1 &&& (9223372036854775807 : Int64))), .second, .val (.long z), .second, .val (.ref b1), .val (.long ((i0 &&& (9223372036854775807 : Int64)) - z)), .second, .val (.int (bi (q67 = true))), .val (.int (bi (¬ (((i0 &&& (9223372036854775807 : Int64)) - z) < i2)))), .val (.int (bi (¬ (((i0 &&& (9223372036854775807 : Int64)) - z) < ((i0 &&& (9223372036854775807 : Int64)) - z))))), .val (.int (0 : Int32))] [(.long z)])
        refine Go.step (fun t k => XS.lload X8.here hx rfl (hb hby at_141) rfl k) ?_
        show Go _ _ _ _ _ _ _ T8 (mkF m 143 #[.val (.long i0), .second, .val (.long i1), .second, .val (.long i2), .second, .val (.long (i0 &&& (9223372036854775807 : Int64))), .second, .val (.long (i1 &&& (9223372036854775807 : Int64))), .second, .val (.long z), .second, .val (.ref b1), .val (.long ((i0 &&& (9223372036854775807 : Int64)) - z)), .second, .val (.int (bi (q67 = true))), .val (.int (bi (¬ (((i0 &&& (9223372036854775807 : Int64)) - z) < i2)))), .val (.int (bi (¬ (((i0 &&& (9223372036854775807 : Int64)) - z) < ((i0 &&& (9223372036854775807 : Int64)) - z))))), .val (.int (0 : Int32))] [(.long z), (.long z)])
        refine Go.step (fun t k => XS.lcmp X8.here hx rfl (hb hby at_143) rfl k) ?_
        show Go _ _ _ _ _ _ _ T8 (mkF m 144 #[.val (.long i0), .second, .val (.long i1), .second, .val (.long i2), .second, .val (.long (i0 &&& (9223372036854775807 : Int64))), .second, .val (.long (i1 &&& (9223372036854775807 : Int64))), .second, .val (.long z), .second, .val (.ref b1), .val (.long ((i0 &&& (9223372036854775807 : Int64)) - z)), .second, .val (.int (bi (q67 = true))), .val (.int (bi (¬ (((i0 &&& (9223372036854775807 : Int64)) - z) < i2)))), .val (.int (bi (¬ (((i0 &&& (9223372036854775807 : Int64)) - z) < ((i0 &&& (9223372036854775807 : Int64)) - z))))), .val (.int (0 : Int32))] [(.int (lcmpW z z))])
        refine Go.step (fun t k => XS.ifNo X8.here hx rfl (hb hby at_144) rfl ((if0 _ _).trans (teq ((lw_eq _ _).mpr rfl)).2) k) ?_
        show Go _ _ _ _ _ _ _ T8 (mkF m 147 #[.val (.long i0), .second, .val (.long i1), .second, .val (.long i2), .second, .val (.long (i0 &&& (9223372036854775807 : Int64))), .second, .val (.long (i1 &&& (9223372036854775807 : Int64))), .second, .val (.long z), .second, .val (.ref b1), .val (.long ((i0 &&& (9223372036854775807 : Int64)) - z)), .second, .val (.int (bi (q67 = true))), .val (.int (bi (¬ (((i0 &&& (9223372036854775807 : Int64)) - z) < i2)))), .val (.int (bi (¬ (((i0 &&& (9223372036854775807 : Int64)) - z) < ((i0 &&& (9223372036854775807 : Int64)) - z))))), .val (.int (0 : Int32))] [])
        refine Go.step (fun t k => XS.iconst X8.here hx rfl (hb hby at_147) k) ?_
        show Go _ _ _ _ _ _ _ T8 (mkF m 148 #[.val (.long i0), .second, .val (.long i1), .second, .val (.long i2), .second, .val (.long (i0 &&& (9223372036854775807 : Int64))), .second, .val (.long (i1 &&& (9223372036854775807 : Int64))), .second, .val (.long z), .second, .val (.ref b1), .val (.long ((i0 &&& (9223372036854775807 : Int64)) - z)), .second, .val (.int (bi (q67 = true))), .val (.int (bi (¬ (((i0 &&& (9223372036854775807 : Int64)) - z) < i2)))), .val (.int (bi (¬ (((i0 &&& (9223372036854775807 : Int64)) - z) < ((i0 &&& (9223372036854775807 : Int64)) - z))))), .val (.int (0 : Int32))] [(.int (1 : Int32))])
        refine Go.step (fun t k => XS.goto X8.here hx rfl (pc0 := 148) (pc' := 152) rfl (hb hby at_148) (by decide) (by decide) k) ?_
        show Go _ _ _ _ _ _ _ T8 (mkF m 152 #[.val (.long i0), .second, .val (.long i1), .second, .val (.long i2), .second, .val (.long (i0 &&& (9223372036854775807 : Int64))), .second, .val (.long (i1 &&& (9223372036854775807 : Int64))), .second, .val (.long z), .second, .val (.ref b1), .val (.long ((i0 &&& (9223372036854775807 : Int64)) - z)), .second, .val (.int (bi (q67 = true))), .val (.int (bi (¬ (((i0 &&& (9223372036854775807 : Int64)) - z) < i2)))), .val (.int (bi (¬ (((i0 &&& (9223372036854775807 : Int64)) - z) < ((i0 &&& (9223372036854775807 : Int64)) - z))))), .val (.int (0 : Int32))] [(.int (1 : Int32))])
        refine go_retN X8 hx (t := .boolean) hret (by simp) hlk (hb hby at_152) (w := (1 : Int32)) rfl ?_ (by decide) (by decide)
        try rw [e8]
        exact ⟨rfl, N8⟩
      · refine Go.step (fun t k => XS.ifYes X6.here hx rfl (pc0 := 101) (pc' := 108) rfl (hb hby at_101) rfl ((if0 _ _).trans (feq (fun q => c101_7 ((lw_eq _ _).mp q))).2) (by decide) (by decide) k) ?_
        show Go _ _ _ _ _ _ _ T6 (mkF m 108 #[.val (.long i0), .second, .val (.long i1), .second, .val (.long i2), .second, .val (.long (i0 &&& (9223372036854775807 : Int64))), .second, .val (.long (i1 &&& (9223372036854775807 : Int64))), .second, .val (.long z), .second, .val (.ref b1), .val (.long ((i0 &&& (9223372036854775807 : Int64)) - z)), .second, .val (.int (bi (q67 = true))), .val (.int (bi (¬ (((i0 &&& (9223372036854775807 : Int64)) - z) < i2)))), .val (.int (bi (¬ (((i0 &&& (9223372036854775807 : Int64)) - z) < ((i0 &&& (9223372036854775807 : Int64)) - z))))), .unset] [])
        refine Go.step (fun t k => XS.aload X6.here hx rfl (hb hby at_108) rfl rfl k) ?_
        show Go _ _ _ _ _ _ _ T6 (mkF m 110 #[.val (.long i0), .second, .val (.long i1), .second, .val (.long i2), .second, .val (.long (i0 &&& (9223372036854775807 : Int64))), .second, .val (.long (i1 &&& (9223372036854775807 : Int64))), .second, .val (.long z), .second, .val (.ref b1), .val (.long ((i0 &&& (9223372036854775807 : Int64)) - z)), .second, .val (.int (bi (q67 = true))), .val (.int (bi (¬ (((i0 &&& (9223372036854775807 : Int64)) - z) < i2)))), .val (.int (bi (¬ (((i0 &&& (9223372036854775807 : Int64)) - z) < ((i0 &&& (9223372036854775807 : Int64)) - z))))), .unset] [(.ref b1)])
        refine Go.step (fun t k => XS.lload X6.here hx rfl (hb hby at_110) rfl k) ?_
        show Go _ _ _ _ _ _ _ T6 (mkF m 112 #[.val (.long i0), .second, .val (.long i1), .second, .val (.long i2), .second, .val (.long (i0 &&& (9223372036854775807 : Int64))), .second, .val (.long (i1 &&& (9223372036854775807 : Int64))), .second, .val (.long z), .second, .val (.ref b1), .val (.long ((i0 &&& (9223372036854775807 : Int64)) - z)), .second, .val (.int (bi (q67 = true))), .val (.int (bi (¬ (((i0 &&& (9223372036854775807 : Int64)) - z) < i2)))), .val (.int (bi (¬ (((i0 &&& (9223372036854775807 : Int64)) - z) < ((i0 &&& (9223372036854775807 : Int64)) - z))))), .unset] [(.long ((i0 &&& (9223372036854775807 : Int64)) - z)), (.ref b1)])
        refine Go.step (fun t k => XS.lconst X6.here hx rfl (hb hby at_112) k) ?_
        show Go _ _ _ _ _ _ _ T6 (mkF m 113 #[.val (.long i0), .second, .val (.long i1), .second, .val (.long i2), .second, .val (.long (i0 &&& (9223372036854775807 : Int64))), .second, .val (.long (i1 &&& (9223372036854775807 : Int64))), .second, .val (.long z), .second, .val (.ref b1), .val (.long ((i0 &&& (9223372036854775807 : Int64)) - z)), .second, .val (.int (bi (q67 = true))), .val (.int (bi (¬ (((i0 &&& (9223372036854775807 : Int64)) - z) < i2)))), .val (.int (bi (¬ (((i0 &&& (9223372036854775807 : Int64)) - z) < ((i0 &&& (9223372036854775807 : Int64)) - z))))), .unset] [(.long (1 : Int64)), (.long ((i0 &&& (9223372036854775807 : Int64)) - z)), (.ref b1)])
        refine Go.step (fun t k => XS.ladd X6.here hx rfl (hb hby at_113) rfl k) ?_
        show Go _ _ _ _ _ _ _ T6 (mkF m 114 #[.val (.long i0), .second, .val (.long i1), .second, .val (.long i2), .second, .val (.long (i0 &&& (9223372036854775807 : Int64))), .second, .val (.long (i1 &&& (9223372036854775807 : Int64))), .second, .val (.long z), .second, .val (.ref b1), .val (.long ((i0 &&& (9223372036854775807 : Int64)) - z)), .second, .val (.int (bi (q67 = true))), .val (.int (bi (¬ (((i0 &&& (9223372036854775807 : Int64)) - z) < i2)))), .val (.int (bi (¬ (((i0 &&& (9223372036854775807 : Int64)) - z) < ((i0 &&& (9223372036854775807 : Int64)) - z))))), .unset] [(.long (((i0 &&& (9223372036854775807 : Int64)) - z) + (1 : Int64))), (.ref b1)])
        obtain ⟨v9, T9, L9, X9, q9, st9⟩ := c_virt X6 hx hZ hown (y' := (⟨"com/example/tallowcast/tallowcast/graph/Fuel", "canPay", "(J)Z"⟩ : MethodName)) (y := (⟨"com/example/tallowcast/tallowcast/graph/Fuel", "canPay", "(J)Z"⟩ : MethodName)) (C := "com/example/tallowcast/tallowcast/graph/Fuel") (hw _ (List.mem_of_getElem? (i := 24) rfl)) (hw _ (List.mem_of_getElem? (i := 18) rfl)) (notFace_of_selects (args := #[]) (mvT hZ (hw _ (List.mem_of_getElem? (i := 20) rfl)))) (hw _ (List.mem_of_getElem? (i := 20) rfl)) (hw _ (List.mem_of_getElem? (i := 19) rfl)) (hw _ (List.mem_of_getElem? (i := 3) rfl)) (hw _ (List.mem_of_getElem? (i := 21) rfl)) (by decide) (a := b1) (argsL := [(.long (((i0 &&& (9223372036854775807 : Int64)) - z) + (1 : Int64)))]) (rest := []) (rm4 l Z a0 hw [] b1 ((((i0 &&& (9223372036854775807 : Int64)) - z) + (1 : Int64))) ((i0 &&& (9223372036854775807 : Int64))) (z)  h3 n0 Z3 E3q F3q0 f4  ) e6 E3q pd_0 rfl (by rw [hml]; rfl) (W := 0) (by show 2 * 0 + _ ≤ _; exact Nat.le_of_eq rfl) (by decide) (by decide) (by decide) (by decide) (hb hby at_114) (Ls := #[.val (.long i0), .second, .val (.long i1), .second, .val (.long i2), .second, .val (.long (i0 &&& (9223372036854775807 : Int64))), .second, .val (.long (i1 &&& (9223372036854775807 : Int64))), .second, .val (.long z), .second, .val (.ref b1), .val (.long ((i0 &&& (9223372036854775807 : Int64)) - z)), .second, .val (.int (bi (q67 = true))), .val (.int (bi (¬ (((i0 &&& (9223372036854775807 : Int64)) - z) < i2)))), .val (.int (bi (¬ (((i0 &&& (9223372036854775807 : Int64)) - z) < ((i0 &&& (9223372036854775807 : Int64)) - z))))), .unset])
        obtain ⟨rfl, rfl, e9⟩ := q9
        have N9 := Fr.app N6 (Fr.nil n0)
        refine Go.step (st9) ?_
        show Go _ _ _ _ _ _ _ T9 (mkF m 117 #[.val (.long i0), .second, .val (.long i1), .second, .val (.long i2), .second, .val (.long (i0 &&& (9223372036854775807 : Int64))), .second, .val (.long (i1 &&& (9223372036854775807 : Int64))), .second, .val (.long z), .second, .val (.ref b1), .val (.long ((i0 &&& (9223372036854775807 : Int64)) - z)), .second, .val (.int (bi (q67 = true))), .val (.int (bi (¬ (((i0 &&& (9223372036854775807 : Int64)) - z) < i2)))), .val (.int (bi (¬ (((i0 &&& (9223372036854775807 : Int64)) - z) < ((i0 &&& (9223372036854775807 : Int64)) - z))))), .unset] [(.int (bi (¬ (((i0 &&& (9223372036854775807 : Int64)) - z) < (((i0 &&& (9223372036854775807 : Int64)) - z) + (1 : Int64))))))])
        refine Go.step (fun t k => XS.istore X9.here hx rfl (hb hby at_117) rfl (l' := #[.val (.long i0), .second, .val (.long i1), .second, .val (.long i2), .second, .val (.long (i0 &&& (9223372036854775807 : Int64))), .second, .val (.long (i1 &&& (9223372036854775807 : Int64))), .second, .val (.long z), .second, .val (.ref b1), .val (.long ((i0 &&& (9223372036854775807 : Int64)) - z)), .second, .val (.int (bi (q67 = true))), .val (.int (bi (¬ (((i0 &&& (9223372036854775807 : Int64)) - z) < i2)))), .val (.int (bi (¬ (((i0 &&& (9223372036854775807 : Int64)) - z) < ((i0 &&& (9223372036854775807 : Int64)) - z))))), .val (.int (bi (¬ (((i0 &&& (9223372036854775807 : Int64)) - z) < (((i0 &&& (9223372036854775807 : Int64)) - z) + (1 : Int64))))))]) rfl k) ?_
        show Go _ _ _ _ _ _ _ T9 (mkF m 119 #[.val (.long i0), .second, .val (.long i1), .second, .val (.long i2), .second, .val (.long (i0 &&& (9223372036854775807 : Int64))), .second, .val (.long (i1 &&& (9223372036854775807 : Int64))), .second, .val (.long z), .second, .val (.ref b1), .val (.long ((i0 &&& (9223372036854775807 : Int64)) - z)), .second, .val (.int (bi (q67 = true))), .val (.int (bi (¬ (((i0 &&& (9223372036854775807 : Int64)) - z) < i2)))), .val (.int (bi (¬ (((i0 &&& (9223372036854775807 : Int64)) - z) < ((i0 &&& (9223372036854775807 : Int64)) - z))))), .val (.int (bi (¬ (((i0 &&& (9223372036854775807 : Int64)) - z) < (((i0 &&& (9223372036854775807 : Int64)) - z) + (1 : Int64))))))] [])
        refine Go.step (fun t k => XS.iload X9.here hx rfl (hb hby at_119) rfl k) ?_
        show Go _ _ _ _ _ _ _ T9 (mkF m 121 #[.val (.long i0), .second, .val (.long i1), .second, .val (.long i2), .second, .val (.long (i0 &&& (9223372036854775807 : Int64))), .second, .val (.long (i1 &&& (9223372036854775807 : Int64))), .second, .val (.long z), .second, .val (.ref b1), .val (.long ((i0 &&& (9223372036854775807 : Int64)) - z)), .second, .val (.int (bi (q67 = true))), .val (.int (bi (¬ (((i0 &&& (9223372036854775807 : Int64)) - z) < i2)))), .val (.int (bi (¬ (((i0 &&& (9223372036854775807 : Int64)) - z) < ((i0 &&& (9223372036854775807 : Int64)) - z))))), .val (.int (bi (¬ (((i0 &&& (9223372036854775807 : Int64)) - z) < (((i0 &&& (9223372036854775807 : Int64)) - z) + (1 : Int64))))))] [(.int (bi (¬ (((i0 &&& (9223372036854775807 : Int64)) - z) < i2))))])
        refine Go.step (fun t k => XS.iload X9.here hx rfl (hb hby at_121) rfl k) ?_
        show Go _ _ _ _ _ _ _ T9 (mkF m 123 #[.val (.long i0), .second, .val (.long i1), .second, .val (.long i2), .second, .val (.long (i0 &&& (9223372036854775807 : Int64))), .second, .val (.long (i1 &&& (9223372036854775807 : Int64))), .second, .val (.long z), .second, .val (.ref b1), .val (.long ((i0 &&& (9223372036854775807 : Int64)) - z)), .second, .val (.int (bi (q67 = true))), .val (.int (bi (¬ (((i0 &&& (9223372036854775807 : Int64)) - z) < i2)))), .val (.int (bi (¬ (((i0 &&& (9223372036854775807 : Int64)) - z) < ((i0 &&& (9223372036854775807 : Int64)) - z))))), .val (.int (bi (¬ (((i0 &&& (9223372036854775807 : Int64)) - z) < (((i0 &&& (9223372036854775807 : Int64)) - z) + (1 : Int64))))))] [(.int (bi (q67 = true))), (.int (bi (¬ (((i0 &&& (9223372036854775807 : Int64)) - z) < i2))))])
        refine Go.step (fun t k => XS.icmpNo X9.here hx rfl (hb hby at_123) rfl (teq (bi_congr hq67.symm)).2 k) ?_
        show Go _ _ _ _ _ _ _ T9 (mkF m 126 #[.val (.long i0), .second, .val (.long i1), .second, .val (.long i2), .second, .val (.long (i0 &&& (9223372036854775807 : Int64))), .second, .val (.long (i1 &&& (9223372036854775807 : Int64))), .second, .val (.long z), .second, .val (.ref b1), .val (.long ((i0 &&& (9223372036854775807 : Int64)) - z)), .second, .val (.int (bi (q67 = true))), .val (.int (bi (¬ (((i0 &&& (9223372036854775807 : Int64)) - z) < i2)))), .val (.int (bi (¬ (((i0 &&& (9223372036854775807 : Int64)) - z) < ((i0 &&& (9223372036854775807 : Int64)) - z))))), .val (.int (bi (¬ (((i0 &&& (9223372036854775807 : Int64)) - z) < (((i0 &&& (9223372036854775807 : Int64)) - z) + (1 : Int64))))))] [])
        refine Go.step (fun t k => XS.iload X9.here hx rfl (hb hby at_126) rfl k) ?_
        show Go _ _ _ _ _ _ _ T9 (mkF m 128 #[.val (.long i0), .second, .val (.long i1), .second, .val (.long i2), .second, .val (.long (i0 &&& (9223372036854775807 : Int64))), .second, .val (.long (i1 &&& (9223372036854775807 : Int64))), .second, .val (.long z), .second, .val (.ref b1), .val (.long ((i0 &&& (9223372036854775807 : Int64)) - z)), .second, .val (.int (bi (q67 = true))), .val (.int (bi (¬ (((i0 &&& (9223372036854775807 : Int64)) - z) < i2)))), .val (.int (bi (¬ (((i0 &&& (9223372036854775807 : Int64)) - z) < ((i0 &&& (9223372036854775807 : Int64)) - z))))), .val (.int (bi (¬ (((i0 &&& (9223372036854775807 : Int64)) - z) < (((i0 &&& (9223372036854775807 : Int64)) - z) + (1 : Int64))))))] [(.int (bi (¬ (((i0 &&& (9223372036854775807 : Int64)) - z) < ((i0 &&& (9223372036854775807 : Int64)) - z)))))])
        refine Go.step (fun t k => XS.ifNo X9.here hx rfl (hb hby at_128) rfl ((if0 _ _).trans (feq (bi_n Int64.lt_irrefl)).1) k) ?_
        show Go _ _ _ _ _ _ _ T9 (mkF m 131 #[.val (.long i0), .second, .val (.long i1), .second, .val (.long i2), .second, .val (.long (i0 &&& (9223372036854775807 : Int64))), .second, .val (.long (i1 &&& (9223372036854775807 : Int64))), .second, .val (.long z), .second, .val (.ref b1), .val (.long ((i0 &&& (9223372036854775807 : Int64)) - z)), .second, .val (.int (bi (q67 = true))), .val (.int (bi (¬ (((i0 &&& (9223372036854775807 : Int64)) - z) < i2)))), .val (.int (bi (¬ (((i0 &&& (9223372036854775807 : Int64)) - z) < ((i0 &&& (9223372036854775807 : Int64)) - z))))), .val (.int (bi (¬ (((i0 &&& (9223372036854775807 : Int64)) - z) < (((i0 &&& (9223372036854775807 : Int64)) - z) + (1 : Int64))))))] [])
        refine Go.step (fun t k => XS.iload X9.here hx rfl (hb hby at_131) rfl k) ?_
        show Go _ _ _ _ _ _ _ T9 (mkF m 133 #[.val (.long i0), .second, .val (.long i1), .second, .val (.long i2), .second, .val (.long (i0 &&& (9223372036854775807 : Int64))), .second, .val (.long (i1 &&& (9223372036854775807 : Int64))), .second, .val (.long z), .second, .val (.ref b1), .val (.long ((i0 &&& (9223372036854775807 : Int64)) - z)), .second, .val (.int (bi (q67 = true))), .val (.int (bi (¬ (((i0 &&& (9223372036854775807 : Int64)) - z) < i2)))), .val (.int (bi (¬ (((i0 &&& (9223372036854775807 : Int64)) - z) < ((i0 &&& (9223372036854775807 : Int64)) - z))))), .val (.int (bi (¬ (((i0 &&& (9223372036854775807 : Int64)) - z) < (((i0 &&& (9223372036854775807 : Int64)) - z) + (1 : Int64))))))] [(.int (bi (¬ (((i0 &&& (9223372036854775807 : Int64)) - z) < (((i0 &&& (9223372036854775807 : Int64)) - z) + (1 : Int64))))))])
        refine Go.step (fun t k => XS.ifNo X9.here hx rfl (hb hby at_133) rfl ((if0 _ _).trans (teq (bi_f (fun q => q (own_succ _ c101_7)))).2) k) ?_
        show Go _ _ _ _ _ _ _ T9 (mkF m 136 #[.val (.long i0), .second, .val (.long i1), .second, .val (.long i2), .second, .val (.long (i0 &&& (9223372036854775807 : Int64))), .second, .val (.long (i1 &&& (9223372036854775807 : Int64))), .second, .val (.long z), .second, .val (.ref b1), .val (.long ((i0 &&& (9223372036854775807 : Int64)) - z)), .second, .val (.int (bi (q67 = true))), .val (.int (bi (¬ (((i0 &&& (9223372036854775807 : Int64)) - z) < i2)))), .val (.int (bi (¬ (((i0 &&& (9223372036854775807 : Int64)) - z) < ((i0 &&& (9223372036854775807 : Int64)) - z))))), .val (.int (bi (¬ (((i0 &&& (9223372036854775807 : Int64)) - z) < (((i0 &&& (9223372036854775807 : Int64)) - z) + (1 : Int64))))))] [])
        refine Go.step (fun t k => XS.aload X9.here hx rfl (hb hby at_136) rfl rfl k) ?_
        show Go _ _ _ _ _ _ _ T9 (mkF m 138 #[.val (.long i0), .second, .val (.long i1), .second, .val (.long i2), .second, .val (.long (i0 &&& (9223372036854775807 : Int64))), .second, .val (.long (i1 &&& (9223372036854775807 : Int64))), .second, .val (.long z), .second, .val (.ref b1), .val (.long ((i0 &&& (9223372036854775807 : Int64)) - z)), .second, .val (.int (bi (q67 = true))), .val (.int (bi (¬ (((i0 &&& (9223372036854775807 : Int64)) - z) < i2)))), .val (.int (bi (¬ (((i0 &&& (9223372036854775807 : Int64)) - z) < ((i0 &&& (9223372036854775807 : Int64)) - z))))), .val (.int (bi (¬ (((i0 &&& (9223372036854775807 : Int64)) - z) < (((i0 &&& (9223372036854775807 : Int64)) - z) + (1 : Int64))))))] [(.ref b1)])
        obtain ⟨v10, T10, L10, X10, q10, st10⟩ := c_virt X9 hx hZ hown (y' := (⟨"com/example/tallowcast/tallowcast/graph/Fuel", "used", "()J"⟩ : MethodName)) (y := (⟨"com/example/tallowcast/tallowcast/graph/Fuel", "used", "()J"⟩ : MethodName)) (C := "com/example/tallowcast/tallowcast/graph/Fuel") (hw _ (List.mem_of_getElem? (i := 25) rfl)) (hw _ (List.mem_of_getElem? (i := 26) rfl)) (notFace_of_selects (args := #[]) (mvT hZ (hw _ (List.mem_of_getElem? (i := 28) rfl)))) (hw _ (List.mem_of_getElem? (i := 28) rfl)) (hw _ (List.mem_of_getElem? (i := 27) rfl)) (hw _ (List.mem_of_getElem? (i := 3) rfl)) (hw _ (List.mem_of_getElem? (i := 29) rfl)) (by decide) (a := b1) (argsL := []) (rest := []) (rm5 l Z a0 hw [] b1  ((i0 &&& (9223372036854775807 : Int64))) (z)  h3 n0 Z3 E3q F3q0 f4  ) e9 E3q pd_2 rfl (by rw [hml]; rfl) (W := 0) (by show 2 * 0 + _ ≤ _; exact Nat.le_of_eq rfl) (by decide) (by decide) (by decide) (by decide) (hb hby at_138) (Ls := #[.val (.long i0), .second, .val (.long i1), .second, .val (.long i2), .second, .val (.long (i0 &&& (9223372036854775807 : Int64))), .second, .val (.long (i1 &&& (9223372036854775807 : Int64))), .second, .val (.long z), .second, .val (.ref b1), .val (.long ((i0 &&& (9223372036854775807 : Int64)) - z)), .second, .val (.int (bi (q67 = true))), .val (.int (bi (¬ (((i0 &&& (9223372036854775807 : Int64)) - z) < i2)))), .val (.int (bi (¬ (((i0 &&& (9223372036854775807 : Int64)) - z) < ((i0 &&& (9223372036854775807 : Int64)) - z))))), .val (.int (bi (¬ (((i0 &&& (9223372036854775807 : Int64)) - z) < (((i0 &&& (9223372036854775807 : Int64)) - z) + (1 : Int64))))))])
        obtain ⟨rfl, rfl, e10⟩ := q10
        have N10 := Fr.app N9 (Fr.nil n0)
        refine Go.step (st10) ?_
        show Go _ _ _ _ _ _ _ T10 (mkF m 141 #[.val (.long i0), .second, .val (.long i1), .second, .val (.long i2), .second, .val (.long (i0 &&& (9223372036854775807 : Int64))), .second, .val (.long (i1 &&& (9223372036854775807 : Int64))), .second, .val (.long z), .second, .val (.ref b1), .val (.long ((i0 &&& (9223372036854775807 : Int64)) - z)), .second, .val (.int (bi (q67 = true))), .val (.int (bi (¬ (((i0 &&& (9223372036854775807 : Int64)) - z) < i2)))), .val (.int (bi (¬ (((i0 &&& (9223372036854775807 : Int64)) - z) < ((i0 &&& (9223372036854775807 : Int64)) - z))))), .val (.int (bi (¬ (((i0 &&& (9223372036854775807 : Int64)) - z) < (((i0 &&& (9223372036854775807 : Int64)) - z) + (1 : Int64))))))] [(.long z)])
        refine Go.step (fun t k => XS.lload X10.here hx rfl (hb hby at_141) rfl k) ?_
        show Go _ _ _ _ _ _ _ T10 (mkF m 143 #[.val (.long i0), .second, .val (.long i1), .second, .val (.long i2), .second, .val (.long (i0 &&& (9223372036854775807 : Int64))), .second, .val (.long (i1 &&& (9223372036854775807 : Int64))), .second, .val (.long z), .second, .val (.ref b1), .val (.long ((i0 &&& (9223372036854775807 : Int64)) - z)), .second, .val (.int (bi (q67 = true))), .val (.int (bi (¬ (((i0 &&& (9223372036854775807 : Int64)) - z) < i2)))), .val (.int (bi (¬ (((i0 &&& (9223372036854775807 : Int64)) - z) < ((i0 &&& (9223372036854775807 : Int64)) - z))))), .val (.int (bi (¬ (((i0 &&& (9223372036854775807 : Int64)) - z) < (((i0 &&& (9223372036854775807 : Int64)) - z) + (1 : Int64))))))] [(.long z), (.long z)])
        refine Go.step (fun t k => XS.lcmp X10.here hx rfl (hb hby at_143) rfl k) ?_
        show Go _ _ _ _ _ _ _ T10 (mkF m 144 #[.val (.long i0), .second, .val (.long i1), .second, .val (.long i2), .second, .val (.long (i0 &&& (9223372036854775807 : Int64))), .second, .val (.long (i1 &&& (9223372036854775807 : Int64))), .second, .val (.long z), .second, .val (.ref b1), .val (.long ((i0 &&& (9223372036854775807 : Int64)) - z)), .second, .val (.int (bi (q67 = true))), .val (.int (bi (¬ (((i0 &&& (9223372036854775807 : Int64)) - z) < i2)))), .val (.int (bi (¬ (((i0 &&& (9223372036854775807 : Int64)) - z) < ((i0 &&& (9223372036854775807 : Int64)) - z))))), .val (.int (bi (¬ (((i0 &&& (9223372036854775807 : Int64)) - z) < (((i0 &&& (9223372036854775807 : Int64)) - z) + (1 : Int64))))))] [(.int (lcmpW z z))])
        refine Go.step (fun t k => XS.ifNo X10.here hx rfl (hb hby at_144) rfl ((if0 _ _).trans (teq ((lw_eq _ _).mpr rfl)).2) k) ?_
        show Go _ _ _ _ _ _ _ T10 (mkF m 147 #[.val (.long i0), .second, .val (.long i1), .second, .val (.long i2), .second, .val (.long (i0 &&& (9223372036854775807 : Int64))), .second, .val (.long (i1 &&& (9223372036854775807 : Int64))), .second, .val (.long z), .second, .val (.ref b1), .val (.long ((i0 &&& (9223372036854775807 : Int64)) - z)), .second, .val (.int (bi (q67 = true))), .val (.int (bi (¬ (((i0 &&& (9223372036854775807 : Int64)) - z) < i2)))), .val (.int (bi (¬ (((i0 &&& (9223372036854775807 : Int64)) - z) < ((i0 &&& (9223372036854775807 : Int64)) - z))))), .val (.int (bi (¬ (((i0 &&& (9223372036854775807 : Int64)) - z) < (((i0 &&& (9223372036854775807 : Int64)) - z) + (1 : Int64))))))] [])
        refine Go.step (fun t k => XS.iconst X10.here hx rfl (hb hby at_147) k) ?_
        show Go _ _ _ _ _ _ _ T10 (mkF m 148 #[.val (.long i0), .second, .val (.long i1), .second, .val (.long i2), .second, .val (.long (i0 &&& (9223372036854775807 : Int64))), .second, .val (.long (i1 &&& (9223372036854775807 : Int64))), .second, .val (.long z), .second, .val (.ref b1), .val (.long ((i0 &&& (9223372036854775807 : Int64)) - z)), .second, .val (.int (bi (q67 = true))), .val (.int (bi (¬ (((i0 &&& (9223372036854775807 : Int64)) - z) < i2)))), .val (.int (bi (¬ (((i0 &&& (9223372036854775807 : Int64)) - z) < ((i0 &&& (9223372036854775807 : Int64)) - z))))), .val (.int (bi (¬ (((i0 &&& (9223372036854775807 : Int64)) - z) < (((i0 &&& (9223372036854775807 : Int64)) - z) + (1 : Int64))))))] [(.int (1 : Int32))])
        refine Go.step (fun t k => XS.goto X10.here hx rfl (pc0 := 148) (pc' := 152) rfl (hb hby at_148) (by decide) (by decide) k) ?_
        show Go _ _ _ _ _ _ _ T10 (mkF m 152 #[.val (.long i0), .second, .val (.long i1), .second, .val (.long i2), .second, .val (.long (i0 &&& (9223372036854775807 : Int64))), .second, .val (.long (i1 &&& (9223372036854775807 : Int64))), .second, .val (.long z), .second, .val (.ref b1), .val (.long ((i0 &&& (9223372036854775807 : Int64)) - z)), .second, .val (.int (bi (q67 = true))), .val (.int (bi (¬ (((i0 &&& (9223372036854775807 : Int64)) - z) < i2)))), .val (.int (bi (¬ (((i0 &&& (9223372036854775807 : Int64)) - z) < ((i0 &&& (9223372036854775807 : Int64)) - z))))), .val (.int (bi (¬ (((i0 &&& (9223372036854775807 : Int64)) - z) < (((i0 &&& (9223372036854775807 : Int64)) - z) + (1 : Int64))))))] [(.int (1 : Int32))])
        refine go_retN X10 hx (t := .boolean) hret (by simp) hlk (hb hby at_152) (w := (1 : Int32)) rfl ?_ (by decide) (by decide)
        try rw [e10]
        exact ⟨rfl, N10⟩
    by_cases c67_11 : ((i0 &&& (9223372036854775807 : Int64)) - z) < i2
    · refine Go.step (fun t k => XS.ifYes X3.here hx rfl (pc0 := 67) (pc' := 74) rfl (hb hby at_67) rfl ((if0 _ _).trans (tlt ((lw_gt _ _).mpr c67_11)).2.2.1) (by decide) (by decide) k) ?_
      show Go _ _ _ _ _ _ _ T3 (mkF m 74 #[.val (.long i0), .second, .val (.long i1), .second, .val (.long i2), .second, .val (.long (i0 &&& (9223372036854775807 : Int64))), .second, .val (.long (i1 &&& (9223372036854775807 : Int64))), .second, .val (.long z), .second, .val (.ref b1), .val (.long ((i0 &&& (9223372036854775807 : Int64)) - z)), .second, .unset, .unset, .unset, .unset] [])
      refine Go.step (fun t k => XS.iconst X3.here hx rfl (hb hby at_74) k) ?_
      show Go _ _ _ _ _ _ _ T3 (mkF m 75 #[.val (.long i0), .second, .val (.long i1), .second, .val (.long i2), .second, .val (.long (i0 &&& (9223372036854775807 : Int64))), .second, .val (.long (i1 &&& (9223372036854775807 : Int64))), .second, .val (.long z), .second, .val (.ref b1), .val (.long ((i0 &&& (9223372036854775807 : Int64)) - z)), .second, .unset, .unset, .unset, .unset] [(.int (0 : Int32))])
      rw [show (bi (q67 = true)) = (0 : Int32) from bi_f (mt hq67.mp (by simp only [eq_true c67_11, not_true_eq_false, not_false_eq_true, and_true, true_and, and_false, false_and, or_true, true_or, or_false, false_or, and_self, or_self]))] at j67
      exact j67
    · refine Go.step (fun t k => XS.ifNo X3.here hx rfl (hb hby at_67) rfl ((if0 _ _).trans (flt (fun q => c67_11 ((lw_gt _ _).mp q))).2.2.1) k) ?_
      show Go _ _ _ _ _ _ _ T3 (mkF m 70 #[.val (.long i0), .second, .val (.long i1), .second, .val (.long i2), .second, .val (.long (i0 &&& (9223372036854775807 : Int64))), .second, .val (.long (i1 &&& (9223372036854775807 : Int64))), .second, .val (.long z), .second, .val (.ref b1), .val (.long ((i0 &&& (9223372036854775807 : Int64)) - z)), .second, .unset, .unset, .unset, .unset] [])
      refine Go.step (fun t k => XS.iconst X3.here hx rfl (hb hby at_70) k) ?_
      show Go _ _ _ _ _ _ _ T3 (mkF m 71 #[.val (.long i0), .second, .val (.long i1), .second, .val (.long i2), .second, .val (.long (i0 &&& (9223372036854775807 : Int64))), .second, .val (.long (i1 &&& (9223372036854775807 : Int64))), .second, .val (.long z), .second, .val (.ref b1), .val (.long ((i0 &&& (9223372036854775807 : Int64)) - z)), .second, .unset, .unset, .unset, .unset] [(.int (1 : Int32))])
      refine Go.step (fun t k => XS.goto X3.here hx rfl (pc0 := 71) (pc' := 75) rfl (hb hby at_71) (by decide) (by decide) k) ?_
      show Go _ _ _ _ _ _ _ T3 (mkF m 75 #[.val (.long i0), .second, .val (.long i1), .second, .val (.long i2), .second, .val (.long (i0 &&& (9223372036854775807 : Int64))), .second, .val (.long (i1 &&& (9223372036854775807 : Int64))), .second, .val (.long z), .second, .val (.ref b1), .val (.long ((i0 &&& (9223372036854775807 : Int64)) - z)), .second, .unset, .unset, .unset, .unset] [(.int (1 : Int32))])
      rw [show (bi (q67 = true)) = (1 : Int32) from bi_t (hq67.mpr (by simp only [eq_false c67_11, not_true_eq_false, not_false_eq_true, and_true, true_and, and_false, false_and, or_true, true_or, or_false, false_or, and_self, or_self]))] at j67
      exact j67
  by_cases c20_12 : (i0 &&& (9223372036854775807 : Int64)) = (9223372036854775807 : Int64)
  · refine Go.step (fun t k => XS.ifNo X0.here hx rfl (hb hby at_20) rfl ((if0 _ _).trans (teq ((lw_eq _ _).mpr c20_12)).2) k) ?_
    show Go _ _ _ _ _ _ _ T0 (mkF m 23 #[.val (.long i0), .second, .val (.long i1), .second, .val (.long i2), .second, .val (.long (i0 &&& (9223372036854775807 : Int64))), .second, .val (.long (i1 &&& (9223372036854775807 : Int64))), .second, .unset, .unset, .unset, .unset, .unset, .unset, .unset, .unset, .unset] [])
    refine Go.step (fun t k => XS.lload X0.here hx rfl (hb hby at_23) rfl k) ?_
    show Go _ _ _ _ _ _ _ T0 (mkF m 25 #[.val (.long i0), .second, .val (.long i1), .second, .val (.long i2), .second, .val (.long (i0 &&& (9223372036854775807 : Int64))), .second, .val (.long (i1 &&& (9223372036854775807 : Int64))), .second, .unset, .unset, .unset, .unset, .unset, .unset, .unset, .unset, .unset] [(.long (i1 &&& (9223372036854775807 : Int64)))])
    refine Go.step (fun t k => XS.goto X0.here hx rfl (pc0 := 25) (pc' := 35) rfl (hb hby at_25) (by decide) (by decide) k) ?_
    show Go _ _ _ _ _ _ _ T0 (mkF m 35 #[.val (.long i0), .second, .val (.long i1), .second, .val (.long i2), .second, .val (.long (i0 &&& (9223372036854775807 : Int64))), .second, .val (.long (i1 &&& (9223372036854775807 : Int64))), .second, .unset, .unset, .unset, .unset, .unset, .unset, .unset, .unset, .unset] [(.long (i1 &&& (9223372036854775807 : Int64)))])
    exact j20 _ (own_u1 _ i1 c20_12)
  · refine Go.step (fun t k => XS.ifYes X0.here hx rfl (pc0 := 20) (pc' := 28) rfl (hb hby at_20) rfl ((if0 _ _).trans (feq (fun q => c20_12 ((lw_eq _ _).mp q))).2) (by decide) (by decide) k) ?_
    show Go _ _ _ _ _ _ _ T0 (mkF m 28 #[.val (.long i0), .second, .val (.long i1), .second, .val (.long i2), .second, .val (.long (i0 &&& (9223372036854775807 : Int64))), .second, .val (.long (i1 &&& (9223372036854775807 : Int64))), .second, .unset, .unset, .unset, .unset, .unset, .unset, .unset, .unset, .unset] [])
    refine Go.step (fun t k => XS.lload X0.here hx rfl (hb hby at_28) rfl k) ?_
    show Go _ _ _ _ _ _ _ T0 (mkF m 30 #[.val (.long i0), .second, .val (.long i1), .second, .val (.long i2), .second, .val (.long (i0 &&& (9223372036854775807 : Int64))), .second, .val (.long (i1 &&& (9223372036854775807 : Int64))), .second, .unset, .unset, .unset, .unset, .unset, .unset, .unset, .unset, .unset] [(.long (i1 &&& (9223372036854775807 : Int64)))])
    refine Go.step (fun t k => XS.lload X0.here hx rfl (hb hby at_30) rfl k) ?_
    show Go _ _ _ _ _ _ _ T0 (mkF m 32 #[.val (.long i0), .second, .val (.long i1), .second, .val (.long i2), .second, .val (.long (i0 &&& (9223372036854775807 : Int64))), .second, .val (.long (i1 &&& (9223372036854775807 : Int64))), .second, .unset, .unset, .unset, .unset, .unset, .unset, .unset, .unset, .unset] [(.long (i0 &&& (9223372036854775807 : Int64))), (.long (i1 &&& (9223372036854775807 : Int64)))])
    refine Go.step (fun t k => XS.lconst X0.here hx rfl (hb hby at_32) k) ?_
    show Go _ _ _ _ _ _ _ T0 (mkF m 33 #[.val (.long i0), .second, .val (.long i1), .second, .val (.long i2), .second, .val (.long (i0 &&& (9223372036854775807 : Int64))), .second, .val (.long (i1 &&& (9223372036854775807 : Int64))), .second, .unset, .unset, .unset, .unset, .unset, .unset, .unset, .unset, .unset] [(.long (1 : Int64)), (.long (i0 &&& (9223372036854775807 : Int64))), (.long (i1 &&& (9223372036854775807 : Int64)))])
    refine Go.step (fun t k => XS.ladd X0.here hx rfl (hb hby at_33) rfl k) ?_
    show Go _ _ _ _ _ _ _ T0 (mkF m 34 #[.val (.long i0), .second, .val (.long i1), .second, .val (.long i2), .second, .val (.long (i0 &&& (9223372036854775807 : Int64))), .second, .val (.long (i1 &&& (9223372036854775807 : Int64))), .second, .unset, .unset, .unset, .unset, .unset, .unset, .unset, .unset, .unset] [(.long ((i0 &&& (9223372036854775807 : Int64)) + (1 : Int64))), (.long (i1 &&& (9223372036854775807 : Int64)))])
    refine Go.step (fun t k => XS.lrem X0.here hx rfl (hb hby at_34) rfl (own_nz i0 c20_12).2 (by rw [lrem_mod]; exact k)) ?_
    show Go _ _ _ _ _ _ _ T0 (mkF m 35 #[.val (.long i0), .second, .val (.long i1), .second, .val (.long i2), .second, .val (.long (i0 &&& (9223372036854775807 : Int64))), .second, .val (.long (i1 &&& (9223372036854775807 : Int64))), .second, .unset, .unset, .unset, .unset, .unset, .unset, .unset, .unset, .unset] [(.long ((i1 &&& (9223372036854775807 : Int64)) % ((i0 &&& (9223372036854775807 : Int64)) + (1 : Int64))))])
    exact j20 _ (own_u2 i0 i1 c20_12)
set_option maxRecDepth 65536 in
set_option maxHeartbeats 40000000 in
theorem comes_1 {Post : Tables → Env → Array Value → State → Outcome → State → Prop} (hpost : ∀ tb e args s v u, (limb_1_1.after args s (.returned v) u = true ∧ limb_1_2.after args s (.returned v) u = true ∧ True) → FrameEnd s (.returned v) u (Jvm.fieldLocs frame_1_writes args s ++ Jvm.arrayLocs frame_1_arrays args s ++ Jvm.staticLocs frame_1_statics s) 16 128 → Post tb e args s (.returned v) u) :
    ArmFor flags0 classFile x code maxLocals ret World_1 tables_1 room_1 Calls_1 rest_1 Pre_1 Post := by
  intro l hfl _ _ p e ha hc hk s m args below hf hA hF happ hP
  obtain ⟨hcalls, hrest, hpre⟩ := hP
  obtain ⟨-, -, -, hnamed, -, -, -, hat⟩ := (Spec.applies_iff hf).mp happ
  obtain ⟨hg, hn⟩ := and_e (Cond.before_iff.mp (show (Jvm.Cond.and given_1 narrow_1).before args s = true from hpre))
  obtain ⟨hcnt, hg1⟩ := and_e hg
  obtain ⟨ha0, hg2⟩ := and_e hg1
  obtain ⟨ha1, hg3⟩ := and_e hg2
  obtain ⟨w0, w1, w2, rfl⟩ : ∃ w0 w1 w2 : Value, args = #[w0, w1, w2] := by
    have hs : args.size = 3 := by simpa [Cond.value, given_1] using hcnt
    obtain ⟨L⟩ := args
    match L, hs with
    | [w0, w1, w2], _ => exact ⟨w0, w1, w2, rfl⟩
  have hw := fun d (hd : d ∈ tables_1) => atoms_spec (ws := Jvm.Cond.code x code maxLocals ret :: tables_1) hat d (List.mem_cons_of_mem _ hd)
  have hfit : Fit s := fun {y c} hc i hi => by
    obtain ⟨ha, rfl⟩ := Array.getElem?_eq_some_iff.mp hc
    have q := List.all_eq_true.mp ((Array.all_eq_true_iff_forall_mem.mp hF) _ (Array.getElem_mem ha)) i (List.mem_range.mpr hi)
    simpa [Array.getElem?_eq_getElem hi] using q
  obtain ⟨i0, ei0⟩ := isL_v ha0
  obtain rfl : w0 = (.long i0) := Option.some.inj ei0
  obtain ⟨i1, ei1⟩ := isL_v ha1
  obtain rfl : w1 = (.long i1) := Option.some.inj ei1
  obtain ⟨i2, ei2⟩ := isL_v hg3
  obtain rfl : w2 = (.long i2) := Option.some.inj ei2
  obtain ⟨n, o, h1, h2, h3, _, L, rfl, ⟨rfl, N⟩, hq⟩ := rm0 l s _ hw tables_1 i0 i1 i2 s.heap s.heap.size (Nat.le_refl _)  p e ha hc hk s m _ below hf ((Spec.applies_iff_loose hf).mp happ).1 ⟨rfl, State.Warmed39.refl s, rfl⟩ trivial
  refine ⟨n, _, h1, h2, h3, hpost _ _ _ _ _ _ ⟨Cond.after_iff.mpr rfl, Cond.after_iff.mpr (eq_i res_at (Term.int_eval (1)) rfl), trivial⟩ ⟨hq.1, hq.2.1, (hq.2.2.sift fun y hy => Or.inr (N y hy)).mono (by decide) (by decide)⟩⟩
theorem main_1_1 : Claimed_1_1 := comes_1 fun _ _ _ _ _ _ h hF => ⟨h.1, hF⟩
theorem main_1_2 : Claimed_1_2 := comes_1 fun _ _ _ _ _ _ h hF => ⟨h.2.1, hF⟩
end Jvm.Pilot.@@N@@
namespace Jvm.Pilot.@@N@@
open Jvm Jvm.ClassFile Sem Op Lib Jvm.Free Jvm.Stand Jvm.Pilot.@@N@@.Jvm.D
/-! MADE BY PROGRAM (witnessworld.py) out of the Statement's table words and the real class files: 9 classes; the members and pool entries that the words name. The judged class is class 1, her method 1. -/
namespace start1
open Jvm.ClassFile
def u (s : String) : CpInfo := .utf8 (stringToUtf16 s)
/-- a pool by its gaps: so many unusable entries, then the entry; so many at the end -/
def gap : Nat → List CpInfo → List CpInfo
  | 0, r => r
  | n + 1, r => .unusable :: gap n r
def poolList (es : List (Nat × CpInfo)) (last : Nat) : List CpInfo := es.foldr (fun e r => gap e.1 (e.2 :: r)) (gap last [])
def pool (es : List (Nat × CpInfo)) (last : Nat) : Array CpInfo := ⟨poolList es last⟩
def fileOf (pool : Array CpInfo) (this : Nat) (attrs : Array Attribute := #[]) (ms : Array MethodInfo := #[]) (fl : Nat := 33) (sup : Nat := 0) (ifs : Array Nat := #[]) (fds : Array FieldInfo := #[]) : ClassFile where
  minorVersion := 0
  majorVersion := 65
  constantPool := pool
  accessFlags := fl
  thisClass := this
  superClass := sup
  interfaces := ifs
  fields := fds
  methods := ms
  attributes := attrs
def plain (name : String) (sup : Option ClassId) : Class where
  name := name
  kind := .ordinary
  loader := none
  accessFlags := 33
  super := sup
  interfaces := #[]
  cf := none
  fields := #[]
  methods := #[]
  instanceTypes := #[]
  staticTypes := #[]
  resolved := #[]
  callSites := []
  init := .initialized
  statics := none
  mirror := none

def pool0 : Array CpInfo := pool [(5, u "<init>"), (0, u "()V"), (1, .class_ 10), (1, u "java/lang/Object")] 113

def k0c0 : Code := { maxStack := 0, maxLocals := 1, code := object_method_1_code, exceptionTable := #[], attributes := #[] }
def k0m0 : Method := { name := "<init>", desc := "()V", sig := { parameters := [], returnType := none }, accessFlags := 1, code := some k0c0 }
/-- java/lang/Object -/
def k0 : Class := { plain "java/lang/Object" none with
  accessFlags := 33
  interfaces := #[]
  cf := some (fileOf pool0 8 #[] #[{ accessFlags := 1, nameIndex := 5, descriptorIndex := 6, attributes := #[] }] 33 0 #[] #[])
  fields := #[]
  methods := #[k0m0]
  instanceTypes := #[]
  staticTypes := #[]
  resolved := Array.replicate 124 none
  statics := none }

def pool1 : Array CpInfo := pool [(2, .class_ 4), (1, u "java/lang/Object"), (0, u "<init>"), (0, u "()V"), (2, .long 9223372036854775807), (1, .class_ 12), (0, u "com/example/tallowcast/tallowcast/graph/Fuel"), (0, .methodref 11 14), (0, .nameAndType 5 15), (0, u "(J)V"), (0, .methodref 11 17), (0, .nameAndType 18 15), (0, u "charge"), (0, .methodref 11 20), (0, .nameAndType 21 22), (0, u "canPay"), (0, u "(J)Z"), (0, .methodref 11 24), (0, .nameAndType 25 26), (0, u "used"), (0, u "()J"), (0, .class_ 28), (0, u "com/example/tallowcast/tallowcast/graph/FuelCanPayPinLaw"), (2, u "law"), (0, u "(JJJ)Z")] 3

def k1m0 : Method := { name := "<init>", desc := "()V", sig := { parameters := [], returnType := none }, accessFlags := 1, code := none }
def k1c1 : Code := { maxStack := 6, maxLocals := 19, code := code, exceptionTable := #[], attributes := #[] }
def k1m1 : Method := { name := "law", desc := "(JJJ)Z", sig := { parameters := [.long, .long, .long], returnType := some .boolean }, accessFlags := 9, code := some k1c1 }
/-- com/example/tallowcast/tallowcast/graph/FuelCanPayPinLaw -/
def k1 : Class := { plain "com/example/tallowcast/tallowcast/graph/FuelCanPayPinLaw" (some 0) with
  accessFlags := 49
  interfaces := #[]
  cf := some (fileOf pool1 27 #[] #[{ accessFlags := 1, nameIndex := 5, descriptorIndex := 6, attributes := #[] }, { accessFlags := 9, nameIndex := 31, descriptorIndex := 32, attributes := #[] }] 49 2 #[] #[])
  fields := #[]
  methods := #[k1m0, k1m1]
  instanceTypes := #[]
  staticTypes := #[]
  resolved := Array.replicate 36 none
  statics := none }

def pool2 : Array CpInfo := pool [(1, .methodref 2 3), (0, .class_ 4), (0, .nameAndType 5 6), (0, u "java/lang/Object"), (0, u "<init>"), (0, u "()V"), (9, .fieldref 17 18), (0, .class_ 19), (0, .nameAndType 20 21), (0, u "com/example/tallowcast/tallowcast/graph/Fuel"), (0, u "budget"), (0, u "J"), (12, .fieldref 17 35), (0, .nameAndType 36 21), (0, u "used"), (0, .methodref 17 38), (0, .nameAndType 39 40), (0, u "canPay"), (0, u "(J)Z"), (10, u "(J)V"), (0, u "DEFAULT_BUDGET"), (3, u "UNITS"), (0, u "Ljava/lang/String;"), (7, u "()J"), (0, u "charge")] 20

def k2c0 : Code := { maxStack := 4, maxLocals := 3, code := prog_33_method_1_code, exceptionTable := #[], attributes := #[] }
def k2m0 : Method := { name := "<init>", desc := "(J)V", sig := { parameters := [.long], returnType := none }, accessFlags := 1, code := some k2c0 }
def k2c1 : Code := { maxStack := 2, maxLocals := 1, code := prog_33_method_4_code, exceptionTable := #[], attributes := #[] }
def k2m1 : Method := { name := "used", desc := "()J", sig := { parameters := [], returnType := some .long }, accessFlags := 1, code := some k2c1 }
def k2c2 : Code := { maxStack := 6, maxLocals := 3, code := prog_33_method_5_code, exceptionTable := #[], attributes := #[] }
def k2m2 : Method := { name := "canPay", desc := "(J)Z", sig := { parameters := [.long], returnType := some .boolean }, accessFlags := 0, code := some k2c2 }
def k2c3 : Code := { maxStack := 8, maxLocals := 3, code := prog_33_method_6_code, exceptionTable := #[], attributes := #[] }
def k2m3 : Method := { name := "charge", desc := "(J)V", sig := { parameters := [.long], returnType := none }, accessFlags := 0, code := some k2c3 }
/-- com/example/tallowcast/tallowcast/graph/Fuel -/
def k2 : Class := { plain "com/example/tallowcast/tallowcast/graph/Fuel" (some 0) with
  accessFlags := 49
  interfaces := #[]
  cf := some (fileOf pool2 17 #[] #[{ accessFlags := 1, nameIndex := 5, descriptorIndex := 51, attributes := #[] }, { accessFlags := 1, nameIndex := 36, descriptorIndex := 65, attributes := #[] }, { accessFlags := 0, nameIndex := 39, descriptorIndex := 40, attributes := #[] }, { accessFlags := 0, nameIndex := 66, descriptorIndex := 51, attributes := #[] }] 49 2 #[] #[{ accessFlags := 25, nameIndex := 52, descriptorIndex := 21, attributes := #[] }, { accessFlags := 26, nameIndex := 56, descriptorIndex := 57, attributes := #[] }, { accessFlags := 18, nameIndex := 20, descriptorIndex := 21, attributes := #[] }, { accessFlags := 2, nameIndex := 36, descriptorIndex := 21, attributes := #[] }])
  fields := #[{ name := "DEFAULT_BUDGET", type := .long, accessFlags := 25, slot := 0, constantValue := 0 }, { name := "UNITS", type := (.object "java/lang/String"), accessFlags := 26, slot := 1, constantValue := 0 }, { name := "budget", type := .long, accessFlags := 18, slot := 0, constantValue := 0 }, { name := "used", type := .long, accessFlags := 2, slot := 1, constantValue := 0 }]
  methods := #[k2m0, k2m1, k2m2, k2m3]
  instanceTypes := #[.long, .long]
  staticTypes := #[.long, (.object "java/lang/String")]
  resolved := Array.replicate 87 none
  statics := none }

def pool3 : Array CpInfo := pool [(1, u "java/lang/Cloneable"), (0, .class_ 1), (0, u "java/lang/Object"), (0, .class_ 3)] 3

/-- java/lang/Cloneable -/
def k3 : Class := { plain "java/lang/Cloneable" (some 0) with
  accessFlags := 1537
  interfaces := #[]
  cf := some (fileOf pool3 2 #[] #[] 1537 4 #[] #[])
  fields := #[]
  methods := #[]
  instanceTypes := #[]
  staticTypes := #[]
  resolved := Array.replicate 8 none
  statics := none }

def pool4 : Array CpInfo := pool [(1, u "java/io/Serializable"), (0, .class_ 1), (0, u "java/lang/Object"), (0, .class_ 3)] 3

/-- java/io/Serializable -/
def k4 : Class := { plain "java/io/Serializable" (some 0) with
  accessFlags := 1537
  interfaces := #[]
  cf := some (fileOf pool4 2 #[] #[] 1537 4 #[] #[])
  fields := #[]
  methods := #[]
  instanceTypes := #[]
  staticTypes := #[]
  resolved := Array.replicate 8 none
  statics := none }

/-- the primitive byte -/
def k5 : Class := { plain "byte" none with kind := .primitive 'B', accessFlags := 0x411 }
/-- [B -/
def k6 : Class := { plain "[B" (some 0) with kind := .array 5 .byte, interfaces := #[3, 4], accessFlags := 1041 }

/-- the primitive int -/
def k7 : Class := { plain "int" none with kind := .primitive 'I', accessFlags := 0x411 }
/-- [I -/
def k8 : Class := { plain "[I" (some 0) with kind := .array 7 .int, interfaces := #[3, 4], accessFlags := 1041 }

def heap : Heap := #[]
def classes : Array Class := #[k0, k1, k2, k3, k4, k5, k6, k7, k8]
def interned : List (Array UInt16 × Addr) := []
def slotsUsed : Nat := 0
def theMethod : MethodId := ⟨1, 1⟩
def args0 : Array Value := #[.long 5, .long 5, .long 5]
def aboutOver (below : List Frame) : State where
  vm := { classes := classes, interned := interned.toArray }
  heap := heap
  slotsUsed := slotsUsed
  threads := #[{ frames := .invoking theMethod args0 :: below }]
def below0 : List Frame := [.native { method := ⟨0, 0⟩, args := #[] }]
def about1 : State := aboutOver below0
def p0 : Program := .bare "" "" ""
def e0 : Env := launch0.env 0 0 0
theorem w_frames : about1.frames = Frame.invoking theMethod args0 :: below0 := rfl
set_option maxRecDepth 65536 in
theorem w_args : argsFit about1.vm theMethod args0 = true := by decide +kernel
set_option maxRecDepth 65536 in
theorem w_heap : heapFits about1 = true := by decide +kernel
set_option maxRecDepth 65536 in
theorem w_runnable : about1.curStatus? = some .runnable := by decide +kernel
set_option maxRecDepth 65536 in
theorem w_alone : about1.alone = true := by decide +kernel
set_option maxRecDepth 65536 in
theorem w_named : about1.methodNamed? x = some theMethod := by decide +kernel
set_option maxRecDepth 65536 in
theorem w_hears : about1.hears theMethod below0 = true := by decide +kernel
set_option maxRecDepth 65536 in
theorem w_ripe : about1.ripe theMethod args0 below0 = true := by decide +kernel
theorem w_running : about1.status = .running := rfl
set_option maxRecDepth 65536 in
theorem w_room : about1.hasRoom e0.platform room_1 = true :=
  launch0.hasRoom_least _ room_1 (by decide +kernel) (by decide +kernel) (by decide +kernel) (by decide +kernel) (by decide +kernel) (by decide +kernel)
theorem allAtoms_all (ts : List Jvm.Cond) (a : Array Jvm.Value) (st : Jvm.State) : (allAtoms ts).before a st = ts.all (fun c => c.before a st) := by
  induction ts with
  | nil => rfl
  | cons c t ih =>
    show (Jvm.Cond.and c (allAtoms t)).before a st = _
    rw [Jvm.Cond.before_and, ih, List.all_cons]
def words1 : List Jvm.Cond := Jvm.Cond.code x code maxLocals ret :: tables_1
/-- a 'code' word, met by the world's own term for the bytes: nothing is compared byte by byte -/
theorem code_word {y : MethodName} {bytes : ByteArray} {mx : Nat} {rt : Option FieldType} {a : Array Value} {s : State} {m : MethodId} {meth : Method} {c : Code} (h1 : s.methodNamed? y = some m) (h2 : s.vm.method? m = some meth) (h3 : meth.code = some c) (h4 : c.code = bytes)
    (h5 : (c.maxLocals == mx && c.exceptionTable.isEmpty && decide (c.maxStack ≤ mostOperands) && decide (meth.sig.returnType = rt) && !meth.locks && decide (parseMethodDescriptor y.desc = some meth.sig)) = true) : (Jvm.Cond.code y bytes mx rt).before a s = true := by
  simp only [Bool.and_eq_true, beq_iff_eq, Bool.not_eq_true', decide_eq_true_eq] at h5
  obtain ⟨⟨⟨⟨⟨g1, g2⟩, g3⟩, g4⟩, g5⟩, g6⟩ := h5
  simp [Cond.before, Cond.holds, Cond.value, h1, h2, h3, h4, g1, g2, g3, g4, g5, g6]
def isCode : Jvm.Cond → Bool
  | .code _ _ _ _ => true
  | _ => false
theorem all_split {L : List Jvm.Cond} {P : Jvm.Cond → Bool} (h1 : L.all (fun c => isCode c || P c) = true) (h2 : ∀ c ∈ L.filter isCode, P c = true) : L.all P = true := by
  refine List.all_eq_true.mpr fun c hc => ?_
  have h := List.all_eq_true.mp h1 c hc
  rcases Bool.eq_false_or_eq_true (isCode c) with hi | hi
  · exact h2 c (List.mem_filter.mpr ⟨hc, hi⟩)
  · simpa [hi] using h
set_option maxRecDepth 65536 in
theorem w_c0 : (Jvm.Cond.code x code maxLocals ret).before args0 about1 = true := code_word (m := ⟨1, 1⟩) (meth := k1m1) (c := k1c1) (by decide +kernel) rfl rfl rfl (by decide +kernel)
set_option maxRecDepth 65536 in
theorem w_c1 : (Jvm.Cond.code ({ cls := "com/example/tallowcast/tallowcast/graph/Fuel", name := "<init>", desc := "(J)V" } : Jvm.MethodName) prog_33_method_1_code (3 : Nat) (Option.none : Option Jvm.ClassFile.FieldType)).before args0 about1 = true := code_word (m := ⟨2, 0⟩) (meth := k2m0) (c := k2c0) (by decide +kernel) rfl rfl rfl (by decide +kernel)
set_option maxRecDepth 65536 in
theorem w_c2 : (Jvm.Cond.code ({ cls := "java/lang/Object", name := "<init>", desc := "()V" } : Jvm.MethodName) object_method_1_code (1 : Nat) (Option.none : Option Jvm.ClassFile.FieldType)).before args0 about1 = true := code_word (m := ⟨0, 0⟩) (meth := k0m0) (c := k0c0) (by decide +kernel) rfl rfl rfl (by decide +kernel)
set_option maxRecDepth 65536 in
theorem w_c3 : (Jvm.Cond.code ({ cls := "com/example/tallowcast/tallowcast/graph/Fuel", name := "charge", desc := "(J)V" } : Jvm.MethodName) prog_33_method_6_code (3 : Nat) (Option.none : Option Jvm.ClassFile.FieldType)).before args0 about1 = true := code_word (m := ⟨2, 3⟩) (meth := k2m3) (c := k2c3) (by decide +kernel) rfl rfl rfl (by decide +kernel)
set_option maxRecDepth 65536 in
theorem w_c4 : (Jvm.Cond.code ({ cls := "com/example/tallowcast/tallowcast/graph/Fuel", name := "canPay", desc := "(J)Z" } : Jvm.MethodName) prog_33_method_5_code (3 : Nat) (Option.some Jvm.ClassFile.FieldType.boolean)).before args0 about1 = true := code_word (m := ⟨2, 2⟩) (meth := k2m2) (c := k2c2) (by decide +kernel) rfl rfl rfl (by decide +kernel)
set_option maxRecDepth 65536 in
theorem w_c5 : (Jvm.Cond.code ({ cls := "com/example/tallowcast/tallowcast/graph/Fuel", name := "used", desc := "()J" } : Jvm.MethodName) prog_33_method_4_code (1 : Nat) (Option.some Jvm.ClassFile.FieldType.long)).before args0 about1 = true := code_word (m := ⟨2, 1⟩) (meth := k2m1) (c := k2c1) (by decide +kernel) rfl rfl rfl (by decide +kernel)
def codes1 : List Jvm.Cond := [Jvm.Cond.code x code maxLocals ret, Jvm.Cond.code ({ cls := "com/example/tallowcast/tallowcast/graph/Fuel", name := "<init>", desc := "(J)V" } : Jvm.MethodName) prog_33_method_1_code (3 : Nat) (Option.none : Option Jvm.ClassFile.FieldType), Jvm.Cond.code ({ cls := "java/lang/Object", name := "<init>", desc := "()V" } : Jvm.MethodName) object_method_1_code (1 : Nat) (Option.none : Option Jvm.ClassFile.FieldType), Jvm.Cond.code ({ cls := "com/example/tallowcast/tallowcast/graph/Fuel", name := "charge", desc := "(J)V" } : Jvm.MethodName) prog_33_method_6_code (3 : Nat) (Option.none : Option Jvm.ClassFile.FieldType), Jvm.Cond.code ({ cls := "com/example/tallowcast/tallowcast/graph/Fuel", name := "canPay", desc := "(J)Z" } : Jvm.MethodName) prog_33_method_5_code (3 : Nat) (Option.some Jvm.ClassFile.FieldType.boolean), Jvm.Cond.code ({ cls := "com/example/tallowcast/tallowcast/graph/Fuel", name := "used", desc := "()J" } : Jvm.MethodName) prog_33_method_4_code (1 : Nat) (Option.some Jvm.ClassFile.FieldType.long)]
set_option maxRecDepth 65536 in
theorem codes_eq : words1.filter isCode = codes1 := rfl
theorem w_codes : ∀ c ∈ words1.filter isCode, c.before args0 about1 = true := by
  rw [codes_eq]
  intro c hc
  simp only [codes1, List.mem_cons, List.not_mem_nil, or_false] at hc
  rcases hc with rfl | rfl | rfl | rfl | rfl | rfl
  · exact w_c0
  · exact w_c1
  · exact w_c2
  · exact w_c3
  · exact w_c4
  · exact w_c5
set_option maxRecDepth 65536 in
theorem w_t1 : (words1.take 24).all (fun c => isCode c || c.before args0 about1) = true := by decide +kernel
set_option maxRecDepth 65536 in
theorem w_t2 : (words1.drop 24).all (fun c => isCode c || c.before args0 about1) = true := by decide +kernel
theorem w_tables : (allAtoms (Jvm.Cond.code x code maxLocals ret :: tables_1)).before args0 about1 = true := by
  rw [allAtoms_all]
  show words1.all (fun c => c.before args0 about1) = true
  refine all_split ?_ w_codes
  rw [← List.take_append_drop 24 words1, List.all_append, w_t1, w_t2]
  rfl
set_option maxRecDepth 65536 in
theorem w_case : (Jvm.Cond.and given_1 narrow_1).before args0 about1 = true := by decide +kernel
theorem w_applies : (headSpec (Jvm.Cond.code x code maxLocals ret :: tables_1) room_1).applies x e0.platform about1 = true :=
  (Spec.applies_iff w_frames).mpr ⟨w_running, w_runnable, w_alone, w_named, w_hears, w_ripe, w_room, w_tables⟩
theorem atStart : AtStart classFile x code maxLocals ret World_1 tables_1 room_1 Calls_1 rest_1 Pre_1 launch0 p0 e0 about1 theMethod args0 below0 :=
  ⟨lists_1, trivial, launch0.admits_env _ _ _, launch0.least_env, fairChoices_fair.cas, fairChoices_fair.clock, w_frames, w_args, w_heap, w_applies, trivial, trivial, w_case⟩
end start1
theorem witness_1 : WitnessClaimed_1 := ⟨start1.p0, start1.e0, start1.about1, start1.theMethod, start1.args0, start1.below0, start1.atStart⟩
end Jvm.Pilot.@@N@@
