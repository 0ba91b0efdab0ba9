import JvmDerived
import JvmDerived.Pilot.@@N@@Statement
import JvmDerived.Pilot.@@N@@Code
set_option linter.unusedVariables false
set_option linter.unusedSimpArgs false
namespace Jvm.RoadKit
open Sem ClassFile Op Lib Jvm.Stand Jvm.Free Jvm.LawKit
section New
variable {p : Program} {l : Launch} {e : Env} {R : Room} {s : State} {m : MethodId} {args : Array Value} {below : List Frame} {meth : Method} {c : Code} {T : State} {locs : List Loc} {cells slots : Nat}
theorem retI (X : Stand p l e R s m args below meth c T locs cells slots) (hx : p.tables.exec = Jvm.exec) {pc : Nat} {Ls : Array Slot} {z : Int32} {rest : List Value} (hret : meth.sig.returnType = some .int) (hd : decode c.code pc = .ok (.ireturn, 1)) {fs : List Frame}
    (hl : ∀ (f : JFrame) (acts : List Action), f.method = m → f.locked = none → f.entered = [] → (doReturn e (T.setTop f) acts (some (.int z))).1 = T.setFrames fs) : Steps p.tables e below (T.setTop (mkF m pc Ls (.int z :: rest))) (T.setFrames fs) := by
  have hm' : T.vm.method? m = some meth := X.method'
  have hn : narrow .int (.int z) = .int z := rfl
  show Steps p.tables e below (T.setTop { method := m, pc := pc, locals := Ls, stack := _ :: rest, locked := none }) _
  jvm_step X.here [X.here.top, hx, hd, hm', hret, hn]
  first | (intro acts; rw [hl _ acts rfl rfl rfl]) | rw [hl _ _ rfl rfl rfl]
  exact Steps.refl _
end New
end Jvm.RoadKit
namespace Jvm.Pilot.@@N@@
open Jvm Jvm.ClassFile Sem Op Lib Jvm.Free Jvm.Stand Jvm.LawKit Jvm.RoadKit Bundle Jvm.Pilot.@@N@@.Jvm.D
/-- the run from a frame of this method ends in a return with Q -/
def Go (p : Program) (e : Env) (s : State) (below : List Frame) (kc ks : Nat) (Q : Option Value → Heap → List Loc → Prop) (T : State) (f : JFrame) : Prop :=
  ∃ s₂ o, Steps p.tables e below (T.setTop f) s₂ ∧ s₂.status = .running ∧ Ended s₂ below o ∧ ∃ v L, o = .returned v ∧ Q v s₂.heap L ∧ FrameEnd s o s₂ L kc ks
/-- what is known of the method that runs -/
def Cx (p : Program) (s : State) (m : MethodId) (meth : Method) (c : Code) (Z : State) (own nm : String) (code : ByteArray) (maxL : Nat) (ret : Option FieldType) : Prop :=
  p.tables.exec = Jvm.exec ∧ Z.Warmed39 s.vm ∧ c.code = code ∧ c.maxLocals = maxL ∧ s.vm.findClass own = some m.cls ∧ meth.name = nm ∧ meth.sig.returnType = ret ∧ meth.locks = false
/-- a contract -/
def Ctr (l : Launch) (Z : State) (y : MethodName) (bytes : ByteArray) (maxL : Nat) (ret : Option FieldType) (ws : List Jvm.Cond) (rm : Room) (kc ks : Nat) (as : Array Value) (h : Heap) (Q : Option Value → Heap → List Loc → Prop) : Prop :=
  MetFree l y (head1 (Jvm.Cond.code y bytes maxL ret :: ws) rm) (fun a U => a = as ∧ Z.Warmed39 U.vm ∧ U.heap = h) (fun _ _ _ _ _ => True) (fun _ U o U' => ∃ v L, o = .returned v ∧ Q v U'.heap L ∧ FrameEnd U o U' L kc ks)
def bi (P : Prop) [Decidable P] : Int32 := if P then 1 else 0
theorem bi_t {P : Prop} [Decidable P] (h : P) : bi P = 1 := if_pos h
theorem bi_f {P : Prop} [Decidable P] (h : ¬ P) : bi P = 0 := if_neg h
theorem bi_n {P : Prop} [Decidable P] (h : P) : ¬ bi P = 0 := by rw [bi_t h]; decide
theorem bi_1 {P : Prop} [Decidable P] : bi P = 1 ↔ P := by unfold bi; split <;> simp_all
theorem bi_0 {P : Prop} [Decidable P] : bi P = 0 ↔ ¬ P := by unfold bi; split <;> simp_all
theorem bi_eq {P P' : Prop} [Decidable P] [Decidable P'] : bi P = bi P' ↔ (P ↔ P') := by unfold bi; split <;> split <;> simp_all
theorem bi_congr {P P' : Prop} [Decidable P] [Decidable P'] (h : P ↔ P') : bi P = bi P' := bi_eq.mpr h
theorem bi_fits {P : Prop} [Decidable P] : fits .boolean (.int (bi P)) = true := by unfold bi; split <;> rfl
theorem bi_nar {P : Prop} [Decidable P] : nar .boolean (bi P) = bi P := by unfold bi; split <;> rfl
section Own
variable {p : Program} {l : Launch} {e : Env} {R : Room} {s : State} {m : MethodId} {args : Array Value} {below : List Frame} {meth : Method} {c : Code} {T : State} {locs : List Loc} {cells slots kc ks : Nat} {Q : Option Value → Heap → List Loc → Prop} {Z : State} {a0 : Array Value} {h : Heap}
theorem Go.step {T' : State} {f f' : JFrame} (st : ∀ t, Steps p.tables e below (T'.setTop f') t → Steps p.tables e below (T.setTop f) t) (k : Go p e s below kc ks Q T' f') : Go p e s below kc ks Q T f := by
  obtain ⟨s₂, o, h1, r⟩ := k; exact ⟨s₂, o, st _ h1, r⟩
theorem Go.mono {Q' : Option Value → Heap → List Loc → Prop} {f : JFrame} (k : Go p e s below kc ks Q T f) (h : ∀ v h L, Q v h L → Q' v h L) : Go p e s below kc ks Q' T f := by
  obtain ⟨s₂, o, h1, h2, h3, v, L, h4, h5, h6⟩ := k; exact ⟨s₂, o, h1, h2, h3, v, L, h4, h _ _ _ h5, h6⟩
theorem Ctr.mk {y : MethodName} {bytes : ByteArray} {maxL : Nat} {ret : Option FieldType} {ws : List Jvm.Cond} {rm : Room} {as : Array Value} (hp : plainFor y = true)
    (hgo : ∀ (p : Program) (e : Env) (s : State) (m : MethodId) (below : List Frame) (meth : Method) (c : Code) (s₁ : State), Stand p l e rm s m as below meth c s₁ [] 0 0 → Cx p s m meth c Z y.cls y.name bytes maxL ret → s₁.heap = h → Go p e s below kc ks Q s₁ (entryFrame m as maxL)) :
    Ctr l Z y bytes maxL ret ws rm kc ks as h Q := by
  refine MetFree.of_bodySF hp hisR ?_
  intro p e s m args below meth c s₁ Bd hml0 hP hK
  obtain ⟨rfl, hZ, hh⟩ := hP
  exact hgo p e s m below meth c s₁ (Stand.of_body Bd) ⟨Bd.exec, hZ, Bd.bytes, hml0, findClass_of_methodNamed Bd.named, (name_of_methodNamed Bd.named Bd.method).1, Bd.returns, Bd.notSynchronized⟩ (by rw [← hh, Bd.state]; rfl)
theorem go_cast {f f' : JFrame} (q : f = f') (k : Go p e s below kc ks Q T f') : Go p e s below kc ks Q T f := q ▸ k
theorem go_retI (X : Stand p l e R s m args below meth c T locs cells slots) (hx : p.tables.exec = Jvm.exec) (hret : meth.sig.returnType = some .int) (hlk : meth.locks = false) {pc : Nat} {Ls : Array Slot} {z : Int32} {rest : List Value} (hd : decode c.code pc = .ok (.ireturn, 1))
    (hQ : Q (some (.int z)) T.heap locs) (hc : cells ≤ kc) (hs : slots ≤ ks) : Go p e s below kc ks Q T (mkF m pc Ls (.int z :: rest)) := by
  obtain ⟨fs, hr, hrun, hended, hW, hsame⟩ := X.leave (v := some (.int z)) (fun h => by rw [hret] at h; cases h) hlk
  exact ⟨_, _, retI X hx hret hd hr, hrun, hended, _, _, rfl, hQ, ⟨_, rfl⟩, hW, hsame.mono hc hs⟩
theorem go_retN (X : Stand p l e R s m args below meth c T locs cells slots) (hx : p.tables.exec = Jvm.exec) {t : FieldType} (hret : meth.sig.returnType = some t) (ht : t = .boolean ∨ t = .byte ∨ t = .char ∨ t = .short) (hlk : meth.locks = false) {pc : Nat} {Ls : Array Slot} {z w : Int32} {rest : List Value} (hd : decode c.code pc = .ok (.ireturn, 1))
    (hz : nar t z = w) (hQ : Q (some (.int w)) T.heap locs) (hc : cells ≤ kc) (hs : slots ≤ ks) : Go p e s below kc ks Q T (mkF m pc Ls (.int z :: rest)) := by
  subst hz
  obtain ⟨fs, hr, hrun, hended, hW, hsame⟩ := X.leave (v := some (.int (nar t z))) (fun h => by rw [hret] at h; cases h) hlk
  exact ⟨_, _, retN X hx hret ht hd hr, hrun, hended, _, _, rfl, hQ, ⟨_, rfl⟩, hW, hsame.mono hc hs⟩
theorem go_retJ (X : Stand p l e R s m args below meth c T locs cells slots) (hx : p.tables.exec = Jvm.exec) (hret : meth.sig.returnType = some .long) (hlk : meth.locks = false) {pc : Nat} {Ls : Array Slot} {z : Int64} (hd : decode c.code pc = .ok (.lreturn, 1))
    (hQ : Q (some (.long z)) T.heap locs) (hc : cells ≤ kc) (hs : slots ≤ ks) : Go p e s below kc ks Q T (mkF m pc Ls [.long z]) := by
  obtain ⟨fs, hr, hrun, hended, hW, hsame⟩ := X.leave (v := some (.long z)) (fun h => by rw [hret] at h; cases h) hlk
  exact ⟨_, _, X.lreturnOut hx hret hd hr, hrun, hended, _, _, rfl, hQ, ⟨_, rfl⟩, hW, hsame.mono hc hs⟩
theorem go_retA (X : Stand p l e R s m args below meth c T locs cells slots) (hx : p.tables.exec = Jvm.exec) {t : FieldType} (hret : meth.sig.returnType = some t) (ht : t.isReference = true) (hlk : meth.locks = false) {pc : Nat} {Ls : Array Slot} {w : Value} {rest : List Value} (hw : w.isRef = true) (hd : decode c.code pc = .ok (.areturn, 1))
    (hQ : Q (some w) T.heap locs) (hc : cells ≤ kc) (hs : slots ≤ ks) : Go p e s below kc ks Q T (mkF m pc Ls (w :: rest)) := by
  obtain ⟨fs, hr, hrun, hended, hW, hsame⟩ := X.leave (v := some w) (fun h => by rw [hret] at h; cases h) hlk
  have hn : narrow t w = w := by cases t <;> first | rfl | simp [FieldType.isReference] at ht
  exact ⟨_, _, retOut X hx hret hn (Or.inr (Or.inr (Or.inr (Or.inr ⟨rfl, ht, hw⟩)))) hd hr, hrun, hended, _, _, rfl, hQ, ⟨_, rfl⟩, hW, hsame.mono hc hs⟩
theorem go_ret (X : Stand p l e R s m args below meth c T locs cells slots) (hx : p.tables.exec = Jvm.exec) (hret : meth.sig.returnType = none) (hlk : meth.locks = false) {pc : Nat} {Ls : Array Slot} (hd : decode c.code pc = .ok (.return_, 1))
    (hQ : Q none T.heap locs) (hc : cells ≤ kc) (hs : slots ≤ ks) : Go p e s below kc ks Q T (mkF m pc Ls []) := by
  obtain ⟨fs, hr, hrun, hended, hW, hsame⟩ := X.leave (v := none) (fun _ => rfl) hlk
  exact ⟨_, _, X.returnOut hx hret hd hr, hrun, hended, _, _, rfl, hQ, ⟨_, rfl⟩, hW, hsame.mono hc hs⟩
/-! calls by a contract -/
section Calls
variable {own : String} {index : Nat} {y : MethodName} {bytes : ByteArray} {maxL : Nat} {ret r : Option FieldType} {rm : Room} {Qc : Option Value → Heap → List Loc → Prop} {argsL rest : List Value} {ps : List FieldType} {pc W : Nat} {Ls : Array Slot} {a : Addr}
theorem c_static (X : Stand p l e R s m args below meth c T locs cells slots) (hx : p.tables.exec = Jvm.exec) (hZ : Z.Warmed39 s.vm) (hown : s.vm.findClass own = some m.cls)
    (w1 : (Jvm.Cond.methodLink own index y).before a0 Z = true) (w2 : (Jvm.Cond.static y).before a0 Z = true) (w3 : (Jvm.Cond.initialized y.cls).before a0 Z = true) (w4 : (Jvm.Cond.code y bytes maxL ret).before a0 Z = true) (hy : y.cls ≠ "java/lang/invoke/MethodHandle" ∧ y.cls ≠ "java/lang/invoke/VarHandle")
    (hC : Ctr l Z y bytes maxL ret [] rm rm.cells rm.slots argsL.toArray h Qc) (eT : T.heap = h) (hpd : parseMethodDescriptor y.desc = some ⟨ps, r⟩) (hlen : argsL.length = ps.length) (hsz : Ls.size = c.maxLocals) (hW : 2 * 0 + (rest.map fun v => v.category).sum ≤ W)
    (hf : rm.frames + 1 ≤ R.frames) (hl : W + (maxL + 11) + rm.locals ≤ R.locals) (hc : cells + rm.cells ≤ R.cells) (hs : slots + rm.slots ≤ R.slots) (hd : decode c.code pc = .ok (.invokestatic index, 3)) :
    ∃ (v : Option Value) (T' : State) (L : List Loc), Stand p l e R s m args below meth c T' (locs ++ L) (cells + rm.cells) (slots + rm.slots) ∧ Qc v T'.heap L ∧
      ∀ t, Steps p.tables e below (T'.setTop (mkF m (pc + 3) Ls (v.toList ++ rest))) t → Steps p.tables e below (T.setTop (mkF m pc Ls (argsL.reverse ++ rest))) t := by
  obtain ⟨v, _, ⟨T', L', k', n'⟩, -, X', ⟨L, hQ, rfl, rfl, rfl⟩, st⟩ := Jvm.LawKit.callS X hx (y := y) hown (mvT hZ w1) (mvT hZ w2) (mvT hZ w3) (mvT hZ w4) hy (backOf (W := W) hC hZ w4 w3 hf hl) (g := mkF m pc Ls (argsL.reverse ++ rest)) rfl hsz (argsL := argsL) (rest := rest) (lenOf hpd hlen) rfl hW hd (fun _ _ => ⟨rfl, eT, hc, hs⟩)
  exact ⟨v, T', L, X', hQ, st⟩
theorem c_init (X : Stand p l e R s m args below meth c T locs cells slots) (hx : p.tables.exec = Jvm.exec) (hZ : Z.Warmed39 s.vm) (hown : s.vm.findClass own = some m.cls)
    (w1 : (Jvm.Cond.methodLink own index y).before a0 Z = true) (w2 : (Jvm.Cond.instanceMethod y).before a0 Z = true) (w3 : (Jvm.Cond.initialized y.cls).before a0 Z = true) (w4 : (Jvm.Cond.code y bytes maxL none).before a0 Z = true) (hn : y.name = "<init>") (hy : y.cls ≠ "java/lang/invoke/MethodHandle" ∧ y.cls ≠ "java/lang/invoke/VarHandle")
    (hC : Ctr l Z y bytes maxL none [] rm rm.cells rm.slots (.ref a :: argsL).toArray h Qc) (eT : T.heap = h) (hpd : parseMethodDescriptor y.desc = some ⟨ps, r⟩) (hlen : argsL.length = ps.length) (hsz : Ls.size = c.maxLocals) (hW : 2 * 0 + (rest.map fun v => v.category).sum ≤ W)
    (hf : rm.frames + 1 ≤ R.frames) (hl : W + (maxL + 11) + rm.locals ≤ R.locals) (hc : cells + rm.cells ≤ R.cells) (hs : slots + rm.slots ≤ R.slots) (hd : decode c.code pc = .ok (.invokespecial index, 3)) :
    ∃ (v : Option Value) (T' : State) (L : List Loc), Stand p l e R s m args below meth c T' (locs ++ L) (cells + rm.cells) (slots + rm.slots) ∧ Qc v T'.heap L ∧
      ∀ t, Steps p.tables e below (T'.setTop (mkF m (pc + 3) Ls (v.toList ++ rest))) t → Steps p.tables e below (T.setTop (mkF m pc Ls (argsL.reverse ++ .ref a :: rest))) t := by
  obtain ⟨v, _, ⟨T', L', k', n'⟩, -, X', ⟨L, hQ, rfl, rfl, rfl⟩, st⟩ := X.specialBack hx (y := y) hn hown (mvT hZ w1) (mvT hZ w2) (mvT hZ w4) hy (backOf (W := W) hC hZ w4 w3 hf hl) (g := mkF m pc Ls (argsL.reverse ++ .ref a :: rest)) rfl hsz (Steps.refl _) (a := a) (argsL := argsL) (rest := rest) (lenOf hpd hlen) rfl hW hd (fun _ _ => ⟨rfl, eT, hc, hs⟩)
  exact ⟨v, T', L, X', hQ, fun t k => st.trans k⟩
theorem c_virt {y' : MethodName} {C : String} (X : Stand p l e R s m args below meth c T locs cells slots) (hx : p.tables.exec = Jvm.exec) (hZ : Z.Warmed39 s.vm) (hown : s.vm.findClass own = some m.cls)
    (w1 : (Jvm.Cond.methodLink own index y').before a0 Z = true) (wd : (Jvm.Cond.declares y').before a0 Z = true) (nf : NotFace s y') (ws : (Jvm.Cond.selects C y' y).before a0 Z = true) (w2 : (Jvm.Cond.instanceMethod y).before a0 Z = true) (w3 : (Jvm.Cond.initialized y.cls).before a0 Z = true) (w4 : (Jvm.Cond.code y bytes maxL ret).before a0 Z = true) (hy : y'.cls ≠ "java/lang/invoke/MethodHandle" ∧ y'.cls ≠ "java/lang/invoke/VarHandle")
    (hC : Ctr l Z y bytes maxL ret [] rm rm.cells rm.slots (.ref a :: argsL).toArray h Qc) (eT : T.heap = h) (E : Exa Z h a C) (hpd : parseMethodDescriptor y'.desc = some ⟨ps, r⟩) (hlen : argsL.length = ps.length) (hsz : Ls.size = c.maxLocals) (hW : 2 * 0 + (rest.map fun v => v.category).sum ≤ W)
    (hf : rm.frames + 1 ≤ R.frames) (hl : W + (maxL + 11) + rm.locals ≤ R.locals) (hc : cells + rm.cells ≤ R.cells) (hs : slots + rm.slots ≤ R.slots) (hd : decode c.code pc = .ok (.invokevirtual index, 3)) :
    ∃ (v : Option Value) (T' : State) (L : List Loc), Stand p l e R s m args below meth c T' (locs ++ L) (cells + rm.cells) (slots + rm.slots) ∧ Qc v T'.heap L ∧
      ∀ t, Steps p.tables e below (T'.setTop (mkF m (pc + 3) Ls (v.toList ++ rest))) t → Steps p.tables e below (T.setTop (mkF m pc Ls (argsL.reverse ++ .ref a :: rest))) t := by
  obtain ⟨cq, kq, qa, qb, qc⟩ := isOf hZ eT E
  obtain ⟨v, _, ⟨T', L', k', n'⟩, -, X', ⟨L, hQ, rfl, rfl, rfl⟩, st⟩ := X.virtualBack hx (y := y') (z := y) hown (mvT hZ w1) (mvT hZ wd) nf (mvT hZ ws) (mvT hZ w2) hy (backOf (W := W) hC hZ w4 w3 hf hl) qa qc (g := mkF m pc Ls (argsL.reverse ++ .ref a :: rest)) rfl hsz (Steps.refl _) (argsL := argsL) (rest := rest) (lenOf hpd hlen) rfl hW hd (fun _ _ => ⟨rfl, eT, hc, hs⟩)
  exact ⟨v, T', L, X', hQ, fun t k => st.trans k⟩
theorem own_nf {y' z : MethodName} {C : String} {as : Array Value} (ws : (Jvm.Cond.selects C y' z).before as s = true) (h : z.cls = y.cls) : NotFace s y := fun r0 h0 => by
  obtain ⟨_, _, m2, -, -, q3, -, kP, hkP, hkPi⟩ := Cond.selects_spec ws
  have e1 := findClass_of_methodNamed q3
  rw [h] at e1
  have e2 : m2.cls = r0.cls := Option.some.inj (e1.symm.trans (findClass_of_methodNamed h0))
  exact ⟨kP, e2 ▸ hkP, hkPi⟩
/-- a private method of an object, by invokevirtual: its class isn't an interface (nf) -/
theorem c_priv {C : String} (X : Stand p l e R s m args below meth c T locs cells slots) (hx : p.tables.exec = Jvm.exec) (hZ : Z.Warmed39 s.vm) (hown : s.vm.findClass own = some m.cls)
    (w1 : (Jvm.Cond.methodLink own index y).before a0 Z = true) (w2 : (Jvm.Cond.instanceMethod y).before a0 Z = true) (nf : NotFace s y) (wp : (Jvm.Cond.privateMethod y).before a0 Z = true) (w3 : (Jvm.Cond.initialized y.cls).before a0 Z = true) (w4 : (Jvm.Cond.code y bytes maxL ret).before a0 Z = true) (hy : y.cls ≠ "java/lang/invoke/MethodHandle" ∧ y.cls ≠ "java/lang/invoke/VarHandle")
    (hC : Ctr l Z y bytes maxL ret [] rm rm.cells rm.slots (.ref a :: argsL).toArray h Qc) (eT : T.heap = h) (E : Exa Z h a C) (hpd : parseMethodDescriptor y.desc = some ⟨ps, r⟩) (hlen : argsL.length = ps.length) (hsz : Ls.size = c.maxLocals) (hW : 2 * 0 + (rest.map fun v => v.category).sum ≤ W)
    (hf : rm.frames + 1 ≤ R.frames) (hl : W + (maxL + 11) + rm.locals ≤ R.locals) (hc : cells + rm.cells ≤ R.cells) (hs : slots + rm.slots ≤ R.slots) (hd : decode c.code pc = .ok (.invokevirtual index, 3)) :
    ∃ (v : Option Value) (T' : State) (L : List Loc), Stand p l e R s m args below meth c T' (locs ++ L) (cells + rm.cells) (slots + rm.slots) ∧ Qc v T'.heap L ∧
      ∀ t, Steps p.tables e below (T'.setTop (mkF m (pc + 3) Ls (v.toList ++ rest))) t → Steps p.tables e below (T.setTop (mkF m pc Ls (argsL.reverse ++ .ref a :: rest))) t := by
  obtain ⟨cq, qa, qb⟩ := E.cell
  obtain ⟨mk, methM, hnamed, hmethM, hstM, habM⟩ := Cond.instanceMethod_spec (mvT (args := args) hZ w2)
  obtain ⟨methM', cM, hmethM', -, -, -, -, -, -, hsigM⟩ := Cond.code_spec hnamed (mvT (args := args) hZ w4)
  cases hmethM.symm.trans hmethM'
  obtain ⟨kP, hkP, hkPi⟩ := nf mk hnamed
  have hsel : selectMethod e.platform s.vm cq.cls mk = .method mk := selectMethod_private hmethM ((Cond.privateMethod_at (mvP hZ wp (args := #[]))) mk methM hnamed hmethM)
  obtain ⟨vm₁, X₁, hst⟩ := X.invokevirtual hx hown (mvT hZ w1) hnamed hmethM hstM hkP hkPi hy (a := a) (cell := cq) (by rw [eT]; exact qa) qb hsel hmethM habM hkP hkPi (g := mkF m pc Ls (argsL.reverse ++ .ref a :: rest)) rfl (argsL := argsL) (rest := rest) (lenOf hpd hlen _ hsigM) rfl hd
  obtain ⟨v, ⟨T', L', k', n'⟩, X', ⟨L, hQ, rfl, rfl, rfl⟩, hgo⟩ := (backOf (W := W) (len := 3) hC hZ w4 w3 hf hl) m meth c ⟨T.setVm vm₁, locs, cells, slots⟩ (mkF m pc Ls rest) (.invokevirtual index) mk (.ref a :: argsL).toArray X₁ rfl hsz hd hW (X₁.named hnamed) ⟨rfl, eT, hc, hs⟩
  exact ⟨v, T', L, X', hQ, fun t k => ((hst _ fun acts => by rw [doInvoke_state]; exact Steps.refl _).trans hgo).trans k⟩
/-- invokevirtual of a method that a class above the one that the entry names declares -/
theorem c_virtUp {y' : MethodName} {C owner : String} (X : Stand p l e R s m args below meth c T locs cells slots) (hx : p.tables.exec = Jvm.exec) (hZ : Z.Warmed39 s.vm) (hown : s.vm.findClass own = some m.cls)
    (w1 : (Jvm.Cond.methodLink own index y').before a0 Z = true) (wm : (Jvm.Cond.sameMethod y'.cls owner y'.name y'.desc).before a0 Z = true) (wd : (Jvm.Cond.declares ⟨owner, y'.name, y'.desc⟩).before a0 Z = true) (ws : (Jvm.Cond.selects C y' y).before a0 Z = true) (w2 : (Jvm.Cond.instanceMethod y).before a0 Z = true) (w3 : (Jvm.Cond.initialized y.cls).before a0 Z = true) (w4 : (Jvm.Cond.code y bytes maxL ret).before a0 Z = true) (hy : owner ≠ "java/lang/invoke/MethodHandle" ∧ owner ≠ "java/lang/invoke/VarHandle")
    (hC : Ctr l Z y bytes maxL ret [] rm rm.cells rm.slots (.ref a :: argsL).toArray h Qc) (eT : T.heap = h) (E : Exa Z h a C) (hpd : parseMethodDescriptor y'.desc = some ⟨ps, r⟩) (hlen : argsL.length = ps.length) (hsz : Ls.size = c.maxLocals) (hW : 2 * 0 + (rest.map fun v => v.category).sum ≤ W)
    (hf : rm.frames + 1 ≤ R.frames) (hl : W + (maxL + 11) + rm.locals ≤ R.locals) (hc : cells + rm.cells ≤ R.cells) (hs : slots + rm.slots ≤ R.slots) (hd : decode c.code pc = .ok (.invokevirtual index, 3)) :
    ∃ (v : Option Value) (T' : State) (L : List Loc), Stand p l e R s m args below meth c T' (locs ++ L) (cells + rm.cells) (slots + rm.slots) ∧ Qc v T'.heap L ∧
      ∀ t, Steps p.tables e below (T'.setTop (mkF m (pc + 3) Ls (v.toList ++ rest))) t → Steps p.tables e below (T.setTop (mkF m pc Ls (argsL.reverse ++ .ref a :: rest))) t := by
  obtain ⟨cq, kq, qa, qb, qc⟩ := isOf hZ eT E
  obtain ⟨v, _, ⟨T', L', k', n'⟩, -, X', ⟨L, hQ, rfl, rfl, rfl⟩, st⟩ := X.virtualBackUp hx (x := y') (y := y) hown (mvT hZ w1) (mvT hZ wm) (mvT hZ wd) hy (mvT hZ ws) (mvT hZ w2) (backOf (W := W) hC hZ w4 w3 hf hl) qa qc (g := mkF m pc Ls (argsL.reverse ++ .ref a :: rest)) rfl hsz (Steps.refl _) (argsL := argsL) (rest := rest) (lenOf hpd hlen) rfl hW hd (fun _ _ => ⟨rfl, eT, hc, hs⟩)
  exact ⟨v, T', L, X', hQ, fun t k => st.trans k⟩
end Calls
end Own
/-! arrays by a function of the place -/
def upd (f : Nat → Value) (k : Nat) (v : Value) : Nat → Value := fun i => if i = k then v else f i
def lst (L : List Value) : Nat → Value := fun i => L.getD i .null
theorem upd_eq {f : Nat → Value} {k : Nat} {v : Value} : upd f k v k = v := if_pos rfl
theorem upd_ne {f : Nat → Value} {k i : Nat} {v : Value} (h : i ≠ k) : upd f k v i = f i := if_neg h
def AV (Z : State) (h : Heap) (a : Addr) (ty : FieldType) (n : Nat) (f : Nat → Value) : Prop := ∃ c : Cell, Arr Z h a c ty ∧ c.slots.size = n ∧ n < 2147483648 ∧ ∀ i, i < n → c.slots[i]? = some (f i)
section Arrays
variable {Z : State} {h h' : Heap} {a b : Addr} {ty : FieldType} {n k : Nat} {f g : Nat → Value} {v w : Value} {j : Int32} {ws : List Addr} {sl : Nat}
theorem AV.lt (A : AV Z h a ty n f) : a < h.size := by obtain ⟨c, A, -⟩ := A; exact A.lt
theorem AV.ext (A : AV Z h a ty n f) (E : Ext h h') : AV Z h' a ty n f := by obtain ⟨c, A, r⟩ := A; exact ⟨c, A.ext E, r⟩
theorem AV.other (A : AV Z h b ty n f) (W : Wr h h' a sl v) (q : b ≠ a) : AV Z h' b ty n f := by obtain ⟨c, A, r⟩ := A; exact ⟨c, A.other W q, r⟩
theorem AV.keep (A : AV Z h a ty n f) (K : Keep h h' ws) (q : a ∉ ws) : AV Z h' a ty n f := by obtain ⟨c, A, r⟩ := A; exact ⟨c, ⟨K.2.1 a c A.1 q, A.2⟩, r⟩
theorem AV.congr (A : AV Z h a ty n f) (q : ∀ i, i < n → f i = g i) : AV Z h a ty n g := by obtain ⟨c, A, r1, r2, r3⟩ := A; exact ⟨c, A, r1, r2, fun i hi => by rw [r3 i hi, q i hi]⟩
theorem AV.bound (A : AV Z h a ty n f) : n < 2147483648 := by obtain ⟨c, A, r1, r2, r3⟩ := A; exact r2
theorem clamp_of (hj : j.toInt = (k : Int)) : j.toNatClampNeg = k := by show j.toInt.toNat = k; rw [hj]; rfl
theorem in_of {c : Cell} (hj : j.toInt = (k : Int)) (hs : c.slots.size = n) (hk : k < n) : ¬ (j < 0 ∨ c.slots.size ≤ j.toNatClampNeg) := by
  rw [clamp_of hj, hs, Int32.lt_iff_toInt_lt, hj]; simp only [Int32.reduceToInt]; omega
theorem AV.new {cA : ClassId} {z : Int32} (A : Arr Z h a (newA cA ty z) ty) (hz : z.toInt = (n : Int)) : AV Z h a ty n (fun _ => defaultValue ty) := by
  have q := clamp_of hz
  have hb := Int32.toInt_lt z
  refine ⟨_, A, by rw [sz_new]; exact q, by omega, fun i hi => ?_⟩
  have hi' : i < z.toNatClampNeg := by rw [q]; exact hi
  simp [newA, hi']
theorem AV.at (A : AV Z h a ty n f) (hj : j.toInt = (k : Int)) (hk : k < n) : ∃ cl : Cell, Arr Z h a cl ty ∧ ¬ (j < 0 ∨ cl.slots.size ≤ j.toNatClampNeg) ∧ cl.slots[j.toNatClampNeg]? = some (f k) := by
  obtain ⟨c, A, r1, r2, r3⟩ := A
  exact ⟨c, A, in_of hj r1 hk, by rw [clamp_of hj]; exact r3 k hk⟩
theorem AV.set (A : AV Z h a ty n f) (hj : j.toInt = (k : Int)) (hk : k < n) (W : Wr h h' a j.toNatClampNeg v) : AV Z h' a ty n (upd f k v) := by
  obtain ⟨c, A, r1, r2, r3⟩ := A
  refine ⟨_, A.same W, by rw [sz_set]; exact r1, r2, fun i hi => ?_⟩
  rw [clamp_of hj]
  by_cases e : i = k
  · subst e; simp [Cell.setSlot, r1, hi, upd]
  · rw [upd_ne e, ← r3 i hi]; exact Array.getElem?_setIfInBounds_ne (Ne.symm e)
theorem AV.setL {L L' : List Value} (A : AV Z h a ty n (lst L)) (hj : j.toInt = (k : Int)) (hk : k < n) (W : Wr h h' a j.toNatClampNeg v) (hl : k < L.length) (e : L.set k v = L') : AV Z h' a ty n (lst L') := by
  subst e
  refine (A.set hj hk W).congr fun i hi => ?_
  by_cases q : i = k
  · subst q; simp [upd, lst, List.getD_eq_getElem?_getD, hl]
  · rw [upd_ne q]; simp [lst, List.getD_eq_getElem?_getD, List.getElem?_set_ne (Ne.symm q)]
theorem AV.newL {L : List Value} (A : AV Z h a ty n (fun _ => v)) (e : L = List.replicate n v) : AV Z h a ty n (lst L) := by
  subst e; refine A.congr fun i hi => ?_
  simp [lst, List.getD_eq_getElem?_getD, List.getElem?_replicate, hi]
theorem AV.len (A : AV Z h a ty n f) : ∃ cl : Cell, Arr Z h a cl ty ∧ cl.slots.size.toInt32 = Int32.ofNat n := by
  obtain ⟨c, A, r1, r2, r3⟩ := A; exact ⟨c, A, by rw [r1]⟩
theorem own_cls {cA : ClassId} {z : Int32} {ad : String} (A : Arr Z h a (newA cA ty z) ty) (E : Exa Z h a ad) : Z.vm.findClass ad = some cA := by
  obtain ⟨cell, k, e1, e2, -⟩ := E
  cases A.1.symm.trans e1
  exact e2
theorem own_sto {cA : ClassId} {cl : Cell} {ad C : String} {y : Addr} (A : Arr Z h a cl ty) (E : Exa Z h a ad) (hA : Z.vm.findClass ad = some cA) (O : Ovr Z cA C) (I : Ins Z h y C true) : Sto Z h a (.ref y) := by
  obtain ⟨cell, k, e1, e2, -⟩ := E
  cases A.1.symm.trans e1
  have q : cl.cls = cA := Option.some.inj (e2.symm.trans hA)
  exact Sto.of A (q ▸ O) I
theorem own_sta_keep {C n' d : String} (F : Sta Z h C n' d v) (K : Keep h h' []) : Sta Z h' C n' d v := by
  obtain ⟨cf, i, k, f, st, cell, h1, h2, h3, h4, h5, h6, h7⟩ := F
  exact ⟨cf, i, k, f, st, cell, h1, h2, h3, h4, K.2.1 _ _ h5 (fun q => nomatch q), h6, h7⟩
end Arrays
section ASteps
variable {p : Program} {l : Launch} {e : Env} {R : Room} {s : State} {m : MethodId} {args : Array Value} {below : List Frame} {meth : Method} {c : Code} {T : State} {locs : List Loc} {cells slots : Nat} {Z : State} {a0 : Array Value} {h : Heap} {a : Addr} {n k pc : Nat} {f : Nat → Value} {j : Int32} {Ls : Array Slot} {rest : List Value}
theorem a_iload (X : Stand p l e R s m args below meth c T locs cells slots) (hx : p.tables.exec = Jvm.exec) (hZ : Z.Warmed39 s.vm) (eT : T.heap = h) (A : AV Z h a .int n f) (hj : j.toInt = (k : Int)) (hk : k < n) {x : Int32} (hv : f k = .int x) (hd : decode c.code pc = .ok (.iaload, 1)) :
    ∀ t, Steps p.tables e below (T.setTop (mkF m (pc + 1) Ls (.int x :: rest))) t → Steps p.tables e below (T.setTop (mkF m pc Ls (.int j :: .ref a :: rest))) t := by
  obtain ⟨cl, A, hin, hat⟩ := A.at hj hk
  rw [hv] at hat
  exact X.iaload hx (j := j) (v := .int x) (by rw [eT]; exact A.1) (State.isArrayOf_alike hZ.alike A.2.1) A.2.2 hin hat (g := mkF m pc Ls (.int j :: .ref a :: rest)) rfl rfl hd
theorem a_cload (X : Stand p l e R s m args below meth c T locs cells slots) (hx : p.tables.exec = Jvm.exec) (hZ : Z.Warmed39 s.vm) (eT : T.heap = h) (A : AV Z h a .char n f) (hj : j.toInt = (k : Int)) (hk : k < n) {x : Int32} (hv : f k = .int x) (hd : decode c.code pc = .ok (.caload, 1)) :
    ∀ t, Steps p.tables e below (T.setTop (mkF m (pc + 1) Ls (.int x :: rest))) t → Steps p.tables e below (T.setTop (mkF m pc Ls (.int j :: .ref a :: rest))) t := by
  obtain ⟨cl, A, hin, hat⟩ := A.at hj hk
  rw [hv] at hat
  exact X.caload hx (j := j) (v := .int x) (by rw [eT]; exact A.1) (State.isArrayOf_alike hZ.alike A.2.1) A.2.2 hin hat (g := mkF m pc Ls (.int j :: .ref a :: rest)) rfl rfl hd
theorem a_bload (X : Stand p l e R s m args below meth c T locs cells slots) (hx : p.tables.exec = Jvm.exec) (hZ : Z.Warmed39 s.vm) (eT : T.heap = h) (A : AV Z h a .byte n f) (hj : j.toInt = (k : Int)) (hk : k < n) {x : Int32} (hv : f k = .int x) (hd : decode c.code pc = .ok (.baload, 1)) :
    ∀ t, Steps p.tables e below (T.setTop (mkF m (pc + 1) Ls (.int x :: rest))) t → Steps p.tables e below (T.setTop (mkF m pc Ls (.int j :: .ref a :: rest))) t := by
  obtain ⟨cl, A, hin, hat⟩ := A.at hj hk
  rw [hv] at hat
  exact X.baloadBytes hx (j := j) (v := .int x) (by rw [eT]; exact A.1) (State.isArrayOf_alike hZ.alike A.2.1) A.2.2 hin hat (g := mkF m pc Ls (.int j :: .ref a :: rest)) rfl rfl hd
theorem a_jload (X : Stand p l e R s m args below meth c T locs cells slots) (hx : p.tables.exec = Jvm.exec) (hZ : Z.Warmed39 s.vm) (eT : T.heap = h) (A : AV Z h a .long n f) (hj : j.toInt = (k : Int)) (hk : k < n) {x : Int64} (hv : f k = .long x) (hd : decode c.code pc = .ok (.laload, 1)) :
    ∀ t, Steps p.tables e below (T.setTop (mkF m (pc + 1) Ls (.long x :: rest))) t → Steps p.tables e below (T.setTop (mkF m pc Ls (.int j :: .ref a :: rest))) t := by
  obtain ⟨cl, A, hin, hat⟩ := A.at hj hk
  rw [hv] at hat
  exact X.laload hx (j := j) (v := .long x) (by rw [eT]; exact A.1) (State.isArrayOf_alike hZ.alike A.2.1) A.2.2 hin hat (g := mkF m pc Ls (.int j :: .ref a :: rest)) rfl rfl hd
theorem a_rload {ty : FieldType} (X : Stand p l e R s m args below meth c T locs cells slots) (hx : p.tables.exec = Jvm.exec) (hZ : Z.Warmed39 s.vm) (eT : T.heap = h) (A : AV Z h a ty n f) (ht : ty.isReference = true) (hj : j.toInt = (k : Int)) (hk : k < n) {v : Value} (hv : f k = v) (hd : decode c.code pc = .ok (.aaload, 1)) :
    ∀ t, Steps p.tables e below (T.setTop (mkF m (pc + 1) Ls (v :: rest))) t → Steps p.tables e below (T.setTop (mkF m pc Ls (.int j :: .ref a :: rest))) t := by
  obtain ⟨cl, A, hin, hat⟩ := A.at hj hk
  rw [hv] at hat
  exact X.aaload hx (j := j) (v := v) (by rw [eT]; exact A.1) (State.isArrayOf_alike hZ.alike A.2.1) ht A.2.2 hin hat (g := mkF m pc Ls (.int j :: .ref a :: rest)) rfl rfl hd
theorem a_len {ty : FieldType} (X : Stand p l e R s m args below meth c T locs cells slots) (hx : p.tables.exec = Jvm.exec) (hZ : Z.Warmed39 s.vm) (eT : T.heap = h) (A : AV Z h a ty n f) {z : Int32} (hz : z.toInt = (n : Int)) (hd : decode c.code pc = .ok (.arraylength, 1)) :
    ∀ t, Steps p.tables e below (T.setTop (mkF m (pc + 1) Ls (.int z :: rest))) t → Steps p.tables e below (T.setTop (mkF m pc Ls (.ref a :: rest))) t := by
  obtain ⟨cl, A, hin⟩ := A.len
  have hb := Int32.toInt_lt z
  have q : cl.slots.size.toInt32 = z := by rw [hin]; exact Int32.toInt_inj.mp (by rw [hz]; exact Int32.toInt_ofNat_of_lt (by omega))
  intro t k
  refine X.arraylength hx (by rw [eT]; exact A.1) (State.isArrayOf_alike hZ.alike A.2.1) (g := mkF m pc Ls (.ref a :: rest)) rfl rfl hd _ ?_
  rw [q]; exact k
end ASteps
theorem own_lsw {tb : Tables} [Ours tb] {e : Env} {below : List Frame} {T target : State} {m : MethodId} {c : Code} {g : JFrame} (h : At T m c below) (hx : tb.exec = Jvm.exec) (hg : g.method = m) {df : Int} {ps : Array (Int × Int)} {ln : Nat} {x : Int32} {rest : List Value} {pc0 pc' : Nat} (hpc : g.pc = pc0) (hd : decode c.code g.pc = .ok (.lookupswitch df ps, ln)) (hs : g.stack = .int x :: rest) (hso : (ps.toList.zip ps.toList.tail).all (fun q => decide (q.1.1 < q.2.1)) = true)
    (ho : 0 ≤ (pc0 : Int) + lookupswitch.offset ps.toList df x.toInt) (hp : ((pc0 : Int) + lookupswitch.offset ps.toList df x.toInt).toNat = pc')
    (hr : Steps tb e below (T.setTop { g with pc := pc', stack := rest }) target) : Steps tb e below (T.setTop g) target := by
  subst hg hpc hp
  jvm_step h [h.top, hx, hd, hs, lookupswitch.wp_chain, ho]
  exact ⟨fun a b a1 b1 hm => of_decide_eq_true (List.all_eq_true.mp hso _ hm), hr⟩
section Ret2
variable {p : Program} {l : Launch} {e : Env} {R : Room} {s : State} {m : MethodId} {args : Array Value} {below : List Frame} {meth : Method} {c : Code} {T : State} {locs : List Loc} {cells slots : Nat}
theorem own_dret (Y : Stand p l e R s m args below meth c T locs cells slots) (hexec : p.tables.exec = Jvm.exec) {pc : Nat} {Ls : Array Slot} {w : UInt64} (hret : meth.sig.returnType = some .double)
    (hdg : decode c.code pc = .ok (.dreturn, 1)) {fs : List Frame} (hleave : ∀ (f : JFrame) (acts : List Action), f.method = m → f.locked = none → f.entered = [] → (doReturn e (T.setTop f) acts (some (.double w))).1 = T.setFrames fs) :
    Steps p.tables e below (T.setTop { method := m, pc := pc, locals := Ls, stack := [.double w], locked := none }) (T.setFrames fs) := by
  have hm' : T.vm.method? m = some meth := Y.method'
  jvm_step Y.here [Y.here.top, hexec, hdg, hm', hret]
  first | (intro acts; rw [hleave _ acts rfl rfl rfl]) | rw [hleave _ _ rfl rfl rfl]
  exact Steps.refl _
end Ret2
open Jvm.FP Jvm.Free.Fl
theorem own_1 (v : UInt64) (h : NoNaN64 v) : NoNaN64 (FP.ddiv FP.dconst1 v) := by
  have hf : Core.DFin FP.dconst1 := ⟨_, _, _, rfl⟩
  have hz : ¬ Core.DZero FP.dconst1 := by
    rintro ⟨s, q, z⟩
    have e : Core.val64 FP.dconst1 = Core.Datum.fin s 0 q := z
    have k : (match Core.val64 FP.dconst1 with | .fin _ c _ => c != 0 | _ => true) = true := by decide +kernel
    rw [e] at k
    simp at k
  exact noNaN64_no.mpr (Core.ddiv_out' hf hz (noNaN64_no.mp h))
theorem own_0 (x : Int64) (y : Int32) (hy : y ≠ 0) : NoNaN64 (FP.ddiv (FP.l2d x) (FP.i2d y)) := by
  rw [i2d_w]
  have h := ddiv_mag (Jvm.Free.Fl.l2d_mag x) (l2d_big (v := y.toInt64) (fun q => hy (by
    have e := congrArg Int64.toInt q; rw [Int32.toInt_toInt64] at e; exact Int32.toInt_inj.mp e))) (by decide) (by decide)
  exact (h.fin (by decide)).noNaN
section RetD
variable {p : Program} {l : Launch} {e : Env} {R : Room} {s : State} {m : MethodId} {args : Array Value} {below : List Frame} {meth : Method} {c : Code} {T : State} {locs : List Loc} {cells slots kc ks : Nat} {Q : Option Value → Heap → List Loc → Prop}
theorem go_retD (X : Stand p l e R s m args below meth c T locs cells slots) (hx : p.tables.exec = Jvm.exec) (hret : meth.sig.returnType = some .double) (hlk : meth.locks = false) {pc : Nat} {Ls : Array Slot} {z : UInt64} (hd : decode c.code pc = .ok (.dreturn, 1))
    (hQ : Q (some (.double z)) T.heap locs) (hc : cells ≤ kc) (hs : slots ≤ ks) : Go p e s below kc ks Q T (mkF m pc Ls [.double z]) := by
  obtain ⟨fs, hr, hrun, hended, hW, hsame⟩ := X.leave (v := some (.double z)) (fun h => by rw [hret] at h; cases h) hlk
  exact ⟨_, _, own_dret X hx hret hd hr, hrun, hended, _, _, rfl, hQ, ⟨_, rfl⟩, hW, hsame.mono hc hs⟩
end RetD
theorem own_c (x : Int32) : ∃ n : Nat, n < 9 ∧ ((x &&& (2147483647 : Int32)) % (9 : Int32)) = Int32.ofNat n := by
  have h1 := c_mask x 2147483647 31 (by decide) (by decide)
  have h2 := (c_irem (x &&& 2147483647) 9 9 (by decide)).1
  refine ⟨((x &&& 2147483647) % 9).toInt.toNat, by omega, Int32.toInt_inj.mp ?_⟩
  rw [Int32.toInt_ofNat_of_lt (by omega)]; omega
theorem own_dz (x : Int32) : ((x &&& (7 : Int32)) + (1 : Int32)) ≠ 0 := fun q => by
  have h1 := c_mask x 7 3 (by decide) (by decide); have h2 := c_iadd (x &&& 7) 1
  rw [q] at h2; simp only [Int32.reduceToInt] at h2; omega
theorem ef_rmP0 (m : MethodId) (x0 : Int32) : entryFrame m #[(.int x0)] 1 = mkF m 0 #[.val (.int x0)] [] := by first | (simp [entryFrame, mkF, argsToLocals, Value.category]; done) | rfl
theorem pn_0 : plainName "com/example/tallowcast/tallowcast/graph/OperationSinglePinLaw" = true := by first | (simp [plainName, overriddenIn]; done) | decide +kernel
theorem d1_0 : decode method_3_code 0 = .ok (.iload_n 0, 1) := by decide +kernel
theorem d1_1 : decode method_3_code 1 = .ok (.ifCond .ne 7, 3) := by decide +kernel
theorem d1_4 : decode method_3_code 4 = .ok (.getstatic 24, 3) := by decide +kernel
theorem d1_7 : decode method_3_code 7 = .ok (.areturn, 1) := by decide +kernel
set_option maxRecDepth 65536 in
set_option maxHeartbeats 40000000 in
theorem rmP0 (l : Launch) (Z : State) (a0 : Array Value) (hw : ∀ d ∈ tables_1, d.before a0 Z = true) (ws : List Jvm.Cond) (o : Addr) (h0 : Heap) (n0 : Nat) (Z0 : n0 ≤ h0.size) (S : Sta Z h0 "com/example/tallowcast/tallowcast/graph/Arithmetic$Operation" "SUM" "Lcom/example/tallowcast/tallowcast/graph/Arithmetic$Operation;" (.ref o)) :
    Ctr l Z (⟨"com/example/tallowcast/tallowcast/graph/OperationSinglePinLaw", "pick", "(I)Lcom/example/tallowcast/tallowcast/graph/Arithmetic$Operation;"⟩ : MethodName) method_3_code 1 (some (.object "com/example/tallowcast/tallowcast/graph/Arithmetic$Operation")) ws ({ frames := 0, cells := 0, slots := 0, locals := 0 } : Room) 0 0 #[(.int (0 : Int32))] h0 (fun v h L => v = some (.ref o) ∧ L = [] ∧ h = h0) := by
  refine Ctr.mk (plainFor_of_name pn_0) fun p e s m below meth c T0 X0 C e0 => go_cast (ef_rmP0 m (0 : Int32)) ?_
  have N0 := Fr.nil n0
  obtain ⟨hx, hZ, hby, hml, hown, hnm, hret, hlk⟩ := C
  show Go _ _ _ _ _ _ _ T0 (mkF m 0 #[.val (.int (0 : Int32))] [])
  refine Go.step (fun tt kk => XS.iloadN X0.here hx rfl (hb hby d1_0) rfl kk) ?_
  show Go _ _ _ _ _ _ _ T0 (mkF m 1 _ [(.int (0 : Int32))])
  refine Go.step (fun tt kk => XS.ifNo X0.here hx rfl (hb hby d1_1) rfl ((if0 _ _).trans (teq (by decide)).2) kk) ?_
  show Go _ _ _ _ _ _ _ T0 (mkF m 4 _ [])
  obtain ⟨T1, X1, e1, st1⟩ := getS2 X0 hx hZ hown (host := "") (Or.inl (hw _ (List.mem_of_getElem? (i := 5) rfl))) Via.refl e0 S (g := (mkF m 4 #[.val (.int (0 : Int32))] [])) rfl (hb hby d1_4)
  refine Go.step (st1) ?_
  show Go _ _ _ _ _ _ _ T1 (mkF m 7 _ [(.ref o)])
  refine go_retA X1 hx (t := (.object "com/example/tallowcast/tallowcast/graph/Arithmetic$Operation")) hret rfl hlk rfl (hb hby d1_7) ?_ (by decide) (by decide)
  try rw [e1]
  exact ⟨rfl, rfl, rfl⟩
theorem ef_rmP1 (m : MethodId) (x0 : Int32) : entryFrame m #[(.int x0)] 1 = mkF m 0 #[.val (.int x0)] [] := by first | (simp [entryFrame, mkF, argsToLocals, Value.category]; done) | rfl
theorem d1_8 : decode method_3_code 8 = .ok (.iload_n 0, 1) := by decide +kernel
theorem d1_9 : decode method_3_code 9 = .ok (.iconst 1, 1) := by decide +kernel
theorem d1_10 : decode method_3_code 10 = .ok (.if_icmp .ne 7, 3) := by decide +kernel
theorem d1_13 : decode method_3_code 13 = .ok (.getstatic 28, 3) := by decide +kernel
theorem d1_16 : decode method_3_code 16 = .ok (.areturn, 1) := by decide +kernel
set_option maxRecDepth 65536 in
set_option maxHeartbeats 40000000 in
theorem rmP1 (l : Launch) (Z : State) (a0 : Array Value) (hw : ∀ d ∈ tables_1, d.before a0 Z = true) (ws : List Jvm.Cond) (o : Addr) (h0 : Heap) (n0 : Nat) (Z0 : n0 ≤ h0.size) (S : Sta Z h0 "com/example/tallowcast/tallowcast/graph/Arithmetic$Operation" "DIFFERENCE" "Lcom/example/tallowcast/tallowcast/graph/Arithmetic$Operation;" (.ref o)) :
    Ctr l Z (⟨"com/example/tallowcast/tallowcast/graph/OperationSinglePinLaw", "pick", "(I)Lcom/example/tallowcast/tallowcast/graph/Arithmetic$Operation;"⟩ : MethodName) method_3_code 1 (some (.object "com/example/tallowcast/tallowcast/graph/Arithmetic$Operation")) ws ({ frames := 0, cells := 0, slots := 0, locals := 0 } : Room) 0 0 #[(.int (1 : Int32))] h0 (fun v h L => v = some (.ref o) ∧ L = [] ∧ h = h0) := by
  refine Ctr.mk (plainFor_of_name pn_0) fun p e s m below meth c T0 X0 C e0 => go_cast (ef_rmP1 m (1 : Int32)) ?_
  have N0 := Fr.nil n0
  obtain ⟨hx, hZ, hby, hml, hown, hnm, hret, hlk⟩ := C
  show Go _ _ _ _ _ _ _ T0 (mkF m 0 #[.val (.int (1 : Int32))] [])
  refine Go.step (fun tt kk => XS.iloadN X0.here hx rfl (hb hby d1_0) rfl kk) ?_
  show Go _ _ _ _ _ _ _ T0 (mkF m 1 _ [(.int (1 : Int32))])
  refine Go.step (fun tt kk => XS.ifYes X0.here hx rfl (pc0 := 1) (pc' := 8) rfl (hb hby d1_1) rfl ((if0 _ _).trans (feq (by decide)).2) (by decide) (by decide) kk) ?_
  show Go _ _ _ _ _ _ _ T0 (mkF m 8 _ [])
  refine Go.step (fun tt kk => XS.iloadN X0.here hx rfl (hb hby d1_8) rfl kk) ?_
  show Go _ _ _ _ _ _ _ T0 (mkF m 9 _ [(.int (1 : Int32))])
  refine Go.step (fun tt kk => XS.iconst X0.here hx rfl (hb hby d1_9) kk) ?_
  show Go _ _ _ _ _ _ _ T0 (mkF m 10 _ [(.int (1 : Int32)), (.int (1 : Int32))])
  refine Go.step (fun tt kk => XS.icmpNo X0.here hx rfl (hb hby d1_10) rfl (teq (by decide)).2 kk) ?_
  show Go _ _ _ _ _ _ _ T0 (mkF m 13 _ [])
  obtain ⟨T1, X1, e1, st1⟩ := getS2 X0 hx hZ hown (host := "") (Or.inl (hw _ (List.mem_of_getElem? (i := 39) rfl))) Via.refl e0 S (g := (mkF m 13 #[.val (.int (1 : Int32))] [])) rfl (hb hby d1_13)
  refine Go.step (st1) ?_
  show Go _ _ _ _ _ _ _ T1 (mkF m 16 _ [(.ref o)])
  refine go_retA X1 hx (t := (.object "com/example/tallowcast/tallowcast/graph/Arithmetic$Operation")) hret rfl hlk rfl (hb hby d1_16) ?_ (by decide) (by decide)
  try rw [e1]
  exact ⟨rfl, rfl, rfl⟩
theorem ef_rmP2 (m : MethodId) (x0 : Int32) : entryFrame m #[(.int x0)] 1 = mkF m 0 #[.val (.int x0)] [] := by first | (simp [entryFrame, mkF, argsToLocals, Value.category]; done) | rfl
theorem d1_17 : decode method_3_code 17 = .ok (.iload_n 0, 1) := by decide +kernel
theorem d1_18 : decode method_3_code 18 = .ok (.iconst 2, 1) := by decide +kernel
theorem d1_19 : decode method_3_code 19 = .ok (.if_icmp .ne 7, 3) := by decide +kernel
theorem d1_22 : decode method_3_code 22 = .ok (.getstatic 31, 3) := by decide +kernel
theorem d1_25 : decode method_3_code 25 = .ok (.areturn, 1) := by decide +kernel
set_option maxRecDepth 65536 in
set_option maxHeartbeats 40000000 in
theorem rmP2 (l : Launch) (Z : State) (a0 : Array Value) (hw : ∀ d ∈ tables_1, d.before a0 Z = true) (ws : List Jvm.Cond) (o : Addr) (h0 : Heap) (n0 : Nat) (Z0 : n0 ≤ h0.size) (S : Sta Z h0 "com/example/tallowcast/tallowcast/graph/Arithmetic$Operation" "PRODUCT" "Lcom/example/tallowcast/tallowcast/graph/Arithmetic$Operation;" (.ref o)) :
    Ctr l Z (⟨"com/example/tallowcast/tallowcast/graph/OperationSinglePinLaw", "pick", "(I)Lcom/example/tallowcast/tallowcast/graph/Arithmetic$Operation;"⟩ : MethodName) method_3_code 1 (some (.object "com/example/tallowcast/tallowcast/graph/Arithmetic$Operation")) ws ({ frames := 0, cells := 0, slots := 0, locals := 0 } : Room) 0 0 #[(.int (2 : Int32))] h0 (fun v h L => v = some (.ref o) ∧ L = [] ∧ h = h0) := by
  refine Ctr.mk (plainFor_of_name pn_0) fun p e s m below meth c T0 X0 C e0 => go_cast (ef_rmP2 m (2 : Int32)) ?_
  have N0 := Fr.nil n0
  obtain ⟨hx, hZ, hby, hml, hown, hnm, hret, hlk⟩ := C
  show Go _ _ _ _ _ _ _ T0 (mkF m 0 #[.val (.int (2 : Int32))] [])
  refine Go.step (fun tt kk => XS.iloadN X0.here hx rfl (hb hby d1_0) rfl kk) ?_
  show Go _ _ _ _ _ _ _ T0 (mkF m 1 _ [(.int (2 : Int32))])
  refine Go.step (fun tt kk => XS.ifYes X0.here hx rfl (pc0 := 1) (pc' := 8) rfl (hb hby d1_1) rfl ((if0 _ _).trans (feq (by decide)).2) (by decide) (by decide) kk) ?_
  show Go _ _ _ _ _ _ _ T0 (mkF m 8 _ [])
  refine Go.step (fun tt kk => XS.iloadN X0.here hx rfl (hb hby d1_8) rfl kk) ?_
  show Go _ _ _ _ _ _ _ T0 (mkF m 9 _ [(.int (2 : Int32))])
  refine Go.step (fun tt kk => XS.iconst X0.here hx rfl (hb hby d1_9) kk) ?_
  show Go _ _ _ _ _ _ _ T0 (mkF m 10 _ [(.int (1 : Int32)), (.int (2 : Int32))])
  refine Go.step (fun tt kk => XS.icmpYes X0.here hx rfl (pc0 := 10) (pc' := 17) rfl (hb hby d1_10) rfl (feq (by decide)).2 (by decide) (by decide) kk) ?_
  show Go _ _ _ _ _ _ _ T0 (mkF m 17 _ [])
  refine Go.step (fun tt kk => XS.iloadN X0.here hx rfl (hb hby d1_17) rfl kk) ?_
  show Go _ _ _ _ _ _ _ T0 (mkF m 18 _ [(.int (2 : Int32))])
  refine Go.step (fun tt kk => XS.iconst X0.here hx rfl (hb hby d1_18) kk) ?_
  show Go _ _ _ _ _ _ _ T0 (mkF m 19 _ [(.int (2 : Int32)), (.int (2 : Int32))])
  refine Go.step (fun tt kk => XS.icmpNo X0.here hx rfl (hb hby d1_19) rfl (teq (by decide)).2 kk) ?_
  show Go _ _ _ _ _ _ _ T0 (mkF m 22 _ [])
  obtain ⟨T1, X1, e1, st1⟩ := getS2 X0 hx hZ hown (host := "") (Or.inl (hw _ (List.mem_of_getElem? (i := 33) rfl))) Via.refl e0 S (g := (mkF m 22 #[.val (.int (2 : Int32))] [])) rfl (hb hby d1_22)
  refine Go.step (st1) ?_
  show Go _ _ _ _ _ _ _ T1 (mkF m 25 _ [(.ref o)])
  refine go_retA X1 hx (t := (.object "com/example/tallowcast/tallowcast/graph/Arithmetic$Operation")) hret rfl hlk rfl (hb hby d1_25) ?_ (by decide) (by decide)
  try rw [e1]
  exact ⟨rfl, rfl, rfl⟩
theorem ef_rmP3 (m : MethodId) (x0 : Int32) : entryFrame m #[(.int x0)] 1 = mkF m 0 #[.val (.int x0)] [] := by first | (simp [entryFrame, mkF, argsToLocals, Value.category]; done) | rfl
theorem d1_26 : decode method_3_code 26 = .ok (.iload_n 0, 1) := by decide +kernel
theorem d1_27 : decode method_3_code 27 = .ok (.iconst 3, 1) := by decide +kernel
theorem d1_28 : decode method_3_code 28 = .ok (.if_icmp .ne 7, 3) := by decide +kernel
theorem d1_31 : decode method_3_code 31 = .ok (.getstatic 34, 3) := by decide +kernel
theorem d1_34 : decode method_3_code 34 = .ok (.areturn, 1) := by decide +kernel
set_option maxRecDepth 65536 in
set_option maxHeartbeats 40000000 in
theorem rmP3 (l : Launch) (Z : State) (a0 : Array Value) (hw : ∀ d ∈ tables_1, d.before a0 Z = true) (ws : List Jvm.Cond) (o : Addr) (h0 : Heap) (n0 : Nat) (Z0 : n0 ≤ h0.size) (S : Sta Z h0 "com/example/tallowcast/tallowcast/graph/Arithmetic$Operation" "QUOTIENT" "Lcom/example/tallowcast/tallowcast/graph/Arithmetic$Operation;" (.ref o)) :
    Ctr l Z (⟨"com/example/tallowcast/tallowcast/graph/OperationSinglePinLaw", "pick", "(I)Lcom/example/tallowcast/tallowcast/graph/Arithmetic$Operation;"⟩ : MethodName) method_3_code 1 (some (.object "com/example/tallowcast/tallowcast/graph/Arithmetic$Operation")) ws ({ frames := 0, cells := 0, slots := 0, locals := 0 } : Room) 0 0 #[(.int (3 : Int32))] h0 (fun v h L => v = some (.ref o) ∧ L = [] ∧ h = h0) := by
  refine Ctr.mk (plainFor_of_name pn_0) fun p e s m below meth c T0 X0 C e0 => go_cast (ef_rmP3 m (3 : Int32)) ?_
  have N0 := Fr.nil n0
  obtain ⟨hx, hZ, hby, hml, hown, hnm, hret, hlk⟩ := C
  show Go _ _ _ _ _ _ _ T0 (mkF m 0 #[.val (.int (3 : Int32))] [])
  refine Go.step (fun tt kk => XS.iloadN X0.here hx rfl (hb hby d1_0) rfl kk) ?_
  show Go _ _ _ _ _ _ _ T0 (mkF m 1 _ [(.int (3 : Int32))])
  refine Go.step (fun tt kk => XS.ifYes X0.here hx rfl (pc0 := 1) (pc' := 8) rfl (hb hby d1_1) rfl ((if0 _ _).trans (feq (by decide)).2) (by decide) (by decide) kk) ?_
  show Go _ _ _ _ _ _ _ T0 (mkF m 8 _ [])
  refine Go.step (fun tt kk => XS.iloadN X0.here hx rfl (hb hby d1_8) rfl kk) ?_
  show Go _ _ _ _ _ _ _ T0 (mkF m 9 _ [(.int (3 : Int32))])
  refine Go.step (fun tt kk => XS.iconst X0.here hx rfl (hb hby d1_9) kk) ?_
  show Go _ _ _ _ _ _ _ T0 (mkF m 10 _ [(.int (1 : Int32)), (.int (3 : Int32))])
  refine Go.step (fun tt kk => XS.icmpYes X0.here hx rfl (pc0 := 10) (pc' := 17) rfl (hb hby d1_10) rfl (feq (by decide)).2 (by decide) (by decide) kk) ?_
  show Go _ _ _ _ _ _ _ T0 (mkF m 17 _ [])
  refine Go.step (fun tt kk => XS.iloadN X0.here hx rfl (hb hby d1_17) rfl kk) ?_
  show Go _ _ _ _ _ _ _ T0 (mkF m 18 _ [(.int (3 : Int32))])
  refine Go.step (fun tt kk => XS.iconst X0.here hx rfl (hb hby d1_18) kk) ?_
  show Go _ _ _ _ _ _ _ T0 (mkF m 19 _ [(.int (2 : Int32)), (.int (3 : Int32))])
  refine Go.step (fun tt kk => XS.icmpYes X0.here hx rfl (pc0 := 19) (pc' := 26) rfl (hb hby d1_19) rfl (feq (by decide)).2 (by decide) (by decide) kk) ?_
  show Go _ _ _ _ _ _ _ T0 (mkF m 26 _ [])
  refine Go.step (fun tt kk => XS.iloadN X0.here hx rfl (hb hby d1_26) rfl kk) ?_
  show Go _ _ _ _ _ _ _ T0 (mkF m 27 _ [(.int (3 : Int32))])
  refine Go.step (fun tt kk => XS.iconst X0.here hx rfl (hb hby d1_27) kk) ?_
  show Go _ _ _ _ _ _ _ T0 (mkF m 28 _ [(.int (3 : Int32)), (.int (3 : Int32))])
  refine Go.step (fun tt kk => XS.icmpNo X0.here hx rfl (hb hby d1_28) rfl (teq (by decide)).2 kk) ?_
  show Go _ _ _ _ _ _ _ T0 (mkF m 31 _ [])
  obtain ⟨T1, X1, e1, st1⟩ := getS2 X0 hx hZ hown (host := "") (Or.inl (hw _ (List.mem_of_getElem? (i := 31) rfl))) Via.refl e0 S (g := (mkF m 31 #[.val (.int (3 : Int32))] [])) rfl (hb hby d1_31)
  refine Go.step (st1) ?_
  show Go _ _ _ _ _ _ _ T1 (mkF m 34 _ [(.ref o)])
  refine go_retA X1 hx (t := (.object "com/example/tallowcast/tallowcast/graph/Arithmetic$Operation")) hret rfl hlk rfl (hb hby d1_34) ?_ (by decide) (by decide)
  try rw [e1]
  exact ⟨rfl, rfl, rfl⟩
theorem ef_rmP4 (m : MethodId) (x0 : Int32) : entryFrame m #[(.int x0)] 1 = mkF m 0 #[.val (.int x0)] [] := by first | (simp [entryFrame, mkF, argsToLocals, Value.category]; done) | rfl
theorem d1_35 : decode method_3_code 35 = .ok (.iload_n 0, 1) := by decide +kernel
theorem d1_36 : decode method_3_code 36 = .ok (.iconst 4, 1) := by decide +kernel
theorem d1_37 : decode method_3_code 37 = .ok (.if_icmp .ne 7, 3) := by decide +kernel
theorem d1_40 : decode method_3_code 40 = .ok (.getstatic 37, 3) := by decide +kernel
theorem d1_43 : decode method_3_code 43 = .ok (.areturn, 1) := by decide +kernel
set_option maxRecDepth 65536 in
set_option maxHeartbeats 40000000 in
theorem rmP4 (l : Launch) (Z : State) (a0 : Array Value) (hw : ∀ d ∈ tables_1, d.before a0 Z = true) (ws : List Jvm.Cond) (o : Addr) (h0 : Heap) (n0 : Nat) (Z0 : n0 ≤ h0.size) (S : Sta Z h0 "com/example/tallowcast/tallowcast/graph/Arithmetic$Operation" "MAX" "Lcom/example/tallowcast/tallowcast/graph/Arithmetic$Operation;" (.ref o)) :
    Ctr l Z (⟨"com/example/tallowcast/tallowcast/graph/OperationSinglePinLaw", "pick", "(I)Lcom/example/tallowcast/tallowcast/graph/Arithmetic$Operation;"⟩ : MethodName) method_3_code 1 (some (.object "com/example/tallowcast/tallowcast/graph/Arithmetic$Operation")) ws ({ frames := 0, cells := 0, slots := 0, locals := 0 } : Room) 0 0 #[(.int (4 : Int32))] h0 (fun v h L => v = some (.ref o) ∧ L = [] ∧ h = h0) := by
  refine Ctr.mk (plainFor_of_name pn_0) fun p e s m below meth c T0 X0 C e0 => go_cast (ef_rmP4 m (4 : Int32)) ?_
  have N0 := Fr.nil n0
  obtain ⟨hx, hZ, hby, hml, hown, hnm, hret, hlk⟩ := C
  show Go _ _ _ _ _ _ _ T0 (mkF m 0 #[.val (.int (4 : Int32))] [])
  refine Go.step (fun tt kk => XS.iloadN X0.here hx rfl (hb hby d1_0) rfl kk) ?_
  show Go _ _ _ _ _ _ _ T0 (mkF m 1 _ [(.int (4 : Int32))])
  refine Go.step (fun tt kk => XS.ifYes X0.here hx rfl (pc0 := 1) (pc' := 8) rfl (hb hby d1_1) rfl ((if0 _ _).trans (feq (by decide)).2) (by decide) (by decide) kk) ?_
  show Go _ _ _ _ _ _ _ T0 (mkF m 8 _ [])
  refine Go.step (fun tt kk => XS.iloadN X0.here hx rfl (hb hby d1_8) rfl kk) ?_
  show Go _ _ _ _ _ _ _ T0 (mkF m 9 _ [(.int (4 : Int32))])
  refine Go.step (fun tt kk => XS.iconst X0.here hx rfl (hb hby d1_9) kk) ?_
  show Go _ _ _ _ _ _ _ T0 (mkF m 10 _ [(.int (1 : Int32)), (.int (4 : Int32))])
  refine Go.step (fun tt kk => XS.icmpYes X0.here hx rfl (pc0 := 10) (pc' := 17) rfl (hb hby d1_10) rfl (feq (by decide)).2 (by decide) (by decide) kk) ?_
  show Go _ _ _ _ _ _ _ T0 (mkF m 17 _ [])
  refine Go.step (fun tt kk => XS.iloadN X0.here hx rfl (hb hby d1_17) rfl kk) ?_
  show Go _ _ _ _ _ _ _ T0 (mkF m 18 _ [(.int (4 : Int32))])
  refine Go.step (fun tt kk => XS.iconst X0.here hx rfl (hb hby d1_18) kk) ?_
  show Go _ _ _ _ _ _ _ T0 (mkF m 19 _ [(.int (2 : Int32)), (.int (4 : Int32))])
  refine Go.step (fun tt kk => XS.icmpYes X0.here hx rfl (pc0 := 19) (pc' := 26) rfl (hb hby d1_19) rfl (feq (by decide)).2 (by decide) (by decide) kk) ?_
  show Go _ _ _ _ _ _ _ T0 (mkF m 26 _ [])
  refine Go.step (fun tt kk => XS.iloadN X0.here hx rfl (hb hby d1_26) rfl kk) ?_
  show Go _ _ _ _ _ _ _ T0 (mkF m 27 _ [(.int (4 : Int32))])
  refine Go.step (fun tt kk => XS.iconst X0.here hx rfl (hb hby d1_27) kk) ?_
  show Go _ _ _ _ _ _ _ T0 (mkF m 28 _ [(.int (3 : Int32)), (.int (4 : Int32))])
  refine Go.step (fun tt kk => XS.icmpYes X0.here hx rfl (pc0 := 28) (pc' := 35) rfl (hb hby d1_28) rfl (feq (by decide)).2 (by decide) (by decide) kk) ?_
  show Go _ _ _ _ _ _ _ T0 (mkF m 35 _ [])
  refine Go.step (fun tt kk => XS.iloadN X0.here hx rfl (hb hby d1_35) rfl kk) ?_
  show Go _ _ _ _ _ _ _ T0 (mkF m 36 _ [(.int (4 : Int32))])
  refine Go.step (fun tt kk => XS.iconst X0.here hx rfl (hb hby d1_36) kk) ?_
  show Go _ _ _ _ _ _ _ T0 (mkF m 37 _ [(.int (4 : Int32)), (.int (4 : Int32))])
  refine Go.step (fun tt kk => XS.icmpNo X0.here hx rfl (hb hby d1_37) rfl (teq (by decide)).2 kk) ?_
  show Go _ _ _ _ _ _ _ T0 (mkF m 40 _ [])
  obtain ⟨T1, X1, e1, st1⟩ := getS2 X0 hx hZ hown (host := "") (Or.inl (hw _ (List.mem_of_getElem? (i := 29) rfl))) Via.refl e0 S (g := (mkF m 40 #[.val (.int (4 : Int32))] [])) rfl (hb hby d1_40)
  refine Go.step (st1) ?_
  show Go _ _ _ _ _ _ _ T1 (mkF m 43 _ [(.ref o)])
  refine go_retA X1 hx (t := (.object "com/example/tallowcast/tallowcast/graph/Arithmetic$Operation")) hret rfl hlk rfl (hb hby d1_43) ?_ (by decide) (by decide)
  try rw [e1]
  exact ⟨rfl, rfl, rfl⟩
theorem ef_rmP5 (m : MethodId) (x0 : Int32) : entryFrame m #[(.int x0)] 1 = mkF m 0 #[.val (.int x0)] [] := by first | (simp [entryFrame, mkF, argsToLocals, Value.category]; done) | rfl
theorem d1_44 : decode method_3_code 44 = .ok (.iload_n 0, 1) := by decide +kernel
theorem d1_45 : decode method_3_code 45 = .ok (.iconst 5, 1) := by decide +kernel
theorem d1_46 : decode method_3_code 46 = .ok (.if_icmp .ne 7, 3) := by decide +kernel
theorem d1_49 : decode method_3_code 49 = .ok (.getstatic 40, 3) := by decide +kernel
theorem d1_52 : decode method_3_code 52 = .ok (.areturn, 1) := by decide +kernel
set_option maxRecDepth 65536 in
set_option maxHeartbeats 40000000 in
theorem rmP5 (l : Launch) (Z : State) (a0 : Array Value) (hw : ∀ d ∈ tables_1, d.before a0 Z = true) (ws : List Jvm.Cond) (o : Addr) (h0 : Heap) (n0 : Nat) (Z0 : n0 ≤ h0.size) (S : Sta Z h0 "com/example/tallowcast/tallowcast/graph/Arithmetic$Operation" "MIN" "Lcom/example/tallowcast/tallowcast/graph/Arithmetic$Operation;" (.ref o)) :
    Ctr l Z (⟨"com/example/tallowcast/tallowcast/graph/OperationSinglePinLaw", "pick", "(I)Lcom/example/tallowcast/tallowcast/graph/Arithmetic$Operation;"⟩ : MethodName) method_3_code 1 (some (.object "com/example/tallowcast/tallowcast/graph/Arithmetic$Operation")) ws ({ frames := 0, cells := 0, slots := 0, locals := 0 } : Room) 0 0 #[(.int (5 : Int32))] h0 (fun v h L => v = some (.ref o) ∧ L = [] ∧ h = h0) := by
  refine Ctr.mk (plainFor_of_name pn_0) fun p e s m below meth c T0 X0 C e0 => go_cast (ef_rmP5 m (5 : Int32)) ?_
  have N0 := Fr.nil n0
  obtain ⟨hx, hZ, hby, hml, hown, hnm, hret, hlk⟩ := C
  show Go _ _ _ _ _ _ _ T0 (mkF m 0 #[.val (.int (5 : Int32))] [])
  refine Go.step (fun tt kk => XS.iloadN X0.here hx rfl (hb hby d1_0) rfl kk) ?_
  show Go _ _ _ _ _ _ _ T0 (mkF m 1 _ [(.int (5 : Int32))])
  refine Go.step (fun tt kk => XS.ifYes X0.here hx rfl (pc0 := 1) (pc' := 8) rfl (hb hby d1_1) rfl ((if0 _ _).trans (feq (by decide)).2) (by decide) (by decide) kk) ?_
  show Go _ _ _ _ _ _ _ T0 (mkF m 8 _ [])
  refine Go.step (fun tt kk => XS.iloadN X0.here hx rfl (hb hby d1_8) rfl kk) ?_
  show Go _ _ _ _ _ _ _ T0 (mkF m 9 _ [(.int (5 : Int32))])
  refine Go.step (fun tt kk => XS.iconst X0.here hx rfl (hb hby d1_9) kk) ?_
  show Go _ _ _ _ _ _ _ T0 (mkF m 10 _ [(.int (1 : Int32)), (.int (5 : Int32))])
  refine Go.step (fun tt kk => XS.icmpYes X0.here hx rfl (pc0 := 10) (pc' := 17) rfl (hb hby d1_10) rfl (feq (by decide)).2 (by decide) (by decide) kk) ?_
  show Go _ _ _ _ _ _ _ T0 (mkF m 17 _ [])
  refine Go.step (fun tt kk => XS.iloadN X0.here hx rfl (hb hby d1_17) rfl kk) ?_
  show Go _ _ _ _ _ _ _ T0 (mkF m 18 _ [(.int (5 : Int32))])
  refine Go.step (fun tt kk => XS.iconst X0.here hx rfl (hb hby d1_18) kk) ?_
  show Go _ _ _ _ _ _ _ T0 (mkF m 19 _ [(.int (2 : Int32)), (.int (5 : Int32))])
  refine Go.step (fun tt kk => XS.icmpYes X0.here hx rfl (pc0 := 19) (pc' := 26) rfl (hb hby d1_19) rfl (feq (by decide)).2 (by decide) (by decide) kk) ?_
  show Go _ _ _ _ _ _ _ T0 (mkF m 26 _ [])
  refine Go.step (fun tt kk => XS.iloadN X0.here hx rfl (hb hby d1_26) rfl kk) ?_
  show Go _ _ _ _ _ _ _ T0 (mkF m 27 _ [(.int (5 : Int32))])
  refine Go.step (fun tt kk => XS.iconst X0.here hx rfl (hb hby d1_27) kk) ?_
  show Go _ _ _ _ _ _ _ T0 (mkF m 28 _ [(.int (3 : Int32)), (.int (5 : Int32))])
  refine Go.step (fun tt kk => XS.icmpYes X0.here hx rfl (pc0 := 28) (pc' := 35) rfl (hb hby d1_28) rfl (feq (by decide)).2 (by decide) (by decide) kk) ?_
  show Go _ _ _ _ _ _ _ T0 (mkF m 35 _ [])
  refine Go.step (fun tt kk => XS.iloadN X0.here hx rfl (hb hby d1_35) rfl kk) ?_
  show Go _ _ _ _ _ _ _ T0 (mkF m 36 _ [(.int (5 : Int32))])
  refine Go.step (fun tt kk => XS.iconst X0.here hx rfl (hb hby d1_36) kk) ?_
  show Go _ _ _ _ _ _ _ T0 (mkF m 37 _ [(.int (4 : Int32)), (.int (5 : Int32))])
  refine Go.step (fun tt kk => XS.icmpYes X0.here hx rfl (pc0 := 37) (pc' := 44) rfl (hb hby d1_37) rfl (feq (by decide)).2 (by decide) (by decide) kk) ?_
  show Go _ _ _ _ _ _ _ T0 (mkF m 44 _ [])
  refine Go.step (fun tt kk => XS.iloadN X0.here hx rfl (hb hby d1_44) rfl kk) ?_
  show Go _ _ _ _ _ _ _ T0 (mkF m 45 _ [(.int (5 : Int32))])
  refine Go.step (fun tt kk => XS.iconst X0.here hx rfl (hb hby d1_45) kk) ?_
  show Go _ _ _ _ _ _ _ T0 (mkF m 46 _ [(.int (5 : Int32)), (.int (5 : Int32))])
  refine Go.step (fun tt kk => XS.icmpNo X0.here hx rfl (hb hby d1_46) rfl (teq (by decide)).2 kk) ?_
  show Go _ _ _ _ _ _ _ T0 (mkF m 49 _ [])
  obtain ⟨T1, X1, e1, st1⟩ := getS2 X0 hx hZ hown (host := "") (Or.inl (hw _ (List.mem_of_getElem? (i := 37) rfl))) Via.refl e0 S (g := (mkF m 49 #[.val (.int (5 : Int32))] [])) rfl (hb hby d1_49)
  refine Go.step (st1) ?_
  show Go _ _ _ _ _ _ _ T1 (mkF m 52 _ [(.ref o)])
  refine go_retA X1 hx (t := (.object "com/example/tallowcast/tallowcast/graph/Arithmetic$Operation")) hret rfl hlk rfl (hb hby d1_52) ?_ (by decide) (by decide)
  try rw [e1]
  exact ⟨rfl, rfl, rfl⟩
theorem ef_rmP6 (m : MethodId) (x0 : Int32) : entryFrame m #[(.int x0)] 1 = mkF m 0 #[.val (.int x0)] [] := by first | (simp [entryFrame, mkF, argsToLocals, Value.category]; done) | rfl
theorem d1_53 : decode method_3_code 53 = .ok (.iload_n 0, 1) := by decide +kernel
theorem d1_54 : decode method_3_code 54 = .ok (.bipush 6, 2) := by decide +kernel
theorem d1_56 : decode method_3_code 56 = .ok (.if_icmp .ne 7, 3) := by decide +kernel
theorem d1_59 : decode method_3_code 59 = .ok (.getstatic 43, 3) := by decide +kernel
theorem d1_62 : decode method_3_code 62 = .ok (.areturn, 1) := by decide +kernel
set_option maxRecDepth 65536 in
set_option maxHeartbeats 40000000 in
theorem rmP6 (l : Launch) (Z : State) (a0 : Array Value) (hw : ∀ d ∈ tables_1, d.before a0 Z = true) (ws : List Jvm.Cond) (o : Addr) (h0 : Heap) (n0 : Nat) (Z0 : n0 ≤ h0.size) (S : Sta Z h0 "com/example/tallowcast/tallowcast/graph/Arithmetic$Operation" "GREATER" "Lcom/example/tallowcast/tallowcast/graph/Arithmetic$Operation;" (.ref o)) :
    Ctr l Z (⟨"com/example/tallowcast/tallowcast/graph/OperationSinglePinLaw", "pick", "(I)Lcom/example/tallowcast/tallowcast/graph/Arithmetic$Operation;"⟩ : MethodName) method_3_code 1 (some (.object "com/example/tallowcast/tallowcast/graph/Arithmetic$Operation")) ws ({ frames := 0, cells := 0, slots := 0, locals := 0 } : Room) 0 0 #[(.int (6 : Int32))] h0 (fun v h L => v = some (.ref o) ∧ L = [] ∧ h = h0) := by
  refine Ctr.mk (plainFor_of_name pn_0) fun p e s m below meth c T0 X0 C e0 => go_cast (ef_rmP6 m (6 : Int32)) ?_
  have N0 := Fr.nil n0
  obtain ⟨hx, hZ, hby, hml, hown, hnm, hret, hlk⟩ := C
  show Go _ _ _ _ _ _ _ T0 (mkF m 0 #[.val (.int (6 : Int32))] [])
  refine Go.step (fun tt kk => XS.iloadN X0.here hx rfl (hb hby d1_0) rfl kk) ?_
  show Go _ _ _ _ _ _ _ T0 (mkF m 1 _ [(.int (6 : Int32))])
  refine Go.step (fun tt kk => XS.ifYes X0.here hx rfl (pc0 := 1) (pc' := 8) rfl (hb hby d1_1) rfl ((if0 _ _).trans (feq (by decide)).2) (by decide) (by decide) kk) ?_
  show Go _ _ _ _ _ _ _ T0 (mkF m 8 _ [])
  refine Go.step (fun tt kk => XS.iloadN X0.here hx rfl (hb hby d1_8) rfl kk) ?_
  show Go _ _ _ _ _ _ _ T0 (mkF m 9 _ [(.int (6 : Int32))])
  refine Go.step (fun tt kk => XS.iconst X0.here hx rfl (hb hby d1_9) kk) ?_
  show Go _ _ _ _ _ _ _ T0 (mkF m 10 _ [(.int (1 : Int32)), (.int (6 : Int32))])
  refine Go.step (fun tt kk => XS.icmpYes X0.here hx rfl (pc0 := 10) (pc' := 17) rfl (hb hby d1_10) rfl (feq (by decide)).2 (by decide) (by decide) kk) ?_
  show Go _ _ _ _ _ _ _ T0 (mkF m 17 _ [])
  refine Go.step (fun tt kk => XS.iloadN X0.here hx rfl (hb hby d1_17) rfl kk) ?_
  show Go _ _ _ _ _ _ _ T0 (mkF m 18 _ [(.int (6 : Int32))])
  refine Go.step (fun tt kk => XS.iconst X0.here hx rfl (hb hby d1_18) kk) ?_
  show Go _ _ _ _ _ _ _ T0 (mkF m 19 _ [(.int (2 : Int32)), (.int (6 : Int32))])
  refine Go.step (fun tt kk => XS.icmpYes X0.here hx rfl (pc0 := 19) (pc' := 26) rfl (hb hby d1_19) rfl (feq (by decide)).2 (by decide) (by decide) kk) ?_
  show Go _ _ _ _ _ _ _ T0 (mkF m 26 _ [])
  refine Go.step (fun tt kk => XS.iloadN X0.here hx rfl (hb hby d1_26) rfl kk) ?_
  show Go _ _ _ _ _ _ _ T0 (mkF m 27 _ [(.int (6 : Int32))])
  refine Go.step (fun tt kk => XS.iconst X0.here hx rfl (hb hby d1_27) kk) ?_
  show Go _ _ _ _ _ _ _ T0 (mkF m 28 _ [(.int (3 : Int32)), (.int (6 : Int32))])
  refine Go.step (fun tt kk => XS.icmpYes X0.here hx rfl (pc0 := 28) (pc' := 35) rfl (hb hby d1_28) rfl (feq (by decide)).2 (by decide) (by decide) kk) ?_
  show Go _ _ _ _ _ _ _ T0 (mkF m 35 _ [])
  refine Go.step (fun tt kk => XS.iloadN X0.here hx rfl (hb hby d1_35) rfl kk) ?_
  show Go _ _ _ _ _ _ _ T0 (mkF m 36 _ [(.int (6 : Int32))])
  refine Go.step (fun tt kk => XS.iconst X0.here hx rfl (hb hby d1_36) kk) ?_
  show Go _ _ _ _ _ _ _ T0 (mkF m 37 _ [(.int (4 : Int32)), (.int (6 : Int32))])
  refine Go.step (fun tt kk => XS.icmpYes X0.here hx rfl (pc0 := 37) (pc' := 44) rfl (hb hby d1_37) rfl (feq (by decide)).2 (by decide) (by decide) kk) ?_
  show Go _ _ _ _ _ _ _ T0 (mkF m 44 _ [])
  refine Go.step (fun tt kk => XS.iloadN X0.here hx rfl (hb hby d1_44) rfl kk) ?_
  show Go _ _ _ _ _ _ _ T0 (mkF m 45 _ [(.int (6 : Int32))])
  refine Go.step (fun tt kk => XS.iconst X0.here hx rfl (hb hby d1_45) kk) ?_
  show Go _ _ _ _ _ _ _ T0 (mkF m 46 _ [(.int (5 : Int32)), (.int (6 : Int32))])
  refine Go.step (fun tt kk => XS.icmpYes X0.here hx rfl (pc0 := 46) (pc' := 53) rfl (hb hby d1_46) rfl (feq (by decide)).2 (by decide) (by decide) kk) ?_
  show Go _ _ _ _ _ _ _ T0 (mkF m 53 _ [])
  refine Go.step (fun tt kk => XS.iloadN X0.here hx rfl (hb hby d1_53) rfl kk) ?_
  show Go _ _ _ _ _ _ _ T0 (mkF m 54 _ [(.int (6 : Int32))])
  refine Go.step (fun tt kk => XS.bipush X0.here hx rfl (hb hby d1_54) kk) ?_
  show Go _ _ _ _ _ _ _ T0 (mkF m 56 _ [(.int (6 : Int32)), (.int (6 : Int32))])
  refine Go.step (fun tt kk => XS.icmpNo X0.here hx rfl (hb hby d1_56) rfl (teq (by decide)).2 kk) ?_
  show Go _ _ _ _ _ _ _ T0 (mkF m 59 _ [])
  obtain ⟨T1, X1, e1, st1⟩ := getS2 X0 hx hZ hown (host := "") (Or.inl (hw _ (List.mem_of_getElem? (i := 35) rfl))) Via.refl e0 S (g := (mkF m 59 #[.val (.int (6 : Int32))] [])) rfl (hb hby d1_59)
  refine Go.step (st1) ?_
  show Go _ _ _ _ _ _ _ T1 (mkF m 62 _ [(.ref o)])
  refine go_retA X1 hx (t := (.object "com/example/tallowcast/tallowcast/graph/Arithmetic$Operation")) hret rfl hlk rfl (hb hby d1_62) ?_ (by decide) (by decide)
  try rw [e1]
  exact ⟨rfl, rfl, rfl⟩
theorem ef_rmP7 (m : MethodId) (x0 : Int32) : entryFrame m #[(.int x0)] 1 = mkF m 0 #[.val (.int x0)] [] := by first | (simp [entryFrame, mkF, argsToLocals, Value.category]; done) | rfl
theorem d1_63 : decode method_3_code 63 = .ok (.iload_n 0, 1) := by decide +kernel
theorem d1_64 : decode method_3_code 64 = .ok (.bipush 7, 2) := by decide +kernel
theorem d1_66 : decode method_3_code 66 = .ok (.if_icmp .ne 7, 3) := by decide +kernel
theorem d1_69 : decode method_3_code 69 = .ok (.getstatic 46, 3) := by decide +kernel
theorem d1_72 : decode method_3_code 72 = .ok (.areturn, 1) := by decide +kernel
set_option maxRecDepth 65536 in
set_option maxHeartbeats 40000000 in
theorem rmP7 (l : Launch) (Z : State) (a0 : Array Value) (hw : ∀ d ∈ tables_1, d.before a0 Z = true) (ws : List Jvm.Cond) (o : Addr) (h0 : Heap) (n0 : Nat) (Z0 : n0 ≤ h0.size) (S : Sta Z h0 "com/example/tallowcast/tallowcast/graph/Arithmetic$Operation" "LESS" "Lcom/example/tallowcast/tallowcast/graph/Arithmetic$Operation;" (.ref o)) :
    Ctr l Z (⟨"com/example/tallowcast/tallowcast/graph/OperationSinglePinLaw", "pick", "(I)Lcom/example/tallowcast/tallowcast/graph/Arithmetic$Operation;"⟩ : MethodName) method_3_code 1 (some (.object "com/example/tallowcast/tallowcast/graph/Arithmetic$Operation")) ws ({ frames := 0, cells := 0, slots := 0, locals := 0 } : Room) 0 0 #[(.int (7 : Int32))] h0 (fun v h L => v = some (.ref o) ∧ L = [] ∧ h = h0) := by
  refine Ctr.mk (plainFor_of_name pn_0) fun p e s m below meth c T0 X0 C e0 => go_cast (ef_rmP7 m (7 : Int32)) ?_
  have N0 := Fr.nil n0
  obtain ⟨hx, hZ, hby, hml, hown, hnm, hret, hlk⟩ := C
  show Go _ _ _ _ _ _ _ T0 (mkF m 0 #[.val (.int (7 : Int32))] [])
  refine Go.step (fun tt kk => XS.iloadN X0.here hx rfl (hb hby d1_0) rfl kk) ?_
  show Go _ _ _ _ _ _ _ T0 (mkF m 1 _ [(.int (7 : Int32))])
  refine Go.step (fun tt kk => XS.ifYes X0.here hx rfl (pc0 := 1) (pc' := 8) rfl (hb hby d1_1) rfl ((if0 _ _).trans (feq (by decide)).2) (by decide) (by decide) kk) ?_
  show Go _ _ _ _ _ _ _ T0 (mkF m 8 _ [])
  refine Go.step (fun tt kk => XS.iloadN X0.here hx rfl (hb hby d1_8) rfl kk) ?_
  show Go _ _ _ _ _ _ _ T0 (mkF m 9 _ [(.int (7 : Int32))])
  refine Go.step (fun tt kk => XS.iconst X0.here hx rfl (hb hby d1_9) kk) ?_
  show Go _ _ _ _ _ _ _ T0 (mkF m 10 _ [(.int (1 : Int32)), (.int (7 : Int32))])
  refine Go.step (fun tt kk => XS.icmpYes X0.here hx rfl (pc0 := 10) (pc' := 17) rfl (hb hby d1_10) rfl (feq (by decide)).2 (by decide) (by decide) kk) ?_
  show Go _ _ _ _ _ _ _ T0 (mkF m 17 _ [])
  refine Go.step (fun tt kk => XS.iloadN X0.here hx rfl (hb hby d1_17) rfl kk) ?_
  show Go _ _ _ _ _ _ _ T0 (mkF m 18 _ [(.int (7 : Int32))])
  refine Go.step (fun tt kk => XS.iconst X0.here hx rfl (hb hby d1_18) kk) ?_
  show Go _ _ _ _ _ _ _ T0 (mkF m 19 _ [(.int (2 : Int32)), (.int (7 : Int32))])
  refine Go.step (fun tt kk => XS.icmpYes X0.here hx rfl (pc0 := 19) (pc' := 26) rfl (hb hby d1_19) rfl (feq (by decide)).2 (by decide) (by decide) kk) ?_
  show Go _ _ _ _ _ _ _ T0 (mkF m 26 _ [])
  refine Go.step (fun tt kk => XS.iloadN X0.here hx rfl (hb hby d1_26) rfl kk) ?_
  show Go _ _ _ _ _ _ _ T0 (mkF m 27 _ [(.int (7 : Int32))])
  refine Go.step (fun tt kk => XS.iconst X0.here hx rfl (hb hby d1_27) kk) ?_
  show Go _ _ _ _ _ _ _ T0 (mkF m 28 _ [(.int (3 : Int32)), (.int (7 : Int32))])
  refine Go.step (fun tt kk => XS.icmpYes X0.here hx rfl (pc0 := 28) (pc' := 35) rfl (hb hby d1_28) rfl (feq (by decide)).2 (by decide) (by decide) kk) ?_
  show Go _ _ _ _ _ _ _ T0 (mkF m 35 _ [])
  refine Go.step (fun tt kk => XS.iloadN X0.here hx rfl (hb hby d1_35) rfl kk) ?_
  show Go _ _ _ _ _ _ _ T0 (mkF m 36 _ [(.int (7 : Int32))])
  refine Go.step (fun tt kk => XS.iconst X0.here hx rfl (hb hby d1_36) kk) ?_
  show Go _ _ _ _ _ _ _ T0 (mkF m 37 _ [(.int (4 : Int32)), (.int (7 : Int32))])
  refine Go.step (fun tt kk => XS.icmpYes X0.here hx rfl (pc0 := 37) (pc' := 44) rfl (hb hby d1_37) rfl (feq (by decide)).2 (by decide) (by decide) kk) ?_
  show Go _ _ _ _ _ _ _ T0 (mkF m 44 _ [])
  refine Go.step (fun tt kk => XS.iloadN X0.here hx rfl (hb hby d1_44) rfl kk) ?_
  show Go _ _ _ _ _ _ _ T0 (mkF m 45 _ [(.int (7 : Int32))])
  refine Go.step (fun tt kk => XS.iconst X0.here hx rfl (hb hby d1_45) kk) ?_
  show Go _ _ _ _ _ _ _ T0 (mkF m 46 _ [(.int (5 : Int32)), (.int (7 : Int32))])
  refine Go.step (fun tt kk => XS.icmpYes X0.here hx rfl (pc0 := 46) (pc' := 53) rfl (hb hby d1_46) rfl (feq (by decide)).2 (by decide) (by decide) kk) ?_
  show Go _ _ _ _ _ _ _ T0 (mkF m 53 _ [])
  refine Go.step (fun tt kk => XS.iloadN X0.here hx rfl (hb hby d1_53) rfl kk) ?_
  show Go _ _ _ _ _ _ _ T0 (mkF m 54 _ [(.int (7 : Int32))])
  refine Go.step (fun tt kk => XS.bipush X0.here hx rfl (hb hby d1_54) kk) ?_
  show Go _ _ _ _ _ _ _ T0 (mkF m 56 _ [(.int (6 : Int32)), (.int (7 : Int32))])
  refine Go.step (fun tt kk => XS.icmpYes X0.here hx rfl (pc0 := 56) (pc' := 63) rfl (hb hby d1_56) rfl (feq (by decide)).2 (by decide) (by decide) kk) ?_
  show Go _ _ _ _ _ _ _ T0 (mkF m 63 _ [])
  refine Go.step (fun tt kk => XS.iloadN X0.here hx rfl (hb hby d1_63) rfl kk) ?_
  show Go _ _ _ _ _ _ _ T0 (mkF m 64 _ [(.int (7 : Int32))])
  refine Go.step (fun tt kk => XS.bipush X0.here hx rfl (hb hby d1_64) kk) ?_
  show Go _ _ _ _ _ _ _ T0 (mkF m 66 _ [(.int (7 : Int32)), (.int (7 : Int32))])
  refine Go.step (fun tt kk => XS.icmpNo X0.here hx rfl (hb hby d1_66) rfl (teq (by decide)).2 kk) ?_
  show Go _ _ _ _ _ _ _ T0 (mkF m 69 _ [])
  obtain ⟨T1, X1, e1, st1⟩ := getS2 X0 hx hZ hown (host := "") (Or.inl (hw _ (List.mem_of_getElem? (i := 25) rfl))) Via.refl e0 S (g := (mkF m 69 #[.val (.int (7 : Int32))] [])) rfl (hb hby d1_69)
  refine Go.step (st1) ?_
  show Go _ _ _ _ _ _ _ T1 (mkF m 72 _ [(.ref o)])
  refine go_retA X1 hx (t := (.object "com/example/tallowcast/tallowcast/graph/Arithmetic$Operation")) hret rfl hlk rfl (hb hby d1_72) ?_ (by decide) (by decide)
  try rw [e1]
  exact ⟨rfl, rfl, rfl⟩
theorem ef_rmP8 (m : MethodId) (x0 : Int32) : entryFrame m #[(.int x0)] 1 = mkF m 0 #[.val (.int x0)] [] := by first | (simp [entryFrame, mkF, argsToLocals, Value.category]; done) | rfl
theorem d1_73 : decode method_3_code 73 = .ok (.getstatic 49, 3) := by decide +kernel
theorem d1_76 : decode method_3_code 76 = .ok (.areturn, 1) := by decide +kernel
set_option maxRecDepth 65536 in
set_option maxHeartbeats 40000000 in
theorem rmP8 (l : Launch) (Z : State) (a0 : Array Value) (hw : ∀ d ∈ tables_1, d.before a0 Z = true) (ws : List Jvm.Cond) (o : Addr) (h0 : Heap) (n0 : Nat) (Z0 : n0 ≤ h0.size) (S : Sta Z h0 "com/example/tallowcast/tallowcast/graph/Arithmetic$Operation" "EQUAL" "Lcom/example/tallowcast/tallowcast/graph/Arithmetic$Operation;" (.ref o)) :
    Ctr l Z (⟨"com/example/tallowcast/tallowcast/graph/OperationSinglePinLaw", "pick", "(I)Lcom/example/tallowcast/tallowcast/graph/Arithmetic$Operation;"⟩ : MethodName) method_3_code 1 (some (.object "com/example/tallowcast/tallowcast/graph/Arithmetic$Operation")) ws ({ frames := 0, cells := 0, slots := 0, locals := 0 } : Room) 0 0 #[(.int (8 : Int32))] h0 (fun v h L => v = some (.ref o) ∧ L = [] ∧ h = h0) := by
  refine Ctr.mk (plainFor_of_name pn_0) fun p e s m below meth c T0 X0 C e0 => go_cast (ef_rmP8 m (8 : Int32)) ?_
  have N0 := Fr.nil n0
  obtain ⟨hx, hZ, hby, hml, hown, hnm, hret, hlk⟩ := C
  show Go _ _ _ _ _ _ _ T0 (mkF m 0 #[.val (.int (8 : Int32))] [])
  refine Go.step (fun tt kk => XS.iloadN X0.here hx rfl (hb hby d1_0) rfl kk) ?_
  show Go _ _ _ _ _ _ _ T0 (mkF m 1 _ [(.int (8 : Int32))])
  refine Go.step (fun tt kk => XS.ifYes X0.here hx rfl (pc0 := 1) (pc' := 8) rfl (hb hby d1_1) rfl ((if0 _ _).trans (feq (by decide)).2) (by decide) (by decide) kk) ?_
  show Go _ _ _ _ _ _ _ T0 (mkF m 8 _ [])
  refine Go.step (fun tt kk => XS.iloadN X0.here hx rfl (hb hby d1_8) rfl kk) ?_
  show Go _ _ _ _ _ _ _ T0 (mkF m 9 _ [(.int (8 : Int32))])
  refine Go.step (fun tt kk => XS.iconst X0.here hx rfl (hb hby d1_9) kk) ?_
  show Go _ _ _ _ _ _ _ T0 (mkF m 10 _ [(.int (1 : Int32)), (.int (8 : Int32))])
  refine Go.step (fun tt kk => XS.icmpYes X0.here hx rfl (pc0 := 10) (pc' := 17) rfl (hb hby d1_10) rfl (feq (by decide)).2 (by decide) (by decide) kk) ?_
  show Go _ _ _ _ _ _ _ T0 (mkF m 17 _ [])
  refine Go.step (fun tt kk => XS.iloadN X0.here hx rfl (hb hby d1_17) rfl kk) ?_
  show Go _ _ _ _ _ _ _ T0 (mkF m 18 _ [(.int (8 : Int32))])
  refine Go.step (fun tt kk => XS.iconst X0.here hx rfl (hb hby d1_18) kk) ?_
  show Go _ _ _ _ _ _ _ T0 (mkF m 19 _ [(.int (2 : Int32)), (.int (8 : Int32))])
  refine Go.step (fun tt kk => XS.icmpYes X0.here hx rfl (pc0 := 19) (pc' := 26) rfl (hb hby d1_19) rfl (feq (by decide)).2 (by decide) (by decide) kk) ?_
  show Go _ _ _ _ _ _ _ T0 (mkF m 26 _ [])
  refine Go.step (fun tt kk => XS.iloadN X0.here hx rfl (hb hby d1_26) rfl kk) ?_
  show Go _ _ _ _ _ _ _ T0 (mkF m 27 _ [(.int (8 : Int32))])
  refine Go.step (fun tt kk => XS.iconst X0.here hx rfl (hb hby d1_27) kk) ?_
  show Go _ _ _ _ _ _ _ T0 (mkF m 28 _ [(.int (3 : Int32)), (.int (8 : Int32))])
  refine Go.step (fun tt kk => XS.icmpYes X0.here hx rfl (pc0 := 28) (pc' := 35) rfl (hb hby d1_28) rfl (feq (by decide)).2 (by decide) (by decide) kk) ?_
  show Go _ _ _ _ _ _ _ T0 (mkF m 35 _ [])
  refine Go.step (fun tt kk => XS.iloadN X0.here hx rfl (hb hby d1_35) rfl kk) ?_
  show Go _ _ _ _ _ _ _ T0 (mkF m 36 _ [(.int (8 : Int32))])
  refine Go.step (fun tt kk => XS.iconst X0.here hx rfl (hb hby d1_36) kk) ?_
  show Go _ _ _ _ _ _ _ T0 (mkF m 37 _ [(.int (4 : Int32)), (.int (8 : Int32))])
  refine Go.step (fun tt kk => XS.icmpYes X0.here hx rfl (pc0 := 37) (pc' := 44) rfl (hb hby d1_37) rfl (feq (by decide)).2 (by decide) (by decide) kk) ?_
  show Go _ _ _ _ _ _ _ T0 (mkF m 44 _ [])
  refine Go.step (fun tt kk => XS.iloadN X0.here hx rfl (hb hby d1_44) rfl kk) ?_
  show Go _ _ _ _ _ _ _ T0 (mkF m 45 _ [(.int (8 : Int32))])
  refine Go.step (fun tt kk => XS.iconst X0.here hx rfl (hb hby d1_45) kk) ?_
  show Go _ _ _ _ _ _ _ T0 (mkF m 46 _ [(.int (5 : Int32)), (.int (8 : Int32))])
  refine Go.step (fun tt kk => XS.icmpYes X0.here hx rfl (pc0 := 46) (pc' := 53) rfl (hb hby d1_46) rfl (feq (by decide)).2 (by decide) (by decide) kk) ?_
  show Go _ _ _ _ _ _ _ T0 (mkF m 53 _ [])
  refine Go.step (fun tt kk => XS.iloadN X0.here hx rfl (hb hby d1_53) rfl kk) ?_
  show Go _ _ _ _ _ _ _ T0 (mkF m 54 _ [(.int (8 : Int32))])
  refine Go.step (fun tt kk => XS.bipush X0.here hx rfl (hb hby d1_54) kk) ?_
  show Go _ _ _ _ _ _ _ T0 (mkF m 56 _ [(.int (6 : Int32)), (.int (8 : Int32))])
  refine Go.step (fun tt kk => XS.icmpYes X0.here hx rfl (pc0 := 56) (pc' := 63) rfl (hb hby d1_56) rfl (feq (by decide)).2 (by decide) (by decide) kk) ?_
  show Go _ _ _ _ _ _ _ T0 (mkF m 63 _ [])
  refine Go.step (fun tt kk => XS.iloadN X0.here hx rfl (hb hby d1_63) rfl kk) ?_
  show Go _ _ _ _ _ _ _ T0 (mkF m 64 _ [(.int (8 : Int32))])
  refine Go.step (fun tt kk => XS.bipush X0.here hx rfl (hb hby d1_64) kk) ?_
  show Go _ _ _ _ _ _ _ T0 (mkF m 66 _ [(.int (7 : Int32)), (.int (8 : Int32))])
  refine Go.step (fun tt kk => XS.icmpYes X0.here hx rfl (pc0 := 66) (pc' := 73) rfl (hb hby d1_66) rfl (feq (by decide)).2 (by decide) (by decide) kk) ?_
  show Go _ _ _ _ _ _ _ T0 (mkF m 73 _ [])
  obtain ⟨T1, X1, e1, st1⟩ := getS2 X0 hx hZ hown (host := "") (Or.inl (hw _ (List.mem_of_getElem? (i := 27) rfl))) Via.refl e0 S (g := (mkF m 73 #[.val (.int (8 : Int32))] [])) rfl (hb hby d1_73)
  refine Go.step (st1) ?_
  show Go _ _ _ _ _ _ _ T1 (mkF m 76 _ [(.ref o)])
  refine go_retA X1 hx (t := (.object "com/example/tallowcast/tallowcast/graph/Arithmetic$Operation")) hret rfl hlk rfl (hb hby d1_76) ?_ (by decide) (by decide)
  try rw [e1]
  exact ⟨rfl, rfl, rfl⟩
theorem ef_rmO (m : MethodId) (x0 : Addr) : entryFrame m #[(.ref x0)] 1 = mkF m 0 #[.val (.ref x0)] [] := by first | (simp [entryFrame, mkF, argsToLocals, Value.category]; done) | rfl
theorem pn_1 : plainName "java/lang/Enum" = true := by first | (simp [plainName, overriddenIn]; done) | decide +kernel
theorem d3_0 : decode jdk_37_method_2_code 0 = .ok (.aload_n 0, 1) := by decide +kernel
theorem d3_1 : decode jdk_37_method_2_code 1 = .ok (.getfield 7, 3) := by decide +kernel
theorem d3_4 : decode jdk_37_method_2_code 4 = .ok (.ireturn, 1) := by decide +kernel
set_option maxRecDepth 65536 in
set_option maxHeartbeats 40000000 in
theorem rmO (l : Launch) (Z : State) (a0 : Array Value) (hw : ∀ d ∈ tables_1, d.before a0 Z = true) (ws : List Jvm.Cond) (a : Addr) (u : Int32) (h0 : Heap) (n0 : Nat) (Z0 : n0 ≤ h0.size) (F : Fld Z h0 a "java/lang/Enum" "ordinal" "I" (.int u)) :
    Ctr l Z (⟨"java/lang/Enum", "ordinal", "()I"⟩ : MethodName) jdk_37_method_2_code 1 (some .int) ws ({ frames := 0, cells := 0, slots := 0, locals := 0 } : Room) 0 0 #[(.ref a)] h0 (fun v h L => v = some (.int u) ∧ L = [] ∧ h = h0) := by
  refine Ctr.mk (plainFor_of_name pn_1) fun p e s m below meth c T0 X0 C e0 => go_cast (ef_rmO m a) ?_
  have N0 := Fr.nil n0
  obtain ⟨hx, hZ, hby, hml, hown, hnm, hret, hlk⟩ := C
  show Go _ _ _ _ _ _ _ T0 (mkF m 0 #[.val (.ref a)] [])
  refine Go.step (fun tt kk => XS.aloadN X0.here hx rfl (hb hby d3_0) rfl rfl kk) ?_
  show Go _ _ _ _ _ _ _ T0 (mkF m 1 _ [(.ref a)])
  obtain ⟨T1, X1, e1, st1⟩ := getF X0 hx hZ hown (host := "") (Or.inl (hw _ (List.mem_of_getElem? (i := 20) rfl))) Via.refl e0 F (g := (mkF m 1 #[.val (.ref a)] [(.ref a)])) rfl rfl (hb hby d3_1)
  refine Go.step (st1) ?_
  show Go _ _ _ _ _ _ _ T1 (mkF m 4 _ [(.int u)])
  refine go_retI X1 hx hret hlk (hb hby d3_4) ?_ (by decide) (by decide)
  try rw [e1]
  exact ⟨rfl, rfl, rfl⟩
theorem ef_rmS0 (m : MethodId) (x0 : Addr) (x1 : UInt64) : entryFrame m #[(.ref x0), (.double x1)] 3 = mkF m 0 #[.val (.ref x0), .val (.double x1), .second] [] := by first | (simp [entryFrame, mkF, argsToLocals, Value.category]; done) | rfl
theorem pn_2 : plainName "com/example/tallowcast/tallowcast/graph/Arithmetic$Operation" = true := by first | (simp [plainName, overriddenIn]; done) | decide +kernel
theorem d2_0 : decode prog_8_method_5_code 0 = .ok (.aload_n 0, 1) := by decide +kernel
theorem pd_0 : parseMethodDescriptor "()I" = some ⟨[], some .int⟩ := by decide +kernel
theorem d2_1 : decode prog_8_method_5_code 1 = .ok (.invokevirtual 50, 3) := by decide +kernel
theorem d2_4 : decode prog_8_method_5_code 4 = .ok (.lookupswitch 39 #[(1, 28), (3, 33)], 28) := by decide +kernel
theorem d2_43 : decode prog_8_method_5_code 43 = .ok (.dload_n 1, 1) := by decide +kernel
theorem d2_44 : decode prog_8_method_5_code 44 = .ok (.dreturn, 1) := by decide +kernel
set_option maxRecDepth 65536 in
set_option maxHeartbeats 40000000 in
theorem rmS0 (l : Launch) (Z : State) (a0 : Array Value) (hw : ∀ d ∈ tables_1, d.before a0 Z = true) (ws : List Jvm.Cond) (a : Addr) (x : UInt64) (h0 : Heap) (n0 : Nat) (Z0 : n0 ≤ h0.size) (hn : NoNaN64 x) (E_a : Exa Z h0 a "com/example/tallowcast/tallowcast/graph/Arithmetic$Operation") (F_a : Fld Z h0 a "java/lang/Enum" "ordinal" "I" (.int (0 : Int32))) :
    Ctr l Z (⟨"com/example/tallowcast/tallowcast/graph/Arithmetic$Operation", "single", "(D)D"⟩ : MethodName) prog_8_method_5_code 3 (some .double) ws ({ frames := 1, cells := 0, slots := 0, locals := 12 } : Room) 0 0 #[(.ref a), (.double x)] h0 (fun v h L => v = some (.double x) ∧ L = [] ∧ h = h0) := by
  refine Ctr.mk (plainFor_of_name pn_2) fun p e s m below meth c T0 X0 C e0 => go_cast (ef_rmS0 m a x) ?_
  have N0 := Fr.nil n0
  obtain ⟨hx, hZ, hby, hml, hown, hnm, hret, hlk⟩ := C
  show Go _ _ _ _ _ _ _ T0 (mkF m 0 #[.val (.ref a), .val (.double x), .second] [])
  refine Go.step (fun tt kk => XS.aloadN X0.here hx rfl (hb hby d2_0) rfl rfl kk) ?_
  show Go _ _ _ _ _ _ _ T0 (mkF m 1 _ [(.ref a)])
  obtain ⟨v1, T1, L1, X1, q1, st1⟩ := c_virtUp X0 hx hZ hown (y' := (⟨"com/example/tallowcast/tallowcast/graph/Arithmetic$Operation", "ordinal", "()I"⟩ : MethodName)) (y := (⟨"java/lang/Enum", "ordinal", "()I"⟩ : MethodName)) (C := "com/example/tallowcast/tallowcast/graph/Arithmetic$Operation") (owner := "java/lang/Enum") (hw _ (List.mem_of_getElem? (i := 13) rfl)) (hw _ (List.mem_of_getElem? (i := 14) rfl)) (hw _ (List.mem_of_getElem? (i := 15) rfl)) (hw _ (List.mem_of_getElem? (i := 17) rfl)) (hw _ (List.mem_of_getElem? (i := 16) rfl)) (hw _ (List.mem_of_getElem? (i := 18) rfl)) (hw _ (List.mem_of_getElem? (i := 19) rfl)) (by decide) (a := a) (argsL := []) (rest := []) (rmO l Z a0 hw [] a (0 : Int32) h0 n0 Z0 F_a) e0 E_a pd_0 rfl (by rw [hml]; rfl) (W := 0) (by show 2 * 0 + _ ≤ _; exact Nat.le_of_eq rfl) (by decide) (by decide) (by decide) (by decide) (hb hby d2_1) (Ls := #[.val (.ref a), .val (.double x), .second])
  obtain ⟨rfl, rfl, e1⟩ := q1
  have N1 := Fr.app N0 (Fr.nil n0)
  refine Go.step (st1) ?_
  show Go _ _ _ _ _ _ _ T1 (mkF m 4 _ [(.int (0 : Int32))])
  refine Go.step (fun tt kk => own_lsw X1.here hx rfl (pc0 := 4) (pc' := 43) rfl (hb hby d2_4) rfl (by decide) (by decide) (by decide) kk) ?_
  show Go _ _ _ _ _ _ _ T1 (mkF m 43 _ [])
  refine Go.step (fun tt kk => XS.dloadN X1.here hx rfl (hb hby d2_43) rfl kk) ?_
  show Go _ _ _ _ _ _ _ T1 (mkF m 44 _ [(.double x)])
  refine go_retD X1 hx hret hlk (hb hby d2_44) ?_ (by decide) (by decide)
  try rw [e1]
  exact ⟨rfl, rfl, rfl⟩
theorem ef_rmS1 (m : MethodId) (x0 : Addr) (x1 : UInt64) : entryFrame m #[(.ref x0), (.double x1)] 3 = mkF m 0 #[.val (.ref x0), .val (.double x1), .second] [] := by first | (simp [entryFrame, mkF, argsToLocals, Value.category]; done) | rfl
theorem d2_32 : decode prog_8_method_5_code 32 = .ok (.dload_n 1, 1) := by decide +kernel
theorem d2_33 : decode prog_8_method_5_code 33 = .ok (.dneg, 1) := by decide +kernel
theorem d2_34 : decode prog_8_method_5_code 34 = .ok (.goto 10, 3) := by decide +kernel
set_option maxRecDepth 65536 in
set_option maxHeartbeats 40000000 in
theorem rmS1 (l : Launch) (Z : State) (a0 : Array Value) (hw : ∀ d ∈ tables_1, d.before a0 Z = true) (ws : List Jvm.Cond) (a : Addr) (x : UInt64) (h0 : Heap) (n0 : Nat) (Z0 : n0 ≤ h0.size) (hn : NoNaN64 x) (E_a : Exa Z h0 a "com/example/tallowcast/tallowcast/graph/Arithmetic$Operation") (F_a : Fld Z h0 a "java/lang/Enum" "ordinal" "I" (.int (1 : Int32))) :
    Ctr l Z (⟨"com/example/tallowcast/tallowcast/graph/Arithmetic$Operation", "single", "(D)D"⟩ : MethodName) prog_8_method_5_code 3 (some .double) ws ({ frames := 1, cells := 0, slots := 0, locals := 12 } : Room) 0 0 #[(.ref a), (.double x)] h0 (fun v h L => v = some (.double (FP.dneg x)) ∧ L = [] ∧ h = h0) := by
  refine Ctr.mk (plainFor_of_name pn_2) fun p e s m below meth c T0 X0 C e0 => go_cast (ef_rmS1 m a x) ?_
  have N0 := Fr.nil n0
  obtain ⟨hx, hZ, hby, hml, hown, hnm, hret, hlk⟩ := C
  show Go _ _ _ _ _ _ _ T0 (mkF m 0 #[.val (.ref a), .val (.double x), .second] [])
  refine Go.step (fun tt kk => XS.aloadN X0.here hx rfl (hb hby d2_0) rfl rfl kk) ?_
  show Go _ _ _ _ _ _ _ T0 (mkF m 1 _ [(.ref a)])
  obtain ⟨v1, T1, L1, X1, q1, st1⟩ := c_virtUp X0 hx hZ hown (y' := (⟨"com/example/tallowcast/tallowcast/graph/Arithmetic$Operation", "ordinal", "()I"⟩ : MethodName)) (y := (⟨"java/lang/Enum", "ordinal", "()I"⟩ : MethodName)) (C := "com/example/tallowcast/tallowcast/graph/Arithmetic$Operation") (owner := "java/lang/Enum") (hw _ (List.mem_of_getElem? (i := 13) rfl)) (hw _ (List.mem_of_getElem? (i := 14) rfl)) (hw _ (List.mem_of_getElem? (i := 15) rfl)) (hw _ (List.mem_of_getElem? (i := 17) rfl)) (hw _ (List.mem_of_getElem? (i := 16) rfl)) (hw _ (List.mem_of_getElem? (i := 18) rfl)) (hw _ (List.mem_of_getElem? (i := 19) rfl)) (by decide) (a := a) (argsL := []) (rest := []) (rmO l Z a0 hw [] a (1 : Int32) h0 n0 Z0 F_a) e0 E_a pd_0 rfl (by rw [hml]; rfl) (W := 0) (by show 2 * 0 + _ ≤ _; exact Nat.le_of_eq rfl) (by decide) (by decide) (by decide) (by decide) (hb hby d2_1) (Ls := #[.val (.ref a), .val (.double x), .second])
  obtain ⟨rfl, rfl, e1⟩ := q1
  have N1 := Fr.app N0 (Fr.nil n0)
  refine Go.step (st1) ?_
  show Go _ _ _ _ _ _ _ T1 (mkF m 4 _ [(.int (1 : Int32))])
  refine Go.step (fun tt kk => own_lsw X1.here hx rfl (pc0 := 4) (pc' := 32) rfl (hb hby d2_4) rfl (by decide) (by decide) (by decide) kk) ?_
  show Go _ _ _ _ _ _ _ T1 (mkF m 32 _ [])
  refine Go.step (fun tt kk => XS.dloadN X1.here hx rfl (hb hby d2_32) rfl kk) ?_
  show Go _ _ _ _ _ _ _ T1 (mkF m 33 _ [(.double x)])
  refine Go.step (fun tt kk => XS.dnegS X1.here hx rfl (hb hby d2_33) rfl rfl kk) ?_
  show Go _ _ _ _ _ _ _ T1 (mkF m 34 _ [(.double (FP.dneg x))])
  refine Go.step (fun tt kk => XS.goto X1.here hx rfl (pc0 := 34) (pc' := 44) rfl (hb hby d2_34) (by decide) (by decide) kk) ?_
  show Go _ _ _ _ _ _ _ T1 (mkF m 44 _ [(.double (FP.dneg x))])
  refine go_retD X1 hx hret hlk (hb hby d2_44) ?_ (by decide) (by decide)
  try rw [e1]
  exact ⟨rfl, rfl, rfl⟩
theorem ef_rmS2 (m : MethodId) (x0 : Addr) (x1 : UInt64) : entryFrame m #[(.ref x0), (.double x1)] 3 = mkF m 0 #[.val (.ref x0), .val (.double x1), .second] [] := by first | (simp [entryFrame, mkF, argsToLocals, Value.category]; done) | rfl
set_option maxRecDepth 65536 in
set_option maxHeartbeats 40000000 in
theorem rmS2 (l : Launch) (Z : State) (a0 : Array Value) (hw : ∀ d ∈ tables_1, d.before a0 Z = true) (ws : List Jvm.Cond) (a : Addr) (x : UInt64) (h0 : Heap) (n0 : Nat) (Z0 : n0 ≤ h0.size) (hn : NoNaN64 x) (E_a : Exa Z h0 a "com/example/tallowcast/tallowcast/graph/Arithmetic$Operation") (F_a : Fld Z h0 a "java/lang/Enum" "ordinal" "I" (.int (2 : Int32))) :
    Ctr l Z (⟨"com/example/tallowcast/tallowcast/graph/Arithmetic$Operation", "single", "(D)D"⟩ : MethodName) prog_8_method_5_code 3 (some .double) ws ({ frames := 1, cells := 0, slots := 0, locals := 12 } : Room) 0 0 #[(.ref a), (.double x)] h0 (fun v h L => v = some (.double x) ∧ L = [] ∧ h = h0) := by
  refine Ctr.mk (plainFor_of_name pn_2) fun p e s m below meth c T0 X0 C e0 => go_cast (ef_rmS2 m a x) ?_
  have N0 := Fr.nil n0
  obtain ⟨hx, hZ, hby, hml, hown, hnm, hret, hlk⟩ := C
  show Go _ _ _ _ _ _ _ T0 (mkF m 0 #[.val (.ref a), .val (.double x), .second] [])
  refine Go.step (fun tt kk => XS.aloadN X0.here hx rfl (hb hby d2_0) rfl rfl kk) ?_
  show Go _ _ _ _ _ _ _ T0 (mkF m 1 _ [(.ref a)])
  obtain ⟨v1, T1, L1, X1, q1, st1⟩ := c_virtUp X0 hx hZ hown (y' := (⟨"com/example/tallowcast/tallowcast/graph/Arithmetic$Operation", "ordinal", "()I"⟩ : MethodName)) (y := (⟨"java/lang/Enum", "ordinal", "()I"⟩ : MethodName)) (C := "com/example/tallowcast/tallowcast/graph/Arithmetic$Operation") (owner := "java/lang/Enum") (hw _ (List.mem_of_getElem? (i := 13) rfl)) (hw _ (List.mem_of_getElem? (i := 14) rfl)) (hw _ (List.mem_of_getElem? (i := 15) rfl)) (hw _ (List.mem_of_getElem? (i := 17) rfl)) (hw _ (List.mem_of_getElem? (i := 16) rfl)) (hw _ (List.mem_of_getElem? (i := 18) rfl)) (hw _ (List.mem_of_getElem? (i := 19) rfl)) (by decide) (a := a) (argsL := []) (rest := []) (rmO l Z a0 hw [] a (2 : Int32) h0 n0 Z0 F_a) e0 E_a pd_0 rfl (by rw [hml]; rfl) (W := 0) (by show 2 * 0 + _ ≤ _; exact Nat.le_of_eq rfl) (by decide) (by decide) (by decide) (by decide) (hb hby d2_1) (Ls := #[.val (.ref a), .val (.double x), .second])
  obtain ⟨rfl, rfl, e1⟩ := q1
  have N1 := Fr.app N0 (Fr.nil n0)
  refine Go.step (st1) ?_
  show Go _ _ _ _ _ _ _ T1 (mkF m 4 _ [(.int (2 : Int32))])
  refine Go.step (fun tt kk => own_lsw X1.here hx rfl (pc0 := 4) (pc' := 43) rfl (hb hby d2_4) rfl (by decide) (by decide) (by decide) kk) ?_
  show Go _ _ _ _ _ _ _ T1 (mkF m 43 _ [])
  refine Go.step (fun tt kk => XS.dloadN X1.here hx rfl (hb hby d2_43) rfl kk) ?_
  show Go _ _ _ _ _ _ _ T1 (mkF m 44 _ [(.double x)])
  refine go_retD X1 hx hret hlk (hb hby d2_44) ?_ (by decide) (by decide)
  try rw [e1]
  exact ⟨rfl, rfl, rfl⟩
theorem ef_rmS3 (m : MethodId) (x0 : Addr) (x1 : UInt64) : entryFrame m #[(.ref x0), (.double x1)] 3 = mkF m 0 #[.val (.ref x0), .val (.double x1), .second] [] := by first | (simp [entryFrame, mkF, argsToLocals, Value.category]; done) | rfl
theorem d2_37 : decode prog_8_method_5_code 37 = .ok (.dconst 1, 1) := by decide +kernel
theorem d2_38 : decode prog_8_method_5_code 38 = .ok (.dload_n 1, 1) := by decide +kernel
theorem d2_39 : decode prog_8_method_5_code 39 = .ok (.ddiv, 1) := by decide +kernel
theorem d2_40 : decode prog_8_method_5_code 40 = .ok (.goto 4, 3) := by decide +kernel
set_option maxRecDepth 65536 in
set_option maxHeartbeats 40000000 in
theorem rmS3 (l : Launch) (Z : State) (a0 : Array Value) (hw : ∀ d ∈ tables_1, d.before a0 Z = true) (ws : List Jvm.Cond) (a : Addr) (x : UInt64) (h0 : Heap) (n0 : Nat) (Z0 : n0 ≤ h0.size) (hn : NoNaN64 x) (E_a : Exa Z h0 a "com/example/tallowcast/tallowcast/graph/Arithmetic$Operation") (F_a : Fld Z h0 a "java/lang/Enum" "ordinal" "I" (.int (3 : Int32))) :
    Ctr l Z (⟨"com/example/tallowcast/tallowcast/graph/Arithmetic$Operation", "single", "(D)D"⟩ : MethodName) prog_8_method_5_code 3 (some .double) ws ({ frames := 1, cells := 0, slots := 0, locals := 12 } : Room) 0 0 #[(.ref a), (.double x)] h0 (fun v h L => v = some (.double (FP.ddiv FP.dconst1 x)) ∧ L = [] ∧ h = h0) := by
  refine Ctr.mk (plainFor_of_name pn_2) fun p e s m below meth c T0 X0 C e0 => go_cast (ef_rmS3 m a x) ?_
  have N0 := Fr.nil n0
  obtain ⟨hx, hZ, hby, hml, hown, hnm, hret, hlk⟩ := C
  show Go _ _ _ _ _ _ _ T0 (mkF m 0 #[.val (.ref a), .val (.double x), .second] [])
  refine Go.step (fun tt kk => XS.aloadN X0.here hx rfl (hb hby d2_0) rfl rfl kk) ?_
  show Go _ _ _ _ _ _ _ T0 (mkF m 1 _ [(.ref a)])
  obtain ⟨v1, T1, L1, X1, q1, st1⟩ := c_virtUp X0 hx hZ hown (y' := (⟨"com/example/tallowcast/tallowcast/graph/Arithmetic$Operation", "ordinal", "()I"⟩ : MethodName)) (y := (⟨"java/lang/Enum", "ordinal", "()I"⟩ : MethodName)) (C := "com/example/tallowcast/tallowcast/graph/Arithmetic$Operation") (owner := "java/lang/Enum") (hw _ (List.mem_of_getElem? (i := 13) rfl)) (hw _ (List.mem_of_getElem? (i := 14) rfl)) (hw _ (List.mem_of_getElem? (i := 15) rfl)) (hw _ (List.mem_of_getElem? (i := 17) rfl)) (hw _ (List.mem_of_getElem? (i := 16) rfl)) (hw _ (List.mem_of_getElem? (i := 18) rfl)) (hw _ (List.mem_of_getElem? (i := 19) rfl)) (by decide) (a := a) (argsL := []) (rest := []) (rmO l Z a0 hw [] a (3 : Int32) h0 n0 Z0 F_a) e0 E_a pd_0 rfl (by rw [hml]; rfl) (W := 0) (by show 2 * 0 + _ ≤ _; exact Nat.le_of_eq rfl) (by decide) (by decide) (by decide) (by decide) (hb hby d2_1) (Ls := #[.val (.ref a), .val (.double x), .second])
  obtain ⟨rfl, rfl, e1⟩ := q1
  have N1 := Fr.app N0 (Fr.nil n0)
  refine Go.step (st1) ?_
  show Go _ _ _ _ _ _ _ T1 (mkF m 4 _ [(.int (3 : Int32))])
  refine Go.step (fun tt kk => own_lsw X1.here hx rfl (pc0 := 4) (pc' := 37) rfl (hb hby d2_4) rfl (by decide) (by decide) (by decide) kk) ?_
  show Go _ _ _ _ _ _ _ T1 (mkF m 37 _ [])
  refine Go.step (fun tt kk => XS.dconst1 X1.here hx rfl (hb hby d2_37) rfl kk) ?_
  show Go _ _ _ _ _ _ _ T1 (mkF m 38 _ [(.double FP.dconst1)])
  refine Go.step (fun tt kk => XS.dloadN X1.here hx rfl (hb hby d2_38) rfl kk) ?_
  show Go _ _ _ _ _ _ _ T1 (mkF m 39 _ [(.double x), (.double FP.dconst1)])
  refine Go.step (fun tt kk => XS.ddivS X1.here hx rfl (hb hby d2_39) rfl (own_1 x hn) rfl kk) ?_
  show Go _ _ _ _ _ _ _ T1 (mkF m 40 _ [(.double (FP.ddiv FP.dconst1 x))])
  refine Go.step (fun tt kk => XS.goto X1.here hx rfl (pc0 := 40) (pc' := 44) rfl (hb hby d2_40) (by decide) (by decide) kk) ?_
  show Go _ _ _ _ _ _ _ T1 (mkF m 44 _ [(.double (FP.ddiv FP.dconst1 x))])
  refine go_retD X1 hx hret hlk (hb hby d2_44) ?_ (by decide) (by decide)
  try rw [e1]
  exact ⟨rfl, rfl, rfl⟩
theorem ef_rmS4 (m : MethodId) (x0 : Addr) (x1 : UInt64) : entryFrame m #[(.ref x0), (.double x1)] 3 = mkF m 0 #[.val (.ref x0), .val (.double x1), .second] [] := by first | (simp [entryFrame, mkF, argsToLocals, Value.category]; done) | rfl
set_option maxRecDepth 65536 in
set_option maxHeartbeats 40000000 in
theorem rmS4 (l : Launch) (Z : State) (a0 : Array Value) (hw : ∀ d ∈ tables_1, d.before a0 Z = true) (ws : List Jvm.Cond) (a : Addr) (x : UInt64) (h0 : Heap) (n0 : Nat) (Z0 : n0 ≤ h0.size) (hn : NoNaN64 x) (E_a : Exa Z h0 a "com/example/tallowcast/tallowcast/graph/Arithmetic$Operation") (F_a : Fld Z h0 a "java/lang/Enum" "ordinal" "I" (.int (4 : Int32))) :
    Ctr l Z (⟨"com/example/tallowcast/tallowcast/graph/Arithmetic$Operation", "single", "(D)D"⟩ : MethodName) prog_8_method_5_code 3 (some .double) ws ({ frames := 1, cells := 0, slots := 0, locals := 12 } : Room) 0 0 #[(.ref a), (.double x)] h0 (fun v h L => v = some (.double x) ∧ L = [] ∧ h = h0) := by
  refine Ctr.mk (plainFor_of_name pn_2) fun p e s m below meth c T0 X0 C e0 => go_cast (ef_rmS4 m a x) ?_
  have N0 := Fr.nil n0
  obtain ⟨hx, hZ, hby, hml, hown, hnm, hret, hlk⟩ := C
  show Go _ _ _ _ _ _ _ T0 (mkF m 0 #[.val (.ref a), .val (.double x), .second] [])
  refine Go.step (fun tt kk => XS.aloadN X0.here hx rfl (hb hby d2_0) rfl rfl kk) ?_
  show Go _ _ _ _ _ _ _ T0 (mkF m 1 _ [(.ref a)])
  obtain ⟨v1, T1, L1, X1, q1, st1⟩ := c_virtUp X0 hx hZ hown (y' := (⟨"com/example/tallowcast/tallowcast/graph/Arithmetic$Operation", "ordinal", "()I"⟩ : MethodName)) (y := (⟨"java/lang/Enum", "ordinal", "()I"⟩ : MethodName)) (C := "com/example/tallowcast/tallowcast/graph/Arithmetic$Operation") (owner := "java/lang/Enum") (hw _ (List.mem_of_getElem? (i := 13) rfl)) (hw _ (List.mem_of_getElem? (i := 14) rfl)) (hw _ (List.mem_of_getElem? (i := 15) rfl)) (hw _ (List.mem_of_getElem? (i := 17) rfl)) (hw _ (List.mem_of_getElem? (i := 16) rfl)) (hw _ (List.mem_of_getElem? (i := 18) rfl)) (hw _ (List.mem_of_getElem? (i := 19) rfl)) (by decide) (a := a) (argsL := []) (rest := []) (rmO l Z a0 hw [] a (4 : Int32) h0 n0 Z0 F_a) e0 E_a pd_0 rfl (by rw [hml]; rfl) (W := 0) (by show 2 * 0 + _ ≤ _; exact Nat.le_of_eq rfl) (by decide) (by decide) (by decide) (by decide) (hb hby d2_1) (Ls := #[.val (.ref a), .val (.double x), .second])
  obtain ⟨rfl, rfl, e1⟩ := q1
  have N1 := Fr.app N0 (Fr.nil n0)
  refine Go.step (st1) ?_
  show Go _ _ _ _ _ _ _ T1 (mkF m 4 _ [(.int (4 : Int32))])
  refine Go.step (fun tt kk => own_lsw X1.here hx rfl (pc0 := 4) (pc' := 43) rfl (hb hby d2_4) rfl (by decide) (by decide) (by decide) kk) ?_
  show Go _ _ _ _ _ _ _ T1 (mkF m 43 _ [])
  refine Go.step (fun tt kk => XS.dloadN X1.here hx rfl (hb hby d2_43) rfl kk) ?_
  show Go _ _ _ _ _ _ _ T1 (mkF m 44 _ [(.double x)])
  refine go_retD X1 hx hret hlk (hb hby d2_44) ?_ (by decide) (by decide)
  try rw [e1]
  exact ⟨rfl, rfl, rfl⟩
theorem ef_rmS5 (m : MethodId) (x0 : Addr) (x1 : UInt64) : entryFrame m #[(.ref x0), (.double x1)] 3 = mkF m 0 #[.val (.ref x0), .val (.double x1), .second] [] := by first | (simp [entryFrame, mkF, argsToLocals, Value.category]; done) | rfl
set_option maxRecDepth 65536 in
set_option maxHeartbeats 40000000 in
theorem rmS5 (l : Launch) (Z : State) (a0 : Array Value) (hw : ∀ d ∈ tables_1, d.before a0 Z = true) (ws : List Jvm.Cond) (a : Addr) (x : UInt64) (h0 : Heap) (n0 : Nat) (Z0 : n0 ≤ h0.size) (hn : NoNaN64 x) (E_a : Exa Z h0 a "com/example/tallowcast/tallowcast/graph/Arithmetic$Operation") (F_a : Fld Z h0 a "java/lang/Enum" "ordinal" "I" (.int (5 : Int32))) :
    Ctr l Z (⟨"com/example/tallowcast/tallowcast/graph/Arithmetic$Operation", "single", "(D)D"⟩ : MethodName) prog_8_method_5_code 3 (some .double) ws ({ frames := 1, cells := 0, slots := 0, locals := 12 } : Room) 0 0 #[(.ref a), (.double x)] h0 (fun v h L => v = some (.double x) ∧ L = [] ∧ h = h0) := by
  refine Ctr.mk (plainFor_of_name pn_2) fun p e s m below meth c T0 X0 C e0 => go_cast (ef_rmS5 m a x) ?_
  have N0 := Fr.nil n0
  obtain ⟨hx, hZ, hby, hml, hown, hnm, hret, hlk⟩ := C
  show Go _ _ _ _ _ _ _ T0 (mkF m 0 #[.val (.ref a), .val (.double x), .second] [])
  refine Go.step (fun tt kk => XS.aloadN X0.here hx rfl (hb hby d2_0) rfl rfl kk) ?_
  show Go _ _ _ _ _ _ _ T0 (mkF m 1 _ [(.ref a)])
  obtain ⟨v1, T1, L1, X1, q1, st1⟩ := c_virtUp X0 hx hZ hown (y' := (⟨"com/example/tallowcast/tallowcast/graph/Arithmetic$Operation", "ordinal", "()I"⟩ : MethodName)) (y := (⟨"java/lang/Enum", "ordinal", "()I"⟩ : MethodName)) (C := "com/example/tallowcast/tallowcast/graph/Arithmetic$Operation") (owner := "java/lang/Enum") (hw _ (List.mem_of_getElem? (i := 13) rfl)) (hw _ (List.mem_of_getElem? (i := 14) rfl)) (hw _ (List.mem_of_getElem? (i := 15) rfl)) (hw _ (List.mem_of_getElem? (i := 17) rfl)) (hw _ (List.mem_of_getElem? (i := 16) rfl)) (hw _ (List.mem_of_getElem? (i := 18) rfl)) (hw _ (List.mem_of_getElem? (i := 19) rfl)) (by decide) (a := a) (argsL := []) (rest := []) (rmO l Z a0 hw [] a (5 : Int32) h0 n0 Z0 F_a) e0 E_a pd_0 rfl (by rw [hml]; rfl) (W := 0) (by show 2 * 0 + _ ≤ _; exact Nat.le_of_eq rfl) (by decide) (by decide) (by decide) (by decide) (hb hby d2_1) (Ls := #[.val (.ref a), .val (.double x), .second])
  obtain ⟨rfl, rfl, e1⟩ := q1
  have N1 := Fr.app N0 (Fr.nil n0)
  refine Go.step (st1) ?_
  show Go _ _ _ _ _ _ _ T1 (mkF m 4 _ [(.int (5 : Int32))])
  refine Go.step (fun tt kk => own_lsw X1.here hx rfl (pc0 := 4) (pc' := 43) rfl (hb hby d2_4) rfl (by decide) (by decide) (by decide) kk) ?_
  show Go _ _ _ _ _ _ _ T1 (mkF m 43 _ [])
  refine Go.step (fun tt kk => XS.dloadN X1.here hx rfl (hb hby d2_43) rfl kk) ?_
  show Go _ _ _ _ _ _ _ T1 (mkF m 44 _ [(.double x)])
  refine go_retD X1 hx hret hlk (hb hby d2_44) ?_ (by decide) (by decide)
  try rw [e1]
  exact ⟨rfl, rfl, rfl⟩
theorem ef_rmS6 (m : MethodId) (x0 : Addr) (x1 : UInt64) : entryFrame m #[(.ref x0), (.double x1)] 3 = mkF m 0 #[.val (.ref x0), .val (.double x1), .second] [] := by first | (simp [entryFrame, mkF, argsToLocals, Value.category]; done) | rfl
set_option maxRecDepth 65536 in
set_option maxHeartbeats 40000000 in
theorem rmS6 (l : Launch) (Z : State) (a0 : Array Value) (hw : ∀ d ∈ tables_1, d.before a0 Z = true) (ws : List Jvm.Cond) (a : Addr) (x : UInt64) (h0 : Heap) (n0 : Nat) (Z0 : n0 ≤ h0.size) (hn : NoNaN64 x) (E_a : Exa Z h0 a "com/example/tallowcast/tallowcast/graph/Arithmetic$Operation") (F_a : Fld Z h0 a "java/lang/Enum" "ordinal" "I" (.int (6 : Int32))) :
    Ctr l Z (⟨"com/example/tallowcast/tallowcast/graph/Arithmetic$Operation", "single", "(D)D"⟩ : MethodName) prog_8_method_5_code 3 (some .double) ws ({ frames := 1, cells := 0, slots := 0, locals := 12 } : Room) 0 0 #[(.ref a), (.double x)] h0 (fun v h L => v = some (.double x) ∧ L = [] ∧ h = h0) := by
  refine Ctr.mk (plainFor_of_name pn_2) fun p e s m below meth c T0 X0 C e0 => go_cast (ef_rmS6 m a x) ?_
  have N0 := Fr.nil n0
  obtain ⟨hx, hZ, hby, hml, hown, hnm, hret, hlk⟩ := C
  show Go _ _ _ _ _ _ _ T0 (mkF m 0 #[.val (.ref a), .val (.double x), .second] [])
  refine Go.step (fun tt kk => XS.aloadN X0.here hx rfl (hb hby d2_0) rfl rfl kk) ?_
  show Go _ _ _ _ _ _ _ T0 (mkF m 1 _ [(.ref a)])
  obtain ⟨v1, T1, L1, X1, q1, st1⟩ := c_virtUp X0 hx hZ hown (y' := (⟨"com/example/tallowcast/tallowcast/graph/Arithmetic$Operation", "ordinal", "()I"⟩ : MethodName)) (y := (⟨"java/lang/Enum", "ordinal", "()I"⟩ : MethodName)) (C := "com/example/tallowcast/tallowcast/graph/Arithmetic$Operation") (owner := "java/lang/Enum") (hw _ (List.mem_of_getElem? (i := 13) rfl)) (hw _ (List.mem_of_getElem? (i := 14) rfl)) (hw _ (List.mem_of_getElem? (i := 15) rfl)) (hw _ (List.mem_of_getElem? (i := 17) rfl)) (hw _ (List.mem_of_getElem? (i := 16) rfl)) (hw _ (List.mem_of_getElem? (i := 18) rfl)) (hw _ (List.mem_of_getElem? (i := 19) rfl)) (by decide) (a := a) (argsL := []) (rest := []) (rmO l Z a0 hw [] a (6 : Int32) h0 n0 Z0 F_a) e0 E_a pd_0 rfl (by rw [hml]; rfl) (W := 0) (by show 2 * 0 + _ ≤ _; exact Nat.le_of_eq rfl) (by decide) (by decide) (by decide) (by decide) (hb hby d2_1) (Ls := #[.val (.ref a), .val (.double x), .second])
  obtain ⟨rfl, rfl, e1⟩ := q1
  have N1 := Fr.app N0 (Fr.nil n0)
  refine Go.step (st1) ?_
  show Go _ _ _ _ _ _ _ T1 (mkF m 4 _ [(.int (6 : Int32))])
  refine Go.step (fun tt kk => own_lsw X1.here hx rfl (pc0 := 4) (pc' := 43) rfl (hb hby d2_4) rfl (by decide) (by decide) (by decide) kk) ?_
  show Go _ _ _ _ _ _ _ T1 (mkF m 43 _ [])
  refine Go.step (fun tt kk => XS.dloadN X1.here hx rfl (hb hby d2_43) rfl kk) ?_
  show Go _ _ _ _ _ _ _ T1 (mkF m 44 _ [(.double x)])
  refine go_retD X1 hx hret hlk (hb hby d2_44) ?_ (by decide) (by decide)
  try rw [e1]
  exact ⟨rfl, rfl, rfl⟩
theorem ef_rmS7 (m : MethodId) (x0 : Addr) (x1 : UInt64) : entryFrame m #[(.ref x0), (.double x1)] 3 = mkF m 0 #[.val (.ref x0), .val (.double x1), .second] [] := by first | (simp [entryFrame, mkF, argsToLocals, Value.category]; done) | rfl
set_option maxRecDepth 65536 in
set_option maxHeartbeats 40000000 in
theorem rmS7 (l : Launch) (Z : State) (a0 : Array Value) (hw : ∀ d ∈ tables_1, d.before a0 Z = true) (ws : List Jvm.Cond) (a : Addr) (x : UInt64) (h0 : Heap) (n0 : Nat) (Z0 : n0 ≤ h0.size) (hn : NoNaN64 x) (E_a : Exa Z h0 a "com/example/tallowcast/tallowcast/graph/Arithmetic$Operation") (F_a : Fld Z h0 a "java/lang/Enum" "ordinal" "I" (.int (7 : Int32))) :
    Ctr l Z (⟨"com/example/tallowcast/tallowcast/graph/Arithmetic$Operation", "single", "(D)D"⟩ : MethodName) prog_8_method_5_code 3 (some .double) ws ({ frames := 1, cells := 0, slots := 0, locals := 12 } : Room) 0 0 #[(.ref a), (.double x)] h0 (fun v h L => v = some (.double x) ∧ L = [] ∧ h = h0) := by
  refine Ctr.mk (plainFor_of_name pn_2) fun p e s m below meth c T0 X0 C e0 => go_cast (ef_rmS7 m a x) ?_
  have N0 := Fr.nil n0
  obtain ⟨hx, hZ, hby, hml, hown, hnm, hret, hlk⟩ := C
  show Go _ _ _ _ _ _ _ T0 (mkF m 0 #[.val (.ref a), .val (.double x), .second] [])
  refine Go.step (fun tt kk => XS.aloadN X0.here hx rfl (hb hby d2_0) rfl rfl kk) ?_
  show Go _ _ _ _ _ _ _ T0 (mkF m 1 _ [(.ref a)])
  obtain ⟨v1, T1, L1, X1, q1, st1⟩ := c_virtUp X0 hx hZ hown (y' := (⟨"com/example/tallowcast/tallowcast/graph/Arithmetic$Operation", "ordinal", "()I"⟩ : MethodName)) (y := (⟨"java/lang/Enum", "ordinal", "()I"⟩ : MethodName)) (C := "com/example/tallowcast/tallowcast/graph/Arithmetic$Operation") (owner := "java/lang/Enum") (hw _ (List.mem_of_getElem? (i := 13) rfl)) (hw _ (List.mem_of_getElem? (i := 14) rfl)) (hw _ (List.mem_of_getElem? (i := 15) rfl)) (hw _ (List.mem_of_getElem? (i := 17) rfl)) (hw _ (List.mem_of_getElem? (i := 16) rfl)) (hw _ (List.mem_of_getElem? (i := 18) rfl)) (hw _ (List.mem_of_getElem? (i := 19) rfl)) (by decide) (a := a) (argsL := []) (rest := []) (rmO l Z a0 hw [] a (7 : Int32) h0 n0 Z0 F_a) e0 E_a pd_0 rfl (by rw [hml]; rfl) (W := 0) (by show 2 * 0 + _ ≤ _; exact Nat.le_of_eq rfl) (by decide) (by decide) (by decide) (by decide) (hb hby d2_1) (Ls := #[.val (.ref a), .val (.double x), .second])
  obtain ⟨rfl, rfl, e1⟩ := q1
  have N1 := Fr.app N0 (Fr.nil n0)
  refine Go.step (st1) ?_
  show Go _ _ _ _ _ _ _ T1 (mkF m 4 _ [(.int (7 : Int32))])
  refine Go.step (fun tt kk => own_lsw X1.here hx rfl (pc0 := 4) (pc' := 43) rfl (hb hby d2_4) rfl (by decide) (by decide) (by decide) kk) ?_
  show Go _ _ _ _ _ _ _ T1 (mkF m 43 _ [])
  refine Go.step (fun tt kk => XS.dloadN X1.here hx rfl (hb hby d2_43) rfl kk) ?_
  show Go _ _ _ _ _ _ _ T1 (mkF m 44 _ [(.double x)])
  refine go_retD X1 hx hret hlk (hb hby d2_44) ?_ (by decide) (by decide)
  try rw [e1]
  exact ⟨rfl, rfl, rfl⟩
theorem ef_rmS8 (m : MethodId) (x0 : Addr) (x1 : UInt64) : entryFrame m #[(.ref x0), (.double x1)] 3 = mkF m 0 #[.val (.ref x0), .val (.double x1), .second] [] := by first | (simp [entryFrame, mkF, argsToLocals, Value.category]; done) | rfl
set_option maxRecDepth 65536 in
set_option maxHeartbeats 40000000 in
theorem rmS8 (l : Launch) (Z : State) (a0 : Array Value) (hw : ∀ d ∈ tables_1, d.before a0 Z = true) (ws : List Jvm.Cond) (a : Addr) (x : UInt64) (h0 : Heap) (n0 : Nat) (Z0 : n0 ≤ h0.size) (hn : NoNaN64 x) (E_a : Exa Z h0 a "com/example/tallowcast/tallowcast/graph/Arithmetic$Operation") (F_a : Fld Z h0 a "java/lang/Enum" "ordinal" "I" (.int (8 : Int32))) :
    Ctr l Z (⟨"com/example/tallowcast/tallowcast/graph/Arithmetic$Operation", "single", "(D)D"⟩ : MethodName) prog_8_method_5_code 3 (some .double) ws ({ frames := 1, cells := 0, slots := 0, locals := 12 } : Room) 0 0 #[(.ref a), (.double x)] h0 (fun v h L => v = some (.double x) ∧ L = [] ∧ h = h0) := by
  refine Ctr.mk (plainFor_of_name pn_2) fun p e s m below meth c T0 X0 C e0 => go_cast (ef_rmS8 m a x) ?_
  have N0 := Fr.nil n0
  obtain ⟨hx, hZ, hby, hml, hown, hnm, hret, hlk⟩ := C
  show Go _ _ _ _ _ _ _ T0 (mkF m 0 #[.val (.ref a), .val (.double x), .second] [])
  refine Go.step (fun tt kk => XS.aloadN X0.here hx rfl (hb hby d2_0) rfl rfl kk) ?_
  show Go _ _ _ _ _ _ _ T0 (mkF m 1 _ [(.ref a)])
  obtain ⟨v1, T1, L1, X1, q1, st1⟩ := c_virtUp X0 hx hZ hown (y' := (⟨"com/example/tallowcast/tallowcast/graph/Arithmetic$Operation", "ordinal", "()I"⟩ : MethodName)) (y := (⟨"java/lang/Enum", "ordinal", "()I"⟩ : MethodName)) (C := "com/example/tallowcast/tallowcast/graph/Arithmetic$Operation") (owner := "java/lang/Enum") (hw _ (List.mem_of_getElem? (i := 13) rfl)) (hw _ (List.mem_of_getElem? (i := 14) rfl)) (hw _ (List.mem_of_getElem? (i := 15) rfl)) (hw _ (List.mem_of_getElem? (i := 17) rfl)) (hw _ (List.mem_of_getElem? (i := 16) rfl)) (hw _ (List.mem_of_getElem? (i := 18) rfl)) (hw _ (List.mem_of_getElem? (i := 19) rfl)) (by decide) (a := a) (argsL := []) (rest := []) (rmO l Z a0 hw [] a (8 : Int32) h0 n0 Z0 F_a) e0 E_a pd_0 rfl (by rw [hml]; rfl) (W := 0) (by show 2 * 0 + _ ≤ _; exact Nat.le_of_eq rfl) (by decide) (by decide) (by decide) (by decide) (hb hby d2_1) (Ls := #[.val (.ref a), .val (.double x), .second])
  obtain ⟨rfl, rfl, e1⟩ := q1
  have N1 := Fr.app N0 (Fr.nil n0)
  refine Go.step (st1) ?_
  show Go _ _ _ _ _ _ _ T1 (mkF m 4 _ [(.int (8 : Int32))])
  refine Go.step (fun tt kk => own_lsw X1.here hx rfl (pc0 := 4) (pc' := 43) rfl (hb hby d2_4) rfl (by decide) (by decide) (by decide) kk) ?_
  show Go _ _ _ _ _ _ _ T1 (mkF m 43 _ [])
  refine Go.step (fun tt kk => XS.dloadN X1.here hx rfl (hb hby d2_43) rfl kk) ?_
  show Go _ _ _ _ _ _ _ T1 (mkF m 44 _ [(.double x)])
  refine go_retD X1 hx hret hlk (hb hby d2_44) ?_ (by decide) (by decide)
  try rw [e1]
  exact ⟨rfl, rfl, rfl⟩
theorem ef_rmE (m : MethodId) (x0 : UInt64) (x1 : UInt64) : entryFrame m #[(.double x0), (.double x1)] 4 = mkF m 0 #[.val (.double x0), .second, .val (.double x1), .second] [] := by first | (simp [entryFrame, mkF, argsToLocals, Value.category]; done) | rfl
theorem d4_0 : decode method_4_code 0 = .ok (.dload_n 0, 1) := by decide +kernel
theorem d4_1 : decode method_4_code 1 = .ok (.dload_n 2, 1) := by decide +kernel
theorem d4_2 : decode method_4_code 2 = .ok (.dcmp .l, 1) := by decide +kernel
theorem d4_3 : decode method_4_code 3 = .ok (.ifCond .eq 5, 3) := by decide +kernel
theorem d4_8 : decode method_4_code 8 = .ok (.dload_n 2, 1) := by decide +kernel
theorem d4_9 : decode method_4_code 9 = .ok (.dconst 0, 1) := by decide +kernel
theorem d4_10 : decode method_4_code 10 = .ok (.dcmp .l, 1) := by decide +kernel
theorem d4_11 : decode method_4_code 11 = .ok (.ifCond .eq 5, 3) := by decide +kernel
theorem d4_16 : decode method_4_code 16 = .ok (.dconst 1, 1) := by decide +kernel
theorem d4_17 : decode method_4_code 17 = .ok (.dload_n 0, 1) := by decide +kernel
theorem d4_18 : decode method_4_code 18 = .ok (.ddiv, 1) := by decide +kernel
theorem d4_19 : decode method_4_code 19 = .ok (.dconst 1, 1) := by decide +kernel
theorem d4_20 : decode method_4_code 20 = .ok (.dload_n 2, 1) := by decide +kernel
theorem d4_21 : decode method_4_code 21 = .ok (.ddiv, 1) := by decide +kernel
theorem d4_22 : decode method_4_code 22 = .ok (.dcmp .l, 1) := by decide +kernel
theorem d4_23 : decode method_4_code 23 = .ok (.ifCond .ne 7, 3) := by decide +kernel
theorem d4_26 : decode method_4_code 26 = .ok (.iconst 1, 1) := by decide +kernel
theorem d4_27 : decode method_4_code 27 = .ok (.goto 4, 3) := by decide +kernel
theorem d4_31 : decode method_4_code 31 = .ok (.ireturn, 1) := by decide +kernel
theorem d4_14 : decode method_4_code 14 = .ok (.iconst 1, 1) := by decide +kernel
theorem d4_15 : decode method_4_code 15 = .ok (.ireturn, 1) := by decide +kernel
set_option maxRecDepth 65536 in
set_option maxHeartbeats 40000000 in
theorem rmE (l : Launch) (Z : State) (a0 : Array Value) (hw : ∀ d ∈ tables_1, d.before a0 Z = true) (ws : List Jvm.Cond) (v : UInt64) (h0 : Heap) (n0 : Nat) (Z0 : n0 ≤ h0.size) (h : NoNaN64 v) :
    Ctr l Z (⟨"com/example/tallowcast/tallowcast/graph/OperationSinglePinLaw", "same", "(DD)Z"⟩ : MethodName) method_4_code 4 (some .boolean) ws ({ frames := 0, cells := 0, slots := 0, locals := 0 } : Room) 0 0 #[(.double v), (.double v)] h0 (fun v h L => v = some (.int (1 : Int32)) ∧ L = [] ∧ h = h0) := by
  refine Ctr.mk (plainFor_of_name pn_0) fun p e s m below meth c T0 X0 C e0 => go_cast (ef_rmE m v v) ?_
  have N0 := Fr.nil n0
  obtain ⟨hx, hZ, hby, hml, hown, hnm, hret, hlk⟩ := C
  show Go _ _ _ _ _ _ _ T0 (mkF m 0 #[.val (.double v), .second, .val (.double v), .second] [])
  refine Go.step (fun tt kk => XS.dloadN X0.here hx rfl (hb hby d4_0) rfl kk) ?_
  show Go _ _ _ _ _ _ _ T0 (mkF m 1 _ [(.double v)])
  refine Go.step (fun tt kk => XS.dloadN X0.here hx rfl (hb hby d4_1) rfl kk) ?_
  show Go _ _ _ _ _ _ _ T0 (mkF m 2 _ [(.double v), (.double v)])
  refine Go.step (fun tt kk => XS.dcmpS X0.here hx rfl (hb hby d4_2) rfl rfl kk) ?_
  show Go _ _ _ _ _ _ _ T0 (mkF m 3 _ [(.int (cmpValue (FP.dcmp v v) .l))])
  refine Go.step (fun tt kk => XS.ifYes X0.here hx rfl (pc0 := 3) (pc' := 8) rfl (hb hby d4_3) rfl ((if0 _ _).trans (teq (dcmpV_self h .l)).1) (by decide) (by decide) kk) ?_
  show Go _ _ _ _ _ _ _ T0 (mkF m 8 _ [])
  refine Go.step (fun tt kk => XS.dloadN X0.here hx rfl (hb hby d4_8) rfl kk) ?_
  show Go _ _ _ _ _ _ _ T0 (mkF m 9 _ [(.double v)])
  refine Go.step (fun tt kk => XS.dconst0 X0.here hx rfl (hb hby d4_9) rfl kk) ?_
  show Go _ _ _ _ _ _ _ T0 (mkF m 10 _ [(.double FP.dconst0), (.double v)])
  refine Go.step (fun tt kk => XS.dcmpS X0.here hx rfl (hb hby d4_10) rfl rfl kk) ?_
  show Go _ _ _ _ _ _ _ T0 (mkF m 11 _ [(.int (cmpValue (FP.dcmp v FP.dconst0) .l))])
  by_cases c11_1 : (cmpValue (FP.dcmp v FP.dconst0) .l) = (0 : Int32)
  · refine Go.step (fun tt kk => XS.ifYes X0.here hx rfl (pc0 := 11) (pc' := 16) rfl (hb hby d4_11) rfl ((if0 _ _).trans (teq c11_1).1) (by decide) (by decide) kk) ?_
    show Go _ _ _ _ _ _ _ T0 (mkF m 16 _ [])
    refine Go.step (fun tt kk => XS.dconst1 X0.here hx rfl (hb hby d4_16) rfl kk) ?_
    show Go _ _ _ _ _ _ _ T0 (mkF m 17 _ [(.double FP.dconst1)])
    refine Go.step (fun tt kk => XS.dloadN X0.here hx rfl (hb hby d4_17) rfl kk) ?_
    show Go _ _ _ _ _ _ _ T0 (mkF m 18 _ [(.double v), (.double FP.dconst1)])
    refine Go.step (fun tt kk => XS.ddivS X0.here hx rfl (hb hby d4_18) rfl (own_1 v h) rfl kk) ?_
    show Go _ _ _ _ _ _ _ T0 (mkF m 19 _ [(.double (FP.ddiv FP.dconst1 v))])
    refine Go.step (fun tt kk => XS.dconst1 X0.here hx rfl (hb hby d4_19) rfl kk) ?_
    show Go _ _ _ _ _ _ _ T0 (mkF m 20 _ [(.double FP.dconst1), (.double (FP.ddiv FP.dconst1 v))])
    refine Go.step (fun tt kk => XS.dloadN X0.here hx rfl (hb hby d4_20) rfl kk) ?_
    show Go _ _ _ _ _ _ _ T0 (mkF m 21 _ [(.double v), (.double FP.dconst1), (.double (FP.ddiv FP.dconst1 v))])
    refine Go.step (fun tt kk => XS.ddivS X0.here hx rfl (hb hby d4_21) rfl (own_1 v h) rfl kk) ?_
    show Go _ _ _ _ _ _ _ T0 (mkF m 22 _ [(.double (FP.ddiv FP.dconst1 v)), (.double (FP.ddiv FP.dconst1 v))])
    refine Go.step (fun tt kk => XS.dcmpS X0.here hx rfl (hb hby d4_22) rfl rfl kk) ?_
    show Go _ _ _ _ _ _ _ T0 (mkF m 23 _ [(.int (cmpValue (FP.dcmp (FP.ddiv FP.dconst1 v) (FP.ddiv FP.dconst1 v)) .l))])
    refine Go.step (fun tt kk => XS.ifNo X0.here hx rfl (hb hby d4_23) rfl ((if0 _ _).trans (teq (dcmpV_self (own_1 v h) .l)).2) kk) ?_
    show Go _ _ _ _ _ _ _ T0 (mkF m 26 _ [])
    refine Go.step (fun tt kk => XS.iconst X0.here hx rfl (hb hby d4_26) kk) ?_
    show Go _ _ _ _ _ _ _ T0 (mkF m 27 _ [(.int (1 : Int32))])
    refine Go.step (fun tt kk => XS.goto X0.here hx rfl (pc0 := 27) (pc' := 31) rfl (hb hby d4_27) (by decide) (by decide) kk) ?_
    show Go _ _ _ _ _ _ _ T0 (mkF m 31 _ [(.int (1 : Int32))])
    refine go_retN X0 hx (t := .boolean) hret (by simp) hlk (hb hby d4_31) (w := (1 : Int32)) rfl ?_ (by decide) (by decide)
    try rw [e0]
    exact ⟨rfl, rfl, rfl⟩
  · refine Go.step (fun tt kk => XS.ifNo X0.here hx rfl (hb hby d4_11) rfl ((if0 _ _).trans (feq c11_1).1) kk) ?_
    show Go _ _ _ _ _ _ _ T0 (mkF m 14 _ [])
    refine Go.step (fun tt kk => XS.iconst X0.here hx rfl (hb hby d4_14) kk) ?_
    show Go _ _ _ _ _ _ _ T0 (mkF m 15 _ [(.int (1 : Int32))])
    refine go_retN X0 hx (t := .boolean) hret (by simp) hlk (hb hby d4_15) (w := (1 : Int32)) rfl ?_ (by decide) (by decide)
    try rw [e0]
    exact ⟨rfl, rfl, rfl⟩
theorem ef_rm0 (m : MethodId) (x0 : Int64) (x1 : Int32) (x2 : Int32) (x3 : Int32) : entryFrame m #[(.long x0), (.int x1), (.int x2), (.int x3)] maxLocals = mkF m 0 #[.val (.long x0), .second, .val (.int x1), .val (.int x2), .val (.int x3), .unset, .unset, .unset, .unset, .unset, .unset, .unset, .unset, .unset, .unset] [] := by first | (simp [entryFrame, mkF, argsToLocals, Value.category, maxLocals]; done) | rfl
theorem pd_1 : parseMethodDescriptor "(I)Lcom/example/tallowcast/tallowcast/graph/Arithmetic$Operation;" = some ⟨[.int], some (.object "com/example/tallowcast/tallowcast/graph/Arithmetic$Operation")⟩ := by decide +kernel
theorem pd_2 : parseMethodDescriptor "(D)D" = some ⟨[.double], some .double⟩ := by decide +kernel
theorem pd_3 : parseMethodDescriptor "(DD)Z" = some ⟨[.double, .double], some .boolean⟩ := by decide +kernel
set_option maxRecDepth 65536 in
set_option maxHeartbeats 40000000 in
theorem rm0 (l : Launch) (Z : State) (a0 : Array Value) (hw : ∀ d ∈ tables_1, d.before a0 Z = true) (ws : List Jvm.Cond) (i0 : Int64) (i1 i2 i3 : Int32) (c0 c1 c2 c3 c4 c5 c6 c7 c8 : Addr) (h0 : Heap) (n0 : Nat) (Z0 : n0 ≤ h0.size) (S0 : Sta Z h0 "com/example/tallowcast/tallowcast/graph/Arithmetic$Operation" "SUM" "Lcom/example/tallowcast/tallowcast/graph/Arithmetic$Operation;" (.ref c0)) (S1 : Sta Z h0 "com/example/tallowcast/tallowcast/graph/Arithmetic$Operation" "DIFFERENCE" "Lcom/example/tallowcast/tallowcast/graph/Arithmetic$Operation;" (.ref c1)) (S2 : Sta Z h0 "com/example/tallowcast/tallowcast/graph/Arithmetic$Operation" "PRODUCT" "Lcom/example/tallowcast/tallowcast/graph/Arithmetic$Operation;" (.ref c2)) (S3 : Sta Z h0 "com/example/tallowcast/tallowcast/graph/Arithmetic$Operation" "QUOTIENT" "Lcom/example/tallowcast/tallowcast/graph/Arithmetic$Operation;" (.ref c3)) (S4 : Sta Z h0 "com/example/tallowcast/tallowcast/graph/Arithmetic$Operation" "MAX" "Lcom/example/tallowcast/tallowcast/graph/Arithmetic$Operation;" (.ref c4)) (S5 : Sta Z h0 "com/example/tallowcast/tallowcast/graph/Arithmetic$Operation" "MIN" "Lcom/example/tallowcast/tallowcast/graph/Arithmetic$Operation;" (.ref c5)) (S6 : Sta Z h0 "com/example/tallowcast/tallowcast/graph/Arithmetic$Operation" "GREATER" "Lcom/example/tallowcast/tallowcast/graph/Arithmetic$Operation;" (.ref c6)) (S7 : Sta Z h0 "com/example/tallowcast/tallowcast/graph/Arithmetic$Operation" "LESS" "Lcom/example/tallowcast/tallowcast/graph/Arithmetic$Operation;" (.ref c7)) (S8 : Sta Z h0 "com/example/tallowcast/tallowcast/graph/Arithmetic$Operation" "EQUAL" "Lcom/example/tallowcast/tallowcast/graph/Arithmetic$Operation;" (.ref c8)) (E0 : Exa Z h0 c0 "com/example/tallowcast/tallowcast/graph/Arithmetic$Operation") (E1 : Exa Z h0 c1 "com/example/tallowcast/tallowcast/graph/Arithmetic$Operation") (E2 : Exa Z h0 c2 "com/example/tallowcast/tallowcast/graph/Arithmetic$Operation") (E3 : Exa Z h0 c3 "com/example/tallowcast/tallowcast/graph/Arithmetic$Operation") (E4 : Exa Z h0 c4 "com/example/tallowcast/tallowcast/graph/Arithmetic$Operation") (E5 : Exa Z h0 c5 "com/example/tallowcast/tallowcast/graph/Arithmetic$Operation") (E6 : Exa Z h0 c6 "com/example/tallowcast/tallowcast/graph/Arithmetic$Operation") (E7 : Exa Z h0 c7 "com/example/tallowcast/tallowcast/graph/Arithmetic$Operation") (E8 : Exa Z h0 c8 "com/example/tallowcast/tallowcast/graph/Arithmetic$Operation") (F0 : Fld Z h0 c0 "java/lang/Enum" "ordinal" "I" (.int (0 : Int32))) (F1 : Fld Z h0 c1 "java/lang/Enum" "ordinal" "I" (.int (1 : Int32))) (F2 : Fld Z h0 c2 "java/lang/Enum" "ordinal" "I" (.int (2 : Int32))) (F3 : Fld Z h0 c3 "java/lang/Enum" "ordinal" "I" (.int (3 : Int32))) (F4 : Fld Z h0 c4 "java/lang/Enum" "ordinal" "I" (.int (4 : Int32))) (F5 : Fld Z h0 c5 "java/lang/Enum" "ordinal" "I" (.int (5 : Int32))) (F6 : Fld Z h0 c6 "java/lang/Enum" "ordinal" "I" (.int (6 : Int32))) (F7 : Fld Z h0 c7 "java/lang/Enum" "ordinal" "I" (.int (7 : Int32))) (F8 : Fld Z h0 c8 "java/lang/Enum" "ordinal" "I" (.int (8 : Int32))) :
    Ctr l Z x code maxLocals ret ws room_1 0 0 #[(.long i0), (.int i1), (.int i2), (.int i3)] h0 (fun v h L => v = some (.int (1 : Int32)) ∧ Fr n0 L) := by
  refine Ctr.mk (plainFor_of_name pn_0) fun p e s m below meth c T0 X0 C e0 => go_cast (ef_rm0 m i0 i1 i2 i3) ?_
  have N0 := Fr.nil n0
  obtain ⟨hx, hZ, hby, hml, hown, hnm, hret, hlk⟩ := C
  show Go _ _ _ _ _ _ _ T0 (mkF m 0 #[.val (.long i0), .second, .val (.int i1), .val (.int i2), .val (.int i3), .unset, .unset, .unset, .unset, .unset, .unset, .unset, .unset, .unset, .unset] [])
  refine Go.step (fun tt kk => XS.iload X0.here hx rfl (hb hby at_0) rfl kk) ?_
  show Go _ _ _ _ _ _ _ T0 (mkF m 2 _ [(.int i3)])
  refine Go.step (X0.ldcInt hx hown (mvT hZ (hw _ (List.mem_of_getElem? (i := 0) rfl))) (g := (mkF m 2 #[.val (.long i0), .second, .val (.int i1), .val (.int i2), .val (.int i3), .unset, .unset, .unset, .unset, .unset, .unset, .unset, .unset, .unset, .unset] [(.int i3)])) rfl (hb hby at_2)) ?_
  show Go _ _ _ _ _ _ _ T0 (mkF m 4 _ [(.int (2147483647 : Int32)), (.int i3)])
  refine Go.step (fun tt kk => XS.iand X0.here hx rfl (hb hby at_4) rfl kk) ?_
  show Go _ _ _ _ _ _ _ T0 (mkF m 5 _ [(.int (i3 &&& (2147483647 : Int32)))])
  refine Go.step (fun tt kk => XS.bipush X0.here hx rfl (hb hby at_5) kk) ?_
  show Go _ _ _ _ _ _ _ T0 (mkF m 7 _ [(.int (9 : Int32)), (.int (i3 &&& (2147483647 : Int32)))])
  refine Go.step (fun tt kk => iremM X0 hx rfl (hb hby at_7) rfl (by decide) kk) ?_
  show Go _ _ _ _ _ _ _ T0 (mkF m 8 _ [(.int ((i3 &&& (2147483647 : Int32)) % (9 : Int32)))])
  refine Go.step (fun tt kk => XS.istore X0.here hx rfl (hb hby at_8) rfl (l' := #[.val (.long i0), .second, .val (.int i1), .val (.int i2), .val (.int i3), .val (.int ((i3 &&& (2147483647 : Int32)) % (9 : Int32))), .unset, .unset, .unset, .unset, .unset, .unset, .unset, .unset, .unset]) rfl kk) ?_
  show Go _ _ _ _ _ _ _ T0 (mkF m 10 _ [])
  obtain ⟨n, hn, en⟩ := own_c i3
  rw [en]
  rcases (by omega : n = 0 ∨ n = 1 ∨ n = 2 ∨ n = 3 ∨ n = 4 ∨ n = 5 ∨ n = 6 ∨ n = 7 ∨ n = 8) with rfl | rfl | rfl | rfl | rfl | rfl | rfl | rfl | rfl
  · show Go _ _ _ _ _ _ _ T0 (mkF m 10 #[.val (.long i0), .second, .val (.int i1), .val (.int i2), .val (.int i3), .val (.int (0 : Int32)), .unset, .unset, .unset, .unset, .unset, .unset, .unset, .unset, .unset] [])
    refine Go.step (fun tt kk => XS.iload X0.here hx rfl (hb hby at_10) rfl kk) ?_
    show Go _ _ _ _ _ _ _ T0 (mkF m 12 _ [(.int (0 : Int32))])
    obtain ⟨v1, T1, L1, X1, q1, st1⟩ := c_static X0 hx hZ hown (y := (⟨"com/example/tallowcast/tallowcast/graph/OperationSinglePinLaw", "pick", "(I)Lcom/example/tallowcast/tallowcast/graph/Arithmetic$Operation;"⟩ : MethodName)) (hw _ (List.mem_of_getElem? (i := 1) rfl)) (hw _ (List.mem_of_getElem? (i := 2) rfl)) (hw _ (List.mem_of_getElem? (i := 3) rfl)) (hw _ (List.mem_of_getElem? (i := 4) rfl)) (by decide) (argsL := [(.int (0 : Int32))]) (rest := []) (rmP0 l Z a0 hw [] c0 h0 n0 Z0 S0) e0 pd_1 rfl (by rw [hml]; rfl) (W := 0) (by show 2 * 0 + _ ≤ _; exact Nat.le_of_eq rfl) (by decide) (by decide) (by decide) (by decide) (hb hby at_12) (Ls := #[.val (.long i0), .second, .val (.int i1), .val (.int i2), .val (.int i3), .val (.int (0 : Int32)), .unset, .unset, .unset, .unset, .unset, .unset, .unset, .unset, .unset])
    obtain ⟨rfl, rfl, e1⟩ := q1
    have N1 := Fr.app N0 (Fr.nil n0)
    refine Go.step (st1) ?_
    show Go _ _ _ _ _ _ _ T1 (mkF m 15 _ [(.ref c0)])
    refine Go.step (fun tt kk => XS.astore X1.here hx rfl (hb hby at_15) rfl rfl (l' := #[.val (.long i0), .second, .val (.int i1), .val (.int i2), .val (.int i3), .val (.int (0 : Int32)), .val (.ref c0), .unset, .unset, .unset, .unset, .unset, .unset, .unset, .unset]) rfl kk) ?_
    show Go _ _ _ _ _ _ _ T1 (mkF m 17 _ [])
    refine Go.step (fun tt kk => XS.lloadN X1.here hx rfl (hb hby at_17) rfl kk) ?_
    show Go _ _ _ _ _ _ _ T1 (mkF m 18 _ [(.long i0)])
    refine Go.step (fun tt kk => XS.l2dS X1.here hx rfl (hb hby at_18) rfl rfl kk) ?_
    show Go _ _ _ _ _ _ _ T1 (mkF m 19 _ [(.double (FP.l2d i0))])
    refine Go.step (fun tt kk => XS.iloadN X1.here hx rfl (hb hby at_19) rfl kk) ?_
    show Go _ _ _ _ _ _ _ T1 (mkF m 20 _ [(.int i1), (.double (FP.l2d i0))])
    refine Go.step (fun tt kk => XS.bipush X1.here hx rfl (hb hby at_20) kk) ?_
    show Go _ _ _ _ _ _ _ T1 (mkF m 22 _ [(.int (7 : Int32)), (.int i1), (.double (FP.l2d i0))])
    refine Go.step (fun tt kk => XS.iand X1.here hx rfl (hb hby at_22) rfl kk) ?_
    show Go _ _ _ _ _ _ _ T1 (mkF m 23 _ [(.int (i1 &&& (7 : Int32))), (.double (FP.l2d i0))])
    refine Go.step (fun tt kk => XS.iconst X1.here hx rfl (hb hby at_23) kk) ?_
    show Go _ _ _ _ _ _ _ T1 (mkF m 24 _ [(.int (1 : Int32)), (.int (i1 &&& (7 : Int32))), (.double (FP.l2d i0))])
    refine Go.step (fun tt kk => XS.iadd X1.here hx rfl (hb hby at_24) rfl kk) ?_
    show Go _ _ _ _ _ _ _ T1 (mkF m 25 _ [(.int ((i1 &&& (7 : Int32)) + (1 : Int32))), (.double (FP.l2d i0))])
    refine Go.step (fun tt kk => XS.i2dS X1.here hx rfl (hb hby at_25) rfl rfl kk) ?_
    show Go _ _ _ _ _ _ _ T1 (mkF m 26 _ [(.double (FP.i2d ((i1 &&& (7 : Int32)) + (1 : Int32)))), (.double (FP.l2d i0))])
    refine Go.step (fun tt kk => XS.ddivS X1.here hx rfl (hb hby at_26) rfl (own_0 i0 ((i1 &&& (7 : Int32)) + (1 : Int32)) (own_dz i1)) rfl kk) ?_
    show Go _ _ _ _ _ _ _ T1 (mkF m 27 _ [(.double (FP.ddiv (FP.l2d i0) (FP.i2d ((i1 &&& (7 : Int32)) + (1 : Int32)))))])
    refine Go.step (fun tt kk => XS.dstore X1.here hx rfl (hb hby at_27) rfl (l' := #[.val (.long i0), .second, .val (.int i1), .val (.int i2), .val (.int i3), .val (.int (0 : Int32)), .val (.ref c0), .val (.double (FP.ddiv (FP.l2d i0) (FP.i2d ((i1 &&& (7 : Int32)) + (1 : Int32))))), .second, .unset, .unset, .unset, .unset, .unset, .unset]) rfl kk) ?_
    show Go _ _ _ _ _ _ _ T1 (mkF m 29 _ [])
    have ha0 := own_0 i0 ((i1 &&& (7 : Int32)) + (1 : Int32)) (own_dz i1)
    generalize (FP.ddiv (FP.l2d i0) (FP.i2d ((i1 &&& (7 : Int32)) + (1 : Int32)))) = x0 at ha0 ⊢
    show Go _ _ _ _ _ _ _ T1 (mkF m 29 #[.val (.long i0), .second, .val (.int i1), .val (.int i2), .val (.int i3), .val (.int (0 : Int32)), .val (.ref c0), .val (.double x0), .second, .unset, .unset, .unset, .unset, .unset, .unset] [])
    refine Go.step (fun tt kk => XS.iloadN X1.here hx rfl (hb hby at_29) rfl kk) ?_
    show Go _ _ _ _ _ _ _ T1 (mkF m 30 _ [(.int i2)])
    refine Go.step (fun tt kk => XS.iconst X1.here hx rfl (hb hby at_30) kk) ?_
    show Go _ _ _ _ _ _ _ T1 (mkF m 31 _ [(.int (1 : Int32)), (.int i2)])
    refine Go.step (fun tt kk => XS.iand X1.here hx rfl (hb hby at_31) rfl kk) ?_
    show Go _ _ _ _ _ _ _ T1 (mkF m 32 _ [(.int (i2 &&& (1 : Int32)))])
    by_cases c32_2 : (i2 &&& (1 : Int32)) = (0 : Int32)
    · refine Go.step (fun tt kk => XS.ifYes X1.here hx rfl (pc0 := 32) (pc' := 41) rfl (hb hby at_32) rfl ((if0 _ _).trans (teq c32_2).1) (by decide) (by decide) kk) ?_
      show Go _ _ _ _ _ _ _ T1 (mkF m 41 _ [])
      refine Go.step (fun tt kk => XS.dload X1.here hx rfl (hb hby at_41) rfl kk) ?_
      show Go _ _ _ _ _ _ _ T1 (mkF m 43 _ [(.double x0)])
      refine Go.step (fun tt kk => XS.dstore X1.here hx rfl (hb hby at_43) rfl (l' := #[.val (.long i0), .second, .val (.int i1), .val (.int i2), .val (.int i3), .val (.int (0 : Int32)), .val (.ref c0), .val (.double x0), .second, .val (.double x0), .second, .unset, .unset, .unset, .unset]) rfl kk) ?_
      show Go _ _ _ _ _ _ _ T1 (mkF m 45 _ [])
      refine Go.step (fun tt kk => XS.aload X1.here hx rfl (hb hby at_45) rfl rfl kk) ?_
      show Go _ _ _ _ _ _ _ T1 (mkF m 47 _ [(.ref c0)])
      refine Go.step (fun tt kk => XS.dload X1.here hx rfl (hb hby at_47) rfl kk) ?_
      show Go _ _ _ _ _ _ _ T1 (mkF m 49 _ [(.double x0), (.ref c0)])
      obtain ⟨v3, T3, L3, X3, q3, st3⟩ := c_virt X1 hx hZ hown (y' := (⟨"com/example/tallowcast/tallowcast/graph/Arithmetic$Operation", "single", "(D)D"⟩ : MethodName)) (y := (⟨"com/example/tallowcast/tallowcast/graph/Arithmetic$Operation", "single", "(D)D"⟩ : MethodName)) (C := "com/example/tallowcast/tallowcast/graph/Arithmetic$Operation") (hw _ (List.mem_of_getElem? (i := 8) rfl)) (hw _ (List.mem_of_getElem? (i := 9) rfl)) (notFace_of_selects (args := #[]) (mvT hZ (hw _ (List.mem_of_getElem? (i := 11) rfl)))) (hw _ (List.mem_of_getElem? (i := 11) rfl)) (hw _ (List.mem_of_getElem? (i := 10) rfl)) (hw _ (List.mem_of_getElem? (i := 6) rfl)) (hw _ (List.mem_of_getElem? (i := 12) rfl)) (by decide) (a := c0) (argsL := [(.double x0)]) (rest := []) (rmS0 l Z a0 hw [] c0 x0 h0 n0 Z0 ha0 E0 F0) e1 E0 pd_2 rfl (by rw [hml]; rfl) (W := 0) (by show 2 * 0 + _ ≤ _; exact Nat.le_of_eq rfl) (by decide) (by decide) (by decide) (by decide) (hb hby at_49) (Ls := #[.val (.long i0), .second, .val (.int i1), .val (.int i2), .val (.int i3), .val (.int (0 : Int32)), .val (.ref c0), .val (.double x0), .second, .val (.double x0), .second, .unset, .unset, .unset, .unset])
      obtain ⟨rfl, rfl, e3⟩ := q3
      have N3 := Fr.app N1 (Fr.nil n0)
      refine Go.step (st3) ?_
      show Go _ _ _ _ _ _ _ T3 (mkF m 52 _ [(.double x0)])
      refine Go.step (fun tt kk => XS.dstore X3.here hx rfl (hb hby at_52) rfl (l' := #[.val (.long i0), .second, .val (.int i1), .val (.int i2), .val (.int i3), .val (.int (0 : Int32)), .val (.ref c0), .val (.double x0), .second, .val (.double x0), .second, .val (.double x0), .second, .unset, .unset]) rfl kk) ?_
      show Go _ _ _ _ _ _ _ T3 (mkF m 54 _ [])
      refine Go.step (fun tt kk => XS.iload X3.here hx rfl (hb hby at_54) rfl kk) ?_
      show Go _ _ _ _ _ _ _ T3 (mkF m 56 _ [(.int (0 : Int32))])
      refine Go.step (fun tt kk => XS.iconst X3.here hx rfl (hb hby at_56) kk) ?_
      show Go _ _ _ _ _ _ _ T3 (mkF m 57 _ [(.int (1 : Int32)), (.int (0 : Int32))])
      refine Go.step (fun tt kk => XS.icmpYes X3.here hx rfl (pc0 := 57) (pc' := 68) rfl (hb hby at_57) rfl (feq (by decide)).2 (by decide) (by decide) kk) ?_
      show Go _ _ _ _ _ _ _ T3 (mkF m 68 _ [])
      refine Go.step (fun tt kk => XS.iload X3.here hx rfl (hb hby at_68) rfl kk) ?_
      show Go _ _ _ _ _ _ _ T3 (mkF m 70 _ [(.int (0 : Int32))])
      refine Go.step (fun tt kk => XS.iconst X3.here hx rfl (hb hby at_70) kk) ?_
      show Go _ _ _ _ _ _ _ T3 (mkF m 71 _ [(.int (3 : Int32)), (.int (0 : Int32))])
      refine Go.step (fun tt kk => XS.icmpYes X3.here hx rfl (pc0 := 71) (pc' := 83) rfl (hb hby at_71) rfl (feq (by decide)).2 (by decide) (by decide) kk) ?_
      show Go _ _ _ _ _ _ _ T3 (mkF m 83 _ [])
      refine Go.step (fun tt kk => XS.dload X3.here hx rfl (hb hby at_83) rfl kk) ?_
      show Go _ _ _ _ _ _ _ T3 (mkF m 85 _ [(.double x0)])
      refine Go.step (fun tt kk => XS.dstore X3.here hx rfl (hb hby at_85) rfl (l' := #[.val (.long i0), .second, .val (.int i1), .val (.int i2), .val (.int i3), .val (.int (0 : Int32)), .val (.ref c0), .val (.double x0), .second, .val (.double x0), .second, .val (.double x0), .second, .val (.double x0), .second]) rfl kk) ?_
      show Go _ _ _ _ _ _ _ T3 (mkF m 87 _ [])
      refine Go.step (fun tt kk => XS.dload X3.here hx rfl (hb hby at_87) rfl kk) ?_
      show Go _ _ _ _ _ _ _ T3 (mkF m 89 _ [(.double x0)])
      refine Go.step (fun tt kk => XS.dload X3.here hx rfl (hb hby at_89) rfl kk) ?_
      show Go _ _ _ _ _ _ _ T3 (mkF m 91 _ [(.double x0), (.double x0)])
      obtain ⟨v4, T4, L4, X4, q4, st4⟩ := c_static X3 hx hZ hown (y := (⟨"com/example/tallowcast/tallowcast/graph/OperationSinglePinLaw", "same", "(DD)Z"⟩ : MethodName)) (hw _ (List.mem_of_getElem? (i := 22) rfl)) (hw _ (List.mem_of_getElem? (i := 23) rfl)) (hw _ (List.mem_of_getElem? (i := 3) rfl)) (hw _ (List.mem_of_getElem? (i := 24) rfl)) (by decide) (argsL := [(.double x0), (.double x0)]) (rest := []) (rmE l Z a0 hw [] x0 h0 n0 Z0 ha0) e3 pd_3 rfl (by rw [hml]; rfl) (W := 0) (by show 2 * 0 + _ ≤ _; exact Nat.le_of_eq rfl) (by decide) (by decide) (by decide) (by decide) (hb hby at_91) (Ls := #[.val (.long i0), .second, .val (.int i1), .val (.int i2), .val (.int i3), .val (.int (0 : Int32)), .val (.ref c0), .val (.double x0), .second, .val (.double x0), .second, .val (.double x0), .second, .val (.double x0), .second])
      obtain ⟨rfl, rfl, e4⟩ := q4
      have N4 := Fr.app N3 (Fr.nil n0)
      refine Go.step (st4) ?_
      show Go _ _ _ _ _ _ _ T4 (mkF m 94 _ [(.int (1 : Int32))])
      refine go_retN X4 hx (t := .boolean) hret (by simp) hlk (hb hby at_94) (w := (1 : Int32)) rfl ?_ (by decide) (by decide)
      try rw [e4]
      exact ⟨rfl, N4⟩
    · refine Go.step (fun tt kk => XS.ifNo X1.here hx rfl (hb hby at_32) rfl ((if0 _ _).trans (feq c32_2).1) kk) ?_
      show Go _ _ _ _ _ _ _ T1 (mkF m 35 _ [])
      refine Go.step (fun tt kk => XS.dload X1.here hx rfl (hb hby at_35) rfl kk) ?_
      show Go _ _ _ _ _ _ _ T1 (mkF m 37 _ [(.double x0)])
      refine Go.step (fun tt kk => XS.dnegS X1.here hx rfl (hb hby at_37) rfl rfl kk) ?_
      show Go _ _ _ _ _ _ _ T1 (mkF m 38 _ [(.double (FP.dneg x0))])
      refine Go.step (fun tt kk => XS.goto X1.here hx rfl (pc0 := 38) (pc' := 43) rfl (hb hby at_38) (by decide) (by decide) kk) ?_
      show Go _ _ _ _ _ _ _ T1 (mkF m 43 _ [(.double (FP.dneg x0))])
      refine Go.step (fun tt kk => XS.dstore X1.here hx rfl (hb hby at_43) rfl (l' := #[.val (.long i0), .second, .val (.int i1), .val (.int i2), .val (.int i3), .val (.int (0 : Int32)), .val (.ref c0), .val (.double x0), .second, .val (.double (FP.dneg x0)), .second, .unset, .unset, .unset, .unset]) rfl kk) ?_
      show Go _ _ _ _ _ _ _ T1 (mkF m 45 _ [])
      refine Go.step (fun tt kk => XS.aload X1.here hx rfl (hb hby at_45) rfl rfl kk) ?_
      show Go _ _ _ _ _ _ _ T1 (mkF m 47 _ [(.ref c0)])
      refine Go.step (fun tt kk => XS.dload X1.here hx rfl (hb hby at_47) rfl kk) ?_
      show Go _ _ _ _ _ _ _ T1 (mkF m 49 _ [(.double (FP.dneg x0)), (.ref c0)])
      obtain ⟨v5, T5, L5, X5, q5, st5⟩ := c_virt X1 hx hZ hown (y' := (⟨"com/example/tallowcast/tallowcast/graph/Arithmetic$Operation", "single", "(D)D"⟩ : MethodName)) (y := (⟨"com/example/tallowcast/tallowcast/graph/Arithmetic$Operation", "single", "(D)D"⟩ : MethodName)) (C := "com/example/tallowcast/tallowcast/graph/Arithmetic$Operation") (hw _ (List.mem_of_getElem? (i := 8) rfl)) (hw _ (List.mem_of_getElem? (i := 9) rfl)) (notFace_of_selects (args := #[]) (mvT hZ (hw _ (List.mem_of_getElem? (i := 11) rfl)))) (hw _ (List.mem_of_getElem? (i := 11) rfl)) (hw _ (List.mem_of_getElem? (i := 10) rfl)) (hw _ (List.mem_of_getElem? (i := 6) rfl)) (hw _ (List.mem_of_getElem? (i := 12) rfl)) (by decide) (a := c0) (argsL := [(.double (FP.dneg x0))]) (rest := []) (rmS0 l Z a0 hw [] c0 (FP.dneg x0) h0 n0 Z0 ((dneg_iff _).mpr ha0) E0 F0) e1 E0 pd_2 rfl (by rw [hml]; rfl) (W := 0) (by show 2 * 0 + _ ≤ _; exact Nat.le_of_eq rfl) (by decide) (by decide) (by decide) (by decide) (hb hby at_49) (Ls := #[.val (.long i0), .second, .val (.int i1), .val (.int i2), .val (.int i3), .val (.int (0 : Int32)), .val (.ref c0), .val (.double x0), .second, .val (.double (FP.dneg x0)), .second, .unset, .unset, .unset, .unset])
      obtain ⟨rfl, rfl, e5⟩ := q5
      have N5 := Fr.app N1 (Fr.nil n0)
      refine Go.step (st5) ?_
      show Go _ _ _ _ _ _ _ T5 (mkF m 52 _ [(.double (FP.dneg x0))])
      refine Go.step (fun tt kk => XS.dstore X5.here hx rfl (hb hby at_52) rfl (l' := #[.val (.long i0), .second, .val (.int i1), .val (.int i2), .val (.int i3), .val (.int (0 : Int32)), .val (.ref c0), .val (.double x0), .second, .val (.double (FP.dneg x0)), .second, .val (.double (FP.dneg x0)), .second, .unset, .unset]) rfl kk) ?_
      show Go _ _ _ _ _ _ _ T5 (mkF m 54 _ [])
      refine Go.step (fun tt kk => XS.iload X5.here hx rfl (hb hby at_54) rfl kk) ?_
      show Go _ _ _ _ _ _ _ T5 (mkF m 56 _ [(.int (0 : Int32))])
      refine Go.step (fun tt kk => XS.iconst X5.here hx rfl (hb hby at_56) kk) ?_
      show Go _ _ _ _ _ _ _ T5 (mkF m 57 _ [(.int (1 : Int32)), (.int (0 : Int32))])
      refine Go.step (fun tt kk => XS.icmpYes X5.here hx rfl (pc0 := 57) (pc' := 68) rfl (hb hby at_57) rfl (feq (by decide)).2 (by decide) (by decide) kk) ?_
      show Go _ _ _ _ _ _ _ T5 (mkF m 68 _ [])
      refine Go.step (fun tt kk => XS.iload X5.here hx rfl (hb hby at_68) rfl kk) ?_
      show Go _ _ _ _ _ _ _ T5 (mkF m 70 _ [(.int (0 : Int32))])
      refine Go.step (fun tt kk => XS.iconst X5.here hx rfl (hb hby at_70) kk) ?_
      show Go _ _ _ _ _ _ _ T5 (mkF m 71 _ [(.int (3 : Int32)), (.int (0 : Int32))])
      refine Go.step (fun tt kk => XS.icmpYes X5.here hx rfl (pc0 := 71) (pc' := 83) rfl (hb hby at_71) rfl (feq (by decide)).2 (by decide) (by decide) kk) ?_
      show Go _ _ _ _ _ _ _ T5 (mkF m 83 _ [])
      refine Go.step (fun tt kk => XS.dload X5.here hx rfl (hb hby at_83) rfl kk) ?_
      show Go _ _ _ _ _ _ _ T5 (mkF m 85 _ [(.double (FP.dneg x0))])
      refine Go.step (fun tt kk => XS.dstore X5.here hx rfl (hb hby at_85) rfl (l' := #[.val (.long i0), .second, .val (.int i1), .val (.int i2), .val (.int i3), .val (.int (0 : Int32)), .val (.ref c0), .val (.double x0), .second, .val (.double (FP.dneg x0)), .second, .val (.double (FP.dneg x0)), .second, .val (.double (FP.dneg x0)), .second]) rfl kk) ?_
      show Go _ _ _ _ _ _ _ T5 (mkF m 87 _ [])
      refine Go.step (fun tt kk => XS.dload X5.here hx rfl (hb hby at_87) rfl kk) ?_
      show Go _ _ _ _ _ _ _ T5 (mkF m 89 _ [(.double (FP.dneg x0))])
      refine Go.step (fun tt kk => XS.dload X5.here hx rfl (hb hby at_89) rfl kk) ?_
      show Go _ _ _ _ _ _ _ T5 (mkF m 91 _ [(.double (FP.dneg x0)), (.double (FP.dneg x0))])
      obtain ⟨v6, T6, L6, X6, q6, st6⟩ := c_static X5 hx hZ hown (y := (⟨"com/example/tallowcast/tallowcast/graph/OperationSinglePinLaw", "same", "(DD)Z"⟩ : MethodName)) (hw _ (List.mem_of_getElem? (i := 22) rfl)) (hw _ (List.mem_of_getElem? (i := 23) rfl)) (hw _ (List.mem_of_getElem? (i := 3) rfl)) (hw _ (List.mem_of_getElem? (i := 24) rfl)) (by decide) (argsL := [(.double (FP.dneg x0)), (.double (FP.dneg x0))]) (rest := []) (rmE l Z a0 hw [] (FP.dneg x0) h0 n0 Z0 ((dneg_iff _).mpr ha0)) e5 pd_3 rfl (by rw [hml]; rfl) (W := 0) (by show 2 * 0 + _ ≤ _; exact Nat.le_of_eq rfl) (by decide) (by decide) (by decide) (by decide) (hb hby at_91) (Ls := #[.val (.long i0), .second, .val (.int i1), .val (.int i2), .val (.int i3), .val (.int (0 : Int32)), .val (.ref c0), .val (.double x0), .second, .val (.double (FP.dneg x0)), .second, .val (.double (FP.dneg x0)), .second, .val (.double (FP.dneg x0)), .second])
      obtain ⟨rfl, rfl, e6⟩ := q6
      have N6 := Fr.app N5 (Fr.nil n0)
      refine Go.step (st6) ?_
      show Go _ _ _ _ _ _ _ T6 (mkF m 94 _ [(.int (1 : Int32))])
      refine go_retN X6 hx (t := .boolean) hret (by simp) hlk (hb hby at_94) (w := (1 : Int32)) rfl ?_ (by decide) (by decide)
      try rw [e6]
      exact ⟨rfl, N6⟩
  · show Go _ _ _ _ _ _ _ T0 (mkF m 10 #[.val (.long i0), .second, .val (.int i1), .val (.int i2), .val (.int i3), .val (.int (1 : Int32)), .unset, .unset, .unset, .unset, .unset, .unset, .unset, .unset, .unset] [])
    refine Go.step (fun tt kk => XS.iload X0.here hx rfl (hb hby at_10) rfl kk) ?_
    show Go _ _ _ _ _ _ _ T0 (mkF m 12 _ [(.int (1 : Int32))])
    obtain ⟨v7, T7, L7, X7, q7, st7⟩ := c_static X0 hx hZ hown (y := (⟨"com/example/tallowcast/tallowcast/graph/OperationSinglePinLaw", "pick", "(I)Lcom/example/tallowcast/tallowcast/graph/Arithmetic$Operation;"⟩ : MethodName)) (hw _ (List.mem_of_getElem? (i := 1) rfl)) (hw _ (List.mem_of_getElem? (i := 2) rfl)) (hw _ (List.mem_of_getElem? (i := 3) rfl)) (hw _ (List.mem_of_getElem? (i := 4) rfl)) (by decide) (argsL := [(.int (1 : Int32))]) (rest := []) (rmP1 l Z a0 hw [] c1 h0 n0 Z0 S1) e0 pd_1 rfl (by rw [hml]; rfl) (W := 0) (by show 2 * 0 + _ ≤ _; exact Nat.le_of_eq rfl) (by decide) (by decide) (by decide) (by decide) (hb hby at_12) (Ls := #[.val (.long i0), .second, .val (.int i1), .val (.int i2), .val (.int i3), .val (.int (1 : Int32)), .unset, .unset, .unset, .unset, .unset, .unset, .unset, .unset, .unset])
    obtain ⟨rfl, rfl, e7⟩ := q7
    have N7 := Fr.app N0 (Fr.nil n0)
    refine Go.step (st7) ?_
    show Go _ _ _ _ _ _ _ T7 (mkF m 15 _ [(.ref c1)])
    refine Go.step (fun tt kk => XS.astore X7.here hx rfl (hb hby at_15) rfl rfl (l' := #[.val (.long i0), .second, .val (.int i1), .val (.int i2), .val (.int i3), .val (.int (1 : Int32)), .val (.ref c1), .unset, .unset, .unset, .unset, .unset, .unset, .unset, .unset]) rfl kk) ?_
    show Go _ _ _ _ _ _ _ T7 (mkF m 17 _ [])
    refine Go.step (fun tt kk => XS.lloadN X7.here hx rfl (hb hby at_17) rfl kk) ?_
    show Go _ _ _ _ _ _ _ T7 (mkF m 18 _ [(.long i0)])
    refine Go.step (fun tt kk => XS.l2dS X7.here hx rfl (hb hby at_18) rfl rfl kk) ?_
    show Go _ _ _ _ _ _ _ T7 (mkF m 19 _ [(.double (FP.l2d i0))])
    refine Go.step (fun tt kk => XS.iloadN X7.here hx rfl (hb hby at_19) rfl kk) ?_
    show Go _ _ _ _ _ _ _ T7 (mkF m 20 _ [(.int i1), (.double (FP.l2d i0))])
    refine Go.step (fun tt kk => XS.bipush X7.here hx rfl (hb hby at_20) kk) ?_
    show Go _ _ _ _ _ _ _ T7 (mkF m 22 _ [(.int (7 : Int32)), (.int i1), (.double (FP.l2d i0))])
    refine Go.step (fun tt kk => XS.iand X7.here hx rfl (hb hby at_22) rfl kk) ?_
    show Go _ _ _ _ _ _ _ T7 (mkF m 23 _ [(.int (i1 &&& (7 : Int32))), (.double (FP.l2d i0))])
    refine Go.step (fun tt kk => XS.iconst X7.here hx rfl (hb hby at_23) kk) ?_
    show Go _ _ _ _ _ _ _ T7 (mkF m 24 _ [(.int (1 : Int32)), (.int (i1 &&& (7 : Int32))), (.double (FP.l2d i0))])
    refine Go.step (fun tt kk => XS.iadd X7.here hx rfl (hb hby at_24) rfl kk) ?_
    show Go _ _ _ _ _ _ _ T7 (mkF m 25 _ [(.int ((i1 &&& (7 : Int32)) + (1 : Int32))), (.double (FP.l2d i0))])
    refine Go.step (fun tt kk => XS.i2dS X7.here hx rfl (hb hby at_25) rfl rfl kk) ?_
    show Go _ _ _ _ _ _ _ T7 (mkF m 26 _ [(.double (FP.i2d ((i1 &&& (7 : Int32)) + (1 : Int32)))), (.double (FP.l2d i0))])
    refine Go.step (fun tt kk => XS.ddivS X7.here hx rfl (hb hby at_26) rfl (own_0 i0 ((i1 &&& (7 : Int32)) + (1 : Int32)) (own_dz i1)) rfl kk) ?_
    show Go _ _ _ _ _ _ _ T7 (mkF m 27 _ [(.double (FP.ddiv (FP.l2d i0) (FP.i2d ((i1 &&& (7 : Int32)) + (1 : Int32)))))])
    refine Go.step (fun tt kk => XS.dstore X7.here hx rfl (hb hby at_27) rfl (l' := #[.val (.long i0), .second, .val (.int i1), .val (.int i2), .val (.int i3), .val (.int (1 : Int32)), .val (.ref c1), .val (.double (FP.ddiv (FP.l2d i0) (FP.i2d ((i1 &&& (7 : Int32)) + (1 : Int32))))), .second, .unset, .unset, .unset, .unset, .unset, .unset]) rfl kk) ?_
    show Go _ _ _ _ _ _ _ T7 (mkF m 29 _ [])
    have ha0 := own_0 i0 ((i1 &&& (7 : Int32)) + (1 : Int32)) (own_dz i1)
    generalize (FP.ddiv (FP.l2d i0) (FP.i2d ((i1 &&& (7 : Int32)) + (1 : Int32)))) = x0 at ha0 ⊢
    show Go _ _ _ _ _ _ _ T7 (mkF m 29 #[.val (.long i0), .second, .val (.int i1), .val (.int i2), .val (.int i3), .val (.int (1 : Int32)), .val (.ref c1), .val (.double x0), .second, .unset, .unset, .unset, .unset, .unset, .unset] [])
    refine Go.step (fun tt kk => XS.iloadN X7.here hx rfl (hb hby at_29) rfl kk) ?_
    show Go _ _ _ _ _ _ _ T7 (mkF m 30 _ [(.int i2)])
    refine Go.step (fun tt kk => XS.iconst X7.here hx rfl (hb hby at_30) kk) ?_
    show Go _ _ _ _ _ _ _ T7 (mkF m 31 _ [(.int (1 : Int32)), (.int i2)])
    refine Go.step (fun tt kk => XS.iand X7.here hx rfl (hb hby at_31) rfl kk) ?_
    show Go _ _ _ _ _ _ _ T7 (mkF m 32 _ [(.int (i2 &&& (1 : Int32)))])
    by_cases c32_8 : (i2 &&& (1 : Int32)) = (0 : Int32)
    · refine Go.step (fun tt kk => XS.ifYes X7.here hx rfl (pc0 := 32) (pc' := 41) rfl (hb hby at_32) rfl ((if0 _ _).trans (teq c32_8).1) (by decide) (by decide) kk) ?_
      show Go _ _ _ _ _ _ _ T7 (mkF m 41 _ [])
      refine Go.step (fun tt kk => XS.dload X7.here hx rfl (hb hby at_41) rfl kk) ?_
      show Go _ _ _ _ _ _ _ T7 (mkF m 43 _ [(.double x0)])
      refine Go.step (fun tt kk => XS.dstore X7.here hx rfl (hb hby at_43) rfl (l' := #[.val (.long i0), .second, .val (.int i1), .val (.int i2), .val (.int i3), .val (.int (1 : Int32)), .val (.ref c1), .val (.double x0), .second, .val (.double x0), .second, .unset, .unset, .unset, .unset]) rfl kk) ?_
      show Go _ _ _ _ _ _ _ T7 (mkF m 45 _ [])
      refine Go.step (fun tt kk => XS.aload X7.here hx rfl (hb hby at_45) rfl rfl kk) ?_
      show Go _ _ _ _ _ _ _ T7 (mkF m 47 _ [(.ref c1)])
      refine Go.step (fun tt kk => XS.dload X7.here hx rfl (hb hby at_47) rfl kk) ?_
      show Go _ _ _ _ _ _ _ T7 (mkF m 49 _ [(.double x0), (.ref c1)])
      obtain ⟨v9, T9, L9, X9, q9, st9⟩ := c_virt X7 hx hZ hown (y' := (⟨"com/example/tallowcast/tallowcast/graph/Arithmetic$Operation", "single", "(D)D"⟩ : MethodName)) (y := (⟨"com/example/tallowcast/tallowcast/graph/Arithmetic$Operation", "single", "(D)D"⟩ : MethodName)) (C := "com/example/tallowcast/tallowcast/graph/Arithmetic$Operation") (hw _ (List.mem_of_getElem? (i := 8) rfl)) (hw _ (List.mem_of_getElem? (i := 9) rfl)) (notFace_of_selects (args := #[]) (mvT hZ (hw _ (List.mem_of_getElem? (i := 11) rfl)))) (hw _ (List.mem_of_getElem? (i := 11) rfl)) (hw _ (List.mem_of_getElem? (i := 10) rfl)) (hw _ (List.mem_of_getElem? (i := 6) rfl)) (hw _ (List.mem_of_getElem? (i := 12) rfl)) (by decide) (a := c1) (argsL := [(.double x0)]) (rest := []) (rmS1 l Z a0 hw [] c1 x0 h0 n0 Z0 ha0 E1 F1) e7 E1 pd_2 rfl (by rw [hml]; rfl) (W := 0) (by show 2 * 0 + _ ≤ _; exact Nat.le_of_eq rfl) (by decide) (by decide) (by decide) (by decide) (hb hby at_49) (Ls := #[.val (.long i0), .second, .val (.int i1), .val (.int i2), .val (.int i3), .val (.int (1 : Int32)), .val (.ref c1), .val (.double x0), .second, .val (.double x0), .second, .unset, .unset, .unset, .unset])
      obtain ⟨rfl, rfl, e9⟩ := q9
      have N9 := Fr.app N7 (Fr.nil n0)
      refine Go.step (st9) ?_
      show Go _ _ _ _ _ _ _ T9 (mkF m 52 _ [(.double (FP.dneg x0))])
      refine Go.step (fun tt kk => XS.dstore X9.here hx rfl (hb hby at_52) rfl (l' := #[.val (.long i0), .second, .val (.int i1), .val (.int i2), .val (.int i3), .val (.int (1 : Int32)), .val (.ref c1), .val (.double x0), .second, .val (.double x0), .second, .val (.double (FP.dneg x0)), .second, .unset, .unset]) rfl kk) ?_
      show Go _ _ _ _ _ _ _ T9 (mkF m 54 _ [])
      refine Go.step (fun tt kk => XS.iload X9.here hx rfl (hb hby at_54) rfl kk) ?_
      show Go _ _ _ _ _ _ _ T9 (mkF m 56 _ [(.int (1 : Int32))])
      refine Go.step (fun tt kk => XS.iconst X9.here hx rfl (hb hby at_56) kk) ?_
      show Go _ _ _ _ _ _ _ T9 (mkF m 57 _ [(.int (1 : Int32)), (.int (1 : Int32))])
      refine Go.step (fun tt kk => XS.icmpNo X9.here hx rfl (hb hby at_57) rfl (teq (by decide)).2 kk) ?_
      show Go _ _ _ _ _ _ _ T9 (mkF m 60 _ [])
      refine Go.step (fun tt kk => XS.dload X9.here hx rfl (hb hby at_60) rfl kk) ?_
      show Go _ _ _ _ _ _ _ T9 (mkF m 62 _ [(.double x0)])
      refine Go.step (fun tt kk => XS.dnegS X9.here hx rfl (hb hby at_62) rfl rfl kk) ?_
      show Go _ _ _ _ _ _ _ T9 (mkF m 63 _ [(.double (FP.dneg x0))])
      refine Go.step (fun tt kk => XS.dstore X9.here hx rfl (hb hby at_63) rfl (l' := #[.val (.long i0), .second, .val (.int i1), .val (.int i2), .val (.int i3), .val (.int (1 : Int32)), .val (.ref c1), .val (.double x0), .second, .val (.double x0), .second, .val (.double (FP.dneg x0)), .second, .val (.double (FP.dneg x0)), .second]) rfl kk) ?_
      show Go _ _ _ _ _ _ _ T9 (mkF m 65 _ [])
      refine Go.step (fun tt kk => XS.goto X9.here hx rfl (pc0 := 65) (pc' := 87) rfl (hb hby at_65) (by decide) (by decide) kk) ?_
      show Go _ _ _ _ _ _ _ T9 (mkF m 87 _ [])
      refine Go.step (fun tt kk => XS.dload X9.here hx rfl (hb hby at_87) rfl kk) ?_
      show Go _ _ _ _ _ _ _ T9 (mkF m 89 _ [(.double (FP.dneg x0))])
      refine Go.step (fun tt kk => XS.dload X9.here hx rfl (hb hby at_89) rfl kk) ?_
      show Go _ _ _ _ _ _ _ T9 (mkF m 91 _ [(.double (FP.dneg x0)), (.double (FP.dneg x0))])
      obtain ⟨v10, T10, L10, X10, q10, st10⟩ := c_static X9 hx hZ hown (y := (⟨"com/example/tallowcast/tallowcast/graph/OperationSinglePinLaw", "same", "(DD)Z"⟩ : MethodName)) (hw _ (List.mem_of_getElem? (i := 22) rfl)) (hw _ (List.mem_of_getElem? (i := 23) rfl)) (hw _ (List.mem_of_getElem? (i := 3) rfl)) (hw _ (List.mem_of_getElem? (i := 24) rfl)) (by decide) (argsL := [(.double (FP.dneg x0)), (.double (FP.dneg x0))]) (rest := []) (rmE l Z a0 hw [] (FP.dneg x0) h0 n0 Z0 ((dneg_iff _).mpr ha0)) e9 pd_3 rfl (by rw [hml]; rfl) (W := 0) (by show 2 * 0 + _ ≤ _; exact Nat.le_of_eq rfl) (by decide) (by decide) (by decide) (by decide) (hb hby at_91) (Ls := #[.val (.long i0), .second, .val (.int i1), .val (.int i2), .val (.int i3), .val (.int (1 : Int32)), .val (.ref c1), .val (.double x0), .second, .val (.double x0), .second, .val (.double (FP.dneg x0)), .second, .val (.double (FP.dneg x0)), .second])
      obtain ⟨rfl, rfl, e10⟩ := q10
      have N10 := Fr.app N9 (Fr.nil n0)
      refine Go.step (st10) ?_
      show Go _ _ _ _ _ _ _ T10 (mkF m 94 _ [(.int (1 : Int32))])
      refine go_retN X10 hx (t := .boolean) hret (by simp) hlk (hb hby at_94) (w := (1 : Int32)) rfl ?_ (by decide) (by decide)
      try rw [e10]
      exact ⟨rfl, N10⟩
    · refine Go.step (fun tt kk => XS.ifNo X7.here hx rfl (hb hby at_32) rfl ((if0 _ _).trans (feq c32_8).1) kk) ?_
      show Go _ _ _ _ _ _ _ T7 (mkF m 35 _ [])
      refine Go.step (fun tt kk => XS.dload X7.here hx rfl (hb hby at_35) rfl kk) ?_
      show Go _ _ _ _ _ _ _ T7 (mkF m 37 _ [(.double x0)])
      refine Go.step (fun tt kk => XS.dnegS X7.here hx rfl (hb hby at_37) rfl rfl kk) ?_
      show Go _ _ _ _ _ _ _ T7 (mkF m 38 _ [(.double (FP.dneg x0))])
      refine Go.step (fun tt kk => XS.goto X7.here hx rfl (pc0 := 38) (pc' := 43) rfl (hb hby at_38) (by decide) (by decide) kk) ?_
      show Go _ _ _ _ _ _ _ T7 (mkF m 43 _ [(.double (FP.dneg x0))])
      refine Go.step (fun tt kk => XS.dstore X7.here hx rfl (hb hby at_43) rfl (l' := #[.val (.long i0), .second, .val (.int i1), .val (.int i2), .val (.int i3), .val (.int (1 : Int32)), .val (.ref c1), .val (.double x0), .second, .val (.double (FP.dneg x0)), .second, .unset, .unset, .unset, .unset]) rfl kk) ?_
      show Go _ _ _ _ _ _ _ T7 (mkF m 45 _ [])
      refine Go.step (fun tt kk => XS.aload X7.here hx rfl (hb hby at_45) rfl rfl kk) ?_
      show Go _ _ _ _ _ _ _ T7 (mkF m 47 _ [(.ref c1)])
      refine Go.step (fun tt kk => XS.dload X7.here hx rfl (hb hby at_47) rfl kk) ?_
      show Go _ _ _ _ _ _ _ T7 (mkF m 49 _ [(.double (FP.dneg x0)), (.ref c1)])
      obtain ⟨v11, T11, L11, X11, q11, st11⟩ := c_virt X7 hx hZ hown (y' := (⟨"com/example/tallowcast/tallowcast/graph/Arithmetic$Operation", "single", "(D)D"⟩ : MethodName)) (y := (⟨"com/example/tallowcast/tallowcast/graph/Arithmetic$Operation", "single", "(D)D"⟩ : MethodName)) (C := "com/example/tallowcast/tallowcast/graph/Arithmetic$Operation") (hw _ (List.mem_of_getElem? (i := 8) rfl)) (hw _ (List.mem_of_getElem? (i := 9) rfl)) (notFace_of_selects (args := #[]) (mvT hZ (hw _ (List.mem_of_getElem? (i := 11) rfl)))) (hw _ (List.mem_of_getElem? (i := 11) rfl)) (hw _ (List.mem_of_getElem? (i := 10) rfl)) (hw _ (List.mem_of_getElem? (i := 6) rfl)) (hw _ (List.mem_of_getElem? (i := 12) rfl)) (by decide) (a := c1) (argsL := [(.double (FP.dneg x0))]) (rest := []) (rmS1 l Z a0 hw [] c1 (FP.dneg x0) h0 n0 Z0 ((dneg_iff _).mpr ha0) E1 F1) e7 E1 pd_2 rfl (by rw [hml]; rfl) (W := 0) (by show 2 * 0 + _ ≤ _; exact Nat.le_of_eq rfl) (by decide) (by decide) (by decide) (by decide) (hb hby at_49) (Ls := #[.val (.long i0), .second, .val (.int i1), .val (.int i2), .val (.int i3), .val (.int (1 : Int32)), .val (.ref c1), .val (.double x0), .second, .val (.double (FP.dneg x0)), .second, .unset, .unset, .unset, .unset])
      obtain ⟨rfl, rfl, e11⟩ := q11
      have N11 := Fr.app N7 (Fr.nil n0)
      refine Go.step (st11) ?_
      show Go _ _ _ _ _ _ _ T11 (mkF m 52 _ [(.double (FP.dneg (FP.dneg x0)))])
      refine Go.step (fun tt kk => XS.dstore X11.here hx rfl (hb hby at_52) rfl (l' := #[.val (.long i0), .second, .val (.int i1), .val (.int i2), .val (.int i3), .val (.int (1 : Int32)), .val (.ref c1), .val (.double x0), .second, .val (.double (FP.dneg x0)), .second, .val (.double (FP.dneg (FP.dneg x0))), .second, .unset, .unset]) rfl kk) ?_
      show Go _ _ _ _ _ _ _ T11 (mkF m 54 _ [])
      refine Go.step (fun tt kk => XS.iload X11.here hx rfl (hb hby at_54) rfl kk) ?_
      show Go _ _ _ _ _ _ _ T11 (mkF m 56 _ [(.int (1 : Int32))])
      refine Go.step (fun tt kk => XS.iconst X11.here hx rfl (hb hby at_56) kk) ?_
      show Go _ _ _ _ _ _ _ T11 (mkF m 57 _ [(.int (1 : Int32)), (.int (1 : Int32))])
      refine Go.step (fun tt kk => XS.icmpNo X11.here hx rfl (hb hby at_57) rfl (teq (by decide)).2 kk) ?_
      show Go _ _ _ _ _ _ _ T11 (mkF m 60 _ [])
      refine Go.step (fun tt kk => XS.dload X11.here hx rfl (hb hby at_60) rfl kk) ?_
      show Go _ _ _ _ _ _ _ T11 (mkF m 62 _ [(.double (FP.dneg x0))])
      refine Go.step (fun tt kk => XS.dnegS X11.here hx rfl (hb hby at_62) rfl rfl kk) ?_
      show Go _ _ _ _ _ _ _ T11 (mkF m 63 _ [(.double (FP.dneg (FP.dneg x0)))])
      refine Go.step (fun tt kk => XS.dstore X11.here hx rfl (hb hby at_63) rfl (l' := #[.val (.long i0), .second, .val (.int i1), .val (.int i2), .val (.int i3), .val (.int (1 : Int32)), .val (.ref c1), .val (.double x0), .second, .val (.double (FP.dneg x0)), .second, .val (.double (FP.dneg (FP.dneg x0))), .second, .val (.double (FP.dneg (FP.dneg x0))), .second]) rfl kk) ?_
      show Go _ _ _ _ _ _ _ T11 (mkF m 65 _ [])
      refine Go.step (fun tt kk => XS.goto X11.here hx rfl (pc0 := 65) (pc' := 87) rfl (hb hby at_65) (by decide) (by decide) kk) ?_
      show Go _ _ _ _ _ _ _ T11 (mkF m 87 _ [])
      refine Go.step (fun tt kk => XS.dload X11.here hx rfl (hb hby at_87) rfl kk) ?_
      show Go _ _ _ _ _ _ _ T11 (mkF m 89 _ [(.double (FP.dneg (FP.dneg x0)))])
      refine Go.step (fun tt kk => XS.dload X11.here hx rfl (hb hby at_89) rfl kk) ?_
      show Go _ _ _ _ _ _ _ T11 (mkF m 91 _ [(.double (FP.dneg (FP.dneg x0))), (.double (FP.dneg (FP.dneg x0)))])
      obtain ⟨v12, T12, L12, X12, q12, st12⟩ := c_static X11 hx hZ hown (y := (⟨"com/example/tallowcast/tallowcast/graph/OperationSinglePinLaw", "same", "(DD)Z"⟩ : MethodName)) (hw _ (List.mem_of_getElem? (i := 22) rfl)) (hw _ (List.mem_of_getElem? (i := 23) rfl)) (hw _ (List.mem_of_getElem? (i := 3) rfl)) (hw _ (List.mem_of_getElem? (i := 24) rfl)) (by decide) (argsL := [(.double (FP.dneg (FP.dneg x0))), (.double (FP.dneg (FP.dneg x0)))]) (rest := []) (rmE l Z a0 hw [] (FP.dneg (FP.dneg x0)) h0 n0 Z0 ((dneg_iff _).mpr ((dneg_iff _).mpr ha0))) e11 pd_3 rfl (by rw [hml]; rfl) (W := 0) (by show 2 * 0 + _ ≤ _; exact Nat.le_of_eq rfl) (by decide) (by decide) (by decide) (by decide) (hb hby at_91) (Ls := #[.val (.long i0), .second, .val (.int i1), .val (.int i2), .val (.int i3), .val (.int (1 : Int32)), .val (.ref c1), .val (.double x0), .second, .val (.double (FP.dneg x0)), .second, .val (.double (FP.dneg (FP.dneg x0))), .second, .val (.double (FP.dneg (FP.dneg x0))), .second])
      obtain ⟨rfl, rfl, e12⟩ := q12
      have N12 := Fr.app N11 (Fr.nil n0)
      refine Go.step (st12) ?_
      show Go _ _ _ _ _ _ _ T12 (mkF m 94 _ [(.int (1 : Int32))])
      refine go_retN X12 hx (t := .boolean) hret (by simp) hlk (hb hby at_94) (w := (1 : Int32)) rfl ?_ (by decide) (by decide)
      try rw [e12]
      exact ⟨rfl, N12⟩
  · show Go _ _ _ _ _ _ _ T0 (mkF m 10 #[.val (.long i0), .second, .val (.int i1), .val (.int i2), .val (.int i3), .val (.int (2 : Int32)), .unset, .unset, .unset, .unset, .unset, .unset, .unset, .unset, .unset] [])
    refine Go.step (fun tt kk => XS.iload X0.here hx rfl (hb hby at_10) rfl kk) ?_
    show Go _ _ _ _ _ _ _ T0 (mkF m 12 _ [(.int (2 : Int32))])
    obtain ⟨v13, T13, L13, X13, q13, st13⟩ := c_static X0 hx hZ hown (y := (⟨"com/example/tallowcast/tallowcast/graph/OperationSinglePinLaw", "pick", "(I)Lcom/example/tallowcast/tallowcast/graph/Arithmetic$Operation;"⟩ : MethodName)) (hw _ (List.mem_of_getElem? (i := 1) rfl)) (hw _ (List.mem_of_getElem? (i := 2) rfl)) (hw _ (List.mem_of_getElem? (i := 3) rfl)) (hw _ (List.mem_of_getElem? (i := 4) rfl)) (by decide) (argsL := [(.int (2 : Int32))]) (rest := []) (rmP2 l Z a0 hw [] c2 h0 n0 Z0 S2) e0 pd_1 rfl (by rw [hml]; rfl) (W := 0) (by show 2 * 0 + _ ≤ _; exact Nat.le_of_eq rfl) (by decide) (by decide) (by decide) (by decide) (hb hby at_12) (Ls := #[.val (.long i0), .second, .val (.int i1), .val (.int i2), .val (.int i3), .val (.int (2 : Int32)), .unset, .unset, .unset, .unset, .unset, .unset, .unset, .unset, .unset])
    obtain ⟨rfl, rfl, e13⟩ := q13
    have N13 := Fr.app N0 (Fr.nil n0)
    refine Go.step (st13) ?_
    show Go _ _ _ _ _ _ _ T13 (mkF m 15 _ [(.ref c2)])
    refine Go.step (fun tt kk => XS.astore X13.here hx rfl (hb hby at_15) rfl rfl (l' := #[.val (.long i0), .second, .val (.int i1), .val (.int i2), .val (.int i3), .val (.int (2 : Int32)), .val (.ref c2), .unset, .unset, .unset, .unset, .unset, .unset, .unset, .unset]) rfl kk) ?_
    show Go _ _ _ _ _ _ _ T13 (mkF m 17 _ [])
    refine Go.step (fun tt kk => XS.lloadN X13.here hx rfl (hb hby at_17) rfl kk) ?_
    show Go _ _ _ _ _ _ _ T13 (mkF m 18 _ [(.long i0)])
    refine Go.step (fun tt kk => XS.l2dS X13.here hx rfl (hb hby at_18) rfl rfl kk) ?_
    show Go _ _ _ _ _ _ _ T13 (mkF m 19 _ [(.double (FP.l2d i0))])
    refine Go.step (fun tt kk => XS.iloadN X13.here hx rfl (hb hby at_19) rfl kk) ?_
    show Go _ _ _ _ _ _ _ T13 (mkF m 20 _ [(.int i1), (.double (FP.l2d i0))])
    refine Go.step (fun tt kk => XS.bipush X13.here hx rfl (hb hby at_20) kk) ?_
    show Go _ _ _ _ _ _ _ T13 (mkF m 22 _ [(.int (7 : Int32)), (.int i1), (.double (FP.l2d i0))])
    refine Go.step (fun tt kk => XS.iand X13.here hx rfl (hb hby at_22) rfl kk) ?_
    show Go _ _ _ _ _ _ _ T13 (mkF m 23 _ [(.int (i1 &&& (7 : Int32))), (.double (FP.l2d i0))])
    refine Go.step (fun tt kk => XS.iconst X13.here hx rfl (hb hby at_23) kk) ?_
    show Go _ _ _ _ _ _ _ T13 (mkF m 24 _ [(.int (1 : Int32)), (.int (i1 &&& (7 : Int32))), (.double (FP.l2d i0))])
    refine Go.step (fun tt kk => XS.iadd X13.here hx rfl (hb hby at_24) rfl kk) ?_
    show Go _ _ _ _ _ _ _ T13 (mkF m 25 _ [(.int ((i1 &&& (7 : Int32)) + (1 : Int32))), (.double (FP.l2d i0))])
    refine Go.step (fun tt kk => XS.i2dS X13.here hx rfl (hb hby at_25) rfl rfl kk) ?_
    show Go _ _ _ _ _ _ _ T13 (mkF m 26 _ [(.double (FP.i2d ((i1 &&& (7 : Int32)) + (1 : Int32)))), (.double (FP.l2d i0))])
    refine Go.step (fun tt kk => XS.ddivS X13.here hx rfl (hb hby at_26) rfl (own_0 i0 ((i1 &&& (7 : Int32)) + (1 : Int32)) (own_dz i1)) rfl kk) ?_
    show Go _ _ _ _ _ _ _ T13 (mkF m 27 _ [(.double (FP.ddiv (FP.l2d i0) (FP.i2d ((i1 &&& (7 : Int32)) + (1 : Int32)))))])
    refine Go.step (fun tt kk => XS.dstore X13.here hx rfl (hb hby at_27) rfl (l' := #[.val (.long i0), .second, .val (.int i1), .val (.int i2), .val (.int i3), .val (.int (2 : Int32)), .val (.ref c2), .val (.double (FP.ddiv (FP.l2d i0) (FP.i2d ((i1 &&& (7 : Int32)) + (1 : Int32))))), .second, .unset, .unset, .unset, .unset, .unset, .unset]) rfl kk) ?_
    show Go _ _ _ _ _ _ _ T13 (mkF m 29 _ [])
    have ha0 := own_0 i0 ((i1 &&& (7 : Int32)) + (1 : Int32)) (own_dz i1)
    generalize (FP.ddiv (FP.l2d i0) (FP.i2d ((i1 &&& (7 : Int32)) + (1 : Int32)))) = x0 at ha0 ⊢
    show Go _ _ _ _ _ _ _ T13 (mkF m 29 #[.val (.long i0), .second, .val (.int i1), .val (.int i2), .val (.int i3), .val (.int (2 : Int32)), .val (.ref c2), .val (.double x0), .second, .unset, .unset, .unset, .unset, .unset, .unset] [])
    refine Go.step (fun tt kk => XS.iloadN X13.here hx rfl (hb hby at_29) rfl kk) ?_
    show Go _ _ _ _ _ _ _ T13 (mkF m 30 _ [(.int i2)])
    refine Go.step (fun tt kk => XS.iconst X13.here hx rfl (hb hby at_30) kk) ?_
    show Go _ _ _ _ _ _ _ T13 (mkF m 31 _ [(.int (1 : Int32)), (.int i2)])
    refine Go.step (fun tt kk => XS.iand X13.here hx rfl (hb hby at_31) rfl kk) ?_
    show Go _ _ _ _ _ _ _ T13 (mkF m 32 _ [(.int (i2 &&& (1 : Int32)))])
    by_cases c32_14 : (i2 &&& (1 : Int32)) = (0 : Int32)
    · refine Go.step (fun tt kk => XS.ifYes X13.here hx rfl (pc0 := 32) (pc' := 41) rfl (hb hby at_32) rfl ((if0 _ _).trans (teq c32_14).1) (by decide) (by decide) kk) ?_
      show Go _ _ _ _ _ _ _ T13 (mkF m 41 _ [])
      refine Go.step (fun tt kk => XS.dload X13.here hx rfl (hb hby at_41) rfl kk) ?_
      show Go _ _ _ _ _ _ _ T13 (mkF m 43 _ [(.double x0)])
      refine Go.step (fun tt kk => XS.dstore X13.here hx rfl (hb hby at_43) rfl (l' := #[.val (.long i0), .second, .val (.int i1), .val (.int i2), .val (.int i3), .val (.int (2 : Int32)), .val (.ref c2), .val (.double x0), .second, .val (.double x0), .second, .unset, .unset, .unset, .unset]) rfl kk) ?_
      show Go _ _ _ _ _ _ _ T13 (mkF m 45 _ [])
      refine Go.step (fun tt kk => XS.aload X13.here hx rfl (hb hby at_45) rfl rfl kk) ?_
      show Go _ _ _ _ _ _ _ T13 (mkF m 47 _ [(.ref c2)])
      refine Go.step (fun tt kk => XS.dload X13.here hx rfl (hb hby at_47) rfl kk) ?_
      show Go _ _ _ _ _ _ _ T13 (mkF m 49 _ [(.double x0), (.ref c2)])
      obtain ⟨v15, T15, L15, X15, q15, st15⟩ := c_virt X13 hx hZ hown (y' := (⟨"com/example/tallowcast/tallowcast/graph/Arithmetic$Operation", "single", "(D)D"⟩ : MethodName)) (y := (⟨"com/example/tallowcast/tallowcast/graph/Arithmetic$Operation", "single", "(D)D"⟩ : MethodName)) (C := "com/example/tallowcast/tallowcast/graph/Arithmetic$Operation") (hw _ (List.mem_of_getElem? (i := 8) rfl)) (hw _ (List.mem_of_getElem? (i := 9) rfl)) (notFace_of_selects (args := #[]) (mvT hZ (hw _ (List.mem_of_getElem? (i := 11) rfl)))) (hw _ (List.mem_of_getElem? (i := 11) rfl)) (hw _ (List.mem_of_getElem? (i := 10) rfl)) (hw _ (List.mem_of_getElem? (i := 6) rfl)) (hw _ (List.mem_of_getElem? (i := 12) rfl)) (by decide) (a := c2) (argsL := [(.double x0)]) (rest := []) (rmS2 l Z a0 hw [] c2 x0 h0 n0 Z0 ha0 E2 F2) e13 E2 pd_2 rfl (by rw [hml]; rfl) (W := 0) (by show 2 * 0 + _ ≤ _; exact Nat.le_of_eq rfl) (by decide) (by decide) (by decide) (by decide) (hb hby at_49) (Ls := #[.val (.long i0), .second, .val (.int i1), .val (.int i2), .val (.int i3), .val (.int (2 : Int32)), .val (.ref c2), .val (.double x0), .second, .val (.double x0), .second, .unset, .unset, .unset, .unset])
      obtain ⟨rfl, rfl, e15⟩ := q15
      have N15 := Fr.app N13 (Fr.nil n0)
      refine Go.step (st15) ?_
      show Go _ _ _ _ _ _ _ T15 (mkF m 52 _ [(.double x0)])
      refine Go.step (fun tt kk => XS.dstore X15.here hx rfl (hb hby at_52) rfl (l' := #[.val (.long i0), .second, .val (.int i1), .val (.int i2), .val (.int i3), .val (.int (2 : Int32)), .val (.ref c2), .val (.double x0), .second, .val (.double x0), .second, .val (.double x0), .second, .unset, .unset]) rfl kk) ?_
      show Go _ _ _ _ _ _ _ T15 (mkF m 54 _ [])
      refine Go.step (fun tt kk => XS.iload X15.here hx rfl (hb hby at_54) rfl kk) ?_
      show Go _ _ _ _ _ _ _ T15 (mkF m 56 _ [(.int (2 : Int32))])
      refine Go.step (fun tt kk => XS.iconst X15.here hx rfl (hb hby at_56) kk) ?_
      show Go _ _ _ _ _ _ _ T15 (mkF m 57 _ [(.int (1 : Int32)), (.int (2 : Int32))])
      refine Go.step (fun tt kk => XS.icmpYes X15.here hx rfl (pc0 := 57) (pc' := 68) rfl (hb hby at_57) rfl (feq (by decide)).2 (by decide) (by decide) kk) ?_
      show Go _ _ _ _ _ _ _ T15 (mkF m 68 _ [])
      refine Go.step (fun tt kk => XS.iload X15.here hx rfl (hb hby at_68) rfl kk) ?_
      show Go _ _ _ _ _ _ _ T15 (mkF m 70 _ [(.int (2 : Int32))])
      refine Go.step (fun tt kk => XS.iconst X15.here hx rfl (hb hby at_70) kk) ?_
      show Go _ _ _ _ _ _ _ T15 (mkF m 71 _ [(.int (3 : Int32)), (.int (2 : Int32))])
      refine Go.step (fun tt kk => XS.icmpYes X15.here hx rfl (pc0 := 71) (pc' := 83) rfl (hb hby at_71) rfl (feq (by decide)).2 (by decide) (by decide) kk) ?_
      show Go _ _ _ _ _ _ _ T15 (mkF m 83 _ [])
      refine Go.step (fun tt kk => XS.dload X15.here hx rfl (hb hby at_83) rfl kk) ?_
      show Go _ _ _ _ _ _ _ T15 (mkF m 85 _ [(.double x0)])
      refine Go.step (fun tt kk => XS.dstore X15.here hx rfl (hb hby at_85) rfl (l' := #[.val (.long i0), .second, .val (.int i1), .val (.int i2), .val (.int i3), .val (.int (2 : Int32)), .val (.ref c2), .val (.double x0), .second, .val (.double x0), .second, .val (.double x0), .second, .val (.double x0), .second]) rfl kk) ?_
      show Go _ _ _ _ _ _ _ T15 (mkF m 87 _ [])
      refine Go.step (fun tt kk => XS.dload X15.here hx rfl (hb hby at_87) rfl kk) ?_
      show Go _ _ _ _ _ _ _ T15 (mkF m 89 _ [(.double x0)])
      refine Go.step (fun tt kk => XS.dload X15.here hx rfl (hb hby at_89) rfl kk) ?_
      show Go _ _ _ _ _ _ _ T15 (mkF m 91 _ [(.double x0), (.double x0)])
      obtain ⟨v16, T16, L16, X16, q16, st16⟩ := c_static X15 hx hZ hown (y := (⟨"com/example/tallowcast/tallowcast/graph/OperationSinglePinLaw", "same", "(DD)Z"⟩ : MethodName)) (hw _ (List.mem_of_getElem? (i := 22) rfl)) (hw _ (List.mem_of_getElem? (i := 23) rfl)) (hw _ (List.mem_of_getElem? (i := 3) rfl)) (hw _ (List.mem_of_getElem? (i := 24) rfl)) (by decide) (argsL := [(.double x0), (.double x0)]) (rest := []) (rmE l Z a0 hw [] x0 h0 n0 Z0 ha0) e15 pd_3 rfl (by rw [hml]; rfl) (W := 0) (by show 2 * 0 + _ ≤ _; exact Nat.le_of_eq rfl) (by decide) (by decide) (by decide) (by decide) (hb hby at_91) (Ls := #[.val (.long i0), .second, .val (.int i1), .val (.int i2), .val (.int i3), .val (.int (2 : Int32)), .val (.ref c2), .val (.double x0), .second, .val (.double x0), .second, .val (.double x0), .second, .val (.double x0), .second])
      obtain ⟨rfl, rfl, e16⟩ := q16
      have N16 := Fr.app N15 (Fr.nil n0)
      refine Go.step (st16) ?_
      show Go _ _ _ _ _ _ _ T16 (mkF m 94 _ [(.int (1 : Int32))])
      refine go_retN X16 hx (t := .boolean) hret (by simp) hlk (hb hby at_94) (w := (1 : Int32)) rfl ?_ (by decide) (by decide)
      try rw [e16]
      exact ⟨rfl, N16⟩
    · refine Go.step (fun tt kk => XS.ifNo X13.here hx rfl (hb hby at_32) rfl ((if0 _ _).trans (feq c32_14).1) kk) ?_
      show Go _ _ _ _ _ _ _ T13 (mkF m 35 _ [])
      refine Go.step (fun tt kk => XS.dload X13.here hx rfl (hb hby at_35) rfl kk) ?_
      show Go _ _ _ _ _ _ _ T13 (mkF m 37 _ [(.double x0)])
      refine Go.step (fun tt kk => XS.dnegS X13.here hx rfl (hb hby at_37) rfl rfl kk) ?_
      show Go _ _ _ _ _ _ _ T13 (mkF m 38 _ [(.double (FP.dneg x0))])
      refine Go.step (fun tt kk => XS.goto X13.here hx rfl (pc0 := 38) (pc' := 43) rfl (hb hby at_38) (by decide) (by decide) kk) ?_
      show Go _ _ _ _ _ _ _ T13 (mkF m 43 _ [(.double (FP.dneg x0))])
      refine Go.step (fun tt kk => XS.dstore X13.here hx rfl (hb hby at_43) rfl (l' := #[.val (.long i0), .second, .val (.int i1), .val (.int i2), .val (.int i3), .val (.int (2 : Int32)), .val (.ref c2), .val (.double x0), .second, .val (.double (FP.dneg x0)), .second, .unset, .unset, .unset, .unset]) rfl kk) ?_
      show Go _ _ _ _ _ _ _ T13 (mkF m 45 _ [])
      refine Go.step (fun tt kk => XS.aload X13.here hx rfl (hb hby at_45) rfl rfl kk) ?_
      show Go _ _ _ _ _ _ _ T13 (mkF m 47 _ [(.ref c2)])
      refine Go.step (fun tt kk => XS.dload X13.here hx rfl (hb hby at_47) rfl kk) ?_
      show Go _ _ _ _ _ _ _ T13 (mkF m 49 _ [(.double (FP.dneg x0)), (.ref c2)])
      obtain ⟨v17, T17, L17, X17, q17, st17⟩ := c_virt X13 hx hZ hown (y' := (⟨"com/example/tallowcast/tallowcast/graph/Arithmetic$Operation", "single", "(D)D"⟩ : MethodName)) (y := (⟨"com/example/tallowcast/tallowcast/graph/Arithmetic$Operation", "single", "(D)D"⟩ : MethodName)) (C := "com/example/tallowcast/tallowcast/graph/Arithmetic$Operation") (hw _ (List.mem_of_getElem? (i := 8) rfl)) (hw _ (List.mem_of_getElem? (i := 9) rfl)) (notFace_of_selects (args := #[]) (mvT hZ (hw _ (List.mem_of_getElem? (i := 11) rfl)))) (hw _ (List.mem_of_getElem? (i := 11) rfl)) (hw _ (List.mem_of_getElem? (i := 10) rfl)) (hw _ (List.mem_of_getElem? (i := 6) rfl)) (hw _ (List.mem_of_getElem? (i := 12) rfl)) (by decide) (a := c2) (argsL := [(.double (FP.dneg x0))]) (rest := []) (rmS2 l Z a0 hw [] c2 (FP.dneg x0) h0 n0 Z0 ((dneg_iff _).mpr ha0) E2 F2) e13 E2 pd_2 rfl (by rw [hml]; rfl) (W := 0) (by show 2 * 0 + _ ≤ _; exact Nat.le_of_eq rfl) (by decide) (by decide) (by decide) (by decide) (hb hby at_49) (Ls := #[.val (.long i0), .second, .val (.int i1), .val (.int i2), .val (.int i3), .val (.int (2 : Int32)), .val (.ref c2), .val (.double x0), .second, .val (.double (FP.dneg x0)), .second, .unset, .unset, .unset, .unset])
      obtain ⟨rfl, rfl, e17⟩ := q17
      have N17 := Fr.app N13 (Fr.nil n0)
      refine Go.step (st17) ?_
      show Go _ _ _ _ _ _ _ T17 (mkF m 52 _ [(.double (FP.dneg x0))])
      refine Go.step (fun tt kk => XS.dstore X17.here hx rfl (hb hby at_52) rfl (l' := #[.val (.long i0), .second, .val (.int i1), .val (.int i2), .val (.int i3), .val (.int (2 : Int32)), .val (.ref c2), .val (.double x0), .second, .val (.double (FP.dneg x0)), .second, .val (.double (FP.dneg x0)), .second, .unset, .unset]) rfl kk) ?_
      show Go _ _ _ _ _ _ _ T17 (mkF m 54 _ [])
      refine Go.step (fun tt kk => XS.iload X17.here hx rfl (hb hby at_54) rfl kk) ?_
      show Go _ _ _ _ _ _ _ T17 (mkF m 56 _ [(.int (2 : Int32))])
      refine Go.step (fun tt kk => XS.iconst X17.here hx rfl (hb hby at_56) kk) ?_
      show Go _ _ _ _ _ _ _ T17 (mkF m 57 _ [(.int (1 : Int32)), (.int (2 : Int32))])
      refine Go.step (fun tt kk => XS.icmpYes X17.here hx rfl (pc0 := 57) (pc' := 68) rfl (hb hby at_57) rfl (feq (by decide)).2 (by decide) (by decide) kk) ?_
      show Go _ _ _ _ _ _ _ T17 (mkF m 68 _ [])
      refine Go.step (fun tt kk => XS.iload X17.here hx rfl (hb hby at_68) rfl kk) ?_
      show Go _ _ _ _ _ _ _ T17 (mkF m 70 _ [(.int (2 : Int32))])
      refine Go.step (fun tt kk => XS.iconst X17.here hx rfl (hb hby at_70) kk) ?_
      show Go _ _ _ _ _ _ _ T17 (mkF m 71 _ [(.int (3 : Int32)), (.int (2 : Int32))])
      refine Go.step (fun tt kk => XS.icmpYes X17.here hx rfl (pc0 := 71) (pc' := 83) rfl (hb hby at_71) rfl (feq (by decide)).2 (by decide) (by decide) kk) ?_
      show Go _ _ _ _ _ _ _ T17 (mkF m 83 _ [])
      refine Go.step (fun tt kk => XS.dload X17.here hx rfl (hb hby at_83) rfl kk) ?_
      show Go _ _ _ _ _ _ _ T17 (mkF m 85 _ [(.double (FP.dneg x0))])
      refine Go.step (fun tt kk => XS.dstore X17.here hx rfl (hb hby at_85) rfl (l' := #[.val (.long i0), .second, .val (.int i1), .val (.int i2), .val (.int i3), .val (.int (2 : Int32)), .val (.ref c2), .val (.double x0), .second, .val (.double (FP.dneg x0)), .second, .val (.double (FP.dneg x0)), .second, .val (.double (FP.dneg x0)), .second]) rfl kk) ?_
      show Go _ _ _ _ _ _ _ T17 (mkF m 87 _ [])
      refine Go.step (fun tt kk => XS.dload X17.here hx rfl (hb hby at_87) rfl kk) ?_
      show Go _ _ _ _ _ _ _ T17 (mkF m 89 _ [(.double (FP.dneg x0))])
      refine Go.step (fun tt kk => XS.dload X17.here hx rfl (hb hby at_89) rfl kk) ?_
      show Go _ _ _ _ _ _ _ T17 (mkF m 91 _ [(.double (FP.dneg x0)), (.double (FP.dneg x0))])
      obtain ⟨v18, T18, L18, X18, q18, st18⟩ := c_static X17 hx hZ hown (y := (⟨"com/example/tallowcast/tallowcast/graph/OperationSinglePinLaw", "same", "(DD)Z"⟩ : MethodName)) (hw _ (List.mem_of_getElem? (i := 22) rfl)) (hw _ (List.mem_of_getElem? (i := 23) rfl)) (hw _ (List.mem_of_getElem? (i := 3) rfl)) (hw _ (List.mem_of_getElem? (i := 24) rfl)) (by decide) (argsL := [(.double (FP.dneg x0)), (.double (FP.dneg x0))]) (rest := []) (rmE l Z a0 hw [] (FP.dneg x0) h0 n0 Z0 ((dneg_iff _).mpr ha0)) e17 pd_3 rfl (by rw [hml]; rfl) (W := 0) (by show 2 * 0 + _ ≤ _; exact Nat.le_of_eq rfl) (by decide) (by decide) (by decide) (by decide) (hb hby at_91) (Ls := #[.val (.long i0), .second, .val (.int i1), .val (.int i2), .val (.int i3), .val (.int (2 : Int32)), .val (.ref c2), .val (.double x0), .second, .val (.double (FP.dneg x0)), .second, .val (.double (FP.dneg x0)), .second, .val (.double (FP.dneg x0)), .second])
      obtain ⟨rfl, rfl, e18⟩ := q18
      have N18 := Fr.app N17 (Fr.nil n0)
      refine Go.step (st18) ?_
      show Go _ _ _ _ _ _ _ T18 (mkF m 94 _ [(.int (1 : Int32))])
      refine go_retN X18 hx (t := .boolean) hret (by simp) hlk (hb hby at_94) (w := (1 : Int32)) rfl ?_ (by decide) (by decide)
      try rw [e18]
      exact ⟨rfl, N18⟩
  · show Go _ _ _ _ _ _ _ T0 (mkF m 10 #[.val (.long i0), .second, .val (.int i1), .val (.int i2), .val (.int i3), .val (.int (3 : Int32)), .unset, .unset, .unset, .unset, .unset, .unset, .unset, .unset, .unset] [])
    refine Go.step (fun tt kk => XS.iload X0.here hx rfl (hb hby at_10) rfl kk) ?_
    show Go _ _ _ _ _ _ _ T0 (mkF m 12 _ [(.int (3 : Int32))])
    obtain ⟨v19, T19, L19, X19, q19, st19⟩ := c_static X0 hx hZ hown (y := (⟨"com/example/tallowcast/tallowcast/graph/OperationSinglePinLaw", "pick", "(I)Lcom/example/tallowcast/tallowcast/graph/Arithmetic$Operation;"⟩ : MethodName)) (hw _ (List.mem_of_getElem? (i := 1) rfl)) (hw _ (List.mem_of_getElem? (i := 2) rfl)) (hw _ (List.mem_of_getElem? (i := 3) rfl)) (hw _ (List.mem_of_getElem? (i := 4) rfl)) (by decide) (argsL := [(.int (3 : Int32))]) (rest := []) (rmP3 l Z a0 hw [] c3 h0 n0 Z0 S3) e0 pd_1 rfl (by rw [hml]; rfl) (W := 0) (by show 2 * 0 + _ ≤ _; exact Nat.le_of_eq rfl) (by decide) (by decide) (by decide) (by decide) (hb hby at_12) (Ls := #[.val (.long i0), .second, .val (.int i1), .val (.int i2), .val (.int i3), .val (.int (3 : Int32)), .unset, .unset, .unset, .unset, .unset, .unset, .unset, .unset, .unset])
    obtain ⟨rfl, rfl, e19⟩ := q19
    have N19 := Fr.app N0 (Fr.nil n0)
    refine Go.step (st19) ?_
    show Go _ _ _ _ _ _ _ T19 (mkF m 15 _ [(.ref c3)])
    refine Go.step (fun tt kk => XS.astore X19.here hx rfl (hb hby at_15) rfl rfl (l' := #[.val (.long i0), .second, .val (.int i1), .val (.int i2), .val (.int i3), .val (.int (3 : Int32)), .val (.ref c3), .unset, .unset, .unset, .unset, .unset, .unset, .unset, .unset]) rfl kk) ?_
    show Go _ _ _ _ _ _ _ T19 (mkF m 17 _ [])
    refine Go.step (fun tt kk => XS.lloadN X19.here hx rfl (hb hby at_17) rfl kk) ?_
    show Go _ _ _ _ _ _ _ T19 (mkF m 18 _ [(.long i0)])
    refine Go.step (fun tt kk => XS.l2dS X19.here hx rfl (hb hby at_18) rfl rfl kk) ?_
    show Go _ _ _ _ _ _ _ T19 (mkF m 19 _ [(.double (FP.l2d i0))])
    refine Go.step (fun tt kk => XS.iloadN X19.here hx rfl (hb hby at_19) rfl kk) ?_
    show Go _ _ _ _ _ _ _ T19 (mkF m 20 _ [(.int i1), (.double (FP.l2d i0))])
    refine Go.step (fun tt kk => XS.bipush X19.here hx rfl (hb hby at_20) kk) ?_
    show Go _ _ _ _ _ _ _ T19 (mkF m 22 _ [(.int (7 : Int32)), (.int i1), (.double (FP.l2d i0))])
    refine Go.step (fun tt kk => XS.iand X19.here hx rfl (hb hby at_22) rfl kk) ?_
    show Go _ _ _ _ _ _ _ T19 (mkF m 23 _ [(.int (i1 &&& (7 : Int32))), (.double (FP.l2d i0))])
    refine Go.step (fun tt kk => XS.iconst X19.here hx rfl (hb hby at_23) kk) ?_
    show Go _ _ _ _ _ _ _ T19 (mkF m 24 _ [(.int (1 : Int32)), (.int (i1 &&& (7 : Int32))), (.double (FP.l2d i0))])
    refine Go.step (fun tt kk => XS.iadd X19.here hx rfl (hb hby at_24) rfl kk) ?_
    show Go _ _ _ _ _ _ _ T19 (mkF m 25 _ [(.int ((i1 &&& (7 : Int32)) + (1 : Int32))), (.double (FP.l2d i0))])
    refine Go.step (fun tt kk => XS.i2dS X19.here hx rfl (hb hby at_25) rfl rfl kk) ?_
    show Go _ _ _ _ _ _ _ T19 (mkF m 26 _ [(.double (FP.i2d ((i1 &&& (7 : Int32)) + (1 : Int32)))), (.double (FP.l2d i0))])
    refine Go.step (fun tt kk => XS.ddivS X19.here hx rfl (hb hby at_26) rfl (own_0 i0 ((i1 &&& (7 : Int32)) + (1 : Int32)) (own_dz i1)) rfl kk) ?_
    show Go _ _ _ _ _ _ _ T19 (mkF m 27 _ [(.double (FP.ddiv (FP.l2d i0) (FP.i2d ((i1 &&& (7 : Int32)) + (1 : Int32)))))])
    refine Go.step (fun tt kk => XS.dstore X19.here hx rfl (hb hby at_27) rfl (l' := #[.val (.long i0), .second, .val (.int i1), .val (.int i2), .val (.int i3), .val (.int (3 : Int32)), .val (.ref c3), .val (.double (FP.ddiv (FP.l2d i0) (FP.i2d ((i1 &&& (7 : Int32)) + (1 : Int32))))), .second, .unset, .unset, .unset, .unset, .unset, .unset]) rfl kk) ?_
    show Go _ _ _ _ _ _ _ T19 (mkF m 29 _ [])
    have ha0 := own_0 i0 ((i1 &&& (7 : Int32)) + (1 : Int32)) (own_dz i1)
    generalize (FP.ddiv (FP.l2d i0) (FP.i2d ((i1 &&& (7 : Int32)) + (1 : Int32)))) = x0 at ha0 ⊢
    show Go _ _ _ _ _ _ _ T19 (mkF m 29 #[.val (.long i0), .second, .val (.int i1), .val (.int i2), .val (.int i3), .val (.int (3 : Int32)), .val (.ref c3), .val (.double x0), .second, .unset, .unset, .unset, .unset, .unset, .unset] [])
    refine Go.step (fun tt kk => XS.iloadN X19.here hx rfl (hb hby at_29) rfl kk) ?_
    show Go _ _ _ _ _ _ _ T19 (mkF m 30 _ [(.int i2)])
    refine Go.step (fun tt kk => XS.iconst X19.here hx rfl (hb hby at_30) kk) ?_
    show Go _ _ _ _ _ _ _ T19 (mkF m 31 _ [(.int (1 : Int32)), (.int i2)])
    refine Go.step (fun tt kk => XS.iand X19.here hx rfl (hb hby at_31) rfl kk) ?_
    show Go _ _ _ _ _ _ _ T19 (mkF m 32 _ [(.int (i2 &&& (1 : Int32)))])
    by_cases c32_20 : (i2 &&& (1 : Int32)) = (0 : Int32)
    · refine Go.step (fun tt kk => XS.ifYes X19.here hx rfl (pc0 := 32) (pc' := 41) rfl (hb hby at_32) rfl ((if0 _ _).trans (teq c32_20).1) (by decide) (by decide) kk) ?_
      show Go _ _ _ _ _ _ _ T19 (mkF m 41 _ [])
      refine Go.step (fun tt kk => XS.dload X19.here hx rfl (hb hby at_41) rfl kk) ?_
      show Go _ _ _ _ _ _ _ T19 (mkF m 43 _ [(.double x0)])
      refine Go.step (fun tt kk => XS.dstore X19.here hx rfl (hb hby at_43) rfl (l' := #[.val (.long i0), .second, .val (.int i1), .val (.int i2), .val (.int i3), .val (.int (3 : Int32)), .val (.ref c3), .val (.double x0), .second, .val (.double x0), .second, .unset, .unset, .unset, .unset]) rfl kk) ?_
      show Go _ _ _ _ _ _ _ T19 (mkF m 45 _ [])
      refine Go.step (fun tt kk => XS.aload X19.here hx rfl (hb hby at_45) rfl rfl kk) ?_
      show Go _ _ _ _ _ _ _ T19 (mkF m 47 _ [(.ref c3)])
      refine Go.step (fun tt kk => XS.dload X19.here hx rfl (hb hby at_47) rfl kk) ?_
      show Go _ _ _ _ _ _ _ T19 (mkF m 49 _ [(.double x0), (.ref c3)])
      obtain ⟨v21, T21, L21, X21, q21, st21⟩ := c_virt X19 hx hZ hown (y' := (⟨"com/example/tallowcast/tallowcast/graph/Arithmetic$Operation", "single", "(D)D"⟩ : MethodName)) (y := (⟨"com/example/tallowcast/tallowcast/graph/Arithmetic$Operation", "single", "(D)D"⟩ : MethodName)) (C := "com/example/tallowcast/tallowcast/graph/Arithmetic$Operation") (hw _ (List.mem_of_getElem? (i := 8) rfl)) (hw _ (List.mem_of_getElem? (i := 9) rfl)) (notFace_of_selects (args := #[]) (mvT hZ (hw _ (List.mem_of_getElem? (i := 11) rfl)))) (hw _ (List.mem_of_getElem? (i := 11) rfl)) (hw _ (List.mem_of_getElem? (i := 10) rfl)) (hw _ (List.mem_of_getElem? (i := 6) rfl)) (hw _ (List.mem_of_getElem? (i := 12) rfl)) (by decide) (a := c3) (argsL := [(.double x0)]) (rest := []) (rmS3 l Z a0 hw [] c3 x0 h0 n0 Z0 ha0 E3 F3) e19 E3 pd_2 rfl (by rw [hml]; rfl) (W := 0) (by show 2 * 0 + _ ≤ _; exact Nat.le_of_eq rfl) (by decide) (by decide) (by decide) (by decide) (hb hby at_49) (Ls := #[.val (.long i0), .second, .val (.int i1), .val (.int i2), .val (.int i3), .val (.int (3 : Int32)), .val (.ref c3), .val (.double x0), .second, .val (.double x0), .second, .unset, .unset, .unset, .unset])
      obtain ⟨rfl, rfl, e21⟩ := q21
      have N21 := Fr.app N19 (Fr.nil n0)
      refine Go.step (st21) ?_
      show Go _ _ _ _ _ _ _ T21 (mkF m 52 _ [(.double (FP.ddiv FP.dconst1 x0))])
      refine Go.step (fun tt kk => XS.dstore X21.here hx rfl (hb hby at_52) rfl (l' := #[.val (.long i0), .second, .val (.int i1), .val (.int i2), .val (.int i3), .val (.int (3 : Int32)), .val (.ref c3), .val (.double x0), .second, .val (.double x0), .second, .val (.double (FP.ddiv FP.dconst1 x0)), .second, .unset, .unset]) rfl kk) ?_
      show Go _ _ _ _ _ _ _ T21 (mkF m 54 _ [])
      refine Go.step (fun tt kk => XS.iload X21.here hx rfl (hb hby at_54) rfl kk) ?_
      show Go _ _ _ _ _ _ _ T21 (mkF m 56 _ [(.int (3 : Int32))])
      refine Go.step (fun tt kk => XS.iconst X21.here hx rfl (hb hby at_56) kk) ?_
      show Go _ _ _ _ _ _ _ T21 (mkF m 57 _ [(.int (1 : Int32)), (.int (3 : Int32))])
      refine Go.step (fun tt kk => XS.icmpYes X21.here hx rfl (pc0 := 57) (pc' := 68) rfl (hb hby at_57) rfl (feq (by decide)).2 (by decide) (by decide) kk) ?_
      show Go _ _ _ _ _ _ _ T21 (mkF m 68 _ [])
      refine Go.step (fun tt kk => XS.iload X21.here hx rfl (hb hby at_68) rfl kk) ?_
      show Go _ _ _ _ _ _ _ T21 (mkF m 70 _ [(.int (3 : Int32))])
      refine Go.step (fun tt kk => XS.iconst X21.here hx rfl (hb hby at_70) kk) ?_
      show Go _ _ _ _ _ _ _ T21 (mkF m 71 _ [(.int (3 : Int32)), (.int (3 : Int32))])
      refine Go.step (fun tt kk => XS.icmpNo X21.here hx rfl (hb hby at_71) rfl (teq (by decide)).2 kk) ?_
      show Go _ _ _ _ _ _ _ T21 (mkF m 74 _ [])
      refine Go.step (fun tt kk => XS.dconst1 X21.here hx rfl (hb hby at_74) rfl kk) ?_
      show Go _ _ _ _ _ _ _ T21 (mkF m 75 _ [(.double FP.dconst1)])
      refine Go.step (fun tt kk => XS.dload X21.here hx rfl (hb hby at_75) rfl kk) ?_
      show Go _ _ _ _ _ _ _ T21 (mkF m 77 _ [(.double x0), (.double FP.dconst1)])
      refine Go.step (fun tt kk => XS.ddivS X21.here hx rfl (hb hby at_77) rfl (own_1 _ ha0) rfl kk) ?_
      show Go _ _ _ _ _ _ _ T21 (mkF m 78 _ [(.double (FP.ddiv FP.dconst1 x0))])
      refine Go.step (fun tt kk => XS.dstore X21.here hx rfl (hb hby at_78) rfl (l' := #[.val (.long i0), .second, .val (.int i1), .val (.int i2), .val (.int i3), .val (.int (3 : Int32)), .val (.ref c3), .val (.double x0), .second, .val (.double x0), .second, .val (.double (FP.ddiv FP.dconst1 x0)), .second, .val (.double (FP.ddiv FP.dconst1 x0)), .second]) rfl kk) ?_
      show Go _ _ _ _ _ _ _ T21 (mkF m 80 _ [])
      refine Go.step (fun tt kk => XS.goto X21.here hx rfl (pc0 := 80) (pc' := 87) rfl (hb hby at_80) (by decide) (by decide) kk) ?_
      show Go _ _ _ _ _ _ _ T21 (mkF m 87 _ [])
      refine Go.step (fun tt kk => XS.dload X21.here hx rfl (hb hby at_87) rfl kk) ?_
      show Go _ _ _ _ _ _ _ T21 (mkF m 89 _ [(.double (FP.ddiv FP.dconst1 x0))])
      refine Go.step (fun tt kk => XS.dload X21.here hx rfl (hb hby at_89) rfl kk) ?_
      show Go _ _ _ _ _ _ _ T21 (mkF m 91 _ [(.double (FP.ddiv FP.dconst1 x0)), (.double (FP.ddiv FP.dconst1 x0))])
      obtain ⟨v22, T22, L22, X22, q22, st22⟩ := c_static X21 hx hZ hown (y := (⟨"com/example/tallowcast/tallowcast/graph/OperationSinglePinLaw", "same", "(DD)Z"⟩ : MethodName)) (hw _ (List.mem_of_getElem? (i := 22) rfl)) (hw _ (List.mem_of_getElem? (i := 23) rfl)) (hw _ (List.mem_of_getElem? (i := 3) rfl)) (hw _ (List.mem_of_getElem? (i := 24) rfl)) (by decide) (argsL := [(.double (FP.ddiv FP.dconst1 x0)), (.double (FP.ddiv FP.dconst1 x0))]) (rest := []) (rmE l Z a0 hw [] (FP.ddiv FP.dconst1 x0) h0 n0 Z0 (own_1 _ ha0)) e21 pd_3 rfl (by rw [hml]; rfl) (W := 0) (by show 2 * 0 + _ ≤ _; exact Nat.le_of_eq rfl) (by decide) (by decide) (by decide) (by decide) (hb hby at_91) (Ls := #[.val (.long i0), .second, .val (.int i1), .val (.int i2), .val (.int i3), .val (.int (3 : Int32)), .val (.ref c3), .val (.double x0), .second, .val (.double x0), .second, .val (.double (FP.ddiv FP.dconst1 x0)), .second, .val (.double (FP.ddiv FP.dconst1 x0)), .second])
      obtain ⟨rfl, rfl, e22⟩ := q22
      have N22 := Fr.app N21 (Fr.nil n0)
      refine Go.step (st22) ?_
      show Go _ _ _ _ _ _ _ T22 (mkF m 94 _ [(.int (1 : Int32))])
      refine go_retN X22 hx (t := .boolean) hret (by simp) hlk (hb hby at_94) (w := (1 : Int32)) rfl ?_ (by decide) (by decide)
      try rw [e22]
      exact ⟨rfl, N22⟩
    · refine Go.step (fun tt kk => XS.ifNo X19.here hx rfl (hb hby at_32) rfl ((if0 _ _).trans (feq c32_20).1) kk) ?_
      show Go _ _ _ _ _ _ _ T19 (mkF m 35 _ [])
      refine Go.step (fun tt kk => XS.dload X19.here hx rfl (hb hby at_35) rfl kk) ?_
      show Go _ _ _ _ _ _ _ T19 (mkF m 37 _ [(.double x0)])
      refine Go.step (fun tt kk => XS.dnegS X19.here hx rfl (hb hby at_37) rfl rfl kk) ?_
      show Go _ _ _ _ _ _ _ T19 (mkF m 38 _ [(.double (FP.dneg x0))])
      refine Go.step (fun tt kk => XS.goto X19.here hx rfl (pc0 := 38) (pc' := 43) rfl (hb hby at_38) (by decide) (by decide) kk) ?_
      show Go _ _ _ _ _ _ _ T19 (mkF m 43 _ [(.double (FP.dneg x0))])
      refine Go.step (fun tt kk => XS.dstore X19.here hx rfl (hb hby at_43) rfl (l' := #[.val (.long i0), .second, .val (.int i1), .val (.int i2), .val (.int i3), .val (.int (3 : Int32)), .val (.ref c3), .val (.double x0), .second, .val (.double (FP.dneg x0)), .second, .unset, .unset, .unset, .unset]) rfl kk) ?_
      show Go _ _ _ _ _ _ _ T19 (mkF m 45 _ [])
      refine Go.step (fun tt kk => XS.aload X19.here hx rfl (hb hby at_45) rfl rfl kk) ?_
      show Go _ _ _ _ _ _ _ T19 (mkF m 47 _ [(.ref c3)])
      refine Go.step (fun tt kk => XS.dload X19.here hx rfl (hb hby at_47) rfl kk) ?_
      show Go _ _ _ _ _ _ _ T19 (mkF m 49 _ [(.double (FP.dneg x0)), (.ref c3)])
      obtain ⟨v23, T23, L23, X23, q23, st23⟩ := c_virt X19 hx hZ hown (y' := (⟨"com/example/tallowcast/tallowcast/graph/Arithmetic$Operation", "single", "(D)D"⟩ : MethodName)) (y := (⟨"com/example/tallowcast/tallowcast/graph/Arithmetic$Operation", "single", "(D)D"⟩ : MethodName)) (C := "com/example/tallowcast/tallowcast/graph/Arithmetic$Operation") (hw _ (List.mem_of_getElem? (i := 8) rfl)) (hw _ (List.mem_of_getElem? (i := 9) rfl)) (notFace_of_selects (args := #[]) (mvT hZ (hw _ (List.mem_of_getElem? (i := 11) rfl)))) (hw _ (List.mem_of_getElem? (i := 11) rfl)) (hw _ (List.mem_of_getElem? (i := 10) rfl)) (hw _ (List.mem_of_getElem? (i := 6) rfl)) (hw _ (List.mem_of_getElem? (i := 12) rfl)) (by decide) (a := c3) (argsL := [(.double (FP.dneg x0))]) (rest := []) (rmS3 l Z a0 hw [] c3 (FP.dneg x0) h0 n0 Z0 ((dneg_iff _).mpr ha0) E3 F3) e19 E3 pd_2 rfl (by rw [hml]; rfl) (W := 0) (by show 2 * 0 + _ ≤ _; exact Nat.le_of_eq rfl) (by decide) (by decide) (by decide) (by decide) (hb hby at_49) (Ls := #[.val (.long i0), .second, .val (.int i1), .val (.int i2), .val (.int i3), .val (.int (3 : Int32)), .val (.ref c3), .val (.double x0), .second, .val (.double (FP.dneg x0)), .second, .unset, .unset, .unset, .unset])
      obtain ⟨rfl, rfl, e23⟩ := q23
      have N23 := Fr.app N19 (Fr.nil n0)
      refine Go.step (st23) ?_
      show Go _ _ _ _ _ _ _ T23 (mkF m 52 _ [(.double (FP.ddiv FP.dconst1 (FP.dneg x0)))])
      refine Go.step (fun tt kk => XS.dstore X23.here hx rfl (hb hby at_52) rfl (l' := #[.val (.long i0), .second, .val (.int i1), .val (.int i2), .val (.int i3), .val (.int (3 : Int32)), .val (.ref c3), .val (.double x0), .second, .val (.double (FP.dneg x0)), .second, .val (.double (FP.ddiv FP.dconst1 (FP.dneg x0))), .second, .unset, .unset]) rfl kk) ?_
      show Go _ _ _ _ _ _ _ T23 (mkF m 54 _ [])
      refine Go.step (fun tt kk => XS.iload X23.here hx rfl (hb hby at_54) rfl kk) ?_
      show Go _ _ _ _ _ _ _ T23 (mkF m 56 _ [(.int (3 : Int32))])
      refine Go.step (fun tt kk => XS.iconst X23.here hx rfl (hb hby at_56) kk) ?_
      show Go _ _ _ _ _ _ _ T23 (mkF m 57 _ [(.int (1 : Int32)), (.int (3 : Int32))])
      refine Go.step (fun tt kk => XS.icmpYes X23.here hx rfl (pc0 := 57) (pc' := 68) rfl (hb hby at_57) rfl (feq (by decide)).2 (by decide) (by decide) kk) ?_
      show Go _ _ _ _ _ _ _ T23 (mkF m 68 _ [])
      refine Go.step (fun tt kk => XS.iload X23.here hx rfl (hb hby at_68) rfl kk) ?_
      show Go _ _ _ _ _ _ _ T23 (mkF m 70 _ [(.int (3 : Int32))])
      refine Go.step (fun tt kk => XS.iconst X23.here hx rfl (hb hby at_70) kk) ?_
      show Go _ _ _ _ _ _ _ T23 (mkF m 71 _ [(.int (3 : Int32)), (.int (3 : Int32))])
      refine Go.step (fun tt kk => XS.icmpNo X23.here hx rfl (hb hby at_71) rfl (teq (by decide)).2 kk) ?_
      show Go _ _ _ _ _ _ _ T23 (mkF m 74 _ [])
      refine Go.step (fun tt kk => XS.dconst1 X23.here hx rfl (hb hby at_74) rfl kk) ?_
      show Go _ _ _ _ _ _ _ T23 (mkF m 75 _ [(.double FP.dconst1)])
      refine Go.step (fun tt kk => XS.dload X23.here hx rfl (hb hby at_75) rfl kk) ?_
      show Go _ _ _ _ _ _ _ T23 (mkF m 77 _ [(.double (FP.dneg x0)), (.double FP.dconst1)])
      refine Go.step (fun tt kk => XS.ddivS X23.here hx rfl (hb hby at_77) rfl (own_1 _ ((dneg_iff _).mpr ha0)) rfl kk) ?_
      show Go _ _ _ _ _ _ _ T23 (mkF m 78 _ [(.double (FP.ddiv FP.dconst1 (FP.dneg x0)))])
      refine Go.step (fun tt kk => XS.dstore X23.here hx rfl (hb hby at_78) rfl (l' := #[.val (.long i0), .second, .val (.int i1), .val (.int i2), .val (.int i3), .val (.int (3 : Int32)), .val (.ref c3), .val (.double x0), .second, .val (.double (FP.dneg x0)), .second, .val (.double (FP.ddiv FP.dconst1 (FP.dneg x0))), .second, .val (.double (FP.ddiv FP.dconst1 (FP.dneg x0))), .second]) rfl kk) ?_
      show Go _ _ _ _ _ _ _ T23 (mkF m 80 _ [])
      refine Go.step (fun tt kk => XS.goto X23.here hx rfl (pc0 := 80) (pc' := 87) rfl (hb hby at_80) (by decide) (by decide) kk) ?_
      show Go _ _ _ _ _ _ _ T23 (mkF m 87 _ [])
      refine Go.step (fun tt kk => XS.dload X23.here hx rfl (hb hby at_87) rfl kk) ?_
      show Go _ _ _ _ _ _ _ T23 (mkF m 89 _ [(.double (FP.ddiv FP.dconst1 (FP.dneg x0)))])
      refine Go.step (fun tt kk => XS.dload X23.here hx rfl (hb hby at_89) rfl kk) ?_
      show Go _ _ _ _ _ _ _ T23 (mkF m 91 _ [(.double (FP.ddiv FP.dconst1 (FP.dneg x0))), (.double (FP.ddiv FP.dconst1 (FP.dneg x0)))])
      obtain ⟨v24, T24, L24, X24, q24, st24⟩ := c_static X23 hx hZ hown (y := (⟨"com/example/tallowcast/tallowcast/graph/OperationSinglePinLaw", "same", "(DD)Z"⟩ : MethodName)) (hw _ (List.mem_of_getElem? (i := 22) rfl)) (hw _ (List.mem_of_getElem? (i := 23) rfl)) (hw _ (List.mem_of_getElem? (i := 3) rfl)) (hw _ (List.mem_of_getElem? (i := 24) rfl)) (by decide) (argsL := [(.double (FP.ddiv FP.dconst1 (FP.dneg x0))), (.double (FP.ddiv FP.dconst1 (FP.dneg x0)))]) (rest := []) (rmE l Z a0 hw [] (FP.ddiv FP.dconst1 (FP.dneg x0)) h0 n0 Z0 (own_1 _ ((dneg_iff _).mpr ha0))) e23 pd_3 rfl (by rw [hml]; rfl) (W := 0) (by show 2 * 0 + _ ≤ _; exact Nat.le_of_eq rfl) (by decide) (by decide) (by decide) (by decide) (hb hby at_91) (Ls := #[.val (.long i0), .second, .val (.int i1), .val (.int i2), .val (.int i3), .val (.int (3 : Int32)), .val (.ref c3), .val (.double x0), .second, .val (.double (FP.dneg x0)), .second, .val (.double (FP.ddiv FP.dconst1 (FP.dneg x0))), .second, .val (.double (FP.ddiv FP.dconst1 (FP.dneg x0))), .second])
      obtain ⟨rfl, rfl, e24⟩ := q24
      have N24 := Fr.app N23 (Fr.nil n0)
      refine Go.step (st24) ?_
      show Go _ _ _ _ _ _ _ T24 (mkF m 94 _ [(.int (1 : Int32))])
      refine go_retN X24 hx (t := .boolean) hret (by simp) hlk (hb hby at_94) (w := (1 : Int32)) rfl ?_ (by decide) (by decide)
      try rw [e24]
      exact ⟨rfl, N24⟩
  · show Go _ _ _ _ _ _ _ T0 (mkF m 10 #[.val (.long i0), .second, .val (.int i1), .val (.int i2), .val (.int i3), .val (.int (4 : Int32)), .unset, .unset, .unset, .unset, .unset, .unset, .unset, .unset, .unset] [])
    refine Go.step (fun tt kk => XS.iload X0.here hx rfl (hb hby at_10) rfl kk) ?_
    show Go _ _ _ _ _ _ _ T0 (mkF m 12 _ [(.int (4 : Int32))])
    obtain ⟨v25, T25, L25, X25, q25, st25⟩ := c_static X0 hx hZ hown (y := (⟨"com/example/tallowcast/tallowcast/graph/OperationSinglePinLaw", "pick", "(I)Lcom/example/tallowcast/tallowcast/graph/Arithmetic$Operation;"⟩ : MethodName)) (hw _ (List.mem_of_getElem? (i := 1) rfl)) (hw _ (List.mem_of_getElem? (i := 2) rfl)) (hw _ (List.mem_of_getElem? (i := 3) rfl)) (hw _ (List.mem_of_getElem? (i := 4) rfl)) (by decide) (argsL := [(.int (4 : Int32))]) (rest := []) (rmP4 l Z a0 hw [] c4 h0 n0 Z0 S4) e0 pd_1 rfl (by rw [hml]; rfl) (W := 0) (by show 2 * 0 + _ ≤ _; exact Nat.le_of_eq rfl) (by decide) (by decide) (by decide) (by decide) (hb hby at_12) (Ls := #[.val (.long i0), .second, .val (.int i1), .val (.int i2), .val (.int i3), .val (.int (4 : Int32)), .unset, .unset, .unset, .unset, .unset, .unset, .unset, .unset, .unset])
    obtain ⟨rfl, rfl, e25⟩ := q25
    have N25 := Fr.app N0 (Fr.nil n0)
    refine Go.step (st25) ?_
    show Go _ _ _ _ _ _ _ T25 (mkF m 15 _ [(.ref c4)])
    refine Go.step (fun tt kk => XS.astore X25.here hx rfl (hb hby at_15) rfl rfl (l' := #[.val (.long i0), .second, .val (.int i1), .val (.int i2), .val (.int i3), .val (.int (4 : Int32)), .val (.ref c4), .unset, .unset, .unset, .unset, .unset, .unset, .unset, .unset]) rfl kk) ?_
    show Go _ _ _ _ _ _ _ T25 (mkF m 17 _ [])
    refine Go.step (fun tt kk => XS.lloadN X25.here hx rfl (hb hby at_17) rfl kk) ?_
    show Go _ _ _ _ _ _ _ T25 (mkF m 18 _ [(.long i0)])
    refine Go.step (fun tt kk => XS.l2dS X25.here hx rfl (hb hby at_18) rfl rfl kk) ?_
    show Go _ _ _ _ _ _ _ T25 (mkF m 19 _ [(.double (FP.l2d i0))])
    refine Go.step (fun tt kk => XS.iloadN X25.here hx rfl (hb hby at_19) rfl kk) ?_
    show Go _ _ _ _ _ _ _ T25 (mkF m 20 _ [(.int i1), (.double (FP.l2d i0))])
    refine Go.step (fun tt kk => XS.bipush X25.here hx rfl (hb hby at_20) kk) ?_
    show Go _ _ _ _ _ _ _ T25 (mkF m 22 _ [(.int (7 : Int32)), (.int i1), (.double (FP.l2d i0))])
    refine Go.step (fun tt kk => XS.iand X25.here hx rfl (hb hby at_22) rfl kk) ?_
    show Go _ _ _ _ _ _ _ T25 (mkF m 23 _ [(.int (i1 &&& (7 : Int32))), (.double (FP.l2d i0))])
    refine Go.step (fun tt kk => XS.iconst X25.here hx rfl (hb hby at_23) kk) ?_
    show Go _ _ _ _ _ _ _ T25 (mkF m 24 _ [(.int (1 : Int32)), (.int (i1 &&& (7 : Int32))), (.double (FP.l2d i0))])
    refine Go.step (fun tt kk => XS.iadd X25.here hx rfl (hb hby at_24) rfl kk) ?_
    show Go _ _ _ _ _ _ _ T25 (mkF m 25 _ [(.int ((i1 &&& (7 : Int32)) + (1 : Int32))), (.double (FP.l2d i0))])
    refine Go.step (fun tt kk => XS.i2dS X25.here hx rfl (hb hby at_25) rfl rfl kk) ?_
    show Go _ _ _ _ _ _ _ T25 (mkF m 26 _ [(.double (FP.i2d ((i1 &&& (7 : Int32)) + (1 : Int32)))), (.double (FP.l2d i0))])
    refine Go.step (fun tt kk => XS.ddivS X25.here hx rfl (hb hby at_26) rfl (own_0 i0 ((i1 &&& (7 : Int32)) + (1 : Int32)) (own_dz i1)) rfl kk) ?_
    show Go _ _ _ _ _ _ _ T25 (mkF m 27 _ [(.double (FP.ddiv (FP.l2d i0) (FP.i2d ((i1 &&& (7 : Int32)) + (1 : Int32)))))])
    refine Go.step (fun tt kk => XS.dstore X25.here hx rfl (hb hby at_27) rfl (l' := #[.val (.long i0), .second, .val (.int i1), .val (.int i2), .val (.int i3), .val (.int (4 : Int32)), .val (.ref c4), .val (.double (FP.ddiv (FP.l2d i0) (FP.i2d ((i1 &&& (7 : Int32)) + (1 : Int32))))), .second, .unset, .unset, .unset, .unset, .unset, .unset]) rfl kk) ?_
    show Go _ _ _ _ _ _ _ T25 (mkF m 29 _ [])
    have ha0 := own_0 i0 ((i1 &&& (7 : Int32)) + (1 : Int32)) (own_dz i1)
    generalize (FP.ddiv (FP.l2d i0) (FP.i2d ((i1 &&& (7 : Int32)) + (1 : Int32)))) = x0 at ha0 ⊢
    show Go _ _ _ _ _ _ _ T25 (mkF m 29 #[.val (.long i0), .second, .val (.int i1), .val (.int i2), .val (.int i3), .val (.int (4 : Int32)), .val (.ref c4), .val (.double x0), .second, .unset, .unset, .unset, .unset, .unset, .unset] [])
    refine Go.step (fun tt kk => XS.iloadN X25.here hx rfl (hb hby at_29) rfl kk) ?_
    show Go _ _ _ _ _ _ _ T25 (mkF m 30 _ [(.int i2)])
    refine Go.step (fun tt kk => XS.iconst X25.here hx rfl (hb hby at_30) kk) ?_
    show Go _ _ _ _ _ _ _ T25 (mkF m 31 _ [(.int (1 : Int32)), (.int i2)])
    refine Go.step (fun tt kk => XS.iand X25.here hx rfl (hb hby at_31) rfl kk) ?_
    show Go _ _ _ _ _ _ _ T25 (mkF m 32 _ [(.int (i2 &&& (1 : Int32)))])
    by_cases c32_26 : (i2 &&& (1 : Int32)) = (0 : Int32)
    · refine Go.step (fun tt kk => XS.ifYes X25.here hx rfl (pc0 := 32) (pc' := 41) rfl (hb hby at_32) rfl ((if0 _ _).trans (teq c32_26).1) (by decide) (by decide) kk) ?_
      show Go _ _ _ _ _ _ _ T25 (mkF m 41 _ [])
      refine Go.step (fun tt kk => XS.dload X25.here hx rfl (hb hby at_41) rfl kk) ?_
      show Go _ _ _ _ _ _ _ T25 (mkF m 43 _ [(.double x0)])
      refine Go.step (fun tt kk => XS.dstore X25.here hx rfl (hb hby at_43) rfl (l' := #[.val (.long i0), .second, .val (.int i1), .val (.int i2), .val (.int i3), .val (.int (4 : Int32)), .val (.ref c4), .val (.double x0), .second, .val (.double x0), .second, .unset, .unset, .unset, .unset]) rfl kk) ?_
      show Go _ _ _ _ _ _ _ T25 (mkF m 45 _ [])
      refine Go.step (fun tt kk => XS.aload X25.here hx rfl (hb hby at_45) rfl rfl kk) ?_
      show Go _ _ _ _ _ _ _ T25 (mkF m 47 _ [(.ref c4)])
      refine Go.step (fun tt kk => XS.dload X25.here hx rfl (hb hby at_47) rfl kk) ?_
      show Go _ _ _ _ _ _ _ T25 (mkF m 49 _ [(.double x0), (.ref c4)])
      obtain ⟨v27, T27, L27, X27, q27, st27⟩ := c_virt X25 hx hZ hown (y' := (⟨"com/example/tallowcast/tallowcast/graph/Arithmetic$Operation", "single", "(D)D"⟩ : MethodName)) (y := (⟨"com/example/tallowcast/tallowcast/graph/Arithmetic$Operation", "single", "(D)D"⟩ : MethodName)) (C := "com/example/tallowcast/tallowcast/graph/Arithmetic$Operation") (hw _ (List.mem_of_getElem? (i := 8) rfl)) (hw _ (List.mem_of_getElem? (i := 9) rfl)) (notFace_of_selects (args := #[]) (mvT hZ (hw _ (List.mem_of_getElem? (i := 11) rfl)))) (hw _ (List.mem_of_getElem? (i := 11) rfl)) (hw _ (List.mem_of_getElem? (i := 10) rfl)) (hw _ (List.mem_of_getElem? (i := 6) rfl)) (hw _ (List.mem_of_getElem? (i := 12) rfl)) (by decide) (a := c4) (argsL := [(.double x0)]) (rest := []) (rmS4 l Z a0 hw [] c4 x0 h0 n0 Z0 ha0 E4 F4) e25 E4 pd_2 rfl (by rw [hml]; rfl) (W := 0) (by show 2 * 0 + _ ≤ _; exact Nat.le_of_eq rfl) (by decide) (by decide) (by decide) (by decide) (hb hby at_49) (Ls := #[.val (.long i0), .second, .val (.int i1), .val (.int i2), .val (.int i3), .val (.int (4 : Int32)), .val (.ref c4), .val (.double x0), .second, .val (.double x0), .second, .unset, .unset, .unset, .unset])
      obtain ⟨rfl, rfl, e27⟩ := q27
      have N27 := Fr.app N25 (Fr.nil n0)
      refine Go.step (st27) ?_
      show Go _ _ _ _ _ _ _ T27 (mkF m 52 _ [(.double x0)])
      refine Go.step (fun tt kk => XS.dstore X27.here hx rfl (hb hby at_52) rfl (l' := #[.val (.long i0), .second, .val (.int i1), .val (.int i2), .val (.int i3), .val (.int (4 : Int32)), .val (.ref c4), .val (.double x0), .second, .val (.double x0), .second, .val (.double x0), .second, .unset, .unset]) rfl kk) ?_
      show Go _ _ _ _ _ _ _ T27 (mkF m 54 _ [])
      refine Go.step (fun tt kk => XS.iload X27.here hx rfl (hb hby at_54) rfl kk) ?_
      show Go _ _ _ _ _ _ _ T27 (mkF m 56 _ [(.int (4 : Int32))])
      refine Go.step (fun tt kk => XS.iconst X27.here hx rfl (hb hby at_56) kk) ?_
      show Go _ _ _ _ _ _ _ T27 (mkF m 57 _ [(.int (1 : Int32)), (.int (4 : Int32))])
      refine Go.step (fun tt kk => XS.icmpYes X27.here hx rfl (pc0 := 57) (pc' := 68) rfl (hb hby at_57) rfl (feq (by decide)).2 (by decide) (by decide) kk) ?_
      show Go _ _ _ _ _ _ _ T27 (mkF m 68 _ [])
      refine Go.step (fun tt kk => XS.iload X27.here hx rfl (hb hby at_68) rfl kk) ?_
      show Go _ _ _ _ _ _ _ T27 (mkF m 70 _ [(.int (4 : Int32))])
      refine Go.step (fun tt kk => XS.iconst X27.here hx rfl (hb hby at_70) kk) ?_
      show Go _ _ _ _ _ _ _ T27 (mkF m 71 _ [(.int (3 : Int32)), (.int (4 : Int32))])
      refine Go.step (fun tt kk => XS.icmpYes X27.here hx rfl (pc0 := 71) (pc' := 83) rfl (hb hby at_71) rfl (feq (by decide)).2 (by decide) (by decide) kk) ?_
      show Go _ _ _ _ _ _ _ T27 (mkF m 83 _ [])
      refine Go.step (fun tt kk => XS.dload X27.here hx rfl (hb hby at_83) rfl kk) ?_
      show Go _ _ _ _ _ _ _ T27 (mkF m 85 _ [(.double x0)])
      refine Go.step (fun tt kk => XS.dstore X27.here hx rfl (hb hby at_85) rfl (l' := #[.val (.long i0), .second, .val (.int i1), .val (.int i2), .val (.int i3), .val (.int (4 : Int32)), .val (.ref c4), .val (.double x0), .second, .val (.double x0), .second, .val (.double x0), .second, .val (.double x0), .second]) rfl kk) ?_
      show Go _ _ _ _ _ _ _ T27 (mkF m 87 _ [])
      refine Go.step (fun tt kk => XS.dload X27.here hx rfl (hb hby at_87) rfl kk) ?_
      show Go _ _ _ _ _ _ _ T27 (mkF m 89 _ [(.double x0)])
      refine Go.step (fun tt kk => XS.dload X27.here hx rfl (hb hby at_89) rfl kk) ?_
      show Go _ _ _ _ _ _ _ T27 (mkF m 91 _ [(.double x0), (.double x0)])
      obtain ⟨v28, T28, L28, X28, q28, st28⟩ := c_static X27 hx hZ hown (y := (⟨"com/example/tallowcast/tallowcast/graph/OperationSinglePinLaw", "same", "(DD)Z"⟩ : MethodName)) (hw _ (List.mem_of_getElem? (i := 22) rfl)) (hw _ (List.mem_of_getElem? (i := 23) rfl)) (hw _ (List.mem_of_getElem? (i := 3) rfl)) (hw _ (List.mem_of_getElem? (i := 24) rfl)) (by decide) (argsL := [(.double x0), (.double x0)]) (rest := []) (rmE l Z a0 hw [] x0 h0 n0 Z0 ha0) e27 pd_3 rfl (by rw [hml]; rfl) (W := 0) (by show 2 * 0 + _ ≤ _; exact Nat.le_of_eq rfl) (by decide) (by decide) (by decide) (by decide) (hb hby at_91) (Ls := #[.val (.long i0), .second, .val (.int i1), .val (.int i2), .val (.int i3), .val (.int (4 : Int32)), .val (.ref c4), .val (.double x0), .second, .val (.double x0), .second, .val (.double x0), .second, .val (.double x0), .second])
      obtain ⟨rfl, rfl, e28⟩ := q28
      have N28 := Fr.app N27 (Fr.nil n0)
      refine Go.step (st28) ?_
      show Go _ _ _ _ _ _ _ T28 (mkF m 94 _ [(.int (1 : Int32))])
      refine go_retN X28 hx (t := .boolean) hret (by simp) hlk (hb hby at_94) (w := (1 : Int32)) rfl ?_ (by decide) (by decide)
      try rw [e28]
      exact ⟨rfl, N28⟩
    · refine Go.step (fun tt kk => XS.ifNo X25.here hx rfl (hb hby at_32) rfl ((if0 _ _).trans (feq c32_26).1) kk) ?_
      show Go _ _ _ _ _ _ _ T25 (mkF m 35 _ [])
      refine Go.step (fun tt kk => XS.dload X25.here hx rfl (hb hby at_35) rfl kk) ?_
      show Go _ _ _ _ _ _ _ T25 (mkF m 37 _ [(.double x0)])
      refine Go.step (fun tt kk => XS.dnegS X25.here hx rfl (hb hby at_37) rfl rfl kk) ?_
      show Go _ _ _ _ _ _ _ T25 (mkF m 38 _ [(.double (FP.dneg x0))])
      refine Go.step (fun tt kk => XS.goto X25.here hx rfl (pc0 := 38) (pc' := 43) rfl (hb hby at_38) (by decide) (by decide) kk) ?_
      show Go _ _ _ _ _ _ _ T25 (mkF m 43 _ [(.double (FP.dneg x0))])
      refine Go.step (fun tt kk => XS.dstore X25.here hx rfl (hb hby at_43) rfl (l' := #[.val (.long i0), .second, .val (.int i1), .val (.int i2), .val (.int i3), .val (.int (4 : Int32)), .val (.ref c4), .val (.double x0), .second, .val (.double (FP.dneg x0)), .second, .unset, .unset, .unset, .unset]) rfl kk) ?_
      show Go _ _ _ _ _ _ _ T25 (mkF m 45 _ [])
      refine Go.step (fun tt kk => XS.aload X25.here hx rfl (hb hby at_45) rfl rfl kk) ?_
      show Go _ _ _ _ _ _ _ T25 (mkF m 47 _ [(.ref c4)])
      refine Go.step (fun tt kk => XS.dload X25.here hx rfl (hb hby at_47) rfl kk) ?_
      show Go _ _ _ _ _ _ _ T25 (mkF m 49 _ [(.double (FP.dneg x0)), (.ref c4)])
      obtain ⟨v29, T29, L29, X29, q29, st29⟩ := c_virt X25 hx hZ hown (y' := (⟨"com/example/tallowcast/tallowcast/graph/Arithmetic$Operation", "single", "(D)D"⟩ : MethodName)) (y := (⟨"com/example/tallowcast/tallowcast/graph/Arithmetic$Operation", "single", "(D)D"⟩ : MethodName)) (C := "com/example/tallowcast/tallowcast/graph/Arithmetic$Operation") (hw _ (List.mem_of_getElem? (i := 8) rfl)) (hw _ (List.mem_of_getElem? (i := 9) rfl)) (notFace_of_selects (args := #[]) (mvT hZ (hw _ (List.mem_of_getElem? (i := 11) rfl)))) (hw _ (List.mem_of_getElem? (i := 11) rfl)) (hw _ (List.mem_of_getElem? (i := 10) rfl)) (hw _ (List.mem_of_getElem? (i := 6) rfl)) (hw _ (List.mem_of_getElem? (i := 12) rfl)) (by decide) (a := c4) (argsL := [(.double (FP.dneg x0))]) (rest := []) (rmS4 l Z a0 hw [] c4 (FP.dneg x0) h0 n0 Z0 ((dneg_iff _).mpr ha0) E4 F4) e25 E4 pd_2 rfl (by rw [hml]; rfl) (W := 0) (by show 2 * 0 + _ ≤ _; exact Nat.le_of_eq rfl) (by decide) (by decide) (by decide) (by decide) (hb hby at_49) (Ls := #[.val (.long i0), .second, .val (.int i1), .val (.int i2), .val (.int i3), .val (.int (4 : Int32)), .val (.ref c4), .val (.double x0), .second, .val (.double (FP.dneg x0)), .second, .unset, .unset, .unset, .unset])
      obtain ⟨rfl, rfl, e29⟩ := q29
      have N29 := Fr.app N25 (Fr.nil n0)
      refine Go.step (st29) ?_
      show Go _ _ _ _ _ _ _ T29 (mkF m 52 _ [(.double (FP.dneg x0))])
      refine Go.step (fun tt kk => XS.dstore X29.here hx rfl (hb hby at_52) rfl (l' := #[.val (.long i0), .second, .val (.int i1), .val (.int i2), .val (.int i3), .val (.int (4 : Int32)), .val (.ref c4), .val (.double x0), .second, .val (.double (FP.dneg x0)), .second, .val (.double (FP.dneg x0)), .second, .unset, .unset]) rfl kk) ?_
      show Go _ _ _ _ _ _ _ T29 (mkF m 54 _ [])
      refine Go.step (fun tt kk => XS.iload X29.here hx rfl (hb hby at_54) rfl kk) ?_
      show Go _ _ _ _ _ _ _ T29 (mkF m 56 _ [(.int (4 : Int32))])
      refine Go.step (fun tt kk => XS.iconst X29.here hx rfl (hb hby at_56) kk) ?_
      show Go _ _ _ _ _ _ _ T29 (mkF m 57 _ [(.int (1 : Int32)), (.int (4 : Int32))])
      refine Go.step (fun tt kk => XS.icmpYes X29.here hx rfl (pc0 := 57) (pc' := 68) rfl (hb hby at_57) rfl (feq (by decide)).2 (by decide) (by decide) kk) ?_
      show Go _ _ _ _ _ _ _ T29 (mkF m 68 _ [])
      refine Go.step (fun tt kk => XS.iload X29.here hx rfl (hb hby at_68) rfl kk) ?_
      show Go _ _ _ _ _ _ _ T29 (mkF m 70 _ [(.int (4 : Int32))])
      refine Go.step (fun tt kk => XS.iconst X29.here hx rfl (hb hby at_70) kk) ?_
      show Go _ _ _ _ _ _ _ T29 (mkF m 71 _ [(.int (3 : Int32)), (.int (4 : Int32))])
      refine Go.step (fun tt kk => XS.icmpYes X29.here hx rfl (pc0 := 71) (pc' := 83) rfl (hb hby at_71) rfl (feq (by decide)).2 (by decide) (by decide) kk) ?_
      show Go _ _ _ _ _ _ _ T29 (mkF m 83 _ [])
      refine Go.step (fun tt kk => XS.dload X29.here hx rfl (hb hby at_83) rfl kk) ?_
      show Go _ _ _ _ _ _ _ T29 (mkF m 85 _ [(.double (FP.dneg x0))])
      refine Go.step (fun tt kk => XS.dstore X29.here hx rfl (hb hby at_85) rfl (l' := #[.val (.long i0), .second, .val (.int i1), .val (.int i2), .val (.int i3), .val (.int (4 : Int32)), .val (.ref c4), .val (.double x0), .second, .val (.double (FP.dneg x0)), .second, .val (.double (FP.dneg x0)), .second, .val (.double (FP.dneg x0)), .second]) rfl kk) ?_
      show Go _ _ _ _ _ _ _ T29 (mkF m 87 _ [])
      refine Go.step (fun tt kk => XS.dload X29.here hx rfl (hb hby at_87) rfl kk) ?_
      show Go _ _ _ _ _ _ _ T29 (mkF m 89 _ [(.double (FP.dneg x0))])
      refine Go.step (fun tt kk => XS.dload X29.here hx rfl (hb hby at_89) rfl kk) ?_
      show Go _ _ _ _ _ _ _ T29 (mkF m 91 _ [(.double (FP.dneg x0)), (.double (FP.dneg x0))])
      obtain ⟨v30, T30, L30, X30, q30, st30⟩ := c_static X29 hx hZ hown (y := (⟨"com/example/tallowcast/tallowcast/graph/OperationSinglePinLaw", "same", "(DD)Z"⟩ : MethodName)) (hw _ (List.mem_of_getElem? (i := 22) rfl)) (hw _ (List.mem_of_getElem? (i := 23) rfl)) (hw _ (List.mem_of_getElem? (i := 3) rfl)) (hw _ (List.mem_of_getElem? (i := 24) rfl)) (by decide) (argsL := [(.double (FP.dneg x0)), (.double (FP.dneg x0))]) (rest := []) (rmE l Z a0 hw [] (FP.dneg x0) h0 n0 Z0 ((dneg_iff _).mpr ha0)) e29 pd_3 rfl (by rw [hml]; rfl) (W := 0) (by show 2 * 0 + _ ≤ _; exact Nat.le_of_eq rfl) (by decide) (by decide) (by decide) (by decide) (hb hby at_91) (Ls := #[.val (.long i0), .second, .val (.int i1), .val (.int i2), .val (.int i3), .val (.int (4 : Int32)), .val (.ref c4), .val (.double x0), .second, .val (.double (FP.dneg x0)), .second, .val (.double (FP.dneg x0)), .second, .val (.double (FP.dneg x0)), .second])
      obtain ⟨rfl, rfl, e30⟩ := q30
      have N30 := Fr.app N29 (Fr.nil n0)
      refine Go.step (st30) ?_
      show Go _ _ _ _ _ _ _ T30 (mkF m 94 _ [(.int (1 : Int32))])
      refine go_retN X30 hx (t := .boolean) hret (by simp) hlk (hb hby at_94) (w := (1 : Int32)) rfl ?_ (by decide) (by decide)
      try rw [e30]
      exact ⟨rfl, N30⟩
  · show Go _ _ _ _ _ _ _ T0 (mkF m 10 #[.val (.long i0), .second, .val (.int i1), .val (.int i2), .val (.int i3), .val (.int (5 : Int32)), .unset, .unset, .unset, .unset, .unset, .unset, .unset, .unset, .unset] [])
    refine Go.step (fun tt kk => XS.iload X0.here hx rfl (hb hby at_10) rfl kk) ?_
    show Go _ _ _ _ _ _ _ T0 (mkF m 12 _ [(.int (5 : Int32))])
    obtain ⟨v31, T31, L31, X31, q31, st31⟩ := c_static X0 hx hZ hown (y := (⟨"com/example/tallowcast/tallowcast/graph/OperationSinglePinLaw", "pick", "(I)Lcom/example/tallowcast/tallowcast/graph/Arithmetic$Operation;"⟩ : MethodName)) (hw _ (List.mem_of_getElem? (i := 1) rfl)) (hw _ (List.mem_of_getElem? (i := 2) rfl)) (hw _ (List.mem_of_getElem? (i := 3) rfl)) (hw _ (List.mem_of_getElem? (i := 4) rfl)) (by decide) (argsL := [(.int (5 : Int32))]) (rest := []) (rmP5 l Z a0 hw [] c5 h0 n0 Z0 S5) e0 pd_1 rfl (by rw [hml]; rfl) (W := 0) (by show 2 * 0 + _ ≤ _; exact Nat.le_of_eq rfl) (by decide) (by decide) (by decide) (by decide) (hb hby at_12) (Ls := #[.val (.long i0), .second, .val (.int i1), .val (.int i2), .val (.int i3), .val (.int (5 : Int32)), .unset, .unset, .unset, .unset, .unset, .unset, .unset, .unset, .unset])
    obtain ⟨rfl, rfl, e31⟩ := q31
    have N31 := Fr.app N0 (Fr.nil n0)
    refine Go.step (st31) ?_
    show Go _ _ _ _ _ _ _ T31 (mkF m 15 _ [(.ref c5)])
    refine Go.step (fun tt kk => XS.astore X31.here hx rfl (hb hby at_15) rfl rfl (l' := #[.val (.long i0), .second, .val (.int i1), .val (.int i2), .val (.int i3), .val (.int (5 : Int32)), .val (.ref c5), .unset, .unset, .unset, .unset, .unset, .unset, .unset, .unset]) rfl kk) ?_
    show Go _ _ _ _ _ _ _ T31 (mkF m 17 _ [])
    refine Go.step (fun tt kk => XS.lloadN X31.here hx rfl (hb hby at_17) rfl kk) ?_
    show Go _ _ _ _ _ _ _ T31 (mkF m 18 _ [(.long i0)])
    refine Go.step (fun tt kk => XS.l2dS X31.here hx rfl (hb hby at_18) rfl rfl kk) ?_
    show Go _ _ _ _ _ _ _ T31 (mkF m 19 _ [(.double (FP.l2d i0))])
    refine Go.step (fun tt kk => XS.iloadN X31.here hx rfl (hb hby at_19) rfl kk) ?_
    show Go _ _ _ _ _ _ _ T31 (mkF m 20 _ [(.int i1), (.double (FP.l2d i0))])
    refine Go.step (fun tt kk => XS.bipush X31.here hx rfl (hb hby at_20) kk) ?_
    show Go _ _ _ _ _ _ _ T31 (mkF m 22 _ [(.int (7 : Int32)), (.int i1), (.double (FP.l2d i0))])
    refine Go.step (fun tt kk => XS.iand X31.here hx rfl (hb hby at_22) rfl kk) ?_
    show Go _ _ _ _ _ _ _ T31 (mkF m 23 _ [(.int (i1 &&& (7 : Int32))), (.double (FP.l2d i0))])
    refine Go.step (fun tt kk => XS.iconst X31.here hx rfl (hb hby at_23) kk) ?_
    show Go _ _ _ _ _ _ _ T31 (mkF m 24 _ [(.int (1 : Int32)), (.int (i1 &&& (7 : Int32))), (.double (FP.l2d i0))])
    refine Go.step (fun tt kk => XS.iadd X31.here hx rfl (hb hby at_24) rfl kk) ?_
    show Go _ _ _ _ _ _ _ T31 (mkF m 25 _ [(.int ((i1 &&& (7 : Int32)) + (1 : Int32))), (.double (FP.l2d i0))])
    refine Go.step (fun tt kk => XS.i2dS X31.here hx rfl (hb hby at_25) rfl rfl kk) ?_
    show Go _ _ _ _ _ _ _ T31 (mkF m 26 _ [(.double (FP.i2d ((i1 &&& (7 : Int32)) + (1 : Int32)))), (.double (FP.l2d i0))])
    refine Go.step (fun tt kk => XS.ddivS X31.here hx rfl (hb hby at_26) rfl (own_0 i0 ((i1 &&& (7 : Int32)) + (1 : Int32)) (own_dz i1)) rfl kk) ?_
    show Go _ _ _ _ _ _ _ T31 (mkF m 27 _ [(.double (FP.ddiv (FP.l2d i0) (FP.i2d ((i1 &&& (7 : Int32)) + (1 : Int32)))))])
    refine Go.step (fun tt kk => XS.dstore X31.here hx rfl (hb hby at_27) rfl (l' := #[.val (.long i0), .second, .val (.int i1), .val (.int i2), .val (.int i3), .val (.int (5 : Int32)), .val (.ref c5), .val (.double (FP.ddiv (FP.l2d i0) (FP.i2d ((i1 &&& (7 : Int32)) + (1 : Int32))))), .second, .unset, .unset, .unset, .unset, .unset, .unset]) rfl kk) ?_
    show Go _ _ _ _ _ _ _ T31 (mkF m 29 _ [])
    have ha0 := own_0 i0 ((i1 &&& (7 : Int32)) + (1 : Int32)) (own_dz i1)
    generalize (FP.ddiv (FP.l2d i0) (FP.i2d ((i1 &&& (7 : Int32)) + (1 : Int32)))) = x0 at ha0 ⊢
    show Go _ _ _ _ _ _ _ T31 (mkF m 29 #[.val (.long i0), .second, .val (.int i1), .val (.int i2), .val (.int i3), .val (.int (5 : Int32)), .val (.ref c5), .val (.double x0), .second, .unset, .unset, .unset, .unset, .unset, .unset] [])
    refine Go.step (fun tt kk => XS.iloadN X31.here hx rfl (hb hby at_29) rfl kk) ?_
    show Go _ _ _ _ _ _ _ T31 (mkF m 30 _ [(.int i2)])
    refine Go.step (fun tt kk => XS.iconst X31.here hx rfl (hb hby at_30) kk) ?_
    show Go _ _ _ _ _ _ _ T31 (mkF m 31 _ [(.int (1 : Int32)), (.int i2)])
    refine Go.step (fun tt kk => XS.iand X31.here hx rfl (hb hby at_31) rfl kk) ?_
    show Go _ _ _ _ _ _ _ T31 (mkF m 32 _ [(.int (i2 &&& (1 : Int32)))])
    by_cases c32_32 : (i2 &&& (1 : Int32)) = (0 : Int32)
    · refine Go.step (fun tt kk => XS.ifYes X31.here hx rfl (pc0 := 32) (pc' := 41) rfl (hb hby at_32) rfl ((if0 _ _).trans (teq c32_32).1) (by decide) (by decide) kk) ?_
      show Go _ _ _ _ _ _ _ T31 (mkF m 41 _ [])
      refine Go.step (fun tt kk => XS.dload X31.here hx rfl (hb hby at_41) rfl kk) ?_
      show Go _ _ _ _ _ _ _ T31 (mkF m 43 _ [(.double x0)])
      refine Go.step (fun tt kk => XS.dstore X31.here hx rfl (hb hby at_43) rfl (l' := #[.val (.long i0), .second, .val (.int i1), .val (.int i2), .val (.int i3), .val (.int (5 : Int32)), .val (.ref c5), .val (.double x0), .second, .val (.double x0), .second, .unset, .unset, .unset, .unset]) rfl kk) ?_
      show Go _ _ _ _ _ _ _ T31 (mkF m 45 _ [])
      refine Go.step (fun tt kk => XS.aload X31.here hx rfl (hb hby at_45) rfl rfl kk) ?_
      show Go _ _ _ _ _ _ _ T31 (mkF m 47 _ [(.ref c5)])
      refine Go.step (fun tt kk => XS.dload X31.here hx rfl (hb hby at_47) rfl kk) ?_
      show Go _ _ _ _ _ _ _ T31 (mkF m 49 _ [(.double x0), (.ref c5)])
      obtain ⟨v33, T33, L33, X33, q33, st33⟩ := c_virt X31 hx hZ hown (y' := (⟨"com/example/tallowcast/tallowcast/graph/Arithmetic$Operation", "single", "(D)D"⟩ : MethodName)) (y := (⟨"com/example/tallowcast/tallowcast/graph/Arithmetic$Operation", "single", "(D)D"⟩ : MethodName)) (C := "com/example/tallowcast/tallowcast/graph/Arithmetic$Operation") (hw _ (List.mem_of_getElem? (i := 8) rfl)) (hw _ (List.mem_of_getElem? (i := 9) rfl)) (notFace_of_selects (args := #[]) (mvT hZ (hw _ (List.mem_of_getElem? (i := 11) rfl)))) (hw _ (List.mem_of_getElem? (i := 11) rfl)) (hw _ (List.mem_of_getElem? (i := 10) rfl)) (hw _ (List.mem_of_getElem? (i := 6) rfl)) (hw _ (List.mem_of_getElem? (i := 12) rfl)) (by decide) (a := c5) (argsL := [(.double x0)]) (rest := []) (rmS5 l Z a0 hw [] c5 x0 h0 n0 Z0 ha0 E5 F5) e31 E5 pd_2 rfl (by rw [hml]; rfl) (W := 0) (by show 2 * 0 + _ ≤ _; exact Nat.le_of_eq rfl) (by decide) (by decide) (by decide) (by decide) (hb hby at_49) (Ls := #[.val (.long i0), .second, .val (.int i1), .val (.int i2), .val (.int i3), .val (.int (5 : Int32)), .val (.ref c5), .val (.double x0), .second, .val (.double x0), .second, .unset, .unset, .unset, .unset])
      obtain ⟨rfl, rfl, e33⟩ := q33
      have N33 := Fr.app N31 (Fr.nil n0)
      refine Go.step (st33) ?_
      show Go _ _ _ _ _ _ _ T33 (mkF m 52 _ [(.double x0)])
      refine Go.step (fun tt kk => XS.dstore X33.here hx rfl (hb hby at_52) rfl (l' := #[.val (.long i0), .second, .val (.int i1), .val (.int i2), .val (.int i3), .val (.int (5 : Int32)), .val (.ref c5), .val (.double x0), .second, .val (.double x0), .second, .val (.double x0), .second, .unset, .unset]) rfl kk) ?_
      show Go _ _ _ _ _ _ _ T33 (mkF m 54 _ [])
      refine Go.step (fun tt kk => XS.iload X33.here hx rfl (hb hby at_54) rfl kk) ?_
      show Go _ _ _ _ _ _ _ T33 (mkF m 56 _ [(.int (5 : Int32))])
      refine Go.step (fun tt kk => XS.iconst X33.here hx rfl (hb hby at_56) kk) ?_
      show Go _ _ _ _ _ _ _ T33 (mkF m 57 _ [(.int (1 : Int32)), (.int (5 : Int32))])
      refine Go.step (fun tt kk => XS.icmpYes X33.here hx rfl (pc0 := 57) (pc' := 68) rfl (hb hby at_57) rfl (feq (by decide)).2 (by decide) (by decide) kk) ?_
      show Go _ _ _ _ _ _ _ T33 (mkF m 68 _ [])
      refine Go.step (fun tt kk => XS.iload X33.here hx rfl (hb hby at_68) rfl kk) ?_
      show Go _ _ _ _ _ _ _ T33 (mkF m 70 _ [(.int (5 : Int32))])
      refine Go.step (fun tt kk => XS.iconst X33.here hx rfl (hb hby at_70) kk) ?_
      show Go _ _ _ _ _ _ _ T33 (mkF m 71 _ [(.int (3 : Int32)), (.int (5 : Int32))])
      refine Go.step (fun tt kk => XS.icmpYes X33.here hx rfl (pc0 := 71) (pc' := 83) rfl (hb hby at_71) rfl (feq (by decide)).2 (by decide) (by decide) kk) ?_
      show Go _ _ _ _ _ _ _ T33 (mkF m 83 _ [])
      refine Go.step (fun tt kk => XS.dload X33.here hx rfl (hb hby at_83) rfl kk) ?_
      show Go _ _ _ _ _ _ _ T33 (mkF m 85 _ [(.double x0)])
      refine Go.step (fun tt kk => XS.dstore X33.here hx rfl (hb hby at_85) rfl (l' := #[.val (.long i0), .second, .val (.int i1), .val (.int i2), .val (.int i3), .val (.int (5 : Int32)), .val (.ref c5), .val (.double x0), .second, .val (.double x0), .second, .val (.double x0), .second, .val (.double x0), .second]) rfl kk) ?_
      show Go _ _ _ _ _ _ _ T33 (mkF m 87 _ [])
      refine Go.step (fun tt kk => XS.dload X33.here hx rfl (hb hby at_87) rfl kk) ?_
      show Go _ _ _ _ _ _ _ T33 (mkF m 89 _ [(.double x0)])
      refine Go.step (fun tt kk => XS.dload X33.here hx rfl (hb hby at_89) rfl kk) ?_
      show Go _ _ _ _ _ _ _ T33 (mkF m 91 _ [(.double x0), (.double x0)])
      obtain ⟨v34, T34, L34, X34, q34, st34⟩ := c_static X33 hx hZ hown (y := (⟨"com/example/tallowcast/tallowcast/graph/OperationSinglePinLaw", "same", "(DD)Z"⟩ : MethodName)) (hw _ (List.mem_of_getElem? (i := 22) rfl)) (hw _ (List.mem_of_getElem? (i := 23) rfl)) (hw _ (List.mem_of_getElem? (i := 3) rfl)) (hw _ (List.mem_of_getElem? (i := 24) rfl)) (by decide) (argsL := [(.double x0), (.double x0)]) (rest := []) (rmE l Z a0 hw [] x0 h0 n0 Z0 ha0) e33 pd_3 rfl (by rw [hml]; rfl) (W := 0) (by show 2 * 0 + _ ≤ _; exact Nat.le_of_eq rfl) (by decide) (by decide) (by decide) (by decide) (hb hby at_91) (Ls := #[.val (.long i0), .second, .val (.int i1), .val (.int i2), .val (.int i3), .val (.int (5 : Int32)), .val (.ref c5), .val (.double x0), .second, .val (.double x0), .second, .val (.double x0), .second, .val (.double x0), .second])
      obtain ⟨rfl, rfl, e34⟩ := q34
      have N34 := Fr.app N33 (Fr.nil n0)
      refine Go.step (st34) ?_
      show Go _ _ _ _ _ _ _ T34 (mkF m 94 _ [(.int (1 : Int32))])
      refine go_retN X34 hx (t := .boolean) hret (by simp) hlk (hb hby at_94) (w := (1 : Int32)) rfl ?_ (by decide) (by decide)
      try rw [e34]
      exact ⟨rfl, N34⟩
    · refine Go.step (fun tt kk => XS.ifNo X31.here hx rfl (hb hby at_32) rfl ((if0 _ _).trans (feq c32_32).1) kk) ?_
      show Go _ _ _ _ _ _ _ T31 (mkF m 35 _ [])
      refine Go.step (fun tt kk => XS.dload X31.here hx rfl (hb hby at_35) rfl kk) ?_
      show Go _ _ _ _ _ _ _ T31 (mkF m 37 _ [(.double x0)])
      refine Go.step (fun tt kk => XS.dnegS X31.here hx rfl (hb hby at_37) rfl rfl kk) ?_
      show Go _ _ _ _ _ _ _ T31 (mkF m 38 _ [(.double (FP.dneg x0))])
      refine Go.step (fun tt kk => XS.goto X31.here hx rfl (pc0 := 38) (pc' := 43) rfl (hb hby at_38) (by decide) (by decide) kk) ?_
      show Go _ _ _ _ _ _ _ T31 (mkF m 43 _ [(.double (FP.dneg x0))])
      refine Go.step (fun tt kk => XS.dstore X31.here hx rfl (hb hby at_43) rfl (l' := #[.val (.long i0), .second, .val (.int i1), .val (.int i2), .val (.int i3), .val (.int (5 : Int32)), .val (.ref c5), .val (.double x0), .second, .val (.double (FP.dneg x0)), .second, .unset, .unset, .unset, .unset]) rfl kk) ?_
      show Go _ _ _ _ _ _ _ T31 (mkF m 45 _ [])
      refine Go.step (fun tt kk => XS.aload X31.here hx rfl (hb hby at_45) rfl rfl kk) ?_
      show Go _ _ _ _ _ _ _ T31 (mkF m 47 _ [(.ref c5)])
      refine Go.step (fun tt kk => XS.dload X31.here hx rfl (hb hby at_47) rfl kk) ?_
      show Go _ _ _ _ _ _ _ T31 (mkF m 49 _ [(.double (FP.dneg x0)), (.ref c5)])
      obtain ⟨v35, T35, L35, X35, q35, st35⟩ := c_virt X31 hx hZ hown (y' := (⟨"com/example/tallowcast/tallowcast/graph/Arithmetic$Operation", "single", "(D)D"⟩ : MethodName)) (y := (⟨"com/example/tallowcast/tallowcast/graph/Arithmetic$Operation", "single", "(D)D"⟩ : MethodName)) (C := "com/example/tallowcast/tallowcast/graph/Arithmetic$Operation") (hw _ (List.mem_of_getElem? (i := 8) rfl)) (hw _ (List.mem_of_getElem? (i := 9) rfl)) (notFace_of_selects (args := #[]) (mvT hZ (hw _ (List.mem_of_getElem? (i := 11) rfl)))) (hw _ (List.mem_of_getElem? (i := 11) rfl)) (hw _ (List.mem_of_getElem? (i := 10) rfl)) (hw _ (List.mem_of_getElem? (i := 6) rfl)) (hw _ (List.mem_of_getElem? (i := 12) rfl)) (by decide) (a := c5) (argsL := [(.double (FP.dneg x0))]) (rest := []) (rmS5 l Z a0 hw [] c5 (FP.dneg x0) h0 n0 Z0 ((dneg_iff _).mpr ha0) E5 F5) e31 E5 pd_2 rfl (by rw [hml]; rfl) (W := 0) (by show 2 * 0 + _ ≤ _; exact Nat.le_of_eq rfl) (by decide) (by decide) (by decide) (by decide) (hb hby at_49) (Ls := #[.val (.long i0), .second, .val (.int i1), .val (.int i2), .val (.int i3), .val (.int (5 : Int32)), .val (.ref c5), .val (.double x0), .second, .val (.double (FP.dneg x0)), .second, .unset, .unset, .unset, .unset])
      obtain ⟨rfl, rfl, e35⟩ := q35
      have N35 := Fr.app N31 (Fr.nil n0)
      refine Go.step (st35) ?_
      show Go _ _ _ _ _ _ _ T35 (mkF m 52 _ [(.double (FP.dneg x0))])
      refine Go.step (fun tt kk => XS.dstore X35.here hx rfl (hb hby at_52) rfl (l' := #[.val (.long i0), .second, .val (.int i1), .val (.int i2), .val (.int i3), .val (.int (5 : Int32)), .val (.ref c5), .val (.double x0), .second, .val (.double (FP.dneg x0)), .second, .val (.double (FP.dneg x0)), .second, .unset, .unset]) rfl kk) ?_
      show Go _ _ _ _ _ _ _ T35 (mkF m 54 _ [])
      refine Go.step (fun tt kk => XS.iload X35.here hx rfl (hb hby at_54) rfl kk) ?_
      show Go _ _ _ _ _ _ _ T35 (mkF m 56 _ [(.int (5 : Int32))])
      refine Go.step (fun tt kk => XS.iconst X35.here hx rfl (hb hby at_56) kk) ?_
      show Go _ _ _ _ _ _ _ T35 (mkF m 57 _ [(.int (1 : Int32)), (.int (5 : Int32))])
      refine Go.step (fun tt kk => XS.icmpYes X35.here hx rfl (pc0 := 57) (pc' := 68) rfl (hb hby at_57) rfl (feq (by decide)).2 (by decide) (by decide) kk) ?_
      show Go _ _ _ _ _ _ _ T35 (mkF m 68 _ [])
      refine Go.step (fun tt kk => XS.iload X35.here hx rfl (hb hby at_68) rfl kk) ?_
      show Go _ _ _ _ _ _ _ T35 (mkF m 70 _ [(.int (5 : Int32))])
      refine Go.step (fun tt kk => XS.iconst X35.here hx rfl (hb hby at_70) kk) ?_
      show Go _ _ _ _ _ _ _ T35 (mkF m 71 _ [(.int (3 : Int32)), (.int (5 : Int32))])
      refine Go.step (fun tt kk => XS.icmpYes X35.here hx rfl (pc0 := 71) (pc' := 83) rfl (hb hby at_71) rfl (feq (by decide)).2 (by decide) (by decide) kk) ?_
      show Go _ _ _ _ _ _ _ T35 (mkF m 83 _ [])
      refine Go.step (fun tt kk => XS.dload X35.here hx rfl (hb hby at_83) rfl kk) ?_
      show Go _ _ _ _ _ _ _ T35 (mkF m 85 _ [(.double (FP.dneg x0))])
      refine Go.step (fun tt kk => XS.dstore X35.here hx rfl (hb hby at_85) rfl (l' := #[.val (.long i0), .second, .val (.int i1), .val (.int i2), .val (.int i3), .val (.int (5 : Int32)), .val (.ref c5), .val (.double x0), .second, .val (.double (FP.dneg x0)), .second, .val (.double (FP.dneg x0)), .second, .val (.double (FP.dneg x0)), .second]) rfl kk) ?_
      show Go _ _ _ _ _ _ _ T35 (mkF m 87 _ [])
      refine Go.step (fun tt kk => XS.dload X35.here hx rfl (hb hby at_87) rfl kk) ?_
      show Go _ _ _ _ _ _ _ T35 (mkF m 89 _ [(.double (FP.dneg x0))])
      refine Go.step (fun tt kk => XS.dload X35.here hx rfl (hb hby at_89) rfl kk) ?_
      show Go _ _ _ _ _ _ _ T35 (mkF m 91 _ [(.double (FP.dneg x0)), (.double (FP.dneg x0))])
      obtain ⟨v36, T36, L36, X36, q36, st36⟩ := c_static X35 hx hZ hown (y := (⟨"com/example/tallowcast/tallowcast/graph/OperationSinglePinLaw", "same", "(DD)Z"⟩ : MethodName)) (hw _ (List.mem_of_getElem? (i := 22) rfl)) (hw _ (List.mem_of_getElem? (i := 23) rfl)) (hw _ (List.mem_of_getElem? (i := 3) rfl)) (hw _ (List.mem_of_getElem? (i := 24) rfl)) (by decide) (argsL := [(.double (FP.dneg x0)), (.double (FP.dneg x0))]) (rest := []) (rmE l Z a0 hw [] (FP.dneg x0) h0 n0 Z0 ((dneg_iff _).mpr ha0)) e35 pd_3 rfl (by rw [hml]; rfl) (W := 0) (by show 2 * 0 + _ ≤ _; exact Nat.le_of_eq rfl) (by decide) (by decide) (by decide) (by decide) (hb hby at_91) (Ls := #[.val (.long i0), .second, .val (.int i1), .val (.int i2), .val (.int i3), .val (.int (5 : Int32)), .val (.ref c5), .val (.double x0), .second, .val (.double (FP.dneg x0)), .second, .val (.double (FP.dneg x0)), .second, .val (.double (FP.dneg x0)), .second])
      obtain ⟨rfl, rfl, e36⟩ := q36
      have N36 := Fr.app N35 (Fr.nil n0)
      refine Go.step (st36) ?_
      show Go _ _ _ _ _ _ _ T36 (mkF m 94 _ [(.int (1 : Int32))])
      refine go_retN X36 hx (t := .boolean) hret (by simp) hlk (hb hby at_94) (w := (1 : Int32)) rfl ?_ (by decide) (by decide)
      try rw [e36]
      exact ⟨rfl, N36⟩
  · show Go _ _ _ _ _ _ _ T0 (mkF m 10 #[.val (.long i0), .second, .val (.int i1), .val (.int i2), .val (.int i3), .val (.int (6 : Int32)), .unset, .unset, .unset, .unset, .unset, .unset, .unset, .unset, .unset] [])
    refine Go.step (fun tt kk => XS.iload X0.here hx rfl (hb hby at_10) rfl kk) ?_
    show Go _ _ _ _ _ _ _ T0 (mkF m 12 _ [(.int (6 : Int32))])
    obtain ⟨v37, T37, L37, X37, q37, st37⟩ := c_static X0 hx hZ hown (y := (⟨"com/example/tallowcast/tallowcast/graph/OperationSinglePinLaw", "pick", "(I)Lcom/example/tallowcast/tallowcast/graph/Arithmetic$Operation;"⟩ : MethodName)) (hw _ (List.mem_of_getElem? (i := 1) rfl)) (hw _ (List.mem_of_getElem? (i := 2) rfl)) (hw _ (List.mem_of_getElem? (i := 3) rfl)) (hw _ (List.mem_of_getElem? (i := 4) rfl)) (by decide) (argsL := [(.int (6 : Int32))]) (rest := []) (rmP6 l Z a0 hw [] c6 h0 n0 Z0 S6) e0 pd_1 rfl (by rw [hml]; rfl) (W := 0) (by show 2 * 0 + _ ≤ _; exact Nat.le_of_eq rfl) (by decide) (by decide) (by decide) (by decide) (hb hby at_12) (Ls := #[.val (.long i0), .second, .val (.int i1), .val (.int i2), .val (.int i3), .val (.int (6 : Int32)), .unset, .unset, .unset, .unset, .unset, .unset, .unset, .unset, .unset])
    obtain ⟨rfl, rfl, e37⟩ := q37
    have N37 := Fr.app N0 (Fr.nil n0)
    refine Go.step (st37) ?_
    show Go _ _ _ _ _ _ _ T37 (mkF m 15 _ [(.ref c6)])
    refine Go.step (fun tt kk => XS.astore X37.here hx rfl (hb hby at_15) rfl rfl (l' := #[.val (.long i0), .second, .val (.int i1), .val (.int i2), .val (.int i3), .val (.int (6 : Int32)), .val (.ref c6), .unset, .unset, .unset, .unset, .unset, .unset, .unset, .unset]) rfl kk) ?_
    show Go _ _ _ _ _ _ _ T37 (mkF m 17 _ [])
    refine Go.step (fun tt kk => XS.lloadN X37.here hx rfl (hb hby at_17) rfl kk) ?_
    show Go _ _ _ _ _ _ _ T37 (mkF m 18 _ [(.long i0)])
    refine Go.step (fun tt kk => XS.l2dS X37.here hx rfl (hb hby at_18) rfl rfl kk) ?_
    show Go _ _ _ _ _ _ _ T37 (mkF m 19 _ [(.double (FP.l2d i0))])
    refine Go.step (fun tt kk => XS.iloadN X37.here hx rfl (hb hby at_19) rfl kk) ?_
    show Go _ _ _ _ _ _ _ T37 (mkF m 20 _ [(.int i1), (.double (FP.l2d i0))])
    refine Go.step (fun tt kk => XS.bipush X37.here hx rfl (hb hby at_20) kk) ?_
    show Go _ _ _ _ _ _ _ T37 (mkF m 22 _ [(.int (7 : Int32)), (.int i1), (.double (FP.l2d i0))])
    refine Go.step (fun tt kk => XS.iand X37.here hx rfl (hb hby at_22) rfl kk) ?_
    show Go _ _ _ _ _ _ _ T37 (mkF m 23 _ [(.int (i1 &&& (7 : Int32))), (.double (FP.l2d i0))])
    refine Go.step (fun tt kk => XS.iconst X37.here hx rfl (hb hby at_23) kk) ?_
    show Go _ _ _ _ _ _ _ T37 (mkF m 24 _ [(.int (1 : Int32)), (.int (i1 &&& (7 : Int32))), (.double (FP.l2d i0))])
    refine Go.step (fun tt kk => XS.iadd X37.here hx rfl (hb hby at_24) rfl kk) ?_
    show Go _ _ _ _ _ _ _ T37 (mkF m 25 _ [(.int ((i1 &&& (7 : Int32)) + (1 : Int32))), (.double (FP.l2d i0))])
    refine Go.step (fun tt kk => XS.i2dS X37.here hx rfl (hb hby at_25) rfl rfl kk) ?_
    show Go _ _ _ _ _ _ _ T37 (mkF m 26 _ [(.double (FP.i2d ((i1 &&& (7 : Int32)) + (1 : Int32)))), (.double (FP.l2d i0))])
    refine Go.step (fun tt kk => XS.ddivS X37.here hx rfl (hb hby at_26) rfl (own_0 i0 ((i1 &&& (7 : Int32)) + (1 : Int32)) (own_dz i1)) rfl kk) ?_
    show Go _ _ _ _ _ _ _ T37 (mkF m 27 _ [(.double (FP.ddiv (FP.l2d i0) (FP.i2d ((i1 &&& (7 : Int32)) + (1 : Int32)))))])
    refine Go.step (fun tt kk => XS.dstore X37.here hx rfl (hb hby at_27) rfl (l' := #[.val (.long i0), .second, .val (.int i1), .val (.int i2), .val (.int i3), .val (.int (6 : Int32)), .val (.ref c6), .val (.double (FP.ddiv (FP.l2d i0) (FP.i2d ((i1 &&& (7 : Int32)) + (1 : Int32))))), .second, .unset, .unset, .unset, .unset, .unset, .unset]) rfl kk) ?_
    show Go _ _ _ _ _ _ _ T37 (mkF m 29 _ [])
    have ha0 := own_0 i0 ((i1 &&& (7 : Int32)) + (1 : Int32)) (own_dz i1)
    generalize (FP.ddiv (FP.l2d i0) (FP.i2d ((i1 &&& (7 : Int32)) + (1 : Int32)))) = x0 at ha0 ⊢
    show Go _ _ _ _ _ _ _ T37 (mkF m 29 #[.val (.long i0), .second, .val (.int i1), .val (.int i2), .val (.int i3), .val (.int (6 : Int32)), .val (.ref c6), .val (.double x0), .second, .unset, .unset, .unset, .unset, .unset, .unset] [])
    refine Go.step (fun tt kk => XS.iloadN X37.here hx rfl (hb hby at_29) rfl kk) ?_
    show Go _ _ _ _ _ _ _ T37 (mkF m 30 _ [(.int i2)])
    refine Go.step (fun tt kk => XS.iconst X37.here hx rfl (hb hby at_30) kk) ?_
    show Go _ _ _ _ _ _ _ T37 (mkF m 31 _ [(.int (1 : Int32)), (.int i2)])
    refine Go.step (fun tt kk => XS.iand X37.here hx rfl (hb hby at_31) rfl kk) ?_
    show Go _ _ _ _ _ _ _ T37 (mkF m 32 _ [(.int (i2 &&& (1 : Int32)))])
    by_cases c32_38 : (i2 &&& (1 : Int32)) = (0 : Int32)
    · refine Go.step (fun tt kk => XS.ifYes X37.here hx rfl (pc0 := 32) (pc' := 41) rfl (hb hby at_32) rfl ((if0 _ _).trans (teq c32_38).1) (by decide) (by decide) kk) ?_
      show Go _ _ _ _ _ _ _ T37 (mkF m 41 _ [])
      refine Go.step (fun tt kk => XS.dload X37.here hx rfl (hb hby at_41) rfl kk) ?_
      show Go _ _ _ _ _ _ _ T37 (mkF m 43 _ [(.double x0)])
      refine Go.step (fun tt kk => XS.dstore X37.here hx rfl (hb hby at_43) rfl (l' := #[.val (.long i0), .second, .val (.int i1), .val (.int i2), .val (.int i3), .val (.int (6 : Int32)), .val (.ref c6), .val (.double x0), .second, .val (.double x0), .second, .unset, .unset, .unset, .unset]) rfl kk) ?_
      show Go _ _ _ _ _ _ _ T37 (mkF m 45 _ [])
      refine Go.step (fun tt kk => XS.aload X37.here hx rfl (hb hby at_45) rfl rfl kk) ?_
      show Go _ _ _ _ _ _ _ T37 (mkF m 47 _ [(.ref c6)])
      refine Go.step (fun tt kk => XS.dload X37.here hx rfl (hb hby at_47) rfl kk) ?_
      show Go _ _ _ _ _ _ _ T37 (mkF m 49 _ [(.double x0), (.ref c6)])
      obtain ⟨v39, T39, L39, X39, q39, st39⟩ := c_virt X37 hx hZ hown (y' := (⟨"com/example/tallowcast/tallowcast/graph/Arithmetic$Operation", "single", "(D)D"⟩ : MethodName)) (y := (⟨"com/example/tallowcast/tallowcast/graph/Arithmetic$Operation", "single", "(D)D"⟩ : MethodName)) (C := "com/example/tallowcast/tallowcast/graph/Arithmetic$Operation") (hw _ (List.mem_of_getElem? (i := 8) rfl)) (hw _ (List.mem_of_getElem? (i := 9) rfl)) (notFace_of_selects (args := #[]) (mvT hZ (hw _ (List.mem_of_getElem? (i := 11) rfl)))) (hw _ (List.mem_of_getElem? (i := 11) rfl)) (hw _ (List.mem_of_getElem? (i := 10) rfl)) (hw _ (List.mem_of_getElem? (i := 6) rfl)) (hw _ (List.mem_of_getElem? (i := 12) rfl)) (by decide) (a := c6) (argsL := [(.double x0)]) (rest := []) (rmS6 l Z a0 hw [] c6 x0 h0 n0 Z0 ha0 E6 F6) e37 E6 pd_2 rfl (by rw [hml]; rfl) (W := 0) (by show 2 * 0 + _ ≤ _; exact Nat.le_of_eq rfl) (by decide) (by decide) (by decide) (by decide) (hb hby at_49) (Ls := #[.val (.long i0), .second, .val (.int i1), .val (.int i2), .val (.int i3), .val (.int (6 : Int32)), .val (.ref c6), .val (.double x0), .second, .val (.double x0), .second, .unset, .unset, .unset, .unset])
      obtain ⟨rfl, rfl, e39⟩ := q39
      have N39 := Fr.app N37 (Fr.nil n0)
      refine Go.step (st39) ?_
      show Go _ _ _ _ _ _ _ T39 (mkF m 52 _ [(.double x0)])
      refine Go.step (fun tt kk => XS.dstore X39.here hx rfl (hb hby at_52) rfl (l' := #[.val (.long i0), .second, .val (.int i1), .val (.int i2), .val (.int i3), .val (.int (6 : Int32)), .val (.ref c6), .val (.double x0), .second, .val (.double x0), .second, .val (.double x0), .second, .unset, .unset]) rfl kk) ?_
      show Go _ _ _ _ _ _ _ T39 (mkF m 54 _ [])
      refine Go.step (fun tt kk => XS.iload X39.here hx rfl (hb hby at_54) rfl kk) ?_
      show Go _ _ _ _ _ _ _ T39 (mkF m 56 _ [(.int (6 : Int32))])
      refine Go.step (fun tt kk => XS.iconst X39.here hx rfl (hb hby at_56) kk) ?_
      show Go _ _ _ _ _ _ _ T39 (mkF m 57 _ [(.int (1 : Int32)), (.int (6 : Int32))])
      refine Go.step (fun tt kk => XS.icmpYes X39.here hx rfl (pc0 := 57) (pc' := 68) rfl (hb hby at_57) rfl (feq (by decide)).2 (by decide) (by decide) kk) ?_
      show Go _ _ _ _ _ _ _ T39 (mkF m 68 _ [])
      refine Go.step (fun tt kk => XS.iload X39.here hx rfl (hb hby at_68) rfl kk) ?_
      show Go _ _ _ _ _ _ _ T39 (mkF m 70 _ [(.int (6 : Int32))])
      refine Go.step (fun tt kk => XS.iconst X39.here hx rfl (hb hby at_70) kk) ?_
      show Go _ _ _ _ _ _ _ T39 (mkF m 71 _ [(.int (3 : Int32)), (.int (6 : Int32))])
      refine Go.step (fun tt kk => XS.icmpYes X39.here hx rfl (pc0 := 71) (pc' := 83) rfl (hb hby at_71) rfl (feq (by decide)).2 (by decide) (by decide) kk) ?_
      show Go _ _ _ _ _ _ _ T39 (mkF m 83 _ [])
      refine Go.step (fun tt kk => XS.dload X39.here hx rfl (hb hby at_83) rfl kk) ?_
      show Go _ _ _ _ _ _ _ T39 (mkF m 85 _ [(.double x0)])
      refine Go.step (fun tt kk => XS.dstore X39.here hx rfl (hb hby at_85) rfl (l' := #[.val (.long i0), .second, .val (.int i1), .val (.int i2), .val (.int i3), .val (.int (6 : Int32)), .val (.ref c6), .val (.double x0), .second, .val (.double x0), .second, .val (.double x0), .second, .val (.double x0), .second]) rfl kk) ?_
      show Go _ _ _ _ _ _ _ T39 (mkF m 87 _ [])
      refine Go.step (fun tt kk => XS.dload X39.here hx rfl (hb hby at_87) rfl kk) ?_
      show Go _ _ _ _ _ _ _ T39 (mkF m 89 _ [(.double x0)])
      refine Go.step (fun tt kk => XS.dload X39.here hx rfl (hb hby at_89) rfl kk) ?_
      show Go _ _ _ _ _ _ _ T39 (mkF m 91 _ [(.double x0), (.double x0)])
      obtain ⟨v40, T40, L40, X40, q40, st40⟩ := c_static X39 hx hZ hown (y := (⟨"com/example/tallowcast/tallowcast/graph/OperationSinglePinLaw", "same", "(DD)Z"⟩ : MethodName)) (hw _ (List.mem_of_getElem? (i := 22) rfl)) (hw _ (List.mem_of_getElem? (i := 23) rfl)) (hw _ (List.mem_of_getElem? (i := 3) rfl)) (hw _ (List.mem_of_getElem? (i := 24) rfl)) (by decide) (argsL := [(.double x0), (.double x0)]) (rest := []) (rmE l Z a0 hw [] x0 h0 n0 Z0 ha0) e39 pd_3 rfl (by rw [hml]; rfl) (W := 0) (by show 2 * 0 + _ ≤ _; exact Nat.le_of_eq rfl) (by decide) (by decide) (by decide) (by decide) (hb hby at_91) (Ls := #[.val (.long i0), .second, .val (.int i1), .val (.int i2), .val (.int i3), .val (.int (6 : Int32)), .val (.ref c6), .val (.double x0), .second, .val (.double x0), .second, .val (.double x0), .second, .val (.double x0), .second])
      obtain ⟨rfl, rfl, e40⟩ := q40
      have N40 := Fr.app N39 (Fr.nil n0)
      refine Go.step (st40) ?_
      show Go _ _ _ _ _ _ _ T40 (mkF m 94 _ [(.int (1 : Int32))])
      refine go_retN X40 hx (t := .boolean) hret (by simp) hlk (hb hby at_94) (w := (1 : Int32)) rfl ?_ (by decide) (by decide)
      try rw [e40]
      exact ⟨rfl, N40⟩
    · refine Go.step (fun tt kk => XS.ifNo X37.here hx rfl (hb hby at_32) rfl ((if0 _ _).trans (feq c32_38).1) kk) ?_
      show Go _ _ _ _ _ _ _ T37 (mkF m 35 _ [])
      refine Go.step (fun tt kk => XS.dload X37.here hx rfl (hb hby at_35) rfl kk) ?_
      show Go _ _ _ _ _ _ _ T37 (mkF m 37 _ [(.double x0)])
      refine Go.step (fun tt kk => XS.dnegS X37.here hx rfl (hb hby at_37) rfl rfl kk) ?_
      show Go _ _ _ _ _ _ _ T37 (mkF m 38 _ [(.double (FP.dneg x0))])
      refine Go.step (fun tt kk => XS.goto X37.here hx rfl (pc0 := 38) (pc' := 43) rfl (hb hby at_38) (by decide) (by decide) kk) ?_
      show Go _ _ _ _ _ _ _ T37 (mkF m 43 _ [(.double (FP.dneg x0))])
      refine Go.step (fun tt kk => XS.dstore X37.here hx rfl (hb hby at_43) rfl (l' := #[.val (.long i0), .second, .val (.int i1), .val (.int i2), .val (.int i3), .val (.int (6 : Int32)), .val (.ref c6), .val (.double x0), .second, .val (.double (FP.dneg x0)), .second, .unset, .unset, .unset, .unset]) rfl kk) ?_
      show Go _ _ _ _ _ _ _ T37 (mkF m 45 _ [])
      refine Go.step (fun tt kk => XS.aload X37.here hx rfl (hb hby at_45) rfl rfl kk) ?_
      show Go _ _ _ _ _ _ _ T37 (mkF m 47 _ [(.ref c6)])
      refine Go.step (fun tt kk => XS.dload X37.here hx rfl (hb hby at_47) rfl kk) ?_
      show Go _ _ _ _ _ _ _ T37 (mkF m 49 _ [(.double (FP.dneg x0)), (.ref c6)])
      obtain ⟨v41, T41, L41, X41, q41, st41⟩ := c_virt X37 hx hZ hown (y' := (⟨"com/example/tallowcast/tallowcast/graph/Arithmetic$Operation", "single", "(D)D"⟩ : MethodName)) (y := (⟨"com/example/tallowcast/tallowcast/graph/Arithmetic$Operation", "single", "(D)D"⟩ : MethodName)) (C := "com/example/tallowcast/tallowcast/graph/Arithmetic$Operation") (hw _ (List.mem_of_getElem? (i := 8) rfl)) (hw _ (List.mem_of_getElem? (i := 9) rfl)) (notFace_of_selects (args := #[]) (mvT hZ (hw _ (List.mem_of_getElem? (i := 11) rfl)))) (hw _ (List.mem_of_getElem? (i := 11) rfl)) (hw _ (List.mem_of_getElem? (i := 10) rfl)) (hw _ (List.mem_of_getElem? (i := 6) rfl)) (hw _ (List.mem_of_getElem? (i := 12) rfl)) (by decide) (a := c6) (argsL := [(.double (FP.dneg x0))]) (rest := []) (rmS6 l Z a0 hw [] c6 (FP.dneg x0) h0 n0 Z0 ((dneg_iff _).mpr ha0) E6 F6) e37 E6 pd_2 rfl (by rw [hml]; rfl) (W := 0) (by show 2 * 0 + _ ≤ _; exact Nat.le_of_eq rfl) (by decide) (by decide) (by decide) (by decide) (hb hby at_49) (Ls := #[.val (.long i0), .second, .val (.int i1), .val (.int i2), .val (.int i3), .val (.int (6 : Int32)), .val (.ref c6), .val (.double x0), .second, .val (.double (FP.dneg x0)), .second, .unset, .unset, .unset, .unset])
      obtain ⟨rfl, rfl, e41⟩ := q41
      have N41 := Fr.app N37 (Fr.nil n0)
      refine Go.step (st41) ?_
      show Go _ _ _ _ _ _ _ T41 (mkF m 52 _ [(.double (FP.dneg x0))])
      refine Go.step (fun tt kk => XS.dstore X41.here hx rfl (hb hby at_52) rfl (l' := #[.val (.long i0), .second, .val (.int i1), .val (.int i2), .val (.int i3), .val (.int (6 : Int32)), .val (.ref c6), .val (.double x0), .second, .val (.double (FP.dneg x0)), .second, .val (.double (FP.dneg x0)), .second, .unset, .unset]) rfl kk) ?_
      show Go _ _ _ _ _ _ _ T41 (mkF m 54 _ [])
      refine Go.step (fun tt kk => XS.iload X41.here hx rfl (hb hby at_54) rfl kk) ?_
      show Go _ _ _ _ _ _ _ T41 (mkF m 56 _ [(.int (6 : Int32))])
      refine Go.step (fun tt kk => XS.iconst X41.here hx rfl (hb hby at_56) kk) ?_
      show Go _ _ _ _ _ _ _ T41 (mkF m 57 _ [(.int (1 : Int32)), (.int (6 : Int32))])
      refine Go.step (fun tt kk => XS.icmpYes X41.here hx rfl (pc0 := 57) (pc' := 68) rfl (hb hby at_57) rfl (feq (by decide)).2 (by decide) (by decide) kk) ?_
      show Go _ _ _ _ _ _ _ T41 (mkF m 68 _ [])
      refine Go.step (fun tt kk => XS.iload X41.here hx rfl (hb hby at_68) rfl kk) ?_
      show Go _ _ _ _ _ _ _ T41 (mkF m 70 _ [(.int (6 : Int32))])
      refine Go.step (fun tt kk => XS.iconst X41.here hx rfl (hb hby at_70) kk) ?_
      show Go _ _ _ _ _ _ _ T41 (mkF m 71 _ [(.int (3 : Int32)), (.int (6 : Int32))])
      refine Go.step (fun tt kk => XS.icmpYes X41.here hx rfl (pc0 := 71) (pc' := 83) rfl (hb hby at_71) rfl (feq (by decide)).2 (by decide) (by decide) kk) ?_
      show Go _ _ _ _ _ _ _ T41 (mkF m 83 _ [])
      refine Go.step (fun tt kk => XS.dload X41.here hx rfl (hb hby at_83) rfl kk) ?_
      show Go _ _ _ _ _ _ _ T41 (mkF m 85 _ [(.double (FP.dneg x0))])
      refine Go.step (fun tt kk => XS.dstore X41.here hx rfl (hb hby at_85) rfl (l' := #[.val (.long i0), .second, .val (.int i1), .val (.int i2), .val (.int i3), .val (.int (6 : Int32)), .val (.ref c6), .val (.double x0), .second, .val (.double (FP.dneg x0)), .second, .val (.double (FP.dneg x0)), .second, .val (.double (FP.dneg x0)), .second]) rfl kk) ?_
      show Go _ _ _ _ _ _ _ T41 (mkF m 87 _ [])
      refine Go.step (fun tt kk => XS.dload X41.here hx rfl (hb hby at_87) rfl kk) ?_
      show Go _ _ _ _ _ _ _ T41 (mkF m 89 _ [(.double (FP.dneg x0))])
      refine Go.step (fun tt kk => XS.dload X41.here hx rfl (hb hby at_89) rfl kk) ?_
      show Go _ _ _ _ _ _ _ T41 (mkF m 91 _ [(.double (FP.dneg x0)), (.double (FP.dneg x0))])
      obtain ⟨v42, T42, L42, X42, q42, st42⟩ := c_static X41 hx hZ hown (y := (⟨"com/example/tallowcast/tallowcast/graph/OperationSinglePinLaw", "same", "(DD)Z"⟩ : MethodName)) (hw _ (List.mem_of_getElem? (i := 22) rfl)) (hw _ (List.mem_of_getElem? (i := 23) rfl)) (hw _ (List.mem_of_getElem? (i := 3) rfl)) (hw _ (List.mem_of_getElem? (i := 24) rfl)) (by decide) (argsL := [(.double (FP.dneg x0)), (.double (FP.dneg x0))]) (rest := []) (rmE l Z a0 hw [] (FP.dneg x0) h0 n0 Z0 ((dneg_iff _).mpr ha0)) e41 pd_3 rfl (by rw [hml]; rfl) (W := 0) (by show 2 * 0 + _ ≤ _; exact Nat.le_of_eq rfl) (by decide) (by decide) (by decide) (by decide) (hb hby at_91) (Ls := #[.val (.long i0), .second, .val (.int i1), .val (.int i2), .val (.int i3), .val (.int (6 : Int32)), .val (.ref c6), .val (.double x0), .second, .val (.double (FP.dneg x0)), .second, .val (.double (FP.dneg x0)), .second, .val (.double (FP.dneg x0)), .second])
      obtain ⟨rfl, rfl, e42⟩ := q42
      have N42 := Fr.app N41 (Fr.nil n0)
      refine Go.step (st42) ?_
      show Go _ _ _ _ _ _ _ T42 (mkF m 94 _ [(.int (1 : Int32))])
      refine go_retN X42 hx (t := .boolean) hret (by simp) hlk (hb hby at_94) (w := (1 : Int32)) rfl ?_ (by decide) (by decide)
      try rw [e42]
      exact ⟨rfl, N42⟩
  · show Go _ _ _ _ _ _ _ T0 (mkF m 10 #[.val (.long i0), .second, .val (.int i1), .val (.int i2), .val (.int i3), .val (.int (7 : Int32)), .unset, .unset, .unset, .unset, .unset, .unset, .unset, .unset, .unset] [])
    refine Go.step (fun tt kk => XS.iload X0.here hx rfl (hb hby at_10) rfl kk) ?_
    show Go _ _ _ _ _ _ _ T0 (mkF m 12 _ [(.int (7 : Int32))])
    obtain ⟨v43, T43, L43, X43, q43, st43⟩ := c_static X0 hx hZ hown (y := (⟨"com/example/tallowcast/tallowcast/graph/OperationSinglePinLaw", "pick", "(I)Lcom/example/tallowcast/tallowcast/graph/Arithmetic$Operation;"⟩ : MethodName)) (hw _ (List.mem_of_getElem? (i := 1) rfl)) (hw _ (List.mem_of_getElem? (i := 2) rfl)) (hw _ (List.mem_of_getElem? (i := 3) rfl)) (hw _ (List.mem_of_getElem? (i := 4) rfl)) (by decide) (argsL := [(.int (7 : Int32))]) (rest := []) (rmP7 l Z a0 hw [] c7 h0 n0 Z0 S7) e0 pd_1 rfl (by rw [hml]; rfl) (W := 0) (by show 2 * 0 + _ ≤ _; exact Nat.le_of_eq rfl) (by decide) (by decide) (by decide) (by decide) (hb hby at_12) (Ls := #[.val (.long i0), .second, .val (.int i1), .val (.int i2), .val (.int i3), .val (.int (7 : Int32)), .unset, .unset, .unset, .unset, .unset, .unset, .unset, .unset, .unset])
    obtain ⟨rfl, rfl, e43⟩ := q43
    have N43 := Fr.app N0 (Fr.nil n0)
    refine Go.step (st43) ?_
    show Go _ _ _ _ _ _ _ T43 (mkF m 15 _ [(.ref c7)])
    refine Go.step (fun tt kk => XS.astore X43.here hx rfl (hb hby at_15) rfl rfl (l' := #[.val (.long i0), .second, .val (.int i1), .val (.int i2), .val (.int i3), .val (.int (7 : Int32)), .val (.ref c7), .unset, .unset, .unset, .unset, .unset, .unset, .unset, .unset]) rfl kk) ?_
    show Go _ _ _ _ _ _ _ T43 (mkF m 17 _ [])
    refine Go.step (fun tt kk => XS.lloadN X43.here hx rfl (hb hby at_17) rfl kk) ?_
    show Go _ _ _ _ _ _ _ T43 (mkF m 18 _ [(.long i0)])
    refine Go.step (fun tt kk => XS.l2dS X43.here hx rfl (hb hby at_18) rfl rfl kk) ?_
    show Go _ _ _ _ _ _ _ T43 (mkF m 19 _ [(.double (FP.l2d i0))])
    refine Go.step (fun tt kk => XS.iloadN X43.here hx rfl (hb hby at_19) rfl kk) ?_
    show Go _ _ _ _ _ _ _ T43 (mkF m 20 _ [(.int i1), (.double (FP.l2d i0))])
    refine Go.step (fun tt kk => XS.bipush X43.here hx rfl (hb hby at_20) kk) ?_
    show Go _ _ _ _ _ _ _ T43 (mkF m 22 _ [(.int (7 : Int32)), (.int i1), (.double (FP.l2d i0))])
    refine Go.step (fun tt kk => XS.iand X43.here hx rfl (hb hby at_22) rfl kk) ?_
    show Go _ _ _ _ _ _ _ T43 (mkF m 23 _ [(.int (i1 &&& (7 : Int32))), (.double (FP.l2d i0))])
    refine Go.step (fun tt kk => XS.iconst X43.here hx rfl (hb hby at_23) kk) ?_
    show Go _ _ _ _ _ _ _ T43 (mkF m 24 _ [(.int (1 : Int32)), (.int (i1 &&& (7 : Int32))), (.double (FP.l2d i0))])
    refine Go.step (fun tt kk => XS.iadd X43.here hx rfl (hb hby at_24) rfl kk) ?_
    show Go _ _ _ _ _ _ _ T43 (mkF m 25 _ [(.int ((i1 &&& (7 : Int32)) + (1 : Int32))), (.double (FP.l2d i0))])
    refine Go.step (fun tt kk => XS.i2dS X43.here hx rfl (hb hby at_25) rfl rfl kk) ?_
    show Go _ _ _ _ _ _ _ T43 (mkF m 26 _ [(.double (FP.i2d ((i1 &&& (7 : Int32)) + (1 : Int32)))), (.double (FP.l2d i0))])
    refine Go.step (fun tt kk => XS.ddivS X43.here hx rfl (hb hby at_26) rfl (own_0 i0 ((i1 &&& (7 : Int32)) + (1 : Int32)) (own_dz i1)) rfl kk) ?_
    show Go _ _ _ _ _ _ _ T43 (mkF m 27 _ [(.double (FP.ddiv (FP.l2d i0) (FP.i2d ((i1 &&& (7 : Int32)) + (1 : Int32)))))])
    refine Go.step (fun tt kk => XS.dstore X43.here hx rfl (hb hby at_27) rfl (l' := #[.val (.long i0), .second, .val (.int i1), .val (.int i2), .val (.int i3), .val (.int (7 : Int32)), .val (.ref c7), .val (.double (FP.ddiv (FP.l2d i0) (FP.i2d ((i1 &&& (7 : Int32)) + (1 : Int32))))), .second, .unset, .unset, .unset, .unset, .unset, .unset]) rfl kk) ?_
    show Go _ _ _ _ _ _ _ T43 (mkF m 29 _ [])
    have ha0 := own_0 i0 ((i1 &&& (7 : Int32)) + (1 : Int32)) (own_dz i1)
    generalize (FP.ddiv (FP.l2d i0) (FP.i2d ((i1 &&& (7 : Int32)) + (1 : Int32)))) = x0 at ha0 ⊢
    show Go _ _ _ _ _ _ _ T43 (mkF m 29 #[.val (.long i0), .second, .val (.int i1), .val (.int i2), .val (.int i3), .val (.int (7 : Int32)), .val (.ref c7), .val (.double x0), .second, .unset, .unset, .unset, .unset, .unset, .unset] [])
    refine Go.step (fun tt kk => XS.iloadN X43.here hx rfl (hb hby at_29) rfl kk) ?_
    show Go _ _ _ _ _ _ _ T43 (mkF m 30 _ [(.int i2)])
    refine Go.step (fun tt kk => XS.iconst X43.here hx rfl (hb hby at_30) kk) ?_
    show Go _ _ _ _ _ _ _ T43 (mkF m 31 _ [(.int (1 : Int32)), (.int i2)])
    refine Go.step (fun tt kk => XS.iand X43.here hx rfl (hb hby at_31) rfl kk) ?_
    show Go _ _ _ _ _ _ _ T43 (mkF m 32 _ [(.int (i2 &&& (1 : Int32)))])
    by_cases c32_44 : (i2 &&& (1 : Int32)) = (0 : Int32)
    · refine Go.step (fun tt kk => XS.ifYes X43.here hx rfl (pc0 := 32) (pc' := 41) rfl (hb hby at_32) rfl ((if0 _ _).trans (teq c32_44).1) (by decide) (by decide) kk) ?_
      show Go _ _ _ _ _ _ _ T43 (mkF m 41 _ [])
      refine Go.step (fun tt kk => XS.dload X43.here hx rfl (hb hby at_41) rfl kk) ?_
      show Go _ _ _ _ _ _ _ T43 (mkF m 43 _ [(.double x0)])
      refine Go.step (fun tt kk => XS.dstore X43.here hx rfl (hb hby at_43) rfl (l' := #[.val (.long i0), .second, .val (.int i1), .val (.int i2), .val (.int i3), .val (.int (7 : Int32)), .val (.ref c7), .val (.double x0), .second, .val (.double x0), .second, .unset, .unset, .unset, .unset]) rfl kk) ?_
      show Go _ _ _ _ _ _ _ T43 (mkF m 45 _ [])
      refine Go.step (fun tt kk => XS.aload X43.here hx rfl (hb hby at_45) rfl rfl kk) ?_
      show Go _ _ _ _ _ _ _ T43 (mkF m 47 _ [(.ref c7)])
      refine Go.step (fun tt kk => XS.dload X43.here hx rfl (hb hby at_47) rfl kk) ?_
      show Go _ _ _ _ _ _ _ T43 (mkF m 49 _ [(.double x0), (.ref c7)])
      obtain ⟨v45, T45, L45, X45, q45, st45⟩ := c_virt X43 hx hZ hown (y' := (⟨"com/example/tallowcast/tallowcast/graph/Arithmetic$Operation", "single", "(D)D"⟩ : MethodName)) (y := (⟨"com/example/tallowcast/tallowcast/graph/Arithmetic$Operation", "single", "(D)D"⟩ : MethodName)) (C := "com/example/tallowcast/tallowcast/graph/Arithmetic$Operation") (hw _ (List.mem_of_getElem? (i := 8) rfl)) (hw _ (List.mem_of_getElem? (i := 9) rfl)) (notFace_of_selects (args := #[]) (mvT hZ (hw _ (List.mem_of_getElem? (i := 11) rfl)))) (hw _ (List.mem_of_getElem? (i := 11) rfl)) (hw _ (List.mem_of_getElem? (i := 10) rfl)) (hw _ (List.mem_of_getElem? (i := 6) rfl)) (hw _ (List.mem_of_getElem? (i := 12) rfl)) (by decide) (a := c7) (argsL := [(.double x0)]) (rest := []) (rmS7 l Z a0 hw [] c7 x0 h0 n0 Z0 ha0 E7 F7) e43 E7 pd_2 rfl (by rw [hml]; rfl) (W := 0) (by show 2 * 0 + _ ≤ _; exact Nat.le_of_eq rfl) (by decide) (by decide) (by decide) (by decide) (hb hby at_49) (Ls := #[.val (.long i0), .second, .val (.int i1), .val (.int i2), .val (.int i3), .val (.int (7 : Int32)), .val (.ref c7), .val (.double x0), .second, .val (.double x0), .second, .unset, .unset, .unset, .unset])
      obtain ⟨rfl, rfl, e45⟩ := q45
      have N45 := Fr.app N43 (Fr.nil n0)
      refine Go.step (st45) ?_
      show Go _ _ _ _ _ _ _ T45 (mkF m 52 _ [(.double x0)])
      refine Go.step (fun tt kk => XS.dstore X45.here hx rfl (hb hby at_52) rfl (l' := #[.val (.long i0), .second, .val (.int i1), .val (.int i2), .val (.int i3), .val (.int (7 : Int32)), .val (.ref c7), .val (.double x0), .second, .val (.double x0), .second, .val (.double x0), .second, .unset, .unset]) rfl kk) ?_
      show Go _ _ _ _ _ _ _ T45 (mkF m 54 _ [])
      refine Go.step (fun tt kk => XS.iload X45.here hx rfl (hb hby at_54) rfl kk) ?_
      show Go _ _ _ _ _ _ _ T45 (mkF m 56 _ [(.int (7 : Int32))])
      refine Go.step (fun tt kk => XS.iconst X45.here hx rfl (hb hby at_56) kk) ?_
      show Go _ _ _ _ _ _ _ T45 (mkF m 57 _ [(.int (1 : Int32)), (.int (7 : Int32))])
      refine Go.step (fun tt kk => XS.icmpYes X45.here hx rfl (pc0 := 57) (pc' := 68) rfl (hb hby at_57) rfl (feq (by decide)).2 (by decide) (by decide) kk) ?_
      show Go _ _ _ _ _ _ _ T45 (mkF m 68 _ [])
      refine Go.step (fun tt kk => XS.iload X45.here hx rfl (hb hby at_68) rfl kk) ?_
      show Go _ _ _ _ _ _ _ T45 (mkF m 70 _ [(.int (7 : Int32))])
      refine Go.step (fun tt kk => XS.iconst X45.here hx rfl (hb hby at_70) kk) ?_
      show Go _ _ _ _ _ _ _ T45 (mkF m 71 _ [(.int (3 : Int32)), (.int (7 : Int32))])
      refine Go.step (fun tt kk => XS.icmpYes X45.here hx rfl (pc0 := 71) (pc' := 83) rfl (hb hby at_71) rfl (feq (by decide)).2 (by decide) (by decide) kk) ?_
      show Go _ _ _ _ _ _ _ T45 (mkF m 83 _ [])
      refine Go.step (fun tt kk => XS.dload X45.here hx rfl (hb hby at_83) rfl kk) ?_
      show Go _ _ _ _ _ _ _ T45 (mkF m 85 _ [(.double x0)])
      refine Go.step (fun tt kk => XS.dstore X45.here hx rfl (hb hby at_85) rfl (l' := #[.val (.long i0), .second, .val (.int i1), .val (.int i2), .val (.int i3), .val (.int (7 : Int32)), .val (.ref c7), .val (.double x0), .second, .val (.double x0), .second, .val (.double x0), .second, .val (.double x0), .second]) rfl kk) ?_
      show Go _ _ _ _ _ _ _ T45 (mkF m 87 _ [])
      refine Go.step (fun tt kk => XS.dload X45.here hx rfl (hb hby at_87) rfl kk) ?_
      show Go _ _ _ _ _ _ _ T45 (mkF m 89 _ [(.double x0)])
      refine Go.step (fun tt kk => XS.dload X45.here hx rfl (hb hby at_89) rfl kk) ?_
      show Go _ _ _ _ _ _ _ T45 (mkF m 91 _ [(.double x0), (.double x0)])
      obtain ⟨v46, T46, L46, X46, q46, st46⟩ := c_static X45 hx hZ hown (y := (⟨"com/example/tallowcast/tallowcast/graph/OperationSinglePinLaw", "same", "(DD)Z"⟩ : MethodName)) (hw _ (List.mem_of_getElem? (i := 22) rfl)) (hw _ (List.mem_of_getElem? (i := 23) rfl)) (hw _ (List.mem_of_getElem? (i := 3) rfl)) (hw _ (List.mem_of_getElem? (i := 24) rfl)) (by decide) (argsL := [(.double x0), (.double x0)]) (rest := []) (rmE l Z a0 hw [] x0 h0 n0 Z0 ha0) e45 pd_3 rfl (by rw [hml]; rfl) (W := 0) (by show 2 * 0 + _ ≤ _; exact Nat.le_of_eq rfl) (by decide) (by decide) (by decide) (by decide) (hb hby at_91) (Ls := #[.val (.long i0), .second, .val (.int i1), .val (.int i2), .val (.int i3), .val (.int (7 : Int32)), .val (.ref c7), .val (.double x0), .second, .val (.double x0), .second, .val (.double x0), .second, .val (.double x0), .second])
      obtain ⟨rfl, rfl, e46⟩ := q46
      have N46 := Fr.app N45 (Fr.nil n0)
      refine Go.step (st46) ?_
      show Go _ _ _ _ _ _ _ T46 (mkF m 94 _ [(.int (1 : Int32))])
      refine go_retN X46 hx (t := .boolean) hret (by simp) hlk (hb hby at_94) (w := (1 : Int32)) rfl ?_ (by decide) (by decide)
      try rw [e46]
      exact ⟨rfl, N46⟩
    · refine Go.step (fun tt kk => XS.ifNo X43.here hx rfl (hb hby at_32) rfl ((if0 _ _).trans (feq c32_44).1) kk) ?_
      show Go _ _ _ _ _ _ _ T43 (mkF m 35 _ [])
      refine Go.step (fun tt kk => XS.dload X43.here hx rfl (hb hby at_35) rfl kk) ?_
      show Go _ _ _ _ _ _ _ T43 (mkF m 37 _ [(.double x0)])
      refine Go.step (fun tt kk => XS.dnegS X43.here hx rfl (hb hby at_37) rfl rfl kk) ?_
      show Go _ _ _ _ _ _ _ T43 (mkF m 38 _ [(.double (FP.dneg x0))])
      refine Go.step (fun tt kk => XS.goto X43.here hx rfl (pc0 := 38) (pc' := 43) rfl (hb hby at_38) (by decide) (by decide) kk) ?_
      show Go _ _ _ _ _ _ _ T43 (mkF m 43 _ [(.double (FP.dneg x0))])
      refine Go.step (fun tt kk => XS.dstore X43.here hx rfl (hb hby at_43) rfl (l' := #[.val (.long i0), .second, .val (.int i1), .val (.int i2), .val (.int i3), .val (.int (7 : Int32)), .val (.ref c7), .val (.double x0), .second, .val (.double (FP.dneg x0)), .second, .unset, .unset, .unset, .unset]) rfl kk) ?_
      show Go _ _ _ _ _ _ _ T43 (mkF m 45 _ [])
      refine Go.step (fun tt kk => XS.aload X43.here hx rfl (hb hby at_45) rfl rfl kk) ?_
      show Go _ _ _ _ _ _ _ T43 (mkF m 47 _ [(.ref c7)])
      refine Go.step (fun tt kk => XS.dload X43.here hx rfl (hb hby at_47) rfl kk) ?_
      show Go _ _ _ _ _ _ _ T43 (mkF m 49 _ [(.double (FP.dneg x0)), (.ref c7)])
      obtain ⟨v47, T47, L47, X47, q47, st47⟩ := c_virt X43 hx hZ hown (y' := (⟨"com/example/tallowcast/tallowcast/graph/Arithmetic$Operation", "single", "(D)D"⟩ : MethodName)) (y := (⟨"com/example/tallowcast/tallowcast/graph/Arithmetic$Operation", "single", "(D)D"⟩ : MethodName)) (C := "com/example/tallowcast/tallowcast/graph/Arithmetic$Operation") (hw _ (List.mem_of_getElem? (i := 8) rfl)) (hw _ (List.mem_of_getElem? (i := 9) rfl)) (notFace_of_selects (args := #[]) (mvT hZ (hw _ (List.mem_of_getElem? (i := 11) rfl)))) (hw _ (List.mem_of_getElem? (i := 11) rfl)) (hw _ (List.mem_of_getElem? (i := 10) rfl)) (hw _ (List.mem_of_getElem? (i := 6) rfl)) (hw _ (List.mem_of_getElem? (i := 12) rfl)) (by decide) (a := c7) (argsL := [(.double (FP.dneg x0))]) (rest := []) (rmS7 l Z a0 hw [] c7 (FP.dneg x0) h0 n0 Z0 ((dneg_iff _).mpr ha0) E7 F7) e43 E7 pd_2 rfl (by rw [hml]; rfl) (W := 0) (by show 2 * 0 + _ ≤ _; exact Nat.le_of_eq rfl) (by decide) (by decide) (by decide) (by decide) (hb hby at_49) (Ls := #[.val (.long i0), .second, .val (.int i1), .val (.int i2), .val (.int i3), .val (.int (7 : Int32)), .val (.ref c7), .val (.double x0), .second, .val (.double (FP.dneg x0)), .second, .unset, .unset, .unset, .unset])
      obtain ⟨rfl, rfl, e47⟩ := q47
      have N47 := Fr.app N43 (Fr.nil n0)
      refine Go.step (st47) ?_
      show Go _ _ _ _ _ _ _ T47 (mkF m 52 _ [(.double (FP.dneg x0))])
      refine Go.step (fun tt kk => XS.dstore X47.here hx rfl (hb hby at_52) rfl (l' := #[.val (.long i0), .second, .val (.int i1), .val (.int i2), .val (.int i3), .val (.int (7 : Int32)), .val (.ref c7), .val (.double x0), .second, .val (.double (FP.dneg x0)), .second, .val (.double (FP.dneg x0)), .second, .unset, .unset]) rfl kk) ?_
      show Go _ _ _ _ _ _ _ T47 (mkF m 54 _ [])
      refine Go.step (fun tt kk => XS.iload X47.here hx rfl (hb hby at_54) rfl kk) ?_
      show Go _ _ _ _ _ _ _ T47 (mkF m 56 _ [(.int (7 : Int32))])
      refine Go.step (fun tt kk => XS.iconst X47.here hx rfl (hb hby at_56) kk) ?_
      show Go _ _ _ _ _ _ _ T47 (mkF m 57 _ [(.int (1 : Int32)), (.int (7 : Int32))])
      refine Go.step (fun tt kk => XS.icmpYes X47.here hx rfl (pc0 := 57) (pc' := 68) rfl (hb hby at_57) rfl (feq (by decide)).2 (by decide) (by decide) kk) ?_
      show Go _ _ _ _ _ _ _ T47 (mkF m 68 _ [])
      refine Go.step (fun tt kk => XS.iload X47.here hx rfl (hb hby at_68) rfl kk) ?_
      show Go _ _ _ _ _ _ _ T47 (mkF m 70 _ [(.int (7 : Int32))])
      refine Go.step (fun tt kk => XS.iconst X47.here hx rfl (hb hby at_70) kk) ?_
      show Go _ _ _ _ _ _ _ T47 (mkF m 71 _ [(.int (3 : Int32)), (.int (7 : Int32))])
      refine Go.step (fun tt kk => XS.icmpYes X47.here hx rfl (pc0 := 71) (pc' := 83) rfl (hb hby at_71) rfl (feq (by decide)).2 (by decide) (by decide) kk) ?_
      show Go _ _ _ _ _ _ _ T47 (mkF m 83 _ [])
      refine Go.step (fun tt kk => XS.dload X47.here hx rfl (hb hby at_83) rfl kk) ?_
      show Go _ _ _ _ _ _ _ T47 (mkF m 85 _ [(.double (FP.dneg x0))])
      refine Go.step (fun tt kk => XS.dstore X47.here hx rfl (hb hby at_85) rfl (l' := #[.val (.long i0), .second, .val (.int i1), .val (.int i2), .val (.int i3), .val (.int (7 : Int32)), .val (.ref c7), .val (.double x0), .second, .val (.double (FP.dneg x0)), .second, .val (.double (FP.dneg x0)), .second, .val (.double (FP.dneg x0)), .second]) rfl kk) ?_
      show Go _ _ _ _ _ _ _ T47 (mkF m 87 _ [])
      refine Go.step (fun tt kk => XS.dload X47.here hx rfl (hb hby at_87) rfl kk) ?_
      show Go _ _ _ _ _ _ _ T47 (mkF m 89 _ [(.double (FP.dneg x0))])
      refine Go.step (fun tt kk => XS.dload X47.here hx rfl (hb hby at_89) rfl kk) ?_
      show Go _ _ _ _ _ _ _ T47 (mkF m 91 _ [(.double (FP.dneg x0)), (.double (FP.dneg x0))])
      obtain ⟨v48, T48, L48, X48, q48, st48⟩ := c_static X47 hx hZ hown (y := (⟨"com/example/tallowcast/tallowcast/graph/OperationSinglePinLaw", "same", "(DD)Z"⟩ : MethodName)) (hw _ (List.mem_of_getElem? (i := 22) rfl)) (hw _ (List.mem_of_getElem? (i := 23) rfl)) (hw _ (List.mem_of_getElem? (i := 3) rfl)) (hw _ (List.mem_of_getElem? (i := 24) rfl)) (by decide) (argsL := [(.double (FP.dneg x0)), (.double (FP.dneg x0))]) (rest := []) (rmE l Z a0 hw [] (FP.dneg x0) h0 n0 Z0 ((dneg_iff _).mpr ha0)) e47 pd_3 rfl (by rw [hml]; rfl) (W := 0) (by show 2 * 0 + _ ≤ _; exact Nat.le_of_eq rfl) (by decide) (by decide) (by decide) (by decide) (hb hby at_91) (Ls := #[.val (.long i0), .second, .val (.int i1), .val (.int i2), .val (.int i3), .val (.int (7 : Int32)), .val (.ref c7), .val (.double x0), .second, .val (.double (FP.dneg x0)), .second, .val (.double (FP.dneg x0)), .second, .val (.double (FP.dneg x0)), .second])
      obtain ⟨rfl, rfl, e48⟩ := q48
      have N48 := Fr.app N47 (Fr.nil n0)
      refine Go.step (st48) ?_
      show Go _ _ _ _ _ _ _ T48 (mkF m 94 _ [(.int (1 : Int32))])
      refine go_retN X48 hx (t := .boolean) hret (by simp) hlk (hb hby at_94) (w := (1 : Int32)) rfl ?_ (by decide) (by decide)
      try rw [e48]
      exact ⟨rfl, N48⟩
  · show Go _ _ _ _ _ _ _ T0 (mkF m 10 #[.val (.long i0), .second, .val (.int i1), .val (.int i2), .val (.int i3), .val (.int (8 : Int32)), .unset, .unset, .unset, .unset, .unset, .unset, .unset, .unset, .unset] [])
    refine Go.step (fun tt kk => XS.iload X0.here hx rfl (hb hby at_10) rfl kk) ?_
    show Go _ _ _ _ _ _ _ T0 (mkF m 12 _ [(.int (8 : Int32))])
    obtain ⟨v49, T49, L49, X49, q49, st49⟩ := c_static X0 hx hZ hown (y := (⟨"com/example/tallowcast/tallowcast/graph/OperationSinglePinLaw", "pick", "(I)Lcom/example/tallowcast/tallowcast/graph/Arithmetic$Operation;"⟩ : MethodName)) (hw _ (List.mem_of_getElem? (i := 1) rfl)) (hw _ (List.mem_of_getElem? (i := 2) rfl)) (hw _ (List.mem_of_getElem? (i := 3) rfl)) (hw _ (List.mem_of_getElem? (i := 4) rfl)) (by decide) (argsL := [(.int (8 : Int32))]) (rest := []) (rmP8 l Z a0 hw [] c8 h0 n0 Z0 S8) e0 pd_1 rfl (by rw [hml]; rfl) (W := 0) (by show 2 * 0 + _ ≤ _; exact Nat.le_of_eq rfl) (by decide) (by decide) (by decide) (by decide) (hb hby at_12) (Ls := #[.val (.long i0), .second, .val (.int i1), .val (.int i2), .val (.int i3), .val (.int (8 : Int32)), .unset, .unset, .unset, .unset, .unset, .unset, .unset, .unset, .unset])
    obtain ⟨rfl, rfl, e49⟩ := q49
    have N49 := Fr.app N0 (Fr.nil n0)
    refine Go.step (st49) ?_
    show Go _ _ _ _ _ _ _ T49 (mkF m 15 _ [(.ref c8)])
    refine Go.step (fun tt kk => XS.astore X49.here hx rfl (hb hby at_15) rfl rfl (l' := #[.val (.long i0), .second, .val (.int i1), .val (.int i2), .val (.int i3), .val (.int (8 : Int32)), .val (.ref c8), .unset, .unset, .unset, .unset, .unset, .unset, .unset, .unset]) rfl kk) ?_
    show Go _ _ _ _ _ _ _ T49 (mkF m 17 _ [])
    refine Go.step (fun tt kk => XS.lloadN X49.here hx rfl (hb hby at_17) rfl kk) ?_
    show Go _ _ _ _ _ _ _ T49 (mkF m 18 _ [(.long i0)])
    refine Go.step (fun tt kk => XS.l2dS X49.here hx rfl (hb hby at_18) rfl rfl kk) ?_
    show Go _ _ _ _ _ _ _ T49 (mkF m 19 _ [(.double (FP.l2d i0))])
    refine Go.step (fun tt kk => XS.iloadN X49.here hx rfl (hb hby at_19) rfl kk) ?_
    show Go _ _ _ _ _ _ _ T49 (mkF m 20 _ [(.int i1), (.double (FP.l2d i0))])
    refine Go.step (fun tt kk => XS.bipush X49.here hx rfl (hb hby at_20) kk) ?_
    show Go _ _ _ _ _ _ _ T49 (mkF m 22 _ [(.int (7 : Int32)), (.int i1), (.double (FP.l2d i0))])
    refine Go.step (fun tt kk => XS.iand X49.here hx rfl (hb hby at_22) rfl kk) ?_
    show Go _ _ _ _ _ _ _ T49 (mkF m 23 _ [(.int (i1 &&& (7 : Int32))), (.double (FP.l2d i0))])
    refine Go.step (fun tt kk => XS.iconst X49.here hx rfl (hb hby at_23) kk) ?_
    show Go _ _ _ _ _ _ _ T49 (mkF m 24 _ [(.int (1 : Int32)), (.int (i1 &&& (7 : Int32))), (.double (FP.l2d i0))])
    refine Go.step (fun tt kk => XS.iadd X49.here hx rfl (hb hby at_24) rfl kk) ?_
    show Go _ _ _ _ _ _ _ T49 (mkF m 25 _ [(.int ((i1 &&& (7 : Int32)) + (1 : Int32))), (.double (FP.l2d i0))])
    refine Go.step (fun tt kk => XS.i2dS X49.here hx rfl (hb hby at_25) rfl rfl kk) ?_
    show Go _ _ _ _ _ _ _ T49 (mkF m 26 _ [(.double (FP.i2d ((i1 &&& (7 : Int32)) + (1 : Int32)))), (.double (FP.l2d i0))])
    refine Go.step (fun tt kk => XS.ddivS X49.here hx rfl (hb hby at_26) rfl (own_0 i0 ((i1 &&& (7 : Int32)) + (1 : Int32)) (own_dz i1)) rfl kk) ?_
    show Go _ _ _ _ _ _ _ T49 (mkF m 27 _ [(.double (FP.ddiv (FP.l2d i0) (FP.i2d ((i1 &&& (7 : Int32)) + (1 : Int32)))))])
    refine Go.step (fun tt kk => XS.dstore X49.here hx rfl (hb hby at_27) rfl (l' := #[.val (.long i0), .second, .val (.int i1), .val (.int i2), .val (.int i3), .val (.int (8 : Int32)), .val (.ref c8), .val (.double (FP.ddiv (FP.l2d i0) (FP.i2d ((i1 &&& (7 : Int32)) + (1 : Int32))))), .second, .unset, .unset, .unset, .unset, .unset, .unset]) rfl kk) ?_
    show Go _ _ _ _ _ _ _ T49 (mkF m 29 _ [])
    have ha0 := own_0 i0 ((i1 &&& (7 : Int32)) + (1 : Int32)) (own_dz i1)
    generalize (FP.ddiv (FP.l2d i0) (FP.i2d ((i1 &&& (7 : Int32)) + (1 : Int32)))) = x0 at ha0 ⊢
    show Go _ _ _ _ _ _ _ T49 (mkF m 29 #[.val (.long i0), .second, .val (.int i1), .val (.int i2), .val (.int i3), .val (.int (8 : Int32)), .val (.ref c8), .val (.double x0), .second, .unset, .unset, .unset, .unset, .unset, .unset] [])
    refine Go.step (fun tt kk => XS.iloadN X49.here hx rfl (hb hby at_29) rfl kk) ?_
    show Go _ _ _ _ _ _ _ T49 (mkF m 30 _ [(.int i2)])
    refine Go.step (fun tt kk => XS.iconst X49.here hx rfl (hb hby at_30) kk) ?_
    show Go _ _ _ _ _ _ _ T49 (mkF m 31 _ [(.int (1 : Int32)), (.int i2)])
    refine Go.step (fun tt kk => XS.iand X49.here hx rfl (hb hby at_31) rfl kk) ?_
    show Go _ _ _ _ _ _ _ T49 (mkF m 32 _ [(.int (i2 &&& (1 : Int32)))])
    by_cases c32_50 : (i2 &&& (1 : Int32)) = (0 : Int32)
    · refine Go.step (fun tt kk => XS.ifYes X49.here hx rfl (pc0 := 32) (pc' := 41) rfl (hb hby at_32) rfl ((if0 _ _).trans (teq c32_50).1) (by decide) (by decide) kk) ?_
      show Go _ _ _ _ _ _ _ T49 (mkF m 41 _ [])
      refine Go.step (fun tt kk => XS.dload X49.here hx rfl (hb hby at_41) rfl kk) ?_
      show Go _ _ _ _ _ _ _ T49 (mkF m 43 _ [(.double x0)])
      refine Go.step (fun tt kk => XS.dstore X49.here hx rfl (hb hby at_43) rfl (l' := #[.val (.long i0), .second, .val (.int i1), .val (.int i2), .val (.int i3), .val (.int (8 : Int32)), .val (.ref c8), .val (.double x0), .second, .val (.double x0), .second, .unset, .unset, .unset, .unset]) rfl kk) ?_
      show Go _ _ _ _ _ _ _ T49 (mkF m 45 _ [])
      refine Go.step (fun tt kk => XS.aload X49.here hx rfl (hb hby at_45) rfl rfl kk) ?_
      show Go _ _ _ _ _ _ _ T49 (mkF m 47 _ [(.ref c8)])
      refine Go.step (fun tt kk => XS.dload X49.here hx rfl (hb hby at_47) rfl kk) ?_
      show Go _ _ _ _ _ _ _ T49 (mkF m 49 _ [(.double x0), (.ref c8)])
      obtain ⟨v51, T51, L51, X51, q51, st51⟩ := c_virt X49 hx hZ hown (y' := (⟨"com/example/tallowcast/tallowcast/graph/Arithmetic$Operation", "single", "(D)D"⟩ : MethodName)) (y := (⟨"com/example/tallowcast/tallowcast/graph/Arithmetic$Operation", "single", "(D)D"⟩ : MethodName)) (C := "com/example/tallowcast/tallowcast/graph/Arithmetic$Operation") (hw _ (List.mem_of_getElem? (i := 8) rfl)) (hw _ (List.mem_of_getElem? (i := 9) rfl)) (notFace_of_selects (args := #[]) (mvT hZ (hw _ (List.mem_of_getElem? (i := 11) rfl)))) (hw _ (List.mem_of_getElem? (i := 11) rfl)) (hw _ (List.mem_of_getElem? (i := 10) rfl)) (hw _ (List.mem_of_getElem? (i := 6) rfl)) (hw _ (List.mem_of_getElem? (i := 12) rfl)) (by decide) (a := c8) (argsL := [(.double x0)]) (rest := []) (rmS8 l Z a0 hw [] c8 x0 h0 n0 Z0 ha0 E8 F8) e49 E8 pd_2 rfl (by rw [hml]; rfl) (W := 0) (by show 2 * 0 + _ ≤ _; exact Nat.le_of_eq rfl) (by decide) (by decide) (by decide) (by decide) (hb hby at_49) (Ls := #[.val (.long i0), .second, .val (.int i1), .val (.int i2), .val (.int i3), .val (.int (8 : Int32)), .val (.ref c8), .val (.double x0), .second, .val (.double x0), .second, .unset, .unset, .unset, .unset])
      obtain ⟨rfl, rfl, e51⟩ := q51
      have N51 := Fr.app N49 (Fr.nil n0)
      refine Go.step (st51) ?_
      show Go _ _ _ _ _ _ _ T51 (mkF m 52 _ [(.double x0)])
      refine Go.step (fun tt kk => XS.dstore X51.here hx rfl (hb hby at_52) rfl (l' := #[.val (.long i0), .second, .val (.int i1), .val (.int i2), .val (.int i3), .val (.int (8 : Int32)), .val (.ref c8), .val (.double x0), .second, .val (.double x0), .second, .val (.double x0), .second, .unset, .unset]) rfl kk) ?_
      show Go _ _ _ _ _ _ _ T51 (mkF m 54 _ [])
      refine Go.step (fun tt kk => XS.iload X51.here hx rfl (hb hby at_54) rfl kk) ?_
      show Go _ _ _ _ _ _ _ T51 (mkF m 56 _ [(.int (8 : Int32))])
      refine Go.step (fun tt kk => XS.iconst X51.here hx rfl (hb hby at_56) kk) ?_
      show Go _ _ _ _ _ _ _ T51 (mkF m 57 _ [(.int (1 : Int32)), (.int (8 : Int32))])
      refine Go.step (fun tt kk => XS.icmpYes X51.here hx rfl (pc0 := 57) (pc' := 68) rfl (hb hby at_57) rfl (feq (by decide)).2 (by decide) (by decide) kk) ?_
      show Go _ _ _ _ _ _ _ T51 (mkF m 68 _ [])
      refine Go.step (fun tt kk => XS.iload X51.here hx rfl (hb hby at_68) rfl kk) ?_
      show Go _ _ _ _ _ _ _ T51 (mkF m 70 _ [(.int (8 : Int32))])
      refine Go.step (fun tt kk => XS.iconst X51.here hx rfl (hb hby at_70) kk) ?_
      show Go _ _ _ _ _ _ _ T51 (mkF m 71 _ [(.int (3 : Int32)), (.int (8 : Int32))])
      refine Go.step (fun tt kk => XS.icmpYes X51.here hx rfl (pc0 := 71) (pc' := 83) rfl (hb hby at_71) rfl (feq (by decide)).2 (by decide) (by decide) kk) ?_
      show Go _ _ _ _ _ _ _ T51 (mkF m 83 _ [])
      refine Go.step (fun tt kk => XS.dload X51.here hx rfl (hb hby at_83) rfl kk) ?_
      show Go _ _ _ _ _ _ _ T51 (mkF m 85 _ [(.double x0)])
      refine Go.step (fun tt kk => XS.dstore X51.here hx rfl (hb hby at_85) rfl (l' := #[.val (.long i0), .second, .val (.int i1), .val (.int i2), .val (.int i3), .val (.int (8 : Int32)), .val (.ref c8), .val (.double x0), .second, .val (.double x0), .second, .val (.double x0), .second, .val (.double x0), .second]) rfl kk) ?_
      show Go _ _ _ _ _ _ _ T51 (mkF m 87 _ [])
      refine Go.step (fun tt kk => XS.dload X51.here hx rfl (hb hby at_87) rfl kk) ?_
      show Go _ _ _ _ _ _ _ T51 (mkF m 89 _ [(.double x0)])
      refine Go.step (fun tt kk => XS.dload X51.here hx rfl (hb hby at_89) rfl kk) ?_
      show Go _ _ _ _ _ _ _ T51 (mkF m 91 _ [(.double x0), (.double x0)])
      obtain ⟨v52, T52, L52, X52, q52, st52⟩ := c_static X51 hx hZ hown (y := (⟨"com/example/tallowcast/tallowcast/graph/OperationSinglePinLaw", "same", "(DD)Z"⟩ : MethodName)) (hw _ (List.mem_of_getElem? (i := 22) rfl)) (hw _ (List.mem_of_getElem? (i := 23) rfl)) (hw _ (List.mem_of_getElem? (i := 3) rfl)) (hw _ (List.mem_of_getElem? (i := 24) rfl)) (by decide) (argsL := [(.double x0), (.double x0)]) (rest := []) (rmE l Z a0 hw [] x0 h0 n0 Z0 ha0) e51 pd_3 rfl (by rw [hml]; rfl) (W := 0) (by show 2 * 0 + _ ≤ _; exact Nat.le_of_eq rfl) (by decide) (by decide) (by decide) (by decide) (hb hby at_91) (Ls := #[.val (.long i0), .second, .val (.int i1), .val (.int i2), .val (.int i3), .val (.int (8 : Int32)), .val (.ref c8), .val (.double x0), .second, .val (.double x0), .second, .val (.double x0), .second, .val (.double x0), .second])
      obtain ⟨rfl, rfl, e52⟩ := q52
      have N52 := Fr.app N51 (Fr.nil n0)
      refine Go.step (st52) ?_
      show Go _ _ _ _ _ _ _ T52 (mkF m 94 _ [(.int (1 : Int32))])
      refine go_retN X52 hx (t := .boolean) hret (by simp) hlk (hb hby at_94) (w := (1 : Int32)) rfl ?_ (by decide) (by decide)
      try rw [e52]
      exact ⟨rfl, N52⟩
    · refine Go.step (fun tt kk => XS.ifNo X49.here hx rfl (hb hby at_32) rfl ((if0 _ _).trans (feq c32_50).1) kk) ?_
      show Go _ _ _ _ _ _ _ T49 (mkF m 35 _ [])
      refine Go.step (fun tt kk => XS.dload X49.here hx rfl (hb hby at_35) rfl kk) ?_
      show Go _ _ _ _ _ _ _ T49 (mkF m 37 _ [(.double x0)])
      refine Go.step (fun tt kk => XS.dnegS X49.here hx rfl (hb hby at_37) rfl rfl kk) ?_
      show Go _ _ _ _ _ _ _ T49 (mkF m 38 _ [(.double (FP.dneg x0))])
      refine Go.step (fun tt kk => XS.goto X49.here hx rfl (pc0 := 38) (pc' := 43) rfl (hb hby at_38) (by decide) (by decide) kk) ?_
      show Go _ _ _ _ _ _ _ T49 (mkF m 43 _ [(.double (FP.dneg x0))])
      refine Go.step (fun tt kk => XS.dstore X49.here hx rfl (hb hby at_43) rfl (l' := #[.val (.long i0), .second, .val (.int i1), .val (.int i2), .val (.int i3), .val (.int (8 : Int32)), .val (.ref c8), .val (.double x0), .second, .val (.double (FP.dneg x0)), .second, .unset, .unset, .unset, .unset]) rfl kk) ?_
      show Go _ _ _ _ _ _ _ T49 (mkF m 45 _ [])
      refine Go.step (fun tt kk => XS.aload X49.here hx rfl (hb hby at_45) rfl rfl kk) ?_
      show Go _ _ _ _ _ _ _ T49 (mkF m 47 _ [(.ref c8)])
      refine Go.step (fun tt kk => XS.dload X49.here hx rfl (hb hby at_47) rfl kk) ?_
      show Go _ _ _ _ _ _ _ T49 (mkF m 49 _ [(.double (FP.dneg x0)), (.ref c8)])
      obtain ⟨v53, T53, L53, X53, q53, st53⟩ := c_virt X49 hx hZ hown (y' := (⟨"com/example/tallowcast/tallowcast/graph/Arithmetic$Operation", "single", "(D)D"⟩ : MethodName)) (y := (⟨"com/example/tallowcast/tallowcast/graph/Arithmetic$Operation", "single", "(D)D"⟩ : MethodName)) (C := "com/example/tallowcast/tallowcast/graph/Arithmetic$Operation") (hw _ (List.mem_of_getElem? (i := 8) rfl)) (hw _ (List.mem_of_getElem? (i := 9) rfl)) (notFace_of_selects (args := #[]) (mvT hZ (hw _ (List.mem_of_getElem? (i := 11) rfl)))) (hw _ (List.mem_of_getElem? (i := 11) rfl)) (hw _ (List.mem_of_getElem? (i := 10) rfl)) (hw _ (List.mem_of_getElem? (i := 6) rfl)) (hw _ (List.mem_of_getElem? (i := 12) rfl)) (by decide) (a := c8) (argsL := [(.double (FP.dneg x0))]) (rest := []) (rmS8 l Z a0 hw [] c8 (FP.dneg x0) h0 n0 Z0 ((dneg_iff _).mpr ha0) E8 F8) e49 E8 pd_2 rfl (by rw [hml]; rfl) (W := 0) (by show 2 * 0 + _ ≤ _; exact Nat.le_of_eq rfl) (by decide) (by decide) (by decide) (by decide) (hb hby at_49) (Ls := #[.val (.long i0), .second, .val (.int i1), .val (.int i2), .val (.int i3), .val (.int (8 : Int32)), .val (.ref c8), .val (.double x0), .second, .val (.double (FP.dneg x0)), .second, .unset, .unset, .unset, .unset])
      obtain ⟨rfl, rfl, e53⟩ := q53
      have N53 := Fr.app N49 (Fr.nil n0)
      refine Go.step (st53) ?_
      show Go _ _ _ _ _ _ _ T53 (mkF m 52 _ [(.double (FP.dneg x0))])
      refine Go.step (fun tt kk => XS.dstore X53.here hx rfl (hb hby at_52) rfl (l' := #[.val (.long i0), .second, .val (.int i1), .val (.int i2), .val (.int i3), .val (.int (8 : Int32)), .val (.ref c8), .val (.double x0), .second, .val (.double (FP.dneg x0)), .second, .val (.double (FP.dneg x0)), .second, .unset, .unset]) rfl kk) ?_
      show Go _ _ _ _ _ _ _ T53 (mkF m 54 _ [])
      refine Go.step (fun tt kk => XS.iload X53.here hx rfl (hb hby at_54) rfl kk) ?_
      show Go _ _ _ _ _ _ _ T53 (mkF m 56 _ [(.int (8 : Int32))])
      refine Go.step (fun tt kk => XS.iconst X53.here hx rfl (hb hby at_56) kk) ?_
      show Go _ _ _ _ _ _ _ T53 (mkF m 57 _ [(.int (1 : Int32)), (.int (8 : Int32))])
      refine Go.step (fun tt kk => XS.icmpYes X53.here hx rfl (pc0 := 57) (pc' := 68) rfl (hb hby at_57) rfl (feq (by decide)).2 (by decide) (by decide) kk) ?_
      show Go _ _ _ _ _ _ _ T53 (mkF m 68 _ [])
      refine Go.step (fun tt kk => XS.iload X53.here hx rfl (hb hby at_68) rfl kk) ?_
      show Go _ _ _ _ _ _ _ T53 (mkF m 70 _ [(.int (8 : Int32))])
      refine Go.step (fun tt kk => XS.iconst X53.here hx rfl (hb hby at_70) kk) ?_
      show Go _ _ _ _ _ _ _ T53 (mkF m 71 _ [(.int (3 : Int32)), (.int (8 : Int32))])
      refine Go.step (fun tt kk => XS.icmpYes X53.here hx rfl (pc0 := 71) (pc' := 83) rfl (hb hby at_71) rfl (feq (by decide)).2 (by decide) (by decide) kk) ?_
      show Go _ _ _ _ _ _ _ T53 (mkF m 83 _ [])
      refine Go.step (fun tt kk => XS.dload X53.here hx rfl (hb hby at_83) rfl kk) ?_
      show Go _ _ _ _ _ _ _ T53 (mkF m 85 _ [(.double (FP.dneg x0))])
      refine Go.step (fun tt kk => XS.dstore X53.here hx rfl (hb hby at_85) rfl (l' := #[.val (.long i0), .second, .val (.int i1), .val (.int i2), .val (.int i3), .val (.int (8 : Int32)), .val (.ref c8), .val (.double x0), .second, .val (.double (FP.dneg x0)), .second, .val (.double (FP.dneg x0)), .second, .val (.double (FP.dneg x0)), .second]) rfl kk) ?_
      show Go _ _ _ _ _ _ _ T53 (mkF m 87 _ [])
      refine Go.step (fun tt kk => XS.dload X53.here hx rfl (hb hby at_87) rfl kk) ?_
      show Go _ _ _ _ _ _ _ T53 (mkF m 89 _ [(.double (FP.dneg x0))])
      refine Go.step (fun tt kk => XS.dload X53.here hx rfl (hb hby at_89) rfl kk) ?_
      show Go _ _ _ _ _ _ _ T53 (mkF m 91 _ [(.double (FP.dneg x0)), (.double (FP.dneg x0))])
      obtain ⟨v54, T54, L54, X54, q54, st54⟩ := c_static X53 hx hZ hown (y := (⟨"com/example/tallowcast/tallowcast/graph/OperationSinglePinLaw", "same", "(DD)Z"⟩ : MethodName)) (hw _ (List.mem_of_getElem? (i := 22) rfl)) (hw _ (List.mem_of_getElem? (i := 23) rfl)) (hw _ (List.mem_of_getElem? (i := 3) rfl)) (hw _ (List.mem_of_getElem? (i := 24) rfl)) (by decide) (argsL := [(.double (FP.dneg x0)), (.double (FP.dneg x0))]) (rest := []) (rmE l Z a0 hw [] (FP.dneg x0) h0 n0 Z0 ((dneg_iff _).mpr ha0)) e53 pd_3 rfl (by rw [hml]; rfl) (W := 0) (by show 2 * 0 + _ ≤ _; exact Nat.le_of_eq rfl) (by decide) (by decide) (by decide) (by decide) (hb hby at_91) (Ls := #[.val (.long i0), .second, .val (.int i1), .val (.int i2), .val (.int i3), .val (.int (8 : Int32)), .val (.ref c8), .val (.double x0), .second, .val (.double (FP.dneg x0)), .second, .val (.double (FP.dneg x0)), .second, .val (.double (FP.dneg x0)), .second])
      obtain ⟨rfl, rfl, e54⟩ := q54
      have N54 := Fr.app N53 (Fr.nil n0)
      refine Go.step (st54) ?_
      show Go _ _ _ _ _ _ _ T54 (mkF m 94 _ [(.int (1 : Int32))])
      refine go_retN X54 hx (t := .boolean) hret (by simp) hlk (hb hby at_94) (w := (1 : Int32)) rfl ?_ (by decide) (by decide)
      try rw [e54]
      exact ⟨rfl, N54⟩
theorem own_fld {args : Array Value} {s : State} {t : Term} {a : Addr} {C n d : String} {k : Int32} (ev : t.eval args s none [] s = some (.ref a)) (h : (Jvm.Cond.eq (.field t C n d) (.int k)).value args s none s [] = some true) : Fld s s.heap a C n d (.int k) := by
  obtain ⟨x, y, ha, hb, -⟩ := cmp_v (Or.inl h)
  have hc := (fld_at ev).symm.trans ha
  have hy : y = .int k := (Option.some.inj hb).symm
  subst hy
  have hx : x = .int k := by
    simp only [Cond.value, ha, hb] at h
    cases x <;> simp at h
    rw [h]
  subst hx
  exact Fld.start hc
set_option maxRecDepth 65536 in
set_option maxHeartbeats 40000000 in
theorem comes_1 {Post : Tables → Env → Array Value → State → Outcome → State → Prop} (hpost : ∀ tb e args s v u, (limb_1_1.after args s (.returned v) u = true ∧ limb_1_2.after args s (.returned v) u = true ∧ True) → FrameEnd s (.returned v) u (Jvm.fieldLocs frame_1_writes args s ++ Jvm.arrayLocs frame_1_arrays args s ++ Jvm.staticLocs frame_1_statics s) 0 0 → Post tb e args s (.returned v) u) :
    ArmFor flags0 classFile x code maxLocals ret World_1 tables_1 room_1 Calls_1 rest_1 Pre_1 Post := by
  intro l hfl _ _ p e ha hc hk s m args below hf hA hF happ hP
  obtain ⟨hcalls, hrest, hpre⟩ := hP
  obtain ⟨-, -, -, hnamed, -, -, -, hat⟩ := (Spec.applies_iff hf).mp happ
  obtain ⟨hg, hn⟩ := and_e (Cond.before_iff.mp (show (Jvm.Cond.and given_1 narrow_1).before args s = true from hpre))
  obtain ⟨hcnt, hg1⟩ := and_e hg
  obtain ⟨ha0, hg2⟩ := and_e hg1
  obtain ⟨ha1, hg3⟩ := and_e hg2
  obtain ⟨ha2, hg4⟩ := and_e hg3
  obtain ⟨w0, w1, w2, w3, rfl⟩ : ∃ w0 w1 w2 w3 : Value, args = #[w0, w1, w2, w3] := by
    have hs : args.size = 4 := by simpa [Cond.value, given_1] using hcnt
    obtain ⟨L⟩ := args
    match L, hs with
    | [w0, w1, w2, w3], _ => exact ⟨w0, w1, w2, w3, rfl⟩
  have hw := fun d (hd : d ∈ tables_1) => atoms_spec (ws := Jvm.Cond.code x code maxLocals ret :: tables_1) hat d (List.mem_cons_of_mem _ hd)
  have hfit : Fit s := fun {y c} hc i hi => by
    obtain ⟨ha, rfl⟩ := Array.getElem?_eq_some_iff.mp hc
    have q := List.all_eq_true.mp ((Array.all_eq_true_iff_forall_mem.mp hF) _ (Array.getElem_mem ha)) i (List.mem_range.mpr hi)
    simpa [Array.getElem?_eq_getElem hi] using q
  obtain ⟨i0, ei0⟩ := isL_v ha0
  obtain rfl : w0 = (.long i0) := Option.some.inj ei0
  obtain ⟨i1, ei1⟩ := is_v ha1
  obtain rfl : w1 = (.int i1) := Option.some.inj ei1
  obtain ⟨i2, ei2⟩ := is_v ha2
  obtain rfl : w2 = (.int i2) := Option.some.inj ei2
  obtain ⟨i3, ei3⟩ := is_v hg4
  obtain rfl : w3 = (.int i3) := Option.some.inj ei3
  obtain ⟨nw0, nr0⟩ := and_e hn
  obtain ⟨c0, ev0⟩ := exa_v nw0
  have E0 := Exa.start ev0 nw0
  have S0 := Sta.start ev0 (Or.inr ⟨(hw _ (List.mem_of_getElem? (i := 6) rfl)), (hw _ (List.mem_of_getElem? (i := 7) rfl))⟩)
  obtain ⟨nw1, nr1⟩ := and_e nr0
  have F0 := own_fld ev0 nw1
  obtain ⟨nw2, nr2⟩ := and_e nr1
  obtain ⟨c7, ev7⟩ := exa_v nw2
  have E7 := Exa.start ev7 nw2
  have S7 := Sta.start ev7 (Or.inr ⟨(hw _ (List.mem_of_getElem? (i := 6) rfl)), (hw _ (List.mem_of_getElem? (i := 26) rfl))⟩)
  obtain ⟨nw3, nr3⟩ := and_e nr2
  have F7 := own_fld ev7 nw3
  obtain ⟨nw4, nr4⟩ := and_e nr3
  obtain ⟨c8, ev8⟩ := exa_v nw4
  have E8 := Exa.start ev8 nw4
  have S8 := Sta.start ev8 (Or.inr ⟨(hw _ (List.mem_of_getElem? (i := 6) rfl)), (hw _ (List.mem_of_getElem? (i := 28) rfl))⟩)
  obtain ⟨nw5, nr5⟩ := and_e nr4
  have F8 := own_fld ev8 nw5
  obtain ⟨nw6, nr6⟩ := and_e nr5
  obtain ⟨c4, ev4⟩ := exa_v nw6
  have E4 := Exa.start ev4 nw6
  have S4 := Sta.start ev4 (Or.inr ⟨(hw _ (List.mem_of_getElem? (i := 6) rfl)), (hw _ (List.mem_of_getElem? (i := 30) rfl))⟩)
  obtain ⟨nw7, nr7⟩ := and_e nr6
  have F4 := own_fld ev4 nw7
  obtain ⟨nw8, nr8⟩ := and_e nr7
  obtain ⟨c3, ev3⟩ := exa_v nw8
  have E3 := Exa.start ev3 nw8
  have S3 := Sta.start ev3 (Or.inr ⟨(hw _ (List.mem_of_getElem? (i := 6) rfl)), (hw _ (List.mem_of_getElem? (i := 32) rfl))⟩)
  obtain ⟨nw9, nr9⟩ := and_e nr8
  have F3 := own_fld ev3 nw9
  obtain ⟨nw10, nr10⟩ := and_e nr9
  obtain ⟨c2, ev2⟩ := exa_v nw10
  have E2 := Exa.start ev2 nw10
  have S2 := Sta.start ev2 (Or.inr ⟨(hw _ (List.mem_of_getElem? (i := 6) rfl)), (hw _ (List.mem_of_getElem? (i := 34) rfl))⟩)
  obtain ⟨nw11, nr11⟩ := and_e nr10
  have F2 := own_fld ev2 nw11
  obtain ⟨nw12, nr12⟩ := and_e nr11
  obtain ⟨c6, ev6⟩ := exa_v nw12
  have E6 := Exa.start ev6 nw12
  have S6 := Sta.start ev6 (Or.inr ⟨(hw _ (List.mem_of_getElem? (i := 6) rfl)), (hw _ (List.mem_of_getElem? (i := 36) rfl))⟩)
  obtain ⟨nw13, nr13⟩ := and_e nr12
  have F6 := own_fld ev6 nw13
  obtain ⟨nw14, nr14⟩ := and_e nr13
  obtain ⟨c5, ev5⟩ := exa_v nw14
  have E5 := Exa.start ev5 nw14
  have S5 := Sta.start ev5 (Or.inr ⟨(hw _ (List.mem_of_getElem? (i := 6) rfl)), (hw _ (List.mem_of_getElem? (i := 38) rfl))⟩)
  obtain ⟨nw15, nr15⟩ := and_e nr14
  have F5 := own_fld ev5 nw15
  obtain ⟨nw16, nr16⟩ := and_e nr15
  obtain ⟨c1, ev1⟩ := exa_v nw16
  have E1 := Exa.start ev1 nw16
  have S1 := Sta.start ev1 (Or.inr ⟨(hw _ (List.mem_of_getElem? (i := 6) rfl)), (hw _ (List.mem_of_getElem? (i := 40) rfl))⟩)
  have F1 := own_fld ev1 nr16
  obtain ⟨n, o, h1, h2, h3, _, L, rfl, ⟨rfl, N⟩, hq⟩ := rm0 l s _ hw tables_1 i0 i1 i2 i3 c0 c1 c2 c3 c4 c5 c6 c7 c8 s.heap s.heap.size (Nat.le_refl _) S0 S1 S2 S3 S4 S5 S6 S7 S8 E0 E1 E2 E3 E4 E5 E6 E7 E8 F0 F1 F2 F3 F4 F5 F6 F7 F8 p e ha hc hk s m _ below hf ((Spec.applies_iff_loose hf).mp happ).1 ⟨rfl, State.Warmed39.refl s, rfl⟩ trivial
  refine ⟨n, _, h1, h2, h3, hpost _ _ _ _ _ _ ⟨Cond.after_iff.mpr rfl, Cond.after_iff.mpr (eq_i res_at (Term.int_eval (1)) rfl), trivial⟩ ⟨hq.1, hq.2.1, (hq.2.2.sift fun y hy => Or.inr (N y hy)).mono (by decide) (by decide)⟩⟩
theorem main_1_1 : Claimed_1_1 := comes_1 fun _ _ _ _ _ _ h hF => ⟨h.1, hF⟩
theorem main_1_2 : Claimed_1_2 := comes_1 fun _ _ _ _ _ _ h hF => ⟨h.2.1, hF⟩
end Jvm.Pilot.@@N@@
namespace Jvm.Pilot.@@N@@
open Jvm Jvm.ClassFile Sem Op Lib Jvm.Free Jvm.Stand Jvm.Pilot.@@N@@.Jvm.D
/-! MADE BY PROGRAM (witnessworld.py) out of the Statement's table words and the real class files: 12 classes; the members and pool entries that the words name. The judged class is class 1, her method 1. -/
namespace start1
open Jvm.ClassFile
def u (s : String) : CpInfo := .utf8 (stringToUtf16 s)
/-- a pool by its gaps: so many unusable entries, then the entry; so many at the end -/
def gap : Nat → List CpInfo → List CpInfo
  | 0, r => r
  | n + 1, r => .unusable :: gap n r
def poolList (es : List (Nat × CpInfo)) (last : Nat) : List CpInfo := es.foldr (fun e r => gap e.1 (e.2 :: r)) (gap last [])
def pool (es : List (Nat × CpInfo)) (last : Nat) : Array CpInfo := ⟨poolList es last⟩
def fileOf (pool : Array CpInfo) (this : Nat) (attrs : Array Attribute := #[]) (ms : Array MethodInfo := #[]) (fl : Nat := 33) (sup : Nat := 0) (ifs : Array Nat := #[]) (fds : Array FieldInfo := #[]) : ClassFile where
  minorVersion := 0
  majorVersion := 65
  constantPool := pool
  accessFlags := fl
  thisClass := this
  superClass := sup
  interfaces := ifs
  fields := fds
  methods := ms
  attributes := attrs
def plain (name : String) (sup : Option ClassId) : Class where
  name := name
  kind := .ordinary
  loader := none
  accessFlags := 33
  super := sup
  interfaces := #[]
  cf := none
  fields := #[]
  methods := #[]
  instanceTypes := #[]
  staticTypes := #[]
  resolved := #[]
  callSites := []
  init := .initialized
  statics := none
  mirror := none

def pool0 : Array CpInfo := pool [(5, u "<init>"), (0, u "()V"), (1, .class_ 10), (1, u "java/lang/Object")] 113

def k0m0 : Method := { name := "<init>", desc := "()V", sig := { parameters := [], returnType := none }, accessFlags := 1, code := none }
/-- java/lang/Object -/
def k0 : Class := { plain "java/lang/Object" none with
  accessFlags := 33
  interfaces := #[]
  cf := some (fileOf pool0 8 #[] #[{ accessFlags := 1, nameIndex := 5, descriptorIndex := 6, attributes := #[] }] 33 0 #[] #[])
  fields := #[]
  methods := #[k0m0]
  instanceTypes := #[]
  staticTypes := #[]
  resolved := Array.replicate 124 none
  statics := none }

def pool1 : Array CpInfo := pool [(2, .class_ 4), (1, u "java/lang/Object"), (0, u "<init>"), (0, u "()V"), (0, .integer 2147483647), (0, .methodref 9 10), (0, .class_ 11), (0, .nameAndType 12 13), (0, u "com/example/tallowcast/tallowcast/graph/OperationSinglePinLaw"), (0, u "pick"), (0, u "(I)Lcom/example/tallowcast/tallowcast/graph/Arithmetic$Operation;"), (0, .methodref 15 16), (0, .class_ 17), (0, .nameAndType 18 19), (0, u "com/example/tallowcast/tallowcast/graph/Arithmetic$Operation"), (0, u "single"), (0, u "(D)D"), (0, .methodref 9 21), (0, .nameAndType 22 23), (0, u "same"), (0, u "(DD)Z"), (0, .fieldref 15 25), (0, .nameAndType 26 27), (0, u "SUM"), (0, u "Lcom/example/tallowcast/tallowcast/graph/Arithmetic$Operation;"), (0, .fieldref 15 29), (0, .nameAndType 30 27), (0, u "DIFFERENCE"), (0, .fieldref 15 32), (0, .nameAndType 33 27), (0, u "PRODUCT"), (0, .fieldref 15 35), (0, .nameAndType 36 27), (0, u "QUOTIENT"), (0, .fieldref 15 38), (0, .nameAndType 39 27), (0, u "MAX"), (0, .fieldref 15 41), (0, .nameAndType 42 27), (0, u "MIN"), (0, .fieldref 15 44), (0, .nameAndType 45 27), (0, u "GREATER"), (0, .fieldref 15 47), (0, .nameAndType 48 27), (0, u "LESS"), (0, .fieldref 15 50), (0, .nameAndType 51 27), (0, u "EQUAL"), (2, u "law"), (0, u "(JIII)Z")] 7

def k1m0 : Method := { name := "<init>", desc := "()V", sig := { parameters := [], returnType := none }, accessFlags := 1, code := none }
def k1c1 : Code := { maxStack := 4, maxLocals := 15, code := code, exceptionTable := #[], attributes := #[] }
def k1m1 : Method := { name := "law", desc := "(JIII)Z", sig := { parameters := [.long, .int, .int, .int], returnType := some .boolean }, accessFlags := 9, code := some k1c1 }
def k1c2 : Code := { maxStack := 2, maxLocals := 1, code := method_3_code, exceptionTable := #[], attributes := #[] }
def k1m2 : Method := { name := "pick", desc := "(I)Lcom/example/tallowcast/tallowcast/graph/Arithmetic$Operation;", sig := { parameters := [.int], returnType := some (.object "com/example/tallowcast/tallowcast/graph/Arithmetic$Operation") }, accessFlags := 10, code := some k1c2 }
def k1c3 : Code := { maxStack := 6, maxLocals := 4, code := method_4_code, exceptionTable := #[], attributes := #[] }
def k1m3 : Method := { name := "same", desc := "(DD)Z", sig := { parameters := [.double, .double], returnType := some .boolean }, accessFlags := 10, code := some k1c3 }
/-- com/example/tallowcast/tallowcast/graph/OperationSinglePinLaw -/
def k1 : Class := { plain "com/example/tallowcast/tallowcast/graph/OperationSinglePinLaw" (some 0) with
  accessFlags := 49
  interfaces := #[]
  cf := some (fileOf pool1 9 #[] #[{ accessFlags := 1, nameIndex := 5, descriptorIndex := 6, attributes := #[] }, { accessFlags := 9, nameIndex := 54, descriptorIndex := 55, attributes := #[] }, { accessFlags := 10, nameIndex := 12, descriptorIndex := 13, attributes := #[] }, { accessFlags := 10, nameIndex := 22, descriptorIndex := 23, attributes := #[] }] 49 2 #[] #[])
  fields := #[]
  methods := #[k1m0, k1m1, k1m2, k1m3]
  instanceTypes := #[]
  staticTypes := #[]
  resolved := Array.replicate 63 none
  statics := none }

def pool2 : Array CpInfo := pool [(1, .class_ 2), (0, u "java/lang/constant/Constable"), (0, .class_ 4), (0, u "java/lang/Object")] 6

/-- java/lang/constant/Constable -/
def k2 : Class := { plain "java/lang/constant/Constable" (some 0) with
  accessFlags := 1537
  interfaces := #[]
  cf := some (fileOf pool2 1 #[] #[] 1537 3 #[] #[])
  fields := #[]
  methods := #[]
  instanceTypes := #[]
  staticTypes := #[]
  resolved := Array.replicate 11 none
  statics := none }

def pool3 : Array CpInfo := pool [(1, .class_ 2), (0, u "java/lang/Comparable"), (0, .class_ 4), (0, u "java/lang/Object")] 7

/-- java/lang/Comparable -/
def k3 : Class := { plain "java/lang/Comparable" (some 0) with
  accessFlags := 1537
  interfaces := #[]
  cf := some (fileOf pool3 1 #[] #[] 1537 3 #[] #[])
  fields := #[]
  methods := #[]
  instanceTypes := #[]
  staticTypes := #[]
  resolved := Array.replicate 12 none
  statics := none }

def pool4 : Array CpInfo := pool [(1, .class_ 2), (0, u "java/io/Serializable"), (0, .class_ 4), (0, u "java/lang/Object")] 2

/-- java/io/Serializable -/
def k4 : Class := { plain "java/io/Serializable" (some 0) with
  accessFlags := 1537
  interfaces := #[]
  cf := some (fileOf pool4 1 #[] #[] 1537 3 #[] #[])
  fields := #[]
  methods := #[]
  instanceTypes := #[]
  staticTypes := #[]
  resolved := Array.replicate 7 none
  statics := none }

def pool5 : Array CpInfo := pool [(2, .class_ 4), (1, u "java/lang/Enum"), (0, u "name"), (0, u "Ljava/lang/String;"), (0, .fieldref 2 8), (0, .nameAndType 9 10), (0, u "ordinal"), (0, u "I"), (1, .class_ 14), (1, u "java/lang/Object"), (4, u "hash"), (86, .class_ 108), (1, u "java/lang/Enum$EnumDesc"), (2, .class_ 112), (0, u "java/lang/constant/Constable"), (0, .class_ 114), (0, u "java/lang/Comparable"), (0, .class_ 116), (0, u "java/io/Serializable"), (9, u "()I")] 77

def k5c0 : Code := { maxStack := 1, maxLocals := 1, code := jdk_37_method_2_code, exceptionTable := #[], attributes := #[] }
def k5m0 : Method := { name := "ordinal", desc := "()I", sig := { parameters := [], returnType := some .int }, accessFlags := 17, code := some k5c0 }
/-- java/lang/Enum -/
def k5 : Class := { plain "java/lang/Enum" (some 0) with
  accessFlags := 1057
  interfaces := #[2, 3, 4]
  cf := some (fileOf pool5 2 #[.nestMembers #[106]] #[{ accessFlags := 17, nameIndex := 9, descriptorIndex := 126, attributes := #[] }] 1057 12 #[111, 113, 115] #[{ accessFlags := 18, nameIndex := 5, descriptorIndex := 6, attributes := #[] }, { accessFlags := 18, nameIndex := 9, descriptorIndex := 10, attributes := #[] }, { accessFlags := 2, nameIndex := 19, descriptorIndex := 10, attributes := #[] }])
  fields := #[{ name := "name", type := (.object "java/lang/String"), accessFlags := 18, slot := 0, constantValue := 0 }, { name := "ordinal", type := .int, accessFlags := 18, slot := 1, constantValue := 0 }, { name := "hash", type := .int, accessFlags := 2, slot := 2, constantValue := 0 }]
  methods := #[k5m0]
  instanceTypes := #[(.object "java/lang/String"), .int, .int]
  staticTypes := #[]
  resolved := Array.replicate 204 none
  statics := none }

def pool6 : Array CpInfo := pool [(1, .class_ 2), (0, u "com/example/tallowcast/tallowcast/graph/Arithmetic$Operation"), (2, u "SUM"), (0, u "Lcom/example/tallowcast/tallowcast/graph/Arithmetic$Operation;"), (2, u "DIFFERENCE"), (2, u "PRODUCT"), (2, u "QUOTIENT"), (2, u "MAX"), (2, u "MIN"), (2, u "GREATER"), (2, u "LESS"), (2, u "EQUAL"), (2, u "$VALUES"), (0, u "[Lcom/example/tallowcast/tallowcast/graph/Arithmetic$Operation;"), (6, .class_ 43), (1, u "java/lang/Enum"), (6, .methodref 1 51), (0, .nameAndType 52 53), (0, u "ordinal"), (0, u "()I"), (37, u "single"), (0, u "(D)D"), (5, .class_ 99), (0, u "com/example/tallowcast/tallowcast/graph/Arithmetic")] 2

def k6c0 : Code := { maxStack := 4, maxLocals := 3, code := prog_8_method_5_code, exceptionTable := #[], attributes := #[] }
def k6m0 : Method := { name := "single", desc := "(D)D", sig := { parameters := [.double], returnType := some .double }, accessFlags := 0, code := some k6c0 }
/-- com/example/tallowcast/tallowcast/graph/Arithmetic$Operation -/
def k6 : Class := { plain "com/example/tallowcast/tallowcast/graph/Arithmetic$Operation" (some 5) with
  accessFlags := 16432
  interfaces := #[]
  cf := some (fileOf pool6 1 #[.nestHost 98] #[{ accessFlags := 0, nameIndex := 91, descriptorIndex := 92, attributes := #[] }] 16432 41 #[] #[{ accessFlags := 16409, nameIndex := 5, descriptorIndex := 6, attributes := #[] }, { accessFlags := 16409, nameIndex := 9, descriptorIndex := 6, attributes := #[] }, { accessFlags := 16409, nameIndex := 12, descriptorIndex := 6, attributes := #[] }, { accessFlags := 16409, nameIndex := 15, descriptorIndex := 6, attributes := #[] }, { accessFlags := 16409, nameIndex := 18, descriptorIndex := 6, attributes := #[] }, { accessFlags := 16409, nameIndex := 21, descriptorIndex := 6, attributes := #[] }, { accessFlags := 16409, nameIndex := 24, descriptorIndex := 6, attributes := #[] }, { accessFlags := 16409, nameIndex := 27, descriptorIndex := 6, attributes := #[] }, { accessFlags := 16409, nameIndex := 30, descriptorIndex := 6, attributes := #[] }, { accessFlags := 4122, nameIndex := 33, descriptorIndex := 34, attributes := #[] }])
  fields := #[{ name := "SUM", type := (.object "com/example/tallowcast/tallowcast/graph/Arithmetic$Operation"), accessFlags := 16409, slot := 0, constantValue := 0 }, { name := "DIFFERENCE", type := (.object "com/example/tallowcast/tallowcast/graph/Arithmetic$Operation"), accessFlags := 16409, slot := 1, constantValue := 0 }, { name := "PRODUCT", type := (.object "com/example/tallowcast/tallowcast/graph/Arithmetic$Operation"), accessFlags := 16409, slot := 2, constantValue := 0 }, { name := "QUOTIENT", type := (.object "com/example/tallowcast/tallowcast/graph/Arithmetic$Operation"), accessFlags := 16409, slot := 3, constantValue := 0 }, { name := "MAX", type := (.object "com/example/tallowcast/tallowcast/graph/Arithmetic$Operation"), accessFlags := 16409, slot := 4, constantValue := 0 }, { name := "MIN", type := (.object "com/example/tallowcast/tallowcast/graph/Arithmetic$Operation"), accessFlags := 16409, slot := 5, constantValue := 0 }, { name := "GREATER", type := (.object "com/example/tallowcast/tallowcast/graph/Arithmetic$Operation"), accessFlags := 16409, slot := 6, constantValue := 0 }, { name := "LESS", type := (.object "com/example/tallowcast/tallowcast/graph/Arithmetic$Operation"), accessFlags := 16409, slot := 7, constantValue := 0 }, { name := "EQUAL", type := (.object "com/example/tallowcast/tallowcast/graph/Arithmetic$Operation"), accessFlags := 16409, slot := 8, constantValue := 0 }, { name := "$VALUES", type := (.array (.object "com/example/tallowcast/tallowcast/graph/Arithmetic$Operation")), accessFlags := 4122, slot := 9, constantValue := 0 }]
  methods := #[k6m0]
  instanceTypes := #[(.object "java/lang/String"), .int, .int]
  staticTypes := #[(.object "com/example/tallowcast/tallowcast/graph/Arithmetic$Operation"), (.object "com/example/tallowcast/tallowcast/graph/Arithmetic$Operation"), (.object "com/example/tallowcast/tallowcast/graph/Arithmetic$Operation"), (.object "com/example/tallowcast/tallowcast/graph/Arithmetic$Operation"), (.object "com/example/tallowcast/tallowcast/graph/Arithmetic$Operation"), (.object "com/example/tallowcast/tallowcast/graph/Arithmetic$Operation"), (.object "com/example/tallowcast/tallowcast/graph/Arithmetic$Operation"), (.object "com/example/tallowcast/tallowcast/graph/Arithmetic$Operation"), (.object "com/example/tallowcast/tallowcast/graph/Arithmetic$Operation"), (.array (.object "com/example/tallowcast/tallowcast/graph/Arithmetic$Operation"))]
  resolved := Array.replicate 102 none
  statics := some 0 }

def pool7 : Array CpInfo := pool [(1, u "java/lang/Cloneable"), (0, .class_ 1), (0, u "java/lang/Object"), (0, .class_ 3)] 3

/-- java/lang/Cloneable -/
def k7 : Class := { plain "java/lang/Cloneable" (some 0) with
  accessFlags := 1537
  interfaces := #[]
  cf := some (fileOf pool7 2 #[] #[] 1537 4 #[] #[])
  fields := #[]
  methods := #[]
  instanceTypes := #[]
  staticTypes := #[]
  resolved := Array.replicate 8 none
  statics := none }

/-- the primitive byte -/
def k8 : Class := { plain "byte" none with kind := .primitive 'B', accessFlags := 0x411 }
/-- [B -/
def k9 : Class := { plain "[B" (some 0) with kind := .array 8 .byte, interfaces := #[7, 4], accessFlags := 1041 }

/-- the primitive int -/
def k10 : Class := { plain "int" none with kind := .primitive 'I', accessFlags := 0x411 }
/-- [I -/
def k11 : Class := { plain "[I" (some 0) with kind := .array 10 .int, interfaces := #[7, 4], accessFlags := 1041 }

def heap : Heap := #[{ cls := 6, slots := #[.ref 1, .ref 2, .ref 3, .ref 4, .ref 5, .ref 6, .ref 7, .ref 8, .ref 9, .null], vm := .statics 6 },
  { cls := 6, slots := #[.null, .int 0, .int 0], vm := .none },
  { cls := 6, slots := #[.null, .int 1, .int 0], vm := .none },
  { cls := 6, slots := #[.null, .int 2, .int 0], vm := .none },
  { cls := 6, slots := #[.null, .int 3, .int 0], vm := .none },
  { cls := 6, slots := #[.null, .int 4, .int 0], vm := .none },
  { cls := 6, slots := #[.null, .int 5, .int 0], vm := .none },
  { cls := 6, slots := #[.null, .int 6, .int 0], vm := .none },
  { cls := 6, slots := #[.null, .int 7, .int 0], vm := .none },
  { cls := 6, slots := #[.null, .int 8, .int 0], vm := .none }]
def classes : Array Class := #[k0, k1, k2, k3, k4, k5, k6, k7, k8, k9, k10, k11]
def interned : List (Array UInt16 × Addr) := []
def slotsUsed : Nat := 37
def theMethod : MethodId := ⟨1, 1⟩
def args0 : Array Value := #[.long 5, .int 5, .int 5, .int 5]
def aboutOver (below : List Frame) : State where
  vm := { classes := classes, interned := interned.toArray }
  heap := heap
  slotsUsed := slotsUsed
  threads := #[{ frames := .invoking theMethod args0 :: below }]
def below0 : List Frame := [.native { method := ⟨0, 0⟩, args := #[] }]
def about1 : State := aboutOver below0
def p0 : Program := .bare "" "" ""
def e0 : Env := launch0.env 0 0 0
theorem w_frames : about1.frames = Frame.invoking theMethod args0 :: below0 := rfl
set_option maxRecDepth 65536 in
theorem w_args : argsFit about1.vm theMethod args0 = true := by decide +kernel
set_option maxRecDepth 65536 in
theorem w_heap : heapFits about1 = true := by decide +kernel
set_option maxRecDepth 65536 in
theorem w_runnable : about1.curStatus? = some .runnable := by decide +kernel
set_option maxRecDepth 65536 in
theorem w_alone : about1.alone = true := by decide +kernel
set_option maxRecDepth 65536 in
theorem w_named : about1.methodNamed? x = some theMethod := by decide +kernel
set_option maxRecDepth 65536 in
theorem w_hears : about1.hears theMethod below0 = true := by decide +kernel
set_option maxRecDepth 65536 in
theorem w_ripe : about1.ripe theMethod args0 below0 = true := by decide +kernel
theorem w_running : about1.status = .running := rfl
set_option maxRecDepth 65536 in
theorem w_room : about1.hasRoom e0.platform room_1 = true :=
  launch0.hasRoom_least _ room_1 (by decide +kernel) (by decide +kernel) (by decide +kernel) (by decide +kernel) (by decide +kernel) (by decide +kernel)
theorem allAtoms_all (ts : List Jvm.Cond) (a : Array Jvm.Value) (st : Jvm.State) : (allAtoms ts).before a st = ts.all (fun c => c.before a st) := by
  induction ts with
  | nil => rfl
  | cons c t ih =>
    show (Jvm.Cond.and c (allAtoms t)).before a st = _
    rw [Jvm.Cond.before_and, ih, List.all_cons]
def words1 : List Jvm.Cond := Jvm.Cond.code x code maxLocals ret :: tables_1
/-- a 'code' word, met by the world's own term for the bytes: nothing is compared byte by byte -/
theorem code_word {y : MethodName} {bytes : ByteArray} {mx : Nat} {rt : Option FieldType} {a : Array Value} {s : State} {m : MethodId} {meth : Method} {c : Code} (h1 : s.methodNamed? y = some m) (h2 : s.vm.method? m = some meth) (h3 : meth.code = some c) (h4 : c.code = bytes)
    (h5 : (c.maxLocals == mx && c.exceptionTable.isEmpty && decide (c.maxStack ≤ mostOperands) && decide (meth.sig.returnType = rt) && !meth.locks && decide (parseMethodDescriptor y.desc = some meth.sig)) = true) : (Jvm.Cond.code y bytes mx rt).before a s = true := by
  simp only [Bool.and_eq_true, beq_iff_eq, Bool.not_eq_true', decide_eq_true_eq] at h5
  obtain ⟨⟨⟨⟨⟨g1, g2⟩, g3⟩, g4⟩, g5⟩, g6⟩ := h5
  simp [Cond.before, Cond.holds, Cond.value, h1, h2, h3, h4, g1, g2, g3, g4, g5, g6]
def isCode : Jvm.Cond → Bool
  | .code _ _ _ _ => true
  | _ => false
theorem all_split {L : List Jvm.Cond} {P : Jvm.Cond → Bool} (h1 : L.all (fun c => isCode c || P c) = true) (h2 : ∀ c ∈ L.filter isCode, P c = true) : L.all P = true := by
  refine List.all_eq_true.mpr fun c hc => ?_
  have h := List.all_eq_true.mp h1 c hc
  rcases Bool.eq_false_or_eq_true (isCode c) with hi | hi
  · exact h2 c (List.mem_filter.mpr ⟨hc, hi⟩)
  · simpa [hi] using h
set_option maxRecDepth 65536 in
theorem w_c0 : (Jvm.Cond.code x code maxLocals ret).before args0 about1 = true := code_word (m := ⟨1, 1⟩) (meth := k1m1) (c := k1c1) (by decide +kernel) rfl rfl rfl (by decide +kernel)
set_option maxRecDepth 65536 in
theorem w_c1 : (Jvm.Cond.code ({ cls := "com/example/tallowcast/tallowcast/graph/OperationSinglePinLaw", name := "pick", desc := "(I)Lcom/example/tallowcast/tallowcast/graph/Arithmetic$Operation;" } : Jvm.MethodName) method_3_code (1 : Nat) (Option.some (Jvm.ClassFile.FieldType.object "com/example/tallowcast/tallowcast/graph/Arithmetic$Operation"))).before args0 about1 = true := code_word (m := ⟨1, 2⟩) (meth := k1m2) (c := k1c2) (by decide +kernel) rfl rfl rfl (by decide +kernel)
set_option maxRecDepth 65536 in
theorem w_c2 : (Jvm.Cond.code ({ cls := "com/example/tallowcast/tallowcast/graph/Arithmetic$Operation", name := "single", desc := "(D)D" } : Jvm.MethodName) prog_8_method_5_code (3 : Nat) (Option.some Jvm.ClassFile.FieldType.double)).before args0 about1 = true := code_word (m := ⟨6, 0⟩) (meth := k6m0) (c := k6c0) (by decide +kernel) rfl rfl rfl (by decide +kernel)
set_option maxRecDepth 65536 in
theorem w_c3 : (Jvm.Cond.code ({ cls := "java/lang/Enum", name := "ordinal", desc := "()I" } : Jvm.MethodName) jdk_37_method_2_code (1 : Nat) (Option.some Jvm.ClassFile.FieldType.int)).before args0 about1 = true := code_word (m := ⟨5, 0⟩) (meth := k5m0) (c := k5c0) (by decide +kernel) rfl rfl rfl (by decide +kernel)
set_option maxRecDepth 65536 in
theorem w_c4 : (Jvm.Cond.code ({ cls := "com/example/tallowcast/tallowcast/graph/OperationSinglePinLaw", name := "same", desc := "(DD)Z" } : Jvm.MethodName) method_4_code (4 : Nat) (Option.some Jvm.ClassFile.FieldType.boolean)).before args0 about1 = true := code_word (m := ⟨1, 3⟩) (meth := k1m3) (c := k1c3) (by decide +kernel) rfl rfl rfl (by decide +kernel)
def codes1 : List Jvm.Cond := [Jvm.Cond.code x code maxLocals ret, Jvm.Cond.code ({ cls := "com/example/tallowcast/tallowcast/graph/OperationSinglePinLaw", name := "pick", desc := "(I)Lcom/example/tallowcast/tallowcast/graph/Arithmetic$Operation;" } : Jvm.MethodName) method_3_code (1 : Nat) (Option.some (Jvm.ClassFile.FieldType.object "com/example/tallowcast/tallowcast/graph/Arithmetic$Operation")), Jvm.Cond.code ({ cls := "com/example/tallowcast/tallowcast/graph/Arithmetic$Operation", name := "single", desc := "(D)D" } : Jvm.MethodName) prog_8_method_5_code (3 : Nat) (Option.some Jvm.ClassFile.FieldType.double), Jvm.Cond.code ({ cls := "java/lang/Enum", name := "ordinal", desc := "()I" } : Jvm.MethodName) jdk_37_method_2_code (1 : Nat) (Option.some Jvm.ClassFile.FieldType.int), Jvm.Cond.code ({ cls := "com/example/tallowcast/tallowcast/graph/OperationSinglePinLaw", name := "same", desc := "(DD)Z" } : Jvm.MethodName) method_4_code (4 : Nat) (Option.some Jvm.ClassFile.FieldType.boolean)]
set_option maxRecDepth 65536 in
theorem codes_eq : words1.filter isCode = codes1 := rfl
theorem w_codes : ∀ c ∈ words1.filter isCode, c.before args0 about1 = true := by
  rw [codes_eq]
  intro c hc
  simp only [codes1, List.mem_cons, List.not_mem_nil, or_false] at hc
  rcases hc with rfl | rfl | rfl | rfl | rfl
  · exact w_c0
  · exact w_c1
  · exact w_c2
  · exact w_c3
  · exact w_c4
set_option maxRecDepth 65536 in
theorem w_t1 : (words1.take 24).all (fun c => isCode c || c.before args0 about1) = true := by decide +kernel
set_option maxRecDepth 65536 in
theorem w_t2 : (words1.drop 24).all (fun c => isCode c || c.before args0 about1) = true := by decide +kernel
theorem w_tables : (allAtoms (Jvm.Cond.code x code maxLocals ret :: tables_1)).before args0 about1 = true := by
  rw [allAtoms_all]
  show words1.all (fun c => c.before args0 about1) = true
  refine all_split ?_ w_codes
  rw [← List.take_append_drop 24 words1, List.all_append, w_t1, w_t2]
  rfl
set_option maxRecDepth 65536 in
theorem w_case : (Jvm.Cond.and given_1 narrow_1).before args0 about1 = true := by decide +kernel
theorem w_applies : (headSpec (Jvm.Cond.code x code maxLocals ret :: tables_1) room_1).applies x e0.platform about1 = true :=
  (Spec.applies_iff w_frames).mpr ⟨w_running, w_runnable, w_alone, w_named, w_hears, w_ripe, w_room, w_tables⟩
theorem atStart : AtStart classFile x code maxLocals ret World_1 tables_1 room_1 Calls_1 rest_1 Pre_1 launch0 p0 e0 about1 theMethod args0 below0 :=
  ⟨lists_1, trivial, launch0.admits_env _ _ _, launch0.least_env, fairChoices_fair.cas, fairChoices_fair.clock, w_frames, w_args, w_heap, w_applies, trivial, trivial, w_case⟩
end start1
theorem witness_1 : WitnessClaimed_1 := ⟨start1.p0, start1.e0, start1.about1, start1.theMethod, start1.args0, start1.below0, start1.atStart⟩
end Jvm.Pilot.@@N@@
