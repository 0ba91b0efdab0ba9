import JvmDerived
import JvmDerived.Pilot.@@N@@Statement
import JvmDerived.Pilot.@@N@@Code
set_option linter.unusedVariables false
set_option linter.unusedSimpArgs false
namespace Jvm.RoadKit
open Sem ClassFile Op Lib Jvm.Stand Jvm.Free Jvm.LawKit
section New
variable {p : Program} {l : Launch} {e : Env} {R : Room} {s : State} {m : MethodId} {args : Array Value} {below : List Frame} {meth : Method} {c : Code} {T : State} {locs : List Loc} {cells slots : Nat}
theorem retI (X : Stand p l e R s m args below meth c T locs cells slots) (hx : p.tables.exec = Jvm.exec) {pc : Nat} {Ls : Array Slot} {z : Int32} {rest : List Value} (hret : meth.sig.returnType = some .int) (hd : decode c.code pc = .ok (.ireturn, 1)) {fs : List Frame}
    (hl : ∀ (f : JFrame) (acts : List Action), f.method = m → f.locked = none → f.entered = [] → (doReturn e (T.setTop f) acts (some (.int z))).1 = T.setFrames fs) : Steps p.tables e below (T.setTop (mkF m pc Ls (.int z :: rest))) (T.setFrames fs) := by
  have hm' : T.vm.method? m = some meth := X.method'
  have hn : narrow .int (.int z) = .int z := rfl
  show Steps p.tables e below (T.setTop { method := m, pc := pc, locals := Ls, stack := _ :: rest, locked := none }) _
  jvm_step X.here [X.here.top, hx, hd, hm', hret, hn]
  first | (intro acts; rw [hl _ acts rfl rfl rfl]) | rw [hl _ _ rfl rfl rfl]
  exact Steps.refl _
end New
end Jvm.RoadKit
namespace Jvm.Pilot.@@N@@
open Jvm Jvm.ClassFile Sem Op Lib Jvm.Free Jvm.Stand Jvm.LawKit Jvm.RoadKit Bundle Jvm.Pilot.@@N@@.Jvm.D
/-- the run from a frame of this method ends in a return with Q -/
def Go (p : Program) (e : Env) (s : State) (below : List Frame) (kc ks : Nat) (Q : Option Value → Heap → List Loc → Prop) (T : State) (f : JFrame) : Prop :=
  ∃ s₂ o, Steps p.tables e below (T.setTop f) s₂ ∧ s₂.status = .running ∧ Ended s₂ below o ∧ ∃ v L, o = .returned v ∧ Q v s₂.heap L ∧ FrameEnd s o s₂ L kc ks
/-- what is known of the method that runs -/
def Cx (p : Program) (s : State) (m : MethodId) (meth : Method) (c : Code) (Z : State) (own nm : String) (code : ByteArray) (maxL : Nat) (ret : Option FieldType) : Prop :=
  p.tables.exec = Jvm.exec ∧ Z.Warmed39 s.vm ∧ c.code = code ∧ c.maxLocals = maxL ∧ s.vm.findClass own = some m.cls ∧ meth.name = nm ∧ meth.sig.returnType = ret ∧ meth.locks = false
/-- a contract -/
def Ctr (l : Launch) (Z : State) (y : MethodName) (bytes : ByteArray) (maxL : Nat) (ret : Option FieldType) (ws : List Jvm.Cond) (rm : Room) (kc ks : Nat) (as : Array Value) (h : Heap) (Q : Option Value → Heap → List Loc → Prop) : Prop :=
  MetFree l y (head1 (Jvm.Cond.code y bytes maxL ret :: ws) rm) (fun a U => a = as ∧ Z.Warmed39 U.vm ∧ U.heap = h) (fun _ _ _ _ _ => True) (fun _ U o U' => ∃ v L, o = .returned v ∧ Q v U'.heap L ∧ FrameEnd U o U' L kc ks)
def bi (P : Prop) [Decidable P] : Int32 := if P then 1 else 0
theorem bi_t {P : Prop} [Decidable P] (h : P) : bi P = 1 := if_pos h
theorem bi_f {P : Prop} [Decidable P] (h : ¬ P) : bi P = 0 := if_neg h
theorem bi_n {P : Prop} [Decidable P] (h : P) : ¬ bi P = 0 := by rw [bi_t h]; decide
theorem bi_1 {P : Prop} [Decidable P] : bi P = 1 ↔ P := by unfold bi; split <;> simp_all
theorem bi_0 {P : Prop} [Decidable P] : bi P = 0 ↔ ¬ P := by unfold bi; split <;> simp_all
theorem bi_eq {P P' : Prop} [Decidable P] [Decidable P'] : bi P = bi P' ↔ (P ↔ P') := by unfold bi; split <;> split <;> simp_all
theorem bi_congr {P P' : Prop} [Decidable P] [Decidable P'] (h : P ↔ P') : bi P = bi P' := bi_eq.mpr h
theorem bi_fits {P : Prop} [Decidable P] : fits .boolean (.int (bi P)) = true := by unfold bi; split <;> rfl
theorem bi_nar {P : Prop} [Decidable P] : nar .boolean (bi P) = bi P := by unfold bi; split <;> rfl
section Own
variable {p : Program} {l : Launch} {e : Env} {R : Room} {s : State} {m : MethodId} {args : Array Value} {below : List Frame} {meth : Method} {c : Code} {T : State} {locs : List Loc} {cells slots kc ks : Nat} {Q : Option Value → Heap → List Loc → Prop} {Z : State} {a0 : Array Value} {h : Heap}
theorem Go.step {T' : State} {f f' : JFrame} (st : ∀ t, Steps p.tables e below (T'.setTop f') t → Steps p.tables e below (T.setTop f) t) (k : Go p e s below kc ks Q T' f') : Go p e s below kc ks Q T f := by
  obtain ⟨s₂, o, h1, r⟩ := k; exact ⟨s₂, o, st _ h1, r⟩
theorem Go.mono {Q' : Option Value → Heap → List Loc → Prop} {f : JFrame} (k : Go p e s below kc ks Q T f) (h : ∀ v h L, Q v h L → Q' v h L) : Go p e s below kc ks Q' T f := by
  obtain ⟨s₂, o, h1, h2, h3, v, L, h4, h5, h6⟩ := k; exact ⟨s₂, o, h1, h2, h3, v, L, h4, h _ _ _ h5, h6⟩
theorem Ctr.mk {y : MethodName} {bytes : ByteArray} {maxL : Nat} {ret : Option FieldType} {ws : List Jvm.Cond} {rm : Room} {as : Array Value} (hp : plainFor y = true)
    (hgo : ∀ (p : Program) (e : Env) (s : State) (m : MethodId) (below : List Frame) (meth : Method) (c : Code) (s₁ : State), Stand p l e rm s m as below meth c s₁ [] 0 0 → Cx p s m meth c Z y.cls y.name bytes maxL ret → s₁.heap = h → Go p e s below kc ks Q s₁ (entryFrame m as maxL)) :
    Ctr l Z y bytes maxL ret ws rm kc ks as h Q := by
  refine MetFree.of_bodySF hp hisR ?_
  intro p e s m args below meth c s₁ Bd hml0 hP hK
  obtain ⟨rfl, hZ, hh⟩ := hP
  exact hgo p e s m below meth c s₁ (Stand.of_body Bd) ⟨Bd.exec, hZ, Bd.bytes, hml0, findClass_of_methodNamed Bd.named, (name_of_methodNamed Bd.named Bd.method).1, Bd.returns, Bd.notSynchronized⟩ (by rw [← hh, Bd.state]; rfl)
theorem go_cast {f f' : JFrame} (q : f = f') (k : Go p e s below kc ks Q T f') : Go p e s below kc ks Q T f := q ▸ k
theorem go_retI (X : Stand p l e R s m args below meth c T locs cells slots) (hx : p.tables.exec = Jvm.exec) (hret : meth.sig.returnType = some .int) (hlk : meth.locks = false) {pc : Nat} {Ls : Array Slot} {z : Int32} {rest : List Value} (hd : decode c.code pc = .ok (.ireturn, 1))
    (hQ : Q (some (.int z)) T.heap locs) (hc : cells ≤ kc) (hs : slots ≤ ks) : Go p e s below kc ks Q T (mkF m pc Ls (.int z :: rest)) := by
  obtain ⟨fs, hr, hrun, hended, hW, hsame⟩ := X.leave (v := some (.int z)) (fun h => by rw [hret] at h; cases h) hlk
  exact ⟨_, _, retI X hx hret hd hr, hrun, hended, _, _, rfl, hQ, ⟨_, rfl⟩, hW, hsame.mono hc hs⟩
theorem go_retN (X : Stand p l e R s m args below meth c T locs cells slots) (hx : p.tables.exec = Jvm.exec) {t : FieldType} (hret : meth.sig.returnType = some t) (ht : t = .boolean ∨ t = .byte ∨ t = .char ∨ t = .short) (hlk : meth.locks = false) {pc : Nat} {Ls : Array Slot} {z w : Int32} {rest : List Value} (hd : decode c.code pc = .ok (.ireturn, 1))
    (hz : nar t z = w) (hQ : Q (some (.int w)) T.heap locs) (hc : cells ≤ kc) (hs : slots ≤ ks) : Go p e s below kc ks Q T (mkF m pc Ls (.int z :: rest)) := by
  subst hz
  obtain ⟨fs, hr, hrun, hended, hW, hsame⟩ := X.leave (v := some (.int (nar t z))) (fun h => by rw [hret] at h; cases h) hlk
  exact ⟨_, _, retN X hx hret ht hd hr, hrun, hended, _, _, rfl, hQ, ⟨_, rfl⟩, hW, hsame.mono hc hs⟩
theorem go_retJ (X : Stand p l e R s m args below meth c T locs cells slots) (hx : p.tables.exec = Jvm.exec) (hret : meth.sig.returnType = some .long) (hlk : meth.locks = false) {pc : Nat} {Ls : Array Slot} {z : Int64} (hd : decode c.code pc = .ok (.lreturn, 1))
    (hQ : Q (some (.long z)) T.heap locs) (hc : cells ≤ kc) (hs : slots ≤ ks) : Go p e s below kc ks Q T (mkF m pc Ls [.long z]) := by
  obtain ⟨fs, hr, hrun, hended, hW, hsame⟩ := X.leave (v := some (.long z)) (fun h => by rw [hret] at h; cases h) hlk
  exact ⟨_, _, X.lreturnOut hx hret hd hr, hrun, hended, _, _, rfl, hQ, ⟨_, rfl⟩, hW, hsame.mono hc hs⟩
theorem go_retA (X : Stand p l e R s m args below meth c T locs cells slots) (hx : p.tables.exec = Jvm.exec) {t : FieldType} (hret : meth.sig.returnType = some t) (ht : t.isReference = true) (hlk : meth.locks = false) {pc : Nat} {Ls : Array Slot} {w : Value} {rest : List Value} (hw : w.isRef = true) (hd : decode c.code pc = .ok (.areturn, 1))
    (hQ : Q (some w) T.heap locs) (hc : cells ≤ kc) (hs : slots ≤ ks) : Go p e s below kc ks Q T (mkF m pc Ls (w :: rest)) := by
  obtain ⟨fs, hr, hrun, hended, hW, hsame⟩ := X.leave (v := some w) (fun h => by rw [hret] at h; cases h) hlk
  have hn : narrow t w = w := by cases t <;> first | rfl | simp [FieldType.isReference] at ht
  exact ⟨_, _, retOut X hx hret hn (Or.inr (Or.inr (Or.inr (Or.inr ⟨rfl, ht, hw⟩)))) hd hr, hrun, hended, _, _, rfl, hQ, ⟨_, rfl⟩, hW, hsame.mono hc hs⟩
theorem go_ret (X : Stand p l e R s m args below meth c T locs cells slots) (hx : p.tables.exec = Jvm.exec) (hret : meth.sig.returnType = none) (hlk : meth.locks = false) {pc : Nat} {Ls : Array Slot} (hd : decode c.code pc = .ok (.return_, 1))
    (hQ : Q none T.heap locs) (hc : cells ≤ kc) (hs : slots ≤ ks) : Go p e s below kc ks Q T (mkF m pc Ls []) := by
  obtain ⟨fs, hr, hrun, hended, hW, hsame⟩ := X.leave (v := none) (fun _ => rfl) hlk
  exact ⟨_, _, X.returnOut hx hret hd hr, hrun, hended, _, _, rfl, hQ, ⟨_, rfl⟩, hW, hsame.mono hc hs⟩
/-! calls by a contract -/
section Calls
variable {own : String} {index : Nat} {y : MethodName} {bytes : ByteArray} {maxL : Nat} {ret r : Option FieldType} {rm : Room} {Qc : Option Value → Heap → List Loc → Prop} {argsL rest : List Value} {ps : List FieldType} {pc W : Nat} {Ls : Array Slot} {a : Addr}
theorem c_static (X : Stand p l e R s m args below meth c T locs cells slots) (hx : p.tables.exec = Jvm.exec) (hZ : Z.Warmed39 s.vm) (hown : s.vm.findClass own = some m.cls)
    (w1 : (Jvm.Cond.methodLink own index y).before a0 Z = true) (w2 : (Jvm.Cond.static y).before a0 Z = true) (w3 : (Jvm.Cond.initialized y.cls).before a0 Z = true) (w4 : (Jvm.Cond.code y bytes maxL ret).before a0 Z = true) (hy : y.cls ≠ "java/lang/invoke/MethodHandle" ∧ y.cls ≠ "java/lang/invoke/VarHandle")
    (hC : Ctr l Z y bytes maxL ret [] rm rm.cells rm.slots argsL.toArray h Qc) (eT : T.heap = h) (hpd : parseMethodDescriptor y.desc = some ⟨ps, r⟩) (hlen : argsL.length = ps.length) (hsz : Ls.size = c.maxLocals) (hW : 2 * 0 + (rest.map fun v => v.category).sum ≤ W)
    (hf : rm.frames + 1 ≤ R.frames) (hl : W + (maxL + 11) + rm.locals ≤ R.locals) (hc : cells + rm.cells ≤ R.cells) (hs : slots + rm.slots ≤ R.slots) (hd : decode c.code pc = .ok (.invokestatic index, 3)) :
    ∃ (v : Option Value) (T' : State) (L : List Loc), Stand p l e R s m args below meth c T' (locs ++ L) (cells + rm.cells) (slots + rm.slots) ∧ Qc v T'.heap L ∧
      ∀ t, Steps p.tables e below (T'.setTop (mkF m (pc + 3) Ls (v.toList ++ rest))) t → Steps p.tables e below (T.setTop (mkF m pc Ls (argsL.reverse ++ rest))) t := by
  obtain ⟨v, _, ⟨T', L', k', n'⟩, -, X', ⟨L, hQ, rfl, rfl, rfl⟩, st⟩ := Jvm.LawKit.callS X hx (y := y) hown (mvT hZ w1) (mvT hZ w2) (mvT hZ w3) (mvT hZ w4) hy (backOf (W := W) hC hZ w4 w3 hf hl) (g := mkF m pc Ls (argsL.reverse ++ rest)) rfl hsz (argsL := argsL) (rest := rest) (lenOf hpd hlen) rfl hW hd (fun _ _ => ⟨rfl, eT, hc, hs⟩)
  exact ⟨v, T', L, X', hQ, st⟩
theorem c_init (X : Stand p l e R s m args below meth c T locs cells slots) (hx : p.tables.exec = Jvm.exec) (hZ : Z.Warmed39 s.vm) (hown : s.vm.findClass own = some m.cls)
    (w1 : (Jvm.Cond.methodLink own index y).before a0 Z = true) (w2 : (Jvm.Cond.instanceMethod y).before a0 Z = true) (w3 : (Jvm.Cond.initialized y.cls).before a0 Z = true) (w4 : (Jvm.Cond.code y bytes maxL none).before a0 Z = true) (hn : y.name = "<init>") (hy : y.cls ≠ "java/lang/invoke/MethodHandle" ∧ y.cls ≠ "java/lang/invoke/VarHandle")
    (hC : Ctr l Z y bytes maxL none [] rm rm.cells rm.slots (.ref a :: argsL).toArray h Qc) (eT : T.heap = h) (hpd : parseMethodDescriptor y.desc = some ⟨ps, r⟩) (hlen : argsL.length = ps.length) (hsz : Ls.size = c.maxLocals) (hW : 2 * 0 + (rest.map fun v => v.category).sum ≤ W)
    (hf : rm.frames + 1 ≤ R.frames) (hl : W + (maxL + 11) + rm.locals ≤ R.locals) (hc : cells + rm.cells ≤ R.cells) (hs : slots + rm.slots ≤ R.slots) (hd : decode c.code pc = .ok (.invokespecial index, 3)) :
    ∃ (v : Option Value) (T' : State) (L : List Loc), Stand p l e R s m args below meth c T' (locs ++ L) (cells + rm.cells) (slots + rm.slots) ∧ Qc v T'.heap L ∧
      ∀ t, Steps p.tables e below (T'.setTop (mkF m (pc + 3) Ls (v.toList ++ rest))) t → Steps p.tables e below (T.setTop (mkF m pc Ls (argsL.reverse ++ .ref a :: rest))) t := by
  obtain ⟨v, _, ⟨T', L', k', n'⟩, -, X', ⟨L, hQ, rfl, rfl, rfl⟩, st⟩ := X.specialBack hx (y := y) hn hown (mvT hZ w1) (mvT hZ w2) (mvT hZ w4) hy (backOf (W := W) hC hZ w4 w3 hf hl) (g := mkF m pc Ls (argsL.reverse ++ .ref a :: rest)) rfl hsz (Steps.refl _) (a := a) (argsL := argsL) (rest := rest) (lenOf hpd hlen) rfl hW hd (fun _ _ => ⟨rfl, eT, hc, hs⟩)
  exact ⟨v, T', L, X', hQ, fun t k => st.trans k⟩
theorem c_virt {y' : MethodName} {C : String} (X : Stand p l e R s m args below meth c T locs cells slots) (hx : p.tables.exec = Jvm.exec) (hZ : Z.Warmed39 s.vm) (hown : s.vm.findClass own = some m.cls)
    (w1 : (Jvm.Cond.methodLink own index y').before a0 Z = true) (wd : (Jvm.Cond.declares y').before a0 Z = true) (nf : NotFace s y') (ws : (Jvm.Cond.selects C y' y).before a0 Z = true) (w2 : (Jvm.Cond.instanceMethod y).before a0 Z = true) (w3 : (Jvm.Cond.initialized y.cls).before a0 Z = true) (w4 : (Jvm.Cond.code y bytes maxL ret).before a0 Z = true) (hy : y'.cls ≠ "java/lang/invoke/MethodHandle" ∧ y'.cls ≠ "java/lang/invoke/VarHandle")
    (hC : Ctr l Z y bytes maxL ret [] rm rm.cells rm.slots (.ref a :: argsL).toArray h Qc) (eT : T.heap = h) (E : Exa Z h a C) (hpd : parseMethodDescriptor y'.desc = some ⟨ps, r⟩) (hlen : argsL.length = ps.length) (hsz : Ls.size = c.maxLocals) (hW : 2 * 0 + (rest.map fun v => v.category).sum ≤ W)
    (hf : rm.frames + 1 ≤ R.frames) (hl : W + (maxL + 11) + rm.locals ≤ R.locals) (hc : cells + rm.cells ≤ R.cells) (hs : slots + rm.slots ≤ R.slots) (hd : decode c.code pc = .ok (.invokevirtual index, 3)) :
    ∃ (v : Option Value) (T' : State) (L : List Loc), Stand p l e R s m args below meth c T' (locs ++ L) (cells + rm.cells) (slots + rm.slots) ∧ Qc v T'.heap L ∧
      ∀ t, Steps p.tables e below (T'.setTop (mkF m (pc + 3) Ls (v.toList ++ rest))) t → Steps p.tables e below (T.setTop (mkF m pc Ls (argsL.reverse ++ .ref a :: rest))) t := by
  obtain ⟨cq, kq, qa, qb, qc⟩ := isOf hZ eT E
  obtain ⟨v, _, ⟨T', L', k', n'⟩, -, X', ⟨L, hQ, rfl, rfl, rfl⟩, st⟩ := X.virtualBack hx (y := y') (z := y) hown (mvT hZ w1) (mvT hZ wd) nf (mvT hZ ws) (mvT hZ w2) hy (backOf (W := W) hC hZ w4 w3 hf hl) qa qc (g := mkF m pc Ls (argsL.reverse ++ .ref a :: rest)) rfl hsz (Steps.refl _) (argsL := argsL) (rest := rest) (lenOf hpd hlen) rfl hW hd (fun _ _ => ⟨rfl, eT, hc, hs⟩)
  exact ⟨v, T', L, X', hQ, fun t k => st.trans k⟩
theorem own_nf {y' z : MethodName} {C : String} {as : Array Value} (ws : (Jvm.Cond.selects C y' z).before as s = true) (h : z.cls = y.cls) : NotFace s y := fun r0 h0 => by
  obtain ⟨_, _, m2, -, -, q3, -, kP, hkP, hkPi⟩ := Cond.selects_spec ws
  have e1 := findClass_of_methodNamed q3
  rw [h] at e1
  have e2 : m2.cls = r0.cls := Option.some.inj (e1.symm.trans (findClass_of_methodNamed h0))
  exact ⟨kP, e2 ▸ hkP, hkPi⟩
/-- a private method of an object, by invokevirtual: its class isn't an interface (nf) -/
theorem c_priv {C : String} (X : Stand p l e R s m args below meth c T locs cells slots) (hx : p.tables.exec = Jvm.exec) (hZ : Z.Warmed39 s.vm) (hown : s.vm.findClass own = some m.cls)
    (w1 : (Jvm.Cond.methodLink own index y).before a0 Z = true) (w2 : (Jvm.Cond.instanceMethod y).before a0 Z = true) (nf : NotFace s y) (wp : (Jvm.Cond.privateMethod y).before a0 Z = true) (w3 : (Jvm.Cond.initialized y.cls).before a0 Z = true) (w4 : (Jvm.Cond.code y bytes maxL ret).before a0 Z = true) (hy : y.cls ≠ "java/lang/invoke/MethodHandle" ∧ y.cls ≠ "java/lang/invoke/VarHandle")
    (hC : Ctr l Z y bytes maxL ret [] rm rm.cells rm.slots (.ref a :: argsL).toArray h Qc) (eT : T.heap = h) (E : Exa Z h a C) (hpd : parseMethodDescriptor y.desc = some ⟨ps, r⟩) (hlen : argsL.length = ps.length) (hsz : Ls.size = c.maxLocals) (hW : 2 * 0 + (rest.map fun v => v.category).sum ≤ W)
    (hf : rm.frames + 1 ≤ R.frames) (hl : W + (maxL + 11) + rm.locals ≤ R.locals) (hc : cells + rm.cells ≤ R.cells) (hs : slots + rm.slots ≤ R.slots) (hd : decode c.code pc = .ok (.invokevirtual index, 3)) :
    ∃ (v : Option Value) (T' : State) (L : List Loc), Stand p l e R s m args below meth c T' (locs ++ L) (cells + rm.cells) (slots + rm.slots) ∧ Qc v T'.heap L ∧
      ∀ t, Steps p.tables e below (T'.setTop (mkF m (pc + 3) Ls (v.toList ++ rest))) t → Steps p.tables e below (T.setTop (mkF m pc Ls (argsL.reverse ++ .ref a :: rest))) t := by
  obtain ⟨cq, qa, qb⟩ := E.cell
  obtain ⟨mk, methM, hnamed, hmethM, hstM, habM⟩ := Cond.instanceMethod_spec (mvT (args := args) hZ w2)
  obtain ⟨methM', cM, hmethM', -, -, -, -, -, -, hsigM⟩ := Cond.code_spec hnamed (mvT (args := args) hZ w4)
  cases hmethM.symm.trans hmethM'
  obtain ⟨kP, hkP, hkPi⟩ := nf mk hnamed
  have hsel : selectMethod e.platform s.vm cq.cls mk = .method mk := selectMethod_private hmethM ((Cond.privateMethod_at (mvP hZ wp (args := #[]))) mk methM hnamed hmethM)
  obtain ⟨vm₁, X₁, hst⟩ := X.invokevirtual hx hown (mvT hZ w1) hnamed hmethM hstM hkP hkPi hy (a := a) (cell := cq) (by rw [eT]; exact qa) qb hsel hmethM habM hkP hkPi (g := mkF m pc Ls (argsL.reverse ++ .ref a :: rest)) rfl (argsL := argsL) (rest := rest) (lenOf hpd hlen _ hsigM) rfl hd
  obtain ⟨v, ⟨T', L', k', n'⟩, X', ⟨L, hQ, rfl, rfl, rfl⟩, hgo⟩ := (backOf (W := W) (len := 3) hC hZ w4 w3 hf hl) m meth c ⟨T.setVm vm₁, locs, cells, slots⟩ (mkF m pc Ls rest) (.invokevirtual index) mk (.ref a :: argsL).toArray X₁ rfl hsz hd hW (X₁.named hnamed) ⟨rfl, eT, hc, hs⟩
  exact ⟨v, T', L, X', hQ, fun t k => ((hst _ fun acts => by rw [doInvoke_state]; exact Steps.refl _).trans hgo).trans k⟩
/-- invokevirtual of a method that a class above the one that the entry names declares -/
theorem c_virtUp {y' : MethodName} {C owner : String} (X : Stand p l e R s m args below meth c T locs cells slots) (hx : p.tables.exec = Jvm.exec) (hZ : Z.Warmed39 s.vm) (hown : s.vm.findClass own = some m.cls)
    (w1 : (Jvm.Cond.methodLink own index y').before a0 Z = true) (wm : (Jvm.Cond.sameMethod y'.cls owner y'.name y'.desc).before a0 Z = true) (wd : (Jvm.Cond.declares ⟨owner, y'.name, y'.desc⟩).before a0 Z = true) (ws : (Jvm.Cond.selects C y' y).before a0 Z = true) (w2 : (Jvm.Cond.instanceMethod y).before a0 Z = true) (w3 : (Jvm.Cond.initialized y.cls).before a0 Z = true) (w4 : (Jvm.Cond.code y bytes maxL ret).before a0 Z = true) (hy : owner ≠ "java/lang/invoke/MethodHandle" ∧ owner ≠ "java/lang/invoke/VarHandle")
    (hC : Ctr l Z y bytes maxL ret [] rm rm.cells rm.slots (.ref a :: argsL).toArray h Qc) (eT : T.heap = h) (E : Exa Z h a C) (hpd : parseMethodDescriptor y'.desc = some ⟨ps, r⟩) (hlen : argsL.length = ps.length) (hsz : Ls.size = c.maxLocals) (hW : 2 * 0 + (rest.map fun v => v.category).sum ≤ W)
    (hf : rm.frames + 1 ≤ R.frames) (hl : W + (maxL + 11) + rm.locals ≤ R.locals) (hc : cells + rm.cells ≤ R.cells) (hs : slots + rm.slots ≤ R.slots) (hd : decode c.code pc = .ok (.invokevirtual index, 3)) :
    ∃ (v : Option Value) (T' : State) (L : List Loc), Stand p l e R s m args below meth c T' (locs ++ L) (cells + rm.cells) (slots + rm.slots) ∧ Qc v T'.heap L ∧
      ∀ t, Steps p.tables e below (T'.setTop (mkF m (pc + 3) Ls (v.toList ++ rest))) t → Steps p.tables e below (T.setTop (mkF m pc Ls (argsL.reverse ++ .ref a :: rest))) t := by
  obtain ⟨cq, kq, qa, qb, qc⟩ := isOf hZ eT E
  obtain ⟨v, _, ⟨T', L', k', n'⟩, -, X', ⟨L, hQ, rfl, rfl, rfl⟩, st⟩ := X.virtualBackUp hx (x := y') (y := y) hown (mvT hZ w1) (mvT hZ wm) (mvT hZ wd) hy (mvT hZ ws) (mvT hZ w2) (backOf (W := W) hC hZ w4 w3 hf hl) qa qc (g := mkF m pc Ls (argsL.reverse ++ .ref a :: rest)) rfl hsz (Steps.refl _) (argsL := argsL) (rest := rest) (lenOf hpd hlen) rfl hW hd (fun _ _ => ⟨rfl, eT, hc, hs⟩)
  exact ⟨v, T', L, X', hQ, fun t k => st.trans k⟩
end Calls
end Own
/-! arrays by a function of the place -/
def upd (f : Nat → Value) (k : Nat) (v : Value) : Nat → Value := fun i => if i = k then v else f i
def lst (L : List Value) : Nat → Value := fun i => L.getD i .null
theorem upd_eq {f : Nat → Value} {k : Nat} {v : Value} : upd f k v k = v := if_pos rfl
theorem upd_ne {f : Nat → Value} {k i : Nat} {v : Value} (h : i ≠ k) : upd f k v i = f i := if_neg h
def AV (Z : State) (h : Heap) (a : Addr) (ty : FieldType) (n : Nat) (f : Nat → Value) : Prop := ∃ c : Cell, Arr Z h a c ty ∧ c.slots.size = n ∧ n < 2147483648 ∧ ∀ i, i < n → c.slots[i]? = some (f i)
section Arrays
variable {Z : State} {h h' : Heap} {a b : Addr} {ty : FieldType} {n k : Nat} {f g : Nat → Value} {v w : Value} {j : Int32} {ws : List Addr} {sl : Nat}
theorem AV.lt (A : AV Z h a ty n f) : a < h.size := by obtain ⟨c, A, -⟩ := A; exact A.lt
theorem AV.ext (A : AV Z h a ty n f) (E : Ext h h') : AV Z h' a ty n f := by obtain ⟨c, A, r⟩ := A; exact ⟨c, A.ext E, r⟩
theorem AV.other (A : AV Z h b ty n f) (W : Wr h h' a sl v) (q : b ≠ a) : AV Z h' b ty n f := by obtain ⟨c, A, r⟩ := A; exact ⟨c, A.other W q, r⟩
theorem AV.keep (A : AV Z h a ty n f) (K : Keep h h' ws) (q : a ∉ ws) : AV Z h' a ty n f := by obtain ⟨c, A, r⟩ := A; exact ⟨c, ⟨K.2.1 a c A.1 q, A.2⟩, r⟩
theorem AV.congr (A : AV Z h a ty n f) (q : ∀ i, i < n → f i = g i) : AV Z h a ty n g := by obtain ⟨c, A, r1, r2, r3⟩ := A; exact ⟨c, A, r1, r2, fun i hi => by rw [r3 i hi, q i hi]⟩
theorem AV.bound (A : AV Z h a ty n f) : n < 2147483648 := by obtain ⟨c, A, r1, r2, r3⟩ := A; exact r2
theorem clamp_of (hj : j.toInt = (k : Int)) : j.toNatClampNeg = k := by show j.toInt.toNat = k; rw [hj]; rfl
theorem in_of {c : Cell} (hj : j.toInt = (k : Int)) (hs : c.slots.size = n) (hk : k < n) : ¬ (j < 0 ∨ c.slots.size ≤ j.toNatClampNeg) := by
  rw [clamp_of hj, hs, Int32.lt_iff_toInt_lt, hj]; simp only [Int32.reduceToInt]; omega
theorem AV.new {cA : ClassId} {z : Int32} (A : Arr Z h a (newA cA ty z) ty) (hz : z.toInt = (n : Int)) : AV Z h a ty n (fun _ => defaultValue ty) := by
  have q := clamp_of hz
  have hb := Int32.toInt_lt z
  refine ⟨_, A, by rw [sz_new]; exact q, by omega, fun i hi => ?_⟩
  have hi' : i < z.toNatClampNeg := by rw [q]; exact hi
  simp [newA, hi']
theorem AV.at (A : AV Z h a ty n f) (hj : j.toInt = (k : Int)) (hk : k < n) : ∃ cl : Cell, Arr Z h a cl ty ∧ ¬ (j < 0 ∨ cl.slots.size ≤ j.toNatClampNeg) ∧ cl.slots[j.toNatClampNeg]? = some (f k) := by
  obtain ⟨c, A, r1, r2, r3⟩ := A
  exact ⟨c, A, in_of hj r1 hk, by rw [clamp_of hj]; exact r3 k hk⟩
theorem AV.set (A : AV Z h a ty n f) (hj : j.toInt = (k : Int)) (hk : k < n) (W : Wr h h' a j.toNatClampNeg v) : AV Z h' a ty n (upd f k v) := by
  obtain ⟨c, A, r1, r2, r3⟩ := A
  refine ⟨_, A.same W, by rw [sz_set]; exact r1, r2, fun i hi => ?_⟩
  rw [clamp_of hj]
  by_cases e : i = k
  · subst e; simp [Cell.setSlot, r1, hi, upd]
  · rw [upd_ne e, ← r3 i hi]; exact Array.getElem?_setIfInBounds_ne (Ne.symm e)
theorem AV.setL {L L' : List Value} (A : AV Z h a ty n (lst L)) (hj : j.toInt = (k : Int)) (hk : k < n) (W : Wr h h' a j.toNatClampNeg v) (hl : k < L.length) (e : L.set k v = L') : AV Z h' a ty n (lst L') := by
  subst e
  refine (A.set hj hk W).congr fun i hi => ?_
  by_cases q : i = k
  · subst q; simp [upd, lst, List.getD_eq_getElem?_getD, hl]
  · rw [upd_ne q]; simp [lst, List.getD_eq_getElem?_getD, List.getElem?_set_ne (Ne.symm q)]
theorem AV.newL {L : List Value} (A : AV Z h a ty n (fun _ => v)) (e : L = List.replicate n v) : AV Z h a ty n (lst L) := by
  subst e; refine A.congr fun i hi => ?_
  simp [lst, List.getD_eq_getElem?_getD, List.getElem?_replicate, hi]
theorem AV.len (A : AV Z h a ty n f) : ∃ cl : Cell, Arr Z h a cl ty ∧ cl.slots.size.toInt32 = Int32.ofNat n := by
  obtain ⟨c, A, r1, r2, r3⟩ := A; exact ⟨c, A, by rw [r1]⟩
theorem own_cls {cA : ClassId} {z : Int32} {ad : String} (A : Arr Z h a (newA cA ty z) ty) (E : Exa Z h a ad) : Z.vm.findClass ad = some cA := by
  obtain ⟨cell, k, e1, e2, -⟩ := E
  cases A.1.symm.trans e1
  exact e2
theorem own_sto {cA : ClassId} {cl : Cell} {ad C : String} {y : Addr} (A : Arr Z h a cl ty) (E : Exa Z h a ad) (hA : Z.vm.findClass ad = some cA) (O : Ovr Z cA C) (I : Ins Z h y C true) : Sto Z h a (.ref y) := by
  obtain ⟨cell, k, e1, e2, -⟩ := E
  cases A.1.symm.trans e1
  have q : cl.cls = cA := Option.some.inj (e2.symm.trans hA)
  exact Sto.of A (q ▸ O) I
theorem own_sta_keep {C n' d : String} (F : Sta Z h C n' d v) (K : Keep h h' []) : Sta Z h' C n' d v := by
  obtain ⟨cf, i, k, f, st, cell, h1, h2, h3, h4, h5, h6, h7⟩ := F
  exact ⟨cf, i, k, f, st, cell, h1, h2, h3, h4, K.2.1 _ _ h5 (fun q => nomatch q), h6, h7⟩
end Arrays
section ASteps
variable {p : Program} {l : Launch} {e : Env} {R : Room} {s : State} {m : MethodId} {args : Array Value} {below : List Frame} {meth : Method} {c : Code} {T : State} {locs : List Loc} {cells slots : Nat} {Z : State} {a0 : Array Value} {h : Heap} {a : Addr} {n k pc : Nat} {f : Nat → Value} {j : Int32} {Ls : Array Slot} {rest : List Value}
theorem a_iload (X : Stand p l e R s m args below meth c T locs cells slots) (hx : p.tables.exec = Jvm.exec) (hZ : Z.Warmed39 s.vm) (eT : T.heap = h) (A : AV Z h a .int n f) (hj : j.toInt = (k : Int)) (hk : k < n) {x : Int32} (hv : f k = .int x) (hd : decode c.code pc = .ok (.iaload, 1)) :
    ∀ t, Steps p.tables e below (T.setTop (mkF m (pc + 1) Ls (.int x :: rest))) t → Steps p.tables e below (T.setTop (mkF m pc Ls (.int j :: .ref a :: rest))) t := by
  obtain ⟨cl, A, hin, hat⟩ := A.at hj hk
  rw [hv] at hat
  exact X.iaload hx (j := j) (v := .int x) (by rw [eT]; exact A.1) (State.isArrayOf_alike hZ.alike A.2.1) A.2.2 hin hat (g := mkF m pc Ls (.int j :: .ref a :: rest)) rfl rfl hd
theorem a_cload (X : Stand p l e R s m args below meth c T locs cells slots) (hx : p.tables.exec = Jvm.exec) (hZ : Z.Warmed39 s.vm) (eT : T.heap = h) (A : AV Z h a .char n f) (hj : j.toInt = (k : Int)) (hk : k < n) {x : Int32} (hv : f k = .int x) (hd : decode c.code pc = .ok (.caload, 1)) :
    ∀ t, Steps p.tables e below (T.setTop (mkF m (pc + 1) Ls (.int x :: rest))) t → Steps p.tables e below (T.setTop (mkF m pc Ls (.int j :: .ref a :: rest))) t := by
  obtain ⟨cl, A, hin, hat⟩ := A.at hj hk
  rw [hv] at hat
  exact X.caload hx (j := j) (v := .int x) (by rw [eT]; exact A.1) (State.isArrayOf_alike hZ.alike A.2.1) A.2.2 hin hat (g := mkF m pc Ls (.int j :: .ref a :: rest)) rfl rfl hd
theorem a_bload (X : Stand p l e R s m args below meth c T locs cells slots) (hx : p.tables.exec = Jvm.exec) (hZ : Z.Warmed39 s.vm) (eT : T.heap = h) (A : AV Z h a .byte n f) (hj : j.toInt = (k : Int)) (hk : k < n) {x : Int32} (hv : f k = .int x) (hd : decode c.code pc = .ok (.baload, 1)) :
    ∀ t, Steps p.tables e below (T.setTop (mkF m (pc + 1) Ls (.int x :: rest))) t → Steps p.tables e below (T.setTop (mkF m pc Ls (.int j :: .ref a :: rest))) t := by
  obtain ⟨cl, A, hin, hat⟩ := A.at hj hk
  rw [hv] at hat
  exact X.baloadBytes hx (j := j) (v := .int x) (by rw [eT]; exact A.1) (State.isArrayOf_alike hZ.alike A.2.1) A.2.2 hin hat (g := mkF m pc Ls (.int j :: .ref a :: rest)) rfl rfl hd
theorem a_jload (X : Stand p l e R s m args below meth c T locs cells slots) (hx : p.tables.exec = Jvm.exec) (hZ : Z.Warmed39 s.vm) (eT : T.heap = h) (A : AV Z h a .long n f) (hj : j.toInt = (k : Int)) (hk : k < n) {x : Int64} (hv : f k = .long x) (hd : decode c.code pc = .ok (.laload, 1)) :
    ∀ t, Steps p.tables e below (T.setTop (mkF m (pc + 1) Ls (.long x :: rest))) t → Steps p.tables e below (T.setTop (mkF m pc Ls (.int j :: .ref a :: rest))) t := by
  obtain ⟨cl, A, hin, hat⟩ := A.at hj hk
  rw [hv] at hat
  exact X.laload hx (j := j) (v := .long x) (by rw [eT]; exact A.1) (State.isArrayOf_alike hZ.alike A.2.1) A.2.2 hin hat (g := mkF m pc Ls (.int j :: .ref a :: rest)) rfl rfl hd
theorem a_rload {ty : FieldType} (X : Stand p l e R s m args below meth c T locs cells slots) (hx : p.tables.exec = Jvm.exec) (hZ : Z.Warmed39 s.vm) (eT : T.heap = h) (A : AV Z h a ty n f) (ht : ty.isReference = true) (hj : j.toInt = (k : Int)) (hk : k < n) {v : Value} (hv : f k = v) (hd : decode c.code pc = .ok (.aaload, 1)) :
    ∀ t, Steps p.tables e below (T.setTop (mkF m (pc + 1) Ls (v :: rest))) t → Steps p.tables e below (T.setTop (mkF m pc Ls (.int j :: .ref a :: rest))) t := by
  obtain ⟨cl, A, hin, hat⟩ := A.at hj hk
  rw [hv] at hat
  exact X.aaload hx (j := j) (v := v) (by rw [eT]; exact A.1) (State.isArrayOf_alike hZ.alike A.2.1) ht A.2.2 hin hat (g := mkF m pc Ls (.int j :: .ref a :: rest)) rfl rfl hd
theorem a_len {ty : FieldType} (X : Stand p l e R s m args below meth c T locs cells slots) (hx : p.tables.exec = Jvm.exec) (hZ : Z.Warmed39 s.vm) (eT : T.heap = h) (A : AV Z h a ty n f) {z : Int32} (hz : z.toInt = (n : Int)) (hd : decode c.code pc = .ok (.arraylength, 1)) :
    ∀ t, Steps p.tables e below (T.setTop (mkF m (pc + 1) Ls (.int z :: rest))) t → Steps p.tables e below (T.setTop (mkF m pc Ls (.ref a :: rest))) t := by
  obtain ⟨cl, A, hin⟩ := A.len
  have hb := Int32.toInt_lt z
  have q : cl.slots.size.toInt32 = z := by rw [hin]; exact Int32.toInt_inj.mp (by rw [hz]; exact Int32.toInt_ofNat_of_lt (by omega))
  intro t k
  refine X.arraylength hx (by rw [eT]; exact A.1) (State.isArrayOf_alike hZ.alike A.2.1) (g := mkF m pc Ls (.ref a :: rest)) rfl rfl hd _ ?_
  rw [q]; exact k
end ASteps
theorem own_nar (x : Int32) : nar .char (nar .char x) = nar .char x := by
  show x.toUInt32.toUInt16.toUInt32.toInt32.toUInt32.toUInt16.toUInt32.toInt32 = x.toUInt32.toUInt16.toUInt32.toInt32
  rw [UInt32.toUInt32_toInt32, UInt16.toUInt16_toUInt32]
theorem own_eq (i n : Nat) (h : i < 2147483648) (hn : n < 2147483648) : (Int32.ofNat i = Int32.ofNat n) ↔ i = n := by
  rw [← Int32.toInt_inj, Int32.toInt_ofNat_of_lt (by omega), Int32.toInt_ofNat_of_lt (by omega)]; omega
theorem own_sub (t k : Nat) (h : k ≤ t) (ht : t < 2147483648) : Int32.ofNat t - Int32.ofNat k = Int32.ofNat (t - k) := by
  have h1 := c_isub (Int32.ofNat t) (Int32.ofNat k); have h2 := rng32 (Int32.ofNat t - Int32.ofNat k)
  rw [Int32.toInt_ofNat_of_lt (by omega), Int32.toInt_ofNat_of_lt (by omega)] at h1
  refine Int32.toInt_inj.mp ?_
  rw [Int32.toInt_ofNat_of_lt (by omega)]; omega
theorem own_neg (t k : Nat) (hk : k ≤ 2) (ht : t < 100) : (Int32.ofNat t - Int32.ofNat k < (0 : Int32)) ↔ t < k := by
  have h1 := c_isub (Int32.ofNat t) (Int32.ofNat k); have h2 := rng32 (Int32.ofNat t - Int32.ofNat k)
  rw [Int32.toInt_ofNat_of_lt (by omega), Int32.toInt_ofNat_of_lt (by omega)] at h1
  rw [Int32.lt_iff_toInt_lt]; simp only [Int32.reduceToInt]; omega
theorem own_off (x : Int32) : ∃ n : Nat, n ≤ 3 ∧ (x &&& (3 : Int32)) = Int32.ofNat n := by
  have h1 := c_mask x 3 2 (by decide) (by decide)
  refine ⟨(x &&& 3).toInt.toNat, by omega, Int32.toInt_inj.mp ?_⟩
  rw [Int32.toInt_ofNat_of_lt (by omega)]; omega
theorem own_len (x : Int32) : ∃ n : Nat, n ≤ 8 ∧ ((x &&& (2147483647 : Int32)) % (9 : Int32)) = Int32.ofNat n := by
  have h1 := c_mask x 2147483647 31 (by decide) (by decide)
  have h2 := (c_irem (x &&& 2147483647) 9 9 (by decide)).1
  refine ⟨((x &&& 2147483647) % 9).toInt.toNat, by omega, Int32.toInt_inj.mp ?_⟩
  rw [Int32.toInt_ofNat_of_lt (by omega)]; omega
theorem own_mod4 (n : Nat) (h : n ≤ 8) : (Int32.ofNat n % (4 : Int32) = (0 : Int32)) ↔ n % 4 = 0 := by
  have key : ∀ n : Fin 9, (Int32.ofNat n.1 % (4 : Int32) = (0 : Int32)) ↔ n.1 % 4 = 0 := by decide +kernel
  exact key ⟨n, by omega⟩
abbrev dl (len : Nat) (c1 c2 : Int32) : Int32 := (Int32.ofNat len / (4 : Int32)) * (3 : Int32) - (if c1 = (61 : Int32) then (if c2 = (61 : Int32) then (2 : Int32) else (1 : Int32)) else (0 : Int32))
theorem ef_rmP (m : MethodId) (x0 : Int32) : entryFrame m #[(.int x0)] 1 = mkF m 0 #[.val (.int x0)] [] := by first | (simp [entryFrame, mkF, argsToLocals, Value.category]; done) | rfl
theorem pn_0 : plainName "com/example/sharks/sharks/StandardBase64DecodedLengthPinLaw" = true := by first | (simp [plainName, overriddenIn]; done) | decide +kernel
theorem d1_0 : decode method_3_code 0 = .ok (.iload_n 0, 1) := by decide +kernel
theorem d1_1 : decode method_3_code 1 = .ok (.ldc 20, 2) := by decide +kernel
theorem d1_3 : decode method_3_code 3 = .ok (.iand, 1) := by decide +kernel
theorem d1_4 : decode method_3_code 4 = .ok (.ifCond .eq 8, 3) := by decide +kernel
theorem d1_12 : decode method_3_code 12 = .ok (.iload_n 0, 1) := by decide +kernel
theorem d1_13 : decode method_3_code 13 = .ok (.ldc 21, 2) := by decide +kernel
theorem d1_15 : decode method_3_code 15 = .ok (.iand, 1) := by decide +kernel
theorem d1_16 : decode method_3_code 16 = .ok (.i2c, 1) := by decide +kernel
theorem d1_17 : decode method_3_code 17 = .ok (.ireturn, 1) := by decide +kernel
theorem d1_7 : decode method_3_code 7 = .ok (.bipush 61, 2) := by decide +kernel
theorem d1_9 : decode method_3_code 9 = .ok (.goto 8, 3) := by decide +kernel
set_option maxRecDepth 65536 in
set_option maxHeartbeats 40000000 in
theorem rmP (l : Launch) (Z : State) (a0 : Array Value) (hw : ∀ d ∈ tables_1, d.before a0 Z = true) (ws : List Jvm.Cond) (x : Int32) (h0 : Heap) (n0 : Nat) (Z0 : n0 ≤ h0.size)  :
    Ctr l Z (⟨"com/example/sharks/sharks/StandardBase64DecodedLengthPinLaw", "pick", "(I)C"⟩ : MethodName) method_3_code 1 (some .char) ws ({ frames := 0, cells := 0, slots := 0, locals := 0 } : Room) 0 0 #[(.int x)] h0 (fun v h L => ∃ z, v = some (.int z) ∧ nar .char z = z ∧ L = [] ∧ h = h0) := by
  refine Ctr.mk (plainFor_of_name pn_0) fun p e s m below meth c T0 X0 C e0 => go_cast (ef_rmP m x) ?_
  have N0 := Fr.nil n0
  obtain ⟨hx, hZ, hby, hml, hown, hnm, hret, hlk⟩ := C
  show Go _ _ _ _ _ _ _ T0 (mkF m 0 #[.val (.int x)] [])
  refine Go.step (fun t k => XS.iloadN X0.here hx rfl (hb hby d1_0) rfl k) ?_
  show Go _ _ _ _ _ _ _ T0 (mkF m 1 #[.val (.int x)] [(.int x)])
  refine Go.step (X0.ldcInt hx hown (mvT hZ (hw _ (List.mem_of_getElem? (i := 5) rfl))) (g := (mkF m 1 #[.val (.int x)] [(.int x)])) rfl (hb hby d1_1)) ?_
  show Go _ _ _ _ _ _ _ T0 (mkF m 3 #[.val (.int x)] [(.int (65536 : Int32)), (.int x)])
  refine Go.step (fun t k => XS.iand X0.here hx rfl (hb hby d1_3) rfl k) ?_
  show Go _ _ _ _ _ _ _ T0 (mkF m 4 #[.val (.int x)] [(.int (x &&& (65536 : Int32)))])
  by_cases c4_1 : (x &&& (65536 : Int32)) = (0 : Int32)
  · refine Go.step (fun t k => XS.ifYes X0.here hx rfl (pc0 := 4) (pc' := 12) rfl (hb hby d1_4) rfl ((if0 _ _).trans (teq c4_1).1) (by decide) (by decide) k) ?_
    show Go _ _ _ _ _ _ _ T0 (mkF m 12 #[.val (.int x)] [])
    refine Go.step (fun t k => XS.iloadN X0.here hx rfl (hb hby d1_12) rfl k) ?_
    show Go _ _ _ _ _ _ _ T0 (mkF m 13 #[.val (.int x)] [(.int x)])
    refine Go.step (X0.ldcInt hx hown (mvT hZ (hw _ (List.mem_of_getElem? (i := 6) rfl))) (g := (mkF m 13 #[.val (.int x)] [(.int x)])) rfl (hb hby d1_13)) ?_
    show Go _ _ _ _ _ _ _ T0 (mkF m 15 #[.val (.int x)] [(.int (65535 : Int32)), (.int x)])
    refine Go.step (fun t k => XS.iand X0.here hx rfl (hb hby d1_15) rfl k) ?_
    show Go _ _ _ _ _ _ _ T0 (mkF m 16 #[.val (.int x)] [(.int (x &&& (65535 : Int32)))])
    refine Go.step (fun t k => XS.i2c X0.here hx rfl (hb hby d1_16) rfl k) ?_
    show Go _ _ _ _ _ _ _ T0 (mkF m 17 #[.val (.int x)] [(.int ((x &&& (65535 : Int32)).toUInt32.toUInt16.toUInt32.toInt32))])
    refine go_retN X0 hx (t := .char) hret (by simp) hlk (hb hby d1_17) (w := (nar .char ((x &&& (65535 : Int32)).toUInt32.toUInt16.toUInt32.toInt32))) rfl ?_ (by decide) (by decide)
    try rw [e0]
    exact ⟨_, rfl, own_nar _, rfl, rfl⟩
  · refine Go.step (fun t k => XS.ifNo X0.here hx rfl (hb hby d1_4) rfl ((if0 _ _).trans (feq c4_1).1) k) ?_
    show Go _ _ _ _ _ _ _ T0 (mkF m 7 #[.val (.int x)] [])
    refine Go.step (fun t k => XS.bipush X0.here hx rfl (hb hby d1_7) k) ?_
    show Go _ _ _ _ _ _ _ T0 (mkF m 9 #[.val (.int x)] [(.int (61 : Int32))])
    refine Go.step (fun t k => XS.goto X0.here hx rfl (pc0 := 9) (pc' := 17) rfl (hb hby d1_9) (by decide) (by decide) k) ?_
    show Go _ _ _ _ _ _ _ T0 (mkF m 17 #[.val (.int x)] [(.int (61 : Int32))])
    refine go_retN X0 hx (t := .char) hret (by simp) hlk (hb hby d1_17) (w := (nar .char (61 : Int32))) rfl ?_ (by decide) (by decide)
    try rw [e0]
    exact ⟨_, rfl, own_nar _, rfl, rfl⟩
theorem ef_rmD1 (m : MethodId) (x0 : Addr) (x1 : Int32) (x2 : Int32) : entryFrame m #[(.ref x0), (.int x1), (.int x2)] 5 = mkF m 0 #[.val (.ref x0), .val (.int x1), .val (.int x2), .unset, .unset] [] := by first | (simp [entryFrame, mkF, argsToLocals, Value.category]; done) | rfl
theorem pn_1 : plainName "com/example/sharks/sharks/StandardBase64" = true := by first | (simp [plainName, overriddenIn]; done) | decide +kernel
theorem d2_0 : decode prog_9_method_3_code 0 = .ok (.iload_n 2, 1) := by decide +kernel
theorem d2_1 : decode prog_9_method_3_code 1 = .ok (.iconst 4, 1) := by decide +kernel
theorem d2_2 : decode prog_9_method_3_code 2 = .ok (.irem, 1) := by decide +kernel
theorem d2_3 : decode prog_9_method_3_code 3 = .ok (.ifCond .eq 5, 3) := by decide +kernel
theorem d2_6 : decode prog_9_method_3_code 6 = .ok (.iconst (-1), 1) := by decide +kernel
theorem d2_7 : decode prog_9_method_3_code 7 = .ok (.ireturn, 1) := by decide +kernel
set_option maxRecDepth 65536 in
set_option maxHeartbeats 40000000 in
theorem rmD1 (l : Launch) (Z : State) (a0 : Array Value) (hw : ∀ d ∈ tables_1, d.before a0 Z = true) (ws : List Jvm.Cond) (a : Addr) (y x : Int32) (h0 : Heap) (n0 : Nat) (Z0 : n0 ≤ h0.size) (hm : ¬ (x % (4 : Int32)) = (0 : Int32)) :
    Ctr l Z (⟨"com/example/sharks/sharks/StandardBase64", "decodedLength", "([CII)I"⟩ : MethodName) prog_9_method_3_code 5 (some .int) ws ({ frames := 0, cells := 0, slots := 0, locals := 0 } : Room) 0 0 #[(.ref a), (.int y), (.int x)] h0 (fun v h L => v = some (.int (-1 : Int32)) ∧ L = [] ∧ h = h0) := by
  refine Ctr.mk (plainFor_of_name pn_1) fun p e s m below meth c T0 X0 C e0 => go_cast (ef_rmD1 m a y x) ?_
  have N0 := Fr.nil n0
  obtain ⟨hx, hZ, hby, hml, hown, hnm, hret, hlk⟩ := C
  show Go _ _ _ _ _ _ _ T0 (mkF m 0 #[.val (.ref a), .val (.int y), .val (.int x), .unset, .unset] [])
  refine Go.step (fun t k => XS.iloadN X0.here hx rfl (hb hby d2_0) rfl k) ?_
  show Go _ _ _ _ _ _ _ T0 (mkF m 1 #[.val (.ref a), .val (.int y), .val (.int x), .unset, .unset] [(.int x)])
  refine Go.step (fun t k => XS.iconst X0.here hx rfl (hb hby d2_1) k) ?_
  show Go _ _ _ _ _ _ _ T0 (mkF m 2 #[.val (.ref a), .val (.int y), .val (.int x), .unset, .unset] [(.int (4 : Int32)), (.int x)])
  refine Go.step (fun t k => iremM X0 hx rfl (hb hby d2_2) rfl (by decide) k) ?_
  show Go _ _ _ _ _ _ _ T0 (mkF m 3 #[.val (.ref a), .val (.int y), .val (.int x), .unset, .unset] [(.int (x % (4 : Int32)))])
  refine Go.step (fun t k => XS.ifNo X0.here hx rfl (hb hby d2_3) rfl ((if0 _ _).trans (feq hm).1) k) ?_
  show Go _ _ _ _ _ _ _ T0 (mkF m 6 #[.val (.ref a), .val (.int y), .val (.int x), .unset, .unset] [])
  refine Go.step (fun t k => XS.iconst X0.here hx rfl (hb hby d2_6) k) ?_
  show Go _ _ _ _ _ _ _ T0 (mkF m 7 #[.val (.ref a), .val (.int y), .val (.int x), .unset, .unset] [(.int (-1 : Int32))])
  refine go_retI X0 hx hret hlk (hb hby d2_7) ?_ (by decide) (by decide)
  try rw [e0]
  exact ⟨rfl, rfl, rfl⟩
theorem ef_rmD0 (m : MethodId) (x0 : Addr) (x1 : Int32) (x2 : Int32) : entryFrame m #[(.ref x0), (.int x1), (.int x2)] 5 = mkF m 0 #[.val (.ref x0), .val (.int x1), .val (.int x2), .unset, .unset] [] := by first | (simp [entryFrame, mkF, argsToLocals, Value.category]; done) | rfl
theorem d2_8 : decode prog_9_method_3_code 8 = .ok (.iload_n 1, 1) := by decide +kernel
theorem d2_9 : decode prog_9_method_3_code 9 = .ok (.iload_n 2, 1) := by decide +kernel
theorem d2_10 : decode prog_9_method_3_code 10 = .ok (.iadd, 1) := by decide +kernel
theorem d2_11 : decode prog_9_method_3_code 11 = .ok (.istore_n 3, 1) := by decide +kernel
theorem d2_12 : decode prog_9_method_3_code 12 = .ok (.iload_n 2, 1) := by decide +kernel
theorem d2_13 : decode prog_9_method_3_code 13 = .ok (.ifCond .eq 13, 3) := by decide +kernel
theorem d2_26 : decode prog_9_method_3_code 26 = .ok (.iconst 0, 1) := by decide +kernel
theorem d2_27 : decode prog_9_method_3_code 27 = .ok (.goto 18, 3) := by decide +kernel
theorem d2_45 : decode prog_9_method_3_code 45 = .ok (.istore 4, 2) := by decide +kernel
theorem d2_47 : decode prog_9_method_3_code 47 = .ok (.iload_n 2, 1) := by decide +kernel
theorem d2_48 : decode prog_9_method_3_code 48 = .ok (.iconst 4, 1) := by decide +kernel
theorem d2_49 : decode prog_9_method_3_code 49 = .ok (.idiv, 1) := by decide +kernel
theorem d2_50 : decode prog_9_method_3_code 50 = .ok (.iconst 3, 1) := by decide +kernel
theorem d2_51 : decode prog_9_method_3_code 51 = .ok (.imul, 1) := by decide +kernel
theorem d2_52 : decode prog_9_method_3_code 52 = .ok (.iload 4, 2) := by decide +kernel
theorem d2_54 : decode prog_9_method_3_code 54 = .ok (.isub, 1) := by decide +kernel
theorem d2_55 : decode prog_9_method_3_code 55 = .ok (.ireturn, 1) := by decide +kernel
set_option maxRecDepth 65536 in
set_option maxHeartbeats 40000000 in
theorem rmD0 (l : Launch) (Z : State) (a0 : Array Value) (hw : ∀ d ∈ tables_1, d.before a0 Z = true) (ws : List Jvm.Cond) (a : Addr) (y : Int32) (h0 : Heap) (n0 : Nat) (Z0 : n0 ≤ h0.size)  :
    Ctr l Z (⟨"com/example/sharks/sharks/StandardBase64", "decodedLength", "([CII)I"⟩ : MethodName) prog_9_method_3_code 5 (some .int) ws ({ frames := 0, cells := 0, slots := 0, locals := 0 } : Room) 0 0 #[(.ref a), (.int y), (.int (0 : Int32))] h0 (fun v h L => v = some (.int (0 : Int32)) ∧ L = [] ∧ h = h0) := by
  refine Ctr.mk (plainFor_of_name pn_1) fun p e s m below meth c T0 X0 C e0 => go_cast (ef_rmD0 m a y (0 : Int32)) ?_
  have N0 := Fr.nil n0
  obtain ⟨hx, hZ, hby, hml, hown, hnm, hret, hlk⟩ := C
  show Go _ _ _ _ _ _ _ T0 (mkF m 0 #[.val (.ref a), .val (.int y), .val (.int (0 : Int32)), .unset, .unset] [])
  refine Go.step (fun t k => XS.iloadN X0.here hx rfl (hb hby d2_0) rfl k) ?_
  show Go _ _ _ _ _ _ _ T0 (mkF m 1 #[.val (.ref a), .val (.int y), .val (.int (0 : Int32)), .unset, .unset] [(.int (0 : Int32))])
  refine Go.step (fun t k => XS.iconst X0.here hx rfl (hb hby d2_1) k) ?_
  show Go _ _ _ _ _ _ _ T0 (mkF m 2 #[.val (.ref a), .val (.int y), .val (.int (0 : Int32)), .unset, .unset] [(.int (4 : Int32)), (.int (0 : Int32))])
  refine Go.step (fun t k => iremM X0 hx rfl (hb hby d2_2) rfl (by decide) k) ?_
  show Go _ _ _ _ _ _ _ T0 (mkF m 3 #[.val (.ref a), .val (.int y), .val (.int (0 : Int32)), .unset, .unset] [(.int ((0 : Int32) % (4 : Int32)))])
  refine Go.step (fun t k => XS.ifYes X0.here hx rfl (pc0 := 3) (pc' := 8) rfl (hb hby d2_3) rfl ((if0 _ _).trans (teq (by decide)).1) (by decide) (by decide) k) ?_
  show Go _ _ _ _ _ _ _ T0 (mkF m 8 #[.val (.ref a), .val (.int y), .val (.int (0 : Int32)), .unset, .unset] [])
  refine Go.step (fun t k => XS.iloadN X0.here hx rfl (hb hby d2_8) rfl k) ?_
  show Go _ _ _ _ _ _ _ T0 (mkF m 9 #[.val (.ref a), .val (.int y), .val (.int (0 : Int32)), .unset, .unset] [(.int y)])
  refine Go.step (fun t k => XS.iloadN X0.here hx rfl (hb hby d2_9) rfl k) ?_
  show Go _ _ _ _ _ _ _ T0 (mkF m 10 #[.val (.ref a), .val (.int y), .val (.int (0 : Int32)), .unset, .unset] [(.int (0 : Int32)), (.int y)])
  refine Go.step (fun t k => XS.iadd X0.here hx rfl (hb hby d2_10) rfl k) ?_
  show Go _ _ _ _ _ _ _ T0 (mkF m 11 #[.val (.ref a), .val (.int y), .val (.int (0 : Int32)), .unset, .unset] [(.int (y + (0 : Int32)))])
  refine Go.step (fun t k => XS.istoreN X0.here hx rfl (hb hby d2_11) rfl (l' := #[.val (.ref a), .val (.int y), .val (.int (0 : Int32)), .val (.int (y + (0 : Int32))), .unset]) rfl k) ?_
  show Go _ _ _ _ _ _ _ T0 (mkF m 12 #[.val (.ref a), .val (.int y), .val (.int (0 : Int32)), .val (.int (y + (0 : Int32))), .unset] [])
  refine Go.step (fun t k => XS.iloadN X0.here hx rfl (hb hby d2_12) rfl k) ?_
  show Go _ _ _ _ _ _ _ T0 (mkF m 13 #[.val (.ref a), .val (.int y), .val (.int (0 : Int32)), .val (.int (y + (0 : Int32))), .unset] [(.int (0 : Int32))])
  refine Go.step (fun t k => XS.ifYes X0.here hx rfl (pc0 := 13) (pc' := 26) rfl (hb hby d2_13) rfl ((if0 _ _).trans (teq (by decide)).1) (by decide) (by decide) k) ?_
  show Go _ _ _ _ _ _ _ T0 (mkF m 26 #[.val (.ref a), .val (.int y), .val (.int (0 : Int32)), .val (.int (y + (0 : Int32))), .unset] [])
  refine Go.step (fun t k => XS.iconst X0.here hx rfl (hb hby d2_26) k) ?_
  show Go _ _ _ _ _ _ _ T0 (mkF m 27 #[.val (.ref a), .val (.int y), .val (.int (0 : Int32)), .val (.int (y + (0 : Int32))), .unset] [(.int (0 : Int32))])
  refine Go.step (fun t k => XS.goto X0.here hx rfl (pc0 := 27) (pc' := 45) rfl (hb hby d2_27) (by decide) (by decide) k) ?_
  show Go _ _ _ _ _ _ _ T0 (mkF m 45 #[.val (.ref a), .val (.int y), .val (.int (0 : Int32)), .val (.int (y + (0 : Int32))), .unset] [(.int (0 : Int32))])
  refine Go.step (fun t k => XS.istore X0.here hx rfl (hb hby d2_45) rfl (l' := #[.val (.ref a), .val (.int y), .val (.int (0 : Int32)), .val (.int (y + (0 : Int32))), .val (.int (0 : Int32))]) rfl k) ?_
  show Go _ _ _ _ _ _ _ T0 (mkF m 47 #[.val (.ref a), .val (.int y), .val (.int (0 : Int32)), .val (.int (y + (0 : Int32))), .val (.int (0 : Int32))] [])
  refine Go.step (fun t k => XS.iloadN X0.here hx rfl (hb hby d2_47) rfl k) ?_
  show Go _ _ _ _ _ _ _ T0 (mkF m 48 #[.val (.ref a), .val (.int y), .val (.int (0 : Int32)), .val (.int (y + (0 : Int32))), .val (.int (0 : Int32))] [(.int (0 : Int32))])
  refine Go.step (fun t k => XS.iconst X0.here hx rfl (hb hby d2_48) k) ?_
  show Go _ _ _ _ _ _ _ T0 (mkF m 49 #[.val (.ref a), .val (.int y), .val (.int (0 : Int32)), .val (.int (y + (0 : Int32))), .val (.int (0 : Int32))] [(.int (4 : Int32)), (.int (0 : Int32))])
  refine Go.step (fun t k => XS.idiv X0.here hx rfl (hb hby d2_49) rfl (by decide) k) ?_
  show Go _ _ _ _ _ _ _ T0 (mkF m 50 #[.val (.ref a), .val (.int y), .val (.int (0 : Int32)), .val (.int (y + (0 : Int32))), .val (.int (0 : Int32))] [(.int ((0 : Int32) / (4 : Int32)))])
  refine Go.step (fun t k => XS.iconst X0.here hx rfl (hb hby d2_50) k) ?_
  show Go _ _ _ _ _ _ _ T0 (mkF m 51 #[.val (.ref a), .val (.int y), .val (.int (0 : Int32)), .val (.int (y + (0 : Int32))), .val (.int (0 : Int32))] [(.int (3 : Int32)), (.int ((0 : Int32) / (4 : Int32)))])
  refine Go.step (fun t k => XS.imul X0.here hx rfl (hb hby d2_51) rfl k) ?_
  show Go _ _ _ _ _ _ _ T0 (mkF m 52 #[.val (.ref a), .val (.int y), .val (.int (0 : Int32)), .val (.int (y + (0 : Int32))), .val (.int (0 : Int32))] [(.int (((0 : Int32) / (4 : Int32)) * (3 : Int32)))])
  refine Go.step (fun t k => XS.iload X0.here hx rfl (hb hby d2_52) rfl k) ?_
  show Go _ _ _ _ _ _ _ T0 (mkF m 54 #[.val (.ref a), .val (.int y), .val (.int (0 : Int32)), .val (.int (y + (0 : Int32))), .val (.int (0 : Int32))] [(.int (0 : Int32)), (.int (((0 : Int32) / (4 : Int32)) * (3 : Int32)))])
  refine Go.step (fun t k => XS.isub X0.here hx rfl (hb hby d2_54) rfl k) ?_
  show Go _ _ _ _ _ _ _ T0 (mkF m 55 #[.val (.ref a), .val (.int y), .val (.int (0 : Int32)), .val (.int (y + (0 : Int32))), .val (.int (0 : Int32))] [(.int ((((0 : Int32) / (4 : Int32)) * (3 : Int32)) - (0 : Int32)))])
  refine go_retI X0 hx hret hlk (hb hby d2_55) ?_ (by decide) (by decide)
  try rw [e0]
  exact ⟨rfl, rfl, rfl⟩
theorem ef_rmD (m : MethodId) (x0 : Addr) (x1 : Int32) (x2 : Int32) : entryFrame m #[(.ref x0), (.int x1), (.int x2)] 5 = mkF m 0 #[.val (.ref x0), .val (.int x1), .val (.int x2), .unset, .unset] [] := by first | (simp [entryFrame, mkF, argsToLocals, Value.category]; done) | rfl
theorem d2_16 : decode prog_9_method_3_code 16 = .ok (.aload_n 0, 1) := by decide +kernel
theorem d2_17 : decode prog_9_method_3_code 17 = .ok (.iload_n 3, 1) := by decide +kernel
theorem d2_18 : decode prog_9_method_3_code 18 = .ok (.iconst 1, 1) := by decide +kernel
theorem d2_19 : decode prog_9_method_3_code 19 = .ok (.isub, 1) := by decide +kernel
theorem d2_20 : decode prog_9_method_3_code 20 = .ok (.caload, 1) := by decide +kernel
theorem d2_21 : decode prog_9_method_3_code 21 = .ok (.bipush 61, 2) := by decide +kernel
theorem d2_23 : decode prog_9_method_3_code 23 = .ok (.if_icmp .eq 7, 3) := by decide +kernel
theorem d2_30 : decode prog_9_method_3_code 30 = .ok (.aload_n 0, 1) := by decide +kernel
theorem d2_31 : decode prog_9_method_3_code 31 = .ok (.iload_n 3, 1) := by decide +kernel
theorem d2_32 : decode prog_9_method_3_code 32 = .ok (.iconst 2, 1) := by decide +kernel
theorem d2_33 : decode prog_9_method_3_code 33 = .ok (.isub, 1) := by decide +kernel
theorem d2_34 : decode prog_9_method_3_code 34 = .ok (.caload, 1) := by decide +kernel
theorem d2_35 : decode prog_9_method_3_code 35 = .ok (.bipush 61, 2) := by decide +kernel
theorem d2_37 : decode prog_9_method_3_code 37 = .ok (.if_icmp .ne 7, 3) := by decide +kernel
theorem d2_40 : decode prog_9_method_3_code 40 = .ok (.iconst 2, 1) := by decide +kernel
theorem d2_41 : decode prog_9_method_3_code 41 = .ok (.goto 4, 3) := by decide +kernel
theorem d2_44 : decode prog_9_method_3_code 44 = .ok (.iconst 1, 1) := by decide +kernel
set_option maxRecDepth 65536 in
set_option maxHeartbeats 40000000 in
theorem rmD (l : Launch) (Z : State) (a0 : Array Value) (hw : ∀ d ∈ tables_1, d.before a0 Z = true) (ws : List Jvm.Cond) (a : Addr) (off len : Nat) (c1 c2 : Int32) (f : Nat → Value) (h0 : Heap) (n0 : Nat) (Z0 : n0 ≤ h0.size) (ho : off ≤ 3) (hl : len = 4 ∨ len = 8) (V_a : AV Z h0 a .char 12 f) (hf1 : f (off + len - 1) = .int c1) (hf2 : f (off + len - 2) = .int c2) :
    Ctr l Z (⟨"com/example/sharks/sharks/StandardBase64", "decodedLength", "([CII)I"⟩ : MethodName) prog_9_method_3_code 5 (some .int) ws ({ frames := 0, cells := 0, slots := 0, locals := 0 } : Room) 0 0 #[(.ref a), (.int (Int32.ofNat off)), (.int (Int32.ofNat len))] h0 (fun v h L => v = some (.int (dl len c1 c2)) ∧ L = [] ∧ h = h0) := by
  refine Ctr.mk (plainFor_of_name pn_1) fun p e s m below meth c T0 X0 C e0 => go_cast (ef_rmD m a (Int32.ofNat off) (Int32.ofNat len)) ?_
  have N0 := Fr.nil n0
  obtain ⟨hx, hZ, hby, hml, hown, hnm, hret, hlk⟩ := C
  show Go _ _ _ _ _ _ _ T0 (mkF m 0 #[.val (.ref a), .val (.int (Int32.ofNat off)), .val (.int (Int32.ofNat len)), .unset, .unset] [])
  refine Go.step (fun t k => XS.iloadN X0.here hx rfl (hb hby d2_0) rfl k) ?_
  show Go _ _ _ _ _ _ _ T0 (mkF m 1 #[.val (.ref a), .val (.int (Int32.ofNat off)), .val (.int (Int32.ofNat len)), .unset, .unset] [(.int (Int32.ofNat len))])
  refine Go.step (fun t k => XS.iconst X0.here hx rfl (hb hby d2_1) k) ?_
  show Go _ _ _ _ _ _ _ T0 (mkF m 2 #[.val (.ref a), .val (.int (Int32.ofNat off)), .val (.int (Int32.ofNat len)), .unset, .unset] [(.int (4 : Int32)), (.int (Int32.ofNat len))])
  refine Go.step (fun t k => iremM X0 hx rfl (hb hby d2_2) rfl (by decide) k) ?_
  show Go _ _ _ _ _ _ _ T0 (mkF m 3 #[.val (.ref a), .val (.int (Int32.ofNat off)), .val (.int (Int32.ofNat len)), .unset, .unset] [(.int ((Int32.ofNat len) % (4 : Int32)))])
  refine Go.step (fun t k => XS.ifYes X0.here hx rfl (pc0 := 3) (pc' := 8) rfl (hb hby d2_3) rfl ((if0 _ _).trans (teq ((own_mod4 len (by omega)).mpr (by omega))).1) (by decide) (by decide) k) ?_
  show Go _ _ _ _ _ _ _ T0 (mkF m 8 #[.val (.ref a), .val (.int (Int32.ofNat off)), .val (.int (Int32.ofNat len)), .unset, .unset] [])
  refine Go.step (fun t k => XS.iloadN X0.here hx rfl (hb hby d2_8) rfl k) ?_
  show Go _ _ _ _ _ _ _ T0 (mkF m 9 #[.val (.ref a), .val (.int (Int32.ofNat off)), .val (.int (Int32.ofNat len)), .unset, .unset] [(.int (Int32.ofNat off))])
  refine Go.step (fun t k => XS.iloadN X0.here hx rfl (hb hby d2_9) rfl k) ?_
  show Go _ _ _ _ _ _ _ T0 (mkF m 10 #[.val (.ref a), .val (.int (Int32.ofNat off)), .val (.int (Int32.ofNat len)), .unset, .unset] [(.int (Int32.ofNat len)), (.int (Int32.ofNat off))])
  refine Go.step (fun t k => XS.iadd X0.here hx rfl (hb hby d2_10) rfl k) ?_
  show Go _ _ _ _ _ _ _ T0 (mkF m 11 #[.val (.ref a), .val (.int (Int32.ofNat off)), .val (.int (Int32.ofNat len)), .unset, .unset] [(.int ((Int32.ofNat off) + (Int32.ofNat len)))])
  refine Go.step (fun t k => XS.istoreN X0.here hx rfl (hb hby d2_11) rfl (l' := #[.val (.ref a), .val (.int (Int32.ofNat off)), .val (.int (Int32.ofNat len)), .val (.int ((Int32.ofNat off) + (Int32.ofNat len))), .unset]) rfl k) ?_
  show Go _ _ _ _ _ _ _ T0 (mkF m 12 #[.val (.ref a), .val (.int (Int32.ofNat off)), .val (.int (Int32.ofNat len)), .val (.int ((Int32.ofNat off) + (Int32.ofNat len))), .unset] [])
  rw [← Int32.ofNat_add]
  show Go _ _ _ _ _ _ _ T0 (mkF m 12 #[.val (.ref a), .val (.int (Int32.ofNat off)), .val (.int (Int32.ofNat len)), .val (.int (Int32.ofNat (off + len))), .unset] [])
  refine Go.step (fun t k => XS.iloadN X0.here hx rfl (hb hby d2_12) rfl k) ?_
  show Go _ _ _ _ _ _ _ T0 (mkF m 13 #[.val (.ref a), .val (.int (Int32.ofNat off)), .val (.int (Int32.ofNat len)), .val (.int (Int32.ofNat (off + len))), .unset] [(.int (Int32.ofNat len))])
  refine Go.step (fun t k => XS.ifNo X0.here hx rfl (hb hby d2_13) rfl ((if0 _ _).trans (feq (mt (own_eq len 0 (by omega) (by omega)).mp (by omega))).1) k) ?_
  show Go _ _ _ _ _ _ _ T0 (mkF m 16 #[.val (.ref a), .val (.int (Int32.ofNat off)), .val (.int (Int32.ofNat len)), .val (.int (Int32.ofNat (off + len))), .unset] [])
  refine Go.step (fun t k => XS.aloadN X0.here hx rfl (hb hby d2_16) rfl rfl k) ?_
  show Go _ _ _ _ _ _ _ T0 (mkF m 17 #[.val (.ref a), .val (.int (Int32.ofNat off)), .val (.int (Int32.ofNat len)), .val (.int (Int32.ofNat (off + len))), .unset] [(.ref a)])
  refine Go.step (fun t k => XS.iloadN X0.here hx rfl (hb hby d2_17) rfl k) ?_
  show Go _ _ _ _ _ _ _ T0 (mkF m 18 #[.val (.ref a), .val (.int (Int32.ofNat off)), .val (.int (Int32.ofNat len)), .val (.int (Int32.ofNat (off + len))), .unset] [(.int (Int32.ofNat (off + len))), (.ref a)])
  refine Go.step (fun t k => XS.iconst X0.here hx rfl (hb hby d2_18) k) ?_
  show Go _ _ _ _ _ _ _ T0 (mkF m 19 #[.val (.ref a), .val (.int (Int32.ofNat off)), .val (.int (Int32.ofNat len)), .val (.int (Int32.ofNat (off + len))), .unset] [(.int (1 : Int32)), (.int (Int32.ofNat (off + len))), (.ref a)])
  refine Go.step (fun t k => XS.isub X0.here hx rfl (hb hby d2_19) rfl k) ?_
  show Go _ _ _ _ _ _ _ T0 (mkF m 20 #[.val (.ref a), .val (.int (Int32.ofNat off)), .val (.int (Int32.ofNat len)), .val (.int (Int32.ofNat (off + len))), .unset] [(.int ((Int32.ofNat (off + len)) - (1 : Int32))), (.ref a)])
  rw [show Int32.ofNat (off + len) - (1 : Int32) = Int32.ofNat (off + len - 1) from own_sub _ 1 (by omega) (by omega)]
  show Go _ _ _ _ _ _ _ T0 (mkF m 20 #[.val (.ref a), .val (.int (Int32.ofNat off)), .val (.int (Int32.ofNat len)), .val (.int (Int32.ofNat (off + len))), .unset] [(.int (Int32.ofNat (off + len - 1))), (.ref a)])
  refine Go.step (a_cload X0 hx hZ e0 V_a (k := (off + len - 1)) (Int32.toInt_ofNat_of_lt (by omega)) (by omega) (x := c1) hf1 (hb hby d2_20)) ?_
  show Go _ _ _ _ _ _ _ T0 (mkF m 21 #[.val (.ref a), .val (.int (Int32.ofNat off)), .val (.int (Int32.ofNat len)), .val (.int (Int32.ofNat (off + len))), .unset] [(.int c1)])
  refine Go.step (fun t k => XS.bipush X0.here hx rfl (hb hby d2_21) k) ?_
  show Go _ _ _ _ _ _ _ T0 (mkF m 23 #[.val (.ref a), .val (.int (Int32.ofNat off)), .val (.int (Int32.ofNat len)), .val (.int (Int32.ofNat (off + len))), .unset] [(.int (61 : Int32)), (.int c1)])
  by_cases c23_1 : c1 = (61 : Int32)
  · refine Go.step (fun t k => XS.icmpYes X0.here hx rfl (pc0 := 23) (pc' := 30) rfl (hb hby d2_23) rfl (teq c23_1).1 (by decide) (by decide) k) ?_
    show Go _ _ _ _ _ _ _ T0 (mkF m 30 #[.val (.ref a), .val (.int (Int32.ofNat off)), .val (.int (Int32.ofNat len)), .val (.int (Int32.ofNat (off + len))), .unset] [])
    refine Go.step (fun t k => XS.aloadN X0.here hx rfl (hb hby d2_30) rfl rfl k) ?_
    show Go _ _ _ _ _ _ _ T0 (mkF m 31 #[.val (.ref a), .val (.int (Int32.ofNat off)), .val (.int (Int32.ofNat len)), .val (.int (Int32.ofNat (off + len))), .unset] [(.ref a)])
    refine Go.step (fun t k => XS.iloadN X0.here hx rfl (hb hby d2_31) rfl k) ?_
    show Go _ _ _ _ _ _ _ T0 (mkF m 32 #[.val (.ref a), .val (.int (Int32.ofNat off)), .val (.int (Int32.ofNat len)), .val (.int (Int32.ofNat (off + len))), .unset] [(.int (Int32.ofNat (off + len))), (.ref a)])
    refine Go.step (fun t k => XS.iconst X0.here hx rfl (hb hby d2_32) k) ?_
    show Go _ _ _ _ _ _ _ T0 (mkF m 33 #[.val (.ref a), .val (.int (Int32.ofNat off)), .val (.int (Int32.ofNat len)), .val (.int (Int32.ofNat (off + len))), .unset] [(.int (2 : Int32)), (.int (Int32.ofNat (off + len))), (.ref a)])
    refine Go.step (fun t k => XS.isub X0.here hx rfl (hb hby d2_33) rfl k) ?_
    show Go _ _ _ _ _ _ _ T0 (mkF m 34 #[.val (.ref a), .val (.int (Int32.ofNat off)), .val (.int (Int32.ofNat len)), .val (.int (Int32.ofNat (off + len))), .unset] [(.int ((Int32.ofNat (off + len)) - (2 : Int32))), (.ref a)])
    rw [show Int32.ofNat (off + len) - (2 : Int32) = Int32.ofNat (off + len - 2) from own_sub _ 2 (by omega) (by omega)]
    show Go _ _ _ _ _ _ _ T0 (mkF m 34 #[.val (.ref a), .val (.int (Int32.ofNat off)), .val (.int (Int32.ofNat len)), .val (.int (Int32.ofNat (off + len))), .unset] [(.int (Int32.ofNat (off + len - 2))), (.ref a)])
    refine Go.step (a_cload X0 hx hZ e0 V_a (k := (off + len - 2)) (Int32.toInt_ofNat_of_lt (by omega)) (by omega) (x := c2) hf2 (hb hby d2_34)) ?_
    show Go _ _ _ _ _ _ _ T0 (mkF m 35 #[.val (.ref a), .val (.int (Int32.ofNat off)), .val (.int (Int32.ofNat len)), .val (.int (Int32.ofNat (off + len))), .unset] [(.int c2)])
    refine Go.step (fun t k => XS.bipush X0.here hx rfl (hb hby d2_35) k) ?_
    show Go _ _ _ _ _ _ _ T0 (mkF m 37 #[.val (.ref a), .val (.int (Int32.ofNat off)), .val (.int (Int32.ofNat len)), .val (.int (Int32.ofNat (off + len))), .unset] [(.int (61 : Int32)), (.int c2)])
    by_cases c37_2 : c2 = (61 : Int32)
    · refine Go.step (fun t k => XS.icmpNo X0.here hx rfl (hb hby d2_37) rfl (teq c37_2).2 k) ?_
      show Go _ _ _ _ _ _ _ T0 (mkF m 40 #[.val (.ref a), .val (.int (Int32.ofNat off)), .val (.int (Int32.ofNat len)), .val (.int (Int32.ofNat (off + len))), .unset] [])
      refine Go.step (fun t k => XS.iconst X0.here hx rfl (hb hby d2_40) k) ?_
      show Go _ _ _ _ _ _ _ T0 (mkF m 41 #[.val (.ref a), .val (.int (Int32.ofNat off)), .val (.int (Int32.ofNat len)), .val (.int (Int32.ofNat (off + len))), .unset] [(.int (2 : Int32))])
      refine Go.step (fun t k => XS.goto X0.here hx rfl (pc0 := 41) (pc' := 45) rfl (hb hby d2_41) (by decide) (by decide) k) ?_
      show Go _ _ _ _ _ _ _ T0 (mkF m 45 #[.val (.ref a), .val (.int (Int32.ofNat off)), .val (.int (Int32.ofNat len)), .val (.int (Int32.ofNat (off + len))), .unset] [(.int (2 : Int32))])
      refine Go.step (fun t k => XS.istore X0.here hx rfl (hb hby d2_45) rfl (l' := #[.val (.ref a), .val (.int (Int32.ofNat off)), .val (.int (Int32.ofNat len)), .val (.int (Int32.ofNat (off + len))), .val (.int (2 : Int32))]) rfl k) ?_
      show Go _ _ _ _ _ _ _ T0 (mkF m 47 #[.val (.ref a), .val (.int (Int32.ofNat off)), .val (.int (Int32.ofNat len)), .val (.int (Int32.ofNat (off + len))), .val (.int (2 : Int32))] [])
      refine Go.step (fun t k => XS.iloadN X0.here hx rfl (hb hby d2_47) rfl k) ?_
      show Go _ _ _ _ _ _ _ T0 (mkF m 48 #[.val (.ref a), .val (.int (Int32.ofNat off)), .val (.int (Int32.ofNat len)), .val (.int (Int32.ofNat (off + len))), .val (.int (2 : Int32))] [(.int (Int32.ofNat len))])
      refine Go.step (fun t k => XS.iconst X0.here hx rfl (hb hby d2_48) k) ?_
      show Go _ _ _ _ _ _ _ T0 (mkF m 49 #[.val (.ref a), .val (.int (Int32.ofNat off)), .val (.int (Int32.ofNat len)), .val (.int (Int32.ofNat (off + len))), .val (.int (2 : Int32))] [(.int (4 : Int32)), (.int (Int32.ofNat len))])
      refine Go.step (fun t k => XS.idiv X0.here hx rfl (hb hby d2_49) rfl (by decide) k) ?_
      show Go _ _ _ _ _ _ _ T0 (mkF m 50 #[.val (.ref a), .val (.int (Int32.ofNat off)), .val (.int (Int32.ofNat len)), .val (.int (Int32.ofNat (off + len))), .val (.int (2 : Int32))] [(.int ((Int32.ofNat len) / (4 : Int32)))])
      refine Go.step (fun t k => XS.iconst X0.here hx rfl (hb hby d2_50) k) ?_
      show Go _ _ _ _ _ _ _ T0 (mkF m 51 #[.val (.ref a), .val (.int (Int32.ofNat off)), .val (.int (Int32.ofNat len)), .val (.int (Int32.ofNat (off + len))), .val (.int (2 : Int32))] [(.int (3 : Int32)), (.int ((Int32.ofNat len) / (4 : Int32)))])
      refine Go.step (fun t k => XS.imul X0.here hx rfl (hb hby d2_51) rfl k) ?_
      show Go _ _ _ _ _ _ _ T0 (mkF m 52 #[.val (.ref a), .val (.int (Int32.ofNat off)), .val (.int (Int32.ofNat len)), .val (.int (Int32.ofNat (off + len))), .val (.int (2 : Int32))] [(.int (((Int32.ofNat len) / (4 : Int32)) * (3 : Int32)))])
      refine Go.step (fun t k => XS.iload X0.here hx rfl (hb hby d2_52) rfl k) ?_
      show Go _ _ _ _ _ _ _ T0 (mkF m 54 #[.val (.ref a), .val (.int (Int32.ofNat off)), .val (.int (Int32.ofNat len)), .val (.int (Int32.ofNat (off + len))), .val (.int (2 : Int32))] [(.int (2 : Int32)), (.int (((Int32.ofNat len) / (4 : Int32)) * (3 : Int32)))])
      refine Go.step (fun t k => XS.isub X0.here hx rfl (hb hby d2_54) rfl k) ?_
      show Go _ _ _ _ _ _ _ T0 (mkF m 55 #[.val (.ref a), .val (.int (Int32.ofNat off)), .val (.int (Int32.ofNat len)), .val (.int (Int32.ofNat (off + len))), .val (.int (2 : Int32))] [(.int ((((Int32.ofNat len) / (4 : Int32)) * (3 : Int32)) - (2 : Int32)))])
      refine go_retI X0 hx hret hlk (hb hby d2_55) ?_ (by decide) (by decide)
      try rw [e0]
      exact ⟨congrArg (fun z => some (Value.int z)) (by simp only [dl, eq_true c23_1, eq_true c37_2, if_true, if_false]), rfl, rfl⟩
    · refine Go.step (fun t k => XS.icmpYes X0.here hx rfl (pc0 := 37) (pc' := 44) rfl (hb hby d2_37) rfl (feq c37_2).2 (by decide) (by decide) k) ?_
      show Go _ _ _ _ _ _ _ T0 (mkF m 44 #[.val (.ref a), .val (.int (Int32.ofNat off)), .val (.int (Int32.ofNat len)), .val (.int (Int32.ofNat (off + len))), .unset] [])
      refine Go.step (fun t k => XS.iconst X0.here hx rfl (hb hby d2_44) k) ?_
      show Go _ _ _ _ _ _ _ T0 (mkF m 45 #[.val (.ref a), .val (.int (Int32.ofNat off)), .val (.int (Int32.ofNat len)), .val (.int (Int32.ofNat (off + len))), .unset] [(.int (1 : Int32))])
      refine Go.step (fun t k => XS.istore X0.here hx rfl (hb hby d2_45) rfl (l' := #[.val (.ref a), .val (.int (Int32.ofNat off)), .val (.int (Int32.ofNat len)), .val (.int (Int32.ofNat (off + len))), .val (.int (1 : Int32))]) rfl k) ?_
      show Go _ _ _ _ _ _ _ T0 (mkF m 47 #[.val (.ref a), .val (.int (Int32.ofNat off)), .val (.int (Int32.ofNat len)), .val (.int (Int32.ofNat (off + len))), .val (.int (1 : Int32))] [])
      refine Go.step (fun t k => XS.iloadN X0.here hx rfl (hb hby d2_47) rfl k) ?_
      show Go _ _ _ _ _ _ _ T0 (mkF m 48 #[.val (.ref a), .val (.int (Int32.ofNat off)), .val (.int (Int32.ofNat len)), .val (.int (Int32.ofNat (off + len))), .val (.int (1 : Int32))] [(.int (Int32.ofNat len))])
      refine Go.step (fun t k => XS.iconst X0.here hx rfl (hb hby d2_48) k) ?_
      show Go _ _ _ _ _ _ _ T0 (mkF m 49 #[.val (.ref a), .val (.int (Int32.ofNat off)), .val (.int (Int32.ofNat len)), .val (.int (Int32.ofNat (off + len))), .val (.int (1 : Int32))] [(.int (4 : Int32)), (.int (Int32.ofNat len))])
      refine Go.step (fun t k => XS.idiv X0.here hx rfl (hb hby d2_49) rfl (by decide) k) ?_
      show Go _ _ _ _ _ _ _ T0 (mkF m 50 #[.val (.ref a), .val (.int (Int32.ofNat off)), .val (.int (Int32.ofNat len)), .val (.int (Int32.ofNat (off + len))), .val (.int (1 : Int32))] [(.int ((Int32.ofNat len) / (4 : Int32)))])
      refine Go.step (fun t k => XS.iconst X0.here hx rfl (hb hby d2_50) k) ?_
      show Go _ _ _ _ _ _ _ T0 (mkF m 51 #[.val (.ref a), .val (.int (Int32.ofNat off)), .val (.int (Int32.ofNat len)), .val (.int (Int32.ofNat (off + len))), .val (.int (1 : Int32))] [(.int (3 : Int32)), (.int ((Int32.ofNat len) / (4 : Int32)))])
      refine Go.step (fun t k => XS.imul X0.here hx rfl (hb hby d2_51) rfl k) ?_
      show Go _ _ _ _ _ _ _ T0 (mkF m 52 #[.val (.ref a), .val (.int (Int32.ofNat off)), .val (.int (Int32.ofNat len)), .val (.int (Int32.ofNat (off + len))), .val (.int (1 : Int32))] [(.int (((Int32.ofNat len) / (4 : Int32)) * (3 : Int32)))])
      refine Go.step (fun t k => XS.iload X0.here hx rfl (hb hby d2_52) rfl k) ?_
      show Go _ _ _ _ _ _ _ T0 (mkF m 54 #[.val (.ref a), .val (.int (Int32.ofNat off)), .val (.int (Int32.ofNat len)), .val (.int (Int32.ofNat (off + len))), .val (.int (1 : Int32))] [(.int (1 : Int32)), (.int (((Int32.ofNat len) / (4 : Int32)) * (3 : Int32)))])
      refine Go.step (fun t k => XS.isub X0.here hx rfl (hb hby d2_54) rfl k) ?_
      show Go _ _ _ _ _ _ _ T0 (mkF m 55 #[.val (.ref a), .val (.int (Int32.ofNat off)), .val (.int (Int32.ofNat len)), .val (.int (Int32.ofNat (off + len))), .val (.int (1 : Int32))] [(.int ((((Int32.ofNat len) / (4 : Int32)) * (3 : Int32)) - (1 : Int32)))])
      refine go_retI X0 hx hret hlk (hb hby d2_55) ?_ (by decide) (by decide)
      try rw [e0]
      exact ⟨congrArg (fun z => some (Value.int z)) (by simp only [dl, eq_true c23_1, eq_false c37_2, if_true, if_false]), rfl, rfl⟩
  · refine Go.step (fun t k => XS.icmpNo X0.here hx rfl (hb hby d2_23) rfl (feq c23_1).1 k) ?_
    show Go _ _ _ _ _ _ _ T0 (mkF m 26 #[.val (.ref a), .val (.int (Int32.ofNat off)), .val (.int (Int32.ofNat len)), .val (.int (Int32.ofNat (off + len))), .unset] [])
    refine Go.step (fun t k => XS.iconst X0.here hx rfl (hb hby d2_26) k) ?_
    show Go _ _ _ _ _ _ _ T0 (mkF m 27 #[.val (.ref a), .val (.int (Int32.ofNat off)), .val (.int (Int32.ofNat len)), .val (.int (Int32.ofNat (off + len))), .unset] [(.int (0 : Int32))])
    refine Go.step (fun t k => XS.goto X0.here hx rfl (pc0 := 27) (pc' := 45) rfl (hb hby d2_27) (by decide) (by decide) k) ?_
    show Go _ _ _ _ _ _ _ T0 (mkF m 45 #[.val (.ref a), .val (.int (Int32.ofNat off)), .val (.int (Int32.ofNat len)), .val (.int (Int32.ofNat (off + len))), .unset] [(.int (0 : Int32))])
    refine Go.step (fun t k => XS.istore X0.here hx rfl (hb hby d2_45) rfl (l' := #[.val (.ref a), .val (.int (Int32.ofNat off)), .val (.int (Int32.ofNat len)), .val (.int (Int32.ofNat (off + len))), .val (.int (0 : Int32))]) rfl k) ?_
    show Go _ _ _ _ _ _ _ T0 (mkF m 47 #[.val (.ref a), .val (.int (Int32.ofNat off)), .val (.int (Int32.ofNat len)), .val (.int (Int32.ofNat (off + len))), .val (.int (0 : Int32))] [])
    refine Go.step (fun t k => XS.iloadN X0.here hx rfl (hb hby d2_47) rfl k) ?_
    show Go _ _ _ _ _ _ _ T0 (mkF m 48 #[.val (.ref a), .val (.int (Int32.ofNat off)), .val (.int (Int32.ofNat len)), .val (.int (Int32.ofNat (off + len))), .val (.int (0 : Int32))] [(.int (Int32.ofNat len))])
    refine Go.step (fun t k => XS.iconst X0.here hx rfl (hb hby d2_48) k) ?_
    show Go _ _ _ _ _ _ _ T0 (mkF m 49 #[.val (.ref a), .val (.int (Int32.ofNat off)), .val (.int (Int32.ofNat len)), .val (.int (Int32.ofNat (off + len))), .val (.int (0 : Int32))] [(.int (4 : Int32)), (.int (Int32.ofNat len))])
    refine Go.step (fun t k => XS.idiv X0.here hx rfl (hb hby d2_49) rfl (by decide) k) ?_
    show Go _ _ _ _ _ _ _ T0 (mkF m 50 #[.val (.ref a), .val (.int (Int32.ofNat off)), .val (.int (Int32.ofNat len)), .val (.int (Int32.ofNat (off + len))), .val (.int (0 : Int32))] [(.int ((Int32.ofNat len) / (4 : Int32)))])
    refine Go.step (fun t k => XS.iconst X0.here hx rfl (hb hby d2_50) k) ?_
    show Go _ _ _ _ _ _ _ T0 (mkF m 51 #[.val (.ref a), .val (.int (Int32.ofNat off)), .val (.int (Int32.ofNat len)), .val (.int (Int32.ofNat (off + len))), .val (.int (0 : Int32))] [(.int (3 : Int32)), (.int ((Int32.ofNat len) / (4 : Int32)))])
    refine Go.step (fun t k => XS.imul X0.here hx rfl (hb hby d2_51) rfl k) ?_
    show Go _ _ _ _ _ _ _ T0 (mkF m 52 #[.val (.ref a), .val (.int (Int32.ofNat off)), .val (.int (Int32.ofNat len)), .val (.int (Int32.ofNat (off + len))), .val (.int (0 : Int32))] [(.int (((Int32.ofNat len) / (4 : Int32)) * (3 : Int32)))])
    refine Go.step (fun t k => XS.iload X0.here hx rfl (hb hby d2_52) rfl k) ?_
    show Go _ _ _ _ _ _ _ T0 (mkF m 54 #[.val (.ref a), .val (.int (Int32.ofNat off)), .val (.int (Int32.ofNat len)), .val (.int (Int32.ofNat (off + len))), .val (.int (0 : Int32))] [(.int (0 : Int32)), (.int (((Int32.ofNat len) / (4 : Int32)) * (3 : Int32)))])
    refine Go.step (fun t k => XS.isub X0.here hx rfl (hb hby d2_54) rfl k) ?_
    show Go _ _ _ _ _ _ _ T0 (mkF m 55 #[.val (.ref a), .val (.int (Int32.ofNat off)), .val (.int (Int32.ofNat len)), .val (.int (Int32.ofNat (off + len))), .val (.int (0 : Int32))] [(.int ((((Int32.ofNat len) / (4 : Int32)) * (3 : Int32)) - (0 : Int32)))])
    refine go_retI X0 hx hret hlk (hb hby d2_55) ?_ (by decide) (by decide)
    try rw [e0]
    exact ⟨congrArg (fun z => some (Value.int z)) (by simp only [dl, eq_false c23_1, if_true, if_false]), rfl, rfl⟩
theorem ef_rm0 (m : MethodId) (x0 : Int32) (x1 : Int32) (x2 : Int32) (x3 : Int32) (x4 : Int32) : entryFrame m #[(.int x0), (.int x1), (.int x2), (.int x3), (.int x4)] maxLocals = mkF m 0 #[.val (.int x0), .val (.int x1), .val (.int x2), .val (.int x3), .val (.int x4), .unset, .unset, .unset, .unset, .unset, .unset, .unset, .unset, .unset] [] := by first | (simp [entryFrame, mkF, argsToLocals, Value.category, maxLocals]; done) | rfl
theorem pd_0 : parseMethodDescriptor "(I)C" = some ⟨[.int], some .char⟩ := by decide +kernel
theorem pd_1 : parseMethodDescriptor "([CII)I" = some ⟨[(.array .char), .int, .int], some .int⟩ := by decide +kernel
set_option maxRecDepth 65536 in
set_option maxHeartbeats 40000000 in
theorem rm0 (l : Launch) (Z : State) (a0 : Array Value) (hw : ∀ d ∈ tables_1, d.before a0 Z = true) (ws : List Jvm.Cond) (i0 i1 i2 i3 i4 : Int32) (h0 : Heap) (n0 : Nat) (Z0 : n0 ≤ h0.size)  :
    Ctr l Z x code maxLocals ret ws room_1 16 128 #[(.int i0), (.int i1), (.int i2), (.int i3), (.int i4)] h0 (fun v h L => v = some (.int (1 : Int32)) ∧ Fr n0 L) := by
  refine Ctr.mk (plainFor_of_name pn_0) fun p e s m below meth c T0 X0 C e0 => go_cast (ef_rm0 m i0 i1 i2 i3 i4) ?_
  have N0 := Fr.nil n0
  obtain ⟨hx, hZ, hby, hml, hown, hnm, hret, hlk⟩ := C
  show Go _ _ _ _ _ _ _ T0 (mkF m 0 #[.val (.int i0), .val (.int i1), .val (.int i2), .val (.int i3), .val (.int i4), .unset, .unset, .unset, .unset, .unset, .unset, .unset, .unset, .unset] [])
  refine Go.step (fun t k => XS.bipush X0.here hx rfl (hb hby at_0) k) ?_
  show Go _ _ _ _ _ _ _ T0 (mkF m 2 #[.val (.int i0), .val (.int i1), .val (.int i2), .val (.int i3), .val (.int i4), .unset, .unset, .unset, .unset, .unset, .unset, .unset, .unset, .unset] [(.int (12 : Int32))])
  obtain ⟨T1, h1, k1, X1, e1, E1, A1, EA1, st1⟩ := newPE X0 hx hZ (hw _ (List.mem_of_getElem? (i := 0) rfl)) e0 (g := (mkF m 2 #[.val (.int i0), .val (.int i1), .val (.int i2), .val (.int i3), .val (.int i4), .unset, .unset, .unset, .unset, .unset, .unset, .unset, .unset, .unset] [(.int (12 : Int32))])) rfl (hb hby at_2) rfl (by decide) (cap := 12) (by decide) (by decide) (by decide) (by decide) (ad := "[C") rfl
  obtain ⟨b1, g1⟩ : ∃ z, z = h0.size := ⟨_, rfl⟩
  rw [← g1] at A1 EA1 st1
  have gn_b1 : n0 ≤ b1 := Nat.le_trans Z0 (Nat.le_of_eq g1.symm)
  have Z1 : n0 ≤ h1.size := Nat.le_trans Z0 E1.1
  have V1 : AV Z h1 b1 .char 12 (lst [(.int (0 : Int32)), (.int (0 : Int32)), (.int (0 : Int32)), (.int (0 : Int32)), (.int (0 : Int32)), (.int (0 : Int32)), (.int (0 : Int32)), (.int (0 : Int32)), (.int (0 : Int32)), (.int (0 : Int32)), (.int (0 : Int32)), (.int (0 : Int32))]) := AV.newL (AV.new A1 (by decide)) rfl
  refine Go.step (st1) ?_
  show Go _ _ _ _ _ _ _ T1 (mkF m 4 #[.val (.int i0), .val (.int i1), .val (.int i2), .val (.int i3), .val (.int i4), .unset, .unset, .unset, .unset, .unset, .unset, .unset, .unset, .unset] [(.ref b1)])
  refine Go.step (fun t k => XS.astore X1.here hx rfl (hb hby at_4) rfl rfl (l' := #[.val (.int i0), .val (.int i1), .val (.int i2), .val (.int i3), .val (.int i4), .val (.ref b1), .unset, .unset, .unset, .unset, .unset, .unset, .unset, .unset]) rfl k) ?_
  show Go _ _ _ _ _ _ _ T1 (mkF m 6 #[.val (.int i0), .val (.int i1), .val (.int i2), .val (.int i3), .val (.int i4), .val (.ref b1), .unset, .unset, .unset, .unset, .unset, .unset, .unset, .unset] [])
  refine Go.step (fun t k => XS.iloadN X1.here hx rfl (hb hby at_6) rfl k) ?_
  show Go _ _ _ _ _ _ _ T1 (mkF m 7 #[.val (.int i0), .val (.int i1), .val (.int i2), .val (.int i3), .val (.int i4), .val (.ref b1), .unset, .unset, .unset, .unset, .unset, .unset, .unset, .unset] [(.int i3)])
  obtain ⟨v2, T2, L2, X2, q2, st2⟩ := c_static X1 hx hZ hown (y := (⟨"com/example/sharks/sharks/StandardBase64DecodedLengthPinLaw", "pick", "(I)C"⟩ : MethodName)) (hw _ (List.mem_of_getElem? (i := 1) rfl)) (hw _ (List.mem_of_getElem? (i := 2) rfl)) (hw _ (List.mem_of_getElem? (i := 3) rfl)) (hw _ (List.mem_of_getElem? (i := 4) rfl)) (by decide) (argsL := [(.int i3)]) (rest := []) (rmP l Z a0 hw [] i3 h1 n0 Z1) e1 pd_0 rfl (by rw [hml]; rfl) (W := 0) (by show 2 * 0 + _ ≤ _; exact Nat.le_of_eq rfl) (by decide) (by decide) (by decide) (by decide) (hb hby at_7) (Ls := #[.val (.int i0), .val (.int i1), .val (.int i2), .val (.int i3), .val (.int i4), .val (.ref b1), .unset, .unset, .unset, .unset, .unset, .unset, .unset, .unset])
  obtain ⟨zf, rfl, hzf, rfl, e2⟩ := q2
  have N2 := Fr.app N0 (Fr.nil n0)
  refine Go.step (st2) ?_
  show Go _ _ _ _ _ _ _ T2 (mkF m 10 #[.val (.int i0), .val (.int i1), .val (.int i2), .val (.int i3), .val (.int i4), .val (.ref b1), .unset, .unset, .unset, .unset, .unset, .unset, .unset, .unset] [(.int zf)])
  refine Go.step (fun t k => XS.istore X2.here hx rfl (hb hby at_10) rfl (l' := #[.val (.int i0), .val (.int i1), .val (.int i2), .val (.int i3), .val (.int i4), .val (.ref b1), .val (.int zf), .unset, .unset, .unset, .unset, .unset, .unset, .unset]) rfl k) ?_
  show Go _ _ _ _ _ _ _ T2 (mkF m 12 #[.val (.int i0), .val (.int i1), .val (.int i2), .val (.int i3), .val (.int i4), .val (.ref b1), .val (.int zf), .unset, .unset, .unset, .unset, .unset, .unset, .unset] [])
  refine Go.step (fun t k => XS.aload X2.here hx rfl (hb hby at_12) rfl rfl k) ?_
  show Go _ _ _ _ _ _ _ T2 (mkF m 14 #[.val (.int i0), .val (.int i1), .val (.int i2), .val (.int i3), .val (.int i4), .val (.ref b1), .val (.int zf), .unset, .unset, .unset, .unset, .unset, .unset, .unset] [(.ref b1)])
  refine Go.step (fun t k => XS.iconst X2.here hx rfl (hb hby at_14) k) ?_
  show Go _ _ _ _ _ _ _ T2 (mkF m 15 #[.val (.int i0), .val (.int i1), .val (.int i2), .val (.int i3), .val (.int i4), .val (.ref b1), .val (.int zf), .unset, .unset, .unset, .unset, .unset, .unset, .unset] [(.int (0 : Int32)), (.ref b1)])
  refine Go.step (fun t k => XS.iload X2.here hx rfl (hb hby at_15) rfl k) ?_
  show Go _ _ _ _ _ _ _ T2 (mkF m 17 #[.val (.int i0), .val (.int i1), .val (.int i2), .val (.int i3), .val (.int i4), .val (.ref b1), .val (.int zf), .unset, .unset, .unset, .unset, .unset, .unset, .unset] [(.int zf), (.int (0 : Int32)), (.ref b1)])
  obtain ⟨cl3, Ar3, hin3, -⟩ := V1.at (j := (0 : Int32)) (k := 0) (by decide) (by decide)
  obtain ⟨T3, h3, X3, e3, W3, st3⟩ := stC X2 hx hZ e2 Ar3 (j := (0 : Int32)) hin3 (g := (mkF m 17 #[.val (.int i0), .val (.int i1), .val (.int i2), .val (.int i3), .val (.int i4), .val (.ref b1), .val (.int zf), .unset, .unset, .unset, .unset, .unset, .unset, .unset] [(.int zf), (.int (0 : Int32)), (.ref b1)])) rfl rfl (hb hby at_17)
  rw [hzf] at W3
  have V3 : AV Z h3 b1 .char 12 (lst [(.int zf), (.int (0 : Int32)), (.int (0 : Int32)), (.int (0 : Int32)), (.int (0 : Int32)), (.int (0 : Int32)), (.int (0 : Int32)), (.int (0 : Int32)), (.int (0 : Int32)), (.int (0 : Int32)), (.int (0 : Int32)), (.int (0 : Int32))]) := AV.setL V1 (k := 0) (by decide) (by decide) W3 (Nat.le_of_ble_eq_true rfl) rfl
  have N3 := Fr.snoc X3 N2 gn_b1
  have Z3 : n0 ≤ h3.size := Nat.le_trans Z1 (Keep.of_wr W3).1
  refine Go.step (st3) ?_
  show Go _ _ _ _ _ _ _ T3 (mkF m 18 #[.val (.int i0), .val (.int i1), .val (.int i2), .val (.int i3), .val (.int i4), .val (.ref b1), .val (.int zf), .unset, .unset, .unset, .unset, .unset, .unset, .unset] [])
  refine Go.step (fun t k => XS.aload X3.here hx rfl (hb hby at_18) rfl rfl k) ?_
  show Go _ _ _ _ _ _ _ T3 (mkF m 20 #[.val (.int i0), .val (.int i1), .val (.int i2), .val (.int i3), .val (.int i4), .val (.ref b1), .val (.int zf), .unset, .unset, .unset, .unset, .unset, .unset, .unset] [(.ref b1)])
  refine Go.step (fun t k => XS.iconst X3.here hx rfl (hb hby at_20) k) ?_
  show Go _ _ _ _ _ _ _ T3 (mkF m 21 #[.val (.int i0), .val (.int i1), .val (.int i2), .val (.int i3), .val (.int i4), .val (.ref b1), .val (.int zf), .unset, .unset, .unset, .unset, .unset, .unset, .unset] [(.int (1 : Int32)), (.ref b1)])
  refine Go.step (fun t k => XS.iload X3.here hx rfl (hb hby at_21) rfl k) ?_
  show Go _ _ _ _ _ _ _ T3 (mkF m 23 #[.val (.int i0), .val (.int i1), .val (.int i2), .val (.int i3), .val (.int i4), .val (.ref b1), .val (.int zf), .unset, .unset, .unset, .unset, .unset, .unset, .unset] [(.int zf), (.int (1 : Int32)), (.ref b1)])
  obtain ⟨cl4, Ar4, hin4, -⟩ := V3.at (j := (1 : Int32)) (k := 1) (by decide) (by decide)
  obtain ⟨T4, h4, X4, e4, W4, st4⟩ := stC X3 hx hZ e3 Ar4 (j := (1 : Int32)) hin4 (g := (mkF m 23 #[.val (.int i0), .val (.int i1), .val (.int i2), .val (.int i3), .val (.int i4), .val (.ref b1), .val (.int zf), .unset, .unset, .unset, .unset, .unset, .unset, .unset] [(.int zf), (.int (1 : Int32)), (.ref b1)])) rfl rfl (hb hby at_23)
  rw [hzf] at W4
  have V4 : AV Z h4 b1 .char 12 (lst [(.int zf), (.int zf), (.int (0 : Int32)), (.int (0 : Int32)), (.int (0 : Int32)), (.int (0 : Int32)), (.int (0 : Int32)), (.int (0 : Int32)), (.int (0 : Int32)), (.int (0 : Int32)), (.int (0 : Int32)), (.int (0 : Int32))]) := AV.setL V3 (k := 1) (by decide) (by decide) W4 (Nat.le_of_ble_eq_true rfl) rfl
  have N4 := Fr.snoc X4 N3 gn_b1
  have Z4 : n0 ≤ h4.size := Nat.le_trans Z3 (Keep.of_wr W4).1
  refine Go.step (st4) ?_
  show Go _ _ _ _ _ _ _ T4 (mkF m 24 #[.val (.int i0), .val (.int i1), .val (.int i2), .val (.int i3), .val (.int i4), .val (.ref b1), .val (.int zf), .unset, .unset, .unset, .unset, .unset, .unset, .unset] [])
  refine Go.step (fun t k => XS.aload X4.here hx rfl (hb hby at_24) rfl rfl k) ?_
  show Go _ _ _ _ _ _ _ T4 (mkF m 26 #[.val (.int i0), .val (.int i1), .val (.int i2), .val (.int i3), .val (.int i4), .val (.ref b1), .val (.int zf), .unset, .unset, .unset, .unset, .unset, .unset, .unset] [(.ref b1)])
  refine Go.step (fun t k => XS.iconst X4.here hx rfl (hb hby at_26) k) ?_
  show Go _ _ _ _ _ _ _ T4 (mkF m 27 #[.val (.int i0), .val (.int i1), .val (.int i2), .val (.int i3), .val (.int i4), .val (.ref b1), .val (.int zf), .unset, .unset, .unset, .unset, .unset, .unset, .unset] [(.int (2 : Int32)), (.ref b1)])
  refine Go.step (fun t k => XS.iload X4.here hx rfl (hb hby at_27) rfl k) ?_
  show Go _ _ _ _ _ _ _ T4 (mkF m 29 #[.val (.int i0), .val (.int i1), .val (.int i2), .val (.int i3), .val (.int i4), .val (.ref b1), .val (.int zf), .unset, .unset, .unset, .unset, .unset, .unset, .unset] [(.int zf), (.int (2 : Int32)), (.ref b1)])
  obtain ⟨cl5, Ar5, hin5, -⟩ := V4.at (j := (2 : Int32)) (k := 2) (by decide) (by decide)
  obtain ⟨T5, h5, X5, e5, W5, st5⟩ := stC X4 hx hZ e4 Ar5 (j := (2 : Int32)) hin5 (g := (mkF m 29 #[.val (.int i0), .val (.int i1), .val (.int i2), .val (.int i3), .val (.int i4), .val (.ref b1), .val (.int zf), .unset, .unset, .unset, .unset, .unset, .unset, .unset] [(.int zf), (.int (2 : Int32)), (.ref b1)])) rfl rfl (hb hby at_29)
  rw [hzf] at W5
  have V5 : AV Z h5 b1 .char 12 (lst [(.int zf), (.int zf), (.int zf), (.int (0 : Int32)), (.int (0 : Int32)), (.int (0 : Int32)), (.int (0 : Int32)), (.int (0 : Int32)), (.int (0 : Int32)), (.int (0 : Int32)), (.int (0 : Int32)), (.int (0 : Int32))]) := AV.setL V4 (k := 2) (by decide) (by decide) W5 (Nat.le_of_ble_eq_true rfl) rfl
  have N5 := Fr.snoc X5 N4 gn_b1
  have Z5 : n0 ≤ h5.size := Nat.le_trans Z4 (Keep.of_wr W5).1
  refine Go.step (st5) ?_
  show Go _ _ _ _ _ _ _ T5 (mkF m 30 #[.val (.int i0), .val (.int i1), .val (.int i2), .val (.int i3), .val (.int i4), .val (.ref b1), .val (.int zf), .unset, .unset, .unset, .unset, .unset, .unset, .unset] [])
  refine Go.step (fun t k => XS.aload X5.here hx rfl (hb hby at_30) rfl rfl k) ?_
  show Go _ _ _ _ _ _ _ T5 (mkF m 32 #[.val (.int i0), .val (.int i1), .val (.int i2), .val (.int i3), .val (.int i4), .val (.ref b1), .val (.int zf), .unset, .unset, .unset, .unset, .unset, .unset, .unset] [(.ref b1)])
  refine Go.step (fun t k => XS.iconst X5.here hx rfl (hb hby at_32) k) ?_
  show Go _ _ _ _ _ _ _ T5 (mkF m 33 #[.val (.int i0), .val (.int i1), .val (.int i2), .val (.int i3), .val (.int i4), .val (.ref b1), .val (.int zf), .unset, .unset, .unset, .unset, .unset, .unset, .unset] [(.int (3 : Int32)), (.ref b1)])
  refine Go.step (fun t k => XS.iload X5.here hx rfl (hb hby at_33) rfl k) ?_
  show Go _ _ _ _ _ _ _ T5 (mkF m 35 #[.val (.int i0), .val (.int i1), .val (.int i2), .val (.int i3), .val (.int i4), .val (.ref b1), .val (.int zf), .unset, .unset, .unset, .unset, .unset, .unset, .unset] [(.int zf), (.int (3 : Int32)), (.ref b1)])
  obtain ⟨cl6, Ar6, hin6, -⟩ := V5.at (j := (3 : Int32)) (k := 3) (by decide) (by decide)
  obtain ⟨T6, h6, X6, e6, W6, st6⟩ := stC X5 hx hZ e5 Ar6 (j := (3 : Int32)) hin6 (g := (mkF m 35 #[.val (.int i0), .val (.int i1), .val (.int i2), .val (.int i3), .val (.int i4), .val (.ref b1), .val (.int zf), .unset, .unset, .unset, .unset, .unset, .unset, .unset] [(.int zf), (.int (3 : Int32)), (.ref b1)])) rfl rfl (hb hby at_35)
  rw [hzf] at W6
  have V6 : AV Z h6 b1 .char 12 (lst [(.int zf), (.int zf), (.int zf), (.int zf), (.int (0 : Int32)), (.int (0 : Int32)), (.int (0 : Int32)), (.int (0 : Int32)), (.int (0 : Int32)), (.int (0 : Int32)), (.int (0 : Int32)), (.int (0 : Int32))]) := AV.setL V5 (k := 3) (by decide) (by decide) W6 (Nat.le_of_ble_eq_true rfl) rfl
  have N6 := Fr.snoc X6 N5 gn_b1
  have Z6 : n0 ≤ h6.size := Nat.le_trans Z5 (Keep.of_wr W6).1
  refine Go.step (st6) ?_
  show Go _ _ _ _ _ _ _ T6 (mkF m 36 #[.val (.int i0), .val (.int i1), .val (.int i2), .val (.int i3), .val (.int i4), .val (.ref b1), .val (.int zf), .unset, .unset, .unset, .unset, .unset, .unset, .unset] [])
  refine Go.step (fun t k => XS.aload X6.here hx rfl (hb hby at_36) rfl rfl k) ?_
  show Go _ _ _ _ _ _ _ T6 (mkF m 38 #[.val (.int i0), .val (.int i1), .val (.int i2), .val (.int i3), .val (.int i4), .val (.ref b1), .val (.int zf), .unset, .unset, .unset, .unset, .unset, .unset, .unset] [(.ref b1)])
  refine Go.step (fun t k => XS.iconst X6.here hx rfl (hb hby at_38) k) ?_
  show Go _ _ _ _ _ _ _ T6 (mkF m 39 #[.val (.int i0), .val (.int i1), .val (.int i2), .val (.int i3), .val (.int i4), .val (.ref b1), .val (.int zf), .unset, .unset, .unset, .unset, .unset, .unset, .unset] [(.int (4 : Int32)), (.ref b1)])
  refine Go.step (fun t k => XS.iload X6.here hx rfl (hb hby at_39) rfl k) ?_
  show Go _ _ _ _ _ _ _ T6 (mkF m 41 #[.val (.int i0), .val (.int i1), .val (.int i2), .val (.int i3), .val (.int i4), .val (.ref b1), .val (.int zf), .unset, .unset, .unset, .unset, .unset, .unset, .unset] [(.int zf), (.int (4 : Int32)), (.ref b1)])
  obtain ⟨cl7, Ar7, hin7, -⟩ := V6.at (j := (4 : Int32)) (k := 4) (by decide) (by decide)
  obtain ⟨T7, h7, X7, e7, W7, st7⟩ := stC X6 hx hZ e6 Ar7 (j := (4 : Int32)) hin7 (g := (mkF m 41 #[.val (.int i0), .val (.int i1), .val (.int i2), .val (.int i3), .val (.int i4), .val (.ref b1), .val (.int zf), .unset, .unset, .unset, .unset, .unset, .unset, .unset] [(.int zf), (.int (4 : Int32)), (.ref b1)])) rfl rfl (hb hby at_41)
  rw [hzf] at W7
  have V7 : AV Z h7 b1 .char 12 (lst [(.int zf), (.int zf), (.int zf), (.int zf), (.int zf), (.int (0 : Int32)), (.int (0 : Int32)), (.int (0 : Int32)), (.int (0 : Int32)), (.int (0 : Int32)), (.int (0 : Int32)), (.int (0 : Int32))]) := AV.setL V6 (k := 4) (by decide) (by decide) W7 (Nat.le_of_ble_eq_true rfl) rfl
  have N7 := Fr.snoc X7 N6 gn_b1
  have Z7 : n0 ≤ h7.size := Nat.le_trans Z6 (Keep.of_wr W7).1
  refine Go.step (st7) ?_
  show Go _ _ _ _ _ _ _ T7 (mkF m 42 #[.val (.int i0), .val (.int i1), .val (.int i2), .val (.int i3), .val (.int i4), .val (.ref b1), .val (.int zf), .unset, .unset, .unset, .unset, .unset, .unset, .unset] [])
  refine Go.step (fun t k => XS.aload X7.here hx rfl (hb hby at_42) rfl rfl k) ?_
  show Go _ _ _ _ _ _ _ T7 (mkF m 44 #[.val (.int i0), .val (.int i1), .val (.int i2), .val (.int i3), .val (.int i4), .val (.ref b1), .val (.int zf), .unset, .unset, .unset, .unset, .unset, .unset, .unset] [(.ref b1)])
  refine Go.step (fun t k => XS.iconst X7.here hx rfl (hb hby at_44) k) ?_
  show Go _ _ _ _ _ _ _ T7 (mkF m 45 #[.val (.int i0), .val (.int i1), .val (.int i2), .val (.int i3), .val (.int i4), .val (.ref b1), .val (.int zf), .unset, .unset, .unset, .unset, .unset, .unset, .unset] [(.int (5 : Int32)), (.ref b1)])
  refine Go.step (fun t k => XS.iload X7.here hx rfl (hb hby at_45) rfl k) ?_
  show Go _ _ _ _ _ _ _ T7 (mkF m 47 #[.val (.int i0), .val (.int i1), .val (.int i2), .val (.int i3), .val (.int i4), .val (.ref b1), .val (.int zf), .unset, .unset, .unset, .unset, .unset, .unset, .unset] [(.int zf), (.int (5 : Int32)), (.ref b1)])
  obtain ⟨cl8, Ar8, hin8, -⟩ := V7.at (j := (5 : Int32)) (k := 5) (by decide) (by decide)
  obtain ⟨T8, h8, X8, e8, W8, st8⟩ := stC X7 hx hZ e7 Ar8 (j := (5 : Int32)) hin8 (g := (mkF m 47 #[.val (.int i0), .val (.int i1), .val (.int i2), .val (.int i3), .val (.int i4), .val (.ref b1), .val (.int zf), .unset, .unset, .unset, .unset, .unset, .unset, .unset] [(.int zf), (.int (5 : Int32)), (.ref b1)])) rfl rfl (hb hby at_47)
  rw [hzf] at W8
  have V8 : AV Z h8 b1 .char 12 (lst [(.int zf), (.int zf), (.int zf), (.int zf), (.int zf), (.int zf), (.int (0 : Int32)), (.int (0 : Int32)), (.int (0 : Int32)), (.int (0 : Int32)), (.int (0 : Int32)), (.int (0 : Int32))]) := AV.setL V7 (k := 5) (by decide) (by decide) W8 (Nat.le_of_ble_eq_true rfl) rfl
  have N8 := Fr.snoc X8 N7 gn_b1
  have Z8 : n0 ≤ h8.size := Nat.le_trans Z7 (Keep.of_wr W8).1
  refine Go.step (st8) ?_
  show Go _ _ _ _ _ _ _ T8 (mkF m 48 #[.val (.int i0), .val (.int i1), .val (.int i2), .val (.int i3), .val (.int i4), .val (.ref b1), .val (.int zf), .unset, .unset, .unset, .unset, .unset, .unset, .unset] [])
  refine Go.step (fun t k => XS.aload X8.here hx rfl (hb hby at_48) rfl rfl k) ?_
  show Go _ _ _ _ _ _ _ T8 (mkF m 50 #[.val (.int i0), .val (.int i1), .val (.int i2), .val (.int i3), .val (.int i4), .val (.ref b1), .val (.int zf), .unset, .unset, .unset, .unset, .unset, .unset, .unset] [(.ref b1)])
  refine Go.step (fun t k => XS.bipush X8.here hx rfl (hb hby at_50) k) ?_
  show Go _ _ _ _ _ _ _ T8 (mkF m 52 #[.val (.int i0), .val (.int i1), .val (.int i2), .val (.int i3), .val (.int i4), .val (.ref b1), .val (.int zf), .unset, .unset, .unset, .unset, .unset, .unset, .unset] [(.int (6 : Int32)), (.ref b1)])
  refine Go.step (fun t k => XS.iload X8.here hx rfl (hb hby at_52) rfl k) ?_
  show Go _ _ _ _ _ _ _ T8 (mkF m 54 #[.val (.int i0), .val (.int i1), .val (.int i2), .val (.int i3), .val (.int i4), .val (.ref b1), .val (.int zf), .unset, .unset, .unset, .unset, .unset, .unset, .unset] [(.int zf), (.int (6 : Int32)), (.ref b1)])
  obtain ⟨cl9, Ar9, hin9, -⟩ := V8.at (j := (6 : Int32)) (k := 6) (by decide) (by decide)
  obtain ⟨T9, h9, X9, e9, W9, st9⟩ := stC X8 hx hZ e8 Ar9 (j := (6 : Int32)) hin9 (g := (mkF m 54 #[.val (.int i0), .val (.int i1), .val (.int i2), .val (.int i3), .val (.int i4), .val (.ref b1), .val (.int zf), .unset, .unset, .unset, .unset, .unset, .unset, .unset] [(.int zf), (.int (6 : Int32)), (.ref b1)])) rfl rfl (hb hby at_54)
  rw [hzf] at W9
  have V9 : AV Z h9 b1 .char 12 (lst [(.int zf), (.int zf), (.int zf), (.int zf), (.int zf), (.int zf), (.int zf), (.int (0 : Int32)), (.int (0 : Int32)), (.int (0 : Int32)), (.int (0 : Int32)), (.int (0 : Int32))]) := AV.setL V8 (k := 6) (by decide) (by decide) W9 (Nat.le_of_ble_eq_true rfl) rfl
  have N9 := Fr.snoc X9 N8 gn_b1
  have Z9 : n0 ≤ h9.size := Nat.le_trans Z8 (Keep.of_wr W9).1
  refine Go.step (st9) ?_
  show Go _ _ _ _ _ _ _ T9 (mkF m 55 #[.val (.int i0), .val (.int i1), .val (.int i2), .val (.int i3), .val (.int i4), .val (.ref b1), .val (.int zf), .unset, .unset, .unset, .unset, .unset, .unset, .unset] [])
  refine Go.step (fun t k => XS.aload X9.here hx rfl (hb hby at_55) rfl rfl k) ?_
  show Go _ _ _ _ _ _ _ T9 (mkF m 57 #[.val (.int i0), .val (.int i1), .val (.int i2), .val (.int i3), .val (.int i4), .val (.ref b1), .val (.int zf), .unset, .unset, .unset, .unset, .unset, .unset, .unset] [(.ref b1)])
  refine Go.step (fun t k => XS.bipush X9.here hx rfl (hb hby at_57) k) ?_
  show Go _ _ _ _ _ _ _ T9 (mkF m 59 #[.val (.int i0), .val (.int i1), .val (.int i2), .val (.int i3), .val (.int i4), .val (.ref b1), .val (.int zf), .unset, .unset, .unset, .unset, .unset, .unset, .unset] [(.int (7 : Int32)), (.ref b1)])
  refine Go.step (fun t k => XS.iload X9.here hx rfl (hb hby at_59) rfl k) ?_
  show Go _ _ _ _ _ _ _ T9 (mkF m 61 #[.val (.int i0), .val (.int i1), .val (.int i2), .val (.int i3), .val (.int i4), .val (.ref b1), .val (.int zf), .unset, .unset, .unset, .unset, .unset, .unset, .unset] [(.int zf), (.int (7 : Int32)), (.ref b1)])
  obtain ⟨cl10, Ar10, hin10, -⟩ := V9.at (j := (7 : Int32)) (k := 7) (by decide) (by decide)
  obtain ⟨T10, h10, X10, e10, W10, st10⟩ := stC X9 hx hZ e9 Ar10 (j := (7 : Int32)) hin10 (g := (mkF m 61 #[.val (.int i0), .val (.int i1), .val (.int i2), .val (.int i3), .val (.int i4), .val (.ref b1), .val (.int zf), .unset, .unset, .unset, .unset, .unset, .unset, .unset] [(.int zf), (.int (7 : Int32)), (.ref b1)])) rfl rfl (hb hby at_61)
  rw [hzf] at W10
  have V10 : AV Z h10 b1 .char 12 (lst [(.int zf), (.int zf), (.int zf), (.int zf), (.int zf), (.int zf), (.int zf), (.int zf), (.int (0 : Int32)), (.int (0 : Int32)), (.int (0 : Int32)), (.int (0 : Int32))]) := AV.setL V9 (k := 7) (by decide) (by decide) W10 (Nat.le_of_ble_eq_true rfl) rfl
  have N10 := Fr.snoc X10 N9 gn_b1
  have Z10 : n0 ≤ h10.size := Nat.le_trans Z9 (Keep.of_wr W10).1
  refine Go.step (st10) ?_
  show Go _ _ _ _ _ _ _ T10 (mkF m 62 #[.val (.int i0), .val (.int i1), .val (.int i2), .val (.int i3), .val (.int i4), .val (.ref b1), .val (.int zf), .unset, .unset, .unset, .unset, .unset, .unset, .unset] [])
  refine Go.step (fun t k => XS.aload X10.here hx rfl (hb hby at_62) rfl rfl k) ?_
  show Go _ _ _ _ _ _ _ T10 (mkF m 64 #[.val (.int i0), .val (.int i1), .val (.int i2), .val (.int i3), .val (.int i4), .val (.ref b1), .val (.int zf), .unset, .unset, .unset, .unset, .unset, .unset, .unset] [(.ref b1)])
  refine Go.step (fun t k => XS.bipush X10.here hx rfl (hb hby at_64) k) ?_
  show Go _ _ _ _ _ _ _ T10 (mkF m 66 #[.val (.int i0), .val (.int i1), .val (.int i2), .val (.int i3), .val (.int i4), .val (.ref b1), .val (.int zf), .unset, .unset, .unset, .unset, .unset, .unset, .unset] [(.int (8 : Int32)), (.ref b1)])
  refine Go.step (fun t k => XS.iload X10.here hx rfl (hb hby at_66) rfl k) ?_
  show Go _ _ _ _ _ _ _ T10 (mkF m 68 #[.val (.int i0), .val (.int i1), .val (.int i2), .val (.int i3), .val (.int i4), .val (.ref b1), .val (.int zf), .unset, .unset, .unset, .unset, .unset, .unset, .unset] [(.int zf), (.int (8 : Int32)), (.ref b1)])
  obtain ⟨cl11, Ar11, hin11, -⟩ := V10.at (j := (8 : Int32)) (k := 8) (by decide) (by decide)
  obtain ⟨T11, h11, X11, e11, W11, st11⟩ := stC X10 hx hZ e10 Ar11 (j := (8 : Int32)) hin11 (g := (mkF m 68 #[.val (.int i0), .val (.int i1), .val (.int i2), .val (.int i3), .val (.int i4), .val (.ref b1), .val (.int zf), .unset, .unset, .unset, .unset, .unset, .unset, .unset] [(.int zf), (.int (8 : Int32)), (.ref b1)])) rfl rfl (hb hby at_68)
  rw [hzf] at W11
  have V11 : AV Z h11 b1 .char 12 (lst [(.int zf), (.int zf), (.int zf), (.int zf), (.int zf), (.int zf), (.int zf), (.int zf), (.int zf), (.int (0 : Int32)), (.int (0 : Int32)), (.int (0 : Int32))]) := AV.setL V10 (k := 8) (by decide) (by decide) W11 (Nat.le_of_ble_eq_true rfl) rfl
  have N11 := Fr.snoc X11 N10 gn_b1
  have Z11 : n0 ≤ h11.size := Nat.le_trans Z10 (Keep.of_wr W11).1
  refine Go.step (st11) ?_
  show Go _ _ _ _ _ _ _ T11 (mkF m 69 #[.val (.int i0), .val (.int i1), .val (.int i2), .val (.int i3), .val (.int i4), .val (.ref b1), .val (.int zf), .unset, .unset, .unset, .unset, .unset, .unset, .unset] [])
  refine Go.step (fun t k => XS.aload X11.here hx rfl (hb hby at_69) rfl rfl k) ?_
  show Go _ _ _ _ _ _ _ T11 (mkF m 71 #[.val (.int i0), .val (.int i1), .val (.int i2), .val (.int i3), .val (.int i4), .val (.ref b1), .val (.int zf), .unset, .unset, .unset, .unset, .unset, .unset, .unset] [(.ref b1)])
  refine Go.step (fun t k => XS.bipush X11.here hx rfl (hb hby at_71) k) ?_
  show Go _ _ _ _ _ _ _ T11 (mkF m 73 #[.val (.int i0), .val (.int i1), .val (.int i2), .val (.int i3), .val (.int i4), .val (.ref b1), .val (.int zf), .unset, .unset, .unset, .unset, .unset, .unset, .unset] [(.int (9 : Int32)), (.ref b1)])
  refine Go.step (fun t k => XS.iload X11.here hx rfl (hb hby at_73) rfl k) ?_
  show Go _ _ _ _ _ _ _ T11 (mkF m 75 #[.val (.int i0), .val (.int i1), .val (.int i2), .val (.int i3), .val (.int i4), .val (.ref b1), .val (.int zf), .unset, .unset, .unset, .unset, .unset, .unset, .unset] [(.int zf), (.int (9 : Int32)), (.ref b1)])
  obtain ⟨cl12, Ar12, hin12, -⟩ := V11.at (j := (9 : Int32)) (k := 9) (by decide) (by decide)
  obtain ⟨T12, h12, X12, e12, W12, st12⟩ := stC X11 hx hZ e11 Ar12 (j := (9 : Int32)) hin12 (g := (mkF m 75 #[.val (.int i0), .val (.int i1), .val (.int i2), .val (.int i3), .val (.int i4), .val (.ref b1), .val (.int zf), .unset, .unset, .unset, .unset, .unset, .unset, .unset] [(.int zf), (.int (9 : Int32)), (.ref b1)])) rfl rfl (hb hby at_75)
  rw [hzf] at W12
  have V12 : AV Z h12 b1 .char 12 (lst [(.int zf), (.int zf), (.int zf), (.int zf), (.int zf), (.int zf), (.int zf), (.int zf), (.int zf), (.int zf), (.int (0 : Int32)), (.int (0 : Int32))]) := AV.setL V11 (k := 9) (by decide) (by decide) W12 (Nat.le_of_ble_eq_true rfl) rfl
  have N12 := Fr.snoc X12 N11 gn_b1
  have Z12 : n0 ≤ h12.size := Nat.le_trans Z11 (Keep.of_wr W12).1
  refine Go.step (st12) ?_
  show Go _ _ _ _ _ _ _ T12 (mkF m 76 #[.val (.int i0), .val (.int i1), .val (.int i2), .val (.int i3), .val (.int i4), .val (.ref b1), .val (.int zf), .unset, .unset, .unset, .unset, .unset, .unset, .unset] [])
  refine Go.step (fun t k => XS.aload X12.here hx rfl (hb hby at_76) rfl rfl k) ?_
  show Go _ _ _ _ _ _ _ T12 (mkF m 78 #[.val (.int i0), .val (.int i1), .val (.int i2), .val (.int i3), .val (.int i4), .val (.ref b1), .val (.int zf), .unset, .unset, .unset, .unset, .unset, .unset, .unset] [(.ref b1)])
  refine Go.step (fun t k => XS.bipush X12.here hx rfl (hb hby at_78) k) ?_
  show Go _ _ _ _ _ _ _ T12 (mkF m 80 #[.val (.int i0), .val (.int i1), .val (.int i2), .val (.int i3), .val (.int i4), .val (.ref b1), .val (.int zf), .unset, .unset, .unset, .unset, .unset, .unset, .unset] [(.int (10 : Int32)), (.ref b1)])
  refine Go.step (fun t k => XS.iload X12.here hx rfl (hb hby at_80) rfl k) ?_
  show Go _ _ _ _ _ _ _ T12 (mkF m 82 #[.val (.int i0), .val (.int i1), .val (.int i2), .val (.int i3), .val (.int i4), .val (.ref b1), .val (.int zf), .unset, .unset, .unset, .unset, .unset, .unset, .unset] [(.int zf), (.int (10 : Int32)), (.ref b1)])
  obtain ⟨cl13, Ar13, hin13, -⟩ := V12.at (j := (10 : Int32)) (k := 10) (by decide) (by decide)
  obtain ⟨T13, h13, X13, e13, W13, st13⟩ := stC X12 hx hZ e12 Ar13 (j := (10 : Int32)) hin13 (g := (mkF m 82 #[.val (.int i0), .val (.int i1), .val (.int i2), .val (.int i3), .val (.int i4), .val (.ref b1), .val (.int zf), .unset, .unset, .unset, .unset, .unset, .unset, .unset] [(.int zf), (.int (10 : Int32)), (.ref b1)])) rfl rfl (hb hby at_82)
  rw [hzf] at W13
  have V13 : AV Z h13 b1 .char 12 (lst [(.int zf), (.int zf), (.int zf), (.int zf), (.int zf), (.int zf), (.int zf), (.int zf), (.int zf), (.int zf), (.int zf), (.int (0 : Int32))]) := AV.setL V12 (k := 10) (by decide) (by decide) W13 (Nat.le_of_ble_eq_true rfl) rfl
  have N13 := Fr.snoc X13 N12 gn_b1
  have Z13 : n0 ≤ h13.size := Nat.le_trans Z12 (Keep.of_wr W13).1
  refine Go.step (st13) ?_
  show Go _ _ _ _ _ _ _ T13 (mkF m 83 #[.val (.int i0), .val (.int i1), .val (.int i2), .val (.int i3), .val (.int i4), .val (.ref b1), .val (.int zf), .unset, .unset, .unset, .unset, .unset, .unset, .unset] [])
  refine Go.step (fun t k => XS.aload X13.here hx rfl (hb hby at_83) rfl rfl k) ?_
  show Go _ _ _ _ _ _ _ T13 (mkF m 85 #[.val (.int i0), .val (.int i1), .val (.int i2), .val (.int i3), .val (.int i4), .val (.ref b1), .val (.int zf), .unset, .unset, .unset, .unset, .unset, .unset, .unset] [(.ref b1)])
  refine Go.step (fun t k => XS.bipush X13.here hx rfl (hb hby at_85) k) ?_
  show Go _ _ _ _ _ _ _ T13 (mkF m 87 #[.val (.int i0), .val (.int i1), .val (.int i2), .val (.int i3), .val (.int i4), .val (.ref b1), .val (.int zf), .unset, .unset, .unset, .unset, .unset, .unset, .unset] [(.int (11 : Int32)), (.ref b1)])
  refine Go.step (fun t k => XS.iload X13.here hx rfl (hb hby at_87) rfl k) ?_
  show Go _ _ _ _ _ _ _ T13 (mkF m 89 #[.val (.int i0), .val (.int i1), .val (.int i2), .val (.int i3), .val (.int i4), .val (.ref b1), .val (.int zf), .unset, .unset, .unset, .unset, .unset, .unset, .unset] [(.int zf), (.int (11 : Int32)), (.ref b1)])
  obtain ⟨cl14, Ar14, hin14, -⟩ := V13.at (j := (11 : Int32)) (k := 11) (by decide) (by decide)
  obtain ⟨T14, h14, X14, e14, W14, st14⟩ := stC X13 hx hZ e13 Ar14 (j := (11 : Int32)) hin14 (g := (mkF m 89 #[.val (.int i0), .val (.int i1), .val (.int i2), .val (.int i3), .val (.int i4), .val (.ref b1), .val (.int zf), .unset, .unset, .unset, .unset, .unset, .unset, .unset] [(.int zf), (.int (11 : Int32)), (.ref b1)])) rfl rfl (hb hby at_89)
  rw [hzf] at W14
  have V14 : AV Z h14 b1 .char 12 (lst [(.int zf), (.int zf), (.int zf), (.int zf), (.int zf), (.int zf), (.int zf), (.int zf), (.int zf), (.int zf), (.int zf), (.int zf)]) := AV.setL V13 (k := 11) (by decide) (by decide) W14 (Nat.le_of_ble_eq_true rfl) rfl
  have N14 := Fr.snoc X14 N13 gn_b1
  have Z14 : n0 ≤ h14.size := Nat.le_trans Z13 (Keep.of_wr W14).1
  refine Go.step (st14) ?_
  show Go _ _ _ _ _ _ _ T14 (mkF m 90 #[.val (.int i0), .val (.int i1), .val (.int i2), .val (.int i3), .val (.int i4), .val (.ref b1), .val (.int zf), .unset, .unset, .unset, .unset, .unset, .unset, .unset] [])
  have V15 : AV Z h14 b1 .char 12 (fun _ => .int zf) := V14.congr fun i hi => by
    rcases (by omega : i = 0 ∨ i = 1 ∨ i = 2 ∨ i = 3 ∨ i = 4 ∨ i = 5 ∨ i = 6 ∨ i = 7 ∨ i = 8 ∨ i = 9 ∨ i = 10 ∨ i = 11) with rfl | rfl | rfl | rfl | rfl | rfl | rfl | rfl | rfl | rfl | rfl | rfl <;> rfl
  refine Go.step (fun t k => XS.iloadN X14.here hx rfl (hb hby at_90) rfl k) ?_
  show Go _ _ _ _ _ _ _ T14 (mkF m 91 #[.val (.int i0), .val (.int i1), .val (.int i2), .val (.int i3), .val (.int i4), .val (.ref b1), .val (.int zf), .unset, .unset, .unset, .unset, .unset, .unset, .unset] [(.int i0)])
  refine Go.step (fun t k => XS.iconst X14.here hx rfl (hb hby at_91) k) ?_
  show Go _ _ _ _ _ _ _ T14 (mkF m 92 #[.val (.int i0), .val (.int i1), .val (.int i2), .val (.int i3), .val (.int i4), .val (.ref b1), .val (.int zf), .unset, .unset, .unset, .unset, .unset, .unset, .unset] [(.int (3 : Int32)), (.int i0)])
  refine Go.step (fun t k => XS.iand X14.here hx rfl (hb hby at_92) rfl k) ?_
  show Go _ _ _ _ _ _ _ T14 (mkF m 93 #[.val (.int i0), .val (.int i1), .val (.int i2), .val (.int i3), .val (.int i4), .val (.ref b1), .val (.int zf), .unset, .unset, .unset, .unset, .unset, .unset, .unset] [(.int (i0 &&& (3 : Int32)))])
  refine Go.step (fun t k => XS.istore X14.here hx rfl (hb hby at_93) rfl (l' := #[.val (.int i0), .val (.int i1), .val (.int i2), .val (.int i3), .val (.int i4), .val (.ref b1), .val (.int zf), .val (.int (i0 &&& (3 : Int32))), .unset, .unset, .unset, .unset, .unset, .unset]) rfl k) ?_
  show Go _ _ _ _ _ _ _ T14 (mkF m 95 #[.val (.int i0), .val (.int i1), .val (.int i2), .val (.int i3), .val (.int i4), .val (.ref b1), .val (.int zf), .val (.int (i0 &&& (3 : Int32))), .unset, .unset, .unset, .unset, .unset, .unset] [])
  obtain ⟨off, ho, eo⟩ := own_off i0
  rw [eo]
  show Go _ _ _ _ _ _ _ T14 (mkF m 95 #[.val (.int i0), .val (.int i1), .val (.int i2), .val (.int i3), .val (.int i4), .val (.ref b1), .val (.int zf), .val (.int (Int32.ofNat off)), .unset, .unset, .unset, .unset, .unset, .unset] [])
  refine Go.step (fun t k => XS.iloadN X14.here hx rfl (hb hby at_95) rfl k) ?_
  show Go _ _ _ _ _ _ _ T14 (mkF m 96 #[.val (.int i0), .val (.int i1), .val (.int i2), .val (.int i3), .val (.int i4), .val (.ref b1), .val (.int zf), .val (.int (Int32.ofNat off)), .unset, .unset, .unset, .unset, .unset, .unset] [(.int i0)])
  refine Go.step (fun t k => XS.iconst X14.here hx rfl (hb hby at_96) k) ?_
  show Go _ _ _ _ _ _ _ T14 (mkF m 97 #[.val (.int i0), .val (.int i1), .val (.int i2), .val (.int i3), .val (.int i4), .val (.ref b1), .val (.int zf), .val (.int (Int32.ofNat off)), .unset, .unset, .unset, .unset, .unset, .unset] [(.int (4 : Int32)), (.int i0)])
  refine Go.step (fun t k => XS.iand X14.here hx rfl (hb hby at_97) rfl k) ?_
  show Go _ _ _ _ _ _ _ T14 (mkF m 98 #[.val (.int i0), .val (.int i1), .val (.int i2), .val (.int i3), .val (.int i4), .val (.ref b1), .val (.int zf), .val (.int (Int32.ofNat off)), .unset, .unset, .unset, .unset, .unset, .unset] [(.int (i0 &&& (4 : Int32)))])
  have j98 : Go p e s below 16 128 (fun v h L => v = some (.int (1 : Int32)) ∧ Fr n0 L) T14 (mkF m 127 #[.val (.int i0), .val (.int i1), .val (.int i2), .val (.int i3), .val (.int i4), .val (.ref b1), .val (.int zf), .val (.int (Int32.ofNat off)), .unset, .unset, .unset, .unset, .unset, .unset] []) := by
    refine Go.step (fun t k => XS.iload X14.here hx rfl (hb hby at_127) rfl k) ?_
    show Go _ _ _ _ _ _ _ T14 (mkF m 129 #[.val (.int i0), .val (.int i1), .val (.int i2), .val (.int i3), .val (.int i4), .val (.ref b1), .val (.int zf), .val (.int (Int32.ofNat off)), .unset, .unset, .unset, .unset, .unset, .unset] [(.int i4)])
    refine Go.step (X14.ldcInt hx hown (mvT hZ (hw _ (List.mem_of_getElem? (i := 7) rfl))) (g := (mkF m 129 #[.val (.int i0), .val (.int i1), .val (.int i2), .val (.int i3), .val (.int i4), .val (.ref b1), .val (.int zf), .val (.int (Int32.ofNat off)), .unset, .unset, .unset, .unset, .unset, .unset] [(.int i4)])) rfl (hb hby at_129)) ?_
    show Go _ _ _ _ _ _ _ T14 (mkF m 131 #[.val (.int i0), .val (.int i1), .val (.int i2), .val (.int i3), .val (.int i4), .val (.ref b1), .val (.int zf), .val (.int (Int32.ofNat off)), .unset, .unset, .unset, .unset, .unset, .unset] [(.int (2147483647 : Int32)), (.int i4)])
    refine Go.step (fun t k => XS.iand X14.here hx rfl (hb hby at_131) rfl k) ?_
    show Go _ _ _ _ _ _ _ T14 (mkF m 132 #[.val (.int i0), .val (.int i1), .val (.int i2), .val (.int i3), .val (.int i4), .val (.ref b1), .val (.int zf), .val (.int (Int32.ofNat off)), .unset, .unset, .unset, .unset, .unset, .unset] [(.int (i4 &&& (2147483647 : Int32)))])
    refine Go.step (fun t k => XS.bipush X14.here hx rfl (hb hby at_132) k) ?_
    show Go _ _ _ _ _ _ _ T14 (mkF m 134 #[.val (.int i0), .val (.int i1), .val (.int i2), .val (.int i3), .val (.int i4), .val (.ref b1), .val (.int zf), .val (.int (Int32.ofNat off)), .unset, .unset, .unset, .unset, .unset, .unset] [(.int (9 : Int32)), (.int (i4 &&& (2147483647 : Int32)))])
    refine Go.step (fun t k => iremM X14 hx rfl (hb hby at_134) rfl (by decide) k) ?_
    show Go _ _ _ _ _ _ _ T14 (mkF m 135 #[.val (.int i0), .val (.int i1), .val (.int i2), .val (.int i3), .val (.int i4), .val (.ref b1), .val (.int zf), .val (.int (Int32.ofNat off)), .unset, .unset, .unset, .unset, .unset, .unset] [(.int ((i4 &&& (2147483647 : Int32)) % (9 : Int32)))])
    refine Go.step (fun t k => XS.istore X14.here hx rfl (hb hby at_135) rfl (l' := #[.val (.int i0), .val (.int i1), .val (.int i2), .val (.int i3), .val (.int i4), .val (.ref b1), .val (.int zf), .val (.int (Int32.ofNat off)), .val (.int ((i4 &&& (2147483647 : Int32)) % (9 : Int32))), .unset, .unset, .unset, .unset, .unset]) rfl k) ?_
    show Go _ _ _ _ _ _ _ T14 (mkF m 137 #[.val (.int i0), .val (.int i1), .val (.int i2), .val (.int i3), .val (.int i4), .val (.ref b1), .val (.int zf), .val (.int (Int32.ofNat off)), .val (.int ((i4 &&& (2147483647 : Int32)) % (9 : Int32))), .unset, .unset, .unset, .unset, .unset] [])
    obtain ⟨len, hl8, el⟩ := own_len i4
    rw [el]
    show Go _ _ _ _ _ _ _ T14 (mkF m 137 #[.val (.int i0), .val (.int i1), .val (.int i2), .val (.int i3), .val (.int i4), .val (.ref b1), .val (.int zf), .val (.int (Int32.ofNat off)), .val (.int (Int32.ofNat len)), .unset, .unset, .unset, .unset, .unset] [])
    refine Go.step (fun t k => XS.iload X14.here hx rfl (hb hby at_137) rfl k) ?_
    show Go _ _ _ _ _ _ _ T14 (mkF m 139 #[.val (.int i0), .val (.int i1), .val (.int i2), .val (.int i3), .val (.int i4), .val (.ref b1), .val (.int zf), .val (.int (Int32.ofNat off)), .val (.int (Int32.ofNat len)), .unset, .unset, .unset, .unset, .unset] [(.int (Int32.ofNat off))])
    refine Go.step (fun t k => XS.iload X14.here hx rfl (hb hby at_139) rfl k) ?_
    show Go _ _ _ _ _ _ _ T14 (mkF m 141 #[.val (.int i0), .val (.int i1), .val (.int i2), .val (.int i3), .val (.int i4), .val (.ref b1), .val (.int zf), .val (.int (Int32.ofNat off)), .val (.int (Int32.ofNat len)), .unset, .unset, .unset, .unset, .unset] [(.int (Int32.ofNat len)), (.int (Int32.ofNat off))])
    refine Go.step (fun t k => XS.iadd X14.here hx rfl (hb hby at_141) rfl k) ?_
    show Go _ _ _ _ _ _ _ T14 (mkF m 142 #[.val (.int i0), .val (.int i1), .val (.int i2), .val (.int i3), .val (.int i4), .val (.ref b1), .val (.int zf), .val (.int (Int32.ofNat off)), .val (.int (Int32.ofNat len)), .unset, .unset, .unset, .unset, .unset] [(.int ((Int32.ofNat off) + (Int32.ofNat len)))])
    refine Go.step (fun t k => XS.istore X14.here hx rfl (hb hby at_142) rfl (l' := #[.val (.int i0), .val (.int i1), .val (.int i2), .val (.int i3), .val (.int i4), .val (.ref b1), .val (.int zf), .val (.int (Int32.ofNat off)), .val (.int (Int32.ofNat len)), .val (.int ((Int32.ofNat off) + (Int32.ofNat len))), .unset, .unset, .unset, .unset]) rfl k) ?_
    show Go _ _ _ _ _ _ _ T14 (mkF m 144 #[.val (.int i0), .val (.int i1), .val (.int i2), .val (.int i3), .val (.int i4), .val (.ref b1), .val (.int zf), .val (.int (Int32.ofNat off)), .val (.int (Int32.ofNat len)), .val (.int ((Int32.ofNat off) + (Int32.ofNat len))), .unset, .unset, .unset, .unset] [])
    rw [← Int32.ofNat_add]
    show Go _ _ _ _ _ _ _ T14 (mkF m 144 #[.val (.int i0), .val (.int i1), .val (.int i2), .val (.int i3), .val (.int i4), .val (.ref b1), .val (.int zf), .val (.int (Int32.ofNat off)), .val (.int (Int32.ofNat len)), .val (.int (Int32.ofNat (off + len))), .unset, .unset, .unset, .unset] [])
    refine Go.step (fun t k => XS.iloadN X14.here hx rfl (hb hby at_144) rfl k) ?_
    show Go _ _ _ _ _ _ _ T14 (mkF m 145 #[.val (.int i0), .val (.int i1), .val (.int i2), .val (.int i3), .val (.int i4), .val (.ref b1), .val (.int zf), .val (.int (Int32.ofNat off)), .val (.int (Int32.ofNat len)), .val (.int (Int32.ofNat (off + len))), .unset, .unset, .unset, .unset] [(.int i1)])
    obtain ⟨v16, T16, L16, X16, q16, st16⟩ := c_static X14 hx hZ hown (y := (⟨"com/example/sharks/sharks/StandardBase64DecodedLengthPinLaw", "pick", "(I)C"⟩ : MethodName)) (hw _ (List.mem_of_getElem? (i := 1) rfl)) (hw _ (List.mem_of_getElem? (i := 2) rfl)) (hw _ (List.mem_of_getElem? (i := 3) rfl)) (hw _ (List.mem_of_getElem? (i := 4) rfl)) (by decide) (argsL := [(.int i1)]) (rest := []) (rmP l Z a0 hw [] i1 h14 n0 Z14) e14 pd_0 rfl (by rw [hml]; rfl) (W := 0) (by show 2 * 0 + _ ≤ _; exact Nat.le_of_eq rfl) (by decide) (by decide) (by decide) (by decide) (hb hby at_145) (Ls := #[.val (.int i0), .val (.int i1), .val (.int i2), .val (.int i3), .val (.int i4), .val (.ref b1), .val (.int zf), .val (.int (Int32.ofNat off)), .val (.int (Int32.ofNat len)), .val (.int (Int32.ofNat (off + len))), .unset, .unset, .unset, .unset])
    obtain ⟨p1, rfl, hp1, rfl, e16⟩ := q16
    have N16 := Fr.app N14 (Fr.nil n0)
    refine Go.step (st16) ?_
    show Go _ _ _ _ _ _ _ T16 (mkF m 148 #[.val (.int i0), .val (.int i1), .val (.int i2), .val (.int i3), .val (.int i4), .val (.ref b1), .val (.int zf), .val (.int (Int32.ofNat off)), .val (.int (Int32.ofNat len)), .val (.int (Int32.ofNat (off + len))), .unset, .unset, .unset, .unset] [(.int p1)])
    refine Go.step (fun t k => XS.istore X16.here hx rfl (hb hby at_148) rfl (l' := #[.val (.int i0), .val (.int i1), .val (.int i2), .val (.int i3), .val (.int i4), .val (.ref b1), .val (.int zf), .val (.int (Int32.ofNat off)), .val (.int (Int32.ofNat len)), .val (.int (Int32.ofNat (off + len))), .val (.int p1), .unset, .unset, .unset]) rfl k) ?_
    show Go _ _ _ _ _ _ _ T16 (mkF m 150 #[.val (.int i0), .val (.int i1), .val (.int i2), .val (.int i3), .val (.int i4), .val (.ref b1), .val (.int zf), .val (.int (Int32.ofNat off)), .val (.int (Int32.ofNat len)), .val (.int (Int32.ofNat (off + len))), .val (.int p1), .unset, .unset, .unset] [])
    refine Go.step (fun t k => XS.iloadN X16.here hx rfl (hb hby at_150) rfl k) ?_
    show Go _ _ _ _ _ _ _ T16 (mkF m 151 #[.val (.int i0), .val (.int i1), .val (.int i2), .val (.int i3), .val (.int i4), .val (.ref b1), .val (.int zf), .val (.int (Int32.ofNat off)), .val (.int (Int32.ofNat len)), .val (.int (Int32.ofNat (off + len))), .val (.int p1), .unset, .unset, .unset] [(.int i2)])
    obtain ⟨v17, T17, L17, X17, q17, st17⟩ := c_static X16 hx hZ hown (y := (⟨"com/example/sharks/sharks/StandardBase64DecodedLengthPinLaw", "pick", "(I)C"⟩ : MethodName)) (hw _ (List.mem_of_getElem? (i := 1) rfl)) (hw _ (List.mem_of_getElem? (i := 2) rfl)) (hw _ (List.mem_of_getElem? (i := 3) rfl)) (hw _ (List.mem_of_getElem? (i := 4) rfl)) (by decide) (argsL := [(.int i2)]) (rest := []) (rmP l Z a0 hw [] i2 h14 n0 Z14) e16 pd_0 rfl (by rw [hml]; rfl) (W := 0) (by show 2 * 0 + _ ≤ _; exact Nat.le_of_eq rfl) (by decide) (by decide) (by decide) (by decide) (hb hby at_151) (Ls := #[.val (.int i0), .val (.int i1), .val (.int i2), .val (.int i3), .val (.int i4), .val (.ref b1), .val (.int zf), .val (.int (Int32.ofNat off)), .val (.int (Int32.ofNat len)), .val (.int (Int32.ofNat (off + len))), .val (.int p1), .unset, .unset, .unset])
    obtain ⟨p2, rfl, hp2, rfl, e17⟩ := q17
    have N17 := Fr.app N16 (Fr.nil n0)
    refine Go.step (st17) ?_
    show Go _ _ _ _ _ _ _ T17 (mkF m 154 #[.val (.int i0), .val (.int i1), .val (.int i2), .val (.int i3), .val (.int i4), .val (.ref b1), .val (.int zf), .val (.int (Int32.ofNat off)), .val (.int (Int32.ofNat len)), .val (.int (Int32.ofNat (off + len))), .val (.int p1), .unset, .unset, .unset] [(.int p2)])
    refine Go.step (fun t k => XS.istore X17.here hx rfl (hb hby at_154) rfl (l' := #[.val (.int i0), .val (.int i1), .val (.int i2), .val (.int i3), .val (.int i4), .val (.ref b1), .val (.int zf), .val (.int (Int32.ofNat off)), .val (.int (Int32.ofNat len)), .val (.int (Int32.ofNat (off + len))), .val (.int p1), .val (.int p2), .unset, .unset]) rfl k) ?_
    show Go _ _ _ _ _ _ _ T17 (mkF m 156 #[.val (.int i0), .val (.int i1), .val (.int i2), .val (.int i3), .val (.int i4), .val (.ref b1), .val (.int zf), .val (.int (Int32.ofNat off)), .val (.int (Int32.ofNat len)), .val (.int (Int32.ofNat (off + len))), .val (.int p1), .val (.int p2), .unset, .unset] [])
    refine Go.step (fun t k => XS.iload X17.here hx rfl (hb hby at_156) rfl k) ?_
    show Go _ _ _ _ _ _ _ T17 (mkF m 158 #[.val (.int i0), .val (.int i1), .val (.int i2), .val (.int i3), .val (.int i4), .val (.ref b1), .val (.int zf), .val (.int (Int32.ofNat off)), .val (.int (Int32.ofNat len)), .val (.int (Int32.ofNat (off + len))), .val (.int p1), .val (.int p2), .unset, .unset] [(.int (Int32.ofNat (off + len)))])
    refine Go.step (fun t k => XS.iconst X17.here hx rfl (hb hby at_158) k) ?_
    show Go _ _ _ _ _ _ _ T17 (mkF m 159 #[.val (.int i0), .val (.int i1), .val (.int i2), .val (.int i3), .val (.int i4), .val (.ref b1), .val (.int zf), .val (.int (Int32.ofNat off)), .val (.int (Int32.ofNat len)), .val (.int (Int32.ofNat (off + len))), .val (.int p1), .val (.int p2), .unset, .unset] [(.int (1 : Int32)), (.int (Int32.ofNat (off + len)))])
    refine Go.step (fun t k => XS.isub X17.here hx rfl (hb hby at_159) rfl k) ?_
    show Go _ _ _ _ _ _ _ T17 (mkF m 160 #[.val (.int i0), .val (.int i1), .val (.int i2), .val (.int i3), .val (.int i4), .val (.ref b1), .val (.int zf), .val (.int (Int32.ofNat off)), .val (.int (Int32.ofNat len)), .val (.int (Int32.ofNat (off + len))), .val (.int p1), .val (.int p2), .unset, .unset] [(.int ((Int32.ofNat (off + len)) - (1 : Int32)))])
    have k172 : ∀ (f172 : Nat → Value) (T172 : State) (lc172 : List Loc) (hh172 : Heap) (X172 : Stand p l e room_1 s m #[(.int i0), (.int i1), (.int i2), (.int i3), (.int i4)] below meth c T172 lc172 1 12) (e172 : T172.heap = hh172) (N172 : Fr n0 lc172) (Z172 : n0 ≤ hh172.size) (f172_0 : AV Z hh172 b1 .char 12 f172) (hf172 : 0 < off + len → f172 (off + len - 1) = .int p1),
        Go p e s below 16 128 (fun v h L => v = some (.int (1 : Int32)) ∧ Fr n0 L) T172 (mkF m 172 #[.val (.int i0), .val (.int i1), .val (.int i2), .val (.int i3), .val (.int i4), .val (.ref b1), .val (.int zf), .val (.int (Int32.ofNat off)), .val (.int (Int32.ofNat len)), .val (.int (Int32.ofNat (off + len))), .val (.int p1), .val (.int p2), .unset, .unset] []) := by
      intro f172 T172 lc172 hh172 X172 e172 N172 Z172 f172_0 hf172
      refine Go.step (fun t k => XS.iload X172.here hx rfl (hb hby at_172) rfl k) ?_
      show Go _ _ _ _ _ _ _ T172 (mkF m 174 #[.val (.int i0), .val (.int i1), .val (.int i2), .val (.int i3), .val (.int i4), .val (.ref b1), .val (.int zf), .val (.int (Int32.ofNat off)), .val (.int (Int32.ofNat len)), .val (.int (Int32.ofNat (off + len))), .val (.int p1), .val (.int p2), .unset, .unset] [(.int (Int32.ofNat (off + len)))])
      refine Go.step (fun t k => XS.iconst X172.here hx rfl (hb hby at_174) k) ?_
      show Go _ _ _ _ _ _ _ T172 (mkF m 175 #[.val (.int i0), .val (.int i1), .val (.int i2), .val (.int i3), .val (.int i4), .val (.ref b1), .val (.int zf), .val (.int (Int32.ofNat off)), .val (.int (Int32.ofNat len)), .val (.int (Int32.ofNat (off + len))), .val (.int p1), .val (.int p2), .unset, .unset] [(.int (2 : Int32)), (.int (Int32.ofNat (off + len)))])
      refine Go.step (fun t k => XS.isub X172.here hx rfl (hb hby at_175) rfl k) ?_
      show Go _ _ _ _ _ _ _ T172 (mkF m 176 #[.val (.int i0), .val (.int i1), .val (.int i2), .val (.int i3), .val (.int i4), .val (.ref b1), .val (.int zf), .val (.int (Int32.ofNat off)), .val (.int (Int32.ofNat len)), .val (.int (Int32.ofNat (off + len))), .val (.int p1), .val (.int p2), .unset, .unset] [(.int ((Int32.ofNat (off + len)) - (2 : Int32)))])
      have k188 : ∀ (f188 : Nat → Value) (T188 : State) (lc188 : List Loc) (hh188 : Heap) (X188 : Stand p l e room_1 s m #[(.int i0), (.int i1), (.int i2), (.int i3), (.int i4)] below meth c T188 lc188 1 12) (e188 : T188.heap = hh188) (N188 : Fr n0 lc188) (Z188 : n0 ≤ hh188.size) (f188_0 : AV Z hh188 b1 .char 12 f188) (hf188 : (len = 4 ∨ len = 8) → f188 (off + len - 1) = .int p1 ∧ f188 (off + len - 2) = .int p2),
          Go p e s below 16 128 (fun v h L => v = some (.int (1 : Int32)) ∧ Fr n0 L) T188 (mkF m 188 #[.val (.int i0), .val (.int i1), .val (.int i2), .val (.int i3), .val (.int i4), .val (.ref b1), .val (.int zf), .val (.int (Int32.ofNat off)), .val (.int (Int32.ofNat len)), .val (.int (Int32.ofNat (off + len))), .val (.int p1), .val (.int p2), .unset, .unset] []) := by
        intro f188 T188 lc188 hh188 X188 e188 N188 Z188 f188_0 hf188
        rcases (by omega : len = 0 ∨ len = 4 ∨ len = 8 ∨ (¬ len = 0 ∧ ¬ len = 4 ∧ ¬ len = 8)) with hlen | hlen | hlen | hlen
        · rw [show Int32.ofNat len = (0 : Int32) from by rw [hlen]; rfl]
          show Go _ _ _ _ _ _ _ T188 (mkF m 188 #[.val (.int i0), .val (.int i1), .val (.int i2), .val (.int i3), .val (.int i4), .val (.ref b1), .val (.int zf), .val (.int (Int32.ofNat off)), .val (.int (0 : Int32)), .val (.int (Int32.ofNat (off + len))), .val (.int p1), .val (.int p2), .unset, .unset] [])
          refine Go.step (fun t k => XS.iload X188.here hx rfl (hb hby at_188) rfl k) ?_
          show Go _ _ _ _ _ _ _ T188 (mkF m 190 #[.val (.int i0), .val (.int i1), .val (.int i2), .val (.int i3), .val (.int i4), .val (.ref b1), .val (.int zf), .val (.int (Int32.ofNat off)), .val (.int (0 : Int32)), .val (.int (Int32.ofNat (off + len))), .val (.int p1), .val (.int p2), .unset, .unset] [(.int (0 : Int32))])
          refine Go.step (fun t k => XS.ifNo X188.here hx rfl (hb hby at_190) rfl ((if0 _ _).trans (teq (by decide)).2) k) ?_
          show Go _ _ _ _ _ _ _ T188 (mkF m 193 #[.val (.int i0), .val (.int i1), .val (.int i2), .val (.int i3), .val (.int i4), .val (.ref b1), .val (.int zf), .val (.int (Int32.ofNat off)), .val (.int (0 : Int32)), .val (.int (Int32.ofNat (off + len))), .val (.int p1), .val (.int p2), .unset, .unset] [])
          refine Go.step (fun t k => XS.iconst X188.here hx rfl (hb hby at_193) k) ?_
          show Go _ _ _ _ _ _ _ T188 (mkF m 194 #[.val (.int i0), .val (.int i1), .val (.int i2), .val (.int i3), .val (.int i4), .val (.ref b1), .val (.int zf), .val (.int (Int32.ofNat off)), .val (.int (0 : Int32)), .val (.int (Int32.ofNat (off + len))), .val (.int p1), .val (.int p2), .unset, .unset] [(.int (0 : Int32))])
          refine Go.step (fun t k => XS.istore X188.here hx rfl (hb hby at_194) rfl (l' := #[.val (.int i0), .val (.int i1), .val (.int i2), .val (.int i3), .val (.int i4), .val (.ref b1), .val (.int zf), .val (.int (Int32.ofNat off)), .val (.int (0 : Int32)), .val (.int (Int32.ofNat (off + len))), .val (.int p1), .val (.int p2), .val (.int (0 : Int32)), .unset]) rfl k) ?_
          show Go _ _ _ _ _ _ _ T188 (mkF m 196 #[.val (.int i0), .val (.int i1), .val (.int i2), .val (.int i3), .val (.int i4), .val (.ref b1), .val (.int zf), .val (.int (Int32.ofNat off)), .val (.int (0 : Int32)), .val (.int (Int32.ofNat (off + len))), .val (.int p1), .val (.int p2), .val (.int (0 : Int32)), .unset] [])
          refine Go.step (fun t k => XS.goto X188.here hx rfl (pc0 := 196) (pc' := 268) rfl (hb hby at_196) (by decide) (by decide) k) ?_
          show Go _ _ _ _ _ _ _ T188 (mkF m 268 #[.val (.int i0), .val (.int i1), .val (.int i2), .val (.int i3), .val (.int i4), .val (.ref b1), .val (.int zf), .val (.int (Int32.ofNat off)), .val (.int (0 : Int32)), .val (.int (Int32.ofNat (off + len))), .val (.int p1), .val (.int p2), .val (.int (0 : Int32)), .unset] [])
          refine Go.step (fun t k => XS.aload X188.here hx rfl (hb hby at_268) rfl rfl k) ?_
          show Go _ _ _ _ _ _ _ T188 (mkF m 270 #[.val (.int i0), .val (.int i1), .val (.int i2), .val (.int i3), .val (.int i4), .val (.ref b1), .val (.int zf), .val (.int (Int32.ofNat off)), .val (.int (0 : Int32)), .val (.int (Int32.ofNat (off + len))), .val (.int p1), .val (.int p2), .val (.int (0 : Int32)), .unset] [(.ref b1)])
          refine Go.step (fun t k => XS.iload X188.here hx rfl (hb hby at_270) rfl k) ?_
          show Go _ _ _ _ _ _ _ T188 (mkF m 272 #[.val (.int i0), .val (.int i1), .val (.int i2), .val (.int i3), .val (.int i4), .val (.ref b1), .val (.int zf), .val (.int (Int32.ofNat off)), .val (.int (0 : Int32)), .val (.int (Int32.ofNat (off + len))), .val (.int p1), .val (.int p2), .val (.int (0 : Int32)), .unset] [(.int (Int32.ofNat off)), (.ref b1)])
          refine Go.step (fun t k => XS.iload X188.here hx rfl (hb hby at_272) rfl k) ?_
          show Go _ _ _ _ _ _ _ T188 (mkF m 274 #[.val (.int i0), .val (.int i1), .val (.int i2), .val (.int i3), .val (.int i4), .val (.ref b1), .val (.int zf), .val (.int (Int32.ofNat off)), .val (.int (0 : Int32)), .val (.int (Int32.ofNat (off + len))), .val (.int p1), .val (.int p2), .val (.int (0 : Int32)), .unset] [(.int (0 : Int32)), (.int (Int32.ofNat off)), (.ref b1)])
          obtain ⟨v18, T18, L18, X18, q18, st18⟩ := c_static X188 hx hZ hown (y := (⟨"com/example/sharks/sharks/StandardBase64", "decodedLength", "([CII)I"⟩ : MethodName)) (hw _ (List.mem_of_getElem? (i := 8) rfl)) (hw _ (List.mem_of_getElem? (i := 9) rfl)) (hw _ (List.mem_of_getElem? (i := 10) rfl)) (hw _ (List.mem_of_getElem? (i := 11) rfl)) (by decide) (argsL := [(.ref b1), (.int (Int32.ofNat off)), (.int (0 : Int32))]) (rest := []) (rmD0 l Z a0 hw [] b1 (Int32.ofNat off) hh188 n0 Z188) e188 pd_1 rfl (by rw [hml]; rfl) (W := 0) (by show 2 * 0 + _ ≤ _; exact Nat.le_of_eq rfl) (by decide) (by decide) (by decide) (by decide) (hb hby at_274) (Ls := #[.val (.int i0), .val (.int i1), .val (.int i2), .val (.int i3), .val (.int i4), .val (.ref b1), .val (.int zf), .val (.int (Int32.ofNat off)), .val (.int (0 : Int32)), .val (.int (Int32.ofNat (off + len))), .val (.int p1), .val (.int p2), .val (.int (0 : Int32)), .unset])
          obtain ⟨rfl, rfl, e18⟩ := q18
          have N18 := Fr.app N188 (Fr.nil n0)
          refine Go.step (st18) ?_
          show Go _ _ _ _ _ _ _ T18 (mkF m 277 #[.val (.int i0), .val (.int i1), .val (.int i2), .val (.int i3), .val (.int i4), .val (.ref b1), .val (.int zf), .val (.int (Int32.ofNat off)), .val (.int (0 : Int32)), .val (.int (Int32.ofNat (off + len))), .val (.int p1), .val (.int p2), .val (.int (0 : Int32)), .unset] [(.int (0 : Int32))])
          refine Go.step (fun t k => XS.iload X18.here hx rfl (hb hby at_277) rfl k) ?_
          show Go _ _ _ _ _ _ _ T18 (mkF m 279 #[.val (.int i0), .val (.int i1), .val (.int i2), .val (.int i3), .val (.int i4), .val (.ref b1), .val (.int zf), .val (.int (Int32.ofNat off)), .val (.int (0 : Int32)), .val (.int (Int32.ofNat (off + len))), .val (.int p1), .val (.int p2), .val (.int (0 : Int32)), .unset] [(.int (0 : Int32)), (.int (0 : Int32))])
          refine Go.step (fun t k => XS.icmpNo X18.here hx rfl (hb hby at_279) rfl (teq rfl).2 k) ?_
          show Go _ _ _ _ _ _ _ T18 (mkF m 282 #[.val (.int i0), .val (.int i1), .val (.int i2), .val (.int i3), .val (.int i4), .val (.ref b1), .val (.int zf), .val (.int (Int32.ofNat off)), .val (.int (0 : Int32)), .val (.int (Int32.ofNat (off + len))), .val (.int p1), .val (.int p2), .val (.int (0 : Int32)), .unset] [])
          refine Go.step (fun t k => XS.iconst X18.here hx rfl (hb hby at_282) k) ?_
          show Go _ _ _ _ _ _ _ T18 (mkF m 283 #[.val (.int i0), .val (.int i1), .val (.int i2), .val (.int i3), .val (.int i4), .val (.ref b1), .val (.int zf), .val (.int (Int32.ofNat off)), .val (.int (0 : Int32)), .val (.int (Int32.ofNat (off + len))), .val (.int p1), .val (.int p2), .val (.int (0 : Int32)), .unset] [(.int (1 : Int32))])
          refine Go.step (fun t k => XS.goto X18.here hx rfl (pc0 := 283) (pc' := 287) rfl (hb hby at_283) (by decide) (by decide) k) ?_
          show Go _ _ _ _ _ _ _ T18 (mkF m 287 #[.val (.int i0), .val (.int i1), .val (.int i2), .val (.int i3), .val (.int i4), .val (.ref b1), .val (.int zf), .val (.int (Int32.ofNat off)), .val (.int (0 : Int32)), .val (.int (Int32.ofNat (off + len))), .val (.int p1), .val (.int p2), .val (.int (0 : Int32)), .unset] [(.int (1 : Int32))])
          refine go_retN X18 hx (t := .boolean) hret (by simp) hlk (hb hby at_287) (w := (1 : Int32)) rfl ?_ (by decide) (by decide)
          try rw [e18]
          exact ⟨rfl, N18⟩
        · rw [show Int32.ofNat len = (4 : Int32) from by rw [hlen]; rfl]
          have hf188 := hf188 (by omega)
          show Go _ _ _ _ _ _ _ T188 (mkF m 188 #[.val (.int i0), .val (.int i1), .val (.int i2), .val (.int i3), .val (.int i4), .val (.ref b1), .val (.int zf), .val (.int (Int32.ofNat off)), .val (.int (4 : Int32)), .val (.int (Int32.ofNat (off + len))), .val (.int p1), .val (.int p2), .unset, .unset] [])
          refine Go.step (fun t k => XS.iload X188.here hx rfl (hb hby at_188) rfl k) ?_
          show Go _ _ _ _ _ _ _ T188 (mkF m 190 #[.val (.int i0), .val (.int i1), .val (.int i2), .val (.int i3), .val (.int i4), .val (.ref b1), .val (.int zf), .val (.int (Int32.ofNat off)), .val (.int (4 : Int32)), .val (.int (Int32.ofNat (off + len))), .val (.int p1), .val (.int p2), .unset, .unset] [(.int (4 : Int32))])
          refine Go.step (fun t k => XS.ifYes X188.here hx rfl (pc0 := 190) (pc' := 199) rfl (hb hby at_190) rfl ((if0 _ _).trans (feq (by decide)).2) (by decide) (by decide) k) ?_
          show Go _ _ _ _ _ _ _ T188 (mkF m 199 #[.val (.int i0), .val (.int i1), .val (.int i2), .val (.int i3), .val (.int i4), .val (.ref b1), .val (.int zf), .val (.int (Int32.ofNat off)), .val (.int (4 : Int32)), .val (.int (Int32.ofNat (off + len))), .val (.int p1), .val (.int p2), .unset, .unset] [])
          refine Go.step (fun t k => XS.iload X188.here hx rfl (hb hby at_199) rfl k) ?_
          show Go _ _ _ _ _ _ _ T188 (mkF m 201 #[.val (.int i0), .val (.int i1), .val (.int i2), .val (.int i3), .val (.int i4), .val (.ref b1), .val (.int zf), .val (.int (Int32.ofNat off)), .val (.int (4 : Int32)), .val (.int (Int32.ofNat (off + len))), .val (.int p1), .val (.int p2), .unset, .unset] [(.int (4 : Int32))])
          refine Go.step (fun t k => XS.iconst X188.here hx rfl (hb hby at_201) k) ?_
          show Go _ _ _ _ _ _ _ T188 (mkF m 202 #[.val (.int i0), .val (.int i1), .val (.int i2), .val (.int i3), .val (.int i4), .val (.ref b1), .val (.int zf), .val (.int (Int32.ofNat off)), .val (.int (4 : Int32)), .val (.int (Int32.ofNat (off + len))), .val (.int p1), .val (.int p2), .unset, .unset] [(.int (4 : Int32)), (.int (4 : Int32))])
          refine Go.step (fun t k => XS.icmpYes X188.here hx rfl (pc0 := 202) (pc' := 212) rfl (hb hby at_202) rfl (teq (by decide)).1 (by decide) (by decide) k) ?_
          show Go _ _ _ _ _ _ _ T188 (mkF m 212 #[.val (.int i0), .val (.int i1), .val (.int i2), .val (.int i3), .val (.int i4), .val (.ref b1), .val (.int zf), .val (.int (Int32.ofNat off)), .val (.int (4 : Int32)), .val (.int (Int32.ofNat (off + len))), .val (.int p1), .val (.int p2), .unset, .unset] [])
          refine Go.step (fun t k => XS.iload X188.here hx rfl (hb hby at_212) rfl k) ?_
          show Go _ _ _ _ _ _ _ T188 (mkF m 214 #[.val (.int i0), .val (.int i1), .val (.int i2), .val (.int i3), .val (.int i4), .val (.ref b1), .val (.int zf), .val (.int (Int32.ofNat off)), .val (.int (4 : Int32)), .val (.int (Int32.ofNat (off + len))), .val (.int p1), .val (.int p2), .unset, .unset] [(.int (4 : Int32))])
          refine Go.step (fun t k => XS.iconst X188.here hx rfl (hb hby at_214) k) ?_
          show Go _ _ _ _ _ _ _ T188 (mkF m 215 #[.val (.int i0), .val (.int i1), .val (.int i2), .val (.int i3), .val (.int i4), .val (.ref b1), .val (.int zf), .val (.int (Int32.ofNat off)), .val (.int (4 : Int32)), .val (.int (Int32.ofNat (off + len))), .val (.int p1), .val (.int p2), .unset, .unset] [(.int (4 : Int32)), (.int (4 : Int32))])
          refine Go.step (fun t k => XS.icmpNo X188.here hx rfl (hb hby at_215) rfl (teq (by decide)).2 k) ?_
          show Go _ _ _ _ _ _ _ T188 (mkF m 218 #[.val (.int i0), .val (.int i1), .val (.int i2), .val (.int i3), .val (.int i4), .val (.ref b1), .val (.int zf), .val (.int (Int32.ofNat off)), .val (.int (4 : Int32)), .val (.int (Int32.ofNat (off + len))), .val (.int p1), .val (.int p2), .unset, .unset] [])
          refine Go.step (fun t k => XS.iconst X188.here hx rfl (hb hby at_218) k) ?_
          show Go _ _ _ _ _ _ _ T188 (mkF m 219 #[.val (.int i0), .val (.int i1), .val (.int i2), .val (.int i3), .val (.int i4), .val (.ref b1), .val (.int zf), .val (.int (Int32.ofNat off)), .val (.int (4 : Int32)), .val (.int (Int32.ofNat (off + len))), .val (.int p1), .val (.int p2), .unset, .unset] [(.int (3 : Int32))])
          refine Go.step (fun t k => XS.goto X188.here hx rfl (pc0 := 219) (pc' := 224) rfl (hb hby at_219) (by decide) (by decide) k) ?_
          show Go _ _ _ _ _ _ _ T188 (mkF m 224 #[.val (.int i0), .val (.int i1), .val (.int i2), .val (.int i3), .val (.int i4), .val (.ref b1), .val (.int zf), .val (.int (Int32.ofNat off)), .val (.int (4 : Int32)), .val (.int (Int32.ofNat (off + len))), .val (.int p1), .val (.int p2), .unset, .unset] [(.int (3 : Int32))])
          refine Go.step (fun t k => XS.istore X188.here hx rfl (hb hby at_224) rfl (l' := #[.val (.int i0), .val (.int i1), .val (.int i2), .val (.int i3), .val (.int i4), .val (.ref b1), .val (.int zf), .val (.int (Int32.ofNat off)), .val (.int (4 : Int32)), .val (.int (Int32.ofNat (off + len))), .val (.int p1), .val (.int p2), .unset, .val (.int (3 : Int32))]) rfl k) ?_
          show Go _ _ _ _ _ _ _ T188 (mkF m 226 #[.val (.int i0), .val (.int i1), .val (.int i2), .val (.int i3), .val (.int i4), .val (.ref b1), .val (.int zf), .val (.int (Int32.ofNat off)), .val (.int (4 : Int32)), .val (.int (Int32.ofNat (off + len))), .val (.int p1), .val (.int p2), .unset, .val (.int (3 : Int32))] [])
          refine Go.step (fun t k => XS.iload X188.here hx rfl (hb hby at_226) rfl k) ?_
          show Go _ _ _ _ _ _ _ T188 (mkF m 228 #[.val (.int i0), .val (.int i1), .val (.int i2), .val (.int i3), .val (.int i4), .val (.ref b1), .val (.int zf), .val (.int (Int32.ofNat off)), .val (.int (4 : Int32)), .val (.int (Int32.ofNat (off + len))), .val (.int p1), .val (.int p2), .unset, .val (.int (3 : Int32))] [(.int p1)])
          refine Go.step (fun t k => XS.bipush X188.here hx rfl (hb hby at_228) k) ?_
          show Go _ _ _ _ _ _ _ T188 (mkF m 230 #[.val (.int i0), .val (.int i1), .val (.int i2), .val (.int i3), .val (.int i4), .val (.ref b1), .val (.int zf), .val (.int (Int32.ofNat off)), .val (.int (4 : Int32)), .val (.int (Int32.ofNat (off + len))), .val (.int p1), .val (.int p2), .unset, .val (.int (3 : Int32))] [(.int (61 : Int32)), (.int p1)])
          by_cases c230_19 : p1 = (61 : Int32)
          · refine Go.step (fun t k => XS.icmpYes X188.here hx rfl (pc0 := 230) (pc' := 240) rfl (hb hby at_230) rfl (teq c230_19).1 (by decide) (by decide) k) ?_
            show Go _ _ _ _ _ _ _ T188 (mkF m 240 #[.val (.int i0), .val (.int i1), .val (.int i2), .val (.int i3), .val (.int i4), .val (.ref b1), .val (.int zf), .val (.int (Int32.ofNat off)), .val (.int (4 : Int32)), .val (.int (Int32.ofNat (off + len))), .val (.int p1), .val (.int p2), .unset, .val (.int (3 : Int32))] [])
            refine Go.step (fun t k => XS.iload X188.here hx rfl (hb hby at_240) rfl k) ?_
            show Go _ _ _ _ _ _ _ T188 (mkF m 242 #[.val (.int i0), .val (.int i1), .val (.int i2), .val (.int i3), .val (.int i4), .val (.ref b1), .val (.int zf), .val (.int (Int32.ofNat off)), .val (.int (4 : Int32)), .val (.int (Int32.ofNat (off + len))), .val (.int p1), .val (.int p2), .unset, .val (.int (3 : Int32))] [(.int p2)])
            refine Go.step (fun t k => XS.bipush X188.here hx rfl (hb hby at_242) k) ?_
            show Go _ _ _ _ _ _ _ T188 (mkF m 244 #[.val (.int i0), .val (.int i1), .val (.int i2), .val (.int i3), .val (.int i4), .val (.ref b1), .val (.int zf), .val (.int (Int32.ofNat off)), .val (.int (4 : Int32)), .val (.int (Int32.ofNat (off + len))), .val (.int p1), .val (.int p2), .unset, .val (.int (3 : Int32))] [(.int (61 : Int32)), (.int p2)])
            by_cases c244_20 : p2 = (61 : Int32)
            · refine Go.step (fun t k => XS.icmpNo X188.here hx rfl (hb hby at_244) rfl (teq c244_20).2 k) ?_
              show Go _ _ _ _ _ _ _ T188 (mkF m 247 #[.val (.int i0), .val (.int i1), .val (.int i2), .val (.int i3), .val (.int i4), .val (.ref b1), .val (.int zf), .val (.int (Int32.ofNat off)), .val (.int (4 : Int32)), .val (.int (Int32.ofNat (off + len))), .val (.int p1), .val (.int p2), .unset, .val (.int (3 : Int32))] [])
              refine Go.step (fun t k => XS.iload X188.here hx rfl (hb hby at_247) rfl k) ?_
              show Go _ _ _ _ _ _ _ T188 (mkF m 249 #[.val (.int i0), .val (.int i1), .val (.int i2), .val (.int i3), .val (.int i4), .val (.ref b1), .val (.int zf), .val (.int (Int32.ofNat off)), .val (.int (4 : Int32)), .val (.int (Int32.ofNat (off + len))), .val (.int p1), .val (.int p2), .unset, .val (.int (3 : Int32))] [(.int (3 : Int32))])
              refine Go.step (fun t k => XS.iconst X188.here hx rfl (hb hby at_249) k) ?_
              show Go _ _ _ _ _ _ _ T188 (mkF m 250 #[.val (.int i0), .val (.int i1), .val (.int i2), .val (.int i3), .val (.int i4), .val (.ref b1), .val (.int zf), .val (.int (Int32.ofNat off)), .val (.int (4 : Int32)), .val (.int (Int32.ofNat (off + len))), .val (.int p1), .val (.int p2), .unset, .val (.int (3 : Int32))] [(.int (2 : Int32)), (.int (3 : Int32))])
              refine Go.step (fun t k => XS.isub X188.here hx rfl (hb hby at_250) rfl k) ?_
              show Go _ _ _ _ _ _ _ T188 (mkF m 251 #[.val (.int i0), .val (.int i1), .val (.int i2), .val (.int i3), .val (.int i4), .val (.ref b1), .val (.int zf), .val (.int (Int32.ofNat off)), .val (.int (4 : Int32)), .val (.int (Int32.ofNat (off + len))), .val (.int p1), .val (.int p2), .unset, .val (.int (3 : Int32))] [(.int ((3 : Int32) - (2 : Int32)))])
              refine Go.step (fun t k => XS.istore X188.here hx rfl (hb hby at_251) rfl (l' := #[.val (.int i0), .val (.int i1), .val (.int i2), .val (.int i3), .val (.int i4), .val (.ref b1), .val (.int zf), .val (.int (Int32.ofNat off)), .val (.int (4 : Int32)), .val (.int (Int32.ofNat (off + len))), .val (.int p1), .val (.int p2), .val (.int ((3 : Int32) - (2 : Int32))), .val (.int (3 : Int32))]) rfl k) ?_
              show Go _ _ _ _ _ _ _ T188 (mkF m 253 #[.val (.int i0), .val (.int i1), .val (.int i2), .val (.int i3), .val (.int i4), .val (.ref b1), .val (.int zf), .val (.int (Int32.ofNat off)), .val (.int (4 : Int32)), .val (.int (Int32.ofNat (off + len))), .val (.int p1), .val (.int p2), .val (.int ((3 : Int32) - (2 : Int32))), .val (.int (3 : Int32))] [])
              refine Go.step (fun t k => XS.goto X188.here hx rfl (pc0 := 253) (pc' := 262) rfl (hb hby at_253) (by decide) (by decide) k) ?_
              show Go _ _ _ _ _ _ _ T188 (mkF m 262 #[.val (.int i0), .val (.int i1), .val (.int i2), .val (.int i3), .val (.int i4), .val (.ref b1), .val (.int zf), .val (.int (Int32.ofNat off)), .val (.int (4 : Int32)), .val (.int (Int32.ofNat (off + len))), .val (.int p1), .val (.int p2), .val (.int ((3 : Int32) - (2 : Int32))), .val (.int (3 : Int32))] [])
              refine Go.step (fun t k => XS.goto X188.here hx rfl (pc0 := 262) (pc' := 268) rfl (hb hby at_262) (by decide) (by decide) k) ?_
              show Go _ _ _ _ _ _ _ T188 (mkF m 268 #[.val (.int i0), .val (.int i1), .val (.int i2), .val (.int i3), .val (.int i4), .val (.ref b1), .val (.int zf), .val (.int (Int32.ofNat off)), .val (.int (4 : Int32)), .val (.int (Int32.ofNat (off + len))), .val (.int p1), .val (.int p2), .val (.int ((3 : Int32) - (2 : Int32))), .val (.int (3 : Int32))] [])
              refine Go.step (fun t k => XS.aload X188.here hx rfl (hb hby at_268) rfl rfl k) ?_
              show Go _ _ _ _ _ _ _ T188 (mkF m 270 #[.val (.int i0), .val (.int i1), .val (.int i2), .val (.int i3), .val (.int i4), .val (.ref b1), .val (.int zf), .val (.int (Int32.ofNat off)), .val (.int (4 : Int32)), .val (.int (Int32.ofNat (off + len))), .val (.int p1), .val (.int p2), .val (.int ((3 : Int32) - (2 : Int32))), .val (.int (3 : Int32))] [(.ref b1)])
              refine Go.step (fun t k => XS.iload X188.here hx rfl (hb hby at_270) rfl k) ?_
              show Go _ _ _ _ _ _ _ T188 (mkF m 272 #[.val (.int i0), .val (.int i1), .val (.int i2), .val (.int i3), .val (.int i4), .val (.ref b1), .val (.int zf), .val (.int (Int32.ofNat off)), .val (.int (4 : Int32)), .val (.int (Int32.ofNat (off + len))), .val (.int p1), .val (.int p2), .val (.int ((3 : Int32) - (2 : Int32))), .val (.int (3 : Int32))] [(.int (Int32.ofNat off)), (.ref b1)])
              refine Go.step (fun t k => XS.iload X188.here hx rfl (hb hby at_272) rfl k) ?_
              show Go _ _ _ _ _ _ _ T188 (mkF m 274 #[.val (.int i0), .val (.int i1), .val (.int i2), .val (.int i3), .val (.int i4), .val (.ref b1), .val (.int zf), .val (.int (Int32.ofNat off)), .val (.int (4 : Int32)), .val (.int (Int32.ofNat (off + len))), .val (.int p1), .val (.int p2), .val (.int ((3 : Int32) - (2 : Int32))), .val (.int (3 : Int32))] [(.int (4 : Int32)), (.int (Int32.ofNat off)), (.ref b1)])
              obtain ⟨v21, T21, L21, X21, q21, st21⟩ := c_static X188 hx hZ hown (y := (⟨"com/example/sharks/sharks/StandardBase64", "decodedLength", "([CII)I"⟩ : MethodName)) (hw _ (List.mem_of_getElem? (i := 8) rfl)) (hw _ (List.mem_of_getElem? (i := 9) rfl)) (hw _ (List.mem_of_getElem? (i := 10) rfl)) (hw _ (List.mem_of_getElem? (i := 11) rfl)) (by decide) (argsL := [(.ref b1), (.int (Int32.ofNat off)), (.int (4 : Int32))]) (rest := []) (rmD l Z a0 hw [] b1 off 4 p1 p2 f188 hh188 n0 Z188 ho (by decide) f188_0 (hlen ▸ hf188.1) (hlen ▸ hf188.2)) e188 pd_1 rfl (by rw [hml]; rfl) (W := 0) (by show 2 * 0 + _ ≤ _; exact Nat.le_of_eq rfl) (by decide) (by decide) (by decide) (by decide) (hb hby at_274) (Ls := #[.val (.int i0), .val (.int i1), .val (.int i2), .val (.int i3), .val (.int i4), .val (.ref b1), .val (.int zf), .val (.int (Int32.ofNat off)), .val (.int (4 : Int32)), .val (.int (Int32.ofNat (off + len))), .val (.int p1), .val (.int p2), .val (.int ((3 : Int32) - (2 : Int32))), .val (.int (3 : Int32))])
              obtain ⟨rfl, rfl, e21⟩ := q21
              have N21 := Fr.app N188 (Fr.nil n0)
              refine Go.step (st21) ?_
              show Go _ _ _ _ _ _ _ T21 (mkF m 277 #[.val (.int i0), .val (.int i1), .val (.int i2), .val (.int i3), .val (.int i4), .val (.ref b1), .val (.int zf), .val (.int (Int32.ofNat off)), .val (.int (4 : Int32)), .val (.int (Int32.ofNat (off + len))), .val (.int p1), .val (.int p2), .val (.int ((3 : Int32) - (2 : Int32))), .val (.int (3 : Int32))] [(.int (dl 4 p1 p2))])
              refine Go.step (fun t k => XS.iload X21.here hx rfl (hb hby at_277) rfl k) ?_
              show Go _ _ _ _ _ _ _ T21 (mkF m 279 #[.val (.int i0), .val (.int i1), .val (.int i2), .val (.int i3), .val (.int i4), .val (.ref b1), .val (.int zf), .val (.int (Int32.ofNat off)), .val (.int (4 : Int32)), .val (.int (Int32.ofNat (off + len))), .val (.int p1), .val (.int p2), .val (.int ((3 : Int32) - (2 : Int32))), .val (.int (3 : Int32))] [(.int ((3 : Int32) - (2 : Int32))), (.int (dl 4 p1 p2))])
              refine Go.step (fun t k => XS.icmpNo X21.here hx rfl (hb hby at_279) rfl (teq (by simp only [dl, eq_true c230_19, eq_true c244_20, if_true, if_false]; rfl)).2 k) ?_
              show Go _ _ _ _ _ _ _ T21 (mkF m 282 #[.val (.int i0), .val (.int i1), .val (.int i2), .val (.int i3), .val (.int i4), .val (.ref b1), .val (.int zf), .val (.int (Int32.ofNat off)), .val (.int (4 : Int32)), .val (.int (Int32.ofNat (off + len))), .val (.int p1), .val (.int p2), .val (.int ((3 : Int32) - (2 : Int32))), .val (.int (3 : Int32))] [])
              refine Go.step (fun t k => XS.iconst X21.here hx rfl (hb hby at_282) k) ?_
              show Go _ _ _ _ _ _ _ T21 (mkF m 283 #[.val (.int i0), .val (.int i1), .val (.int i2), .val (.int i3), .val (.int i4), .val (.ref b1), .val (.int zf), .val (.int (Int32.ofNat off)), .val (.int (4 : Int32)), .val (.int (Int32.ofNat (off + len))), .val (.int p1), .val (.int p2), .val (.int ((3 : Int32) - (2 : Int32))), .val (.int (3 : Int32))] [(.int (1 : Int32))])
              refine Go.step (fun t k => XS.goto X21.here hx rfl (pc0 := 283) (pc' := 287) rfl (hb hby at_283) (by decide) (by decide) k) ?_
              show Go _ _ _ _ _ _ _ T21 (mkF m 287 #[.val (.int i0), .val (.int i1), .val (.int i2), .val (.int i3), .val (.int i4), .val (.ref b1), .val (.int zf), .val (.int (Int32.ofNat off)), .val (.int (4 : Int32)), .val (.int (Int32.ofNat (off + len))), .val (.int p1), .val (.int p2), .val (.int ((3 : Int32) - (2 : Int32))), .val (.int (3 : Int32))] [(.int (1 : Int32))])
              refine go_retN X21 hx (t := .boolean) hret (by simp) hlk (hb hby at_287) (w := (1 : Int32)) rfl ?_ (by decide) (by decide)
              try rw [e21]
              exact ⟨rfl, N21⟩
            · refine Go.step (fun t k => XS.icmpYes X188.here hx rfl (pc0 := 244) (pc' := 256) rfl (hb hby at_244) rfl (feq c244_20).2 (by decide) (by decide) k) ?_
              show Go _ _ _ _ _ _ _ T188 (mkF m 256 #[.val (.int i0), .val (.int i1), .val (.int i2), .val (.int i3), .val (.int i4), .val (.ref b1), .val (.int zf), .val (.int (Int32.ofNat off)), .val (.int (4 : Int32)), .val (.int (Int32.ofNat (off + len))), .val (.int p1), .val (.int p2), .unset, .val (.int (3 : Int32))] [])
              refine Go.step (fun t k => XS.iload X188.here hx rfl (hb hby at_256) rfl k) ?_
              show Go _ _ _ _ _ _ _ T188 (mkF m 258 #[.val (.int i0), .val (.int i1), .val (.int i2), .val (.int i3), .val (.int i4), .val (.ref b1), .val (.int zf), .val (.int (Int32.ofNat off)), .val (.int (4 : Int32)), .val (.int (Int32.ofNat (off + len))), .val (.int p1), .val (.int p2), .unset, .val (.int (3 : Int32))] [(.int (3 : Int32))])
              refine Go.step (fun t k => XS.iconst X188.here hx rfl (hb hby at_258) k) ?_
              show Go _ _ _ _ _ _ _ T188 (mkF m 259 #[.val (.int i0), .val (.int i1), .val (.int i2), .val (.int i3), .val (.int i4), .val (.ref b1), .val (.int zf), .val (.int (Int32.ofNat off)), .val (.int (4 : Int32)), .val (.int (Int32.ofNat (off + len))), .val (.int p1), .val (.int p2), .unset, .val (.int (3 : Int32))] [(.int (1 : Int32)), (.int (3 : Int32))])
              refine Go.step (fun t k => XS.isub X188.here hx rfl (hb hby at_259) rfl k) ?_
              show Go _ _ _ _ _ _ _ T188 (mkF m 260 #[.val (.int i0), .val (.int i1), .val (.int i2), .val (.int i3), .val (.int i4), .val (.ref b1), .val (.int zf), .val (.int (Int32.ofNat off)), .val (.int (4 : Int32)), .val (.int (Int32.ofNat (off + len))), .val (.int p1), .val (.int p2), .unset, .val (.int (3 : Int32))] [(.int ((3 : Int32) - (1 : Int32)))])
              refine Go.step (fun t k => XS.istore X188.here hx rfl (hb hby at_260) rfl (l' := #[.val (.int i0), .val (.int i1), .val (.int i2), .val (.int i3), .val (.int i4), .val (.ref b1), .val (.int zf), .val (.int (Int32.ofNat off)), .val (.int (4 : Int32)), .val (.int (Int32.ofNat (off + len))), .val (.int p1), .val (.int p2), .val (.int ((3 : Int32) - (1 : Int32))), .val (.int (3 : Int32))]) rfl k) ?_
              show Go _ _ _ _ _ _ _ T188 (mkF m 262 #[.val (.int i0), .val (.int i1), .val (.int i2), .val (.int i3), .val (.int i4), .val (.ref b1), .val (.int zf), .val (.int (Int32.ofNat off)), .val (.int (4 : Int32)), .val (.int (Int32.ofNat (off + len))), .val (.int p1), .val (.int p2), .val (.int ((3 : Int32) - (1 : Int32))), .val (.int (3 : Int32))] [])
              refine Go.step (fun t k => XS.goto X188.here hx rfl (pc0 := 262) (pc' := 268) rfl (hb hby at_262) (by decide) (by decide) k) ?_
              show Go _ _ _ _ _ _ _ T188 (mkF m 268 #[.val (.int i0), .val (.int i1), .val (.int i2), .val (.int i3), .val (.int i4), .val (.ref b1), .val (.int zf), .val (.int (Int32.ofNat off)), .val (.int (4 : Int32)), .val (.int (Int32.ofNat (off + len))), .val (.int p1), .val (.int p2), .val (.int ((3 : Int32) - (1 : Int32))), .val (.int (3 : Int32))] [])
              refine Go.step (fun t k => XS.aload X188.here hx rfl (hb hby at_268) rfl rfl k) ?_
              show Go _ _ _ _ _ _ _ T188 (mkF m 270 #[.val (.int i0), .val (.int i1), .val (.int i2), .val (.int i3), .val (.int i4), .val (.ref b1), .val (.int zf), .val (.int (Int32.ofNat off)), .val (.int (4 : Int32)), .val (.int (Int32.ofNat (off + len))), .val (.int p1), .val (.int p2), .val (.int ((3 : Int32) - (1 : Int32))), .val (.int (3 : Int32))] [(.ref b1)])
              refine Go.step (fun t k => XS.iload X188.here hx rfl (hb hby at_270) rfl k) ?_
              show Go _ _ _ _ _ _ _ T188 (mkF m 272 #[.val (.int i0), .val (.int i1), .val (.int i2), .val (.int i3), .val (.int i4), .val (.ref b1), .val (.int zf), .val (.int (Int32.ofNat off)), .val (.int (4 : Int32)), .val (.int (Int32.ofNat (off + len))), .val (.int p1), .val (.int p2), .val (.int ((3 : Int32) - (1 : Int32))), .val (.int (3 : Int32))] [(.int (Int32.ofNat off)), (.ref b1)])
              refine Go.step (fun t k => XS.iload X188.here hx rfl (hb hby at_272) rfl k) ?_
              show Go _ _ _ _ _ _ _ T188 (mkF m 274 #[.val (.int i0), .val (.int i1), .val (.int i2), .val (.int i3), .val (.int i4), .val (.ref b1), .val (.int zf), .val (.int (Int32.ofNat off)), .val (.int (4 : Int32)), .val (.int (Int32.ofNat (off + len))), .val (.int p1), .val (.int p2), .val (.int ((3 : Int32) - (1 : Int32))), .val (.int (3 : Int32))] [(.int (4 : Int32)), (.int (Int32.ofNat off)), (.ref b1)])
              obtain ⟨v22, T22, L22, X22, q22, st22⟩ := c_static X188 hx hZ hown (y := (⟨"com/example/sharks/sharks/StandardBase64", "decodedLength", "([CII)I"⟩ : MethodName)) (hw _ (List.mem_of_getElem? (i := 8) rfl)) (hw _ (List.mem_of_getElem? (i := 9) rfl)) (hw _ (List.mem_of_getElem? (i := 10) rfl)) (hw _ (List.mem_of_getElem? (i := 11) rfl)) (by decide) (argsL := [(.ref b1), (.int (Int32.ofNat off)), (.int (4 : Int32))]) (rest := []) (rmD l Z a0 hw [] b1 off 4 p1 p2 f188 hh188 n0 Z188 ho (by decide) f188_0 (hlen ▸ hf188.1) (hlen ▸ hf188.2)) e188 pd_1 rfl (by rw [hml]; rfl) (W := 0) (by show 2 * 0 + _ ≤ _; exact Nat.le_of_eq rfl) (by decide) (by decide) (by decide) (by decide) (hb hby at_274) (Ls := #[.val (.int i0), .val (.int i1), .val (.int i2), .val (.int i3), .val (.int i4), .val (.ref b1), .val (.int zf), .val (.int (Int32.ofNat off)), .val (.int (4 : Int32)), .val (.int (Int32.ofNat (off + len))), .val (.int p1), .val (.int p2), .val (.int ((3 : Int32) - (1 : Int32))), .val (.int (3 : Int32))])
              obtain ⟨rfl, rfl, e22⟩ := q22
              have N22 := Fr.app N188 (Fr.nil n0)
              refine Go.step (st22) ?_
              show Go _ _ _ _ _ _ _ T22 (mkF m 277 #[.val (.int i0), .val (.int i1), .val (.int i2), .val (.int i3), .val (.int i4), .val (.ref b1), .val (.int zf), .val (.int (Int32.ofNat off)), .val (.int (4 : Int32)), .val (.int (Int32.ofNat (off + len))), .val (.int p1), .val (.int p2), .val (.int ((3 : Int32) - (1 : Int32))), .val (.int (3 : Int32))] [(.int (dl 4 p1 p2))])
              refine Go.step (fun t k => XS.iload X22.here hx rfl (hb hby at_277) rfl k) ?_
              show Go _ _ _ _ _ _ _ T22 (mkF m 279 #[.val (.int i0), .val (.int i1), .val (.int i2), .val (.int i3), .val (.int i4), .val (.ref b1), .val (.int zf), .val (.int (Int32.ofNat off)), .val (.int (4 : Int32)), .val (.int (Int32.ofNat (off + len))), .val (.int p1), .val (.int p2), .val (.int ((3 : Int32) - (1 : Int32))), .val (.int (3 : Int32))] [(.int ((3 : Int32) - (1 : Int32))), (.int (dl 4 p1 p2))])
              refine Go.step (fun t k => XS.icmpNo X22.here hx rfl (hb hby at_279) rfl (teq (by simp only [dl, eq_true c230_19, eq_false c244_20, if_true, if_false]; rfl)).2 k) ?_
              show Go _ _ _ _ _ _ _ T22 (mkF m 282 #[.val (.int i0), .val (.int i1), .val (.int i2), .val (.int i3), .val (.int i4), .val (.ref b1), .val (.int zf), .val (.int (Int32.ofNat off)), .val (.int (4 : Int32)), .val (.int (Int32.ofNat (off + len))), .val (.int p1), .val (.int p2), .val (.int ((3 : Int32) - (1 : Int32))), .val (.int (3 : Int32))] [])
              refine Go.step (fun t k => XS.iconst X22.here hx rfl (hb hby at_282) k) ?_
              show Go _ _ _ _ _ _ _ T22 (mkF m 283 #[.val (.int i0), .val (.int i1), .val (.int i2), .val (.int i3), .val (.int i4), .val (.ref b1), .val (.int zf), .val (.int (Int32.ofNat off)), .val (.int (4 : Int32)), .val (.int (Int32.ofNat (off + len))), .val (.int p1), .val (.int p2), .val (.int ((3 : Int32) - (1 : Int32))), .val (.int (3 : Int32))] [(.int (1 : Int32))])
              refine Go.step (fun t k => XS.goto X22.here hx rfl (pc0 := 283) (pc' := 287) rfl (hb hby at_283) (by decide) (by decide) k) ?_
              show Go _ _ _ _ _ _ _ T22 (mkF m 287 #[.val (.int i0), .val (.int i1), .val (.int i2), .val (.int i3), .val (.int i4), .val (.ref b1), .val (.int zf), .val (.int (Int32.ofNat off)), .val (.int (4 : Int32)), .val (.int (Int32.ofNat (off + len))), .val (.int p1), .val (.int p2), .val (.int ((3 : Int32) - (1 : Int32))), .val (.int (3 : Int32))] [(.int (1 : Int32))])
              refine go_retN X22 hx (t := .boolean) hret (by simp) hlk (hb hby at_287) (w := (1 : Int32)) rfl ?_ (by decide) (by decide)
              try rw [e22]
              exact ⟨rfl, N22⟩
          · refine Go.step (fun t k => XS.icmpNo X188.here hx rfl (hb hby at_230) rfl (feq c230_19).1 k) ?_
            show Go _ _ _ _ _ _ _ T188 (mkF m 233 #[.val (.int i0), .val (.int i1), .val (.int i2), .val (.int i3), .val (.int i4), .val (.ref b1), .val (.int zf), .val (.int (Int32.ofNat off)), .val (.int (4 : Int32)), .val (.int (Int32.ofNat (off + len))), .val (.int p1), .val (.int p2), .unset, .val (.int (3 : Int32))] [])
            refine Go.step (fun t k => XS.iload X188.here hx rfl (hb hby at_233) rfl k) ?_
            show Go _ _ _ _ _ _ _ T188 (mkF m 235 #[.val (.int i0), .val (.int i1), .val (.int i2), .val (.int i3), .val (.int i4), .val (.ref b1), .val (.int zf), .val (.int (Int32.ofNat off)), .val (.int (4 : Int32)), .val (.int (Int32.ofNat (off + len))), .val (.int p1), .val (.int p2), .unset, .val (.int (3 : Int32))] [(.int (3 : Int32))])
            refine Go.step (fun t k => XS.istore X188.here hx rfl (hb hby at_235) rfl (l' := #[.val (.int i0), .val (.int i1), .val (.int i2), .val (.int i3), .val (.int i4), .val (.ref b1), .val (.int zf), .val (.int (Int32.ofNat off)), .val (.int (4 : Int32)), .val (.int (Int32.ofNat (off + len))), .val (.int p1), .val (.int p2), .val (.int (3 : Int32)), .val (.int (3 : Int32))]) rfl k) ?_
            show Go _ _ _ _ _ _ _ T188 (mkF m 237 #[.val (.int i0), .val (.int i1), .val (.int i2), .val (.int i3), .val (.int i4), .val (.ref b1), .val (.int zf), .val (.int (Int32.ofNat off)), .val (.int (4 : Int32)), .val (.int (Int32.ofNat (off + len))), .val (.int p1), .val (.int p2), .val (.int (3 : Int32)), .val (.int (3 : Int32))] [])
            refine Go.step (fun t k => XS.goto X188.here hx rfl (pc0 := 237) (pc' := 262) rfl (hb hby at_237) (by decide) (by decide) k) ?_
            show Go _ _ _ _ _ _ _ T188 (mkF m 262 #[.val (.int i0), .val (.int i1), .val (.int i2), .val (.int i3), .val (.int i4), .val (.ref b1), .val (.int zf), .val (.int (Int32.ofNat off)), .val (.int (4 : Int32)), .val (.int (Int32.ofNat (off + len))), .val (.int p1), .val (.int p2), .val (.int (3 : Int32)), .val (.int (3 : Int32))] [])
            refine Go.step (fun t k => XS.goto X188.here hx rfl (pc0 := 262) (pc' := 268) rfl (hb hby at_262) (by decide) (by decide) k) ?_
            show Go _ _ _ _ _ _ _ T188 (mkF m 268 #[.val (.int i0), .val (.int i1), .val (.int i2), .val (.int i3), .val (.int i4), .val (.ref b1), .val (.int zf), .val (.int (Int32.ofNat off)), .val (.int (4 : Int32)), .val (.int (Int32.ofNat (off + len))), .val (.int p1), .val (.int p2), .val (.int (3 : Int32)), .val (.int (3 : Int32))] [])
            refine Go.step (fun t k => XS.aload X188.here hx rfl (hb hby at_268) rfl rfl k) ?_
            show Go _ _ _ _ _ _ _ T188 (mkF m 270 #[.val (.int i0), .val (.int i1), .val (.int i2), .val (.int i3), .val (.int i4), .val (.ref b1), .val (.int zf), .val (.int (Int32.ofNat off)), .val (.int (4 : Int32)), .val (.int (Int32.ofNat (off + len))), .val (.int p1), .val (.int p2), .val (.int (3 : Int32)), .val (.int (3 : Int32))] [(.ref b1)])
            refine Go.step (fun t k => XS.iload X188.here hx rfl (hb hby at_270) rfl k) ?_
            show Go _ _ _ _ _ _ _ T188 (mkF m 272 #[.val (.int i0), .val (.int i1), .val (.int i2), .val (.int i3), .val (.int i4), .val (.ref b1), .val (.int zf), .val (.int (Int32.ofNat off)), .val (.int (4 : Int32)), .val (.int (Int32.ofNat (off + len))), .val (.int p1), .val (.int p2), .val (.int (3 : Int32)), .val (.int (3 : Int32))] [(.int (Int32.ofNat off)), (.ref b1)])
            refine Go.step (fun t k => XS.iload X188.here hx rfl (hb hby at_272) rfl k) ?_
            show Go _ _ _ _ _ _ _ T188 (mkF m 274 #[.val (.int i0), .val (.int i1), .val (.int i2), .val (.int i3), .val (.int i4), .val (.ref b1), .val (.int zf), .val (.int (Int32.ofNat off)), .val (.int (4 : Int32)), .val (.int (Int32.ofNat (off + len))), .val (.int p1), .val (.int p2), .val (.int (3 : Int32)), .val (.int (3 : Int32))] [(.int (4 : Int32)), (.int (Int32.ofNat off)), (.ref b1)])
            obtain ⟨v23, T23, L23, X23, q23, st23⟩ := c_static X188 hx hZ hown (y := (⟨"com/example/sharks/sharks/StandardBase64", "decodedLength", "([CII)I"⟩ : MethodName)) (hw _ (List.mem_of_getElem? (i := 8) rfl)) (hw _ (List.mem_of_getElem? (i := 9) rfl)) (hw _ (List.mem_of_getElem? (i := 10) rfl)) (hw _ (List.mem_of_getElem? (i := 11) rfl)) (by decide) (argsL := [(.ref b1), (.int (Int32.ofNat off)), (.int (4 : Int32))]) (rest := []) (rmD l Z a0 hw [] b1 off 4 p1 p2 f188 hh188 n0 Z188 ho (by decide) f188_0 (hlen ▸ hf188.1) (hlen ▸ hf188.2)) e188 pd_1 rfl (by rw [hml]; rfl) (W := 0) (by show 2 * 0 + _ ≤ _; exact Nat.le_of_eq rfl) (by decide) (by decide) (by decide) (by decide) (hb hby at_274) (Ls := #[.val (.int i0), .val (.int i1), .val (.int i2), .val (.int i3), .val (.int i4), .val (.ref b1), .val (.int zf), .val (.int (Int32.ofNat off)), .val (.int (4 : Int32)), .val (.int (Int32.ofNat (off + len))), .val (.int p1), .val (.int p2), .val (.int (3 : Int32)), .val (.int (3 : Int32))])
            obtain ⟨rfl, rfl, e23⟩ := q23
            have N23 := Fr.app N188 (Fr.nil n0)
            refine Go.step (st23) ?_
            show Go _ _ _ _ _ _ _ T23 (mkF m 277 #[.val (.int i0), .val (.int i1), .val (.int i2), .val (.int i3), .val (.int i4), .val (.ref b1), .val (.int zf), .val (.int (Int32.ofNat off)), .val (.int (4 : Int32)), .val (.int (Int32.ofNat (off + len))), .val (.int p1), .val (.int p2), .val (.int (3 : Int32)), .val (.int (3 : Int32))] [(.int (dl 4 p1 p2))])
            refine Go.step (fun t k => XS.iload X23.here hx rfl (hb hby at_277) rfl k) ?_
            show Go _ _ _ _ _ _ _ T23 (mkF m 279 #[.val (.int i0), .val (.int i1), .val (.int i2), .val (.int i3), .val (.int i4), .val (.ref b1), .val (.int zf), .val (.int (Int32.ofNat off)), .val (.int (4 : Int32)), .val (.int (Int32.ofNat (off + len))), .val (.int p1), .val (.int p2), .val (.int (3 : Int32)), .val (.int (3 : Int32))] [(.int (3 : Int32)), (.int (dl 4 p1 p2))])
            refine Go.step (fun t k => XS.icmpNo X23.here hx rfl (hb hby at_279) rfl (teq (by simp only [dl, eq_false c230_19, if_true, if_false]; rfl)).2 k) ?_
            show Go _ _ _ _ _ _ _ T23 (mkF m 282 #[.val (.int i0), .val (.int i1), .val (.int i2), .val (.int i3), .val (.int i4), .val (.ref b1), .val (.int zf), .val (.int (Int32.ofNat off)), .val (.int (4 : Int32)), .val (.int (Int32.ofNat (off + len))), .val (.int p1), .val (.int p2), .val (.int (3 : Int32)), .val (.int (3 : Int32))] [])
            refine Go.step (fun t k => XS.iconst X23.here hx rfl (hb hby at_282) k) ?_
            show Go _ _ _ _ _ _ _ T23 (mkF m 283 #[.val (.int i0), .val (.int i1), .val (.int i2), .val (.int i3), .val (.int i4), .val (.ref b1), .val (.int zf), .val (.int (Int32.ofNat off)), .val (.int (4 : Int32)), .val (.int (Int32.ofNat (off + len))), .val (.int p1), .val (.int p2), .val (.int (3 : Int32)), .val (.int (3 : Int32))] [(.int (1 : Int32))])
            refine Go.step (fun t k => XS.goto X23.here hx rfl (pc0 := 283) (pc' := 287) rfl (hb hby at_283) (by decide) (by decide) k) ?_
            show Go _ _ _ _ _ _ _ T23 (mkF m 287 #[.val (.int i0), .val (.int i1), .val (.int i2), .val (.int i3), .val (.int i4), .val (.ref b1), .val (.int zf), .val (.int (Int32.ofNat off)), .val (.int (4 : Int32)), .val (.int (Int32.ofNat (off + len))), .val (.int p1), .val (.int p2), .val (.int (3 : Int32)), .val (.int (3 : Int32))] [(.int (1 : Int32))])
            refine go_retN X23 hx (t := .boolean) hret (by simp) hlk (hb hby at_287) (w := (1 : Int32)) rfl ?_ (by decide) (by decide)
            try rw [e23]
            exact ⟨rfl, N23⟩
        · rw [show Int32.ofNat len = (8 : Int32) from by rw [hlen]; rfl]
          have hf188 := hf188 (by omega)
          show Go _ _ _ _ _ _ _ T188 (mkF m 188 #[.val (.int i0), .val (.int i1), .val (.int i2), .val (.int i3), .val (.int i4), .val (.ref b1), .val (.int zf), .val (.int (Int32.ofNat off)), .val (.int (8 : Int32)), .val (.int (Int32.ofNat (off + len))), .val (.int p1), .val (.int p2), .unset, .unset] [])
          refine Go.step (fun t k => XS.iload X188.here hx rfl (hb hby at_188) rfl k) ?_
          show Go _ _ _ _ _ _ _ T188 (mkF m 190 #[.val (.int i0), .val (.int i1), .val (.int i2), .val (.int i3), .val (.int i4), .val (.ref b1), .val (.int zf), .val (.int (Int32.ofNat off)), .val (.int (8 : Int32)), .val (.int (Int32.ofNat (off + len))), .val (.int p1), .val (.int p2), .unset, .unset] [(.int (8 : Int32))])
          refine Go.step (fun t k => XS.ifYes X188.here hx rfl (pc0 := 190) (pc' := 199) rfl (hb hby at_190) rfl ((if0 _ _).trans (feq (by decide)).2) (by decide) (by decide) k) ?_
          show Go _ _ _ _ _ _ _ T188 (mkF m 199 #[.val (.int i0), .val (.int i1), .val (.int i2), .val (.int i3), .val (.int i4), .val (.ref b1), .val (.int zf), .val (.int (Int32.ofNat off)), .val (.int (8 : Int32)), .val (.int (Int32.ofNat (off + len))), .val (.int p1), .val (.int p2), .unset, .unset] [])
          refine Go.step (fun t k => XS.iload X188.here hx rfl (hb hby at_199) rfl k) ?_
          show Go _ _ _ _ _ _ _ T188 (mkF m 201 #[.val (.int i0), .val (.int i1), .val (.int i2), .val (.int i3), .val (.int i4), .val (.ref b1), .val (.int zf), .val (.int (Int32.ofNat off)), .val (.int (8 : Int32)), .val (.int (Int32.ofNat (off + len))), .val (.int p1), .val (.int p2), .unset, .unset] [(.int (8 : Int32))])
          refine Go.step (fun t k => XS.iconst X188.here hx rfl (hb hby at_201) k) ?_
          show Go _ _ _ _ _ _ _ T188 (mkF m 202 #[.val (.int i0), .val (.int i1), .val (.int i2), .val (.int i3), .val (.int i4), .val (.ref b1), .val (.int zf), .val (.int (Int32.ofNat off)), .val (.int (8 : Int32)), .val (.int (Int32.ofNat (off + len))), .val (.int p1), .val (.int p2), .unset, .unset] [(.int (4 : Int32)), (.int (8 : Int32))])
          refine Go.step (fun t k => XS.icmpNo X188.here hx rfl (hb hby at_202) rfl (feq (by decide)).1 k) ?_
          show Go _ _ _ _ _ _ _ T188 (mkF m 205 #[.val (.int i0), .val (.int i1), .val (.int i2), .val (.int i3), .val (.int i4), .val (.ref b1), .val (.int zf), .val (.int (Int32.ofNat off)), .val (.int (8 : Int32)), .val (.int (Int32.ofNat (off + len))), .val (.int p1), .val (.int p2), .unset, .unset] [])
          refine Go.step (fun t k => XS.iload X188.here hx rfl (hb hby at_205) rfl k) ?_
          show Go _ _ _ _ _ _ _ T188 (mkF m 207 #[.val (.int i0), .val (.int i1), .val (.int i2), .val (.int i3), .val (.int i4), .val (.ref b1), .val (.int zf), .val (.int (Int32.ofNat off)), .val (.int (8 : Int32)), .val (.int (Int32.ofNat (off + len))), .val (.int p1), .val (.int p2), .unset, .unset] [(.int (8 : Int32))])
          refine Go.step (fun t k => XS.bipush X188.here hx rfl (hb hby at_207) k) ?_
          show Go _ _ _ _ _ _ _ T188 (mkF m 209 #[.val (.int i0), .val (.int i1), .val (.int i2), .val (.int i3), .val (.int i4), .val (.ref b1), .val (.int zf), .val (.int (Int32.ofNat off)), .val (.int (8 : Int32)), .val (.int (Int32.ofNat (off + len))), .val (.int p1), .val (.int p2), .unset, .unset] [(.int (8 : Int32)), (.int (8 : Int32))])
          refine Go.step (fun t k => XS.icmpNo X188.here hx rfl (hb hby at_209) rfl (teq (by decide)).2 k) ?_
          show Go _ _ _ _ _ _ _ T188 (mkF m 212 #[.val (.int i0), .val (.int i1), .val (.int i2), .val (.int i3), .val (.int i4), .val (.ref b1), .val (.int zf), .val (.int (Int32.ofNat off)), .val (.int (8 : Int32)), .val (.int (Int32.ofNat (off + len))), .val (.int p1), .val (.int p2), .unset, .unset] [])
          refine Go.step (fun t k => XS.iload X188.here hx rfl (hb hby at_212) rfl k) ?_
          show Go _ _ _ _ _ _ _ T188 (mkF m 214 #[.val (.int i0), .val (.int i1), .val (.int i2), .val (.int i3), .val (.int i4), .val (.ref b1), .val (.int zf), .val (.int (Int32.ofNat off)), .val (.int (8 : Int32)), .val (.int (Int32.ofNat (off + len))), .val (.int p1), .val (.int p2), .unset, .unset] [(.int (8 : Int32))])
          refine Go.step (fun t k => XS.iconst X188.here hx rfl (hb hby at_214) k) ?_
          show Go _ _ _ _ _ _ _ T188 (mkF m 215 #[.val (.int i0), .val (.int i1), .val (.int i2), .val (.int i3), .val (.int i4), .val (.ref b1), .val (.int zf), .val (.int (Int32.ofNat off)), .val (.int (8 : Int32)), .val (.int (Int32.ofNat (off + len))), .val (.int p1), .val (.int p2), .unset, .unset] [(.int (4 : Int32)), (.int (8 : Int32))])
          refine Go.step (fun t k => XS.icmpYes X188.here hx rfl (pc0 := 215) (pc' := 222) rfl (hb hby at_215) rfl (feq (by decide)).2 (by decide) (by decide) k) ?_
          show Go _ _ _ _ _ _ _ T188 (mkF m 222 #[.val (.int i0), .val (.int i1), .val (.int i2), .val (.int i3), .val (.int i4), .val (.ref b1), .val (.int zf), .val (.int (Int32.ofNat off)), .val (.int (8 : Int32)), .val (.int (Int32.ofNat (off + len))), .val (.int p1), .val (.int p2), .unset, .unset] [])
          refine Go.step (fun t k => XS.bipush X188.here hx rfl (hb hby at_222) k) ?_
          show Go _ _ _ _ _ _ _ T188 (mkF m 224 #[.val (.int i0), .val (.int i1), .val (.int i2), .val (.int i3), .val (.int i4), .val (.ref b1), .val (.int zf), .val (.int (Int32.ofNat off)), .val (.int (8 : Int32)), .val (.int (Int32.ofNat (off + len))), .val (.int p1), .val (.int p2), .unset, .unset] [(.int (6 : Int32))])
          refine Go.step (fun t k => XS.istore X188.here hx rfl (hb hby at_224) rfl (l' := #[.val (.int i0), .val (.int i1), .val (.int i2), .val (.int i3), .val (.int i4), .val (.ref b1), .val (.int zf), .val (.int (Int32.ofNat off)), .val (.int (8 : Int32)), .val (.int (Int32.ofNat (off + len))), .val (.int p1), .val (.int p2), .unset, .val (.int (6 : Int32))]) rfl k) ?_
          show Go _ _ _ _ _ _ _ T188 (mkF m 226 #[.val (.int i0), .val (.int i1), .val (.int i2), .val (.int i3), .val (.int i4), .val (.ref b1), .val (.int zf), .val (.int (Int32.ofNat off)), .val (.int (8 : Int32)), .val (.int (Int32.ofNat (off + len))), .val (.int p1), .val (.int p2), .unset, .val (.int (6 : Int32))] [])
          refine Go.step (fun t k => XS.iload X188.here hx rfl (hb hby at_226) rfl k) ?_
          show Go _ _ _ _ _ _ _ T188 (mkF m 228 #[.val (.int i0), .val (.int i1), .val (.int i2), .val (.int i3), .val (.int i4), .val (.ref b1), .val (.int zf), .val (.int (Int32.ofNat off)), .val (.int (8 : Int32)), .val (.int (Int32.ofNat (off + len))), .val (.int p1), .val (.int p2), .unset, .val (.int (6 : Int32))] [(.int p1)])
          refine Go.step (fun t k => XS.bipush X188.here hx rfl (hb hby at_228) k) ?_
          show Go _ _ _ _ _ _ _ T188 (mkF m 230 #[.val (.int i0), .val (.int i1), .val (.int i2), .val (.int i3), .val (.int i4), .val (.ref b1), .val (.int zf), .val (.int (Int32.ofNat off)), .val (.int (8 : Int32)), .val (.int (Int32.ofNat (off + len))), .val (.int p1), .val (.int p2), .unset, .val (.int (6 : Int32))] [(.int (61 : Int32)), (.int p1)])
          by_cases c230_24 : p1 = (61 : Int32)
          · refine Go.step (fun t k => XS.icmpYes X188.here hx rfl (pc0 := 230) (pc' := 240) rfl (hb hby at_230) rfl (teq c230_24).1 (by decide) (by decide) k) ?_
            show Go _ _ _ _ _ _ _ T188 (mkF m 240 #[.val (.int i0), .val (.int i1), .val (.int i2), .val (.int i3), .val (.int i4), .val (.ref b1), .val (.int zf), .val (.int (Int32.ofNat off)), .val (.int (8 : Int32)), .val (.int (Int32.ofNat (off + len))), .val (.int p1), .val (.int p2), .unset, .val (.int (6 : Int32))] [])
            refine Go.step (fun t k => XS.iload X188.here hx rfl (hb hby at_240) rfl k) ?_
            show Go _ _ _ _ _ _ _ T188 (mkF m 242 #[.val (.int i0), .val (.int i1), .val (.int i2), .val (.int i3), .val (.int i4), .val (.ref b1), .val (.int zf), .val (.int (Int32.ofNat off)), .val (.int (8 : Int32)), .val (.int (Int32.ofNat (off + len))), .val (.int p1), .val (.int p2), .unset, .val (.int (6 : Int32))] [(.int p2)])
            refine Go.step (fun t k => XS.bipush X188.here hx rfl (hb hby at_242) k) ?_
            show Go _ _ _ _ _ _ _ T188 (mkF m 244 #[.val (.int i0), .val (.int i1), .val (.int i2), .val (.int i3), .val (.int i4), .val (.ref b1), .val (.int zf), .val (.int (Int32.ofNat off)), .val (.int (8 : Int32)), .val (.int (Int32.ofNat (off + len))), .val (.int p1), .val (.int p2), .unset, .val (.int (6 : Int32))] [(.int (61 : Int32)), (.int p2)])
            by_cases c244_25 : p2 = (61 : Int32)
            · refine Go.step (fun t k => XS.icmpNo X188.here hx rfl (hb hby at_244) rfl (teq c244_25).2 k) ?_
              show Go _ _ _ _ _ _ _ T188 (mkF m 247 #[.val (.int i0), .val (.int i1), .val (.int i2), .val (.int i3), .val (.int i4), .val (.ref b1), .val (.int zf), .val (.int (Int32.ofNat off)), .val (.int (8 : Int32)), .val (.int (Int32.ofNat (off + len))), .val (.int p1), .val (.int p2), .unset, .val (.int (6 : Int32))] [])
              refine Go.step (fun t k => XS.iload X188.here hx rfl (hb hby at_247) rfl k) ?_
              show Go _ _ _ _ _ _ _ T188 (mkF m 249 #[.val (.int i0), .val (.int i1), .val (.int i2), .val (.int i3), .val (.int i4), .val (.ref b1), .val (.int zf), .val (.int (Int32.ofNat off)), .val (.int (8 : Int32)), .val (.int (Int32.ofNat (off + len))), .val (.int p1), .val (.int p2), .unset, .val (.int (6 : Int32))] [(.int (6 : Int32))])
              refine Go.step (fun t k => XS.iconst X188.here hx rfl (hb hby at_249) k) ?_
              show Go _ _ _ _ _ _ _ T188 (mkF m 250 #[.val (.int i0), .val (.int i1), .val (.int i2), .val (.int i3), .val (.int i4), .val (.ref b1), .val (.int zf), .val (.int (Int32.ofNat off)), .val (.int (8 : Int32)), .val (.int (Int32.ofNat (off + len))), .val (.int p1), .val (.int p2), .unset, .val (.int (6 : Int32))] [(.int (2 : Int32)), (.int (6 : Int32))])
              refine Go.step (fun t k => XS.isub X188.here hx rfl (hb hby at_250) rfl k) ?_
              show Go _ _ _ _ _ _ _ T188 (mkF m 251 #[.val (.int i0), .val (.int i1), .val (.int i2), .val (.int i3), .val (.int i4), .val (.ref b1), .val (.int zf), .val (.int (Int32.ofNat off)), .val (.int (8 : Int32)), .val (.int (Int32.ofNat (off + len))), .val (.int p1), .val (.int p2), .unset, .val (.int (6 : Int32))] [(.int ((6 : Int32) - (2 : Int32)))])
              refine Go.step (fun t k => XS.istore X188.here hx rfl (hb hby at_251) rfl (l' := #[.val (.int i0), .val (.int i1), .val (.int i2), .val (.int i3), .val (.int i4), .val (.ref b1), .val (.int zf), .val (.int (Int32.ofNat off)), .val (.int (8 : Int32)), .val (.int (Int32.ofNat (off + len))), .val (.int p1), .val (.int p2), .val (.int ((6 : Int32) - (2 : Int32))), .val (.int (6 : Int32))]) rfl k) ?_
              show Go _ _ _ _ _ _ _ T188 (mkF m 253 #[.val (.int i0), .val (.int i1), .val (.int i2), .val (.int i3), .val (.int i4), .val (.ref b1), .val (.int zf), .val (.int (Int32.ofNat off)), .val (.int (8 : Int32)), .val (.int (Int32.ofNat (off + len))), .val (.int p1), .val (.int p2), .val (.int ((6 : Int32) - (2 : Int32))), .val (.int (6 : Int32))] [])
              refine Go.step (fun t k => XS.goto X188.here hx rfl (pc0 := 253) (pc' := 262) rfl (hb hby at_253) (by decide) (by decide) k) ?_
              show Go _ _ _ _ _ _ _ T188 (mkF m 262 #[.val (.int i0), .val (.int i1), .val (.int i2), .val (.int i3), .val (.int i4), .val (.ref b1), .val (.int zf), .val (.int (Int32.ofNat off)), .val (.int (8 : Int32)), .val (.int (Int32.ofNat (off + len))), .val (.int p1), .val (.int p2), .val (.int ((6 : Int32) - (2 : Int32))), .val (.int (6 : Int32))] [])
              refine Go.step (fun t k => XS.goto X188.here hx rfl (pc0 := 262) (pc' := 268) rfl (hb hby at_262) (by decide) (by decide) k) ?_
              show Go _ _ _ _ _ _ _ T188 (mkF m 268 #[.val (.int i0), .val (.int i1), .val (.int i2), .val (.int i3), .val (.int i4), .val (.ref b1), .val (.int zf), .val (.int (Int32.ofNat off)), .val (.int (8 : Int32)), .val (.int (Int32.ofNat (off + len))), .val (.int p1), .val (.int p2), .val (.int ((6 : Int32) - (2 : Int32))), .val (.int (6 : Int32))] [])
              refine Go.step (fun t k => XS.aload X188.here hx rfl (hb hby at_268) rfl rfl k) ?_
              show Go _ _ _ _ _ _ _ T188 (mkF m 270 #[.val (.int i0), .val (.int i1), .val (.int i2), .val (.int i3), .val (.int i4), .val (.ref b1), .val (.int zf), .val (.int (Int32.ofNat off)), .val (.int (8 : Int32)), .val (.int (Int32.ofNat (off + len))), .val (.int p1), .val (.int p2), .val (.int ((6 : Int32) - (2 : Int32))), .val (.int (6 : Int32))] [(.ref b1)])
              refine Go.step (fun t k => XS.iload X188.here hx rfl (hb hby at_270) rfl k) ?_
              show Go _ _ _ _ _ _ _ T188 (mkF m 272 #[.val (.int i0), .val (.int i1), .val (.int i2), .val (.int i3), .val (.int i4), .val (.ref b1), .val (.int zf), .val (.int (Int32.ofNat off)), .val (.int (8 : Int32)), .val (.int (Int32.ofNat (off + len))), .val (.int p1), .val (.int p2), .val (.int ((6 : Int32) - (2 : Int32))), .val (.int (6 : Int32))] [(.int (Int32.ofNat off)), (.ref b1)])
              refine Go.step (fun t k => XS.iload X188.here hx rfl (hb hby at_272) rfl k) ?_
              show Go _ _ _ _ _ _ _ T188 (mkF m 274 #[.val (.int i0), .val (.int i1), .val (.int i2), .val (.int i3), .val (.int i4), .val (.ref b1), .val (.int zf), .val (.int (Int32.ofNat off)), .val (.int (8 : Int32)), .val (.int (Int32.ofNat (off + len))), .val (.int p1), .val (.int p2), .val (.int ((6 : Int32) - (2 : Int32))), .val (.int (6 : Int32))] [(.int (8 : Int32)), (.int (Int32.ofNat off)), (.ref b1)])
              obtain ⟨v26, T26, L26, X26, q26, st26⟩ := c_static X188 hx hZ hown (y := (⟨"com/example/sharks/sharks/StandardBase64", "decodedLength", "([CII)I"⟩ : MethodName)) (hw _ (List.mem_of_getElem? (i := 8) rfl)) (hw _ (List.mem_of_getElem? (i := 9) rfl)) (hw _ (List.mem_of_getElem? (i := 10) rfl)) (hw _ (List.mem_of_getElem? (i := 11) rfl)) (by decide) (argsL := [(.ref b1), (.int (Int32.ofNat off)), (.int (8 : Int32))]) (rest := []) (rmD l Z a0 hw [] b1 off 8 p1 p2 f188 hh188 n0 Z188 ho (by decide) f188_0 (hlen ▸ hf188.1) (hlen ▸ hf188.2)) e188 pd_1 rfl (by rw [hml]; rfl) (W := 0) (by show 2 * 0 + _ ≤ _; exact Nat.le_of_eq rfl) (by decide) (by decide) (by decide) (by decide) (hb hby at_274) (Ls := #[.val (.int i0), .val (.int i1), .val (.int i2), .val (.int i3), .val (.int i4), .val (.ref b1), .val (.int zf), .val (.int (Int32.ofNat off)), .val (.int (8 : Int32)), .val (.int (Int32.ofNat (off + len))), .val (.int p1), .val (.int p2), .val (.int ((6 : Int32) - (2 : Int32))), .val (.int (6 : Int32))])
              obtain ⟨rfl, rfl, e26⟩ := q26
              have N26 := Fr.app N188 (Fr.nil n0)
              refine Go.step (st26) ?_
              show Go _ _ _ _ _ _ _ T26 (mkF m 277 #[.val (.int i0), .val (.int i1), .val (.int i2), .val (.int i3), .val (.int i4), .val (.ref b1), .val (.int zf), .val (.int (Int32.ofNat off)), .val (.int (8 : Int32)), .val (.int (Int32.ofNat (off + len))), .val (.int p1), .val (.int p2), .val (.int ((6 : Int32) - (2 : Int32))), .val (.int (6 : Int32))] [(.int (dl 8 p1 p2))])
              refine Go.step (fun t k => XS.iload X26.here hx rfl (hb hby at_277) rfl k) ?_
              show Go _ _ _ _ _ _ _ T26 (mkF m 279 #[.val (.int i0), .val (.int i1), .val (.int i2), .val (.int i3), .val (.int i4), .val (.ref b1), .val (.int zf), .val (.int (Int32.ofNat off)), .val (.int (8 : Int32)), .val (.int (Int32.ofNat (off + len))), .val (.int p1), .val (.int p2), .val (.int ((6 : Int32) - (2 : Int32))), .val (.int (6 : Int32))] [(.int ((6 : Int32) - (2 : Int32))), (.int (dl 8 p1 p2))])
              refine Go.step (fun t k => XS.icmpNo X26.here hx rfl (hb hby at_279) rfl (teq (by simp only [dl, eq_true c230_24, eq_true c244_25, if_true, if_false]; rfl)).2 k) ?_
              show Go _ _ _ _ _ _ _ T26 (mkF m 282 #[.val (.int i0), .val (.int i1), .val (.int i2), .val (.int i3), .val (.int i4), .val (.ref b1), .val (.int zf), .val (.int (Int32.ofNat off)), .val (.int (8 : Int32)), .val (.int (Int32.ofNat (off + len))), .val (.int p1), .val (.int p2), .val (.int ((6 : Int32) - (2 : Int32))), .val (.int (6 : Int32))] [])
              refine Go.step (fun t k => XS.iconst X26.here hx rfl (hb hby at_282) k) ?_
              show Go _ _ _ _ _ _ _ T26 (mkF m 283 #[.val (.int i0), .val (.int i1), .val (.int i2), .val (.int i3), .val (.int i4), .val (.ref b1), .val (.int zf), .val (.int (Int32.ofNat off)), .val (.int (8 : Int32)), .val (.int (Int32.ofNat (off + len))), .val (.int p1), .val (.int p2), .val (.int ((6 : Int32) - (2 : Int32))), .val (.int (6 : Int32))] [(.int (1 : Int32))])
              refine Go.step (fun t k => XS.goto X26.here hx rfl (pc0 := 283) (pc' := 287) rfl (hb hby at_283) (by decide) (by decide) k) ?_
              show Go _ _ _ _ _ _ _ T26 (mkF m 287 #[.val (.int i0), .val (.int i1), .val (.int i2), .val (.int i3), .val (.int i4), .val (.ref b1), .val (.int zf), .val (.int (Int32.ofNat off)), .val (.int (8 : Int32)), .val (.int (Int32.ofNat (off + len))), .val (.int p1), .val (.int p2), .val (.int ((6 : Int32) - (2 : Int32))), .val (.int (6 : Int32))] [(.int (1 : Int32))])
              refine go_retN X26 hx (t := .boolean) hret (by simp) hlk (hb hby at_287) (w := (1 : Int32)) rfl ?_ (by decide) (by decide)
              try rw [e26]
              exact ⟨rfl, N26⟩
            · refine Go.step (fun t k => XS.icmpYes X188.here hx rfl (pc0 := 244) (pc' := 256) rfl (hb hby at_244) rfl (feq c244_25).2 (by decide) (by decide) k) ?_
              show Go _ _ _ _ _ _ _ T188 (mkF m 256 #[.val (.int i0), .val (.int i1), .val (.int i2), .val (.int i3), .val (.int i4), .val (.ref b1), .val (.int zf), .val (.int (Int32.ofNat off)), .val (.int (8 : Int32)), .val (.int (Int32.ofNat (off + len))), .val (.int p1), .val (.int p2), .unset, .val (.int (6 : Int32))] [])
              refine Go.step (fun t k => XS.iload X188.here hx rfl (hb hby at_256) rfl k) ?_
              show Go _ _ _ _ _ _ _ T188 (mkF m 258 #[.val (.int i0), .val (.int i1), .val (.int i2), .val (.int i3), .val (.int i4), .val (.ref b1), .val (.int zf), .val (.int (Int32.ofNat off)), .val (.int (8 : Int32)), .val (.int (Int32.ofNat (off + len))), .val (.int p1), .val (.int p2), .unset, .val (.int (6 : Int32))] [(.int (6 : Int32))])
              refine Go.step (fun t k => XS.iconst X188.here hx rfl (hb hby at_258) k) ?_
              show Go _ _ _ _ _ _ _ T188 (mkF m 259 #[.val (.int i0), .val (.int i1), .val (.int i2), .val (.int i3), .val (.int i4), .val (.ref b1), .val (.int zf), .val (.int (Int32.ofNat off)), .val (.int (8 : Int32)), .val (.int (Int32.ofNat (off + len))), .val (.int p1), .val (.int p2), .unset, .val (.int (6 : Int32))] [(.int (1 : Int32)), (.int (6 : Int32))])
              refine Go.step (fun t k => XS.isub X188.here hx rfl (hb hby at_259) rfl k) ?_
              show Go _ _ _ _ _ _ _ T188 (mkF m 260 #[.val (.int i0), .val (.int i1), .val (.int i2), .val (.int i3), .val (.int i4), .val (.ref b1), .val (.int zf), .val (.int (Int32.ofNat off)), .val (.int (8 : Int32)), .val (.int (Int32.ofNat (off + len))), .val (.int p1), .val (.int p2), .unset, .val (.int (6 : Int32))] [(.int ((6 : Int32) - (1 : Int32)))])
              refine Go.step (fun t k => XS.istore X188.here hx rfl (hb hby at_260) rfl (l' := #[.val (.int i0), .val (.int i1), .val (.int i2), .val (.int i3), .val (.int i4), .val (.ref b1), .val (.int zf), .val (.int (Int32.ofNat off)), .val (.int (8 : Int32)), .val (.int (Int32.ofNat (off + len))), .val (.int p1), .val (.int p2), .val (.int ((6 : Int32) - (1 : Int32))), .val (.int (6 : Int32))]) rfl k) ?_
              show Go _ _ _ _ _ _ _ T188 (mkF m 262 #[.val (.int i0), .val (.int i1), .val (.int i2), .val (.int i3), .val (.int i4), .val (.ref b1), .val (.int zf), .val (.int (Int32.ofNat off)), .val (.int (8 : Int32)), .val (.int (Int32.ofNat (off + len))), .val (.int p1), .val (.int p2), .val (.int ((6 : Int32) - (1 : Int32))), .val (.int (6 : Int32))] [])
              refine Go.step (fun t k => XS.goto X188.here hx rfl (pc0 := 262) (pc' := 268) rfl (hb hby at_262) (by decide) (by decide) k) ?_
              show Go _ _ _ _ _ _ _ T188 (mkF m 268 #[.val (.int i0), .val (.int i1), .val (.int i2), .val (.int i3), .val (.int i4), .val (.ref b1), .val (.int zf), .val (.int (Int32.ofNat off)), .val (.int (8 : Int32)), .val (.int (Int32.ofNat (off + len))), .val (.int p1), .val (.int p2), .val (.int ((6 : Int32) - (1 : Int32))), .val (.int (6 : Int32))] [])
              refine Go.step (fun t k => XS.aload X188.here hx rfl (hb hby at_268) rfl rfl k) ?_
              show Go _ _ _ _ _ _ _ T188 (mkF m 270 #[.val (.int i0), .val (.int i1), .val (.int i2), .val (.int i3), .val (.int i4), .val (.ref b1), .val (.int zf), .val (.int (Int32.ofNat off)), .val (.int (8 : Int32)), .val (.int (Int32.ofNat (off + len))), .val (.int p1), .val (.int p2), .val (.int ((6 : Int32) - (1 : Int32))), .val (.int (6 : Int32))] [(.ref b1)])
              refine Go.step (fun t k => XS.iload X188.here hx rfl (hb hby at_270) rfl k) ?_
              show Go _ _ _ _ _ _ _ T188 (mkF m 272 #[.val (.int i0), .val (.int i1), .val (.int i2), .val (.int i3), .val (.int i4), .val (.ref b1), .val (.int zf), .val (.int (Int32.ofNat off)), .val (.int (8 : Int32)), .val (.int (Int32.ofNat (off + len))), .val (.int p1), .val (.int p2), .val (.int ((6 : Int32) - (1 : Int32))), .val (.int (6 : Int32))] [(.int (Int32.ofNat off)), (.ref b1)])
              refine Go.step (fun t k => XS.iload X188.here hx rfl (hb hby at_272) rfl k) ?_
              show Go _ _ _ _ _ _ _ T188 (mkF m 274 #[.val (.int i0), .val (.int i1), .val (.int i2), .val (.int i3), .val (.int i4), .val (.ref b1), .val (.int zf), .val (.int (Int32.ofNat off)), .val (.int (8 : Int32)), .val (.int (Int32.ofNat (off + len))), .val (.int p1), .val (.int p2), .val (.int ((6 : Int32) - (1 : Int32))), .val (.int (6 : Int32))] [(.int (8 : Int32)), (.int (Int32.ofNat off)), (.ref b1)])
              obtain ⟨v27, T27, L27, X27, q27, st27⟩ := c_static X188 hx hZ hown (y := (⟨"com/example/sharks/sharks/StandardBase64", "decodedLength", "([CII)I"⟩ : MethodName)) (hw _ (List.mem_of_getElem? (i := 8) rfl)) (hw _ (List.mem_of_getElem? (i := 9) rfl)) (hw _ (List.mem_of_getElem? (i := 10) rfl)) (hw _ (List.mem_of_getElem? (i := 11) rfl)) (by decide) (argsL := [(.ref b1), (.int (Int32.ofNat off)), (.int (8 : Int32))]) (rest := []) (rmD l Z a0 hw [] b1 off 8 p1 p2 f188 hh188 n0 Z188 ho (by decide) f188_0 (hlen ▸ hf188.1) (hlen ▸ hf188.2)) e188 pd_1 rfl (by rw [hml]; rfl) (W := 0) (by show 2 * 0 + _ ≤ _; exact Nat.le_of_eq rfl) (by decide) (by decide) (by decide) (by decide) (hb hby at_274) (Ls := #[.val (.int i0), .val (.int i1), .val (.int i2), .val (.int i3), .val (.int i4), .val (.ref b1), .val (.int zf), .val (.int (Int32.ofNat off)), .val (.int (8 : Int32)), .val (.int (Int32.ofNat (off + len))), .val (.int p1), .val (.int p2), .val (.int ((6 : Int32) - (1 : Int32))), .val (.int (6 : Int32))])
              obtain ⟨rfl, rfl, e27⟩ := q27
              have N27 := Fr.app N188 (Fr.nil n0)
              refine Go.step (st27) ?_
              show Go _ _ _ _ _ _ _ T27 (mkF m 277 #[.val (.int i0), .val (.int i1), .val (.int i2), .val (.int i3), .val (.int i4), .val (.ref b1), .val (.int zf), .val (.int (Int32.ofNat off)), .val (.int (8 : Int32)), .val (.int (Int32.ofNat (off + len))), .val (.int p1), .val (.int p2), .val (.int ((6 : Int32) - (1 : Int32))), .val (.int (6 : Int32))] [(.int (dl 8 p1 p2))])
              refine Go.step (fun t k => XS.iload X27.here hx rfl (hb hby at_277) rfl k) ?_
              show Go _ _ _ _ _ _ _ T27 (mkF m 279 #[.val (.int i0), .val (.int i1), .val (.int i2), .val (.int i3), .val (.int i4), .val (.ref b1), .val (.int zf), .val (.int (Int32.ofNat off)), .val (.int (8 : Int32)), .val (.int (Int32.ofNat (off + len))), .val (.int p1), .val (.int p2), .val (.int ((6 : Int32) - (1 : Int32))), .val (.int (6 : Int32))] [(.int ((6 : Int32) - (1 : Int32))), (.int (dl 8 p1 p2))])
              refine Go.step (fun t k => XS.icmpNo X27.here hx rfl (hb hby at_279) rfl (teq (by simp only [dl, eq_true c230_24, eq_false c244_25, if_true, if_false]; rfl)).2 k) ?_
              show Go _ _ _ _ _ _ _ T27 (mkF m 282 #[.val (.int i0), .val (.int i1), .val (.int i2), .val (.int i3), .val (.int i4), .val (.ref b1), .val (.int zf), .val (.int (Int32.ofNat off)), .val (.int (8 : Int32)), .val (.int (Int32.ofNat (off + len))), .val (.int p1), .val (.int p2), .val (.int ((6 : Int32) - (1 : Int32))), .val (.int (6 : Int32))] [])
              refine Go.step (fun t k => XS.iconst X27.here hx rfl (hb hby at_282) k) ?_
              show Go _ _ _ _ _ _ _ T27 (mkF m 283 #[.val (.int i0), .val (.int i1), .val (.int i2), .val (.int i3), .val (.int i4), .val (.ref b1), .val (.int zf), .val (.int (Int32.ofNat off)), .val (.int (8 : Int32)), .val (.int (Int32.ofNat (off + len))), .val (.int p1), .val (.int p2), .val (.int ((6 : Int32) - (1 : Int32))), .val (.int (6 : Int32))] [(.int (1 : Int32))])
              refine Go.step (fun t k => XS.goto X27.here hx rfl (pc0 := 283) (pc' := 287) rfl (hb hby at_283) (by decide) (by decide) k) ?_
              show Go _ _ _ _ _ _ _ T27 (mkF m 287 #[.val (.int i0), .val (.int i1), .val (.int i2), .val (.int i3), .val (.int i4), .val (.ref b1), .val (.int zf), .val (.int (Int32.ofNat off)), .val (.int (8 : Int32)), .val (.int (Int32.ofNat (off + len))), .val (.int p1), .val (.int p2), .val (.int ((6 : Int32) - (1 : Int32))), .val (.int (6 : Int32))] [(.int (1 : Int32))])
              refine go_retN X27 hx (t := .boolean) hret (by simp) hlk (hb hby at_287) (w := (1 : Int32)) rfl ?_ (by decide) (by decide)
              try rw [e27]
              exact ⟨rfl, N27⟩
          · refine Go.step (fun t k => XS.icmpNo X188.here hx rfl (hb hby at_230) rfl (feq c230_24).1 k) ?_
            show Go _ _ _ _ _ _ _ T188 (mkF m 233 #[.val (.int i0), .val (.int i1), .val (.int i2), .val (.int i3), .val (.int i4), .val (.ref b1), .val (.int zf), .val (.int (Int32.ofNat off)), .val (.int (8 : Int32)), .val (.int (Int32.ofNat (off + len))), .val (.int p1), .val (.int p2), .unset, .val (.int (6 : Int32))] [])
            refine Go.step (fun t k => XS.iload X188.here hx rfl (hb hby at_233) rfl k) ?_
            show Go _ _ _ _ _ _ _ T188 (mkF m 235 #[.val (.int i0), .val (.int i1), .val (.int i2), .val (.int i3), .val (.int i4), .val (.ref b1), .val (.int zf), .val (.int (Int32.ofNat off)), .val (.int (8 : Int32)), .val (.int (Int32.ofNat (off + len))), .val (.int p1), .val (.int p2), .unset, .val (.int (6 : Int32))] [(.int (6 : Int32))])
            refine Go.step (fun t k => XS.istore X188.here hx rfl (hb hby at_235) rfl (l' := #[.val (.int i0), .val (.int i1), .val (.int i2), .val (.int i3), .val (.int i4), .val (.ref b1), .val (.int zf), .val (.int (Int32.ofNat off)), .val (.int (8 : Int32)), .val (.int (Int32.ofNat (off + len))), .val (.int p1), .val (.int p2), .val (.int (6 : Int32)), .val (.int (6 : Int32))]) rfl k) ?_
            show Go _ _ _ _ _ _ _ T188 (mkF m 237 #[.val (.int i0), .val (.int i1), .val (.int i2), .val (.int i3), .val (.int i4), .val (.ref b1), .val (.int zf), .val (.int (Int32.ofNat off)), .val (.int (8 : Int32)), .val (.int (Int32.ofNat (off + len))), .val (.int p1), .val (.int p2), .val (.int (6 : Int32)), .val (.int (6 : Int32))] [])
            refine Go.step (fun t k => XS.goto X188.here hx rfl (pc0 := 237) (pc' := 262) rfl (hb hby at_237) (by decide) (by decide) k) ?_
            show Go _ _ _ _ _ _ _ T188 (mkF m 262 #[.val (.int i0), .val (.int i1), .val (.int i2), .val (.int i3), .val (.int i4), .val (.ref b1), .val (.int zf), .val (.int (Int32.ofNat off)), .val (.int (8 : Int32)), .val (.int (Int32.ofNat (off + len))), .val (.int p1), .val (.int p2), .val (.int (6 : Int32)), .val (.int (6 : Int32))] [])
            refine Go.step (fun t k => XS.goto X188.here hx rfl (pc0 := 262) (pc' := 268) rfl (hb hby at_262) (by decide) (by decide) k) ?_
            show Go _ _ _ _ _ _ _ T188 (mkF m 268 #[.val (.int i0), .val (.int i1), .val (.int i2), .val (.int i3), .val (.int i4), .val (.ref b1), .val (.int zf), .val (.int (Int32.ofNat off)), .val (.int (8 : Int32)), .val (.int (Int32.ofNat (off + len))), .val (.int p1), .val (.int p2), .val (.int (6 : Int32)), .val (.int (6 : Int32))] [])
            refine Go.step (fun t k => XS.aload X188.here hx rfl (hb hby at_268) rfl rfl k) ?_
            show Go _ _ _ _ _ _ _ T188 (mkF m 270 #[.val (.int i0), .val (.int i1), .val (.int i2), .val (.int i3), .val (.int i4), .val (.ref b1), .val (.int zf), .val (.int (Int32.ofNat off)), .val (.int (8 : Int32)), .val (.int (Int32.ofNat (off + len))), .val (.int p1), .val (.int p2), .val (.int (6 : Int32)), .val (.int (6 : Int32))] [(.ref b1)])
            refine Go.step (fun t k => XS.iload X188.here hx rfl (hb hby at_270) rfl k) ?_
            show Go _ _ _ _ _ _ _ T188 (mkF m 272 #[.val (.int i0), .val (.int i1), .val (.int i2), .val (.int i3), .val (.int i4), .val (.ref b1), .val (.int zf), .val (.int (Int32.ofNat off)), .val (.int (8 : Int32)), .val (.int (Int32.ofNat (off + len))), .val (.int p1), .val (.int p2), .val (.int (6 : Int32)), .val (.int (6 : Int32))] [(.int (Int32.ofNat off)), (.ref b1)])
            refine Go.step (fun t k => XS.iload X188.here hx rfl (hb hby at_272) rfl k) ?_
            show Go _ _ _ _ _ _ _ T188 (mkF m 274 #[.val (.int i0), .val (.int i1), .val (.int i2), .val (.int i3), .val (.int i4), .val (.ref b1), .val (.int zf), .val (.int (Int32.ofNat off)), .val (.int (8 : Int32)), .val (.int (Int32.ofNat (off + len))), .val (.int p1), .val (.int p2), .val (.int (6 : Int32)), .val (.int (6 : Int32))] [(.int (8 : Int32)), (.int (Int32.ofNat off)), (.ref b1)])
            obtain ⟨v28, T28, L28, X28, q28, st28⟩ := c_static X188 hx hZ hown (y := (⟨"com/example/sharks/sharks/StandardBase64", "decodedLength", "([CII)I"⟩ : MethodName)) (hw _ (List.mem_of_getElem? (i := 8) rfl)) (hw _ (List.mem_of_getElem? (i := 9) rfl)) (hw _ (List.mem_of_getElem? (i := 10) rfl)) (hw _ (List.mem_of_getElem? (i := 11) rfl)) (by decide) (argsL := [(.ref b1), (.int (Int32.ofNat off)), (.int (8 : Int32))]) (rest := []) (rmD l Z a0 hw [] b1 off 8 p1 p2 f188 hh188 n0 Z188 ho (by decide) f188_0 (hlen ▸ hf188.1) (hlen ▸ hf188.2)) e188 pd_1 rfl (by rw [hml]; rfl) (W := 0) (by show 2 * 0 + _ ≤ _; exact Nat.le_of_eq rfl) (by decide) (by decide) (by decide) (by decide) (hb hby at_274) (Ls := #[.val (.int i0), .val (.int i1), .val (.int i2), .val (.int i3), .val (.int i4), .val (.ref b1), .val (.int zf), .val (.int (Int32.ofNat off)), .val (.int (8 : Int32)), .val (.int (Int32.ofNat (off + len))), .val (.int p1), .val (.int p2), .val (.int (6 : Int32)), .val (.int (6 : Int32))])
            obtain ⟨rfl, rfl, e28⟩ := q28
            have N28 := Fr.app N188 (Fr.nil n0)
            refine Go.step (st28) ?_
            show Go _ _ _ _ _ _ _ T28 (mkF m 277 #[.val (.int i0), .val (.int i1), .val (.int i2), .val (.int i3), .val (.int i4), .val (.ref b1), .val (.int zf), .val (.int (Int32.ofNat off)), .val (.int (8 : Int32)), .val (.int (Int32.ofNat (off + len))), .val (.int p1), .val (.int p2), .val (.int (6 : Int32)), .val (.int (6 : Int32))] [(.int (dl 8 p1 p2))])
            refine Go.step (fun t k => XS.iload X28.here hx rfl (hb hby at_277) rfl k) ?_
            show Go _ _ _ _ _ _ _ T28 (mkF m 279 #[.val (.int i0), .val (.int i1), .val (.int i2), .val (.int i3), .val (.int i4), .val (.ref b1), .val (.int zf), .val (.int (Int32.ofNat off)), .val (.int (8 : Int32)), .val (.int (Int32.ofNat (off + len))), .val (.int p1), .val (.int p2), .val (.int (6 : Int32)), .val (.int (6 : Int32))] [(.int (6 : Int32)), (.int (dl 8 p1 p2))])
            refine Go.step (fun t k => XS.icmpNo X28.here hx rfl (hb hby at_279) rfl (teq (by simp only [dl, eq_false c230_24, if_true, if_false]; rfl)).2 k) ?_
            show Go _ _ _ _ _ _ _ T28 (mkF m 282 #[.val (.int i0), .val (.int i1), .val (.int i2), .val (.int i3), .val (.int i4), .val (.ref b1), .val (.int zf), .val (.int (Int32.ofNat off)), .val (.int (8 : Int32)), .val (.int (Int32.ofNat (off + len))), .val (.int p1), .val (.int p2), .val (.int (6 : Int32)), .val (.int (6 : Int32))] [])
            refine Go.step (fun t k => XS.iconst X28.here hx rfl (hb hby at_282) k) ?_
            show Go _ _ _ _ _ _ _ T28 (mkF m 283 #[.val (.int i0), .val (.int i1), .val (.int i2), .val (.int i3), .val (.int i4), .val (.ref b1), .val (.int zf), .val (.int (Int32.ofNat off)), .val (.int (8 : Int32)), .val (.int (Int32.ofNat (off + len))), .val (.int p1), .val (.int p2), .val (.int (6 : Int32)), .val (.int (6 : Int32))] [(.int (1 : Int32))])
            refine Go.step (fun t k => XS.goto X28.here hx rfl (pc0 := 283) (pc' := 287) rfl (hb hby at_283) (by decide) (by decide) k) ?_
            show Go _ _ _ _ _ _ _ T28 (mkF m 287 #[.val (.int i0), .val (.int i1), .val (.int i2), .val (.int i3), .val (.int i4), .val (.ref b1), .val (.int zf), .val (.int (Int32.ofNat off)), .val (.int (8 : Int32)), .val (.int (Int32.ofNat (off + len))), .val (.int p1), .val (.int p2), .val (.int (6 : Int32)), .val (.int (6 : Int32))] [(.int (1 : Int32))])
            refine go_retN X28 hx (t := .boolean) hret (by simp) hlk (hb hby at_287) (w := (1 : Int32)) rfl ?_ (by decide) (by decide)
            try rw [e28]
            exact ⟨rfl, N28⟩
        · show Go _ _ _ _ _ _ _ T188 (mkF m 188 #[.val (.int i0), .val (.int i1), .val (.int i2), .val (.int i3), .val (.int i4), .val (.ref b1), .val (.int zf), .val (.int (Int32.ofNat off)), .val (.int (Int32.ofNat len)), .val (.int (Int32.ofNat (off + len))), .val (.int p1), .val (.int p2), .unset, .unset] [])
          refine Go.step (fun t k => XS.iload X188.here hx rfl (hb hby at_188) rfl k) ?_
          show Go _ _ _ _ _ _ _ T188 (mkF m 190 #[.val (.int i0), .val (.int i1), .val (.int i2), .val (.int i3), .val (.int i4), .val (.ref b1), .val (.int zf), .val (.int (Int32.ofNat off)), .val (.int (Int32.ofNat len)), .val (.int (Int32.ofNat (off + len))), .val (.int p1), .val (.int p2), .unset, .unset] [(.int (Int32.ofNat len))])
          refine Go.step (fun t k => XS.ifYes X188.here hx rfl (pc0 := 190) (pc' := 199) rfl (hb hby at_190) rfl ((if0 _ _).trans (feq (mt (own_eq len 0 (by omega) (by omega)).mp hlen.1)).2) (by decide) (by decide) k) ?_
          show Go _ _ _ _ _ _ _ T188 (mkF m 199 #[.val (.int i0), .val (.int i1), .val (.int i2), .val (.int i3), .val (.int i4), .val (.ref b1), .val (.int zf), .val (.int (Int32.ofNat off)), .val (.int (Int32.ofNat len)), .val (.int (Int32.ofNat (off + len))), .val (.int p1), .val (.int p2), .unset, .unset] [])
          refine Go.step (fun t k => XS.iload X188.here hx rfl (hb hby at_199) rfl k) ?_
          show Go _ _ _ _ _ _ _ T188 (mkF m 201 #[.val (.int i0), .val (.int i1), .val (.int i2), .val (.int i3), .val (.int i4), .val (.ref b1), .val (.int zf), .val (.int (Int32.ofNat off)), .val (.int (Int32.ofNat len)), .val (.int (Int32.ofNat (off + len))), .val (.int p1), .val (.int p2), .unset, .unset] [(.int (Int32.ofNat len))])
          refine Go.step (fun t k => XS.iconst X188.here hx rfl (hb hby at_201) k) ?_
          show Go _ _ _ _ _ _ _ T188 (mkF m 202 #[.val (.int i0), .val (.int i1), .val (.int i2), .val (.int i3), .val (.int i4), .val (.ref b1), .val (.int zf), .val (.int (Int32.ofNat off)), .val (.int (Int32.ofNat len)), .val (.int (Int32.ofNat (off + len))), .val (.int p1), .val (.int p2), .unset, .unset] [(.int (4 : Int32)), (.int (Int32.ofNat len))])
          refine Go.step (fun t k => XS.icmpNo X188.here hx rfl (hb hby at_202) rfl (feq (mt (own_eq len 4 (by omega) (by omega)).mp hlen.2.1)).1 k) ?_
          show Go _ _ _ _ _ _ _ T188 (mkF m 205 #[.val (.int i0), .val (.int i1), .val (.int i2), .val (.int i3), .val (.int i4), .val (.ref b1), .val (.int zf), .val (.int (Int32.ofNat off)), .val (.int (Int32.ofNat len)), .val (.int (Int32.ofNat (off + len))), .val (.int p1), .val (.int p2), .unset, .unset] [])
          refine Go.step (fun t k => XS.iload X188.here hx rfl (hb hby at_205) rfl k) ?_
          show Go _ _ _ _ _ _ _ T188 (mkF m 207 #[.val (.int i0), .val (.int i1), .val (.int i2), .val (.int i3), .val (.int i4), .val (.ref b1), .val (.int zf), .val (.int (Int32.ofNat off)), .val (.int (Int32.ofNat len)), .val (.int (Int32.ofNat (off + len))), .val (.int p1), .val (.int p2), .unset, .unset] [(.int (Int32.ofNat len))])
          refine Go.step (fun t k => XS.bipush X188.here hx rfl (hb hby at_207) k) ?_
          show Go _ _ _ _ _ _ _ T188 (mkF m 209 #[.val (.int i0), .val (.int i1), .val (.int i2), .val (.int i3), .val (.int i4), .val (.ref b1), .val (.int zf), .val (.int (Int32.ofNat off)), .val (.int (Int32.ofNat len)), .val (.int (Int32.ofNat (off + len))), .val (.int p1), .val (.int p2), .unset, .unset] [(.int (8 : Int32)), (.int (Int32.ofNat len))])
          refine Go.step (fun t k => XS.icmpYes X188.here hx rfl (pc0 := 209) (pc' := 265) rfl (hb hby at_209) rfl (feq (mt (own_eq len 8 (by omega) (by omega)).mp hlen.2.2)).2 (by decide) (by decide) k) ?_
          show Go _ _ _ _ _ _ _ T188 (mkF m 265 #[.val (.int i0), .val (.int i1), .val (.int i2), .val (.int i3), .val (.int i4), .val (.ref b1), .val (.int zf), .val (.int (Int32.ofNat off)), .val (.int (Int32.ofNat len)), .val (.int (Int32.ofNat (off + len))), .val (.int p1), .val (.int p2), .unset, .unset] [])
          refine Go.step (fun t k => XS.iconst X188.here hx rfl (hb hby at_265) k) ?_
          show Go _ _ _ _ _ _ _ T188 (mkF m 266 #[.val (.int i0), .val (.int i1), .val (.int i2), .val (.int i3), .val (.int i4), .val (.ref b1), .val (.int zf), .val (.int (Int32.ofNat off)), .val (.int (Int32.ofNat len)), .val (.int (Int32.ofNat (off + len))), .val (.int p1), .val (.int p2), .unset, .unset] [(.int (-1 : Int32))])
          refine Go.step (fun t k => XS.istore X188.here hx rfl (hb hby at_266) rfl (l' := #[.val (.int i0), .val (.int i1), .val (.int i2), .val (.int i3), .val (.int i4), .val (.ref b1), .val (.int zf), .val (.int (Int32.ofNat off)), .val (.int (Int32.ofNat len)), .val (.int (Int32.ofNat (off + len))), .val (.int p1), .val (.int p2), .val (.int (-1 : Int32)), .unset]) rfl k) ?_
          show Go _ _ _ _ _ _ _ T188 (mkF m 268 #[.val (.int i0), .val (.int i1), .val (.int i2), .val (.int i3), .val (.int i4), .val (.ref b1), .val (.int zf), .val (.int (Int32.ofNat off)), .val (.int (Int32.ofNat len)), .val (.int (Int32.ofNat (off + len))), .val (.int p1), .val (.int p2), .val (.int (-1 : Int32)), .unset] [])
          refine Go.step (fun t k => XS.aload X188.here hx rfl (hb hby at_268) rfl rfl k) ?_
          show Go _ _ _ _ _ _ _ T188 (mkF m 270 #[.val (.int i0), .val (.int i1), .val (.int i2), .val (.int i3), .val (.int i4), .val (.ref b1), .val (.int zf), .val (.int (Int32.ofNat off)), .val (.int (Int32.ofNat len)), .val (.int (Int32.ofNat (off + len))), .val (.int p1), .val (.int p2), .val (.int (-1 : Int32)), .unset] [(.ref b1)])
          refine Go.step (fun t k => XS.iload X188.here hx rfl (hb hby at_270) rfl k) ?_
          show Go _ _ _ _ _ _ _ T188 (mkF m 272 #[.val (.int i0), .val (.int i1), .val (.int i2), .val (.int i3), .val (.int i4), .val (.ref b1), .val (.int zf), .val (.int (Int32.ofNat off)), .val (.int (Int32.ofNat len)), .val (.int (Int32.ofNat (off + len))), .val (.int p1), .val (.int p2), .val (.int (-1 : Int32)), .unset] [(.int (Int32.ofNat off)), (.ref b1)])
          refine Go.step (fun t k => XS.iload X188.here hx rfl (hb hby at_272) rfl k) ?_
          show Go _ _ _ _ _ _ _ T188 (mkF m 274 #[.val (.int i0), .val (.int i1), .val (.int i2), .val (.int i3), .val (.int i4), .val (.ref b1), .val (.int zf), .val (.int (Int32.ofNat off)), .val (.int (Int32.ofNat len)), .val (.int (Int32.ofNat (off + len))), .val (.int p1), .val (.int p2), .val (.int (-1 : Int32)), .unset] [(.int (Int32.ofNat len)), (.int (Int32.ofNat off)), (.ref b1)])
          obtain ⟨v29, T29, L29, X29, q29, st29⟩ := c_static X188 hx hZ hown (y := (⟨"com/example/sharks/sharks/StandardBase64", "decodedLength", "([CII)I"⟩ : MethodName)) (hw _ (List.mem_of_getElem? (i := 8) rfl)) (hw _ (List.mem_of_getElem? (i := 9) rfl)) (hw _ (List.mem_of_getElem? (i := 10) rfl)) (hw _ (List.mem_of_getElem? (i := 11) rfl)) (by decide) (argsL := [(.ref b1), (.int (Int32.ofNat off)), (.int (Int32.ofNat len))]) (rest := []) (rmD1 l Z a0 hw [] b1 (Int32.ofNat off) (Int32.ofNat len) hh188 n0 Z188 (mt (own_mod4 len (by omega)).mp (by omega))) e188 pd_1 rfl (by rw [hml]; rfl) (W := 0) (by show 2 * 0 + _ ≤ _; exact Nat.le_of_eq rfl) (by decide) (by decide) (by decide) (by decide) (hb hby at_274) (Ls := #[.val (.int i0), .val (.int i1), .val (.int i2), .val (.int i3), .val (.int i4), .val (.ref b1), .val (.int zf), .val (.int (Int32.ofNat off)), .val (.int (Int32.ofNat len)), .val (.int (Int32.ofNat (off + len))), .val (.int p1), .val (.int p2), .val (.int (-1 : Int32)), .unset])
          obtain ⟨rfl, rfl, e29⟩ := q29
          have N29 := Fr.app N188 (Fr.nil n0)
          refine Go.step (st29) ?_
          show Go _ _ _ _ _ _ _ T29 (mkF m 277 #[.val (.int i0), .val (.int i1), .val (.int i2), .val (.int i3), .val (.int i4), .val (.ref b1), .val (.int zf), .val (.int (Int32.ofNat off)), .val (.int (Int32.ofNat len)), .val (.int (Int32.ofNat (off + len))), .val (.int p1), .val (.int p2), .val (.int (-1 : Int32)), .unset] [(.int (-1 : Int32))])
          refine Go.step (fun t k => XS.iload X29.here hx rfl (hb hby at_277) rfl k) ?_
          show Go _ _ _ _ _ _ _ T29 (mkF m 279 #[.val (.int i0), .val (.int i1), .val (.int i2), .val (.int i3), .val (.int i4), .val (.ref b1), .val (.int zf), .val (.int (Int32.ofNat off)), .val (.int (Int32.ofNat len)), .val (.int (Int32.ofNat (off + len))), .val (.int p1), .val (.int p2), .val (.int (-1 : Int32)), .unset] [(.int (-1 : Int32)), (.int (-1 : Int32))])
          refine Go.step (fun t k => XS.icmpNo X29.here hx rfl (hb hby at_279) rfl (teq rfl).2 k) ?_
          show Go _ _ _ _ _ _ _ T29 (mkF m 282 #[.val (.int i0), .val (.int i1), .val (.int i2), .val (.int i3), .val (.int i4), .val (.ref b1), .val (.int zf), .val (.int (Int32.ofNat off)), .val (.int (Int32.ofNat len)), .val (.int (Int32.ofNat (off + len))), .val (.int p1), .val (.int p2), .val (.int (-1 : Int32)), .unset] [])
          refine Go.step (fun t k => XS.iconst X29.here hx rfl (hb hby at_282) k) ?_
          show Go _ _ _ _ _ _ _ T29 (mkF m 283 #[.val (.int i0), .val (.int i1), .val (.int i2), .val (.int i3), .val (.int i4), .val (.ref b1), .val (.int zf), .val (.int (Int32.ofNat off)), .val (.int (Int32.ofNat len)), .val (.int (Int32.ofNat (off + len))), .val (.int p1), .val (.int p2), .val (.int (-1 : Int32)), .unset] [(.int (1 : Int32))])
          refine Go.step (fun t k => XS.goto X29.here hx rfl (pc0 := 283) (pc' := 287) rfl (hb hby at_283) (by decide) (by decide) k) ?_
          show Go _ _ _ _ _ _ _ T29 (mkF m 287 #[.val (.int i0), .val (.int i1), .val (.int i2), .val (.int i3), .val (.int i4), .val (.ref b1), .val (.int zf), .val (.int (Int32.ofNat off)), .val (.int (Int32.ofNat len)), .val (.int (Int32.ofNat (off + len))), .val (.int p1), .val (.int p2), .val (.int (-1 : Int32)), .unset] [(.int (1 : Int32))])
          refine go_retN X29 hx (t := .boolean) hret (by simp) hlk (hb hby at_287) (w := (1 : Int32)) rfl ?_ (by decide) (by decide)
          try rw [e29]
          exact ⟨rfl, N29⟩
      by_cases c176_30 : ((Int32.ofNat (off + len)) - (2 : Int32)) < (0 : Int32)
      · refine Go.step (fun t k => XS.ifYes X172.here hx rfl (pc0 := 176) (pc' := 188) rfl (hb hby at_176) rfl ((if0 _ _).trans (tlt c176_30).1) (by decide) (by decide) k) ?_
        show Go _ _ _ _ _ _ _ T172 (mkF m 188 #[.val (.int i0), .val (.int i1), .val (.int i2), .val (.int i3), .val (.int i4), .val (.ref b1), .val (.int zf), .val (.int (Int32.ofNat off)), .val (.int (Int32.ofNat len)), .val (.int (Int32.ofNat (off + len))), .val (.int p1), .val (.int p2), .unset, .unset] [])
        exact k188 f172 _ _ _ (X172.more (by decide) (by decide)) e172 N172 Z172 f172_0 (fun q => absurd ((own_neg _ 2 (by decide) (by omega)).mp c176_30) (by omega))
      · refine Go.step (fun t k => XS.ifNo X172.here hx rfl (hb hby at_176) rfl ((if0 _ _).trans (flt c176_30).1) k) ?_
        show Go _ _ _ _ _ _ _ T172 (mkF m 179 #[.val (.int i0), .val (.int i1), .val (.int i2), .val (.int i3), .val (.int i4), .val (.ref b1), .val (.int zf), .val (.int (Int32.ofNat off)), .val (.int (Int32.ofNat len)), .val (.int (Int32.ofNat (off + len))), .val (.int p1), .val (.int p2), .unset, .unset] [])
        refine Go.step (fun t k => XS.aload X172.here hx rfl (hb hby at_179) rfl rfl k) ?_
        show Go _ _ _ _ _ _ _ T172 (mkF m 181 #[.val (.int i0), .val (.int i1), .val (.int i2), .val (.int i3), .val (.int i4), .val (.ref b1), .val (.int zf), .val (.int (Int32.ofNat off)), .val (.int (Int32.ofNat len)), .val (.int (Int32.ofNat (off + len))), .val (.int p1), .val (.int p2), .unset, .unset] [(.ref b1)])
        refine Go.step (fun t k => XS.iload X172.here hx rfl (hb hby at_181) rfl k) ?_
        show Go _ _ _ _ _ _ _ T172 (mkF m 183 #[.val (.int i0), .val (.int i1), .val (.int i2), .val (.int i3), .val (.int i4), .val (.ref b1), .val (.int zf), .val (.int (Int32.ofNat off)), .val (.int (Int32.ofNat len)), .val (.int (Int32.ofNat (off + len))), .val (.int p1), .val (.int p2), .unset, .unset] [(.int (Int32.ofNat (off + len))), (.ref b1)])
        refine Go.step (fun t k => XS.iconst X172.here hx rfl (hb hby at_183) k) ?_
        show Go _ _ _ _ _ _ _ T172 (mkF m 184 #[.val (.int i0), .val (.int i1), .val (.int i2), .val (.int i3), .val (.int i4), .val (.ref b1), .val (.int zf), .val (.int (Int32.ofNat off)), .val (.int (Int32.ofNat len)), .val (.int (Int32.ofNat (off + len))), .val (.int p1), .val (.int p2), .unset, .unset] [(.int (2 : Int32)), (.int (Int32.ofNat (off + len))), (.ref b1)])
        refine Go.step (fun t k => XS.isub X172.here hx rfl (hb hby at_184) rfl k) ?_
        show Go _ _ _ _ _ _ _ T172 (mkF m 185 #[.val (.int i0), .val (.int i1), .val (.int i2), .val (.int i3), .val (.int i4), .val (.ref b1), .val (.int zf), .val (.int (Int32.ofNat off)), .val (.int (Int32.ofNat len)), .val (.int (Int32.ofNat (off + len))), .val (.int p1), .val (.int p2), .unset, .unset] [(.int ((Int32.ofNat (off + len)) - (2 : Int32))), (.ref b1)])
        refine Go.step (fun t k => XS.iload X172.here hx rfl (hb hby at_185) rfl k) ?_
        show Go _ _ _ _ _ _ _ T172 (mkF m 187 #[.val (.int i0), .val (.int i1), .val (.int i2), .val (.int i3), .val (.int i4), .val (.ref b1), .val (.int zf), .val (.int (Int32.ofNat off)), .val (.int (Int32.ofNat len)), .val (.int (Int32.ofNat (off + len))), .val (.int p1), .val (.int p2), .unset, .unset] [(.int p2), (.int ((Int32.ofNat (off + len)) - (2 : Int32))), (.ref b1)])
        have hpos187 : 2 ≤ off + len := by have q := mt (own_neg (off + len) 2 (by decide) (by omega)).mpr c176_30; omega
        rw [show Int32.ofNat (off + len) - (2 : Int32) = Int32.ofNat (off + len - 2) from own_sub _ 2 hpos187 (by omega)]
        show Go _ _ _ _ _ _ _ T172 (mkF m 187 #[.val (.int i0), .val (.int i1), .val (.int i2), .val (.int i3), .val (.int i4), .val (.ref b1), .val (.int zf), .val (.int (Int32.ofNat off)), .val (.int (Int32.ofNat len)), .val (.int (Int32.ofNat (off + len))), .val (.int p1), .val (.int p2), .unset, .unset] [(.int p2), (.int (Int32.ofNat (off + len - 2))), (.ref b1)])
        obtain ⟨cl31, Ar31, hin31, -⟩ := f172_0.at (j := (Int32.ofNat (off + len - 2))) (k := (off + len - 2)) (Int32.toInt_ofNat_of_lt (by omega)) (by omega)
        obtain ⟨T31, h31, X31, e31, W31, st31⟩ := stC X172 hx hZ e172 Ar31 (j := (Int32.ofNat (off + len - 2))) hin31 (g := (mkF m 187 #[.val (.int i0), .val (.int i1), .val (.int i2), .val (.int i3), .val (.int i4), .val (.ref b1), .val (.int zf), .val (.int (Int32.ofNat off)), .val (.int (Int32.ofNat len)), .val (.int (Int32.ofNat (off + len))), .val (.int p1), .val (.int p2), .unset, .unset] [(.int p2), (.int (Int32.ofNat (off + len - 2))), (.ref b1)])) rfl rfl (hb hby at_187)
        rw [hp2] at W31
        have V31 : AV Z h31 b1 .char 12 (upd f172 (off + len - 2) (.int p2)) := AV.set f172_0 (k := (off + len - 2)) (Int32.toInt_ofNat_of_lt (by omega)) (by omega) W31
        have N31 := Fr.snoc X31 N172 gn_b1
        have Z31 : n0 ≤ h31.size := Nat.le_trans Z172 (Keep.of_wr W31).1
        refine Go.step (st31) ?_
        show Go _ _ _ _ _ _ _ T31 (mkF m 188 #[.val (.int i0), .val (.int i1), .val (.int i2), .val (.int i3), .val (.int i4), .val (.ref b1), .val (.int zf), .val (.int (Int32.ofNat off)), .val (.int (Int32.ofNat len)), .val (.int (Int32.ofNat (off + len))), .val (.int p1), .val (.int p2), .unset, .unset] [])
        exact k188 (upd f172 (off + len - 2) (.int p2)) _ _ _ (X31.more (by decide) (by decide)) e31 N31 Z31 V31 (fun q => ⟨(upd_ne (by omega)).trans (hf172 (by omega)), upd_eq⟩)
    by_cases c160_32 : ((Int32.ofNat (off + len)) - (1 : Int32)) < (0 : Int32)
    · refine Go.step (fun t k => XS.ifYes X17.here hx rfl (pc0 := 160) (pc' := 172) rfl (hb hby at_160) rfl ((if0 _ _).trans (tlt c160_32).1) (by decide) (by decide) k) ?_
      show Go _ _ _ _ _ _ _ T17 (mkF m 172 #[.val (.int i0), .val (.int i1), .val (.int i2), .val (.int i3), .val (.int i4), .val (.ref b1), .val (.int zf), .val (.int (Int32.ofNat off)), .val (.int (Int32.ofNat len)), .val (.int (Int32.ofNat (off + len))), .val (.int p1), .val (.int p2), .unset, .unset] [])
      exact k172 (fun _ => .int zf) _ _ _ (X17.more (by decide) (by decide)) e17 N17 Z14 V15 (fun q => absurd ((own_neg _ 1 (by decide) (by omega)).mp c160_32) (by omega))
    · refine Go.step (fun t k => XS.ifNo X17.here hx rfl (hb hby at_160) rfl ((if0 _ _).trans (flt c160_32).1) k) ?_
      show Go _ _ _ _ _ _ _ T17 (mkF m 163 #[.val (.int i0), .val (.int i1), .val (.int i2), .val (.int i3), .val (.int i4), .val (.ref b1), .val (.int zf), .val (.int (Int32.ofNat off)), .val (.int (Int32.ofNat len)), .val (.int (Int32.ofNat (off + len))), .val (.int p1), .val (.int p2), .unset, .unset] [])
      refine Go.step (fun t k => XS.aload X17.here hx rfl (hb hby at_163) rfl rfl k) ?_
      show Go _ _ _ _ _ _ _ T17 (mkF m 165 #[.val (.int i0), .val (.int i1), .val (.int i2), .val (.int i3), .val (.int i4), .val (.ref b1), .val (.int zf), .val (.int (Int32.ofNat off)), .val (.int (Int32.ofNat len)), .val (.int (Int32.ofNat (off + len))), .val (.int p1), .val (.int p2), .unset, .unset] [(.ref b1)])
      refine Go.step (fun t k => XS.iload X17.here hx rfl (hb hby at_165) rfl k) ?_
      show Go _ _ _ _ _ _ _ T17 (mkF m 167 #[.val (.int i0), .val (.int i1), .val (.int i2), .val (.int i3), .val (.int i4), .val (.ref b1), .val (.int zf), .val (.int (Int32.ofNat off)), .val (.int (Int32.ofNat len)), .val (.int (Int32.ofNat (off + len))), .val (.int p1), .val (.int p2), .unset, .unset] [(.int (Int32.ofNat (off + len))), (.ref b1)])
      refine Go.step (fun t k => XS.iconst X17.here hx rfl (hb hby at_167) k) ?_
      show Go _ _ _ _ _ _ _ T17 (mkF m 168 #[.val (.int i0), .val (.int i1), .val (.int i2), .val (.int i3), .val (.int i4), .val (.ref b1), .val (.int zf), .val (.int (Int32.ofNat off)), .val (.int (Int32.ofNat len)), .val (.int (Int32.ofNat (off + len))), .val (.int p1), .val (.int p2), .unset, .unset] [(.int (1 : Int32)), (.int (Int32.ofNat (off + len))), (.ref b1)])
      refine Go.step (fun t k => XS.isub X17.here hx rfl (hb hby at_168) rfl k) ?_
      show Go _ _ _ _ _ _ _ T17 (mkF m 169 #[.val (.int i0), .val (.int i1), .val (.int i2), .val (.int i3), .val (.int i4), .val (.ref b1), .val (.int zf), .val (.int (Int32.ofNat off)), .val (.int (Int32.ofNat len)), .val (.int (Int32.ofNat (off + len))), .val (.int p1), .val (.int p2), .unset, .unset] [(.int ((Int32.ofNat (off + len)) - (1 : Int32))), (.ref b1)])
      refine Go.step (fun t k => XS.iload X17.here hx rfl (hb hby at_169) rfl k) ?_
      show Go _ _ _ _ _ _ _ T17 (mkF m 171 #[.val (.int i0), .val (.int i1), .val (.int i2), .val (.int i3), .val (.int i4), .val (.ref b1), .val (.int zf), .val (.int (Int32.ofNat off)), .val (.int (Int32.ofNat len)), .val (.int (Int32.ofNat (off + len))), .val (.int p1), .val (.int p2), .unset, .unset] [(.int p1), (.int ((Int32.ofNat (off + len)) - (1 : Int32))), (.ref b1)])
      have hpos171 : 1 ≤ off + len := by have q := mt (own_neg (off + len) 1 (by decide) (by omega)).mpr c160_32; omega
      rw [show Int32.ofNat (off + len) - (1 : Int32) = Int32.ofNat (off + len - 1) from own_sub _ 1 hpos171 (by omega)]
      show Go _ _ _ _ _ _ _ T17 (mkF m 171 #[.val (.int i0), .val (.int i1), .val (.int i2), .val (.int i3), .val (.int i4), .val (.ref b1), .val (.int zf), .val (.int (Int32.ofNat off)), .val (.int (Int32.ofNat len)), .val (.int (Int32.ofNat (off + len))), .val (.int p1), .val (.int p2), .unset, .unset] [(.int p1), (.int (Int32.ofNat (off + len - 1))), (.ref b1)])
      obtain ⟨cl33, Ar33, hin33, -⟩ := V15.at (j := (Int32.ofNat (off + len - 1))) (k := (off + len - 1)) (Int32.toInt_ofNat_of_lt (by omega)) (by omega)
      obtain ⟨T33, h33, X33, e33, W33, st33⟩ := stC X17 hx hZ e17 Ar33 (j := (Int32.ofNat (off + len - 1))) hin33 (g := (mkF m 171 #[.val (.int i0), .val (.int i1), .val (.int i2), .val (.int i3), .val (.int i4), .val (.ref b1), .val (.int zf), .val (.int (Int32.ofNat off)), .val (.int (Int32.ofNat len)), .val (.int (Int32.ofNat (off + len))), .val (.int p1), .val (.int p2), .unset, .unset] [(.int p1), (.int (Int32.ofNat (off + len - 1))), (.ref b1)])) rfl rfl (hb hby at_171)
      rw [hp1] at W33
      have V33 : AV Z h33 b1 .char 12 (upd (fun _ => .int zf) (off + len - 1) (.int p1)) := AV.set V15 (k := (off + len - 1)) (Int32.toInt_ofNat_of_lt (by omega)) (by omega) W33
      have N33 := Fr.snoc X33 N17 gn_b1
      have Z33 : n0 ≤ h33.size := Nat.le_trans Z14 (Keep.of_wr W33).1
      refine Go.step (st33) ?_
      show Go _ _ _ _ _ _ _ T33 (mkF m 172 #[.val (.int i0), .val (.int i1), .val (.int i2), .val (.int i3), .val (.int i4), .val (.ref b1), .val (.int zf), .val (.int (Int32.ofNat off)), .val (.int (Int32.ofNat len)), .val (.int (Int32.ofNat (off + len))), .val (.int p1), .val (.int p2), .unset, .unset] [])
      exact k172 (upd (fun _ => .int zf) (off + len - 1) (.int p1)) _ _ _ (X33.more (by decide) (by decide)) e33 N33 Z33 V33 (fun _ => upd_eq)
  by_cases c98_34 : (i0 &&& (4 : Int32)) = (0 : Int32)
  · refine Go.step (fun t k => XS.ifYes X14.here hx rfl (pc0 := 98) (pc' := 127) rfl (hb hby at_98) rfl ((if0 _ _).trans (teq c98_34).1) (by decide) (by decide) k) ?_
    show Go _ _ _ _ _ _ _ T14 (mkF m 127 #[.val (.int i0), .val (.int i1), .val (.int i2), .val (.int i3), .val (.int i4), .val (.ref b1), .val (.int zf), .val (.int (Int32.ofNat off)), .unset, .unset, .unset, .unset, .unset, .unset] [])
    exact j98
  · refine Go.step (fun t k => XS.ifNo X14.here hx rfl (hb hby at_98) rfl ((if0 _ _).trans (feq c98_34).1) k) ?_
    show Go _ _ _ _ _ _ _ T14 (mkF m 101 #[.val (.int i0), .val (.int i1), .val (.int i2), .val (.int i3), .val (.int i4), .val (.ref b1), .val (.int zf), .val (.int (Int32.ofNat off)), .unset, .unset, .unset, .unset, .unset, .unset] [])
    refine Go.step (fun t k => XS.iload X14.here hx rfl (hb hby at_101) rfl k) ?_
    show Go _ _ _ _ _ _ _ T14 (mkF m 103 #[.val (.int i0), .val (.int i1), .val (.int i2), .val (.int i3), .val (.int i4), .val (.ref b1), .val (.int zf), .val (.int (Int32.ofNat off)), .unset, .unset, .unset, .unset, .unset, .unset] [(.int i4)])
    refine Go.step (fun t k => XS.iconst X14.here hx rfl (hb hby at_103) k) ?_
    show Go _ _ _ _ _ _ _ T14 (mkF m 104 #[.val (.int i0), .val (.int i1), .val (.int i2), .val (.int i3), .val (.int i4), .val (.ref b1), .val (.int zf), .val (.int (Int32.ofNat off)), .unset, .unset, .unset, .unset, .unset, .unset] [(.int (4 : Int32)), (.int i4)])
    refine Go.step (fun t k => iremM X14 hx rfl (hb hby at_104) rfl (by decide) k) ?_
    show Go _ _ _ _ _ _ _ T14 (mkF m 105 #[.val (.int i0), .val (.int i1), .val (.int i2), .val (.int i3), .val (.int i4), .val (.ref b1), .val (.int zf), .val (.int (Int32.ofNat off)), .unset, .unset, .unset, .unset, .unset, .unset] [(.int (i4 % (4 : Int32)))])
    by_cases c105_35 : (i4 % (4 : Int32)) = (0 : Int32)
    · refine Go.step (fun t k => XS.ifYes X14.here hx rfl (pc0 := 105) (pc' := 127) rfl (hb hby at_105) rfl ((if0 _ _).trans (teq c105_35).1) (by decide) (by decide) k) ?_
      show Go _ _ _ _ _ _ _ T14 (mkF m 127 #[.val (.int i0), .val (.int i1), .val (.int i2), .val (.int i3), .val (.int i4), .val (.ref b1), .val (.int zf), .val (.int (Int32.ofNat off)), .unset, .unset, .unset, .unset, .unset, .unset] [])
      exact j98
    · refine Go.step (fun t k => XS.ifNo X14.here hx rfl (hb hby at_105) rfl ((if0 _ _).trans (feq c105_35).1) k) ?_
      show Go _ _ _ _ _ _ _ T14 (mkF m 108 #[.val (.int i0), .val (.int i1), .val (.int i2), .val (.int i3), .val (.int i4), .val (.ref b1), .val (.int zf), .val (.int (Int32.ofNat off)), .unset, .unset, .unset, .unset, .unset, .unset] [])
      refine Go.step (fun t k => XS.aload X14.here hx rfl (hb hby at_108) rfl rfl k) ?_
      show Go _ _ _ _ _ _ _ T14 (mkF m 110 #[.val (.int i0), .val (.int i1), .val (.int i2), .val (.int i3), .val (.int i4), .val (.ref b1), .val (.int zf), .val (.int (Int32.ofNat off)), .unset, .unset, .unset, .unset, .unset, .unset] [(.ref b1)])
      refine Go.step (fun t k => XS.iload X14.here hx rfl (hb hby at_110) rfl k) ?_
      show Go _ _ _ _ _ _ _ T14 (mkF m 112 #[.val (.int i0), .val (.int i1), .val (.int i2), .val (.int i3), .val (.int i4), .val (.ref b1), .val (.int zf), .val (.int (Int32.ofNat off)), .unset, .unset, .unset, .unset, .unset, .unset] [(.int (Int32.ofNat off)), (.ref b1)])
      refine Go.step (fun t k => XS.iload X14.here hx rfl (hb hby at_112) rfl k) ?_
      show Go _ _ _ _ _ _ _ T14 (mkF m 114 #[.val (.int i0), .val (.int i1), .val (.int i2), .val (.int i3), .val (.int i4), .val (.ref b1), .val (.int zf), .val (.int (Int32.ofNat off)), .unset, .unset, .unset, .unset, .unset, .unset] [(.int i4), (.int (Int32.ofNat off)), (.ref b1)])
      obtain ⟨v36, T36, L36, X36, q36, st36⟩ := c_static X14 hx hZ hown (y := (⟨"com/example/sharks/sharks/StandardBase64", "decodedLength", "([CII)I"⟩ : MethodName)) (hw _ (List.mem_of_getElem? (i := 8) rfl)) (hw _ (List.mem_of_getElem? (i := 9) rfl)) (hw _ (List.mem_of_getElem? (i := 10) rfl)) (hw _ (List.mem_of_getElem? (i := 11) rfl)) (by decide) (argsL := [(.ref b1), (.int (Int32.ofNat off)), (.int i4)]) (rest := []) (rmD1 l Z a0 hw [] b1 (Int32.ofNat off) i4 h14 n0 Z14 c105_35) e14 pd_1 rfl (by rw [hml]; rfl) (W := 0) (by show 2 * 0 + _ ≤ _; exact Nat.le_of_eq rfl) (by decide) (by decide) (by decide) (by decide) (hb hby at_114) (Ls := #[.val (.int i0), .val (.int i1), .val (.int i2), .val (.int i3), .val (.int i4), .val (.ref b1), .val (.int zf), .val (.int (Int32.ofNat off)), .unset, .unset, .unset, .unset, .unset, .unset])
      obtain ⟨rfl, rfl, e36⟩ := q36
      have N36 := Fr.app N14 (Fr.nil n0)
      refine Go.step (st36) ?_
      show Go _ _ _ _ _ _ _ T36 (mkF m 117 #[.val (.int i0), .val (.int i1), .val (.int i2), .val (.int i3), .val (.int i4), .val (.ref b1), .val (.int zf), .val (.int (Int32.ofNat off)), .unset, .unset, .unset, .unset, .unset, .unset] [(.int (-1 : Int32))])
      refine Go.step (fun t k => XS.iconst X36.here hx rfl (hb hby at_117) k) ?_
      show Go _ _ _ _ _ _ _ T36 (mkF m 118 #[.val (.int i0), .val (.int i1), .val (.int i2), .val (.int i3), .val (.int i4), .val (.ref b1), .val (.int zf), .val (.int (Int32.ofNat off)), .unset, .unset, .unset, .unset, .unset, .unset] [(.int (-1 : Int32)), (.int (-1 : Int32))])
      refine Go.step (fun t k => XS.icmpNo X36.here hx rfl (hb hby at_118) rfl (teq rfl).2 k) ?_
      show Go _ _ _ _ _ _ _ T36 (mkF m 121 #[.val (.int i0), .val (.int i1), .val (.int i2), .val (.int i3), .val (.int i4), .val (.ref b1), .val (.int zf), .val (.int (Int32.ofNat off)), .unset, .unset, .unset, .unset, .unset, .unset] [])
      refine Go.step (fun t k => XS.iconst X36.here hx rfl (hb hby at_121) k) ?_
      show Go _ _ _ _ _ _ _ T36 (mkF m 122 #[.val (.int i0), .val (.int i1), .val (.int i2), .val (.int i3), .val (.int i4), .val (.ref b1), .val (.int zf), .val (.int (Int32.ofNat off)), .unset, .unset, .unset, .unset, .unset, .unset] [(.int (1 : Int32))])
      refine Go.step (fun t k => XS.goto X36.here hx rfl (pc0 := 122) (pc' := 126) rfl (hb hby at_122) (by decide) (by decide) k) ?_
      show Go _ _ _ _ _ _ _ T36 (mkF m 126 #[.val (.int i0), .val (.int i1), .val (.int i2), .val (.int i3), .val (.int i4), .val (.ref b1), .val (.int zf), .val (.int (Int32.ofNat off)), .unset, .unset, .unset, .unset, .unset, .unset] [(.int (1 : Int32))])
      refine go_retN X36 hx (t := .boolean) hret (by simp) hlk (hb hby at_126) (w := (1 : Int32)) rfl ?_ (by decide) (by decide)
      try rw [e36]
      exact ⟨rfl, N36⟩
set_option maxRecDepth 65536 in
set_option maxHeartbeats 40000000 in
theorem comes_1 {Post : Tables → Env → Array Value → State → Outcome → State → Prop} (hpost : ∀ tb e args s v u, (limb_1_1.after args s (.returned v) u = true ∧ limb_1_2.after args s (.returned v) u = true ∧ True) → FrameEnd s (.returned v) u (Jvm.fieldLocs frame_1_writes args s ++ Jvm.arrayLocs frame_1_arrays args s ++ Jvm.staticLocs frame_1_statics s) 16 128 → Post tb e args s (.returned v) u) :
    ArmFor flags0 classFile x code maxLocals ret World_1 tables_1 room_1 Calls_1 rest_1 Pre_1 Post := by
  intro l hfl _ _ p e ha hc hk s m args below hf hA hF happ hP
  obtain ⟨hcalls, hrest, hpre⟩ := hP
  obtain ⟨-, -, -, hnamed, -, -, -, hat⟩ := (Spec.applies_iff hf).mp happ
  obtain ⟨hg, hn⟩ := and_e (Cond.before_iff.mp (show (Jvm.Cond.and given_1 narrow_1).before args s = true from hpre))
  obtain ⟨hcnt, hg1⟩ := and_e hg
  obtain ⟨ha0, hg2⟩ := and_e hg1
  obtain ⟨ha1, hg3⟩ := and_e hg2
  obtain ⟨ha2, hg4⟩ := and_e hg3
  obtain ⟨ha3, hg5⟩ := and_e hg4
  obtain ⟨w0, w1, w2, w3, w4, rfl⟩ : ∃ w0 w1 w2 w3 w4 : Value, args = #[w0, w1, w2, w3, w4] := by
    have hs : args.size = 5 := by simpa [Cond.value, given_1] using hcnt
    obtain ⟨L⟩ := args
    match L, hs with
    | [w0, w1, w2, w3, w4], _ => exact ⟨w0, w1, w2, w3, w4, rfl⟩
  have hw := fun d (hd : d ∈ tables_1) => atoms_spec (ws := Jvm.Cond.code x code maxLocals ret :: tables_1) hat d (List.mem_cons_of_mem _ hd)
  have hfit : Fit s := fun {y c} hc i hi => by
    obtain ⟨ha, rfl⟩ := Array.getElem?_eq_some_iff.mp hc
    have q := List.all_eq_true.mp ((Array.all_eq_true_iff_forall_mem.mp hF) _ (Array.getElem_mem ha)) i (List.mem_range.mpr hi)
    simpa [Array.getElem?_eq_getElem hi] using q
  obtain ⟨i0, ei0⟩ := is_v ha0
  obtain rfl : w0 = (.int i0) := Option.some.inj ei0
  obtain ⟨i1, ei1⟩ := is_v ha1
  obtain rfl : w1 = (.int i1) := Option.some.inj ei1
  obtain ⟨i2, ei2⟩ := is_v ha2
  obtain rfl : w2 = (.int i2) := Option.some.inj ei2
  obtain ⟨i3, ei3⟩ := is_v ha3
  obtain rfl : w3 = (.int i3) := Option.some.inj ei3
  obtain ⟨i4, ei4⟩ := is_v hg5
  obtain rfl : w4 = (.int i4) := Option.some.inj ei4
  obtain ⟨n, o, h1, h2, h3, _, L, rfl, ⟨rfl, N⟩, hq⟩ := rm0 l s _ hw tables_1 i0 i1 i2 i3 i4 s.heap s.heap.size (Nat.le_refl _)  p e ha hc hk s m _ below hf ((Spec.applies_iff_loose hf).mp happ).1 ⟨rfl, State.Warmed39.refl s, rfl⟩ trivial
  refine ⟨n, _, h1, h2, h3, hpost _ _ _ _ _ _ ⟨Cond.after_iff.mpr rfl, Cond.after_iff.mpr (eq_i res_at (Term.int_eval (1)) rfl), trivial⟩ ⟨hq.1, hq.2.1, (hq.2.2.sift fun y hy => Or.inr (N y hy)).mono (by decide) (by decide)⟩⟩
theorem main_1_1 : Claimed_1_1 := comes_1 fun _ _ _ _ _ _ h hF => ⟨h.1, hF⟩
theorem main_1_2 : Claimed_1_2 := comes_1 fun _ _ _ _ _ _ h hF => ⟨h.2.1, hF⟩
end Jvm.Pilot.@@N@@
namespace Jvm.Pilot.@@N@@
open Jvm Jvm.ClassFile Sem Op Lib Jvm.Free Jvm.Stand Jvm.Pilot.@@N@@.Jvm.D
/-! MADE BY PROGRAM (witnessworld.py) out of the Statement's table words and the real class files: 11 classes; the members and pool entries that the words name. The judged class is class 1, her method 1. -/
namespace start1
open Jvm.ClassFile
def u (s : String) : CpInfo := .utf8 (stringToUtf16 s)
/-- a pool by its gaps: so many unusable entries, then the entry; so many at the end -/
def gap : Nat → List CpInfo → List CpInfo
  | 0, r => r
  | n + 1, r => .unusable :: gap n r
def poolList (es : List (Nat × CpInfo)) (last : Nat) : List CpInfo := es.foldr (fun e r => gap e.1 (e.2 :: r)) (gap last [])
def pool (es : List (Nat × CpInfo)) (last : Nat) : Array CpInfo := ⟨poolList es last⟩
def fileOf (pool : Array CpInfo) (this : Nat) (attrs : Array Attribute := #[]) (ms : Array MethodInfo := #[]) (fl : Nat := 33) (sup : Nat := 0) (ifs : Array Nat := #[]) (fds : Array FieldInfo := #[]) : ClassFile where
  minorVersion := 0
  majorVersion := 65
  constantPool := pool
  accessFlags := fl
  thisClass := this
  superClass := sup
  interfaces := ifs
  fields := fds
  methods := ms
  attributes := attrs
def plain (name : String) (sup : Option ClassId) : Class where
  name := name
  kind := .ordinary
  loader := none
  accessFlags := 33
  super := sup
  interfaces := #[]
  cf := none
  fields := #[]
  methods := #[]
  instanceTypes := #[]
  staticTypes := #[]
  resolved := #[]
  callSites := []
  init := .initialized
  statics := none
  mirror := none

def pool0 : Array CpInfo := pool [(5, u "<init>"), (0, u "()V"), (1, .class_ 10), (1, u "java/lang/Object")] 113

def k0m0 : Method := { name := "<init>", desc := "()V", sig := { parameters := [], returnType := none }, accessFlags := 1, code := none }
/-- java/lang/Object -/
def k0 : Class := { plain "java/lang/Object" none with
  accessFlags := 33
  interfaces := #[]
  cf := some (fileOf pool0 8 #[] #[{ accessFlags := 1, nameIndex := 5, descriptorIndex := 6, attributes := #[] }] 33 0 #[] #[])
  fields := #[]
  methods := #[k0m0]
  instanceTypes := #[]
  staticTypes := #[]
  resolved := Array.replicate 124 none
  statics := none }

def pool1 : Array CpInfo := pool [(2, .class_ 4), (1, u "java/lang/Object"), (0, u "<init>"), (0, u "()V"), (0, .methodref 8 9), (0, .class_ 10), (0, .nameAndType 11 12), (0, u "com/example/sharks/sharks/StandardBase64DecodedLengthPinLaw"), (0, u "pick"), (0, u "(I)C"), (0, .methodref 14 15), (0, .class_ 16), (0, .nameAndType 17 18), (0, u "com/example/sharks/sharks/StandardBase64"), (0, u "decodedLength"), (0, u "([CII)I"), (0, .integer 2147483647), (0, .integer 65536), (0, .integer 65535), (2, u "law"), (0, u "(IIIII)Z")] 5

def k1m0 : Method := { name := "<init>", desc := "()V", sig := { parameters := [], returnType := none }, accessFlags := 1, code := none }
def k1c1 : Code := { maxStack := 3, maxLocals := 14, code := code, exceptionTable := #[], attributes := #[] }
def k1m1 : Method := { name := "law", desc := "(IIIII)Z", sig := { parameters := [.int, .int, .int, .int, .int], returnType := some .boolean }, accessFlags := 9, code := some k1c1 }
def k1c2 : Code := { maxStack := 2, maxLocals := 1, code := method_3_code, exceptionTable := #[], attributes := #[] }
def k1m2 : Method := { name := "pick", desc := "(I)C", sig := { parameters := [.int], returnType := some .char }, accessFlags := 10, code := some k1c2 }
/-- com/example/sharks/sharks/StandardBase64DecodedLengthPinLaw -/
def k1 : Class := { plain "com/example/sharks/sharks/StandardBase64DecodedLengthPinLaw" (some 0) with
  accessFlags := 49
  interfaces := #[]
  cf := some (fileOf pool1 8 #[] #[{ accessFlags := 1, nameIndex := 5, descriptorIndex := 6, attributes := #[] }, { accessFlags := 9, nameIndex := 24, descriptorIndex := 25, attributes := #[] }, { accessFlags := 10, nameIndex := 11, descriptorIndex := 12, attributes := #[] }] 49 2 #[] #[])
  fields := #[]
  methods := #[k1m0, k1m1, k1m2]
  instanceTypes := #[]
  staticTypes := #[]
  resolved := Array.replicate 31 none
  statics := none }

def pool2 : Array CpInfo := pool [(2, .class_ 4), (1, u "java/lang/Object"), (0, u "<init>"), (0, u "()V"), (1, .class_ 10), (1, u "com/example/sharks/sharks/StandardBase64"), (0, u "decodedLength"), (0, u "([CII)I"), (7, u "VALUES"), (0, u "[B"), (18, u "ALPHABET"), (0, u "Ljava/lang/String;"), (1, u "PADDING"), (0, u "C")] 10

def k2m0 : Method := { name := "<init>", desc := "()V", sig := { parameters := [], returnType := none }, accessFlags := 2, code := none }
def k2c1 : Code := { maxStack := 3, maxLocals := 5, code := prog_9_method_3_code, exceptionTable := #[], attributes := #[] }
def k2m1 : Method := { name := "decodedLength", desc := "([CII)I", sig := { parameters := [(.array .char), .int, .int], returnType := some .int }, accessFlags := 8, code := some k2c1 }
/-- com/example/sharks/sharks/StandardBase64 -/
def k2 : Class := { plain "com/example/sharks/sharks/StandardBase64" (some 0) with
  accessFlags := 48
  interfaces := #[]
  cf := some (fileOf pool2 8 #[] #[{ accessFlags := 2, nameIndex := 5, descriptorIndex := 6, attributes := #[] }, { accessFlags := 8, nameIndex := 11, descriptorIndex := 12, attributes := #[] }] 48 2 #[] #[{ accessFlags := 26, nameIndex := 40, descriptorIndex := 41, attributes := #[] }, { accessFlags := 26, nameIndex := 43, descriptorIndex := 44, attributes := #[] }, { accessFlags := 26, nameIndex := 20, descriptorIndex := 21, attributes := #[] }])
  fields := #[{ name := "ALPHABET", type := (.object "java/lang/String"), accessFlags := 26, slot := 0, constantValue := 0 }, { name := "PADDING", type := .char, accessFlags := 26, slot := 1, constantValue := 0 }, { name := "VALUES", type := (.array .byte), accessFlags := 26, slot := 2, constantValue := 0 }]
  methods := #[k2m0, k2m1]
  instanceTypes := #[]
  staticTypes := #[(.object "java/lang/String"), .char, (.array .byte)]
  resolved := Array.replicate 55 none
  statics := none }

def pool3 : Array CpInfo := pool [(1, u "java/lang/Cloneable"), (0, .class_ 1), (0, u "java/lang/Object"), (0, .class_ 3)] 3

/-- java/lang/Cloneable -/
def k3 : Class := { plain "java/lang/Cloneable" (some 0) with
  accessFlags := 1537
  interfaces := #[]
  cf := some (fileOf pool3 2 #[] #[] 1537 4 #[] #[])
  fields := #[]
  methods := #[]
  instanceTypes := #[]
  staticTypes := #[]
  resolved := Array.replicate 8 none
  statics := none }

def pool4 : Array CpInfo := pool [(1, u "java/io/Serializable"), (0, .class_ 1), (0, u "java/lang/Object"), (0, .class_ 3)] 3

/-- java/io/Serializable -/
def k4 : Class := { plain "java/io/Serializable" (some 0) with
  accessFlags := 1537
  interfaces := #[]
  cf := some (fileOf pool4 2 #[] #[] 1537 4 #[] #[])
  fields := #[]
  methods := #[]
  instanceTypes := #[]
  staticTypes := #[]
  resolved := Array.replicate 8 none
  statics := none }

/-- the primitive byte -/
def k5 : Class := { plain "byte" none with kind := .primitive 'B', accessFlags := 0x411 }
/-- [B -/
def k6 : Class := { plain "[B" (some 0) with kind := .array 5 .byte, interfaces := #[3, 4], accessFlags := 1041 }

/-- the primitive char -/
def k7 : Class := { plain "char" none with kind := .primitive 'C', accessFlags := 0x411 }
/-- [C -/
def k8 : Class := { plain "[C" (some 0) with kind := .array 7 .char, interfaces := #[3, 4], accessFlags := 1041 }

/-- the primitive int -/
def k9 : Class := { plain "int" none with kind := .primitive 'I', accessFlags := 0x411 }
/-- [I -/
def k10 : Class := { plain "[I" (some 0) with kind := .array 9 .int, interfaces := #[3, 4], accessFlags := 1041 }

def heap : Heap := #[]
def classes : Array Class := #[k0, k1, k2, k3, k4, k5, k6, k7, k8, k9, k10]
def interned : List (Array UInt16 × Addr) := []
def slotsUsed : Nat := 0
def theMethod : MethodId := ⟨1, 1⟩
def args0 : Array Value := #[.int 5, .int 5, .int 5, .int 5, .int 5]
def aboutOver (below : List Frame) : State where
  vm := { classes := classes, interned := interned.toArray }
  heap := heap
  slotsUsed := slotsUsed
  threads := #[{ frames := .invoking theMethod args0 :: below }]
def below0 : List Frame := [.native { method := ⟨0, 0⟩, args := #[] }]
def about1 : State := aboutOver below0
def p0 : Program := .bare "" "" ""
def e0 : Env := launch0.env 0 0 0
theorem w_frames : about1.frames = Frame.invoking theMethod args0 :: below0 := rfl
set_option maxRecDepth 65536 in
theorem w_args : argsFit about1.vm theMethod args0 = true := by decide +kernel
set_option maxRecDepth 65536 in
theorem w_heap : heapFits about1 = true := by decide +kernel
set_option maxRecDepth 65536 in
theorem w_runnable : about1.curStatus? = some .runnable := by decide +kernel
set_option maxRecDepth 65536 in
theorem w_alone : about1.alone = true := by decide +kernel
set_option maxRecDepth 65536 in
theorem w_named : about1.methodNamed? x = some theMethod := by decide +kernel
set_option maxRecDepth 65536 in
theorem w_hears : about1.hears theMethod below0 = true := by decide +kernel
set_option maxRecDepth 65536 in
theorem w_ripe : about1.ripe theMethod args0 below0 = true := by decide +kernel
theorem w_running : about1.status = .running := rfl
set_option maxRecDepth 65536 in
theorem w_room : about1.hasRoom e0.platform room_1 = true :=
  launch0.hasRoom_least _ room_1 (by decide +kernel) (by decide +kernel) (by decide +kernel) (by decide +kernel) (by decide +kernel) (by decide +kernel)
theorem allAtoms_all (ts : List Jvm.Cond) (a : Array Jvm.Value) (st : Jvm.State) : (allAtoms ts).before a st = ts.all (fun c => c.before a st) := by
  induction ts with
  | nil => rfl
  | cons c t ih =>
    show (Jvm.Cond.and c (allAtoms t)).before a st = _
    rw [Jvm.Cond.before_and, ih, List.all_cons]
def words1 : List Jvm.Cond := Jvm.Cond.code x code maxLocals ret :: tables_1
/-- a 'code' word, met by the world's own term for the bytes: nothing is compared byte by byte -/
theorem code_word {y : MethodName} {bytes : ByteArray} {mx : Nat} {rt : Option FieldType} {a : Array Value} {s : State} {m : MethodId} {meth : Method} {c : Code} (h1 : s.methodNamed? y = some m) (h2 : s.vm.method? m = some meth) (h3 : meth.code = some c) (h4 : c.code = bytes)
    (h5 : (c.maxLocals == mx && c.exceptionTable.isEmpty && decide (c.maxStack ≤ mostOperands) && decide (meth.sig.returnType = rt) && !meth.locks && decide (parseMethodDescriptor y.desc = some meth.sig)) = true) : (Jvm.Cond.code y bytes mx rt).before a s = true := by
  simp only [Bool.and_eq_true, beq_iff_eq, Bool.not_eq_true', decide_eq_true_eq] at h5
  obtain ⟨⟨⟨⟨⟨g1, g2⟩, g3⟩, g4⟩, g5⟩, g6⟩ := h5
  simp [Cond.before, Cond.holds, Cond.value, h1, h2, h3, h4, g1, g2, g3, g4, g5, g6]
def isCode : Jvm.Cond → Bool
  | .code _ _ _ _ => true
  | _ => false
theorem all_split {L : List Jvm.Cond} {P : Jvm.Cond → Bool} (h1 : L.all (fun c => isCode c || P c) = true) (h2 : ∀ c ∈ L.filter isCode, P c = true) : L.all P = true := by
  refine List.all_eq_true.mpr fun c hc => ?_
  have h := List.all_eq_true.mp h1 c hc
  rcases Bool.eq_false_or_eq_true (isCode c) with hi | hi
  · exact h2 c (List.mem_filter.mpr ⟨hc, hi⟩)
  · simpa [hi] using h
set_option maxRecDepth 65536 in
theorem w_c0 : (Jvm.Cond.code x code maxLocals ret).before args0 about1 = true := code_word (m := ⟨1, 1⟩) (meth := k1m1) (c := k1c1) (by decide +kernel) rfl rfl rfl (by decide +kernel)
set_option maxRecDepth 65536 in
theorem w_c1 : (Jvm.Cond.code ({ cls := "com/example/sharks/sharks/StandardBase64DecodedLengthPinLaw", name := "pick", desc := "(I)C" } : Jvm.MethodName) method_3_code (1 : Nat) (Option.some Jvm.ClassFile.FieldType.char)).before args0 about1 = true := code_word (m := ⟨1, 2⟩) (meth := k1m2) (c := k1c2) (by decide +kernel) rfl rfl rfl (by decide +kernel)
set_option maxRecDepth 65536 in
theorem w_c2 : (Jvm.Cond.code ({ cls := "com/example/sharks/sharks/StandardBase64", name := "decodedLength", desc := "([CII)I" } : Jvm.MethodName) prog_9_method_3_code (5 : Nat) (Option.some Jvm.ClassFile.FieldType.int)).before args0 about1 = true := code_word (m := ⟨2, 1⟩) (meth := k2m1) (c := k2c1) (by decide +kernel) rfl rfl rfl (by decide +kernel)
def codes1 : List Jvm.Cond := [Jvm.Cond.code x code maxLocals ret, Jvm.Cond.code ({ cls := "com/example/sharks/sharks/StandardBase64DecodedLengthPinLaw", name := "pick", desc := "(I)C" } : Jvm.MethodName) method_3_code (1 : Nat) (Option.some Jvm.ClassFile.FieldType.char), Jvm.Cond.code ({ cls := "com/example/sharks/sharks/StandardBase64", name := "decodedLength", desc := "([CII)I" } : Jvm.MethodName) prog_9_method_3_code (5 : Nat) (Option.some Jvm.ClassFile.FieldType.int)]
set_option maxRecDepth 65536 in
theorem codes_eq : words1.filter isCode = codes1 := rfl
theorem w_codes : ∀ c ∈ words1.filter isCode, c.before args0 about1 = true := by
  rw [codes_eq]
  intro c hc
  simp only [codes1, List.mem_cons, List.not_mem_nil, or_false] at hc
  rcases hc with rfl | rfl | rfl
  · exact w_c0
  · exact w_c1
  · exact w_c2
set_option maxRecDepth 65536 in
theorem w_t1 : words1.all (fun c => isCode c || c.before args0 about1) = true := by decide +kernel
theorem w_tables : (allAtoms (Jvm.Cond.code x code maxLocals ret :: tables_1)).before args0 about1 = true := by
  rw [allAtoms_all]
  show words1.all (fun c => c.before args0 about1) = true
  refine all_split ?_ w_codes
  rw [w_t1]
set_option maxRecDepth 65536 in
theorem w_case : (Jvm.Cond.and given_1 narrow_1).before args0 about1 = true := by decide +kernel
theorem w_applies : (headSpec (Jvm.Cond.code x code maxLocals ret :: tables_1) room_1).applies x e0.platform about1 = true :=
  (Spec.applies_iff w_frames).mpr ⟨w_running, w_runnable, w_alone, w_named, w_hears, w_ripe, w_room, w_tables⟩
theorem atStart : AtStart classFile x code maxLocals ret World_1 tables_1 room_1 Calls_1 rest_1 Pre_1 launch0 p0 e0 about1 theMethod args0 below0 :=
  ⟨lists_1, trivial, launch0.admits_env _ _ _, launch0.least_env, fairChoices_fair.cas, fairChoices_fair.clock, w_frames, w_args, w_heap, w_applies, trivial, trivial, w_case⟩
end start1
theorem witness_1 : WitnessClaimed_1 := ⟨start1.p0, start1.e0, start1.about1, start1.theMethod, start1.args0, start1.below0, start1.atStart⟩
end Jvm.Pilot.@@N@@
