import JvmDerived
import JvmDerived.Pilot.@@N@@Statement
import JvmDerived.Pilot.@@N@@Code
set_option linter.unusedVariables false
set_option linter.unusedSimpArgs false
namespace Jvm.RoadKit
open Sem ClassFile Op Lib Jvm.Stand Jvm.Free Jvm.LawKit
section New
variable {p : Program} {l : Launch} {e : Env} {R : Room} {s : State} {m : MethodId} {args : Array Value} {below : List Frame} {meth : Method} {c : Code} {T : State} {locs : List Loc} {cells slots : Nat}
theorem retI (X : Stand p l e R s m args below meth c T locs cells slots) (hx : p.tables.exec = Jvm.exec) {pc : Nat} {Ls : Array Slot} {z : Int32} {rest : List Value} (hret : meth.sig.returnType = some .int) (hd : decode c.code pc = .ok (.ireturn, 1)) {fs : List Frame}
    (hl : ∀ (f : JFrame) (acts : List Action), f.method = m → f.locked = none → f.entered = [] → (doReturn e (T.setTop f) acts (some (.int z))).1 = T.setFrames fs) : Steps p.tables e below (T.setTop (mkF m pc Ls (.int z :: rest))) (T.setFrames fs) := by
  have hm' : T.vm.method? m = some meth := X.method'
  have hn : narrow .int (.int z) = .int z := rfl
  show Steps p.tables e below (T.setTop { method := m, pc := pc, locals := Ls, stack := _ :: rest, locked := none }) _
  jvm_step X.here [X.here.top, hx, hd, hm', hret, hn]
  first | (intro acts; rw [hl _ acts rfl rfl rfl]) | rw [hl _ _ rfl rfl rfl]
  exact Steps.refl _
end New
end Jvm.RoadKit
namespace Jvm.Pilot.@@N@@
open Jvm Jvm.ClassFile Sem Op Lib Jvm.Free Jvm.Stand Jvm.LawKit Jvm.RoadKit Bundle Jvm.Pilot.@@N@@.Jvm.D
/-- the run from a frame of this method ends in a return with Q -/
def Go (p : Program) (e : Env) (s : State) (below : List Frame) (kc ks : Nat) (Q : Option Value → Heap → List Loc → Prop) (T : State) (f : JFrame) : Prop :=
  ∃ s₂ o, Steps p.tables e below (T.setTop f) s₂ ∧ s₂.status = .running ∧ Ended s₂ below o ∧ ∃ v L, o = .returned v ∧ Q v s₂.heap L ∧ FrameEnd s o s₂ L kc ks
/-- what is known of the method that runs -/
def Cx (p : Program) (s : State) (m : MethodId) (meth : Method) (c : Code) (Z : State) (own nm : String) (code : ByteArray) (maxL : Nat) (ret : Option FieldType) : Prop :=
  p.tables.exec = Jvm.exec ∧ Z.Warmed39 s.vm ∧ c.code = code ∧ c.maxLocals = maxL ∧ s.vm.findClass own = some m.cls ∧ meth.name = nm ∧ meth.sig.returnType = ret ∧ meth.locks = false
/-- a contract -/
def Ctr (l : Launch) (Z : State) (y : MethodName) (bytes : ByteArray) (maxL : Nat) (ret : Option FieldType) (ws : List Jvm.Cond) (rm : Room) (kc ks : Nat) (as : Array Value) (h : Heap) (Q : Option Value → Heap → List Loc → Prop) : Prop :=
  MetFree l y (head1 (Jvm.Cond.code y bytes maxL ret :: ws) rm) (fun a U => a = as ∧ Z.Warmed39 U.vm ∧ U.heap = h) (fun _ _ _ _ _ => True) (fun _ U o U' => ∃ v L, o = .returned v ∧ Q v U'.heap L ∧ FrameEnd U o U' L kc ks)
def bi (P : Prop) [Decidable P] : Int32 := if P then 1 else 0
theorem bi_t {P : Prop} [Decidable P] (h : P) : bi P = 1 := if_pos h
theorem bi_f {P : Prop} [Decidable P] (h : ¬ P) : bi P = 0 := if_neg h
theorem bi_n {P : Prop} [Decidable P] (h : P) : ¬ bi P = 0 := by rw [bi_t h]; decide
theorem bi_1 {P : Prop} [Decidable P] : bi P = 1 ↔ P := by unfold bi; split <;> simp_all
theorem bi_0 {P : Prop} [Decidable P] : bi P = 0 ↔ ¬ P := by unfold bi; split <;> simp_all
theorem bi_eq {P P' : Prop} [Decidable P] [Decidable P'] : bi P = bi P' ↔ (P ↔ P') := by unfold bi; split <;> split <;> simp_all
theorem bi_congr {P P' : Prop} [Decidable P] [Decidable P'] (h : P ↔ P') : bi P = bi P' := bi_eq.mpr h
theorem bi_fits {P : Prop} [Decidable P] : fits .boolean (.int (bi P)) = true := by unfold bi; split <;> rfl
theorem bi_nar {P : Prop} [Decidable P] : nar .boolean (bi P) = bi P := by unfold bi; split <;> rfl
section Own
variable {p : Program} {l : Launch} {e : Env} {R : Room} {s : State} {m : MethodId} {args : Array Value} {below : List Frame} {meth : Method} {c : Code} {T : State} {locs : List Loc} {cells slots kc ks : Nat} {Q : Option Value → Heap → List Loc → Prop} {Z : State} {a0 : Array Value} {h : Heap}
theorem Go.step {T' : State} {f f' : JFrame} (st : ∀ t, Steps p.tables e below (T'.setTop f') t → Steps p.tables e below (T.setTop f) t) (k : Go p e s below kc ks Q T' f') : Go p e s below kc ks Q T f := by
  obtain ⟨s₂, o, h1, r⟩ := k; exact ⟨s₂, o, st _ h1, r⟩
theorem Go.mono {Q' : Option Value → Heap → List Loc → Prop} {f : JFrame} (k : Go p e s below kc ks Q T f) (h : ∀ v h L, Q v h L → Q' v h L) : Go p e s below kc ks Q' T f := by
  obtain ⟨s₂, o, h1, h2, h3, v, L, h4, h5, h6⟩ := k; exact ⟨s₂, o, h1, h2, h3, v, L, h4, h _ _ _ h5, h6⟩
theorem Ctr.mk {y : MethodName} {bytes : ByteArray} {maxL : Nat} {ret : Option FieldType} {ws : List Jvm.Cond} {rm : Room} {as : Array Value} (hp : plainFor y = true)
    (hgo : ∀ (p : Program) (e : Env) (s : State) (m : MethodId) (below : List Frame) (meth : Method) (c : Code) (s₁ : State), Stand p l e rm s m as below meth c s₁ [] 0 0 → Cx p s m meth c Z y.cls y.name bytes maxL ret → s₁.heap = h → Go p e s below kc ks Q s₁ (entryFrame m as maxL)) :
    Ctr l Z y bytes maxL ret ws rm kc ks as h Q := by
  refine MetFree.of_bodySF hp hisR ?_
  intro p e s m args below meth c s₁ Bd hml0 hP hK
  obtain ⟨rfl, hZ, hh⟩ := hP
  exact hgo p e s m below meth c s₁ (Stand.of_body Bd) ⟨Bd.exec, hZ, Bd.bytes, hml0, findClass_of_methodNamed Bd.named, (name_of_methodNamed Bd.named Bd.method).1, Bd.returns, Bd.notSynchronized⟩ (by rw [← hh, Bd.state]; rfl)
theorem go_cast {f f' : JFrame} (q : f = f') (k : Go p e s below kc ks Q T f') : Go p e s below kc ks Q T f := q ▸ k
theorem go_retI (X : Stand p l e R s m args below meth c T locs cells slots) (hx : p.tables.exec = Jvm.exec) (hret : meth.sig.returnType = some .int) (hlk : meth.locks = false) {pc : Nat} {Ls : Array Slot} {z : Int32} {rest : List Value} (hd : decode c.code pc = .ok (.ireturn, 1))
    (hQ : Q (some (.int z)) T.heap locs) (hc : cells ≤ kc) (hs : slots ≤ ks) : Go p e s below kc ks Q T (mkF m pc Ls (.int z :: rest)) := by
  obtain ⟨fs, hr, hrun, hended, hW, hsame⟩ := X.leave (v := some (.int z)) (fun h => by rw [hret] at h; cases h) hlk
  exact ⟨_, _, retI X hx hret hd hr, hrun, hended, _, _, rfl, hQ, ⟨_, rfl⟩, hW, hsame.mono hc hs⟩
theorem go_retN (X : Stand p l e R s m args below meth c T locs cells slots) (hx : p.tables.exec = Jvm.exec) {t : FieldType} (hret : meth.sig.returnType = some t) (ht : t = .boolean ∨ t = .byte ∨ t = .char ∨ t = .short) (hlk : meth.locks = false) {pc : Nat} {Ls : Array Slot} {z w : Int32} {rest : List Value} (hd : decode c.code pc = .ok (.ireturn, 1))
    (hz : nar t z = w) (hQ : Q (some (.int w)) T.heap locs) (hc : cells ≤ kc) (hs : slots ≤ ks) : Go p e s below kc ks Q T (mkF m pc Ls (.int z :: rest)) := by
  subst hz
  obtain ⟨fs, hr, hrun, hended, hW, hsame⟩ := X.leave (v := some (.int (nar t z))) (fun h => by rw [hret] at h; cases h) hlk
  exact ⟨_, _, retN X hx hret ht hd hr, hrun, hended, _, _, rfl, hQ, ⟨_, rfl⟩, hW, hsame.mono hc hs⟩
theorem go_retJ (X : Stand p l e R s m args below meth c T locs cells slots) (hx : p.tables.exec = Jvm.exec) (hret : meth.sig.returnType = some .long) (hlk : meth.locks = false) {pc : Nat} {Ls : Array Slot} {z : Int64} (hd : decode c.code pc = .ok (.lreturn, 1))
    (hQ : Q (some (.long z)) T.heap locs) (hc : cells ≤ kc) (hs : slots ≤ ks) : Go p e s below kc ks Q T (mkF m pc Ls [.long z]) := by
  obtain ⟨fs, hr, hrun, hended, hW, hsame⟩ := X.leave (v := some (.long z)) (fun h => by rw [hret] at h; cases h) hlk
  exact ⟨_, _, X.lreturnOut hx hret hd hr, hrun, hended, _, _, rfl, hQ, ⟨_, rfl⟩, hW, hsame.mono hc hs⟩
theorem go_retA (X : Stand p l e R s m args below meth c T locs cells slots) (hx : p.tables.exec = Jvm.exec) {t : FieldType} (hret : meth.sig.returnType = some t) (ht : t.isReference = true) (hlk : meth.locks = false) {pc : Nat} {Ls : Array Slot} {w : Value} {rest : List Value} (hw : w.isRef = true) (hd : decode c.code pc = .ok (.areturn, 1))
    (hQ : Q (some w) T.heap locs) (hc : cells ≤ kc) (hs : slots ≤ ks) : Go p e s below kc ks Q T (mkF m pc Ls (w :: rest)) := by
  obtain ⟨fs, hr, hrun, hended, hW, hsame⟩ := X.leave (v := some w) (fun h => by rw [hret] at h; cases h) hlk
  have hn : narrow t w = w := by cases t <;> first | rfl | simp [FieldType.isReference] at ht
  exact ⟨_, _, retOut X hx hret hn (Or.inr (Or.inr (Or.inr (Or.inr ⟨rfl, ht, hw⟩)))) hd hr, hrun, hended, _, _, rfl, hQ, ⟨_, rfl⟩, hW, hsame.mono hc hs⟩
theorem go_ret (X : Stand p l e R s m args below meth c T locs cells slots) (hx : p.tables.exec = Jvm.exec) (hret : meth.sig.returnType = none) (hlk : meth.locks = false) {pc : Nat} {Ls : Array Slot} (hd : decode c.code pc = .ok (.return_, 1))
    (hQ : Q none T.heap locs) (hc : cells ≤ kc) (hs : slots ≤ ks) : Go p e s below kc ks Q T (mkF m pc Ls []) := by
  obtain ⟨fs, hr, hrun, hended, hW, hsame⟩ := X.leave (v := none) (fun _ => rfl) hlk
  exact ⟨_, _, X.returnOut hx hret hd hr, hrun, hended, _, _, rfl, hQ, ⟨_, rfl⟩, hW, hsame.mono hc hs⟩
/-! calls by a contract -/
section Calls
variable {own : String} {index : Nat} {y : MethodName} {bytes : ByteArray} {maxL : Nat} {ret r : Option FieldType} {rm : Room} {Qc : Option Value → Heap → List Loc → Prop} {argsL rest : List Value} {ps : List FieldType} {pc W : Nat} {Ls : Array Slot} {a : Addr}
theorem c_static (X : Stand p l e R s m args below meth c T locs cells slots) (hx : p.tables.exec = Jvm.exec) (hZ : Z.Warmed39 s.vm) (hown : s.vm.findClass own = some m.cls)
    (w1 : (Jvm.Cond.methodLink own index y).before a0 Z = true) (w2 : (Jvm.Cond.static y).before a0 Z = true) (w3 : (Jvm.Cond.initialized y.cls).before a0 Z = true) (w4 : (Jvm.Cond.code y bytes maxL ret).before a0 Z = true) (hy : y.cls ≠ "java/lang/invoke/MethodHandle" ∧ y.cls ≠ "java/lang/invoke/VarHandle")
    (hC : Ctr l Z y bytes maxL ret [] rm rm.cells rm.slots argsL.toArray h Qc) (eT : T.heap = h) (hpd : parseMethodDescriptor y.desc = some ⟨ps, r⟩) (hlen : argsL.length = ps.length) (hsz : Ls.size = c.maxLocals) (hW : 2 * 0 + (rest.map fun v => v.category).sum ≤ W)
    (hf : rm.frames + 1 ≤ R.frames) (hl : W + (maxL + 11) + rm.locals ≤ R.locals) (hc : cells + rm.cells ≤ R.cells) (hs : slots + rm.slots ≤ R.slots) (hd : decode c.code pc = .ok (.invokestatic index, 3)) :
    ∃ (v : Option Value) (T' : State) (L : List Loc), Stand p l e R s m args below meth c T' (locs ++ L) (cells + rm.cells) (slots + rm.slots) ∧ Qc v T'.heap L ∧
      ∀ t, Steps p.tables e below (T'.setTop (mkF m (pc + 3) Ls (v.toList ++ rest))) t → Steps p.tables e below (T.setTop (mkF m pc Ls (argsL.reverse ++ rest))) t := by
  obtain ⟨v, _, ⟨T', L', k', n'⟩, -, X', ⟨L, hQ, rfl, rfl, rfl⟩, st⟩ := Jvm.LawKit.callS X hx (y := y) hown (mvT hZ w1) (mvT hZ w2) (mvT hZ w3) (mvT hZ w4) hy (backOf (W := W) hC hZ w4 w3 hf hl) (g := mkF m pc Ls (argsL.reverse ++ rest)) rfl hsz (argsL := argsL) (rest := rest) (lenOf hpd hlen) rfl hW hd (fun _ _ => ⟨rfl, eT, hc, hs⟩)
  exact ⟨v, T', L, X', hQ, st⟩
theorem c_init (X : Stand p l e R s m args below meth c T locs cells slots) (hx : p.tables.exec = Jvm.exec) (hZ : Z.Warmed39 s.vm) (hown : s.vm.findClass own = some m.cls)
    (w1 : (Jvm.Cond.methodLink own index y).before a0 Z = true) (w2 : (Jvm.Cond.instanceMethod y).before a0 Z = true) (w3 : (Jvm.Cond.initialized y.cls).before a0 Z = true) (w4 : (Jvm.Cond.code y bytes maxL none).before a0 Z = true) (hn : y.name = "<init>") (hy : y.cls ≠ "java/lang/invoke/MethodHandle" ∧ y.cls ≠ "java/lang/invoke/VarHandle")
    (hC : Ctr l Z y bytes maxL none [] rm rm.cells rm.slots (.ref a :: argsL).toArray h Qc) (eT : T.heap = h) (hpd : parseMethodDescriptor y.desc = some ⟨ps, r⟩) (hlen : argsL.length = ps.length) (hsz : Ls.size = c.maxLocals) (hW : 2 * 0 + (rest.map fun v => v.category).sum ≤ W)
    (hf : rm.frames + 1 ≤ R.frames) (hl : W + (maxL + 11) + rm.locals ≤ R.locals) (hc : cells + rm.cells ≤ R.cells) (hs : slots + rm.slots ≤ R.slots) (hd : decode c.code pc = .ok (.invokespecial index, 3)) :
    ∃ (v : Option Value) (T' : State) (L : List Loc), Stand p l e R s m args below meth c T' (locs ++ L) (cells + rm.cells) (slots + rm.slots) ∧ Qc v T'.heap L ∧
      ∀ t, Steps p.tables e below (T'.setTop (mkF m (pc + 3) Ls (v.toList ++ rest))) t → Steps p.tables e below (T.setTop (mkF m pc Ls (argsL.reverse ++ .ref a :: rest))) t := by
  obtain ⟨v, _, ⟨T', L', k', n'⟩, -, X', ⟨L, hQ, rfl, rfl, rfl⟩, st⟩ := X.specialBack hx (y := y) hn hown (mvT hZ w1) (mvT hZ w2) (mvT hZ w4) hy (backOf (W := W) hC hZ w4 w3 hf hl) (g := mkF m pc Ls (argsL.reverse ++ .ref a :: rest)) rfl hsz (Steps.refl _) (a := a) (argsL := argsL) (rest := rest) (lenOf hpd hlen) rfl hW hd (fun _ _ => ⟨rfl, eT, hc, hs⟩)
  exact ⟨v, T', L, X', hQ, fun t k => st.trans k⟩
theorem c_virt {y' : MethodName} {C : String} (X : Stand p l e R s m args below meth c T locs cells slots) (hx : p.tables.exec = Jvm.exec) (hZ : Z.Warmed39 s.vm) (hown : s.vm.findClass own = some m.cls)
    (w1 : (Jvm.Cond.methodLink own index y').before a0 Z = true) (wd : (Jvm.Cond.declares y').before a0 Z = true) (nf : NotFace s y') (ws : (Jvm.Cond.selects C y' y).before a0 Z = true) (w2 : (Jvm.Cond.instanceMethod y).before a0 Z = true) (w3 : (Jvm.Cond.initialized y.cls).before a0 Z = true) (w4 : (Jvm.Cond.code y bytes maxL ret).before a0 Z = true) (hy : y'.cls ≠ "java/lang/invoke/MethodHandle" ∧ y'.cls ≠ "java/lang/invoke/VarHandle")
    (hC : Ctr l Z y bytes maxL ret [] rm rm.cells rm.slots (.ref a :: argsL).toArray h Qc) (eT : T.heap = h) (E : Exa Z h a C) (hpd : parseMethodDescriptor y'.desc = some ⟨ps, r⟩) (hlen : argsL.length = ps.length) (hsz : Ls.size = c.maxLocals) (hW : 2 * 0 + (rest.map fun v => v.category).sum ≤ W)
    (hf : rm.frames + 1 ≤ R.frames) (hl : W + (maxL + 11) + rm.locals ≤ R.locals) (hc : cells + rm.cells ≤ R.cells) (hs : slots + rm.slots ≤ R.slots) (hd : decode c.code pc = .ok (.invokevirtual index, 3)) :
    ∃ (v : Option Value) (T' : State) (L : List Loc), Stand p l e R s m args below meth c T' (locs ++ L) (cells + rm.cells) (slots + rm.slots) ∧ Qc v T'.heap L ∧
      ∀ t, Steps p.tables e below (T'.setTop (mkF m (pc + 3) Ls (v.toList ++ rest))) t → Steps p.tables e below (T.setTop (mkF m pc Ls (argsL.reverse ++ .ref a :: rest))) t := by
  obtain ⟨cq, kq, qa, qb, qc⟩ := isOf hZ eT E
  obtain ⟨v, _, ⟨T', L', k', n'⟩, -, X', ⟨L, hQ, rfl, rfl, rfl⟩, st⟩ := X.virtualBack hx (y := y') (z := y) hown (mvT hZ w1) (mvT hZ wd) nf (mvT hZ ws) (mvT hZ w2) hy (backOf (W := W) hC hZ w4 w3 hf hl) qa qc (g := mkF m pc Ls (argsL.reverse ++ .ref a :: rest)) rfl hsz (Steps.refl _) (argsL := argsL) (rest := rest) (lenOf hpd hlen) rfl hW hd (fun _ _ => ⟨rfl, eT, hc, hs⟩)
  exact ⟨v, T', L, X', hQ, fun t k => st.trans k⟩
theorem own_nf {y' z : MethodName} {C : String} {as : Array Value} (ws : (Jvm.Cond.selects C y' z).before as s = true) (h : z.cls = y.cls) : NotFace s y := fun r0 h0 => by
  obtain ⟨_, _, m2, -, -, q3, -, kP, hkP, hkPi⟩ := Cond.selects_spec ws
  have e1 := findClass_of_methodNamed q3
  rw [h] at e1
  have e2 : m2.cls = r0.cls := Option.some.inj (e1.symm.trans (findClass_of_methodNamed h0))
  exact ⟨kP, e2 ▸ hkP, hkPi⟩
/-- a private method of an object, by invokevirtual: its class isn't an interface (nf) -/
theorem c_priv {C : String} (X : Stand p l e R s m args below meth c T locs cells slots) (hx : p.tables.exec = Jvm.exec) (hZ : Z.Warmed39 s.vm) (hown : s.vm.findClass own = some m.cls)
    (w1 : (Jvm.Cond.methodLink own index y).before a0 Z = true) (w2 : (Jvm.Cond.instanceMethod y).before a0 Z = true) (nf : NotFace s y) (wp : (Jvm.Cond.privateMethod y).before a0 Z = true) (w3 : (Jvm.Cond.initialized y.cls).before a0 Z = true) (w4 : (Jvm.Cond.code y bytes maxL ret).before a0 Z = true) (hy : y.cls ≠ "java/lang/invoke/MethodHandle" ∧ y.cls ≠ "java/lang/invoke/VarHandle")
    (hC : Ctr l Z y bytes maxL ret [] rm rm.cells rm.slots (.ref a :: argsL).toArray h Qc) (eT : T.heap = h) (E : Exa Z h a C) (hpd : parseMethodDescriptor y.desc = some ⟨ps, r⟩) (hlen : argsL.length = ps.length) (hsz : Ls.size = c.maxLocals) (hW : 2 * 0 + (rest.map fun v => v.category).sum ≤ W)
    (hf : rm.frames + 1 ≤ R.frames) (hl : W + (maxL + 11) + rm.locals ≤ R.locals) (hc : cells + rm.cells ≤ R.cells) (hs : slots + rm.slots ≤ R.slots) (hd : decode c.code pc = .ok (.invokevirtual index, 3)) :
    ∃ (v : Option Value) (T' : State) (L : List Loc), Stand p l e R s m args below meth c T' (locs ++ L) (cells + rm.cells) (slots + rm.slots) ∧ Qc v T'.heap L ∧
      ∀ t, Steps p.tables e below (T'.setTop (mkF m (pc + 3) Ls (v.toList ++ rest))) t → Steps p.tables e below (T.setTop (mkF m pc Ls (argsL.reverse ++ .ref a :: rest))) t := by
  obtain ⟨cq, qa, qb⟩ := E.cell
  obtain ⟨mk, methM, hnamed, hmethM, hstM, habM⟩ := Cond.instanceMethod_spec (mvT (args := args) hZ w2)
  obtain ⟨methM', cM, hmethM', -, -, -, -, -, -, hsigM⟩ := Cond.code_spec hnamed (mvT (args := args) hZ w4)
  cases hmethM.symm.trans hmethM'
  obtain ⟨kP, hkP, hkPi⟩ := nf mk hnamed
  have hsel : selectMethod e.platform s.vm cq.cls mk = .method mk := selectMethod_private hmethM ((Cond.privateMethod_at (mvP hZ wp (args := #[]))) mk methM hnamed hmethM)
  obtain ⟨vm₁, X₁, hst⟩ := X.invokevirtual hx hown (mvT hZ w1) hnamed hmethM hstM hkP hkPi hy (a := a) (cell := cq) (by rw [eT]; exact qa) qb hsel hmethM habM hkP hkPi (g := mkF m pc Ls (argsL.reverse ++ .ref a :: rest)) rfl (argsL := argsL) (rest := rest) (lenOf hpd hlen _ hsigM) rfl hd
  obtain ⟨v, ⟨T', L', k', n'⟩, X', ⟨L, hQ, rfl, rfl, rfl⟩, hgo⟩ := (backOf (W := W) (len := 3) hC hZ w4 w3 hf hl) m meth c ⟨T.setVm vm₁, locs, cells, slots⟩ (mkF m pc Ls rest) (.invokevirtual index) mk (.ref a :: argsL).toArray X₁ rfl hsz hd hW (X₁.named hnamed) ⟨rfl, eT, hc, hs⟩
  exact ⟨v, T', L, X', hQ, fun t k => ((hst _ fun acts => by rw [doInvoke_state]; exact Steps.refl _).trans hgo).trans k⟩
/-- invokevirtual of a method that a class above the one that the entry names declares -/
theorem c_virtUp {y' : MethodName} {C owner : String} (X : Stand p l e R s m args below meth c T locs cells slots) (hx : p.tables.exec = Jvm.exec) (hZ : Z.Warmed39 s.vm) (hown : s.vm.findClass own = some m.cls)
    (w1 : (Jvm.Cond.methodLink own index y').before a0 Z = true) (wm : (Jvm.Cond.sameMethod y'.cls owner y'.name y'.desc).before a0 Z = true) (wd : (Jvm.Cond.declares ⟨owner, y'.name, y'.desc⟩).before a0 Z = true) (ws : (Jvm.Cond.selects C y' y).before a0 Z = true) (w2 : (Jvm.Cond.instanceMethod y).before a0 Z = true) (w3 : (Jvm.Cond.initialized y.cls).before a0 Z = true) (w4 : (Jvm.Cond.code y bytes maxL ret).before a0 Z = true) (hy : owner ≠ "java/lang/invoke/MethodHandle" ∧ owner ≠ "java/lang/invoke/VarHandle")
    (hC : Ctr l Z y bytes maxL ret [] rm rm.cells rm.slots (.ref a :: argsL).toArray h Qc) (eT : T.heap = h) (E : Exa Z h a C) (hpd : parseMethodDescriptor y'.desc = some ⟨ps, r⟩) (hlen : argsL.length = ps.length) (hsz : Ls.size = c.maxLocals) (hW : 2 * 0 + (rest.map fun v => v.category).sum ≤ W)
    (hf : rm.frames + 1 ≤ R.frames) (hl : W + (maxL + 11) + rm.locals ≤ R.locals) (hc : cells + rm.cells ≤ R.cells) (hs : slots + rm.slots ≤ R.slots) (hd : decode c.code pc = .ok (.invokevirtual index, 3)) :
    ∃ (v : Option Value) (T' : State) (L : List Loc), Stand p l e R s m args below meth c T' (locs ++ L) (cells + rm.cells) (slots + rm.slots) ∧ Qc v T'.heap L ∧
      ∀ t, Steps p.tables e below (T'.setTop (mkF m (pc + 3) Ls (v.toList ++ rest))) t → Steps p.tables e below (T.setTop (mkF m pc Ls (argsL.reverse ++ .ref a :: rest))) t := by
  obtain ⟨cq, kq, qa, qb, qc⟩ := isOf hZ eT E
  obtain ⟨v, _, ⟨T', L', k', n'⟩, -, X', ⟨L, hQ, rfl, rfl, rfl⟩, st⟩ := X.virtualBackUp hx (x := y') (y := y) hown (mvT hZ w1) (mvT hZ wm) (mvT hZ wd) hy (mvT hZ ws) (mvT hZ w2) (backOf (W := W) hC hZ w4 w3 hf hl) qa qc (g := mkF m pc Ls (argsL.reverse ++ .ref a :: rest)) rfl hsz (Steps.refl _) (argsL := argsL) (rest := rest) (lenOf hpd hlen) rfl hW hd (fun _ _ => ⟨rfl, eT, hc, hs⟩)
  exact ⟨v, T', L, X', hQ, fun t k => st.trans k⟩
end Calls
end Own
/-! arrays by a function of the place -/
def upd (f : Nat → Value) (k : Nat) (v : Value) : Nat → Value := fun i => if i = k then v else f i
def lst (L : List Value) : Nat → Value := fun i => L.getD i .null
theorem upd_eq {f : Nat → Value} {k : Nat} {v : Value} : upd f k v k = v := if_pos rfl
theorem upd_ne {f : Nat → Value} {k i : Nat} {v : Value} (h : i ≠ k) : upd f k v i = f i := if_neg h
def AV (Z : State) (h : Heap) (a : Addr) (ty : FieldType) (n : Nat) (f : Nat → Value) : Prop := ∃ c : Cell, Arr Z h a c ty ∧ c.slots.size = n ∧ n < 2147483648 ∧ ∀ i, i < n → c.slots[i]? = some (f i)
section Arrays
variable {Z : State} {h h' : Heap} {a b : Addr} {ty : FieldType} {n k : Nat} {f g : Nat → Value} {v w : Value} {j : Int32} {ws : List Addr} {sl : Nat}
theorem AV.lt (A : AV Z h a ty n f) : a < h.size := by obtain ⟨c, A, -⟩ := A; exact A.lt
theorem AV.ext (A : AV Z h a ty n f) (E : Ext h h') : AV Z h' a ty n f := by obtain ⟨c, A, r⟩ := A; exact ⟨c, A.ext E, r⟩
theorem AV.other (A : AV Z h b ty n f) (W : Wr h h' a sl v) (q : b ≠ a) : AV Z h' b ty n f := by obtain ⟨c, A, r⟩ := A; exact ⟨c, A.other W q, r⟩
theorem AV.keep (A : AV Z h a ty n f) (K : Keep h h' ws) (q : a ∉ ws) : AV Z h' a ty n f := by obtain ⟨c, A, r⟩ := A; exact ⟨c, ⟨K.2.1 a c A.1 q, A.2⟩, r⟩
theorem AV.congr (A : AV Z h a ty n f) (q : ∀ i, i < n → f i = g i) : AV Z h a ty n g := by obtain ⟨c, A, r1, r2, r3⟩ := A; exact ⟨c, A, r1, r2, fun i hi => by rw [r3 i hi, q i hi]⟩
theorem AV.bound (A : AV Z h a ty n f) : n < 2147483648 := by obtain ⟨c, A, r1, r2, r3⟩ := A; exact r2
theorem clamp_of (hj : j.toInt = (k : Int)) : j.toNatClampNeg = k := by show j.toInt.toNat = k; rw [hj]; rfl
theorem in_of {c : Cell} (hj : j.toInt = (k : Int)) (hs : c.slots.size = n) (hk : k < n) : ¬ (j < 0 ∨ c.slots.size ≤ j.toNatClampNeg) := by
  rw [clamp_of hj, hs, Int32.lt_iff_toInt_lt, hj]; simp only [Int32.reduceToInt]; omega
theorem AV.new {cA : ClassId} {z : Int32} (A : Arr Z h a (newA cA ty z) ty) (hz : z.toInt = (n : Int)) : AV Z h a ty n (fun _ => defaultValue ty) := by
  have q := clamp_of hz
  have hb := Int32.toInt_lt z
  refine ⟨_, A, by rw [sz_new]; exact q, by omega, fun i hi => ?_⟩
  have hi' : i < z.toNatClampNeg := by rw [q]; exact hi
  simp [newA, hi']
theorem AV.at (A : AV Z h a ty n f) (hj : j.toInt = (k : Int)) (hk : k < n) : ∃ cl : Cell, Arr Z h a cl ty ∧ ¬ (j < 0 ∨ cl.slots.size ≤ j.toNatClampNeg) ∧ cl.slots[j.toNatClampNeg]? = some (f k) := by
  obtain ⟨c, A, r1, r2, r3⟩ := A
  exact ⟨c, A, in_of hj r1 hk, by rw [clamp_of hj]; exact r3 k hk⟩
theorem AV.set (A : AV Z h a ty n f) (hj : j.toInt = (k : Int)) (hk : k < n) (W : Wr h h' a j.toNatClampNeg v) : AV Z h' a ty n (upd f k v) := by
  obtain ⟨c, A, r1, r2, r3⟩ := A
  refine ⟨_, A.same W, by rw [sz_set]; exact r1, r2, fun i hi => ?_⟩
  rw [clamp_of hj]
  by_cases e : i = k
  · subst e; simp [Cell.setSlot, r1, hi, upd]
  · rw [upd_ne e, ← r3 i hi]; exact Array.getElem?_setIfInBounds_ne (Ne.symm e)
theorem AV.setL {L L' : List Value} (A : AV Z h a ty n (lst L)) (hj : j.toInt = (k : Int)) (hk : k < n) (W : Wr h h' a j.toNatClampNeg v) (hl : k < L.length) (e : L.set k v = L') : AV Z h' a ty n (lst L') := by
  subst e
  refine (A.set hj hk W).congr fun i hi => ?_
  by_cases q : i = k
  · subst q; simp [upd, lst, List.getD_eq_getElem?_getD, hl]
  · rw [upd_ne q]; simp [lst, List.getD_eq_getElem?_getD, List.getElem?_set_ne (Ne.symm q)]
theorem AV.newL {L : List Value} (A : AV Z h a ty n (fun _ => v)) (e : L = List.replicate n v) : AV Z h a ty n (lst L) := by
  subst e; refine A.congr fun i hi => ?_
  simp [lst, List.getD_eq_getElem?_getD, List.getElem?_replicate, hi]
theorem AV.len (A : AV Z h a ty n f) : ∃ cl : Cell, Arr Z h a cl ty ∧ cl.slots.size.toInt32 = Int32.ofNat n := by
  obtain ⟨c, A, r1, r2, r3⟩ := A; exact ⟨c, A, by rw [r1]⟩
theorem own_cls {cA : ClassId} {z : Int32} {ad : String} (A : Arr Z h a (newA cA ty z) ty) (E : Exa Z h a ad) : Z.vm.findClass ad = some cA := by
  obtain ⟨cell, k, e1, e2, -⟩ := E
  cases A.1.symm.trans e1
  exact e2
theorem own_sto {cA : ClassId} {cl : Cell} {ad C : String} {y : Addr} (A : Arr Z h a cl ty) (E : Exa Z h a ad) (hA : Z.vm.findClass ad = some cA) (O : Ovr Z cA C) (I : Ins Z h y C true) : Sto Z h a (.ref y) := by
  obtain ⟨cell, k, e1, e2, -⟩ := E
  cases A.1.symm.trans e1
  have q : cl.cls = cA := Option.some.inj (e2.symm.trans hA)
  exact Sto.of A (q ▸ O) I
theorem own_sta_keep {C n' d : String} (F : Sta Z h C n' d v) (K : Keep h h' []) : Sta Z h' C n' d v := by
  obtain ⟨cf, i, k, f, st, cell, h1, h2, h3, h4, h5, h6, h7⟩ := F
  exact ⟨cf, i, k, f, st, cell, h1, h2, h3, h4, K.2.1 _ _ h5 (fun q => nomatch q), h6, h7⟩
end Arrays
section ASteps
variable {p : Program} {l : Launch} {e : Env} {R : Room} {s : State} {m : MethodId} {args : Array Value} {below : List Frame} {meth : Method} {c : Code} {T : State} {locs : List Loc} {cells slots : Nat} {Z : State} {a0 : Array Value} {h : Heap} {a : Addr} {n k pc : Nat} {f : Nat → Value} {j : Int32} {Ls : Array Slot} {rest : List Value}
theorem a_iload (X : Stand p l e R s m args below meth c T locs cells slots) (hx : p.tables.exec = Jvm.exec) (hZ : Z.Warmed39 s.vm) (eT : T.heap = h) (A : AV Z h a .int n f) (hj : j.toInt = (k : Int)) (hk : k < n) {x : Int32} (hv : f k = .int x) (hd : decode c.code pc = .ok (.iaload, 1)) :
    ∀ t, Steps p.tables e below (T.setTop (mkF m (pc + 1) Ls (.int x :: rest))) t → Steps p.tables e below (T.setTop (mkF m pc Ls (.int j :: .ref a :: rest))) t := by
  obtain ⟨cl, A, hin, hat⟩ := A.at hj hk
  rw [hv] at hat
  exact X.iaload hx (j := j) (v := .int x) (by rw [eT]; exact A.1) (State.isArrayOf_alike hZ.alike A.2.1) A.2.2 hin hat (g := mkF m pc Ls (.int j :: .ref a :: rest)) rfl rfl hd
theorem a_cload (X : Stand p l e R s m args below meth c T locs cells slots) (hx : p.tables.exec = Jvm.exec) (hZ : Z.Warmed39 s.vm) (eT : T.heap = h) (A : AV Z h a .char n f) (hj : j.toInt = (k : Int)) (hk : k < n) {x : Int32} (hv : f k = .int x) (hd : decode c.code pc = .ok (.caload, 1)) :
    ∀ t, Steps p.tables e below (T.setTop (mkF m (pc + 1) Ls (.int x :: rest))) t → Steps p.tables e below (T.setTop (mkF m pc Ls (.int j :: .ref a :: rest))) t := by
  obtain ⟨cl, A, hin, hat⟩ := A.at hj hk
  rw [hv] at hat
  exact X.caload hx (j := j) (v := .int x) (by rw [eT]; exact A.1) (State.isArrayOf_alike hZ.alike A.2.1) A.2.2 hin hat (g := mkF m pc Ls (.int j :: .ref a :: rest)) rfl rfl hd
theorem a_bload (X : Stand p l e R s m args below meth c T locs cells slots) (hx : p.tables.exec = Jvm.exec) (hZ : Z.Warmed39 s.vm) (eT : T.heap = h) (A : AV Z h a .byte n f) (hj : j.toInt = (k : Int)) (hk : k < n) {x : Int32} (hv : f k = .int x) (hd : decode c.code pc = .ok (.baload, 1)) :
    ∀ t, Steps p.tables e below (T.setTop (mkF m (pc + 1) Ls (.int x :: rest))) t → Steps p.tables e below (T.setTop (mkF m pc Ls (.int j :: .ref a :: rest))) t := by
  obtain ⟨cl, A, hin, hat⟩ := A.at hj hk
  rw [hv] at hat
  exact X.baloadBytes hx (j := j) (v := .int x) (by rw [eT]; exact A.1) (State.isArrayOf_alike hZ.alike A.2.1) A.2.2 hin hat (g := mkF m pc Ls (.int j :: .ref a :: rest)) rfl rfl hd
theorem a_jload (X : Stand p l e R s m args below meth c T locs cells slots) (hx : p.tables.exec = Jvm.exec) (hZ : Z.Warmed39 s.vm) (eT : T.heap = h) (A : AV Z h a .long n f) (hj : j.toInt = (k : Int)) (hk : k < n) {x : Int64} (hv : f k = .long x) (hd : decode c.code pc = .ok (.laload, 1)) :
    ∀ t, Steps p.tables e below (T.setTop (mkF m (pc + 1) Ls (.long x :: rest))) t → Steps p.tables e below (T.setTop (mkF m pc Ls (.int j :: .ref a :: rest))) t := by
  obtain ⟨cl, A, hin, hat⟩ := A.at hj hk
  rw [hv] at hat
  exact X.laload hx (j := j) (v := .long x) (by rw [eT]; exact A.1) (State.isArrayOf_alike hZ.alike A.2.1) A.2.2 hin hat (g := mkF m pc Ls (.int j :: .ref a :: rest)) rfl rfl hd
theorem a_rload {ty : FieldType} (X : Stand p l e R s m args below meth c T locs cells slots) (hx : p.tables.exec = Jvm.exec) (hZ : Z.Warmed39 s.vm) (eT : T.heap = h) (A : AV Z h a ty n f) (ht : ty.isReference = true) (hj : j.toInt = (k : Int)) (hk : k < n) {v : Value} (hv : f k = v) (hd : decode c.code pc = .ok (.aaload, 1)) :
    ∀ t, Steps p.tables e below (T.setTop (mkF m (pc + 1) Ls (v :: rest))) t → Steps p.tables e below (T.setTop (mkF m pc Ls (.int j :: .ref a :: rest))) t := by
  obtain ⟨cl, A, hin, hat⟩ := A.at hj hk
  rw [hv] at hat
  exact X.aaload hx (j := j) (v := v) (by rw [eT]; exact A.1) (State.isArrayOf_alike hZ.alike A.2.1) ht A.2.2 hin hat (g := mkF m pc Ls (.int j :: .ref a :: rest)) rfl rfl hd
theorem a_len {ty : FieldType} (X : Stand p l e R s m args below meth c T locs cells slots) (hx : p.tables.exec = Jvm.exec) (hZ : Z.Warmed39 s.vm) (eT : T.heap = h) (A : AV Z h a ty n f) {z : Int32} (hz : z.toInt = (n : Int)) (hd : decode c.code pc = .ok (.arraylength, 1)) :
    ∀ t, Steps p.tables e below (T.setTop (mkF m (pc + 1) Ls (.int z :: rest))) t → Steps p.tables e below (T.setTop (mkF m pc Ls (.ref a :: rest))) t := by
  obtain ⟨cl, A, hin⟩ := A.len
  have hb := Int32.toInt_lt z
  have q : cl.slots.size.toInt32 = z := by rw [hin]; exact Int32.toInt_inj.mp (by rw [hz]; exact Int32.toInt_ofNat_of_lt (by omega))
  intro t k
  refine X.arraylength hx (by rw [eT]; exact A.1) (State.isArrayOf_alike hZ.alike A.2.1) (g := mkF m pc Ls (.ref a :: rest)) rfl rfl hd _ ?_
  rw [q]; exact k
end ASteps
theorem own_nar (x : Int32) : nar .char (nar .char x) = nar .char x := by
  show x.toUInt32.toUInt16.toUInt32.toInt32.toUInt32.toUInt16.toUInt32.toInt32 = x.toUInt32.toUInt16.toUInt32.toInt32
  rw [UInt32.toUInt32_toInt32, UInt16.toUInt16_toUInt32]
theorem own_nb (x : Int32) : nar .byte x.toInt8.toInt32 = x.toInt8.toInt32 := by
  show x.toInt8.toInt32.toInt8.toInt32 = x.toInt8.toInt32
  rw [Int8.toInt8_toInt32]
theorem own_lt (i n : Nat) (h : i < 2147483648) (hn : n < 2147483648) : (Int32.ofNat i < Int32.ofNat n) ↔ i < n := by
  rw [Int32.lt_iff_toInt_lt, Int32.toInt_ofNat_of_lt (by omega), Int32.toInt_ofNat_of_lt (by omega)]; omega
theorem own_eq (i n : Nat) (h : i < 2147483648) (hn : n < 2147483648) : (Int32.ofNat i = Int32.ofNat n) ↔ i = n := by
  rw [← Int32.toInt_inj, Int32.toInt_ofNat_of_lt (by omega), Int32.toInt_ofNat_of_lt (by omega)]; omega
theorem own_sub (t k : Nat) (h : k ≤ t) (ht : t < 2147483648) : Int32.ofNat t - Int32.ofNat k = Int32.ofNat (t - k) := by
  have h1 := c_isub (Int32.ofNat t) (Int32.ofNat k); have h2 := rng32 (Int32.ofNat t - Int32.ofNat k)
  rw [Int32.toInt_ofNat_of_lt (by omega), Int32.toInt_ofNat_of_lt (by omega)] at h1
  refine Int32.toInt_inj.mp ?_
  rw [Int32.toInt_ofNat_of_lt (by omega)]; omega
theorem own_nn (n : Nat) (h : n < 2147483648) : ¬ Int32.ofNat n < 0 := by
  rw [Int32.lt_iff_toInt_lt, Int32.toInt_ofNat_of_lt (by omega)]; simp only [Int32.reduceToInt]; omega
theorem own_add (a b : Nat) : Int32.ofNat a + Int32.ofNat b = Int32.ofNat (a + b) := (Int32.ofNat_add a b).symm
theorem own_and3 (x : Int32) : ∃ n : Nat, n ≤ 3 ∧ (x &&& (3 : Int32)) = Int32.ofNat n := by
  have h1 := c_mask x 3 2 (by decide) (by decide)
  refine ⟨(x &&& 3).toInt.toNat, by omega, Int32.toInt_inj.mp ?_⟩
  rw [Int32.toInt_ofNat_of_lt (by omega)]; omega
theorem own_and15 (x : Int32) : ∃ n : Nat, n ≤ 15 ∧ (x &&& (15 : Int32)) = Int32.ofNat n := by
  have h1 := c_mask x 15 4 (by decide) (by decide)
  refine ⟨(x &&& 15).toInt.toNat, by omega, Int32.toInt_inj.mp ?_⟩
  rw [Int32.toInt_ofNat_of_lt (by omega)]; omega
theorem own_len9 (x : Int32) : ∃ n : Nat, n ≤ 8 ∧ ((x &&& (15 : Int32)) % (9 : Int32)) = Int32.ofNat n := by
  have h1 := c_mask x 15 4 (by decide) (by decide)
  have h2 := (c_irem (x &&& 15) 9 9 (by decide)).1
  refine ⟨((x &&& 15) % 9).toInt.toNat, by omega, Int32.toInt_inj.mp ?_⟩
  rw [Int32.toInt_ofNat_of_lt (by omega)]; omega
theorem own_mod4 (n : Nat) (h : n ≤ 8) : (Int32.ofNat n % (4 : Int32) = (0 : Int32)) ↔ n % 4 = 0 := by
  have key : ∀ n : Fin 9, (Int32.ofNat n.1 % (4 : Int32) = (0 : Int32)) ↔ n.1 % 4 = 0 := by decide +kernel
  exact key ⟨n, by omega⟩
abbrev dl (len : Nat) (c1 c2 : Int32) : Int32 := (Int32.ofNat len / (4 : Int32)) * (3 : Int32) - (if c1 = (61 : Int32) then (if c2 = (61 : Int32) then (2 : Int32) else (1 : Int32)) else (0 : Int32))
def vl (c : Int32) : Int32 := if ¬ c < (65 : Int32) ∧ ¬ (90 : Int32) < c then c - (65 : Int32) else if ¬ c < (97 : Int32) ∧ ¬ (122 : Int32) < c then c - (97 : Int32) + (26 : Int32) else if ¬ c < (48 : Int32) ∧ ¬ (57 : Int32) < c then c - (48 : Int32) + (52 : Int32) else if c = (43 : Int32) then (62 : Int32) else if c = (47 : Int32) then (63 : Int32) else (-1 : Int32)
abbrev vt : Nat → Value := fun i => .int (vl (Int32.ofNat i))
abbrev gv (g : Nat → Int32) : Nat → Value := fun i => .int (g i)
abbrev updI (g : Nat → Int32) (k : Nat) (x : Int32) : Nat → Int32 := fun i => if i = k then x else g i
abbrev CH (g : Nat → Int32) : Prop := ∀ i, i < 8 → nar .char (g i) = g i
theorem CH.upd {g : Nat → Int32} (h : CH g) {k : Nat} {x : Int32} (hx : nar .char x = x) : CH (updI g k x) := fun i hi => by
  unfold updI
  by_cases q : i = k
  · rw [if_pos q]; exact hx
  · rw [if_neg q]; exact h i hi
theorem upd_at {f : Nat → Value} {k i : Nat} {v : Value} (h : i = k) : upd f k v i = v := if_pos h
theorem own_ui {g : Nat → Int32} {k : Nat} {x : Int32} (i : Nat) : upd (gv g) k (.int x) i = gv (updI g k x) i := by
  by_cases q : i = k
  · subst q; rw [upd_eq]; exact congrArg Value.int (if_pos rfl).symm
  · rw [upd_ne q]; exact congrArg Value.int (if_neg q).symm
theorem char_nn {x : Int32} (h : nar .char x = x) : 0 ≤ x.toInt ∧ x.toInt < 65536 := by
  have q := c_i2c x
  have e : x.toUInt32.toUInt16.toUInt32.toInt32 = x := h
  rw [e] at q; exact ⟨q.2.1, q.2.2⟩
theorem own_vsmall : ∀ k : Fin 128, vl (Int32.ofNat k.1) = -1 ∨ (¬ vl (Int32.ofNat k.1) < 0 ∧ vl (Int32.ofNat k.1) < 64) := by decide +kernel
theorem own_vbig {x : Int32} (h : ¬ x < (128 : Int32)) : vl x = -1 := by
  have a1 : ¬ x < 65 := fun q => h (by rw [Int32.lt_iff_toInt_lt] at q ⊢; simp only [Int32.reduceToInt] at *; omega)
  have a2 : (122 : Int32) < x := by rw [Int32.lt_iff_toInt_lt] at h ⊢; simp only [Int32.reduceToInt] at *; omega
  have a3 : (90 : Int32) < x := by rw [Int32.lt_iff_toInt_lt] at h ⊢; simp only [Int32.reduceToInt] at *; omega
  have a4 : (57 : Int32) < x := by rw [Int32.lt_iff_toInt_lt] at h ⊢; simp only [Int32.reduceToInt] at *; omega
  have a5 : ¬ x = 43 := fun q => h (by rw [q]; decide)
  have a6 : ¬ x = 47 := fun q => h (by rw [q]; decide)
  unfold vl
  rw [if_neg (fun q => q.2 a3), if_neg (fun q => q.2 a2), if_neg (fun q => q.2 a4), if_neg a5, if_neg a6]
theorem own_ofNat {x : Int32} (h : 0 ≤ x.toInt) : Int32.ofNat x.toInt.toNat = x := by
  have := rng32 x
  exact Int32.toInt_inj.mp (by rw [Int32.toInt_ofNat_of_lt (by omega)]; omega)
theorem own_v {x : Int32} (h : 0 ≤ x.toInt) : vl x = -1 ∨ ∃ k : Fin 64, vl x = Int32.ofNat k.1 := by
  by_cases q : x < (128 : Int32)
  · have hk : x.toInt.toNat < 128 := by rw [Int32.lt_iff_toInt_lt] at q; simp only [Int32.reduceToInt] at q; omega
    have e := own_vsmall ⟨x.toInt.toNat, hk⟩
    dsimp only at e
    rw [own_ofNat h] at e
    rcases e with e | ⟨e1, e2⟩
    · exact Or.inl e
    · rw [Int32.lt_iff_toInt_lt] at e1 e2; simp only [Int32.reduceToInt] at e1 e2
      exact Or.inr ⟨⟨(vl x).toInt.toNat, by omega⟩, (own_ofNat (by omega)).symm⟩
  · exact Or.inl (own_vbig q)
/-! the bits of four values -/
abbrev nq (a b c d : Int32) : Int32 := (((a <<< ((18 : Int32) &&& 31)) ||| (b <<< ((12 : Int32) &&& 31))) ||| (c <<< ((6 : Int32) &&& 31))) ||| d
abbrev nt (a b c : Int32) : Int32 := ((a <<< ((18 : Int32) &&& 31)) ||| (b <<< ((12 : Int32) &&& 31))) ||| (c <<< ((6 : Int32) &&& 31))
abbrev bA (a b : Int32) : Int32 := ((a <<< ((2 : Int32) &&& 31)) ||| (b >>> ((4 : Int32) &&& 31))).toInt8.toInt32
abbrev bB (b c : Int32) : Int32 := (((b &&& (15 : Int32)) <<< ((4 : Int32) &&& 31)) ||| (c >>> ((2 : Int32) &&& 31))).toInt8.toInt32
abbrev bC (c d : Int32) : Int32 := (((c &&& (3 : Int32)) <<< ((6 : Int32) &&& 31)) ||| d).toInt8.toInt32
theorem own_neg_or (x y : Int32) : (x ||| y) < 0 ↔ (x < 0 ∨ y < 0) := by
  have k : ∀ z : Int32, z < 0 ↔ z.toBitVec.msb = true := fun z => by
    rw [Int32.lt_iff_toInt_lt, BitVec.msb_eq_toInt]; simp only [Int32.reduceToInt, decide_eq_true_eq]; exact Iff.rfl
  rw [k, k, k, Int32.toBitVec_or, BitVec.msb_or, Bool.or_eq_true]
abbrev VV (a : Int32) : Prop := a = -1 ∨ ∃ k : Fin 64, a = Int32.ofNat k.1
theorem own_s18 {a : Int32} (h : VV a) : (a <<< ((18 : Int32) &&& 31)) < 0 ↔ a < 0 := by
  have key : ∀ k : Fin 64, (Int32.ofNat k.1 <<< ((18 : Int32) &&& 31)) < 0 ↔ Int32.ofNat k.1 < 0 := by decide +kernel
  rcases h with rfl | ⟨k, rfl⟩
  · decide
  · exact key k
theorem own_s12 {a : Int32} (h : VV a) : (a <<< ((12 : Int32) &&& 31)) < 0 ↔ a < 0 := by
  have key : ∀ k : Fin 64, (Int32.ofNat k.1 <<< ((12 : Int32) &&& 31)) < 0 ↔ Int32.ofNat k.1 < 0 := by decide +kernel
  rcases h with rfl | ⟨k, rfl⟩
  · decide
  · exact key k
theorem own_s6 {a : Int32} (h : VV a) : (a <<< ((6 : Int32) &&& 31)) < 0 ↔ a < 0 := by
  have key : ∀ k : Fin 64, (Int32.ofNat k.1 <<< ((6 : Int32) &&& 31)) < 0 ↔ Int32.ofNat k.1 < 0 := by decide +kernel
  rcases h with rfl | ⟨k, rfl⟩
  · decide
  · exact key k
theorem own_nq {a b c d : Int32} (ha : VV a) (hb : VV b) (hc : VV c) (hd : VV d) : nq a b c d < 0 ↔ ¬ (¬ a < 0 ∧ ¬ b < 0 ∧ ¬ c < 0 ∧ ¬ d < 0) := by
  unfold nq
  rw [own_neg_or, own_neg_or, own_neg_or, own_s18 ha, own_s12 hb, own_s6 hc]
  by_cases q1 : a < 0 <;> by_cases q2 : b < 0 <;> by_cases q3 : c < 0 <;> by_cases q4 : d < 0 <;> simp [q1, q2, q3, q4]
theorem own_nt {a b c : Int32} (ha : VV a) (hb : VV b) (hc : VV c) : nt a b c < 0 ↔ ¬ (¬ a < 0 ∧ ¬ b < 0 ∧ ¬ c < 0) := by
  unfold nt
  rw [own_neg_or, own_neg_or, own_s18 ha, own_s12 hb, own_s6 hc]
  by_cases q1 : a < 0 <;> by_cases q2 : b < 0 <;> by_cases q3 : c < 0 <;> simp [q1, q2, q3]
theorem VV.nat {a : Int32} (h : VV a) (q : ¬ a < 0) : ∃ k : Fin 64, a = Int32.ofNat k.1 := h.resolve_left fun e => q (by rw [e]; decide)
theorem or_shr (x y : Int32) (k : Int32) : (x ||| y) >>> k = (x >>> k) ||| (y >>> k) := by
  refine Int32.toBitVec_inj.mp ?_
  rw [Int32.toBitVec_or, Int32.toBitVec_shiftRight, Int32.toBitVec_shiftRight, Int32.toBitVec_shiftRight, Int32.toBitVec_or]
  exact BitVec.sshiftRight_or_distrib _ _ _
theorem or_and (x y k : Int32) : (x ||| y) &&& k = (x &&& k) ||| (y &&& k) := by
  refine Int32.toBitVec_inj.mp ?_
  simp only [Int32.toBitVec_or, Int32.toBitVec_and]
  ext i
  simp only [BitVec.getElem_and, BitVec.getElem_or, Bool.and_or_distrib_right]
theorem own_b0 {a b c d : Int32} (ha : ∃ k : Fin 64, a = Int32.ofNat k.1) (hb : ∃ k : Fin 64, b = Int32.ofNat k.1) (hc : ∃ k : Fin 64, c = Int32.ofNat k.1) (hd : ∃ k : Fin 64, d = Int32.ofNat k.1) :
    (nq a b c d >>> ((16 : Int32) &&& 31)).toInt8.toInt32 = bA a b ∧ (nq a b c d >>> ((8 : Int32) &&& 31)).toInt8.toInt32 = bB b c ∧ (nq a b c d).toInt8.toInt32 = bC c d := by
  obtain ⟨a, rfl⟩ := ha; obtain ⟨b, rfl⟩ := hb; obtain ⟨c, rfl⟩ := hc; obtain ⟨d, rfl⟩ := hd
  have k1 : ∀ a : Fin 64, ((Int32.ofNat a.1 <<< ((18 : Int32) &&& 31)) >>> ((16 : Int32) &&& 31)) = Int32.ofNat a.1 <<< ((2 : Int32) &&& 31) ∧ ((Int32.ofNat a.1 <<< ((18 : Int32) &&& 31)) >>> ((8 : Int32) &&& 31)).toInt8 = 0 ∧ (Int32.ofNat a.1 <<< ((18 : Int32) &&& 31)).toInt8 = 0 := by decide +kernel
  have k2 : ∀ a : Fin 64, ((Int32.ofNat a.1 <<< ((12 : Int32) &&& 31)) >>> ((16 : Int32) &&& 31)) = Int32.ofNat a.1 >>> ((4 : Int32) &&& 31) ∧ ((Int32.ofNat a.1 <<< ((12 : Int32) &&& 31)) >>> ((8 : Int32) &&& 31)).toInt8 = ((Int32.ofNat a.1 &&& (15 : Int32)) <<< ((4 : Int32) &&& 31)).toInt8 ∧ (Int32.ofNat a.1 <<< ((12 : Int32) &&& 31)).toInt8 = 0 := by decide +kernel
  have k3 : ∀ a : Fin 64, ((Int32.ofNat a.1 <<< ((6 : Int32) &&& 31)) >>> ((16 : Int32) &&& 31)) = 0 ∧ ((Int32.ofNat a.1 <<< ((6 : Int32) &&& 31)) >>> ((8 : Int32) &&& 31)) = Int32.ofNat a.1 >>> ((2 : Int32) &&& 31) ∧ (Int32.ofNat a.1 <<< ((6 : Int32) &&& 31)).toInt8 = ((Int32.ofNat a.1 &&& (3 : Int32)) <<< ((6 : Int32) &&& 31)).toInt8 := by decide +kernel
  have k4 : ∀ a : Fin 64, (Int32.ofNat a.1 >>> ((16 : Int32) &&& 31)) = 0 ∧ (Int32.ofNat a.1 >>> ((8 : Int32) &&& 31)) = 0 := by decide +kernel
  unfold nq bA bB bC
  refine ⟨?_, ?_, ?_⟩
  · rw [or_shr, or_shr, or_shr, (k1 a).1, (k2 b).1, (k3 c).1, (k4 d).1, Int32.or_zero, Int32.or_zero]
  · rw [or_shr, or_shr, or_shr, (k3 c).2.1, (k4 d).2, Int32.or_zero, Int32.toInt8_or, Int32.toInt8_or, Int32.toInt8_or, (k1 a).2.1, (k2 b).2.1, Int8.zero_or]
  · rw [Int32.toInt8_or, Int32.toInt8_or, Int32.toInt8_or, Int32.toInt8_or, (k1 a).2.2, (k2 b).2.2, (k3 c).2.2, Int8.zero_or, Int8.zero_or]
theorem own_t1 {a b c : Int32} (ha : ∃ k : Fin 64, a = Int32.ofNat k.1) (hb : ∃ k : Fin 64, b = Int32.ofNat k.1) (hc : ∃ k : Fin 64, c = Int32.ofNat k.1) :
    (nt a b c >>> ((16 : Int32) &&& 31)).toInt8.toInt32 = bA a b ∧ (nt a b c >>> ((8 : Int32) &&& 31)).toInt8.toInt32 = bB b c ∧ ((nt a b c &&& (255 : Int32)) = 0 ↔ (c &&& (3 : Int32)) = 0) ∧ (c = 0 → ((nt a b c &&& (65535 : Int32)) = 0 ↔ (b &&& (15 : Int32)) = 0)) := by
  have q := own_b0 ha hb hc ⟨(0 : Fin 64), rfl⟩
  have e : nq a b c (Int32.ofNat (0 : Fin 64).1) = nt a b c := Int32.or_zero
  rw [e] at q
  refine ⟨q.1, q.2.1, ?_, ?_⟩
  · obtain ⟨a, rfl⟩ := ha; obtain ⟨b, rfl⟩ := hb; obtain ⟨c, rfl⟩ := hc
    have k1 : ∀ a : Fin 64, ((Int32.ofNat a.1 <<< ((18 : Int32) &&& 31)) &&& (255 : Int32)) = 0 := by decide +kernel
    have k2 : ∀ a : Fin 64, ((Int32.ofNat a.1 <<< ((12 : Int32) &&& 31)) &&& (255 : Int32)) = 0 := by decide +kernel
    have k3 : ∀ a : Fin 64, ((Int32.ofNat a.1 <<< ((6 : Int32) &&& 31)) &&& (255 : Int32)) = 0 ↔ (Int32.ofNat a.1 &&& (3 : Int32)) = 0 := by decide +kernel
    unfold nt
    rw [or_and, or_and, k1 a, k2 b, Int32.zero_or, Int32.zero_or]; exact k3 c
  · rintro rfl
    obtain ⟨a, rfl⟩ := ha; obtain ⟨b, rfl⟩ := hb
    have k1 : ∀ a : Fin 64, ((Int32.ofNat a.1 <<< ((18 : Int32) &&& 31)) &&& (65535 : Int32)) = 0 := by decide +kernel
    have k2 : ∀ a : Fin 64, ((Int32.ofNat a.1 <<< ((12 : Int32) &&& 31)) &&& (65535 : Int32)) = 0 ↔ (Int32.ofNat a.1 &&& (15 : Int32)) = 0 := by decide +kernel
    unfold nt
    rw [or_and, or_and, k1 a, show (((0 : Int32) <<< ((6 : Int32) &&& 31)) &&& (65535 : Int32)) = 0 by decide, Int32.zero_or, Int32.or_zero]; exact k2 b
/-! what the law's text spells -/
abbrev w4 (g : Nat → Int32) (k : Nat) : Int32 := nq (vl (g k)) (vl (g (k + 1))) (vl (g (k + 2))) (vl (g (k + 3)))
abbrev OK4 (g : Nat → Int32) (k : Nat) : Prop := ¬ vl (g k) < 0 ∧ ¬ vl (g (k + 1)) < 0 ∧ ¬ vl (g (k + 2)) < 0 ∧ ¬ vl (g (k + 3)) < 0
abbrev OK1 (g : Nat → Int32) (k : Nat) : Prop := ¬ vl (g k) < 0 ∧ ¬ vl (g (k + 1)) < 0 ∧ ¬ vl (g (k + 2)) < 0 ∧ (vl (g (k + 2)) &&& (3 : Int32)) = 0
abbrev OK2 (g : Nat → Int32) (k : Nat) : Prop := ¬ vl (g k) < 0 ∧ ¬ vl (g (k + 1)) < 0 ∧ (vl (g (k + 1)) &&& (15 : Int32)) = 0
def bt (g : Nat → Int32) (q r : Nat) : Int32 := if r = 0 then bA (vl (g (4 * q))) (vl (g (4 * q + 1))) else if r = 1 then bB (vl (g (4 * q + 1))) (vl (g (4 * q + 2))) else bC (vl (g (4 * q + 2))) (vl (g (4 * q + 3)))
def exI (g : Nat → Int32) (bf : Nat) : Nat → Int32 := fun i => if i < bf then 0 else bt g ((i - bf) / 3) ((i - bf) % 3)
theorem exI_lt {g : Nat → Int32} {bf i : Nat} (h : i < bf) : exI g bf i = 0 := if_pos h
theorem exI_at {g : Nat → Int32} {bf : Nat} (j : Nat) : exI g bf (bf + j) = bt g (j / 3) (j % 3) := by
  unfold exI; rw [if_neg (by omega), Nat.add_sub_cancel_left]
theorem vv_of {g : Nat → Int32} (h : CH g) {k : Nat} (hk : k < 8) : VV (vl (g k)) := own_v (char_nn (h k hk)).1
theorem own_w4 {g : Nat → Int32} (h : CH g) {k : Nat} (hk : k + 3 < 8) : w4 g k < 0 ↔ ¬ OK4 g k := own_nq (vv_of h (by omega)) (vv_of h (by omega)) (vv_of h (by omega)) (vv_of h (by omega))
theorem own_q4 {g : Nat → Int32} (h : CH g) {k : Nat} (hk : k + 3 < 8) (o : OK4 g k) :
    (w4 g k >>> ((16 : Int32) &&& 31)).toInt8.toInt32 = bA (vl (g k)) (vl (g (k + 1))) ∧ (w4 g k >>> ((8 : Int32) &&& 31)).toInt8.toInt32 = bB (vl (g (k + 1))) (vl (g (k + 2))) ∧ (w4 g k).toInt8.toInt32 = bC (vl (g (k + 2))) (vl (g (k + 3))) :=
  own_b0 ((vv_of h (by omega)).nat o.1) ((vv_of h (by omega)).nat o.2.1) ((vv_of h (by omega)).nat o.2.2.1) ((vv_of h (by omega)).nat o.2.2.2)
theorem vv0 : VV 0 := Or.inr ⟨(0 : Fin 64), rfl⟩
theorem own_p1 {g : Nat → Int32} (h : CH g) {k : Nat} (hk : k + 3 < 8) : (¬ nt (vl (g k)) (vl (g (k + 1))) (vl (g (k + 2))) < 0 ∧ (nt (vl (g k)) (vl (g (k + 1))) (vl (g (k + 2))) &&& (255 : Int32)) = 0) ↔ OK1 g k := by
  have q := own_nt (vv_of h (show k < 8 by omega)) (vv_of h (show k + 1 < 8 by omega)) (vv_of h (show k + 2 < 8 by omega))
  constructor
  · rintro ⟨h1, h2⟩
    have o : ¬ vl (g k) < 0 ∧ ¬ vl (g (k + 1)) < 0 ∧ ¬ vl (g (k + 2)) < 0 := Classical.byContradiction fun z => h1 (q.mpr z)
    exact ⟨o.1, o.2.1, o.2.2, (own_t1 ((vv_of h (by omega)).nat o.1) ((vv_of h (by omega)).nat o.2.1) ((vv_of h (by omega)).nat o.2.2)).2.2.1.mp h2⟩
  · rintro ⟨o1, o2, o3, o4⟩
    exact ⟨fun z => q.mp z ⟨o1, o2, o3⟩, (own_t1 ((vv_of h (by omega)).nat o1) ((vv_of h (by omega)).nat o2) ((vv_of h (by omega)).nat o3)).2.2.1.mpr o4⟩
theorem own_p2 {g : Nat → Int32} (h : CH g) {k : Nat} (hk : k + 3 < 8) : (¬ nt (vl (g k)) (vl (g (k + 1))) 0 < 0 ∧ (nt (vl (g k)) (vl (g (k + 1))) 0 &&& (65535 : Int32)) = 0) ↔ OK2 g k := by
  have q := own_nt (vv_of h (show k < 8 by omega)) (vv_of h (show k + 1 < 8 by omega)) vv0
  have z0 : ∃ j : Fin 64, (0 : Int32) = Int32.ofNat j.1 := ⟨(0 : Fin 64), rfl⟩
  constructor
  · rintro ⟨h1, h2⟩
    have o : ¬ vl (g k) < 0 ∧ ¬ vl (g (k + 1)) < 0 ∧ ¬ (0 : Int32) < 0 := Classical.byContradiction fun z => h1 (q.mpr z)
    exact ⟨o.1, o.2.1, ((own_t1 ((vv_of h (by omega)).nat o.1) ((vv_of h (by omega)).nat o.2.1) z0).2.2.2 rfl).mp h2⟩
  · rintro ⟨o1, o2, o4⟩
    exact ⟨fun z => q.mp z ⟨o1, o2, by decide⟩, ((own_t1 ((vv_of h (by omega)).nat o1) ((vv_of h (by omega)).nat o2) z0).2.2.2 rfl).mpr o4⟩
theorem own_q1 {g : Nat → Int32} (h : CH g) {k : Nat} (hk : k + 3 < 8) (o : OK1 g k) :
    (nt (vl (g k)) (vl (g (k + 1))) (vl (g (k + 2))) >>> ((16 : Int32) &&& 31)).toInt8.toInt32 = bA (vl (g k)) (vl (g (k + 1))) ∧ (nt (vl (g k)) (vl (g (k + 1))) (vl (g (k + 2))) >>> ((8 : Int32) &&& 31)).toInt8.toInt32 = bB (vl (g (k + 1))) (vl (g (k + 2))) :=
  have q := own_t1 ((vv_of h (by omega)).nat o.1) ((vv_of h (by omega)).nat o.2.1) ((vv_of h (by omega)).nat o.2.2.1)
  ⟨q.1, q.2.1⟩
theorem own_q2 {g : Nat → Int32} (h : CH g) {k : Nat} (hk : k + 3 < 8) (o : OK2 g k) :
    (nt (vl (g k)) (vl (g (k + 1))) 0 >>> ((16 : Int32) &&& 31)).toInt8.toInt32 = bA (vl (g k)) (vl (g (k + 1))) :=
  (own_t1 ((vv_of h (by omega)).nat o.1) ((vv_of h (by omega)).nat o.2.1) ⟨(0 : Fin 64), rfl⟩).1
theorem ef_rmEn (m : MethodId) (x0 : Int32) : entryFrame m #[(.int x0)] 1 = mkF m 0 #[.val (.int x0)] [] := by first | (simp [entryFrame, mkF, argsToLocals, Value.category]; done) | rfl
theorem pn_0 : plainName "com/example/sharks/sharks/StandardBase64DecodePinLaw" = true := by first | (simp [plainName, overriddenIn]; done) | decide +kernel
theorem d1_0 : decode method_3_code 0 = .ok (.iload_n 0, 1) := by decide +kernel
theorem d1_1 : decode method_3_code 1 = .ok (.bipush 26, 2) := by decide +kernel
theorem d1_3 : decode method_3_code 3 = .ok (.if_icmp .ge 9, 3) := by decide +kernel
theorem d1_6 : decode method_3_code 6 = .ok (.bipush 65, 2) := by decide +kernel
theorem d1_8 : decode method_3_code 8 = .ok (.iload_n 0, 1) := by decide +kernel
theorem d1_9 : decode method_3_code 9 = .ok (.iadd, 1) := by decide +kernel
theorem d1_10 : decode method_3_code 10 = .ok (.i2c, 1) := by decide +kernel
theorem d1_11 : decode method_3_code 11 = .ok (.ireturn, 1) := by decide +kernel
theorem d1_12 : decode method_3_code 12 = .ok (.iload_n 0, 1) := by decide +kernel
theorem d1_13 : decode method_3_code 13 = .ok (.bipush 52, 2) := by decide +kernel
theorem d1_15 : decode method_3_code 15 = .ok (.if_icmp .ge 12, 3) := by decide +kernel
theorem d1_18 : decode method_3_code 18 = .ok (.bipush 97, 2) := by decide +kernel
theorem d1_20 : decode method_3_code 20 = .ok (.iload_n 0, 1) := by decide +kernel
theorem d1_21 : decode method_3_code 21 = .ok (.iadd, 1) := by decide +kernel
theorem d1_22 : decode method_3_code 22 = .ok (.bipush 26, 2) := by decide +kernel
theorem d1_24 : decode method_3_code 24 = .ok (.isub, 1) := by decide +kernel
theorem d1_25 : decode method_3_code 25 = .ok (.i2c, 1) := by decide +kernel
theorem d1_26 : decode method_3_code 26 = .ok (.ireturn, 1) := by decide +kernel
theorem d1_27 : decode method_3_code 27 = .ok (.iload_n 0, 1) := by decide +kernel
theorem d1_28 : decode method_3_code 28 = .ok (.bipush 62, 2) := by decide +kernel
theorem d1_30 : decode method_3_code 30 = .ok (.if_icmp .ge 12, 3) := by decide +kernel
theorem d1_33 : decode method_3_code 33 = .ok (.bipush 48, 2) := by decide +kernel
theorem d1_35 : decode method_3_code 35 = .ok (.iload_n 0, 1) := by decide +kernel
theorem d1_36 : decode method_3_code 36 = .ok (.iadd, 1) := by decide +kernel
theorem d1_37 : decode method_3_code 37 = .ok (.bipush 52, 2) := by decide +kernel
theorem d1_39 : decode method_3_code 39 = .ok (.isub, 1) := by decide +kernel
theorem d1_40 : decode method_3_code 40 = .ok (.i2c, 1) := by decide +kernel
theorem d1_41 : decode method_3_code 41 = .ok (.ireturn, 1) := by decide +kernel
theorem d1_42 : decode method_3_code 42 = .ok (.iload_n 0, 1) := by decide +kernel
theorem d1_43 : decode method_3_code 43 = .ok (.bipush 62, 2) := by decide +kernel
theorem d1_45 : decode method_3_code 45 = .ok (.if_icmp .ne 8, 3) := by decide +kernel
theorem d1_48 : decode method_3_code 48 = .ok (.bipush 43, 2) := by decide +kernel
theorem d1_50 : decode method_3_code 50 = .ok (.goto 5, 3) := by decide +kernel
theorem d1_55 : decode method_3_code 55 = .ok (.ireturn, 1) := by decide +kernel
theorem d1_53 : decode method_3_code 53 = .ok (.bipush 47, 2) := by decide +kernel
set_option maxRecDepth 65536 in
set_option maxHeartbeats 40000000 in
theorem rmEn (l : Launch) (Z : State) (a0 : Array Value) (hw : ∀ d ∈ tables_1, d.before a0 Z = true) (ws : List Jvm.Cond) (x : Int32) (h0 : Heap) (n0 : Nat) (Z0 : n0 ≤ h0.size)  :
    Ctr l Z (⟨"com/example/sharks/sharks/StandardBase64DecodePinLaw", "enc", "(I)C"⟩ : MethodName) method_3_code 1 (some .char) ws ({ frames := 0, cells := 0, slots := 0, locals := 0 } : Room) 0 0 #[(.int x)] h0 (fun v h L => ∃ z, v = some (.int z) ∧ nar .char z = z ∧ L = [] ∧ h = h0) := by
  refine Ctr.mk (plainFor_of_name pn_0) fun p e s m below meth c T0 X0 C e0 => go_cast (ef_rmEn m x) ?_
  have N0 := Fr.nil n0
  obtain ⟨hx, hZ, hby, hml, hown, hnm, hret, hlk⟩ := C
  show Go _ _ _ _ _ _ _ T0 (mkF m 0 #[.val (.int x)] [])
  refine Go.step (fun tt kk => XS.iloadN X0.here hx rfl (hb hby d1_0) rfl kk) ?_
  show Go _ _ _ _ _ _ _ T0 (mkF m 1 _ [(.int x)])
  refine Go.step (fun tt kk => XS.bipush X0.here hx rfl (hb hby d1_1) kk) ?_
  show Go _ _ _ _ _ _ _ T0 (mkF m 3 _ [(.int (26 : Int32)), (.int x)])
  by_cases c3_1 : x < (26 : Int32)
  · refine Go.step (fun tt kk => XS.icmpNo X0.here hx rfl (hb hby d1_3) rfl (tlt c3_1).2.1 kk) ?_
    show Go _ _ _ _ _ _ _ T0 (mkF m 6 _ [])
    refine Go.step (fun tt kk => XS.bipush X0.here hx rfl (hb hby d1_6) kk) ?_
    show Go _ _ _ _ _ _ _ T0 (mkF m 8 _ [(.int (65 : Int32))])
    refine Go.step (fun tt kk => XS.iloadN X0.here hx rfl (hb hby d1_8) rfl kk) ?_
    show Go _ _ _ _ _ _ _ T0 (mkF m 9 _ [(.int x), (.int (65 : Int32))])
    refine Go.step (fun tt kk => XS.iadd X0.here hx rfl (hb hby d1_9) rfl kk) ?_
    show Go _ _ _ _ _ _ _ T0 (mkF m 10 _ [(.int ((65 : Int32) + x))])
    refine Go.step (fun tt kk => XS.i2c X0.here hx rfl (hb hby d1_10) rfl kk) ?_
    show Go _ _ _ _ _ _ _ T0 (mkF m 11 _ [(.int (((65 : Int32) + x).toUInt32.toUInt16.toUInt32.toInt32))])
    refine go_retN X0 hx (t := .char) hret (by simp) hlk (hb hby d1_11) (w := (nar .char (((65 : Int32) + x).toUInt32.toUInt16.toUInt32.toInt32))) rfl ?_ (by decide) (by decide)
    try rw [e0]
    exact ⟨_, rfl, own_nar _, rfl, rfl⟩
  · refine Go.step (fun tt kk => XS.icmpYes X0.here hx rfl (pc0 := 3) (pc' := 12) rfl (hb hby d1_3) rfl (flt c3_1).2.1 (by decide) (by decide) kk) ?_
    show Go _ _ _ _ _ _ _ T0 (mkF m 12 _ [])
    refine Go.step (fun tt kk => XS.iloadN X0.here hx rfl (hb hby d1_12) rfl kk) ?_
    show Go _ _ _ _ _ _ _ T0 (mkF m 13 _ [(.int x)])
    refine Go.step (fun tt kk => XS.bipush X0.here hx rfl (hb hby d1_13) kk) ?_
    show Go _ _ _ _ _ _ _ T0 (mkF m 15 _ [(.int (52 : Int32)), (.int x)])
    by_cases c15_2 : x < (52 : Int32)
    · refine Go.step (fun tt kk => XS.icmpNo X0.here hx rfl (hb hby d1_15) rfl (tlt c15_2).2.1 kk) ?_
      show Go _ _ _ _ _ _ _ T0 (mkF m 18 _ [])
      refine Go.step (fun tt kk => XS.bipush X0.here hx rfl (hb hby d1_18) kk) ?_
      show Go _ _ _ _ _ _ _ T0 (mkF m 20 _ [(.int (97 : Int32))])
      refine Go.step (fun tt kk => XS.iloadN X0.here hx rfl (hb hby d1_20) rfl kk) ?_
      show Go _ _ _ _ _ _ _ T0 (mkF m 21 _ [(.int x), (.int (97 : Int32))])
      refine Go.step (fun tt kk => XS.iadd X0.here hx rfl (hb hby d1_21) rfl kk) ?_
      show Go _ _ _ _ _ _ _ T0 (mkF m 22 _ [(.int ((97 : Int32) + x))])
      refine Go.step (fun tt kk => XS.bipush X0.here hx rfl (hb hby d1_22) kk) ?_
      show Go _ _ _ _ _ _ _ T0 (mkF m 24 _ [(.int (26 : Int32)), (.int ((97 : Int32) + x))])
      refine Go.step (fun tt kk => XS.isub X0.here hx rfl (hb hby d1_24) rfl kk) ?_
      show Go _ _ _ _ _ _ _ T0 (mkF m 25 _ [(.int (((97 : Int32) + x) - (26 : Int32)))])
      refine Go.step (fun tt kk => XS.i2c X0.here hx rfl (hb hby d1_25) rfl kk) ?_
      show Go _ _ _ _ _ _ _ T0 (mkF m 26 _ [(.int ((((97 : Int32) + x) - (26 : Int32)).toUInt32.toUInt16.toUInt32.toInt32))])
      refine go_retN X0 hx (t := .char) hret (by simp) hlk (hb hby d1_26) (w := (nar .char ((((97 : Int32) + x) - (26 : Int32)).toUInt32.toUInt16.toUInt32.toInt32))) rfl ?_ (by decide) (by decide)
      try rw [e0]
      exact ⟨_, rfl, own_nar _, rfl, rfl⟩
    · refine Go.step (fun tt kk => XS.icmpYes X0.here hx rfl (pc0 := 15) (pc' := 27) rfl (hb hby d1_15) rfl (flt c15_2).2.1 (by decide) (by decide) kk) ?_
      show Go _ _ _ _ _ _ _ T0 (mkF m 27 _ [])
      refine Go.step (fun tt kk => XS.iloadN X0.here hx rfl (hb hby d1_27) rfl kk) ?_
      show Go _ _ _ _ _ _ _ T0 (mkF m 28 _ [(.int x)])
      refine Go.step (fun tt kk => XS.bipush X0.here hx rfl (hb hby d1_28) kk) ?_
      show Go _ _ _ _ _ _ _ T0 (mkF m 30 _ [(.int (62 : Int32)), (.int x)])
      by_cases c30_3 : x < (62 : Int32)
      · refine Go.step (fun tt kk => XS.icmpNo X0.here hx rfl (hb hby d1_30) rfl (tlt c30_3).2.1 kk) ?_
        show Go _ _ _ _ _ _ _ T0 (mkF m 33 _ [])
        refine Go.step (fun tt kk => XS.bipush X0.here hx rfl (hb hby d1_33) kk) ?_
        show Go _ _ _ _ _ _ _ T0 (mkF m 35 _ [(.int (48 : Int32))])
        refine Go.step (fun tt kk => XS.iloadN X0.here hx rfl (hb hby d1_35) rfl kk) ?_
        show Go _ _ _ _ _ _ _ T0 (mkF m 36 _ [(.int x), (.int (48 : Int32))])
        refine Go.step (fun tt kk => XS.iadd X0.here hx rfl (hb hby d1_36) rfl kk) ?_
        show Go _ _ _ _ _ _ _ T0 (mkF m 37 _ [(.int ((48 : Int32) + x))])
        refine Go.step (fun tt kk => XS.bipush X0.here hx rfl (hb hby d1_37) kk) ?_
        show Go _ _ _ _ _ _ _ T0 (mkF m 39 _ [(.int (52 : Int32)), (.int ((48 : Int32) + x))])
        refine Go.step (fun tt kk => XS.isub X0.here hx rfl (hb hby d1_39) rfl kk) ?_
        show Go _ _ _ _ _ _ _ T0 (mkF m 40 _ [(.int (((48 : Int32) + x) - (52 : Int32)))])
        refine Go.step (fun tt kk => XS.i2c X0.here hx rfl (hb hby d1_40) rfl kk) ?_
        show Go _ _ _ _ _ _ _ T0 (mkF m 41 _ [(.int ((((48 : Int32) + x) - (52 : Int32)).toUInt32.toUInt16.toUInt32.toInt32))])
        refine go_retN X0 hx (t := .char) hret (by simp) hlk (hb hby d1_41) (w := (nar .char ((((48 : Int32) + x) - (52 : Int32)).toUInt32.toUInt16.toUInt32.toInt32))) rfl ?_ (by decide) (by decide)
        try rw [e0]
        exact ⟨_, rfl, own_nar _, rfl, rfl⟩
      · refine Go.step (fun tt kk => XS.icmpYes X0.here hx rfl (pc0 := 30) (pc' := 42) rfl (hb hby d1_30) rfl (flt c30_3).2.1 (by decide) (by decide) kk) ?_
        show Go _ _ _ _ _ _ _ T0 (mkF m 42 _ [])
        refine Go.step (fun tt kk => XS.iloadN X0.here hx rfl (hb hby d1_42) rfl kk) ?_
        show Go _ _ _ _ _ _ _ T0 (mkF m 43 _ [(.int x)])
        refine Go.step (fun tt kk => XS.bipush X0.here hx rfl (hb hby d1_43) kk) ?_
        show Go _ _ _ _ _ _ _ T0 (mkF m 45 _ [(.int (62 : Int32)), (.int x)])
        by_cases c45_4 : x = (62 : Int32)
        · refine Go.step (fun tt kk => XS.icmpNo X0.here hx rfl (hb hby d1_45) rfl (teq c45_4).2 kk) ?_
          show Go _ _ _ _ _ _ _ T0 (mkF m 48 _ [])
          refine Go.step (fun tt kk => XS.bipush X0.here hx rfl (hb hby d1_48) kk) ?_
          show Go _ _ _ _ _ _ _ T0 (mkF m 50 _ [(.int (43 : Int32))])
          refine Go.step (fun tt kk => XS.goto X0.here hx rfl (pc0 := 50) (pc' := 55) rfl (hb hby d1_50) (by decide) (by decide) kk) ?_
          show Go _ _ _ _ _ _ _ T0 (mkF m 55 _ [(.int (43 : Int32))])
          refine go_retN X0 hx (t := .char) hret (by simp) hlk (hb hby d1_55) (w := (nar .char (43 : Int32))) rfl ?_ (by decide) (by decide)
          try rw [e0]
          exact ⟨_, rfl, own_nar _, rfl, rfl⟩
        · refine Go.step (fun tt kk => XS.icmpYes X0.here hx rfl (pc0 := 45) (pc' := 53) rfl (hb hby d1_45) rfl (feq c45_4).2 (by decide) (by decide) kk) ?_
          show Go _ _ _ _ _ _ _ T0 (mkF m 53 _ [])
          refine Go.step (fun tt kk => XS.bipush X0.here hx rfl (hb hby d1_53) kk) ?_
          show Go _ _ _ _ _ _ _ T0 (mkF m 55 _ [(.int (47 : Int32))])
          refine go_retN X0 hx (t := .char) hret (by simp) hlk (hb hby d1_55) (w := (nar .char (47 : Int32))) rfl ?_ (by decide) (by decide)
          try rw [e0]
          exact ⟨_, rfl, own_nar _, rfl, rfl⟩
theorem ef_rmV (m : MethodId) (x0 : Int32) : entryFrame m #[(.int x0)] 1 = mkF m 0 #[.val (.int x0)] [] := by first | (simp [entryFrame, mkF, argsToLocals, Value.category]; done) | rfl
theorem d9_0 : decode method_4_code 0 = .ok (.iload_n 0, 1) := by decide +kernel
theorem d9_1 : decode method_4_code 1 = .ok (.bipush 65, 2) := by decide +kernel
theorem d9_3 : decode method_4_code 3 = .ok (.if_icmp .lt 14, 3) := by decide +kernel
theorem d9_17 : decode method_4_code 17 = .ok (.iload_n 0, 1) := by decide +kernel
theorem d9_18 : decode method_4_code 18 = .ok (.bipush 97, 2) := by decide +kernel
theorem d9_20 : decode method_4_code 20 = .ok (.if_icmp .lt 17, 3) := by decide +kernel
theorem d9_37 : decode method_4_code 37 = .ok (.iload_n 0, 1) := by decide +kernel
theorem d9_38 : decode method_4_code 38 = .ok (.bipush 48, 2) := by decide +kernel
theorem d9_40 : decode method_4_code 40 = .ok (.if_icmp .lt 17, 3) := by decide +kernel
theorem d9_57 : decode method_4_code 57 = .ok (.iload_n 0, 1) := by decide +kernel
theorem d9_58 : decode method_4_code 58 = .ok (.bipush 43, 2) := by decide +kernel
theorem d9_60 : decode method_4_code 60 = .ok (.if_icmp .ne 6, 3) := by decide +kernel
theorem d9_63 : decode method_4_code 63 = .ok (.bipush 62, 2) := by decide +kernel
theorem d9_65 : decode method_4_code 65 = .ok (.ireturn, 1) := by decide +kernel
theorem d9_66 : decode method_4_code 66 = .ok (.iload_n 0, 1) := by decide +kernel
theorem d9_67 : decode method_4_code 67 = .ok (.bipush 47, 2) := by decide +kernel
theorem d9_69 : decode method_4_code 69 = .ok (.if_icmp .ne 6, 3) := by decide +kernel
theorem d9_72 : decode method_4_code 72 = .ok (.bipush 63, 2) := by decide +kernel
theorem d9_74 : decode method_4_code 74 = .ok (.ireturn, 1) := by decide +kernel
theorem d9_75 : decode method_4_code 75 = .ok (.iconst (-1), 1) := by decide +kernel
theorem d9_76 : decode method_4_code 76 = .ok (.ireturn, 1) := by decide +kernel
theorem d9_43 : decode method_4_code 43 = .ok (.iload_n 0, 1) := by decide +kernel
theorem d9_44 : decode method_4_code 44 = .ok (.bipush 57, 2) := by decide +kernel
theorem d9_46 : decode method_4_code 46 = .ok (.if_icmp .gt 11, 3) := by decide +kernel
theorem d9_49 : decode method_4_code 49 = .ok (.iload_n 0, 1) := by decide +kernel
theorem d9_50 : decode method_4_code 50 = .ok (.bipush 48, 2) := by decide +kernel
theorem d9_52 : decode method_4_code 52 = .ok (.isub, 1) := by decide +kernel
theorem d9_53 : decode method_4_code 53 = .ok (.bipush 52, 2) := by decide +kernel
theorem d9_55 : decode method_4_code 55 = .ok (.iadd, 1) := by decide +kernel
theorem d9_56 : decode method_4_code 56 = .ok (.ireturn, 1) := by decide +kernel
theorem d9_23 : decode method_4_code 23 = .ok (.iload_n 0, 1) := by decide +kernel
theorem d9_24 : decode method_4_code 24 = .ok (.bipush 122, 2) := by decide +kernel
theorem d9_26 : decode method_4_code 26 = .ok (.if_icmp .gt 11, 3) := by decide +kernel
theorem d9_29 : decode method_4_code 29 = .ok (.iload_n 0, 1) := by decide +kernel
theorem d9_30 : decode method_4_code 30 = .ok (.bipush 97, 2) := by decide +kernel
theorem d9_32 : decode method_4_code 32 = .ok (.isub, 1) := by decide +kernel
theorem d9_33 : decode method_4_code 33 = .ok (.bipush 26, 2) := by decide +kernel
theorem d9_35 : decode method_4_code 35 = .ok (.iadd, 1) := by decide +kernel
theorem d9_36 : decode method_4_code 36 = .ok (.ireturn, 1) := by decide +kernel
theorem d9_6 : decode method_4_code 6 = .ok (.iload_n 0, 1) := by decide +kernel
theorem d9_7 : decode method_4_code 7 = .ok (.bipush 90, 2) := by decide +kernel
theorem d9_9 : decode method_4_code 9 = .ok (.if_icmp .gt 8, 3) := by decide +kernel
theorem d9_12 : decode method_4_code 12 = .ok (.iload_n 0, 1) := by decide +kernel
theorem d9_13 : decode method_4_code 13 = .ok (.bipush 65, 2) := by decide +kernel
theorem d9_15 : decode method_4_code 15 = .ok (.isub, 1) := by decide +kernel
theorem d9_16 : decode method_4_code 16 = .ok (.ireturn, 1) := by decide +kernel
set_option maxRecDepth 65536 in
set_option maxHeartbeats 40000000 in
theorem rmV (l : Launch) (Z : State) (a0 : Array Value) (hw : ∀ d ∈ tables_1, d.before a0 Z = true) (ws : List Jvm.Cond) (x : Int32) (h0 : Heap) (n0 : Nat) (Z0 : n0 ≤ h0.size)  :
    Ctr l Z (⟨"com/example/sharks/sharks/StandardBase64DecodePinLaw", "v", "(C)I"⟩ : MethodName) method_4_code 1 (some .int) ws ({ frames := 0, cells := 0, slots := 0, locals := 0 } : Room) 0 0 #[(.int x)] h0 (fun v h L => v = some (.int (vl x)) ∧ L = [] ∧ h = h0) := by
  refine Ctr.mk (plainFor_of_name pn_0) fun p e s m below meth c T0 X0 C e0 => go_cast (ef_rmV m x) ?_
  have N0 := Fr.nil n0
  obtain ⟨hx, hZ, hby, hml, hown, hnm, hret, hlk⟩ := C
  show Go _ _ _ _ _ _ _ T0 (mkF m 0 #[.val (.int x)] [])
  refine Go.step (fun tt kk => XS.iloadN X0.here hx rfl (hb hby d9_0) rfl kk) ?_
  show Go _ _ _ _ _ _ _ T0 (mkF m 1 _ [(.int x)])
  refine Go.step (fun tt kk => XS.bipush X0.here hx rfl (hb hby d9_1) kk) ?_
  show Go _ _ _ _ _ _ _ T0 (mkF m 3 _ [(.int (65 : Int32)), (.int x)])
  by_cases c3_1 : x < (65 : Int32)
  · refine Go.step (fun tt kk => XS.icmpYes X0.here hx rfl (pc0 := 3) (pc' := 17) rfl (hb hby d9_3) rfl (tlt c3_1).1 (by decide) (by decide) kk) ?_
    show Go _ _ _ _ _ _ _ T0 (mkF m 17 _ [])
    refine Go.step (fun tt kk => XS.iloadN X0.here hx rfl (hb hby d9_17) rfl kk) ?_
    show Go _ _ _ _ _ _ _ T0 (mkF m 18 _ [(.int x)])
    refine Go.step (fun tt kk => XS.bipush X0.here hx rfl (hb hby d9_18) kk) ?_
    show Go _ _ _ _ _ _ _ T0 (mkF m 20 _ [(.int (97 : Int32)), (.int x)])
    by_cases c20_2 : x < (97 : Int32)
    · refine Go.step (fun tt kk => XS.icmpYes X0.here hx rfl (pc0 := 20) (pc' := 37) rfl (hb hby d9_20) rfl (tlt c20_2).1 (by decide) (by decide) kk) ?_
      show Go _ _ _ _ _ _ _ T0 (mkF m 37 _ [])
      refine Go.step (fun tt kk => XS.iloadN X0.here hx rfl (hb hby d9_37) rfl kk) ?_
      show Go _ _ _ _ _ _ _ T0 (mkF m 38 _ [(.int x)])
      refine Go.step (fun tt kk => XS.bipush X0.here hx rfl (hb hby d9_38) kk) ?_
      show Go _ _ _ _ _ _ _ T0 (mkF m 40 _ [(.int (48 : Int32)), (.int x)])
      by_cases c40_3 : x < (48 : Int32)
      · refine Go.step (fun tt kk => XS.icmpYes X0.here hx rfl (pc0 := 40) (pc' := 57) rfl (hb hby d9_40) rfl (tlt c40_3).1 (by decide) (by decide) kk) ?_
        show Go _ _ _ _ _ _ _ T0 (mkF m 57 _ [])
        refine Go.step (fun tt kk => XS.iloadN X0.here hx rfl (hb hby d9_57) rfl kk) ?_
        show Go _ _ _ _ _ _ _ T0 (mkF m 58 _ [(.int x)])
        refine Go.step (fun tt kk => XS.bipush X0.here hx rfl (hb hby d9_58) kk) ?_
        show Go _ _ _ _ _ _ _ T0 (mkF m 60 _ [(.int (43 : Int32)), (.int x)])
        by_cases c60_4 : x = (43 : Int32)
        · refine Go.step (fun tt kk => XS.icmpNo X0.here hx rfl (hb hby d9_60) rfl (teq c60_4).2 kk) ?_
          show Go _ _ _ _ _ _ _ T0 (mkF m 63 _ [])
          refine Go.step (fun tt kk => XS.bipush X0.here hx rfl (hb hby d9_63) kk) ?_
          show Go _ _ _ _ _ _ _ T0 (mkF m 65 _ [(.int (62 : Int32))])
          refine go_retI X0 hx hret hlk (hb hby d9_65) ?_ (by decide) (by decide)
          try rw [e0]
          exact ⟨congrArg (fun z => some (Value.int z)) (by simp only [vl, eq_true c3_1, eq_true c20_2, eq_true c40_3, eq_true c60_4, not_true_eq_false, not_false_eq_true, and_true, true_and, and_false, false_and, and_self, if_true, if_false]), rfl, rfl⟩
        · refine Go.step (fun tt kk => XS.icmpYes X0.here hx rfl (pc0 := 60) (pc' := 66) rfl (hb hby d9_60) rfl (feq c60_4).2 (by decide) (by decide) kk) ?_
          show Go _ _ _ _ _ _ _ T0 (mkF m 66 _ [])
          refine Go.step (fun tt kk => XS.iloadN X0.here hx rfl (hb hby d9_66) rfl kk) ?_
          show Go _ _ _ _ _ _ _ T0 (mkF m 67 _ [(.int x)])
          refine Go.step (fun tt kk => XS.bipush X0.here hx rfl (hb hby d9_67) kk) ?_
          show Go _ _ _ _ _ _ _ T0 (mkF m 69 _ [(.int (47 : Int32)), (.int x)])
          by_cases c69_5 : x = (47 : Int32)
          · refine Go.step (fun tt kk => XS.icmpNo X0.here hx rfl (hb hby d9_69) rfl (teq c69_5).2 kk) ?_
            show Go _ _ _ _ _ _ _ T0 (mkF m 72 _ [])
            refine Go.step (fun tt kk => XS.bipush X0.here hx rfl (hb hby d9_72) kk) ?_
            show Go _ _ _ _ _ _ _ T0 (mkF m 74 _ [(.int (63 : Int32))])
            refine go_retI X0 hx hret hlk (hb hby d9_74) ?_ (by decide) (by decide)
            try rw [e0]
            exact ⟨congrArg (fun z => some (Value.int z)) (by simp only [vl, eq_true c3_1, eq_true c20_2, eq_true c40_3, eq_false c60_4, eq_true c69_5, not_true_eq_false, not_false_eq_true, and_true, true_and, and_false, false_and, and_self, if_true, if_false]), rfl, rfl⟩
          · refine Go.step (fun tt kk => XS.icmpYes X0.here hx rfl (pc0 := 69) (pc' := 75) rfl (hb hby d9_69) rfl (feq c69_5).2 (by decide) (by decide) kk) ?_
            show Go _ _ _ _ _ _ _ T0 (mkF m 75 _ [])
            refine Go.step (fun tt kk => XS.iconst X0.here hx rfl (hb hby d9_75) kk) ?_
            show Go _ _ _ _ _ _ _ T0 (mkF m 76 _ [(.int (-1 : Int32))])
            refine go_retI X0 hx hret hlk (hb hby d9_76) ?_ (by decide) (by decide)
            try rw [e0]
            exact ⟨congrArg (fun z => some (Value.int z)) (by simp only [vl, eq_true c3_1, eq_true c20_2, eq_true c40_3, eq_false c60_4, eq_false c69_5, not_true_eq_false, not_false_eq_true, and_true, true_and, and_false, false_and, and_self, if_true, if_false]), rfl, rfl⟩
      · refine Go.step (fun tt kk => XS.icmpNo X0.here hx rfl (hb hby d9_40) rfl (flt c40_3).1 kk) ?_
        show Go _ _ _ _ _ _ _ T0 (mkF m 43 _ [])
        refine Go.step (fun tt kk => XS.iloadN X0.here hx rfl (hb hby d9_43) rfl kk) ?_
        show Go _ _ _ _ _ _ _ T0 (mkF m 44 _ [(.int x)])
        refine Go.step (fun tt kk => XS.bipush X0.here hx rfl (hb hby d9_44) kk) ?_
        show Go _ _ _ _ _ _ _ T0 (mkF m 46 _ [(.int (57 : Int32)), (.int x)])
        by_cases c46_6 : (57 : Int32) < x
        · refine Go.step (fun tt kk => XS.icmpYes X0.here hx rfl (pc0 := 46) (pc' := 57) rfl (hb hby d9_46) rfl (tlt c46_6).2.2.1 (by decide) (by decide) kk) ?_
          show Go _ _ _ _ _ _ _ T0 (mkF m 57 _ [])
          refine Go.step (fun tt kk => XS.iloadN X0.here hx rfl (hb hby d9_57) rfl kk) ?_
          show Go _ _ _ _ _ _ _ T0 (mkF m 58 _ [(.int x)])
          refine Go.step (fun tt kk => XS.bipush X0.here hx rfl (hb hby d9_58) kk) ?_
          show Go _ _ _ _ _ _ _ T0 (mkF m 60 _ [(.int (43 : Int32)), (.int x)])
          by_cases c60_7 : x = (43 : Int32)
          · refine Go.step (fun tt kk => XS.icmpNo X0.here hx rfl (hb hby d9_60) rfl (teq c60_7).2 kk) ?_
            show Go _ _ _ _ _ _ _ T0 (mkF m 63 _ [])
            refine Go.step (fun tt kk => XS.bipush X0.here hx rfl (hb hby d9_63) kk) ?_
            show Go _ _ _ _ _ _ _ T0 (mkF m 65 _ [(.int (62 : Int32))])
            refine go_retI X0 hx hret hlk (hb hby d9_65) ?_ (by decide) (by decide)
            try rw [e0]
            exact ⟨congrArg (fun z => some (Value.int z)) (by simp only [vl, eq_true c3_1, eq_true c20_2, eq_false c40_3, eq_true c46_6, eq_true c60_7, not_true_eq_false, not_false_eq_true, and_true, true_and, and_false, false_and, and_self, if_true, if_false]), rfl, rfl⟩
          · refine Go.step (fun tt kk => XS.icmpYes X0.here hx rfl (pc0 := 60) (pc' := 66) rfl (hb hby d9_60) rfl (feq c60_7).2 (by decide) (by decide) kk) ?_
            show Go _ _ _ _ _ _ _ T0 (mkF m 66 _ [])
            refine Go.step (fun tt kk => XS.iloadN X0.here hx rfl (hb hby d9_66) rfl kk) ?_
            show Go _ _ _ _ _ _ _ T0 (mkF m 67 _ [(.int x)])
            refine Go.step (fun tt kk => XS.bipush X0.here hx rfl (hb hby d9_67) kk) ?_
            show Go _ _ _ _ _ _ _ T0 (mkF m 69 _ [(.int (47 : Int32)), (.int x)])
            by_cases c69_8 : x = (47 : Int32)
            · refine Go.step (fun tt kk => XS.icmpNo X0.here hx rfl (hb hby d9_69) rfl (teq c69_8).2 kk) ?_
              show Go _ _ _ _ _ _ _ T0 (mkF m 72 _ [])
              refine Go.step (fun tt kk => XS.bipush X0.here hx rfl (hb hby d9_72) kk) ?_
              show Go _ _ _ _ _ _ _ T0 (mkF m 74 _ [(.int (63 : Int32))])
              refine go_retI X0 hx hret hlk (hb hby d9_74) ?_ (by decide) (by decide)
              try rw [e0]
              exact ⟨congrArg (fun z => some (Value.int z)) (by simp only [vl, eq_true c3_1, eq_true c20_2, eq_false c40_3, eq_true c46_6, eq_false c60_7, eq_true c69_8, not_true_eq_false, not_false_eq_true, and_true, true_and, and_false, false_and, and_self, if_true, if_false]), rfl, rfl⟩
            · refine Go.step (fun tt kk => XS.icmpYes X0.here hx rfl (pc0 := 69) (pc' := 75) rfl (hb hby d9_69) rfl (feq c69_8).2 (by decide) (by decide) kk) ?_
              show Go _ _ _ _ _ _ _ T0 (mkF m 75 _ [])
              refine Go.step (fun tt kk => XS.iconst X0.here hx rfl (hb hby d9_75) kk) ?_
              show Go _ _ _ _ _ _ _ T0 (mkF m 76 _ [(.int (-1 : Int32))])
              refine go_retI X0 hx hret hlk (hb hby d9_76) ?_ (by decide) (by decide)
              try rw [e0]
              exact ⟨congrArg (fun z => some (Value.int z)) (by simp only [vl, eq_true c3_1, eq_true c20_2, eq_false c40_3, eq_true c46_6, eq_false c60_7, eq_false c69_8, not_true_eq_false, not_false_eq_true, and_true, true_and, and_false, false_and, and_self, if_true, if_false]), rfl, rfl⟩
        · refine Go.step (fun tt kk => XS.icmpNo X0.here hx rfl (hb hby d9_46) rfl (flt c46_6).2.2.1 kk) ?_
          show Go _ _ _ _ _ _ _ T0 (mkF m 49 _ [])
          refine Go.step (fun tt kk => XS.iloadN X0.here hx rfl (hb hby d9_49) rfl kk) ?_
          show Go _ _ _ _ _ _ _ T0 (mkF m 50 _ [(.int x)])
          refine Go.step (fun tt kk => XS.bipush X0.here hx rfl (hb hby d9_50) kk) ?_
          show Go _ _ _ _ _ _ _ T0 (mkF m 52 _ [(.int (48 : Int32)), (.int x)])
          refine Go.step (fun tt kk => XS.isub X0.here hx rfl (hb hby d9_52) rfl kk) ?_
          show Go _ _ _ _ _ _ _ T0 (mkF m 53 _ [(.int (x - (48 : Int32)))])
          refine Go.step (fun tt kk => XS.bipush X0.here hx rfl (hb hby d9_53) kk) ?_
          show Go _ _ _ _ _ _ _ T0 (mkF m 55 _ [(.int (52 : Int32)), (.int (x - (48 : Int32)))])
          refine Go.step (fun tt kk => XS.iadd X0.here hx rfl (hb hby d9_55) rfl kk) ?_
          show Go _ _ _ _ _ _ _ T0 (mkF m 56 _ [(.int ((x - (48 : Int32)) + (52 : Int32)))])
          refine go_retI X0 hx hret hlk (hb hby d9_56) ?_ (by decide) (by decide)
          try rw [e0]
          exact ⟨congrArg (fun z => some (Value.int z)) (by simp only [vl, eq_true c3_1, eq_true c20_2, eq_false c40_3, eq_false c46_6, not_true_eq_false, not_false_eq_true, and_true, true_and, and_false, false_and, and_self, if_true, if_false]), rfl, rfl⟩
    · refine Go.step (fun tt kk => XS.icmpNo X0.here hx rfl (hb hby d9_20) rfl (flt c20_2).1 kk) ?_
      show Go _ _ _ _ _ _ _ T0 (mkF m 23 _ [])
      refine Go.step (fun tt kk => XS.iloadN X0.here hx rfl (hb hby d9_23) rfl kk) ?_
      show Go _ _ _ _ _ _ _ T0 (mkF m 24 _ [(.int x)])
      refine Go.step (fun tt kk => XS.bipush X0.here hx rfl (hb hby d9_24) kk) ?_
      show Go _ _ _ _ _ _ _ T0 (mkF m 26 _ [(.int (122 : Int32)), (.int x)])
      by_cases c26_9 : (122 : Int32) < x
      · refine Go.step (fun tt kk => XS.icmpYes X0.here hx rfl (pc0 := 26) (pc' := 37) rfl (hb hby d9_26) rfl (tlt c26_9).2.2.1 (by decide) (by decide) kk) ?_
        show Go _ _ _ _ _ _ _ T0 (mkF m 37 _ [])
        refine Go.step (fun tt kk => XS.iloadN X0.here hx rfl (hb hby d9_37) rfl kk) ?_
        show Go _ _ _ _ _ _ _ T0 (mkF m 38 _ [(.int x)])
        refine Go.step (fun tt kk => XS.bipush X0.here hx rfl (hb hby d9_38) kk) ?_
        show Go _ _ _ _ _ _ _ T0 (mkF m 40 _ [(.int (48 : Int32)), (.int x)])
        by_cases c40_10 : x < (48 : Int32)
        · refine Go.step (fun tt kk => XS.icmpYes X0.here hx rfl (pc0 := 40) (pc' := 57) rfl (hb hby d9_40) rfl (tlt c40_10).1 (by decide) (by decide) kk) ?_
          show Go _ _ _ _ _ _ _ T0 (mkF m 57 _ [])
          refine Go.step (fun tt kk => XS.iloadN X0.here hx rfl (hb hby d9_57) rfl kk) ?_
          show Go _ _ _ _ _ _ _ T0 (mkF m 58 _ [(.int x)])
          refine Go.step (fun tt kk => XS.bipush X0.here hx rfl (hb hby d9_58) kk) ?_
          show Go _ _ _ _ _ _ _ T0 (mkF m 60 _ [(.int (43 : Int32)), (.int x)])
          by_cases c60_11 : x = (43 : Int32)
          · refine Go.step (fun tt kk => XS.icmpNo X0.here hx rfl (hb hby d9_60) rfl (teq c60_11).2 kk) ?_
            show Go _ _ _ _ _ _ _ T0 (mkF m 63 _ [])
            refine Go.step (fun tt kk => XS.bipush X0.here hx rfl (hb hby d9_63) kk) ?_
            show Go _ _ _ _ _ _ _ T0 (mkF m 65 _ [(.int (62 : Int32))])
            refine go_retI X0 hx hret hlk (hb hby d9_65) ?_ (by decide) (by decide)
            try rw [e0]
            exact ⟨congrArg (fun z => some (Value.int z)) (by simp only [vl, eq_true c3_1, eq_false c20_2, eq_true c26_9, eq_true c40_10, eq_true c60_11, not_true_eq_false, not_false_eq_true, and_true, true_and, and_false, false_and, and_self, if_true, if_false]), rfl, rfl⟩
          · refine Go.step (fun tt kk => XS.icmpYes X0.here hx rfl (pc0 := 60) (pc' := 66) rfl (hb hby d9_60) rfl (feq c60_11).2 (by decide) (by decide) kk) ?_
            show Go _ _ _ _ _ _ _ T0 (mkF m 66 _ [])
            refine Go.step (fun tt kk => XS.iloadN X0.here hx rfl (hb hby d9_66) rfl kk) ?_
            show Go _ _ _ _ _ _ _ T0 (mkF m 67 _ [(.int x)])
            refine Go.step (fun tt kk => XS.bipush X0.here hx rfl (hb hby d9_67) kk) ?_
            show Go _ _ _ _ _ _ _ T0 (mkF m 69 _ [(.int (47 : Int32)), (.int x)])
            by_cases c69_12 : x = (47 : Int32)
            · refine Go.step (fun tt kk => XS.icmpNo X0.here hx rfl (hb hby d9_69) rfl (teq c69_12).2 kk) ?_
              show Go _ _ _ _ _ _ _ T0 (mkF m 72 _ [])
              refine Go.step (fun tt kk => XS.bipush X0.here hx rfl (hb hby d9_72) kk) ?_
              show Go _ _ _ _ _ _ _ T0 (mkF m 74 _ [(.int (63 : Int32))])
              refine go_retI X0 hx hret hlk (hb hby d9_74) ?_ (by decide) (by decide)
              try rw [e0]
              exact ⟨congrArg (fun z => some (Value.int z)) (by simp only [vl, eq_true c3_1, eq_false c20_2, eq_true c26_9, eq_true c40_10, eq_false c60_11, eq_true c69_12, not_true_eq_false, not_false_eq_true, and_true, true_and, and_false, false_and, and_self, if_true, if_false]), rfl, rfl⟩
            · refine Go.step (fun tt kk => XS.icmpYes X0.here hx rfl (pc0 := 69) (pc' := 75) rfl (hb hby d9_69) rfl (feq c69_12).2 (by decide) (by decide) kk) ?_
              show Go _ _ _ _ _ _ _ T0 (mkF m 75 _ [])
              refine Go.step (fun tt kk => XS.iconst X0.here hx rfl (hb hby d9_75) kk) ?_
              show Go _ _ _ _ _ _ _ T0 (mkF m 76 _ [(.int (-1 : Int32))])
              refine go_retI X0 hx hret hlk (hb hby d9_76) ?_ (by decide) (by decide)
              try rw [e0]
              exact ⟨congrArg (fun z => some (Value.int z)) (by simp only [vl, eq_true c3_1, eq_false c20_2, eq_true c26_9, eq_true c40_10, eq_false c60_11, eq_false c69_12, not_true_eq_false, not_false_eq_true, and_true, true_and, and_false, false_and, and_self, if_true, if_false]), rfl, rfl⟩
        · refine Go.step (fun tt kk => XS.icmpNo X0.here hx rfl (hb hby d9_40) rfl (flt c40_10).1 kk) ?_
          show Go _ _ _ _ _ _ _ T0 (mkF m 43 _ [])
          refine Go.step (fun tt kk => XS.iloadN X0.here hx rfl (hb hby d9_43) rfl kk) ?_
          show Go _ _ _ _ _ _ _ T0 (mkF m 44 _ [(.int x)])
          refine Go.step (fun tt kk => XS.bipush X0.here hx rfl (hb hby d9_44) kk) ?_
          show Go _ _ _ _ _ _ _ T0 (mkF m 46 _ [(.int (57 : Int32)), (.int x)])
          by_cases c46_13 : (57 : Int32) < x
          · refine Go.step (fun tt kk => XS.icmpYes X0.here hx rfl (pc0 := 46) (pc' := 57) rfl (hb hby d9_46) rfl (tlt c46_13).2.2.1 (by decide) (by decide) kk) ?_
            show Go _ _ _ _ _ _ _ T0 (mkF m 57 _ [])
            refine Go.step (fun tt kk => XS.iloadN X0.here hx rfl (hb hby d9_57) rfl kk) ?_
            show Go _ _ _ _ _ _ _ T0 (mkF m 58 _ [(.int x)])
            refine Go.step (fun tt kk => XS.bipush X0.here hx rfl (hb hby d9_58) kk) ?_
            show Go _ _ _ _ _ _ _ T0 (mkF m 60 _ [(.int (43 : Int32)), (.int x)])
            by_cases c60_14 : x = (43 : Int32)
            · refine Go.step (fun tt kk => XS.icmpNo X0.here hx rfl (hb hby d9_60) rfl (teq c60_14).2 kk) ?_
              show Go _ _ _ _ _ _ _ T0 (mkF m 63 _ [])
              refine Go.step (fun tt kk => XS.bipush X0.here hx rfl (hb hby d9_63) kk) ?_
              show Go _ _ _ _ _ _ _ T0 (mkF m 65 _ [(.int (62 : Int32))])
              refine go_retI X0 hx hret hlk (hb hby d9_65) ?_ (by decide) (by decide)
              try rw [e0]
              exact ⟨congrArg (fun z => some (Value.int z)) (by simp only [vl, eq_true c3_1, eq_false c20_2, eq_true c26_9, eq_false c40_10, eq_true c46_13, eq_true c60_14, not_true_eq_false, not_false_eq_true, and_true, true_and, and_false, false_and, and_self, if_true, if_false]), rfl, rfl⟩
            · refine Go.step (fun tt kk => XS.icmpYes X0.here hx rfl (pc0 := 60) (pc' := 66) rfl (hb hby d9_60) rfl (feq c60_14).2 (by decide) (by decide) kk) ?_
              show Go _ _ _ _ _ _ _ T0 (mkF m 66 _ [])
              refine Go.step (fun tt kk => XS.iloadN X0.here hx rfl (hb hby d9_66) rfl kk) ?_
              show Go _ _ _ _ _ _ _ T0 (mkF m 67 _ [(.int x)])
              refine Go.step (fun tt kk => XS.bipush X0.here hx rfl (hb hby d9_67) kk) ?_
              show Go _ _ _ _ _ _ _ T0 (mkF m 69 _ [(.int (47 : Int32)), (.int x)])
              by_cases c69_15 : x = (47 : Int32)
              · refine Go.step (fun tt kk => XS.icmpNo X0.here hx rfl (hb hby d9_69) rfl (teq c69_15).2 kk) ?_
                show Go _ _ _ _ _ _ _ T0 (mkF m 72 _ [])
                refine Go.step (fun tt kk => XS.bipush X0.here hx rfl (hb hby d9_72) kk) ?_
                show Go _ _ _ _ _ _ _ T0 (mkF m 74 _ [(.int (63 : Int32))])
                refine go_retI X0 hx hret hlk (hb hby d9_74) ?_ (by decide) (by decide)
                try rw [e0]
                exact ⟨congrArg (fun z => some (Value.int z)) (by simp only [vl, eq_true c3_1, eq_false c20_2, eq_true c26_9, eq_false c40_10, eq_true c46_13, eq_false c60_14, eq_true c69_15, not_true_eq_false, not_false_eq_true, and_true, true_and, and_false, false_and, and_self, if_true, if_false]), rfl, rfl⟩
              · refine Go.step (fun tt kk => XS.icmpYes X0.here hx rfl (pc0 := 69) (pc' := 75) rfl (hb hby d9_69) rfl (feq c69_15).2 (by decide) (by decide) kk) ?_
                show Go _ _ _ _ _ _ _ T0 (mkF m 75 _ [])
                refine Go.step (fun tt kk => XS.iconst X0.here hx rfl (hb hby d9_75) kk) ?_
                show Go _ _ _ _ _ _ _ T0 (mkF m 76 _ [(.int (-1 : Int32))])
                refine go_retI X0 hx hret hlk (hb hby d9_76) ?_ (by decide) (by decide)
                try rw [e0]
                exact ⟨congrArg (fun z => some (Value.int z)) (by simp only [vl, eq_true c3_1, eq_false c20_2, eq_true c26_9, eq_false c40_10, eq_true c46_13, eq_false c60_14, eq_false c69_15, not_true_eq_false, not_false_eq_true, and_true, true_and, and_false, false_and, and_self, if_true, if_false]), rfl, rfl⟩
          · refine Go.step (fun tt kk => XS.icmpNo X0.here hx rfl (hb hby d9_46) rfl (flt c46_13).2.2.1 kk) ?_
            show Go _ _ _ _ _ _ _ T0 (mkF m 49 _ [])
            refine Go.step (fun tt kk => XS.iloadN X0.here hx rfl (hb hby d9_49) rfl kk) ?_
            show Go _ _ _ _ _ _ _ T0 (mkF m 50 _ [(.int x)])
            refine Go.step (fun tt kk => XS.bipush X0.here hx rfl (hb hby d9_50) kk) ?_
            show Go _ _ _ _ _ _ _ T0 (mkF m 52 _ [(.int (48 : Int32)), (.int x)])
            refine Go.step (fun tt kk => XS.isub X0.here hx rfl (hb hby d9_52) rfl kk) ?_
            show Go _ _ _ _ _ _ _ T0 (mkF m 53 _ [(.int (x - (48 : Int32)))])
            refine Go.step (fun tt kk => XS.bipush X0.here hx rfl (hb hby d9_53) kk) ?_
            show Go _ _ _ _ _ _ _ T0 (mkF m 55 _ [(.int (52 : Int32)), (.int (x - (48 : Int32)))])
            refine Go.step (fun tt kk => XS.iadd X0.here hx rfl (hb hby d9_55) rfl kk) ?_
            show Go _ _ _ _ _ _ _ T0 (mkF m 56 _ [(.int ((x - (48 : Int32)) + (52 : Int32)))])
            refine go_retI X0 hx hret hlk (hb hby d9_56) ?_ (by decide) (by decide)
            try rw [e0]
            exact ⟨congrArg (fun z => some (Value.int z)) (by simp only [vl, eq_true c3_1, eq_false c20_2, eq_true c26_9, eq_false c40_10, eq_false c46_13, not_true_eq_false, not_false_eq_true, and_true, true_and, and_false, false_and, and_self, if_true, if_false]), rfl, rfl⟩
      · refine Go.step (fun tt kk => XS.icmpNo X0.here hx rfl (hb hby d9_26) rfl (flt c26_9).2.2.1 kk) ?_
        show Go _ _ _ _ _ _ _ T0 (mkF m 29 _ [])
        refine Go.step (fun tt kk => XS.iloadN X0.here hx rfl (hb hby d9_29) rfl kk) ?_
        show Go _ _ _ _ _ _ _ T0 (mkF m 30 _ [(.int x)])
        refine Go.step (fun tt kk => XS.bipush X0.here hx rfl (hb hby d9_30) kk) ?_
        show Go _ _ _ _ _ _ _ T0 (mkF m 32 _ [(.int (97 : Int32)), (.int x)])
        refine Go.step (fun tt kk => XS.isub X0.here hx rfl (hb hby d9_32) rfl kk) ?_
        show Go _ _ _ _ _ _ _ T0 (mkF m 33 _ [(.int (x - (97 : Int32)))])
        refine Go.step (fun tt kk => XS.bipush X0.here hx rfl (hb hby d9_33) kk) ?_
        show Go _ _ _ _ _ _ _ T0 (mkF m 35 _ [(.int (26 : Int32)), (.int (x - (97 : Int32)))])
        refine Go.step (fun tt kk => XS.iadd X0.here hx rfl (hb hby d9_35) rfl kk) ?_
        show Go _ _ _ _ _ _ _ T0 (mkF m 36 _ [(.int ((x - (97 : Int32)) + (26 : Int32)))])
        refine go_retI X0 hx hret hlk (hb hby d9_36) ?_ (by decide) (by decide)
        try rw [e0]
        exact ⟨congrArg (fun z => some (Value.int z)) (by simp only [vl, eq_true c3_1, eq_false c20_2, eq_false c26_9, not_true_eq_false, not_false_eq_true, and_true, true_and, and_false, false_and, and_self, if_true, if_false]), rfl, rfl⟩
  · refine Go.step (fun tt kk => XS.icmpNo X0.here hx rfl (hb hby d9_3) rfl (flt c3_1).1 kk) ?_
    show Go _ _ _ _ _ _ _ T0 (mkF m 6 _ [])
    refine Go.step (fun tt kk => XS.iloadN X0.here hx rfl (hb hby d9_6) rfl kk) ?_
    show Go _ _ _ _ _ _ _ T0 (mkF m 7 _ [(.int x)])
    refine Go.step (fun tt kk => XS.bipush X0.here hx rfl (hb hby d9_7) kk) ?_
    show Go _ _ _ _ _ _ _ T0 (mkF m 9 _ [(.int (90 : Int32)), (.int x)])
    by_cases c9_16 : (90 : Int32) < x
    · refine Go.step (fun tt kk => XS.icmpYes X0.here hx rfl (pc0 := 9) (pc' := 17) rfl (hb hby d9_9) rfl (tlt c9_16).2.2.1 (by decide) (by decide) kk) ?_
      show Go _ _ _ _ _ _ _ T0 (mkF m 17 _ [])
      refine Go.step (fun tt kk => XS.iloadN X0.here hx rfl (hb hby d9_17) rfl kk) ?_
      show Go _ _ _ _ _ _ _ T0 (mkF m 18 _ [(.int x)])
      refine Go.step (fun tt kk => XS.bipush X0.here hx rfl (hb hby d9_18) kk) ?_
      show Go _ _ _ _ _ _ _ T0 (mkF m 20 _ [(.int (97 : Int32)), (.int x)])
      by_cases c20_17 : x < (97 : Int32)
      · refine Go.step (fun tt kk => XS.icmpYes X0.here hx rfl (pc0 := 20) (pc' := 37) rfl (hb hby d9_20) rfl (tlt c20_17).1 (by decide) (by decide) kk) ?_
        show Go _ _ _ _ _ _ _ T0 (mkF m 37 _ [])
        refine Go.step (fun tt kk => XS.iloadN X0.here hx rfl (hb hby d9_37) rfl kk) ?_
        show Go _ _ _ _ _ _ _ T0 (mkF m 38 _ [(.int x)])
        refine Go.step (fun tt kk => XS.bipush X0.here hx rfl (hb hby d9_38) kk) ?_
        show Go _ _ _ _ _ _ _ T0 (mkF m 40 _ [(.int (48 : Int32)), (.int x)])
        by_cases c40_18 : x < (48 : Int32)
        · refine Go.step (fun tt kk => XS.icmpYes X0.here hx rfl (pc0 := 40) (pc' := 57) rfl (hb hby d9_40) rfl (tlt c40_18).1 (by decide) (by decide) kk) ?_
          show Go _ _ _ _ _ _ _ T0 (mkF m 57 _ [])
          refine Go.step (fun tt kk => XS.iloadN X0.here hx rfl (hb hby d9_57) rfl kk) ?_
          show Go _ _ _ _ _ _ _ T0 (mkF m 58 _ [(.int x)])
          refine Go.step (fun tt kk => XS.bipush X0.here hx rfl (hb hby d9_58) kk) ?_
          show Go _ _ _ _ _ _ _ T0 (mkF m 60 _ [(.int (43 : Int32)), (.int x)])
          by_cases c60_19 : x = (43 : Int32)
          · refine Go.step (fun tt kk => XS.icmpNo X0.here hx rfl (hb hby d9_60) rfl (teq c60_19).2 kk) ?_
            show Go _ _ _ _ _ _ _ T0 (mkF m 63 _ [])
            refine Go.step (fun tt kk => XS.bipush X0.here hx rfl (hb hby d9_63) kk) ?_
            show Go _ _ _ _ _ _ _ T0 (mkF m 65 _ [(.int (62 : Int32))])
            refine go_retI X0 hx hret hlk (hb hby d9_65) ?_ (by decide) (by decide)
            try rw [e0]
            exact ⟨congrArg (fun z => some (Value.int z)) (by simp only [vl, eq_false c3_1, eq_true c9_16, eq_true c20_17, eq_true c40_18, eq_true c60_19, not_true_eq_false, not_false_eq_true, and_true, true_and, and_false, false_and, and_self, if_true, if_false]), rfl, rfl⟩
          · refine Go.step (fun tt kk => XS.icmpYes X0.here hx rfl (pc0 := 60) (pc' := 66) rfl (hb hby d9_60) rfl (feq c60_19).2 (by decide) (by decide) kk) ?_
            show Go _ _ _ _ _ _ _ T0 (mkF m 66 _ [])
            refine Go.step (fun tt kk => XS.iloadN X0.here hx rfl (hb hby d9_66) rfl kk) ?_
            show Go _ _ _ _ _ _ _ T0 (mkF m 67 _ [(.int x)])
            refine Go.step (fun tt kk => XS.bipush X0.here hx rfl (hb hby d9_67) kk) ?_
            show Go _ _ _ _ _ _ _ T0 (mkF m 69 _ [(.int (47 : Int32)), (.int x)])
            by_cases c69_20 : x = (47 : Int32)
            · refine Go.step (fun tt kk => XS.icmpNo X0.here hx rfl (hb hby d9_69) rfl (teq c69_20).2 kk) ?_
              show Go _ _ _ _ _ _ _ T0 (mkF m 72 _ [])
              refine Go.step (fun tt kk => XS.bipush X0.here hx rfl (hb hby d9_72) kk) ?_
              show Go _ _ _ _ _ _ _ T0 (mkF m 74 _ [(.int (63 : Int32))])
              refine go_retI X0 hx hret hlk (hb hby d9_74) ?_ (by decide) (by decide)
              try rw [e0]
              exact ⟨congrArg (fun z => some (Value.int z)) (by simp only [vl, eq_false c3_1, eq_true c9_16, eq_true c20_17, eq_true c40_18, eq_false c60_19, eq_true c69_20, not_true_eq_false, not_false_eq_true, and_true, true_and, and_false, false_and, and_self, if_true, if_false]), rfl, rfl⟩
            · refine Go.step (fun tt kk => XS.icmpYes X0.here hx rfl (pc0 := 69) (pc' := 75) rfl (hb hby d9_69) rfl (feq c69_20).2 (by decide) (by decide) kk) ?_
              show Go _ _ _ _ _ _ _ T0 (mkF m 75 _ [])
              refine Go.step (fun tt kk => XS.iconst X0.here hx rfl (hb hby d9_75) kk) ?_
              show Go _ _ _ _ _ _ _ T0 (mkF m 76 _ [(.int (-1 : Int32))])
              refine go_retI X0 hx hret hlk (hb hby d9_76) ?_ (by decide) (by decide)
              try rw [e0]
              exact ⟨congrArg (fun z => some (Value.int z)) (by simp only [vl, eq_false c3_1, eq_true c9_16, eq_true c20_17, eq_true c40_18, eq_false c60_19, eq_false c69_20, not_true_eq_false, not_false_eq_true, and_true, true_and, and_false, false_and, and_self, if_true, if_false]), rfl, rfl⟩
        · refine Go.step (fun tt kk => XS.icmpNo X0.here hx rfl (hb hby d9_40) rfl (flt c40_18).1 kk) ?_
          show Go _ _ _ _ _ _ _ T0 (mkF m 43 _ [])
          refine Go.step (fun tt kk => XS.iloadN X0.here hx rfl (hb hby d9_43) rfl kk) ?_
          show Go _ _ _ _ _ _ _ T0 (mkF m 44 _ [(.int x)])
          refine Go.step (fun tt kk => XS.bipush X0.here hx rfl (hb hby d9_44) kk) ?_
          show Go _ _ _ _ _ _ _ T0 (mkF m 46 _ [(.int (57 : Int32)), (.int x)])
          by_cases c46_21 : (57 : Int32) < x
          · refine Go.step (fun tt kk => XS.icmpYes X0.here hx rfl (pc0 := 46) (pc' := 57) rfl (hb hby d9_46) rfl (tlt c46_21).2.2.1 (by decide) (by decide) kk) ?_
            show Go _ _ _ _ _ _ _ T0 (mkF m 57 _ [])
            refine Go.step (fun tt kk => XS.iloadN X0.here hx rfl (hb hby d9_57) rfl kk) ?_
            show Go _ _ _ _ _ _ _ T0 (mkF m 58 _ [(.int x)])
            refine Go.step (fun tt kk => XS.bipush X0.here hx rfl (hb hby d9_58) kk) ?_
            show Go _ _ _ _ _ _ _ T0 (mkF m 60 _ [(.int (43 : Int32)), (.int x)])
            by_cases c60_22 : x = (43 : Int32)
            · refine Go.step (fun tt kk => XS.icmpNo X0.here hx rfl (hb hby d9_60) rfl (teq c60_22).2 kk) ?_
              show Go _ _ _ _ _ _ _ T0 (mkF m 63 _ [])
              refine Go.step (fun tt kk => XS.bipush X0.here hx rfl (hb hby d9_63) kk) ?_
              show Go _ _ _ _ _ _ _ T0 (mkF m 65 _ [(.int (62 : Int32))])
              refine go_retI X0 hx hret hlk (hb hby d9_65) ?_ (by decide) (by decide)
              try rw [e0]
              exact ⟨congrArg (fun z => some (Value.int z)) (by simp only [vl, eq_false c3_1, eq_true c9_16, eq_true c20_17, eq_false c40_18, eq_true c46_21, eq_true c60_22, not_true_eq_false, not_false_eq_true, and_true, true_and, and_false, false_and, and_self, if_true, if_false]), rfl, rfl⟩
            · refine Go.step (fun tt kk => XS.icmpYes X0.here hx rfl (pc0 := 60) (pc' := 66) rfl (hb hby d9_60) rfl (feq c60_22).2 (by decide) (by decide) kk) ?_
              show Go _ _ _ _ _ _ _ T0 (mkF m 66 _ [])
              refine Go.step (fun tt kk => XS.iloadN X0.here hx rfl (hb hby d9_66) rfl kk) ?_
              show Go _ _ _ _ _ _ _ T0 (mkF m 67 _ [(.int x)])
              refine Go.step (fun tt kk => XS.bipush X0.here hx rfl (hb hby d9_67) kk) ?_
              show Go _ _ _ _ _ _ _ T0 (mkF m 69 _ [(.int (47 : Int32)), (.int x)])
              by_cases c69_23 : x = (47 : Int32)
              · refine Go.step (fun tt kk => XS.icmpNo X0.here hx rfl (hb hby d9_69) rfl (teq c69_23).2 kk) ?_
                show Go _ _ _ _ _ _ _ T0 (mkF m 72 _ [])
                refine Go.step (fun tt kk => XS.bipush X0.here hx rfl (hb hby d9_72) kk) ?_
                show Go _ _ _ _ _ _ _ T0 (mkF m 74 _ [(.int (63 : Int32))])
                refine go_retI X0 hx hret hlk (hb hby d9_74) ?_ (by decide) (by decide)
                try rw [e0]
                exact ⟨congrArg (fun z => some (Value.int z)) (by simp only [vl, eq_false c3_1, eq_true c9_16, eq_true c20_17, eq_false c40_18, eq_true c46_21, eq_false c60_22, eq_true c69_23, not_true_eq_false, not_false_eq_true, and_true, true_and, and_false, false_and, and_self, if_true, if_false]), rfl, rfl⟩
              · refine Go.step (fun tt kk => XS.icmpYes X0.here hx rfl (pc0 := 69) (pc' := 75) rfl (hb hby d9_69) rfl (feq c69_23).2 (by decide) (by decide) kk) ?_
                show Go _ _ _ _ _ _ _ T0 (mkF m 75 _ [])
                refine Go.step (fun tt kk => XS.iconst X0.here hx rfl (hb hby d9_75) kk) ?_
                show Go _ _ _ _ _ _ _ T0 (mkF m 76 _ [(.int (-1 : Int32))])
                refine go_retI X0 hx hret hlk (hb hby d9_76) ?_ (by decide) (by decide)
                try rw [e0]
                exact ⟨congrArg (fun z => some (Value.int z)) (by simp only [vl, eq_false c3_1, eq_true c9_16, eq_true c20_17, eq_false c40_18, eq_true c46_21, eq_false c60_22, eq_false c69_23, not_true_eq_false, not_false_eq_true, and_true, true_and, and_false, false_and, and_self, if_true, if_false]), rfl, rfl⟩
          · refine Go.step (fun tt kk => XS.icmpNo X0.here hx rfl (hb hby d9_46) rfl (flt c46_21).2.2.1 kk) ?_
            show Go _ _ _ _ _ _ _ T0 (mkF m 49 _ [])
            refine Go.step (fun tt kk => XS.iloadN X0.here hx rfl (hb hby d9_49) rfl kk) ?_
            show Go _ _ _ _ _ _ _ T0 (mkF m 50 _ [(.int x)])
            refine Go.step (fun tt kk => XS.bipush X0.here hx rfl (hb hby d9_50) kk) ?_
            show Go _ _ _ _ _ _ _ T0 (mkF m 52 _ [(.int (48 : Int32)), (.int x)])
            refine Go.step (fun tt kk => XS.isub X0.here hx rfl (hb hby d9_52) rfl kk) ?_
            show Go _ _ _ _ _ _ _ T0 (mkF m 53 _ [(.int (x - (48 : Int32)))])
            refine Go.step (fun tt kk => XS.bipush X0.here hx rfl (hb hby d9_53) kk) ?_
            show Go _ _ _ _ _ _ _ T0 (mkF m 55 _ [(.int (52 : Int32)), (.int (x - (48 : Int32)))])
            refine Go.step (fun tt kk => XS.iadd X0.here hx rfl (hb hby d9_55) rfl kk) ?_
            show Go _ _ _ _ _ _ _ T0 (mkF m 56 _ [(.int ((x - (48 : Int32)) + (52 : Int32)))])
            refine go_retI X0 hx hret hlk (hb hby d9_56) ?_ (by decide) (by decide)
            try rw [e0]
            exact ⟨congrArg (fun z => some (Value.int z)) (by simp only [vl, eq_false c3_1, eq_true c9_16, eq_true c20_17, eq_false c40_18, eq_false c46_21, not_true_eq_false, not_false_eq_true, and_true, true_and, and_false, false_and, and_self, if_true, if_false]), rfl, rfl⟩
      · refine Go.step (fun tt kk => XS.icmpNo X0.here hx rfl (hb hby d9_20) rfl (flt c20_17).1 kk) ?_
        show Go _ _ _ _ _ _ _ T0 (mkF m 23 _ [])
        refine Go.step (fun tt kk => XS.iloadN X0.here hx rfl (hb hby d9_23) rfl kk) ?_
        show Go _ _ _ _ _ _ _ T0 (mkF m 24 _ [(.int x)])
        refine Go.step (fun tt kk => XS.bipush X0.here hx rfl (hb hby d9_24) kk) ?_
        show Go _ _ _ _ _ _ _ T0 (mkF m 26 _ [(.int (122 : Int32)), (.int x)])
        by_cases c26_24 : (122 : Int32) < x
        · refine Go.step (fun tt kk => XS.icmpYes X0.here hx rfl (pc0 := 26) (pc' := 37) rfl (hb hby d9_26) rfl (tlt c26_24).2.2.1 (by decide) (by decide) kk) ?_
          show Go _ _ _ _ _ _ _ T0 (mkF m 37 _ [])
          refine Go.step (fun tt kk => XS.iloadN X0.here hx rfl (hb hby d9_37) rfl kk) ?_
          show Go _ _ _ _ _ _ _ T0 (mkF m 38 _ [(.int x)])
          refine Go.step (fun tt kk => XS.bipush X0.here hx rfl (hb hby d9_38) kk) ?_
          show Go _ _ _ _ _ _ _ T0 (mkF m 40 _ [(.int (48 : Int32)), (.int x)])
          by_cases c40_25 : x < (48 : Int32)
          · refine Go.step (fun tt kk => XS.icmpYes X0.here hx rfl (pc0 := 40) (pc' := 57) rfl (hb hby d9_40) rfl (tlt c40_25).1 (by decide) (by decide) kk) ?_
            show Go _ _ _ _ _ _ _ T0 (mkF m 57 _ [])
            refine Go.step (fun tt kk => XS.iloadN X0.here hx rfl (hb hby d9_57) rfl kk) ?_
            show Go _ _ _ _ _ _ _ T0 (mkF m 58 _ [(.int x)])
            refine Go.step (fun tt kk => XS.bipush X0.here hx rfl (hb hby d9_58) kk) ?_
            show Go _ _ _ _ _ _ _ T0 (mkF m 60 _ [(.int (43 : Int32)), (.int x)])
            by_cases c60_26 : x = (43 : Int32)
            · refine Go.step (fun tt kk => XS.icmpNo X0.here hx rfl (hb hby d9_60) rfl (teq c60_26).2 kk) ?_
              show Go _ _ _ _ _ _ _ T0 (mkF m 63 _ [])
              refine Go.step (fun tt kk => XS.bipush X0.here hx rfl (hb hby d9_63) kk) ?_
              show Go _ _ _ _ _ _ _ T0 (mkF m 65 _ [(.int (62 : Int32))])
              refine go_retI X0 hx hret hlk (hb hby d9_65) ?_ (by decide) (by decide)
              try rw [e0]
              exact ⟨congrArg (fun z => some (Value.int z)) (by simp only [vl, eq_false c3_1, eq_true c9_16, eq_false c20_17, eq_true c26_24, eq_true c40_25, eq_true c60_26, not_true_eq_false, not_false_eq_true, and_true, true_and, and_false, false_and, and_self, if_true, if_false]), rfl, rfl⟩
            · refine Go.step (fun tt kk => XS.icmpYes X0.here hx rfl (pc0 := 60) (pc' := 66) rfl (hb hby d9_60) rfl (feq c60_26).2 (by decide) (by decide) kk) ?_
              show Go _ _ _ _ _ _ _ T0 (mkF m 66 _ [])
              refine Go.step (fun tt kk => XS.iloadN X0.here hx rfl (hb hby d9_66) rfl kk) ?_
              show Go _ _ _ _ _ _ _ T0 (mkF m 67 _ [(.int x)])
              refine Go.step (fun tt kk => XS.bipush X0.here hx rfl (hb hby d9_67) kk) ?_
              show Go _ _ _ _ _ _ _ T0 (mkF m 69 _ [(.int (47 : Int32)), (.int x)])
              by_cases c69_27 : x = (47 : Int32)
              · refine Go.step (fun tt kk => XS.icmpNo X0.here hx rfl (hb hby d9_69) rfl (teq c69_27).2 kk) ?_
                show Go _ _ _ _ _ _ _ T0 (mkF m 72 _ [])
                refine Go.step (fun tt kk => XS.bipush X0.here hx rfl (hb hby d9_72) kk) ?_
                show Go _ _ _ _ _ _ _ T0 (mkF m 74 _ [(.int (63 : Int32))])
                refine go_retI X0 hx hret hlk (hb hby d9_74) ?_ (by decide) (by decide)
                try rw [e0]
                exact ⟨congrArg (fun z => some (Value.int z)) (by simp only [vl, eq_false c3_1, eq_true c9_16, eq_false c20_17, eq_true c26_24, eq_true c40_25, eq_false c60_26, eq_true c69_27, not_true_eq_false, not_false_eq_true, and_true, true_and, and_false, false_and, and_self, if_true, if_false]), rfl, rfl⟩
              · refine Go.step (fun tt kk => XS.icmpYes X0.here hx rfl (pc0 := 69) (pc' := 75) rfl (hb hby d9_69) rfl (feq c69_27).2 (by decide) (by decide) kk) ?_
                show Go _ _ _ _ _ _ _ T0 (mkF m 75 _ [])
                refine Go.step (fun tt kk => XS.iconst X0.here hx rfl (hb hby d9_75) kk) ?_
                show Go _ _ _ _ _ _ _ T0 (mkF m 76 _ [(.int (-1 : Int32))])
                refine go_retI X0 hx hret hlk (hb hby d9_76) ?_ (by decide) (by decide)
                try rw [e0]
                exact ⟨congrArg (fun z => some (Value.int z)) (by simp only [vl, eq_false c3_1, eq_true c9_16, eq_false c20_17, eq_true c26_24, eq_true c40_25, eq_false c60_26, eq_false c69_27, not_true_eq_false, not_false_eq_true, and_true, true_and, and_false, false_and, and_self, if_true, if_false]), rfl, rfl⟩
          · refine Go.step (fun tt kk => XS.icmpNo X0.here hx rfl (hb hby d9_40) rfl (flt c40_25).1 kk) ?_
            show Go _ _ _ _ _ _ _ T0 (mkF m 43 _ [])
            refine Go.step (fun tt kk => XS.iloadN X0.here hx rfl (hb hby d9_43) rfl kk) ?_
            show Go _ _ _ _ _ _ _ T0 (mkF m 44 _ [(.int x)])
            refine Go.step (fun tt kk => XS.bipush X0.here hx rfl (hb hby d9_44) kk) ?_
            show Go _ _ _ _ _ _ _ T0 (mkF m 46 _ [(.int (57 : Int32)), (.int x)])
            by_cases c46_28 : (57 : Int32) < x
            · refine Go.step (fun tt kk => XS.icmpYes X0.here hx rfl (pc0 := 46) (pc' := 57) rfl (hb hby d9_46) rfl (tlt c46_28).2.2.1 (by decide) (by decide) kk) ?_
              show Go _ _ _ _ _ _ _ T0 (mkF m 57 _ [])
              refine Go.step (fun tt kk => XS.iloadN X0.here hx rfl (hb hby d9_57) rfl kk) ?_
              show Go _ _ _ _ _ _ _ T0 (mkF m 58 _ [(.int x)])
              refine Go.step (fun tt kk => XS.bipush X0.here hx rfl (hb hby d9_58) kk) ?_
              show Go _ _ _ _ _ _ _ T0 (mkF m 60 _ [(.int (43 : Int32)), (.int x)])
              by_cases c60_29 : x = (43 : Int32)
              · refine Go.step (fun tt kk => XS.icmpNo X0.here hx rfl (hb hby d9_60) rfl (teq c60_29).2 kk) ?_
                show Go _ _ _ _ _ _ _ T0 (mkF m 63 _ [])
                refine Go.step (fun tt kk => XS.bipush X0.here hx rfl (hb hby d9_63) kk) ?_
                show Go _ _ _ _ _ _ _ T0 (mkF m 65 _ [(.int (62 : Int32))])
                refine go_retI X0 hx hret hlk (hb hby d9_65) ?_ (by decide) (by decide)
                try rw [e0]
                exact ⟨congrArg (fun z => some (Value.int z)) (by simp only [vl, eq_false c3_1, eq_true c9_16, eq_false c20_17, eq_true c26_24, eq_false c40_25, eq_true c46_28, eq_true c60_29, not_true_eq_false, not_false_eq_true, and_true, true_and, and_false, false_and, and_self, if_true, if_false]), rfl, rfl⟩
              · refine Go.step (fun tt kk => XS.icmpYes X0.here hx rfl (pc0 := 60) (pc' := 66) rfl (hb hby d9_60) rfl (feq c60_29).2 (by decide) (by decide) kk) ?_
                show Go _ _ _ _ _ _ _ T0 (mkF m 66 _ [])
                refine Go.step (fun tt kk => XS.iloadN X0.here hx rfl (hb hby d9_66) rfl kk) ?_
                show Go _ _ _ _ _ _ _ T0 (mkF m 67 _ [(.int x)])
                refine Go.step (fun tt kk => XS.bipush X0.here hx rfl (hb hby d9_67) kk) ?_
                show Go _ _ _ _ _ _ _ T0 (mkF m 69 _ [(.int (47 : Int32)), (.int x)])
                by_cases c69_30 : x = (47 : Int32)
                · refine Go.step (fun tt kk => XS.icmpNo X0.here hx rfl (hb hby d9_69) rfl (teq c69_30).2 kk) ?_
                  show Go _ _ _ _ _ _ _ T0 (mkF m 72 _ [])
                  refine Go.step (fun tt kk => XS.bipush X0.here hx rfl (hb hby d9_72) kk) ?_
                  show Go _ _ _ _ _ _ _ T0 (mkF m 74 _ [(.int (63 : Int32))])
                  refine go_retI X0 hx hret hlk (hb hby d9_74) ?_ (by decide) (by decide)
                  try rw [e0]
                  exact ⟨congrArg (fun z => some (Value.int z)) (by simp only [vl, eq_false c3_1, eq_true c9_16, eq_false c20_17, eq_true c26_24, eq_false c40_25, eq_true c46_28, eq_false c60_29, eq_true c69_30, not_true_eq_false, not_false_eq_true, and_true, true_and, and_false, false_and, and_self, if_true, if_false]), rfl, rfl⟩
                · refine Go.step (fun tt kk => XS.icmpYes X0.here hx rfl (pc0 := 69) (pc' := 75) rfl (hb hby d9_69) rfl (feq c69_30).2 (by decide) (by decide) kk) ?_
                  show Go _ _ _ _ _ _ _ T0 (mkF m 75 _ [])
                  refine Go.step (fun tt kk => XS.iconst X0.here hx rfl (hb hby d9_75) kk) ?_
                  show Go _ _ _ _ _ _ _ T0 (mkF m 76 _ [(.int (-1 : Int32))])
                  refine go_retI X0 hx hret hlk (hb hby d9_76) ?_ (by decide) (by decide)
                  try rw [e0]
                  exact ⟨congrArg (fun z => some (Value.int z)) (by simp only [vl, eq_false c3_1, eq_true c9_16, eq_false c20_17, eq_true c26_24, eq_false c40_25, eq_true c46_28, eq_false c60_29, eq_false c69_30, not_true_eq_false, not_false_eq_true, and_true, true_and, and_false, false_and, and_self, if_true, if_false]), rfl, rfl⟩
            · refine Go.step (fun tt kk => XS.icmpNo X0.here hx rfl (hb hby d9_46) rfl (flt c46_28).2.2.1 kk) ?_
              show Go _ _ _ _ _ _ _ T0 (mkF m 49 _ [])
              refine Go.step (fun tt kk => XS.iloadN X0.here hx rfl (hb hby d9_49) rfl kk) ?_
              show Go _ _ _ _ _ _ _ T0 (mkF m 50 _ [(.int x)])
              refine Go.step (fun tt kk => XS.bipush X0.here hx rfl (hb hby d9_50) kk) ?_
              show Go _ _ _ _ _ _ _ T0 (mkF m 52 _ [(.int (48 : Int32)), (.int x)])
              refine Go.step (fun tt kk => XS.isub X0.here hx rfl (hb hby d9_52) rfl kk) ?_
              show Go _ _ _ _ _ _ _ T0 (mkF m 53 _ [(.int (x - (48 : Int32)))])
              refine Go.step (fun tt kk => XS.bipush X0.here hx rfl (hb hby d9_53) kk) ?_
              show Go _ _ _ _ _ _ _ T0 (mkF m 55 _ [(.int (52 : Int32)), (.int (x - (48 : Int32)))])
              refine Go.step (fun tt kk => XS.iadd X0.here hx rfl (hb hby d9_55) rfl kk) ?_
              show Go _ _ _ _ _ _ _ T0 (mkF m 56 _ [(.int ((x - (48 : Int32)) + (52 : Int32)))])
              refine go_retI X0 hx hret hlk (hb hby d9_56) ?_ (by decide) (by decide)
              try rw [e0]
              exact ⟨congrArg (fun z => some (Value.int z)) (by simp only [vl, eq_false c3_1, eq_true c9_16, eq_false c20_17, eq_true c26_24, eq_false c40_25, eq_false c46_28, not_true_eq_false, not_false_eq_true, and_true, true_and, and_false, false_and, and_self, if_true, if_false]), rfl, rfl⟩
        · refine Go.step (fun tt kk => XS.icmpNo X0.here hx rfl (hb hby d9_26) rfl (flt c26_24).2.2.1 kk) ?_
          show Go _ _ _ _ _ _ _ T0 (mkF m 29 _ [])
          refine Go.step (fun tt kk => XS.iloadN X0.here hx rfl (hb hby d9_29) rfl kk) ?_
          show Go _ _ _ _ _ _ _ T0 (mkF m 30 _ [(.int x)])
          refine Go.step (fun tt kk => XS.bipush X0.here hx rfl (hb hby d9_30) kk) ?_
          show Go _ _ _ _ _ _ _ T0 (mkF m 32 _ [(.int (97 : Int32)), (.int x)])
          refine Go.step (fun tt kk => XS.isub X0.here hx rfl (hb hby d9_32) rfl kk) ?_
          show Go _ _ _ _ _ _ _ T0 (mkF m 33 _ [(.int (x - (97 : Int32)))])
          refine Go.step (fun tt kk => XS.bipush X0.here hx rfl (hb hby d9_33) kk) ?_
          show Go _ _ _ _ _ _ _ T0 (mkF m 35 _ [(.int (26 : Int32)), (.int (x - (97 : Int32)))])
          refine Go.step (fun tt kk => XS.iadd X0.here hx rfl (hb hby d9_35) rfl kk) ?_
          show Go _ _ _ _ _ _ _ T0 (mkF m 36 _ [(.int ((x - (97 : Int32)) + (26 : Int32)))])
          refine go_retI X0 hx hret hlk (hb hby d9_36) ?_ (by decide) (by decide)
          try rw [e0]
          exact ⟨congrArg (fun z => some (Value.int z)) (by simp only [vl, eq_false c3_1, eq_true c9_16, eq_false c20_17, eq_false c26_24, not_true_eq_false, not_false_eq_true, and_true, true_and, and_false, false_and, and_self, if_true, if_false]), rfl, rfl⟩
    · refine Go.step (fun tt kk => XS.icmpNo X0.here hx rfl (hb hby d9_9) rfl (flt c9_16).2.2.1 kk) ?_
      show Go _ _ _ _ _ _ _ T0 (mkF m 12 _ [])
      refine Go.step (fun tt kk => XS.iloadN X0.here hx rfl (hb hby d9_12) rfl kk) ?_
      show Go _ _ _ _ _ _ _ T0 (mkF m 13 _ [(.int x)])
      refine Go.step (fun tt kk => XS.bipush X0.here hx rfl (hb hby d9_13) kk) ?_
      show Go _ _ _ _ _ _ _ T0 (mkF m 15 _ [(.int (65 : Int32)), (.int x)])
      refine Go.step (fun tt kk => XS.isub X0.here hx rfl (hb hby d9_15) rfl kk) ?_
      show Go _ _ _ _ _ _ _ T0 (mkF m 16 _ [(.int (x - (65 : Int32)))])
      refine go_retI X0 hx hret hlk (hb hby d9_16) ?_ (by decide) (by decide)
      try rw [e0]
      exact ⟨congrArg (fun z => some (Value.int z)) (by simp only [vl, eq_false c3_1, eq_false c9_16, not_true_eq_false, not_false_eq_true, and_true, true_and, and_false, false_and, and_self, if_true, if_false]), rfl, rfl⟩
theorem ef_rmVa (m : MethodId) (x0 : Int32) : entryFrame m #[(.int x0)] 1 = mkF m 0 #[.val (.int x0)] [] := by first | (simp [entryFrame, mkF, argsToLocals, Value.category]; done) | rfl
theorem pn_1 : plainName "com/example/sharks/sharks/StandardBase64" = true := by first | (simp [plainName, overriddenIn]; done) | decide +kernel
theorem d7_0 : decode prog_9_method_4_code 0 = .ok (.iload_n 0, 1) := by decide +kernel
theorem d7_1 : decode prog_9_method_4_code 1 = .ok (.getstatic 18, 3) := by decide +kernel
theorem d7_4 : decode prog_9_method_4_code 4 = .ok (.arraylength, 1) := by decide +kernel
theorem d7_5 : decode prog_9_method_4_code 5 = .ok (.if_icmp .ge 11, 3) := by decide +kernel
theorem d7_8 : decode prog_9_method_4_code 8 = .ok (.getstatic 18, 3) := by decide +kernel
theorem d7_11 : decode prog_9_method_4_code 11 = .ok (.iload_n 0, 1) := by decide +kernel
theorem d7_12 : decode prog_9_method_4_code 12 = .ok (.baload, 1) := by decide +kernel
theorem d7_13 : decode prog_9_method_4_code 13 = .ok (.goto 4, 3) := by decide +kernel
theorem d7_17 : decode prog_9_method_4_code 17 = .ok (.ireturn, 1) := by decide +kernel
theorem d7_16 : decode prog_9_method_4_code 16 = .ok (.iconst (-1), 1) := by decide +kernel
set_option maxRecDepth 65536 in
set_option maxHeartbeats 40000000 in
theorem rmVa (l : Launch) (Z : State) (a0 : Array Value) (hw : ∀ d ∈ tables_1, d.before a0 Z = true) (ws : List Jvm.Cond) (va : Addr) (x : Int32) (h0 : Heap) (n0 : Nat) (Z0 : n0 ≤ h0.size) (hx0 : 0 ≤ x.toInt) (SV : Sta Z h0 "com/example/sharks/sharks/StandardBase64" "VALUES" "[B" (.ref va)) (V_va : AV Z h0 va .byte 128 vt) :
    Ctr l Z (⟨"com/example/sharks/sharks/StandardBase64", "value", "(C)I"⟩ : MethodName) prog_9_method_4_code 1 (some .int) ws ({ frames := 0, cells := 0, slots := 0, locals := 0 } : Room) 0 0 #[(.int x)] h0 (fun v h L => v = some (.int (vl x)) ∧ L = [] ∧ h = h0) := by
  refine Ctr.mk (plainFor_of_name pn_1) fun p e s m below meth c T0 X0 C e0 => go_cast (ef_rmVa m x) ?_
  have N0 := Fr.nil n0
  obtain ⟨hx, hZ, hby, hml, hown, hnm, hret, hlk⟩ := C
  show Go _ _ _ _ _ _ _ T0 (mkF m 0 #[.val (.int x)] [])
  refine Go.step (fun tt kk => XS.iloadN X0.here hx rfl (hb hby d7_0) rfl kk) ?_
  show Go _ _ _ _ _ _ _ T0 (mkF m 1 _ [(.int x)])
  obtain ⟨T1, X1, e1, st1⟩ := getS2 X0 hx hZ hown (host := "") (Or.inl (hw _ (List.mem_of_getElem? (i := 27) rfl))) Via.refl e0 SV (g := (mkF m 1 #[.val (.int x)] [(.int x)])) rfl (hb hby d7_1)
  refine Go.step (st1) ?_
  show Go _ _ _ _ _ _ _ T1 (mkF m 4 _ [(.ref va), (.int x)])
  refine Go.step (a_len X1 hx hZ e1 V_va (z := (128 : Int32)) (by decide) (hb hby d7_4)) ?_
  show Go _ _ _ _ _ _ _ T1 (mkF m 5 _ [(.int (128 : Int32)), (.int x)])
  by_cases c5_2 : x < (128 : Int32)
  · refine Go.step (fun tt kk => XS.icmpNo X1.here hx rfl (hb hby d7_5) rfl (tlt c5_2).2.1 kk) ?_
    show Go _ _ _ _ _ _ _ T1 (mkF m 8 _ [])
    obtain ⟨T3, X3, e3, st3⟩ := getS2 X1 hx hZ hown (host := "") (Or.inl (hw _ (List.mem_of_getElem? (i := 27) rfl))) Via.refl e1 SV (g := (mkF m 8 #[.val (.int x)] [])) rfl (hb hby d7_8)
    refine Go.step (st3) ?_
    show Go _ _ _ _ _ _ _ T3 (mkF m 11 _ [(.ref va)])
    refine Go.step (fun tt kk => XS.iloadN X3.here hx rfl (hb hby d7_11) rfl kk) ?_
    show Go _ _ _ _ _ _ _ T3 (mkF m 12 _ [(.int x), (.ref va)])
    refine Go.step (a_bload X3 hx hZ e3 V_va (k := x.toInt.toNat) (show x.toInt = ((x.toInt.toNat : Nat) : Int) by omega) (by have q := c5_2; rw [Int32.lt_iff_toInt_lt] at q; simp only [Int32.reduceToInt] at q; omega) (x := (vl x)) (congrArg (fun z => Value.int (vl z)) (own_ofNat hx0)) (hb hby d7_12)) ?_
    show Go _ _ _ _ _ _ _ T3 (mkF m 13 _ [(.int (vl x))])
    refine Go.step (fun tt kk => XS.goto X3.here hx rfl (pc0 := 13) (pc' := 17) rfl (hb hby d7_13) (by decide) (by decide) kk) ?_
    show Go _ _ _ _ _ _ _ T3 (mkF m 17 _ [(.int (vl x))])
    refine go_retI X3 hx hret hlk (hb hby d7_17) ?_ (by decide) (by decide)
    try rw [e3]
    exact ⟨rfl, rfl, rfl⟩
  · refine Go.step (fun tt kk => XS.icmpYes X1.here hx rfl (pc0 := 5) (pc' := 16) rfl (hb hby d7_5) rfl (flt c5_2).2.1 (by decide) (by decide) kk) ?_
    show Go _ _ _ _ _ _ _ T1 (mkF m 16 _ [])
    refine Go.step (fun tt kk => XS.iconst X1.here hx rfl (hb hby d7_16) kk) ?_
    show Go _ _ _ _ _ _ _ T1 (mkF m 17 _ [(.int (-1 : Int32))])
    refine go_retI X1 hx hret hlk (hb hby d7_17) ?_ (by decide) (by decide)
    try rw [e1]
    exact ⟨congrArg (fun z => some (Value.int z)) (own_vbig c5_2).symm, rfl, rfl⟩
theorem ef_rmD1 (m : MethodId) (x0 : Addr) (x1 : Int32) (x2 : Int32) : entryFrame m #[(.ref x0), (.int x1), (.int x2)] 5 = mkF m 0 #[.val (.ref x0), .val (.int x1), .val (.int x2), .unset, .unset] [] := by first | (simp [entryFrame, mkF, argsToLocals, Value.category]; done) | rfl
theorem d3_0 : decode prog_9_method_3_code 0 = .ok (.iload_n 2, 1) := by decide +kernel
theorem d3_1 : decode prog_9_method_3_code 1 = .ok (.iconst 4, 1) := by decide +kernel
theorem d3_2 : decode prog_9_method_3_code 2 = .ok (.irem, 1) := by decide +kernel
theorem d3_3 : decode prog_9_method_3_code 3 = .ok (.ifCond .eq 5, 3) := by decide +kernel
theorem d3_6 : decode prog_9_method_3_code 6 = .ok (.iconst (-1), 1) := by decide +kernel
theorem d3_7 : decode prog_9_method_3_code 7 = .ok (.ireturn, 1) := by decide +kernel
set_option maxRecDepth 65536 in
set_option maxHeartbeats 40000000 in
theorem rmD1 (l : Launch) (Z : State) (a0 : Array Value) (hw : ∀ d ∈ tables_1, d.before a0 Z = true) (ws : List Jvm.Cond) (a : Addr) (y x : Int32) (h0 : Heap) (n0 : Nat) (Z0 : n0 ≤ h0.size) (hm : ¬ (x % (4 : Int32)) = (0 : Int32)) :
    Ctr l Z (⟨"com/example/sharks/sharks/StandardBase64", "decodedLength", "([CII)I"⟩ : MethodName) prog_9_method_3_code 5 (some .int) ws ({ frames := 0, cells := 0, slots := 0, locals := 0 } : Room) 0 0 #[(.ref a), (.int y), (.int x)] h0 (fun v h L => v = some (.int (-1 : Int32)) ∧ L = [] ∧ h = h0) := by
  refine Ctr.mk (plainFor_of_name pn_1) fun p e s m below meth c T0 X0 C e0 => go_cast (ef_rmD1 m a y x) ?_
  have N0 := Fr.nil n0
  obtain ⟨hx, hZ, hby, hml, hown, hnm, hret, hlk⟩ := C
  show Go _ _ _ _ _ _ _ T0 (mkF m 0 #[.val (.ref a), .val (.int y), .val (.int x), .unset, .unset] [])
  refine Go.step (fun tt kk => XS.iloadN X0.here hx rfl (hb hby d3_0) rfl kk) ?_
  show Go _ _ _ _ _ _ _ T0 (mkF m 1 _ [(.int x)])
  refine Go.step (fun tt kk => XS.iconst X0.here hx rfl (hb hby d3_1) kk) ?_
  show Go _ _ _ _ _ _ _ T0 (mkF m 2 _ [(.int (4 : Int32)), (.int x)])
  refine Go.step (fun tt kk => iremM X0 hx rfl (hb hby d3_2) rfl (by decide) kk) ?_
  show Go _ _ _ _ _ _ _ T0 (mkF m 3 _ [(.int (x % (4 : Int32)))])
  refine Go.step (fun tt kk => XS.ifNo X0.here hx rfl (hb hby d3_3) rfl ((if0 _ _).trans (feq hm).1) kk) ?_
  show Go _ _ _ _ _ _ _ T0 (mkF m 6 _ [])
  refine Go.step (fun tt kk => XS.iconst X0.here hx rfl (hb hby d3_6) kk) ?_
  show Go _ _ _ _ _ _ _ T0 (mkF m 7 _ [(.int (-1 : Int32))])
  refine go_retI X0 hx hret hlk (hb hby d3_7) ?_ (by decide) (by decide)
  try rw [e0]
  exact ⟨rfl, rfl, rfl⟩
theorem ef_rmD0 (m : MethodId) (x0 : Addr) (x1 : Int32) (x2 : Int32) : entryFrame m #[(.ref x0), (.int x1), (.int x2)] 5 = mkF m 0 #[.val (.ref x0), .val (.int x1), .val (.int x2), .unset, .unset] [] := by first | (simp [entryFrame, mkF, argsToLocals, Value.category]; done) | rfl
theorem d3_8 : decode prog_9_method_3_code 8 = .ok (.iload_n 1, 1) := by decide +kernel
theorem d3_9 : decode prog_9_method_3_code 9 = .ok (.iload_n 2, 1) := by decide +kernel
theorem d3_10 : decode prog_9_method_3_code 10 = .ok (.iadd, 1) := by decide +kernel
theorem d3_11 : decode prog_9_method_3_code 11 = .ok (.istore_n 3, 1) := by decide +kernel
theorem d3_12 : decode prog_9_method_3_code 12 = .ok (.iload_n 2, 1) := by decide +kernel
theorem d3_13 : decode prog_9_method_3_code 13 = .ok (.ifCond .eq 13, 3) := by decide +kernel
theorem d3_26 : decode prog_9_method_3_code 26 = .ok (.iconst 0, 1) := by decide +kernel
theorem d3_27 : decode prog_9_method_3_code 27 = .ok (.goto 18, 3) := by decide +kernel
theorem d3_45 : decode prog_9_method_3_code 45 = .ok (.istore 4, 2) := by decide +kernel
theorem d3_47 : decode prog_9_method_3_code 47 = .ok (.iload_n 2, 1) := by decide +kernel
theorem d3_48 : decode prog_9_method_3_code 48 = .ok (.iconst 4, 1) := by decide +kernel
theorem d3_49 : decode prog_9_method_3_code 49 = .ok (.idiv, 1) := by decide +kernel
theorem d3_50 : decode prog_9_method_3_code 50 = .ok (.iconst 3, 1) := by decide +kernel
theorem d3_51 : decode prog_9_method_3_code 51 = .ok (.imul, 1) := by decide +kernel
theorem d3_52 : decode prog_9_method_3_code 52 = .ok (.iload 4, 2) := by decide +kernel
theorem d3_54 : decode prog_9_method_3_code 54 = .ok (.isub, 1) := by decide +kernel
theorem d3_55 : decode prog_9_method_3_code 55 = .ok (.ireturn, 1) := by decide +kernel
set_option maxRecDepth 65536 in
set_option maxHeartbeats 40000000 in
theorem rmD0 (l : Launch) (Z : State) (a0 : Array Value) (hw : ∀ d ∈ tables_1, d.before a0 Z = true) (ws : List Jvm.Cond) (a : Addr) (y : Int32) (h0 : Heap) (n0 : Nat) (Z0 : n0 ≤ h0.size)  :
    Ctr l Z (⟨"com/example/sharks/sharks/StandardBase64", "decodedLength", "([CII)I"⟩ : MethodName) prog_9_method_3_code 5 (some .int) ws ({ frames := 0, cells := 0, slots := 0, locals := 0 } : Room) 0 0 #[(.ref a), (.int y), (.int (0 : Int32))] h0 (fun v h L => v = some (.int (0 : Int32)) ∧ L = [] ∧ h = h0) := by
  refine Ctr.mk (plainFor_of_name pn_1) fun p e s m below meth c T0 X0 C e0 => go_cast (ef_rmD0 m a y (0 : Int32)) ?_
  have N0 := Fr.nil n0
  obtain ⟨hx, hZ, hby, hml, hown, hnm, hret, hlk⟩ := C
  show Go _ _ _ _ _ _ _ T0 (mkF m 0 #[.val (.ref a), .val (.int y), .val (.int (0 : Int32)), .unset, .unset] [])
  refine Go.step (fun tt kk => XS.iloadN X0.here hx rfl (hb hby d3_0) rfl kk) ?_
  show Go _ _ _ _ _ _ _ T0 (mkF m 1 _ [(.int (0 : Int32))])
  refine Go.step (fun tt kk => XS.iconst X0.here hx rfl (hb hby d3_1) kk) ?_
  show Go _ _ _ _ _ _ _ T0 (mkF m 2 _ [(.int (4 : Int32)), (.int (0 : Int32))])
  refine Go.step (fun tt kk => iremM X0 hx rfl (hb hby d3_2) rfl (by decide) kk) ?_
  show Go _ _ _ _ _ _ _ T0 (mkF m 3 _ [(.int ((0 : Int32) % (4 : Int32)))])
  refine Go.step (fun tt kk => XS.ifYes X0.here hx rfl (pc0 := 3) (pc' := 8) rfl (hb hby d3_3) rfl ((if0 _ _).trans (teq (by decide)).1) (by decide) (by decide) kk) ?_
  show Go _ _ _ _ _ _ _ T0 (mkF m 8 _ [])
  refine Go.step (fun tt kk => XS.iloadN X0.here hx rfl (hb hby d3_8) rfl kk) ?_
  show Go _ _ _ _ _ _ _ T0 (mkF m 9 _ [(.int y)])
  refine Go.step (fun tt kk => XS.iloadN X0.here hx rfl (hb hby d3_9) rfl kk) ?_
  show Go _ _ _ _ _ _ _ T0 (mkF m 10 _ [(.int (0 : Int32)), (.int y)])
  refine Go.step (fun tt kk => XS.iadd X0.here hx rfl (hb hby d3_10) rfl kk) ?_
  show Go _ _ _ _ _ _ _ T0 (mkF m 11 _ [(.int (y + (0 : Int32)))])
  refine Go.step (fun tt kk => XS.istoreN X0.here hx rfl (hb hby d3_11) rfl (l' := #[.val (.ref a), .val (.int y), .val (.int (0 : Int32)), .val (.int (y + (0 : Int32))), .unset]) rfl kk) ?_
  show Go _ _ _ _ _ _ _ T0 (mkF m 12 _ [])
  refine Go.step (fun tt kk => XS.iloadN X0.here hx rfl (hb hby d3_12) rfl kk) ?_
  show Go _ _ _ _ _ _ _ T0 (mkF m 13 _ [(.int (0 : Int32))])
  refine Go.step (fun tt kk => XS.ifYes X0.here hx rfl (pc0 := 13) (pc' := 26) rfl (hb hby d3_13) rfl ((if0 _ _).trans (teq (by decide)).1) (by decide) (by decide) kk) ?_
  show Go _ _ _ _ _ _ _ T0 (mkF m 26 _ [])
  refine Go.step (fun tt kk => XS.iconst X0.here hx rfl (hb hby d3_26) kk) ?_
  show Go _ _ _ _ _ _ _ T0 (mkF m 27 _ [(.int (0 : Int32))])
  refine Go.step (fun tt kk => XS.goto X0.here hx rfl (pc0 := 27) (pc' := 45) rfl (hb hby d3_27) (by decide) (by decide) kk) ?_
  show Go _ _ _ _ _ _ _ T0 (mkF m 45 _ [(.int (0 : Int32))])
  refine Go.step (fun tt kk => XS.istore X0.here hx rfl (hb hby d3_45) rfl (l' := #[.val (.ref a), .val (.int y), .val (.int (0 : Int32)), .val (.int (y + (0 : Int32))), .val (.int (0 : Int32))]) rfl kk) ?_
  show Go _ _ _ _ _ _ _ T0 (mkF m 47 _ [])
  refine Go.step (fun tt kk => XS.iloadN X0.here hx rfl (hb hby d3_47) rfl kk) ?_
  show Go _ _ _ _ _ _ _ T0 (mkF m 48 _ [(.int (0 : Int32))])
  refine Go.step (fun tt kk => XS.iconst X0.here hx rfl (hb hby d3_48) kk) ?_
  show Go _ _ _ _ _ _ _ T0 (mkF m 49 _ [(.int (4 : Int32)), (.int (0 : Int32))])
  refine Go.step (fun tt kk => XS.idiv X0.here hx rfl (hb hby d3_49) rfl (by decide) kk) ?_
  show Go _ _ _ _ _ _ _ T0 (mkF m 50 _ [(.int ((0 : Int32) / (4 : Int32)))])
  refine Go.step (fun tt kk => XS.iconst X0.here hx rfl (hb hby d3_50) kk) ?_
  show Go _ _ _ _ _ _ _ T0 (mkF m 51 _ [(.int (3 : Int32)), (.int ((0 : Int32) / (4 : Int32)))])
  refine Go.step (fun tt kk => XS.imul X0.here hx rfl (hb hby d3_51) rfl kk) ?_
  show Go _ _ _ _ _ _ _ T0 (mkF m 52 _ [(.int (((0 : Int32) / (4 : Int32)) * (3 : Int32)))])
  refine Go.step (fun tt kk => XS.iload X0.here hx rfl (hb hby d3_52) rfl kk) ?_
  show Go _ _ _ _ _ _ _ T0 (mkF m 54 _ [(.int (0 : Int32)), (.int (((0 : Int32) / (4 : Int32)) * (3 : Int32)))])
  refine Go.step (fun tt kk => XS.isub X0.here hx rfl (hb hby d3_54) rfl kk) ?_
  show Go _ _ _ _ _ _ _ T0 (mkF m 55 _ [(.int ((((0 : Int32) / (4 : Int32)) * (3 : Int32)) - (0 : Int32)))])
  refine go_retI X0 hx hret hlk (hb hby d3_55) ?_ (by decide) (by decide)
  try rw [e0]
  exact ⟨rfl, rfl, rfl⟩
theorem ef_rmD (m : MethodId) (x0 : Addr) (x1 : Int32) (x2 : Int32) : entryFrame m #[(.ref x0), (.int x1), (.int x2)] 5 = mkF m 0 #[.val (.ref x0), .val (.int x1), .val (.int x2), .unset, .unset] [] := by first | (simp [entryFrame, mkF, argsToLocals, Value.category]; done) | rfl
theorem d3_16 : decode prog_9_method_3_code 16 = .ok (.aload_n 0, 1) := by decide +kernel
theorem d3_17 : decode prog_9_method_3_code 17 = .ok (.iload_n 3, 1) := by decide +kernel
theorem d3_18 : decode prog_9_method_3_code 18 = .ok (.iconst 1, 1) := by decide +kernel
theorem d3_19 : decode prog_9_method_3_code 19 = .ok (.isub, 1) := by decide +kernel
theorem d3_20 : decode prog_9_method_3_code 20 = .ok (.caload, 1) := by decide +kernel
theorem d3_21 : decode prog_9_method_3_code 21 = .ok (.bipush 61, 2) := by decide +kernel
theorem d3_23 : decode prog_9_method_3_code 23 = .ok (.if_icmp .eq 7, 3) := by decide +kernel
theorem d3_30 : decode prog_9_method_3_code 30 = .ok (.aload_n 0, 1) := by decide +kernel
theorem d3_31 : decode prog_9_method_3_code 31 = .ok (.iload_n 3, 1) := by decide +kernel
theorem d3_32 : decode prog_9_method_3_code 32 = .ok (.iconst 2, 1) := by decide +kernel
theorem d3_33 : decode prog_9_method_3_code 33 = .ok (.isub, 1) := by decide +kernel
theorem d3_34 : decode prog_9_method_3_code 34 = .ok (.caload, 1) := by decide +kernel
theorem d3_35 : decode prog_9_method_3_code 35 = .ok (.bipush 61, 2) := by decide +kernel
theorem d3_37 : decode prog_9_method_3_code 37 = .ok (.if_icmp .ne 7, 3) := by decide +kernel
theorem d3_40 : decode prog_9_method_3_code 40 = .ok (.iconst 2, 1) := by decide +kernel
theorem d3_41 : decode prog_9_method_3_code 41 = .ok (.goto 4, 3) := by decide +kernel
theorem d3_44 : decode prog_9_method_3_code 44 = .ok (.iconst 1, 1) := by decide +kernel
set_option maxRecDepth 65536 in
set_option maxHeartbeats 40000000 in
theorem rmD (l : Launch) (Z : State) (a0 : Array Value) (hw : ∀ d ∈ tables_1, d.before a0 Z = true) (ws : List Jvm.Cond) (a : Addr) (off len : Nat) (c1 c2 : Int32) (f : Nat → Value) (h0 : Heap) (n0 : Nat) (Z0 : n0 ≤ h0.size) (ho : off ≤ 3) (hl : len = 4 ∨ len = 8) (V_a : AV Z h0 a .char 12 f) (hf1 : f (off + len - 1) = .int c1) (hf2 : f (off + len - 2) = .int c2) :
    Ctr l Z (⟨"com/example/sharks/sharks/StandardBase64", "decodedLength", "([CII)I"⟩ : MethodName) prog_9_method_3_code 5 (some .int) ws ({ frames := 0, cells := 0, slots := 0, locals := 0 } : Room) 0 0 #[(.ref a), (.int (Int32.ofNat off)), (.int (Int32.ofNat len))] h0 (fun v h L => v = some (.int (dl len c1 c2)) ∧ L = [] ∧ h = h0) := by
  refine Ctr.mk (plainFor_of_name pn_1) fun p e s m below meth c T0 X0 C e0 => go_cast (ef_rmD m a (Int32.ofNat off) (Int32.ofNat len)) ?_
  have N0 := Fr.nil n0
  obtain ⟨hx, hZ, hby, hml, hown, hnm, hret, hlk⟩ := C
  show Go _ _ _ _ _ _ _ T0 (mkF m 0 #[.val (.ref a), .val (.int (Int32.ofNat off)), .val (.int (Int32.ofNat len)), .unset, .unset] [])
  refine Go.step (fun tt kk => XS.iloadN X0.here hx rfl (hb hby d3_0) rfl kk) ?_
  show Go _ _ _ _ _ _ _ T0 (mkF m 1 _ [(.int (Int32.ofNat len))])
  refine Go.step (fun tt kk => XS.iconst X0.here hx rfl (hb hby d3_1) kk) ?_
  show Go _ _ _ _ _ _ _ T0 (mkF m 2 _ [(.int (4 : Int32)), (.int (Int32.ofNat len))])
  refine Go.step (fun tt kk => iremM X0 hx rfl (hb hby d3_2) rfl (by decide) kk) ?_
  show Go _ _ _ _ _ _ _ T0 (mkF m 3 _ [(.int ((Int32.ofNat len) % (4 : Int32)))])
  refine Go.step (fun tt kk => XS.ifYes X0.here hx rfl (pc0 := 3) (pc' := 8) rfl (hb hby d3_3) rfl ((if0 _ _).trans (teq ((own_mod4 len (by omega)).mpr (by omega))).1) (by decide) (by decide) kk) ?_
  show Go _ _ _ _ _ _ _ T0 (mkF m 8 _ [])
  refine Go.step (fun tt kk => XS.iloadN X0.here hx rfl (hb hby d3_8) rfl kk) ?_
  show Go _ _ _ _ _ _ _ T0 (mkF m 9 _ [(.int (Int32.ofNat off))])
  refine Go.step (fun tt kk => XS.iloadN X0.here hx rfl (hb hby d3_9) rfl kk) ?_
  show Go _ _ _ _ _ _ _ T0 (mkF m 10 _ [(.int (Int32.ofNat len)), (.int (Int32.ofNat off))])
  refine Go.step (fun tt kk => XS.iadd X0.here hx rfl (hb hby d3_10) rfl kk) ?_
  show Go _ _ _ _ _ _ _ T0 (mkF m 11 _ [(.int ((Int32.ofNat off) + (Int32.ofNat len)))])
  refine Go.step (fun tt kk => XS.istoreN X0.here hx rfl (hb hby d3_11) rfl (l' := #[.val (.ref a), .val (.int (Int32.ofNat off)), .val (.int (Int32.ofNat len)), .val (.int ((Int32.ofNat off) + (Int32.ofNat len))), .unset]) rfl kk) ?_
  show Go _ _ _ _ _ _ _ T0 (mkF m 12 _ [])
  rw [← Int32.ofNat_add]
  show Go _ _ _ _ _ _ _ T0 (mkF m 12 #[.val (.ref a), .val (.int (Int32.ofNat off)), .val (.int (Int32.ofNat len)), .val (.int (Int32.ofNat (off + len))), .unset] [])
  refine Go.step (fun tt kk => XS.iloadN X0.here hx rfl (hb hby d3_12) rfl kk) ?_
  show Go _ _ _ _ _ _ _ T0 (mkF m 13 _ [(.int (Int32.ofNat len))])
  refine Go.step (fun tt kk => XS.ifNo X0.here hx rfl (hb hby d3_13) rfl ((if0 _ _).trans (feq (mt (own_eq len 0 (by omega) (by omega)).mp (by omega))).1) kk) ?_
  show Go _ _ _ _ _ _ _ T0 (mkF m 16 _ [])
  refine Go.step (fun tt kk => XS.aloadN X0.here hx rfl (hb hby d3_16) rfl rfl kk) ?_
  show Go _ _ _ _ _ _ _ T0 (mkF m 17 _ [(.ref a)])
  refine Go.step (fun tt kk => XS.iloadN X0.here hx rfl (hb hby d3_17) rfl kk) ?_
  show Go _ _ _ _ _ _ _ T0 (mkF m 18 _ [(.int (Int32.ofNat (off + len))), (.ref a)])
  refine Go.step (fun tt kk => XS.iconst X0.here hx rfl (hb hby d3_18) kk) ?_
  show Go _ _ _ _ _ _ _ T0 (mkF m 19 _ [(.int (1 : Int32)), (.int (Int32.ofNat (off + len))), (.ref a)])
  refine Go.step (fun tt kk => XS.isub X0.here hx rfl (hb hby d3_19) rfl kk) ?_
  show Go _ _ _ _ _ _ _ T0 (mkF m 20 _ [(.int ((Int32.ofNat (off + len)) - (1 : Int32))), (.ref a)])
  rw [show Int32.ofNat (off + len) - (1 : Int32) = Int32.ofNat (off + len - 1) from own_sub _ 1 (by omega) (by omega)]
  show Go _ _ _ _ _ _ _ T0 (mkF m 20 #[.val (.ref a), .val (.int (Int32.ofNat off)), .val (.int (Int32.ofNat len)), .val (.int (Int32.ofNat (off + len))), .unset] [(.int (Int32.ofNat (off + len - 1))), (.ref a)])
  refine Go.step (a_cload X0 hx hZ e0 V_a (k := (off + len - 1)) (Int32.toInt_ofNat_of_lt (by omega)) (by omega) (x := c1) hf1 (hb hby d3_20)) ?_
  show Go _ _ _ _ _ _ _ T0 (mkF m 21 _ [(.int c1)])
  refine Go.step (fun tt kk => XS.bipush X0.here hx rfl (hb hby d3_21) kk) ?_
  show Go _ _ _ _ _ _ _ T0 (mkF m 23 _ [(.int (61 : Int32)), (.int c1)])
  by_cases c23_1 : c1 = (61 : Int32)
  · refine Go.step (fun tt kk => XS.icmpYes X0.here hx rfl (pc0 := 23) (pc' := 30) rfl (hb hby d3_23) rfl (teq c23_1).1 (by decide) (by decide) kk) ?_
    show Go _ _ _ _ _ _ _ T0 (mkF m 30 _ [])
    refine Go.step (fun tt kk => XS.aloadN X0.here hx rfl (hb hby d3_30) rfl rfl kk) ?_
    show Go _ _ _ _ _ _ _ T0 (mkF m 31 _ [(.ref a)])
    refine Go.step (fun tt kk => XS.iloadN X0.here hx rfl (hb hby d3_31) rfl kk) ?_
    show Go _ _ _ _ _ _ _ T0 (mkF m 32 _ [(.int (Int32.ofNat (off + len))), (.ref a)])
    refine Go.step (fun tt kk => XS.iconst X0.here hx rfl (hb hby d3_32) kk) ?_
    show Go _ _ _ _ _ _ _ T0 (mkF m 33 _ [(.int (2 : Int32)), (.int (Int32.ofNat (off + len))), (.ref a)])
    refine Go.step (fun tt kk => XS.isub X0.here hx rfl (hb hby d3_33) rfl kk) ?_
    show Go _ _ _ _ _ _ _ T0 (mkF m 34 _ [(.int ((Int32.ofNat (off + len)) - (2 : Int32))), (.ref a)])
    rw [show Int32.ofNat (off + len) - (2 : Int32) = Int32.ofNat (off + len - 2) from own_sub _ 2 (by omega) (by omega)]
    show Go _ _ _ _ _ _ _ T0 (mkF m 34 #[.val (.ref a), .val (.int (Int32.ofNat off)), .val (.int (Int32.ofNat len)), .val (.int (Int32.ofNat (off + len))), .unset] [(.int (Int32.ofNat (off + len - 2))), (.ref a)])
    refine Go.step (a_cload X0 hx hZ e0 V_a (k := (off + len - 2)) (Int32.toInt_ofNat_of_lt (by omega)) (by omega) (x := c2) hf2 (hb hby d3_34)) ?_
    show Go _ _ _ _ _ _ _ T0 (mkF m 35 _ [(.int c2)])
    refine Go.step (fun tt kk => XS.bipush X0.here hx rfl (hb hby d3_35) kk) ?_
    show Go _ _ _ _ _ _ _ T0 (mkF m 37 _ [(.int (61 : Int32)), (.int c2)])
    by_cases c37_2 : c2 = (61 : Int32)
    · refine Go.step (fun tt kk => XS.icmpNo X0.here hx rfl (hb hby d3_37) rfl (teq c37_2).2 kk) ?_
      show Go _ _ _ _ _ _ _ T0 (mkF m 40 _ [])
      refine Go.step (fun tt kk => XS.iconst X0.here hx rfl (hb hby d3_40) kk) ?_
      show Go _ _ _ _ _ _ _ T0 (mkF m 41 _ [(.int (2 : Int32))])
      refine Go.step (fun tt kk => XS.goto X0.here hx rfl (pc0 := 41) (pc' := 45) rfl (hb hby d3_41) (by decide) (by decide) kk) ?_
      show Go _ _ _ _ _ _ _ T0 (mkF m 45 _ [(.int (2 : Int32))])
      refine Go.step (fun tt kk => XS.istore X0.here hx rfl (hb hby d3_45) rfl (l' := #[.val (.ref a), .val (.int (Int32.ofNat off)), .val (.int (Int32.ofNat len)), .val (.int (Int32.ofNat (off + len))), .val (.int (2 : Int32))]) rfl kk) ?_
      show Go _ _ _ _ _ _ _ T0 (mkF m 47 _ [])
      refine Go.step (fun tt kk => XS.iloadN X0.here hx rfl (hb hby d3_47) rfl kk) ?_
      show Go _ _ _ _ _ _ _ T0 (mkF m 48 _ [(.int (Int32.ofNat len))])
      refine Go.step (fun tt kk => XS.iconst X0.here hx rfl (hb hby d3_48) kk) ?_
      show Go _ _ _ _ _ _ _ T0 (mkF m 49 _ [(.int (4 : Int32)), (.int (Int32.ofNat len))])
      refine Go.step (fun tt kk => XS.idiv X0.here hx rfl (hb hby d3_49) rfl (by decide) kk) ?_
      show Go _ _ _ _ _ _ _ T0 (mkF m 50 _ [(.int ((Int32.ofNat len) / (4 : Int32)))])
      refine Go.step (fun tt kk => XS.iconst X0.here hx rfl (hb hby d3_50) kk) ?_
      show Go _ _ _ _ _ _ _ T0 (mkF m 51 _ [(.int (3 : Int32)), (.int ((Int32.ofNat len) / (4 : Int32)))])
      refine Go.step (fun tt kk => XS.imul X0.here hx rfl (hb hby d3_51) rfl kk) ?_
      show Go _ _ _ _ _ _ _ T0 (mkF m 52 _ [(.int (((Int32.ofNat len) / (4 : Int32)) * (3 : Int32)))])
      refine Go.step (fun tt kk => XS.iload X0.here hx rfl (hb hby d3_52) rfl kk) ?_
      show Go _ _ _ _ _ _ _ T0 (mkF m 54 _ [(.int (2 : Int32)), (.int (((Int32.ofNat len) / (4 : Int32)) * (3 : Int32)))])
      refine Go.step (fun tt kk => XS.isub X0.here hx rfl (hb hby d3_54) rfl kk) ?_
      show Go _ _ _ _ _ _ _ T0 (mkF m 55 _ [(.int ((((Int32.ofNat len) / (4 : Int32)) * (3 : Int32)) - (2 : Int32)))])
      refine go_retI X0 hx hret hlk (hb hby d3_55) ?_ (by decide) (by decide)
      try rw [e0]
      exact ⟨congrArg (fun z => some (Value.int z)) (by simp only [dl, eq_true c23_1, eq_true c37_2, if_true, if_false]), rfl, rfl⟩
    · refine Go.step (fun tt kk => XS.icmpYes X0.here hx rfl (pc0 := 37) (pc' := 44) rfl (hb hby d3_37) rfl (feq c37_2).2 (by decide) (by decide) kk) ?_
      show Go _ _ _ _ _ _ _ T0 (mkF m 44 _ [])
      refine Go.step (fun tt kk => XS.iconst X0.here hx rfl (hb hby d3_44) kk) ?_
      show Go _ _ _ _ _ _ _ T0 (mkF m 45 _ [(.int (1 : Int32))])
      refine Go.step (fun tt kk => XS.istore X0.here hx rfl (hb hby d3_45) rfl (l' := #[.val (.ref a), .val (.int (Int32.ofNat off)), .val (.int (Int32.ofNat len)), .val (.int (Int32.ofNat (off + len))), .val (.int (1 : Int32))]) rfl kk) ?_
      show Go _ _ _ _ _ _ _ T0 (mkF m 47 _ [])
      refine Go.step (fun tt kk => XS.iloadN X0.here hx rfl (hb hby d3_47) rfl kk) ?_
      show Go _ _ _ _ _ _ _ T0 (mkF m 48 _ [(.int (Int32.ofNat len))])
      refine Go.step (fun tt kk => XS.iconst X0.here hx rfl (hb hby d3_48) kk) ?_
      show Go _ _ _ _ _ _ _ T0 (mkF m 49 _ [(.int (4 : Int32)), (.int (Int32.ofNat len))])
      refine Go.step (fun tt kk => XS.idiv X0.here hx rfl (hb hby d3_49) rfl (by decide) kk) ?_
      show Go _ _ _ _ _ _ _ T0 (mkF m 50 _ [(.int ((Int32.ofNat len) / (4 : Int32)))])
      refine Go.step (fun tt kk => XS.iconst X0.here hx rfl (hb hby d3_50) kk) ?_
      show Go _ _ _ _ _ _ _ T0 (mkF m 51 _ [(.int (3 : Int32)), (.int ((Int32.ofNat len) / (4 : Int32)))])
      refine Go.step (fun tt kk => XS.imul X0.here hx rfl (hb hby d3_51) rfl kk) ?_
      show Go _ _ _ _ _ _ _ T0 (mkF m 52 _ [(.int (((Int32.ofNat len) / (4 : Int32)) * (3 : Int32)))])
      refine Go.step (fun tt kk => XS.iload X0.here hx rfl (hb hby d3_52) rfl kk) ?_
      show Go _ _ _ _ _ _ _ T0 (mkF m 54 _ [(.int (1 : Int32)), (.int (((Int32.ofNat len) / (4 : Int32)) * (3 : Int32)))])
      refine Go.step (fun tt kk => XS.isub X0.here hx rfl (hb hby d3_54) rfl kk) ?_
      show Go _ _ _ _ _ _ _ T0 (mkF m 55 _ [(.int ((((Int32.ofNat len) / (4 : Int32)) * (3 : Int32)) - (1 : Int32)))])
      refine go_retI X0 hx hret hlk (hb hby d3_55) ?_ (by decide) (by decide)
      try rw [e0]
      exact ⟨congrArg (fun z => some (Value.int z)) (by simp only [dl, eq_true c23_1, eq_false c37_2, if_true, if_false]), rfl, rfl⟩
  · refine Go.step (fun tt kk => XS.icmpNo X0.here hx rfl (hb hby d3_23) rfl (feq c23_1).1 kk) ?_
    show Go _ _ _ _ _ _ _ T0 (mkF m 26 _ [])
    refine Go.step (fun tt kk => XS.iconst X0.here hx rfl (hb hby d3_26) kk) ?_
    show Go _ _ _ _ _ _ _ T0 (mkF m 27 _ [(.int (0 : Int32))])
    refine Go.step (fun tt kk => XS.goto X0.here hx rfl (pc0 := 27) (pc' := 45) rfl (hb hby d3_27) (by decide) (by decide) kk) ?_
    show Go _ _ _ _ _ _ _ T0 (mkF m 45 _ [(.int (0 : Int32))])
    refine Go.step (fun tt kk => XS.istore X0.here hx rfl (hb hby d3_45) rfl (l' := #[.val (.ref a), .val (.int (Int32.ofNat off)), .val (.int (Int32.ofNat len)), .val (.int (Int32.ofNat (off + len))), .val (.int (0 : Int32))]) rfl kk) ?_
    show Go _ _ _ _ _ _ _ T0 (mkF m 47 _ [])
    refine Go.step (fun tt kk => XS.iloadN X0.here hx rfl (hb hby d3_47) rfl kk) ?_
    show Go _ _ _ _ _ _ _ T0 (mkF m 48 _ [(.int (Int32.ofNat len))])
    refine Go.step (fun tt kk => XS.iconst X0.here hx rfl (hb hby d3_48) kk) ?_
    show Go _ _ _ _ _ _ _ T0 (mkF m 49 _ [(.int (4 : Int32)), (.int (Int32.ofNat len))])
    refine Go.step (fun tt kk => XS.idiv X0.here hx rfl (hb hby d3_49) rfl (by decide) kk) ?_
    show Go _ _ _ _ _ _ _ T0 (mkF m 50 _ [(.int ((Int32.ofNat len) / (4 : Int32)))])
    refine Go.step (fun tt kk => XS.iconst X0.here hx rfl (hb hby d3_50) kk) ?_
    show Go _ _ _ _ _ _ _ T0 (mkF m 51 _ [(.int (3 : Int32)), (.int ((Int32.ofNat len) / (4 : Int32)))])
    refine Go.step (fun tt kk => XS.imul X0.here hx rfl (hb hby d3_51) rfl kk) ?_
    show Go _ _ _ _ _ _ _ T0 (mkF m 52 _ [(.int (((Int32.ofNat len) / (4 : Int32)) * (3 : Int32)))])
    refine Go.step (fun tt kk => XS.iload X0.here hx rfl (hb hby d3_52) rfl kk) ?_
    show Go _ _ _ _ _ _ _ T0 (mkF m 54 _ [(.int (0 : Int32)), (.int (((Int32.ofNat len) / (4 : Int32)) * (3 : Int32)))])
    refine Go.step (fun tt kk => XS.isub X0.here hx rfl (hb hby d3_54) rfl kk) ?_
    show Go _ _ _ _ _ _ _ T0 (mkF m 55 _ [(.int ((((Int32.ofNat len) / (4 : Int32)) * (3 : Int32)) - (0 : Int32)))])
    refine go_retI X0 hx hret hlk (hb hby d3_55) ?_ (by decide) (by decide)
    try rw [e0]
    exact ⟨congrArg (fun z => some (Value.int z)) (by simp only [dl, eq_false c23_1, if_true, if_false]), rfl, rfl⟩
theorem ef_rmDc40 (m : MethodId) (x0 : Addr) (x1 : Int32) (x2 : Int32) (x3 : Int32) : entryFrame m #[(.ref x0), (.int x1), (.int x2), (.int x3)] 13 = mkF m 0 #[.val (.ref x0), .val (.int x1), .val (.int x2), .val (.int x3), .unset, .unset, .unset, .unset, .unset, .unset, .unset, .unset, .unset] [] := by first | (simp [entryFrame, mkF, argsToLocals, Value.category]; done) | rfl
theorem d2_0 : decode prog_9_method_2_code 0 = .ok (.aload_n 0, 1) := by decide +kernel
theorem d2_1 : decode prog_9_method_2_code 1 = .ok (.iload_n 1, 1) := by decide +kernel
theorem d2_2 : decode prog_9_method_2_code 2 = .ok (.iload_n 2, 1) := by decide +kernel
theorem pd_0 : parseMethodDescriptor "([CII)I" = some ⟨[(.array .char), .int, .int], some .int⟩ := by decide +kernel
theorem d2_3 : decode prog_9_method_2_code 3 = .ok (.invokestatic 7, 3) := by decide +kernel
theorem d2_6 : decode prog_9_method_2_code 6 = .ok (.istore 4, 2) := by decide +kernel
theorem d2_8 : decode prog_9_method_2_code 8 = .ok (.iload 4, 2) := by decide +kernel
theorem d2_10 : decode prog_9_method_2_code 10 = .ok (.ifCond .ge 5, 3) := by decide +kernel
theorem d2_15 : decode prog_9_method_2_code 15 = .ok (.iload_n 1, 1) := by decide +kernel
theorem d2_16 : decode prog_9_method_2_code 16 = .ok (.iload_n 2, 1) := by decide +kernel
theorem d2_17 : decode prog_9_method_2_code 17 = .ok (.iadd, 1) := by decide +kernel
theorem d2_18 : decode prog_9_method_2_code 18 = .ok (.istore 5, 2) := by decide +kernel
theorem d2_20 : decode prog_9_method_2_code 20 = .ok (.iload_n 3, 1) := by decide +kernel
theorem d2_21 : decode prog_9_method_2_code 21 = .ok (.iload 4, 2) := by decide +kernel
theorem d2_23 : decode prog_9_method_2_code 23 = .ok (.iadd, 1) := by decide +kernel
theorem d2_24 : decode prog_9_method_2_code 24 = .ok (.newarray .byte, 2) := by decide +kernel
theorem d2_26 : decode prog_9_method_2_code 26 = .ok (.astore 6, 2) := by decide +kernel
theorem d2_28 : decode prog_9_method_2_code 28 = .ok (.iload_n 2, 1) := by decide +kernel
theorem d2_29 : decode prog_9_method_2_code 29 = .ok (.iconst 4, 1) := by decide +kernel
theorem d2_30 : decode prog_9_method_2_code 30 = .ok (.idiv, 1) := by decide +kernel
theorem d2_31 : decode prog_9_method_2_code 31 = .ok (.iconst 3, 1) := by decide +kernel
theorem d2_32 : decode prog_9_method_2_code 32 = .ok (.imul, 1) := by decide +kernel
theorem d2_33 : decode prog_9_method_2_code 33 = .ok (.iload 4, 2) := by decide +kernel
theorem d2_35 : decode prog_9_method_2_code 35 = .ok (.isub, 1) := by decide +kernel
theorem d2_36 : decode prog_9_method_2_code 36 = .ok (.istore 7, 2) := by decide +kernel
theorem d2_38 : decode prog_9_method_2_code 38 = .ok (.iload 7, 2) := by decide +kernel
theorem d2_40 : decode prog_9_method_2_code 40 = .ok (.ifCond .ne 8, 3) := by decide +kernel
theorem d2_43 : decode prog_9_method_2_code 43 = .ok (.iload 5, 2) := by decide +kernel
theorem d2_45 : decode prog_9_method_2_code 45 = .ok (.goto 7, 3) := by decide +kernel
theorem d2_52 : decode prog_9_method_2_code 52 = .ok (.istore 8, 2) := by decide +kernel
theorem d2_54 : decode prog_9_method_2_code 54 = .ok (.iload_n 3, 1) := by decide +kernel
theorem d2_55 : decode prog_9_method_2_code 55 = .ok (.istore 9, 2) := by decide +kernel
theorem d2_57 : decode prog_9_method_2_code 57 = .ok (.iload_n 1, 1) := by decide +kernel
theorem d2_58 : decode prog_9_method_2_code 58 = .ok (.istore 10, 2) := by decide +kernel
theorem d2_60 : decode prog_9_method_2_code 60 = .ok (.iload 10, 2) := by decide +kernel
theorem d2_62 : decode prog_9_method_2_code 62 = .ok (.iload 8, 2) := by decide +kernel
theorem d2_64 : decode prog_9_method_2_code 64 = .ok (.if_icmp .ge 101, 3) := by decide +kernel
theorem d2_67 : decode prog_9_method_2_code 67 = .ok (.aload_n 0, 1) := by decide +kernel
theorem d2_68 : decode prog_9_method_2_code 68 = .ok (.iload 10, 2) := by decide +kernel
theorem d2_70 : decode prog_9_method_2_code 70 = .ok (.caload, 1) := by decide +kernel
theorem pd_1 : parseMethodDescriptor "(C)I" = some ⟨[.char], some .int⟩ := by decide +kernel
theorem d2_71 : decode prog_9_method_2_code 71 = .ok (.invokestatic 13, 3) := by decide +kernel
theorem d2_74 : decode prog_9_method_2_code 74 = .ok (.bipush 18, 2) := by decide +kernel
theorem d2_76 : decode prog_9_method_2_code 76 = .ok (.ishl, 1) := by decide +kernel
theorem d2_77 : decode prog_9_method_2_code 77 = .ok (.aload_n 0, 1) := by decide +kernel
theorem d2_78 : decode prog_9_method_2_code 78 = .ok (.iload 10, 2) := by decide +kernel
theorem d2_80 : decode prog_9_method_2_code 80 = .ok (.iconst 1, 1) := by decide +kernel
theorem d2_81 : decode prog_9_method_2_code 81 = .ok (.iadd, 1) := by decide +kernel
theorem d2_82 : decode prog_9_method_2_code 82 = .ok (.caload, 1) := by decide +kernel
theorem d2_83 : decode prog_9_method_2_code 83 = .ok (.invokestatic 13, 3) := by decide +kernel
theorem d2_86 : decode prog_9_method_2_code 86 = .ok (.bipush 12, 2) := by decide +kernel
theorem d2_88 : decode prog_9_method_2_code 88 = .ok (.ishl, 1) := by decide +kernel
theorem d2_89 : decode prog_9_method_2_code 89 = .ok (.ior, 1) := by decide +kernel
theorem d2_90 : decode prog_9_method_2_code 90 = .ok (.aload_n 0, 1) := by decide +kernel
theorem d2_91 : decode prog_9_method_2_code 91 = .ok (.iload 10, 2) := by decide +kernel
theorem d2_93 : decode prog_9_method_2_code 93 = .ok (.iconst 2, 1) := by decide +kernel
theorem d2_94 : decode prog_9_method_2_code 94 = .ok (.iadd, 1) := by decide +kernel
theorem d2_95 : decode prog_9_method_2_code 95 = .ok (.caload, 1) := by decide +kernel
theorem d2_96 : decode prog_9_method_2_code 96 = .ok (.invokestatic 13, 3) := by decide +kernel
theorem d2_99 : decode prog_9_method_2_code 99 = .ok (.bipush 6, 2) := by decide +kernel
theorem d2_101 : decode prog_9_method_2_code 101 = .ok (.ishl, 1) := by decide +kernel
theorem d2_102 : decode prog_9_method_2_code 102 = .ok (.ior, 1) := by decide +kernel
theorem d2_103 : decode prog_9_method_2_code 103 = .ok (.aload_n 0, 1) := by decide +kernel
theorem d2_104 : decode prog_9_method_2_code 104 = .ok (.iload 10, 2) := by decide +kernel
theorem d2_106 : decode prog_9_method_2_code 106 = .ok (.iconst 3, 1) := by decide +kernel
theorem d2_107 : decode prog_9_method_2_code 107 = .ok (.iadd, 1) := by decide +kernel
theorem d2_108 : decode prog_9_method_2_code 108 = .ok (.caload, 1) := by decide +kernel
theorem d2_109 : decode prog_9_method_2_code 109 = .ok (.invokestatic 13, 3) := by decide +kernel
theorem d2_112 : decode prog_9_method_2_code 112 = .ok (.ior, 1) := by decide +kernel
theorem d2_113 : decode prog_9_method_2_code 113 = .ok (.istore 11, 2) := by decide +kernel
theorem d2_115 : decode prog_9_method_2_code 115 = .ok (.iload 11, 2) := by decide +kernel
theorem d2_117 : decode prog_9_method_2_code 117 = .ok (.ifCond .ge 5, 3) := by decide +kernel
theorem d2_120 : decode prog_9_method_2_code 120 = .ok (.aconst_null, 1) := by decide +kernel
theorem d2_121 : decode prog_9_method_2_code 121 = .ok (.areturn, 1) := by decide +kernel
theorem d2_122 : decode prog_9_method_2_code 122 = .ok (.aload 6, 2) := by decide +kernel
theorem d2_124 : decode prog_9_method_2_code 124 = .ok (.iload 9, 2) := by decide +kernel
theorem d2_126 : decode prog_9_method_2_code 126 = .ok (.iload 11, 2) := by decide +kernel
theorem d2_128 : decode prog_9_method_2_code 128 = .ok (.bipush 16, 2) := by decide +kernel
theorem d2_130 : decode prog_9_method_2_code 130 = .ok (.ishr, 1) := by decide +kernel
theorem d2_131 : decode prog_9_method_2_code 131 = .ok (.i2b, 1) := by decide +kernel
theorem d2_132 : decode prog_9_method_2_code 132 = .ok (.bastore, 1) := by decide +kernel
theorem d2_133 : decode prog_9_method_2_code 133 = .ok (.aload 6, 2) := by decide +kernel
theorem d2_135 : decode prog_9_method_2_code 135 = .ok (.iload 9, 2) := by decide +kernel
theorem d2_137 : decode prog_9_method_2_code 137 = .ok (.iconst 1, 1) := by decide +kernel
theorem d2_138 : decode prog_9_method_2_code 138 = .ok (.iadd, 1) := by decide +kernel
theorem d2_139 : decode prog_9_method_2_code 139 = .ok (.iload 11, 2) := by decide +kernel
theorem d2_141 : decode prog_9_method_2_code 141 = .ok (.bipush 8, 2) := by decide +kernel
theorem d2_143 : decode prog_9_method_2_code 143 = .ok (.ishr, 1) := by decide +kernel
theorem d2_144 : decode prog_9_method_2_code 144 = .ok (.i2b, 1) := by decide +kernel
theorem d2_145 : decode prog_9_method_2_code 145 = .ok (.bastore, 1) := by decide +kernel
theorem d2_146 : decode prog_9_method_2_code 146 = .ok (.aload 6, 2) := by decide +kernel
theorem d2_148 : decode prog_9_method_2_code 148 = .ok (.iload 9, 2) := by decide +kernel
theorem d2_150 : decode prog_9_method_2_code 150 = .ok (.iconst 2, 1) := by decide +kernel
theorem d2_151 : decode prog_9_method_2_code 151 = .ok (.iadd, 1) := by decide +kernel
theorem d2_152 : decode prog_9_method_2_code 152 = .ok (.iload 11, 2) := by decide +kernel
theorem d2_154 : decode prog_9_method_2_code 154 = .ok (.i2b, 1) := by decide +kernel
theorem d2_155 : decode prog_9_method_2_code 155 = .ok (.bastore, 1) := by decide +kernel
theorem d2_156 : decode prog_9_method_2_code 156 = .ok (.iinc 9 3, 3) := by decide +kernel
theorem d2_159 : decode prog_9_method_2_code 159 = .ok (.iinc 10 4, 3) := by decide +kernel
theorem d2_162 : decode prog_9_method_2_code 162 = .ok (.goto (-102), 3) := by decide +kernel
theorem d2_165 : decode prog_9_method_2_code 165 = .ok (.iload 7, 2) := by decide +kernel
theorem d2_167 : decode prog_9_method_2_code 167 = .ok (.ifCond .ne 6, 3) := by decide +kernel
theorem d2_170 : decode prog_9_method_2_code 170 = .ok (.aload 6, 2) := by decide +kernel
theorem d2_172 : decode prog_9_method_2_code 172 = .ok (.areturn, 1) := by decide +kernel
set_option maxRecDepth 65536 in
set_option maxHeartbeats 40000000 in
theorem rmDc40 (l : Launch) (Z : State) (a0 : Array Value) (hw : ∀ d ∈ tables_1, d.before a0 Z = true) (ws : List Jvm.Cond) (tx va : Addr) (off bf : Nat) (g : Nat → Int32) (F : Nat → Value) (h0 : Heap) (n0 : Nat) (Z0 : n0 ≤ h0.size) (ho : off ≤ 3) (hbf : bf ≤ 3) (hF : ∀ i, i < 8 → F (off + i) = .int (g i)) (hg : CH g) (hp1 : ¬ g 3 = 61) (SV : Sta Z h0 "com/example/sharks/sharks/StandardBase64" "VALUES" "[B" (.ref va)) (V_va : AV Z h0 va .byte 128 vt) (V_tx : AV Z h0 tx .char 12 F) :
    Ctr l Z (⟨"com/example/sharks/sharks/StandardBase64", "decode", "([CIII)[B"⟩ : MethodName) prog_9_method_2_code 13 (some (.array .byte)) ws ({ frames := 1, cells := 1, slots := 9, locals := 16 } : Room) 1 9 #[(.ref tx), (.int (Int32.ofNat off)), (.int (4 : Int32)), (.int (Int32.ofNat bf))] h0 (fun v h L => Fr n0 L ∧ Keep h0 h [] ∧ ((OK4 g 0) → ∃ b, v = some (.ref b) ∧ h0.size ≤ b ∧ AV Z h b .byte (bf + 3) (gv (exI g bf))) ∧ (¬ (OK4 g 0) → v = some .null)) := by
  refine Ctr.mk (plainFor_of_name pn_1) fun p e s m below meth c T0 X0 C e0 => go_cast (ef_rmDc40 m tx (Int32.ofNat off) (4 : Int32) (Int32.ofNat bf)) ?_
  have N0 := Fr.nil n0
  obtain ⟨hx, hZ, hby, hml, hown, hnm, hret, hlk⟩ := C
  obtain ⟨hI, eI⟩ : ∃ z, z = h0 := ⟨_, rfl⟩
  have K0 : Keep hI h0 [] := by rw [eI]; exact Keep.refl _ _
  show Go _ _ _ _ _ _ _ T0 (mkF m 0 #[.val (.ref tx), .val (.int (Int32.ofNat off)), .val (.int (4 : Int32)), .val (.int (Int32.ofNat bf)), .unset, .unset, .unset, .unset, .unset, .unset, .unset, .unset, .unset] [])
  refine Go.step (fun tt kk => XS.aloadN X0.here hx rfl (hb hby d2_0) rfl rfl kk) ?_
  show Go _ _ _ _ _ _ _ T0 (mkF m 1 _ [(.ref tx)])
  refine Go.step (fun tt kk => XS.iloadN X0.here hx rfl (hb hby d2_1) rfl kk) ?_
  show Go _ _ _ _ _ _ _ T0 (mkF m 2 _ [(.int (Int32.ofNat off)), (.ref tx)])
  refine Go.step (fun tt kk => XS.iloadN X0.here hx rfl (hb hby d2_2) rfl kk) ?_
  show Go _ _ _ _ _ _ _ T0 (mkF m 3 _ [(.int (4 : Int32)), (.int (Int32.ofNat off)), (.ref tx)])
  obtain ⟨v1, T1, L1, X1, q1, st1⟩ := c_static X0 hx hZ hown (y := (⟨"com/example/sharks/sharks/StandardBase64", "decodedLength", "([CII)I"⟩ : MethodName)) (hw _ (List.mem_of_getElem? (i := 11) rfl)) (hw _ (List.mem_of_getElem? (i := 12) rfl)) (hw _ (List.mem_of_getElem? (i := 9) rfl)) (hw _ (List.mem_of_getElem? (i := 13) rfl)) (by decide) (argsL := [(.ref tx), (.int (Int32.ofNat off)), (.int (4 : Int32))]) (rest := []) (rmD l Z a0 hw [] tx off 4 (g 3) (g 2) F h0 n0 Z0 ho (by decide) V_tx (hF 3 (by decide)) (hF 2 (by decide))) e0 pd_0 rfl (by rw [hml]; rfl) (W := 0) (by show 2 * 0 + _ ≤ _; exact Nat.le_of_eq rfl) (by decide) (by decide) (by decide) (by decide) (hb hby d2_3) (Ls := #[.val (.ref tx), .val (.int (Int32.ofNat off)), .val (.int (4 : Int32)), .val (.int (Int32.ofNat bf)), .unset, .unset, .unset, .unset, .unset, .unset, .unset, .unset, .unset])
  obtain ⟨rfl, rfl, e1⟩ := q1
  have N1 := Fr.app N0 (Fr.nil n0)
  refine Go.step (st1) ?_
  show Go _ _ _ _ _ _ _ T1 (mkF m 6 _ [(.int (dl 4 (g 3) (g 2)))])
  rw [show dl 4 (g 3) (g 2) = (3 : Int32) from by unfold dl; rw [if_neg hp1]; decide]
  show Go _ _ _ _ _ _ _ T1 (mkF m 6 #[.val (.ref tx), .val (.int (Int32.ofNat off)), .val (.int (4 : Int32)), .val (.int (Int32.ofNat bf)), .unset, .unset, .unset, .unset, .unset, .unset, .unset, .unset, .unset] [(.int (3 : Int32))])
  refine Go.step (fun tt kk => XS.istore X1.here hx rfl (hb hby d2_6) rfl (l' := #[.val (.ref tx), .val (.int (Int32.ofNat off)), .val (.int (4 : Int32)), .val (.int (Int32.ofNat bf)), .val (.int (3 : Int32)), .unset, .unset, .unset, .unset, .unset, .unset, .unset, .unset]) rfl kk) ?_
  show Go _ _ _ _ _ _ _ T1 (mkF m 8 _ [])
  refine Go.step (fun tt kk => XS.iload X1.here hx rfl (hb hby d2_8) rfl kk) ?_
  show Go _ _ _ _ _ _ _ T1 (mkF m 10 _ [(.int (3 : Int32))])
  refine Go.step (fun tt kk => XS.ifYes X1.here hx rfl (pc0 := 10) (pc' := 15) rfl (hb hby d2_10) rfl ((if0 _ _).trans (flt (by decide)).2.1) (by decide) (by decide) kk) ?_
  show Go _ _ _ _ _ _ _ T1 (mkF m 15 _ [])
  refine Go.step (fun tt kk => XS.iloadN X1.here hx rfl (hb hby d2_15) rfl kk) ?_
  show Go _ _ _ _ _ _ _ T1 (mkF m 16 _ [(.int (Int32.ofNat off))])
  refine Go.step (fun tt kk => XS.iloadN X1.here hx rfl (hb hby d2_16) rfl kk) ?_
  show Go _ _ _ _ _ _ _ T1 (mkF m 17 _ [(.int (4 : Int32)), (.int (Int32.ofNat off))])
  refine Go.step (fun tt kk => XS.iadd X1.here hx rfl (hb hby d2_17) rfl kk) ?_
  show Go _ _ _ _ _ _ _ T1 (mkF m 18 _ [(.int ((Int32.ofNat off) + (4 : Int32)))])
  rw [show Int32.ofNat off + (4 : Int32) = Int32.ofNat (off + 4) from own_add off 4]
  show Go _ _ _ _ _ _ _ T1 (mkF m 18 #[.val (.ref tx), .val (.int (Int32.ofNat off)), .val (.int (4 : Int32)), .val (.int (Int32.ofNat bf)), .val (.int (3 : Int32)), .unset, .unset, .unset, .unset, .unset, .unset, .unset, .unset] [(.int (Int32.ofNat (off + 4)))])
  refine Go.step (fun tt kk => XS.istore X1.here hx rfl (hb hby d2_18) rfl (l' := #[.val (.ref tx), .val (.int (Int32.ofNat off)), .val (.int (4 : Int32)), .val (.int (Int32.ofNat bf)), .val (.int (3 : Int32)), .val (.int (Int32.ofNat (off + 4))), .unset, .unset, .unset, .unset, .unset, .unset, .unset]) rfl kk) ?_
  show Go _ _ _ _ _ _ _ T1 (mkF m 20 _ [])
  refine Go.step (fun tt kk => XS.iloadN X1.here hx rfl (hb hby d2_20) rfl kk) ?_
  show Go _ _ _ _ _ _ _ T1 (mkF m 21 _ [(.int (Int32.ofNat bf))])
  refine Go.step (fun tt kk => XS.iload X1.here hx rfl (hb hby d2_21) rfl kk) ?_
  show Go _ _ _ _ _ _ _ T1 (mkF m 23 _ [(.int (3 : Int32)), (.int (Int32.ofNat bf))])
  refine Go.step (fun tt kk => XS.iadd X1.here hx rfl (hb hby d2_23) rfl kk) ?_
  show Go _ _ _ _ _ _ _ T1 (mkF m 24 _ [(.int ((Int32.ofNat bf) + (3 : Int32)))])
  rw [show Int32.ofNat bf + (3 : Int32) = Int32.ofNat (bf + 3) from own_add bf 3]
  show Go _ _ _ _ _ _ _ T1 (mkF m 24 #[.val (.ref tx), .val (.int (Int32.ofNat off)), .val (.int (4 : Int32)), .val (.int (Int32.ofNat bf)), .val (.int (3 : Int32)), .val (.int (Int32.ofNat (off + 4))), .unset, .unset, .unset, .unset, .unset, .unset, .unset] [(.int (Int32.ofNat (bf + 3)))])
  obtain ⟨T2, h2, k2, X2, e2, E2, A2, EA2, st2⟩ := newPE X1 hx hZ (hw _ (List.mem_of_getElem? (i := 20) rfl)) e1 (g := (mkF m 24 #[.val (.ref tx), .val (.int (Int32.ofNat off)), .val (.int (4 : Int32)), .val (.int (Int32.ofNat bf)), .val (.int (3 : Int32)), .val (.int (Int32.ofNat (off + 4))), .unset, .unset, .unset, .unset, .unset, .unset, .unset] [(.int (Int32.ofNat (bf + 3)))])) rfl (hb hby d2_24) rfl (own_nn (bf + 3) (by omega)) (cap := 9) (by rw [clamp_of (k := bf + 3) (Int32.toInt_ofNat_of_lt (by omega))]; omega) (by decide) (by decide) (by decide) (ad := "[B") rfl
  obtain ⟨b2, g2⟩ : ∃ z, z = h0.size := ⟨_, rfl⟩
  rw [← g2] at A2 EA2 st2
  have ne_tx_b2 : tx ≠ b2 := Nat.ne_of_lt (Nat.lt_of_lt_of_le V_tx.lt (Nat.le_of_eq g2.symm))
  have ne_va_b2 : va ≠ b2 := Nat.ne_of_lt (Nat.lt_of_lt_of_le V_va.lt (Nat.le_of_eq g2.symm))
  have gn_b2 : n0 ≤ b2 := Nat.le_trans Z0 (Nat.le_of_eq g2.symm)
  have sz_b2 : hI.size ≤ b2 := Nat.le_trans K0.1 (Nat.le_of_eq g2.symm)
  have Z2 : n0 ≤ h2.size := Nat.le_trans Z0 E2.1
  have K2 : Keep hI h2 [] := K0.ext E2
  have V2 : AV Z h2 b2 .byte (bf + 3) (fun _ => (.int (0 : Int32))) := AV.new A2 (Int32.toInt_ofNat_of_lt (by omega))
  refine Go.step (st2) ?_
  show Go _ _ _ _ _ _ _ T2 (mkF m 26 _ [(.ref b2)])
  refine Go.step (fun tt kk => XS.astore X2.here hx rfl (hb hby d2_26) rfl rfl (l' := #[.val (.ref tx), .val (.int (Int32.ofNat off)), .val (.int (4 : Int32)), .val (.int (Int32.ofNat bf)), .val (.int (3 : Int32)), .val (.int (Int32.ofNat (off + 4))), .val (.ref b2), .unset, .unset, .unset, .unset, .unset, .unset]) rfl kk) ?_
  show Go _ _ _ _ _ _ _ T2 (mkF m 28 _ [])
  refine Go.step (fun tt kk => XS.iloadN X2.here hx rfl (hb hby d2_28) rfl kk) ?_
  show Go _ _ _ _ _ _ _ T2 (mkF m 29 _ [(.int (4 : Int32))])
  refine Go.step (fun tt kk => XS.iconst X2.here hx rfl (hb hby d2_29) kk) ?_
  show Go _ _ _ _ _ _ _ T2 (mkF m 30 _ [(.int (4 : Int32)), (.int (4 : Int32))])
  refine Go.step (fun tt kk => XS.idiv X2.here hx rfl (hb hby d2_30) rfl (by decide) kk) ?_
  show Go _ _ _ _ _ _ _ T2 (mkF m 31 _ [(.int ((4 : Int32) / (4 : Int32)))])
  refine Go.step (fun tt kk => XS.iconst X2.here hx rfl (hb hby d2_31) kk) ?_
  show Go _ _ _ _ _ _ _ T2 (mkF m 32 _ [(.int (3 : Int32)), (.int ((4 : Int32) / (4 : Int32)))])
  refine Go.step (fun tt kk => XS.imul X2.here hx rfl (hb hby d2_32) rfl kk) ?_
  show Go _ _ _ _ _ _ _ T2 (mkF m 33 _ [(.int (((4 : Int32) / (4 : Int32)) * (3 : Int32)))])
  refine Go.step (fun tt kk => XS.iload X2.here hx rfl (hb hby d2_33) rfl kk) ?_
  show Go _ _ _ _ _ _ _ T2 (mkF m 35 _ [(.int (3 : Int32)), (.int (((4 : Int32) / (4 : Int32)) * (3 : Int32)))])
  refine Go.step (fun tt kk => XS.isub X2.here hx rfl (hb hby d2_35) rfl kk) ?_
  show Go _ _ _ _ _ _ _ T2 (mkF m 36 _ [(.int ((((4 : Int32) / (4 : Int32)) * (3 : Int32)) - (3 : Int32)))])
  rw [show ((((4 : Int32) / (4 : Int32)) * (3 : Int32)) - (3 : Int32)) = (0 : Int32) by decide]
  show Go _ _ _ _ _ _ _ T2 (mkF m 36 #[.val (.ref tx), .val (.int (Int32.ofNat off)), .val (.int (4 : Int32)), .val (.int (Int32.ofNat bf)), .val (.int (3 : Int32)), .val (.int (Int32.ofNat (off + 4))), .val (.ref b2), .unset, .unset, .unset, .unset, .unset, .unset] [(.int (0 : Int32))])
  refine Go.step (fun tt kk => XS.istore X2.here hx rfl (hb hby d2_36) rfl (l' := #[.val (.ref tx), .val (.int (Int32.ofNat off)), .val (.int (4 : Int32)), .val (.int (Int32.ofNat bf)), .val (.int (3 : Int32)), .val (.int (Int32.ofNat (off + 4))), .val (.ref b2), .val (.int (0 : Int32)), .unset, .unset, .unset, .unset, .unset]) rfl kk) ?_
  show Go _ _ _ _ _ _ _ T2 (mkF m 38 _ [])
  refine Go.step (fun tt kk => XS.iload X2.here hx rfl (hb hby d2_38) rfl kk) ?_
  show Go _ _ _ _ _ _ _ T2 (mkF m 40 _ [(.int (0 : Int32))])
  refine Go.step (fun tt kk => XS.ifNo X2.here hx rfl (hb hby d2_40) rfl ((if0 _ _).trans (teq (by decide)).2) kk) ?_
  show Go _ _ _ _ _ _ _ T2 (mkF m 43 _ [])
  refine Go.step (fun tt kk => XS.iload X2.here hx rfl (hb hby d2_43) rfl kk) ?_
  show Go _ _ _ _ _ _ _ T2 (mkF m 45 _ [(.int (Int32.ofNat (off + 4)))])
  refine Go.step (fun tt kk => XS.goto X2.here hx rfl (pc0 := 45) (pc' := 52) rfl (hb hby d2_45) (by decide) (by decide) kk) ?_
  show Go _ _ _ _ _ _ _ T2 (mkF m 52 _ [(.int (Int32.ofNat (off + 4)))])
  refine Go.step (fun tt kk => XS.istore X2.here hx rfl (hb hby d2_52) rfl (l' := #[.val (.ref tx), .val (.int (Int32.ofNat off)), .val (.int (4 : Int32)), .val (.int (Int32.ofNat bf)), .val (.int (3 : Int32)), .val (.int (Int32.ofNat (off + 4))), .val (.ref b2), .val (.int (0 : Int32)), .val (.int (Int32.ofNat (off + 4))), .unset, .unset, .unset, .unset]) rfl kk) ?_
  show Go _ _ _ _ _ _ _ T2 (mkF m 54 _ [])
  refine Go.step (fun tt kk => XS.iloadN X2.here hx rfl (hb hby d2_54) rfl kk) ?_
  show Go _ _ _ _ _ _ _ T2 (mkF m 55 _ [(.int (Int32.ofNat bf))])
  refine Go.step (fun tt kk => XS.istore X2.here hx rfl (hb hby d2_55) rfl (l' := #[.val (.ref tx), .val (.int (Int32.ofNat off)), .val (.int (4 : Int32)), .val (.int (Int32.ofNat bf)), .val (.int (3 : Int32)), .val (.int (Int32.ofNat (off + 4))), .val (.ref b2), .val (.int (0 : Int32)), .val (.int (Int32.ofNat (off + 4))), .val (.int (Int32.ofNat bf)), .unset, .unset, .unset]) rfl kk) ?_
  show Go _ _ _ _ _ _ _ T2 (mkF m 57 _ [])
  refine Go.step (fun tt kk => XS.iloadN X2.here hx rfl (hb hby d2_57) rfl kk) ?_
  show Go _ _ _ _ _ _ _ T2 (mkF m 58 _ [(.int (Int32.ofNat off))])
  refine Go.step (fun tt kk => XS.istore X2.here hx rfl (hb hby d2_58) rfl (l' := #[.val (.ref tx), .val (.int (Int32.ofNat off)), .val (.int (4 : Int32)), .val (.int (Int32.ofNat bf)), .val (.int (3 : Int32)), .val (.int (Int32.ofNat (off + 4))), .val (.ref b2), .val (.int (0 : Int32)), .val (.int (Int32.ofNat (off + 4))), .val (.int (Int32.ofNat bf)), .val (.int (Int32.ofNat off)), .unset, .unset]) rfl kk) ?_
  show Go _ _ _ _ _ _ _ T2 (mkF m 60 _ [])
  show Go _ _ _ _ _ _ _ T2 (mkF m 60 #[.val (.ref tx), .val (.int (Int32.ofNat off)), .val (.int (4 : Int32)), .val (.int (Int32.ofNat bf)), .val (.int (3 : Int32)), .val (.int (Int32.ofNat (off + 4))), .val (.ref b2), .val (.int (0 : Int32)), .val (.int (Int32.ofNat (off + 4))), .val (.int (Int32.ofNat (bf + 0))), .val (.int (Int32.ofNat (off + 0))), .unset, .unset] [])
  refine Go.step (fun tt kk => XS.iload X2.here hx rfl (hb hby d2_60) rfl kk) ?_
  show Go _ _ _ _ _ _ _ T2 (mkF m 62 _ [(.int (Int32.ofNat (off + 0)))])
  refine Go.step (fun tt kk => XS.iload X2.here hx rfl (hb hby d2_62) rfl kk) ?_
  show Go _ _ _ _ _ _ _ T2 (mkF m 64 _ [(.int (Int32.ofNat (off + 4))), (.int (Int32.ofNat (off + 0)))])
  refine Go.step (fun tt kk => XS.icmpNo X2.here hx rfl (hb hby d2_64) rfl (tlt ((own_lt _ _ (by omega) (by omega)).mpr (by omega))).2.1 kk) ?_
  show Go _ _ _ _ _ _ _ T2 (mkF m 67 _ [])
  refine Go.step (fun tt kk => XS.aloadN X2.here hx rfl (hb hby d2_67) rfl rfl kk) ?_
  show Go _ _ _ _ _ _ _ T2 (mkF m 68 _ [(.ref tx)])
  refine Go.step (fun tt kk => XS.iload X2.here hx rfl (hb hby d2_68) rfl kk) ?_
  show Go _ _ _ _ _ _ _ T2 (mkF m 70 _ [(.int (Int32.ofNat (off + 0))), (.ref tx)])
  have f3 := (V_tx.ext E2)
  refine Go.step (a_cload X2 hx hZ e2 f3 (k := (off + 0)) (Int32.toInt_ofNat_of_lt (by omega)) (by omega) (x := (g 0)) (hF 0 (by decide)) (hb hby d2_70)) ?_
  show Go _ _ _ _ _ _ _ T2 (mkF m 71 _ [(.int (g 0))])
  have f5 := (Sta.ext E2 SV)
  have f6 := (V_va.ext E2)
  obtain ⟨v4, T4, L4, X4, q4, st4⟩ := c_static X2 hx hZ hown (y := (⟨"com/example/sharks/sharks/StandardBase64", "value", "(C)I"⟩ : MethodName)) (hw _ (List.mem_of_getElem? (i := 24) rfl)) (hw _ (List.mem_of_getElem? (i := 25) rfl)) (hw _ (List.mem_of_getElem? (i := 9) rfl)) (hw _ (List.mem_of_getElem? (i := 26) rfl)) (by decide) (argsL := [(.int (g 0))]) (rest := []) (rmVa l Z a0 hw [] va (g 0) h2 n0 Z2 (char_nn (hg 0 (by decide))).1 f5 f6) e2 pd_1 rfl (by rw [hml]; rfl) (W := 0) (by show 2 * 0 + _ ≤ _; exact Nat.le_of_eq rfl) (by decide) (by decide) (by decide) (by decide) (hb hby d2_71) (Ls := #[.val (.ref tx), .val (.int (Int32.ofNat off)), .val (.int (4 : Int32)), .val (.int (Int32.ofNat bf)), .val (.int (3 : Int32)), .val (.int (Int32.ofNat (off + 4))), .val (.ref b2), .val (.int (0 : Int32)), .val (.int (Int32.ofNat (off + 4))), .val (.int (Int32.ofNat (bf + 0))), .val (.int (Int32.ofNat (off + 0))), .unset, .unset])
  obtain ⟨rfl, rfl, e4⟩ := q4
  have N4 := Fr.app N1 (Fr.nil n0)
  refine Go.step (st4) ?_
  show Go _ _ _ _ _ _ _ T4 (mkF m 74 _ [(.int (vl (g 0)))])
  refine Go.step (fun tt kk => XS.bipush X4.here hx rfl (hb hby d2_74) kk) ?_
  show Go _ _ _ _ _ _ _ T4 (mkF m 76 _ [(.int (18 : Int32)), (.int (vl (g 0)))])
  refine Go.step (fun tt kk => XS.ishl X4.here hx rfl (hb hby d2_76) rfl kk) ?_
  show Go _ _ _ _ _ _ _ T4 (mkF m 77 _ [(.int ((vl (g 0)) <<< ((18 : Int32) &&& 31)))])
  refine Go.step (fun tt kk => XS.aloadN X4.here hx rfl (hb hby d2_77) rfl rfl kk) ?_
  show Go _ _ _ _ _ _ _ T4 (mkF m 78 _ [(.ref tx), (.int ((vl (g 0)) <<< ((18 : Int32) &&& 31)))])
  refine Go.step (fun tt kk => XS.iload X4.here hx rfl (hb hby d2_78) rfl kk) ?_
  show Go _ _ _ _ _ _ _ T4 (mkF m 80 _ [(.int (Int32.ofNat (off + 0))), (.ref tx), (.int ((vl (g 0)) <<< ((18 : Int32) &&& 31)))])
  refine Go.step (fun tt kk => XS.iconst X4.here hx rfl (hb hby d2_80) kk) ?_
  show Go _ _ _ _ _ _ _ T4 (mkF m 81 _ [(.int (1 : Int32)), (.int (Int32.ofNat (off + 0))), (.ref tx), (.int ((vl (g 0)) <<< ((18 : Int32) &&& 31)))])
  refine Go.step (fun tt kk => XS.iadd X4.here hx rfl (hb hby d2_81) rfl kk) ?_
  show Go _ _ _ _ _ _ _ T4 (mkF m 82 _ [(.int ((Int32.ofNat (off + 0)) + (1 : Int32))), (.ref tx), (.int ((vl (g 0)) <<< ((18 : Int32) &&& 31)))])
  rw [show Int32.ofNat (off + 0) + (1 : Int32) = Int32.ofNat (off + 1) from own_add (off + 0) 1]
  show Go _ _ _ _ _ _ _ T4 (mkF m 82 #[.val (.ref tx), .val (.int (Int32.ofNat off)), .val (.int (4 : Int32)), .val (.int (Int32.ofNat bf)), .val (.int (3 : Int32)), .val (.int (Int32.ofNat (off + 4))), .val (.ref b2), .val (.int (0 : Int32)), .val (.int (Int32.ofNat (off + 4))), .val (.int (Int32.ofNat (bf + 0))), .val (.int (Int32.ofNat (off + 0))), .unset, .unset] [(.int (Int32.ofNat (off + 1))), (.ref tx), (.int ((vl (g 0)) <<< ((18 : Int32) &&& 31)))])
  refine Go.step (a_cload X4 hx hZ e4 f3 (k := (off + 1)) (Int32.toInt_ofNat_of_lt (by omega)) (by omega) (x := (g 1)) (hF 1 (by decide)) (hb hby d2_82)) ?_
  show Go _ _ _ _ _ _ _ T4 (mkF m 83 _ [(.int (g 1)), (.int ((vl (g 0)) <<< ((18 : Int32) &&& 31)))])
  obtain ⟨v7, T7, L7, X7, q7, st7⟩ := c_static X4 hx hZ hown (y := (⟨"com/example/sharks/sharks/StandardBase64", "value", "(C)I"⟩ : MethodName)) (hw _ (List.mem_of_getElem? (i := 24) rfl)) (hw _ (List.mem_of_getElem? (i := 25) rfl)) (hw _ (List.mem_of_getElem? (i := 9) rfl)) (hw _ (List.mem_of_getElem? (i := 26) rfl)) (by decide) (argsL := [(.int (g 1))]) (rest := [(.int ((vl (g 0)) <<< ((18 : Int32) &&& 31)))]) (rmVa l Z a0 hw [] va (g 1) h2 n0 Z2 (char_nn (hg 1 (by decide))).1 f5 f6) e4 pd_1 rfl (by rw [hml]; rfl) (W := 1) (by show 2 * 0 + _ ≤ _; exact Nat.le_of_eq rfl) (by decide) (by decide) (by decide) (by decide) (hb hby d2_83) (Ls := #[.val (.ref tx), .val (.int (Int32.ofNat off)), .val (.int (4 : Int32)), .val (.int (Int32.ofNat bf)), .val (.int (3 : Int32)), .val (.int (Int32.ofNat (off + 4))), .val (.ref b2), .val (.int (0 : Int32)), .val (.int (Int32.ofNat (off + 4))), .val (.int (Int32.ofNat (bf + 0))), .val (.int (Int32.ofNat (off + 0))), .unset, .unset])
  obtain ⟨rfl, rfl, e7⟩ := q7
  have N7 := Fr.app N4 (Fr.nil n0)
  refine Go.step (st7) ?_
  show Go _ _ _ _ _ _ _ T7 (mkF m 86 _ [(.int (vl (g 1))), (.int ((vl (g 0)) <<< ((18 : Int32) &&& 31)))])
  refine Go.step (fun tt kk => XS.bipush X7.here hx rfl (hb hby d2_86) kk) ?_
  show Go _ _ _ _ _ _ _ T7 (mkF m 88 _ [(.int (12 : Int32)), (.int (vl (g 1))), (.int ((vl (g 0)) <<< ((18 : Int32) &&& 31)))])
  refine Go.step (fun tt kk => XS.ishl X7.here hx rfl (hb hby d2_88) rfl kk) ?_
  show Go _ _ _ _ _ _ _ T7 (mkF m 89 _ [(.int ((vl (g 1)) <<< ((12 : Int32) &&& 31))), (.int ((vl (g 0)) <<< ((18 : Int32) &&& 31)))])
  refine Go.step (fun tt kk => XS.ior X7.here hx rfl (hb hby d2_89) rfl kk) ?_
  show Go _ _ _ _ _ _ _ T7 (mkF m 90 _ [(.int (((vl (g 0)) <<< ((18 : Int32) &&& 31)) ||| ((vl (g 1)) <<< ((12 : Int32) &&& 31))))])
  refine Go.step (fun tt kk => XS.aloadN X7.here hx rfl (hb hby d2_90) rfl rfl kk) ?_
  show Go _ _ _ _ _ _ _ T7 (mkF m 91 _ [(.ref tx), (.int (((vl (g 0)) <<< ((18 : Int32) &&& 31)) ||| ((vl (g 1)) <<< ((12 : Int32) &&& 31))))])
  refine Go.step (fun tt kk => XS.iload X7.here hx rfl (hb hby d2_91) rfl kk) ?_
  show Go _ _ _ _ _ _ _ T7 (mkF m 93 _ [(.int (Int32.ofNat (off + 0))), (.ref tx), (.int (((vl (g 0)) <<< ((18 : Int32) &&& 31)) ||| ((vl (g 1)) <<< ((12 : Int32) &&& 31))))])
  refine Go.step (fun tt kk => XS.iconst X7.here hx rfl (hb hby d2_93) kk) ?_
  show Go _ _ _ _ _ _ _ T7 (mkF m 94 _ [(.int (2 : Int32)), (.int (Int32.ofNat (off + 0))), (.ref tx), (.int (((vl (g 0)) <<< ((18 : Int32) &&& 31)) ||| ((vl (g 1)) <<< ((12 : Int32) &&& 31))))])
  refine Go.step (fun tt kk => XS.iadd X7.here hx rfl (hb hby d2_94) rfl kk) ?_
  show Go _ _ _ _ _ _ _ T7 (mkF m 95 _ [(.int ((Int32.ofNat (off + 0)) + (2 : Int32))), (.ref tx), (.int (((vl (g 0)) <<< ((18 : Int32) &&& 31)) ||| ((vl (g 1)) <<< ((12 : Int32) &&& 31))))])
  rw [show Int32.ofNat (off + 0) + (2 : Int32) = Int32.ofNat (off + 2) from own_add (off + 0) 2]
  show Go _ _ _ _ _ _ _ T7 (mkF m 95 #[.val (.ref tx), .val (.int (Int32.ofNat off)), .val (.int (4 : Int32)), .val (.int (Int32.ofNat bf)), .val (.int (3 : Int32)), .val (.int (Int32.ofNat (off + 4))), .val (.ref b2), .val (.int (0 : Int32)), .val (.int (Int32.ofNat (off + 4))), .val (.int (Int32.ofNat (bf + 0))), .val (.int (Int32.ofNat (off + 0))), .unset, .unset] [(.int (Int32.ofNat (off + 2))), (.ref tx), (.int (((vl (g 0)) <<< ((18 : Int32) &&& 31)) ||| ((vl (g 1)) <<< ((12 : Int32) &&& 31))))])
  refine Go.step (a_cload X7 hx hZ e7 f3 (k := (off + 2)) (Int32.toInt_ofNat_of_lt (by omega)) (by omega) (x := (g 2)) (hF 2 (by decide)) (hb hby d2_95)) ?_
  show Go _ _ _ _ _ _ _ T7 (mkF m 96 _ [(.int (g 2)), (.int (((vl (g 0)) <<< ((18 : Int32) &&& 31)) ||| ((vl (g 1)) <<< ((12 : Int32) &&& 31))))])
  obtain ⟨v8, T8, L8, X8, q8, st8⟩ := c_static X7 hx hZ hown (y := (⟨"com/example/sharks/sharks/StandardBase64", "value", "(C)I"⟩ : MethodName)) (hw _ (List.mem_of_getElem? (i := 24) rfl)) (hw _ (List.mem_of_getElem? (i := 25) rfl)) (hw _ (List.mem_of_getElem? (i := 9) rfl)) (hw _ (List.mem_of_getElem? (i := 26) rfl)) (by decide) (argsL := [(.int (g 2))]) (rest := [(.int (((vl (g 0)) <<< ((18 : Int32) &&& 31)) ||| ((vl (g 1)) <<< ((12 : Int32) &&& 31))))]) (rmVa l Z a0 hw [] va (g 2) h2 n0 Z2 (char_nn (hg 2 (by decide))).1 f5 f6) e7 pd_1 rfl (by rw [hml]; rfl) (W := 1) (by show 2 * 0 + _ ≤ _; exact Nat.le_of_eq rfl) (by decide) (by decide) (by decide) (by decide) (hb hby d2_96) (Ls := #[.val (.ref tx), .val (.int (Int32.ofNat off)), .val (.int (4 : Int32)), .val (.int (Int32.ofNat bf)), .val (.int (3 : Int32)), .val (.int (Int32.ofNat (off + 4))), .val (.ref b2), .val (.int (0 : Int32)), .val (.int (Int32.ofNat (off + 4))), .val (.int (Int32.ofNat (bf + 0))), .val (.int (Int32.ofNat (off + 0))), .unset, .unset])
  obtain ⟨rfl, rfl, e8⟩ := q8
  have N8 := Fr.app N7 (Fr.nil n0)
  refine Go.step (st8) ?_
  show Go _ _ _ _ _ _ _ T8 (mkF m 99 _ [(.int (vl (g 2))), (.int (((vl (g 0)) <<< ((18 : Int32) &&& 31)) ||| ((vl (g 1)) <<< ((12 : Int32) &&& 31))))])
  refine Go.step (fun tt kk => XS.bipush X8.here hx rfl (hb hby d2_99) kk) ?_
  show Go _ _ _ _ _ _ _ T8 (mkF m 101 _ [(.int (6 : Int32)), (.int (vl (g 2))), (.int (((vl (g 0)) <<< ((18 : Int32) &&& 31)) ||| ((vl (g 1)) <<< ((12 : Int32) &&& 31))))])
  refine Go.step (fun tt kk => XS.ishl X8.here hx rfl (hb hby d2_101) rfl kk) ?_
  show Go _ _ _ _ _ _ _ T8 (mkF m 102 _ [(.int ((vl (g 2)) <<< ((6 : Int32) &&& 31))), (.int (((vl (g 0)) <<< ((18 : Int32) &&& 31)) ||| ((vl (g 1)) <<< ((12 : Int32) &&& 31))))])
  refine Go.step (fun tt kk => XS.ior X8.here hx rfl (hb hby d2_102) rfl kk) ?_
  show Go _ _ _ _ _ _ _ T8 (mkF m 103 _ [(.int ((((vl (g 0)) <<< ((18 : Int32) &&& 31)) ||| ((vl (g 1)) <<< ((12 : Int32) &&& 31))) ||| ((vl (g 2)) <<< ((6 : Int32) &&& 31))))])
  refine Go.step (fun tt kk => XS.aloadN X8.here hx rfl (hb hby d2_103) rfl rfl kk) ?_
  show Go _ _ _ _ _ _ _ T8 (mkF m 104 _ [(.ref tx), (.int ((((vl (g 0)) <<< ((18 : Int32) &&& 31)) ||| ((vl (g 1)) <<< ((12 : Int32) &&& 31))) ||| ((vl (g 2)) <<< ((6 : Int32) &&& 31))))])
  refine Go.step (fun tt kk => XS.iload X8.here hx rfl (hb hby d2_104) rfl kk) ?_
  show Go _ _ _ _ _ _ _ T8 (mkF m 106 _ [(.int (Int32.ofNat (off + 0))), (.ref tx), (.int ((((vl (g 0)) <<< ((18 : Int32) &&& 31)) ||| ((vl (g 1)) <<< ((12 : Int32) &&& 31))) ||| ((vl (g 2)) <<< ((6 : Int32) &&& 31))))])
  refine Go.step (fun tt kk => XS.iconst X8.here hx rfl (hb hby d2_106) kk) ?_
  show Go _ _ _ _ _ _ _ T8 (mkF m 107 _ [(.int (3 : Int32)), (.int (Int32.ofNat (off + 0))), (.ref tx), (.int ((((vl (g 0)) <<< ((18 : Int32) &&& 31)) ||| ((vl (g 1)) <<< ((12 : Int32) &&& 31))) ||| ((vl (g 2)) <<< ((6 : Int32) &&& 31))))])
  refine Go.step (fun tt kk => XS.iadd X8.here hx rfl (hb hby d2_107) rfl kk) ?_
  show Go _ _ _ _ _ _ _ T8 (mkF m 108 _ [(.int ((Int32.ofNat (off + 0)) + (3 : Int32))), (.ref tx), (.int ((((vl (g 0)) <<< ((18 : Int32) &&& 31)) ||| ((vl (g 1)) <<< ((12 : Int32) &&& 31))) ||| ((vl (g 2)) <<< ((6 : Int32) &&& 31))))])
  rw [show Int32.ofNat (off + 0) + (3 : Int32) = Int32.ofNat (off + 3) from own_add (off + 0) 3]
  show Go _ _ _ _ _ _ _ T8 (mkF m 108 #[.val (.ref tx), .val (.int (Int32.ofNat off)), .val (.int (4 : Int32)), .val (.int (Int32.ofNat bf)), .val (.int (3 : Int32)), .val (.int (Int32.ofNat (off + 4))), .val (.ref b2), .val (.int (0 : Int32)), .val (.int (Int32.ofNat (off + 4))), .val (.int (Int32.ofNat (bf + 0))), .val (.int (Int32.ofNat (off + 0))), .unset, .unset] [(.int (Int32.ofNat (off + 3))), (.ref tx), (.int ((((vl (g 0)) <<< ((18 : Int32) &&& 31)) ||| ((vl (g 1)) <<< ((12 : Int32) &&& 31))) ||| ((vl (g 2)) <<< ((6 : Int32) &&& 31))))])
  refine Go.step (a_cload X8 hx hZ e8 f3 (k := (off + 3)) (Int32.toInt_ofNat_of_lt (by omega)) (by omega) (x := (g 3)) (hF 3 (by decide)) (hb hby d2_108)) ?_
  show Go _ _ _ _ _ _ _ T8 (mkF m 109 _ [(.int (g 3)), (.int ((((vl (g 0)) <<< ((18 : Int32) &&& 31)) ||| ((vl (g 1)) <<< ((12 : Int32) &&& 31))) ||| ((vl (g 2)) <<< ((6 : Int32) &&& 31))))])
  obtain ⟨v9, T9, L9, X9, q9, st9⟩ := c_static X8 hx hZ hown (y := (⟨"com/example/sharks/sharks/StandardBase64", "value", "(C)I"⟩ : MethodName)) (hw _ (List.mem_of_getElem? (i := 24) rfl)) (hw _ (List.mem_of_getElem? (i := 25) rfl)) (hw _ (List.mem_of_getElem? (i := 9) rfl)) (hw _ (List.mem_of_getElem? (i := 26) rfl)) (by decide) (argsL := [(.int (g 3))]) (rest := [(.int ((((vl (g 0)) <<< ((18 : Int32) &&& 31)) ||| ((vl (g 1)) <<< ((12 : Int32) &&& 31))) ||| ((vl (g 2)) <<< ((6 : Int32) &&& 31))))]) (rmVa l Z a0 hw [] va (g 3) h2 n0 Z2 (char_nn (hg 3 (by decide))).1 f5 f6) e8 pd_1 rfl (by rw [hml]; rfl) (W := 1) (by show 2 * 0 + _ ≤ _; exact Nat.le_of_eq rfl) (by decide) (by decide) (by decide) (by decide) (hb hby d2_109) (Ls := #[.val (.ref tx), .val (.int (Int32.ofNat off)), .val (.int (4 : Int32)), .val (.int (Int32.ofNat bf)), .val (.int (3 : Int32)), .val (.int (Int32.ofNat (off + 4))), .val (.ref b2), .val (.int (0 : Int32)), .val (.int (Int32.ofNat (off + 4))), .val (.int (Int32.ofNat (bf + 0))), .val (.int (Int32.ofNat (off + 0))), .unset, .unset])
  obtain ⟨rfl, rfl, e9⟩ := q9
  have N9 := Fr.app N8 (Fr.nil n0)
  refine Go.step (st9) ?_
  show Go _ _ _ _ _ _ _ T9 (mkF m 112 _ [(.int (vl (g 3))), (.int ((((vl (g 0)) <<< ((18 : Int32) &&& 31)) ||| ((vl (g 1)) <<< ((12 : Int32) &&& 31))) ||| ((vl (g 2)) <<< ((6 : Int32) &&& 31))))])
  refine Go.step (fun tt kk => XS.ior X9.here hx rfl (hb hby d2_112) rfl kk) ?_
  show Go _ _ _ _ _ _ _ T9 (mkF m 113 _ [(.int (((((vl (g 0)) <<< ((18 : Int32) &&& 31)) ||| ((vl (g 1)) <<< ((12 : Int32) &&& 31))) ||| ((vl (g 2)) <<< ((6 : Int32) &&& 31))) ||| (vl (g 3))))])
  refine Go.step (fun tt kk => XS.istore X9.here hx rfl (hb hby d2_113) rfl (l' := #[.val (.ref tx), .val (.int (Int32.ofNat off)), .val (.int (4 : Int32)), .val (.int (Int32.ofNat bf)), .val (.int (3 : Int32)), .val (.int (Int32.ofNat (off + 4))), .val (.ref b2), .val (.int (0 : Int32)), .val (.int (Int32.ofNat (off + 4))), .val (.int (Int32.ofNat (bf + 0))), .val (.int (Int32.ofNat (off + 0))), .val (.int (((((vl (g 0)) <<< ((18 : Int32) &&& 31)) ||| ((vl (g 1)) <<< ((12 : Int32) &&& 31))) ||| ((vl (g 2)) <<< ((6 : Int32) &&& 31))) ||| (vl (g 3)))), .unset]) rfl kk) ?_
  show Go _ _ _ _ _ _ _ T9 (mkF m 115 _ [])
  show Go _ _ _ _ _ _ _ T9 (mkF m 115 #[.val (.ref tx), .val (.int (Int32.ofNat off)), .val (.int (4 : Int32)), .val (.int (Int32.ofNat bf)), .val (.int (3 : Int32)), .val (.int (Int32.ofNat (off + 4))), .val (.ref b2), .val (.int (0 : Int32)), .val (.int (Int32.ofNat (off + 4))), .val (.int (Int32.ofNat (bf + 0))), .val (.int (Int32.ofNat (off + 0))), .val (.int (w4 g 0)), .unset] [])
  refine Go.step (fun tt kk => XS.iload X9.here hx rfl (hb hby d2_115) rfl kk) ?_
  show Go _ _ _ _ _ _ _ T9 (mkF m 117 _ [(.int (w4 g 0))])
  by_cases c117_10 : (w4 g 0) < (0 : Int32)
  · refine Go.step (fun tt kk => XS.ifNo X9.here hx rfl (hb hby d2_117) rfl ((if0 _ _).trans (tlt c117_10).2.1) kk) ?_
    show Go _ _ _ _ _ _ _ T9 (mkF m 120 _ [])
    refine Go.step (fun tt kk => XS.aconstNull X9.here hx rfl (hb hby d2_120) kk) ?_
    show Go _ _ _ _ _ _ _ T9 (mkF m 121 _ [.null])
    refine go_retA X9 hx (t := (.array .byte)) hret rfl hlk rfl (hb hby d2_121) ?_ (by decide) (by decide)
    try rw [e9]
    exact ⟨N9, eI ▸ K2, fun z => absurd z ((own_w4 hg (by decide)).mp c117_10), fun _ => rfl⟩
  · refine Go.step (fun tt kk => XS.ifYes X9.here hx rfl (pc0 := 117) (pc' := 122) rfl (hb hby d2_117) rfl ((if0 _ _).trans (flt c117_10).2.1) (by decide) (by decide) kk) ?_
    show Go _ _ _ _ _ _ _ T9 (mkF m 122 _ [])
    have ok0 : OK4 g 0 := Classical.byContradiction fun z => c117_10 ((own_w4 hg (by decide)).mpr z)
    have by0 := own_q4 hg (by decide) ok0
    refine Go.step (fun tt kk => XS.aload X9.here hx rfl (hb hby d2_122) rfl rfl kk) ?_
    show Go _ _ _ _ _ _ _ T9 (mkF m 124 _ [(.ref b2)])
    refine Go.step (fun tt kk => XS.iload X9.here hx rfl (hb hby d2_124) rfl kk) ?_
    show Go _ _ _ _ _ _ _ T9 (mkF m 126 _ [(.int (Int32.ofNat (bf + 0))), (.ref b2)])
    refine Go.step (fun tt kk => XS.iload X9.here hx rfl (hb hby d2_126) rfl kk) ?_
    show Go _ _ _ _ _ _ _ T9 (mkF m 128 _ [(.int (w4 g 0)), (.int (Int32.ofNat (bf + 0))), (.ref b2)])
    refine Go.step (fun tt kk => XS.bipush X9.here hx rfl (hb hby d2_128) kk) ?_
    show Go _ _ _ _ _ _ _ T9 (mkF m 130 _ [(.int (16 : Int32)), (.int (w4 g 0)), (.int (Int32.ofNat (bf + 0))), (.ref b2)])
    refine Go.step (fun tt kk => XS.ishr X9.here hx rfl (hb hby d2_130) rfl kk) ?_
    show Go _ _ _ _ _ _ _ T9 (mkF m 131 _ [(.int ((w4 g 0) >>> ((16 : Int32) &&& 31))), (.int (Int32.ofNat (bf + 0))), (.ref b2)])
    refine Go.step (fun tt kk => XS.i2b X9.here hx rfl (hb hby d2_131) rfl kk) ?_
    show Go _ _ _ _ _ _ _ T9 (mkF m 132 _ [(.int (((w4 g 0) >>> ((16 : Int32) &&& 31)).toInt8.toInt32)), (.int (Int32.ofNat (bf + 0))), (.ref b2)])
    show Go _ _ _ _ _ _ _ T9 (mkF m 132 #[.val (.ref tx), .val (.int (Int32.ofNat off)), .val (.int (4 : Int32)), .val (.int (Int32.ofNat bf)), .val (.int (3 : Int32)), .val (.int (Int32.ofNat (off + 4))), .val (.ref b2), .val (.int (0 : Int32)), .val (.int (Int32.ofNat (off + 4))), .val (.int (Int32.ofNat (bf + 0))), .val (.int (Int32.ofNat (off + 0))), .val (.int (w4 g 0)), .unset] [(.int (((w4 g 0) >>> ((16 : Int32) &&& 31)).toInt8.toInt32)), (.int (Int32.ofNat (bf + 0))), (.ref b2)])
    obtain ⟨cl11, Ar11, hin11, -⟩ := V2.at (j := (Int32.ofNat (bf + 0))) (k := (bf + 0)) (Int32.toInt_ofNat_of_lt (by omega)) (by omega)
    obtain ⟨T11, h11, X11, e11, W11, st11⟩ := stB X9 hx hZ e9 Ar11 (j := (Int32.ofNat (bf + 0))) hin11 (g := (mkF m 132 #[.val (.ref tx), .val (.int (Int32.ofNat off)), .val (.int (4 : Int32)), .val (.int (Int32.ofNat bf)), .val (.int (3 : Int32)), .val (.int (Int32.ofNat (off + 4))), .val (.ref b2), .val (.int (0 : Int32)), .val (.int (Int32.ofNat (off + 4))), .val (.int (Int32.ofNat (bf + 0))), .val (.int (Int32.ofNat (off + 0))), .val (.int (w4 g 0)), .unset] [(.int (((w4 g 0) >>> ((16 : Int32) &&& 31)).toInt8.toInt32)), (.int (Int32.ofNat (bf + 0))), (.ref b2)])) rfl rfl (hb hby d2_132)
    rw [(own_nb _)] at W11
    have V11 : AV Z h11 b2 .byte (bf + 3) (upd (fun _ => (.int (0 : Int32))) (bf + 0) (.int (((w4 g 0) >>> ((16 : Int32) &&& 31)).toInt8.toInt32))) := AV.set V2 (k := (bf + 0)) (Int32.toInt_ofNat_of_lt (by omega)) (by omega) W11
    have N11 := Fr.snoc X11 N9 gn_b2
    have Z11 : n0 ≤ h11.size := Nat.le_trans Z2 (Keep.of_wr W11).1
    have K11 : Keep hI h11 [] := K2.wr W11 (Or.inr sz_b2)
    refine Go.step (st11) ?_
    show Go _ _ _ _ _ _ _ T11 (mkF m 133 _ [])
    refine Go.step (fun tt kk => XS.aload X11.here hx rfl (hb hby d2_133) rfl rfl kk) ?_
    show Go _ _ _ _ _ _ _ T11 (mkF m 135 _ [(.ref b2)])
    refine Go.step (fun tt kk => XS.iload X11.here hx rfl (hb hby d2_135) rfl kk) ?_
    show Go _ _ _ _ _ _ _ T11 (mkF m 137 _ [(.int (Int32.ofNat (bf + 0))), (.ref b2)])
    refine Go.step (fun tt kk => XS.iconst X11.here hx rfl (hb hby d2_137) kk) ?_
    show Go _ _ _ _ _ _ _ T11 (mkF m 138 _ [(.int (1 : Int32)), (.int (Int32.ofNat (bf + 0))), (.ref b2)])
    refine Go.step (fun tt kk => XS.iadd X11.here hx rfl (hb hby d2_138) rfl kk) ?_
    show Go _ _ _ _ _ _ _ T11 (mkF m 139 _ [(.int ((Int32.ofNat (bf + 0)) + (1 : Int32))), (.ref b2)])
    refine Go.step (fun tt kk => XS.iload X11.here hx rfl (hb hby d2_139) rfl kk) ?_
    show Go _ _ _ _ _ _ _ T11 (mkF m 141 _ [(.int (w4 g 0)), (.int ((Int32.ofNat (bf + 0)) + (1 : Int32))), (.ref b2)])
    refine Go.step (fun tt kk => XS.bipush X11.here hx rfl (hb hby d2_141) kk) ?_
    show Go _ _ _ _ _ _ _ T11 (mkF m 143 _ [(.int (8 : Int32)), (.int (w4 g 0)), (.int ((Int32.ofNat (bf + 0)) + (1 : Int32))), (.ref b2)])
    refine Go.step (fun tt kk => XS.ishr X11.here hx rfl (hb hby d2_143) rfl kk) ?_
    show Go _ _ _ _ _ _ _ T11 (mkF m 144 _ [(.int ((w4 g 0) >>> ((8 : Int32) &&& 31))), (.int ((Int32.ofNat (bf + 0)) + (1 : Int32))), (.ref b2)])
    refine Go.step (fun tt kk => XS.i2b X11.here hx rfl (hb hby d2_144) rfl kk) ?_
    show Go _ _ _ _ _ _ _ T11 (mkF m 145 _ [(.int (((w4 g 0) >>> ((8 : Int32) &&& 31)).toInt8.toInt32)), (.int ((Int32.ofNat (bf + 0)) + (1 : Int32))), (.ref b2)])
    rw [show Int32.ofNat (bf + 0) + (1 : Int32) = Int32.ofNat (bf + 1) from own_add (bf + 0) 1]
    show Go _ _ _ _ _ _ _ T11 (mkF m 145 #[.val (.ref tx), .val (.int (Int32.ofNat off)), .val (.int (4 : Int32)), .val (.int (Int32.ofNat bf)), .val (.int (3 : Int32)), .val (.int (Int32.ofNat (off + 4))), .val (.ref b2), .val (.int (0 : Int32)), .val (.int (Int32.ofNat (off + 4))), .val (.int (Int32.ofNat (bf + 0))), .val (.int (Int32.ofNat (off + 0))), .val (.int (w4 g 0)), .unset] [(.int (((w4 g 0) >>> ((8 : Int32) &&& 31)).toInt8.toInt32)), (.int (Int32.ofNat (bf + 1))), (.ref b2)])
    obtain ⟨cl12, Ar12, hin12, -⟩ := V11.at (j := (Int32.ofNat (bf + 1))) (k := (bf + 1)) (Int32.toInt_ofNat_of_lt (by omega)) (by omega)
    obtain ⟨T12, h12, X12, e12, W12, st12⟩ := stB X11 hx hZ e11 Ar12 (j := (Int32.ofNat (bf + 1))) hin12 (g := (mkF m 145 #[.val (.ref tx), .val (.int (Int32.ofNat off)), .val (.int (4 : Int32)), .val (.int (Int32.ofNat bf)), .val (.int (3 : Int32)), .val (.int (Int32.ofNat (off + 4))), .val (.ref b2), .val (.int (0 : Int32)), .val (.int (Int32.ofNat (off + 4))), .val (.int (Int32.ofNat (bf + 0))), .val (.int (Int32.ofNat (off + 0))), .val (.int (w4 g 0)), .unset] [(.int (((w4 g 0) >>> ((8 : Int32) &&& 31)).toInt8.toInt32)), (.int (Int32.ofNat (bf + 1))), (.ref b2)])) rfl rfl (hb hby d2_145)
    rw [(own_nb _)] at W12
    have V12 : AV Z h12 b2 .byte (bf + 3) (upd (upd (fun _ => (.int (0 : Int32))) (bf + 0) (.int (((w4 g 0) >>> ((16 : Int32) &&& 31)).toInt8.toInt32))) (bf + 1) (.int (((w4 g 0) >>> ((8 : Int32) &&& 31)).toInt8.toInt32))) := AV.set V11 (k := (bf + 1)) (Int32.toInt_ofNat_of_lt (by omega)) (by omega) W12
    have N12 := Fr.snoc X12 N11 gn_b2
    have Z12 : n0 ≤ h12.size := Nat.le_trans Z11 (Keep.of_wr W12).1
    have K12 : Keep hI h12 [] := K11.wr W12 (Or.inr sz_b2)
    refine Go.step (st12) ?_
    show Go _ _ _ _ _ _ _ T12 (mkF m 146 _ [])
    refine Go.step (fun tt kk => XS.aload X12.here hx rfl (hb hby d2_146) rfl rfl kk) ?_
    show Go _ _ _ _ _ _ _ T12 (mkF m 148 _ [(.ref b2)])
    refine Go.step (fun tt kk => XS.iload X12.here hx rfl (hb hby d2_148) rfl kk) ?_
    show Go _ _ _ _ _ _ _ T12 (mkF m 150 _ [(.int (Int32.ofNat (bf + 0))), (.ref b2)])
    refine Go.step (fun tt kk => XS.iconst X12.here hx rfl (hb hby d2_150) kk) ?_
    show Go _ _ _ _ _ _ _ T12 (mkF m 151 _ [(.int (2 : Int32)), (.int (Int32.ofNat (bf + 0))), (.ref b2)])
    refine Go.step (fun tt kk => XS.iadd X12.here hx rfl (hb hby d2_151) rfl kk) ?_
    show Go _ _ _ _ _ _ _ T12 (mkF m 152 _ [(.int ((Int32.ofNat (bf + 0)) + (2 : Int32))), (.ref b2)])
    refine Go.step (fun tt kk => XS.iload X12.here hx rfl (hb hby d2_152) rfl kk) ?_
    show Go _ _ _ _ _ _ _ T12 (mkF m 154 _ [(.int (w4 g 0)), (.int ((Int32.ofNat (bf + 0)) + (2 : Int32))), (.ref b2)])
    refine Go.step (fun tt kk => XS.i2b X12.here hx rfl (hb hby d2_154) rfl kk) ?_
    show Go _ _ _ _ _ _ _ T12 (mkF m 155 _ [(.int ((w4 g 0).toInt8.toInt32)), (.int ((Int32.ofNat (bf + 0)) + (2 : Int32))), (.ref b2)])
    rw [show Int32.ofNat (bf + 0) + (2 : Int32) = Int32.ofNat (bf + 2) from own_add (bf + 0) 2]
    show Go _ _ _ _ _ _ _ T12 (mkF m 155 #[.val (.ref tx), .val (.int (Int32.ofNat off)), .val (.int (4 : Int32)), .val (.int (Int32.ofNat bf)), .val (.int (3 : Int32)), .val (.int (Int32.ofNat (off + 4))), .val (.ref b2), .val (.int (0 : Int32)), .val (.int (Int32.ofNat (off + 4))), .val (.int (Int32.ofNat (bf + 0))), .val (.int (Int32.ofNat (off + 0))), .val (.int (w4 g 0)), .unset] [(.int (((w4 g 0)).toInt8.toInt32)), (.int (Int32.ofNat (bf + 2))), (.ref b2)])
    obtain ⟨cl13, Ar13, hin13, -⟩ := V12.at (j := (Int32.ofNat (bf + 2))) (k := (bf + 2)) (Int32.toInt_ofNat_of_lt (by omega)) (by omega)
    obtain ⟨T13, h13, X13, e13, W13, st13⟩ := stB X12 hx hZ e12 Ar13 (j := (Int32.ofNat (bf + 2))) hin13 (g := (mkF m 155 #[.val (.ref tx), .val (.int (Int32.ofNat off)), .val (.int (4 : Int32)), .val (.int (Int32.ofNat bf)), .val (.int (3 : Int32)), .val (.int (Int32.ofNat (off + 4))), .val (.ref b2), .val (.int (0 : Int32)), .val (.int (Int32.ofNat (off + 4))), .val (.int (Int32.ofNat (bf + 0))), .val (.int (Int32.ofNat (off + 0))), .val (.int (w4 g 0)), .unset] [(.int (((w4 g 0)).toInt8.toInt32)), (.int (Int32.ofNat (bf + 2))), (.ref b2)])) rfl rfl (hb hby d2_155)
    rw [(own_nb _)] at W13
    have V13 : AV Z h13 b2 .byte (bf + 3) (upd (upd (upd (fun _ => (.int (0 : Int32))) (bf + 0) (.int (((w4 g 0) >>> ((16 : Int32) &&& 31)).toInt8.toInt32))) (bf + 1) (.int (((w4 g 0) >>> ((8 : Int32) &&& 31)).toInt8.toInt32))) (bf + 2) (.int (((w4 g 0)).toInt8.toInt32))) := AV.set V12 (k := (bf + 2)) (Int32.toInt_ofNat_of_lt (by omega)) (by omega) W13
    have N13 := Fr.snoc X13 N12 gn_b2
    have Z13 : n0 ≤ h13.size := Nat.le_trans Z12 (Keep.of_wr W13).1
    have K13 : Keep hI h13 [] := K12.wr W13 (Or.inr sz_b2)
    refine Go.step (st13) ?_
    show Go _ _ _ _ _ _ _ T13 (mkF m 156 _ [])
    refine Go.step (fun tt kk => XS.iinc X13.here hx rfl (hb hby d2_156) rfl (l' := #[.val (.ref tx), .val (.int (Int32.ofNat off)), .val (.int (4 : Int32)), .val (.int (Int32.ofNat bf)), .val (.int (3 : Int32)), .val (.int (Int32.ofNat (off + 4))), .val (.ref b2), .val (.int (0 : Int32)), .val (.int (Int32.ofNat (off + 4))), .val (.int ((Int32.ofNat (bf + 0)) + (3 : Int32))), .val (.int (Int32.ofNat (off + 0))), .val (.int (w4 g 0)), .unset]) rfl kk) ?_
    show Go _ _ _ _ _ _ _ T13 (mkF m 159 _ [])
    refine Go.step (fun tt kk => XS.iinc X13.here hx rfl (hb hby d2_159) rfl (l' := #[.val (.ref tx), .val (.int (Int32.ofNat off)), .val (.int (4 : Int32)), .val (.int (Int32.ofNat bf)), .val (.int (3 : Int32)), .val (.int (Int32.ofNat (off + 4))), .val (.ref b2), .val (.int (0 : Int32)), .val (.int (Int32.ofNat (off + 4))), .val (.int ((Int32.ofNat (bf + 0)) + (3 : Int32))), .val (.int ((Int32.ofNat (off + 0)) + (4 : Int32))), .val (.int (w4 g 0)), .unset]) rfl kk) ?_
    show Go _ _ _ _ _ _ _ T13 (mkF m 162 _ [])
    refine Go.step (fun tt kk => XS.goto X13.here hx rfl (pc0 := 162) (pc' := 60) rfl (hb hby d2_162) (by decide) (by decide) kk) ?_
    show Go _ _ _ _ _ _ _ T13 (mkF m 60 _ [])
    rw [show ((Int32.ofNat (off + 0)) + (4 : Int32)) = Int32.ofNat (off + 4) from own_add off 4, show ((Int32.ofNat (bf + 0)) + (3 : Int32)) = Int32.ofNat (bf + 3) from own_add bf 3]
    show Go _ _ _ _ _ _ _ T13 (mkF m 60 #[.val (.ref tx), .val (.int (Int32.ofNat off)), .val (.int (4 : Int32)), .val (.int (Int32.ofNat bf)), .val (.int (3 : Int32)), .val (.int (Int32.ofNat (off + 4))), .val (.ref b2), .val (.int (0 : Int32)), .val (.int (Int32.ofNat (off + 4))), .val (.int (Int32.ofNat (bf + 3))), .val (.int (Int32.ofNat (off + 4))), .val (.int (w4 g 0)), .unset] [])
    refine Go.step (fun tt kk => XS.iload X13.here hx rfl (hb hby d2_60) rfl kk) ?_
    show Go _ _ _ _ _ _ _ T13 (mkF m 62 _ [(.int (Int32.ofNat (off + 4)))])
    refine Go.step (fun tt kk => XS.iload X13.here hx rfl (hb hby d2_62) rfl kk) ?_
    show Go _ _ _ _ _ _ _ T13 (mkF m 64 _ [(.int (Int32.ofNat (off + 4))), (.int (Int32.ofNat (off + 4)))])
    refine Go.step (fun tt kk => XS.icmpYes X13.here hx rfl (pc0 := 64) (pc' := 165) rfl (hb hby d2_64) rfl (flt (mt (own_lt _ _ (by omega) (by omega)).mp (by omega))).2.1 (by decide) (by decide) kk) ?_
    show Go _ _ _ _ _ _ _ T13 (mkF m 165 _ [])
    refine Go.step (fun tt kk => XS.iload X13.here hx rfl (hb hby d2_165) rfl kk) ?_
    show Go _ _ _ _ _ _ _ T13 (mkF m 167 _ [(.int (0 : Int32))])
    refine Go.step (fun tt kk => XS.ifNo X13.here hx rfl (hb hby d2_167) rfl ((if0 _ _).trans (teq (by decide)).2) kk) ?_
    show Go _ _ _ _ _ _ _ T13 (mkF m 170 _ [])
    refine Go.step (fun tt kk => XS.aload X13.here hx rfl (hb hby d2_170) rfl rfl kk) ?_
    show Go _ _ _ _ _ _ _ T13 (mkF m 172 _ [(.ref b2)])
    have V14 : AV Z h13 b2 .byte (bf + 3) (gv (exI g bf)) := V13.congr fun i hi => by
      by_cases q : i < bf
      · rw [show gv (exI g bf) i = .int 0 from congrArg Value.int (exI_lt q)]
        rw [upd_ne (by omega), upd_ne (by omega), upd_ne (by omega)]
      · obtain ⟨j, rfl⟩ : ∃ j, i = bf + j := ⟨i - bf, by omega⟩
        rw [show gv (exI g bf) (bf + j) = .int (bt g (j / 3) (j % 3)) from congrArg Value.int (exI_at j)]
        rcases (by omega : j = 0 ∨ j = 1 ∨ j = 2) with rfl | rfl | rfl
        · rw [upd_ne (by omega), upd_ne (by omega), upd_at (by omega)]; exact congrArg Value.int by0.1
        · rw [upd_ne (by omega), upd_at (by omega)]; exact congrArg Value.int by0.2.1
        · rw [upd_at (by omega)]; exact congrArg Value.int by0.2.2
    refine go_retA X13 hx (t := (.array .byte)) hret rfl hlk rfl (hb hby d2_172) ?_ (by decide) (by decide)
    try rw [e13]
    exact ⟨N13, eI ▸ K13, fun _ => ⟨b2, rfl, eI ▸ sz_b2, V14⟩, fun z => absurd ok0 z⟩
theorem ef_rmDc41 (m : MethodId) (x0 : Addr) (x1 : Int32) (x2 : Int32) (x3 : Int32) : entryFrame m #[(.ref x0), (.int x1), (.int x2), (.int x3)] 13 = mkF m 0 #[.val (.ref x0), .val (.int x1), .val (.int x2), .val (.int x3), .unset, .unset, .unset, .unset, .unset, .unset, .unset, .unset, .unset] [] := by first | (simp [entryFrame, mkF, argsToLocals, Value.category]; done) | rfl
theorem d2_48 : decode prog_9_method_2_code 48 = .ok (.iload 5, 2) := by decide +kernel
theorem d2_50 : decode prog_9_method_2_code 50 = .ok (.iconst 4, 1) := by decide +kernel
theorem d2_51 : decode prog_9_method_2_code 51 = .ok (.isub, 1) := by decide +kernel
theorem d2_173 : decode prog_9_method_2_code 173 = .ok (.iload 7, 2) := by decide +kernel
theorem d2_175 : decode prog_9_method_2_code 175 = .ok (.iconst 1, 1) := by decide +kernel
theorem d2_176 : decode prog_9_method_2_code 176 = .ok (.if_icmp .ne 15, 3) := by decide +kernel
theorem d2_179 : decode prog_9_method_2_code 179 = .ok (.aload_n 0, 1) := by decide +kernel
theorem d2_180 : decode prog_9_method_2_code 180 = .ok (.iload 8, 2) := by decide +kernel
theorem d2_182 : decode prog_9_method_2_code 182 = .ok (.iconst 2, 1) := by decide +kernel
theorem d2_183 : decode prog_9_method_2_code 183 = .ok (.iadd, 1) := by decide +kernel
theorem d2_184 : decode prog_9_method_2_code 184 = .ok (.caload, 1) := by decide +kernel
theorem d2_185 : decode prog_9_method_2_code 185 = .ok (.invokestatic 13, 3) := by decide +kernel
theorem d2_188 : decode prog_9_method_2_code 188 = .ok (.goto 4, 3) := by decide +kernel
theorem d2_192 : decode prog_9_method_2_code 192 = .ok (.istore 10, 2) := by decide +kernel
theorem d2_194 : decode prog_9_method_2_code 194 = .ok (.aload_n 0, 1) := by decide +kernel
theorem d2_195 : decode prog_9_method_2_code 195 = .ok (.iload 8, 2) := by decide +kernel
theorem d2_197 : decode prog_9_method_2_code 197 = .ok (.caload, 1) := by decide +kernel
theorem d2_198 : decode prog_9_method_2_code 198 = .ok (.invokestatic 13, 3) := by decide +kernel
theorem d2_201 : decode prog_9_method_2_code 201 = .ok (.bipush 18, 2) := by decide +kernel
theorem d2_203 : decode prog_9_method_2_code 203 = .ok (.ishl, 1) := by decide +kernel
theorem d2_204 : decode prog_9_method_2_code 204 = .ok (.aload_n 0, 1) := by decide +kernel
theorem d2_205 : decode prog_9_method_2_code 205 = .ok (.iload 8, 2) := by decide +kernel
theorem d2_207 : decode prog_9_method_2_code 207 = .ok (.iconst 1, 1) := by decide +kernel
theorem d2_208 : decode prog_9_method_2_code 208 = .ok (.iadd, 1) := by decide +kernel
theorem d2_209 : decode prog_9_method_2_code 209 = .ok (.caload, 1) := by decide +kernel
theorem d2_210 : decode prog_9_method_2_code 210 = .ok (.invokestatic 13, 3) := by decide +kernel
theorem d2_213 : decode prog_9_method_2_code 213 = .ok (.bipush 12, 2) := by decide +kernel
theorem d2_215 : decode prog_9_method_2_code 215 = .ok (.ishl, 1) := by decide +kernel
theorem d2_216 : decode prog_9_method_2_code 216 = .ok (.ior, 1) := by decide +kernel
theorem d2_217 : decode prog_9_method_2_code 217 = .ok (.iload 10, 2) := by decide +kernel
theorem d2_219 : decode prog_9_method_2_code 219 = .ok (.bipush 6, 2) := by decide +kernel
theorem d2_221 : decode prog_9_method_2_code 221 = .ok (.ishl, 1) := by decide +kernel
theorem d2_222 : decode prog_9_method_2_code 222 = .ok (.ior, 1) := by decide +kernel
theorem d2_223 : decode prog_9_method_2_code 223 = .ok (.istore 11, 2) := by decide +kernel
theorem d2_225 : decode prog_9_method_2_code 225 = .ok (.iload 7, 2) := by decide +kernel
theorem d2_227 : decode prog_9_method_2_code 227 = .ok (.iconst 1, 1) := by decide +kernel
theorem d2_228 : decode prog_9_method_2_code 228 = .ok (.if_icmp .ne 9, 3) := by decide +kernel
theorem d2_231 : decode prog_9_method_2_code 231 = .ok (.sipush 255, 3) := by decide +kernel
theorem d2_234 : decode prog_9_method_2_code 234 = .ok (.goto 5, 3) := by decide +kernel
theorem d2_239 : decode prog_9_method_2_code 239 = .ok (.istore 12, 2) := by decide +kernel
theorem d2_241 : decode prog_9_method_2_code 241 = .ok (.iload 11, 2) := by decide +kernel
theorem d2_243 : decode prog_9_method_2_code 243 = .ok (.ifCond .lt 11, 3) := by decide +kernel
theorem d2_254 : decode prog_9_method_2_code 254 = .ok (.aconst_null, 1) := by decide +kernel
theorem d2_255 : decode prog_9_method_2_code 255 = .ok (.areturn, 1) := by decide +kernel
theorem d2_246 : decode prog_9_method_2_code 246 = .ok (.iload 11, 2) := by decide +kernel
theorem d2_248 : decode prog_9_method_2_code 248 = .ok (.iload 12, 2) := by decide +kernel
theorem d2_250 : decode prog_9_method_2_code 250 = .ok (.iand, 1) := by decide +kernel
theorem d2_251 : decode prog_9_method_2_code 251 = .ok (.ifCond .eq 5, 3) := by decide +kernel
theorem d2_256 : decode prog_9_method_2_code 256 = .ok (.aload 6, 2) := by decide +kernel
theorem d2_258 : decode prog_9_method_2_code 258 = .ok (.iload 9, 2) := by decide +kernel
theorem d2_260 : decode prog_9_method_2_code 260 = .ok (.iload 11, 2) := by decide +kernel
theorem d2_262 : decode prog_9_method_2_code 262 = .ok (.bipush 16, 2) := by decide +kernel
theorem d2_264 : decode prog_9_method_2_code 264 = .ok (.ishr, 1) := by decide +kernel
theorem d2_265 : decode prog_9_method_2_code 265 = .ok (.i2b, 1) := by decide +kernel
theorem d2_266 : decode prog_9_method_2_code 266 = .ok (.bastore, 1) := by decide +kernel
theorem d2_267 : decode prog_9_method_2_code 267 = .ok (.iload 7, 2) := by decide +kernel
theorem d2_269 : decode prog_9_method_2_code 269 = .ok (.iconst 1, 1) := by decide +kernel
theorem d2_270 : decode prog_9_method_2_code 270 = .ok (.if_icmp .ne 16, 3) := by decide +kernel
theorem d2_273 : decode prog_9_method_2_code 273 = .ok (.aload 6, 2) := by decide +kernel
theorem d2_275 : decode prog_9_method_2_code 275 = .ok (.iload 9, 2) := by decide +kernel
theorem d2_277 : decode prog_9_method_2_code 277 = .ok (.iconst 1, 1) := by decide +kernel
theorem d2_278 : decode prog_9_method_2_code 278 = .ok (.iadd, 1) := by decide +kernel
theorem d2_279 : decode prog_9_method_2_code 279 = .ok (.iload 11, 2) := by decide +kernel
theorem d2_281 : decode prog_9_method_2_code 281 = .ok (.bipush 8, 2) := by decide +kernel
theorem d2_283 : decode prog_9_method_2_code 283 = .ok (.ishr, 1) := by decide +kernel
theorem d2_284 : decode prog_9_method_2_code 284 = .ok (.i2b, 1) := by decide +kernel
theorem d2_285 : decode prog_9_method_2_code 285 = .ok (.bastore, 1) := by decide +kernel
theorem d2_286 : decode prog_9_method_2_code 286 = .ok (.aload 6, 2) := by decide +kernel
theorem d2_288 : decode prog_9_method_2_code 288 = .ok (.areturn, 1) := by decide +kernel
set_option maxRecDepth 65536 in
set_option maxHeartbeats 40000000 in
theorem rmDc41 (l : Launch) (Z : State) (a0 : Array Value) (hw : ∀ d ∈ tables_1, d.before a0 Z = true) (ws : List Jvm.Cond) (tx va : Addr) (off bf : Nat) (g : Nat → Int32) (F : Nat → Value) (h0 : Heap) (n0 : Nat) (Z0 : n0 ≤ h0.size) (ho : off ≤ 3) (hbf : bf ≤ 3) (hF : ∀ i, i < 8 → F (off + i) = .int (g i)) (hg : CH g) (hp1 : g 3 = 61) (hp2 : ¬ g 2 = 61) (SV : Sta Z h0 "com/example/sharks/sharks/StandardBase64" "VALUES" "[B" (.ref va)) (V_va : AV Z h0 va .byte 128 vt) (V_tx : AV Z h0 tx .char 12 F) :
    Ctr l Z (⟨"com/example/sharks/sharks/StandardBase64", "decode", "([CIII)[B"⟩ : MethodName) prog_9_method_2_code 13 (some (.array .byte)) ws ({ frames := 1, cells := 1, slots := 9, locals := 16 } : Room) 1 9 #[(.ref tx), (.int (Int32.ofNat off)), (.int (4 : Int32)), (.int (Int32.ofNat bf))] h0 (fun v h L => Fr n0 L ∧ Keep h0 h [] ∧ ((OK1 g 0) → ∃ b, v = some (.ref b) ∧ h0.size ≤ b ∧ AV Z h b .byte (bf + 2) (gv (exI g bf))) ∧ (¬ (OK1 g 0) → v = some .null)) := by
  refine Ctr.mk (plainFor_of_name pn_1) fun p e s m below meth c T0 X0 C e0 => go_cast (ef_rmDc41 m tx (Int32.ofNat off) (4 : Int32) (Int32.ofNat bf)) ?_
  have N0 := Fr.nil n0
  obtain ⟨hx, hZ, hby, hml, hown, hnm, hret, hlk⟩ := C
  obtain ⟨hI, eI⟩ : ∃ z, z = h0 := ⟨_, rfl⟩
  have K0 : Keep hI h0 [] := by rw [eI]; exact Keep.refl _ _
  show Go _ _ _ _ _ _ _ T0 (mkF m 0 #[.val (.ref tx), .val (.int (Int32.ofNat off)), .val (.int (4 : Int32)), .val (.int (Int32.ofNat bf)), .unset, .unset, .unset, .unset, .unset, .unset, .unset, .unset, .unset] [])
  refine Go.step (fun tt kk => XS.aloadN X0.here hx rfl (hb hby d2_0) rfl rfl kk) ?_
  show Go _ _ _ _ _ _ _ T0 (mkF m 1 _ [(.ref tx)])
  refine Go.step (fun tt kk => XS.iloadN X0.here hx rfl (hb hby d2_1) rfl kk) ?_
  show Go _ _ _ _ _ _ _ T0 (mkF m 2 _ [(.int (Int32.ofNat off)), (.ref tx)])
  refine Go.step (fun tt kk => XS.iloadN X0.here hx rfl (hb hby d2_2) rfl kk) ?_
  show Go _ _ _ _ _ _ _ T0 (mkF m 3 _ [(.int (4 : Int32)), (.int (Int32.ofNat off)), (.ref tx)])
  obtain ⟨v1, T1, L1, X1, q1, st1⟩ := c_static X0 hx hZ hown (y := (⟨"com/example/sharks/sharks/StandardBase64", "decodedLength", "([CII)I"⟩ : MethodName)) (hw _ (List.mem_of_getElem? (i := 11) rfl)) (hw _ (List.mem_of_getElem? (i := 12) rfl)) (hw _ (List.mem_of_getElem? (i := 9) rfl)) (hw _ (List.mem_of_getElem? (i := 13) rfl)) (by decide) (argsL := [(.ref tx), (.int (Int32.ofNat off)), (.int (4 : Int32))]) (rest := []) (rmD l Z a0 hw [] tx off 4 (g 3) (g 2) F h0 n0 Z0 ho (by decide) V_tx (hF 3 (by decide)) (hF 2 (by decide))) e0 pd_0 rfl (by rw [hml]; rfl) (W := 0) (by show 2 * 0 + _ ≤ _; exact Nat.le_of_eq rfl) (by decide) (by decide) (by decide) (by decide) (hb hby d2_3) (Ls := #[.val (.ref tx), .val (.int (Int32.ofNat off)), .val (.int (4 : Int32)), .val (.int (Int32.ofNat bf)), .unset, .unset, .unset, .unset, .unset, .unset, .unset, .unset, .unset])
  obtain ⟨rfl, rfl, e1⟩ := q1
  have N1 := Fr.app N0 (Fr.nil n0)
  refine Go.step (st1) ?_
  show Go _ _ _ _ _ _ _ T1 (mkF m 6 _ [(.int (dl 4 (g 3) (g 2)))])
  rw [show dl 4 (g 3) (g 2) = (2 : Int32) from by unfold dl; rw [if_pos hp1, if_neg hp2]; decide]
  show Go _ _ _ _ _ _ _ T1 (mkF m 6 #[.val (.ref tx), .val (.int (Int32.ofNat off)), .val (.int (4 : Int32)), .val (.int (Int32.ofNat bf)), .unset, .unset, .unset, .unset, .unset, .unset, .unset, .unset, .unset] [(.int (2 : Int32))])
  refine Go.step (fun tt kk => XS.istore X1.here hx rfl (hb hby d2_6) rfl (l' := #[.val (.ref tx), .val (.int (Int32.ofNat off)), .val (.int (4 : Int32)), .val (.int (Int32.ofNat bf)), .val (.int (2 : Int32)), .unset, .unset, .unset, .unset, .unset, .unset, .unset, .unset]) rfl kk) ?_
  show Go _ _ _ _ _ _ _ T1 (mkF m 8 _ [])
  refine Go.step (fun tt kk => XS.iload X1.here hx rfl (hb hby d2_8) rfl kk) ?_
  show Go _ _ _ _ _ _ _ T1 (mkF m 10 _ [(.int (2 : Int32))])
  refine Go.step (fun tt kk => XS.ifYes X1.here hx rfl (pc0 := 10) (pc' := 15) rfl (hb hby d2_10) rfl ((if0 _ _).trans (flt (by decide)).2.1) (by decide) (by decide) kk) ?_
  show Go _ _ _ _ _ _ _ T1 (mkF m 15 _ [])
  refine Go.step (fun tt kk => XS.iloadN X1.here hx rfl (hb hby d2_15) rfl kk) ?_
  show Go _ _ _ _ _ _ _ T1 (mkF m 16 _ [(.int (Int32.ofNat off))])
  refine Go.step (fun tt kk => XS.iloadN X1.here hx rfl (hb hby d2_16) rfl kk) ?_
  show Go _ _ _ _ _ _ _ T1 (mkF m 17 _ [(.int (4 : Int32)), (.int (Int32.ofNat off))])
  refine Go.step (fun tt kk => XS.iadd X1.here hx rfl (hb hby d2_17) rfl kk) ?_
  show Go _ _ _ _ _ _ _ T1 (mkF m 18 _ [(.int ((Int32.ofNat off) + (4 : Int32)))])
  rw [show Int32.ofNat off + (4 : Int32) = Int32.ofNat (off + 4) from own_add off 4]
  show Go _ _ _ _ _ _ _ T1 (mkF m 18 #[.val (.ref tx), .val (.int (Int32.ofNat off)), .val (.int (4 : Int32)), .val (.int (Int32.ofNat bf)), .val (.int (2 : Int32)), .unset, .unset, .unset, .unset, .unset, .unset, .unset, .unset] [(.int (Int32.ofNat (off + 4)))])
  refine Go.step (fun tt kk => XS.istore X1.here hx rfl (hb hby d2_18) rfl (l' := #[.val (.ref tx), .val (.int (Int32.ofNat off)), .val (.int (4 : Int32)), .val (.int (Int32.ofNat bf)), .val (.int (2 : Int32)), .val (.int (Int32.ofNat (off + 4))), .unset, .unset, .unset, .unset, .unset, .unset, .unset]) rfl kk) ?_
  show Go _ _ _ _ _ _ _ T1 (mkF m 20 _ [])
  refine Go.step (fun tt kk => XS.iloadN X1.here hx rfl (hb hby d2_20) rfl kk) ?_
  show Go _ _ _ _ _ _ _ T1 (mkF m 21 _ [(.int (Int32.ofNat bf))])
  refine Go.step (fun tt kk => XS.iload X1.here hx rfl (hb hby d2_21) rfl kk) ?_
  show Go _ _ _ _ _ _ _ T1 (mkF m 23 _ [(.int (2 : Int32)), (.int (Int32.ofNat bf))])
  refine Go.step (fun tt kk => XS.iadd X1.here hx rfl (hb hby d2_23) rfl kk) ?_
  show Go _ _ _ _ _ _ _ T1 (mkF m 24 _ [(.int ((Int32.ofNat bf) + (2 : Int32)))])
  rw [show Int32.ofNat bf + (2 : Int32) = Int32.ofNat (bf + 2) from own_add bf 2]
  show Go _ _ _ _ _ _ _ T1 (mkF m 24 #[.val (.ref tx), .val (.int (Int32.ofNat off)), .val (.int (4 : Int32)), .val (.int (Int32.ofNat bf)), .val (.int (2 : Int32)), .val (.int (Int32.ofNat (off + 4))), .unset, .unset, .unset, .unset, .unset, .unset, .unset] [(.int (Int32.ofNat (bf + 2)))])
  obtain ⟨T2, h2, k2, X2, e2, E2, A2, EA2, st2⟩ := newPE X1 hx hZ (hw _ (List.mem_of_getElem? (i := 20) rfl)) e1 (g := (mkF m 24 #[.val (.ref tx), .val (.int (Int32.ofNat off)), .val (.int (4 : Int32)), .val (.int (Int32.ofNat bf)), .val (.int (2 : Int32)), .val (.int (Int32.ofNat (off + 4))), .unset, .unset, .unset, .unset, .unset, .unset, .unset] [(.int (Int32.ofNat (bf + 2)))])) rfl (hb hby d2_24) rfl (own_nn (bf + 2) (by omega)) (cap := 9) (by rw [clamp_of (k := bf + 2) (Int32.toInt_ofNat_of_lt (by omega))]; omega) (by decide) (by decide) (by decide) (ad := "[B") rfl
  obtain ⟨b2, g2⟩ : ∃ z, z = h0.size := ⟨_, rfl⟩
  rw [← g2] at A2 EA2 st2
  have ne_tx_b2 : tx ≠ b2 := Nat.ne_of_lt (Nat.lt_of_lt_of_le V_tx.lt (Nat.le_of_eq g2.symm))
  have ne_va_b2 : va ≠ b2 := Nat.ne_of_lt (Nat.lt_of_lt_of_le V_va.lt (Nat.le_of_eq g2.symm))
  have gn_b2 : n0 ≤ b2 := Nat.le_trans Z0 (Nat.le_of_eq g2.symm)
  have sz_b2 : hI.size ≤ b2 := Nat.le_trans K0.1 (Nat.le_of_eq g2.symm)
  have Z2 : n0 ≤ h2.size := Nat.le_trans Z0 E2.1
  have K2 : Keep hI h2 [] := K0.ext E2
  have V2 : AV Z h2 b2 .byte (bf + 2) (fun _ => (.int (0 : Int32))) := AV.new A2 (Int32.toInt_ofNat_of_lt (by omega))
  refine Go.step (st2) ?_
  show Go _ _ _ _ _ _ _ T2 (mkF m 26 _ [(.ref b2)])
  refine Go.step (fun tt kk => XS.astore X2.here hx rfl (hb hby d2_26) rfl rfl (l' := #[.val (.ref tx), .val (.int (Int32.ofNat off)), .val (.int (4 : Int32)), .val (.int (Int32.ofNat bf)), .val (.int (2 : Int32)), .val (.int (Int32.ofNat (off + 4))), .val (.ref b2), .unset, .unset, .unset, .unset, .unset, .unset]) rfl kk) ?_
  show Go _ _ _ _ _ _ _ T2 (mkF m 28 _ [])
  refine Go.step (fun tt kk => XS.iloadN X2.here hx rfl (hb hby d2_28) rfl kk) ?_
  show Go _ _ _ _ _ _ _ T2 (mkF m 29 _ [(.int (4 : Int32))])
  refine Go.step (fun tt kk => XS.iconst X2.here hx rfl (hb hby d2_29) kk) ?_
  show Go _ _ _ _ _ _ _ T2 (mkF m 30 _ [(.int (4 : Int32)), (.int (4 : Int32))])
  refine Go.step (fun tt kk => XS.idiv X2.here hx rfl (hb hby d2_30) rfl (by decide) kk) ?_
  show Go _ _ _ _ _ _ _ T2 (mkF m 31 _ [(.int ((4 : Int32) / (4 : Int32)))])
  refine Go.step (fun tt kk => XS.iconst X2.here hx rfl (hb hby d2_31) kk) ?_
  show Go _ _ _ _ _ _ _ T2 (mkF m 32 _ [(.int (3 : Int32)), (.int ((4 : Int32) / (4 : Int32)))])
  refine Go.step (fun tt kk => XS.imul X2.here hx rfl (hb hby d2_32) rfl kk) ?_
  show Go _ _ _ _ _ _ _ T2 (mkF m 33 _ [(.int (((4 : Int32) / (4 : Int32)) * (3 : Int32)))])
  refine Go.step (fun tt kk => XS.iload X2.here hx rfl (hb hby d2_33) rfl kk) ?_
  show Go _ _ _ _ _ _ _ T2 (mkF m 35 _ [(.int (2 : Int32)), (.int (((4 : Int32) / (4 : Int32)) * (3 : Int32)))])
  refine Go.step (fun tt kk => XS.isub X2.here hx rfl (hb hby d2_35) rfl kk) ?_
  show Go _ _ _ _ _ _ _ T2 (mkF m 36 _ [(.int ((((4 : Int32) / (4 : Int32)) * (3 : Int32)) - (2 : Int32)))])
  rw [show ((((4 : Int32) / (4 : Int32)) * (3 : Int32)) - (2 : Int32)) = (1 : Int32) by decide]
  show Go _ _ _ _ _ _ _ T2 (mkF m 36 #[.val (.ref tx), .val (.int (Int32.ofNat off)), .val (.int (4 : Int32)), .val (.int (Int32.ofNat bf)), .val (.int (2 : Int32)), .val (.int (Int32.ofNat (off + 4))), .val (.ref b2), .unset, .unset, .unset, .unset, .unset, .unset] [(.int (1 : Int32))])
  refine Go.step (fun tt kk => XS.istore X2.here hx rfl (hb hby d2_36) rfl (l' := #[.val (.ref tx), .val (.int (Int32.ofNat off)), .val (.int (4 : Int32)), .val (.int (Int32.ofNat bf)), .val (.int (2 : Int32)), .val (.int (Int32.ofNat (off + 4))), .val (.ref b2), .val (.int (1 : Int32)), .unset, .unset, .unset, .unset, .unset]) rfl kk) ?_
  show Go _ _ _ _ _ _ _ T2 (mkF m 38 _ [])
  refine Go.step (fun tt kk => XS.iload X2.here hx rfl (hb hby d2_38) rfl kk) ?_
  show Go _ _ _ _ _ _ _ T2 (mkF m 40 _ [(.int (1 : Int32))])
  refine Go.step (fun tt kk => XS.ifYes X2.here hx rfl (pc0 := 40) (pc' := 48) rfl (hb hby d2_40) rfl ((if0 _ _).trans (feq (by decide)).2) (by decide) (by decide) kk) ?_
  show Go _ _ _ _ _ _ _ T2 (mkF m 48 _ [])
  refine Go.step (fun tt kk => XS.iload X2.here hx rfl (hb hby d2_48) rfl kk) ?_
  show Go _ _ _ _ _ _ _ T2 (mkF m 50 _ [(.int (Int32.ofNat (off + 4)))])
  refine Go.step (fun tt kk => XS.iconst X2.here hx rfl (hb hby d2_50) kk) ?_
  show Go _ _ _ _ _ _ _ T2 (mkF m 51 _ [(.int (4 : Int32)), (.int (Int32.ofNat (off + 4)))])
  refine Go.step (fun tt kk => XS.isub X2.here hx rfl (hb hby d2_51) rfl kk) ?_
  show Go _ _ _ _ _ _ _ T2 (mkF m 52 _ [(.int ((Int32.ofNat (off + 4)) - (4 : Int32)))])
  rw [show Int32.ofNat (off + 4) - (4 : Int32) = Int32.ofNat (off + 0) from (own_sub (off + 4) 4 (by omega) (by omega)).trans (congrArg Int32.ofNat (by omega))]
  show Go _ _ _ _ _ _ _ T2 (mkF m 52 #[.val (.ref tx), .val (.int (Int32.ofNat off)), .val (.int (4 : Int32)), .val (.int (Int32.ofNat bf)), .val (.int (2 : Int32)), .val (.int (Int32.ofNat (off + 4))), .val (.ref b2), .val (.int (1 : Int32)), .unset, .unset, .unset, .unset, .unset] [(.int (Int32.ofNat (off + 0)))])
  refine Go.step (fun tt kk => XS.istore X2.here hx rfl (hb hby d2_52) rfl (l' := #[.val (.ref tx), .val (.int (Int32.ofNat off)), .val (.int (4 : Int32)), .val (.int (Int32.ofNat bf)), .val (.int (2 : Int32)), .val (.int (Int32.ofNat (off + 4))), .val (.ref b2), .val (.int (1 : Int32)), .val (.int (Int32.ofNat (off + 0))), .unset, .unset, .unset, .unset]) rfl kk) ?_
  show Go _ _ _ _ _ _ _ T2 (mkF m 54 _ [])
  refine Go.step (fun tt kk => XS.iloadN X2.here hx rfl (hb hby d2_54) rfl kk) ?_
  show Go _ _ _ _ _ _ _ T2 (mkF m 55 _ [(.int (Int32.ofNat bf))])
  refine Go.step (fun tt kk => XS.istore X2.here hx rfl (hb hby d2_55) rfl (l' := #[.val (.ref tx), .val (.int (Int32.ofNat off)), .val (.int (4 : Int32)), .val (.int (Int32.ofNat bf)), .val (.int (2 : Int32)), .val (.int (Int32.ofNat (off + 4))), .val (.ref b2), .val (.int (1 : Int32)), .val (.int (Int32.ofNat (off + 0))), .val (.int (Int32.ofNat bf)), .unset, .unset, .unset]) rfl kk) ?_
  show Go _ _ _ _ _ _ _ T2 (mkF m 57 _ [])
  refine Go.step (fun tt kk => XS.iloadN X2.here hx rfl (hb hby d2_57) rfl kk) ?_
  show Go _ _ _ _ _ _ _ T2 (mkF m 58 _ [(.int (Int32.ofNat off))])
  refine Go.step (fun tt kk => XS.istore X2.here hx rfl (hb hby d2_58) rfl (l' := #[.val (.ref tx), .val (.int (Int32.ofNat off)), .val (.int (4 : Int32)), .val (.int (Int32.ofNat bf)), .val (.int (2 : Int32)), .val (.int (Int32.ofNat (off + 4))), .val (.ref b2), .val (.int (1 : Int32)), .val (.int (Int32.ofNat (off + 0))), .val (.int (Int32.ofNat bf)), .val (.int (Int32.ofNat off)), .unset, .unset]) rfl kk) ?_
  show Go _ _ _ _ _ _ _ T2 (mkF m 60 _ [])
  show Go _ _ _ _ _ _ _ T2 (mkF m 60 #[.val (.ref tx), .val (.int (Int32.ofNat off)), .val (.int (4 : Int32)), .val (.int (Int32.ofNat bf)), .val (.int (2 : Int32)), .val (.int (Int32.ofNat (off + 4))), .val (.ref b2), .val (.int (1 : Int32)), .val (.int (Int32.ofNat (off + 0))), .val (.int (Int32.ofNat (bf + 0))), .val (.int (Int32.ofNat (off + 0))), .unset, .unset] [])
  refine Go.step (fun tt kk => XS.iload X2.here hx rfl (hb hby d2_60) rfl kk) ?_
  show Go _ _ _ _ _ _ _ T2 (mkF m 62 _ [(.int (Int32.ofNat (off + 0)))])
  refine Go.step (fun tt kk => XS.iload X2.here hx rfl (hb hby d2_62) rfl kk) ?_
  show Go _ _ _ _ _ _ _ T2 (mkF m 64 _ [(.int (Int32.ofNat (off + 0))), (.int (Int32.ofNat (off + 0)))])
  refine Go.step (fun tt kk => XS.icmpYes X2.here hx rfl (pc0 := 64) (pc' := 165) rfl (hb hby d2_64) rfl (flt (mt (own_lt _ _ (by omega) (by omega)).mp (by omega))).2.1 (by decide) (by decide) kk) ?_
  show Go _ _ _ _ _ _ _ T2 (mkF m 165 _ [])
  refine Go.step (fun tt kk => XS.iload X2.here hx rfl (hb hby d2_165) rfl kk) ?_
  show Go _ _ _ _ _ _ _ T2 (mkF m 167 _ [(.int (1 : Int32))])
  refine Go.step (fun tt kk => XS.ifYes X2.here hx rfl (pc0 := 167) (pc' := 173) rfl (hb hby d2_167) rfl ((if0 _ _).trans (feq (by decide)).2) (by decide) (by decide) kk) ?_
  show Go _ _ _ _ _ _ _ T2 (mkF m 173 _ [])
  refine Go.step (fun tt kk => XS.iload X2.here hx rfl (hb hby d2_173) rfl kk) ?_
  show Go _ _ _ _ _ _ _ T2 (mkF m 175 _ [(.int (1 : Int32))])
  refine Go.step (fun tt kk => XS.iconst X2.here hx rfl (hb hby d2_175) kk) ?_
  show Go _ _ _ _ _ _ _ T2 (mkF m 176 _ [(.int (1 : Int32)), (.int (1 : Int32))])
  refine Go.step (fun tt kk => XS.icmpNo X2.here hx rfl (hb hby d2_176) rfl (teq (by decide)).2 kk) ?_
  show Go _ _ _ _ _ _ _ T2 (mkF m 179 _ [])
  refine Go.step (fun tt kk => XS.aloadN X2.here hx rfl (hb hby d2_179) rfl rfl kk) ?_
  show Go _ _ _ _ _ _ _ T2 (mkF m 180 _ [(.ref tx)])
  refine Go.step (fun tt kk => XS.iload X2.here hx rfl (hb hby d2_180) rfl kk) ?_
  show Go _ _ _ _ _ _ _ T2 (mkF m 182 _ [(.int (Int32.ofNat (off + 0))), (.ref tx)])
  refine Go.step (fun tt kk => XS.iconst X2.here hx rfl (hb hby d2_182) kk) ?_
  show Go _ _ _ _ _ _ _ T2 (mkF m 183 _ [(.int (2 : Int32)), (.int (Int32.ofNat (off + 0))), (.ref tx)])
  refine Go.step (fun tt kk => XS.iadd X2.here hx rfl (hb hby d2_183) rfl kk) ?_
  show Go _ _ _ _ _ _ _ T2 (mkF m 184 _ [(.int ((Int32.ofNat (off + 0)) + (2 : Int32))), (.ref tx)])
  rw [show Int32.ofNat (off + 0) + (2 : Int32) = Int32.ofNat (off + 2) from own_add (off + 0) 2]
  show Go _ _ _ _ _ _ _ T2 (mkF m 184 #[.val (.ref tx), .val (.int (Int32.ofNat off)), .val (.int (4 : Int32)), .val (.int (Int32.ofNat bf)), .val (.int (2 : Int32)), .val (.int (Int32.ofNat (off + 4))), .val (.ref b2), .val (.int (1 : Int32)), .val (.int (Int32.ofNat (off + 0))), .val (.int (Int32.ofNat (bf + 0))), .val (.int (Int32.ofNat (off + 0))), .unset, .unset] [(.int (Int32.ofNat (off + 2))), (.ref tx)])
  have f3 := (V_tx.ext E2)
  refine Go.step (a_cload X2 hx hZ e2 f3 (k := (off + 2)) (Int32.toInt_ofNat_of_lt (by omega)) (by omega) (x := (g 2)) (hF 2 (by decide)) (hb hby d2_184)) ?_
  show Go _ _ _ _ _ _ _ T2 (mkF m 185 _ [(.int (g 2))])
  have f5 := (Sta.ext E2 SV)
  have f6 := (V_va.ext E2)
  obtain ⟨v4, T4, L4, X4, q4, st4⟩ := c_static X2 hx hZ hown (y := (⟨"com/example/sharks/sharks/StandardBase64", "value", "(C)I"⟩ : MethodName)) (hw _ (List.mem_of_getElem? (i := 24) rfl)) (hw _ (List.mem_of_getElem? (i := 25) rfl)) (hw _ (List.mem_of_getElem? (i := 9) rfl)) (hw _ (List.mem_of_getElem? (i := 26) rfl)) (by decide) (argsL := [(.int (g 2))]) (rest := []) (rmVa l Z a0 hw [] va (g 2) h2 n0 Z2 (char_nn (hg 2 (by decide))).1 f5 f6) e2 pd_1 rfl (by rw [hml]; rfl) (W := 0) (by show 2 * 0 + _ ≤ _; exact Nat.le_of_eq rfl) (by decide) (by decide) (by decide) (by decide) (hb hby d2_185) (Ls := #[.val (.ref tx), .val (.int (Int32.ofNat off)), .val (.int (4 : Int32)), .val (.int (Int32.ofNat bf)), .val (.int (2 : Int32)), .val (.int (Int32.ofNat (off + 4))), .val (.ref b2), .val (.int (1 : Int32)), .val (.int (Int32.ofNat (off + 0))), .val (.int (Int32.ofNat (bf + 0))), .val (.int (Int32.ofNat (off + 0))), .unset, .unset])
  obtain ⟨rfl, rfl, e4⟩ := q4
  have N4 := Fr.app N1 (Fr.nil n0)
  refine Go.step (st4) ?_
  show Go _ _ _ _ _ _ _ T4 (mkF m 188 _ [(.int (vl (g 2)))])
  refine Go.step (fun tt kk => XS.goto X4.here hx rfl (pc0 := 188) (pc' := 192) rfl (hb hby d2_188) (by decide) (by decide) kk) ?_
  show Go _ _ _ _ _ _ _ T4 (mkF m 192 _ [(.int (vl (g 2)))])
  refine Go.step (fun tt kk => XS.istore X4.here hx rfl (hb hby d2_192) rfl (l' := #[.val (.ref tx), .val (.int (Int32.ofNat off)), .val (.int (4 : Int32)), .val (.int (Int32.ofNat bf)), .val (.int (2 : Int32)), .val (.int (Int32.ofNat (off + 4))), .val (.ref b2), .val (.int (1 : Int32)), .val (.int (Int32.ofNat (off + 0))), .val (.int (Int32.ofNat (bf + 0))), .val (.int (vl (g 2))), .unset, .unset]) rfl kk) ?_
  show Go _ _ _ _ _ _ _ T4 (mkF m 194 _ [])
  refine Go.step (fun tt kk => XS.aloadN X4.here hx rfl (hb hby d2_194) rfl rfl kk) ?_
  show Go _ _ _ _ _ _ _ T4 (mkF m 195 _ [(.ref tx)])
  refine Go.step (fun tt kk => XS.iload X4.here hx rfl (hb hby d2_195) rfl kk) ?_
  show Go _ _ _ _ _ _ _ T4 (mkF m 197 _ [(.int (Int32.ofNat (off + 0))), (.ref tx)])
  refine Go.step (a_cload X4 hx hZ e4 f3 (k := (off + 0)) (Int32.toInt_ofNat_of_lt (by omega)) (by omega) (x := (g 0)) (hF 0 (by decide)) (hb hby d2_197)) ?_
  show Go _ _ _ _ _ _ _ T4 (mkF m 198 _ [(.int (g 0))])
  obtain ⟨v7, T7, L7, X7, q7, st7⟩ := c_static X4 hx hZ hown (y := (⟨"com/example/sharks/sharks/StandardBase64", "value", "(C)I"⟩ : MethodName)) (hw _ (List.mem_of_getElem? (i := 24) rfl)) (hw _ (List.mem_of_getElem? (i := 25) rfl)) (hw _ (List.mem_of_getElem? (i := 9) rfl)) (hw _ (List.mem_of_getElem? (i := 26) rfl)) (by decide) (argsL := [(.int (g 0))]) (rest := []) (rmVa l Z a0 hw [] va (g 0) h2 n0 Z2 (char_nn (hg 0 (by decide))).1 f5 f6) e4 pd_1 rfl (by rw [hml]; rfl) (W := 0) (by show 2 * 0 + _ ≤ _; exact Nat.le_of_eq rfl) (by decide) (by decide) (by decide) (by decide) (hb hby d2_198) (Ls := #[.val (.ref tx), .val (.int (Int32.ofNat off)), .val (.int (4 : Int32)), .val (.int (Int32.ofNat bf)), .val (.int (2 : Int32)), .val (.int (Int32.ofNat (off + 4))), .val (.ref b2), .val (.int (1 : Int32)), .val (.int (Int32.ofNat (off + 0))), .val (.int (Int32.ofNat (bf + 0))), .val (.int (vl (g 2))), .unset, .unset])
  obtain ⟨rfl, rfl, e7⟩ := q7
  have N7 := Fr.app N4 (Fr.nil n0)
  refine Go.step (st7) ?_
  show Go _ _ _ _ _ _ _ T7 (mkF m 201 _ [(.int (vl (g 0)))])
  refine Go.step (fun tt kk => XS.bipush X7.here hx rfl (hb hby d2_201) kk) ?_
  show Go _ _ _ _ _ _ _ T7 (mkF m 203 _ [(.int (18 : Int32)), (.int (vl (g 0)))])
  refine Go.step (fun tt kk => XS.ishl X7.here hx rfl (hb hby d2_203) rfl kk) ?_
  show Go _ _ _ _ _ _ _ T7 (mkF m 204 _ [(.int ((vl (g 0)) <<< ((18 : Int32) &&& 31)))])
  refine Go.step (fun tt kk => XS.aloadN X7.here hx rfl (hb hby d2_204) rfl rfl kk) ?_
  show Go _ _ _ _ _ _ _ T7 (mkF m 205 _ [(.ref tx), (.int ((vl (g 0)) <<< ((18 : Int32) &&& 31)))])
  refine Go.step (fun tt kk => XS.iload X7.here hx rfl (hb hby d2_205) rfl kk) ?_
  show Go _ _ _ _ _ _ _ T7 (mkF m 207 _ [(.int (Int32.ofNat (off + 0))), (.ref tx), (.int ((vl (g 0)) <<< ((18 : Int32) &&& 31)))])
  refine Go.step (fun tt kk => XS.iconst X7.here hx rfl (hb hby d2_207) kk) ?_
  show Go _ _ _ _ _ _ _ T7 (mkF m 208 _ [(.int (1 : Int32)), (.int (Int32.ofNat (off + 0))), (.ref tx), (.int ((vl (g 0)) <<< ((18 : Int32) &&& 31)))])
  refine Go.step (fun tt kk => XS.iadd X7.here hx rfl (hb hby d2_208) rfl kk) ?_
  show Go _ _ _ _ _ _ _ T7 (mkF m 209 _ [(.int ((Int32.ofNat (off + 0)) + (1 : Int32))), (.ref tx), (.int ((vl (g 0)) <<< ((18 : Int32) &&& 31)))])
  rw [show Int32.ofNat (off + 0) + (1 : Int32) = Int32.ofNat (off + 1) from own_add (off + 0) 1]
  show Go _ _ _ _ _ _ _ T7 (mkF m 209 #[.val (.ref tx), .val (.int (Int32.ofNat off)), .val (.int (4 : Int32)), .val (.int (Int32.ofNat bf)), .val (.int (2 : Int32)), .val (.int (Int32.ofNat (off + 4))), .val (.ref b2), .val (.int (1 : Int32)), .val (.int (Int32.ofNat (off + 0))), .val (.int (Int32.ofNat (bf + 0))), .val (.int (vl (g 2))), .unset, .unset] [(.int (Int32.ofNat (off + 1))), (.ref tx), (.int ((vl (g 0)) <<< ((18 : Int32) &&& 31)))])
  refine Go.step (a_cload X7 hx hZ e7 f3 (k := (off + 1)) (Int32.toInt_ofNat_of_lt (by omega)) (by omega) (x := (g 1)) (hF 1 (by decide)) (hb hby d2_209)) ?_
  show Go _ _ _ _ _ _ _ T7 (mkF m 210 _ [(.int (g 1)), (.int ((vl (g 0)) <<< ((18 : Int32) &&& 31)))])
  obtain ⟨v8, T8, L8, X8, q8, st8⟩ := c_static X7 hx hZ hown (y := (⟨"com/example/sharks/sharks/StandardBase64", "value", "(C)I"⟩ : MethodName)) (hw _ (List.mem_of_getElem? (i := 24) rfl)) (hw _ (List.mem_of_getElem? (i := 25) rfl)) (hw _ (List.mem_of_getElem? (i := 9) rfl)) (hw _ (List.mem_of_getElem? (i := 26) rfl)) (by decide) (argsL := [(.int (g 1))]) (rest := [(.int ((vl (g 0)) <<< ((18 : Int32) &&& 31)))]) (rmVa l Z a0 hw [] va (g 1) h2 n0 Z2 (char_nn (hg 1 (by decide))).1 f5 f6) e7 pd_1 rfl (by rw [hml]; rfl) (W := 1) (by show 2 * 0 + _ ≤ _; exact Nat.le_of_eq rfl) (by decide) (by decide) (by decide) (by decide) (hb hby d2_210) (Ls := #[.val (.ref tx), .val (.int (Int32.ofNat off)), .val (.int (4 : Int32)), .val (.int (Int32.ofNat bf)), .val (.int (2 : Int32)), .val (.int (Int32.ofNat (off + 4))), .val (.ref b2), .val (.int (1 : Int32)), .val (.int (Int32.ofNat (off + 0))), .val (.int (Int32.ofNat (bf + 0))), .val (.int (vl (g 2))), .unset, .unset])
  obtain ⟨rfl, rfl, e8⟩ := q8
  have N8 := Fr.app N7 (Fr.nil n0)
  refine Go.step (st8) ?_
  show Go _ _ _ _ _ _ _ T8 (mkF m 213 _ [(.int (vl (g 1))), (.int ((vl (g 0)) <<< ((18 : Int32) &&& 31)))])
  refine Go.step (fun tt kk => XS.bipush X8.here hx rfl (hb hby d2_213) kk) ?_
  show Go _ _ _ _ _ _ _ T8 (mkF m 215 _ [(.int (12 : Int32)), (.int (vl (g 1))), (.int ((vl (g 0)) <<< ((18 : Int32) &&& 31)))])
  refine Go.step (fun tt kk => XS.ishl X8.here hx rfl (hb hby d2_215) rfl kk) ?_
  show Go _ _ _ _ _ _ _ T8 (mkF m 216 _ [(.int ((vl (g 1)) <<< ((12 : Int32) &&& 31))), (.int ((vl (g 0)) <<< ((18 : Int32) &&& 31)))])
  refine Go.step (fun tt kk => XS.ior X8.here hx rfl (hb hby d2_216) rfl kk) ?_
  show Go _ _ _ _ _ _ _ T8 (mkF m 217 _ [(.int (((vl (g 0)) <<< ((18 : Int32) &&& 31)) ||| ((vl (g 1)) <<< ((12 : Int32) &&& 31))))])
  refine Go.step (fun tt kk => XS.iload X8.here hx rfl (hb hby d2_217) rfl kk) ?_
  show Go _ _ _ _ _ _ _ T8 (mkF m 219 _ [(.int (vl (g 2))), (.int (((vl (g 0)) <<< ((18 : Int32) &&& 31)) ||| ((vl (g 1)) <<< ((12 : Int32) &&& 31))))])
  refine Go.step (fun tt kk => XS.bipush X8.here hx rfl (hb hby d2_219) kk) ?_
  show Go _ _ _ _ _ _ _ T8 (mkF m 221 _ [(.int (6 : Int32)), (.int (vl (g 2))), (.int (((vl (g 0)) <<< ((18 : Int32) &&& 31)) ||| ((vl (g 1)) <<< ((12 : Int32) &&& 31))))])
  refine Go.step (fun tt kk => XS.ishl X8.here hx rfl (hb hby d2_221) rfl kk) ?_
  show Go _ _ _ _ _ _ _ T8 (mkF m 222 _ [(.int ((vl (g 2)) <<< ((6 : Int32) &&& 31))), (.int (((vl (g 0)) <<< ((18 : Int32) &&& 31)) ||| ((vl (g 1)) <<< ((12 : Int32) &&& 31))))])
  refine Go.step (fun tt kk => XS.ior X8.here hx rfl (hb hby d2_222) rfl kk) ?_
  show Go _ _ _ _ _ _ _ T8 (mkF m 223 _ [(.int ((((vl (g 0)) <<< ((18 : Int32) &&& 31)) ||| ((vl (g 1)) <<< ((12 : Int32) &&& 31))) ||| ((vl (g 2)) <<< ((6 : Int32) &&& 31))))])
  refine Go.step (fun tt kk => XS.istore X8.here hx rfl (hb hby d2_223) rfl (l' := #[.val (.ref tx), .val (.int (Int32.ofNat off)), .val (.int (4 : Int32)), .val (.int (Int32.ofNat bf)), .val (.int (2 : Int32)), .val (.int (Int32.ofNat (off + 4))), .val (.ref b2), .val (.int (1 : Int32)), .val (.int (Int32.ofNat (off + 0))), .val (.int (Int32.ofNat (bf + 0))), .val (.int (vl (g 2))), .val (.int ((((vl (g 0)) <<< ((18 : Int32) &&& 31)) ||| ((vl (g 1)) <<< ((12 : Int32) &&& 31))) ||| ((vl (g 2)) <<< ((6 : Int32) &&& 31)))), .unset]) rfl kk) ?_
  show Go _ _ _ _ _ _ _ T8 (mkF m 225 _ [])
  show Go _ _ _ _ _ _ _ T8 (mkF m 225 #[.val (.ref tx), .val (.int (Int32.ofNat off)), .val (.int (4 : Int32)), .val (.int (Int32.ofNat bf)), .val (.int (2 : Int32)), .val (.int (Int32.ofNat (off + 4))), .val (.ref b2), .val (.int (1 : Int32)), .val (.int (Int32.ofNat (off + 0))), .val (.int (Int32.ofNat (bf + 0))), .val (.int (vl (g 2))), .val (.int (nt (vl (g 0)) (vl (g 1)) (vl (g 2)))), .unset] [])
  refine Go.step (fun tt kk => XS.iload X8.here hx rfl (hb hby d2_225) rfl kk) ?_
  show Go _ _ _ _ _ _ _ T8 (mkF m 227 _ [(.int (1 : Int32))])
  refine Go.step (fun tt kk => XS.iconst X8.here hx rfl (hb hby d2_227) kk) ?_
  show Go _ _ _ _ _ _ _ T8 (mkF m 228 _ [(.int (1 : Int32)), (.int (1 : Int32))])
  refine Go.step (fun tt kk => XS.icmpNo X8.here hx rfl (hb hby d2_228) rfl (teq (by decide)).2 kk) ?_
  show Go _ _ _ _ _ _ _ T8 (mkF m 231 _ [])
  refine Go.step (fun tt kk => XS.sipush X8.here hx rfl (hb hby d2_231) kk) ?_
  show Go _ _ _ _ _ _ _ T8 (mkF m 234 _ [(.int (255 : Int32))])
  refine Go.step (fun tt kk => XS.goto X8.here hx rfl (pc0 := 234) (pc' := 239) rfl (hb hby d2_234) (by decide) (by decide) kk) ?_
  show Go _ _ _ _ _ _ _ T8 (mkF m 239 _ [(.int (255 : Int32))])
  refine Go.step (fun tt kk => XS.istore X8.here hx rfl (hb hby d2_239) rfl (l' := #[.val (.ref tx), .val (.int (Int32.ofNat off)), .val (.int (4 : Int32)), .val (.int (Int32.ofNat bf)), .val (.int (2 : Int32)), .val (.int (Int32.ofNat (off + 4))), .val (.ref b2), .val (.int (1 : Int32)), .val (.int (Int32.ofNat (off + 0))), .val (.int (Int32.ofNat (bf + 0))), .val (.int (vl (g 2))), .val (.int (nt (vl (g 0)) (vl (g 1)) (vl (g 2)))), .val (.int (255 : Int32))]) rfl kk) ?_
  show Go _ _ _ _ _ _ _ T8 (mkF m 241 _ [])
  refine Go.step (fun tt kk => XS.iload X8.here hx rfl (hb hby d2_241) rfl kk) ?_
  show Go _ _ _ _ _ _ _ T8 (mkF m 243 _ [(.int (nt (vl (g 0)) (vl (g 1)) (vl (g 2))))])
  by_cases c243_9 : (nt (vl (g 0)) (vl (g 1)) (vl (g 2))) < (0 : Int32)
  · refine Go.step (fun tt kk => XS.ifYes X8.here hx rfl (pc0 := 243) (pc' := 254) rfl (hb hby d2_243) rfl ((if0 _ _).trans (tlt c243_9).1) (by decide) (by decide) kk) ?_
    show Go _ _ _ _ _ _ _ T8 (mkF m 254 _ [])
    refine Go.step (fun tt kk => XS.aconstNull X8.here hx rfl (hb hby d2_254) kk) ?_
    show Go _ _ _ _ _ _ _ T8 (mkF m 255 _ [.null])
    refine go_retA X8 hx (t := (.array .byte)) hret rfl hlk rfl (hb hby d2_255) ?_ (by decide) (by decide)
    try rw [e8]
    exact ⟨N8, eI ▸ K2, fun z => absurd z (fun z => (mt (own_p1 hg (by decide)).mpr (fun y => y.1 c243_9)) z), fun _ => rfl⟩
  · refine Go.step (fun tt kk => XS.ifNo X8.here hx rfl (hb hby d2_243) rfl ((if0 _ _).trans (flt c243_9).1) kk) ?_
    show Go _ _ _ _ _ _ _ T8 (mkF m 246 _ [])
    refine Go.step (fun tt kk => XS.iload X8.here hx rfl (hb hby d2_246) rfl kk) ?_
    show Go _ _ _ _ _ _ _ T8 (mkF m 248 _ [(.int (nt (vl (g 0)) (vl (g 1)) (vl (g 2))))])
    refine Go.step (fun tt kk => XS.iload X8.here hx rfl (hb hby d2_248) rfl kk) ?_
    show Go _ _ _ _ _ _ _ T8 (mkF m 250 _ [(.int (255 : Int32)), (.int (nt (vl (g 0)) (vl (g 1)) (vl (g 2))))])
    refine Go.step (fun tt kk => XS.iand X8.here hx rfl (hb hby d2_250) rfl kk) ?_
    show Go _ _ _ _ _ _ _ T8 (mkF m 251 _ [(.int ((nt (vl (g 0)) (vl (g 1)) (vl (g 2))) &&& (255 : Int32)))])
    by_cases c251_10 : ((nt (vl (g 0)) (vl (g 1)) (vl (g 2))) &&& (255 : Int32)) = (0 : Int32)
    · refine Go.step (fun tt kk => XS.ifYes X8.here hx rfl (pc0 := 251) (pc' := 256) rfl (hb hby d2_251) rfl ((if0 _ _).trans (teq c251_10).1) (by decide) (by decide) kk) ?_
      show Go _ _ _ _ _ _ _ T8 (mkF m 256 _ [])
      have okp : OK1 g 0 := (own_p1 hg (by decide)).mp ⟨c243_9, c251_10⟩
      have byp := own_q1 hg (by decide) okp
      refine Go.step (fun tt kk => XS.aload X8.here hx rfl (hb hby d2_256) rfl rfl kk) ?_
      show Go _ _ _ _ _ _ _ T8 (mkF m 258 _ [(.ref b2)])
      refine Go.step (fun tt kk => XS.iload X8.here hx rfl (hb hby d2_258) rfl kk) ?_
      show Go _ _ _ _ _ _ _ T8 (mkF m 260 _ [(.int (Int32.ofNat (bf + 0))), (.ref b2)])
      refine Go.step (fun tt kk => XS.iload X8.here hx rfl (hb hby d2_260) rfl kk) ?_
      show Go _ _ _ _ _ _ _ T8 (mkF m 262 _ [(.int (nt (vl (g 0)) (vl (g 1)) (vl (g 2)))), (.int (Int32.ofNat (bf + 0))), (.ref b2)])
      refine Go.step (fun tt kk => XS.bipush X8.here hx rfl (hb hby d2_262) kk) ?_
      show Go _ _ _ _ _ _ _ T8 (mkF m 264 _ [(.int (16 : Int32)), (.int (nt (vl (g 0)) (vl (g 1)) (vl (g 2)))), (.int (Int32.ofNat (bf + 0))), (.ref b2)])
      refine Go.step (fun tt kk => XS.ishr X8.here hx rfl (hb hby d2_264) rfl kk) ?_
      show Go _ _ _ _ _ _ _ T8 (mkF m 265 _ [(.int ((nt (vl (g 0)) (vl (g 1)) (vl (g 2))) >>> ((16 : Int32) &&& 31))), (.int (Int32.ofNat (bf + 0))), (.ref b2)])
      refine Go.step (fun tt kk => XS.i2b X8.here hx rfl (hb hby d2_265) rfl kk) ?_
      show Go _ _ _ _ _ _ _ T8 (mkF m 266 _ [(.int (((nt (vl (g 0)) (vl (g 1)) (vl (g 2))) >>> ((16 : Int32) &&& 31)).toInt8.toInt32)), (.int (Int32.ofNat (bf + 0))), (.ref b2)])
      show Go _ _ _ _ _ _ _ T8 (mkF m 266 #[.val (.ref tx), .val (.int (Int32.ofNat off)), .val (.int (4 : Int32)), .val (.int (Int32.ofNat bf)), .val (.int (2 : Int32)), .val (.int (Int32.ofNat (off + 4))), .val (.ref b2), .val (.int (1 : Int32)), .val (.int (Int32.ofNat (off + 0))), .val (.int (Int32.ofNat (bf + 0))), .val (.int (vl (g 2))), .val (.int (nt (vl (g 0)) (vl (g 1)) (vl (g 2)))), .val (.int (255 : Int32))] [(.int (((nt (vl (g 0)) (vl (g 1)) (vl (g 2))) >>> ((16 : Int32) &&& 31)).toInt8.toInt32)), (.int (Int32.ofNat (bf + 0))), (.ref b2)])
      obtain ⟨cl11, Ar11, hin11, -⟩ := V2.at (j := (Int32.ofNat (bf + 0))) (k := (bf + 0)) (Int32.toInt_ofNat_of_lt (by omega)) (by omega)
      obtain ⟨T11, h11, X11, e11, W11, st11⟩ := stB X8 hx hZ e8 Ar11 (j := (Int32.ofNat (bf + 0))) hin11 (g := (mkF m 266 #[.val (.ref tx), .val (.int (Int32.ofNat off)), .val (.int (4 : Int32)), .val (.int (Int32.ofNat bf)), .val (.int (2 : Int32)), .val (.int (Int32.ofNat (off + 4))), .val (.ref b2), .val (.int (1 : Int32)), .val (.int (Int32.ofNat (off + 0))), .val (.int (Int32.ofNat (bf + 0))), .val (.int (vl (g 2))), .val (.int (nt (vl (g 0)) (vl (g 1)) (vl (g 2)))), .val (.int (255 : Int32))] [(.int (((nt (vl (g 0)) (vl (g 1)) (vl (g 2))) >>> ((16 : Int32) &&& 31)).toInt8.toInt32)), (.int (Int32.ofNat (bf + 0))), (.ref b2)])) rfl rfl (hb hby d2_266)
      rw [(own_nb _)] at W11
      have V11 : AV Z h11 b2 .byte (bf + 2) (upd (fun _ => (.int (0 : Int32))) (bf + 0) (.int (((nt (vl (g 0)) (vl (g 1)) (vl (g 2))) >>> ((16 : Int32) &&& 31)).toInt8.toInt32))) := AV.set V2 (k := (bf + 0)) (Int32.toInt_ofNat_of_lt (by omega)) (by omega) W11
      have N11 := Fr.snoc X11 N8 gn_b2
      have Z11 : n0 ≤ h11.size := Nat.le_trans Z2 (Keep.of_wr W11).1
      have K11 : Keep hI h11 [] := K2.wr W11 (Or.inr sz_b2)
      refine Go.step (st11) ?_
      show Go _ _ _ _ _ _ _ T11 (mkF m 267 _ [])
      refine Go.step (fun tt kk => XS.iload X11.here hx rfl (hb hby d2_267) rfl kk) ?_
      show Go _ _ _ _ _ _ _ T11 (mkF m 269 _ [(.int (1 : Int32))])
      refine Go.step (fun tt kk => XS.iconst X11.here hx rfl (hb hby d2_269) kk) ?_
      show Go _ _ _ _ _ _ _ T11 (mkF m 270 _ [(.int (1 : Int32)), (.int (1 : Int32))])
      refine Go.step (fun tt kk => XS.icmpNo X11.here hx rfl (hb hby d2_270) rfl (teq (by decide)).2 kk) ?_
      show Go _ _ _ _ _ _ _ T11 (mkF m 273 _ [])
      refine Go.step (fun tt kk => XS.aload X11.here hx rfl (hb hby d2_273) rfl rfl kk) ?_
      show Go _ _ _ _ _ _ _ T11 (mkF m 275 _ [(.ref b2)])
      refine Go.step (fun tt kk => XS.iload X11.here hx rfl (hb hby d2_275) rfl kk) ?_
      show Go _ _ _ _ _ _ _ T11 (mkF m 277 _ [(.int (Int32.ofNat (bf + 0))), (.ref b2)])
      refine Go.step (fun tt kk => XS.iconst X11.here hx rfl (hb hby d2_277) kk) ?_
      show Go _ _ _ _ _ _ _ T11 (mkF m 278 _ [(.int (1 : Int32)), (.int (Int32.ofNat (bf + 0))), (.ref b2)])
      refine Go.step (fun tt kk => XS.iadd X11.here hx rfl (hb hby d2_278) rfl kk) ?_
      show Go _ _ _ _ _ _ _ T11 (mkF m 279 _ [(.int ((Int32.ofNat (bf + 0)) + (1 : Int32))), (.ref b2)])
      refine Go.step (fun tt kk => XS.iload X11.here hx rfl (hb hby d2_279) rfl kk) ?_
      show Go _ _ _ _ _ _ _ T11 (mkF m 281 _ [(.int (nt (vl (g 0)) (vl (g 1)) (vl (g 2)))), (.int ((Int32.ofNat (bf + 0)) + (1 : Int32))), (.ref b2)])
      refine Go.step (fun tt kk => XS.bipush X11.here hx rfl (hb hby d2_281) kk) ?_
      show Go _ _ _ _ _ _ _ T11 (mkF m 283 _ [(.int (8 : Int32)), (.int (nt (vl (g 0)) (vl (g 1)) (vl (g 2)))), (.int ((Int32.ofNat (bf + 0)) + (1 : Int32))), (.ref b2)])
      refine Go.step (fun tt kk => XS.ishr X11.here hx rfl (hb hby d2_283) rfl kk) ?_
      show Go _ _ _ _ _ _ _ T11 (mkF m 284 _ [(.int ((nt (vl (g 0)) (vl (g 1)) (vl (g 2))) >>> ((8 : Int32) &&& 31))), (.int ((Int32.ofNat (bf + 0)) + (1 : Int32))), (.ref b2)])
      refine Go.step (fun tt kk => XS.i2b X11.here hx rfl (hb hby d2_284) rfl kk) ?_
      show Go _ _ _ _ _ _ _ T11 (mkF m 285 _ [(.int (((nt (vl (g 0)) (vl (g 1)) (vl (g 2))) >>> ((8 : Int32) &&& 31)).toInt8.toInt32)), (.int ((Int32.ofNat (bf + 0)) + (1 : Int32))), (.ref b2)])
      rw [show Int32.ofNat (bf + 0) + (1 : Int32) = Int32.ofNat (bf + 1) from own_add (bf + 0) 1]
      show Go _ _ _ _ _ _ _ T11 (mkF m 285 #[.val (.ref tx), .val (.int (Int32.ofNat off)), .val (.int (4 : Int32)), .val (.int (Int32.ofNat bf)), .val (.int (2 : Int32)), .val (.int (Int32.ofNat (off + 4))), .val (.ref b2), .val (.int (1 : Int32)), .val (.int (Int32.ofNat (off + 0))), .val (.int (Int32.ofNat (bf + 0))), .val (.int (vl (g 2))), .val (.int (nt (vl (g 0)) (vl (g 1)) (vl (g 2)))), .val (.int (255 : Int32))] [(.int (((nt (vl (g 0)) (vl (g 1)) (vl (g 2))) >>> ((8 : Int32) &&& 31)).toInt8.toInt32)), (.int (Int32.ofNat (bf + 1))), (.ref b2)])
      obtain ⟨cl12, Ar12, hin12, -⟩ := V11.at (j := (Int32.ofNat (bf + 1))) (k := (bf + 1)) (Int32.toInt_ofNat_of_lt (by omega)) (by omega)
      obtain ⟨T12, h12, X12, e12, W12, st12⟩ := stB X11 hx hZ e11 Ar12 (j := (Int32.ofNat (bf + 1))) hin12 (g := (mkF m 285 #[.val (.ref tx), .val (.int (Int32.ofNat off)), .val (.int (4 : Int32)), .val (.int (Int32.ofNat bf)), .val (.int (2 : Int32)), .val (.int (Int32.ofNat (off + 4))), .val (.ref b2), .val (.int (1 : Int32)), .val (.int (Int32.ofNat (off + 0))), .val (.int (Int32.ofNat (bf + 0))), .val (.int (vl (g 2))), .val (.int (nt (vl (g 0)) (vl (g 1)) (vl (g 2)))), .val (.int (255 : Int32))] [(.int (((nt (vl (g 0)) (vl (g 1)) (vl (g 2))) >>> ((8 : Int32) &&& 31)).toInt8.toInt32)), (.int (Int32.ofNat (bf + 1))), (.ref b2)])) rfl rfl (hb hby d2_285)
      rw [(own_nb _)] at W12
      have V12 : AV Z h12 b2 .byte (bf + 2) (upd (upd (fun _ => (.int (0 : Int32))) (bf + 0) (.int (((nt (vl (g 0)) (vl (g 1)) (vl (g 2))) >>> ((16 : Int32) &&& 31)).toInt8.toInt32))) (bf + 1) (.int (((nt (vl (g 0)) (vl (g 1)) (vl (g 2))) >>> ((8 : Int32) &&& 31)).toInt8.toInt32))) := AV.set V11 (k := (bf + 1)) (Int32.toInt_ofNat_of_lt (by omega)) (by omega) W12
      have N12 := Fr.snoc X12 N11 gn_b2
      have Z12 : n0 ≤ h12.size := Nat.le_trans Z11 (Keep.of_wr W12).1
      have K12 : Keep hI h12 [] := K11.wr W12 (Or.inr sz_b2)
      refine Go.step (st12) ?_
      show Go _ _ _ _ _ _ _ T12 (mkF m 286 _ [])
      refine Go.step (fun tt kk => XS.aload X12.here hx rfl (hb hby d2_286) rfl rfl kk) ?_
      show Go _ _ _ _ _ _ _ T12 (mkF m 288 _ [(.ref b2)])
      have V13 : AV Z h12 b2 .byte (bf + 2) (gv (exI g bf)) := V12.congr fun i hi => by
        by_cases q : i < bf
        · rw [show gv (exI g bf) i = .int 0 from congrArg Value.int (exI_lt q)]
          rw [upd_ne (by omega), upd_ne (by omega)]
        · obtain ⟨j, rfl⟩ : ∃ j, i = bf + j := ⟨i - bf, by omega⟩
          rw [show gv (exI g bf) (bf + j) = .int (bt g (j / 3) (j % 3)) from congrArg Value.int (exI_at j)]
          rcases (by omega : j = 0 ∨ j = 1) with rfl | rfl
          · rw [upd_ne (by omega), upd_at (by omega)]; exact congrArg Value.int byp.1
          · rw [upd_at (by omega)]; exact congrArg Value.int byp.2
      refine go_retA X12 hx (t := (.array .byte)) hret rfl hlk rfl (hb hby d2_288) ?_ (by decide) (by decide)
      try rw [e12]
      exact ⟨N12, eI ▸ K12, fun _ => ⟨b2, rfl, eI ▸ sz_b2, V13⟩, fun z => absurd okp z⟩
    · refine Go.step (fun tt kk => XS.ifNo X8.here hx rfl (hb hby d2_251) rfl ((if0 _ _).trans (feq c251_10).1) kk) ?_
      show Go _ _ _ _ _ _ _ T8 (mkF m 254 _ [])
      refine Go.step (fun tt kk => XS.aconstNull X8.here hx rfl (hb hby d2_254) kk) ?_
      show Go _ _ _ _ _ _ _ T8 (mkF m 255 _ [.null])
      refine go_retA X8 hx (t := (.array .byte)) hret rfl hlk rfl (hb hby d2_255) ?_ (by decide) (by decide)
      try rw [e8]
      exact ⟨N8, eI ▸ K2, fun z => absurd z (fun z => (mt (own_p1 hg (by decide)).mpr (fun y => c251_10 y.2)) z), fun _ => rfl⟩
theorem ef_rmDc42 (m : MethodId) (x0 : Addr) (x1 : Int32) (x2 : Int32) (x3 : Int32) : entryFrame m #[(.ref x0), (.int x1), (.int x2), (.int x3)] 13 = mkF m 0 #[.val (.ref x0), .val (.int x1), .val (.int x2), .val (.int x3), .unset, .unset, .unset, .unset, .unset, .unset, .unset, .unset, .unset] [] := by first | (simp [entryFrame, mkF, argsToLocals, Value.category]; done) | rfl
theorem d2_191 : decode prog_9_method_2_code 191 = .ok (.iconst 0, 1) := by decide +kernel
theorem d2_237 : decode prog_9_method_2_code 237 = .ok (.ldc 17, 2) := by decide +kernel
set_option maxRecDepth 65536 in
set_option maxHeartbeats 40000000 in
theorem rmDc42 (l : Launch) (Z : State) (a0 : Array Value) (hw : ∀ d ∈ tables_1, d.before a0 Z = true) (ws : List Jvm.Cond) (tx va : Addr) (off bf : Nat) (g : Nat → Int32) (F : Nat → Value) (h0 : Heap) (n0 : Nat) (Z0 : n0 ≤ h0.size) (ho : off ≤ 3) (hbf : bf ≤ 3) (hF : ∀ i, i < 8 → F (off + i) = .int (g i)) (hg : CH g) (hp1 : g 3 = 61) (hp2 : g 2 = 61) (SV : Sta Z h0 "com/example/sharks/sharks/StandardBase64" "VALUES" "[B" (.ref va)) (V_va : AV Z h0 va .byte 128 vt) (V_tx : AV Z h0 tx .char 12 F) :
    Ctr l Z (⟨"com/example/sharks/sharks/StandardBase64", "decode", "([CIII)[B"⟩ : MethodName) prog_9_method_2_code 13 (some (.array .byte)) ws ({ frames := 1, cells := 1, slots := 9, locals := 16 } : Room) 1 9 #[(.ref tx), (.int (Int32.ofNat off)), (.int (4 : Int32)), (.int (Int32.ofNat bf))] h0 (fun v h L => Fr n0 L ∧ Keep h0 h [] ∧ ((OK2 g 0) → ∃ b, v = some (.ref b) ∧ h0.size ≤ b ∧ AV Z h b .byte (bf + 1) (gv (exI g bf))) ∧ (¬ (OK2 g 0) → v = some .null)) := by
  refine Ctr.mk (plainFor_of_name pn_1) fun p e s m below meth c T0 X0 C e0 => go_cast (ef_rmDc42 m tx (Int32.ofNat off) (4 : Int32) (Int32.ofNat bf)) ?_
  have N0 := Fr.nil n0
  obtain ⟨hx, hZ, hby, hml, hown, hnm, hret, hlk⟩ := C
  obtain ⟨hI, eI⟩ : ∃ z, z = h0 := ⟨_, rfl⟩
  have K0 : Keep hI h0 [] := by rw [eI]; exact Keep.refl _ _
  show Go _ _ _ _ _ _ _ T0 (mkF m 0 #[.val (.ref tx), .val (.int (Int32.ofNat off)), .val (.int (4 : Int32)), .val (.int (Int32.ofNat bf)), .unset, .unset, .unset, .unset, .unset, .unset, .unset, .unset, .unset] [])
  refine Go.step (fun tt kk => XS.aloadN X0.here hx rfl (hb hby d2_0) rfl rfl kk) ?_
  show Go _ _ _ _ _ _ _ T0 (mkF m 1 _ [(.ref tx)])
  refine Go.step (fun tt kk => XS.iloadN X0.here hx rfl (hb hby d2_1) rfl kk) ?_
  show Go _ _ _ _ _ _ _ T0 (mkF m 2 _ [(.int (Int32.ofNat off)), (.ref tx)])
  refine Go.step (fun tt kk => XS.iloadN X0.here hx rfl (hb hby d2_2) rfl kk) ?_
  show Go _ _ _ _ _ _ _ T0 (mkF m 3 _ [(.int (4 : Int32)), (.int (Int32.ofNat off)), (.ref tx)])
  obtain ⟨v1, T1, L1, X1, q1, st1⟩ := c_static X0 hx hZ hown (y := (⟨"com/example/sharks/sharks/StandardBase64", "decodedLength", "([CII)I"⟩ : MethodName)) (hw _ (List.mem_of_getElem? (i := 11) rfl)) (hw _ (List.mem_of_getElem? (i := 12) rfl)) (hw _ (List.mem_of_getElem? (i := 9) rfl)) (hw _ (List.mem_of_getElem? (i := 13) rfl)) (by decide) (argsL := [(.ref tx), (.int (Int32.ofNat off)), (.int (4 : Int32))]) (rest := []) (rmD l Z a0 hw [] tx off 4 (g 3) (g 2) F h0 n0 Z0 ho (by decide) V_tx (hF 3 (by decide)) (hF 2 (by decide))) e0 pd_0 rfl (by rw [hml]; rfl) (W := 0) (by show 2 * 0 + _ ≤ _; exact Nat.le_of_eq rfl) (by decide) (by decide) (by decide) (by decide) (hb hby d2_3) (Ls := #[.val (.ref tx), .val (.int (Int32.ofNat off)), .val (.int (4 : Int32)), .val (.int (Int32.ofNat bf)), .unset, .unset, .unset, .unset, .unset, .unset, .unset, .unset, .unset])
  obtain ⟨rfl, rfl, e1⟩ := q1
  have N1 := Fr.app N0 (Fr.nil n0)
  refine Go.step (st1) ?_
  show Go _ _ _ _ _ _ _ T1 (mkF m 6 _ [(.int (dl 4 (g 3) (g 2)))])
  rw [show dl 4 (g 3) (g 2) = (1 : Int32) from by unfold dl; rw [if_pos hp1, if_pos hp2]; decide]
  show Go _ _ _ _ _ _ _ T1 (mkF m 6 #[.val (.ref tx), .val (.int (Int32.ofNat off)), .val (.int (4 : Int32)), .val (.int (Int32.ofNat bf)), .unset, .unset, .unset, .unset, .unset, .unset, .unset, .unset, .unset] [(.int (1 : Int32))])
  refine Go.step (fun tt kk => XS.istore X1.here hx rfl (hb hby d2_6) rfl (l' := #[.val (.ref tx), .val (.int (Int32.ofNat off)), .val (.int (4 : Int32)), .val (.int (Int32.ofNat bf)), .val (.int (1 : Int32)), .unset, .unset, .unset, .unset, .unset, .unset, .unset, .unset]) rfl kk) ?_
  show Go _ _ _ _ _ _ _ T1 (mkF m 8 _ [])
  refine Go.step (fun tt kk => XS.iload X1.here hx rfl (hb hby d2_8) rfl kk) ?_
  show Go _ _ _ _ _ _ _ T1 (mkF m 10 _ [(.int (1 : Int32))])
  refine Go.step (fun tt kk => XS.ifYes X1.here hx rfl (pc0 := 10) (pc' := 15) rfl (hb hby d2_10) rfl ((if0 _ _).trans (flt (by decide)).2.1) (by decide) (by decide) kk) ?_
  show Go _ _ _ _ _ _ _ T1 (mkF m 15 _ [])
  refine Go.step (fun tt kk => XS.iloadN X1.here hx rfl (hb hby d2_15) rfl kk) ?_
  show Go _ _ _ _ _ _ _ T1 (mkF m 16 _ [(.int (Int32.ofNat off))])
  refine Go.step (fun tt kk => XS.iloadN X1.here hx rfl (hb hby d2_16) rfl kk) ?_
  show Go _ _ _ _ _ _ _ T1 (mkF m 17 _ [(.int (4 : Int32)), (.int (Int32.ofNat off))])
  refine Go.step (fun tt kk => XS.iadd X1.here hx rfl (hb hby d2_17) rfl kk) ?_
  show Go _ _ _ _ _ _ _ T1 (mkF m 18 _ [(.int ((Int32.ofNat off) + (4 : Int32)))])
  rw [show Int32.ofNat off + (4 : Int32) = Int32.ofNat (off + 4) from own_add off 4]
  show Go _ _ _ _ _ _ _ T1 (mkF m 18 #[.val (.ref tx), .val (.int (Int32.ofNat off)), .val (.int (4 : Int32)), .val (.int (Int32.ofNat bf)), .val (.int (1 : Int32)), .unset, .unset, .unset, .unset, .unset, .unset, .unset, .unset] [(.int (Int32.ofNat (off + 4)))])
  refine Go.step (fun tt kk => XS.istore X1.here hx rfl (hb hby d2_18) rfl (l' := #[.val (.ref tx), .val (.int (Int32.ofNat off)), .val (.int (4 : Int32)), .val (.int (Int32.ofNat bf)), .val (.int (1 : Int32)), .val (.int (Int32.ofNat (off + 4))), .unset, .unset, .unset, .unset, .unset, .unset, .unset]) rfl kk) ?_
  show Go _ _ _ _ _ _ _ T1 (mkF m 20 _ [])
  refine Go.step (fun tt kk => XS.iloadN X1.here hx rfl (hb hby d2_20) rfl kk) ?_
  show Go _ _ _ _ _ _ _ T1 (mkF m 21 _ [(.int (Int32.ofNat bf))])
  refine Go.step (fun tt kk => XS.iload X1.here hx rfl (hb hby d2_21) rfl kk) ?_
  show Go _ _ _ _ _ _ _ T1 (mkF m 23 _ [(.int (1 : Int32)), (.int (Int32.ofNat bf))])
  refine Go.step (fun tt kk => XS.iadd X1.here hx rfl (hb hby d2_23) rfl kk) ?_
  show Go _ _ _ _ _ _ _ T1 (mkF m 24 _ [(.int ((Int32.ofNat bf) + (1 : Int32)))])
  rw [show Int32.ofNat bf + (1 : Int32) = Int32.ofNat (bf + 1) from own_add bf 1]
  show Go _ _ _ _ _ _ _ T1 (mkF m 24 #[.val (.ref tx), .val (.int (Int32.ofNat off)), .val (.int (4 : Int32)), .val (.int (Int32.ofNat bf)), .val (.int (1 : Int32)), .val (.int (Int32.ofNat (off + 4))), .unset, .unset, .unset, .unset, .unset, .unset, .unset] [(.int (Int32.ofNat (bf + 1)))])
  obtain ⟨T2, h2, k2, X2, e2, E2, A2, EA2, st2⟩ := newPE X1 hx hZ (hw _ (List.mem_of_getElem? (i := 20) rfl)) e1 (g := (mkF m 24 #[.val (.ref tx), .val (.int (Int32.ofNat off)), .val (.int (4 : Int32)), .val (.int (Int32.ofNat bf)), .val (.int (1 : Int32)), .val (.int (Int32.ofNat (off + 4))), .unset, .unset, .unset, .unset, .unset, .unset, .unset] [(.int (Int32.ofNat (bf + 1)))])) rfl (hb hby d2_24) rfl (own_nn (bf + 1) (by omega)) (cap := 9) (by rw [clamp_of (k := bf + 1) (Int32.toInt_ofNat_of_lt (by omega))]; omega) (by decide) (by decide) (by decide) (ad := "[B") rfl
  obtain ⟨b2, g2⟩ : ∃ z, z = h0.size := ⟨_, rfl⟩
  rw [← g2] at A2 EA2 st2
  have ne_tx_b2 : tx ≠ b2 := Nat.ne_of_lt (Nat.lt_of_lt_of_le V_tx.lt (Nat.le_of_eq g2.symm))
  have ne_va_b2 : va ≠ b2 := Nat.ne_of_lt (Nat.lt_of_lt_of_le V_va.lt (Nat.le_of_eq g2.symm))
  have gn_b2 : n0 ≤ b2 := Nat.le_trans Z0 (Nat.le_of_eq g2.symm)
  have sz_b2 : hI.size ≤ b2 := Nat.le_trans K0.1 (Nat.le_of_eq g2.symm)
  have Z2 : n0 ≤ h2.size := Nat.le_trans Z0 E2.1
  have K2 : Keep hI h2 [] := K0.ext E2
  have V2 : AV Z h2 b2 .byte (bf + 1) (fun _ => (.int (0 : Int32))) := AV.new A2 (Int32.toInt_ofNat_of_lt (by omega))
  refine Go.step (st2) ?_
  show Go _ _ _ _ _ _ _ T2 (mkF m 26 _ [(.ref b2)])
  refine Go.step (fun tt kk => XS.astore X2.here hx rfl (hb hby d2_26) rfl rfl (l' := #[.val (.ref tx), .val (.int (Int32.ofNat off)), .val (.int (4 : Int32)), .val (.int (Int32.ofNat bf)), .val (.int (1 : Int32)), .val (.int (Int32.ofNat (off + 4))), .val (.ref b2), .unset, .unset, .unset, .unset, .unset, .unset]) rfl kk) ?_
  show Go _ _ _ _ _ _ _ T2 (mkF m 28 _ [])
  refine Go.step (fun tt kk => XS.iloadN X2.here hx rfl (hb hby d2_28) rfl kk) ?_
  show Go _ _ _ _ _ _ _ T2 (mkF m 29 _ [(.int (4 : Int32))])
  refine Go.step (fun tt kk => XS.iconst X2.here hx rfl (hb hby d2_29) kk) ?_
  show Go _ _ _ _ _ _ _ T2 (mkF m 30 _ [(.int (4 : Int32)), (.int (4 : Int32))])
  refine Go.step (fun tt kk => XS.idiv X2.here hx rfl (hb hby d2_30) rfl (by decide) kk) ?_
  show Go _ _ _ _ _ _ _ T2 (mkF m 31 _ [(.int ((4 : Int32) / (4 : Int32)))])
  refine Go.step (fun tt kk => XS.iconst X2.here hx rfl (hb hby d2_31) kk) ?_
  show Go _ _ _ _ _ _ _ T2 (mkF m 32 _ [(.int (3 : Int32)), (.int ((4 : Int32) / (4 : Int32)))])
  refine Go.step (fun tt kk => XS.imul X2.here hx rfl (hb hby d2_32) rfl kk) ?_
  show Go _ _ _ _ _ _ _ T2 (mkF m 33 _ [(.int (((4 : Int32) / (4 : Int32)) * (3 : Int32)))])
  refine Go.step (fun tt kk => XS.iload X2.here hx rfl (hb hby d2_33) rfl kk) ?_
  show Go _ _ _ _ _ _ _ T2 (mkF m 35 _ [(.int (1 : Int32)), (.int (((4 : Int32) / (4 : Int32)) * (3 : Int32)))])
  refine Go.step (fun tt kk => XS.isub X2.here hx rfl (hb hby d2_35) rfl kk) ?_
  show Go _ _ _ _ _ _ _ T2 (mkF m 36 _ [(.int ((((4 : Int32) / (4 : Int32)) * (3 : Int32)) - (1 : Int32)))])
  rw [show ((((4 : Int32) / (4 : Int32)) * (3 : Int32)) - (1 : Int32)) = (2 : Int32) by decide]
  show Go _ _ _ _ _ _ _ T2 (mkF m 36 #[.val (.ref tx), .val (.int (Int32.ofNat off)), .val (.int (4 : Int32)), .val (.int (Int32.ofNat bf)), .val (.int (1 : Int32)), .val (.int (Int32.ofNat (off + 4))), .val (.ref b2), .unset, .unset, .unset, .unset, .unset, .unset] [(.int (2 : Int32))])
  refine Go.step (fun tt kk => XS.istore X2.here hx rfl (hb hby d2_36) rfl (l' := #[.val (.ref tx), .val (.int (Int32.ofNat off)), .val (.int (4 : Int32)), .val (.int (Int32.ofNat bf)), .val (.int (1 : Int32)), .val (.int (Int32.ofNat (off + 4))), .val (.ref b2), .val (.int (2 : Int32)), .unset, .unset, .unset, .unset, .unset]) rfl kk) ?_
  show Go _ _ _ _ _ _ _ T2 (mkF m 38 _ [])
  refine Go.step (fun tt kk => XS.iload X2.here hx rfl (hb hby d2_38) rfl kk) ?_
  show Go _ _ _ _ _ _ _ T2 (mkF m 40 _ [(.int (2 : Int32))])
  refine Go.step (fun tt kk => XS.ifYes X2.here hx rfl (pc0 := 40) (pc' := 48) rfl (hb hby d2_40) rfl ((if0 _ _).trans (feq (by decide)).2) (by decide) (by decide) kk) ?_
  show Go _ _ _ _ _ _ _ T2 (mkF m 48 _ [])
  refine Go.step (fun tt kk => XS.iload X2.here hx rfl (hb hby d2_48) rfl kk) ?_
  show Go _ _ _ _ _ _ _ T2 (mkF m 50 _ [(.int (Int32.ofNat (off + 4)))])
  refine Go.step (fun tt kk => XS.iconst X2.here hx rfl (hb hby d2_50) kk) ?_
  show Go _ _ _ _ _ _ _ T2 (mkF m 51 _ [(.int (4 : Int32)), (.int (Int32.ofNat (off + 4)))])
  refine Go.step (fun tt kk => XS.isub X2.here hx rfl (hb hby d2_51) rfl kk) ?_
  show Go _ _ _ _ _ _ _ T2 (mkF m 52 _ [(.int ((Int32.ofNat (off + 4)) - (4 : Int32)))])
  rw [show Int32.ofNat (off + 4) - (4 : Int32) = Int32.ofNat (off + 0) from (own_sub (off + 4) 4 (by omega) (by omega)).trans (congrArg Int32.ofNat (by omega))]
  show Go _ _ _ _ _ _ _ T2 (mkF m 52 #[.val (.ref tx), .val (.int (Int32.ofNat off)), .val (.int (4 : Int32)), .val (.int (Int32.ofNat bf)), .val (.int (1 : Int32)), .val (.int (Int32.ofNat (off + 4))), .val (.ref b2), .val (.int (2 : Int32)), .unset, .unset, .unset, .unset, .unset] [(.int (Int32.ofNat (off + 0)))])
  refine Go.step (fun tt kk => XS.istore X2.here hx rfl (hb hby d2_52) rfl (l' := #[.val (.ref tx), .val (.int (Int32.ofNat off)), .val (.int (4 : Int32)), .val (.int (Int32.ofNat bf)), .val (.int (1 : Int32)), .val (.int (Int32.ofNat (off + 4))), .val (.ref b2), .val (.int (2 : Int32)), .val (.int (Int32.ofNat (off + 0))), .unset, .unset, .unset, .unset]) rfl kk) ?_
  show Go _ _ _ _ _ _ _ T2 (mkF m 54 _ [])
  refine Go.step (fun tt kk => XS.iloadN X2.here hx rfl (hb hby d2_54) rfl kk) ?_
  show Go _ _ _ _ _ _ _ T2 (mkF m 55 _ [(.int (Int32.ofNat bf))])
  refine Go.step (fun tt kk => XS.istore X2.here hx rfl (hb hby d2_55) rfl (l' := #[.val (.ref tx), .val (.int (Int32.ofNat off)), .val (.int (4 : Int32)), .val (.int (Int32.ofNat bf)), .val (.int (1 : Int32)), .val (.int (Int32.ofNat (off + 4))), .val (.ref b2), .val (.int (2 : Int32)), .val (.int (Int32.ofNat (off + 0))), .val (.int (Int32.ofNat bf)), .unset, .unset, .unset]) rfl kk) ?_
  show Go _ _ _ _ _ _ _ T2 (mkF m 57 _ [])
  refine Go.step (fun tt kk => XS.iloadN X2.here hx rfl (hb hby d2_57) rfl kk) ?_
  show Go _ _ _ _ _ _ _ T2 (mkF m 58 _ [(.int (Int32.ofNat off))])
  refine Go.step (fun tt kk => XS.istore X2.here hx rfl (hb hby d2_58) rfl (l' := #[.val (.ref tx), .val (.int (Int32.ofNat off)), .val (.int (4 : Int32)), .val (.int (Int32.ofNat bf)), .val (.int (1 : Int32)), .val (.int (Int32.ofNat (off + 4))), .val (.ref b2), .val (.int (2 : Int32)), .val (.int (Int32.ofNat (off + 0))), .val (.int (Int32.ofNat bf)), .val (.int (Int32.ofNat off)), .unset, .unset]) rfl kk) ?_
  show Go _ _ _ _ _ _ _ T2 (mkF m 60 _ [])
  show Go _ _ _ _ _ _ _ T2 (mkF m 60 #[.val (.ref tx), .val (.int (Int32.ofNat off)), .val (.int (4 : Int32)), .val (.int (Int32.ofNat bf)), .val (.int (1 : Int32)), .val (.int (Int32.ofNat (off + 4))), .val (.ref b2), .val (.int (2 : Int32)), .val (.int (Int32.ofNat (off + 0))), .val (.int (Int32.ofNat (bf + 0))), .val (.int (Int32.ofNat (off + 0))), .unset, .unset] [])
  refine Go.step (fun tt kk => XS.iload X2.here hx rfl (hb hby d2_60) rfl kk) ?_
  show Go _ _ _ _ _ _ _ T2 (mkF m 62 _ [(.int (Int32.ofNat (off + 0)))])
  refine Go.step (fun tt kk => XS.iload X2.here hx rfl (hb hby d2_62) rfl kk) ?_
  show Go _ _ _ _ _ _ _ T2 (mkF m 64 _ [(.int (Int32.ofNat (off + 0))), (.int (Int32.ofNat (off + 0)))])
  refine Go.step (fun tt kk => XS.icmpYes X2.here hx rfl (pc0 := 64) (pc' := 165) rfl (hb hby d2_64) rfl (flt (mt (own_lt _ _ (by omega) (by omega)).mp (by omega))).2.1 (by decide) (by decide) kk) ?_
  show Go _ _ _ _ _ _ _ T2 (mkF m 165 _ [])
  refine Go.step (fun tt kk => XS.iload X2.here hx rfl (hb hby d2_165) rfl kk) ?_
  show Go _ _ _ _ _ _ _ T2 (mkF m 167 _ [(.int (2 : Int32))])
  refine Go.step (fun tt kk => XS.ifYes X2.here hx rfl (pc0 := 167) (pc' := 173) rfl (hb hby d2_167) rfl ((if0 _ _).trans (feq (by decide)).2) (by decide) (by decide) kk) ?_
  show Go _ _ _ _ _ _ _ T2 (mkF m 173 _ [])
  refine Go.step (fun tt kk => XS.iload X2.here hx rfl (hb hby d2_173) rfl kk) ?_
  show Go _ _ _ _ _ _ _ T2 (mkF m 175 _ [(.int (2 : Int32))])
  refine Go.step (fun tt kk => XS.iconst X2.here hx rfl (hb hby d2_175) kk) ?_
  show Go _ _ _ _ _ _ _ T2 (mkF m 176 _ [(.int (1 : Int32)), (.int (2 : Int32))])
  refine Go.step (fun tt kk => XS.icmpYes X2.here hx rfl (pc0 := 176) (pc' := 191) rfl (hb hby d2_176) rfl (feq (by decide)).2 (by decide) (by decide) kk) ?_
  show Go _ _ _ _ _ _ _ T2 (mkF m 191 _ [])
  refine Go.step (fun tt kk => XS.iconst X2.here hx rfl (hb hby d2_191) kk) ?_
  show Go _ _ _ _ _ _ _ T2 (mkF m 192 _ [(.int (0 : Int32))])
  refine Go.step (fun tt kk => XS.istore X2.here hx rfl (hb hby d2_192) rfl (l' := #[.val (.ref tx), .val (.int (Int32.ofNat off)), .val (.int (4 : Int32)), .val (.int (Int32.ofNat bf)), .val (.int (1 : Int32)), .val (.int (Int32.ofNat (off + 4))), .val (.ref b2), .val (.int (2 : Int32)), .val (.int (Int32.ofNat (off + 0))), .val (.int (Int32.ofNat (bf + 0))), .val (.int (0 : Int32)), .unset, .unset]) rfl kk) ?_
  show Go _ _ _ _ _ _ _ T2 (mkF m 194 _ [])
  refine Go.step (fun tt kk => XS.aloadN X2.here hx rfl (hb hby d2_194) rfl rfl kk) ?_
  show Go _ _ _ _ _ _ _ T2 (mkF m 195 _ [(.ref tx)])
  refine Go.step (fun tt kk => XS.iload X2.here hx rfl (hb hby d2_195) rfl kk) ?_
  show Go _ _ _ _ _ _ _ T2 (mkF m 197 _ [(.int (Int32.ofNat (off + 0))), (.ref tx)])
  have f3 := (V_tx.ext E2)
  refine Go.step (a_cload X2 hx hZ e2 f3 (k := (off + 0)) (Int32.toInt_ofNat_of_lt (by omega)) (by omega) (x := (g 0)) (hF 0 (by decide)) (hb hby d2_197)) ?_
  show Go _ _ _ _ _ _ _ T2 (mkF m 198 _ [(.int (g 0))])
  have f5 := (Sta.ext E2 SV)
  have f6 := (V_va.ext E2)
  obtain ⟨v4, T4, L4, X4, q4, st4⟩ := c_static X2 hx hZ hown (y := (⟨"com/example/sharks/sharks/StandardBase64", "value", "(C)I"⟩ : MethodName)) (hw _ (List.mem_of_getElem? (i := 24) rfl)) (hw _ (List.mem_of_getElem? (i := 25) rfl)) (hw _ (List.mem_of_getElem? (i := 9) rfl)) (hw _ (List.mem_of_getElem? (i := 26) rfl)) (by decide) (argsL := [(.int (g 0))]) (rest := []) (rmVa l Z a0 hw [] va (g 0) h2 n0 Z2 (char_nn (hg 0 (by decide))).1 f5 f6) e2 pd_1 rfl (by rw [hml]; rfl) (W := 0) (by show 2 * 0 + _ ≤ _; exact Nat.le_of_eq rfl) (by decide) (by decide) (by decide) (by decide) (hb hby d2_198) (Ls := #[.val (.ref tx), .val (.int (Int32.ofNat off)), .val (.int (4 : Int32)), .val (.int (Int32.ofNat bf)), .val (.int (1 : Int32)), .val (.int (Int32.ofNat (off + 4))), .val (.ref b2), .val (.int (2 : Int32)), .val (.int (Int32.ofNat (off + 0))), .val (.int (Int32.ofNat (bf + 0))), .val (.int (0 : Int32)), .unset, .unset])
  obtain ⟨rfl, rfl, e4⟩ := q4
  have N4 := Fr.app N1 (Fr.nil n0)
  refine Go.step (st4) ?_
  show Go _ _ _ _ _ _ _ T4 (mkF m 201 _ [(.int (vl (g 0)))])
  refine Go.step (fun tt kk => XS.bipush X4.here hx rfl (hb hby d2_201) kk) ?_
  show Go _ _ _ _ _ _ _ T4 (mkF m 203 _ [(.int (18 : Int32)), (.int (vl (g 0)))])
  refine Go.step (fun tt kk => XS.ishl X4.here hx rfl (hb hby d2_203) rfl kk) ?_
  show Go _ _ _ _ _ _ _ T4 (mkF m 204 _ [(.int ((vl (g 0)) <<< ((18 : Int32) &&& 31)))])
  refine Go.step (fun tt kk => XS.aloadN X4.here hx rfl (hb hby d2_204) rfl rfl kk) ?_
  show Go _ _ _ _ _ _ _ T4 (mkF m 205 _ [(.ref tx), (.int ((vl (g 0)) <<< ((18 : Int32) &&& 31)))])
  refine Go.step (fun tt kk => XS.iload X4.here hx rfl (hb hby d2_205) rfl kk) ?_
  show Go _ _ _ _ _ _ _ T4 (mkF m 207 _ [(.int (Int32.ofNat (off + 0))), (.ref tx), (.int ((vl (g 0)) <<< ((18 : Int32) &&& 31)))])
  refine Go.step (fun tt kk => XS.iconst X4.here hx rfl (hb hby d2_207) kk) ?_
  show Go _ _ _ _ _ _ _ T4 (mkF m 208 _ [(.int (1 : Int32)), (.int (Int32.ofNat (off + 0))), (.ref tx), (.int ((vl (g 0)) <<< ((18 : Int32) &&& 31)))])
  refine Go.step (fun tt kk => XS.iadd X4.here hx rfl (hb hby d2_208) rfl kk) ?_
  show Go _ _ _ _ _ _ _ T4 (mkF m 209 _ [(.int ((Int32.ofNat (off + 0)) + (1 : Int32))), (.ref tx), (.int ((vl (g 0)) <<< ((18 : Int32) &&& 31)))])
  rw [show Int32.ofNat (off + 0) + (1 : Int32) = Int32.ofNat (off + 1) from own_add (off + 0) 1]
  show Go _ _ _ _ _ _ _ T4 (mkF m 209 #[.val (.ref tx), .val (.int (Int32.ofNat off)), .val (.int (4 : Int32)), .val (.int (Int32.ofNat bf)), .val (.int (1 : Int32)), .val (.int (Int32.ofNat (off + 4))), .val (.ref b2), .val (.int (2 : Int32)), .val (.int (Int32.ofNat (off + 0))), .val (.int (Int32.ofNat (bf + 0))), .val (.int (0 : Int32)), .unset, .unset] [(.int (Int32.ofNat (off + 1))), (.ref tx), (.int ((vl (g 0)) <<< ((18 : Int32) &&& 31)))])
  refine Go.step (a_cload X4 hx hZ e4 f3 (k := (off + 1)) (Int32.toInt_ofNat_of_lt (by omega)) (by omega) (x := (g 1)) (hF 1 (by decide)) (hb hby d2_209)) ?_
  show Go _ _ _ _ _ _ _ T4 (mkF m 210 _ [(.int (g 1)), (.int ((vl (g 0)) <<< ((18 : Int32) &&& 31)))])
  obtain ⟨v7, T7, L7, X7, q7, st7⟩ := c_static X4 hx hZ hown (y := (⟨"com/example/sharks/sharks/StandardBase64", "value", "(C)I"⟩ : MethodName)) (hw _ (List.mem_of_getElem? (i := 24) rfl)) (hw _ (List.mem_of_getElem? (i := 25) rfl)) (hw _ (List.mem_of_getElem? (i := 9) rfl)) (hw _ (List.mem_of_getElem? (i := 26) rfl)) (by decide) (argsL := [(.int (g 1))]) (rest := [(.int ((vl (g 0)) <<< ((18 : Int32) &&& 31)))]) (rmVa l Z a0 hw [] va (g 1) h2 n0 Z2 (char_nn (hg 1 (by decide))).1 f5 f6) e4 pd_1 rfl (by rw [hml]; rfl) (W := 1) (by show 2 * 0 + _ ≤ _; exact Nat.le_of_eq rfl) (by decide) (by decide) (by decide) (by decide) (hb hby d2_210) (Ls := #[.val (.ref tx), .val (.int (Int32.ofNat off)), .val (.int (4 : Int32)), .val (.int (Int32.ofNat bf)), .val (.int (1 : Int32)), .val (.int (Int32.ofNat (off + 4))), .val (.ref b2), .val (.int (2 : Int32)), .val (.int (Int32.ofNat (off + 0))), .val (.int (Int32.ofNat (bf + 0))), .val (.int (0 : Int32)), .unset, .unset])
  obtain ⟨rfl, rfl, e7⟩ := q7
  have N7 := Fr.app N4 (Fr.nil n0)
  refine Go.step (st7) ?_
  show Go _ _ _ _ _ _ _ T7 (mkF m 213 _ [(.int (vl (g 1))), (.int ((vl (g 0)) <<< ((18 : Int32) &&& 31)))])
  refine Go.step (fun tt kk => XS.bipush X7.here hx rfl (hb hby d2_213) kk) ?_
  show Go _ _ _ _ _ _ _ T7 (mkF m 215 _ [(.int (12 : Int32)), (.int (vl (g 1))), (.int ((vl (g 0)) <<< ((18 : Int32) &&& 31)))])
  refine Go.step (fun tt kk => XS.ishl X7.here hx rfl (hb hby d2_215) rfl kk) ?_
  show Go _ _ _ _ _ _ _ T7 (mkF m 216 _ [(.int ((vl (g 1)) <<< ((12 : Int32) &&& 31))), (.int ((vl (g 0)) <<< ((18 : Int32) &&& 31)))])
  refine Go.step (fun tt kk => XS.ior X7.here hx rfl (hb hby d2_216) rfl kk) ?_
  show Go _ _ _ _ _ _ _ T7 (mkF m 217 _ [(.int (((vl (g 0)) <<< ((18 : Int32) &&& 31)) ||| ((vl (g 1)) <<< ((12 : Int32) &&& 31))))])
  refine Go.step (fun tt kk => XS.iload X7.here hx rfl (hb hby d2_217) rfl kk) ?_
  show Go _ _ _ _ _ _ _ T7 (mkF m 219 _ [(.int (0 : Int32)), (.int (((vl (g 0)) <<< ((18 : Int32) &&& 31)) ||| ((vl (g 1)) <<< ((12 : Int32) &&& 31))))])
  refine Go.step (fun tt kk => XS.bipush X7.here hx rfl (hb hby d2_219) kk) ?_
  show Go _ _ _ _ _ _ _ T7 (mkF m 221 _ [(.int (6 : Int32)), (.int (0 : Int32)), (.int (((vl (g 0)) <<< ((18 : Int32) &&& 31)) ||| ((vl (g 1)) <<< ((12 : Int32) &&& 31))))])
  refine Go.step (fun tt kk => XS.ishl X7.here hx rfl (hb hby d2_221) rfl kk) ?_
  show Go _ _ _ _ _ _ _ T7 (mkF m 222 _ [(.int ((0 : Int32) <<< ((6 : Int32) &&& 31))), (.int (((vl (g 0)) <<< ((18 : Int32) &&& 31)) ||| ((vl (g 1)) <<< ((12 : Int32) &&& 31))))])
  refine Go.step (fun tt kk => XS.ior X7.here hx rfl (hb hby d2_222) rfl kk) ?_
  show Go _ _ _ _ _ _ _ T7 (mkF m 223 _ [(.int ((((vl (g 0)) <<< ((18 : Int32) &&& 31)) ||| ((vl (g 1)) <<< ((12 : Int32) &&& 31))) ||| ((0 : Int32) <<< ((6 : Int32) &&& 31))))])
  refine Go.step (fun tt kk => XS.istore X7.here hx rfl (hb hby d2_223) rfl (l' := #[.val (.ref tx), .val (.int (Int32.ofNat off)), .val (.int (4 : Int32)), .val (.int (Int32.ofNat bf)), .val (.int (1 : Int32)), .val (.int (Int32.ofNat (off + 4))), .val (.ref b2), .val (.int (2 : Int32)), .val (.int (Int32.ofNat (off + 0))), .val (.int (Int32.ofNat (bf + 0))), .val (.int (0 : Int32)), .val (.int ((((vl (g 0)) <<< ((18 : Int32) &&& 31)) ||| ((vl (g 1)) <<< ((12 : Int32) &&& 31))) ||| ((0 : Int32) <<< ((6 : Int32) &&& 31)))), .unset]) rfl kk) ?_
  show Go _ _ _ _ _ _ _ T7 (mkF m 225 _ [])
  show Go _ _ _ _ _ _ _ T7 (mkF m 225 #[.val (.ref tx), .val (.int (Int32.ofNat off)), .val (.int (4 : Int32)), .val (.int (Int32.ofNat bf)), .val (.int (1 : Int32)), .val (.int (Int32.ofNat (off + 4))), .val (.ref b2), .val (.int (2 : Int32)), .val (.int (Int32.ofNat (off + 0))), .val (.int (Int32.ofNat (bf + 0))), .val (.int (0 : Int32)), .val (.int (nt (vl (g 0)) (vl (g 1)) (0 : Int32))), .unset] [])
  refine Go.step (fun tt kk => XS.iload X7.here hx rfl (hb hby d2_225) rfl kk) ?_
  show Go _ _ _ _ _ _ _ T7 (mkF m 227 _ [(.int (2 : Int32))])
  refine Go.step (fun tt kk => XS.iconst X7.here hx rfl (hb hby d2_227) kk) ?_
  show Go _ _ _ _ _ _ _ T7 (mkF m 228 _ [(.int (1 : Int32)), (.int (2 : Int32))])
  refine Go.step (fun tt kk => XS.icmpYes X7.here hx rfl (pc0 := 228) (pc' := 237) rfl (hb hby d2_228) rfl (feq (by decide)).2 (by decide) (by decide) kk) ?_
  show Go _ _ _ _ _ _ _ T7 (mkF m 237 _ [])
  refine Go.step (X7.ldcInt hx hown (mvT hZ (hw _ (List.mem_of_getElem? (i := 35) rfl))) (g := (mkF m 237 #[.val (.ref tx), .val (.int (Int32.ofNat off)), .val (.int (4 : Int32)), .val (.int (Int32.ofNat bf)), .val (.int (1 : Int32)), .val (.int (Int32.ofNat (off + 4))), .val (.ref b2), .val (.int (2 : Int32)), .val (.int (Int32.ofNat (off + 0))), .val (.int (Int32.ofNat (bf + 0))), .val (.int (0 : Int32)), .val (.int (nt (vl (g 0)) (vl (g 1)) (0 : Int32))), .unset] [])) rfl (hb hby d2_237)) ?_
  show Go _ _ _ _ _ _ _ T7 (mkF m 239 _ [(.int (65535 : Int32))])
  refine Go.step (fun tt kk => XS.istore X7.here hx rfl (hb hby d2_239) rfl (l' := #[.val (.ref tx), .val (.int (Int32.ofNat off)), .val (.int (4 : Int32)), .val (.int (Int32.ofNat bf)), .val (.int (1 : Int32)), .val (.int (Int32.ofNat (off + 4))), .val (.ref b2), .val (.int (2 : Int32)), .val (.int (Int32.ofNat (off + 0))), .val (.int (Int32.ofNat (bf + 0))), .val (.int (0 : Int32)), .val (.int (nt (vl (g 0)) (vl (g 1)) (0 : Int32))), .val (.int (65535 : Int32))]) rfl kk) ?_
  show Go _ _ _ _ _ _ _ T7 (mkF m 241 _ [])
  refine Go.step (fun tt kk => XS.iload X7.here hx rfl (hb hby d2_241) rfl kk) ?_
  show Go _ _ _ _ _ _ _ T7 (mkF m 243 _ [(.int (nt (vl (g 0)) (vl (g 1)) (0 : Int32)))])
  by_cases c243_8 : (nt (vl (g 0)) (vl (g 1)) (0 : Int32)) < (0 : Int32)
  · refine Go.step (fun tt kk => XS.ifYes X7.here hx rfl (pc0 := 243) (pc' := 254) rfl (hb hby d2_243) rfl ((if0 _ _).trans (tlt c243_8).1) (by decide) (by decide) kk) ?_
    show Go _ _ _ _ _ _ _ T7 (mkF m 254 _ [])
    refine Go.step (fun tt kk => XS.aconstNull X7.here hx rfl (hb hby d2_254) kk) ?_
    show Go _ _ _ _ _ _ _ T7 (mkF m 255 _ [.null])
    refine go_retA X7 hx (t := (.array .byte)) hret rfl hlk rfl (hb hby d2_255) ?_ (by decide) (by decide)
    try rw [e7]
    exact ⟨N7, eI ▸ K2, fun z => absurd z (fun z => (mt (own_p2 hg (by decide)).mpr (fun y => y.1 c243_8)) z), fun _ => rfl⟩
  · refine Go.step (fun tt kk => XS.ifNo X7.here hx rfl (hb hby d2_243) rfl ((if0 _ _).trans (flt c243_8).1) kk) ?_
    show Go _ _ _ _ _ _ _ T7 (mkF m 246 _ [])
    refine Go.step (fun tt kk => XS.iload X7.here hx rfl (hb hby d2_246) rfl kk) ?_
    show Go _ _ _ _ _ _ _ T7 (mkF m 248 _ [(.int (nt (vl (g 0)) (vl (g 1)) (0 : Int32)))])
    refine Go.step (fun tt kk => XS.iload X7.here hx rfl (hb hby d2_248) rfl kk) ?_
    show Go _ _ _ _ _ _ _ T7 (mkF m 250 _ [(.int (65535 : Int32)), (.int (nt (vl (g 0)) (vl (g 1)) (0 : Int32)))])
    refine Go.step (fun tt kk => XS.iand X7.here hx rfl (hb hby d2_250) rfl kk) ?_
    show Go _ _ _ _ _ _ _ T7 (mkF m 251 _ [(.int ((nt (vl (g 0)) (vl (g 1)) (0 : Int32)) &&& (65535 : Int32)))])
    by_cases c251_9 : ((nt (vl (g 0)) (vl (g 1)) (0 : Int32)) &&& (65535 : Int32)) = (0 : Int32)
    · refine Go.step (fun tt kk => XS.ifYes X7.here hx rfl (pc0 := 251) (pc' := 256) rfl (hb hby d2_251) rfl ((if0 _ _).trans (teq c251_9).1) (by decide) (by decide) kk) ?_
      show Go _ _ _ _ _ _ _ T7 (mkF m 256 _ [])
      have okp : OK2 g 0 := (own_p2 hg (by decide)).mp ⟨c243_8, c251_9⟩
      have byp := own_q2 hg (by decide) okp
      refine Go.step (fun tt kk => XS.aload X7.here hx rfl (hb hby d2_256) rfl rfl kk) ?_
      show Go _ _ _ _ _ _ _ T7 (mkF m 258 _ [(.ref b2)])
      refine Go.step (fun tt kk => XS.iload X7.here hx rfl (hb hby d2_258) rfl kk) ?_
      show Go _ _ _ _ _ _ _ T7 (mkF m 260 _ [(.int (Int32.ofNat (bf + 0))), (.ref b2)])
      refine Go.step (fun tt kk => XS.iload X7.here hx rfl (hb hby d2_260) rfl kk) ?_
      show Go _ _ _ _ _ _ _ T7 (mkF m 262 _ [(.int (nt (vl (g 0)) (vl (g 1)) (0 : Int32))), (.int (Int32.ofNat (bf + 0))), (.ref b2)])
      refine Go.step (fun tt kk => XS.bipush X7.here hx rfl (hb hby d2_262) kk) ?_
      show Go _ _ _ _ _ _ _ T7 (mkF m 264 _ [(.int (16 : Int32)), (.int (nt (vl (g 0)) (vl (g 1)) (0 : Int32))), (.int (Int32.ofNat (bf + 0))), (.ref b2)])
      refine Go.step (fun tt kk => XS.ishr X7.here hx rfl (hb hby d2_264) rfl kk) ?_
      show Go _ _ _ _ _ _ _ T7 (mkF m 265 _ [(.int ((nt (vl (g 0)) (vl (g 1)) (0 : Int32)) >>> ((16 : Int32) &&& 31))), (.int (Int32.ofNat (bf + 0))), (.ref b2)])
      refine Go.step (fun tt kk => XS.i2b X7.here hx rfl (hb hby d2_265) rfl kk) ?_
      show Go _ _ _ _ _ _ _ T7 (mkF m 266 _ [(.int (((nt (vl (g 0)) (vl (g 1)) (0 : Int32)) >>> ((16 : Int32) &&& 31)).toInt8.toInt32)), (.int (Int32.ofNat (bf + 0))), (.ref b2)])
      show Go _ _ _ _ _ _ _ T7 (mkF m 266 #[.val (.ref tx), .val (.int (Int32.ofNat off)), .val (.int (4 : Int32)), .val (.int (Int32.ofNat bf)), .val (.int (1 : Int32)), .val (.int (Int32.ofNat (off + 4))), .val (.ref b2), .val (.int (2 : Int32)), .val (.int (Int32.ofNat (off + 0))), .val (.int (Int32.ofNat (bf + 0))), .val (.int (0 : Int32)), .val (.int (nt (vl (g 0)) (vl (g 1)) (0 : Int32))), .val (.int (65535 : Int32))] [(.int (((nt (vl (g 0)) (vl (g 1)) (0 : Int32)) >>> ((16 : Int32) &&& 31)).toInt8.toInt32)), (.int (Int32.ofNat (bf + 0))), (.ref b2)])
      obtain ⟨cl10, Ar10, hin10, -⟩ := V2.at (j := (Int32.ofNat (bf + 0))) (k := (bf + 0)) (Int32.toInt_ofNat_of_lt (by omega)) (by omega)
      obtain ⟨T10, h10, X10, e10, W10, st10⟩ := stB X7 hx hZ e7 Ar10 (j := (Int32.ofNat (bf + 0))) hin10 (g := (mkF m 266 #[.val (.ref tx), .val (.int (Int32.ofNat off)), .val (.int (4 : Int32)), .val (.int (Int32.ofNat bf)), .val (.int (1 : Int32)), .val (.int (Int32.ofNat (off + 4))), .val (.ref b2), .val (.int (2 : Int32)), .val (.int (Int32.ofNat (off + 0))), .val (.int (Int32.ofNat (bf + 0))), .val (.int (0 : Int32)), .val (.int (nt (vl (g 0)) (vl (g 1)) (0 : Int32))), .val (.int (65535 : Int32))] [(.int (((nt (vl (g 0)) (vl (g 1)) (0 : Int32)) >>> ((16 : Int32) &&& 31)).toInt8.toInt32)), (.int (Int32.ofNat (bf + 0))), (.ref b2)])) rfl rfl (hb hby d2_266)
      rw [(own_nb _)] at W10
      have V10 : AV Z h10 b2 .byte (bf + 1) (upd (fun _ => (.int (0 : Int32))) (bf + 0) (.int (((nt (vl (g 0)) (vl (g 1)) (0 : Int32)) >>> ((16 : Int32) &&& 31)).toInt8.toInt32))) := AV.set V2 (k := (bf + 0)) (Int32.toInt_ofNat_of_lt (by omega)) (by omega) W10
      have N10 := Fr.snoc X10 N7 gn_b2
      have Z10 : n0 ≤ h10.size := Nat.le_trans Z2 (Keep.of_wr W10).1
      have K10 : Keep hI h10 [] := K2.wr W10 (Or.inr sz_b2)
      refine Go.step (st10) ?_
      show Go _ _ _ _ _ _ _ T10 (mkF m 267 _ [])
      refine Go.step (fun tt kk => XS.iload X10.here hx rfl (hb hby d2_267) rfl kk) ?_
      show Go _ _ _ _ _ _ _ T10 (mkF m 269 _ [(.int (2 : Int32))])
      refine Go.step (fun tt kk => XS.iconst X10.here hx rfl (hb hby d2_269) kk) ?_
      show Go _ _ _ _ _ _ _ T10 (mkF m 270 _ [(.int (1 : Int32)), (.int (2 : Int32))])
      refine Go.step (fun tt kk => XS.icmpYes X10.here hx rfl (pc0 := 270) (pc' := 286) rfl (hb hby d2_270) rfl (feq (by decide)).2 (by decide) (by decide) kk) ?_
      show Go _ _ _ _ _ _ _ T10 (mkF m 286 _ [])
      refine Go.step (fun tt kk => XS.aload X10.here hx rfl (hb hby d2_286) rfl rfl kk) ?_
      show Go _ _ _ _ _ _ _ T10 (mkF m 288 _ [(.ref b2)])
      have V11 : AV Z h10 b2 .byte (bf + 1) (gv (exI g bf)) := V10.congr fun i hi => by
        by_cases q : i < bf
        · rw [show gv (exI g bf) i = .int 0 from congrArg Value.int (exI_lt q)]
          rw [upd_ne (by omega)]
        · obtain ⟨j, rfl⟩ : ∃ j, i = bf + j := ⟨i - bf, by omega⟩
          rw [show gv (exI g bf) (bf + j) = .int (bt g (j / 3) (j % 3)) from congrArg Value.int (exI_at j)]
          rcases (by omega : j = 0) with rfl
          · rw [upd_at (by omega)]; exact congrArg Value.int byp
      refine go_retA X10 hx (t := (.array .byte)) hret rfl hlk rfl (hb hby d2_288) ?_ (by decide) (by decide)
      try rw [e10]
      exact ⟨N10, eI ▸ K10, fun _ => ⟨b2, rfl, eI ▸ sz_b2, V11⟩, fun z => absurd okp z⟩
    · refine Go.step (fun tt kk => XS.ifNo X7.here hx rfl (hb hby d2_251) rfl ((if0 _ _).trans (feq c251_9).1) kk) ?_
      show Go _ _ _ _ _ _ _ T7 (mkF m 254 _ [])
      refine Go.step (fun tt kk => XS.aconstNull X7.here hx rfl (hb hby d2_254) kk) ?_
      show Go _ _ _ _ _ _ _ T7 (mkF m 255 _ [.null])
      refine go_retA X7 hx (t := (.array .byte)) hret rfl hlk rfl (hb hby d2_255) ?_ (by decide) (by decide)
      try rw [e7]
      exact ⟨N7, eI ▸ K2, fun z => absurd z (fun z => (mt (own_p2 hg (by decide)).mpr (fun y => c251_9 y.2)) z), fun _ => rfl⟩
theorem ef_rmDc80 (m : MethodId) (x0 : Addr) (x1 : Int32) (x2 : Int32) (x3 : Int32) : entryFrame m #[(.ref x0), (.int x1), (.int x2), (.int x3)] 13 = mkF m 0 #[.val (.ref x0), .val (.int x1), .val (.int x2), .val (.int x3), .unset, .unset, .unset, .unset, .unset, .unset, .unset, .unset, .unset] [] := by first | (simp [entryFrame, mkF, argsToLocals, Value.category]; done) | rfl
set_option maxRecDepth 65536 in
set_option maxHeartbeats 40000000 in
theorem rmDc80 (l : Launch) (Z : State) (a0 : Array Value) (hw : ∀ d ∈ tables_1, d.before a0 Z = true) (ws : List Jvm.Cond) (tx va : Addr) (off bf : Nat) (g : Nat → Int32) (F : Nat → Value) (h0 : Heap) (n0 : Nat) (Z0 : n0 ≤ h0.size) (ho : off ≤ 3) (hbf : bf ≤ 3) (hF : ∀ i, i < 8 → F (off + i) = .int (g i)) (hg : CH g) (hp1 : ¬ g 7 = 61) (SV : Sta Z h0 "com/example/sharks/sharks/StandardBase64" "VALUES" "[B" (.ref va)) (V_va : AV Z h0 va .byte 128 vt) (V_tx : AV Z h0 tx .char 12 F) :
    Ctr l Z (⟨"com/example/sharks/sharks/StandardBase64", "decode", "([CIII)[B"⟩ : MethodName) prog_9_method_2_code 13 (some (.array .byte)) ws ({ frames := 1, cells := 1, slots := 9, locals := 16 } : Room) 1 9 #[(.ref tx), (.int (Int32.ofNat off)), (.int (8 : Int32)), (.int (Int32.ofNat bf))] h0 (fun v h L => Fr n0 L ∧ Keep h0 h [] ∧ ((OK4 g 0 ∧ OK4 g 4) → ∃ b, v = some (.ref b) ∧ h0.size ≤ b ∧ AV Z h b .byte (bf + 6) (gv (exI g bf))) ∧ (¬ (OK4 g 0 ∧ OK4 g 4) → v = some .null)) := by
  refine Ctr.mk (plainFor_of_name pn_1) fun p e s m below meth c T0 X0 C e0 => go_cast (ef_rmDc80 m tx (Int32.ofNat off) (8 : Int32) (Int32.ofNat bf)) ?_
  have N0 := Fr.nil n0
  obtain ⟨hx, hZ, hby, hml, hown, hnm, hret, hlk⟩ := C
  obtain ⟨hI, eI⟩ : ∃ z, z = h0 := ⟨_, rfl⟩
  have K0 : Keep hI h0 [] := by rw [eI]; exact Keep.refl _ _
  show Go _ _ _ _ _ _ _ T0 (mkF m 0 #[.val (.ref tx), .val (.int (Int32.ofNat off)), .val (.int (8 : Int32)), .val (.int (Int32.ofNat bf)), .unset, .unset, .unset, .unset, .unset, .unset, .unset, .unset, .unset] [])
  refine Go.step (fun tt kk => XS.aloadN X0.here hx rfl (hb hby d2_0) rfl rfl kk) ?_
  show Go _ _ _ _ _ _ _ T0 (mkF m 1 _ [(.ref tx)])
  refine Go.step (fun tt kk => XS.iloadN X0.here hx rfl (hb hby d2_1) rfl kk) ?_
  show Go _ _ _ _ _ _ _ T0 (mkF m 2 _ [(.int (Int32.ofNat off)), (.ref tx)])
  refine Go.step (fun tt kk => XS.iloadN X0.here hx rfl (hb hby d2_2) rfl kk) ?_
  show Go _ _ _ _ _ _ _ T0 (mkF m 3 _ [(.int (8 : Int32)), (.int (Int32.ofNat off)), (.ref tx)])
  obtain ⟨v1, T1, L1, X1, q1, st1⟩ := c_static X0 hx hZ hown (y := (⟨"com/example/sharks/sharks/StandardBase64", "decodedLength", "([CII)I"⟩ : MethodName)) (hw _ (List.mem_of_getElem? (i := 11) rfl)) (hw _ (List.mem_of_getElem? (i := 12) rfl)) (hw _ (List.mem_of_getElem? (i := 9) rfl)) (hw _ (List.mem_of_getElem? (i := 13) rfl)) (by decide) (argsL := [(.ref tx), (.int (Int32.ofNat off)), (.int (8 : Int32))]) (rest := []) (rmD l Z a0 hw [] tx off 8 (g 7) (g 6) F h0 n0 Z0 ho (by decide) V_tx (hF 7 (by decide)) (hF 6 (by decide))) e0 pd_0 rfl (by rw [hml]; rfl) (W := 0) (by show 2 * 0 + _ ≤ _; exact Nat.le_of_eq rfl) (by decide) (by decide) (by decide) (by decide) (hb hby d2_3) (Ls := #[.val (.ref tx), .val (.int (Int32.ofNat off)), .val (.int (8 : Int32)), .val (.int (Int32.ofNat bf)), .unset, .unset, .unset, .unset, .unset, .unset, .unset, .unset, .unset])
  obtain ⟨rfl, rfl, e1⟩ := q1
  have N1 := Fr.app N0 (Fr.nil n0)
  refine Go.step (st1) ?_
  show Go _ _ _ _ _ _ _ T1 (mkF m 6 _ [(.int (dl 8 (g 7) (g 6)))])
  rw [show dl 8 (g 7) (g 6) = (6 : Int32) from by unfold dl; rw [if_neg hp1]; decide]
  show Go _ _ _ _ _ _ _ T1 (mkF m 6 #[.val (.ref tx), .val (.int (Int32.ofNat off)), .val (.int (8 : Int32)), .val (.int (Int32.ofNat bf)), .unset, .unset, .unset, .unset, .unset, .unset, .unset, .unset, .unset] [(.int (6 : Int32))])
  refine Go.step (fun tt kk => XS.istore X1.here hx rfl (hb hby d2_6) rfl (l' := #[.val (.ref tx), .val (.int (Int32.ofNat off)), .val (.int (8 : Int32)), .val (.int (Int32.ofNat bf)), .val (.int (6 : Int32)), .unset, .unset, .unset, .unset, .unset, .unset, .unset, .unset]) rfl kk) ?_
  show Go _ _ _ _ _ _ _ T1 (mkF m 8 _ [])
  refine Go.step (fun tt kk => XS.iload X1.here hx rfl (hb hby d2_8) rfl kk) ?_
  show Go _ _ _ _ _ _ _ T1 (mkF m 10 _ [(.int (6 : Int32))])
  refine Go.step (fun tt kk => XS.ifYes X1.here hx rfl (pc0 := 10) (pc' := 15) rfl (hb hby d2_10) rfl ((if0 _ _).trans (flt (by decide)).2.1) (by decide) (by decide) kk) ?_
  show Go _ _ _ _ _ _ _ T1 (mkF m 15 _ [])
  refine Go.step (fun tt kk => XS.iloadN X1.here hx rfl (hb hby d2_15) rfl kk) ?_
  show Go _ _ _ _ _ _ _ T1 (mkF m 16 _ [(.int (Int32.ofNat off))])
  refine Go.step (fun tt kk => XS.iloadN X1.here hx rfl (hb hby d2_16) rfl kk) ?_
  show Go _ _ _ _ _ _ _ T1 (mkF m 17 _ [(.int (8 : Int32)), (.int (Int32.ofNat off))])
  refine Go.step (fun tt kk => XS.iadd X1.here hx rfl (hb hby d2_17) rfl kk) ?_
  show Go _ _ _ _ _ _ _ T1 (mkF m 18 _ [(.int ((Int32.ofNat off) + (8 : Int32)))])
  rw [show Int32.ofNat off + (8 : Int32) = Int32.ofNat (off + 8) from own_add off 8]
  show Go _ _ _ _ _ _ _ T1 (mkF m 18 #[.val (.ref tx), .val (.int (Int32.ofNat off)), .val (.int (8 : Int32)), .val (.int (Int32.ofNat bf)), .val (.int (6 : Int32)), .unset, .unset, .unset, .unset, .unset, .unset, .unset, .unset] [(.int (Int32.ofNat (off + 8)))])
  refine Go.step (fun tt kk => XS.istore X1.here hx rfl (hb hby d2_18) rfl (l' := #[.val (.ref tx), .val (.int (Int32.ofNat off)), .val (.int (8 : Int32)), .val (.int (Int32.ofNat bf)), .val (.int (6 : Int32)), .val (.int (Int32.ofNat (off + 8))), .unset, .unset, .unset, .unset, .unset, .unset, .unset]) rfl kk) ?_
  show Go _ _ _ _ _ _ _ T1 (mkF m 20 _ [])
  refine Go.step (fun tt kk => XS.iloadN X1.here hx rfl (hb hby d2_20) rfl kk) ?_
  show Go _ _ _ _ _ _ _ T1 (mkF m 21 _ [(.int (Int32.ofNat bf))])
  refine Go.step (fun tt kk => XS.iload X1.here hx rfl (hb hby d2_21) rfl kk) ?_
  show Go _ _ _ _ _ _ _ T1 (mkF m 23 _ [(.int (6 : Int32)), (.int (Int32.ofNat bf))])
  refine Go.step (fun tt kk => XS.iadd X1.here hx rfl (hb hby d2_23) rfl kk) ?_
  show Go _ _ _ _ _ _ _ T1 (mkF m 24 _ [(.int ((Int32.ofNat bf) + (6 : Int32)))])
  rw [show Int32.ofNat bf + (6 : Int32) = Int32.ofNat (bf + 6) from own_add bf 6]
  show Go _ _ _ _ _ _ _ T1 (mkF m 24 #[.val (.ref tx), .val (.int (Int32.ofNat off)), .val (.int (8 : Int32)), .val (.int (Int32.ofNat bf)), .val (.int (6 : Int32)), .val (.int (Int32.ofNat (off + 8))), .unset, .unset, .unset, .unset, .unset, .unset, .unset] [(.int (Int32.ofNat (bf + 6)))])
  obtain ⟨T2, h2, k2, X2, e2, E2, A2, EA2, st2⟩ := newPE X1 hx hZ (hw _ (List.mem_of_getElem? (i := 20) rfl)) e1 (g := (mkF m 24 #[.val (.ref tx), .val (.int (Int32.ofNat off)), .val (.int (8 : Int32)), .val (.int (Int32.ofNat bf)), .val (.int (6 : Int32)), .val (.int (Int32.ofNat (off + 8))), .unset, .unset, .unset, .unset, .unset, .unset, .unset] [(.int (Int32.ofNat (bf + 6)))])) rfl (hb hby d2_24) rfl (own_nn (bf + 6) (by omega)) (cap := 9) (by rw [clamp_of (k := bf + 6) (Int32.toInt_ofNat_of_lt (by omega))]; omega) (by decide) (by decide) (by decide) (ad := "[B") rfl
  obtain ⟨b2, g2⟩ : ∃ z, z = h0.size := ⟨_, rfl⟩
  rw [← g2] at A2 EA2 st2
  have ne_tx_b2 : tx ≠ b2 := Nat.ne_of_lt (Nat.lt_of_lt_of_le V_tx.lt (Nat.le_of_eq g2.symm))
  have ne_va_b2 : va ≠ b2 := Nat.ne_of_lt (Nat.lt_of_lt_of_le V_va.lt (Nat.le_of_eq g2.symm))
  have gn_b2 : n0 ≤ b2 := Nat.le_trans Z0 (Nat.le_of_eq g2.symm)
  have sz_b2 : hI.size ≤ b2 := Nat.le_trans K0.1 (Nat.le_of_eq g2.symm)
  have Z2 : n0 ≤ h2.size := Nat.le_trans Z0 E2.1
  have K2 : Keep hI h2 [] := K0.ext E2
  have V2 : AV Z h2 b2 .byte (bf + 6) (fun _ => (.int (0 : Int32))) := AV.new A2 (Int32.toInt_ofNat_of_lt (by omega))
  refine Go.step (st2) ?_
  show Go _ _ _ _ _ _ _ T2 (mkF m 26 _ [(.ref b2)])
  refine Go.step (fun tt kk => XS.astore X2.here hx rfl (hb hby d2_26) rfl rfl (l' := #[.val (.ref tx), .val (.int (Int32.ofNat off)), .val (.int (8 : Int32)), .val (.int (Int32.ofNat bf)), .val (.int (6 : Int32)), .val (.int (Int32.ofNat (off + 8))), .val (.ref b2), .unset, .unset, .unset, .unset, .unset, .unset]) rfl kk) ?_
  show Go _ _ _ _ _ _ _ T2 (mkF m 28 _ [])
  refine Go.step (fun tt kk => XS.iloadN X2.here hx rfl (hb hby d2_28) rfl kk) ?_
  show Go _ _ _ _ _ _ _ T2 (mkF m 29 _ [(.int (8 : Int32))])
  refine Go.step (fun tt kk => XS.iconst X2.here hx rfl (hb hby d2_29) kk) ?_
  show Go _ _ _ _ _ _ _ T2 (mkF m 30 _ [(.int (4 : Int32)), (.int (8 : Int32))])
  refine Go.step (fun tt kk => XS.idiv X2.here hx rfl (hb hby d2_30) rfl (by decide) kk) ?_
  show Go _ _ _ _ _ _ _ T2 (mkF m 31 _ [(.int ((8 : Int32) / (4 : Int32)))])
  refine Go.step (fun tt kk => XS.iconst X2.here hx rfl (hb hby d2_31) kk) ?_
  show Go _ _ _ _ _ _ _ T2 (mkF m 32 _ [(.int (3 : Int32)), (.int ((8 : Int32) / (4 : Int32)))])
  refine Go.step (fun tt kk => XS.imul X2.here hx rfl (hb hby d2_32) rfl kk) ?_
  show Go _ _ _ _ _ _ _ T2 (mkF m 33 _ [(.int (((8 : Int32) / (4 : Int32)) * (3 : Int32)))])
  refine Go.step (fun tt kk => XS.iload X2.here hx rfl (hb hby d2_33) rfl kk) ?_
  show Go _ _ _ _ _ _ _ T2 (mkF m 35 _ [(.int (6 : Int32)), (.int (((8 : Int32) / (4 : Int32)) * (3 : Int32)))])
  refine Go.step (fun tt kk => XS.isub X2.here hx rfl (hb hby d2_35) rfl kk) ?_
  show Go _ _ _ _ _ _ _ T2 (mkF m 36 _ [(.int ((((8 : Int32) / (4 : Int32)) * (3 : Int32)) - (6 : Int32)))])
  rw [show ((((8 : Int32) / (4 : Int32)) * (3 : Int32)) - (6 : Int32)) = (0 : Int32) by decide]
  show Go _ _ _ _ _ _ _ T2 (mkF m 36 #[.val (.ref tx), .val (.int (Int32.ofNat off)), .val (.int (8 : Int32)), .val (.int (Int32.ofNat bf)), .val (.int (6 : Int32)), .val (.int (Int32.ofNat (off + 8))), .val (.ref b2), .unset, .unset, .unset, .unset, .unset, .unset] [(.int (0 : Int32))])
  refine Go.step (fun tt kk => XS.istore X2.here hx rfl (hb hby d2_36) rfl (l' := #[.val (.ref tx), .val (.int (Int32.ofNat off)), .val (.int (8 : Int32)), .val (.int (Int32.ofNat bf)), .val (.int (6 : Int32)), .val (.int (Int32.ofNat (off + 8))), .val (.ref b2), .val (.int (0 : Int32)), .unset, .unset, .unset, .unset, .unset]) rfl kk) ?_
  show Go _ _ _ _ _ _ _ T2 (mkF m 38 _ [])
  refine Go.step (fun tt kk => XS.iload X2.here hx rfl (hb hby d2_38) rfl kk) ?_
  show Go _ _ _ _ _ _ _ T2 (mkF m 40 _ [(.int (0 : Int32))])
  refine Go.step (fun tt kk => XS.ifNo X2.here hx rfl (hb hby d2_40) rfl ((if0 _ _).trans (teq (by decide)).2) kk) ?_
  show Go _ _ _ _ _ _ _ T2 (mkF m 43 _ [])
  refine Go.step (fun tt kk => XS.iload X2.here hx rfl (hb hby d2_43) rfl kk) ?_
  show Go _ _ _ _ _ _ _ T2 (mkF m 45 _ [(.int (Int32.ofNat (off + 8)))])
  refine Go.step (fun tt kk => XS.goto X2.here hx rfl (pc0 := 45) (pc' := 52) rfl (hb hby d2_45) (by decide) (by decide) kk) ?_
  show Go _ _ _ _ _ _ _ T2 (mkF m 52 _ [(.int (Int32.ofNat (off + 8)))])
  refine Go.step (fun tt kk => XS.istore X2.here hx rfl (hb hby d2_52) rfl (l' := #[.val (.ref tx), .val (.int (Int32.ofNat off)), .val (.int (8 : Int32)), .val (.int (Int32.ofNat bf)), .val (.int (6 : Int32)), .val (.int (Int32.ofNat (off + 8))), .val (.ref b2), .val (.int (0 : Int32)), .val (.int (Int32.ofNat (off + 8))), .unset, .unset, .unset, .unset]) rfl kk) ?_
  show Go _ _ _ _ _ _ _ T2 (mkF m 54 _ [])
  refine Go.step (fun tt kk => XS.iloadN X2.here hx rfl (hb hby d2_54) rfl kk) ?_
  show Go _ _ _ _ _ _ _ T2 (mkF m 55 _ [(.int (Int32.ofNat bf))])
  refine Go.step (fun tt kk => XS.istore X2.here hx rfl (hb hby d2_55) rfl (l' := #[.val (.ref tx), .val (.int (Int32.ofNat off)), .val (.int (8 : Int32)), .val (.int (Int32.ofNat bf)), .val (.int (6 : Int32)), .val (.int (Int32.ofNat (off + 8))), .val (.ref b2), .val (.int (0 : Int32)), .val (.int (Int32.ofNat (off + 8))), .val (.int (Int32.ofNat bf)), .unset, .unset, .unset]) rfl kk) ?_
  show Go _ _ _ _ _ _ _ T2 (mkF m 57 _ [])
  refine Go.step (fun tt kk => XS.iloadN X2.here hx rfl (hb hby d2_57) rfl kk) ?_
  show Go _ _ _ _ _ _ _ T2 (mkF m 58 _ [(.int (Int32.ofNat off))])
  refine Go.step (fun tt kk => XS.istore X2.here hx rfl (hb hby d2_58) rfl (l' := #[.val (.ref tx), .val (.int (Int32.ofNat off)), .val (.int (8 : Int32)), .val (.int (Int32.ofNat bf)), .val (.int (6 : Int32)), .val (.int (Int32.ofNat (off + 8))), .val (.ref b2), .val (.int (0 : Int32)), .val (.int (Int32.ofNat (off + 8))), .val (.int (Int32.ofNat bf)), .val (.int (Int32.ofNat off)), .unset, .unset]) rfl kk) ?_
  show Go _ _ _ _ _ _ _ T2 (mkF m 60 _ [])
  show Go _ _ _ _ _ _ _ T2 (mkF m 60 #[.val (.ref tx), .val (.int (Int32.ofNat off)), .val (.int (8 : Int32)), .val (.int (Int32.ofNat bf)), .val (.int (6 : Int32)), .val (.int (Int32.ofNat (off + 8))), .val (.ref b2), .val (.int (0 : Int32)), .val (.int (Int32.ofNat (off + 8))), .val (.int (Int32.ofNat (bf + 0))), .val (.int (Int32.ofNat (off + 0))), .unset, .unset] [])
  refine Go.step (fun tt kk => XS.iload X2.here hx rfl (hb hby d2_60) rfl kk) ?_
  show Go _ _ _ _ _ _ _ T2 (mkF m 62 _ [(.int (Int32.ofNat (off + 0)))])
  refine Go.step (fun tt kk => XS.iload X2.here hx rfl (hb hby d2_62) rfl kk) ?_
  show Go _ _ _ _ _ _ _ T2 (mkF m 64 _ [(.int (Int32.ofNat (off + 8))), (.int (Int32.ofNat (off + 0)))])
  refine Go.step (fun tt kk => XS.icmpNo X2.here hx rfl (hb hby d2_64) rfl (tlt ((own_lt _ _ (by omega) (by omega)).mpr (by omega))).2.1 kk) ?_
  show Go _ _ _ _ _ _ _ T2 (mkF m 67 _ [])
  refine Go.step (fun tt kk => XS.aloadN X2.here hx rfl (hb hby d2_67) rfl rfl kk) ?_
  show Go _ _ _ _ _ _ _ T2 (mkF m 68 _ [(.ref tx)])
  refine Go.step (fun tt kk => XS.iload X2.here hx rfl (hb hby d2_68) rfl kk) ?_
  show Go _ _ _ _ _ _ _ T2 (mkF m 70 _ [(.int (Int32.ofNat (off + 0))), (.ref tx)])
  have f3 := (V_tx.ext E2)
  refine Go.step (a_cload X2 hx hZ e2 f3 (k := (off + 0)) (Int32.toInt_ofNat_of_lt (by omega)) (by omega) (x := (g 0)) (hF 0 (by decide)) (hb hby d2_70)) ?_
  show Go _ _ _ _ _ _ _ T2 (mkF m 71 _ [(.int (g 0))])
  have f5 := (Sta.ext E2 SV)
  have f6 := (V_va.ext E2)
  obtain ⟨v4, T4, L4, X4, q4, st4⟩ := c_static X2 hx hZ hown (y := (⟨"com/example/sharks/sharks/StandardBase64", "value", "(C)I"⟩ : MethodName)) (hw _ (List.mem_of_getElem? (i := 24) rfl)) (hw _ (List.mem_of_getElem? (i := 25) rfl)) (hw _ (List.mem_of_getElem? (i := 9) rfl)) (hw _ (List.mem_of_getElem? (i := 26) rfl)) (by decide) (argsL := [(.int (g 0))]) (rest := []) (rmVa l Z a0 hw [] va (g 0) h2 n0 Z2 (char_nn (hg 0 (by decide))).1 f5 f6) e2 pd_1 rfl (by rw [hml]; rfl) (W := 0) (by show 2 * 0 + _ ≤ _; exact Nat.le_of_eq rfl) (by decide) (by decide) (by decide) (by decide) (hb hby d2_71) (Ls := #[.val (.ref tx), .val (.int (Int32.ofNat off)), .val (.int (8 : Int32)), .val (.int (Int32.ofNat bf)), .val (.int (6 : Int32)), .val (.int (Int32.ofNat (off + 8))), .val (.ref b2), .val (.int (0 : Int32)), .val (.int (Int32.ofNat (off + 8))), .val (.int (Int32.ofNat (bf + 0))), .val (.int (Int32.ofNat (off + 0))), .unset, .unset])
  obtain ⟨rfl, rfl, e4⟩ := q4
  have N4 := Fr.app N1 (Fr.nil n0)
  refine Go.step (st4) ?_
  show Go _ _ _ _ _ _ _ T4 (mkF m 74 _ [(.int (vl (g 0)))])
  refine Go.step (fun tt kk => XS.bipush X4.here hx rfl (hb hby d2_74) kk) ?_
  show Go _ _ _ _ _ _ _ T4 (mkF m 76 _ [(.int (18 : Int32)), (.int (vl (g 0)))])
  refine Go.step (fun tt kk => XS.ishl X4.here hx rfl (hb hby d2_76) rfl kk) ?_
  show Go _ _ _ _ _ _ _ T4 (mkF m 77 _ [(.int ((vl (g 0)) <<< ((18 : Int32) &&& 31)))])
  refine Go.step (fun tt kk => XS.aloadN X4.here hx rfl (hb hby d2_77) rfl rfl kk) ?_
  show Go _ _ _ _ _ _ _ T4 (mkF m 78 _ [(.ref tx), (.int ((vl (g 0)) <<< ((18 : Int32) &&& 31)))])
  refine Go.step (fun tt kk => XS.iload X4.here hx rfl (hb hby d2_78) rfl kk) ?_
  show Go _ _ _ _ _ _ _ T4 (mkF m 80 _ [(.int (Int32.ofNat (off + 0))), (.ref tx), (.int ((vl (g 0)) <<< ((18 : Int32) &&& 31)))])
  refine Go.step (fun tt kk => XS.iconst X4.here hx rfl (hb hby d2_80) kk) ?_
  show Go _ _ _ _ _ _ _ T4 (mkF m 81 _ [(.int (1 : Int32)), (.int (Int32.ofNat (off + 0))), (.ref tx), (.int ((vl (g 0)) <<< ((18 : Int32) &&& 31)))])
  refine Go.step (fun tt kk => XS.iadd X4.here hx rfl (hb hby d2_81) rfl kk) ?_
  show Go _ _ _ _ _ _ _ T4 (mkF m 82 _ [(.int ((Int32.ofNat (off + 0)) + (1 : Int32))), (.ref tx), (.int ((vl (g 0)) <<< ((18 : Int32) &&& 31)))])
  rw [show Int32.ofNat (off + 0) + (1 : Int32) = Int32.ofNat (off + 1) from own_add (off + 0) 1]
  show Go _ _ _ _ _ _ _ T4 (mkF m 82 #[.val (.ref tx), .val (.int (Int32.ofNat off)), .val (.int (8 : Int32)), .val (.int (Int32.ofNat bf)), .val (.int (6 : Int32)), .val (.int (Int32.ofNat (off + 8))), .val (.ref b2), .val (.int (0 : Int32)), .val (.int (Int32.ofNat (off + 8))), .val (.int (Int32.ofNat (bf + 0))), .val (.int (Int32.ofNat (off + 0))), .unset, .unset] [(.int (Int32.ofNat (off + 1))), (.ref tx), (.int ((vl (g 0)) <<< ((18 : Int32) &&& 31)))])
  refine Go.step (a_cload X4 hx hZ e4 f3 (k := (off + 1)) (Int32.toInt_ofNat_of_lt (by omega)) (by omega) (x := (g 1)) (hF 1 (by decide)) (hb hby d2_82)) ?_
  show Go _ _ _ _ _ _ _ T4 (mkF m 83 _ [(.int (g 1)), (.int ((vl (g 0)) <<< ((18 : Int32) &&& 31)))])
  obtain ⟨v7, T7, L7, X7, q7, st7⟩ := c_static X4 hx hZ hown (y := (⟨"com/example/sharks/sharks/StandardBase64", "value", "(C)I"⟩ : MethodName)) (hw _ (List.mem_of_getElem? (i := 24) rfl)) (hw _ (List.mem_of_getElem? (i := 25) rfl)) (hw _ (List.mem_of_getElem? (i := 9) rfl)) (hw _ (List.mem_of_getElem? (i := 26) rfl)) (by decide) (argsL := [(.int (g 1))]) (rest := [(.int ((vl (g 0)) <<< ((18 : Int32) &&& 31)))]) (rmVa l Z a0 hw [] va (g 1) h2 n0 Z2 (char_nn (hg 1 (by decide))).1 f5 f6) e4 pd_1 rfl (by rw [hml]; rfl) (W := 1) (by show 2 * 0 + _ ≤ _; exact Nat.le_of_eq rfl) (by decide) (by decide) (by decide) (by decide) (hb hby d2_83) (Ls := #[.val (.ref tx), .val (.int (Int32.ofNat off)), .val (.int (8 : Int32)), .val (.int (Int32.ofNat bf)), .val (.int (6 : Int32)), .val (.int (Int32.ofNat (off + 8))), .val (.ref b2), .val (.int (0 : Int32)), .val (.int (Int32.ofNat (off + 8))), .val (.int (Int32.ofNat (bf + 0))), .val (.int (Int32.ofNat (off + 0))), .unset, .unset])
  obtain ⟨rfl, rfl, e7⟩ := q7
  have N7 := Fr.app N4 (Fr.nil n0)
  refine Go.step (st7) ?_
  show Go _ _ _ _ _ _ _ T7 (mkF m 86 _ [(.int (vl (g 1))), (.int ((vl (g 0)) <<< ((18 : Int32) &&& 31)))])
  refine Go.step (fun tt kk => XS.bipush X7.here hx rfl (hb hby d2_86) kk) ?_
  show Go _ _ _ _ _ _ _ T7 (mkF m 88 _ [(.int (12 : Int32)), (.int (vl (g 1))), (.int ((vl (g 0)) <<< ((18 : Int32) &&& 31)))])
  refine Go.step (fun tt kk => XS.ishl X7.here hx rfl (hb hby d2_88) rfl kk) ?_
  show Go _ _ _ _ _ _ _ T7 (mkF m 89 _ [(.int ((vl (g 1)) <<< ((12 : Int32) &&& 31))), (.int ((vl (g 0)) <<< ((18 : Int32) &&& 31)))])
  refine Go.step (fun tt kk => XS.ior X7.here hx rfl (hb hby d2_89) rfl kk) ?_
  show Go _ _ _ _ _ _ _ T7 (mkF m 90 _ [(.int (((vl (g 0)) <<< ((18 : Int32) &&& 31)) ||| ((vl (g 1)) <<< ((12 : Int32) &&& 31))))])
  refine Go.step (fun tt kk => XS.aloadN X7.here hx rfl (hb hby d2_90) rfl rfl kk) ?_
  show Go _ _ _ _ _ _ _ T7 (mkF m 91 _ [(.ref tx), (.int (((vl (g 0)) <<< ((18 : Int32) &&& 31)) ||| ((vl (g 1)) <<< ((12 : Int32) &&& 31))))])
  refine Go.step (fun tt kk => XS.iload X7.here hx rfl (hb hby d2_91) rfl kk) ?_
  show Go _ _ _ _ _ _ _ T7 (mkF m 93 _ [(.int (Int32.ofNat (off + 0))), (.ref tx), (.int (((vl (g 0)) <<< ((18 : Int32) &&& 31)) ||| ((vl (g 1)) <<< ((12 : Int32) &&& 31))))])
  refine Go.step (fun tt kk => XS.iconst X7.here hx rfl (hb hby d2_93) kk) ?_
  show Go _ _ _ _ _ _ _ T7 (mkF m 94 _ [(.int (2 : Int32)), (.int (Int32.ofNat (off + 0))), (.ref tx), (.int (((vl (g 0)) <<< ((18 : Int32) &&& 31)) ||| ((vl (g 1)) <<< ((12 : Int32) &&& 31))))])
  refine Go.step (fun tt kk => XS.iadd X7.here hx rfl (hb hby d2_94) rfl kk) ?_
  show Go _ _ _ _ _ _ _ T7 (mkF m 95 _ [(.int ((Int32.ofNat (off + 0)) + (2 : Int32))), (.ref tx), (.int (((vl (g 0)) <<< ((18 : Int32) &&& 31)) ||| ((vl (g 1)) <<< ((12 : Int32) &&& 31))))])
  rw [show Int32.ofNat (off + 0) + (2 : Int32) = Int32.ofNat (off + 2) from own_add (off + 0) 2]
  show Go _ _ _ _ _ _ _ T7 (mkF m 95 #[.val (.ref tx), .val (.int (Int32.ofNat off)), .val (.int (8 : Int32)), .val (.int (Int32.ofNat bf)), .val (.int (6 : Int32)), .val (.int (Int32.ofNat (off + 8))), .val (.ref b2), .val (.int (0 : Int32)), .val (.int (Int32.ofNat (off + 8))), .val (.int (Int32.ofNat (bf + 0))), .val (.int (Int32.ofNat (off + 0))), .unset, .unset] [(.int (Int32.ofNat (off + 2))), (.ref tx), (.int (((vl (g 0)) <<< ((18 : Int32) &&& 31)) ||| ((vl (g 1)) <<< ((12 : Int32) &&& 31))))])
  refine Go.step (a_cload X7 hx hZ e7 f3 (k := (off + 2)) (Int32.toInt_ofNat_of_lt (by omega)) (by omega) (x := (g 2)) (hF 2 (by decide)) (hb hby d2_95)) ?_
  show Go _ _ _ _ _ _ _ T7 (mkF m 96 _ [(.int (g 2)), (.int (((vl (g 0)) <<< ((18 : Int32) &&& 31)) ||| ((vl (g 1)) <<< ((12 : Int32) &&& 31))))])
  obtain ⟨v8, T8, L8, X8, q8, st8⟩ := c_static X7 hx hZ hown (y := (⟨"com/example/sharks/sharks/StandardBase64", "value", "(C)I"⟩ : MethodName)) (hw _ (List.mem_of_getElem? (i := 24) rfl)) (hw _ (List.mem_of_getElem? (i := 25) rfl)) (hw _ (List.mem_of_getElem? (i := 9) rfl)) (hw _ (List.mem_of_getElem? (i := 26) rfl)) (by decide) (argsL := [(.int (g 2))]) (rest := [(.int (((vl (g 0)) <<< ((18 : Int32) &&& 31)) ||| ((vl (g 1)) <<< ((12 : Int32) &&& 31))))]) (rmVa l Z a0 hw [] va (g 2) h2 n0 Z2 (char_nn (hg 2 (by decide))).1 f5 f6) e7 pd_1 rfl (by rw [hml]; rfl) (W := 1) (by show 2 * 0 + _ ≤ _; exact Nat.le_of_eq rfl) (by decide) (by decide) (by decide) (by decide) (hb hby d2_96) (Ls := #[.val (.ref tx), .val (.int (Int32.ofNat off)), .val (.int (8 : Int32)), .val (.int (Int32.ofNat bf)), .val (.int (6 : Int32)), .val (.int (Int32.ofNat (off + 8))), .val (.ref b2), .val (.int (0 : Int32)), .val (.int (Int32.ofNat (off + 8))), .val (.int (Int32.ofNat (bf + 0))), .val (.int (Int32.ofNat (off + 0))), .unset, .unset])
  obtain ⟨rfl, rfl, e8⟩ := q8
  have N8 := Fr.app N7 (Fr.nil n0)
  refine Go.step (st8) ?_
  show Go _ _ _ _ _ _ _ T8 (mkF m 99 _ [(.int (vl (g 2))), (.int (((vl (g 0)) <<< ((18 : Int32) &&& 31)) ||| ((vl (g 1)) <<< ((12 : Int32) &&& 31))))])
  refine Go.step (fun tt kk => XS.bipush X8.here hx rfl (hb hby d2_99) kk) ?_
  show Go _ _ _ _ _ _ _ T8 (mkF m 101 _ [(.int (6 : Int32)), (.int (vl (g 2))), (.int (((vl (g 0)) <<< ((18 : Int32) &&& 31)) ||| ((vl (g 1)) <<< ((12 : Int32) &&& 31))))])
  refine Go.step (fun tt kk => XS.ishl X8.here hx rfl (hb hby d2_101) rfl kk) ?_
  show Go _ _ _ _ _ _ _ T8 (mkF m 102 _ [(.int ((vl (g 2)) <<< ((6 : Int32) &&& 31))), (.int (((vl (g 0)) <<< ((18 : Int32) &&& 31)) ||| ((vl (g 1)) <<< ((12 : Int32) &&& 31))))])
  refine Go.step (fun tt kk => XS.ior X8.here hx rfl (hb hby d2_102) rfl kk) ?_
  show Go _ _ _ _ _ _ _ T8 (mkF m 103 _ [(.int ((((vl (g 0)) <<< ((18 : Int32) &&& 31)) ||| ((vl (g 1)) <<< ((12 : Int32) &&& 31))) ||| ((vl (g 2)) <<< ((6 : Int32) &&& 31))))])
  refine Go.step (fun tt kk => XS.aloadN X8.here hx rfl (hb hby d2_103) rfl rfl kk) ?_
  show Go _ _ _ _ _ _ _ T8 (mkF m 104 _ [(.ref tx), (.int ((((vl (g 0)) <<< ((18 : Int32) &&& 31)) ||| ((vl (g 1)) <<< ((12 : Int32) &&& 31))) ||| ((vl (g 2)) <<< ((6 : Int32) &&& 31))))])
  refine Go.step (fun tt kk => XS.iload X8.here hx rfl (hb hby d2_104) rfl kk) ?_
  show Go _ _ _ _ _ _ _ T8 (mkF m 106 _ [(.int (Int32.ofNat (off + 0))), (.ref tx), (.int ((((vl (g 0)) <<< ((18 : Int32) &&& 31)) ||| ((vl (g 1)) <<< ((12 : Int32) &&& 31))) ||| ((vl (g 2)) <<< ((6 : Int32) &&& 31))))])
  refine Go.step (fun tt kk => XS.iconst X8.here hx rfl (hb hby d2_106) kk) ?_
  show Go _ _ _ _ _ _ _ T8 (mkF m 107 _ [(.int (3 : Int32)), (.int (Int32.ofNat (off + 0))), (.ref tx), (.int ((((vl (g 0)) <<< ((18 : Int32) &&& 31)) ||| ((vl (g 1)) <<< ((12 : Int32) &&& 31))) ||| ((vl (g 2)) <<< ((6 : Int32) &&& 31))))])
  refine Go.step (fun tt kk => XS.iadd X8.here hx rfl (hb hby d2_107) rfl kk) ?_
  show Go _ _ _ _ _ _ _ T8 (mkF m 108 _ [(.int ((Int32.ofNat (off + 0)) + (3 : Int32))), (.ref tx), (.int ((((vl (g 0)) <<< ((18 : Int32) &&& 31)) ||| ((vl (g 1)) <<< ((12 : Int32) &&& 31))) ||| ((vl (g 2)) <<< ((6 : Int32) &&& 31))))])
  rw [show Int32.ofNat (off + 0) + (3 : Int32) = Int32.ofNat (off + 3) from own_add (off + 0) 3]
  show Go _ _ _ _ _ _ _ T8 (mkF m 108 #[.val (.ref tx), .val (.int (Int32.ofNat off)), .val (.int (8 : Int32)), .val (.int (Int32.ofNat bf)), .val (.int (6 : Int32)), .val (.int (Int32.ofNat (off + 8))), .val (.ref b2), .val (.int (0 : Int32)), .val (.int (Int32.ofNat (off + 8))), .val (.int (Int32.ofNat (bf + 0))), .val (.int (Int32.ofNat (off + 0))), .unset, .unset] [(.int (Int32.ofNat (off + 3))), (.ref tx), (.int ((((vl (g 0)) <<< ((18 : Int32) &&& 31)) ||| ((vl (g 1)) <<< ((12 : Int32) &&& 31))) ||| ((vl (g 2)) <<< ((6 : Int32) &&& 31))))])
  refine Go.step (a_cload X8 hx hZ e8 f3 (k := (off + 3)) (Int32.toInt_ofNat_of_lt (by omega)) (by omega) (x := (g 3)) (hF 3 (by decide)) (hb hby d2_108)) ?_
  show Go _ _ _ _ _ _ _ T8 (mkF m 109 _ [(.int (g 3)), (.int ((((vl (g 0)) <<< ((18 : Int32) &&& 31)) ||| ((vl (g 1)) <<< ((12 : Int32) &&& 31))) ||| ((vl (g 2)) <<< ((6 : Int32) &&& 31))))])
  obtain ⟨v9, T9, L9, X9, q9, st9⟩ := c_static X8 hx hZ hown (y := (⟨"com/example/sharks/sharks/StandardBase64", "value", "(C)I"⟩ : MethodName)) (hw _ (List.mem_of_getElem? (i := 24) rfl)) (hw _ (List.mem_of_getElem? (i := 25) rfl)) (hw _ (List.mem_of_getElem? (i := 9) rfl)) (hw _ (List.mem_of_getElem? (i := 26) rfl)) (by decide) (argsL := [(.int (g 3))]) (rest := [(.int ((((vl (g 0)) <<< ((18 : Int32) &&& 31)) ||| ((vl (g 1)) <<< ((12 : Int32) &&& 31))) ||| ((vl (g 2)) <<< ((6 : Int32) &&& 31))))]) (rmVa l Z a0 hw [] va (g 3) h2 n0 Z2 (char_nn (hg 3 (by decide))).1 f5 f6) e8 pd_1 rfl (by rw [hml]; rfl) (W := 1) (by show 2 * 0 + _ ≤ _; exact Nat.le_of_eq rfl) (by decide) (by decide) (by decide) (by decide) (hb hby d2_109) (Ls := #[.val (.ref tx), .val (.int (Int32.ofNat off)), .val (.int (8 : Int32)), .val (.int (Int32.ofNat bf)), .val (.int (6 : Int32)), .val (.int (Int32.ofNat (off + 8))), .val (.ref b2), .val (.int (0 : Int32)), .val (.int (Int32.ofNat (off + 8))), .val (.int (Int32.ofNat (bf + 0))), .val (.int (Int32.ofNat (off + 0))), .unset, .unset])
  obtain ⟨rfl, rfl, e9⟩ := q9
  have N9 := Fr.app N8 (Fr.nil n0)
  refine Go.step (st9) ?_
  show Go _ _ _ _ _ _ _ T9 (mkF m 112 _ [(.int (vl (g 3))), (.int ((((vl (g 0)) <<< ((18 : Int32) &&& 31)) ||| ((vl (g 1)) <<< ((12 : Int32) &&& 31))) ||| ((vl (g 2)) <<< ((6 : Int32) &&& 31))))])
  refine Go.step (fun tt kk => XS.ior X9.here hx rfl (hb hby d2_112) rfl kk) ?_
  show Go _ _ _ _ _ _ _ T9 (mkF m 113 _ [(.int (((((vl (g 0)) <<< ((18 : Int32) &&& 31)) ||| ((vl (g 1)) <<< ((12 : Int32) &&& 31))) ||| ((vl (g 2)) <<< ((6 : Int32) &&& 31))) ||| (vl (g 3))))])
  refine Go.step (fun tt kk => XS.istore X9.here hx rfl (hb hby d2_113) rfl (l' := #[.val (.ref tx), .val (.int (Int32.ofNat off)), .val (.int (8 : Int32)), .val (.int (Int32.ofNat bf)), .val (.int (6 : Int32)), .val (.int (Int32.ofNat (off + 8))), .val (.ref b2), .val (.int (0 : Int32)), .val (.int (Int32.ofNat (off + 8))), .val (.int (Int32.ofNat (bf + 0))), .val (.int (Int32.ofNat (off + 0))), .val (.int (((((vl (g 0)) <<< ((18 : Int32) &&& 31)) ||| ((vl (g 1)) <<< ((12 : Int32) &&& 31))) ||| ((vl (g 2)) <<< ((6 : Int32) &&& 31))) ||| (vl (g 3)))), .unset]) rfl kk) ?_
  show Go _ _ _ _ _ _ _ T9 (mkF m 115 _ [])
  show Go _ _ _ _ _ _ _ T9 (mkF m 115 #[.val (.ref tx), .val (.int (Int32.ofNat off)), .val (.int (8 : Int32)), .val (.int (Int32.ofNat bf)), .val (.int (6 : Int32)), .val (.int (Int32.ofNat (off + 8))), .val (.ref b2), .val (.int (0 : Int32)), .val (.int (Int32.ofNat (off + 8))), .val (.int (Int32.ofNat (bf + 0))), .val (.int (Int32.ofNat (off + 0))), .val (.int (w4 g 0)), .unset] [])
  refine Go.step (fun tt kk => XS.iload X9.here hx rfl (hb hby d2_115) rfl kk) ?_
  show Go _ _ _ _ _ _ _ T9 (mkF m 117 _ [(.int (w4 g 0))])
  by_cases c117_10 : (w4 g 0) < (0 : Int32)
  · refine Go.step (fun tt kk => XS.ifNo X9.here hx rfl (hb hby d2_117) rfl ((if0 _ _).trans (tlt c117_10).2.1) kk) ?_
    show Go _ _ _ _ _ _ _ T9 (mkF m 120 _ [])
    refine Go.step (fun tt kk => XS.aconstNull X9.here hx rfl (hb hby d2_120) kk) ?_
    show Go _ _ _ _ _ _ _ T9 (mkF m 121 _ [.null])
    refine go_retA X9 hx (t := (.array .byte)) hret rfl hlk rfl (hb hby d2_121) ?_ (by decide) (by decide)
    try rw [e9]
    exact ⟨N9, eI ▸ K2, fun z => absurd z (fun z => ((own_w4 hg (by decide)).mp c117_10) z.1), fun _ => rfl⟩
  · refine Go.step (fun tt kk => XS.ifYes X9.here hx rfl (pc0 := 117) (pc' := 122) rfl (hb hby d2_117) rfl ((if0 _ _).trans (flt c117_10).2.1) (by decide) (by decide) kk) ?_
    show Go _ _ _ _ _ _ _ T9 (mkF m 122 _ [])
    have ok0 : OK4 g 0 := Classical.byContradiction fun z => c117_10 ((own_w4 hg (by decide)).mpr z)
    have by0 := own_q4 hg (by decide) ok0
    refine Go.step (fun tt kk => XS.aload X9.here hx rfl (hb hby d2_122) rfl rfl kk) ?_
    show Go _ _ _ _ _ _ _ T9 (mkF m 124 _ [(.ref b2)])
    refine Go.step (fun tt kk => XS.iload X9.here hx rfl (hb hby d2_124) rfl kk) ?_
    show Go _ _ _ _ _ _ _ T9 (mkF m 126 _ [(.int (Int32.ofNat (bf + 0))), (.ref b2)])
    refine Go.step (fun tt kk => XS.iload X9.here hx rfl (hb hby d2_126) rfl kk) ?_
    show Go _ _ _ _ _ _ _ T9 (mkF m 128 _ [(.int (w4 g 0)), (.int (Int32.ofNat (bf + 0))), (.ref b2)])
    refine Go.step (fun tt kk => XS.bipush X9.here hx rfl (hb hby d2_128) kk) ?_
    show Go _ _ _ _ _ _ _ T9 (mkF m 130 _ [(.int (16 : Int32)), (.int (w4 g 0)), (.int (Int32.ofNat (bf + 0))), (.ref b2)])
    refine Go.step (fun tt kk => XS.ishr X9.here hx rfl (hb hby d2_130) rfl kk) ?_
    show Go _ _ _ _ _ _ _ T9 (mkF m 131 _ [(.int ((w4 g 0) >>> ((16 : Int32) &&& 31))), (.int (Int32.ofNat (bf + 0))), (.ref b2)])
    refine Go.step (fun tt kk => XS.i2b X9.here hx rfl (hb hby d2_131) rfl kk) ?_
    show Go _ _ _ _ _ _ _ T9 (mkF m 132 _ [(.int (((w4 g 0) >>> ((16 : Int32) &&& 31)).toInt8.toInt32)), (.int (Int32.ofNat (bf + 0))), (.ref b2)])
    show Go _ _ _ _ _ _ _ T9 (mkF m 132 #[.val (.ref tx), .val (.int (Int32.ofNat off)), .val (.int (8 : Int32)), .val (.int (Int32.ofNat bf)), .val (.int (6 : Int32)), .val (.int (Int32.ofNat (off + 8))), .val (.ref b2), .val (.int (0 : Int32)), .val (.int (Int32.ofNat (off + 8))), .val (.int (Int32.ofNat (bf + 0))), .val (.int (Int32.ofNat (off + 0))), .val (.int (w4 g 0)), .unset] [(.int (((w4 g 0) >>> ((16 : Int32) &&& 31)).toInt8.toInt32)), (.int (Int32.ofNat (bf + 0))), (.ref b2)])
    obtain ⟨cl11, Ar11, hin11, -⟩ := V2.at (j := (Int32.ofNat (bf + 0))) (k := (bf + 0)) (Int32.toInt_ofNat_of_lt (by omega)) (by omega)
    obtain ⟨T11, h11, X11, e11, W11, st11⟩ := stB X9 hx hZ e9 Ar11 (j := (Int32.ofNat (bf + 0))) hin11 (g := (mkF m 132 #[.val (.ref tx), .val (.int (Int32.ofNat off)), .val (.int (8 : Int32)), .val (.int (Int32.ofNat bf)), .val (.int (6 : Int32)), .val (.int (Int32.ofNat (off + 8))), .val (.ref b2), .val (.int (0 : Int32)), .val (.int (Int32.ofNat (off + 8))), .val (.int (Int32.ofNat (bf + 0))), .val (.int (Int32.ofNat (off + 0))), .val (.int (w4 g 0)), .unset] [(.int (((w4 g 0) >>> ((16 : Int32) &&& 31)).toInt8.toInt32)), (.int (Int32.ofNat (bf + 0))), (.ref b2)])) rfl rfl (hb hby d2_132)
    rw [(own_nb _)] at W11
    have V11 : AV Z h11 b2 .byte (bf + 6) (upd (fun _ => (.int (0 : Int32))) (bf + 0) (.int (((w4 g 0) >>> ((16 : Int32) &&& 31)).toInt8.toInt32))) := AV.set V2 (k := (bf + 0)) (Int32.toInt_ofNat_of_lt (by omega)) (by omega) W11
    have N11 := Fr.snoc X11 N9 gn_b2
    have Z11 : n0 ≤ h11.size := Nat.le_trans Z2 (Keep.of_wr W11).1
    have K11 : Keep hI h11 [] := K2.wr W11 (Or.inr sz_b2)
    refine Go.step (st11) ?_
    show Go _ _ _ _ _ _ _ T11 (mkF m 133 _ [])
    refine Go.step (fun tt kk => XS.aload X11.here hx rfl (hb hby d2_133) rfl rfl kk) ?_
    show Go _ _ _ _ _ _ _ T11 (mkF m 135 _ [(.ref b2)])
    refine Go.step (fun tt kk => XS.iload X11.here hx rfl (hb hby d2_135) rfl kk) ?_
    show Go _ _ _ _ _ _ _ T11 (mkF m 137 _ [(.int (Int32.ofNat (bf + 0))), (.ref b2)])
    refine Go.step (fun tt kk => XS.iconst X11.here hx rfl (hb hby d2_137) kk) ?_
    show Go _ _ _ _ _ _ _ T11 (mkF m 138 _ [(.int (1 : Int32)), (.int (Int32.ofNat (bf + 0))), (.ref b2)])
    refine Go.step (fun tt kk => XS.iadd X11.here hx rfl (hb hby d2_138) rfl kk) ?_
    show Go _ _ _ _ _ _ _ T11 (mkF m 139 _ [(.int ((Int32.ofNat (bf + 0)) + (1 : Int32))), (.ref b2)])
    refine Go.step (fun tt kk => XS.iload X11.here hx rfl (hb hby d2_139) rfl kk) ?_
    show Go _ _ _ _ _ _ _ T11 (mkF m 141 _ [(.int (w4 g 0)), (.int ((Int32.ofNat (bf + 0)) + (1 : Int32))), (.ref b2)])
    refine Go.step (fun tt kk => XS.bipush X11.here hx rfl (hb hby d2_141) kk) ?_
    show Go _ _ _ _ _ _ _ T11 (mkF m 143 _ [(.int (8 : Int32)), (.int (w4 g 0)), (.int ((Int32.ofNat (bf + 0)) + (1 : Int32))), (.ref b2)])
    refine Go.step (fun tt kk => XS.ishr X11.here hx rfl (hb hby d2_143) rfl kk) ?_
    show Go _ _ _ _ _ _ _ T11 (mkF m 144 _ [(.int ((w4 g 0) >>> ((8 : Int32) &&& 31))), (.int ((Int32.ofNat (bf + 0)) + (1 : Int32))), (.ref b2)])
    refine Go.step (fun tt kk => XS.i2b X11.here hx rfl (hb hby d2_144) rfl kk) ?_
    show Go _ _ _ _ _ _ _ T11 (mkF m 145 _ [(.int (((w4 g 0) >>> ((8 : Int32) &&& 31)).toInt8.toInt32)), (.int ((Int32.ofNat (bf + 0)) + (1 : Int32))), (.ref b2)])
    rw [show Int32.ofNat (bf + 0) + (1 : Int32) = Int32.ofNat (bf + 1) from own_add (bf + 0) 1]
    show Go _ _ _ _ _ _ _ T11 (mkF m 145 #[.val (.ref tx), .val (.int (Int32.ofNat off)), .val (.int (8 : Int32)), .val (.int (Int32.ofNat bf)), .val (.int (6 : Int32)), .val (.int (Int32.ofNat (off + 8))), .val (.ref b2), .val (.int (0 : Int32)), .val (.int (Int32.ofNat (off + 8))), .val (.int (Int32.ofNat (bf + 0))), .val (.int (Int32.ofNat (off + 0))), .val (.int (w4 g 0)), .unset] [(.int (((w4 g 0) >>> ((8 : Int32) &&& 31)).toInt8.toInt32)), (.int (Int32.ofNat (bf + 1))), (.ref b2)])
    obtain ⟨cl12, Ar12, hin12, -⟩ := V11.at (j := (Int32.ofNat (bf + 1))) (k := (bf + 1)) (Int32.toInt_ofNat_of_lt (by omega)) (by omega)
    obtain ⟨T12, h12, X12, e12, W12, st12⟩ := stB X11 hx hZ e11 Ar12 (j := (Int32.ofNat (bf + 1))) hin12 (g := (mkF m 145 #[.val (.ref tx), .val (.int (Int32.ofNat off)), .val (.int (8 : Int32)), .val (.int (Int32.ofNat bf)), .val (.int (6 : Int32)), .val (.int (Int32.ofNat (off + 8))), .val (.ref b2), .val (.int (0 : Int32)), .val (.int (Int32.ofNat (off + 8))), .val (.int (Int32.ofNat (bf + 0))), .val (.int (Int32.ofNat (off + 0))), .val (.int (w4 g 0)), .unset] [(.int (((w4 g 0) >>> ((8 : Int32) &&& 31)).toInt8.toInt32)), (.int (Int32.ofNat (bf + 1))), (.ref b2)])) rfl rfl (hb hby d2_145)
    rw [(own_nb _)] at W12
    have V12 : AV Z h12 b2 .byte (bf + 6) (upd (upd (fun _ => (.int (0 : Int32))) (bf + 0) (.int (((w4 g 0) >>> ((16 : Int32) &&& 31)).toInt8.toInt32))) (bf + 1) (.int (((w4 g 0) >>> ((8 : Int32) &&& 31)).toInt8.toInt32))) := AV.set V11 (k := (bf + 1)) (Int32.toInt_ofNat_of_lt (by omega)) (by omega) W12
    have N12 := Fr.snoc X12 N11 gn_b2
    have Z12 : n0 ≤ h12.size := Nat.le_trans Z11 (Keep.of_wr W12).1
    have K12 : Keep hI h12 [] := K11.wr W12 (Or.inr sz_b2)
    refine Go.step (st12) ?_
    show Go _ _ _ _ _ _ _ T12 (mkF m 146 _ [])
    refine Go.step (fun tt kk => XS.aload X12.here hx rfl (hb hby d2_146) rfl rfl kk) ?_
    show Go _ _ _ _ _ _ _ T12 (mkF m 148 _ [(.ref b2)])
    refine Go.step (fun tt kk => XS.iload X12.here hx rfl (hb hby d2_148) rfl kk) ?_
    show Go _ _ _ _ _ _ _ T12 (mkF m 150 _ [(.int (Int32.ofNat (bf + 0))), (.ref b2)])
    refine Go.step (fun tt kk => XS.iconst X12.here hx rfl (hb hby d2_150) kk) ?_
    show Go _ _ _ _ _ _ _ T12 (mkF m 151 _ [(.int (2 : Int32)), (.int (Int32.ofNat (bf + 0))), (.ref b2)])
    refine Go.step (fun tt kk => XS.iadd X12.here hx rfl (hb hby d2_151) rfl kk) ?_
    show Go _ _ _ _ _ _ _ T12 (mkF m 152 _ [(.int ((Int32.ofNat (bf + 0)) + (2 : Int32))), (.ref b2)])
    refine Go.step (fun tt kk => XS.iload X12.here hx rfl (hb hby d2_152) rfl kk) ?_
    show Go _ _ _ _ _ _ _ T12 (mkF m 154 _ [(.int (w4 g 0)), (.int ((Int32.ofNat (bf + 0)) + (2 : Int32))), (.ref b2)])
    refine Go.step (fun tt kk => XS.i2b X12.here hx rfl (hb hby d2_154) rfl kk) ?_
    show Go _ _ _ _ _ _ _ T12 (mkF m 155 _ [(.int ((w4 g 0).toInt8.toInt32)), (.int ((Int32.ofNat (bf + 0)) + (2 : Int32))), (.ref b2)])
    rw [show Int32.ofNat (bf + 0) + (2 : Int32) = Int32.ofNat (bf + 2) from own_add (bf + 0) 2]
    show Go _ _ _ _ _ _ _ T12 (mkF m 155 #[.val (.ref tx), .val (.int (Int32.ofNat off)), .val (.int (8 : Int32)), .val (.int (Int32.ofNat bf)), .val (.int (6 : Int32)), .val (.int (Int32.ofNat (off + 8))), .val (.ref b2), .val (.int (0 : Int32)), .val (.int (Int32.ofNat (off + 8))), .val (.int (Int32.ofNat (bf + 0))), .val (.int (Int32.ofNat (off + 0))), .val (.int (w4 g 0)), .unset] [(.int (((w4 g 0)).toInt8.toInt32)), (.int (Int32.ofNat (bf + 2))), (.ref b2)])
    obtain ⟨cl13, Ar13, hin13, -⟩ := V12.at (j := (Int32.ofNat (bf + 2))) (k := (bf + 2)) (Int32.toInt_ofNat_of_lt (by omega)) (by omega)
    obtain ⟨T13, h13, X13, e13, W13, st13⟩ := stB X12 hx hZ e12 Ar13 (j := (Int32.ofNat (bf + 2))) hin13 (g := (mkF m 155 #[.val (.ref tx), .val (.int (Int32.ofNat off)), .val (.int (8 : Int32)), .val (.int (Int32.ofNat bf)), .val (.int (6 : Int32)), .val (.int (Int32.ofNat (off + 8))), .val (.ref b2), .val (.int (0 : Int32)), .val (.int (Int32.ofNat (off + 8))), .val (.int (Int32.ofNat (bf + 0))), .val (.int (Int32.ofNat (off + 0))), .val (.int (w4 g 0)), .unset] [(.int (((w4 g 0)).toInt8.toInt32)), (.int (Int32.ofNat (bf + 2))), (.ref b2)])) rfl rfl (hb hby d2_155)
    rw [(own_nb _)] at W13
    have V13 : AV Z h13 b2 .byte (bf + 6) (upd (upd (upd (fun _ => (.int (0 : Int32))) (bf + 0) (.int (((w4 g 0) >>> ((16 : Int32) &&& 31)).toInt8.toInt32))) (bf + 1) (.int (((w4 g 0) >>> ((8 : Int32) &&& 31)).toInt8.toInt32))) (bf + 2) (.int (((w4 g 0)).toInt8.toInt32))) := AV.set V12 (k := (bf + 2)) (Int32.toInt_ofNat_of_lt (by omega)) (by omega) W13
    have N13 := Fr.snoc X13 N12 gn_b2
    have Z13 : n0 ≤ h13.size := Nat.le_trans Z12 (Keep.of_wr W13).1
    have K13 : Keep hI h13 [] := K12.wr W13 (Or.inr sz_b2)
    refine Go.step (st13) ?_
    show Go _ _ _ _ _ _ _ T13 (mkF m 156 _ [])
    refine Go.step (fun tt kk => XS.iinc X13.here hx rfl (hb hby d2_156) rfl (l' := #[.val (.ref tx), .val (.int (Int32.ofNat off)), .val (.int (8 : Int32)), .val (.int (Int32.ofNat bf)), .val (.int (6 : Int32)), .val (.int (Int32.ofNat (off + 8))), .val (.ref b2), .val (.int (0 : Int32)), .val (.int (Int32.ofNat (off + 8))), .val (.int ((Int32.ofNat (bf + 0)) + (3 : Int32))), .val (.int (Int32.ofNat (off + 0))), .val (.int (w4 g 0)), .unset]) rfl kk) ?_
    show Go _ _ _ _ _ _ _ T13 (mkF m 159 _ [])
    refine Go.step (fun tt kk => XS.iinc X13.here hx rfl (hb hby d2_159) rfl (l' := #[.val (.ref tx), .val (.int (Int32.ofNat off)), .val (.int (8 : Int32)), .val (.int (Int32.ofNat bf)), .val (.int (6 : Int32)), .val (.int (Int32.ofNat (off + 8))), .val (.ref b2), .val (.int (0 : Int32)), .val (.int (Int32.ofNat (off + 8))), .val (.int ((Int32.ofNat (bf + 0)) + (3 : Int32))), .val (.int ((Int32.ofNat (off + 0)) + (4 : Int32))), .val (.int (w4 g 0)), .unset]) rfl kk) ?_
    show Go _ _ _ _ _ _ _ T13 (mkF m 162 _ [])
    refine Go.step (fun tt kk => XS.goto X13.here hx rfl (pc0 := 162) (pc' := 60) rfl (hb hby d2_162) (by decide) (by decide) kk) ?_
    show Go _ _ _ _ _ _ _ T13 (mkF m 60 _ [])
    rw [show ((Int32.ofNat (off + 0)) + (4 : Int32)) = Int32.ofNat (off + 4) from own_add off 4, show ((Int32.ofNat (bf + 0)) + (3 : Int32)) = Int32.ofNat (bf + 3) from own_add bf 3]
    show Go _ _ _ _ _ _ _ T13 (mkF m 60 #[.val (.ref tx), .val (.int (Int32.ofNat off)), .val (.int (8 : Int32)), .val (.int (Int32.ofNat bf)), .val (.int (6 : Int32)), .val (.int (Int32.ofNat (off + 8))), .val (.ref b2), .val (.int (0 : Int32)), .val (.int (Int32.ofNat (off + 8))), .val (.int (Int32.ofNat (bf + 3))), .val (.int (Int32.ofNat (off + 4))), .val (.int (w4 g 0)), .unset] [])
    refine Go.step (fun tt kk => XS.iload X13.here hx rfl (hb hby d2_60) rfl kk) ?_
    show Go _ _ _ _ _ _ _ T13 (mkF m 62 _ [(.int (Int32.ofNat (off + 4)))])
    refine Go.step (fun tt kk => XS.iload X13.here hx rfl (hb hby d2_62) rfl kk) ?_
    show Go _ _ _ _ _ _ _ T13 (mkF m 64 _ [(.int (Int32.ofNat (off + 8))), (.int (Int32.ofNat (off + 4)))])
    refine Go.step (fun tt kk => XS.icmpNo X13.here hx rfl (hb hby d2_64) rfl (tlt ((own_lt _ _ (by omega) (by omega)).mpr (by omega))).2.1 kk) ?_
    show Go _ _ _ _ _ _ _ T13 (mkF m 67 _ [])
    refine Go.step (fun tt kk => XS.aloadN X13.here hx rfl (hb hby d2_67) rfl rfl kk) ?_
    show Go _ _ _ _ _ _ _ T13 (mkF m 68 _ [(.ref tx)])
    refine Go.step (fun tt kk => XS.iload X13.here hx rfl (hb hby d2_68) rfl kk) ?_
    show Go _ _ _ _ _ _ _ T13 (mkF m 70 _ [(.int (Int32.ofNat (off + 4))), (.ref tx)])
    have f14 := (((f3.other W11 ne_tx_b2).other W12 ne_tx_b2).other W13 ne_tx_b2)
    refine Go.step (a_cload X13 hx hZ e13 f14 (k := (off + 4)) (Int32.toInt_ofNat_of_lt (by omega)) (by omega) (x := (g 4)) (hF 4 (by decide)) (hb hby d2_70)) ?_
    show Go _ _ _ _ _ _ _ T13 (mkF m 71 _ [(.int (g 4))])
    have f16 := (Sta.wr W13 (Sta.wr W12 (Sta.wr W11 f5)))
    have f17 := (((f6.other W11 ne_va_b2).other W12 ne_va_b2).other W13 ne_va_b2)
    obtain ⟨v15, T15, L15, X15, q15, st15⟩ := c_static X13 hx hZ hown (y := (⟨"com/example/sharks/sharks/StandardBase64", "value", "(C)I"⟩ : MethodName)) (hw _ (List.mem_of_getElem? (i := 24) rfl)) (hw _ (List.mem_of_getElem? (i := 25) rfl)) (hw _ (List.mem_of_getElem? (i := 9) rfl)) (hw _ (List.mem_of_getElem? (i := 26) rfl)) (by decide) (argsL := [(.int (g 4))]) (rest := []) (rmVa l Z a0 hw [] va (g 4) h13 n0 Z13 (char_nn (hg 4 (by decide))).1 f16 f17) e13 pd_1 rfl (by rw [hml]; rfl) (W := 0) (by show 2 * 0 + _ ≤ _; exact Nat.le_of_eq rfl) (by decide) (by decide) (by decide) (by decide) (hb hby d2_71) (Ls := #[.val (.ref tx), .val (.int (Int32.ofNat off)), .val (.int (8 : Int32)), .val (.int (Int32.ofNat bf)), .val (.int (6 : Int32)), .val (.int (Int32.ofNat (off + 8))), .val (.ref b2), .val (.int (0 : Int32)), .val (.int (Int32.ofNat (off + 8))), .val (.int (Int32.ofNat (bf + 3))), .val (.int (Int32.ofNat (off + 4))), .val (.int (w4 g 0)), .unset])
    obtain ⟨rfl, rfl, e15⟩ := q15
    have N15 := Fr.app N13 (Fr.nil n0)
    refine Go.step (st15) ?_
    show Go _ _ _ _ _ _ _ T15 (mkF m 74 _ [(.int (vl (g 4)))])
    refine Go.step (fun tt kk => XS.bipush X15.here hx rfl (hb hby d2_74) kk) ?_
    show Go _ _ _ _ _ _ _ T15 (mkF m 76 _ [(.int (18 : Int32)), (.int (vl (g 4)))])
    refine Go.step (fun tt kk => XS.ishl X15.here hx rfl (hb hby d2_76) rfl kk) ?_
    show Go _ _ _ _ _ _ _ T15 (mkF m 77 _ [(.int ((vl (g 4)) <<< ((18 : Int32) &&& 31)))])
    refine Go.step (fun tt kk => XS.aloadN X15.here hx rfl (hb hby d2_77) rfl rfl kk) ?_
    show Go _ _ _ _ _ _ _ T15 (mkF m 78 _ [(.ref tx), (.int ((vl (g 4)) <<< ((18 : Int32) &&& 31)))])
    refine Go.step (fun tt kk => XS.iload X15.here hx rfl (hb hby d2_78) rfl kk) ?_
    show Go _ _ _ _ _ _ _ T15 (mkF m 80 _ [(.int (Int32.ofNat (off + 4))), (.ref tx), (.int ((vl (g 4)) <<< ((18 : Int32) &&& 31)))])
    refine Go.step (fun tt kk => XS.iconst X15.here hx rfl (hb hby d2_80) kk) ?_
    show Go _ _ _ _ _ _ _ T15 (mkF m 81 _ [(.int (1 : Int32)), (.int (Int32.ofNat (off + 4))), (.ref tx), (.int ((vl (g 4)) <<< ((18 : Int32) &&& 31)))])
    refine Go.step (fun tt kk => XS.iadd X15.here hx rfl (hb hby d2_81) rfl kk) ?_
    show Go _ _ _ _ _ _ _ T15 (mkF m 82 _ [(.int ((Int32.ofNat (off + 4)) + (1 : Int32))), (.ref tx), (.int ((vl (g 4)) <<< ((18 : Int32) &&& 31)))])
    rw [show Int32.ofNat (off + 4) + (1 : Int32) = Int32.ofNat (off + 5) from own_add (off + 4) 1]
    show Go _ _ _ _ _ _ _ T15 (mkF m 82 #[.val (.ref tx), .val (.int (Int32.ofNat off)), .val (.int (8 : Int32)), .val (.int (Int32.ofNat bf)), .val (.int (6 : Int32)), .val (.int (Int32.ofNat (off + 8))), .val (.ref b2), .val (.int (0 : Int32)), .val (.int (Int32.ofNat (off + 8))), .val (.int (Int32.ofNat (bf + 3))), .val (.int (Int32.ofNat (off + 4))), .val (.int (w4 g 0)), .unset] [(.int (Int32.ofNat (off + 5))), (.ref tx), (.int ((vl (g 4)) <<< ((18 : Int32) &&& 31)))])
    refine Go.step (a_cload X15 hx hZ e15 f14 (k := (off + 5)) (Int32.toInt_ofNat_of_lt (by omega)) (by omega) (x := (g 5)) (hF 5 (by decide)) (hb hby d2_82)) ?_
    show Go _ _ _ _ _ _ _ T15 (mkF m 83 _ [(.int (g 5)), (.int ((vl (g 4)) <<< ((18 : Int32) &&& 31)))])
    obtain ⟨v18, T18, L18, X18, q18, st18⟩ := c_static X15 hx hZ hown (y := (⟨"com/example/sharks/sharks/StandardBase64", "value", "(C)I"⟩ : MethodName)) (hw _ (List.mem_of_getElem? (i := 24) rfl)) (hw _ (List.mem_of_getElem? (i := 25) rfl)) (hw _ (List.mem_of_getElem? (i := 9) rfl)) (hw _ (List.mem_of_getElem? (i := 26) rfl)) (by decide) (argsL := [(.int (g 5))]) (rest := [(.int ((vl (g 4)) <<< ((18 : Int32) &&& 31)))]) (rmVa l Z a0 hw [] va (g 5) h13 n0 Z13 (char_nn (hg 5 (by decide))).1 f16 f17) e15 pd_1 rfl (by rw [hml]; rfl) (W := 1) (by show 2 * 0 + _ ≤ _; exact Nat.le_of_eq rfl) (by decide) (by decide) (by decide) (by decide) (hb hby d2_83) (Ls := #[.val (.ref tx), .val (.int (Int32.ofNat off)), .val (.int (8 : Int32)), .val (.int (Int32.ofNat bf)), .val (.int (6 : Int32)), .val (.int (Int32.ofNat (off + 8))), .val (.ref b2), .val (.int (0 : Int32)), .val (.int (Int32.ofNat (off + 8))), .val (.int (Int32.ofNat (bf + 3))), .val (.int (Int32.ofNat (off + 4))), .val (.int (w4 g 0)), .unset])
    obtain ⟨rfl, rfl, e18⟩ := q18
    have N18 := Fr.app N15 (Fr.nil n0)
    refine Go.step (st18) ?_
    show Go _ _ _ _ _ _ _ T18 (mkF m 86 _ [(.int (vl (g 5))), (.int ((vl (g 4)) <<< ((18 : Int32) &&& 31)))])
    refine Go.step (fun tt kk => XS.bipush X18.here hx rfl (hb hby d2_86) kk) ?_
    show Go _ _ _ _ _ _ _ T18 (mkF m 88 _ [(.int (12 : Int32)), (.int (vl (g 5))), (.int ((vl (g 4)) <<< ((18 : Int32) &&& 31)))])
    refine Go.step (fun tt kk => XS.ishl X18.here hx rfl (hb hby d2_88) rfl kk) ?_
    show Go _ _ _ _ _ _ _ T18 (mkF m 89 _ [(.int ((vl (g 5)) <<< ((12 : Int32) &&& 31))), (.int ((vl (g 4)) <<< ((18 : Int32) &&& 31)))])
    refine Go.step (fun tt kk => XS.ior X18.here hx rfl (hb hby d2_89) rfl kk) ?_
    show Go _ _ _ _ _ _ _ T18 (mkF m 90 _ [(.int (((vl (g 4)) <<< ((18 : Int32) &&& 31)) ||| ((vl (g 5)) <<< ((12 : Int32) &&& 31))))])
    refine Go.step (fun tt kk => XS.aloadN X18.here hx rfl (hb hby d2_90) rfl rfl kk) ?_
    show Go _ _ _ _ _ _ _ T18 (mkF m 91 _ [(.ref tx), (.int (((vl (g 4)) <<< ((18 : Int32) &&& 31)) ||| ((vl (g 5)) <<< ((12 : Int32) &&& 31))))])
    refine Go.step (fun tt kk => XS.iload X18.here hx rfl (hb hby d2_91) rfl kk) ?_
    show Go _ _ _ _ _ _ _ T18 (mkF m 93 _ [(.int (Int32.ofNat (off + 4))), (.ref tx), (.int (((vl (g 4)) <<< ((18 : Int32) &&& 31)) ||| ((vl (g 5)) <<< ((12 : Int32) &&& 31))))])
    refine Go.step (fun tt kk => XS.iconst X18.here hx rfl (hb hby d2_93) kk) ?_
    show Go _ _ _ _ _ _ _ T18 (mkF m 94 _ [(.int (2 : Int32)), (.int (Int32.ofNat (off + 4))), (.ref tx), (.int (((vl (g 4)) <<< ((18 : Int32) &&& 31)) ||| ((vl (g 5)) <<< ((12 : Int32) &&& 31))))])
    refine Go.step (fun tt kk => XS.iadd X18.here hx rfl (hb hby d2_94) rfl kk) ?_
    show Go _ _ _ _ _ _ _ T18 (mkF m 95 _ [(.int ((Int32.ofNat (off + 4)) + (2 : Int32))), (.ref tx), (.int (((vl (g 4)) <<< ((18 : Int32) &&& 31)) ||| ((vl (g 5)) <<< ((12 : Int32) &&& 31))))])
    rw [show Int32.ofNat (off + 4) + (2 : Int32) = Int32.ofNat (off + 6) from own_add (off + 4) 2]
    show Go _ _ _ _ _ _ _ T18 (mkF m 95 #[.val (.ref tx), .val (.int (Int32.ofNat off)), .val (.int (8 : Int32)), .val (.int (Int32.ofNat bf)), .val (.int (6 : Int32)), .val (.int (Int32.ofNat (off + 8))), .val (.ref b2), .val (.int (0 : Int32)), .val (.int (Int32.ofNat (off + 8))), .val (.int (Int32.ofNat (bf + 3))), .val (.int (Int32.ofNat (off + 4))), .val (.int (w4 g 0)), .unset] [(.int (Int32.ofNat (off + 6))), (.ref tx), (.int (((vl (g 4)) <<< ((18 : Int32) &&& 31)) ||| ((vl (g 5)) <<< ((12 : Int32) &&& 31))))])
    refine Go.step (a_cload X18 hx hZ e18 f14 (k := (off + 6)) (Int32.toInt_ofNat_of_lt (by omega)) (by omega) (x := (g 6)) (hF 6 (by decide)) (hb hby d2_95)) ?_
    show Go _ _ _ _ _ _ _ T18 (mkF m 96 _ [(.int (g 6)), (.int (((vl (g 4)) <<< ((18 : Int32) &&& 31)) ||| ((vl (g 5)) <<< ((12 : Int32) &&& 31))))])
    obtain ⟨v19, T19, L19, X19, q19, st19⟩ := c_static X18 hx hZ hown (y := (⟨"com/example/sharks/sharks/StandardBase64", "value", "(C)I"⟩ : MethodName)) (hw _ (List.mem_of_getElem? (i := 24) rfl)) (hw _ (List.mem_of_getElem? (i := 25) rfl)) (hw _ (List.mem_of_getElem? (i := 9) rfl)) (hw _ (List.mem_of_getElem? (i := 26) rfl)) (by decide) (argsL := [(.int (g 6))]) (rest := [(.int (((vl (g 4)) <<< ((18 : Int32) &&& 31)) ||| ((vl (g 5)) <<< ((12 : Int32) &&& 31))))]) (rmVa l Z a0 hw [] va (g 6) h13 n0 Z13 (char_nn (hg 6 (by decide))).1 f16 f17) e18 pd_1 rfl (by rw [hml]; rfl) (W := 1) (by show 2 * 0 + _ ≤ _; exact Nat.le_of_eq rfl) (by decide) (by decide) (by decide) (by decide) (hb hby d2_96) (Ls := #[.val (.ref tx), .val (.int (Int32.ofNat off)), .val (.int (8 : Int32)), .val (.int (Int32.ofNat bf)), .val (.int (6 : Int32)), .val (.int (Int32.ofNat (off + 8))), .val (.ref b2), .val (.int (0 : Int32)), .val (.int (Int32.ofNat (off + 8))), .val (.int (Int32.ofNat (bf + 3))), .val (.int (Int32.ofNat (off + 4))), .val (.int (w4 g 0)), .unset])
    obtain ⟨rfl, rfl, e19⟩ := q19
    have N19 := Fr.app N18 (Fr.nil n0)
    refine Go.step (st19) ?_
    show Go _ _ _ _ _ _ _ T19 (mkF m 99 _ [(.int (vl (g 6))), (.int (((vl (g 4)) <<< ((18 : Int32) &&& 31)) ||| ((vl (g 5)) <<< ((12 : Int32) &&& 31))))])
    refine Go.step (fun tt kk => XS.bipush X19.here hx rfl (hb hby d2_99) kk) ?_
    show Go _ _ _ _ _ _ _ T19 (mkF m 101 _ [(.int (6 : Int32)), (.int (vl (g 6))), (.int (((vl (g 4)) <<< ((18 : Int32) &&& 31)) ||| ((vl (g 5)) <<< ((12 : Int32) &&& 31))))])
    refine Go.step (fun tt kk => XS.ishl X19.here hx rfl (hb hby d2_101) rfl kk) ?_
    show Go _ _ _ _ _ _ _ T19 (mkF m 102 _ [(.int ((vl (g 6)) <<< ((6 : Int32) &&& 31))), (.int (((vl (g 4)) <<< ((18 : Int32) &&& 31)) ||| ((vl (g 5)) <<< ((12 : Int32) &&& 31))))])
    refine Go.step (fun tt kk => XS.ior X19.here hx rfl (hb hby d2_102) rfl kk) ?_
    show Go _ _ _ _ _ _ _ T19 (mkF m 103 _ [(.int ((((vl (g 4)) <<< ((18 : Int32) &&& 31)) ||| ((vl (g 5)) <<< ((12 : Int32) &&& 31))) ||| ((vl (g 6)) <<< ((6 : Int32) &&& 31))))])
    refine Go.step (fun tt kk => XS.aloadN X19.here hx rfl (hb hby d2_103) rfl rfl kk) ?_
    show Go _ _ _ _ _ _ _ T19 (mkF m 104 _ [(.ref tx), (.int ((((vl (g 4)) <<< ((18 : Int32) &&& 31)) ||| ((vl (g 5)) <<< ((12 : Int32) &&& 31))) ||| ((vl (g 6)) <<< ((6 : Int32) &&& 31))))])
    refine Go.step (fun tt kk => XS.iload X19.here hx rfl (hb hby d2_104) rfl kk) ?_
    show Go _ _ _ _ _ _ _ T19 (mkF m 106 _ [(.int (Int32.ofNat (off + 4))), (.ref tx), (.int ((((vl (g 4)) <<< ((18 : Int32) &&& 31)) ||| ((vl (g 5)) <<< ((12 : Int32) &&& 31))) ||| ((vl (g 6)) <<< ((6 : Int32) &&& 31))))])
    refine Go.step (fun tt kk => XS.iconst X19.here hx rfl (hb hby d2_106) kk) ?_
    show Go _ _ _ _ _ _ _ T19 (mkF m 107 _ [(.int (3 : Int32)), (.int (Int32.ofNat (off + 4))), (.ref tx), (.int ((((vl (g 4)) <<< ((18 : Int32) &&& 31)) ||| ((vl (g 5)) <<< ((12 : Int32) &&& 31))) ||| ((vl (g 6)) <<< ((6 : Int32) &&& 31))))])
    refine Go.step (fun tt kk => XS.iadd X19.here hx rfl (hb hby d2_107) rfl kk) ?_
    show Go _ _ _ _ _ _ _ T19 (mkF m 108 _ [(.int ((Int32.ofNat (off + 4)) + (3 : Int32))), (.ref tx), (.int ((((vl (g 4)) <<< ((18 : Int32) &&& 31)) ||| ((vl (g 5)) <<< ((12 : Int32) &&& 31))) ||| ((vl (g 6)) <<< ((6 : Int32) &&& 31))))])
    rw [show Int32.ofNat (off + 4) + (3 : Int32) = Int32.ofNat (off + 7) from own_add (off + 4) 3]
    show Go _ _ _ _ _ _ _ T19 (mkF m 108 #[.val (.ref tx), .val (.int (Int32.ofNat off)), .val (.int (8 : Int32)), .val (.int (Int32.ofNat bf)), .val (.int (6 : Int32)), .val (.int (Int32.ofNat (off + 8))), .val (.ref b2), .val (.int (0 : Int32)), .val (.int (Int32.ofNat (off + 8))), .val (.int (Int32.ofNat (bf + 3))), .val (.int (Int32.ofNat (off + 4))), .val (.int (w4 g 0)), .unset] [(.int (Int32.ofNat (off + 7))), (.ref tx), (.int ((((vl (g 4)) <<< ((18 : Int32) &&& 31)) ||| ((vl (g 5)) <<< ((12 : Int32) &&& 31))) ||| ((vl (g 6)) <<< ((6 : Int32) &&& 31))))])
    refine Go.step (a_cload X19 hx hZ e19 f14 (k := (off + 7)) (Int32.toInt_ofNat_of_lt (by omega)) (by omega) (x := (g 7)) (hF 7 (by decide)) (hb hby d2_108)) ?_
    show Go _ _ _ _ _ _ _ T19 (mkF m 109 _ [(.int (g 7)), (.int ((((vl (g 4)) <<< ((18 : Int32) &&& 31)) ||| ((vl (g 5)) <<< ((12 : Int32) &&& 31))) ||| ((vl (g 6)) <<< ((6 : Int32) &&& 31))))])
    obtain ⟨v20, T20, L20, X20, q20, st20⟩ := c_static X19 hx hZ hown (y := (⟨"com/example/sharks/sharks/StandardBase64", "value", "(C)I"⟩ : MethodName)) (hw _ (List.mem_of_getElem? (i := 24) rfl)) (hw _ (List.mem_of_getElem? (i := 25) rfl)) (hw _ (List.mem_of_getElem? (i := 9) rfl)) (hw _ (List.mem_of_getElem? (i := 26) rfl)) (by decide) (argsL := [(.int (g 7))]) (rest := [(.int ((((vl (g 4)) <<< ((18 : Int32) &&& 31)) ||| ((vl (g 5)) <<< ((12 : Int32) &&& 31))) ||| ((vl (g 6)) <<< ((6 : Int32) &&& 31))))]) (rmVa l Z a0 hw [] va (g 7) h13 n0 Z13 (char_nn (hg 7 (by decide))).1 f16 f17) e19 pd_1 rfl (by rw [hml]; rfl) (W := 1) (by show 2 * 0 + _ ≤ _; exact Nat.le_of_eq rfl) (by decide) (by decide) (by decide) (by decide) (hb hby d2_109) (Ls := #[.val (.ref tx), .val (.int (Int32.ofNat off)), .val (.int (8 : Int32)), .val (.int (Int32.ofNat bf)), .val (.int (6 : Int32)), .val (.int (Int32.ofNat (off + 8))), .val (.ref b2), .val (.int (0 : Int32)), .val (.int (Int32.ofNat (off + 8))), .val (.int (Int32.ofNat (bf + 3))), .val (.int (Int32.ofNat (off + 4))), .val (.int (w4 g 0)), .unset])
    obtain ⟨rfl, rfl, e20⟩ := q20
    have N20 := Fr.app N19 (Fr.nil n0)
    refine Go.step (st20) ?_
    show Go _ _ _ _ _ _ _ T20 (mkF m 112 _ [(.int (vl (g 7))), (.int ((((vl (g 4)) <<< ((18 : Int32) &&& 31)) ||| ((vl (g 5)) <<< ((12 : Int32) &&& 31))) ||| ((vl (g 6)) <<< ((6 : Int32) &&& 31))))])
    refine Go.step (fun tt kk => XS.ior X20.here hx rfl (hb hby d2_112) rfl kk) ?_
    show Go _ _ _ _ _ _ _ T20 (mkF m 113 _ [(.int (((((vl (g 4)) <<< ((18 : Int32) &&& 31)) ||| ((vl (g 5)) <<< ((12 : Int32) &&& 31))) ||| ((vl (g 6)) <<< ((6 : Int32) &&& 31))) ||| (vl (g 7))))])
    refine Go.step (fun tt kk => XS.istore X20.here hx rfl (hb hby d2_113) rfl (l' := #[.val (.ref tx), .val (.int (Int32.ofNat off)), .val (.int (8 : Int32)), .val (.int (Int32.ofNat bf)), .val (.int (6 : Int32)), .val (.int (Int32.ofNat (off + 8))), .val (.ref b2), .val (.int (0 : Int32)), .val (.int (Int32.ofNat (off + 8))), .val (.int (Int32.ofNat (bf + 3))), .val (.int (Int32.ofNat (off + 4))), .val (.int (((((vl (g 4)) <<< ((18 : Int32) &&& 31)) ||| ((vl (g 5)) <<< ((12 : Int32) &&& 31))) ||| ((vl (g 6)) <<< ((6 : Int32) &&& 31))) ||| (vl (g 7)))), .unset]) rfl kk) ?_
    show Go _ _ _ _ _ _ _ T20 (mkF m 115 _ [])
    show Go _ _ _ _ _ _ _ T20 (mkF m 115 #[.val (.ref tx), .val (.int (Int32.ofNat off)), .val (.int (8 : Int32)), .val (.int (Int32.ofNat bf)), .val (.int (6 : Int32)), .val (.int (Int32.ofNat (off + 8))), .val (.ref b2), .val (.int (0 : Int32)), .val (.int (Int32.ofNat (off + 8))), .val (.int (Int32.ofNat (bf + 3))), .val (.int (Int32.ofNat (off + 4))), .val (.int (w4 g 4)), .unset] [])
    refine Go.step (fun tt kk => XS.iload X20.here hx rfl (hb hby d2_115) rfl kk) ?_
    show Go _ _ _ _ _ _ _ T20 (mkF m 117 _ [(.int (w4 g 4))])
    by_cases c117_21 : (w4 g 4) < (0 : Int32)
    · refine Go.step (fun tt kk => XS.ifNo X20.here hx rfl (hb hby d2_117) rfl ((if0 _ _).trans (tlt c117_21).2.1) kk) ?_
      show Go _ _ _ _ _ _ _ T20 (mkF m 120 _ [])
      refine Go.step (fun tt kk => XS.aconstNull X20.here hx rfl (hb hby d2_120) kk) ?_
      show Go _ _ _ _ _ _ _ T20 (mkF m 121 _ [.null])
      refine go_retA X20 hx (t := (.array .byte)) hret rfl hlk rfl (hb hby d2_121) ?_ (by decide) (by decide)
      try rw [e20]
      exact ⟨N20, eI ▸ K13, fun z => absurd z (fun z => ((own_w4 hg (by decide)).mp c117_21) z.2), fun _ => rfl⟩
    · refine Go.step (fun tt kk => XS.ifYes X20.here hx rfl (pc0 := 117) (pc' := 122) rfl (hb hby d2_117) rfl ((if0 _ _).trans (flt c117_21).2.1) (by decide) (by decide) kk) ?_
      show Go _ _ _ _ _ _ _ T20 (mkF m 122 _ [])
      have ok1 : OK4 g 4 := Classical.byContradiction fun z => c117_21 ((own_w4 hg (by decide)).mpr z)
      have by1 := own_q4 hg (by decide) ok1
      refine Go.step (fun tt kk => XS.aload X20.here hx rfl (hb hby d2_122) rfl rfl kk) ?_
      show Go _ _ _ _ _ _ _ T20 (mkF m 124 _ [(.ref b2)])
      refine Go.step (fun tt kk => XS.iload X20.here hx rfl (hb hby d2_124) rfl kk) ?_
      show Go _ _ _ _ _ _ _ T20 (mkF m 126 _ [(.int (Int32.ofNat (bf + 3))), (.ref b2)])
      refine Go.step (fun tt kk => XS.iload X20.here hx rfl (hb hby d2_126) rfl kk) ?_
      show Go _ _ _ _ _ _ _ T20 (mkF m 128 _ [(.int (w4 g 4)), (.int (Int32.ofNat (bf + 3))), (.ref b2)])
      refine Go.step (fun tt kk => XS.bipush X20.here hx rfl (hb hby d2_128) kk) ?_
      show Go _ _ _ _ _ _ _ T20 (mkF m 130 _ [(.int (16 : Int32)), (.int (w4 g 4)), (.int (Int32.ofNat (bf + 3))), (.ref b2)])
      refine Go.step (fun tt kk => XS.ishr X20.here hx rfl (hb hby d2_130) rfl kk) ?_
      show Go _ _ _ _ _ _ _ T20 (mkF m 131 _ [(.int ((w4 g 4) >>> ((16 : Int32) &&& 31))), (.int (Int32.ofNat (bf + 3))), (.ref b2)])
      refine Go.step (fun tt kk => XS.i2b X20.here hx rfl (hb hby d2_131) rfl kk) ?_
      show Go _ _ _ _ _ _ _ T20 (mkF m 132 _ [(.int (((w4 g 4) >>> ((16 : Int32) &&& 31)).toInt8.toInt32)), (.int (Int32.ofNat (bf + 3))), (.ref b2)])
      show Go _ _ _ _ _ _ _ T20 (mkF m 132 #[.val (.ref tx), .val (.int (Int32.ofNat off)), .val (.int (8 : Int32)), .val (.int (Int32.ofNat bf)), .val (.int (6 : Int32)), .val (.int (Int32.ofNat (off + 8))), .val (.ref b2), .val (.int (0 : Int32)), .val (.int (Int32.ofNat (off + 8))), .val (.int (Int32.ofNat (bf + 3))), .val (.int (Int32.ofNat (off + 4))), .val (.int (w4 g 4)), .unset] [(.int (((w4 g 4) >>> ((16 : Int32) &&& 31)).toInt8.toInt32)), (.int (Int32.ofNat (bf + 3))), (.ref b2)])
      obtain ⟨cl22, Ar22, hin22, -⟩ := V13.at (j := (Int32.ofNat (bf + 3))) (k := (bf + 3)) (Int32.toInt_ofNat_of_lt (by omega)) (by omega)
      obtain ⟨T22, h22, X22, e22, W22, st22⟩ := stB X20 hx hZ e20 Ar22 (j := (Int32.ofNat (bf + 3))) hin22 (g := (mkF m 132 #[.val (.ref tx), .val (.int (Int32.ofNat off)), .val (.int (8 : Int32)), .val (.int (Int32.ofNat bf)), .val (.int (6 : Int32)), .val (.int (Int32.ofNat (off + 8))), .val (.ref b2), .val (.int (0 : Int32)), .val (.int (Int32.ofNat (off + 8))), .val (.int (Int32.ofNat (bf + 3))), .val (.int (Int32.ofNat (off + 4))), .val (.int (w4 g 4)), .unset] [(.int (((w4 g 4) >>> ((16 : Int32) &&& 31)).toInt8.toInt32)), (.int (Int32.ofNat (bf + 3))), (.ref b2)])) rfl rfl (hb hby d2_132)
      rw [(own_nb _)] at W22
      have V22 : AV Z h22 b2 .byte (bf + 6) (upd (upd (upd (upd (fun _ => (.int (0 : Int32))) (bf + 0) (.int (((w4 g 0) >>> ((16 : Int32) &&& 31)).toInt8.toInt32))) (bf + 1) (.int (((w4 g 0) >>> ((8 : Int32) &&& 31)).toInt8.toInt32))) (bf + 2) (.int (((w4 g 0)).toInt8.toInt32))) (bf + 3) (.int (((w4 g 4) >>> ((16 : Int32) &&& 31)).toInt8.toInt32))) := AV.set V13 (k := (bf + 3)) (Int32.toInt_ofNat_of_lt (by omega)) (by omega) W22
      have N22 := Fr.snoc X22 N20 gn_b2
      have Z22 : n0 ≤ h22.size := Nat.le_trans Z13 (Keep.of_wr W22).1
      have K22 : Keep hI h22 [] := K13.wr W22 (Or.inr sz_b2)
      refine Go.step (st22) ?_
      show Go _ _ _ _ _ _ _ T22 (mkF m 133 _ [])
      refine Go.step (fun tt kk => XS.aload X22.here hx rfl (hb hby d2_133) rfl rfl kk) ?_
      show Go _ _ _ _ _ _ _ T22 (mkF m 135 _ [(.ref b2)])
      refine Go.step (fun tt kk => XS.iload X22.here hx rfl (hb hby d2_135) rfl kk) ?_
      show Go _ _ _ _ _ _ _ T22 (mkF m 137 _ [(.int (Int32.ofNat (bf + 3))), (.ref b2)])
      refine Go.step (fun tt kk => XS.iconst X22.here hx rfl (hb hby d2_137) kk) ?_
      show Go _ _ _ _ _ _ _ T22 (mkF m 138 _ [(.int (1 : Int32)), (.int (Int32.ofNat (bf + 3))), (.ref b2)])
      refine Go.step (fun tt kk => XS.iadd X22.here hx rfl (hb hby d2_138) rfl kk) ?_
      show Go _ _ _ _ _ _ _ T22 (mkF m 139 _ [(.int ((Int32.ofNat (bf + 3)) + (1 : Int32))), (.ref b2)])
      refine Go.step (fun tt kk => XS.iload X22.here hx rfl (hb hby d2_139) rfl kk) ?_
      show Go _ _ _ _ _ _ _ T22 (mkF m 141 _ [(.int (w4 g 4)), (.int ((Int32.ofNat (bf + 3)) + (1 : Int32))), (.ref b2)])
      refine Go.step (fun tt kk => XS.bipush X22.here hx rfl (hb hby d2_141) kk) ?_
      show Go _ _ _ _ _ _ _ T22 (mkF m 143 _ [(.int (8 : Int32)), (.int (w4 g 4)), (.int ((Int32.ofNat (bf + 3)) + (1 : Int32))), (.ref b2)])
      refine Go.step (fun tt kk => XS.ishr X22.here hx rfl (hb hby d2_143) rfl kk) ?_
      show Go _ _ _ _ _ _ _ T22 (mkF m 144 _ [(.int ((w4 g 4) >>> ((8 : Int32) &&& 31))), (.int ((Int32.ofNat (bf + 3)) + (1 : Int32))), (.ref b2)])
      refine Go.step (fun tt kk => XS.i2b X22.here hx rfl (hb hby d2_144) rfl kk) ?_
      show Go _ _ _ _ _ _ _ T22 (mkF m 145 _ [(.int (((w4 g 4) >>> ((8 : Int32) &&& 31)).toInt8.toInt32)), (.int ((Int32.ofNat (bf + 3)) + (1 : Int32))), (.ref b2)])
      rw [show Int32.ofNat (bf + 3) + (1 : Int32) = Int32.ofNat (bf + 4) from own_add (bf + 3) 1]
      show Go _ _ _ _ _ _ _ T22 (mkF m 145 #[.val (.ref tx), .val (.int (Int32.ofNat off)), .val (.int (8 : Int32)), .val (.int (Int32.ofNat bf)), .val (.int (6 : Int32)), .val (.int (Int32.ofNat (off + 8))), .val (.ref b2), .val (.int (0 : Int32)), .val (.int (Int32.ofNat (off + 8))), .val (.int (Int32.ofNat (bf + 3))), .val (.int (Int32.ofNat (off + 4))), .val (.int (w4 g 4)), .unset] [(.int (((w4 g 4) >>> ((8 : Int32) &&& 31)).toInt8.toInt32)), (.int (Int32.ofNat (bf + 4))), (.ref b2)])
      obtain ⟨cl23, Ar23, hin23, -⟩ := V22.at (j := (Int32.ofNat (bf + 4))) (k := (bf + 4)) (Int32.toInt_ofNat_of_lt (by omega)) (by omega)
      obtain ⟨T23, h23, X23, e23, W23, st23⟩ := stB X22 hx hZ e22 Ar23 (j := (Int32.ofNat (bf + 4))) hin23 (g := (mkF m 145 #[.val (.ref tx), .val (.int (Int32.ofNat off)), .val (.int (8 : Int32)), .val (.int (Int32.ofNat bf)), .val (.int (6 : Int32)), .val (.int (Int32.ofNat (off + 8))), .val (.ref b2), .val (.int (0 : Int32)), .val (.int (Int32.ofNat (off + 8))), .val (.int (Int32.ofNat (bf + 3))), .val (.int (Int32.ofNat (off + 4))), .val (.int (w4 g 4)), .unset] [(.int (((w4 g 4) >>> ((8 : Int32) &&& 31)).toInt8.toInt32)), (.int (Int32.ofNat (bf + 4))), (.ref b2)])) rfl rfl (hb hby d2_145)
      rw [(own_nb _)] at W23
      have V23 : AV Z h23 b2 .byte (bf + 6) (upd (upd (upd (upd (upd (fun _ => (.int (0 : Int32))) (bf + 0) (.int (((w4 g 0) >>> ((16 : Int32) &&& 31)).toInt8.toInt32))) (bf + 1) (.int (((w4 g 0) >>> ((8 : Int32) &&& 31)).toInt8.toInt32))) (bf + 2) (.int (((w4 g 0)).toInt8.toInt32))) (bf + 3) (.int (((w4 g 4) >>> ((16 : Int32) &&& 31)).toInt8.toInt32))) (bf + 4) (.int (((w4 g 4) >>> ((8 : Int32) &&& 31)).toInt8.toInt32))) := AV.set V22 (k := (bf + 4)) (Int32.toInt_ofNat_of_lt (by omega)) (by omega) W23
      have N23 := Fr.snoc X23 N22 gn_b2
      have Z23 : n0 ≤ h23.size := Nat.le_trans Z22 (Keep.of_wr W23).1
      have K23 : Keep hI h23 [] := K22.wr W23 (Or.inr sz_b2)
      refine Go.step (st23) ?_
      show Go _ _ _ _ _ _ _ T23 (mkF m 146 _ [])
      refine Go.step (fun tt kk => XS.aload X23.here hx rfl (hb hby d2_146) rfl rfl kk) ?_
      show Go _ _ _ _ _ _ _ T23 (mkF m 148 _ [(.ref b2)])
      refine Go.step (fun tt kk => XS.iload X23.here hx rfl (hb hby d2_148) rfl kk) ?_
      show Go _ _ _ _ _ _ _ T23 (mkF m 150 _ [(.int (Int32.ofNat (bf + 3))), (.ref b2)])
      refine Go.step (fun tt kk => XS.iconst X23.here hx rfl (hb hby d2_150) kk) ?_
      show Go _ _ _ _ _ _ _ T23 (mkF m 151 _ [(.int (2 : Int32)), (.int (Int32.ofNat (bf + 3))), (.ref b2)])
      refine Go.step (fun tt kk => XS.iadd X23.here hx rfl (hb hby d2_151) rfl kk) ?_
      show Go _ _ _ _ _ _ _ T23 (mkF m 152 _ [(.int ((Int32.ofNat (bf + 3)) + (2 : Int32))), (.ref b2)])
      refine Go.step (fun tt kk => XS.iload X23.here hx rfl (hb hby d2_152) rfl kk) ?_
      show Go _ _ _ _ _ _ _ T23 (mkF m 154 _ [(.int (w4 g 4)), (.int ((Int32.ofNat (bf + 3)) + (2 : Int32))), (.ref b2)])
      refine Go.step (fun tt kk => XS.i2b X23.here hx rfl (hb hby d2_154) rfl kk) ?_
      show Go _ _ _ _ _ _ _ T23 (mkF m 155 _ [(.int ((w4 g 4).toInt8.toInt32)), (.int ((Int32.ofNat (bf + 3)) + (2 : Int32))), (.ref b2)])
      rw [show Int32.ofNat (bf + 3) + (2 : Int32) = Int32.ofNat (bf + 5) from own_add (bf + 3) 2]
      show Go _ _ _ _ _ _ _ T23 (mkF m 155 #[.val (.ref tx), .val (.int (Int32.ofNat off)), .val (.int (8 : Int32)), .val (.int (Int32.ofNat bf)), .val (.int (6 : Int32)), .val (.int (Int32.ofNat (off + 8))), .val (.ref b2), .val (.int (0 : Int32)), .val (.int (Int32.ofNat (off + 8))), .val (.int (Int32.ofNat (bf + 3))), .val (.int (Int32.ofNat (off + 4))), .val (.int (w4 g 4)), .unset] [(.int (((w4 g 4)).toInt8.toInt32)), (.int (Int32.ofNat (bf + 5))), (.ref b2)])
      obtain ⟨cl24, Ar24, hin24, -⟩ := V23.at (j := (Int32.ofNat (bf + 5))) (k := (bf + 5)) (Int32.toInt_ofNat_of_lt (by omega)) (by omega)
      obtain ⟨T24, h24, X24, e24, W24, st24⟩ := stB X23 hx hZ e23 Ar24 (j := (Int32.ofNat (bf + 5))) hin24 (g := (mkF m 155 #[.val (.ref tx), .val (.int (Int32.ofNat off)), .val (.int (8 : Int32)), .val (.int (Int32.ofNat bf)), .val (.int (6 : Int32)), .val (.int (Int32.ofNat (off + 8))), .val (.ref b2), .val (.int (0 : Int32)), .val (.int (Int32.ofNat (off + 8))), .val (.int (Int32.ofNat (bf + 3))), .val (.int (Int32.ofNat (off + 4))), .val (.int (w4 g 4)), .unset] [(.int (((w4 g 4)).toInt8.toInt32)), (.int (Int32.ofNat (bf + 5))), (.ref b2)])) rfl rfl (hb hby d2_155)
      rw [(own_nb _)] at W24
      have V24 : AV Z h24 b2 .byte (bf + 6) (upd (upd (upd (upd (upd (upd (fun _ => (.int (0 : Int32))) (bf + 0) (.int (((w4 g 0) >>> ((16 : Int32) &&& 31)).toInt8.toInt32))) (bf + 1) (.int (((w4 g 0) >>> ((8 : Int32) &&& 31)).toInt8.toInt32))) (bf + 2) (.int (((w4 g 0)).toInt8.toInt32))) (bf + 3) (.int (((w4 g 4) >>> ((16 : Int32) &&& 31)).toInt8.toInt32))) (bf + 4) (.int (((w4 g 4) >>> ((8 : Int32) &&& 31)).toInt8.toInt32))) (bf + 5) (.int (((w4 g 4)).toInt8.toInt32))) := AV.set V23 (k := (bf + 5)) (Int32.toInt_ofNat_of_lt (by omega)) (by omega) W24
      have N24 := Fr.snoc X24 N23 gn_b2
      have Z24 : n0 ≤ h24.size := Nat.le_trans Z23 (Keep.of_wr W24).1
      have K24 : Keep hI h24 [] := K23.wr W24 (Or.inr sz_b2)
      refine Go.step (st24) ?_
      show Go _ _ _ _ _ _ _ T24 (mkF m 156 _ [])
      refine Go.step (fun tt kk => XS.iinc X24.here hx rfl (hb hby d2_156) rfl (l' := #[.val (.ref tx), .val (.int (Int32.ofNat off)), .val (.int (8 : Int32)), .val (.int (Int32.ofNat bf)), .val (.int (6 : Int32)), .val (.int (Int32.ofNat (off + 8))), .val (.ref b2), .val (.int (0 : Int32)), .val (.int (Int32.ofNat (off + 8))), .val (.int ((Int32.ofNat (bf + 3)) + (3 : Int32))), .val (.int (Int32.ofNat (off + 4))), .val (.int (w4 g 4)), .unset]) rfl kk) ?_
      show Go _ _ _ _ _ _ _ T24 (mkF m 159 _ [])
      refine Go.step (fun tt kk => XS.iinc X24.here hx rfl (hb hby d2_159) rfl (l' := #[.val (.ref tx), .val (.int (Int32.ofNat off)), .val (.int (8 : Int32)), .val (.int (Int32.ofNat bf)), .val (.int (6 : Int32)), .val (.int (Int32.ofNat (off + 8))), .val (.ref b2), .val (.int (0 : Int32)), .val (.int (Int32.ofNat (off + 8))), .val (.int ((Int32.ofNat (bf + 3)) + (3 : Int32))), .val (.int ((Int32.ofNat (off + 4)) + (4 : Int32))), .val (.int (w4 g 4)), .unset]) rfl kk) ?_
      show Go _ _ _ _ _ _ _ T24 (mkF m 162 _ [])
      refine Go.step (fun tt kk => XS.goto X24.here hx rfl (pc0 := 162) (pc' := 60) rfl (hb hby d2_162) (by decide) (by decide) kk) ?_
      show Go _ _ _ _ _ _ _ T24 (mkF m 60 _ [])
      rw [show ((Int32.ofNat (off + 4)) + (4 : Int32)) = Int32.ofNat (off + 8) from (own_add (off + 4) 4), show ((Int32.ofNat (bf + 3)) + (3 : Int32)) = Int32.ofNat (bf + 6) from (own_add (bf + 3) 3)]
      show Go _ _ _ _ _ _ _ T24 (mkF m 60 #[.val (.ref tx), .val (.int (Int32.ofNat off)), .val (.int (8 : Int32)), .val (.int (Int32.ofNat bf)), .val (.int (6 : Int32)), .val (.int (Int32.ofNat (off + 8))), .val (.ref b2), .val (.int (0 : Int32)), .val (.int (Int32.ofNat (off + 8))), .val (.int (Int32.ofNat (bf + 6))), .val (.int (Int32.ofNat (off + 8))), .val (.int (w4 g 4)), .unset] [])
      refine Go.step (fun tt kk => XS.iload X24.here hx rfl (hb hby d2_60) rfl kk) ?_
      show Go _ _ _ _ _ _ _ T24 (mkF m 62 _ [(.int (Int32.ofNat (off + 8)))])
      refine Go.step (fun tt kk => XS.iload X24.here hx rfl (hb hby d2_62) rfl kk) ?_
      show Go _ _ _ _ _ _ _ T24 (mkF m 64 _ [(.int (Int32.ofNat (off + 8))), (.int (Int32.ofNat (off + 8)))])
      refine Go.step (fun tt kk => XS.icmpYes X24.here hx rfl (pc0 := 64) (pc' := 165) rfl (hb hby d2_64) rfl (flt (mt (own_lt _ _ (by omega) (by omega)).mp (by omega))).2.1 (by decide) (by decide) kk) ?_
      show Go _ _ _ _ _ _ _ T24 (mkF m 165 _ [])
      refine Go.step (fun tt kk => XS.iload X24.here hx rfl (hb hby d2_165) rfl kk) ?_
      show Go _ _ _ _ _ _ _ T24 (mkF m 167 _ [(.int (0 : Int32))])
      refine Go.step (fun tt kk => XS.ifNo X24.here hx rfl (hb hby d2_167) rfl ((if0 _ _).trans (teq (by decide)).2) kk) ?_
      show Go _ _ _ _ _ _ _ T24 (mkF m 170 _ [])
      refine Go.step (fun tt kk => XS.aload X24.here hx rfl (hb hby d2_170) rfl rfl kk) ?_
      show Go _ _ _ _ _ _ _ T24 (mkF m 172 _ [(.ref b2)])
      have V25 : AV Z h24 b2 .byte (bf + 6) (gv (exI g bf)) := V24.congr fun i hi => by
        by_cases q : i < bf
        · rw [show gv (exI g bf) i = .int 0 from congrArg Value.int (exI_lt q)]
          rw [upd_ne (by omega), upd_ne (by omega), upd_ne (by omega), upd_ne (by omega), upd_ne (by omega), upd_ne (by omega)]
        · obtain ⟨j, rfl⟩ : ∃ j, i = bf + j := ⟨i - bf, by omega⟩
          rw [show gv (exI g bf) (bf + j) = .int (bt g (j / 3) (j % 3)) from congrArg Value.int (exI_at j)]
          rcases (by omega : j = 0 ∨ j = 1 ∨ j = 2 ∨ j = 3 ∨ j = 4 ∨ j = 5) with rfl | rfl | rfl | rfl | rfl | rfl
          · rw [upd_ne (by omega), upd_ne (by omega), upd_ne (by omega), upd_ne (by omega), upd_ne (by omega), upd_at (by omega)]; exact congrArg Value.int by0.1
          · rw [upd_ne (by omega), upd_ne (by omega), upd_ne (by omega), upd_ne (by omega), upd_at (by omega)]; exact congrArg Value.int by0.2.1
          · rw [upd_ne (by omega), upd_ne (by omega), upd_ne (by omega), upd_at (by omega)]; exact congrArg Value.int by0.2.2
          · rw [upd_ne (by omega), upd_ne (by omega), upd_at (by omega)]; exact congrArg Value.int by1.1
          · rw [upd_ne (by omega), upd_at (by omega)]; exact congrArg Value.int by1.2.1
          · rw [upd_at (by omega)]; exact congrArg Value.int by1.2.2
      refine go_retA X24 hx (t := (.array .byte)) hret rfl hlk rfl (hb hby d2_172) ?_ (by decide) (by decide)
      try rw [e24]
      exact ⟨N24, eI ▸ K24, fun _ => ⟨b2, rfl, eI ▸ sz_b2, V25⟩, fun z => absurd ⟨ok0, ok1⟩ z⟩
theorem ef_rmDc81 (m : MethodId) (x0 : Addr) (x1 : Int32) (x2 : Int32) (x3 : Int32) : entryFrame m #[(.ref x0), (.int x1), (.int x2), (.int x3)] 13 = mkF m 0 #[.val (.ref x0), .val (.int x1), .val (.int x2), .val (.int x3), .unset, .unset, .unset, .unset, .unset, .unset, .unset, .unset, .unset] [] := by first | (simp [entryFrame, mkF, argsToLocals, Value.category]; done) | rfl
set_option maxRecDepth 65536 in
set_option maxHeartbeats 40000000 in
theorem rmDc81 (l : Launch) (Z : State) (a0 : Array Value) (hw : ∀ d ∈ tables_1, d.before a0 Z = true) (ws : List Jvm.Cond) (tx va : Addr) (off bf : Nat) (g : Nat → Int32) (F : Nat → Value) (h0 : Heap) (n0 : Nat) (Z0 : n0 ≤ h0.size) (ho : off ≤ 3) (hbf : bf ≤ 3) (hF : ∀ i, i < 8 → F (off + i) = .int (g i)) (hg : CH g) (hp1 : g 7 = 61) (hp2 : ¬ g 6 = 61) (SV : Sta Z h0 "com/example/sharks/sharks/StandardBase64" "VALUES" "[B" (.ref va)) (V_va : AV Z h0 va .byte 128 vt) (V_tx : AV Z h0 tx .char 12 F) :
    Ctr l Z (⟨"com/example/sharks/sharks/StandardBase64", "decode", "([CIII)[B"⟩ : MethodName) prog_9_method_2_code 13 (some (.array .byte)) ws ({ frames := 1, cells := 1, slots := 9, locals := 16 } : Room) 1 9 #[(.ref tx), (.int (Int32.ofNat off)), (.int (8 : Int32)), (.int (Int32.ofNat bf))] h0 (fun v h L => Fr n0 L ∧ Keep h0 h [] ∧ ((OK4 g 0 ∧ OK1 g 4) → ∃ b, v = some (.ref b) ∧ h0.size ≤ b ∧ AV Z h b .byte (bf + 5) (gv (exI g bf))) ∧ (¬ (OK4 g 0 ∧ OK1 g 4) → v = some .null)) := by
  refine Ctr.mk (plainFor_of_name pn_1) fun p e s m below meth c T0 X0 C e0 => go_cast (ef_rmDc81 m tx (Int32.ofNat off) (8 : Int32) (Int32.ofNat bf)) ?_
  have N0 := Fr.nil n0
  obtain ⟨hx, hZ, hby, hml, hown, hnm, hret, hlk⟩ := C
  obtain ⟨hI, eI⟩ : ∃ z, z = h0 := ⟨_, rfl⟩
  have K0 : Keep hI h0 [] := by rw [eI]; exact Keep.refl _ _
  show Go _ _ _ _ _ _ _ T0 (mkF m 0 #[.val (.ref tx), .val (.int (Int32.ofNat off)), .val (.int (8 : Int32)), .val (.int (Int32.ofNat bf)), .unset, .unset, .unset, .unset, .unset, .unset, .unset, .unset, .unset] [])
  refine Go.step (fun tt kk => XS.aloadN X0.here hx rfl (hb hby d2_0) rfl rfl kk) ?_
  show Go _ _ _ _ _ _ _ T0 (mkF m 1 _ [(.ref tx)])
  refine Go.step (fun tt kk => XS.iloadN X0.here hx rfl (hb hby d2_1) rfl kk) ?_
  show Go _ _ _ _ _ _ _ T0 (mkF m 2 _ [(.int (Int32.ofNat off)), (.ref tx)])
  refine Go.step (fun tt kk => XS.iloadN X0.here hx rfl (hb hby d2_2) rfl kk) ?_
  show Go _ _ _ _ _ _ _ T0 (mkF m 3 _ [(.int (8 : Int32)), (.int (Int32.ofNat off)), (.ref tx)])
  obtain ⟨v1, T1, L1, X1, q1, st1⟩ := c_static X0 hx hZ hown (y := (⟨"com/example/sharks/sharks/StandardBase64", "decodedLength", "([CII)I"⟩ : MethodName)) (hw _ (List.mem_of_getElem? (i := 11) rfl)) (hw _ (List.mem_of_getElem? (i := 12) rfl)) (hw _ (List.mem_of_getElem? (i := 9) rfl)) (hw _ (List.mem_of_getElem? (i := 13) rfl)) (by decide) (argsL := [(.ref tx), (.int (Int32.ofNat off)), (.int (8 : Int32))]) (rest := []) (rmD l Z a0 hw [] tx off 8 (g 7) (g 6) F h0 n0 Z0 ho (by decide) V_tx (hF 7 (by decide)) (hF 6 (by decide))) e0 pd_0 rfl (by rw [hml]; rfl) (W := 0) (by show 2 * 0 + _ ≤ _; exact Nat.le_of_eq rfl) (by decide) (by decide) (by decide) (by decide) (hb hby d2_3) (Ls := #[.val (.ref tx), .val (.int (Int32.ofNat off)), .val (.int (8 : Int32)), .val (.int (Int32.ofNat bf)), .unset, .unset, .unset, .unset, .unset, .unset, .unset, .unset, .unset])
  obtain ⟨rfl, rfl, e1⟩ := q1
  have N1 := Fr.app N0 (Fr.nil n0)
  refine Go.step (st1) ?_
  show Go _ _ _ _ _ _ _ T1 (mkF m 6 _ [(.int (dl 8 (g 7) (g 6)))])
  rw [show dl 8 (g 7) (g 6) = (5 : Int32) from by unfold dl; rw [if_pos hp1, if_neg hp2]; decide]
  show Go _ _ _ _ _ _ _ T1 (mkF m 6 #[.val (.ref tx), .val (.int (Int32.ofNat off)), .val (.int (8 : Int32)), .val (.int (Int32.ofNat bf)), .unset, .unset, .unset, .unset, .unset, .unset, .unset, .unset, .unset] [(.int (5 : Int32))])
  refine Go.step (fun tt kk => XS.istore X1.here hx rfl (hb hby d2_6) rfl (l' := #[.val (.ref tx), .val (.int (Int32.ofNat off)), .val (.int (8 : Int32)), .val (.int (Int32.ofNat bf)), .val (.int (5 : Int32)), .unset, .unset, .unset, .unset, .unset, .unset, .unset, .unset]) rfl kk) ?_
  show Go _ _ _ _ _ _ _ T1 (mkF m 8 _ [])
  refine Go.step (fun tt kk => XS.iload X1.here hx rfl (hb hby d2_8) rfl kk) ?_
  show Go _ _ _ _ _ _ _ T1 (mkF m 10 _ [(.int (5 : Int32))])
  refine Go.step (fun tt kk => XS.ifYes X1.here hx rfl (pc0 := 10) (pc' := 15) rfl (hb hby d2_10) rfl ((if0 _ _).trans (flt (by decide)).2.1) (by decide) (by decide) kk) ?_
  show Go _ _ _ _ _ _ _ T1 (mkF m 15 _ [])
  refine Go.step (fun tt kk => XS.iloadN X1.here hx rfl (hb hby d2_15) rfl kk) ?_
  show Go _ _ _ _ _ _ _ T1 (mkF m 16 _ [(.int (Int32.ofNat off))])
  refine Go.step (fun tt kk => XS.iloadN X1.here hx rfl (hb hby d2_16) rfl kk) ?_
  show Go _ _ _ _ _ _ _ T1 (mkF m 17 _ [(.int (8 : Int32)), (.int (Int32.ofNat off))])
  refine Go.step (fun tt kk => XS.iadd X1.here hx rfl (hb hby d2_17) rfl kk) ?_
  show Go _ _ _ _ _ _ _ T1 (mkF m 18 _ [(.int ((Int32.ofNat off) + (8 : Int32)))])
  rw [show Int32.ofNat off + (8 : Int32) = Int32.ofNat (off + 8) from own_add off 8]
  show Go _ _ _ _ _ _ _ T1 (mkF m 18 #[.val (.ref tx), .val (.int (Int32.ofNat off)), .val (.int (8 : Int32)), .val (.int (Int32.ofNat bf)), .val (.int (5 : Int32)), .unset, .unset, .unset, .unset, .unset, .unset, .unset, .unset] [(.int (Int32.ofNat (off + 8)))])
  refine Go.step (fun tt kk => XS.istore X1.here hx rfl (hb hby d2_18) rfl (l' := #[.val (.ref tx), .val (.int (Int32.ofNat off)), .val (.int (8 : Int32)), .val (.int (Int32.ofNat bf)), .val (.int (5 : Int32)), .val (.int (Int32.ofNat (off + 8))), .unset, .unset, .unset, .unset, .unset, .unset, .unset]) rfl kk) ?_
  show Go _ _ _ _ _ _ _ T1 (mkF m 20 _ [])
  refine Go.step (fun tt kk => XS.iloadN X1.here hx rfl (hb hby d2_20) rfl kk) ?_
  show Go _ _ _ _ _ _ _ T1 (mkF m 21 _ [(.int (Int32.ofNat bf))])
  refine Go.step (fun tt kk => XS.iload X1.here hx rfl (hb hby d2_21) rfl kk) ?_
  show Go _ _ _ _ _ _ _ T1 (mkF m 23 _ [(.int (5 : Int32)), (.int (Int32.ofNat bf))])
  refine Go.step (fun tt kk => XS.iadd X1.here hx rfl (hb hby d2_23) rfl kk) ?_
  show Go _ _ _ _ _ _ _ T1 (mkF m 24 _ [(.int ((Int32.ofNat bf) + (5 : Int32)))])
  rw [show Int32.ofNat bf + (5 : Int32) = Int32.ofNat (bf + 5) from own_add bf 5]
  show Go _ _ _ _ _ _ _ T1 (mkF m 24 #[.val (.ref tx), .val (.int (Int32.ofNat off)), .val (.int (8 : Int32)), .val (.int (Int32.ofNat bf)), .val (.int (5 : Int32)), .val (.int (Int32.ofNat (off + 8))), .unset, .unset, .unset, .unset, .unset, .unset, .unset] [(.int (Int32.ofNat (bf + 5)))])
  obtain ⟨T2, h2, k2, X2, e2, E2, A2, EA2, st2⟩ := newPE X1 hx hZ (hw _ (List.mem_of_getElem? (i := 20) rfl)) e1 (g := (mkF m 24 #[.val (.ref tx), .val (.int (Int32.ofNat off)), .val (.int (8 : Int32)), .val (.int (Int32.ofNat bf)), .val (.int (5 : Int32)), .val (.int (Int32.ofNat (off + 8))), .unset, .unset, .unset, .unset, .unset, .unset, .unset] [(.int (Int32.ofNat (bf + 5)))])) rfl (hb hby d2_24) rfl (own_nn (bf + 5) (by omega)) (cap := 9) (by rw [clamp_of (k := bf + 5) (Int32.toInt_ofNat_of_lt (by omega))]; omega) (by decide) (by decide) (by decide) (ad := "[B") rfl
  obtain ⟨b2, g2⟩ : ∃ z, z = h0.size := ⟨_, rfl⟩
  rw [← g2] at A2 EA2 st2
  have ne_tx_b2 : tx ≠ b2 := Nat.ne_of_lt (Nat.lt_of_lt_of_le V_tx.lt (Nat.le_of_eq g2.symm))
  have ne_va_b2 : va ≠ b2 := Nat.ne_of_lt (Nat.lt_of_lt_of_le V_va.lt (Nat.le_of_eq g2.symm))
  have gn_b2 : n0 ≤ b2 := Nat.le_trans Z0 (Nat.le_of_eq g2.symm)
  have sz_b2 : hI.size ≤ b2 := Nat.le_trans K0.1 (Nat.le_of_eq g2.symm)
  have Z2 : n0 ≤ h2.size := Nat.le_trans Z0 E2.1
  have K2 : Keep hI h2 [] := K0.ext E2
  have V2 : AV Z h2 b2 .byte (bf + 5) (fun _ => (.int (0 : Int32))) := AV.new A2 (Int32.toInt_ofNat_of_lt (by omega))
  refine Go.step (st2) ?_
  show Go _ _ _ _ _ _ _ T2 (mkF m 26 _ [(.ref b2)])
  refine Go.step (fun tt kk => XS.astore X2.here hx rfl (hb hby d2_26) rfl rfl (l' := #[.val (.ref tx), .val (.int (Int32.ofNat off)), .val (.int (8 : Int32)), .val (.int (Int32.ofNat bf)), .val (.int (5 : Int32)), .val (.int (Int32.ofNat (off + 8))), .val (.ref b2), .unset, .unset, .unset, .unset, .unset, .unset]) rfl kk) ?_
  show Go _ _ _ _ _ _ _ T2 (mkF m 28 _ [])
  refine Go.step (fun tt kk => XS.iloadN X2.here hx rfl (hb hby d2_28) rfl kk) ?_
  show Go _ _ _ _ _ _ _ T2 (mkF m 29 _ [(.int (8 : Int32))])
  refine Go.step (fun tt kk => XS.iconst X2.here hx rfl (hb hby d2_29) kk) ?_
  show Go _ _ _ _ _ _ _ T2 (mkF m 30 _ [(.int (4 : Int32)), (.int (8 : Int32))])
  refine Go.step (fun tt kk => XS.idiv X2.here hx rfl (hb hby d2_30) rfl (by decide) kk) ?_
  show Go _ _ _ _ _ _ _ T2 (mkF m 31 _ [(.int ((8 : Int32) / (4 : Int32)))])
  refine Go.step (fun tt kk => XS.iconst X2.here hx rfl (hb hby d2_31) kk) ?_
  show Go _ _ _ _ _ _ _ T2 (mkF m 32 _ [(.int (3 : Int32)), (.int ((8 : Int32) / (4 : Int32)))])
  refine Go.step (fun tt kk => XS.imul X2.here hx rfl (hb hby d2_32) rfl kk) ?_
  show Go _ _ _ _ _ _ _ T2 (mkF m 33 _ [(.int (((8 : Int32) / (4 : Int32)) * (3 : Int32)))])
  refine Go.step (fun tt kk => XS.iload X2.here hx rfl (hb hby d2_33) rfl kk) ?_
  show Go _ _ _ _ _ _ _ T2 (mkF m 35 _ [(.int (5 : Int32)), (.int (((8 : Int32) / (4 : Int32)) * (3 : Int32)))])
  refine Go.step (fun tt kk => XS.isub X2.here hx rfl (hb hby d2_35) rfl kk) ?_
  show Go _ _ _ _ _ _ _ T2 (mkF m 36 _ [(.int ((((8 : Int32) / (4 : Int32)) * (3 : Int32)) - (5 : Int32)))])
  rw [show ((((8 : Int32) / (4 : Int32)) * (3 : Int32)) - (5 : Int32)) = (1 : Int32) by decide]
  show Go _ _ _ _ _ _ _ T2 (mkF m 36 #[.val (.ref tx), .val (.int (Int32.ofNat off)), .val (.int (8 : Int32)), .val (.int (Int32.ofNat bf)), .val (.int (5 : Int32)), .val (.int (Int32.ofNat (off + 8))), .val (.ref b2), .unset, .unset, .unset, .unset, .unset, .unset] [(.int (1 : Int32))])
  refine Go.step (fun tt kk => XS.istore X2.here hx rfl (hb hby d2_36) rfl (l' := #[.val (.ref tx), .val (.int (Int32.ofNat off)), .val (.int (8 : Int32)), .val (.int (Int32.ofNat bf)), .val (.int (5 : Int32)), .val (.int (Int32.ofNat (off + 8))), .val (.ref b2), .val (.int (1 : Int32)), .unset, .unset, .unset, .unset, .unset]) rfl kk) ?_
  show Go _ _ _ _ _ _ _ T2 (mkF m 38 _ [])
  refine Go.step (fun tt kk => XS.iload X2.here hx rfl (hb hby d2_38) rfl kk) ?_
  show Go _ _ _ _ _ _ _ T2 (mkF m 40 _ [(.int (1 : Int32))])
  refine Go.step (fun tt kk => XS.ifYes X2.here hx rfl (pc0 := 40) (pc' := 48) rfl (hb hby d2_40) rfl ((if0 _ _).trans (feq (by decide)).2) (by decide) (by decide) kk) ?_
  show Go _ _ _ _ _ _ _ T2 (mkF m 48 _ [])
  refine Go.step (fun tt kk => XS.iload X2.here hx rfl (hb hby d2_48) rfl kk) ?_
  show Go _ _ _ _ _ _ _ T2 (mkF m 50 _ [(.int (Int32.ofNat (off + 8)))])
  refine Go.step (fun tt kk => XS.iconst X2.here hx rfl (hb hby d2_50) kk) ?_
  show Go _ _ _ _ _ _ _ T2 (mkF m 51 _ [(.int (4 : Int32)), (.int (Int32.ofNat (off + 8)))])
  refine Go.step (fun tt kk => XS.isub X2.here hx rfl (hb hby d2_51) rfl kk) ?_
  show Go _ _ _ _ _ _ _ T2 (mkF m 52 _ [(.int ((Int32.ofNat (off + 8)) - (4 : Int32)))])
  rw [show Int32.ofNat (off + 8) - (4 : Int32) = Int32.ofNat (off + 4) from (own_sub (off + 8) 4 (by omega) (by omega)).trans (congrArg Int32.ofNat (by omega))]
  show Go _ _ _ _ _ _ _ T2 (mkF m 52 #[.val (.ref tx), .val (.int (Int32.ofNat off)), .val (.int (8 : Int32)), .val (.int (Int32.ofNat bf)), .val (.int (5 : Int32)), .val (.int (Int32.ofNat (off + 8))), .val (.ref b2), .val (.int (1 : Int32)), .unset, .unset, .unset, .unset, .unset] [(.int (Int32.ofNat (off + 4)))])
  refine Go.step (fun tt kk => XS.istore X2.here hx rfl (hb hby d2_52) rfl (l' := #[.val (.ref tx), .val (.int (Int32.ofNat off)), .val (.int (8 : Int32)), .val (.int (Int32.ofNat bf)), .val (.int (5 : Int32)), .val (.int (Int32.ofNat (off + 8))), .val (.ref b2), .val (.int (1 : Int32)), .val (.int (Int32.ofNat (off + 4))), .unset, .unset, .unset, .unset]) rfl kk) ?_
  show Go _ _ _ _ _ _ _ T2 (mkF m 54 _ [])
  refine Go.step (fun tt kk => XS.iloadN X2.here hx rfl (hb hby d2_54) rfl kk) ?_
  show Go _ _ _ _ _ _ _ T2 (mkF m 55 _ [(.int (Int32.ofNat bf))])
  refine Go.step (fun tt kk => XS.istore X2.here hx rfl (hb hby d2_55) rfl (l' := #[.val (.ref tx), .val (.int (Int32.ofNat off)), .val (.int (8 : Int32)), .val (.int (Int32.ofNat bf)), .val (.int (5 : Int32)), .val (.int (Int32.ofNat (off + 8))), .val (.ref b2), .val (.int (1 : Int32)), .val (.int (Int32.ofNat (off + 4))), .val (.int (Int32.ofNat bf)), .unset, .unset, .unset]) rfl kk) ?_
  show Go _ _ _ _ _ _ _ T2 (mkF m 57 _ [])
  refine Go.step (fun tt kk => XS.iloadN X2.here hx rfl (hb hby d2_57) rfl kk) ?_
  show Go _ _ _ _ _ _ _ T2 (mkF m 58 _ [(.int (Int32.ofNat off))])
  refine Go.step (fun tt kk => XS.istore X2.here hx rfl (hb hby d2_58) rfl (l' := #[.val (.ref tx), .val (.int (Int32.ofNat off)), .val (.int (8 : Int32)), .val (.int (Int32.ofNat bf)), .val (.int (5 : Int32)), .val (.int (Int32.ofNat (off + 8))), .val (.ref b2), .val (.int (1 : Int32)), .val (.int (Int32.ofNat (off + 4))), .val (.int (Int32.ofNat bf)), .val (.int (Int32.ofNat off)), .unset, .unset]) rfl kk) ?_
  show Go _ _ _ _ _ _ _ T2 (mkF m 60 _ [])
  show Go _ _ _ _ _ _ _ T2 (mkF m 60 #[.val (.ref tx), .val (.int (Int32.ofNat off)), .val (.int (8 : Int32)), .val (.int (Int32.ofNat bf)), .val (.int (5 : Int32)), .val (.int (Int32.ofNat (off + 8))), .val (.ref b2), .val (.int (1 : Int32)), .val (.int (Int32.ofNat (off + 4))), .val (.int (Int32.ofNat (bf + 0))), .val (.int (Int32.ofNat (off + 0))), .unset, .unset] [])
  refine Go.step (fun tt kk => XS.iload X2.here hx rfl (hb hby d2_60) rfl kk) ?_
  show Go _ _ _ _ _ _ _ T2 (mkF m 62 _ [(.int (Int32.ofNat (off + 0)))])
  refine Go.step (fun tt kk => XS.iload X2.here hx rfl (hb hby d2_62) rfl kk) ?_
  show Go _ _ _ _ _ _ _ T2 (mkF m 64 _ [(.int (Int32.ofNat (off + 4))), (.int (Int32.ofNat (off + 0)))])
  refine Go.step (fun tt kk => XS.icmpNo X2.here hx rfl (hb hby d2_64) rfl (tlt ((own_lt _ _ (by omega) (by omega)).mpr (by omega))).2.1 kk) ?_
  show Go _ _ _ _ _ _ _ T2 (mkF m 67 _ [])
  refine Go.step (fun tt kk => XS.aloadN X2.here hx rfl (hb hby d2_67) rfl rfl kk) ?_
  show Go _ _ _ _ _ _ _ T2 (mkF m 68 _ [(.ref tx)])
  refine Go.step (fun tt kk => XS.iload X2.here hx rfl (hb hby d2_68) rfl kk) ?_
  show Go _ _ _ _ _ _ _ T2 (mkF m 70 _ [(.int (Int32.ofNat (off + 0))), (.ref tx)])
  have f3 := (V_tx.ext E2)
  refine Go.step (a_cload X2 hx hZ e2 f3 (k := (off + 0)) (Int32.toInt_ofNat_of_lt (by omega)) (by omega) (x := (g 0)) (hF 0 (by decide)) (hb hby d2_70)) ?_
  show Go _ _ _ _ _ _ _ T2 (mkF m 71 _ [(.int (g 0))])
  have f5 := (Sta.ext E2 SV)
  have f6 := (V_va.ext E2)
  obtain ⟨v4, T4, L4, X4, q4, st4⟩ := c_static X2 hx hZ hown (y := (⟨"com/example/sharks/sharks/StandardBase64", "value", "(C)I"⟩ : MethodName)) (hw _ (List.mem_of_getElem? (i := 24) rfl)) (hw _ (List.mem_of_getElem? (i := 25) rfl)) (hw _ (List.mem_of_getElem? (i := 9) rfl)) (hw _ (List.mem_of_getElem? (i := 26) rfl)) (by decide) (argsL := [(.int (g 0))]) (rest := []) (rmVa l Z a0 hw [] va (g 0) h2 n0 Z2 (char_nn (hg 0 (by decide))).1 f5 f6) e2 pd_1 rfl (by rw [hml]; rfl) (W := 0) (by show 2 * 0 + _ ≤ _; exact Nat.le_of_eq rfl) (by decide) (by decide) (by decide) (by decide) (hb hby d2_71) (Ls := #[.val (.ref tx), .val (.int (Int32.ofNat off)), .val (.int (8 : Int32)), .val (.int (Int32.ofNat bf)), .val (.int (5 : Int32)), .val (.int (Int32.ofNat (off + 8))), .val (.ref b2), .val (.int (1 : Int32)), .val (.int (Int32.ofNat (off + 4))), .val (.int (Int32.ofNat (bf + 0))), .val (.int (Int32.ofNat (off + 0))), .unset, .unset])
  obtain ⟨rfl, rfl, e4⟩ := q4
  have N4 := Fr.app N1 (Fr.nil n0)
  refine Go.step (st4) ?_
  show Go _ _ _ _ _ _ _ T4 (mkF m 74 _ [(.int (vl (g 0)))])
  refine Go.step (fun tt kk => XS.bipush X4.here hx rfl (hb hby d2_74) kk) ?_
  show Go _ _ _ _ _ _ _ T4 (mkF m 76 _ [(.int (18 : Int32)), (.int (vl (g 0)))])
  refine Go.step (fun tt kk => XS.ishl X4.here hx rfl (hb hby d2_76) rfl kk) ?_
  show Go _ _ _ _ _ _ _ T4 (mkF m 77 _ [(.int ((vl (g 0)) <<< ((18 : Int32) &&& 31)))])
  refine Go.step (fun tt kk => XS.aloadN X4.here hx rfl (hb hby d2_77) rfl rfl kk) ?_
  show Go _ _ _ _ _ _ _ T4 (mkF m 78 _ [(.ref tx), (.int ((vl (g 0)) <<< ((18 : Int32) &&& 31)))])
  refine Go.step (fun tt kk => XS.iload X4.here hx rfl (hb hby d2_78) rfl kk) ?_
  show Go _ _ _ _ _ _ _ T4 (mkF m 80 _ [(.int (Int32.ofNat (off + 0))), (.ref tx), (.int ((vl (g 0)) <<< ((18 : Int32) &&& 31)))])
  refine Go.step (fun tt kk => XS.iconst X4.here hx rfl (hb hby d2_80) kk) ?_
  show Go _ _ _ _ _ _ _ T4 (mkF m 81 _ [(.int (1 : Int32)), (.int (Int32.ofNat (off + 0))), (.ref tx), (.int ((vl (g 0)) <<< ((18 : Int32) &&& 31)))])
  refine Go.step (fun tt kk => XS.iadd X4.here hx rfl (hb hby d2_81) rfl kk) ?_
  show Go _ _ _ _ _ _ _ T4 (mkF m 82 _ [(.int ((Int32.ofNat (off + 0)) + (1 : Int32))), (.ref tx), (.int ((vl (g 0)) <<< ((18 : Int32) &&& 31)))])
  rw [show Int32.ofNat (off + 0) + (1 : Int32) = Int32.ofNat (off + 1) from own_add (off + 0) 1]
  show Go _ _ _ _ _ _ _ T4 (mkF m 82 #[.val (.ref tx), .val (.int (Int32.ofNat off)), .val (.int (8 : Int32)), .val (.int (Int32.ofNat bf)), .val (.int (5 : Int32)), .val (.int (Int32.ofNat (off + 8))), .val (.ref b2), .val (.int (1 : Int32)), .val (.int (Int32.ofNat (off + 4))), .val (.int (Int32.ofNat (bf + 0))), .val (.int (Int32.ofNat (off + 0))), .unset, .unset] [(.int (Int32.ofNat (off + 1))), (.ref tx), (.int ((vl (g 0)) <<< ((18 : Int32) &&& 31)))])
  refine Go.step (a_cload X4 hx hZ e4 f3 (k := (off + 1)) (Int32.toInt_ofNat_of_lt (by omega)) (by omega) (x := (g 1)) (hF 1 (by decide)) (hb hby d2_82)) ?_
  show Go _ _ _ _ _ _ _ T4 (mkF m 83 _ [(.int (g 1)), (.int ((vl (g 0)) <<< ((18 : Int32) &&& 31)))])
  obtain ⟨v7, T7, L7, X7, q7, st7⟩ := c_static X4 hx hZ hown (y := (⟨"com/example/sharks/sharks/StandardBase64", "value", "(C)I"⟩ : MethodName)) (hw _ (List.mem_of_getElem? (i := 24) rfl)) (hw _ (List.mem_of_getElem? (i := 25) rfl)) (hw _ (List.mem_of_getElem? (i := 9) rfl)) (hw _ (List.mem_of_getElem? (i := 26) rfl)) (by decide) (argsL := [(.int (g 1))]) (rest := [(.int ((vl (g 0)) <<< ((18 : Int32) &&& 31)))]) (rmVa l Z a0 hw [] va (g 1) h2 n0 Z2 (char_nn (hg 1 (by decide))).1 f5 f6) e4 pd_1 rfl (by rw [hml]; rfl) (W := 1) (by show 2 * 0 + _ ≤ _; exact Nat.le_of_eq rfl) (by decide) (by decide) (by decide) (by decide) (hb hby d2_83) (Ls := #[.val (.ref tx), .val (.int (Int32.ofNat off)), .val (.int (8 : Int32)), .val (.int (Int32.ofNat bf)), .val (.int (5 : Int32)), .val (.int (Int32.ofNat (off + 8))), .val (.ref b2), .val (.int (1 : Int32)), .val (.int (Int32.ofNat (off + 4))), .val (.int (Int32.ofNat (bf + 0))), .val (.int (Int32.ofNat (off + 0))), .unset, .unset])
  obtain ⟨rfl, rfl, e7⟩ := q7
  have N7 := Fr.app N4 (Fr.nil n0)
  refine Go.step (st7) ?_
  show Go _ _ _ _ _ _ _ T7 (mkF m 86 _ [(.int (vl (g 1))), (.int ((vl (g 0)) <<< ((18 : Int32) &&& 31)))])
  refine Go.step (fun tt kk => XS.bipush X7.here hx rfl (hb hby d2_86) kk) ?_
  show Go _ _ _ _ _ _ _ T7 (mkF m 88 _ [(.int (12 : Int32)), (.int (vl (g 1))), (.int ((vl (g 0)) <<< ((18 : Int32) &&& 31)))])
  refine Go.step (fun tt kk => XS.ishl X7.here hx rfl (hb hby d2_88) rfl kk) ?_
  show Go _ _ _ _ _ _ _ T7 (mkF m 89 _ [(.int ((vl (g 1)) <<< ((12 : Int32) &&& 31))), (.int ((vl (g 0)) <<< ((18 : Int32) &&& 31)))])
  refine Go.step (fun tt kk => XS.ior X7.here hx rfl (hb hby d2_89) rfl kk) ?_
  show Go _ _ _ _ _ _ _ T7 (mkF m 90 _ [(.int (((vl (g 0)) <<< ((18 : Int32) &&& 31)) ||| ((vl (g 1)) <<< ((12 : Int32) &&& 31))))])
  refine Go.step (fun tt kk => XS.aloadN X7.here hx rfl (hb hby d2_90) rfl rfl kk) ?_
  show Go _ _ _ _ _ _ _ T7 (mkF m 91 _ [(.ref tx), (.int (((vl (g 0)) <<< ((18 : Int32) &&& 31)) ||| ((vl (g 1)) <<< ((12 : Int32) &&& 31))))])
  refine Go.step (fun tt kk => XS.iload X7.here hx rfl (hb hby d2_91) rfl kk) ?_
  show Go _ _ _ _ _ _ _ T7 (mkF m 93 _ [(.int (Int32.ofNat (off + 0))), (.ref tx), (.int (((vl (g 0)) <<< ((18 : Int32) &&& 31)) ||| ((vl (g 1)) <<< ((12 : Int32) &&& 31))))])
  refine Go.step (fun tt kk => XS.iconst X7.here hx rfl (hb hby d2_93) kk) ?_
  show Go _ _ _ _ _ _ _ T7 (mkF m 94 _ [(.int (2 : Int32)), (.int (Int32.ofNat (off + 0))), (.ref tx), (.int (((vl (g 0)) <<< ((18 : Int32) &&& 31)) ||| ((vl (g 1)) <<< ((12 : Int32) &&& 31))))])
  refine Go.step (fun tt kk => XS.iadd X7.here hx rfl (hb hby d2_94) rfl kk) ?_
  show Go _ _ _ _ _ _ _ T7 (mkF m 95 _ [(.int ((Int32.ofNat (off + 0)) + (2 : Int32))), (.ref tx), (.int (((vl (g 0)) <<< ((18 : Int32) &&& 31)) ||| ((vl (g 1)) <<< ((12 : Int32) &&& 31))))])
  rw [show Int32.ofNat (off + 0) + (2 : Int32) = Int32.ofNat (off + 2) from own_add (off + 0) 2]
  show Go _ _ _ _ _ _ _ T7 (mkF m 95 #[.val (.ref tx), .val (.int (Int32.ofNat off)), .val (.int (8 : Int32)), .val (.int (Int32.ofNat bf)), .val (.int (5 : Int32)), .val (.int (Int32.ofNat (off + 8))), .val (.ref b2), .val (.int (1 : Int32)), .val (.int (Int32.ofNat (off + 4))), .val (.int (Int32.ofNat (bf + 0))), .val (.int (Int32.ofNat (off + 0))), .unset, .unset] [(.int (Int32.ofNat (off + 2))), (.ref tx), (.int (((vl (g 0)) <<< ((18 : Int32) &&& 31)) ||| ((vl (g 1)) <<< ((12 : Int32) &&& 31))))])
  refine Go.step (a_cload X7 hx hZ e7 f3 (k := (off + 2)) (Int32.toInt_ofNat_of_lt (by omega)) (by omega) (x := (g 2)) (hF 2 (by decide)) (hb hby d2_95)) ?_
  show Go _ _ _ _ _ _ _ T7 (mkF m 96 _ [(.int (g 2)), (.int (((vl (g 0)) <<< ((18 : Int32) &&& 31)) ||| ((vl (g 1)) <<< ((12 : Int32) &&& 31))))])
  obtain ⟨v8, T8, L8, X8, q8, st8⟩ := c_static X7 hx hZ hown (y := (⟨"com/example/sharks/sharks/StandardBase64", "value", "(C)I"⟩ : MethodName)) (hw _ (List.mem_of_getElem? (i := 24) rfl)) (hw _ (List.mem_of_getElem? (i := 25) rfl)) (hw _ (List.mem_of_getElem? (i := 9) rfl)) (hw _ (List.mem_of_getElem? (i := 26) rfl)) (by decide) (argsL := [(.int (g 2))]) (rest := [(.int (((vl (g 0)) <<< ((18 : Int32) &&& 31)) ||| ((vl (g 1)) <<< ((12 : Int32) &&& 31))))]) (rmVa l Z a0 hw [] va (g 2) h2 n0 Z2 (char_nn (hg 2 (by decide))).1 f5 f6) e7 pd_1 rfl (by rw [hml]; rfl) (W := 1) (by show 2 * 0 + _ ≤ _; exact Nat.le_of_eq rfl) (by decide) (by decide) (by decide) (by decide) (hb hby d2_96) (Ls := #[.val (.ref tx), .val (.int (Int32.ofNat off)), .val (.int (8 : Int32)), .val (.int (Int32.ofNat bf)), .val (.int (5 : Int32)), .val (.int (Int32.ofNat (off + 8))), .val (.ref b2), .val (.int (1 : Int32)), .val (.int (Int32.ofNat (off + 4))), .val (.int (Int32.ofNat (bf + 0))), .val (.int (Int32.ofNat (off + 0))), .unset, .unset])
  obtain ⟨rfl, rfl, e8⟩ := q8
  have N8 := Fr.app N7 (Fr.nil n0)
  refine Go.step (st8) ?_
  show Go _ _ _ _ _ _ _ T8 (mkF m 99 _ [(.int (vl (g 2))), (.int (((vl (g 0)) <<< ((18 : Int32) &&& 31)) ||| ((vl (g 1)) <<< ((12 : Int32) &&& 31))))])
  refine Go.step (fun tt kk => XS.bipush X8.here hx rfl (hb hby d2_99) kk) ?_
  show Go _ _ _ _ _ _ _ T8 (mkF m 101 _ [(.int (6 : Int32)), (.int (vl (g 2))), (.int (((vl (g 0)) <<< ((18 : Int32) &&& 31)) ||| ((vl (g 1)) <<< ((12 : Int32) &&& 31))))])
  refine Go.step (fun tt kk => XS.ishl X8.here hx rfl (hb hby d2_101) rfl kk) ?_
  show Go _ _ _ _ _ _ _ T8 (mkF m 102 _ [(.int ((vl (g 2)) <<< ((6 : Int32) &&& 31))), (.int (((vl (g 0)) <<< ((18 : Int32) &&& 31)) ||| ((vl (g 1)) <<< ((12 : Int32) &&& 31))))])
  refine Go.step (fun tt kk => XS.ior X8.here hx rfl (hb hby d2_102) rfl kk) ?_
  show Go _ _ _ _ _ _ _ T8 (mkF m 103 _ [(.int ((((vl (g 0)) <<< ((18 : Int32) &&& 31)) ||| ((vl (g 1)) <<< ((12 : Int32) &&& 31))) ||| ((vl (g 2)) <<< ((6 : Int32) &&& 31))))])
  refine Go.step (fun tt kk => XS.aloadN X8.here hx rfl (hb hby d2_103) rfl rfl kk) ?_
  show Go _ _ _ _ _ _ _ T8 (mkF m 104 _ [(.ref tx), (.int ((((vl (g 0)) <<< ((18 : Int32) &&& 31)) ||| ((vl (g 1)) <<< ((12 : Int32) &&& 31))) ||| ((vl (g 2)) <<< ((6 : Int32) &&& 31))))])
  refine Go.step (fun tt kk => XS.iload X8.here hx rfl (hb hby d2_104) rfl kk) ?_
  show Go _ _ _ _ _ _ _ T8 (mkF m 106 _ [(.int (Int32.ofNat (off + 0))), (.ref tx), (.int ((((vl (g 0)) <<< ((18 : Int32) &&& 31)) ||| ((vl (g 1)) <<< ((12 : Int32) &&& 31))) ||| ((vl (g 2)) <<< ((6 : Int32) &&& 31))))])
  refine Go.step (fun tt kk => XS.iconst X8.here hx rfl (hb hby d2_106) kk) ?_
  show Go _ _ _ _ _ _ _ T8 (mkF m 107 _ [(.int (3 : Int32)), (.int (Int32.ofNat (off + 0))), (.ref tx), (.int ((((vl (g 0)) <<< ((18 : Int32) &&& 31)) ||| ((vl (g 1)) <<< ((12 : Int32) &&& 31))) ||| ((vl (g 2)) <<< ((6 : Int32) &&& 31))))])
  refine Go.step (fun tt kk => XS.iadd X8.here hx rfl (hb hby d2_107) rfl kk) ?_
  show Go _ _ _ _ _ _ _ T8 (mkF m 108 _ [(.int ((Int32.ofNat (off + 0)) + (3 : Int32))), (.ref tx), (.int ((((vl (g 0)) <<< ((18 : Int32) &&& 31)) ||| ((vl (g 1)) <<< ((12 : Int32) &&& 31))) ||| ((vl (g 2)) <<< ((6 : Int32) &&& 31))))])
  rw [show Int32.ofNat (off + 0) + (3 : Int32) = Int32.ofNat (off + 3) from own_add (off + 0) 3]
  show Go _ _ _ _ _ _ _ T8 (mkF m 108 #[.val (.ref tx), .val (.int (Int32.ofNat off)), .val (.int (8 : Int32)), .val (.int (Int32.ofNat bf)), .val (.int (5 : Int32)), .val (.int (Int32.ofNat (off + 8))), .val (.ref b2), .val (.int (1 : Int32)), .val (.int (Int32.ofNat (off + 4))), .val (.int (Int32.ofNat (bf + 0))), .val (.int (Int32.ofNat (off + 0))), .unset, .unset] [(.int (Int32.ofNat (off + 3))), (.ref tx), (.int ((((vl (g 0)) <<< ((18 : Int32) &&& 31)) ||| ((vl (g 1)) <<< ((12 : Int32) &&& 31))) ||| ((vl (g 2)) <<< ((6 : Int32) &&& 31))))])
  refine Go.step (a_cload X8 hx hZ e8 f3 (k := (off + 3)) (Int32.toInt_ofNat_of_lt (by omega)) (by omega) (x := (g 3)) (hF 3 (by decide)) (hb hby d2_108)) ?_
  show Go _ _ _ _ _ _ _ T8 (mkF m 109 _ [(.int (g 3)), (.int ((((vl (g 0)) <<< ((18 : Int32) &&& 31)) ||| ((vl (g 1)) <<< ((12 : Int32) &&& 31))) ||| ((vl (g 2)) <<< ((6 : Int32) &&& 31))))])
  obtain ⟨v9, T9, L9, X9, q9, st9⟩ := c_static X8 hx hZ hown (y := (⟨"com/example/sharks/sharks/StandardBase64", "value", "(C)I"⟩ : MethodName)) (hw _ (List.mem_of_getElem? (i := 24) rfl)) (hw _ (List.mem_of_getElem? (i := 25) rfl)) (hw _ (List.mem_of_getElem? (i := 9) rfl)) (hw _ (List.mem_of_getElem? (i := 26) rfl)) (by decide) (argsL := [(.int (g 3))]) (rest := [(.int ((((vl (g 0)) <<< ((18 : Int32) &&& 31)) ||| ((vl (g 1)) <<< ((12 : Int32) &&& 31))) ||| ((vl (g 2)) <<< ((6 : Int32) &&& 31))))]) (rmVa l Z a0 hw [] va (g 3) h2 n0 Z2 (char_nn (hg 3 (by decide))).1 f5 f6) e8 pd_1 rfl (by rw [hml]; rfl) (W := 1) (by show 2 * 0 + _ ≤ _; exact Nat.le_of_eq rfl) (by decide) (by decide) (by decide) (by decide) (hb hby d2_109) (Ls := #[.val (.ref tx), .val (.int (Int32.ofNat off)), .val (.int (8 : Int32)), .val (.int (Int32.ofNat bf)), .val (.int (5 : Int32)), .val (.int (Int32.ofNat (off + 8))), .val (.ref b2), .val (.int (1 : Int32)), .val (.int (Int32.ofNat (off + 4))), .val (.int (Int32.ofNat (bf + 0))), .val (.int (Int32.ofNat (off + 0))), .unset, .unset])
  obtain ⟨rfl, rfl, e9⟩ := q9
  have N9 := Fr.app N8 (Fr.nil n0)
  refine Go.step (st9) ?_
  show Go _ _ _ _ _ _ _ T9 (mkF m 112 _ [(.int (vl (g 3))), (.int ((((vl (g 0)) <<< ((18 : Int32) &&& 31)) ||| ((vl (g 1)) <<< ((12 : Int32) &&& 31))) ||| ((vl (g 2)) <<< ((6 : Int32) &&& 31))))])
  refine Go.step (fun tt kk => XS.ior X9.here hx rfl (hb hby d2_112) rfl kk) ?_
  show Go _ _ _ _ _ _ _ T9 (mkF m 113 _ [(.int (((((vl (g 0)) <<< ((18 : Int32) &&& 31)) ||| ((vl (g 1)) <<< ((12 : Int32) &&& 31))) ||| ((vl (g 2)) <<< ((6 : Int32) &&& 31))) ||| (vl (g 3))))])
  refine Go.step (fun tt kk => XS.istore X9.here hx rfl (hb hby d2_113) rfl (l' := #[.val (.ref tx), .val (.int (Int32.ofNat off)), .val (.int (8 : Int32)), .val (.int (Int32.ofNat bf)), .val (.int (5 : Int32)), .val (.int (Int32.ofNat (off + 8))), .val (.ref b2), .val (.int (1 : Int32)), .val (.int (Int32.ofNat (off + 4))), .val (.int (Int32.ofNat (bf + 0))), .val (.int (Int32.ofNat (off + 0))), .val (.int (((((vl (g 0)) <<< ((18 : Int32) &&& 31)) ||| ((vl (g 1)) <<< ((12 : Int32) &&& 31))) ||| ((vl (g 2)) <<< ((6 : Int32) &&& 31))) ||| (vl (g 3)))), .unset]) rfl kk) ?_
  show Go _ _ _ _ _ _ _ T9 (mkF m 115 _ [])
  show Go _ _ _ _ _ _ _ T9 (mkF m 115 #[.val (.ref tx), .val (.int (Int32.ofNat off)), .val (.int (8 : Int32)), .val (.int (Int32.ofNat bf)), .val (.int (5 : Int32)), .val (.int (Int32.ofNat (off + 8))), .val (.ref b2), .val (.int (1 : Int32)), .val (.int (Int32.ofNat (off + 4))), .val (.int (Int32.ofNat (bf + 0))), .val (.int (Int32.ofNat (off + 0))), .val (.int (w4 g 0)), .unset] [])
  refine Go.step (fun tt kk => XS.iload X9.here hx rfl (hb hby d2_115) rfl kk) ?_
  show Go _ _ _ _ _ _ _ T9 (mkF m 117 _ [(.int (w4 g 0))])
  by_cases c117_10 : (w4 g 0) < (0 : Int32)
  · refine Go.step (fun tt kk => XS.ifNo X9.here hx rfl (hb hby d2_117) rfl ((if0 _ _).trans (tlt c117_10).2.1) kk) ?_
    show Go _ _ _ _ _ _ _ T9 (mkF m 120 _ [])
    refine Go.step (fun tt kk => XS.aconstNull X9.here hx rfl (hb hby d2_120) kk) ?_
    show Go _ _ _ _ _ _ _ T9 (mkF m 121 _ [.null])
    refine go_retA X9 hx (t := (.array .byte)) hret rfl hlk rfl (hb hby d2_121) ?_ (by decide) (by decide)
    try rw [e9]
    exact ⟨N9, eI ▸ K2, fun z => absurd z (fun z => ((own_w4 hg (by decide)).mp c117_10) z.1), fun _ => rfl⟩
  · refine Go.step (fun tt kk => XS.ifYes X9.here hx rfl (pc0 := 117) (pc' := 122) rfl (hb hby d2_117) rfl ((if0 _ _).trans (flt c117_10).2.1) (by decide) (by decide) kk) ?_
    show Go _ _ _ _ _ _ _ T9 (mkF m 122 _ [])
    have ok0 : OK4 g 0 := Classical.byContradiction fun z => c117_10 ((own_w4 hg (by decide)).mpr z)
    have by0 := own_q4 hg (by decide) ok0
    refine Go.step (fun tt kk => XS.aload X9.here hx rfl (hb hby d2_122) rfl rfl kk) ?_
    show Go _ _ _ _ _ _ _ T9 (mkF m 124 _ [(.ref b2)])
    refine Go.step (fun tt kk => XS.iload X9.here hx rfl (hb hby d2_124) rfl kk) ?_
    show Go _ _ _ _ _ _ _ T9 (mkF m 126 _ [(.int (Int32.ofNat (bf + 0))), (.ref b2)])
    refine Go.step (fun tt kk => XS.iload X9.here hx rfl (hb hby d2_126) rfl kk) ?_
    show Go _ _ _ _ _ _ _ T9 (mkF m 128 _ [(.int (w4 g 0)), (.int (Int32.ofNat (bf + 0))), (.ref b2)])
    refine Go.step (fun tt kk => XS.bipush X9.here hx rfl (hb hby d2_128) kk) ?_
    show Go _ _ _ _ _ _ _ T9 (mkF m 130 _ [(.int (16 : Int32)), (.int (w4 g 0)), (.int (Int32.ofNat (bf + 0))), (.ref b2)])
    refine Go.step (fun tt kk => XS.ishr X9.here hx rfl (hb hby d2_130) rfl kk) ?_
    show Go _ _ _ _ _ _ _ T9 (mkF m 131 _ [(.int ((w4 g 0) >>> ((16 : Int32) &&& 31))), (.int (Int32.ofNat (bf + 0))), (.ref b2)])
    refine Go.step (fun tt kk => XS.i2b X9.here hx rfl (hb hby d2_131) rfl kk) ?_
    show Go _ _ _ _ _ _ _ T9 (mkF m 132 _ [(.int (((w4 g 0) >>> ((16 : Int32) &&& 31)).toInt8.toInt32)), (.int (Int32.ofNat (bf + 0))), (.ref b2)])
    show Go _ _ _ _ _ _ _ T9 (mkF m 132 #[.val (.ref tx), .val (.int (Int32.ofNat off)), .val (.int (8 : Int32)), .val (.int (Int32.ofNat bf)), .val (.int (5 : Int32)), .val (.int (Int32.ofNat (off + 8))), .val (.ref b2), .val (.int (1 : Int32)), .val (.int (Int32.ofNat (off + 4))), .val (.int (Int32.ofNat (bf + 0))), .val (.int (Int32.ofNat (off + 0))), .val (.int (w4 g 0)), .unset] [(.int (((w4 g 0) >>> ((16 : Int32) &&& 31)).toInt8.toInt32)), (.int (Int32.ofNat (bf + 0))), (.ref b2)])
    obtain ⟨cl11, Ar11, hin11, -⟩ := V2.at (j := (Int32.ofNat (bf + 0))) (k := (bf + 0)) (Int32.toInt_ofNat_of_lt (by omega)) (by omega)
    obtain ⟨T11, h11, X11, e11, W11, st11⟩ := stB X9 hx hZ e9 Ar11 (j := (Int32.ofNat (bf + 0))) hin11 (g := (mkF m 132 #[.val (.ref tx), .val (.int (Int32.ofNat off)), .val (.int (8 : Int32)), .val (.int (Int32.ofNat bf)), .val (.int (5 : Int32)), .val (.int (Int32.ofNat (off + 8))), .val (.ref b2), .val (.int (1 : Int32)), .val (.int (Int32.ofNat (off + 4))), .val (.int (Int32.ofNat (bf + 0))), .val (.int (Int32.ofNat (off + 0))), .val (.int (w4 g 0)), .unset] [(.int (((w4 g 0) >>> ((16 : Int32) &&& 31)).toInt8.toInt32)), (.int (Int32.ofNat (bf + 0))), (.ref b2)])) rfl rfl (hb hby d2_132)
    rw [(own_nb _)] at W11
    have V11 : AV Z h11 b2 .byte (bf + 5) (upd (fun _ => (.int (0 : Int32))) (bf + 0) (.int (((w4 g 0) >>> ((16 : Int32) &&& 31)).toInt8.toInt32))) := AV.set V2 (k := (bf + 0)) (Int32.toInt_ofNat_of_lt (by omega)) (by omega) W11
    have N11 := Fr.snoc X11 N9 gn_b2
    have Z11 : n0 ≤ h11.size := Nat.le_trans Z2 (Keep.of_wr W11).1
    have K11 : Keep hI h11 [] := K2.wr W11 (Or.inr sz_b2)
    refine Go.step (st11) ?_
    show Go _ _ _ _ _ _ _ T11 (mkF m 133 _ [])
    refine Go.step (fun tt kk => XS.aload X11.here hx rfl (hb hby d2_133) rfl rfl kk) ?_
    show Go _ _ _ _ _ _ _ T11 (mkF m 135 _ [(.ref b2)])
    refine Go.step (fun tt kk => XS.iload X11.here hx rfl (hb hby d2_135) rfl kk) ?_
    show Go _ _ _ _ _ _ _ T11 (mkF m 137 _ [(.int (Int32.ofNat (bf + 0))), (.ref b2)])
    refine Go.step (fun tt kk => XS.iconst X11.here hx rfl (hb hby d2_137) kk) ?_
    show Go _ _ _ _ _ _ _ T11 (mkF m 138 _ [(.int (1 : Int32)), (.int (Int32.ofNat (bf + 0))), (.ref b2)])
    refine Go.step (fun tt kk => XS.iadd X11.here hx rfl (hb hby d2_138) rfl kk) ?_
    show Go _ _ _ _ _ _ _ T11 (mkF m 139 _ [(.int ((Int32.ofNat (bf + 0)) + (1 : Int32))), (.ref b2)])
    refine Go.step (fun tt kk => XS.iload X11.here hx rfl (hb hby d2_139) rfl kk) ?_
    show Go _ _ _ _ _ _ _ T11 (mkF m 141 _ [(.int (w4 g 0)), (.int ((Int32.ofNat (bf + 0)) + (1 : Int32))), (.ref b2)])
    refine Go.step (fun tt kk => XS.bipush X11.here hx rfl (hb hby d2_141) kk) ?_
    show Go _ _ _ _ _ _ _ T11 (mkF m 143 _ [(.int (8 : Int32)), (.int (w4 g 0)), (.int ((Int32.ofNat (bf + 0)) + (1 : Int32))), (.ref b2)])
    refine Go.step (fun tt kk => XS.ishr X11.here hx rfl (hb hby d2_143) rfl kk) ?_
    show Go _ _ _ _ _ _ _ T11 (mkF m 144 _ [(.int ((w4 g 0) >>> ((8 : Int32) &&& 31))), (.int ((Int32.ofNat (bf + 0)) + (1 : Int32))), (.ref b2)])
    refine Go.step (fun tt kk => XS.i2b X11.here hx rfl (hb hby d2_144) rfl kk) ?_
    show Go _ _ _ _ _ _ _ T11 (mkF m 145 _ [(.int (((w4 g 0) >>> ((8 : Int32) &&& 31)).toInt8.toInt32)), (.int ((Int32.ofNat (bf + 0)) + (1 : Int32))), (.ref b2)])
    rw [show Int32.ofNat (bf + 0) + (1 : Int32) = Int32.ofNat (bf + 1) from own_add (bf + 0) 1]
    show Go _ _ _ _ _ _ _ T11 (mkF m 145 #[.val (.ref tx), .val (.int (Int32.ofNat off)), .val (.int (8 : Int32)), .val (.int (Int32.ofNat bf)), .val (.int (5 : Int32)), .val (.int (Int32.ofNat (off + 8))), .val (.ref b2), .val (.int (1 : Int32)), .val (.int (Int32.ofNat (off + 4))), .val (.int (Int32.ofNat (bf + 0))), .val (.int (Int32.ofNat (off + 0))), .val (.int (w4 g 0)), .unset] [(.int (((w4 g 0) >>> ((8 : Int32) &&& 31)).toInt8.toInt32)), (.int (Int32.ofNat (bf + 1))), (.ref b2)])
    obtain ⟨cl12, Ar12, hin12, -⟩ := V11.at (j := (Int32.ofNat (bf + 1))) (k := (bf + 1)) (Int32.toInt_ofNat_of_lt (by omega)) (by omega)
    obtain ⟨T12, h12, X12, e12, W12, st12⟩ := stB X11 hx hZ e11 Ar12 (j := (Int32.ofNat (bf + 1))) hin12 (g := (mkF m 145 #[.val (.ref tx), .val (.int (Int32.ofNat off)), .val (.int (8 : Int32)), .val (.int (Int32.ofNat bf)), .val (.int (5 : Int32)), .val (.int (Int32.ofNat (off + 8))), .val (.ref b2), .val (.int (1 : Int32)), .val (.int (Int32.ofNat (off + 4))), .val (.int (Int32.ofNat (bf + 0))), .val (.int (Int32.ofNat (off + 0))), .val (.int (w4 g 0)), .unset] [(.int (((w4 g 0) >>> ((8 : Int32) &&& 31)).toInt8.toInt32)), (.int (Int32.ofNat (bf + 1))), (.ref b2)])) rfl rfl (hb hby d2_145)
    rw [(own_nb _)] at W12
    have V12 : AV Z h12 b2 .byte (bf + 5) (upd (upd (fun _ => (.int (0 : Int32))) (bf + 0) (.int (((w4 g 0) >>> ((16 : Int32) &&& 31)).toInt8.toInt32))) (bf + 1) (.int (((w4 g 0) >>> ((8 : Int32) &&& 31)).toInt8.toInt32))) := AV.set V11 (k := (bf + 1)) (Int32.toInt_ofNat_of_lt (by omega)) (by omega) W12
    have N12 := Fr.snoc X12 N11 gn_b2
    have Z12 : n0 ≤ h12.size := Nat.le_trans Z11 (Keep.of_wr W12).1
    have K12 : Keep hI h12 [] := K11.wr W12 (Or.inr sz_b2)
    refine Go.step (st12) ?_
    show Go _ _ _ _ _ _ _ T12 (mkF m 146 _ [])
    refine Go.step (fun tt kk => XS.aload X12.here hx rfl (hb hby d2_146) rfl rfl kk) ?_
    show Go _ _ _ _ _ _ _ T12 (mkF m 148 _ [(.ref b2)])
    refine Go.step (fun tt kk => XS.iload X12.here hx rfl (hb hby d2_148) rfl kk) ?_
    show Go _ _ _ _ _ _ _ T12 (mkF m 150 _ [(.int (Int32.ofNat (bf + 0))), (.ref b2)])
    refine Go.step (fun tt kk => XS.iconst X12.here hx rfl (hb hby d2_150) kk) ?_
    show Go _ _ _ _ _ _ _ T12 (mkF m 151 _ [(.int (2 : Int32)), (.int (Int32.ofNat (bf + 0))), (.ref b2)])
    refine Go.step (fun tt kk => XS.iadd X12.here hx rfl (hb hby d2_151) rfl kk) ?_
    show Go _ _ _ _ _ _ _ T12 (mkF m 152 _ [(.int ((Int32.ofNat (bf + 0)) + (2 : Int32))), (.ref b2)])
    refine Go.step (fun tt kk => XS.iload X12.here hx rfl (hb hby d2_152) rfl kk) ?_
    show Go _ _ _ _ _ _ _ T12 (mkF m 154 _ [(.int (w4 g 0)), (.int ((Int32.ofNat (bf + 0)) + (2 : Int32))), (.ref b2)])
    refine Go.step (fun tt kk => XS.i2b X12.here hx rfl (hb hby d2_154) rfl kk) ?_
    show Go _ _ _ _ _ _ _ T12 (mkF m 155 _ [(.int ((w4 g 0).toInt8.toInt32)), (.int ((Int32.ofNat (bf + 0)) + (2 : Int32))), (.ref b2)])
    rw [show Int32.ofNat (bf + 0) + (2 : Int32) = Int32.ofNat (bf + 2) from own_add (bf + 0) 2]
    show Go _ _ _ _ _ _ _ T12 (mkF m 155 #[.val (.ref tx), .val (.int (Int32.ofNat off)), .val (.int (8 : Int32)), .val (.int (Int32.ofNat bf)), .val (.int (5 : Int32)), .val (.int (Int32.ofNat (off + 8))), .val (.ref b2), .val (.int (1 : Int32)), .val (.int (Int32.ofNat (off + 4))), .val (.int (Int32.ofNat (bf + 0))), .val (.int (Int32.ofNat (off + 0))), .val (.int (w4 g 0)), .unset] [(.int (((w4 g 0)).toInt8.toInt32)), (.int (Int32.ofNat (bf + 2))), (.ref b2)])
    obtain ⟨cl13, Ar13, hin13, -⟩ := V12.at (j := (Int32.ofNat (bf + 2))) (k := (bf + 2)) (Int32.toInt_ofNat_of_lt (by omega)) (by omega)
    obtain ⟨T13, h13, X13, e13, W13, st13⟩ := stB X12 hx hZ e12 Ar13 (j := (Int32.ofNat (bf + 2))) hin13 (g := (mkF m 155 #[.val (.ref tx), .val (.int (Int32.ofNat off)), .val (.int (8 : Int32)), .val (.int (Int32.ofNat bf)), .val (.int (5 : Int32)), .val (.int (Int32.ofNat (off + 8))), .val (.ref b2), .val (.int (1 : Int32)), .val (.int (Int32.ofNat (off + 4))), .val (.int (Int32.ofNat (bf + 0))), .val (.int (Int32.ofNat (off + 0))), .val (.int (w4 g 0)), .unset] [(.int (((w4 g 0)).toInt8.toInt32)), (.int (Int32.ofNat (bf + 2))), (.ref b2)])) rfl rfl (hb hby d2_155)
    rw [(own_nb _)] at W13
    have V13 : AV Z h13 b2 .byte (bf + 5) (upd (upd (upd (fun _ => (.int (0 : Int32))) (bf + 0) (.int (((w4 g 0) >>> ((16 : Int32) &&& 31)).toInt8.toInt32))) (bf + 1) (.int (((w4 g 0) >>> ((8 : Int32) &&& 31)).toInt8.toInt32))) (bf + 2) (.int (((w4 g 0)).toInt8.toInt32))) := AV.set V12 (k := (bf + 2)) (Int32.toInt_ofNat_of_lt (by omega)) (by omega) W13
    have N13 := Fr.snoc X13 N12 gn_b2
    have Z13 : n0 ≤ h13.size := Nat.le_trans Z12 (Keep.of_wr W13).1
    have K13 : Keep hI h13 [] := K12.wr W13 (Or.inr sz_b2)
    refine Go.step (st13) ?_
    show Go _ _ _ _ _ _ _ T13 (mkF m 156 _ [])
    refine Go.step (fun tt kk => XS.iinc X13.here hx rfl (hb hby d2_156) rfl (l' := #[.val (.ref tx), .val (.int (Int32.ofNat off)), .val (.int (8 : Int32)), .val (.int (Int32.ofNat bf)), .val (.int (5 : Int32)), .val (.int (Int32.ofNat (off + 8))), .val (.ref b2), .val (.int (1 : Int32)), .val (.int (Int32.ofNat (off + 4))), .val (.int ((Int32.ofNat (bf + 0)) + (3 : Int32))), .val (.int (Int32.ofNat (off + 0))), .val (.int (w4 g 0)), .unset]) rfl kk) ?_
    show Go _ _ _ _ _ _ _ T13 (mkF m 159 _ [])
    refine Go.step (fun tt kk => XS.iinc X13.here hx rfl (hb hby d2_159) rfl (l' := #[.val (.ref tx), .val (.int (Int32.ofNat off)), .val (.int (8 : Int32)), .val (.int (Int32.ofNat bf)), .val (.int (5 : Int32)), .val (.int (Int32.ofNat (off + 8))), .val (.ref b2), .val (.int (1 : Int32)), .val (.int (Int32.ofNat (off + 4))), .val (.int ((Int32.ofNat (bf + 0)) + (3 : Int32))), .val (.int ((Int32.ofNat (off + 0)) + (4 : Int32))), .val (.int (w4 g 0)), .unset]) rfl kk) ?_
    show Go _ _ _ _ _ _ _ T13 (mkF m 162 _ [])
    refine Go.step (fun tt kk => XS.goto X13.here hx rfl (pc0 := 162) (pc' := 60) rfl (hb hby d2_162) (by decide) (by decide) kk) ?_
    show Go _ _ _ _ _ _ _ T13 (mkF m 60 _ [])
    rw [show ((Int32.ofNat (off + 0)) + (4 : Int32)) = Int32.ofNat (off + 4) from own_add off 4, show ((Int32.ofNat (bf + 0)) + (3 : Int32)) = Int32.ofNat (bf + 3) from own_add bf 3]
    show Go _ _ _ _ _ _ _ T13 (mkF m 60 #[.val (.ref tx), .val (.int (Int32.ofNat off)), .val (.int (8 : Int32)), .val (.int (Int32.ofNat bf)), .val (.int (5 : Int32)), .val (.int (Int32.ofNat (off + 8))), .val (.ref b2), .val (.int (1 : Int32)), .val (.int (Int32.ofNat (off + 4))), .val (.int (Int32.ofNat (bf + 3))), .val (.int (Int32.ofNat (off + 4))), .val (.int (w4 g 0)), .unset] [])
    refine Go.step (fun tt kk => XS.iload X13.here hx rfl (hb hby d2_60) rfl kk) ?_
    show Go _ _ _ _ _ _ _ T13 (mkF m 62 _ [(.int (Int32.ofNat (off + 4)))])
    refine Go.step (fun tt kk => XS.iload X13.here hx rfl (hb hby d2_62) rfl kk) ?_
    show Go _ _ _ _ _ _ _ T13 (mkF m 64 _ [(.int (Int32.ofNat (off + 4))), (.int (Int32.ofNat (off + 4)))])
    refine Go.step (fun tt kk => XS.icmpYes X13.here hx rfl (pc0 := 64) (pc' := 165) rfl (hb hby d2_64) rfl (flt (mt (own_lt _ _ (by omega) (by omega)).mp (by omega))).2.1 (by decide) (by decide) kk) ?_
    show Go _ _ _ _ _ _ _ T13 (mkF m 165 _ [])
    refine Go.step (fun tt kk => XS.iload X13.here hx rfl (hb hby d2_165) rfl kk) ?_
    show Go _ _ _ _ _ _ _ T13 (mkF m 167 _ [(.int (1 : Int32))])
    refine Go.step (fun tt kk => XS.ifYes X13.here hx rfl (pc0 := 167) (pc' := 173) rfl (hb hby d2_167) rfl ((if0 _ _).trans (feq (by decide)).2) (by decide) (by decide) kk) ?_
    show Go _ _ _ _ _ _ _ T13 (mkF m 173 _ [])
    refine Go.step (fun tt kk => XS.iload X13.here hx rfl (hb hby d2_173) rfl kk) ?_
    show Go _ _ _ _ _ _ _ T13 (mkF m 175 _ [(.int (1 : Int32))])
    refine Go.step (fun tt kk => XS.iconst X13.here hx rfl (hb hby d2_175) kk) ?_
    show Go _ _ _ _ _ _ _ T13 (mkF m 176 _ [(.int (1 : Int32)), (.int (1 : Int32))])
    refine Go.step (fun tt kk => XS.icmpNo X13.here hx rfl (hb hby d2_176) rfl (teq (by decide)).2 kk) ?_
    show Go _ _ _ _ _ _ _ T13 (mkF m 179 _ [])
    refine Go.step (fun tt kk => XS.aloadN X13.here hx rfl (hb hby d2_179) rfl rfl kk) ?_
    show Go _ _ _ _ _ _ _ T13 (mkF m 180 _ [(.ref tx)])
    refine Go.step (fun tt kk => XS.iload X13.here hx rfl (hb hby d2_180) rfl kk) ?_
    show Go _ _ _ _ _ _ _ T13 (mkF m 182 _ [(.int (Int32.ofNat (off + 4))), (.ref tx)])
    refine Go.step (fun tt kk => XS.iconst X13.here hx rfl (hb hby d2_182) kk) ?_
    show Go _ _ _ _ _ _ _ T13 (mkF m 183 _ [(.int (2 : Int32)), (.int (Int32.ofNat (off + 4))), (.ref tx)])
    refine Go.step (fun tt kk => XS.iadd X13.here hx rfl (hb hby d2_183) rfl kk) ?_
    show Go _ _ _ _ _ _ _ T13 (mkF m 184 _ [(.int ((Int32.ofNat (off + 4)) + (2 : Int32))), (.ref tx)])
    rw [show Int32.ofNat (off + 4) + (2 : Int32) = Int32.ofNat (off + 6) from own_add (off + 4) 2]
    show Go _ _ _ _ _ _ _ T13 (mkF m 184 #[.val (.ref tx), .val (.int (Int32.ofNat off)), .val (.int (8 : Int32)), .val (.int (Int32.ofNat bf)), .val (.int (5 : Int32)), .val (.int (Int32.ofNat (off + 8))), .val (.ref b2), .val (.int (1 : Int32)), .val (.int (Int32.ofNat (off + 4))), .val (.int (Int32.ofNat (bf + 3))), .val (.int (Int32.ofNat (off + 4))), .val (.int (w4 g 0)), .unset] [(.int (Int32.ofNat (off + 6))), (.ref tx)])
    have f14 := (((f3.other W11 ne_tx_b2).other W12 ne_tx_b2).other W13 ne_tx_b2)
    refine Go.step (a_cload X13 hx hZ e13 f14 (k := (off + 6)) (Int32.toInt_ofNat_of_lt (by omega)) (by omega) (x := (g 6)) (hF 6 (by decide)) (hb hby d2_184)) ?_
    show Go _ _ _ _ _ _ _ T13 (mkF m 185 _ [(.int (g 6))])
    have f16 := (Sta.wr W13 (Sta.wr W12 (Sta.wr W11 f5)))
    have f17 := (((f6.other W11 ne_va_b2).other W12 ne_va_b2).other W13 ne_va_b2)
    obtain ⟨v15, T15, L15, X15, q15, st15⟩ := c_static X13 hx hZ hown (y := (⟨"com/example/sharks/sharks/StandardBase64", "value", "(C)I"⟩ : MethodName)) (hw _ (List.mem_of_getElem? (i := 24) rfl)) (hw _ (List.mem_of_getElem? (i := 25) rfl)) (hw _ (List.mem_of_getElem? (i := 9) rfl)) (hw _ (List.mem_of_getElem? (i := 26) rfl)) (by decide) (argsL := [(.int (g 6))]) (rest := []) (rmVa l Z a0 hw [] va (g 6) h13 n0 Z13 (char_nn (hg 6 (by decide))).1 f16 f17) e13 pd_1 rfl (by rw [hml]; rfl) (W := 0) (by show 2 * 0 + _ ≤ _; exact Nat.le_of_eq rfl) (by decide) (by decide) (by decide) (by decide) (hb hby d2_185) (Ls := #[.val (.ref tx), .val (.int (Int32.ofNat off)), .val (.int (8 : Int32)), .val (.int (Int32.ofNat bf)), .val (.int (5 : Int32)), .val (.int (Int32.ofNat (off + 8))), .val (.ref b2), .val (.int (1 : Int32)), .val (.int (Int32.ofNat (off + 4))), .val (.int (Int32.ofNat (bf + 3))), .val (.int (Int32.ofNat (off + 4))), .val (.int (w4 g 0)), .unset])
    obtain ⟨rfl, rfl, e15⟩ := q15
    have N15 := Fr.app N13 (Fr.nil n0)
    refine Go.step (st15) ?_
    show Go _ _ _ _ _ _ _ T15 (mkF m 188 _ [(.int (vl (g 6)))])
    refine Go.step (fun tt kk => XS.goto X15.here hx rfl (pc0 := 188) (pc' := 192) rfl (hb hby d2_188) (by decide) (by decide) kk) ?_
    show Go _ _ _ _ _ _ _ T15 (mkF m 192 _ [(.int (vl (g 6)))])
    refine Go.step (fun tt kk => XS.istore X15.here hx rfl (hb hby d2_192) rfl (l' := #[.val (.ref tx), .val (.int (Int32.ofNat off)), .val (.int (8 : Int32)), .val (.int (Int32.ofNat bf)), .val (.int (5 : Int32)), .val (.int (Int32.ofNat (off + 8))), .val (.ref b2), .val (.int (1 : Int32)), .val (.int (Int32.ofNat (off + 4))), .val (.int (Int32.ofNat (bf + 3))), .val (.int (vl (g 6))), .val (.int (w4 g 0)), .unset]) rfl kk) ?_
    show Go _ _ _ _ _ _ _ T15 (mkF m 194 _ [])
    refine Go.step (fun tt kk => XS.aloadN X15.here hx rfl (hb hby d2_194) rfl rfl kk) ?_
    show Go _ _ _ _ _ _ _ T15 (mkF m 195 _ [(.ref tx)])
    refine Go.step (fun tt kk => XS.iload X15.here hx rfl (hb hby d2_195) rfl kk) ?_
    show Go _ _ _ _ _ _ _ T15 (mkF m 197 _ [(.int (Int32.ofNat (off + 4))), (.ref tx)])
    refine Go.step (a_cload X15 hx hZ e15 f14 (k := (off + 4)) (Int32.toInt_ofNat_of_lt (by omega)) (by omega) (x := (g 4)) (hF 4 (by decide)) (hb hby d2_197)) ?_
    show Go _ _ _ _ _ _ _ T15 (mkF m 198 _ [(.int (g 4))])
    obtain ⟨v18, T18, L18, X18, q18, st18⟩ := c_static X15 hx hZ hown (y := (⟨"com/example/sharks/sharks/StandardBase64", "value", "(C)I"⟩ : MethodName)) (hw _ (List.mem_of_getElem? (i := 24) rfl)) (hw _ (List.mem_of_getElem? (i := 25) rfl)) (hw _ (List.mem_of_getElem? (i := 9) rfl)) (hw _ (List.mem_of_getElem? (i := 26) rfl)) (by decide) (argsL := [(.int (g 4))]) (rest := []) (rmVa l Z a0 hw [] va (g 4) h13 n0 Z13 (char_nn (hg 4 (by decide))).1 f16 f17) e15 pd_1 rfl (by rw [hml]; rfl) (W := 0) (by show 2 * 0 + _ ≤ _; exact Nat.le_of_eq rfl) (by decide) (by decide) (by decide) (by decide) (hb hby d2_198) (Ls := #[.val (.ref tx), .val (.int (Int32.ofNat off)), .val (.int (8 : Int32)), .val (.int (Int32.ofNat bf)), .val (.int (5 : Int32)), .val (.int (Int32.ofNat (off + 8))), .val (.ref b2), .val (.int (1 : Int32)), .val (.int (Int32.ofNat (off + 4))), .val (.int (Int32.ofNat (bf + 3))), .val (.int (vl (g 6))), .val (.int (w4 g 0)), .unset])
    obtain ⟨rfl, rfl, e18⟩ := q18
    have N18 := Fr.app N15 (Fr.nil n0)
    refine Go.step (st18) ?_
    show Go _ _ _ _ _ _ _ T18 (mkF m 201 _ [(.int (vl (g 4)))])
    refine Go.step (fun tt kk => XS.bipush X18.here hx rfl (hb hby d2_201) kk) ?_
    show Go _ _ _ _ _ _ _ T18 (mkF m 203 _ [(.int (18 : Int32)), (.int (vl (g 4)))])
    refine Go.step (fun tt kk => XS.ishl X18.here hx rfl (hb hby d2_203) rfl kk) ?_
    show Go _ _ _ _ _ _ _ T18 (mkF m 204 _ [(.int ((vl (g 4)) <<< ((18 : Int32) &&& 31)))])
    refine Go.step (fun tt kk => XS.aloadN X18.here hx rfl (hb hby d2_204) rfl rfl kk) ?_
    show Go _ _ _ _ _ _ _ T18 (mkF m 205 _ [(.ref tx), (.int ((vl (g 4)) <<< ((18 : Int32) &&& 31)))])
    refine Go.step (fun tt kk => XS.iload X18.here hx rfl (hb hby d2_205) rfl kk) ?_
    show Go _ _ _ _ _ _ _ T18 (mkF m 207 _ [(.int (Int32.ofNat (off + 4))), (.ref tx), (.int ((vl (g 4)) <<< ((18 : Int32) &&& 31)))])
    refine Go.step (fun tt kk => XS.iconst X18.here hx rfl (hb hby d2_207) kk) ?_
    show Go _ _ _ _ _ _ _ T18 (mkF m 208 _ [(.int (1 : Int32)), (.int (Int32.ofNat (off + 4))), (.ref tx), (.int ((vl (g 4)) <<< ((18 : Int32) &&& 31)))])
    refine Go.step (fun tt kk => XS.iadd X18.here hx rfl (hb hby d2_208) rfl kk) ?_
    show Go _ _ _ _ _ _ _ T18 (mkF m 209 _ [(.int ((Int32.ofNat (off + 4)) + (1 : Int32))), (.ref tx), (.int ((vl (g 4)) <<< ((18 : Int32) &&& 31)))])
    rw [show Int32.ofNat (off + 4) + (1 : Int32) = Int32.ofNat (off + 5) from own_add (off + 4) 1]
    show Go _ _ _ _ _ _ _ T18 (mkF m 209 #[.val (.ref tx), .val (.int (Int32.ofNat off)), .val (.int (8 : Int32)), .val (.int (Int32.ofNat bf)), .val (.int (5 : Int32)), .val (.int (Int32.ofNat (off + 8))), .val (.ref b2), .val (.int (1 : Int32)), .val (.int (Int32.ofNat (off + 4))), .val (.int (Int32.ofNat (bf + 3))), .val (.int (vl (g 6))), .val (.int (w4 g 0)), .unset] [(.int (Int32.ofNat (off + 5))), (.ref tx), (.int ((vl (g 4)) <<< ((18 : Int32) &&& 31)))])
    refine Go.step (a_cload X18 hx hZ e18 f14 (k := (off + 5)) (Int32.toInt_ofNat_of_lt (by omega)) (by omega) (x := (g 5)) (hF 5 (by decide)) (hb hby d2_209)) ?_
    show Go _ _ _ _ _ _ _ T18 (mkF m 210 _ [(.int (g 5)), (.int ((vl (g 4)) <<< ((18 : Int32) &&& 31)))])
    obtain ⟨v19, T19, L19, X19, q19, st19⟩ := c_static X18 hx hZ hown (y := (⟨"com/example/sharks/sharks/StandardBase64", "value", "(C)I"⟩ : MethodName)) (hw _ (List.mem_of_getElem? (i := 24) rfl)) (hw _ (List.mem_of_getElem? (i := 25) rfl)) (hw _ (List.mem_of_getElem? (i := 9) rfl)) (hw _ (List.mem_of_getElem? (i := 26) rfl)) (by decide) (argsL := [(.int (g 5))]) (rest := [(.int ((vl (g 4)) <<< ((18 : Int32) &&& 31)))]) (rmVa l Z a0 hw [] va (g 5) h13 n0 Z13 (char_nn (hg 5 (by decide))).1 f16 f17) e18 pd_1 rfl (by rw [hml]; rfl) (W := 1) (by show 2 * 0 + _ ≤ _; exact Nat.le_of_eq rfl) (by decide) (by decide) (by decide) (by decide) (hb hby d2_210) (Ls := #[.val (.ref tx), .val (.int (Int32.ofNat off)), .val (.int (8 : Int32)), .val (.int (Int32.ofNat bf)), .val (.int (5 : Int32)), .val (.int (Int32.ofNat (off + 8))), .val (.ref b2), .val (.int (1 : Int32)), .val (.int (Int32.ofNat (off + 4))), .val (.int (Int32.ofNat (bf + 3))), .val (.int (vl (g 6))), .val (.int (w4 g 0)), .unset])
    obtain ⟨rfl, rfl, e19⟩ := q19
    have N19 := Fr.app N18 (Fr.nil n0)
    refine Go.step (st19) ?_
    show Go _ _ _ _ _ _ _ T19 (mkF m 213 _ [(.int (vl (g 5))), (.int ((vl (g 4)) <<< ((18 : Int32) &&& 31)))])
    refine Go.step (fun tt kk => XS.bipush X19.here hx rfl (hb hby d2_213) kk) ?_
    show Go _ _ _ _ _ _ _ T19 (mkF m 215 _ [(.int (12 : Int32)), (.int (vl (g 5))), (.int ((vl (g 4)) <<< ((18 : Int32) &&& 31)))])
    refine Go.step (fun tt kk => XS.ishl X19.here hx rfl (hb hby d2_215) rfl kk) ?_
    show Go _ _ _ _ _ _ _ T19 (mkF m 216 _ [(.int ((vl (g 5)) <<< ((12 : Int32) &&& 31))), (.int ((vl (g 4)) <<< ((18 : Int32) &&& 31)))])
    refine Go.step (fun tt kk => XS.ior X19.here hx rfl (hb hby d2_216) rfl kk) ?_
    show Go _ _ _ _ _ _ _ T19 (mkF m 217 _ [(.int (((vl (g 4)) <<< ((18 : Int32) &&& 31)) ||| ((vl (g 5)) <<< ((12 : Int32) &&& 31))))])
    refine Go.step (fun tt kk => XS.iload X19.here hx rfl (hb hby d2_217) rfl kk) ?_
    show Go _ _ _ _ _ _ _ T19 (mkF m 219 _ [(.int (vl (g 6))), (.int (((vl (g 4)) <<< ((18 : Int32) &&& 31)) ||| ((vl (g 5)) <<< ((12 : Int32) &&& 31))))])
    refine Go.step (fun tt kk => XS.bipush X19.here hx rfl (hb hby d2_219) kk) ?_
    show Go _ _ _ _ _ _ _ T19 (mkF m 221 _ [(.int (6 : Int32)), (.int (vl (g 6))), (.int (((vl (g 4)) <<< ((18 : Int32) &&& 31)) ||| ((vl (g 5)) <<< ((12 : Int32) &&& 31))))])
    refine Go.step (fun tt kk => XS.ishl X19.here hx rfl (hb hby d2_221) rfl kk) ?_
    show Go _ _ _ _ _ _ _ T19 (mkF m 222 _ [(.int ((vl (g 6)) <<< ((6 : Int32) &&& 31))), (.int (((vl (g 4)) <<< ((18 : Int32) &&& 31)) ||| ((vl (g 5)) <<< ((12 : Int32) &&& 31))))])
    refine Go.step (fun tt kk => XS.ior X19.here hx rfl (hb hby d2_222) rfl kk) ?_
    show Go _ _ _ _ _ _ _ T19 (mkF m 223 _ [(.int ((((vl (g 4)) <<< ((18 : Int32) &&& 31)) ||| ((vl (g 5)) <<< ((12 : Int32) &&& 31))) ||| ((vl (g 6)) <<< ((6 : Int32) &&& 31))))])
    refine Go.step (fun tt kk => XS.istore X19.here hx rfl (hb hby d2_223) rfl (l' := #[.val (.ref tx), .val (.int (Int32.ofNat off)), .val (.int (8 : Int32)), .val (.int (Int32.ofNat bf)), .val (.int (5 : Int32)), .val (.int (Int32.ofNat (off + 8))), .val (.ref b2), .val (.int (1 : Int32)), .val (.int (Int32.ofNat (off + 4))), .val (.int (Int32.ofNat (bf + 3))), .val (.int (vl (g 6))), .val (.int ((((vl (g 4)) <<< ((18 : Int32) &&& 31)) ||| ((vl (g 5)) <<< ((12 : Int32) &&& 31))) ||| ((vl (g 6)) <<< ((6 : Int32) &&& 31)))), .unset]) rfl kk) ?_
    show Go _ _ _ _ _ _ _ T19 (mkF m 225 _ [])
    show Go _ _ _ _ _ _ _ T19 (mkF m 225 #[.val (.ref tx), .val (.int (Int32.ofNat off)), .val (.int (8 : Int32)), .val (.int (Int32.ofNat bf)), .val (.int (5 : Int32)), .val (.int (Int32.ofNat (off + 8))), .val (.ref b2), .val (.int (1 : Int32)), .val (.int (Int32.ofNat (off + 4))), .val (.int (Int32.ofNat (bf + 3))), .val (.int (vl (g 6))), .val (.int (nt (vl (g 4)) (vl (g 5)) (vl (g 6)))), .unset] [])
    refine Go.step (fun tt kk => XS.iload X19.here hx rfl (hb hby d2_225) rfl kk) ?_
    show Go _ _ _ _ _ _ _ T19 (mkF m 227 _ [(.int (1 : Int32))])
    refine Go.step (fun tt kk => XS.iconst X19.here hx rfl (hb hby d2_227) kk) ?_
    show Go _ _ _ _ _ _ _ T19 (mkF m 228 _ [(.int (1 : Int32)), (.int (1 : Int32))])
    refine Go.step (fun tt kk => XS.icmpNo X19.here hx rfl (hb hby d2_228) rfl (teq (by decide)).2 kk) ?_
    show Go _ _ _ _ _ _ _ T19 (mkF m 231 _ [])
    refine Go.step (fun tt kk => XS.sipush X19.here hx rfl (hb hby d2_231) kk) ?_
    show Go _ _ _ _ _ _ _ T19 (mkF m 234 _ [(.int (255 : Int32))])
    refine Go.step (fun tt kk => XS.goto X19.here hx rfl (pc0 := 234) (pc' := 239) rfl (hb hby d2_234) (by decide) (by decide) kk) ?_
    show Go _ _ _ _ _ _ _ T19 (mkF m 239 _ [(.int (255 : Int32))])
    refine Go.step (fun tt kk => XS.istore X19.here hx rfl (hb hby d2_239) rfl (l' := #[.val (.ref tx), .val (.int (Int32.ofNat off)), .val (.int (8 : Int32)), .val (.int (Int32.ofNat bf)), .val (.int (5 : Int32)), .val (.int (Int32.ofNat (off + 8))), .val (.ref b2), .val (.int (1 : Int32)), .val (.int (Int32.ofNat (off + 4))), .val (.int (Int32.ofNat (bf + 3))), .val (.int (vl (g 6))), .val (.int (nt (vl (g 4)) (vl (g 5)) (vl (g 6)))), .val (.int (255 : Int32))]) rfl kk) ?_
    show Go _ _ _ _ _ _ _ T19 (mkF m 241 _ [])
    refine Go.step (fun tt kk => XS.iload X19.here hx rfl (hb hby d2_241) rfl kk) ?_
    show Go _ _ _ _ _ _ _ T19 (mkF m 243 _ [(.int (nt (vl (g 4)) (vl (g 5)) (vl (g 6))))])
    by_cases c243_20 : (nt (vl (g 4)) (vl (g 5)) (vl (g 6))) < (0 : Int32)
    · refine Go.step (fun tt kk => XS.ifYes X19.here hx rfl (pc0 := 243) (pc' := 254) rfl (hb hby d2_243) rfl ((if0 _ _).trans (tlt c243_20).1) (by decide) (by decide) kk) ?_
      show Go _ _ _ _ _ _ _ T19 (mkF m 254 _ [])
      refine Go.step (fun tt kk => XS.aconstNull X19.here hx rfl (hb hby d2_254) kk) ?_
      show Go _ _ _ _ _ _ _ T19 (mkF m 255 _ [.null])
      refine go_retA X19 hx (t := (.array .byte)) hret rfl hlk rfl (hb hby d2_255) ?_ (by decide) (by decide)
      try rw [e19]
      exact ⟨N19, eI ▸ K13, fun z => absurd z (fun z => (fun z => (mt (own_p1 hg (by decide)).mpr (fun y => y.1 c243_20)) z) z.2), fun _ => rfl⟩
    · refine Go.step (fun tt kk => XS.ifNo X19.here hx rfl (hb hby d2_243) rfl ((if0 _ _).trans (flt c243_20).1) kk) ?_
      show Go _ _ _ _ _ _ _ T19 (mkF m 246 _ [])
      refine Go.step (fun tt kk => XS.iload X19.here hx rfl (hb hby d2_246) rfl kk) ?_
      show Go _ _ _ _ _ _ _ T19 (mkF m 248 _ [(.int (nt (vl (g 4)) (vl (g 5)) (vl (g 6))))])
      refine Go.step (fun tt kk => XS.iload X19.here hx rfl (hb hby d2_248) rfl kk) ?_
      show Go _ _ _ _ _ _ _ T19 (mkF m 250 _ [(.int (255 : Int32)), (.int (nt (vl (g 4)) (vl (g 5)) (vl (g 6))))])
      refine Go.step (fun tt kk => XS.iand X19.here hx rfl (hb hby d2_250) rfl kk) ?_
      show Go _ _ _ _ _ _ _ T19 (mkF m 251 _ [(.int ((nt (vl (g 4)) (vl (g 5)) (vl (g 6))) &&& (255 : Int32)))])
      by_cases c251_21 : ((nt (vl (g 4)) (vl (g 5)) (vl (g 6))) &&& (255 : Int32)) = (0 : Int32)
      · refine Go.step (fun tt kk => XS.ifYes X19.here hx rfl (pc0 := 251) (pc' := 256) rfl (hb hby d2_251) rfl ((if0 _ _).trans (teq c251_21).1) (by decide) (by decide) kk) ?_
        show Go _ _ _ _ _ _ _ T19 (mkF m 256 _ [])
        have okp : OK1 g 4 := (own_p1 hg (by decide)).mp ⟨c243_20, c251_21⟩
        have byp := own_q1 hg (by decide) okp
        refine Go.step (fun tt kk => XS.aload X19.here hx rfl (hb hby d2_256) rfl rfl kk) ?_
        show Go _ _ _ _ _ _ _ T19 (mkF m 258 _ [(.ref b2)])
        refine Go.step (fun tt kk => XS.iload X19.here hx rfl (hb hby d2_258) rfl kk) ?_
        show Go _ _ _ _ _ _ _ T19 (mkF m 260 _ [(.int (Int32.ofNat (bf + 3))), (.ref b2)])
        refine Go.step (fun tt kk => XS.iload X19.here hx rfl (hb hby d2_260) rfl kk) ?_
        show Go _ _ _ _ _ _ _ T19 (mkF m 262 _ [(.int (nt (vl (g 4)) (vl (g 5)) (vl (g 6)))), (.int (Int32.ofNat (bf + 3))), (.ref b2)])
        refine Go.step (fun tt kk => XS.bipush X19.here hx rfl (hb hby d2_262) kk) ?_
        show Go _ _ _ _ _ _ _ T19 (mkF m 264 _ [(.int (16 : Int32)), (.int (nt (vl (g 4)) (vl (g 5)) (vl (g 6)))), (.int (Int32.ofNat (bf + 3))), (.ref b2)])
        refine Go.step (fun tt kk => XS.ishr X19.here hx rfl (hb hby d2_264) rfl kk) ?_
        show Go _ _ _ _ _ _ _ T19 (mkF m 265 _ [(.int ((nt (vl (g 4)) (vl (g 5)) (vl (g 6))) >>> ((16 : Int32) &&& 31))), (.int (Int32.ofNat (bf + 3))), (.ref b2)])
        refine Go.step (fun tt kk => XS.i2b X19.here hx rfl (hb hby d2_265) rfl kk) ?_
        show Go _ _ _ _ _ _ _ T19 (mkF m 266 _ [(.int (((nt (vl (g 4)) (vl (g 5)) (vl (g 6))) >>> ((16 : Int32) &&& 31)).toInt8.toInt32)), (.int (Int32.ofNat (bf + 3))), (.ref b2)])
        show Go _ _ _ _ _ _ _ T19 (mkF m 266 #[.val (.ref tx), .val (.int (Int32.ofNat off)), .val (.int (8 : Int32)), .val (.int (Int32.ofNat bf)), .val (.int (5 : Int32)), .val (.int (Int32.ofNat (off + 8))), .val (.ref b2), .val (.int (1 : Int32)), .val (.int (Int32.ofNat (off + 4))), .val (.int (Int32.ofNat (bf + 3))), .val (.int (vl (g 6))), .val (.int (nt (vl (g 4)) (vl (g 5)) (vl (g 6)))), .val (.int (255 : Int32))] [(.int (((nt (vl (g 4)) (vl (g 5)) (vl (g 6))) >>> ((16 : Int32) &&& 31)).toInt8.toInt32)), (.int (Int32.ofNat (bf + 3))), (.ref b2)])
        obtain ⟨cl22, Ar22, hin22, -⟩ := V13.at (j := (Int32.ofNat (bf + 3))) (k := (bf + 3)) (Int32.toInt_ofNat_of_lt (by omega)) (by omega)
        obtain ⟨T22, h22, X22, e22, W22, st22⟩ := stB X19 hx hZ e19 Ar22 (j := (Int32.ofNat (bf + 3))) hin22 (g := (mkF m 266 #[.val (.ref tx), .val (.int (Int32.ofNat off)), .val (.int (8 : Int32)), .val (.int (Int32.ofNat bf)), .val (.int (5 : Int32)), .val (.int (Int32.ofNat (off + 8))), .val (.ref b2), .val (.int (1 : Int32)), .val (.int (Int32.ofNat (off + 4))), .val (.int (Int32.ofNat (bf + 3))), .val (.int (vl (g 6))), .val (.int (nt (vl (g 4)) (vl (g 5)) (vl (g 6)))), .val (.int (255 : Int32))] [(.int (((nt (vl (g 4)) (vl (g 5)) (vl (g 6))) >>> ((16 : Int32) &&& 31)).toInt8.toInt32)), (.int (Int32.ofNat (bf + 3))), (.ref b2)])) rfl rfl (hb hby d2_266)
        rw [(own_nb _)] at W22
        have V22 : AV Z h22 b2 .byte (bf + 5) (upd (upd (upd (upd (fun _ => (.int (0 : Int32))) (bf + 0) (.int (((w4 g 0) >>> ((16 : Int32) &&& 31)).toInt8.toInt32))) (bf + 1) (.int (((w4 g 0) >>> ((8 : Int32) &&& 31)).toInt8.toInt32))) (bf + 2) (.int (((w4 g 0)).toInt8.toInt32))) (bf + 3) (.int (((nt (vl (g 4)) (vl (g 5)) (vl (g 6))) >>> ((16 : Int32) &&& 31)).toInt8.toInt32))) := AV.set V13 (k := (bf + 3)) (Int32.toInt_ofNat_of_lt (by omega)) (by omega) W22
        have N22 := Fr.snoc X22 N19 gn_b2
        have Z22 : n0 ≤ h22.size := Nat.le_trans Z13 (Keep.of_wr W22).1
        have K22 : Keep hI h22 [] := K13.wr W22 (Or.inr sz_b2)
        refine Go.step (st22) ?_
        show Go _ _ _ _ _ _ _ T22 (mkF m 267 _ [])
        refine Go.step (fun tt kk => XS.iload X22.here hx rfl (hb hby d2_267) rfl kk) ?_
        show Go _ _ _ _ _ _ _ T22 (mkF m 269 _ [(.int (1 : Int32))])
        refine Go.step (fun tt kk => XS.iconst X22.here hx rfl (hb hby d2_269) kk) ?_
        show Go _ _ _ _ _ _ _ T22 (mkF m 270 _ [(.int (1 : Int32)), (.int (1 : Int32))])
        refine Go.step (fun tt kk => XS.icmpNo X22.here hx rfl (hb hby d2_270) rfl (teq (by decide)).2 kk) ?_
        show Go _ _ _ _ _ _ _ T22 (mkF m 273 _ [])
        refine Go.step (fun tt kk => XS.aload X22.here hx rfl (hb hby d2_273) rfl rfl kk) ?_
        show Go _ _ _ _ _ _ _ T22 (mkF m 275 _ [(.ref b2)])
        refine Go.step (fun tt kk => XS.iload X22.here hx rfl (hb hby d2_275) rfl kk) ?_
        show Go _ _ _ _ _ _ _ T22 (mkF m 277 _ [(.int (Int32.ofNat (bf + 3))), (.ref b2)])
        refine Go.step (fun tt kk => XS.iconst X22.here hx rfl (hb hby d2_277) kk) ?_
        show Go _ _ _ _ _ _ _ T22 (mkF m 278 _ [(.int (1 : Int32)), (.int (Int32.ofNat (bf + 3))), (.ref b2)])
        refine Go.step (fun tt kk => XS.iadd X22.here hx rfl (hb hby d2_278) rfl kk) ?_
        show Go _ _ _ _ _ _ _ T22 (mkF m 279 _ [(.int ((Int32.ofNat (bf + 3)) + (1 : Int32))), (.ref b2)])
        refine Go.step (fun tt kk => XS.iload X22.here hx rfl (hb hby d2_279) rfl kk) ?_
        show Go _ _ _ _ _ _ _ T22 (mkF m 281 _ [(.int (nt (vl (g 4)) (vl (g 5)) (vl (g 6)))), (.int ((Int32.ofNat (bf + 3)) + (1 : Int32))), (.ref b2)])
        refine Go.step (fun tt kk => XS.bipush X22.here hx rfl (hb hby d2_281) kk) ?_
        show Go _ _ _ _ _ _ _ T22 (mkF m 283 _ [(.int (8 : Int32)), (.int (nt (vl (g 4)) (vl (g 5)) (vl (g 6)))), (.int ((Int32.ofNat (bf + 3)) + (1 : Int32))), (.ref b2)])
        refine Go.step (fun tt kk => XS.ishr X22.here hx rfl (hb hby d2_283) rfl kk) ?_
        show Go _ _ _ _ _ _ _ T22 (mkF m 284 _ [(.int ((nt (vl (g 4)) (vl (g 5)) (vl (g 6))) >>> ((8 : Int32) &&& 31))), (.int ((Int32.ofNat (bf + 3)) + (1 : Int32))), (.ref b2)])
        refine Go.step (fun tt kk => XS.i2b X22.here hx rfl (hb hby d2_284) rfl kk) ?_
        show Go _ _ _ _ _ _ _ T22 (mkF m 285 _ [(.int (((nt (vl (g 4)) (vl (g 5)) (vl (g 6))) >>> ((8 : Int32) &&& 31)).toInt8.toInt32)), (.int ((Int32.ofNat (bf + 3)) + (1 : Int32))), (.ref b2)])
        rw [show Int32.ofNat (bf + 3) + (1 : Int32) = Int32.ofNat (bf + 4) from own_add (bf + 3) 1]
        show Go _ _ _ _ _ _ _ T22 (mkF m 285 #[.val (.ref tx), .val (.int (Int32.ofNat off)), .val (.int (8 : Int32)), .val (.int (Int32.ofNat bf)), .val (.int (5 : Int32)), .val (.int (Int32.ofNat (off + 8))), .val (.ref b2), .val (.int (1 : Int32)), .val (.int (Int32.ofNat (off + 4))), .val (.int (Int32.ofNat (bf + 3))), .val (.int (vl (g 6))), .val (.int (nt (vl (g 4)) (vl (g 5)) (vl (g 6)))), .val (.int (255 : Int32))] [(.int (((nt (vl (g 4)) (vl (g 5)) (vl (g 6))) >>> ((8 : Int32) &&& 31)).toInt8.toInt32)), (.int (Int32.ofNat (bf + 4))), (.ref b2)])
        obtain ⟨cl23, Ar23, hin23, -⟩ := V22.at (j := (Int32.ofNat (bf + 4))) (k := (bf + 4)) (Int32.toInt_ofNat_of_lt (by omega)) (by omega)
        obtain ⟨T23, h23, X23, e23, W23, st23⟩ := stB X22 hx hZ e22 Ar23 (j := (Int32.ofNat (bf + 4))) hin23 (g := (mkF m 285 #[.val (.ref tx), .val (.int (Int32.ofNat off)), .val (.int (8 : Int32)), .val (.int (Int32.ofNat bf)), .val (.int (5 : Int32)), .val (.int (Int32.ofNat (off + 8))), .val (.ref b2), .val (.int (1 : Int32)), .val (.int (Int32.ofNat (off + 4))), .val (.int (Int32.ofNat (bf + 3))), .val (.int (vl (g 6))), .val (.int (nt (vl (g 4)) (vl (g 5)) (vl (g 6)))), .val (.int (255 : Int32))] [(.int (((nt (vl (g 4)) (vl (g 5)) (vl (g 6))) >>> ((8 : Int32) &&& 31)).toInt8.toInt32)), (.int (Int32.ofNat (bf + 4))), (.ref b2)])) rfl rfl (hb hby d2_285)
        rw [(own_nb _)] at W23
        have V23 : AV Z h23 b2 .byte (bf + 5) (upd (upd (upd (upd (upd (fun _ => (.int (0 : Int32))) (bf + 0) (.int (((w4 g 0) >>> ((16 : Int32) &&& 31)).toInt8.toInt32))) (bf + 1) (.int (((w4 g 0) >>> ((8 : Int32) &&& 31)).toInt8.toInt32))) (bf + 2) (.int (((w4 g 0)).toInt8.toInt32))) (bf + 3) (.int (((nt (vl (g 4)) (vl (g 5)) (vl (g 6))) >>> ((16 : Int32) &&& 31)).toInt8.toInt32))) (bf + 4) (.int (((nt (vl (g 4)) (vl (g 5)) (vl (g 6))) >>> ((8 : Int32) &&& 31)).toInt8.toInt32))) := AV.set V22 (k := (bf + 4)) (Int32.toInt_ofNat_of_lt (by omega)) (by omega) W23
        have N23 := Fr.snoc X23 N22 gn_b2
        have Z23 : n0 ≤ h23.size := Nat.le_trans Z22 (Keep.of_wr W23).1
        have K23 : Keep hI h23 [] := K22.wr W23 (Or.inr sz_b2)
        refine Go.step (st23) ?_
        show Go _ _ _ _ _ _ _ T23 (mkF m 286 _ [])
        refine Go.step (fun tt kk => XS.aload X23.here hx rfl (hb hby d2_286) rfl rfl kk) ?_
        show Go _ _ _ _ _ _ _ T23 (mkF m 288 _ [(.ref b2)])
        have V24 : AV Z h23 b2 .byte (bf + 5) (gv (exI g bf)) := V23.congr fun i hi => by
          by_cases q : i < bf
          · rw [show gv (exI g bf) i = .int 0 from congrArg Value.int (exI_lt q)]
            rw [upd_ne (by omega), upd_ne (by omega), upd_ne (by omega), upd_ne (by omega), upd_ne (by omega)]
          · obtain ⟨j, rfl⟩ : ∃ j, i = bf + j := ⟨i - bf, by omega⟩
            rw [show gv (exI g bf) (bf + j) = .int (bt g (j / 3) (j % 3)) from congrArg Value.int (exI_at j)]
            rcases (by omega : j = 0 ∨ j = 1 ∨ j = 2 ∨ j = 3 ∨ j = 4) with rfl | rfl | rfl | rfl | rfl
            · rw [upd_ne (by omega), upd_ne (by omega), upd_ne (by omega), upd_ne (by omega), upd_at (by omega)]; exact congrArg Value.int by0.1
            · rw [upd_ne (by omega), upd_ne (by omega), upd_ne (by omega), upd_at (by omega)]; exact congrArg Value.int by0.2.1
            · rw [upd_ne (by omega), upd_ne (by omega), upd_at (by omega)]; exact congrArg Value.int by0.2.2
            · rw [upd_ne (by omega), upd_at (by omega)]; exact congrArg Value.int byp.1
            · rw [upd_at (by omega)]; exact congrArg Value.int byp.2
        refine go_retA X23 hx (t := (.array .byte)) hret rfl hlk rfl (hb hby d2_288) ?_ (by decide) (by decide)
        try rw [e23]
        exact ⟨N23, eI ▸ K23, fun _ => ⟨b2, rfl, eI ▸ sz_b2, V24⟩, fun z => absurd ⟨ok0, okp⟩ z⟩
      · refine Go.step (fun tt kk => XS.ifNo X19.here hx rfl (hb hby d2_251) rfl ((if0 _ _).trans (feq c251_21).1) kk) ?_
        show Go _ _ _ _ _ _ _ T19 (mkF m 254 _ [])
        refine Go.step (fun tt kk => XS.aconstNull X19.here hx rfl (hb hby d2_254) kk) ?_
        show Go _ _ _ _ _ _ _ T19 (mkF m 255 _ [.null])
        refine go_retA X19 hx (t := (.array .byte)) hret rfl hlk rfl (hb hby d2_255) ?_ (by decide) (by decide)
        try rw [e19]
        exact ⟨N19, eI ▸ K13, fun z => absurd z (fun z => (fun z => (mt (own_p1 hg (by decide)).mpr (fun y => c251_21 y.2)) z) z.2), fun _ => rfl⟩
theorem ef_rmDc82 (m : MethodId) (x0 : Addr) (x1 : Int32) (x2 : Int32) (x3 : Int32) : entryFrame m #[(.ref x0), (.int x1), (.int x2), (.int x3)] 13 = mkF m 0 #[.val (.ref x0), .val (.int x1), .val (.int x2), .val (.int x3), .unset, .unset, .unset, .unset, .unset, .unset, .unset, .unset, .unset] [] := by first | (simp [entryFrame, mkF, argsToLocals, Value.category]; done) | rfl
set_option maxRecDepth 65536 in
set_option maxHeartbeats 40000000 in
theorem rmDc82 (l : Launch) (Z : State) (a0 : Array Value) (hw : ∀ d ∈ tables_1, d.before a0 Z = true) (ws : List Jvm.Cond) (tx va : Addr) (off bf : Nat) (g : Nat → Int32) (F : Nat → Value) (h0 : Heap) (n0 : Nat) (Z0 : n0 ≤ h0.size) (ho : off ≤ 3) (hbf : bf ≤ 3) (hF : ∀ i, i < 8 → F (off + i) = .int (g i)) (hg : CH g) (hp1 : g 7 = 61) (hp2 : g 6 = 61) (SV : Sta Z h0 "com/example/sharks/sharks/StandardBase64" "VALUES" "[B" (.ref va)) (V_va : AV Z h0 va .byte 128 vt) (V_tx : AV Z h0 tx .char 12 F) :
    Ctr l Z (⟨"com/example/sharks/sharks/StandardBase64", "decode", "([CIII)[B"⟩ : MethodName) prog_9_method_2_code 13 (some (.array .byte)) ws ({ frames := 1, cells := 1, slots := 9, locals := 16 } : Room) 1 9 #[(.ref tx), (.int (Int32.ofNat off)), (.int (8 : Int32)), (.int (Int32.ofNat bf))] h0 (fun v h L => Fr n0 L ∧ Keep h0 h [] ∧ ((OK4 g 0 ∧ OK2 g 4) → ∃ b, v = some (.ref b) ∧ h0.size ≤ b ∧ AV Z h b .byte (bf + 4) (gv (exI g bf))) ∧ (¬ (OK4 g 0 ∧ OK2 g 4) → v = some .null)) := by
  refine Ctr.mk (plainFor_of_name pn_1) fun p e s m below meth c T0 X0 C e0 => go_cast (ef_rmDc82 m tx (Int32.ofNat off) (8 : Int32) (Int32.ofNat bf)) ?_
  have N0 := Fr.nil n0
  obtain ⟨hx, hZ, hby, hml, hown, hnm, hret, hlk⟩ := C
  obtain ⟨hI, eI⟩ : ∃ z, z = h0 := ⟨_, rfl⟩
  have K0 : Keep hI h0 [] := by rw [eI]; exact Keep.refl _ _
  show Go _ _ _ _ _ _ _ T0 (mkF m 0 #[.val (.ref tx), .val (.int (Int32.ofNat off)), .val (.int (8 : Int32)), .val (.int (Int32.ofNat bf)), .unset, .unset, .unset, .unset, .unset, .unset, .unset, .unset, .unset] [])
  refine Go.step (fun tt kk => XS.aloadN X0.here hx rfl (hb hby d2_0) rfl rfl kk) ?_
  show Go _ _ _ _ _ _ _ T0 (mkF m 1 _ [(.ref tx)])
  refine Go.step (fun tt kk => XS.iloadN X0.here hx rfl (hb hby d2_1) rfl kk) ?_
  show Go _ _ _ _ _ _ _ T0 (mkF m 2 _ [(.int (Int32.ofNat off)), (.ref tx)])
  refine Go.step (fun tt kk => XS.iloadN X0.here hx rfl (hb hby d2_2) rfl kk) ?_
  show Go _ _ _ _ _ _ _ T0 (mkF m 3 _ [(.int (8 : Int32)), (.int (Int32.ofNat off)), (.ref tx)])
  obtain ⟨v1, T1, L1, X1, q1, st1⟩ := c_static X0 hx hZ hown (y := (⟨"com/example/sharks/sharks/StandardBase64", "decodedLength", "([CII)I"⟩ : MethodName)) (hw _ (List.mem_of_getElem? (i := 11) rfl)) (hw _ (List.mem_of_getElem? (i := 12) rfl)) (hw _ (List.mem_of_getElem? (i := 9) rfl)) (hw _ (List.mem_of_getElem? (i := 13) rfl)) (by decide) (argsL := [(.ref tx), (.int (Int32.ofNat off)), (.int (8 : Int32))]) (rest := []) (rmD l Z a0 hw [] tx off 8 (g 7) (g 6) F h0 n0 Z0 ho (by decide) V_tx (hF 7 (by decide)) (hF 6 (by decide))) e0 pd_0 rfl (by rw [hml]; rfl) (W := 0) (by show 2 * 0 + _ ≤ _; exact Nat.le_of_eq rfl) (by decide) (by decide) (by decide) (by decide) (hb hby d2_3) (Ls := #[.val (.ref tx), .val (.int (Int32.ofNat off)), .val (.int (8 : Int32)), .val (.int (Int32.ofNat bf)), .unset, .unset, .unset, .unset, .unset, .unset, .unset, .unset, .unset])
  obtain ⟨rfl, rfl, e1⟩ := q1
  have N1 := Fr.app N0 (Fr.nil n0)
  refine Go.step (st1) ?_
  show Go _ _ _ _ _ _ _ T1 (mkF m 6 _ [(.int (dl 8 (g 7) (g 6)))])
  rw [show dl 8 (g 7) (g 6) = (4 : Int32) from by unfold dl; rw [if_pos hp1, if_pos hp2]; decide]
  show Go _ _ _ _ _ _ _ T1 (mkF m 6 #[.val (.ref tx), .val (.int (Int32.ofNat off)), .val (.int (8 : Int32)), .val (.int (Int32.ofNat bf)), .unset, .unset, .unset, .unset, .unset, .unset, .unset, .unset, .unset] [(.int (4 : Int32))])
  refine Go.step (fun tt kk => XS.istore X1.here hx rfl (hb hby d2_6) rfl (l' := #[.val (.ref tx), .val (.int (Int32.ofNat off)), .val (.int (8 : Int32)), .val (.int (Int32.ofNat bf)), .val (.int (4 : Int32)), .unset, .unset, .unset, .unset, .unset, .unset, .unset, .unset]) rfl kk) ?_
  show Go _ _ _ _ _ _ _ T1 (mkF m 8 _ [])
  refine Go.step (fun tt kk => XS.iload X1.here hx rfl (hb hby d2_8) rfl kk) ?_
  show Go _ _ _ _ _ _ _ T1 (mkF m 10 _ [(.int (4 : Int32))])
  refine Go.step (fun tt kk => XS.ifYes X1.here hx rfl (pc0 := 10) (pc' := 15) rfl (hb hby d2_10) rfl ((if0 _ _).trans (flt (by decide)).2.1) (by decide) (by decide) kk) ?_
  show Go _ _ _ _ _ _ _ T1 (mkF m 15 _ [])
  refine Go.step (fun tt kk => XS.iloadN X1.here hx rfl (hb hby d2_15) rfl kk) ?_
  show Go _ _ _ _ _ _ _ T1 (mkF m 16 _ [(.int (Int32.ofNat off))])
  refine Go.step (fun tt kk => XS.iloadN X1.here hx rfl (hb hby d2_16) rfl kk) ?_
  show Go _ _ _ _ _ _ _ T1 (mkF m 17 _ [(.int (8 : Int32)), (.int (Int32.ofNat off))])
  refine Go.step (fun tt kk => XS.iadd X1.here hx rfl (hb hby d2_17) rfl kk) ?_
  show Go _ _ _ _ _ _ _ T1 (mkF m 18 _ [(.int ((Int32.ofNat off) + (8 : Int32)))])
  rw [show Int32.ofNat off + (8 : Int32) = Int32.ofNat (off + 8) from own_add off 8]
  show Go _ _ _ _ _ _ _ T1 (mkF m 18 #[.val (.ref tx), .val (.int (Int32.ofNat off)), .val (.int (8 : Int32)), .val (.int (Int32.ofNat bf)), .val (.int (4 : Int32)), .unset, .unset, .unset, .unset, .unset, .unset, .unset, .unset] [(.int (Int32.ofNat (off + 8)))])
  refine Go.step (fun tt kk => XS.istore X1.here hx rfl (hb hby d2_18) rfl (l' := #[.val (.ref tx), .val (.int (Int32.ofNat off)), .val (.int (8 : Int32)), .val (.int (Int32.ofNat bf)), .val (.int (4 : Int32)), .val (.int (Int32.ofNat (off + 8))), .unset, .unset, .unset, .unset, .unset, .unset, .unset]) rfl kk) ?_
  show Go _ _ _ _ _ _ _ T1 (mkF m 20 _ [])
  refine Go.step (fun tt kk => XS.iloadN X1.here hx rfl (hb hby d2_20) rfl kk) ?_
  show Go _ _ _ _ _ _ _ T1 (mkF m 21 _ [(.int (Int32.ofNat bf))])
  refine Go.step (fun tt kk => XS.iload X1.here hx rfl (hb hby d2_21) rfl kk) ?_
  show Go _ _ _ _ _ _ _ T1 (mkF m 23 _ [(.int (4 : Int32)), (.int (Int32.ofNat bf))])
  refine Go.step (fun tt kk => XS.iadd X1.here hx rfl (hb hby d2_23) rfl kk) ?_
  show Go _ _ _ _ _ _ _ T1 (mkF m 24 _ [(.int ((Int32.ofNat bf) + (4 : Int32)))])
  rw [show Int32.ofNat bf + (4 : Int32) = Int32.ofNat (bf + 4) from own_add bf 4]
  show Go _ _ _ _ _ _ _ T1 (mkF m 24 #[.val (.ref tx), .val (.int (Int32.ofNat off)), .val (.int (8 : Int32)), .val (.int (Int32.ofNat bf)), .val (.int (4 : Int32)), .val (.int (Int32.ofNat (off + 8))), .unset, .unset, .unset, .unset, .unset, .unset, .unset] [(.int (Int32.ofNat (bf + 4)))])
  obtain ⟨T2, h2, k2, X2, e2, E2, A2, EA2, st2⟩ := newPE X1 hx hZ (hw _ (List.mem_of_getElem? (i := 20) rfl)) e1 (g := (mkF m 24 #[.val (.ref tx), .val (.int (Int32.ofNat off)), .val (.int (8 : Int32)), .val (.int (Int32.ofNat bf)), .val (.int (4 : Int32)), .val (.int (Int32.ofNat (off + 8))), .unset, .unset, .unset, .unset, .unset, .unset, .unset] [(.int (Int32.ofNat (bf + 4)))])) rfl (hb hby d2_24) rfl (own_nn (bf + 4) (by omega)) (cap := 9) (by rw [clamp_of (k := bf + 4) (Int32.toInt_ofNat_of_lt (by omega))]; omega) (by decide) (by decide) (by decide) (ad := "[B") rfl
  obtain ⟨b2, g2⟩ : ∃ z, z = h0.size := ⟨_, rfl⟩
  rw [← g2] at A2 EA2 st2
  have ne_tx_b2 : tx ≠ b2 := Nat.ne_of_lt (Nat.lt_of_lt_of_le V_tx.lt (Nat.le_of_eq g2.symm))
  have ne_va_b2 : va ≠ b2 := Nat.ne_of_lt (Nat.lt_of_lt_of_le V_va.lt (Nat.le_of_eq g2.symm))
  have gn_b2 : n0 ≤ b2 := Nat.le_trans Z0 (Nat.le_of_eq g2.symm)
  have sz_b2 : hI.size ≤ b2 := Nat.le_trans K0.1 (Nat.le_of_eq g2.symm)
  have Z2 : n0 ≤ h2.size := Nat.le_trans Z0 E2.1
  have K2 : Keep hI h2 [] := K0.ext E2
  have V2 : AV Z h2 b2 .byte (bf + 4) (fun _ => (.int (0 : Int32))) := AV.new A2 (Int32.toInt_ofNat_of_lt (by omega))
  refine Go.step (st2) ?_
  show Go _ _ _ _ _ _ _ T2 (mkF m 26 _ [(.ref b2)])
  refine Go.step (fun tt kk => XS.astore X2.here hx rfl (hb hby d2_26) rfl rfl (l' := #[.val (.ref tx), .val (.int (Int32.ofNat off)), .val (.int (8 : Int32)), .val (.int (Int32.ofNat bf)), .val (.int (4 : Int32)), .val (.int (Int32.ofNat (off + 8))), .val (.ref b2), .unset, .unset, .unset, .unset, .unset, .unset]) rfl kk) ?_
  show Go _ _ _ _ _ _ _ T2 (mkF m 28 _ [])
  refine Go.step (fun tt kk => XS.iloadN X2.here hx rfl (hb hby d2_28) rfl kk) ?_
  show Go _ _ _ _ _ _ _ T2 (mkF m 29 _ [(.int (8 : Int32))])
  refine Go.step (fun tt kk => XS.iconst X2.here hx rfl (hb hby d2_29) kk) ?_
  show Go _ _ _ _ _ _ _ T2 (mkF m 30 _ [(.int (4 : Int32)), (.int (8 : Int32))])
  refine Go.step (fun tt kk => XS.idiv X2.here hx rfl (hb hby d2_30) rfl (by decide) kk) ?_
  show Go _ _ _ _ _ _ _ T2 (mkF m 31 _ [(.int ((8 : Int32) / (4 : Int32)))])
  refine Go.step (fun tt kk => XS.iconst X2.here hx rfl (hb hby d2_31) kk) ?_
  show Go _ _ _ _ _ _ _ T2 (mkF m 32 _ [(.int (3 : Int32)), (.int ((8 : Int32) / (4 : Int32)))])
  refine Go.step (fun tt kk => XS.imul X2.here hx rfl (hb hby d2_32) rfl kk) ?_
  show Go _ _ _ _ _ _ _ T2 (mkF m 33 _ [(.int (((8 : Int32) / (4 : Int32)) * (3 : Int32)))])
  refine Go.step (fun tt kk => XS.iload X2.here hx rfl (hb hby d2_33) rfl kk) ?_
  show Go _ _ _ _ _ _ _ T2 (mkF m 35 _ [(.int (4 : Int32)), (.int (((8 : Int32) / (4 : Int32)) * (3 : Int32)))])
  refine Go.step (fun tt kk => XS.isub X2.here hx rfl (hb hby d2_35) rfl kk) ?_
  show Go _ _ _ _ _ _ _ T2 (mkF m 36 _ [(.int ((((8 : Int32) / (4 : Int32)) * (3 : Int32)) - (4 : Int32)))])
  rw [show ((((8 : Int32) / (4 : Int32)) * (3 : Int32)) - (4 : Int32)) = (2 : Int32) by decide]
  show Go _ _ _ _ _ _ _ T2 (mkF m 36 #[.val (.ref tx), .val (.int (Int32.ofNat off)), .val (.int (8 : Int32)), .val (.int (Int32.ofNat bf)), .val (.int (4 : Int32)), .val (.int (Int32.ofNat (off + 8))), .val (.ref b2), .unset, .unset, .unset, .unset, .unset, .unset] [(.int (2 : Int32))])
  refine Go.step (fun tt kk => XS.istore X2.here hx rfl (hb hby d2_36) rfl (l' := #[.val (.ref tx), .val (.int (Int32.ofNat off)), .val (.int (8 : Int32)), .val (.int (Int32.ofNat bf)), .val (.int (4 : Int32)), .val (.int (Int32.ofNat (off + 8))), .val (.ref b2), .val (.int (2 : Int32)), .unset, .unset, .unset, .unset, .unset]) rfl kk) ?_
  show Go _ _ _ _ _ _ _ T2 (mkF m 38 _ [])
  refine Go.step (fun tt kk => XS.iload X2.here hx rfl (hb hby d2_38) rfl kk) ?_
  show Go _ _ _ _ _ _ _ T2 (mkF m 40 _ [(.int (2 : Int32))])
  refine Go.step (fun tt kk => XS.ifYes X2.here hx rfl (pc0 := 40) (pc' := 48) rfl (hb hby d2_40) rfl ((if0 _ _).trans (feq (by decide)).2) (by decide) (by decide) kk) ?_
  show Go _ _ _ _ _ _ _ T2 (mkF m 48 _ [])
  refine Go.step (fun tt kk => XS.iload X2.here hx rfl (hb hby d2_48) rfl kk) ?_
  show Go _ _ _ _ _ _ _ T2 (mkF m 50 _ [(.int (Int32.ofNat (off + 8)))])
  refine Go.step (fun tt kk => XS.iconst X2.here hx rfl (hb hby d2_50) kk) ?_
  show Go _ _ _ _ _ _ _ T2 (mkF m 51 _ [(.int (4 : Int32)), (.int (Int32.ofNat (off + 8)))])
  refine Go.step (fun tt kk => XS.isub X2.here hx rfl (hb hby d2_51) rfl kk) ?_
  show Go _ _ _ _ _ _ _ T2 (mkF m 52 _ [(.int ((Int32.ofNat (off + 8)) - (4 : Int32)))])
  rw [show Int32.ofNat (off + 8) - (4 : Int32) = Int32.ofNat (off + 4) from (own_sub (off + 8) 4 (by omega) (by omega)).trans (congrArg Int32.ofNat (by omega))]
  show Go _ _ _ _ _ _ _ T2 (mkF m 52 #[.val (.ref tx), .val (.int (Int32.ofNat off)), .val (.int (8 : Int32)), .val (.int (Int32.ofNat bf)), .val (.int (4 : Int32)), .val (.int (Int32.ofNat (off + 8))), .val (.ref b2), .val (.int (2 : Int32)), .unset, .unset, .unset, .unset, .unset] [(.int (Int32.ofNat (off + 4)))])
  refine Go.step (fun tt kk => XS.istore X2.here hx rfl (hb hby d2_52) rfl (l' := #[.val (.ref tx), .val (.int (Int32.ofNat off)), .val (.int (8 : Int32)), .val (.int (Int32.ofNat bf)), .val (.int (4 : Int32)), .val (.int (Int32.ofNat (off + 8))), .val (.ref b2), .val (.int (2 : Int32)), .val (.int (Int32.ofNat (off + 4))), .unset, .unset, .unset, .unset]) rfl kk) ?_
  show Go _ _ _ _ _ _ _ T2 (mkF m 54 _ [])
  refine Go.step (fun tt kk => XS.iloadN X2.here hx rfl (hb hby d2_54) rfl kk) ?_
  show Go _ _ _ _ _ _ _ T2 (mkF m 55 _ [(.int (Int32.ofNat bf))])
  refine Go.step (fun tt kk => XS.istore X2.here hx rfl (hb hby d2_55) rfl (l' := #[.val (.ref tx), .val (.int (Int32.ofNat off)), .val (.int (8 : Int32)), .val (.int (Int32.ofNat bf)), .val (.int (4 : Int32)), .val (.int (Int32.ofNat (off + 8))), .val (.ref b2), .val (.int (2 : Int32)), .val (.int (Int32.ofNat (off + 4))), .val (.int (Int32.ofNat bf)), .unset, .unset, .unset]) rfl kk) ?_
  show Go _ _ _ _ _ _ _ T2 (mkF m 57 _ [])
  refine Go.step (fun tt kk => XS.iloadN X2.here hx rfl (hb hby d2_57) rfl kk) ?_
  show Go _ _ _ _ _ _ _ T2 (mkF m 58 _ [(.int (Int32.ofNat off))])
  refine Go.step (fun tt kk => XS.istore X2.here hx rfl (hb hby d2_58) rfl (l' := #[.val (.ref tx), .val (.int (Int32.ofNat off)), .val (.int (8 : Int32)), .val (.int (Int32.ofNat bf)), .val (.int (4 : Int32)), .val (.int (Int32.ofNat (off + 8))), .val (.ref b2), .val (.int (2 : Int32)), .val (.int (Int32.ofNat (off + 4))), .val (.int (Int32.ofNat bf)), .val (.int (Int32.ofNat off)), .unset, .unset]) rfl kk) ?_
  show Go _ _ _ _ _ _ _ T2 (mkF m 60 _ [])
  show Go _ _ _ _ _ _ _ T2 (mkF m 60 #[.val (.ref tx), .val (.int (Int32.ofNat off)), .val (.int (8 : Int32)), .val (.int (Int32.ofNat bf)), .val (.int (4 : Int32)), .val (.int (Int32.ofNat (off + 8))), .val (.ref b2), .val (.int (2 : Int32)), .val (.int (Int32.ofNat (off + 4))), .val (.int (Int32.ofNat (bf + 0))), .val (.int (Int32.ofNat (off + 0))), .unset, .unset] [])
  refine Go.step (fun tt kk => XS.iload X2.here hx rfl (hb hby d2_60) rfl kk) ?_
  show Go _ _ _ _ _ _ _ T2 (mkF m 62 _ [(.int (Int32.ofNat (off + 0)))])
  refine Go.step (fun tt kk => XS.iload X2.here hx rfl (hb hby d2_62) rfl kk) ?_
  show Go _ _ _ _ _ _ _ T2 (mkF m 64 _ [(.int (Int32.ofNat (off + 4))), (.int (Int32.ofNat (off + 0)))])
  refine Go.step (fun tt kk => XS.icmpNo X2.here hx rfl (hb hby d2_64) rfl (tlt ((own_lt _ _ (by omega) (by omega)).mpr (by omega))).2.1 kk) ?_
  show Go _ _ _ _ _ _ _ T2 (mkF m 67 _ [])
  refine Go.step (fun tt kk => XS.aloadN X2.here hx rfl (hb hby d2_67) rfl rfl kk) ?_
  show Go _ _ _ _ _ _ _ T2 (mkF m 68 _ [(.ref tx)])
  refine Go.step (fun tt kk => XS.iload X2.here hx rfl (hb hby d2_68) rfl kk) ?_
  show Go _ _ _ _ _ _ _ T2 (mkF m 70 _ [(.int (Int32.ofNat (off + 0))), (.ref tx)])
  have f3 := (V_tx.ext E2)
  refine Go.step (a_cload X2 hx hZ e2 f3 (k := (off + 0)) (Int32.toInt_ofNat_of_lt (by omega)) (by omega) (x := (g 0)) (hF 0 (by decide)) (hb hby d2_70)) ?_
  show Go _ _ _ _ _ _ _ T2 (mkF m 71 _ [(.int (g 0))])
  have f5 := (Sta.ext E2 SV)
  have f6 := (V_va.ext E2)
  obtain ⟨v4, T4, L4, X4, q4, st4⟩ := c_static X2 hx hZ hown (y := (⟨"com/example/sharks/sharks/StandardBase64", "value", "(C)I"⟩ : MethodName)) (hw _ (List.mem_of_getElem? (i := 24) rfl)) (hw _ (List.mem_of_getElem? (i := 25) rfl)) (hw _ (List.mem_of_getElem? (i := 9) rfl)) (hw _ (List.mem_of_getElem? (i := 26) rfl)) (by decide) (argsL := [(.int (g 0))]) (rest := []) (rmVa l Z a0 hw [] va (g 0) h2 n0 Z2 (char_nn (hg 0 (by decide))).1 f5 f6) e2 pd_1 rfl (by rw [hml]; rfl) (W := 0) (by show 2 * 0 + _ ≤ _; exact Nat.le_of_eq rfl) (by decide) (by decide) (by decide) (by decide) (hb hby d2_71) (Ls := #[.val (.ref tx), .val (.int (Int32.ofNat off)), .val (.int (8 : Int32)), .val (.int (Int32.ofNat bf)), .val (.int (4 : Int32)), .val (.int (Int32.ofNat (off + 8))), .val (.ref b2), .val (.int (2 : Int32)), .val (.int (Int32.ofNat (off + 4))), .val (.int (Int32.ofNat (bf + 0))), .val (.int (Int32.ofNat (off + 0))), .unset, .unset])
  obtain ⟨rfl, rfl, e4⟩ := q4
  have N4 := Fr.app N1 (Fr.nil n0)
  refine Go.step (st4) ?_
  show Go _ _ _ _ _ _ _ T4 (mkF m 74 _ [(.int (vl (g 0)))])
  refine Go.step (fun tt kk => XS.bipush X4.here hx rfl (hb hby d2_74) kk) ?_
  show Go _ _ _ _ _ _ _ T4 (mkF m 76 _ [(.int (18 : Int32)), (.int (vl (g 0)))])
  refine Go.step (fun tt kk => XS.ishl X4.here hx rfl (hb hby d2_76) rfl kk) ?_
  show Go _ _ _ _ _ _ _ T4 (mkF m 77 _ [(.int ((vl (g 0)) <<< ((18 : Int32) &&& 31)))])
  refine Go.step (fun tt kk => XS.aloadN X4.here hx rfl (hb hby d2_77) rfl rfl kk) ?_
  show Go _ _ _ _ _ _ _ T4 (mkF m 78 _ [(.ref tx), (.int ((vl (g 0)) <<< ((18 : Int32) &&& 31)))])
  refine Go.step (fun tt kk => XS.iload X4.here hx rfl (hb hby d2_78) rfl kk) ?_
  show Go _ _ _ _ _ _ _ T4 (mkF m 80 _ [(.int (Int32.ofNat (off + 0))), (.ref tx), (.int ((vl (g 0)) <<< ((18 : Int32) &&& 31)))])
  refine Go.step (fun tt kk => XS.iconst X4.here hx rfl (hb hby d2_80) kk) ?_
  show Go _ _ _ _ _ _ _ T4 (mkF m 81 _ [(.int (1 : Int32)), (.int (Int32.ofNat (off + 0))), (.ref tx), (.int ((vl (g 0)) <<< ((18 : Int32) &&& 31)))])
  refine Go.step (fun tt kk => XS.iadd X4.here hx rfl (hb hby d2_81) rfl kk) ?_
  show Go _ _ _ _ _ _ _ T4 (mkF m 82 _ [(.int ((Int32.ofNat (off + 0)) + (1 : Int32))), (.ref tx), (.int ((vl (g 0)) <<< ((18 : Int32) &&& 31)))])
  rw [show Int32.ofNat (off + 0) + (1 : Int32) = Int32.ofNat (off + 1) from own_add (off + 0) 1]
  show Go _ _ _ _ _ _ _ T4 (mkF m 82 #[.val (.ref tx), .val (.int (Int32.ofNat off)), .val (.int (8 : Int32)), .val (.int (Int32.ofNat bf)), .val (.int (4 : Int32)), .val (.int (Int32.ofNat (off + 8))), .val (.ref b2), .val (.int (2 : Int32)), .val (.int (Int32.ofNat (off + 4))), .val (.int (Int32.ofNat (bf + 0))), .val (.int (Int32.ofNat (off + 0))), .unset, .unset] [(.int (Int32.ofNat (off + 1))), (.ref tx), (.int ((vl (g 0)) <<< ((18 : Int32) &&& 31)))])
  refine Go.step (a_cload X4 hx hZ e4 f3 (k := (off + 1)) (Int32.toInt_ofNat_of_lt (by omega)) (by omega) (x := (g 1)) (hF 1 (by decide)) (hb hby d2_82)) ?_
  show Go _ _ _ _ _ _ _ T4 (mkF m 83 _ [(.int (g 1)), (.int ((vl (g 0)) <<< ((18 : Int32) &&& 31)))])
  obtain ⟨v7, T7, L7, X7, q7, st7⟩ := c_static X4 hx hZ hown (y := (⟨"com/example/sharks/sharks/StandardBase64", "value", "(C)I"⟩ : MethodName)) (hw _ (List.mem_of_getElem? (i := 24) rfl)) (hw _ (List.mem_of_getElem? (i := 25) rfl)) (hw _ (List.mem_of_getElem? (i := 9) rfl)) (hw _ (List.mem_of_getElem? (i := 26) rfl)) (by decide) (argsL := [(.int (g 1))]) (rest := [(.int ((vl (g 0)) <<< ((18 : Int32) &&& 31)))]) (rmVa l Z a0 hw [] va (g 1) h2 n0 Z2 (char_nn (hg 1 (by decide))).1 f5 f6) e4 pd_1 rfl (by rw [hml]; rfl) (W := 1) (by show 2 * 0 + _ ≤ _; exact Nat.le_of_eq rfl) (by decide) (by decide) (by decide) (by decide) (hb hby d2_83) (Ls := #[.val (.ref tx), .val (.int (Int32.ofNat off)), .val (.int (8 : Int32)), .val (.int (Int32.ofNat bf)), .val (.int (4 : Int32)), .val (.int (Int32.ofNat (off + 8))), .val (.ref b2), .val (.int (2 : Int32)), .val (.int (Int32.ofNat (off + 4))), .val (.int (Int32.ofNat (bf + 0))), .val (.int (Int32.ofNat (off + 0))), .unset, .unset])
  obtain ⟨rfl, rfl, e7⟩ := q7
  have N7 := Fr.app N4 (Fr.nil n0)
  refine Go.step (st7) ?_
  show Go _ _ _ _ _ _ _ T7 (mkF m 86 _ [(.int (vl (g 1))), (.int ((vl (g 0)) <<< ((18 : Int32) &&& 31)))])
  refine Go.step (fun tt kk => XS.bipush X7.here hx rfl (hb hby d2_86) kk) ?_
  show Go _ _ _ _ _ _ _ T7 (mkF m 88 _ [(.int (12 : Int32)), (.int (vl (g 1))), (.int ((vl (g 0)) <<< ((18 : Int32) &&& 31)))])
  refine Go.step (fun tt kk => XS.ishl X7.here hx rfl (hb hby d2_88) rfl kk) ?_
  show Go _ _ _ _ _ _ _ T7 (mkF m 89 _ [(.int ((vl (g 1)) <<< ((12 : Int32) &&& 31))), (.int ((vl (g 0)) <<< ((18 : Int32) &&& 31)))])
  refine Go.step (fun tt kk => XS.ior X7.here hx rfl (hb hby d2_89) rfl kk) ?_
  show Go _ _ _ _ _ _ _ T7 (mkF m 90 _ [(.int (((vl (g 0)) <<< ((18 : Int32) &&& 31)) ||| ((vl (g 1)) <<< ((12 : Int32) &&& 31))))])
  refine Go.step (fun tt kk => XS.aloadN X7.here hx rfl (hb hby d2_90) rfl rfl kk) ?_
  show Go _ _ _ _ _ _ _ T7 (mkF m 91 _ [(.ref tx), (.int (((vl (g 0)) <<< ((18 : Int32) &&& 31)) ||| ((vl (g 1)) <<< ((12 : Int32) &&& 31))))])
  refine Go.step (fun tt kk => XS.iload X7.here hx rfl (hb hby d2_91) rfl kk) ?_
  show Go _ _ _ _ _ _ _ T7 (mkF m 93 _ [(.int (Int32.ofNat (off + 0))), (.ref tx), (.int (((vl (g 0)) <<< ((18 : Int32) &&& 31)) ||| ((vl (g 1)) <<< ((12 : Int32) &&& 31))))])
  refine Go.step (fun tt kk => XS.iconst X7.here hx rfl (hb hby d2_93) kk) ?_
  show Go _ _ _ _ _ _ _ T7 (mkF m 94 _ [(.int (2 : Int32)), (.int (Int32.ofNat (off + 0))), (.ref tx), (.int (((vl (g 0)) <<< ((18 : Int32) &&& 31)) ||| ((vl (g 1)) <<< ((12 : Int32) &&& 31))))])
  refine Go.step (fun tt kk => XS.iadd X7.here hx rfl (hb hby d2_94) rfl kk) ?_
  show Go _ _ _ _ _ _ _ T7 (mkF m 95 _ [(.int ((Int32.ofNat (off + 0)) + (2 : Int32))), (.ref tx), (.int (((vl (g 0)) <<< ((18 : Int32) &&& 31)) ||| ((vl (g 1)) <<< ((12 : Int32) &&& 31))))])
  rw [show Int32.ofNat (off + 0) + (2 : Int32) = Int32.ofNat (off + 2) from own_add (off + 0) 2]
  show Go _ _ _ _ _ _ _ T7 (mkF m 95 #[.val (.ref tx), .val (.int (Int32.ofNat off)), .val (.int (8 : Int32)), .val (.int (Int32.ofNat bf)), .val (.int (4 : Int32)), .val (.int (Int32.ofNat (off + 8))), .val (.ref b2), .val (.int (2 : Int32)), .val (.int (Int32.ofNat (off + 4))), .val (.int (Int32.ofNat (bf + 0))), .val (.int (Int32.ofNat (off + 0))), .unset, .unset] [(.int (Int32.ofNat (off + 2))), (.ref tx), (.int (((vl (g 0)) <<< ((18 : Int32) &&& 31)) ||| ((vl (g 1)) <<< ((12 : Int32) &&& 31))))])
  refine Go.step (a_cload X7 hx hZ e7 f3 (k := (off + 2)) (Int32.toInt_ofNat_of_lt (by omega)) (by omega) (x := (g 2)) (hF 2 (by decide)) (hb hby d2_95)) ?_
  show Go _ _ _ _ _ _ _ T7 (mkF m 96 _ [(.int (g 2)), (.int (((vl (g 0)) <<< ((18 : Int32) &&& 31)) ||| ((vl (g 1)) <<< ((12 : Int32) &&& 31))))])
  obtain ⟨v8, T8, L8, X8, q8, st8⟩ := c_static X7 hx hZ hown (y := (⟨"com/example/sharks/sharks/StandardBase64", "value", "(C)I"⟩ : MethodName)) (hw _ (List.mem_of_getElem? (i := 24) rfl)) (hw _ (List.mem_of_getElem? (i := 25) rfl)) (hw _ (List.mem_of_getElem? (i := 9) rfl)) (hw _ (List.mem_of_getElem? (i := 26) rfl)) (by decide) (argsL := [(.int (g 2))]) (rest := [(.int (((vl (g 0)) <<< ((18 : Int32) &&& 31)) ||| ((vl (g 1)) <<< ((12 : Int32) &&& 31))))]) (rmVa l Z a0 hw [] va (g 2) h2 n0 Z2 (char_nn (hg 2 (by decide))).1 f5 f6) e7 pd_1 rfl (by rw [hml]; rfl) (W := 1) (by show 2 * 0 + _ ≤ _; exact Nat.le_of_eq rfl) (by decide) (by decide) (by decide) (by decide) (hb hby d2_96) (Ls := #[.val (.ref tx), .val (.int (Int32.ofNat off)), .val (.int (8 : Int32)), .val (.int (Int32.ofNat bf)), .val (.int (4 : Int32)), .val (.int (Int32.ofNat (off + 8))), .val (.ref b2), .val (.int (2 : Int32)), .val (.int (Int32.ofNat (off + 4))), .val (.int (Int32.ofNat (bf + 0))), .val (.int (Int32.ofNat (off + 0))), .unset, .unset])
  obtain ⟨rfl, rfl, e8⟩ := q8
  have N8 := Fr.app N7 (Fr.nil n0)
  refine Go.step (st8) ?_
  show Go _ _ _ _ _ _ _ T8 (mkF m 99 _ [(.int (vl (g 2))), (.int (((vl (g 0)) <<< ((18 : Int32) &&& 31)) ||| ((vl (g 1)) <<< ((12 : Int32) &&& 31))))])
  refine Go.step (fun tt kk => XS.bipush X8.here hx rfl (hb hby d2_99) kk) ?_
  show Go _ _ _ _ _ _ _ T8 (mkF m 101 _ [(.int (6 : Int32)), (.int (vl (g 2))), (.int (((vl (g 0)) <<< ((18 : Int32) &&& 31)) ||| ((vl (g 1)) <<< ((12 : Int32) &&& 31))))])
  refine Go.step (fun tt kk => XS.ishl X8.here hx rfl (hb hby d2_101) rfl kk) ?_
  show Go _ _ _ _ _ _ _ T8 (mkF m 102 _ [(.int ((vl (g 2)) <<< ((6 : Int32) &&& 31))), (.int (((vl (g 0)) <<< ((18 : Int32) &&& 31)) ||| ((vl (g 1)) <<< ((12 : Int32) &&& 31))))])
  refine Go.step (fun tt kk => XS.ior X8.here hx rfl (hb hby d2_102) rfl kk) ?_
  show Go _ _ _ _ _ _ _ T8 (mkF m 103 _ [(.int ((((vl (g 0)) <<< ((18 : Int32) &&& 31)) ||| ((vl (g 1)) <<< ((12 : Int32) &&& 31))) ||| ((vl (g 2)) <<< ((6 : Int32) &&& 31))))])
  refine Go.step (fun tt kk => XS.aloadN X8.here hx rfl (hb hby d2_103) rfl rfl kk) ?_
  show Go _ _ _ _ _ _ _ T8 (mkF m 104 _ [(.ref tx), (.int ((((vl (g 0)) <<< ((18 : Int32) &&& 31)) ||| ((vl (g 1)) <<< ((12 : Int32) &&& 31))) ||| ((vl (g 2)) <<< ((6 : Int32) &&& 31))))])
  refine Go.step (fun tt kk => XS.iload X8.here hx rfl (hb hby d2_104) rfl kk) ?_
  show Go _ _ _ _ _ _ _ T8 (mkF m 106 _ [(.int (Int32.ofNat (off + 0))), (.ref tx), (.int ((((vl (g 0)) <<< ((18 : Int32) &&& 31)) ||| ((vl (g 1)) <<< ((12 : Int32) &&& 31))) ||| ((vl (g 2)) <<< ((6 : Int32) &&& 31))))])
  refine Go.step (fun tt kk => XS.iconst X8.here hx rfl (hb hby d2_106) kk) ?_
  show Go _ _ _ _ _ _ _ T8 (mkF m 107 _ [(.int (3 : Int32)), (.int (Int32.ofNat (off + 0))), (.ref tx), (.int ((((vl (g 0)) <<< ((18 : Int32) &&& 31)) ||| ((vl (g 1)) <<< ((12 : Int32) &&& 31))) ||| ((vl (g 2)) <<< ((6 : Int32) &&& 31))))])
  refine Go.step (fun tt kk => XS.iadd X8.here hx rfl (hb hby d2_107) rfl kk) ?_
  show Go _ _ _ _ _ _ _ T8 (mkF m 108 _ [(.int ((Int32.ofNat (off + 0)) + (3 : Int32))), (.ref tx), (.int ((((vl (g 0)) <<< ((18 : Int32) &&& 31)) ||| ((vl (g 1)) <<< ((12 : Int32) &&& 31))) ||| ((vl (g 2)) <<< ((6 : Int32) &&& 31))))])
  rw [show Int32.ofNat (off + 0) + (3 : Int32) = Int32.ofNat (off + 3) from own_add (off + 0) 3]
  show Go _ _ _ _ _ _ _ T8 (mkF m 108 #[.val (.ref tx), .val (.int (Int32.ofNat off)), .val (.int (8 : Int32)), .val (.int (Int32.ofNat bf)), .val (.int (4 : Int32)), .val (.int (Int32.ofNat (off + 8))), .val (.ref b2), .val (.int (2 : Int32)), .val (.int (Int32.ofNat (off + 4))), .val (.int (Int32.ofNat (bf + 0))), .val (.int (Int32.ofNat (off + 0))), .unset, .unset] [(.int (Int32.ofNat (off + 3))), (.ref tx), (.int ((((vl (g 0)) <<< ((18 : Int32) &&& 31)) ||| ((vl (g 1)) <<< ((12 : Int32) &&& 31))) ||| ((vl (g 2)) <<< ((6 : Int32) &&& 31))))])
  refine Go.step (a_cload X8 hx hZ e8 f3 (k := (off + 3)) (Int32.toInt_ofNat_of_lt (by omega)) (by omega) (x := (g 3)) (hF 3 (by decide)) (hb hby d2_108)) ?_
  show Go _ _ _ _ _ _ _ T8 (mkF m 109 _ [(.int (g 3)), (.int ((((vl (g 0)) <<< ((18 : Int32) &&& 31)) ||| ((vl (g 1)) <<< ((12 : Int32) &&& 31))) ||| ((vl (g 2)) <<< ((6 : Int32) &&& 31))))])
  obtain ⟨v9, T9, L9, X9, q9, st9⟩ := c_static X8 hx hZ hown (y := (⟨"com/example/sharks/sharks/StandardBase64", "value", "(C)I"⟩ : MethodName)) (hw _ (List.mem_of_getElem? (i := 24) rfl)) (hw _ (List.mem_of_getElem? (i := 25) rfl)) (hw _ (List.mem_of_getElem? (i := 9) rfl)) (hw _ (List.mem_of_getElem? (i := 26) rfl)) (by decide) (argsL := [(.int (g 3))]) (rest := [(.int ((((vl (g 0)) <<< ((18 : Int32) &&& 31)) ||| ((vl (g 1)) <<< ((12 : Int32) &&& 31))) ||| ((vl (g 2)) <<< ((6 : Int32) &&& 31))))]) (rmVa l Z a0 hw [] va (g 3) h2 n0 Z2 (char_nn (hg 3 (by decide))).1 f5 f6) e8 pd_1 rfl (by rw [hml]; rfl) (W := 1) (by show 2 * 0 + _ ≤ _; exact Nat.le_of_eq rfl) (by decide) (by decide) (by decide) (by decide) (hb hby d2_109) (Ls := #[.val (.ref tx), .val (.int (Int32.ofNat off)), .val (.int (8 : Int32)), .val (.int (Int32.ofNat bf)), .val (.int (4 : Int32)), .val (.int (Int32.ofNat (off + 8))), .val (.ref b2), .val (.int (2 : Int32)), .val (.int (Int32.ofNat (off + 4))), .val (.int (Int32.ofNat (bf + 0))), .val (.int (Int32.ofNat (off + 0))), .unset, .unset])
  obtain ⟨rfl, rfl, e9⟩ := q9
  have N9 := Fr.app N8 (Fr.nil n0)
  refine Go.step (st9) ?_
  show Go _ _ _ _ _ _ _ T9 (mkF m 112 _ [(.int (vl (g 3))), (.int ((((vl (g 0)) <<< ((18 : Int32) &&& 31)) ||| ((vl (g 1)) <<< ((12 : Int32) &&& 31))) ||| ((vl (g 2)) <<< ((6 : Int32) &&& 31))))])
  refine Go.step (fun tt kk => XS.ior X9.here hx rfl (hb hby d2_112) rfl kk) ?_
  show Go _ _ _ _ _ _ _ T9 (mkF m 113 _ [(.int (((((vl (g 0)) <<< ((18 : Int32) &&& 31)) ||| ((vl (g 1)) <<< ((12 : Int32) &&& 31))) ||| ((vl (g 2)) <<< ((6 : Int32) &&& 31))) ||| (vl (g 3))))])
  refine Go.step (fun tt kk => XS.istore X9.here hx rfl (hb hby d2_113) rfl (l' := #[.val (.ref tx), .val (.int (Int32.ofNat off)), .val (.int (8 : Int32)), .val (.int (Int32.ofNat bf)), .val (.int (4 : Int32)), .val (.int (Int32.ofNat (off + 8))), .val (.ref b2), .val (.int (2 : Int32)), .val (.int (Int32.ofNat (off + 4))), .val (.int (Int32.ofNat (bf + 0))), .val (.int (Int32.ofNat (off + 0))), .val (.int (((((vl (g 0)) <<< ((18 : Int32) &&& 31)) ||| ((vl (g 1)) <<< ((12 : Int32) &&& 31))) ||| ((vl (g 2)) <<< ((6 : Int32) &&& 31))) ||| (vl (g 3)))), .unset]) rfl kk) ?_
  show Go _ _ _ _ _ _ _ T9 (mkF m 115 _ [])
  show Go _ _ _ _ _ _ _ T9 (mkF m 115 #[.val (.ref tx), .val (.int (Int32.ofNat off)), .val (.int (8 : Int32)), .val (.int (Int32.ofNat bf)), .val (.int (4 : Int32)), .val (.int (Int32.ofNat (off + 8))), .val (.ref b2), .val (.int (2 : Int32)), .val (.int (Int32.ofNat (off + 4))), .val (.int (Int32.ofNat (bf + 0))), .val (.int (Int32.ofNat (off + 0))), .val (.int (w4 g 0)), .unset] [])
  refine Go.step (fun tt kk => XS.iload X9.here hx rfl (hb hby d2_115) rfl kk) ?_
  show Go _ _ _ _ _ _ _ T9 (mkF m 117 _ [(.int (w4 g 0))])
  by_cases c117_10 : (w4 g 0) < (0 : Int32)
  · refine Go.step (fun tt kk => XS.ifNo X9.here hx rfl (hb hby d2_117) rfl ((if0 _ _).trans (tlt c117_10).2.1) kk) ?_
    show Go _ _ _ _ _ _ _ T9 (mkF m 120 _ [])
    refine Go.step (fun tt kk => XS.aconstNull X9.here hx rfl (hb hby d2_120) kk) ?_
    show Go _ _ _ _ _ _ _ T9 (mkF m 121 _ [.null])
    refine go_retA X9 hx (t := (.array .byte)) hret rfl hlk rfl (hb hby d2_121) ?_ (by decide) (by decide)
    try rw [e9]
    exact ⟨N9, eI ▸ K2, fun z => absurd z (fun z => ((own_w4 hg (by decide)).mp c117_10) z.1), fun _ => rfl⟩
  · refine Go.step (fun tt kk => XS.ifYes X9.here hx rfl (pc0 := 117) (pc' := 122) rfl (hb hby d2_117) rfl ((if0 _ _).trans (flt c117_10).2.1) (by decide) (by decide) kk) ?_
    show Go _ _ _ _ _ _ _ T9 (mkF m 122 _ [])
    have ok0 : OK4 g 0 := Classical.byContradiction fun z => c117_10 ((own_w4 hg (by decide)).mpr z)
    have by0 := own_q4 hg (by decide) ok0
    refine Go.step (fun tt kk => XS.aload X9.here hx rfl (hb hby d2_122) rfl rfl kk) ?_
    show Go _ _ _ _ _ _ _ T9 (mkF m 124 _ [(.ref b2)])
    refine Go.step (fun tt kk => XS.iload X9.here hx rfl (hb hby d2_124) rfl kk) ?_
    show Go _ _ _ _ _ _ _ T9 (mkF m 126 _ [(.int (Int32.ofNat (bf + 0))), (.ref b2)])
    refine Go.step (fun tt kk => XS.iload X9.here hx rfl (hb hby d2_126) rfl kk) ?_
    show Go _ _ _ _ _ _ _ T9 (mkF m 128 _ [(.int (w4 g 0)), (.int (Int32.ofNat (bf + 0))), (.ref b2)])
    refine Go.step (fun tt kk => XS.bipush X9.here hx rfl (hb hby d2_128) kk) ?_
    show Go _ _ _ _ _ _ _ T9 (mkF m 130 _ [(.int (16 : Int32)), (.int (w4 g 0)), (.int (Int32.ofNat (bf + 0))), (.ref b2)])
    refine Go.step (fun tt kk => XS.ishr X9.here hx rfl (hb hby d2_130) rfl kk) ?_
    show Go _ _ _ _ _ _ _ T9 (mkF m 131 _ [(.int ((w4 g 0) >>> ((16 : Int32) &&& 31))), (.int (Int32.ofNat (bf + 0))), (.ref b2)])
    refine Go.step (fun tt kk => XS.i2b X9.here hx rfl (hb hby d2_131) rfl kk) ?_
    show Go _ _ _ _ _ _ _ T9 (mkF m 132 _ [(.int (((w4 g 0) >>> ((16 : Int32) &&& 31)).toInt8.toInt32)), (.int (Int32.ofNat (bf + 0))), (.ref b2)])
    show Go _ _ _ _ _ _ _ T9 (mkF m 132 #[.val (.ref tx), .val (.int (Int32.ofNat off)), .val (.int (8 : Int32)), .val (.int (Int32.ofNat bf)), .val (.int (4 : Int32)), .val (.int (Int32.ofNat (off + 8))), .val (.ref b2), .val (.int (2 : Int32)), .val (.int (Int32.ofNat (off + 4))), .val (.int (Int32.ofNat (bf + 0))), .val (.int (Int32.ofNat (off + 0))), .val (.int (w4 g 0)), .unset] [(.int (((w4 g 0) >>> ((16 : Int32) &&& 31)).toInt8.toInt32)), (.int (Int32.ofNat (bf + 0))), (.ref b2)])
    obtain ⟨cl11, Ar11, hin11, -⟩ := V2.at (j := (Int32.ofNat (bf + 0))) (k := (bf + 0)) (Int32.toInt_ofNat_of_lt (by omega)) (by omega)
    obtain ⟨T11, h11, X11, e11, W11, st11⟩ := stB X9 hx hZ e9 Ar11 (j := (Int32.ofNat (bf + 0))) hin11 (g := (mkF m 132 #[.val (.ref tx), .val (.int (Int32.ofNat off)), .val (.int (8 : Int32)), .val (.int (Int32.ofNat bf)), .val (.int (4 : Int32)), .val (.int (Int32.ofNat (off + 8))), .val (.ref b2), .val (.int (2 : Int32)), .val (.int (Int32.ofNat (off + 4))), .val (.int (Int32.ofNat (bf + 0))), .val (.int (Int32.ofNat (off + 0))), .val (.int (w4 g 0)), .unset] [(.int (((w4 g 0) >>> ((16 : Int32) &&& 31)).toInt8.toInt32)), (.int (Int32.ofNat (bf + 0))), (.ref b2)])) rfl rfl (hb hby d2_132)
    rw [(own_nb _)] at W11
    have V11 : AV Z h11 b2 .byte (bf + 4) (upd (fun _ => (.int (0 : Int32))) (bf + 0) (.int (((w4 g 0) >>> ((16 : Int32) &&& 31)).toInt8.toInt32))) := AV.set V2 (k := (bf + 0)) (Int32.toInt_ofNat_of_lt (by omega)) (by omega) W11
    have N11 := Fr.snoc X11 N9 gn_b2
    have Z11 : n0 ≤ h11.size := Nat.le_trans Z2 (Keep.of_wr W11).1
    have K11 : Keep hI h11 [] := K2.wr W11 (Or.inr sz_b2)
    refine Go.step (st11) ?_
    show Go _ _ _ _ _ _ _ T11 (mkF m 133 _ [])
    refine Go.step (fun tt kk => XS.aload X11.here hx rfl (hb hby d2_133) rfl rfl kk) ?_
    show Go _ _ _ _ _ _ _ T11 (mkF m 135 _ [(.ref b2)])
    refine Go.step (fun tt kk => XS.iload X11.here hx rfl (hb hby d2_135) rfl kk) ?_
    show Go _ _ _ _ _ _ _ T11 (mkF m 137 _ [(.int (Int32.ofNat (bf + 0))), (.ref b2)])
    refine Go.step (fun tt kk => XS.iconst X11.here hx rfl (hb hby d2_137) kk) ?_
    show Go _ _ _ _ _ _ _ T11 (mkF m 138 _ [(.int (1 : Int32)), (.int (Int32.ofNat (bf + 0))), (.ref b2)])
    refine Go.step (fun tt kk => XS.iadd X11.here hx rfl (hb hby d2_138) rfl kk) ?_
    show Go _ _ _ _ _ _ _ T11 (mkF m 139 _ [(.int ((Int32.ofNat (bf + 0)) + (1 : Int32))), (.ref b2)])
    refine Go.step (fun tt kk => XS.iload X11.here hx rfl (hb hby d2_139) rfl kk) ?_
    show Go _ _ _ _ _ _ _ T11 (mkF m 141 _ [(.int (w4 g 0)), (.int ((Int32.ofNat (bf + 0)) + (1 : Int32))), (.ref b2)])
    refine Go.step (fun tt kk => XS.bipush X11.here hx rfl (hb hby d2_141) kk) ?_
    show Go _ _ _ _ _ _ _ T11 (mkF m 143 _ [(.int (8 : Int32)), (.int (w4 g 0)), (.int ((Int32.ofNat (bf + 0)) + (1 : Int32))), (.ref b2)])
    refine Go.step (fun tt kk => XS.ishr X11.here hx rfl (hb hby d2_143) rfl kk) ?_
    show Go _ _ _ _ _ _ _ T11 (mkF m 144 _ [(.int ((w4 g 0) >>> ((8 : Int32) &&& 31))), (.int ((Int32.ofNat (bf + 0)) + (1 : Int32))), (.ref b2)])
    refine Go.step (fun tt kk => XS.i2b X11.here hx rfl (hb hby d2_144) rfl kk) ?_
    show Go _ _ _ _ _ _ _ T11 (mkF m 145 _ [(.int (((w4 g 0) >>> ((8 : Int32) &&& 31)).toInt8.toInt32)), (.int ((Int32.ofNat (bf + 0)) + (1 : Int32))), (.ref b2)])
    rw [show Int32.ofNat (bf + 0) + (1 : Int32) = Int32.ofNat (bf + 1) from own_add (bf + 0) 1]
    show Go _ _ _ _ _ _ _ T11 (mkF m 145 #[.val (.ref tx), .val (.int (Int32.ofNat off)), .val (.int (8 : Int32)), .val (.int (Int32.ofNat bf)), .val (.int (4 : Int32)), .val (.int (Int32.ofNat (off + 8))), .val (.ref b2), .val (.int (2 : Int32)), .val (.int (Int32.ofNat (off + 4))), .val (.int (Int32.ofNat (bf + 0))), .val (.int (Int32.ofNat (off + 0))), .val (.int (w4 g 0)), .unset] [(.int (((w4 g 0) >>> ((8 : Int32) &&& 31)).toInt8.toInt32)), (.int (Int32.ofNat (bf + 1))), (.ref b2)])
    obtain ⟨cl12, Ar12, hin12, -⟩ := V11.at (j := (Int32.ofNat (bf + 1))) (k := (bf + 1)) (Int32.toInt_ofNat_of_lt (by omega)) (by omega)
    obtain ⟨T12, h12, X12, e12, W12, st12⟩ := stB X11 hx hZ e11 Ar12 (j := (Int32.ofNat (bf + 1))) hin12 (g := (mkF m 145 #[.val (.ref tx), .val (.int (Int32.ofNat off)), .val (.int (8 : Int32)), .val (.int (Int32.ofNat bf)), .val (.int (4 : Int32)), .val (.int (Int32.ofNat (off + 8))), .val (.ref b2), .val (.int (2 : Int32)), .val (.int (Int32.ofNat (off + 4))), .val (.int (Int32.ofNat (bf + 0))), .val (.int (Int32.ofNat (off + 0))), .val (.int (w4 g 0)), .unset] [(.int (((w4 g 0) >>> ((8 : Int32) &&& 31)).toInt8.toInt32)), (.int (Int32.ofNat (bf + 1))), (.ref b2)])) rfl rfl (hb hby d2_145)
    rw [(own_nb _)] at W12
    have V12 : AV Z h12 b2 .byte (bf + 4) (upd (upd (fun _ => (.int (0 : Int32))) (bf + 0) (.int (((w4 g 0) >>> ((16 : Int32) &&& 31)).toInt8.toInt32))) (bf + 1) (.int (((w4 g 0) >>> ((8 : Int32) &&& 31)).toInt8.toInt32))) := AV.set V11 (k := (bf + 1)) (Int32.toInt_ofNat_of_lt (by omega)) (by omega) W12
    have N12 := Fr.snoc X12 N11 gn_b2
    have Z12 : n0 ≤ h12.size := Nat.le_trans Z11 (Keep.of_wr W12).1
    have K12 : Keep hI h12 [] := K11.wr W12 (Or.inr sz_b2)
    refine Go.step (st12) ?_
    show Go _ _ _ _ _ _ _ T12 (mkF m 146 _ [])
    refine Go.step (fun tt kk => XS.aload X12.here hx rfl (hb hby d2_146) rfl rfl kk) ?_
    show Go _ _ _ _ _ _ _ T12 (mkF m 148 _ [(.ref b2)])
    refine Go.step (fun tt kk => XS.iload X12.here hx rfl (hb hby d2_148) rfl kk) ?_
    show Go _ _ _ _ _ _ _ T12 (mkF m 150 _ [(.int (Int32.ofNat (bf + 0))), (.ref b2)])
    refine Go.step (fun tt kk => XS.iconst X12.here hx rfl (hb hby d2_150) kk) ?_
    show Go _ _ _ _ _ _ _ T12 (mkF m 151 _ [(.int (2 : Int32)), (.int (Int32.ofNat (bf + 0))), (.ref b2)])
    refine Go.step (fun tt kk => XS.iadd X12.here hx rfl (hb hby d2_151) rfl kk) ?_
    show Go _ _ _ _ _ _ _ T12 (mkF m 152 _ [(.int ((Int32.ofNat (bf + 0)) + (2 : Int32))), (.ref b2)])
    refine Go.step (fun tt kk => XS.iload X12.here hx rfl (hb hby d2_152) rfl kk) ?_
    show Go _ _ _ _ _ _ _ T12 (mkF m 154 _ [(.int (w4 g 0)), (.int ((Int32.ofNat (bf + 0)) + (2 : Int32))), (.ref b2)])
    refine Go.step (fun tt kk => XS.i2b X12.here hx rfl (hb hby d2_154) rfl kk) ?_
    show Go _ _ _ _ _ _ _ T12 (mkF m 155 _ [(.int ((w4 g 0).toInt8.toInt32)), (.int ((Int32.ofNat (bf + 0)) + (2 : Int32))), (.ref b2)])
    rw [show Int32.ofNat (bf + 0) + (2 : Int32) = Int32.ofNat (bf + 2) from own_add (bf + 0) 2]
    show Go _ _ _ _ _ _ _ T12 (mkF m 155 #[.val (.ref tx), .val (.int (Int32.ofNat off)), .val (.int (8 : Int32)), .val (.int (Int32.ofNat bf)), .val (.int (4 : Int32)), .val (.int (Int32.ofNat (off + 8))), .val (.ref b2), .val (.int (2 : Int32)), .val (.int (Int32.ofNat (off + 4))), .val (.int (Int32.ofNat (bf + 0))), .val (.int (Int32.ofNat (off + 0))), .val (.int (w4 g 0)), .unset] [(.int (((w4 g 0)).toInt8.toInt32)), (.int (Int32.ofNat (bf + 2))), (.ref b2)])
    obtain ⟨cl13, Ar13, hin13, -⟩ := V12.at (j := (Int32.ofNat (bf + 2))) (k := (bf + 2)) (Int32.toInt_ofNat_of_lt (by omega)) (by omega)
    obtain ⟨T13, h13, X13, e13, W13, st13⟩ := stB X12 hx hZ e12 Ar13 (j := (Int32.ofNat (bf + 2))) hin13 (g := (mkF m 155 #[.val (.ref tx), .val (.int (Int32.ofNat off)), .val (.int (8 : Int32)), .val (.int (Int32.ofNat bf)), .val (.int (4 : Int32)), .val (.int (Int32.ofNat (off + 8))), .val (.ref b2), .val (.int (2 : Int32)), .val (.int (Int32.ofNat (off + 4))), .val (.int (Int32.ofNat (bf + 0))), .val (.int (Int32.ofNat (off + 0))), .val (.int (w4 g 0)), .unset] [(.int (((w4 g 0)).toInt8.toInt32)), (.int (Int32.ofNat (bf + 2))), (.ref b2)])) rfl rfl (hb hby d2_155)
    rw [(own_nb _)] at W13
    have V13 : AV Z h13 b2 .byte (bf + 4) (upd (upd (upd (fun _ => (.int (0 : Int32))) (bf + 0) (.int (((w4 g 0) >>> ((16 : Int32) &&& 31)).toInt8.toInt32))) (bf + 1) (.int (((w4 g 0) >>> ((8 : Int32) &&& 31)).toInt8.toInt32))) (bf + 2) (.int (((w4 g 0)).toInt8.toInt32))) := AV.set V12 (k := (bf + 2)) (Int32.toInt_ofNat_of_lt (by omega)) (by omega) W13
    have N13 := Fr.snoc X13 N12 gn_b2
    have Z13 : n0 ≤ h13.size := Nat.le_trans Z12 (Keep.of_wr W13).1
    have K13 : Keep hI h13 [] := K12.wr W13 (Or.inr sz_b2)
    refine Go.step (st13) ?_
    show Go _ _ _ _ _ _ _ T13 (mkF m 156 _ [])
    refine Go.step (fun tt kk => XS.iinc X13.here hx rfl (hb hby d2_156) rfl (l' := #[.val (.ref tx), .val (.int (Int32.ofNat off)), .val (.int (8 : Int32)), .val (.int (Int32.ofNat bf)), .val (.int (4 : Int32)), .val (.int (Int32.ofNat (off + 8))), .val (.ref b2), .val (.int (2 : Int32)), .val (.int (Int32.ofNat (off + 4))), .val (.int ((Int32.ofNat (bf + 0)) + (3 : Int32))), .val (.int (Int32.ofNat (off + 0))), .val (.int (w4 g 0)), .unset]) rfl kk) ?_
    show Go _ _ _ _ _ _ _ T13 (mkF m 159 _ [])
    refine Go.step (fun tt kk => XS.iinc X13.here hx rfl (hb hby d2_159) rfl (l' := #[.val (.ref tx), .val (.int (Int32.ofNat off)), .val (.int (8 : Int32)), .val (.int (Int32.ofNat bf)), .val (.int (4 : Int32)), .val (.int (Int32.ofNat (off + 8))), .val (.ref b2), .val (.int (2 : Int32)), .val (.int (Int32.ofNat (off + 4))), .val (.int ((Int32.ofNat (bf + 0)) + (3 : Int32))), .val (.int ((Int32.ofNat (off + 0)) + (4 : Int32))), .val (.int (w4 g 0)), .unset]) rfl kk) ?_
    show Go _ _ _ _ _ _ _ T13 (mkF m 162 _ [])
    refine Go.step (fun tt kk => XS.goto X13.here hx rfl (pc0 := 162) (pc' := 60) rfl (hb hby d2_162) (by decide) (by decide) kk) ?_
    show Go _ _ _ _ _ _ _ T13 (mkF m 60 _ [])
    rw [show ((Int32.ofNat (off + 0)) + (4 : Int32)) = Int32.ofNat (off + 4) from own_add off 4, show ((Int32.ofNat (bf + 0)) + (3 : Int32)) = Int32.ofNat (bf + 3) from own_add bf 3]
    show Go _ _ _ _ _ _ _ T13 (mkF m 60 #[.val (.ref tx), .val (.int (Int32.ofNat off)), .val (.int (8 : Int32)), .val (.int (Int32.ofNat bf)), .val (.int (4 : Int32)), .val (.int (Int32.ofNat (off + 8))), .val (.ref b2), .val (.int (2 : Int32)), .val (.int (Int32.ofNat (off + 4))), .val (.int (Int32.ofNat (bf + 3))), .val (.int (Int32.ofNat (off + 4))), .val (.int (w4 g 0)), .unset] [])
    refine Go.step (fun tt kk => XS.iload X13.here hx rfl (hb hby d2_60) rfl kk) ?_
    show Go _ _ _ _ _ _ _ T13 (mkF m 62 _ [(.int (Int32.ofNat (off + 4)))])
    refine Go.step (fun tt kk => XS.iload X13.here hx rfl (hb hby d2_62) rfl kk) ?_
    show Go _ _ _ _ _ _ _ T13 (mkF m 64 _ [(.int (Int32.ofNat (off + 4))), (.int (Int32.ofNat (off + 4)))])
    refine Go.step (fun tt kk => XS.icmpYes X13.here hx rfl (pc0 := 64) (pc' := 165) rfl (hb hby d2_64) rfl (flt (mt (own_lt _ _ (by omega) (by omega)).mp (by omega))).2.1 (by decide) (by decide) kk) ?_
    show Go _ _ _ _ _ _ _ T13 (mkF m 165 _ [])
    refine Go.step (fun tt kk => XS.iload X13.here hx rfl (hb hby d2_165) rfl kk) ?_
    show Go _ _ _ _ _ _ _ T13 (mkF m 167 _ [(.int (2 : Int32))])
    refine Go.step (fun tt kk => XS.ifYes X13.here hx rfl (pc0 := 167) (pc' := 173) rfl (hb hby d2_167) rfl ((if0 _ _).trans (feq (by decide)).2) (by decide) (by decide) kk) ?_
    show Go _ _ _ _ _ _ _ T13 (mkF m 173 _ [])
    refine Go.step (fun tt kk => XS.iload X13.here hx rfl (hb hby d2_173) rfl kk) ?_
    show Go _ _ _ _ _ _ _ T13 (mkF m 175 _ [(.int (2 : Int32))])
    refine Go.step (fun tt kk => XS.iconst X13.here hx rfl (hb hby d2_175) kk) ?_
    show Go _ _ _ _ _ _ _ T13 (mkF m 176 _ [(.int (1 : Int32)), (.int (2 : Int32))])
    refine Go.step (fun tt kk => XS.icmpYes X13.here hx rfl (pc0 := 176) (pc' := 191) rfl (hb hby d2_176) rfl (feq (by decide)).2 (by decide) (by decide) kk) ?_
    show Go _ _ _ _ _ _ _ T13 (mkF m 191 _ [])
    refine Go.step (fun tt kk => XS.iconst X13.here hx rfl (hb hby d2_191) kk) ?_
    show Go _ _ _ _ _ _ _ T13 (mkF m 192 _ [(.int (0 : Int32))])
    refine Go.step (fun tt kk => XS.istore X13.here hx rfl (hb hby d2_192) rfl (l' := #[.val (.ref tx), .val (.int (Int32.ofNat off)), .val (.int (8 : Int32)), .val (.int (Int32.ofNat bf)), .val (.int (4 : Int32)), .val (.int (Int32.ofNat (off + 8))), .val (.ref b2), .val (.int (2 : Int32)), .val (.int (Int32.ofNat (off + 4))), .val (.int (Int32.ofNat (bf + 3))), .val (.int (0 : Int32)), .val (.int (w4 g 0)), .unset]) rfl kk) ?_
    show Go _ _ _ _ _ _ _ T13 (mkF m 194 _ [])
    refine Go.step (fun tt kk => XS.aloadN X13.here hx rfl (hb hby d2_194) rfl rfl kk) ?_
    show Go _ _ _ _ _ _ _ T13 (mkF m 195 _ [(.ref tx)])
    refine Go.step (fun tt kk => XS.iload X13.here hx rfl (hb hby d2_195) rfl kk) ?_
    show Go _ _ _ _ _ _ _ T13 (mkF m 197 _ [(.int (Int32.ofNat (off + 4))), (.ref tx)])
    have f14 := (((f3.other W11 ne_tx_b2).other W12 ne_tx_b2).other W13 ne_tx_b2)
    refine Go.step (a_cload X13 hx hZ e13 f14 (k := (off + 4)) (Int32.toInt_ofNat_of_lt (by omega)) (by omega) (x := (g 4)) (hF 4 (by decide)) (hb hby d2_197)) ?_
    show Go _ _ _ _ _ _ _ T13 (mkF m 198 _ [(.int (g 4))])
    have f16 := (Sta.wr W13 (Sta.wr W12 (Sta.wr W11 f5)))
    have f17 := (((f6.other W11 ne_va_b2).other W12 ne_va_b2).other W13 ne_va_b2)
    obtain ⟨v15, T15, L15, X15, q15, st15⟩ := c_static X13 hx hZ hown (y := (⟨"com/example/sharks/sharks/StandardBase64", "value", "(C)I"⟩ : MethodName)) (hw _ (List.mem_of_getElem? (i := 24) rfl)) (hw _ (List.mem_of_getElem? (i := 25) rfl)) (hw _ (List.mem_of_getElem? (i := 9) rfl)) (hw _ (List.mem_of_getElem? (i := 26) rfl)) (by decide) (argsL := [(.int (g 4))]) (rest := []) (rmVa l Z a0 hw [] va (g 4) h13 n0 Z13 (char_nn (hg 4 (by decide))).1 f16 f17) e13 pd_1 rfl (by rw [hml]; rfl) (W := 0) (by show 2 * 0 + _ ≤ _; exact Nat.le_of_eq rfl) (by decide) (by decide) (by decide) (by decide) (hb hby d2_198) (Ls := #[.val (.ref tx), .val (.int (Int32.ofNat off)), .val (.int (8 : Int32)), .val (.int (Int32.ofNat bf)), .val (.int (4 : Int32)), .val (.int (Int32.ofNat (off + 8))), .val (.ref b2), .val (.int (2 : Int32)), .val (.int (Int32.ofNat (off + 4))), .val (.int (Int32.ofNat (bf + 3))), .val (.int (0 : Int32)), .val (.int (w4 g 0)), .unset])
    obtain ⟨rfl, rfl, e15⟩ := q15
    have N15 := Fr.app N13 (Fr.nil n0)
    refine Go.step (st15) ?_
    show Go _ _ _ _ _ _ _ T15 (mkF m 201 _ [(.int (vl (g 4)))])
    refine Go.step (fun tt kk => XS.bipush X15.here hx rfl (hb hby d2_201) kk) ?_
    show Go _ _ _ _ _ _ _ T15 (mkF m 203 _ [(.int (18 : Int32)), (.int (vl (g 4)))])
    refine Go.step (fun tt kk => XS.ishl X15.here hx rfl (hb hby d2_203) rfl kk) ?_
    show Go _ _ _ _ _ _ _ T15 (mkF m 204 _ [(.int ((vl (g 4)) <<< ((18 : Int32) &&& 31)))])
    refine Go.step (fun tt kk => XS.aloadN X15.here hx rfl (hb hby d2_204) rfl rfl kk) ?_
    show Go _ _ _ _ _ _ _ T15 (mkF m 205 _ [(.ref tx), (.int ((vl (g 4)) <<< ((18 : Int32) &&& 31)))])
    refine Go.step (fun tt kk => XS.iload X15.here hx rfl (hb hby d2_205) rfl kk) ?_
    show Go _ _ _ _ _ _ _ T15 (mkF m 207 _ [(.int (Int32.ofNat (off + 4))), (.ref tx), (.int ((vl (g 4)) <<< ((18 : Int32) &&& 31)))])
    refine Go.step (fun tt kk => XS.iconst X15.here hx rfl (hb hby d2_207) kk) ?_
    show Go _ _ _ _ _ _ _ T15 (mkF m 208 _ [(.int (1 : Int32)), (.int (Int32.ofNat (off + 4))), (.ref tx), (.int ((vl (g 4)) <<< ((18 : Int32) &&& 31)))])
    refine Go.step (fun tt kk => XS.iadd X15.here hx rfl (hb hby d2_208) rfl kk) ?_
    show Go _ _ _ _ _ _ _ T15 (mkF m 209 _ [(.int ((Int32.ofNat (off + 4)) + (1 : Int32))), (.ref tx), (.int ((vl (g 4)) <<< ((18 : Int32) &&& 31)))])
    rw [show Int32.ofNat (off + 4) + (1 : Int32) = Int32.ofNat (off + 5) from own_add (off + 4) 1]
    show Go _ _ _ _ _ _ _ T15 (mkF m 209 #[.val (.ref tx), .val (.int (Int32.ofNat off)), .val (.int (8 : Int32)), .val (.int (Int32.ofNat bf)), .val (.int (4 : Int32)), .val (.int (Int32.ofNat (off + 8))), .val (.ref b2), .val (.int (2 : Int32)), .val (.int (Int32.ofNat (off + 4))), .val (.int (Int32.ofNat (bf + 3))), .val (.int (0 : Int32)), .val (.int (w4 g 0)), .unset] [(.int (Int32.ofNat (off + 5))), (.ref tx), (.int ((vl (g 4)) <<< ((18 : Int32) &&& 31)))])
    refine Go.step (a_cload X15 hx hZ e15 f14 (k := (off + 5)) (Int32.toInt_ofNat_of_lt (by omega)) (by omega) (x := (g 5)) (hF 5 (by decide)) (hb hby d2_209)) ?_
    show Go _ _ _ _ _ _ _ T15 (mkF m 210 _ [(.int (g 5)), (.int ((vl (g 4)) <<< ((18 : Int32) &&& 31)))])
    obtain ⟨v18, T18, L18, X18, q18, st18⟩ := c_static X15 hx hZ hown (y := (⟨"com/example/sharks/sharks/StandardBase64", "value", "(C)I"⟩ : MethodName)) (hw _ (List.mem_of_getElem? (i := 24) rfl)) (hw _ (List.mem_of_getElem? (i := 25) rfl)) (hw _ (List.mem_of_getElem? (i := 9) rfl)) (hw _ (List.mem_of_getElem? (i := 26) rfl)) (by decide) (argsL := [(.int (g 5))]) (rest := [(.int ((vl (g 4)) <<< ((18 : Int32) &&& 31)))]) (rmVa l Z a0 hw [] va (g 5) h13 n0 Z13 (char_nn (hg 5 (by decide))).1 f16 f17) e15 pd_1 rfl (by rw [hml]; rfl) (W := 1) (by show 2 * 0 + _ ≤ _; exact Nat.le_of_eq rfl) (by decide) (by decide) (by decide) (by decide) (hb hby d2_210) (Ls := #[.val (.ref tx), .val (.int (Int32.ofNat off)), .val (.int (8 : Int32)), .val (.int (Int32.ofNat bf)), .val (.int (4 : Int32)), .val (.int (Int32.ofNat (off + 8))), .val (.ref b2), .val (.int (2 : Int32)), .val (.int (Int32.ofNat (off + 4))), .val (.int (Int32.ofNat (bf + 3))), .val (.int (0 : Int32)), .val (.int (w4 g 0)), .unset])
    obtain ⟨rfl, rfl, e18⟩ := q18
    have N18 := Fr.app N15 (Fr.nil n0)
    refine Go.step (st18) ?_
    show Go _ _ _ _ _ _ _ T18 (mkF m 213 _ [(.int (vl (g 5))), (.int ((vl (g 4)) <<< ((18 : Int32) &&& 31)))])
    refine Go.step (fun tt kk => XS.bipush X18.here hx rfl (hb hby d2_213) kk) ?_
    show Go _ _ _ _ _ _ _ T18 (mkF m 215 _ [(.int (12 : Int32)), (.int (vl (g 5))), (.int ((vl (g 4)) <<< ((18 : Int32) &&& 31)))])
    refine Go.step (fun tt kk => XS.ishl X18.here hx rfl (hb hby d2_215) rfl kk) ?_
    show Go _ _ _ _ _ _ _ T18 (mkF m 216 _ [(.int ((vl (g 5)) <<< ((12 : Int32) &&& 31))), (.int ((vl (g 4)) <<< ((18 : Int32) &&& 31)))])
    refine Go.step (fun tt kk => XS.ior X18.here hx rfl (hb hby d2_216) rfl kk) ?_
    show Go _ _ _ _ _ _ _ T18 (mkF m 217 _ [(.int (((vl (g 4)) <<< ((18 : Int32) &&& 31)) ||| ((vl (g 5)) <<< ((12 : Int32) &&& 31))))])
    refine Go.step (fun tt kk => XS.iload X18.here hx rfl (hb hby d2_217) rfl kk) ?_
    show Go _ _ _ _ _ _ _ T18 (mkF m 219 _ [(.int (0 : Int32)), (.int (((vl (g 4)) <<< ((18 : Int32) &&& 31)) ||| ((vl (g 5)) <<< ((12 : Int32) &&& 31))))])
    refine Go.step (fun tt kk => XS.bipush X18.here hx rfl (hb hby d2_219) kk) ?_
    show Go _ _ _ _ _ _ _ T18 (mkF m 221 _ [(.int (6 : Int32)), (.int (0 : Int32)), (.int (((vl (g 4)) <<< ((18 : Int32) &&& 31)) ||| ((vl (g 5)) <<< ((12 : Int32) &&& 31))))])
    refine Go.step (fun tt kk => XS.ishl X18.here hx rfl (hb hby d2_221) rfl kk) ?_
    show Go _ _ _ _ _ _ _ T18 (mkF m 222 _ [(.int ((0 : Int32) <<< ((6 : Int32) &&& 31))), (.int (((vl (g 4)) <<< ((18 : Int32) &&& 31)) ||| ((vl (g 5)) <<< ((12 : Int32) &&& 31))))])
    refine Go.step (fun tt kk => XS.ior X18.here hx rfl (hb hby d2_222) rfl kk) ?_
    show Go _ _ _ _ _ _ _ T18 (mkF m 223 _ [(.int ((((vl (g 4)) <<< ((18 : Int32) &&& 31)) ||| ((vl (g 5)) <<< ((12 : Int32) &&& 31))) ||| ((0 : Int32) <<< ((6 : Int32) &&& 31))))])
    refine Go.step (fun tt kk => XS.istore X18.here hx rfl (hb hby d2_223) rfl (l' := #[.val (.ref tx), .val (.int (Int32.ofNat off)), .val (.int (8 : Int32)), .val (.int (Int32.ofNat bf)), .val (.int (4 : Int32)), .val (.int (Int32.ofNat (off + 8))), .val (.ref b2), .val (.int (2 : Int32)), .val (.int (Int32.ofNat (off + 4))), .val (.int (Int32.ofNat (bf + 3))), .val (.int (0 : Int32)), .val (.int ((((vl (g 4)) <<< ((18 : Int32) &&& 31)) ||| ((vl (g 5)) <<< ((12 : Int32) &&& 31))) ||| ((0 : Int32) <<< ((6 : Int32) &&& 31)))), .unset]) rfl kk) ?_
    show Go _ _ _ _ _ _ _ T18 (mkF m 225 _ [])
    show Go _ _ _ _ _ _ _ T18 (mkF m 225 #[.val (.ref tx), .val (.int (Int32.ofNat off)), .val (.int (8 : Int32)), .val (.int (Int32.ofNat bf)), .val (.int (4 : Int32)), .val (.int (Int32.ofNat (off + 8))), .val (.ref b2), .val (.int (2 : Int32)), .val (.int (Int32.ofNat (off + 4))), .val (.int (Int32.ofNat (bf + 3))), .val (.int (0 : Int32)), .val (.int (nt (vl (g 4)) (vl (g 5)) (0 : Int32))), .unset] [])
    refine Go.step (fun tt kk => XS.iload X18.here hx rfl (hb hby d2_225) rfl kk) ?_
    show Go _ _ _ _ _ _ _ T18 (mkF m 227 _ [(.int (2 : Int32))])
    refine Go.step (fun tt kk => XS.iconst X18.here hx rfl (hb hby d2_227) kk) ?_
    show Go _ _ _ _ _ _ _ T18 (mkF m 228 _ [(.int (1 : Int32)), (.int (2 : Int32))])
    refine Go.step (fun tt kk => XS.icmpYes X18.here hx rfl (pc0 := 228) (pc' := 237) rfl (hb hby d2_228) rfl (feq (by decide)).2 (by decide) (by decide) kk) ?_
    show Go _ _ _ _ _ _ _ T18 (mkF m 237 _ [])
    refine Go.step (X18.ldcInt hx hown (mvT hZ (hw _ (List.mem_of_getElem? (i := 35) rfl))) (g := (mkF m 237 #[.val (.ref tx), .val (.int (Int32.ofNat off)), .val (.int (8 : Int32)), .val (.int (Int32.ofNat bf)), .val (.int (4 : Int32)), .val (.int (Int32.ofNat (off + 8))), .val (.ref b2), .val (.int (2 : Int32)), .val (.int (Int32.ofNat (off + 4))), .val (.int (Int32.ofNat (bf + 3))), .val (.int (0 : Int32)), .val (.int (nt (vl (g 4)) (vl (g 5)) (0 : Int32))), .unset] [])) rfl (hb hby d2_237)) ?_
    show Go _ _ _ _ _ _ _ T18 (mkF m 239 _ [(.int (65535 : Int32))])
    refine Go.step (fun tt kk => XS.istore X18.here hx rfl (hb hby d2_239) rfl (l' := #[.val (.ref tx), .val (.int (Int32.ofNat off)), .val (.int (8 : Int32)), .val (.int (Int32.ofNat bf)), .val (.int (4 : Int32)), .val (.int (Int32.ofNat (off + 8))), .val (.ref b2), .val (.int (2 : Int32)), .val (.int (Int32.ofNat (off + 4))), .val (.int (Int32.ofNat (bf + 3))), .val (.int (0 : Int32)), .val (.int (nt (vl (g 4)) (vl (g 5)) (0 : Int32))), .val (.int (65535 : Int32))]) rfl kk) ?_
    show Go _ _ _ _ _ _ _ T18 (mkF m 241 _ [])
    refine Go.step (fun tt kk => XS.iload X18.here hx rfl (hb hby d2_241) rfl kk) ?_
    show Go _ _ _ _ _ _ _ T18 (mkF m 243 _ [(.int (nt (vl (g 4)) (vl (g 5)) (0 : Int32)))])
    by_cases c243_19 : (nt (vl (g 4)) (vl (g 5)) (0 : Int32)) < (0 : Int32)
    · refine Go.step (fun tt kk => XS.ifYes X18.here hx rfl (pc0 := 243) (pc' := 254) rfl (hb hby d2_243) rfl ((if0 _ _).trans (tlt c243_19).1) (by decide) (by decide) kk) ?_
      show Go _ _ _ _ _ _ _ T18 (mkF m 254 _ [])
      refine Go.step (fun tt kk => XS.aconstNull X18.here hx rfl (hb hby d2_254) kk) ?_
      show Go _ _ _ _ _ _ _ T18 (mkF m 255 _ [.null])
      refine go_retA X18 hx (t := (.array .byte)) hret rfl hlk rfl (hb hby d2_255) ?_ (by decide) (by decide)
      try rw [e18]
      exact ⟨N18, eI ▸ K13, fun z => absurd z (fun z => (fun z => (mt (own_p2 hg (by decide)).mpr (fun y => y.1 c243_19)) z) z.2), fun _ => rfl⟩
    · refine Go.step (fun tt kk => XS.ifNo X18.here hx rfl (hb hby d2_243) rfl ((if0 _ _).trans (flt c243_19).1) kk) ?_
      show Go _ _ _ _ _ _ _ T18 (mkF m 246 _ [])
      refine Go.step (fun tt kk => XS.iload X18.here hx rfl (hb hby d2_246) rfl kk) ?_
      show Go _ _ _ _ _ _ _ T18 (mkF m 248 _ [(.int (nt (vl (g 4)) (vl (g 5)) (0 : Int32)))])
      refine Go.step (fun tt kk => XS.iload X18.here hx rfl (hb hby d2_248) rfl kk) ?_
      show Go _ _ _ _ _ _ _ T18 (mkF m 250 _ [(.int (65535 : Int32)), (.int (nt (vl (g 4)) (vl (g 5)) (0 : Int32)))])
      refine Go.step (fun tt kk => XS.iand X18.here hx rfl (hb hby d2_250) rfl kk) ?_
      show Go _ _ _ _ _ _ _ T18 (mkF m 251 _ [(.int ((nt (vl (g 4)) (vl (g 5)) (0 : Int32)) &&& (65535 : Int32)))])
      by_cases c251_20 : ((nt (vl (g 4)) (vl (g 5)) (0 : Int32)) &&& (65535 : Int32)) = (0 : Int32)
      · refine Go.step (fun tt kk => XS.ifYes X18.here hx rfl (pc0 := 251) (pc' := 256) rfl (hb hby d2_251) rfl ((if0 _ _).trans (teq c251_20).1) (by decide) (by decide) kk) ?_
        show Go _ _ _ _ _ _ _ T18 (mkF m 256 _ [])
        have okp : OK2 g 4 := (own_p2 hg (by decide)).mp ⟨c243_19, c251_20⟩
        have byp := own_q2 hg (by decide) okp
        refine Go.step (fun tt kk => XS.aload X18.here hx rfl (hb hby d2_256) rfl rfl kk) ?_
        show Go _ _ _ _ _ _ _ T18 (mkF m 258 _ [(.ref b2)])
        refine Go.step (fun tt kk => XS.iload X18.here hx rfl (hb hby d2_258) rfl kk) ?_
        show Go _ _ _ _ _ _ _ T18 (mkF m 260 _ [(.int (Int32.ofNat (bf + 3))), (.ref b2)])
        refine Go.step (fun tt kk => XS.iload X18.here hx rfl (hb hby d2_260) rfl kk) ?_
        show Go _ _ _ _ _ _ _ T18 (mkF m 262 _ [(.int (nt (vl (g 4)) (vl (g 5)) (0 : Int32))), (.int (Int32.ofNat (bf + 3))), (.ref b2)])
        refine Go.step (fun tt kk => XS.bipush X18.here hx rfl (hb hby d2_262) kk) ?_
        show Go _ _ _ _ _ _ _ T18 (mkF m 264 _ [(.int (16 : Int32)), (.int (nt (vl (g 4)) (vl (g 5)) (0 : Int32))), (.int (Int32.ofNat (bf + 3))), (.ref b2)])
        refine Go.step (fun tt kk => XS.ishr X18.here hx rfl (hb hby d2_264) rfl kk) ?_
        show Go _ _ _ _ _ _ _ T18 (mkF m 265 _ [(.int ((nt (vl (g 4)) (vl (g 5)) (0 : Int32)) >>> ((16 : Int32) &&& 31))), (.int (Int32.ofNat (bf + 3))), (.ref b2)])
        refine Go.step (fun tt kk => XS.i2b X18.here hx rfl (hb hby d2_265) rfl kk) ?_
        show Go _ _ _ _ _ _ _ T18 (mkF m 266 _ [(.int (((nt (vl (g 4)) (vl (g 5)) (0 : Int32)) >>> ((16 : Int32) &&& 31)).toInt8.toInt32)), (.int (Int32.ofNat (bf + 3))), (.ref b2)])
        show Go _ _ _ _ _ _ _ T18 (mkF m 266 #[.val (.ref tx), .val (.int (Int32.ofNat off)), .val (.int (8 : Int32)), .val (.int (Int32.ofNat bf)), .val (.int (4 : Int32)), .val (.int (Int32.ofNat (off + 8))), .val (.ref b2), .val (.int (2 : Int32)), .val (.int (Int32.ofNat (off + 4))), .val (.int (Int32.ofNat (bf + 3))), .val (.int (0 : Int32)), .val (.int (nt (vl (g 4)) (vl (g 5)) (0 : Int32))), .val (.int (65535 : Int32))] [(.int (((nt (vl (g 4)) (vl (g 5)) (0 : Int32)) >>> ((16 : Int32) &&& 31)).toInt8.toInt32)), (.int (Int32.ofNat (bf + 3))), (.ref b2)])
        obtain ⟨cl21, Ar21, hin21, -⟩ := V13.at (j := (Int32.ofNat (bf + 3))) (k := (bf + 3)) (Int32.toInt_ofNat_of_lt (by omega)) (by omega)
        obtain ⟨T21, h21, X21, e21, W21, st21⟩ := stB X18 hx hZ e18 Ar21 (j := (Int32.ofNat (bf + 3))) hin21 (g := (mkF m 266 #[.val (.ref tx), .val (.int (Int32.ofNat off)), .val (.int (8 : Int32)), .val (.int (Int32.ofNat bf)), .val (.int (4 : Int32)), .val (.int (Int32.ofNat (off + 8))), .val (.ref b2), .val (.int (2 : Int32)), .val (.int (Int32.ofNat (off + 4))), .val (.int (Int32.ofNat (bf + 3))), .val (.int (0 : Int32)), .val (.int (nt (vl (g 4)) (vl (g 5)) (0 : Int32))), .val (.int (65535 : Int32))] [(.int (((nt (vl (g 4)) (vl (g 5)) (0 : Int32)) >>> ((16 : Int32) &&& 31)).toInt8.toInt32)), (.int (Int32.ofNat (bf + 3))), (.ref b2)])) rfl rfl (hb hby d2_266)
        rw [(own_nb _)] at W21
        have V21 : AV Z h21 b2 .byte (bf + 4) (upd (upd (upd (upd (fun _ => (.int (0 : Int32))) (bf + 0) (.int (((w4 g 0) >>> ((16 : Int32) &&& 31)).toInt8.toInt32))) (bf + 1) (.int (((w4 g 0) >>> ((8 : Int32) &&& 31)).toInt8.toInt32))) (bf + 2) (.int (((w4 g 0)).toInt8.toInt32))) (bf + 3) (.int (((nt (vl (g 4)) (vl (g 5)) (0 : Int32)) >>> ((16 : Int32) &&& 31)).toInt8.toInt32))) := AV.set V13 (k := (bf + 3)) (Int32.toInt_ofNat_of_lt (by omega)) (by omega) W21
        have N21 := Fr.snoc X21 N18 gn_b2
        have Z21 : n0 ≤ h21.size := Nat.le_trans Z13 (Keep.of_wr W21).1
        have K21 : Keep hI h21 [] := K13.wr W21 (Or.inr sz_b2)
        refine Go.step (st21) ?_
        show Go _ _ _ _ _ _ _ T21 (mkF m 267 _ [])
        refine Go.step (fun tt kk => XS.iload X21.here hx rfl (hb hby d2_267) rfl kk) ?_
        show Go _ _ _ _ _ _ _ T21 (mkF m 269 _ [(.int (2 : Int32))])
        refine Go.step (fun tt kk => XS.iconst X21.here hx rfl (hb hby d2_269) kk) ?_
        show Go _ _ _ _ _ _ _ T21 (mkF m 270 _ [(.int (1 : Int32)), (.int (2 : Int32))])
        refine Go.step (fun tt kk => XS.icmpYes X21.here hx rfl (pc0 := 270) (pc' := 286) rfl (hb hby d2_270) rfl (feq (by decide)).2 (by decide) (by decide) kk) ?_
        show Go _ _ _ _ _ _ _ T21 (mkF m 286 _ [])
        refine Go.step (fun tt kk => XS.aload X21.here hx rfl (hb hby d2_286) rfl rfl kk) ?_
        show Go _ _ _ _ _ _ _ T21 (mkF m 288 _ [(.ref b2)])
        have V22 : AV Z h21 b2 .byte (bf + 4) (gv (exI g bf)) := V21.congr fun i hi => by
          by_cases q : i < bf
          · rw [show gv (exI g bf) i = .int 0 from congrArg Value.int (exI_lt q)]
            rw [upd_ne (by omega), upd_ne (by omega), upd_ne (by omega), upd_ne (by omega)]
          · obtain ⟨j, rfl⟩ : ∃ j, i = bf + j := ⟨i - bf, by omega⟩
            rw [show gv (exI g bf) (bf + j) = .int (bt g (j / 3) (j % 3)) from congrArg Value.int (exI_at j)]
            rcases (by omega : j = 0 ∨ j = 1 ∨ j = 2 ∨ j = 3) with rfl | rfl | rfl | rfl
            · rw [upd_ne (by omega), upd_ne (by omega), upd_ne (by omega), upd_at (by omega)]; exact congrArg Value.int by0.1
            · rw [upd_ne (by omega), upd_ne (by omega), upd_at (by omega)]; exact congrArg Value.int by0.2.1
            · rw [upd_ne (by omega), upd_at (by omega)]; exact congrArg Value.int by0.2.2
            · rw [upd_at (by omega)]; exact congrArg Value.int byp
        refine go_retA X21 hx (t := (.array .byte)) hret rfl hlk rfl (hb hby d2_288) ?_ (by decide) (by decide)
        try rw [e21]
        exact ⟨N21, eI ▸ K21, fun _ => ⟨b2, rfl, eI ▸ sz_b2, V22⟩, fun z => absurd ⟨ok0, okp⟩ z⟩
      · refine Go.step (fun tt kk => XS.ifNo X18.here hx rfl (hb hby d2_251) rfl ((if0 _ _).trans (feq c251_20).1) kk) ?_
        show Go _ _ _ _ _ _ _ T18 (mkF m 254 _ [])
        refine Go.step (fun tt kk => XS.aconstNull X18.here hx rfl (hb hby d2_254) kk) ?_
        show Go _ _ _ _ _ _ _ T18 (mkF m 255 _ [.null])
        refine go_retA X18 hx (t := (.array .byte)) hret rfl hlk rfl (hb hby d2_255) ?_ (by decide) (by decide)
        try rw [e18]
        exact ⟨N18, eI ▸ K13, fun z => absurd z (fun z => (fun z => (mt (own_p2 hg (by decide)).mpr (fun y => c251_20 y.2)) z) z.2), fun _ => rfl⟩
theorem ef_rmDcM (m : MethodId) (x0 : Addr) (x1 : Int32) (x2 : Int32) (x3 : Int32) : entryFrame m #[(.ref x0), (.int x1), (.int x2), (.int x3)] 13 = mkF m 0 #[.val (.ref x0), .val (.int x1), .val (.int x2), .val (.int x3), .unset, .unset, .unset, .unset, .unset, .unset, .unset, .unset, .unset] [] := by first | (simp [entryFrame, mkF, argsToLocals, Value.category]; done) | rfl
theorem d2_13 : decode prog_9_method_2_code 13 = .ok (.aconst_null, 1) := by decide +kernel
theorem d2_14 : decode prog_9_method_2_code 14 = .ok (.areturn, 1) := by decide +kernel
set_option maxRecDepth 65536 in
set_option maxHeartbeats 40000000 in
theorem rmDcM (l : Launch) (Z : State) (a0 : Array Value) (hw : ∀ d ∈ tables_1, d.before a0 Z = true) (ws : List Jvm.Cond) (tx : Addr) (y x z : Int32) (h0 : Heap) (n0 : Nat) (Z0 : n0 ≤ h0.size) (hm : ¬ (x % (4 : Int32)) = (0 : Int32)) :
    Ctr l Z (⟨"com/example/sharks/sharks/StandardBase64", "decode", "([CIII)[B"⟩ : MethodName) prog_9_method_2_code 13 (some (.array .byte)) ws ({ frames := 1, cells := 0, slots := 0, locals := 16 } : Room) 0 0 #[(.ref tx), (.int y), (.int x), (.int z)] h0 (fun v h L => v = some .null ∧ L = [] ∧ h = h0) := by
  refine Ctr.mk (plainFor_of_name pn_1) fun p e s m below meth c T0 X0 C e0 => go_cast (ef_rmDcM m tx y x z) ?_
  have N0 := Fr.nil n0
  obtain ⟨hx, hZ, hby, hml, hown, hnm, hret, hlk⟩ := C
  show Go _ _ _ _ _ _ _ T0 (mkF m 0 #[.val (.ref tx), .val (.int y), .val (.int x), .val (.int z), .unset, .unset, .unset, .unset, .unset, .unset, .unset, .unset, .unset] [])
  refine Go.step (fun tt kk => XS.aloadN X0.here hx rfl (hb hby d2_0) rfl rfl kk) ?_
  show Go _ _ _ _ _ _ _ T0 (mkF m 1 _ [(.ref tx)])
  refine Go.step (fun tt kk => XS.iloadN X0.here hx rfl (hb hby d2_1) rfl kk) ?_
  show Go _ _ _ _ _ _ _ T0 (mkF m 2 _ [(.int y), (.ref tx)])
  refine Go.step (fun tt kk => XS.iloadN X0.here hx rfl (hb hby d2_2) rfl kk) ?_
  show Go _ _ _ _ _ _ _ T0 (mkF m 3 _ [(.int x), (.int y), (.ref tx)])
  obtain ⟨v1, T1, L1, X1, q1, st1⟩ := c_static X0 hx hZ hown (y := (⟨"com/example/sharks/sharks/StandardBase64", "decodedLength", "([CII)I"⟩ : MethodName)) (hw _ (List.mem_of_getElem? (i := 11) rfl)) (hw _ (List.mem_of_getElem? (i := 12) rfl)) (hw _ (List.mem_of_getElem? (i := 9) rfl)) (hw _ (List.mem_of_getElem? (i := 13) rfl)) (by decide) (argsL := [(.ref tx), (.int y), (.int x)]) (rest := []) (rmD1 l Z a0 hw [] tx y x h0 n0 Z0 hm) e0 pd_0 rfl (by rw [hml]; rfl) (W := 0) (by show 2 * 0 + _ ≤ _; exact Nat.le_of_eq rfl) (by decide) (by decide) (by decide) (by decide) (hb hby d2_3) (Ls := #[.val (.ref tx), .val (.int y), .val (.int x), .val (.int z), .unset, .unset, .unset, .unset, .unset, .unset, .unset, .unset, .unset])
  obtain ⟨rfl, rfl, e1⟩ := q1
  have N1 := Fr.app N0 (Fr.nil n0)
  refine Go.step (st1) ?_
  show Go _ _ _ _ _ _ _ T1 (mkF m 6 _ [(.int (-1 : Int32))])
  refine Go.step (fun tt kk => XS.istore X1.here hx rfl (hb hby d2_6) rfl (l' := #[.val (.ref tx), .val (.int y), .val (.int x), .val (.int z), .val (.int (-1 : Int32)), .unset, .unset, .unset, .unset, .unset, .unset, .unset, .unset]) rfl kk) ?_
  show Go _ _ _ _ _ _ _ T1 (mkF m 8 _ [])
  refine Go.step (fun tt kk => XS.iload X1.here hx rfl (hb hby d2_8) rfl kk) ?_
  show Go _ _ _ _ _ _ _ T1 (mkF m 10 _ [(.int (-1 : Int32))])
  refine Go.step (fun tt kk => XS.ifNo X1.here hx rfl (hb hby d2_10) rfl ((if0 _ _).trans (tlt (by decide)).2.1) kk) ?_
  show Go _ _ _ _ _ _ _ T1 (mkF m 13 _ [])
  refine Go.step (fun tt kk => XS.aconstNull X1.here hx rfl (hb hby d2_13) kk) ?_
  show Go _ _ _ _ _ _ _ T1 (mkF m 14 _ [.null])
  refine go_retA X1 hx (t := (.array .byte)) hret rfl hlk rfl (hb hby d2_14) ?_ (by decide) (by decide)
  try rw [e1]
  exact ⟨rfl, rfl, rfl⟩
theorem ef_rmDc0 (m : MethodId) (x0 : Addr) (x1 : Int32) (x2 : Int32) (x3 : Int32) : entryFrame m #[(.ref x0), (.int x1), (.int x2), (.int x3)] 13 = mkF m 0 #[.val (.ref x0), .val (.int x1), .val (.int x2), .val (.int x3), .unset, .unset, .unset, .unset, .unset, .unset, .unset, .unset, .unset] [] := by first | (simp [entryFrame, mkF, argsToLocals, Value.category]; done) | rfl
set_option maxRecDepth 65536 in
set_option maxHeartbeats 40000000 in
theorem rmDc0 (l : Launch) (Z : State) (a0 : Array Value) (hw : ∀ d ∈ tables_1, d.before a0 Z = true) (ws : List Jvm.Cond) (tx : Addr) (off bf : Nat) (g : Nat → Int32) (h0 : Heap) (n0 : Nat) (Z0 : n0 ≤ h0.size) (ho : off ≤ 3) (hbf : bf ≤ 3) :
    Ctr l Z (⟨"com/example/sharks/sharks/StandardBase64", "decode", "([CIII)[B"⟩ : MethodName) prog_9_method_2_code 13 (some (.array .byte)) ws ({ frames := 1, cells := 1, slots := 9, locals := 16 } : Room) 1 9 #[(.ref tx), (.int (Int32.ofNat off)), (.int (0 : Int32)), (.int (Int32.ofNat bf))] h0 (fun v h L => ∃ b, v = some (.ref b) ∧ Fr n0 L ∧ Keep h0 h [] ∧ h0.size ≤ b ∧ AV Z h b .byte bf (gv (exI g bf))) := by
  refine Ctr.mk (plainFor_of_name pn_1) fun p e s m below meth c T0 X0 C e0 => go_cast (ef_rmDc0 m tx (Int32.ofNat off) (0 : Int32) (Int32.ofNat bf)) ?_
  have N0 := Fr.nil n0
  obtain ⟨hx, hZ, hby, hml, hown, hnm, hret, hlk⟩ := C
  obtain ⟨hI, eI⟩ : ∃ z, z = h0 := ⟨_, rfl⟩
  have K0 : Keep hI h0 [] := by rw [eI]; exact Keep.refl _ _
  show Go _ _ _ _ _ _ _ T0 (mkF m 0 #[.val (.ref tx), .val (.int (Int32.ofNat off)), .val (.int (0 : Int32)), .val (.int (Int32.ofNat bf)), .unset, .unset, .unset, .unset, .unset, .unset, .unset, .unset, .unset] [])
  refine Go.step (fun tt kk => XS.aloadN X0.here hx rfl (hb hby d2_0) rfl rfl kk) ?_
  show Go _ _ _ _ _ _ _ T0 (mkF m 1 _ [(.ref tx)])
  refine Go.step (fun tt kk => XS.iloadN X0.here hx rfl (hb hby d2_1) rfl kk) ?_
  show Go _ _ _ _ _ _ _ T0 (mkF m 2 _ [(.int (Int32.ofNat off)), (.ref tx)])
  refine Go.step (fun tt kk => XS.iloadN X0.here hx rfl (hb hby d2_2) rfl kk) ?_
  show Go _ _ _ _ _ _ _ T0 (mkF m 3 _ [(.int (0 : Int32)), (.int (Int32.ofNat off)), (.ref tx)])
  obtain ⟨v1, T1, L1, X1, q1, st1⟩ := c_static X0 hx hZ hown (y := (⟨"com/example/sharks/sharks/StandardBase64", "decodedLength", "([CII)I"⟩ : MethodName)) (hw _ (List.mem_of_getElem? (i := 11) rfl)) (hw _ (List.mem_of_getElem? (i := 12) rfl)) (hw _ (List.mem_of_getElem? (i := 9) rfl)) (hw _ (List.mem_of_getElem? (i := 13) rfl)) (by decide) (argsL := [(.ref tx), (.int (Int32.ofNat off)), (.int (0 : Int32))]) (rest := []) (rmD0 l Z a0 hw [] tx (Int32.ofNat off) h0 n0 Z0) e0 pd_0 rfl (by rw [hml]; rfl) (W := 0) (by show 2 * 0 + _ ≤ _; exact Nat.le_of_eq rfl) (by decide) (by decide) (by decide) (by decide) (hb hby d2_3) (Ls := #[.val (.ref tx), .val (.int (Int32.ofNat off)), .val (.int (0 : Int32)), .val (.int (Int32.ofNat bf)), .unset, .unset, .unset, .unset, .unset, .unset, .unset, .unset, .unset])
  obtain ⟨rfl, rfl, e1⟩ := q1
  have N1 := Fr.app N0 (Fr.nil n0)
  refine Go.step (st1) ?_
  show Go _ _ _ _ _ _ _ T1 (mkF m 6 _ [(.int (0 : Int32))])
  refine Go.step (fun tt kk => XS.istore X1.here hx rfl (hb hby d2_6) rfl (l' := #[.val (.ref tx), .val (.int (Int32.ofNat off)), .val (.int (0 : Int32)), .val (.int (Int32.ofNat bf)), .val (.int (0 : Int32)), .unset, .unset, .unset, .unset, .unset, .unset, .unset, .unset]) rfl kk) ?_
  show Go _ _ _ _ _ _ _ T1 (mkF m 8 _ [])
  refine Go.step (fun tt kk => XS.iload X1.here hx rfl (hb hby d2_8) rfl kk) ?_
  show Go _ _ _ _ _ _ _ T1 (mkF m 10 _ [(.int (0 : Int32))])
  refine Go.step (fun tt kk => XS.ifYes X1.here hx rfl (pc0 := 10) (pc' := 15) rfl (hb hby d2_10) rfl ((if0 _ _).trans (flt (by decide)).2.1) (by decide) (by decide) kk) ?_
  show Go _ _ _ _ _ _ _ T1 (mkF m 15 _ [])
  refine Go.step (fun tt kk => XS.iloadN X1.here hx rfl (hb hby d2_15) rfl kk) ?_
  show Go _ _ _ _ _ _ _ T1 (mkF m 16 _ [(.int (Int32.ofNat off))])
  refine Go.step (fun tt kk => XS.iloadN X1.here hx rfl (hb hby d2_16) rfl kk) ?_
  show Go _ _ _ _ _ _ _ T1 (mkF m 17 _ [(.int (0 : Int32)), (.int (Int32.ofNat off))])
  refine Go.step (fun tt kk => XS.iadd X1.here hx rfl (hb hby d2_17) rfl kk) ?_
  show Go _ _ _ _ _ _ _ T1 (mkF m 18 _ [(.int ((Int32.ofNat off) + (0 : Int32)))])
  rw [show Int32.ofNat off + (0 : Int32) = Int32.ofNat off from Int32.add_zero _]
  show Go _ _ _ _ _ _ _ T1 (mkF m 18 #[.val (.ref tx), .val (.int (Int32.ofNat off)), .val (.int (0 : Int32)), .val (.int (Int32.ofNat bf)), .val (.int (0 : Int32)), .unset, .unset, .unset, .unset, .unset, .unset, .unset, .unset] [(.int (Int32.ofNat off))])
  refine Go.step (fun tt kk => XS.istore X1.here hx rfl (hb hby d2_18) rfl (l' := #[.val (.ref tx), .val (.int (Int32.ofNat off)), .val (.int (0 : Int32)), .val (.int (Int32.ofNat bf)), .val (.int (0 : Int32)), .val (.int (Int32.ofNat off)), .unset, .unset, .unset, .unset, .unset, .unset, .unset]) rfl kk) ?_
  show Go _ _ _ _ _ _ _ T1 (mkF m 20 _ [])
  refine Go.step (fun tt kk => XS.iloadN X1.here hx rfl (hb hby d2_20) rfl kk) ?_
  show Go _ _ _ _ _ _ _ T1 (mkF m 21 _ [(.int (Int32.ofNat bf))])
  refine Go.step (fun tt kk => XS.iload X1.here hx rfl (hb hby d2_21) rfl kk) ?_
  show Go _ _ _ _ _ _ _ T1 (mkF m 23 _ [(.int (0 : Int32)), (.int (Int32.ofNat bf))])
  refine Go.step (fun tt kk => XS.iadd X1.here hx rfl (hb hby d2_23) rfl kk) ?_
  show Go _ _ _ _ _ _ _ T1 (mkF m 24 _ [(.int ((Int32.ofNat bf) + (0 : Int32)))])
  rw [show Int32.ofNat bf + (0 : Int32) = Int32.ofNat bf from Int32.add_zero _]
  show Go _ _ _ _ _ _ _ T1 (mkF m 24 #[.val (.ref tx), .val (.int (Int32.ofNat off)), .val (.int (0 : Int32)), .val (.int (Int32.ofNat bf)), .val (.int (0 : Int32)), .val (.int (Int32.ofNat off)), .unset, .unset, .unset, .unset, .unset, .unset, .unset] [(.int (Int32.ofNat bf))])
  obtain ⟨T2, h2, k2, X2, e2, E2, A2, EA2, st2⟩ := newPE X1 hx hZ (hw _ (List.mem_of_getElem? (i := 20) rfl)) e1 (g := (mkF m 24 #[.val (.ref tx), .val (.int (Int32.ofNat off)), .val (.int (0 : Int32)), .val (.int (Int32.ofNat bf)), .val (.int (0 : Int32)), .val (.int (Int32.ofNat off)), .unset, .unset, .unset, .unset, .unset, .unset, .unset] [(.int (Int32.ofNat bf))])) rfl (hb hby d2_24) rfl (own_nn bf (by omega)) (cap := 9) (by rw [clamp_of (k := bf) (Int32.toInt_ofNat_of_lt (by omega))]; omega) (by decide) (by decide) (by decide) (ad := "[B") rfl
  obtain ⟨b2, g2⟩ : ∃ z, z = h0.size := ⟨_, rfl⟩
  rw [← g2] at A2 EA2 st2
  have gn_b2 : n0 ≤ b2 := Nat.le_trans Z0 (Nat.le_of_eq g2.symm)
  have sz_b2 : hI.size ≤ b2 := Nat.le_trans K0.1 (Nat.le_of_eq g2.symm)
  have Z2 : n0 ≤ h2.size := Nat.le_trans Z0 E2.1
  have K2 : Keep hI h2 [] := K0.ext E2
  have V2 : AV Z h2 b2 .byte bf (fun _ => (.int (0 : Int32))) := AV.new A2 (Int32.toInt_ofNat_of_lt (by omega))
  refine Go.step (st2) ?_
  show Go _ _ _ _ _ _ _ T2 (mkF m 26 _ [(.ref b2)])
  refine Go.step (fun tt kk => XS.astore X2.here hx rfl (hb hby d2_26) rfl rfl (l' := #[.val (.ref tx), .val (.int (Int32.ofNat off)), .val (.int (0 : Int32)), .val (.int (Int32.ofNat bf)), .val (.int (0 : Int32)), .val (.int (Int32.ofNat off)), .val (.ref b2), .unset, .unset, .unset, .unset, .unset, .unset]) rfl kk) ?_
  show Go _ _ _ _ _ _ _ T2 (mkF m 28 _ [])
  refine Go.step (fun tt kk => XS.iloadN X2.here hx rfl (hb hby d2_28) rfl kk) ?_
  show Go _ _ _ _ _ _ _ T2 (mkF m 29 _ [(.int (0 : Int32))])
  refine Go.step (fun tt kk => XS.iconst X2.here hx rfl (hb hby d2_29) kk) ?_
  show Go _ _ _ _ _ _ _ T2 (mkF m 30 _ [(.int (4 : Int32)), (.int (0 : Int32))])
  refine Go.step (fun tt kk => XS.idiv X2.here hx rfl (hb hby d2_30) rfl (by decide) kk) ?_
  show Go _ _ _ _ _ _ _ T2 (mkF m 31 _ [(.int ((0 : Int32) / (4 : Int32)))])
  refine Go.step (fun tt kk => XS.iconst X2.here hx rfl (hb hby d2_31) kk) ?_
  show Go _ _ _ _ _ _ _ T2 (mkF m 32 _ [(.int (3 : Int32)), (.int ((0 : Int32) / (4 : Int32)))])
  refine Go.step (fun tt kk => XS.imul X2.here hx rfl (hb hby d2_32) rfl kk) ?_
  show Go _ _ _ _ _ _ _ T2 (mkF m 33 _ [(.int (((0 : Int32) / (4 : Int32)) * (3 : Int32)))])
  refine Go.step (fun tt kk => XS.iload X2.here hx rfl (hb hby d2_33) rfl kk) ?_
  show Go _ _ _ _ _ _ _ T2 (mkF m 35 _ [(.int (0 : Int32)), (.int (((0 : Int32) / (4 : Int32)) * (3 : Int32)))])
  refine Go.step (fun tt kk => XS.isub X2.here hx rfl (hb hby d2_35) rfl kk) ?_
  show Go _ _ _ _ _ _ _ T2 (mkF m 36 _ [(.int ((((0 : Int32) / (4 : Int32)) * (3 : Int32)) - (0 : Int32)))])
  rw [show ((((0 : Int32) / (4 : Int32)) * (3 : Int32)) - (0 : Int32)) = (0 : Int32) by decide]
  show Go _ _ _ _ _ _ _ T2 (mkF m 36 #[.val (.ref tx), .val (.int (Int32.ofNat off)), .val (.int (0 : Int32)), .val (.int (Int32.ofNat bf)), .val (.int (0 : Int32)), .val (.int (Int32.ofNat off)), .val (.ref b2), .unset, .unset, .unset, .unset, .unset, .unset] [(.int (0 : Int32))])
  refine Go.step (fun tt kk => XS.istore X2.here hx rfl (hb hby d2_36) rfl (l' := #[.val (.ref tx), .val (.int (Int32.ofNat off)), .val (.int (0 : Int32)), .val (.int (Int32.ofNat bf)), .val (.int (0 : Int32)), .val (.int (Int32.ofNat off)), .val (.ref b2), .val (.int (0 : Int32)), .unset, .unset, .unset, .unset, .unset]) rfl kk) ?_
  show Go _ _ _ _ _ _ _ T2 (mkF m 38 _ [])
  refine Go.step (fun tt kk => XS.iload X2.here hx rfl (hb hby d2_38) rfl kk) ?_
  show Go _ _ _ _ _ _ _ T2 (mkF m 40 _ [(.int (0 : Int32))])
  refine Go.step (fun tt kk => XS.ifNo X2.here hx rfl (hb hby d2_40) rfl ((if0 _ _).trans (teq (by decide)).2) kk) ?_
  show Go _ _ _ _ _ _ _ T2 (mkF m 43 _ [])
  refine Go.step (fun tt kk => XS.iload X2.here hx rfl (hb hby d2_43) rfl kk) ?_
  show Go _ _ _ _ _ _ _ T2 (mkF m 45 _ [(.int (Int32.ofNat off))])
  refine Go.step (fun tt kk => XS.goto X2.here hx rfl (pc0 := 45) (pc' := 52) rfl (hb hby d2_45) (by decide) (by decide) kk) ?_
  show Go _ _ _ _ _ _ _ T2 (mkF m 52 _ [(.int (Int32.ofNat off))])
  refine Go.step (fun tt kk => XS.istore X2.here hx rfl (hb hby d2_52) rfl (l' := #[.val (.ref tx), .val (.int (Int32.ofNat off)), .val (.int (0 : Int32)), .val (.int (Int32.ofNat bf)), .val (.int (0 : Int32)), .val (.int (Int32.ofNat off)), .val (.ref b2), .val (.int (0 : Int32)), .val (.int (Int32.ofNat off)), .unset, .unset, .unset, .unset]) rfl kk) ?_
  show Go _ _ _ _ _ _ _ T2 (mkF m 54 _ [])
  refine Go.step (fun tt kk => XS.iloadN X2.here hx rfl (hb hby d2_54) rfl kk) ?_
  show Go _ _ _ _ _ _ _ T2 (mkF m 55 _ [(.int (Int32.ofNat bf))])
  refine Go.step (fun tt kk => XS.istore X2.here hx rfl (hb hby d2_55) rfl (l' := #[.val (.ref tx), .val (.int (Int32.ofNat off)), .val (.int (0 : Int32)), .val (.int (Int32.ofNat bf)), .val (.int (0 : Int32)), .val (.int (Int32.ofNat off)), .val (.ref b2), .val (.int (0 : Int32)), .val (.int (Int32.ofNat off)), .val (.int (Int32.ofNat bf)), .unset, .unset, .unset]) rfl kk) ?_
  show Go _ _ _ _ _ _ _ T2 (mkF m 57 _ [])
  refine Go.step (fun tt kk => XS.iloadN X2.here hx rfl (hb hby d2_57) rfl kk) ?_
  show Go _ _ _ _ _ _ _ T2 (mkF m 58 _ [(.int (Int32.ofNat off))])
  refine Go.step (fun tt kk => XS.istore X2.here hx rfl (hb hby d2_58) rfl (l' := #[.val (.ref tx), .val (.int (Int32.ofNat off)), .val (.int (0 : Int32)), .val (.int (Int32.ofNat bf)), .val (.int (0 : Int32)), .val (.int (Int32.ofNat off)), .val (.ref b2), .val (.int (0 : Int32)), .val (.int (Int32.ofNat off)), .val (.int (Int32.ofNat bf)), .val (.int (Int32.ofNat off)), .unset, .unset]) rfl kk) ?_
  show Go _ _ _ _ _ _ _ T2 (mkF m 60 _ [])
  refine Go.step (fun tt kk => XS.iload X2.here hx rfl (hb hby d2_60) rfl kk) ?_
  show Go _ _ _ _ _ _ _ T2 (mkF m 62 _ [(.int (Int32.ofNat off))])
  refine Go.step (fun tt kk => XS.iload X2.here hx rfl (hb hby d2_62) rfl kk) ?_
  show Go _ _ _ _ _ _ _ T2 (mkF m 64 _ [(.int (Int32.ofNat off)), (.int (Int32.ofNat off))])
  refine Go.step (fun tt kk => XS.icmpYes X2.here hx rfl (pc0 := 64) (pc' := 165) rfl (hb hby d2_64) rfl (flt (mt (own_lt _ _ (by omega) (by omega)).mp (Nat.lt_irrefl _))).2.1 (by decide) (by decide) kk) ?_
  show Go _ _ _ _ _ _ _ T2 (mkF m 165 _ [])
  refine Go.step (fun tt kk => XS.iload X2.here hx rfl (hb hby d2_165) rfl kk) ?_
  show Go _ _ _ _ _ _ _ T2 (mkF m 167 _ [(.int (0 : Int32))])
  refine Go.step (fun tt kk => XS.ifNo X2.here hx rfl (hb hby d2_167) rfl ((if0 _ _).trans (teq (by decide)).2) kk) ?_
  show Go _ _ _ _ _ _ _ T2 (mkF m 170 _ [])
  refine Go.step (fun tt kk => XS.aload X2.here hx rfl (hb hby d2_170) rfl rfl kk) ?_
  show Go _ _ _ _ _ _ _ T2 (mkF m 172 _ [(.ref b2)])
  refine go_retA X2 hx (t := (.array .byte)) hret rfl hlk rfl (hb hby d2_172) ?_ (by decide) (by decide)
  try rw [e2]
  exact ⟨b2, rfl, N1, eI ▸ K2, eI ▸ sz_b2, V2.congr fun i hi => (congrArg Value.int (exI_lt hi)).symm⟩
theorem ef_rmFu (m : MethodId) (x0 : Addr) (x1 : Int32) (x2 : Addr) (x3 : Int32) : entryFrame m #[(.ref x0), (.int x1), (.ref x2), (.int x3)] 8 = mkF m 0 #[.val (.ref x0), .val (.int x1), .val (.ref x2), .val (.int x3), .unset, .unset, .unset, .unset] [] := by first | (simp [entryFrame, mkF, argsToLocals, Value.category]; done) | rfl
theorem d8_0 : decode method_5_code 0 = .ok (.aload_n 0, 1) := by decide +kernel
theorem d8_1 : decode method_5_code 1 = .ok (.iload_n 1, 1) := by decide +kernel
theorem d8_2 : decode method_5_code 2 = .ok (.caload, 1) := by decide +kernel
theorem d8_3 : decode method_5_code 3 = .ok (.invokestatic 30, 3) := by decide +kernel
theorem d8_6 : decode method_5_code 6 = .ok (.istore 4, 2) := by decide +kernel
theorem d8_8 : decode method_5_code 8 = .ok (.aload_n 0, 1) := by decide +kernel
theorem d8_9 : decode method_5_code 9 = .ok (.iload_n 1, 1) := by decide +kernel
theorem d8_10 : decode method_5_code 10 = .ok (.iconst 1, 1) := by decide +kernel
theorem d8_11 : decode method_5_code 11 = .ok (.iadd, 1) := by decide +kernel
theorem d8_12 : decode method_5_code 12 = .ok (.caload, 1) := by decide +kernel
theorem d8_13 : decode method_5_code 13 = .ok (.invokestatic 30, 3) := by decide +kernel
theorem d8_16 : decode method_5_code 16 = .ok (.istore 5, 2) := by decide +kernel
theorem d8_18 : decode method_5_code 18 = .ok (.aload_n 0, 1) := by decide +kernel
theorem d8_19 : decode method_5_code 19 = .ok (.iload_n 1, 1) := by decide +kernel
theorem d8_20 : decode method_5_code 20 = .ok (.iconst 2, 1) := by decide +kernel
theorem d8_21 : decode method_5_code 21 = .ok (.iadd, 1) := by decide +kernel
theorem d8_22 : decode method_5_code 22 = .ok (.caload, 1) := by decide +kernel
theorem d8_23 : decode method_5_code 23 = .ok (.invokestatic 30, 3) := by decide +kernel
theorem d8_26 : decode method_5_code 26 = .ok (.istore 6, 2) := by decide +kernel
theorem d8_28 : decode method_5_code 28 = .ok (.aload_n 0, 1) := by decide +kernel
theorem d8_29 : decode method_5_code 29 = .ok (.iload_n 1, 1) := by decide +kernel
theorem d8_30 : decode method_5_code 30 = .ok (.iconst 3, 1) := by decide +kernel
theorem d8_31 : decode method_5_code 31 = .ok (.iadd, 1) := by decide +kernel
theorem d8_32 : decode method_5_code 32 = .ok (.caload, 1) := by decide +kernel
theorem d8_33 : decode method_5_code 33 = .ok (.invokestatic 30, 3) := by decide +kernel
theorem d8_36 : decode method_5_code 36 = .ok (.istore 7, 2) := by decide +kernel
theorem d8_38 : decode method_5_code 38 = .ok (.iload 4, 2) := by decide +kernel
theorem d8_40 : decode method_5_code 40 = .ok (.ifCond .lt 18, 3) := by decide +kernel
theorem d8_58 : decode method_5_code 58 = .ok (.iconst 0, 1) := by decide +kernel
theorem d8_59 : decode method_5_code 59 = .ok (.ireturn, 1) := by decide +kernel
theorem d8_43 : decode method_5_code 43 = .ok (.iload 5, 2) := by decide +kernel
theorem d8_45 : decode method_5_code 45 = .ok (.ifCond .lt 13, 3) := by decide +kernel
theorem d8_48 : decode method_5_code 48 = .ok (.iload 6, 2) := by decide +kernel
theorem d8_50 : decode method_5_code 50 = .ok (.ifCond .lt 8, 3) := by decide +kernel
theorem d8_53 : decode method_5_code 53 = .ok (.iload 7, 2) := by decide +kernel
theorem d8_55 : decode method_5_code 55 = .ok (.ifCond .ge 5, 3) := by decide +kernel
theorem d8_60 : decode method_5_code 60 = .ok (.aload_n 2, 1) := by decide +kernel
theorem d8_61 : decode method_5_code 61 = .ok (.iload_n 3, 1) := by decide +kernel
theorem d8_62 : decode method_5_code 62 = .ok (.iload 4, 2) := by decide +kernel
theorem d8_64 : decode method_5_code 64 = .ok (.iconst 2, 1) := by decide +kernel
theorem d8_65 : decode method_5_code 65 = .ok (.ishl, 1) := by decide +kernel
theorem d8_66 : decode method_5_code 66 = .ok (.iload 5, 2) := by decide +kernel
theorem d8_68 : decode method_5_code 68 = .ok (.iconst 4, 1) := by decide +kernel
theorem d8_69 : decode method_5_code 69 = .ok (.ishr, 1) := by decide +kernel
theorem d8_70 : decode method_5_code 70 = .ok (.ior, 1) := by decide +kernel
theorem d8_71 : decode method_5_code 71 = .ok (.i2b, 1) := by decide +kernel
theorem d8_72 : decode method_5_code 72 = .ok (.bastore, 1) := by decide +kernel
theorem d8_73 : decode method_5_code 73 = .ok (.aload_n 2, 1) := by decide +kernel
theorem d8_74 : decode method_5_code 74 = .ok (.iload_n 3, 1) := by decide +kernel
theorem d8_75 : decode method_5_code 75 = .ok (.iconst 1, 1) := by decide +kernel
theorem d8_76 : decode method_5_code 76 = .ok (.iadd, 1) := by decide +kernel
theorem d8_77 : decode method_5_code 77 = .ok (.iload 5, 2) := by decide +kernel
theorem d8_79 : decode method_5_code 79 = .ok (.bipush 15, 2) := by decide +kernel
theorem d8_81 : decode method_5_code 81 = .ok (.iand, 1) := by decide +kernel
theorem d8_82 : decode method_5_code 82 = .ok (.iconst 4, 1) := by decide +kernel
theorem d8_83 : decode method_5_code 83 = .ok (.ishl, 1) := by decide +kernel
theorem d8_84 : decode method_5_code 84 = .ok (.iload 6, 2) := by decide +kernel
theorem d8_86 : decode method_5_code 86 = .ok (.iconst 2, 1) := by decide +kernel
theorem d8_87 : decode method_5_code 87 = .ok (.ishr, 1) := by decide +kernel
theorem d8_88 : decode method_5_code 88 = .ok (.ior, 1) := by decide +kernel
theorem d8_89 : decode method_5_code 89 = .ok (.i2b, 1) := by decide +kernel
theorem d8_90 : decode method_5_code 90 = .ok (.bastore, 1) := by decide +kernel
theorem d8_91 : decode method_5_code 91 = .ok (.aload_n 2, 1) := by decide +kernel
theorem d8_92 : decode method_5_code 92 = .ok (.iload_n 3, 1) := by decide +kernel
theorem d8_93 : decode method_5_code 93 = .ok (.iconst 2, 1) := by decide +kernel
theorem d8_94 : decode method_5_code 94 = .ok (.iadd, 1) := by decide +kernel
theorem d8_95 : decode method_5_code 95 = .ok (.iload 6, 2) := by decide +kernel
theorem d8_97 : decode method_5_code 97 = .ok (.iconst 3, 1) := by decide +kernel
theorem d8_98 : decode method_5_code 98 = .ok (.iand, 1) := by decide +kernel
theorem d8_99 : decode method_5_code 99 = .ok (.bipush 6, 2) := by decide +kernel
theorem d8_101 : decode method_5_code 101 = .ok (.ishl, 1) := by decide +kernel
theorem d8_102 : decode method_5_code 102 = .ok (.iload 7, 2) := by decide +kernel
theorem d8_104 : decode method_5_code 104 = .ok (.ior, 1) := by decide +kernel
theorem d8_105 : decode method_5_code 105 = .ok (.i2b, 1) := by decide +kernel
theorem d8_106 : decode method_5_code 106 = .ok (.bastore, 1) := by decide +kernel
theorem d8_107 : decode method_5_code 107 = .ok (.iconst 1, 1) := by decide +kernel
theorem d8_108 : decode method_5_code 108 = .ok (.ireturn, 1) := by decide +kernel
set_option maxRecDepth 65536 in
set_option maxHeartbeats 40000000 in
theorem rmFu (l : Launch) (Z : State) (a0 : Array Value) (hw : ∀ d ∈ tables_1, d.before a0 Z = true) (ws : List Jvm.Cond) (w_ ea : Addr) (k t n : Nat) (g : Nat → Int32) (f : Nat → Value) (h0 : Heap) (n0 : Nat) (Z0 : n0 ≤ h0.size) (hk : k ≤ 4) (ht : t + 2 < n) (hn : n ≤ 9) (V_w : AV Z h0 w_ .char 8 (gv g)) (V_e : AV Z h0 ea .byte n f) (ne_w__e : w_ ≠ ea) (g_e : n0 ≤ ea) :
    Ctr l Z (⟨"com/example/sharks/sharks/StandardBase64DecodePinLaw", "full", "([CI[BI)Z"⟩ : MethodName) method_5_code 8 (some .boolean) ws ({ frames := 1, cells := 0, slots := 0, locals := 12 } : Room) 0 0 #[(.ref w_), (.int (Int32.ofNat k)), (.ref ea), (.int (Int32.ofNat t))] h0 (fun v h L => v = some (.int (bi (OK4 g k))) ∧ Fr n0 L ∧ Keep h0 h [ea] ∧ (OK4 g k → AV Z h ea .byte n (upd (upd (upd f t (.int (bA (vl (g k)) (vl (g (k + 1)))))) (t + 1) (.int (bB (vl (g (k + 1))) (vl (g (k + 2)))))) (t + 2) (.int (bC (vl (g (k + 2))) (vl (g (k + 3)))))))) := by
  refine Ctr.mk (plainFor_of_name pn_0) fun p e s m below meth c T0 X0 C e0 => go_cast (ef_rmFu m w_ (Int32.ofNat k) ea (Int32.ofNat t)) ?_
  have N0 := Fr.nil n0
  obtain ⟨hx, hZ, hby, hml, hown, hnm, hret, hlk⟩ := C
  obtain ⟨hI, eI⟩ : ∃ z, z = h0 := ⟨_, rfl⟩
  have K0 : Keep hI h0 [ea] := by rw [eI]; exact Keep.refl _ _
  show Go _ _ _ _ _ _ _ T0 (mkF m 0 #[.val (.ref w_), .val (.int (Int32.ofNat k)), .val (.ref ea), .val (.int (Int32.ofNat t)), .unset, .unset, .unset, .unset] [])
  refine Go.step (fun tt kk => XS.aloadN X0.here hx rfl (hb hby d8_0) rfl rfl kk) ?_
  show Go _ _ _ _ _ _ _ T0 (mkF m 1 _ [(.ref w_)])
  refine Go.step (fun tt kk => XS.iloadN X0.here hx rfl (hb hby d8_1) rfl kk) ?_
  show Go _ _ _ _ _ _ _ T0 (mkF m 2 _ [(.int (Int32.ofNat k)), (.ref w_)])
  refine Go.step (a_cload X0 hx hZ e0 V_w (k := k) (Int32.toInt_ofNat_of_lt (by omega)) (by omega) (x := (g k)) rfl (hb hby d8_2)) ?_
  show Go _ _ _ _ _ _ _ T0 (mkF m 3 _ [(.int (g k))])
  obtain ⟨v1, T1, L1, X1, q1, st1⟩ := c_static X0 hx hZ hown (y := (⟨"com/example/sharks/sharks/StandardBase64DecodePinLaw", "v", "(C)I"⟩ : MethodName)) (hw _ (List.mem_of_getElem? (i := 32) rfl)) (hw _ (List.mem_of_getElem? (i := 33) rfl)) (hw _ (List.mem_of_getElem? (i := 4) rfl)) (hw _ (List.mem_of_getElem? (i := 34) rfl)) (by decide) (argsL := [(.int (g k))]) (rest := []) (rmV l Z a0 hw [] (g k) h0 n0 Z0 ) e0 pd_1 rfl (by rw [hml]; rfl) (W := 0) (by show 2 * 0 + _ ≤ _; exact Nat.le_of_eq rfl) (by decide) (by decide) (by decide) (by decide) (hb hby d8_3) (Ls := #[.val (.ref w_), .val (.int (Int32.ofNat k)), .val (.ref ea), .val (.int (Int32.ofNat t)), .unset, .unset, .unset, .unset])
  obtain ⟨rfl, rfl, e1⟩ := q1
  have N1 := Fr.app N0 (Fr.nil n0)
  refine Go.step (st1) ?_
  show Go _ _ _ _ _ _ _ T1 (mkF m 6 _ [(.int (vl (g k)))])
  refine Go.step (fun tt kk => XS.istore X1.here hx rfl (hb hby d8_6) rfl (l' := #[.val (.ref w_), .val (.int (Int32.ofNat k)), .val (.ref ea), .val (.int (Int32.ofNat t)), .val (.int (vl (g k))), .unset, .unset, .unset]) rfl kk) ?_
  show Go _ _ _ _ _ _ _ T1 (mkF m 8 _ [])
  refine Go.step (fun tt kk => XS.aloadN X1.here hx rfl (hb hby d8_8) rfl rfl kk) ?_
  show Go _ _ _ _ _ _ _ T1 (mkF m 9 _ [(.ref w_)])
  refine Go.step (fun tt kk => XS.iloadN X1.here hx rfl (hb hby d8_9) rfl kk) ?_
  show Go _ _ _ _ _ _ _ T1 (mkF m 10 _ [(.int (Int32.ofNat k)), (.ref w_)])
  refine Go.step (fun tt kk => XS.iconst X1.here hx rfl (hb hby d8_10) kk) ?_
  show Go _ _ _ _ _ _ _ T1 (mkF m 11 _ [(.int (1 : Int32)), (.int (Int32.ofNat k)), (.ref w_)])
  refine Go.step (fun tt kk => XS.iadd X1.here hx rfl (hb hby d8_11) rfl kk) ?_
  show Go _ _ _ _ _ _ _ T1 (mkF m 12 _ [(.int ((Int32.ofNat k) + (1 : Int32))), (.ref w_)])
  rw [show Int32.ofNat k + (1 : Int32) = Int32.ofNat (k + 1) from own_add k 1]
  show Go _ _ _ _ _ _ _ T1 (mkF m 12 #[.val (.ref w_), .val (.int (Int32.ofNat k)), .val (.ref ea), .val (.int (Int32.ofNat t)), .val (.int (vl (g k))), .unset, .unset, .unset] [(.int (Int32.ofNat (k + 1))), (.ref w_)])
  refine Go.step (a_cload X1 hx hZ e1 V_w (k := (k + 1)) (Int32.toInt_ofNat_of_lt (by omega)) (by omega) (x := (g (k + 1))) rfl (hb hby d8_12)) ?_
  show Go _ _ _ _ _ _ _ T1 (mkF m 13 _ [(.int (g (k + 1)))])
  obtain ⟨v2, T2, L2, X2, q2, st2⟩ := c_static X1 hx hZ hown (y := (⟨"com/example/sharks/sharks/StandardBase64DecodePinLaw", "v", "(C)I"⟩ : MethodName)) (hw _ (List.mem_of_getElem? (i := 32) rfl)) (hw _ (List.mem_of_getElem? (i := 33) rfl)) (hw _ (List.mem_of_getElem? (i := 4) rfl)) (hw _ (List.mem_of_getElem? (i := 34) rfl)) (by decide) (argsL := [(.int (g (k + 1)))]) (rest := []) (rmV l Z a0 hw [] (g (k + 1)) h0 n0 Z0 ) e1 pd_1 rfl (by rw [hml]; rfl) (W := 0) (by show 2 * 0 + _ ≤ _; exact Nat.le_of_eq rfl) (by decide) (by decide) (by decide) (by decide) (hb hby d8_13) (Ls := #[.val (.ref w_), .val (.int (Int32.ofNat k)), .val (.ref ea), .val (.int (Int32.ofNat t)), .val (.int (vl (g k))), .unset, .unset, .unset])
  obtain ⟨rfl, rfl, e2⟩ := q2
  have N2 := Fr.app N1 (Fr.nil n0)
  refine Go.step (st2) ?_
  show Go _ _ _ _ _ _ _ T2 (mkF m 16 _ [(.int (vl (g (k + 1))))])
  refine Go.step (fun tt kk => XS.istore X2.here hx rfl (hb hby d8_16) rfl (l' := #[.val (.ref w_), .val (.int (Int32.ofNat k)), .val (.ref ea), .val (.int (Int32.ofNat t)), .val (.int (vl (g k))), .val (.int (vl (g (k + 1)))), .unset, .unset]) rfl kk) ?_
  show Go _ _ _ _ _ _ _ T2 (mkF m 18 _ [])
  refine Go.step (fun tt kk => XS.aloadN X2.here hx rfl (hb hby d8_18) rfl rfl kk) ?_
  show Go _ _ _ _ _ _ _ T2 (mkF m 19 _ [(.ref w_)])
  refine Go.step (fun tt kk => XS.iloadN X2.here hx rfl (hb hby d8_19) rfl kk) ?_
  show Go _ _ _ _ _ _ _ T2 (mkF m 20 _ [(.int (Int32.ofNat k)), (.ref w_)])
  refine Go.step (fun tt kk => XS.iconst X2.here hx rfl (hb hby d8_20) kk) ?_
  show Go _ _ _ _ _ _ _ T2 (mkF m 21 _ [(.int (2 : Int32)), (.int (Int32.ofNat k)), (.ref w_)])
  refine Go.step (fun tt kk => XS.iadd X2.here hx rfl (hb hby d8_21) rfl kk) ?_
  show Go _ _ _ _ _ _ _ T2 (mkF m 22 _ [(.int ((Int32.ofNat k) + (2 : Int32))), (.ref w_)])
  rw [show Int32.ofNat k + (2 : Int32) = Int32.ofNat (k + 2) from own_add k 2]
  show Go _ _ _ _ _ _ _ T2 (mkF m 22 #[.val (.ref w_), .val (.int (Int32.ofNat k)), .val (.ref ea), .val (.int (Int32.ofNat t)), .val (.int (vl (g k))), .val (.int (vl (g (k + 1)))), .unset, .unset] [(.int (Int32.ofNat (k + 2))), (.ref w_)])
  refine Go.step (a_cload X2 hx hZ e2 V_w (k := (k + 2)) (Int32.toInt_ofNat_of_lt (by omega)) (by omega) (x := (g (k + 2))) rfl (hb hby d8_22)) ?_
  show Go _ _ _ _ _ _ _ T2 (mkF m 23 _ [(.int (g (k + 2)))])
  obtain ⟨v3, T3, L3, X3, q3, st3⟩ := c_static X2 hx hZ hown (y := (⟨"com/example/sharks/sharks/StandardBase64DecodePinLaw", "v", "(C)I"⟩ : MethodName)) (hw _ (List.mem_of_getElem? (i := 32) rfl)) (hw _ (List.mem_of_getElem? (i := 33) rfl)) (hw _ (List.mem_of_getElem? (i := 4) rfl)) (hw _ (List.mem_of_getElem? (i := 34) rfl)) (by decide) (argsL := [(.int (g (k + 2)))]) (rest := []) (rmV l Z a0 hw [] (g (k + 2)) h0 n0 Z0 ) e2 pd_1 rfl (by rw [hml]; rfl) (W := 0) (by show 2 * 0 + _ ≤ _; exact Nat.le_of_eq rfl) (by decide) (by decide) (by decide) (by decide) (hb hby d8_23) (Ls := #[.val (.ref w_), .val (.int (Int32.ofNat k)), .val (.ref ea), .val (.int (Int32.ofNat t)), .val (.int (vl (g k))), .val (.int (vl (g (k + 1)))), .unset, .unset])
  obtain ⟨rfl, rfl, e3⟩ := q3
  have N3 := Fr.app N2 (Fr.nil n0)
  refine Go.step (st3) ?_
  show Go _ _ _ _ _ _ _ T3 (mkF m 26 _ [(.int (vl (g (k + 2))))])
  refine Go.step (fun tt kk => XS.istore X3.here hx rfl (hb hby d8_26) rfl (l' := #[.val (.ref w_), .val (.int (Int32.ofNat k)), .val (.ref ea), .val (.int (Int32.ofNat t)), .val (.int (vl (g k))), .val (.int (vl (g (k + 1)))), .val (.int (vl (g (k + 2)))), .unset]) rfl kk) ?_
  show Go _ _ _ _ _ _ _ T3 (mkF m 28 _ [])
  refine Go.step (fun tt kk => XS.aloadN X3.here hx rfl (hb hby d8_28) rfl rfl kk) ?_
  show Go _ _ _ _ _ _ _ T3 (mkF m 29 _ [(.ref w_)])
  refine Go.step (fun tt kk => XS.iloadN X3.here hx rfl (hb hby d8_29) rfl kk) ?_
  show Go _ _ _ _ _ _ _ T3 (mkF m 30 _ [(.int (Int32.ofNat k)), (.ref w_)])
  refine Go.step (fun tt kk => XS.iconst X3.here hx rfl (hb hby d8_30) kk) ?_
  show Go _ _ _ _ _ _ _ T3 (mkF m 31 _ [(.int (3 : Int32)), (.int (Int32.ofNat k)), (.ref w_)])
  refine Go.step (fun tt kk => XS.iadd X3.here hx rfl (hb hby d8_31) rfl kk) ?_
  show Go _ _ _ _ _ _ _ T3 (mkF m 32 _ [(.int ((Int32.ofNat k) + (3 : Int32))), (.ref w_)])
  rw [show Int32.ofNat k + (3 : Int32) = Int32.ofNat (k + 3) from own_add k 3]
  show Go _ _ _ _ _ _ _ T3 (mkF m 32 #[.val (.ref w_), .val (.int (Int32.ofNat k)), .val (.ref ea), .val (.int (Int32.ofNat t)), .val (.int (vl (g k))), .val (.int (vl (g (k + 1)))), .val (.int (vl (g (k + 2)))), .unset] [(.int (Int32.ofNat (k + 3))), (.ref w_)])
  refine Go.step (a_cload X3 hx hZ e3 V_w (k := (k + 3)) (Int32.toInt_ofNat_of_lt (by omega)) (by omega) (x := (g (k + 3))) rfl (hb hby d8_32)) ?_
  show Go _ _ _ _ _ _ _ T3 (mkF m 33 _ [(.int (g (k + 3)))])
  obtain ⟨v4, T4, L4, X4, q4, st4⟩ := c_static X3 hx hZ hown (y := (⟨"com/example/sharks/sharks/StandardBase64DecodePinLaw", "v", "(C)I"⟩ : MethodName)) (hw _ (List.mem_of_getElem? (i := 32) rfl)) (hw _ (List.mem_of_getElem? (i := 33) rfl)) (hw _ (List.mem_of_getElem? (i := 4) rfl)) (hw _ (List.mem_of_getElem? (i := 34) rfl)) (by decide) (argsL := [(.int (g (k + 3)))]) (rest := []) (rmV l Z a0 hw [] (g (k + 3)) h0 n0 Z0 ) e3 pd_1 rfl (by rw [hml]; rfl) (W := 0) (by show 2 * 0 + _ ≤ _; exact Nat.le_of_eq rfl) (by decide) (by decide) (by decide) (by decide) (hb hby d8_33) (Ls := #[.val (.ref w_), .val (.int (Int32.ofNat k)), .val (.ref ea), .val (.int (Int32.ofNat t)), .val (.int (vl (g k))), .val (.int (vl (g (k + 1)))), .val (.int (vl (g (k + 2)))), .unset])
  obtain ⟨rfl, rfl, e4⟩ := q4
  have N4 := Fr.app N3 (Fr.nil n0)
  refine Go.step (st4) ?_
  show Go _ _ _ _ _ _ _ T4 (mkF m 36 _ [(.int (vl (g (k + 3))))])
  refine Go.step (fun tt kk => XS.istore X4.here hx rfl (hb hby d8_36) rfl (l' := #[.val (.ref w_), .val (.int (Int32.ofNat k)), .val (.ref ea), .val (.int (Int32.ofNat t)), .val (.int (vl (g k))), .val (.int (vl (g (k + 1)))), .val (.int (vl (g (k + 2)))), .val (.int (vl (g (k + 3))))]) rfl kk) ?_
  show Go _ _ _ _ _ _ _ T4 (mkF m 38 _ [])
  refine Go.step (fun tt kk => XS.iload X4.here hx rfl (hb hby d8_38) rfl kk) ?_
  show Go _ _ _ _ _ _ _ T4 (mkF m 40 _ [(.int (vl (g k)))])
  by_cases c40_5 : (vl (g k)) < (0 : Int32)
  · refine Go.step (fun tt kk => XS.ifYes X4.here hx rfl (pc0 := 40) (pc' := 58) rfl (hb hby d8_40) rfl ((if0 _ _).trans (tlt c40_5).1) (by decide) (by decide) kk) ?_
    show Go _ _ _ _ _ _ _ T4 (mkF m 58 _ [])
    refine Go.step (fun tt kk => XS.iconst X4.here hx rfl (hb hby d8_58) kk) ?_
    show Go _ _ _ _ _ _ _ T4 (mkF m 59 _ [(.int (0 : Int32))])
    refine go_retN X4 hx (t := .boolean) hret (by simp) hlk (hb hby d8_59) (w := (0 : Int32)) rfl ?_ (by decide) (by decide)
    try rw [e4]
    exact ⟨congrArg (fun z => some (Value.int z)) (bi_f (by simp only [OK4, eq_true c40_5, not_true_eq_false, not_false_eq_true, and_true, true_and, and_false, false_and, or_true, true_or, or_false, false_or, and_self, or_self])).symm, N4, eI ▸ K0, fun z => absurd z (by simp only [OK4, eq_true c40_5, not_true_eq_false, not_false_eq_true, and_true, true_and, and_false, false_and, or_true, true_or, or_false, false_or, and_self, or_self])⟩
  · refine Go.step (fun tt kk => XS.ifNo X4.here hx rfl (hb hby d8_40) rfl ((if0 _ _).trans (flt c40_5).1) kk) ?_
    show Go _ _ _ _ _ _ _ T4 (mkF m 43 _ [])
    refine Go.step (fun tt kk => XS.iload X4.here hx rfl (hb hby d8_43) rfl kk) ?_
    show Go _ _ _ _ _ _ _ T4 (mkF m 45 _ [(.int (vl (g (k + 1))))])
    by_cases c45_6 : (vl (g (k + 1))) < (0 : Int32)
    · refine Go.step (fun tt kk => XS.ifYes X4.here hx rfl (pc0 := 45) (pc' := 58) rfl (hb hby d8_45) rfl ((if0 _ _).trans (tlt c45_6).1) (by decide) (by decide) kk) ?_
      show Go _ _ _ _ _ _ _ T4 (mkF m 58 _ [])
      refine Go.step (fun tt kk => XS.iconst X4.here hx rfl (hb hby d8_58) kk) ?_
      show Go _ _ _ _ _ _ _ T4 (mkF m 59 _ [(.int (0 : Int32))])
      refine go_retN X4 hx (t := .boolean) hret (by simp) hlk (hb hby d8_59) (w := (0 : Int32)) rfl ?_ (by decide) (by decide)
      try rw [e4]
      exact ⟨congrArg (fun z => some (Value.int z)) (bi_f (by simp only [OK4, eq_false c40_5, eq_true c45_6, not_true_eq_false, not_false_eq_true, and_true, true_and, and_false, false_and, or_true, true_or, or_false, false_or, and_self, or_self])).symm, N4, eI ▸ K0, fun z => absurd z (by simp only [OK4, eq_false c40_5, eq_true c45_6, not_true_eq_false, not_false_eq_true, and_true, true_and, and_false, false_and, or_true, true_or, or_false, false_or, and_self, or_self])⟩
    · refine Go.step (fun tt kk => XS.ifNo X4.here hx rfl (hb hby d8_45) rfl ((if0 _ _).trans (flt c45_6).1) kk) ?_
      show Go _ _ _ _ _ _ _ T4 (mkF m 48 _ [])
      refine Go.step (fun tt kk => XS.iload X4.here hx rfl (hb hby d8_48) rfl kk) ?_
      show Go _ _ _ _ _ _ _ T4 (mkF m 50 _ [(.int (vl (g (k + 2))))])
      by_cases c50_7 : (vl (g (k + 2))) < (0 : Int32)
      · refine Go.step (fun tt kk => XS.ifYes X4.here hx rfl (pc0 := 50) (pc' := 58) rfl (hb hby d8_50) rfl ((if0 _ _).trans (tlt c50_7).1) (by decide) (by decide) kk) ?_
        show Go _ _ _ _ _ _ _ T4 (mkF m 58 _ [])
        refine Go.step (fun tt kk => XS.iconst X4.here hx rfl (hb hby d8_58) kk) ?_
        show Go _ _ _ _ _ _ _ T4 (mkF m 59 _ [(.int (0 : Int32))])
        refine go_retN X4 hx (t := .boolean) hret (by simp) hlk (hb hby d8_59) (w := (0 : Int32)) rfl ?_ (by decide) (by decide)
        try rw [e4]
        exact ⟨congrArg (fun z => some (Value.int z)) (bi_f (by simp only [OK4, eq_false c40_5, eq_false c45_6, eq_true c50_7, not_true_eq_false, not_false_eq_true, and_true, true_and, and_false, false_and, or_true, true_or, or_false, false_or, and_self, or_self])).symm, N4, eI ▸ K0, fun z => absurd z (by simp only [OK4, eq_false c40_5, eq_false c45_6, eq_true c50_7, not_true_eq_false, not_false_eq_true, and_true, true_and, and_false, false_and, or_true, true_or, or_false, false_or, and_self, or_self])⟩
      · refine Go.step (fun tt kk => XS.ifNo X4.here hx rfl (hb hby d8_50) rfl ((if0 _ _).trans (flt c50_7).1) kk) ?_
        show Go _ _ _ _ _ _ _ T4 (mkF m 53 _ [])
        refine Go.step (fun tt kk => XS.iload X4.here hx rfl (hb hby d8_53) rfl kk) ?_
        show Go _ _ _ _ _ _ _ T4 (mkF m 55 _ [(.int (vl (g (k + 3))))])
        by_cases c55_8 : (vl (g (k + 3))) < (0 : Int32)
        · refine Go.step (fun tt kk => XS.ifNo X4.here hx rfl (hb hby d8_55) rfl ((if0 _ _).trans (tlt c55_8).2.1) kk) ?_
          show Go _ _ _ _ _ _ _ T4 (mkF m 58 _ [])
          refine Go.step (fun tt kk => XS.iconst X4.here hx rfl (hb hby d8_58) kk) ?_
          show Go _ _ _ _ _ _ _ T4 (mkF m 59 _ [(.int (0 : Int32))])
          refine go_retN X4 hx (t := .boolean) hret (by simp) hlk (hb hby d8_59) (w := (0 : Int32)) rfl ?_ (by decide) (by decide)
          try rw [e4]
          exact ⟨congrArg (fun z => some (Value.int z)) (bi_f (by simp only [OK4, eq_false c40_5, eq_false c45_6, eq_false c50_7, eq_true c55_8, not_true_eq_false, not_false_eq_true, and_true, true_and, and_false, false_and, or_true, true_or, or_false, false_or, and_self, or_self])).symm, N4, eI ▸ K0, fun z => absurd z (by simp only [OK4, eq_false c40_5, eq_false c45_6, eq_false c50_7, eq_true c55_8, not_true_eq_false, not_false_eq_true, and_true, true_and, and_false, false_and, or_true, true_or, or_false, false_or, and_self, or_self])⟩
        · refine Go.step (fun tt kk => XS.ifYes X4.here hx rfl (pc0 := 55) (pc' := 60) rfl (hb hby d8_55) rfl ((if0 _ _).trans (flt c55_8).2.1) (by decide) (by decide) kk) ?_
          show Go _ _ _ _ _ _ _ T4 (mkF m 60 _ [])
          refine Go.step (fun tt kk => XS.aloadN X4.here hx rfl (hb hby d8_60) rfl rfl kk) ?_
          show Go _ _ _ _ _ _ _ T4 (mkF m 61 _ [(.ref ea)])
          refine Go.step (fun tt kk => XS.iloadN X4.here hx rfl (hb hby d8_61) rfl kk) ?_
          show Go _ _ _ _ _ _ _ T4 (mkF m 62 _ [(.int (Int32.ofNat t)), (.ref ea)])
          refine Go.step (fun tt kk => XS.iload X4.here hx rfl (hb hby d8_62) rfl kk) ?_
          show Go _ _ _ _ _ _ _ T4 (mkF m 64 _ [(.int (vl (g k))), (.int (Int32.ofNat t)), (.ref ea)])
          refine Go.step (fun tt kk => XS.iconst X4.here hx rfl (hb hby d8_64) kk) ?_
          show Go _ _ _ _ _ _ _ T4 (mkF m 65 _ [(.int (2 : Int32)), (.int (vl (g k))), (.int (Int32.ofNat t)), (.ref ea)])
          refine Go.step (fun tt kk => XS.ishl X4.here hx rfl (hb hby d8_65) rfl kk) ?_
          show Go _ _ _ _ _ _ _ T4 (mkF m 66 _ [(.int ((vl (g k)) <<< ((2 : Int32) &&& 31))), (.int (Int32.ofNat t)), (.ref ea)])
          refine Go.step (fun tt kk => XS.iload X4.here hx rfl (hb hby d8_66) rfl kk) ?_
          show Go _ _ _ _ _ _ _ T4 (mkF m 68 _ [(.int (vl (g (k + 1)))), (.int ((vl (g k)) <<< ((2 : Int32) &&& 31))), (.int (Int32.ofNat t)), (.ref ea)])
          refine Go.step (fun tt kk => XS.iconst X4.here hx rfl (hb hby d8_68) kk) ?_
          show Go _ _ _ _ _ _ _ T4 (mkF m 69 _ [(.int (4 : Int32)), (.int (vl (g (k + 1)))), (.int ((vl (g k)) <<< ((2 : Int32) &&& 31))), (.int (Int32.ofNat t)), (.ref ea)])
          refine Go.step (fun tt kk => XS.ishr X4.here hx rfl (hb hby d8_69) rfl kk) ?_
          show Go _ _ _ _ _ _ _ T4 (mkF m 70 _ [(.int ((vl (g (k + 1))) >>> ((4 : Int32) &&& 31))), (.int ((vl (g k)) <<< ((2 : Int32) &&& 31))), (.int (Int32.ofNat t)), (.ref ea)])
          refine Go.step (fun tt kk => XS.ior X4.here hx rfl (hb hby d8_70) rfl kk) ?_
          show Go _ _ _ _ _ _ _ T4 (mkF m 71 _ [(.int (((vl (g k)) <<< ((2 : Int32) &&& 31)) ||| ((vl (g (k + 1))) >>> ((4 : Int32) &&& 31)))), (.int (Int32.ofNat t)), (.ref ea)])
          refine Go.step (fun tt kk => XS.i2b X4.here hx rfl (hb hby d8_71) rfl kk) ?_
          show Go _ _ _ _ _ _ _ T4 (mkF m 72 _ [(.int ((((vl (g k)) <<< ((2 : Int32) &&& 31)) ||| ((vl (g (k + 1))) >>> ((4 : Int32) &&& 31))).toInt8.toInt32)), (.int (Int32.ofNat t)), (.ref ea)])
          show Go _ _ _ _ _ _ _ T4 (mkF m 72 #[.val (.ref w_), .val (.int (Int32.ofNat k)), .val (.ref ea), .val (.int (Int32.ofNat t)), .val (.int (vl (g k))), .val (.int (vl (g (k + 1)))), .val (.int (vl (g (k + 2)))), .val (.int (vl (g (k + 3))))] [(.int (bA (vl (g k)) (vl (g (k + 1))))), (.int (Int32.ofNat t)), (.ref ea)])
          obtain ⟨cl9, Ar9, hin9, -⟩ := V_e.at (j := (Int32.ofNat t)) (k := t) (Int32.toInt_ofNat_of_lt (by omega)) (by omega)
          obtain ⟨T9, h9, X9, e9, W9, st9⟩ := stB X4 hx hZ e4 Ar9 (j := (Int32.ofNat t)) hin9 (g := (mkF m 72 #[.val (.ref w_), .val (.int (Int32.ofNat k)), .val (.ref ea), .val (.int (Int32.ofNat t)), .val (.int (vl (g k))), .val (.int (vl (g (k + 1)))), .val (.int (vl (g (k + 2)))), .val (.int (vl (g (k + 3))))] [(.int (bA (vl (g k)) (vl (g (k + 1))))), (.int (Int32.ofNat t)), (.ref ea)])) rfl rfl (hb hby d8_72)
          rw [(own_nb _)] at W9
          have V9 : AV Z h9 ea .byte n (upd f t (.int (bA (vl (g k)) (vl (g (k + 1)))))) := AV.set V_e (k := t) (Int32.toInt_ofNat_of_lt (by omega)) (by omega) W9
          have N9 := Fr.snoc X9 N4 g_e
          have Z9 : n0 ≤ h9.size := Nat.le_trans Z0 (Keep.of_wr W9).1
          have K9 : Keep hI h9 [ea] := K0.wr W9 (Or.inl (List.mem_of_getElem? (i := 0) rfl))
          refine Go.step (st9) ?_
          show Go _ _ _ _ _ _ _ T9 (mkF m 73 _ [])
          refine Go.step (fun tt kk => XS.aloadN X9.here hx rfl (hb hby d8_73) rfl rfl kk) ?_
          show Go _ _ _ _ _ _ _ T9 (mkF m 74 _ [(.ref ea)])
          refine Go.step (fun tt kk => XS.iloadN X9.here hx rfl (hb hby d8_74) rfl kk) ?_
          show Go _ _ _ _ _ _ _ T9 (mkF m 75 _ [(.int (Int32.ofNat t)), (.ref ea)])
          refine Go.step (fun tt kk => XS.iconst X9.here hx rfl (hb hby d8_75) kk) ?_
          show Go _ _ _ _ _ _ _ T9 (mkF m 76 _ [(.int (1 : Int32)), (.int (Int32.ofNat t)), (.ref ea)])
          refine Go.step (fun tt kk => XS.iadd X9.here hx rfl (hb hby d8_76) rfl kk) ?_
          show Go _ _ _ _ _ _ _ T9 (mkF m 77 _ [(.int ((Int32.ofNat t) + (1 : Int32))), (.ref ea)])
          refine Go.step (fun tt kk => XS.iload X9.here hx rfl (hb hby d8_77) rfl kk) ?_
          show Go _ _ _ _ _ _ _ T9 (mkF m 79 _ [(.int (vl (g (k + 1)))), (.int ((Int32.ofNat t) + (1 : Int32))), (.ref ea)])
          refine Go.step (fun tt kk => XS.bipush X9.here hx rfl (hb hby d8_79) kk) ?_
          show Go _ _ _ _ _ _ _ T9 (mkF m 81 _ [(.int (15 : Int32)), (.int (vl (g (k + 1)))), (.int ((Int32.ofNat t) + (1 : Int32))), (.ref ea)])
          refine Go.step (fun tt kk => XS.iand X9.here hx rfl (hb hby d8_81) rfl kk) ?_
          show Go _ _ _ _ _ _ _ T9 (mkF m 82 _ [(.int ((vl (g (k + 1))) &&& (15 : Int32))), (.int ((Int32.ofNat t) + (1 : Int32))), (.ref ea)])
          refine Go.step (fun tt kk => XS.iconst X9.here hx rfl (hb hby d8_82) kk) ?_
          show Go _ _ _ _ _ _ _ T9 (mkF m 83 _ [(.int (4 : Int32)), (.int ((vl (g (k + 1))) &&& (15 : Int32))), (.int ((Int32.ofNat t) + (1 : Int32))), (.ref ea)])
          refine Go.step (fun tt kk => XS.ishl X9.here hx rfl (hb hby d8_83) rfl kk) ?_
          show Go _ _ _ _ _ _ _ T9 (mkF m 84 _ [(.int (((vl (g (k + 1))) &&& (15 : Int32)) <<< ((4 : Int32) &&& 31))), (.int ((Int32.ofNat t) + (1 : Int32))), (.ref ea)])
          refine Go.step (fun tt kk => XS.iload X9.here hx rfl (hb hby d8_84) rfl kk) ?_
          show Go _ _ _ _ _ _ _ T9 (mkF m 86 _ [(.int (vl (g (k + 2)))), (.int (((vl (g (k + 1))) &&& (15 : Int32)) <<< ((4 : Int32) &&& 31))), (.int ((Int32.ofNat t) + (1 : Int32))), (.ref ea)])
          refine Go.step (fun tt kk => XS.iconst X9.here hx rfl (hb hby d8_86) kk) ?_
          show Go _ _ _ _ _ _ _ T9 (mkF m 87 _ [(.int (2 : Int32)), (.int (vl (g (k + 2)))), (.int (((vl (g (k + 1))) &&& (15 : Int32)) <<< ((4 : Int32) &&& 31))), (.int ((Int32.ofNat t) + (1 : Int32))), (.ref ea)])
          refine Go.step (fun tt kk => XS.ishr X9.here hx rfl (hb hby d8_87) rfl kk) ?_
          show Go _ _ _ _ _ _ _ T9 (mkF m 88 _ [(.int ((vl (g (k + 2))) >>> ((2 : Int32) &&& 31))), (.int (((vl (g (k + 1))) &&& (15 : Int32)) <<< ((4 : Int32) &&& 31))), (.int ((Int32.ofNat t) + (1 : Int32))), (.ref ea)])
          refine Go.step (fun tt kk => XS.ior X9.here hx rfl (hb hby d8_88) rfl kk) ?_
          show Go _ _ _ _ _ _ _ T9 (mkF m 89 _ [(.int ((((vl (g (k + 1))) &&& (15 : Int32)) <<< ((4 : Int32) &&& 31)) ||| ((vl (g (k + 2))) >>> ((2 : Int32) &&& 31)))), (.int ((Int32.ofNat t) + (1 : Int32))), (.ref ea)])
          refine Go.step (fun tt kk => XS.i2b X9.here hx rfl (hb hby d8_89) rfl kk) ?_
          show Go _ _ _ _ _ _ _ T9 (mkF m 90 _ [(.int (((((vl (g (k + 1))) &&& (15 : Int32)) <<< ((4 : Int32) &&& 31)) ||| ((vl (g (k + 2))) >>> ((2 : Int32) &&& 31))).toInt8.toInt32)), (.int ((Int32.ofNat t) + (1 : Int32))), (.ref ea)])
          rw [show Int32.ofNat t + (1 : Int32) = Int32.ofNat (t + 1) from own_add t 1]
          show Go _ _ _ _ _ _ _ T9 (mkF m 90 #[.val (.ref w_), .val (.int (Int32.ofNat k)), .val (.ref ea), .val (.int (Int32.ofNat t)), .val (.int (vl (g k))), .val (.int (vl (g (k + 1)))), .val (.int (vl (g (k + 2)))), .val (.int (vl (g (k + 3))))] [(.int (bB (vl (g (k + 1))) (vl (g (k + 2))))), (.int (Int32.ofNat (t + 1))), (.ref ea)])
          obtain ⟨cl10, Ar10, hin10, -⟩ := V9.at (j := (Int32.ofNat (t + 1))) (k := (t + 1)) (Int32.toInt_ofNat_of_lt (by omega)) (by omega)
          obtain ⟨T10, h10, X10, e10, W10, st10⟩ := stB X9 hx hZ e9 Ar10 (j := (Int32.ofNat (t + 1))) hin10 (g := (mkF m 90 #[.val (.ref w_), .val (.int (Int32.ofNat k)), .val (.ref ea), .val (.int (Int32.ofNat t)), .val (.int (vl (g k))), .val (.int (vl (g (k + 1)))), .val (.int (vl (g (k + 2)))), .val (.int (vl (g (k + 3))))] [(.int (bB (vl (g (k + 1))) (vl (g (k + 2))))), (.int (Int32.ofNat (t + 1))), (.ref ea)])) rfl rfl (hb hby d8_90)
          rw [(own_nb _)] at W10
          have V10 : AV Z h10 ea .byte n (upd (upd f t (.int (bA (vl (g k)) (vl (g (k + 1)))))) (t + 1) (.int (bB (vl (g (k + 1))) (vl (g (k + 2)))))) := AV.set V9 (k := (t + 1)) (Int32.toInt_ofNat_of_lt (by omega)) (by omega) W10
          have N10 := Fr.snoc X10 N9 g_e
          have Z10 : n0 ≤ h10.size := Nat.le_trans Z9 (Keep.of_wr W10).1
          have K10 : Keep hI h10 [ea] := K9.wr W10 (Or.inl (List.mem_of_getElem? (i := 0) rfl))
          refine Go.step (st10) ?_
          show Go _ _ _ _ _ _ _ T10 (mkF m 91 _ [])
          refine Go.step (fun tt kk => XS.aloadN X10.here hx rfl (hb hby d8_91) rfl rfl kk) ?_
          show Go _ _ _ _ _ _ _ T10 (mkF m 92 _ [(.ref ea)])
          refine Go.step (fun tt kk => XS.iloadN X10.here hx rfl (hb hby d8_92) rfl kk) ?_
          show Go _ _ _ _ _ _ _ T10 (mkF m 93 _ [(.int (Int32.ofNat t)), (.ref ea)])
          refine Go.step (fun tt kk => XS.iconst X10.here hx rfl (hb hby d8_93) kk) ?_
          show Go _ _ _ _ _ _ _ T10 (mkF m 94 _ [(.int (2 : Int32)), (.int (Int32.ofNat t)), (.ref ea)])
          refine Go.step (fun tt kk => XS.iadd X10.here hx rfl (hb hby d8_94) rfl kk) ?_
          show Go _ _ _ _ _ _ _ T10 (mkF m 95 _ [(.int ((Int32.ofNat t) + (2 : Int32))), (.ref ea)])
          refine Go.step (fun tt kk => XS.iload X10.here hx rfl (hb hby d8_95) rfl kk) ?_
          show Go _ _ _ _ _ _ _ T10 (mkF m 97 _ [(.int (vl (g (k + 2)))), (.int ((Int32.ofNat t) + (2 : Int32))), (.ref ea)])
          refine Go.step (fun tt kk => XS.iconst X10.here hx rfl (hb hby d8_97) kk) ?_
          show Go _ _ _ _ _ _ _ T10 (mkF m 98 _ [(.int (3 : Int32)), (.int (vl (g (k + 2)))), (.int ((Int32.ofNat t) + (2 : Int32))), (.ref ea)])
          refine Go.step (fun tt kk => XS.iand X10.here hx rfl (hb hby d8_98) rfl kk) ?_
          show Go _ _ _ _ _ _ _ T10 (mkF m 99 _ [(.int ((vl (g (k + 2))) &&& (3 : Int32))), (.int ((Int32.ofNat t) + (2 : Int32))), (.ref ea)])
          refine Go.step (fun tt kk => XS.bipush X10.here hx rfl (hb hby d8_99) kk) ?_
          show Go _ _ _ _ _ _ _ T10 (mkF m 101 _ [(.int (6 : Int32)), (.int ((vl (g (k + 2))) &&& (3 : Int32))), (.int ((Int32.ofNat t) + (2 : Int32))), (.ref ea)])
          refine Go.step (fun tt kk => XS.ishl X10.here hx rfl (hb hby d8_101) rfl kk) ?_
          show Go _ _ _ _ _ _ _ T10 (mkF m 102 _ [(.int (((vl (g (k + 2))) &&& (3 : Int32)) <<< ((6 : Int32) &&& 31))), (.int ((Int32.ofNat t) + (2 : Int32))), (.ref ea)])
          refine Go.step (fun tt kk => XS.iload X10.here hx rfl (hb hby d8_102) rfl kk) ?_
          show Go _ _ _ _ _ _ _ T10 (mkF m 104 _ [(.int (vl (g (k + 3)))), (.int (((vl (g (k + 2))) &&& (3 : Int32)) <<< ((6 : Int32) &&& 31))), (.int ((Int32.ofNat t) + (2 : Int32))), (.ref ea)])
          refine Go.step (fun tt kk => XS.ior X10.here hx rfl (hb hby d8_104) rfl kk) ?_
          show Go _ _ _ _ _ _ _ T10 (mkF m 105 _ [(.int ((((vl (g (k + 2))) &&& (3 : Int32)) <<< ((6 : Int32) &&& 31)) ||| (vl (g (k + 3))))), (.int ((Int32.ofNat t) + (2 : Int32))), (.ref ea)])
          refine Go.step (fun tt kk => XS.i2b X10.here hx rfl (hb hby d8_105) rfl kk) ?_
          show Go _ _ _ _ _ _ _ T10 (mkF m 106 _ [(.int (((((vl (g (k + 2))) &&& (3 : Int32)) <<< ((6 : Int32) &&& 31)) ||| (vl (g (k + 3)))).toInt8.toInt32)), (.int ((Int32.ofNat t) + (2 : Int32))), (.ref ea)])
          rw [show Int32.ofNat t + (2 : Int32) = Int32.ofNat (t + 2) from own_add t 2]
          show Go _ _ _ _ _ _ _ T10 (mkF m 106 #[.val (.ref w_), .val (.int (Int32.ofNat k)), .val (.ref ea), .val (.int (Int32.ofNat t)), .val (.int (vl (g k))), .val (.int (vl (g (k + 1)))), .val (.int (vl (g (k + 2)))), .val (.int (vl (g (k + 3))))] [(.int (bC (vl (g (k + 2))) (vl (g (k + 3))))), (.int (Int32.ofNat (t + 2))), (.ref ea)])
          obtain ⟨cl11, Ar11, hin11, -⟩ := V10.at (j := (Int32.ofNat (t + 2))) (k := (t + 2)) (Int32.toInt_ofNat_of_lt (by omega)) (by omega)
          obtain ⟨T11, h11, X11, e11, W11, st11⟩ := stB X10 hx hZ e10 Ar11 (j := (Int32.ofNat (t + 2))) hin11 (g := (mkF m 106 #[.val (.ref w_), .val (.int (Int32.ofNat k)), .val (.ref ea), .val (.int (Int32.ofNat t)), .val (.int (vl (g k))), .val (.int (vl (g (k + 1)))), .val (.int (vl (g (k + 2)))), .val (.int (vl (g (k + 3))))] [(.int (bC (vl (g (k + 2))) (vl (g (k + 3))))), (.int (Int32.ofNat (t + 2))), (.ref ea)])) rfl rfl (hb hby d8_106)
          rw [(own_nb _)] at W11
          have V11 : AV Z h11 ea .byte n (upd (upd (upd f t (.int (bA (vl (g k)) (vl (g (k + 1)))))) (t + 1) (.int (bB (vl (g (k + 1))) (vl (g (k + 2)))))) (t + 2) (.int (bC (vl (g (k + 2))) (vl (g (k + 3)))))) := AV.set V10 (k := (t + 2)) (Int32.toInt_ofNat_of_lt (by omega)) (by omega) W11
          have N11 := Fr.snoc X11 N10 g_e
          have Z11 : n0 ≤ h11.size := Nat.le_trans Z10 (Keep.of_wr W11).1
          have K11 : Keep hI h11 [ea] := K10.wr W11 (Or.inl (List.mem_of_getElem? (i := 0) rfl))
          refine Go.step (st11) ?_
          show Go _ _ _ _ _ _ _ T11 (mkF m 107 _ [])
          refine Go.step (fun tt kk => XS.iconst X11.here hx rfl (hb hby d8_107) kk) ?_
          show Go _ _ _ _ _ _ _ T11 (mkF m 108 _ [(.int (1 : Int32))])
          refine go_retN X11 hx (t := .boolean) hret (by simp) hlk (hb hby d8_108) (w := (1 : Int32)) rfl ?_ (by decide) (by decide)
          try rw [e11]
          exact ⟨congrArg (fun z => some (Value.int z)) (bi_t (by simp only [OK4, eq_false c40_5, eq_false c45_6, eq_false c50_7, eq_false c55_8, not_true_eq_false, not_false_eq_true, and_true, true_and, and_false, false_and, or_true, true_or, or_false, false_or, and_self, or_self])).symm, N11, eI ▸ K11, fun _ => V11⟩
theorem ef_rmEx40 (m : MethodId) (x0 : Addr) (x1 : Int32) (x2 : Int32) : entryFrame m #[(.ref x0), (.int x1), (.int x2)] 10 = mkF m 0 #[.val (.ref x0), .val (.int x1), .val (.int x2), .unset, .unset, .unset, .unset, .unset, .unset, .unset] [] := by first | (simp [entryFrame, mkF, argsToLocals, Value.category]; done) | rfl
theorem d4_0 : decode method_6_code 0 = .ok (.iload_n 1, 1) := by decide +kernel
theorem d4_1 : decode method_6_code 1 = .ok (.iconst 4, 1) := by decide +kernel
theorem d4_2 : decode method_6_code 2 = .ok (.irem, 1) := by decide +kernel
theorem d4_3 : decode method_6_code 3 = .ok (.ifCond .eq 5, 3) := by decide +kernel
theorem d4_8 : decode method_6_code 8 = .ok (.iload_n 1, 1) := by decide +kernel
theorem d4_9 : decode method_6_code 9 = .ok (.ifCond .ne 7, 3) := by decide +kernel
theorem d4_16 : decode method_6_code 16 = .ok (.aload_n 0, 1) := by decide +kernel
theorem d4_17 : decode method_6_code 17 = .ok (.iload_n 1, 1) := by decide +kernel
theorem d4_18 : decode method_6_code 18 = .ok (.iconst 1, 1) := by decide +kernel
theorem d4_19 : decode method_6_code 19 = .ok (.isub, 1) := by decide +kernel
theorem d4_20 : decode method_6_code 20 = .ok (.caload, 1) := by decide +kernel
theorem d4_21 : decode method_6_code 21 = .ok (.bipush 61, 2) := by decide +kernel
theorem d4_23 : decode method_6_code 23 = .ok (.if_icmp .eq 7, 3) := by decide +kernel
theorem d4_26 : decode method_6_code 26 = .ok (.iconst 0, 1) := by decide +kernel
theorem d4_27 : decode method_6_code 27 = .ok (.goto 18, 3) := by decide +kernel
theorem d4_45 : decode method_6_code 45 = .ok (.istore_n 3, 1) := by decide +kernel
theorem d4_46 : decode method_6_code 46 = .ok (.iload_n 2, 1) := by decide +kernel
theorem d4_47 : decode method_6_code 47 = .ok (.iload_n 1, 1) := by decide +kernel
theorem d4_48 : decode method_6_code 48 = .ok (.iconst 4, 1) := by decide +kernel
theorem d4_49 : decode method_6_code 49 = .ok (.idiv, 1) := by decide +kernel
theorem d4_50 : decode method_6_code 50 = .ok (.iconst 3, 1) := by decide +kernel
theorem d4_51 : decode method_6_code 51 = .ok (.imul, 1) := by decide +kernel
theorem d4_52 : decode method_6_code 52 = .ok (.iadd, 1) := by decide +kernel
theorem d4_53 : decode method_6_code 53 = .ok (.iload_n 3, 1) := by decide +kernel
theorem d4_54 : decode method_6_code 54 = .ok (.isub, 1) := by decide +kernel
theorem d4_55 : decode method_6_code 55 = .ok (.newarray .byte, 2) := by decide +kernel
theorem d4_57 : decode method_6_code 57 = .ok (.astore 4, 2) := by decide +kernel
theorem d4_59 : decode method_6_code 59 = .ok (.iload_n 2, 1) := by decide +kernel
theorem d4_60 : decode method_6_code 60 = .ok (.istore 5, 2) := by decide +kernel
theorem d4_62 : decode method_6_code 62 = .ok (.iload_n 1, 1) := by decide +kernel
theorem d4_63 : decode method_6_code 63 = .ok (.bipush 8, 2) := by decide +kernel
theorem d4_65 : decode method_6_code 65 = .ok (.if_icmp .ne 21, 3) := by decide +kernel
theorem d4_86 : decode method_6_code 86 = .ok (.iload_n 1, 1) := by decide +kernel
theorem d4_87 : decode method_6_code 87 = .ok (.iconst 4, 1) := by decide +kernel
theorem d4_88 : decode method_6_code 88 = .ok (.isub, 1) := by decide +kernel
theorem d4_89 : decode method_6_code 89 = .ok (.istore 6, 2) := by decide +kernel
theorem d4_91 : decode method_6_code 91 = .ok (.iload_n 3, 1) := by decide +kernel
theorem d4_92 : decode method_6_code 92 = .ok (.ifCond .ne 23, 3) := by decide +kernel
theorem d4_95 : decode method_6_code 95 = .ok (.aload_n 0, 1) := by decide +kernel
theorem d4_96 : decode method_6_code 96 = .ok (.iload 6, 2) := by decide +kernel
theorem d4_98 : decode method_6_code 98 = .ok (.aload 4, 2) := by decide +kernel
theorem d4_100 : decode method_6_code 100 = .ok (.iload 5, 2) := by decide +kernel
theorem pd_2 : parseMethodDescriptor "([CI[BI)Z" = some ⟨[(.array .char), .int, (.array .byte), .int], some .boolean⟩ := by decide +kernel
theorem d4_102 : decode method_6_code 102 = .ok (.invokestatic 34, 3) := by decide +kernel
theorem d4_105 : decode method_6_code 105 = .ok (.ifCond .eq 8, 3) := by decide +kernel
theorem d4_108 : decode method_6_code 108 = .ok (.aload 4, 2) := by decide +kernel
theorem d4_110 : decode method_6_code 110 = .ok (.goto 4, 3) := by decide +kernel
theorem d4_114 : decode method_6_code 114 = .ok (.areturn, 1) := by decide +kernel
theorem d4_113 : decode method_6_code 113 = .ok (.aconst_null, 1) := by decide +kernel
set_option maxRecDepth 65536 in
set_option maxHeartbeats 40000000 in
theorem rmEx40 (l : Launch) (Z : State) (a0 : Array Value) (hw : ∀ d ∈ tables_1, d.before a0 Z = true) (ws : List Jvm.Cond) (w_ : Addr) (bf : Nat) (g : Nat → Int32) (h0 : Heap) (n0 : Nat) (Z0 : n0 ≤ h0.size) (hbf : bf ≤ 3) (hg : CH g) (hp1 : ¬ g 3 = 61) (V_w : AV Z h0 w_ .char 8 (gv g)) :
    Ctr l Z (⟨"com/example/sharks/sharks/StandardBase64DecodePinLaw", "expected", "([CII)[B"⟩ : MethodName) method_6_code 10 (some (.array .byte)) ws ({ frames := 2, cells := 1, slots := 9, locals := 31 } : Room) 1 9 #[(.ref w_), (.int (4 : Int32)), (.int (Int32.ofNat bf))] h0 (fun v h L => Fr n0 L ∧ Keep h0 h [] ∧ ((OK4 g 0) → ∃ b, v = some (.ref b) ∧ h0.size ≤ b ∧ AV Z h b .byte (bf + 3) (gv (exI g bf))) ∧ (¬ (OK4 g 0) → v = some .null)) := by
  refine Ctr.mk (plainFor_of_name pn_0) fun p e s m below meth c T0 X0 C e0 => go_cast (ef_rmEx40 m w_ (4 : Int32) (Int32.ofNat bf)) ?_
  have N0 := Fr.nil n0
  obtain ⟨hx, hZ, hby, hml, hown, hnm, hret, hlk⟩ := C
  obtain ⟨hI, eI⟩ : ∃ z, z = h0 := ⟨_, rfl⟩
  have K0 : Keep hI h0 [] := by rw [eI]; exact Keep.refl _ _
  show Go _ _ _ _ _ _ _ T0 (mkF m 0 #[.val (.ref w_), .val (.int (4 : Int32)), .val (.int (Int32.ofNat bf)), .unset, .unset, .unset, .unset, .unset, .unset, .unset] [])
  refine Go.step (fun tt kk => XS.iloadN X0.here hx rfl (hb hby d4_0) rfl kk) ?_
  show Go _ _ _ _ _ _ _ T0 (mkF m 1 _ [(.int (4 : Int32))])
  refine Go.step (fun tt kk => XS.iconst X0.here hx rfl (hb hby d4_1) kk) ?_
  show Go _ _ _ _ _ _ _ T0 (mkF m 2 _ [(.int (4 : Int32)), (.int (4 : Int32))])
  refine Go.step (fun tt kk => iremM X0 hx rfl (hb hby d4_2) rfl (by decide) kk) ?_
  show Go _ _ _ _ _ _ _ T0 (mkF m 3 _ [(.int ((4 : Int32) % (4 : Int32)))])
  refine Go.step (fun tt kk => XS.ifYes X0.here hx rfl (pc0 := 3) (pc' := 8) rfl (hb hby d4_3) rfl ((if0 _ _).trans (teq (by decide)).1) (by decide) (by decide) kk) ?_
  show Go _ _ _ _ _ _ _ T0 (mkF m 8 _ [])
  refine Go.step (fun tt kk => XS.iloadN X0.here hx rfl (hb hby d4_8) rfl kk) ?_
  show Go _ _ _ _ _ _ _ T0 (mkF m 9 _ [(.int (4 : Int32))])
  refine Go.step (fun tt kk => XS.ifYes X0.here hx rfl (pc0 := 9) (pc' := 16) rfl (hb hby d4_9) rfl ((if0 _ _).trans (feq (by decide)).2) (by decide) (by decide) kk) ?_
  show Go _ _ _ _ _ _ _ T0 (mkF m 16 _ [])
  refine Go.step (fun tt kk => XS.aloadN X0.here hx rfl (hb hby d4_16) rfl rfl kk) ?_
  show Go _ _ _ _ _ _ _ T0 (mkF m 17 _ [(.ref w_)])
  refine Go.step (fun tt kk => XS.iloadN X0.here hx rfl (hb hby d4_17) rfl kk) ?_
  show Go _ _ _ _ _ _ _ T0 (mkF m 18 _ [(.int (4 : Int32)), (.ref w_)])
  refine Go.step (fun tt kk => XS.iconst X0.here hx rfl (hb hby d4_18) kk) ?_
  show Go _ _ _ _ _ _ _ T0 (mkF m 19 _ [(.int (1 : Int32)), (.int (4 : Int32)), (.ref w_)])
  refine Go.step (fun tt kk => XS.isub X0.here hx rfl (hb hby d4_19) rfl kk) ?_
  show Go _ _ _ _ _ _ _ T0 (mkF m 20 _ [(.int ((4 : Int32) - (1 : Int32))), (.ref w_)])
  refine Go.step (a_cload X0 hx hZ e0 V_w (k := 3) (by decide) (by decide) (x := (g 3)) rfl (hb hby d4_20)) ?_
  show Go _ _ _ _ _ _ _ T0 (mkF m 21 _ [(.int (g 3))])
  refine Go.step (fun tt kk => XS.bipush X0.here hx rfl (hb hby d4_21) kk) ?_
  show Go _ _ _ _ _ _ _ T0 (mkF m 23 _ [(.int (61 : Int32)), (.int (g 3))])
  refine Go.step (fun tt kk => XS.icmpNo X0.here hx rfl (hb hby d4_23) rfl (feq hp1).1 kk) ?_
  show Go _ _ _ _ _ _ _ T0 (mkF m 26 _ [])
  refine Go.step (fun tt kk => XS.iconst X0.here hx rfl (hb hby d4_26) kk) ?_
  show Go _ _ _ _ _ _ _ T0 (mkF m 27 _ [(.int (0 : Int32))])
  refine Go.step (fun tt kk => XS.goto X0.here hx rfl (pc0 := 27) (pc' := 45) rfl (hb hby d4_27) (by decide) (by decide) kk) ?_
  show Go _ _ _ _ _ _ _ T0 (mkF m 45 _ [(.int (0 : Int32))])
  refine Go.step (fun tt kk => XS.istoreN X0.here hx rfl (hb hby d4_45) rfl (l' := #[.val (.ref w_), .val (.int (4 : Int32)), .val (.int (Int32.ofNat bf)), .val (.int (0 : Int32)), .unset, .unset, .unset, .unset, .unset, .unset]) rfl kk) ?_
  show Go _ _ _ _ _ _ _ T0 (mkF m 46 _ [])
  refine Go.step (fun tt kk => XS.iloadN X0.here hx rfl (hb hby d4_46) rfl kk) ?_
  show Go _ _ _ _ _ _ _ T0 (mkF m 47 _ [(.int (Int32.ofNat bf))])
  refine Go.step (fun tt kk => XS.iloadN X0.here hx rfl (hb hby d4_47) rfl kk) ?_
  show Go _ _ _ _ _ _ _ T0 (mkF m 48 _ [(.int (4 : Int32)), (.int (Int32.ofNat bf))])
  refine Go.step (fun tt kk => XS.iconst X0.here hx rfl (hb hby d4_48) kk) ?_
  show Go _ _ _ _ _ _ _ T0 (mkF m 49 _ [(.int (4 : Int32)), (.int (4 : Int32)), (.int (Int32.ofNat bf))])
  refine Go.step (fun tt kk => XS.idiv X0.here hx rfl (hb hby d4_49) rfl (by decide) kk) ?_
  show Go _ _ _ _ _ _ _ T0 (mkF m 50 _ [(.int ((4 : Int32) / (4 : Int32))), (.int (Int32.ofNat bf))])
  refine Go.step (fun tt kk => XS.iconst X0.here hx rfl (hb hby d4_50) kk) ?_
  show Go _ _ _ _ _ _ _ T0 (mkF m 51 _ [(.int (3 : Int32)), (.int ((4 : Int32) / (4 : Int32))), (.int (Int32.ofNat bf))])
  refine Go.step (fun tt kk => XS.imul X0.here hx rfl (hb hby d4_51) rfl kk) ?_
  show Go _ _ _ _ _ _ _ T0 (mkF m 52 _ [(.int (((4 : Int32) / (4 : Int32)) * (3 : Int32))), (.int (Int32.ofNat bf))])
  refine Go.step (fun tt kk => XS.iadd X0.here hx rfl (hb hby d4_52) rfl kk) ?_
  show Go _ _ _ _ _ _ _ T0 (mkF m 53 _ [(.int ((Int32.ofNat bf) + (((4 : Int32) / (4 : Int32)) * (3 : Int32))))])
  refine Go.step (fun tt kk => XS.iloadN X0.here hx rfl (hb hby d4_53) rfl kk) ?_
  show Go _ _ _ _ _ _ _ T0 (mkF m 54 _ [(.int (0 : Int32)), (.int ((Int32.ofNat bf) + (((4 : Int32) / (4 : Int32)) * (3 : Int32))))])
  refine Go.step (fun tt kk => XS.isub X0.here hx rfl (hb hby d4_54) rfl kk) ?_
  show Go _ _ _ _ _ _ _ T0 (mkF m 55 _ [(.int (((Int32.ofNat bf) + (((4 : Int32) / (4 : Int32)) * (3 : Int32))) - (0 : Int32)))])
  rw [show (((Int32.ofNat bf) + (((4 : Int32) / (4 : Int32)) * (3 : Int32))) - (0 : Int32)) = Int32.ofNat (bf + 3) from by rw [show (((4 : Int32) / (4 : Int32)) * (3 : Int32)) = Int32.ofNat 3 by decide, own_add]; exact own_sub (bf + 3) 0 (by omega) (by omega)]
  show Go _ _ _ _ _ _ _ T0 (mkF m 55 #[.val (.ref w_), .val (.int (4 : Int32)), .val (.int (Int32.ofNat bf)), .val (.int (0 : Int32)), .unset, .unset, .unset, .unset, .unset, .unset] [(.int (Int32.ofNat (bf + 3)))])
  obtain ⟨T1, h1, k1, X1, e1, E1, A1, EA1, st1⟩ := newPE X0 hx hZ (hw _ (List.mem_of_getElem? (i := 20) rfl)) e0 (g := (mkF m 55 #[.val (.ref w_), .val (.int (4 : Int32)), .val (.int (Int32.ofNat bf)), .val (.int (0 : Int32)), .unset, .unset, .unset, .unset, .unset, .unset] [(.int (Int32.ofNat (bf + 3)))])) rfl (hb hby d4_55) rfl (own_nn (bf + 3) (by omega)) (cap := 9) (by rw [clamp_of (k := bf + 3) (Int32.toInt_ofNat_of_lt (by omega))]; omega) (by decide) (by decide) (by decide) (ad := "[B") rfl
  obtain ⟨b1, g1⟩ : ∃ z, z = h0.size := ⟨_, rfl⟩
  rw [← g1] at A1 EA1 st1
  have ne_w__b1 : w_ ≠ b1 := Nat.ne_of_lt (Nat.lt_of_lt_of_le V_w.lt (Nat.le_of_eq g1.symm))
  have gn_b1 : n0 ≤ b1 := Nat.le_trans Z0 (Nat.le_of_eq g1.symm)
  have sz_b1 : hI.size ≤ b1 := Nat.le_trans K0.1 (Nat.le_of_eq g1.symm)
  have Z1 : n0 ≤ h1.size := Nat.le_trans Z0 E1.1
  have K1 : Keep hI h1 [] := K0.ext E1
  have V1 : AV Z h1 b1 .byte (bf + 3) (fun _ => (.int (0 : Int32))) := AV.new A1 (Int32.toInt_ofNat_of_lt (by omega))
  refine Go.step (st1) ?_
  show Go _ _ _ _ _ _ _ T1 (mkF m 57 _ [(.ref b1)])
  refine Go.step (fun tt kk => XS.astore X1.here hx rfl (hb hby d4_57) rfl rfl (l' := #[.val (.ref w_), .val (.int (4 : Int32)), .val (.int (Int32.ofNat bf)), .val (.int (0 : Int32)), .val (.ref b1), .unset, .unset, .unset, .unset, .unset]) rfl kk) ?_
  show Go _ _ _ _ _ _ _ T1 (mkF m 59 _ [])
  refine Go.step (fun tt kk => XS.iloadN X1.here hx rfl (hb hby d4_59) rfl kk) ?_
  show Go _ _ _ _ _ _ _ T1 (mkF m 60 _ [(.int (Int32.ofNat bf))])
  refine Go.step (fun tt kk => XS.istore X1.here hx rfl (hb hby d4_60) rfl (l' := #[.val (.ref w_), .val (.int (4 : Int32)), .val (.int (Int32.ofNat bf)), .val (.int (0 : Int32)), .val (.ref b1), .val (.int (Int32.ofNat bf)), .unset, .unset, .unset, .unset]) rfl kk) ?_
  show Go _ _ _ _ _ _ _ T1 (mkF m 62 _ [])
  refine Go.step (fun tt kk => XS.iloadN X1.here hx rfl (hb hby d4_62) rfl kk) ?_
  show Go _ _ _ _ _ _ _ T1 (mkF m 63 _ [(.int (4 : Int32))])
  refine Go.step (fun tt kk => XS.bipush X1.here hx rfl (hb hby d4_63) kk) ?_
  show Go _ _ _ _ _ _ _ T1 (mkF m 65 _ [(.int (8 : Int32)), (.int (4 : Int32))])
  refine Go.step (fun tt kk => XS.icmpYes X1.here hx rfl (pc0 := 65) (pc' := 86) rfl (hb hby d4_65) rfl (feq (by decide)).2 (by decide) (by decide) kk) ?_
  show Go _ _ _ _ _ _ _ T1 (mkF m 86 _ [])
  refine Go.step (fun tt kk => XS.iloadN X1.here hx rfl (hb hby d4_86) rfl kk) ?_
  show Go _ _ _ _ _ _ _ T1 (mkF m 87 _ [(.int (4 : Int32))])
  refine Go.step (fun tt kk => XS.iconst X1.here hx rfl (hb hby d4_87) kk) ?_
  show Go _ _ _ _ _ _ _ T1 (mkF m 88 _ [(.int (4 : Int32)), (.int (4 : Int32))])
  refine Go.step (fun tt kk => XS.isub X1.here hx rfl (hb hby d4_88) rfl kk) ?_
  show Go _ _ _ _ _ _ _ T1 (mkF m 89 _ [(.int ((4 : Int32) - (4 : Int32)))])
  refine Go.step (fun tt kk => XS.istore X1.here hx rfl (hb hby d4_89) rfl (l' := #[.val (.ref w_), .val (.int (4 : Int32)), .val (.int (Int32.ofNat bf)), .val (.int (0 : Int32)), .val (.ref b1), .val (.int (Int32.ofNat bf)), .val (.int ((4 : Int32) - (4 : Int32))), .unset, .unset, .unset]) rfl kk) ?_
  show Go _ _ _ _ _ _ _ T1 (mkF m 91 _ [])
  rw [show ((4 : Int32) - (4 : Int32)) = (0 : Int32) by decide]
  show Go _ _ _ _ _ _ _ T1 (mkF m 91 #[.val (.ref w_), .val (.int (4 : Int32)), .val (.int (Int32.ofNat bf)), .val (.int (0 : Int32)), .val (.ref b1), .val (.int (Int32.ofNat bf)), .val (.int (0 : Int32)), .unset, .unset, .unset] [])
  refine Go.step (fun tt kk => XS.iloadN X1.here hx rfl (hb hby d4_91) rfl kk) ?_
  show Go _ _ _ _ _ _ _ T1 (mkF m 92 _ [(.int (0 : Int32))])
  refine Go.step (fun tt kk => XS.ifNo X1.here hx rfl (hb hby d4_92) rfl ((if0 _ _).trans (teq (by decide)).2) kk) ?_
  show Go _ _ _ _ _ _ _ T1 (mkF m 95 _ [])
  refine Go.step (fun tt kk => XS.aloadN X1.here hx rfl (hb hby d4_95) rfl rfl kk) ?_
  show Go _ _ _ _ _ _ _ T1 (mkF m 96 _ [(.ref w_)])
  refine Go.step (fun tt kk => XS.iload X1.here hx rfl (hb hby d4_96) rfl kk) ?_
  show Go _ _ _ _ _ _ _ T1 (mkF m 98 _ [(.int (0 : Int32)), (.ref w_)])
  refine Go.step (fun tt kk => XS.aload X1.here hx rfl (hb hby d4_98) rfl rfl kk) ?_
  show Go _ _ _ _ _ _ _ T1 (mkF m 100 _ [(.ref b1), (.int (0 : Int32)), (.ref w_)])
  refine Go.step (fun tt kk => XS.iload X1.here hx rfl (hb hby d4_100) rfl kk) ?_
  show Go _ _ _ _ _ _ _ T1 (mkF m 102 _ [(.int (Int32.ofNat bf)), (.ref b1), (.int (0 : Int32)), (.ref w_)])
  have f3 := (V_w.ext E1)
  obtain ⟨v2, T2, L2, X2, q2, st2⟩ := c_static X1 hx hZ hown (y := (⟨"com/example/sharks/sharks/StandardBase64DecodePinLaw", "full", "([CI[BI)Z"⟩ : MethodName)) (hw _ (List.mem_of_getElem? (i := 29) rfl)) (hw _ (List.mem_of_getElem? (i := 30) rfl)) (hw _ (List.mem_of_getElem? (i := 4) rfl)) (hw _ (List.mem_of_getElem? (i := 31) rfl)) (by decide) (argsL := [(.ref w_), (.int (0 : Int32)), (.ref b1), (.int (Int32.ofNat bf))]) (rest := []) (rmFu l Z a0 hw [] w_ b1 0 bf (bf + 3) g (fun _ => (.int (0 : Int32))) h1 n0 Z1 (by omega) (by omega) (by omega) f3 V1 ne_w__b1 gn_b1) e1 pd_2 rfl (by rw [hml]; rfl) (W := 0) (by show 2 * 0 + _ ≤ _; exact Nat.le_of_eq rfl) (by decide) (by decide) (by decide) (by decide) (hb hby d4_102) (Ls := #[.val (.ref w_), .val (.int (4 : Int32)), .val (.int (Int32.ofNat bf)), .val (.int (0 : Int32)), .val (.ref b1), .val (.int (Int32.ofNat bf)), .val (.int (0 : Int32)), .unset, .unset, .unset])
  generalize e2 : T2.heap = h2 at q2
  obtain ⟨rfl, N2q, K2q, V2q⟩ := q2
  have N2 := Fr.app N0 N2q
  have Z2 : n0 ≤ h2.size := Nat.le_trans Z1 K2q.1
  have K2 : Keep hI h2 [] := K1.trans K2q (allS (Or.inr sz_b1) all0)
  refine Go.step (st2) ?_
  show Go _ _ _ _ _ _ _ T2 (mkF m 105 _ [(.int (bi (OK4 g 0)))])
  by_cases c105_4 : OK4 g 0
  · refine Go.step (fun tt kk => XS.ifNo X2.here hx rfl (hb hby d4_105) rfl ((if0 _ _).trans (feq (bi_n c105_4)).1) kk) ?_
    show Go _ _ _ _ _ _ _ T2 (mkF m 108 _ [])
    refine Go.step (fun tt kk => XS.aload X2.here hx rfl (hb hby d4_108) rfl rfl kk) ?_
    show Go _ _ _ _ _ _ _ T2 (mkF m 110 _ [(.ref b1)])
    refine Go.step (fun tt kk => XS.goto X2.here hx rfl (pc0 := 110) (pc' := 114) rfl (hb hby d4_110) (by decide) (by decide) kk) ?_
    show Go _ _ _ _ _ _ _ T2 (mkF m 114 _ [(.ref b1)])
    have V5 : AV Z h2 b1 .byte (bf + 3) (gv (exI g bf)) := (V2q c105_4).congr fun i hi => by
      by_cases q : i < bf
      · rw [show gv (exI g bf) i = .int 0 from congrArg Value.int (exI_lt q)]
        rw [upd_ne (by omega), upd_ne (by omega), upd_ne (by omega)]
      · obtain ⟨j, rfl⟩ : ∃ j, i = bf + j := ⟨i - bf, by omega⟩
        rw [show gv (exI g bf) (bf + j) = .int (bt g (j / 3) (j % 3)) from congrArg Value.int (exI_at j)]
        rcases (by omega : j = 0 ∨ j = 1 ∨ j = 2) with rfl | rfl | rfl
        · rw [upd_ne (by omega), upd_ne (by omega), upd_at (by omega)]; exact congrArg Value.int rfl
        · rw [upd_ne (by omega), upd_at (by omega)]; exact congrArg Value.int rfl
        · rw [upd_at (by omega)]; exact congrArg Value.int rfl
    refine go_retA X2 hx (t := (.array .byte)) hret rfl hlk rfl (hb hby d4_114) ?_ (by decide) (by decide)
    try rw [e2]
    exact ⟨N2, eI ▸ K2, fun _ => ⟨b1, rfl, eI ▸ sz_b1, V5⟩, fun z => absurd (by simp only [not_true_eq_false, not_false_eq_true, and_true, true_and, and_false, false_and, or_true, true_or, or_false, false_or, and_self, or_self, OK4, OK1, OK2, eq_true c105_4]) z⟩
  · refine Go.step (fun tt kk => XS.ifYes X2.here hx rfl (pc0 := 105) (pc' := 113) rfl (hb hby d4_105) rfl ((if0 _ _).trans (teq (bi_f c105_4)).1) (by decide) (by decide) kk) ?_
    show Go _ _ _ _ _ _ _ T2 (mkF m 113 _ [])
    refine Go.step (fun tt kk => XS.aconstNull X2.here hx rfl (hb hby d4_113) kk) ?_
    show Go _ _ _ _ _ _ _ T2 (mkF m 114 _ [.null])
    refine go_retA X2 hx (t := (.array .byte)) hret rfl hlk rfl (hb hby d4_114) ?_ (by decide) (by decide)
    try rw [e2]
    exact ⟨N2, eI ▸ K2, fun z => absurd z (by simp only [not_true_eq_false, not_false_eq_true, and_true, true_and, and_false, false_and, or_true, true_or, or_false, false_or, and_self, or_self, OK4, OK1, OK2, eq_false c105_4]), fun _ => rfl⟩
theorem ef_rmEx41 (m : MethodId) (x0 : Addr) (x1 : Int32) (x2 : Int32) : entryFrame m #[(.ref x0), (.int x1), (.int x2)] 10 = mkF m 0 #[.val (.ref x0), .val (.int x1), .val (.int x2), .unset, .unset, .unset, .unset, .unset, .unset, .unset] [] := by first | (simp [entryFrame, mkF, argsToLocals, Value.category]; done) | rfl
theorem d4_30 : decode method_6_code 30 = .ok (.aload_n 0, 1) := by decide +kernel
theorem d4_31 : decode method_6_code 31 = .ok (.iload_n 1, 1) := by decide +kernel
theorem d4_32 : decode method_6_code 32 = .ok (.iconst 2, 1) := by decide +kernel
theorem d4_33 : decode method_6_code 33 = .ok (.isub, 1) := by decide +kernel
theorem d4_34 : decode method_6_code 34 = .ok (.caload, 1) := by decide +kernel
theorem d4_35 : decode method_6_code 35 = .ok (.bipush 61, 2) := by decide +kernel
theorem d4_37 : decode method_6_code 37 = .ok (.if_icmp .ne 7, 3) := by decide +kernel
theorem d4_44 : decode method_6_code 44 = .ok (.iconst 1, 1) := by decide +kernel
theorem d4_115 : decode method_6_code 115 = .ok (.aload_n 0, 1) := by decide +kernel
theorem d4_116 : decode method_6_code 116 = .ok (.iload 6, 2) := by decide +kernel
theorem d4_118 : decode method_6_code 118 = .ok (.caload, 1) := by decide +kernel
theorem d4_119 : decode method_6_code 119 = .ok (.invokestatic 30, 3) := by decide +kernel
theorem d4_122 : decode method_6_code 122 = .ok (.istore 7, 2) := by decide +kernel
theorem d4_124 : decode method_6_code 124 = .ok (.aload_n 0, 1) := by decide +kernel
theorem d4_125 : decode method_6_code 125 = .ok (.iload 6, 2) := by decide +kernel
theorem d4_127 : decode method_6_code 127 = .ok (.iconst 1, 1) := by decide +kernel
theorem d4_128 : decode method_6_code 128 = .ok (.iadd, 1) := by decide +kernel
theorem d4_129 : decode method_6_code 129 = .ok (.caload, 1) := by decide +kernel
theorem d4_130 : decode method_6_code 130 = .ok (.invokestatic 30, 3) := by decide +kernel
theorem d4_133 : decode method_6_code 133 = .ok (.istore 8, 2) := by decide +kernel
theorem d4_135 : decode method_6_code 135 = .ok (.iload_n 3, 1) := by decide +kernel
theorem d4_136 : decode method_6_code 136 = .ok (.iconst 1, 1) := by decide +kernel
theorem d4_137 : decode method_6_code 137 = .ok (.if_icmp .ne 76, 3) := by decide +kernel
theorem d4_140 : decode method_6_code 140 = .ok (.aload_n 0, 1) := by decide +kernel
theorem d4_141 : decode method_6_code 141 = .ok (.iload 6, 2) := by decide +kernel
theorem d4_143 : decode method_6_code 143 = .ok (.iconst 2, 1) := by decide +kernel
theorem d4_144 : decode method_6_code 144 = .ok (.iadd, 1) := by decide +kernel
theorem d4_145 : decode method_6_code 145 = .ok (.caload, 1) := by decide +kernel
theorem d4_146 : decode method_6_code 146 = .ok (.invokestatic 30, 3) := by decide +kernel
theorem d4_149 : decode method_6_code 149 = .ok (.istore 9, 2) := by decide +kernel
theorem d4_151 : decode method_6_code 151 = .ok (.iload 7, 2) := by decide +kernel
theorem d4_153 : decode method_6_code 153 = .ok (.ifCond .lt 20, 3) := by decide +kernel
theorem d4_173 : decode method_6_code 173 = .ok (.aconst_null, 1) := by decide +kernel
theorem d4_174 : decode method_6_code 174 = .ok (.areturn, 1) := by decide +kernel
theorem d4_156 : decode method_6_code 156 = .ok (.iload 8, 2) := by decide +kernel
theorem d4_158 : decode method_6_code 158 = .ok (.ifCond .lt 15, 3) := by decide +kernel
theorem d4_161 : decode method_6_code 161 = .ok (.iload 9, 2) := by decide +kernel
theorem d4_163 : decode method_6_code 163 = .ok (.ifCond .lt 10, 3) := by decide +kernel
theorem d4_166 : decode method_6_code 166 = .ok (.iload 9, 2) := by decide +kernel
theorem d4_168 : decode method_6_code 168 = .ok (.iconst 3, 1) := by decide +kernel
theorem d4_169 : decode method_6_code 169 = .ok (.iand, 1) := by decide +kernel
theorem d4_170 : decode method_6_code 170 = .ok (.ifCond .eq 5, 3) := by decide +kernel
theorem d4_175 : decode method_6_code 175 = .ok (.aload 4, 2) := by decide +kernel
theorem d4_177 : decode method_6_code 177 = .ok (.iload 5, 2) := by decide +kernel
theorem d4_179 : decode method_6_code 179 = .ok (.iload 7, 2) := by decide +kernel
theorem d4_181 : decode method_6_code 181 = .ok (.iconst 2, 1) := by decide +kernel
theorem d4_182 : decode method_6_code 182 = .ok (.ishl, 1) := by decide +kernel
theorem d4_183 : decode method_6_code 183 = .ok (.iload 8, 2) := by decide +kernel
theorem d4_185 : decode method_6_code 185 = .ok (.iconst 4, 1) := by decide +kernel
theorem d4_186 : decode method_6_code 186 = .ok (.ishr, 1) := by decide +kernel
theorem d4_187 : decode method_6_code 187 = .ok (.ior, 1) := by decide +kernel
theorem d4_188 : decode method_6_code 188 = .ok (.i2b, 1) := by decide +kernel
theorem d4_189 : decode method_6_code 189 = .ok (.bastore, 1) := by decide +kernel
theorem d4_190 : decode method_6_code 190 = .ok (.aload 4, 2) := by decide +kernel
theorem d4_192 : decode method_6_code 192 = .ok (.iload 5, 2) := by decide +kernel
theorem d4_194 : decode method_6_code 194 = .ok (.iconst 1, 1) := by decide +kernel
theorem d4_195 : decode method_6_code 195 = .ok (.iadd, 1) := by decide +kernel
theorem d4_196 : decode method_6_code 196 = .ok (.iload 8, 2) := by decide +kernel
theorem d4_198 : decode method_6_code 198 = .ok (.bipush 15, 2) := by decide +kernel
theorem d4_200 : decode method_6_code 200 = .ok (.iand, 1) := by decide +kernel
theorem d4_201 : decode method_6_code 201 = .ok (.iconst 4, 1) := by decide +kernel
theorem d4_202 : decode method_6_code 202 = .ok (.ishl, 1) := by decide +kernel
theorem d4_203 : decode method_6_code 203 = .ok (.iload 9, 2) := by decide +kernel
theorem d4_205 : decode method_6_code 205 = .ok (.iconst 2, 1) := by decide +kernel
theorem d4_206 : decode method_6_code 206 = .ok (.ishr, 1) := by decide +kernel
theorem d4_207 : decode method_6_code 207 = .ok (.ior, 1) := by decide +kernel
theorem d4_208 : decode method_6_code 208 = .ok (.i2b, 1) := by decide +kernel
theorem d4_209 : decode method_6_code 209 = .ok (.bastore, 1) := by decide +kernel
theorem d4_210 : decode method_6_code 210 = .ok (.aload 4, 2) := by decide +kernel
theorem d4_212 : decode method_6_code 212 = .ok (.areturn, 1) := by decide +kernel
set_option maxRecDepth 65536 in
set_option maxHeartbeats 40000000 in
theorem rmEx41 (l : Launch) (Z : State) (a0 : Array Value) (hw : ∀ d ∈ tables_1, d.before a0 Z = true) (ws : List Jvm.Cond) (w_ : Addr) (bf : Nat) (g : Nat → Int32) (h0 : Heap) (n0 : Nat) (Z0 : n0 ≤ h0.size) (hbf : bf ≤ 3) (hg : CH g) (hp1 : g 3 = 61) (hp2 : ¬ g 2 = 61) (V_w : AV Z h0 w_ .char 8 (gv g)) :
    Ctr l Z (⟨"com/example/sharks/sharks/StandardBase64DecodePinLaw", "expected", "([CII)[B"⟩ : MethodName) method_6_code 10 (some (.array .byte)) ws ({ frames := 1, cells := 1, slots := 9, locals := 12 } : Room) 1 9 #[(.ref w_), (.int (4 : Int32)), (.int (Int32.ofNat bf))] h0 (fun v h L => Fr n0 L ∧ Keep h0 h [] ∧ ((OK1 g 0) → ∃ b, v = some (.ref b) ∧ h0.size ≤ b ∧ AV Z h b .byte (bf + 2) (gv (exI g bf))) ∧ (¬ (OK1 g 0) → v = some .null)) := by
  refine Ctr.mk (plainFor_of_name pn_0) fun p e s m below meth c T0 X0 C e0 => go_cast (ef_rmEx41 m w_ (4 : Int32) (Int32.ofNat bf)) ?_
  have N0 := Fr.nil n0
  obtain ⟨hx, hZ, hby, hml, hown, hnm, hret, hlk⟩ := C
  obtain ⟨hI, eI⟩ : ∃ z, z = h0 := ⟨_, rfl⟩
  have K0 : Keep hI h0 [] := by rw [eI]; exact Keep.refl _ _
  show Go _ _ _ _ _ _ _ T0 (mkF m 0 #[.val (.ref w_), .val (.int (4 : Int32)), .val (.int (Int32.ofNat bf)), .unset, .unset, .unset, .unset, .unset, .unset, .unset] [])
  refine Go.step (fun tt kk => XS.iloadN X0.here hx rfl (hb hby d4_0) rfl kk) ?_
  show Go _ _ _ _ _ _ _ T0 (mkF m 1 _ [(.int (4 : Int32))])
  refine Go.step (fun tt kk => XS.iconst X0.here hx rfl (hb hby d4_1) kk) ?_
  show Go _ _ _ _ _ _ _ T0 (mkF m 2 _ [(.int (4 : Int32)), (.int (4 : Int32))])
  refine Go.step (fun tt kk => iremM X0 hx rfl (hb hby d4_2) rfl (by decide) kk) ?_
  show Go _ _ _ _ _ _ _ T0 (mkF m 3 _ [(.int ((4 : Int32) % (4 : Int32)))])
  refine Go.step (fun tt kk => XS.ifYes X0.here hx rfl (pc0 := 3) (pc' := 8) rfl (hb hby d4_3) rfl ((if0 _ _).trans (teq (by decide)).1) (by decide) (by decide) kk) ?_
  show Go _ _ _ _ _ _ _ T0 (mkF m 8 _ [])
  refine Go.step (fun tt kk => XS.iloadN X0.here hx rfl (hb hby d4_8) rfl kk) ?_
  show Go _ _ _ _ _ _ _ T0 (mkF m 9 _ [(.int (4 : Int32))])
  refine Go.step (fun tt kk => XS.ifYes X0.here hx rfl (pc0 := 9) (pc' := 16) rfl (hb hby d4_9) rfl ((if0 _ _).trans (feq (by decide)).2) (by decide) (by decide) kk) ?_
  show Go _ _ _ _ _ _ _ T0 (mkF m 16 _ [])
  refine Go.step (fun tt kk => XS.aloadN X0.here hx rfl (hb hby d4_16) rfl rfl kk) ?_
  show Go _ _ _ _ _ _ _ T0 (mkF m 17 _ [(.ref w_)])
  refine Go.step (fun tt kk => XS.iloadN X0.here hx rfl (hb hby d4_17) rfl kk) ?_
  show Go _ _ _ _ _ _ _ T0 (mkF m 18 _ [(.int (4 : Int32)), (.ref w_)])
  refine Go.step (fun tt kk => XS.iconst X0.here hx rfl (hb hby d4_18) kk) ?_
  show Go _ _ _ _ _ _ _ T0 (mkF m 19 _ [(.int (1 : Int32)), (.int (4 : Int32)), (.ref w_)])
  refine Go.step (fun tt kk => XS.isub X0.here hx rfl (hb hby d4_19) rfl kk) ?_
  show Go _ _ _ _ _ _ _ T0 (mkF m 20 _ [(.int ((4 : Int32) - (1 : Int32))), (.ref w_)])
  refine Go.step (a_cload X0 hx hZ e0 V_w (k := 3) (by decide) (by decide) (x := (g 3)) rfl (hb hby d4_20)) ?_
  show Go _ _ _ _ _ _ _ T0 (mkF m 21 _ [(.int (g 3))])
  refine Go.step (fun tt kk => XS.bipush X0.here hx rfl (hb hby d4_21) kk) ?_
  show Go _ _ _ _ _ _ _ T0 (mkF m 23 _ [(.int (61 : Int32)), (.int (g 3))])
  refine Go.step (fun tt kk => XS.icmpYes X0.here hx rfl (pc0 := 23) (pc' := 30) rfl (hb hby d4_23) rfl (teq hp1).1 (by decide) (by decide) kk) ?_
  show Go _ _ _ _ _ _ _ T0 (mkF m 30 _ [])
  refine Go.step (fun tt kk => XS.aloadN X0.here hx rfl (hb hby d4_30) rfl rfl kk) ?_
  show Go _ _ _ _ _ _ _ T0 (mkF m 31 _ [(.ref w_)])
  refine Go.step (fun tt kk => XS.iloadN X0.here hx rfl (hb hby d4_31) rfl kk) ?_
  show Go _ _ _ _ _ _ _ T0 (mkF m 32 _ [(.int (4 : Int32)), (.ref w_)])
  refine Go.step (fun tt kk => XS.iconst X0.here hx rfl (hb hby d4_32) kk) ?_
  show Go _ _ _ _ _ _ _ T0 (mkF m 33 _ [(.int (2 : Int32)), (.int (4 : Int32)), (.ref w_)])
  refine Go.step (fun tt kk => XS.isub X0.here hx rfl (hb hby d4_33) rfl kk) ?_
  show Go _ _ _ _ _ _ _ T0 (mkF m 34 _ [(.int ((4 : Int32) - (2 : Int32))), (.ref w_)])
  refine Go.step (a_cload X0 hx hZ e0 V_w (k := 2) (by decide) (by decide) (x := (g 2)) rfl (hb hby d4_34)) ?_
  show Go _ _ _ _ _ _ _ T0 (mkF m 35 _ [(.int (g 2))])
  refine Go.step (fun tt kk => XS.bipush X0.here hx rfl (hb hby d4_35) kk) ?_
  show Go _ _ _ _ _ _ _ T0 (mkF m 37 _ [(.int (61 : Int32)), (.int (g 2))])
  refine Go.step (fun tt kk => XS.icmpYes X0.here hx rfl (pc0 := 37) (pc' := 44) rfl (hb hby d4_37) rfl (feq hp2).2 (by decide) (by decide) kk) ?_
  show Go _ _ _ _ _ _ _ T0 (mkF m 44 _ [])
  refine Go.step (fun tt kk => XS.iconst X0.here hx rfl (hb hby d4_44) kk) ?_
  show Go _ _ _ _ _ _ _ T0 (mkF m 45 _ [(.int (1 : Int32))])
  refine Go.step (fun tt kk => XS.istoreN X0.here hx rfl (hb hby d4_45) rfl (l' := #[.val (.ref w_), .val (.int (4 : Int32)), .val (.int (Int32.ofNat bf)), .val (.int (1 : Int32)), .unset, .unset, .unset, .unset, .unset, .unset]) rfl kk) ?_
  show Go _ _ _ _ _ _ _ T0 (mkF m 46 _ [])
  refine Go.step (fun tt kk => XS.iloadN X0.here hx rfl (hb hby d4_46) rfl kk) ?_
  show Go _ _ _ _ _ _ _ T0 (mkF m 47 _ [(.int (Int32.ofNat bf))])
  refine Go.step (fun tt kk => XS.iloadN X0.here hx rfl (hb hby d4_47) rfl kk) ?_
  show Go _ _ _ _ _ _ _ T0 (mkF m 48 _ [(.int (4 : Int32)), (.int (Int32.ofNat bf))])
  refine Go.step (fun tt kk => XS.iconst X0.here hx rfl (hb hby d4_48) kk) ?_
  show Go _ _ _ _ _ _ _ T0 (mkF m 49 _ [(.int (4 : Int32)), (.int (4 : Int32)), (.int (Int32.ofNat bf))])
  refine Go.step (fun tt kk => XS.idiv X0.here hx rfl (hb hby d4_49) rfl (by decide) kk) ?_
  show Go _ _ _ _ _ _ _ T0 (mkF m 50 _ [(.int ((4 : Int32) / (4 : Int32))), (.int (Int32.ofNat bf))])
  refine Go.step (fun tt kk => XS.iconst X0.here hx rfl (hb hby d4_50) kk) ?_
  show Go _ _ _ _ _ _ _ T0 (mkF m 51 _ [(.int (3 : Int32)), (.int ((4 : Int32) / (4 : Int32))), (.int (Int32.ofNat bf))])
  refine Go.step (fun tt kk => XS.imul X0.here hx rfl (hb hby d4_51) rfl kk) ?_
  show Go _ _ _ _ _ _ _ T0 (mkF m 52 _ [(.int (((4 : Int32) / (4 : Int32)) * (3 : Int32))), (.int (Int32.ofNat bf))])
  refine Go.step (fun tt kk => XS.iadd X0.here hx rfl (hb hby d4_52) rfl kk) ?_
  show Go _ _ _ _ _ _ _ T0 (mkF m 53 _ [(.int ((Int32.ofNat bf) + (((4 : Int32) / (4 : Int32)) * (3 : Int32))))])
  refine Go.step (fun tt kk => XS.iloadN X0.here hx rfl (hb hby d4_53) rfl kk) ?_
  show Go _ _ _ _ _ _ _ T0 (mkF m 54 _ [(.int (1 : Int32)), (.int ((Int32.ofNat bf) + (((4 : Int32) / (4 : Int32)) * (3 : Int32))))])
  refine Go.step (fun tt kk => XS.isub X0.here hx rfl (hb hby d4_54) rfl kk) ?_
  show Go _ _ _ _ _ _ _ T0 (mkF m 55 _ [(.int (((Int32.ofNat bf) + (((4 : Int32) / (4 : Int32)) * (3 : Int32))) - (1 : Int32)))])
  rw [show (((Int32.ofNat bf) + (((4 : Int32) / (4 : Int32)) * (3 : Int32))) - (1 : Int32)) = Int32.ofNat (bf + 2) from by rw [show (((4 : Int32) / (4 : Int32)) * (3 : Int32)) = Int32.ofNat 3 by decide, own_add]; exact own_sub (bf + 3) 1 (by omega) (by omega)]
  show Go _ _ _ _ _ _ _ T0 (mkF m 55 #[.val (.ref w_), .val (.int (4 : Int32)), .val (.int (Int32.ofNat bf)), .val (.int (1 : Int32)), .unset, .unset, .unset, .unset, .unset, .unset] [(.int (Int32.ofNat (bf + 2)))])
  obtain ⟨T1, h1, k1, X1, e1, E1, A1, EA1, st1⟩ := newPE X0 hx hZ (hw _ (List.mem_of_getElem? (i := 20) rfl)) e0 (g := (mkF m 55 #[.val (.ref w_), .val (.int (4 : Int32)), .val (.int (Int32.ofNat bf)), .val (.int (1 : Int32)), .unset, .unset, .unset, .unset, .unset, .unset] [(.int (Int32.ofNat (bf + 2)))])) rfl (hb hby d4_55) rfl (own_nn (bf + 2) (by omega)) (cap := 9) (by rw [clamp_of (k := bf + 2) (Int32.toInt_ofNat_of_lt (by omega))]; omega) (by decide) (by decide) (by decide) (ad := "[B") rfl
  obtain ⟨b1, g1⟩ : ∃ z, z = h0.size := ⟨_, rfl⟩
  rw [← g1] at A1 EA1 st1
  have ne_w__b1 : w_ ≠ b1 := Nat.ne_of_lt (Nat.lt_of_lt_of_le V_w.lt (Nat.le_of_eq g1.symm))
  have gn_b1 : n0 ≤ b1 := Nat.le_trans Z0 (Nat.le_of_eq g1.symm)
  have sz_b1 : hI.size ≤ b1 := Nat.le_trans K0.1 (Nat.le_of_eq g1.symm)
  have Z1 : n0 ≤ h1.size := Nat.le_trans Z0 E1.1
  have K1 : Keep hI h1 [] := K0.ext E1
  have V1 : AV Z h1 b1 .byte (bf + 2) (fun _ => (.int (0 : Int32))) := AV.new A1 (Int32.toInt_ofNat_of_lt (by omega))
  refine Go.step (st1) ?_
  show Go _ _ _ _ _ _ _ T1 (mkF m 57 _ [(.ref b1)])
  refine Go.step (fun tt kk => XS.astore X1.here hx rfl (hb hby d4_57) rfl rfl (l' := #[.val (.ref w_), .val (.int (4 : Int32)), .val (.int (Int32.ofNat bf)), .val (.int (1 : Int32)), .val (.ref b1), .unset, .unset, .unset, .unset, .unset]) rfl kk) ?_
  show Go _ _ _ _ _ _ _ T1 (mkF m 59 _ [])
  refine Go.step (fun tt kk => XS.iloadN X1.here hx rfl (hb hby d4_59) rfl kk) ?_
  show Go _ _ _ _ _ _ _ T1 (mkF m 60 _ [(.int (Int32.ofNat bf))])
  refine Go.step (fun tt kk => XS.istore X1.here hx rfl (hb hby d4_60) rfl (l' := #[.val (.ref w_), .val (.int (4 : Int32)), .val (.int (Int32.ofNat bf)), .val (.int (1 : Int32)), .val (.ref b1), .val (.int (Int32.ofNat bf)), .unset, .unset, .unset, .unset]) rfl kk) ?_
  show Go _ _ _ _ _ _ _ T1 (mkF m 62 _ [])
  refine Go.step (fun tt kk => XS.iloadN X1.here hx rfl (hb hby d4_62) rfl kk) ?_
  show Go _ _ _ _ _ _ _ T1 (mkF m 63 _ [(.int (4 : Int32))])
  refine Go.step (fun tt kk => XS.bipush X1.here hx rfl (hb hby d4_63) kk) ?_
  show Go _ _ _ _ _ _ _ T1 (mkF m 65 _ [(.int (8 : Int32)), (.int (4 : Int32))])
  refine Go.step (fun tt kk => XS.icmpYes X1.here hx rfl (pc0 := 65) (pc' := 86) rfl (hb hby d4_65) rfl (feq (by decide)).2 (by decide) (by decide) kk) ?_
  show Go _ _ _ _ _ _ _ T1 (mkF m 86 _ [])
  refine Go.step (fun tt kk => XS.iloadN X1.here hx rfl (hb hby d4_86) rfl kk) ?_
  show Go _ _ _ _ _ _ _ T1 (mkF m 87 _ [(.int (4 : Int32))])
  refine Go.step (fun tt kk => XS.iconst X1.here hx rfl (hb hby d4_87) kk) ?_
  show Go _ _ _ _ _ _ _ T1 (mkF m 88 _ [(.int (4 : Int32)), (.int (4 : Int32))])
  refine Go.step (fun tt kk => XS.isub X1.here hx rfl (hb hby d4_88) rfl kk) ?_
  show Go _ _ _ _ _ _ _ T1 (mkF m 89 _ [(.int ((4 : Int32) - (4 : Int32)))])
  refine Go.step (fun tt kk => XS.istore X1.here hx rfl (hb hby d4_89) rfl (l' := #[.val (.ref w_), .val (.int (4 : Int32)), .val (.int (Int32.ofNat bf)), .val (.int (1 : Int32)), .val (.ref b1), .val (.int (Int32.ofNat bf)), .val (.int ((4 : Int32) - (4 : Int32))), .unset, .unset, .unset]) rfl kk) ?_
  show Go _ _ _ _ _ _ _ T1 (mkF m 91 _ [])
  rw [show ((4 : Int32) - (4 : Int32)) = (0 : Int32) by decide]
  show Go _ _ _ _ _ _ _ T1 (mkF m 91 #[.val (.ref w_), .val (.int (4 : Int32)), .val (.int (Int32.ofNat bf)), .val (.int (1 : Int32)), .val (.ref b1), .val (.int (Int32.ofNat bf)), .val (.int (0 : Int32)), .unset, .unset, .unset] [])
  refine Go.step (fun tt kk => XS.iloadN X1.here hx rfl (hb hby d4_91) rfl kk) ?_
  show Go _ _ _ _ _ _ _ T1 (mkF m 92 _ [(.int (1 : Int32))])
  refine Go.step (fun tt kk => XS.ifYes X1.here hx rfl (pc0 := 92) (pc' := 115) rfl (hb hby d4_92) rfl ((if0 _ _).trans (feq (by decide)).2) (by decide) (by decide) kk) ?_
  show Go _ _ _ _ _ _ _ T1 (mkF m 115 _ [])
  refine Go.step (fun tt kk => XS.aloadN X1.here hx rfl (hb hby d4_115) rfl rfl kk) ?_
  show Go _ _ _ _ _ _ _ T1 (mkF m 116 _ [(.ref w_)])
  refine Go.step (fun tt kk => XS.iload X1.here hx rfl (hb hby d4_116) rfl kk) ?_
  show Go _ _ _ _ _ _ _ T1 (mkF m 118 _ [(.int (0 : Int32)), (.ref w_)])
  have f2 := (V_w.ext E1)
  refine Go.step (a_cload X1 hx hZ e1 f2 (k := 0) (by decide) (by decide) (x := (g 0)) rfl (hb hby d4_118)) ?_
  show Go _ _ _ _ _ _ _ T1 (mkF m 119 _ [(.int (g 0))])
  obtain ⟨v3, T3, L3, X3, q3, st3⟩ := c_static X1 hx hZ hown (y := (⟨"com/example/sharks/sharks/StandardBase64DecodePinLaw", "v", "(C)I"⟩ : MethodName)) (hw _ (List.mem_of_getElem? (i := 32) rfl)) (hw _ (List.mem_of_getElem? (i := 33) rfl)) (hw _ (List.mem_of_getElem? (i := 4) rfl)) (hw _ (List.mem_of_getElem? (i := 34) rfl)) (by decide) (argsL := [(.int (g 0))]) (rest := []) (rmV l Z a0 hw [] (g 0) h1 n0 Z1 ) e1 pd_1 rfl (by rw [hml]; rfl) (W := 0) (by show 2 * 0 + _ ≤ _; exact Nat.le_of_eq rfl) (by decide) (by decide) (by decide) (by decide) (hb hby d4_119) (Ls := #[.val (.ref w_), .val (.int (4 : Int32)), .val (.int (Int32.ofNat bf)), .val (.int (1 : Int32)), .val (.ref b1), .val (.int (Int32.ofNat bf)), .val (.int (0 : Int32)), .unset, .unset, .unset])
  obtain ⟨rfl, rfl, e3⟩ := q3
  have N3 := Fr.app N0 (Fr.nil n0)
  refine Go.step (st3) ?_
  show Go _ _ _ _ _ _ _ T3 (mkF m 122 _ [(.int (vl (g 0)))])
  refine Go.step (fun tt kk => XS.istore X3.here hx rfl (hb hby d4_122) rfl (l' := #[.val (.ref w_), .val (.int (4 : Int32)), .val (.int (Int32.ofNat bf)), .val (.int (1 : Int32)), .val (.ref b1), .val (.int (Int32.ofNat bf)), .val (.int (0 : Int32)), .val (.int (vl (g 0))), .unset, .unset]) rfl kk) ?_
  show Go _ _ _ _ _ _ _ T3 (mkF m 124 _ [])
  refine Go.step (fun tt kk => XS.aloadN X3.here hx rfl (hb hby d4_124) rfl rfl kk) ?_
  show Go _ _ _ _ _ _ _ T3 (mkF m 125 _ [(.ref w_)])
  refine Go.step (fun tt kk => XS.iload X3.here hx rfl (hb hby d4_125) rfl kk) ?_
  show Go _ _ _ _ _ _ _ T3 (mkF m 127 _ [(.int (0 : Int32)), (.ref w_)])
  refine Go.step (fun tt kk => XS.iconst X3.here hx rfl (hb hby d4_127) kk) ?_
  show Go _ _ _ _ _ _ _ T3 (mkF m 128 _ [(.int (1 : Int32)), (.int (0 : Int32)), (.ref w_)])
  refine Go.step (fun tt kk => XS.iadd X3.here hx rfl (hb hby d4_128) rfl kk) ?_
  show Go _ _ _ _ _ _ _ T3 (mkF m 129 _ [(.int ((0 : Int32) + (1 : Int32))), (.ref w_)])
  refine Go.step (a_cload X3 hx hZ e3 f2 (k := 1) (by decide) (by decide) (x := (g 1)) rfl (hb hby d4_129)) ?_
  show Go _ _ _ _ _ _ _ T3 (mkF m 130 _ [(.int (g 1))])
  obtain ⟨v4, T4, L4, X4, q4, st4⟩ := c_static X3 hx hZ hown (y := (⟨"com/example/sharks/sharks/StandardBase64DecodePinLaw", "v", "(C)I"⟩ : MethodName)) (hw _ (List.mem_of_getElem? (i := 32) rfl)) (hw _ (List.mem_of_getElem? (i := 33) rfl)) (hw _ (List.mem_of_getElem? (i := 4) rfl)) (hw _ (List.mem_of_getElem? (i := 34) rfl)) (by decide) (argsL := [(.int (g 1))]) (rest := []) (rmV l Z a0 hw [] (g 1) h1 n0 Z1 ) e3 pd_1 rfl (by rw [hml]; rfl) (W := 0) (by show 2 * 0 + _ ≤ _; exact Nat.le_of_eq rfl) (by decide) (by decide) (by decide) (by decide) (hb hby d4_130) (Ls := #[.val (.ref w_), .val (.int (4 : Int32)), .val (.int (Int32.ofNat bf)), .val (.int (1 : Int32)), .val (.ref b1), .val (.int (Int32.ofNat bf)), .val (.int (0 : Int32)), .val (.int (vl (g 0))), .unset, .unset])
  obtain ⟨rfl, rfl, e4⟩ := q4
  have N4 := Fr.app N3 (Fr.nil n0)
  refine Go.step (st4) ?_
  show Go _ _ _ _ _ _ _ T4 (mkF m 133 _ [(.int (vl (g 1)))])
  refine Go.step (fun tt kk => XS.istore X4.here hx rfl (hb hby d4_133) rfl (l' := #[.val (.ref w_), .val (.int (4 : Int32)), .val (.int (Int32.ofNat bf)), .val (.int (1 : Int32)), .val (.ref b1), .val (.int (Int32.ofNat bf)), .val (.int (0 : Int32)), .val (.int (vl (g 0))), .val (.int (vl (g 1))), .unset]) rfl kk) ?_
  show Go _ _ _ _ _ _ _ T4 (mkF m 135 _ [])
  refine Go.step (fun tt kk => XS.iloadN X4.here hx rfl (hb hby d4_135) rfl kk) ?_
  show Go _ _ _ _ _ _ _ T4 (mkF m 136 _ [(.int (1 : Int32))])
  refine Go.step (fun tt kk => XS.iconst X4.here hx rfl (hb hby d4_136) kk) ?_
  show Go _ _ _ _ _ _ _ T4 (mkF m 137 _ [(.int (1 : Int32)), (.int (1 : Int32))])
  refine Go.step (fun tt kk => XS.icmpNo X4.here hx rfl (hb hby d4_137) rfl (teq (by decide)).2 kk) ?_
  show Go _ _ _ _ _ _ _ T4 (mkF m 140 _ [])
  refine Go.step (fun tt kk => XS.aloadN X4.here hx rfl (hb hby d4_140) rfl rfl kk) ?_
  show Go _ _ _ _ _ _ _ T4 (mkF m 141 _ [(.ref w_)])
  refine Go.step (fun tt kk => XS.iload X4.here hx rfl (hb hby d4_141) rfl kk) ?_
  show Go _ _ _ _ _ _ _ T4 (mkF m 143 _ [(.int (0 : Int32)), (.ref w_)])
  refine Go.step (fun tt kk => XS.iconst X4.here hx rfl (hb hby d4_143) kk) ?_
  show Go _ _ _ _ _ _ _ T4 (mkF m 144 _ [(.int (2 : Int32)), (.int (0 : Int32)), (.ref w_)])
  refine Go.step (fun tt kk => XS.iadd X4.here hx rfl (hb hby d4_144) rfl kk) ?_
  show Go _ _ _ _ _ _ _ T4 (mkF m 145 _ [(.int ((0 : Int32) + (2 : Int32))), (.ref w_)])
  refine Go.step (a_cload X4 hx hZ e4 f2 (k := 2) (by decide) (by decide) (x := (g 2)) rfl (hb hby d4_145)) ?_
  show Go _ _ _ _ _ _ _ T4 (mkF m 146 _ [(.int (g 2))])
  obtain ⟨v5, T5, L5, X5, q5, st5⟩ := c_static X4 hx hZ hown (y := (⟨"com/example/sharks/sharks/StandardBase64DecodePinLaw", "v", "(C)I"⟩ : MethodName)) (hw _ (List.mem_of_getElem? (i := 32) rfl)) (hw _ (List.mem_of_getElem? (i := 33) rfl)) (hw _ (List.mem_of_getElem? (i := 4) rfl)) (hw _ (List.mem_of_getElem? (i := 34) rfl)) (by decide) (argsL := [(.int (g 2))]) (rest := []) (rmV l Z a0 hw [] (g 2) h1 n0 Z1 ) e4 pd_1 rfl (by rw [hml]; rfl) (W := 0) (by show 2 * 0 + _ ≤ _; exact Nat.le_of_eq rfl) (by decide) (by decide) (by decide) (by decide) (hb hby d4_146) (Ls := #[.val (.ref w_), .val (.int (4 : Int32)), .val (.int (Int32.ofNat bf)), .val (.int (1 : Int32)), .val (.ref b1), .val (.int (Int32.ofNat bf)), .val (.int (0 : Int32)), .val (.int (vl (g 0))), .val (.int (vl (g 1))), .unset])
  obtain ⟨rfl, rfl, e5⟩ := q5
  have N5 := Fr.app N4 (Fr.nil n0)
  refine Go.step (st5) ?_
  show Go _ _ _ _ _ _ _ T5 (mkF m 149 _ [(.int (vl (g 2)))])
  refine Go.step (fun tt kk => XS.istore X5.here hx rfl (hb hby d4_149) rfl (l' := #[.val (.ref w_), .val (.int (4 : Int32)), .val (.int (Int32.ofNat bf)), .val (.int (1 : Int32)), .val (.ref b1), .val (.int (Int32.ofNat bf)), .val (.int (0 : Int32)), .val (.int (vl (g 0))), .val (.int (vl (g 1))), .val (.int (vl (g 2)))]) rfl kk) ?_
  show Go _ _ _ _ _ _ _ T5 (mkF m 151 _ [])
  refine Go.step (fun tt kk => XS.iload X5.here hx rfl (hb hby d4_151) rfl kk) ?_
  show Go _ _ _ _ _ _ _ T5 (mkF m 153 _ [(.int (vl (g 0)))])
  by_cases c153_6 : (vl (g 0)) < (0 : Int32)
  · refine Go.step (fun tt kk => XS.ifYes X5.here hx rfl (pc0 := 153) (pc' := 173) rfl (hb hby d4_153) rfl ((if0 _ _).trans (tlt c153_6).1) (by decide) (by decide) kk) ?_
    show Go _ _ _ _ _ _ _ T5 (mkF m 173 _ [])
    refine Go.step (fun tt kk => XS.aconstNull X5.here hx rfl (hb hby d4_173) kk) ?_
    show Go _ _ _ _ _ _ _ T5 (mkF m 174 _ [.null])
    refine go_retA X5 hx (t := (.array .byte)) hret rfl hlk rfl (hb hby d4_174) ?_ (by decide) (by decide)
    try rw [e5]
    exact ⟨N5, eI ▸ K1, fun z => absurd z (by simp only [not_true_eq_false, not_false_eq_true, and_true, true_and, and_false, false_and, or_true, true_or, or_false, false_or, and_self, or_self, OK4, OK1, OK2, eq_true c153_6]), fun _ => rfl⟩
  · refine Go.step (fun tt kk => XS.ifNo X5.here hx rfl (hb hby d4_153) rfl ((if0 _ _).trans (flt c153_6).1) kk) ?_
    show Go _ _ _ _ _ _ _ T5 (mkF m 156 _ [])
    refine Go.step (fun tt kk => XS.iload X5.here hx rfl (hb hby d4_156) rfl kk) ?_
    show Go _ _ _ _ _ _ _ T5 (mkF m 158 _ [(.int (vl (g 1)))])
    by_cases c158_7 : (vl (g 1)) < (0 : Int32)
    · refine Go.step (fun tt kk => XS.ifYes X5.here hx rfl (pc0 := 158) (pc' := 173) rfl (hb hby d4_158) rfl ((if0 _ _).trans (tlt c158_7).1) (by decide) (by decide) kk) ?_
      show Go _ _ _ _ _ _ _ T5 (mkF m 173 _ [])
      refine Go.step (fun tt kk => XS.aconstNull X5.here hx rfl (hb hby d4_173) kk) ?_
      show Go _ _ _ _ _ _ _ T5 (mkF m 174 _ [.null])
      refine go_retA X5 hx (t := (.array .byte)) hret rfl hlk rfl (hb hby d4_174) ?_ (by decide) (by decide)
      try rw [e5]
      exact ⟨N5, eI ▸ K1, fun z => absurd z (by simp only [not_true_eq_false, not_false_eq_true, and_true, true_and, and_false, false_and, or_true, true_or, or_false, false_or, and_self, or_self, OK4, OK1, OK2, eq_false c153_6, eq_true c158_7]), fun _ => rfl⟩
    · refine Go.step (fun tt kk => XS.ifNo X5.here hx rfl (hb hby d4_158) rfl ((if0 _ _).trans (flt c158_7).1) kk) ?_
      show Go _ _ _ _ _ _ _ T5 (mkF m 161 _ [])
      refine Go.step (fun tt kk => XS.iload X5.here hx rfl (hb hby d4_161) rfl kk) ?_
      show Go _ _ _ _ _ _ _ T5 (mkF m 163 _ [(.int (vl (g 2)))])
      by_cases c163_8 : (vl (g 2)) < (0 : Int32)
      · refine Go.step (fun tt kk => XS.ifYes X5.here hx rfl (pc0 := 163) (pc' := 173) rfl (hb hby d4_163) rfl ((if0 _ _).trans (tlt c163_8).1) (by decide) (by decide) kk) ?_
        show Go _ _ _ _ _ _ _ T5 (mkF m 173 _ [])
        refine Go.step (fun tt kk => XS.aconstNull X5.here hx rfl (hb hby d4_173) kk) ?_
        show Go _ _ _ _ _ _ _ T5 (mkF m 174 _ [.null])
        refine go_retA X5 hx (t := (.array .byte)) hret rfl hlk rfl (hb hby d4_174) ?_ (by decide) (by decide)
        try rw [e5]
        exact ⟨N5, eI ▸ K1, fun z => absurd z (by simp only [not_true_eq_false, not_false_eq_true, and_true, true_and, and_false, false_and, or_true, true_or, or_false, false_or, and_self, or_self, OK4, OK1, OK2, eq_false c153_6, eq_false c158_7, eq_true c163_8]), fun _ => rfl⟩
      · refine Go.step (fun tt kk => XS.ifNo X5.here hx rfl (hb hby d4_163) rfl ((if0 _ _).trans (flt c163_8).1) kk) ?_
        show Go _ _ _ _ _ _ _ T5 (mkF m 166 _ [])
        refine Go.step (fun tt kk => XS.iload X5.here hx rfl (hb hby d4_166) rfl kk) ?_
        show Go _ _ _ _ _ _ _ T5 (mkF m 168 _ [(.int (vl (g 2)))])
        refine Go.step (fun tt kk => XS.iconst X5.here hx rfl (hb hby d4_168) kk) ?_
        show Go _ _ _ _ _ _ _ T5 (mkF m 169 _ [(.int (3 : Int32)), (.int (vl (g 2)))])
        refine Go.step (fun tt kk => XS.iand X5.here hx rfl (hb hby d4_169) rfl kk) ?_
        show Go _ _ _ _ _ _ _ T5 (mkF m 170 _ [(.int ((vl (g 2)) &&& (3 : Int32)))])
        by_cases c170_9 : ((vl (g 2)) &&& (3 : Int32)) = (0 : Int32)
        · refine Go.step (fun tt kk => XS.ifYes X5.here hx rfl (pc0 := 170) (pc' := 175) rfl (hb hby d4_170) rfl ((if0 _ _).trans (teq c170_9).1) (by decide) (by decide) kk) ?_
          show Go _ _ _ _ _ _ _ T5 (mkF m 175 _ [])
          refine Go.step (fun tt kk => XS.aload X5.here hx rfl (hb hby d4_175) rfl rfl kk) ?_
          show Go _ _ _ _ _ _ _ T5 (mkF m 177 _ [(.ref b1)])
          refine Go.step (fun tt kk => XS.iload X5.here hx rfl (hb hby d4_177) rfl kk) ?_
          show Go _ _ _ _ _ _ _ T5 (mkF m 179 _ [(.int (Int32.ofNat bf)), (.ref b1)])
          refine Go.step (fun tt kk => XS.iload X5.here hx rfl (hb hby d4_179) rfl kk) ?_
          show Go _ _ _ _ _ _ _ T5 (mkF m 181 _ [(.int (vl (g 0))), (.int (Int32.ofNat bf)), (.ref b1)])
          refine Go.step (fun tt kk => XS.iconst X5.here hx rfl (hb hby d4_181) kk) ?_
          show Go _ _ _ _ _ _ _ T5 (mkF m 182 _ [(.int (2 : Int32)), (.int (vl (g 0))), (.int (Int32.ofNat bf)), (.ref b1)])
          refine Go.step (fun tt kk => XS.ishl X5.here hx rfl (hb hby d4_182) rfl kk) ?_
          show Go _ _ _ _ _ _ _ T5 (mkF m 183 _ [(.int ((vl (g 0)) <<< ((2 : Int32) &&& 31))), (.int (Int32.ofNat bf)), (.ref b1)])
          refine Go.step (fun tt kk => XS.iload X5.here hx rfl (hb hby d4_183) rfl kk) ?_
          show Go _ _ _ _ _ _ _ T5 (mkF m 185 _ [(.int (vl (g 1))), (.int ((vl (g 0)) <<< ((2 : Int32) &&& 31))), (.int (Int32.ofNat bf)), (.ref b1)])
          refine Go.step (fun tt kk => XS.iconst X5.here hx rfl (hb hby d4_185) kk) ?_
          show Go _ _ _ _ _ _ _ T5 (mkF m 186 _ [(.int (4 : Int32)), (.int (vl (g 1))), (.int ((vl (g 0)) <<< ((2 : Int32) &&& 31))), (.int (Int32.ofNat bf)), (.ref b1)])
          refine Go.step (fun tt kk => XS.ishr X5.here hx rfl (hb hby d4_186) rfl kk) ?_
          show Go _ _ _ _ _ _ _ T5 (mkF m 187 _ [(.int ((vl (g 1)) >>> ((4 : Int32) &&& 31))), (.int ((vl (g 0)) <<< ((2 : Int32) &&& 31))), (.int (Int32.ofNat bf)), (.ref b1)])
          refine Go.step (fun tt kk => XS.ior X5.here hx rfl (hb hby d4_187) rfl kk) ?_
          show Go _ _ _ _ _ _ _ T5 (mkF m 188 _ [(.int (((vl (g 0)) <<< ((2 : Int32) &&& 31)) ||| ((vl (g 1)) >>> ((4 : Int32) &&& 31)))), (.int (Int32.ofNat bf)), (.ref b1)])
          refine Go.step (fun tt kk => XS.i2b X5.here hx rfl (hb hby d4_188) rfl kk) ?_
          show Go _ _ _ _ _ _ _ T5 (mkF m 189 _ [(.int ((((vl (g 0)) <<< ((2 : Int32) &&& 31)) ||| ((vl (g 1)) >>> ((4 : Int32) &&& 31))).toInt8.toInt32)), (.int (Int32.ofNat bf)), (.ref b1)])
          show Go _ _ _ _ _ _ _ T5 (mkF m 189 #[.val (.ref w_), .val (.int (4 : Int32)), .val (.int (Int32.ofNat bf)), .val (.int (1 : Int32)), .val (.ref b1), .val (.int (Int32.ofNat bf)), .val (.int (0 : Int32)), .val (.int (vl (g 0))), .val (.int (vl (g 1))), .val (.int (vl (g 2)))] [(.int (bA (vl (g 0)) (vl (g 1)))), (.int (Int32.ofNat bf)), (.ref b1)])
          obtain ⟨cl10, Ar10, hin10, -⟩ := V1.at (j := (Int32.ofNat bf)) (k := bf) (Int32.toInt_ofNat_of_lt (by omega)) (by omega)
          obtain ⟨T10, h10, X10, e10, W10, st10⟩ := stB X5 hx hZ e5 Ar10 (j := (Int32.ofNat bf)) hin10 (g := (mkF m 189 #[.val (.ref w_), .val (.int (4 : Int32)), .val (.int (Int32.ofNat bf)), .val (.int (1 : Int32)), .val (.ref b1), .val (.int (Int32.ofNat bf)), .val (.int (0 : Int32)), .val (.int (vl (g 0))), .val (.int (vl (g 1))), .val (.int (vl (g 2)))] [(.int (bA (vl (g 0)) (vl (g 1)))), (.int (Int32.ofNat bf)), (.ref b1)])) rfl rfl (hb hby d4_189)
          rw [(own_nb _)] at W10
          have V10 : AV Z h10 b1 .byte (bf + 2) (upd (fun _ => (.int (0 : Int32))) bf (.int (bA (vl (g 0)) (vl (g 1))))) := AV.set V1 (k := bf) (Int32.toInt_ofNat_of_lt (by omega)) (by omega) W10
          have N10 := Fr.snoc X10 N5 gn_b1
          have Z10 : n0 ≤ h10.size := Nat.le_trans Z1 (Keep.of_wr W10).1
          have K10 : Keep hI h10 [] := K1.wr W10 (Or.inr sz_b1)
          refine Go.step (st10) ?_
          show Go _ _ _ _ _ _ _ T10 (mkF m 190 _ [])
          refine Go.step (fun tt kk => XS.aload X10.here hx rfl (hb hby d4_190) rfl rfl kk) ?_
          show Go _ _ _ _ _ _ _ T10 (mkF m 192 _ [(.ref b1)])
          refine Go.step (fun tt kk => XS.iload X10.here hx rfl (hb hby d4_192) rfl kk) ?_
          show Go _ _ _ _ _ _ _ T10 (mkF m 194 _ [(.int (Int32.ofNat bf)), (.ref b1)])
          refine Go.step (fun tt kk => XS.iconst X10.here hx rfl (hb hby d4_194) kk) ?_
          show Go _ _ _ _ _ _ _ T10 (mkF m 195 _ [(.int (1 : Int32)), (.int (Int32.ofNat bf)), (.ref b1)])
          refine Go.step (fun tt kk => XS.iadd X10.here hx rfl (hb hby d4_195) rfl kk) ?_
          show Go _ _ _ _ _ _ _ T10 (mkF m 196 _ [(.int ((Int32.ofNat bf) + (1 : Int32))), (.ref b1)])
          refine Go.step (fun tt kk => XS.iload X10.here hx rfl (hb hby d4_196) rfl kk) ?_
          show Go _ _ _ _ _ _ _ T10 (mkF m 198 _ [(.int (vl (g 1))), (.int ((Int32.ofNat bf) + (1 : Int32))), (.ref b1)])
          refine Go.step (fun tt kk => XS.bipush X10.here hx rfl (hb hby d4_198) kk) ?_
          show Go _ _ _ _ _ _ _ T10 (mkF m 200 _ [(.int (15 : Int32)), (.int (vl (g 1))), (.int ((Int32.ofNat bf) + (1 : Int32))), (.ref b1)])
          refine Go.step (fun tt kk => XS.iand X10.here hx rfl (hb hby d4_200) rfl kk) ?_
          show Go _ _ _ _ _ _ _ T10 (mkF m 201 _ [(.int ((vl (g 1)) &&& (15 : Int32))), (.int ((Int32.ofNat bf) + (1 : Int32))), (.ref b1)])
          refine Go.step (fun tt kk => XS.iconst X10.here hx rfl (hb hby d4_201) kk) ?_
          show Go _ _ _ _ _ _ _ T10 (mkF m 202 _ [(.int (4 : Int32)), (.int ((vl (g 1)) &&& (15 : Int32))), (.int ((Int32.ofNat bf) + (1 : Int32))), (.ref b1)])
          refine Go.step (fun tt kk => XS.ishl X10.here hx rfl (hb hby d4_202) rfl kk) ?_
          show Go _ _ _ _ _ _ _ T10 (mkF m 203 _ [(.int (((vl (g 1)) &&& (15 : Int32)) <<< ((4 : Int32) &&& 31))), (.int ((Int32.ofNat bf) + (1 : Int32))), (.ref b1)])
          refine Go.step (fun tt kk => XS.iload X10.here hx rfl (hb hby d4_203) rfl kk) ?_
          show Go _ _ _ _ _ _ _ T10 (mkF m 205 _ [(.int (vl (g 2))), (.int (((vl (g 1)) &&& (15 : Int32)) <<< ((4 : Int32) &&& 31))), (.int ((Int32.ofNat bf) + (1 : Int32))), (.ref b1)])
          refine Go.step (fun tt kk => XS.iconst X10.here hx rfl (hb hby d4_205) kk) ?_
          show Go _ _ _ _ _ _ _ T10 (mkF m 206 _ [(.int (2 : Int32)), (.int (vl (g 2))), (.int (((vl (g 1)) &&& (15 : Int32)) <<< ((4 : Int32) &&& 31))), (.int ((Int32.ofNat bf) + (1 : Int32))), (.ref b1)])
          refine Go.step (fun tt kk => XS.ishr X10.here hx rfl (hb hby d4_206) rfl kk) ?_
          show Go _ _ _ _ _ _ _ T10 (mkF m 207 _ [(.int ((vl (g 2)) >>> ((2 : Int32) &&& 31))), (.int (((vl (g 1)) &&& (15 : Int32)) <<< ((4 : Int32) &&& 31))), (.int ((Int32.ofNat bf) + (1 : Int32))), (.ref b1)])
          refine Go.step (fun tt kk => XS.ior X10.here hx rfl (hb hby d4_207) rfl kk) ?_
          show Go _ _ _ _ _ _ _ T10 (mkF m 208 _ [(.int ((((vl (g 1)) &&& (15 : Int32)) <<< ((4 : Int32) &&& 31)) ||| ((vl (g 2)) >>> ((2 : Int32) &&& 31)))), (.int ((Int32.ofNat bf) + (1 : Int32))), (.ref b1)])
          refine Go.step (fun tt kk => XS.i2b X10.here hx rfl (hb hby d4_208) rfl kk) ?_
          show Go _ _ _ _ _ _ _ T10 (mkF m 209 _ [(.int (((((vl (g 1)) &&& (15 : Int32)) <<< ((4 : Int32) &&& 31)) ||| ((vl (g 2)) >>> ((2 : Int32) &&& 31))).toInt8.toInt32)), (.int ((Int32.ofNat bf) + (1 : Int32))), (.ref b1)])
          rw [show Int32.ofNat bf + (1 : Int32) = Int32.ofNat (bf + 1) from own_add bf 1]
          show Go _ _ _ _ _ _ _ T10 (mkF m 209 #[.val (.ref w_), .val (.int (4 : Int32)), .val (.int (Int32.ofNat bf)), .val (.int (1 : Int32)), .val (.ref b1), .val (.int (Int32.ofNat bf)), .val (.int (0 : Int32)), .val (.int (vl (g 0))), .val (.int (vl (g 1))), .val (.int (vl (g 2)))] [(.int (bB (vl (g 1)) (vl (g 2)))), (.int (Int32.ofNat (bf + 1))), (.ref b1)])
          obtain ⟨cl11, Ar11, hin11, -⟩ := V10.at (j := (Int32.ofNat (bf + 1))) (k := (bf + 1)) (Int32.toInt_ofNat_of_lt (by omega)) (by omega)
          obtain ⟨T11, h11, X11, e11, W11, st11⟩ := stB X10 hx hZ e10 Ar11 (j := (Int32.ofNat (bf + 1))) hin11 (g := (mkF m 209 #[.val (.ref w_), .val (.int (4 : Int32)), .val (.int (Int32.ofNat bf)), .val (.int (1 : Int32)), .val (.ref b1), .val (.int (Int32.ofNat bf)), .val (.int (0 : Int32)), .val (.int (vl (g 0))), .val (.int (vl (g 1))), .val (.int (vl (g 2)))] [(.int (bB (vl (g 1)) (vl (g 2)))), (.int (Int32.ofNat (bf + 1))), (.ref b1)])) rfl rfl (hb hby d4_209)
          rw [(own_nb _)] at W11
          have V11 : AV Z h11 b1 .byte (bf + 2) (upd (upd (fun _ => (.int (0 : Int32))) bf (.int (bA (vl (g 0)) (vl (g 1))))) (bf + 1) (.int (bB (vl (g 1)) (vl (g 2))))) := AV.set V10 (k := (bf + 1)) (Int32.toInt_ofNat_of_lt (by omega)) (by omega) W11
          have N11 := Fr.snoc X11 N10 gn_b1
          have Z11 : n0 ≤ h11.size := Nat.le_trans Z10 (Keep.of_wr W11).1
          have K11 : Keep hI h11 [] := K10.wr W11 (Or.inr sz_b1)
          refine Go.step (st11) ?_
          show Go _ _ _ _ _ _ _ T11 (mkF m 210 _ [])
          refine Go.step (fun tt kk => XS.aload X11.here hx rfl (hb hby d4_210) rfl rfl kk) ?_
          show Go _ _ _ _ _ _ _ T11 (mkF m 212 _ [(.ref b1)])
          have V12 : AV Z h11 b1 .byte (bf + 2) (gv (exI g bf)) := V11.congr fun i hi => by
            by_cases q : i < bf
            · rw [show gv (exI g bf) i = .int 0 from congrArg Value.int (exI_lt q)]
              rw [upd_ne (by omega), upd_ne (by omega)]
            · obtain ⟨j, rfl⟩ : ∃ j, i = bf + j := ⟨i - bf, by omega⟩
              rw [show gv (exI g bf) (bf + j) = .int (bt g (j / 3) (j % 3)) from congrArg Value.int (exI_at j)]
              rcases (by omega : j = 0 ∨ j = 1) with rfl | rfl
              · rw [upd_ne (by omega), upd_at (by omega)]; exact congrArg Value.int rfl
              · rw [upd_at (by omega)]; exact congrArg Value.int rfl
          refine go_retA X11 hx (t := (.array .byte)) hret rfl hlk rfl (hb hby d4_212) ?_ (by decide) (by decide)
          try rw [e11]
          exact ⟨N11, eI ▸ K11, fun _ => ⟨b1, rfl, eI ▸ sz_b1, V12⟩, fun z => absurd (by simp only [not_true_eq_false, not_false_eq_true, and_true, true_and, and_false, false_and, or_true, true_or, or_false, false_or, and_self, or_self, OK4, OK1, OK2, eq_false c153_6, eq_false c158_7, eq_false c163_8, eq_true c170_9]) z⟩
        · refine Go.step (fun tt kk => XS.ifNo X5.here hx rfl (hb hby d4_170) rfl ((if0 _ _).trans (feq c170_9).1) kk) ?_
          show Go _ _ _ _ _ _ _ T5 (mkF m 173 _ [])
          refine Go.step (fun tt kk => XS.aconstNull X5.here hx rfl (hb hby d4_173) kk) ?_
          show Go _ _ _ _ _ _ _ T5 (mkF m 174 _ [.null])
          refine go_retA X5 hx (t := (.array .byte)) hret rfl hlk rfl (hb hby d4_174) ?_ (by decide) (by decide)
          try rw [e5]
          exact ⟨N5, eI ▸ K1, fun z => absurd z (by simp only [not_true_eq_false, not_false_eq_true, and_true, true_and, and_false, false_and, or_true, true_or, or_false, false_or, and_self, or_self, OK4, OK1, OK2, eq_false c153_6, eq_false c158_7, eq_false c163_8, eq_false c170_9]), fun _ => rfl⟩
theorem ef_rmEx42 (m : MethodId) (x0 : Addr) (x1 : Int32) (x2 : Int32) : entryFrame m #[(.ref x0), (.int x1), (.int x2)] 10 = mkF m 0 #[.val (.ref x0), .val (.int x1), .val (.int x2), .unset, .unset, .unset, .unset, .unset, .unset, .unset] [] := by first | (simp [entryFrame, mkF, argsToLocals, Value.category]; done) | rfl
theorem d4_40 : decode method_6_code 40 = .ok (.iconst 2, 1) := by decide +kernel
theorem d4_41 : decode method_6_code 41 = .ok (.goto 4, 3) := by decide +kernel
theorem d4_213 : decode method_6_code 213 = .ok (.iload 7, 2) := by decide +kernel
theorem d4_215 : decode method_6_code 215 = .ok (.ifCond .lt 16, 3) := by decide +kernel
theorem d4_231 : decode method_6_code 231 = .ok (.aconst_null, 1) := by decide +kernel
theorem d4_232 : decode method_6_code 232 = .ok (.areturn, 1) := by decide +kernel
theorem d4_218 : decode method_6_code 218 = .ok (.iload 8, 2) := by decide +kernel
theorem d4_220 : decode method_6_code 220 = .ok (.ifCond .lt 11, 3) := by decide +kernel
theorem d4_223 : decode method_6_code 223 = .ok (.iload 8, 2) := by decide +kernel
theorem d4_225 : decode method_6_code 225 = .ok (.bipush 15, 2) := by decide +kernel
theorem d4_227 : decode method_6_code 227 = .ok (.iand, 1) := by decide +kernel
theorem d4_228 : decode method_6_code 228 = .ok (.ifCond .eq 5, 3) := by decide +kernel
theorem d4_233 : decode method_6_code 233 = .ok (.aload 4, 2) := by decide +kernel
theorem d4_235 : decode method_6_code 235 = .ok (.iload 5, 2) := by decide +kernel
theorem d4_237 : decode method_6_code 237 = .ok (.iload 7, 2) := by decide +kernel
theorem d4_239 : decode method_6_code 239 = .ok (.iconst 2, 1) := by decide +kernel
theorem d4_240 : decode method_6_code 240 = .ok (.ishl, 1) := by decide +kernel
theorem d4_241 : decode method_6_code 241 = .ok (.iload 8, 2) := by decide +kernel
theorem d4_243 : decode method_6_code 243 = .ok (.iconst 4, 1) := by decide +kernel
theorem d4_244 : decode method_6_code 244 = .ok (.ishr, 1) := by decide +kernel
theorem d4_245 : decode method_6_code 245 = .ok (.ior, 1) := by decide +kernel
theorem d4_246 : decode method_6_code 246 = .ok (.i2b, 1) := by decide +kernel
theorem d4_247 : decode method_6_code 247 = .ok (.bastore, 1) := by decide +kernel
theorem d4_248 : decode method_6_code 248 = .ok (.aload 4, 2) := by decide +kernel
theorem d4_250 : decode method_6_code 250 = .ok (.areturn, 1) := by decide +kernel
set_option maxRecDepth 65536 in
set_option maxHeartbeats 40000000 in
theorem rmEx42 (l : Launch) (Z : State) (a0 : Array Value) (hw : ∀ d ∈ tables_1, d.before a0 Z = true) (ws : List Jvm.Cond) (w_ : Addr) (bf : Nat) (g : Nat → Int32) (h0 : Heap) (n0 : Nat) (Z0 : n0 ≤ h0.size) (hbf : bf ≤ 3) (hg : CH g) (hp1 : g 3 = 61) (hp2 : g 2 = 61) (V_w : AV Z h0 w_ .char 8 (gv g)) :
    Ctr l Z (⟨"com/example/sharks/sharks/StandardBase64DecodePinLaw", "expected", "([CII)[B"⟩ : MethodName) method_6_code 10 (some (.array .byte)) ws ({ frames := 1, cells := 1, slots := 9, locals := 12 } : Room) 1 9 #[(.ref w_), (.int (4 : Int32)), (.int (Int32.ofNat bf))] h0 (fun v h L => Fr n0 L ∧ Keep h0 h [] ∧ ((OK2 g 0) → ∃ b, v = some (.ref b) ∧ h0.size ≤ b ∧ AV Z h b .byte (bf + 1) (gv (exI g bf))) ∧ (¬ (OK2 g 0) → v = some .null)) := by
  refine Ctr.mk (plainFor_of_name pn_0) fun p e s m below meth c T0 X0 C e0 => go_cast (ef_rmEx42 m w_ (4 : Int32) (Int32.ofNat bf)) ?_
  have N0 := Fr.nil n0
  obtain ⟨hx, hZ, hby, hml, hown, hnm, hret, hlk⟩ := C
  obtain ⟨hI, eI⟩ : ∃ z, z = h0 := ⟨_, rfl⟩
  have K0 : Keep hI h0 [] := by rw [eI]; exact Keep.refl _ _
  show Go _ _ _ _ _ _ _ T0 (mkF m 0 #[.val (.ref w_), .val (.int (4 : Int32)), .val (.int (Int32.ofNat bf)), .unset, .unset, .unset, .unset, .unset, .unset, .unset] [])
  refine Go.step (fun tt kk => XS.iloadN X0.here hx rfl (hb hby d4_0) rfl kk) ?_
  show Go _ _ _ _ _ _ _ T0 (mkF m 1 _ [(.int (4 : Int32))])
  refine Go.step (fun tt kk => XS.iconst X0.here hx rfl (hb hby d4_1) kk) ?_
  show Go _ _ _ _ _ _ _ T0 (mkF m 2 _ [(.int (4 : Int32)), (.int (4 : Int32))])
  refine Go.step (fun tt kk => iremM X0 hx rfl (hb hby d4_2) rfl (by decide) kk) ?_
  show Go _ _ _ _ _ _ _ T0 (mkF m 3 _ [(.int ((4 : Int32) % (4 : Int32)))])
  refine Go.step (fun tt kk => XS.ifYes X0.here hx rfl (pc0 := 3) (pc' := 8) rfl (hb hby d4_3) rfl ((if0 _ _).trans (teq (by decide)).1) (by decide) (by decide) kk) ?_
  show Go _ _ _ _ _ _ _ T0 (mkF m 8 _ [])
  refine Go.step (fun tt kk => XS.iloadN X0.here hx rfl (hb hby d4_8) rfl kk) ?_
  show Go _ _ _ _ _ _ _ T0 (mkF m 9 _ [(.int (4 : Int32))])
  refine Go.step (fun tt kk => XS.ifYes X0.here hx rfl (pc0 := 9) (pc' := 16) rfl (hb hby d4_9) rfl ((if0 _ _).trans (feq (by decide)).2) (by decide) (by decide) kk) ?_
  show Go _ _ _ _ _ _ _ T0 (mkF m 16 _ [])
  refine Go.step (fun tt kk => XS.aloadN X0.here hx rfl (hb hby d4_16) rfl rfl kk) ?_
  show Go _ _ _ _ _ _ _ T0 (mkF m 17 _ [(.ref w_)])
  refine Go.step (fun tt kk => XS.iloadN X0.here hx rfl (hb hby d4_17) rfl kk) ?_
  show Go _ _ _ _ _ _ _ T0 (mkF m 18 _ [(.int (4 : Int32)), (.ref w_)])
  refine Go.step (fun tt kk => XS.iconst X0.here hx rfl (hb hby d4_18) kk) ?_
  show Go _ _ _ _ _ _ _ T0 (mkF m 19 _ [(.int (1 : Int32)), (.int (4 : Int32)), (.ref w_)])
  refine Go.step (fun tt kk => XS.isub X0.here hx rfl (hb hby d4_19) rfl kk) ?_
  show Go _ _ _ _ _ _ _ T0 (mkF m 20 _ [(.int ((4 : Int32) - (1 : Int32))), (.ref w_)])
  refine Go.step (a_cload X0 hx hZ e0 V_w (k := 3) (by decide) (by decide) (x := (g 3)) rfl (hb hby d4_20)) ?_
  show Go _ _ _ _ _ _ _ T0 (mkF m 21 _ [(.int (g 3))])
  refine Go.step (fun tt kk => XS.bipush X0.here hx rfl (hb hby d4_21) kk) ?_
  show Go _ _ _ _ _ _ _ T0 (mkF m 23 _ [(.int (61 : Int32)), (.int (g 3))])
  refine Go.step (fun tt kk => XS.icmpYes X0.here hx rfl (pc0 := 23) (pc' := 30) rfl (hb hby d4_23) rfl (teq hp1).1 (by decide) (by decide) kk) ?_
  show Go _ _ _ _ _ _ _ T0 (mkF m 30 _ [])
  refine Go.step (fun tt kk => XS.aloadN X0.here hx rfl (hb hby d4_30) rfl rfl kk) ?_
  show Go _ _ _ _ _ _ _ T0 (mkF m 31 _ [(.ref w_)])
  refine Go.step (fun tt kk => XS.iloadN X0.here hx rfl (hb hby d4_31) rfl kk) ?_
  show Go _ _ _ _ _ _ _ T0 (mkF m 32 _ [(.int (4 : Int32)), (.ref w_)])
  refine Go.step (fun tt kk => XS.iconst X0.here hx rfl (hb hby d4_32) kk) ?_
  show Go _ _ _ _ _ _ _ T0 (mkF m 33 _ [(.int (2 : Int32)), (.int (4 : Int32)), (.ref w_)])
  refine Go.step (fun tt kk => XS.isub X0.here hx rfl (hb hby d4_33) rfl kk) ?_
  show Go _ _ _ _ _ _ _ T0 (mkF m 34 _ [(.int ((4 : Int32) - (2 : Int32))), (.ref w_)])
  refine Go.step (a_cload X0 hx hZ e0 V_w (k := 2) (by decide) (by decide) (x := (g 2)) rfl (hb hby d4_34)) ?_
  show Go _ _ _ _ _ _ _ T0 (mkF m 35 _ [(.int (g 2))])
  refine Go.step (fun tt kk => XS.bipush X0.here hx rfl (hb hby d4_35) kk) ?_
  show Go _ _ _ _ _ _ _ T0 (mkF m 37 _ [(.int (61 : Int32)), (.int (g 2))])
  refine Go.step (fun tt kk => XS.icmpNo X0.here hx rfl (hb hby d4_37) rfl (teq hp2).2 kk) ?_
  show Go _ _ _ _ _ _ _ T0 (mkF m 40 _ [])
  refine Go.step (fun tt kk => XS.iconst X0.here hx rfl (hb hby d4_40) kk) ?_
  show Go _ _ _ _ _ _ _ T0 (mkF m 41 _ [(.int (2 : Int32))])
  refine Go.step (fun tt kk => XS.goto X0.here hx rfl (pc0 := 41) (pc' := 45) rfl (hb hby d4_41) (by decide) (by decide) kk) ?_
  show Go _ _ _ _ _ _ _ T0 (mkF m 45 _ [(.int (2 : Int32))])
  refine Go.step (fun tt kk => XS.istoreN X0.here hx rfl (hb hby d4_45) rfl (l' := #[.val (.ref w_), .val (.int (4 : Int32)), .val (.int (Int32.ofNat bf)), .val (.int (2 : Int32)), .unset, .unset, .unset, .unset, .unset, .unset]) rfl kk) ?_
  show Go _ _ _ _ _ _ _ T0 (mkF m 46 _ [])
  refine Go.step (fun tt kk => XS.iloadN X0.here hx rfl (hb hby d4_46) rfl kk) ?_
  show Go _ _ _ _ _ _ _ T0 (mkF m 47 _ [(.int (Int32.ofNat bf))])
  refine Go.step (fun tt kk => XS.iloadN X0.here hx rfl (hb hby d4_47) rfl kk) ?_
  show Go _ _ _ _ _ _ _ T0 (mkF m 48 _ [(.int (4 : Int32)), (.int (Int32.ofNat bf))])
  refine Go.step (fun tt kk => XS.iconst X0.here hx rfl (hb hby d4_48) kk) ?_
  show Go _ _ _ _ _ _ _ T0 (mkF m 49 _ [(.int (4 : Int32)), (.int (4 : Int32)), (.int (Int32.ofNat bf))])
  refine Go.step (fun tt kk => XS.idiv X0.here hx rfl (hb hby d4_49) rfl (by decide) kk) ?_
  show Go _ _ _ _ _ _ _ T0 (mkF m 50 _ [(.int ((4 : Int32) / (4 : Int32))), (.int (Int32.ofNat bf))])
  refine Go.step (fun tt kk => XS.iconst X0.here hx rfl (hb hby d4_50) kk) ?_
  show Go _ _ _ _ _ _ _ T0 (mkF m 51 _ [(.int (3 : Int32)), (.int ((4 : Int32) / (4 : Int32))), (.int (Int32.ofNat bf))])
  refine Go.step (fun tt kk => XS.imul X0.here hx rfl (hb hby d4_51) rfl kk) ?_
  show Go _ _ _ _ _ _ _ T0 (mkF m 52 _ [(.int (((4 : Int32) / (4 : Int32)) * (3 : Int32))), (.int (Int32.ofNat bf))])
  refine Go.step (fun tt kk => XS.iadd X0.here hx rfl (hb hby d4_52) rfl kk) ?_
  show Go _ _ _ _ _ _ _ T0 (mkF m 53 _ [(.int ((Int32.ofNat bf) + (((4 : Int32) / (4 : Int32)) * (3 : Int32))))])
  refine Go.step (fun tt kk => XS.iloadN X0.here hx rfl (hb hby d4_53) rfl kk) ?_
  show Go _ _ _ _ _ _ _ T0 (mkF m 54 _ [(.int (2 : Int32)), (.int ((Int32.ofNat bf) + (((4 : Int32) / (4 : Int32)) * (3 : Int32))))])
  refine Go.step (fun tt kk => XS.isub X0.here hx rfl (hb hby d4_54) rfl kk) ?_
  show Go _ _ _ _ _ _ _ T0 (mkF m 55 _ [(.int (((Int32.ofNat bf) + (((4 : Int32) / (4 : Int32)) * (3 : Int32))) - (2 : Int32)))])
  rw [show (((Int32.ofNat bf) + (((4 : Int32) / (4 : Int32)) * (3 : Int32))) - (2 : Int32)) = Int32.ofNat (bf + 1) from by rw [show (((4 : Int32) / (4 : Int32)) * (3 : Int32)) = Int32.ofNat 3 by decide, own_add]; exact own_sub (bf + 3) 2 (by omega) (by omega)]
  show Go _ _ _ _ _ _ _ T0 (mkF m 55 #[.val (.ref w_), .val (.int (4 : Int32)), .val (.int (Int32.ofNat bf)), .val (.int (2 : Int32)), .unset, .unset, .unset, .unset, .unset, .unset] [(.int (Int32.ofNat (bf + 1)))])
  obtain ⟨T1, h1, k1, X1, e1, E1, A1, EA1, st1⟩ := newPE X0 hx hZ (hw _ (List.mem_of_getElem? (i := 20) rfl)) e0 (g := (mkF m 55 #[.val (.ref w_), .val (.int (4 : Int32)), .val (.int (Int32.ofNat bf)), .val (.int (2 : Int32)), .unset, .unset, .unset, .unset, .unset, .unset] [(.int (Int32.ofNat (bf + 1)))])) rfl (hb hby d4_55) rfl (own_nn (bf + 1) (by omega)) (cap := 9) (by rw [clamp_of (k := bf + 1) (Int32.toInt_ofNat_of_lt (by omega))]; omega) (by decide) (by decide) (by decide) (ad := "[B") rfl
  obtain ⟨b1, g1⟩ : ∃ z, z = h0.size := ⟨_, rfl⟩
  rw [← g1] at A1 EA1 st1
  have ne_w__b1 : w_ ≠ b1 := Nat.ne_of_lt (Nat.lt_of_lt_of_le V_w.lt (Nat.le_of_eq g1.symm))
  have gn_b1 : n0 ≤ b1 := Nat.le_trans Z0 (Nat.le_of_eq g1.symm)
  have sz_b1 : hI.size ≤ b1 := Nat.le_trans K0.1 (Nat.le_of_eq g1.symm)
  have Z1 : n0 ≤ h1.size := Nat.le_trans Z0 E1.1
  have K1 : Keep hI h1 [] := K0.ext E1
  have V1 : AV Z h1 b1 .byte (bf + 1) (fun _ => (.int (0 : Int32))) := AV.new A1 (Int32.toInt_ofNat_of_lt (by omega))
  refine Go.step (st1) ?_
  show Go _ _ _ _ _ _ _ T1 (mkF m 57 _ [(.ref b1)])
  refine Go.step (fun tt kk => XS.astore X1.here hx rfl (hb hby d4_57) rfl rfl (l' := #[.val (.ref w_), .val (.int (4 : Int32)), .val (.int (Int32.ofNat bf)), .val (.int (2 : Int32)), .val (.ref b1), .unset, .unset, .unset, .unset, .unset]) rfl kk) ?_
  show Go _ _ _ _ _ _ _ T1 (mkF m 59 _ [])
  refine Go.step (fun tt kk => XS.iloadN X1.here hx rfl (hb hby d4_59) rfl kk) ?_
  show Go _ _ _ _ _ _ _ T1 (mkF m 60 _ [(.int (Int32.ofNat bf))])
  refine Go.step (fun tt kk => XS.istore X1.here hx rfl (hb hby d4_60) rfl (l' := #[.val (.ref w_), .val (.int (4 : Int32)), .val (.int (Int32.ofNat bf)), .val (.int (2 : Int32)), .val (.ref b1), .val (.int (Int32.ofNat bf)), .unset, .unset, .unset, .unset]) rfl kk) ?_
  show Go _ _ _ _ _ _ _ T1 (mkF m 62 _ [])
  refine Go.step (fun tt kk => XS.iloadN X1.here hx rfl (hb hby d4_62) rfl kk) ?_
  show Go _ _ _ _ _ _ _ T1 (mkF m 63 _ [(.int (4 : Int32))])
  refine Go.step (fun tt kk => XS.bipush X1.here hx rfl (hb hby d4_63) kk) ?_
  show Go _ _ _ _ _ _ _ T1 (mkF m 65 _ [(.int (8 : Int32)), (.int (4 : Int32))])
  refine Go.step (fun tt kk => XS.icmpYes X1.here hx rfl (pc0 := 65) (pc' := 86) rfl (hb hby d4_65) rfl (feq (by decide)).2 (by decide) (by decide) kk) ?_
  show Go _ _ _ _ _ _ _ T1 (mkF m 86 _ [])
  refine Go.step (fun tt kk => XS.iloadN X1.here hx rfl (hb hby d4_86) rfl kk) ?_
  show Go _ _ _ _ _ _ _ T1 (mkF m 87 _ [(.int (4 : Int32))])
  refine Go.step (fun tt kk => XS.iconst X1.here hx rfl (hb hby d4_87) kk) ?_
  show Go _ _ _ _ _ _ _ T1 (mkF m 88 _ [(.int (4 : Int32)), (.int (4 : Int32))])
  refine Go.step (fun tt kk => XS.isub X1.here hx rfl (hb hby d4_88) rfl kk) ?_
  show Go _ _ _ _ _ _ _ T1 (mkF m 89 _ [(.int ((4 : Int32) - (4 : Int32)))])
  refine Go.step (fun tt kk => XS.istore X1.here hx rfl (hb hby d4_89) rfl (l' := #[.val (.ref w_), .val (.int (4 : Int32)), .val (.int (Int32.ofNat bf)), .val (.int (2 : Int32)), .val (.ref b1), .val (.int (Int32.ofNat bf)), .val (.int ((4 : Int32) - (4 : Int32))), .unset, .unset, .unset]) rfl kk) ?_
  show Go _ _ _ _ _ _ _ T1 (mkF m 91 _ [])
  rw [show ((4 : Int32) - (4 : Int32)) = (0 : Int32) by decide]
  show Go _ _ _ _ _ _ _ T1 (mkF m 91 #[.val (.ref w_), .val (.int (4 : Int32)), .val (.int (Int32.ofNat bf)), .val (.int (2 : Int32)), .val (.ref b1), .val (.int (Int32.ofNat bf)), .val (.int (0 : Int32)), .unset, .unset, .unset] [])
  refine Go.step (fun tt kk => XS.iloadN X1.here hx rfl (hb hby d4_91) rfl kk) ?_
  show Go _ _ _ _ _ _ _ T1 (mkF m 92 _ [(.int (2 : Int32))])
  refine Go.step (fun tt kk => XS.ifYes X1.here hx rfl (pc0 := 92) (pc' := 115) rfl (hb hby d4_92) rfl ((if0 _ _).trans (feq (by decide)).2) (by decide) (by decide) kk) ?_
  show Go _ _ _ _ _ _ _ T1 (mkF m 115 _ [])
  refine Go.step (fun tt kk => XS.aloadN X1.here hx rfl (hb hby d4_115) rfl rfl kk) ?_
  show Go _ _ _ _ _ _ _ T1 (mkF m 116 _ [(.ref w_)])
  refine Go.step (fun tt kk => XS.iload X1.here hx rfl (hb hby d4_116) rfl kk) ?_
  show Go _ _ _ _ _ _ _ T1 (mkF m 118 _ [(.int (0 : Int32)), (.ref w_)])
  have f2 := (V_w.ext E1)
  refine Go.step (a_cload X1 hx hZ e1 f2 (k := 0) (by decide) (by decide) (x := (g 0)) rfl (hb hby d4_118)) ?_
  show Go _ _ _ _ _ _ _ T1 (mkF m 119 _ [(.int (g 0))])
  obtain ⟨v3, T3, L3, X3, q3, st3⟩ := c_static X1 hx hZ hown (y := (⟨"com/example/sharks/sharks/StandardBase64DecodePinLaw", "v", "(C)I"⟩ : MethodName)) (hw _ (List.mem_of_getElem? (i := 32) rfl)) (hw _ (List.mem_of_getElem? (i := 33) rfl)) (hw _ (List.mem_of_getElem? (i := 4) rfl)) (hw _ (List.mem_of_getElem? (i := 34) rfl)) (by decide) (argsL := [(.int (g 0))]) (rest := []) (rmV l Z a0 hw [] (g 0) h1 n0 Z1 ) e1 pd_1 rfl (by rw [hml]; rfl) (W := 0) (by show 2 * 0 + _ ≤ _; exact Nat.le_of_eq rfl) (by decide) (by decide) (by decide) (by decide) (hb hby d4_119) (Ls := #[.val (.ref w_), .val (.int (4 : Int32)), .val (.int (Int32.ofNat bf)), .val (.int (2 : Int32)), .val (.ref b1), .val (.int (Int32.ofNat bf)), .val (.int (0 : Int32)), .unset, .unset, .unset])
  obtain ⟨rfl, rfl, e3⟩ := q3
  have N3 := Fr.app N0 (Fr.nil n0)
  refine Go.step (st3) ?_
  show Go _ _ _ _ _ _ _ T3 (mkF m 122 _ [(.int (vl (g 0)))])
  refine Go.step (fun tt kk => XS.istore X3.here hx rfl (hb hby d4_122) rfl (l' := #[.val (.ref w_), .val (.int (4 : Int32)), .val (.int (Int32.ofNat bf)), .val (.int (2 : Int32)), .val (.ref b1), .val (.int (Int32.ofNat bf)), .val (.int (0 : Int32)), .val (.int (vl (g 0))), .unset, .unset]) rfl kk) ?_
  show Go _ _ _ _ _ _ _ T3 (mkF m 124 _ [])
  refine Go.step (fun tt kk => XS.aloadN X3.here hx rfl (hb hby d4_124) rfl rfl kk) ?_
  show Go _ _ _ _ _ _ _ T3 (mkF m 125 _ [(.ref w_)])
  refine Go.step (fun tt kk => XS.iload X3.here hx rfl (hb hby d4_125) rfl kk) ?_
  show Go _ _ _ _ _ _ _ T3 (mkF m 127 _ [(.int (0 : Int32)), (.ref w_)])
  refine Go.step (fun tt kk => XS.iconst X3.here hx rfl (hb hby d4_127) kk) ?_
  show Go _ _ _ _ _ _ _ T3 (mkF m 128 _ [(.int (1 : Int32)), (.int (0 : Int32)), (.ref w_)])
  refine Go.step (fun tt kk => XS.iadd X3.here hx rfl (hb hby d4_128) rfl kk) ?_
  show Go _ _ _ _ _ _ _ T3 (mkF m 129 _ [(.int ((0 : Int32) + (1 : Int32))), (.ref w_)])
  refine Go.step (a_cload X3 hx hZ e3 f2 (k := 1) (by decide) (by decide) (x := (g 1)) rfl (hb hby d4_129)) ?_
  show Go _ _ _ _ _ _ _ T3 (mkF m 130 _ [(.int (g 1))])
  obtain ⟨v4, T4, L4, X4, q4, st4⟩ := c_static X3 hx hZ hown (y := (⟨"com/example/sharks/sharks/StandardBase64DecodePinLaw", "v", "(C)I"⟩ : MethodName)) (hw _ (List.mem_of_getElem? (i := 32) rfl)) (hw _ (List.mem_of_getElem? (i := 33) rfl)) (hw _ (List.mem_of_getElem? (i := 4) rfl)) (hw _ (List.mem_of_getElem? (i := 34) rfl)) (by decide) (argsL := [(.int (g 1))]) (rest := []) (rmV l Z a0 hw [] (g 1) h1 n0 Z1 ) e3 pd_1 rfl (by rw [hml]; rfl) (W := 0) (by show 2 * 0 + _ ≤ _; exact Nat.le_of_eq rfl) (by decide) (by decide) (by decide) (by decide) (hb hby d4_130) (Ls := #[.val (.ref w_), .val (.int (4 : Int32)), .val (.int (Int32.ofNat bf)), .val (.int (2 : Int32)), .val (.ref b1), .val (.int (Int32.ofNat bf)), .val (.int (0 : Int32)), .val (.int (vl (g 0))), .unset, .unset])
  obtain ⟨rfl, rfl, e4⟩ := q4
  have N4 := Fr.app N3 (Fr.nil n0)
  refine Go.step (st4) ?_
  show Go _ _ _ _ _ _ _ T4 (mkF m 133 _ [(.int (vl (g 1)))])
  refine Go.step (fun tt kk => XS.istore X4.here hx rfl (hb hby d4_133) rfl (l' := #[.val (.ref w_), .val (.int (4 : Int32)), .val (.int (Int32.ofNat bf)), .val (.int (2 : Int32)), .val (.ref b1), .val (.int (Int32.ofNat bf)), .val (.int (0 : Int32)), .val (.int (vl (g 0))), .val (.int (vl (g 1))), .unset]) rfl kk) ?_
  show Go _ _ _ _ _ _ _ T4 (mkF m 135 _ [])
  refine Go.step (fun tt kk => XS.iloadN X4.here hx rfl (hb hby d4_135) rfl kk) ?_
  show Go _ _ _ _ _ _ _ T4 (mkF m 136 _ [(.int (2 : Int32))])
  refine Go.step (fun tt kk => XS.iconst X4.here hx rfl (hb hby d4_136) kk) ?_
  show Go _ _ _ _ _ _ _ T4 (mkF m 137 _ [(.int (1 : Int32)), (.int (2 : Int32))])
  refine Go.step (fun tt kk => XS.icmpYes X4.here hx rfl (pc0 := 137) (pc' := 213) rfl (hb hby d4_137) rfl (feq (by decide)).2 (by decide) (by decide) kk) ?_
  show Go _ _ _ _ _ _ _ T4 (mkF m 213 _ [])
  refine Go.step (fun tt kk => XS.iload X4.here hx rfl (hb hby d4_213) rfl kk) ?_
  show Go _ _ _ _ _ _ _ T4 (mkF m 215 _ [(.int (vl (g 0)))])
  by_cases c215_5 : (vl (g 0)) < (0 : Int32)
  · refine Go.step (fun tt kk => XS.ifYes X4.here hx rfl (pc0 := 215) (pc' := 231) rfl (hb hby d4_215) rfl ((if0 _ _).trans (tlt c215_5).1) (by decide) (by decide) kk) ?_
    show Go _ _ _ _ _ _ _ T4 (mkF m 231 _ [])
    refine Go.step (fun tt kk => XS.aconstNull X4.here hx rfl (hb hby d4_231) kk) ?_
    show Go _ _ _ _ _ _ _ T4 (mkF m 232 _ [.null])
    refine go_retA X4 hx (t := (.array .byte)) hret rfl hlk rfl (hb hby d4_232) ?_ (by decide) (by decide)
    try rw [e4]
    exact ⟨N4, eI ▸ K1, fun z => absurd z (by simp only [not_true_eq_false, not_false_eq_true, and_true, true_and, and_false, false_and, or_true, true_or, or_false, false_or, and_self, or_self, OK4, OK1, OK2, eq_true c215_5]), fun _ => rfl⟩
  · refine Go.step (fun tt kk => XS.ifNo X4.here hx rfl (hb hby d4_215) rfl ((if0 _ _).trans (flt c215_5).1) kk) ?_
    show Go _ _ _ _ _ _ _ T4 (mkF m 218 _ [])
    refine Go.step (fun tt kk => XS.iload X4.here hx rfl (hb hby d4_218) rfl kk) ?_
    show Go _ _ _ _ _ _ _ T4 (mkF m 220 _ [(.int (vl (g 1)))])
    by_cases c220_6 : (vl (g 1)) < (0 : Int32)
    · refine Go.step (fun tt kk => XS.ifYes X4.here hx rfl (pc0 := 220) (pc' := 231) rfl (hb hby d4_220) rfl ((if0 _ _).trans (tlt c220_6).1) (by decide) (by decide) kk) ?_
      show Go _ _ _ _ _ _ _ T4 (mkF m 231 _ [])
      refine Go.step (fun tt kk => XS.aconstNull X4.here hx rfl (hb hby d4_231) kk) ?_
      show Go _ _ _ _ _ _ _ T4 (mkF m 232 _ [.null])
      refine go_retA X4 hx (t := (.array .byte)) hret rfl hlk rfl (hb hby d4_232) ?_ (by decide) (by decide)
      try rw [e4]
      exact ⟨N4, eI ▸ K1, fun z => absurd z (by simp only [not_true_eq_false, not_false_eq_true, and_true, true_and, and_false, false_and, or_true, true_or, or_false, false_or, and_self, or_self, OK4, OK1, OK2, eq_false c215_5, eq_true c220_6]), fun _ => rfl⟩
    · refine Go.step (fun tt kk => XS.ifNo X4.here hx rfl (hb hby d4_220) rfl ((if0 _ _).trans (flt c220_6).1) kk) ?_
      show Go _ _ _ _ _ _ _ T4 (mkF m 223 _ [])
      refine Go.step (fun tt kk => XS.iload X4.here hx rfl (hb hby d4_223) rfl kk) ?_
      show Go _ _ _ _ _ _ _ T4 (mkF m 225 _ [(.int (vl (g 1)))])
      refine Go.step (fun tt kk => XS.bipush X4.here hx rfl (hb hby d4_225) kk) ?_
      show Go _ _ _ _ _ _ _ T4 (mkF m 227 _ [(.int (15 : Int32)), (.int (vl (g 1)))])
      refine Go.step (fun tt kk => XS.iand X4.here hx rfl (hb hby d4_227) rfl kk) ?_
      show Go _ _ _ _ _ _ _ T4 (mkF m 228 _ [(.int ((vl (g 1)) &&& (15 : Int32)))])
      by_cases c228_7 : ((vl (g 1)) &&& (15 : Int32)) = (0 : Int32)
      · refine Go.step (fun tt kk => XS.ifYes X4.here hx rfl (pc0 := 228) (pc' := 233) rfl (hb hby d4_228) rfl ((if0 _ _).trans (teq c228_7).1) (by decide) (by decide) kk) ?_
        show Go _ _ _ _ _ _ _ T4 (mkF m 233 _ [])
        refine Go.step (fun tt kk => XS.aload X4.here hx rfl (hb hby d4_233) rfl rfl kk) ?_
        show Go _ _ _ _ _ _ _ T4 (mkF m 235 _ [(.ref b1)])
        refine Go.step (fun tt kk => XS.iload X4.here hx rfl (hb hby d4_235) rfl kk) ?_
        show Go _ _ _ _ _ _ _ T4 (mkF m 237 _ [(.int (Int32.ofNat bf)), (.ref b1)])
        refine Go.step (fun tt kk => XS.iload X4.here hx rfl (hb hby d4_237) rfl kk) ?_
        show Go _ _ _ _ _ _ _ T4 (mkF m 239 _ [(.int (vl (g 0))), (.int (Int32.ofNat bf)), (.ref b1)])
        refine Go.step (fun tt kk => XS.iconst X4.here hx rfl (hb hby d4_239) kk) ?_
        show Go _ _ _ _ _ _ _ T4 (mkF m 240 _ [(.int (2 : Int32)), (.int (vl (g 0))), (.int (Int32.ofNat bf)), (.ref b1)])
        refine Go.step (fun tt kk => XS.ishl X4.here hx rfl (hb hby d4_240) rfl kk) ?_
        show Go _ _ _ _ _ _ _ T4 (mkF m 241 _ [(.int ((vl (g 0)) <<< ((2 : Int32) &&& 31))), (.int (Int32.ofNat bf)), (.ref b1)])
        refine Go.step (fun tt kk => XS.iload X4.here hx rfl (hb hby d4_241) rfl kk) ?_
        show Go _ _ _ _ _ _ _ T4 (mkF m 243 _ [(.int (vl (g 1))), (.int ((vl (g 0)) <<< ((2 : Int32) &&& 31))), (.int (Int32.ofNat bf)), (.ref b1)])
        refine Go.step (fun tt kk => XS.iconst X4.here hx rfl (hb hby d4_243) kk) ?_
        show Go _ _ _ _ _ _ _ T4 (mkF m 244 _ [(.int (4 : Int32)), (.int (vl (g 1))), (.int ((vl (g 0)) <<< ((2 : Int32) &&& 31))), (.int (Int32.ofNat bf)), (.ref b1)])
        refine Go.step (fun tt kk => XS.ishr X4.here hx rfl (hb hby d4_244) rfl kk) ?_
        show Go _ _ _ _ _ _ _ T4 (mkF m 245 _ [(.int ((vl (g 1)) >>> ((4 : Int32) &&& 31))), (.int ((vl (g 0)) <<< ((2 : Int32) &&& 31))), (.int (Int32.ofNat bf)), (.ref b1)])
        refine Go.step (fun tt kk => XS.ior X4.here hx rfl (hb hby d4_245) rfl kk) ?_
        show Go _ _ _ _ _ _ _ T4 (mkF m 246 _ [(.int (((vl (g 0)) <<< ((2 : Int32) &&& 31)) ||| ((vl (g 1)) >>> ((4 : Int32) &&& 31)))), (.int (Int32.ofNat bf)), (.ref b1)])
        refine Go.step (fun tt kk => XS.i2b X4.here hx rfl (hb hby d4_246) rfl kk) ?_
        show Go _ _ _ _ _ _ _ T4 (mkF m 247 _ [(.int ((((vl (g 0)) <<< ((2 : Int32) &&& 31)) ||| ((vl (g 1)) >>> ((4 : Int32) &&& 31))).toInt8.toInt32)), (.int (Int32.ofNat bf)), (.ref b1)])
        show Go _ _ _ _ _ _ _ T4 (mkF m 247 #[.val (.ref w_), .val (.int (4 : Int32)), .val (.int (Int32.ofNat bf)), .val (.int (2 : Int32)), .val (.ref b1), .val (.int (Int32.ofNat bf)), .val (.int (0 : Int32)), .val (.int (vl (g 0))), .val (.int (vl (g 1))), .unset] [(.int (bA (vl (g 0)) (vl (g 1)))), (.int (Int32.ofNat bf)), (.ref b1)])
        obtain ⟨cl8, Ar8, hin8, -⟩ := V1.at (j := (Int32.ofNat bf)) (k := bf) (Int32.toInt_ofNat_of_lt (by omega)) (by omega)
        obtain ⟨T8, h8, X8, e8, W8, st8⟩ := stB X4 hx hZ e4 Ar8 (j := (Int32.ofNat bf)) hin8 (g := (mkF m 247 #[.val (.ref w_), .val (.int (4 : Int32)), .val (.int (Int32.ofNat bf)), .val (.int (2 : Int32)), .val (.ref b1), .val (.int (Int32.ofNat bf)), .val (.int (0 : Int32)), .val (.int (vl (g 0))), .val (.int (vl (g 1))), .unset] [(.int (bA (vl (g 0)) (vl (g 1)))), (.int (Int32.ofNat bf)), (.ref b1)])) rfl rfl (hb hby d4_247)
        rw [(own_nb _)] at W8
        have V8 : AV Z h8 b1 .byte (bf + 1) (upd (fun _ => (.int (0 : Int32))) bf (.int (bA (vl (g 0)) (vl (g 1))))) := AV.set V1 (k := bf) (Int32.toInt_ofNat_of_lt (by omega)) (by omega) W8
        have N8 := Fr.snoc X8 N4 gn_b1
        have Z8 : n0 ≤ h8.size := Nat.le_trans Z1 (Keep.of_wr W8).1
        have K8 : Keep hI h8 [] := K1.wr W8 (Or.inr sz_b1)
        refine Go.step (st8) ?_
        show Go _ _ _ _ _ _ _ T8 (mkF m 248 _ [])
        refine Go.step (fun tt kk => XS.aload X8.here hx rfl (hb hby d4_248) rfl rfl kk) ?_
        show Go _ _ _ _ _ _ _ T8 (mkF m 250 _ [(.ref b1)])
        have V9 : AV Z h8 b1 .byte (bf + 1) (gv (exI g bf)) := V8.congr fun i hi => by
          by_cases q : i < bf
          · rw [show gv (exI g bf) i = .int 0 from congrArg Value.int (exI_lt q)]
            rw [upd_ne (by omega)]
          · obtain ⟨j, rfl⟩ : ∃ j, i = bf + j := ⟨i - bf, by omega⟩
            rw [show gv (exI g bf) (bf + j) = .int (bt g (j / 3) (j % 3)) from congrArg Value.int (exI_at j)]
            rcases (by omega : j = 0) with rfl
            · rw [upd_at (by omega)]; exact congrArg Value.int rfl
        refine go_retA X8 hx (t := (.array .byte)) hret rfl hlk rfl (hb hby d4_250) ?_ (by decide) (by decide)
        try rw [e8]
        exact ⟨N8, eI ▸ K8, fun _ => ⟨b1, rfl, eI ▸ sz_b1, V9⟩, fun z => absurd (by simp only [not_true_eq_false, not_false_eq_true, and_true, true_and, and_false, false_and, or_true, true_or, or_false, false_or, and_self, or_self, OK4, OK1, OK2, eq_false c215_5, eq_false c220_6, eq_true c228_7]) z⟩
      · refine Go.step (fun tt kk => XS.ifNo X4.here hx rfl (hb hby d4_228) rfl ((if0 _ _).trans (feq c228_7).1) kk) ?_
        show Go _ _ _ _ _ _ _ T4 (mkF m 231 _ [])
        refine Go.step (fun tt kk => XS.aconstNull X4.here hx rfl (hb hby d4_231) kk) ?_
        show Go _ _ _ _ _ _ _ T4 (mkF m 232 _ [.null])
        refine go_retA X4 hx (t := (.array .byte)) hret rfl hlk rfl (hb hby d4_232) ?_ (by decide) (by decide)
        try rw [e4]
        exact ⟨N4, eI ▸ K1, fun z => absurd z (by simp only [not_true_eq_false, not_false_eq_true, and_true, true_and, and_false, false_and, or_true, true_or, or_false, false_or, and_self, or_self, OK4, OK1, OK2, eq_false c215_5, eq_false c220_6, eq_false c228_7]), fun _ => rfl⟩
theorem ef_rmEx80 (m : MethodId) (x0 : Addr) (x1 : Int32) (x2 : Int32) : entryFrame m #[(.ref x0), (.int x1), (.int x2)] 10 = mkF m 0 #[.val (.ref x0), .val (.int x1), .val (.int x2), .unset, .unset, .unset, .unset, .unset, .unset, .unset] [] := by first | (simp [entryFrame, mkF, argsToLocals, Value.category]; done) | rfl
theorem d4_68 : decode method_6_code 68 = .ok (.aload_n 0, 1) := by decide +kernel
theorem d4_69 : decode method_6_code 69 = .ok (.iconst 0, 1) := by decide +kernel
theorem d4_70 : decode method_6_code 70 = .ok (.aload 4, 2) := by decide +kernel
theorem d4_72 : decode method_6_code 72 = .ok (.iload_n 2, 1) := by decide +kernel
theorem d4_73 : decode method_6_code 73 = .ok (.invokestatic 34, 3) := by decide +kernel
theorem d4_76 : decode method_6_code 76 = .ok (.ifCond .ne 5, 3) := by decide +kernel
theorem d4_81 : decode method_6_code 81 = .ok (.iload_n 2, 1) := by decide +kernel
theorem d4_82 : decode method_6_code 82 = .ok (.iconst 3, 1) := by decide +kernel
theorem d4_83 : decode method_6_code 83 = .ok (.iadd, 1) := by decide +kernel
theorem d4_84 : decode method_6_code 84 = .ok (.istore 5, 2) := by decide +kernel
theorem d4_79 : decode method_6_code 79 = .ok (.aconst_null, 1) := by decide +kernel
theorem d4_80 : decode method_6_code 80 = .ok (.areturn, 1) := by decide +kernel
set_option maxRecDepth 65536 in
set_option maxHeartbeats 40000000 in
theorem rmEx80 (l : Launch) (Z : State) (a0 : Array Value) (hw : ∀ d ∈ tables_1, d.before a0 Z = true) (ws : List Jvm.Cond) (w_ : Addr) (bf : Nat) (g : Nat → Int32) (h0 : Heap) (n0 : Nat) (Z0 : n0 ≤ h0.size) (hbf : bf ≤ 3) (hg : CH g) (hp1 : ¬ g 7 = 61) (V_w : AV Z h0 w_ .char 8 (gv g)) :
    Ctr l Z (⟨"com/example/sharks/sharks/StandardBase64DecodePinLaw", "expected", "([CII)[B"⟩ : MethodName) method_6_code 10 (some (.array .byte)) ws ({ frames := 2, cells := 1, slots := 9, locals := 31 } : Room) 1 9 #[(.ref w_), (.int (8 : Int32)), (.int (Int32.ofNat bf))] h0 (fun v h L => Fr n0 L ∧ Keep h0 h [] ∧ ((OK4 g 0 ∧ OK4 g 4) → ∃ b, v = some (.ref b) ∧ h0.size ≤ b ∧ AV Z h b .byte (bf + 6) (gv (exI g bf))) ∧ (¬ (OK4 g 0 ∧ OK4 g 4) → v = some .null)) := by
  refine Ctr.mk (plainFor_of_name pn_0) fun p e s m below meth c T0 X0 C e0 => go_cast (ef_rmEx80 m w_ (8 : Int32) (Int32.ofNat bf)) ?_
  have N0 := Fr.nil n0
  obtain ⟨hx, hZ, hby, hml, hown, hnm, hret, hlk⟩ := C
  obtain ⟨hI, eI⟩ : ∃ z, z = h0 := ⟨_, rfl⟩
  have K0 : Keep hI h0 [] := by rw [eI]; exact Keep.refl _ _
  show Go _ _ _ _ _ _ _ T0 (mkF m 0 #[.val (.ref w_), .val (.int (8 : Int32)), .val (.int (Int32.ofNat bf)), .unset, .unset, .unset, .unset, .unset, .unset, .unset] [])
  refine Go.step (fun tt kk => XS.iloadN X0.here hx rfl (hb hby d4_0) rfl kk) ?_
  show Go _ _ _ _ _ _ _ T0 (mkF m 1 _ [(.int (8 : Int32))])
  refine Go.step (fun tt kk => XS.iconst X0.here hx rfl (hb hby d4_1) kk) ?_
  show Go _ _ _ _ _ _ _ T0 (mkF m 2 _ [(.int (4 : Int32)), (.int (8 : Int32))])
  refine Go.step (fun tt kk => iremM X0 hx rfl (hb hby d4_2) rfl (by decide) kk) ?_
  show Go _ _ _ _ _ _ _ T0 (mkF m 3 _ [(.int ((8 : Int32) % (4 : Int32)))])
  refine Go.step (fun tt kk => XS.ifYes X0.here hx rfl (pc0 := 3) (pc' := 8) rfl (hb hby d4_3) rfl ((if0 _ _).trans (teq (by decide)).1) (by decide) (by decide) kk) ?_
  show Go _ _ _ _ _ _ _ T0 (mkF m 8 _ [])
  refine Go.step (fun tt kk => XS.iloadN X0.here hx rfl (hb hby d4_8) rfl kk) ?_
  show Go _ _ _ _ _ _ _ T0 (mkF m 9 _ [(.int (8 : Int32))])
  refine Go.step (fun tt kk => XS.ifYes X0.here hx rfl (pc0 := 9) (pc' := 16) rfl (hb hby d4_9) rfl ((if0 _ _).trans (feq (by decide)).2) (by decide) (by decide) kk) ?_
  show Go _ _ _ _ _ _ _ T0 (mkF m 16 _ [])
  refine Go.step (fun tt kk => XS.aloadN X0.here hx rfl (hb hby d4_16) rfl rfl kk) ?_
  show Go _ _ _ _ _ _ _ T0 (mkF m 17 _ [(.ref w_)])
  refine Go.step (fun tt kk => XS.iloadN X0.here hx rfl (hb hby d4_17) rfl kk) ?_
  show Go _ _ _ _ _ _ _ T0 (mkF m 18 _ [(.int (8 : Int32)), (.ref w_)])
  refine Go.step (fun tt kk => XS.iconst X0.here hx rfl (hb hby d4_18) kk) ?_
  show Go _ _ _ _ _ _ _ T0 (mkF m 19 _ [(.int (1 : Int32)), (.int (8 : Int32)), (.ref w_)])
  refine Go.step (fun tt kk => XS.isub X0.here hx rfl (hb hby d4_19) rfl kk) ?_
  show Go _ _ _ _ _ _ _ T0 (mkF m 20 _ [(.int ((8 : Int32) - (1 : Int32))), (.ref w_)])
  refine Go.step (a_cload X0 hx hZ e0 V_w (k := 7) (by decide) (by decide) (x := (g 7)) rfl (hb hby d4_20)) ?_
  show Go _ _ _ _ _ _ _ T0 (mkF m 21 _ [(.int (g 7))])
  refine Go.step (fun tt kk => XS.bipush X0.here hx rfl (hb hby d4_21) kk) ?_
  show Go _ _ _ _ _ _ _ T0 (mkF m 23 _ [(.int (61 : Int32)), (.int (g 7))])
  refine Go.step (fun tt kk => XS.icmpNo X0.here hx rfl (hb hby d4_23) rfl (feq hp1).1 kk) ?_
  show Go _ _ _ _ _ _ _ T0 (mkF m 26 _ [])
  refine Go.step (fun tt kk => XS.iconst X0.here hx rfl (hb hby d4_26) kk) ?_
  show Go _ _ _ _ _ _ _ T0 (mkF m 27 _ [(.int (0 : Int32))])
  refine Go.step (fun tt kk => XS.goto X0.here hx rfl (pc0 := 27) (pc' := 45) rfl (hb hby d4_27) (by decide) (by decide) kk) ?_
  show Go _ _ _ _ _ _ _ T0 (mkF m 45 _ [(.int (0 : Int32))])
  refine Go.step (fun tt kk => XS.istoreN X0.here hx rfl (hb hby d4_45) rfl (l' := #[.val (.ref w_), .val (.int (8 : Int32)), .val (.int (Int32.ofNat bf)), .val (.int (0 : Int32)), .unset, .unset, .unset, .unset, .unset, .unset]) rfl kk) ?_
  show Go _ _ _ _ _ _ _ T0 (mkF m 46 _ [])
  refine Go.step (fun tt kk => XS.iloadN X0.here hx rfl (hb hby d4_46) rfl kk) ?_
  show Go _ _ _ _ _ _ _ T0 (mkF m 47 _ [(.int (Int32.ofNat bf))])
  refine Go.step (fun tt kk => XS.iloadN X0.here hx rfl (hb hby d4_47) rfl kk) ?_
  show Go _ _ _ _ _ _ _ T0 (mkF m 48 _ [(.int (8 : Int32)), (.int (Int32.ofNat bf))])
  refine Go.step (fun tt kk => XS.iconst X0.here hx rfl (hb hby d4_48) kk) ?_
  show Go _ _ _ _ _ _ _ T0 (mkF m 49 _ [(.int (4 : Int32)), (.int (8 : Int32)), (.int (Int32.ofNat bf))])
  refine Go.step (fun tt kk => XS.idiv X0.here hx rfl (hb hby d4_49) rfl (by decide) kk) ?_
  show Go _ _ _ _ _ _ _ T0 (mkF m 50 _ [(.int ((8 : Int32) / (4 : Int32))), (.int (Int32.ofNat bf))])
  refine Go.step (fun tt kk => XS.iconst X0.here hx rfl (hb hby d4_50) kk) ?_
  show Go _ _ _ _ _ _ _ T0 (mkF m 51 _ [(.int (3 : Int32)), (.int ((8 : Int32) / (4 : Int32))), (.int (Int32.ofNat bf))])
  refine Go.step (fun tt kk => XS.imul X0.here hx rfl (hb hby d4_51) rfl kk) ?_
  show Go _ _ _ _ _ _ _ T0 (mkF m 52 _ [(.int (((8 : Int32) / (4 : Int32)) * (3 : Int32))), (.int (Int32.ofNat bf))])
  refine Go.step (fun tt kk => XS.iadd X0.here hx rfl (hb hby d4_52) rfl kk) ?_
  show Go _ _ _ _ _ _ _ T0 (mkF m 53 _ [(.int ((Int32.ofNat bf) + (((8 : Int32) / (4 : Int32)) * (3 : Int32))))])
  refine Go.step (fun tt kk => XS.iloadN X0.here hx rfl (hb hby d4_53) rfl kk) ?_
  show Go _ _ _ _ _ _ _ T0 (mkF m 54 _ [(.int (0 : Int32)), (.int ((Int32.ofNat bf) + (((8 : Int32) / (4 : Int32)) * (3 : Int32))))])
  refine Go.step (fun tt kk => XS.isub X0.here hx rfl (hb hby d4_54) rfl kk) ?_
  show Go _ _ _ _ _ _ _ T0 (mkF m 55 _ [(.int (((Int32.ofNat bf) + (((8 : Int32) / (4 : Int32)) * (3 : Int32))) - (0 : Int32)))])
  rw [show (((Int32.ofNat bf) + (((8 : Int32) / (4 : Int32)) * (3 : Int32))) - (0 : Int32)) = Int32.ofNat (bf + 6) from by rw [show (((8 : Int32) / (4 : Int32)) * (3 : Int32)) = Int32.ofNat 6 by decide, own_add]; exact own_sub (bf + 6) 0 (by omega) (by omega)]
  show Go _ _ _ _ _ _ _ T0 (mkF m 55 #[.val (.ref w_), .val (.int (8 : Int32)), .val (.int (Int32.ofNat bf)), .val (.int (0 : Int32)), .unset, .unset, .unset, .unset, .unset, .unset] [(.int (Int32.ofNat (bf + 6)))])
  obtain ⟨T1, h1, k1, X1, e1, E1, A1, EA1, st1⟩ := newPE X0 hx hZ (hw _ (List.mem_of_getElem? (i := 20) rfl)) e0 (g := (mkF m 55 #[.val (.ref w_), .val (.int (8 : Int32)), .val (.int (Int32.ofNat bf)), .val (.int (0 : Int32)), .unset, .unset, .unset, .unset, .unset, .unset] [(.int (Int32.ofNat (bf + 6)))])) rfl (hb hby d4_55) rfl (own_nn (bf + 6) (by omega)) (cap := 9) (by rw [clamp_of (k := bf + 6) (Int32.toInt_ofNat_of_lt (by omega))]; omega) (by decide) (by decide) (by decide) (ad := "[B") rfl
  obtain ⟨b1, g1⟩ : ∃ z, z = h0.size := ⟨_, rfl⟩
  rw [← g1] at A1 EA1 st1
  have ne_w__b1 : w_ ≠ b1 := Nat.ne_of_lt (Nat.lt_of_lt_of_le V_w.lt (Nat.le_of_eq g1.symm))
  have gn_b1 : n0 ≤ b1 := Nat.le_trans Z0 (Nat.le_of_eq g1.symm)
  have sz_b1 : hI.size ≤ b1 := Nat.le_trans K0.1 (Nat.le_of_eq g1.symm)
  have Z1 : n0 ≤ h1.size := Nat.le_trans Z0 E1.1
  have K1 : Keep hI h1 [] := K0.ext E1
  have V1 : AV Z h1 b1 .byte (bf + 6) (fun _ => (.int (0 : Int32))) := AV.new A1 (Int32.toInt_ofNat_of_lt (by omega))
  refine Go.step (st1) ?_
  show Go _ _ _ _ _ _ _ T1 (mkF m 57 _ [(.ref b1)])
  refine Go.step (fun tt kk => XS.astore X1.here hx rfl (hb hby d4_57) rfl rfl (l' := #[.val (.ref w_), .val (.int (8 : Int32)), .val (.int (Int32.ofNat bf)), .val (.int (0 : Int32)), .val (.ref b1), .unset, .unset, .unset, .unset, .unset]) rfl kk) ?_
  show Go _ _ _ _ _ _ _ T1 (mkF m 59 _ [])
  refine Go.step (fun tt kk => XS.iloadN X1.here hx rfl (hb hby d4_59) rfl kk) ?_
  show Go _ _ _ _ _ _ _ T1 (mkF m 60 _ [(.int (Int32.ofNat bf))])
  refine Go.step (fun tt kk => XS.istore X1.here hx rfl (hb hby d4_60) rfl (l' := #[.val (.ref w_), .val (.int (8 : Int32)), .val (.int (Int32.ofNat bf)), .val (.int (0 : Int32)), .val (.ref b1), .val (.int (Int32.ofNat bf)), .unset, .unset, .unset, .unset]) rfl kk) ?_
  show Go _ _ _ _ _ _ _ T1 (mkF m 62 _ [])
  refine Go.step (fun tt kk => XS.iloadN X1.here hx rfl (hb hby d4_62) rfl kk) ?_
  show Go _ _ _ _ _ _ _ T1 (mkF m 63 _ [(.int (8 : Int32))])
  refine Go.step (fun tt kk => XS.bipush X1.here hx rfl (hb hby d4_63) kk) ?_
  show Go _ _ _ _ _ _ _ T1 (mkF m 65 _ [(.int (8 : Int32)), (.int (8 : Int32))])
  refine Go.step (fun tt kk => XS.icmpNo X1.here hx rfl (hb hby d4_65) rfl (teq (by decide)).2 kk) ?_
  show Go _ _ _ _ _ _ _ T1 (mkF m 68 _ [])
  refine Go.step (fun tt kk => XS.aloadN X1.here hx rfl (hb hby d4_68) rfl rfl kk) ?_
  show Go _ _ _ _ _ _ _ T1 (mkF m 69 _ [(.ref w_)])
  refine Go.step (fun tt kk => XS.iconst X1.here hx rfl (hb hby d4_69) kk) ?_
  show Go _ _ _ _ _ _ _ T1 (mkF m 70 _ [(.int (0 : Int32)), (.ref w_)])
  refine Go.step (fun tt kk => XS.aload X1.here hx rfl (hb hby d4_70) rfl rfl kk) ?_
  show Go _ _ _ _ _ _ _ T1 (mkF m 72 _ [(.ref b1), (.int (0 : Int32)), (.ref w_)])
  refine Go.step (fun tt kk => XS.iloadN X1.here hx rfl (hb hby d4_72) rfl kk) ?_
  show Go _ _ _ _ _ _ _ T1 (mkF m 73 _ [(.int (Int32.ofNat bf)), (.ref b1), (.int (0 : Int32)), (.ref w_)])
  have f3 := (V_w.ext E1)
  obtain ⟨v2, T2, L2, X2, q2, st2⟩ := c_static X1 hx hZ hown (y := (⟨"com/example/sharks/sharks/StandardBase64DecodePinLaw", "full", "([CI[BI)Z"⟩ : MethodName)) (hw _ (List.mem_of_getElem? (i := 29) rfl)) (hw _ (List.mem_of_getElem? (i := 30) rfl)) (hw _ (List.mem_of_getElem? (i := 4) rfl)) (hw _ (List.mem_of_getElem? (i := 31) rfl)) (by decide) (argsL := [(.ref w_), (.int (0 : Int32)), (.ref b1), (.int (Int32.ofNat bf))]) (rest := []) (rmFu l Z a0 hw [] w_ b1 0 bf (bf + 6) g (fun _ => (.int (0 : Int32))) h1 n0 Z1 (by omega) (by omega) (by omega) f3 V1 ne_w__b1 gn_b1) e1 pd_2 rfl (by rw [hml]; rfl) (W := 0) (by show 2 * 0 + _ ≤ _; exact Nat.le_of_eq rfl) (by decide) (by decide) (by decide) (by decide) (hb hby d4_73) (Ls := #[.val (.ref w_), .val (.int (8 : Int32)), .val (.int (Int32.ofNat bf)), .val (.int (0 : Int32)), .val (.ref b1), .val (.int (Int32.ofNat bf)), .unset, .unset, .unset, .unset])
  generalize e2 : T2.heap = h2 at q2
  obtain ⟨rfl, N2q, K2q, V2q⟩ := q2
  have N2 := Fr.app N0 N2q
  have Z2 : n0 ≤ h2.size := Nat.le_trans Z1 K2q.1
  have K2 : Keep hI h2 [] := K1.trans K2q (allS (Or.inr sz_b1) all0)
  refine Go.step (st2) ?_
  show Go _ _ _ _ _ _ _ T2 (mkF m 76 _ [(.int (bi (OK4 g 0)))])
  by_cases c76_4 : OK4 g 0
  · refine Go.step (fun tt kk => XS.ifYes X2.here hx rfl (pc0 := 76) (pc' := 81) rfl (hb hby d4_76) rfl ((if0 _ _).trans (feq (bi_n c76_4)).2) (by decide) (by decide) kk) ?_
    show Go _ _ _ _ _ _ _ T2 (mkF m 81 _ [])
    refine Go.step (fun tt kk => XS.iloadN X2.here hx rfl (hb hby d4_81) rfl kk) ?_
    show Go _ _ _ _ _ _ _ T2 (mkF m 82 _ [(.int (Int32.ofNat bf))])
    refine Go.step (fun tt kk => XS.iconst X2.here hx rfl (hb hby d4_82) kk) ?_
    show Go _ _ _ _ _ _ _ T2 (mkF m 83 _ [(.int (3 : Int32)), (.int (Int32.ofNat bf))])
    refine Go.step (fun tt kk => XS.iadd X2.here hx rfl (hb hby d4_83) rfl kk) ?_
    show Go _ _ _ _ _ _ _ T2 (mkF m 84 _ [(.int ((Int32.ofNat bf) + (3 : Int32)))])
    refine Go.step (fun tt kk => XS.istore X2.here hx rfl (hb hby d4_84) rfl (l' := #[.val (.ref w_), .val (.int (8 : Int32)), .val (.int (Int32.ofNat bf)), .val (.int (0 : Int32)), .val (.ref b1), .val (.int ((Int32.ofNat bf) + (3 : Int32))), .unset, .unset, .unset, .unset]) rfl kk) ?_
    show Go _ _ _ _ _ _ _ T2 (mkF m 86 _ [])
    rw [show Int32.ofNat bf + (3 : Int32) = Int32.ofNat (bf + 3) from own_add bf 3]
    show Go _ _ _ _ _ _ _ T2 (mkF m 86 #[.val (.ref w_), .val (.int (8 : Int32)), .val (.int (Int32.ofNat bf)), .val (.int (0 : Int32)), .val (.ref b1), .val (.int (Int32.ofNat (bf + 3))), .unset, .unset, .unset, .unset] [])
    refine Go.step (fun tt kk => XS.iloadN X2.here hx rfl (hb hby d4_86) rfl kk) ?_
    show Go _ _ _ _ _ _ _ T2 (mkF m 87 _ [(.int (8 : Int32))])
    refine Go.step (fun tt kk => XS.iconst X2.here hx rfl (hb hby d4_87) kk) ?_
    show Go _ _ _ _ _ _ _ T2 (mkF m 88 _ [(.int (4 : Int32)), (.int (8 : Int32))])
    refine Go.step (fun tt kk => XS.isub X2.here hx rfl (hb hby d4_88) rfl kk) ?_
    show Go _ _ _ _ _ _ _ T2 (mkF m 89 _ [(.int ((8 : Int32) - (4 : Int32)))])
    refine Go.step (fun tt kk => XS.istore X2.here hx rfl (hb hby d4_89) rfl (l' := #[.val (.ref w_), .val (.int (8 : Int32)), .val (.int (Int32.ofNat bf)), .val (.int (0 : Int32)), .val (.ref b1), .val (.int (Int32.ofNat (bf + 3))), .val (.int ((8 : Int32) - (4 : Int32))), .unset, .unset, .unset]) rfl kk) ?_
    show Go _ _ _ _ _ _ _ T2 (mkF m 91 _ [])
    rw [show ((8 : Int32) - (4 : Int32)) = (4 : Int32) by decide]
    show Go _ _ _ _ _ _ _ T2 (mkF m 91 #[.val (.ref w_), .val (.int (8 : Int32)), .val (.int (Int32.ofNat bf)), .val (.int (0 : Int32)), .val (.ref b1), .val (.int (Int32.ofNat (bf + 3))), .val (.int (4 : Int32)), .unset, .unset, .unset] [])
    refine Go.step (fun tt kk => XS.iloadN X2.here hx rfl (hb hby d4_91) rfl kk) ?_
    show Go _ _ _ _ _ _ _ T2 (mkF m 92 _ [(.int (0 : Int32))])
    refine Go.step (fun tt kk => XS.ifNo X2.here hx rfl (hb hby d4_92) rfl ((if0 _ _).trans (teq (by decide)).2) kk) ?_
    show Go _ _ _ _ _ _ _ T2 (mkF m 95 _ [])
    refine Go.step (fun tt kk => XS.aloadN X2.here hx rfl (hb hby d4_95) rfl rfl kk) ?_
    show Go _ _ _ _ _ _ _ T2 (mkF m 96 _ [(.ref w_)])
    refine Go.step (fun tt kk => XS.iload X2.here hx rfl (hb hby d4_96) rfl kk) ?_
    show Go _ _ _ _ _ _ _ T2 (mkF m 98 _ [(.int (4 : Int32)), (.ref w_)])
    refine Go.step (fun tt kk => XS.aload X2.here hx rfl (hb hby d4_98) rfl rfl kk) ?_
    show Go _ _ _ _ _ _ _ T2 (mkF m 100 _ [(.ref b1), (.int (4 : Int32)), (.ref w_)])
    refine Go.step (fun tt kk => XS.iload X2.here hx rfl (hb hby d4_100) rfl kk) ?_
    show Go _ _ _ _ _ _ _ T2 (mkF m 102 _ [(.int (Int32.ofNat (bf + 3))), (.ref b1), (.int (4 : Int32)), (.ref w_)])
    have f6 := (f3.keep K2q (ninS ne_w__b1 nin0))
    obtain ⟨v5, T5, L5, X5, q5, st5⟩ := c_static X2 hx hZ hown (y := (⟨"com/example/sharks/sharks/StandardBase64DecodePinLaw", "full", "([CI[BI)Z"⟩ : MethodName)) (hw _ (List.mem_of_getElem? (i := 29) rfl)) (hw _ (List.mem_of_getElem? (i := 30) rfl)) (hw _ (List.mem_of_getElem? (i := 4) rfl)) (hw _ (List.mem_of_getElem? (i := 31) rfl)) (by decide) (argsL := [(.ref w_), (.int (4 : Int32)), (.ref b1), (.int (Int32.ofNat (bf + 3)))]) (rest := []) (rmFu l Z a0 hw [] w_ b1 4 (bf + 3) (bf + 6) g (upd (upd (upd (fun _ => (.int (0 : Int32))) bf (.int (bA (vl (g 0)) (vl (g (0 + 1)))))) (bf + 1) (.int (bB (vl (g (0 + 1))) (vl (g (0 + 2)))))) (bf + 2) (.int (bC (vl (g (0 + 2))) (vl (g (0 + 3)))))) h2 n0 Z2 (by omega) (by omega) (by omega) f6 (V2q c76_4) ne_w__b1 gn_b1) e2 pd_2 rfl (by rw [hml]; rfl) (W := 0) (by show 2 * 0 + _ ≤ _; exact Nat.le_of_eq rfl) (by decide) (by decide) (by decide) (by decide) (hb hby d4_102) (Ls := #[.val (.ref w_), .val (.int (8 : Int32)), .val (.int (Int32.ofNat bf)), .val (.int (0 : Int32)), .val (.ref b1), .val (.int (Int32.ofNat (bf + 3))), .val (.int (4 : Int32)), .unset, .unset, .unset])
    generalize e5 : T5.heap = h5 at q5
    obtain ⟨rfl, N5q, K5q, V5q⟩ := q5
    have N5 := Fr.app N2 N5q
    have Z5 : n0 ≤ h5.size := Nat.le_trans Z2 K5q.1
    have K5 : Keep hI h5 [] := K2.trans K5q (allS (Or.inr sz_b1) all0)
    refine Go.step (st5) ?_
    show Go _ _ _ _ _ _ _ T5 (mkF m 105 _ [(.int (bi (OK4 g 4)))])
    by_cases c105_7 : OK4 g 4
    · refine Go.step (fun tt kk => XS.ifNo X5.here hx rfl (hb hby d4_105) rfl ((if0 _ _).trans (feq (bi_n c105_7)).1) kk) ?_
      show Go _ _ _ _ _ _ _ T5 (mkF m 108 _ [])
      refine Go.step (fun tt kk => XS.aload X5.here hx rfl (hb hby d4_108) rfl rfl kk) ?_
      show Go _ _ _ _ _ _ _ T5 (mkF m 110 _ [(.ref b1)])
      refine Go.step (fun tt kk => XS.goto X5.here hx rfl (pc0 := 110) (pc' := 114) rfl (hb hby d4_110) (by decide) (by decide) kk) ?_
      show Go _ _ _ _ _ _ _ T5 (mkF m 114 _ [(.ref b1)])
      have V8 : AV Z h5 b1 .byte (bf + 6) (gv (exI g bf)) := (V5q c105_7).congr fun i hi => by
        by_cases q : i < bf
        · rw [show gv (exI g bf) i = .int 0 from congrArg Value.int (exI_lt q)]
          rw [upd_ne (by omega), upd_ne (by omega), upd_ne (by omega), upd_ne (by omega), upd_ne (by omega), upd_ne (by omega)]
        · obtain ⟨j, rfl⟩ : ∃ j, i = bf + j := ⟨i - bf, by omega⟩
          rw [show gv (exI g bf) (bf + j) = .int (bt g (j / 3) (j % 3)) from congrArg Value.int (exI_at j)]
          rcases (by omega : j = 0 ∨ j = 1 ∨ j = 2 ∨ j = 3 ∨ j = 4 ∨ j = 5) with rfl | rfl | rfl | rfl | rfl | rfl
          · rw [upd_ne (by omega), upd_ne (by omega), upd_ne (by omega), upd_ne (by omega), upd_ne (by omega), upd_at (by omega)]; exact congrArg Value.int rfl
          · rw [upd_ne (by omega), upd_ne (by omega), upd_ne (by omega), upd_ne (by omega), upd_at (by omega)]; exact congrArg Value.int rfl
          · rw [upd_ne (by omega), upd_ne (by omega), upd_ne (by omega), upd_at (by omega)]; exact congrArg Value.int rfl
          · rw [upd_ne (by omega), upd_ne (by omega), upd_at (by omega)]; exact congrArg Value.int rfl
          · rw [upd_ne (by omega), upd_at (by omega)]; exact congrArg Value.int rfl
          · rw [upd_at (by omega)]; exact congrArg Value.int rfl
      refine go_retA X5 hx (t := (.array .byte)) hret rfl hlk rfl (hb hby d4_114) ?_ (by decide) (by decide)
      try rw [e5]
      exact ⟨N5, eI ▸ K5, fun _ => ⟨b1, rfl, eI ▸ sz_b1, V8⟩, fun z => absurd (by simp only [not_true_eq_false, not_false_eq_true, and_true, true_and, and_false, false_and, or_true, true_or, or_false, false_or, and_self, or_self, OK4, OK1, OK2, eq_true c76_4, eq_true c105_7]) z⟩
    · refine Go.step (fun tt kk => XS.ifYes X5.here hx rfl (pc0 := 105) (pc' := 113) rfl (hb hby d4_105) rfl ((if0 _ _).trans (teq (bi_f c105_7)).1) (by decide) (by decide) kk) ?_
      show Go _ _ _ _ _ _ _ T5 (mkF m 113 _ [])
      refine Go.step (fun tt kk => XS.aconstNull X5.here hx rfl (hb hby d4_113) kk) ?_
      show Go _ _ _ _ _ _ _ T5 (mkF m 114 _ [.null])
      refine go_retA X5 hx (t := (.array .byte)) hret rfl hlk rfl (hb hby d4_114) ?_ (by decide) (by decide)
      try rw [e5]
      exact ⟨N5, eI ▸ K5, fun z => absurd z (by simp only [not_true_eq_false, not_false_eq_true, and_true, true_and, and_false, false_and, or_true, true_or, or_false, false_or, and_self, or_self, OK4, OK1, OK2, eq_true c76_4, eq_false c105_7]), fun _ => rfl⟩
  · refine Go.step (fun tt kk => XS.ifNo X2.here hx rfl (hb hby d4_76) rfl ((if0 _ _).trans (teq (bi_f c76_4)).2) kk) ?_
    show Go _ _ _ _ _ _ _ T2 (mkF m 79 _ [])
    refine Go.step (fun tt kk => XS.aconstNull X2.here hx rfl (hb hby d4_79) kk) ?_
    show Go _ _ _ _ _ _ _ T2 (mkF m 80 _ [.null])
    refine go_retA X2 hx (t := (.array .byte)) hret rfl hlk rfl (hb hby d4_80) ?_ (by decide) (by decide)
    try rw [e2]
    exact ⟨N2, eI ▸ K2, fun z => absurd z (by simp only [not_true_eq_false, not_false_eq_true, and_true, true_and, and_false, false_and, or_true, true_or, or_false, false_or, and_self, or_self, OK4, OK1, OK2, eq_false c76_4]), fun _ => rfl⟩
theorem ef_rmEx81 (m : MethodId) (x0 : Addr) (x1 : Int32) (x2 : Int32) : entryFrame m #[(.ref x0), (.int x1), (.int x2)] 10 = mkF m 0 #[.val (.ref x0), .val (.int x1), .val (.int x2), .unset, .unset, .unset, .unset, .unset, .unset, .unset] [] := by first | (simp [entryFrame, mkF, argsToLocals, Value.category]; done) | rfl
set_option maxRecDepth 65536 in
set_option maxHeartbeats 40000000 in
theorem rmEx81 (l : Launch) (Z : State) (a0 : Array Value) (hw : ∀ d ∈ tables_1, d.before a0 Z = true) (ws : List Jvm.Cond) (w_ : Addr) (bf : Nat) (g : Nat → Int32) (h0 : Heap) (n0 : Nat) (Z0 : n0 ≤ h0.size) (hbf : bf ≤ 3) (hg : CH g) (hp1 : g 7 = 61) (hp2 : ¬ g 6 = 61) (V_w : AV Z h0 w_ .char 8 (gv g)) :
    Ctr l Z (⟨"com/example/sharks/sharks/StandardBase64DecodePinLaw", "expected", "([CII)[B"⟩ : MethodName) method_6_code 10 (some (.array .byte)) ws ({ frames := 2, cells := 1, slots := 9, locals := 31 } : Room) 1 9 #[(.ref w_), (.int (8 : Int32)), (.int (Int32.ofNat bf))] h0 (fun v h L => Fr n0 L ∧ Keep h0 h [] ∧ ((OK4 g 0 ∧ OK1 g 4) → ∃ b, v = some (.ref b) ∧ h0.size ≤ b ∧ AV Z h b .byte (bf + 5) (gv (exI g bf))) ∧ (¬ (OK4 g 0 ∧ OK1 g 4) → v = some .null)) := by
  refine Ctr.mk (plainFor_of_name pn_0) fun p e s m below meth c T0 X0 C e0 => go_cast (ef_rmEx81 m w_ (8 : Int32) (Int32.ofNat bf)) ?_
  have N0 := Fr.nil n0
  obtain ⟨hx, hZ, hby, hml, hown, hnm, hret, hlk⟩ := C
  obtain ⟨hI, eI⟩ : ∃ z, z = h0 := ⟨_, rfl⟩
  have K0 : Keep hI h0 [] := by rw [eI]; exact Keep.refl _ _
  show Go _ _ _ _ _ _ _ T0 (mkF m 0 #[.val (.ref w_), .val (.int (8 : Int32)), .val (.int (Int32.ofNat bf)), .unset, .unset, .unset, .unset, .unset, .unset, .unset] [])
  refine Go.step (fun tt kk => XS.iloadN X0.here hx rfl (hb hby d4_0) rfl kk) ?_
  show Go _ _ _ _ _ _ _ T0 (mkF m 1 _ [(.int (8 : Int32))])
  refine Go.step (fun tt kk => XS.iconst X0.here hx rfl (hb hby d4_1) kk) ?_
  show Go _ _ _ _ _ _ _ T0 (mkF m 2 _ [(.int (4 : Int32)), (.int (8 : Int32))])
  refine Go.step (fun tt kk => iremM X0 hx rfl (hb hby d4_2) rfl (by decide) kk) ?_
  show Go _ _ _ _ _ _ _ T0 (mkF m 3 _ [(.int ((8 : Int32) % (4 : Int32)))])
  refine Go.step (fun tt kk => XS.ifYes X0.here hx rfl (pc0 := 3) (pc' := 8) rfl (hb hby d4_3) rfl ((if0 _ _).trans (teq (by decide)).1) (by decide) (by decide) kk) ?_
  show Go _ _ _ _ _ _ _ T0 (mkF m 8 _ [])
  refine Go.step (fun tt kk => XS.iloadN X0.here hx rfl (hb hby d4_8) rfl kk) ?_
  show Go _ _ _ _ _ _ _ T0 (mkF m 9 _ [(.int (8 : Int32))])
  refine Go.step (fun tt kk => XS.ifYes X0.here hx rfl (pc0 := 9) (pc' := 16) rfl (hb hby d4_9) rfl ((if0 _ _).trans (feq (by decide)).2) (by decide) (by decide) kk) ?_
  show Go _ _ _ _ _ _ _ T0 (mkF m 16 _ [])
  refine Go.step (fun tt kk => XS.aloadN X0.here hx rfl (hb hby d4_16) rfl rfl kk) ?_
  show Go _ _ _ _ _ _ _ T0 (mkF m 17 _ [(.ref w_)])
  refine Go.step (fun tt kk => XS.iloadN X0.here hx rfl (hb hby d4_17) rfl kk) ?_
  show Go _ _ _ _ _ _ _ T0 (mkF m 18 _ [(.int (8 : Int32)), (.ref w_)])
  refine Go.step (fun tt kk => XS.iconst X0.here hx rfl (hb hby d4_18) kk) ?_
  show Go _ _ _ _ _ _ _ T0 (mkF m 19 _ [(.int (1 : Int32)), (.int (8 : Int32)), (.ref w_)])
  refine Go.step (fun tt kk => XS.isub X0.here hx rfl (hb hby d4_19) rfl kk) ?_
  show Go _ _ _ _ _ _ _ T0 (mkF m 20 _ [(.int ((8 : Int32) - (1 : Int32))), (.ref w_)])
  refine Go.step (a_cload X0 hx hZ e0 V_w (k := 7) (by decide) (by decide) (x := (g 7)) rfl (hb hby d4_20)) ?_
  show Go _ _ _ _ _ _ _ T0 (mkF m 21 _ [(.int (g 7))])
  refine Go.step (fun tt kk => XS.bipush X0.here hx rfl (hb hby d4_21) kk) ?_
  show Go _ _ _ _ _ _ _ T0 (mkF m 23 _ [(.int (61 : Int32)), (.int (g 7))])
  refine Go.step (fun tt kk => XS.icmpYes X0.here hx rfl (pc0 := 23) (pc' := 30) rfl (hb hby d4_23) rfl (teq hp1).1 (by decide) (by decide) kk) ?_
  show Go _ _ _ _ _ _ _ T0 (mkF m 30 _ [])
  refine Go.step (fun tt kk => XS.aloadN X0.here hx rfl (hb hby d4_30) rfl rfl kk) ?_
  show Go _ _ _ _ _ _ _ T0 (mkF m 31 _ [(.ref w_)])
  refine Go.step (fun tt kk => XS.iloadN X0.here hx rfl (hb hby d4_31) rfl kk) ?_
  show Go _ _ _ _ _ _ _ T0 (mkF m 32 _ [(.int (8 : Int32)), (.ref w_)])
  refine Go.step (fun tt kk => XS.iconst X0.here hx rfl (hb hby d4_32) kk) ?_
  show Go _ _ _ _ _ _ _ T0 (mkF m 33 _ [(.int (2 : Int32)), (.int (8 : Int32)), (.ref w_)])
  refine Go.step (fun tt kk => XS.isub X0.here hx rfl (hb hby d4_33) rfl kk) ?_
  show Go _ _ _ _ _ _ _ T0 (mkF m 34 _ [(.int ((8 : Int32) - (2 : Int32))), (.ref w_)])
  refine Go.step (a_cload X0 hx hZ e0 V_w (k := 6) (by decide) (by decide) (x := (g 6)) rfl (hb hby d4_34)) ?_
  show Go _ _ _ _ _ _ _ T0 (mkF m 35 _ [(.int (g 6))])
  refine Go.step (fun tt kk => XS.bipush X0.here hx rfl (hb hby d4_35) kk) ?_
  show Go _ _ _ _ _ _ _ T0 (mkF m 37 _ [(.int (61 : Int32)), (.int (g 6))])
  refine Go.step (fun tt kk => XS.icmpYes X0.here hx rfl (pc0 := 37) (pc' := 44) rfl (hb hby d4_37) rfl (feq hp2).2 (by decide) (by decide) kk) ?_
  show Go _ _ _ _ _ _ _ T0 (mkF m 44 _ [])
  refine Go.step (fun tt kk => XS.iconst X0.here hx rfl (hb hby d4_44) kk) ?_
  show Go _ _ _ _ _ _ _ T0 (mkF m 45 _ [(.int (1 : Int32))])
  refine Go.step (fun tt kk => XS.istoreN X0.here hx rfl (hb hby d4_45) rfl (l' := #[.val (.ref w_), .val (.int (8 : Int32)), .val (.int (Int32.ofNat bf)), .val (.int (1 : Int32)), .unset, .unset, .unset, .unset, .unset, .unset]) rfl kk) ?_
  show Go _ _ _ _ _ _ _ T0 (mkF m 46 _ [])
  refine Go.step (fun tt kk => XS.iloadN X0.here hx rfl (hb hby d4_46) rfl kk) ?_
  show Go _ _ _ _ _ _ _ T0 (mkF m 47 _ [(.int (Int32.ofNat bf))])
  refine Go.step (fun tt kk => XS.iloadN X0.here hx rfl (hb hby d4_47) rfl kk) ?_
  show Go _ _ _ _ _ _ _ T0 (mkF m 48 _ [(.int (8 : Int32)), (.int (Int32.ofNat bf))])
  refine Go.step (fun tt kk => XS.iconst X0.here hx rfl (hb hby d4_48) kk) ?_
  show Go _ _ _ _ _ _ _ T0 (mkF m 49 _ [(.int (4 : Int32)), (.int (8 : Int32)), (.int (Int32.ofNat bf))])
  refine Go.step (fun tt kk => XS.idiv X0.here hx rfl (hb hby d4_49) rfl (by decide) kk) ?_
  show Go _ _ _ _ _ _ _ T0 (mkF m 50 _ [(.int ((8 : Int32) / (4 : Int32))), (.int (Int32.ofNat bf))])
  refine Go.step (fun tt kk => XS.iconst X0.here hx rfl (hb hby d4_50) kk) ?_
  show Go _ _ _ _ _ _ _ T0 (mkF m 51 _ [(.int (3 : Int32)), (.int ((8 : Int32) / (4 : Int32))), (.int (Int32.ofNat bf))])
  refine Go.step (fun tt kk => XS.imul X0.here hx rfl (hb hby d4_51) rfl kk) ?_
  show Go _ _ _ _ _ _ _ T0 (mkF m 52 _ [(.int (((8 : Int32) / (4 : Int32)) * (3 : Int32))), (.int (Int32.ofNat bf))])
  refine Go.step (fun tt kk => XS.iadd X0.here hx rfl (hb hby d4_52) rfl kk) ?_
  show Go _ _ _ _ _ _ _ T0 (mkF m 53 _ [(.int ((Int32.ofNat bf) + (((8 : Int32) / (4 : Int32)) * (3 : Int32))))])
  refine Go.step (fun tt kk => XS.iloadN X0.here hx rfl (hb hby d4_53) rfl kk) ?_
  show Go _ _ _ _ _ _ _ T0 (mkF m 54 _ [(.int (1 : Int32)), (.int ((Int32.ofNat bf) + (((8 : Int32) / (4 : Int32)) * (3 : Int32))))])
  refine Go.step (fun tt kk => XS.isub X0.here hx rfl (hb hby d4_54) rfl kk) ?_
  show Go _ _ _ _ _ _ _ T0 (mkF m 55 _ [(.int (((Int32.ofNat bf) + (((8 : Int32) / (4 : Int32)) * (3 : Int32))) - (1 : Int32)))])
  rw [show (((Int32.ofNat bf) + (((8 : Int32) / (4 : Int32)) * (3 : Int32))) - (1 : Int32)) = Int32.ofNat (bf + 5) from by rw [show (((8 : Int32) / (4 : Int32)) * (3 : Int32)) = Int32.ofNat 6 by decide, own_add]; exact own_sub (bf + 6) 1 (by omega) (by omega)]
  show Go _ _ _ _ _ _ _ T0 (mkF m 55 #[.val (.ref w_), .val (.int (8 : Int32)), .val (.int (Int32.ofNat bf)), .val (.int (1 : Int32)), .unset, .unset, .unset, .unset, .unset, .unset] [(.int (Int32.ofNat (bf + 5)))])
  obtain ⟨T1, h1, k1, X1, e1, E1, A1, EA1, st1⟩ := newPE X0 hx hZ (hw _ (List.mem_of_getElem? (i := 20) rfl)) e0 (g := (mkF m 55 #[.val (.ref w_), .val (.int (8 : Int32)), .val (.int (Int32.ofNat bf)), .val (.int (1 : Int32)), .unset, .unset, .unset, .unset, .unset, .unset] [(.int (Int32.ofNat (bf + 5)))])) rfl (hb hby d4_55) rfl (own_nn (bf + 5) (by omega)) (cap := 9) (by rw [clamp_of (k := bf + 5) (Int32.toInt_ofNat_of_lt (by omega))]; omega) (by decide) (by decide) (by decide) (ad := "[B") rfl
  obtain ⟨b1, g1⟩ : ∃ z, z = h0.size := ⟨_, rfl⟩
  rw [← g1] at A1 EA1 st1
  have ne_w__b1 : w_ ≠ b1 := Nat.ne_of_lt (Nat.lt_of_lt_of_le V_w.lt (Nat.le_of_eq g1.symm))
  have gn_b1 : n0 ≤ b1 := Nat.le_trans Z0 (Nat.le_of_eq g1.symm)
  have sz_b1 : hI.size ≤ b1 := Nat.le_trans K0.1 (Nat.le_of_eq g1.symm)
  have Z1 : n0 ≤ h1.size := Nat.le_trans Z0 E1.1
  have K1 : Keep hI h1 [] := K0.ext E1
  have V1 : AV Z h1 b1 .byte (bf + 5) (fun _ => (.int (0 : Int32))) := AV.new A1 (Int32.toInt_ofNat_of_lt (by omega))
  refine Go.step (st1) ?_
  show Go _ _ _ _ _ _ _ T1 (mkF m 57 _ [(.ref b1)])
  refine Go.step (fun tt kk => XS.astore X1.here hx rfl (hb hby d4_57) rfl rfl (l' := #[.val (.ref w_), .val (.int (8 : Int32)), .val (.int (Int32.ofNat bf)), .val (.int (1 : Int32)), .val (.ref b1), .unset, .unset, .unset, .unset, .unset]) rfl kk) ?_
  show Go _ _ _ _ _ _ _ T1 (mkF m 59 _ [])
  refine Go.step (fun tt kk => XS.iloadN X1.here hx rfl (hb hby d4_59) rfl kk) ?_
  show Go _ _ _ _ _ _ _ T1 (mkF m 60 _ [(.int (Int32.ofNat bf))])
  refine Go.step (fun tt kk => XS.istore X1.here hx rfl (hb hby d4_60) rfl (l' := #[.val (.ref w_), .val (.int (8 : Int32)), .val (.int (Int32.ofNat bf)), .val (.int (1 : Int32)), .val (.ref b1), .val (.int (Int32.ofNat bf)), .unset, .unset, .unset, .unset]) rfl kk) ?_
  show Go _ _ _ _ _ _ _ T1 (mkF m 62 _ [])
  refine Go.step (fun tt kk => XS.iloadN X1.here hx rfl (hb hby d4_62) rfl kk) ?_
  show Go _ _ _ _ _ _ _ T1 (mkF m 63 _ [(.int (8 : Int32))])
  refine Go.step (fun tt kk => XS.bipush X1.here hx rfl (hb hby d4_63) kk) ?_
  show Go _ _ _ _ _ _ _ T1 (mkF m 65 _ [(.int (8 : Int32)), (.int (8 : Int32))])
  refine Go.step (fun tt kk => XS.icmpNo X1.here hx rfl (hb hby d4_65) rfl (teq (by decide)).2 kk) ?_
  show Go _ _ _ _ _ _ _ T1 (mkF m 68 _ [])
  refine Go.step (fun tt kk => XS.aloadN X1.here hx rfl (hb hby d4_68) rfl rfl kk) ?_
  show Go _ _ _ _ _ _ _ T1 (mkF m 69 _ [(.ref w_)])
  refine Go.step (fun tt kk => XS.iconst X1.here hx rfl (hb hby d4_69) kk) ?_
  show Go _ _ _ _ _ _ _ T1 (mkF m 70 _ [(.int (0 : Int32)), (.ref w_)])
  refine Go.step (fun tt kk => XS.aload X1.here hx rfl (hb hby d4_70) rfl rfl kk) ?_
  show Go _ _ _ _ _ _ _ T1 (mkF m 72 _ [(.ref b1), (.int (0 : Int32)), (.ref w_)])
  refine Go.step (fun tt kk => XS.iloadN X1.here hx rfl (hb hby d4_72) rfl kk) ?_
  show Go _ _ _ _ _ _ _ T1 (mkF m 73 _ [(.int (Int32.ofNat bf)), (.ref b1), (.int (0 : Int32)), (.ref w_)])
  have f3 := (V_w.ext E1)
  obtain ⟨v2, T2, L2, X2, q2, st2⟩ := c_static X1 hx hZ hown (y := (⟨"com/example/sharks/sharks/StandardBase64DecodePinLaw", "full", "([CI[BI)Z"⟩ : MethodName)) (hw _ (List.mem_of_getElem? (i := 29) rfl)) (hw _ (List.mem_of_getElem? (i := 30) rfl)) (hw _ (List.mem_of_getElem? (i := 4) rfl)) (hw _ (List.mem_of_getElem? (i := 31) rfl)) (by decide) (argsL := [(.ref w_), (.int (0 : Int32)), (.ref b1), (.int (Int32.ofNat bf))]) (rest := []) (rmFu l Z a0 hw [] w_ b1 0 bf (bf + 5) g (fun _ => (.int (0 : Int32))) h1 n0 Z1 (by omega) (by omega) (by omega) f3 V1 ne_w__b1 gn_b1) e1 pd_2 rfl (by rw [hml]; rfl) (W := 0) (by show 2 * 0 + _ ≤ _; exact Nat.le_of_eq rfl) (by decide) (by decide) (by decide) (by decide) (hb hby d4_73) (Ls := #[.val (.ref w_), .val (.int (8 : Int32)), .val (.int (Int32.ofNat bf)), .val (.int (1 : Int32)), .val (.ref b1), .val (.int (Int32.ofNat bf)), .unset, .unset, .unset, .unset])
  generalize e2 : T2.heap = h2 at q2
  obtain ⟨rfl, N2q, K2q, V2q⟩ := q2
  have N2 := Fr.app N0 N2q
  have Z2 : n0 ≤ h2.size := Nat.le_trans Z1 K2q.1
  have K2 : Keep hI h2 [] := K1.trans K2q (allS (Or.inr sz_b1) all0)
  refine Go.step (st2) ?_
  show Go _ _ _ _ _ _ _ T2 (mkF m 76 _ [(.int (bi (OK4 g 0)))])
  by_cases c76_4 : OK4 g 0
  · refine Go.step (fun tt kk => XS.ifYes X2.here hx rfl (pc0 := 76) (pc' := 81) rfl (hb hby d4_76) rfl ((if0 _ _).trans (feq (bi_n c76_4)).2) (by decide) (by decide) kk) ?_
    show Go _ _ _ _ _ _ _ T2 (mkF m 81 _ [])
    refine Go.step (fun tt kk => XS.iloadN X2.here hx rfl (hb hby d4_81) rfl kk) ?_
    show Go _ _ _ _ _ _ _ T2 (mkF m 82 _ [(.int (Int32.ofNat bf))])
    refine Go.step (fun tt kk => XS.iconst X2.here hx rfl (hb hby d4_82) kk) ?_
    show Go _ _ _ _ _ _ _ T2 (mkF m 83 _ [(.int (3 : Int32)), (.int (Int32.ofNat bf))])
    refine Go.step (fun tt kk => XS.iadd X2.here hx rfl (hb hby d4_83) rfl kk) ?_
    show Go _ _ _ _ _ _ _ T2 (mkF m 84 _ [(.int ((Int32.ofNat bf) + (3 : Int32)))])
    refine Go.step (fun tt kk => XS.istore X2.here hx rfl (hb hby d4_84) rfl (l' := #[.val (.ref w_), .val (.int (8 : Int32)), .val (.int (Int32.ofNat bf)), .val (.int (1 : Int32)), .val (.ref b1), .val (.int ((Int32.ofNat bf) + (3 : Int32))), .unset, .unset, .unset, .unset]) rfl kk) ?_
    show Go _ _ _ _ _ _ _ T2 (mkF m 86 _ [])
    rw [show Int32.ofNat bf + (3 : Int32) = Int32.ofNat (bf + 3) from own_add bf 3]
    show Go _ _ _ _ _ _ _ T2 (mkF m 86 #[.val (.ref w_), .val (.int (8 : Int32)), .val (.int (Int32.ofNat bf)), .val (.int (1 : Int32)), .val (.ref b1), .val (.int (Int32.ofNat (bf + 3))), .unset, .unset, .unset, .unset] [])
    refine Go.step (fun tt kk => XS.iloadN X2.here hx rfl (hb hby d4_86) rfl kk) ?_
    show Go _ _ _ _ _ _ _ T2 (mkF m 87 _ [(.int (8 : Int32))])
    refine Go.step (fun tt kk => XS.iconst X2.here hx rfl (hb hby d4_87) kk) ?_
    show Go _ _ _ _ _ _ _ T2 (mkF m 88 _ [(.int (4 : Int32)), (.int (8 : Int32))])
    refine Go.step (fun tt kk => XS.isub X2.here hx rfl (hb hby d4_88) rfl kk) ?_
    show Go _ _ _ _ _ _ _ T2 (mkF m 89 _ [(.int ((8 : Int32) - (4 : Int32)))])
    refine Go.step (fun tt kk => XS.istore X2.here hx rfl (hb hby d4_89) rfl (l' := #[.val (.ref w_), .val (.int (8 : Int32)), .val (.int (Int32.ofNat bf)), .val (.int (1 : Int32)), .val (.ref b1), .val (.int (Int32.ofNat (bf + 3))), .val (.int ((8 : Int32) - (4 : Int32))), .unset, .unset, .unset]) rfl kk) ?_
    show Go _ _ _ _ _ _ _ T2 (mkF m 91 _ [])
    rw [show ((8 : Int32) - (4 : Int32)) = (4 : Int32) by decide]
    show Go _ _ _ _ _ _ _ T2 (mkF m 91 #[.val (.ref w_), .val (.int (8 : Int32)), .val (.int (Int32.ofNat bf)), .val (.int (1 : Int32)), .val (.ref b1), .val (.int (Int32.ofNat (bf + 3))), .val (.int (4 : Int32)), .unset, .unset, .unset] [])
    refine Go.step (fun tt kk => XS.iloadN X2.here hx rfl (hb hby d4_91) rfl kk) ?_
    show Go _ _ _ _ _ _ _ T2 (mkF m 92 _ [(.int (1 : Int32))])
    refine Go.step (fun tt kk => XS.ifYes X2.here hx rfl (pc0 := 92) (pc' := 115) rfl (hb hby d4_92) rfl ((if0 _ _).trans (feq (by decide)).2) (by decide) (by decide) kk) ?_
    show Go _ _ _ _ _ _ _ T2 (mkF m 115 _ [])
    refine Go.step (fun tt kk => XS.aloadN X2.here hx rfl (hb hby d4_115) rfl rfl kk) ?_
    show Go _ _ _ _ _ _ _ T2 (mkF m 116 _ [(.ref w_)])
    refine Go.step (fun tt kk => XS.iload X2.here hx rfl (hb hby d4_116) rfl kk) ?_
    show Go _ _ _ _ _ _ _ T2 (mkF m 118 _ [(.int (4 : Int32)), (.ref w_)])
    have f5 := (f3.keep K2q (ninS ne_w__b1 nin0))
    refine Go.step (a_cload X2 hx hZ e2 f5 (k := 4) (by decide) (by decide) (x := (g 4)) rfl (hb hby d4_118)) ?_
    show Go _ _ _ _ _ _ _ T2 (mkF m 119 _ [(.int (g 4))])
    obtain ⟨v6, T6, L6, X6, q6, st6⟩ := c_static X2 hx hZ hown (y := (⟨"com/example/sharks/sharks/StandardBase64DecodePinLaw", "v", "(C)I"⟩ : MethodName)) (hw _ (List.mem_of_getElem? (i := 32) rfl)) (hw _ (List.mem_of_getElem? (i := 33) rfl)) (hw _ (List.mem_of_getElem? (i := 4) rfl)) (hw _ (List.mem_of_getElem? (i := 34) rfl)) (by decide) (argsL := [(.int (g 4))]) (rest := []) (rmV l Z a0 hw [] (g 4) h2 n0 Z2 ) e2 pd_1 rfl (by rw [hml]; rfl) (W := 0) (by show 2 * 0 + _ ≤ _; exact Nat.le_of_eq rfl) (by decide) (by decide) (by decide) (by decide) (hb hby d4_119) (Ls := #[.val (.ref w_), .val (.int (8 : Int32)), .val (.int (Int32.ofNat bf)), .val (.int (1 : Int32)), .val (.ref b1), .val (.int (Int32.ofNat (bf + 3))), .val (.int (4 : Int32)), .unset, .unset, .unset])
    obtain ⟨rfl, rfl, e6⟩ := q6
    have N6 := Fr.app N2 (Fr.nil n0)
    refine Go.step (st6) ?_
    show Go _ _ _ _ _ _ _ T6 (mkF m 122 _ [(.int (vl (g 4)))])
    refine Go.step (fun tt kk => XS.istore X6.here hx rfl (hb hby d4_122) rfl (l' := #[.val (.ref w_), .val (.int (8 : Int32)), .val (.int (Int32.ofNat bf)), .val (.int (1 : Int32)), .val (.ref b1), .val (.int (Int32.ofNat (bf + 3))), .val (.int (4 : Int32)), .val (.int (vl (g 4))), .unset, .unset]) rfl kk) ?_
    show Go _ _ _ _ _ _ _ T6 (mkF m 124 _ [])
    refine Go.step (fun tt kk => XS.aloadN X6.here hx rfl (hb hby d4_124) rfl rfl kk) ?_
    show Go _ _ _ _ _ _ _ T6 (mkF m 125 _ [(.ref w_)])
    refine Go.step (fun tt kk => XS.iload X6.here hx rfl (hb hby d4_125) rfl kk) ?_
    show Go _ _ _ _ _ _ _ T6 (mkF m 127 _ [(.int (4 : Int32)), (.ref w_)])
    refine Go.step (fun tt kk => XS.iconst X6.here hx rfl (hb hby d4_127) kk) ?_
    show Go _ _ _ _ _ _ _ T6 (mkF m 128 _ [(.int (1 : Int32)), (.int (4 : Int32)), (.ref w_)])
    refine Go.step (fun tt kk => XS.iadd X6.here hx rfl (hb hby d4_128) rfl kk) ?_
    show Go _ _ _ _ _ _ _ T6 (mkF m 129 _ [(.int ((4 : Int32) + (1 : Int32))), (.ref w_)])
    refine Go.step (a_cload X6 hx hZ e6 f5 (k := 5) (by decide) (by decide) (x := (g 5)) rfl (hb hby d4_129)) ?_
    show Go _ _ _ _ _ _ _ T6 (mkF m 130 _ [(.int (g 5))])
    obtain ⟨v7, T7, L7, X7, q7, st7⟩ := c_static X6 hx hZ hown (y := (⟨"com/example/sharks/sharks/StandardBase64DecodePinLaw", "v", "(C)I"⟩ : MethodName)) (hw _ (List.mem_of_getElem? (i := 32) rfl)) (hw _ (List.mem_of_getElem? (i := 33) rfl)) (hw _ (List.mem_of_getElem? (i := 4) rfl)) (hw _ (List.mem_of_getElem? (i := 34) rfl)) (by decide) (argsL := [(.int (g 5))]) (rest := []) (rmV l Z a0 hw [] (g 5) h2 n0 Z2 ) e6 pd_1 rfl (by rw [hml]; rfl) (W := 0) (by show 2 * 0 + _ ≤ _; exact Nat.le_of_eq rfl) (by decide) (by decide) (by decide) (by decide) (hb hby d4_130) (Ls := #[.val (.ref w_), .val (.int (8 : Int32)), .val (.int (Int32.ofNat bf)), .val (.int (1 : Int32)), .val (.ref b1), .val (.int (Int32.ofNat (bf + 3))), .val (.int (4 : Int32)), .val (.int (vl (g 4))), .unset, .unset])
    obtain ⟨rfl, rfl, e7⟩ := q7
    have N7 := Fr.app N6 (Fr.nil n0)
    refine Go.step (st7) ?_
    show Go _ _ _ _ _ _ _ T7 (mkF m 133 _ [(.int (vl (g 5)))])
    refine Go.step (fun tt kk => XS.istore X7.here hx rfl (hb hby d4_133) rfl (l' := #[.val (.ref w_), .val (.int (8 : Int32)), .val (.int (Int32.ofNat bf)), .val (.int (1 : Int32)), .val (.ref b1), .val (.int (Int32.ofNat (bf + 3))), .val (.int (4 : Int32)), .val (.int (vl (g 4))), .val (.int (vl (g 5))), .unset]) rfl kk) ?_
    show Go _ _ _ _ _ _ _ T7 (mkF m 135 _ [])
    refine Go.step (fun tt kk => XS.iloadN X7.here hx rfl (hb hby d4_135) rfl kk) ?_
    show Go _ _ _ _ _ _ _ T7 (mkF m 136 _ [(.int (1 : Int32))])
    refine Go.step (fun tt kk => XS.iconst X7.here hx rfl (hb hby d4_136) kk) ?_
    show Go _ _ _ _ _ _ _ T7 (mkF m 137 _ [(.int (1 : Int32)), (.int (1 : Int32))])
    refine Go.step (fun tt kk => XS.icmpNo X7.here hx rfl (hb hby d4_137) rfl (teq (by decide)).2 kk) ?_
    show Go _ _ _ _ _ _ _ T7 (mkF m 140 _ [])
    refine Go.step (fun tt kk => XS.aloadN X7.here hx rfl (hb hby d4_140) rfl rfl kk) ?_
    show Go _ _ _ _ _ _ _ T7 (mkF m 141 _ [(.ref w_)])
    refine Go.step (fun tt kk => XS.iload X7.here hx rfl (hb hby d4_141) rfl kk) ?_
    show Go _ _ _ _ _ _ _ T7 (mkF m 143 _ [(.int (4 : Int32)), (.ref w_)])
    refine Go.step (fun tt kk => XS.iconst X7.here hx rfl (hb hby d4_143) kk) ?_
    show Go _ _ _ _ _ _ _ T7 (mkF m 144 _ [(.int (2 : Int32)), (.int (4 : Int32)), (.ref w_)])
    refine Go.step (fun tt kk => XS.iadd X7.here hx rfl (hb hby d4_144) rfl kk) ?_
    show Go _ _ _ _ _ _ _ T7 (mkF m 145 _ [(.int ((4 : Int32) + (2 : Int32))), (.ref w_)])
    refine Go.step (a_cload X7 hx hZ e7 f5 (k := 6) (by decide) (by decide) (x := (g 6)) rfl (hb hby d4_145)) ?_
    show Go _ _ _ _ _ _ _ T7 (mkF m 146 _ [(.int (g 6))])
    obtain ⟨v8, T8, L8, X8, q8, st8⟩ := c_static X7 hx hZ hown (y := (⟨"com/example/sharks/sharks/StandardBase64DecodePinLaw", "v", "(C)I"⟩ : MethodName)) (hw _ (List.mem_of_getElem? (i := 32) rfl)) (hw _ (List.mem_of_getElem? (i := 33) rfl)) (hw _ (List.mem_of_getElem? (i := 4) rfl)) (hw _ (List.mem_of_getElem? (i := 34) rfl)) (by decide) (argsL := [(.int (g 6))]) (rest := []) (rmV l Z a0 hw [] (g 6) h2 n0 Z2 ) e7 pd_1 rfl (by rw [hml]; rfl) (W := 0) (by show 2 * 0 + _ ≤ _; exact Nat.le_of_eq rfl) (by decide) (by decide) (by decide) (by decide) (hb hby d4_146) (Ls := #[.val (.ref w_), .val (.int (8 : Int32)), .val (.int (Int32.ofNat bf)), .val (.int (1 : Int32)), .val (.ref b1), .val (.int (Int32.ofNat (bf + 3))), .val (.int (4 : Int32)), .val (.int (vl (g 4))), .val (.int (vl (g 5))), .unset])
    obtain ⟨rfl, rfl, e8⟩ := q8
    have N8 := Fr.app N7 (Fr.nil n0)
    refine Go.step (st8) ?_
    show Go _ _ _ _ _ _ _ T8 (mkF m 149 _ [(.int (vl (g 6)))])
    refine Go.step (fun tt kk => XS.istore X8.here hx rfl (hb hby d4_149) rfl (l' := #[.val (.ref w_), .val (.int (8 : Int32)), .val (.int (Int32.ofNat bf)), .val (.int (1 : Int32)), .val (.ref b1), .val (.int (Int32.ofNat (bf + 3))), .val (.int (4 : Int32)), .val (.int (vl (g 4))), .val (.int (vl (g 5))), .val (.int (vl (g 6)))]) rfl kk) ?_
    show Go _ _ _ _ _ _ _ T8 (mkF m 151 _ [])
    refine Go.step (fun tt kk => XS.iload X8.here hx rfl (hb hby d4_151) rfl kk) ?_
    show Go _ _ _ _ _ _ _ T8 (mkF m 153 _ [(.int (vl (g 4)))])
    by_cases c153_9 : (vl (g 4)) < (0 : Int32)
    · refine Go.step (fun tt kk => XS.ifYes X8.here hx rfl (pc0 := 153) (pc' := 173) rfl (hb hby d4_153) rfl ((if0 _ _).trans (tlt c153_9).1) (by decide) (by decide) kk) ?_
      show Go _ _ _ _ _ _ _ T8 (mkF m 173 _ [])
      refine Go.step (fun tt kk => XS.aconstNull X8.here hx rfl (hb hby d4_173) kk) ?_
      show Go _ _ _ _ _ _ _ T8 (mkF m 174 _ [.null])
      refine go_retA X8 hx (t := (.array .byte)) hret rfl hlk rfl (hb hby d4_174) ?_ (by decide) (by decide)
      try rw [e8]
      exact ⟨N8, eI ▸ K2, fun z => absurd z (by simp only [not_true_eq_false, not_false_eq_true, and_true, true_and, and_false, false_and, or_true, true_or, or_false, false_or, and_self, or_self, OK4, OK1, OK2, eq_true c76_4, eq_true c153_9]), fun _ => rfl⟩
    · refine Go.step (fun tt kk => XS.ifNo X8.here hx rfl (hb hby d4_153) rfl ((if0 _ _).trans (flt c153_9).1) kk) ?_
      show Go _ _ _ _ _ _ _ T8 (mkF m 156 _ [])
      refine Go.step (fun tt kk => XS.iload X8.here hx rfl (hb hby d4_156) rfl kk) ?_
      show Go _ _ _ _ _ _ _ T8 (mkF m 158 _ [(.int (vl (g 5)))])
      by_cases c158_10 : (vl (g 5)) < (0 : Int32)
      · refine Go.step (fun tt kk => XS.ifYes X8.here hx rfl (pc0 := 158) (pc' := 173) rfl (hb hby d4_158) rfl ((if0 _ _).trans (tlt c158_10).1) (by decide) (by decide) kk) ?_
        show Go _ _ _ _ _ _ _ T8 (mkF m 173 _ [])
        refine Go.step (fun tt kk => XS.aconstNull X8.here hx rfl (hb hby d4_173) kk) ?_
        show Go _ _ _ _ _ _ _ T8 (mkF m 174 _ [.null])
        refine go_retA X8 hx (t := (.array .byte)) hret rfl hlk rfl (hb hby d4_174) ?_ (by decide) (by decide)
        try rw [e8]
        exact ⟨N8, eI ▸ K2, fun z => absurd z (by simp only [not_true_eq_false, not_false_eq_true, and_true, true_and, and_false, false_and, or_true, true_or, or_false, false_or, and_self, or_self, OK4, OK1, OK2, eq_true c76_4, eq_false c153_9, eq_true c158_10]), fun _ => rfl⟩
      · refine Go.step (fun tt kk => XS.ifNo X8.here hx rfl (hb hby d4_158) rfl ((if0 _ _).trans (flt c158_10).1) kk) ?_
        show Go _ _ _ _ _ _ _ T8 (mkF m 161 _ [])
        refine Go.step (fun tt kk => XS.iload X8.here hx rfl (hb hby d4_161) rfl kk) ?_
        show Go _ _ _ _ _ _ _ T8 (mkF m 163 _ [(.int (vl (g 6)))])
        by_cases c163_11 : (vl (g 6)) < (0 : Int32)
        · refine Go.step (fun tt kk => XS.ifYes X8.here hx rfl (pc0 := 163) (pc' := 173) rfl (hb hby d4_163) rfl ((if0 _ _).trans (tlt c163_11).1) (by decide) (by decide) kk) ?_
          show Go _ _ _ _ _ _ _ T8 (mkF m 173 _ [])
          refine Go.step (fun tt kk => XS.aconstNull X8.here hx rfl (hb hby d4_173) kk) ?_
          show Go _ _ _ _ _ _ _ T8 (mkF m 174 _ [.null])
          refine go_retA X8 hx (t := (.array .byte)) hret rfl hlk rfl (hb hby d4_174) ?_ (by decide) (by decide)
          try rw [e8]
          exact ⟨N8, eI ▸ K2, fun z => absurd z (by simp only [not_true_eq_false, not_false_eq_true, and_true, true_and, and_false, false_and, or_true, true_or, or_false, false_or, and_self, or_self, OK4, OK1, OK2, eq_true c76_4, eq_false c153_9, eq_false c158_10, eq_true c163_11]), fun _ => rfl⟩
        · refine Go.step (fun tt kk => XS.ifNo X8.here hx rfl (hb hby d4_163) rfl ((if0 _ _).trans (flt c163_11).1) kk) ?_
          show Go _ _ _ _ _ _ _ T8 (mkF m 166 _ [])
          refine Go.step (fun tt kk => XS.iload X8.here hx rfl (hb hby d4_166) rfl kk) ?_
          show Go _ _ _ _ _ _ _ T8 (mkF m 168 _ [(.int (vl (g 6)))])
          refine Go.step (fun tt kk => XS.iconst X8.here hx rfl (hb hby d4_168) kk) ?_
          show Go _ _ _ _ _ _ _ T8 (mkF m 169 _ [(.int (3 : Int32)), (.int (vl (g 6)))])
          refine Go.step (fun tt kk => XS.iand X8.here hx rfl (hb hby d4_169) rfl kk) ?_
          show Go _ _ _ _ _ _ _ T8 (mkF m 170 _ [(.int ((vl (g 6)) &&& (3 : Int32)))])
          by_cases c170_12 : ((vl (g 6)) &&& (3 : Int32)) = (0 : Int32)
          · refine Go.step (fun tt kk => XS.ifYes X8.here hx rfl (pc0 := 170) (pc' := 175) rfl (hb hby d4_170) rfl ((if0 _ _).trans (teq c170_12).1) (by decide) (by decide) kk) ?_
            show Go _ _ _ _ _ _ _ T8 (mkF m 175 _ [])
            refine Go.step (fun tt kk => XS.aload X8.here hx rfl (hb hby d4_175) rfl rfl kk) ?_
            show Go _ _ _ _ _ _ _ T8 (mkF m 177 _ [(.ref b1)])
            refine Go.step (fun tt kk => XS.iload X8.here hx rfl (hb hby d4_177) rfl kk) ?_
            show Go _ _ _ _ _ _ _ T8 (mkF m 179 _ [(.int (Int32.ofNat (bf + 3))), (.ref b1)])
            refine Go.step (fun tt kk => XS.iload X8.here hx rfl (hb hby d4_179) rfl kk) ?_
            show Go _ _ _ _ _ _ _ T8 (mkF m 181 _ [(.int (vl (g 4))), (.int (Int32.ofNat (bf + 3))), (.ref b1)])
            refine Go.step (fun tt kk => XS.iconst X8.here hx rfl (hb hby d4_181) kk) ?_
            show Go _ _ _ _ _ _ _ T8 (mkF m 182 _ [(.int (2 : Int32)), (.int (vl (g 4))), (.int (Int32.ofNat (bf + 3))), (.ref b1)])
            refine Go.step (fun tt kk => XS.ishl X8.here hx rfl (hb hby d4_182) rfl kk) ?_
            show Go _ _ _ _ _ _ _ T8 (mkF m 183 _ [(.int ((vl (g 4)) <<< ((2 : Int32) &&& 31))), (.int (Int32.ofNat (bf + 3))), (.ref b1)])
            refine Go.step (fun tt kk => XS.iload X8.here hx rfl (hb hby d4_183) rfl kk) ?_
            show Go _ _ _ _ _ _ _ T8 (mkF m 185 _ [(.int (vl (g 5))), (.int ((vl (g 4)) <<< ((2 : Int32) &&& 31))), (.int (Int32.ofNat (bf + 3))), (.ref b1)])
            refine Go.step (fun tt kk => XS.iconst X8.here hx rfl (hb hby d4_185) kk) ?_
            show Go _ _ _ _ _ _ _ T8 (mkF m 186 _ [(.int (4 : Int32)), (.int (vl (g 5))), (.int ((vl (g 4)) <<< ((2 : Int32) &&& 31))), (.int (Int32.ofNat (bf + 3))), (.ref b1)])
            refine Go.step (fun tt kk => XS.ishr X8.here hx rfl (hb hby d4_186) rfl kk) ?_
            show Go _ _ _ _ _ _ _ T8 (mkF m 187 _ [(.int ((vl (g 5)) >>> ((4 : Int32) &&& 31))), (.int ((vl (g 4)) <<< ((2 : Int32) &&& 31))), (.int (Int32.ofNat (bf + 3))), (.ref b1)])
            refine Go.step (fun tt kk => XS.ior X8.here hx rfl (hb hby d4_187) rfl kk) ?_
            show Go _ _ _ _ _ _ _ T8 (mkF m 188 _ [(.int (((vl (g 4)) <<< ((2 : Int32) &&& 31)) ||| ((vl (g 5)) >>> ((4 : Int32) &&& 31)))), (.int (Int32.ofNat (bf + 3))), (.ref b1)])
            refine Go.step (fun tt kk => XS.i2b X8.here hx rfl (hb hby d4_188) rfl kk) ?_
            show Go _ _ _ _ _ _ _ T8 (mkF m 189 _ [(.int ((((vl (g 4)) <<< ((2 : Int32) &&& 31)) ||| ((vl (g 5)) >>> ((4 : Int32) &&& 31))).toInt8.toInt32)), (.int (Int32.ofNat (bf + 3))), (.ref b1)])
            show Go _ _ _ _ _ _ _ T8 (mkF m 189 #[.val (.ref w_), .val (.int (8 : Int32)), .val (.int (Int32.ofNat bf)), .val (.int (1 : Int32)), .val (.ref b1), .val (.int (Int32.ofNat (bf + 3))), .val (.int (4 : Int32)), .val (.int (vl (g 4))), .val (.int (vl (g 5))), .val (.int (vl (g 6)))] [(.int (bA (vl (g 4)) (vl (g 5)))), (.int (Int32.ofNat (bf + 3))), (.ref b1)])
            obtain ⟨cl13, Ar13, hin13, -⟩ := (V2q c76_4).at (j := (Int32.ofNat (bf + 3))) (k := (bf + 3)) (Int32.toInt_ofNat_of_lt (by omega)) (by omega)
            obtain ⟨T13, h13, X13, e13, W13, st13⟩ := stB X8 hx hZ e8 Ar13 (j := (Int32.ofNat (bf + 3))) hin13 (g := (mkF m 189 #[.val (.ref w_), .val (.int (8 : Int32)), .val (.int (Int32.ofNat bf)), .val (.int (1 : Int32)), .val (.ref b1), .val (.int (Int32.ofNat (bf + 3))), .val (.int (4 : Int32)), .val (.int (vl (g 4))), .val (.int (vl (g 5))), .val (.int (vl (g 6)))] [(.int (bA (vl (g 4)) (vl (g 5)))), (.int (Int32.ofNat (bf + 3))), (.ref b1)])) rfl rfl (hb hby d4_189)
            rw [(own_nb _)] at W13
            have V13 : AV Z h13 b1 .byte (bf + 5) (upd (upd (upd (upd (fun _ => (.int (0 : Int32))) bf (.int (bA (vl (g 0)) (vl (g (0 + 1)))))) (bf + 1) (.int (bB (vl (g (0 + 1))) (vl (g (0 + 2)))))) (bf + 2) (.int (bC (vl (g (0 + 2))) (vl (g (0 + 3)))))) (bf + 3) (.int (bA (vl (g 4)) (vl (g 5))))) := AV.set (V2q c76_4) (k := (bf + 3)) (Int32.toInt_ofNat_of_lt (by omega)) (by omega) W13
            have N13 := Fr.snoc X13 N8 gn_b1
            have Z13 : n0 ≤ h13.size := Nat.le_trans Z2 (Keep.of_wr W13).1
            have K13 : Keep hI h13 [] := K2.wr W13 (Or.inr sz_b1)
            refine Go.step (st13) ?_
            show Go _ _ _ _ _ _ _ T13 (mkF m 190 _ [])
            refine Go.step (fun tt kk => XS.aload X13.here hx rfl (hb hby d4_190) rfl rfl kk) ?_
            show Go _ _ _ _ _ _ _ T13 (mkF m 192 _ [(.ref b1)])
            refine Go.step (fun tt kk => XS.iload X13.here hx rfl (hb hby d4_192) rfl kk) ?_
            show Go _ _ _ _ _ _ _ T13 (mkF m 194 _ [(.int (Int32.ofNat (bf + 3))), (.ref b1)])
            refine Go.step (fun tt kk => XS.iconst X13.here hx rfl (hb hby d4_194) kk) ?_
            show Go _ _ _ _ _ _ _ T13 (mkF m 195 _ [(.int (1 : Int32)), (.int (Int32.ofNat (bf + 3))), (.ref b1)])
            refine Go.step (fun tt kk => XS.iadd X13.here hx rfl (hb hby d4_195) rfl kk) ?_
            show Go _ _ _ _ _ _ _ T13 (mkF m 196 _ [(.int ((Int32.ofNat (bf + 3)) + (1 : Int32))), (.ref b1)])
            refine Go.step (fun tt kk => XS.iload X13.here hx rfl (hb hby d4_196) rfl kk) ?_
            show Go _ _ _ _ _ _ _ T13 (mkF m 198 _ [(.int (vl (g 5))), (.int ((Int32.ofNat (bf + 3)) + (1 : Int32))), (.ref b1)])
            refine Go.step (fun tt kk => XS.bipush X13.here hx rfl (hb hby d4_198) kk) ?_
            show Go _ _ _ _ _ _ _ T13 (mkF m 200 _ [(.int (15 : Int32)), (.int (vl (g 5))), (.int ((Int32.ofNat (bf + 3)) + (1 : Int32))), (.ref b1)])
            refine Go.step (fun tt kk => XS.iand X13.here hx rfl (hb hby d4_200) rfl kk) ?_
            show Go _ _ _ _ _ _ _ T13 (mkF m 201 _ [(.int ((vl (g 5)) &&& (15 : Int32))), (.int ((Int32.ofNat (bf + 3)) + (1 : Int32))), (.ref b1)])
            refine Go.step (fun tt kk => XS.iconst X13.here hx rfl (hb hby d4_201) kk) ?_
            show Go _ _ _ _ _ _ _ T13 (mkF m 202 _ [(.int (4 : Int32)), (.int ((vl (g 5)) &&& (15 : Int32))), (.int ((Int32.ofNat (bf + 3)) + (1 : Int32))), (.ref b1)])
            refine Go.step (fun tt kk => XS.ishl X13.here hx rfl (hb hby d4_202) rfl kk) ?_
            show Go _ _ _ _ _ _ _ T13 (mkF m 203 _ [(.int (((vl (g 5)) &&& (15 : Int32)) <<< ((4 : Int32) &&& 31))), (.int ((Int32.ofNat (bf + 3)) + (1 : Int32))), (.ref b1)])
            refine Go.step (fun tt kk => XS.iload X13.here hx rfl (hb hby d4_203) rfl kk) ?_
            show Go _ _ _ _ _ _ _ T13 (mkF m 205 _ [(.int (vl (g 6))), (.int (((vl (g 5)) &&& (15 : Int32)) <<< ((4 : Int32) &&& 31))), (.int ((Int32.ofNat (bf + 3)) + (1 : Int32))), (.ref b1)])
            refine Go.step (fun tt kk => XS.iconst X13.here hx rfl (hb hby d4_205) kk) ?_
            show Go _ _ _ _ _ _ _ T13 (mkF m 206 _ [(.int (2 : Int32)), (.int (vl (g 6))), (.int (((vl (g 5)) &&& (15 : Int32)) <<< ((4 : Int32) &&& 31))), (.int ((Int32.ofNat (bf + 3)) + (1 : Int32))), (.ref b1)])
            refine Go.step (fun tt kk => XS.ishr X13.here hx rfl (hb hby d4_206) rfl kk) ?_
            show Go _ _ _ _ _ _ _ T13 (mkF m 207 _ [(.int ((vl (g 6)) >>> ((2 : Int32) &&& 31))), (.int (((vl (g 5)) &&& (15 : Int32)) <<< ((4 : Int32) &&& 31))), (.int ((Int32.ofNat (bf + 3)) + (1 : Int32))), (.ref b1)])
            refine Go.step (fun tt kk => XS.ior X13.here hx rfl (hb hby d4_207) rfl kk) ?_
            show Go _ _ _ _ _ _ _ T13 (mkF m 208 _ [(.int ((((vl (g 5)) &&& (15 : Int32)) <<< ((4 : Int32) &&& 31)) ||| ((vl (g 6)) >>> ((2 : Int32) &&& 31)))), (.int ((Int32.ofNat (bf + 3)) + (1 : Int32))), (.ref b1)])
            refine Go.step (fun tt kk => XS.i2b X13.here hx rfl (hb hby d4_208) rfl kk) ?_
            show Go _ _ _ _ _ _ _ T13 (mkF m 209 _ [(.int (((((vl (g 5)) &&& (15 : Int32)) <<< ((4 : Int32) &&& 31)) ||| ((vl (g 6)) >>> ((2 : Int32) &&& 31))).toInt8.toInt32)), (.int ((Int32.ofNat (bf + 3)) + (1 : Int32))), (.ref b1)])
            rw [show Int32.ofNat (bf + 3) + (1 : Int32) = Int32.ofNat ((bf + 3) + 1) from own_add (bf + 3) 1]
            show Go _ _ _ _ _ _ _ T13 (mkF m 209 #[.val (.ref w_), .val (.int (8 : Int32)), .val (.int (Int32.ofNat bf)), .val (.int (1 : Int32)), .val (.ref b1), .val (.int (Int32.ofNat (bf + 3))), .val (.int (4 : Int32)), .val (.int (vl (g 4))), .val (.int (vl (g 5))), .val (.int (vl (g 6)))] [(.int (bB (vl (g 5)) (vl (g 6)))), (.int (Int32.ofNat ((bf + 3) + 1))), (.ref b1)])
            obtain ⟨cl14, Ar14, hin14, -⟩ := V13.at (j := (Int32.ofNat ((bf + 3) + 1))) (k := ((bf + 3) + 1)) (Int32.toInt_ofNat_of_lt (by omega)) (by omega)
            obtain ⟨T14, h14, X14, e14, W14, st14⟩ := stB X13 hx hZ e13 Ar14 (j := (Int32.ofNat ((bf + 3) + 1))) hin14 (g := (mkF m 209 #[.val (.ref w_), .val (.int (8 : Int32)), .val (.int (Int32.ofNat bf)), .val (.int (1 : Int32)), .val (.ref b1), .val (.int (Int32.ofNat (bf + 3))), .val (.int (4 : Int32)), .val (.int (vl (g 4))), .val (.int (vl (g 5))), .val (.int (vl (g 6)))] [(.int (bB (vl (g 5)) (vl (g 6)))), (.int (Int32.ofNat ((bf + 3) + 1))), (.ref b1)])) rfl rfl (hb hby d4_209)
            rw [(own_nb _)] at W14
            have V14 : AV Z h14 b1 .byte (bf + 5) (upd (upd (upd (upd (upd (fun _ => (.int (0 : Int32))) bf (.int (bA (vl (g 0)) (vl (g (0 + 1)))))) (bf + 1) (.int (bB (vl (g (0 + 1))) (vl (g (0 + 2)))))) (bf + 2) (.int (bC (vl (g (0 + 2))) (vl (g (0 + 3)))))) (bf + 3) (.int (bA (vl (g 4)) (vl (g 5))))) ((bf + 3) + 1) (.int (bB (vl (g 5)) (vl (g 6))))) := AV.set V13 (k := ((bf + 3) + 1)) (Int32.toInt_ofNat_of_lt (by omega)) (by omega) W14
            have N14 := Fr.snoc X14 N13 gn_b1
            have Z14 : n0 ≤ h14.size := Nat.le_trans Z13 (Keep.of_wr W14).1
            have K14 : Keep hI h14 [] := K13.wr W14 (Or.inr sz_b1)
            refine Go.step (st14) ?_
            show Go _ _ _ _ _ _ _ T14 (mkF m 210 _ [])
            refine Go.step (fun tt kk => XS.aload X14.here hx rfl (hb hby d4_210) rfl rfl kk) ?_
            show Go _ _ _ _ _ _ _ T14 (mkF m 212 _ [(.ref b1)])
            have V15 : AV Z h14 b1 .byte (bf + 5) (gv (exI g bf)) := V14.congr fun i hi => by
              by_cases q : i < bf
              · rw [show gv (exI g bf) i = .int 0 from congrArg Value.int (exI_lt q)]
                rw [upd_ne (by omega), upd_ne (by omega), upd_ne (by omega), upd_ne (by omega), upd_ne (by omega)]
              · obtain ⟨j, rfl⟩ : ∃ j, i = bf + j := ⟨i - bf, by omega⟩
                rw [show gv (exI g bf) (bf + j) = .int (bt g (j / 3) (j % 3)) from congrArg Value.int (exI_at j)]
                rcases (by omega : j = 0 ∨ j = 1 ∨ j = 2 ∨ j = 3 ∨ j = 4) with rfl | rfl | rfl | rfl | rfl
                · rw [upd_ne (by omega), upd_ne (by omega), upd_ne (by omega), upd_ne (by omega), upd_at (by omega)]; exact congrArg Value.int rfl
                · rw [upd_ne (by omega), upd_ne (by omega), upd_ne (by omega), upd_at (by omega)]; exact congrArg Value.int rfl
                · rw [upd_ne (by omega), upd_ne (by omega), upd_at (by omega)]; exact congrArg Value.int rfl
                · rw [upd_ne (by omega), upd_at (by omega)]; exact congrArg Value.int rfl
                · rw [upd_at (by omega)]; exact congrArg Value.int rfl
            refine go_retA X14 hx (t := (.array .byte)) hret rfl hlk rfl (hb hby d4_212) ?_ (by decide) (by decide)
            try rw [e14]
            exact ⟨N14, eI ▸ K14, fun _ => ⟨b1, rfl, eI ▸ sz_b1, V15⟩, fun z => absurd (by simp only [not_true_eq_false, not_false_eq_true, and_true, true_and, and_false, false_and, or_true, true_or, or_false, false_or, and_self, or_self, OK4, OK1, OK2, eq_true c76_4, eq_false c153_9, eq_false c158_10, eq_false c163_11, eq_true c170_12]) z⟩
          · refine Go.step (fun tt kk => XS.ifNo X8.here hx rfl (hb hby d4_170) rfl ((if0 _ _).trans (feq c170_12).1) kk) ?_
            show Go _ _ _ _ _ _ _ T8 (mkF m 173 _ [])
            refine Go.step (fun tt kk => XS.aconstNull X8.here hx rfl (hb hby d4_173) kk) ?_
            show Go _ _ _ _ _ _ _ T8 (mkF m 174 _ [.null])
            refine go_retA X8 hx (t := (.array .byte)) hret rfl hlk rfl (hb hby d4_174) ?_ (by decide) (by decide)
            try rw [e8]
            exact ⟨N8, eI ▸ K2, fun z => absurd z (by simp only [not_true_eq_false, not_false_eq_true, and_true, true_and, and_false, false_and, or_true, true_or, or_false, false_or, and_self, or_self, OK4, OK1, OK2, eq_true c76_4, eq_false c153_9, eq_false c158_10, eq_false c163_11, eq_false c170_12]), fun _ => rfl⟩
  · refine Go.step (fun tt kk => XS.ifNo X2.here hx rfl (hb hby d4_76) rfl ((if0 _ _).trans (teq (bi_f c76_4)).2) kk) ?_
    show Go _ _ _ _ _ _ _ T2 (mkF m 79 _ [])
    refine Go.step (fun tt kk => XS.aconstNull X2.here hx rfl (hb hby d4_79) kk) ?_
    show Go _ _ _ _ _ _ _ T2 (mkF m 80 _ [.null])
    refine go_retA X2 hx (t := (.array .byte)) hret rfl hlk rfl (hb hby d4_80) ?_ (by decide) (by decide)
    try rw [e2]
    exact ⟨N2, eI ▸ K2, fun z => absurd z (by simp only [not_true_eq_false, not_false_eq_true, and_true, true_and, and_false, false_and, or_true, true_or, or_false, false_or, and_self, or_self, OK4, OK1, OK2, eq_false c76_4]), fun _ => rfl⟩
theorem ef_rmEx82 (m : MethodId) (x0 : Addr) (x1 : Int32) (x2 : Int32) : entryFrame m #[(.ref x0), (.int x1), (.int x2)] 10 = mkF m 0 #[.val (.ref x0), .val (.int x1), .val (.int x2), .unset, .unset, .unset, .unset, .unset, .unset, .unset] [] := by first | (simp [entryFrame, mkF, argsToLocals, Value.category]; done) | rfl
set_option maxRecDepth 65536 in
set_option maxHeartbeats 40000000 in
theorem rmEx82 (l : Launch) (Z : State) (a0 : Array Value) (hw : ∀ d ∈ tables_1, d.before a0 Z = true) (ws : List Jvm.Cond) (w_ : Addr) (bf : Nat) (g : Nat → Int32) (h0 : Heap) (n0 : Nat) (Z0 : n0 ≤ h0.size) (hbf : bf ≤ 3) (hg : CH g) (hp1 : g 7 = 61) (hp2 : g 6 = 61) (V_w : AV Z h0 w_ .char 8 (gv g)) :
    Ctr l Z (⟨"com/example/sharks/sharks/StandardBase64DecodePinLaw", "expected", "([CII)[B"⟩ : MethodName) method_6_code 10 (some (.array .byte)) ws ({ frames := 2, cells := 1, slots := 9, locals := 31 } : Room) 1 9 #[(.ref w_), (.int (8 : Int32)), (.int (Int32.ofNat bf))] h0 (fun v h L => Fr n0 L ∧ Keep h0 h [] ∧ ((OK4 g 0 ∧ OK2 g 4) → ∃ b, v = some (.ref b) ∧ h0.size ≤ b ∧ AV Z h b .byte (bf + 4) (gv (exI g bf))) ∧ (¬ (OK4 g 0 ∧ OK2 g 4) → v = some .null)) := by
  refine Ctr.mk (plainFor_of_name pn_0) fun p e s m below meth c T0 X0 C e0 => go_cast (ef_rmEx82 m w_ (8 : Int32) (Int32.ofNat bf)) ?_
  have N0 := Fr.nil n0
  obtain ⟨hx, hZ, hby, hml, hown, hnm, hret, hlk⟩ := C
  obtain ⟨hI, eI⟩ : ∃ z, z = h0 := ⟨_, rfl⟩
  have K0 : Keep hI h0 [] := by rw [eI]; exact Keep.refl _ _
  show Go _ _ _ _ _ _ _ T0 (mkF m 0 #[.val (.ref w_), .val (.int (8 : Int32)), .val (.int (Int32.ofNat bf)), .unset, .unset, .unset, .unset, .unset, .unset, .unset] [])
  refine Go.step (fun tt kk => XS.iloadN X0.here hx rfl (hb hby d4_0) rfl kk) ?_
  show Go _ _ _ _ _ _ _ T0 (mkF m 1 _ [(.int (8 : Int32))])
  refine Go.step (fun tt kk => XS.iconst X0.here hx rfl (hb hby d4_1) kk) ?_
  show Go _ _ _ _ _ _ _ T0 (mkF m 2 _ [(.int (4 : Int32)), (.int (8 : Int32))])
  refine Go.step (fun tt kk => iremM X0 hx rfl (hb hby d4_2) rfl (by decide) kk) ?_
  show Go _ _ _ _ _ _ _ T0 (mkF m 3 _ [(.int ((8 : Int32) % (4 : Int32)))])
  refine Go.step (fun tt kk => XS.ifYes X0.here hx rfl (pc0 := 3) (pc' := 8) rfl (hb hby d4_3) rfl ((if0 _ _).trans (teq (by decide)).1) (by decide) (by decide) kk) ?_
  show Go _ _ _ _ _ _ _ T0 (mkF m 8 _ [])
  refine Go.step (fun tt kk => XS.iloadN X0.here hx rfl (hb hby d4_8) rfl kk) ?_
  show Go _ _ _ _ _ _ _ T0 (mkF m 9 _ [(.int (8 : Int32))])
  refine Go.step (fun tt kk => XS.ifYes X0.here hx rfl (pc0 := 9) (pc' := 16) rfl (hb hby d4_9) rfl ((if0 _ _).trans (feq (by decide)).2) (by decide) (by decide) kk) ?_
  show Go _ _ _ _ _ _ _ T0 (mkF m 16 _ [])
  refine Go.step (fun tt kk => XS.aloadN X0.here hx rfl (hb hby d4_16) rfl rfl kk) ?_
  show Go _ _ _ _ _ _ _ T0 (mkF m 17 _ [(.ref w_)])
  refine Go.step (fun tt kk => XS.iloadN X0.here hx rfl (hb hby d4_17) rfl kk) ?_
  show Go _ _ _ _ _ _ _ T0 (mkF m 18 _ [(.int (8 : Int32)), (.ref w_)])
  refine Go.step (fun tt kk => XS.iconst X0.here hx rfl (hb hby d4_18) kk) ?_
  show Go _ _ _ _ _ _ _ T0 (mkF m 19 _ [(.int (1 : Int32)), (.int (8 : Int32)), (.ref w_)])
  refine Go.step (fun tt kk => XS.isub X0.here hx rfl (hb hby d4_19) rfl kk) ?_
  show Go _ _ _ _ _ _ _ T0 (mkF m 20 _ [(.int ((8 : Int32) - (1 : Int32))), (.ref w_)])
  refine Go.step (a_cload X0 hx hZ e0 V_w (k := 7) (by decide) (by decide) (x := (g 7)) rfl (hb hby d4_20)) ?_
  show Go _ _ _ _ _ _ _ T0 (mkF m 21 _ [(.int (g 7))])
  refine Go.step (fun tt kk => XS.bipush X0.here hx rfl (hb hby d4_21) kk) ?_
  show Go _ _ _ _ _ _ _ T0 (mkF m 23 _ [(.int (61 : Int32)), (.int (g 7))])
  refine Go.step (fun tt kk => XS.icmpYes X0.here hx rfl (pc0 := 23) (pc' := 30) rfl (hb hby d4_23) rfl (teq hp1).1 (by decide) (by decide) kk) ?_
  show Go _ _ _ _ _ _ _ T0 (mkF m 30 _ [])
  refine Go.step (fun tt kk => XS.aloadN X0.here hx rfl (hb hby d4_30) rfl rfl kk) ?_
  show Go _ _ _ _ _ _ _ T0 (mkF m 31 _ [(.ref w_)])
  refine Go.step (fun tt kk => XS.iloadN X0.here hx rfl (hb hby d4_31) rfl kk) ?_
  show Go _ _ _ _ _ _ _ T0 (mkF m 32 _ [(.int (8 : Int32)), (.ref w_)])
  refine Go.step (fun tt kk => XS.iconst X0.here hx rfl (hb hby d4_32) kk) ?_
  show Go _ _ _ _ _ _ _ T0 (mkF m 33 _ [(.int (2 : Int32)), (.int (8 : Int32)), (.ref w_)])
  refine Go.step (fun tt kk => XS.isub X0.here hx rfl (hb hby d4_33) rfl kk) ?_
  show Go _ _ _ _ _ _ _ T0 (mkF m 34 _ [(.int ((8 : Int32) - (2 : Int32))), (.ref w_)])
  refine Go.step (a_cload X0 hx hZ e0 V_w (k := 6) (by decide) (by decide) (x := (g 6)) rfl (hb hby d4_34)) ?_
  show Go _ _ _ _ _ _ _ T0 (mkF m 35 _ [(.int (g 6))])
  refine Go.step (fun tt kk => XS.bipush X0.here hx rfl (hb hby d4_35) kk) ?_
  show Go _ _ _ _ _ _ _ T0 (mkF m 37 _ [(.int (61 : Int32)), (.int (g 6))])
  refine Go.step (fun tt kk => XS.icmpNo X0.here hx rfl (hb hby d4_37) rfl (teq hp2).2 kk) ?_
  show Go _ _ _ _ _ _ _ T0 (mkF m 40 _ [])
  refine Go.step (fun tt kk => XS.iconst X0.here hx rfl (hb hby d4_40) kk) ?_
  show Go _ _ _ _ _ _ _ T0 (mkF m 41 _ [(.int (2 : Int32))])
  refine Go.step (fun tt kk => XS.goto X0.here hx rfl (pc0 := 41) (pc' := 45) rfl (hb hby d4_41) (by decide) (by decide) kk) ?_
  show Go _ _ _ _ _ _ _ T0 (mkF m 45 _ [(.int (2 : Int32))])
  refine Go.step (fun tt kk => XS.istoreN X0.here hx rfl (hb hby d4_45) rfl (l' := #[.val (.ref w_), .val (.int (8 : Int32)), .val (.int (Int32.ofNat bf)), .val (.int (2 : Int32)), .unset, .unset, .unset, .unset, .unset, .unset]) rfl kk) ?_
  show Go _ _ _ _ _ _ _ T0 (mkF m 46 _ [])
  refine Go.step (fun tt kk => XS.iloadN X0.here hx rfl (hb hby d4_46) rfl kk) ?_
  show Go _ _ _ _ _ _ _ T0 (mkF m 47 _ [(.int (Int32.ofNat bf))])
  refine Go.step (fun tt kk => XS.iloadN X0.here hx rfl (hb hby d4_47) rfl kk) ?_
  show Go _ _ _ _ _ _ _ T0 (mkF m 48 _ [(.int (8 : Int32)), (.int (Int32.ofNat bf))])
  refine Go.step (fun tt kk => XS.iconst X0.here hx rfl (hb hby d4_48) kk) ?_
  show Go _ _ _ _ _ _ _ T0 (mkF m 49 _ [(.int (4 : Int32)), (.int (8 : Int32)), (.int (Int32.ofNat bf))])
  refine Go.step (fun tt kk => XS.idiv X0.here hx rfl (hb hby d4_49) rfl (by decide) kk) ?_
  show Go _ _ _ _ _ _ _ T0 (mkF m 50 _ [(.int ((8 : Int32) / (4 : Int32))), (.int (Int32.ofNat bf))])
  refine Go.step (fun tt kk => XS.iconst X0.here hx rfl (hb hby d4_50) kk) ?_
  show Go _ _ _ _ _ _ _ T0 (mkF m 51 _ [(.int (3 : Int32)), (.int ((8 : Int32) / (4 : Int32))), (.int (Int32.ofNat bf))])
  refine Go.step (fun tt kk => XS.imul X0.here hx rfl (hb hby d4_51) rfl kk) ?_
  show Go _ _ _ _ _ _ _ T0 (mkF m 52 _ [(.int (((8 : Int32) / (4 : Int32)) * (3 : Int32))), (.int (Int32.ofNat bf))])
  refine Go.step (fun tt kk => XS.iadd X0.here hx rfl (hb hby d4_52) rfl kk) ?_
  show Go _ _ _ _ _ _ _ T0 (mkF m 53 _ [(.int ((Int32.ofNat bf) + (((8 : Int32) / (4 : Int32)) * (3 : Int32))))])
  refine Go.step (fun tt kk => XS.iloadN X0.here hx rfl (hb hby d4_53) rfl kk) ?_
  show Go _ _ _ _ _ _ _ T0 (mkF m 54 _ [(.int (2 : Int32)), (.int ((Int32.ofNat bf) + (((8 : Int32) / (4 : Int32)) * (3 : Int32))))])
  refine Go.step (fun tt kk => XS.isub X0.here hx rfl (hb hby d4_54) rfl kk) ?_
  show Go _ _ _ _ _ _ _ T0 (mkF m 55 _ [(.int (((Int32.ofNat bf) + (((8 : Int32) / (4 : Int32)) * (3 : Int32))) - (2 : Int32)))])
  rw [show (((Int32.ofNat bf) + (((8 : Int32) / (4 : Int32)) * (3 : Int32))) - (2 : Int32)) = Int32.ofNat (bf + 4) from by rw [show (((8 : Int32) / (4 : Int32)) * (3 : Int32)) = Int32.ofNat 6 by decide, own_add]; exact own_sub (bf + 6) 2 (by omega) (by omega)]
  show Go _ _ _ _ _ _ _ T0 (mkF m 55 #[.val (.ref w_), .val (.int (8 : Int32)), .val (.int (Int32.ofNat bf)), .val (.int (2 : Int32)), .unset, .unset, .unset, .unset, .unset, .unset] [(.int (Int32.ofNat (bf + 4)))])
  obtain ⟨T1, h1, k1, X1, e1, E1, A1, EA1, st1⟩ := newPE X0 hx hZ (hw _ (List.mem_of_getElem? (i := 20) rfl)) e0 (g := (mkF m 55 #[.val (.ref w_), .val (.int (8 : Int32)), .val (.int (Int32.ofNat bf)), .val (.int (2 : Int32)), .unset, .unset, .unset, .unset, .unset, .unset] [(.int (Int32.ofNat (bf + 4)))])) rfl (hb hby d4_55) rfl (own_nn (bf + 4) (by omega)) (cap := 9) (by rw [clamp_of (k := bf + 4) (Int32.toInt_ofNat_of_lt (by omega))]; omega) (by decide) (by decide) (by decide) (ad := "[B") rfl
  obtain ⟨b1, g1⟩ : ∃ z, z = h0.size := ⟨_, rfl⟩
  rw [← g1] at A1 EA1 st1
  have ne_w__b1 : w_ ≠ b1 := Nat.ne_of_lt (Nat.lt_of_lt_of_le V_w.lt (Nat.le_of_eq g1.symm))
  have gn_b1 : n0 ≤ b1 := Nat.le_trans Z0 (Nat.le_of_eq g1.symm)
  have sz_b1 : hI.size ≤ b1 := Nat.le_trans K0.1 (Nat.le_of_eq g1.symm)
  have Z1 : n0 ≤ h1.size := Nat.le_trans Z0 E1.1
  have K1 : Keep hI h1 [] := K0.ext E1
  have V1 : AV Z h1 b1 .byte (bf + 4) (fun _ => (.int (0 : Int32))) := AV.new A1 (Int32.toInt_ofNat_of_lt (by omega))
  refine Go.step (st1) ?_
  show Go _ _ _ _ _ _ _ T1 (mkF m 57 _ [(.ref b1)])
  refine Go.step (fun tt kk => XS.astore X1.here hx rfl (hb hby d4_57) rfl rfl (l' := #[.val (.ref w_), .val (.int (8 : Int32)), .val (.int (Int32.ofNat bf)), .val (.int (2 : Int32)), .val (.ref b1), .unset, .unset, .unset, .unset, .unset]) rfl kk) ?_
  show Go _ _ _ _ _ _ _ T1 (mkF m 59 _ [])
  refine Go.step (fun tt kk => XS.iloadN X1.here hx rfl (hb hby d4_59) rfl kk) ?_
  show Go _ _ _ _ _ _ _ T1 (mkF m 60 _ [(.int (Int32.ofNat bf))])
  refine Go.step (fun tt kk => XS.istore X1.here hx rfl (hb hby d4_60) rfl (l' := #[.val (.ref w_), .val (.int (8 : Int32)), .val (.int (Int32.ofNat bf)), .val (.int (2 : Int32)), .val (.ref b1), .val (.int (Int32.ofNat bf)), .unset, .unset, .unset, .unset]) rfl kk) ?_
  show Go _ _ _ _ _ _ _ T1 (mkF m 62 _ [])
  refine Go.step (fun tt kk => XS.iloadN X1.here hx rfl (hb hby d4_62) rfl kk) ?_
  show Go _ _ _ _ _ _ _ T1 (mkF m 63 _ [(.int (8 : Int32))])
  refine Go.step (fun tt kk => XS.bipush X1.here hx rfl (hb hby d4_63) kk) ?_
  show Go _ _ _ _ _ _ _ T1 (mkF m 65 _ [(.int (8 : Int32)), (.int (8 : Int32))])
  refine Go.step (fun tt kk => XS.icmpNo X1.here hx rfl (hb hby d4_65) rfl (teq (by decide)).2 kk) ?_
  show Go _ _ _ _ _ _ _ T1 (mkF m 68 _ [])
  refine Go.step (fun tt kk => XS.aloadN X1.here hx rfl (hb hby d4_68) rfl rfl kk) ?_
  show Go _ _ _ _ _ _ _ T1 (mkF m 69 _ [(.ref w_)])
  refine Go.step (fun tt kk => XS.iconst X1.here hx rfl (hb hby d4_69) kk) ?_
  show Go _ _ _ _ _ _ _ T1 (mkF m 70 _ [(.int (0 : Int32)), (.ref w_)])
  refine Go.step (fun tt kk => XS.aload X1.here hx rfl (hb hby d4_70) rfl rfl kk) ?_
  show Go _ _ _ _ _ _ _ T1 (mkF m 72 _ [(.ref b1), (.int (0 : Int32)), (.ref w_)])
  refine Go.step (fun tt kk => XS.iloadN X1.here hx rfl (hb hby d4_72) rfl kk) ?_
  show Go _ _ _ _ _ _ _ T1 (mkF m 73 _ [(.int (Int32.ofNat bf)), (.ref b1), (.int (0 : Int32)), (.ref w_)])
  have f3 := (V_w.ext E1)
  obtain ⟨v2, T2, L2, X2, q2, st2⟩ := c_static X1 hx hZ hown (y := (⟨"com/example/sharks/sharks/StandardBase64DecodePinLaw", "full", "([CI[BI)Z"⟩ : MethodName)) (hw _ (List.mem_of_getElem? (i := 29) rfl)) (hw _ (List.mem_of_getElem? (i := 30) rfl)) (hw _ (List.mem_of_getElem? (i := 4) rfl)) (hw _ (List.mem_of_getElem? (i := 31) rfl)) (by decide) (argsL := [(.ref w_), (.int (0 : Int32)), (.ref b1), (.int (Int32.ofNat bf))]) (rest := []) (rmFu l Z a0 hw [] w_ b1 0 bf (bf + 4) g (fun _ => (.int (0 : Int32))) h1 n0 Z1 (by omega) (by omega) (by omega) f3 V1 ne_w__b1 gn_b1) e1 pd_2 rfl (by rw [hml]; rfl) (W := 0) (by show 2 * 0 + _ ≤ _; exact Nat.le_of_eq rfl) (by decide) (by decide) (by decide) (by decide) (hb hby d4_73) (Ls := #[.val (.ref w_), .val (.int (8 : Int32)), .val (.int (Int32.ofNat bf)), .val (.int (2 : Int32)), .val (.ref b1), .val (.int (Int32.ofNat bf)), .unset, .unset, .unset, .unset])
  generalize e2 : T2.heap = h2 at q2
  obtain ⟨rfl, N2q, K2q, V2q⟩ := q2
  have N2 := Fr.app N0 N2q
  have Z2 : n0 ≤ h2.size := Nat.le_trans Z1 K2q.1
  have K2 : Keep hI h2 [] := K1.trans K2q (allS (Or.inr sz_b1) all0)
  refine Go.step (st2) ?_
  show Go _ _ _ _ _ _ _ T2 (mkF m 76 _ [(.int (bi (OK4 g 0)))])
  by_cases c76_4 : OK4 g 0
  · refine Go.step (fun tt kk => XS.ifYes X2.here hx rfl (pc0 := 76) (pc' := 81) rfl (hb hby d4_76) rfl ((if0 _ _).trans (feq (bi_n c76_4)).2) (by decide) (by decide) kk) ?_
    show Go _ _ _ _ _ _ _ T2 (mkF m 81 _ [])
    refine Go.step (fun tt kk => XS.iloadN X2.here hx rfl (hb hby d4_81) rfl kk) ?_
    show Go _ _ _ _ _ _ _ T2 (mkF m 82 _ [(.int (Int32.ofNat bf))])
    refine Go.step (fun tt kk => XS.iconst X2.here hx rfl (hb hby d4_82) kk) ?_
    show Go _ _ _ _ _ _ _ T2 (mkF m 83 _ [(.int (3 : Int32)), (.int (Int32.ofNat bf))])
    refine Go.step (fun tt kk => XS.iadd X2.here hx rfl (hb hby d4_83) rfl kk) ?_
    show Go _ _ _ _ _ _ _ T2 (mkF m 84 _ [(.int ((Int32.ofNat bf) + (3 : Int32)))])
    refine Go.step (fun tt kk => XS.istore X2.here hx rfl (hb hby d4_84) rfl (l' := #[.val (.ref w_), .val (.int (8 : Int32)), .val (.int (Int32.ofNat bf)), .val (.int (2 : Int32)), .val (.ref b1), .val (.int ((Int32.ofNat bf) + (3 : Int32))), .unset, .unset, .unset, .unset]) rfl kk) ?_
    show Go _ _ _ _ _ _ _ T2 (mkF m 86 _ [])
    rw [show Int32.ofNat bf + (3 : Int32) = Int32.ofNat (bf + 3) from own_add bf 3]
    show Go _ _ _ _ _ _ _ T2 (mkF m 86 #[.val (.ref w_), .val (.int (8 : Int32)), .val (.int (Int32.ofNat bf)), .val (.int (2 : Int32)), .val (.ref b1), .val (.int (Int32.ofNat (bf + 3))), .unset, .unset, .unset, .unset] [])
    refine Go.step (fun tt kk => XS.iloadN X2.here hx rfl (hb hby d4_86) rfl kk) ?_
    show Go _ _ _ _ _ _ _ T2 (mkF m 87 _ [(.int (8 : Int32))])
    refine Go.step (fun tt kk => XS.iconst X2.here hx rfl (hb hby d4_87) kk) ?_
    show Go _ _ _ _ _ _ _ T2 (mkF m 88 _ [(.int (4 : Int32)), (.int (8 : Int32))])
    refine Go.step (fun tt kk => XS.isub X2.here hx rfl (hb hby d4_88) rfl kk) ?_
    show Go _ _ _ _ _ _ _ T2 (mkF m 89 _ [(.int ((8 : Int32) - (4 : Int32)))])
    refine Go.step (fun tt kk => XS.istore X2.here hx rfl (hb hby d4_89) rfl (l' := #[.val (.ref w_), .val (.int (8 : Int32)), .val (.int (Int32.ofNat bf)), .val (.int (2 : Int32)), .val (.ref b1), .val (.int (Int32.ofNat (bf + 3))), .val (.int ((8 : Int32) - (4 : Int32))), .unset, .unset, .unset]) rfl kk) ?_
    show Go _ _ _ _ _ _ _ T2 (mkF m 91 _ [])
    rw [show ((8 : Int32) - (4 : Int32)) = (4 : Int32) by decide]
    show Go _ _ _ _ _ _ _ T2 (mkF m 91 #[.val (.ref w_), .val (.int (8 : Int32)), .val (.int (Int32.ofNat bf)), .val (.int (2 : Int32)), .val (.ref b1), .val (.int (Int32.ofNat (bf + 3))), .val (.int (4 : Int32)), .unset, .unset, .unset] [])
    refine Go.step (fun tt kk => XS.iloadN X2.here hx rfl (hb hby d4_91) rfl kk) ?_
    show Go _ _ _ _ _ _ _ T2 (mkF m 92 _ [(.int (2 : Int32))])
    refine Go.step (fun tt kk => XS.ifYes X2.here hx rfl (pc0 := 92) (pc' := 115) rfl (hb hby d4_92) rfl ((if0 _ _).trans (feq (by decide)).2) (by decide) (by decide) kk) ?_
    show Go _ _ _ _ _ _ _ T2 (mkF m 115 _ [])
    refine Go.step (fun tt kk => XS.aloadN X2.here hx rfl (hb hby d4_115) rfl rfl kk) ?_
    show Go _ _ _ _ _ _ _ T2 (mkF m 116 _ [(.ref w_)])
    refine Go.step (fun tt kk => XS.iload X2.here hx rfl (hb hby d4_116) rfl kk) ?_
    show Go _ _ _ _ _ _ _ T2 (mkF m 118 _ [(.int (4 : Int32)), (.ref w_)])
    have f5 := (f3.keep K2q (ninS ne_w__b1 nin0))
    refine Go.step (a_cload X2 hx hZ e2 f5 (k := 4) (by decide) (by decide) (x := (g 4)) rfl (hb hby d4_118)) ?_
    show Go _ _ _ _ _ _ _ T2 (mkF m 119 _ [(.int (g 4))])
    obtain ⟨v6, T6, L6, X6, q6, st6⟩ := c_static X2 hx hZ hown (y := (⟨"com/example/sharks/sharks/StandardBase64DecodePinLaw", "v", "(C)I"⟩ : MethodName)) (hw _ (List.mem_of_getElem? (i := 32) rfl)) (hw _ (List.mem_of_getElem? (i := 33) rfl)) (hw _ (List.mem_of_getElem? (i := 4) rfl)) (hw _ (List.mem_of_getElem? (i := 34) rfl)) (by decide) (argsL := [(.int (g 4))]) (rest := []) (rmV l Z a0 hw [] (g 4) h2 n0 Z2 ) e2 pd_1 rfl (by rw [hml]; rfl) (W := 0) (by show 2 * 0 + _ ≤ _; exact Nat.le_of_eq rfl) (by decide) (by decide) (by decide) (by decide) (hb hby d4_119) (Ls := #[.val (.ref w_), .val (.int (8 : Int32)), .val (.int (Int32.ofNat bf)), .val (.int (2 : Int32)), .val (.ref b1), .val (.int (Int32.ofNat (bf + 3))), .val (.int (4 : Int32)), .unset, .unset, .unset])
    obtain ⟨rfl, rfl, e6⟩ := q6
    have N6 := Fr.app N2 (Fr.nil n0)
    refine Go.step (st6) ?_
    show Go _ _ _ _ _ _ _ T6 (mkF m 122 _ [(.int (vl (g 4)))])
    refine Go.step (fun tt kk => XS.istore X6.here hx rfl (hb hby d4_122) rfl (l' := #[.val (.ref w_), .val (.int (8 : Int32)), .val (.int (Int32.ofNat bf)), .val (.int (2 : Int32)), .val (.ref b1), .val (.int (Int32.ofNat (bf + 3))), .val (.int (4 : Int32)), .val (.int (vl (g 4))), .unset, .unset]) rfl kk) ?_
    show Go _ _ _ _ _ _ _ T6 (mkF m 124 _ [])
    refine Go.step (fun tt kk => XS.aloadN X6.here hx rfl (hb hby d4_124) rfl rfl kk) ?_
    show Go _ _ _ _ _ _ _ T6 (mkF m 125 _ [(.ref w_)])
    refine Go.step (fun tt kk => XS.iload X6.here hx rfl (hb hby d4_125) rfl kk) ?_
    show Go _ _ _ _ _ _ _ T6 (mkF m 127 _ [(.int (4 : Int32)), (.ref w_)])
    refine Go.step (fun tt kk => XS.iconst X6.here hx rfl (hb hby d4_127) kk) ?_
    show Go _ _ _ _ _ _ _ T6 (mkF m 128 _ [(.int (1 : Int32)), (.int (4 : Int32)), (.ref w_)])
    refine Go.step (fun tt kk => XS.iadd X6.here hx rfl (hb hby d4_128) rfl kk) ?_
    show Go _ _ _ _ _ _ _ T6 (mkF m 129 _ [(.int ((4 : Int32) + (1 : Int32))), (.ref w_)])
    refine Go.step (a_cload X6 hx hZ e6 f5 (k := 5) (by decide) (by decide) (x := (g 5)) rfl (hb hby d4_129)) ?_
    show Go _ _ _ _ _ _ _ T6 (mkF m 130 _ [(.int (g 5))])
    obtain ⟨v7, T7, L7, X7, q7, st7⟩ := c_static X6 hx hZ hown (y := (⟨"com/example/sharks/sharks/StandardBase64DecodePinLaw", "v", "(C)I"⟩ : MethodName)) (hw _ (List.mem_of_getElem? (i := 32) rfl)) (hw _ (List.mem_of_getElem? (i := 33) rfl)) (hw _ (List.mem_of_getElem? (i := 4) rfl)) (hw _ (List.mem_of_getElem? (i := 34) rfl)) (by decide) (argsL := [(.int (g 5))]) (rest := []) (rmV l Z a0 hw [] (g 5) h2 n0 Z2 ) e6 pd_1 rfl (by rw [hml]; rfl) (W := 0) (by show 2 * 0 + _ ≤ _; exact Nat.le_of_eq rfl) (by decide) (by decide) (by decide) (by decide) (hb hby d4_130) (Ls := #[.val (.ref w_), .val (.int (8 : Int32)), .val (.int (Int32.ofNat bf)), .val (.int (2 : Int32)), .val (.ref b1), .val (.int (Int32.ofNat (bf + 3))), .val (.int (4 : Int32)), .val (.int (vl (g 4))), .unset, .unset])
    obtain ⟨rfl, rfl, e7⟩ := q7
    have N7 := Fr.app N6 (Fr.nil n0)
    refine Go.step (st7) ?_
    show Go _ _ _ _ _ _ _ T7 (mkF m 133 _ [(.int (vl (g 5)))])
    refine Go.step (fun tt kk => XS.istore X7.here hx rfl (hb hby d4_133) rfl (l' := #[.val (.ref w_), .val (.int (8 : Int32)), .val (.int (Int32.ofNat bf)), .val (.int (2 : Int32)), .val (.ref b1), .val (.int (Int32.ofNat (bf + 3))), .val (.int (4 : Int32)), .val (.int (vl (g 4))), .val (.int (vl (g 5))), .unset]) rfl kk) ?_
    show Go _ _ _ _ _ _ _ T7 (mkF m 135 _ [])
    refine Go.step (fun tt kk => XS.iloadN X7.here hx rfl (hb hby d4_135) rfl kk) ?_
    show Go _ _ _ _ _ _ _ T7 (mkF m 136 _ [(.int (2 : Int32))])
    refine Go.step (fun tt kk => XS.iconst X7.here hx rfl (hb hby d4_136) kk) ?_
    show Go _ _ _ _ _ _ _ T7 (mkF m 137 _ [(.int (1 : Int32)), (.int (2 : Int32))])
    refine Go.step (fun tt kk => XS.icmpYes X7.here hx rfl (pc0 := 137) (pc' := 213) rfl (hb hby d4_137) rfl (feq (by decide)).2 (by decide) (by decide) kk) ?_
    show Go _ _ _ _ _ _ _ T7 (mkF m 213 _ [])
    refine Go.step (fun tt kk => XS.iload X7.here hx rfl (hb hby d4_213) rfl kk) ?_
    show Go _ _ _ _ _ _ _ T7 (mkF m 215 _ [(.int (vl (g 4)))])
    by_cases c215_8 : (vl (g 4)) < (0 : Int32)
    · refine Go.step (fun tt kk => XS.ifYes X7.here hx rfl (pc0 := 215) (pc' := 231) rfl (hb hby d4_215) rfl ((if0 _ _).trans (tlt c215_8).1) (by decide) (by decide) kk) ?_
      show Go _ _ _ _ _ _ _ T7 (mkF m 231 _ [])
      refine Go.step (fun tt kk => XS.aconstNull X7.here hx rfl (hb hby d4_231) kk) ?_
      show Go _ _ _ _ _ _ _ T7 (mkF m 232 _ [.null])
      refine go_retA X7 hx (t := (.array .byte)) hret rfl hlk rfl (hb hby d4_232) ?_ (by decide) (by decide)
      try rw [e7]
      exact ⟨N7, eI ▸ K2, fun z => absurd z (by simp only [not_true_eq_false, not_false_eq_true, and_true, true_and, and_false, false_and, or_true, true_or, or_false, false_or, and_self, or_self, OK4, OK1, OK2, eq_true c76_4, eq_true c215_8]), fun _ => rfl⟩
    · refine Go.step (fun tt kk => XS.ifNo X7.here hx rfl (hb hby d4_215) rfl ((if0 _ _).trans (flt c215_8).1) kk) ?_
      show Go _ _ _ _ _ _ _ T7 (mkF m 218 _ [])
      refine Go.step (fun tt kk => XS.iload X7.here hx rfl (hb hby d4_218) rfl kk) ?_
      show Go _ _ _ _ _ _ _ T7 (mkF m 220 _ [(.int (vl (g 5)))])
      by_cases c220_9 : (vl (g 5)) < (0 : Int32)
      · refine Go.step (fun tt kk => XS.ifYes X7.here hx rfl (pc0 := 220) (pc' := 231) rfl (hb hby d4_220) rfl ((if0 _ _).trans (tlt c220_9).1) (by decide) (by decide) kk) ?_
        show Go _ _ _ _ _ _ _ T7 (mkF m 231 _ [])
        refine Go.step (fun tt kk => XS.aconstNull X7.here hx rfl (hb hby d4_231) kk) ?_
        show Go _ _ _ _ _ _ _ T7 (mkF m 232 _ [.null])
        refine go_retA X7 hx (t := (.array .byte)) hret rfl hlk rfl (hb hby d4_232) ?_ (by decide) (by decide)
        try rw [e7]
        exact ⟨N7, eI ▸ K2, fun z => absurd z (by simp only [not_true_eq_false, not_false_eq_true, and_true, true_and, and_false, false_and, or_true, true_or, or_false, false_or, and_self, or_self, OK4, OK1, OK2, eq_true c76_4, eq_false c215_8, eq_true c220_9]), fun _ => rfl⟩
      · refine Go.step (fun tt kk => XS.ifNo X7.here hx rfl (hb hby d4_220) rfl ((if0 _ _).trans (flt c220_9).1) kk) ?_
        show Go _ _ _ _ _ _ _ T7 (mkF m 223 _ [])
        refine Go.step (fun tt kk => XS.iload X7.here hx rfl (hb hby d4_223) rfl kk) ?_
        show Go _ _ _ _ _ _ _ T7 (mkF m 225 _ [(.int (vl (g 5)))])
        refine Go.step (fun tt kk => XS.bipush X7.here hx rfl (hb hby d4_225) kk) ?_
        show Go _ _ _ _ _ _ _ T7 (mkF m 227 _ [(.int (15 : Int32)), (.int (vl (g 5)))])
        refine Go.step (fun tt kk => XS.iand X7.here hx rfl (hb hby d4_227) rfl kk) ?_
        show Go _ _ _ _ _ _ _ T7 (mkF m 228 _ [(.int ((vl (g 5)) &&& (15 : Int32)))])
        by_cases c228_10 : ((vl (g 5)) &&& (15 : Int32)) = (0 : Int32)
        · refine Go.step (fun tt kk => XS.ifYes X7.here hx rfl (pc0 := 228) (pc' := 233) rfl (hb hby d4_228) rfl ((if0 _ _).trans (teq c228_10).1) (by decide) (by decide) kk) ?_
          show Go _ _ _ _ _ _ _ T7 (mkF m 233 _ [])
          refine Go.step (fun tt kk => XS.aload X7.here hx rfl (hb hby d4_233) rfl rfl kk) ?_
          show Go _ _ _ _ _ _ _ T7 (mkF m 235 _ [(.ref b1)])
          refine Go.step (fun tt kk => XS.iload X7.here hx rfl (hb hby d4_235) rfl kk) ?_
          show Go _ _ _ _ _ _ _ T7 (mkF m 237 _ [(.int (Int32.ofNat (bf + 3))), (.ref b1)])
          refine Go.step (fun tt kk => XS.iload X7.here hx rfl (hb hby d4_237) rfl kk) ?_
          show Go _ _ _ _ _ _ _ T7 (mkF m 239 _ [(.int (vl (g 4))), (.int (Int32.ofNat (bf + 3))), (.ref b1)])
          refine Go.step (fun tt kk => XS.iconst X7.here hx rfl (hb hby d4_239) kk) ?_
          show Go _ _ _ _ _ _ _ T7 (mkF m 240 _ [(.int (2 : Int32)), (.int (vl (g 4))), (.int (Int32.ofNat (bf + 3))), (.ref b1)])
          refine Go.step (fun tt kk => XS.ishl X7.here hx rfl (hb hby d4_240) rfl kk) ?_
          show Go _ _ _ _ _ _ _ T7 (mkF m 241 _ [(.int ((vl (g 4)) <<< ((2 : Int32) &&& 31))), (.int (Int32.ofNat (bf + 3))), (.ref b1)])
          refine Go.step (fun tt kk => XS.iload X7.here hx rfl (hb hby d4_241) rfl kk) ?_
          show Go _ _ _ _ _ _ _ T7 (mkF m 243 _ [(.int (vl (g 5))), (.int ((vl (g 4)) <<< ((2 : Int32) &&& 31))), (.int (Int32.ofNat (bf + 3))), (.ref b1)])
          refine Go.step (fun tt kk => XS.iconst X7.here hx rfl (hb hby d4_243) kk) ?_
          show Go _ _ _ _ _ _ _ T7 (mkF m 244 _ [(.int (4 : Int32)), (.int (vl (g 5))), (.int ((vl (g 4)) <<< ((2 : Int32) &&& 31))), (.int (Int32.ofNat (bf + 3))), (.ref b1)])
          refine Go.step (fun tt kk => XS.ishr X7.here hx rfl (hb hby d4_244) rfl kk) ?_
          show Go _ _ _ _ _ _ _ T7 (mkF m 245 _ [(.int ((vl (g 5)) >>> ((4 : Int32) &&& 31))), (.int ((vl (g 4)) <<< ((2 : Int32) &&& 31))), (.int (Int32.ofNat (bf + 3))), (.ref b1)])
          refine Go.step (fun tt kk => XS.ior X7.here hx rfl (hb hby d4_245) rfl kk) ?_
          show Go _ _ _ _ _ _ _ T7 (mkF m 246 _ [(.int (((vl (g 4)) <<< ((2 : Int32) &&& 31)) ||| ((vl (g 5)) >>> ((4 : Int32) &&& 31)))), (.int (Int32.ofNat (bf + 3))), (.ref b1)])
          refine Go.step (fun tt kk => XS.i2b X7.here hx rfl (hb hby d4_246) rfl kk) ?_
          show Go _ _ _ _ _ _ _ T7 (mkF m 247 _ [(.int ((((vl (g 4)) <<< ((2 : Int32) &&& 31)) ||| ((vl (g 5)) >>> ((4 : Int32) &&& 31))).toInt8.toInt32)), (.int (Int32.ofNat (bf + 3))), (.ref b1)])
          show Go _ _ _ _ _ _ _ T7 (mkF m 247 #[.val (.ref w_), .val (.int (8 : Int32)), .val (.int (Int32.ofNat bf)), .val (.int (2 : Int32)), .val (.ref b1), .val (.int (Int32.ofNat (bf + 3))), .val (.int (4 : Int32)), .val (.int (vl (g 4))), .val (.int (vl (g 5))), .unset] [(.int (bA (vl (g 4)) (vl (g 5)))), (.int (Int32.ofNat (bf + 3))), (.ref b1)])
          obtain ⟨cl11, Ar11, hin11, -⟩ := (V2q c76_4).at (j := (Int32.ofNat (bf + 3))) (k := (bf + 3)) (Int32.toInt_ofNat_of_lt (by omega)) (by omega)
          obtain ⟨T11, h11, X11, e11, W11, st11⟩ := stB X7 hx hZ e7 Ar11 (j := (Int32.ofNat (bf + 3))) hin11 (g := (mkF m 247 #[.val (.ref w_), .val (.int (8 : Int32)), .val (.int (Int32.ofNat bf)), .val (.int (2 : Int32)), .val (.ref b1), .val (.int (Int32.ofNat (bf + 3))), .val (.int (4 : Int32)), .val (.int (vl (g 4))), .val (.int (vl (g 5))), .unset] [(.int (bA (vl (g 4)) (vl (g 5)))), (.int (Int32.ofNat (bf + 3))), (.ref b1)])) rfl rfl (hb hby d4_247)
          rw [(own_nb _)] at W11
          have V11 : AV Z h11 b1 .byte (bf + 4) (upd (upd (upd (upd (fun _ => (.int (0 : Int32))) bf (.int (bA (vl (g 0)) (vl (g (0 + 1)))))) (bf + 1) (.int (bB (vl (g (0 + 1))) (vl (g (0 + 2)))))) (bf + 2) (.int (bC (vl (g (0 + 2))) (vl (g (0 + 3)))))) (bf + 3) (.int (bA (vl (g 4)) (vl (g 5))))) := AV.set (V2q c76_4) (k := (bf + 3)) (Int32.toInt_ofNat_of_lt (by omega)) (by omega) W11
          have N11 := Fr.snoc X11 N7 gn_b1
          have Z11 : n0 ≤ h11.size := Nat.le_trans Z2 (Keep.of_wr W11).1
          have K11 : Keep hI h11 [] := K2.wr W11 (Or.inr sz_b1)
          refine Go.step (st11) ?_
          show Go _ _ _ _ _ _ _ T11 (mkF m 248 _ [])
          refine Go.step (fun tt kk => XS.aload X11.here hx rfl (hb hby d4_248) rfl rfl kk) ?_
          show Go _ _ _ _ _ _ _ T11 (mkF m 250 _ [(.ref b1)])
          have V12 : AV Z h11 b1 .byte (bf + 4) (gv (exI g bf)) := V11.congr fun i hi => by
            by_cases q : i < bf
            · rw [show gv (exI g bf) i = .int 0 from congrArg Value.int (exI_lt q)]
              rw [upd_ne (by omega), upd_ne (by omega), upd_ne (by omega), upd_ne (by omega)]
            · obtain ⟨j, rfl⟩ : ∃ j, i = bf + j := ⟨i - bf, by omega⟩
              rw [show gv (exI g bf) (bf + j) = .int (bt g (j / 3) (j % 3)) from congrArg Value.int (exI_at j)]
              rcases (by omega : j = 0 ∨ j = 1 ∨ j = 2 ∨ j = 3) with rfl | rfl | rfl | rfl
              · rw [upd_ne (by omega), upd_ne (by omega), upd_ne (by omega), upd_at (by omega)]; exact congrArg Value.int rfl
              · rw [upd_ne (by omega), upd_ne (by omega), upd_at (by omega)]; exact congrArg Value.int rfl
              · rw [upd_ne (by omega), upd_at (by omega)]; exact congrArg Value.int rfl
              · rw [upd_at (by omega)]; exact congrArg Value.int rfl
          refine go_retA X11 hx (t := (.array .byte)) hret rfl hlk rfl (hb hby d4_250) ?_ (by decide) (by decide)
          try rw [e11]
          exact ⟨N11, eI ▸ K11, fun _ => ⟨b1, rfl, eI ▸ sz_b1, V12⟩, fun z => absurd (by simp only [not_true_eq_false, not_false_eq_true, and_true, true_and, and_false, false_and, or_true, true_or, or_false, false_or, and_self, or_self, OK4, OK1, OK2, eq_true c76_4, eq_false c215_8, eq_false c220_9, eq_true c228_10]) z⟩
        · refine Go.step (fun tt kk => XS.ifNo X7.here hx rfl (hb hby d4_228) rfl ((if0 _ _).trans (feq c228_10).1) kk) ?_
          show Go _ _ _ _ _ _ _ T7 (mkF m 231 _ [])
          refine Go.step (fun tt kk => XS.aconstNull X7.here hx rfl (hb hby d4_231) kk) ?_
          show Go _ _ _ _ _ _ _ T7 (mkF m 232 _ [.null])
          refine go_retA X7 hx (t := (.array .byte)) hret rfl hlk rfl (hb hby d4_232) ?_ (by decide) (by decide)
          try rw [e7]
          exact ⟨N7, eI ▸ K2, fun z => absurd z (by simp only [not_true_eq_false, not_false_eq_true, and_true, true_and, and_false, false_and, or_true, true_or, or_false, false_or, and_self, or_self, OK4, OK1, OK2, eq_true c76_4, eq_false c215_8, eq_false c220_9, eq_false c228_10]), fun _ => rfl⟩
  · refine Go.step (fun tt kk => XS.ifNo X2.here hx rfl (hb hby d4_76) rfl ((if0 _ _).trans (teq (bi_f c76_4)).2) kk) ?_
    show Go _ _ _ _ _ _ _ T2 (mkF m 79 _ [])
    refine Go.step (fun tt kk => XS.aconstNull X2.here hx rfl (hb hby d4_79) kk) ?_
    show Go _ _ _ _ _ _ _ T2 (mkF m 80 _ [.null])
    refine go_retA X2 hx (t := (.array .byte)) hret rfl hlk rfl (hb hby d4_80) ?_ (by decide) (by decide)
    try rw [e2]
    exact ⟨N2, eI ▸ K2, fun z => absurd z (by simp only [not_true_eq_false, not_false_eq_true, and_true, true_and, and_false, false_and, or_true, true_or, or_false, false_or, and_self, or_self, OK4, OK1, OK2, eq_false c76_4]), fun _ => rfl⟩
theorem ef_rmExM (m : MethodId) (x0 : Addr) (x1 : Int32) (x2 : Int32) : entryFrame m #[(.ref x0), (.int x1), (.int x2)] 10 = mkF m 0 #[.val (.ref x0), .val (.int x1), .val (.int x2), .unset, .unset, .unset, .unset, .unset, .unset, .unset] [] := by first | (simp [entryFrame, mkF, argsToLocals, Value.category]; done) | rfl
theorem d4_6 : decode method_6_code 6 = .ok (.aconst_null, 1) := by decide +kernel
theorem d4_7 : decode method_6_code 7 = .ok (.areturn, 1) := by decide +kernel
set_option maxRecDepth 65536 in
set_option maxHeartbeats 40000000 in
theorem rmExM (l : Launch) (Z : State) (a0 : Array Value) (hw : ∀ d ∈ tables_1, d.before a0 Z = true) (ws : List Jvm.Cond) (w_ : Addr) (x z : Int32) (h0 : Heap) (n0 : Nat) (Z0 : n0 ≤ h0.size) (hm : ¬ (x % (4 : Int32)) = (0 : Int32)) :
    Ctr l Z (⟨"com/example/sharks/sharks/StandardBase64DecodePinLaw", "expected", "([CII)[B"⟩ : MethodName) method_6_code 10 (some (.array .byte)) ws ({ frames := 0, cells := 0, slots := 0, locals := 0 } : Room) 0 0 #[(.ref w_), (.int x), (.int z)] h0 (fun v h L => v = some .null ∧ L = [] ∧ h = h0) := by
  refine Ctr.mk (plainFor_of_name pn_0) fun p e s m below meth c T0 X0 C e0 => go_cast (ef_rmExM m w_ x z) ?_
  have N0 := Fr.nil n0
  obtain ⟨hx, hZ, hby, hml, hown, hnm, hret, hlk⟩ := C
  show Go _ _ _ _ _ _ _ T0 (mkF m 0 #[.val (.ref w_), .val (.int x), .val (.int z), .unset, .unset, .unset, .unset, .unset, .unset, .unset] [])
  refine Go.step (fun tt kk => XS.iloadN X0.here hx rfl (hb hby d4_0) rfl kk) ?_
  show Go _ _ _ _ _ _ _ T0 (mkF m 1 _ [(.int x)])
  refine Go.step (fun tt kk => XS.iconst X0.here hx rfl (hb hby d4_1) kk) ?_
  show Go _ _ _ _ _ _ _ T0 (mkF m 2 _ [(.int (4 : Int32)), (.int x)])
  refine Go.step (fun tt kk => iremM X0 hx rfl (hb hby d4_2) rfl (by decide) kk) ?_
  show Go _ _ _ _ _ _ _ T0 (mkF m 3 _ [(.int (x % (4 : Int32)))])
  refine Go.step (fun tt kk => XS.ifNo X0.here hx rfl (hb hby d4_3) rfl ((if0 _ _).trans (feq hm).1) kk) ?_
  show Go _ _ _ _ _ _ _ T0 (mkF m 6 _ [])
  refine Go.step (fun tt kk => XS.aconstNull X0.here hx rfl (hb hby d4_6) kk) ?_
  show Go _ _ _ _ _ _ _ T0 (mkF m 7 _ [.null])
  refine go_retA X0 hx (t := (.array .byte)) hret rfl hlk rfl (hb hby d4_7) ?_ (by decide) (by decide)
  try rw [e0]
  exact ⟨rfl, rfl, rfl⟩
theorem ef_rmEx0 (m : MethodId) (x0 : Addr) (x1 : Int32) (x2 : Int32) : entryFrame m #[(.ref x0), (.int x1), (.int x2)] 10 = mkF m 0 #[.val (.ref x0), .val (.int x1), .val (.int x2), .unset, .unset, .unset, .unset, .unset, .unset, .unset] [] := by first | (simp [entryFrame, mkF, argsToLocals, Value.category]; done) | rfl
theorem d4_12 : decode method_6_code 12 = .ok (.iload_n 2, 1) := by decide +kernel
theorem d4_13 : decode method_6_code 13 = .ok (.newarray .byte, 2) := by decide +kernel
theorem d4_15 : decode method_6_code 15 = .ok (.areturn, 1) := by decide +kernel
set_option maxRecDepth 65536 in
set_option maxHeartbeats 40000000 in
theorem rmEx0 (l : Launch) (Z : State) (a0 : Array Value) (hw : ∀ d ∈ tables_1, d.before a0 Z = true) (ws : List Jvm.Cond) (w_ : Addr) (bf : Nat) (g : Nat → Int32) (h0 : Heap) (n0 : Nat) (Z0 : n0 ≤ h0.size) (hbf : bf ≤ 3) :
    Ctr l Z (⟨"com/example/sharks/sharks/StandardBase64DecodePinLaw", "expected", "([CII)[B"⟩ : MethodName) method_6_code 10 (some (.array .byte)) ws ({ frames := 0, cells := 1, slots := 9, locals := 0 } : Room) 1 9 #[(.ref w_), (.int (0 : Int32)), (.int (Int32.ofNat bf))] h0 (fun v h L => ∃ b, v = some (.ref b) ∧ Fr n0 L ∧ Keep h0 h [] ∧ h0.size ≤ b ∧ AV Z h b .byte bf (gv (exI g bf))) := by
  refine Ctr.mk (plainFor_of_name pn_0) fun p e s m below meth c T0 X0 C e0 => go_cast (ef_rmEx0 m w_ (0 : Int32) (Int32.ofNat bf)) ?_
  have N0 := Fr.nil n0
  obtain ⟨hx, hZ, hby, hml, hown, hnm, hret, hlk⟩ := C
  obtain ⟨hI, eI⟩ : ∃ z, z = h0 := ⟨_, rfl⟩
  have K0 : Keep hI h0 [] := by rw [eI]; exact Keep.refl _ _
  show Go _ _ _ _ _ _ _ T0 (mkF m 0 #[.val (.ref w_), .val (.int (0 : Int32)), .val (.int (Int32.ofNat bf)), .unset, .unset, .unset, .unset, .unset, .unset, .unset] [])
  refine Go.step (fun tt kk => XS.iloadN X0.here hx rfl (hb hby d4_0) rfl kk) ?_
  show Go _ _ _ _ _ _ _ T0 (mkF m 1 _ [(.int (0 : Int32))])
  refine Go.step (fun tt kk => XS.iconst X0.here hx rfl (hb hby d4_1) kk) ?_
  show Go _ _ _ _ _ _ _ T0 (mkF m 2 _ [(.int (4 : Int32)), (.int (0 : Int32))])
  refine Go.step (fun tt kk => iremM X0 hx rfl (hb hby d4_2) rfl (by decide) kk) ?_
  show Go _ _ _ _ _ _ _ T0 (mkF m 3 _ [(.int ((0 : Int32) % (4 : Int32)))])
  refine Go.step (fun tt kk => XS.ifYes X0.here hx rfl (pc0 := 3) (pc' := 8) rfl (hb hby d4_3) rfl ((if0 _ _).trans (teq (by decide)).1) (by decide) (by decide) kk) ?_
  show Go _ _ _ _ _ _ _ T0 (mkF m 8 _ [])
  refine Go.step (fun tt kk => XS.iloadN X0.here hx rfl (hb hby d4_8) rfl kk) ?_
  show Go _ _ _ _ _ _ _ T0 (mkF m 9 _ [(.int (0 : Int32))])
  refine Go.step (fun tt kk => XS.ifNo X0.here hx rfl (hb hby d4_9) rfl ((if0 _ _).trans (teq (by decide)).2) kk) ?_
  show Go _ _ _ _ _ _ _ T0 (mkF m 12 _ [])
  refine Go.step (fun tt kk => XS.iloadN X0.here hx rfl (hb hby d4_12) rfl kk) ?_
  show Go _ _ _ _ _ _ _ T0 (mkF m 13 _ [(.int (Int32.ofNat bf))])
  obtain ⟨T1, h1, k1, X1, e1, E1, A1, EA1, st1⟩ := newPE X0 hx hZ (hw _ (List.mem_of_getElem? (i := 20) rfl)) e0 (g := (mkF m 13 #[.val (.ref w_), .val (.int (0 : Int32)), .val (.int (Int32.ofNat bf)), .unset, .unset, .unset, .unset, .unset, .unset, .unset] [(.int (Int32.ofNat bf))])) rfl (hb hby d4_13) rfl (own_nn bf (by omega)) (cap := 9) (by rw [clamp_of (k := bf) (Int32.toInt_ofNat_of_lt (by omega))]; omega) (by decide) (by decide) (by decide) (ad := "[B") rfl
  obtain ⟨b1, g1⟩ : ∃ z, z = h0.size := ⟨_, rfl⟩
  rw [← g1] at A1 EA1 st1
  have gn_b1 : n0 ≤ b1 := Nat.le_trans Z0 (Nat.le_of_eq g1.symm)
  have sz_b1 : hI.size ≤ b1 := Nat.le_trans K0.1 (Nat.le_of_eq g1.symm)
  have Z1 : n0 ≤ h1.size := Nat.le_trans Z0 E1.1
  have K1 : Keep hI h1 [] := K0.ext E1
  have V1 : AV Z h1 b1 .byte bf (fun _ => (.int (0 : Int32))) := AV.new A1 (Int32.toInt_ofNat_of_lt (by omega))
  refine Go.step (st1) ?_
  show Go _ _ _ _ _ _ _ T1 (mkF m 15 _ [(.ref b1)])
  refine go_retA X1 hx (t := (.array .byte)) hret rfl hlk rfl (hb hby d4_15) ?_ (by decide) (by decide)
  try rw [e1]
  exact ⟨b1, rfl, N0, eI ▸ K1, eI ▸ sz_b1, V1.congr fun i hi => (congrArg Value.int (exI_lt hi)).symm⟩
theorem ef_rmEq (m : MethodId) (x0 : Addr) (x1 : Addr) (x2 : Int32) : entryFrame m #[(.ref x0), (.ref x1), (.int x2)] 3 = mkF m 0 #[.val (.ref x0), .val (.ref x1), .val (.int x2)] [] := by first | (simp [entryFrame, mkF, argsToLocals, Value.category]; done) | rfl
theorem d6_0 : decode method_7_code 0 = .ok (.iload_n 2, 1) := by decide +kernel
theorem d6_1 : decode method_7_code 1 = .ok (.aload_n 1, 1) := by decide +kernel
theorem d6_2 : decode method_7_code 2 = .ok (.arraylength, 1) := by decide +kernel
theorem d6_3 : decode method_7_code 3 = .ok (.if_icmp .ge 12, 3) := by decide +kernel
theorem d6_6 : decode method_7_code 6 = .ok (.aload_n 0, 1) := by decide +kernel
theorem d6_7 : decode method_7_code 7 = .ok (.iload_n 2, 1) := by decide +kernel
theorem d6_8 : decode method_7_code 8 = .ok (.baload, 1) := by decide +kernel
theorem d6_9 : decode method_7_code 9 = .ok (.aload_n 1, 1) := by decide +kernel
theorem d6_10 : decode method_7_code 10 = .ok (.iload_n 2, 1) := by decide +kernel
theorem d6_11 : decode method_7_code 11 = .ok (.baload, 1) := by decide +kernel
theorem d6_12 : decode method_7_code 12 = .ok (.if_icmp .ne 7, 3) := by decide +kernel
theorem d6_15 : decode method_7_code 15 = .ok (.iconst 1, 1) := by decide +kernel
theorem d6_16 : decode method_7_code 16 = .ok (.goto 4, 3) := by decide +kernel
theorem d6_20 : decode method_7_code 20 = .ok (.ireturn, 1) := by decide +kernel
set_option maxRecDepth 65536 in
set_option maxHeartbeats 40000000 in
theorem rmEq (l : Launch) (Z : State) (a0 : Array Value) (hw : ∀ d ∈ tables_1, d.before a0 Z = true) (ws : List Jvm.Cond) (a b : Addr) (i n : Nat) (u : Nat → Int32) (h0 : Heap) (n0 : Nat) (Z0 : n0 ≤ h0.size) (hi : i < 100) (hn : n < 100) (V_a : AV Z h0 a .byte n (gv u)) (V_b : AV Z h0 b .byte n (gv u)) :
    Ctr l Z (⟨"com/example/sharks/sharks/StandardBase64DecodePinLaw", "eq", "([B[BI)Z"⟩ : MethodName) method_7_code 3 (some .boolean) ws ({ frames := 0, cells := 0, slots := 0, locals := 0 } : Room) 0 0 #[(.ref a), (.ref b), (.int (Int32.ofNat i))] h0 (fun v h L => v = some (.int (1 : Int32)) ∧ L = [] ∧ h = h0) := by
  refine Ctr.mk (plainFor_of_name pn_0) fun p e s m below meth c T0 X0 C e0 => go_cast (ef_rmEq m a b (Int32.ofNat i)) ?_
  have N0 := Fr.nil n0
  obtain ⟨hx, hZ, hby, hml, hown, hnm, hret, hlk⟩ := C
  show Go _ _ _ _ _ _ _ T0 (mkF m 0 #[.val (.ref a), .val (.ref b), .val (.int (Int32.ofNat i))] [])
  refine Go.step (fun tt kk => XS.iloadN X0.here hx rfl (hb hby d6_0) rfl kk) ?_
  show Go _ _ _ _ _ _ _ T0 (mkF m 1 _ [(.int (Int32.ofNat i))])
  refine Go.step (fun tt kk => XS.aloadN X0.here hx rfl (hb hby d6_1) rfl rfl kk) ?_
  show Go _ _ _ _ _ _ _ T0 (mkF m 2 _ [(.ref b), (.int (Int32.ofNat i))])
  refine Go.step (a_len X0 hx hZ e0 V_b (z := (Int32.ofNat n)) (Int32.toInt_ofNat_of_lt (by omega)) (hb hby d6_2)) ?_
  show Go _ _ _ _ _ _ _ T0 (mkF m 3 _ [(.int (Int32.ofNat n)), (.int (Int32.ofNat i))])
  by_cases c3_1 : (Int32.ofNat i) < (Int32.ofNat n)
  · refine Go.step (fun tt kk => XS.icmpNo X0.here hx rfl (hb hby d6_3) rfl (tlt c3_1).2.1 kk) ?_
    show Go _ _ _ _ _ _ _ T0 (mkF m 6 _ [])
    refine Go.step (fun tt kk => XS.aloadN X0.here hx rfl (hb hby d6_6) rfl rfl kk) ?_
    show Go _ _ _ _ _ _ _ T0 (mkF m 7 _ [(.ref a)])
    refine Go.step (fun tt kk => XS.iloadN X0.here hx rfl (hb hby d6_7) rfl kk) ?_
    show Go _ _ _ _ _ _ _ T0 (mkF m 8 _ [(.int (Int32.ofNat i)), (.ref a)])
    refine Go.step (a_bload X0 hx hZ e0 V_a (k := i) (Int32.toInt_ofNat_of_lt (by omega)) ((own_lt i n (by omega) (by omega)).mp c3_1) (x := (u i)) rfl (hb hby d6_8)) ?_
    show Go _ _ _ _ _ _ _ T0 (mkF m 9 _ [(.int (u i))])
    refine Go.step (fun tt kk => XS.aloadN X0.here hx rfl (hb hby d6_9) rfl rfl kk) ?_
    show Go _ _ _ _ _ _ _ T0 (mkF m 10 _ [(.ref b), (.int (u i))])
    refine Go.step (fun tt kk => XS.iloadN X0.here hx rfl (hb hby d6_10) rfl kk) ?_
    show Go _ _ _ _ _ _ _ T0 (mkF m 11 _ [(.int (Int32.ofNat i)), (.ref b), (.int (u i))])
    refine Go.step (a_bload X0 hx hZ e0 V_b (k := i) (Int32.toInt_ofNat_of_lt (by omega)) ((own_lt i n (by omega) (by omega)).mp c3_1) (x := (u i)) rfl (hb hby d6_11)) ?_
    show Go _ _ _ _ _ _ _ T0 (mkF m 12 _ [(.int (u i)), (.int (u i))])
    refine Go.step (fun tt kk => XS.icmpNo X0.here hx rfl (hb hby d6_12) rfl (teq rfl).2 kk) ?_
    show Go _ _ _ _ _ _ _ T0 (mkF m 15 _ [])
    refine Go.step (fun tt kk => XS.iconst X0.here hx rfl (hb hby d6_15) kk) ?_
    show Go _ _ _ _ _ _ _ T0 (mkF m 16 _ [(.int (1 : Int32))])
    refine Go.step (fun tt kk => XS.goto X0.here hx rfl (pc0 := 16) (pc' := 20) rfl (hb hby d6_16) (by decide) (by decide) kk) ?_
    show Go _ _ _ _ _ _ _ T0 (mkF m 20 _ [(.int (1 : Int32))])
    refine go_retN X0 hx (t := .boolean) hret (by simp) hlk (hb hby d6_20) (w := (1 : Int32)) rfl ?_ (by decide) (by decide)
    try rw [e0]
    exact ⟨rfl, rfl, rfl⟩
  · refine Go.step (fun tt kk => XS.icmpYes X0.here hx rfl (pc0 := 3) (pc' := 15) rfl (hb hby d6_3) rfl (flt c3_1).2.1 (by decide) (by decide) kk) ?_
    show Go _ _ _ _ _ _ _ T0 (mkF m 15 _ [])
    refine Go.step (fun tt kk => XS.iconst X0.here hx rfl (hb hby d6_15) kk) ?_
    show Go _ _ _ _ _ _ _ T0 (mkF m 16 _ [(.int (1 : Int32))])
    refine Go.step (fun tt kk => XS.goto X0.here hx rfl (pc0 := 16) (pc' := 20) rfl (hb hby d6_16) (by decide) (by decide) kk) ?_
    show Go _ _ _ _ _ _ _ T0 (mkF m 20 _ [(.int (1 : Int32))])
    refine go_retN X0 hx (t := .boolean) hret (by simp) hlk (hb hby d6_20) (w := (1 : Int32)) rfl ?_ (by decide) (by decide)
    try rw [e0]
    exact ⟨rfl, rfl, rfl⟩
theorem ef_rmSm (m : MethodId) (x0 : Addr) (x1 : Addr) : entryFrame m #[(.ref x0), (.ref x1)] 2 = mkF m 0 #[.val (.ref x0), .val (.ref x1)] [] := by first | (simp [entryFrame, mkF, argsToLocals, Value.category]; done) | rfl
theorem d5_0 : decode method_8_code 0 = .ok (.aload_n 0, 1) := by decide +kernel
theorem d5_1 : decode method_8_code 1 = .ok (.ifnull 7, 3) := by decide +kernel
theorem d5_4 : decode method_8_code 4 = .ok (.aload_n 1, 1) := by decide +kernel
theorem d5_5 : decode method_8_code 5 = .ok (.ifnonnull 14, 3) := by decide +kernel
theorem d5_19 : decode method_8_code 19 = .ok (.aload_n 0, 1) := by decide +kernel
theorem d5_20 : decode method_8_code 20 = .ok (.arraylength, 1) := by decide +kernel
theorem d5_21 : decode method_8_code 21 = .ok (.aload_n 1, 1) := by decide +kernel
theorem d5_22 : decode method_8_code 22 = .ok (.arraylength, 1) := by decide +kernel
theorem d5_23 : decode method_8_code 23 = .ok (.if_icmp .eq 5, 3) := by decide +kernel
theorem d5_28 : decode method_8_code 28 = .ok (.aload_n 0, 1) := by decide +kernel
theorem d5_29 : decode method_8_code 29 = .ok (.aload_n 1, 1) := by decide +kernel
theorem d5_30 : decode method_8_code 30 = .ok (.iconst 0, 1) := by decide +kernel
theorem pd_3 : parseMethodDescriptor "([B[BI)Z" = some ⟨[(.array .byte), (.array .byte), .int], some .boolean⟩ := by decide +kernel
theorem d5_31 : decode method_8_code 31 = .ok (.invokestatic 38, 3) := by decide +kernel
theorem d5_34 : decode method_8_code 34 = .ok (.ifCond .eq 82, 3) := by decide +kernel
theorem d5_37 : decode method_8_code 37 = .ok (.aload_n 0, 1) := by decide +kernel
theorem d5_38 : decode method_8_code 38 = .ok (.aload_n 1, 1) := by decide +kernel
theorem d5_39 : decode method_8_code 39 = .ok (.iconst 1, 1) := by decide +kernel
theorem d5_40 : decode method_8_code 40 = .ok (.invokestatic 38, 3) := by decide +kernel
theorem d5_43 : decode method_8_code 43 = .ok (.ifCond .eq 73, 3) := by decide +kernel
theorem d5_46 : decode method_8_code 46 = .ok (.aload_n 0, 1) := by decide +kernel
theorem d5_47 : decode method_8_code 47 = .ok (.aload_n 1, 1) := by decide +kernel
theorem d5_48 : decode method_8_code 48 = .ok (.iconst 2, 1) := by decide +kernel
theorem d5_49 : decode method_8_code 49 = .ok (.invokestatic 38, 3) := by decide +kernel
theorem d5_52 : decode method_8_code 52 = .ok (.ifCond .eq 64, 3) := by decide +kernel
theorem d5_55 : decode method_8_code 55 = .ok (.aload_n 0, 1) := by decide +kernel
theorem d5_56 : decode method_8_code 56 = .ok (.aload_n 1, 1) := by decide +kernel
theorem d5_57 : decode method_8_code 57 = .ok (.iconst 3, 1) := by decide +kernel
theorem d5_58 : decode method_8_code 58 = .ok (.invokestatic 38, 3) := by decide +kernel
theorem d5_61 : decode method_8_code 61 = .ok (.ifCond .eq 55, 3) := by decide +kernel
theorem d5_64 : decode method_8_code 64 = .ok (.aload_n 0, 1) := by decide +kernel
theorem d5_65 : decode method_8_code 65 = .ok (.aload_n 1, 1) := by decide +kernel
theorem d5_66 : decode method_8_code 66 = .ok (.iconst 4, 1) := by decide +kernel
theorem d5_67 : decode method_8_code 67 = .ok (.invokestatic 38, 3) := by decide +kernel
theorem d5_70 : decode method_8_code 70 = .ok (.ifCond .eq 46, 3) := by decide +kernel
theorem d5_73 : decode method_8_code 73 = .ok (.aload_n 0, 1) := by decide +kernel
theorem d5_74 : decode method_8_code 74 = .ok (.aload_n 1, 1) := by decide +kernel
theorem d5_75 : decode method_8_code 75 = .ok (.iconst 5, 1) := by decide +kernel
theorem d5_76 : decode method_8_code 76 = .ok (.invokestatic 38, 3) := by decide +kernel
theorem d5_79 : decode method_8_code 79 = .ok (.ifCond .eq 37, 3) := by decide +kernel
theorem d5_82 : decode method_8_code 82 = .ok (.aload_n 0, 1) := by decide +kernel
theorem d5_83 : decode method_8_code 83 = .ok (.aload_n 1, 1) := by decide +kernel
theorem d5_84 : decode method_8_code 84 = .ok (.bipush 6, 2) := by decide +kernel
theorem d5_86 : decode method_8_code 86 = .ok (.invokestatic 38, 3) := by decide +kernel
theorem d5_89 : decode method_8_code 89 = .ok (.ifCond .eq 27, 3) := by decide +kernel
theorem d5_92 : decode method_8_code 92 = .ok (.aload_n 0, 1) := by decide +kernel
theorem d5_93 : decode method_8_code 93 = .ok (.aload_n 1, 1) := by decide +kernel
theorem d5_94 : decode method_8_code 94 = .ok (.bipush 7, 2) := by decide +kernel
theorem d5_96 : decode method_8_code 96 = .ok (.invokestatic 38, 3) := by decide +kernel
theorem d5_99 : decode method_8_code 99 = .ok (.ifCond .eq 17, 3) := by decide +kernel
theorem d5_102 : decode method_8_code 102 = .ok (.aload_n 0, 1) := by decide +kernel
theorem d5_103 : decode method_8_code 103 = .ok (.aload_n 1, 1) := by decide +kernel
theorem d5_104 : decode method_8_code 104 = .ok (.bipush 8, 2) := by decide +kernel
theorem d5_106 : decode method_8_code 106 = .ok (.invokestatic 38, 3) := by decide +kernel
theorem d5_109 : decode method_8_code 109 = .ok (.ifCond .eq 7, 3) := by decide +kernel
theorem d5_112 : decode method_8_code 112 = .ok (.iconst 1, 1) := by decide +kernel
theorem d5_113 : decode method_8_code 113 = .ok (.goto 4, 3) := by decide +kernel
theorem d5_117 : decode method_8_code 117 = .ok (.ireturn, 1) := by decide +kernel
set_option maxRecDepth 65536 in
set_option maxHeartbeats 40000000 in
theorem rmSm (l : Launch) (Z : State) (a0 : Array Value) (hw : ∀ d ∈ tables_1, d.before a0 Z = true) (ws : List Jvm.Cond) (a b : Addr) (n : Nat) (u : Nat → Int32) (h0 : Heap) (n0 : Nat) (Z0 : n0 ≤ h0.size) (hn : n < 100) (V_a : AV Z h0 a .byte n (gv u)) (V_b : AV Z h0 b .byte n (gv u)) :
    Ctr l Z (⟨"com/example/sharks/sharks/StandardBase64DecodePinLaw", "same", "([B[B)Z"⟩ : MethodName) method_8_code 2 (some .boolean) ws ({ frames := 1, cells := 0, slots := 0, locals := 14 } : Room) 0 0 #[(.ref a), (.ref b)] h0 (fun v h L => v = some (.int (1 : Int32)) ∧ Fr n0 L ∧ h = h0) := by
  refine Ctr.mk (plainFor_of_name pn_0) fun p e s m below meth c T0 X0 C e0 => go_cast (ef_rmSm m a b) ?_
  have N0 := Fr.nil n0
  obtain ⟨hx, hZ, hby, hml, hown, hnm, hret, hlk⟩ := C
  show Go _ _ _ _ _ _ _ T0 (mkF m 0 #[.val (.ref a), .val (.ref b)] [])
  refine Go.step (fun tt kk => XS.aloadN X0.here hx rfl (hb hby d5_0) rfl rfl kk) ?_
  show Go _ _ _ _ _ _ _ T0 (mkF m 1 _ [(.ref a)])
  refine Go.step (fun tt kk => XS.ifnullNo X0.here hx rfl (hb hby d5_1) rfl kk) ?_
  show Go _ _ _ _ _ _ _ T0 (mkF m 4 _ [])
  refine Go.step (fun tt kk => XS.aloadN X0.here hx rfl (hb hby d5_4) rfl rfl kk) ?_
  show Go _ _ _ _ _ _ _ T0 (mkF m 5 _ [(.ref b)])
  refine Go.step (fun tt kk => XS.ifnonnullYes X0.here hx rfl (pc0 := 5) (pc' := 19) rfl (hb hby d5_5) rfl (by decide) (by decide) kk) ?_
  show Go _ _ _ _ _ _ _ T0 (mkF m 19 _ [])
  refine Go.step (fun tt kk => XS.aloadN X0.here hx rfl (hb hby d5_19) rfl rfl kk) ?_
  show Go _ _ _ _ _ _ _ T0 (mkF m 20 _ [(.ref a)])
  refine Go.step (a_len X0 hx hZ e0 V_a (z := (Int32.ofNat n)) (Int32.toInt_ofNat_of_lt (by omega)) (hb hby d5_20)) ?_
  show Go _ _ _ _ _ _ _ T0 (mkF m 21 _ [(.int (Int32.ofNat n))])
  refine Go.step (fun tt kk => XS.aloadN X0.here hx rfl (hb hby d5_21) rfl rfl kk) ?_
  show Go _ _ _ _ _ _ _ T0 (mkF m 22 _ [(.ref b), (.int (Int32.ofNat n))])
  refine Go.step (a_len X0 hx hZ e0 V_b (z := (Int32.ofNat n)) (Int32.toInt_ofNat_of_lt (by omega)) (hb hby d5_22)) ?_
  show Go _ _ _ _ _ _ _ T0 (mkF m 23 _ [(.int (Int32.ofNat n)), (.int (Int32.ofNat n))])
  refine Go.step (fun tt kk => XS.icmpYes X0.here hx rfl (pc0 := 23) (pc' := 28) rfl (hb hby d5_23) rfl (teq rfl).1 (by decide) (by decide) kk) ?_
  show Go _ _ _ _ _ _ _ T0 (mkF m 28 _ [])
  refine Go.step (fun tt kk => XS.aloadN X0.here hx rfl (hb hby d5_28) rfl rfl kk) ?_
  show Go _ _ _ _ _ _ _ T0 (mkF m 29 _ [(.ref a)])
  refine Go.step (fun tt kk => XS.aloadN X0.here hx rfl (hb hby d5_29) rfl rfl kk) ?_
  show Go _ _ _ _ _ _ _ T0 (mkF m 30 _ [(.ref b), (.ref a)])
  refine Go.step (fun tt kk => XS.iconst X0.here hx rfl (hb hby d5_30) kk) ?_
  show Go _ _ _ _ _ _ _ T0 (mkF m 31 _ [(.int (0 : Int32)), (.ref b), (.ref a)])
  obtain ⟨v1, T1, L1, X1, q1, st1⟩ := c_static X0 hx hZ hown (y := (⟨"com/example/sharks/sharks/StandardBase64DecodePinLaw", "eq", "([B[BI)Z"⟩ : MethodName)) (hw _ (List.mem_of_getElem? (i := 21) rfl)) (hw _ (List.mem_of_getElem? (i := 22) rfl)) (hw _ (List.mem_of_getElem? (i := 4) rfl)) (hw _ (List.mem_of_getElem? (i := 23) rfl)) (by decide) (argsL := [(.ref a), (.ref b), (.int (0 : Int32))]) (rest := []) (rmEq l Z a0 hw [] a b 0 n u h0 n0 Z0 (by omega) (by omega) V_a V_b) e0 pd_3 rfl (by rw [hml]; rfl) (W := 0) (by show 2 * 0 + _ ≤ _; exact Nat.le_of_eq rfl) (by decide) (by decide) (by decide) (by decide) (hb hby d5_31) (Ls := #[.val (.ref a), .val (.ref b)])
  obtain ⟨rfl, rfl, e1⟩ := q1
  have N1 := Fr.app N0 (Fr.nil n0)
  refine Go.step (st1) ?_
  show Go _ _ _ _ _ _ _ T1 (mkF m 34 _ [(.int (1 : Int32))])
  refine Go.step (fun tt kk => XS.ifNo X1.here hx rfl (hb hby d5_34) rfl ((if0 _ _).trans (feq (by decide)).1) kk) ?_
  show Go _ _ _ _ _ _ _ T1 (mkF m 37 _ [])
  refine Go.step (fun tt kk => XS.aloadN X1.here hx rfl (hb hby d5_37) rfl rfl kk) ?_
  show Go _ _ _ _ _ _ _ T1 (mkF m 38 _ [(.ref a)])
  refine Go.step (fun tt kk => XS.aloadN X1.here hx rfl (hb hby d5_38) rfl rfl kk) ?_
  show Go _ _ _ _ _ _ _ T1 (mkF m 39 _ [(.ref b), (.ref a)])
  refine Go.step (fun tt kk => XS.iconst X1.here hx rfl (hb hby d5_39) kk) ?_
  show Go _ _ _ _ _ _ _ T1 (mkF m 40 _ [(.int (1 : Int32)), (.ref b), (.ref a)])
  obtain ⟨v2, T2, L2, X2, q2, st2⟩ := c_static X1 hx hZ hown (y := (⟨"com/example/sharks/sharks/StandardBase64DecodePinLaw", "eq", "([B[BI)Z"⟩ : MethodName)) (hw _ (List.mem_of_getElem? (i := 21) rfl)) (hw _ (List.mem_of_getElem? (i := 22) rfl)) (hw _ (List.mem_of_getElem? (i := 4) rfl)) (hw _ (List.mem_of_getElem? (i := 23) rfl)) (by decide) (argsL := [(.ref a), (.ref b), (.int (1 : Int32))]) (rest := []) (rmEq l Z a0 hw [] a b 1 n u h0 n0 Z0 (by omega) (by omega) V_a V_b) e1 pd_3 rfl (by rw [hml]; rfl) (W := 0) (by show 2 * 0 + _ ≤ _; exact Nat.le_of_eq rfl) (by decide) (by decide) (by decide) (by decide) (hb hby d5_40) (Ls := #[.val (.ref a), .val (.ref b)])
  obtain ⟨rfl, rfl, e2⟩ := q2
  have N2 := Fr.app N1 (Fr.nil n0)
  refine Go.step (st2) ?_
  show Go _ _ _ _ _ _ _ T2 (mkF m 43 _ [(.int (1 : Int32))])
  refine Go.step (fun tt kk => XS.ifNo X2.here hx rfl (hb hby d5_43) rfl ((if0 _ _).trans (feq (by decide)).1) kk) ?_
  show Go _ _ _ _ _ _ _ T2 (mkF m 46 _ [])
  refine Go.step (fun tt kk => XS.aloadN X2.here hx rfl (hb hby d5_46) rfl rfl kk) ?_
  show Go _ _ _ _ _ _ _ T2 (mkF m 47 _ [(.ref a)])
  refine Go.step (fun tt kk => XS.aloadN X2.here hx rfl (hb hby d5_47) rfl rfl kk) ?_
  show Go _ _ _ _ _ _ _ T2 (mkF m 48 _ [(.ref b), (.ref a)])
  refine Go.step (fun tt kk => XS.iconst X2.here hx rfl (hb hby d5_48) kk) ?_
  show Go _ _ _ _ _ _ _ T2 (mkF m 49 _ [(.int (2 : Int32)), (.ref b), (.ref a)])
  obtain ⟨v3, T3, L3, X3, q3, st3⟩ := c_static X2 hx hZ hown (y := (⟨"com/example/sharks/sharks/StandardBase64DecodePinLaw", "eq", "([B[BI)Z"⟩ : MethodName)) (hw _ (List.mem_of_getElem? (i := 21) rfl)) (hw _ (List.mem_of_getElem? (i := 22) rfl)) (hw _ (List.mem_of_getElem? (i := 4) rfl)) (hw _ (List.mem_of_getElem? (i := 23) rfl)) (by decide) (argsL := [(.ref a), (.ref b), (.int (2 : Int32))]) (rest := []) (rmEq l Z a0 hw [] a b 2 n u h0 n0 Z0 (by omega) (by omega) V_a V_b) e2 pd_3 rfl (by rw [hml]; rfl) (W := 0) (by show 2 * 0 + _ ≤ _; exact Nat.le_of_eq rfl) (by decide) (by decide) (by decide) (by decide) (hb hby d5_49) (Ls := #[.val (.ref a), .val (.ref b)])
  obtain ⟨rfl, rfl, e3⟩ := q3
  have N3 := Fr.app N2 (Fr.nil n0)
  refine Go.step (st3) ?_
  show Go _ _ _ _ _ _ _ T3 (mkF m 52 _ [(.int (1 : Int32))])
  refine Go.step (fun tt kk => XS.ifNo X3.here hx rfl (hb hby d5_52) rfl ((if0 _ _).trans (feq (by decide)).1) kk) ?_
  show Go _ _ _ _ _ _ _ T3 (mkF m 55 _ [])
  refine Go.step (fun tt kk => XS.aloadN X3.here hx rfl (hb hby d5_55) rfl rfl kk) ?_
  show Go _ _ _ _ _ _ _ T3 (mkF m 56 _ [(.ref a)])
  refine Go.step (fun tt kk => XS.aloadN X3.here hx rfl (hb hby d5_56) rfl rfl kk) ?_
  show Go _ _ _ _ _ _ _ T3 (mkF m 57 _ [(.ref b), (.ref a)])
  refine Go.step (fun tt kk => XS.iconst X3.here hx rfl (hb hby d5_57) kk) ?_
  show Go _ _ _ _ _ _ _ T3 (mkF m 58 _ [(.int (3 : Int32)), (.ref b), (.ref a)])
  obtain ⟨v4, T4, L4, X4, q4, st4⟩ := c_static X3 hx hZ hown (y := (⟨"com/example/sharks/sharks/StandardBase64DecodePinLaw", "eq", "([B[BI)Z"⟩ : MethodName)) (hw _ (List.mem_of_getElem? (i := 21) rfl)) (hw _ (List.mem_of_getElem? (i := 22) rfl)) (hw _ (List.mem_of_getElem? (i := 4) rfl)) (hw _ (List.mem_of_getElem? (i := 23) rfl)) (by decide) (argsL := [(.ref a), (.ref b), (.int (3 : Int32))]) (rest := []) (rmEq l Z a0 hw [] a b 3 n u h0 n0 Z0 (by omega) (by omega) V_a V_b) e3 pd_3 rfl (by rw [hml]; rfl) (W := 0) (by show 2 * 0 + _ ≤ _; exact Nat.le_of_eq rfl) (by decide) (by decide) (by decide) (by decide) (hb hby d5_58) (Ls := #[.val (.ref a), .val (.ref b)])
  obtain ⟨rfl, rfl, e4⟩ := q4
  have N4 := Fr.app N3 (Fr.nil n0)
  refine Go.step (st4) ?_
  show Go _ _ _ _ _ _ _ T4 (mkF m 61 _ [(.int (1 : Int32))])
  refine Go.step (fun tt kk => XS.ifNo X4.here hx rfl (hb hby d5_61) rfl ((if0 _ _).trans (feq (by decide)).1) kk) ?_
  show Go _ _ _ _ _ _ _ T4 (mkF m 64 _ [])
  refine Go.step (fun tt kk => XS.aloadN X4.here hx rfl (hb hby d5_64) rfl rfl kk) ?_
  show Go _ _ _ _ _ _ _ T4 (mkF m 65 _ [(.ref a)])
  refine Go.step (fun tt kk => XS.aloadN X4.here hx rfl (hb hby d5_65) rfl rfl kk) ?_
  show Go _ _ _ _ _ _ _ T4 (mkF m 66 _ [(.ref b), (.ref a)])
  refine Go.step (fun tt kk => XS.iconst X4.here hx rfl (hb hby d5_66) kk) ?_
  show Go _ _ _ _ _ _ _ T4 (mkF m 67 _ [(.int (4 : Int32)), (.ref b), (.ref a)])
  obtain ⟨v5, T5, L5, X5, q5, st5⟩ := c_static X4 hx hZ hown (y := (⟨"com/example/sharks/sharks/StandardBase64DecodePinLaw", "eq", "([B[BI)Z"⟩ : MethodName)) (hw _ (List.mem_of_getElem? (i := 21) rfl)) (hw _ (List.mem_of_getElem? (i := 22) rfl)) (hw _ (List.mem_of_getElem? (i := 4) rfl)) (hw _ (List.mem_of_getElem? (i := 23) rfl)) (by decide) (argsL := [(.ref a), (.ref b), (.int (4 : Int32))]) (rest := []) (rmEq l Z a0 hw [] a b 4 n u h0 n0 Z0 (by omega) (by omega) V_a V_b) e4 pd_3 rfl (by rw [hml]; rfl) (W := 0) (by show 2 * 0 + _ ≤ _; exact Nat.le_of_eq rfl) (by decide) (by decide) (by decide) (by decide) (hb hby d5_67) (Ls := #[.val (.ref a), .val (.ref b)])
  obtain ⟨rfl, rfl, e5⟩ := q5
  have N5 := Fr.app N4 (Fr.nil n0)
  refine Go.step (st5) ?_
  show Go _ _ _ _ _ _ _ T5 (mkF m 70 _ [(.int (1 : Int32))])
  refine Go.step (fun tt kk => XS.ifNo X5.here hx rfl (hb hby d5_70) rfl ((if0 _ _).trans (feq (by decide)).1) kk) ?_
  show Go _ _ _ _ _ _ _ T5 (mkF m 73 _ [])
  refine Go.step (fun tt kk => XS.aloadN X5.here hx rfl (hb hby d5_73) rfl rfl kk) ?_
  show Go _ _ _ _ _ _ _ T5 (mkF m 74 _ [(.ref a)])
  refine Go.step (fun tt kk => XS.aloadN X5.here hx rfl (hb hby d5_74) rfl rfl kk) ?_
  show Go _ _ _ _ _ _ _ T5 (mkF m 75 _ [(.ref b), (.ref a)])
  refine Go.step (fun tt kk => XS.iconst X5.here hx rfl (hb hby d5_75) kk) ?_
  show Go _ _ _ _ _ _ _ T5 (mkF m 76 _ [(.int (5 : Int32)), (.ref b), (.ref a)])
  obtain ⟨v6, T6, L6, X6, q6, st6⟩ := c_static X5 hx hZ hown (y := (⟨"com/example/sharks/sharks/StandardBase64DecodePinLaw", "eq", "([B[BI)Z"⟩ : MethodName)) (hw _ (List.mem_of_getElem? (i := 21) rfl)) (hw _ (List.mem_of_getElem? (i := 22) rfl)) (hw _ (List.mem_of_getElem? (i := 4) rfl)) (hw _ (List.mem_of_getElem? (i := 23) rfl)) (by decide) (argsL := [(.ref a), (.ref b), (.int (5 : Int32))]) (rest := []) (rmEq l Z a0 hw [] a b 5 n u h0 n0 Z0 (by omega) (by omega) V_a V_b) e5 pd_3 rfl (by rw [hml]; rfl) (W := 0) (by show 2 * 0 + _ ≤ _; exact Nat.le_of_eq rfl) (by decide) (by decide) (by decide) (by decide) (hb hby d5_76) (Ls := #[.val (.ref a), .val (.ref b)])
  obtain ⟨rfl, rfl, e6⟩ := q6
  have N6 := Fr.app N5 (Fr.nil n0)
  refine Go.step (st6) ?_
  show Go _ _ _ _ _ _ _ T6 (mkF m 79 _ [(.int (1 : Int32))])
  refine Go.step (fun tt kk => XS.ifNo X6.here hx rfl (hb hby d5_79) rfl ((if0 _ _).trans (feq (by decide)).1) kk) ?_
  show Go _ _ _ _ _ _ _ T6 (mkF m 82 _ [])
  refine Go.step (fun tt kk => XS.aloadN X6.here hx rfl (hb hby d5_82) rfl rfl kk) ?_
  show Go _ _ _ _ _ _ _ T6 (mkF m 83 _ [(.ref a)])
  refine Go.step (fun tt kk => XS.aloadN X6.here hx rfl (hb hby d5_83) rfl rfl kk) ?_
  show Go _ _ _ _ _ _ _ T6 (mkF m 84 _ [(.ref b), (.ref a)])
  refine Go.step (fun tt kk => XS.bipush X6.here hx rfl (hb hby d5_84) kk) ?_
  show Go _ _ _ _ _ _ _ T6 (mkF m 86 _ [(.int (6 : Int32)), (.ref b), (.ref a)])
  obtain ⟨v7, T7, L7, X7, q7, st7⟩ := c_static X6 hx hZ hown (y := (⟨"com/example/sharks/sharks/StandardBase64DecodePinLaw", "eq", "([B[BI)Z"⟩ : MethodName)) (hw _ (List.mem_of_getElem? (i := 21) rfl)) (hw _ (List.mem_of_getElem? (i := 22) rfl)) (hw _ (List.mem_of_getElem? (i := 4) rfl)) (hw _ (List.mem_of_getElem? (i := 23) rfl)) (by decide) (argsL := [(.ref a), (.ref b), (.int (6 : Int32))]) (rest := []) (rmEq l Z a0 hw [] a b 6 n u h0 n0 Z0 (by omega) (by omega) V_a V_b) e6 pd_3 rfl (by rw [hml]; rfl) (W := 0) (by show 2 * 0 + _ ≤ _; exact Nat.le_of_eq rfl) (by decide) (by decide) (by decide) (by decide) (hb hby d5_86) (Ls := #[.val (.ref a), .val (.ref b)])
  obtain ⟨rfl, rfl, e7⟩ := q7
  have N7 := Fr.app N6 (Fr.nil n0)
  refine Go.step (st7) ?_
  show Go _ _ _ _ _ _ _ T7 (mkF m 89 _ [(.int (1 : Int32))])
  refine Go.step (fun tt kk => XS.ifNo X7.here hx rfl (hb hby d5_89) rfl ((if0 _ _).trans (feq (by decide)).1) kk) ?_
  show Go _ _ _ _ _ _ _ T7 (mkF m 92 _ [])
  refine Go.step (fun tt kk => XS.aloadN X7.here hx rfl (hb hby d5_92) rfl rfl kk) ?_
  show Go _ _ _ _ _ _ _ T7 (mkF m 93 _ [(.ref a)])
  refine Go.step (fun tt kk => XS.aloadN X7.here hx rfl (hb hby d5_93) rfl rfl kk) ?_
  show Go _ _ _ _ _ _ _ T7 (mkF m 94 _ [(.ref b), (.ref a)])
  refine Go.step (fun tt kk => XS.bipush X7.here hx rfl (hb hby d5_94) kk) ?_
  show Go _ _ _ _ _ _ _ T7 (mkF m 96 _ [(.int (7 : Int32)), (.ref b), (.ref a)])
  obtain ⟨v8, T8, L8, X8, q8, st8⟩ := c_static X7 hx hZ hown (y := (⟨"com/example/sharks/sharks/StandardBase64DecodePinLaw", "eq", "([B[BI)Z"⟩ : MethodName)) (hw _ (List.mem_of_getElem? (i := 21) rfl)) (hw _ (List.mem_of_getElem? (i := 22) rfl)) (hw _ (List.mem_of_getElem? (i := 4) rfl)) (hw _ (List.mem_of_getElem? (i := 23) rfl)) (by decide) (argsL := [(.ref a), (.ref b), (.int (7 : Int32))]) (rest := []) (rmEq l Z a0 hw [] a b 7 n u h0 n0 Z0 (by omega) (by omega) V_a V_b) e7 pd_3 rfl (by rw [hml]; rfl) (W := 0) (by show 2 * 0 + _ ≤ _; exact Nat.le_of_eq rfl) (by decide) (by decide) (by decide) (by decide) (hb hby d5_96) (Ls := #[.val (.ref a), .val (.ref b)])
  obtain ⟨rfl, rfl, e8⟩ := q8
  have N8 := Fr.app N7 (Fr.nil n0)
  refine Go.step (st8) ?_
  show Go _ _ _ _ _ _ _ T8 (mkF m 99 _ [(.int (1 : Int32))])
  refine Go.step (fun tt kk => XS.ifNo X8.here hx rfl (hb hby d5_99) rfl ((if0 _ _).trans (feq (by decide)).1) kk) ?_
  show Go _ _ _ _ _ _ _ T8 (mkF m 102 _ [])
  refine Go.step (fun tt kk => XS.aloadN X8.here hx rfl (hb hby d5_102) rfl rfl kk) ?_
  show Go _ _ _ _ _ _ _ T8 (mkF m 103 _ [(.ref a)])
  refine Go.step (fun tt kk => XS.aloadN X8.here hx rfl (hb hby d5_103) rfl rfl kk) ?_
  show Go _ _ _ _ _ _ _ T8 (mkF m 104 _ [(.ref b), (.ref a)])
  refine Go.step (fun tt kk => XS.bipush X8.here hx rfl (hb hby d5_104) kk) ?_
  show Go _ _ _ _ _ _ _ T8 (mkF m 106 _ [(.int (8 : Int32)), (.ref b), (.ref a)])
  obtain ⟨v9, T9, L9, X9, q9, st9⟩ := c_static X8 hx hZ hown (y := (⟨"com/example/sharks/sharks/StandardBase64DecodePinLaw", "eq", "([B[BI)Z"⟩ : MethodName)) (hw _ (List.mem_of_getElem? (i := 21) rfl)) (hw _ (List.mem_of_getElem? (i := 22) rfl)) (hw _ (List.mem_of_getElem? (i := 4) rfl)) (hw _ (List.mem_of_getElem? (i := 23) rfl)) (by decide) (argsL := [(.ref a), (.ref b), (.int (8 : Int32))]) (rest := []) (rmEq l Z a0 hw [] a b 8 n u h0 n0 Z0 (by omega) (by omega) V_a V_b) e8 pd_3 rfl (by rw [hml]; rfl) (W := 0) (by show 2 * 0 + _ ≤ _; exact Nat.le_of_eq rfl) (by decide) (by decide) (by decide) (by decide) (hb hby d5_106) (Ls := #[.val (.ref a), .val (.ref b)])
  obtain ⟨rfl, rfl, e9⟩ := q9
  have N9 := Fr.app N8 (Fr.nil n0)
  refine Go.step (st9) ?_
  show Go _ _ _ _ _ _ _ T9 (mkF m 109 _ [(.int (1 : Int32))])
  refine Go.step (fun tt kk => XS.ifNo X9.here hx rfl (hb hby d5_109) rfl ((if0 _ _).trans (feq (by decide)).1) kk) ?_
  show Go _ _ _ _ _ _ _ T9 (mkF m 112 _ [])
  refine Go.step (fun tt kk => XS.iconst X9.here hx rfl (hb hby d5_112) kk) ?_
  show Go _ _ _ _ _ _ _ T9 (mkF m 113 _ [(.int (1 : Int32))])
  refine Go.step (fun tt kk => XS.goto X9.here hx rfl (pc0 := 113) (pc' := 117) rfl (hb hby d5_113) (by decide) (by decide) kk) ?_
  show Go _ _ _ _ _ _ _ T9 (mkF m 117 _ [(.int (1 : Int32))])
  refine go_retN X9 hx (t := .boolean) hret (by simp) hlk (hb hby d5_117) (w := (1 : Int32)) rfl ?_ (by decide) (by decide)
  try rw [e9]
  exact ⟨rfl, N9, rfl⟩
theorem ef_rmSn (m : MethodId)  : entryFrame m #[.null, .null] 2 = mkF m 0 #[.val .null, .val .null] [] := by first | (simp [entryFrame, mkF, argsToLocals, Value.category]; done) | rfl
theorem d5_8 : decode method_8_code 8 = .ok (.aload_n 0, 1) := by decide +kernel
theorem d5_9 : decode method_8_code 9 = .ok (.aload_n 1, 1) := by decide +kernel
theorem d5_10 : decode method_8_code 10 = .ok (.if_acmp .ne 7, 3) := by decide +kernel
theorem d5_13 : decode method_8_code 13 = .ok (.iconst 1, 1) := by decide +kernel
theorem d5_14 : decode method_8_code 14 = .ok (.goto 4, 3) := by decide +kernel
theorem d5_18 : decode method_8_code 18 = .ok (.ireturn, 1) := by decide +kernel
set_option maxRecDepth 65536 in
set_option maxHeartbeats 40000000 in
theorem rmSn (l : Launch) (Z : State) (a0 : Array Value) (hw : ∀ d ∈ tables_1, d.before a0 Z = true) (ws : List Jvm.Cond)  (h0 : Heap) (n0 : Nat) (Z0 : n0 ≤ h0.size)  :
    Ctr l Z (⟨"com/example/sharks/sharks/StandardBase64DecodePinLaw", "same", "([B[B)Z"⟩ : MethodName) method_8_code 2 (some .boolean) ws ({ frames := 0, cells := 0, slots := 0, locals := 0 } : Room) 0 0 #[.null, .null] h0 (fun v h L => v = some (.int (1 : Int32)) ∧ Fr n0 L ∧ h = h0) := by
  refine Ctr.mk (plainFor_of_name pn_0) fun p e s m below meth c T0 X0 C e0 => go_cast (ef_rmSn m ) ?_
  have N0 := Fr.nil n0
  obtain ⟨hx, hZ, hby, hml, hown, hnm, hret, hlk⟩ := C
  show Go _ _ _ _ _ _ _ T0 (mkF m 0 #[.val .null, .val .null] [])
  refine Go.step (fun tt kk => XS.aloadN X0.here hx rfl (hb hby d5_0) rfl rfl kk) ?_
  show Go _ _ _ _ _ _ _ T0 (mkF m 1 _ [.null])
  refine Go.step (fun tt kk => XS.ifnullYes X0.here hx rfl (pc0 := 1) (pc' := 8) rfl (hb hby d5_1) rfl (by decide) (by decide) kk) ?_
  show Go _ _ _ _ _ _ _ T0 (mkF m 8 _ [])
  refine Go.step (fun tt kk => XS.aloadN X0.here hx rfl (hb hby d5_8) rfl rfl kk) ?_
  show Go _ _ _ _ _ _ _ T0 (mkF m 9 _ [.null])
  refine Go.step (fun tt kk => XS.aloadN X0.here hx rfl (hb hby d5_9) rfl rfl kk) ?_
  show Go _ _ _ _ _ _ _ T0 (mkF m 10 _ [.null, .null])
  refine Go.step (fun tt kk => Jvm.RoadKit.acmp (g := (mkF m 10 #[.val .null, .val .null] [.null, .null])) X0 hx rfl rfl rfl (pc0 := 10) (pc' := 13) (same := true) rfl (hb hby d5_10) rfl (decide_eq_true rfl) (by decide) (by decide) kk) ?_
  show Go _ _ _ _ _ _ _ T0 (mkF m 13 _ [])
  refine Go.step (fun tt kk => XS.iconst X0.here hx rfl (hb hby d5_13) kk) ?_
  show Go _ _ _ _ _ _ _ T0 (mkF m 14 _ [(.int (1 : Int32))])
  refine Go.step (fun tt kk => XS.goto X0.here hx rfl (pc0 := 14) (pc' := 18) rfl (hb hby d5_14) (by decide) (by decide) kk) ?_
  show Go _ _ _ _ _ _ _ T0 (mkF m 18 _ [(.int (1 : Int32))])
  refine go_retN X0 hx (t := .boolean) hret (by simp) hlk (hb hby d5_18) (w := (1 : Int32)) rfl ?_ (by decide) (by decide)
  try rw [e0]
  exact ⟨rfl, N0, rfl⟩
theorem own_nc (x : Int32) : nar .char x.toUInt32.toUInt16.toUInt32.toInt32 = x.toUInt32.toUInt16.toUInt32.toInt32 := own_nar x
theorem ef_rm0 (m : MethodId) (x0 : Int64) (x1 : Int32) (x2 : Int32) : entryFrame m #[(.long x0), (.int x1), (.int x2)] maxLocals = mkF m 0 #[.val (.long x0), .second, .val (.int x1), .val (.int x2), .unset, .unset, .unset, .unset, .unset, .unset, .unset, .unset] [] := by first | (simp [entryFrame, mkF, argsToLocals, Value.category, maxLocals]; done) | rfl
theorem pd_4 : parseMethodDescriptor "(I)C" = some ⟨[.int], some .char⟩ := by decide +kernel
theorem pd_5 : parseMethodDescriptor "([CIII)[B" = some ⟨[(.array .char), .int, .int, .int], some (.array .byte)⟩ := by decide +kernel
theorem pd_6 : parseMethodDescriptor "([CII)[B" = some ⟨[(.array .char), .int, .int], some (.array .byte)⟩ := by decide +kernel
theorem pd_7 : parseMethodDescriptor "([B[B)Z" = some ⟨[(.array .byte), (.array .byte)], some .boolean⟩ := by decide +kernel
set_option maxRecDepth 65536 in
set_option maxHeartbeats 40000000 in
theorem rm0 (l : Launch) (Z : State) (a0 : Array Value) (hw : ∀ d ∈ tables_1, d.before a0 Z = true) (ws : List Jvm.Cond) (i0 : Int64) (i1 i2 : Int32) (va : Addr) (h0 : Heap) (n0 : Nat) (Z0 : n0 ≤ h0.size) (SV : Sta Z h0 "com/example/sharks/sharks/StandardBase64" "VALUES" "[B" (.ref va)) (V_va : AV Z h0 va .byte 128 vt) :
    Ctr l Z x code maxLocals ret ws room_1 16 192 #[(.long i0), (.int i1), (.int i2)] h0 (fun v h L => v = some (.int (1 : Int32)) ∧ Fr n0 L) := by
  refine Ctr.mk (plainFor_of_name pn_0) fun p e s m below meth c T0 X0 C e0 => go_cast (ef_rm0 m i0 i1 i2) ?_
  have N0 := Fr.nil n0
  obtain ⟨hx, hZ, hby, hml, hown, hnm, hret, hlk⟩ := C
  show Go _ _ _ _ _ _ _ T0 (mkF m 0 #[.val (.long i0), .second, .val (.int i1), .val (.int i2), .unset, .unset, .unset, .unset, .unset, .unset, .unset, .unset] [])
  refine Go.step (fun tt kk => XS.iloadN X0.here hx rfl (hb hby at_0) rfl kk) ?_
  show Go _ _ _ _ _ _ _ T0 (mkF m 1 _ [(.int i1)])
  refine Go.step (fun tt kk => XS.bipush X0.here hx rfl (hb hby at_1) kk) ?_
  show Go _ _ _ _ _ _ _ T0 (mkF m 3 _ [(.int (15 : Int32)), (.int i1)])
  refine Go.step (fun tt kk => XS.iand X0.here hx rfl (hb hby at_3) rfl kk) ?_
  show Go _ _ _ _ _ _ _ T0 (mkF m 4 _ [(.int (i1 &&& (15 : Int32)))])
  refine Go.step (fun tt kk => XS.bipush X0.here hx rfl (hb hby at_4) kk) ?_
  show Go _ _ _ _ _ _ _ T0 (mkF m 6 _ [(.int (9 : Int32)), (.int (i1 &&& (15 : Int32)))])
  refine Go.step (fun tt kk => iremM X0 hx rfl (hb hby at_6) rfl (by decide) kk) ?_
  show Go _ _ _ _ _ _ _ T0 (mkF m 7 _ [(.int ((i1 &&& (15 : Int32)) % (9 : Int32)))])
  refine Go.step (fun tt kk => XS.istore X0.here hx rfl (hb hby at_7) rfl (l' := #[.val (.long i0), .second, .val (.int i1), .val (.int i2), .val (.int ((i1 &&& (15 : Int32)) % (9 : Int32))), .unset, .unset, .unset, .unset, .unset, .unset, .unset]) rfl kk) ?_
  show Go _ _ _ _ _ _ _ T0 (mkF m 9 _ [])
  obtain ⟨len, hl8, el⟩ := own_len9 i1
  rw [el]
  show Go _ _ _ _ _ _ _ T0 (mkF m 9 #[.val (.long i0), .second, .val (.int i1), .val (.int i2), .val (.int (Int32.ofNat len)), .unset, .unset, .unset, .unset, .unset, .unset, .unset] [])
  refine Go.step (fun tt kk => XS.iloadN X0.here hx rfl (hb hby at_9) rfl kk) ?_
  show Go _ _ _ _ _ _ _ T0 (mkF m 10 _ [(.int i1)])
  refine Go.step (fun tt kk => XS.iconst X0.here hx rfl (hb hby at_10) kk) ?_
  show Go _ _ _ _ _ _ _ T0 (mkF m 11 _ [(.int (4 : Int32)), (.int i1)])
  refine Go.step (fun tt kk => XS.iushr X0.here hx rfl (hb hby at_11) rfl kk) ?_
  show Go _ _ _ _ _ _ _ T0 (mkF m 12 _ [(.int ((i1.toUInt32 >>> ((4 : Int32) &&& 31).toUInt32).toInt32))])
  refine Go.step (fun tt kk => XS.iconst X0.here hx rfl (hb hby at_12) kk) ?_
  show Go _ _ _ _ _ _ _ T0 (mkF m 13 _ [(.int (3 : Int32)), (.int ((i1.toUInt32 >>> ((4 : Int32) &&& 31).toUInt32).toInt32))])
  refine Go.step (fun tt kk => XS.iand X0.here hx rfl (hb hby at_13) rfl kk) ?_
  show Go _ _ _ _ _ _ _ T0 (mkF m 14 _ [(.int (((i1.toUInt32 >>> ((4 : Int32) &&& 31).toUInt32).toInt32) &&& (3 : Int32)))])
  refine Go.step (fun tt kk => XS.iconst X0.here hx rfl (hb hby at_14) kk) ?_
  show Go _ _ _ _ _ _ _ T0 (mkF m 15 _ [(.int (3 : Int32)), (.int (((i1.toUInt32 >>> ((4 : Int32) &&& 31).toUInt32).toInt32) &&& (3 : Int32)))])
  refine Go.step (fun tt kk => iremM X0 hx rfl (hb hby at_15) rfl (by decide) kk) ?_
  show Go _ _ _ _ _ _ _ T0 (mkF m 16 _ [(.int ((((i1.toUInt32 >>> ((4 : Int32) &&& 31).toUInt32).toInt32) &&& (3 : Int32)) % (3 : Int32)))])
  refine Go.step (fun tt kk => XS.istore X0.here hx rfl (hb hby at_16) rfl (l' := #[.val (.long i0), .second, .val (.int i1), .val (.int i2), .val (.int (Int32.ofNat len)), .val (.int ((((i1.toUInt32 >>> ((4 : Int32) &&& 31).toUInt32).toInt32) &&& (3 : Int32)) % (3 : Int32))), .unset, .unset, .unset, .unset, .unset, .unset]) rfl kk) ?_
  show Go _ _ _ _ _ _ _ T0 (mkF m 18 _ [])
  obtain ⟨pd, epd⟩ : ∃ z, z = ((((i1.toUInt32 >>> ((4 : Int32) &&& 31).toUInt32).toInt32) &&& (3 : Int32)) % (3 : Int32)) := ⟨_, rfl⟩
  rw [← epd]
  show Go _ _ _ _ _ _ _ T0 (mkF m 18 #[.val (.long i0), .second, .val (.int i1), .val (.int i2), .val (.int (Int32.ofNat len)), .val (.int pd), .unset, .unset, .unset, .unset, .unset, .unset] [])
  refine Go.step (fun tt kk => XS.iloadN X0.here hx rfl (hb hby at_18) rfl kk) ?_
  show Go _ _ _ _ _ _ _ T0 (mkF m 19 _ [(.int i1)])
  refine Go.step (fun tt kk => XS.bipush X0.here hx rfl (hb hby at_19) kk) ?_
  show Go _ _ _ _ _ _ _ T0 (mkF m 21 _ [(.int (6 : Int32)), (.int i1)])
  refine Go.step (fun tt kk => XS.iushr X0.here hx rfl (hb hby at_21) rfl kk) ?_
  show Go _ _ _ _ _ _ _ T0 (mkF m 22 _ [(.int ((i1.toUInt32 >>> ((6 : Int32) &&& 31).toUInt32).toInt32))])
  refine Go.step (fun tt kk => XS.iconst X0.here hx rfl (hb hby at_22) kk) ?_
  show Go _ _ _ _ _ _ _ T0 (mkF m 23 _ [(.int (3 : Int32)), (.int ((i1.toUInt32 >>> ((6 : Int32) &&& 31).toUInt32).toInt32))])
  refine Go.step (fun tt kk => XS.iand X0.here hx rfl (hb hby at_23) rfl kk) ?_
  show Go _ _ _ _ _ _ _ T0 (mkF m 24 _ [(.int (((i1.toUInt32 >>> ((6 : Int32) &&& 31).toUInt32).toInt32) &&& (3 : Int32)))])
  refine Go.step (fun tt kk => XS.istore X0.here hx rfl (hb hby at_24) rfl (l' := #[.val (.long i0), .second, .val (.int i1), .val (.int i2), .val (.int (Int32.ofNat len)), .val (.int pd), .val (.int (((i1.toUInt32 >>> ((6 : Int32) &&& 31).toUInt32).toInt32) &&& (3 : Int32))), .unset, .unset, .unset, .unset, .unset]) rfl kk) ?_
  show Go _ _ _ _ _ _ _ T0 (mkF m 26 _ [])
  obtain ⟨off, ho, eoff⟩ := own_and3 ((i1.toUInt32 >>> ((6 : Int32) &&& 31).toUInt32).toInt32)
  rw [eoff]
  show Go _ _ _ _ _ _ _ T0 (mkF m 26 #[.val (.long i0), .second, .val (.int i1), .val (.int i2), .val (.int (Int32.ofNat len)), .val (.int pd), .val (.int (Int32.ofNat off)), .unset, .unset, .unset, .unset, .unset] [])
  refine Go.step (fun tt kk => XS.iloadN X0.here hx rfl (hb hby at_26) rfl kk) ?_
  show Go _ _ _ _ _ _ _ T0 (mkF m 27 _ [(.int i1)])
  refine Go.step (fun tt kk => XS.bipush X0.here hx rfl (hb hby at_27) kk) ?_
  show Go _ _ _ _ _ _ _ T0 (mkF m 29 _ [(.int (8 : Int32)), (.int i1)])
  refine Go.step (fun tt kk => XS.iushr X0.here hx rfl (hb hby at_29) rfl kk) ?_
  show Go _ _ _ _ _ _ _ T0 (mkF m 30 _ [(.int ((i1.toUInt32 >>> ((8 : Int32) &&& 31).toUInt32).toInt32))])
  refine Go.step (fun tt kk => XS.iconst X0.here hx rfl (hb hby at_30) kk) ?_
  show Go _ _ _ _ _ _ _ T0 (mkF m 31 _ [(.int (3 : Int32)), (.int ((i1.toUInt32 >>> ((8 : Int32) &&& 31).toUInt32).toInt32))])
  refine Go.step (fun tt kk => XS.iand X0.here hx rfl (hb hby at_31) rfl kk) ?_
  show Go _ _ _ _ _ _ _ T0 (mkF m 32 _ [(.int (((i1.toUInt32 >>> ((8 : Int32) &&& 31).toUInt32).toInt32) &&& (3 : Int32)))])
  refine Go.step (fun tt kk => XS.istore X0.here hx rfl (hb hby at_32) rfl (l' := #[.val (.long i0), .second, .val (.int i1), .val (.int i2), .val (.int (Int32.ofNat len)), .val (.int pd), .val (.int (Int32.ofNat off)), .val (.int (((i1.toUInt32 >>> ((8 : Int32) &&& 31).toUInt32).toInt32) &&& (3 : Int32))), .unset, .unset, .unset, .unset]) rfl kk) ?_
  show Go _ _ _ _ _ _ _ T0 (mkF m 34 _ [])
  obtain ⟨bf, hbf, ebf⟩ := own_and3 ((i1.toUInt32 >>> ((8 : Int32) &&& 31).toUInt32).toInt32)
  rw [ebf]
  show Go _ _ _ _ _ _ _ T0 (mkF m 34 #[.val (.long i0), .second, .val (.int i1), .val (.int i2), .val (.int (Int32.ofNat len)), .val (.int pd), .val (.int (Int32.ofNat off)), .val (.int (Int32.ofNat bf)), .unset, .unset, .unset, .unset] [])
  refine Go.step (fun tt kk => XS.bipush X0.here hx rfl (hb hby at_34) kk) ?_
  show Go _ _ _ _ _ _ _ T0 (mkF m 36 _ [(.int (8 : Int32))])
  obtain ⟨T1, h1, k1, X1, e1, E1, A1, EA1, st1⟩ := newPE X0 hx hZ (hw _ (List.mem_of_getElem? (i := 0) rfl)) e0 (g := (mkF m 36 #[.val (.long i0), .second, .val (.int i1), .val (.int i2), .val (.int (Int32.ofNat len)), .val (.int pd), .val (.int (Int32.ofNat off)), .val (.int (Int32.ofNat bf)), .unset, .unset, .unset, .unset] [(.int (8 : Int32))])) rfl (hb hby at_36) rfl (by decide) (cap := 8) (by decide) (by decide) (by decide) (by decide) (ad := "[C") rfl
  obtain ⟨b1, g1⟩ : ∃ z, z = h0.size := ⟨_, rfl⟩
  rw [← g1] at A1 EA1 st1
  have ne_va_b1 : va ≠ b1 := Nat.ne_of_lt (Nat.lt_of_lt_of_le V_va.lt (Nat.le_of_eq g1.symm))
  have gn_b1 : n0 ≤ b1 := Nat.le_trans Z0 (Nat.le_of_eq g1.symm)
  have Z1 : n0 ≤ h1.size := Nat.le_trans Z0 E1.1
  have V1 : AV Z h1 b1 .char 8 (lst [(.int (0 : Int32)), (.int (0 : Int32)), (.int (0 : Int32)), (.int (0 : Int32)), (.int (0 : Int32)), (.int (0 : Int32)), (.int (0 : Int32)), (.int (0 : Int32))]) := AV.newL (AV.new A1 (by decide)) rfl
  refine Go.step (st1) ?_
  show Go _ _ _ _ _ _ _ T1 (mkF m 38 _ [(.ref b1)])
  refine Go.step (fun tt kk => XS.astore X1.here hx rfl (hb hby at_38) rfl rfl (l' := #[.val (.long i0), .second, .val (.int i1), .val (.int i2), .val (.int (Int32.ofNat len)), .val (.int pd), .val (.int (Int32.ofNat off)), .val (.int (Int32.ofNat bf)), .val (.ref b1), .unset, .unset, .unset]) rfl kk) ?_
  show Go _ _ _ _ _ _ _ T1 (mkF m 40 _ [])
  refine Go.step (fun tt kk => XS.aload X1.here hx rfl (hb hby at_40) rfl rfl kk) ?_
  show Go _ _ _ _ _ _ _ T1 (mkF m 42 _ [(.ref b1)])
  refine Go.step (fun tt kk => XS.iconst X1.here hx rfl (hb hby at_42) kk) ?_
  show Go _ _ _ _ _ _ _ T1 (mkF m 43 _ [(.int (0 : Int32)), (.ref b1)])
  refine Go.step (fun tt kk => XS.lloadN X1.here hx rfl (hb hby at_43) rfl kk) ?_
  show Go _ _ _ _ _ _ _ T1 (mkF m 44 _ [(.long i0), (.int (0 : Int32)), (.ref b1)])
  refine Go.step (X1.ldc2Long hx hown (mvT hZ (hw _ (List.mem_of_getElem? (i := 1) rfl))) (g := (mkF m 44 #[.val (.long i0), .second, .val (.int i1), .val (.int i2), .val (.int (Int32.ofNat len)), .val (.int pd), .val (.int (Int32.ofNat off)), .val (.int (Int32.ofNat bf)), .val (.ref b1), .unset, .unset, .unset] [(.long i0), (.int (0 : Int32)), (.ref b1)])) rfl (hb hby at_44)) ?_
  show Go _ _ _ _ _ _ _ T1 (mkF m 47 _ [(.long (63 : Int64)), (.long i0), (.int (0 : Int32)), (.ref b1)])
  refine Go.step (fun tt kk => XS.land X1.here hx rfl (hb hby at_47) rfl kk) ?_
  show Go _ _ _ _ _ _ _ T1 (mkF m 48 _ [(.long (i0 &&& (63 : Int64))), (.int (0 : Int32)), (.ref b1)])
  refine Go.step (fun tt kk => XS.l2i X1.here hx rfl (hb hby at_48) rfl kk) ?_
  show Go _ _ _ _ _ _ _ T1 (mkF m 49 _ [(.int ((i0 &&& (63 : Int64)).toInt32)), (.int (0 : Int32)), (.ref b1)])
  obtain ⟨v2, T2, L2, X2, q2, st2⟩ := c_static X1 hx hZ hown (y := (⟨"com/example/sharks/sharks/StandardBase64DecodePinLaw", "enc", "(I)C"⟩ : MethodName)) (hw _ (List.mem_of_getElem? (i := 2) rfl)) (hw _ (List.mem_of_getElem? (i := 3) rfl)) (hw _ (List.mem_of_getElem? (i := 4) rfl)) (hw _ (List.mem_of_getElem? (i := 5) rfl)) (by decide) (argsL := [(.int ((i0 &&& (63 : Int64)).toInt32))]) (rest := [(.int (0 : Int32)), (.ref b1)]) (rmEn l Z a0 hw [] ((i0 &&& (63 : Int64)).toInt32) h1 n0 Z1) e1 pd_4 rfl (by rw [hml]; rfl) (W := 2) (by show 2 * 0 + _ ≤ _; exact Nat.le_of_eq rfl) (by decide) (by decide) (by decide) (by decide) (hb hby at_49) (Ls := #[.val (.long i0), .second, .val (.int i1), .val (.int i2), .val (.int (Int32.ofNat len)), .val (.int pd), .val (.int (Int32.ofNat off)), .val (.int (Int32.ofNat bf)), .val (.ref b1), .unset, .unset, .unset])
  obtain ⟨y0, rfl, hy0, rfl, e2⟩ := q2
  have N2 := Fr.app N0 (Fr.nil n0)
  refine Go.step (st2) ?_
  show Go _ _ _ _ _ _ _ T2 (mkF m 52 _ [(.int y0), (.int (0 : Int32)), (.ref b1)])
  obtain ⟨cl3, Ar3, hin3, -⟩ := V1.at (j := (0 : Int32)) (k := 0) (by decide) (by decide)
  obtain ⟨T3, h3, X3, e3, W3, st3⟩ := stC X2 hx hZ e2 Ar3 (j := (0 : Int32)) hin3 (g := (mkF m 52 #[.val (.long i0), .second, .val (.int i1), .val (.int i2), .val (.int (Int32.ofNat len)), .val (.int pd), .val (.int (Int32.ofNat off)), .val (.int (Int32.ofNat bf)), .val (.ref b1), .unset, .unset, .unset] [(.int y0), (.int (0 : Int32)), (.ref b1)])) rfl rfl (hb hby at_52)
  rw [hy0] at W3
  have V3 : AV Z h3 b1 .char 8 (lst [(.int y0), (.int (0 : Int32)), (.int (0 : Int32)), (.int (0 : Int32)), (.int (0 : Int32)), (.int (0 : Int32)), (.int (0 : Int32)), (.int (0 : Int32))]) := AV.setL V1 (k := 0) (by decide) (by decide) W3 (Nat.le_of_ble_eq_true rfl) rfl
  have N3 := Fr.snoc X3 N2 gn_b1
  have Z3 : n0 ≤ h3.size := Nat.le_trans Z1 (Keep.of_wr W3).1
  refine Go.step (st3) ?_
  show Go _ _ _ _ _ _ _ T3 (mkF m 53 _ [])
  refine Go.step (fun tt kk => XS.aload X3.here hx rfl (hb hby at_53) rfl rfl kk) ?_
  show Go _ _ _ _ _ _ _ T3 (mkF m 55 _ [(.ref b1)])
  refine Go.step (fun tt kk => XS.iconst X3.here hx rfl (hb hby at_55) kk) ?_
  show Go _ _ _ _ _ _ _ T3 (mkF m 56 _ [(.int (1 : Int32)), (.ref b1)])
  refine Go.step (fun tt kk => XS.lloadN X3.here hx rfl (hb hby at_56) rfl kk) ?_
  show Go _ _ _ _ _ _ _ T3 (mkF m 57 _ [(.long i0), (.int (1 : Int32)), (.ref b1)])
  refine Go.step (fun tt kk => XS.bipush X3.here hx rfl (hb hby at_57) kk) ?_
  show Go _ _ _ _ _ _ _ T3 (mkF m 59 _ [(.int (6 : Int32)), (.long i0), (.int (1 : Int32)), (.ref b1)])
  refine Go.step (fun tt kk => XS.lushr X3.here hx rfl (hb hby at_59) rfl kk) ?_
  show Go _ _ _ _ _ _ _ T3 (mkF m 60 _ [(.long ((i0.toUInt64 >>> ((6 : Int32) &&& 0x3f).toInt64.toUInt64).toInt64)), (.int (1 : Int32)), (.ref b1)])
  refine Go.step (X3.ldc2Long hx hown (mvT hZ (hw _ (List.mem_of_getElem? (i := 1) rfl))) (g := (mkF m 60 #[.val (.long i0), .second, .val (.int i1), .val (.int i2), .val (.int (Int32.ofNat len)), .val (.int pd), .val (.int (Int32.ofNat off)), .val (.int (Int32.ofNat bf)), .val (.ref b1), .unset, .unset, .unset] [(.long ((i0.toUInt64 >>> ((6 : Int32) &&& 0x3f).toInt64.toUInt64).toInt64)), (.int (1 : Int32)), (.ref b1)])) rfl (hb hby at_60)) ?_
  show Go _ _ _ _ _ _ _ T3 (mkF m 63 _ [(.long (63 : Int64)), (.long ((i0.toUInt64 >>> ((6 : Int32) &&& 0x3f).toInt64.toUInt64).toInt64)), (.int (1 : Int32)), (.ref b1)])
  refine Go.step (fun tt kk => XS.land X3.here hx rfl (hb hby at_63) rfl kk) ?_
  show Go _ _ _ _ _ _ _ T3 (mkF m 64 _ [(.long (((i0.toUInt64 >>> ((6 : Int32) &&& 0x3f).toInt64.toUInt64).toInt64) &&& (63 : Int64))), (.int (1 : Int32)), (.ref b1)])
  refine Go.step (fun tt kk => XS.l2i X3.here hx rfl (hb hby at_64) rfl kk) ?_
  show Go _ _ _ _ _ _ _ T3 (mkF m 65 _ [(.int ((((i0.toUInt64 >>> ((6 : Int32) &&& 0x3f).toInt64.toUInt64).toInt64) &&& (63 : Int64)).toInt32)), (.int (1 : Int32)), (.ref b1)])
  obtain ⟨v4, T4, L4, X4, q4, st4⟩ := c_static X3 hx hZ hown (y := (⟨"com/example/sharks/sharks/StandardBase64DecodePinLaw", "enc", "(I)C"⟩ : MethodName)) (hw _ (List.mem_of_getElem? (i := 2) rfl)) (hw _ (List.mem_of_getElem? (i := 3) rfl)) (hw _ (List.mem_of_getElem? (i := 4) rfl)) (hw _ (List.mem_of_getElem? (i := 5) rfl)) (by decide) (argsL := [(.int ((((i0.toUInt64 >>> ((6 : Int32) &&& 0x3f).toInt64.toUInt64).toInt64) &&& (63 : Int64)).toInt32))]) (rest := [(.int (1 : Int32)), (.ref b1)]) (rmEn l Z a0 hw [] ((((i0.toUInt64 >>> ((6 : Int32) &&& 0x3f).toInt64.toUInt64).toInt64) &&& (63 : Int64)).toInt32) h3 n0 Z3) e3 pd_4 rfl (by rw [hml]; rfl) (W := 2) (by show 2 * 0 + _ ≤ _; exact Nat.le_of_eq rfl) (by decide) (by decide) (by decide) (by decide) (hb hby at_65) (Ls := #[.val (.long i0), .second, .val (.int i1), .val (.int i2), .val (.int (Int32.ofNat len)), .val (.int pd), .val (.int (Int32.ofNat off)), .val (.int (Int32.ofNat bf)), .val (.ref b1), .unset, .unset, .unset])
  obtain ⟨y1, rfl, hy1, rfl, e4⟩ := q4
  have N4 := Fr.app N3 (Fr.nil n0)
  refine Go.step (st4) ?_
  show Go _ _ _ _ _ _ _ T4 (mkF m 68 _ [(.int y1), (.int (1 : Int32)), (.ref b1)])
  obtain ⟨cl5, Ar5, hin5, -⟩ := V3.at (j := (1 : Int32)) (k := 1) (by decide) (by decide)
  obtain ⟨T5, h5, X5, e5, W5, st5⟩ := stC X4 hx hZ e4 Ar5 (j := (1 : Int32)) hin5 (g := (mkF m 68 #[.val (.long i0), .second, .val (.int i1), .val (.int i2), .val (.int (Int32.ofNat len)), .val (.int pd), .val (.int (Int32.ofNat off)), .val (.int (Int32.ofNat bf)), .val (.ref b1), .unset, .unset, .unset] [(.int y1), (.int (1 : Int32)), (.ref b1)])) rfl rfl (hb hby at_68)
  rw [hy1] at W5
  have V5 : AV Z h5 b1 .char 8 (lst [(.int y0), (.int y1), (.int (0 : Int32)), (.int (0 : Int32)), (.int (0 : Int32)), (.int (0 : Int32)), (.int (0 : Int32)), (.int (0 : Int32))]) := AV.setL V3 (k := 1) (by decide) (by decide) W5 (Nat.le_of_ble_eq_true rfl) rfl
  have N5 := Fr.snoc X5 N4 gn_b1
  have Z5 : n0 ≤ h5.size := Nat.le_trans Z3 (Keep.of_wr W5).1
  refine Go.step (st5) ?_
  show Go _ _ _ _ _ _ _ T5 (mkF m 69 _ [])
  refine Go.step (fun tt kk => XS.aload X5.here hx rfl (hb hby at_69) rfl rfl kk) ?_
  show Go _ _ _ _ _ _ _ T5 (mkF m 71 _ [(.ref b1)])
  refine Go.step (fun tt kk => XS.iconst X5.here hx rfl (hb hby at_71) kk) ?_
  show Go _ _ _ _ _ _ _ T5 (mkF m 72 _ [(.int (2 : Int32)), (.ref b1)])
  refine Go.step (fun tt kk => XS.lloadN X5.here hx rfl (hb hby at_72) rfl kk) ?_
  show Go _ _ _ _ _ _ _ T5 (mkF m 73 _ [(.long i0), (.int (2 : Int32)), (.ref b1)])
  refine Go.step (fun tt kk => XS.bipush X5.here hx rfl (hb hby at_73) kk) ?_
  show Go _ _ _ _ _ _ _ T5 (mkF m 75 _ [(.int (12 : Int32)), (.long i0), (.int (2 : Int32)), (.ref b1)])
  refine Go.step (fun tt kk => XS.lushr X5.here hx rfl (hb hby at_75) rfl kk) ?_
  show Go _ _ _ _ _ _ _ T5 (mkF m 76 _ [(.long ((i0.toUInt64 >>> ((12 : Int32) &&& 0x3f).toInt64.toUInt64).toInt64)), (.int (2 : Int32)), (.ref b1)])
  refine Go.step (X5.ldc2Long hx hown (mvT hZ (hw _ (List.mem_of_getElem? (i := 1) rfl))) (g := (mkF m 76 #[.val (.long i0), .second, .val (.int i1), .val (.int i2), .val (.int (Int32.ofNat len)), .val (.int pd), .val (.int (Int32.ofNat off)), .val (.int (Int32.ofNat bf)), .val (.ref b1), .unset, .unset, .unset] [(.long ((i0.toUInt64 >>> ((12 : Int32) &&& 0x3f).toInt64.toUInt64).toInt64)), (.int (2 : Int32)), (.ref b1)])) rfl (hb hby at_76)) ?_
  show Go _ _ _ _ _ _ _ T5 (mkF m 79 _ [(.long (63 : Int64)), (.long ((i0.toUInt64 >>> ((12 : Int32) &&& 0x3f).toInt64.toUInt64).toInt64)), (.int (2 : Int32)), (.ref b1)])
  refine Go.step (fun tt kk => XS.land X5.here hx rfl (hb hby at_79) rfl kk) ?_
  show Go _ _ _ _ _ _ _ T5 (mkF m 80 _ [(.long (((i0.toUInt64 >>> ((12 : Int32) &&& 0x3f).toInt64.toUInt64).toInt64) &&& (63 : Int64))), (.int (2 : Int32)), (.ref b1)])
  refine Go.step (fun tt kk => XS.l2i X5.here hx rfl (hb hby at_80) rfl kk) ?_
  show Go _ _ _ _ _ _ _ T5 (mkF m 81 _ [(.int ((((i0.toUInt64 >>> ((12 : Int32) &&& 0x3f).toInt64.toUInt64).toInt64) &&& (63 : Int64)).toInt32)), (.int (2 : Int32)), (.ref b1)])
  obtain ⟨v6, T6, L6, X6, q6, st6⟩ := c_static X5 hx hZ hown (y := (⟨"com/example/sharks/sharks/StandardBase64DecodePinLaw", "enc", "(I)C"⟩ : MethodName)) (hw _ (List.mem_of_getElem? (i := 2) rfl)) (hw _ (List.mem_of_getElem? (i := 3) rfl)) (hw _ (List.mem_of_getElem? (i := 4) rfl)) (hw _ (List.mem_of_getElem? (i := 5) rfl)) (by decide) (argsL := [(.int ((((i0.toUInt64 >>> ((12 : Int32) &&& 0x3f).toInt64.toUInt64).toInt64) &&& (63 : Int64)).toInt32))]) (rest := [(.int (2 : Int32)), (.ref b1)]) (rmEn l Z a0 hw [] ((((i0.toUInt64 >>> ((12 : Int32) &&& 0x3f).toInt64.toUInt64).toInt64) &&& (63 : Int64)).toInt32) h5 n0 Z5) e5 pd_4 rfl (by rw [hml]; rfl) (W := 2) (by show 2 * 0 + _ ≤ _; exact Nat.le_of_eq rfl) (by decide) (by decide) (by decide) (by decide) (hb hby at_81) (Ls := #[.val (.long i0), .second, .val (.int i1), .val (.int i2), .val (.int (Int32.ofNat len)), .val (.int pd), .val (.int (Int32.ofNat off)), .val (.int (Int32.ofNat bf)), .val (.ref b1), .unset, .unset, .unset])
  obtain ⟨y2, rfl, hy2, rfl, e6⟩ := q6
  have N6 := Fr.app N5 (Fr.nil n0)
  refine Go.step (st6) ?_
  show Go _ _ _ _ _ _ _ T6 (mkF m 84 _ [(.int y2), (.int (2 : Int32)), (.ref b1)])
  obtain ⟨cl7, Ar7, hin7, -⟩ := V5.at (j := (2 : Int32)) (k := 2) (by decide) (by decide)
  obtain ⟨T7, h7, X7, e7, W7, st7⟩ := stC X6 hx hZ e6 Ar7 (j := (2 : Int32)) hin7 (g := (mkF m 84 #[.val (.long i0), .second, .val (.int i1), .val (.int i2), .val (.int (Int32.ofNat len)), .val (.int pd), .val (.int (Int32.ofNat off)), .val (.int (Int32.ofNat bf)), .val (.ref b1), .unset, .unset, .unset] [(.int y2), (.int (2 : Int32)), (.ref b1)])) rfl rfl (hb hby at_84)
  rw [hy2] at W7
  have V7 : AV Z h7 b1 .char 8 (lst [(.int y0), (.int y1), (.int y2), (.int (0 : Int32)), (.int (0 : Int32)), (.int (0 : Int32)), (.int (0 : Int32)), (.int (0 : Int32))]) := AV.setL V5 (k := 2) (by decide) (by decide) W7 (Nat.le_of_ble_eq_true rfl) rfl
  have N7 := Fr.snoc X7 N6 gn_b1
  have Z7 : n0 ≤ h7.size := Nat.le_trans Z5 (Keep.of_wr W7).1
  refine Go.step (st7) ?_
  show Go _ _ _ _ _ _ _ T7 (mkF m 85 _ [])
  refine Go.step (fun tt kk => XS.aload X7.here hx rfl (hb hby at_85) rfl rfl kk) ?_
  show Go _ _ _ _ _ _ _ T7 (mkF m 87 _ [(.ref b1)])
  refine Go.step (fun tt kk => XS.iconst X7.here hx rfl (hb hby at_87) kk) ?_
  show Go _ _ _ _ _ _ _ T7 (mkF m 88 _ [(.int (3 : Int32)), (.ref b1)])
  refine Go.step (fun tt kk => XS.lloadN X7.here hx rfl (hb hby at_88) rfl kk) ?_
  show Go _ _ _ _ _ _ _ T7 (mkF m 89 _ [(.long i0), (.int (3 : Int32)), (.ref b1)])
  refine Go.step (fun tt kk => XS.bipush X7.here hx rfl (hb hby at_89) kk) ?_
  show Go _ _ _ _ _ _ _ T7 (mkF m 91 _ [(.int (18 : Int32)), (.long i0), (.int (3 : Int32)), (.ref b1)])
  refine Go.step (fun tt kk => XS.lushr X7.here hx rfl (hb hby at_91) rfl kk) ?_
  show Go _ _ _ _ _ _ _ T7 (mkF m 92 _ [(.long ((i0.toUInt64 >>> ((18 : Int32) &&& 0x3f).toInt64.toUInt64).toInt64)), (.int (3 : Int32)), (.ref b1)])
  refine Go.step (X7.ldc2Long hx hown (mvT hZ (hw _ (List.mem_of_getElem? (i := 1) rfl))) (g := (mkF m 92 #[.val (.long i0), .second, .val (.int i1), .val (.int i2), .val (.int (Int32.ofNat len)), .val (.int pd), .val (.int (Int32.ofNat off)), .val (.int (Int32.ofNat bf)), .val (.ref b1), .unset, .unset, .unset] [(.long ((i0.toUInt64 >>> ((18 : Int32) &&& 0x3f).toInt64.toUInt64).toInt64)), (.int (3 : Int32)), (.ref b1)])) rfl (hb hby at_92)) ?_
  show Go _ _ _ _ _ _ _ T7 (mkF m 95 _ [(.long (63 : Int64)), (.long ((i0.toUInt64 >>> ((18 : Int32) &&& 0x3f).toInt64.toUInt64).toInt64)), (.int (3 : Int32)), (.ref b1)])
  refine Go.step (fun tt kk => XS.land X7.here hx rfl (hb hby at_95) rfl kk) ?_
  show Go _ _ _ _ _ _ _ T7 (mkF m 96 _ [(.long (((i0.toUInt64 >>> ((18 : Int32) &&& 0x3f).toInt64.toUInt64).toInt64) &&& (63 : Int64))), (.int (3 : Int32)), (.ref b1)])
  refine Go.step (fun tt kk => XS.l2i X7.here hx rfl (hb hby at_96) rfl kk) ?_
  show Go _ _ _ _ _ _ _ T7 (mkF m 97 _ [(.int ((((i0.toUInt64 >>> ((18 : Int32) &&& 0x3f).toInt64.toUInt64).toInt64) &&& (63 : Int64)).toInt32)), (.int (3 : Int32)), (.ref b1)])
  obtain ⟨v8, T8, L8, X8, q8, st8⟩ := c_static X7 hx hZ hown (y := (⟨"com/example/sharks/sharks/StandardBase64DecodePinLaw", "enc", "(I)C"⟩ : MethodName)) (hw _ (List.mem_of_getElem? (i := 2) rfl)) (hw _ (List.mem_of_getElem? (i := 3) rfl)) (hw _ (List.mem_of_getElem? (i := 4) rfl)) (hw _ (List.mem_of_getElem? (i := 5) rfl)) (by decide) (argsL := [(.int ((((i0.toUInt64 >>> ((18 : Int32) &&& 0x3f).toInt64.toUInt64).toInt64) &&& (63 : Int64)).toInt32))]) (rest := [(.int (3 : Int32)), (.ref b1)]) (rmEn l Z a0 hw [] ((((i0.toUInt64 >>> ((18 : Int32) &&& 0x3f).toInt64.toUInt64).toInt64) &&& (63 : Int64)).toInt32) h7 n0 Z7) e7 pd_4 rfl (by rw [hml]; rfl) (W := 2) (by show 2 * 0 + _ ≤ _; exact Nat.le_of_eq rfl) (by decide) (by decide) (by decide) (by decide) (hb hby at_97) (Ls := #[.val (.long i0), .second, .val (.int i1), .val (.int i2), .val (.int (Int32.ofNat len)), .val (.int pd), .val (.int (Int32.ofNat off)), .val (.int (Int32.ofNat bf)), .val (.ref b1), .unset, .unset, .unset])
  obtain ⟨y3, rfl, hy3, rfl, e8⟩ := q8
  have N8 := Fr.app N7 (Fr.nil n0)
  refine Go.step (st8) ?_
  show Go _ _ _ _ _ _ _ T8 (mkF m 100 _ [(.int y3), (.int (3 : Int32)), (.ref b1)])
  obtain ⟨cl9, Ar9, hin9, -⟩ := V7.at (j := (3 : Int32)) (k := 3) (by decide) (by decide)
  obtain ⟨T9, h9, X9, e9, W9, st9⟩ := stC X8 hx hZ e8 Ar9 (j := (3 : Int32)) hin9 (g := (mkF m 100 #[.val (.long i0), .second, .val (.int i1), .val (.int i2), .val (.int (Int32.ofNat len)), .val (.int pd), .val (.int (Int32.ofNat off)), .val (.int (Int32.ofNat bf)), .val (.ref b1), .unset, .unset, .unset] [(.int y3), (.int (3 : Int32)), (.ref b1)])) rfl rfl (hb hby at_100)
  rw [hy3] at W9
  have V9 : AV Z h9 b1 .char 8 (lst [(.int y0), (.int y1), (.int y2), (.int y3), (.int (0 : Int32)), (.int (0 : Int32)), (.int (0 : Int32)), (.int (0 : Int32))]) := AV.setL V7 (k := 3) (by decide) (by decide) W9 (Nat.le_of_ble_eq_true rfl) rfl
  have N9 := Fr.snoc X9 N8 gn_b1
  have Z9 : n0 ≤ h9.size := Nat.le_trans Z7 (Keep.of_wr W9).1
  refine Go.step (st9) ?_
  show Go _ _ _ _ _ _ _ T9 (mkF m 101 _ [])
  refine Go.step (fun tt kk => XS.aload X9.here hx rfl (hb hby at_101) rfl rfl kk) ?_
  show Go _ _ _ _ _ _ _ T9 (mkF m 103 _ [(.ref b1)])
  refine Go.step (fun tt kk => XS.iconst X9.here hx rfl (hb hby at_103) kk) ?_
  show Go _ _ _ _ _ _ _ T9 (mkF m 104 _ [(.int (4 : Int32)), (.ref b1)])
  refine Go.step (fun tt kk => XS.lloadN X9.here hx rfl (hb hby at_104) rfl kk) ?_
  show Go _ _ _ _ _ _ _ T9 (mkF m 105 _ [(.long i0), (.int (4 : Int32)), (.ref b1)])
  refine Go.step (fun tt kk => XS.bipush X9.here hx rfl (hb hby at_105) kk) ?_
  show Go _ _ _ _ _ _ _ T9 (mkF m 107 _ [(.int (24 : Int32)), (.long i0), (.int (4 : Int32)), (.ref b1)])
  refine Go.step (fun tt kk => XS.lushr X9.here hx rfl (hb hby at_107) rfl kk) ?_
  show Go _ _ _ _ _ _ _ T9 (mkF m 108 _ [(.long ((i0.toUInt64 >>> ((24 : Int32) &&& 0x3f).toInt64.toUInt64).toInt64)), (.int (4 : Int32)), (.ref b1)])
  refine Go.step (X9.ldc2Long hx hown (mvT hZ (hw _ (List.mem_of_getElem? (i := 1) rfl))) (g := (mkF m 108 #[.val (.long i0), .second, .val (.int i1), .val (.int i2), .val (.int (Int32.ofNat len)), .val (.int pd), .val (.int (Int32.ofNat off)), .val (.int (Int32.ofNat bf)), .val (.ref b1), .unset, .unset, .unset] [(.long ((i0.toUInt64 >>> ((24 : Int32) &&& 0x3f).toInt64.toUInt64).toInt64)), (.int (4 : Int32)), (.ref b1)])) rfl (hb hby at_108)) ?_
  show Go _ _ _ _ _ _ _ T9 (mkF m 111 _ [(.long (63 : Int64)), (.long ((i0.toUInt64 >>> ((24 : Int32) &&& 0x3f).toInt64.toUInt64).toInt64)), (.int (4 : Int32)), (.ref b1)])
  refine Go.step (fun tt kk => XS.land X9.here hx rfl (hb hby at_111) rfl kk) ?_
  show Go _ _ _ _ _ _ _ T9 (mkF m 112 _ [(.long (((i0.toUInt64 >>> ((24 : Int32) &&& 0x3f).toInt64.toUInt64).toInt64) &&& (63 : Int64))), (.int (4 : Int32)), (.ref b1)])
  refine Go.step (fun tt kk => XS.l2i X9.here hx rfl (hb hby at_112) rfl kk) ?_
  show Go _ _ _ _ _ _ _ T9 (mkF m 113 _ [(.int ((((i0.toUInt64 >>> ((24 : Int32) &&& 0x3f).toInt64.toUInt64).toInt64) &&& (63 : Int64)).toInt32)), (.int (4 : Int32)), (.ref b1)])
  obtain ⟨v10, T10, L10, X10, q10, st10⟩ := c_static X9 hx hZ hown (y := (⟨"com/example/sharks/sharks/StandardBase64DecodePinLaw", "enc", "(I)C"⟩ : MethodName)) (hw _ (List.mem_of_getElem? (i := 2) rfl)) (hw _ (List.mem_of_getElem? (i := 3) rfl)) (hw _ (List.mem_of_getElem? (i := 4) rfl)) (hw _ (List.mem_of_getElem? (i := 5) rfl)) (by decide) (argsL := [(.int ((((i0.toUInt64 >>> ((24 : Int32) &&& 0x3f).toInt64.toUInt64).toInt64) &&& (63 : Int64)).toInt32))]) (rest := [(.int (4 : Int32)), (.ref b1)]) (rmEn l Z a0 hw [] ((((i0.toUInt64 >>> ((24 : Int32) &&& 0x3f).toInt64.toUInt64).toInt64) &&& (63 : Int64)).toInt32) h9 n0 Z9) e9 pd_4 rfl (by rw [hml]; rfl) (W := 2) (by show 2 * 0 + _ ≤ _; exact Nat.le_of_eq rfl) (by decide) (by decide) (by decide) (by decide) (hb hby at_113) (Ls := #[.val (.long i0), .second, .val (.int i1), .val (.int i2), .val (.int (Int32.ofNat len)), .val (.int pd), .val (.int (Int32.ofNat off)), .val (.int (Int32.ofNat bf)), .val (.ref b1), .unset, .unset, .unset])
  obtain ⟨y4, rfl, hy4, rfl, e10⟩ := q10
  have N10 := Fr.app N9 (Fr.nil n0)
  refine Go.step (st10) ?_
  show Go _ _ _ _ _ _ _ T10 (mkF m 116 _ [(.int y4), (.int (4 : Int32)), (.ref b1)])
  obtain ⟨cl11, Ar11, hin11, -⟩ := V9.at (j := (4 : Int32)) (k := 4) (by decide) (by decide)
  obtain ⟨T11, h11, X11, e11, W11, st11⟩ := stC X10 hx hZ e10 Ar11 (j := (4 : Int32)) hin11 (g := (mkF m 116 #[.val (.long i0), .second, .val (.int i1), .val (.int i2), .val (.int (Int32.ofNat len)), .val (.int pd), .val (.int (Int32.ofNat off)), .val (.int (Int32.ofNat bf)), .val (.ref b1), .unset, .unset, .unset] [(.int y4), (.int (4 : Int32)), (.ref b1)])) rfl rfl (hb hby at_116)
  rw [hy4] at W11
  have V11 : AV Z h11 b1 .char 8 (lst [(.int y0), (.int y1), (.int y2), (.int y3), (.int y4), (.int (0 : Int32)), (.int (0 : Int32)), (.int (0 : Int32))]) := AV.setL V9 (k := 4) (by decide) (by decide) W11 (Nat.le_of_ble_eq_true rfl) rfl
  have N11 := Fr.snoc X11 N10 gn_b1
  have Z11 : n0 ≤ h11.size := Nat.le_trans Z9 (Keep.of_wr W11).1
  refine Go.step (st11) ?_
  show Go _ _ _ _ _ _ _ T11 (mkF m 117 _ [])
  refine Go.step (fun tt kk => XS.aload X11.here hx rfl (hb hby at_117) rfl rfl kk) ?_
  show Go _ _ _ _ _ _ _ T11 (mkF m 119 _ [(.ref b1)])
  refine Go.step (fun tt kk => XS.iconst X11.here hx rfl (hb hby at_119) kk) ?_
  show Go _ _ _ _ _ _ _ T11 (mkF m 120 _ [(.int (5 : Int32)), (.ref b1)])
  refine Go.step (fun tt kk => XS.lloadN X11.here hx rfl (hb hby at_120) rfl kk) ?_
  show Go _ _ _ _ _ _ _ T11 (mkF m 121 _ [(.long i0), (.int (5 : Int32)), (.ref b1)])
  refine Go.step (fun tt kk => XS.bipush X11.here hx rfl (hb hby at_121) kk) ?_
  show Go _ _ _ _ _ _ _ T11 (mkF m 123 _ [(.int (30 : Int32)), (.long i0), (.int (5 : Int32)), (.ref b1)])
  refine Go.step (fun tt kk => XS.lushr X11.here hx rfl (hb hby at_123) rfl kk) ?_
  show Go _ _ _ _ _ _ _ T11 (mkF m 124 _ [(.long ((i0.toUInt64 >>> ((30 : Int32) &&& 0x3f).toInt64.toUInt64).toInt64)), (.int (5 : Int32)), (.ref b1)])
  refine Go.step (X11.ldc2Long hx hown (mvT hZ (hw _ (List.mem_of_getElem? (i := 1) rfl))) (g := (mkF m 124 #[.val (.long i0), .second, .val (.int i1), .val (.int i2), .val (.int (Int32.ofNat len)), .val (.int pd), .val (.int (Int32.ofNat off)), .val (.int (Int32.ofNat bf)), .val (.ref b1), .unset, .unset, .unset] [(.long ((i0.toUInt64 >>> ((30 : Int32) &&& 0x3f).toInt64.toUInt64).toInt64)), (.int (5 : Int32)), (.ref b1)])) rfl (hb hby at_124)) ?_
  show Go _ _ _ _ _ _ _ T11 (mkF m 127 _ [(.long (63 : Int64)), (.long ((i0.toUInt64 >>> ((30 : Int32) &&& 0x3f).toInt64.toUInt64).toInt64)), (.int (5 : Int32)), (.ref b1)])
  refine Go.step (fun tt kk => XS.land X11.here hx rfl (hb hby at_127) rfl kk) ?_
  show Go _ _ _ _ _ _ _ T11 (mkF m 128 _ [(.long (((i0.toUInt64 >>> ((30 : Int32) &&& 0x3f).toInt64.toUInt64).toInt64) &&& (63 : Int64))), (.int (5 : Int32)), (.ref b1)])
  refine Go.step (fun tt kk => XS.l2i X11.here hx rfl (hb hby at_128) rfl kk) ?_
  show Go _ _ _ _ _ _ _ T11 (mkF m 129 _ [(.int ((((i0.toUInt64 >>> ((30 : Int32) &&& 0x3f).toInt64.toUInt64).toInt64) &&& (63 : Int64)).toInt32)), (.int (5 : Int32)), (.ref b1)])
  obtain ⟨v12, T12, L12, X12, q12, st12⟩ := c_static X11 hx hZ hown (y := (⟨"com/example/sharks/sharks/StandardBase64DecodePinLaw", "enc", "(I)C"⟩ : MethodName)) (hw _ (List.mem_of_getElem? (i := 2) rfl)) (hw _ (List.mem_of_getElem? (i := 3) rfl)) (hw _ (List.mem_of_getElem? (i := 4) rfl)) (hw _ (List.mem_of_getElem? (i := 5) rfl)) (by decide) (argsL := [(.int ((((i0.toUInt64 >>> ((30 : Int32) &&& 0x3f).toInt64.toUInt64).toInt64) &&& (63 : Int64)).toInt32))]) (rest := [(.int (5 : Int32)), (.ref b1)]) (rmEn l Z a0 hw [] ((((i0.toUInt64 >>> ((30 : Int32) &&& 0x3f).toInt64.toUInt64).toInt64) &&& (63 : Int64)).toInt32) h11 n0 Z11) e11 pd_4 rfl (by rw [hml]; rfl) (W := 2) (by show 2 * 0 + _ ≤ _; exact Nat.le_of_eq rfl) (by decide) (by decide) (by decide) (by decide) (hb hby at_129) (Ls := #[.val (.long i0), .second, .val (.int i1), .val (.int i2), .val (.int (Int32.ofNat len)), .val (.int pd), .val (.int (Int32.ofNat off)), .val (.int (Int32.ofNat bf)), .val (.ref b1), .unset, .unset, .unset])
  obtain ⟨y5, rfl, hy5, rfl, e12⟩ := q12
  have N12 := Fr.app N11 (Fr.nil n0)
  refine Go.step (st12) ?_
  show Go _ _ _ _ _ _ _ T12 (mkF m 132 _ [(.int y5), (.int (5 : Int32)), (.ref b1)])
  obtain ⟨cl13, Ar13, hin13, -⟩ := V11.at (j := (5 : Int32)) (k := 5) (by decide) (by decide)
  obtain ⟨T13, h13, X13, e13, W13, st13⟩ := stC X12 hx hZ e12 Ar13 (j := (5 : Int32)) hin13 (g := (mkF m 132 #[.val (.long i0), .second, .val (.int i1), .val (.int i2), .val (.int (Int32.ofNat len)), .val (.int pd), .val (.int (Int32.ofNat off)), .val (.int (Int32.ofNat bf)), .val (.ref b1), .unset, .unset, .unset] [(.int y5), (.int (5 : Int32)), (.ref b1)])) rfl rfl (hb hby at_132)
  rw [hy5] at W13
  have V13 : AV Z h13 b1 .char 8 (lst [(.int y0), (.int y1), (.int y2), (.int y3), (.int y4), (.int y5), (.int (0 : Int32)), (.int (0 : Int32))]) := AV.setL V11 (k := 5) (by decide) (by decide) W13 (Nat.le_of_ble_eq_true rfl) rfl
  have N13 := Fr.snoc X13 N12 gn_b1
  have Z13 : n0 ≤ h13.size := Nat.le_trans Z11 (Keep.of_wr W13).1
  refine Go.step (st13) ?_
  show Go _ _ _ _ _ _ _ T13 (mkF m 133 _ [])
  refine Go.step (fun tt kk => XS.aload X13.here hx rfl (hb hby at_133) rfl rfl kk) ?_
  show Go _ _ _ _ _ _ _ T13 (mkF m 135 _ [(.ref b1)])
  refine Go.step (fun tt kk => XS.bipush X13.here hx rfl (hb hby at_135) kk) ?_
  show Go _ _ _ _ _ _ _ T13 (mkF m 137 _ [(.int (6 : Int32)), (.ref b1)])
  refine Go.step (fun tt kk => XS.lloadN X13.here hx rfl (hb hby at_137) rfl kk) ?_
  show Go _ _ _ _ _ _ _ T13 (mkF m 138 _ [(.long i0), (.int (6 : Int32)), (.ref b1)])
  refine Go.step (fun tt kk => XS.bipush X13.here hx rfl (hb hby at_138) kk) ?_
  show Go _ _ _ _ _ _ _ T13 (mkF m 140 _ [(.int (36 : Int32)), (.long i0), (.int (6 : Int32)), (.ref b1)])
  refine Go.step (fun tt kk => XS.lushr X13.here hx rfl (hb hby at_140) rfl kk) ?_
  show Go _ _ _ _ _ _ _ T13 (mkF m 141 _ [(.long ((i0.toUInt64 >>> ((36 : Int32) &&& 0x3f).toInt64.toUInt64).toInt64)), (.int (6 : Int32)), (.ref b1)])
  refine Go.step (X13.ldc2Long hx hown (mvT hZ (hw _ (List.mem_of_getElem? (i := 1) rfl))) (g := (mkF m 141 #[.val (.long i0), .second, .val (.int i1), .val (.int i2), .val (.int (Int32.ofNat len)), .val (.int pd), .val (.int (Int32.ofNat off)), .val (.int (Int32.ofNat bf)), .val (.ref b1), .unset, .unset, .unset] [(.long ((i0.toUInt64 >>> ((36 : Int32) &&& 0x3f).toInt64.toUInt64).toInt64)), (.int (6 : Int32)), (.ref b1)])) rfl (hb hby at_141)) ?_
  show Go _ _ _ _ _ _ _ T13 (mkF m 144 _ [(.long (63 : Int64)), (.long ((i0.toUInt64 >>> ((36 : Int32) &&& 0x3f).toInt64.toUInt64).toInt64)), (.int (6 : Int32)), (.ref b1)])
  refine Go.step (fun tt kk => XS.land X13.here hx rfl (hb hby at_144) rfl kk) ?_
  show Go _ _ _ _ _ _ _ T13 (mkF m 145 _ [(.long (((i0.toUInt64 >>> ((36 : Int32) &&& 0x3f).toInt64.toUInt64).toInt64) &&& (63 : Int64))), (.int (6 : Int32)), (.ref b1)])
  refine Go.step (fun tt kk => XS.l2i X13.here hx rfl (hb hby at_145) rfl kk) ?_
  show Go _ _ _ _ _ _ _ T13 (mkF m 146 _ [(.int ((((i0.toUInt64 >>> ((36 : Int32) &&& 0x3f).toInt64.toUInt64).toInt64) &&& (63 : Int64)).toInt32)), (.int (6 : Int32)), (.ref b1)])
  obtain ⟨v14, T14, L14, X14, q14, st14⟩ := c_static X13 hx hZ hown (y := (⟨"com/example/sharks/sharks/StandardBase64DecodePinLaw", "enc", "(I)C"⟩ : MethodName)) (hw _ (List.mem_of_getElem? (i := 2) rfl)) (hw _ (List.mem_of_getElem? (i := 3) rfl)) (hw _ (List.mem_of_getElem? (i := 4) rfl)) (hw _ (List.mem_of_getElem? (i := 5) rfl)) (by decide) (argsL := [(.int ((((i0.toUInt64 >>> ((36 : Int32) &&& 0x3f).toInt64.toUInt64).toInt64) &&& (63 : Int64)).toInt32))]) (rest := [(.int (6 : Int32)), (.ref b1)]) (rmEn l Z a0 hw [] ((((i0.toUInt64 >>> ((36 : Int32) &&& 0x3f).toInt64.toUInt64).toInt64) &&& (63 : Int64)).toInt32) h13 n0 Z13) e13 pd_4 rfl (by rw [hml]; rfl) (W := 2) (by show 2 * 0 + _ ≤ _; exact Nat.le_of_eq rfl) (by decide) (by decide) (by decide) (by decide) (hb hby at_146) (Ls := #[.val (.long i0), .second, .val (.int i1), .val (.int i2), .val (.int (Int32.ofNat len)), .val (.int pd), .val (.int (Int32.ofNat off)), .val (.int (Int32.ofNat bf)), .val (.ref b1), .unset, .unset, .unset])
  obtain ⟨y6, rfl, hy6, rfl, e14⟩ := q14
  have N14 := Fr.app N13 (Fr.nil n0)
  refine Go.step (st14) ?_
  show Go _ _ _ _ _ _ _ T14 (mkF m 149 _ [(.int y6), (.int (6 : Int32)), (.ref b1)])
  obtain ⟨cl15, Ar15, hin15, -⟩ := V13.at (j := (6 : Int32)) (k := 6) (by decide) (by decide)
  obtain ⟨T15, h15, X15, e15, W15, st15⟩ := stC X14 hx hZ e14 Ar15 (j := (6 : Int32)) hin15 (g := (mkF m 149 #[.val (.long i0), .second, .val (.int i1), .val (.int i2), .val (.int (Int32.ofNat len)), .val (.int pd), .val (.int (Int32.ofNat off)), .val (.int (Int32.ofNat bf)), .val (.ref b1), .unset, .unset, .unset] [(.int y6), (.int (6 : Int32)), (.ref b1)])) rfl rfl (hb hby at_149)
  rw [hy6] at W15
  have V15 : AV Z h15 b1 .char 8 (lst [(.int y0), (.int y1), (.int y2), (.int y3), (.int y4), (.int y5), (.int y6), (.int (0 : Int32))]) := AV.setL V13 (k := 6) (by decide) (by decide) W15 (Nat.le_of_ble_eq_true rfl) rfl
  have N15 := Fr.snoc X15 N14 gn_b1
  have Z15 : n0 ≤ h15.size := Nat.le_trans Z13 (Keep.of_wr W15).1
  refine Go.step (st15) ?_
  show Go _ _ _ _ _ _ _ T15 (mkF m 150 _ [])
  refine Go.step (fun tt kk => XS.aload X15.here hx rfl (hb hby at_150) rfl rfl kk) ?_
  show Go _ _ _ _ _ _ _ T15 (mkF m 152 _ [(.ref b1)])
  refine Go.step (fun tt kk => XS.bipush X15.here hx rfl (hb hby at_152) kk) ?_
  show Go _ _ _ _ _ _ _ T15 (mkF m 154 _ [(.int (7 : Int32)), (.ref b1)])
  refine Go.step (fun tt kk => XS.lloadN X15.here hx rfl (hb hby at_154) rfl kk) ?_
  show Go _ _ _ _ _ _ _ T15 (mkF m 155 _ [(.long i0), (.int (7 : Int32)), (.ref b1)])
  refine Go.step (fun tt kk => XS.bipush X15.here hx rfl (hb hby at_155) kk) ?_
  show Go _ _ _ _ _ _ _ T15 (mkF m 157 _ [(.int (42 : Int32)), (.long i0), (.int (7 : Int32)), (.ref b1)])
  refine Go.step (fun tt kk => XS.lushr X15.here hx rfl (hb hby at_157) rfl kk) ?_
  show Go _ _ _ _ _ _ _ T15 (mkF m 158 _ [(.long ((i0.toUInt64 >>> ((42 : Int32) &&& 0x3f).toInt64.toUInt64).toInt64)), (.int (7 : Int32)), (.ref b1)])
  refine Go.step (X15.ldc2Long hx hown (mvT hZ (hw _ (List.mem_of_getElem? (i := 1) rfl))) (g := (mkF m 158 #[.val (.long i0), .second, .val (.int i1), .val (.int i2), .val (.int (Int32.ofNat len)), .val (.int pd), .val (.int (Int32.ofNat off)), .val (.int (Int32.ofNat bf)), .val (.ref b1), .unset, .unset, .unset] [(.long ((i0.toUInt64 >>> ((42 : Int32) &&& 0x3f).toInt64.toUInt64).toInt64)), (.int (7 : Int32)), (.ref b1)])) rfl (hb hby at_158)) ?_
  show Go _ _ _ _ _ _ _ T15 (mkF m 161 _ [(.long (63 : Int64)), (.long ((i0.toUInt64 >>> ((42 : Int32) &&& 0x3f).toInt64.toUInt64).toInt64)), (.int (7 : Int32)), (.ref b1)])
  refine Go.step (fun tt kk => XS.land X15.here hx rfl (hb hby at_161) rfl kk) ?_
  show Go _ _ _ _ _ _ _ T15 (mkF m 162 _ [(.long (((i0.toUInt64 >>> ((42 : Int32) &&& 0x3f).toInt64.toUInt64).toInt64) &&& (63 : Int64))), (.int (7 : Int32)), (.ref b1)])
  refine Go.step (fun tt kk => XS.l2i X15.here hx rfl (hb hby at_162) rfl kk) ?_
  show Go _ _ _ _ _ _ _ T15 (mkF m 163 _ [(.int ((((i0.toUInt64 >>> ((42 : Int32) &&& 0x3f).toInt64.toUInt64).toInt64) &&& (63 : Int64)).toInt32)), (.int (7 : Int32)), (.ref b1)])
  obtain ⟨v16, T16, L16, X16, q16, st16⟩ := c_static X15 hx hZ hown (y := (⟨"com/example/sharks/sharks/StandardBase64DecodePinLaw", "enc", "(I)C"⟩ : MethodName)) (hw _ (List.mem_of_getElem? (i := 2) rfl)) (hw _ (List.mem_of_getElem? (i := 3) rfl)) (hw _ (List.mem_of_getElem? (i := 4) rfl)) (hw _ (List.mem_of_getElem? (i := 5) rfl)) (by decide) (argsL := [(.int ((((i0.toUInt64 >>> ((42 : Int32) &&& 0x3f).toInt64.toUInt64).toInt64) &&& (63 : Int64)).toInt32))]) (rest := [(.int (7 : Int32)), (.ref b1)]) (rmEn l Z a0 hw [] ((((i0.toUInt64 >>> ((42 : Int32) &&& 0x3f).toInt64.toUInt64).toInt64) &&& (63 : Int64)).toInt32) h15 n0 Z15) e15 pd_4 rfl (by rw [hml]; rfl) (W := 2) (by show 2 * 0 + _ ≤ _; exact Nat.le_of_eq rfl) (by decide) (by decide) (by decide) (by decide) (hb hby at_163) (Ls := #[.val (.long i0), .second, .val (.int i1), .val (.int i2), .val (.int (Int32.ofNat len)), .val (.int pd), .val (.int (Int32.ofNat off)), .val (.int (Int32.ofNat bf)), .val (.ref b1), .unset, .unset, .unset])
  obtain ⟨y7, rfl, hy7, rfl, e16⟩ := q16
  have N16 := Fr.app N15 (Fr.nil n0)
  refine Go.step (st16) ?_
  show Go _ _ _ _ _ _ _ T16 (mkF m 166 _ [(.int y7), (.int (7 : Int32)), (.ref b1)])
  obtain ⟨cl17, Ar17, hin17, -⟩ := V15.at (j := (7 : Int32)) (k := 7) (by decide) (by decide)
  obtain ⟨T17, h17, X17, e17, W17, st17⟩ := stC X16 hx hZ e16 Ar17 (j := (7 : Int32)) hin17 (g := (mkF m 166 #[.val (.long i0), .second, .val (.int i1), .val (.int i2), .val (.int (Int32.ofNat len)), .val (.int pd), .val (.int (Int32.ofNat off)), .val (.int (Int32.ofNat bf)), .val (.ref b1), .unset, .unset, .unset] [(.int y7), (.int (7 : Int32)), (.ref b1)])) rfl rfl (hb hby at_166)
  rw [hy7] at W17
  have V17 : AV Z h17 b1 .char 8 (lst [(.int y0), (.int y1), (.int y2), (.int y3), (.int y4), (.int y5), (.int y6), (.int y7)]) := AV.setL V15 (k := 7) (by decide) (by decide) W17 (Nat.le_of_ble_eq_true rfl) rfl
  have N17 := Fr.snoc X17 N16 gn_b1
  have Z17 : n0 ≤ h17.size := Nat.le_trans Z15 (Keep.of_wr W17).1
  refine Go.step (st17) ?_
  show Go _ _ _ _ _ _ _ T17 (mkF m 167 _ [])
  obtain ⟨g, hg, V18⟩ : ∃ g : Nat → Int32, CH g ∧ AV Z h17 b1 .char 8 (gv g) := by
    refine ⟨fun i => if i = 0 then y0 else if i = 1 then y1 else if i = 2 then y2 else if i = 3 then y3 else if i = 4 then y4 else if i = 5 then y5 else if i = 6 then y6 else y7, fun i hi => ?_, V17.congr fun i hi => ?_⟩
    · rcases (by omega : i = 0 ∨ i = 1 ∨ i = 2 ∨ i = 3 ∨ i = 4 ∨ i = 5 ∨ i = 6 ∨ i = 7) with rfl | rfl | rfl | rfl | rfl | rfl | rfl | rfl
      · exact hy0
      · exact hy1
      · exact hy2
      · exact hy3
      · exact hy4
      · exact hy5
      · exact hy6
      · exact hy7
    · rcases (by omega : i = 0 ∨ i = 1 ∨ i = 2 ∨ i = 3 ∨ i = 4 ∨ i = 5 ∨ i = 6 ∨ i = 7) with rfl | rfl | rfl | rfl | rfl | rfl | rfl | rfl <;> rfl
  have k188 : ∀ (g1 : Nat → Int32) (T188 : State) (lc188 : List Loc) (hh188 : Heap) (X188 : Stand p l e room_1 s m #[(.long i0), (.int i1), (.int i2)] below meth c T188 lc188 1 8) (e188 : T188.heap = hh188) (N188 : Fr n0 lc188) (Z188 : n0 ≤ hh188.size) (f188_0 : AV Z hh188 b1 .char 8 (gv g1)) (f188_1 : AV Z hh188 va .byte 128 vt) (f188_2 : Sta Z hh188 "com/example/sharks/sharks/StandardBase64" "VALUES" "[B" (.ref va)) (hg1 : CH g1),
      Go p e s below 16 192 (fun v h L => v = some (.int (1 : Int32)) ∧ Fr n0 L) T188 (mkF m 188 #[.val (.long i0), .second, .val (.int i1), .val (.int i2), .val (.int (Int32.ofNat len)), .val (.int pd), .val (.int (Int32.ofNat off)), .val (.int (Int32.ofNat bf)), .val (.ref b1), .unset, .unset, .unset] []) := by
    intro g1 T188 lc188 hh188 X188 e188 N188 Z188 f188_0 f188_1 f188_2 hg1
    have k209 : ∀ (g2 : Nat → Int32) (T209 : State) (lc209 : List Loc) (hh209 : Heap) (X209 : Stand p l e room_1 s m #[(.long i0), (.int i1), (.int i2)] below meth c T209 lc209 1 8) (e209 : T209.heap = hh209) (N209 : Fr n0 lc209) (Z209 : n0 ≤ hh209.size) (f209_0 : AV Z hh209 b1 .char 8 (gv g2)) (f209_1 : AV Z hh209 va .byte 128 vt) (f209_2 : Sta Z hh209 "com/example/sharks/sharks/StandardBase64" "VALUES" "[B" (.ref va)) (hg2 : CH g2),
        Go p e s below 16 192 (fun v h L => v = some (.int (1 : Int32)) ∧ Fr n0 L) T209 (mkF m 209 #[.val (.long i0), .second, .val (.int i1), .val (.int i2), .val (.int (Int32.ofNat len)), .val (.int pd), .val (.int (Int32.ofNat off)), .val (.int (Int32.ofNat bf)), .val (.ref b1), .unset, .unset, .unset] []) := by
      intro g2 T209 lc209 hh209 X209 e209 N209 Z209 f209_0 f209_1 f209_2 hg2
      refine Go.step (fun tt kk => XS.iloadN X209.here hx rfl (hb hby at_209) rfl kk) ?_
      show Go _ _ _ _ _ _ _ T209 (mkF m 210 _ [(.int i2)])
      refine Go.step (fun tt kk => XS.bipush X209.here hx rfl (hb hby at_210) kk) ?_
      show Go _ _ _ _ _ _ _ T209 (mkF m 212 _ [(.int (16 : Int32)), (.int i2)])
      refine Go.step (fun tt kk => XS.iushr X209.here hx rfl (hb hby at_212) rfl kk) ?_
      show Go _ _ _ _ _ _ _ T209 (mkF m 213 _ [(.int ((i2.toUInt32 >>> ((16 : Int32) &&& 31).toUInt32).toInt32))])
      refine Go.step (fun tt kk => XS.bipush X209.here hx rfl (hb hby at_213) kk) ?_
      show Go _ _ _ _ _ _ _ T209 (mkF m 215 _ [(.int (15 : Int32)), (.int ((i2.toUInt32 >>> ((16 : Int32) &&& 31).toUInt32).toInt32))])
      refine Go.step (fun tt kk => XS.iand X209.here hx rfl (hb hby at_215) rfl kk) ?_
      show Go _ _ _ _ _ _ _ T209 (mkF m 216 _ [(.int (((i2.toUInt32 >>> ((16 : Int32) &&& 31).toUInt32).toInt32) &&& (15 : Int32)))])
      refine Go.step (fun tt kk => XS.istore X209.here hx rfl (hb hby at_216) rfl (l' := #[.val (.long i0), .second, .val (.int i1), .val (.int i2), .val (.int (Int32.ofNat len)), .val (.int pd), .val (.int (Int32.ofNat off)), .val (.int (Int32.ofNat bf)), .val (.ref b1), .val (.int (((i2.toUInt32 >>> ((16 : Int32) &&& 31).toUInt32).toInt32) &&& (15 : Int32))), .unset, .unset]) rfl kk) ?_
      show Go _ _ _ _ _ _ _ T209 (mkF m 218 _ [])
      obtain ⟨pos, hps, eps⟩ := own_and15 ((i2.toUInt32 >>> ((16 : Int32) &&& 31).toUInt32).toInt32)
      rw [eps]
      show Go _ _ _ _ _ _ _ T209 (mkF m 218 #[.val (.long i0), .second, .val (.int i1), .val (.int i2), .val (.int (Int32.ofNat len)), .val (.int pd), .val (.int (Int32.ofNat off)), .val (.int (Int32.ofNat bf)), .val (.ref b1), .val (.int (Int32.ofNat pos)), .unset, .unset] [])
      have k235 : ∀ (g3 : Nat → Int32) (T235 : State) (lc235 : List Loc) (hh235 : Heap) (X235 : Stand p l e room_1 s m #[(.long i0), (.int i1), (.int i2)] below meth c T235 lc235 1 8) (e235 : T235.heap = hh235) (N235 : Fr n0 lc235) (Z235 : n0 ≤ hh235.size) (f235_0 : AV Z hh235 b1 .char 8 (gv g3)) (f235_1 : AV Z hh235 va .byte 128 vt) (f235_2 : Sta Z hh235 "com/example/sharks/sharks/StandardBase64" "VALUES" "[B" (.ref va)) (hg3 : CH g3),
          Go p e s below 16 192 (fun v h L => v = some (.int (1 : Int32)) ∧ Fr n0 L) T235 (mkF m 235 #[.val (.long i0), .second, .val (.int i1), .val (.int i2), .val (.int (Int32.ofNat len)), .val (.int pd), .val (.int (Int32.ofNat off)), .val (.int (Int32.ofNat bf)), .val (.ref b1), .val (.int (Int32.ofNat pos)), .unset, .unset] []) := by
        intro g3 T235 lc235 hh235 X235 e235 N235 Z235 f235_0 f235_1 f235_2 hg3
        refine Go.step (fun tt kk => XS.bipush X235.here hx rfl (hb hby at_235) kk) ?_
        show Go _ _ _ _ _ _ _ T235 (mkF m 237 _ [(.int (12 : Int32))])
        obtain ⟨T19, h19, k19, X19, e19, E19, A19, EA19, st19⟩ := newPE X235 hx hZ (hw _ (List.mem_of_getElem? (i := 0) rfl)) e235 (g := (mkF m 237 #[.val (.long i0), .second, .val (.int i1), .val (.int i2), .val (.int (Int32.ofNat len)), .val (.int pd), .val (.int (Int32.ofNat off)), .val (.int (Int32.ofNat bf)), .val (.ref b1), .val (.int (Int32.ofNat pos)), .unset, .unset] [(.int (12 : Int32))])) rfl (hb hby at_237) rfl (by decide) (cap := 12) (by decide) (by decide) (by decide) (by decide) (ad := "[C") rfl
        obtain ⟨b19, g19⟩ : ∃ z, z = hh235.size := ⟨_, rfl⟩
        rw [← g19] at A19 EA19 st19
        have ne_va_b19 : va ≠ b19 := Nat.ne_of_lt (Nat.lt_of_lt_of_le f235_1.lt (Nat.le_of_eq g19.symm))
        have ne_b1_b19 : b1 ≠ b19 := Nat.ne_of_lt (Nat.lt_of_lt_of_le f235_0.lt (Nat.le_of_eq g19.symm))
        have gn_b19 : n0 ≤ b19 := Nat.le_trans Z235 (Nat.le_of_eq g19.symm)
        have Z19 : n0 ≤ h19.size := Nat.le_trans Z235 E19.1
        have V19 : AV Z h19 b19 .char 12 (lst [(.int (0 : Int32)), (.int (0 : Int32)), (.int (0 : Int32)), (.int (0 : Int32)), (.int (0 : Int32)), (.int (0 : Int32)), (.int (0 : Int32)), (.int (0 : Int32)), (.int (0 : Int32)), (.int (0 : Int32)), (.int (0 : Int32)), (.int (0 : Int32))]) := AV.newL (AV.new A19 (by decide)) rfl
        refine Go.step (st19) ?_
        show Go _ _ _ _ _ _ _ T19 (mkF m 239 _ [(.ref b19)])
        refine Go.step (fun tt kk => XS.dup X19.here hx rfl (hb hby at_239) rfl rfl kk) ?_
        show Go _ _ _ _ _ _ _ T19 (mkF m 240 _ [(.ref b19), (.ref b19)])
        refine Go.step (fun tt kk => XS.iconst X19.here hx rfl (hb hby at_240) kk) ?_
        show Go _ _ _ _ _ _ _ T19 (mkF m 241 _ [(.int (0 : Int32)), (.ref b19), (.ref b19)])
        refine Go.step (fun tt kk => XS.bipush X19.here hx rfl (hb hby at_241) kk) ?_
        show Go _ _ _ _ _ _ _ T19 (mkF m 243 _ [(.int (61 : Int32)), (.int (0 : Int32)), (.ref b19), (.ref b19)])
        obtain ⟨cl20, Ar20, hin20, -⟩ := V19.at (j := (0 : Int32)) (k := 0) (by decide) (by decide)
        obtain ⟨T20, h20, X20, e20, W20, st20⟩ := stC X19 hx hZ e19 Ar20 (j := (0 : Int32)) hin20 (g := (mkF m 243 #[.val (.long i0), .second, .val (.int i1), .val (.int i2), .val (.int (Int32.ofNat len)), .val (.int pd), .val (.int (Int32.ofNat off)), .val (.int (Int32.ofNat bf)), .val (.ref b1), .val (.int (Int32.ofNat pos)), .unset, .unset] [(.int (61 : Int32)), (.int (0 : Int32)), (.ref b19), (.ref b19)])) rfl rfl (hb hby at_243)
        rw [show nar .char (61 : Int32) = (61 : Int32) from by decide] at W20
        have V20 : AV Z h20 b19 .char 12 (lst [(.int (61 : Int32)), (.int (0 : Int32)), (.int (0 : Int32)), (.int (0 : Int32)), (.int (0 : Int32)), (.int (0 : Int32)), (.int (0 : Int32)), (.int (0 : Int32)), (.int (0 : Int32)), (.int (0 : Int32)), (.int (0 : Int32)), (.int (0 : Int32))]) := AV.setL V19 (k := 0) (by decide) (by decide) W20 (Nat.le_of_ble_eq_true rfl) rfl
        have N20 := Fr.snoc X20 N235 gn_b19
        have Z20 : n0 ≤ h20.size := Nat.le_trans Z19 (Keep.of_wr W20).1
        refine Go.step (st20) ?_
        show Go _ _ _ _ _ _ _ T20 (mkF m 244 _ [(.ref b19)])
        refine Go.step (fun tt kk => XS.dup X20.here hx rfl (hb hby at_244) rfl rfl kk) ?_
        show Go _ _ _ _ _ _ _ T20 (mkF m 245 _ [(.ref b19), (.ref b19)])
        refine Go.step (fun tt kk => XS.iconst X20.here hx rfl (hb hby at_245) kk) ?_
        show Go _ _ _ _ _ _ _ T20 (mkF m 246 _ [(.int (1 : Int32)), (.ref b19), (.ref b19)])
        refine Go.step (fun tt kk => XS.bipush X20.here hx rfl (hb hby at_246) kk) ?_
        show Go _ _ _ _ _ _ _ T20 (mkF m 248 _ [(.int (61 : Int32)), (.int (1 : Int32)), (.ref b19), (.ref b19)])
        obtain ⟨cl21, Ar21, hin21, -⟩ := V20.at (j := (1 : Int32)) (k := 1) (by decide) (by decide)
        obtain ⟨T21, h21, X21, e21, W21, st21⟩ := stC X20 hx hZ e20 Ar21 (j := (1 : Int32)) hin21 (g := (mkF m 248 #[.val (.long i0), .second, .val (.int i1), .val (.int i2), .val (.int (Int32.ofNat len)), .val (.int pd), .val (.int (Int32.ofNat off)), .val (.int (Int32.ofNat bf)), .val (.ref b1), .val (.int (Int32.ofNat pos)), .unset, .unset] [(.int (61 : Int32)), (.int (1 : Int32)), (.ref b19), (.ref b19)])) rfl rfl (hb hby at_248)
        rw [show nar .char (61 : Int32) = (61 : Int32) from by decide] at W21
        have V21 : AV Z h21 b19 .char 12 (lst [(.int (61 : Int32)), (.int (61 : Int32)), (.int (0 : Int32)), (.int (0 : Int32)), (.int (0 : Int32)), (.int (0 : Int32)), (.int (0 : Int32)), (.int (0 : Int32)), (.int (0 : Int32)), (.int (0 : Int32)), (.int (0 : Int32)), (.int (0 : Int32))]) := AV.setL V20 (k := 1) (by decide) (by decide) W21 (Nat.le_of_ble_eq_true rfl) rfl
        have N21 := Fr.snoc X21 N20 gn_b19
        have Z21 : n0 ≤ h21.size := Nat.le_trans Z20 (Keep.of_wr W21).1
        refine Go.step (st21) ?_
        show Go _ _ _ _ _ _ _ T21 (mkF m 249 _ [(.ref b19)])
        refine Go.step (fun tt kk => XS.dup X21.here hx rfl (hb hby at_249) rfl rfl kk) ?_
        show Go _ _ _ _ _ _ _ T21 (mkF m 250 _ [(.ref b19), (.ref b19)])
        refine Go.step (fun tt kk => XS.iconst X21.here hx rfl (hb hby at_250) kk) ?_
        show Go _ _ _ _ _ _ _ T21 (mkF m 251 _ [(.int (2 : Int32)), (.ref b19), (.ref b19)])
        refine Go.step (fun tt kk => XS.bipush X21.here hx rfl (hb hby at_251) kk) ?_
        show Go _ _ _ _ _ _ _ T21 (mkF m 253 _ [(.int (61 : Int32)), (.int (2 : Int32)), (.ref b19), (.ref b19)])
        obtain ⟨cl22, Ar22, hin22, -⟩ := V21.at (j := (2 : Int32)) (k := 2) (by decide) (by decide)
        obtain ⟨T22, h22, X22, e22, W22, st22⟩ := stC X21 hx hZ e21 Ar22 (j := (2 : Int32)) hin22 (g := (mkF m 253 #[.val (.long i0), .second, .val (.int i1), .val (.int i2), .val (.int (Int32.ofNat len)), .val (.int pd), .val (.int (Int32.ofNat off)), .val (.int (Int32.ofNat bf)), .val (.ref b1), .val (.int (Int32.ofNat pos)), .unset, .unset] [(.int (61 : Int32)), (.int (2 : Int32)), (.ref b19), (.ref b19)])) rfl rfl (hb hby at_253)
        rw [show nar .char (61 : Int32) = (61 : Int32) from by decide] at W22
        have V22 : AV Z h22 b19 .char 12 (lst [(.int (61 : Int32)), (.int (61 : Int32)), (.int (61 : Int32)), (.int (0 : Int32)), (.int (0 : Int32)), (.int (0 : Int32)), (.int (0 : Int32)), (.int (0 : Int32)), (.int (0 : Int32)), (.int (0 : Int32)), (.int (0 : Int32)), (.int (0 : Int32))]) := AV.setL V21 (k := 2) (by decide) (by decide) W22 (Nat.le_of_ble_eq_true rfl) rfl
        have N22 := Fr.snoc X22 N21 gn_b19
        have Z22 : n0 ≤ h22.size := Nat.le_trans Z21 (Keep.of_wr W22).1
        refine Go.step (st22) ?_
        show Go _ _ _ _ _ _ _ T22 (mkF m 254 _ [(.ref b19)])
        refine Go.step (fun tt kk => XS.dup X22.here hx rfl (hb hby at_254) rfl rfl kk) ?_
        show Go _ _ _ _ _ _ _ T22 (mkF m 255 _ [(.ref b19), (.ref b19)])
        refine Go.step (fun tt kk => XS.iconst X22.here hx rfl (hb hby at_255) kk) ?_
        show Go _ _ _ _ _ _ _ T22 (mkF m 256 _ [(.int (3 : Int32)), (.ref b19), (.ref b19)])
        refine Go.step (fun tt kk => XS.bipush X22.here hx rfl (hb hby at_256) kk) ?_
        show Go _ _ _ _ _ _ _ T22 (mkF m 258 _ [(.int (61 : Int32)), (.int (3 : Int32)), (.ref b19), (.ref b19)])
        obtain ⟨cl23, Ar23, hin23, -⟩ := V22.at (j := (3 : Int32)) (k := 3) (by decide) (by decide)
        obtain ⟨T23, h23, X23, e23, W23, st23⟩ := stC X22 hx hZ e22 Ar23 (j := (3 : Int32)) hin23 (g := (mkF m 258 #[.val (.long i0), .second, .val (.int i1), .val (.int i2), .val (.int (Int32.ofNat len)), .val (.int pd), .val (.int (Int32.ofNat off)), .val (.int (Int32.ofNat bf)), .val (.ref b1), .val (.int (Int32.ofNat pos)), .unset, .unset] [(.int (61 : Int32)), (.int (3 : Int32)), (.ref b19), (.ref b19)])) rfl rfl (hb hby at_258)
        rw [show nar .char (61 : Int32) = (61 : Int32) from by decide] at W23
        have V23 : AV Z h23 b19 .char 12 (lst [(.int (61 : Int32)), (.int (61 : Int32)), (.int (61 : Int32)), (.int (61 : Int32)), (.int (0 : Int32)), (.int (0 : Int32)), (.int (0 : Int32)), (.int (0 : Int32)), (.int (0 : Int32)), (.int (0 : Int32)), (.int (0 : Int32)), (.int (0 : Int32))]) := AV.setL V22 (k := 3) (by decide) (by decide) W23 (Nat.le_of_ble_eq_true rfl) rfl
        have N23 := Fr.snoc X23 N22 gn_b19
        have Z23 : n0 ≤ h23.size := Nat.le_trans Z22 (Keep.of_wr W23).1
        refine Go.step (st23) ?_
        show Go _ _ _ _ _ _ _ T23 (mkF m 259 _ [(.ref b19)])
        refine Go.step (fun tt kk => XS.dup X23.here hx rfl (hb hby at_259) rfl rfl kk) ?_
        show Go _ _ _ _ _ _ _ T23 (mkF m 260 _ [(.ref b19), (.ref b19)])
        refine Go.step (fun tt kk => XS.iconst X23.here hx rfl (hb hby at_260) kk) ?_
        show Go _ _ _ _ _ _ _ T23 (mkF m 261 _ [(.int (4 : Int32)), (.ref b19), (.ref b19)])
        refine Go.step (fun tt kk => XS.bipush X23.here hx rfl (hb hby at_261) kk) ?_
        show Go _ _ _ _ _ _ _ T23 (mkF m 263 _ [(.int (61 : Int32)), (.int (4 : Int32)), (.ref b19), (.ref b19)])
        obtain ⟨cl24, Ar24, hin24, -⟩ := V23.at (j := (4 : Int32)) (k := 4) (by decide) (by decide)
        obtain ⟨T24, h24, X24, e24, W24, st24⟩ := stC X23 hx hZ e23 Ar24 (j := (4 : Int32)) hin24 (g := (mkF m 263 #[.val (.long i0), .second, .val (.int i1), .val (.int i2), .val (.int (Int32.ofNat len)), .val (.int pd), .val (.int (Int32.ofNat off)), .val (.int (Int32.ofNat bf)), .val (.ref b1), .val (.int (Int32.ofNat pos)), .unset, .unset] [(.int (61 : Int32)), (.int (4 : Int32)), (.ref b19), (.ref b19)])) rfl rfl (hb hby at_263)
        rw [show nar .char (61 : Int32) = (61 : Int32) from by decide] at W24
        have V24 : AV Z h24 b19 .char 12 (lst [(.int (61 : Int32)), (.int (61 : Int32)), (.int (61 : Int32)), (.int (61 : Int32)), (.int (61 : Int32)), (.int (0 : Int32)), (.int (0 : Int32)), (.int (0 : Int32)), (.int (0 : Int32)), (.int (0 : Int32)), (.int (0 : Int32)), (.int (0 : Int32))]) := AV.setL V23 (k := 4) (by decide) (by decide) W24 (Nat.le_of_ble_eq_true rfl) rfl
        have N24 := Fr.snoc X24 N23 gn_b19
        have Z24 : n0 ≤ h24.size := Nat.le_trans Z23 (Keep.of_wr W24).1
        refine Go.step (st24) ?_
        show Go _ _ _ _ _ _ _ T24 (mkF m 264 _ [(.ref b19)])
        refine Go.step (fun tt kk => XS.dup X24.here hx rfl (hb hby at_264) rfl rfl kk) ?_
        show Go _ _ _ _ _ _ _ T24 (mkF m 265 _ [(.ref b19), (.ref b19)])
        refine Go.step (fun tt kk => XS.iconst X24.here hx rfl (hb hby at_265) kk) ?_
        show Go _ _ _ _ _ _ _ T24 (mkF m 266 _ [(.int (5 : Int32)), (.ref b19), (.ref b19)])
        refine Go.step (fun tt kk => XS.bipush X24.here hx rfl (hb hby at_266) kk) ?_
        show Go _ _ _ _ _ _ _ T24 (mkF m 268 _ [(.int (61 : Int32)), (.int (5 : Int32)), (.ref b19), (.ref b19)])
        obtain ⟨cl25, Ar25, hin25, -⟩ := V24.at (j := (5 : Int32)) (k := 5) (by decide) (by decide)
        obtain ⟨T25, h25, X25, e25, W25, st25⟩ := stC X24 hx hZ e24 Ar25 (j := (5 : Int32)) hin25 (g := (mkF m 268 #[.val (.long i0), .second, .val (.int i1), .val (.int i2), .val (.int (Int32.ofNat len)), .val (.int pd), .val (.int (Int32.ofNat off)), .val (.int (Int32.ofNat bf)), .val (.ref b1), .val (.int (Int32.ofNat pos)), .unset, .unset] [(.int (61 : Int32)), (.int (5 : Int32)), (.ref b19), (.ref b19)])) rfl rfl (hb hby at_268)
        rw [show nar .char (61 : Int32) = (61 : Int32) from by decide] at W25
        have V25 : AV Z h25 b19 .char 12 (lst [(.int (61 : Int32)), (.int (61 : Int32)), (.int (61 : Int32)), (.int (61 : Int32)), (.int (61 : Int32)), (.int (61 : Int32)), (.int (0 : Int32)), (.int (0 : Int32)), (.int (0 : Int32)), (.int (0 : Int32)), (.int (0 : Int32)), (.int (0 : Int32))]) := AV.setL V24 (k := 5) (by decide) (by decide) W25 (Nat.le_of_ble_eq_true rfl) rfl
        have N25 := Fr.snoc X25 N24 gn_b19
        have Z25 : n0 ≤ h25.size := Nat.le_trans Z24 (Keep.of_wr W25).1
        refine Go.step (st25) ?_
        show Go _ _ _ _ _ _ _ T25 (mkF m 269 _ [(.ref b19)])
        refine Go.step (fun tt kk => XS.dup X25.here hx rfl (hb hby at_269) rfl rfl kk) ?_
        show Go _ _ _ _ _ _ _ T25 (mkF m 270 _ [(.ref b19), (.ref b19)])
        refine Go.step (fun tt kk => XS.bipush X25.here hx rfl (hb hby at_270) kk) ?_
        show Go _ _ _ _ _ _ _ T25 (mkF m 272 _ [(.int (6 : Int32)), (.ref b19), (.ref b19)])
        refine Go.step (fun tt kk => XS.bipush X25.here hx rfl (hb hby at_272) kk) ?_
        show Go _ _ _ _ _ _ _ T25 (mkF m 274 _ [(.int (61 : Int32)), (.int (6 : Int32)), (.ref b19), (.ref b19)])
        obtain ⟨cl26, Ar26, hin26, -⟩ := V25.at (j := (6 : Int32)) (k := 6) (by decide) (by decide)
        obtain ⟨T26, h26, X26, e26, W26, st26⟩ := stC X25 hx hZ e25 Ar26 (j := (6 : Int32)) hin26 (g := (mkF m 274 #[.val (.long i0), .second, .val (.int i1), .val (.int i2), .val (.int (Int32.ofNat len)), .val (.int pd), .val (.int (Int32.ofNat off)), .val (.int (Int32.ofNat bf)), .val (.ref b1), .val (.int (Int32.ofNat pos)), .unset, .unset] [(.int (61 : Int32)), (.int (6 : Int32)), (.ref b19), (.ref b19)])) rfl rfl (hb hby at_274)
        rw [show nar .char (61 : Int32) = (61 : Int32) from by decide] at W26
        have V26 : AV Z h26 b19 .char 12 (lst [(.int (61 : Int32)), (.int (61 : Int32)), (.int (61 : Int32)), (.int (61 : Int32)), (.int (61 : Int32)), (.int (61 : Int32)), (.int (61 : Int32)), (.int (0 : Int32)), (.int (0 : Int32)), (.int (0 : Int32)), (.int (0 : Int32)), (.int (0 : Int32))]) := AV.setL V25 (k := 6) (by decide) (by decide) W26 (Nat.le_of_ble_eq_true rfl) rfl
        have N26 := Fr.snoc X26 N25 gn_b19
        have Z26 : n0 ≤ h26.size := Nat.le_trans Z25 (Keep.of_wr W26).1
        refine Go.step (st26) ?_
        show Go _ _ _ _ _ _ _ T26 (mkF m 275 _ [(.ref b19)])
        refine Go.step (fun tt kk => XS.dup X26.here hx rfl (hb hby at_275) rfl rfl kk) ?_
        show Go _ _ _ _ _ _ _ T26 (mkF m 276 _ [(.ref b19), (.ref b19)])
        refine Go.step (fun tt kk => XS.bipush X26.here hx rfl (hb hby at_276) kk) ?_
        show Go _ _ _ _ _ _ _ T26 (mkF m 278 _ [(.int (7 : Int32)), (.ref b19), (.ref b19)])
        refine Go.step (fun tt kk => XS.bipush X26.here hx rfl (hb hby at_278) kk) ?_
        show Go _ _ _ _ _ _ _ T26 (mkF m 280 _ [(.int (61 : Int32)), (.int (7 : Int32)), (.ref b19), (.ref b19)])
        obtain ⟨cl27, Ar27, hin27, -⟩ := V26.at (j := (7 : Int32)) (k := 7) (by decide) (by decide)
        obtain ⟨T27, h27, X27, e27, W27, st27⟩ := stC X26 hx hZ e26 Ar27 (j := (7 : Int32)) hin27 (g := (mkF m 280 #[.val (.long i0), .second, .val (.int i1), .val (.int i2), .val (.int (Int32.ofNat len)), .val (.int pd), .val (.int (Int32.ofNat off)), .val (.int (Int32.ofNat bf)), .val (.ref b1), .val (.int (Int32.ofNat pos)), .unset, .unset] [(.int (61 : Int32)), (.int (7 : Int32)), (.ref b19), (.ref b19)])) rfl rfl (hb hby at_280)
        rw [show nar .char (61 : Int32) = (61 : Int32) from by decide] at W27
        have V27 : AV Z h27 b19 .char 12 (lst [(.int (61 : Int32)), (.int (61 : Int32)), (.int (61 : Int32)), (.int (61 : Int32)), (.int (61 : Int32)), (.int (61 : Int32)), (.int (61 : Int32)), (.int (61 : Int32)), (.int (0 : Int32)), (.int (0 : Int32)), (.int (0 : Int32)), (.int (0 : Int32))]) := AV.setL V26 (k := 7) (by decide) (by decide) W27 (Nat.le_of_ble_eq_true rfl) rfl
        have N27 := Fr.snoc X27 N26 gn_b19
        have Z27 : n0 ≤ h27.size := Nat.le_trans Z26 (Keep.of_wr W27).1
        refine Go.step (st27) ?_
        show Go _ _ _ _ _ _ _ T27 (mkF m 281 _ [(.ref b19)])
        refine Go.step (fun tt kk => XS.dup X27.here hx rfl (hb hby at_281) rfl rfl kk) ?_
        show Go _ _ _ _ _ _ _ T27 (mkF m 282 _ [(.ref b19), (.ref b19)])
        refine Go.step (fun tt kk => XS.bipush X27.here hx rfl (hb hby at_282) kk) ?_
        show Go _ _ _ _ _ _ _ T27 (mkF m 284 _ [(.int (8 : Int32)), (.ref b19), (.ref b19)])
        refine Go.step (fun tt kk => XS.bipush X27.here hx rfl (hb hby at_284) kk) ?_
        show Go _ _ _ _ _ _ _ T27 (mkF m 286 _ [(.int (61 : Int32)), (.int (8 : Int32)), (.ref b19), (.ref b19)])
        obtain ⟨cl28, Ar28, hin28, -⟩ := V27.at (j := (8 : Int32)) (k := 8) (by decide) (by decide)
        obtain ⟨T28, h28, X28, e28, W28, st28⟩ := stC X27 hx hZ e27 Ar28 (j := (8 : Int32)) hin28 (g := (mkF m 286 #[.val (.long i0), .second, .val (.int i1), .val (.int i2), .val (.int (Int32.ofNat len)), .val (.int pd), .val (.int (Int32.ofNat off)), .val (.int (Int32.ofNat bf)), .val (.ref b1), .val (.int (Int32.ofNat pos)), .unset, .unset] [(.int (61 : Int32)), (.int (8 : Int32)), (.ref b19), (.ref b19)])) rfl rfl (hb hby at_286)
        rw [show nar .char (61 : Int32) = (61 : Int32) from by decide] at W28
        have V28 : AV Z h28 b19 .char 12 (lst [(.int (61 : Int32)), (.int (61 : Int32)), (.int (61 : Int32)), (.int (61 : Int32)), (.int (61 : Int32)), (.int (61 : Int32)), (.int (61 : Int32)), (.int (61 : Int32)), (.int (61 : Int32)), (.int (0 : Int32)), (.int (0 : Int32)), (.int (0 : Int32))]) := AV.setL V27 (k := 8) (by decide) (by decide) W28 (Nat.le_of_ble_eq_true rfl) rfl
        have N28 := Fr.snoc X28 N27 gn_b19
        have Z28 : n0 ≤ h28.size := Nat.le_trans Z27 (Keep.of_wr W28).1
        refine Go.step (st28) ?_
        show Go _ _ _ _ _ _ _ T28 (mkF m 287 _ [(.ref b19)])
        refine Go.step (fun tt kk => XS.dup X28.here hx rfl (hb hby at_287) rfl rfl kk) ?_
        show Go _ _ _ _ _ _ _ T28 (mkF m 288 _ [(.ref b19), (.ref b19)])
        refine Go.step (fun tt kk => XS.bipush X28.here hx rfl (hb hby at_288) kk) ?_
        show Go _ _ _ _ _ _ _ T28 (mkF m 290 _ [(.int (9 : Int32)), (.ref b19), (.ref b19)])
        refine Go.step (fun tt kk => XS.bipush X28.here hx rfl (hb hby at_290) kk) ?_
        show Go _ _ _ _ _ _ _ T28 (mkF m 292 _ [(.int (61 : Int32)), (.int (9 : Int32)), (.ref b19), (.ref b19)])
        obtain ⟨cl29, Ar29, hin29, -⟩ := V28.at (j := (9 : Int32)) (k := 9) (by decide) (by decide)
        obtain ⟨T29, h29, X29, e29, W29, st29⟩ := stC X28 hx hZ e28 Ar29 (j := (9 : Int32)) hin29 (g := (mkF m 292 #[.val (.long i0), .second, .val (.int i1), .val (.int i2), .val (.int (Int32.ofNat len)), .val (.int pd), .val (.int (Int32.ofNat off)), .val (.int (Int32.ofNat bf)), .val (.ref b1), .val (.int (Int32.ofNat pos)), .unset, .unset] [(.int (61 : Int32)), (.int (9 : Int32)), (.ref b19), (.ref b19)])) rfl rfl (hb hby at_292)
        rw [show nar .char (61 : Int32) = (61 : Int32) from by decide] at W29
        have V29 : AV Z h29 b19 .char 12 (lst [(.int (61 : Int32)), (.int (61 : Int32)), (.int (61 : Int32)), (.int (61 : Int32)), (.int (61 : Int32)), (.int (61 : Int32)), (.int (61 : Int32)), (.int (61 : Int32)), (.int (61 : Int32)), (.int (61 : Int32)), (.int (0 : Int32)), (.int (0 : Int32))]) := AV.setL V28 (k := 9) (by decide) (by decide) W29 (Nat.le_of_ble_eq_true rfl) rfl
        have N29 := Fr.snoc X29 N28 gn_b19
        have Z29 : n0 ≤ h29.size := Nat.le_trans Z28 (Keep.of_wr W29).1
        refine Go.step (st29) ?_
        show Go _ _ _ _ _ _ _ T29 (mkF m 293 _ [(.ref b19)])
        refine Go.step (fun tt kk => XS.dup X29.here hx rfl (hb hby at_293) rfl rfl kk) ?_
        show Go _ _ _ _ _ _ _ T29 (mkF m 294 _ [(.ref b19), (.ref b19)])
        refine Go.step (fun tt kk => XS.bipush X29.here hx rfl (hb hby at_294) kk) ?_
        show Go _ _ _ _ _ _ _ T29 (mkF m 296 _ [(.int (10 : Int32)), (.ref b19), (.ref b19)])
        refine Go.step (fun tt kk => XS.bipush X29.here hx rfl (hb hby at_296) kk) ?_
        show Go _ _ _ _ _ _ _ T29 (mkF m 298 _ [(.int (61 : Int32)), (.int (10 : Int32)), (.ref b19), (.ref b19)])
        obtain ⟨cl30, Ar30, hin30, -⟩ := V29.at (j := (10 : Int32)) (k := 10) (by decide) (by decide)
        obtain ⟨T30, h30, X30, e30, W30, st30⟩ := stC X29 hx hZ e29 Ar30 (j := (10 : Int32)) hin30 (g := (mkF m 298 #[.val (.long i0), .second, .val (.int i1), .val (.int i2), .val (.int (Int32.ofNat len)), .val (.int pd), .val (.int (Int32.ofNat off)), .val (.int (Int32.ofNat bf)), .val (.ref b1), .val (.int (Int32.ofNat pos)), .unset, .unset] [(.int (61 : Int32)), (.int (10 : Int32)), (.ref b19), (.ref b19)])) rfl rfl (hb hby at_298)
        rw [show nar .char (61 : Int32) = (61 : Int32) from by decide] at W30
        have V30 : AV Z h30 b19 .char 12 (lst [(.int (61 : Int32)), (.int (61 : Int32)), (.int (61 : Int32)), (.int (61 : Int32)), (.int (61 : Int32)), (.int (61 : Int32)), (.int (61 : Int32)), (.int (61 : Int32)), (.int (61 : Int32)), (.int (61 : Int32)), (.int (61 : Int32)), (.int (0 : Int32))]) := AV.setL V29 (k := 10) (by decide) (by decide) W30 (Nat.le_of_ble_eq_true rfl) rfl
        have N30 := Fr.snoc X30 N29 gn_b19
        have Z30 : n0 ≤ h30.size := Nat.le_trans Z29 (Keep.of_wr W30).1
        refine Go.step (st30) ?_
        show Go _ _ _ _ _ _ _ T30 (mkF m 299 _ [(.ref b19)])
        refine Go.step (fun tt kk => XS.dup X30.here hx rfl (hb hby at_299) rfl rfl kk) ?_
        show Go _ _ _ _ _ _ _ T30 (mkF m 300 _ [(.ref b19), (.ref b19)])
        refine Go.step (fun tt kk => XS.bipush X30.here hx rfl (hb hby at_300) kk) ?_
        show Go _ _ _ _ _ _ _ T30 (mkF m 302 _ [(.int (11 : Int32)), (.ref b19), (.ref b19)])
        refine Go.step (fun tt kk => XS.bipush X30.here hx rfl (hb hby at_302) kk) ?_
        show Go _ _ _ _ _ _ _ T30 (mkF m 304 _ [(.int (61 : Int32)), (.int (11 : Int32)), (.ref b19), (.ref b19)])
        obtain ⟨cl31, Ar31, hin31, -⟩ := V30.at (j := (11 : Int32)) (k := 11) (by decide) (by decide)
        obtain ⟨T31, h31, X31, e31, W31, st31⟩ := stC X30 hx hZ e30 Ar31 (j := (11 : Int32)) hin31 (g := (mkF m 304 #[.val (.long i0), .second, .val (.int i1), .val (.int i2), .val (.int (Int32.ofNat len)), .val (.int pd), .val (.int (Int32.ofNat off)), .val (.int (Int32.ofNat bf)), .val (.ref b1), .val (.int (Int32.ofNat pos)), .unset, .unset] [(.int (61 : Int32)), (.int (11 : Int32)), (.ref b19), (.ref b19)])) rfl rfl (hb hby at_304)
        rw [show nar .char (61 : Int32) = (61 : Int32) from by decide] at W31
        have V31 : AV Z h31 b19 .char 12 (lst [(.int (61 : Int32)), (.int (61 : Int32)), (.int (61 : Int32)), (.int (61 : Int32)), (.int (61 : Int32)), (.int (61 : Int32)), (.int (61 : Int32)), (.int (61 : Int32)), (.int (61 : Int32)), (.int (61 : Int32)), (.int (61 : Int32)), (.int (61 : Int32))]) := AV.setL V30 (k := 11) (by decide) (by decide) W31 (Nat.le_of_ble_eq_true rfl) rfl
        have N31 := Fr.snoc X31 N30 gn_b19
        have Z31 : n0 ≤ h31.size := Nat.le_trans Z30 (Keep.of_wr W31).1
        refine Go.step (st31) ?_
        show Go _ _ _ _ _ _ _ T31 (mkF m 305 _ [(.ref b19)])
        refine Go.step (fun tt kk => XS.astore X31.here hx rfl (hb hby at_305) rfl rfl (l' := #[.val (.long i0), .second, .val (.int i1), .val (.int i2), .val (.int (Int32.ofNat len)), .val (.int pd), .val (.int (Int32.ofNat off)), .val (.int (Int32.ofNat bf)), .val (.ref b1), .val (.int (Int32.ofNat pos)), .val (.ref b19), .unset]) rfl kk) ?_
        show Go _ _ _ _ _ _ _ T31 (mkF m 307 _ [])
        refine Go.step (fun tt kk => XS.aload X31.here hx rfl (hb hby at_307) rfl rfl kk) ?_
        show Go _ _ _ _ _ _ _ T31 (mkF m 309 _ [(.ref b19)])
        refine Go.step (fun tt kk => XS.iload X31.here hx rfl (hb hby at_309) rfl kk) ?_
        show Go _ _ _ _ _ _ _ T31 (mkF m 311 _ [(.int (Int32.ofNat off)), (.ref b19)])
        refine Go.step (fun tt kk => XS.aload X31.here hx rfl (hb hby at_311) rfl rfl kk) ?_
        show Go _ _ _ _ _ _ _ T31 (mkF m 313 _ [(.ref b1), (.int (Int32.ofNat off)), (.ref b19)])
        refine Go.step (fun tt kk => XS.iconst X31.here hx rfl (hb hby at_313) kk) ?_
        show Go _ _ _ _ _ _ _ T31 (mkF m 314 _ [(.int (0 : Int32)), (.ref b1), (.int (Int32.ofNat off)), (.ref b19)])
        have f32 := (((((((((((((f235_0.ext E19).other W20 ne_b1_b19).other W21 ne_b1_b19).other W22 ne_b1_b19).other W23 ne_b1_b19).other W24 ne_b1_b19).other W25 ne_b1_b19).other W26 ne_b1_b19).other W27 ne_b1_b19).other W28 ne_b1_b19).other W29 ne_b1_b19).other W30 ne_b1_b19).other W31 ne_b1_b19)
        refine Go.step (a_cload X31 hx hZ e31 f32 (k := 0) (by decide) (by decide) (x := (g3 0)) rfl (hb hby at_314)) ?_
        show Go _ _ _ _ _ _ _ T31 (mkF m 315 _ [(.int (g3 0)), (.int (Int32.ofNat off)), (.ref b19)])
        obtain ⟨cl33, Ar33, hin33, -⟩ := V31.at (j := (Int32.ofNat off)) (k := (off + 0)) (Int32.toInt_ofNat_of_lt (by omega)) (by omega)
        obtain ⟨T33, h33, X33, e33, W33, st33⟩ := stC X31 hx hZ e31 Ar33 (j := (Int32.ofNat off)) hin33 (g := (mkF m 315 #[.val (.long i0), .second, .val (.int i1), .val (.int i2), .val (.int (Int32.ofNat len)), .val (.int pd), .val (.int (Int32.ofNat off)), .val (.int (Int32.ofNat bf)), .val (.ref b1), .val (.int (Int32.ofNat pos)), .val (.ref b19), .unset] [(.int (g3 0)), (.int (Int32.ofNat off)), (.ref b19)])) rfl rfl (hb hby at_315)
        rw [(hg3 0 (by decide))] at W33
        have V33 : AV Z h33 b19 .char 12 (upd (lst [(.int (61 : Int32)), (.int (61 : Int32)), (.int (61 : Int32)), (.int (61 : Int32)), (.int (61 : Int32)), (.int (61 : Int32)), (.int (61 : Int32)), (.int (61 : Int32)), (.int (61 : Int32)), (.int (61 : Int32)), (.int (61 : Int32)), (.int (61 : Int32))]) (off + 0) (.int (g3 0))) := AV.set V31 (k := (off + 0)) (Int32.toInt_ofNat_of_lt (by omega)) (by omega) W33
        have N33 := Fr.snoc X33 N31 gn_b19
        have Z33 : n0 ≤ h33.size := Nat.le_trans Z31 (Keep.of_wr W33).1
        refine Go.step (st33) ?_
        show Go _ _ _ _ _ _ _ T33 (mkF m 316 _ [])
        refine Go.step (fun tt kk => XS.aload X33.here hx rfl (hb hby at_316) rfl rfl kk) ?_
        show Go _ _ _ _ _ _ _ T33 (mkF m 318 _ [(.ref b19)])
        refine Go.step (fun tt kk => XS.iload X33.here hx rfl (hb hby at_318) rfl kk) ?_
        show Go _ _ _ _ _ _ _ T33 (mkF m 320 _ [(.int (Int32.ofNat off)), (.ref b19)])
        refine Go.step (fun tt kk => XS.iconst X33.here hx rfl (hb hby at_320) kk) ?_
        show Go _ _ _ _ _ _ _ T33 (mkF m 321 _ [(.int (1 : Int32)), (.int (Int32.ofNat off)), (.ref b19)])
        refine Go.step (fun tt kk => XS.iadd X33.here hx rfl (hb hby at_321) rfl kk) ?_
        show Go _ _ _ _ _ _ _ T33 (mkF m 322 _ [(.int ((Int32.ofNat off) + (1 : Int32))), (.ref b19)])
        rw [show Int32.ofNat off + (1 : Int32) = Int32.ofNat (off + 1) from own_add off 1]
        show Go _ _ _ _ _ _ _ T33 (mkF m 322 #[.val (.long i0), .second, .val (.int i1), .val (.int i2), .val (.int (Int32.ofNat len)), .val (.int pd), .val (.int (Int32.ofNat off)), .val (.int (Int32.ofNat bf)), .val (.ref b1), .val (.int (Int32.ofNat pos)), .val (.ref b19), .unset] [(.int (Int32.ofNat (off + 1))), (.ref b19)])
        refine Go.step (fun tt kk => XS.aload X33.here hx rfl (hb hby at_322) rfl rfl kk) ?_
        show Go _ _ _ _ _ _ _ T33 (mkF m 324 _ [(.ref b1), (.int (Int32.ofNat (off + 1))), (.ref b19)])
        refine Go.step (fun tt kk => XS.iconst X33.here hx rfl (hb hby at_324) kk) ?_
        show Go _ _ _ _ _ _ _ T33 (mkF m 325 _ [(.int (1 : Int32)), (.ref b1), (.int (Int32.ofNat (off + 1))), (.ref b19)])
        have f34 := (f32.other W33 ne_b1_b19)
        refine Go.step (a_cload X33 hx hZ e33 f34 (k := 1) (by decide) (by decide) (x := (g3 1)) rfl (hb hby at_325)) ?_
        show Go _ _ _ _ _ _ _ T33 (mkF m 326 _ [(.int (g3 1)), (.int (Int32.ofNat (off + 1))), (.ref b19)])
        obtain ⟨cl35, Ar35, hin35, -⟩ := V33.at (j := (Int32.ofNat (off + 1))) (k := (off + 1)) (Int32.toInt_ofNat_of_lt (by omega)) (by omega)
        obtain ⟨T35, h35, X35, e35, W35, st35⟩ := stC X33 hx hZ e33 Ar35 (j := (Int32.ofNat (off + 1))) hin35 (g := (mkF m 326 #[.val (.long i0), .second, .val (.int i1), .val (.int i2), .val (.int (Int32.ofNat len)), .val (.int pd), .val (.int (Int32.ofNat off)), .val (.int (Int32.ofNat bf)), .val (.ref b1), .val (.int (Int32.ofNat pos)), .val (.ref b19), .unset] [(.int (g3 1)), (.int (Int32.ofNat (off + 1))), (.ref b19)])) rfl rfl (hb hby at_326)
        rw [(hg3 1 (by decide))] at W35
        have V35 : AV Z h35 b19 .char 12 (upd (upd (lst [(.int (61 : Int32)), (.int (61 : Int32)), (.int (61 : Int32)), (.int (61 : Int32)), (.int (61 : Int32)), (.int (61 : Int32)), (.int (61 : Int32)), (.int (61 : Int32)), (.int (61 : Int32)), (.int (61 : Int32)), (.int (61 : Int32)), (.int (61 : Int32))]) (off + 0) (.int (g3 0))) (off + 1) (.int (g3 1))) := AV.set V33 (k := (off + 1)) (Int32.toInt_ofNat_of_lt (by omega)) (by omega) W35
        have N35 := Fr.snoc X35 N33 gn_b19
        have Z35 : n0 ≤ h35.size := Nat.le_trans Z33 (Keep.of_wr W35).1
        refine Go.step (st35) ?_
        show Go _ _ _ _ _ _ _ T35 (mkF m 327 _ [])
        refine Go.step (fun tt kk => XS.aload X35.here hx rfl (hb hby at_327) rfl rfl kk) ?_
        show Go _ _ _ _ _ _ _ T35 (mkF m 329 _ [(.ref b19)])
        refine Go.step (fun tt kk => XS.iload X35.here hx rfl (hb hby at_329) rfl kk) ?_
        show Go _ _ _ _ _ _ _ T35 (mkF m 331 _ [(.int (Int32.ofNat off)), (.ref b19)])
        refine Go.step (fun tt kk => XS.iconst X35.here hx rfl (hb hby at_331) kk) ?_
        show Go _ _ _ _ _ _ _ T35 (mkF m 332 _ [(.int (2 : Int32)), (.int (Int32.ofNat off)), (.ref b19)])
        refine Go.step (fun tt kk => XS.iadd X35.here hx rfl (hb hby at_332) rfl kk) ?_
        show Go _ _ _ _ _ _ _ T35 (mkF m 333 _ [(.int ((Int32.ofNat off) + (2 : Int32))), (.ref b19)])
        rw [show Int32.ofNat off + (2 : Int32) = Int32.ofNat (off + 2) from own_add off 2]
        show Go _ _ _ _ _ _ _ T35 (mkF m 333 #[.val (.long i0), .second, .val (.int i1), .val (.int i2), .val (.int (Int32.ofNat len)), .val (.int pd), .val (.int (Int32.ofNat off)), .val (.int (Int32.ofNat bf)), .val (.ref b1), .val (.int (Int32.ofNat pos)), .val (.ref b19), .unset] [(.int (Int32.ofNat (off + 2))), (.ref b19)])
        refine Go.step (fun tt kk => XS.aload X35.here hx rfl (hb hby at_333) rfl rfl kk) ?_
        show Go _ _ _ _ _ _ _ T35 (mkF m 335 _ [(.ref b1), (.int (Int32.ofNat (off + 2))), (.ref b19)])
        refine Go.step (fun tt kk => XS.iconst X35.here hx rfl (hb hby at_335) kk) ?_
        show Go _ _ _ _ _ _ _ T35 (mkF m 336 _ [(.int (2 : Int32)), (.ref b1), (.int (Int32.ofNat (off + 2))), (.ref b19)])
        have f36 := (f34.other W35 ne_b1_b19)
        refine Go.step (a_cload X35 hx hZ e35 f36 (k := 2) (by decide) (by decide) (x := (g3 2)) rfl (hb hby at_336)) ?_
        show Go _ _ _ _ _ _ _ T35 (mkF m 337 _ [(.int (g3 2)), (.int (Int32.ofNat (off + 2))), (.ref b19)])
        obtain ⟨cl37, Ar37, hin37, -⟩ := V35.at (j := (Int32.ofNat (off + 2))) (k := (off + 2)) (Int32.toInt_ofNat_of_lt (by omega)) (by omega)
        obtain ⟨T37, h37, X37, e37, W37, st37⟩ := stC X35 hx hZ e35 Ar37 (j := (Int32.ofNat (off + 2))) hin37 (g := (mkF m 337 #[.val (.long i0), .second, .val (.int i1), .val (.int i2), .val (.int (Int32.ofNat len)), .val (.int pd), .val (.int (Int32.ofNat off)), .val (.int (Int32.ofNat bf)), .val (.ref b1), .val (.int (Int32.ofNat pos)), .val (.ref b19), .unset] [(.int (g3 2)), (.int (Int32.ofNat (off + 2))), (.ref b19)])) rfl rfl (hb hby at_337)
        rw [(hg3 2 (by decide))] at W37
        have V37 : AV Z h37 b19 .char 12 (upd (upd (upd (lst [(.int (61 : Int32)), (.int (61 : Int32)), (.int (61 : Int32)), (.int (61 : Int32)), (.int (61 : Int32)), (.int (61 : Int32)), (.int (61 : Int32)), (.int (61 : Int32)), (.int (61 : Int32)), (.int (61 : Int32)), (.int (61 : Int32)), (.int (61 : Int32))]) (off + 0) (.int (g3 0))) (off + 1) (.int (g3 1))) (off + 2) (.int (g3 2))) := AV.set V35 (k := (off + 2)) (Int32.toInt_ofNat_of_lt (by omega)) (by omega) W37
        have N37 := Fr.snoc X37 N35 gn_b19
        have Z37 : n0 ≤ h37.size := Nat.le_trans Z35 (Keep.of_wr W37).1
        refine Go.step (st37) ?_
        show Go _ _ _ _ _ _ _ T37 (mkF m 338 _ [])
        refine Go.step (fun tt kk => XS.aload X37.here hx rfl (hb hby at_338) rfl rfl kk) ?_
        show Go _ _ _ _ _ _ _ T37 (mkF m 340 _ [(.ref b19)])
        refine Go.step (fun tt kk => XS.iload X37.here hx rfl (hb hby at_340) rfl kk) ?_
        show Go _ _ _ _ _ _ _ T37 (mkF m 342 _ [(.int (Int32.ofNat off)), (.ref b19)])
        refine Go.step (fun tt kk => XS.iconst X37.here hx rfl (hb hby at_342) kk) ?_
        show Go _ _ _ _ _ _ _ T37 (mkF m 343 _ [(.int (3 : Int32)), (.int (Int32.ofNat off)), (.ref b19)])
        refine Go.step (fun tt kk => XS.iadd X37.here hx rfl (hb hby at_343) rfl kk) ?_
        show Go _ _ _ _ _ _ _ T37 (mkF m 344 _ [(.int ((Int32.ofNat off) + (3 : Int32))), (.ref b19)])
        rw [show Int32.ofNat off + (3 : Int32) = Int32.ofNat (off + 3) from own_add off 3]
        show Go _ _ _ _ _ _ _ T37 (mkF m 344 #[.val (.long i0), .second, .val (.int i1), .val (.int i2), .val (.int (Int32.ofNat len)), .val (.int pd), .val (.int (Int32.ofNat off)), .val (.int (Int32.ofNat bf)), .val (.ref b1), .val (.int (Int32.ofNat pos)), .val (.ref b19), .unset] [(.int (Int32.ofNat (off + 3))), (.ref b19)])
        refine Go.step (fun tt kk => XS.aload X37.here hx rfl (hb hby at_344) rfl rfl kk) ?_
        show Go _ _ _ _ _ _ _ T37 (mkF m 346 _ [(.ref b1), (.int (Int32.ofNat (off + 3))), (.ref b19)])
        refine Go.step (fun tt kk => XS.iconst X37.here hx rfl (hb hby at_346) kk) ?_
        show Go _ _ _ _ _ _ _ T37 (mkF m 347 _ [(.int (3 : Int32)), (.ref b1), (.int (Int32.ofNat (off + 3))), (.ref b19)])
        have f38 := (f36.other W37 ne_b1_b19)
        refine Go.step (a_cload X37 hx hZ e37 f38 (k := 3) (by decide) (by decide) (x := (g3 3)) rfl (hb hby at_347)) ?_
        show Go _ _ _ _ _ _ _ T37 (mkF m 348 _ [(.int (g3 3)), (.int (Int32.ofNat (off + 3))), (.ref b19)])
        obtain ⟨cl39, Ar39, hin39, -⟩ := V37.at (j := (Int32.ofNat (off + 3))) (k := (off + 3)) (Int32.toInt_ofNat_of_lt (by omega)) (by omega)
        obtain ⟨T39, h39, X39, e39, W39, st39⟩ := stC X37 hx hZ e37 Ar39 (j := (Int32.ofNat (off + 3))) hin39 (g := (mkF m 348 #[.val (.long i0), .second, .val (.int i1), .val (.int i2), .val (.int (Int32.ofNat len)), .val (.int pd), .val (.int (Int32.ofNat off)), .val (.int (Int32.ofNat bf)), .val (.ref b1), .val (.int (Int32.ofNat pos)), .val (.ref b19), .unset] [(.int (g3 3)), (.int (Int32.ofNat (off + 3))), (.ref b19)])) rfl rfl (hb hby at_348)
        rw [(hg3 3 (by decide))] at W39
        have V39 : AV Z h39 b19 .char 12 (upd (upd (upd (upd (lst [(.int (61 : Int32)), (.int (61 : Int32)), (.int (61 : Int32)), (.int (61 : Int32)), (.int (61 : Int32)), (.int (61 : Int32)), (.int (61 : Int32)), (.int (61 : Int32)), (.int (61 : Int32)), (.int (61 : Int32)), (.int (61 : Int32)), (.int (61 : Int32))]) (off + 0) (.int (g3 0))) (off + 1) (.int (g3 1))) (off + 2) (.int (g3 2))) (off + 3) (.int (g3 3))) := AV.set V37 (k := (off + 3)) (Int32.toInt_ofNat_of_lt (by omega)) (by omega) W39
        have N39 := Fr.snoc X39 N37 gn_b19
        have Z39 : n0 ≤ h39.size := Nat.le_trans Z37 (Keep.of_wr W39).1
        refine Go.step (st39) ?_
        show Go _ _ _ _ _ _ _ T39 (mkF m 349 _ [])
        refine Go.step (fun tt kk => XS.aload X39.here hx rfl (hb hby at_349) rfl rfl kk) ?_
        show Go _ _ _ _ _ _ _ T39 (mkF m 351 _ [(.ref b19)])
        refine Go.step (fun tt kk => XS.iload X39.here hx rfl (hb hby at_351) rfl kk) ?_
        show Go _ _ _ _ _ _ _ T39 (mkF m 353 _ [(.int (Int32.ofNat off)), (.ref b19)])
        refine Go.step (fun tt kk => XS.iconst X39.here hx rfl (hb hby at_353) kk) ?_
        show Go _ _ _ _ _ _ _ T39 (mkF m 354 _ [(.int (4 : Int32)), (.int (Int32.ofNat off)), (.ref b19)])
        refine Go.step (fun tt kk => XS.iadd X39.here hx rfl (hb hby at_354) rfl kk) ?_
        show Go _ _ _ _ _ _ _ T39 (mkF m 355 _ [(.int ((Int32.ofNat off) + (4 : Int32))), (.ref b19)])
        rw [show Int32.ofNat off + (4 : Int32) = Int32.ofNat (off + 4) from own_add off 4]
        show Go _ _ _ _ _ _ _ T39 (mkF m 355 #[.val (.long i0), .second, .val (.int i1), .val (.int i2), .val (.int (Int32.ofNat len)), .val (.int pd), .val (.int (Int32.ofNat off)), .val (.int (Int32.ofNat bf)), .val (.ref b1), .val (.int (Int32.ofNat pos)), .val (.ref b19), .unset] [(.int (Int32.ofNat (off + 4))), (.ref b19)])
        refine Go.step (fun tt kk => XS.aload X39.here hx rfl (hb hby at_355) rfl rfl kk) ?_
        show Go _ _ _ _ _ _ _ T39 (mkF m 357 _ [(.ref b1), (.int (Int32.ofNat (off + 4))), (.ref b19)])
        refine Go.step (fun tt kk => XS.iconst X39.here hx rfl (hb hby at_357) kk) ?_
        show Go _ _ _ _ _ _ _ T39 (mkF m 358 _ [(.int (4 : Int32)), (.ref b1), (.int (Int32.ofNat (off + 4))), (.ref b19)])
        have f40 := (f38.other W39 ne_b1_b19)
        refine Go.step (a_cload X39 hx hZ e39 f40 (k := 4) (by decide) (by decide) (x := (g3 4)) rfl (hb hby at_358)) ?_
        show Go _ _ _ _ _ _ _ T39 (mkF m 359 _ [(.int (g3 4)), (.int (Int32.ofNat (off + 4))), (.ref b19)])
        obtain ⟨cl41, Ar41, hin41, -⟩ := V39.at (j := (Int32.ofNat (off + 4))) (k := (off + 4)) (Int32.toInt_ofNat_of_lt (by omega)) (by omega)
        obtain ⟨T41, h41, X41, e41, W41, st41⟩ := stC X39 hx hZ e39 Ar41 (j := (Int32.ofNat (off + 4))) hin41 (g := (mkF m 359 #[.val (.long i0), .second, .val (.int i1), .val (.int i2), .val (.int (Int32.ofNat len)), .val (.int pd), .val (.int (Int32.ofNat off)), .val (.int (Int32.ofNat bf)), .val (.ref b1), .val (.int (Int32.ofNat pos)), .val (.ref b19), .unset] [(.int (g3 4)), (.int (Int32.ofNat (off + 4))), (.ref b19)])) rfl rfl (hb hby at_359)
        rw [(hg3 4 (by decide))] at W41
        have V41 : AV Z h41 b19 .char 12 (upd (upd (upd (upd (upd (lst [(.int (61 : Int32)), (.int (61 : Int32)), (.int (61 : Int32)), (.int (61 : Int32)), (.int (61 : Int32)), (.int (61 : Int32)), (.int (61 : Int32)), (.int (61 : Int32)), (.int (61 : Int32)), (.int (61 : Int32)), (.int (61 : Int32)), (.int (61 : Int32))]) (off + 0) (.int (g3 0))) (off + 1) (.int (g3 1))) (off + 2) (.int (g3 2))) (off + 3) (.int (g3 3))) (off + 4) (.int (g3 4))) := AV.set V39 (k := (off + 4)) (Int32.toInt_ofNat_of_lt (by omega)) (by omega) W41
        have N41 := Fr.snoc X41 N39 gn_b19
        have Z41 : n0 ≤ h41.size := Nat.le_trans Z39 (Keep.of_wr W41).1
        refine Go.step (st41) ?_
        show Go _ _ _ _ _ _ _ T41 (mkF m 360 _ [])
        refine Go.step (fun tt kk => XS.aload X41.here hx rfl (hb hby at_360) rfl rfl kk) ?_
        show Go _ _ _ _ _ _ _ T41 (mkF m 362 _ [(.ref b19)])
        refine Go.step (fun tt kk => XS.iload X41.here hx rfl (hb hby at_362) rfl kk) ?_
        show Go _ _ _ _ _ _ _ T41 (mkF m 364 _ [(.int (Int32.ofNat off)), (.ref b19)])
        refine Go.step (fun tt kk => XS.iconst X41.here hx rfl (hb hby at_364) kk) ?_
        show Go _ _ _ _ _ _ _ T41 (mkF m 365 _ [(.int (5 : Int32)), (.int (Int32.ofNat off)), (.ref b19)])
        refine Go.step (fun tt kk => XS.iadd X41.here hx rfl (hb hby at_365) rfl kk) ?_
        show Go _ _ _ _ _ _ _ T41 (mkF m 366 _ [(.int ((Int32.ofNat off) + (5 : Int32))), (.ref b19)])
        rw [show Int32.ofNat off + (5 : Int32) = Int32.ofNat (off + 5) from own_add off 5]
        show Go _ _ _ _ _ _ _ T41 (mkF m 366 #[.val (.long i0), .second, .val (.int i1), .val (.int i2), .val (.int (Int32.ofNat len)), .val (.int pd), .val (.int (Int32.ofNat off)), .val (.int (Int32.ofNat bf)), .val (.ref b1), .val (.int (Int32.ofNat pos)), .val (.ref b19), .unset] [(.int (Int32.ofNat (off + 5))), (.ref b19)])
        refine Go.step (fun tt kk => XS.aload X41.here hx rfl (hb hby at_366) rfl rfl kk) ?_
        show Go _ _ _ _ _ _ _ T41 (mkF m 368 _ [(.ref b1), (.int (Int32.ofNat (off + 5))), (.ref b19)])
        refine Go.step (fun tt kk => XS.iconst X41.here hx rfl (hb hby at_368) kk) ?_
        show Go _ _ _ _ _ _ _ T41 (mkF m 369 _ [(.int (5 : Int32)), (.ref b1), (.int (Int32.ofNat (off + 5))), (.ref b19)])
        have f42 := (f40.other W41 ne_b1_b19)
        refine Go.step (a_cload X41 hx hZ e41 f42 (k := 5) (by decide) (by decide) (x := (g3 5)) rfl (hb hby at_369)) ?_
        show Go _ _ _ _ _ _ _ T41 (mkF m 370 _ [(.int (g3 5)), (.int (Int32.ofNat (off + 5))), (.ref b19)])
        obtain ⟨cl43, Ar43, hin43, -⟩ := V41.at (j := (Int32.ofNat (off + 5))) (k := (off + 5)) (Int32.toInt_ofNat_of_lt (by omega)) (by omega)
        obtain ⟨T43, h43, X43, e43, W43, st43⟩ := stC X41 hx hZ e41 Ar43 (j := (Int32.ofNat (off + 5))) hin43 (g := (mkF m 370 #[.val (.long i0), .second, .val (.int i1), .val (.int i2), .val (.int (Int32.ofNat len)), .val (.int pd), .val (.int (Int32.ofNat off)), .val (.int (Int32.ofNat bf)), .val (.ref b1), .val (.int (Int32.ofNat pos)), .val (.ref b19), .unset] [(.int (g3 5)), (.int (Int32.ofNat (off + 5))), (.ref b19)])) rfl rfl (hb hby at_370)
        rw [(hg3 5 (by decide))] at W43
        have V43 : AV Z h43 b19 .char 12 (upd (upd (upd (upd (upd (upd (lst [(.int (61 : Int32)), (.int (61 : Int32)), (.int (61 : Int32)), (.int (61 : Int32)), (.int (61 : Int32)), (.int (61 : Int32)), (.int (61 : Int32)), (.int (61 : Int32)), (.int (61 : Int32)), (.int (61 : Int32)), (.int (61 : Int32)), (.int (61 : Int32))]) (off + 0) (.int (g3 0))) (off + 1) (.int (g3 1))) (off + 2) (.int (g3 2))) (off + 3) (.int (g3 3))) (off + 4) (.int (g3 4))) (off + 5) (.int (g3 5))) := AV.set V41 (k := (off + 5)) (Int32.toInt_ofNat_of_lt (by omega)) (by omega) W43
        have N43 := Fr.snoc X43 N41 gn_b19
        have Z43 : n0 ≤ h43.size := Nat.le_trans Z41 (Keep.of_wr W43).1
        refine Go.step (st43) ?_
        show Go _ _ _ _ _ _ _ T43 (mkF m 371 _ [])
        refine Go.step (fun tt kk => XS.aload X43.here hx rfl (hb hby at_371) rfl rfl kk) ?_
        show Go _ _ _ _ _ _ _ T43 (mkF m 373 _ [(.ref b19)])
        refine Go.step (fun tt kk => XS.iload X43.here hx rfl (hb hby at_373) rfl kk) ?_
        show Go _ _ _ _ _ _ _ T43 (mkF m 375 _ [(.int (Int32.ofNat off)), (.ref b19)])
        refine Go.step (fun tt kk => XS.bipush X43.here hx rfl (hb hby at_375) kk) ?_
        show Go _ _ _ _ _ _ _ T43 (mkF m 377 _ [(.int (6 : Int32)), (.int (Int32.ofNat off)), (.ref b19)])
        refine Go.step (fun tt kk => XS.iadd X43.here hx rfl (hb hby at_377) rfl kk) ?_
        show Go _ _ _ _ _ _ _ T43 (mkF m 378 _ [(.int ((Int32.ofNat off) + (6 : Int32))), (.ref b19)])
        rw [show Int32.ofNat off + (6 : Int32) = Int32.ofNat (off + 6) from own_add off 6]
        show Go _ _ _ _ _ _ _ T43 (mkF m 378 #[.val (.long i0), .second, .val (.int i1), .val (.int i2), .val (.int (Int32.ofNat len)), .val (.int pd), .val (.int (Int32.ofNat off)), .val (.int (Int32.ofNat bf)), .val (.ref b1), .val (.int (Int32.ofNat pos)), .val (.ref b19), .unset] [(.int (Int32.ofNat (off + 6))), (.ref b19)])
        refine Go.step (fun tt kk => XS.aload X43.here hx rfl (hb hby at_378) rfl rfl kk) ?_
        show Go _ _ _ _ _ _ _ T43 (mkF m 380 _ [(.ref b1), (.int (Int32.ofNat (off + 6))), (.ref b19)])
        refine Go.step (fun tt kk => XS.bipush X43.here hx rfl (hb hby at_380) kk) ?_
        show Go _ _ _ _ _ _ _ T43 (mkF m 382 _ [(.int (6 : Int32)), (.ref b1), (.int (Int32.ofNat (off + 6))), (.ref b19)])
        have f44 := (f42.other W43 ne_b1_b19)
        refine Go.step (a_cload X43 hx hZ e43 f44 (k := 6) (by decide) (by decide) (x := (g3 6)) rfl (hb hby at_382)) ?_
        show Go _ _ _ _ _ _ _ T43 (mkF m 383 _ [(.int (g3 6)), (.int (Int32.ofNat (off + 6))), (.ref b19)])
        obtain ⟨cl45, Ar45, hin45, -⟩ := V43.at (j := (Int32.ofNat (off + 6))) (k := (off + 6)) (Int32.toInt_ofNat_of_lt (by omega)) (by omega)
        obtain ⟨T45, h45, X45, e45, W45, st45⟩ := stC X43 hx hZ e43 Ar45 (j := (Int32.ofNat (off + 6))) hin45 (g := (mkF m 383 #[.val (.long i0), .second, .val (.int i1), .val (.int i2), .val (.int (Int32.ofNat len)), .val (.int pd), .val (.int (Int32.ofNat off)), .val (.int (Int32.ofNat bf)), .val (.ref b1), .val (.int (Int32.ofNat pos)), .val (.ref b19), .unset] [(.int (g3 6)), (.int (Int32.ofNat (off + 6))), (.ref b19)])) rfl rfl (hb hby at_383)
        rw [(hg3 6 (by decide))] at W45
        have V45 : AV Z h45 b19 .char 12 (upd (upd (upd (upd (upd (upd (upd (lst [(.int (61 : Int32)), (.int (61 : Int32)), (.int (61 : Int32)), (.int (61 : Int32)), (.int (61 : Int32)), (.int (61 : Int32)), (.int (61 : Int32)), (.int (61 : Int32)), (.int (61 : Int32)), (.int (61 : Int32)), (.int (61 : Int32)), (.int (61 : Int32))]) (off + 0) (.int (g3 0))) (off + 1) (.int (g3 1))) (off + 2) (.int (g3 2))) (off + 3) (.int (g3 3))) (off + 4) (.int (g3 4))) (off + 5) (.int (g3 5))) (off + 6) (.int (g3 6))) := AV.set V43 (k := (off + 6)) (Int32.toInt_ofNat_of_lt (by omega)) (by omega) W45
        have N45 := Fr.snoc X45 N43 gn_b19
        have Z45 : n0 ≤ h45.size := Nat.le_trans Z43 (Keep.of_wr W45).1
        refine Go.step (st45) ?_
        show Go _ _ _ _ _ _ _ T45 (mkF m 384 _ [])
        refine Go.step (fun tt kk => XS.aload X45.here hx rfl (hb hby at_384) rfl rfl kk) ?_
        show Go _ _ _ _ _ _ _ T45 (mkF m 386 _ [(.ref b19)])
        refine Go.step (fun tt kk => XS.iload X45.here hx rfl (hb hby at_386) rfl kk) ?_
        show Go _ _ _ _ _ _ _ T45 (mkF m 388 _ [(.int (Int32.ofNat off)), (.ref b19)])
        refine Go.step (fun tt kk => XS.bipush X45.here hx rfl (hb hby at_388) kk) ?_
        show Go _ _ _ _ _ _ _ T45 (mkF m 390 _ [(.int (7 : Int32)), (.int (Int32.ofNat off)), (.ref b19)])
        refine Go.step (fun tt kk => XS.iadd X45.here hx rfl (hb hby at_390) rfl kk) ?_
        show Go _ _ _ _ _ _ _ T45 (mkF m 391 _ [(.int ((Int32.ofNat off) + (7 : Int32))), (.ref b19)])
        rw [show Int32.ofNat off + (7 : Int32) = Int32.ofNat (off + 7) from own_add off 7]
        show Go _ _ _ _ _ _ _ T45 (mkF m 391 #[.val (.long i0), .second, .val (.int i1), .val (.int i2), .val (.int (Int32.ofNat len)), .val (.int pd), .val (.int (Int32.ofNat off)), .val (.int (Int32.ofNat bf)), .val (.ref b1), .val (.int (Int32.ofNat pos)), .val (.ref b19), .unset] [(.int (Int32.ofNat (off + 7))), (.ref b19)])
        refine Go.step (fun tt kk => XS.aload X45.here hx rfl (hb hby at_391) rfl rfl kk) ?_
        show Go _ _ _ _ _ _ _ T45 (mkF m 393 _ [(.ref b1), (.int (Int32.ofNat (off + 7))), (.ref b19)])
        refine Go.step (fun tt kk => XS.bipush X45.here hx rfl (hb hby at_393) kk) ?_
        show Go _ _ _ _ _ _ _ T45 (mkF m 395 _ [(.int (7 : Int32)), (.ref b1), (.int (Int32.ofNat (off + 7))), (.ref b19)])
        have f46 := (f44.other W45 ne_b1_b19)
        refine Go.step (a_cload X45 hx hZ e45 f46 (k := 7) (by decide) (by decide) (x := (g3 7)) rfl (hb hby at_395)) ?_
        show Go _ _ _ _ _ _ _ T45 (mkF m 396 _ [(.int (g3 7)), (.int (Int32.ofNat (off + 7))), (.ref b19)])
        obtain ⟨cl47, Ar47, hin47, -⟩ := V45.at (j := (Int32.ofNat (off + 7))) (k := (off + 7)) (Int32.toInt_ofNat_of_lt (by omega)) (by omega)
        obtain ⟨T47, h47, X47, e47, W47, st47⟩ := stC X45 hx hZ e45 Ar47 (j := (Int32.ofNat (off + 7))) hin47 (g := (mkF m 396 #[.val (.long i0), .second, .val (.int i1), .val (.int i2), .val (.int (Int32.ofNat len)), .val (.int pd), .val (.int (Int32.ofNat off)), .val (.int (Int32.ofNat bf)), .val (.ref b1), .val (.int (Int32.ofNat pos)), .val (.ref b19), .unset] [(.int (g3 7)), (.int (Int32.ofNat (off + 7))), (.ref b19)])) rfl rfl (hb hby at_396)
        rw [(hg3 7 (by decide))] at W47
        have V47 : AV Z h47 b19 .char 12 (upd (upd (upd (upd (upd (upd (upd (upd (lst [(.int (61 : Int32)), (.int (61 : Int32)), (.int (61 : Int32)), (.int (61 : Int32)), (.int (61 : Int32)), (.int (61 : Int32)), (.int (61 : Int32)), (.int (61 : Int32)), (.int (61 : Int32)), (.int (61 : Int32)), (.int (61 : Int32)), (.int (61 : Int32))]) (off + 0) (.int (g3 0))) (off + 1) (.int (g3 1))) (off + 2) (.int (g3 2))) (off + 3) (.int (g3 3))) (off + 4) (.int (g3 4))) (off + 5) (.int (g3 5))) (off + 6) (.int (g3 6))) (off + 7) (.int (g3 7))) := AV.set V45 (k := (off + 7)) (Int32.toInt_ofNat_of_lt (by omega)) (by omega) W47
        have N47 := Fr.snoc X47 N45 gn_b19
        have Z47 : n0 ≤ h47.size := Nat.le_trans Z45 (Keep.of_wr W47).1
        refine Go.step (st47) ?_
        show Go _ _ _ _ _ _ _ T47 (mkF m 397 _ [])
        obtain ⟨F, hF, V48⟩ : ∃ F : Nat → Value, (∀ i, i < 8 → F (off + i) = .int (g3 i)) ∧ AV Z h47 b19 .char 12 F := by
          refine ⟨_, fun i hi => ?_, V47⟩
          rcases (by omega : i = 0 ∨ i = 1 ∨ i = 2 ∨ i = 3 ∨ i = 4 ∨ i = 5 ∨ i = 6 ∨ i = 7) with rfl | rfl | rfl | rfl | rfl | rfl | rfl | rfl
          · rw [upd_ne (by omega), upd_ne (by omega), upd_ne (by omega), upd_ne (by omega), upd_ne (by omega), upd_ne (by omega), upd_ne (by omega), upd_eq]
          · rw [upd_ne (by omega), upd_ne (by omega), upd_ne (by omega), upd_ne (by omega), upd_ne (by omega), upd_ne (by omega), upd_eq]
          · rw [upd_ne (by omega), upd_ne (by omega), upd_ne (by omega), upd_ne (by omega), upd_ne (by omega), upd_eq]
          · rw [upd_ne (by omega), upd_ne (by omega), upd_ne (by omega), upd_ne (by omega), upd_eq]
          · rw [upd_ne (by omega), upd_ne (by omega), upd_ne (by omega), upd_eq]
          · rw [upd_ne (by omega), upd_ne (by omega), upd_eq]
          · rw [upd_ne (by omega), upd_eq]
          · rw [upd_eq]
        rcases (by omega : ¬ len % 4 = 0 ∨ len = 0 ∨ len = 4 ∨ len = 8) with hlen | hlen | hlen | hlen
        · have hm := mt (own_mod4 len hl8).mp hlen
          show Go _ _ _ _ _ _ _ T47 (mkF m 397 #[.val (.long i0), .second, .val (.int i1), .val (.int i2), .val (.int (Int32.ofNat len)), .val (.int pd), .val (.int (Int32.ofNat off)), .val (.int (Int32.ofNat bf)), .val (.ref b1), .val (.int (Int32.ofNat pos)), .val (.ref b19), .unset] [])
          refine Go.step (fun tt kk => XS.aload X47.here hx rfl (hb hby at_397) rfl rfl kk) ?_
          show Go _ _ _ _ _ _ _ T47 (mkF m 399 _ [(.ref b19)])
          refine Go.step (fun tt kk => XS.iload X47.here hx rfl (hb hby at_399) rfl kk) ?_
          show Go _ _ _ _ _ _ _ T47 (mkF m 401 _ [(.int (Int32.ofNat off)), (.ref b19)])
          refine Go.step (fun tt kk => XS.iload X47.here hx rfl (hb hby at_401) rfl kk) ?_
          show Go _ _ _ _ _ _ _ T47 (mkF m 403 _ [(.int (Int32.ofNat len)), (.int (Int32.ofNat off)), (.ref b19)])
          refine Go.step (fun tt kk => XS.iload X47.here hx rfl (hb hby at_403) rfl kk) ?_
          show Go _ _ _ _ _ _ _ T47 (mkF m 405 _ [(.int (Int32.ofNat bf)), (.int (Int32.ofNat len)), (.int (Int32.ofNat off)), (.ref b19)])
          have f50 := (Sta.wr W47 (Sta.wr W45 (Sta.wr W43 (Sta.wr W41 (Sta.wr W39 (Sta.wr W37 (Sta.wr W35 (Sta.wr W33 (Sta.wr W31 (Sta.wr W30 (Sta.wr W29 (Sta.wr W28 (Sta.wr W27 (Sta.wr W26 (Sta.wr W25 (Sta.wr W24 (Sta.wr W23 (Sta.wr W22 (Sta.wr W21 (Sta.wr W20 (Sta.ext E19 f235_2)))))))))))))))))))))
          have f51 := (((((((((((((((((((((f235_1.ext E19).other W20 ne_va_b19).other W21 ne_va_b19).other W22 ne_va_b19).other W23 ne_va_b19).other W24 ne_va_b19).other W25 ne_va_b19).other W26 ne_va_b19).other W27 ne_va_b19).other W28 ne_va_b19).other W29 ne_va_b19).other W30 ne_va_b19).other W31 ne_va_b19).other W33 ne_va_b19).other W35 ne_va_b19).other W37 ne_va_b19).other W39 ne_va_b19).other W41 ne_va_b19).other W43 ne_va_b19).other W45 ne_va_b19).other W47 ne_va_b19)
          obtain ⟨v49, T49, L49, X49, q49, st49⟩ := c_static X47 hx hZ hown (y := (⟨"com/example/sharks/sharks/StandardBase64", "decode", "([CIII)[B"⟩ : MethodName)) (hw _ (List.mem_of_getElem? (i := 7) rfl)) (hw _ (List.mem_of_getElem? (i := 8) rfl)) (hw _ (List.mem_of_getElem? (i := 9) rfl)) (hw _ (List.mem_of_getElem? (i := 10) rfl)) (by decide) (argsL := [(.ref b19), (.int (Int32.ofNat off)), (.int (Int32.ofNat len)), (.int (Int32.ofNat bf))]) (rest := []) (rmDcM l Z a0 hw [] b19 (Int32.ofNat off) (Int32.ofNat len) (Int32.ofNat bf) h47 n0 Z47 hm) e47 pd_5 rfl (by rw [hml]; rfl) (W := 0) (by show 2 * 0 + _ ≤ _; exact Nat.le_of_eq rfl) (by decide) (by decide) (by decide) (by decide) (hb hby at_405) (Ls := #[.val (.long i0), .second, .val (.int i1), .val (.int i2), .val (.int (Int32.ofNat len)), .val (.int pd), .val (.int (Int32.ofNat off)), .val (.int (Int32.ofNat bf)), .val (.ref b1), .val (.int (Int32.ofNat pos)), .val (.ref b19), .unset])
          obtain ⟨rfl, rfl, e49⟩ := q49
          have N49 := Fr.app N47 (Fr.nil n0)
          refine Go.step (st49) ?_
          show Go _ _ _ _ _ _ _ T49 (mkF m 408 _ [.null])
          refine Go.step (fun tt kk => XS.astore X49.here hx rfl (hb hby at_408) rfl rfl (l' := #[.val (.long i0), .second, .val (.int i1), .val (.int i2), .val (.int (Int32.ofNat len)), .val (.int pd), .val (.int (Int32.ofNat off)), .val (.int (Int32.ofNat bf)), .val (.ref b1), .val (.int (Int32.ofNat pos)), .val (.ref b19), .val .null]) rfl kk) ?_
          show Go _ _ _ _ _ _ _ T49 (mkF m 410 _ [])
          refine Go.step (fun tt kk => XS.aload X49.here hx rfl (hb hby at_410) rfl rfl kk) ?_
          show Go _ _ _ _ _ _ _ T49 (mkF m 412 _ [.null])
          refine Go.step (fun tt kk => XS.aload X49.here hx rfl (hb hby at_412) rfl rfl kk) ?_
          show Go _ _ _ _ _ _ _ T49 (mkF m 414 _ [(.ref b1), .null])
          refine Go.step (fun tt kk => XS.iload X49.here hx rfl (hb hby at_414) rfl kk) ?_
          show Go _ _ _ _ _ _ _ T49 (mkF m 416 _ [(.int (Int32.ofNat len)), (.ref b1), .null])
          refine Go.step (fun tt kk => XS.iload X49.here hx rfl (hb hby at_416) rfl kk) ?_
          show Go _ _ _ _ _ _ _ T49 (mkF m 418 _ [(.int (Int32.ofNat bf)), (.int (Int32.ofNat len)), (.ref b1), .null])
          have f53 := (f46.other W47 ne_b1_b19)
          obtain ⟨v52, T52, L52, X52, q52, st52⟩ := c_static X49 hx hZ hown (y := (⟨"com/example/sharks/sharks/StandardBase64DecodePinLaw", "expected", "([CII)[B"⟩ : MethodName)) (hw _ (List.mem_of_getElem? (i := 14) rfl)) (hw _ (List.mem_of_getElem? (i := 15) rfl)) (hw _ (List.mem_of_getElem? (i := 4) rfl)) (hw _ (List.mem_of_getElem? (i := 16) rfl)) (by decide) (argsL := [(.ref b1), (.int (Int32.ofNat len)), (.int (Int32.ofNat bf))]) (rest := [.null]) (rmExM l Z a0 hw [] b1 (Int32.ofNat len) (Int32.ofNat bf) h47 n0 Z47 hm) e49 pd_6 rfl (by rw [hml]; rfl) (W := 1) (by show 2 * 0 + _ ≤ _; exact Nat.le_of_eq rfl) (by decide) (by decide) (by decide) (by decide) (hb hby at_418) (Ls := #[.val (.long i0), .second, .val (.int i1), .val (.int i2), .val (.int (Int32.ofNat len)), .val (.int pd), .val (.int (Int32.ofNat off)), .val (.int (Int32.ofNat bf)), .val (.ref b1), .val (.int (Int32.ofNat pos)), .val (.ref b19), .val .null])
          obtain ⟨rfl, rfl, e52⟩ := q52
          have N52 := Fr.app N49 (Fr.nil n0)
          refine Go.step (st52) ?_
          show Go _ _ _ _ _ _ _ T52 (mkF m 421 _ [.null, .null])
          obtain ⟨v54, T54, L54, X54, q54, st54⟩ := c_static X52 hx hZ hown (y := (⟨"com/example/sharks/sharks/StandardBase64DecodePinLaw", "same", "([B[B)Z"⟩ : MethodName)) (hw _ (List.mem_of_getElem? (i := 17) rfl)) (hw _ (List.mem_of_getElem? (i := 18) rfl)) (hw _ (List.mem_of_getElem? (i := 4) rfl)) (hw _ (List.mem_of_getElem? (i := 19) rfl)) (by decide) (argsL := [.null, .null]) (rest := []) (rmSn l Z a0 hw [] h47 n0 Z47) e52 pd_7 rfl (by rw [hml]; rfl) (W := 0) (by show 2 * 0 + _ ≤ _; exact Nat.le_of_eq rfl) (by decide) (by decide) (by decide) (by decide) (hb hby at_421) (Ls := #[.val (.long i0), .second, .val (.int i1), .val (.int i2), .val (.int (Int32.ofNat len)), .val (.int pd), .val (.int (Int32.ofNat off)), .val (.int (Int32.ofNat bf)), .val (.ref b1), .val (.int (Int32.ofNat pos)), .val (.ref b19), .val .null])
          obtain ⟨rfl, N54q, e54⟩ := q54
          have N54 := Fr.app N52 N54q
          refine Go.step (st54) ?_
          show Go _ _ _ _ _ _ _ T54 (mkF m 424 _ [(.int (1 : Int32))])
          refine go_retN X54 hx (t := .boolean) hret (by simp) hlk (hb hby at_424) (w := (1 : Int32)) rfl ?_ (by decide) (by decide)
          try rw [e54]
          exact ⟨rfl, N54⟩
        · subst hlen
          show Go _ _ _ _ _ _ _ T47 (mkF m 397 #[.val (.long i0), .second, .val (.int i1), .val (.int i2), .val (.int (0 : Int32)), .val (.int pd), .val (.int (Int32.ofNat off)), .val (.int (Int32.ofNat bf)), .val (.ref b1), .val (.int (Int32.ofNat pos)), .val (.ref b19), .unset] [])
          refine Go.step (fun tt kk => XS.aload X47.here hx rfl (hb hby at_397) rfl rfl kk) ?_
          show Go _ _ _ _ _ _ _ T47 (mkF m 399 _ [(.ref b19)])
          refine Go.step (fun tt kk => XS.iload X47.here hx rfl (hb hby at_399) rfl kk) ?_
          show Go _ _ _ _ _ _ _ T47 (mkF m 401 _ [(.int (Int32.ofNat off)), (.ref b19)])
          refine Go.step (fun tt kk => XS.iload X47.here hx rfl (hb hby at_401) rfl kk) ?_
          show Go _ _ _ _ _ _ _ T47 (mkF m 403 _ [(.int (0 : Int32)), (.int (Int32.ofNat off)), (.ref b19)])
          refine Go.step (fun tt kk => XS.iload X47.here hx rfl (hb hby at_403) rfl kk) ?_
          show Go _ _ _ _ _ _ _ T47 (mkF m 405 _ [(.int (Int32.ofNat bf)), (.int (0 : Int32)), (.int (Int32.ofNat off)), (.ref b19)])
          have f56 := (Sta.wr W47 (Sta.wr W45 (Sta.wr W43 (Sta.wr W41 (Sta.wr W39 (Sta.wr W37 (Sta.wr W35 (Sta.wr W33 (Sta.wr W31 (Sta.wr W30 (Sta.wr W29 (Sta.wr W28 (Sta.wr W27 (Sta.wr W26 (Sta.wr W25 (Sta.wr W24 (Sta.wr W23 (Sta.wr W22 (Sta.wr W21 (Sta.wr W20 (Sta.ext E19 f235_2)))))))))))))))))))))
          have f57 := (((((((((((((((((((((f235_1.ext E19).other W20 ne_va_b19).other W21 ne_va_b19).other W22 ne_va_b19).other W23 ne_va_b19).other W24 ne_va_b19).other W25 ne_va_b19).other W26 ne_va_b19).other W27 ne_va_b19).other W28 ne_va_b19).other W29 ne_va_b19).other W30 ne_va_b19).other W31 ne_va_b19).other W33 ne_va_b19).other W35 ne_va_b19).other W37 ne_va_b19).other W39 ne_va_b19).other W41 ne_va_b19).other W43 ne_va_b19).other W45 ne_va_b19).other W47 ne_va_b19)
          obtain ⟨v55, T55, L55, X55, q55, st55⟩ := c_static X47 hx hZ hown (y := (⟨"com/example/sharks/sharks/StandardBase64", "decode", "([CIII)[B"⟩ : MethodName)) (hw _ (List.mem_of_getElem? (i := 7) rfl)) (hw _ (List.mem_of_getElem? (i := 8) rfl)) (hw _ (List.mem_of_getElem? (i := 9) rfl)) (hw _ (List.mem_of_getElem? (i := 10) rfl)) (by decide) (argsL := [(.ref b19), (.int (Int32.ofNat off)), (.int (0 : Int32)), (.int (Int32.ofNat bf))]) (rest := []) (rmDc0 l Z a0 hw [] b19 off bf g3 h47 n0 Z47 ho hbf) e47 pd_5 rfl (by rw [hml]; rfl) (W := 0) (by show 2 * 0 + _ ≤ _; exact Nat.le_of_eq rfl) (by decide) (by decide) (by decide) (by decide) (hb hby at_405) (Ls := #[.val (.long i0), .second, .val (.int i1), .val (.int i2), .val (.int (0 : Int32)), .val (.int pd), .val (.int (Int32.ofNat off)), .val (.int (Int32.ofNat bf)), .val (.ref b1), .val (.int (Int32.ofNat pos)), .val (.ref b19), .unset])
          generalize e55 : T55.heap = h55 at q55
          obtain ⟨bd55, rfl, N55q, K55q, S55q, V55q⟩ := q55
          have N55 := Fr.app N47 N55q
          have Z55 : n0 ≤ h55.size := Nat.le_trans Z47 K55q.1
          refine Go.step (st55) ?_
          show Go _ _ _ _ _ _ _ T55 (mkF m 408 _ [(.ref bd55)])
          refine Go.step (fun tt kk => XS.astore X55.here hx rfl (hb hby at_408) rfl rfl (l' := #[.val (.long i0), .second, .val (.int i1), .val (.int i2), .val (.int (0 : Int32)), .val (.int pd), .val (.int (Int32.ofNat off)), .val (.int (Int32.ofNat bf)), .val (.ref b1), .val (.int (Int32.ofNat pos)), .val (.ref b19), .val (.ref bd55)]) rfl kk) ?_
          show Go _ _ _ _ _ _ _ T55 (mkF m 410 _ [])
          refine Go.step (fun tt kk => XS.aload X55.here hx rfl (hb hby at_410) rfl rfl kk) ?_
          show Go _ _ _ _ _ _ _ T55 (mkF m 412 _ [(.ref bd55)])
          refine Go.step (fun tt kk => XS.aload X55.here hx rfl (hb hby at_412) rfl rfl kk) ?_
          show Go _ _ _ _ _ _ _ T55 (mkF m 414 _ [(.ref b1), (.ref bd55)])
          refine Go.step (fun tt kk => XS.iload X55.here hx rfl (hb hby at_414) rfl kk) ?_
          show Go _ _ _ _ _ _ _ T55 (mkF m 416 _ [(.int (0 : Int32)), (.ref b1), (.ref bd55)])
          refine Go.step (fun tt kk => XS.iload X55.here hx rfl (hb hby at_416) rfl kk) ?_
          show Go _ _ _ _ _ _ _ T55 (mkF m 418 _ [(.int (Int32.ofNat bf)), (.int (0 : Int32)), (.ref b1), (.ref bd55)])
          have f59 := ((f46.other W47 ne_b1_b19).keep K55q nin0)
          obtain ⟨v58, T58, L58, X58, q58, st58⟩ := c_static X55 hx hZ hown (y := (⟨"com/example/sharks/sharks/StandardBase64DecodePinLaw", "expected", "([CII)[B"⟩ : MethodName)) (hw _ (List.mem_of_getElem? (i := 14) rfl)) (hw _ (List.mem_of_getElem? (i := 15) rfl)) (hw _ (List.mem_of_getElem? (i := 4) rfl)) (hw _ (List.mem_of_getElem? (i := 16) rfl)) (by decide) (argsL := [(.ref b1), (.int (0 : Int32)), (.int (Int32.ofNat bf))]) (rest := [(.ref bd55)]) (rmEx0 l Z a0 hw [] b1  bf g3 h55 n0 Z55  hbf) e55 pd_6 rfl (by rw [hml]; rfl) (W := 1) (by show 2 * 0 + _ ≤ _; exact Nat.le_of_eq rfl) (by decide) (by decide) (by decide) (by decide) (hb hby at_418) (Ls := #[.val (.long i0), .second, .val (.int i1), .val (.int i2), .val (.int (0 : Int32)), .val (.int pd), .val (.int (Int32.ofNat off)), .val (.int (Int32.ofNat bf)), .val (.ref b1), .val (.int (Int32.ofNat pos)), .val (.ref b19), .val (.ref bd55)])
          generalize e58 : T58.heap = h58 at q58
          obtain ⟨be58, rfl, N58q, K58q, S58q, V58q⟩ := q58
          have N58 := Fr.app N55 N58q
          have Z58 : n0 ≤ h58.size := Nat.le_trans Z55 K58q.1
          refine Go.step (st58) ?_
          show Go _ _ _ _ _ _ _ T58 (mkF m 421 _ [(.ref be58), (.ref bd55)])
          have f61 := (V55q.keep K58q nin0)
          obtain ⟨v60, T60, L60, X60, q60, st60⟩ := c_static X58 hx hZ hown (y := (⟨"com/example/sharks/sharks/StandardBase64DecodePinLaw", "same", "([B[B)Z"⟩ : MethodName)) (hw _ (List.mem_of_getElem? (i := 17) rfl)) (hw _ (List.mem_of_getElem? (i := 18) rfl)) (hw _ (List.mem_of_getElem? (i := 4) rfl)) (hw _ (List.mem_of_getElem? (i := 19) rfl)) (by decide) (argsL := [(.ref bd55), (.ref be58)]) (rest := []) (rmSm l Z a0 hw [] bd55 be58 bf (exI g3 bf) h58 n0 Z58 (by omega) f61 V58q) e58 pd_7 rfl (by rw [hml]; rfl) (W := 0) (by show 2 * 0 + _ ≤ _; exact Nat.le_of_eq rfl) (by decide) (by decide) (by decide) (by decide) (hb hby at_421) (Ls := #[.val (.long i0), .second, .val (.int i1), .val (.int i2), .val (.int (0 : Int32)), .val (.int pd), .val (.int (Int32.ofNat off)), .val (.int (Int32.ofNat bf)), .val (.ref b1), .val (.int (Int32.ofNat pos)), .val (.ref b19), .val (.ref bd55)])
          obtain ⟨rfl, N60q, e60⟩ := q60
          have N60 := Fr.app N58 N60q
          refine Go.step (st60) ?_
          show Go _ _ _ _ _ _ _ T60 (mkF m 424 _ [(.int (1 : Int32))])
          refine go_retN X60 hx (t := .boolean) hret (by simp) hlk (hb hby at_424) (w := (1 : Int32)) rfl ?_ (by decide) (by decide)
          try rw [e60]
          exact ⟨rfl, N60⟩
        · subst hlen
          by_cases hp1 : g3 3 = 61
          · by_cases hp2 : g3 2 = 61
            · by_cases hok : OK2 g3 0
              · show Go _ _ _ _ _ _ _ T47 (mkF m 397 #[.val (.long i0), .second, .val (.int i1), .val (.int i2), .val (.int (4 : Int32)), .val (.int pd), .val (.int (Int32.ofNat off)), .val (.int (Int32.ofNat bf)), .val (.ref b1), .val (.int (Int32.ofNat pos)), .val (.ref b19), .unset] [])
                refine Go.step (fun tt kk => XS.aload X47.here hx rfl (hb hby at_397) rfl rfl kk) ?_
                show Go _ _ _ _ _ _ _ T47 (mkF m 399 _ [(.ref b19)])
                refine Go.step (fun tt kk => XS.iload X47.here hx rfl (hb hby at_399) rfl kk) ?_
                show Go _ _ _ _ _ _ _ T47 (mkF m 401 _ [(.int (Int32.ofNat off)), (.ref b19)])
                refine Go.step (fun tt kk => XS.iload X47.here hx rfl (hb hby at_401) rfl kk) ?_
                show Go _ _ _ _ _ _ _ T47 (mkF m 403 _ [(.int (4 : Int32)), (.int (Int32.ofNat off)), (.ref b19)])
                refine Go.step (fun tt kk => XS.iload X47.here hx rfl (hb hby at_403) rfl kk) ?_
                show Go _ _ _ _ _ _ _ T47 (mkF m 405 _ [(.int (Int32.ofNat bf)), (.int (4 : Int32)), (.int (Int32.ofNat off)), (.ref b19)])
                have f63 := (Sta.wr W47 (Sta.wr W45 (Sta.wr W43 (Sta.wr W41 (Sta.wr W39 (Sta.wr W37 (Sta.wr W35 (Sta.wr W33 (Sta.wr W31 (Sta.wr W30 (Sta.wr W29 (Sta.wr W28 (Sta.wr W27 (Sta.wr W26 (Sta.wr W25 (Sta.wr W24 (Sta.wr W23 (Sta.wr W22 (Sta.wr W21 (Sta.wr W20 (Sta.ext E19 f235_2)))))))))))))))))))))
                have f64 := (((((((((((((((((((((f235_1.ext E19).other W20 ne_va_b19).other W21 ne_va_b19).other W22 ne_va_b19).other W23 ne_va_b19).other W24 ne_va_b19).other W25 ne_va_b19).other W26 ne_va_b19).other W27 ne_va_b19).other W28 ne_va_b19).other W29 ne_va_b19).other W30 ne_va_b19).other W31 ne_va_b19).other W33 ne_va_b19).other W35 ne_va_b19).other W37 ne_va_b19).other W39 ne_va_b19).other W41 ne_va_b19).other W43 ne_va_b19).other W45 ne_va_b19).other W47 ne_va_b19)
                obtain ⟨v62, T62, L62, X62, q62, st62⟩ := c_static X47 hx hZ hown (y := (⟨"com/example/sharks/sharks/StandardBase64", "decode", "([CIII)[B"⟩ : MethodName)) (hw _ (List.mem_of_getElem? (i := 7) rfl)) (hw _ (List.mem_of_getElem? (i := 8) rfl)) (hw _ (List.mem_of_getElem? (i := 9) rfl)) (hw _ (List.mem_of_getElem? (i := 10) rfl)) (by decide) (argsL := [(.ref b19), (.int (Int32.ofNat off)), (.int (4 : Int32)), (.int (Int32.ofNat bf))]) (rest := []) (rmDc42 l Z a0 hw [] b19 va off bf g3 F h47 n0 Z47 ho hbf hF hg3 hp1 hp2 f63 f64 V48) e47 pd_5 rfl (by rw [hml]; rfl) (W := 0) (by show 2 * 0 + _ ≤ _; exact Nat.le_of_eq rfl) (by decide) (by decide) (by decide) (by decide) (hb hby at_405) (Ls := #[.val (.long i0), .second, .val (.int i1), .val (.int i2), .val (.int (4 : Int32)), .val (.int pd), .val (.int (Int32.ofNat off)), .val (.int (Int32.ofNat bf)), .val (.ref b1), .val (.int (Int32.ofNat pos)), .val (.ref b19), .unset])
                generalize e62 : T62.heap = h62 at q62
                obtain ⟨N62q, K62q, q162, q262⟩ := q62
                have N62 := Fr.app N47 N62q
                have Z62 : n0 ≤ h62.size := Nat.le_trans Z47 K62q.1
                obtain ⟨bd62, rfl, S62q, V62q⟩ := q162 hok
                refine Go.step (st62) ?_
                show Go _ _ _ _ _ _ _ T62 (mkF m 408 _ [(.ref bd62)])
                refine Go.step (fun tt kk => XS.astore X62.here hx rfl (hb hby at_408) rfl rfl (l' := #[.val (.long i0), .second, .val (.int i1), .val (.int i2), .val (.int (4 : Int32)), .val (.int pd), .val (.int (Int32.ofNat off)), .val (.int (Int32.ofNat bf)), .val (.ref b1), .val (.int (Int32.ofNat pos)), .val (.ref b19), .val (.ref bd62)]) rfl kk) ?_
                show Go _ _ _ _ _ _ _ T62 (mkF m 410 _ [])
                refine Go.step (fun tt kk => XS.aload X62.here hx rfl (hb hby at_410) rfl rfl kk) ?_
                show Go _ _ _ _ _ _ _ T62 (mkF m 412 _ [(.ref bd62)])
                refine Go.step (fun tt kk => XS.aload X62.here hx rfl (hb hby at_412) rfl rfl kk) ?_
                show Go _ _ _ _ _ _ _ T62 (mkF m 414 _ [(.ref b1), (.ref bd62)])
                refine Go.step (fun tt kk => XS.iload X62.here hx rfl (hb hby at_414) rfl kk) ?_
                show Go _ _ _ _ _ _ _ T62 (mkF m 416 _ [(.int (4 : Int32)), (.ref b1), (.ref bd62)])
                refine Go.step (fun tt kk => XS.iload X62.here hx rfl (hb hby at_416) rfl kk) ?_
                show Go _ _ _ _ _ _ _ T62 (mkF m 418 _ [(.int (Int32.ofNat bf)), (.int (4 : Int32)), (.ref b1), (.ref bd62)])
                have f66 := ((f46.other W47 ne_b1_b19).keep K62q nin0)
                obtain ⟨v65, T65, L65, X65, q65, st65⟩ := c_static X62 hx hZ hown (y := (⟨"com/example/sharks/sharks/StandardBase64DecodePinLaw", "expected", "([CII)[B"⟩ : MethodName)) (hw _ (List.mem_of_getElem? (i := 14) rfl)) (hw _ (List.mem_of_getElem? (i := 15) rfl)) (hw _ (List.mem_of_getElem? (i := 4) rfl)) (hw _ (List.mem_of_getElem? (i := 16) rfl)) (by decide) (argsL := [(.ref b1), (.int (4 : Int32)), (.int (Int32.ofNat bf))]) (rest := [(.ref bd62)]) (rmEx42 l Z a0 hw [] b1 bf g3 h62 n0 Z62 hbf hg3 hp1 hp2 f66) e62 pd_6 rfl (by rw [hml]; rfl) (W := 1) (by show 2 * 0 + _ ≤ _; exact Nat.le_of_eq rfl) (by decide) (by decide) (by decide) (by decide) (hb hby at_418) (Ls := #[.val (.long i0), .second, .val (.int i1), .val (.int i2), .val (.int (4 : Int32)), .val (.int pd), .val (.int (Int32.ofNat off)), .val (.int (Int32.ofNat bf)), .val (.ref b1), .val (.int (Int32.ofNat pos)), .val (.ref b19), .val (.ref bd62)])
                generalize e65 : T65.heap = h65 at q65
                obtain ⟨N65q, K65q, q165, q265⟩ := q65
                have N65 := Fr.app N62 N65q
                have Z65 : n0 ≤ h65.size := Nat.le_trans Z62 K65q.1
                obtain ⟨be65, rfl, S65q, V65q⟩ := q165 hok
                refine Go.step (st65) ?_
                show Go _ _ _ _ _ _ _ T65 (mkF m 421 _ [(.ref be65), (.ref bd62)])
                have f68 := (V62q.keep K65q nin0)
                obtain ⟨v67, T67, L67, X67, q67, st67⟩ := c_static X65 hx hZ hown (y := (⟨"com/example/sharks/sharks/StandardBase64DecodePinLaw", "same", "([B[B)Z"⟩ : MethodName)) (hw _ (List.mem_of_getElem? (i := 17) rfl)) (hw _ (List.mem_of_getElem? (i := 18) rfl)) (hw _ (List.mem_of_getElem? (i := 4) rfl)) (hw _ (List.mem_of_getElem? (i := 19) rfl)) (by decide) (argsL := [(.ref bd62), (.ref be65)]) (rest := []) (rmSm l Z a0 hw [] bd62 be65 (bf + 1) (exI g3 bf) h65 n0 Z65 (by omega) f68 V65q) e65 pd_7 rfl (by rw [hml]; rfl) (W := 0) (by show 2 * 0 + _ ≤ _; exact Nat.le_of_eq rfl) (by decide) (by decide) (by decide) (by decide) (hb hby at_421) (Ls := #[.val (.long i0), .second, .val (.int i1), .val (.int i2), .val (.int (4 : Int32)), .val (.int pd), .val (.int (Int32.ofNat off)), .val (.int (Int32.ofNat bf)), .val (.ref b1), .val (.int (Int32.ofNat pos)), .val (.ref b19), .val (.ref bd62)])
                obtain ⟨rfl, N67q, e67⟩ := q67
                have N67 := Fr.app N65 N67q
                refine Go.step (st67) ?_
                show Go _ _ _ _ _ _ _ T67 (mkF m 424 _ [(.int (1 : Int32))])
                refine go_retN X67 hx (t := .boolean) hret (by simp) hlk (hb hby at_424) (w := (1 : Int32)) rfl ?_ (by decide) (by decide)
                try rw [e67]
                exact ⟨rfl, N67⟩
              · show Go _ _ _ _ _ _ _ T47 (mkF m 397 #[.val (.long i0), .second, .val (.int i1), .val (.int i2), .val (.int (4 : Int32)), .val (.int pd), .val (.int (Int32.ofNat off)), .val (.int (Int32.ofNat bf)), .val (.ref b1), .val (.int (Int32.ofNat pos)), .val (.ref b19), .unset] [])
                refine Go.step (fun tt kk => XS.aload X47.here hx rfl (hb hby at_397) rfl rfl kk) ?_
                show Go _ _ _ _ _ _ _ T47 (mkF m 399 _ [(.ref b19)])
                refine Go.step (fun tt kk => XS.iload X47.here hx rfl (hb hby at_399) rfl kk) ?_
                show Go _ _ _ _ _ _ _ T47 (mkF m 401 _ [(.int (Int32.ofNat off)), (.ref b19)])
                refine Go.step (fun tt kk => XS.iload X47.here hx rfl (hb hby at_401) rfl kk) ?_
                show Go _ _ _ _ _ _ _ T47 (mkF m 403 _ [(.int (4 : Int32)), (.int (Int32.ofNat off)), (.ref b19)])
                refine Go.step (fun tt kk => XS.iload X47.here hx rfl (hb hby at_403) rfl kk) ?_
                show Go _ _ _ _ _ _ _ T47 (mkF m 405 _ [(.int (Int32.ofNat bf)), (.int (4 : Int32)), (.int (Int32.ofNat off)), (.ref b19)])
                have f70 := (Sta.wr W47 (Sta.wr W45 (Sta.wr W43 (Sta.wr W41 (Sta.wr W39 (Sta.wr W37 (Sta.wr W35 (Sta.wr W33 (Sta.wr W31 (Sta.wr W30 (Sta.wr W29 (Sta.wr W28 (Sta.wr W27 (Sta.wr W26 (Sta.wr W25 (Sta.wr W24 (Sta.wr W23 (Sta.wr W22 (Sta.wr W21 (Sta.wr W20 (Sta.ext E19 f235_2)))))))))))))))))))))
                have f71 := (((((((((((((((((((((f235_1.ext E19).other W20 ne_va_b19).other W21 ne_va_b19).other W22 ne_va_b19).other W23 ne_va_b19).other W24 ne_va_b19).other W25 ne_va_b19).other W26 ne_va_b19).other W27 ne_va_b19).other W28 ne_va_b19).other W29 ne_va_b19).other W30 ne_va_b19).other W31 ne_va_b19).other W33 ne_va_b19).other W35 ne_va_b19).other W37 ne_va_b19).other W39 ne_va_b19).other W41 ne_va_b19).other W43 ne_va_b19).other W45 ne_va_b19).other W47 ne_va_b19)
                obtain ⟨v69, T69, L69, X69, q69, st69⟩ := c_static X47 hx hZ hown (y := (⟨"com/example/sharks/sharks/StandardBase64", "decode", "([CIII)[B"⟩ : MethodName)) (hw _ (List.mem_of_getElem? (i := 7) rfl)) (hw _ (List.mem_of_getElem? (i := 8) rfl)) (hw _ (List.mem_of_getElem? (i := 9) rfl)) (hw _ (List.mem_of_getElem? (i := 10) rfl)) (by decide) (argsL := [(.ref b19), (.int (Int32.ofNat off)), (.int (4 : Int32)), (.int (Int32.ofNat bf))]) (rest := []) (rmDc42 l Z a0 hw [] b19 va off bf g3 F h47 n0 Z47 ho hbf hF hg3 hp1 hp2 f70 f71 V48) e47 pd_5 rfl (by rw [hml]; rfl) (W := 0) (by show 2 * 0 + _ ≤ _; exact Nat.le_of_eq rfl) (by decide) (by decide) (by decide) (by decide) (hb hby at_405) (Ls := #[.val (.long i0), .second, .val (.int i1), .val (.int i2), .val (.int (4 : Int32)), .val (.int pd), .val (.int (Int32.ofNat off)), .val (.int (Int32.ofNat bf)), .val (.ref b1), .val (.int (Int32.ofNat pos)), .val (.ref b19), .unset])
                generalize e69 : T69.heap = h69 at q69
                obtain ⟨N69q, K69q, q169, q269⟩ := q69
                have N69 := Fr.app N47 N69q
                have Z69 : n0 ≤ h69.size := Nat.le_trans Z47 K69q.1
                obtain rfl := q269 hok
                refine Go.step (st69) ?_
                show Go _ _ _ _ _ _ _ T69 (mkF m 408 _ [.null])
                refine Go.step (fun tt kk => XS.astore X69.here hx rfl (hb hby at_408) rfl rfl (l' := #[.val (.long i0), .second, .val (.int i1), .val (.int i2), .val (.int (4 : Int32)), .val (.int pd), .val (.int (Int32.ofNat off)), .val (.int (Int32.ofNat bf)), .val (.ref b1), .val (.int (Int32.ofNat pos)), .val (.ref b19), .val .null]) rfl kk) ?_
                show Go _ _ _ _ _ _ _ T69 (mkF m 410 _ [])
                refine Go.step (fun tt kk => XS.aload X69.here hx rfl (hb hby at_410) rfl rfl kk) ?_
                show Go _ _ _ _ _ _ _ T69 (mkF m 412 _ [.null])
                refine Go.step (fun tt kk => XS.aload X69.here hx rfl (hb hby at_412) rfl rfl kk) ?_
                show Go _ _ _ _ _ _ _ T69 (mkF m 414 _ [(.ref b1), .null])
                refine Go.step (fun tt kk => XS.iload X69.here hx rfl (hb hby at_414) rfl kk) ?_
                show Go _ _ _ _ _ _ _ T69 (mkF m 416 _ [(.int (4 : Int32)), (.ref b1), .null])
                refine Go.step (fun tt kk => XS.iload X69.here hx rfl (hb hby at_416) rfl kk) ?_
                show Go _ _ _ _ _ _ _ T69 (mkF m 418 _ [(.int (Int32.ofNat bf)), (.int (4 : Int32)), (.ref b1), .null])
                have f73 := ((f46.other W47 ne_b1_b19).keep K69q nin0)
                obtain ⟨v72, T72, L72, X72, q72, st72⟩ := c_static X69 hx hZ hown (y := (⟨"com/example/sharks/sharks/StandardBase64DecodePinLaw", "expected", "([CII)[B"⟩ : MethodName)) (hw _ (List.mem_of_getElem? (i := 14) rfl)) (hw _ (List.mem_of_getElem? (i := 15) rfl)) (hw _ (List.mem_of_getElem? (i := 4) rfl)) (hw _ (List.mem_of_getElem? (i := 16) rfl)) (by decide) (argsL := [(.ref b1), (.int (4 : Int32)), (.int (Int32.ofNat bf))]) (rest := [.null]) (rmEx42 l Z a0 hw [] b1 bf g3 h69 n0 Z69 hbf hg3 hp1 hp2 f73) e69 pd_6 rfl (by rw [hml]; rfl) (W := 1) (by show 2 * 0 + _ ≤ _; exact Nat.le_of_eq rfl) (by decide) (by decide) (by decide) (by decide) (hb hby at_418) (Ls := #[.val (.long i0), .second, .val (.int i1), .val (.int i2), .val (.int (4 : Int32)), .val (.int pd), .val (.int (Int32.ofNat off)), .val (.int (Int32.ofNat bf)), .val (.ref b1), .val (.int (Int32.ofNat pos)), .val (.ref b19), .val .null])
                generalize e72 : T72.heap = h72 at q72
                obtain ⟨N72q, K72q, q172, q272⟩ := q72
                have N72 := Fr.app N69 N72q
                have Z72 : n0 ≤ h72.size := Nat.le_trans Z69 K72q.1
                obtain rfl := q272 hok
                refine Go.step (st72) ?_
                show Go _ _ _ _ _ _ _ T72 (mkF m 421 _ [.null, .null])
                obtain ⟨v74, T74, L74, X74, q74, st74⟩ := c_static X72 hx hZ hown (y := (⟨"com/example/sharks/sharks/StandardBase64DecodePinLaw", "same", "([B[B)Z"⟩ : MethodName)) (hw _ (List.mem_of_getElem? (i := 17) rfl)) (hw _ (List.mem_of_getElem? (i := 18) rfl)) (hw _ (List.mem_of_getElem? (i := 4) rfl)) (hw _ (List.mem_of_getElem? (i := 19) rfl)) (by decide) (argsL := [.null, .null]) (rest := []) (rmSn l Z a0 hw [] h72 n0 Z72) e72 pd_7 rfl (by rw [hml]; rfl) (W := 0) (by show 2 * 0 + _ ≤ _; exact Nat.le_of_eq rfl) (by decide) (by decide) (by decide) (by decide) (hb hby at_421) (Ls := #[.val (.long i0), .second, .val (.int i1), .val (.int i2), .val (.int (4 : Int32)), .val (.int pd), .val (.int (Int32.ofNat off)), .val (.int (Int32.ofNat bf)), .val (.ref b1), .val (.int (Int32.ofNat pos)), .val (.ref b19), .val .null])
                obtain ⟨rfl, N74q, e74⟩ := q74
                have N74 := Fr.app N72 N74q
                refine Go.step (st74) ?_
                show Go _ _ _ _ _ _ _ T74 (mkF m 424 _ [(.int (1 : Int32))])
                refine go_retN X74 hx (t := .boolean) hret (by simp) hlk (hb hby at_424) (w := (1 : Int32)) rfl ?_ (by decide) (by decide)
                try rw [e74]
                exact ⟨rfl, N74⟩
            · by_cases hok : OK1 g3 0
              · show Go _ _ _ _ _ _ _ T47 (mkF m 397 #[.val (.long i0), .second, .val (.int i1), .val (.int i2), .val (.int (4 : Int32)), .val (.int pd), .val (.int (Int32.ofNat off)), .val (.int (Int32.ofNat bf)), .val (.ref b1), .val (.int (Int32.ofNat pos)), .val (.ref b19), .unset] [])
                refine Go.step (fun tt kk => XS.aload X47.here hx rfl (hb hby at_397) rfl rfl kk) ?_
                show Go _ _ _ _ _ _ _ T47 (mkF m 399 _ [(.ref b19)])
                refine Go.step (fun tt kk => XS.iload X47.here hx rfl (hb hby at_399) rfl kk) ?_
                show Go _ _ _ _ _ _ _ T47 (mkF m 401 _ [(.int (Int32.ofNat off)), (.ref b19)])
                refine Go.step (fun tt kk => XS.iload X47.here hx rfl (hb hby at_401) rfl kk) ?_
                show Go _ _ _ _ _ _ _ T47 (mkF m 403 _ [(.int (4 : Int32)), (.int (Int32.ofNat off)), (.ref b19)])
                refine Go.step (fun tt kk => XS.iload X47.here hx rfl (hb hby at_403) rfl kk) ?_
                show Go _ _ _ _ _ _ _ T47 (mkF m 405 _ [(.int (Int32.ofNat bf)), (.int (4 : Int32)), (.int (Int32.ofNat off)), (.ref b19)])
                have f76 := (Sta.wr W47 (Sta.wr W45 (Sta.wr W43 (Sta.wr W41 (Sta.wr W39 (Sta.wr W37 (Sta.wr W35 (Sta.wr W33 (Sta.wr W31 (Sta.wr W30 (Sta.wr W29 (Sta.wr W28 (Sta.wr W27 (Sta.wr W26 (Sta.wr W25 (Sta.wr W24 (Sta.wr W23 (Sta.wr W22 (Sta.wr W21 (Sta.wr W20 (Sta.ext E19 f235_2)))))))))))))))))))))
                have f77 := (((((((((((((((((((((f235_1.ext E19).other W20 ne_va_b19).other W21 ne_va_b19).other W22 ne_va_b19).other W23 ne_va_b19).other W24 ne_va_b19).other W25 ne_va_b19).other W26 ne_va_b19).other W27 ne_va_b19).other W28 ne_va_b19).other W29 ne_va_b19).other W30 ne_va_b19).other W31 ne_va_b19).other W33 ne_va_b19).other W35 ne_va_b19).other W37 ne_va_b19).other W39 ne_va_b19).other W41 ne_va_b19).other W43 ne_va_b19).other W45 ne_va_b19).other W47 ne_va_b19)
                obtain ⟨v75, T75, L75, X75, q75, st75⟩ := c_static X47 hx hZ hown (y := (⟨"com/example/sharks/sharks/StandardBase64", "decode", "([CIII)[B"⟩ : MethodName)) (hw _ (List.mem_of_getElem? (i := 7) rfl)) (hw _ (List.mem_of_getElem? (i := 8) rfl)) (hw _ (List.mem_of_getElem? (i := 9) rfl)) (hw _ (List.mem_of_getElem? (i := 10) rfl)) (by decide) (argsL := [(.ref b19), (.int (Int32.ofNat off)), (.int (4 : Int32)), (.int (Int32.ofNat bf))]) (rest := []) (rmDc41 l Z a0 hw [] b19 va off bf g3 F h47 n0 Z47 ho hbf hF hg3 hp1 hp2 f76 f77 V48) e47 pd_5 rfl (by rw [hml]; rfl) (W := 0) (by show 2 * 0 + _ ≤ _; exact Nat.le_of_eq rfl) (by decide) (by decide) (by decide) (by decide) (hb hby at_405) (Ls := #[.val (.long i0), .second, .val (.int i1), .val (.int i2), .val (.int (4 : Int32)), .val (.int pd), .val (.int (Int32.ofNat off)), .val (.int (Int32.ofNat bf)), .val (.ref b1), .val (.int (Int32.ofNat pos)), .val (.ref b19), .unset])
                generalize e75 : T75.heap = h75 at q75
                obtain ⟨N75q, K75q, q175, q275⟩ := q75
                have N75 := Fr.app N47 N75q
                have Z75 : n0 ≤ h75.size := Nat.le_trans Z47 K75q.1
                obtain ⟨bd75, rfl, S75q, V75q⟩ := q175 hok
                refine Go.step (st75) ?_
                show Go _ _ _ _ _ _ _ T75 (mkF m 408 _ [(.ref bd75)])
                refine Go.step (fun tt kk => XS.astore X75.here hx rfl (hb hby at_408) rfl rfl (l' := #[.val (.long i0), .second, .val (.int i1), .val (.int i2), .val (.int (4 : Int32)), .val (.int pd), .val (.int (Int32.ofNat off)), .val (.int (Int32.ofNat bf)), .val (.ref b1), .val (.int (Int32.ofNat pos)), .val (.ref b19), .val (.ref bd75)]) rfl kk) ?_
                show Go _ _ _ _ _ _ _ T75 (mkF m 410 _ [])
                refine Go.step (fun tt kk => XS.aload X75.here hx rfl (hb hby at_410) rfl rfl kk) ?_
                show Go _ _ _ _ _ _ _ T75 (mkF m 412 _ [(.ref bd75)])
                refine Go.step (fun tt kk => XS.aload X75.here hx rfl (hb hby at_412) rfl rfl kk) ?_
                show Go _ _ _ _ _ _ _ T75 (mkF m 414 _ [(.ref b1), (.ref bd75)])
                refine Go.step (fun tt kk => XS.iload X75.here hx rfl (hb hby at_414) rfl kk) ?_
                show Go _ _ _ _ _ _ _ T75 (mkF m 416 _ [(.int (4 : Int32)), (.ref b1), (.ref bd75)])
                refine Go.step (fun tt kk => XS.iload X75.here hx rfl (hb hby at_416) rfl kk) ?_
                show Go _ _ _ _ _ _ _ T75 (mkF m 418 _ [(.int (Int32.ofNat bf)), (.int (4 : Int32)), (.ref b1), (.ref bd75)])
                have f79 := ((f46.other W47 ne_b1_b19).keep K75q nin0)
                obtain ⟨v78, T78, L78, X78, q78, st78⟩ := c_static X75 hx hZ hown (y := (⟨"com/example/sharks/sharks/StandardBase64DecodePinLaw", "expected", "([CII)[B"⟩ : MethodName)) (hw _ (List.mem_of_getElem? (i := 14) rfl)) (hw _ (List.mem_of_getElem? (i := 15) rfl)) (hw _ (List.mem_of_getElem? (i := 4) rfl)) (hw _ (List.mem_of_getElem? (i := 16) rfl)) (by decide) (argsL := [(.ref b1), (.int (4 : Int32)), (.int (Int32.ofNat bf))]) (rest := [(.ref bd75)]) (rmEx41 l Z a0 hw [] b1 bf g3 h75 n0 Z75 hbf hg3 hp1 hp2 f79) e75 pd_6 rfl (by rw [hml]; rfl) (W := 1) (by show 2 * 0 + _ ≤ _; exact Nat.le_of_eq rfl) (by decide) (by decide) (by decide) (by decide) (hb hby at_418) (Ls := #[.val (.long i0), .second, .val (.int i1), .val (.int i2), .val (.int (4 : Int32)), .val (.int pd), .val (.int (Int32.ofNat off)), .val (.int (Int32.ofNat bf)), .val (.ref b1), .val (.int (Int32.ofNat pos)), .val (.ref b19), .val (.ref bd75)])
                generalize e78 : T78.heap = h78 at q78
                obtain ⟨N78q, K78q, q178, q278⟩ := q78
                have N78 := Fr.app N75 N78q
                have Z78 : n0 ≤ h78.size := Nat.le_trans Z75 K78q.1
                obtain ⟨be78, rfl, S78q, V78q⟩ := q178 hok
                refine Go.step (st78) ?_
                show Go _ _ _ _ _ _ _ T78 (mkF m 421 _ [(.ref be78), (.ref bd75)])
                have f81 := (V75q.keep K78q nin0)
                obtain ⟨v80, T80, L80, X80, q80, st80⟩ := c_static X78 hx hZ hown (y := (⟨"com/example/sharks/sharks/StandardBase64DecodePinLaw", "same", "([B[B)Z"⟩ : MethodName)) (hw _ (List.mem_of_getElem? (i := 17) rfl)) (hw _ (List.mem_of_getElem? (i := 18) rfl)) (hw _ (List.mem_of_getElem? (i := 4) rfl)) (hw _ (List.mem_of_getElem? (i := 19) rfl)) (by decide) (argsL := [(.ref bd75), (.ref be78)]) (rest := []) (rmSm l Z a0 hw [] bd75 be78 (bf + 2) (exI g3 bf) h78 n0 Z78 (by omega) f81 V78q) e78 pd_7 rfl (by rw [hml]; rfl) (W := 0) (by show 2 * 0 + _ ≤ _; exact Nat.le_of_eq rfl) (by decide) (by decide) (by decide) (by decide) (hb hby at_421) (Ls := #[.val (.long i0), .second, .val (.int i1), .val (.int i2), .val (.int (4 : Int32)), .val (.int pd), .val (.int (Int32.ofNat off)), .val (.int (Int32.ofNat bf)), .val (.ref b1), .val (.int (Int32.ofNat pos)), .val (.ref b19), .val (.ref bd75)])
                obtain ⟨rfl, N80q, e80⟩ := q80
                have N80 := Fr.app N78 N80q
                refine Go.step (st80) ?_
                show Go _ _ _ _ _ _ _ T80 (mkF m 424 _ [(.int (1 : Int32))])
                refine go_retN X80 hx (t := .boolean) hret (by simp) hlk (hb hby at_424) (w := (1 : Int32)) rfl ?_ (by decide) (by decide)
                try rw [e80]
                exact ⟨rfl, N80⟩
              · show Go _ _ _ _ _ _ _ T47 (mkF m 397 #[.val (.long i0), .second, .val (.int i1), .val (.int i2), .val (.int (4 : Int32)), .val (.int pd), .val (.int (Int32.ofNat off)), .val (.int (Int32.ofNat bf)), .val (.ref b1), .val (.int (Int32.ofNat pos)), .val (.ref b19), .unset] [])
                refine Go.step (fun tt kk => XS.aload X47.here hx rfl (hb hby at_397) rfl rfl kk) ?_
                show Go _ _ _ _ _ _ _ T47 (mkF m 399 _ [(.ref b19)])
                refine Go.step (fun tt kk => XS.iload X47.here hx rfl (hb hby at_399) rfl kk) ?_
                show Go _ _ _ _ _ _ _ T47 (mkF m 401 _ [(.int (Int32.ofNat off)), (.ref b19)])
                refine Go.step (fun tt kk => XS.iload X47.here hx rfl (hb hby at_401) rfl kk) ?_
                show Go _ _ _ _ _ _ _ T47 (mkF m 403 _ [(.int (4 : Int32)), (.int (Int32.ofNat off)), (.ref b19)])
                refine Go.step (fun tt kk => XS.iload X47.here hx rfl (hb hby at_403) rfl kk) ?_
                show Go _ _ _ _ _ _ _ T47 (mkF m 405 _ [(.int (Int32.ofNat bf)), (.int (4 : Int32)), (.int (Int32.ofNat off)), (.ref b19)])
                have f83 := (Sta.wr W47 (Sta.wr W45 (Sta.wr W43 (Sta.wr W41 (Sta.wr W39 (Sta.wr W37 (Sta.wr W35 (Sta.wr W33 (Sta.wr W31 (Sta.wr W30 (Sta.wr W29 (Sta.wr W28 (Sta.wr W27 (Sta.wr W26 (Sta.wr W25 (Sta.wr W24 (Sta.wr W23 (Sta.wr W22 (Sta.wr W21 (Sta.wr W20 (Sta.ext E19 f235_2)))))))))))))))))))))
                have f84 := (((((((((((((((((((((f235_1.ext E19).other W20 ne_va_b19).other W21 ne_va_b19).other W22 ne_va_b19).other W23 ne_va_b19).other W24 ne_va_b19).other W25 ne_va_b19).other W26 ne_va_b19).other W27 ne_va_b19).other W28 ne_va_b19).other W29 ne_va_b19).other W30 ne_va_b19).other W31 ne_va_b19).other W33 ne_va_b19).other W35 ne_va_b19).other W37 ne_va_b19).other W39 ne_va_b19).other W41 ne_va_b19).other W43 ne_va_b19).other W45 ne_va_b19).other W47 ne_va_b19)
                obtain ⟨v82, T82, L82, X82, q82, st82⟩ := c_static X47 hx hZ hown (y := (⟨"com/example/sharks/sharks/StandardBase64", "decode", "([CIII)[B"⟩ : MethodName)) (hw _ (List.mem_of_getElem? (i := 7) rfl)) (hw _ (List.mem_of_getElem? (i := 8) rfl)) (hw _ (List.mem_of_getElem? (i := 9) rfl)) (hw _ (List.mem_of_getElem? (i := 10) rfl)) (by decide) (argsL := [(.ref b19), (.int (Int32.ofNat off)), (.int (4 : Int32)), (.int (Int32.ofNat bf))]) (rest := []) (rmDc41 l Z a0 hw [] b19 va off bf g3 F h47 n0 Z47 ho hbf hF hg3 hp1 hp2 f83 f84 V48) e47 pd_5 rfl (by rw [hml]; rfl) (W := 0) (by show 2 * 0 + _ ≤ _; exact Nat.le_of_eq rfl) (by decide) (by decide) (by decide) (by decide) (hb hby at_405) (Ls := #[.val (.long i0), .second, .val (.int i1), .val (.int i2), .val (.int (4 : Int32)), .val (.int pd), .val (.int (Int32.ofNat off)), .val (.int (Int32.ofNat bf)), .val (.ref b1), .val (.int (Int32.ofNat pos)), .val (.ref b19), .unset])
                generalize e82 : T82.heap = h82 at q82
                obtain ⟨N82q, K82q, q182, q282⟩ := q82
                have N82 := Fr.app N47 N82q
                have Z82 : n0 ≤ h82.size := Nat.le_trans Z47 K82q.1
                obtain rfl := q282 hok
                refine Go.step (st82) ?_
                show Go _ _ _ _ _ _ _ T82 (mkF m 408 _ [.null])
                refine Go.step (fun tt kk => XS.astore X82.here hx rfl (hb hby at_408) rfl rfl (l' := #[.val (.long i0), .second, .val (.int i1), .val (.int i2), .val (.int (4 : Int32)), .val (.int pd), .val (.int (Int32.ofNat off)), .val (.int (Int32.ofNat bf)), .val (.ref b1), .val (.int (Int32.ofNat pos)), .val (.ref b19), .val .null]) rfl kk) ?_
                show Go _ _ _ _ _ _ _ T82 (mkF m 410 _ [])
                refine Go.step (fun tt kk => XS.aload X82.here hx rfl (hb hby at_410) rfl rfl kk) ?_
                show Go _ _ _ _ _ _ _ T82 (mkF m 412 _ [.null])
                refine Go.step (fun tt kk => XS.aload X82.here hx rfl (hb hby at_412) rfl rfl kk) ?_
                show Go _ _ _ _ _ _ _ T82 (mkF m 414 _ [(.ref b1), .null])
                refine Go.step (fun tt kk => XS.iload X82.here hx rfl (hb hby at_414) rfl kk) ?_
                show Go _ _ _ _ _ _ _ T82 (mkF m 416 _ [(.int (4 : Int32)), (.ref b1), .null])
                refine Go.step (fun tt kk => XS.iload X82.here hx rfl (hb hby at_416) rfl kk) ?_
                show Go _ _ _ _ _ _ _ T82 (mkF m 418 _ [(.int (Int32.ofNat bf)), (.int (4 : Int32)), (.ref b1), .null])
                have f86 := ((f46.other W47 ne_b1_b19).keep K82q nin0)
                obtain ⟨v85, T85, L85, X85, q85, st85⟩ := c_static X82 hx hZ hown (y := (⟨"com/example/sharks/sharks/StandardBase64DecodePinLaw", "expected", "([CII)[B"⟩ : MethodName)) (hw _ (List.mem_of_getElem? (i := 14) rfl)) (hw _ (List.mem_of_getElem? (i := 15) rfl)) (hw _ (List.mem_of_getElem? (i := 4) rfl)) (hw _ (List.mem_of_getElem? (i := 16) rfl)) (by decide) (argsL := [(.ref b1), (.int (4 : Int32)), (.int (Int32.ofNat bf))]) (rest := [.null]) (rmEx41 l Z a0 hw [] b1 bf g3 h82 n0 Z82 hbf hg3 hp1 hp2 f86) e82 pd_6 rfl (by rw [hml]; rfl) (W := 1) (by show 2 * 0 + _ ≤ _; exact Nat.le_of_eq rfl) (by decide) (by decide) (by decide) (by decide) (hb hby at_418) (Ls := #[.val (.long i0), .second, .val (.int i1), .val (.int i2), .val (.int (4 : Int32)), .val (.int pd), .val (.int (Int32.ofNat off)), .val (.int (Int32.ofNat bf)), .val (.ref b1), .val (.int (Int32.ofNat pos)), .val (.ref b19), .val .null])
                generalize e85 : T85.heap = h85 at q85
                obtain ⟨N85q, K85q, q185, q285⟩ := q85
                have N85 := Fr.app N82 N85q
                have Z85 : n0 ≤ h85.size := Nat.le_trans Z82 K85q.1
                obtain rfl := q285 hok
                refine Go.step (st85) ?_
                show Go _ _ _ _ _ _ _ T85 (mkF m 421 _ [.null, .null])
                obtain ⟨v87, T87, L87, X87, q87, st87⟩ := c_static X85 hx hZ hown (y := (⟨"com/example/sharks/sharks/StandardBase64DecodePinLaw", "same", "([B[B)Z"⟩ : MethodName)) (hw _ (List.mem_of_getElem? (i := 17) rfl)) (hw _ (List.mem_of_getElem? (i := 18) rfl)) (hw _ (List.mem_of_getElem? (i := 4) rfl)) (hw _ (List.mem_of_getElem? (i := 19) rfl)) (by decide) (argsL := [.null, .null]) (rest := []) (rmSn l Z a0 hw [] h85 n0 Z85) e85 pd_7 rfl (by rw [hml]; rfl) (W := 0) (by show 2 * 0 + _ ≤ _; exact Nat.le_of_eq rfl) (by decide) (by decide) (by decide) (by decide) (hb hby at_421) (Ls := #[.val (.long i0), .second, .val (.int i1), .val (.int i2), .val (.int (4 : Int32)), .val (.int pd), .val (.int (Int32.ofNat off)), .val (.int (Int32.ofNat bf)), .val (.ref b1), .val (.int (Int32.ofNat pos)), .val (.ref b19), .val .null])
                obtain ⟨rfl, N87q, e87⟩ := q87
                have N87 := Fr.app N85 N87q
                refine Go.step (st87) ?_
                show Go _ _ _ _ _ _ _ T87 (mkF m 424 _ [(.int (1 : Int32))])
                refine go_retN X87 hx (t := .boolean) hret (by simp) hlk (hb hby at_424) (w := (1 : Int32)) rfl ?_ (by decide) (by decide)
                try rw [e87]
                exact ⟨rfl, N87⟩
          · by_cases hok : OK4 g3 0
            · show Go _ _ _ _ _ _ _ T47 (mkF m 397 #[.val (.long i0), .second, .val (.int i1), .val (.int i2), .val (.int (4 : Int32)), .val (.int pd), .val (.int (Int32.ofNat off)), .val (.int (Int32.ofNat bf)), .val (.ref b1), .val (.int (Int32.ofNat pos)), .val (.ref b19), .unset] [])
              refine Go.step (fun tt kk => XS.aload X47.here hx rfl (hb hby at_397) rfl rfl kk) ?_
              show Go _ _ _ _ _ _ _ T47 (mkF m 399 _ [(.ref b19)])
              refine Go.step (fun tt kk => XS.iload X47.here hx rfl (hb hby at_399) rfl kk) ?_
              show Go _ _ _ _ _ _ _ T47 (mkF m 401 _ [(.int (Int32.ofNat off)), (.ref b19)])
              refine Go.step (fun tt kk => XS.iload X47.here hx rfl (hb hby at_401) rfl kk) ?_
              show Go _ _ _ _ _ _ _ T47 (mkF m 403 _ [(.int (4 : Int32)), (.int (Int32.ofNat off)), (.ref b19)])
              refine Go.step (fun tt kk => XS.iload X47.here hx rfl (hb hby at_403) rfl kk) ?_
              show Go _ _ _ _ _ _ _ T47 (mkF m 405 _ [(.int (Int32.ofNat bf)), (.int (4 : Int32)), (.int (Int32.ofNat off)), (.ref b19)])
              have f89 := (Sta.wr W47 (Sta.wr W45 (Sta.wr W43 (Sta.wr W41 (Sta.wr W39 (Sta.wr W37 (Sta.wr W35 (Sta.wr W33 (Sta.wr W31 (Sta.wr W30 (Sta.wr W29 (Sta.wr W28 (Sta.wr W27 (Sta.wr W26 (Sta.wr W25 (Sta.wr W24 (Sta.wr W23 (Sta.wr W22 (Sta.wr W21 (Sta.wr W20 (Sta.ext E19 f235_2)))))))))))))))))))))
              have f90 := (((((((((((((((((((((f235_1.ext E19).other W20 ne_va_b19).other W21 ne_va_b19).other W22 ne_va_b19).other W23 ne_va_b19).other W24 ne_va_b19).other W25 ne_va_b19).other W26 ne_va_b19).other W27 ne_va_b19).other W28 ne_va_b19).other W29 ne_va_b19).other W30 ne_va_b19).other W31 ne_va_b19).other W33 ne_va_b19).other W35 ne_va_b19).other W37 ne_va_b19).other W39 ne_va_b19).other W41 ne_va_b19).other W43 ne_va_b19).other W45 ne_va_b19).other W47 ne_va_b19)
              obtain ⟨v88, T88, L88, X88, q88, st88⟩ := c_static X47 hx hZ hown (y := (⟨"com/example/sharks/sharks/StandardBase64", "decode", "([CIII)[B"⟩ : MethodName)) (hw _ (List.mem_of_getElem? (i := 7) rfl)) (hw _ (List.mem_of_getElem? (i := 8) rfl)) (hw _ (List.mem_of_getElem? (i := 9) rfl)) (hw _ (List.mem_of_getElem? (i := 10) rfl)) (by decide) (argsL := [(.ref b19), (.int (Int32.ofNat off)), (.int (4 : Int32)), (.int (Int32.ofNat bf))]) (rest := []) (rmDc40 l Z a0 hw [] b19 va off bf g3 F h47 n0 Z47 ho hbf hF hg3 hp1 f89 f90 V48) e47 pd_5 rfl (by rw [hml]; rfl) (W := 0) (by show 2 * 0 + _ ≤ _; exact Nat.le_of_eq rfl) (by decide) (by decide) (by decide) (by decide) (hb hby at_405) (Ls := #[.val (.long i0), .second, .val (.int i1), .val (.int i2), .val (.int (4 : Int32)), .val (.int pd), .val (.int (Int32.ofNat off)), .val (.int (Int32.ofNat bf)), .val (.ref b1), .val (.int (Int32.ofNat pos)), .val (.ref b19), .unset])
              generalize e88 : T88.heap = h88 at q88
              obtain ⟨N88q, K88q, q188, q288⟩ := q88
              have N88 := Fr.app N47 N88q
              have Z88 : n0 ≤ h88.size := Nat.le_trans Z47 K88q.1
              obtain ⟨bd88, rfl, S88q, V88q⟩ := q188 hok
              refine Go.step (st88) ?_
              show Go _ _ _ _ _ _ _ T88 (mkF m 408 _ [(.ref bd88)])
              refine Go.step (fun tt kk => XS.astore X88.here hx rfl (hb hby at_408) rfl rfl (l' := #[.val (.long i0), .second, .val (.int i1), .val (.int i2), .val (.int (4 : Int32)), .val (.int pd), .val (.int (Int32.ofNat off)), .val (.int (Int32.ofNat bf)), .val (.ref b1), .val (.int (Int32.ofNat pos)), .val (.ref b19), .val (.ref bd88)]) rfl kk) ?_
              show Go _ _ _ _ _ _ _ T88 (mkF m 410 _ [])
              refine Go.step (fun tt kk => XS.aload X88.here hx rfl (hb hby at_410) rfl rfl kk) ?_
              show Go _ _ _ _ _ _ _ T88 (mkF m 412 _ [(.ref bd88)])
              refine Go.step (fun tt kk => XS.aload X88.here hx rfl (hb hby at_412) rfl rfl kk) ?_
              show Go _ _ _ _ _ _ _ T88 (mkF m 414 _ [(.ref b1), (.ref bd88)])
              refine Go.step (fun tt kk => XS.iload X88.here hx rfl (hb hby at_414) rfl kk) ?_
              show Go _ _ _ _ _ _ _ T88 (mkF m 416 _ [(.int (4 : Int32)), (.ref b1), (.ref bd88)])
              refine Go.step (fun tt kk => XS.iload X88.here hx rfl (hb hby at_416) rfl kk) ?_
              show Go _ _ _ _ _ _ _ T88 (mkF m 418 _ [(.int (Int32.ofNat bf)), (.int (4 : Int32)), (.ref b1), (.ref bd88)])
              have f92 := ((f46.other W47 ne_b1_b19).keep K88q nin0)
              obtain ⟨v91, T91, L91, X91, q91, st91⟩ := c_static X88 hx hZ hown (y := (⟨"com/example/sharks/sharks/StandardBase64DecodePinLaw", "expected", "([CII)[B"⟩ : MethodName)) (hw _ (List.mem_of_getElem? (i := 14) rfl)) (hw _ (List.mem_of_getElem? (i := 15) rfl)) (hw _ (List.mem_of_getElem? (i := 4) rfl)) (hw _ (List.mem_of_getElem? (i := 16) rfl)) (by decide) (argsL := [(.ref b1), (.int (4 : Int32)), (.int (Int32.ofNat bf))]) (rest := [(.ref bd88)]) (rmEx40 l Z a0 hw [] b1 bf g3 h88 n0 Z88 hbf hg3 hp1 f92) e88 pd_6 rfl (by rw [hml]; rfl) (W := 1) (by show 2 * 0 + _ ≤ _; exact Nat.le_of_eq rfl) (by decide) (by decide) (by decide) (by decide) (hb hby at_418) (Ls := #[.val (.long i0), .second, .val (.int i1), .val (.int i2), .val (.int (4 : Int32)), .val (.int pd), .val (.int (Int32.ofNat off)), .val (.int (Int32.ofNat bf)), .val (.ref b1), .val (.int (Int32.ofNat pos)), .val (.ref b19), .val (.ref bd88)])
              generalize e91 : T91.heap = h91 at q91
              obtain ⟨N91q, K91q, q191, q291⟩ := q91
              have N91 := Fr.app N88 N91q
              have Z91 : n0 ≤ h91.size := Nat.le_trans Z88 K91q.1
              obtain ⟨be91, rfl, S91q, V91q⟩ := q191 hok
              refine Go.step (st91) ?_
              show Go _ _ _ _ _ _ _ T91 (mkF m 421 _ [(.ref be91), (.ref bd88)])
              have f94 := (V88q.keep K91q nin0)
              obtain ⟨v93, T93, L93, X93, q93, st93⟩ := c_static X91 hx hZ hown (y := (⟨"com/example/sharks/sharks/StandardBase64DecodePinLaw", "same", "([B[B)Z"⟩ : MethodName)) (hw _ (List.mem_of_getElem? (i := 17) rfl)) (hw _ (List.mem_of_getElem? (i := 18) rfl)) (hw _ (List.mem_of_getElem? (i := 4) rfl)) (hw _ (List.mem_of_getElem? (i := 19) rfl)) (by decide) (argsL := [(.ref bd88), (.ref be91)]) (rest := []) (rmSm l Z a0 hw [] bd88 be91 (bf + 3) (exI g3 bf) h91 n0 Z91 (by omega) f94 V91q) e91 pd_7 rfl (by rw [hml]; rfl) (W := 0) (by show 2 * 0 + _ ≤ _; exact Nat.le_of_eq rfl) (by decide) (by decide) (by decide) (by decide) (hb hby at_421) (Ls := #[.val (.long i0), .second, .val (.int i1), .val (.int i2), .val (.int (4 : Int32)), .val (.int pd), .val (.int (Int32.ofNat off)), .val (.int (Int32.ofNat bf)), .val (.ref b1), .val (.int (Int32.ofNat pos)), .val (.ref b19), .val (.ref bd88)])
              obtain ⟨rfl, N93q, e93⟩ := q93
              have N93 := Fr.app N91 N93q
              refine Go.step (st93) ?_
              show Go _ _ _ _ _ _ _ T93 (mkF m 424 _ [(.int (1 : Int32))])
              refine go_retN X93 hx (t := .boolean) hret (by simp) hlk (hb hby at_424) (w := (1 : Int32)) rfl ?_ (by decide) (by decide)
              try rw [e93]
              exact ⟨rfl, N93⟩
            · show Go _ _ _ _ _ _ _ T47 (mkF m 397 #[.val (.long i0), .second, .val (.int i1), .val (.int i2), .val (.int (4 : Int32)), .val (.int pd), .val (.int (Int32.ofNat off)), .val (.int (Int32.ofNat bf)), .val (.ref b1), .val (.int (Int32.ofNat pos)), .val (.ref b19), .unset] [])
              refine Go.step (fun tt kk => XS.aload X47.here hx rfl (hb hby at_397) rfl rfl kk) ?_
              show Go _ _ _ _ _ _ _ T47 (mkF m 399 _ [(.ref b19)])
              refine Go.step (fun tt kk => XS.iload X47.here hx rfl (hb hby at_399) rfl kk) ?_
              show Go _ _ _ _ _ _ _ T47 (mkF m 401 _ [(.int (Int32.ofNat off)), (.ref b19)])
              refine Go.step (fun tt kk => XS.iload X47.here hx rfl (hb hby at_401) rfl kk) ?_
              show Go _ _ _ _ _ _ _ T47 (mkF m 403 _ [(.int (4 : Int32)), (.int (Int32.ofNat off)), (.ref b19)])
              refine Go.step (fun tt kk => XS.iload X47.here hx rfl (hb hby at_403) rfl kk) ?_
              show Go _ _ _ _ _ _ _ T47 (mkF m 405 _ [(.int (Int32.ofNat bf)), (.int (4 : Int32)), (.int (Int32.ofNat off)), (.ref b19)])
              have f96 := (Sta.wr W47 (Sta.wr W45 (Sta.wr W43 (Sta.wr W41 (Sta.wr W39 (Sta.wr W37 (Sta.wr W35 (Sta.wr W33 (Sta.wr W31 (Sta.wr W30 (Sta.wr W29 (Sta.wr W28 (Sta.wr W27 (Sta.wr W26 (Sta.wr W25 (Sta.wr W24 (Sta.wr W23 (Sta.wr W22 (Sta.wr W21 (Sta.wr W20 (Sta.ext E19 f235_2)))))))))))))))))))))
              have f97 := (((((((((((((((((((((f235_1.ext E19).other W20 ne_va_b19).other W21 ne_va_b19).other W22 ne_va_b19).other W23 ne_va_b19).other W24 ne_va_b19).other W25 ne_va_b19).other W26 ne_va_b19).other W27 ne_va_b19).other W28 ne_va_b19).other W29 ne_va_b19).other W30 ne_va_b19).other W31 ne_va_b19).other W33 ne_va_b19).other W35 ne_va_b19).other W37 ne_va_b19).other W39 ne_va_b19).other W41 ne_va_b19).other W43 ne_va_b19).other W45 ne_va_b19).other W47 ne_va_b19)
              obtain ⟨v95, T95, L95, X95, q95, st95⟩ := c_static X47 hx hZ hown (y := (⟨"com/example/sharks/sharks/StandardBase64", "decode", "([CIII)[B"⟩ : MethodName)) (hw _ (List.mem_of_getElem? (i := 7) rfl)) (hw _ (List.mem_of_getElem? (i := 8) rfl)) (hw _ (List.mem_of_getElem? (i := 9) rfl)) (hw _ (List.mem_of_getElem? (i := 10) rfl)) (by decide) (argsL := [(.ref b19), (.int (Int32.ofNat off)), (.int (4 : Int32)), (.int (Int32.ofNat bf))]) (rest := []) (rmDc40 l Z a0 hw [] b19 va off bf g3 F h47 n0 Z47 ho hbf hF hg3 hp1 f96 f97 V48) e47 pd_5 rfl (by rw [hml]; rfl) (W := 0) (by show 2 * 0 + _ ≤ _; exact Nat.le_of_eq rfl) (by decide) (by decide) (by decide) (by decide) (hb hby at_405) (Ls := #[.val (.long i0), .second, .val (.int i1), .val (.int i2), .val (.int (4 : Int32)), .val (.int pd), .val (.int (Int32.ofNat off)), .val (.int (Int32.ofNat bf)), .val (.ref b1), .val (.int (Int32.ofNat pos)), .val (.ref b19), .unset])
              generalize e95 : T95.heap = h95 at q95
              obtain ⟨N95q, K95q, q195, q295⟩ := q95
              have N95 := Fr.app N47 N95q
              have Z95 : n0 ≤ h95.size := Nat.le_trans Z47 K95q.1
              obtain rfl := q295 hok
              refine Go.step (st95) ?_
              show Go _ _ _ _ _ _ _ T95 (mkF m 408 _ [.null])
              refine Go.step (fun tt kk => XS.astore X95.here hx rfl (hb hby at_408) rfl rfl (l' := #[.val (.long i0), .second, .val (.int i1), .val (.int i2), .val (.int (4 : Int32)), .val (.int pd), .val (.int (Int32.ofNat off)), .val (.int (Int32.ofNat bf)), .val (.ref b1), .val (.int (Int32.ofNat pos)), .val (.ref b19), .val .null]) rfl kk) ?_
              show Go _ _ _ _ _ _ _ T95 (mkF m 410 _ [])
              refine Go.step (fun tt kk => XS.aload X95.here hx rfl (hb hby at_410) rfl rfl kk) ?_
              show Go _ _ _ _ _ _ _ T95 (mkF m 412 _ [.null])
              refine Go.step (fun tt kk => XS.aload X95.here hx rfl (hb hby at_412) rfl rfl kk) ?_
              show Go _ _ _ _ _ _ _ T95 (mkF m 414 _ [(.ref b1), .null])
              refine Go.step (fun tt kk => XS.iload X95.here hx rfl (hb hby at_414) rfl kk) ?_
              show Go _ _ _ _ _ _ _ T95 (mkF m 416 _ [(.int (4 : Int32)), (.ref b1), .null])
              refine Go.step (fun tt kk => XS.iload X95.here hx rfl (hb hby at_416) rfl kk) ?_
              show Go _ _ _ _ _ _ _ T95 (mkF m 418 _ [(.int (Int32.ofNat bf)), (.int (4 : Int32)), (.ref b1), .null])
              have f99 := ((f46.other W47 ne_b1_b19).keep K95q nin0)
              obtain ⟨v98, T98, L98, X98, q98, st98⟩ := c_static X95 hx hZ hown (y := (⟨"com/example/sharks/sharks/StandardBase64DecodePinLaw", "expected", "([CII)[B"⟩ : MethodName)) (hw _ (List.mem_of_getElem? (i := 14) rfl)) (hw _ (List.mem_of_getElem? (i := 15) rfl)) (hw _ (List.mem_of_getElem? (i := 4) rfl)) (hw _ (List.mem_of_getElem? (i := 16) rfl)) (by decide) (argsL := [(.ref b1), (.int (4 : Int32)), (.int (Int32.ofNat bf))]) (rest := [.null]) (rmEx40 l Z a0 hw [] b1 bf g3 h95 n0 Z95 hbf hg3 hp1 f99) e95 pd_6 rfl (by rw [hml]; rfl) (W := 1) (by show 2 * 0 + _ ≤ _; exact Nat.le_of_eq rfl) (by decide) (by decide) (by decide) (by decide) (hb hby at_418) (Ls := #[.val (.long i0), .second, .val (.int i1), .val (.int i2), .val (.int (4 : Int32)), .val (.int pd), .val (.int (Int32.ofNat off)), .val (.int (Int32.ofNat bf)), .val (.ref b1), .val (.int (Int32.ofNat pos)), .val (.ref b19), .val .null])
              generalize e98 : T98.heap = h98 at q98
              obtain ⟨N98q, K98q, q198, q298⟩ := q98
              have N98 := Fr.app N95 N98q
              have Z98 : n0 ≤ h98.size := Nat.le_trans Z95 K98q.1
              obtain rfl := q298 hok
              refine Go.step (st98) ?_
              show Go _ _ _ _ _ _ _ T98 (mkF m 421 _ [.null, .null])
              obtain ⟨v100, T100, L100, X100, q100, st100⟩ := c_static X98 hx hZ hown (y := (⟨"com/example/sharks/sharks/StandardBase64DecodePinLaw", "same", "([B[B)Z"⟩ : MethodName)) (hw _ (List.mem_of_getElem? (i := 17) rfl)) (hw _ (List.mem_of_getElem? (i := 18) rfl)) (hw _ (List.mem_of_getElem? (i := 4) rfl)) (hw _ (List.mem_of_getElem? (i := 19) rfl)) (by decide) (argsL := [.null, .null]) (rest := []) (rmSn l Z a0 hw [] h98 n0 Z98) e98 pd_7 rfl (by rw [hml]; rfl) (W := 0) (by show 2 * 0 + _ ≤ _; exact Nat.le_of_eq rfl) (by decide) (by decide) (by decide) (by decide) (hb hby at_421) (Ls := #[.val (.long i0), .second, .val (.int i1), .val (.int i2), .val (.int (4 : Int32)), .val (.int pd), .val (.int (Int32.ofNat off)), .val (.int (Int32.ofNat bf)), .val (.ref b1), .val (.int (Int32.ofNat pos)), .val (.ref b19), .val .null])
              obtain ⟨rfl, N100q, e100⟩ := q100
              have N100 := Fr.app N98 N100q
              refine Go.step (st100) ?_
              show Go _ _ _ _ _ _ _ T100 (mkF m 424 _ [(.int (1 : Int32))])
              refine go_retN X100 hx (t := .boolean) hret (by simp) hlk (hb hby at_424) (w := (1 : Int32)) rfl ?_ (by decide) (by decide)
              try rw [e100]
              exact ⟨rfl, N100⟩
        · subst hlen
          by_cases hp1 : g3 7 = 61
          · by_cases hp2 : g3 6 = 61
            · by_cases hok : OK4 g3 0 ∧ OK2 g3 4
              · show Go _ _ _ _ _ _ _ T47 (mkF m 397 #[.val (.long i0), .second, .val (.int i1), .val (.int i2), .val (.int (8 : Int32)), .val (.int pd), .val (.int (Int32.ofNat off)), .val (.int (Int32.ofNat bf)), .val (.ref b1), .val (.int (Int32.ofNat pos)), .val (.ref b19), .unset] [])
                refine Go.step (fun tt kk => XS.aload X47.here hx rfl (hb hby at_397) rfl rfl kk) ?_
                show Go _ _ _ _ _ _ _ T47 (mkF m 399 _ [(.ref b19)])
                refine Go.step (fun tt kk => XS.iload X47.here hx rfl (hb hby at_399) rfl kk) ?_
                show Go _ _ _ _ _ _ _ T47 (mkF m 401 _ [(.int (Int32.ofNat off)), (.ref b19)])
                refine Go.step (fun tt kk => XS.iload X47.here hx rfl (hb hby at_401) rfl kk) ?_
                show Go _ _ _ _ _ _ _ T47 (mkF m 403 _ [(.int (8 : Int32)), (.int (Int32.ofNat off)), (.ref b19)])
                refine Go.step (fun tt kk => XS.iload X47.here hx rfl (hb hby at_403) rfl kk) ?_
                show Go _ _ _ _ _ _ _ T47 (mkF m 405 _ [(.int (Int32.ofNat bf)), (.int (8 : Int32)), (.int (Int32.ofNat off)), (.ref b19)])
                have f102 := (Sta.wr W47 (Sta.wr W45 (Sta.wr W43 (Sta.wr W41 (Sta.wr W39 (Sta.wr W37 (Sta.wr W35 (Sta.wr W33 (Sta.wr W31 (Sta.wr W30 (Sta.wr W29 (Sta.wr W28 (Sta.wr W27 (Sta.wr W26 (Sta.wr W25 (Sta.wr W24 (Sta.wr W23 (Sta.wr W22 (Sta.wr W21 (Sta.wr W20 (Sta.ext E19 f235_2)))))))))))))))))))))
                have f103 := (((((((((((((((((((((f235_1.ext E19).other W20 ne_va_b19).other W21 ne_va_b19).other W22 ne_va_b19).other W23 ne_va_b19).other W24 ne_va_b19).other W25 ne_va_b19).other W26 ne_va_b19).other W27 ne_va_b19).other W28 ne_va_b19).other W29 ne_va_b19).other W30 ne_va_b19).other W31 ne_va_b19).other W33 ne_va_b19).other W35 ne_va_b19).other W37 ne_va_b19).other W39 ne_va_b19).other W41 ne_va_b19).other W43 ne_va_b19).other W45 ne_va_b19).other W47 ne_va_b19)
                obtain ⟨v101, T101, L101, X101, q101, st101⟩ := c_static X47 hx hZ hown (y := (⟨"com/example/sharks/sharks/StandardBase64", "decode", "([CIII)[B"⟩ : MethodName)) (hw _ (List.mem_of_getElem? (i := 7) rfl)) (hw _ (List.mem_of_getElem? (i := 8) rfl)) (hw _ (List.mem_of_getElem? (i := 9) rfl)) (hw _ (List.mem_of_getElem? (i := 10) rfl)) (by decide) (argsL := [(.ref b19), (.int (Int32.ofNat off)), (.int (8 : Int32)), (.int (Int32.ofNat bf))]) (rest := []) (rmDc82 l Z a0 hw [] b19 va off bf g3 F h47 n0 Z47 ho hbf hF hg3 hp1 hp2 f102 f103 V48) e47 pd_5 rfl (by rw [hml]; rfl) (W := 0) (by show 2 * 0 + _ ≤ _; exact Nat.le_of_eq rfl) (by decide) (by decide) (by decide) (by decide) (hb hby at_405) (Ls := #[.val (.long i0), .second, .val (.int i1), .val (.int i2), .val (.int (8 : Int32)), .val (.int pd), .val (.int (Int32.ofNat off)), .val (.int (Int32.ofNat bf)), .val (.ref b1), .val (.int (Int32.ofNat pos)), .val (.ref b19), .unset])
                generalize e101 : T101.heap = h101 at q101
                obtain ⟨N101q, K101q, q1101, q2101⟩ := q101
                have N101 := Fr.app N47 N101q
                have Z101 : n0 ≤ h101.size := Nat.le_trans Z47 K101q.1
                obtain ⟨bd101, rfl, S101q, V101q⟩ := q1101 hok
                refine Go.step (st101) ?_
                show Go _ _ _ _ _ _ _ T101 (mkF m 408 _ [(.ref bd101)])
                refine Go.step (fun tt kk => XS.astore X101.here hx rfl (hb hby at_408) rfl rfl (l' := #[.val (.long i0), .second, .val (.int i1), .val (.int i2), .val (.int (8 : Int32)), .val (.int pd), .val (.int (Int32.ofNat off)), .val (.int (Int32.ofNat bf)), .val (.ref b1), .val (.int (Int32.ofNat pos)), .val (.ref b19), .val (.ref bd101)]) rfl kk) ?_
                show Go _ _ _ _ _ _ _ T101 (mkF m 410 _ [])
                refine Go.step (fun tt kk => XS.aload X101.here hx rfl (hb hby at_410) rfl rfl kk) ?_
                show Go _ _ _ _ _ _ _ T101 (mkF m 412 _ [(.ref bd101)])
                refine Go.step (fun tt kk => XS.aload X101.here hx rfl (hb hby at_412) rfl rfl kk) ?_
                show Go _ _ _ _ _ _ _ T101 (mkF m 414 _ [(.ref b1), (.ref bd101)])
                refine Go.step (fun tt kk => XS.iload X101.here hx rfl (hb hby at_414) rfl kk) ?_
                show Go _ _ _ _ _ _ _ T101 (mkF m 416 _ [(.int (8 : Int32)), (.ref b1), (.ref bd101)])
                refine Go.step (fun tt kk => XS.iload X101.here hx rfl (hb hby at_416) rfl kk) ?_
                show Go _ _ _ _ _ _ _ T101 (mkF m 418 _ [(.int (Int32.ofNat bf)), (.int (8 : Int32)), (.ref b1), (.ref bd101)])
                have f105 := ((f46.other W47 ne_b1_b19).keep K101q nin0)
                obtain ⟨v104, T104, L104, X104, q104, st104⟩ := c_static X101 hx hZ hown (y := (⟨"com/example/sharks/sharks/StandardBase64DecodePinLaw", "expected", "([CII)[B"⟩ : MethodName)) (hw _ (List.mem_of_getElem? (i := 14) rfl)) (hw _ (List.mem_of_getElem? (i := 15) rfl)) (hw _ (List.mem_of_getElem? (i := 4) rfl)) (hw _ (List.mem_of_getElem? (i := 16) rfl)) (by decide) (argsL := [(.ref b1), (.int (8 : Int32)), (.int (Int32.ofNat bf))]) (rest := [(.ref bd101)]) (rmEx82 l Z a0 hw [] b1 bf g3 h101 n0 Z101 hbf hg3 hp1 hp2 f105) e101 pd_6 rfl (by rw [hml]; rfl) (W := 1) (by show 2 * 0 + _ ≤ _; exact Nat.le_of_eq rfl) (by decide) (by decide) (by decide) (by decide) (hb hby at_418) (Ls := #[.val (.long i0), .second, .val (.int i1), .val (.int i2), .val (.int (8 : Int32)), .val (.int pd), .val (.int (Int32.ofNat off)), .val (.int (Int32.ofNat bf)), .val (.ref b1), .val (.int (Int32.ofNat pos)), .val (.ref b19), .val (.ref bd101)])
                generalize e104 : T104.heap = h104 at q104
                obtain ⟨N104q, K104q, q1104, q2104⟩ := q104
                have N104 := Fr.app N101 N104q
                have Z104 : n0 ≤ h104.size := Nat.le_trans Z101 K104q.1
                obtain ⟨be104, rfl, S104q, V104q⟩ := q1104 hok
                refine Go.step (st104) ?_
                show Go _ _ _ _ _ _ _ T104 (mkF m 421 _ [(.ref be104), (.ref bd101)])
                have f107 := (V101q.keep K104q nin0)
                obtain ⟨v106, T106, L106, X106, q106, st106⟩ := c_static X104 hx hZ hown (y := (⟨"com/example/sharks/sharks/StandardBase64DecodePinLaw", "same", "([B[B)Z"⟩ : MethodName)) (hw _ (List.mem_of_getElem? (i := 17) rfl)) (hw _ (List.mem_of_getElem? (i := 18) rfl)) (hw _ (List.mem_of_getElem? (i := 4) rfl)) (hw _ (List.mem_of_getElem? (i := 19) rfl)) (by decide) (argsL := [(.ref bd101), (.ref be104)]) (rest := []) (rmSm l Z a0 hw [] bd101 be104 (bf + 4) (exI g3 bf) h104 n0 Z104 (by omega) f107 V104q) e104 pd_7 rfl (by rw [hml]; rfl) (W := 0) (by show 2 * 0 + _ ≤ _; exact Nat.le_of_eq rfl) (by decide) (by decide) (by decide) (by decide) (hb hby at_421) (Ls := #[.val (.long i0), .second, .val (.int i1), .val (.int i2), .val (.int (8 : Int32)), .val (.int pd), .val (.int (Int32.ofNat off)), .val (.int (Int32.ofNat bf)), .val (.ref b1), .val (.int (Int32.ofNat pos)), .val (.ref b19), .val (.ref bd101)])
                obtain ⟨rfl, N106q, e106⟩ := q106
                have N106 := Fr.app N104 N106q
                refine Go.step (st106) ?_
                show Go _ _ _ _ _ _ _ T106 (mkF m 424 _ [(.int (1 : Int32))])
                refine go_retN X106 hx (t := .boolean) hret (by simp) hlk (hb hby at_424) (w := (1 : Int32)) rfl ?_ (by decide) (by decide)
                try rw [e106]
                exact ⟨rfl, N106⟩
              · show Go _ _ _ _ _ _ _ T47 (mkF m 397 #[.val (.long i0), .second, .val (.int i1), .val (.int i2), .val (.int (8 : Int32)), .val (.int pd), .val (.int (Int32.ofNat off)), .val (.int (Int32.ofNat bf)), .val (.ref b1), .val (.int (Int32.ofNat pos)), .val (.ref b19), .unset] [])
                refine Go.step (fun tt kk => XS.aload X47.here hx rfl (hb hby at_397) rfl rfl kk) ?_
                show Go _ _ _ _ _ _ _ T47 (mkF m 399 _ [(.ref b19)])
                refine Go.step (fun tt kk => XS.iload X47.here hx rfl (hb hby at_399) rfl kk) ?_
                show Go _ _ _ _ _ _ _ T47 (mkF m 401 _ [(.int (Int32.ofNat off)), (.ref b19)])
                refine Go.step (fun tt kk => XS.iload X47.here hx rfl (hb hby at_401) rfl kk) ?_
                show Go _ _ _ _ _ _ _ T47 (mkF m 403 _ [(.int (8 : Int32)), (.int (Int32.ofNat off)), (.ref b19)])
                refine Go.step (fun tt kk => XS.iload X47.here hx rfl (hb hby at_403) rfl kk) ?_
                show Go _ _ _ _ _ _ _ T47 (mkF m 405 _ [(.int (Int32.ofNat bf)), (.int (8 : Int32)), (.int (Int32.ofNat off)), (.ref b19)])
                have f109 := (Sta.wr W47 (Sta.wr W45 (Sta.wr W43 (Sta.wr W41 (Sta.wr W39 (Sta.wr W37 (Sta.wr W35 (Sta.wr W33 (Sta.wr W31 (Sta.wr W30 (Sta.wr W29 (Sta.wr W28 (Sta.wr W27 (Sta.wr W26 (Sta.wr W25 (Sta.wr W24 (Sta.wr W23 (Sta.wr W22 (Sta.wr W21 (Sta.wr W20 (Sta.ext E19 f235_2)))))))))))))))))))))
                have f110 := (((((((((((((((((((((f235_1.ext E19).other W20 ne_va_b19).other W21 ne_va_b19).other W22 ne_va_b19).other W23 ne_va_b19).other W24 ne_va_b19).other W25 ne_va_b19).other W26 ne_va_b19).other W27 ne_va_b19).other W28 ne_va_b19).other W29 ne_va_b19).other W30 ne_va_b19).other W31 ne_va_b19).other W33 ne_va_b19).other W35 ne_va_b19).other W37 ne_va_b19).other W39 ne_va_b19).other W41 ne_va_b19).other W43 ne_va_b19).other W45 ne_va_b19).other W47 ne_va_b19)
                obtain ⟨v108, T108, L108, X108, q108, st108⟩ := c_static X47 hx hZ hown (y := (⟨"com/example/sharks/sharks/StandardBase64", "decode", "([CIII)[B"⟩ : MethodName)) (hw _ (List.mem_of_getElem? (i := 7) rfl)) (hw _ (List.mem_of_getElem? (i := 8) rfl)) (hw _ (List.mem_of_getElem? (i := 9) rfl)) (hw _ (List.mem_of_getElem? (i := 10) rfl)) (by decide) (argsL := [(.ref b19), (.int (Int32.ofNat off)), (.int (8 : Int32)), (.int (Int32.ofNat bf))]) (rest := []) (rmDc82 l Z a0 hw [] b19 va off bf g3 F h47 n0 Z47 ho hbf hF hg3 hp1 hp2 f109 f110 V48) e47 pd_5 rfl (by rw [hml]; rfl) (W := 0) (by show 2 * 0 + _ ≤ _; exact Nat.le_of_eq rfl) (by decide) (by decide) (by decide) (by decide) (hb hby at_405) (Ls := #[.val (.long i0), .second, .val (.int i1), .val (.int i2), .val (.int (8 : Int32)), .val (.int pd), .val (.int (Int32.ofNat off)), .val (.int (Int32.ofNat bf)), .val (.ref b1), .val (.int (Int32.ofNat pos)), .val (.ref b19), .unset])
                generalize e108 : T108.heap = h108 at q108
                obtain ⟨N108q, K108q, q1108, q2108⟩ := q108
                have N108 := Fr.app N47 N108q
                have Z108 : n0 ≤ h108.size := Nat.le_trans Z47 K108q.1
                obtain rfl := q2108 hok
                refine Go.step (st108) ?_
                show Go _ _ _ _ _ _ _ T108 (mkF m 408 _ [.null])
                refine Go.step (fun tt kk => XS.astore X108.here hx rfl (hb hby at_408) rfl rfl (l' := #[.val (.long i0), .second, .val (.int i1), .val (.int i2), .val (.int (8 : Int32)), .val (.int pd), .val (.int (Int32.ofNat off)), .val (.int (Int32.ofNat bf)), .val (.ref b1), .val (.int (Int32.ofNat pos)), .val (.ref b19), .val .null]) rfl kk) ?_
                show Go _ _ _ _ _ _ _ T108 (mkF m 410 _ [])
                refine Go.step (fun tt kk => XS.aload X108.here hx rfl (hb hby at_410) rfl rfl kk) ?_
                show Go _ _ _ _ _ _ _ T108 (mkF m 412 _ [.null])
                refine Go.step (fun tt kk => XS.aload X108.here hx rfl (hb hby at_412) rfl rfl kk) ?_
                show Go _ _ _ _ _ _ _ T108 (mkF m 414 _ [(.ref b1), .null])
                refine Go.step (fun tt kk => XS.iload X108.here hx rfl (hb hby at_414) rfl kk) ?_
                show Go _ _ _ _ _ _ _ T108 (mkF m 416 _ [(.int (8 : Int32)), (.ref b1), .null])
                refine Go.step (fun tt kk => XS.iload X108.here hx rfl (hb hby at_416) rfl kk) ?_
                show Go _ _ _ _ _ _ _ T108 (mkF m 418 _ [(.int (Int32.ofNat bf)), (.int (8 : Int32)), (.ref b1), .null])
                have f112 := ((f46.other W47 ne_b1_b19).keep K108q nin0)
                obtain ⟨v111, T111, L111, X111, q111, st111⟩ := c_static X108 hx hZ hown (y := (⟨"com/example/sharks/sharks/StandardBase64DecodePinLaw", "expected", "([CII)[B"⟩ : MethodName)) (hw _ (List.mem_of_getElem? (i := 14) rfl)) (hw _ (List.mem_of_getElem? (i := 15) rfl)) (hw _ (List.mem_of_getElem? (i := 4) rfl)) (hw _ (List.mem_of_getElem? (i := 16) rfl)) (by decide) (argsL := [(.ref b1), (.int (8 : Int32)), (.int (Int32.ofNat bf))]) (rest := [.null]) (rmEx82 l Z a0 hw [] b1 bf g3 h108 n0 Z108 hbf hg3 hp1 hp2 f112) e108 pd_6 rfl (by rw [hml]; rfl) (W := 1) (by show 2 * 0 + _ ≤ _; exact Nat.le_of_eq rfl) (by decide) (by decide) (by decide) (by decide) (hb hby at_418) (Ls := #[.val (.long i0), .second, .val (.int i1), .val (.int i2), .val (.int (8 : Int32)), .val (.int pd), .val (.int (Int32.ofNat off)), .val (.int (Int32.ofNat bf)), .val (.ref b1), .val (.int (Int32.ofNat pos)), .val (.ref b19), .val .null])
                generalize e111 : T111.heap = h111 at q111
                obtain ⟨N111q, K111q, q1111, q2111⟩ := q111
                have N111 := Fr.app N108 N111q
                have Z111 : n0 ≤ h111.size := Nat.le_trans Z108 K111q.1
                obtain rfl := q2111 hok
                refine Go.step (st111) ?_
                show Go _ _ _ _ _ _ _ T111 (mkF m 421 _ [.null, .null])
                obtain ⟨v113, T113, L113, X113, q113, st113⟩ := c_static X111 hx hZ hown (y := (⟨"com/example/sharks/sharks/StandardBase64DecodePinLaw", "same", "([B[B)Z"⟩ : MethodName)) (hw _ (List.mem_of_getElem? (i := 17) rfl)) (hw _ (List.mem_of_getElem? (i := 18) rfl)) (hw _ (List.mem_of_getElem? (i := 4) rfl)) (hw _ (List.mem_of_getElem? (i := 19) rfl)) (by decide) (argsL := [.null, .null]) (rest := []) (rmSn l Z a0 hw [] h111 n0 Z111) e111 pd_7 rfl (by rw [hml]; rfl) (W := 0) (by show 2 * 0 + _ ≤ _; exact Nat.le_of_eq rfl) (by decide) (by decide) (by decide) (by decide) (hb hby at_421) (Ls := #[.val (.long i0), .second, .val (.int i1), .val (.int i2), .val (.int (8 : Int32)), .val (.int pd), .val (.int (Int32.ofNat off)), .val (.int (Int32.ofNat bf)), .val (.ref b1), .val (.int (Int32.ofNat pos)), .val (.ref b19), .val .null])
                obtain ⟨rfl, N113q, e113⟩ := q113
                have N113 := Fr.app N111 N113q
                refine Go.step (st113) ?_
                show Go _ _ _ _ _ _ _ T113 (mkF m 424 _ [(.int (1 : Int32))])
                refine go_retN X113 hx (t := .boolean) hret (by simp) hlk (hb hby at_424) (w := (1 : Int32)) rfl ?_ (by decide) (by decide)
                try rw [e113]
                exact ⟨rfl, N113⟩
            · by_cases hok : OK4 g3 0 ∧ OK1 g3 4
              · show Go _ _ _ _ _ _ _ T47 (mkF m 397 #[.val (.long i0), .second, .val (.int i1), .val (.int i2), .val (.int (8 : Int32)), .val (.int pd), .val (.int (Int32.ofNat off)), .val (.int (Int32.ofNat bf)), .val (.ref b1), .val (.int (Int32.ofNat pos)), .val (.ref b19), .unset] [])
                refine Go.step (fun tt kk => XS.aload X47.here hx rfl (hb hby at_397) rfl rfl kk) ?_
                show Go _ _ _ _ _ _ _ T47 (mkF m 399 _ [(.ref b19)])
                refine Go.step (fun tt kk => XS.iload X47.here hx rfl (hb hby at_399) rfl kk) ?_
                show Go _ _ _ _ _ _ _ T47 (mkF m 401 _ [(.int (Int32.ofNat off)), (.ref b19)])
                refine Go.step (fun tt kk => XS.iload X47.here hx rfl (hb hby at_401) rfl kk) ?_
                show Go _ _ _ _ _ _ _ T47 (mkF m 403 _ [(.int (8 : Int32)), (.int (Int32.ofNat off)), (.ref b19)])
                refine Go.step (fun tt kk => XS.iload X47.here hx rfl (hb hby at_403) rfl kk) ?_
                show Go _ _ _ _ _ _ _ T47 (mkF m 405 _ [(.int (Int32.ofNat bf)), (.int (8 : Int32)), (.int (Int32.ofNat off)), (.ref b19)])
                have f115 := (Sta.wr W47 (Sta.wr W45 (Sta.wr W43 (Sta.wr W41 (Sta.wr W39 (Sta.wr W37 (Sta.wr W35 (Sta.wr W33 (Sta.wr W31 (Sta.wr W30 (Sta.wr W29 (Sta.wr W28 (Sta.wr W27 (Sta.wr W26 (Sta.wr W25 (Sta.wr W24 (Sta.wr W23 (Sta.wr W22 (Sta.wr W21 (Sta.wr W20 (Sta.ext E19 f235_2)))))))))))))))))))))
                have f116 := (((((((((((((((((((((f235_1.ext E19).other W20 ne_va_b19).other W21 ne_va_b19).other W22 ne_va_b19).other W23 ne_va_b19).other W24 ne_va_b19).other W25 ne_va_b19).other W26 ne_va_b19).other W27 ne_va_b19).other W28 ne_va_b19).other W29 ne_va_b19).other W30 ne_va_b19).other W31 ne_va_b19).other W33 ne_va_b19).other W35 ne_va_b19).other W37 ne_va_b19).other W39 ne_va_b19).other W41 ne_va_b19).other W43 ne_va_b19).other W45 ne_va_b19).other W47 ne_va_b19)
                obtain ⟨v114, T114, L114, X114, q114, st114⟩ := c_static X47 hx hZ hown (y := (⟨"com/example/sharks/sharks/StandardBase64", "decode", "([CIII)[B"⟩ : MethodName)) (hw _ (List.mem_of_getElem? (i := 7) rfl)) (hw _ (List.mem_of_getElem? (i := 8) rfl)) (hw _ (List.mem_of_getElem? (i := 9) rfl)) (hw _ (List.mem_of_getElem? (i := 10) rfl)) (by decide) (argsL := [(.ref b19), (.int (Int32.ofNat off)), (.int (8 : Int32)), (.int (Int32.ofNat bf))]) (rest := []) (rmDc81 l Z a0 hw [] b19 va off bf g3 F h47 n0 Z47 ho hbf hF hg3 hp1 hp2 f115 f116 V48) e47 pd_5 rfl (by rw [hml]; rfl) (W := 0) (by show 2 * 0 + _ ≤ _; exact Nat.le_of_eq rfl) (by decide) (by decide) (by decide) (by decide) (hb hby at_405) (Ls := #[.val (.long i0), .second, .val (.int i1), .val (.int i2), .val (.int (8 : Int32)), .val (.int pd), .val (.int (Int32.ofNat off)), .val (.int (Int32.ofNat bf)), .val (.ref b1), .val (.int (Int32.ofNat pos)), .val (.ref b19), .unset])
                generalize e114 : T114.heap = h114 at q114
                obtain ⟨N114q, K114q, q1114, q2114⟩ := q114
                have N114 := Fr.app N47 N114q
                have Z114 : n0 ≤ h114.size := Nat.le_trans Z47 K114q.1
                obtain ⟨bd114, rfl, S114q, V114q⟩ := q1114 hok
                refine Go.step (st114) ?_
                show Go _ _ _ _ _ _ _ T114 (mkF m 408 _ [(.ref bd114)])
                refine Go.step (fun tt kk => XS.astore X114.here hx rfl (hb hby at_408) rfl rfl (l' := #[.val (.long i0), .second, .val (.int i1), .val (.int i2), .val (.int (8 : Int32)), .val (.int pd), .val (.int (Int32.ofNat off)), .val (.int (Int32.ofNat bf)), .val (.ref b1), .val (.int (Int32.ofNat pos)), .val (.ref b19), .val (.ref bd114)]) rfl kk) ?_
                show Go _ _ _ _ _ _ _ T114 (mkF m 410 _ [])
                refine Go.step (fun tt kk => XS.aload X114.here hx rfl (hb hby at_410) rfl rfl kk) ?_
                show Go _ _ _ _ _ _ _ T114 (mkF m 412 _ [(.ref bd114)])
                refine Go.step (fun tt kk => XS.aload X114.here hx rfl (hb hby at_412) rfl rfl kk) ?_
                show Go _ _ _ _ _ _ _ T114 (mkF m 414 _ [(.ref b1), (.ref bd114)])
                refine Go.step (fun tt kk => XS.iload X114.here hx rfl (hb hby at_414) rfl kk) ?_
                show Go _ _ _ _ _ _ _ T114 (mkF m 416 _ [(.int (8 : Int32)), (.ref b1), (.ref bd114)])
                refine Go.step (fun tt kk => XS.iload X114.here hx rfl (hb hby at_416) rfl kk) ?_
                show Go _ _ _ _ _ _ _ T114 (mkF m 418 _ [(.int (Int32.ofNat bf)), (.int (8 : Int32)), (.ref b1), (.ref bd114)])
                have f118 := ((f46.other W47 ne_b1_b19).keep K114q nin0)
                obtain ⟨v117, T117, L117, X117, q117, st117⟩ := c_static X114 hx hZ hown (y := (⟨"com/example/sharks/sharks/StandardBase64DecodePinLaw", "expected", "([CII)[B"⟩ : MethodName)) (hw _ (List.mem_of_getElem? (i := 14) rfl)) (hw _ (List.mem_of_getElem? (i := 15) rfl)) (hw _ (List.mem_of_getElem? (i := 4) rfl)) (hw _ (List.mem_of_getElem? (i := 16) rfl)) (by decide) (argsL := [(.ref b1), (.int (8 : Int32)), (.int (Int32.ofNat bf))]) (rest := [(.ref bd114)]) (rmEx81 l Z a0 hw [] b1 bf g3 h114 n0 Z114 hbf hg3 hp1 hp2 f118) e114 pd_6 rfl (by rw [hml]; rfl) (W := 1) (by show 2 * 0 + _ ≤ _; exact Nat.le_of_eq rfl) (by decide) (by decide) (by decide) (by decide) (hb hby at_418) (Ls := #[.val (.long i0), .second, .val (.int i1), .val (.int i2), .val (.int (8 : Int32)), .val (.int pd), .val (.int (Int32.ofNat off)), .val (.int (Int32.ofNat bf)), .val (.ref b1), .val (.int (Int32.ofNat pos)), .val (.ref b19), .val (.ref bd114)])
                generalize e117 : T117.heap = h117 at q117
                obtain ⟨N117q, K117q, q1117, q2117⟩ := q117
                have N117 := Fr.app N114 N117q
                have Z117 : n0 ≤ h117.size := Nat.le_trans Z114 K117q.1
                obtain ⟨be117, rfl, S117q, V117q⟩ := q1117 hok
                refine Go.step (st117) ?_
                show Go _ _ _ _ _ _ _ T117 (mkF m 421 _ [(.ref be117), (.ref bd114)])
                have f120 := (V114q.keep K117q nin0)
                obtain ⟨v119, T119, L119, X119, q119, st119⟩ := c_static X117 hx hZ hown (y := (⟨"com/example/sharks/sharks/StandardBase64DecodePinLaw", "same", "([B[B)Z"⟩ : MethodName)) (hw _ (List.mem_of_getElem? (i := 17) rfl)) (hw _ (List.mem_of_getElem? (i := 18) rfl)) (hw _ (List.mem_of_getElem? (i := 4) rfl)) (hw _ (List.mem_of_getElem? (i := 19) rfl)) (by decide) (argsL := [(.ref bd114), (.ref be117)]) (rest := []) (rmSm l Z a0 hw [] bd114 be117 (bf + 5) (exI g3 bf) h117 n0 Z117 (by omega) f120 V117q) e117 pd_7 rfl (by rw [hml]; rfl) (W := 0) (by show 2 * 0 + _ ≤ _; exact Nat.le_of_eq rfl) (by decide) (by decide) (by decide) (by decide) (hb hby at_421) (Ls := #[.val (.long i0), .second, .val (.int i1), .val (.int i2), .val (.int (8 : Int32)), .val (.int pd), .val (.int (Int32.ofNat off)), .val (.int (Int32.ofNat bf)), .val (.ref b1), .val (.int (Int32.ofNat pos)), .val (.ref b19), .val (.ref bd114)])
                obtain ⟨rfl, N119q, e119⟩ := q119
                have N119 := Fr.app N117 N119q
                refine Go.step (st119) ?_
                show Go _ _ _ _ _ _ _ T119 (mkF m 424 _ [(.int (1 : Int32))])
                refine go_retN X119 hx (t := .boolean) hret (by simp) hlk (hb hby at_424) (w := (1 : Int32)) rfl ?_ (by decide) (by decide)
                try rw [e119]
                exact ⟨rfl, N119⟩
              · show Go _ _ _ _ _ _ _ T47 (mkF m 397 #[.val (.long i0), .second, .val (.int i1), .val (.int i2), .val (.int (8 : Int32)), .val (.int pd), .val (.int (Int32.ofNat off)), .val (.int (Int32.ofNat bf)), .val (.ref b1), .val (.int (Int32.ofNat pos)), .val (.ref b19), .unset] [])
                refine Go.step (fun tt kk => XS.aload X47.here hx rfl (hb hby at_397) rfl rfl kk) ?_
                show Go _ _ _ _ _ _ _ T47 (mkF m 399 _ [(.ref b19)])
                refine Go.step (fun tt kk => XS.iload X47.here hx rfl (hb hby at_399) rfl kk) ?_
                show Go _ _ _ _ _ _ _ T47 (mkF m 401 _ [(.int (Int32.ofNat off)), (.ref b19)])
                refine Go.step (fun tt kk => XS.iload X47.here hx rfl (hb hby at_401) rfl kk) ?_
                show Go _ _ _ _ _ _ _ T47 (mkF m 403 _ [(.int (8 : Int32)), (.int (Int32.ofNat off)), (.ref b19)])
                refine Go.step (fun tt kk => XS.iload X47.here hx rfl (hb hby at_403) rfl kk) ?_
                show Go _ _ _ _ _ _ _ T47 (mkF m 405 _ [(.int (Int32.ofNat bf)), (.int (8 : Int32)), (.int (Int32.ofNat off)), (.ref b19)])
                have f122 := (Sta.wr W47 (Sta.wr W45 (Sta.wr W43 (Sta.wr W41 (Sta.wr W39 (Sta.wr W37 (Sta.wr W35 (Sta.wr W33 (Sta.wr W31 (Sta.wr W30 (Sta.wr W29 (Sta.wr W28 (Sta.wr W27 (Sta.wr W26 (Sta.wr W25 (Sta.wr W24 (Sta.wr W23 (Sta.wr W22 (Sta.wr W21 (Sta.wr W20 (Sta.ext E19 f235_2)))))))))))))))))))))
                have f123 := (((((((((((((((((((((f235_1.ext E19).other W20 ne_va_b19).other W21 ne_va_b19).other W22 ne_va_b19).other W23 ne_va_b19).other W24 ne_va_b19).other W25 ne_va_b19).other W26 ne_va_b19).other W27 ne_va_b19).other W28 ne_va_b19).other W29 ne_va_b19).other W30 ne_va_b19).other W31 ne_va_b19).other W33 ne_va_b19).other W35 ne_va_b19).other W37 ne_va_b19).other W39 ne_va_b19).other W41 ne_va_b19).other W43 ne_va_b19).other W45 ne_va_b19).other W47 ne_va_b19)
                obtain ⟨v121, T121, L121, X121, q121, st121⟩ := c_static X47 hx hZ hown (y := (⟨"com/example/sharks/sharks/StandardBase64", "decode", "([CIII)[B"⟩ : MethodName)) (hw _ (List.mem_of_getElem? (i := 7) rfl)) (hw _ (List.mem_of_getElem? (i := 8) rfl)) (hw _ (List.mem_of_getElem? (i := 9) rfl)) (hw _ (List.mem_of_getElem? (i := 10) rfl)) (by decide) (argsL := [(.ref b19), (.int (Int32.ofNat off)), (.int (8 : Int32)), (.int (Int32.ofNat bf))]) (rest := []) (rmDc81 l Z a0 hw [] b19 va off bf g3 F h47 n0 Z47 ho hbf hF hg3 hp1 hp2 f122 f123 V48) e47 pd_5 rfl (by rw [hml]; rfl) (W := 0) (by show 2 * 0 + _ ≤ _; exact Nat.le_of_eq rfl) (by decide) (by decide) (by decide) (by decide) (hb hby at_405) (Ls := #[.val (.long i0), .second, .val (.int i1), .val (.int i2), .val (.int (8 : Int32)), .val (.int pd), .val (.int (Int32.ofNat off)), .val (.int (Int32.ofNat bf)), .val (.ref b1), .val (.int (Int32.ofNat pos)), .val (.ref b19), .unset])
                generalize e121 : T121.heap = h121 at q121
                obtain ⟨N121q, K121q, q1121, q2121⟩ := q121
                have N121 := Fr.app N47 N121q
                have Z121 : n0 ≤ h121.size := Nat.le_trans Z47 K121q.1
                obtain rfl := q2121 hok
                refine Go.step (st121) ?_
                show Go _ _ _ _ _ _ _ T121 (mkF m 408 _ [.null])
                refine Go.step (fun tt kk => XS.astore X121.here hx rfl (hb hby at_408) rfl rfl (l' := #[.val (.long i0), .second, .val (.int i1), .val (.int i2), .val (.int (8 : Int32)), .val (.int pd), .val (.int (Int32.ofNat off)), .val (.int (Int32.ofNat bf)), .val (.ref b1), .val (.int (Int32.ofNat pos)), .val (.ref b19), .val .null]) rfl kk) ?_
                show Go _ _ _ _ _ _ _ T121 (mkF m 410 _ [])
                refine Go.step (fun tt kk => XS.aload X121.here hx rfl (hb hby at_410) rfl rfl kk) ?_
                show Go _ _ _ _ _ _ _ T121 (mkF m 412 _ [.null])
                refine Go.step (fun tt kk => XS.aload X121.here hx rfl (hb hby at_412) rfl rfl kk) ?_
                show Go _ _ _ _ _ _ _ T121 (mkF m 414 _ [(.ref b1), .null])
                refine Go.step (fun tt kk => XS.iload X121.here hx rfl (hb hby at_414) rfl kk) ?_
                show Go _ _ _ _ _ _ _ T121 (mkF m 416 _ [(.int (8 : Int32)), (.ref b1), .null])
                refine Go.step (fun tt kk => XS.iload X121.here hx rfl (hb hby at_416) rfl kk) ?_
                show Go _ _ _ _ _ _ _ T121 (mkF m 418 _ [(.int (Int32.ofNat bf)), (.int (8 : Int32)), (.ref b1), .null])
                have f125 := ((f46.other W47 ne_b1_b19).keep K121q nin0)
                obtain ⟨v124, T124, L124, X124, q124, st124⟩ := c_static X121 hx hZ hown (y := (⟨"com/example/sharks/sharks/StandardBase64DecodePinLaw", "expected", "([CII)[B"⟩ : MethodName)) (hw _ (List.mem_of_getElem? (i := 14) rfl)) (hw _ (List.mem_of_getElem? (i := 15) rfl)) (hw _ (List.mem_of_getElem? (i := 4) rfl)) (hw _ (List.mem_of_getElem? (i := 16) rfl)) (by decide) (argsL := [(.ref b1), (.int (8 : Int32)), (.int (Int32.ofNat bf))]) (rest := [.null]) (rmEx81 l Z a0 hw [] b1 bf g3 h121 n0 Z121 hbf hg3 hp1 hp2 f125) e121 pd_6 rfl (by rw [hml]; rfl) (W := 1) (by show 2 * 0 + _ ≤ _; exact Nat.le_of_eq rfl) (by decide) (by decide) (by decide) (by decide) (hb hby at_418) (Ls := #[.val (.long i0), .second, .val (.int i1), .val (.int i2), .val (.int (8 : Int32)), .val (.int pd), .val (.int (Int32.ofNat off)), .val (.int (Int32.ofNat bf)), .val (.ref b1), .val (.int (Int32.ofNat pos)), .val (.ref b19), .val .null])
                generalize e124 : T124.heap = h124 at q124
                obtain ⟨N124q, K124q, q1124, q2124⟩ := q124
                have N124 := Fr.app N121 N124q
                have Z124 : n0 ≤ h124.size := Nat.le_trans Z121 K124q.1
                obtain rfl := q2124 hok
                refine Go.step (st124) ?_
                show Go _ _ _ _ _ _ _ T124 (mkF m 421 _ [.null, .null])
                obtain ⟨v126, T126, L126, X126, q126, st126⟩ := c_static X124 hx hZ hown (y := (⟨"com/example/sharks/sharks/StandardBase64DecodePinLaw", "same", "([B[B)Z"⟩ : MethodName)) (hw _ (List.mem_of_getElem? (i := 17) rfl)) (hw _ (List.mem_of_getElem? (i := 18) rfl)) (hw _ (List.mem_of_getElem? (i := 4) rfl)) (hw _ (List.mem_of_getElem? (i := 19) rfl)) (by decide) (argsL := [.null, .null]) (rest := []) (rmSn l Z a0 hw [] h124 n0 Z124) e124 pd_7 rfl (by rw [hml]; rfl) (W := 0) (by show 2 * 0 + _ ≤ _; exact Nat.le_of_eq rfl) (by decide) (by decide) (by decide) (by decide) (hb hby at_421) (Ls := #[.val (.long i0), .second, .val (.int i1), .val (.int i2), .val (.int (8 : Int32)), .val (.int pd), .val (.int (Int32.ofNat off)), .val (.int (Int32.ofNat bf)), .val (.ref b1), .val (.int (Int32.ofNat pos)), .val (.ref b19), .val .null])
                obtain ⟨rfl, N126q, e126⟩ := q126
                have N126 := Fr.app N124 N126q
                refine Go.step (st126) ?_
                show Go _ _ _ _ _ _ _ T126 (mkF m 424 _ [(.int (1 : Int32))])
                refine go_retN X126 hx (t := .boolean) hret (by simp) hlk (hb hby at_424) (w := (1 : Int32)) rfl ?_ (by decide) (by decide)
                try rw [e126]
                exact ⟨rfl, N126⟩
          · by_cases hok : OK4 g3 0 ∧ OK4 g3 4
            · show Go _ _ _ _ _ _ _ T47 (mkF m 397 #[.val (.long i0), .second, .val (.int i1), .val (.int i2), .val (.int (8 : Int32)), .val (.int pd), .val (.int (Int32.ofNat off)), .val (.int (Int32.ofNat bf)), .val (.ref b1), .val (.int (Int32.ofNat pos)), .val (.ref b19), .unset] [])
              refine Go.step (fun tt kk => XS.aload X47.here hx rfl (hb hby at_397) rfl rfl kk) ?_
              show Go _ _ _ _ _ _ _ T47 (mkF m 399 _ [(.ref b19)])
              refine Go.step (fun tt kk => XS.iload X47.here hx rfl (hb hby at_399) rfl kk) ?_
              show Go _ _ _ _ _ _ _ T47 (mkF m 401 _ [(.int (Int32.ofNat off)), (.ref b19)])
              refine Go.step (fun tt kk => XS.iload X47.here hx rfl (hb hby at_401) rfl kk) ?_
              show Go _ _ _ _ _ _ _ T47 (mkF m 403 _ [(.int (8 : Int32)), (.int (Int32.ofNat off)), (.ref b19)])
              refine Go.step (fun tt kk => XS.iload X47.here hx rfl (hb hby at_403) rfl kk) ?_
              show Go _ _ _ _ _ _ _ T47 (mkF m 405 _ [(.int (Int32.ofNat bf)), (.int (8 : Int32)), (.int (Int32.ofNat off)), (.ref b19)])
              have f128 := (Sta.wr W47 (Sta.wr W45 (Sta.wr W43 (Sta.wr W41 (Sta.wr W39 (Sta.wr W37 (Sta.wr W35 (Sta.wr W33 (Sta.wr W31 (Sta.wr W30 (Sta.wr W29 (Sta.wr W28 (Sta.wr W27 (Sta.wr W26 (Sta.wr W25 (Sta.wr W24 (Sta.wr W23 (Sta.wr W22 (Sta.wr W21 (Sta.wr W20 (Sta.ext E19 f235_2)))))))))))))))))))))
              have f129 := (((((((((((((((((((((f235_1.ext E19).other W20 ne_va_b19).other W21 ne_va_b19).other W22 ne_va_b19).other W23 ne_va_b19).other W24 ne_va_b19).other W25 ne_va_b19).other W26 ne_va_b19).other W27 ne_va_b19).other W28 ne_va_b19).other W29 ne_va_b19).other W30 ne_va_b19).other W31 ne_va_b19).other W33 ne_va_b19).other W35 ne_va_b19).other W37 ne_va_b19).other W39 ne_va_b19).other W41 ne_va_b19).other W43 ne_va_b19).other W45 ne_va_b19).other W47 ne_va_b19)
              obtain ⟨v127, T127, L127, X127, q127, st127⟩ := c_static X47 hx hZ hown (y := (⟨"com/example/sharks/sharks/StandardBase64", "decode", "([CIII)[B"⟩ : MethodName)) (hw _ (List.mem_of_getElem? (i := 7) rfl)) (hw _ (List.mem_of_getElem? (i := 8) rfl)) (hw _ (List.mem_of_getElem? (i := 9) rfl)) (hw _ (List.mem_of_getElem? (i := 10) rfl)) (by decide) (argsL := [(.ref b19), (.int (Int32.ofNat off)), (.int (8 : Int32)), (.int (Int32.ofNat bf))]) (rest := []) (rmDc80 l Z a0 hw [] b19 va off bf g3 F h47 n0 Z47 ho hbf hF hg3 hp1 f128 f129 V48) e47 pd_5 rfl (by rw [hml]; rfl) (W := 0) (by show 2 * 0 + _ ≤ _; exact Nat.le_of_eq rfl) (by decide) (by decide) (by decide) (by decide) (hb hby at_405) (Ls := #[.val (.long i0), .second, .val (.int i1), .val (.int i2), .val (.int (8 : Int32)), .val (.int pd), .val (.int (Int32.ofNat off)), .val (.int (Int32.ofNat bf)), .val (.ref b1), .val (.int (Int32.ofNat pos)), .val (.ref b19), .unset])
              generalize e127 : T127.heap = h127 at q127
              obtain ⟨N127q, K127q, q1127, q2127⟩ := q127
              have N127 := Fr.app N47 N127q
              have Z127 : n0 ≤ h127.size := Nat.le_trans Z47 K127q.1
              obtain ⟨bd127, rfl, S127q, V127q⟩ := q1127 hok
              refine Go.step (st127) ?_
              show Go _ _ _ _ _ _ _ T127 (mkF m 408 _ [(.ref bd127)])
              refine Go.step (fun tt kk => XS.astore X127.here hx rfl (hb hby at_408) rfl rfl (l' := #[.val (.long i0), .second, .val (.int i1), .val (.int i2), .val (.int (8 : Int32)), .val (.int pd), .val (.int (Int32.ofNat off)), .val (.int (Int32.ofNat bf)), .val (.ref b1), .val (.int (Int32.ofNat pos)), .val (.ref b19), .val (.ref bd127)]) rfl kk) ?_
              show Go _ _ _ _ _ _ _ T127 (mkF m 410 _ [])
              refine Go.step (fun tt kk => XS.aload X127.here hx rfl (hb hby at_410) rfl rfl kk) ?_
              show Go _ _ _ _ _ _ _ T127 (mkF m 412 _ [(.ref bd127)])
              refine Go.step (fun tt kk => XS.aload X127.here hx rfl (hb hby at_412) rfl rfl kk) ?_
              show Go _ _ _ _ _ _ _ T127 (mkF m 414 _ [(.ref b1), (.ref bd127)])
              refine Go.step (fun tt kk => XS.iload X127.here hx rfl (hb hby at_414) rfl kk) ?_
              show Go _ _ _ _ _ _ _ T127 (mkF m 416 _ [(.int (8 : Int32)), (.ref b1), (.ref bd127)])
              refine Go.step (fun tt kk => XS.iload X127.here hx rfl (hb hby at_416) rfl kk) ?_
              show Go _ _ _ _ _ _ _ T127 (mkF m 418 _ [(.int (Int32.ofNat bf)), (.int (8 : Int32)), (.ref b1), (.ref bd127)])
              have f131 := ((f46.other W47 ne_b1_b19).keep K127q nin0)
              obtain ⟨v130, T130, L130, X130, q130, st130⟩ := c_static X127 hx hZ hown (y := (⟨"com/example/sharks/sharks/StandardBase64DecodePinLaw", "expected", "([CII)[B"⟩ : MethodName)) (hw _ (List.mem_of_getElem? (i := 14) rfl)) (hw _ (List.mem_of_getElem? (i := 15) rfl)) (hw _ (List.mem_of_getElem? (i := 4) rfl)) (hw _ (List.mem_of_getElem? (i := 16) rfl)) (by decide) (argsL := [(.ref b1), (.int (8 : Int32)), (.int (Int32.ofNat bf))]) (rest := [(.ref bd127)]) (rmEx80 l Z a0 hw [] b1 bf g3 h127 n0 Z127 hbf hg3 hp1 f131) e127 pd_6 rfl (by rw [hml]; rfl) (W := 1) (by show 2 * 0 + _ ≤ _; exact Nat.le_of_eq rfl) (by decide) (by decide) (by decide) (by decide) (hb hby at_418) (Ls := #[.val (.long i0), .second, .val (.int i1), .val (.int i2), .val (.int (8 : Int32)), .val (.int pd), .val (.int (Int32.ofNat off)), .val (.int (Int32.ofNat bf)), .val (.ref b1), .val (.int (Int32.ofNat pos)), .val (.ref b19), .val (.ref bd127)])
              generalize e130 : T130.heap = h130 at q130
              obtain ⟨N130q, K130q, q1130, q2130⟩ := q130
              have N130 := Fr.app N127 N130q
              have Z130 : n0 ≤ h130.size := Nat.le_trans Z127 K130q.1
              obtain ⟨be130, rfl, S130q, V130q⟩ := q1130 hok
              refine Go.step (st130) ?_
              show Go _ _ _ _ _ _ _ T130 (mkF m 421 _ [(.ref be130), (.ref bd127)])
              have f133 := (V127q.keep K130q nin0)
              obtain ⟨v132, T132, L132, X132, q132, st132⟩ := c_static X130 hx hZ hown (y := (⟨"com/example/sharks/sharks/StandardBase64DecodePinLaw", "same", "([B[B)Z"⟩ : MethodName)) (hw _ (List.mem_of_getElem? (i := 17) rfl)) (hw _ (List.mem_of_getElem? (i := 18) rfl)) (hw _ (List.mem_of_getElem? (i := 4) rfl)) (hw _ (List.mem_of_getElem? (i := 19) rfl)) (by decide) (argsL := [(.ref bd127), (.ref be130)]) (rest := []) (rmSm l Z a0 hw [] bd127 be130 (bf + 6) (exI g3 bf) h130 n0 Z130 (by omega) f133 V130q) e130 pd_7 rfl (by rw [hml]; rfl) (W := 0) (by show 2 * 0 + _ ≤ _; exact Nat.le_of_eq rfl) (by decide) (by decide) (by decide) (by decide) (hb hby at_421) (Ls := #[.val (.long i0), .second, .val (.int i1), .val (.int i2), .val (.int (8 : Int32)), .val (.int pd), .val (.int (Int32.ofNat off)), .val (.int (Int32.ofNat bf)), .val (.ref b1), .val (.int (Int32.ofNat pos)), .val (.ref b19), .val (.ref bd127)])
              obtain ⟨rfl, N132q, e132⟩ := q132
              have N132 := Fr.app N130 N132q
              refine Go.step (st132) ?_
              show Go _ _ _ _ _ _ _ T132 (mkF m 424 _ [(.int (1 : Int32))])
              refine go_retN X132 hx (t := .boolean) hret (by simp) hlk (hb hby at_424) (w := (1 : Int32)) rfl ?_ (by decide) (by decide)
              try rw [e132]
              exact ⟨rfl, N132⟩
            · show Go _ _ _ _ _ _ _ T47 (mkF m 397 #[.val (.long i0), .second, .val (.int i1), .val (.int i2), .val (.int (8 : Int32)), .val (.int pd), .val (.int (Int32.ofNat off)), .val (.int (Int32.ofNat bf)), .val (.ref b1), .val (.int (Int32.ofNat pos)), .val (.ref b19), .unset] [])
              refine Go.step (fun tt kk => XS.aload X47.here hx rfl (hb hby at_397) rfl rfl kk) ?_
              show Go _ _ _ _ _ _ _ T47 (mkF m 399 _ [(.ref b19)])
              refine Go.step (fun tt kk => XS.iload X47.here hx rfl (hb hby at_399) rfl kk) ?_
              show Go _ _ _ _ _ _ _ T47 (mkF m 401 _ [(.int (Int32.ofNat off)), (.ref b19)])
              refine Go.step (fun tt kk => XS.iload X47.here hx rfl (hb hby at_401) rfl kk) ?_
              show Go _ _ _ _ _ _ _ T47 (mkF m 403 _ [(.int (8 : Int32)), (.int (Int32.ofNat off)), (.ref b19)])
              refine Go.step (fun tt kk => XS.iload X47.here hx rfl (hb hby at_403) rfl kk) ?_
              show Go _ _ _ _ _ _ _ T47 (mkF m 405 _ [(.int (Int32.ofNat bf)), (.int (8 : Int32)), (.int (Int32.ofNat off)), (.ref b19)])
              have f135 := (Sta.wr W47 (Sta.wr W45 (Sta.wr W43 (Sta.wr W41 (Sta.wr W39 (Sta.wr W37 (Sta.wr W35 (Sta.wr W33 (Sta.wr W31 (Sta.wr W30 (Sta.wr W29 (Sta.wr W28 (Sta.wr W27 (Sta.wr W26 (Sta.wr W25 (Sta.wr W24 (Sta.wr W23 (Sta.wr W22 (Sta.wr W21 (Sta.wr W20 (Sta.ext E19 f235_2)))))))))))))))))))))
              have f136 := (((((((((((((((((((((f235_1.ext E19).other W20 ne_va_b19).other W21 ne_va_b19).other W22 ne_va_b19).other W23 ne_va_b19).other W24 ne_va_b19).other W25 ne_va_b19).other W26 ne_va_b19).other W27 ne_va_b19).other W28 ne_va_b19).other W29 ne_va_b19).other W30 ne_va_b19).other W31 ne_va_b19).other W33 ne_va_b19).other W35 ne_va_b19).other W37 ne_va_b19).other W39 ne_va_b19).other W41 ne_va_b19).other W43 ne_va_b19).other W45 ne_va_b19).other W47 ne_va_b19)
              obtain ⟨v134, T134, L134, X134, q134, st134⟩ := c_static X47 hx hZ hown (y := (⟨"com/example/sharks/sharks/StandardBase64", "decode", "([CIII)[B"⟩ : MethodName)) (hw _ (List.mem_of_getElem? (i := 7) rfl)) (hw _ (List.mem_of_getElem? (i := 8) rfl)) (hw _ (List.mem_of_getElem? (i := 9) rfl)) (hw _ (List.mem_of_getElem? (i := 10) rfl)) (by decide) (argsL := [(.ref b19), (.int (Int32.ofNat off)), (.int (8 : Int32)), (.int (Int32.ofNat bf))]) (rest := []) (rmDc80 l Z a0 hw [] b19 va off bf g3 F h47 n0 Z47 ho hbf hF hg3 hp1 f135 f136 V48) e47 pd_5 rfl (by rw [hml]; rfl) (W := 0) (by show 2 * 0 + _ ≤ _; exact Nat.le_of_eq rfl) (by decide) (by decide) (by decide) (by decide) (hb hby at_405) (Ls := #[.val (.long i0), .second, .val (.int i1), .val (.int i2), .val (.int (8 : Int32)), .val (.int pd), .val (.int (Int32.ofNat off)), .val (.int (Int32.ofNat bf)), .val (.ref b1), .val (.int (Int32.ofNat pos)), .val (.ref b19), .unset])
              generalize e134 : T134.heap = h134 at q134
              obtain ⟨N134q, K134q, q1134, q2134⟩ := q134
              have N134 := Fr.app N47 N134q
              have Z134 : n0 ≤ h134.size := Nat.le_trans Z47 K134q.1
              obtain rfl := q2134 hok
              refine Go.step (st134) ?_
              show Go _ _ _ _ _ _ _ T134 (mkF m 408 _ [.null])
              refine Go.step (fun tt kk => XS.astore X134.here hx rfl (hb hby at_408) rfl rfl (l' := #[.val (.long i0), .second, .val (.int i1), .val (.int i2), .val (.int (8 : Int32)), .val (.int pd), .val (.int (Int32.ofNat off)), .val (.int (Int32.ofNat bf)), .val (.ref b1), .val (.int (Int32.ofNat pos)), .val (.ref b19), .val .null]) rfl kk) ?_
              show Go _ _ _ _ _ _ _ T134 (mkF m 410 _ [])
              refine Go.step (fun tt kk => XS.aload X134.here hx rfl (hb hby at_410) rfl rfl kk) ?_
              show Go _ _ _ _ _ _ _ T134 (mkF m 412 _ [.null])
              refine Go.step (fun tt kk => XS.aload X134.here hx rfl (hb hby at_412) rfl rfl kk) ?_
              show Go _ _ _ _ _ _ _ T134 (mkF m 414 _ [(.ref b1), .null])
              refine Go.step (fun tt kk => XS.iload X134.here hx rfl (hb hby at_414) rfl kk) ?_
              show Go _ _ _ _ _ _ _ T134 (mkF m 416 _ [(.int (8 : Int32)), (.ref b1), .null])
              refine Go.step (fun tt kk => XS.iload X134.here hx rfl (hb hby at_416) rfl kk) ?_
              show Go _ _ _ _ _ _ _ T134 (mkF m 418 _ [(.int (Int32.ofNat bf)), (.int (8 : Int32)), (.ref b1), .null])
              have f138 := ((f46.other W47 ne_b1_b19).keep K134q nin0)
              obtain ⟨v137, T137, L137, X137, q137, st137⟩ := c_static X134 hx hZ hown (y := (⟨"com/example/sharks/sharks/StandardBase64DecodePinLaw", "expected", "([CII)[B"⟩ : MethodName)) (hw _ (List.mem_of_getElem? (i := 14) rfl)) (hw _ (List.mem_of_getElem? (i := 15) rfl)) (hw _ (List.mem_of_getElem? (i := 4) rfl)) (hw _ (List.mem_of_getElem? (i := 16) rfl)) (by decide) (argsL := [(.ref b1), (.int (8 : Int32)), (.int (Int32.ofNat bf))]) (rest := [.null]) (rmEx80 l Z a0 hw [] b1 bf g3 h134 n0 Z134 hbf hg3 hp1 f138) e134 pd_6 rfl (by rw [hml]; rfl) (W := 1) (by show 2 * 0 + _ ≤ _; exact Nat.le_of_eq rfl) (by decide) (by decide) (by decide) (by decide) (hb hby at_418) (Ls := #[.val (.long i0), .second, .val (.int i1), .val (.int i2), .val (.int (8 : Int32)), .val (.int pd), .val (.int (Int32.ofNat off)), .val (.int (Int32.ofNat bf)), .val (.ref b1), .val (.int (Int32.ofNat pos)), .val (.ref b19), .val .null])
              generalize e137 : T137.heap = h137 at q137
              obtain ⟨N137q, K137q, q1137, q2137⟩ := q137
              have N137 := Fr.app N134 N137q
              have Z137 : n0 ≤ h137.size := Nat.le_trans Z134 K137q.1
              obtain rfl := q2137 hok
              refine Go.step (st137) ?_
              show Go _ _ _ _ _ _ _ T137 (mkF m 421 _ [.null, .null])
              obtain ⟨v139, T139, L139, X139, q139, st139⟩ := c_static X137 hx hZ hown (y := (⟨"com/example/sharks/sharks/StandardBase64DecodePinLaw", "same", "([B[B)Z"⟩ : MethodName)) (hw _ (List.mem_of_getElem? (i := 17) rfl)) (hw _ (List.mem_of_getElem? (i := 18) rfl)) (hw _ (List.mem_of_getElem? (i := 4) rfl)) (hw _ (List.mem_of_getElem? (i := 19) rfl)) (by decide) (argsL := [.null, .null]) (rest := []) (rmSn l Z a0 hw [] h137 n0 Z137) e137 pd_7 rfl (by rw [hml]; rfl) (W := 0) (by show 2 * 0 + _ ≤ _; exact Nat.le_of_eq rfl) (by decide) (by decide) (by decide) (by decide) (hb hby at_421) (Ls := #[.val (.long i0), .second, .val (.int i1), .val (.int i2), .val (.int (8 : Int32)), .val (.int pd), .val (.int (Int32.ofNat off)), .val (.int (Int32.ofNat bf)), .val (.ref b1), .val (.int (Int32.ofNat pos)), .val (.ref b19), .val .null])
              obtain ⟨rfl, N139q, e139⟩ := q139
              have N139 := Fr.app N137 N139q
              refine Go.step (st139) ?_
              show Go _ _ _ _ _ _ _ T139 (mkF m 424 _ [(.int (1 : Int32))])
              refine go_retN X139 hx (t := .boolean) hret (by simp) hlk (hb hby at_424) (w := (1 : Int32)) rfl ?_ (by decide) (by decide)
              try rw [e139]
              exact ⟨rfl, N139⟩
      refine Go.step (fun tt kk => XS.iload X209.here hx rfl (hb hby at_218) rfl kk) ?_
      show Go _ _ _ _ _ _ _ T209 (mkF m 220 _ [(.int (Int32.ofNat pos))])
      refine Go.step (fun tt kk => XS.bipush X209.here hx rfl (hb hby at_220) kk) ?_
      show Go _ _ _ _ _ _ _ T209 (mkF m 222 _ [(.int (8 : Int32)), (.int (Int32.ofNat pos))])
      by_cases c222_140 : (Int32.ofNat pos) < (8 : Int32)
      · refine Go.step (fun tt kk => XS.icmpNo X209.here hx rfl (hb hby at_222) rfl (tlt c222_140).2.1 kk) ?_
        show Go _ _ _ _ _ _ _ T209 (mkF m 225 _ [])
        refine Go.step (fun tt kk => XS.aload X209.here hx rfl (hb hby at_225) rfl rfl kk) ?_
        show Go _ _ _ _ _ _ _ T209 (mkF m 227 _ [(.ref b1)])
        refine Go.step (fun tt kk => XS.iload X209.here hx rfl (hb hby at_227) rfl kk) ?_
        show Go _ _ _ _ _ _ _ T209 (mkF m 229 _ [(.int (Int32.ofNat pos)), (.ref b1)])
        refine Go.step (fun tt kk => XS.iloadN X209.here hx rfl (hb hby at_229) rfl kk) ?_
        show Go _ _ _ _ _ _ _ T209 (mkF m 230 _ [(.int i2), (.int (Int32.ofNat pos)), (.ref b1)])
        refine Go.step (X209.ldcInt hx hown (mvT hZ (hw _ (List.mem_of_getElem? (i := 6) rfl))) (g := (mkF m 230 #[.val (.long i0), .second, .val (.int i1), .val (.int i2), .val (.int (Int32.ofNat len)), .val (.int pd), .val (.int (Int32.ofNat off)), .val (.int (Int32.ofNat bf)), .val (.ref b1), .val (.int (Int32.ofNat pos)), .unset, .unset] [(.int i2), (.int (Int32.ofNat pos)), (.ref b1)])) rfl (hb hby at_230)) ?_
        show Go _ _ _ _ _ _ _ T209 (mkF m 232 _ [(.int (65535 : Int32)), (.int i2), (.int (Int32.ofNat pos)), (.ref b1)])
        refine Go.step (fun tt kk => XS.iand X209.here hx rfl (hb hby at_232) rfl kk) ?_
        show Go _ _ _ _ _ _ _ T209 (mkF m 233 _ [(.int (i2 &&& (65535 : Int32))), (.int (Int32.ofNat pos)), (.ref b1)])
        refine Go.step (fun tt kk => XS.i2c X209.here hx rfl (hb hby at_233) rfl kk) ?_
        show Go _ _ _ _ _ _ _ T209 (mkF m 234 _ [(.int ((i2 &&& (65535 : Int32)).toUInt32.toUInt16.toUInt32.toInt32)), (.int (Int32.ofNat pos)), (.ref b1)])
        show Go _ _ _ _ _ _ _ T209 (mkF m 234 #[.val (.long i0), .second, .val (.int i1), .val (.int i2), .val (.int (Int32.ofNat len)), .val (.int pd), .val (.int (Int32.ofNat off)), .val (.int (Int32.ofNat bf)), .val (.ref b1), .val (.int (Int32.ofNat pos)), .unset, .unset] [(.int ((i2 &&& (65535 : Int32)).toUInt32.toUInt16.toUInt32.toInt32)), (.int (Int32.ofNat pos)), (.ref b1)])
        obtain ⟨cl141, Ar141, hin141, -⟩ := f209_0.at (j := (Int32.ofNat pos)) (k := pos) (Int32.toInt_ofNat_of_lt (by omega)) ((own_lt pos 8 (by omega) (by omega)).mp c222_140)
        obtain ⟨T141, h141, X141, e141, W141, st141⟩ := stC X209 hx hZ e209 Ar141 (j := (Int32.ofNat pos)) hin141 (g := (mkF m 234 #[.val (.long i0), .second, .val (.int i1), .val (.int i2), .val (.int (Int32.ofNat len)), .val (.int pd), .val (.int (Int32.ofNat off)), .val (.int (Int32.ofNat bf)), .val (.ref b1), .val (.int (Int32.ofNat pos)), .unset, .unset] [(.int ((i2 &&& (65535 : Int32)).toUInt32.toUInt16.toUInt32.toInt32)), (.int (Int32.ofNat pos)), (.ref b1)])) rfl rfl (hb hby at_234)
        rw [(own_nc _)] at W141
        have V141 : AV Z h141 b1 .char 8 (upd (gv g2) pos (.int ((i2 &&& (65535 : Int32)).toUInt32.toUInt16.toUInt32.toInt32))) := AV.set f209_0 (k := pos) (Int32.toInt_ofNat_of_lt (by omega)) ((own_lt pos 8 (by omega) (by omega)).mp c222_140) W141
        have N141 := Fr.snoc X141 N209 gn_b1
        have Z141 : n0 ≤ h141.size := Nat.le_trans Z209 (Keep.of_wr W141).1
        refine Go.step (st141) ?_
        show Go _ _ _ _ _ _ _ T141 (mkF m 235 _ [])
        have V142 : AV Z h141 b1 .char 8 (gv (updI g2 pos (i2 &&& (65535 : Int32)).toUInt32.toUInt16.toUInt32.toInt32)) := V141.congr fun i _ => own_ui i
        have f143 := (f209_1.other W141 ne_va_b1)
        have f144 := (Sta.wr W141 f209_2)
        exact k235 (updI g2 pos (i2 &&& (65535 : Int32)).toUInt32.toUInt16.toUInt32.toInt32) _ _ _ (X141.more (by decide) (by decide)) e141 N141 Z141 V142 f143 f144 (CH.upd hg2 (own_nc _))
      · refine Go.step (fun tt kk => XS.icmpYes X209.here hx rfl (pc0 := 222) (pc' := 235) rfl (hb hby at_222) rfl (flt c222_140).2.1 (by decide) (by decide) kk) ?_
        show Go _ _ _ _ _ _ _ T209 (mkF m 235 _ [])
        exact k235 g2 _ _ _ (X209.more (by decide) (by decide)) e209 N209 Z209 f209_0 f209_1 f209_2 hg2
    refine Go.step (fun tt kk => XS.iload X188.here hx rfl (hb hby at_188) rfl kk) ?_
    show Go _ _ _ _ _ _ _ T188 (mkF m 190 _ [(.int pd)])
    refine Go.step (fun tt kk => XS.iconst X188.here hx rfl (hb hby at_190) kk) ?_
    show Go _ _ _ _ _ _ _ T188 (mkF m 191 _ [(.int (2 : Int32)), (.int pd)])
    by_cases c191_145 : pd = (2 : Int32)
    · refine Go.step (fun tt kk => XS.icmpNo X188.here hx rfl (hb hby at_191) rfl (teq c191_145).2 kk) ?_
      show Go _ _ _ _ _ _ _ T188 (mkF m 194 _ [])
      refine Go.step (fun tt kk => XS.iload X188.here hx rfl (hb hby at_194) rfl kk) ?_
      show Go _ _ _ _ _ _ _ T188 (mkF m 196 _ [(.int (Int32.ofNat len))])
      refine Go.step (fun tt kk => XS.iconst X188.here hx rfl (hb hby at_196) kk) ?_
      show Go _ _ _ _ _ _ _ T188 (mkF m 197 _ [(.int (2 : Int32)), (.int (Int32.ofNat len))])
      by_cases c197_146 : (Int32.ofNat len) < (2 : Int32)
      · refine Go.step (fun tt kk => XS.icmpYes X188.here hx rfl (pc0 := 197) (pc' := 209) rfl (hb hby at_197) rfl (tlt c197_146).1 (by decide) (by decide) kk) ?_
        show Go _ _ _ _ _ _ _ T188 (mkF m 209 _ [])
        exact k209 g1 _ _ _ (X188.more (by decide) (by decide)) e188 N188 Z188 f188_0 f188_1 f188_2 hg1
      · refine Go.step (fun tt kk => XS.icmpNo X188.here hx rfl (hb hby at_197) rfl (flt c197_146).1 kk) ?_
        show Go _ _ _ _ _ _ _ T188 (mkF m 200 _ [])
        refine Go.step (fun tt kk => XS.aload X188.here hx rfl (hb hby at_200) rfl rfl kk) ?_
        show Go _ _ _ _ _ _ _ T188 (mkF m 202 _ [(.ref b1)])
        refine Go.step (fun tt kk => XS.iload X188.here hx rfl (hb hby at_202) rfl kk) ?_
        show Go _ _ _ _ _ _ _ T188 (mkF m 204 _ [(.int (Int32.ofNat len)), (.ref b1)])
        refine Go.step (fun tt kk => XS.iconst X188.here hx rfl (hb hby at_204) kk) ?_
        show Go _ _ _ _ _ _ _ T188 (mkF m 205 _ [(.int (2 : Int32)), (.int (Int32.ofNat len)), (.ref b1)])
        refine Go.step (fun tt kk => XS.isub X188.here hx rfl (hb hby at_205) rfl kk) ?_
        show Go _ _ _ _ _ _ _ T188 (mkF m 206 _ [(.int ((Int32.ofNat len) - (2 : Int32))), (.ref b1)])
        refine Go.step (fun tt kk => XS.bipush X188.here hx rfl (hb hby at_206) kk) ?_
        show Go _ _ _ _ _ _ _ T188 (mkF m 208 _ [(.int (61 : Int32)), (.int ((Int32.ofNat len) - (2 : Int32))), (.ref b1)])
        have hpos208 : 2 ≤ len := by have q := mt (own_lt len 2 (by omega) (by omega)).mpr c197_146; omega
        rw [show Int32.ofNat len - (2 : Int32) = Int32.ofNat (len - 2) from own_sub len 2 hpos208 (by omega)]
        show Go _ _ _ _ _ _ _ T188 (mkF m 208 #[.val (.long i0), .second, .val (.int i1), .val (.int i2), .val (.int (Int32.ofNat len)), .val (.int pd), .val (.int (Int32.ofNat off)), .val (.int (Int32.ofNat bf)), .val (.ref b1), .unset, .unset, .unset] [(.int (61 : Int32)), (.int (Int32.ofNat (len - 2))), (.ref b1)])
        obtain ⟨cl147, Ar147, hin147, -⟩ := f188_0.at (j := (Int32.ofNat (len - 2))) (k := (len - 2)) (Int32.toInt_ofNat_of_lt (by omega)) (by omega)
        obtain ⟨T147, h147, X147, e147, W147, st147⟩ := stC X188 hx hZ e188 Ar147 (j := (Int32.ofNat (len - 2))) hin147 (g := (mkF m 208 #[.val (.long i0), .second, .val (.int i1), .val (.int i2), .val (.int (Int32.ofNat len)), .val (.int pd), .val (.int (Int32.ofNat off)), .val (.int (Int32.ofNat bf)), .val (.ref b1), .unset, .unset, .unset] [(.int (61 : Int32)), (.int (Int32.ofNat (len - 2))), (.ref b1)])) rfl rfl (hb hby at_208)
        rw [show nar .char (61 : Int32) = (61 : Int32) from by decide] at W147
        have V147 : AV Z h147 b1 .char 8 (upd (gv g1) (len - 2) (.int (61 : Int32))) := AV.set f188_0 (k := (len - 2)) (Int32.toInt_ofNat_of_lt (by omega)) (by omega) W147
        have N147 := Fr.snoc X147 N188 gn_b1
        have Z147 : n0 ≤ h147.size := Nat.le_trans Z188 (Keep.of_wr W147).1
        refine Go.step (st147) ?_
        show Go _ _ _ _ _ _ _ T147 (mkF m 209 _ [])
        have V148 : AV Z h147 b1 .char 8 (gv (updI g1 (len - 2) (61 : Int32))) := V147.congr fun i _ => own_ui i
        have f149 := (f188_1.other W147 ne_va_b1)
        have f150 := (Sta.wr W147 f188_2)
        exact k209 (updI g1 (len - 2) (61 : Int32)) _ _ _ (X147.more (by decide) (by decide)) e147 N147 Z147 V148 f149 f150 (CH.upd hg1 (by decide))
    · refine Go.step (fun tt kk => XS.icmpYes X188.here hx rfl (pc0 := 191) (pc' := 209) rfl (hb hby at_191) rfl (feq c191_145).2 (by decide) (by decide) kk) ?_
      show Go _ _ _ _ _ _ _ T188 (mkF m 209 _ [])
      exact k209 g1 _ _ _ (X188.more (by decide) (by decide)) e188 N188 Z188 f188_0 f188_1 f188_2 hg1
  refine Go.step (fun tt kk => XS.iload X17.here hx rfl (hb hby at_167) rfl kk) ?_
  show Go _ _ _ _ _ _ _ T17 (mkF m 169 _ [(.int pd)])
  refine Go.step (fun tt kk => XS.iconst X17.here hx rfl (hb hby at_169) kk) ?_
  show Go _ _ _ _ _ _ _ T17 (mkF m 170 _ [(.int (1 : Int32)), (.int pd)])
  by_cases c170_151 : pd < (1 : Int32)
  · refine Go.step (fun tt kk => XS.icmpYes X17.here hx rfl (pc0 := 170) (pc' := 188) rfl (hb hby at_170) rfl (tlt c170_151).1 (by decide) (by decide) kk) ?_
    show Go _ _ _ _ _ _ _ T17 (mkF m 188 _ [])
    have f152 := (((((((((V_va.ext E1).other W3 ne_va_b1).other W5 ne_va_b1).other W7 ne_va_b1).other W9 ne_va_b1).other W11 ne_va_b1).other W13 ne_va_b1).other W15 ne_va_b1).other W17 ne_va_b1)
    have f153 := (Sta.wr W17 (Sta.wr W15 (Sta.wr W13 (Sta.wr W11 (Sta.wr W9 (Sta.wr W7 (Sta.wr W5 (Sta.wr W3 (Sta.ext E1 SV)))))))))
    exact k188 g _ _ _ (X17.more (by decide) (by decide)) e17 N17 Z17 V18 f152 f153 hg
  · refine Go.step (fun tt kk => XS.icmpNo X17.here hx rfl (hb hby at_170) rfl (flt c170_151).1 kk) ?_
    show Go _ _ _ _ _ _ _ T17 (mkF m 173 _ [])
    refine Go.step (fun tt kk => XS.iload X17.here hx rfl (hb hby at_173) rfl kk) ?_
    show Go _ _ _ _ _ _ _ T17 (mkF m 175 _ [(.int (Int32.ofNat len))])
    refine Go.step (fun tt kk => XS.iconst X17.here hx rfl (hb hby at_175) kk) ?_
    show Go _ _ _ _ _ _ _ T17 (mkF m 176 _ [(.int (1 : Int32)), (.int (Int32.ofNat len))])
    by_cases c176_154 : (Int32.ofNat len) < (1 : Int32)
    · refine Go.step (fun tt kk => XS.icmpYes X17.here hx rfl (pc0 := 176) (pc' := 188) rfl (hb hby at_176) rfl (tlt c176_154).1 (by decide) (by decide) kk) ?_
      show Go _ _ _ _ _ _ _ T17 (mkF m 188 _ [])
      have f155 := (((((((((V_va.ext E1).other W3 ne_va_b1).other W5 ne_va_b1).other W7 ne_va_b1).other W9 ne_va_b1).other W11 ne_va_b1).other W13 ne_va_b1).other W15 ne_va_b1).other W17 ne_va_b1)
      have f156 := (Sta.wr W17 (Sta.wr W15 (Sta.wr W13 (Sta.wr W11 (Sta.wr W9 (Sta.wr W7 (Sta.wr W5 (Sta.wr W3 (Sta.ext E1 SV)))))))))
      exact k188 g _ _ _ (X17.more (by decide) (by decide)) e17 N17 Z17 V18 f155 f156 hg
    · refine Go.step (fun tt kk => XS.icmpNo X17.here hx rfl (hb hby at_176) rfl (flt c176_154).1 kk) ?_
      show Go _ _ _ _ _ _ _ T17 (mkF m 179 _ [])
      refine Go.step (fun tt kk => XS.aload X17.here hx rfl (hb hby at_179) rfl rfl kk) ?_
      show Go _ _ _ _ _ _ _ T17 (mkF m 181 _ [(.ref b1)])
      refine Go.step (fun tt kk => XS.iload X17.here hx rfl (hb hby at_181) rfl kk) ?_
      show Go _ _ _ _ _ _ _ T17 (mkF m 183 _ [(.int (Int32.ofNat len)), (.ref b1)])
      refine Go.step (fun tt kk => XS.iconst X17.here hx rfl (hb hby at_183) kk) ?_
      show Go _ _ _ _ _ _ _ T17 (mkF m 184 _ [(.int (1 : Int32)), (.int (Int32.ofNat len)), (.ref b1)])
      refine Go.step (fun tt kk => XS.isub X17.here hx rfl (hb hby at_184) rfl kk) ?_
      show Go _ _ _ _ _ _ _ T17 (mkF m 185 _ [(.int ((Int32.ofNat len) - (1 : Int32))), (.ref b1)])
      refine Go.step (fun tt kk => XS.bipush X17.here hx rfl (hb hby at_185) kk) ?_
      show Go _ _ _ _ _ _ _ T17 (mkF m 187 _ [(.int (61 : Int32)), (.int ((Int32.ofNat len) - (1 : Int32))), (.ref b1)])
      have hpos187 : 1 ≤ len := by have q := mt (own_lt len 1 (by omega) (by omega)).mpr c176_154; omega
      rw [show Int32.ofNat len - (1 : Int32) = Int32.ofNat (len - 1) from own_sub len 1 hpos187 (by omega)]
      show Go _ _ _ _ _ _ _ T17 (mkF m 187 #[.val (.long i0), .second, .val (.int i1), .val (.int i2), .val (.int (Int32.ofNat len)), .val (.int pd), .val (.int (Int32.ofNat off)), .val (.int (Int32.ofNat bf)), .val (.ref b1), .unset, .unset, .unset] [(.int (61 : Int32)), (.int (Int32.ofNat (len - 1))), (.ref b1)])
      obtain ⟨cl157, Ar157, hin157, -⟩ := V18.at (j := (Int32.ofNat (len - 1))) (k := (len - 1)) (Int32.toInt_ofNat_of_lt (by omega)) (by omega)
      obtain ⟨T157, h157, X157, e157, W157, st157⟩ := stC X17 hx hZ e17 Ar157 (j := (Int32.ofNat (len - 1))) hin157 (g := (mkF m 187 #[.val (.long i0), .second, .val (.int i1), .val (.int i2), .val (.int (Int32.ofNat len)), .val (.int pd), .val (.int (Int32.ofNat off)), .val (.int (Int32.ofNat bf)), .val (.ref b1), .unset, .unset, .unset] [(.int (61 : Int32)), (.int (Int32.ofNat (len - 1))), (.ref b1)])) rfl rfl (hb hby at_187)
      rw [show nar .char (61 : Int32) = (61 : Int32) from by decide] at W157
      have V157 : AV Z h157 b1 .char 8 (upd (gv g) (len - 1) (.int (61 : Int32))) := AV.set V18 (k := (len - 1)) (Int32.toInt_ofNat_of_lt (by omega)) (by omega) W157
      have N157 := Fr.snoc X157 N17 gn_b1
      have Z157 : n0 ≤ h157.size := Nat.le_trans Z17 (Keep.of_wr W157).1
      refine Go.step (st157) ?_
      show Go _ _ _ _ _ _ _ T157 (mkF m 188 _ [])
      have V158 : AV Z h157 b1 .char 8 (gv (updI g (len - 1) (61 : Int32))) := V157.congr fun i _ => own_ui i
      have f159 := ((((((((((V_va.ext E1).other W3 ne_va_b1).other W5 ne_va_b1).other W7 ne_va_b1).other W9 ne_va_b1).other W11 ne_va_b1).other W13 ne_va_b1).other W15 ne_va_b1).other W17 ne_va_b1).other W157 ne_va_b1)
      have f160 := (Sta.wr W157 (Sta.wr W17 (Sta.wr W15 (Sta.wr W13 (Sta.wr W11 (Sta.wr W9 (Sta.wr W7 (Sta.wr W5 (Sta.wr W3 (Sta.ext E1 SV))))))))))
      exact k188 (updI g (len - 1) (61 : Int32)) _ _ _ (X157.more (by decide) (by decide)) e157 N157 Z157 V158 f159 f160 (CH.upd hg (by decide))
theorem own_or {args : Array Value} {first s : State} {o : Option Outcome} {idx : List Nat} {a b : Cond} (h : (Cond.or a b).value args first o s idx = some true) (ha : a.value args first o s idx = some false) : b.value args first o s idx = some true := by
  simp only [Cond.value, ha] at h
  cases hb : b.value args first o s idx <;> simp_all
theorem own_ltF {args : Array Value} {s : State} {k : Int32} {i : Nat} (h : ¬ Int32.ofNat i < k) : (Cond.lt (.index 0) (.int k)).value args s none s [i] = some false := by
  simp only [Cond.value, Term.eval]; simp; exact Int32.not_lt.mp h
theorem own_leF {args : Array Value} {s : State} {k : Int32} {i : Nat} (h : Int32.ofNat i < k) : (Cond.le (.int k) (.index 0)).value args s none s [i] = some false := by
  simp only [Cond.value, Term.eval]; simp; exact h
theorem own_eqv {args : Array Value} {first s : State} {o : Option Outcome} {idx : List Nat} {a b : Term} {x y : Int32} (ha : a.eval args first o idx s = some (.int x)) (hb : b.eval args first o idx s = some (.int y)) (h : (Cond.eq a b).value args first o s idx = some true) : x = y := by
  simpa [Cond.value, ha, hb] using h
theorem own_eqL {args : Array Value} {first s : State} {o : Option Outcome} {idx : List Nat} {a b : Term} {x y : Int64} (ha : a.eval args first o idx s = some (.long x)) (hb : b.eval args first o idx s = some (.long y)) (h : (Cond.eq a b).value args first o s idx = some true) : x = y := by
  simpa [Cond.value, ha, hb] using h
theorem own_len {args : Array Value} {s : State} {t : Term} {a : Addr} {cv : Cell} {ty : FieldType} (ev : t.eval args s none [] s = some (.ref a)) (A : Arr s s.heap a cv ty) (h : (Jvm.Cond.eq (.length t) (.int (128 : Int32))).value args s none s [] = some true) : cv.slots.size = 128 := by
  obtain ⟨x, y, ha, hb, -⟩ := cmp_v (Or.inl h)
  have q := A.fin (U := s) (Vm.Alike.refl _)
  by_cases hl : cv.slots.size < 2 ^ 31
  · rw [len_f ev q hl] at ha
    have hx := (Option.some.inj ha).symm
    have hy : y = .int 128 := (Option.some.inj hb).symm
    subst hx hy
    have e : cv.slots.size.toInt32 = 128 := by simpa [Cond.value, len_f ev q hl, hb] using h
    have e2 := congrArg Int32.toInt e
    rw [len_toInt hl] at e2
    simp only [Int32.reduceToInt] at e2
    omega
  · simp [Term.eval, ev, q, hl] at ha
theorem own_key : ∀ i : Fin 128, vl (Int32.ofNat i.1) = (if i.1 < 43 then -1 else if i.1 = 43 then 62 else if i.1 < 47 then -1 else if i.1 = 47 then 63 else if i.1 < 58 then Int32.ofNat (i.1 + 4) else if i.1 < 65 then -1 else if i.1 < 91 then Int32.ofNat (i.1 - 65) else if i.1 < 97 then -1 else if i.1 < 123 then Int32.ofNat (i.1 - 71) else -1) := by decide +kernel
theorem own_dig {x : Int32} (i : Nat) (hi : i < 128) (h : x.toInt64 = (Int32.ofNat i).toInt64 + 4) : x = Int32.ofNat (i + 4) := by
  have key : ∀ i : Fin 128, (Int32.ofNat i.1).toInt64 + 4 = (Int32.ofNat (i.1 + 4)).toInt64 := by decide +kernel
  rw [key ⟨i, hi⟩] at h
  have e := congrArg Int64.toInt h
  rw [c_i2l, c_i2l] at e
  exact Int32.toInt_inj.mp e
theorem own_tab {args : Array Value} {s : State} {t : Term} {a : Addr} {cv : Cell} (ev : t.eval args s none [] s = some (.ref a)) (evI : ∀ i : Nat, t.eval args s none [i] s = some (.ref a)) (A : Arr s s.heap a cv .byte) (hsz : cv.slots.size = 128) (hf : Fit s)
    (c1 : (Cond.all t (.or (.le (.int 43) (.index 0)) (.eq (.elem t (.index 0)) (.int (-1))))).value args s none s [] = some true)
    (c2 : (Cond.eq (.elem t (.int 43)) (.int 62)).value args s none s [] = some true) (c3 : (Cond.eq (.elem t (.int 44)) (.int (-1))).value args s none s [] = some true) (c4 : (Cond.eq (.elem t (.int 45)) (.int (-1))).value args s none s [] = some true) (c5 : (Cond.eq (.elem t (.int 46)) (.int (-1))).value args s none s [] = some true) (c6 : (Cond.eq (.elem t (.int 47)) (.int 63)).value args s none s [] = some true)
    (c7 : (Cond.all t (.or (.lt (.index 0) (.int 48)) (.or (.le (.int 58) (.index 0)) (.eq (.op1 .i2l (.elem t (.index 0))) (.op2 .ladd (.op1 .i2l (.index 0)) (.long 4)))))).value args s none s [] = some true)
    (c8 : (Cond.all t (.or (.lt (.index 0) (.int 58)) (.or (.le (.int 65) (.index 0)) (.eq (.elem t (.index 0)) (.int (-1)))))).value args s none s [] = some true)
    (c9 : (Cond.all t (.or (.lt (.index 0) (.int 65)) (.or (.le (.int 91) (.index 0)) (.eq (.elem t (.index 0)) (.sub (.index 0) (.int 65)))))).value args s none s [] = some true)
    (c10 : (Cond.all t (.or (.lt (.index 0) (.int 91)) (.or (.le (.int 97) (.index 0)) (.eq (.elem t (.index 0)) (.int (-1)))))).value args s none s [] = some true)
    (c11 : (Cond.all t (.or (.lt (.index 0) (.int 97)) (.or (.le (.int 123) (.index 0)) (.eq (.elem t (.index 0)) (.sub (.index 0) (.int 71)))))).value args s none s [] = some true)
    (c12 : (Cond.all t (.or (.lt (.index 0) (.int 123)) (.eq (.elem t (.index 0)) (.int (-1))))).value args s none s [] = some true) : AV s s.heap a .byte 128 vt := by
  have q := A.fin (U := s) (Vm.Alike.refl _)
  refine ⟨cv, A, hsz, by decide, fun i hi => ?_⟩
  have hz : (Int32.ofNat i).toInt = (i : Int) := Int32.toInt_ofNat_of_lt (by omega)
  have hcl := clamp_of hz
  have hn : ¬ Int32.ofNat i < 0 := own_nn i (by omega)
  obtain ⟨v, e, f⟩ := elem_fit hf A (j := Int32.ofNat i) (in_of hz hsz hi)
  obtain ⟨x, rfl⟩ := fit_I f (Or.inr (Or.inr (Or.inl rfl)))
  have eI : (Term.index 0).eval args s none [i] s = some (.int (Int32.ofNat i)) := rfl
  have E : (Term.elem t (.index 0)).eval args s none [i] s = some (.int x) := (elem_f (evI i) eI q hn).trans e
  have K : ∀ k : Nat, k < 128 → i = k → (Term.elem t (.int (Int32.ofNat k))).eval args s none [] s = some (.int x) := fun k hk ek => by subst ek; exact (elem_f (a := .int (Int32.ofNat i)) ev rfl q hn).trans e
  rw [hcl] at e
  have L : ∀ k : Nat, k < 128 → ((Int32.ofNat i < Int32.ofNat k) ↔ i < k) := fun k hk => own_lt i k (by omega) (by omega)
  have Z : ∀ {c : Cond}, (Cond.all t c).value args s none s [] = some true → c.value args s none s [i] = some true := fun h => Cond.all_elim ev q h i (by omega)
  rw [e]
  refine congrArg (fun z => some (Value.int z)) ?_
  rw [own_key ⟨i, hi⟩]
  dsimp only
  by_cases h1 : i < 43
  · rw [if_pos h1]; exact own_eqv E rfl (own_or (Z c1) (own_leF ((L 43 (by decide)).mpr h1)))
  rw [if_neg h1]
  by_cases h2 : i = 43
  · rw [if_pos h2]; exact own_eqv (K 43 (by decide) h2) rfl c2
  rw [if_neg h2]
  by_cases h3 : i < 47
  · rw [if_pos h3]
    rcases (by omega : i = 44 ∨ i = 45 ∨ i = 46) with h | h | h
    · exact own_eqv (K 44 (by decide) h) rfl c3
    · exact own_eqv (K 45 (by decide) h) rfl c4
    · exact own_eqv (K 46 (by decide) h) rfl c5
  rw [if_neg h3]
  by_cases h4 : i = 47
  · rw [if_pos h4]; exact own_eqv (K 47 (by decide) h4) rfl c6
  rw [if_neg h4]
  by_cases h5 : i < 58
  · rw [if_pos h5]
    have z := own_or (own_or (Z c7) (own_ltF (mt (L 48 (by decide)).mp (by omega)))) (own_leF ((L 58 (by decide)).mpr h5))
    exact own_dig i hi (own_eqL (op1_f E) ((op2_f (x := .long (Int32.ofNat i).toInt64) (y := .long 4) ((op1_f eI).trans rfl) rfl).trans rfl) z)
  rw [if_neg h5]
  by_cases h6 : i < 65
  · rw [if_pos h6]; exact own_eqv E rfl (own_or (own_or (Z c8) (own_ltF (mt (L 58 (by decide)).mp (by omega)))) (own_leF ((L 65 (by decide)).mpr h6)))
  rw [if_neg h6]
  by_cases h7 : i < 91
  · rw [if_pos h7, ← own_sub i 65 (by omega) (by omega)]; exact own_eqv E rfl (own_or (own_or (Z c9) (own_ltF (mt (L 65 (by decide)).mp (by omega)))) (own_leF ((L 91 (by decide)).mpr h7)))
  rw [if_neg h7]
  by_cases h8 : i < 97
  · rw [if_pos h8]; exact own_eqv E rfl (own_or (own_or (Z c10) (own_ltF (mt (L 91 (by decide)).mp (by omega)))) (own_leF ((L 97 (by decide)).mpr h8)))
  rw [if_neg h8]
  by_cases h9 : i < 123
  · rw [if_pos h9, ← own_sub i 71 (by omega) (by omega)]; exact own_eqv E rfl (own_or (own_or (Z c11) (own_ltF (mt (L 97 (by decide)).mp (by omega)))) (own_leF ((L 123 (by decide)).mpr h9)))
  rw [if_neg h9]
  exact own_eqv E rfl (own_or (Z c12) (own_ltF (mt (L 123 (by decide)).mp (by omega))))
set_option maxRecDepth 65536 in
set_option maxHeartbeats 40000000 in
theorem comes_1 {Post : Tables → Env → Array Value → State → Outcome → State → Prop} (hpost : ∀ tb e args s v u, (limb_1_1.after args s (.returned v) u = true ∧ limb_1_2.after args s (.returned v) u = true ∧ True) → FrameEnd s (.returned v) u (Jvm.fieldLocs frame_1_writes args s ++ Jvm.arrayLocs frame_1_arrays args s ++ Jvm.staticLocs frame_1_statics s) 16 192 → Post tb e args s (.returned v) u) :
    ArmFor flags0 classFile x code maxLocals ret World_1 tables_1 room_1 Calls_1 rest_1 Pre_1 Post := by
  intro l hfl _ _ p e ha hc hk s m args below hf hA hF happ hP
  obtain ⟨hcalls, hrest, hpre⟩ := hP
  obtain ⟨-, -, -, hnamed, -, -, -, hat⟩ := (Spec.applies_iff hf).mp happ
  obtain ⟨hg, hn⟩ := and_e (Cond.before_iff.mp (show (Jvm.Cond.and given_1 narrow_1).before args s = true from hpre))
  obtain ⟨hcnt, hg1⟩ := and_e hg
  obtain ⟨ha0, hg2⟩ := and_e hg1
  obtain ⟨ha1, hg3⟩ := and_e hg2
  obtain ⟨w0, w1, w2, rfl⟩ : ∃ w0 w1 w2 : Value, args = #[w0, w1, w2] := by
    have hs : args.size = 3 := by simpa [Cond.value, given_1] using hcnt
    obtain ⟨L⟩ := args
    match L, hs with
    | [w0, w1, w2], _ => exact ⟨w0, w1, w2, rfl⟩
  have hw := fun d (hd : d ∈ tables_1) => atoms_spec (ws := Jvm.Cond.code x code maxLocals ret :: tables_1) hat d (List.mem_cons_of_mem _ hd)
  have hfit : Fit s := fun {y c} hc i hi => by
    obtain ⟨ha, rfl⟩ := Array.getElem?_eq_some_iff.mp hc
    have q := List.all_eq_true.mp ((Array.all_eq_true_iff_forall_mem.mp hF) _ (Array.getElem_mem ha)) i (List.mem_range.mpr hi)
    simpa [Array.getElem?_eq_getElem hi] using q
  obtain ⟨i0, ei0⟩ := isL_v ha0
  obtain rfl : w0 = (.long i0) := Option.some.inj ei0
  obtain ⟨i1, ei1⟩ := is_v ha1
  obtain rfl : w1 = (.int i1) := Option.some.inj ei1
  obtain ⟨i2, ei2⟩ := is_v hg3
  obtain rfl : w2 = (.int i2) := Option.some.inj ei2
  obtain ⟨nw0, nr0⟩ := and_e hn
  obtain ⟨nw1, nr1⟩ := and_e nr0
  obtain ⟨nw2, nr2⟩ := and_e nr1
  obtain ⟨nw3, nr3⟩ := and_e nr2
  obtain ⟨nw4, nr4⟩ := and_e nr3
  obtain ⟨nw5, nr5⟩ := and_e nr4
  obtain ⟨nw6, nr6⟩ := and_e nr5
  obtain ⟨nw7, nr7⟩ := and_e nr6
  obtain ⟨nw8, nr8⟩ := and_e nr7
  obtain ⟨nw9, nr9⟩ := and_e nr8
  obtain ⟨nw10, nr10⟩ := and_e nr9
  obtain ⟨nw11, nr11⟩ := and_e nr10
  obtain ⟨nw12, nr12⟩ := and_e nr11
  obtain ⟨va, evV⟩ := arr_v nw0
  obtain ⟨cv, AV0⟩ := Arr.start evV nw0
  have SV := Sta.start evV (Or.inr ⟨(hw _ (List.mem_of_getElem? (i := 9) rfl)), (hw _ (List.mem_of_getElem? (i := 28) rfl))⟩)
  have hsz := own_len evV AV0 nw1
  have evI : ∀ i : Nat, (Jvm.Term.static "com/example/sharks/sharks/StandardBase64" "VALUES" "[B").eval #[.long i0, .int i1, .int i2] s none [i] s = some (.ref va) := fun i => by have q := evV; simp only [Term.eval] at q ⊢; exact q
  have V_va := own_tab evV evI AV0 hsz hfit nw2 nw3 nw4 nw5 nw6 nw7 nw8 nw9 nw10 nw11 nw12 nr12
  obtain ⟨n, o, h1, h2, h3, _, L, rfl, ⟨rfl, N⟩, hq⟩ := rm0 l s _ hw tables_1 i0 i1 i2 va s.heap s.heap.size (Nat.le_refl _) SV V_va p e ha hc hk s m _ below hf ((Spec.applies_iff_loose hf).mp happ).1 ⟨rfl, State.Warmed39.refl s, rfl⟩ trivial
  refine ⟨n, _, h1, h2, h3, hpost _ _ _ _ _ _ ⟨Cond.after_iff.mpr rfl, Cond.after_iff.mpr (eq_i res_at (Term.int_eval (1)) rfl), trivial⟩ ⟨hq.1, hq.2.1, (hq.2.2.sift fun y hy => Or.inr (N y hy)).mono (by decide) (by decide)⟩⟩
theorem main_1_1 : Claimed_1_1 := comes_1 fun _ _ _ _ _ _ h hF => ⟨h.1, hF⟩
theorem main_1_2 : Claimed_1_2 := comes_1 fun _ _ _ _ _ _ h hF => ⟨h.2.1, hF⟩
end Jvm.Pilot.@@N@@
namespace Jvm.Pilot.@@N@@
open Jvm Jvm.ClassFile Sem Op Lib Jvm.Free Jvm.Stand Jvm.Pilot.@@N@@.Jvm.D
/-! MADE BY PROGRAM (witnessworld.py) out of the Statement's table words and the real class files: 11 classes; the members and pool entries that the words name. The judged class is class 1, her method 1. -/
namespace start1
open Jvm.ClassFile
def u (s : String) : CpInfo := .utf8 (stringToUtf16 s)
/-- a pool by its gaps: so many unusable entries, then the entry; so many at the end -/
def gap : Nat → List CpInfo → List CpInfo
  | 0, r => r
  | n + 1, r => .unusable :: gap n r
def poolList (es : List (Nat × CpInfo)) (last : Nat) : List CpInfo := es.foldr (fun e r => gap e.1 (e.2 :: r)) (gap last [])
def pool (es : List (Nat × CpInfo)) (last : Nat) : Array CpInfo := ⟨poolList es last⟩
def fileOf (pool : Array CpInfo) (this : Nat) (attrs : Array Attribute := #[]) (ms : Array MethodInfo := #[]) (fl : Nat := 33) (sup : Nat := 0) (ifs : Array Nat := #[]) (fds : Array FieldInfo := #[]) : ClassFile where
  minorVersion := 0
  majorVersion := 65
  constantPool := pool
  accessFlags := fl
  thisClass := this
  superClass := sup
  interfaces := ifs
  fields := fds
  methods := ms
  attributes := attrs
def plain (name : String) (sup : Option ClassId) : Class where
  name := name
  kind := .ordinary
  loader := none
  accessFlags := 33
  super := sup
  interfaces := #[]
  cf := none
  fields := #[]
  methods := #[]
  instanceTypes := #[]
  staticTypes := #[]
  resolved := #[]
  callSites := []
  init := .initialized
  statics := none
  mirror := none

def pool0 : Array CpInfo := pool [(5, u "<init>"), (0, u "()V"), (1, .class_ 10), (1, u "java/lang/Object")] 113

def k0m0 : Method := { name := "<init>", desc := "()V", sig := { parameters := [], returnType := none }, accessFlags := 1, code := none }
/-- java/lang/Object -/
def k0 : Class := { plain "java/lang/Object" none with
  accessFlags := 33
  interfaces := #[]
  cf := some (fileOf pool0 8 #[] #[{ accessFlags := 1, nameIndex := 5, descriptorIndex := 6, attributes := #[] }] 33 0 #[] #[])
  fields := #[]
  methods := #[k0m0]
  instanceTypes := #[]
  staticTypes := #[]
  resolved := Array.replicate 124 none
  statics := none }

def pool1 : Array CpInfo := pool [(2, .class_ 4), (1, u "java/lang/Object"), (0, u "<init>"), (0, u "()V"), (0, .long 63), (1, .methodref 10 11), (0, .class_ 12), (0, .nameAndType 13 14), (0, u "com/example/sharks/sharks/StandardBase64DecodePinLaw"), (0, u "enc"), (0, u "(I)C"), (0, .integer 65535), (0, .methodref 17 18), (0, .class_ 19), (0, .nameAndType 20 21), (0, u "com/example/sharks/sharks/StandardBase64"), (0, u "decode"), (0, u "([CIII)[B"), (0, .methodref 10 23), (0, .nameAndType 24 25), (0, u "expected"), (0, u "([CII)[B"), (0, .methodref 10 27), (0, .nameAndType 28 29), (0, u "same"), (0, u "([B[B)Z"), (0, .methodref 10 31), (0, .nameAndType 32 33), (0, u "v"), (0, u "(C)I"), (0, .methodref 10 35), (0, .nameAndType 36 37), (0, u "full"), (0, u "([CI[BI)Z"), (0, .methodref 10 39), (0, .nameAndType 40 41), (0, u "eq"), (0, u "([B[BI)Z"), (2, u "law"), (0, u "(JII)Z")] 7

def k1m0 : Method := { name := "<init>", desc := "()V", sig := { parameters := [], returnType := none }, accessFlags := 1, code := none }
def k1c1 : Code := { maxStack := 6, maxLocals := 12, code := code, exceptionTable := #[], attributes := #[] }
def k1m1 : Method := { name := "law", desc := "(JII)Z", sig := { parameters := [.long, .int, .int], returnType := some .boolean }, accessFlags := 9, code := some k1c1 }
def k1c2 : Code := { maxStack := 2, maxLocals := 1, code := method_3_code, exceptionTable := #[], attributes := #[] }
def k1m2 : Method := { name := "enc", desc := "(I)C", sig := { parameters := [.int], returnType := some .char }, accessFlags := 10, code := some k1c2 }
def k1c3 : Code := { maxStack := 2, maxLocals := 1, code := method_4_code, exceptionTable := #[], attributes := #[] }
def k1m3 : Method := { name := "v", desc := "(C)I", sig := { parameters := [.char], returnType := some .int }, accessFlags := 10, code := some k1c3 }
def k1c4 : Code := { maxStack := 5, maxLocals := 8, code := method_5_code, exceptionTable := #[], attributes := #[] }
def k1m4 : Method := { name := "full", desc := "([CI[BI)Z", sig := { parameters := [(.array .char), .int, (.array .byte), .int], returnType := some .boolean }, accessFlags := 10, code := some k1c4 }
def k1c5 : Code := { maxStack := 5, maxLocals := 10, code := method_6_code, exceptionTable := #[], attributes := #[] }
def k1m5 : Method := { name := "expected", desc := "([CII)[B", sig := { parameters := [(.array .char), .int, .int], returnType := some (.array .byte) }, accessFlags := 10, code := some k1c5 }
def k1c6 : Code := { maxStack := 3, maxLocals := 3, code := method_7_code, exceptionTable := #[], attributes := #[] }
def k1m6 : Method := { name := "eq", desc := "([B[BI)Z", sig := { parameters := [(.array .byte), (.array .byte), .int], returnType := some .boolean }, accessFlags := 10, code := some k1c6 }
def k1c7 : Code := { maxStack := 3, maxLocals := 2, code := method_8_code, exceptionTable := #[], attributes := #[] }
def k1m7 : Method := { name := "same", desc := "([B[B)Z", sig := { parameters := [(.array .byte), (.array .byte)], returnType := some .boolean }, accessFlags := 10, code := some k1c7 }
/-- com/example/sharks/sharks/StandardBase64DecodePinLaw -/
def k1 : Class := { plain "com/example/sharks/sharks/StandardBase64DecodePinLaw" (some 0) with
  accessFlags := 49
  interfaces := #[]
  cf := some (fileOf pool1 10 #[] #[{ accessFlags := 1, nameIndex := 5, descriptorIndex := 6, attributes := #[] }, { accessFlags := 9, nameIndex := 44, descriptorIndex := 45, attributes := #[] }, { accessFlags := 10, nameIndex := 13, descriptorIndex := 14, attributes := #[] }, { accessFlags := 10, nameIndex := 32, descriptorIndex := 33, attributes := #[] }, { accessFlags := 10, nameIndex := 36, descriptorIndex := 37, attributes := #[] }, { accessFlags := 10, nameIndex := 24, descriptorIndex := 25, attributes := #[] }, { accessFlags := 10, nameIndex := 40, descriptorIndex := 41, attributes := #[] }, { accessFlags := 10, nameIndex := 28, descriptorIndex := 29, attributes := #[] }] 49 2 #[] #[])
  fields := #[]
  methods := #[k1m0, k1m1, k1m2, k1m3, k1m4, k1m5, k1m6, k1m7]
  instanceTypes := #[]
  staticTypes := #[]
  resolved := Array.replicate 53 none
  statics := none }

def pool2 : Array CpInfo := pool [(2, .class_ 4), (1, u "java/lang/Object"), (0, u "<init>"), (0, u "()V"), (0, .methodref 8 9), (0, .class_ 10), (0, .nameAndType 11 12), (0, u "com/example/sharks/sharks/StandardBase64"), (0, u "decodedLength"), (0, u "([CII)I"), (0, .methodref 8 14), (0, .nameAndType 15 16), (0, u "value"), (0, u "(C)I"), (0, .integer 65535), (0, .fieldref 8 19), (0, .nameAndType 20 21), (0, u "VALUES"), (0, u "[B"), (18, u "ALPHABET"), (0, u "Ljava/lang/String;"), (1, u "PADDING"), (0, u "C"), (3, u "decode"), (0, u "([CIII)[B")] 5

def k2m0 : Method := { name := "<init>", desc := "()V", sig := { parameters := [], returnType := none }, accessFlags := 2, code := none }
def k2c1 : Code := { maxStack := 4, maxLocals := 13, code := prog_9_method_2_code, exceptionTable := #[], attributes := #[] }
def k2m1 : Method := { name := "decode", desc := "([CIII)[B", sig := { parameters := [(.array .char), .int, .int, .int], returnType := some (.array .byte) }, accessFlags := 8, code := some k2c1 }
def k2c2 : Code := { maxStack := 3, maxLocals := 5, code := prog_9_method_3_code, exceptionTable := #[], attributes := #[] }
def k2m2 : Method := { name := "decodedLength", desc := "([CII)I", sig := { parameters := [(.array .char), .int, .int], returnType := some .int }, accessFlags := 8, code := some k2c2 }
def k2c3 : Code := { maxStack := 2, maxLocals := 1, code := prog_9_method_4_code, exceptionTable := #[], attributes := #[] }
def k2m3 : Method := { name := "value", desc := "(C)I", sig := { parameters := [.char], returnType := some .int }, accessFlags := 10, code := some k2c3 }
/-- com/example/sharks/sharks/StandardBase64 -/
def k2 : Class := { plain "com/example/sharks/sharks/StandardBase64" (some 0) with
  accessFlags := 48
  interfaces := #[]
  cf := some (fileOf pool2 8 #[] #[{ accessFlags := 2, nameIndex := 5, descriptorIndex := 6, attributes := #[] }, { accessFlags := 8, nameIndex := 48, descriptorIndex := 49, attributes := #[] }, { accessFlags := 8, nameIndex := 11, descriptorIndex := 12, attributes := #[] }, { accessFlags := 10, nameIndex := 15, descriptorIndex := 16, attributes := #[] }] 48 2 #[] #[{ accessFlags := 26, nameIndex := 40, descriptorIndex := 41, attributes := #[] }, { accessFlags := 26, nameIndex := 43, descriptorIndex := 44, attributes := #[] }, { accessFlags := 26, nameIndex := 20, descriptorIndex := 21, attributes := #[] }])
  fields := #[{ name := "ALPHABET", type := (.object "java/lang/String"), accessFlags := 26, slot := 0, constantValue := 0 }, { name := "PADDING", type := .char, accessFlags := 26, slot := 1, constantValue := 0 }, { name := "VALUES", type := (.array .byte), accessFlags := 26, slot := 2, constantValue := 0 }]
  methods := #[k2m0, k2m1, k2m2, k2m3]
  instanceTypes := #[]
  staticTypes := #[(.object "java/lang/String"), .char, (.array .byte)]
  resolved := Array.replicate 55 none
  statics := some 0 }

def pool3 : Array CpInfo := pool [(1, u "java/lang/Cloneable"), (0, .class_ 1), (0, u "java/lang/Object"), (0, .class_ 3)] 3

/-- java/lang/Cloneable -/
def k3 : Class := { plain "java/lang/Cloneable" (some 0) with
  accessFlags := 1537
  interfaces := #[]
  cf := some (fileOf pool3 2 #[] #[] 1537 4 #[] #[])
  fields := #[]
  methods := #[]
  instanceTypes := #[]
  staticTypes := #[]
  resolved := Array.replicate 8 none
  statics := none }

def pool4 : Array CpInfo := pool [(1, u "java/io/Serializable"), (0, .class_ 1), (0, u "java/lang/Object"), (0, .class_ 3)] 3

/-- java/io/Serializable -/
def k4 : Class := { plain "java/io/Serializable" (some 0) with
  accessFlags := 1537
  interfaces := #[]
  cf := some (fileOf pool4 2 #[] #[] 1537 4 #[] #[])
  fields := #[]
  methods := #[]
  instanceTypes := #[]
  staticTypes := #[]
  resolved := Array.replicate 8 none
  statics := none }

/-- the primitive byte -/
def k5 : Class := { plain "byte" none with kind := .primitive 'B', accessFlags := 0x411 }
/-- [B -/
def k6 : Class := { plain "[B" (some 0) with kind := .array 5 .byte, interfaces := #[3, 4], accessFlags := 1041 }

/-- the primitive char -/
def k7 : Class := { plain "char" none with kind := .primitive 'C', accessFlags := 0x411 }
/-- [C -/
def k8 : Class := { plain "[C" (some 0) with kind := .array 7 .char, interfaces := #[3, 4], accessFlags := 1041 }

/-- the primitive int -/
def k9 : Class := { plain "int" none with kind := .primitive 'I', accessFlags := 0x411 }
/-- [I -/
def k10 : Class := { plain "[I" (some 0) with kind := .array 9 .int, interfaces := #[3, 4], accessFlags := 1041 }

def heap : Heap := #[{ cls := 2, slots := #[.null, .int 0, .ref 1], vm := .statics 2 },
  { cls := 6, slots := #[.int (-1), .int (-1), .int (-1), .int (-1), .int (-1), .int (-1), .int (-1), .int (-1), .int (-1), .int (-1), .int (-1), .int (-1), .int (-1), .int (-1), .int (-1), .int (-1), .int (-1), .int (-1), .int (-1), .int (-1), .int (-1), .int (-1), .int (-1), .int (-1), .int (-1), .int (-1), .int (-1), .int (-1), .int (-1), .int (-1), .int (-1), .int (-1), .int (-1), .int (-1), .int (-1), .int (-1), .int (-1), .int (-1), .int (-1), .int (-1), .int (-1), .int (-1), .int (-1), .int 62, .int (-1), .int (-1), .int (-1), .int 63, .int 52, .int 53, .int 54, .int 55, .int 56, .int 57, .int 58, .int 59, .int 60, .int 61, .int (-1), .int (-1), .int (-1), .int (-1), .int (-1), .int (-1), .int (-1), .int 0, .int 1, .int 2, .int 3, .int 4, .int 5, .int 6, .int 7, .int 8, .int 9, .int 10, .int 11, .int 12, .int 13, .int 14, .int 15, .int 16, .int 17, .int 18, .int 19, .int 20, .int 21, .int 22, .int 23, .int 24, .int 25, .int (-1), .int (-1), .int (-1), .int (-1), .int (-1), .int (-1), .int 26, .int 27, .int 28, .int 29, .int 30, .int 31, .int 32, .int 33, .int 34, .int 35, .int 36, .int 37, .int 38, .int 39, .int 40, .int 41, .int 42, .int 43, .int 44, .int 45, .int 46, .int 47, .int 48, .int 49, .int 50, .int 51, .int (-1), .int (-1), .int (-1), .int (-1), .int (-1)], vm := .none }]
def classes : Array Class := #[k0, k1, k2, k3, k4, k5, k6, k7, k8, k9, k10]
def interned : List (Array UInt16 × Addr) := []
def slotsUsed : Nat := 131
def theMethod : MethodId := ⟨1, 1⟩
def args0 : Array Value := #[.long 5, .int 5, .int 5]
def aboutOver (below : List Frame) : State where
  vm := { classes := classes, interned := interned.toArray }
  heap := heap
  slotsUsed := slotsUsed
  threads := #[{ frames := .invoking theMethod args0 :: below }]
def below0 : List Frame := [.native { method := ⟨0, 0⟩, args := #[] }]
def about1 : State := aboutOver below0
def p0 : Program := .bare "" "" ""
def e0 : Env := launch0.env 0 0 0
theorem w_frames : about1.frames = Frame.invoking theMethod args0 :: below0 := rfl
set_option maxRecDepth 65536 in
theorem w_args : argsFit about1.vm theMethod args0 = true := by decide +kernel
set_option maxRecDepth 65536 in
theorem w_heap : heapFits about1 = true := by decide +kernel
set_option maxRecDepth 65536 in
theorem w_runnable : about1.curStatus? = some .runnable := by decide +kernel
set_option maxRecDepth 65536 in
theorem w_alone : about1.alone = true := by decide +kernel
set_option maxRecDepth 65536 in
theorem w_named : about1.methodNamed? x = some theMethod := by decide +kernel
set_option maxRecDepth 65536 in
theorem w_hears : about1.hears theMethod below0 = true := by decide +kernel
set_option maxRecDepth 65536 in
theorem w_ripe : about1.ripe theMethod args0 below0 = true := by decide +kernel
theorem w_running : about1.status = .running := rfl
set_option maxRecDepth 65536 in
theorem w_room : about1.hasRoom e0.platform room_1 = true :=
  launch0.hasRoom_least _ room_1 (by decide +kernel) (by decide +kernel) (by decide +kernel) (by decide +kernel) (by decide +kernel) (by decide +kernel)
theorem allAtoms_all (ts : List Jvm.Cond) (a : Array Jvm.Value) (st : Jvm.State) : (allAtoms ts).before a st = ts.all (fun c => c.before a st) := by
  induction ts with
  | nil => rfl
  | cons c t ih =>
    show (Jvm.Cond.and c (allAtoms t)).before a st = _
    rw [Jvm.Cond.before_and, ih, List.all_cons]
def words1 : List Jvm.Cond := Jvm.Cond.code x code maxLocals ret :: tables_1
/-- a 'code' word, met by the world's own term for the bytes: nothing is compared byte by byte -/
theorem code_word {y : MethodName} {bytes : ByteArray} {mx : Nat} {rt : Option FieldType} {a : Array Value} {s : State} {m : MethodId} {meth : Method} {c : Code} (h1 : s.methodNamed? y = some m) (h2 : s.vm.method? m = some meth) (h3 : meth.code = some c) (h4 : c.code = bytes)
    (h5 : (c.maxLocals == mx && c.exceptionTable.isEmpty && decide (c.maxStack ≤ mostOperands) && decide (meth.sig.returnType = rt) && !meth.locks && decide (parseMethodDescriptor y.desc = some meth.sig)) = true) : (Jvm.Cond.code y bytes mx rt).before a s = true := by
  simp only [Bool.and_eq_true, beq_iff_eq, Bool.not_eq_true', decide_eq_true_eq] at h5
  obtain ⟨⟨⟨⟨⟨g1, g2⟩, g3⟩, g4⟩, g5⟩, g6⟩ := h5
  simp [Cond.before, Cond.holds, Cond.value, h1, h2, h3, h4, g1, g2, g3, g4, g5, g6]
def isCode : Jvm.Cond → Bool
  | .code _ _ _ _ => true
  | _ => false
theorem all_split {L : List Jvm.Cond} {P : Jvm.Cond → Bool} (h1 : L.all (fun c => isCode c || P c) = true) (h2 : ∀ c ∈ L.filter isCode, P c = true) : L.all P = true := by
  refine List.all_eq_true.mpr fun c hc => ?_
  have h := List.all_eq_true.mp h1 c hc
  rcases Bool.eq_false_or_eq_true (isCode c) with hi | hi
  · exact h2 c (List.mem_filter.mpr ⟨hc, hi⟩)
  · simpa [hi] using h
set_option maxRecDepth 65536 in
theorem w_c0 : (Jvm.Cond.code x code maxLocals ret).before args0 about1 = true := code_word (m := ⟨1, 1⟩) (meth := k1m1) (c := k1c1) (by decide +kernel) rfl rfl rfl (by decide +kernel)
set_option maxRecDepth 65536 in
theorem w_c1 : (Jvm.Cond.code ({ cls := "com/example/sharks/sharks/StandardBase64DecodePinLaw", name := "enc", desc := "(I)C" } : Jvm.MethodName) method_3_code (1 : Nat) (Option.some Jvm.ClassFile.FieldType.char)).before args0 about1 = true := code_word (m := ⟨1, 2⟩) (meth := k1m2) (c := k1c2) (by decide +kernel) rfl rfl rfl (by decide +kernel)
set_option maxRecDepth 65536 in
theorem w_c2 : (Jvm.Cond.code ({ cls := "com/example/sharks/sharks/StandardBase64", name := "decode", desc := "([CIII)[B" } : Jvm.MethodName) prog_9_method_2_code (13 : Nat) (Option.some (Jvm.ClassFile.FieldType.array Jvm.ClassFile.FieldType.byte))).before args0 about1 = true := code_word (m := ⟨2, 1⟩) (meth := k2m1) (c := k2c1) (by decide +kernel) rfl rfl rfl (by decide +kernel)
set_option maxRecDepth 65536 in
theorem w_c3 : (Jvm.Cond.code ({ cls := "com/example/sharks/sharks/StandardBase64", name := "decodedLength", desc := "([CII)I" } : Jvm.MethodName) prog_9_method_3_code (5 : Nat) (Option.some Jvm.ClassFile.FieldType.int)).before args0 about1 = true := code_word (m := ⟨2, 2⟩) (meth := k2m2) (c := k2c2) (by decide +kernel) rfl rfl rfl (by decide +kernel)
set_option maxRecDepth 65536 in
theorem w_c4 : (Jvm.Cond.code ({ cls := "com/example/sharks/sharks/StandardBase64DecodePinLaw", name := "expected", desc := "([CII)[B" } : Jvm.MethodName) method_6_code (10 : Nat) (Option.some (Jvm.ClassFile.FieldType.array Jvm.ClassFile.FieldType.byte))).before args0 about1 = true := code_word (m := ⟨1, 5⟩) (meth := k1m5) (c := k1c5) (by decide +kernel) rfl rfl rfl (by decide +kernel)
set_option maxRecDepth 65536 in
theorem w_c5 : (Jvm.Cond.code ({ cls := "com/example/sharks/sharks/StandardBase64DecodePinLaw", name := "same", desc := "([B[B)Z" } : Jvm.MethodName) method_8_code (2 : Nat) (Option.some Jvm.ClassFile.FieldType.boolean)).before args0 about1 = true := code_word (m := ⟨1, 7⟩) (meth := k1m7) (c := k1c7) (by decide +kernel) rfl rfl rfl (by decide +kernel)
set_option maxRecDepth 65536 in
theorem w_c6 : (Jvm.Cond.code ({ cls := "com/example/sharks/sharks/StandardBase64DecodePinLaw", name := "eq", desc := "([B[BI)Z" } : Jvm.MethodName) method_7_code (3 : Nat) (Option.some Jvm.ClassFile.FieldType.boolean)).before args0 about1 = true := code_word (m := ⟨1, 6⟩) (meth := k1m6) (c := k1c6) (by decide +kernel) rfl rfl rfl (by decide +kernel)
set_option maxRecDepth 65536 in
theorem w_c7 : (Jvm.Cond.code ({ cls := "com/example/sharks/sharks/StandardBase64", name := "value", desc := "(C)I" } : Jvm.MethodName) prog_9_method_4_code (1 : Nat) (Option.some Jvm.ClassFile.FieldType.int)).before args0 about1 = true := code_word (m := ⟨2, 3⟩) (meth := k2m3) (c := k2c3) (by decide +kernel) rfl rfl rfl (by decide +kernel)
set_option maxRecDepth 65536 in
theorem w_c8 : (Jvm.Cond.code ({ cls := "com/example/sharks/sharks/StandardBase64DecodePinLaw", name := "full", desc := "([CI[BI)Z" } : Jvm.MethodName) method_5_code (8 : Nat) (Option.some Jvm.ClassFile.FieldType.boolean)).before args0 about1 = true := code_word (m := ⟨1, 4⟩) (meth := k1m4) (c := k1c4) (by decide +kernel) rfl rfl rfl (by decide +kernel)
set_option maxRecDepth 65536 in
theorem w_c9 : (Jvm.Cond.code ({ cls := "com/example/sharks/sharks/StandardBase64DecodePinLaw", name := "v", desc := "(C)I" } : Jvm.MethodName) method_4_code (1 : Nat) (Option.some Jvm.ClassFile.FieldType.int)).before args0 about1 = true := code_word (m := ⟨1, 3⟩) (meth := k1m3) (c := k1c3) (by decide +kernel) rfl rfl rfl (by decide +kernel)
def codes1 : List Jvm.Cond := [Jvm.Cond.code x code maxLocals ret, Jvm.Cond.code ({ cls := "com/example/sharks/sharks/StandardBase64DecodePinLaw", name := "enc", desc := "(I)C" } : Jvm.MethodName) method_3_code (1 : Nat) (Option.some Jvm.ClassFile.FieldType.char), Jvm.Cond.code ({ cls := "com/example/sharks/sharks/StandardBase64", name := "decode", desc := "([CIII)[B" } : Jvm.MethodName) prog_9_method_2_code (13 : Nat) (Option.some (Jvm.ClassFile.FieldType.array Jvm.ClassFile.FieldType.byte)), Jvm.Cond.code ({ cls := "com/example/sharks/sharks/StandardBase64", name := "decodedLength", desc := "([CII)I" } : Jvm.MethodName) prog_9_method_3_code (5 : Nat) (Option.some Jvm.ClassFile.FieldType.int), Jvm.Cond.code ({ cls := "com/example/sharks/sharks/StandardBase64DecodePinLaw", name := "expected", desc := "([CII)[B" } : Jvm.MethodName) method_6_code (10 : Nat) (Option.some (Jvm.ClassFile.FieldType.array Jvm.ClassFile.FieldType.byte)), Jvm.Cond.code ({ cls := "com/example/sharks/sharks/StandardBase64DecodePinLaw", name := "same", desc := "([B[B)Z" } : Jvm.MethodName) method_8_code (2 : Nat) (Option.some Jvm.ClassFile.FieldType.boolean), Jvm.Cond.code ({ cls := "com/example/sharks/sharks/StandardBase64DecodePinLaw", name := "eq", desc := "([B[BI)Z" } : Jvm.MethodName) method_7_code (3 : Nat) (Option.some Jvm.ClassFile.FieldType.boolean), Jvm.Cond.code ({ cls := "com/example/sharks/sharks/StandardBase64", name := "value", desc := "(C)I" } : Jvm.MethodName) prog_9_method_4_code (1 : Nat) (Option.some Jvm.ClassFile.FieldType.int), Jvm.Cond.code ({ cls := "com/example/sharks/sharks/StandardBase64DecodePinLaw", name := "full", desc := "([CI[BI)Z" } : Jvm.MethodName) method_5_code (8 : Nat) (Option.some Jvm.ClassFile.FieldType.boolean), Jvm.Cond.code ({ cls := "com/example/sharks/sharks/StandardBase64DecodePinLaw", name := "v", desc := "(C)I" } : Jvm.MethodName) method_4_code (1 : Nat) (Option.some Jvm.ClassFile.FieldType.int)]
set_option maxRecDepth 65536 in
theorem codes_eq : words1.filter isCode = codes1 := rfl
theorem w_codes : ∀ c ∈ words1.filter isCode, c.before args0 about1 = true := by
  rw [codes_eq]
  intro c hc
  simp only [codes1, List.mem_cons, List.not_mem_nil, or_false] at hc
  rcases hc with rfl | rfl | rfl | rfl | rfl | rfl | rfl | rfl | rfl | rfl
  · exact w_c0
  · exact w_c1
  · exact w_c2
  · exact w_c3
  · exact w_c4
  · exact w_c5
  · exact w_c6
  · exact w_c7
  · exact w_c8
  · exact w_c9
set_option maxRecDepth 65536 in
theorem w_t1 : (words1.take 24).all (fun c => isCode c || c.before args0 about1) = true := by decide +kernel
set_option maxRecDepth 65536 in
theorem w_t2 : (words1.drop 24).all (fun c => isCode c || c.before args0 about1) = true := by decide +kernel
theorem w_tables : (allAtoms (Jvm.Cond.code x code maxLocals ret :: tables_1)).before args0 about1 = true := by
  rw [allAtoms_all]
  show words1.all (fun c => c.before args0 about1) = true
  refine all_split ?_ w_codes
  rw [← List.take_append_drop 24 words1, List.all_append, w_t1, w_t2]
  rfl
set_option maxRecDepth 65536 in
theorem w_case : (Jvm.Cond.and given_1 narrow_1).before args0 about1 = true := by decide +kernel
theorem w_applies : (headSpec (Jvm.Cond.code x code maxLocals ret :: tables_1) room_1).applies x e0.platform about1 = true :=
  (Spec.applies_iff w_frames).mpr ⟨w_running, w_runnable, w_alone, w_named, w_hears, w_ripe, w_room, w_tables⟩
theorem atStart : AtStart classFile x code maxLocals ret World_1 tables_1 room_1 Calls_1 rest_1 Pre_1 launch0 p0 e0 about1 theMethod args0 below0 :=
  ⟨lists_1, trivial, launch0.admits_env _ _ _, launch0.least_env, fairChoices_fair.cas, fairChoices_fair.clock, w_frames, w_args, w_heap, w_applies, trivial, trivial, w_case⟩
end start1
theorem witness_1 : WitnessClaimed_1 := ⟨start1.p0, start1.e0, start1.about1, start1.theMethod, start1.args0, start1.below0, start1.atStart⟩
end Jvm.Pilot.@@N@@
