import JvmDerived
import JvmDerived.Pilot.@@N@@Statement
import JvmDerived.Pilot.@@N@@Code
set_option linter.unusedVariables false
set_option linter.unusedSimpArgs false
namespace Jvm.RoadKit
open Sem ClassFile Op Lib Jvm.Stand Jvm.Free Jvm.LawKit
section New
variable {p : Program} {l : Launch} {e : Env} {R : Room} {s : State} {m : MethodId} {args : Array Value} {below : List Frame} {meth : Method} {c : Code} {T : State} {locs : List Loc} {cells slots : Nat}
theorem retI (X : Stand p l e R s m args below meth c T locs cells slots) (hx : p.tables.exec = Jvm.exec) {pc : Nat} {Ls : Array Slot} {z : Int32} {rest : List Value} (hret : meth.sig.returnType = some .int) (hd : decode c.code pc = .ok (.ireturn, 1)) {fs : List Frame}
    (hl : ∀ (f : JFrame) (acts : List Action), f.method = m → f.locked = none → f.entered = [] → (doReturn e (T.setTop f) acts (some (.int z))).1 = T.setFrames fs) : Steps p.tables e below (T.setTop (mkF m pc Ls (.int z :: rest))) (T.setFrames fs) := by
  have hm' : T.vm.method? m = some meth := X.method'
  have hn : narrow .int (.int z) = .int z := rfl
  show Steps p.tables e below (T.setTop { method := m, pc := pc, locals := Ls, stack := _ :: rest, locked := none }) _
  jvm_step X.here [X.here.top, hx, hd, hm', hret, hn]
  first | (intro acts; rw [hl _ acts rfl rfl rfl]) | rw [hl _ _ rfl rfl rfl]
  exact Steps.refl _
end New
end Jvm.RoadKit
namespace Jvm.Pilot.@@N@@
open Jvm Jvm.ClassFile Sem Op Lib Jvm.Free Jvm.Stand Jvm.LawKit Jvm.RoadKit Bundle Jvm.Pilot.@@N@@.Jvm.D
/-- the run from a frame of this method ends in a return with Q -/
def Go (p : Program) (e : Env) (s : State) (below : List Frame) (kc ks : Nat) (Q : Option Value → Heap → List Loc → Prop) (T : State) (f : JFrame) : Prop :=
  ∃ s₂ o, Steps p.tables e below (T.setTop f) s₂ ∧ s₂.status = .running ∧ Ended s₂ below o ∧ ∃ v L, o = .returned v ∧ Q v s₂.heap L ∧ FrameEnd s o s₂ L kc ks
/-- what is known of the method that runs -/
def Cx (p : Program) (s : State) (m : MethodId) (meth : Method) (c : Code) (Z : State) (own nm : String) (code : ByteArray) (maxL : Nat) (ret : Option FieldType) : Prop :=
  p.tables.exec = Jvm.exec ∧ Z.Warmed39 s.vm ∧ c.code = code ∧ c.maxLocals = maxL ∧ s.vm.findClass own = some m.cls ∧ meth.name = nm ∧ meth.sig.returnType = ret ∧ meth.locks = false
/-- a contract -/
def Ctr (l : Launch) (Z : State) (y : MethodName) (bytes : ByteArray) (maxL : Nat) (ret : Option FieldType) (ws : List Jvm.Cond) (rm : Room) (kc ks : Nat) (as : Array Value) (h : Heap) (Q : Option Value → Heap → List Loc → Prop) : Prop :=
  MetFree l y (head1 (Jvm.Cond.code y bytes maxL ret :: ws) rm) (fun a U => a = as ∧ Z.Warmed39 U.vm ∧ U.heap = h) (fun _ _ _ _ _ => True) (fun _ U o U' => ∃ v L, o = .returned v ∧ Q v U'.heap L ∧ FrameEnd U o U' L kc ks)
def bi (P : Prop) [Decidable P] : Int32 := if P then 1 else 0
theorem bi_t {P : Prop} [Decidable P] (h : P) : bi P = 1 := if_pos h
theorem bi_f {P : Prop} [Decidable P] (h : ¬ P) : bi P = 0 := if_neg h
theorem bi_n {P : Prop} [Decidable P] (h : P) : ¬ bi P = 0 := by rw [bi_t h]; decide
theorem bi_1 {P : Prop} [Decidable P] : bi P = 1 ↔ P := by unfold bi; split <;> simp_all
theorem bi_0 {P : Prop} [Decidable P] : bi P = 0 ↔ ¬ P := by unfold bi; split <;> simp_all
theorem bi_eq {P P' : Prop} [Decidable P] [Decidable P'] : bi P = bi P' ↔ (P ↔ P') := by unfold bi; split <;> split <;> simp_all
theorem bi_congr {P P' : Prop} [Decidable P] [Decidable P'] (h : P ↔ P') : bi P = bi P' := bi_eq.mpr h
theorem bi_fits {P : Prop} [Decidable P] : fits .boolean (.int (bi P)) = true := by unfold bi; split <;> rfl
theorem bi_nar {P : Prop} [Decidable P] : nar .boolean (bi P) = bi P := by unfold bi; split <;> rfl
section Own
variable {p : Program} {l : Launch} {e : Env} {R : Room} {s : State} {m : MethodId} {args : Array Value} {below : List Frame} {meth : Method} {c : Code} {T : State} {locs : List Loc} {cells slots kc ks : Nat} {Q : Option Value → Heap → List Loc → Prop} {Z : State} {a0 : Array Value} {h : Heap}
theorem Go.step {T' : State} {f f' : JFrame} (st : ∀ t, Steps p.tables e below (T'.setTop f') t → Steps p.tables e below (T.setTop f) t) (k : Go p e s below kc ks Q T' f') : Go p e s below kc ks Q T f := by
  obtain ⟨s₂, o, h1, r⟩ := k; exact ⟨s₂, o, st _ h1, r⟩
theorem Go.mono {Q' : Option Value → Heap → List Loc → Prop} {f : JFrame} (k : Go p e s below kc ks Q T f) (h : ∀ v h L, Q v h L → Q' v h L) : Go p e s below kc ks Q' T f := by
  obtain ⟨s₂, o, h1, h2, h3, v, L, h4, h5, h6⟩ := k; exact ⟨s₂, o, h1, h2, h3, v, L, h4, h _ _ _ h5, h6⟩
theorem Ctr.mk {y : MethodName} {bytes : ByteArray} {maxL : Nat} {ret : Option FieldType} {ws : List Jvm.Cond} {rm : Room} {as : Array Value} (hp : plainFor y = true)
    (hgo : ∀ (p : Program) (e : Env) (s : State) (m : MethodId) (below : List Frame) (meth : Method) (c : Code) (s₁ : State), Stand p l e rm s m as below meth c s₁ [] 0 0 → Cx p s m meth c Z y.cls y.name bytes maxL ret → s₁.heap = h → Go p e s below kc ks Q s₁ (entryFrame m as maxL)) :
    Ctr l Z y bytes maxL ret ws rm kc ks as h Q := by
  refine MetFree.of_bodySF hp hisR ?_
  intro p e s m args below meth c s₁ Bd hml0 hP hK
  obtain ⟨rfl, hZ, hh⟩ := hP
  exact hgo p e s m below meth c s₁ (Stand.of_body Bd) ⟨Bd.exec, hZ, Bd.bytes, hml0, findClass_of_methodNamed Bd.named, (name_of_methodNamed Bd.named Bd.method).1, Bd.returns, Bd.notSynchronized⟩ (by rw [← hh, Bd.state]; rfl)
theorem go_cast {f f' : JFrame} (q : f = f') (k : Go p e s below kc ks Q T f') : Go p e s below kc ks Q T f := q ▸ k
theorem go_retI (X : Stand p l e R s m args below meth c T locs cells slots) (hx : p.tables.exec = Jvm.exec) (hret : meth.sig.returnType = some .int) (hlk : meth.locks = false) {pc : Nat} {Ls : Array Slot} {z : Int32} {rest : List Value} (hd : decode c.code pc = .ok (.ireturn, 1))
    (hQ : Q (some (.int z)) T.heap locs) (hc : cells ≤ kc) (hs : slots ≤ ks) : Go p e s below kc ks Q T (mkF m pc Ls (.int z :: rest)) := by
  obtain ⟨fs, hr, hrun, hended, hW, hsame⟩ := X.leave (v := some (.int z)) (fun h => by rw [hret] at h; cases h) hlk
  exact ⟨_, _, retI X hx hret hd hr, hrun, hended, _, _, rfl, hQ, ⟨_, rfl⟩, hW, hsame.mono hc hs⟩
theorem go_retN (X : Stand p l e R s m args below meth c T locs cells slots) (hx : p.tables.exec = Jvm.exec) {t : FieldType} (hret : meth.sig.returnType = some t) (ht : t = .boolean ∨ t = .byte ∨ t = .char ∨ t = .short) (hlk : meth.locks = false) {pc : Nat} {Ls : Array Slot} {z w : Int32} {rest : List Value} (hd : decode c.code pc = .ok (.ireturn, 1))
    (hz : nar t z = w) (hQ : Q (some (.int w)) T.heap locs) (hc : cells ≤ kc) (hs : slots ≤ ks) : Go p e s below kc ks Q T (mkF m pc Ls (.int z :: rest)) := by
  subst hz
  obtain ⟨fs, hr, hrun, hended, hW, hsame⟩ := X.leave (v := some (.int (nar t z))) (fun h => by rw [hret] at h; cases h) hlk
  exact ⟨_, _, retN X hx hret ht hd hr, hrun, hended, _, _, rfl, hQ, ⟨_, rfl⟩, hW, hsame.mono hc hs⟩
theorem go_retJ (X : Stand p l e R s m args below meth c T locs cells slots) (hx : p.tables.exec = Jvm.exec) (hret : meth.sig.returnType = some .long) (hlk : meth.locks = false) {pc : Nat} {Ls : Array Slot} {z : Int64} (hd : decode c.code pc = .ok (.lreturn, 1))
    (hQ : Q (some (.long z)) T.heap locs) (hc : cells ≤ kc) (hs : slots ≤ ks) : Go p e s below kc ks Q T (mkF m pc Ls [.long z]) := by
  obtain ⟨fs, hr, hrun, hended, hW, hsame⟩ := X.leave (v := some (.long z)) (fun h => by rw [hret] at h; cases h) hlk
  exact ⟨_, _, X.lreturnOut hx hret hd hr, hrun, hended, _, _, rfl, hQ, ⟨_, rfl⟩, hW, hsame.mono hc hs⟩
theorem go_retA (X : Stand p l e R s m args below meth c T locs cells slots) (hx : p.tables.exec = Jvm.exec) {t : FieldType} (hret : meth.sig.returnType = some t) (ht : t.isReference = true) (hlk : meth.locks = false) {pc : Nat} {Ls : Array Slot} {w : Value} {rest : List Value} (hw : w.isRef = true) (hd : decode c.code pc = .ok (.areturn, 1))
    (hQ : Q (some w) T.heap locs) (hc : cells ≤ kc) (hs : slots ≤ ks) : Go p e s below kc ks Q T (mkF m pc Ls (w :: rest)) := by
  obtain ⟨fs, hr, hrun, hended, hW, hsame⟩ := X.leave (v := some w) (fun h => by rw [hret] at h; cases h) hlk
  have hn : narrow t w = w := by cases t <;> first | rfl | simp [FieldType.isReference] at ht
  exact ⟨_, _, retOut X hx hret hn (Or.inr (Or.inr (Or.inr (Or.inr ⟨rfl, ht, hw⟩)))) hd hr, hrun, hended, _, _, rfl, hQ, ⟨_, rfl⟩, hW, hsame.mono hc hs⟩
theorem go_ret (X : Stand p l e R s m args below meth c T locs cells slots) (hx : p.tables.exec = Jvm.exec) (hret : meth.sig.returnType = none) (hlk : meth.locks = false) {pc : Nat} {Ls : Array Slot} (hd : decode c.code pc = .ok (.return_, 1))
    (hQ : Q none T.heap locs) (hc : cells ≤ kc) (hs : slots ≤ ks) : Go p e s below kc ks Q T (mkF m pc Ls []) := by
  obtain ⟨fs, hr, hrun, hended, hW, hsame⟩ := X.leave (v := none) (fun _ => rfl) hlk
  exact ⟨_, _, X.returnOut hx hret hd hr, hrun, hended, _, _, rfl, hQ, ⟨_, rfl⟩, hW, hsame.mono hc hs⟩
/-! calls by a contract -/
section Calls
variable {own : String} {index : Nat} {y : MethodName} {bytes : ByteArray} {maxL : Nat} {ret r : Option FieldType} {rm : Room} {Qc : Option Value → Heap → List Loc → Prop} {argsL rest : List Value} {ps : List FieldType} {pc W : Nat} {Ls : Array Slot} {a : Addr}
theorem c_static (X : Stand p l e R s m args below meth c T locs cells slots) (hx : p.tables.exec = Jvm.exec) (hZ : Z.Warmed39 s.vm) (hown : s.vm.findClass own = some m.cls)
    (w1 : (Jvm.Cond.methodLink own index y).before a0 Z = true) (w2 : (Jvm.Cond.static y).before a0 Z = true) (w3 : (Jvm.Cond.initialized y.cls).before a0 Z = true) (w4 : (Jvm.Cond.code y bytes maxL ret).before a0 Z = true) (hy : y.cls ≠ "java/lang/invoke/MethodHandle" ∧ y.cls ≠ "java/lang/invoke/VarHandle")
    (hC : Ctr l Z y bytes maxL ret [] rm rm.cells rm.slots argsL.toArray h Qc) (eT : T.heap = h) (hpd : parseMethodDescriptor y.desc = some ⟨ps, r⟩) (hlen : argsL.length = ps.length) (hsz : Ls.size = c.maxLocals) (hW : 2 * 0 + (rest.map fun v => v.category).sum ≤ W)
    (hf : rm.frames + 1 ≤ R.frames) (hl : W + (maxL + 11) + rm.locals ≤ R.locals) (hc : cells + rm.cells ≤ R.cells) (hs : slots + rm.slots ≤ R.slots) (hd : decode c.code pc = .ok (.invokestatic index, 3)) :
    ∃ (v : Option Value) (T' : State) (L : List Loc), Stand p l e R s m args below meth c T' (locs ++ L) (cells + rm.cells) (slots + rm.slots) ∧ Qc v T'.heap L ∧
      ∀ t, Steps p.tables e below (T'.setTop (mkF m (pc + 3) Ls (v.toList ++ rest))) t → Steps p.tables e below (T.setTop (mkF m pc Ls (argsL.reverse ++ rest))) t := by
  obtain ⟨v, _, ⟨T', L', k', n'⟩, -, X', ⟨L, hQ, rfl, rfl, rfl⟩, st⟩ := Jvm.LawKit.callS X hx (y := y) hown (mvT hZ w1) (mvT hZ w2) (mvT hZ w3) (mvT hZ w4) hy (backOf (W := W) hC hZ w4 w3 hf hl) (g := mkF m pc Ls (argsL.reverse ++ rest)) rfl hsz (argsL := argsL) (rest := rest) (lenOf hpd hlen) rfl hW hd (fun _ _ => ⟨rfl, eT, hc, hs⟩)
  exact ⟨v, T', L, X', hQ, st⟩
theorem c_init (X : Stand p l e R s m args below meth c T locs cells slots) (hx : p.tables.exec = Jvm.exec) (hZ : Z.Warmed39 s.vm) (hown : s.vm.findClass own = some m.cls)
    (w1 : (Jvm.Cond.methodLink own index y).before a0 Z = true) (w2 : (Jvm.Cond.instanceMethod y).before a0 Z = true) (w3 : (Jvm.Cond.initialized y.cls).before a0 Z = true) (w4 : (Jvm.Cond.code y bytes maxL none).before a0 Z = true) (hn : y.name = "<init>") (hy : y.cls ≠ "java/lang/invoke/MethodHandle" ∧ y.cls ≠ "java/lang/invoke/VarHandle")
    (hC : Ctr l Z y bytes maxL none [] rm rm.cells rm.slots (.ref a :: argsL).toArray h Qc) (eT : T.heap = h) (hpd : parseMethodDescriptor y.desc = some ⟨ps, r⟩) (hlen : argsL.length = ps.length) (hsz : Ls.size = c.maxLocals) (hW : 2 * 0 + (rest.map fun v => v.category).sum ≤ W)
    (hf : rm.frames + 1 ≤ R.frames) (hl : W + (maxL + 11) + rm.locals ≤ R.locals) (hc : cells + rm.cells ≤ R.cells) (hs : slots + rm.slots ≤ R.slots) (hd : decode c.code pc = .ok (.invokespecial index, 3)) :
    ∃ (v : Option Value) (T' : State) (L : List Loc), Stand p l e R s m args below meth c T' (locs ++ L) (cells + rm.cells) (slots + rm.slots) ∧ Qc v T'.heap L ∧
      ∀ t, Steps p.tables e below (T'.setTop (mkF m (pc + 3) Ls (v.toList ++ rest))) t → Steps p.tables e below (T.setTop (mkF m pc Ls (argsL.reverse ++ .ref a :: rest))) t := by
  obtain ⟨v, _, ⟨T', L', k', n'⟩, -, X', ⟨L, hQ, rfl, rfl, rfl⟩, st⟩ := X.specialBack hx (y := y) hn hown (mvT hZ w1) (mvT hZ w2) (mvT hZ w4) hy (backOf (W := W) hC hZ w4 w3 hf hl) (g := mkF m pc Ls (argsL.reverse ++ .ref a :: rest)) rfl hsz (Steps.refl _) (a := a) (argsL := argsL) (rest := rest) (lenOf hpd hlen) rfl hW hd (fun _ _ => ⟨rfl, eT, hc, hs⟩)
  exact ⟨v, T', L, X', hQ, fun t k => st.trans k⟩
theorem c_virt {y' : MethodName} {C : String} (X : Stand p l e R s m args below meth c T locs cells slots) (hx : p.tables.exec = Jvm.exec) (hZ : Z.Warmed39 s.vm) (hown : s.vm.findClass own = some m.cls)
    (w1 : (Jvm.Cond.methodLink own index y').before a0 Z = true) (wd : (Jvm.Cond.declares y').before a0 Z = true) (nf : NotFace s y') (ws : (Jvm.Cond.selects C y' y).before a0 Z = true) (w2 : (Jvm.Cond.instanceMethod y).before a0 Z = true) (w3 : (Jvm.Cond.initialized y.cls).before a0 Z = true) (w4 : (Jvm.Cond.code y bytes maxL ret).before a0 Z = true) (hy : y'.cls ≠ "java/lang/invoke/MethodHandle" ∧ y'.cls ≠ "java/lang/invoke/VarHandle")
    (hC : Ctr l Z y bytes maxL ret [] rm rm.cells rm.slots (.ref a :: argsL).toArray h Qc) (eT : T.heap = h) (E : Exa Z h a C) (hpd : parseMethodDescriptor y'.desc = some ⟨ps, r⟩) (hlen : argsL.length = ps.length) (hsz : Ls.size = c.maxLocals) (hW : 2 * 0 + (rest.map fun v => v.category).sum ≤ W)
    (hf : rm.frames + 1 ≤ R.frames) (hl : W + (maxL + 11) + rm.locals ≤ R.locals) (hc : cells + rm.cells ≤ R.cells) (hs : slots + rm.slots ≤ R.slots) (hd : decode c.code pc = .ok (.invokevirtual index, 3)) :
    ∃ (v : Option Value) (T' : State) (L : List Loc), Stand p l e R s m args below meth c T' (locs ++ L) (cells + rm.cells) (slots + rm.slots) ∧ Qc v T'.heap L ∧
      ∀ t, Steps p.tables e below (T'.setTop (mkF m (pc + 3) Ls (v.toList ++ rest))) t → Steps p.tables e below (T.setTop (mkF m pc Ls (argsL.reverse ++ .ref a :: rest))) t := by
  obtain ⟨cq, kq, qa, qb, qc⟩ := isOf hZ eT E
  obtain ⟨v, _, ⟨T', L', k', n'⟩, -, X', ⟨L, hQ, rfl, rfl, rfl⟩, st⟩ := X.virtualBack hx (y := y') (z := y) hown (mvT hZ w1) (mvT hZ wd) nf (mvT hZ ws) (mvT hZ w2) hy (backOf (W := W) hC hZ w4 w3 hf hl) qa qc (g := mkF m pc Ls (argsL.reverse ++ .ref a :: rest)) rfl hsz (Steps.refl _) (argsL := argsL) (rest := rest) (lenOf hpd hlen) rfl hW hd (fun _ _ => ⟨rfl, eT, hc, hs⟩)
  exact ⟨v, T', L, X', hQ, fun t k => st.trans k⟩
theorem own_nf {y' z : MethodName} {C : String} {as : Array Value} (ws : (Jvm.Cond.selects C y' z).before as s = true) (h : z.cls = y.cls) : NotFace s y := fun r0 h0 => by
  obtain ⟨_, _, m2, -, -, q3, -, kP, hkP, hkPi⟩ := Cond.selects_spec ws
  have e1 := findClass_of_methodNamed q3
  rw [h] at e1
  have e2 : m2.cls = r0.cls := Option.some.inj (e1.symm.trans (findClass_of_methodNamed h0))
  exact ⟨kP, e2 ▸ hkP, hkPi⟩
/-- a private method of an object, by invokevirtual: its class isn't an interface (nf) -/
theorem c_priv {C : String} (X : Stand p l e R s m args below meth c T locs cells slots) (hx : p.tables.exec = Jvm.exec) (hZ : Z.Warmed39 s.vm) (hown : s.vm.findClass own = some m.cls)
    (w1 : (Jvm.Cond.methodLink own index y).before a0 Z = true) (w2 : (Jvm.Cond.instanceMethod y).before a0 Z = true) (nf : NotFace s y) (wp : (Jvm.Cond.privateMethod y).before a0 Z = true) (w3 : (Jvm.Cond.initialized y.cls).before a0 Z = true) (w4 : (Jvm.Cond.code y bytes maxL ret).before a0 Z = true) (hy : y.cls ≠ "java/lang/invoke/MethodHandle" ∧ y.cls ≠ "java/lang/invoke/VarHandle")
    (hC : Ctr l Z y bytes maxL ret [] rm rm.cells rm.slots (.ref a :: argsL).toArray h Qc) (eT : T.heap = h) (E : Exa Z h a C) (hpd : parseMethodDescriptor y.desc = some ⟨ps, r⟩) (hlen : argsL.length = ps.length) (hsz : Ls.size = c.maxLocals) (hW : 2 * 0 + (rest.map fun v => v.category).sum ≤ W)
    (hf : rm.frames + 1 ≤ R.frames) (hl : W + (maxL + 11) + rm.locals ≤ R.locals) (hc : cells + rm.cells ≤ R.cells) (hs : slots + rm.slots ≤ R.slots) (hd : decode c.code pc = .ok (.invokevirtual index, 3)) :
    ∃ (v : Option Value) (T' : State) (L : List Loc), Stand p l e R s m args below meth c T' (locs ++ L) (cells + rm.cells) (slots + rm.slots) ∧ Qc v T'.heap L ∧
      ∀ t, Steps p.tables e below (T'.setTop (mkF m (pc + 3) Ls (v.toList ++ rest))) t → Steps p.tables e below (T.setTop (mkF m pc Ls (argsL.reverse ++ .ref a :: rest))) t := by
  obtain ⟨cq, qa, qb⟩ := E.cell
  obtain ⟨mk, methM, hnamed, hmethM, hstM, habM⟩ := Cond.instanceMethod_spec (mvT (args := args) hZ w2)
  obtain ⟨methM', cM, hmethM', -, -, -, -, -, -, hsigM⟩ := Cond.code_spec hnamed (mvT (args := args) hZ w4)
  cases hmethM.symm.trans hmethM'
  obtain ⟨kP, hkP, hkPi⟩ := nf mk hnamed
  have hsel : selectMethod e.platform s.vm cq.cls mk = .method mk := selectMethod_private hmethM ((Cond.privateMethod_at (mvP hZ wp (args := #[]))) mk methM hnamed hmethM)
  obtain ⟨vm₁, X₁, hst⟩ := X.invokevirtual hx hown (mvT hZ w1) hnamed hmethM hstM hkP hkPi hy (a := a) (cell := cq) (by rw [eT]; exact qa) qb hsel hmethM habM hkP hkPi (g := mkF m pc Ls (argsL.reverse ++ .ref a :: rest)) rfl (argsL := argsL) (rest := rest) (lenOf hpd hlen _ hsigM) rfl hd
  obtain ⟨v, ⟨T', L', k', n'⟩, X', ⟨L, hQ, rfl, rfl, rfl⟩, hgo⟩ := (backOf (W := W) (len := 3) hC hZ w4 w3 hf hl) m meth c ⟨T.setVm vm₁, locs, cells, slots⟩ (mkF m pc Ls rest) (.invokevirtual index) mk (.ref a :: argsL).toArray X₁ rfl hsz hd hW (X₁.named hnamed) ⟨rfl, eT, hc, hs⟩
  exact ⟨v, T', L, X', hQ, fun t k => ((hst _ fun acts => by rw [doInvoke_state]; exact Steps.refl _).trans hgo).trans k⟩
/-- invokevirtual of a method that a class above the one that the entry names declares -/
theorem c_virtUp {y' : MethodName} {C owner : String} (X : Stand p l e R s m args below meth c T locs cells slots) (hx : p.tables.exec = Jvm.exec) (hZ : Z.Warmed39 s.vm) (hown : s.vm.findClass own = some m.cls)
    (w1 : (Jvm.Cond.methodLink own index y').before a0 Z = true) (wm : (Jvm.Cond.sameMethod y'.cls owner y'.name y'.desc).before a0 Z = true) (wd : (Jvm.Cond.declares ⟨owner, y'.name, y'.desc⟩).before a0 Z = true) (ws : (Jvm.Cond.selects C y' y).before a0 Z = true) (w2 : (Jvm.Cond.instanceMethod y).before a0 Z = true) (w3 : (Jvm.Cond.initialized y.cls).before a0 Z = true) (w4 : (Jvm.Cond.code y bytes maxL ret).before a0 Z = true) (hy : owner ≠ "java/lang/invoke/MethodHandle" ∧ owner ≠ "java/lang/invoke/VarHandle")
    (hC : Ctr l Z y bytes maxL ret [] rm rm.cells rm.slots (.ref a :: argsL).toArray h Qc) (eT : T.heap = h) (E : Exa Z h a C) (hpd : parseMethodDescriptor y'.desc = some ⟨ps, r⟩) (hlen : argsL.length = ps.length) (hsz : Ls.size = c.maxLocals) (hW : 2 * 0 + (rest.map fun v => v.category).sum ≤ W)
    (hf : rm.frames + 1 ≤ R.frames) (hl : W + (maxL + 11) + rm.locals ≤ R.locals) (hc : cells + rm.cells ≤ R.cells) (hs : slots + rm.slots ≤ R.slots) (hd : decode c.code pc = .ok (.invokevirtual index, 3)) :
    ∃ (v : Option Value) (T' : State) (L : List Loc), Stand p l e R s m args below meth c T' (locs ++ L) (cells + rm.cells) (slots + rm.slots) ∧ Qc v T'.heap L ∧
      ∀ t, Steps p.tables e below (T'.setTop (mkF m (pc + 3) Ls (v.toList ++ rest))) t → Steps p.tables e below (T.setTop (mkF m pc Ls (argsL.reverse ++ .ref a :: rest))) t := by
  obtain ⟨cq, kq, qa, qb, qc⟩ := isOf hZ eT E
  obtain ⟨v, _, ⟨T', L', k', n'⟩, -, X', ⟨L, hQ, rfl, rfl, rfl⟩, st⟩ := X.virtualBackUp hx (x := y') (y := y) hown (mvT hZ w1) (mvT hZ wm) (mvT hZ wd) hy (mvT hZ ws) (mvT hZ w2) (backOf (W := W) hC hZ w4 w3 hf hl) qa qc (g := mkF m pc Ls (argsL.reverse ++ .ref a :: rest)) rfl hsz (Steps.refl _) (argsL := argsL) (rest := rest) (lenOf hpd hlen) rfl hW hd (fun _ _ => ⟨rfl, eT, hc, hs⟩)
  exact ⟨v, T', L, X', hQ, fun t k => st.trans k⟩
end Calls
end Own
/-! arrays by a function of the place -/
def upd (f : Nat → Value) (k : Nat) (v : Value) : Nat → Value := fun i => if i = k then v else f i
def lst (L : List Value) : Nat → Value := fun i => L.getD i .null
theorem upd_eq {f : Nat → Value} {k : Nat} {v : Value} : upd f k v k = v := if_pos rfl
theorem upd_ne {f : Nat → Value} {k i : Nat} {v : Value} (h : i ≠ k) : upd f k v i = f i := if_neg h
def AV (Z : State) (h : Heap) (a : Addr) (ty : FieldType) (n : Nat) (f : Nat → Value) : Prop := ∃ c : Cell, Arr Z h a c ty ∧ c.slots.size = n ∧ n < 2147483648 ∧ ∀ i, i < n → c.slots[i]? = some (f i)
section Arrays
variable {Z : State} {h h' : Heap} {a b : Addr} {ty : FieldType} {n k : Nat} {f g : Nat → Value} {v w : Value} {j : Int32} {ws : List Addr} {sl : Nat}
theorem AV.lt (A : AV Z h a ty n f) : a < h.size := by obtain ⟨c, A, -⟩ := A; exact A.lt
theorem AV.ext (A : AV Z h a ty n f) (E : Ext h h') : AV Z h' a ty n f := by obtain ⟨c, A, r⟩ := A; exact ⟨c, A.ext E, r⟩
theorem AV.other (A : AV Z h b ty n f) (W : Wr h h' a sl v) (q : b ≠ a) : AV Z h' b ty n f := by obtain ⟨c, A, r⟩ := A; exact ⟨c, A.other W q, r⟩
theorem AV.keep (A : AV Z h a ty n f) (K : Keep h h' ws) (q : a ∉ ws) : AV Z h' a ty n f := by obtain ⟨c, A, r⟩ := A; exact ⟨c, ⟨K.2.1 a c A.1 q, A.2⟩, r⟩
theorem AV.congr (A : AV Z h a ty n f) (q : ∀ i, i < n → f i = g i) : AV Z h a ty n g := by obtain ⟨c, A, r1, r2, r3⟩ := A; exact ⟨c, A, r1, r2, fun i hi => by rw [r3 i hi, q i hi]⟩
theorem AV.bound (A : AV Z h a ty n f) : n < 2147483648 := by obtain ⟨c, A, r1, r2, r3⟩ := A; exact r2
theorem clamp_of (hj : j.toInt = (k : Int)) : j.toNatClampNeg = k := by show j.toInt.toNat = k; rw [hj]; rfl
theorem in_of {c : Cell} (hj : j.toInt = (k : Int)) (hs : c.slots.size = n) (hk : k < n) : ¬ (j < 0 ∨ c.slots.size ≤ j.toNatClampNeg) := by
  rw [clamp_of hj, hs, Int32.lt_iff_toInt_lt, hj]; simp only [Int32.reduceToInt]; omega
theorem AV.new {cA : ClassId} {z : Int32} (A : Arr Z h a (newA cA ty z) ty) (hz : z.toInt = (n : Int)) : AV Z h a ty n (fun _ => defaultValue ty) := by
  have q := clamp_of hz
  have hb := Int32.toInt_lt z
  refine ⟨_, A, by rw [sz_new]; exact q, by omega, fun i hi => ?_⟩
  have hi' : i < z.toNatClampNeg := by rw [q]; exact hi
  simp [newA, hi']
theorem AV.at (A : AV Z h a ty n f) (hj : j.toInt = (k : Int)) (hk : k < n) : ∃ cl : Cell, Arr Z h a cl ty ∧ ¬ (j < 0 ∨ cl.slots.size ≤ j.toNatClampNeg) ∧ cl.slots[j.toNatClampNeg]? = some (f k) := by
  obtain ⟨c, A, r1, r2, r3⟩ := A
  exact ⟨c, A, in_of hj r1 hk, by rw [clamp_of hj]; exact r3 k hk⟩
theorem AV.set (A : AV Z h a ty n f) (hj : j.toInt = (k : Int)) (hk : k < n) (W : Wr h h' a j.toNatClampNeg v) : AV Z h' a ty n (upd f k v) := by
  obtain ⟨c, A, r1, r2, r3⟩ := A
  refine ⟨_, A.same W, by rw [sz_set]; exact r1, r2, fun i hi => ?_⟩
  rw [clamp_of hj]
  by_cases e : i = k
  · subst e; simp [Cell.setSlot, r1, hi, upd]
  · rw [upd_ne e, ← r3 i hi]; exact Array.getElem?_setIfInBounds_ne (Ne.symm e)
theorem AV.setL {L L' : List Value} (A : AV Z h a ty n (lst L)) (hj : j.toInt = (k : Int)) (hk : k < n) (W : Wr h h' a j.toNatClampNeg v) (hl : k < L.length) (e : L.set k v = L') : AV Z h' a ty n (lst L') := by
  subst e
  refine (A.set hj hk W).congr fun i hi => ?_
  by_cases q : i = k
  · subst q; simp [upd, lst, List.getD_eq_getElem?_getD, hl]
  · rw [upd_ne q]; simp [lst, List.getD_eq_getElem?_getD, List.getElem?_set_ne (Ne.symm q)]
theorem AV.newL {L : List Value} (A : AV Z h a ty n (fun _ => v)) (e : L = List.replicate n v) : AV Z h a ty n (lst L) := by
  subst e; refine A.congr fun i hi => ?_
  simp [lst, List.getD_eq_getElem?_getD, List.getElem?_replicate, hi]
theorem AV.len (A : AV Z h a ty n f) : ∃ cl : Cell, Arr Z h a cl ty ∧ cl.slots.size.toInt32 = Int32.ofNat n := by
  obtain ⟨c, A, r1, r2, r3⟩ := A; exact ⟨c, A, by rw [r1]⟩
theorem own_cls {cA : ClassId} {z : Int32} {ad : String} (A : Arr Z h a (newA cA ty z) ty) (E : Exa Z h a ad) : Z.vm.findClass ad = some cA := by
  obtain ⟨cell, k, e1, e2, -⟩ := E
  cases A.1.symm.trans e1
  exact e2
theorem own_sto {cA : ClassId} {cl : Cell} {ad C : String} {y : Addr} (A : Arr Z h a cl ty) (E : Exa Z h a ad) (hA : Z.vm.findClass ad = some cA) (O : Ovr Z cA C) (I : Ins Z h y C true) : Sto Z h a (.ref y) := by
  obtain ⟨cell, k, e1, e2, -⟩ := E
  cases A.1.symm.trans e1
  have q : cl.cls = cA := Option.some.inj (e2.symm.trans hA)
  exact Sto.of A (q ▸ O) I
theorem own_sta_keep {C n' d : String} (F : Sta Z h C n' d v) (K : Keep h h' []) : Sta Z h' C n' d v := by
  obtain ⟨cf, i, k, f, st, cell, h1, h2, h3, h4, h5, h6, h7⟩ := F
  exact ⟨cf, i, k, f, st, cell, h1, h2, h3, h4, K.2.1 _ _ h5 (fun q => nomatch q), h6, h7⟩
end Arrays
section ASteps
variable {p : Program} {l : Launch} {e : Env} {R : Room} {s : State} {m : MethodId} {args : Array Value} {below : List Frame} {meth : Method} {c : Code} {T : State} {locs : List Loc} {cells slots : Nat} {Z : State} {a0 : Array Value} {h : Heap} {a : Addr} {n k pc : Nat} {f : Nat → Value} {j : Int32} {Ls : Array Slot} {rest : List Value}
theorem a_iload (X : Stand p l e R s m args below meth c T locs cells slots) (hx : p.tables.exec = Jvm.exec) (hZ : Z.Warmed39 s.vm) (eT : T.heap = h) (A : AV Z h a .int n f) (hj : j.toInt = (k : Int)) (hk : k < n) {x : Int32} (hv : f k = .int x) (hd : decode c.code pc = .ok (.iaload, 1)) :
    ∀ t, Steps p.tables e below (T.setTop (mkF m (pc + 1) Ls (.int x :: rest))) t → Steps p.tables e below (T.setTop (mkF m pc Ls (.int j :: .ref a :: rest))) t := by
  obtain ⟨cl, A, hin, hat⟩ := A.at hj hk
  rw [hv] at hat
  exact X.iaload hx (j := j) (v := .int x) (by rw [eT]; exact A.1) (State.isArrayOf_alike hZ.alike A.2.1) A.2.2 hin hat (g := mkF m pc Ls (.int j :: .ref a :: rest)) rfl rfl hd
theorem a_cload (X : Stand p l e R s m args below meth c T locs cells slots) (hx : p.tables.exec = Jvm.exec) (hZ : Z.Warmed39 s.vm) (eT : T.heap = h) (A : AV Z h a .char n f) (hj : j.toInt = (k : Int)) (hk : k < n) {x : Int32} (hv : f k = .int x) (hd : decode c.code pc = .ok (.caload, 1)) :
    ∀ t, Steps p.tables e below (T.setTop (mkF m (pc + 1) Ls (.int x :: rest))) t → Steps p.tables e below (T.setTop (mkF m pc Ls (.int j :: .ref a :: rest))) t := by
  obtain ⟨cl, A, hin, hat⟩ := A.at hj hk
  rw [hv] at hat
  exact X.caload hx (j := j) (v := .int x) (by rw [eT]; exact A.1) (State.isArrayOf_alike hZ.alike A.2.1) A.2.2 hin hat (g := mkF m pc Ls (.int j :: .ref a :: rest)) rfl rfl hd
theorem a_bload (X : Stand p l e R s m args below meth c T locs cells slots) (hx : p.tables.exec = Jvm.exec) (hZ : Z.Warmed39 s.vm) (eT : T.heap = h) (A : AV Z h a .byte n f) (hj : j.toInt = (k : Int)) (hk : k < n) {x : Int32} (hv : f k = .int x) (hd : decode c.code pc = .ok (.baload, 1)) :
    ∀ t, Steps p.tables e below (T.setTop (mkF m (pc + 1) Ls (.int x :: rest))) t → Steps p.tables e below (T.setTop (mkF m pc Ls (.int j :: .ref a :: rest))) t := by
  obtain ⟨cl, A, hin, hat⟩ := A.at hj hk
  rw [hv] at hat
  exact X.baloadBytes hx (j := j) (v := .int x) (by rw [eT]; exact A.1) (State.isArrayOf_alike hZ.alike A.2.1) A.2.2 hin hat (g := mkF m pc Ls (.int j :: .ref a :: rest)) rfl rfl hd
theorem a_jload (X : Stand p l e R s m args below meth c T locs cells slots) (hx : p.tables.exec = Jvm.exec) (hZ : Z.Warmed39 s.vm) (eT : T.heap = h) (A : AV Z h a .long n f) (hj : j.toInt = (k : Int)) (hk : k < n) {x : Int64} (hv : f k = .long x) (hd : decode c.code pc = .ok (.laload, 1)) :
    ∀ t, Steps p.tables e below (T.setTop (mkF m (pc + 1) Ls (.long x :: rest))) t → Steps p.tables e below (T.setTop (mkF m pc Ls (.int j :: .ref a :: rest))) t := by
  obtain ⟨cl, A, hin, hat⟩ := A.at hj hk
  rw [hv] at hat
  exact X.laload hx (j := j) (v := .long x) (by rw [eT]; exact A.1) (State.isArrayOf_alike hZ.alike A.2.1) A.2.2 hin hat (g := mkF m pc Ls (.int j :: .ref a :: rest)) rfl rfl hd
theorem a_rload {ty : FieldType} (X : Stand p l e R s m args below meth c T locs cells slots) (hx : p.tables.exec = Jvm.exec) (hZ : Z.Warmed39 s.vm) (eT : T.heap = h) (A : AV Z h a ty n f) (ht : ty.isReference = true) (hj : j.toInt = (k : Int)) (hk : k < n) {v : Value} (hv : f k = v) (hd : decode c.code pc = .ok (.aaload, 1)) :
    ∀ t, Steps p.tables e below (T.setTop (mkF m (pc + 1) Ls (v :: rest))) t → Steps p.tables e below (T.setTop (mkF m pc Ls (.int j :: .ref a :: rest))) t := by
  obtain ⟨cl, A, hin, hat⟩ := A.at hj hk
  rw [hv] at hat
  exact X.aaload hx (j := j) (v := v) (by rw [eT]; exact A.1) (State.isArrayOf_alike hZ.alike A.2.1) ht A.2.2 hin hat (g := mkF m pc Ls (.int j :: .ref a :: rest)) rfl rfl hd
theorem a_len {ty : FieldType} (X : Stand p l e R s m args below meth c T locs cells slots) (hx : p.tables.exec = Jvm.exec) (hZ : Z.Warmed39 s.vm) (eT : T.heap = h) (A : AV Z h a ty n f) {z : Int32} (hz : z.toInt = (n : Int)) (hd : decode c.code pc = .ok (.arraylength, 1)) :
    ∀ t, Steps p.tables e below (T.setTop (mkF m (pc + 1) Ls (.int z :: rest))) t → Steps p.tables e below (T.setTop (mkF m pc Ls (.ref a :: rest))) t := by
  obtain ⟨cl, A, hin⟩ := A.len
  have hb := Int32.toInt_lt z
  have q : cl.slots.size.toInt32 = z := by rw [hin]; exact Int32.toInt_inj.mp (by rw [hz]; exact Int32.toInt_ofNat_of_lt (by omega))
  intro t k
  refine X.arraylength hx (by rw [eT]; exact A.1) (State.isArrayOf_alike hZ.alike A.2.1) (g := mkF m pc Ls (.ref a :: rest)) rfl rfl hd _ ?_
  rw [q]; exact k
end ASteps
theorem own_nar (x : Int32) : nar .byte (nar .byte x) = nar .byte x := by
  show x.toInt8.toInt32.toInt8.toInt32 = x.toInt8.toInt32
  rw [Int8.toInt8_toInt32]
theorem own_fitB {x : Int32} (h : nar .byte x = x) : fits .byte (.int x) = true := by
  have q := fits_nar_byte x
  rw [show x.toInt8.toInt32 = x from h] at q
  exact q
theorem own_lt (i n : Nat) (h : i < 2147483648) (hn : n < 2147483648) : (Int32.ofNat i < Int32.ofNat n) ↔ i < n := by
  rw [Int32.lt_iff_toInt_lt, Int32.toInt_ofNat_of_lt (by omega), Int32.toInt_ofNat_of_lt (by omega)]; omega
theorem own_eq (i n : Nat) (h : i < 2147483648) (hn : n < 2147483648) : (Int32.ofNat i = Int32.ofNat n) ↔ i = n := by
  rw [← Int32.toInt_inj, Int32.toInt_ofNat_of_lt (by omega), Int32.toInt_ofNat_of_lt (by omega)]; omega
theorem own_add (i : Nat) : Int32.ofNat i + (1 : Int32) = Int32.ofNat (i + 1) := by rw [Int32.ofNat_add]; rfl
theorem own_n (x : Int32) : ∃ n : Nat, n ≤ 4 ∧ ((x &&& (2147483647 : Int32)) % (5 : Int32)) = Int32.ofNat n := by
  have h1 := c_mask x 2147483647 31 (by decide) (by decide)
  have h2 := (c_irem (x &&& 2147483647) 5 5 (by decide)).1
  refine ⟨((x &&& 2147483647) % 5).toInt.toNat, by omega, Int32.toInt_inj.mp ?_⟩
  rw [Int32.toInt_ofNat_of_lt (by omega)]; omega
theorem own_lt0 (t : Nat) (h : t ≤ 4) : (Int32.ofNat t - (1 : Int32) < (0 : Int32)) ↔ t = 0 := by
  have key : ∀ t : Fin 5, (Int32.ofNat t.1 - (1 : Int32) < (0 : Int32)) ↔ t.1 = 0 := by decide +kernel
  exact key ⟨t, by omega⟩
theorem own_nn (n : Nat) (h : n ≤ 4) : ¬ Int32.ofNat n < 0 := by
  have key : ∀ t : Fin 5, ¬ Int32.ofNat t.1 < 0 := by decide +kernel
  exact key ⟨n, by omega⟩
theorem own_pred (t : Nat) : Int32.ofNat (t + 1) - (1 : Int32) = Int32.ofNat t := by
  rw [Int32.ofNat_add]; show Int32.ofNat t + 1 - 1 = _; exact Int32.add_sub_cancel _ _
theorem own_step (t : Nat) : Int32.ofNat t + (-1 : Int32) = Int32.ofNat t - (1 : Int32) := by rw [Int32.sub_eq_add_neg]
abbrev mn (a b : Int32) : Int32 := if b < a then b else a
theorem own_min (a b : Nat) (ha : a < 2147483648) (hb : b < 2147483648) : mn (Int32.ofNat a) (Int32.ofNat b) = Int32.ofNat (min a b) := by
  have h := own_lt b a hb ha
  unfold mn
  by_cases q : b < a
  · rw [if_pos (h.mpr q), Nat.min_eq_right (by omega)]
  · rw [if_neg (mt h.mp q), Nat.min_eq_left (by omega)]
abbrev inc (x : Int32) : Int32 := (x + (1 : Int32)).toInt8.toInt32
abbrev rF (g : Nat → Int32) (t : Nat) : Nat → Value := fun i => if i = t then .int (inc (g t)) else .int (g i)
def LastIs (g : Nat → Int32) (n k : Nat) (z : Int32) : Prop := (z = -1 ∧ ∀ i, i < k → i < n → g i = -1) ∨ ∃ i, i < k ∧ i < n ∧ ¬ g i = -1 ∧ (∀ j, i < j → j < k → j < n → g j = -1) ∧ z = Int32.ofNat i
theorem LastIs.keep {g : Nat → Int32} {n k : Nat} {z : Int32} (h : LastIs g n k z) (q : k < n → g k = -1) : LastIs g n (k + 1) z := by
  rcases h with ⟨h1, h2⟩ | ⟨i, h1, h2, h3, h4, h5⟩
  · refine Or.inl ⟨h1, fun i hi hn => ?_⟩
    by_cases e : i = k
    · subst e; exact q hn
    · exact h2 i (by omega) hn
  · refine Or.inr ⟨i, by omega, h2, h3, fun j hj hk hn => ?_, h5⟩
    by_cases e : j = k
    · subst e; exact q hn
    · exact h4 j hj (by omega) hn
theorem LastIs.turn {g : Nat → Int32} {n k : Nat} (h : k < n) (q : ¬ g k = -1) : LastIs g n (k + 1) (Int32.ofNat k) := Or.inr ⟨k, by omega, h, q, fun j h1 h2 => by omega, rfl⟩
theorem LastIs.none {g : Nat → Int32} {n : Nat} {z : Int32} (h : LastIs g n 4 z) (hn : n ≤ 4) (q : ∀ i, i < n → g i = -1) : z = -1 := by
  rcases h with ⟨h1, -⟩ | ⟨i, h1, h2, h3, h4, h5⟩
  · exact h1
  · exact absurd (q i h2) h3
theorem LastIs.some {g : Nat → Int32} {n t : Nat} {z : Int32} (h : LastIs g n 4 z) (hn : n ≤ 4) (ht : t < n) (q : ¬ g t = -1) (q2 : ∀ j, t < j → j < n → g j = -1) : z = Int32.ofNat t := by
  rcases h with ⟨-, h2⟩ | ⟨i, h1, h2, h3, h4, h5⟩
  · exact absurd (h2 t (by omega) ht) q
  · have e : i = t := by
      rcases Nat.lt_trichotomy i t with r | r | r
      · exact absurd (h4 t r (by omega) ht) q
      · exact r
      · exact absurd (q2 i r h2) h3
    rw [h5, e]
theorem own_arv {Z : State} {h : Heap} {a : Addr} {ty : FieldType} {n : Nat} {f : Nat → Value} {z : Int32} (d : Value) (A : AV Z h a ty n f) (hz : z.toInt = (n : Int)) (hf : ∀ i, i < n → fits ty (f i) = true) : ∃ k, Arv Z h a k ty z ((List.range n).map f) d := by
  obtain ⟨c, A, r1, r2, r3⟩ := A
  have key : ∀ i, i < n → ((List.range n).map f).getD i d = f i := fun i hi => by simp [List.getD_eq_getElem?_getD, hi]
  refine ⟨c.cls, c, A, rfl, by rw [r1, clamp_of hz], ?_, fun i hi => ?_, fun i hi => ?_⟩
  · rw [Int32.lt_iff_toInt_lt, hz]; simp only [Int32.reduceToInt]; omega
  · rw [r1] at hi; rw [key i hi]; exact r3 i hi
  · rw [r1] at hi; rw [key i hi]; exact hf i hi
theorem own_back {Z : State} {h : Heap} {a : Addr} {k : ClassId} {ty : FieldType} {n : Nat} {vs : List Value} {d : Value} {z : Int32} (A : Arv Z h a k ty z vs d) (hz : z.toInt = (n : Int)) : AV Z h a ty n (fun i => vs.getD i d) := by
  obtain ⟨c, A, -, S, -, H, -⟩ := A
  have q := clamp_of hz
  have hb := Int32.toInt_lt z
  refine ⟨c, A, by rw [S, q], by omega, fun i hi => H i (by rw [S, q]; exact hi)⟩
theorem ef_rmDr (m : MethodId) (x0 : Int32) : entryFrame m #[(.int x0)] 1 = mkF m 0 #[.val (.int x0)] [] := by first | (simp [entryFrame, mkF, argsToLocals, Value.category]; done) | rfl
theorem pn_0 : plainName "com/example/sharks/sharks/engine/KeyRangeFollowingPinLaw" = true := by first | (simp [plainName, overriddenIn]; done) | decide +kernel
theorem d1_0 : decode method_2_code 0 = .ok (.iload_n 0, 1) := by decide +kernel
theorem d1_1 : decode method_2_code 1 = .ok (.bipush 8, 2) := by decide +kernel
theorem d1_3 : decode method_2_code 3 = .ok (.ishr, 1) := by decide +kernel
theorem d1_4 : decode method_2_code 4 = .ok (.iconst 1, 1) := by decide +kernel
theorem d1_5 : decode method_2_code 5 = .ok (.iand, 1) := by decide +kernel
theorem d1_6 : decode method_2_code 6 = .ok (.ifCond .eq 5, 3) := by decide +kernel
theorem d1_11 : decode method_2_code 11 = .ok (.iload_n 0, 1) := by decide +kernel
theorem d1_12 : decode method_2_code 12 = .ok (.i2b, 1) := by decide +kernel
theorem d1_13 : decode method_2_code 13 = .ok (.ireturn, 1) := by decide +kernel
theorem d1_9 : decode method_2_code 9 = .ok (.iconst (-1), 1) := by decide +kernel
theorem d1_10 : decode method_2_code 10 = .ok (.ireturn, 1) := by decide +kernel
set_option maxRecDepth 65536 in
set_option maxHeartbeats 40000000 in
theorem rmDr (l : Launch) (Z : State) (a0 : Array Value) (hw : ∀ d ∈ tables_1, d.before a0 Z = true) (ws : List Jvm.Cond) (x : Int32) (h0 : Heap) (n0 : Nat) (Z0 : n0 ≤ h0.size)  :
    Ctr l Z (⟨"com/example/sharks/sharks/engine/KeyRangeFollowingPinLaw", "draw", "(I)B"⟩ : MethodName) method_2_code 1 (some .byte) ws ({ frames := 0, cells := 0, slots := 0, locals := 0 } : Room) 0 0 #[(.int x)] h0 (fun v h L => ∃ z, v = some (.int z) ∧ nar .byte z = z ∧ L = [] ∧ h = h0) := by
  refine Ctr.mk (plainFor_of_name pn_0) fun p e s m below meth c T0 X0 C e0 => go_cast (ef_rmDr m x) ?_
  have N0 := Fr.nil n0
  obtain ⟨hx, hZ, hby, hml, hown, hnm, hret, hlk⟩ := C
  show Go _ _ _ _ _ _ _ T0 (mkF m 0 #[.val (.int x)] [])
  refine Go.step (fun tt kk => XS.iloadN X0.here hx rfl (hb hby d1_0) rfl kk) ?_
  show Go _ _ _ _ _ _ _ T0 (mkF m 1 #[.val (.int x)] [(.int x)])
  refine Go.step (fun tt kk => XS.bipush X0.here hx rfl (hb hby d1_1) kk) ?_
  show Go _ _ _ _ _ _ _ T0 (mkF m 3 #[.val (.int x)] [(.int (8 : Int32)), (.int x)])
  refine Go.step (fun tt kk => XS.ishr X0.here hx rfl (hb hby d1_3) rfl kk) ?_
  show Go _ _ _ _ _ _ _ T0 (mkF m 4 #[.val (.int x)] [(.int (x >>> ((8 : Int32) &&& 31)))])
  refine Go.step (fun tt kk => XS.iconst X0.here hx rfl (hb hby d1_4) kk) ?_
  show Go _ _ _ _ _ _ _ T0 (mkF m 5 #[.val (.int x)] [(.int (1 : Int32)), (.int (x >>> ((8 : Int32) &&& 31)))])
  refine Go.step (fun tt kk => XS.iand X0.here hx rfl (hb hby d1_5) rfl kk) ?_
  show Go _ _ _ _ _ _ _ T0 (mkF m 6 #[.val (.int x)] [(.int ((x >>> ((8 : Int32) &&& 31)) &&& (1 : Int32)))])
  by_cases c6_1 : ((x >>> ((8 : Int32) &&& 31)) &&& (1 : Int32)) = (0 : Int32)
  · refine Go.step (fun tt kk => XS.ifYes X0.here hx rfl (pc0 := 6) (pc' := 11) rfl (hb hby d1_6) rfl ((if0 _ _).trans (teq c6_1).1) (by decide) (by decide) kk) ?_
    show Go _ _ _ _ _ _ _ T0 (mkF m 11 #[.val (.int x)] [])
    refine Go.step (fun tt kk => XS.iloadN X0.here hx rfl (hb hby d1_11) rfl kk) ?_
    show Go _ _ _ _ _ _ _ T0 (mkF m 12 #[.val (.int x)] [(.int x)])
    refine Go.step (fun tt kk => XS.i2b X0.here hx rfl (hb hby d1_12) rfl kk) ?_
    show Go _ _ _ _ _ _ _ T0 (mkF m 13 #[.val (.int x)] [(.int (x.toInt8.toInt32))])
    refine go_retN X0 hx (t := .byte) hret (by simp) hlk (hb hby d1_13) (w := (nar .byte (x.toInt8.toInt32))) rfl ?_ (by decide) (by decide)
    try rw [e0]
    exact ⟨_, rfl, own_nar _, rfl, rfl⟩
  · refine Go.step (fun tt kk => XS.ifNo X0.here hx rfl (hb hby d1_6) rfl ((if0 _ _).trans (feq c6_1).1) kk) ?_
    show Go _ _ _ _ _ _ _ T0 (mkF m 9 #[.val (.int x)] [])
    refine Go.step (fun tt kk => XS.iconst X0.here hx rfl (hb hby d1_9) kk) ?_
    show Go _ _ _ _ _ _ _ T0 (mkF m 10 #[.val (.int x)] [(.int (-1 : Int32))])
    refine go_retN X0 hx (t := .byte) hret (by simp) hlk (hb hby d1_10) (w := (nar .byte (-1 : Int32))) rfl ?_ (by decide) (by decide)
    try rw [e0]
    exact ⟨_, rfl, own_nar _, rfl, rfl⟩
theorem ef_rmMin (m : MethodId) (x0 : Int32) (x1 : Int32) : entryFrame m #[(.int x0), (.int x1)] 2 = mkF m 0 #[.val (.int x0), .val (.int x1)] [] := by first | (simp [entryFrame, mkF, argsToLocals, Value.category]; done) | rfl
theorem pf_5 : plainFor (⟨"java/lang/Math", "min", "(II)I"⟩ : MethodName) = true := by decide +kernel
theorem d5_0 : decode jdk_29_method_69_code 0 = .ok (.iload_n 0, 1) := by decide +kernel
theorem d5_1 : decode jdk_29_method_69_code 1 = .ok (.iload_n 1, 1) := by decide +kernel
theorem d5_2 : decode jdk_29_method_69_code 2 = .ok (.if_icmp .gt 7, 3) := by decide +kernel
theorem d5_9 : decode jdk_29_method_69_code 9 = .ok (.iload_n 1, 1) := by decide +kernel
theorem d5_10 : decode jdk_29_method_69_code 10 = .ok (.ireturn, 1) := by decide +kernel
theorem d5_5 : decode jdk_29_method_69_code 5 = .ok (.iload_n 0, 1) := by decide +kernel
theorem d5_6 : decode jdk_29_method_69_code 6 = .ok (.goto 4, 3) := by decide +kernel
set_option maxRecDepth 65536 in
set_option maxHeartbeats 40000000 in
theorem rmMin (l : Launch) (Z : State) (a0 : Array Value) (hw : ∀ d ∈ tables_1, d.before a0 Z = true) (ws : List Jvm.Cond) (x y : Int32) (h0 : Heap) (n0 : Nat) (Z0 : n0 ≤ h0.size)  :
    Ctr l Z (⟨"java/lang/Math", "min", "(II)I"⟩ : MethodName) jdk_29_method_69_code 2 (some .int) ws ({ frames := 0, cells := 0, slots := 0, locals := 0 } : Room) 0 0 #[(.int x), (.int y)] h0 (fun v h L => v = some (.int (mn x y)) ∧ L = [] ∧ h = h0) := by
  refine Ctr.mk pf_5 fun p e s m below meth c T0 X0 C e0 => go_cast (ef_rmMin m x y) ?_
  have N0 := Fr.nil n0
  obtain ⟨hx, hZ, hby, hml, hown, hnm, hret, hlk⟩ := C
  show Go _ _ _ _ _ _ _ T0 (mkF m 0 #[.val (.int x), .val (.int y)] [])
  refine Go.step (fun tt kk => XS.iloadN X0.here hx rfl (hb hby d5_0) rfl kk) ?_
  show Go _ _ _ _ _ _ _ T0 (mkF m 1 #[.val (.int x), .val (.int y)] [(.int x)])
  refine Go.step (fun tt kk => XS.iloadN X0.here hx rfl (hb hby d5_1) rfl kk) ?_
  show Go _ _ _ _ _ _ _ T0 (mkF m 2 #[.val (.int x), .val (.int y)] [(.int y), (.int x)])
  by_cases c2_1 : y < x
  · refine Go.step (fun tt kk => XS.icmpYes X0.here hx rfl (pc0 := 2) (pc' := 9) rfl (hb hby d5_2) rfl (tlt c2_1).2.2.1 (by decide) (by decide) kk) ?_
    show Go _ _ _ _ _ _ _ T0 (mkF m 9 #[.val (.int x), .val (.int y)] [])
    refine Go.step (fun tt kk => XS.iloadN X0.here hx rfl (hb hby d5_9) rfl kk) ?_
    show Go _ _ _ _ _ _ _ T0 (mkF m 10 #[.val (.int x), .val (.int y)] [(.int y)])
    refine go_retI X0 hx hret hlk (hb hby d5_10) ?_ (by decide) (by decide)
    try rw [e0]
    exact ⟨congrArg (fun z => some (Value.int z)) (by simp only [mn, eq_true c2_1, if_true, if_false]), rfl, rfl⟩
  · refine Go.step (fun tt kk => XS.icmpNo X0.here hx rfl (hb hby d5_2) rfl (flt c2_1).2.2.1 kk) ?_
    show Go _ _ _ _ _ _ _ T0 (mkF m 5 #[.val (.int x), .val (.int y)] [])
    refine Go.step (fun tt kk => XS.iloadN X0.here hx rfl (hb hby d5_5) rfl kk) ?_
    show Go _ _ _ _ _ _ _ T0 (mkF m 6 #[.val (.int x), .val (.int y)] [(.int x)])
    refine Go.step (fun tt kk => XS.goto X0.here hx rfl (pc0 := 6) (pc' := 10) rfl (hb hby d5_6) (by decide) (by decide) kk) ?_
    show Go _ _ _ _ _ _ _ T0 (mkF m 10 #[.val (.int x), .val (.int y)] [(.int x)])
    refine go_retI X0 hx hret hlk (hb hby d5_10) ?_ (by decide) (by decide)
    try rw [e0]
    exact ⟨congrArg (fun z => some (Value.int z)) (by simp only [mn, eq_false c2_1, if_true, if_false]), rfl, rfl⟩
theorem ef_rmCp (m : MethodId) (x0 : Addr) (x1 : Int32) : entryFrame m #[(.ref x0), (.int x1)] 3 = mkF m 0 #[.val (.ref x0), .val (.int x1), .unset] [] := by first | (simp [entryFrame, mkF, argsToLocals, Value.category]; done) | rfl
theorem pn_1 : plainName "java/util/Arrays" = true := by first | (simp [plainName, overriddenIn]; done) | decide +kernel
theorem d3_0 : decode jdk_65_method_121_code 0 = .ok (.iload_n 1, 1) := by decide +kernel
theorem d3_1 : decode jdk_65_method_121_code 1 = .ok (.aload_n 0, 1) := by decide +kernel
theorem d3_2 : decode jdk_65_method_121_code 2 = .ok (.arraylength, 1) := by decide +kernel
theorem d3_3 : decode jdk_65_method_121_code 3 = .ok (.if_icmp .ne 11, 3) := by decide +kernel
theorem d3_6 : decode jdk_65_method_121_code 6 = .ok (.aload_n 0, 1) := by decide +kernel
theorem d3_7 : decode jdk_65_method_121_code 7 = .ok (.invokevirtual 310, 3) := by decide +kernel
theorem d3_10 : decode jdk_65_method_121_code 10 = .ok (.checkcast 311, 3) := by decide +kernel
theorem d3_13 : decode jdk_65_method_121_code 13 = .ok (.areturn, 1) := by decide +kernel
theorem d3_14 : decode jdk_65_method_121_code 14 = .ok (.iload_n 1, 1) := by decide +kernel
theorem d3_15 : decode jdk_65_method_121_code 15 = .ok (.newarray .byte, 2) := by decide +kernel
theorem d3_17 : decode jdk_65_method_121_code 17 = .ok (.astore_n 2, 1) := by decide +kernel
theorem d3_18 : decode jdk_65_method_121_code 18 = .ok (.aload_n 0, 1) := by decide +kernel
theorem d3_19 : decode jdk_65_method_121_code 19 = .ok (.iconst 0, 1) := by decide +kernel
theorem d3_20 : decode jdk_65_method_121_code 20 = .ok (.aload_n 2, 1) := by decide +kernel
theorem d3_21 : decode jdk_65_method_121_code 21 = .ok (.iconst 0, 1) := by decide +kernel
theorem d3_22 : decode jdk_65_method_121_code 22 = .ok (.aload_n 0, 1) := by decide +kernel
theorem d3_23 : decode jdk_65_method_121_code 23 = .ok (.arraylength, 1) := by decide +kernel
theorem d3_24 : decode jdk_65_method_121_code 24 = .ok (.iload_n 1, 1) := by decide +kernel
theorem pd_0 : parseMethodDescriptor "(II)I" = some ⟨[.int, .int], some .int⟩ := by decide +kernel
theorem d3_25 : decode jdk_65_method_121_code 25 = .ok (.invokestatic 304, 3) := by decide +kernel
theorem d3_28 : decode jdk_65_method_121_code 28 = .ok (.invokestatic 150, 3) := by decide +kernel
theorem d3_31 : decode jdk_65_method_121_code 31 = .ok (.aload_n 2, 1) := by decide +kernel
theorem d3_32 : decode jdk_65_method_121_code 32 = .ok (.areturn, 1) := by decide +kernel
set_option maxRecDepth 65536 in
set_option maxHeartbeats 40000000 in
theorem rmCp (l : Launch) (Z : State) (a0 : Array Value) (hw : ∀ d ∈ tables_1, d.before a0 Z = true) (ws : List Jvm.Cond) (k : Addr) (n t : Nat) (f : Nat → Value) (h0 : Heap) (n0 : Nat) (Z0 : n0 ≤ h0.size) (hn : n ≤ 4) (ht : t ≤ n) (V_k : AV Z h0 k .byte n f) (E_k : Exa Z h0 k "[B") (hfit : ∀ i, i < n → fits .byte (f i) = true) :
    Ctr l Z (⟨"java/util/Arrays", "copyOf", "([BI)[B"⟩ : MethodName) jdk_65_method_121_code 3 (some (.array .byte)) ws ({ frames := 1, cells := 1, slots := 4, locals := 18 } : Room) 1 4 #[(.ref k), (.int (Int32.ofNat t))] h0 (fun v h L => ∃ b, v = some (.ref b) ∧ Fr n0 L ∧ Keep h0 h [] ∧ h0.size ≤ b ∧ AV Z h b .byte t f) := by
  refine Ctr.mk (plainFor_of_name pn_1) fun p e s m below meth c T0 X0 C e0 => go_cast (ef_rmCp m k (Int32.ofNat t)) ?_
  have N0 := Fr.nil n0
  obtain ⟨hx, hZ, hby, hml, hown, hnm, hret, hlk⟩ := C
  obtain ⟨hI, eI⟩ : ∃ z, z = h0 := ⟨_, rfl⟩
  have K0 : Keep hI h0 [] := by rw [eI]; exact Keep.refl _ _
  show Go _ _ _ _ _ _ _ T0 (mkF m 0 #[.val (.ref k), .val (.int (Int32.ofNat t)), .unset] [])
  refine Go.step (fun tt kk => XS.iloadN X0.here hx rfl (hb hby d3_0) rfl kk) ?_
  show Go _ _ _ _ _ _ _ T0 (mkF m 1 #[.val (.ref k), .val (.int (Int32.ofNat t)), .unset] [(.int (Int32.ofNat t))])
  refine Go.step (fun tt kk => XS.aloadN X0.here hx rfl (hb hby d3_1) rfl rfl kk) ?_
  show Go _ _ _ _ _ _ _ T0 (mkF m 2 #[.val (.ref k), .val (.int (Int32.ofNat t)), .unset] [(.ref k), (.int (Int32.ofNat t))])
  refine Go.step (a_len X0 hx hZ e0 V_k (z := (Int32.ofNat n)) (Int32.toInt_ofNat_of_lt (by omega)) (hb hby d3_2)) ?_
  show Go _ _ _ _ _ _ _ T0 (mkF m 3 #[.val (.ref k), .val (.int (Int32.ofNat t)), .unset] [(.int (Int32.ofNat n)), (.int (Int32.ofNat t))])
  by_cases c3_1 : (Int32.ofNat t) = (Int32.ofNat n)
  · refine Go.step (fun tt kk => XS.icmpNo X0.here hx rfl (hb hby d3_3) rfl (teq c3_1).2 kk) ?_
    show Go _ _ _ _ _ _ _ T0 (mkF m 6 #[.val (.ref k), .val (.int (Int32.ofNat t)), .unset] [])
    refine Go.step (fun tt kk => XS.aloadN X0.here hx rfl (hb hby d3_6) rfl rfl kk) ?_
    show Go _ _ _ _ _ _ _ T0 (mkF m 7 #[.val (.ref k), .val (.int (Int32.ofNat t)), .unset] [(.ref k)])
    have htn : t = n := (own_eq t n (by omega) (by omega)).mp c3_1
    obtain ⟨cl2, Ar2, S2, -, H2⟩ := (show AV _ _ _ _ _ _ from V_k)
    have FC2 : FitC Z cl2 := fitC_of Ar2 fun i hi v hv => by rw [H2 i (by rw [← S2]; exact hi)] at hv; cases hv; exact hfit i (by rw [← S2]; exact hi)
    obtain ⟨T2, h2, X2, e2, E2, A2, EA2, st2⟩ := cloneA X0 hx hZ hown (hw _ (List.mem_of_getElem? (i := 14) rfl)) (hw _ (List.mem_of_getElem? (i := 15) rfl)) (hw _ (List.mem_of_getElem? (i := 19) rfl)) (hw _ (List.mem_of_getElem? (i := 17) rfl)) (hw _ (List.mem_of_getElem? (i := 18) rfl)) (hw _ (List.mem_of_getElem? (i := 20) rfl)) e0 Ar2 E_k FC2 (g := (mkF m 7 #[.val (.ref k), .val (.int (Int32.ofNat t)), .unset] [(.ref k)])) rfl (by rw [hml]; rfl) rfl (hb hby d3_7) (by decide) (W := 0) (by show 2 * 0 + _ ≤ _; exact Nat.le_of_eq rfl) (by decide) (cap := 4) (by rw [S2]; exact hn) (by decide) (by decide)
    obtain ⟨b2, g2⟩ : ∃ z, z = h0.size := ⟨_, rfl⟩
    rw [← g2] at A2 EA2 st2
    have ne_k_b2 : k ≠ b2 := Nat.ne_of_lt (Nat.lt_of_lt_of_le V_k.lt (Nat.le_of_eq g2.symm))
    have gn_b2 : n0 ≤ b2 := Nat.le_trans Z0 (Nat.le_of_eq g2.symm)
    have sz_b2 : hI.size ≤ b2 := Nat.le_trans K0.1 (Nat.le_of_eq g2.symm)
    have Z2 : n0 ≤ h2.size := Nat.le_trans Z0 E2.1
    have K2 : Keep hI h2 [] := K0.ext E2
    have V2 : AV Z h2 b2 .byte t f := ⟨_, A2, by rw [htn]; exact S2, by omega, fun i hi => H2 i (by omega)⟩
    refine Go.step (st2) ?_
    show Go _ _ _ _ _ _ _ T2 (mkF m 10 #[.val (.ref k), .val (.int (Int32.ofNat t)), .unset] [(.ref b2)])
    obtain ⟨T3, X3, e3, st3⟩ := castY X2 hx hZ hown (hw _ (List.mem_of_getElem? (i := 21) rfl)) e2 (Ins.self EA2) (g := (mkF m 10 #[.val (.ref k), .val (.int (Int32.ofNat t)), .unset] [(.ref b2)])) rfl rfl (hb hby d3_10)
    refine Go.step (st3) ?_
    show Go _ _ _ _ _ _ _ T3 (mkF m 13 #[.val (.ref k), .val (.int (Int32.ofNat t)), .unset] [(.ref b2)])
    refine go_retA X3 hx (t := (.array .byte)) hret rfl hlk rfl (hb hby d3_13) ?_ (by decide) (by decide)
    try rw [e3]
    exact ⟨b2, rfl, N0, eI ▸ K2, eI ▸ sz_b2, V2⟩
  · refine Go.step (fun tt kk => XS.icmpYes X0.here hx rfl (pc0 := 3) (pc' := 14) rfl (hb hby d3_3) rfl (feq c3_1).2 (by decide) (by decide) kk) ?_
    show Go _ _ _ _ _ _ _ T0 (mkF m 14 #[.val (.ref k), .val (.int (Int32.ofNat t)), .unset] [])
    refine Go.step (fun tt kk => XS.iloadN X0.here hx rfl (hb hby d3_14) rfl kk) ?_
    show Go _ _ _ _ _ _ _ T0 (mkF m 15 #[.val (.ref k), .val (.int (Int32.ofNat t)), .unset] [(.int (Int32.ofNat t))])
    obtain ⟨T4, h4, k4, X4, e4, E4, A4, EA4, st4⟩ := newPE X0 hx hZ (hw _ (List.mem_of_getElem? (i := 5) rfl)) e0 (g := (mkF m 15 #[.val (.ref k), .val (.int (Int32.ofNat t)), .unset] [(.int (Int32.ofNat t))])) rfl (hb hby d3_15) rfl (own_nn t (by omega)) (cap := 4) (by rw [clamp_of (k := t) (Int32.toInt_ofNat_of_lt (by omega))]; omega) (by decide) (by decide) (by decide) (ad := "[B") rfl
    obtain ⟨b4, g4⟩ : ∃ z, z = h0.size := ⟨_, rfl⟩
    rw [← g4] at A4 EA4 st4
    have ne_k_b4 : k ≠ b4 := Nat.ne_of_lt (Nat.lt_of_lt_of_le V_k.lt (Nat.le_of_eq g4.symm))
    have gn_b4 : n0 ≤ b4 := Nat.le_trans Z0 (Nat.le_of_eq g4.symm)
    have sz_b4 : hI.size ≤ b4 := Nat.le_trans K0.1 (Nat.le_of_eq g4.symm)
    have Z4 : n0 ≤ h4.size := Nat.le_trans Z0 E4.1
    have K4 : Keep hI h4 [] := K0.ext E4
    have V4 : AV Z h4 b4 .byte t (fun _ => (.int (0 : Int32))) := AV.new A4 (Int32.toInt_ofNat_of_lt (by omega))
    refine Go.step (st4) ?_
    show Go _ _ _ _ _ _ _ T4 (mkF m 17 #[.val (.ref k), .val (.int (Int32.ofNat t)), .unset] [(.ref b4)])
    refine Go.step (fun tt kk => XS.astoreN X4.here hx rfl (hb hby d3_17) rfl rfl (l' := #[.val (.ref k), .val (.int (Int32.ofNat t)), .val (.ref b4)]) rfl kk) ?_
    show Go _ _ _ _ _ _ _ T4 (mkF m 18 #[.val (.ref k), .val (.int (Int32.ofNat t)), .val (.ref b4)] [])
    refine Go.step (fun tt kk => XS.aloadN X4.here hx rfl (hb hby d3_18) rfl rfl kk) ?_
    show Go _ _ _ _ _ _ _ T4 (mkF m 19 #[.val (.ref k), .val (.int (Int32.ofNat t)), .val (.ref b4)] [(.ref k)])
    refine Go.step (fun tt kk => XS.iconst X4.here hx rfl (hb hby d3_19) kk) ?_
    show Go _ _ _ _ _ _ _ T4 (mkF m 20 #[.val (.ref k), .val (.int (Int32.ofNat t)), .val (.ref b4)] [(.int (0 : Int32)), (.ref k)])
    refine Go.step (fun tt kk => XS.aloadN X4.here hx rfl (hb hby d3_20) rfl rfl kk) ?_
    show Go _ _ _ _ _ _ _ T4 (mkF m 21 #[.val (.ref k), .val (.int (Int32.ofNat t)), .val (.ref b4)] [(.ref b4), (.int (0 : Int32)), (.ref k)])
    refine Go.step (fun tt kk => XS.iconst X4.here hx rfl (hb hby d3_21) kk) ?_
    show Go _ _ _ _ _ _ _ T4 (mkF m 22 #[.val (.ref k), .val (.int (Int32.ofNat t)), .val (.ref b4)] [(.int (0 : Int32)), (.ref b4), (.int (0 : Int32)), (.ref k)])
    refine Go.step (fun tt kk => XS.aloadN X4.here hx rfl (hb hby d3_22) rfl rfl kk) ?_
    show Go _ _ _ _ _ _ _ T4 (mkF m 23 #[.val (.ref k), .val (.int (Int32.ofNat t)), .val (.ref b4)] [(.ref k), (.int (0 : Int32)), (.ref b4), (.int (0 : Int32)), (.ref k)])
    have f5 := (V_k.ext E4)
    refine Go.step (a_len X4 hx hZ e4 f5 (z := (Int32.ofNat n)) (Int32.toInt_ofNat_of_lt (by omega)) (hb hby d3_23)) ?_
    show Go _ _ _ _ _ _ _ T4 (mkF m 24 #[.val (.ref k), .val (.int (Int32.ofNat t)), .val (.ref b4)] [(.int (Int32.ofNat n)), (.int (0 : Int32)), (.ref b4), (.int (0 : Int32)), (.ref k)])
    refine Go.step (fun tt kk => XS.iloadN X4.here hx rfl (hb hby d3_24) rfl kk) ?_
    show Go _ _ _ _ _ _ _ T4 (mkF m 25 #[.val (.ref k), .val (.int (Int32.ofNat t)), .val (.ref b4)] [(.int (Int32.ofNat t)), (.int (Int32.ofNat n)), (.int (0 : Int32)), (.ref b4), (.int (0 : Int32)), (.ref k)])
    obtain ⟨v6, T6, L6, X6, q6, st6⟩ := c_static X4 hx hZ hown (y := (⟨"java/lang/Math", "min", "(II)I"⟩ : MethodName)) (hw _ (List.mem_of_getElem? (i := 26) rfl)) (hw _ (List.mem_of_getElem? (i := 27) rfl)) (hw _ (List.mem_of_getElem? (i := 28) rfl)) (hw _ (List.mem_of_getElem? (i := 29) rfl)) (by decide) (argsL := [(.int (Int32.ofNat n)), (.int (Int32.ofNat t))]) (rest := [(.int (0 : Int32)), (.ref b4), (.int (0 : Int32)), (.ref k)]) (rmMin l Z a0 hw [] (Int32.ofNat n) (Int32.ofNat t)  h4 n0 Z4 ) e4 pd_0 rfl (by rw [hml]; rfl) (W := 4) (by show 2 * 0 + _ ≤ _; exact Nat.le_of_eq rfl) (by decide) (by decide) (by decide) (by decide) (hb hby d3_25) (Ls := #[.val (.ref k), .val (.int (Int32.ofNat t)), .val (.ref b4)])
    obtain ⟨rfl, rfl, e6⟩ := q6
    have N6 := Fr.app N0 (Fr.nil n0)
    refine Go.step (st6) ?_
    show Go _ _ _ _ _ _ _ T6 (mkF m 28 #[.val (.ref k), .val (.int (Int32.ofNat t)), .val (.ref b4)] [(.int (mn (Int32.ofNat n) (Int32.ofNat t))), (.int (0 : Int32)), (.ref b4), (.int (0 : Int32)), (.ref k)])
    rw [own_min _ _ (by omega) (by omega), Nat.min_eq_right ht]
    show Go _ _ _ _ _ _ _ T6 (mkF m 28 #[.val (.ref k), .val (.int (Int32.ofNat t)), .val (.ref b4)] [(.int (Int32.ofNat t)), (.int (0 : Int32)), (.ref b4), (.int (0 : Int32)), (.ref k)])
    obtain ⟨ka7, Aa7⟩ := own_arv (.int 0) f5 (z := Int32.ofNat n) (Int32.toInt_ofNat_of_lt (by omega)) hfit
    obtain ⟨kb7, Ab7⟩ := own_arv (.int 0) V4 (z := Int32.ofNat t) (Int32.toInt_ofNat_of_lt (by omega)) (fun i hi => rfl)
    obtain ⟨T7, h7, L7, X7, e7, N7, K7q, V7, st7⟩ := cpA X6 hx hZ hown (hw _ (List.mem_of_getElem? (i := 30) rfl)) (hw _ (List.mem_of_getElem? (i := 33) rfl)) (hw _ (List.mem_of_getElem? (i := 31) rfl)) (hw _ (List.mem_of_getElem? (i := 32) rfl)) e6 Aa7 Ab7 (sp := 0) (dp := 0) (nn := Int32.ofNat t) (Or.inl ⟨rfl, rfl⟩) (by decide) (by decide) (own_nn t (by omega)) (by rw [clamp_of (k := t) (Int32.toInt_ofNat_of_lt (by omega)), clamp_of (k := n) (Int32.toInt_ofNat_of_lt (by omega))]; show 0 + t ≤ n; omega) (by rw [clamp_of (k := t) (Int32.toInt_ofNat_of_lt (by omega))]; show 0 + t ≤ t; omega) rfl (by rw [clamp_of (k := t) (Int32.toInt_ofNat_of_lt (by omega))]; show 0 + t ≤ _; simp) N6 gn_b4 (g := (mkF m 28 #[.val (.ref k), .val (.int (Int32.ofNat t)), .val (.ref b4)] [(.int (Int32.ofNat t)), (.int (0 : Int32)), (.ref b4), (.int (0 : Int32)), (.ref k)])) rfl (by rw [hml]; rfl) rfl (hb hby d3_28) (by decide) (W := 0) (by show 2 * 0 + _ ≤ _; exact Nat.le_of_eq rfl) (by decide)
    have Z7 : n0 ≤ h7.size := Nat.le_trans Z4 K7q.1
    have K7 : Keep hI h7 [] := K4.trans K7q (allS (Or.inr sz_b4) all0)
    have U7 : AV Z h7 b4 .byte t f := (own_back V7 (n := t) (Int32.toInt_ofNat_of_lt (by omega))).congr fun i hi => by
      rw [clamp_of (k := t) (Int32.toInt_ofNat_of_lt (by omega))]
      simp [List.getD_eq_getElem?_getD, hi, show i < n by omega]
    refine Go.step (st7) ?_
    show Go _ _ _ _ _ _ _ T7 (mkF m 31 #[.val (.ref k), .val (.int (Int32.ofNat t)), .val (.ref b4)] [])
    refine Go.step (fun tt kk => XS.aloadN X7.here hx rfl (hb hby d3_31) rfl rfl kk) ?_
    show Go _ _ _ _ _ _ _ T7 (mkF m 32 #[.val (.ref k), .val (.int (Int32.ofNat t)), .val (.ref b4)] [(.ref b4)])
    refine go_retA X7 hx (t := (.array .byte)) hret rfl hlk rfl (hb hby d3_32) ?_ (by decide) (by decide)
    try rw [e7]
    exact ⟨b4, rfl, N7, eI ▸ K7, eI ▸ sz_b4, U7⟩
theorem ef_rmFo (m : MethodId) (x0 : Addr) : entryFrame m #[(.ref x0)] 3 = mkF m 0 #[.val (.ref x0), .unset, .unset] [] := by first | (simp [entryFrame, mkF, argsToLocals, Value.category]; done) | rfl
theorem pn_2 : plainName "com/example/sharks/sharks/engine/KeyRange" = true := by first | (simp [plainName, overriddenIn]; done) | decide +kernel
theorem d2_0 : decode prog_13_method_3_code 0 = .ok (.aload_n 0, 1) := by decide +kernel
theorem d2_1 : decode prog_13_method_3_code 1 = .ok (.arraylength, 1) := by decide +kernel
theorem d2_2 : decode prog_13_method_3_code 2 = .ok (.iconst 1, 1) := by decide +kernel
theorem d2_3 : decode prog_13_method_3_code 3 = .ok (.isub, 1) := by decide +kernel
theorem d2_4 : decode prog_13_method_3_code 4 = .ok (.istore_n 1, 1) := by decide +kernel
theorem d2_5 : decode prog_13_method_3_code 5 = .ok (.iload_n 1, 1) := by decide +kernel
theorem d2_6 : decode prog_13_method_3_code 6 = .ok (.ifCond .lt 34, 3) := by decide +kernel
theorem d2_40 : decode prog_13_method_3_code 40 = .ok (.aconst_null, 1) := by decide +kernel
theorem d2_41 : decode prog_13_method_3_code 41 = .ok (.areturn, 1) := by decide +kernel
theorem d2_9 : decode prog_13_method_3_code 9 = .ok (.aload_n 0, 1) := by decide +kernel
theorem d2_10 : decode prog_13_method_3_code 10 = .ok (.iload_n 1, 1) := by decide +kernel
theorem d2_11 : decode prog_13_method_3_code 11 = .ok (.baload, 1) := by decide +kernel
theorem d2_12 : decode prog_13_method_3_code 12 = .ok (.iconst (-1), 1) := by decide +kernel
theorem d2_13 : decode prog_13_method_3_code 13 = .ok (.if_icmp .eq 21, 3) := by decide +kernel
theorem d2_34 : decode prog_13_method_3_code 34 = .ok (.iinc 1 (-1), 3) := by decide +kernel
theorem d2_37 : decode prog_13_method_3_code 37 = .ok (.goto (-32), 3) := by decide +kernel
theorem d2_16 : decode prog_13_method_3_code 16 = .ok (.aload_n 0, 1) := by decide +kernel
theorem d2_17 : decode prog_13_method_3_code 17 = .ok (.iload_n 1, 1) := by decide +kernel
theorem d2_18 : decode prog_13_method_3_code 18 = .ok (.iconst 1, 1) := by decide +kernel
theorem d2_19 : decode prog_13_method_3_code 19 = .ok (.iadd, 1) := by decide +kernel
theorem pd_1 : parseMethodDescriptor "([BI)[B" = some ⟨[(.array .byte), .int], some (.array .byte)⟩ := by decide +kernel
theorem d2_20 : decode prog_13_method_3_code 20 = .ok (.invokestatic 23, 3) := by decide +kernel
theorem d2_23 : decode prog_13_method_3_code 23 = .ok (.astore_n 2, 1) := by decide +kernel
theorem d2_24 : decode prog_13_method_3_code 24 = .ok (.aload_n 2, 1) := by decide +kernel
theorem d2_25 : decode prog_13_method_3_code 25 = .ok (.iload_n 1, 1) := by decide +kernel
theorem d2_26 : decode prog_13_method_3_code 26 = .ok (.dup2, 1) := by decide +kernel
theorem d2_27 : decode prog_13_method_3_code 27 = .ok (.baload, 1) := by decide +kernel
theorem d2_28 : decode prog_13_method_3_code 28 = .ok (.iconst 1, 1) := by decide +kernel
theorem d2_29 : decode prog_13_method_3_code 29 = .ok (.iadd, 1) := by decide +kernel
theorem d2_30 : decode prog_13_method_3_code 30 = .ok (.i2b, 1) := by decide +kernel
theorem d2_31 : decode prog_13_method_3_code 31 = .ok (.bastore, 1) := by decide +kernel
theorem d2_32 : decode prog_13_method_3_code 32 = .ok (.aload_n 2, 1) := by decide +kernel
theorem d2_33 : decode prog_13_method_3_code 33 = .ok (.areturn, 1) := by decide +kernel
set_option maxRecDepth 65536 in
set_option maxHeartbeats 40000000 in
theorem rmFo (l : Launch) (Z : State) (a0 : Array Value) (hw : ∀ d ∈ tables_1, d.before a0 Z = true) (ws : List Jvm.Cond) (a : Addr) (n : Nat) (g : Nat → Int32) (h0 : Heap) (n0 : Nat) (Z0 : n0 ≤ h0.size) (hn : n ≤ 4) (V_a : AV Z h0 a .byte n (fun i => .int (g i))) (E_a : Exa Z h0 a "[B") (hg : ∀ i, i < n → nar .byte (g i) = g i) :
    Ctr l Z (⟨"com/example/sharks/sharks/engine/KeyRange", "following", "([B)[B"⟩ : MethodName) prog_13_method_3_code 3 (some (.array .byte)) ws ({ frames := 2, cells := 1, slots := 4, locals := 32 } : Room) 1 4 #[(.ref a)] h0 (fun v h L => ∃ r, v = some r ∧ Fr n0 L ∧ Keep h0 h [] ∧ ((r = .null ∧ ∀ i, i < n → g i = -1) ∨ ∃ t b, r = .ref b ∧ t < n ∧ ¬ g t = -1 ∧ (∀ j, t < j → j < n → g j = -1) ∧ h0.size ≤ b ∧ AV Z h b .byte (t + 1) (rF g t))) := by
  refine Ctr.mk (plainFor_of_name pn_2) fun p e s m below meth c T0 X0 C e0 => go_cast (ef_rmFo m a) ?_
  have N0 := Fr.nil n0
  obtain ⟨hx, hZ, hby, hml, hown, hnm, hret, hlk⟩ := C
  obtain ⟨hI, eI⟩ : ∃ z, z = h0 := ⟨_, rfl⟩
  have K0 : Keep hI h0 [] := by rw [eI]; exact Keep.refl _ _
  show Go _ _ _ _ _ _ _ T0 (mkF m 0 #[.val (.ref a), .unset, .unset] [])
  refine Go.step (fun tt kk => XS.aloadN X0.here hx rfl (hb hby d2_0) rfl rfl kk) ?_
  show Go _ _ _ _ _ _ _ T0 (mkF m 1 #[.val (.ref a), .unset, .unset] [(.ref a)])
  refine Go.step (a_len X0 hx hZ e0 V_a (z := (Int32.ofNat n)) (Int32.toInt_ofNat_of_lt (by omega)) (hb hby d2_1)) ?_
  show Go _ _ _ _ _ _ _ T0 (mkF m 2 #[.val (.ref a), .unset, .unset] [(.int (Int32.ofNat n))])
  refine Go.step (fun tt kk => XS.iconst X0.here hx rfl (hb hby d2_2) kk) ?_
  show Go _ _ _ _ _ _ _ T0 (mkF m 3 #[.val (.ref a), .unset, .unset] [(.int (1 : Int32)), (.int (Int32.ofNat n))])
  refine Go.step (fun tt kk => XS.isub X0.here hx rfl (hb hby d2_3) rfl kk) ?_
  show Go _ _ _ _ _ _ _ T0 (mkF m 4 #[.val (.ref a), .unset, .unset] [(.int ((Int32.ofNat n) - (1 : Int32)))])
  refine Go.step (fun tt kk => XS.istoreN X0.here hx rfl (hb hby d2_4) rfl (l' := #[.val (.ref a), .val (.int ((Int32.ofNat n) - (1 : Int32))), .unset]) rfl kk) ?_
  show Go _ _ _ _ _ _ _ T0 (mkF m 5 #[.val (.ref a), .val (.int ((Int32.ofNat n) - (1 : Int32))), .unset] [])
  have lp5 : ∀ (t : Nat)  (T5_lp : State) (lc5_lp : List Loc) (hh5_lp : Heap) (X5_lp : Stand p l e ({ frames := 2, cells := 1, slots := 4, locals := 32 } : Room) s m #[(.ref a)] below meth c T5_lp lc5_lp 0 0) (e5_lp : T5_lp.heap = hh5_lp) (N5_lp : Fr n0 lc5_lp) (Z5_lp : n0 ≤ hh5_lp.size) (K5_lp : Keep hI hh5_lp []) (f5_lp_0 : AV Z hh5_lp a .byte n (fun i => .int (g i))) (f5_lp_1 : Exa Z hh5_lp a "[B") (htn : t ≤ n) (hgt : ∀ j, t ≤ j → j < n → g j = -1),
      Go p e s below 1 4 (fun v h L => ∃ r, v = some r ∧ Fr n0 L ∧ Keep h0 h [] ∧ ((r = .null ∧ ∀ i, i < n → g i = -1) ∨ ∃ t b, r = .ref b ∧ t < n ∧ ¬ g t = -1 ∧ (∀ j, t < j → j < n → g j = -1) ∧ h0.size ≤ b ∧ AV Z h b .byte (t + 1) (rF g t))) T5_lp (mkF m 5 #[.val (.ref a), .val (.int (Int32.ofNat t - (1 : Int32))), .unset] []) := by
    intro t
    induction t with
    | zero =>
      intro  T5_lp lc5_lp hh5_lp X5_lp e5_lp N5_lp Z5_lp K5_lp f5_lp_0 f5_lp_1 htn hgt
      show Go _ _ _ _ _ _ _ T5_lp (mkF m 5 #[.val (.ref a), .val (.int (Int32.ofNat 0 - (1 : Int32))), .unset] [])
      refine Go.step (fun tt kk => XS.iloadN X5_lp.here hx rfl (hb hby d2_5) rfl kk) ?_
      show Go _ _ _ _ _ _ _ T5_lp (mkF m 6 #[.val (.ref a), .val (.int (Int32.ofNat 0 - (1 : Int32))), .unset] [(.int (Int32.ofNat 0 - (1 : Int32)))])
      refine Go.step (fun tt kk => XS.ifYes X5_lp.here hx rfl (pc0 := 6) (pc' := 40) rfl (hb hby d2_6) rfl ((if0 _ _).trans (tlt ((own_lt0 0 (by omega)).mpr rfl)).1) (by decide) (by decide) kk) ?_
      show Go _ _ _ _ _ _ _ T5_lp (mkF m 40 #[.val (.ref a), .val (.int (Int32.ofNat 0 - (1 : Int32))), .unset] [])
      refine Go.step (fun tt kk => XS.aconstNull X5_lp.here hx rfl (hb hby d2_40) kk) ?_
      show Go _ _ _ _ _ _ _ T5_lp (mkF m 41 #[.val (.ref a), .val (.int (Int32.ofNat 0 - (1 : Int32))), .unset] [.null])
      refine go_retA X5_lp hx (t := (.array .byte)) hret rfl hlk rfl (hb hby d2_41) ?_ (by decide) (by decide)
      try rw [e5_lp]
      exact ⟨_, rfl, N5_lp, eI ▸ K5_lp, Or.inl ⟨rfl, fun i hi => hgt i (Nat.zero_le _) hi⟩⟩
    | succ t ih =>
      intro  T5_lp lc5_lp hh5_lp X5_lp e5_lp N5_lp Z5_lp K5_lp f5_lp_0 f5_lp_1 htn hgt
      show Go _ _ _ _ _ _ _ T5_lp (mkF m 5 #[.val (.ref a), .val (.int (Int32.ofNat (t + 1) - (1 : Int32))), .unset] [])
      refine Go.step (fun tt kk => XS.iloadN X5_lp.here hx rfl (hb hby d2_5) rfl kk) ?_
      show Go _ _ _ _ _ _ _ T5_lp (mkF m 6 #[.val (.ref a), .val (.int (Int32.ofNat (t + 1) - (1 : Int32))), .unset] [(.int (Int32.ofNat (t + 1) - (1 : Int32)))])
      refine Go.step (fun tt kk => XS.ifNo X5_lp.here hx rfl (hb hby d2_6) rfl ((if0 _ _).trans (flt (mt (own_lt0 (t + 1) (by omega)).mp (by omega))).1) kk) ?_
      show Go _ _ _ _ _ _ _ T5_lp (mkF m 9 #[.val (.ref a), .val (.int (Int32.ofNat (t + 1) - (1 : Int32))), .unset] [])
      rw [own_pred t]
      show Go _ _ _ _ _ _ _ T5_lp (mkF m 9 #[.val (.ref a), .val (.int (Int32.ofNat t)), .unset] [])
      refine Go.step (fun tt kk => XS.aloadN X5_lp.here hx rfl (hb hby d2_9) rfl rfl kk) ?_
      show Go _ _ _ _ _ _ _ T5_lp (mkF m 10 #[.val (.ref a), .val (.int (Int32.ofNat t)), .unset] [(.ref a)])
      refine Go.step (fun tt kk => XS.iloadN X5_lp.here hx rfl (hb hby d2_10) rfl kk) ?_
      show Go _ _ _ _ _ _ _ T5_lp (mkF m 11 #[.val (.ref a), .val (.int (Int32.ofNat t)), .unset] [(.int (Int32.ofNat t)), (.ref a)])
      refine Go.step (a_bload X5_lp hx hZ e5_lp f5_lp_0 (k := t) (Int32.toInt_ofNat_of_lt (by omega)) (by omega) (x := (g t)) rfl (hb hby d2_11)) ?_
      show Go _ _ _ _ _ _ _ T5_lp (mkF m 12 #[.val (.ref a), .val (.int (Int32.ofNat t)), .unset] [(.int (g t))])
      refine Go.step (fun tt kk => XS.iconst X5_lp.here hx rfl (hb hby d2_12) kk) ?_
      show Go _ _ _ _ _ _ _ T5_lp (mkF m 13 #[.val (.ref a), .val (.int (Int32.ofNat t)), .unset] [(.int (-1 : Int32)), (.int (g t))])
      by_cases c13_1 : (g t) = (-1 : Int32)
      · refine Go.step (fun tt kk => XS.icmpYes X5_lp.here hx rfl (pc0 := 13) (pc' := 34) rfl (hb hby d2_13) rfl (teq c13_1).1 (by decide) (by decide) kk) ?_
        show Go _ _ _ _ _ _ _ T5_lp (mkF m 34 #[.val (.ref a), .val (.int (Int32.ofNat t)), .unset] [])
        refine Go.step (fun tt kk => XS.iinc X5_lp.here hx rfl (hb hby d2_34) rfl (l' := #[.val (.ref a), .val (.int ((Int32.ofNat t) + (-1 : Int32))), .unset]) rfl kk) ?_
        show Go _ _ _ _ _ _ _ T5_lp (mkF m 37 #[.val (.ref a), .val (.int ((Int32.ofNat t) + (-1 : Int32))), .unset] [])
        rw [own_step]
        show Go _ _ _ _ _ _ _ T5_lp (mkF m 37 #[.val (.ref a), .val (.int (Int32.ofNat t - (1 : Int32))), .unset] [])
        refine Go.step (fun tt kk => XS.goto X5_lp.here hx rfl (pc0 := 37) (pc' := 5) rfl (hb hby d2_37) (by decide) (by decide) kk) ?_
        show Go _ _ _ _ _ _ _ T5_lp (mkF m 5 #[.val (.ref a), .val (.int (Int32.ofNat t - (1 : Int32))), .unset] [])
        exact ih  _ _ _ (X5_lp.more (by decide) (by decide)) e5_lp N5_lp Z5_lp K5_lp f5_lp_0 f5_lp_1 (by omega) (fun j h1 h2 => by
              by_cases q : j = t
              · subst q; exact c13_1
              · exact hgt j (by omega) h2)
      · refine Go.step (fun tt kk => XS.icmpNo X5_lp.here hx rfl (hb hby d2_13) rfl (feq c13_1).1 kk) ?_
        show Go _ _ _ _ _ _ _ T5_lp (mkF m 16 #[.val (.ref a), .val (.int (Int32.ofNat t)), .unset] [])
        refine Go.step (fun tt kk => XS.aloadN X5_lp.here hx rfl (hb hby d2_16) rfl rfl kk) ?_
        show Go _ _ _ _ _ _ _ T5_lp (mkF m 17 #[.val (.ref a), .val (.int (Int32.ofNat t)), .unset] [(.ref a)])
        refine Go.step (fun tt kk => XS.iloadN X5_lp.here hx rfl (hb hby d2_17) rfl kk) ?_
        show Go _ _ _ _ _ _ _ T5_lp (mkF m 18 #[.val (.ref a), .val (.int (Int32.ofNat t)), .unset] [(.int (Int32.ofNat t)), (.ref a)])
        refine Go.step (fun tt kk => XS.iconst X5_lp.here hx rfl (hb hby d2_18) kk) ?_
        show Go _ _ _ _ _ _ _ T5_lp (mkF m 19 #[.val (.ref a), .val (.int (Int32.ofNat t)), .unset] [(.int (1 : Int32)), (.int (Int32.ofNat t)), (.ref a)])
        refine Go.step (fun tt kk => XS.iadd X5_lp.here hx rfl (hb hby d2_19) rfl kk) ?_
        show Go _ _ _ _ _ _ _ T5_lp (mkF m 20 #[.val (.ref a), .val (.int (Int32.ofNat t)), .unset] [(.int ((Int32.ofNat t) + (1 : Int32))), (.ref a)])
        rw [own_add]
        show Go _ _ _ _ _ _ _ T5_lp (mkF m 20 #[.val (.ref a), .val (.int (Int32.ofNat t)), .unset] [(.int (Int32.ofNat (t + 1))), (.ref a)])
        obtain ⟨v2, T2, L2, X2, q2, st2⟩ := c_static X5_lp hx hZ hown (y := (⟨"java/util/Arrays", "copyOf", "([BI)[B"⟩ : MethodName)) (hw _ (List.mem_of_getElem? (i := 10) rfl)) (hw _ (List.mem_of_getElem? (i := 11) rfl)) (hw _ (List.mem_of_getElem? (i := 12) rfl)) (hw _ (List.mem_of_getElem? (i := 13) rfl)) (by decide) (argsL := [(.ref a), (.int (Int32.ofNat (t + 1)))]) (rest := []) (rmCp l Z a0 hw [] a n (t + 1) (fun i => .int (g i)) hh5_lp n0 Z5_lp hn (by omega) f5_lp_0 f5_lp_1 (fun i hi => own_fitB (hg i hi))) e5_lp pd_1 rfl (by rw [hml]; rfl) (W := 0) (by show 2 * 0 + _ ≤ _; exact Nat.le_of_eq rfl) (by decide) (by decide) (by decide) (by decide) (hb hby d2_20) (Ls := #[.val (.ref a), .val (.int (Int32.ofNat t)), .unset])
        generalize e2 : T2.heap = h2 at q2
        obtain ⟨b2, rfl, N2q, K2q, sz2, V2k⟩ := q2
        have N2 := Fr.app N5_lp N2q
        have ne_a_b2 : a ≠ b2 := Nat.ne_of_lt (Nat.lt_of_lt_of_le f5_lp_0.lt sz2)
        have gn_b2 : n0 ≤ b2 := Nat.le_trans Z5_lp sz2
        have sz_b2 : hI.size ≤ b2 := Nat.le_trans K5_lp.1 sz2
        have K2 : Keep hI h2 [] := K5_lp.trans K2q all0
        have Z2 : n0 ≤ h2.size := Nat.le_trans Z5_lp K2q.1
        refine Go.step (st2) ?_
        show Go _ _ _ _ _ _ _ T2 (mkF m 23 #[.val (.ref a), .val (.int (Int32.ofNat t)), .unset] [(.ref b2)])
        refine Go.step (fun tt kk => XS.astoreN X2.here hx rfl (hb hby d2_23) rfl rfl (l' := #[.val (.ref a), .val (.int (Int32.ofNat t)), .val (.ref b2)]) rfl kk) ?_
        show Go _ _ _ _ _ _ _ T2 (mkF m 24 #[.val (.ref a), .val (.int (Int32.ofNat t)), .val (.ref b2)] [])
        refine Go.step (fun tt kk => XS.aloadN X2.here hx rfl (hb hby d2_24) rfl rfl kk) ?_
        show Go _ _ _ _ _ _ _ T2 (mkF m 25 #[.val (.ref a), .val (.int (Int32.ofNat t)), .val (.ref b2)] [(.ref b2)])
        refine Go.step (fun tt kk => XS.iloadN X2.here hx rfl (hb hby d2_25) rfl kk) ?_
        show Go _ _ _ _ _ _ _ T2 (mkF m 26 #[.val (.ref a), .val (.int (Int32.ofNat t)), .val (.ref b2)] [(.int (Int32.ofNat t)), (.ref b2)])
        refine Go.step (fun tt kk => by jvm_step X2.here [X2.here.top, hx, (hb hby d2_26), Value.category]; exact kk) ?_
        show Go _ _ _ _ _ _ _ T2 (mkF m 27 #[.val (.ref a), .val (.int (Int32.ofNat t)), .val (.ref b2)] [(.int (Int32.ofNat t)), (.ref b2), (.int (Int32.ofNat t)), (.ref b2)])
        refine Go.step (a_bload X2 hx hZ e2 V2k (k := t) (Int32.toInt_ofNat_of_lt (by omega)) (by omega) (x := (g t)) rfl (hb hby d2_27)) ?_
        show Go _ _ _ _ _ _ _ T2 (mkF m 28 #[.val (.ref a), .val (.int (Int32.ofNat t)), .val (.ref b2)] [(.int (g t)), (.int (Int32.ofNat t)), (.ref b2)])
        refine Go.step (fun tt kk => XS.iconst X2.here hx rfl (hb hby d2_28) kk) ?_
        show Go _ _ _ _ _ _ _ T2 (mkF m 29 #[.val (.ref a), .val (.int (Int32.ofNat t)), .val (.ref b2)] [(.int (1 : Int32)), (.int (g t)), (.int (Int32.ofNat t)), (.ref b2)])
        refine Go.step (fun tt kk => XS.iadd X2.here hx rfl (hb hby d2_29) rfl kk) ?_
        show Go _ _ _ _ _ _ _ T2 (mkF m 30 #[.val (.ref a), .val (.int (Int32.ofNat t)), .val (.ref b2)] [(.int ((g t) + (1 : Int32))), (.int (Int32.ofNat t)), (.ref b2)])
        refine Go.step (fun tt kk => XS.i2b X2.here hx rfl (hb hby d2_30) rfl kk) ?_
        show Go _ _ _ _ _ _ _ T2 (mkF m 31 #[.val (.ref a), .val (.int (Int32.ofNat t)), .val (.ref b2)] [(.int (((g t) + (1 : Int32)).toInt8.toInt32)), (.int (Int32.ofNat t)), (.ref b2)])
        show Go _ _ _ _ _ _ _ T2 (mkF m 31 #[.val (.ref a), .val (.int (Int32.ofNat t)), .val (.ref b2)] [(.int (inc (g t))), (.int (Int32.ofNat t)), (.ref b2)])
        obtain ⟨cl3, Ar3, hin3, -⟩ := V2k.at (j := (Int32.ofNat t)) (k := t) (Int32.toInt_ofNat_of_lt (by omega)) (by omega)
        obtain ⟨T3, h3, X3, e3, W3, st3⟩ := stB X2 hx hZ e2 Ar3 (j := (Int32.ofNat t)) hin3 (g := (mkF m 31 #[.val (.ref a), .val (.int (Int32.ofNat t)), .val (.ref b2)] [(.int (inc (g t))), (.int (Int32.ofNat t)), (.ref b2)])) rfl rfl (hb hby d2_31)
        rw [show nar .byte (inc (g t)) = inc (g t) from own_nar (g t + 1)] at W3
        have V3 : AV Z h3 b2 .byte (t + 1) (upd (fun i => .int (g i)) t (.int (inc (g t)))) := AV.set V2k (k := t) (Int32.toInt_ofNat_of_lt (by omega)) (by omega) W3
        have N3 := Fr.snoc X3 N2 gn_b2
        have Z3 : n0 ≤ h3.size := Nat.le_trans Z2 (Keep.of_wr W3).1
        have K3 : Keep hI h3 [] := K2.wr W3 (Or.inr sz_b2)
        refine Go.step (st3) ?_
        show Go _ _ _ _ _ _ _ T3 (mkF m 32 #[.val (.ref a), .val (.int (Int32.ofNat t)), .val (.ref b2)] [])
        refine Go.step (fun tt kk => XS.aloadN X3.here hx rfl (hb hby d2_32) rfl rfl kk) ?_
        show Go _ _ _ _ _ _ _ T3 (mkF m 33 #[.val (.ref a), .val (.int (Int32.ofNat t)), .val (.ref b2)] [(.ref b2)])
        refine go_retA X3 hx (t := (.array .byte)) hret rfl hlk rfl (hb hby d2_33) ?_ (by decide) (by decide)
        try rw [e3]
        exact ⟨_, rfl, N3, eI ▸ K3, Or.inr ⟨t, b2, rfl, by omega, c13_1, fun j h1 h2 => hgt j (by omega) h2, eI ▸ sz_b2, V3.congr fun i hi => rfl⟩⟩
  exact lp5 n  _ _ _ (X0.more (by decide) (by decide)) e0 N0 Z0 K0 V_a E_a (Nat.le_refl _) (fun j h1 h2 => absurd h1 (by omega))
theorem ef_rmOk (m : MethodId) (x0 : Addr) (x1 : Int32) (x2 : Int32) (x3 : Int32) : entryFrame m #[(.ref x0), (.int x1), (.int x2), (.int x3)] 5 = mkF m 0 #[.val (.ref x0), .val (.int x1), .val (.int x2), .val (.int x3), .unset] [] := by first | (simp [entryFrame, mkF, argsToLocals, Value.category]; done) | rfl
theorem d4_0 : decode method_3_code 0 = .ok (.iload_n 1, 1) := by decide +kernel
theorem d4_1 : decode method_3_code 1 = .ok (.iload_n 2, 1) := by decide +kernel
theorem d4_2 : decode method_3_code 2 = .ok (.if_icmp .le 5, 3) := by decide +kernel
theorem d4_5 : decode method_3_code 5 = .ok (.iconst 1, 1) := by decide +kernel
theorem d4_6 : decode method_3_code 6 = .ok (.ireturn, 1) := by decide +kernel
theorem d4_7 : decode method_3_code 7 = .ok (.iload_n 1, 1) := by decide +kernel
theorem d4_8 : decode method_3_code 8 = .ok (.iload_n 2, 1) := by decide +kernel
theorem d4_9 : decode method_3_code 9 = .ok (.if_icmp .ge 7, 3) := by decide +kernel
theorem d4_12 : decode method_3_code 12 = .ok (.iload_n 3, 1) := by decide +kernel
theorem d4_13 : decode method_3_code 13 = .ok (.goto 7, 3) := by decide +kernel
theorem d4_20 : decode method_3_code 20 = .ok (.istore 4, 2) := by decide +kernel
theorem d4_22 : decode method_3_code 22 = .ok (.aload_n 0, 1) := by decide +kernel
theorem d4_23 : decode method_3_code 23 = .ok (.iload_n 1, 1) := by decide +kernel
theorem d4_24 : decode method_3_code 24 = .ok (.baload, 1) := by decide +kernel
theorem d4_25 : decode method_3_code 25 = .ok (.iload 4, 2) := by decide +kernel
theorem d4_27 : decode method_3_code 27 = .ok (.if_icmp .ne 7, 3) := by decide +kernel
theorem d4_30 : decode method_3_code 30 = .ok (.iconst 1, 1) := by decide +kernel
theorem d4_31 : decode method_3_code 31 = .ok (.goto 4, 3) := by decide +kernel
theorem d4_35 : decode method_3_code 35 = .ok (.ireturn, 1) := by decide +kernel
theorem d4_16 : decode method_3_code 16 = .ok (.iload_n 3, 1) := by decide +kernel
theorem d4_17 : decode method_3_code 17 = .ok (.iconst 1, 1) := by decide +kernel
theorem d4_18 : decode method_3_code 18 = .ok (.iadd, 1) := by decide +kernel
theorem d4_19 : decode method_3_code 19 = .ok (.i2b, 1) := by decide +kernel
set_option maxRecDepth 65536 in
set_option maxHeartbeats 40000000 in
theorem rmOk (l : Launch) (Z : State) (a0 : Array Value) (hw : ∀ d ∈ tables_1, d.before a0 Z = true) (ws : List Jvm.Cond) (a : Addr) (i t : Nat) (g : Nat → Int32) (h0 : Heap) (n0 : Nat) (Z0 : n0 ≤ h0.size) (hi : i ≤ 4) (ht : t ≤ 4) (V_a : AV Z h0 a .byte (t + 1) (rF g t)) :
    Ctr l Z (⟨"com/example/sharks/sharks/engine/KeyRangeFollowingPinLaw", "okAt", "([BIIB)Z"⟩ : MethodName) method_3_code 5 (some .boolean) ws ({ frames := 0, cells := 0, slots := 0, locals := 0 } : Room) 0 0 #[(.ref a), (.int (Int32.ofNat i)), (.int (Int32.ofNat t)), (.int (g i))] h0 (fun v h L => v = some (.int (1 : Int32)) ∧ L = [] ∧ h = h0) := by
  refine Ctr.mk (plainFor_of_name pn_0) fun p e s m below meth c T0 X0 C e0 => go_cast (ef_rmOk m a (Int32.ofNat i) (Int32.ofNat t) (g i)) ?_
  have N0 := Fr.nil n0
  obtain ⟨hx, hZ, hby, hml, hown, hnm, hret, hlk⟩ := C
  show Go _ _ _ _ _ _ _ T0 (mkF m 0 #[.val (.ref a), .val (.int (Int32.ofNat i)), .val (.int (Int32.ofNat t)), .val (.int (g i)), .unset] [])
  refine Go.step (fun tt kk => XS.iloadN X0.here hx rfl (hb hby d4_0) rfl kk) ?_
  show Go _ _ _ _ _ _ _ T0 (mkF m 1 #[.val (.ref a), .val (.int (Int32.ofNat i)), .val (.int (Int32.ofNat t)), .val (.int (g i)), .unset] [(.int (Int32.ofNat i))])
  refine Go.step (fun tt kk => XS.iloadN X0.here hx rfl (hb hby d4_1) rfl kk) ?_
  show Go _ _ _ _ _ _ _ T0 (mkF m 2 #[.val (.ref a), .val (.int (Int32.ofNat i)), .val (.int (Int32.ofNat t)), .val (.int (g i)), .unset] [(.int (Int32.ofNat t)), (.int (Int32.ofNat i))])
  by_cases c2_1 : (Int32.ofNat t) < (Int32.ofNat i)
  · refine Go.step (fun tt kk => XS.icmpNo X0.here hx rfl (hb hby d4_2) rfl (tlt c2_1).2.2.2 kk) ?_
    show Go _ _ _ _ _ _ _ T0 (mkF m 5 #[.val (.ref a), .val (.int (Int32.ofNat i)), .val (.int (Int32.ofNat t)), .val (.int (g i)), .unset] [])
    refine Go.step (fun tt kk => XS.iconst X0.here hx rfl (hb hby d4_5) kk) ?_
    show Go _ _ _ _ _ _ _ T0 (mkF m 6 #[.val (.ref a), .val (.int (Int32.ofNat i)), .val (.int (Int32.ofNat t)), .val (.int (g i)), .unset] [(.int (1 : Int32))])
    refine go_retN X0 hx (t := .boolean) hret (by simp) hlk (hb hby d4_6) (w := (1 : Int32)) rfl ?_ (by decide) (by decide)
    try rw [e0]
    exact ⟨rfl, rfl, rfl⟩
  · refine Go.step (fun tt kk => XS.icmpYes X0.here hx rfl (pc0 := 2) (pc' := 7) rfl (hb hby d4_2) rfl (flt c2_1).2.2.2 (by decide) (by decide) kk) ?_
    show Go _ _ _ _ _ _ _ T0 (mkF m 7 #[.val (.ref a), .val (.int (Int32.ofNat i)), .val (.int (Int32.ofNat t)), .val (.int (g i)), .unset] [])
    refine Go.step (fun tt kk => XS.iloadN X0.here hx rfl (hb hby d4_7) rfl kk) ?_
    show Go _ _ _ _ _ _ _ T0 (mkF m 8 #[.val (.ref a), .val (.int (Int32.ofNat i)), .val (.int (Int32.ofNat t)), .val (.int (g i)), .unset] [(.int (Int32.ofNat i))])
    refine Go.step (fun tt kk => XS.iloadN X0.here hx rfl (hb hby d4_8) rfl kk) ?_
    show Go _ _ _ _ _ _ _ T0 (mkF m 9 #[.val (.ref a), .val (.int (Int32.ofNat i)), .val (.int (Int32.ofNat t)), .val (.int (g i)), .unset] [(.int (Int32.ofNat t)), (.int (Int32.ofNat i))])
    by_cases c9_2 : (Int32.ofNat i) < (Int32.ofNat t)
    · refine Go.step (fun tt kk => XS.icmpNo X0.here hx rfl (hb hby d4_9) rfl (tlt c9_2).2.1 kk) ?_
      show Go _ _ _ _ _ _ _ T0 (mkF m 12 #[.val (.ref a), .val (.int (Int32.ofNat i)), .val (.int (Int32.ofNat t)), .val (.int (g i)), .unset] [])
      refine Go.step (fun tt kk => XS.iloadN X0.here hx rfl (hb hby d4_12) rfl kk) ?_
      show Go _ _ _ _ _ _ _ T0 (mkF m 13 #[.val (.ref a), .val (.int (Int32.ofNat i)), .val (.int (Int32.ofNat t)), .val (.int (g i)), .unset] [(.int (g i))])
      refine Go.step (fun tt kk => XS.goto X0.here hx rfl (pc0 := 13) (pc' := 20) rfl (hb hby d4_13) (by decide) (by decide) kk) ?_
      show Go _ _ _ _ _ _ _ T0 (mkF m 20 #[.val (.ref a), .val (.int (Int32.ofNat i)), .val (.int (Int32.ofNat t)), .val (.int (g i)), .unset] [(.int (g i))])
      refine Go.step (fun tt kk => XS.istore X0.here hx rfl (hb hby d4_20) rfl (l' := #[.val (.ref a), .val (.int (Int32.ofNat i)), .val (.int (Int32.ofNat t)), .val (.int (g i)), .val (.int (g i))]) rfl kk) ?_
      show Go _ _ _ _ _ _ _ T0 (mkF m 22 #[.val (.ref a), .val (.int (Int32.ofNat i)), .val (.int (Int32.ofNat t)), .val (.int (g i)), .val (.int (g i))] [])
      refine Go.step (fun tt kk => XS.aloadN X0.here hx rfl (hb hby d4_22) rfl rfl kk) ?_
      show Go _ _ _ _ _ _ _ T0 (mkF m 23 #[.val (.ref a), .val (.int (Int32.ofNat i)), .val (.int (Int32.ofNat t)), .val (.int (g i)), .val (.int (g i))] [(.ref a)])
      refine Go.step (fun tt kk => XS.iloadN X0.here hx rfl (hb hby d4_23) rfl kk) ?_
      show Go _ _ _ _ _ _ _ T0 (mkF m 24 #[.val (.ref a), .val (.int (Int32.ofNat i)), .val (.int (Int32.ofNat t)), .val (.int (g i)), .val (.int (g i))] [(.int (Int32.ofNat i)), (.ref a)])
      refine Go.step (a_bload X0 hx hZ e0 V_a (k := i) (Int32.toInt_ofNat_of_lt (by omega)) (by have q := mt (own_lt t i (by omega) (by omega)).mpr c2_1; omega) (x := (g i)) (by have q := (own_lt i t (by omega) (by omega)).mp c9_2; exact if_neg (by omega)) (hb hby d4_24)) ?_
      show Go _ _ _ _ _ _ _ T0 (mkF m 25 #[.val (.ref a), .val (.int (Int32.ofNat i)), .val (.int (Int32.ofNat t)), .val (.int (g i)), .val (.int (g i))] [(.int (g i))])
      refine Go.step (fun tt kk => XS.iload X0.here hx rfl (hb hby d4_25) rfl kk) ?_
      show Go _ _ _ _ _ _ _ T0 (mkF m 27 #[.val (.ref a), .val (.int (Int32.ofNat i)), .val (.int (Int32.ofNat t)), .val (.int (g i)), .val (.int (g i))] [(.int (g i)), (.int (g i))])
      refine Go.step (fun tt kk => XS.icmpNo X0.here hx rfl (hb hby d4_27) rfl (teq rfl).2 kk) ?_
      show Go _ _ _ _ _ _ _ T0 (mkF m 30 #[.val (.ref a), .val (.int (Int32.ofNat i)), .val (.int (Int32.ofNat t)), .val (.int (g i)), .val (.int (g i))] [])
      refine Go.step (fun tt kk => XS.iconst X0.here hx rfl (hb hby d4_30) kk) ?_
      show Go _ _ _ _ _ _ _ T0 (mkF m 31 #[.val (.ref a), .val (.int (Int32.ofNat i)), .val (.int (Int32.ofNat t)), .val (.int (g i)), .val (.int (g i))] [(.int (1 : Int32))])
      refine Go.step (fun tt kk => XS.goto X0.here hx rfl (pc0 := 31) (pc' := 35) rfl (hb hby d4_31) (by decide) (by decide) kk) ?_
      show Go _ _ _ _ _ _ _ T0 (mkF m 35 #[.val (.ref a), .val (.int (Int32.ofNat i)), .val (.int (Int32.ofNat t)), .val (.int (g i)), .val (.int (g i))] [(.int (1 : Int32))])
      refine go_retN X0 hx (t := .boolean) hret (by simp) hlk (hb hby d4_35) (w := (1 : Int32)) rfl ?_ (by decide) (by decide)
      try rw [e0]
      exact ⟨rfl, rfl, rfl⟩
    · refine Go.step (fun tt kk => XS.icmpYes X0.here hx rfl (pc0 := 9) (pc' := 16) rfl (hb hby d4_9) rfl (flt c9_2).2.1 (by decide) (by decide) kk) ?_
      show Go _ _ _ _ _ _ _ T0 (mkF m 16 #[.val (.ref a), .val (.int (Int32.ofNat i)), .val (.int (Int32.ofNat t)), .val (.int (g i)), .unset] [])
      refine Go.step (fun tt kk => XS.iloadN X0.here hx rfl (hb hby d4_16) rfl kk) ?_
      show Go _ _ _ _ _ _ _ T0 (mkF m 17 #[.val (.ref a), .val (.int (Int32.ofNat i)), .val (.int (Int32.ofNat t)), .val (.int (g i)), .unset] [(.int (g i))])
      refine Go.step (fun tt kk => XS.iconst X0.here hx rfl (hb hby d4_17) kk) ?_
      show Go _ _ _ _ _ _ _ T0 (mkF m 18 #[.val (.ref a), .val (.int (Int32.ofNat i)), .val (.int (Int32.ofNat t)), .val (.int (g i)), .unset] [(.int (1 : Int32)), (.int (g i))])
      refine Go.step (fun tt kk => XS.iadd X0.here hx rfl (hb hby d4_18) rfl kk) ?_
      show Go _ _ _ _ _ _ _ T0 (mkF m 19 #[.val (.ref a), .val (.int (Int32.ofNat i)), .val (.int (Int32.ofNat t)), .val (.int (g i)), .unset] [(.int ((g i) + (1 : Int32)))])
      refine Go.step (fun tt kk => XS.i2b X0.here hx rfl (hb hby d4_19) rfl kk) ?_
      show Go _ _ _ _ _ _ _ T0 (mkF m 20 #[.val (.ref a), .val (.int (Int32.ofNat i)), .val (.int (Int32.ofNat t)), .val (.int (g i)), .unset] [(.int (((g i) + (1 : Int32)).toInt8.toInt32))])
      refine Go.step (fun tt kk => XS.istore X0.here hx rfl (hb hby d4_20) rfl (l' := #[.val (.ref a), .val (.int (Int32.ofNat i)), .val (.int (Int32.ofNat t)), .val (.int (g i)), .val (.int (((g i) + (1 : Int32)).toInt8.toInt32))]) rfl kk) ?_
      show Go _ _ _ _ _ _ _ T0 (mkF m 22 #[.val (.ref a), .val (.int (Int32.ofNat i)), .val (.int (Int32.ofNat t)), .val (.int (g i)), .val (.int (((g i) + (1 : Int32)).toInt8.toInt32))] [])
      have hit : i = t := by
        have q1 := mt (own_lt t i (by omega) (by omega)).mpr c2_1
        have q2 := mt (own_lt i t (by omega) (by omega)).mpr c9_2
        omega
      refine Go.step (fun tt kk => XS.aloadN X0.here hx rfl (hb hby d4_22) rfl rfl kk) ?_
      show Go _ _ _ _ _ _ _ T0 (mkF m 23 #[.val (.ref a), .val (.int (Int32.ofNat i)), .val (.int (Int32.ofNat t)), .val (.int (g i)), .val (.int (((g i) + (1 : Int32)).toInt8.toInt32))] [(.ref a)])
      refine Go.step (fun tt kk => XS.iloadN X0.here hx rfl (hb hby d4_23) rfl kk) ?_
      show Go _ _ _ _ _ _ _ T0 (mkF m 24 #[.val (.ref a), .val (.int (Int32.ofNat i)), .val (.int (Int32.ofNat t)), .val (.int (g i)), .val (.int (((g i) + (1 : Int32)).toInt8.toInt32))] [(.int (Int32.ofNat i)), (.ref a)])
      refine Go.step (a_bload X0 hx hZ e0 V_a (k := i) (Int32.toInt_ofNat_of_lt (by omega)) (by have q := mt (own_lt t i (by omega) (by omega)).mpr c2_1; omega) (x := (inc (g t))) (if_pos hit) (hb hby d4_24)) ?_
      show Go _ _ _ _ _ _ _ T0 (mkF m 25 #[.val (.ref a), .val (.int (Int32.ofNat i)), .val (.int (Int32.ofNat t)), .val (.int (g i)), .val (.int (((g i) + (1 : Int32)).toInt8.toInt32))] [(.int (inc (g t)))])
      refine Go.step (fun tt kk => XS.iload X0.here hx rfl (hb hby d4_25) rfl kk) ?_
      show Go _ _ _ _ _ _ _ T0 (mkF m 27 #[.val (.ref a), .val (.int (Int32.ofNat i)), .val (.int (Int32.ofNat t)), .val (.int (g i)), .val (.int (((g i) + (1 : Int32)).toInt8.toInt32))] [(.int (((g i) + (1 : Int32)).toInt8.toInt32)), (.int (inc (g t)))])
      refine Go.step (fun tt kk => XS.icmpNo X0.here hx rfl (hb hby d4_27) rfl (teq (by rw [hit])).2 kk) ?_
      show Go _ _ _ _ _ _ _ T0 (mkF m 30 #[.val (.ref a), .val (.int (Int32.ofNat i)), .val (.int (Int32.ofNat t)), .val (.int (g i)), .val (.int (((g i) + (1 : Int32)).toInt8.toInt32))] [])
      refine Go.step (fun tt kk => XS.iconst X0.here hx rfl (hb hby d4_30) kk) ?_
      show Go _ _ _ _ _ _ _ T0 (mkF m 31 #[.val (.ref a), .val (.int (Int32.ofNat i)), .val (.int (Int32.ofNat t)), .val (.int (g i)), .val (.int (((g i) + (1 : Int32)).toInt8.toInt32))] [(.int (1 : Int32))])
      refine Go.step (fun tt kk => XS.goto X0.here hx rfl (pc0 := 31) (pc' := 35) rfl (hb hby d4_31) (by decide) (by decide) kk) ?_
      show Go _ _ _ _ _ _ _ T0 (mkF m 35 #[.val (.ref a), .val (.int (Int32.ofNat i)), .val (.int (Int32.ofNat t)), .val (.int (g i)), .val (.int (((g i) + (1 : Int32)).toInt8.toInt32))] [(.int (1 : Int32))])
      refine go_retN X0 hx (t := .boolean) hret (by simp) hlk (hb hby d4_35) (w := (1 : Int32)) rfl ?_ (by decide) (by decide)
      try rw [e0]
      exact ⟨rfl, rfl, rfl⟩
theorem ef_rm0 (m : MethodId) (x0 : Int32) (x1 : Int32) (x2 : Int32) (x3 : Int32) (x4 : Int32) : entryFrame m #[(.int x0), (.int x1), (.int x2), (.int x3), (.int x4)] maxLocals = mkF m 0 #[.val (.int x0), .val (.int x1), .val (.int x2), .val (.int x3), .val (.int x4), .unset, .unset, .unset, .unset, .unset, .unset, .unset, .unset, .unset, .unset] [] := by first | (simp [entryFrame, mkF, argsToLocals, Value.category, maxLocals]; done) | rfl
theorem pd_2 : parseMethodDescriptor "(I)B" = some ⟨[.int], some .byte⟩ := by decide +kernel
theorem pd_3 : parseMethodDescriptor "([B)[B" = some ⟨[(.array .byte)], some (.array .byte)⟩ := by decide +kernel
theorem pd_4 : parseMethodDescriptor "([BIIB)Z" = some ⟨[(.array .byte), .int, .int, .byte], some .boolean⟩ := by decide +kernel
set_option maxRecDepth 65536 in
set_option maxHeartbeats 40000000 in
theorem rm0 (l : Launch) (Z : State) (a0 : Array Value) (hw : ∀ d ∈ tables_1, d.before a0 Z = true) (ws : List Jvm.Cond) (i0 i1 i2 i3 i4 : Int32) (h0 : Heap) (n0 : Nat) (Z0 : n0 ≤ h0.size)  :
    Ctr l Z x code maxLocals ret ws room_1 16 128 #[(.int i0), (.int i1), (.int i2), (.int i3), (.int i4)] h0 (fun v h L => v = some (.int (1 : Int32)) ∧ Fr n0 L) := by
  refine Ctr.mk (plainFor_of_name pn_0) fun p e s m below meth c T0 X0 C e0 => go_cast (ef_rm0 m i0 i1 i2 i3 i4) ?_
  have N0 := Fr.nil n0
  obtain ⟨hx, hZ, hby, hml, hown, hnm, hret, hlk⟩ := C
  show Go _ _ _ _ _ _ _ T0 (mkF m 0 #[.val (.int i0), .val (.int i1), .val (.int i2), .val (.int i3), .val (.int i4), .unset, .unset, .unset, .unset, .unset, .unset, .unset, .unset, .unset, .unset] [])
  refine Go.step (fun tt kk => XS.iloadN X0.here hx rfl (hb hby at_0) rfl kk) ?_
  show Go _ _ _ _ _ _ _ T0 (mkF m 1 #[.val (.int i0), .val (.int i1), .val (.int i2), .val (.int i3), .val (.int i4), .unset, .unset, .unset, .unset, .unset, .unset, .unset, .unset, .unset, .unset] [(.int i0)])
  refine Go.step (X0.ldcInt hx hown (mvT hZ (hw _ (List.mem_of_getElem? (i := 0) rfl))) (g := (mkF m 1 #[.val (.int i0), .val (.int i1), .val (.int i2), .val (.int i3), .val (.int i4), .unset, .unset, .unset, .unset, .unset, .unset, .unset, .unset, .unset, .unset] [(.int i0)])) rfl (hb hby at_1)) ?_
  show Go _ _ _ _ _ _ _ T0 (mkF m 3 #[.val (.int i0), .val (.int i1), .val (.int i2), .val (.int i3), .val (.int i4), .unset, .unset, .unset, .unset, .unset, .unset, .unset, .unset, .unset, .unset] [(.int (2147483647 : Int32)), (.int i0)])
  refine Go.step (fun tt kk => XS.iand X0.here hx rfl (hb hby at_3) rfl kk) ?_
  show Go _ _ _ _ _ _ _ T0 (mkF m 4 #[.val (.int i0), .val (.int i1), .val (.int i2), .val (.int i3), .val (.int i4), .unset, .unset, .unset, .unset, .unset, .unset, .unset, .unset, .unset, .unset] [(.int (i0 &&& (2147483647 : Int32)))])
  refine Go.step (fun tt kk => XS.iconst X0.here hx rfl (hb hby at_4) kk) ?_
  show Go _ _ _ _ _ _ _ T0 (mkF m 5 #[.val (.int i0), .val (.int i1), .val (.int i2), .val (.int i3), .val (.int i4), .unset, .unset, .unset, .unset, .unset, .unset, .unset, .unset, .unset, .unset] [(.int (5 : Int32)), (.int (i0 &&& (2147483647 : Int32)))])
  refine Go.step (fun tt kk => iremM X0 hx rfl (hb hby at_5) rfl (by decide) kk) ?_
  show Go _ _ _ _ _ _ _ T0 (mkF m 6 #[.val (.int i0), .val (.int i1), .val (.int i2), .val (.int i3), .val (.int i4), .unset, .unset, .unset, .unset, .unset, .unset, .unset, .unset, .unset, .unset] [(.int ((i0 &&& (2147483647 : Int32)) % (5 : Int32)))])
  refine Go.step (fun tt kk => XS.istore X0.here hx rfl (hb hby at_6) rfl (l' := #[.val (.int i0), .val (.int i1), .val (.int i2), .val (.int i3), .val (.int i4), .val (.int ((i0 &&& (2147483647 : Int32)) % (5 : Int32))), .unset, .unset, .unset, .unset, .unset, .unset, .unset, .unset, .unset]) rfl kk) ?_
  show Go _ _ _ _ _ _ _ T0 (mkF m 8 #[.val (.int i0), .val (.int i1), .val (.int i2), .val (.int i3), .val (.int i4), .val (.int ((i0 &&& (2147483647 : Int32)) % (5 : Int32))), .unset, .unset, .unset, .unset, .unset, .unset, .unset, .unset, .unset] [])
  obtain ⟨n, hn, en⟩ := own_n i0
  rw [en]
  show Go _ _ _ _ _ _ _ T0 (mkF m 8 #[.val (.int i0), .val (.int i1), .val (.int i2), .val (.int i3), .val (.int i4), .val (.int (Int32.ofNat n)), .unset, .unset, .unset, .unset, .unset, .unset, .unset, .unset, .unset] [])
  refine Go.step (fun tt kk => XS.iloadN X0.here hx rfl (hb hby at_8) rfl kk) ?_
  show Go _ _ _ _ _ _ _ T0 (mkF m 9 #[.val (.int i0), .val (.int i1), .val (.int i2), .val (.int i3), .val (.int i4), .val (.int (Int32.ofNat n)), .unset, .unset, .unset, .unset, .unset, .unset, .unset, .unset, .unset] [(.int i1)])
  obtain ⟨v1, T1, L1, X1, q1, st1⟩ := c_static X0 hx hZ hown (y := (⟨"com/example/sharks/sharks/engine/KeyRangeFollowingPinLaw", "draw", "(I)B"⟩ : MethodName)) (hw _ (List.mem_of_getElem? (i := 1) rfl)) (hw _ (List.mem_of_getElem? (i := 2) rfl)) (hw _ (List.mem_of_getElem? (i := 3) rfl)) (hw _ (List.mem_of_getElem? (i := 4) rfl)) (by decide) (argsL := [(.int i1)]) (rest := []) (rmDr l Z a0 hw [] i1 h0 n0 Z0) e0 pd_2 rfl (by rw [hml]; rfl) (W := 0) (by show 2 * 0 + _ ≤ _; exact Nat.le_of_eq rfl) (by decide) (by decide) (by decide) (by decide) (hb hby at_9) (Ls := #[.val (.int i0), .val (.int i1), .val (.int i2), .val (.int i3), .val (.int i4), .val (.int (Int32.ofNat n)), .unset, .unset, .unset, .unset, .unset, .unset, .unset, .unset, .unset])
  obtain ⟨y0, rfl, hy0, rfl, e1⟩ := q1
  have N1 := Fr.app N0 (Fr.nil n0)
  refine Go.step (st1) ?_
  show Go _ _ _ _ _ _ _ T1 (mkF m 12 #[.val (.int i0), .val (.int i1), .val (.int i2), .val (.int i3), .val (.int i4), .val (.int (Int32.ofNat n)), .unset, .unset, .unset, .unset, .unset, .unset, .unset, .unset, .unset] [(.int y0)])
  refine Go.step (fun tt kk => XS.istore X1.here hx rfl (hb hby at_12) rfl (l' := #[.val (.int i0), .val (.int i1), .val (.int i2), .val (.int i3), .val (.int i4), .val (.int (Int32.ofNat n)), .val (.int y0), .unset, .unset, .unset, .unset, .unset, .unset, .unset, .unset]) rfl kk) ?_
  show Go _ _ _ _ _ _ _ T1 (mkF m 14 #[.val (.int i0), .val (.int i1), .val (.int i2), .val (.int i3), .val (.int i4), .val (.int (Int32.ofNat n)), .val (.int y0), .unset, .unset, .unset, .unset, .unset, .unset, .unset, .unset] [])
  refine Go.step (fun tt kk => XS.iloadN X1.here hx rfl (hb hby at_14) rfl kk) ?_
  show Go _ _ _ _ _ _ _ T1 (mkF m 15 #[.val (.int i0), .val (.int i1), .val (.int i2), .val (.int i3), .val (.int i4), .val (.int (Int32.ofNat n)), .val (.int y0), .unset, .unset, .unset, .unset, .unset, .unset, .unset, .unset] [(.int i2)])
  obtain ⟨v2, T2, L2, X2, q2, st2⟩ := c_static X1 hx hZ hown (y := (⟨"com/example/sharks/sharks/engine/KeyRangeFollowingPinLaw", "draw", "(I)B"⟩ : MethodName)) (hw _ (List.mem_of_getElem? (i := 1) rfl)) (hw _ (List.mem_of_getElem? (i := 2) rfl)) (hw _ (List.mem_of_getElem? (i := 3) rfl)) (hw _ (List.mem_of_getElem? (i := 4) rfl)) (by decide) (argsL := [(.int i2)]) (rest := []) (rmDr l Z a0 hw [] i2 h0 n0 Z0) e1 pd_2 rfl (by rw [hml]; rfl) (W := 0) (by show 2 * 0 + _ ≤ _; exact Nat.le_of_eq rfl) (by decide) (by decide) (by decide) (by decide) (hb hby at_15) (Ls := #[.val (.int i0), .val (.int i1), .val (.int i2), .val (.int i3), .val (.int i4), .val (.int (Int32.ofNat n)), .val (.int y0), .unset, .unset, .unset, .unset, .unset, .unset, .unset, .unset])
  obtain ⟨y1, rfl, hy1, rfl, e2⟩ := q2
  have N2 := Fr.app N1 (Fr.nil n0)
  refine Go.step (st2) ?_
  show Go _ _ _ _ _ _ _ T2 (mkF m 18 #[.val (.int i0), .val (.int i1), .val (.int i2), .val (.int i3), .val (.int i4), .val (.int (Int32.ofNat n)), .val (.int y0), .unset, .unset, .unset, .unset, .unset, .unset, .unset, .unset] [(.int y1)])
  refine Go.step (fun tt kk => XS.istore X2.here hx rfl (hb hby at_18) rfl (l' := #[.val (.int i0), .val (.int i1), .val (.int i2), .val (.int i3), .val (.int i4), .val (.int (Int32.ofNat n)), .val (.int y0), .val (.int y1), .unset, .unset, .unset, .unset, .unset, .unset, .unset]) rfl kk) ?_
  show Go _ _ _ _ _ _ _ T2 (mkF m 20 #[.val (.int i0), .val (.int i1), .val (.int i2), .val (.int i3), .val (.int i4), .val (.int (Int32.ofNat n)), .val (.int y0), .val (.int y1), .unset, .unset, .unset, .unset, .unset, .unset, .unset] [])
  refine Go.step (fun tt kk => XS.iloadN X2.here hx rfl (hb hby at_20) rfl kk) ?_
  show Go _ _ _ _ _ _ _ T2 (mkF m 21 #[.val (.int i0), .val (.int i1), .val (.int i2), .val (.int i3), .val (.int i4), .val (.int (Int32.ofNat n)), .val (.int y0), .val (.int y1), .unset, .unset, .unset, .unset, .unset, .unset, .unset] [(.int i3)])
  obtain ⟨v3, T3, L3, X3, q3, st3⟩ := c_static X2 hx hZ hown (y := (⟨"com/example/sharks/sharks/engine/KeyRangeFollowingPinLaw", "draw", "(I)B"⟩ : MethodName)) (hw _ (List.mem_of_getElem? (i := 1) rfl)) (hw _ (List.mem_of_getElem? (i := 2) rfl)) (hw _ (List.mem_of_getElem? (i := 3) rfl)) (hw _ (List.mem_of_getElem? (i := 4) rfl)) (by decide) (argsL := [(.int i3)]) (rest := []) (rmDr l Z a0 hw [] i3 h0 n0 Z0) e2 pd_2 rfl (by rw [hml]; rfl) (W := 0) (by show 2 * 0 + _ ≤ _; exact Nat.le_of_eq rfl) (by decide) (by decide) (by decide) (by decide) (hb hby at_21) (Ls := #[.val (.int i0), .val (.int i1), .val (.int i2), .val (.int i3), .val (.int i4), .val (.int (Int32.ofNat n)), .val (.int y0), .val (.int y1), .unset, .unset, .unset, .unset, .unset, .unset, .unset])
  obtain ⟨y2, rfl, hy2, rfl, e3⟩ := q3
  have N3 := Fr.app N2 (Fr.nil n0)
  refine Go.step (st3) ?_
  show Go _ _ _ _ _ _ _ T3 (mkF m 24 #[.val (.int i0), .val (.int i1), .val (.int i2), .val (.int i3), .val (.int i4), .val (.int (Int32.ofNat n)), .val (.int y0), .val (.int y1), .unset, .unset, .unset, .unset, .unset, .unset, .unset] [(.int y2)])
  refine Go.step (fun tt kk => XS.istore X3.here hx rfl (hb hby at_24) rfl (l' := #[.val (.int i0), .val (.int i1), .val (.int i2), .val (.int i3), .val (.int i4), .val (.int (Int32.ofNat n)), .val (.int y0), .val (.int y1), .val (.int y2), .unset, .unset, .unset, .unset, .unset, .unset]) rfl kk) ?_
  show Go _ _ _ _ _ _ _ T3 (mkF m 26 #[.val (.int i0), .val (.int i1), .val (.int i2), .val (.int i3), .val (.int i4), .val (.int (Int32.ofNat n)), .val (.int y0), .val (.int y1), .val (.int y2), .unset, .unset, .unset, .unset, .unset, .unset] [])
  refine Go.step (fun tt kk => XS.iload X3.here hx rfl (hb hby at_26) rfl kk) ?_
  show Go _ _ _ _ _ _ _ T3 (mkF m 28 #[.val (.int i0), .val (.int i1), .val (.int i2), .val (.int i3), .val (.int i4), .val (.int (Int32.ofNat n)), .val (.int y0), .val (.int y1), .val (.int y2), .unset, .unset, .unset, .unset, .unset, .unset] [(.int i4)])
  obtain ⟨v4, T4, L4, X4, q4, st4⟩ := c_static X3 hx hZ hown (y := (⟨"com/example/sharks/sharks/engine/KeyRangeFollowingPinLaw", "draw", "(I)B"⟩ : MethodName)) (hw _ (List.mem_of_getElem? (i := 1) rfl)) (hw _ (List.mem_of_getElem? (i := 2) rfl)) (hw _ (List.mem_of_getElem? (i := 3) rfl)) (hw _ (List.mem_of_getElem? (i := 4) rfl)) (by decide) (argsL := [(.int i4)]) (rest := []) (rmDr l Z a0 hw [] i4 h0 n0 Z0) e3 pd_2 rfl (by rw [hml]; rfl) (W := 0) (by show 2 * 0 + _ ≤ _; exact Nat.le_of_eq rfl) (by decide) (by decide) (by decide) (by decide) (hb hby at_28) (Ls := #[.val (.int i0), .val (.int i1), .val (.int i2), .val (.int i3), .val (.int i4), .val (.int (Int32.ofNat n)), .val (.int y0), .val (.int y1), .val (.int y2), .unset, .unset, .unset, .unset, .unset, .unset])
  obtain ⟨y3, rfl, hy3, rfl, e4⟩ := q4
  have N4 := Fr.app N3 (Fr.nil n0)
  refine Go.step (st4) ?_
  show Go _ _ _ _ _ _ _ T4 (mkF m 31 #[.val (.int i0), .val (.int i1), .val (.int i2), .val (.int i3), .val (.int i4), .val (.int (Int32.ofNat n)), .val (.int y0), .val (.int y1), .val (.int y2), .unset, .unset, .unset, .unset, .unset, .unset] [(.int y3)])
  refine Go.step (fun tt kk => XS.istore X4.here hx rfl (hb hby at_31) rfl (l' := #[.val (.int i0), .val (.int i1), .val (.int i2), .val (.int i3), .val (.int i4), .val (.int (Int32.ofNat n)), .val (.int y0), .val (.int y1), .val (.int y2), .val (.int y3), .unset, .unset, .unset, .unset, .unset]) rfl kk) ?_
  show Go _ _ _ _ _ _ _ T4 (mkF m 33 #[.val (.int i0), .val (.int i1), .val (.int i2), .val (.int i3), .val (.int i4), .val (.int (Int32.ofNat n)), .val (.int y0), .val (.int y1), .val (.int y2), .val (.int y3), .unset, .unset, .unset, .unset, .unset] [])
  obtain ⟨gg, g0, g1, g2, g3⟩ : ∃ g : Nat → Int32, g 0 = y0 ∧ g 1 = y1 ∧ g 2 = y2 ∧ g 3 = y3 := ⟨fun i => if i = 0 then y0 else if i = 1 then y1 else if i = 2 then y2 else y3, rfl, rfl, rfl, rfl⟩
  rw [← g0, ← g1, ← g2, ← g3]
  have hgg : ∀ i, i < n → nar .byte (gg i) = gg i := fun i hi => by
    rcases (by omega : i = 0 ∨ i = 1 ∨ i = 2 ∨ i = 3) with rfl | rfl | rfl | rfl
    · rw [g0]; exact hy0
    · rw [g1]; exact hy1
    · rw [g2]; exact hy2
    · rw [g3]; exact hy3
  have ng0 : nar .byte (gg 0) = gg 0 := by rw [g0]; exact hy0
  have ng1 : nar .byte (gg 1) = gg 1 := by rw [g1]; exact hy1
  have ng2 : nar .byte (gg 2) = gg 2 := by rw [g2]; exact hy2
  have ng3 : nar .byte (gg 3) = gg 3 := by rw [g3]; exact hy3
  show Go _ _ _ _ _ _ _ T4 (mkF m 33 #[.val (.int i0), .val (.int i1), .val (.int i2), .val (.int i3), .val (.int i4), .val (.int (Int32.ofNat n)), .val (.int (gg 0)), .val (.int (gg 1)), .val (.int (gg 2)), .val (.int (gg 3)), .unset, .unset, .unset, .unset, .unset] [])
  refine Go.step (fun tt kk => XS.iload X4.here hx rfl (hb hby at_33) rfl kk) ?_
  show Go _ _ _ _ _ _ _ T4 (mkF m 35 #[.val (.int i0), .val (.int i1), .val (.int i2), .val (.int i3), .val (.int i4), .val (.int (Int32.ofNat n)), .val (.int (gg 0)), .val (.int (gg 1)), .val (.int (gg 2)), .val (.int (gg 3)), .unset, .unset, .unset, .unset, .unset] [(.int (Int32.ofNat n))])
  obtain ⟨T5, h5, k5, X5, e5, E5, A5, EA5, st5⟩ := newPE X4 hx hZ (hw _ (List.mem_of_getElem? (i := 5) rfl)) e4 (g := (mkF m 35 #[.val (.int i0), .val (.int i1), .val (.int i2), .val (.int i3), .val (.int i4), .val (.int (Int32.ofNat n)), .val (.int (gg 0)), .val (.int (gg 1)), .val (.int (gg 2)), .val (.int (gg 3)), .unset, .unset, .unset, .unset, .unset] [(.int (Int32.ofNat n))])) rfl (hb hby at_35) rfl (own_nn n hn) (cap := 4) (by rw [clamp_of (k := n) (Int32.toInt_ofNat_of_lt (by omega))]; omega) (by decide) (by decide) (by decide) (ad := "[B") rfl
  obtain ⟨b5, g5⟩ : ∃ z, z = h0.size := ⟨_, rfl⟩
  rw [← g5] at A5 EA5 st5
  have gn_b5 : n0 ≤ b5 := Nat.le_trans Z0 (Nat.le_of_eq g5.symm)
  have Z5 : n0 ≤ h5.size := Nat.le_trans Z0 E5.1
  have V5 : AV Z h5 b5 .byte n (fun _ => (.int (0 : Int32))) := AV.new A5 (Int32.toInt_ofNat_of_lt (by omega))
  refine Go.step (st5) ?_
  show Go _ _ _ _ _ _ _ T5 (mkF m 37 #[.val (.int i0), .val (.int i1), .val (.int i2), .val (.int i3), .val (.int i4), .val (.int (Int32.ofNat n)), .val (.int (gg 0)), .val (.int (gg 1)), .val (.int (gg 2)), .val (.int (gg 3)), .unset, .unset, .unset, .unset, .unset] [(.ref b5)])
  refine Go.step (fun tt kk => XS.astore X5.here hx rfl (hb hby at_37) rfl rfl (l' := #[.val (.int i0), .val (.int i1), .val (.int i2), .val (.int i3), .val (.int i4), .val (.int (Int32.ofNat n)), .val (.int (gg 0)), .val (.int (gg 1)), .val (.int (gg 2)), .val (.int (gg 3)), .val (.ref b5), .unset, .unset, .unset, .unset]) rfl kk) ?_
  show Go _ _ _ _ _ _ _ T5 (mkF m 39 #[.val (.int i0), .val (.int i1), .val (.int i2), .val (.int i3), .val (.int i4), .val (.int (Int32.ofNat n)), .val (.int (gg 0)), .val (.int (gg 1)), .val (.int (gg 2)), .val (.int (gg 3)), .val (.ref b5), .unset, .unset, .unset, .unset] [])
  refine Go.step (fun tt kk => XS.iload X5.here hx rfl (hb hby at_39) rfl kk) ?_
  show Go _ _ _ _ _ _ _ T5 (mkF m 41 #[.val (.int i0), .val (.int i1), .val (.int i2), .val (.int i3), .val (.int i4), .val (.int (Int32.ofNat n)), .val (.int (gg 0)), .val (.int (gg 1)), .val (.int (gg 2)), .val (.int (gg 3)), .val (.ref b5), .unset, .unset, .unset, .unset] [(.int (Int32.ofNat n))])
  have k50 : ∀ (fn50 : Nat → Value) (T50 : State) (lc50 : List Loc) (hh50 : Heap) (X50 : Stand p l e room_1 s m #[(.int i0), (.int i1), (.int i2), (.int i3), (.int i4)] below meth c T50 lc50 1 4) (e50 : T50.heap = hh50) (N50 : Fr n0 lc50) (Z50 : n0 ≤ hh50.size) (f50_0 : AV Z hh50 b5 .byte n fn50) (f50_1 : Exa Z hh50 b5 "[B") (hf50 : ∀ i, i < 1 → i < n → fn50 i = .int (gg i)),
      Go p e s below 16 128 (fun v h L => v = some (.int (1 : Int32)) ∧ Fr n0 L) T50 (mkF m 50 #[.val (.int i0), .val (.int i1), .val (.int i2), .val (.int i3), .val (.int i4), .val (.int (Int32.ofNat n)), .val (.int (gg 0)), .val (.int (gg 1)), .val (.int (gg 2)), .val (.int (gg 3)), .val (.ref b5), .unset, .unset, .unset, .unset] []) := by
    intro fn50 T50 lc50 hh50 X50 e50 N50 Z50 f50_0 f50_1 hf50
    refine Go.step (fun tt kk => XS.iload X50.here hx rfl (hb hby at_50) rfl kk) ?_
    show Go _ _ _ _ _ _ _ T50 (mkF m 52 #[.val (.int i0), .val (.int i1), .val (.int i2), .val (.int i3), .val (.int i4), .val (.int (Int32.ofNat n)), .val (.int (gg 0)), .val (.int (gg 1)), .val (.int (gg 2)), .val (.int (gg 3)), .val (.ref b5), .unset, .unset, .unset, .unset] [(.int (Int32.ofNat n))])
    refine Go.step (fun tt kk => XS.iconst X50.here hx rfl (hb hby at_52) kk) ?_
    show Go _ _ _ _ _ _ _ T50 (mkF m 53 #[.val (.int i0), .val (.int i1), .val (.int i2), .val (.int i3), .val (.int i4), .val (.int (Int32.ofNat n)), .val (.int (gg 0)), .val (.int (gg 1)), .val (.int (gg 2)), .val (.int (gg 3)), .val (.ref b5), .unset, .unset, .unset, .unset] [(.int (1 : Int32)), (.int (Int32.ofNat n))])
    have k62 : ∀ (fn62 : Nat → Value) (T62 : State) (lc62 : List Loc) (hh62 : Heap) (X62 : Stand p l e room_1 s m #[(.int i0), (.int i1), (.int i2), (.int i3), (.int i4)] below meth c T62 lc62 1 4) (e62 : T62.heap = hh62) (N62 : Fr n0 lc62) (Z62 : n0 ≤ hh62.size) (f62_0 : AV Z hh62 b5 .byte n fn62) (f62_1 : Exa Z hh62 b5 "[B") (hf62 : ∀ i, i < 2 → i < n → fn62 i = .int (gg i)),
        Go p e s below 16 128 (fun v h L => v = some (.int (1 : Int32)) ∧ Fr n0 L) T62 (mkF m 62 #[.val (.int i0), .val (.int i1), .val (.int i2), .val (.int i3), .val (.int i4), .val (.int (Int32.ofNat n)), .val (.int (gg 0)), .val (.int (gg 1)), .val (.int (gg 2)), .val (.int (gg 3)), .val (.ref b5), .unset, .unset, .unset, .unset] []) := by
      intro fn62 T62 lc62 hh62 X62 e62 N62 Z62 f62_0 f62_1 hf62
      refine Go.step (fun tt kk => XS.iload X62.here hx rfl (hb hby at_62) rfl kk) ?_
      show Go _ _ _ _ _ _ _ T62 (mkF m 64 #[.val (.int i0), .val (.int i1), .val (.int i2), .val (.int i3), .val (.int i4), .val (.int (Int32.ofNat n)), .val (.int (gg 0)), .val (.int (gg 1)), .val (.int (gg 2)), .val (.int (gg 3)), .val (.ref b5), .unset, .unset, .unset, .unset] [(.int (Int32.ofNat n))])
      refine Go.step (fun tt kk => XS.iconst X62.here hx rfl (hb hby at_64) kk) ?_
      show Go _ _ _ _ _ _ _ T62 (mkF m 65 #[.val (.int i0), .val (.int i1), .val (.int i2), .val (.int i3), .val (.int i4), .val (.int (Int32.ofNat n)), .val (.int (gg 0)), .val (.int (gg 1)), .val (.int (gg 2)), .val (.int (gg 3)), .val (.ref b5), .unset, .unset, .unset, .unset] [(.int (2 : Int32)), (.int (Int32.ofNat n))])
      have k74 : ∀ (fn74 : Nat → Value) (T74 : State) (lc74 : List Loc) (hh74 : Heap) (X74 : Stand p l e room_1 s m #[(.int i0), (.int i1), (.int i2), (.int i3), (.int i4)] below meth c T74 lc74 1 4) (e74 : T74.heap = hh74) (N74 : Fr n0 lc74) (Z74 : n0 ≤ hh74.size) (f74_0 : AV Z hh74 b5 .byte n fn74) (f74_1 : Exa Z hh74 b5 "[B") (hf74 : ∀ i, i < 3 → i < n → fn74 i = .int (gg i)),
          Go p e s below 16 128 (fun v h L => v = some (.int (1 : Int32)) ∧ Fr n0 L) T74 (mkF m 74 #[.val (.int i0), .val (.int i1), .val (.int i2), .val (.int i3), .val (.int i4), .val (.int (Int32.ofNat n)), .val (.int (gg 0)), .val (.int (gg 1)), .val (.int (gg 2)), .val (.int (gg 3)), .val (.ref b5), .unset, .unset, .unset, .unset] []) := by
        intro fn74 T74 lc74 hh74 X74 e74 N74 Z74 f74_0 f74_1 hf74
        refine Go.step (fun tt kk => XS.iload X74.here hx rfl (hb hby at_74) rfl kk) ?_
        show Go _ _ _ _ _ _ _ T74 (mkF m 76 #[.val (.int i0), .val (.int i1), .val (.int i2), .val (.int i3), .val (.int i4), .val (.int (Int32.ofNat n)), .val (.int (gg 0)), .val (.int (gg 1)), .val (.int (gg 2)), .val (.int (gg 3)), .val (.ref b5), .unset, .unset, .unset, .unset] [(.int (Int32.ofNat n))])
        refine Go.step (fun tt kk => XS.iconst X74.here hx rfl (hb hby at_76) kk) ?_
        show Go _ _ _ _ _ _ _ T74 (mkF m 77 #[.val (.int i0), .val (.int i1), .val (.int i2), .val (.int i3), .val (.int i4), .val (.int (Int32.ofNat n)), .val (.int (gg 0)), .val (.int (gg 1)), .val (.int (gg 2)), .val (.int (gg 3)), .val (.ref b5), .unset, .unset, .unset, .unset] [(.int (3 : Int32)), (.int (Int32.ofNat n))])
        have k86 : ∀ (fn86 : Nat → Value) (T86 : State) (lc86 : List Loc) (hh86 : Heap) (X86 : Stand p l e room_1 s m #[(.int i0), (.int i1), (.int i2), (.int i3), (.int i4)] below meth c T86 lc86 1 4) (e86 : T86.heap = hh86) (N86 : Fr n0 lc86) (Z86 : n0 ≤ hh86.size) (f86_0 : AV Z hh86 b5 .byte n fn86) (f86_1 : Exa Z hh86 b5 "[B") (hf86 : ∀ i, i < 4 → i < n → fn86 i = .int (gg i)),
            Go p e s below 16 128 (fun v h L => v = some (.int (1 : Int32)) ∧ Fr n0 L) T86 (mkF m 86 #[.val (.int i0), .val (.int i1), .val (.int i2), .val (.int i3), .val (.int i4), .val (.int (Int32.ofNat n)), .val (.int (gg 0)), .val (.int (gg 1)), .val (.int (gg 2)), .val (.int (gg 3)), .val (.ref b5), .unset, .unset, .unset, .unset] []) := by
          intro fn86 T86 lc86 hh86 X86 e86 N86 Z86 f86_0 f86_1 hf86
          have V6 : AV Z hh86 b5 .byte n (fun i => .int (gg i)) := f86_0.congr fun i hi => hf86 i (by omega) hi
          refine Go.step (fun tt kk => XS.aload X86.here hx rfl (hb hby at_86) rfl rfl kk) ?_
          show Go _ _ _ _ _ _ _ T86 (mkF m 88 #[.val (.int i0), .val (.int i1), .val (.int i2), .val (.int i3), .val (.int i4), .val (.int (Int32.ofNat n)), .val (.int (gg 0)), .val (.int (gg 1)), .val (.int (gg 2)), .val (.int (gg 3)), .val (.ref b5), .unset, .unset, .unset, .unset] [(.ref b5)])
          obtain ⟨v7, T7, L7, X7, q7, st7⟩ := c_static X86 hx hZ hown (y := (⟨"com/example/sharks/sharks/engine/KeyRange", "following", "([B)[B"⟩ : MethodName)) (hw _ (List.mem_of_getElem? (i := 6) rfl)) (hw _ (List.mem_of_getElem? (i := 7) rfl)) (hw _ (List.mem_of_getElem? (i := 8) rfl)) (hw _ (List.mem_of_getElem? (i := 9) rfl)) (by decide) (argsL := [(.ref b5)]) (rest := []) (rmFo l Z a0 hw [] b5 n gg hh86 n0 Z86 hn V6 f86_1 hgg) e86 pd_3 rfl (by rw [hml]; rfl) (W := 0) (by show 2 * 0 + _ ≤ _; exact Nat.le_of_eq rfl) (by decide) (by decide) (by decide) (by decide) (hb hby at_88) (Ls := #[.val (.int i0), .val (.int i1), .val (.int i2), .val (.int i3), .val (.int i4), .val (.int (Int32.ofNat n)), .val (.int (gg 0)), .val (.int (gg 1)), .val (.int (gg 2)), .val (.int (gg 3)), .val (.ref b5), .unset, .unset, .unset, .unset])
          generalize e7 : T7.heap = h7 at q7
          obtain ⟨rr, rfl, N7q, K7q, hd⟩ := q7
          have N7 := Fr.app N86 N7q
          have Z7 : n0 ≤ h7.size := Nat.le_trans Z86 K7q.1
          refine Go.step (st7) ?_
          show Go _ _ _ _ _ _ _ T7 (mkF m 91 #[.val (.int i0), .val (.int i1), .val (.int i2), .val (.int i3), .val (.int i4), .val (.int (Int32.ofNat n)), .val (.int (gg 0)), .val (.int (gg 1)), .val (.int (gg 2)), .val (.int (gg 3)), .val (.ref b5), .unset, .unset, .unset, .unset] [rr])
          rcases hd with ⟨rfl, hall⟩ | ⟨t, rb, rfl, htn, htg, htj, hsz, VR⟩
          · show Go _ _ _ _ _ _ _ T7 (mkF m 91 #[.val (.int i0), .val (.int i1), .val (.int i2), .val (.int i3), .val (.int i4), .val (.int (Int32.ofNat n)), .val (.int (gg 0)), .val (.int (gg 1)), .val (.int (gg 2)), .val (.int (gg 3)), .val (.ref b5), .unset, .unset, .unset, .unset] [.null])
            refine Go.step (fun tt kk => XS.astore X7.here hx rfl (hb hby at_91) rfl rfl (l' := #[.val (.int i0), .val (.int i1), .val (.int i2), .val (.int i3), .val (.int i4), .val (.int (Int32.ofNat n)), .val (.int (gg 0)), .val (.int (gg 1)), .val (.int (gg 2)), .val (.int (gg 3)), .val (.ref b5), .val .null, .unset, .unset, .unset]) rfl kk) ?_
            show Go _ _ _ _ _ _ _ T7 (mkF m 93 #[.val (.int i0), .val (.int i1), .val (.int i2), .val (.int i3), .val (.int i4), .val (.int (Int32.ofNat n)), .val (.int (gg 0)), .val (.int (gg 1)), .val (.int (gg 2)), .val (.int (gg 3)), .val (.ref b5), .val .null, .unset, .unset, .unset] [])
            refine Go.step (fun tt kk => XS.aload X7.here hx rfl (hb hby at_93) rfl rfl kk) ?_
            show Go _ _ _ _ _ _ _ T7 (mkF m 95 #[.val (.int i0), .val (.int i1), .val (.int i2), .val (.int i3), .val (.int i4), .val (.int (Int32.ofNat n)), .val (.int (gg 0)), .val (.int (gg 1)), .val (.int (gg 2)), .val (.int (gg 3)), .val (.ref b5), .val .null, .unset, .unset, .unset] [(.ref b5)])
            have f8 := (V6.keep K7q nin0)
            refine Go.step (a_len X7 hx hZ e7 f8 (z := (Int32.ofNat n)) (Int32.toInt_ofNat_of_lt (by omega)) (hb hby at_95)) ?_
            show Go _ _ _ _ _ _ _ T7 (mkF m 96 #[.val (.int i0), .val (.int i1), .val (.int i2), .val (.int i3), .val (.int i4), .val (.int (Int32.ofNat n)), .val (.int (gg 0)), .val (.int (gg 1)), .val (.int (gg 2)), .val (.int (gg 3)), .val (.ref b5), .val .null, .unset, .unset, .unset] [(.int (Int32.ofNat n))])
            refine Go.step (fun tt kk => XS.iload X7.here hx rfl (hb hby at_96) rfl kk) ?_
            show Go _ _ _ _ _ _ _ T7 (mkF m 98 #[.val (.int i0), .val (.int i1), .val (.int i2), .val (.int i3), .val (.int i4), .val (.int (Int32.ofNat n)), .val (.int (gg 0)), .val (.int (gg 1)), .val (.int (gg 2)), .val (.int (gg 3)), .val (.ref b5), .val .null, .unset, .unset, .unset] [(.int (Int32.ofNat n)), (.int (Int32.ofNat n))])
            refine Go.step (fun tt kk => XS.icmpNo X7.here hx rfl (hb hby at_98) rfl (teq rfl).2 kk) ?_
            show Go _ _ _ _ _ _ _ T7 (mkF m 101 #[.val (.int i0), .val (.int i1), .val (.int i2), .val (.int i3), .val (.int i4), .val (.int (Int32.ofNat n)), .val (.int (gg 0)), .val (.int (gg 1)), .val (.int (gg 2)), .val (.int (gg 3)), .val (.ref b5), .val .null, .unset, .unset, .unset] [])
            refine Go.step (fun tt kk => XS.iload X7.here hx rfl (hb hby at_101) rfl kk) ?_
            show Go _ _ _ _ _ _ _ T7 (mkF m 103 #[.val (.int i0), .val (.int i1), .val (.int i2), .val (.int i3), .val (.int i4), .val (.int (Int32.ofNat n)), .val (.int (gg 0)), .val (.int (gg 1)), .val (.int (gg 2)), .val (.int (gg 3)), .val (.ref b5), .val .null, .unset, .unset, .unset] [(.int (Int32.ofNat n))])
            have j103 : Go p e s below 16 128 (fun v h L => v = some (.int (1 : Int32)) ∧ Fr n0 L) T7 (mkF m 115 #[.val (.int i0), .val (.int i1), .val (.int i2), .val (.int i3), .val (.int i4), .val (.int (Int32.ofNat n)), .val (.int (gg 0)), .val (.int (gg 1)), .val (.int (gg 2)), .val (.int (gg 3)), .val (.ref b5), .val .null, .unset, .unset, .unset] []) := by
              refine Go.step (fun tt kk => XS.iload X7.here hx rfl (hb hby at_115) rfl kk) ?_
              show Go _ _ _ _ _ _ _ T7 (mkF m 117 #[.val (.int i0), .val (.int i1), .val (.int i2), .val (.int i3), .val (.int i4), .val (.int (Int32.ofNat n)), .val (.int (gg 0)), .val (.int (gg 1)), .val (.int (gg 2)), .val (.int (gg 3)), .val (.ref b5), .val .null, .unset, .unset, .unset] [(.int (Int32.ofNat n))])
              refine Go.step (fun tt kk => XS.iconst X7.here hx rfl (hb hby at_117) kk) ?_
              show Go _ _ _ _ _ _ _ T7 (mkF m 118 #[.val (.int i0), .val (.int i1), .val (.int i2), .val (.int i3), .val (.int i4), .val (.int (Int32.ofNat n)), .val (.int (gg 0)), .val (.int (gg 1)), .val (.int (gg 2)), .val (.int (gg 3)), .val (.ref b5), .val .null, .unset, .unset, .unset] [(.int (1 : Int32)), (.int (Int32.ofNat n))])
              have j118 : Go p e s below 16 128 (fun v h L => v = some (.int (1 : Int32)) ∧ Fr n0 L) T7 (mkF m 130 #[.val (.int i0), .val (.int i1), .val (.int i2), .val (.int i3), .val (.int i4), .val (.int (Int32.ofNat n)), .val (.int (gg 0)), .val (.int (gg 1)), .val (.int (gg 2)), .val (.int (gg 3)), .val (.ref b5), .val .null, .unset, .unset, .unset] []) := by
                refine Go.step (fun tt kk => XS.iload X7.here hx rfl (hb hby at_130) rfl kk) ?_
                show Go _ _ _ _ _ _ _ T7 (mkF m 132 #[.val (.int i0), .val (.int i1), .val (.int i2), .val (.int i3), .val (.int i4), .val (.int (Int32.ofNat n)), .val (.int (gg 0)), .val (.int (gg 1)), .val (.int (gg 2)), .val (.int (gg 3)), .val (.ref b5), .val .null, .unset, .unset, .unset] [(.int (Int32.ofNat n))])
                refine Go.step (fun tt kk => XS.iconst X7.here hx rfl (hb hby at_132) kk) ?_
                show Go _ _ _ _ _ _ _ T7 (mkF m 133 #[.val (.int i0), .val (.int i1), .val (.int i2), .val (.int i3), .val (.int i4), .val (.int (Int32.ofNat n)), .val (.int (gg 0)), .val (.int (gg 1)), .val (.int (gg 2)), .val (.int (gg 3)), .val (.ref b5), .val .null, .unset, .unset, .unset] [(.int (2 : Int32)), (.int (Int32.ofNat n))])
                have j133 : Go p e s below 16 128 (fun v h L => v = some (.int (1 : Int32)) ∧ Fr n0 L) T7 (mkF m 145 #[.val (.int i0), .val (.int i1), .val (.int i2), .val (.int i3), .val (.int i4), .val (.int (Int32.ofNat n)), .val (.int (gg 0)), .val (.int (gg 1)), .val (.int (gg 2)), .val (.int (gg 3)), .val (.ref b5), .val .null, .unset, .unset, .unset] []) := by
                  refine Go.step (fun tt kk => XS.iload X7.here hx rfl (hb hby at_145) rfl kk) ?_
                  show Go _ _ _ _ _ _ _ T7 (mkF m 147 #[.val (.int i0), .val (.int i1), .val (.int i2), .val (.int i3), .val (.int i4), .val (.int (Int32.ofNat n)), .val (.int (gg 0)), .val (.int (gg 1)), .val (.int (gg 2)), .val (.int (gg 3)), .val (.ref b5), .val .null, .unset, .unset, .unset] [(.int (Int32.ofNat n))])
                  refine Go.step (fun tt kk => XS.iconst X7.here hx rfl (hb hby at_147) kk) ?_
                  show Go _ _ _ _ _ _ _ T7 (mkF m 148 #[.val (.int i0), .val (.int i1), .val (.int i2), .val (.int i3), .val (.int i4), .val (.int (Int32.ofNat n)), .val (.int (gg 0)), .val (.int (gg 1)), .val (.int (gg 2)), .val (.int (gg 3)), .val (.ref b5), .val .null, .unset, .unset, .unset] [(.int (3 : Int32)), (.int (Int32.ofNat n))])
                  have j148 : Go p e s below 16 128 (fun v h L => v = some (.int (1 : Int32)) ∧ Fr n0 L) T7 (mkF m 160 #[.val (.int i0), .val (.int i1), .val (.int i2), .val (.int i3), .val (.int i4), .val (.int (Int32.ofNat n)), .val (.int (gg 0)), .val (.int (gg 1)), .val (.int (gg 2)), .val (.int (gg 3)), .val (.ref b5), .val .null, .unset, .unset, .unset] []) := by
                    refine Go.step (fun tt kk => XS.iconst X7.here hx rfl (hb hby at_160) kk) ?_
                    show Go _ _ _ _ _ _ _ T7 (mkF m 161 #[.val (.int i0), .val (.int i1), .val (.int i2), .val (.int i3), .val (.int i4), .val (.int (Int32.ofNat n)), .val (.int (gg 0)), .val (.int (gg 1)), .val (.int (gg 2)), .val (.int (gg 3)), .val (.ref b5), .val .null, .unset, .unset, .unset] [(.int (1 : Int32))])
                    refine Go.step (fun tt kk => XS.goto X7.here hx rfl (pc0 := 161) (pc' := 165) rfl (hb hby at_161) (by decide) (by decide) kk) ?_
                    show Go _ _ _ _ _ _ _ T7 (mkF m 165 #[.val (.int i0), .val (.int i1), .val (.int i2), .val (.int i3), .val (.int i4), .val (.int (Int32.ofNat n)), .val (.int (gg 0)), .val (.int (gg 1)), .val (.int (gg 2)), .val (.int (gg 3)), .val (.ref b5), .val .null, .unset, .unset, .unset] [(.int (1 : Int32))])
                    refine Go.step (fun tt kk => XS.istore X7.here hx rfl (hb hby at_165) rfl (l' := #[.val (.int i0), .val (.int i1), .val (.int i2), .val (.int i3), .val (.int i4), .val (.int (Int32.ofNat n)), .val (.int (gg 0)), .val (.int (gg 1)), .val (.int (gg 2)), .val (.int (gg 3)), .val (.ref b5), .val .null, .val (.int (1 : Int32)), .unset, .unset]) rfl kk) ?_
                    show Go _ _ _ _ _ _ _ T7 (mkF m 167 #[.val (.int i0), .val (.int i1), .val (.int i2), .val (.int i3), .val (.int i4), .val (.int (Int32.ofNat n)), .val (.int (gg 0)), .val (.int (gg 1)), .val (.int (gg 2)), .val (.int (gg 3)), .val (.ref b5), .val .null, .val (.int (1 : Int32)), .unset, .unset] [])
                    refine Go.step (fun tt kk => XS.iconst X7.here hx rfl (hb hby at_167) kk) ?_
                    show Go _ _ _ _ _ _ _ T7 (mkF m 168 #[.val (.int i0), .val (.int i1), .val (.int i2), .val (.int i3), .val (.int i4), .val (.int (Int32.ofNat n)), .val (.int (gg 0)), .val (.int (gg 1)), .val (.int (gg 2)), .val (.int (gg 3)), .val (.ref b5), .val .null, .val (.int (1 : Int32)), .unset, .unset] [(.int (-1 : Int32))])
                    refine Go.step (fun tt kk => XS.istore X7.here hx rfl (hb hby at_168) rfl (l' := #[.val (.int i0), .val (.int i1), .val (.int i2), .val (.int i3), .val (.int i4), .val (.int (Int32.ofNat n)), .val (.int (gg 0)), .val (.int (gg 1)), .val (.int (gg 2)), .val (.int (gg 3)), .val (.ref b5), .val .null, .val (.int (1 : Int32)), .val (.int (-1 : Int32)), .unset]) rfl kk) ?_
                    show Go _ _ _ _ _ _ _ T7 (mkF m 170 #[.val (.int i0), .val (.int i1), .val (.int i2), .val (.int i3), .val (.int i4), .val (.int (Int32.ofNat n)), .val (.int (gg 0)), .val (.int (gg 1)), .val (.int (gg 2)), .val (.int (gg 3)), .val (.ref b5), .val .null, .val (.int (1 : Int32)), .val (.int (-1 : Int32)), .unset] [])
                    refine Go.step (fun tt kk => XS.iconst X7.here hx rfl (hb hby at_170) kk) ?_
                    show Go _ _ _ _ _ _ _ T7 (mkF m 171 #[.val (.int i0), .val (.int i1), .val (.int i2), .val (.int i3), .val (.int i4), .val (.int (Int32.ofNat n)), .val (.int (gg 0)), .val (.int (gg 1)), .val (.int (gg 2)), .val (.int (gg 3)), .val (.ref b5), .val .null, .val (.int (1 : Int32)), .val (.int (-1 : Int32)), .unset] [(.int (-1 : Int32))])
                    refine Go.step (fun tt kk => XS.istore X7.here hx rfl (hb hby at_171) rfl (l' := #[.val (.int i0), .val (.int i1), .val (.int i2), .val (.int i3), .val (.int i4), .val (.int (Int32.ofNat n)), .val (.int (gg 0)), .val (.int (gg 1)), .val (.int (gg 2)), .val (.int (gg 3)), .val (.ref b5), .val .null, .val (.int (1 : Int32)), .val (.int (-1 : Int32)), .val (.int (-1 : Int32))]) rfl kk) ?_
                    show Go _ _ _ _ _ _ _ T7 (mkF m 173 #[.val (.int i0), .val (.int i1), .val (.int i2), .val (.int i3), .val (.int i4), .val (.int (Int32.ofNat n)), .val (.int (gg 0)), .val (.int (gg 1)), .val (.int (gg 2)), .val (.int (gg 3)), .val (.ref b5), .val .null, .val (.int (1 : Int32)), .val (.int (-1 : Int32)), .val (.int (-1 : Int32))] [])
                    refine Go.step (fun tt kk => XS.iload X7.here hx rfl (hb hby at_173) rfl kk) ?_
                    show Go _ _ _ _ _ _ _ T7 (mkF m 175 #[.val (.int i0), .val (.int i1), .val (.int i2), .val (.int i3), .val (.int i4), .val (.int (Int32.ofNat n)), .val (.int (gg 0)), .val (.int (gg 1)), .val (.int (gg 2)), .val (.int (gg 3)), .val (.ref b5), .val .null, .val (.int (1 : Int32)), .val (.int (-1 : Int32)), .val (.int (-1 : Int32))] [(.int (Int32.ofNat n))])
                    refine Go.step (fun tt kk => XS.iconst X7.here hx rfl (hb hby at_175) kk) ?_
                    show Go _ _ _ _ _ _ _ T7 (mkF m 176 #[.val (.int i0), .val (.int i1), .val (.int i2), .val (.int i3), .val (.int i4), .val (.int (Int32.ofNat n)), .val (.int (gg 0)), .val (.int (gg 1)), .val (.int (gg 2)), .val (.int (gg 3)), .val (.ref b5), .val .null, .val (.int (1 : Int32)), .val (.int (-1 : Int32)), .val (.int (-1 : Int32))] [(.int (1 : Int32)), (.int (Int32.ofNat n))])
                    have j176 : ∀ z1 : Int32, (LastIs gg n 1 z1) → Go p e s below 16 128 (fun v h L => v = some (.int (1 : Int32)) ∧ Fr n0 L) T7 (mkF m 189 #[.val (.int i0), .val (.int i1), .val (.int i2), .val (.int i3), .val (.int i4), .val (.int (Int32.ofNat n)), .val (.int (gg 0)), .val (.int (gg 1)), .val (.int (gg 2)), .val (.int (gg 3)), .val (.ref b5), .val .null, .val (.int (1 : Int32)), .val (.int (-1 : Int32)), .val (.int z1)] []) := by
                      intro z1 hz1
                      refine Go.step (fun tt kk => XS.iload X7.here hx rfl (hb hby at_189) rfl kk) ?_
                      show Go _ _ _ _ _ _ _ T7 (mkF m 191 #[.val (.int i0), .val (.int i1), .val (.int i2), .val (.int i3), .val (.int i4), .val (.int (Int32.ofNat n)), .val (.int (gg 0)), .val (.int (gg 1)), .val (.int (gg 2)), .val (.int (gg 3)), .val (.ref b5), .val .null, .val (.int (1 : Int32)), .val (.int (-1 : Int32)), .val (.int z1)] [(.int (Int32.ofNat n))])
                      refine Go.step (fun tt kk => XS.iconst X7.here hx rfl (hb hby at_191) kk) ?_
                      show Go _ _ _ _ _ _ _ T7 (mkF m 192 #[.val (.int i0), .val (.int i1), .val (.int i2), .val (.int i3), .val (.int i4), .val (.int (Int32.ofNat n)), .val (.int (gg 0)), .val (.int (gg 1)), .val (.int (gg 2)), .val (.int (gg 3)), .val (.ref b5), .val .null, .val (.int (1 : Int32)), .val (.int (-1 : Int32)), .val (.int z1)] [(.int (2 : Int32)), (.int (Int32.ofNat n))])
                      have j192 : ∀ z2 : Int32, (LastIs gg n 2 z2) → Go p e s below 16 128 (fun v h L => v = some (.int (1 : Int32)) ∧ Fr n0 L) T7 (mkF m 205 #[.val (.int i0), .val (.int i1), .val (.int i2), .val (.int i3), .val (.int i4), .val (.int (Int32.ofNat n)), .val (.int (gg 0)), .val (.int (gg 1)), .val (.int (gg 2)), .val (.int (gg 3)), .val (.ref b5), .val .null, .val (.int (1 : Int32)), .val (.int (-1 : Int32)), .val (.int z2)] []) := by
                        intro z2 hz2
                        refine Go.step (fun tt kk => XS.iload X7.here hx rfl (hb hby at_205) rfl kk) ?_
                        show Go _ _ _ _ _ _ _ T7 (mkF m 207 #[.val (.int i0), .val (.int i1), .val (.int i2), .val (.int i3), .val (.int i4), .val (.int (Int32.ofNat n)), .val (.int (gg 0)), .val (.int (gg 1)), .val (.int (gg 2)), .val (.int (gg 3)), .val (.ref b5), .val .null, .val (.int (1 : Int32)), .val (.int (-1 : Int32)), .val (.int z2)] [(.int (Int32.ofNat n))])
                        refine Go.step (fun tt kk => XS.iconst X7.here hx rfl (hb hby at_207) kk) ?_
                        show Go _ _ _ _ _ _ _ T7 (mkF m 208 #[.val (.int i0), .val (.int i1), .val (.int i2), .val (.int i3), .val (.int i4), .val (.int (Int32.ofNat n)), .val (.int (gg 0)), .val (.int (gg 1)), .val (.int (gg 2)), .val (.int (gg 3)), .val (.ref b5), .val .null, .val (.int (1 : Int32)), .val (.int (-1 : Int32)), .val (.int z2)] [(.int (3 : Int32)), (.int (Int32.ofNat n))])
                        have j208 : ∀ z3 : Int32, (LastIs gg n 3 z3) → Go p e s below 16 128 (fun v h L => v = some (.int (1 : Int32)) ∧ Fr n0 L) T7 (mkF m 221 #[.val (.int i0), .val (.int i1), .val (.int i2), .val (.int i3), .val (.int i4), .val (.int (Int32.ofNat n)), .val (.int (gg 0)), .val (.int (gg 1)), .val (.int (gg 2)), .val (.int (gg 3)), .val (.ref b5), .val .null, .val (.int (1 : Int32)), .val (.int (-1 : Int32)), .val (.int z3)] []) := by
                          intro z3 hz3
                          refine Go.step (fun tt kk => XS.iload X7.here hx rfl (hb hby at_221) rfl kk) ?_
                          show Go _ _ _ _ _ _ _ T7 (mkF m 223 #[.val (.int i0), .val (.int i1), .val (.int i2), .val (.int i3), .val (.int i4), .val (.int (Int32.ofNat n)), .val (.int (gg 0)), .val (.int (gg 1)), .val (.int (gg 2)), .val (.int (gg 3)), .val (.ref b5), .val .null, .val (.int (1 : Int32)), .val (.int (-1 : Int32)), .val (.int z3)] [(.int (Int32.ofNat n))])
                          refine Go.step (fun tt kk => XS.iconst X7.here hx rfl (hb hby at_223) kk) ?_
                          show Go _ _ _ _ _ _ _ T7 (mkF m 224 #[.val (.int i0), .val (.int i1), .val (.int i2), .val (.int i3), .val (.int i4), .val (.int (Int32.ofNat n)), .val (.int (gg 0)), .val (.int (gg 1)), .val (.int (gg 2)), .val (.int (gg 3)), .val (.ref b5), .val .null, .val (.int (1 : Int32)), .val (.int (-1 : Int32)), .val (.int z3)] [(.int (4 : Int32)), (.int (Int32.ofNat n))])
                          have j224 : ∀ z4 : Int32, (LastIs gg n 4 z4) → Go p e s below 16 128 (fun v h L => v = some (.int (1 : Int32)) ∧ Fr n0 L) T7 (mkF m 237 #[.val (.int i0), .val (.int i1), .val (.int i2), .val (.int i3), .val (.int i4), .val (.int (Int32.ofNat n)), .val (.int (gg 0)), .val (.int (gg 1)), .val (.int (gg 2)), .val (.int (gg 3)), .val (.ref b5), .val .null, .val (.int (1 : Int32)), .val (.int (-1 : Int32)), .val (.int z4)] []) := by
                            intro z4 hz4
                            obtain rfl := LastIs.none hz4 hn hall
                            show Go _ _ _ _ _ _ _ T7 (mkF m 237 #[.val (.int i0), .val (.int i1), .val (.int i2), .val (.int i3), .val (.int i4), .val (.int (Int32.ofNat n)), .val (.int (gg 0)), .val (.int (gg 1)), .val (.int (gg 2)), .val (.int (gg 3)), .val (.ref b5), .val .null, .val (.int (1 : Int32)), .val (.int (-1 : Int32)), .val (.int (-1 : Int32))] [])
                            refine Go.step (fun tt kk => XS.iload X7.here hx rfl (hb hby at_237) rfl kk) ?_
                            show Go _ _ _ _ _ _ _ T7 (mkF m 239 #[.val (.int i0), .val (.int i1), .val (.int i2), .val (.int i3), .val (.int i4), .val (.int (Int32.ofNat n)), .val (.int (gg 0)), .val (.int (gg 1)), .val (.int (gg 2)), .val (.int (gg 3)), .val (.ref b5), .val .null, .val (.int (1 : Int32)), .val (.int (-1 : Int32)), .val (.int (-1 : Int32))] [(.int (-1 : Int32))])
                            refine Go.step (fun tt kk => XS.ifNo X7.here hx rfl (hb hby at_239) rfl ((if0 _ _).trans (tlt (by decide)).2.1) kk) ?_
                            show Go _ _ _ _ _ _ _ T7 (mkF m 242 #[.val (.int i0), .val (.int i1), .val (.int i2), .val (.int i3), .val (.int i4), .val (.int (Int32.ofNat n)), .val (.int (gg 0)), .val (.int (gg 1)), .val (.int (gg 2)), .val (.int (gg 3)), .val (.ref b5), .val .null, .val (.int (1 : Int32)), .val (.int (-1 : Int32)), .val (.int (-1 : Int32))] [])
                            refine Go.step (fun tt kk => XS.iload X7.here hx rfl (hb hby at_242) rfl kk) ?_
                            show Go _ _ _ _ _ _ _ T7 (mkF m 244 #[.val (.int i0), .val (.int i1), .val (.int i2), .val (.int i3), .val (.int i4), .val (.int (Int32.ofNat n)), .val (.int (gg 0)), .val (.int (gg 1)), .val (.int (gg 2)), .val (.int (gg 3)), .val (.ref b5), .val .null, .val (.int (1 : Int32)), .val (.int (-1 : Int32)), .val (.int (-1 : Int32))] [(.int (1 : Int32))])
                            refine Go.step (fun tt kk => XS.ifNo X7.here hx rfl (hb hby at_244) rfl ((if0 _ _).trans (feq (by decide)).1) kk) ?_
                            show Go _ _ _ _ _ _ _ T7 (mkF m 247 #[.val (.int i0), .val (.int i1), .val (.int i2), .val (.int i3), .val (.int i4), .val (.int (Int32.ofNat n)), .val (.int (gg 0)), .val (.int (gg 1)), .val (.int (gg 2)), .val (.int (gg 3)), .val (.ref b5), .val .null, .val (.int (1 : Int32)), .val (.int (-1 : Int32)), .val (.int (-1 : Int32))] [])
                            refine Go.step (fun tt kk => XS.aload X7.here hx rfl (hb hby at_247) rfl rfl kk) ?_
                            show Go _ _ _ _ _ _ _ T7 (mkF m 249 #[.val (.int i0), .val (.int i1), .val (.int i2), .val (.int i3), .val (.int i4), .val (.int (Int32.ofNat n)), .val (.int (gg 0)), .val (.int (gg 1)), .val (.int (gg 2)), .val (.int (gg 3)), .val (.ref b5), .val .null, .val (.int (1 : Int32)), .val (.int (-1 : Int32)), .val (.int (-1 : Int32))] [.null])
                            refine Go.step (fun tt kk => XS.ifnonnullNo X7.here hx rfl (hb hby at_249) rfl kk) ?_
                            show Go _ _ _ _ _ _ _ T7 (mkF m 252 #[.val (.int i0), .val (.int i1), .val (.int i2), .val (.int i3), .val (.int i4), .val (.int (Int32.ofNat n)), .val (.int (gg 0)), .val (.int (gg 1)), .val (.int (gg 2)), .val (.int (gg 3)), .val (.ref b5), .val .null, .val (.int (1 : Int32)), .val (.int (-1 : Int32)), .val (.int (-1 : Int32))] [])
                            refine Go.step (fun tt kk => XS.iconst X7.here hx rfl (hb hby at_252) kk) ?_
                            show Go _ _ _ _ _ _ _ T7 (mkF m 253 #[.val (.int i0), .val (.int i1), .val (.int i2), .val (.int i3), .val (.int i4), .val (.int (Int32.ofNat n)), .val (.int (gg 0)), .val (.int (gg 1)), .val (.int (gg 2)), .val (.int (gg 3)), .val (.ref b5), .val .null, .val (.int (1 : Int32)), .val (.int (-1 : Int32)), .val (.int (-1 : Int32))] [(.int (1 : Int32))])
                            refine Go.step (fun tt kk => XS.goto X7.here hx rfl (pc0 := 253) (pc' := 257) rfl (hb hby at_253) (by decide) (by decide) kk) ?_
                            show Go _ _ _ _ _ _ _ T7 (mkF m 257 #[.val (.int i0), .val (.int i1), .val (.int i2), .val (.int i3), .val (.int i4), .val (.int (Int32.ofNat n)), .val (.int (gg 0)), .val (.int (gg 1)), .val (.int (gg 2)), .val (.int (gg 3)), .val (.ref b5), .val .null, .val (.int (1 : Int32)), .val (.int (-1 : Int32)), .val (.int (-1 : Int32))] [(.int (1 : Int32))])
                            refine go_retN X7 hx (t := .boolean) hret (by simp) hlk (hb hby at_257) (w := (1 : Int32)) rfl ?_ (by decide) (by decide)
                            try rw [e7]
                            exact ⟨rfl, N7⟩
                          by_cases c224_9 : (Int32.ofNat n) < (4 : Int32)
                          · refine Go.step (fun tt kk => XS.icmpYes X7.here hx rfl (pc0 := 224) (pc' := 237) rfl (hb hby at_224) rfl (tlt c224_9).1 (by decide) (by decide) kk) ?_
                            show Go _ _ _ _ _ _ _ T7 (mkF m 237 #[.val (.int i0), .val (.int i1), .val (.int i2), .val (.int i3), .val (.int i4), .val (.int (Int32.ofNat n)), .val (.int (gg 0)), .val (.int (gg 1)), .val (.int (gg 2)), .val (.int (gg 3)), .val (.ref b5), .val .null, .val (.int (1 : Int32)), .val (.int (-1 : Int32)), .val (.int z3)] [])
                            exact j224 _ (LastIs.keep hz3 (fun q => absurd ((own_lt n 4 (by omega) (by omega)).mp c224_9) (by omega)))
                          · refine Go.step (fun tt kk => XS.icmpNo X7.here hx rfl (hb hby at_224) rfl (flt c224_9).1 kk) ?_
                            show Go _ _ _ _ _ _ _ T7 (mkF m 227 #[.val (.int i0), .val (.int i1), .val (.int i2), .val (.int i3), .val (.int i4), .val (.int (Int32.ofNat n)), .val (.int (gg 0)), .val (.int (gg 1)), .val (.int (gg 2)), .val (.int (gg 3)), .val (.ref b5), .val .null, .val (.int (1 : Int32)), .val (.int (-1 : Int32)), .val (.int z3)] [])
                            refine Go.step (fun tt kk => XS.iload X7.here hx rfl (hb hby at_227) rfl kk) ?_
                            show Go _ _ _ _ _ _ _ T7 (mkF m 229 #[.val (.int i0), .val (.int i1), .val (.int i2), .val (.int i3), .val (.int i4), .val (.int (Int32.ofNat n)), .val (.int (gg 0)), .val (.int (gg 1)), .val (.int (gg 2)), .val (.int (gg 3)), .val (.ref b5), .val .null, .val (.int (1 : Int32)), .val (.int (-1 : Int32)), .val (.int z3)] [(.int (gg 3))])
                            refine Go.step (fun tt kk => XS.iload X7.here hx rfl (hb hby at_229) rfl kk) ?_
                            show Go _ _ _ _ _ _ _ T7 (mkF m 231 #[.val (.int i0), .val (.int i1), .val (.int i2), .val (.int i3), .val (.int i4), .val (.int (Int32.ofNat n)), .val (.int (gg 0)), .val (.int (gg 1)), .val (.int (gg 2)), .val (.int (gg 3)), .val (.ref b5), .val .null, .val (.int (1 : Int32)), .val (.int (-1 : Int32)), .val (.int z3)] [(.int (-1 : Int32)), (.int (gg 3))])
                            by_cases c231_10 : (gg 3) = (-1 : Int32)
                            · refine Go.step (fun tt kk => XS.icmpYes X7.here hx rfl (pc0 := 231) (pc' := 237) rfl (hb hby at_231) rfl (teq c231_10).1 (by decide) (by decide) kk) ?_
                              show Go _ _ _ _ _ _ _ T7 (mkF m 237 #[.val (.int i0), .val (.int i1), .val (.int i2), .val (.int i3), .val (.int i4), .val (.int (Int32.ofNat n)), .val (.int (gg 0)), .val (.int (gg 1)), .val (.int (gg 2)), .val (.int (gg 3)), .val (.ref b5), .val .null, .val (.int (1 : Int32)), .val (.int (-1 : Int32)), .val (.int z3)] [])
                              exact j224 _ (LastIs.keep hz3 (fun _ => c231_10))
                            · refine Go.step (fun tt kk => XS.icmpNo X7.here hx rfl (hb hby at_231) rfl (feq c231_10).1 kk) ?_
                              show Go _ _ _ _ _ _ _ T7 (mkF m 234 #[.val (.int i0), .val (.int i1), .val (.int i2), .val (.int i3), .val (.int i4), .val (.int (Int32.ofNat n)), .val (.int (gg 0)), .val (.int (gg 1)), .val (.int (gg 2)), .val (.int (gg 3)), .val (.ref b5), .val .null, .val (.int (1 : Int32)), .val (.int (-1 : Int32)), .val (.int z3)] [])
                              refine Go.step (fun tt kk => XS.iconst X7.here hx rfl (hb hby at_234) kk) ?_
                              show Go _ _ _ _ _ _ _ T7 (mkF m 235 #[.val (.int i0), .val (.int i1), .val (.int i2), .val (.int i3), .val (.int i4), .val (.int (Int32.ofNat n)), .val (.int (gg 0)), .val (.int (gg 1)), .val (.int (gg 2)), .val (.int (gg 3)), .val (.ref b5), .val .null, .val (.int (1 : Int32)), .val (.int (-1 : Int32)), .val (.int z3)] [(.int (3 : Int32))])
                              refine Go.step (fun tt kk => XS.istore X7.here hx rfl (hb hby at_235) rfl (l' := #[.val (.int i0), .val (.int i1), .val (.int i2), .val (.int i3), .val (.int i4), .val (.int (Int32.ofNat n)), .val (.int (gg 0)), .val (.int (gg 1)), .val (.int (gg 2)), .val (.int (gg 3)), .val (.ref b5), .val .null, .val (.int (1 : Int32)), .val (.int (-1 : Int32)), .val (.int (3 : Int32))]) rfl kk) ?_
                              show Go _ _ _ _ _ _ _ T7 (mkF m 237 #[.val (.int i0), .val (.int i1), .val (.int i2), .val (.int i3), .val (.int i4), .val (.int (Int32.ofNat n)), .val (.int (gg 0)), .val (.int (gg 1)), .val (.int (gg 2)), .val (.int (gg 3)), .val (.ref b5), .val .null, .val (.int (1 : Int32)), .val (.int (-1 : Int32)), .val (.int (3 : Int32))] [])
                              exact j224 _ (LastIs.turn (by have q := mt (own_lt n 4 (by omega) (by omega)).mpr c224_9; omega) c231_10)
                        by_cases c208_11 : (Int32.ofNat n) < (3 : Int32)
                        · refine Go.step (fun tt kk => XS.icmpYes X7.here hx rfl (pc0 := 208) (pc' := 221) rfl (hb hby at_208) rfl (tlt c208_11).1 (by decide) (by decide) kk) ?_
                          show Go _ _ _ _ _ _ _ T7 (mkF m 221 #[.val (.int i0), .val (.int i1), .val (.int i2), .val (.int i3), .val (.int i4), .val (.int (Int32.ofNat n)), .val (.int (gg 0)), .val (.int (gg 1)), .val (.int (gg 2)), .val (.int (gg 3)), .val (.ref b5), .val .null, .val (.int (1 : Int32)), .val (.int (-1 : Int32)), .val (.int z2)] [])
                          exact j208 _ (LastIs.keep hz2 (fun q => absurd ((own_lt n 3 (by omega) (by omega)).mp c208_11) (by omega)))
                        · refine Go.step (fun tt kk => XS.icmpNo X7.here hx rfl (hb hby at_208) rfl (flt c208_11).1 kk) ?_
                          show Go _ _ _ _ _ _ _ T7 (mkF m 211 #[.val (.int i0), .val (.int i1), .val (.int i2), .val (.int i3), .val (.int i4), .val (.int (Int32.ofNat n)), .val (.int (gg 0)), .val (.int (gg 1)), .val (.int (gg 2)), .val (.int (gg 3)), .val (.ref b5), .val .null, .val (.int (1 : Int32)), .val (.int (-1 : Int32)), .val (.int z2)] [])
                          refine Go.step (fun tt kk => XS.iload X7.here hx rfl (hb hby at_211) rfl kk) ?_
                          show Go _ _ _ _ _ _ _ T7 (mkF m 213 #[.val (.int i0), .val (.int i1), .val (.int i2), .val (.int i3), .val (.int i4), .val (.int (Int32.ofNat n)), .val (.int (gg 0)), .val (.int (gg 1)), .val (.int (gg 2)), .val (.int (gg 3)), .val (.ref b5), .val .null, .val (.int (1 : Int32)), .val (.int (-1 : Int32)), .val (.int z2)] [(.int (gg 2))])
                          refine Go.step (fun tt kk => XS.iload X7.here hx rfl (hb hby at_213) rfl kk) ?_
                          show Go _ _ _ _ _ _ _ T7 (mkF m 215 #[.val (.int i0), .val (.int i1), .val (.int i2), .val (.int i3), .val (.int i4), .val (.int (Int32.ofNat n)), .val (.int (gg 0)), .val (.int (gg 1)), .val (.int (gg 2)), .val (.int (gg 3)), .val (.ref b5), .val .null, .val (.int (1 : Int32)), .val (.int (-1 : Int32)), .val (.int z2)] [(.int (-1 : Int32)), (.int (gg 2))])
                          by_cases c215_12 : (gg 2) = (-1 : Int32)
                          · refine Go.step (fun tt kk => XS.icmpYes X7.here hx rfl (pc0 := 215) (pc' := 221) rfl (hb hby at_215) rfl (teq c215_12).1 (by decide) (by decide) kk) ?_
                            show Go _ _ _ _ _ _ _ T7 (mkF m 221 #[.val (.int i0), .val (.int i1), .val (.int i2), .val (.int i3), .val (.int i4), .val (.int (Int32.ofNat n)), .val (.int (gg 0)), .val (.int (gg 1)), .val (.int (gg 2)), .val (.int (gg 3)), .val (.ref b5), .val .null, .val (.int (1 : Int32)), .val (.int (-1 : Int32)), .val (.int z2)] [])
                            exact j208 _ (LastIs.keep hz2 (fun _ => c215_12))
                          · refine Go.step (fun tt kk => XS.icmpNo X7.here hx rfl (hb hby at_215) rfl (feq c215_12).1 kk) ?_
                            show Go _ _ _ _ _ _ _ T7 (mkF m 218 #[.val (.int i0), .val (.int i1), .val (.int i2), .val (.int i3), .val (.int i4), .val (.int (Int32.ofNat n)), .val (.int (gg 0)), .val (.int (gg 1)), .val (.int (gg 2)), .val (.int (gg 3)), .val (.ref b5), .val .null, .val (.int (1 : Int32)), .val (.int (-1 : Int32)), .val (.int z2)] [])
                            refine Go.step (fun tt kk => XS.iconst X7.here hx rfl (hb hby at_218) kk) ?_
                            show Go _ _ _ _ _ _ _ T7 (mkF m 219 #[.val (.int i0), .val (.int i1), .val (.int i2), .val (.int i3), .val (.int i4), .val (.int (Int32.ofNat n)), .val (.int (gg 0)), .val (.int (gg 1)), .val (.int (gg 2)), .val (.int (gg 3)), .val (.ref b5), .val .null, .val (.int (1 : Int32)), .val (.int (-1 : Int32)), .val (.int z2)] [(.int (2 : Int32))])
                            refine Go.step (fun tt kk => XS.istore X7.here hx rfl (hb hby at_219) rfl (l' := #[.val (.int i0), .val (.int i1), .val (.int i2), .val (.int i3), .val (.int i4), .val (.int (Int32.ofNat n)), .val (.int (gg 0)), .val (.int (gg 1)), .val (.int (gg 2)), .val (.int (gg 3)), .val (.ref b5), .val .null, .val (.int (1 : Int32)), .val (.int (-1 : Int32)), .val (.int (2 : Int32))]) rfl kk) ?_
                            show Go _ _ _ _ _ _ _ T7 (mkF m 221 #[.val (.int i0), .val (.int i1), .val (.int i2), .val (.int i3), .val (.int i4), .val (.int (Int32.ofNat n)), .val (.int (gg 0)), .val (.int (gg 1)), .val (.int (gg 2)), .val (.int (gg 3)), .val (.ref b5), .val .null, .val (.int (1 : Int32)), .val (.int (-1 : Int32)), .val (.int (2 : Int32))] [])
                            exact j208 _ (LastIs.turn (by have q := mt (own_lt n 3 (by omega) (by omega)).mpr c208_11; omega) c215_12)
                      by_cases c192_13 : (Int32.ofNat n) < (2 : Int32)
                      · refine Go.step (fun tt kk => XS.icmpYes X7.here hx rfl (pc0 := 192) (pc' := 205) rfl (hb hby at_192) rfl (tlt c192_13).1 (by decide) (by decide) kk) ?_
                        show Go _ _ _ _ _ _ _ T7 (mkF m 205 #[.val (.int i0), .val (.int i1), .val (.int i2), .val (.int i3), .val (.int i4), .val (.int (Int32.ofNat n)), .val (.int (gg 0)), .val (.int (gg 1)), .val (.int (gg 2)), .val (.int (gg 3)), .val (.ref b5), .val .null, .val (.int (1 : Int32)), .val (.int (-1 : Int32)), .val (.int z1)] [])
                        exact j192 _ (LastIs.keep hz1 (fun q => absurd ((own_lt n 2 (by omega) (by omega)).mp c192_13) (by omega)))
                      · refine Go.step (fun tt kk => XS.icmpNo X7.here hx rfl (hb hby at_192) rfl (flt c192_13).1 kk) ?_
                        show Go _ _ _ _ _ _ _ T7 (mkF m 195 #[.val (.int i0), .val (.int i1), .val (.int i2), .val (.int i3), .val (.int i4), .val (.int (Int32.ofNat n)), .val (.int (gg 0)), .val (.int (gg 1)), .val (.int (gg 2)), .val (.int (gg 3)), .val (.ref b5), .val .null, .val (.int (1 : Int32)), .val (.int (-1 : Int32)), .val (.int z1)] [])
                        refine Go.step (fun tt kk => XS.iload X7.here hx rfl (hb hby at_195) rfl kk) ?_
                        show Go _ _ _ _ _ _ _ T7 (mkF m 197 #[.val (.int i0), .val (.int i1), .val (.int i2), .val (.int i3), .val (.int i4), .val (.int (Int32.ofNat n)), .val (.int (gg 0)), .val (.int (gg 1)), .val (.int (gg 2)), .val (.int (gg 3)), .val (.ref b5), .val .null, .val (.int (1 : Int32)), .val (.int (-1 : Int32)), .val (.int z1)] [(.int (gg 1))])
                        refine Go.step (fun tt kk => XS.iload X7.here hx rfl (hb hby at_197) rfl kk) ?_
                        show Go _ _ _ _ _ _ _ T7 (mkF m 199 #[.val (.int i0), .val (.int i1), .val (.int i2), .val (.int i3), .val (.int i4), .val (.int (Int32.ofNat n)), .val (.int (gg 0)), .val (.int (gg 1)), .val (.int (gg 2)), .val (.int (gg 3)), .val (.ref b5), .val .null, .val (.int (1 : Int32)), .val (.int (-1 : Int32)), .val (.int z1)] [(.int (-1 : Int32)), (.int (gg 1))])
                        by_cases c199_14 : (gg 1) = (-1 : Int32)
                        · refine Go.step (fun tt kk => XS.icmpYes X7.here hx rfl (pc0 := 199) (pc' := 205) rfl (hb hby at_199) rfl (teq c199_14).1 (by decide) (by decide) kk) ?_
                          show Go _ _ _ _ _ _ _ T7 (mkF m 205 #[.val (.int i0), .val (.int i1), .val (.int i2), .val (.int i3), .val (.int i4), .val (.int (Int32.ofNat n)), .val (.int (gg 0)), .val (.int (gg 1)), .val (.int (gg 2)), .val (.int (gg 3)), .val (.ref b5), .val .null, .val (.int (1 : Int32)), .val (.int (-1 : Int32)), .val (.int z1)] [])
                          exact j192 _ (LastIs.keep hz1 (fun _ => c199_14))
                        · refine Go.step (fun tt kk => XS.icmpNo X7.here hx rfl (hb hby at_199) rfl (feq c199_14).1 kk) ?_
                          show Go _ _ _ _ _ _ _ T7 (mkF m 202 #[.val (.int i0), .val (.int i1), .val (.int i2), .val (.int i3), .val (.int i4), .val (.int (Int32.ofNat n)), .val (.int (gg 0)), .val (.int (gg 1)), .val (.int (gg 2)), .val (.int (gg 3)), .val (.ref b5), .val .null, .val (.int (1 : Int32)), .val (.int (-1 : Int32)), .val (.int z1)] [])
                          refine Go.step (fun tt kk => XS.iconst X7.here hx rfl (hb hby at_202) kk) ?_
                          show Go _ _ _ _ _ _ _ T7 (mkF m 203 #[.val (.int i0), .val (.int i1), .val (.int i2), .val (.int i3), .val (.int i4), .val (.int (Int32.ofNat n)), .val (.int (gg 0)), .val (.int (gg 1)), .val (.int (gg 2)), .val (.int (gg 3)), .val (.ref b5), .val .null, .val (.int (1 : Int32)), .val (.int (-1 : Int32)), .val (.int z1)] [(.int (1 : Int32))])
                          refine Go.step (fun tt kk => XS.istore X7.here hx rfl (hb hby at_203) rfl (l' := #[.val (.int i0), .val (.int i1), .val (.int i2), .val (.int i3), .val (.int i4), .val (.int (Int32.ofNat n)), .val (.int (gg 0)), .val (.int (gg 1)), .val (.int (gg 2)), .val (.int (gg 3)), .val (.ref b5), .val .null, .val (.int (1 : Int32)), .val (.int (-1 : Int32)), .val (.int (1 : Int32))]) rfl kk) ?_
                          show Go _ _ _ _ _ _ _ T7 (mkF m 205 #[.val (.int i0), .val (.int i1), .val (.int i2), .val (.int i3), .val (.int i4), .val (.int (Int32.ofNat n)), .val (.int (gg 0)), .val (.int (gg 1)), .val (.int (gg 2)), .val (.int (gg 3)), .val (.ref b5), .val .null, .val (.int (1 : Int32)), .val (.int (-1 : Int32)), .val (.int (1 : Int32))] [])
                          exact j192 _ (LastIs.turn (by have q := mt (own_lt n 2 (by omega) (by omega)).mpr c192_13; omega) c199_14)
                    by_cases c176_15 : (Int32.ofNat n) < (1 : Int32)
                    · refine Go.step (fun tt kk => XS.icmpYes X7.here hx rfl (pc0 := 176) (pc' := 189) rfl (hb hby at_176) rfl (tlt c176_15).1 (by decide) (by decide) kk) ?_
                      show Go _ _ _ _ _ _ _ T7 (mkF m 189 #[.val (.int i0), .val (.int i1), .val (.int i2), .val (.int i3), .val (.int i4), .val (.int (Int32.ofNat n)), .val (.int (gg 0)), .val (.int (gg 1)), .val (.int (gg 2)), .val (.int (gg 3)), .val (.ref b5), .val .null, .val (.int (1 : Int32)), .val (.int (-1 : Int32)), .val (.int (-1 : Int32))] [])
                      exact j176 _ (LastIs.keep (show LastIs gg n 0 (-1 : Int32) from Or.inl ⟨rfl, fun i h => absurd h (Nat.not_lt_zero _)⟩) (fun q => absurd ((own_lt n 1 (by omega) (by omega)).mp c176_15) (by omega)))
                    · refine Go.step (fun tt kk => XS.icmpNo X7.here hx rfl (hb hby at_176) rfl (flt c176_15).1 kk) ?_
                      show Go _ _ _ _ _ _ _ T7 (mkF m 179 #[.val (.int i0), .val (.int i1), .val (.int i2), .val (.int i3), .val (.int i4), .val (.int (Int32.ofNat n)), .val (.int (gg 0)), .val (.int (gg 1)), .val (.int (gg 2)), .val (.int (gg 3)), .val (.ref b5), .val .null, .val (.int (1 : Int32)), .val (.int (-1 : Int32)), .val (.int (-1 : Int32))] [])
                      refine Go.step (fun tt kk => XS.iload X7.here hx rfl (hb hby at_179) rfl kk) ?_
                      show Go _ _ _ _ _ _ _ T7 (mkF m 181 #[.val (.int i0), .val (.int i1), .val (.int i2), .val (.int i3), .val (.int i4), .val (.int (Int32.ofNat n)), .val (.int (gg 0)), .val (.int (gg 1)), .val (.int (gg 2)), .val (.int (gg 3)), .val (.ref b5), .val .null, .val (.int (1 : Int32)), .val (.int (-1 : Int32)), .val (.int (-1 : Int32))] [(.int (gg 0))])
                      refine Go.step (fun tt kk => XS.iload X7.here hx rfl (hb hby at_181) rfl kk) ?_
                      show Go _ _ _ _ _ _ _ T7 (mkF m 183 #[.val (.int i0), .val (.int i1), .val (.int i2), .val (.int i3), .val (.int i4), .val (.int (Int32.ofNat n)), .val (.int (gg 0)), .val (.int (gg 1)), .val (.int (gg 2)), .val (.int (gg 3)), .val (.ref b5), .val .null, .val (.int (1 : Int32)), .val (.int (-1 : Int32)), .val (.int (-1 : Int32))] [(.int (-1 : Int32)), (.int (gg 0))])
                      by_cases c183_16 : (gg 0) = (-1 : Int32)
                      · refine Go.step (fun tt kk => XS.icmpYes X7.here hx rfl (pc0 := 183) (pc' := 189) rfl (hb hby at_183) rfl (teq c183_16).1 (by decide) (by decide) kk) ?_
                        show Go _ _ _ _ _ _ _ T7 (mkF m 189 #[.val (.int i0), .val (.int i1), .val (.int i2), .val (.int i3), .val (.int i4), .val (.int (Int32.ofNat n)), .val (.int (gg 0)), .val (.int (gg 1)), .val (.int (gg 2)), .val (.int (gg 3)), .val (.ref b5), .val .null, .val (.int (1 : Int32)), .val (.int (-1 : Int32)), .val (.int (-1 : Int32))] [])
                        exact j176 _ (LastIs.keep (show LastIs gg n 0 (-1 : Int32) from Or.inl ⟨rfl, fun i h => absurd h (Nat.not_lt_zero _)⟩) (fun _ => c183_16))
                      · refine Go.step (fun tt kk => XS.icmpNo X7.here hx rfl (hb hby at_183) rfl (feq c183_16).1 kk) ?_
                        show Go _ _ _ _ _ _ _ T7 (mkF m 186 #[.val (.int i0), .val (.int i1), .val (.int i2), .val (.int i3), .val (.int i4), .val (.int (Int32.ofNat n)), .val (.int (gg 0)), .val (.int (gg 1)), .val (.int (gg 2)), .val (.int (gg 3)), .val (.ref b5), .val .null, .val (.int (1 : Int32)), .val (.int (-1 : Int32)), .val (.int (-1 : Int32))] [])
                        refine Go.step (fun tt kk => XS.iconst X7.here hx rfl (hb hby at_186) kk) ?_
                        show Go _ _ _ _ _ _ _ T7 (mkF m 187 #[.val (.int i0), .val (.int i1), .val (.int i2), .val (.int i3), .val (.int i4), .val (.int (Int32.ofNat n)), .val (.int (gg 0)), .val (.int (gg 1)), .val (.int (gg 2)), .val (.int (gg 3)), .val (.ref b5), .val .null, .val (.int (1 : Int32)), .val (.int (-1 : Int32)), .val (.int (-1 : Int32))] [(.int (0 : Int32))])
                        refine Go.step (fun tt kk => XS.istore X7.here hx rfl (hb hby at_187) rfl (l' := #[.val (.int i0), .val (.int i1), .val (.int i2), .val (.int i3), .val (.int i4), .val (.int (Int32.ofNat n)), .val (.int (gg 0)), .val (.int (gg 1)), .val (.int (gg 2)), .val (.int (gg 3)), .val (.ref b5), .val .null, .val (.int (1 : Int32)), .val (.int (-1 : Int32)), .val (.int (0 : Int32))]) rfl kk) ?_
                        show Go _ _ _ _ _ _ _ T7 (mkF m 189 #[.val (.int i0), .val (.int i1), .val (.int i2), .val (.int i3), .val (.int i4), .val (.int (Int32.ofNat n)), .val (.int (gg 0)), .val (.int (gg 1)), .val (.int (gg 2)), .val (.int (gg 3)), .val (.ref b5), .val .null, .val (.int (1 : Int32)), .val (.int (-1 : Int32)), .val (.int (0 : Int32))] [])
                        exact j176 _ (LastIs.turn (by have q := mt (own_lt n 1 (by omega) (by omega)).mpr c176_15; omega) c183_16)
                  by_cases c148_17 : (3 : Int32) < (Int32.ofNat n)
                  · refine Go.step (fun tt kk => XS.icmpNo X7.here hx rfl (hb hby at_148) rfl (tlt c148_17).2.2.2 kk) ?_
                    show Go _ _ _ _ _ _ _ T7 (mkF m 151 #[.val (.int i0), .val (.int i1), .val (.int i2), .val (.int i3), .val (.int i4), .val (.int (Int32.ofNat n)), .val (.int (gg 0)), .val (.int (gg 1)), .val (.int (gg 2)), .val (.int (gg 3)), .val (.ref b5), .val .null, .unset, .unset, .unset] [])
                    refine Go.step (fun tt kk => XS.aload X7.here hx rfl (hb hby at_151) rfl rfl kk) ?_
                    show Go _ _ _ _ _ _ _ T7 (mkF m 153 #[.val (.int i0), .val (.int i1), .val (.int i2), .val (.int i3), .val (.int i4), .val (.int (Int32.ofNat n)), .val (.int (gg 0)), .val (.int (gg 1)), .val (.int (gg 2)), .val (.int (gg 3)), .val (.ref b5), .val .null, .unset, .unset, .unset] [(.ref b5)])
                    refine Go.step (fun tt kk => XS.iconst X7.here hx rfl (hb hby at_153) kk) ?_
                    show Go _ _ _ _ _ _ _ T7 (mkF m 154 #[.val (.int i0), .val (.int i1), .val (.int i2), .val (.int i3), .val (.int i4), .val (.int (Int32.ofNat n)), .val (.int (gg 0)), .val (.int (gg 1)), .val (.int (gg 2)), .val (.int (gg 3)), .val (.ref b5), .val .null, .unset, .unset, .unset] [(.int (3 : Int32)), (.ref b5)])
                    refine Go.step (a_bload X7 hx hZ e7 f8 (k := 3) (by decide) ((own_lt 3 n (by omega) (by omega)).mp c148_17) (x := (gg 3)) rfl (hb hby at_154)) ?_
                    show Go _ _ _ _ _ _ _ T7 (mkF m 155 #[.val (.int i0), .val (.int i1), .val (.int i2), .val (.int i3), .val (.int i4), .val (.int (Int32.ofNat n)), .val (.int (gg 0)), .val (.int (gg 1)), .val (.int (gg 2)), .val (.int (gg 3)), .val (.ref b5), .val .null, .unset, .unset, .unset] [(.int (gg 3))])
                    refine Go.step (fun tt kk => XS.iload X7.here hx rfl (hb hby at_155) rfl kk) ?_
                    show Go _ _ _ _ _ _ _ T7 (mkF m 157 #[.val (.int i0), .val (.int i1), .val (.int i2), .val (.int i3), .val (.int i4), .val (.int (Int32.ofNat n)), .val (.int (gg 0)), .val (.int (gg 1)), .val (.int (gg 2)), .val (.int (gg 3)), .val (.ref b5), .val .null, .unset, .unset, .unset] [(.int (gg 3)), (.int (gg 3))])
                    refine Go.step (fun tt kk => XS.icmpNo X7.here hx rfl (hb hby at_157) rfl (teq rfl).2 kk) ?_
                    show Go _ _ _ _ _ _ _ T7 (mkF m 160 #[.val (.int i0), .val (.int i1), .val (.int i2), .val (.int i3), .val (.int i4), .val (.int (Int32.ofNat n)), .val (.int (gg 0)), .val (.int (gg 1)), .val (.int (gg 2)), .val (.int (gg 3)), .val (.ref b5), .val .null, .unset, .unset, .unset] [])
                    exact j148
                  · refine Go.step (fun tt kk => XS.icmpYes X7.here hx rfl (pc0 := 148) (pc' := 160) rfl (hb hby at_148) rfl (flt c148_17).2.2.2 (by decide) (by decide) kk) ?_
                    show Go _ _ _ _ _ _ _ T7 (mkF m 160 #[.val (.int i0), .val (.int i1), .val (.int i2), .val (.int i3), .val (.int i4), .val (.int (Int32.ofNat n)), .val (.int (gg 0)), .val (.int (gg 1)), .val (.int (gg 2)), .val (.int (gg 3)), .val (.ref b5), .val .null, .unset, .unset, .unset] [])
                    exact j148
                by_cases c133_18 : (2 : Int32) < (Int32.ofNat n)
                · refine Go.step (fun tt kk => XS.icmpNo X7.here hx rfl (hb hby at_133) rfl (tlt c133_18).2.2.2 kk) ?_
                  show Go _ _ _ _ _ _ _ T7 (mkF m 136 #[.val (.int i0), .val (.int i1), .val (.int i2), .val (.int i3), .val (.int i4), .val (.int (Int32.ofNat n)), .val (.int (gg 0)), .val (.int (gg 1)), .val (.int (gg 2)), .val (.int (gg 3)), .val (.ref b5), .val .null, .unset, .unset, .unset] [])
                  refine Go.step (fun tt kk => XS.aload X7.here hx rfl (hb hby at_136) rfl rfl kk) ?_
                  show Go _ _ _ _ _ _ _ T7 (mkF m 138 #[.val (.int i0), .val (.int i1), .val (.int i2), .val (.int i3), .val (.int i4), .val (.int (Int32.ofNat n)), .val (.int (gg 0)), .val (.int (gg 1)), .val (.int (gg 2)), .val (.int (gg 3)), .val (.ref b5), .val .null, .unset, .unset, .unset] [(.ref b5)])
                  refine Go.step (fun tt kk => XS.iconst X7.here hx rfl (hb hby at_138) kk) ?_
                  show Go _ _ _ _ _ _ _ T7 (mkF m 139 #[.val (.int i0), .val (.int i1), .val (.int i2), .val (.int i3), .val (.int i4), .val (.int (Int32.ofNat n)), .val (.int (gg 0)), .val (.int (gg 1)), .val (.int (gg 2)), .val (.int (gg 3)), .val (.ref b5), .val .null, .unset, .unset, .unset] [(.int (2 : Int32)), (.ref b5)])
                  refine Go.step (a_bload X7 hx hZ e7 f8 (k := 2) (by decide) ((own_lt 2 n (by omega) (by omega)).mp c133_18) (x := (gg 2)) rfl (hb hby at_139)) ?_
                  show Go _ _ _ _ _ _ _ T7 (mkF m 140 #[.val (.int i0), .val (.int i1), .val (.int i2), .val (.int i3), .val (.int i4), .val (.int (Int32.ofNat n)), .val (.int (gg 0)), .val (.int (gg 1)), .val (.int (gg 2)), .val (.int (gg 3)), .val (.ref b5), .val .null, .unset, .unset, .unset] [(.int (gg 2))])
                  refine Go.step (fun tt kk => XS.iload X7.here hx rfl (hb hby at_140) rfl kk) ?_
                  show Go _ _ _ _ _ _ _ T7 (mkF m 142 #[.val (.int i0), .val (.int i1), .val (.int i2), .val (.int i3), .val (.int i4), .val (.int (Int32.ofNat n)), .val (.int (gg 0)), .val (.int (gg 1)), .val (.int (gg 2)), .val (.int (gg 3)), .val (.ref b5), .val .null, .unset, .unset, .unset] [(.int (gg 2)), (.int (gg 2))])
                  refine Go.step (fun tt kk => XS.icmpNo X7.here hx rfl (hb hby at_142) rfl (teq rfl).2 kk) ?_
                  show Go _ _ _ _ _ _ _ T7 (mkF m 145 #[.val (.int i0), .val (.int i1), .val (.int i2), .val (.int i3), .val (.int i4), .val (.int (Int32.ofNat n)), .val (.int (gg 0)), .val (.int (gg 1)), .val (.int (gg 2)), .val (.int (gg 3)), .val (.ref b5), .val .null, .unset, .unset, .unset] [])
                  exact j133
                · refine Go.step (fun tt kk => XS.icmpYes X7.here hx rfl (pc0 := 133) (pc' := 145) rfl (hb hby at_133) rfl (flt c133_18).2.2.2 (by decide) (by decide) kk) ?_
                  show Go _ _ _ _ _ _ _ T7 (mkF m 145 #[.val (.int i0), .val (.int i1), .val (.int i2), .val (.int i3), .val (.int i4), .val (.int (Int32.ofNat n)), .val (.int (gg 0)), .val (.int (gg 1)), .val (.int (gg 2)), .val (.int (gg 3)), .val (.ref b5), .val .null, .unset, .unset, .unset] [])
                  exact j133
              by_cases c118_19 : (1 : Int32) < (Int32.ofNat n)
              · refine Go.step (fun tt kk => XS.icmpNo X7.here hx rfl (hb hby at_118) rfl (tlt c118_19).2.2.2 kk) ?_
                show Go _ _ _ _ _ _ _ T7 (mkF m 121 #[.val (.int i0), .val (.int i1), .val (.int i2), .val (.int i3), .val (.int i4), .val (.int (Int32.ofNat n)), .val (.int (gg 0)), .val (.int (gg 1)), .val (.int (gg 2)), .val (.int (gg 3)), .val (.ref b5), .val .null, .unset, .unset, .unset] [])
                refine Go.step (fun tt kk => XS.aload X7.here hx rfl (hb hby at_121) rfl rfl kk) ?_
                show Go _ _ _ _ _ _ _ T7 (mkF m 123 #[.val (.int i0), .val (.int i1), .val (.int i2), .val (.int i3), .val (.int i4), .val (.int (Int32.ofNat n)), .val (.int (gg 0)), .val (.int (gg 1)), .val (.int (gg 2)), .val (.int (gg 3)), .val (.ref b5), .val .null, .unset, .unset, .unset] [(.ref b5)])
                refine Go.step (fun tt kk => XS.iconst X7.here hx rfl (hb hby at_123) kk) ?_
                show Go _ _ _ _ _ _ _ T7 (mkF m 124 #[.val (.int i0), .val (.int i1), .val (.int i2), .val (.int i3), .val (.int i4), .val (.int (Int32.ofNat n)), .val (.int (gg 0)), .val (.int (gg 1)), .val (.int (gg 2)), .val (.int (gg 3)), .val (.ref b5), .val .null, .unset, .unset, .unset] [(.int (1 : Int32)), (.ref b5)])
                refine Go.step (a_bload X7 hx hZ e7 f8 (k := 1) (by decide) ((own_lt 1 n (by omega) (by omega)).mp c118_19) (x := (gg 1)) rfl (hb hby at_124)) ?_
                show Go _ _ _ _ _ _ _ T7 (mkF m 125 #[.val (.int i0), .val (.int i1), .val (.int i2), .val (.int i3), .val (.int i4), .val (.int (Int32.ofNat n)), .val (.int (gg 0)), .val (.int (gg 1)), .val (.int (gg 2)), .val (.int (gg 3)), .val (.ref b5), .val .null, .unset, .unset, .unset] [(.int (gg 1))])
                refine Go.step (fun tt kk => XS.iload X7.here hx rfl (hb hby at_125) rfl kk) ?_
                show Go _ _ _ _ _ _ _ T7 (mkF m 127 #[.val (.int i0), .val (.int i1), .val (.int i2), .val (.int i3), .val (.int i4), .val (.int (Int32.ofNat n)), .val (.int (gg 0)), .val (.int (gg 1)), .val (.int (gg 2)), .val (.int (gg 3)), .val (.ref b5), .val .null, .unset, .unset, .unset] [(.int (gg 1)), (.int (gg 1))])
                refine Go.step (fun tt kk => XS.icmpNo X7.here hx rfl (hb hby at_127) rfl (teq rfl).2 kk) ?_
                show Go _ _ _ _ _ _ _ T7 (mkF m 130 #[.val (.int i0), .val (.int i1), .val (.int i2), .val (.int i3), .val (.int i4), .val (.int (Int32.ofNat n)), .val (.int (gg 0)), .val (.int (gg 1)), .val (.int (gg 2)), .val (.int (gg 3)), .val (.ref b5), .val .null, .unset, .unset, .unset] [])
                exact j118
              · refine Go.step (fun tt kk => XS.icmpYes X7.here hx rfl (pc0 := 118) (pc' := 130) rfl (hb hby at_118) rfl (flt c118_19).2.2.2 (by decide) (by decide) kk) ?_
                show Go _ _ _ _ _ _ _ T7 (mkF m 130 #[.val (.int i0), .val (.int i1), .val (.int i2), .val (.int i3), .val (.int i4), .val (.int (Int32.ofNat n)), .val (.int (gg 0)), .val (.int (gg 1)), .val (.int (gg 2)), .val (.int (gg 3)), .val (.ref b5), .val .null, .unset, .unset, .unset] [])
                exact j118
            by_cases c103_20 : (0 : Int32) < (Int32.ofNat n)
            · refine Go.step (fun tt kk => XS.ifNo X7.here hx rfl (hb hby at_103) rfl ((if0 _ _).trans (tlt c103_20).2.2.2) kk) ?_
              show Go _ _ _ _ _ _ _ T7 (mkF m 106 #[.val (.int i0), .val (.int i1), .val (.int i2), .val (.int i3), .val (.int i4), .val (.int (Int32.ofNat n)), .val (.int (gg 0)), .val (.int (gg 1)), .val (.int (gg 2)), .val (.int (gg 3)), .val (.ref b5), .val .null, .unset, .unset, .unset] [])
              refine Go.step (fun tt kk => XS.aload X7.here hx rfl (hb hby at_106) rfl rfl kk) ?_
              show Go _ _ _ _ _ _ _ T7 (mkF m 108 #[.val (.int i0), .val (.int i1), .val (.int i2), .val (.int i3), .val (.int i4), .val (.int (Int32.ofNat n)), .val (.int (gg 0)), .val (.int (gg 1)), .val (.int (gg 2)), .val (.int (gg 3)), .val (.ref b5), .val .null, .unset, .unset, .unset] [(.ref b5)])
              refine Go.step (fun tt kk => XS.iconst X7.here hx rfl (hb hby at_108) kk) ?_
              show Go _ _ _ _ _ _ _ T7 (mkF m 109 #[.val (.int i0), .val (.int i1), .val (.int i2), .val (.int i3), .val (.int i4), .val (.int (Int32.ofNat n)), .val (.int (gg 0)), .val (.int (gg 1)), .val (.int (gg 2)), .val (.int (gg 3)), .val (.ref b5), .val .null, .unset, .unset, .unset] [(.int (0 : Int32)), (.ref b5)])
              refine Go.step (a_bload X7 hx hZ e7 f8 (k := 0) (by decide) ((own_lt 0 n (by omega) (by omega)).mp c103_20) (x := (gg 0)) rfl (hb hby at_109)) ?_
              show Go _ _ _ _ _ _ _ T7 (mkF m 110 #[.val (.int i0), .val (.int i1), .val (.int i2), .val (.int i3), .val (.int i4), .val (.int (Int32.ofNat n)), .val (.int (gg 0)), .val (.int (gg 1)), .val (.int (gg 2)), .val (.int (gg 3)), .val (.ref b5), .val .null, .unset, .unset, .unset] [(.int (gg 0))])
              refine Go.step (fun tt kk => XS.iload X7.here hx rfl (hb hby at_110) rfl kk) ?_
              show Go _ _ _ _ _ _ _ T7 (mkF m 112 #[.val (.int i0), .val (.int i1), .val (.int i2), .val (.int i3), .val (.int i4), .val (.int (Int32.ofNat n)), .val (.int (gg 0)), .val (.int (gg 1)), .val (.int (gg 2)), .val (.int (gg 3)), .val (.ref b5), .val .null, .unset, .unset, .unset] [(.int (gg 0)), (.int (gg 0))])
              refine Go.step (fun tt kk => XS.icmpNo X7.here hx rfl (hb hby at_112) rfl (teq rfl).2 kk) ?_
              show Go _ _ _ _ _ _ _ T7 (mkF m 115 #[.val (.int i0), .val (.int i1), .val (.int i2), .val (.int i3), .val (.int i4), .val (.int (Int32.ofNat n)), .val (.int (gg 0)), .val (.int (gg 1)), .val (.int (gg 2)), .val (.int (gg 3)), .val (.ref b5), .val .null, .unset, .unset, .unset] [])
              exact j103
            · refine Go.step (fun tt kk => XS.ifYes X7.here hx rfl (pc0 := 103) (pc' := 115) rfl (hb hby at_103) rfl ((if0 _ _).trans (flt c103_20).2.2.2) (by decide) (by decide) kk) ?_
              show Go _ _ _ _ _ _ _ T7 (mkF m 115 #[.val (.int i0), .val (.int i1), .val (.int i2), .val (.int i3), .val (.int i4), .val (.int (Int32.ofNat n)), .val (.int (gg 0)), .val (.int (gg 1)), .val (.int (gg 2)), .val (.int (gg 3)), .val (.ref b5), .val .null, .unset, .unset, .unset] [])
              exact j103
          · have ne_b5_rb : b5 ≠ rb := Nat.ne_of_lt (Nat.lt_of_lt_of_le V6.lt hsz)
            show Go _ _ _ _ _ _ _ T7 (mkF m 91 #[.val (.int i0), .val (.int i1), .val (.int i2), .val (.int i3), .val (.int i4), .val (.int (Int32.ofNat n)), .val (.int (gg 0)), .val (.int (gg 1)), .val (.int (gg 2)), .val (.int (gg 3)), .val (.ref b5), .unset, .unset, .unset, .unset] [(.ref rb)])
            refine Go.step (fun tt kk => XS.astore X7.here hx rfl (hb hby at_91) rfl rfl (l' := #[.val (.int i0), .val (.int i1), .val (.int i2), .val (.int i3), .val (.int i4), .val (.int (Int32.ofNat n)), .val (.int (gg 0)), .val (.int (gg 1)), .val (.int (gg 2)), .val (.int (gg 3)), .val (.ref b5), .val (.ref rb), .unset, .unset, .unset]) rfl kk) ?_
            show Go _ _ _ _ _ _ _ T7 (mkF m 93 #[.val (.int i0), .val (.int i1), .val (.int i2), .val (.int i3), .val (.int i4), .val (.int (Int32.ofNat n)), .val (.int (gg 0)), .val (.int (gg 1)), .val (.int (gg 2)), .val (.int (gg 3)), .val (.ref b5), .val (.ref rb), .unset, .unset, .unset] [])
            refine Go.step (fun tt kk => XS.aload X7.here hx rfl (hb hby at_93) rfl rfl kk) ?_
            show Go _ _ _ _ _ _ _ T7 (mkF m 95 #[.val (.int i0), .val (.int i1), .val (.int i2), .val (.int i3), .val (.int i4), .val (.int (Int32.ofNat n)), .val (.int (gg 0)), .val (.int (gg 1)), .val (.int (gg 2)), .val (.int (gg 3)), .val (.ref b5), .val (.ref rb), .unset, .unset, .unset] [(.ref b5)])
            have f21 := (V6.keep K7q nin0)
            refine Go.step (a_len X7 hx hZ e7 f21 (z := (Int32.ofNat n)) (Int32.toInt_ofNat_of_lt (by omega)) (hb hby at_95)) ?_
            show Go _ _ _ _ _ _ _ T7 (mkF m 96 #[.val (.int i0), .val (.int i1), .val (.int i2), .val (.int i3), .val (.int i4), .val (.int (Int32.ofNat n)), .val (.int (gg 0)), .val (.int (gg 1)), .val (.int (gg 2)), .val (.int (gg 3)), .val (.ref b5), .val (.ref rb), .unset, .unset, .unset] [(.int (Int32.ofNat n))])
            refine Go.step (fun tt kk => XS.iload X7.here hx rfl (hb hby at_96) rfl kk) ?_
            show Go _ _ _ _ _ _ _ T7 (mkF m 98 #[.val (.int i0), .val (.int i1), .val (.int i2), .val (.int i3), .val (.int i4), .val (.int (Int32.ofNat n)), .val (.int (gg 0)), .val (.int (gg 1)), .val (.int (gg 2)), .val (.int (gg 3)), .val (.ref b5), .val (.ref rb), .unset, .unset, .unset] [(.int (Int32.ofNat n)), (.int (Int32.ofNat n))])
            refine Go.step (fun tt kk => XS.icmpNo X7.here hx rfl (hb hby at_98) rfl (teq rfl).2 kk) ?_
            show Go _ _ _ _ _ _ _ T7 (mkF m 101 #[.val (.int i0), .val (.int i1), .val (.int i2), .val (.int i3), .val (.int i4), .val (.int (Int32.ofNat n)), .val (.int (gg 0)), .val (.int (gg 1)), .val (.int (gg 2)), .val (.int (gg 3)), .val (.ref b5), .val (.ref rb), .unset, .unset, .unset] [])
            refine Go.step (fun tt kk => XS.iload X7.here hx rfl (hb hby at_101) rfl kk) ?_
            show Go _ _ _ _ _ _ _ T7 (mkF m 103 #[.val (.int i0), .val (.int i1), .val (.int i2), .val (.int i3), .val (.int i4), .val (.int (Int32.ofNat n)), .val (.int (gg 0)), .val (.int (gg 1)), .val (.int (gg 2)), .val (.int (gg 3)), .val (.ref b5), .val (.ref rb), .unset, .unset, .unset] [(.int (Int32.ofNat n))])
            have j103 : Go p e s below 16 128 (fun v h L => v = some (.int (1 : Int32)) ∧ Fr n0 L) T7 (mkF m 115 #[.val (.int i0), .val (.int i1), .val (.int i2), .val (.int i3), .val (.int i4), .val (.int (Int32.ofNat n)), .val (.int (gg 0)), .val (.int (gg 1)), .val (.int (gg 2)), .val (.int (gg 3)), .val (.ref b5), .val (.ref rb), .unset, .unset, .unset] []) := by
              refine Go.step (fun tt kk => XS.iload X7.here hx rfl (hb hby at_115) rfl kk) ?_
              show Go _ _ _ _ _ _ _ T7 (mkF m 117 #[.val (.int i0), .val (.int i1), .val (.int i2), .val (.int i3), .val (.int i4), .val (.int (Int32.ofNat n)), .val (.int (gg 0)), .val (.int (gg 1)), .val (.int (gg 2)), .val (.int (gg 3)), .val (.ref b5), .val (.ref rb), .unset, .unset, .unset] [(.int (Int32.ofNat n))])
              refine Go.step (fun tt kk => XS.iconst X7.here hx rfl (hb hby at_117) kk) ?_
              show Go _ _ _ _ _ _ _ T7 (mkF m 118 #[.val (.int i0), .val (.int i1), .val (.int i2), .val (.int i3), .val (.int i4), .val (.int (Int32.ofNat n)), .val (.int (gg 0)), .val (.int (gg 1)), .val (.int (gg 2)), .val (.int (gg 3)), .val (.ref b5), .val (.ref rb), .unset, .unset, .unset] [(.int (1 : Int32)), (.int (Int32.ofNat n))])
              have j118 : Go p e s below 16 128 (fun v h L => v = some (.int (1 : Int32)) ∧ Fr n0 L) T7 (mkF m 130 #[.val (.int i0), .val (.int i1), .val (.int i2), .val (.int i3), .val (.int i4), .val (.int (Int32.ofNat n)), .val (.int (gg 0)), .val (.int (gg 1)), .val (.int (gg 2)), .val (.int (gg 3)), .val (.ref b5), .val (.ref rb), .unset, .unset, .unset] []) := by
                refine Go.step (fun tt kk => XS.iload X7.here hx rfl (hb hby at_130) rfl kk) ?_
                show Go _ _ _ _ _ _ _ T7 (mkF m 132 #[.val (.int i0), .val (.int i1), .val (.int i2), .val (.int i3), .val (.int i4), .val (.int (Int32.ofNat n)), .val (.int (gg 0)), .val (.int (gg 1)), .val (.int (gg 2)), .val (.int (gg 3)), .val (.ref b5), .val (.ref rb), .unset, .unset, .unset] [(.int (Int32.ofNat n))])
                refine Go.step (fun tt kk => XS.iconst X7.here hx rfl (hb hby at_132) kk) ?_
                show Go _ _ _ _ _ _ _ T7 (mkF m 133 #[.val (.int i0), .val (.int i1), .val (.int i2), .val (.int i3), .val (.int i4), .val (.int (Int32.ofNat n)), .val (.int (gg 0)), .val (.int (gg 1)), .val (.int (gg 2)), .val (.int (gg 3)), .val (.ref b5), .val (.ref rb), .unset, .unset, .unset] [(.int (2 : Int32)), (.int (Int32.ofNat n))])
                have j133 : Go p e s below 16 128 (fun v h L => v = some (.int (1 : Int32)) ∧ Fr n0 L) T7 (mkF m 145 #[.val (.int i0), .val (.int i1), .val (.int i2), .val (.int i3), .val (.int i4), .val (.int (Int32.ofNat n)), .val (.int (gg 0)), .val (.int (gg 1)), .val (.int (gg 2)), .val (.int (gg 3)), .val (.ref b5), .val (.ref rb), .unset, .unset, .unset] []) := by
                  refine Go.step (fun tt kk => XS.iload X7.here hx rfl (hb hby at_145) rfl kk) ?_
                  show Go _ _ _ _ _ _ _ T7 (mkF m 147 #[.val (.int i0), .val (.int i1), .val (.int i2), .val (.int i3), .val (.int i4), .val (.int (Int32.ofNat n)), .val (.int (gg 0)), .val (.int (gg 1)), .val (.int (gg 2)), .val (.int (gg 3)), .val (.ref b5), .val (.ref rb), .unset, .unset, .unset] [(.int (Int32.ofNat n))])
                  refine Go.step (fun tt kk => XS.iconst X7.here hx rfl (hb hby at_147) kk) ?_
                  show Go _ _ _ _ _ _ _ T7 (mkF m 148 #[.val (.int i0), .val (.int i1), .val (.int i2), .val (.int i3), .val (.int i4), .val (.int (Int32.ofNat n)), .val (.int (gg 0)), .val (.int (gg 1)), .val (.int (gg 2)), .val (.int (gg 3)), .val (.ref b5), .val (.ref rb), .unset, .unset, .unset] [(.int (3 : Int32)), (.int (Int32.ofNat n))])
                  have j148 : Go p e s below 16 128 (fun v h L => v = some (.int (1 : Int32)) ∧ Fr n0 L) T7 (mkF m 160 #[.val (.int i0), .val (.int i1), .val (.int i2), .val (.int i3), .val (.int i4), .val (.int (Int32.ofNat n)), .val (.int (gg 0)), .val (.int (gg 1)), .val (.int (gg 2)), .val (.int (gg 3)), .val (.ref b5), .val (.ref rb), .unset, .unset, .unset] []) := by
                    refine Go.step (fun tt kk => XS.iconst X7.here hx rfl (hb hby at_160) kk) ?_
                    show Go _ _ _ _ _ _ _ T7 (mkF m 161 #[.val (.int i0), .val (.int i1), .val (.int i2), .val (.int i3), .val (.int i4), .val (.int (Int32.ofNat n)), .val (.int (gg 0)), .val (.int (gg 1)), .val (.int (gg 2)), .val (.int (gg 3)), .val (.ref b5), .val (.ref rb), .unset, .unset, .unset] [(.int (1 : Int32))])
                    refine Go.step (fun tt kk => XS.goto X7.here hx rfl (pc0 := 161) (pc' := 165) rfl (hb hby at_161) (by decide) (by decide) kk) ?_
                    show Go _ _ _ _ _ _ _ T7 (mkF m 165 #[.val (.int i0), .val (.int i1), .val (.int i2), .val (.int i3), .val (.int i4), .val (.int (Int32.ofNat n)), .val (.int (gg 0)), .val (.int (gg 1)), .val (.int (gg 2)), .val (.int (gg 3)), .val (.ref b5), .val (.ref rb), .unset, .unset, .unset] [(.int (1 : Int32))])
                    refine Go.step (fun tt kk => XS.istore X7.here hx rfl (hb hby at_165) rfl (l' := #[.val (.int i0), .val (.int i1), .val (.int i2), .val (.int i3), .val (.int i4), .val (.int (Int32.ofNat n)), .val (.int (gg 0)), .val (.int (gg 1)), .val (.int (gg 2)), .val (.int (gg 3)), .val (.ref b5), .val (.ref rb), .val (.int (1 : Int32)), .unset, .unset]) rfl kk) ?_
                    show Go _ _ _ _ _ _ _ T7 (mkF m 167 #[.val (.int i0), .val (.int i1), .val (.int i2), .val (.int i3), .val (.int i4), .val (.int (Int32.ofNat n)), .val (.int (gg 0)), .val (.int (gg 1)), .val (.int (gg 2)), .val (.int (gg 3)), .val (.ref b5), .val (.ref rb), .val (.int (1 : Int32)), .unset, .unset] [])
                    refine Go.step (fun tt kk => XS.iconst X7.here hx rfl (hb hby at_167) kk) ?_
                    show Go _ _ _ _ _ _ _ T7 (mkF m 168 #[.val (.int i0), .val (.int i1), .val (.int i2), .val (.int i3), .val (.int i4), .val (.int (Int32.ofNat n)), .val (.int (gg 0)), .val (.int (gg 1)), .val (.int (gg 2)), .val (.int (gg 3)), .val (.ref b5), .val (.ref rb), .val (.int (1 : Int32)), .unset, .unset] [(.int (-1 : Int32))])
                    refine Go.step (fun tt kk => XS.istore X7.here hx rfl (hb hby at_168) rfl (l' := #[.val (.int i0), .val (.int i1), .val (.int i2), .val (.int i3), .val (.int i4), .val (.int (Int32.ofNat n)), .val (.int (gg 0)), .val (.int (gg 1)), .val (.int (gg 2)), .val (.int (gg 3)), .val (.ref b5), .val (.ref rb), .val (.int (1 : Int32)), .val (.int (-1 : Int32)), .unset]) rfl kk) ?_
                    show Go _ _ _ _ _ _ _ T7 (mkF m 170 #[.val (.int i0), .val (.int i1), .val (.int i2), .val (.int i3), .val (.int i4), .val (.int (Int32.ofNat n)), .val (.int (gg 0)), .val (.int (gg 1)), .val (.int (gg 2)), .val (.int (gg 3)), .val (.ref b5), .val (.ref rb), .val (.int (1 : Int32)), .val (.int (-1 : Int32)), .unset] [])
                    refine Go.step (fun tt kk => XS.iconst X7.here hx rfl (hb hby at_170) kk) ?_
                    show Go _ _ _ _ _ _ _ T7 (mkF m 171 #[.val (.int i0), .val (.int i1), .val (.int i2), .val (.int i3), .val (.int i4), .val (.int (Int32.ofNat n)), .val (.int (gg 0)), .val (.int (gg 1)), .val (.int (gg 2)), .val (.int (gg 3)), .val (.ref b5), .val (.ref rb), .val (.int (1 : Int32)), .val (.int (-1 : Int32)), .unset] [(.int (-1 : Int32))])
                    refine Go.step (fun tt kk => XS.istore X7.here hx rfl (hb hby at_171) rfl (l' := #[.val (.int i0), .val (.int i1), .val (.int i2), .val (.int i3), .val (.int i4), .val (.int (Int32.ofNat n)), .val (.int (gg 0)), .val (.int (gg 1)), .val (.int (gg 2)), .val (.int (gg 3)), .val (.ref b5), .val (.ref rb), .val (.int (1 : Int32)), .val (.int (-1 : Int32)), .val (.int (-1 : Int32))]) rfl kk) ?_
                    show Go _ _ _ _ _ _ _ T7 (mkF m 173 #[.val (.int i0), .val (.int i1), .val (.int i2), .val (.int i3), .val (.int i4), .val (.int (Int32.ofNat n)), .val (.int (gg 0)), .val (.int (gg 1)), .val (.int (gg 2)), .val (.int (gg 3)), .val (.ref b5), .val (.ref rb), .val (.int (1 : Int32)), .val (.int (-1 : Int32)), .val (.int (-1 : Int32))] [])
                    refine Go.step (fun tt kk => XS.iload X7.here hx rfl (hb hby at_173) rfl kk) ?_
                    show Go _ _ _ _ _ _ _ T7 (mkF m 175 #[.val (.int i0), .val (.int i1), .val (.int i2), .val (.int i3), .val (.int i4), .val (.int (Int32.ofNat n)), .val (.int (gg 0)), .val (.int (gg 1)), .val (.int (gg 2)), .val (.int (gg 3)), .val (.ref b5), .val (.ref rb), .val (.int (1 : Int32)), .val (.int (-1 : Int32)), .val (.int (-1 : Int32))] [(.int (Int32.ofNat n))])
                    refine Go.step (fun tt kk => XS.iconst X7.here hx rfl (hb hby at_175) kk) ?_
                    show Go _ _ _ _ _ _ _ T7 (mkF m 176 #[.val (.int i0), .val (.int i1), .val (.int i2), .val (.int i3), .val (.int i4), .val (.int (Int32.ofNat n)), .val (.int (gg 0)), .val (.int (gg 1)), .val (.int (gg 2)), .val (.int (gg 3)), .val (.ref b5), .val (.ref rb), .val (.int (1 : Int32)), .val (.int (-1 : Int32)), .val (.int (-1 : Int32))] [(.int (1 : Int32)), (.int (Int32.ofNat n))])
                    have j176 : ∀ z1 : Int32, (LastIs gg n 1 z1) → Go p e s below 16 128 (fun v h L => v = some (.int (1 : Int32)) ∧ Fr n0 L) T7 (mkF m 189 #[.val (.int i0), .val (.int i1), .val (.int i2), .val (.int i3), .val (.int i4), .val (.int (Int32.ofNat n)), .val (.int (gg 0)), .val (.int (gg 1)), .val (.int (gg 2)), .val (.int (gg 3)), .val (.ref b5), .val (.ref rb), .val (.int (1 : Int32)), .val (.int (-1 : Int32)), .val (.int z1)] []) := by
                      intro z1 hz1
                      refine Go.step (fun tt kk => XS.iload X7.here hx rfl (hb hby at_189) rfl kk) ?_
                      show Go _ _ _ _ _ _ _ T7 (mkF m 191 #[.val (.int i0), .val (.int i1), .val (.int i2), .val (.int i3), .val (.int i4), .val (.int (Int32.ofNat n)), .val (.int (gg 0)), .val (.int (gg 1)), .val (.int (gg 2)), .val (.int (gg 3)), .val (.ref b5), .val (.ref rb), .val (.int (1 : Int32)), .val (.int (-1 : Int32)), .val (.int z1)] [(.int (Int32.ofNat n))])
                      refine Go.step (fun tt kk => XS.iconst X7.here hx rfl (hb hby at_191) kk) ?_
                      show Go _ _ _ _ _ _ _ T7 (mkF m 192 #[.val (.int i0), .val (.int i1), .val (.int i2), .val (.int i3), .val (.int i4), .val (.int (Int32.ofNat n)), .val (.int (gg 0)), .val (.int (gg 1)), .val (.int (gg 2)), .val (.int (gg 3)), .val (.ref b5), .val (.ref rb), .val (.int (1 : Int32)), .val (.int (-1 : Int32)), .val (.int z1)] [(.int (2 : Int32)), (.int (Int32.ofNat n))])
                      have j192 : ∀ z2 : Int32, (LastIs gg n 2 z2) → Go p e s below 16 128 (fun v h L => v = some (.int (1 : Int32)) ∧ Fr n0 L) T7 (mkF m 205 #[.val (.int i0), .val (.int i1), .val (.int i2), .val (.int i3), .val (.int i4), .val (.int (Int32.ofNat n)), .val (.int (gg 0)), .val (.int (gg 1)), .val (.int (gg 2)), .val (.int (gg 3)), .val (.ref b5), .val (.ref rb), .val (.int (1 : Int32)), .val (.int (-1 : Int32)), .val (.int z2)] []) := by
                        intro z2 hz2
                        refine Go.step (fun tt kk => XS.iload X7.here hx rfl (hb hby at_205) rfl kk) ?_
                        show Go _ _ _ _ _ _ _ T7 (mkF m 207 #[.val (.int i0), .val (.int i1), .val (.int i2), .val (.int i3), .val (.int i4), .val (.int (Int32.ofNat n)), .val (.int (gg 0)), .val (.int (gg 1)), .val (.int (gg 2)), .val (.int (gg 3)), .val (.ref b5), .val (.ref rb), .val (.int (1 : Int32)), .val (.int (-1 : Int32)), .val (.int z2)] [(.int (Int32.ofNat n))])
                        refine Go.step (fun tt kk => XS.iconst X7.here hx rfl (hb hby at_207) kk) ?_
                        show Go _ _ _ _ _ _ _ T7 (mkF m 208 #[.val (.int i0), .val (.int i1), .val (.int i2), .val (.int i3), .val (.int i4), .val (.int (Int32.ofNat n)), .val (.int (gg 0)), .val (.int (gg 1)), .val (.int (gg 2)), .val (.int (gg 3)), .val (.ref b5), .val (.ref rb), .val (.int (1 : Int32)), .val (.int (-1 : Int32)), .val (.int z2)] [(.int (3 : Int32)), (.int (Int32.ofNat n))])
                        have j208 : ∀ z3 : Int32, (LastIs gg n 3 z3) → Go p e s below 16 128 (fun v h L => v = some (.int (1 : Int32)) ∧ Fr n0 L) T7 (mkF m 221 #[.val (.int i0), .val (.int i1), .val (.int i2), .val (.int i3), .val (.int i4), .val (.int (Int32.ofNat n)), .val (.int (gg 0)), .val (.int (gg 1)), .val (.int (gg 2)), .val (.int (gg 3)), .val (.ref b5), .val (.ref rb), .val (.int (1 : Int32)), .val (.int (-1 : Int32)), .val (.int z3)] []) := by
                          intro z3 hz3
                          refine Go.step (fun tt kk => XS.iload X7.here hx rfl (hb hby at_221) rfl kk) ?_
                          show Go _ _ _ _ _ _ _ T7 (mkF m 223 #[.val (.int i0), .val (.int i1), .val (.int i2), .val (.int i3), .val (.int i4), .val (.int (Int32.ofNat n)), .val (.int (gg 0)), .val (.int (gg 1)), .val (.int (gg 2)), .val (.int (gg 3)), .val (.ref b5), .val (.ref rb), .val (.int (1 : Int32)), .val (.int (-1 : Int32)), .val (.int z3)] [(.int (Int32.ofNat n))])
                          refine Go.step (fun tt kk => XS.iconst X7.here hx rfl (hb hby at_223) kk) ?_
                          show Go _ _ _ _ _ _ _ T7 (mkF m 224 #[.val (.int i0), .val (.int i1), .val (.int i2), .val (.int i3), .val (.int i4), .val (.int (Int32.ofNat n)), .val (.int (gg 0)), .val (.int (gg 1)), .val (.int (gg 2)), .val (.int (gg 3)), .val (.ref b5), .val (.ref rb), .val (.int (1 : Int32)), .val (.int (-1 : Int32)), .val (.int z3)] [(.int (4 : Int32)), (.int (Int32.ofNat n))])
                          have j224 : ∀ z4 : Int32, (LastIs gg n 4 z4) → Go p e s below 16 128 (fun v h L => v = some (.int (1 : Int32)) ∧ Fr n0 L) T7 (mkF m 237 #[.val (.int i0), .val (.int i1), .val (.int i2), .val (.int i3), .val (.int i4), .val (.int (Int32.ofNat n)), .val (.int (gg 0)), .val (.int (gg 1)), .val (.int (gg 2)), .val (.int (gg 3)), .val (.ref b5), .val (.ref rb), .val (.int (1 : Int32)), .val (.int (-1 : Int32)), .val (.int z4)] []) := by
                            intro z4 hz4
                            obtain rfl := LastIs.some hz4 hn htn htg htj
                            show Go _ _ _ _ _ _ _ T7 (mkF m 237 #[.val (.int i0), .val (.int i1), .val (.int i2), .val (.int i3), .val (.int i4), .val (.int (Int32.ofNat n)), .val (.int (gg 0)), .val (.int (gg 1)), .val (.int (gg 2)), .val (.int (gg 3)), .val (.ref b5), .val (.ref rb), .val (.int (1 : Int32)), .val (.int (-1 : Int32)), .val (.int (Int32.ofNat t))] [])
                            refine Go.step (fun tt kk => XS.iload X7.here hx rfl (hb hby at_237) rfl kk) ?_
                            show Go _ _ _ _ _ _ _ T7 (mkF m 239 #[.val (.int i0), .val (.int i1), .val (.int i2), .val (.int i3), .val (.int i4), .val (.int (Int32.ofNat n)), .val (.int (gg 0)), .val (.int (gg 1)), .val (.int (gg 2)), .val (.int (gg 3)), .val (.ref b5), .val (.ref rb), .val (.int (1 : Int32)), .val (.int (-1 : Int32)), .val (.int (Int32.ofNat t))] [(.int (Int32.ofNat t))])
                            refine Go.step (fun tt kk => XS.ifYes X7.here hx rfl (pc0 := 239) (pc' := 258) rfl (hb hby at_239) rfl ((if0 _ _).trans (flt (own_nn t (by omega))).2.1) (by decide) (by decide) kk) ?_
                            show Go _ _ _ _ _ _ _ T7 (mkF m 258 #[.val (.int i0), .val (.int i1), .val (.int i2), .val (.int i3), .val (.int i4), .val (.int (Int32.ofNat n)), .val (.int (gg 0)), .val (.int (gg 1)), .val (.int (gg 2)), .val (.int (gg 3)), .val (.ref b5), .val (.ref rb), .val (.int (1 : Int32)), .val (.int (-1 : Int32)), .val (.int (Int32.ofNat t))] [])
                            refine Go.step (fun tt kk => XS.aload X7.here hx rfl (hb hby at_258) rfl rfl kk) ?_
                            show Go _ _ _ _ _ _ _ T7 (mkF m 260 #[.val (.int i0), .val (.int i1), .val (.int i2), .val (.int i3), .val (.int i4), .val (.int (Int32.ofNat n)), .val (.int (gg 0)), .val (.int (gg 1)), .val (.int (gg 2)), .val (.int (gg 3)), .val (.ref b5), .val (.ref rb), .val (.int (1 : Int32)), .val (.int (-1 : Int32)), .val (.int (Int32.ofNat t))] [(.ref rb)])
                            refine Go.step (fun tt kk => XS.ifnullNo X7.here hx rfl (hb hby at_260) rfl kk) ?_
                            show Go _ _ _ _ _ _ _ T7 (mkF m 263 #[.val (.int i0), .val (.int i1), .val (.int i2), .val (.int i3), .val (.int i4), .val (.int (Int32.ofNat n)), .val (.int (gg 0)), .val (.int (gg 1)), .val (.int (gg 2)), .val (.int (gg 3)), .val (.ref b5), .val (.ref rb), .val (.int (1 : Int32)), .val (.int (-1 : Int32)), .val (.int (Int32.ofNat t))] [])
                            refine Go.step (fun tt kk => XS.aload X7.here hx rfl (hb hby at_263) rfl rfl kk) ?_
                            show Go _ _ _ _ _ _ _ T7 (mkF m 265 #[.val (.int i0), .val (.int i1), .val (.int i2), .val (.int i3), .val (.int i4), .val (.int (Int32.ofNat n)), .val (.int (gg 0)), .val (.int (gg 1)), .val (.int (gg 2)), .val (.int (gg 3)), .val (.ref b5), .val (.ref rb), .val (.int (1 : Int32)), .val (.int (-1 : Int32)), .val (.int (Int32.ofNat t))] [(.ref rb)])
                            refine Go.step (a_len X7 hx hZ e7 VR (z := (Int32.ofNat (t + 1))) (Int32.toInt_ofNat_of_lt (by omega)) (hb hby at_265)) ?_
                            show Go _ _ _ _ _ _ _ T7 (mkF m 266 #[.val (.int i0), .val (.int i1), .val (.int i2), .val (.int i3), .val (.int i4), .val (.int (Int32.ofNat n)), .val (.int (gg 0)), .val (.int (gg 1)), .val (.int (gg 2)), .val (.int (gg 3)), .val (.ref b5), .val (.ref rb), .val (.int (1 : Int32)), .val (.int (-1 : Int32)), .val (.int (Int32.ofNat t))] [(.int (Int32.ofNat (t + 1)))])
                            refine Go.step (fun tt kk => XS.iload X7.here hx rfl (hb hby at_266) rfl kk) ?_
                            show Go _ _ _ _ _ _ _ T7 (mkF m 268 #[.val (.int i0), .val (.int i1), .val (.int i2), .val (.int i3), .val (.int i4), .val (.int (Int32.ofNat n)), .val (.int (gg 0)), .val (.int (gg 1)), .val (.int (gg 2)), .val (.int (gg 3)), .val (.ref b5), .val (.ref rb), .val (.int (1 : Int32)), .val (.int (-1 : Int32)), .val (.int (Int32.ofNat t))] [(.int (Int32.ofNat t)), (.int (Int32.ofNat (t + 1)))])
                            refine Go.step (fun tt kk => XS.iconst X7.here hx rfl (hb hby at_268) kk) ?_
                            show Go _ _ _ _ _ _ _ T7 (mkF m 269 #[.val (.int i0), .val (.int i1), .val (.int i2), .val (.int i3), .val (.int i4), .val (.int (Int32.ofNat n)), .val (.int (gg 0)), .val (.int (gg 1)), .val (.int (gg 2)), .val (.int (gg 3)), .val (.ref b5), .val (.ref rb), .val (.int (1 : Int32)), .val (.int (-1 : Int32)), .val (.int (Int32.ofNat t))] [(.int (1 : Int32)), (.int (Int32.ofNat t)), (.int (Int32.ofNat (t + 1)))])
                            refine Go.step (fun tt kk => XS.iadd X7.here hx rfl (hb hby at_269) rfl kk) ?_
                            show Go _ _ _ _ _ _ _ T7 (mkF m 270 #[.val (.int i0), .val (.int i1), .val (.int i2), .val (.int i3), .val (.int i4), .val (.int (Int32.ofNat n)), .val (.int (gg 0)), .val (.int (gg 1)), .val (.int (gg 2)), .val (.int (gg 3)), .val (.ref b5), .val (.ref rb), .val (.int (1 : Int32)), .val (.int (-1 : Int32)), .val (.int (Int32.ofNat t))] [(.int ((Int32.ofNat t) + (1 : Int32))), (.int (Int32.ofNat (t + 1)))])
                            refine Go.step (fun tt kk => XS.icmpYes X7.here hx rfl (pc0 := 270) (pc' := 275) rfl (hb hby at_270) rfl (teq (own_add t).symm).1 (by decide) (by decide) kk) ?_
                            show Go _ _ _ _ _ _ _ T7 (mkF m 275 #[.val (.int i0), .val (.int i1), .val (.int i2), .val (.int i3), .val (.int i4), .val (.int (Int32.ofNat n)), .val (.int (gg 0)), .val (.int (gg 1)), .val (.int (gg 2)), .val (.int (gg 3)), .val (.ref b5), .val (.ref rb), .val (.int (1 : Int32)), .val (.int (-1 : Int32)), .val (.int (Int32.ofNat t))] [])
                            refine Go.step (fun tt kk => XS.iload X7.here hx rfl (hb hby at_275) rfl kk) ?_
                            show Go _ _ _ _ _ _ _ T7 (mkF m 277 #[.val (.int i0), .val (.int i1), .val (.int i2), .val (.int i3), .val (.int i4), .val (.int (Int32.ofNat n)), .val (.int (gg 0)), .val (.int (gg 1)), .val (.int (gg 2)), .val (.int (gg 3)), .val (.ref b5), .val (.ref rb), .val (.int (1 : Int32)), .val (.int (-1 : Int32)), .val (.int (Int32.ofNat t))] [(.int (1 : Int32))])
                            refine Go.step (fun tt kk => XS.ifNo X7.here hx rfl (hb hby at_277) rfl ((if0 _ _).trans (feq (by decide)).1) kk) ?_
                            show Go _ _ _ _ _ _ _ T7 (mkF m 280 #[.val (.int i0), .val (.int i1), .val (.int i2), .val (.int i3), .val (.int i4), .val (.int (Int32.ofNat n)), .val (.int (gg 0)), .val (.int (gg 1)), .val (.int (gg 2)), .val (.int (gg 3)), .val (.ref b5), .val (.ref rb), .val (.int (1 : Int32)), .val (.int (-1 : Int32)), .val (.int (Int32.ofNat t))] [])
                            refine Go.step (fun tt kk => XS.aload X7.here hx rfl (hb hby at_280) rfl rfl kk) ?_
                            show Go _ _ _ _ _ _ _ T7 (mkF m 282 #[.val (.int i0), .val (.int i1), .val (.int i2), .val (.int i3), .val (.int i4), .val (.int (Int32.ofNat n)), .val (.int (gg 0)), .val (.int (gg 1)), .val (.int (gg 2)), .val (.int (gg 3)), .val (.ref b5), .val (.ref rb), .val (.int (1 : Int32)), .val (.int (-1 : Int32)), .val (.int (Int32.ofNat t))] [(.ref rb)])
                            refine Go.step (fun tt kk => XS.iconst X7.here hx rfl (hb hby at_282) kk) ?_
                            show Go _ _ _ _ _ _ _ T7 (mkF m 283 #[.val (.int i0), .val (.int i1), .val (.int i2), .val (.int i3), .val (.int i4), .val (.int (Int32.ofNat n)), .val (.int (gg 0)), .val (.int (gg 1)), .val (.int (gg 2)), .val (.int (gg 3)), .val (.ref b5), .val (.ref rb), .val (.int (1 : Int32)), .val (.int (-1 : Int32)), .val (.int (Int32.ofNat t))] [(.int (0 : Int32)), (.ref rb)])
                            refine Go.step (fun tt kk => XS.iload X7.here hx rfl (hb hby at_283) rfl kk) ?_
                            show Go _ _ _ _ _ _ _ T7 (mkF m 285 #[.val (.int i0), .val (.int i1), .val (.int i2), .val (.int i3), .val (.int i4), .val (.int (Int32.ofNat n)), .val (.int (gg 0)), .val (.int (gg 1)), .val (.int (gg 2)), .val (.int (gg 3)), .val (.ref b5), .val (.ref rb), .val (.int (1 : Int32)), .val (.int (-1 : Int32)), .val (.int (Int32.ofNat t))] [(.int (Int32.ofNat t)), (.int (0 : Int32)), (.ref rb)])
                            refine Go.step (fun tt kk => XS.iload X7.here hx rfl (hb hby at_285) rfl kk) ?_
                            show Go _ _ _ _ _ _ _ T7 (mkF m 287 #[.val (.int i0), .val (.int i1), .val (.int i2), .val (.int i3), .val (.int i4), .val (.int (Int32.ofNat n)), .val (.int (gg 0)), .val (.int (gg 1)), .val (.int (gg 2)), .val (.int (gg 3)), .val (.ref b5), .val (.ref rb), .val (.int (1 : Int32)), .val (.int (-1 : Int32)), .val (.int (Int32.ofNat t))] [(.int (gg 0)), (.int (Int32.ofNat t)), (.int (0 : Int32)), (.ref rb)])
                            obtain ⟨v22, T22, L22, X22, q22, st22⟩ := c_static X7 hx hZ hown (y := (⟨"com/example/sharks/sharks/engine/KeyRangeFollowingPinLaw", "okAt", "([BIIB)Z"⟩ : MethodName)) (hw _ (List.mem_of_getElem? (i := 23) rfl)) (hw _ (List.mem_of_getElem? (i := 24) rfl)) (hw _ (List.mem_of_getElem? (i := 3) rfl)) (hw _ (List.mem_of_getElem? (i := 25) rfl)) (by decide) (argsL := [(.ref rb), (.int (0 : Int32)), (.int (Int32.ofNat t)), (.int (gg 0))]) (rest := []) (rmOk l Z a0 hw [] rb 0 t gg h7 n0 Z7 (by omega) (by omega) VR) e7 pd_4 rfl (by rw [hml]; rfl) (W := 0) (by show 2 * 0 + _ ≤ _; exact Nat.le_of_eq rfl) (by decide) (by decide) (by decide) (by decide) (hb hby at_287) (Ls := #[.val (.int i0), .val (.int i1), .val (.int i2), .val (.int i3), .val (.int i4), .val (.int (Int32.ofNat n)), .val (.int (gg 0)), .val (.int (gg 1)), .val (.int (gg 2)), .val (.int (gg 3)), .val (.ref b5), .val (.ref rb), .val (.int (1 : Int32)), .val (.int (-1 : Int32)), .val (.int (Int32.ofNat t))])
                            obtain ⟨rfl, rfl, e22⟩ := q22
                            have N22 := Fr.app N7 (Fr.nil n0)
                            refine Go.step (st22) ?_
                            show Go _ _ _ _ _ _ _ T22 (mkF m 290 #[.val (.int i0), .val (.int i1), .val (.int i2), .val (.int i3), .val (.int i4), .val (.int (Int32.ofNat n)), .val (.int (gg 0)), .val (.int (gg 1)), .val (.int (gg 2)), .val (.int (gg 3)), .val (.ref b5), .val (.ref rb), .val (.int (1 : Int32)), .val (.int (-1 : Int32)), .val (.int (Int32.ofNat t))] [(.int (1 : Int32))])
                            refine Go.step (fun tt kk => XS.ifNo X22.here hx rfl (hb hby at_290) rfl ((if0 _ _).trans (feq (by decide)).1) kk) ?_
                            show Go _ _ _ _ _ _ _ T22 (mkF m 293 #[.val (.int i0), .val (.int i1), .val (.int i2), .val (.int i3), .val (.int i4), .val (.int (Int32.ofNat n)), .val (.int (gg 0)), .val (.int (gg 1)), .val (.int (gg 2)), .val (.int (gg 3)), .val (.ref b5), .val (.ref rb), .val (.int (1 : Int32)), .val (.int (-1 : Int32)), .val (.int (Int32.ofNat t))] [])
                            refine Go.step (fun tt kk => XS.aload X22.here hx rfl (hb hby at_293) rfl rfl kk) ?_
                            show Go _ _ _ _ _ _ _ T22 (mkF m 295 #[.val (.int i0), .val (.int i1), .val (.int i2), .val (.int i3), .val (.int i4), .val (.int (Int32.ofNat n)), .val (.int (gg 0)), .val (.int (gg 1)), .val (.int (gg 2)), .val (.int (gg 3)), .val (.ref b5), .val (.ref rb), .val (.int (1 : Int32)), .val (.int (-1 : Int32)), .val (.int (Int32.ofNat t))] [(.ref rb)])
                            refine Go.step (fun tt kk => XS.iconst X22.here hx rfl (hb hby at_295) kk) ?_
                            show Go _ _ _ _ _ _ _ T22 (mkF m 296 #[.val (.int i0), .val (.int i1), .val (.int i2), .val (.int i3), .val (.int i4), .val (.int (Int32.ofNat n)), .val (.int (gg 0)), .val (.int (gg 1)), .val (.int (gg 2)), .val (.int (gg 3)), .val (.ref b5), .val (.ref rb), .val (.int (1 : Int32)), .val (.int (-1 : Int32)), .val (.int (Int32.ofNat t))] [(.int (1 : Int32)), (.ref rb)])
                            refine Go.step (fun tt kk => XS.iload X22.here hx rfl (hb hby at_296) rfl kk) ?_
                            show Go _ _ _ _ _ _ _ T22 (mkF m 298 #[.val (.int i0), .val (.int i1), .val (.int i2), .val (.int i3), .val (.int i4), .val (.int (Int32.ofNat n)), .val (.int (gg 0)), .val (.int (gg 1)), .val (.int (gg 2)), .val (.int (gg 3)), .val (.ref b5), .val (.ref rb), .val (.int (1 : Int32)), .val (.int (-1 : Int32)), .val (.int (Int32.ofNat t))] [(.int (Int32.ofNat t)), (.int (1 : Int32)), (.ref rb)])
                            refine Go.step (fun tt kk => XS.iload X22.here hx rfl (hb hby at_298) rfl kk) ?_
                            show Go _ _ _ _ _ _ _ T22 (mkF m 300 #[.val (.int i0), .val (.int i1), .val (.int i2), .val (.int i3), .val (.int i4), .val (.int (Int32.ofNat n)), .val (.int (gg 0)), .val (.int (gg 1)), .val (.int (gg 2)), .val (.int (gg 3)), .val (.ref b5), .val (.ref rb), .val (.int (1 : Int32)), .val (.int (-1 : Int32)), .val (.int (Int32.ofNat t))] [(.int (gg 1)), (.int (Int32.ofNat t)), (.int (1 : Int32)), (.ref rb)])
                            obtain ⟨v23, T23, L23, X23, q23, st23⟩ := c_static X22 hx hZ hown (y := (⟨"com/example/sharks/sharks/engine/KeyRangeFollowingPinLaw", "okAt", "([BIIB)Z"⟩ : MethodName)) (hw _ (List.mem_of_getElem? (i := 23) rfl)) (hw _ (List.mem_of_getElem? (i := 24) rfl)) (hw _ (List.mem_of_getElem? (i := 3) rfl)) (hw _ (List.mem_of_getElem? (i := 25) rfl)) (by decide) (argsL := [(.ref rb), (.int (1 : Int32)), (.int (Int32.ofNat t)), (.int (gg 1))]) (rest := []) (rmOk l Z a0 hw [] rb 1 t gg h7 n0 Z7 (by omega) (by omega) VR) e22 pd_4 rfl (by rw [hml]; rfl) (W := 0) (by show 2 * 0 + _ ≤ _; exact Nat.le_of_eq rfl) (by decide) (by decide) (by decide) (by decide) (hb hby at_300) (Ls := #[.val (.int i0), .val (.int i1), .val (.int i2), .val (.int i3), .val (.int i4), .val (.int (Int32.ofNat n)), .val (.int (gg 0)), .val (.int (gg 1)), .val (.int (gg 2)), .val (.int (gg 3)), .val (.ref b5), .val (.ref rb), .val (.int (1 : Int32)), .val (.int (-1 : Int32)), .val (.int (Int32.ofNat t))])
                            obtain ⟨rfl, rfl, e23⟩ := q23
                            have N23 := Fr.app N22 (Fr.nil n0)
                            refine Go.step (st23) ?_
                            show Go _ _ _ _ _ _ _ T23 (mkF m 303 #[.val (.int i0), .val (.int i1), .val (.int i2), .val (.int i3), .val (.int i4), .val (.int (Int32.ofNat n)), .val (.int (gg 0)), .val (.int (gg 1)), .val (.int (gg 2)), .val (.int (gg 3)), .val (.ref b5), .val (.ref rb), .val (.int (1 : Int32)), .val (.int (-1 : Int32)), .val (.int (Int32.ofNat t))] [(.int (1 : Int32))])
                            refine Go.step (fun tt kk => XS.ifNo X23.here hx rfl (hb hby at_303) rfl ((if0 _ _).trans (feq (by decide)).1) kk) ?_
                            show Go _ _ _ _ _ _ _ T23 (mkF m 306 #[.val (.int i0), .val (.int i1), .val (.int i2), .val (.int i3), .val (.int i4), .val (.int (Int32.ofNat n)), .val (.int (gg 0)), .val (.int (gg 1)), .val (.int (gg 2)), .val (.int (gg 3)), .val (.ref b5), .val (.ref rb), .val (.int (1 : Int32)), .val (.int (-1 : Int32)), .val (.int (Int32.ofNat t))] [])
                            refine Go.step (fun tt kk => XS.aload X23.here hx rfl (hb hby at_306) rfl rfl kk) ?_
                            show Go _ _ _ _ _ _ _ T23 (mkF m 308 #[.val (.int i0), .val (.int i1), .val (.int i2), .val (.int i3), .val (.int i4), .val (.int (Int32.ofNat n)), .val (.int (gg 0)), .val (.int (gg 1)), .val (.int (gg 2)), .val (.int (gg 3)), .val (.ref b5), .val (.ref rb), .val (.int (1 : Int32)), .val (.int (-1 : Int32)), .val (.int (Int32.ofNat t))] [(.ref rb)])
                            refine Go.step (fun tt kk => XS.iconst X23.here hx rfl (hb hby at_308) kk) ?_
                            show Go _ _ _ _ _ _ _ T23 (mkF m 309 #[.val (.int i0), .val (.int i1), .val (.int i2), .val (.int i3), .val (.int i4), .val (.int (Int32.ofNat n)), .val (.int (gg 0)), .val (.int (gg 1)), .val (.int (gg 2)), .val (.int (gg 3)), .val (.ref b5), .val (.ref rb), .val (.int (1 : Int32)), .val (.int (-1 : Int32)), .val (.int (Int32.ofNat t))] [(.int (2 : Int32)), (.ref rb)])
                            refine Go.step (fun tt kk => XS.iload X23.here hx rfl (hb hby at_309) rfl kk) ?_
                            show Go _ _ _ _ _ _ _ T23 (mkF m 311 #[.val (.int i0), .val (.int i1), .val (.int i2), .val (.int i3), .val (.int i4), .val (.int (Int32.ofNat n)), .val (.int (gg 0)), .val (.int (gg 1)), .val (.int (gg 2)), .val (.int (gg 3)), .val (.ref b5), .val (.ref rb), .val (.int (1 : Int32)), .val (.int (-1 : Int32)), .val (.int (Int32.ofNat t))] [(.int (Int32.ofNat t)), (.int (2 : Int32)), (.ref rb)])
                            refine Go.step (fun tt kk => XS.iload X23.here hx rfl (hb hby at_311) rfl kk) ?_
                            show Go _ _ _ _ _ _ _ T23 (mkF m 313 #[.val (.int i0), .val (.int i1), .val (.int i2), .val (.int i3), .val (.int i4), .val (.int (Int32.ofNat n)), .val (.int (gg 0)), .val (.int (gg 1)), .val (.int (gg 2)), .val (.int (gg 3)), .val (.ref b5), .val (.ref rb), .val (.int (1 : Int32)), .val (.int (-1 : Int32)), .val (.int (Int32.ofNat t))] [(.int (gg 2)), (.int (Int32.ofNat t)), (.int (2 : Int32)), (.ref rb)])
                            obtain ⟨v24, T24, L24, X24, q24, st24⟩ := c_static X23 hx hZ hown (y := (⟨"com/example/sharks/sharks/engine/KeyRangeFollowingPinLaw", "okAt", "([BIIB)Z"⟩ : MethodName)) (hw _ (List.mem_of_getElem? (i := 23) rfl)) (hw _ (List.mem_of_getElem? (i := 24) rfl)) (hw _ (List.mem_of_getElem? (i := 3) rfl)) (hw _ (List.mem_of_getElem? (i := 25) rfl)) (by decide) (argsL := [(.ref rb), (.int (2 : Int32)), (.int (Int32.ofNat t)), (.int (gg 2))]) (rest := []) (rmOk l Z a0 hw [] rb 2 t gg h7 n0 Z7 (by omega) (by omega) VR) e23 pd_4 rfl (by rw [hml]; rfl) (W := 0) (by show 2 * 0 + _ ≤ _; exact Nat.le_of_eq rfl) (by decide) (by decide) (by decide) (by decide) (hb hby at_313) (Ls := #[.val (.int i0), .val (.int i1), .val (.int i2), .val (.int i3), .val (.int i4), .val (.int (Int32.ofNat n)), .val (.int (gg 0)), .val (.int (gg 1)), .val (.int (gg 2)), .val (.int (gg 3)), .val (.ref b5), .val (.ref rb), .val (.int (1 : Int32)), .val (.int (-1 : Int32)), .val (.int (Int32.ofNat t))])
                            obtain ⟨rfl, rfl, e24⟩ := q24
                            have N24 := Fr.app N23 (Fr.nil n0)
                            refine Go.step (st24) ?_
                            show Go _ _ _ _ _ _ _ T24 (mkF m 316 #[.val (.int i0), .val (.int i1), .val (.int i2), .val (.int i3), .val (.int i4), .val (.int (Int32.ofNat n)), .val (.int (gg 0)), .val (.int (gg 1)), .val (.int (gg 2)), .val (.int (gg 3)), .val (.ref b5), .val (.ref rb), .val (.int (1 : Int32)), .val (.int (-1 : Int32)), .val (.int (Int32.ofNat t))] [(.int (1 : Int32))])
                            refine Go.step (fun tt kk => XS.ifNo X24.here hx rfl (hb hby at_316) rfl ((if0 _ _).trans (feq (by decide)).1) kk) ?_
                            show Go _ _ _ _ _ _ _ T24 (mkF m 319 #[.val (.int i0), .val (.int i1), .val (.int i2), .val (.int i3), .val (.int i4), .val (.int (Int32.ofNat n)), .val (.int (gg 0)), .val (.int (gg 1)), .val (.int (gg 2)), .val (.int (gg 3)), .val (.ref b5), .val (.ref rb), .val (.int (1 : Int32)), .val (.int (-1 : Int32)), .val (.int (Int32.ofNat t))] [])
                            refine Go.step (fun tt kk => XS.aload X24.here hx rfl (hb hby at_319) rfl rfl kk) ?_
                            show Go _ _ _ _ _ _ _ T24 (mkF m 321 #[.val (.int i0), .val (.int i1), .val (.int i2), .val (.int i3), .val (.int i4), .val (.int (Int32.ofNat n)), .val (.int (gg 0)), .val (.int (gg 1)), .val (.int (gg 2)), .val (.int (gg 3)), .val (.ref b5), .val (.ref rb), .val (.int (1 : Int32)), .val (.int (-1 : Int32)), .val (.int (Int32.ofNat t))] [(.ref rb)])
                            refine Go.step (fun tt kk => XS.iconst X24.here hx rfl (hb hby at_321) kk) ?_
                            show Go _ _ _ _ _ _ _ T24 (mkF m 322 #[.val (.int i0), .val (.int i1), .val (.int i2), .val (.int i3), .val (.int i4), .val (.int (Int32.ofNat n)), .val (.int (gg 0)), .val (.int (gg 1)), .val (.int (gg 2)), .val (.int (gg 3)), .val (.ref b5), .val (.ref rb), .val (.int (1 : Int32)), .val (.int (-1 : Int32)), .val (.int (Int32.ofNat t))] [(.int (3 : Int32)), (.ref rb)])
                            refine Go.step (fun tt kk => XS.iload X24.here hx rfl (hb hby at_322) rfl kk) ?_
                            show Go _ _ _ _ _ _ _ T24 (mkF m 324 #[.val (.int i0), .val (.int i1), .val (.int i2), .val (.int i3), .val (.int i4), .val (.int (Int32.ofNat n)), .val (.int (gg 0)), .val (.int (gg 1)), .val (.int (gg 2)), .val (.int (gg 3)), .val (.ref b5), .val (.ref rb), .val (.int (1 : Int32)), .val (.int (-1 : Int32)), .val (.int (Int32.ofNat t))] [(.int (Int32.ofNat t)), (.int (3 : Int32)), (.ref rb)])
                            refine Go.step (fun tt kk => XS.iload X24.here hx rfl (hb hby at_324) rfl kk) ?_
                            show Go _ _ _ _ _ _ _ T24 (mkF m 326 #[.val (.int i0), .val (.int i1), .val (.int i2), .val (.int i3), .val (.int i4), .val (.int (Int32.ofNat n)), .val (.int (gg 0)), .val (.int (gg 1)), .val (.int (gg 2)), .val (.int (gg 3)), .val (.ref b5), .val (.ref rb), .val (.int (1 : Int32)), .val (.int (-1 : Int32)), .val (.int (Int32.ofNat t))] [(.int (gg 3)), (.int (Int32.ofNat t)), (.int (3 : Int32)), (.ref rb)])
                            obtain ⟨v25, T25, L25, X25, q25, st25⟩ := c_static X24 hx hZ hown (y := (⟨"com/example/sharks/sharks/engine/KeyRangeFollowingPinLaw", "okAt", "([BIIB)Z"⟩ : MethodName)) (hw _ (List.mem_of_getElem? (i := 23) rfl)) (hw _ (List.mem_of_getElem? (i := 24) rfl)) (hw _ (List.mem_of_getElem? (i := 3) rfl)) (hw _ (List.mem_of_getElem? (i := 25) rfl)) (by decide) (argsL := [(.ref rb), (.int (3 : Int32)), (.int (Int32.ofNat t)), (.int (gg 3))]) (rest := []) (rmOk l Z a0 hw [] rb 3 t gg h7 n0 Z7 (by omega) (by omega) VR) e24 pd_4 rfl (by rw [hml]; rfl) (W := 0) (by show 2 * 0 + _ ≤ _; exact Nat.le_of_eq rfl) (by decide) (by decide) (by decide) (by decide) (hb hby at_326) (Ls := #[.val (.int i0), .val (.int i1), .val (.int i2), .val (.int i3), .val (.int i4), .val (.int (Int32.ofNat n)), .val (.int (gg 0)), .val (.int (gg 1)), .val (.int (gg 2)), .val (.int (gg 3)), .val (.ref b5), .val (.ref rb), .val (.int (1 : Int32)), .val (.int (-1 : Int32)), .val (.int (Int32.ofNat t))])
                            obtain ⟨rfl, rfl, e25⟩ := q25
                            have N25 := Fr.app N24 (Fr.nil n0)
                            refine Go.step (st25) ?_
                            show Go _ _ _ _ _ _ _ T25 (mkF m 329 #[.val (.int i0), .val (.int i1), .val (.int i2), .val (.int i3), .val (.int i4), .val (.int (Int32.ofNat n)), .val (.int (gg 0)), .val (.int (gg 1)), .val (.int (gg 2)), .val (.int (gg 3)), .val (.ref b5), .val (.ref rb), .val (.int (1 : Int32)), .val (.int (-1 : Int32)), .val (.int (Int32.ofNat t))] [(.int (1 : Int32))])
                            refine Go.step (fun tt kk => XS.ifNo X25.here hx rfl (hb hby at_329) rfl ((if0 _ _).trans (feq (by decide)).1) kk) ?_
                            show Go _ _ _ _ _ _ _ T25 (mkF m 332 #[.val (.int i0), .val (.int i1), .val (.int i2), .val (.int i3), .val (.int i4), .val (.int (Int32.ofNat n)), .val (.int (gg 0)), .val (.int (gg 1)), .val (.int (gg 2)), .val (.int (gg 3)), .val (.ref b5), .val (.ref rb), .val (.int (1 : Int32)), .val (.int (-1 : Int32)), .val (.int (Int32.ofNat t))] [])
                            refine Go.step (fun tt kk => XS.iconst X25.here hx rfl (hb hby at_332) kk) ?_
                            show Go _ _ _ _ _ _ _ T25 (mkF m 333 #[.val (.int i0), .val (.int i1), .val (.int i2), .val (.int i3), .val (.int i4), .val (.int (Int32.ofNat n)), .val (.int (gg 0)), .val (.int (gg 1)), .val (.int (gg 2)), .val (.int (gg 3)), .val (.ref b5), .val (.ref rb), .val (.int (1 : Int32)), .val (.int (-1 : Int32)), .val (.int (Int32.ofNat t))] [(.int (1 : Int32))])
                            refine Go.step (fun tt kk => XS.goto X25.here hx rfl (pc0 := 333) (pc' := 337) rfl (hb hby at_333) (by decide) (by decide) kk) ?_
                            show Go _ _ _ _ _ _ _ T25 (mkF m 337 #[.val (.int i0), .val (.int i1), .val (.int i2), .val (.int i3), .val (.int i4), .val (.int (Int32.ofNat n)), .val (.int (gg 0)), .val (.int (gg 1)), .val (.int (gg 2)), .val (.int (gg 3)), .val (.ref b5), .val (.ref rb), .val (.int (1 : Int32)), .val (.int (-1 : Int32)), .val (.int (Int32.ofNat t))] [(.int (1 : Int32))])
                            refine go_retN X25 hx (t := .boolean) hret (by simp) hlk (hb hby at_337) (w := (1 : Int32)) rfl ?_ (by decide) (by decide)
                            try rw [e25]
                            exact ⟨rfl, N25⟩
                          by_cases c224_26 : (Int32.ofNat n) < (4 : Int32)
                          · refine Go.step (fun tt kk => XS.icmpYes X7.here hx rfl (pc0 := 224) (pc' := 237) rfl (hb hby at_224) rfl (tlt c224_26).1 (by decide) (by decide) kk) ?_
                            show Go _ _ _ _ _ _ _ T7 (mkF m 237 #[.val (.int i0), .val (.int i1), .val (.int i2), .val (.int i3), .val (.int i4), .val (.int (Int32.ofNat n)), .val (.int (gg 0)), .val (.int (gg 1)), .val (.int (gg 2)), .val (.int (gg 3)), .val (.ref b5), .val (.ref rb), .val (.int (1 : Int32)), .val (.int (-1 : Int32)), .val (.int z3)] [])
                            exact j224 _ (LastIs.keep hz3 (fun q => absurd ((own_lt n 4 (by omega) (by omega)).mp c224_26) (by omega)))
                          · refine Go.step (fun tt kk => XS.icmpNo X7.here hx rfl (hb hby at_224) rfl (flt c224_26).1 kk) ?_
                            show Go _ _ _ _ _ _ _ T7 (mkF m 227 #[.val (.int i0), .val (.int i1), .val (.int i2), .val (.int i3), .val (.int i4), .val (.int (Int32.ofNat n)), .val (.int (gg 0)), .val (.int (gg 1)), .val (.int (gg 2)), .val (.int (gg 3)), .val (.ref b5), .val (.ref rb), .val (.int (1 : Int32)), .val (.int (-1 : Int32)), .val (.int z3)] [])
                            refine Go.step (fun tt kk => XS.iload X7.here hx rfl (hb hby at_227) rfl kk) ?_
                            show Go _ _ _ _ _ _ _ T7 (mkF m 229 #[.val (.int i0), .val (.int i1), .val (.int i2), .val (.int i3), .val (.int i4), .val (.int (Int32.ofNat n)), .val (.int (gg 0)), .val (.int (gg 1)), .val (.int (gg 2)), .val (.int (gg 3)), .val (.ref b5), .val (.ref rb), .val (.int (1 : Int32)), .val (.int (-1 : Int32)), .val (.int z3)] [(.int (gg 3))])
                            refine Go.step (fun tt kk => XS.iload X7.here hx rfl (hb hby at_229) rfl kk) ?_
                            show Go _ _ _ _ _ _ _ T7 (mkF m 231 #[.val (.int i0), .val (.int i1), .val (.int i2), .val (.int i3), .val (.int i4), .val (.int (Int32.ofNat n)), .val (.int (gg 0)), .val (.int (gg 1)), .val (.int (gg 2)), .val (.int (gg 3)), .val (.ref b5), .val (.ref rb), .val (.int (1 : Int32)), .val (.int (-1 : Int32)), .val (.int z3)] [(.int (-1 : Int32)), (.int (gg 3))])
                            by_cases c231_27 : (gg 3) = (-1 : Int32)
                            · refine Go.step (fun tt kk => XS.icmpYes X7.here hx rfl (pc0 := 231) (pc' := 237) rfl (hb hby at_231) rfl (teq c231_27).1 (by decide) (by decide) kk) ?_
                              show Go _ _ _ _ _ _ _ T7 (mkF m 237 #[.val (.int i0), .val (.int i1), .val (.int i2), .val (.int i3), .val (.int i4), .val (.int (Int32.ofNat n)), .val (.int (gg 0)), .val (.int (gg 1)), .val (.int (gg 2)), .val (.int (gg 3)), .val (.ref b5), .val (.ref rb), .val (.int (1 : Int32)), .val (.int (-1 : Int32)), .val (.int z3)] [])
                              exact j224 _ (LastIs.keep hz3 (fun _ => c231_27))
                            · refine Go.step (fun tt kk => XS.icmpNo X7.here hx rfl (hb hby at_231) rfl (feq c231_27).1 kk) ?_
                              show Go _ _ _ _ _ _ _ T7 (mkF m 234 #[.val (.int i0), .val (.int i1), .val (.int i2), .val (.int i3), .val (.int i4), .val (.int (Int32.ofNat n)), .val (.int (gg 0)), .val (.int (gg 1)), .val (.int (gg 2)), .val (.int (gg 3)), .val (.ref b5), .val (.ref rb), .val (.int (1 : Int32)), .val (.int (-1 : Int32)), .val (.int z3)] [])
                              refine Go.step (fun tt kk => XS.iconst X7.here hx rfl (hb hby at_234) kk) ?_
                              show Go _ _ _ _ _ _ _ T7 (mkF m 235 #[.val (.int i0), .val (.int i1), .val (.int i2), .val (.int i3), .val (.int i4), .val (.int (Int32.ofNat n)), .val (.int (gg 0)), .val (.int (gg 1)), .val (.int (gg 2)), .val (.int (gg 3)), .val (.ref b5), .val (.ref rb), .val (.int (1 : Int32)), .val (.int (-1 : Int32)), .val (.int z3)] [(.int (3 : Int32))])
                              refine Go.step (fun tt kk => XS.istore X7.here hx rfl (hb hby at_235) rfl (l' := #[.val (.int i0), .val (.int i1), .val (.int i2), .val (.int i3), .val (.int i4), .val (.int (Int32.ofNat n)), .val (.int (gg 0)), .val (.int (gg 1)), .val (.int (gg 2)), .val (.int (gg 3)), .val (.ref b5), .val (.ref rb), .val (.int (1 : Int32)), .val (.int (-1 : Int32)), .val (.int (3 : Int32))]) rfl kk) ?_
                              show Go _ _ _ _ _ _ _ T7 (mkF m 237 #[.val (.int i0), .val (.int i1), .val (.int i2), .val (.int i3), .val (.int i4), .val (.int (Int32.ofNat n)), .val (.int (gg 0)), .val (.int (gg 1)), .val (.int (gg 2)), .val (.int (gg 3)), .val (.ref b5), .val (.ref rb), .val (.int (1 : Int32)), .val (.int (-1 : Int32)), .val (.int (3 : Int32))] [])
                              exact j224 _ (LastIs.turn (by have q := mt (own_lt n 4 (by omega) (by omega)).mpr c224_26; omega) c231_27)
                        by_cases c208_28 : (Int32.ofNat n) < (3 : Int32)
                        · refine Go.step (fun tt kk => XS.icmpYes X7.here hx rfl (pc0 := 208) (pc' := 221) rfl (hb hby at_208) rfl (tlt c208_28).1 (by decide) (by decide) kk) ?_
                          show Go _ _ _ _ _ _ _ T7 (mkF m 221 #[.val (.int i0), .val (.int i1), .val (.int i2), .val (.int i3), .val (.int i4), .val (.int (Int32.ofNat n)), .val (.int (gg 0)), .val (.int (gg 1)), .val (.int (gg 2)), .val (.int (gg 3)), .val (.ref b5), .val (.ref rb), .val (.int (1 : Int32)), .val (.int (-1 : Int32)), .val (.int z2)] [])
                          exact j208 _ (LastIs.keep hz2 (fun q => absurd ((own_lt n 3 (by omega) (by omega)).mp c208_28) (by omega)))
                        · refine Go.step (fun tt kk => XS.icmpNo X7.here hx rfl (hb hby at_208) rfl (flt c208_28).1 kk) ?_
                          show Go _ _ _ _ _ _ _ T7 (mkF m 211 #[.val (.int i0), .val (.int i1), .val (.int i2), .val (.int i3), .val (.int i4), .val (.int (Int32.ofNat n)), .val (.int (gg 0)), .val (.int (gg 1)), .val (.int (gg 2)), .val (.int (gg 3)), .val (.ref b5), .val (.ref rb), .val (.int (1 : Int32)), .val (.int (-1 : Int32)), .val (.int z2)] [])
                          refine Go.step (fun tt kk => XS.iload X7.here hx rfl (hb hby at_211) rfl kk) ?_
                          show Go _ _ _ _ _ _ _ T7 (mkF m 213 #[.val (.int i0), .val (.int i1), .val (.int i2), .val (.int i3), .val (.int i4), .val (.int (Int32.ofNat n)), .val (.int (gg 0)), .val (.int (gg 1)), .val (.int (gg 2)), .val (.int (gg 3)), .val (.ref b5), .val (.ref rb), .val (.int (1 : Int32)), .val (.int (-1 : Int32)), .val (.int z2)] [(.int (gg 2))])
                          refine Go.step (fun tt kk => XS.iload X7.here hx rfl (hb hby at_213) rfl kk) ?_
                          show Go _ _ _ _ _ _ _ T7 (mkF m 215 #[.val (.int i0), .val (.int i1), .val (.int i2), .val (.int i3), .val (.int i4), .val (.int (Int32.ofNat n)), .val (.int (gg 0)), .val (.int (gg 1)), .val (.int (gg 2)), .val (.int (gg 3)), .val (.ref b5), .val (.ref rb), .val (.int (1 : Int32)), .val (.int (-1 : Int32)), .val (.int z2)] [(.int (-1 : Int32)), (.int (gg 2))])
                          by_cases c215_29 : (gg 2) = (-1 : Int32)
                          · refine Go.step (fun tt kk => XS.icmpYes X7.here hx rfl (pc0 := 215) (pc' := 221) rfl (hb hby at_215) rfl (teq c215_29).1 (by decide) (by decide) kk) ?_
                            show Go _ _ _ _ _ _ _ T7 (mkF m 221 #[.val (.int i0), .val (.int i1), .val (.int i2), .val (.int i3), .val (.int i4), .val (.int (Int32.ofNat n)), .val (.int (gg 0)), .val (.int (gg 1)), .val (.int (gg 2)), .val (.int (gg 3)), .val (.ref b5), .val (.ref rb), .val (.int (1 : Int32)), .val (.int (-1 : Int32)), .val (.int z2)] [])
                            exact j208 _ (LastIs.keep hz2 (fun _ => c215_29))
                          · refine Go.step (fun tt kk => XS.icmpNo X7.here hx rfl (hb hby at_215) rfl (feq c215_29).1 kk) ?_
                            show Go _ _ _ _ _ _ _ T7 (mkF m 218 #[.val (.int i0), .val (.int i1), .val (.int i2), .val (.int i3), .val (.int i4), .val (.int (Int32.ofNat n)), .val (.int (gg 0)), .val (.int (gg 1)), .val (.int (gg 2)), .val (.int (gg 3)), .val (.ref b5), .val (.ref rb), .val (.int (1 : Int32)), .val (.int (-1 : Int32)), .val (.int z2)] [])
                            refine Go.step (fun tt kk => XS.iconst X7.here hx rfl (hb hby at_218) kk) ?_
                            show Go _ _ _ _ _ _ _ T7 (mkF m 219 #[.val (.int i0), .val (.int i1), .val (.int i2), .val (.int i3), .val (.int i4), .val (.int (Int32.ofNat n)), .val (.int (gg 0)), .val (.int (gg 1)), .val (.int (gg 2)), .val (.int (gg 3)), .val (.ref b5), .val (.ref rb), .val (.int (1 : Int32)), .val (.int (-1 : Int32)), .val (.int z2)] [(.int (2 : Int32))])
                            refine Go.step (fun tt kk => XS.istore X7.here hx rfl (hb hby at_219) rfl (l' := #[.val (.int i0), .val (.int i1), .val (.int i2), .val (.int i3), .val (.int i4), .val (.int (Int32.ofNat n)), .val (.int (gg 0)), .val (.int (gg 1)), .val (.int (gg 2)), .val (.int (gg 3)), .val (.ref b5), .val (.ref rb), .val (.int (1 : Int32)), .val (.int (-1 : Int32)), .val (.int (2 : Int32))]) rfl kk) ?_
                            show Go _ _ _ _ _ _ _ T7 (mkF m 221 #[.val (.int i0), .val (.int i1), .val (.int i2), .val (.int i3), .val (.int i4), .val (.int (Int32.ofNat n)), .val (.int (gg 0)), .val (.int (gg 1)), .val (.int (gg 2)), .val (.int (gg 3)), .val (.ref b5), .val (.ref rb), .val (.int (1 : Int32)), .val (.int (-1 : Int32)), .val (.int (2 : Int32))] [])
                            exact j208 _ (LastIs.turn (by have q := mt (own_lt n 3 (by omega) (by omega)).mpr c208_28; omega) c215_29)
                      by_cases c192_30 : (Int32.ofNat n) < (2 : Int32)
                      · refine Go.step (fun tt kk => XS.icmpYes X7.here hx rfl (pc0 := 192) (pc' := 205) rfl (hb hby at_192) rfl (tlt c192_30).1 (by decide) (by decide) kk) ?_
                        show Go _ _ _ _ _ _ _ T7 (mkF m 205 #[.val (.int i0), .val (.int i1), .val (.int i2), .val (.int i3), .val (.int i4), .val (.int (Int32.ofNat n)), .val (.int (gg 0)), .val (.int (gg 1)), .val (.int (gg 2)), .val (.int (gg 3)), .val (.ref b5), .val (.ref rb), .val (.int (1 : Int32)), .val (.int (-1 : Int32)), .val (.int z1)] [])
                        exact j192 _ (LastIs.keep hz1 (fun q => absurd ((own_lt n 2 (by omega) (by omega)).mp c192_30) (by omega)))
                      · refine Go.step (fun tt kk => XS.icmpNo X7.here hx rfl (hb hby at_192) rfl (flt c192_30).1 kk) ?_
                        show Go _ _ _ _ _ _ _ T7 (mkF m 195 #[.val (.int i0), .val (.int i1), .val (.int i2), .val (.int i3), .val (.int i4), .val (.int (Int32.ofNat n)), .val (.int (gg 0)), .val (.int (gg 1)), .val (.int (gg 2)), .val (.int (gg 3)), .val (.ref b5), .val (.ref rb), .val (.int (1 : Int32)), .val (.int (-1 : Int32)), .val (.int z1)] [])
                        refine Go.step (fun tt kk => XS.iload X7.here hx rfl (hb hby at_195) rfl kk) ?_
                        show Go _ _ _ _ _ _ _ T7 (mkF m 197 #[.val (.int i0), .val (.int i1), .val (.int i2), .val (.int i3), .val (.int i4), .val (.int (Int32.ofNat n)), .val (.int (gg 0)), .val (.int (gg 1)), .val (.int (gg 2)), .val (.int (gg 3)), .val (.ref b5), .val (.ref rb), .val (.int (1 : Int32)), .val (.int (-1 : Int32)), .val (.int z1)] [(.int (gg 1))])
                        refine Go.step (fun tt kk => XS.iload X7.here hx rfl (hb hby at_197) rfl kk) ?_
                        show Go _ _ _ _ _ _ _ T7 (mkF m 199 #[.val (.int i0), .val (.int i1), .val (.int i2), .val (.int i3), .val (.int i4), .val (.int (Int32.ofNat n)), .val (.int (gg 0)), .val (.int (gg 1)), .val (.int (gg 2)), .val (.int (gg 3)), .val (.ref b5), .val (.ref rb), .val (.int (1 : Int32)), .val (.int (-1 : Int32)), .val (.int z1)] [(.int (-1 : Int32)), (.int (gg 1))])
                        by_cases c199_31 : (gg 1) = (-1 : Int32)
                        · refine Go.step (fun tt kk => XS.icmpYes X7.here hx rfl (pc0 := 199) (pc' := 205) rfl (hb hby at_199) rfl (teq c199_31).1 (by decide) (by decide) kk) ?_
                          show Go _ _ _ _ _ _ _ T7 (mkF m 205 #[.val (.int i0), .val (.int i1), .val (.int i2), .val (.int i3), .val (.int i4), .val (.int (Int32.ofNat n)), .val (.int (gg 0)), .val (.int (gg 1)), .val (.int (gg 2)), .val (.int (gg 3)), .val (.ref b5), .val (.ref rb), .val (.int (1 : Int32)), .val (.int (-1 : Int32)), .val (.int z1)] [])
                          exact j192 _ (LastIs.keep hz1 (fun _ => c199_31))
                        · refine Go.step (fun tt kk => XS.icmpNo X7.here hx rfl (hb hby at_199) rfl (feq c199_31).1 kk) ?_
                          show Go _ _ _ _ _ _ _ T7 (mkF m 202 #[.val (.int i0), .val (.int i1), .val (.int i2), .val (.int i3), .val (.int i4), .val (.int (Int32.ofNat n)), .val (.int (gg 0)), .val (.int (gg 1)), .val (.int (gg 2)), .val (.int (gg 3)), .val (.ref b5), .val (.ref rb), .val (.int (1 : Int32)), .val (.int (-1 : Int32)), .val (.int z1)] [])
                          refine Go.step (fun tt kk => XS.iconst X7.here hx rfl (hb hby at_202) kk) ?_
                          show Go _ _ _ _ _ _ _ T7 (mkF m 203 #[.val (.int i0), .val (.int i1), .val (.int i2), .val (.int i3), .val (.int i4), .val (.int (Int32.ofNat n)), .val (.int (gg 0)), .val (.int (gg 1)), .val (.int (gg 2)), .val (.int (gg 3)), .val (.ref b5), .val (.ref rb), .val (.int (1 : Int32)), .val (.int (-1 : Int32)), .val (.int z1)] [(.int (1 : Int32))])
                          refine Go.step (fun tt kk => XS.istore X7.here hx rfl (hb hby at_203) rfl (l' := #[.val (.int i0), .val (.int i1), .val (.int i2), .val (.int i3), .val (.int i4), .val (.int (Int32.ofNat n)), .val (.int (gg 0)), .val (.int (gg 1)), .val (.int (gg 2)), .val (.int (gg 3)), .val (.ref b5), .val (.ref rb), .val (.int (1 : Int32)), .val (.int (-1 : Int32)), .val (.int (1 : Int32))]) rfl kk) ?_
                          show Go _ _ _ _ _ _ _ T7 (mkF m 205 #[.val (.int i0), .val (.int i1), .val (.int i2), .val (.int i3), .val (.int i4), .val (.int (Int32.ofNat n)), .val (.int (gg 0)), .val (.int (gg 1)), .val (.int (gg 2)), .val (.int (gg 3)), .val (.ref b5), .val (.ref rb), .val (.int (1 : Int32)), .val (.int (-1 : Int32)), .val (.int (1 : Int32))] [])
                          exact j192 _ (LastIs.turn (by have q := mt (own_lt n 2 (by omega) (by omega)).mpr c192_30; omega) c199_31)
                    by_cases c176_32 : (Int32.ofNat n) < (1 : Int32)
                    · refine Go.step (fun tt kk => XS.icmpYes X7.here hx rfl (pc0 := 176) (pc' := 189) rfl (hb hby at_176) rfl (tlt c176_32).1 (by decide) (by decide) kk) ?_
                      show Go _ _ _ _ _ _ _ T7 (mkF m 189 #[.val (.int i0), .val (.int i1), .val (.int i2), .val (.int i3), .val (.int i4), .val (.int (Int32.ofNat n)), .val (.int (gg 0)), .val (.int (gg 1)), .val (.int (gg 2)), .val (.int (gg 3)), .val (.ref b5), .val (.ref rb), .val (.int (1 : Int32)), .val (.int (-1 : Int32)), .val (.int (-1 : Int32))] [])
                      exact j176 _ (LastIs.keep (show LastIs gg n 0 (-1 : Int32) from Or.inl ⟨rfl, fun i h => absurd h (Nat.not_lt_zero _)⟩) (fun q => absurd ((own_lt n 1 (by omega) (by omega)).mp c176_32) (by omega)))
                    · refine Go.step (fun tt kk => XS.icmpNo X7.here hx rfl (hb hby at_176) rfl (flt c176_32).1 kk) ?_
                      show Go _ _ _ _ _ _ _ T7 (mkF m 179 #[.val (.int i0), .val (.int i1), .val (.int i2), .val (.int i3), .val (.int i4), .val (.int (Int32.ofNat n)), .val (.int (gg 0)), .val (.int (gg 1)), .val (.int (gg 2)), .val (.int (gg 3)), .val (.ref b5), .val (.ref rb), .val (.int (1 : Int32)), .val (.int (-1 : Int32)), .val (.int (-1 : Int32))] [])
                      refine Go.step (fun tt kk => XS.iload X7.here hx rfl (hb hby at_179) rfl kk) ?_
                      show Go _ _ _ _ _ _ _ T7 (mkF m 181 #[.val (.int i0), .val (.int i1), .val (.int i2), .val (.int i3), .val (.int i4), .val (.int (Int32.ofNat n)), .val (.int (gg 0)), .val (.int (gg 1)), .val (.int (gg 2)), .val (.int (gg 3)), .val (.ref b5), .val (.ref rb), .val (.int (1 : Int32)), .val (.int (-1 : Int32)), .val (.int (-1 : Int32))] [(.int (gg 0))])
                      refine Go.step (fun tt kk => XS.iload X7.here hx rfl (hb hby at_181) rfl kk) ?_
                      show Go _ _ _ _ _ _ _ T7 (mkF m 183 #[.val (.int i0), .val (.int i1), .val (.int i2), .val (.int i3), .val (.int i4), .val (.int (Int32.ofNat n)), .val (.int (gg 0)), .val (.int (gg 1)), .val (.int (gg 2)), .val (.int (gg 3)), .val (.ref b5), .val (.ref rb), .val (.int (1 : Int32)), .val (.int (-1 : Int32)), .val (.int (-1 : Int32))] [(.int (-1 : Int32)), (.int (gg 0))])
                      by_cases c183_33 : (gg 0) = (-1 : Int32)
                      · refine Go.step (fun tt kk => XS.icmpYes X7.here hx rfl (pc0 := 183) (pc' := 189) rfl (hb hby at_183) rfl (teq c183_33).1 (by decide) (by decide) kk) ?_
                        show Go _ _ _ _ _ _ _ T7 (mkF m 189 #[.val (.int i0), .val (.int i1), .val (.int i2), .val (.int i3), .val (.int i4), .val (.int (Int32.ofNat n)), .val (.int (gg 0)), .val (.int (gg 1)), .val (.int (gg 2)), .val (.int (gg 3)), .val (.ref b5), .val (.ref rb), .val (.int (1 : Int32)), .val (.int (-1 : Int32)), .val (.int (-1 : Int32))] [])
                        exact j176 _ (LastIs.keep (show LastIs gg n 0 (-1 : Int32) from Or.inl ⟨rfl, fun i h => absurd h (Nat.not_lt_zero _)⟩) (fun _ => c183_33))
                      · refine Go.step (fun tt kk => XS.icmpNo X7.here hx rfl (hb hby at_183) rfl (feq c183_33).1 kk) ?_
                        show Go _ _ _ _ _ _ _ T7 (mkF m 186 #[.val (.int i0), .val (.int i1), .val (.int i2), .val (.int i3), .val (.int i4), .val (.int (Int32.ofNat n)), .val (.int (gg 0)), .val (.int (gg 1)), .val (.int (gg 2)), .val (.int (gg 3)), .val (.ref b5), .val (.ref rb), .val (.int (1 : Int32)), .val (.int (-1 : Int32)), .val (.int (-1 : Int32))] [])
                        refine Go.step (fun tt kk => XS.iconst X7.here hx rfl (hb hby at_186) kk) ?_
                        show Go _ _ _ _ _ _ _ T7 (mkF m 187 #[.val (.int i0), .val (.int i1), .val (.int i2), .val (.int i3), .val (.int i4), .val (.int (Int32.ofNat n)), .val (.int (gg 0)), .val (.int (gg 1)), .val (.int (gg 2)), .val (.int (gg 3)), .val (.ref b5), .val (.ref rb), .val (.int (1 : Int32)), .val (.int (-1 : Int32)), .val (.int (-1 : Int32))] [(.int (0 : Int32))])
                        refine Go.step (fun tt kk => XS.istore X7.here hx rfl (hb hby at_187) rfl (l' := #[.val (.int i0), .val (.int i1), .val (.int i2), .val (.int i3), .val (.int i4), .val (.int (Int32.ofNat n)), .val (.int (gg 0)), .val (.int (gg 1)), .val (.int (gg 2)), .val (.int (gg 3)), .val (.ref b5), .val (.ref rb), .val (.int (1 : Int32)), .val (.int (-1 : Int32)), .val (.int (0 : Int32))]) rfl kk) ?_
                        show Go _ _ _ _ _ _ _ T7 (mkF m 189 #[.val (.int i0), .val (.int i1), .val (.int i2), .val (.int i3), .val (.int i4), .val (.int (Int32.ofNat n)), .val (.int (gg 0)), .val (.int (gg 1)), .val (.int (gg 2)), .val (.int (gg 3)), .val (.ref b5), .val (.ref rb), .val (.int (1 : Int32)), .val (.int (-1 : Int32)), .val (.int (0 : Int32))] [])
                        exact j176 _ (LastIs.turn (by have q := mt (own_lt n 1 (by omega) (by omega)).mpr c176_32; omega) c183_33)
                  by_cases c148_34 : (3 : Int32) < (Int32.ofNat n)
                  · refine Go.step (fun tt kk => XS.icmpNo X7.here hx rfl (hb hby at_148) rfl (tlt c148_34).2.2.2 kk) ?_
                    show Go _ _ _ _ _ _ _ T7 (mkF m 151 #[.val (.int i0), .val (.int i1), .val (.int i2), .val (.int i3), .val (.int i4), .val (.int (Int32.ofNat n)), .val (.int (gg 0)), .val (.int (gg 1)), .val (.int (gg 2)), .val (.int (gg 3)), .val (.ref b5), .val (.ref rb), .unset, .unset, .unset] [])
                    refine Go.step (fun tt kk => XS.aload X7.here hx rfl (hb hby at_151) rfl rfl kk) ?_
                    show Go _ _ _ _ _ _ _ T7 (mkF m 153 #[.val (.int i0), .val (.int i1), .val (.int i2), .val (.int i3), .val (.int i4), .val (.int (Int32.ofNat n)), .val (.int (gg 0)), .val (.int (gg 1)), .val (.int (gg 2)), .val (.int (gg 3)), .val (.ref b5), .val (.ref rb), .unset, .unset, .unset] [(.ref b5)])
                    refine Go.step (fun tt kk => XS.iconst X7.here hx rfl (hb hby at_153) kk) ?_
                    show Go _ _ _ _ _ _ _ T7 (mkF m 154 #[.val (.int i0), .val (.int i1), .val (.int i2), .val (.int i3), .val (.int i4), .val (.int (Int32.ofNat n)), .val (.int (gg 0)), .val (.int (gg 1)), .val (.int (gg 2)), .val (.int (gg 3)), .val (.ref b5), .val (.ref rb), .unset, .unset, .unset] [(.int (3 : Int32)), (.ref b5)])
                    refine Go.step (a_bload X7 hx hZ e7 f21 (k := 3) (by decide) ((own_lt 3 n (by omega) (by omega)).mp c148_34) (x := (gg 3)) rfl (hb hby at_154)) ?_
                    show Go _ _ _ _ _ _ _ T7 (mkF m 155 #[.val (.int i0), .val (.int i1), .val (.int i2), .val (.int i3), .val (.int i4), .val (.int (Int32.ofNat n)), .val (.int (gg 0)), .val (.int (gg 1)), .val (.int (gg 2)), .val (.int (gg 3)), .val (.ref b5), .val (.ref rb), .unset, .unset, .unset] [(.int (gg 3))])
                    refine Go.step (fun tt kk => XS.iload X7.here hx rfl (hb hby at_155) rfl kk) ?_
                    show Go _ _ _ _ _ _ _ T7 (mkF m 157 #[.val (.int i0), .val (.int i1), .val (.int i2), .val (.int i3), .val (.int i4), .val (.int (Int32.ofNat n)), .val (.int (gg 0)), .val (.int (gg 1)), .val (.int (gg 2)), .val (.int (gg 3)), .val (.ref b5), .val (.ref rb), .unset, .unset, .unset] [(.int (gg 3)), (.int (gg 3))])
                    refine Go.step (fun tt kk => XS.icmpNo X7.here hx rfl (hb hby at_157) rfl (teq rfl).2 kk) ?_
                    show Go _ _ _ _ _ _ _ T7 (mkF m 160 #[.val (.int i0), .val (.int i1), .val (.int i2), .val (.int i3), .val (.int i4), .val (.int (Int32.ofNat n)), .val (.int (gg 0)), .val (.int (gg 1)), .val (.int (gg 2)), .val (.int (gg 3)), .val (.ref b5), .val (.ref rb), .unset, .unset, .unset] [])
                    exact j148
                  · refine Go.step (fun tt kk => XS.icmpYes X7.here hx rfl (pc0 := 148) (pc' := 160) rfl (hb hby at_148) rfl (flt c148_34).2.2.2 (by decide) (by decide) kk) ?_
                    show Go _ _ _ _ _ _ _ T7 (mkF m 160 #[.val (.int i0), .val (.int i1), .val (.int i2), .val (.int i3), .val (.int i4), .val (.int (Int32.ofNat n)), .val (.int (gg 0)), .val (.int (gg 1)), .val (.int (gg 2)), .val (.int (gg 3)), .val (.ref b5), .val (.ref rb), .unset, .unset, .unset] [])
                    exact j148
                by_cases c133_35 : (2 : Int32) < (Int32.ofNat n)
                · refine Go.step (fun tt kk => XS.icmpNo X7.here hx rfl (hb hby at_133) rfl (tlt c133_35).2.2.2 kk) ?_
                  show Go _ _ _ _ _ _ _ T7 (mkF m 136 #[.val (.int i0), .val (.int i1), .val (.int i2), .val (.int i3), .val (.int i4), .val (.int (Int32.ofNat n)), .val (.int (gg 0)), .val (.int (gg 1)), .val (.int (gg 2)), .val (.int (gg 3)), .val (.ref b5), .val (.ref rb), .unset, .unset, .unset] [])
                  refine Go.step (fun tt kk => XS.aload X7.here hx rfl (hb hby at_136) rfl rfl kk) ?_
                  show Go _ _ _ _ _ _ _ T7 (mkF m 138 #[.val (.int i0), .val (.int i1), .val (.int i2), .val (.int i3), .val (.int i4), .val (.int (Int32.ofNat n)), .val (.int (gg 0)), .val (.int (gg 1)), .val (.int (gg 2)), .val (.int (gg 3)), .val (.ref b5), .val (.ref rb), .unset, .unset, .unset] [(.ref b5)])
                  refine Go.step (fun tt kk => XS.iconst X7.here hx rfl (hb hby at_138) kk) ?_
                  show Go _ _ _ _ _ _ _ T7 (mkF m 139 #[.val (.int i0), .val (.int i1), .val (.int i2), .val (.int i3), .val (.int i4), .val (.int (Int32.ofNat n)), .val (.int (gg 0)), .val (.int (gg 1)), .val (.int (gg 2)), .val (.int (gg 3)), .val (.ref b5), .val (.ref rb), .unset, .unset, .unset] [(.int (2 : Int32)), (.ref b5)])
                  refine Go.step (a_bload X7 hx hZ e7 f21 (k := 2) (by decide) ((own_lt 2 n (by omega) (by omega)).mp c133_35) (x := (gg 2)) rfl (hb hby at_139)) ?_
                  show Go _ _ _ _ _ _ _ T7 (mkF m 140 #[.val (.int i0), .val (.int i1), .val (.int i2), .val (.int i3), .val (.int i4), .val (.int (Int32.ofNat n)), .val (.int (gg 0)), .val (.int (gg 1)), .val (.int (gg 2)), .val (.int (gg 3)), .val (.ref b5), .val (.ref rb), .unset, .unset, .unset] [(.int (gg 2))])
                  refine Go.step (fun tt kk => XS.iload X7.here hx rfl (hb hby at_140) rfl kk) ?_
                  show Go _ _ _ _ _ _ _ T7 (mkF m 142 #[.val (.int i0), .val (.int i1), .val (.int i2), .val (.int i3), .val (.int i4), .val (.int (Int32.ofNat n)), .val (.int (gg 0)), .val (.int (gg 1)), .val (.int (gg 2)), .val (.int (gg 3)), .val (.ref b5), .val (.ref rb), .unset, .unset, .unset] [(.int (gg 2)), (.int (gg 2))])
                  refine Go.step (fun tt kk => XS.icmpNo X7.here hx rfl (hb hby at_142) rfl (teq rfl).2 kk) ?_
                  show Go _ _ _ _ _ _ _ T7 (mkF m 145 #[.val (.int i0), .val (.int i1), .val (.int i2), .val (.int i3), .val (.int i4), .val (.int (Int32.ofNat n)), .val (.int (gg 0)), .val (.int (gg 1)), .val (.int (gg 2)), .val (.int (gg 3)), .val (.ref b5), .val (.ref rb), .unset, .unset, .unset] [])
                  exact j133
                · refine Go.step (fun tt kk => XS.icmpYes X7.here hx rfl (pc0 := 133) (pc' := 145) rfl (hb hby at_133) rfl (flt c133_35).2.2.2 (by decide) (by decide) kk) ?_
                  show Go _ _ _ _ _ _ _ T7 (mkF m 145 #[.val (.int i0), .val (.int i1), .val (.int i2), .val (.int i3), .val (.int i4), .val (.int (Int32.ofNat n)), .val (.int (gg 0)), .val (.int (gg 1)), .val (.int (gg 2)), .val (.int (gg 3)), .val (.ref b5), .val (.ref rb), .unset, .unset, .unset] [])
                  exact j133
              by_cases c118_36 : (1 : Int32) < (Int32.ofNat n)
              · refine Go.step (fun tt kk => XS.icmpNo X7.here hx rfl (hb hby at_118) rfl (tlt c118_36).2.2.2 kk) ?_
                show Go _ _ _ _ _ _ _ T7 (mkF m 121 #[.val (.int i0), .val (.int i1), .val (.int i2), .val (.int i3), .val (.int i4), .val (.int (Int32.ofNat n)), .val (.int (gg 0)), .val (.int (gg 1)), .val (.int (gg 2)), .val (.int (gg 3)), .val (.ref b5), .val (.ref rb), .unset, .unset, .unset] [])
                refine Go.step (fun tt kk => XS.aload X7.here hx rfl (hb hby at_121) rfl rfl kk) ?_
                show Go _ _ _ _ _ _ _ T7 (mkF m 123 #[.val (.int i0), .val (.int i1), .val (.int i2), .val (.int i3), .val (.int i4), .val (.int (Int32.ofNat n)), .val (.int (gg 0)), .val (.int (gg 1)), .val (.int (gg 2)), .val (.int (gg 3)), .val (.ref b5), .val (.ref rb), .unset, .unset, .unset] [(.ref b5)])
                refine Go.step (fun tt kk => XS.iconst X7.here hx rfl (hb hby at_123) kk) ?_
                show Go _ _ _ _ _ _ _ T7 (mkF m 124 #[.val (.int i0), .val (.int i1), .val (.int i2), .val (.int i3), .val (.int i4), .val (.int (Int32.ofNat n)), .val (.int (gg 0)), .val (.int (gg 1)), .val (.int (gg 2)), .val (.int (gg 3)), .val (.ref b5), .val (.ref rb), .unset, .unset, .unset] [(.int (1 : Int32)), (.ref b5)])
                refine Go.step (a_bload X7 hx hZ e7 f21 (k := 1) (by decide) ((own_lt 1 n (by omega) (by omega)).mp c118_36) (x := (gg 1)) rfl (hb hby at_124)) ?_
                show Go _ _ _ _ _ _ _ T7 (mkF m 125 #[.val (.int i0), .val (.int i1), .val (.int i2), .val (.int i3), .val (.int i4), .val (.int (Int32.ofNat n)), .val (.int (gg 0)), .val (.int (gg 1)), .val (.int (gg 2)), .val (.int (gg 3)), .val (.ref b5), .val (.ref rb), .unset, .unset, .unset] [(.int (gg 1))])
                refine Go.step (fun tt kk => XS.iload X7.here hx rfl (hb hby at_125) rfl kk) ?_
                show Go _ _ _ _ _ _ _ T7 (mkF m 127 #[.val (.int i0), .val (.int i1), .val (.int i2), .val (.int i3), .val (.int i4), .val (.int (Int32.ofNat n)), .val (.int (gg 0)), .val (.int (gg 1)), .val (.int (gg 2)), .val (.int (gg 3)), .val (.ref b5), .val (.ref rb), .unset, .unset, .unset] [(.int (gg 1)), (.int (gg 1))])
                refine Go.step (fun tt kk => XS.icmpNo X7.here hx rfl (hb hby at_127) rfl (teq rfl).2 kk) ?_
                show Go _ _ _ _ _ _ _ T7 (mkF m 130 #[.val (.int i0), .val (.int i1), .val (.int i2), .val (.int i3), .val (.int i4), .val (.int (Int32.ofNat n)), .val (.int (gg 0)), .val (.int (gg 1)), .val (.int (gg 2)), .val (.int (gg 3)), .val (.ref b5), .val (.ref rb), .unset, .unset, .unset] [])
                exact j118
              · refine Go.step (fun tt kk => XS.icmpYes X7.here hx rfl (pc0 := 118) (pc' := 130) rfl (hb hby at_118) rfl (flt c118_36).2.2.2 (by decide) (by decide) kk) ?_
                show Go _ _ _ _ _ _ _ T7 (mkF m 130 #[.val (.int i0), .val (.int i1), .val (.int i2), .val (.int i3), .val (.int i4), .val (.int (Int32.ofNat n)), .val (.int (gg 0)), .val (.int (gg 1)), .val (.int (gg 2)), .val (.int (gg 3)), .val (.ref b5), .val (.ref rb), .unset, .unset, .unset] [])
                exact j118
            by_cases c103_37 : (0 : Int32) < (Int32.ofNat n)
            · refine Go.step (fun tt kk => XS.ifNo X7.here hx rfl (hb hby at_103) rfl ((if0 _ _).trans (tlt c103_37).2.2.2) kk) ?_
              show Go _ _ _ _ _ _ _ T7 (mkF m 106 #[.val (.int i0), .val (.int i1), .val (.int i2), .val (.int i3), .val (.int i4), .val (.int (Int32.ofNat n)), .val (.int (gg 0)), .val (.int (gg 1)), .val (.int (gg 2)), .val (.int (gg 3)), .val (.ref b5), .val (.ref rb), .unset, .unset, .unset] [])
              refine Go.step (fun tt kk => XS.aload X7.here hx rfl (hb hby at_106) rfl rfl kk) ?_
              show Go _ _ _ _ _ _ _ T7 (mkF m 108 #[.val (.int i0), .val (.int i1), .val (.int i2), .val (.int i3), .val (.int i4), .val (.int (Int32.ofNat n)), .val (.int (gg 0)), .val (.int (gg 1)), .val (.int (gg 2)), .val (.int (gg 3)), .val (.ref b5), .val (.ref rb), .unset, .unset, .unset] [(.ref b5)])
              refine Go.step (fun tt kk => XS.iconst X7.here hx rfl (hb hby at_108) kk) ?_
              show Go _ _ _ _ _ _ _ T7 (mkF m 109 #[.val (.int i0), .val (.int i1), .val (.int i2), .val (.int i3), .val (.int i4), .val (.int (Int32.ofNat n)), .val (.int (gg 0)), .val (.int (gg 1)), .val (.int (gg 2)), .val (.int (gg 3)), .val (.ref b5), .val (.ref rb), .unset, .unset, .unset] [(.int (0 : Int32)), (.ref b5)])
              refine Go.step (a_bload X7 hx hZ e7 f21 (k := 0) (by decide) ((own_lt 0 n (by omega) (by omega)).mp c103_37) (x := (gg 0)) rfl (hb hby at_109)) ?_
              show Go _ _ _ _ _ _ _ T7 (mkF m 110 #[.val (.int i0), .val (.int i1), .val (.int i2), .val (.int i3), .val (.int i4), .val (.int (Int32.ofNat n)), .val (.int (gg 0)), .val (.int (gg 1)), .val (.int (gg 2)), .val (.int (gg 3)), .val (.ref b5), .val (.ref rb), .unset, .unset, .unset] [(.int (gg 0))])
              refine Go.step (fun tt kk => XS.iload X7.here hx rfl (hb hby at_110) rfl kk) ?_
              show Go _ _ _ _ _ _ _ T7 (mkF m 112 #[.val (.int i0), .val (.int i1), .val (.int i2), .val (.int i3), .val (.int i4), .val (.int (Int32.ofNat n)), .val (.int (gg 0)), .val (.int (gg 1)), .val (.int (gg 2)), .val (.int (gg 3)), .val (.ref b5), .val (.ref rb), .unset, .unset, .unset] [(.int (gg 0)), (.int (gg 0))])
              refine Go.step (fun tt kk => XS.icmpNo X7.here hx rfl (hb hby at_112) rfl (teq rfl).2 kk) ?_
              show Go _ _ _ _ _ _ _ T7 (mkF m 115 #[.val (.int i0), .val (.int i1), .val (.int i2), .val (.int i3), .val (.int i4), .val (.int (Int32.ofNat n)), .val (.int (gg 0)), .val (.int (gg 1)), .val (.int (gg 2)), .val (.int (gg 3)), .val (.ref b5), .val (.ref rb), .unset, .unset, .unset] [])
              exact j103
            · refine Go.step (fun tt kk => XS.ifYes X7.here hx rfl (pc0 := 103) (pc' := 115) rfl (hb hby at_103) rfl ((if0 _ _).trans (flt c103_37).2.2.2) (by decide) (by decide) kk) ?_
              show Go _ _ _ _ _ _ _ T7 (mkF m 115 #[.val (.int i0), .val (.int i1), .val (.int i2), .val (.int i3), .val (.int i4), .val (.int (Int32.ofNat n)), .val (.int (gg 0)), .val (.int (gg 1)), .val (.int (gg 2)), .val (.int (gg 3)), .val (.ref b5), .val (.ref rb), .unset, .unset, .unset] [])
              exact j103
        by_cases c77_38 : (3 : Int32) < (Int32.ofNat n)
        · refine Go.step (fun tt kk => XS.icmpNo X74.here hx rfl (hb hby at_77) rfl (tlt c77_38).2.2.2 kk) ?_
          show Go _ _ _ _ _ _ _ T74 (mkF m 80 #[.val (.int i0), .val (.int i1), .val (.int i2), .val (.int i3), .val (.int i4), .val (.int (Int32.ofNat n)), .val (.int (gg 0)), .val (.int (gg 1)), .val (.int (gg 2)), .val (.int (gg 3)), .val (.ref b5), .unset, .unset, .unset, .unset] [])
          refine Go.step (fun tt kk => XS.aload X74.here hx rfl (hb hby at_80) rfl rfl kk) ?_
          show Go _ _ _ _ _ _ _ T74 (mkF m 82 #[.val (.int i0), .val (.int i1), .val (.int i2), .val (.int i3), .val (.int i4), .val (.int (Int32.ofNat n)), .val (.int (gg 0)), .val (.int (gg 1)), .val (.int (gg 2)), .val (.int (gg 3)), .val (.ref b5), .unset, .unset, .unset, .unset] [(.ref b5)])
          refine Go.step (fun tt kk => XS.iconst X74.here hx rfl (hb hby at_82) kk) ?_
          show Go _ _ _ _ _ _ _ T74 (mkF m 83 #[.val (.int i0), .val (.int i1), .val (.int i2), .val (.int i3), .val (.int i4), .val (.int (Int32.ofNat n)), .val (.int (gg 0)), .val (.int (gg 1)), .val (.int (gg 2)), .val (.int (gg 3)), .val (.ref b5), .unset, .unset, .unset, .unset] [(.int (3 : Int32)), (.ref b5)])
          refine Go.step (fun tt kk => XS.iload X74.here hx rfl (hb hby at_83) rfl kk) ?_
          show Go _ _ _ _ _ _ _ T74 (mkF m 85 #[.val (.int i0), .val (.int i1), .val (.int i2), .val (.int i3), .val (.int i4), .val (.int (Int32.ofNat n)), .val (.int (gg 0)), .val (.int (gg 1)), .val (.int (gg 2)), .val (.int (gg 3)), .val (.ref b5), .unset, .unset, .unset, .unset] [(.int (gg 3)), (.int (3 : Int32)), (.ref b5)])
          obtain ⟨cl39, Ar39, hin39, -⟩ := f74_0.at (j := (3 : Int32)) (k := 3) (by decide) ((own_lt 3 n (by omega) (by omega)).mp c77_38)
          obtain ⟨T39, h39, X39, e39, W39, st39⟩ := stB X74 hx hZ e74 Ar39 (j := (3 : Int32)) hin39 (g := (mkF m 85 #[.val (.int i0), .val (.int i1), .val (.int i2), .val (.int i3), .val (.int i4), .val (.int (Int32.ofNat n)), .val (.int (gg 0)), .val (.int (gg 1)), .val (.int (gg 2)), .val (.int (gg 3)), .val (.ref b5), .unset, .unset, .unset, .unset] [(.int (gg 3)), (.int (3 : Int32)), (.ref b5)])) rfl rfl (hb hby at_85)
          rw [ng3] at W39
          have V39 : AV Z h39 b5 .byte n (upd fn74 3 (.int (gg 3))) := AV.set f74_0 (k := 3) (by decide) ((own_lt 3 n (by omega) (by omega)).mp c77_38) W39
          have N39 := Fr.snoc X39 N74 gn_b5
          have Z39 : n0 ≤ h39.size := Nat.le_trans Z74 (Keep.of_wr W39).1
          refine Go.step (st39) ?_
          show Go _ _ _ _ _ _ _ T39 (mkF m 86 #[.val (.int i0), .val (.int i1), .val (.int i2), .val (.int i3), .val (.int i4), .val (.int (Int32.ofNat n)), .val (.int (gg 0)), .val (.int (gg 1)), .val (.int (gg 2)), .val (.int (gg 3)), .val (.ref b5), .unset, .unset, .unset, .unset] [])
          have f40 := (Exa.wr W39 f74_1)
          exact k86 (upd fn74 3 (.int (gg 3))) _ _ _ (X39.more (by decide) (by decide)) e39 N39 Z39 V39 f40 (fun i h1 h2 => by
                by_cases q : i = 3
                · subst q; exact upd_eq
                · exact (upd_ne q).trans (hf74 i (by omega) h2))
        · refine Go.step (fun tt kk => XS.icmpYes X74.here hx rfl (pc0 := 77) (pc' := 86) rfl (hb hby at_77) rfl (flt c77_38).2.2.2 (by decide) (by decide) kk) ?_
          show Go _ _ _ _ _ _ _ T74 (mkF m 86 #[.val (.int i0), .val (.int i1), .val (.int i2), .val (.int i3), .val (.int i4), .val (.int (Int32.ofNat n)), .val (.int (gg 0)), .val (.int (gg 1)), .val (.int (gg 2)), .val (.int (gg 3)), .val (.ref b5), .unset, .unset, .unset, .unset] [])
          exact k86 fn74 _ _ _ (X74.more (by decide) (by decide)) e74 N74 Z74 f74_0 f74_1 (fun i h1 h2 => by
                have q := mt (own_lt 3 n (by omega) (by omega)).mpr c77_38
                exact hf74 i (by omega) h2)
      by_cases c65_41 : (2 : Int32) < (Int32.ofNat n)
      · refine Go.step (fun tt kk => XS.icmpNo X62.here hx rfl (hb hby at_65) rfl (tlt c65_41).2.2.2 kk) ?_
        show Go _ _ _ _ _ _ _ T62 (mkF m 68 #[.val (.int i0), .val (.int i1), .val (.int i2), .val (.int i3), .val (.int i4), .val (.int (Int32.ofNat n)), .val (.int (gg 0)), .val (.int (gg 1)), .val (.int (gg 2)), .val (.int (gg 3)), .val (.ref b5), .unset, .unset, .unset, .unset] [])
        refine Go.step (fun tt kk => XS.aload X62.here hx rfl (hb hby at_68) rfl rfl kk) ?_
        show Go _ _ _ _ _ _ _ T62 (mkF m 70 #[.val (.int i0), .val (.int i1), .val (.int i2), .val (.int i3), .val (.int i4), .val (.int (Int32.ofNat n)), .val (.int (gg 0)), .val (.int (gg 1)), .val (.int (gg 2)), .val (.int (gg 3)), .val (.ref b5), .unset, .unset, .unset, .unset] [(.ref b5)])
        refine Go.step (fun tt kk => XS.iconst X62.here hx rfl (hb hby at_70) kk) ?_
        show Go _ _ _ _ _ _ _ T62 (mkF m 71 #[.val (.int i0), .val (.int i1), .val (.int i2), .val (.int i3), .val (.int i4), .val (.int (Int32.ofNat n)), .val (.int (gg 0)), .val (.int (gg 1)), .val (.int (gg 2)), .val (.int (gg 3)), .val (.ref b5), .unset, .unset, .unset, .unset] [(.int (2 : Int32)), (.ref b5)])
        refine Go.step (fun tt kk => XS.iload X62.here hx rfl (hb hby at_71) rfl kk) ?_
        show Go _ _ _ _ _ _ _ T62 (mkF m 73 #[.val (.int i0), .val (.int i1), .val (.int i2), .val (.int i3), .val (.int i4), .val (.int (Int32.ofNat n)), .val (.int (gg 0)), .val (.int (gg 1)), .val (.int (gg 2)), .val (.int (gg 3)), .val (.ref b5), .unset, .unset, .unset, .unset] [(.int (gg 2)), (.int (2 : Int32)), (.ref b5)])
        obtain ⟨cl42, Ar42, hin42, -⟩ := f62_0.at (j := (2 : Int32)) (k := 2) (by decide) ((own_lt 2 n (by omega) (by omega)).mp c65_41)
        obtain ⟨T42, h42, X42, e42, W42, st42⟩ := stB X62 hx hZ e62 Ar42 (j := (2 : Int32)) hin42 (g := (mkF m 73 #[.val (.int i0), .val (.int i1), .val (.int i2), .val (.int i3), .val (.int i4), .val (.int (Int32.ofNat n)), .val (.int (gg 0)), .val (.int (gg 1)), .val (.int (gg 2)), .val (.int (gg 3)), .val (.ref b5), .unset, .unset, .unset, .unset] [(.int (gg 2)), (.int (2 : Int32)), (.ref b5)])) rfl rfl (hb hby at_73)
        rw [ng2] at W42
        have V42 : AV Z h42 b5 .byte n (upd fn62 2 (.int (gg 2))) := AV.set f62_0 (k := 2) (by decide) ((own_lt 2 n (by omega) (by omega)).mp c65_41) W42
        have N42 := Fr.snoc X42 N62 gn_b5
        have Z42 : n0 ≤ h42.size := Nat.le_trans Z62 (Keep.of_wr W42).1
        refine Go.step (st42) ?_
        show Go _ _ _ _ _ _ _ T42 (mkF m 74 #[.val (.int i0), .val (.int i1), .val (.int i2), .val (.int i3), .val (.int i4), .val (.int (Int32.ofNat n)), .val (.int (gg 0)), .val (.int (gg 1)), .val (.int (gg 2)), .val (.int (gg 3)), .val (.ref b5), .unset, .unset, .unset, .unset] [])
        have f43 := (Exa.wr W42 f62_1)
        exact k74 (upd fn62 2 (.int (gg 2))) _ _ _ (X42.more (by decide) (by decide)) e42 N42 Z42 V42 f43 (fun i h1 h2 => by
              by_cases q : i = 2
              · subst q; exact upd_eq
              · exact (upd_ne q).trans (hf62 i (by omega) h2))
      · refine Go.step (fun tt kk => XS.icmpYes X62.here hx rfl (pc0 := 65) (pc' := 74) rfl (hb hby at_65) rfl (flt c65_41).2.2.2 (by decide) (by decide) kk) ?_
        show Go _ _ _ _ _ _ _ T62 (mkF m 74 #[.val (.int i0), .val (.int i1), .val (.int i2), .val (.int i3), .val (.int i4), .val (.int (Int32.ofNat n)), .val (.int (gg 0)), .val (.int (gg 1)), .val (.int (gg 2)), .val (.int (gg 3)), .val (.ref b5), .unset, .unset, .unset, .unset] [])
        exact k74 fn62 _ _ _ (X62.more (by decide) (by decide)) e62 N62 Z62 f62_0 f62_1 (fun i h1 h2 => by
              have q := mt (own_lt 2 n (by omega) (by omega)).mpr c65_41
              exact hf62 i (by omega) h2)
    by_cases c53_44 : (1 : Int32) < (Int32.ofNat n)
    · refine Go.step (fun tt kk => XS.icmpNo X50.here hx rfl (hb hby at_53) rfl (tlt c53_44).2.2.2 kk) ?_
      show Go _ _ _ _ _ _ _ T50 (mkF m 56 #[.val (.int i0), .val (.int i1), .val (.int i2), .val (.int i3), .val (.int i4), .val (.int (Int32.ofNat n)), .val (.int (gg 0)), .val (.int (gg 1)), .val (.int (gg 2)), .val (.int (gg 3)), .val (.ref b5), .unset, .unset, .unset, .unset] [])
      refine Go.step (fun tt kk => XS.aload X50.here hx rfl (hb hby at_56) rfl rfl kk) ?_
      show Go _ _ _ _ _ _ _ T50 (mkF m 58 #[.val (.int i0), .val (.int i1), .val (.int i2), .val (.int i3), .val (.int i4), .val (.int (Int32.ofNat n)), .val (.int (gg 0)), .val (.int (gg 1)), .val (.int (gg 2)), .val (.int (gg 3)), .val (.ref b5), .unset, .unset, .unset, .unset] [(.ref b5)])
      refine Go.step (fun tt kk => XS.iconst X50.here hx rfl (hb hby at_58) kk) ?_
      show Go _ _ _ _ _ _ _ T50 (mkF m 59 #[.val (.int i0), .val (.int i1), .val (.int i2), .val (.int i3), .val (.int i4), .val (.int (Int32.ofNat n)), .val (.int (gg 0)), .val (.int (gg 1)), .val (.int (gg 2)), .val (.int (gg 3)), .val (.ref b5), .unset, .unset, .unset, .unset] [(.int (1 : Int32)), (.ref b5)])
      refine Go.step (fun tt kk => XS.iload X50.here hx rfl (hb hby at_59) rfl kk) ?_
      show Go _ _ _ _ _ _ _ T50 (mkF m 61 #[.val (.int i0), .val (.int i1), .val (.int i2), .val (.int i3), .val (.int i4), .val (.int (Int32.ofNat n)), .val (.int (gg 0)), .val (.int (gg 1)), .val (.int (gg 2)), .val (.int (gg 3)), .val (.ref b5), .unset, .unset, .unset, .unset] [(.int (gg 1)), (.int (1 : Int32)), (.ref b5)])
      obtain ⟨cl45, Ar45, hin45, -⟩ := f50_0.at (j := (1 : Int32)) (k := 1) (by decide) ((own_lt 1 n (by omega) (by omega)).mp c53_44)
      obtain ⟨T45, h45, X45, e45, W45, st45⟩ := stB X50 hx hZ e50 Ar45 (j := (1 : Int32)) hin45 (g := (mkF m 61 #[.val (.int i0), .val (.int i1), .val (.int i2), .val (.int i3), .val (.int i4), .val (.int (Int32.ofNat n)), .val (.int (gg 0)), .val (.int (gg 1)), .val (.int (gg 2)), .val (.int (gg 3)), .val (.ref b5), .unset, .unset, .unset, .unset] [(.int (gg 1)), (.int (1 : Int32)), (.ref b5)])) rfl rfl (hb hby at_61)
      rw [ng1] at W45
      have V45 : AV Z h45 b5 .byte n (upd fn50 1 (.int (gg 1))) := AV.set f50_0 (k := 1) (by decide) ((own_lt 1 n (by omega) (by omega)).mp c53_44) W45
      have N45 := Fr.snoc X45 N50 gn_b5
      have Z45 : n0 ≤ h45.size := Nat.le_trans Z50 (Keep.of_wr W45).1
      refine Go.step (st45) ?_
      show Go _ _ _ _ _ _ _ T45 (mkF m 62 #[.val (.int i0), .val (.int i1), .val (.int i2), .val (.int i3), .val (.int i4), .val (.int (Int32.ofNat n)), .val (.int (gg 0)), .val (.int (gg 1)), .val (.int (gg 2)), .val (.int (gg 3)), .val (.ref b5), .unset, .unset, .unset, .unset] [])
      have f46 := (Exa.wr W45 f50_1)
      exact k62 (upd fn50 1 (.int (gg 1))) _ _ _ (X45.more (by decide) (by decide)) e45 N45 Z45 V45 f46 (fun i h1 h2 => by
            by_cases q : i = 1
            · subst q; exact upd_eq
            · exact (upd_ne q).trans (hf50 i (by omega) h2))
    · refine Go.step (fun tt kk => XS.icmpYes X50.here hx rfl (pc0 := 53) (pc' := 62) rfl (hb hby at_53) rfl (flt c53_44).2.2.2 (by decide) (by decide) kk) ?_
      show Go _ _ _ _ _ _ _ T50 (mkF m 62 #[.val (.int i0), .val (.int i1), .val (.int i2), .val (.int i3), .val (.int i4), .val (.int (Int32.ofNat n)), .val (.int (gg 0)), .val (.int (gg 1)), .val (.int (gg 2)), .val (.int (gg 3)), .val (.ref b5), .unset, .unset, .unset, .unset] [])
      exact k62 fn50 _ _ _ (X50.more (by decide) (by decide)) e50 N50 Z50 f50_0 f50_1 (fun i h1 h2 => by
            have q := mt (own_lt 1 n (by omega) (by omega)).mpr c53_44
            exact hf50 i (by omega) h2)
  by_cases c41_47 : (0 : Int32) < (Int32.ofNat n)
  · refine Go.step (fun tt kk => XS.ifNo X5.here hx rfl (hb hby at_41) rfl ((if0 _ _).trans (tlt c41_47).2.2.2) kk) ?_
    show Go _ _ _ _ _ _ _ T5 (mkF m 44 #[.val (.int i0), .val (.int i1), .val (.int i2), .val (.int i3), .val (.int i4), .val (.int (Int32.ofNat n)), .val (.int (gg 0)), .val (.int (gg 1)), .val (.int (gg 2)), .val (.int (gg 3)), .val (.ref b5), .unset, .unset, .unset, .unset] [])
    refine Go.step (fun tt kk => XS.aload X5.here hx rfl (hb hby at_44) rfl rfl kk) ?_
    show Go _ _ _ _ _ _ _ T5 (mkF m 46 #[.val (.int i0), .val (.int i1), .val (.int i2), .val (.int i3), .val (.int i4), .val (.int (Int32.ofNat n)), .val (.int (gg 0)), .val (.int (gg 1)), .val (.int (gg 2)), .val (.int (gg 3)), .val (.ref b5), .unset, .unset, .unset, .unset] [(.ref b5)])
    refine Go.step (fun tt kk => XS.iconst X5.here hx rfl (hb hby at_46) kk) ?_
    show Go _ _ _ _ _ _ _ T5 (mkF m 47 #[.val (.int i0), .val (.int i1), .val (.int i2), .val (.int i3), .val (.int i4), .val (.int (Int32.ofNat n)), .val (.int (gg 0)), .val (.int (gg 1)), .val (.int (gg 2)), .val (.int (gg 3)), .val (.ref b5), .unset, .unset, .unset, .unset] [(.int (0 : Int32)), (.ref b5)])
    refine Go.step (fun tt kk => XS.iload X5.here hx rfl (hb hby at_47) rfl kk) ?_
    show Go _ _ _ _ _ _ _ T5 (mkF m 49 #[.val (.int i0), .val (.int i1), .val (.int i2), .val (.int i3), .val (.int i4), .val (.int (Int32.ofNat n)), .val (.int (gg 0)), .val (.int (gg 1)), .val (.int (gg 2)), .val (.int (gg 3)), .val (.ref b5), .unset, .unset, .unset, .unset] [(.int (gg 0)), (.int (0 : Int32)), (.ref b5)])
    obtain ⟨cl48, Ar48, hin48, -⟩ := V5.at (j := (0 : Int32)) (k := 0) (by decide) ((own_lt 0 n (by omega) (by omega)).mp c41_47)
    obtain ⟨T48, h48, X48, e48, W48, st48⟩ := stB X5 hx hZ e5 Ar48 (j := (0 : Int32)) hin48 (g := (mkF m 49 #[.val (.int i0), .val (.int i1), .val (.int i2), .val (.int i3), .val (.int i4), .val (.int (Int32.ofNat n)), .val (.int (gg 0)), .val (.int (gg 1)), .val (.int (gg 2)), .val (.int (gg 3)), .val (.ref b5), .unset, .unset, .unset, .unset] [(.int (gg 0)), (.int (0 : Int32)), (.ref b5)])) rfl rfl (hb hby at_49)
    rw [ng0] at W48
    have V48 : AV Z h48 b5 .byte n (upd (fun _ => (.int (0 : Int32))) 0 (.int (gg 0))) := AV.set V5 (k := 0) (by decide) ((own_lt 0 n (by omega) (by omega)).mp c41_47) W48
    have N48 := Fr.snoc X48 N4 gn_b5
    have Z48 : n0 ≤ h48.size := Nat.le_trans Z5 (Keep.of_wr W48).1
    refine Go.step (st48) ?_
    show Go _ _ _ _ _ _ _ T48 (mkF m 50 #[.val (.int i0), .val (.int i1), .val (.int i2), .val (.int i3), .val (.int i4), .val (.int (Int32.ofNat n)), .val (.int (gg 0)), .val (.int (gg 1)), .val (.int (gg 2)), .val (.int (gg 3)), .val (.ref b5), .unset, .unset, .unset, .unset] [])
    have f49 := (Exa.wr W48 EA5)
    exact k50 (upd (fun _ => (.int (0 : Int32))) 0 (.int (gg 0))) _ _ _ (X48.more (by decide) (by decide)) e48 N48 Z48 V48 f49 (fun i h1 h2 => by
          by_cases q : i = 0
          · subst q; exact upd_eq
          · omega)
  · refine Go.step (fun tt kk => XS.ifYes X5.here hx rfl (pc0 := 41) (pc' := 50) rfl (hb hby at_41) rfl ((if0 _ _).trans (flt c41_47).2.2.2) (by decide) (by decide) kk) ?_
    show Go _ _ _ _ _ _ _ T5 (mkF m 50 #[.val (.int i0), .val (.int i1), .val (.int i2), .val (.int i3), .val (.int i4), .val (.int (Int32.ofNat n)), .val (.int (gg 0)), .val (.int (gg 1)), .val (.int (gg 2)), .val (.int (gg 3)), .val (.ref b5), .unset, .unset, .unset, .unset] [])
    exact k50 (fun _ => (.int (0 : Int32))) _ _ _ (X5.more (by decide) (by decide)) e5 N4 Z5 V5 EA5 (fun i h1 h2 => by
          have q := mt (own_lt 0 n (by omega) (by omega)).mpr c41_47
          omega)
set_option maxRecDepth 65536 in
set_option maxHeartbeats 40000000 in
theorem comes_1 {Post : Tables → Env → Array Value → State → Outcome → State → Prop} (hpost : ∀ tb e args s v u, (limb_1_1.after args s (.returned v) u = true ∧ limb_1_2.after args s (.returned v) u = true ∧ True) → FrameEnd s (.returned v) u (Jvm.fieldLocs frame_1_writes args s ++ Jvm.arrayLocs frame_1_arrays args s ++ Jvm.staticLocs frame_1_statics s) 16 128 → Post tb e args s (.returned v) u) :
    ArmFor flags0 classFile x code maxLocals ret World_1 tables_1 room_1 Calls_1 rest_1 Pre_1 Post := by
  intro l hfl _ _ p e ha hc hk s m args below hf hA hF happ hP
  obtain ⟨hcalls, hrest, hpre⟩ := hP
  obtain ⟨-, -, -, hnamed, -, -, -, hat⟩ := (Spec.applies_iff hf).mp happ
  obtain ⟨hg, hn⟩ := and_e (Cond.before_iff.mp (show (Jvm.Cond.and given_1 narrow_1).before args s = true from hpre))
  obtain ⟨hcnt, hg1⟩ := and_e hg
  obtain ⟨ha0, hg2⟩ := and_e hg1
  obtain ⟨ha1, hg3⟩ := and_e hg2
  obtain ⟨ha2, hg4⟩ := and_e hg3
  obtain ⟨ha3, hg5⟩ := and_e hg4
  obtain ⟨w0, w1, w2, w3, w4, rfl⟩ : ∃ w0 w1 w2 w3 w4 : Value, args = #[w0, w1, w2, w3, w4] := by
    have hs : args.size = 5 := by simpa [Cond.value, given_1] using hcnt
    obtain ⟨L⟩ := args
    match L, hs with
    | [w0, w1, w2, w3, w4], _ => exact ⟨w0, w1, w2, w3, w4, rfl⟩
  have hw := fun d (hd : d ∈ tables_1) => atoms_spec (ws := Jvm.Cond.code x code maxLocals ret :: tables_1) hat d (List.mem_cons_of_mem _ hd)
  have hfit : Fit s := fun {y c} hc i hi => by
    obtain ⟨ha, rfl⟩ := Array.getElem?_eq_some_iff.mp hc
    have q := List.all_eq_true.mp ((Array.all_eq_true_iff_forall_mem.mp hF) _ (Array.getElem_mem ha)) i (List.mem_range.mpr hi)
    simpa [Array.getElem?_eq_getElem hi] using q
  obtain ⟨i0, ei0⟩ := is_v ha0
  obtain rfl : w0 = (.int i0) := Option.some.inj ei0
  obtain ⟨i1, ei1⟩ := is_v ha1
  obtain rfl : w1 = (.int i1) := Option.some.inj ei1
  obtain ⟨i2, ei2⟩ := is_v ha2
  obtain rfl : w2 = (.int i2) := Option.some.inj ei2
  obtain ⟨i3, ei3⟩ := is_v ha3
  obtain rfl : w3 = (.int i3) := Option.some.inj ei3
  obtain ⟨i4, ei4⟩ := is_v hg5
  obtain rfl : w4 = (.int i4) := Option.some.inj ei4
  obtain ⟨n, o, h1, h2, h3, _, L, rfl, ⟨rfl, N⟩, hq⟩ := rm0 l s _ hw tables_1 i0 i1 i2 i3 i4 s.heap s.heap.size (Nat.le_refl _)  p e ha hc hk s m _ below hf ((Spec.applies_iff_loose hf).mp happ).1 ⟨rfl, State.Warmed39.refl s, rfl⟩ trivial
  refine ⟨n, _, h1, h2, h3, hpost _ _ _ _ _ _ ⟨Cond.after_iff.mpr rfl, Cond.after_iff.mpr (eq_i res_at (Term.int_eval (1)) rfl), trivial⟩ ⟨hq.1, hq.2.1, (hq.2.2.sift fun y hy => Or.inr (N y hy)).mono (by decide) (by decide)⟩⟩
theorem main_1_1 : Claimed_1_1 := comes_1 fun _ _ _ _ _ _ h hF => ⟨h.1, hF⟩
theorem main_1_2 : Claimed_1_2 := comes_1 fun _ _ _ _ _ _ h hF => ⟨h.2.1, hF⟩
end Jvm.Pilot.@@N@@
namespace Jvm.Pilot.@@N@@
open Jvm Jvm.ClassFile Sem Op Lib Jvm.Free Jvm.Stand Jvm.Pilot.@@N@@.Jvm.D
/-! MADE BY PROGRAM (witnessworld.py) out of the Statement's table words and the real class files: 12 classes; the members and pool entries that the words name. The judged class is class 1, her method 3. -/
namespace start1
open Jvm.ClassFile
def u (s : String) : CpInfo := .utf8 (stringToUtf16 s)
/-- a pool by its gaps: so many unusable entries, then the entry; so many at the end -/
def gap : Nat → List CpInfo → List CpInfo
  | 0, r => r
  | n + 1, r => .unusable :: gap n r
def poolList (es : List (Nat × CpInfo)) (last : Nat) : List CpInfo := es.foldr (fun e r => gap e.1 (e.2 :: r)) (gap last [])
def pool (es : List (Nat × CpInfo)) (last : Nat) : Array CpInfo := ⟨poolList es last⟩
def fileOf (pool : Array CpInfo) (this : Nat) (attrs : Array Attribute := #[]) (ms : Array MethodInfo := #[]) (fl : Nat := 33) (sup : Nat := 0) (ifs : Array Nat := #[]) (fds : Array FieldInfo := #[]) : ClassFile where
  minorVersion := 0
  majorVersion := 65
  constantPool := pool
  accessFlags := fl
  thisClass := this
  superClass := sup
  interfaces := ifs
  fields := fds
  methods := ms
  attributes := attrs
def plain (name : String) (sup : Option ClassId) : Class where
  name := name
  kind := .ordinary
  loader := none
  accessFlags := 33
  super := sup
  interfaces := #[]
  cf := none
  fields := #[]
  methods := #[]
  instanceTypes := #[]
  staticTypes := #[]
  resolved := #[]
  callSites := []
  init := .initialized
  statics := none
  mirror := none

def pool0 : Array CpInfo := pool [(5, u "<init>"), (0, u "()V"), (1, .class_ 10), (1, u "java/lang/Object"), (85, u "clone"), (0, u "()Ljava/lang/Object;")] 26

def k0m0 : Method := { name := "<init>", desc := "()V", sig := { parameters := [], returnType := none }, accessFlags := 1, code := none }
def k0m1 : Method := { name := "clone", desc := "()Ljava/lang/Object;", sig := { parameters := [], returnType := some (.object "java/lang/Object") }, accessFlags := 260, code := none }
/-- java/lang/Object -/
def k0 : Class := { plain "java/lang/Object" none with
  accessFlags := 33
  interfaces := #[]
  cf := some (fileOf pool0 8 #[] #[{ accessFlags := 1, nameIndex := 5, descriptorIndex := 6, attributes := #[] }, { accessFlags := 260, nameIndex := 96, descriptorIndex := 97, attributes := #[] }] 33 0 #[] #[])
  fields := #[]
  methods := #[k0m0, k0m1]
  instanceTypes := #[]
  staticTypes := #[]
  resolved := Array.replicate 124 none
  statics := none }

def pool1 : Array CpInfo := pool [(2, .class_ 4), (1, u "java/lang/Object"), (0, u "<init>"), (0, u "()V"), (0, .integer 2147483647), (0, .methodref 9 10), (0, .class_ 11), (0, .nameAndType 12 13), (0, u "com/example/sharks/sharks/engine/KeyRangeFollowingPinLaw"), (0, u "draw"), (0, u "(I)B"), (0, .methodref 15 16), (0, .class_ 17), (0, .nameAndType 18 19), (0, u "com/example/sharks/sharks/engine/KeyRange"), (0, u "following"), (0, u "([B)[B"), (0, .methodref 9 21), (0, .nameAndType 22 23), (0, u "okAt"), (0, u "([BIIB)Z"), (3, u "law"), (0, u "(IIIII)Z")] 4

def k1m0 : Method := { name := "<init>", desc := "()V", sig := { parameters := [], returnType := none }, accessFlags := 1, code := none }
def k1c1 : Code := { maxStack := 2, maxLocals := 1, code := method_2_code, exceptionTable := #[], attributes := #[] }
def k1m1 : Method := { name := "draw", desc := "(I)B", sig := { parameters := [.int], returnType := some .byte }, accessFlags := 10, code := some k1c1 }
def k1c2 : Code := { maxStack := 2, maxLocals := 5, code := method_3_code, exceptionTable := #[], attributes := #[] }
def k1m2 : Method := { name := "okAt", desc := "([BIIB)Z", sig := { parameters := [(.array .byte), .int, .int, .byte], returnType := some .boolean }, accessFlags := 10, code := some k1c2 }
def k1c3 : Code := { maxStack := 4, maxLocals := 15, code := code, exceptionTable := #[], attributes := #[] }
def k1m3 : Method := { name := "law", desc := "(IIIII)Z", sig := { parameters := [.int, .int, .int, .int, .int], returnType := some .boolean }, accessFlags := 9, code := some k1c3 }
/-- com/example/sharks/sharks/engine/KeyRangeFollowingPinLaw -/
def k1 : Class := { plain "com/example/sharks/sharks/engine/KeyRangeFollowingPinLaw" (some 0) with
  accessFlags := 49
  interfaces := #[]
  cf := some (fileOf pool1 9 #[] #[{ accessFlags := 1, nameIndex := 5, descriptorIndex := 6, attributes := #[] }, { accessFlags := 10, nameIndex := 12, descriptorIndex := 13, attributes := #[] }, { accessFlags := 10, nameIndex := 22, descriptorIndex := 23, attributes := #[] }, { accessFlags := 9, nameIndex := 27, descriptorIndex := 28, attributes := #[] }] 49 2 #[] #[])
  fields := #[]
  methods := #[k1m0, k1m1, k1m2, k1m3]
  instanceTypes := #[]
  staticTypes := #[]
  resolved := Array.replicate 33 none
  statics := none }

def pool2 : Array CpInfo := pool [(2, .class_ 4), (1, u "java/lang/Object"), (3, .class_ 10), (1, u "com/example/sharks/sharks/engine/KeyRange"), (0, u "first"), (0, u "[B"), (2, u "end"), (2, u "following"), (0, u "([B)[B"), (3, .methodref 24 25), (0, .class_ 26), (0, .nameAndType 27 28), (0, u "java/util/Arrays"), (0, u "copyOf"), (0, u "([BI)[B")] 16

def k2c0 : Code := { maxStack := 4, maxLocals := 3, code := prog_13_method_3_code, exceptionTable := #[], attributes := #[] }
def k2m0 : Method := { name := "following", desc := "([B)[B", sig := { parameters := [(.array .byte)], returnType := some (.array .byte) }, accessFlags := 9, code := some k2c0 }
/-- com/example/sharks/sharks/engine/KeyRange -/
def k2 : Class := { plain "com/example/sharks/sharks/engine/KeyRange" (some 0) with
  accessFlags := 49
  interfaces := #[]
  cf := some (fileOf pool2 8 #[] #[{ accessFlags := 9, nameIndex := 18, descriptorIndex := 19, attributes := #[] }] 49 2 #[] #[{ accessFlags := 18, nameIndex := 11, descriptorIndex := 12, attributes := #[] }, { accessFlags := 18, nameIndex := 15, descriptorIndex := 12, attributes := #[] }])
  fields := #[{ name := "first", type := (.array .byte), accessFlags := 18, slot := 0, constantValue := 0 }, { name := "end", type := (.array .byte), accessFlags := 18, slot := 1, constantValue := 0 }]
  methods := #[k2m0]
  instanceTypes := #[(.array .byte), (.array .byte)]
  staticTypes := #[]
  resolved := Array.replicate 45 none
  statics := none }

def pool3 : Array CpInfo := pool [(2, .class_ 4), (1, u "java/lang/Object"), (0, u "<init>"), (0, u "()V"), (7, .class_ 16), (1, u "java/util/Arrays"), (57, .class_ 76), (1, u "java/util/Arrays$NaturalOrder"), (32, u "()Ljava/lang/Object;"), (3, .class_ 115), (1, u "java/util/Arrays$LegacyMergeSort"), (1, u "Z"), (10, .nameAndType 129 109), (0, u "clone"), (20, .methodref 151 152), (0, .class_ 153), (0, .nameAndType 154 155), (0, u "java/lang/System"), (0, u "arraycopy"), (0, u "(Ljava/lang/Object;ILjava/lang/Object;II)V"), (146, u "copyOf"), (1, .methodref 305 306), (0, .class_ 307), (0, .nameAndType 308 309), (0, u "java/lang/Math"), (0, u "min"), (0, u "(II)I"), (0, .methodref 311 128), (0, .class_ 312), (0, u "[B"), (62, .class_ 376), (0, u "java/util/Arrays$ArrayList"), (68, u "$assertionsDisabled"), (269, u "MIN_ARRAY_SORT_GRAN"), (0, u "I"), (2, u "INSERTIONSORT_THRESHOLD"), (149, u "([BI)[B"), (105, .class_ 976), (0, u "java/util/Arrays$ArrayItr")] 52

def k3m0 : Method := { name := "<init>", desc := "()V", sig := { parameters := [], returnType := none }, accessFlags := 2, code := none }
def k3c1 : Code := { maxStack := 6, maxLocals := 3, code := jdk_65_method_121_code, exceptionTable := #[], attributes := #[] }
def k3m1 : Method := { name := "copyOf", desc := "([BI)[B", sig := { parameters := [(.array .byte), .int], returnType := some (.array .byte) }, accessFlags := 9, code := some k3c1 }
/-- java/util/Arrays -/
def k3 : Class := { plain "java/util/Arrays" (some 0) with
  accessFlags := 49
  interfaces := #[]
  cf := some (fileOf pool3 14 #[.nestMembers #[975, 375, 113, 74]] #[{ accessFlags := 2, nameIndex := 5, descriptorIndex := 6, attributes := #[] }, { accessFlags := 9, nameIndex := 302, descriptorIndex := 869, attributes := #[] }] 49 2 #[] #[{ accessFlags := 26, nameIndex := 715, descriptorIndex := 716, attributes := #[] }, { accessFlags := 26, nameIndex := 719, descriptorIndex := 716, attributes := #[] }, { accessFlags := 4120, nameIndex := 445, descriptorIndex := 117, attributes := #[] }])
  fields := #[{ name := "MIN_ARRAY_SORT_GRAN", type := .int, accessFlags := 26, slot := 0, constantValue := 0 }, { name := "INSERTIONSORT_THRESHOLD", type := .int, accessFlags := 26, slot := 1, constantValue := 0 }, { name := "$assertionsDisabled", type := .boolean, accessFlags := 4120, slot := 2, constantValue := 0 }]
  methods := #[k3m0, k3m1]
  instanceTypes := #[]
  staticTypes := #[.int, .int, .boolean]
  resolved := Array.replicate 1029 none
  statics := none }

def pool4 : Array CpInfo := pool [(1, .class_ 2), (0, u "java/lang/Cloneable"), (0, .class_ 4), (0, u "java/lang/Object")] 2

/-- java/lang/Cloneable -/
def k4 : Class := { plain "java/lang/Cloneable" (some 0) with
  accessFlags := 1537
  interfaces := #[]
  cf := some (fileOf pool4 1 #[] #[] 1537 3 #[] #[])
  fields := #[]
  methods := #[]
  instanceTypes := #[]
  staticTypes := #[]
  resolved := Array.replicate 7 none
  statics := none }

def pool5 : Array CpInfo := pool [(1, .class_ 2), (0, u "java/lang/Math"), (1, .class_ 6), (1, u "java/lang/Object"), (0, u "<init>"), (0, u "()V"), (89, .class_ 100), (1, u "java/lang/Math$RandomNumberGeneratorHolder"), (71, u "negativeZeroFloatBits"), (0, u "J"), (2, u "negativeZeroDoubleBits"), (24, u "min"), (43, u "$assertionsDisabled"), (0, u "Z"), (88, u "(II)I"), (2, u "twoToTheDoubleScaleDown"), (0, u "D"), (4, u "twoToTheDoubleScaleUp"), (9, u "E"), (3, u "PI"), (2, u "TAU"), (2, u "DEGREES_TO_RADIANS"), (0, u "RADIANS_TO_DEGREES")] 94

def k5m0 : Method := { name := "<init>", desc := "()V", sig := { parameters := [], returnType := none }, accessFlags := 2, code := none }
def k5c1 : Code := { maxStack := 2, maxLocals := 2, code := jdk_29_method_69_code, exceptionTable := #[], attributes := #[] }
def k5m1 : Method := { name := "min", desc := "(II)I", sig := { parameters := [.int, .int], returnType := some .int }, accessFlags := 9, code := some k5c1 }
/-- java/lang/Math -/
def k5 : Class := { plain "java/lang/Math" (some 0) with
  accessFlags := 49
  interfaces := #[]
  cf := some (fileOf pool5 1 #[.nestMembers #[98]] #[{ accessFlags := 2, nameIndex := 7, descriptorIndex := 8, attributes := #[] }, { accessFlags := 9, nameIndex := 201, descriptorIndex := 335, attributes := #[] }] 49 4 #[] #[{ accessFlags := 25, nameIndex := 354, descriptorIndex := 339, attributes := #[] }, { accessFlags := 25, nameIndex := 358, descriptorIndex := 339, attributes := #[] }, { accessFlags := 25, nameIndex := 361, descriptorIndex := 339, attributes := #[] }, { accessFlags := 26, nameIndex := 364, descriptorIndex := 339, attributes := #[] }, { accessFlags := 26, nameIndex := 365, descriptorIndex := 339, attributes := #[] }, { accessFlags := 26, nameIndex := 172, descriptorIndex := 173, attributes := #[] }, { accessFlags := 26, nameIndex := 176, descriptorIndex := 173, attributes := #[] }, { accessFlags := 8, nameIndex := 344, descriptorIndex := 339, attributes := #[] }, { accessFlags := 8, nameIndex := 338, descriptorIndex := 339, attributes := #[] }, { accessFlags := 4120, nameIndex := 245, descriptorIndex := 246, attributes := #[] }])
  fields := #[{ name := "E", type := .double, accessFlags := 25, slot := 0, constantValue := 0 }, { name := "PI", type := .double, accessFlags := 25, slot := 1, constantValue := 0 }, { name := "TAU", type := .double, accessFlags := 25, slot := 2, constantValue := 0 }, { name := "DEGREES_TO_RADIANS", type := .double, accessFlags := 26, slot := 3, constantValue := 0 }, { name := "RADIANS_TO_DEGREES", type := .double, accessFlags := 26, slot := 4, constantValue := 0 }, { name := "negativeZeroFloatBits", type := .long, accessFlags := 26, slot := 5, constantValue := 0 }, { name := "negativeZeroDoubleBits", type := .long, accessFlags := 26, slot := 6, constantValue := 0 }, { name := "twoToTheDoubleScaleUp", type := .double, accessFlags := 8, slot := 7, constantValue := 0 }, { name := "twoToTheDoubleScaleDown", type := .double, accessFlags := 8, slot := 8, constantValue := 0 }, { name := "$assertionsDisabled", type := .boolean, accessFlags := 4120, slot := 9, constantValue := 0 }]
  methods := #[k5m0, k5m1]
  instanceTypes := #[]
  staticTypes := #[.double, .double, .double, .double, .double, .long, .long, .double, .double, .boolean]
  resolved := Array.replicate 460 none
  statics := none }

def pool6 : Array CpInfo := pool [(2, .class_ 4), (1, u "java/lang/Object"), (0, u "<init>"), (0, u "()V"), (1, .class_ 10), (1, u "java/lang/System"), (0, u "allowSecurityManager"), (0, u "I"), (16, u "cons"), (0, u "Ljava/io/Console;"), (77, .class_ 110), (1, u "java/lang/System$CallersHolder"), (43, u "initialErrStream"), (0, u "Ljava/io/PrintStream;"), (19, u "security"), (0, u "Ljava/lang/SecurityManager;"), (31, .class_ 209), (0, u "java/lang/System$1"), (7, u "props"), (0, u "Ljava/util/Properties;"), (2, u "lineSeparator"), (0, u "Ljava/lang/String;"), (96, .class_ 321), (1, u "java/lang/System$LoggerFinder"), (5, .class_ 328), (0, u "java/lang/System$Logger"), (67, u "err"), (2, u "out"), (91, u "notSupportedJnuEncoding"), (15, u "in"), (17, u "initialIn"), (0, u "Ljava/io/InputStream;"), (35, u "bootLayer"), (0, u "Ljava/lang/ModuleLayer;"), (99, .class_ 664), (0, u "java/lang/System$2"), (9, u "NEVER"), (2, u "MAYBE"), (49, u "arraycopy"), (0, u "(Ljava/lang/Object;ILjava/lang/Object;II)V"), (72, .class_ 802), (0, u "java/lang/System$Logger$Level")] 31

def k6m0 : Method := { name := "<init>", desc := "()V", sig := { parameters := [], returnType := none }, accessFlags := 2, code := none }
def k6m1 : Method := { name := "arraycopy", desc := "(Ljava/lang/Object;ILjava/lang/Object;II)V", sig := { parameters := [(.object "java/lang/Object"), .int, (.object "java/lang/Object"), .int, .int], returnType := none }, accessFlags := 265, code := none }
/-- java/lang/System -/
def k6 : Class := { plain "java/lang/System" (some 0) with
  accessFlags := 49
  interfaces := #[]
  cf := some (fileOf pool6 8 #[.nestMembers #[319, 327, 801, 108, 663, 208]] #[{ accessFlags := 2, nameIndex := 5, descriptorIndex := 6, attributes := #[] }, { accessFlags := 265, nameIndex := 727, descriptorIndex := 728, attributes := #[] }] 49 2 #[] #[{ accessFlags := 25, nameIndex := 507, descriptorIndex := 526, attributes := #[] }, { accessFlags := 25, nameIndex := 399, descriptorIndex := 155, attributes := #[] }, { accessFlags := 25, nameIndex := 396, descriptorIndex := 155, attributes := #[] }, { accessFlags := 10, nameIndex := 525, descriptorIndex := 526, attributes := #[] }, { accessFlags := 26, nameIndex := 674, descriptorIndex := 12, attributes := #[] }, { accessFlags := 26, nameIndex := 677, descriptorIndex := 12, attributes := #[] }, { accessFlags := 10, nameIndex := 11, descriptorIndex := 12, attributes := #[] }, { accessFlags := 74, nameIndex := 175, descriptorIndex := 176, attributes := #[] }, { accessFlags := 10, nameIndex := 491, descriptorIndex := 222, attributes := #[] }, { accessFlags := 74, nameIndex := 29, descriptorIndex := 30, attributes := #[] }, { accessFlags := 74, nameIndex := 154, descriptorIndex := 155, attributes := #[] }, { accessFlags := 10, nameIndex := 217, descriptorIndex := 218, attributes := #[] }, { accessFlags := 10, nameIndex := 221, descriptorIndex := 222, attributes := #[] }, { accessFlags := 8, nameIndex := 562, descriptorIndex := 563, attributes := #[] }])
  fields := #[{ name := "in", type := (.object "java/io/InputStream"), accessFlags := 25, slot := 0, constantValue := 0 }, { name := "out", type := (.object "java/io/PrintStream"), accessFlags := 25, slot := 1, constantValue := 0 }, { name := "err", type := (.object "java/io/PrintStream"), accessFlags := 25, slot := 2, constantValue := 0 }, { name := "initialIn", type := (.object "java/io/InputStream"), accessFlags := 10, slot := 3, constantValue := 0 }, { name := "NEVER", type := .int, accessFlags := 26, slot := 4, constantValue := 0 }, { name := "MAYBE", type := .int, accessFlags := 26, slot := 5, constantValue := 0 }, { name := "allowSecurityManager", type := .int, accessFlags := 10, slot := 6, constantValue := 0 }, { name := "security", type := (.object "java/lang/SecurityManager"), accessFlags := 74, slot := 7, constantValue := 0 }, { name := "notSupportedJnuEncoding", type := (.object "java/lang/String"), accessFlags := 10, slot := 8, constantValue := 0 }, { name := "cons", type := (.object "java/io/Console"), accessFlags := 74, slot := 9, constantValue := 0 }, { name := "initialErrStream", type := (.object "java/io/PrintStream"), accessFlags := 74, slot := 10, constantValue := 0 }, { name := "props", type := (.object "java/util/Properties"), accessFlags := 10, slot := 11, constantValue := 0 }, { name := "lineSeparator", type := (.object "java/lang/String"), accessFlags := 10, slot := 12, constantValue := 0 }, { name := "bootLayer", type := (.object "java/lang/ModuleLayer"), accessFlags := 8, slot := 13, constantValue := 0 }]
  methods := #[k6m0, k6m1]
  instanceTypes := #[]
  staticTypes := #[(.object "java/io/InputStream"), (.object "java/io/PrintStream"), (.object "java/io/PrintStream"), (.object "java/io/InputStream"), .int, .int, .int, (.object "java/lang/SecurityManager"), (.object "java/lang/String"), (.object "java/io/Console"), (.object "java/io/PrintStream"), (.object "java/util/Properties"), (.object "java/lang/String"), (.object "java/lang/ModuleLayer")]
  resolved := Array.replicate 834 none
  statics := none }

def pool7 : Array CpInfo := pool [(1, u "java/io/Serializable"), (0, .class_ 1), (0, u "java/lang/Object"), (0, .class_ 3)] 3

/-- java/io/Serializable -/
def k7 : Class := { plain "java/io/Serializable" (some 0) with
  accessFlags := 1537
  interfaces := #[]
  cf := some (fileOf pool7 2 #[] #[] 1537 4 #[] #[])
  fields := #[]
  methods := #[]
  instanceTypes := #[]
  staticTypes := #[]
  resolved := Array.replicate 8 none
  statics := none }

/-- the primitive byte -/
def k8 : Class := { plain "byte" none with kind := .primitive 'B', accessFlags := 0x411 }
/-- [B -/
def k9 : Class := { plain "[B" (some 0) with kind := .array 8 .byte, interfaces := #[4, 7], accessFlags := 1041 }

/-- the primitive int -/
def k10 : Class := { plain "int" none with kind := .primitive 'I', accessFlags := 0x411 }
/-- [I -/
def k11 : Class := { plain "[I" (some 0) with kind := .array 10 .int, interfaces := #[4, 7], accessFlags := 1041 }

def heap : Heap := #[]
def classes : Array Class := #[k0, k1, k2, k3, k4, k5, k6, k7, k8, k9, k10, k11]
def interned : List (Array UInt16 × Addr) := []
def slotsUsed : Nat := 0
def theMethod : MethodId := ⟨1, 3⟩
def args0 : Array Value := #[.int 5, .int 5, .int 5, .int 5, .int 5]
def aboutOver (below : List Frame) : State where
  vm := { classes := classes, interned := interned.toArray }
  heap := heap
  slotsUsed := slotsUsed
  threads := #[{ frames := .invoking theMethod args0 :: below }]
def below0 : List Frame := [.native { method := ⟨0, 0⟩, args := #[] }]
def about1 : State := aboutOver below0
def p0 : Program := .bare "" "" ""
def e0 : Env := launch0.env 0 0 0
theorem w_frames : about1.frames = Frame.invoking theMethod args0 :: below0 := rfl
set_option maxRecDepth 65536 in
theorem w_args : argsFit about1.vm theMethod args0 = true := by decide +kernel
set_option maxRecDepth 65536 in
theorem w_heap : heapFits about1 = true := by decide +kernel
set_option maxRecDepth 65536 in
theorem w_runnable : about1.curStatus? = some .runnable := by decide +kernel
set_option maxRecDepth 65536 in
theorem w_alone : about1.alone = true := by decide +kernel
set_option maxRecDepth 65536 in
theorem w_named : about1.methodNamed? x = some theMethod := by decide +kernel
set_option maxRecDepth 65536 in
theorem w_hears : about1.hears theMethod below0 = true := by decide +kernel
set_option maxRecDepth 65536 in
theorem w_ripe : about1.ripe theMethod args0 below0 = true := by decide +kernel
theorem w_running : about1.status = .running := rfl
set_option maxRecDepth 65536 in
theorem w_room : about1.hasRoom e0.platform room_1 = true :=
  launch0.hasRoom_least _ room_1 (by decide +kernel) (by decide +kernel) (by decide +kernel) (by decide +kernel) (by decide +kernel) (by decide +kernel)
theorem allAtoms_all (ts : List Jvm.Cond) (a : Array Jvm.Value) (st : Jvm.State) : (allAtoms ts).before a st = ts.all (fun c => c.before a st) := by
  induction ts with
  | nil => rfl
  | cons c t ih =>
    show (Jvm.Cond.and c (allAtoms t)).before a st = _
    rw [Jvm.Cond.before_and, ih, List.all_cons]
def words1 : List Jvm.Cond := Jvm.Cond.code x code maxLocals ret :: tables_1
/-- a 'code' word, met by the world's own term for the bytes: nothing is compared byte by byte -/
theorem code_word {y : MethodName} {bytes : ByteArray} {mx : Nat} {rt : Option FieldType} {a : Array Value} {s : State} {m : MethodId} {meth : Method} {c : Code} (h1 : s.methodNamed? y = some m) (h2 : s.vm.method? m = some meth) (h3 : meth.code = some c) (h4 : c.code = bytes)
    (h5 : (c.maxLocals == mx && c.exceptionTable.isEmpty && decide (c.maxStack ≤ mostOperands) && decide (meth.sig.returnType = rt) && !meth.locks && decide (parseMethodDescriptor y.desc = some meth.sig)) = true) : (Jvm.Cond.code y bytes mx rt).before a s = true := by
  simp only [Bool.and_eq_true, beq_iff_eq, Bool.not_eq_true', decide_eq_true_eq] at h5
  obtain ⟨⟨⟨⟨⟨g1, g2⟩, g3⟩, g4⟩, g5⟩, g6⟩ := h5
  simp [Cond.before, Cond.holds, Cond.value, h1, h2, h3, h4, g1, g2, g3, g4, g5, g6]
def isCode : Jvm.Cond → Bool
  | .code _ _ _ _ => true
  | _ => false
theorem all_split {L : List Jvm.Cond} {P : Jvm.Cond → Bool} (h1 : L.all (fun c => isCode c || P c) = true) (h2 : ∀ c ∈ L.filter isCode, P c = true) : L.all P = true := by
  refine List.all_eq_true.mpr fun c hc => ?_
  have h := List.all_eq_true.mp h1 c hc
  rcases Bool.eq_false_or_eq_true (isCode c) with hi | hi
  · exact h2 c (List.mem_filter.mpr ⟨hc, hi⟩)
  · simpa [hi] using h
set_option maxRecDepth 65536 in
theorem w_c0 : (Jvm.Cond.code x code maxLocals ret).before args0 about1 = true := code_word (m := ⟨1, 3⟩) (meth := k1m3) (c := k1c3) (by decide +kernel) rfl rfl rfl (by decide +kernel)
set_option maxRecDepth 65536 in
theorem w_c1 : (Jvm.Cond.code ({ cls := "com/example/sharks/sharks/engine/KeyRangeFollowingPinLaw", name := "draw", desc := "(I)B" } : Jvm.MethodName) method_2_code (1 : Nat) (Option.some Jvm.ClassFile.FieldType.byte)).before args0 about1 = true := code_word (m := ⟨1, 1⟩) (meth := k1m1) (c := k1c1) (by decide +kernel) rfl rfl rfl (by decide +kernel)
set_option maxRecDepth 65536 in
theorem w_c2 : (Jvm.Cond.code ({ cls := "com/example/sharks/sharks/engine/KeyRange", name := "following", desc := "([B)[B" } : Jvm.MethodName) prog_13_method_3_code (3 : Nat) (Option.some (Jvm.ClassFile.FieldType.array Jvm.ClassFile.FieldType.byte))).before args0 about1 = true := code_word (m := ⟨2, 0⟩) (meth := k2m0) (c := k2c0) (by decide +kernel) rfl rfl rfl (by decide +kernel)
set_option maxRecDepth 65536 in
theorem w_c3 : (Jvm.Cond.code ({ cls := "java/util/Arrays", name := "copyOf", desc := "([BI)[B" } : Jvm.MethodName) jdk_65_method_121_code (3 : Nat) (Option.some (Jvm.ClassFile.FieldType.array Jvm.ClassFile.FieldType.byte))).before args0 about1 = true := code_word (m := ⟨3, 1⟩) (meth := k3m1) (c := k3c1) (by decide +kernel) rfl rfl rfl (by decide +kernel)
set_option maxRecDepth 65536 in
theorem w_c4 : (Jvm.Cond.code ({ cls := "com/example/sharks/sharks/engine/KeyRangeFollowingPinLaw", name := "okAt", desc := "([BIIB)Z" } : Jvm.MethodName) method_3_code (5 : Nat) (Option.some Jvm.ClassFile.FieldType.boolean)).before args0 about1 = true := code_word (m := ⟨1, 2⟩) (meth := k1m2) (c := k1c2) (by decide +kernel) rfl rfl rfl (by decide +kernel)
set_option maxRecDepth 65536 in
theorem w_c5 : (Jvm.Cond.code ({ cls := "java/lang/Math", name := "min", desc := "(II)I" } : Jvm.MethodName) jdk_29_method_69_code (2 : Nat) (Option.some Jvm.ClassFile.FieldType.int)).before args0 about1 = true := code_word (m := ⟨5, 1⟩) (meth := k5m1) (c := k5c1) (by decide +kernel) rfl rfl rfl (by decide +kernel)
def codes1 : List Jvm.Cond := [Jvm.Cond.code x code maxLocals ret, Jvm.Cond.code ({ cls := "com/example/sharks/sharks/engine/KeyRangeFollowingPinLaw", name := "draw", desc := "(I)B" } : Jvm.MethodName) method_2_code (1 : Nat) (Option.some Jvm.ClassFile.FieldType.byte), Jvm.Cond.code ({ cls := "com/example/sharks/sharks/engine/KeyRange", name := "following", desc := "([B)[B" } : Jvm.MethodName) prog_13_method_3_code (3 : Nat) (Option.some (Jvm.ClassFile.FieldType.array Jvm.ClassFile.FieldType.byte)), Jvm.Cond.code ({ cls := "java/util/Arrays", name := "copyOf", desc := "([BI)[B" } : Jvm.MethodName) jdk_65_method_121_code (3 : Nat) (Option.some (Jvm.ClassFile.FieldType.array Jvm.ClassFile.FieldType.byte)), Jvm.Cond.code ({ cls := "com/example/sharks/sharks/engine/KeyRangeFollowingPinLaw", name := "okAt", desc := "([BIIB)Z" } : Jvm.MethodName) method_3_code (5 : Nat) (Option.some Jvm.ClassFile.FieldType.boolean), Jvm.Cond.code ({ cls := "java/lang/Math", name := "min", desc := "(II)I" } : Jvm.MethodName) jdk_29_method_69_code (2 : Nat) (Option.some Jvm.ClassFile.FieldType.int)]
set_option maxRecDepth 65536 in
theorem codes_eq : words1.filter isCode = codes1 := rfl
theorem w_codes : ∀ c ∈ words1.filter isCode, c.before args0 about1 = true := by
  rw [codes_eq]
  intro c hc
  simp only [codes1, List.mem_cons, List.not_mem_nil, or_false] at hc
  rcases hc with rfl | rfl | rfl | rfl | rfl | rfl
  · exact w_c0
  · exact w_c1
  · exact w_c2
  · exact w_c3
  · exact w_c4
  · exact w_c5
set_option maxRecDepth 65536 in
theorem w_t1 : (words1.take 24).all (fun c => isCode c || c.before args0 about1) = true := by decide +kernel
set_option maxRecDepth 65536 in
theorem w_t2 : (words1.drop 24).all (fun c => isCode c || c.before args0 about1) = true := by decide +kernel
theorem w_tables : (allAtoms (Jvm.Cond.code x code maxLocals ret :: tables_1)).before args0 about1 = true := by
  rw [allAtoms_all]
  show words1.all (fun c => c.before args0 about1) = true
  refine all_split ?_ w_codes
  rw [← List.take_append_drop 24 words1, List.all_append, w_t1, w_t2]
  rfl
set_option maxRecDepth 65536 in
theorem w_case : (Jvm.Cond.and given_1 narrow_1).before args0 about1 = true := by decide +kernel
theorem w_applies : (headSpec (Jvm.Cond.code x code maxLocals ret :: tables_1) room_1).applies x e0.platform about1 = true :=
  (Spec.applies_iff w_frames).mpr ⟨w_running, w_runnable, w_alone, w_named, w_hears, w_ripe, w_room, w_tables⟩
theorem atStart : AtStart classFile x code maxLocals ret World_1 tables_1 room_1 Calls_1 rest_1 Pre_1 launch0 p0 e0 about1 theMethod args0 below0 :=
  ⟨lists_1, trivial, launch0.admits_env _ _ _, launch0.least_env, fairChoices_fair.cas, fairChoices_fair.clock, w_frames, w_args, w_heap, w_applies, trivial, trivial, w_case⟩
end start1
theorem witness_1 : WitnessClaimed_1 := ⟨start1.p0, start1.e0, start1.about1, start1.theMethod, start1.args0, start1.below0, start1.atStart⟩
end Jvm.Pilot.@@N@@
