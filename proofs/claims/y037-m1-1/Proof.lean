import JvmDerived
import JvmDerived.Pilot.@@N@@Statement
import JvmDerived.Pilot.@@N@@Code
set_option linter.unusedVariables false
set_option linter.unusedSimpArgs false
namespace Jvm.RoadKit
open Sem ClassFile Op Lib Jvm.Stand Jvm.Free Jvm.LawKit
section New
variable {p : Program} {l : Launch} {e : Env} {R : Room} {s : State} {m : MethodId} {args : Array Value} {below : List Frame} {meth : Method} {c : Code} {T : State} {locs : List Loc} {cells slots : Nat}
theorem retI (X : Stand p l e R s m args below meth c T locs cells slots) (hx : p.tables.exec = Jvm.exec) {pc : Nat} {Ls : Array Slot} {z : Int32} {rest : List Value} (hret : meth.sig.returnType = some .int) (hd : decode c.code pc = .ok (.ireturn, 1)) {fs : List Frame}
    (hl : ∀ (f : JFrame) (acts : List Action), f.method = m → f.locked = none → f.entered = [] → (doReturn e (T.setTop f) acts (some (.int z))).1 = T.setFrames fs) : Steps p.tables e below (T.setTop (mkF m pc Ls (.int z :: rest))) (T.setFrames fs) := by
  have hm' : T.vm.method? m = some meth := X.method'
  have hn : narrow .int (.int z) = .int z := rfl
  show Steps p.tables e below (T.setTop { method := m, pc := pc, locals := Ls, stack := _ :: rest, locked := none }) _
  jvm_step X.here [X.here.top, hx, hd, hm', hret, hn]
  first | (intro acts; rw [hl _ acts rfl rfl rfl]) | rw [hl _ _ rfl rfl rfl]
  exact Steps.refl _
end New
end Jvm.RoadKit
namespace Jvm.Pilot.@@N@@
open Jvm Jvm.ClassFile Sem Op Lib Jvm.Free Jvm.Stand Jvm.LawKit Jvm.RoadKit Bundle Jvm.Pilot.@@N@@.Jvm.D
/-- the run from a frame of this method ends in a return with Q -/
def Go (p : Program) (e : Env) (s : State) (below : List Frame) (kc ks : Nat) (Q : Option Value → Heap → List Loc → Prop) (T : State) (f : JFrame) : Prop :=
  ∃ s₂ o, Steps p.tables e below (T.setTop f) s₂ ∧ s₂.status = .running ∧ Ended s₂ below o ∧ ∃ v L, o = .returned v ∧ Q v s₂.heap L ∧ FrameEnd s o s₂ L kc ks
/-- what is known of the method that runs -/
def Cx (p : Program) (s : State) (m : MethodId) (meth : Method) (c : Code) (Z : State) (own nm : String) (code : ByteArray) (maxL : Nat) (ret : Option FieldType) : Prop :=
  p.tables.exec = Jvm.exec ∧ Z.Warmed39 s.vm ∧ c.code = code ∧ c.maxLocals = maxL ∧ s.vm.findClass own = some m.cls ∧ meth.name = nm ∧ meth.sig.returnType = ret ∧ meth.locks = false
/-- a contract -/
def Ctr (l : Launch) (Z : State) (y : MethodName) (bytes : ByteArray) (maxL : Nat) (ret : Option FieldType) (ws : List Jvm.Cond) (rm : Room) (kc ks : Nat) (as : Array Value) (h : Heap) (Q : Option Value → Heap → List Loc → Prop) : Prop :=
  MetFree l y (head1 (Jvm.Cond.code y bytes maxL ret :: ws) rm) (fun a U => a = as ∧ Z.Warmed39 U.vm ∧ U.heap = h) (fun _ _ _ _ _ => True) (fun _ U o U' => ∃ v L, o = .returned v ∧ Q v U'.heap L ∧ FrameEnd U o U' L kc ks)
def bi (P : Prop) [Decidable P] : Int32 := if P then 1 else 0
theorem bi_t {P : Prop} [Decidable P] (h : P) : bi P = 1 := if_pos h
theorem bi_f {P : Prop} [Decidable P] (h : ¬ P) : bi P = 0 := if_neg h
theorem bi_n {P : Prop} [Decidable P] (h : P) : ¬ bi P = 0 := by rw [bi_t h]; decide
theorem bi_1 {P : Prop} [Decidable P] : bi P = 1 ↔ P := by unfold bi; split <;> simp_all
theorem bi_0 {P : Prop} [Decidable P] : bi P = 0 ↔ ¬ P := by unfold bi; split <;> simp_all
theorem bi_eq {P P' : Prop} [Decidable P] [Decidable P'] : bi P = bi P' ↔ (P ↔ P') := by unfold bi; split <;> split <;> simp_all
theorem bi_congr {P P' : Prop} [Decidable P] [Decidable P'] (h : P ↔ P') : bi P = bi P' := bi_eq.mpr h
theorem bi_fits {P : Prop} [Decidable P] : fits .boolean (.int (bi P)) = true := by unfold bi; split <;> rfl
theorem bi_nar {P : Prop} [Decidable P] : nar .boolean (bi P) = bi P := by unfold bi; split <;> rfl
section Own
variable {p : Program} {l : Launch} {e : Env} {R : Room} {s : State} {m : MethodId} {args : Array Value} {below : List Frame} {meth : Method} {c : Code} {T : State} {locs : List Loc} {cells slots kc ks : Nat} {Q : Option Value → Heap → List Loc → Prop} {Z : State} {a0 : Array Value} {h : Heap}
theorem Go.step {T' : State} {f f' : JFrame} (st : ∀ t, Steps p.tables e below (T'.setTop f') t → Steps p.tables e below (T.setTop f) t) (k : Go p e s below kc ks Q T' f') : Go p e s below kc ks Q T f := by
  obtain ⟨s₂, o, h1, r⟩ := k; exact ⟨s₂, o, st _ h1, r⟩
theorem Go.mono {Q' : Option Value → Heap → List Loc → Prop} {f : JFrame} (k : Go p e s below kc ks Q T f) (h : ∀ v h L, Q v h L → Q' v h L) : Go p e s below kc ks Q' T f := by
  obtain ⟨s₂, o, h1, h2, h3, v, L, h4, h5, h6⟩ := k; exact ⟨s₂, o, h1, h2, h3, v, L, h4, h _ _ _ h5, h6⟩
theorem Ctr.mk {y : MethodName} {bytes : ByteArray} {maxL : Nat} {ret : Option FieldType} {ws : List Jvm.Cond} {rm : Room} {as : Array Value} (hp : plainFor y = true)
    (hgo : ∀ (p : Program) (e : Env) (s : State) (m : MethodId) (below : List Frame) (meth : Method) (c : Code) (s₁ : State), Stand p l e rm s m as below meth c s₁ [] 0 0 → Cx p s m meth c Z y.cls y.name bytes maxL ret → s₁.heap = h → Go p e s below kc ks Q s₁ (entryFrame m as maxL)) :
    Ctr l Z y bytes maxL ret ws rm kc ks as h Q := by
  refine MetFree.of_bodySF hp hisR ?_
  intro p e s m args below meth c s₁ Bd hml0 hP hK
  obtain ⟨rfl, hZ, hh⟩ := hP
  exact hgo p e s m below meth c s₁ (Stand.of_body Bd) ⟨Bd.exec, hZ, Bd.bytes, hml0, findClass_of_methodNamed Bd.named, (name_of_methodNamed Bd.named Bd.method).1, Bd.returns, Bd.notSynchronized⟩ (by rw [← hh, Bd.state]; rfl)
theorem go_cast {f f' : JFrame} (q : f = f') (k : Go p e s below kc ks Q T f') : Go p e s below kc ks Q T f := q ▸ k
theorem go_retI (X : Stand p l e R s m args below meth c T locs cells slots) (hx : p.tables.exec = Jvm.exec) (hret : meth.sig.returnType = some .int) (hlk : meth.locks = false) {pc : Nat} {Ls : Array Slot} {z : Int32} {rest : List Value} (hd : decode c.code pc = .ok (.ireturn, 1))
    (hQ : Q (some (.int z)) T.heap locs) (hc : cells ≤ kc) (hs : slots ≤ ks) : Go p e s below kc ks Q T (mkF m pc Ls (.int z :: rest)) := by
  obtain ⟨fs, hr, hrun, hended, hW, hsame⟩ := X.leave (v := some (.int z)) (fun h => by rw [hret] at h; cases h) hlk
  exact ⟨_, _, retI X hx hret hd hr, hrun, hended, _, _, rfl, hQ, ⟨_, rfl⟩, hW, hsame.mono hc hs⟩
theorem go_retN (X : Stand p l e R s m args below meth c T locs cells slots) (hx : p.tables.exec = Jvm.exec) {t : FieldType} (hret : meth.sig.returnType = some t) (ht : t = .boolean ∨ t = .byte ∨ t = .char ∨ t = .short) (hlk : meth.locks = false) {pc : Nat} {Ls : Array Slot} {z w : Int32} {rest : List Value} (hd : decode c.code pc = .ok (.ireturn, 1))
    (hz : nar t z = w) (hQ : Q (some (.int w)) T.heap locs) (hc : cells ≤ kc) (hs : slots ≤ ks) : Go p e s below kc ks Q T (mkF m pc Ls (.int z :: rest)) := by
  subst hz
  obtain ⟨fs, hr, hrun, hended, hW, hsame⟩ := X.leave (v := some (.int (nar t z))) (fun h => by rw [hret] at h; cases h) hlk
  exact ⟨_, _, retN X hx hret ht hd hr, hrun, hended, _, _, rfl, hQ, ⟨_, rfl⟩, hW, hsame.mono hc hs⟩
theorem go_retJ (X : Stand p l e R s m args below meth c T locs cells slots) (hx : p.tables.exec = Jvm.exec) (hret : meth.sig.returnType = some .long) (hlk : meth.locks = false) {pc : Nat} {Ls : Array Slot} {z : Int64} (hd : decode c.code pc = .ok (.lreturn, 1))
    (hQ : Q (some (.long z)) T.heap locs) (hc : cells ≤ kc) (hs : slots ≤ ks) : Go p e s below kc ks Q T (mkF m pc Ls [.long z]) := by
  obtain ⟨fs, hr, hrun, hended, hW, hsame⟩ := X.leave (v := some (.long z)) (fun h => by rw [hret] at h; cases h) hlk
  exact ⟨_, _, X.lreturnOut hx hret hd hr, hrun, hended, _, _, rfl, hQ, ⟨_, rfl⟩, hW, hsame.mono hc hs⟩
theorem go_retA (X : Stand p l e R s m args below meth c T locs cells slots) (hx : p.tables.exec = Jvm.exec) {t : FieldType} (hret : meth.sig.returnType = some t) (ht : t.isReference = true) (hlk : meth.locks = false) {pc : Nat} {Ls : Array Slot} {w : Value} {rest : List Value} (hw : w.isRef = true) (hd : decode c.code pc = .ok (.areturn, 1))
    (hQ : Q (some w) T.heap locs) (hc : cells ≤ kc) (hs : slots ≤ ks) : Go p e s below kc ks Q T (mkF m pc Ls (w :: rest)) := by
  obtain ⟨fs, hr, hrun, hended, hW, hsame⟩ := X.leave (v := some w) (fun h => by rw [hret] at h; cases h) hlk
  have hn : narrow t w = w := by cases t <;> first | rfl | simp [FieldType.isReference] at ht
  exact ⟨_, _, retOut X hx hret hn (Or.inr (Or.inr (Or.inr (Or.inr ⟨rfl, ht, hw⟩)))) hd hr, hrun, hended, _, _, rfl, hQ, ⟨_, rfl⟩, hW, hsame.mono hc hs⟩
theorem go_ret (X : Stand p l e R s m args below meth c T locs cells slots) (hx : p.tables.exec = Jvm.exec) (hret : meth.sig.returnType = none) (hlk : meth.locks = false) {pc : Nat} {Ls : Array Slot} (hd : decode c.code pc = .ok (.return_, 1))
    (hQ : Q none T.heap locs) (hc : cells ≤ kc) (hs : slots ≤ ks) : Go p e s below kc ks Q T (mkF m pc Ls []) := by
  obtain ⟨fs, hr, hrun, hended, hW, hsame⟩ := X.leave (v := none) (fun _ => rfl) hlk
  exact ⟨_, _, X.returnOut hx hret hd hr, hrun, hended, _, _, rfl, hQ, ⟨_, rfl⟩, hW, hsame.mono hc hs⟩
/-! calls by a contract -/
section Calls
variable {own : String} {index : Nat} {y : MethodName} {bytes : ByteArray} {maxL : Nat} {ret r : Option FieldType} {rm : Room} {Qc : Option Value → Heap → List Loc → Prop} {argsL rest : List Value} {ps : List FieldType} {pc W : Nat} {Ls : Array Slot} {a : Addr}
theorem c_static (X : Stand p l e R s m args below meth c T locs cells slots) (hx : p.tables.exec = Jvm.exec) (hZ : Z.Warmed39 s.vm) (hown : s.vm.findClass own = some m.cls)
    (w1 : (Jvm.Cond.methodLink own index y).before a0 Z = true) (w2 : (Jvm.Cond.static y).before a0 Z = true) (w3 : (Jvm.Cond.initialized y.cls).before a0 Z = true) (w4 : (Jvm.Cond.code y bytes maxL ret).before a0 Z = true) (hy : y.cls ≠ "java/lang/invoke/MethodHandle" ∧ y.cls ≠ "java/lang/invoke/VarHandle")
    (hC : Ctr l Z y bytes maxL ret [] rm rm.cells rm.slots argsL.toArray h Qc) (eT : T.heap = h) (hpd : parseMethodDescriptor y.desc = some ⟨ps, r⟩) (hlen : argsL.length = ps.length) (hsz : Ls.size = c.maxLocals) (hW : 2 * 0 + (rest.map fun v => v.category).sum ≤ W)
    (hf : rm.frames + 1 ≤ R.frames) (hl : W + (maxL + 11) + rm.locals ≤ R.locals) (hc : cells + rm.cells ≤ R.cells) (hs : slots + rm.slots ≤ R.slots) (hd : decode c.code pc = .ok (.invokestatic index, 3)) :
    ∃ (v : Option Value) (T' : State) (L : List Loc), Stand p l e R s m args below meth c T' (locs ++ L) (cells + rm.cells) (slots + rm.slots) ∧ Qc v T'.heap L ∧
      ∀ t, Steps p.tables e below (T'.setTop (mkF m (pc + 3) Ls (v.toList ++ rest))) t → Steps p.tables e below (T.setTop (mkF m pc Ls (argsL.reverse ++ rest))) t := by
  obtain ⟨v, _, ⟨T', L', k', n'⟩, -, X', ⟨L, hQ, rfl, rfl, rfl⟩, st⟩ := Jvm.LawKit.callS X hx (y := y) hown (mvT hZ w1) (mvT hZ w2) (mvT hZ w3) (mvT hZ w4) hy (backOf (W := W) hC hZ w4 w3 hf hl) (g := mkF m pc Ls (argsL.reverse ++ rest)) rfl hsz (argsL := argsL) (rest := rest) (lenOf hpd hlen) rfl hW hd (fun _ _ => ⟨rfl, eT, hc, hs⟩)
  exact ⟨v, T', L, X', hQ, st⟩
theorem c_init (X : Stand p l e R s m args below meth c T locs cells slots) (hx : p.tables.exec = Jvm.exec) (hZ : Z.Warmed39 s.vm) (hown : s.vm.findClass own = some m.cls)
    (w1 : (Jvm.Cond.methodLink own index y).before a0 Z = true) (w2 : (Jvm.Cond.instanceMethod y).before a0 Z = true) (w3 : (Jvm.Cond.initialized y.cls).before a0 Z = true) (w4 : (Jvm.Cond.code y bytes maxL none).before a0 Z = true) (hn : y.name = "<init>") (hy : y.cls ≠ "java/lang/invoke/MethodHandle" ∧ y.cls ≠ "java/lang/invoke/VarHandle")
    (hC : Ctr l Z y bytes maxL none [] rm rm.cells rm.slots (.ref a :: argsL).toArray h Qc) (eT : T.heap = h) (hpd : parseMethodDescriptor y.desc = some ⟨ps, r⟩) (hlen : argsL.length = ps.length) (hsz : Ls.size = c.maxLocals) (hW : 2 * 0 + (rest.map fun v => v.category).sum ≤ W)
    (hf : rm.frames + 1 ≤ R.frames) (hl : W + (maxL + 11) + rm.locals ≤ R.locals) (hc : cells + rm.cells ≤ R.cells) (hs : slots + rm.slots ≤ R.slots) (hd : decode c.code pc = .ok (.invokespecial index, 3)) :
    ∃ (v : Option Value) (T' : State) (L : List Loc), Stand p l e R s m args below meth c T' (locs ++ L) (cells + rm.cells) (slots + rm.slots) ∧ Qc v T'.heap L ∧
      ∀ t, Steps p.tables e below (T'.setTop (mkF m (pc + 3) Ls (v.toList ++ rest))) t → Steps p.tables e below (T.setTop (mkF m pc Ls (argsL.reverse ++ .ref a :: rest))) t := by
  obtain ⟨v, _, ⟨T', L', k', n'⟩, -, X', ⟨L, hQ, rfl, rfl, rfl⟩, st⟩ := X.specialBack hx (y := y) hn hown (mvT hZ w1) (mvT hZ w2) (mvT hZ w4) hy (backOf (W := W) hC hZ w4 w3 hf hl) (g := mkF m pc Ls (argsL.reverse ++ .ref a :: rest)) rfl hsz (Steps.refl _) (a := a) (argsL := argsL) (rest := rest) (lenOf hpd hlen) rfl hW hd (fun _ _ => ⟨rfl, eT, hc, hs⟩)
  exact ⟨v, T', L, X', hQ, fun t k => st.trans k⟩
theorem c_virt {y' : MethodName} {C : String} (X : Stand p l e R s m args below meth c T locs cells slots) (hx : p.tables.exec = Jvm.exec) (hZ : Z.Warmed39 s.vm) (hown : s.vm.findClass own = some m.cls)
    (w1 : (Jvm.Cond.methodLink own index y').before a0 Z = true) (wd : (Jvm.Cond.declares y').before a0 Z = true) (nf : NotFace s y') (ws : (Jvm.Cond.selects C y' y).before a0 Z = true) (w2 : (Jvm.Cond.instanceMethod y).before a0 Z = true) (w3 : (Jvm.Cond.initialized y.cls).before a0 Z = true) (w4 : (Jvm.Cond.code y bytes maxL ret).before a0 Z = true) (hy : y'.cls ≠ "java/lang/invoke/MethodHandle" ∧ y'.cls ≠ "java/lang/invoke/VarHandle")
    (hC : Ctr l Z y bytes maxL ret [] rm rm.cells rm.slots (.ref a :: argsL).toArray h Qc) (eT : T.heap = h) (E : Exa Z h a C) (hpd : parseMethodDescriptor y'.desc = some ⟨ps, r⟩) (hlen : argsL.length = ps.length) (hsz : Ls.size = c.maxLocals) (hW : 2 * 0 + (rest.map fun v => v.category).sum ≤ W)
    (hf : rm.frames + 1 ≤ R.frames) (hl : W + (maxL + 11) + rm.locals ≤ R.locals) (hc : cells + rm.cells ≤ R.cells) (hs : slots + rm.slots ≤ R.slots) (hd : decode c.code pc = .ok (.invokevirtual index, 3)) :
    ∃ (v : Option Value) (T' : State) (L : List Loc), Stand p l e R s m args below meth c T' (locs ++ L) (cells + rm.cells) (slots + rm.slots) ∧ Qc v T'.heap L ∧
      ∀ t, Steps p.tables e below (T'.setTop (mkF m (pc + 3) Ls (v.toList ++ rest))) t → Steps p.tables e below (T.setTop (mkF m pc Ls (argsL.reverse ++ .ref a :: rest))) t := by
  obtain ⟨cq, kq, qa, qb, qc⟩ := isOf hZ eT E
  obtain ⟨v, _, ⟨T', L', k', n'⟩, -, X', ⟨L, hQ, rfl, rfl, rfl⟩, st⟩ := X.virtualBack hx (y := y') (z := y) hown (mvT hZ w1) (mvT hZ wd) nf (mvT hZ ws) (mvT hZ w2) hy (backOf (W := W) hC hZ w4 w3 hf hl) qa qc (g := mkF m pc Ls (argsL.reverse ++ .ref a :: rest)) rfl hsz (Steps.refl _) (argsL := argsL) (rest := rest) (lenOf hpd hlen) rfl hW hd (fun _ _ => ⟨rfl, eT, hc, hs⟩)
  exact ⟨v, T', L, X', hQ, fun t k => st.trans k⟩
theorem own_nf {y' z : MethodName} {C : String} {as : Array Value} (ws : (Jvm.Cond.selects C y' z).before as s = true) (h : z.cls = y.cls) : NotFace s y := fun r0 h0 => by
  obtain ⟨_, _, m2, -, -, q3, -, kP, hkP, hkPi⟩ := Cond.selects_spec ws
  have e1 := findClass_of_methodNamed q3
  rw [h] at e1
  have e2 : m2.cls = r0.cls := Option.some.inj (e1.symm.trans (findClass_of_methodNamed h0))
  exact ⟨kP, e2 ▸ hkP, hkPi⟩
/-- a private method of an object, by invokevirtual: its class isn't an interface (nf) -/
theorem c_priv {C : String} (X : Stand p l e R s m args below meth c T locs cells slots) (hx : p.tables.exec = Jvm.exec) (hZ : Z.Warmed39 s.vm) (hown : s.vm.findClass own = some m.cls)
    (w1 : (Jvm.Cond.methodLink own index y).before a0 Z = true) (w2 : (Jvm.Cond.instanceMethod y).before a0 Z = true) (nf : NotFace s y) (wp : (Jvm.Cond.privateMethod y).before a0 Z = true) (w3 : (Jvm.Cond.initialized y.cls).before a0 Z = true) (w4 : (Jvm.Cond.code y bytes maxL ret).before a0 Z = true) (hy : y.cls ≠ "java/lang/invoke/MethodHandle" ∧ y.cls ≠ "java/lang/invoke/VarHandle")
    (hC : Ctr l Z y bytes maxL ret [] rm rm.cells rm.slots (.ref a :: argsL).toArray h Qc) (eT : T.heap = h) (E : Exa Z h a C) (hpd : parseMethodDescriptor y.desc = some ⟨ps, r⟩) (hlen : argsL.length = ps.length) (hsz : Ls.size = c.maxLocals) (hW : 2 * 0 + (rest.map fun v => v.category).sum ≤ W)
    (hf : rm.frames + 1 ≤ R.frames) (hl : W + (maxL + 11) + rm.locals ≤ R.locals) (hc : cells + rm.cells ≤ R.cells) (hs : slots + rm.slots ≤ R.slots) (hd : decode c.code pc = .ok (.invokevirtual index, 3)) :
    ∃ (v : Option Value) (T' : State) (L : List Loc), Stand p l e R s m args below meth c T' (locs ++ L) (cells + rm.cells) (slots + rm.slots) ∧ Qc v T'.heap L ∧
      ∀ t, Steps p.tables e below (T'.setTop (mkF m (pc + 3) Ls (v.toList ++ rest))) t → Steps p.tables e below (T.setTop (mkF m pc Ls (argsL.reverse ++ .ref a :: rest))) t := by
  obtain ⟨cq, qa, qb⟩ := E.cell
  obtain ⟨mk, methM, hnamed, hmethM, hstM, habM⟩ := Cond.instanceMethod_spec (mvT (args := args) hZ w2)
  obtain ⟨methM', cM, hmethM', -, -, -, -, -, -, hsigM⟩ := Cond.code_spec hnamed (mvT (args := args) hZ w4)
  cases hmethM.symm.trans hmethM'
  obtain ⟨kP, hkP, hkPi⟩ := nf mk hnamed
  have hsel : selectMethod e.platform s.vm cq.cls mk = .method mk := selectMethod_private hmethM ((Cond.privateMethod_at (mvP hZ wp (args := #[]))) mk methM hnamed hmethM)
  obtain ⟨vm₁, X₁, hst⟩ := X.invokevirtual hx hown (mvT hZ w1) hnamed hmethM hstM hkP hkPi hy (a := a) (cell := cq) (by rw [eT]; exact qa) qb hsel hmethM habM hkP hkPi (g := mkF m pc Ls (argsL.reverse ++ .ref a :: rest)) rfl (argsL := argsL) (rest := rest) (lenOf hpd hlen _ hsigM) rfl hd
  obtain ⟨v, ⟨T', L', k', n'⟩, X', ⟨L, hQ, rfl, rfl, rfl⟩, hgo⟩ := (backOf (W := W) (len := 3) hC hZ w4 w3 hf hl) m meth c ⟨T.setVm vm₁, locs, cells, slots⟩ (mkF m pc Ls rest) (.invokevirtual index) mk (.ref a :: argsL).toArray X₁ rfl hsz hd hW (X₁.named hnamed) ⟨rfl, eT, hc, hs⟩
  exact ⟨v, T', L, X', hQ, fun t k => ((hst _ fun acts => by rw [doInvoke_state]; exact Steps.refl _).trans hgo).trans k⟩
/-- invokevirtual of a method that a class above the one that the entry names declares -/
theorem c_virtUp {y' : MethodName} {C owner : String} (X : Stand p l e R s m args below meth c T locs cells slots) (hx : p.tables.exec = Jvm.exec) (hZ : Z.Warmed39 s.vm) (hown : s.vm.findClass own = some m.cls)
    (w1 : (Jvm.Cond.methodLink own index y').before a0 Z = true) (wm : (Jvm.Cond.sameMethod y'.cls owner y'.name y'.desc).before a0 Z = true) (wd : (Jvm.Cond.declares ⟨owner, y'.name, y'.desc⟩).before a0 Z = true) (ws : (Jvm.Cond.selects C y' y).before a0 Z = true) (w2 : (Jvm.Cond.instanceMethod y).before a0 Z = true) (w3 : (Jvm.Cond.initialized y.cls).before a0 Z = true) (w4 : (Jvm.Cond.code y bytes maxL ret).before a0 Z = true) (hy : owner ≠ "java/lang/invoke/MethodHandle" ∧ owner ≠ "java/lang/invoke/VarHandle")
    (hC : Ctr l Z y bytes maxL ret [] rm rm.cells rm.slots (.ref a :: argsL).toArray h Qc) (eT : T.heap = h) (E : Exa Z h a C) (hpd : parseMethodDescriptor y'.desc = some ⟨ps, r⟩) (hlen : argsL.length = ps.length) (hsz : Ls.size = c.maxLocals) (hW : 2 * 0 + (rest.map fun v => v.category).sum ≤ W)
    (hf : rm.frames + 1 ≤ R.frames) (hl : W + (maxL + 11) + rm.locals ≤ R.locals) (hc : cells + rm.cells ≤ R.cells) (hs : slots + rm.slots ≤ R.slots) (hd : decode c.code pc = .ok (.invokevirtual index, 3)) :
    ∃ (v : Option Value) (T' : State) (L : List Loc), Stand p l e R s m args below meth c T' (locs ++ L) (cells + rm.cells) (slots + rm.slots) ∧ Qc v T'.heap L ∧
      ∀ t, Steps p.tables e below (T'.setTop (mkF m (pc + 3) Ls (v.toList ++ rest))) t → Steps p.tables e below (T.setTop (mkF m pc Ls (argsL.reverse ++ .ref a :: rest))) t := by
  obtain ⟨cq, kq, qa, qb, qc⟩ := isOf hZ eT E
  obtain ⟨v, _, ⟨T', L', k', n'⟩, -, X', ⟨L, hQ, rfl, rfl, rfl⟩, st⟩ := X.virtualBackUp hx (x := y') (y := y) hown (mvT hZ w1) (mvT hZ wm) (mvT hZ wd) hy (mvT hZ ws) (mvT hZ w2) (backOf (W := W) hC hZ w4 w3 hf hl) qa qc (g := mkF m pc Ls (argsL.reverse ++ .ref a :: rest)) rfl hsz (Steps.refl _) (argsL := argsL) (rest := rest) (lenOf hpd hlen) rfl hW hd (fun _ _ => ⟨rfl, eT, hc, hs⟩)
  exact ⟨v, T', L, X', hQ, fun t k => st.trans k⟩
end Calls
end Own
/-! arrays by a function of the place -/
def upd (f : Nat → Value) (k : Nat) (v : Value) : Nat → Value := fun i => if i = k then v else f i
def lst (L : List Value) : Nat → Value := fun i => L.getD i .null
theorem upd_eq {f : Nat → Value} {k : Nat} {v : Value} : upd f k v k = v := if_pos rfl
theorem upd_ne {f : Nat → Value} {k i : Nat} {v : Value} (h : i ≠ k) : upd f k v i = f i := if_neg h
def AV (Z : State) (h : Heap) (a : Addr) (ty : FieldType) (n : Nat) (f : Nat → Value) : Prop := ∃ c : Cell, Arr Z h a c ty ∧ c.slots.size = n ∧ n < 2147483648 ∧ ∀ i, i < n → c.slots[i]? = some (f i)
section Arrays
variable {Z : State} {h h' : Heap} {a b : Addr} {ty : FieldType} {n k : Nat} {f g : Nat → Value} {v w : Value} {j : Int32} {ws : List Addr} {sl : Nat}
theorem AV.lt (A : AV Z h a ty n f) : a < h.size := by obtain ⟨c, A, -⟩ := A; exact A.lt
theorem AV.ext (A : AV Z h a ty n f) (E : Ext h h') : AV Z h' a ty n f := by obtain ⟨c, A, r⟩ := A; exact ⟨c, A.ext E, r⟩
theorem AV.other (A : AV Z h b ty n f) (W : Wr h h' a sl v) (q : b ≠ a) : AV Z h' b ty n f := by obtain ⟨c, A, r⟩ := A; exact ⟨c, A.other W q, r⟩
theorem AV.keep (A : AV Z h a ty n f) (K : Keep h h' ws) (q : a ∉ ws) : AV Z h' a ty n f := by obtain ⟨c, A, r⟩ := A; exact ⟨c, ⟨K.2.1 a c A.1 q, A.2⟩, r⟩
theorem AV.congr (A : AV Z h a ty n f) (q : ∀ i, i < n → f i = g i) : AV Z h a ty n g := by obtain ⟨c, A, r1, r2, r3⟩ := A; exact ⟨c, A, r1, r2, fun i hi => by rw [r3 i hi, q i hi]⟩
theorem AV.bound (A : AV Z h a ty n f) : n < 2147483648 := by obtain ⟨c, A, r1, r2, r3⟩ := A; exact r2
theorem clamp_of (hj : j.toInt = (k : Int)) : j.toNatClampNeg = k := by show j.toInt.toNat = k; rw [hj]; rfl
theorem in_of {c : Cell} (hj : j.toInt = (k : Int)) (hs : c.slots.size = n) (hk : k < n) : ¬ (j < 0 ∨ c.slots.size ≤ j.toNatClampNeg) := by
  rw [clamp_of hj, hs, Int32.lt_iff_toInt_lt, hj]; simp only [Int32.reduceToInt]; omega
theorem AV.new {cA : ClassId} {z : Int32} (A : Arr Z h a (newA cA ty z) ty) (hz : z.toInt = (n : Int)) : AV Z h a ty n (fun _ => defaultValue ty) := by
  have q := clamp_of hz
  have hb := Int32.toInt_lt z
  refine ⟨_, A, by rw [sz_new]; exact q, by omega, fun i hi => ?_⟩
  have hi' : i < z.toNatClampNeg := by rw [q]; exact hi
  simp [newA, hi']
theorem AV.at (A : AV Z h a ty n f) (hj : j.toInt = (k : Int)) (hk : k < n) : ∃ cl : Cell, Arr Z h a cl ty ∧ ¬ (j < 0 ∨ cl.slots.size ≤ j.toNatClampNeg) ∧ cl.slots[j.toNatClampNeg]? = some (f k) := by
  obtain ⟨c, A, r1, r2, r3⟩ := A
  exact ⟨c, A, in_of hj r1 hk, by rw [clamp_of hj]; exact r3 k hk⟩
theorem AV.set (A : AV Z h a ty n f) (hj : j.toInt = (k : Int)) (hk : k < n) (W : Wr h h' a j.toNatClampNeg v) : AV Z h' a ty n (upd f k v) := by
  obtain ⟨c, A, r1, r2, r3⟩ := A
  refine ⟨_, A.same W, by rw [sz_set]; exact r1, r2, fun i hi => ?_⟩
  rw [clamp_of hj]
  by_cases e : i = k
  · subst e; simp [Cell.setSlot, r1, hi, upd]
  · rw [upd_ne e, ← r3 i hi]; exact Array.getElem?_setIfInBounds_ne (Ne.symm e)
theorem AV.setL {L L' : List Value} (A : AV Z h a ty n (lst L)) (hj : j.toInt = (k : Int)) (hk : k < n) (W : Wr h h' a j.toNatClampNeg v) (hl : k < L.length) (e : L.set k v = L') : AV Z h' a ty n (lst L') := by
  subst e
  refine (A.set hj hk W).congr fun i hi => ?_
  by_cases q : i = k
  · subst q; simp [upd, lst, List.getD_eq_getElem?_getD, hl]
  · rw [upd_ne q]; simp [lst, List.getD_eq_getElem?_getD, List.getElem?_set_ne (Ne.symm q)]
theorem AV.newL {L : List Value} (A : AV Z h a ty n (fun _ => v)) (e : L = List.replicate n v) : AV Z h a ty n (lst L) := by
  subst e; refine A.congr fun i hi => ?_
  simp [lst, List.getD_eq_getElem?_getD, List.getElem?_replicate, hi]
theorem AV.len (A : AV Z h a ty n f) : ∃ cl : Cell, Arr Z h a cl ty ∧ cl.slots.size.toInt32 = Int32.ofNat n := by
  obtain ⟨c, A, r1, r2, r3⟩ := A; exact ⟨c, A, by rw [r1]⟩
theorem own_cls {cA : ClassId} {z : Int32} {ad : String} (A : Arr Z h a (newA cA ty z) ty) (E : Exa Z h a ad) : Z.vm.findClass ad = some cA := by
  obtain ⟨cell, k, e1, e2, -⟩ := E
  cases A.1.symm.trans e1
  exact e2
theorem own_sto {cA : ClassId} {cl : Cell} {ad C : String} {y : Addr} (A : Arr Z h a cl ty) (E : Exa Z h a ad) (hA : Z.vm.findClass ad = some cA) (O : Ovr Z cA C) (I : Ins Z h y C true) : Sto Z h a (.ref y) := by
  obtain ⟨cell, k, e1, e2, -⟩ := E
  cases A.1.symm.trans e1
  have q : cl.cls = cA := Option.some.inj (e2.symm.trans hA)
  exact Sto.of A (q ▸ O) I
theorem own_sta_keep {C n' d : String} (F : Sta Z h C n' d v) (K : Keep h h' []) : Sta Z h' C n' d v := by
  obtain ⟨cf, i, k, f, st, cell, h1, h2, h3, h4, h5, h6, h7⟩ := F
  exact ⟨cf, i, k, f, st, cell, h1, h2, h3, h4, K.2.1 _ _ h5 (fun q => nomatch q), h6, h7⟩
end Arrays
section ASteps
variable {p : Program} {l : Launch} {e : Env} {R : Room} {s : State} {m : MethodId} {args : Array Value} {below : List Frame} {meth : Method} {c : Code} {T : State} {locs : List Loc} {cells slots : Nat} {Z : State} {a0 : Array Value} {h : Heap} {a : Addr} {n k pc : Nat} {f : Nat → Value} {j : Int32} {Ls : Array Slot} {rest : List Value}
theorem a_iload (X : Stand p l e R s m args below meth c T locs cells slots) (hx : p.tables.exec = Jvm.exec) (hZ : Z.Warmed39 s.vm) (eT : T.heap = h) (A : AV Z h a .int n f) (hj : j.toInt = (k : Int)) (hk : k < n) {x : Int32} (hv : f k = .int x) (hd : decode c.code pc = .ok (.iaload, 1)) :
    ∀ t, Steps p.tables e below (T.setTop (mkF m (pc + 1) Ls (.int x :: rest))) t → Steps p.tables e below (T.setTop (mkF m pc Ls (.int j :: .ref a :: rest))) t := by
  obtain ⟨cl, A, hin, hat⟩ := A.at hj hk
  rw [hv] at hat
  exact X.iaload hx (j := j) (v := .int x) (by rw [eT]; exact A.1) (State.isArrayOf_alike hZ.alike A.2.1) A.2.2 hin hat (g := mkF m pc Ls (.int j :: .ref a :: rest)) rfl rfl hd
theorem a_cload (X : Stand p l e R s m args below meth c T locs cells slots) (hx : p.tables.exec = Jvm.exec) (hZ : Z.Warmed39 s.vm) (eT : T.heap = h) (A : AV Z h a .char n f) (hj : j.toInt = (k : Int)) (hk : k < n) {x : Int32} (hv : f k = .int x) (hd : decode c.code pc = .ok (.caload, 1)) :
    ∀ t, Steps p.tables e below (T.setTop (mkF m (pc + 1) Ls (.int x :: rest))) t → Steps p.tables e below (T.setTop (mkF m pc Ls (.int j :: .ref a :: rest))) t := by
  obtain ⟨cl, A, hin, hat⟩ := A.at hj hk
  rw [hv] at hat
  exact X.caload hx (j := j) (v := .int x) (by rw [eT]; exact A.1) (State.isArrayOf_alike hZ.alike A.2.1) A.2.2 hin hat (g := mkF m pc Ls (.int j :: .ref a :: rest)) rfl rfl hd
theorem a_bload (X : Stand p l e R s m args below meth c T locs cells slots) (hx : p.tables.exec = Jvm.exec) (hZ : Z.Warmed39 s.vm) (eT : T.heap = h) (A : AV Z h a .byte n f) (hj : j.toInt = (k : Int)) (hk : k < n) {x : Int32} (hv : f k = .int x) (hd : decode c.code pc = .ok (.baload, 1)) :
    ∀ t, Steps p.tables e below (T.setTop (mkF m (pc + 1) Ls (.int x :: rest))) t → Steps p.tables e below (T.setTop (mkF m pc Ls (.int j :: .ref a :: rest))) t := by
  obtain ⟨cl, A, hin, hat⟩ := A.at hj hk
  rw [hv] at hat
  exact X.baloadBytes hx (j := j) (v := .int x) (by rw [eT]; exact A.1) (State.isArrayOf_alike hZ.alike A.2.1) A.2.2 hin hat (g := mkF m pc Ls (.int j :: .ref a :: rest)) rfl rfl hd
theorem a_jload (X : Stand p l e R s m args below meth c T locs cells slots) (hx : p.tables.exec = Jvm.exec) (hZ : Z.Warmed39 s.vm) (eT : T.heap = h) (A : AV Z h a .long n f) (hj : j.toInt = (k : Int)) (hk : k < n) {x : Int64} (hv : f k = .long x) (hd : decode c.code pc = .ok (.laload, 1)) :
    ∀ t, Steps p.tables e below (T.setTop (mkF m (pc + 1) Ls (.long x :: rest))) t → Steps p.tables e below (T.setTop (mkF m pc Ls (.int j :: .ref a :: rest))) t := by
  obtain ⟨cl, A, hin, hat⟩ := A.at hj hk
  rw [hv] at hat
  exact X.laload hx (j := j) (v := .long x) (by rw [eT]; exact A.1) (State.isArrayOf_alike hZ.alike A.2.1) A.2.2 hin hat (g := mkF m pc Ls (.int j :: .ref a :: rest)) rfl rfl hd
theorem a_rload {ty : FieldType} (X : Stand p l e R s m args below meth c T locs cells slots) (hx : p.tables.exec = Jvm.exec) (hZ : Z.Warmed39 s.vm) (eT : T.heap = h) (A : AV Z h a ty n f) (ht : ty.isReference = true) (hj : j.toInt = (k : Int)) (hk : k < n) {v : Value} (hv : f k = v) (hd : decode c.code pc = .ok (.aaload, 1)) :
    ∀ t, Steps p.tables e below (T.setTop (mkF m (pc + 1) Ls (v :: rest))) t → Steps p.tables e below (T.setTop (mkF m pc Ls (.int j :: .ref a :: rest))) t := by
  obtain ⟨cl, A, hin, hat⟩ := A.at hj hk
  rw [hv] at hat
  exact X.aaload hx (j := j) (v := v) (by rw [eT]; exact A.1) (State.isArrayOf_alike hZ.alike A.2.1) ht A.2.2 hin hat (g := mkF m pc Ls (.int j :: .ref a :: rest)) rfl rfl hd
theorem a_len {ty : FieldType} (X : Stand p l e R s m args below meth c T locs cells slots) (hx : p.tables.exec = Jvm.exec) (hZ : Z.Warmed39 s.vm) (eT : T.heap = h) (A : AV Z h a ty n f) {z : Int32} (hz : z.toInt = (n : Int)) (hd : decode c.code pc = .ok (.arraylength, 1)) :
    ∀ t, Steps p.tables e below (T.setTop (mkF m (pc + 1) Ls (.int z :: rest))) t → Steps p.tables e below (T.setTop (mkF m pc Ls (.ref a :: rest))) t := by
  obtain ⟨cl, A, hin⟩ := A.len
  have hb := Int32.toInt_lt z
  have q : cl.slots.size.toInt32 = z := by rw [hin]; exact Int32.toInt_inj.mp (by rw [hz]; exact Int32.toInt_ofNat_of_lt (by omega))
  intro t k
  refine X.arraylength hx (by rw [eT]; exact A.1) (State.isArrayOf_alike hZ.alike A.2.1) (g := mkF m pc Ls (.ref a :: rest)) rfl rfl hd _ ?_
  rw [q]; exact k
end ASteps
abbrev dg (d : Nat) : Int32 := (((48 : Int64) + Int64.ofNat d).toInt32).toInt8.toInt32
theorem own_dg (d : Nat) : nar .byte (dg d) = dg d := by
  show (((48 : Int64) + Int64.ofNat d).toInt32).toInt8.toInt32.toInt8.toInt32 = (((48 : Int64) + Int64.ofNat d).toInt32).toInt8.toInt32
  rw [Int8.toInt8_toInt32]
theorem own_n64 {M : Nat} (h : M < 9223372036854775808) : (Int64.ofNat M).toInt = (M : Int) := Int64.toInt_ofNat_of_lt h
theorem own_lrem {M K : Nat} (h : M < 9223372036854775808) (hK : K < 9223372036854775808) : Int64.ofNat M % Int64.ofNat K = Int64.ofNat (M % K) := by
  refine Int64.toInt_inj.mp ?_
  rw [Int64.toInt_mod, own_n64 h, own_n64 hK, own_n64 (Nat.lt_of_le_of_lt (Nat.mod_le _ _) h)]
  exact (Int.ofNat_tmod M K).symm
theorem own_ldiv {M K : Nat} (h : M < 9223372036854775808) (hK : K < 9223372036854775808) : Int64.ofNat M / Int64.ofNat K = Int64.ofNat (M / K) := by
  refine Int64.toInt_inj.mp ?_
  have hne : Int64.ofNat K ≠ -1 := fun q => by
    have := congrArg Int64.toInt q; rw [own_n64 hK, show (-1 : Int64).toInt = -1 by decide] at this; omega
  rw [Int64.toInt_div_of_ne_right _ _ hne, own_n64 h, own_n64 hK, own_n64 (Nat.lt_of_le_of_lt (Nat.div_le_self _ _) h)]
  exact (Int.ofNat_tdiv M K).symm
theorem own_lt0 (t : Nat) (h : t ≤ 19) : (Int32.ofNat t - (1 : Int32) < (0 : Int32)) ↔ t = 0 := by
  have key : ∀ t : Fin 20, (Int32.ofNat t.1 - (1 : Int32) < (0 : Int32)) ↔ t.1 = 0 := by decide +kernel
  exact key ⟨t, by omega⟩
theorem own_pred (t : Nat) (h : t < 19) : Int32.ofNat (t + 1) - (1 : Int32) = Int32.ofNat t := by
  rw [Int32.ofNat_add]; show Int32.ofNat t + 1 - 1 = _; exact Int32.add_sub_cancel _ _
theorem own_step (t : Nat) : Int32.ofNat t + (-1 : Int32) = Int32.ofNat t - (1 : Int32) := by rw [Int32.sub_eq_add_neg]
theorem own_w (x : Int32) : ∃ n : Nat, n ≤ 19 ∧ ((x &&& (2147483647 : Int32)) % (20 : Int32)) = Int32.ofNat n := by
  have h1 := c_mask x 2147483647 31 (by decide) (by decide)
  have h2 := (c_irem (x &&& 2147483647) 20 20 (by decide)).1
  refine ⟨((x &&& 2147483647) % 20).toInt.toNat, by omega, Int32.toInt_inj.mp ?_⟩
  rw [Int32.toInt_ofNat_of_lt (by omega)]; omega
theorem own_k (x : Int32) (n : Nat) (hn : 0 < n) (h19 : n ≤ 19) : ∃ i : Nat, i < n ∧ ((x &&& (2147483647 : Int32)) % Int32.ofNat n) = Int32.ofNat i := by
  have h1 := c_mask x 2147483647 31 (by decide) (by decide)
  have h2 := (c_irem (x &&& 2147483647) (Int32.ofNat n) n (Int32.toInt_ofNat_of_lt (by omega))).1 (by omega)
  have h3 := Int.emod_nonneg (x &&& 2147483647).toInt (b := (n : Int)) (by omega)
  have h4 := Int.emod_lt_of_pos (x &&& 2147483647).toInt (b := (n : Int)) (by omega)
  refine ⟨((x &&& 2147483647) % Int32.ofNat n).toInt.toNat, by omega, Int32.toInt_inj.mp ?_⟩
  rw [Int32.toInt_ofNat_of_lt (by omega)]; omega
theorem own_m (x : Int64) : ∃ M : Nat, M < 9223372036854775808 ∧ (x &&& (9223372036854775807 : Int64)) = Int64.ofNat M := by
  have h := c_maskL x 9223372036854775807 63 (by decide) (by decide)
  have := rng64 x
  refine ⟨(x &&& 9223372036854775807).toInt.toNat, by omega, Int64.toInt_inj.mp ?_⟩
  rw [own_n64 (by omega)]; omega
theorem own_p (n : Nat) (h : n ≤ 18) : 10 ^ n < 9223372036854775808 ∧ 0 < 10 ^ n := by
  have key : ∀ n : Fin 19, 10 ^ n.1 < 9223372036854775808 ∧ 0 < 10 ^ n.1 := by decide +kernel
  exact key ⟨n, by omega⟩
theorem own_pnz (n : Nat) (h : n ≤ 18) : ¬ Int64.ofNat (10 ^ n) = 0 := fun q => by
  have h1 := own_p n h
  have := congrArg Int64.toInt q; rw [own_n64 h1.1] at this; simp only [Int64.reduceToInt] at this; omega
theorem own_idx (n i : Nat) (h : i < n) (h19 : n ≤ 19) : Int32.ofNat n - (1 : Int32) - Int32.ofNat i = Int32.ofNat (n - 1 - i) := by
  have a1 := c_isub (Int32.ofNat n) 1; have a2 := rng32 (Int32.ofNat n - 1); have a3 := c_isub (Int32.ofNat n - 1) (Int32.ofNat i); have a4 := rng32 (Int32.ofNat n - 1 - Int32.ofNat i)
  rw [Int32.toInt_ofNat_of_lt (by omega)] at a1 a3
  simp only [Int32.reduceToInt] at a1
  refine Int32.toInt_inj.mp ?_
  rw [Int32.toInt_ofNat_of_lt (by omega)]; omega
theorem own_lt19 (n : Nat) (h : n ≤ 19) : (Int32.ofNat n < (19 : Int32)) ↔ n < 19 := by
  have key : ∀ t : Fin 20, (Int32.ofNat t.1 < (19 : Int32)) ↔ t.1 < 19 := by decide +kernel
  exact key ⟨n, by omega⟩
theorem own_eq0 (n : Nat) (h : n ≤ 19) : (Int32.ofNat n = (0 : Int32)) ↔ n = 0 := by
  have key : ∀ t : Fin 20, (Int32.ofNat t.1 = (0 : Int32)) ↔ t.1 = 0 := by decide +kernel
  exact key ⟨n, by omega⟩
theorem own_nn (n : Nat) (h : n ≤ 19) : ¬ Int32.ofNat n < 0 := by
  have key : ∀ t : Fin 20, ¬ Int32.ofNat t.1 < 0 := by decide +kernel
  exact key ⟨n, by omega⟩
theorem own_div10 (M k : Nat) : M / 10 ^ k / 10 = M / 10 ^ (k + 1) := by rw [Nat.div_div_eq_div_mul, Nat.pow_succ]
theorem ef_rmZ (m : MethodId) (x0 : Int64) (x1 : Int32) : entryFrame m #[(.long x0), (.int x1)] 7 = mkF m 0 #[.val (.long x0), .second, .val (.int x1), .unset, .unset, .unset, .unset] [] := by first | (simp [entryFrame, mkF, argsToLocals, Value.category]; done) | rfl
theorem pn_0 : plainName "com/example/satzbau/satzbau/formats/transport/TransportLayout" = true := by first | (simp [plainName, overriddenIn]; done) | decide +kernel
theorem d1_0 : decode prog_41_method_4_code 0 = .ok (.iload_n 2, 1) := by decide +kernel
theorem d1_1 : decode prog_41_method_4_code 1 = .ok (.newarray .byte, 2) := by decide +kernel
theorem d1_3 : decode prog_41_method_4_code 3 = .ok (.astore_n 3, 1) := by decide +kernel
theorem d1_4 : decode prog_41_method_4_code 4 = .ok (.lload_n 0, 1) := by decide +kernel
theorem d1_5 : decode prog_41_method_4_code 5 = .ok (.lstore 4, 2) := by decide +kernel
theorem d1_7 : decode prog_41_method_4_code 7 = .ok (.iload_n 2, 1) := by decide +kernel
theorem d1_8 : decode prog_41_method_4_code 8 = .ok (.iconst 1, 1) := by decide +kernel
theorem d1_9 : decode prog_41_method_4_code 9 = .ok (.isub, 1) := by decide +kernel
theorem d1_10 : decode prog_41_method_4_code 10 = .ok (.istore 6, 2) := by decide +kernel
theorem d1_12 : decode prog_41_method_4_code 12 = .ok (.iload 6, 2) := by decide +kernel
theorem d1_14 : decode prog_41_method_4_code 14 = .ok (.ifCond .lt 33, 3) := by decide +kernel
theorem d1_47 : decode prog_41_method_4_code 47 = .ok (.aload_n 3, 1) := by decide +kernel
theorem d1_48 : decode prog_41_method_4_code 48 = .ok (.areturn, 1) := by decide +kernel
theorem d1_17 : decode prog_41_method_4_code 17 = .ok (.aload_n 3, 1) := by decide +kernel
theorem d1_18 : decode prog_41_method_4_code 18 = .ok (.iload 6, 2) := by decide +kernel
theorem d1_20 : decode prog_41_method_4_code 20 = .ok (.ldc2_w 19, 3) := by decide +kernel
theorem d1_23 : decode prog_41_method_4_code 23 = .ok (.lload 4, 2) := by decide +kernel
theorem d1_25 : decode prog_41_method_4_code 25 = .ok (.ldc2_w 21, 3) := by decide +kernel
theorem d1_28 : decode prog_41_method_4_code 28 = .ok (.lrem, 1) := by decide +kernel
theorem d1_29 : decode prog_41_method_4_code 29 = .ok (.ladd, 1) := by decide +kernel
theorem d1_30 : decode prog_41_method_4_code 30 = .ok (.l2i, 1) := by decide +kernel
theorem d1_31 : decode prog_41_method_4_code 31 = .ok (.i2b, 1) := by decide +kernel
theorem d1_32 : decode prog_41_method_4_code 32 = .ok (.bastore, 1) := by decide +kernel
theorem d1_33 : decode prog_41_method_4_code 33 = .ok (.lload 4, 2) := by decide +kernel
theorem d1_35 : decode prog_41_method_4_code 35 = .ok (.ldc2_w 21, 3) := by decide +kernel
theorem d1_38 : decode prog_41_method_4_code 38 = .ok (.ldiv, 1) := by decide +kernel
theorem d1_39 : decode prog_41_method_4_code 39 = .ok (.lstore 4, 2) := by decide +kernel
theorem d1_41 : decode prog_41_method_4_code 41 = .ok (.iinc 6 (-1), 3) := by decide +kernel
theorem d1_44 : decode prog_41_method_4_code 44 = .ok (.goto (-32), 3) := by decide +kernel
set_option maxRecDepth 65536 in
set_option maxHeartbeats 40000000 in
theorem rmZ (l : Launch) (Z : State) (a0 : Array Value) (hw : ∀ d ∈ tables_1, d.before a0 Z = true) (ws : List Jvm.Cond) (M n : Nat) (h0 : Heap) (n0 : Nat) (Z0 : n0 ≤ h0.size) (hM : M < 9223372036854775808) (hn : n ≤ 19) :
    Ctr l Z (⟨"com/example/satzbau/satzbau/formats/transport/TransportLayout", "zeroPadded", "(JI)[B"⟩ : MethodName) prog_41_method_4_code 7 (some (.array .byte)) ws ({ frames := 0, cells := 1, slots := 19, locals := 0 } : Room) 1 19 #[(.long (Int64.ofNat M)), (.int (Int32.ofNat n))] h0 (fun v h L => ∃ b, v = some (.ref b) ∧ Fr n0 L ∧ Keep h0 h [] ∧ h0.size ≤ b ∧ AV Z h b .byte n (fun j => .int (dg (M / 10 ^ (n - 1 - j) % 10)))) := by
  refine Ctr.mk (plainFor_of_name pn_0) fun p e s m below meth c T0 X0 C e0 => go_cast (ef_rmZ m (Int64.ofNat M) (Int32.ofNat n)) ?_
  have N0 := Fr.nil n0
  obtain ⟨hx, hZ, hby, hml, hown, hnm, hret, hlk⟩ := C
  obtain ⟨hI, eI⟩ : ∃ z, z = h0 := ⟨_, rfl⟩
  have K0 : Keep hI h0 [] := by rw [eI]; exact Keep.refl _ _
  show Go _ _ _ _ _ _ _ T0 (mkF m 0 #[.val (.long (Int64.ofNat M)), .second, .val (.int (Int32.ofNat n)), .unset, .unset, .unset, .unset] [])
  refine Go.step (fun tt kk => XS.iloadN X0.here hx rfl (hb hby d1_0) rfl kk) ?_
  show Go _ _ _ _ _ _ _ T0 (mkF m 1 #[.val (.long (Int64.ofNat M)), .second, .val (.int (Int32.ofNat n)), .unset, .unset, .unset, .unset] [(.int (Int32.ofNat n))])
  obtain ⟨T1, h1, k1, X1, e1, E1, A1, EA1, st1⟩ := newPE X0 hx hZ (hw _ (List.mem_of_getElem? (i := 25) rfl)) e0 (g := (mkF m 1 #[.val (.long (Int64.ofNat M)), .second, .val (.int (Int32.ofNat n)), .unset, .unset, .unset, .unset] [(.int (Int32.ofNat n))])) rfl (hb hby d1_1) rfl (own_nn n hn) (cap := 19) (by rw [clamp_of (k := n) (Int32.toInt_ofNat_of_lt (by omega))]; omega) (by decide) (by decide) (by decide) (ad := "[B") rfl
  obtain ⟨b1, g1⟩ : ∃ z, z = h0.size := ⟨_, rfl⟩
  rw [← g1] at A1 EA1 st1
  have gn_b1 : n0 ≤ b1 := Nat.le_trans Z0 (Nat.le_of_eq g1.symm)
  have sz_b1 : hI.size ≤ b1 := Nat.le_trans K0.1 (Nat.le_of_eq g1.symm)
  have Z1 : n0 ≤ h1.size := Nat.le_trans Z0 E1.1
  have K1 : Keep hI h1 [] := K0.ext E1
  have V1 : AV Z h1 b1 .byte n (fun _ => (.int (0 : Int32))) := AV.new A1 (Int32.toInt_ofNat_of_lt (by omega))
  refine Go.step (st1) ?_
  show Go _ _ _ _ _ _ _ T1 (mkF m 3 #[.val (.long (Int64.ofNat M)), .second, .val (.int (Int32.ofNat n)), .unset, .unset, .unset, .unset] [(.ref b1)])
  refine Go.step (fun tt kk => XS.astoreN X1.here hx rfl (hb hby d1_3) rfl rfl (l' := #[.val (.long (Int64.ofNat M)), .second, .val (.int (Int32.ofNat n)), .val (.ref b1), .unset, .unset, .unset]) rfl kk) ?_
  show Go _ _ _ _ _ _ _ T1 (mkF m 4 #[.val (.long (Int64.ofNat M)), .second, .val (.int (Int32.ofNat n)), .val (.ref b1), .unset, .unset, .unset] [])
  refine Go.step (fun tt kk => XS.lloadN X1.here hx rfl (hb hby d1_4) rfl kk) ?_
  show Go _ _ _ _ _ _ _ T1 (mkF m 5 #[.val (.long (Int64.ofNat M)), .second, .val (.int (Int32.ofNat n)), .val (.ref b1), .unset, .unset, .unset] [(.long (Int64.ofNat M))])
  refine Go.step (fun tt kk => XS.lstore X1.here hx rfl (hb hby d1_5) rfl (l' := #[.val (.long (Int64.ofNat M)), .second, .val (.int (Int32.ofNat n)), .val (.ref b1), .val (.long (Int64.ofNat M)), .second, .unset]) rfl kk) ?_
  show Go _ _ _ _ _ _ _ T1 (mkF m 7 #[.val (.long (Int64.ofNat M)), .second, .val (.int (Int32.ofNat n)), .val (.ref b1), .val (.long (Int64.ofNat M)), .second, .unset] [])
  refine Go.step (fun tt kk => XS.iloadN X1.here hx rfl (hb hby d1_7) rfl kk) ?_
  show Go _ _ _ _ _ _ _ T1 (mkF m 8 #[.val (.long (Int64.ofNat M)), .second, .val (.int (Int32.ofNat n)), .val (.ref b1), .val (.long (Int64.ofNat M)), .second, .unset] [(.int (Int32.ofNat n))])
  refine Go.step (fun tt kk => XS.iconst X1.here hx rfl (hb hby d1_8) kk) ?_
  show Go _ _ _ _ _ _ _ T1 (mkF m 9 #[.val (.long (Int64.ofNat M)), .second, .val (.int (Int32.ofNat n)), .val (.ref b1), .val (.long (Int64.ofNat M)), .second, .unset] [(.int (1 : Int32)), (.int (Int32.ofNat n))])
  refine Go.step (fun tt kk => XS.isub X1.here hx rfl (hb hby d1_9) rfl kk) ?_
  show Go _ _ _ _ _ _ _ T1 (mkF m 10 #[.val (.long (Int64.ofNat M)), .second, .val (.int (Int32.ofNat n)), .val (.ref b1), .val (.long (Int64.ofNat M)), .second, .unset] [(.int ((Int32.ofNat n) - (1 : Int32)))])
  refine Go.step (fun tt kk => XS.istore X1.here hx rfl (hb hby d1_10) rfl (l' := #[.val (.long (Int64.ofNat M)), .second, .val (.int (Int32.ofNat n)), .val (.ref b1), .val (.long (Int64.ofNat M)), .second, .val (.int ((Int32.ofNat n) - (1 : Int32)))]) rfl kk) ?_
  show Go _ _ _ _ _ _ _ T1 (mkF m 12 #[.val (.long (Int64.ofNat M)), .second, .val (.int (Int32.ofNat n)), .val (.ref b1), .val (.long (Int64.ofNat M)), .second, .val (.int ((Int32.ofNat n) - (1 : Int32)))] [])
  have lp12 : ∀ (u : Nat) (fl : Nat → Value) (T12_lp : State) (lc12_lp : List Loc) (hh12_lp : Heap) (X12_lp : Stand p l e ({ frames := 0, cells := 1, slots := 19, locals := 0 } : Room) s m #[(.long (Int64.ofNat M)), (.int (Int32.ofNat n))] below meth c T12_lp lc12_lp 1 19) (e12_lp : T12_lp.heap = hh12_lp) (N12_lp : Fr n0 lc12_lp) (Z12_lp : n0 ≤ hh12_lp.size) (K12_lp : Keep hI hh12_lp []) (f12_lp_0 : AV Z hh12_lp b1 .byte n fl) (htn : u ≤ n) (hfl : ∀ j, u ≤ j → j < n → fl j = .int (dg (M / 10 ^ (n - 1 - j) % 10))),
      Go p e s below 1 19 (fun v h L => ∃ b, v = some (.ref b) ∧ Fr n0 L ∧ Keep h0 h [] ∧ h0.size ≤ b ∧ AV Z h b .byte n (fun j => .int (dg (M / 10 ^ (n - 1 - j) % 10)))) T12_lp (mkF m 12 #[.val (.long (Int64.ofNat M)), .second, .val (.int (Int32.ofNat n)), .val (.ref b1), .val (.long (Int64.ofNat (M / 10 ^ (n - u)))), .second, .val (.int (Int32.ofNat u - (1 : Int32)))] []) := by
    intro u
    induction u with
    | zero =>
      intro fl T12_lp lc12_lp hh12_lp X12_lp e12_lp N12_lp Z12_lp K12_lp f12_lp_0 htn hfl
      show Go _ _ _ _ _ _ _ T12_lp (mkF m 12 #[.val (.long (Int64.ofNat M)), .second, .val (.int (Int32.ofNat n)), .val (.ref b1), .val (.long (Int64.ofNat (M / 10 ^ (n - 0)))), .second, .val (.int (Int32.ofNat 0 - (1 : Int32)))] [])
      refine Go.step (fun tt kk => XS.iload X12_lp.here hx rfl (hb hby d1_12) rfl kk) ?_
      show Go _ _ _ _ _ _ _ T12_lp (mkF m 14 #[.val (.long (Int64.ofNat M)), .second, .val (.int (Int32.ofNat n)), .val (.ref b1), .val (.long (Int64.ofNat (M / 10 ^ (n - 0)))), .second, .val (.int (Int32.ofNat 0 - (1 : Int32)))] [(.int (Int32.ofNat 0 - (1 : Int32)))])
      refine Go.step (fun tt kk => XS.ifYes X12_lp.here hx rfl (pc0 := 14) (pc' := 47) rfl (hb hby d1_14) rfl ((if0 _ _).trans (tlt ((own_lt0 0 (by omega)).mpr rfl)).1) (by decide) (by decide) kk) ?_
      show Go _ _ _ _ _ _ _ T12_lp (mkF m 47 #[.val (.long (Int64.ofNat M)), .second, .val (.int (Int32.ofNat n)), .val (.ref b1), .val (.long (Int64.ofNat (M / 10 ^ (n - 0)))), .second, .val (.int (Int32.ofNat 0 - (1 : Int32)))] [])
      refine Go.step (fun tt kk => XS.aloadN X12_lp.here hx rfl (hb hby d1_47) rfl rfl kk) ?_
      show Go _ _ _ _ _ _ _ T12_lp (mkF m 48 #[.val (.long (Int64.ofNat M)), .second, .val (.int (Int32.ofNat n)), .val (.ref b1), .val (.long (Int64.ofNat (M / 10 ^ (n - 0)))), .second, .val (.int (Int32.ofNat 0 - (1 : Int32)))] [(.ref b1)])
      refine go_retA X12_lp hx (t := (.array .byte)) hret rfl hlk rfl (hb hby d1_48) ?_ (by decide) (by decide)
      try rw [e12_lp]
      exact ⟨b1, rfl, N12_lp, eI ▸ K12_lp, eI ▸ sz_b1, f12_lp_0.congr fun j hj => hfl j (Nat.zero_le _) hj⟩
    | succ u ih =>
      intro fl T12_lp lc12_lp hh12_lp X12_lp e12_lp N12_lp Z12_lp K12_lp f12_lp_0 htn hfl
      show Go _ _ _ _ _ _ _ T12_lp (mkF m 12 #[.val (.long (Int64.ofNat M)), .second, .val (.int (Int32.ofNat n)), .val (.ref b1), .val (.long (Int64.ofNat (M / 10 ^ (n - (u + 1))))), .second, .val (.int (Int32.ofNat (u + 1) - (1 : Int32)))] [])
      refine Go.step (fun tt kk => XS.iload X12_lp.here hx rfl (hb hby d1_12) rfl kk) ?_
      show Go _ _ _ _ _ _ _ T12_lp (mkF m 14 #[.val (.long (Int64.ofNat M)), .second, .val (.int (Int32.ofNat n)), .val (.ref b1), .val (.long (Int64.ofNat (M / 10 ^ (n - (u + 1))))), .second, .val (.int (Int32.ofNat (u + 1) - (1 : Int32)))] [(.int (Int32.ofNat (u + 1) - (1 : Int32)))])
      refine Go.step (fun tt kk => XS.ifNo X12_lp.here hx rfl (hb hby d1_14) rfl ((if0 _ _).trans (flt (mt (own_lt0 (u + 1) (by omega)).mp (by omega))).1) kk) ?_
      show Go _ _ _ _ _ _ _ T12_lp (mkF m 17 #[.val (.long (Int64.ofNat M)), .second, .val (.int (Int32.ofNat n)), .val (.ref b1), .val (.long (Int64.ofNat (M / 10 ^ (n - (u + 1))))), .second, .val (.int (Int32.ofNat (u + 1) - (1 : Int32)))] [])
      rw [own_pred u (by omega)]
      show Go _ _ _ _ _ _ _ T12_lp (mkF m 17 #[.val (.long (Int64.ofNat M)), .second, .val (.int (Int32.ofNat n)), .val (.ref b1), .val (.long (Int64.ofNat (M / 10 ^ (n - (u + 1))))), .second, .val (.int (Int32.ofNat u))] [])
      refine Go.step (fun tt kk => XS.aloadN X12_lp.here hx rfl (hb hby d1_17) rfl rfl kk) ?_
      show Go _ _ _ _ _ _ _ T12_lp (mkF m 18 #[.val (.long (Int64.ofNat M)), .second, .val (.int (Int32.ofNat n)), .val (.ref b1), .val (.long (Int64.ofNat (M / 10 ^ (n - (u + 1))))), .second, .val (.int (Int32.ofNat u))] [(.ref b1)])
      refine Go.step (fun tt kk => XS.iload X12_lp.here hx rfl (hb hby d1_18) rfl kk) ?_
      show Go _ _ _ _ _ _ _ T12_lp (mkF m 20 #[.val (.long (Int64.ofNat M)), .second, .val (.int (Int32.ofNat n)), .val (.ref b1), .val (.long (Int64.ofNat (M / 10 ^ (n - (u + 1))))), .second, .val (.int (Int32.ofNat u))] [(.int (Int32.ofNat u)), (.ref b1)])
      refine Go.step (X12_lp.ldc2Long hx hown (mvT hZ (hw _ (List.mem_of_getElem? (i := 26) rfl))) (g := (mkF m 20 #[.val (.long (Int64.ofNat M)), .second, .val (.int (Int32.ofNat n)), .val (.ref b1), .val (.long (Int64.ofNat (M / 10 ^ (n - (u + 1))))), .second, .val (.int (Int32.ofNat u))] [(.int (Int32.ofNat u)), (.ref b1)])) rfl (hb hby d1_20)) ?_
      show Go _ _ _ _ _ _ _ T12_lp (mkF m 23 #[.val (.long (Int64.ofNat M)), .second, .val (.int (Int32.ofNat n)), .val (.ref b1), .val (.long (Int64.ofNat (M / 10 ^ (n - (u + 1))))), .second, .val (.int (Int32.ofNat u))] [(.long (48 : Int64)), (.int (Int32.ofNat u)), (.ref b1)])
      refine Go.step (fun tt kk => XS.lload X12_lp.here hx rfl (hb hby d1_23) rfl kk) ?_
      show Go _ _ _ _ _ _ _ T12_lp (mkF m 25 #[.val (.long (Int64.ofNat M)), .second, .val (.int (Int32.ofNat n)), .val (.ref b1), .val (.long (Int64.ofNat (M / 10 ^ (n - (u + 1))))), .second, .val (.int (Int32.ofNat u))] [(.long (Int64.ofNat (M / 10 ^ (n - (u + 1))))), (.long (48 : Int64)), (.int (Int32.ofNat u)), (.ref b1)])
      refine Go.step (X12_lp.ldc2Long hx hown (mvT hZ (hw _ (List.mem_of_getElem? (i := 27) rfl))) (g := (mkF m 25 #[.val (.long (Int64.ofNat M)), .second, .val (.int (Int32.ofNat n)), .val (.ref b1), .val (.long (Int64.ofNat (M / 10 ^ (n - (u + 1))))), .second, .val (.int (Int32.ofNat u))] [(.long (Int64.ofNat (M / 10 ^ (n - (u + 1))))), (.long (48 : Int64)), (.int (Int32.ofNat u)), (.ref b1)])) rfl (hb hby d1_25)) ?_
      show Go _ _ _ _ _ _ _ T12_lp (mkF m 28 #[.val (.long (Int64.ofNat M)), .second, .val (.int (Int32.ofNat n)), .val (.ref b1), .val (.long (Int64.ofNat (M / 10 ^ (n - (u + 1))))), .second, .val (.int (Int32.ofNat u))] [(.long (10 : Int64)), (.long (Int64.ofNat (M / 10 ^ (n - (u + 1))))), (.long (48 : Int64)), (.int (Int32.ofNat u)), (.ref b1)])
      refine Go.step (fun tt kk => XS.lrem X12_lp.here hx rfl (hb hby d1_28) rfl (by decide) (by rw [lrem_mod]; exact kk)) ?_
      show Go _ _ _ _ _ _ _ T12_lp (mkF m 29 #[.val (.long (Int64.ofNat M)), .second, .val (.int (Int32.ofNat n)), .val (.ref b1), .val (.long (Int64.ofNat (M / 10 ^ (n - (u + 1))))), .second, .val (.int (Int32.ofNat u))] [(.long ((Int64.ofNat (M / 10 ^ (n - (u + 1)))) % (10 : Int64))), (.long (48 : Int64)), (.int (Int32.ofNat u)), (.ref b1)])
      rw [show (Int64.ofNat (M / 10 ^ (n - (u + 1))) % (10 : Int64)) = Int64.ofNat (M / 10 ^ (n - (u + 1)) % 10) from own_lrem (Nat.lt_of_le_of_lt (Nat.div_le_self _ _) hM) (by decide)]
      show Go _ _ _ _ _ _ _ T12_lp (mkF m 29 #[.val (.long (Int64.ofNat M)), .second, .val (.int (Int32.ofNat n)), .val (.ref b1), .val (.long (Int64.ofNat (M / 10 ^ (n - (u + 1))))), .second, .val (.int (Int32.ofNat u))] [(.long (Int64.ofNat (M / 10 ^ (n - (u + 1)) % 10))), (.long (48 : Int64)), (.int (Int32.ofNat u)), (.ref b1)])
      refine Go.step (fun tt kk => XS.ladd X12_lp.here hx rfl (hb hby d1_29) rfl kk) ?_
      show Go _ _ _ _ _ _ _ T12_lp (mkF m 30 #[.val (.long (Int64.ofNat M)), .second, .val (.int (Int32.ofNat n)), .val (.ref b1), .val (.long (Int64.ofNat (M / 10 ^ (n - (u + 1))))), .second, .val (.int (Int32.ofNat u))] [(.long ((48 : Int64) + (Int64.ofNat (M / 10 ^ (n - (u + 1)) % 10)))), (.int (Int32.ofNat u)), (.ref b1)])
      refine Go.step (fun tt kk => XS.l2i X12_lp.here hx rfl (hb hby d1_30) rfl kk) ?_
      show Go _ _ _ _ _ _ _ T12_lp (mkF m 31 #[.val (.long (Int64.ofNat M)), .second, .val (.int (Int32.ofNat n)), .val (.ref b1), .val (.long (Int64.ofNat (M / 10 ^ (n - (u + 1))))), .second, .val (.int (Int32.ofNat u))] [(.int (((48 : Int64) + (Int64.ofNat (M / 10 ^ (n - (u + 1)) % 10))).toInt32)), (.int (Int32.ofNat u)), (.ref b1)])
      refine Go.step (fun tt kk => XS.i2b X12_lp.here hx rfl (hb hby d1_31) rfl kk) ?_
      show Go _ _ _ _ _ _ _ T12_lp (mkF m 32 #[.val (.long (Int64.ofNat M)), .second, .val (.int (Int32.ofNat n)), .val (.ref b1), .val (.long (Int64.ofNat (M / 10 ^ (n - (u + 1))))), .second, .val (.int (Int32.ofNat u))] [(.int ((((48 : Int64) + (Int64.ofNat (M / 10 ^ (n - (u + 1)) % 10))).toInt32).toInt8.toInt32)), (.int (Int32.ofNat u)), (.ref b1)])
      show Go _ _ _ _ _ _ _ T12_lp (mkF m 32 #[.val (.long (Int64.ofNat M)), .second, .val (.int (Int32.ofNat n)), .val (.ref b1), .val (.long (Int64.ofNat (M / 10 ^ (n - (u + 1))))), .second, .val (.int (Int32.ofNat u))] [(.int (dg (M / 10 ^ (n - (u + 1)) % 10))), (.int (Int32.ofNat u)), (.ref b1)])
      obtain ⟨cl2, Ar2, hin2, -⟩ := f12_lp_0.at (j := (Int32.ofNat u)) (k := u) (Int32.toInt_ofNat_of_lt (by omega)) (by omega)
      obtain ⟨T2, h2, X2, e2, W2, st2⟩ := stB X12_lp hx hZ e12_lp Ar2 (j := (Int32.ofNat u)) hin2 (g := (mkF m 32 #[.val (.long (Int64.ofNat M)), .second, .val (.int (Int32.ofNat n)), .val (.ref b1), .val (.long (Int64.ofNat (M / 10 ^ (n - (u + 1))))), .second, .val (.int (Int32.ofNat u))] [(.int (dg (M / 10 ^ (n - (u + 1)) % 10))), (.int (Int32.ofNat u)), (.ref b1)])) rfl rfl (hb hby d1_32)
      rw [own_dg] at W2
      have V2 : AV Z h2 b1 .byte n (upd fl u (.int (dg (M / 10 ^ (n - (u + 1)) % 10)))) := AV.set f12_lp_0 (k := u) (Int32.toInt_ofNat_of_lt (by omega)) (by omega) W2
      have N2 := Fr.snoc X2 N12_lp gn_b1
      have Z2 : n0 ≤ h2.size := Nat.le_trans Z12_lp (Keep.of_wr W2).1
      have K2 : Keep hI h2 [] := K12_lp.wr W2 (Or.inr sz_b1)
      refine Go.step (st2) ?_
      show Go _ _ _ _ _ _ _ T2 (mkF m 33 #[.val (.long (Int64.ofNat M)), .second, .val (.int (Int32.ofNat n)), .val (.ref b1), .val (.long (Int64.ofNat (M / 10 ^ (n - (u + 1))))), .second, .val (.int (Int32.ofNat u))] [])
      refine Go.step (fun tt kk => XS.lload X2.here hx rfl (hb hby d1_33) rfl kk) ?_
      show Go _ _ _ _ _ _ _ T2 (mkF m 35 #[.val (.long (Int64.ofNat M)), .second, .val (.int (Int32.ofNat n)), .val (.ref b1), .val (.long (Int64.ofNat (M / 10 ^ (n - (u + 1))))), .second, .val (.int (Int32.ofNat u))] [(.long (Int64.ofNat (M / 10 ^ (n - (u + 1)))))])
      refine Go.step (X2.ldc2Long hx hown (mvT hZ (hw _ (List.mem_of_getElem? (i := 27) rfl))) (g := (mkF m 35 #[.val (.long (Int64.ofNat M)), .second, .val (.int (Int32.ofNat n)), .val (.ref b1), .val (.long (Int64.ofNat (M / 10 ^ (n - (u + 1))))), .second, .val (.int (Int32.ofNat u))] [(.long (Int64.ofNat (M / 10 ^ (n - (u + 1)))))])) rfl (hb hby d1_35)) ?_
      show Go _ _ _ _ _ _ _ T2 (mkF m 38 #[.val (.long (Int64.ofNat M)), .second, .val (.int (Int32.ofNat n)), .val (.ref b1), .val (.long (Int64.ofNat (M / 10 ^ (n - (u + 1))))), .second, .val (.int (Int32.ofNat u))] [(.long (10 : Int64)), (.long (Int64.ofNat (M / 10 ^ (n - (u + 1)))))])
      refine Go.step (fun tt kk => XS.ldiv X2.here hx rfl (hb hby d1_38) rfl (by decide) kk) ?_
      show Go _ _ _ _ _ _ _ T2 (mkF m 39 #[.val (.long (Int64.ofNat M)), .second, .val (.int (Int32.ofNat n)), .val (.ref b1), .val (.long (Int64.ofNat (M / 10 ^ (n - (u + 1))))), .second, .val (.int (Int32.ofNat u))] [(.long ((Int64.ofNat (M / 10 ^ (n - (u + 1)))) / (10 : Int64)))])
      rw [show (Int64.ofNat (M / 10 ^ (n - (u + 1))) / (10 : Int64)) = Int64.ofNat (M / 10 ^ (n - u)) from (own_ldiv (Nat.lt_of_le_of_lt (Nat.div_le_self _ _) hM) (by decide)).trans (by rw [own_div10, show n - (u + 1) + 1 = n - u by omega])]
      show Go _ _ _ _ _ _ _ T2 (mkF m 39 #[.val (.long (Int64.ofNat M)), .second, .val (.int (Int32.ofNat n)), .val (.ref b1), .val (.long (Int64.ofNat (M / 10 ^ (n - (u + 1))))), .second, .val (.int (Int32.ofNat u))] [(.long (Int64.ofNat (M / 10 ^ (n - u))))])
      refine Go.step (fun tt kk => XS.lstore X2.here hx rfl (hb hby d1_39) rfl (l' := #[.val (.long (Int64.ofNat M)), .second, .val (.int (Int32.ofNat n)), .val (.ref b1), .val (.long (Int64.ofNat (M / 10 ^ (n - u)))), .second, .val (.int (Int32.ofNat u))]) rfl kk) ?_
      show Go _ _ _ _ _ _ _ T2 (mkF m 41 #[.val (.long (Int64.ofNat M)), .second, .val (.int (Int32.ofNat n)), .val (.ref b1), .val (.long (Int64.ofNat (M / 10 ^ (n - u)))), .second, .val (.int (Int32.ofNat u))] [])
      refine Go.step (fun tt kk => XS.iinc X2.here hx rfl (hb hby d1_41) rfl (l' := #[.val (.long (Int64.ofNat M)), .second, .val (.int (Int32.ofNat n)), .val (.ref b1), .val (.long (Int64.ofNat (M / 10 ^ (n - u)))), .second, .val (.int ((Int32.ofNat u) + (-1 : Int32)))]) rfl kk) ?_
      show Go _ _ _ _ _ _ _ T2 (mkF m 44 #[.val (.long (Int64.ofNat M)), .second, .val (.int (Int32.ofNat n)), .val (.ref b1), .val (.long (Int64.ofNat (M / 10 ^ (n - u)))), .second, .val (.int ((Int32.ofNat u) + (-1 : Int32)))] [])
      rw [own_step]
      show Go _ _ _ _ _ _ _ T2 (mkF m 44 #[.val (.long (Int64.ofNat M)), .second, .val (.int (Int32.ofNat n)), .val (.ref b1), .val (.long (Int64.ofNat (M / 10 ^ (n - u)))), .second, .val (.int (Int32.ofNat u - (1 : Int32)))] [])
      refine Go.step (fun tt kk => XS.goto X2.here hx rfl (pc0 := 44) (pc' := 12) rfl (hb hby d1_44) (by decide) (by decide) kk) ?_
      show Go _ _ _ _ _ _ _ T2 (mkF m 12 #[.val (.long (Int64.ofNat M)), .second, .val (.int (Int32.ofNat n)), .val (.ref b1), .val (.long (Int64.ofNat (M / 10 ^ (n - u)))), .second, .val (.int (Int32.ofNat u - (1 : Int32)))] [])
      exact ih _ _ _ _ (X2.more (by decide) (by decide)) e2 N2 Z2 K2 V2 (by omega) (fun j h1 h2 => by
            by_cases q : j = u
            · subst q; rw [show n - 1 - j = n - (j + 1) by omega]; exact upd_eq
            · exact (upd_ne q).trans (hfl j (by omega) h2))
  have qlp12 := lp12 n _ _ _ _ (X1.more (by decide) (by decide)) e1 N0 Z1 K1 V1 (Nat.le_refl _) (fun j h1 h2 => absurd h1 (by omega))
  rw [Nat.sub_self, Nat.pow_zero, Nat.div_one] at qlp12
  exact qlp12
theorem ef_rm0 (m : MethodId) (x0 : Int64) (x1 : Int32) (x2 : Int32) : entryFrame m #[(.long x0), (.int x1), (.int x2)] maxLocals = mkF m 0 #[.val (.long x0), .second, .val (.int x1), .val (.int x2), .unset, .unset, .unset, .unset, .unset, .unset, .unset, .unset] [] := by first | (simp [entryFrame, mkF, argsToLocals, Value.category, maxLocals]; done) | rfl
theorem pn_1 : plainName "com/example/satzbau/satzbau/formats/transport/TransportLayoutZeroPaddedPinLaw" = true := by first | (simp [plainName, overriddenIn]; done) | decide +kernel
theorem pd_0 : parseMethodDescriptor "(JI)[B" = some ⟨[.long, .int], some (.array .byte)⟩ := by decide +kernel
set_option maxRecDepth 65536 in
set_option maxHeartbeats 40000000 in
theorem rm0 (l : Launch) (Z : State) (a0 : Array Value) (hw : ∀ d ∈ tables_1, d.before a0 Z = true) (ws : List Jvm.Cond) (i0 : Int64) (i1 i2 : Int32) (h0 : Heap) (n0 : Nat) (Z0 : n0 ≤ h0.size)  :
    Ctr l Z x code maxLocals ret ws room_1 16 192 #[(.long i0), (.int i1), (.int i2)] h0 (fun v h L => v = some (.int (1 : Int32)) ∧ Fr n0 L) := by
  refine Ctr.mk (plainFor_of_name pn_1) fun p e s m below meth c T0 X0 C e0 => go_cast (ef_rm0 m i0 i1 i2) ?_
  have N0 := Fr.nil n0
  obtain ⟨hx, hZ, hby, hml, hown, hnm, hret, hlk⟩ := C
  show Go _ _ _ _ _ _ _ T0 (mkF m 0 #[.val (.long i0), .second, .val (.int i1), .val (.int i2), .unset, .unset, .unset, .unset, .unset, .unset, .unset, .unset] [])
  refine Go.step (fun tt kk => XS.bipush X0.here hx rfl (hb hby at_0) kk) ?_
  show Go _ _ _ _ _ _ _ T0 (mkF m 2 #[.val (.long i0), .second, .val (.int i1), .val (.int i2), .unset, .unset, .unset, .unset, .unset, .unset, .unset, .unset] [(.int (19 : Int32))])
  obtain ⟨T1, h1, k1, X1, e1, E1, A1, EA1, st1⟩ := newPE X0 hx hZ (hw _ (List.mem_of_getElem? (i := 0) rfl)) e0 (g := (mkF m 2 #[.val (.long i0), .second, .val (.int i1), .val (.int i2), .unset, .unset, .unset, .unset, .unset, .unset, .unset, .unset] [(.int (19 : Int32))])) rfl (hb hby at_2) rfl (by decide) (cap := 19) (by decide) (by decide) (by decide) (by decide) (ad := "[J") rfl
  obtain ⟨b1, g1⟩ : ∃ z, z = h0.size := ⟨_, rfl⟩
  rw [← g1] at A1 EA1 st1
  have gn_b1 : n0 ≤ b1 := Nat.le_trans Z0 (Nat.le_of_eq g1.symm)
  have Z1 : n0 ≤ h1.size := Nat.le_trans Z0 E1.1
  have V1 : AV Z h1 b1 .long 19 (lst [(.long (0 : Int64)), (.long (0 : Int64)), (.long (0 : Int64)), (.long (0 : Int64)), (.long (0 : Int64)), (.long (0 : Int64)), (.long (0 : Int64)), (.long (0 : Int64)), (.long (0 : Int64)), (.long (0 : Int64)), (.long (0 : Int64)), (.long (0 : Int64)), (.long (0 : Int64)), (.long (0 : Int64)), (.long (0 : Int64)), (.long (0 : Int64)), (.long (0 : Int64)), (.long (0 : Int64)), (.long (0 : Int64))]) := AV.newL (AV.new A1 (by decide)) rfl
  refine Go.step (st1) ?_
  show Go _ _ _ _ _ _ _ T1 (mkF m 4 #[.val (.long i0), .second, .val (.int i1), .val (.int i2), .unset, .unset, .unset, .unset, .unset, .unset, .unset, .unset] [(.ref b1)])
  refine Go.step (fun tt kk => XS.dup X1.here hx rfl (hb hby at_4) rfl rfl kk) ?_
  show Go _ _ _ _ _ _ _ T1 (mkF m 5 #[.val (.long i0), .second, .val (.int i1), .val (.int i2), .unset, .unset, .unset, .unset, .unset, .unset, .unset, .unset] [(.ref b1), (.ref b1)])
  refine Go.step (fun tt kk => XS.iconst X1.here hx rfl (hb hby at_5) kk) ?_
  show Go _ _ _ _ _ _ _ T1 (mkF m 6 #[.val (.long i0), .second, .val (.int i1), .val (.int i2), .unset, .unset, .unset, .unset, .unset, .unset, .unset, .unset] [(.int (0 : Int32)), (.ref b1), (.ref b1)])
  refine Go.step (fun tt kk => XS.lconst X1.here hx rfl (hb hby at_6) kk) ?_
  show Go _ _ _ _ _ _ _ T1 (mkF m 7 #[.val (.long i0), .second, .val (.int i1), .val (.int i2), .unset, .unset, .unset, .unset, .unset, .unset, .unset, .unset] [(.long (1 : Int64)), (.int (0 : Int32)), (.ref b1), (.ref b1)])
  obtain ⟨cl2, Ar2, hin2, -⟩ := V1.at (j := (0 : Int32)) (k := 0) (by decide) (by decide)
  obtain ⟨T2, h2, X2, e2, W2, st2⟩ := stJ X1 hx hZ e1 Ar2 (j := (0 : Int32)) hin2 (g := (mkF m 7 #[.val (.long i0), .second, .val (.int i1), .val (.int i2), .unset, .unset, .unset, .unset, .unset, .unset, .unset, .unset] [(.long (1 : Int64)), (.int (0 : Int32)), (.ref b1), (.ref b1)])) rfl rfl (hb hby at_7)
  have V2 : AV Z h2 b1 .long 19 (lst [(.long (1 : Int64)), (.long (0 : Int64)), (.long (0 : Int64)), (.long (0 : Int64)), (.long (0 : Int64)), (.long (0 : Int64)), (.long (0 : Int64)), (.long (0 : Int64)), (.long (0 : Int64)), (.long (0 : Int64)), (.long (0 : Int64)), (.long (0 : Int64)), (.long (0 : Int64)), (.long (0 : Int64)), (.long (0 : Int64)), (.long (0 : Int64)), (.long (0 : Int64)), (.long (0 : Int64)), (.long (0 : Int64))]) := AV.setL V1 (k := 0) (by decide) (by decide) W2 (Nat.le_of_ble_eq_true rfl) rfl
  have N2 := Fr.snoc X2 N0 gn_b1
  have Z2 : n0 ≤ h2.size := Nat.le_trans Z1 (Keep.of_wr W2).1
  refine Go.step (st2) ?_
  show Go _ _ _ _ _ _ _ T2 (mkF m 8 #[.val (.long i0), .second, .val (.int i1), .val (.int i2), .unset, .unset, .unset, .unset, .unset, .unset, .unset, .unset] [(.ref b1)])
  refine Go.step (fun tt kk => XS.dup X2.here hx rfl (hb hby at_8) rfl rfl kk) ?_
  show Go _ _ _ _ _ _ _ T2 (mkF m 9 #[.val (.long i0), .second, .val (.int i1), .val (.int i2), .unset, .unset, .unset, .unset, .unset, .unset, .unset, .unset] [(.ref b1), (.ref b1)])
  refine Go.step (fun tt kk => XS.iconst X2.here hx rfl (hb hby at_9) kk) ?_
  show Go _ _ _ _ _ _ _ T2 (mkF m 10 #[.val (.long i0), .second, .val (.int i1), .val (.int i2), .unset, .unset, .unset, .unset, .unset, .unset, .unset, .unset] [(.int (1 : Int32)), (.ref b1), (.ref b1)])
  refine Go.step (X2.ldc2Long hx hown (mvT hZ (hw _ (List.mem_of_getElem? (i := 1) rfl))) (g := (mkF m 10 #[.val (.long i0), .second, .val (.int i1), .val (.int i2), .unset, .unset, .unset, .unset, .unset, .unset, .unset, .unset] [(.int (1 : Int32)), (.ref b1), (.ref b1)])) rfl (hb hby at_10)) ?_
  show Go _ _ _ _ _ _ _ T2 (mkF m 13 #[.val (.long i0), .second, .val (.int i1), .val (.int i2), .unset, .unset, .unset, .unset, .unset, .unset, .unset, .unset] [(.long (10 : Int64)), (.int (1 : Int32)), (.ref b1), (.ref b1)])
  obtain ⟨cl3, Ar3, hin3, -⟩ := V2.at (j := (1 : Int32)) (k := 1) (by decide) (by decide)
  obtain ⟨T3, h3, X3, e3, W3, st3⟩ := stJ X2 hx hZ e2 Ar3 (j := (1 : Int32)) hin3 (g := (mkF m 13 #[.val (.long i0), .second, .val (.int i1), .val (.int i2), .unset, .unset, .unset, .unset, .unset, .unset, .unset, .unset] [(.long (10 : Int64)), (.int (1 : Int32)), (.ref b1), (.ref b1)])) rfl rfl (hb hby at_13)
  have V3 : AV Z h3 b1 .long 19 (lst [(.long (1 : Int64)), (.long (10 : Int64)), (.long (0 : Int64)), (.long (0 : Int64)), (.long (0 : Int64)), (.long (0 : Int64)), (.long (0 : Int64)), (.long (0 : Int64)), (.long (0 : Int64)), (.long (0 : Int64)), (.long (0 : Int64)), (.long (0 : Int64)), (.long (0 : Int64)), (.long (0 : Int64)), (.long (0 : Int64)), (.long (0 : Int64)), (.long (0 : Int64)), (.long (0 : Int64)), (.long (0 : Int64))]) := AV.setL V2 (k := 1) (by decide) (by decide) W3 (Nat.le_of_ble_eq_true rfl) rfl
  have N3 := Fr.snoc X3 N2 gn_b1
  have Z3 : n0 ≤ h3.size := Nat.le_trans Z2 (Keep.of_wr W3).1
  refine Go.step (st3) ?_
  show Go _ _ _ _ _ _ _ T3 (mkF m 14 #[.val (.long i0), .second, .val (.int i1), .val (.int i2), .unset, .unset, .unset, .unset, .unset, .unset, .unset, .unset] [(.ref b1)])
  refine Go.step (fun tt kk => XS.dup X3.here hx rfl (hb hby at_14) rfl rfl kk) ?_
  show Go _ _ _ _ _ _ _ T3 (mkF m 15 #[.val (.long i0), .second, .val (.int i1), .val (.int i2), .unset, .unset, .unset, .unset, .unset, .unset, .unset, .unset] [(.ref b1), (.ref b1)])
  refine Go.step (fun tt kk => XS.iconst X3.here hx rfl (hb hby at_15) kk) ?_
  show Go _ _ _ _ _ _ _ T3 (mkF m 16 #[.val (.long i0), .second, .val (.int i1), .val (.int i2), .unset, .unset, .unset, .unset, .unset, .unset, .unset, .unset] [(.int (2 : Int32)), (.ref b1), (.ref b1)])
  refine Go.step (X3.ldc2Long hx hown (mvT hZ (hw _ (List.mem_of_getElem? (i := 2) rfl))) (g := (mkF m 16 #[.val (.long i0), .second, .val (.int i1), .val (.int i2), .unset, .unset, .unset, .unset, .unset, .unset, .unset, .unset] [(.int (2 : Int32)), (.ref b1), (.ref b1)])) rfl (hb hby at_16)) ?_
  show Go _ _ _ _ _ _ _ T3 (mkF m 19 #[.val (.long i0), .second, .val (.int i1), .val (.int i2), .unset, .unset, .unset, .unset, .unset, .unset, .unset, .unset] [(.long (100 : Int64)), (.int (2 : Int32)), (.ref b1), (.ref b1)])
  obtain ⟨cl4, Ar4, hin4, -⟩ := V3.at (j := (2 : Int32)) (k := 2) (by decide) (by decide)
  obtain ⟨T4, h4, X4, e4, W4, st4⟩ := stJ X3 hx hZ e3 Ar4 (j := (2 : Int32)) hin4 (g := (mkF m 19 #[.val (.long i0), .second, .val (.int i1), .val (.int i2), .unset, .unset, .unset, .unset, .unset, .unset, .unset, .unset] [(.long (100 : Int64)), (.int (2 : Int32)), (.ref b1), (.ref b1)])) rfl rfl (hb hby at_19)
  have V4 : AV Z h4 b1 .long 19 (lst [(.long (1 : Int64)), (.long (10 : Int64)), (.long (100 : Int64)), (.long (0 : Int64)), (.long (0 : Int64)), (.long (0 : Int64)), (.long (0 : Int64)), (.long (0 : Int64)), (.long (0 : Int64)), (.long (0 : Int64)), (.long (0 : Int64)), (.long (0 : Int64)), (.long (0 : Int64)), (.long (0 : Int64)), (.long (0 : Int64)), (.long (0 : Int64)), (.long (0 : Int64)), (.long (0 : Int64)), (.long (0 : Int64))]) := AV.setL V3 (k := 2) (by decide) (by decide) W4 (Nat.le_of_ble_eq_true rfl) rfl
  have N4 := Fr.snoc X4 N3 gn_b1
  have Z4 : n0 ≤ h4.size := Nat.le_trans Z3 (Keep.of_wr W4).1
  refine Go.step (st4) ?_
  show Go _ _ _ _ _ _ _ T4 (mkF m 20 #[.val (.long i0), .second, .val (.int i1), .val (.int i2), .unset, .unset, .unset, .unset, .unset, .unset, .unset, .unset] [(.ref b1)])
  refine Go.step (fun tt kk => XS.dup X4.here hx rfl (hb hby at_20) rfl rfl kk) ?_
  show Go _ _ _ _ _ _ _ T4 (mkF m 21 #[.val (.long i0), .second, .val (.int i1), .val (.int i2), .unset, .unset, .unset, .unset, .unset, .unset, .unset, .unset] [(.ref b1), (.ref b1)])
  refine Go.step (fun tt kk => XS.iconst X4.here hx rfl (hb hby at_21) kk) ?_
  show Go _ _ _ _ _ _ _ T4 (mkF m 22 #[.val (.long i0), .second, .val (.int i1), .val (.int i2), .unset, .unset, .unset, .unset, .unset, .unset, .unset, .unset] [(.int (3 : Int32)), (.ref b1), (.ref b1)])
  refine Go.step (X4.ldc2Long hx hown (mvT hZ (hw _ (List.mem_of_getElem? (i := 3) rfl))) (g := (mkF m 22 #[.val (.long i0), .second, .val (.int i1), .val (.int i2), .unset, .unset, .unset, .unset, .unset, .unset, .unset, .unset] [(.int (3 : Int32)), (.ref b1), (.ref b1)])) rfl (hb hby at_22)) ?_
  show Go _ _ _ _ _ _ _ T4 (mkF m 25 #[.val (.long i0), .second, .val (.int i1), .val (.int i2), .unset, .unset, .unset, .unset, .unset, .unset, .unset, .unset] [(.long (1000 : Int64)), (.int (3 : Int32)), (.ref b1), (.ref b1)])
  obtain ⟨cl5, Ar5, hin5, -⟩ := V4.at (j := (3 : Int32)) (k := 3) (by decide) (by decide)
  obtain ⟨T5, h5, X5, e5, W5, st5⟩ := stJ X4 hx hZ e4 Ar5 (j := (3 : Int32)) hin5 (g := (mkF m 25 #[.val (.long i0), .second, .val (.int i1), .val (.int i2), .unset, .unset, .unset, .unset, .unset, .unset, .unset, .unset] [(.long (1000 : Int64)), (.int (3 : Int32)), (.ref b1), (.ref b1)])) rfl rfl (hb hby at_25)
  have V5 : AV Z h5 b1 .long 19 (lst [(.long (1 : Int64)), (.long (10 : Int64)), (.long (100 : Int64)), (.long (1000 : Int64)), (.long (0 : Int64)), (.long (0 : Int64)), (.long (0 : Int64)), (.long (0 : Int64)), (.long (0 : Int64)), (.long (0 : Int64)), (.long (0 : Int64)), (.long (0 : Int64)), (.long (0 : Int64)), (.long (0 : Int64)), (.long (0 : Int64)), (.long (0 : Int64)), (.long (0 : Int64)), (.long (0 : Int64)), (.long (0 : Int64))]) := AV.setL V4 (k := 3) (by decide) (by decide) W5 (Nat.le_of_ble_eq_true rfl) rfl
  have N5 := Fr.snoc X5 N4 gn_b1
  have Z5 : n0 ≤ h5.size := Nat.le_trans Z4 (Keep.of_wr W5).1
  refine Go.step (st5) ?_
  show Go _ _ _ _ _ _ _ T5 (mkF m 26 #[.val (.long i0), .second, .val (.int i1), .val (.int i2), .unset, .unset, .unset, .unset, .unset, .unset, .unset, .unset] [(.ref b1)])
  refine Go.step (fun tt kk => XS.dup X5.here hx rfl (hb hby at_26) rfl rfl kk) ?_
  show Go _ _ _ _ _ _ _ T5 (mkF m 27 #[.val (.long i0), .second, .val (.int i1), .val (.int i2), .unset, .unset, .unset, .unset, .unset, .unset, .unset, .unset] [(.ref b1), (.ref b1)])
  refine Go.step (fun tt kk => XS.iconst X5.here hx rfl (hb hby at_27) kk) ?_
  show Go _ _ _ _ _ _ _ T5 (mkF m 28 #[.val (.long i0), .second, .val (.int i1), .val (.int i2), .unset, .unset, .unset, .unset, .unset, .unset, .unset, .unset] [(.int (4 : Int32)), (.ref b1), (.ref b1)])
  refine Go.step (X5.ldc2Long hx hown (mvT hZ (hw _ (List.mem_of_getElem? (i := 4) rfl))) (g := (mkF m 28 #[.val (.long i0), .second, .val (.int i1), .val (.int i2), .unset, .unset, .unset, .unset, .unset, .unset, .unset, .unset] [(.int (4 : Int32)), (.ref b1), (.ref b1)])) rfl (hb hby at_28)) ?_
  show Go _ _ _ _ _ _ _ T5 (mkF m 31 #[.val (.long i0), .second, .val (.int i1), .val (.int i2), .unset, .unset, .unset, .unset, .unset, .unset, .unset, .unset] [(.long (10000 : Int64)), (.int (4 : Int32)), (.ref b1), (.ref b1)])
  obtain ⟨cl6, Ar6, hin6, -⟩ := V5.at (j := (4 : Int32)) (k := 4) (by decide) (by decide)
  obtain ⟨T6, h6, X6, e6, W6, st6⟩ := stJ X5 hx hZ e5 Ar6 (j := (4 : Int32)) hin6 (g := (mkF m 31 #[.val (.long i0), .second, .val (.int i1), .val (.int i2), .unset, .unset, .unset, .unset, .unset, .unset, .unset, .unset] [(.long (10000 : Int64)), (.int (4 : Int32)), (.ref b1), (.ref b1)])) rfl rfl (hb hby at_31)
  have V6 : AV Z h6 b1 .long 19 (lst [(.long (1 : Int64)), (.long (10 : Int64)), (.long (100 : Int64)), (.long (1000 : Int64)), (.long (10000 : Int64)), (.long (0 : Int64)), (.long (0 : Int64)), (.long (0 : Int64)), (.long (0 : Int64)), (.long (0 : Int64)), (.long (0 : Int64)), (.long (0 : Int64)), (.long (0 : Int64)), (.long (0 : Int64)), (.long (0 : Int64)), (.long (0 : Int64)), (.long (0 : Int64)), (.long (0 : Int64)), (.long (0 : Int64))]) := AV.setL V5 (k := 4) (by decide) (by decide) W6 (Nat.le_of_ble_eq_true rfl) rfl
  have N6 := Fr.snoc X6 N5 gn_b1
  have Z6 : n0 ≤ h6.size := Nat.le_trans Z5 (Keep.of_wr W6).1
  refine Go.step (st6) ?_
  show Go _ _ _ _ _ _ _ T6 (mkF m 32 #[.val (.long i0), .second, .val (.int i1), .val (.int i2), .unset, .unset, .unset, .unset, .unset, .unset, .unset, .unset] [(.ref b1)])
  refine Go.step (fun tt kk => XS.dup X6.here hx rfl (hb hby at_32) rfl rfl kk) ?_
  show Go _ _ _ _ _ _ _ T6 (mkF m 33 #[.val (.long i0), .second, .val (.int i1), .val (.int i2), .unset, .unset, .unset, .unset, .unset, .unset, .unset, .unset] [(.ref b1), (.ref b1)])
  refine Go.step (fun tt kk => XS.iconst X6.here hx rfl (hb hby at_33) kk) ?_
  show Go _ _ _ _ _ _ _ T6 (mkF m 34 #[.val (.long i0), .second, .val (.int i1), .val (.int i2), .unset, .unset, .unset, .unset, .unset, .unset, .unset, .unset] [(.int (5 : Int32)), (.ref b1), (.ref b1)])
  refine Go.step (X6.ldc2Long hx hown (mvT hZ (hw _ (List.mem_of_getElem? (i := 5) rfl))) (g := (mkF m 34 #[.val (.long i0), .second, .val (.int i1), .val (.int i2), .unset, .unset, .unset, .unset, .unset, .unset, .unset, .unset] [(.int (5 : Int32)), (.ref b1), (.ref b1)])) rfl (hb hby at_34)) ?_
  show Go _ _ _ _ _ _ _ T6 (mkF m 37 #[.val (.long i0), .second, .val (.int i1), .val (.int i2), .unset, .unset, .unset, .unset, .unset, .unset, .unset, .unset] [(.long (100000 : Int64)), (.int (5 : Int32)), (.ref b1), (.ref b1)])
  obtain ⟨cl7, Ar7, hin7, -⟩ := V6.at (j := (5 : Int32)) (k := 5) (by decide) (by decide)
  obtain ⟨T7, h7, X7, e7, W7, st7⟩ := stJ X6 hx hZ e6 Ar7 (j := (5 : Int32)) hin7 (g := (mkF m 37 #[.val (.long i0), .second, .val (.int i1), .val (.int i2), .unset, .unset, .unset, .unset, .unset, .unset, .unset, .unset] [(.long (100000 : Int64)), (.int (5 : Int32)), (.ref b1), (.ref b1)])) rfl rfl (hb hby at_37)
  have V7 : AV Z h7 b1 .long 19 (lst [(.long (1 : Int64)), (.long (10 : Int64)), (.long (100 : Int64)), (.long (1000 : Int64)), (.long (10000 : Int64)), (.long (100000 : Int64)), (.long (0 : Int64)), (.long (0 : Int64)), (.long (0 : Int64)), (.long (0 : Int64)), (.long (0 : Int64)), (.long (0 : Int64)), (.long (0 : Int64)), (.long (0 : Int64)), (.long (0 : Int64)), (.long (0 : Int64)), (.long (0 : Int64)), (.long (0 : Int64)), (.long (0 : Int64))]) := AV.setL V6 (k := 5) (by decide) (by decide) W7 (Nat.le_of_ble_eq_true rfl) rfl
  have N7 := Fr.snoc X7 N6 gn_b1
  have Z7 : n0 ≤ h7.size := Nat.le_trans Z6 (Keep.of_wr W7).1
  refine Go.step (st7) ?_
  show Go _ _ _ _ _ _ _ T7 (mkF m 38 #[.val (.long i0), .second, .val (.int i1), .val (.int i2), .unset, .unset, .unset, .unset, .unset, .unset, .unset, .unset] [(.ref b1)])
  refine Go.step (fun tt kk => XS.dup X7.here hx rfl (hb hby at_38) rfl rfl kk) ?_
  show Go _ _ _ _ _ _ _ T7 (mkF m 39 #[.val (.long i0), .second, .val (.int i1), .val (.int i2), .unset, .unset, .unset, .unset, .unset, .unset, .unset, .unset] [(.ref b1), (.ref b1)])
  refine Go.step (fun tt kk => XS.bipush X7.here hx rfl (hb hby at_39) kk) ?_
  show Go _ _ _ _ _ _ _ T7 (mkF m 41 #[.val (.long i0), .second, .val (.int i1), .val (.int i2), .unset, .unset, .unset, .unset, .unset, .unset, .unset, .unset] [(.int (6 : Int32)), (.ref b1), (.ref b1)])
  refine Go.step (X7.ldc2Long hx hown (mvT hZ (hw _ (List.mem_of_getElem? (i := 6) rfl))) (g := (mkF m 41 #[.val (.long i0), .second, .val (.int i1), .val (.int i2), .unset, .unset, .unset, .unset, .unset, .unset, .unset, .unset] [(.int (6 : Int32)), (.ref b1), (.ref b1)])) rfl (hb hby at_41)) ?_
  show Go _ _ _ _ _ _ _ T7 (mkF m 44 #[.val (.long i0), .second, .val (.int i1), .val (.int i2), .unset, .unset, .unset, .unset, .unset, .unset, .unset, .unset] [(.long (1000000 : Int64)), (.int (6 : Int32)), (.ref b1), (.ref b1)])
  obtain ⟨cl8, Ar8, hin8, -⟩ := V7.at (j := (6 : Int32)) (k := 6) (by decide) (by decide)
  obtain ⟨T8, h8, X8, e8, W8, st8⟩ := stJ X7 hx hZ e7 Ar8 (j := (6 : Int32)) hin8 (g := (mkF m 44 #[.val (.long i0), .second, .val (.int i1), .val (.int i2), .unset, .unset, .unset, .unset, .unset, .unset, .unset, .unset] [(.long (1000000 : Int64)), (.int (6 : Int32)), (.ref b1), (.ref b1)])) rfl rfl (hb hby at_44)
  have V8 : AV Z h8 b1 .long 19 (lst [(.long (1 : Int64)), (.long (10 : Int64)), (.long (100 : Int64)), (.long (1000 : Int64)), (.long (10000 : Int64)), (.long (100000 : Int64)), (.long (1000000 : Int64)), (.long (0 : Int64)), (.long (0 : Int64)), (.long (0 : Int64)), (.long (0 : Int64)), (.long (0 : Int64)), (.long (0 : Int64)), (.long (0 : Int64)), (.long (0 : Int64)), (.long (0 : Int64)), (.long (0 : Int64)), (.long (0 : Int64)), (.long (0 : Int64))]) := AV.setL V7 (k := 6) (by decide) (by decide) W8 (Nat.le_of_ble_eq_true rfl) rfl
  have N8 := Fr.snoc X8 N7 gn_b1
  have Z8 : n0 ≤ h8.size := Nat.le_trans Z7 (Keep.of_wr W8).1
  refine Go.step (st8) ?_
  show Go _ _ _ _ _ _ _ T8 (mkF m 45 #[.val (.long i0), .second, .val (.int i1), .val (.int i2), .unset, .unset, .unset, .unset, .unset, .unset, .unset, .unset] [(.ref b1)])
  refine Go.step (fun tt kk => XS.dup X8.here hx rfl (hb hby at_45) rfl rfl kk) ?_
  show Go _ _ _ _ _ _ _ T8 (mkF m 46 #[.val (.long i0), .second, .val (.int i1), .val (.int i2), .unset, .unset, .unset, .unset, .unset, .unset, .unset, .unset] [(.ref b1), (.ref b1)])
  refine Go.step (fun tt kk => XS.bipush X8.here hx rfl (hb hby at_46) kk) ?_
  show Go _ _ _ _ _ _ _ T8 (mkF m 48 #[.val (.long i0), .second, .val (.int i1), .val (.int i2), .unset, .unset, .unset, .unset, .unset, .unset, .unset, .unset] [(.int (7 : Int32)), (.ref b1), (.ref b1)])
  refine Go.step (X8.ldc2Long hx hown (mvT hZ (hw _ (List.mem_of_getElem? (i := 7) rfl))) (g := (mkF m 48 #[.val (.long i0), .second, .val (.int i1), .val (.int i2), .unset, .unset, .unset, .unset, .unset, .unset, .unset, .unset] [(.int (7 : Int32)), (.ref b1), (.ref b1)])) rfl (hb hby at_48)) ?_
  show Go _ _ _ _ _ _ _ T8 (mkF m 51 #[.val (.long i0), .second, .val (.int i1), .val (.int i2), .unset, .unset, .unset, .unset, .unset, .unset, .unset, .unset] [(.long (10000000 : Int64)), (.int (7 : Int32)), (.ref b1), (.ref b1)])
  obtain ⟨cl9, Ar9, hin9, -⟩ := V8.at (j := (7 : Int32)) (k := 7) (by decide) (by decide)
  obtain ⟨T9, h9, X9, e9, W9, st9⟩ := stJ X8 hx hZ e8 Ar9 (j := (7 : Int32)) hin9 (g := (mkF m 51 #[.val (.long i0), .second, .val (.int i1), .val (.int i2), .unset, .unset, .unset, .unset, .unset, .unset, .unset, .unset] [(.long (10000000 : Int64)), (.int (7 : Int32)), (.ref b1), (.ref b1)])) rfl rfl (hb hby at_51)
  have V9 : AV Z h9 b1 .long 19 (lst [(.long (1 : Int64)), (.long (10 : Int64)), (.long (100 : Int64)), (.long (1000 : Int64)), (.long (10000 : Int64)), (.long (100000 : Int64)), (.long (1000000 : Int64)), (.long (10000000 : Int64)), (.long (0 : Int64)), (.long (0 : Int64)), (.long (0 : Int64)), (.long (0 : Int64)), (.long (0 : Int64)), (.long (0 : Int64)), (.long (0 : Int64)), (.long (0 : Int64)), (.long (0 : Int64)), (.long (0 : Int64)), (.long (0 : Int64))]) := AV.setL V8 (k := 7) (by decide) (by decide) W9 (Nat.le_of_ble_eq_true rfl) rfl
  have N9 := Fr.snoc X9 N8 gn_b1
  have Z9 : n0 ≤ h9.size := Nat.le_trans Z8 (Keep.of_wr W9).1
  refine Go.step (st9) ?_
  show Go _ _ _ _ _ _ _ T9 (mkF m 52 #[.val (.long i0), .second, .val (.int i1), .val (.int i2), .unset, .unset, .unset, .unset, .unset, .unset, .unset, .unset] [(.ref b1)])
  refine Go.step (fun tt kk => XS.dup X9.here hx rfl (hb hby at_52) rfl rfl kk) ?_
  show Go _ _ _ _ _ _ _ T9 (mkF m 53 #[.val (.long i0), .second, .val (.int i1), .val (.int i2), .unset, .unset, .unset, .unset, .unset, .unset, .unset, .unset] [(.ref b1), (.ref b1)])
  refine Go.step (fun tt kk => XS.bipush X9.here hx rfl (hb hby at_53) kk) ?_
  show Go _ _ _ _ _ _ _ T9 (mkF m 55 #[.val (.long i0), .second, .val (.int i1), .val (.int i2), .unset, .unset, .unset, .unset, .unset, .unset, .unset, .unset] [(.int (8 : Int32)), (.ref b1), (.ref b1)])
  refine Go.step (X9.ldc2Long hx hown (mvT hZ (hw _ (List.mem_of_getElem? (i := 8) rfl))) (g := (mkF m 55 #[.val (.long i0), .second, .val (.int i1), .val (.int i2), .unset, .unset, .unset, .unset, .unset, .unset, .unset, .unset] [(.int (8 : Int32)), (.ref b1), (.ref b1)])) rfl (hb hby at_55)) ?_
  show Go _ _ _ _ _ _ _ T9 (mkF m 58 #[.val (.long i0), .second, .val (.int i1), .val (.int i2), .unset, .unset, .unset, .unset, .unset, .unset, .unset, .unset] [(.long (100000000 : Int64)), (.int (8 : Int32)), (.ref b1), (.ref b1)])
  obtain ⟨cl10, Ar10, hin10, -⟩ := V9.at (j := (8 : Int32)) (k := 8) (by decide) (by decide)
  obtain ⟨T10, h10, X10, e10, W10, st10⟩ := stJ X9 hx hZ e9 Ar10 (j := (8 : Int32)) hin10 (g := (mkF m 58 #[.val (.long i0), .second, .val (.int i1), .val (.int i2), .unset, .unset, .unset, .unset, .unset, .unset, .unset, .unset] [(.long (100000000 : Int64)), (.int (8 : Int32)), (.ref b1), (.ref b1)])) rfl rfl (hb hby at_58)
  have V10 : AV Z h10 b1 .long 19 (lst [(.long (1 : Int64)), (.long (10 : Int64)), (.long (100 : Int64)), (.long (1000 : Int64)), (.long (10000 : Int64)), (.long (100000 : Int64)), (.long (1000000 : Int64)), (.long (10000000 : Int64)), (.long (100000000 : Int64)), (.long (0 : Int64)), (.long (0 : Int64)), (.long (0 : Int64)), (.long (0 : Int64)), (.long (0 : Int64)), (.long (0 : Int64)), (.long (0 : Int64)), (.long (0 : Int64)), (.long (0 : Int64)), (.long (0 : Int64))]) := AV.setL V9 (k := 8) (by decide) (by decide) W10 (Nat.le_of_ble_eq_true rfl) rfl
  have N10 := Fr.snoc X10 N9 gn_b1
  have Z10 : n0 ≤ h10.size := Nat.le_trans Z9 (Keep.of_wr W10).1
  refine Go.step (st10) ?_
  show Go _ _ _ _ _ _ _ T10 (mkF m 59 #[.val (.long i0), .second, .val (.int i1), .val (.int i2), .unset, .unset, .unset, .unset, .unset, .unset, .unset, .unset] [(.ref b1)])
  refine Go.step (fun tt kk => XS.dup X10.here hx rfl (hb hby at_59) rfl rfl kk) ?_
  show Go _ _ _ _ _ _ _ T10 (mkF m 60 #[.val (.long i0), .second, .val (.int i1), .val (.int i2), .unset, .unset, .unset, .unset, .unset, .unset, .unset, .unset] [(.ref b1), (.ref b1)])
  refine Go.step (fun tt kk => XS.bipush X10.here hx rfl (hb hby at_60) kk) ?_
  show Go _ _ _ _ _ _ _ T10 (mkF m 62 #[.val (.long i0), .second, .val (.int i1), .val (.int i2), .unset, .unset, .unset, .unset, .unset, .unset, .unset, .unset] [(.int (9 : Int32)), (.ref b1), (.ref b1)])
  refine Go.step (X10.ldc2Long hx hown (mvT hZ (hw _ (List.mem_of_getElem? (i := 9) rfl))) (g := (mkF m 62 #[.val (.long i0), .second, .val (.int i1), .val (.int i2), .unset, .unset, .unset, .unset, .unset, .unset, .unset, .unset] [(.int (9 : Int32)), (.ref b1), (.ref b1)])) rfl (hb hby at_62)) ?_
  show Go _ _ _ _ _ _ _ T10 (mkF m 65 #[.val (.long i0), .second, .val (.int i1), .val (.int i2), .unset, .unset, .unset, .unset, .unset, .unset, .unset, .unset] [(.long (1000000000 : Int64)), (.int (9 : Int32)), (.ref b1), (.ref b1)])
  obtain ⟨cl11, Ar11, hin11, -⟩ := V10.at (j := (9 : Int32)) (k := 9) (by decide) (by decide)
  obtain ⟨T11, h11, X11, e11, W11, st11⟩ := stJ X10 hx hZ e10 Ar11 (j := (9 : Int32)) hin11 (g := (mkF m 65 #[.val (.long i0), .second, .val (.int i1), .val (.int i2), .unset, .unset, .unset, .unset, .unset, .unset, .unset, .unset] [(.long (1000000000 : Int64)), (.int (9 : Int32)), (.ref b1), (.ref b1)])) rfl rfl (hb hby at_65)
  have V11 : AV Z h11 b1 .long 19 (lst [(.long (1 : Int64)), (.long (10 : Int64)), (.long (100 : Int64)), (.long (1000 : Int64)), (.long (10000 : Int64)), (.long (100000 : Int64)), (.long (1000000 : Int64)), (.long (10000000 : Int64)), (.long (100000000 : Int64)), (.long (1000000000 : Int64)), (.long (0 : Int64)), (.long (0 : Int64)), (.long (0 : Int64)), (.long (0 : Int64)), (.long (0 : Int64)), (.long (0 : Int64)), (.long (0 : Int64)), (.long (0 : Int64)), (.long (0 : Int64))]) := AV.setL V10 (k := 9) (by decide) (by decide) W11 (Nat.le_of_ble_eq_true rfl) rfl
  have N11 := Fr.snoc X11 N10 gn_b1
  have Z11 : n0 ≤ h11.size := Nat.le_trans Z10 (Keep.of_wr W11).1
  refine Go.step (st11) ?_
  show Go _ _ _ _ _ _ _ T11 (mkF m 66 #[.val (.long i0), .second, .val (.int i1), .val (.int i2), .unset, .unset, .unset, .unset, .unset, .unset, .unset, .unset] [(.ref b1)])
  refine Go.step (fun tt kk => XS.dup X11.here hx rfl (hb hby at_66) rfl rfl kk) ?_
  show Go _ _ _ _ _ _ _ T11 (mkF m 67 #[.val (.long i0), .second, .val (.int i1), .val (.int i2), .unset, .unset, .unset, .unset, .unset, .unset, .unset, .unset] [(.ref b1), (.ref b1)])
  refine Go.step (fun tt kk => XS.bipush X11.here hx rfl (hb hby at_67) kk) ?_
  show Go _ _ _ _ _ _ _ T11 (mkF m 69 #[.val (.long i0), .second, .val (.int i1), .val (.int i2), .unset, .unset, .unset, .unset, .unset, .unset, .unset, .unset] [(.int (10 : Int32)), (.ref b1), (.ref b1)])
  refine Go.step (X11.ldc2Long hx hown (mvT hZ (hw _ (List.mem_of_getElem? (i := 10) rfl))) (g := (mkF m 69 #[.val (.long i0), .second, .val (.int i1), .val (.int i2), .unset, .unset, .unset, .unset, .unset, .unset, .unset, .unset] [(.int (10 : Int32)), (.ref b1), (.ref b1)])) rfl (hb hby at_69)) ?_
  show Go _ _ _ _ _ _ _ T11 (mkF m 72 #[.val (.long i0), .second, .val (.int i1), .val (.int i2), .unset, .unset, .unset, .unset, .unset, .unset, .unset, .unset] [(.long (10000000000 : Int64)), (.int (10 : Int32)), (.ref b1), (.ref b1)])
  obtain ⟨cl12, Ar12, hin12, -⟩ := V11.at (j := (10 : Int32)) (k := 10) (by decide) (by decide)
  obtain ⟨T12, h12, X12, e12, W12, st12⟩ := stJ X11 hx hZ e11 Ar12 (j := (10 : Int32)) hin12 (g := (mkF m 72 #[.val (.long i0), .second, .val (.int i1), .val (.int i2), .unset, .unset, .unset, .unset, .unset, .unset, .unset, .unset] [(.long (10000000000 : Int64)), (.int (10 : Int32)), (.ref b1), (.ref b1)])) rfl rfl (hb hby at_72)
  have V12 : AV Z h12 b1 .long 19 (lst [(.long (1 : Int64)), (.long (10 : Int64)), (.long (100 : Int64)), (.long (1000 : Int64)), (.long (10000 : Int64)), (.long (100000 : Int64)), (.long (1000000 : Int64)), (.long (10000000 : Int64)), (.long (100000000 : Int64)), (.long (1000000000 : Int64)), (.long (10000000000 : Int64)), (.long (0 : Int64)), (.long (0 : Int64)), (.long (0 : Int64)), (.long (0 : Int64)), (.long (0 : Int64)), (.long (0 : Int64)), (.long (0 : Int64)), (.long (0 : Int64))]) := AV.setL V11 (k := 10) (by decide) (by decide) W12 (Nat.le_of_ble_eq_true rfl) rfl
  have N12 := Fr.snoc X12 N11 gn_b1
  have Z12 : n0 ≤ h12.size := Nat.le_trans Z11 (Keep.of_wr W12).1
  refine Go.step (st12) ?_
  show Go _ _ _ _ _ _ _ T12 (mkF m 73 #[.val (.long i0), .second, .val (.int i1), .val (.int i2), .unset, .unset, .unset, .unset, .unset, .unset, .unset, .unset] [(.ref b1)])
  refine Go.step (fun tt kk => XS.dup X12.here hx rfl (hb hby at_73) rfl rfl kk) ?_
  show Go _ _ _ _ _ _ _ T12 (mkF m 74 #[.val (.long i0), .second, .val (.int i1), .val (.int i2), .unset, .unset, .unset, .unset, .unset, .unset, .unset, .unset] [(.ref b1), (.ref b1)])
  refine Go.step (fun tt kk => XS.bipush X12.here hx rfl (hb hby at_74) kk) ?_
  show Go _ _ _ _ _ _ _ T12 (mkF m 76 #[.val (.long i0), .second, .val (.int i1), .val (.int i2), .unset, .unset, .unset, .unset, .unset, .unset, .unset, .unset] [(.int (11 : Int32)), (.ref b1), (.ref b1)])
  refine Go.step (X12.ldc2Long hx hown (mvT hZ (hw _ (List.mem_of_getElem? (i := 11) rfl))) (g := (mkF m 76 #[.val (.long i0), .second, .val (.int i1), .val (.int i2), .unset, .unset, .unset, .unset, .unset, .unset, .unset, .unset] [(.int (11 : Int32)), (.ref b1), (.ref b1)])) rfl (hb hby at_76)) ?_
  show Go _ _ _ _ _ _ _ T12 (mkF m 79 #[.val (.long i0), .second, .val (.int i1), .val (.int i2), .unset, .unset, .unset, .unset, .unset, .unset, .unset, .unset] [(.long (100000000000 : Int64)), (.int (11 : Int32)), (.ref b1), (.ref b1)])
  obtain ⟨cl13, Ar13, hin13, -⟩ := V12.at (j := (11 : Int32)) (k := 11) (by decide) (by decide)
  obtain ⟨T13, h13, X13, e13, W13, st13⟩ := stJ X12 hx hZ e12 Ar13 (j := (11 : Int32)) hin13 (g := (mkF m 79 #[.val (.long i0), .second, .val (.int i1), .val (.int i2), .unset, .unset, .unset, .unset, .unset, .unset, .unset, .unset] [(.long (100000000000 : Int64)), (.int (11 : Int32)), (.ref b1), (.ref b1)])) rfl rfl (hb hby at_79)
  have V13 : AV Z h13 b1 .long 19 (lst [(.long (1 : Int64)), (.long (10 : Int64)), (.long (100 : Int64)), (.long (1000 : Int64)), (.long (10000 : Int64)), (.long (100000 : Int64)), (.long (1000000 : Int64)), (.long (10000000 : Int64)), (.long (100000000 : Int64)), (.long (1000000000 : Int64)), (.long (10000000000 : Int64)), (.long (100000000000 : Int64)), (.long (0 : Int64)), (.long (0 : Int64)), (.long (0 : Int64)), (.long (0 : Int64)), (.long (0 : Int64)), (.long (0 : Int64)), (.long (0 : Int64))]) := AV.setL V12 (k := 11) (by decide) (by decide) W13 (Nat.le_of_ble_eq_true rfl) rfl
  have N13 := Fr.snoc X13 N12 gn_b1
  have Z13 : n0 ≤ h13.size := Nat.le_trans Z12 (Keep.of_wr W13).1
  refine Go.step (st13) ?_
  show Go _ _ _ _ _ _ _ T13 (mkF m 80 #[.val (.long i0), .second, .val (.int i1), .val (.int i2), .unset, .unset, .unset, .unset, .unset, .unset, .unset, .unset] [(.ref b1)])
  refine Go.step (fun tt kk => XS.dup X13.here hx rfl (hb hby at_80) rfl rfl kk) ?_
  show Go _ _ _ _ _ _ _ T13 (mkF m 81 #[.val (.long i0), .second, .val (.int i1), .val (.int i2), .unset, .unset, .unset, .unset, .unset, .unset, .unset, .unset] [(.ref b1), (.ref b1)])
  refine Go.step (fun tt kk => XS.bipush X13.here hx rfl (hb hby at_81) kk) ?_
  show Go _ _ _ _ _ _ _ T13 (mkF m 83 #[.val (.long i0), .second, .val (.int i1), .val (.int i2), .unset, .unset, .unset, .unset, .unset, .unset, .unset, .unset] [(.int (12 : Int32)), (.ref b1), (.ref b1)])
  refine Go.step (X13.ldc2Long hx hown (mvT hZ (hw _ (List.mem_of_getElem? (i := 12) rfl))) (g := (mkF m 83 #[.val (.long i0), .second, .val (.int i1), .val (.int i2), .unset, .unset, .unset, .unset, .unset, .unset, .unset, .unset] [(.int (12 : Int32)), (.ref b1), (.ref b1)])) rfl (hb hby at_83)) ?_
  show Go _ _ _ _ _ _ _ T13 (mkF m 86 #[.val (.long i0), .second, .val (.int i1), .val (.int i2), .unset, .unset, .unset, .unset, .unset, .unset, .unset, .unset] [(.long (1000000000000 : Int64)), (.int (12 : Int32)), (.ref b1), (.ref b1)])
  obtain ⟨cl14, Ar14, hin14, -⟩ := V13.at (j := (12 : Int32)) (k := 12) (by decide) (by decide)
  obtain ⟨T14, h14, X14, e14, W14, st14⟩ := stJ X13 hx hZ e13 Ar14 (j := (12 : Int32)) hin14 (g := (mkF m 86 #[.val (.long i0), .second, .val (.int i1), .val (.int i2), .unset, .unset, .unset, .unset, .unset, .unset, .unset, .unset] [(.long (1000000000000 : Int64)), (.int (12 : Int32)), (.ref b1), (.ref b1)])) rfl rfl (hb hby at_86)
  have V14 : AV Z h14 b1 .long 19 (lst [(.long (1 : Int64)), (.long (10 : Int64)), (.long (100 : Int64)), (.long (1000 : Int64)), (.long (10000 : Int64)), (.long (100000 : Int64)), (.long (1000000 : Int64)), (.long (10000000 : Int64)), (.long (100000000 : Int64)), (.long (1000000000 : Int64)), (.long (10000000000 : Int64)), (.long (100000000000 : Int64)), (.long (1000000000000 : Int64)), (.long (0 : Int64)), (.long (0 : Int64)), (.long (0 : Int64)), (.long (0 : Int64)), (.long (0 : Int64)), (.long (0 : Int64))]) := AV.setL V13 (k := 12) (by decide) (by decide) W14 (Nat.le_of_ble_eq_true rfl) rfl
  have N14 := Fr.snoc X14 N13 gn_b1
  have Z14 : n0 ≤ h14.size := Nat.le_trans Z13 (Keep.of_wr W14).1
  refine Go.step (st14) ?_
  show Go _ _ _ _ _ _ _ T14 (mkF m 87 #[.val (.long i0), .second, .val (.int i1), .val (.int i2), .unset, .unset, .unset, .unset, .unset, .unset, .unset, .unset] [(.ref b1)])
  refine Go.step (fun tt kk => XS.dup X14.here hx rfl (hb hby at_87) rfl rfl kk) ?_
  show Go _ _ _ _ _ _ _ T14 (mkF m 88 #[.val (.long i0), .second, .val (.int i1), .val (.int i2), .unset, .unset, .unset, .unset, .unset, .unset, .unset, .unset] [(.ref b1), (.ref b1)])
  refine Go.step (fun tt kk => XS.bipush X14.here hx rfl (hb hby at_88) kk) ?_
  show Go _ _ _ _ _ _ _ T14 (mkF m 90 #[.val (.long i0), .second, .val (.int i1), .val (.int i2), .unset, .unset, .unset, .unset, .unset, .unset, .unset, .unset] [(.int (13 : Int32)), (.ref b1), (.ref b1)])
  refine Go.step (X14.ldc2Long hx hown (mvT hZ (hw _ (List.mem_of_getElem? (i := 13) rfl))) (g := (mkF m 90 #[.val (.long i0), .second, .val (.int i1), .val (.int i2), .unset, .unset, .unset, .unset, .unset, .unset, .unset, .unset] [(.int (13 : Int32)), (.ref b1), (.ref b1)])) rfl (hb hby at_90)) ?_
  show Go _ _ _ _ _ _ _ T14 (mkF m 93 #[.val (.long i0), .second, .val (.int i1), .val (.int i2), .unset, .unset, .unset, .unset, .unset, .unset, .unset, .unset] [(.long (10000000000000 : Int64)), (.int (13 : Int32)), (.ref b1), (.ref b1)])
  obtain ⟨cl15, Ar15, hin15, -⟩ := V14.at (j := (13 : Int32)) (k := 13) (by decide) (by decide)
  obtain ⟨T15, h15, X15, e15, W15, st15⟩ := stJ X14 hx hZ e14 Ar15 (j := (13 : Int32)) hin15 (g := (mkF m 93 #[.val (.long i0), .second, .val (.int i1), .val (.int i2), .unset, .unset, .unset, .unset, .unset, .unset, .unset, .unset] [(.long (10000000000000 : Int64)), (.int (13 : Int32)), (.ref b1), (.ref b1)])) rfl rfl (hb hby at_93)
  have V15 : AV Z h15 b1 .long 19 (lst [(.long (1 : Int64)), (.long (10 : Int64)), (.long (100 : Int64)), (.long (1000 : Int64)), (.long (10000 : Int64)), (.long (100000 : Int64)), (.long (1000000 : Int64)), (.long (10000000 : Int64)), (.long (100000000 : Int64)), (.long (1000000000 : Int64)), (.long (10000000000 : Int64)), (.long (100000000000 : Int64)), (.long (1000000000000 : Int64)), (.long (10000000000000 : Int64)), (.long (0 : Int64)), (.long (0 : Int64)), (.long (0 : Int64)), (.long (0 : Int64)), (.long (0 : Int64))]) := AV.setL V14 (k := 13) (by decide) (by decide) W15 (Nat.le_of_ble_eq_true rfl) rfl
  have N15 := Fr.snoc X15 N14 gn_b1
  have Z15 : n0 ≤ h15.size := Nat.le_trans Z14 (Keep.of_wr W15).1
  refine Go.step (st15) ?_
  show Go _ _ _ _ _ _ _ T15 (mkF m 94 #[.val (.long i0), .second, .val (.int i1), .val (.int i2), .unset, .unset, .unset, .unset, .unset, .unset, .unset, .unset] [(.ref b1)])
  refine Go.step (fun tt kk => XS.dup X15.here hx rfl (hb hby at_94) rfl rfl kk) ?_
  show Go _ _ _ _ _ _ _ T15 (mkF m 95 #[.val (.long i0), .second, .val (.int i1), .val (.int i2), .unset, .unset, .unset, .unset, .unset, .unset, .unset, .unset] [(.ref b1), (.ref b1)])
  refine Go.step (fun tt kk => XS.bipush X15.here hx rfl (hb hby at_95) kk) ?_
  show Go _ _ _ _ _ _ _ T15 (mkF m 97 #[.val (.long i0), .second, .val (.int i1), .val (.int i2), .unset, .unset, .unset, .unset, .unset, .unset, .unset, .unset] [(.int (14 : Int32)), (.ref b1), (.ref b1)])
  refine Go.step (X15.ldc2Long hx hown (mvT hZ (hw _ (List.mem_of_getElem? (i := 14) rfl))) (g := (mkF m 97 #[.val (.long i0), .second, .val (.int i1), .val (.int i2), .unset, .unset, .unset, .unset, .unset, .unset, .unset, .unset] [(.int (14 : Int32)), (.ref b1), (.ref b1)])) rfl (hb hby at_97)) ?_
  show Go _ _ _ _ _ _ _ T15 (mkF m 100 #[.val (.long i0), .second, .val (.int i1), .val (.int i2), .unset, .unset, .unset, .unset, .unset, .unset, .unset, .unset] [(.long (100000000000000 : Int64)), (.int (14 : Int32)), (.ref b1), (.ref b1)])
  obtain ⟨cl16, Ar16, hin16, -⟩ := V15.at (j := (14 : Int32)) (k := 14) (by decide) (by decide)
  obtain ⟨T16, h16, X16, e16, W16, st16⟩ := stJ X15 hx hZ e15 Ar16 (j := (14 : Int32)) hin16 (g := (mkF m 100 #[.val (.long i0), .second, .val (.int i1), .val (.int i2), .unset, .unset, .unset, .unset, .unset, .unset, .unset, .unset] [(.long (100000000000000 : Int64)), (.int (14 : Int32)), (.ref b1), (.ref b1)])) rfl rfl (hb hby at_100)
  have V16 : AV Z h16 b1 .long 19 (lst [(.long (1 : Int64)), (.long (10 : Int64)), (.long (100 : Int64)), (.long (1000 : Int64)), (.long (10000 : Int64)), (.long (100000 : Int64)), (.long (1000000 : Int64)), (.long (10000000 : Int64)), (.long (100000000 : Int64)), (.long (1000000000 : Int64)), (.long (10000000000 : Int64)), (.long (100000000000 : Int64)), (.long (1000000000000 : Int64)), (.long (10000000000000 : Int64)), (.long (100000000000000 : Int64)), (.long (0 : Int64)), (.long (0 : Int64)), (.long (0 : Int64)), (.long (0 : Int64))]) := AV.setL V15 (k := 14) (by decide) (by decide) W16 (Nat.le_of_ble_eq_true rfl) rfl
  have N16 := Fr.snoc X16 N15 gn_b1
  have Z16 : n0 ≤ h16.size := Nat.le_trans Z15 (Keep.of_wr W16).1
  refine Go.step (st16) ?_
  show Go _ _ _ _ _ _ _ T16 (mkF m 101 #[.val (.long i0), .second, .val (.int i1), .val (.int i2), .unset, .unset, .unset, .unset, .unset, .unset, .unset, .unset] [(.ref b1)])
  refine Go.step (fun tt kk => XS.dup X16.here hx rfl (hb hby at_101) rfl rfl kk) ?_
  show Go _ _ _ _ _ _ _ T16 (mkF m 102 #[.val (.long i0), .second, .val (.int i1), .val (.int i2), .unset, .unset, .unset, .unset, .unset, .unset, .unset, .unset] [(.ref b1), (.ref b1)])
  refine Go.step (fun tt kk => XS.bipush X16.here hx rfl (hb hby at_102) kk) ?_
  show Go _ _ _ _ _ _ _ T16 (mkF m 104 #[.val (.long i0), .second, .val (.int i1), .val (.int i2), .unset, .unset, .unset, .unset, .unset, .unset, .unset, .unset] [(.int (15 : Int32)), (.ref b1), (.ref b1)])
  refine Go.step (X16.ldc2Long hx hown (mvT hZ (hw _ (List.mem_of_getElem? (i := 15) rfl))) (g := (mkF m 104 #[.val (.long i0), .second, .val (.int i1), .val (.int i2), .unset, .unset, .unset, .unset, .unset, .unset, .unset, .unset] [(.int (15 : Int32)), (.ref b1), (.ref b1)])) rfl (hb hby at_104)) ?_
  show Go _ _ _ _ _ _ _ T16 (mkF m 107 #[.val (.long i0), .second, .val (.int i1), .val (.int i2), .unset, .unset, .unset, .unset, .unset, .unset, .unset, .unset] [(.long (1000000000000000 : Int64)), (.int (15 : Int32)), (.ref b1), (.ref b1)])
  obtain ⟨cl17, Ar17, hin17, -⟩ := V16.at (j := (15 : Int32)) (k := 15) (by decide) (by decide)
  obtain ⟨T17, h17, X17, e17, W17, st17⟩ := stJ X16 hx hZ e16 Ar17 (j := (15 : Int32)) hin17 (g := (mkF m 107 #[.val (.long i0), .second, .val (.int i1), .val (.int i2), .unset, .unset, .unset, .unset, .unset, .unset, .unset, .unset] [(.long (1000000000000000 : Int64)), (.int (15 : Int32)), (.ref b1), (.ref b1)])) rfl rfl (hb hby at_107)
  have V17 : AV Z h17 b1 .long 19 (lst [(.long (1 : Int64)), (.long (10 : Int64)), (.long (100 : Int64)), (.long (1000 : Int64)), (.long (10000 : Int64)), (.long (100000 : Int64)), (.long (1000000 : Int64)), (.long (10000000 : Int64)), (.long (100000000 : Int64)), (.long (1000000000 : Int64)), (.long (10000000000 : Int64)), (.long (100000000000 : Int64)), (.long (1000000000000 : Int64)), (.long (10000000000000 : Int64)), (.long (100000000000000 : Int64)), (.long (1000000000000000 : Int64)), (.long (0 : Int64)), (.long (0 : Int64)), (.long (0 : Int64))]) := AV.setL V16 (k := 15) (by decide) (by decide) W17 (Nat.le_of_ble_eq_true rfl) rfl
  have N17 := Fr.snoc X17 N16 gn_b1
  have Z17 : n0 ≤ h17.size := Nat.le_trans Z16 (Keep.of_wr W17).1
  refine Go.step (st17) ?_
  show Go _ _ _ _ _ _ _ T17 (mkF m 108 #[.val (.long i0), .second, .val (.int i1), .val (.int i2), .unset, .unset, .unset, .unset, .unset, .unset, .unset, .unset] [(.ref b1)])
  refine Go.step (fun tt kk => XS.dup X17.here hx rfl (hb hby at_108) rfl rfl kk) ?_
  show Go _ _ _ _ _ _ _ T17 (mkF m 109 #[.val (.long i0), .second, .val (.int i1), .val (.int i2), .unset, .unset, .unset, .unset, .unset, .unset, .unset, .unset] [(.ref b1), (.ref b1)])
  refine Go.step (fun tt kk => XS.bipush X17.here hx rfl (hb hby at_109) kk) ?_
  show Go _ _ _ _ _ _ _ T17 (mkF m 111 #[.val (.long i0), .second, .val (.int i1), .val (.int i2), .unset, .unset, .unset, .unset, .unset, .unset, .unset, .unset] [(.int (16 : Int32)), (.ref b1), (.ref b1)])
  refine Go.step (X17.ldc2Long hx hown (mvT hZ (hw _ (List.mem_of_getElem? (i := 16) rfl))) (g := (mkF m 111 #[.val (.long i0), .second, .val (.int i1), .val (.int i2), .unset, .unset, .unset, .unset, .unset, .unset, .unset, .unset] [(.int (16 : Int32)), (.ref b1), (.ref b1)])) rfl (hb hby at_111)) ?_
  show Go _ _ _ _ _ _ _ T17 (mkF m 114 #[.val (.long i0), .second, .val (.int i1), .val (.int i2), .unset, .unset, .unset, .unset, .unset, .unset, .unset, .unset] [(.long (10000000000000000 : Int64)), (.int (16 : Int32)), (.ref b1), (.ref b1)])
  obtain ⟨cl18, Ar18, hin18, -⟩ := V17.at (j := (16 : Int32)) (k := 16) (by decide) (by decide)
  obtain ⟨T18, h18, X18, e18, W18, st18⟩ := stJ X17 hx hZ e17 Ar18 (j := (16 : Int32)) hin18 (g := (mkF m 114 #[.val (.long i0), .second, .val (.int i1), .val (.int i2), .unset, .unset, .unset, .unset, .unset, .unset, .unset, .unset] [(.long (10000000000000000 : Int64)), (.int (16 : Int32)), (.ref b1), (.ref b1)])) rfl rfl (hb hby at_114)
  have V18 : AV Z h18 b1 .long 19 (lst [(.long (1 : Int64)), (.long (10 : Int64)), (.long (100 : Int64)), (.long (1000 : Int64)), (.long (10000 : Int64)), (.long (100000 : Int64)), (.long (1000000 : Int64)), (.long (10000000 : Int64)), (.long (100000000 : Int64)), (.long (1000000000 : Int64)), (.long (10000000000 : Int64)), (.long (100000000000 : Int64)), (.long (1000000000000 : Int64)), (.long (10000000000000 : Int64)), (.long (100000000000000 : Int64)), (.long (1000000000000000 : Int64)), (.long (10000000000000000 : Int64)), (.long (0 : Int64)), (.long (0 : Int64))]) := AV.setL V17 (k := 16) (by decide) (by decide) W18 (Nat.le_of_ble_eq_true rfl) rfl
  have N18 := Fr.snoc X18 N17 gn_b1
  have Z18 : n0 ≤ h18.size := Nat.le_trans Z17 (Keep.of_wr W18).1
  refine Go.step (st18) ?_
  show Go _ _ _ _ _ _ _ T18 (mkF m 115 #[.val (.long i0), .second, .val (.int i1), .val (.int i2), .unset, .unset, .unset, .unset, .unset, .unset, .unset, .unset] [(.ref b1)])
  refine Go.step (fun tt kk => XS.dup X18.here hx rfl (hb hby at_115) rfl rfl kk) ?_
  show Go _ _ _ _ _ _ _ T18 (mkF m 116 #[.val (.long i0), .second, .val (.int i1), .val (.int i2), .unset, .unset, .unset, .unset, .unset, .unset, .unset, .unset] [(.ref b1), (.ref b1)])
  refine Go.step (fun tt kk => XS.bipush X18.here hx rfl (hb hby at_116) kk) ?_
  show Go _ _ _ _ _ _ _ T18 (mkF m 118 #[.val (.long i0), .second, .val (.int i1), .val (.int i2), .unset, .unset, .unset, .unset, .unset, .unset, .unset, .unset] [(.int (17 : Int32)), (.ref b1), (.ref b1)])
  refine Go.step (X18.ldc2Long hx hown (mvT hZ (hw _ (List.mem_of_getElem? (i := 17) rfl))) (g := (mkF m 118 #[.val (.long i0), .second, .val (.int i1), .val (.int i2), .unset, .unset, .unset, .unset, .unset, .unset, .unset, .unset] [(.int (17 : Int32)), (.ref b1), (.ref b1)])) rfl (hb hby at_118)) ?_
  show Go _ _ _ _ _ _ _ T18 (mkF m 121 #[.val (.long i0), .second, .val (.int i1), .val (.int i2), .unset, .unset, .unset, .unset, .unset, .unset, .unset, .unset] [(.long (100000000000000000 : Int64)), (.int (17 : Int32)), (.ref b1), (.ref b1)])
  obtain ⟨cl19, Ar19, hin19, -⟩ := V18.at (j := (17 : Int32)) (k := 17) (by decide) (by decide)
  obtain ⟨T19, h19, X19, e19, W19, st19⟩ := stJ X18 hx hZ e18 Ar19 (j := (17 : Int32)) hin19 (g := (mkF m 121 #[.val (.long i0), .second, .val (.int i1), .val (.int i2), .unset, .unset, .unset, .unset, .unset, .unset, .unset, .unset] [(.long (100000000000000000 : Int64)), (.int (17 : Int32)), (.ref b1), (.ref b1)])) rfl rfl (hb hby at_121)
  have V19 : AV Z h19 b1 .long 19 (lst [(.long (1 : Int64)), (.long (10 : Int64)), (.long (100 : Int64)), (.long (1000 : Int64)), (.long (10000 : Int64)), (.long (100000 : Int64)), (.long (1000000 : Int64)), (.long (10000000 : Int64)), (.long (100000000 : Int64)), (.long (1000000000 : Int64)), (.long (10000000000 : Int64)), (.long (100000000000 : Int64)), (.long (1000000000000 : Int64)), (.long (10000000000000 : Int64)), (.long (100000000000000 : Int64)), (.long (1000000000000000 : Int64)), (.long (10000000000000000 : Int64)), (.long (100000000000000000 : Int64)), (.long (0 : Int64))]) := AV.setL V18 (k := 17) (by decide) (by decide) W19 (Nat.le_of_ble_eq_true rfl) rfl
  have N19 := Fr.snoc X19 N18 gn_b1
  have Z19 : n0 ≤ h19.size := Nat.le_trans Z18 (Keep.of_wr W19).1
  refine Go.step (st19) ?_
  show Go _ _ _ _ _ _ _ T19 (mkF m 122 #[.val (.long i0), .second, .val (.int i1), .val (.int i2), .unset, .unset, .unset, .unset, .unset, .unset, .unset, .unset] [(.ref b1)])
  refine Go.step (fun tt kk => XS.dup X19.here hx rfl (hb hby at_122) rfl rfl kk) ?_
  show Go _ _ _ _ _ _ _ T19 (mkF m 123 #[.val (.long i0), .second, .val (.int i1), .val (.int i2), .unset, .unset, .unset, .unset, .unset, .unset, .unset, .unset] [(.ref b1), (.ref b1)])
  refine Go.step (fun tt kk => XS.bipush X19.here hx rfl (hb hby at_123) kk) ?_
  show Go _ _ _ _ _ _ _ T19 (mkF m 125 #[.val (.long i0), .second, .val (.int i1), .val (.int i2), .unset, .unset, .unset, .unset, .unset, .unset, .unset, .unset] [(.int (18 : Int32)), (.ref b1), (.ref b1)])
  refine Go.step (X19.ldc2Long hx hown (mvT hZ (hw _ (List.mem_of_getElem? (i := 18) rfl))) (g := (mkF m 125 #[.val (.long i0), .second, .val (.int i1), .val (.int i2), .unset, .unset, .unset, .unset, .unset, .unset, .unset, .unset] [(.int (18 : Int32)), (.ref b1), (.ref b1)])) rfl (hb hby at_125)) ?_
  show Go _ _ _ _ _ _ _ T19 (mkF m 128 #[.val (.long i0), .second, .val (.int i1), .val (.int i2), .unset, .unset, .unset, .unset, .unset, .unset, .unset, .unset] [(.long (1000000000000000000 : Int64)), (.int (18 : Int32)), (.ref b1), (.ref b1)])
  obtain ⟨cl20, Ar20, hin20, -⟩ := V19.at (j := (18 : Int32)) (k := 18) (by decide) (by decide)
  obtain ⟨T20, h20, X20, e20, W20, st20⟩ := stJ X19 hx hZ e19 Ar20 (j := (18 : Int32)) hin20 (g := (mkF m 128 #[.val (.long i0), .second, .val (.int i1), .val (.int i2), .unset, .unset, .unset, .unset, .unset, .unset, .unset, .unset] [(.long (1000000000000000000 : Int64)), (.int (18 : Int32)), (.ref b1), (.ref b1)])) rfl rfl (hb hby at_128)
  have V20 : AV Z h20 b1 .long 19 (lst [(.long (1 : Int64)), (.long (10 : Int64)), (.long (100 : Int64)), (.long (1000 : Int64)), (.long (10000 : Int64)), (.long (100000 : Int64)), (.long (1000000 : Int64)), (.long (10000000 : Int64)), (.long (100000000 : Int64)), (.long (1000000000 : Int64)), (.long (10000000000 : Int64)), (.long (100000000000 : Int64)), (.long (1000000000000 : Int64)), (.long (10000000000000 : Int64)), (.long (100000000000000 : Int64)), (.long (1000000000000000 : Int64)), (.long (10000000000000000 : Int64)), (.long (100000000000000000 : Int64)), (.long (1000000000000000000 : Int64))]) := AV.setL V19 (k := 18) (by decide) (by decide) W20 (Nat.le_of_ble_eq_true rfl) rfl
  have N20 := Fr.snoc X20 N19 gn_b1
  have Z20 : n0 ≤ h20.size := Nat.le_trans Z19 (Keep.of_wr W20).1
  refine Go.step (st20) ?_
  show Go _ _ _ _ _ _ _ T20 (mkF m 129 #[.val (.long i0), .second, .val (.int i1), .val (.int i2), .unset, .unset, .unset, .unset, .unset, .unset, .unset, .unset] [(.ref b1)])
  refine Go.step (fun tt kk => XS.astore X20.here hx rfl (hb hby at_129) rfl rfl (l' := #[.val (.long i0), .second, .val (.int i1), .val (.int i2), .val (.ref b1), .unset, .unset, .unset, .unset, .unset, .unset, .unset]) rfl kk) ?_
  show Go _ _ _ _ _ _ _ T20 (mkF m 131 #[.val (.long i0), .second, .val (.int i1), .val (.int i2), .val (.ref b1), .unset, .unset, .unset, .unset, .unset, .unset, .unset] [])
  have V21 : AV Z h20 b1 .long 19 (fun i => .long (Int64.ofNat (10 ^ i))) := V20.congr fun i hi => by
    rcases (by omega : i = 0 ∨ i = 1 ∨ i = 2 ∨ i = 3 ∨ i = 4 ∨ i = 5 ∨ i = 6 ∨ i = 7 ∨ i = 8 ∨ i = 9 ∨ i = 10 ∨ i = 11 ∨ i = 12 ∨ i = 13 ∨ i = 14 ∨ i = 15 ∨ i = 16 ∨ i = 17 ∨ i = 18) with rfl | rfl | rfl | rfl | rfl | rfl | rfl | rfl | rfl | rfl | rfl | rfl | rfl | rfl | rfl | rfl | rfl | rfl | rfl <;> rfl
  refine Go.step (fun tt kk => XS.iloadN X20.here hx rfl (hb hby at_131) rfl kk) ?_
  show Go _ _ _ _ _ _ _ T20 (mkF m 132 #[.val (.long i0), .second, .val (.int i1), .val (.int i2), .val (.ref b1), .unset, .unset, .unset, .unset, .unset, .unset, .unset] [(.int i1)])
  refine Go.step (X20.ldcInt hx hown (mvT hZ (hw _ (List.mem_of_getElem? (i := 19) rfl))) (g := (mkF m 132 #[.val (.long i0), .second, .val (.int i1), .val (.int i2), .val (.ref b1), .unset, .unset, .unset, .unset, .unset, .unset, .unset] [(.int i1)])) rfl (hb hby at_132)) ?_
  show Go _ _ _ _ _ _ _ T20 (mkF m 134 #[.val (.long i0), .second, .val (.int i1), .val (.int i2), .val (.ref b1), .unset, .unset, .unset, .unset, .unset, .unset, .unset] [(.int (2147483647 : Int32)), (.int i1)])
  refine Go.step (fun tt kk => XS.iand X20.here hx rfl (hb hby at_134) rfl kk) ?_
  show Go _ _ _ _ _ _ _ T20 (mkF m 135 #[.val (.long i0), .second, .val (.int i1), .val (.int i2), .val (.ref b1), .unset, .unset, .unset, .unset, .unset, .unset, .unset] [(.int (i1 &&& (2147483647 : Int32)))])
  refine Go.step (fun tt kk => XS.bipush X20.here hx rfl (hb hby at_135) kk) ?_
  show Go _ _ _ _ _ _ _ T20 (mkF m 137 #[.val (.long i0), .second, .val (.int i1), .val (.int i2), .val (.ref b1), .unset, .unset, .unset, .unset, .unset, .unset, .unset] [(.int (20 : Int32)), (.int (i1 &&& (2147483647 : Int32)))])
  refine Go.step (fun tt kk => iremM X20 hx rfl (hb hby at_137) rfl (by decide) kk) ?_
  show Go _ _ _ _ _ _ _ T20 (mkF m 138 #[.val (.long i0), .second, .val (.int i1), .val (.int i2), .val (.ref b1), .unset, .unset, .unset, .unset, .unset, .unset, .unset] [(.int ((i1 &&& (2147483647 : Int32)) % (20 : Int32)))])
  refine Go.step (fun tt kk => XS.istore X20.here hx rfl (hb hby at_138) rfl (l' := #[.val (.long i0), .second, .val (.int i1), .val (.int i2), .val (.ref b1), .val (.int ((i1 &&& (2147483647 : Int32)) % (20 : Int32))), .unset, .unset, .unset, .unset, .unset, .unset]) rfl kk) ?_
  show Go _ _ _ _ _ _ _ T20 (mkF m 140 #[.val (.long i0), .second, .val (.int i1), .val (.int i2), .val (.ref b1), .val (.int ((i1 &&& (2147483647 : Int32)) % (20 : Int32))), .unset, .unset, .unset, .unset, .unset, .unset] [])
  obtain ⟨n, hn, en⟩ := own_w i1
  rw [en]
  show Go _ _ _ _ _ _ _ T20 (mkF m 140 #[.val (.long i0), .second, .val (.int i1), .val (.int i2), .val (.ref b1), .val (.int (Int32.ofNat n)), .unset, .unset, .unset, .unset, .unset, .unset] [])
  refine Go.step (fun tt kk => XS.lloadN X20.here hx rfl (hb hby at_140) rfl kk) ?_
  show Go _ _ _ _ _ _ _ T20 (mkF m 141 #[.val (.long i0), .second, .val (.int i1), .val (.int i2), .val (.ref b1), .val (.int (Int32.ofNat n)), .unset, .unset, .unset, .unset, .unset, .unset] [(.long i0)])
  refine Go.step (X20.ldc2Long hx hown (mvT hZ (hw _ (List.mem_of_getElem? (i := 20) rfl))) (g := (mkF m 141 #[.val (.long i0), .second, .val (.int i1), .val (.int i2), .val (.ref b1), .val (.int (Int32.ofNat n)), .unset, .unset, .unset, .unset, .unset, .unset] [(.long i0)])) rfl (hb hby at_141)) ?_
  show Go _ _ _ _ _ _ _ T20 (mkF m 144 #[.val (.long i0), .second, .val (.int i1), .val (.int i2), .val (.ref b1), .val (.int (Int32.ofNat n)), .unset, .unset, .unset, .unset, .unset, .unset] [(.long (9223372036854775807 : Int64)), (.long i0)])
  refine Go.step (fun tt kk => XS.land X20.here hx rfl (hb hby at_144) rfl kk) ?_
  show Go _ _ _ _ _ _ _ T20 (mkF m 145 #[.val (.long i0), .second, .val (.int i1), .val (.int i2), .val (.ref b1), .val (.int (Int32.ofNat n)), .unset, .unset, .unset, .unset, .unset, .unset] [(.long (i0 &&& (9223372036854775807 : Int64)))])
  refine Go.step (fun tt kk => XS.lstore X20.here hx rfl (hb hby at_145) rfl (l' := #[.val (.long i0), .second, .val (.int i1), .val (.int i2), .val (.ref b1), .val (.int (Int32.ofNat n)), .val (.long (i0 &&& (9223372036854775807 : Int64))), .second, .unset, .unset, .unset, .unset]) rfl kk) ?_
  show Go _ _ _ _ _ _ _ T20 (mkF m 147 #[.val (.long i0), .second, .val (.int i1), .val (.int i2), .val (.ref b1), .val (.int (Int32.ofNat n)), .val (.long (i0 &&& (9223372036854775807 : Int64))), .second, .unset, .unset, .unset, .unset] [])
  obtain ⟨M, hM, eM⟩ := own_m i0
  rw [eM]
  show Go _ _ _ _ _ _ _ T20 (mkF m 147 #[.val (.long i0), .second, .val (.int i1), .val (.int i2), .val (.ref b1), .val (.int (Int32.ofNat n)), .val (.long (Int64.ofNat M)), .second, .unset, .unset, .unset, .unset] [])
  refine Go.step (fun tt kk => XS.iload X20.here hx rfl (hb hby at_147) rfl kk) ?_
  show Go _ _ _ _ _ _ _ T20 (mkF m 149 #[.val (.long i0), .second, .val (.int i1), .val (.int i2), .val (.ref b1), .val (.int (Int32.ofNat n)), .val (.long (Int64.ofNat M)), .second, .unset, .unset, .unset, .unset] [(.int (Int32.ofNat n))])
  refine Go.step (fun tt kk => XS.bipush X20.here hx rfl (hb hby at_149) kk) ?_
  show Go _ _ _ _ _ _ _ T20 (mkF m 151 #[.val (.long i0), .second, .val (.int i1), .val (.int i2), .val (.ref b1), .val (.int (Int32.ofNat n)), .val (.long (Int64.ofNat M)), .second, .unset, .unset, .unset, .unset] [(.int (19 : Int32)), (.int (Int32.ofNat n))])
  have j151 : ∀ P : Nat, P < 9223372036854775808 → Go p e s below 16 192 (fun v h L => v = some (.int (1 : Int32)) ∧ Fr n0 L) T20 (mkF m 164 #[.val (.long i0), .second, .val (.int i1), .val (.int i2), .val (.ref b1), .val (.int (Int32.ofNat n)), .val (.long (Int64.ofNat P)), .second, .unset, .unset, .unset, .unset] []) := by
    intro P hP
    refine Go.step (fun tt kk => XS.lload X20.here hx rfl (hb hby at_164) rfl kk) ?_
    show Go _ _ _ _ _ _ _ T20 (mkF m 166 #[.val (.long i0), .second, .val (.int i1), .val (.int i2), .val (.ref b1), .val (.int (Int32.ofNat n)), .val (.long (Int64.ofNat P)), .second, .unset, .unset, .unset, .unset] [(.long (Int64.ofNat P))])
    refine Go.step (fun tt kk => XS.iload X20.here hx rfl (hb hby at_166) rfl kk) ?_
    show Go _ _ _ _ _ _ _ T20 (mkF m 168 #[.val (.long i0), .second, .val (.int i1), .val (.int i2), .val (.ref b1), .val (.int (Int32.ofNat n)), .val (.long (Int64.ofNat P)), .second, .unset, .unset, .unset, .unset] [(.int (Int32.ofNat n)), (.long (Int64.ofNat P))])
    have f23 := (Exa.wr W20 (Exa.wr W19 (Exa.wr W18 (Exa.wr W17 (Exa.wr W16 (Exa.wr W15 (Exa.wr W14 (Exa.wr W13 (Exa.wr W12 (Exa.wr W11 (Exa.wr W10 (Exa.wr W9 (Exa.wr W8 (Exa.wr W7 (Exa.wr W6 (Exa.wr W5 (Exa.wr W4 (Exa.wr W3 (Exa.wr W2 EA1)))))))))))))))))))
    obtain ⟨v22, T22, L22, X22, q22, st22⟩ := c_static X20 hx hZ hown (y := (⟨"com/example/satzbau/satzbau/formats/transport/TransportLayout", "zeroPadded", "(JI)[B"⟩ : MethodName)) (hw _ (List.mem_of_getElem? (i := 21) rfl)) (hw _ (List.mem_of_getElem? (i := 22) rfl)) (hw _ (List.mem_of_getElem? (i := 23) rfl)) (hw _ (List.mem_of_getElem? (i := 24) rfl)) (by decide) (argsL := [(.long (Int64.ofNat P)), (.int (Int32.ofNat n))]) (rest := []) (rmZ l Z a0 hw [] P n h20 n0 Z20 hP hn) e20 pd_0 rfl (by rw [hml]; rfl) (W := 0) (by show 2 * 0 + _ ≤ _; exact Nat.le_of_eq rfl) (by decide) (by decide) (by decide) (by decide) (hb hby at_168) (Ls := #[.val (.long i0), .second, .val (.int i1), .val (.int i2), .val (.ref b1), .val (.int (Int32.ofNat n)), .val (.long (Int64.ofNat P)), .second, .unset, .unset, .unset, .unset])
    generalize e22 : T22.heap = h22 at q22
    obtain ⟨b22, rfl, N22q, K22q, sz22, V22k⟩ := q22
    have N22 := Fr.app N20 N22q
    have ne_b1_b22 : b1 ≠ b22 := Nat.ne_of_lt (Nat.lt_of_lt_of_le f23.lt sz22)
    have Z22 : n0 ≤ h22.size := Nat.le_trans Z20 K22q.1
    refine Go.step (st22) ?_
    show Go _ _ _ _ _ _ _ T22 (mkF m 171 #[.val (.long i0), .second, .val (.int i1), .val (.int i2), .val (.ref b1), .val (.int (Int32.ofNat n)), .val (.long (Int64.ofNat P)), .second, .unset, .unset, .unset, .unset] [(.ref b22)])
    refine Go.step (fun tt kk => XS.astore X22.here hx rfl (hb hby at_171) rfl rfl (l' := #[.val (.long i0), .second, .val (.int i1), .val (.int i2), .val (.ref b1), .val (.int (Int32.ofNat n)), .val (.long (Int64.ofNat P)), .second, .val (.ref b22), .unset, .unset, .unset]) rfl kk) ?_
    show Go _ _ _ _ _ _ _ T22 (mkF m 173 #[.val (.long i0), .second, .val (.int i1), .val (.int i2), .val (.ref b1), .val (.int (Int32.ofNat n)), .val (.long (Int64.ofNat P)), .second, .val (.ref b22), .unset, .unset, .unset] [])
    refine Go.step (fun tt kk => XS.aload X22.here hx rfl (hb hby at_173) rfl rfl kk) ?_
    show Go _ _ _ _ _ _ _ T22 (mkF m 175 #[.val (.long i0), .second, .val (.int i1), .val (.int i2), .val (.ref b1), .val (.int (Int32.ofNat n)), .val (.long (Int64.ofNat P)), .second, .val (.ref b22), .unset, .unset, .unset] [(.ref b22)])
    refine Go.step (a_len X22 hx hZ e22 V22k (z := (Int32.ofNat n)) (Int32.toInt_ofNat_of_lt (by omega)) (hb hby at_175)) ?_
    show Go _ _ _ _ _ _ _ T22 (mkF m 176 #[.val (.long i0), .second, .val (.int i1), .val (.int i2), .val (.ref b1), .val (.int (Int32.ofNat n)), .val (.long (Int64.ofNat P)), .second, .val (.ref b22), .unset, .unset, .unset] [(.int (Int32.ofNat n))])
    refine Go.step (fun tt kk => XS.iload X22.here hx rfl (hb hby at_176) rfl kk) ?_
    show Go _ _ _ _ _ _ _ T22 (mkF m 178 #[.val (.long i0), .second, .val (.int i1), .val (.int i2), .val (.ref b1), .val (.int (Int32.ofNat n)), .val (.long (Int64.ofNat P)), .second, .val (.ref b22), .unset, .unset, .unset] [(.int (Int32.ofNat n)), (.int (Int32.ofNat n))])
    refine Go.step (fun tt kk => XS.icmpYes X22.here hx rfl (pc0 := 178) (pc' := 183) rfl (hb hby at_178) rfl (teq rfl).1 (by decide) (by decide) kk) ?_
    show Go _ _ _ _ _ _ _ T22 (mkF m 183 #[.val (.long i0), .second, .val (.int i1), .val (.int i2), .val (.ref b1), .val (.int (Int32.ofNat n)), .val (.long (Int64.ofNat P)), .second, .val (.ref b22), .unset, .unset, .unset] [])
    refine Go.step (fun tt kk => XS.iload X22.here hx rfl (hb hby at_183) rfl kk) ?_
    show Go _ _ _ _ _ _ _ T22 (mkF m 185 #[.val (.long i0), .second, .val (.int i1), .val (.int i2), .val (.ref b1), .val (.int (Int32.ofNat n)), .val (.long (Int64.ofNat P)), .second, .val (.ref b22), .unset, .unset, .unset] [(.int (Int32.ofNat n))])
    by_cases c185_24 : (Int32.ofNat n) = (0 : Int32)
    · refine Go.step (fun tt kk => XS.ifNo X22.here hx rfl (hb hby at_185) rfl ((if0 _ _).trans (teq c185_24).2) kk) ?_
      show Go _ _ _ _ _ _ _ T22 (mkF m 188 #[.val (.long i0), .second, .val (.int i1), .val (.int i2), .val (.ref b1), .val (.int (Int32.ofNat n)), .val (.long (Int64.ofNat P)), .second, .val (.ref b22), .unset, .unset, .unset] [])
      refine Go.step (fun tt kk => XS.iconst X22.here hx rfl (hb hby at_188) kk) ?_
      show Go _ _ _ _ _ _ _ T22 (mkF m 189 #[.val (.long i0), .second, .val (.int i1), .val (.int i2), .val (.ref b1), .val (.int (Int32.ofNat n)), .val (.long (Int64.ofNat P)), .second, .val (.ref b22), .unset, .unset, .unset] [(.int (1 : Int32))])
      refine go_retN X22 hx (t := .boolean) hret (by simp) hlk (hb hby at_189) (w := (1 : Int32)) rfl ?_ (by decide) (by decide)
      try rw [e22]
      exact ⟨rfl, N22⟩
    · refine Go.step (fun tt kk => XS.ifYes X22.here hx rfl (pc0 := 185) (pc' := 190) rfl (hb hby at_185) rfl ((if0 _ _).trans (feq c185_24).2) (by decide) (by decide) kk) ?_
      show Go _ _ _ _ _ _ _ T22 (mkF m 190 #[.val (.long i0), .second, .val (.int i1), .val (.int i2), .val (.ref b1), .val (.int (Int32.ofNat n)), .val (.long (Int64.ofNat P)), .second, .val (.ref b22), .unset, .unset, .unset] [])
      have hn0 : 0 < n := by have q := mt (own_eq0 n hn).mpr c185_24; omega
      refine Go.step (fun tt kk => XS.iloadN X22.here hx rfl (hb hby at_190) rfl kk) ?_
      show Go _ _ _ _ _ _ _ T22 (mkF m 191 #[.val (.long i0), .second, .val (.int i1), .val (.int i2), .val (.ref b1), .val (.int (Int32.ofNat n)), .val (.long (Int64.ofNat P)), .second, .val (.ref b22), .unset, .unset, .unset] [(.int i2)])
      refine Go.step (X22.ldcInt hx hown (mvT hZ (hw _ (List.mem_of_getElem? (i := 19) rfl))) (g := (mkF m 191 #[.val (.long i0), .second, .val (.int i1), .val (.int i2), .val (.ref b1), .val (.int (Int32.ofNat n)), .val (.long (Int64.ofNat P)), .second, .val (.ref b22), .unset, .unset, .unset] [(.int i2)])) rfl (hb hby at_191)) ?_
      show Go _ _ _ _ _ _ _ T22 (mkF m 193 #[.val (.long i0), .second, .val (.int i1), .val (.int i2), .val (.ref b1), .val (.int (Int32.ofNat n)), .val (.long (Int64.ofNat P)), .second, .val (.ref b22), .unset, .unset, .unset] [(.int (2147483647 : Int32)), (.int i2)])
      refine Go.step (fun tt kk => XS.iand X22.here hx rfl (hb hby at_193) rfl kk) ?_
      show Go _ _ _ _ _ _ _ T22 (mkF m 194 #[.val (.long i0), .second, .val (.int i1), .val (.int i2), .val (.ref b1), .val (.int (Int32.ofNat n)), .val (.long (Int64.ofNat P)), .second, .val (.ref b22), .unset, .unset, .unset] [(.int (i2 &&& (2147483647 : Int32)))])
      refine Go.step (fun tt kk => XS.iload X22.here hx rfl (hb hby at_194) rfl kk) ?_
      show Go _ _ _ _ _ _ _ T22 (mkF m 196 #[.val (.long i0), .second, .val (.int i1), .val (.int i2), .val (.ref b1), .val (.int (Int32.ofNat n)), .val (.long (Int64.ofNat P)), .second, .val (.ref b22), .unset, .unset, .unset] [(.int (Int32.ofNat n)), (.int (i2 &&& (2147483647 : Int32)))])
      refine Go.step (fun tt kk => iremM X22 hx rfl (hb hby at_196) rfl (mt (own_eq0 n hn).mp (by omega)) kk) ?_
      show Go _ _ _ _ _ _ _ T22 (mkF m 197 #[.val (.long i0), .second, .val (.int i1), .val (.int i2), .val (.ref b1), .val (.int (Int32.ofNat n)), .val (.long (Int64.ofNat P)), .second, .val (.ref b22), .unset, .unset, .unset] [(.int ((i2 &&& (2147483647 : Int32)) % (Int32.ofNat n)))])
      refine Go.step (fun tt kk => XS.istore X22.here hx rfl (hb hby at_197) rfl (l' := #[.val (.long i0), .second, .val (.int i1), .val (.int i2), .val (.ref b1), .val (.int (Int32.ofNat n)), .val (.long (Int64.ofNat P)), .second, .val (.ref b22), .val (.int ((i2 &&& (2147483647 : Int32)) % (Int32.ofNat n))), .unset, .unset]) rfl kk) ?_
      show Go _ _ _ _ _ _ _ T22 (mkF m 199 #[.val (.long i0), .second, .val (.int i1), .val (.int i2), .val (.ref b1), .val (.int (Int32.ofNat n)), .val (.long (Int64.ofNat P)), .second, .val (.ref b22), .val (.int ((i2 &&& (2147483647 : Int32)) % (Int32.ofNat n))), .unset, .unset] [])
      obtain ⟨k, hk, ek⟩ := own_k i2 n hn0 hn
      rw [ek]
      show Go _ _ _ _ _ _ _ T22 (mkF m 199 #[.val (.long i0), .second, .val (.int i1), .val (.int i2), .val (.ref b1), .val (.int (Int32.ofNat n)), .val (.long (Int64.ofNat P)), .second, .val (.ref b22), .val (.int (Int32.ofNat k)), .unset, .unset] [])
      refine Go.step (fun tt kk => XS.lload X22.here hx rfl (hb hby at_199) rfl kk) ?_
      show Go _ _ _ _ _ _ _ T22 (mkF m 201 #[.val (.long i0), .second, .val (.int i1), .val (.int i2), .val (.ref b1), .val (.int (Int32.ofNat n)), .val (.long (Int64.ofNat P)), .second, .val (.ref b22), .val (.int (Int32.ofNat k)), .unset, .unset] [(.long (Int64.ofNat P))])
      refine Go.step (fun tt kk => XS.aload X22.here hx rfl (hb hby at_201) rfl rfl kk) ?_
      show Go _ _ _ _ _ _ _ T22 (mkF m 203 #[.val (.long i0), .second, .val (.int i1), .val (.int i2), .val (.ref b1), .val (.int (Int32.ofNat n)), .val (.long (Int64.ofNat P)), .second, .val (.ref b22), .val (.int (Int32.ofNat k)), .unset, .unset] [(.ref b1), (.long (Int64.ofNat P))])
      refine Go.step (fun tt kk => XS.iload X22.here hx rfl (hb hby at_203) rfl kk) ?_
      show Go _ _ _ _ _ _ _ T22 (mkF m 205 #[.val (.long i0), .second, .val (.int i1), .val (.int i2), .val (.ref b1), .val (.int (Int32.ofNat n)), .val (.long (Int64.ofNat P)), .second, .val (.ref b22), .val (.int (Int32.ofNat k)), .unset, .unset] [(.int (Int32.ofNat n)), (.ref b1), (.long (Int64.ofNat P))])
      refine Go.step (fun tt kk => XS.iconst X22.here hx rfl (hb hby at_205) kk) ?_
      show Go _ _ _ _ _ _ _ T22 (mkF m 206 #[.val (.long i0), .second, .val (.int i1), .val (.int i2), .val (.ref b1), .val (.int (Int32.ofNat n)), .val (.long (Int64.ofNat P)), .second, .val (.ref b22), .val (.int (Int32.ofNat k)), .unset, .unset] [(.int (1 : Int32)), (.int (Int32.ofNat n)), (.ref b1), (.long (Int64.ofNat P))])
      refine Go.step (fun tt kk => XS.isub X22.here hx rfl (hb hby at_206) rfl kk) ?_
      show Go _ _ _ _ _ _ _ T22 (mkF m 207 #[.val (.long i0), .second, .val (.int i1), .val (.int i2), .val (.ref b1), .val (.int (Int32.ofNat n)), .val (.long (Int64.ofNat P)), .second, .val (.ref b22), .val (.int (Int32.ofNat k)), .unset, .unset] [(.int ((Int32.ofNat n) - (1 : Int32))), (.ref b1), (.long (Int64.ofNat P))])
      refine Go.step (fun tt kk => XS.iload X22.here hx rfl (hb hby at_207) rfl kk) ?_
      show Go _ _ _ _ _ _ _ T22 (mkF m 209 #[.val (.long i0), .second, .val (.int i1), .val (.int i2), .val (.ref b1), .val (.int (Int32.ofNat n)), .val (.long (Int64.ofNat P)), .second, .val (.ref b22), .val (.int (Int32.ofNat k)), .unset, .unset] [(.int (Int32.ofNat k)), (.int ((Int32.ofNat n) - (1 : Int32))), (.ref b1), (.long (Int64.ofNat P))])
      refine Go.step (fun tt kk => XS.isub X22.here hx rfl (hb hby at_209) rfl kk) ?_
      show Go _ _ _ _ _ _ _ T22 (mkF m 210 #[.val (.long i0), .second, .val (.int i1), .val (.int i2), .val (.ref b1), .val (.int (Int32.ofNat n)), .val (.long (Int64.ofNat P)), .second, .val (.ref b22), .val (.int (Int32.ofNat k)), .unset, .unset] [(.int (((Int32.ofNat n) - (1 : Int32)) - (Int32.ofNat k))), (.ref b1), (.long (Int64.ofNat P))])
      rw [own_idx n k hk hn]
      show Go _ _ _ _ _ _ _ T22 (mkF m 210 #[.val (.long i0), .second, .val (.int i1), .val (.int i2), .val (.ref b1), .val (.int (Int32.ofNat n)), .val (.long (Int64.ofNat P)), .second, .val (.ref b22), .val (.int (Int32.ofNat k)), .unset, .unset] [(.int (Int32.ofNat (n - 1 - k))), (.ref b1), (.long (Int64.ofNat P))])
      have f25 := (V21.keep K22q nin0)
      refine Go.step (a_jload X22 hx hZ e22 f25 (k := (n - 1 - k)) (Int32.toInt_ofNat_of_lt (by omega)) (by omega) (x := (Int64.ofNat (10 ^ (n - 1 - k)))) rfl (hb hby at_210)) ?_
      show Go _ _ _ _ _ _ _ T22 (mkF m 211 #[.val (.long i0), .second, .val (.int i1), .val (.int i2), .val (.ref b1), .val (.int (Int32.ofNat n)), .val (.long (Int64.ofNat P)), .second, .val (.ref b22), .val (.int (Int32.ofNat k)), .unset, .unset] [(.long (Int64.ofNat (10 ^ (n - 1 - k)))), (.long (Int64.ofNat P))])
      refine Go.step (fun tt kk => XS.ldiv X22.here hx rfl (hb hby at_211) rfl (own_pnz (n - 1 - k) (by omega)) kk) ?_
      show Go _ _ _ _ _ _ _ T22 (mkF m 212 #[.val (.long i0), .second, .val (.int i1), .val (.int i2), .val (.ref b1), .val (.int (Int32.ofNat n)), .val (.long (Int64.ofNat P)), .second, .val (.ref b22), .val (.int (Int32.ofNat k)), .unset, .unset] [(.long ((Int64.ofNat P) / (Int64.ofNat (10 ^ (n - 1 - k)))))])
      rw [own_ldiv hP (own_p (n - 1 - k) (by omega)).1]
      show Go _ _ _ _ _ _ _ T22 (mkF m 212 #[.val (.long i0), .second, .val (.int i1), .val (.int i2), .val (.ref b1), .val (.int (Int32.ofNat n)), .val (.long (Int64.ofNat P)), .second, .val (.ref b22), .val (.int (Int32.ofNat k)), .unset, .unset] [(.long (Int64.ofNat (P / 10 ^ (n - 1 - k))))])
      refine Go.step (X22.ldc2Long hx hown (mvT hZ (hw _ (List.mem_of_getElem? (i := 1) rfl))) (g := (mkF m 212 #[.val (.long i0), .second, .val (.int i1), .val (.int i2), .val (.ref b1), .val (.int (Int32.ofNat n)), .val (.long (Int64.ofNat P)), .second, .val (.ref b22), .val (.int (Int32.ofNat k)), .unset, .unset] [(.long (Int64.ofNat (P / 10 ^ (n - 1 - k))))])) rfl (hb hby at_212)) ?_
      show Go _ _ _ _ _ _ _ T22 (mkF m 215 #[.val (.long i0), .second, .val (.int i1), .val (.int i2), .val (.ref b1), .val (.int (Int32.ofNat n)), .val (.long (Int64.ofNat P)), .second, .val (.ref b22), .val (.int (Int32.ofNat k)), .unset, .unset] [(.long (10 : Int64)), (.long (Int64.ofNat (P / 10 ^ (n - 1 - k))))])
      refine Go.step (fun tt kk => XS.lrem X22.here hx rfl (hb hby at_215) rfl (by decide) (by rw [lrem_mod]; exact kk)) ?_
      show Go _ _ _ _ _ _ _ T22 (mkF m 216 #[.val (.long i0), .second, .val (.int i1), .val (.int i2), .val (.ref b1), .val (.int (Int32.ofNat n)), .val (.long (Int64.ofNat P)), .second, .val (.ref b22), .val (.int (Int32.ofNat k)), .unset, .unset] [(.long ((Int64.ofNat (P / 10 ^ (n - 1 - k))) % (10 : Int64)))])
      rw [show Int64.ofNat (P / 10 ^ (n - 1 - k)) % (10 : Int64) = Int64.ofNat (P / 10 ^ (n - 1 - k) % 10) from own_lrem (Nat.lt_of_le_of_lt (Nat.div_le_self _ _) hP) (by decide)]
      show Go _ _ _ _ _ _ _ T22 (mkF m 216 #[.val (.long i0), .second, .val (.int i1), .val (.int i2), .val (.ref b1), .val (.int (Int32.ofNat n)), .val (.long (Int64.ofNat P)), .second, .val (.ref b22), .val (.int (Int32.ofNat k)), .unset, .unset] [(.long (Int64.ofNat (P / 10 ^ (n - 1 - k) % 10)))])
      refine Go.step (fun tt kk => XS.lstore X22.here hx rfl (hb hby at_216) rfl (l' := #[.val (.long i0), .second, .val (.int i1), .val (.int i2), .val (.ref b1), .val (.int (Int32.ofNat n)), .val (.long (Int64.ofNat P)), .second, .val (.ref b22), .val (.int (Int32.ofNat k)), .val (.long (Int64.ofNat (P / 10 ^ (n - 1 - k) % 10))), .second]) rfl kk) ?_
      show Go _ _ _ _ _ _ _ T22 (mkF m 218 #[.val (.long i0), .second, .val (.int i1), .val (.int i2), .val (.ref b1), .val (.int (Int32.ofNat n)), .val (.long (Int64.ofNat P)), .second, .val (.ref b22), .val (.int (Int32.ofNat k)), .val (.long (Int64.ofNat (P / 10 ^ (n - 1 - k) % 10))), .second] [])
      refine Go.step (fun tt kk => XS.aload X22.here hx rfl (hb hby at_218) rfl rfl kk) ?_
      show Go _ _ _ _ _ _ _ T22 (mkF m 220 #[.val (.long i0), .second, .val (.int i1), .val (.int i2), .val (.ref b1), .val (.int (Int32.ofNat n)), .val (.long (Int64.ofNat P)), .second, .val (.ref b22), .val (.int (Int32.ofNat k)), .val (.long (Int64.ofNat (P / 10 ^ (n - 1 - k) % 10))), .second] [(.ref b22)])
      refine Go.step (fun tt kk => XS.iload X22.here hx rfl (hb hby at_220) rfl kk) ?_
      show Go _ _ _ _ _ _ _ T22 (mkF m 222 #[.val (.long i0), .second, .val (.int i1), .val (.int i2), .val (.ref b1), .val (.int (Int32.ofNat n)), .val (.long (Int64.ofNat P)), .second, .val (.ref b22), .val (.int (Int32.ofNat k)), .val (.long (Int64.ofNat (P / 10 ^ (n - 1 - k) % 10))), .second] [(.int (Int32.ofNat k)), (.ref b22)])
      refine Go.step (a_bload X22 hx hZ e22 V22k (k := k) (Int32.toInt_ofNat_of_lt (by omega)) hk (x := (dg (P / 10 ^ (n - 1 - k) % 10))) rfl (hb hby at_222)) ?_
      show Go _ _ _ _ _ _ _ T22 (mkF m 223 #[.val (.long i0), .second, .val (.int i1), .val (.int i2), .val (.ref b1), .val (.int (Int32.ofNat n)), .val (.long (Int64.ofNat P)), .second, .val (.ref b22), .val (.int (Int32.ofNat k)), .val (.long (Int64.ofNat (P / 10 ^ (n - 1 - k) % 10))), .second] [(.int (dg (P / 10 ^ (n - 1 - k) % 10)))])
      refine Go.step (X22.ldc2Long hx hown (mvT hZ (hw _ (List.mem_of_getElem? (i := 28) rfl))) (g := (mkF m 223 #[.val (.long i0), .second, .val (.int i1), .val (.int i2), .val (.ref b1), .val (.int (Int32.ofNat n)), .val (.long (Int64.ofNat P)), .second, .val (.ref b22), .val (.int (Int32.ofNat k)), .val (.long (Int64.ofNat (P / 10 ^ (n - 1 - k) % 10))), .second] [(.int (dg (P / 10 ^ (n - 1 - k) % 10)))])) rfl (hb hby at_223)) ?_
      show Go _ _ _ _ _ _ _ T22 (mkF m 226 #[.val (.long i0), .second, .val (.int i1), .val (.int i2), .val (.ref b1), .val (.int (Int32.ofNat n)), .val (.long (Int64.ofNat P)), .second, .val (.ref b22), .val (.int (Int32.ofNat k)), .val (.long (Int64.ofNat (P / 10 ^ (n - 1 - k) % 10))), .second] [(.long (48 : Int64)), (.int (dg (P / 10 ^ (n - 1 - k) % 10)))])
      refine Go.step (fun tt kk => XS.lload X22.here hx rfl (hb hby at_226) rfl kk) ?_
      show Go _ _ _ _ _ _ _ T22 (mkF m 228 #[.val (.long i0), .second, .val (.int i1), .val (.int i2), .val (.ref b1), .val (.int (Int32.ofNat n)), .val (.long (Int64.ofNat P)), .second, .val (.ref b22), .val (.int (Int32.ofNat k)), .val (.long (Int64.ofNat (P / 10 ^ (n - 1 - k) % 10))), .second] [(.long (Int64.ofNat (P / 10 ^ (n - 1 - k) % 10))), (.long (48 : Int64)), (.int (dg (P / 10 ^ (n - 1 - k) % 10)))])
      refine Go.step (fun tt kk => XS.ladd X22.here hx rfl (hb hby at_228) rfl kk) ?_
      show Go _ _ _ _ _ _ _ T22 (mkF m 229 #[.val (.long i0), .second, .val (.int i1), .val (.int i2), .val (.ref b1), .val (.int (Int32.ofNat n)), .val (.long (Int64.ofNat P)), .second, .val (.ref b22), .val (.int (Int32.ofNat k)), .val (.long (Int64.ofNat (P / 10 ^ (n - 1 - k) % 10))), .second] [(.long ((48 : Int64) + (Int64.ofNat (P / 10 ^ (n - 1 - k) % 10)))), (.int (dg (P / 10 ^ (n - 1 - k) % 10)))])
      refine Go.step (fun tt kk => XS.l2i X22.here hx rfl (hb hby at_229) rfl kk) ?_
      show Go _ _ _ _ _ _ _ T22 (mkF m 230 #[.val (.long i0), .second, .val (.int i1), .val (.int i2), .val (.ref b1), .val (.int (Int32.ofNat n)), .val (.long (Int64.ofNat P)), .second, .val (.ref b22), .val (.int (Int32.ofNat k)), .val (.long (Int64.ofNat (P / 10 ^ (n - 1 - k) % 10))), .second] [(.int (((48 : Int64) + (Int64.ofNat (P / 10 ^ (n - 1 - k) % 10))).toInt32)), (.int (dg (P / 10 ^ (n - 1 - k) % 10)))])
      refine Go.step (fun tt kk => XS.i2b X22.here hx rfl (hb hby at_230) rfl kk) ?_
      show Go _ _ _ _ _ _ _ T22 (mkF m 231 #[.val (.long i0), .second, .val (.int i1), .val (.int i2), .val (.ref b1), .val (.int (Int32.ofNat n)), .val (.long (Int64.ofNat P)), .second, .val (.ref b22), .val (.int (Int32.ofNat k)), .val (.long (Int64.ofNat (P / 10 ^ (n - 1 - k) % 10))), .second] [(.int ((((48 : Int64) + (Int64.ofNat (P / 10 ^ (n - 1 - k) % 10))).toInt32).toInt8.toInt32)), (.int (dg (P / 10 ^ (n - 1 - k) % 10)))])
      refine Go.step (fun tt kk => XS.icmpNo X22.here hx rfl (hb hby at_231) rfl (teq rfl).2 kk) ?_
      show Go _ _ _ _ _ _ _ T22 (mkF m 234 #[.val (.long i0), .second, .val (.int i1), .val (.int i2), .val (.ref b1), .val (.int (Int32.ofNat n)), .val (.long (Int64.ofNat P)), .second, .val (.ref b22), .val (.int (Int32.ofNat k)), .val (.long (Int64.ofNat (P / 10 ^ (n - 1 - k) % 10))), .second] [])
      refine Go.step (fun tt kk => XS.iconst X22.here hx rfl (hb hby at_234) kk) ?_
      show Go _ _ _ _ _ _ _ T22 (mkF m 235 #[.val (.long i0), .second, .val (.int i1), .val (.int i2), .val (.ref b1), .val (.int (Int32.ofNat n)), .val (.long (Int64.ofNat P)), .second, .val (.ref b22), .val (.int (Int32.ofNat k)), .val (.long (Int64.ofNat (P / 10 ^ (n - 1 - k) % 10))), .second] [(.int (1 : Int32))])
      refine Go.step (fun tt kk => XS.goto X22.here hx rfl (pc0 := 235) (pc' := 239) rfl (hb hby at_235) (by decide) (by decide) kk) ?_
      show Go _ _ _ _ _ _ _ T22 (mkF m 239 #[.val (.long i0), .second, .val (.int i1), .val (.int i2), .val (.ref b1), .val (.int (Int32.ofNat n)), .val (.long (Int64.ofNat P)), .second, .val (.ref b22), .val (.int (Int32.ofNat k)), .val (.long (Int64.ofNat (P / 10 ^ (n - 1 - k) % 10))), .second] [(.int (1 : Int32))])
      refine go_retN X22 hx (t := .boolean) hret (by simp) hlk (hb hby at_239) (w := (1 : Int32)) rfl ?_ (by decide) (by decide)
      try rw [e22]
      exact ⟨rfl, N22⟩
  by_cases c151_26 : (Int32.ofNat n) < (19 : Int32)
  · refine Go.step (fun tt kk => XS.icmpNo X20.here hx rfl (hb hby at_151) rfl (tlt c151_26).2.1 kk) ?_
    show Go _ _ _ _ _ _ _ T20 (mkF m 154 #[.val (.long i0), .second, .val (.int i1), .val (.int i2), .val (.ref b1), .val (.int (Int32.ofNat n)), .val (.long (Int64.ofNat M)), .second, .unset, .unset, .unset, .unset] [])
    refine Go.step (fun tt kk => XS.lload X20.here hx rfl (hb hby at_154) rfl kk) ?_
    show Go _ _ _ _ _ _ _ T20 (mkF m 156 #[.val (.long i0), .second, .val (.int i1), .val (.int i2), .val (.ref b1), .val (.int (Int32.ofNat n)), .val (.long (Int64.ofNat M)), .second, .unset, .unset, .unset, .unset] [(.long (Int64.ofNat M))])
    refine Go.step (fun tt kk => XS.aload X20.here hx rfl (hb hby at_156) rfl rfl kk) ?_
    show Go _ _ _ _ _ _ _ T20 (mkF m 158 #[.val (.long i0), .second, .val (.int i1), .val (.int i2), .val (.ref b1), .val (.int (Int32.ofNat n)), .val (.long (Int64.ofNat M)), .second, .unset, .unset, .unset, .unset] [(.ref b1), (.long (Int64.ofNat M))])
    refine Go.step (fun tt kk => XS.iload X20.here hx rfl (hb hby at_158) rfl kk) ?_
    show Go _ _ _ _ _ _ _ T20 (mkF m 160 #[.val (.long i0), .second, .val (.int i1), .val (.int i2), .val (.ref b1), .val (.int (Int32.ofNat n)), .val (.long (Int64.ofNat M)), .second, .unset, .unset, .unset, .unset] [(.int (Int32.ofNat n)), (.ref b1), (.long (Int64.ofNat M))])
    have hn18 : n < 19 := (own_lt19 n hn).mp c151_26
    refine Go.step (a_jload X20 hx hZ e20 V21 (k := n) (Int32.toInt_ofNat_of_lt (by omega)) hn18 (x := (Int64.ofNat (10 ^ n))) rfl (hb hby at_160)) ?_
    show Go _ _ _ _ _ _ _ T20 (mkF m 161 #[.val (.long i0), .second, .val (.int i1), .val (.int i2), .val (.ref b1), .val (.int (Int32.ofNat n)), .val (.long (Int64.ofNat M)), .second, .unset, .unset, .unset, .unset] [(.long (Int64.ofNat (10 ^ n))), (.long (Int64.ofNat M))])
    refine Go.step (fun tt kk => XS.lrem X20.here hx rfl (hb hby at_161) rfl (own_pnz n (by omega)) (by rw [lrem_mod]; exact kk)) ?_
    show Go _ _ _ _ _ _ _ T20 (mkF m 162 #[.val (.long i0), .second, .val (.int i1), .val (.int i2), .val (.ref b1), .val (.int (Int32.ofNat n)), .val (.long (Int64.ofNat M)), .second, .unset, .unset, .unset, .unset] [(.long ((Int64.ofNat M) % (Int64.ofNat (10 ^ n))))])
    rw [own_lrem hM (own_p n (by omega)).1]
    show Go _ _ _ _ _ _ _ T20 (mkF m 162 #[.val (.long i0), .second, .val (.int i1), .val (.int i2), .val (.ref b1), .val (.int (Int32.ofNat n)), .val (.long (Int64.ofNat M)), .second, .unset, .unset, .unset, .unset] [(.long (Int64.ofNat (M % 10 ^ n)))])
    refine Go.step (fun tt kk => XS.lstore X20.here hx rfl (hb hby at_162) rfl (l' := #[.val (.long i0), .second, .val (.int i1), .val (.int i2), .val (.ref b1), .val (.int (Int32.ofNat n)), .val (.long (Int64.ofNat (M % 10 ^ n))), .second, .unset, .unset, .unset, .unset]) rfl kk) ?_
    show Go _ _ _ _ _ _ _ T20 (mkF m 164 #[.val (.long i0), .second, .val (.int i1), .val (.int i2), .val (.ref b1), .val (.int (Int32.ofNat n)), .val (.long (Int64.ofNat (M % 10 ^ n))), .second, .unset, .unset, .unset, .unset] [])
    exact j151 _ (Nat.lt_of_le_of_lt (Nat.mod_le _ _) hM)
  · refine Go.step (fun tt kk => XS.icmpYes X20.here hx rfl (pc0 := 151) (pc' := 164) rfl (hb hby at_151) rfl (flt c151_26).2.1 (by decide) (by decide) kk) ?_
    show Go _ _ _ _ _ _ _ T20 (mkF m 164 #[.val (.long i0), .second, .val (.int i1), .val (.int i2), .val (.ref b1), .val (.int (Int32.ofNat n)), .val (.long (Int64.ofNat M)), .second, .unset, .unset, .unset, .unset] [])
    exact j151 _ hM
set_option maxRecDepth 65536 in
set_option maxHeartbeats 40000000 in
theorem comes_1 {Post : Tables → Env → Array Value → State → Outcome → State → Prop} (hpost : ∀ tb e args s v u, (limb_1_1.after args s (.returned v) u = true ∧ limb_1_2.after args s (.returned v) u = true ∧ True) → FrameEnd s (.returned v) u (Jvm.fieldLocs frame_1_writes args s ++ Jvm.arrayLocs frame_1_arrays args s ++ Jvm.staticLocs frame_1_statics s) 16 192 → Post tb e args s (.returned v) u) :
    ArmFor flags0 classFile x code maxLocals ret World_1 tables_1 room_1 Calls_1 rest_1 Pre_1 Post := by
  intro l hfl _ _ p e ha hc hk s m args below hf hA hF happ hP
  obtain ⟨hcalls, hrest, hpre⟩ := hP
  obtain ⟨-, -, -, hnamed, -, -, -, hat⟩ := (Spec.applies_iff hf).mp happ
  obtain ⟨hg, hn⟩ := and_e (Cond.before_iff.mp (show (Jvm.Cond.and given_1 narrow_1).before args s = true from hpre))
  obtain ⟨hcnt, hg1⟩ := and_e hg
  obtain ⟨ha0, hg2⟩ := and_e hg1
  obtain ⟨ha1, hg3⟩ := and_e hg2
  obtain ⟨w0, w1, w2, rfl⟩ : ∃ w0 w1 w2 : Value, args = #[w0, w1, w2] := by
    have hs : args.size = 3 := by simpa [Cond.value, given_1] using hcnt
    obtain ⟨L⟩ := args
    match L, hs with
    | [w0, w1, w2], _ => exact ⟨w0, w1, w2, rfl⟩
  have hw := fun d (hd : d ∈ tables_1) => atoms_spec (ws := Jvm.Cond.code x code maxLocals ret :: tables_1) hat d (List.mem_cons_of_mem _ hd)
  have hfit : Fit s := fun {y c} hc i hi => by
    obtain ⟨ha, rfl⟩ := Array.getElem?_eq_some_iff.mp hc
    have q := List.all_eq_true.mp ((Array.all_eq_true_iff_forall_mem.mp hF) _ (Array.getElem_mem ha)) i (List.mem_range.mpr hi)
    simpa [Array.getElem?_eq_getElem hi] using q
  obtain ⟨i0, ei0⟩ := isL_v ha0
  obtain rfl : w0 = (.long i0) := Option.some.inj ei0
  obtain ⟨i1, ei1⟩ := is_v ha1
  obtain rfl : w1 = (.int i1) := Option.some.inj ei1
  obtain ⟨i2, ei2⟩ := is_v hg3
  obtain rfl : w2 = (.int i2) := Option.some.inj ei2
  obtain ⟨n, o, h1, h2, h3, _, L, rfl, ⟨rfl, N⟩, hq⟩ := rm0 l s _ hw tables_1 i0 i1 i2 s.heap s.heap.size (Nat.le_refl _)  p e ha hc hk s m _ below hf ((Spec.applies_iff_loose hf).mp happ).1 ⟨rfl, State.Warmed39.refl s, rfl⟩ trivial
  refine ⟨n, _, h1, h2, h3, hpost _ _ _ _ _ _ ⟨Cond.after_iff.mpr rfl, Cond.after_iff.mpr (eq_i res_at (Term.int_eval (1)) rfl), trivial⟩ ⟨hq.1, hq.2.1, (hq.2.2.sift fun y hy => Or.inr (N y hy)).mono (by decide) (by decide)⟩⟩
theorem main_1_1 : Claimed_1_1 := comes_1 fun _ _ _ _ _ _ h hF => ⟨h.1, hF⟩
theorem main_1_2 : Claimed_1_2 := comes_1 fun _ _ _ _ _ _ h hF => ⟨h.2.1, hF⟩
end Jvm.Pilot.@@N@@
namespace Jvm.Pilot.@@N@@
open Jvm Jvm.ClassFile Sem Op Lib Jvm.Free Jvm.Stand Jvm.Pilot.@@N@@.Jvm.D
/-! MADE BY PROGRAM (witnessworld.py) out of the Statement's table words and the real class files: 11 classes; the members and pool entries that the words name. The judged class is class 1, her method 1. -/
namespace start1
open Jvm.ClassFile
def u (s : String) : CpInfo := .utf8 (stringToUtf16 s)
/-- a pool by its gaps: so many unusable entries, then the entry; so many at the end -/
def gap : Nat → List CpInfo → List CpInfo
  | 0, r => r
  | n + 1, r => .unusable :: gap n r
def poolList (es : List (Nat × CpInfo)) (last : Nat) : List CpInfo := es.foldr (fun e r => gap e.1 (e.2 :: r)) (gap last [])
def pool (es : List (Nat × CpInfo)) (last : Nat) : Array CpInfo := ⟨poolList es last⟩
def fileOf (pool : Array CpInfo) (this : Nat) (attrs : Array Attribute := #[]) (ms : Array MethodInfo := #[]) (fl : Nat := 33) (sup : Nat := 0) (ifs : Array Nat := #[]) (fds : Array FieldInfo := #[]) : ClassFile where
  minorVersion := 0
  majorVersion := 65
  constantPool := pool
  accessFlags := fl
  thisClass := this
  superClass := sup
  interfaces := ifs
  fields := fds
  methods := ms
  attributes := attrs
def plain (name : String) (sup : Option ClassId) : Class where
  name := name
  kind := .ordinary
  loader := none
  accessFlags := 33
  super := sup
  interfaces := #[]
  cf := none
  fields := #[]
  methods := #[]
  instanceTypes := #[]
  staticTypes := #[]
  resolved := #[]
  callSites := []
  init := .initialized
  statics := none
  mirror := none

def pool0 : Array CpInfo := pool [(5, u "<init>"), (0, u "()V"), (1, .class_ 10), (1, u "java/lang/Object")] 113

def k0m0 : Method := { name := "<init>", desc := "()V", sig := { parameters := [], returnType := none }, accessFlags := 1, code := none }
/-- java/lang/Object -/
def k0 : Class := { plain "java/lang/Object" none with
  accessFlags := 33
  interfaces := #[]
  cf := some (fileOf pool0 8 #[] #[{ accessFlags := 1, nameIndex := 5, descriptorIndex := 6, attributes := #[] }] 33 0 #[] #[])
  fields := #[]
  methods := #[k0m0]
  instanceTypes := #[]
  staticTypes := #[]
  resolved := Array.replicate 124 none
  statics := none }

def pool1 : Array CpInfo := pool [(2, .class_ 4), (1, u "java/lang/Object"), (0, u "<init>"), (0, u "()V"), (0, .long 10), (1, .long 100), (1, .long 1000), (1, .long 10000), (1, .long 100000), (1, .long 1000000), (1, .long 10000000), (1, .long 100000000), (1, .long 1000000000), (1, .long 10000000000), (1, .long 100000000000), (1, .long 1000000000000), (1, .long 10000000000000), (1, .long 100000000000000), (1, .long 1000000000000000), (1, .long 10000000000000000), (1, .long 100000000000000000), (1, .long 1000000000000000000), (1, .integer 2147483647), (2, .long 9223372036854775807), (1, .methodref 49 50), (0, .class_ 51), (0, .nameAndType 52 53), (0, u "com/example/satzbau/satzbau/formats/transport/TransportLayout"), (0, u "zeroPadded"), (0, u "(JI)[B"), (0, .long 48), (1, .class_ 57), (0, u "com/example/satzbau/satzbau/formats/transport/TransportLayoutZeroPaddedPinLaw"), (2, u "law"), (0, u "(JII)Z")] 7

def k1m0 : Method := { name := "<init>", desc := "()V", sig := { parameters := [], returnType := none }, accessFlags := 2, code := none }
def k1c1 : Code := { maxStack := 5, maxLocals := 12, code := code, exceptionTable := #[], attributes := #[] }
def k1m1 : Method := { name := "law", desc := "(JII)Z", sig := { parameters := [.long, .int, .int], returnType := some .boolean }, accessFlags := 9, code := some k1c1 }
/-- com/example/satzbau/satzbau/formats/transport/TransportLayoutZeroPaddedPinLaw -/
def k1 : Class := { plain "com/example/satzbau/satzbau/formats/transport/TransportLayoutZeroPaddedPinLaw" (some 0) with
  accessFlags := 49
  interfaces := #[]
  cf := some (fileOf pool1 56 #[] #[{ accessFlags := 2, nameIndex := 5, descriptorIndex := 6, attributes := #[] }, { accessFlags := 9, nameIndex := 60, descriptorIndex := 61, attributes := #[] }] 49 2 #[] #[])
  fields := #[]
  methods := #[k1m0, k1m1]
  instanceTypes := #[]
  staticTypes := #[]
  resolved := Array.replicate 69 none
  statics := none }

def pool2 : Array CpInfo := pool [(2, .class_ 4), (1, u "java/lang/Object"), (0, u "<init>"), (0, u "()V"), (12, .long 48), (1, .long 10), (13, .class_ 36), (0, u "com/example/satzbau/satzbau/formats/transport/TransportLayout"), (0, u "RECORD_TYPES"), (0, u "Ljava/lang/String;"), (3, u "TRANSPORT"), (1, u "INITIAL"), (1, u "OBJECT_TABLE"), (2, u "OBJECT_NAME"), (2, u "OBJECT_TYPE"), (2, u "FILE_VERSION"), (0, u "I"), (1, u "SYSTEM_VERSION"), (1, u "FILE_TYPE"), (1, u "MAIN_TABLE"), (1, u "OBJECT_COUNT"), (1, u "COUNT_END"), (1, u "TRAILER"), (1, u "C_NAME"), (0, u "C_DATA_TYPE"), (1, u "C_LENGTH"), (1, u "C_END"), (1, u "FIELD_NUMBER"), (0, u "F_DATA_TYPE"), (0, u "F_DATA"), (1, u "M_COUNT"), (0, u "M_DATA"), (6, u "zeroPadded"), (0, u "(JI)[B")] 5

def k2m0 : Method := { name := "<init>", desc := "()V", sig := { parameters := [], returnType := none }, accessFlags := 2, code := none }
def k2c1 : Code := { maxStack := 8, maxLocals := 7, code := prog_41_method_4_code, exceptionTable := #[], attributes := #[] }
def k2m1 : Method := { name := "zeroPadded", desc := "(JI)[B", sig := { parameters := [.long, .int], returnType := some (.array .byte) }, accessFlags := 8, code := some k2c1 }
/-- com/example/satzbau/satzbau/formats/transport/TransportLayout -/
def k2 : Class := { plain "com/example/satzbau/satzbau/formats/transport/TransportLayout" (some 0) with
  accessFlags := 48
  interfaces := #[]
  cf := some (fileOf pool2 35 #[] #[{ accessFlags := 2, nameIndex := 5, descriptorIndex := 6, attributes := #[] }, { accessFlags := 8, nameIndex := 89, descriptorIndex := 90, attributes := #[] }] 48 2 #[] #[{ accessFlags := 24, nameIndex := 37, descriptorIndex := 38, attributes := #[] }, { accessFlags := 24, nameIndex := 42, descriptorIndex := 38, attributes := #[] }, { accessFlags := 24, nameIndex := 44, descriptorIndex := 38, attributes := #[] }, { accessFlags := 24, nameIndex := 46, descriptorIndex := 38, attributes := #[] }, { accessFlags := 24, nameIndex := 49, descriptorIndex := 38, attributes := #[] }, { accessFlags := 24, nameIndex := 52, descriptorIndex := 38, attributes := #[] }, { accessFlags := 24, nameIndex := 55, descriptorIndex := 56, attributes := #[] }, { accessFlags := 24, nameIndex := 58, descriptorIndex := 56, attributes := #[] }, { accessFlags := 24, nameIndex := 60, descriptorIndex := 56, attributes := #[] }, { accessFlags := 24, nameIndex := 62, descriptorIndex := 56, attributes := #[] }, { accessFlags := 24, nameIndex := 64, descriptorIndex := 56, attributes := #[] }, { accessFlags := 24, nameIndex := 66, descriptorIndex := 56, attributes := #[] }, { accessFlags := 24, nameIndex := 68, descriptorIndex := 56, attributes := #[] }, { accessFlags := 24, nameIndex := 70, descriptorIndex := 56, attributes := #[] }, { accessFlags := 24, nameIndex := 71, descriptorIndex := 56, attributes := #[] }, { accessFlags := 24, nameIndex := 73, descriptorIndex := 56, attributes := #[] }, { accessFlags := 24, nameIndex := 75, descriptorIndex := 56, attributes := #[] }, { accessFlags := 24, nameIndex := 77, descriptorIndex := 56, attributes := #[] }, { accessFlags := 24, nameIndex := 78, descriptorIndex := 56, attributes := #[] }, { accessFlags := 24, nameIndex := 79, descriptorIndex := 56, attributes := #[] }, { accessFlags := 24, nameIndex := 81, descriptorIndex := 56, attributes := #[] }, { accessFlags := 24, nameIndex := 82, descriptorIndex := 56, attributes := #[] }])
  fields := #[{ name := "RECORD_TYPES", type := (.object "java/lang/String"), accessFlags := 24, slot := 0, constantValue := 0 }, { name := "TRANSPORT", type := (.object "java/lang/String"), accessFlags := 24, slot := 1, constantValue := 0 }, { name := "INITIAL", type := (.object "java/lang/String"), accessFlags := 24, slot := 2, constantValue := 0 }, { name := "OBJECT_TABLE", type := (.object "java/lang/String"), accessFlags := 24, slot := 3, constantValue := 0 }, { name := "OBJECT_NAME", type := (.object "java/lang/String"), accessFlags := 24, slot := 4, constantValue := 0 }, { name := "OBJECT_TYPE", type := (.object "java/lang/String"), accessFlags := 24, slot := 5, constantValue := 0 }, { name := "FILE_VERSION", type := .int, accessFlags := 24, slot := 6, constantValue := 0 }, { name := "SYSTEM_VERSION", type := .int, accessFlags := 24, slot := 7, constantValue := 0 }, { name := "FILE_TYPE", type := .int, accessFlags := 24, slot := 8, constantValue := 0 }, { name := "MAIN_TABLE", type := .int, accessFlags := 24, slot := 9, constantValue := 0 }, { name := "OBJECT_COUNT", type := .int, accessFlags := 24, slot := 10, constantValue := 0 }, { name := "COUNT_END", type := .int, accessFlags := 24, slot := 11, constantValue := 0 }, { name := "TRAILER", type := .int, accessFlags := 24, slot := 12, constantValue := 0 }, { name := "C_NAME", type := .int, accessFlags := 24, slot := 13, constantValue := 0 }, { name := "C_DATA_TYPE", type := .int, accessFlags := 24, slot := 14, constantValue := 0 }, { name := "C_LENGTH", type := .int, accessFlags := 24, slot := 15, constantValue := 0 }, { name := "C_END", type := .int, accessFlags := 24, slot := 16, constantValue := 0 }, { name := "FIELD_NUMBER", type := .int, accessFlags := 24, slot := 17, constantValue := 0 }, { name := "F_DATA_TYPE", type := .int, accessFlags := 24, slot := 18, constantValue := 0 }, { name := "F_DATA", type := .int, accessFlags := 24, slot := 19, constantValue := 0 }, { name := "M_COUNT", type := .int, accessFlags := 24, slot := 20, constantValue := 0 }, { name := "M_DATA", type := .int, accessFlags := 24, slot := 21, constantValue := 0 }]
  methods := #[k2m0, k2m1]
  instanceTypes := #[]
  staticTypes := #[(.object "java/lang/String"), (.object "java/lang/String"), (.object "java/lang/String"), (.object "java/lang/String"), (.object "java/lang/String"), (.object "java/lang/String"), .int, .int, .int, .int, .int, .int, .int, .int, .int, .int, .int, .int, .int, .int, .int, .int]
  resolved := Array.replicate 96 none
  statics := none }

def pool3 : Array CpInfo := pool [(1, u "java/lang/Cloneable"), (0, .class_ 1), (0, u "java/lang/Object"), (0, .class_ 3)] 3

/-- java/lang/Cloneable -/
def k3 : Class := { plain "java/lang/Cloneable" (some 0) with
  accessFlags := 1537
  interfaces := #[]
  cf := some (fileOf pool3 2 #[] #[] 1537 4 #[] #[])
  fields := #[]
  methods := #[]
  instanceTypes := #[]
  staticTypes := #[]
  resolved := Array.replicate 8 none
  statics := none }

def pool4 : Array CpInfo := pool [(1, u "java/io/Serializable"), (0, .class_ 1), (0, u "java/lang/Object"), (0, .class_ 3)] 3

/-- java/io/Serializable -/
def k4 : Class := { plain "java/io/Serializable" (some 0) with
  accessFlags := 1537
  interfaces := #[]
  cf := some (fileOf pool4 2 #[] #[] 1537 4 #[] #[])
  fields := #[]
  methods := #[]
  instanceTypes := #[]
  staticTypes := #[]
  resolved := Array.replicate 8 none
  statics := none }

/-- the primitive byte -/
def k5 : Class := { plain "byte" none with kind := .primitive 'B', accessFlags := 0x411 }
/-- [B -/
def k6 : Class := { plain "[B" (some 0) with kind := .array 5 .byte, interfaces := #[3, 4], accessFlags := 1041 }

/-- the primitive int -/
def k7 : Class := { plain "int" none with kind := .primitive 'I', accessFlags := 0x411 }
/-- [I -/
def k8 : Class := { plain "[I" (some 0) with kind := .array 7 .int, interfaces := #[3, 4], accessFlags := 1041 }

/-- the primitive long -/
def k9 : Class := { plain "long" none with kind := .primitive 'J', accessFlags := 0x411 }
/-- [J -/
def k10 : Class := { plain "[J" (some 0) with kind := .array 9 .long, interfaces := #[3, 4], accessFlags := 1041 }

def heap : Heap := #[]
def classes : Array Class := #[k0, k1, k2, k3, k4, k5, k6, k7, k8, k9, k10]
def interned : List (Array UInt16 × Addr) := []
def slotsUsed : Nat := 0
def theMethod : MethodId := ⟨1, 1⟩
def args0 : Array Value := #[.long 5, .int 5, .int 5]
def aboutOver (below : List Frame) : State where
  vm := { classes := classes, interned := interned.toArray }
  heap := heap
  slotsUsed := slotsUsed
  threads := #[{ frames := .invoking theMethod args0 :: below }]
def below0 : List Frame := [.native { method := ⟨0, 0⟩, args := #[] }]
def about1 : State := aboutOver below0
def p0 : Program := .bare "" "" ""
def e0 : Env := launch0.env 0 0 0
theorem w_frames : about1.frames = Frame.invoking theMethod args0 :: below0 := rfl
set_option maxRecDepth 65536 in
theorem w_args : argsFit about1.vm theMethod args0 = true := by decide +kernel
set_option maxRecDepth 65536 in
theorem w_heap : heapFits about1 = true := by decide +kernel
set_option maxRecDepth 65536 in
theorem w_runnable : about1.curStatus? = some .runnable := by decide +kernel
set_option maxRecDepth 65536 in
theorem w_alone : about1.alone = true := by decide +kernel
set_option maxRecDepth 65536 in
theorem w_named : about1.methodNamed? x = some theMethod := by decide +kernel
set_option maxRecDepth 65536 in
theorem w_hears : about1.hears theMethod below0 = true := by decide +kernel
set_option maxRecDepth 65536 in
theorem w_ripe : about1.ripe theMethod args0 below0 = true := by decide +kernel
theorem w_running : about1.status = .running := rfl
set_option maxRecDepth 65536 in
theorem w_room : about1.hasRoom e0.platform room_1 = true :=
  launch0.hasRoom_least _ room_1 (by decide +kernel) (by decide +kernel) (by decide +kernel) (by decide +kernel) (by decide +kernel) (by decide +kernel)
theorem allAtoms_all (ts : List Jvm.Cond) (a : Array Jvm.Value) (st : Jvm.State) : (allAtoms ts).before a st = ts.all (fun c => c.before a st) := by
  induction ts with
  | nil => rfl
  | cons c t ih =>
    show (Jvm.Cond.and c (allAtoms t)).before a st = _
    rw [Jvm.Cond.before_and, ih, List.all_cons]
def words1 : List Jvm.Cond := Jvm.Cond.code x code maxLocals ret :: tables_1
/-- a 'code' word, met by the world's own term for the bytes: nothing is compared byte by byte -/
theorem code_word {y : MethodName} {bytes : ByteArray} {mx : Nat} {rt : Option FieldType} {a : Array Value} {s : State} {m : MethodId} {meth : Method} {c : Code} (h1 : s.methodNamed? y = some m) (h2 : s.vm.method? m = some meth) (h3 : meth.code = some c) (h4 : c.code = bytes)
    (h5 : (c.maxLocals == mx && c.exceptionTable.isEmpty && decide (c.maxStack ≤ mostOperands) && decide (meth.sig.returnType = rt) && !meth.locks && decide (parseMethodDescriptor y.desc = some meth.sig)) = true) : (Jvm.Cond.code y bytes mx rt).before a s = true := by
  simp only [Bool.and_eq_true, beq_iff_eq, Bool.not_eq_true', decide_eq_true_eq] at h5
  obtain ⟨⟨⟨⟨⟨g1, g2⟩, g3⟩, g4⟩, g5⟩, g6⟩ := h5
  simp [Cond.before, Cond.holds, Cond.value, h1, h2, h3, h4, g1, g2, g3, g4, g5, g6]
def isCode : Jvm.Cond → Bool
  | .code _ _ _ _ => true
  | _ => false
theorem all_split {L : List Jvm.Cond} {P : Jvm.Cond → Bool} (h1 : L.all (fun c => isCode c || P c) = true) (h2 : ∀ c ∈ L.filter isCode, P c = true) : L.all P = true := by
  refine List.all_eq_true.mpr fun c hc => ?_
  have h := List.all_eq_true.mp h1 c hc
  rcases Bool.eq_false_or_eq_true (isCode c) with hi | hi
  · exact h2 c (List.mem_filter.mpr ⟨hc, hi⟩)
  · simpa [hi] using h
set_option maxRecDepth 65536 in
theorem w_c0 : (Jvm.Cond.code x code maxLocals ret).before args0 about1 = true := code_word (m := ⟨1, 1⟩) (meth := k1m1) (c := k1c1) (by decide +kernel) rfl rfl rfl (by decide +kernel)
set_option maxRecDepth 65536 in
theorem w_c1 : (Jvm.Cond.code ({ cls := "com/example/satzbau/satzbau/formats/transport/TransportLayout", name := "zeroPadded", desc := "(JI)[B" } : Jvm.MethodName) prog_41_method_4_code (7 : Nat) (Option.some (Jvm.ClassFile.FieldType.array Jvm.ClassFile.FieldType.byte))).before args0 about1 = true := code_word (m := ⟨2, 1⟩) (meth := k2m1) (c := k2c1) (by decide +kernel) rfl rfl rfl (by decide +kernel)
def codes1 : List Jvm.Cond := [Jvm.Cond.code x code maxLocals ret, Jvm.Cond.code ({ cls := "com/example/satzbau/satzbau/formats/transport/TransportLayout", name := "zeroPadded", desc := "(JI)[B" } : Jvm.MethodName) prog_41_method_4_code (7 : Nat) (Option.some (Jvm.ClassFile.FieldType.array Jvm.ClassFile.FieldType.byte))]
set_option maxRecDepth 65536 in
theorem codes_eq : words1.filter isCode = codes1 := rfl
theorem w_codes : ∀ c ∈ words1.filter isCode, c.before args0 about1 = true := by
  rw [codes_eq]
  intro c hc
  simp only [codes1, List.mem_cons, List.not_mem_nil, or_false] at hc
  rcases hc with rfl | rfl
  · exact w_c0
  · exact w_c1
set_option maxRecDepth 65536 in
theorem w_t1 : (words1.take 24).all (fun c => isCode c || c.before args0 about1) = true := by decide +kernel
set_option maxRecDepth 65536 in
theorem w_t2 : (words1.drop 24).all (fun c => isCode c || c.before args0 about1) = true := by decide +kernel
theorem w_tables : (allAtoms (Jvm.Cond.code x code maxLocals ret :: tables_1)).before args0 about1 = true := by
  rw [allAtoms_all]
  show words1.all (fun c => c.before args0 about1) = true
  refine all_split ?_ w_codes
  rw [← List.take_append_drop 24 words1, List.all_append, w_t1, w_t2]
  rfl
set_option maxRecDepth 65536 in
theorem w_case : (Jvm.Cond.and given_1 narrow_1).before args0 about1 = true := by decide +kernel
theorem w_applies : (headSpec (Jvm.Cond.code x code maxLocals ret :: tables_1) room_1).applies x e0.platform about1 = true :=
  (Spec.applies_iff w_frames).mpr ⟨w_running, w_runnable, w_alone, w_named, w_hears, w_ripe, w_room, w_tables⟩
theorem atStart : AtStart classFile x code maxLocals ret World_1 tables_1 room_1 Calls_1 rest_1 Pre_1 launch0 p0 e0 about1 theMethod args0 below0 :=
  ⟨lists_1, trivial, launch0.admits_env _ _ _, launch0.least_env, fairChoices_fair.cas, fairChoices_fair.clock, w_frames, w_args, w_heap, w_applies, trivial, trivial, w_case⟩
end start1
theorem witness_1 : WitnessClaimed_1 := ⟨start1.p0, start1.e0, start1.about1, start1.theMethod, start1.args0, start1.below0, start1.atStart⟩
end Jvm.Pilot.@@N@@
