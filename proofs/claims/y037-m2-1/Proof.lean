import JvmDerived
import JvmDerived.Pilot.@@N@@Statement
import JvmDerived.Pilot.@@N@@Code
set_option linter.unusedVariables false
set_option linter.unusedSimpArgs false
namespace Jvm.RoadKit
open Sem ClassFile Op Lib Jvm.Stand Jvm.Free Jvm.LawKit
section New
variable {p : Program} {l : Launch} {e : Env} {R : Room} {s : State} {m : MethodId} {args : Array Value} {below : List Frame} {meth : Method} {c : Code} {T : State} {locs : List Loc} {cells slots : Nat}
theorem retI (X : Stand p l e R s m args below meth c T locs cells slots) (hx : p.tables.exec = Jvm.exec) {pc : Nat} {Ls : Array Slot} {z : Int32} {rest : List Value} (hret : meth.sig.returnType = some .int) (hd : decode c.code pc = .ok (.ireturn, 1)) {fs : List Frame}
    (hl : ∀ (f : JFrame) (acts : List Action), f.method = m → f.locked = none → f.entered = [] → (doReturn e (T.setTop f) acts (some (.int z))).1 = T.setFrames fs) : Steps p.tables e below (T.setTop (mkF m pc Ls (.int z :: rest))) (T.setFrames fs) := by
  have hm' : T.vm.method? m = some meth := X.method'
  have hn : narrow .int (.int z) = .int z := rfl
  show Steps p.tables e below (T.setTop { method := m, pc := pc, locals := Ls, stack := _ :: rest, locked := none }) _
  jvm_step X.here [X.here.top, hx, hd, hm', hret, hn]
  first | (intro acts; rw [hl _ acts rfl rfl rfl]) | rw [hl _ _ rfl rfl rfl]
  exact Steps.refl _
end New
end Jvm.RoadKit
namespace Jvm.Pilot.@@N@@
open Jvm Jvm.ClassFile Sem Op Lib Jvm.Free Jvm.Stand Jvm.LawKit Jvm.RoadKit Bundle Jvm.Pilot.@@N@@.Jvm.D
/-- the run from a frame of this method ends in a return with Q -/
def Go (p : Program) (e : Env) (s : State) (below : List Frame) (kc ks : Nat) (Q : Option Value → Heap → List Loc → Prop) (T : State) (f : JFrame) : Prop :=
  ∃ s₂ o, Steps p.tables e below (T.setTop f) s₂ ∧ s₂.status = .running ∧ Ended s₂ below o ∧ ∃ v L, o = .returned v ∧ Q v s₂.heap L ∧ FrameEnd s o s₂ L kc ks
/-- what is known of the method that runs -/
def Cx (p : Program) (s : State) (m : MethodId) (meth : Method) (c : Code) (Z : State) (own nm : String) (code : ByteArray) (maxL : Nat) (ret : Option FieldType) : Prop :=
  p.tables.exec = Jvm.exec ∧ Z.Warmed39 s.vm ∧ c.code = code ∧ c.maxLocals = maxL ∧ s.vm.findClass own = some m.cls ∧ meth.name = nm ∧ meth.sig.returnType = ret ∧ meth.locks = false
/-- a contract -/
def Ctr (l : Launch) (Z : State) (y : MethodName) (bytes : ByteArray) (maxL : Nat) (ret : Option FieldType) (ws : List Jvm.Cond) (rm : Room) (kc ks : Nat) (as : Array Value) (h : Heap) (Q : Option Value → Heap → List Loc → Prop) : Prop :=
  MetFree l y (head1 (Jvm.Cond.code y bytes maxL ret :: ws) rm) (fun a U => a = as ∧ Z.Warmed39 U.vm ∧ U.heap = h) (fun _ _ _ _ _ => True) (fun _ U o U' => ∃ v L, o = .returned v ∧ Q v U'.heap L ∧ FrameEnd U o U' L kc ks)
def bi (P : Prop) [Decidable P] : Int32 := if P then 1 else 0
theorem bi_t {P : Prop} [Decidable P] (h : P) : bi P = 1 := if_pos h
theorem bi_f {P : Prop} [Decidable P] (h : ¬ P) : bi P = 0 := if_neg h
theorem bi_n {P : Prop} [Decidable P] (h : P) : ¬ bi P = 0 := by rw [bi_t h]; decide
theorem bi_1 {P : Prop} [Decidable P] : bi P = 1 ↔ P := by unfold bi; split <;> simp_all
theorem bi_0 {P : Prop} [Decidable P] : bi P = 0 ↔ ¬ P := by unfold bi; split <;> simp_all
theorem bi_eq {P P' : Prop} [Decidable P] [Decidable P'] : bi P = bi P' ↔ (P ↔ P') := by unfold bi; split <;> split <;> simp_all
theorem bi_congr {P P' : Prop} [Decidable P] [Decidable P'] (h : P ↔ P') : bi P = bi P' := bi_eq.mpr h
theorem bi_fits {P : Prop} [Decidable P] : fits .boolean (.int (bi P)) = true := by unfold bi; split <;> rfl
theorem bi_nar {P : Prop} [Decidable P] : nar .boolean (bi P) = bi P := by unfold bi; split <;> rfl
section Own
variable {p : Program} {l : Launch} {e : Env} {R : Room} {s : State} {m : MethodId} {args : Array Value} {below : List Frame} {meth : Method} {c : Code} {T : State} {locs : List Loc} {cells slots kc ks : Nat} {Q : Option Value → Heap → List Loc → Prop} {Z : State} {a0 : Array Value} {h : Heap}
theorem Go.step {T' : State} {f f' : JFrame} (st : ∀ t, Steps p.tables e below (T'.setTop f') t → Steps p.tables e below (T.setTop f) t) (k : Go p e s below kc ks Q T' f') : Go p e s below kc ks Q T f := by
  obtain ⟨s₂, o, h1, r⟩ := k; exact ⟨s₂, o, st _ h1, r⟩
theorem Go.mono {Q' : Option Value → Heap → List Loc → Prop} {f : JFrame} (k : Go p e s below kc ks Q T f) (h : ∀ v h L, Q v h L → Q' v h L) : Go p e s below kc ks Q' T f := by
  obtain ⟨s₂, o, h1, h2, h3, v, L, h4, h5, h6⟩ := k; exact ⟨s₂, o, h1, h2, h3, v, L, h4, h _ _ _ h5, h6⟩
theorem Ctr.mk {y : MethodName} {bytes : ByteArray} {maxL : Nat} {ret : Option FieldType} {ws : List Jvm.Cond} {rm : Room} {as : Array Value} (hp : plainFor y = true)
    (hgo : ∀ (p : Program) (e : Env) (s : State) (m : MethodId) (below : List Frame) (meth : Method) (c : Code) (s₁ : State), Stand p l e rm s m as below meth c s₁ [] 0 0 → Cx p s m meth c Z y.cls y.name bytes maxL ret → s₁.heap = h → Go p e s below kc ks Q s₁ (entryFrame m as maxL)) :
    Ctr l Z y bytes maxL ret ws rm kc ks as h Q := by
  refine MetFree.of_bodySF hp hisR ?_
  intro p e s m args below meth c s₁ Bd hml0 hP hK
  obtain ⟨rfl, hZ, hh⟩ := hP
  exact hgo p e s m below meth c s₁ (Stand.of_body Bd) ⟨Bd.exec, hZ, Bd.bytes, hml0, findClass_of_methodNamed Bd.named, (name_of_methodNamed Bd.named Bd.method).1, Bd.returns, Bd.notSynchronized⟩ (by rw [← hh, Bd.state]; rfl)
theorem go_cast {f f' : JFrame} (q : f = f') (k : Go p e s below kc ks Q T f') : Go p e s below kc ks Q T f := q ▸ k
theorem go_retI (X : Stand p l e R s m args below meth c T locs cells slots) (hx : p.tables.exec = Jvm.exec) (hret : meth.sig.returnType = some .int) (hlk : meth.locks = false) {pc : Nat} {Ls : Array Slot} {z : Int32} {rest : List Value} (hd : decode c.code pc = .ok (.ireturn, 1))
    (hQ : Q (some (.int z)) T.heap locs) (hc : cells ≤ kc) (hs : slots ≤ ks) : Go p e s below kc ks Q T (mkF m pc Ls (.int z :: rest)) := by
  obtain ⟨fs, hr, hrun, hended, hW, hsame⟩ := X.leave (v := some (.int z)) (fun h => by rw [hret] at h; cases h) hlk
  exact ⟨_, _, retI X hx hret hd hr, hrun, hended, _, _, rfl, hQ, ⟨_, rfl⟩, hW, hsame.mono hc hs⟩
theorem go_retN (X : Stand p l e R s m args below meth c T locs cells slots) (hx : p.tables.exec = Jvm.exec) {t : FieldType} (hret : meth.sig.returnType = some t) (ht : t = .boolean ∨ t = .byte ∨ t = .char ∨ t = .short) (hlk : meth.locks = false) {pc : Nat} {Ls : Array Slot} {z w : Int32} {rest : List Value} (hd : decode c.code pc = .ok (.ireturn, 1))
    (hz : nar t z = w) (hQ : Q (some (.int w)) T.heap locs) (hc : cells ≤ kc) (hs : slots ≤ ks) : Go p e s below kc ks Q T (mkF m pc Ls (.int z :: rest)) := by
  subst hz
  obtain ⟨fs, hr, hrun, hended, hW, hsame⟩ := X.leave (v := some (.int (nar t z))) (fun h => by rw [hret] at h; cases h) hlk
  exact ⟨_, _, retN X hx hret ht hd hr, hrun, hended, _, _, rfl, hQ, ⟨_, rfl⟩, hW, hsame.mono hc hs⟩
theorem go_retJ (X : Stand p l e R s m args below meth c T locs cells slots) (hx : p.tables.exec = Jvm.exec) (hret : meth.sig.returnType = some .long) (hlk : meth.locks = false) {pc : Nat} {Ls : Array Slot} {z : Int64} (hd : decode c.code pc = .ok (.lreturn, 1))
    (hQ : Q (some (.long z)) T.heap locs) (hc : cells ≤ kc) (hs : slots ≤ ks) : Go p e s below kc ks Q T (mkF m pc Ls [.long z]) := by
  obtain ⟨fs, hr, hrun, hended, hW, hsame⟩ := X.leave (v := some (.long z)) (fun h => by rw [hret] at h; cases h) hlk
  exact ⟨_, _, X.lreturnOut hx hret hd hr, hrun, hended, _, _, rfl, hQ, ⟨_, rfl⟩, hW, hsame.mono hc hs⟩
theorem go_retA (X : Stand p l e R s m args below meth c T locs cells slots) (hx : p.tables.exec = Jvm.exec) {t : FieldType} (hret : meth.sig.returnType = some t) (ht : t.isReference = true) (hlk : meth.locks = false) {pc : Nat} {Ls : Array Slot} {w : Value} {rest : List Value} (hw : w.isRef = true) (hd : decode c.code pc = .ok (.areturn, 1))
    (hQ : Q (some w) T.heap locs) (hc : cells ≤ kc) (hs : slots ≤ ks) : Go p e s below kc ks Q T (mkF m pc Ls (w :: rest)) := by
  obtain ⟨fs, hr, hrun, hended, hW, hsame⟩ := X.leave (v := some w) (fun h => by rw [hret] at h; cases h) hlk
  have hn : narrow t w = w := by cases t <;> first | rfl | simp [FieldType.isReference] at ht
  exact ⟨_, _, retOut X hx hret hn (Or.inr (Or.inr (Or.inr (Or.inr ⟨rfl, ht, hw⟩)))) hd hr, hrun, hended, _, _, rfl, hQ, ⟨_, rfl⟩, hW, hsame.mono hc hs⟩
theorem go_ret (X : Stand p l e R s m args below meth c T locs cells slots) (hx : p.tables.exec = Jvm.exec) (hret : meth.sig.returnType = none) (hlk : meth.locks = false) {pc : Nat} {Ls : Array Slot} (hd : decode c.code pc = .ok (.return_, 1))
    (hQ : Q none T.heap locs) (hc : cells ≤ kc) (hs : slots ≤ ks) : Go p e s below kc ks Q T (mkF m pc Ls []) := by
  obtain ⟨fs, hr, hrun, hended, hW, hsame⟩ := X.leave (v := none) (fun _ => rfl) hlk
  exact ⟨_, _, X.returnOut hx hret hd hr, hrun, hended, _, _, rfl, hQ, ⟨_, rfl⟩, hW, hsame.mono hc hs⟩
/-! calls by a contract -/
section Calls
variable {own : String} {index : Nat} {y : MethodName} {bytes : ByteArray} {maxL : Nat} {ret r : Option FieldType} {rm : Room} {Qc : Option Value → Heap → List Loc → Prop} {argsL rest : List Value} {ps : List FieldType} {pc W : Nat} {Ls : Array Slot} {a : Addr}
theorem c_static (X : Stand p l e R s m args below meth c T locs cells slots) (hx : p.tables.exec = Jvm.exec) (hZ : Z.Warmed39 s.vm) (hown : s.vm.findClass own = some m.cls)
    (w1 : (Jvm.Cond.methodLink own index y).before a0 Z = true) (w2 : (Jvm.Cond.static y).before a0 Z = true) (w3 : (Jvm.Cond.initialized y.cls).before a0 Z = true) (w4 : (Jvm.Cond.code y bytes maxL ret).before a0 Z = true) (hy : y.cls ≠ "java/lang/invoke/MethodHandle" ∧ y.cls ≠ "java/lang/invoke/VarHandle")
    (hC : Ctr l Z y bytes maxL ret [] rm rm.cells rm.slots argsL.toArray h Qc) (eT : T.heap = h) (hpd : parseMethodDescriptor y.desc = some ⟨ps, r⟩) (hlen : argsL.length = ps.length) (hsz : Ls.size = c.maxLocals) (hW : 2 * 0 + (rest.map fun v => v.category).sum ≤ W)
    (hf : rm.frames + 1 ≤ R.frames) (hl : W + (maxL + 11) + rm.locals ≤ R.locals) (hc : cells + rm.cells ≤ R.cells) (hs : slots + rm.slots ≤ R.slots) (hd : decode c.code pc = .ok (.invokestatic index, 3)) :
    ∃ (v : Option Value) (T' : State) (L : List Loc), Stand p l e R s m args below meth c T' (locs ++ L) (cells + rm.cells) (slots + rm.slots) ∧ Qc v T'.heap L ∧
      ∀ t, Steps p.tables e below (T'.setTop (mkF m (pc + 3) Ls (v.toList ++ rest))) t → Steps p.tables e below (T.setTop (mkF m pc Ls (argsL.reverse ++ rest))) t := by
  obtain ⟨v, _, ⟨T', L', k', n'⟩, -, X', ⟨L, hQ, rfl, rfl, rfl⟩, st⟩ := Jvm.LawKit.callS X hx (y := y) hown (mvT hZ w1) (mvT hZ w2) (mvT hZ w3) (mvT hZ w4) hy (backOf (W := W) hC hZ w4 w3 hf hl) (g := mkF m pc Ls (argsL.reverse ++ rest)) rfl hsz (argsL := argsL) (rest := rest) (lenOf hpd hlen) rfl hW hd (fun _ _ => ⟨rfl, eT, hc, hs⟩)
  exact ⟨v, T', L, X', hQ, st⟩
theorem c_init (X : Stand p l e R s m args below meth c T locs cells slots) (hx : p.tables.exec = Jvm.exec) (hZ : Z.Warmed39 s.vm) (hown : s.vm.findClass own = some m.cls)
    (w1 : (Jvm.Cond.methodLink own index y).before a0 Z = true) (w2 : (Jvm.Cond.instanceMethod y).before a0 Z = true) (w3 : (Jvm.Cond.initialized y.cls).before a0 Z = true) (w4 : (Jvm.Cond.code y bytes maxL none).before a0 Z = true) (hn : y.name = "<init>") (hy : y.cls ≠ "java/lang/invoke/MethodHandle" ∧ y.cls ≠ "java/lang/invoke/VarHandle")
    (hC : Ctr l Z y bytes maxL none [] rm rm.cells rm.slots (.ref a :: argsL).toArray h Qc) (eT : T.heap = h) (hpd : parseMethodDescriptor y.desc = some ⟨ps, r⟩) (hlen : argsL.length = ps.length) (hsz : Ls.size = c.maxLocals) (hW : 2 * 0 + (rest.map fun v => v.category).sum ≤ W)
    (hf : rm.frames + 1 ≤ R.frames) (hl : W + (maxL + 11) + rm.locals ≤ R.locals) (hc : cells + rm.cells ≤ R.cells) (hs : slots + rm.slots ≤ R.slots) (hd : decode c.code pc = .ok (.invokespecial index, 3)) :
    ∃ (v : Option Value) (T' : State) (L : List Loc), Stand p l e R s m args below meth c T' (locs ++ L) (cells + rm.cells) (slots + rm.slots) ∧ Qc v T'.heap L ∧
      ∀ t, Steps p.tables e below (T'.setTop (mkF m (pc + 3) Ls (v.toList ++ rest))) t → Steps p.tables e below (T.setTop (mkF m pc Ls (argsL.reverse ++ .ref a :: rest))) t := by
  obtain ⟨v, _, ⟨T', L', k', n'⟩, -, X', ⟨L, hQ, rfl, rfl, rfl⟩, st⟩ := X.specialBack hx (y := y) hn hown (mvT hZ w1) (mvT hZ w2) (mvT hZ w4) hy (backOf (W := W) hC hZ w4 w3 hf hl) (g := mkF m pc Ls (argsL.reverse ++ .ref a :: rest)) rfl hsz (Steps.refl _) (a := a) (argsL := argsL) (rest := rest) (lenOf hpd hlen) rfl hW hd (fun _ _ => ⟨rfl, eT, hc, hs⟩)
  exact ⟨v, T', L, X', hQ, fun t k => st.trans k⟩
theorem c_virt {y' : MethodName} {C : String} (X : Stand p l e R s m args below meth c T locs cells slots) (hx : p.tables.exec = Jvm.exec) (hZ : Z.Warmed39 s.vm) (hown : s.vm.findClass own = some m.cls)
    (w1 : (Jvm.Cond.methodLink own index y').before a0 Z = true) (wd : (Jvm.Cond.declares y').before a0 Z = true) (nf : NotFace s y') (ws : (Jvm.Cond.selects C y' y).before a0 Z = true) (w2 : (Jvm.Cond.instanceMethod y).before a0 Z = true) (w3 : (Jvm.Cond.initialized y.cls).before a0 Z = true) (w4 : (Jvm.Cond.code y bytes maxL ret).before a0 Z = true) (hy : y'.cls ≠ "java/lang/invoke/MethodHandle" ∧ y'.cls ≠ "java/lang/invoke/VarHandle")
    (hC : Ctr l Z y bytes maxL ret [] rm rm.cells rm.slots (.ref a :: argsL).toArray h Qc) (eT : T.heap = h) (E : Exa Z h a C) (hpd : parseMethodDescriptor y'.desc = some ⟨ps, r⟩) (hlen : argsL.length = ps.length) (hsz : Ls.size = c.maxLocals) (hW : 2 * 0 + (rest.map fun v => v.category).sum ≤ W)
    (hf : rm.frames + 1 ≤ R.frames) (hl : W + (maxL + 11) + rm.locals ≤ R.locals) (hc : cells + rm.cells ≤ R.cells) (hs : slots + rm.slots ≤ R.slots) (hd : decode c.code pc = .ok (.invokevirtual index, 3)) :
    ∃ (v : Option Value) (T' : State) (L : List Loc), Stand p l e R s m args below meth c T' (locs ++ L) (cells + rm.cells) (slots + rm.slots) ∧ Qc v T'.heap L ∧
      ∀ t, Steps p.tables e below (T'.setTop (mkF m (pc + 3) Ls (v.toList ++ rest))) t → Steps p.tables e below (T.setTop (mkF m pc Ls (argsL.reverse ++ .ref a :: rest))) t := by
  obtain ⟨cq, kq, qa, qb, qc⟩ := isOf hZ eT E
  obtain ⟨v, _, ⟨T', L', k', n'⟩, -, X', ⟨L, hQ, rfl, rfl, rfl⟩, st⟩ := X.virtualBack hx (y := y') (z := y) hown (mvT hZ w1) (mvT hZ wd) nf (mvT hZ ws) (mvT hZ w2) hy (backOf (W := W) hC hZ w4 w3 hf hl) qa qc (g := mkF m pc Ls (argsL.reverse ++ .ref a :: rest)) rfl hsz (Steps.refl _) (argsL := argsL) (rest := rest) (lenOf hpd hlen) rfl hW hd (fun _ _ => ⟨rfl, eT, hc, hs⟩)
  exact ⟨v, T', L, X', hQ, fun t k => st.trans k⟩
theorem own_nf {y' z : MethodName} {C : String} {as : Array Value} (ws : (Jvm.Cond.selects C y' z).before as s = true) (h : z.cls = y.cls) : NotFace s y := fun r0 h0 => by
  obtain ⟨_, _, m2, -, -, q3, -, kP, hkP, hkPi⟩ := Cond.selects_spec ws
  have e1 := findClass_of_methodNamed q3
  rw [h] at e1
  have e2 : m2.cls = r0.cls := Option.some.inj (e1.symm.trans (findClass_of_methodNamed h0))
  exact ⟨kP, e2 ▸ hkP, hkPi⟩
/-- a private method of an object, by invokevirtual: its class isn't an interface (nf) -/
theorem c_priv {C : String} (X : Stand p l e R s m args below meth c T locs cells slots) (hx : p.tables.exec = Jvm.exec) (hZ : Z.Warmed39 s.vm) (hown : s.vm.findClass own = some m.cls)
    (w1 : (Jvm.Cond.methodLink own index y).before a0 Z = true) (w2 : (Jvm.Cond.instanceMethod y).before a0 Z = true) (nf : NotFace s y) (wp : (Jvm.Cond.privateMethod y).before a0 Z = true) (w3 : (Jvm.Cond.initialized y.cls).before a0 Z = true) (w4 : (Jvm.Cond.code y bytes maxL ret).before a0 Z = true) (hy : y.cls ≠ "java/lang/invoke/MethodHandle" ∧ y.cls ≠ "java/lang/invoke/VarHandle")
    (hC : Ctr l Z y bytes maxL ret [] rm rm.cells rm.slots (.ref a :: argsL).toArray h Qc) (eT : T.heap = h) (E : Exa Z h a C) (hpd : parseMethodDescriptor y.desc = some ⟨ps, r⟩) (hlen : argsL.length = ps.length) (hsz : Ls.size = c.maxLocals) (hW : 2 * 0 + (rest.map fun v => v.category).sum ≤ W)
    (hf : rm.frames + 1 ≤ R.frames) (hl : W + (maxL + 11) + rm.locals ≤ R.locals) (hc : cells + rm.cells ≤ R.cells) (hs : slots + rm.slots ≤ R.slots) (hd : decode c.code pc = .ok (.invokevirtual index, 3)) :
    ∃ (v : Option Value) (T' : State) (L : List Loc), Stand p l e R s m args below meth c T' (locs ++ L) (cells + rm.cells) (slots + rm.slots) ∧ Qc v T'.heap L ∧
      ∀ t, Steps p.tables e below (T'.setTop (mkF m (pc + 3) Ls (v.toList ++ rest))) t → Steps p.tables e below (T.setTop (mkF m pc Ls (argsL.reverse ++ .ref a :: rest))) t := by
  obtain ⟨cq, qa, qb⟩ := E.cell
  obtain ⟨mk, methM, hnamed, hmethM, hstM, habM⟩ := Cond.instanceMethod_spec (mvT (args := args) hZ w2)
  obtain ⟨methM', cM, hmethM', -, -, -, -, -, -, hsigM⟩ := Cond.code_spec hnamed (mvT (args := args) hZ w4)
  cases hmethM.symm.trans hmethM'
  obtain ⟨kP, hkP, hkPi⟩ := nf mk hnamed
  have hsel : selectMethod e.platform s.vm cq.cls mk = .method mk := selectMethod_private hmethM ((Cond.privateMethod_at (mvP hZ wp (args := #[]))) mk methM hnamed hmethM)
  obtain ⟨vm₁, X₁, hst⟩ := X.invokevirtual hx hown (mvT hZ w1) hnamed hmethM hstM hkP hkPi hy (a := a) (cell := cq) (by rw [eT]; exact qa) qb hsel hmethM habM hkP hkPi (g := mkF m pc Ls (argsL.reverse ++ .ref a :: rest)) rfl (argsL := argsL) (rest := rest) (lenOf hpd hlen _ hsigM) rfl hd
  obtain ⟨v, ⟨T', L', k', n'⟩, X', ⟨L, hQ, rfl, rfl, rfl⟩, hgo⟩ := (backOf (W := W) (len := 3) hC hZ w4 w3 hf hl) m meth c ⟨T.setVm vm₁, locs, cells, slots⟩ (mkF m pc Ls rest) (.invokevirtual index) mk (.ref a :: argsL).toArray X₁ rfl hsz hd hW (X₁.named hnamed) ⟨rfl, eT, hc, hs⟩
  exact ⟨v, T', L, X', hQ, fun t k => ((hst _ fun acts => by rw [doInvoke_state]; exact Steps.refl _).trans hgo).trans k⟩
/-- invokevirtual of a method that a class above the one that the entry names declares -/
theorem c_virtUp {y' : MethodName} {C owner : String} (X : Stand p l e R s m args below meth c T locs cells slots) (hx : p.tables.exec = Jvm.exec) (hZ : Z.Warmed39 s.vm) (hown : s.vm.findClass own = some m.cls)
    (w1 : (Jvm.Cond.methodLink own index y').before a0 Z = true) (wm : (Jvm.Cond.sameMethod y'.cls owner y'.name y'.desc).before a0 Z = true) (wd : (Jvm.Cond.declares ⟨owner, y'.name, y'.desc⟩).before a0 Z = true) (ws : (Jvm.Cond.selects C y' y).before a0 Z = true) (w2 : (Jvm.Cond.instanceMethod y).before a0 Z = true) (w3 : (Jvm.Cond.initialized y.cls).before a0 Z = true) (w4 : (Jvm.Cond.code y bytes maxL ret).before a0 Z = true) (hy : owner ≠ "java/lang/invoke/MethodHandle" ∧ owner ≠ "java/lang/invoke/VarHandle")
    (hC : Ctr l Z y bytes maxL ret [] rm rm.cells rm.slots (.ref a :: argsL).toArray h Qc) (eT : T.heap = h) (E : Exa Z h a C) (hpd : parseMethodDescriptor y'.desc = some ⟨ps, r⟩) (hlen : argsL.length = ps.length) (hsz : Ls.size = c.maxLocals) (hW : 2 * 0 + (rest.map fun v => v.category).sum ≤ W)
    (hf : rm.frames + 1 ≤ R.frames) (hl : W + (maxL + 11) + rm.locals ≤ R.locals) (hc : cells + rm.cells ≤ R.cells) (hs : slots + rm.slots ≤ R.slots) (hd : decode c.code pc = .ok (.invokevirtual index, 3)) :
    ∃ (v : Option Value) (T' : State) (L : List Loc), Stand p l e R s m args below meth c T' (locs ++ L) (cells + rm.cells) (slots + rm.slots) ∧ Qc v T'.heap L ∧
      ∀ t, Steps p.tables e below (T'.setTop (mkF m (pc + 3) Ls (v.toList ++ rest))) t → Steps p.tables e below (T.setTop (mkF m pc Ls (argsL.reverse ++ .ref a :: rest))) t := by
  obtain ⟨cq, kq, qa, qb, qc⟩ := isOf hZ eT E
  obtain ⟨v, _, ⟨T', L', k', n'⟩, -, X', ⟨L, hQ, rfl, rfl, rfl⟩, st⟩ := X.virtualBackUp hx (x := y') (y := y) hown (mvT hZ w1) (mvT hZ wm) (mvT hZ wd) hy (mvT hZ ws) (mvT hZ w2) (backOf (W := W) hC hZ w4 w3 hf hl) qa qc (g := mkF m pc Ls (argsL.reverse ++ .ref a :: rest)) rfl hsz (Steps.refl _) (argsL := argsL) (rest := rest) (lenOf hpd hlen) rfl hW hd (fun _ _ => ⟨rfl, eT, hc, hs⟩)
  exact ⟨v, T', L, X', hQ, fun t k => st.trans k⟩
end Calls
end Own
/-! arrays by a function of the place -/
def upd (f : Nat → Value) (k : Nat) (v : Value) : Nat → Value := fun i => if i = k then v else f i
def lst (L : List Value) : Nat → Value := fun i => L.getD i .null
theorem upd_eq {f : Nat → Value} {k : Nat} {v : Value} : upd f k v k = v := if_pos rfl
theorem upd_ne {f : Nat → Value} {k i : Nat} {v : Value} (h : i ≠ k) : upd f k v i = f i := if_neg h
def AV (Z : State) (h : Heap) (a : Addr) (ty : FieldType) (n : Nat) (f : Nat → Value) : Prop := ∃ c : Cell, Arr Z h a c ty ∧ c.slots.size = n ∧ n < 2147483648 ∧ ∀ i, i < n → c.slots[i]? = some (f i)
section Arrays
variable {Z : State} {h h' : Heap} {a b : Addr} {ty : FieldType} {n k : Nat} {f g : Nat → Value} {v w : Value} {j : Int32} {ws : List Addr} {sl : Nat}
theorem AV.lt (A : AV Z h a ty n f) : a < h.size := by obtain ⟨c, A, -⟩ := A; exact A.lt
theorem AV.ext (A : AV Z h a ty n f) (E : Ext h h') : AV Z h' a ty n f := by obtain ⟨c, A, r⟩ := A; exact ⟨c, A.ext E, r⟩
theorem AV.other (A : AV Z h b ty n f) (W : Wr h h' a sl v) (q : b ≠ a) : AV Z h' b ty n f := by obtain ⟨c, A, r⟩ := A; exact ⟨c, A.other W q, r⟩
theorem AV.keep (A : AV Z h a ty n f) (K : Keep h h' ws) (q : a ∉ ws) : AV Z h' a ty n f := by obtain ⟨c, A, r⟩ := A; exact ⟨c, ⟨K.2.1 a c A.1 q, A.2⟩, r⟩
theorem AV.congr (A : AV Z h a ty n f) (q : ∀ i, i < n → f i = g i) : AV Z h a ty n g := by obtain ⟨c, A, r1, r2, r3⟩ := A; exact ⟨c, A, r1, r2, fun i hi => by rw [r3 i hi, q i hi]⟩
theorem AV.bound (A : AV Z h a ty n f) : n < 2147483648 := by obtain ⟨c, A, r1, r2, r3⟩ := A; exact r2
theorem clamp_of (hj : j.toInt = (k : Int)) : j.toNatClampNeg = k := by show j.toInt.toNat = k; rw [hj]; rfl
theorem in_of {c : Cell} (hj : j.toInt = (k : Int)) (hs : c.slots.size = n) (hk : k < n) : ¬ (j < 0 ∨ c.slots.size ≤ j.toNatClampNeg) := by
  rw [clamp_of hj, hs, Int32.lt_iff_toInt_lt, hj]; simp only [Int32.reduceToInt]; omega
theorem AV.new {cA : ClassId} {z : Int32} (A : Arr Z h a (newA cA ty z) ty) (hz : z.toInt = (n : Int)) : AV Z h a ty n (fun _ => defaultValue ty) := by
  have q := clamp_of hz
  have hb := Int32.toInt_lt z
  refine ⟨_, A, by rw [sz_new]; exact q, by omega, fun i hi => ?_⟩
  have hi' : i < z.toNatClampNeg := by rw [q]; exact hi
  simp [newA, hi']
theorem AV.at (A : AV Z h a ty n f) (hj : j.toInt = (k : Int)) (hk : k < n) : ∃ cl : Cell, Arr Z h a cl ty ∧ ¬ (j < 0 ∨ cl.slots.size ≤ j.toNatClampNeg) ∧ cl.slots[j.toNatClampNeg]? = some (f k) := by
  obtain ⟨c, A, r1, r2, r3⟩ := A
  exact ⟨c, A, in_of hj r1 hk, by rw [clamp_of hj]; exact r3 k hk⟩
theorem AV.set (A : AV Z h a ty n f) (hj : j.toInt = (k : Int)) (hk : k < n) (W : Wr h h' a j.toNatClampNeg v) : AV Z h' a ty n (upd f k v) := by
  obtain ⟨c, A, r1, r2, r3⟩ := A
  refine ⟨_, A.same W, by rw [sz_set]; exact r1, r2, fun i hi => ?_⟩
  rw [clamp_of hj]
  by_cases e : i = k
  · subst e; simp [Cell.setSlot, r1, hi, upd]
  · rw [upd_ne e, ← r3 i hi]; exact Array.getElem?_setIfInBounds_ne (Ne.symm e)
theorem AV.setL {L L' : List Value} (A : AV Z h a ty n (lst L)) (hj : j.toInt = (k : Int)) (hk : k < n) (W : Wr h h' a j.toNatClampNeg v) (hl : k < L.length) (e : L.set k v = L') : AV Z h' a ty n (lst L') := by
  subst e
  refine (A.set hj hk W).congr fun i hi => ?_
  by_cases q : i = k
  · subst q; simp [upd, lst, List.getD_eq_getElem?_getD, hl]
  · rw [upd_ne q]; simp [lst, List.getD_eq_getElem?_getD, List.getElem?_set_ne (Ne.symm q)]
theorem AV.newL {L : List Value} (A : AV Z h a ty n (fun _ => v)) (e : L = List.replicate n v) : AV Z h a ty n (lst L) := by
  subst e; refine A.congr fun i hi => ?_
  simp [lst, List.getD_eq_getElem?_getD, List.getElem?_replicate, hi]
theorem AV.len (A : AV Z h a ty n f) : ∃ cl : Cell, Arr Z h a cl ty ∧ cl.slots.size.toInt32 = Int32.ofNat n := by
  obtain ⟨c, A, r1, r2, r3⟩ := A; exact ⟨c, A, by rw [r1]⟩
theorem own_cls {cA : ClassId} {z : Int32} {ad : String} (A : Arr Z h a (newA cA ty z) ty) (E : Exa Z h a ad) : Z.vm.findClass ad = some cA := by
  obtain ⟨cell, k, e1, e2, -⟩ := E
  cases A.1.symm.trans e1
  exact e2
theorem own_sto {cA : ClassId} {cl : Cell} {ad C : String} {y : Addr} (A : Arr Z h a cl ty) (E : Exa Z h a ad) (hA : Z.vm.findClass ad = some cA) (O : Ovr Z cA C) (I : Ins Z h y C true) : Sto Z h a (.ref y) := by
  obtain ⟨cell, k, e1, e2, -⟩ := E
  cases A.1.symm.trans e1
  have q : cl.cls = cA := Option.some.inj (e2.symm.trans hA)
  exact Sto.of A (q ▸ O) I
theorem own_sta_keep {C n' d : String} (F : Sta Z h C n' d v) (K : Keep h h' []) : Sta Z h' C n' d v := by
  obtain ⟨cf, i, k, f, st, cell, h1, h2, h3, h4, h5, h6, h7⟩ := F
  exact ⟨cf, i, k, f, st, cell, h1, h2, h3, h4, K.2.1 _ _ h5 (fun q => nomatch q), h6, h7⟩
end Arrays
section ASteps
variable {p : Program} {l : Launch} {e : Env} {R : Room} {s : State} {m : MethodId} {args : Array Value} {below : List Frame} {meth : Method} {c : Code} {T : State} {locs : List Loc} {cells slots : Nat} {Z : State} {a0 : Array Value} {h : Heap} {a : Addr} {n k pc : Nat} {f : Nat → Value} {j : Int32} {Ls : Array Slot} {rest : List Value}
theorem a_iload (X : Stand p l e R s m args below meth c T locs cells slots) (hx : p.tables.exec = Jvm.exec) (hZ : Z.Warmed39 s.vm) (eT : T.heap = h) (A : AV Z h a .int n f) (hj : j.toInt = (k : Int)) (hk : k < n) {x : Int32} (hv : f k = .int x) (hd : decode c.code pc = .ok (.iaload, 1)) :
    ∀ t, Steps p.tables e below (T.setTop (mkF m (pc + 1) Ls (.int x :: rest))) t → Steps p.tables e below (T.setTop (mkF m pc Ls (.int j :: .ref a :: rest))) t := by
  obtain ⟨cl, A, hin, hat⟩ := A.at hj hk
  rw [hv] at hat
  exact X.iaload hx (j := j) (v := .int x) (by rw [eT]; exact A.1) (State.isArrayOf_alike hZ.alike A.2.1) A.2.2 hin hat (g := mkF m pc Ls (.int j :: .ref a :: rest)) rfl rfl hd
theorem a_cload (X : Stand p l e R s m args below meth c T locs cells slots) (hx : p.tables.exec = Jvm.exec) (hZ : Z.Warmed39 s.vm) (eT : T.heap = h) (A : AV Z h a .char n f) (hj : j.toInt = (k : Int)) (hk : k < n) {x : Int32} (hv : f k = .int x) (hd : decode c.code pc = .ok (.caload, 1)) :
    ∀ t, Steps p.tables e below (T.setTop (mkF m (pc + 1) Ls (.int x :: rest))) t → Steps p.tables e below (T.setTop (mkF m pc Ls (.int j :: .ref a :: rest))) t := by
  obtain ⟨cl, A, hin, hat⟩ := A.at hj hk
  rw [hv] at hat
  exact X.caload hx (j := j) (v := .int x) (by rw [eT]; exact A.1) (State.isArrayOf_alike hZ.alike A.2.1) A.2.2 hin hat (g := mkF m pc Ls (.int j :: .ref a :: rest)) rfl rfl hd
theorem a_bload (X : Stand p l e R s m args below meth c T locs cells slots) (hx : p.tables.exec = Jvm.exec) (hZ : Z.Warmed39 s.vm) (eT : T.heap = h) (A : AV Z h a .byte n f) (hj : j.toInt = (k : Int)) (hk : k < n) {x : Int32} (hv : f k = .int x) (hd : decode c.code pc = .ok (.baload, 1)) :
    ∀ t, Steps p.tables e below (T.setTop (mkF m (pc + 1) Ls (.int x :: rest))) t → Steps p.tables e below (T.setTop (mkF m pc Ls (.int j :: .ref a :: rest))) t := by
  obtain ⟨cl, A, hin, hat⟩ := A.at hj hk
  rw [hv] at hat
  exact X.baloadBytes hx (j := j) (v := .int x) (by rw [eT]; exact A.1) (State.isArrayOf_alike hZ.alike A.2.1) A.2.2 hin hat (g := mkF m pc Ls (.int j :: .ref a :: rest)) rfl rfl hd
theorem a_jload (X : Stand p l e R s m args below meth c T locs cells slots) (hx : p.tables.exec = Jvm.exec) (hZ : Z.Warmed39 s.vm) (eT : T.heap = h) (A : AV Z h a .long n f) (hj : j.toInt = (k : Int)) (hk : k < n) {x : Int64} (hv : f k = .long x) (hd : decode c.code pc = .ok (.laload, 1)) :
    ∀ t, Steps p.tables e below (T.setTop (mkF m (pc + 1) Ls (.long x :: rest))) t → Steps p.tables e below (T.setTop (mkF m pc Ls (.int j :: .ref a :: rest))) t := by
  obtain ⟨cl, A, hin, hat⟩ := A.at hj hk
  rw [hv] at hat
  exact X.laload hx (j := j) (v := .long x) (by rw [eT]; exact A.1) (State.isArrayOf_alike hZ.alike A.2.1) A.2.2 hin hat (g := mkF m pc Ls (.int j :: .ref a :: rest)) rfl rfl hd
theorem a_rload {ty : FieldType} (X : Stand p l e R s m args below meth c T locs cells slots) (hx : p.tables.exec = Jvm.exec) (hZ : Z.Warmed39 s.vm) (eT : T.heap = h) (A : AV Z h a ty n f) (ht : ty.isReference = true) (hj : j.toInt = (k : Int)) (hk : k < n) {v : Value} (hv : f k = v) (hd : decode c.code pc = .ok (.aaload, 1)) :
    ∀ t, Steps p.tables e below (T.setTop (mkF m (pc + 1) Ls (v :: rest))) t → Steps p.tables e below (T.setTop (mkF m pc Ls (.int j :: .ref a :: rest))) t := by
  obtain ⟨cl, A, hin, hat⟩ := A.at hj hk
  rw [hv] at hat
  exact X.aaload hx (j := j) (v := v) (by rw [eT]; exact A.1) (State.isArrayOf_alike hZ.alike A.2.1) ht A.2.2 hin hat (g := mkF m pc Ls (.int j :: .ref a :: rest)) rfl rfl hd
theorem a_len {ty : FieldType} (X : Stand p l e R s m args below meth c T locs cells slots) (hx : p.tables.exec = Jvm.exec) (hZ : Z.Warmed39 s.vm) (eT : T.heap = h) (A : AV Z h a ty n f) {z : Int32} (hz : z.toInt = (n : Int)) (hd : decode c.code pc = .ok (.arraylength, 1)) :
    ∀ t, Steps p.tables e below (T.setTop (mkF m (pc + 1) Ls (.int z :: rest))) t → Steps p.tables e below (T.setTop (mkF m pc Ls (.ref a :: rest))) t := by
  obtain ⟨cl, A, hin⟩ := A.len
  have hb := Int32.toInt_lt z
  have q : cl.slots.size.toInt32 = z := by rw [hin]; exact Int32.toInt_inj.mp (by rw [hz]; exact Int32.toInt_ofNat_of_lt (by omega))
  intro t k
  refine X.arraylength hx (by rw [eT]; exact A.1) (State.isArrayOf_alike hZ.alike A.2.1) (g := mkF m pc Ls (.ref a :: rest)) rfl rfl hd _ ?_
  rw [q]; exact k
end ASteps
abbrev sel (x y : Int32) (c0 c1 c2 c3 : Addr) : Addr := if y = (1 : Int32) then c0 else if x = (0 : Int32) then c1 else if x = (y - (1 : Int32)) then c2 else c3
abbrev OkI (x y : Int32) : Prop := 0 ≤ x.toInt ∧ x.toInt < y.toInt
theorem own_sub1 (y : Int32) (h : 1 ≤ y.toInt) : (y - (1 : Int32)).toInt = y.toInt - 1 := by
  have h1 := c_isub y 1; have h2 := rng32 (y - 1); have h3 := rng32 y; simp only [Int32.reduceToInt] at *; omega
theorem own_sel {P : Addr → Prop} {x y : Int32} {c0 c1 c2 c3 : Addr} (h0 : P c0) (h1 : P c1) (h2 : P c2) (h3 : P c3) : P (sel x y c0 c1 c2 c3) := by
  unfold sel; split
  · exact h0
  · split
    · exact h1
    · split
      · exact h2
      · exact h3
theorem own_st {x y : Int32} {c0 c1 c2 c3 : Addr} (h : OkI x y) (n01 : c0 ≠ c1) (n02 : c0 ≠ c2) (n03 : c0 ≠ c3) (n12 : c1 ≠ c2) (n13 : c1 ≠ c3) : (sel x y c0 c1 c2 c3 = c0 ∨ sel x y c0 c1 c2 c3 = c1) ↔ x = (0 : Int32) := by
  unfold sel
  by_cases q : y = 1
  · rw [if_pos q]; subst q
    have : x = 0 := Int32.toInt_inj.mp (by have := h.1; have := h.2; simp only [Int32.reduceToInt] at *; omega)
    simp [this]
  · rw [if_neg q]
    by_cases r : x = 0
    · rw [if_pos r]; simp [r]
    · rw [if_neg r]
      refine iff_of_false ?_ r
      split
      · rintro (e | e)
        · exact n02 e.symm
        · exact n12 e.symm
      · rintro (e | e)
        · exact n03 e.symm
        · exact n13 e.symm
theorem own_en {x y : Int32} {c0 c1 c2 c3 : Addr} (h : OkI x y) (n01 : c0 ≠ c1) (n02 : c0 ≠ c2) (n03 : c0 ≠ c3) (n12 : c1 ≠ c2) (n23 : c2 ≠ c3) : (sel x y c0 c1 c2 c3 = c0 ∨ sel x y c0 c1 c2 c3 = c2) ↔ x = (y - (1 : Int32)) := by
  have hs := own_sub1 y (by have := h.1; have := h.2; omega)
  unfold sel
  by_cases q : y = 1
  · rw [if_pos q]; subst q
    have : x = 0 := Int32.toInt_inj.mp (by have := h.1; have := h.2; simp only [Int32.reduceToInt] at *; omega)
    subst this; simp
  · rw [if_neg q]
    by_cases r : x = 0
    · rw [if_pos r]
      refine iff_of_false ?_ ?_
      · rintro (e | e)
        · exact n01 e.symm
        · exact n12 e
      · intro e
        refine q (Int32.toInt_inj.mp ?_)
        have e2 := congrArg Int32.toInt e
        rw [hs, r] at e2
        simp only [Int32.reduceToInt] at *; omega
    · rw [if_neg r]
      by_cases t : x = y - 1
      · rw [if_pos t]; simp [t]
      · rw [if_neg t]
        refine iff_of_false ?_ t
        rintro (e | e)
        · exact n03 e.symm
        · exact n23 e.symm
theorem own_c1 (c : Int32) : 1 ≤ ((1 : Int32) + (c &&& (3 : Int32))).toInt := by
  have h1 := c_mask c 3 2 (by decide) (by decide); have h2 := c_iadd 1 (c &&& 3); have h3 := rng32 (1 + (c &&& 3)); simp only [Int32.reduceToInt] at *; omega
theorem own_c2 (c : Int32) : 1 ≤ ((1 : Int32) + ((c &&& (2147483647 : Int32)) % (2147483647 : Int32))).toInt := by
  have h1 := c_mask c 2147483647 31 (by decide) (by decide); have h0 := (c_irem (c &&& 2147483647) 2147483647 2147483647 (by decide)).1; have h2 := c_iadd 1 ((c &&& 2147483647) % 2147483647); have h3 := rng32 (1 + ((c &&& 2147483647) % 2147483647)); simp only [Int32.reduceToInt] at *; omega
theorem own_i1 (y : Int32) (h : 1 ≤ y.toInt) : OkI (0 : Int32) y := by unfold OkI; simp only [Int32.reduceToInt]; omega
theorem own_i2 (y : Int32) (h : 1 ≤ y.toInt) : OkI (y - (1 : Int32)) y := by unfold OkI; rw [own_sub1 y h]; omega
theorem own_i3 (y : Int32) (h : 1 ≤ y.toInt) : OkI (y / (2 : Int32)) y := by
  have h1 := (c_idiv y 2 2 (by decide) (by decide)).1 (by omega); unfold OkI; rw [h1]; omega
theorem own_i4 (x y : Int32) (h : 1 ≤ y.toInt) : OkI ((x &&& (2147483647 : Int32)) % y) y := by
  have h1 := c_mask x 2147483647 31 (by decide) (by decide); have h2 := (c_iremV (x &&& 2147483647) y).1 (by omega) (by omega); exact ⟨h2.1, h2.2.1⟩
theorem own_ynz (y : Int32) (h : 1 ≤ y.toInt) : ¬ y = 0 := fun q => by subst q; simp only [Int32.reduceToInt] at h; omega
theorem ef_rm1 (m : MethodId) (x0 : Int32) (x1 : Int32) : entryFrame m #[(.int x0), (.int x1)] 3 = mkF m 0 #[.val (.int x0), .val (.int x1), .unset] [] := by first | (simp [entryFrame, mkF, argsToLocals, Value.category]; done) | rfl
theorem pn_0 : plainName "com/example/satzbau/satzbau/core/Segment" = true := by first | (simp [plainName, overriddenIn]; done) | decide +kernel
theorem d1_0 : decode prog_23_method_5_code 0 = .ok (.iload_n 1, 1) := by decide +kernel
theorem d1_1 : decode prog_23_method_5_code 1 = .ok (.iconst 1, 1) := by decide +kernel
theorem d1_2 : decode prog_23_method_5_code 2 = .ok (.if_icmp .ne 10, 3) := by decide +kernel
theorem d1_5 : decode prog_23_method_5_code 5 = .ok (.getstatic 3, 3) := by decide +kernel
theorem d1_8 : decode prog_23_method_5_code 8 = .ok (.astore_n 2, 1) := by decide +kernel
theorem d1_9 : decode prog_23_method_5_code 9 = .ok (.goto 32, 3) := by decide +kernel
theorem d1_41 : decode prog_23_method_5_code 41 = .ok (.aload_n 2, 1) := by decide +kernel
theorem d1_42 : decode prog_23_method_5_code 42 = .ok (.areturn, 1) := by decide +kernel
theorem d1_12 : decode prog_23_method_5_code 12 = .ok (.iload_n 0, 1) := by decide +kernel
theorem d1_13 : decode prog_23_method_5_code 13 = .ok (.ifCond .ne 10, 3) := by decide +kernel
theorem d1_16 : decode prog_23_method_5_code 16 = .ok (.getstatic 7, 3) := by decide +kernel
theorem d1_19 : decode prog_23_method_5_code 19 = .ok (.astore_n 2, 1) := by decide +kernel
theorem d1_20 : decode prog_23_method_5_code 20 = .ok (.goto 21, 3) := by decide +kernel
theorem d1_23 : decode prog_23_method_5_code 23 = .ok (.iload_n 0, 1) := by decide +kernel
theorem d1_24 : decode prog_23_method_5_code 24 = .ok (.iload_n 1, 1) := by decide +kernel
theorem d1_25 : decode prog_23_method_5_code 25 = .ok (.iconst 1, 1) := by decide +kernel
theorem d1_26 : decode prog_23_method_5_code 26 = .ok (.isub, 1) := by decide +kernel
theorem d1_27 : decode prog_23_method_5_code 27 = .ok (.if_icmp .ne 10, 3) := by decide +kernel
theorem d1_30 : decode prog_23_method_5_code 30 = .ok (.getstatic 10, 3) := by decide +kernel
theorem d1_33 : decode prog_23_method_5_code 33 = .ok (.astore_n 2, 1) := by decide +kernel
theorem d1_34 : decode prog_23_method_5_code 34 = .ok (.goto 7, 3) := by decide +kernel
theorem d1_37 : decode prog_23_method_5_code 37 = .ok (.getstatic 13, 3) := by decide +kernel
theorem d1_40 : decode prog_23_method_5_code 40 = .ok (.astore_n 2, 1) := by decide +kernel
set_option maxRecDepth 65536 in
set_option maxHeartbeats 40000000 in
theorem rm1 (l : Launch) (Z : State) (a0 : Array Value) (hw : ∀ d ∈ tables_1, d.before a0 Z = true) (ws : List Jvm.Cond) (x y : Int32) (c0 c1 c2 c3 : Addr) (h0 : Heap) (n0 : Nat) (Z0 : n0 ≤ h0.size) (S0 : Sta Z h0 "com/example/satzbau/satzbau/core/Segment" "COMPLETE" "Lcom/example/satzbau/satzbau/core/Segment;" (.ref c0)) (S1 : Sta Z h0 "com/example/satzbau/satzbau/core/Segment" "FIRST" "Lcom/example/satzbau/satzbau/core/Segment;" (.ref c1)) (S2 : Sta Z h0 "com/example/satzbau/satzbau/core/Segment" "LAST" "Lcom/example/satzbau/satzbau/core/Segment;" (.ref c2)) (S3 : Sta Z h0 "com/example/satzbau/satzbau/core/Segment" "MIDDLE" "Lcom/example/satzbau/satzbau/core/Segment;" (.ref c3)) :
    Ctr l Z (⟨"com/example/satzbau/satzbau/core/Segment", "at", "(II)Lcom/example/satzbau/satzbau/core/Segment;"⟩ : MethodName) prog_23_method_5_code 3 (some (.object "com/example/satzbau/satzbau/core/Segment")) ws ({ frames := 0, cells := 0, slots := 0, locals := 0 } : Room) 0 0 #[(.int x), (.int y)] h0 (fun v h L => v = some (.ref (sel x y c0 c1 c2 c3)) ∧ L = [] ∧ h = h0) := by
  refine Ctr.mk (plainFor_of_name pn_0) fun p e s m below meth c T0 X0 C e0 => go_cast (ef_rm1 m x y) ?_
  have N0 := Fr.nil n0
  obtain ⟨hx, hZ, hby, hml, hown, hnm, hret, hlk⟩ := C
  show Go _ _ _ _ _ _ _ T0 (mkF m 0 #[.val (.int x), .val (.int y), .unset] [])
  refine Go.step (fun t k => XS.iloadN X0.here hx rfl (hb hby d1_0) rfl k) ?_
  show Go _ _ _ _ _ _ _ T0 (mkF m 1 #[.val (.int x), .val (.int y), .unset] [(.int y)])
  refine Go.step (fun t k => XS.iconst X0.here hx rfl (hb hby d1_1) k) ?_
  show Go _ _ _ _ _ _ _ T0 (mkF m 2 #[.val (.int x), .val (.int y), .unset] [(.int (1 : Int32)), (.int y)])
  by_cases c2_1 : y = (1 : Int32)
  · refine Go.step (fun t k => XS.icmpNo X0.here hx rfl (hb hby d1_2) rfl (teq c2_1).2 k) ?_
    show Go _ _ _ _ _ _ _ T0 (mkF m 5 #[.val (.int x), .val (.int y), .unset] [])
    obtain ⟨T2, X2, e2, st2⟩ := getS2 X0 hx hZ hown (host := "") (Or.inl (hw _ (List.mem_of_getElem? (i := 4) rfl))) Via.refl e0 S0 (g := (mkF m 5 #[.val (.int x), .val (.int y), .unset] [])) rfl (hb hby d1_5)
    refine Go.step (st2) ?_
    show Go _ _ _ _ _ _ _ T2 (mkF m 8 #[.val (.int x), .val (.int y), .unset] [(.ref c0)])
    refine Go.step (fun t k => XS.astoreN X2.here hx rfl (hb hby d1_8) rfl rfl (l' := #[.val (.int x), .val (.int y), .val (.ref c0)]) rfl k) ?_
    show Go _ _ _ _ _ _ _ T2 (mkF m 9 #[.val (.int x), .val (.int y), .val (.ref c0)] [])
    refine Go.step (fun t k => XS.goto X2.here hx rfl (pc0 := 9) (pc' := 41) rfl (hb hby d1_9) (by decide) (by decide) k) ?_
    show Go _ _ _ _ _ _ _ T2 (mkF m 41 #[.val (.int x), .val (.int y), .val (.ref c0)] [])
    refine Go.step (fun t k => XS.aloadN X2.here hx rfl (hb hby d1_41) rfl rfl k) ?_
    show Go _ _ _ _ _ _ _ T2 (mkF m 42 #[.val (.int x), .val (.int y), .val (.ref c0)] [(.ref c0)])
    refine go_retA X2 hx (t := (.object "com/example/satzbau/satzbau/core/Segment")) hret rfl hlk rfl (hb hby d1_42) ?_ (by decide) (by decide)
    try rw [e2]
    exact ⟨congrArg (fun z => some (Value.ref z)) (by simp only [sel, eq_true c2_1, if_true, if_false]), rfl, rfl⟩
  · refine Go.step (fun t k => XS.icmpYes X0.here hx rfl (pc0 := 2) (pc' := 12) rfl (hb hby d1_2) rfl (feq c2_1).2 (by decide) (by decide) k) ?_
    show Go _ _ _ _ _ _ _ T0 (mkF m 12 #[.val (.int x), .val (.int y), .unset] [])
    refine Go.step (fun t k => XS.iloadN X0.here hx rfl (hb hby d1_12) rfl k) ?_
    show Go _ _ _ _ _ _ _ T0 (mkF m 13 #[.val (.int x), .val (.int y), .unset] [(.int x)])
    by_cases c13_3 : x = (0 : Int32)
    · refine Go.step (fun t k => XS.ifNo X0.here hx rfl (hb hby d1_13) rfl ((if0 _ _).trans (teq c13_3).2) k) ?_
      show Go _ _ _ _ _ _ _ T0 (mkF m 16 #[.val (.int x), .val (.int y), .unset] [])
      obtain ⟨T4, X4, e4, st4⟩ := getS2 X0 hx hZ hown (host := "") (Or.inl (hw _ (List.mem_of_getElem? (i := 19) rfl))) Via.refl e0 S1 (g := (mkF m 16 #[.val (.int x), .val (.int y), .unset] [])) rfl (hb hby d1_16)
      refine Go.step (st4) ?_
      show Go _ _ _ _ _ _ _ T4 (mkF m 19 #[.val (.int x), .val (.int y), .unset] [(.ref c1)])
      refine Go.step (fun t k => XS.astoreN X4.here hx rfl (hb hby d1_19) rfl rfl (l' := #[.val (.int x), .val (.int y), .val (.ref c1)]) rfl k) ?_
      show Go _ _ _ _ _ _ _ T4 (mkF m 20 #[.val (.int x), .val (.int y), .val (.ref c1)] [])
      refine Go.step (fun t k => XS.goto X4.here hx rfl (pc0 := 20) (pc' := 41) rfl (hb hby d1_20) (by decide) (by decide) k) ?_
      show Go _ _ _ _ _ _ _ T4 (mkF m 41 #[.val (.int x), .val (.int y), .val (.ref c1)] [])
      refine Go.step (fun t k => XS.aloadN X4.here hx rfl (hb hby d1_41) rfl rfl k) ?_
      show Go _ _ _ _ _ _ _ T4 (mkF m 42 #[.val (.int x), .val (.int y), .val (.ref c1)] [(.ref c1)])
      refine go_retA X4 hx (t := (.object "com/example/satzbau/satzbau/core/Segment")) hret rfl hlk rfl (hb hby d1_42) ?_ (by decide) (by decide)
      try rw [e4]
      exact ⟨congrArg (fun z => some (Value.ref z)) (by simp only [sel, eq_false c2_1, eq_true c13_3, if_true, if_false]), rfl, rfl⟩
    · refine Go.step (fun t k => XS.ifYes X0.here hx rfl (pc0 := 13) (pc' := 23) rfl (hb hby d1_13) rfl ((if0 _ _).trans (feq c13_3).2) (by decide) (by decide) k) ?_
      show Go _ _ _ _ _ _ _ T0 (mkF m 23 #[.val (.int x), .val (.int y), .unset] [])
      refine Go.step (fun t k => XS.iloadN X0.here hx rfl (hb hby d1_23) rfl k) ?_
      show Go _ _ _ _ _ _ _ T0 (mkF m 24 #[.val (.int x), .val (.int y), .unset] [(.int x)])
      refine Go.step (fun t k => XS.iloadN X0.here hx rfl (hb hby d1_24) rfl k) ?_
      show Go _ _ _ _ _ _ _ T0 (mkF m 25 #[.val (.int x), .val (.int y), .unset] [(.int y), (.int x)])
      refine Go.step (fun t k => XS.iconst X0.here hx rfl (hb hby d1_25) k) ?_
      show Go _ _ _ _ _ _ _ T0 (mkF m 26 #[.val (.int x), .val (.int y), .unset] [(.int (1 : Int32)), (.int y), (.int x)])
      refine Go.step (fun t k => XS.isub X0.here hx rfl (hb hby d1_26) rfl k) ?_
      show Go _ _ _ _ _ _ _ T0 (mkF m 27 #[.val (.int x), .val (.int y), .unset] [(.int (y - (1 : Int32))), (.int x)])
      by_cases c27_5 : x = (y - (1 : Int32))
      · refine Go.step (fun t k => XS.icmpNo X0.here hx rfl (hb hby d1_27) rfl (teq c27_5).2 k) ?_
        show Go _ _ _ _ _ _ _ T0 (mkF m 30 #[.val (.int x), .val (.int y), .unset] [])
        obtain ⟨T6, X6, e6, st6⟩ := getS2 X0 hx hZ hown (host := "") (Or.inl (hw _ (List.mem_of_getElem? (i := 17) rfl))) Via.refl e0 S2 (g := (mkF m 30 #[.val (.int x), .val (.int y), .unset] [])) rfl (hb hby d1_30)
        refine Go.step (st6) ?_
        show Go _ _ _ _ _ _ _ T6 (mkF m 33 #[.val (.int x), .val (.int y), .unset] [(.ref c2)])
        refine Go.step (fun t k => XS.astoreN X6.here hx rfl (hb hby d1_33) rfl rfl (l' := #[.val (.int x), .val (.int y), .val (.ref c2)]) rfl k) ?_
        show Go _ _ _ _ _ _ _ T6 (mkF m 34 #[.val (.int x), .val (.int y), .val (.ref c2)] [])
        refine Go.step (fun t k => XS.goto X6.here hx rfl (pc0 := 34) (pc' := 41) rfl (hb hby d1_34) (by decide) (by decide) k) ?_
        show Go _ _ _ _ _ _ _ T6 (mkF m 41 #[.val (.int x), .val (.int y), .val (.ref c2)] [])
        refine Go.step (fun t k => XS.aloadN X6.here hx rfl (hb hby d1_41) rfl rfl k) ?_
        show Go _ _ _ _ _ _ _ T6 (mkF m 42 #[.val (.int x), .val (.int y), .val (.ref c2)] [(.ref c2)])
        refine go_retA X6 hx (t := (.object "com/example/satzbau/satzbau/core/Segment")) hret rfl hlk rfl (hb hby d1_42) ?_ (by decide) (by decide)
        try rw [e6]
        exact ⟨congrArg (fun z => some (Value.ref z)) (by simp only [sel, eq_false c2_1, eq_false c13_3, eq_true c27_5, if_true, if_false]), rfl, rfl⟩
      · refine Go.step (fun t k => XS.icmpYes X0.here hx rfl (pc0 := 27) (pc' := 37) rfl (hb hby d1_27) rfl (feq c27_5).2 (by decide) (by decide) k) ?_
        show Go _ _ _ _ _ _ _ T0 (mkF m 37 #[.val (.int x), .val (.int y), .unset] [])
        obtain ⟨T7, X7, e7, st7⟩ := getS2 X0 hx hZ hown (host := "") (Or.inl (hw _ (List.mem_of_getElem? (i := 21) rfl))) Via.refl e0 S3 (g := (mkF m 37 #[.val (.int x), .val (.int y), .unset] [])) rfl (hb hby d1_37)
        refine Go.step (st7) ?_
        show Go _ _ _ _ _ _ _ T7 (mkF m 40 #[.val (.int x), .val (.int y), .unset] [(.ref c3)])
        refine Go.step (fun t k => XS.astoreN X7.here hx rfl (hb hby d1_40) rfl rfl (l' := #[.val (.int x), .val (.int y), .val (.ref c3)]) rfl k) ?_
        show Go _ _ _ _ _ _ _ T7 (mkF m 41 #[.val (.int x), .val (.int y), .val (.ref c3)] [])
        refine Go.step (fun t k => XS.aloadN X7.here hx rfl (hb hby d1_41) rfl rfl k) ?_
        show Go _ _ _ _ _ _ _ T7 (mkF m 42 #[.val (.int x), .val (.int y), .val (.ref c3)] [(.ref c3)])
        refine go_retA X7 hx (t := (.object "com/example/satzbau/satzbau/core/Segment")) hret rfl hlk rfl (hb hby d1_42) ?_ (by decide) (by decide)
        try rw [e7]
        exact ⟨congrArg (fun z => some (Value.ref z)) (by simp only [sel, eq_false c2_1, eq_false c13_3, eq_false c27_5, if_true, if_false]), rfl, rfl⟩
theorem ef_rm2 (m : MethodId) (x0 : Addr) : entryFrame m #[(.ref x0)] 1 = mkF m 0 #[.val (.ref x0)] [] := by first | (simp [entryFrame, mkF, argsToLocals, Value.category]; done) | rfl
theorem d2_0 : decode prog_23_method_7_code 0 = .ok (.aload_n 0, 1) := by decide +kernel
theorem d2_1 : decode prog_23_method_7_code 1 = .ok (.getstatic 3, 3) := by decide +kernel
theorem d2_4 : decode prog_23_method_7_code 4 = .ok (.if_acmp .eq 10, 3) := by decide +kernel
theorem d2_14 : decode prog_23_method_7_code 14 = .ok (.iconst 1, 1) := by decide +kernel
theorem d2_15 : decode prog_23_method_7_code 15 = .ok (.goto 4, 3) := by decide +kernel
theorem d2_19 : decode prog_23_method_7_code 19 = .ok (.ireturn, 1) := by decide +kernel
theorem d2_7 : decode prog_23_method_7_code 7 = .ok (.aload_n 0, 1) := by decide +kernel
theorem d2_8 : decode prog_23_method_7_code 8 = .ok (.getstatic 7, 3) := by decide +kernel
theorem d2_11 : decode prog_23_method_7_code 11 = .ok (.if_acmp .ne 7, 3) := by decide +kernel
theorem d2_18 : decode prog_23_method_7_code 18 = .ok (.iconst 0, 1) := by decide +kernel
set_option maxRecDepth 65536 in
set_option maxHeartbeats 40000000 in
theorem rm2 (l : Launch) (Z : State) (a0 : Array Value) (hw : ∀ d ∈ tables_1, d.before a0 Z = true) (ws : List Jvm.Cond) (a : Addr) (c0 c1 c2 c3 : Addr) (h0 : Heap) (n0 : Nat) (Z0 : n0 ≤ h0.size) (S0 : Sta Z h0 "com/example/satzbau/satzbau/core/Segment" "COMPLETE" "Lcom/example/satzbau/satzbau/core/Segment;" (.ref c0)) (S1 : Sta Z h0 "com/example/satzbau/satzbau/core/Segment" "FIRST" "Lcom/example/satzbau/satzbau/core/Segment;" (.ref c1)) (S2 : Sta Z h0 "com/example/satzbau/satzbau/core/Segment" "LAST" "Lcom/example/satzbau/satzbau/core/Segment;" (.ref c2)) (S3 : Sta Z h0 "com/example/satzbau/satzbau/core/Segment" "MIDDLE" "Lcom/example/satzbau/satzbau/core/Segment;" (.ref c3)) :
    Ctr l Z (⟨"com/example/satzbau/satzbau/core/Segment", "startsRecord", "()Z"⟩ : MethodName) prog_23_method_7_code 1 (some .boolean) ws ({ frames := 0, cells := 0, slots := 0, locals := 0 } : Room) 0 0 #[(.ref a)] h0 (fun v h L => v = some (.int (bi (a = c0 ∨ a = c1))) ∧ L = [] ∧ h = h0) := by
  refine Ctr.mk (plainFor_of_name pn_0) fun p e s m below meth c T0 X0 C e0 => go_cast (ef_rm2 m a) ?_
  have N0 := Fr.nil n0
  obtain ⟨hx, hZ, hby, hml, hown, hnm, hret, hlk⟩ := C
  show Go _ _ _ _ _ _ _ T0 (mkF m 0 #[.val (.ref a)] [])
  refine Go.step (fun t k => XS.aloadN X0.here hx rfl (hb hby d2_0) rfl rfl k) ?_
  show Go _ _ _ _ _ _ _ T0 (mkF m 1 #[.val (.ref a)] [(.ref a)])
  obtain ⟨T1, X1, e1, st1⟩ := getS2 X0 hx hZ hown (host := "") (Or.inl (hw _ (List.mem_of_getElem? (i := 4) rfl))) Via.refl e0 S0 (g := (mkF m 1 #[.val (.ref a)] [(.ref a)])) rfl (hb hby d2_1)
  refine Go.step (st1) ?_
  show Go _ _ _ _ _ _ _ T1 (mkF m 4 #[.val (.ref a)] [(.ref c0), (.ref a)])
  by_cases c4_2 : a = c0
  · refine Go.step (fun t k => Jvm.RoadKit.acmp (g := (mkF m 4 #[.val (.ref a)] [(.ref c0), (.ref a)])) X1 hx rfl rfl rfl (pc0 := 4) (pc' := 14) (same := true) rfl (hb hby d2_4) rfl (decide_eq_true (congrArg Value.ref c4_2)) (by decide) (by decide) k) ?_
    show Go _ _ _ _ _ _ _ T1 (mkF m 14 #[.val (.ref a)] [])
    refine Go.step (fun t k => XS.iconst X1.here hx rfl (hb hby d2_14) k) ?_
    show Go _ _ _ _ _ _ _ T1 (mkF m 15 #[.val (.ref a)] [(.int (1 : Int32))])
    refine Go.step (fun t k => XS.goto X1.here hx rfl (pc0 := 15) (pc' := 19) rfl (hb hby d2_15) (by decide) (by decide) k) ?_
    show Go _ _ _ _ _ _ _ T1 (mkF m 19 #[.val (.ref a)] [(.int (1 : Int32))])
    refine go_retN X1 hx (t := .boolean) hret (by simp) hlk (hb hby d2_19) (w := (1 : Int32)) rfl ?_ (by decide) (by decide)
    try rw [e1]
    exact ⟨congrArg (fun z => some (Value.int z)) (bi_t (by simp only [eq_true c4_2, not_true_eq_false, not_false_eq_true, and_true, true_and, and_false, false_and, or_true, true_or, or_false, false_or, and_self, or_self])).symm, rfl, rfl⟩
  · refine Go.step (fun t k => Jvm.RoadKit.acmp (g := (mkF m 4 #[.val (.ref a)] [(.ref c0), (.ref a)])) X1 hx rfl rfl rfl (pc0 := 4) (pc' := 7) (same := false) rfl (hb hby d2_4) rfl (decide_eq_false fun q => c4_2 (Value.ref.inj q)) (by decide) (by decide) k) ?_
    show Go _ _ _ _ _ _ _ T1 (mkF m 7 #[.val (.ref a)] [])
    refine Go.step (fun t k => XS.aloadN X1.here hx rfl (hb hby d2_7) rfl rfl k) ?_
    show Go _ _ _ _ _ _ _ T1 (mkF m 8 #[.val (.ref a)] [(.ref a)])
    obtain ⟨T3, X3, e3, st3⟩ := getS2 X1 hx hZ hown (host := "") (Or.inl (hw _ (List.mem_of_getElem? (i := 19) rfl))) Via.refl e1 S1 (g := (mkF m 8 #[.val (.ref a)] [(.ref a)])) rfl (hb hby d2_8)
    refine Go.step (st3) ?_
    show Go _ _ _ _ _ _ _ T3 (mkF m 11 #[.val (.ref a)] [(.ref c1), (.ref a)])
    by_cases c11_4 : a = c1
    · refine Go.step (fun t k => Jvm.RoadKit.acmp (g := (mkF m 11 #[.val (.ref a)] [(.ref c1), (.ref a)])) X3 hx rfl rfl rfl (pc0 := 11) (pc' := 14) (same := true) rfl (hb hby d2_11) rfl (decide_eq_true (congrArg Value.ref c11_4)) (by decide) (by decide) k) ?_
      show Go _ _ _ _ _ _ _ T3 (mkF m 14 #[.val (.ref a)] [])
      refine Go.step (fun t k => XS.iconst X3.here hx rfl (hb hby d2_14) k) ?_
      show Go _ _ _ _ _ _ _ T3 (mkF m 15 #[.val (.ref a)] [(.int (1 : Int32))])
      refine Go.step (fun t k => XS.goto X3.here hx rfl (pc0 := 15) (pc' := 19) rfl (hb hby d2_15) (by decide) (by decide) k) ?_
      show Go _ _ _ _ _ _ _ T3 (mkF m 19 #[.val (.ref a)] [(.int (1 : Int32))])
      refine go_retN X3 hx (t := .boolean) hret (by simp) hlk (hb hby d2_19) (w := (1 : Int32)) rfl ?_ (by decide) (by decide)
      try rw [e3]
      exact ⟨congrArg (fun z => some (Value.int z)) (bi_t (by simp only [eq_false c4_2, eq_true c11_4, not_true_eq_false, not_false_eq_true, and_true, true_and, and_false, false_and, or_true, true_or, or_false, false_or, and_self, or_self])).symm, rfl, rfl⟩
    · refine Go.step (fun t k => Jvm.RoadKit.acmp (g := (mkF m 11 #[.val (.ref a)] [(.ref c1), (.ref a)])) X3 hx rfl rfl rfl (pc0 := 11) (pc' := 18) (same := false) rfl (hb hby d2_11) rfl (decide_eq_false fun q => c11_4 (Value.ref.inj q)) (by decide) (by decide) k) ?_
      show Go _ _ _ _ _ _ _ T3 (mkF m 18 #[.val (.ref a)] [])
      refine Go.step (fun t k => XS.iconst X3.here hx rfl (hb hby d2_18) k) ?_
      show Go _ _ _ _ _ _ _ T3 (mkF m 19 #[.val (.ref a)] [(.int (0 : Int32))])
      refine go_retN X3 hx (t := .boolean) hret (by simp) hlk (hb hby d2_19) (w := (0 : Int32)) rfl ?_ (by decide) (by decide)
      try rw [e3]
      exact ⟨congrArg (fun z => some (Value.int z)) (bi_f (by simp only [eq_false c4_2, eq_false c11_4, not_true_eq_false, not_false_eq_true, and_true, true_and, and_false, false_and, or_true, true_or, or_false, false_or, and_self, or_self])).symm, rfl, rfl⟩
theorem ef_rm3 (m : MethodId) (x0 : Addr) : entryFrame m #[(.ref x0)] 1 = mkF m 0 #[.val (.ref x0)] [] := by first | (simp [entryFrame, mkF, argsToLocals, Value.category]; done) | rfl
theorem d3_0 : decode prog_23_method_8_code 0 = .ok (.aload_n 0, 1) := by decide +kernel
theorem d3_1 : decode prog_23_method_8_code 1 = .ok (.getstatic 3, 3) := by decide +kernel
theorem d3_4 : decode prog_23_method_8_code 4 = .ok (.if_acmp .eq 10, 3) := by decide +kernel
theorem d3_14 : decode prog_23_method_8_code 14 = .ok (.iconst 1, 1) := by decide +kernel
theorem d3_15 : decode prog_23_method_8_code 15 = .ok (.goto 4, 3) := by decide +kernel
theorem d3_19 : decode prog_23_method_8_code 19 = .ok (.ireturn, 1) := by decide +kernel
theorem d3_7 : decode prog_23_method_8_code 7 = .ok (.aload_n 0, 1) := by decide +kernel
theorem d3_8 : decode prog_23_method_8_code 8 = .ok (.getstatic 10, 3) := by decide +kernel
theorem d3_11 : decode prog_23_method_8_code 11 = .ok (.if_acmp .ne 7, 3) := by decide +kernel
theorem d3_18 : decode prog_23_method_8_code 18 = .ok (.iconst 0, 1) := by decide +kernel
set_option maxRecDepth 65536 in
set_option maxHeartbeats 40000000 in
theorem rm3 (l : Launch) (Z : State) (a0 : Array Value) (hw : ∀ d ∈ tables_1, d.before a0 Z = true) (ws : List Jvm.Cond) (a : Addr) (c0 c1 c2 c3 : Addr) (h0 : Heap) (n0 : Nat) (Z0 : n0 ≤ h0.size) (S0 : Sta Z h0 "com/example/satzbau/satzbau/core/Segment" "COMPLETE" "Lcom/example/satzbau/satzbau/core/Segment;" (.ref c0)) (S1 : Sta Z h0 "com/example/satzbau/satzbau/core/Segment" "FIRST" "Lcom/example/satzbau/satzbau/core/Segment;" (.ref c1)) (S2 : Sta Z h0 "com/example/satzbau/satzbau/core/Segment" "LAST" "Lcom/example/satzbau/satzbau/core/Segment;" (.ref c2)) (S3 : Sta Z h0 "com/example/satzbau/satzbau/core/Segment" "MIDDLE" "Lcom/example/satzbau/satzbau/core/Segment;" (.ref c3)) :
    Ctr l Z (⟨"com/example/satzbau/satzbau/core/Segment", "endsRecord", "()Z"⟩ : MethodName) prog_23_method_8_code 1 (some .boolean) ws ({ frames := 0, cells := 0, slots := 0, locals := 0 } : Room) 0 0 #[(.ref a)] h0 (fun v h L => v = some (.int (bi (a = c0 ∨ a = c2))) ∧ L = [] ∧ h = h0) := by
  refine Ctr.mk (plainFor_of_name pn_0) fun p e s m below meth c T0 X0 C e0 => go_cast (ef_rm3 m a) ?_
  have N0 := Fr.nil n0
  obtain ⟨hx, hZ, hby, hml, hown, hnm, hret, hlk⟩ := C
  show Go _ _ _ _ _ _ _ T0 (mkF m 0 #[.val (.ref a)] [])
  refine Go.step (fun t k => XS.aloadN X0.here hx rfl (hb hby d3_0) rfl rfl k) ?_
  show Go _ _ _ _ _ _ _ T0 (mkF m 1 #[.val (.ref a)] [(.ref a)])
  obtain ⟨T1, X1, e1, st1⟩ := getS2 X0 hx hZ hown (host := "") (Or.inl (hw _ (List.mem_of_getElem? (i := 4) rfl))) Via.refl e0 S0 (g := (mkF m 1 #[.val (.ref a)] [(.ref a)])) rfl (hb hby d3_1)
  refine Go.step (st1) ?_
  show Go _ _ _ _ _ _ _ T1 (mkF m 4 #[.val (.ref a)] [(.ref c0), (.ref a)])
  by_cases c4_2 : a = c0
  · refine Go.step (fun t k => Jvm.RoadKit.acmp (g := (mkF m 4 #[.val (.ref a)] [(.ref c0), (.ref a)])) X1 hx rfl rfl rfl (pc0 := 4) (pc' := 14) (same := true) rfl (hb hby d3_4) rfl (decide_eq_true (congrArg Value.ref c4_2)) (by decide) (by decide) k) ?_
    show Go _ _ _ _ _ _ _ T1 (mkF m 14 #[.val (.ref a)] [])
    refine Go.step (fun t k => XS.iconst X1.here hx rfl (hb hby d3_14) k) ?_
    show Go _ _ _ _ _ _ _ T1 (mkF m 15 #[.val (.ref a)] [(.int (1 : Int32))])
    refine Go.step (fun t k => XS.goto X1.here hx rfl (pc0 := 15) (pc' := 19) rfl (hb hby d3_15) (by decide) (by decide) k) ?_
    show Go _ _ _ _ _ _ _ T1 (mkF m 19 #[.val (.ref a)] [(.int (1 : Int32))])
    refine go_retN X1 hx (t := .boolean) hret (by simp) hlk (hb hby d3_19) (w := (1 : Int32)) rfl ?_ (by decide) (by decide)
    try rw [e1]
    exact ⟨congrArg (fun z => some (Value.int z)) (bi_t (by simp only [eq_true c4_2, not_true_eq_false, not_false_eq_true, and_true, true_and, and_false, false_and, or_true, true_or, or_false, false_or, and_self, or_self])).symm, rfl, rfl⟩
  · refine Go.step (fun t k => Jvm.RoadKit.acmp (g := (mkF m 4 #[.val (.ref a)] [(.ref c0), (.ref a)])) X1 hx rfl rfl rfl (pc0 := 4) (pc' := 7) (same := false) rfl (hb hby d3_4) rfl (decide_eq_false fun q => c4_2 (Value.ref.inj q)) (by decide) (by decide) k) ?_
    show Go _ _ _ _ _ _ _ T1 (mkF m 7 #[.val (.ref a)] [])
    refine Go.step (fun t k => XS.aloadN X1.here hx rfl (hb hby d3_7) rfl rfl k) ?_
    show Go _ _ _ _ _ _ _ T1 (mkF m 8 #[.val (.ref a)] [(.ref a)])
    obtain ⟨T3, X3, e3, st3⟩ := getS2 X1 hx hZ hown (host := "") (Or.inl (hw _ (List.mem_of_getElem? (i := 17) rfl))) Via.refl e1 S2 (g := (mkF m 8 #[.val (.ref a)] [(.ref a)])) rfl (hb hby d3_8)
    refine Go.step (st3) ?_
    show Go _ _ _ _ _ _ _ T3 (mkF m 11 #[.val (.ref a)] [(.ref c2), (.ref a)])
    by_cases c11_4 : a = c2
    · refine Go.step (fun t k => Jvm.RoadKit.acmp (g := (mkF m 11 #[.val (.ref a)] [(.ref c2), (.ref a)])) X3 hx rfl rfl rfl (pc0 := 11) (pc' := 14) (same := true) rfl (hb hby d3_11) rfl (decide_eq_true (congrArg Value.ref c11_4)) (by decide) (by decide) k) ?_
      show Go _ _ _ _ _ _ _ T3 (mkF m 14 #[.val (.ref a)] [])
      refine Go.step (fun t k => XS.iconst X3.here hx rfl (hb hby d3_14) k) ?_
      show Go _ _ _ _ _ _ _ T3 (mkF m 15 #[.val (.ref a)] [(.int (1 : Int32))])
      refine Go.step (fun t k => XS.goto X3.here hx rfl (pc0 := 15) (pc' := 19) rfl (hb hby d3_15) (by decide) (by decide) k) ?_
      show Go _ _ _ _ _ _ _ T3 (mkF m 19 #[.val (.ref a)] [(.int (1 : Int32))])
      refine go_retN X3 hx (t := .boolean) hret (by simp) hlk (hb hby d3_19) (w := (1 : Int32)) rfl ?_ (by decide) (by decide)
      try rw [e3]
      exact ⟨congrArg (fun z => some (Value.int z)) (bi_t (by simp only [eq_false c4_2, eq_true c11_4, not_true_eq_false, not_false_eq_true, and_true, true_and, and_false, false_and, or_true, true_or, or_false, false_or, and_self, or_self])).symm, rfl, rfl⟩
    · refine Go.step (fun t k => Jvm.RoadKit.acmp (g := (mkF m 11 #[.val (.ref a)] [(.ref c2), (.ref a)])) X3 hx rfl rfl rfl (pc0 := 11) (pc' := 18) (same := false) rfl (hb hby d3_11) rfl (decide_eq_false fun q => c11_4 (Value.ref.inj q)) (by decide) (by decide) k) ?_
      show Go _ _ _ _ _ _ _ T3 (mkF m 18 #[.val (.ref a)] [])
      refine Go.step (fun t k => XS.iconst X3.here hx rfl (hb hby d3_18) k) ?_
      show Go _ _ _ _ _ _ _ T3 (mkF m 19 #[.val (.ref a)] [(.int (0 : Int32))])
      refine go_retN X3 hx (t := .boolean) hret (by simp) hlk (hb hby d3_19) (w := (0 : Int32)) rfl ?_ (by decide) (by decide)
      try rw [e3]
      exact ⟨congrArg (fun z => some (Value.int z)) (bi_f (by simp only [eq_false c4_2, eq_false c11_4, not_true_eq_false, not_false_eq_true, and_true, true_and, and_false, false_and, or_true, true_or, or_false, false_or, and_self, or_self])).symm, rfl, rfl⟩
theorem ef_rm0 (m : MethodId) (x0 : Int32) (x1 : Int32) (x2 : Int32) : entryFrame m #[(.int x0), (.int x1), (.int x2)] maxLocals = mkF m 0 #[.val (.int x0), .val (.int x1), .val (.int x2), .unset, .unset, .unset, .unset, .unset, .unset] [] := by first | (simp [entryFrame, mkF, argsToLocals, Value.category, maxLocals]; done) | rfl
theorem pn_1 : plainName "com/example/satzbau/satzbau/core/SegmentAtPinLaw" = true := by first | (simp [plainName, overriddenIn]; done) | decide +kernel
theorem pd_0 : parseMethodDescriptor "(II)Lcom/example/satzbau/satzbau/core/Segment;" = some ⟨[.int, .int], some (.object "com/example/satzbau/satzbau/core/Segment")⟩ := by decide +kernel
theorem pd_1 : parseMethodDescriptor "()Z" = some ⟨[], some .boolean⟩ := by decide +kernel
set_option maxRecDepth 65536 in
set_option maxHeartbeats 40000000 in
theorem rm0 (l : Launch) (Z : State) (a0 : Array Value) (hw : ∀ d ∈ tables_1, d.before a0 Z = true) (ws : List Jvm.Cond) (i0 i1 i2 : Int32) (c0 c1 c2 c3 : Addr) (h0 : Heap) (n0 : Nat) (Z0 : n0 ≤ h0.size) (S0 : Sta Z h0 "com/example/satzbau/satzbau/core/Segment" "COMPLETE" "Lcom/example/satzbau/satzbau/core/Segment;" (.ref c0)) (S1 : Sta Z h0 "com/example/satzbau/satzbau/core/Segment" "FIRST" "Lcom/example/satzbau/satzbau/core/Segment;" (.ref c1)) (S2 : Sta Z h0 "com/example/satzbau/satzbau/core/Segment" "LAST" "Lcom/example/satzbau/satzbau/core/Segment;" (.ref c2)) (S3 : Sta Z h0 "com/example/satzbau/satzbau/core/Segment" "MIDDLE" "Lcom/example/satzbau/satzbau/core/Segment;" (.ref c3)) (E0 : Exa Z h0 c0 "com/example/satzbau/satzbau/core/Segment") (E1 : Exa Z h0 c1 "com/example/satzbau/satzbau/core/Segment") (E2 : Exa Z h0 c2 "com/example/satzbau/satzbau/core/Segment") (E3 : Exa Z h0 c3 "com/example/satzbau/satzbau/core/Segment") (n01 : c0 ≠ c1) (n02 : c0 ≠ c2) (n03 : c0 ≠ c3) (n12 : c1 ≠ c2) (n13 : c1 ≠ c3) (n23 : c2 ≠ c3) :
    Ctr l Z x code maxLocals ret ws room_1 0 0 #[(.int i0), (.int i1), (.int i2)] h0 (fun v h L => v = some (.int (1 : Int32)) ∧ Fr n0 L) := by
  refine Ctr.mk (plainFor_of_name pn_1) fun p e s m below meth c T0 X0 C e0 => go_cast (ef_rm0 m i0 i1 i2) ?_
  have N0 := Fr.nil n0
  obtain ⟨hx, hZ, hby, hml, hown, hnm, hret, hlk⟩ := C
  show Go _ _ _ _ _ _ _ T0 (mkF m 0 #[.val (.int i0), .val (.int i1), .val (.int i2), .unset, .unset, .unset, .unset, .unset, .unset] [])
  refine Go.step (fun t k => XS.iloadN X0.here hx rfl (hb hby at_0) rfl k) ?_
  show Go _ _ _ _ _ _ _ T0 (mkF m 1 #[.val (.int i0), .val (.int i1), .val (.int i2), .unset, .unset, .unset, .unset, .unset, .unset] [(.int i2)])
  refine Go.step (fun t k => XS.iconst X0.here hx rfl (hb hby at_1) k) ?_
  show Go _ _ _ _ _ _ _ T0 (mkF m 2 #[.val (.int i0), .val (.int i1), .val (.int i2), .unset, .unset, .unset, .unset, .unset, .unset] [(.int (1 : Int32)), (.int i2)])
  refine Go.step (fun t k => XS.iand X0.here hx rfl (hb hby at_2) rfl k) ?_
  show Go _ _ _ _ _ _ _ T0 (mkF m 3 #[.val (.int i0), .val (.int i1), .val (.int i2), .unset, .unset, .unset, .unset, .unset, .unset] [(.int (i2 &&& (1 : Int32)))])
  have j3 : ∀ y : Int32, (1 ≤ y.toInt) → Go p e s below 0 0 (fun v h L => v = some (.int (1 : Int32)) ∧ Fr n0 L) T0 (mkF m 25 #[.val (.int i0), .val (.int i1), .val (.int i2), .val (.int y), .unset, .unset, .unset, .unset, .unset] []) := by
    intro y hy
    refine Go.step (fun t k => XS.iloadN X0.here hx rfl (hb hby at_25) rfl k) ?_
    show Go _ _ _ _ _ _ _ T0 (mkF m 26 #[.val (.int i0), .val (.int i1), .val (.int i2), .val (.int y), .unset, .unset, .unset, .unset, .unset] [(.int i2)])
    refine Go.step (fun t k => XS.iconst X0.here hx rfl (hb hby at_26) k) ?_
    show Go _ _ _ _ _ _ _ T0 (mkF m 27 #[.val (.int i0), .val (.int i1), .val (.int i2), .val (.int y), .unset, .unset, .unset, .unset, .unset] [(.int (1 : Int32)), (.int i2)])
    refine Go.step (fun t k => XS.iushr X0.here hx rfl (hb hby at_27) rfl k) ?_
    show Go _ _ _ _ _ _ _ T0 (mkF m 28 #[.val (.int i0), .val (.int i1), .val (.int i2), .val (.int y), .unset, .unset, .unset, .unset, .unset] [(.int ((i2.toUInt32 >>> ((1 : Int32) &&& 31).toUInt32).toInt32))])
    refine Go.step (fun t k => XS.iconst X0.here hx rfl (hb hby at_28) k) ?_
    show Go _ _ _ _ _ _ _ T0 (mkF m 29 #[.val (.int i0), .val (.int i1), .val (.int i2), .val (.int y), .unset, .unset, .unset, .unset, .unset] [(.int (3 : Int32)), (.int ((i2.toUInt32 >>> ((1 : Int32) &&& 31).toUInt32).toInt32))])
    refine Go.step (fun t k => XS.iand X0.here hx rfl (hb hby at_29) rfl k) ?_
    show Go _ _ _ _ _ _ _ T0 (mkF m 30 #[.val (.int i0), .val (.int i1), .val (.int i2), .val (.int y), .unset, .unset, .unset, .unset, .unset] [(.int (((i2.toUInt32 >>> ((1 : Int32) &&& 31).toUInt32).toInt32) &&& (3 : Int32)))])
    refine Go.step (fun t k => XS.istore X0.here hx rfl (hb hby at_30) rfl (l' := #[.val (.int i0), .val (.int i1), .val (.int i2), .val (.int y), .val (.int (((i2.toUInt32 >>> ((1 : Int32) &&& 31).toUInt32).toInt32) &&& (3 : Int32))), .unset, .unset, .unset, .unset]) rfl k) ?_
    show Go _ _ _ _ _ _ _ T0 (mkF m 32 #[.val (.int i0), .val (.int i1), .val (.int i2), .val (.int y), .val (.int (((i2.toUInt32 >>> ((1 : Int32) &&& 31).toUInt32).toInt32) &&& (3 : Int32))), .unset, .unset, .unset, .unset] [])
    refine Go.step (fun t k => XS.iload X0.here hx rfl (hb hby at_32) rfl k) ?_
    show Go _ _ _ _ _ _ _ T0 (mkF m 34 #[.val (.int i0), .val (.int i1), .val (.int i2), .val (.int y), .val (.int (((i2.toUInt32 >>> ((1 : Int32) &&& 31).toUInt32).toInt32) &&& (3 : Int32))), .unset, .unset, .unset, .unset] [(.int (((i2.toUInt32 >>> ((1 : Int32) &&& 31).toUInt32).toInt32) &&& (3 : Int32)))])
    have j34 : ∀ x' : Int32, (OkI x' y) → Go p e s below 0 0 (fun v h L => v = some (.int (1 : Int32)) ∧ Fr n0 L) T0 (mkF m 79 #[.val (.int i0), .val (.int i1), .val (.int i2), .val (.int y), .val (.int (((i2.toUInt32 >>> ((1 : Int32) &&& 31).toUInt32).toInt32) &&& (3 : Int32))), .val (.int x'), .unset, .unset, .unset] []) := by
      intro x' hx'
      refine Go.step (fun t k => XS.iload X0.here hx rfl (hb hby at_79) rfl k) ?_
      show Go _ _ _ _ _ _ _ T0 (mkF m 81 #[.val (.int i0), .val (.int i1), .val (.int i2), .val (.int y), .val (.int (((i2.toUInt32 >>> ((1 : Int32) &&& 31).toUInt32).toInt32) &&& (3 : Int32))), .val (.int x'), .unset, .unset, .unset] [(.int x')])
      refine Go.step (fun t k => XS.iloadN X0.here hx rfl (hb hby at_81) rfl k) ?_
      show Go _ _ _ _ _ _ _ T0 (mkF m 82 #[.val (.int i0), .val (.int i1), .val (.int i2), .val (.int y), .val (.int (((i2.toUInt32 >>> ((1 : Int32) &&& 31).toUInt32).toInt32) &&& (3 : Int32))), .val (.int x'), .unset, .unset, .unset] [(.int y), (.int x')])
      obtain ⟨v1, T1, L1, X1, q1, st1⟩ := c_static X0 hx hZ hown (y := (⟨"com/example/satzbau/satzbau/core/Segment", "at", "(II)Lcom/example/satzbau/satzbau/core/Segment;"⟩ : MethodName)) (hw _ (List.mem_of_getElem? (i := 0) rfl)) (hw _ (List.mem_of_getElem? (i := 1) rfl)) (hw _ (List.mem_of_getElem? (i := 2) rfl)) (hw _ (List.mem_of_getElem? (i := 3) rfl)) (by decide) (argsL := [(.int x'), (.int y)]) (rest := []) (rm1 l Z a0 hw [] x' y c0 c1 c2 c3 h0 n0 Z0 S0 S1 S2 S3) e0 pd_0 rfl (by rw [hml]; rfl) (W := 0) (by show 2 * 0 + _ ≤ _; exact Nat.le_of_eq rfl) (by decide) (by decide) (by decide) (by decide) (hb hby at_82) (Ls := #[.val (.int i0), .val (.int i1), .val (.int i2), .val (.int y), .val (.int (((i2.toUInt32 >>> ((1 : Int32) &&& 31).toUInt32).toInt32) &&& (3 : Int32))), .val (.int x'), .unset, .unset, .unset])
      obtain ⟨rfl, rfl, e1⟩ := q1
      have N1 := Fr.app N0 (Fr.nil n0)
      refine Go.step (st1) ?_
      show Go _ _ _ _ _ _ _ T1 (mkF m 85 #[.val (.int i0), .val (.int i1), .val (.int i2), .val (.int y), .val (.int (((i2.toUInt32 >>> ((1 : Int32) &&& 31).toUInt32).toInt32) &&& (3 : Int32))), .val (.int x'), .unset, .unset, .unset] [(.ref (sel x' y c0 c1 c2 c3))])
      refine Go.step (fun t k => XS.astore X1.here hx rfl (hb hby at_85) rfl rfl (l' := #[.val (.int i0), .val (.int i1), .val (.int i2), .val (.int y), .val (.int (((i2.toUInt32 >>> ((1 : Int32) &&& 31).toUInt32).toInt32) &&& (3 : Int32))), .val (.int x'), .val (.ref (sel x' y c0 c1 c2 c3)), .unset, .unset]) rfl k) ?_
      show Go _ _ _ _ _ _ _ T1 (mkF m 87 #[.val (.int i0), .val (.int i1), .val (.int i2), .val (.int y), .val (.int (((i2.toUInt32 >>> ((1 : Int32) &&& 31).toUInt32).toInt32) &&& (3 : Int32))), .val (.int x'), .val (.ref (sel x' y c0 c1 c2 c3)), .unset, .unset] [])
      refine Go.step (fun t k => XS.aload X1.here hx rfl (hb hby at_87) rfl rfl k) ?_
      show Go _ _ _ _ _ _ _ T1 (mkF m 89 #[.val (.int i0), .val (.int i1), .val (.int i2), .val (.int y), .val (.int (((i2.toUInt32 >>> ((1 : Int32) &&& 31).toUInt32).toInt32) &&& (3 : Int32))), .val (.int x'), .val (.ref (sel x' y c0 c1 c2 c3)), .unset, .unset] [(.ref (sel x' y c0 c1 c2 c3))])
      refine Go.step (fun t k => XS.ifnonnullYes X1.here hx rfl (pc0 := 89) (pc' := 94) rfl (hb hby at_89) rfl (by decide) (by decide) k) ?_
      show Go _ _ _ _ _ _ _ T1 (mkF m 94 #[.val (.int i0), .val (.int i1), .val (.int i2), .val (.int y), .val (.int (((i2.toUInt32 >>> ((1 : Int32) &&& 31).toUInt32).toInt32) &&& (3 : Int32))), .val (.int x'), .val (.ref (sel x' y c0 c1 c2 c3)), .unset, .unset] [])
      refine Go.step (fun t k => XS.iload X1.here hx rfl (hb hby at_94) rfl k) ?_
      show Go _ _ _ _ _ _ _ T1 (mkF m 96 #[.val (.int i0), .val (.int i1), .val (.int i2), .val (.int y), .val (.int (((i2.toUInt32 >>> ((1 : Int32) &&& 31).toUInt32).toInt32) &&& (3 : Int32))), .val (.int x'), .val (.ref (sel x' y c0 c1 c2 c3)), .unset, .unset] [(.int x')])
      obtain ⟨q96, hq96⟩ : ∃ q : Bool, q = true ↔ (x' = (0 : Int32)) := ⟨decide (x' = (0 : Int32)), decide_eq_true_iff⟩
      have j96 : Go p e s below 0 0 (fun v h L => v = some (.int (1 : Int32)) ∧ Fr n0 L) T1 (mkF m 104 #[.val (.int i0), .val (.int i1), .val (.int i2), .val (.int y), .val (.int (((i2.toUInt32 >>> ((1 : Int32) &&& 31).toUInt32).toInt32) &&& (3 : Int32))), .val (.int x'), .val (.ref (sel x' y c0 c1 c2 c3)), .unset, .unset] [(.int (bi (q96 = true)))]) := by
        refine Go.step (fun t k => XS.istore X1.here hx rfl (hb hby at_104) rfl (l' := #[.val (.int i0), .val (.int i1), .val (.int i2), .val (.int y), .val (.int (((i2.toUInt32 >>> ((1 : Int32) &&& 31).toUInt32).toInt32) &&& (3 : Int32))), .val (.int x'), .val (.ref (sel x' y c0 c1 c2 c3)), .val (.int (bi (q96 = true))), .unset]) rfl k) ?_
        show Go _ _ _ _ _ _ _ T1 (mkF m 106 #[.val (.int i0), .val (.int i1), .val (.int i2), .val (.int y), .val (.int (((i2.toUInt32 >>> ((1 : Int32) &&& 31).toUInt32).toInt32) &&& (3 : Int32))), .val (.int x'), .val (.ref (sel x' y c0 c1 c2 c3)), .val (.int (bi (q96 = true))), .unset] [])
        refine Go.step (fun t k => XS.iload X1.here hx rfl (hb hby at_106) rfl k) ?_
        show Go _ _ _ _ _ _ _ T1 (mkF m 108 #[.val (.int i0), .val (.int i1), .val (.int i2), .val (.int y), .val (.int (((i2.toUInt32 >>> ((1 : Int32) &&& 31).toUInt32).toInt32) &&& (3 : Int32))), .val (.int x'), .val (.ref (sel x' y c0 c1 c2 c3)), .val (.int (bi (q96 = true))), .unset] [(.int x')])
        refine Go.step (fun t k => XS.iloadN X1.here hx rfl (hb hby at_108) rfl k) ?_
        show Go _ _ _ _ _ _ _ T1 (mkF m 109 #[.val (.int i0), .val (.int i1), .val (.int i2), .val (.int y), .val (.int (((i2.toUInt32 >>> ((1 : Int32) &&& 31).toUInt32).toInt32) &&& (3 : Int32))), .val (.int x'), .val (.ref (sel x' y c0 c1 c2 c3)), .val (.int (bi (q96 = true))), .unset] [(.int y), (.int x')])
        refine Go.step (fun t k => XS.iconst X1.here hx rfl (hb hby at_109) k) ?_
        show Go _ _ _ _ _ _ _ T1 (mkF m 110 #[.val (.int i0), .val (.int i1), .val (.int i2), .val (.int y), .val (.int (((i2.toUInt32 >>> ((1 : Int32) &&& 31).toUInt32).toInt32) &&& (3 : Int32))), .val (.int x'), .val (.ref (sel x' y c0 c1 c2 c3)), .val (.int (bi (q96 = true))), .unset] [(.int (1 : Int32)), (.int y), (.int x')])
        refine Go.step (fun t k => XS.isub X1.here hx rfl (hb hby at_110) rfl k) ?_
        show Go _ _ _ _ _ _ _ T1 (mkF m 111 #[.val (.int i0), .val (.int i1), .val (.int i2), .val (.int y), .val (.int (((i2.toUInt32 >>> ((1 : Int32) &&& 31).toUInt32).toInt32) &&& (3 : Int32))), .val (.int x'), .val (.ref (sel x' y c0 c1 c2 c3)), .val (.int (bi (q96 = true))), .unset] [(.int (y - (1 : Int32))), (.int x')])
        obtain ⟨q111, hq111⟩ : ∃ q : Bool, q = true ↔ (x' = (y - (1 : Int32))) := ⟨decide (x' = (y - (1 : Int32))), decide_eq_true_iff⟩
        have j111 : Go p e s below 0 0 (fun v h L => v = some (.int (1 : Int32)) ∧ Fr n0 L) T1 (mkF m 119 #[.val (.int i0), .val (.int i1), .val (.int i2), .val (.int y), .val (.int (((i2.toUInt32 >>> ((1 : Int32) &&& 31).toUInt32).toInt32) &&& (3 : Int32))), .val (.int x'), .val (.ref (sel x' y c0 c1 c2 c3)), .val (.int (bi (q96 = true))), .unset] [(.int (bi (q111 = true)))]) := by
          refine Go.step (fun t k => XS.istore X1.here hx rfl (hb hby at_119) rfl (l' := #[.val (.int i0), .val (.int i1), .val (.int i2), .val (.int y), .val (.int (((i2.toUInt32 >>> ((1 : Int32) &&& 31).toUInt32).toInt32) &&& (3 : Int32))), .val (.int x'), .val (.ref (sel x' y c0 c1 c2 c3)), .val (.int (bi (q96 = true))), .val (.int (bi (q111 = true)))]) rfl k) ?_
          show Go _ _ _ _ _ _ _ T1 (mkF m 121 #[.val (.int i0), .val (.int i1), .val (.int i2), .val (.int y), .val (.int (((i2.toUInt32 >>> ((1 : Int32) &&& 31).toUInt32).toInt32) &&& (3 : Int32))), .val (.int x'), .val (.ref (sel x' y c0 c1 c2 c3)), .val (.int (bi (q96 = true))), .val (.int (bi (q111 = true)))] [])
          refine Go.step (fun t k => XS.aload X1.here hx rfl (hb hby at_121) rfl rfl k) ?_
          show Go _ _ _ _ _ _ _ T1 (mkF m 123 #[.val (.int i0), .val (.int i1), .val (.int i2), .val (.int y), .val (.int (((i2.toUInt32 >>> ((1 : Int32) &&& 31).toUInt32).toInt32) &&& (3 : Int32))), .val (.int x'), .val (.ref (sel x' y c0 c1 c2 c3)), .val (.int (bi (q96 = true))), .val (.int (bi (q111 = true)))] [(.ref (sel x' y c0 c1 c2 c3))])
          obtain ⟨v2, T2, L2, X2, q2, st2⟩ := c_virt X1 hx hZ hown (y' := (⟨"com/example/satzbau/satzbau/core/Segment", "startsRecord", "()Z"⟩ : MethodName)) (y := (⟨"com/example/satzbau/satzbau/core/Segment", "startsRecord", "()Z"⟩ : MethodName)) (C := "com/example/satzbau/satzbau/core/Segment") (hw _ (List.mem_of_getElem? (i := 6) rfl)) (hw _ (List.mem_of_getElem? (i := 7) rfl)) (notFace_of_selects (args := #[]) (mvT hZ (hw _ (List.mem_of_getElem? (i := 9) rfl)))) (hw _ (List.mem_of_getElem? (i := 9) rfl)) (hw _ (List.mem_of_getElem? (i := 8) rfl)) (hw _ (List.mem_of_getElem? (i := 2) rfl)) (hw _ (List.mem_of_getElem? (i := 10) rfl)) (by decide) (a := (sel x' y c0 c1 c2 c3)) (argsL := []) (rest := []) (rm2 l Z a0 hw [] (sel x' y c0 c1 c2 c3) c0 c1 c2 c3 h0 n0 Z0 S0 S1 S2 S3) e1 (own_sel (P := fun c => Exa Z h0 c "com/example/satzbau/satzbau/core/Segment") E0 E1 E2 E3) pd_1 rfl (by rw [hml]; rfl) (W := 0) (by show 2 * 0 + _ ≤ _; exact Nat.le_of_eq rfl) (by decide) (by decide) (by decide) (by decide) (hb hby at_123) (Ls := #[.val (.int i0), .val (.int i1), .val (.int i2), .val (.int y), .val (.int (((i2.toUInt32 >>> ((1 : Int32) &&& 31).toUInt32).toInt32) &&& (3 : Int32))), .val (.int x'), .val (.ref (sel x' y c0 c1 c2 c3)), .val (.int (bi (q96 = true))), .val (.int (bi (q111 = true)))])
          obtain ⟨rfl, rfl, e2⟩ := q2
          have N2 := Fr.app N1 (Fr.nil n0)
          refine Go.step (st2) ?_
          show Go _ _ _ _ _ _ _ T2 (mkF m 126 #[.val (.int i0), .val (.int i1), .val (.int i2), .val (.int y), .val (.int (((i2.toUInt32 >>> ((1 : Int32) &&& 31).toUInt32).toInt32) &&& (3 : Int32))), .val (.int x'), .val (.ref (sel x' y c0 c1 c2 c3)), .val (.int (bi (q96 = true))), .val (.int (bi (q111 = true)))] [(.int (bi ((sel x' y c0 c1 c2 c3) = c0 ∨ (sel x' y c0 c1 c2 c3) = c1)))])
          refine Go.step (fun t k => XS.iload X2.here hx rfl (hb hby at_126) rfl k) ?_
          show Go _ _ _ _ _ _ _ T2 (mkF m 128 #[.val (.int i0), .val (.int i1), .val (.int i2), .val (.int y), .val (.int (((i2.toUInt32 >>> ((1 : Int32) &&& 31).toUInt32).toInt32) &&& (3 : Int32))), .val (.int x'), .val (.ref (sel x' y c0 c1 c2 c3)), .val (.int (bi (q96 = true))), .val (.int (bi (q111 = true)))] [(.int (bi (q96 = true))), (.int (bi ((sel x' y c0 c1 c2 c3) = c0 ∨ (sel x' y c0 c1 c2 c3) = c1)))])
          refine Go.step (fun t k => XS.icmpNo X2.here hx rfl (hb hby at_128) rfl (teq (bi_congr ((own_st hx' n01 n02 n03 n12 n13).trans hq96.symm))).2 k) ?_
          show Go _ _ _ _ _ _ _ T2 (mkF m 131 #[.val (.int i0), .val (.int i1), .val (.int i2), .val (.int y), .val (.int (((i2.toUInt32 >>> ((1 : Int32) &&& 31).toUInt32).toInt32) &&& (3 : Int32))), .val (.int x'), .val (.ref (sel x' y c0 c1 c2 c3)), .val (.int (bi (q96 = true))), .val (.int (bi (q111 = true)))] [])
          refine Go.step (fun t k => XS.aload X2.here hx rfl (hb hby at_131) rfl rfl k) ?_
          show Go _ _ _ _ _ _ _ T2 (mkF m 133 #[.val (.int i0), .val (.int i1), .val (.int i2), .val (.int y), .val (.int (((i2.toUInt32 >>> ((1 : Int32) &&& 31).toUInt32).toInt32) &&& (3 : Int32))), .val (.int x'), .val (.ref (sel x' y c0 c1 c2 c3)), .val (.int (bi (q96 = true))), .val (.int (bi (q111 = true)))] [(.ref (sel x' y c0 c1 c2 c3))])
          obtain ⟨v3, T3, L3, X3, q3, st3⟩ := c_virt X2 hx hZ hown (y' := (⟨"com/example/satzbau/satzbau/core/Segment", "endsRecord", "()Z"⟩ : MethodName)) (y := (⟨"com/example/satzbau/satzbau/core/Segment", "endsRecord", "()Z"⟩ : MethodName)) (C := "com/example/satzbau/satzbau/core/Segment") (hw _ (List.mem_of_getElem? (i := 11) rfl)) (hw _ (List.mem_of_getElem? (i := 12) rfl)) (notFace_of_selects (args := #[]) (mvT hZ (hw _ (List.mem_of_getElem? (i := 14) rfl)))) (hw _ (List.mem_of_getElem? (i := 14) rfl)) (hw _ (List.mem_of_getElem? (i := 13) rfl)) (hw _ (List.mem_of_getElem? (i := 2) rfl)) (hw _ (List.mem_of_getElem? (i := 15) rfl)) (by decide) (a := (sel x' y c0 c1 c2 c3)) (argsL := []) (rest := []) (rm3 l Z a0 hw [] (sel x' y c0 c1 c2 c3) c0 c1 c2 c3 h0 n0 Z0 S0 S1 S2 S3) e2 (own_sel (P := fun c => Exa Z h0 c "com/example/satzbau/satzbau/core/Segment") E0 E1 E2 E3) pd_1 rfl (by rw [hml]; rfl) (W := 0) (by show 2 * 0 + _ ≤ _; exact Nat.le_of_eq rfl) (by decide) (by decide) (by decide) (by decide) (hb hby at_133) (Ls := #[.val (.int i0), .val (.int i1), .val (.int i2), .val (.int y), .val (.int (((i2.toUInt32 >>> ((1 : Int32) &&& 31).toUInt32).toInt32) &&& (3 : Int32))), .val (.int x'), .val (.ref (sel x' y c0 c1 c2 c3)), .val (.int (bi (q96 = true))), .val (.int (bi (q111 = true)))])
          obtain ⟨rfl, rfl, e3⟩ := q3
          have N3 := Fr.app N2 (Fr.nil n0)
          refine Go.step (st3) ?_
          show Go _ _ _ _ _ _ _ T3 (mkF m 136 #[.val (.int i0), .val (.int i1), .val (.int i2), .val (.int y), .val (.int (((i2.toUInt32 >>> ((1 : Int32) &&& 31).toUInt32).toInt32) &&& (3 : Int32))), .val (.int x'), .val (.ref (sel x' y c0 c1 c2 c3)), .val (.int (bi (q96 = true))), .val (.int (bi (q111 = true)))] [(.int (bi ((sel x' y c0 c1 c2 c3) = c0 ∨ (sel x' y c0 c1 c2 c3) = c2)))])
          refine Go.step (fun t k => XS.iload X3.here hx rfl (hb hby at_136) rfl k) ?_
          show Go _ _ _ _ _ _ _ T3 (mkF m 138 #[.val (.int i0), .val (.int i1), .val (.int i2), .val (.int y), .val (.int (((i2.toUInt32 >>> ((1 : Int32) &&& 31).toUInt32).toInt32) &&& (3 : Int32))), .val (.int x'), .val (.ref (sel x' y c0 c1 c2 c3)), .val (.int (bi (q96 = true))), .val (.int (bi (q111 = true)))] [(.int (bi (q111 = true))), (.int (bi ((sel x' y c0 c1 c2 c3) = c0 ∨ (sel x' y c0 c1 c2 c3) = c2)))])
          refine Go.step (fun t k => XS.icmpNo X3.here hx rfl (hb hby at_138) rfl (teq (bi_congr ((own_en hx' n01 n02 n03 n12 n23).trans hq111.symm))).2 k) ?_
          show Go _ _ _ _ _ _ _ T3 (mkF m 141 #[.val (.int i0), .val (.int i1), .val (.int i2), .val (.int y), .val (.int (((i2.toUInt32 >>> ((1 : Int32) &&& 31).toUInt32).toInt32) &&& (3 : Int32))), .val (.int x'), .val (.ref (sel x' y c0 c1 c2 c3)), .val (.int (bi (q96 = true))), .val (.int (bi (q111 = true)))] [])
          refine Go.step (fun t k => XS.iconst X3.here hx rfl (hb hby at_141) k) ?_
          show Go _ _ _ _ _ _ _ T3 (mkF m 142 #[.val (.int i0), .val (.int i1), .val (.int i2), .val (.int y), .val (.int (((i2.toUInt32 >>> ((1 : Int32) &&& 31).toUInt32).toInt32) &&& (3 : Int32))), .val (.int x'), .val (.ref (sel x' y c0 c1 c2 c3)), .val (.int (bi (q96 = true))), .val (.int (bi (q111 = true)))] [(.int (1 : Int32))])
          refine Go.step (fun t k => XS.goto X3.here hx rfl (pc0 := 142) (pc' := 146) rfl (hb hby at_142) (by decide) (by decide) k) ?_
          show Go _ _ _ _ _ _ _ T3 (mkF m 146 #[.val (.int i0), .val (.int i1), .val (.int i2), .val (.int y), .val (.int (((i2.toUInt32 >>> ((1 : Int32) &&& 31).toUInt32).toInt32) &&& (3 : Int32))), .val (.int x'), .val (.ref (sel x' y c0 c1 c2 c3)), .val (.int (bi (q96 = true))), .val (.int (bi (q111 = true)))] [(.int (1 : Int32))])
          refine go_retN X3 hx (t := .boolean) hret (by simp) hlk (hb hby at_146) (w := (1 : Int32)) rfl ?_ (by decide) (by decide)
          try rw [e3]
          exact ⟨rfl, N3⟩
        by_cases c111_4 : x' = (y - (1 : Int32))
        · refine Go.step (fun t k => XS.icmpNo X1.here hx rfl (hb hby at_111) rfl (teq c111_4).2 k) ?_
          show Go _ _ _ _ _ _ _ T1 (mkF m 114 #[.val (.int i0), .val (.int i1), .val (.int i2), .val (.int y), .val (.int (((i2.toUInt32 >>> ((1 : Int32) &&& 31).toUInt32).toInt32) &&& (3 : Int32))), .val (.int x'), .val (.ref (sel x' y c0 c1 c2 c3)), .val (.int (bi (q96 = true))), .unset] [])
          refine Go.step (fun t k => XS.iconst X1.here hx rfl (hb hby at_114) k) ?_
          show Go _ _ _ _ _ _ _ T1 (mkF m 115 #[.val (.int i0), .val (.int i1), .val (.int i2), .val (.int y), .val (.int (((i2.toUInt32 >>> ((1 : Int32) &&& 31).toUInt32).toInt32) &&& (3 : Int32))), .val (.int x'), .val (.ref (sel x' y c0 c1 c2 c3)), .val (.int (bi (q96 = true))), .unset] [(.int (1 : Int32))])
          refine Go.step (fun t k => XS.goto X1.here hx rfl (pc0 := 115) (pc' := 119) rfl (hb hby at_115) (by decide) (by decide) k) ?_
          show Go _ _ _ _ _ _ _ T1 (mkF m 119 #[.val (.int i0), .val (.int i1), .val (.int i2), .val (.int y), .val (.int (((i2.toUInt32 >>> ((1 : Int32) &&& 31).toUInt32).toInt32) &&& (3 : Int32))), .val (.int x'), .val (.ref (sel x' y c0 c1 c2 c3)), .val (.int (bi (q96 = true))), .unset] [(.int (1 : Int32))])
          rw [show (bi (q111 = true)) = (1 : Int32) from bi_t (hq111.mpr (by simp only [eq_true c111_4, not_true_eq_false, not_false_eq_true, and_true, true_and, and_false, false_and, or_true, true_or, or_false, false_or, and_self, or_self]))] at j111
          exact j111
        · refine Go.step (fun t k => XS.icmpYes X1.here hx rfl (pc0 := 111) (pc' := 118) rfl (hb hby at_111) rfl (feq c111_4).2 (by decide) (by decide) k) ?_
          show Go _ _ _ _ _ _ _ T1 (mkF m 118 #[.val (.int i0), .val (.int i1), .val (.int i2), .val (.int y), .val (.int (((i2.toUInt32 >>> ((1 : Int32) &&& 31).toUInt32).toInt32) &&& (3 : Int32))), .val (.int x'), .val (.ref (sel x' y c0 c1 c2 c3)), .val (.int (bi (q96 = true))), .unset] [])
          refine Go.step (fun t k => XS.iconst X1.here hx rfl (hb hby at_118) k) ?_
          show Go _ _ _ _ _ _ _ T1 (mkF m 119 #[.val (.int i0), .val (.int i1), .val (.int i2), .val (.int y), .val (.int (((i2.toUInt32 >>> ((1 : Int32) &&& 31).toUInt32).toInt32) &&& (3 : Int32))), .val (.int x'), .val (.ref (sel x' y c0 c1 c2 c3)), .val (.int (bi (q96 = true))), .unset] [(.int (0 : Int32))])
          rw [show (bi (q111 = true)) = (0 : Int32) from bi_f (mt hq111.mp (by simp only [eq_false c111_4, not_true_eq_false, not_false_eq_true, and_true, true_and, and_false, false_and, or_true, true_or, or_false, false_or, and_self, or_self]))] at j111
          exact j111
      by_cases c96_5 : x' = (0 : Int32)
      · refine Go.step (fun t k => XS.ifNo X1.here hx rfl (hb hby at_96) rfl ((if0 _ _).trans (teq c96_5).2) k) ?_
        show Go _ _ _ _ _ _ _ T1 (mkF m 99 #[.val (.int i0), .val (.int i1), .val (.int i2), .val (.int y), .val (.int (((i2.toUInt32 >>> ((1 : Int32) &&& 31).toUInt32).toInt32) &&& (3 : Int32))), .val (.int x'), .val (.ref (sel x' y c0 c1 c2 c3)), .unset, .unset] [])
        refine Go.step (fun t k => XS.iconst X1.here hx rfl (hb hby at_99) k) ?_
        show Go _ _ _ _ _ _ _ T1 (mkF m 100 #[.val (.int i0), .val (.int i1), .val (.int i2), .val (.int y), .val (.int (((i2.toUInt32 >>> ((1 : Int32) &&& 31).toUInt32).toInt32) &&& (3 : Int32))), .val (.int x'), .val (.ref (sel x' y c0 c1 c2 c3)), .unset, .unset] [(.int (1 : Int32))])
        refine Go.step (fun t k => XS.goto X1.here hx rfl (pc0 := 100) (pc' := 104) rfl (hb hby at_100) (by decide) (by decide) k) ?_
        show Go _ _ _ _ _ _ _ T1 (mkF m 104 #[.val (.int i0), .val (.int i1), .val (.int i2), .val (.int y), .val (.int (((i2.toUInt32 >>> ((1 : Int32) &&& 31).toUInt32).toInt32) &&& (3 : Int32))), .val (.int x'), .val (.ref (sel x' y c0 c1 c2 c3)), .unset, .unset] [(.int (1 : Int32))])
        rw [show (bi (q96 = true)) = (1 : Int32) from bi_t (hq96.mpr (by simp only [eq_true c96_5, not_true_eq_false, not_false_eq_true, and_true, true_and, and_false, false_and, or_true, true_or, or_false, false_or, and_self, or_self]))] at j96
        exact j96
      · refine Go.step (fun t k => XS.ifYes X1.here hx rfl (pc0 := 96) (pc' := 103) rfl (hb hby at_96) rfl ((if0 _ _).trans (feq c96_5).2) (by decide) (by decide) k) ?_
        show Go _ _ _ _ _ _ _ T1 (mkF m 103 #[.val (.int i0), .val (.int i1), .val (.int i2), .val (.int y), .val (.int (((i2.toUInt32 >>> ((1 : Int32) &&& 31).toUInt32).toInt32) &&& (3 : Int32))), .val (.int x'), .val (.ref (sel x' y c0 c1 c2 c3)), .unset, .unset] [])
        refine Go.step (fun t k => XS.iconst X1.here hx rfl (hb hby at_103) k) ?_
        show Go _ _ _ _ _ _ _ T1 (mkF m 104 #[.val (.int i0), .val (.int i1), .val (.int i2), .val (.int y), .val (.int (((i2.toUInt32 >>> ((1 : Int32) &&& 31).toUInt32).toInt32) &&& (3 : Int32))), .val (.int x'), .val (.ref (sel x' y c0 c1 c2 c3)), .unset, .unset] [(.int (0 : Int32))])
        rw [show (bi (q96 = true)) = (0 : Int32) from bi_f (mt hq96.mp (by simp only [eq_false c96_5, not_true_eq_false, not_false_eq_true, and_true, true_and, and_false, false_and, or_true, true_or, or_false, false_or, and_self, or_self]))] at j96
        exact j96
    by_cases c34_6 : (((i2.toUInt32 >>> ((1 : Int32) &&& 31).toUInt32).toInt32) &&& (3 : Int32)) = (0 : Int32)
    · refine Go.step (fun t k => XS.ifNo X0.here hx rfl (hb hby at_34) rfl ((if0 _ _).trans (teq c34_6).2) k) ?_
      show Go _ _ _ _ _ _ _ T0 (mkF m 37 #[.val (.int i0), .val (.int i1), .val (.int i2), .val (.int y), .val (.int (((i2.toUInt32 >>> ((1 : Int32) &&& 31).toUInt32).toInt32) &&& (3 : Int32))), .unset, .unset, .unset, .unset] [])
      refine Go.step (fun t k => XS.iconst X0.here hx rfl (hb hby at_37) k) ?_
      show Go _ _ _ _ _ _ _ T0 (mkF m 38 #[.val (.int i0), .val (.int i1), .val (.int i2), .val (.int y), .val (.int (((i2.toUInt32 >>> ((1 : Int32) &&& 31).toUInt32).toInt32) &&& (3 : Int32))), .unset, .unset, .unset, .unset] [(.int (0 : Int32))])
      refine Go.step (fun t k => XS.istore X0.here hx rfl (hb hby at_38) rfl (l' := #[.val (.int i0), .val (.int i1), .val (.int i2), .val (.int y), .val (.int (((i2.toUInt32 >>> ((1 : Int32) &&& 31).toUInt32).toInt32) &&& (3 : Int32))), .val (.int (0 : Int32)), .unset, .unset, .unset]) rfl k) ?_
      show Go _ _ _ _ _ _ _ T0 (mkF m 40 #[.val (.int i0), .val (.int i1), .val (.int i2), .val (.int y), .val (.int (((i2.toUInt32 >>> ((1 : Int32) &&& 31).toUInt32).toInt32) &&& (3 : Int32))), .val (.int (0 : Int32)), .unset, .unset, .unset] [])
      refine Go.step (fun t k => XS.goto X0.here hx rfl (pc0 := 40) (pc' := 79) rfl (hb hby at_40) (by decide) (by decide) k) ?_
      show Go _ _ _ _ _ _ _ T0 (mkF m 79 #[.val (.int i0), .val (.int i1), .val (.int i2), .val (.int y), .val (.int (((i2.toUInt32 >>> ((1 : Int32) &&& 31).toUInt32).toInt32) &&& (3 : Int32))), .val (.int (0 : Int32)), .unset, .unset, .unset] [])
      exact j34 _ (own_i1 y hy)
    · refine Go.step (fun t k => XS.ifYes X0.here hx rfl (pc0 := 34) (pc' := 43) rfl (hb hby at_34) rfl ((if0 _ _).trans (feq c34_6).2) (by decide) (by decide) k) ?_
      show Go _ _ _ _ _ _ _ T0 (mkF m 43 #[.val (.int i0), .val (.int i1), .val (.int i2), .val (.int y), .val (.int (((i2.toUInt32 >>> ((1 : Int32) &&& 31).toUInt32).toInt32) &&& (3 : Int32))), .unset, .unset, .unset, .unset] [])
      refine Go.step (fun t k => XS.iload X0.here hx rfl (hb hby at_43) rfl k) ?_
      show Go _ _ _ _ _ _ _ T0 (mkF m 45 #[.val (.int i0), .val (.int i1), .val (.int i2), .val (.int y), .val (.int (((i2.toUInt32 >>> ((1 : Int32) &&& 31).toUInt32).toInt32) &&& (3 : Int32))), .unset, .unset, .unset, .unset] [(.int (((i2.toUInt32 >>> ((1 : Int32) &&& 31).toUInt32).toInt32) &&& (3 : Int32)))])
      refine Go.step (fun t k => XS.iconst X0.here hx rfl (hb hby at_45) k) ?_
      show Go _ _ _ _ _ _ _ T0 (mkF m 46 #[.val (.int i0), .val (.int i1), .val (.int i2), .val (.int y), .val (.int (((i2.toUInt32 >>> ((1 : Int32) &&& 31).toUInt32).toInt32) &&& (3 : Int32))), .unset, .unset, .unset, .unset] [(.int (1 : Int32)), (.int (((i2.toUInt32 >>> ((1 : Int32) &&& 31).toUInt32).toInt32) &&& (3 : Int32)))])
      by_cases c46_7 : (((i2.toUInt32 >>> ((1 : Int32) &&& 31).toUInt32).toInt32) &&& (3 : Int32)) = (1 : Int32)
      · refine Go.step (fun t k => XS.icmpNo X0.here hx rfl (hb hby at_46) rfl (teq c46_7).2 k) ?_
        show Go _ _ _ _ _ _ _ T0 (mkF m 49 #[.val (.int i0), .val (.int i1), .val (.int i2), .val (.int y), .val (.int (((i2.toUInt32 >>> ((1 : Int32) &&& 31).toUInt32).toInt32) &&& (3 : Int32))), .unset, .unset, .unset, .unset] [])
        refine Go.step (fun t k => XS.iloadN X0.here hx rfl (hb hby at_49) rfl k) ?_
        show Go _ _ _ _ _ _ _ T0 (mkF m 50 #[.val (.int i0), .val (.int i1), .val (.int i2), .val (.int y), .val (.int (((i2.toUInt32 >>> ((1 : Int32) &&& 31).toUInt32).toInt32) &&& (3 : Int32))), .unset, .unset, .unset, .unset] [(.int y)])
        refine Go.step (fun t k => XS.iconst X0.here hx rfl (hb hby at_50) k) ?_
        show Go _ _ _ _ _ _ _ T0 (mkF m 51 #[.val (.int i0), .val (.int i1), .val (.int i2), .val (.int y), .val (.int (((i2.toUInt32 >>> ((1 : Int32) &&& 31).toUInt32).toInt32) &&& (3 : Int32))), .unset, .unset, .unset, .unset] [(.int (1 : Int32)), (.int y)])
        refine Go.step (fun t k => XS.isub X0.here hx rfl (hb hby at_51) rfl k) ?_
        show Go _ _ _ _ _ _ _ T0 (mkF m 52 #[.val (.int i0), .val (.int i1), .val (.int i2), .val (.int y), .val (.int (((i2.toUInt32 >>> ((1 : Int32) &&& 31).toUInt32).toInt32) &&& (3 : Int32))), .unset, .unset, .unset, .unset] [(.int (y - (1 : Int32)))])
        refine Go.step (fun t k => XS.istore X0.here hx rfl (hb hby at_52) rfl (l' := #[.val (.int i0), .val (.int i1), .val (.int i2), .val (.int y), .val (.int (((i2.toUInt32 >>> ((1 : Int32) &&& 31).toUInt32).toInt32) &&& (3 : Int32))), .val (.int (y - (1 : Int32))), .unset, .unset, .unset]) rfl k) ?_
        show Go _ _ _ _ _ _ _ T0 (mkF m 54 #[.val (.int i0), .val (.int i1), .val (.int i2), .val (.int y), .val (.int (((i2.toUInt32 >>> ((1 : Int32) &&& 31).toUInt32).toInt32) &&& (3 : Int32))), .val (.int (y - (1 : Int32))), .unset, .unset, .unset] [])
        refine Go.step (fun t k => XS.goto X0.here hx rfl (pc0 := 54) (pc' := 79) rfl (hb hby at_54) (by decide) (by decide) k) ?_
        show Go _ _ _ _ _ _ _ T0 (mkF m 79 #[.val (.int i0), .val (.int i1), .val (.int i2), .val (.int y), .val (.int (((i2.toUInt32 >>> ((1 : Int32) &&& 31).toUInt32).toInt32) &&& (3 : Int32))), .val (.int (y - (1 : Int32))), .unset, .unset, .unset] [])
        exact j34 _ (own_i2 y hy)
      · refine Go.step (fun t k => XS.icmpYes X0.here hx rfl (pc0 := 46) (pc' := 57) rfl (hb hby at_46) rfl (feq c46_7).2 (by decide) (by decide) k) ?_
        show Go _ _ _ _ _ _ _ T0 (mkF m 57 #[.val (.int i0), .val (.int i1), .val (.int i2), .val (.int y), .val (.int (((i2.toUInt32 >>> ((1 : Int32) &&& 31).toUInt32).toInt32) &&& (3 : Int32))), .unset, .unset, .unset, .unset] [])
        refine Go.step (fun t k => XS.iload X0.here hx rfl (hb hby at_57) rfl k) ?_
        show Go _ _ _ _ _ _ _ T0 (mkF m 59 #[.val (.int i0), .val (.int i1), .val (.int i2), .val (.int y), .val (.int (((i2.toUInt32 >>> ((1 : Int32) &&& 31).toUInt32).toInt32) &&& (3 : Int32))), .unset, .unset, .unset, .unset] [(.int (((i2.toUInt32 >>> ((1 : Int32) &&& 31).toUInt32).toInt32) &&& (3 : Int32)))])
        refine Go.step (fun t k => XS.iconst X0.here hx rfl (hb hby at_59) k) ?_
        show Go _ _ _ _ _ _ _ T0 (mkF m 60 #[.val (.int i0), .val (.int i1), .val (.int i2), .val (.int y), .val (.int (((i2.toUInt32 >>> ((1 : Int32) &&& 31).toUInt32).toInt32) &&& (3 : Int32))), .unset, .unset, .unset, .unset] [(.int (2 : Int32)), (.int (((i2.toUInt32 >>> ((1 : Int32) &&& 31).toUInt32).toInt32) &&& (3 : Int32)))])
        by_cases c60_8 : (((i2.toUInt32 >>> ((1 : Int32) &&& 31).toUInt32).toInt32) &&& (3 : Int32)) = (2 : Int32)
        · refine Go.step (fun t k => XS.icmpNo X0.here hx rfl (hb hby at_60) rfl (teq c60_8).2 k) ?_
          show Go _ _ _ _ _ _ _ T0 (mkF m 63 #[.val (.int i0), .val (.int i1), .val (.int i2), .val (.int y), .val (.int (((i2.toUInt32 >>> ((1 : Int32) &&& 31).toUInt32).toInt32) &&& (3 : Int32))), .unset, .unset, .unset, .unset] [])
          refine Go.step (fun t k => XS.iloadN X0.here hx rfl (hb hby at_63) rfl k) ?_
          show Go _ _ _ _ _ _ _ T0 (mkF m 64 #[.val (.int i0), .val (.int i1), .val (.int i2), .val (.int y), .val (.int (((i2.toUInt32 >>> ((1 : Int32) &&& 31).toUInt32).toInt32) &&& (3 : Int32))), .unset, .unset, .unset, .unset] [(.int y)])
          refine Go.step (fun t k => XS.iconst X0.here hx rfl (hb hby at_64) k) ?_
          show Go _ _ _ _ _ _ _ T0 (mkF m 65 #[.val (.int i0), .val (.int i1), .val (.int i2), .val (.int y), .val (.int (((i2.toUInt32 >>> ((1 : Int32) &&& 31).toUInt32).toInt32) &&& (3 : Int32))), .unset, .unset, .unset, .unset] [(.int (2 : Int32)), (.int y)])
          refine Go.step (fun t k => XS.idiv X0.here hx rfl (hb hby at_65) rfl (by decide) k) ?_
          show Go _ _ _ _ _ _ _ T0 (mkF m 66 #[.val (.int i0), .val (.int i1), .val (.int i2), .val (.int y), .val (.int (((i2.toUInt32 >>> ((1 : Int32) &&& 31).toUInt32).toInt32) &&& (3 : Int32))), .unset, .unset, .unset, .unset] [(.int (y / (2 : Int32)))])
          refine Go.step (fun t k => XS.istore X0.here hx rfl (hb hby at_66) rfl (l' := #[.val (.int i0), .val (.int i1), .val (.int i2), .val (.int y), .val (.int (((i2.toUInt32 >>> ((1 : Int32) &&& 31).toUInt32).toInt32) &&& (3 : Int32))), .val (.int (y / (2 : Int32))), .unset, .unset, .unset]) rfl k) ?_
          show Go _ _ _ _ _ _ _ T0 (mkF m 68 #[.val (.int i0), .val (.int i1), .val (.int i2), .val (.int y), .val (.int (((i2.toUInt32 >>> ((1 : Int32) &&& 31).toUInt32).toInt32) &&& (3 : Int32))), .val (.int (y / (2 : Int32))), .unset, .unset, .unset] [])
          refine Go.step (fun t k => XS.goto X0.here hx rfl (pc0 := 68) (pc' := 79) rfl (hb hby at_68) (by decide) (by decide) k) ?_
          show Go _ _ _ _ _ _ _ T0 (mkF m 79 #[.val (.int i0), .val (.int i1), .val (.int i2), .val (.int y), .val (.int (((i2.toUInt32 >>> ((1 : Int32) &&& 31).toUInt32).toInt32) &&& (3 : Int32))), .val (.int (y / (2 : Int32))), .unset, .unset, .unset] [])
          exact j34 _ (own_i3 y hy)
        · refine Go.step (fun t k => XS.icmpYes X0.here hx rfl (pc0 := 60) (pc' := 71) rfl (hb hby at_60) rfl (feq c60_8).2 (by decide) (by decide) k) ?_
          show Go _ _ _ _ _ _ _ T0 (mkF m 71 #[.val (.int i0), .val (.int i1), .val (.int i2), .val (.int y), .val (.int (((i2.toUInt32 >>> ((1 : Int32) &&& 31).toUInt32).toInt32) &&& (3 : Int32))), .unset, .unset, .unset, .unset] [])
          refine Go.step (fun t k => XS.iloadN X0.here hx rfl (hb hby at_71) rfl k) ?_
          show Go _ _ _ _ _ _ _ T0 (mkF m 72 #[.val (.int i0), .val (.int i1), .val (.int i2), .val (.int y), .val (.int (((i2.toUInt32 >>> ((1 : Int32) &&& 31).toUInt32).toInt32) &&& (3 : Int32))), .unset, .unset, .unset, .unset] [(.int i1)])
          refine Go.step (X0.ldcInt hx hown (mvT hZ (hw _ (List.mem_of_getElem? (i := 16) rfl))) (g := (mkF m 72 #[.val (.int i0), .val (.int i1), .val (.int i2), .val (.int y), .val (.int (((i2.toUInt32 >>> ((1 : Int32) &&& 31).toUInt32).toInt32) &&& (3 : Int32))), .unset, .unset, .unset, .unset] [(.int i1)])) rfl (hb hby at_72)) ?_
          show Go _ _ _ _ _ _ _ T0 (mkF m 74 #[.val (.int i0), .val (.int i1), .val (.int i2), .val (.int y), .val (.int (((i2.toUInt32 >>> ((1 : Int32) &&& 31).toUInt32).toInt32) &&& (3 : Int32))), .unset, .unset, .unset, .unset] [(.int (2147483647 : Int32)), (.int i1)])
          refine Go.step (fun t k => XS.iand X0.here hx rfl (hb hby at_74) rfl k) ?_
          show Go _ _ _ _ _ _ _ T0 (mkF m 75 #[.val (.int i0), .val (.int i1), .val (.int i2), .val (.int y), .val (.int (((i2.toUInt32 >>> ((1 : Int32) &&& 31).toUInt32).toInt32) &&& (3 : Int32))), .unset, .unset, .unset, .unset] [(.int (i1 &&& (2147483647 : Int32)))])
          refine Go.step (fun t k => XS.iloadN X0.here hx rfl (hb hby at_75) rfl k) ?_
          show Go _ _ _ _ _ _ _ T0 (mkF m 76 #[.val (.int i0), .val (.int i1), .val (.int i2), .val (.int y), .val (.int (((i2.toUInt32 >>> ((1 : Int32) &&& 31).toUInt32).toInt32) &&& (3 : Int32))), .unset, .unset, .unset, .unset] [(.int y), (.int (i1 &&& (2147483647 : Int32)))])
          refine Go.step (fun t k => iremM X0 hx rfl (hb hby at_76) rfl (own_ynz y hy) k) ?_
          show Go _ _ _ _ _ _ _ T0 (mkF m 77 #[.val (.int i0), .val (.int i1), .val (.int i2), .val (.int y), .val (.int (((i2.toUInt32 >>> ((1 : Int32) &&& 31).toUInt32).toInt32) &&& (3 : Int32))), .unset, .unset, .unset, .unset] [(.int ((i1 &&& (2147483647 : Int32)) % y))])
          refine Go.step (fun t k => XS.istore X0.here hx rfl (hb hby at_77) rfl (l' := #[.val (.int i0), .val (.int i1), .val (.int i2), .val (.int y), .val (.int (((i2.toUInt32 >>> ((1 : Int32) &&& 31).toUInt32).toInt32) &&& (3 : Int32))), .val (.int ((i1 &&& (2147483647 : Int32)) % y)), .unset, .unset, .unset]) rfl k) ?_
          show Go _ _ _ _ _ _ _ T0 (mkF m 79 #[.val (.int i0), .val (.int i1), .val (.int i2), .val (.int y), .val (.int (((i2.toUInt32 >>> ((1 : Int32) &&& 31).toUInt32).toInt32) &&& (3 : Int32))), .val (.int ((i1 &&& (2147483647 : Int32)) % y)), .unset, .unset, .unset] [])
          exact j34 _ (own_i4 i1 y hy)
  by_cases c3_9 : (i2 &&& (1 : Int32)) = (0 : Int32)
  · refine Go.step (fun t k => XS.ifNo X0.here hx rfl (hb hby at_3) rfl ((if0 _ _).trans (teq c3_9).2) k) ?_
    show Go _ _ _ _ _ _ _ T0 (mkF m 6 #[.val (.int i0), .val (.int i1), .val (.int i2), .unset, .unset, .unset, .unset, .unset, .unset] [])
    refine Go.step (fun t k => XS.iconst X0.here hx rfl (hb hby at_6) k) ?_
    show Go _ _ _ _ _ _ _ T0 (mkF m 7 #[.val (.int i0), .val (.int i1), .val (.int i2), .unset, .unset, .unset, .unset, .unset, .unset] [(.int (1 : Int32))])
    refine Go.step (fun t k => XS.iloadN X0.here hx rfl (hb hby at_7) rfl k) ?_
    show Go _ _ _ _ _ _ _ T0 (mkF m 8 #[.val (.int i0), .val (.int i1), .val (.int i2), .unset, .unset, .unset, .unset, .unset, .unset] [(.int i0), (.int (1 : Int32))])
    refine Go.step (fun t k => XS.iconst X0.here hx rfl (hb hby at_8) k) ?_
    show Go _ _ _ _ _ _ _ T0 (mkF m 9 #[.val (.int i0), .val (.int i1), .val (.int i2), .unset, .unset, .unset, .unset, .unset, .unset] [(.int (3 : Int32)), (.int i0), (.int (1 : Int32))])
    refine Go.step (fun t k => XS.iand X0.here hx rfl (hb hby at_9) rfl k) ?_
    show Go _ _ _ _ _ _ _ T0 (mkF m 10 #[.val (.int i0), .val (.int i1), .val (.int i2), .unset, .unset, .unset, .unset, .unset, .unset] [(.int (i0 &&& (3 : Int32))), (.int (1 : Int32))])
    refine Go.step (fun t k => XS.iadd X0.here hx rfl (hb hby at_10) rfl k) ?_
    show Go _ _ _ _ _ _ _ T0 (mkF m 11 #[.val (.int i0), .val (.int i1), .val (.int i2), .unset, .unset, .unset, .unset, .unset, .unset] [(.int ((1 : Int32) + (i0 &&& (3 : Int32))))])
    refine Go.step (fun t k => XS.istoreN X0.here hx rfl (hb hby at_11) rfl (l' := #[.val (.int i0), .val (.int i1), .val (.int i2), .val (.int ((1 : Int32) + (i0 &&& (3 : Int32)))), .unset, .unset, .unset, .unset, .unset]) rfl k) ?_
    show Go _ _ _ _ _ _ _ T0 (mkF m 12 #[.val (.int i0), .val (.int i1), .val (.int i2), .val (.int ((1 : Int32) + (i0 &&& (3 : Int32)))), .unset, .unset, .unset, .unset, .unset] [])
    refine Go.step (fun t k => XS.goto X0.here hx rfl (pc0 := 12) (pc' := 25) rfl (hb hby at_12) (by decide) (by decide) k) ?_
    show Go _ _ _ _ _ _ _ T0 (mkF m 25 #[.val (.int i0), .val (.int i1), .val (.int i2), .val (.int ((1 : Int32) + (i0 &&& (3 : Int32)))), .unset, .unset, .unset, .unset, .unset] [])
    exact j3 _ (own_c1 i0)
  · refine Go.step (fun t k => XS.ifYes X0.here hx rfl (pc0 := 3) (pc' := 15) rfl (hb hby at_3) rfl ((if0 _ _).trans (feq c3_9).2) (by decide) (by decide) k) ?_
    show Go _ _ _ _ _ _ _ T0 (mkF m 15 #[.val (.int i0), .val (.int i1), .val (.int i2), .unset, .unset, .unset, .unset, .unset, .unset] [])
    refine Go.step (fun t k => XS.iconst X0.here hx rfl (hb hby at_15) k) ?_
    show Go _ _ _ _ _ _ _ T0 (mkF m 16 #[.val (.int i0), .val (.int i1), .val (.int i2), .unset, .unset, .unset, .unset, .unset, .unset] [(.int (1 : Int32))])
    refine Go.step (fun t k => XS.iloadN X0.here hx rfl (hb hby at_16) rfl k) ?_
    show Go _ _ _ _ _ _ _ T0 (mkF m 17 #[.val (.int i0), .val (.int i1), .val (.int i2), .unset, .unset, .unset, .unset, .unset, .unset] [(.int i0), (.int (1 : Int32))])
    refine Go.step (X0.ldcInt hx hown (mvT hZ (hw _ (List.mem_of_getElem? (i := 16) rfl))) (g := (mkF m 17 #[.val (.int i0), .val (.int i1), .val (.int i2), .unset, .unset, .unset, .unset, .unset, .unset] [(.int i0), (.int (1 : Int32))])) rfl (hb hby at_17)) ?_
    show Go _ _ _ _ _ _ _ T0 (mkF m 19 #[.val (.int i0), .val (.int i1), .val (.int i2), .unset, .unset, .unset, .unset, .unset, .unset] [(.int (2147483647 : Int32)), (.int i0), (.int (1 : Int32))])
    refine Go.step (fun t k => XS.iand X0.here hx rfl (hb hby at_19) rfl k) ?_
    show Go _ _ _ _ _ _ _ T0 (mkF m 20 #[.val (.int i0), .val (.int i1), .val (.int i2), .unset, .unset, .unset, .unset, .unset, .unset] [(.int (i0 &&& (2147483647 : Int32))), (.int (1 : Int32))])
    refine Go.step (X0.ldcInt hx hown (mvT hZ (hw _ (List.mem_of_getElem? (i := 16) rfl))) (g := (mkF m 20 #[.val (.int i0), .val (.int i1), .val (.int i2), .unset, .unset, .unset, .unset, .unset, .unset] [(.int (i0 &&& (2147483647 : Int32))), (.int (1 : Int32))])) rfl (hb hby at_20)) ?_
    show Go _ _ _ _ _ _ _ T0 (mkF m 22 #[.val (.int i0), .val (.int i1), .val (.int i2), .unset, .unset, .unset, .unset, .unset, .unset] [(.int (2147483647 : Int32)), (.int (i0 &&& (2147483647 : Int32))), (.int (1 : Int32))])
    refine Go.step (fun t k => iremM X0 hx rfl (hb hby at_22) rfl (by decide) k) ?_
    show Go _ _ _ _ _ _ _ T0 (mkF m 23 #[.val (.int i0), .val (.int i1), .val (.int i2), .unset, .unset, .unset, .unset, .unset, .unset] [(.int ((i0 &&& (2147483647 : Int32)) % (2147483647 : Int32))), (.int (1 : Int32))])
    refine Go.step (fun t k => XS.iadd X0.here hx rfl (hb hby at_23) rfl k) ?_
    show Go _ _ _ _ _ _ _ T0 (mkF m 24 #[.val (.int i0), .val (.int i1), .val (.int i2), .unset, .unset, .unset, .unset, .unset, .unset] [(.int ((1 : Int32) + ((i0 &&& (2147483647 : Int32)) % (2147483647 : Int32))))])
    refine Go.step (fun t k => XS.istoreN X0.here hx rfl (hb hby at_24) rfl (l' := #[.val (.int i0), .val (.int i1), .val (.int i2), .val (.int ((1 : Int32) + ((i0 &&& (2147483647 : Int32)) % (2147483647 : Int32)))), .unset, .unset, .unset, .unset, .unset]) rfl k) ?_
    show Go _ _ _ _ _ _ _ T0 (mkF m 25 #[.val (.int i0), .val (.int i1), .val (.int i2), .val (.int ((1 : Int32) + ((i0 &&& (2147483647 : Int32)) % (2147483647 : Int32)))), .unset, .unset, .unset, .unset, .unset] [])
    exact j3 _ (own_c2 i0)
set_option maxRecDepth 65536 in
set_option maxHeartbeats 40000000 in
theorem comes_1 {Post : Tables → Env → Array Value → State → Outcome → State → Prop} (hpost : ∀ tb e args s v u, (limb_1_1.after args s (.returned v) u = true ∧ limb_1_2.after args s (.returned v) u = true ∧ True) → FrameEnd s (.returned v) u (Jvm.fieldLocs frame_1_writes args s ++ Jvm.arrayLocs frame_1_arrays args s ++ Jvm.staticLocs frame_1_statics s) 0 0 → Post tb e args s (.returned v) u) :
    ArmFor flags0 classFile x code maxLocals ret World_1 tables_1 room_1 Calls_1 rest_1 Pre_1 Post := by
  intro l hfl _ _ p e ha hc hk s m args below hf hA hF happ hP
  obtain ⟨hcalls, hrest, hpre⟩ := hP
  obtain ⟨-, -, -, hnamed, -, -, -, hat⟩ := (Spec.applies_iff hf).mp happ
  obtain ⟨hg, hn⟩ := and_e (Cond.before_iff.mp (show (Jvm.Cond.and given_1 narrow_1).before args s = true from hpre))
  obtain ⟨hcnt, hg1⟩ := and_e hg
  obtain ⟨ha0, hg2⟩ := and_e hg1
  obtain ⟨ha1, hg3⟩ := and_e hg2
  obtain ⟨w0, w1, w2, rfl⟩ : ∃ w0 w1 w2 : Value, args = #[w0, w1, w2] := by
    have hs : args.size = 3 := by simpa [Cond.value, given_1] using hcnt
    obtain ⟨L⟩ := args
    match L, hs with
    | [w0, w1, w2], _ => exact ⟨w0, w1, w2, rfl⟩
  have hw := fun d (hd : d ∈ tables_1) => atoms_spec (ws := Jvm.Cond.code x code maxLocals ret :: tables_1) hat d (List.mem_cons_of_mem _ hd)
  have hfit : Fit s := fun {y c} hc i hi => by
    obtain ⟨ha, rfl⟩ := Array.getElem?_eq_some_iff.mp hc
    have q := List.all_eq_true.mp ((Array.all_eq_true_iff_forall_mem.mp hF) _ (Array.getElem_mem ha)) i (List.mem_range.mpr hi)
    simpa [Array.getElem?_eq_getElem hi] using q
  obtain ⟨i0, ei0⟩ := is_v ha0
  obtain rfl : w0 = (.int i0) := Option.some.inj ei0
  obtain ⟨i1, ei1⟩ := is_v ha1
  obtain rfl : w1 = (.int i1) := Option.some.inj ei1
  obtain ⟨i2, ei2⟩ := is_v hg3
  obtain rfl : w2 = (.int i2) := Option.some.inj ei2
  obtain ⟨nw0, nr0⟩ := and_e hn
  obtain ⟨c0, ev0⟩ := exa_v nw0
  have E0 := Exa.start ev0 nw0
  have S0 := Sta.start ev0 (Or.inr ⟨(hw _ (List.mem_of_getElem? (i := 2) rfl)), (hw _ (List.mem_of_getElem? (i := 5) rfl))⟩)
  obtain ⟨nw1, nr1⟩ := and_e nr0
  obtain ⟨c2, ev2⟩ := exa_v nw1
  have E2 := Exa.start ev2 nw1
  have S2 := Sta.start ev2 (Or.inr ⟨(hw _ (List.mem_of_getElem? (i := 2) rfl)), (hw _ (List.mem_of_getElem? (i := 18) rfl))⟩)
  obtain ⟨nw2, nr2⟩ := and_e nr1
  have F2 : Fld s s.heap c2 "java/lang/Enum" "ordinal" "I" (.int (2 : Int32)) := by
    obtain ⟨x, y, ha, hb, -⟩ := cmp_v (Or.inl nw2)
    have hc := (fld_at ev2).symm.trans ha
    have hy : y = .int (2 : Int32) := (Option.some.inj hb).symm
    subst hy
    have hx : x = .int (2 : Int32) := by
      have q := nw2
      simp only [Cond.value, ha, hb] at q
      cases x <;> simp at q
      rw [q]
    subst hx
    exact Fld.start hc
  obtain ⟨nw3, nr3⟩ := and_e nr2
  have F0 : Fld s s.heap c0 "java/lang/Enum" "ordinal" "I" (.int (0 : Int32)) := by
    obtain ⟨x, y, ha, hb, -⟩ := cmp_v (Or.inl nw3)
    have hc := (fld_at ev0).symm.trans ha
    have hy : y = .int (0 : Int32) := (Option.some.inj hb).symm
    subst hy
    have hx : x = .int (0 : Int32) := by
      have q := nw3
      simp only [Cond.value, ha, hb] at q
      cases x <;> simp at q
      rw [q]
    subst hx
    exact Fld.start hc
  obtain ⟨nw4, nr4⟩ := and_e nr3
  obtain ⟨c1, ev1⟩ := exa_v nw4
  have E1 := Exa.start ev1 nw4
  have S1 := Sta.start ev1 (Or.inr ⟨(hw _ (List.mem_of_getElem? (i := 2) rfl)), (hw _ (List.mem_of_getElem? (i := 20) rfl))⟩)
  obtain ⟨nw5, nr5⟩ := and_e nr4
  have F1 : Fld s s.heap c1 "java/lang/Enum" "ordinal" "I" (.int (1 : Int32)) := by
    obtain ⟨x, y, ha, hb, -⟩ := cmp_v (Or.inl nw5)
    have hc := (fld_at ev1).symm.trans ha
    have hy : y = .int (1 : Int32) := (Option.some.inj hb).symm
    subst hy
    have hx : x = .int (1 : Int32) := by
      have q := nw5
      simp only [Cond.value, ha, hb] at q
      cases x <;> simp at q
      rw [q]
    subst hx
    exact Fld.start hc
  obtain ⟨nw6, nr6⟩ := and_e nr5
  obtain ⟨c3, ev3⟩ := exa_v nw6
  have E3 := Exa.start ev3 nw6
  have S3 := Sta.start ev3 (Or.inr ⟨(hw _ (List.mem_of_getElem? (i := 2) rfl)), (hw _ (List.mem_of_getElem? (i := 22) rfl))⟩)
  have F3 : Fld s s.heap c3 "java/lang/Enum" "ordinal" "I" (.int (3 : Int32)) := by
    obtain ⟨x, y, ha, hb, -⟩ := cmp_v (Or.inl nr6)
    have hc := (fld_at ev3).symm.trans ha
    have hy : y = .int (3 : Int32) := (Option.some.inj hb).symm
    subst hy
    have hx : x = .int (3 : Int32) := by
      have q := nr6
      simp only [Cond.value, ha, hb] at q
      cases x <;> simp at q
      rw [q]
    subst hx
    exact Fld.start hc
  have n01 : c0 ≠ c1 := Fld.ne F0 F1 (by decide)
  have n02 : c0 ≠ c2 := Fld.ne F0 F2 (by decide)
  have n03 : c0 ≠ c3 := Fld.ne F0 F3 (by decide)
  have n12 : c1 ≠ c2 := Fld.ne F1 F2 (by decide)
  have n13 : c1 ≠ c3 := Fld.ne F1 F3 (by decide)
  have n23 : c2 ≠ c3 := Fld.ne F2 F3 (by decide)
  obtain ⟨n, o, h1, h2, h3, _, L, rfl, ⟨rfl, N⟩, hq⟩ := rm0 l s _ hw tables_1 i0 i1 i2 c0 c1 c2 c3 s.heap s.heap.size (Nat.le_refl _) S0 S1 S2 S3 E0 E1 E2 E3 n01 n02 n03 n12 n13 n23 p e ha hc hk s m _ below hf ((Spec.applies_iff_loose hf).mp happ).1 ⟨rfl, State.Warmed39.refl s, rfl⟩ trivial
  refine ⟨n, _, h1, h2, h3, hpost _ _ _ _ _ _ ⟨Cond.after_iff.mpr rfl, Cond.after_iff.mpr (eq_i res_at (Term.int_eval (1)) rfl), trivial⟩ ⟨hq.1, hq.2.1, (hq.2.2.sift fun y hy => Or.inr (N y hy)).mono (by decide) (by decide)⟩⟩
theorem main_1_1 : Claimed_1_1 := comes_1 fun _ _ _ _ _ _ h hF => ⟨h.1, hF⟩
theorem main_1_2 : Claimed_1_2 := comes_1 fun _ _ _ _ _ _ h hF => ⟨h.2.1, hF⟩
end Jvm.Pilot.@@N@@
namespace Jvm.Pilot.@@N@@
open Jvm Jvm.ClassFile Sem Op Lib Jvm.Free Jvm.Stand Jvm.Pilot.@@N@@.Jvm.D
/-! MADE BY PROGRAM (witnessworld.py) out of the Statement's table words and the real class files: 12 classes; the members and pool entries that the words name. The judged class is class 1, her method 1. -/
namespace start1
open Jvm.ClassFile
def u (s : String) : CpInfo := .utf8 (stringToUtf16 s)
/-- a pool by its gaps: so many unusable entries, then the entry; so many at the end -/
def gap : Nat → List CpInfo → List CpInfo
  | 0, r => r
  | n + 1, r => .unusable :: gap n r
def poolList (es : List (Nat × CpInfo)) (last : Nat) : List CpInfo := es.foldr (fun e r => gap e.1 (e.2 :: r)) (gap last [])
def pool (es : List (Nat × CpInfo)) (last : Nat) : Array CpInfo := ⟨poolList es last⟩
def fileOf (pool : Array CpInfo) (this : Nat) (attrs : Array Attribute := #[]) (ms : Array MethodInfo := #[]) (fl : Nat := 33) (sup : Nat := 0) (ifs : Array Nat := #[]) (fds : Array FieldInfo := #[]) : ClassFile where
  minorVersion := 0
  majorVersion := 65
  constantPool := pool
  accessFlags := fl
  thisClass := this
  superClass := sup
  interfaces := ifs
  fields := fds
  methods := ms
  attributes := attrs
def plain (name : String) (sup : Option ClassId) : Class where
  name := name
  kind := .ordinary
  loader := none
  accessFlags := 33
  super := sup
  interfaces := #[]
  cf := none
  fields := #[]
  methods := #[]
  instanceTypes := #[]
  staticTypes := #[]
  resolved := #[]
  callSites := []
  init := .initialized
  statics := none
  mirror := none

def pool0 : Array CpInfo := pool [(5, u "<init>"), (0, u "()V"), (1, .class_ 10), (1, u "java/lang/Object")] 113

def k0m0 : Method := { name := "<init>", desc := "()V", sig := { parameters := [], returnType := none }, accessFlags := 1, code := none }
/-- java/lang/Object -/
def k0 : Class := { plain "java/lang/Object" none with
  accessFlags := 33
  interfaces := #[]
  cf := some (fileOf pool0 8 #[] #[{ accessFlags := 1, nameIndex := 5, descriptorIndex := 6, attributes := #[] }] 33 0 #[] #[])
  fields := #[]
  methods := #[k0m0]
  instanceTypes := #[]
  staticTypes := #[]
  resolved := Array.replicate 124 none
  statics := none }

def pool1 : Array CpInfo := pool [(2, .class_ 4), (1, u "java/lang/Object"), (0, u "<init>"), (0, u "()V"), (0, .integer 2147483647), (2, .methodref 11 12), (0, .class_ 13), (0, .nameAndType 14 15), (0, u "com/example/satzbau/satzbau/core/Segment"), (0, u "at"), (0, u "(II)Lcom/example/satzbau/satzbau/core/Segment;"), (0, .methodref 11 17), (0, .nameAndType 18 19), (0, u "startsRecord"), (0, u "()Z"), (0, .methodref 11 21), (0, .nameAndType 22 19), (0, u "endsRecord"), (0, .class_ 24), (0, u "com/example/satzbau/satzbau/core/SegmentAtPinLaw"), (2, u "law"), (0, u "(III)Z")] 3

def k1m0 : Method := { name := "<init>", desc := "()V", sig := { parameters := [], returnType := none }, accessFlags := 2, code := none }
def k1c1 : Code := { maxStack := 3, maxLocals := 9, code := code, exceptionTable := #[], attributes := #[] }
def k1m1 : Method := { name := "law", desc := "(III)Z", sig := { parameters := [.int, .int, .int], returnType := some .boolean }, accessFlags := 9, code := some k1c1 }
/-- com/example/satzbau/satzbau/core/SegmentAtPinLaw -/
def k1 : Class := { plain "com/example/satzbau/satzbau/core/SegmentAtPinLaw" (some 0) with
  accessFlags := 49
  interfaces := #[]
  cf := some (fileOf pool1 23 #[] #[{ accessFlags := 2, nameIndex := 5, descriptorIndex := 6, attributes := #[] }, { accessFlags := 9, nameIndex := 27, descriptorIndex := 28, attributes := #[] }] 49 2 #[] #[])
  fields := #[]
  methods := #[k1m0, k1m1]
  instanceTypes := #[]
  staticTypes := #[]
  resolved := Array.replicate 32 none
  statics := none }

def pool2 : Array CpInfo := pool [(1, .class_ 2), (0, u "java/lang/constant/Constable"), (0, .class_ 4), (0, u "java/lang/Object")] 6

/-- java/lang/constant/Constable -/
def k2 : Class := { plain "java/lang/constant/Constable" (some 0) with
  accessFlags := 1537
  interfaces := #[]
  cf := some (fileOf pool2 1 #[] #[] 1537 3 #[] #[])
  fields := #[]
  methods := #[]
  instanceTypes := #[]
  staticTypes := #[]
  resolved := Array.replicate 11 none
  statics := none }

def pool3 : Array CpInfo := pool [(1, .class_ 2), (0, u "java/lang/Comparable"), (0, .class_ 4), (0, u "java/lang/Object")] 7

/-- java/lang/Comparable -/
def k3 : Class := { plain "java/lang/Comparable" (some 0) with
  accessFlags := 1537
  interfaces := #[]
  cf := some (fileOf pool3 1 #[] #[] 1537 3 #[] #[])
  fields := #[]
  methods := #[]
  instanceTypes := #[]
  staticTypes := #[]
  resolved := Array.replicate 12 none
  statics := none }

def pool4 : Array CpInfo := pool [(1, .class_ 2), (0, u "java/io/Serializable"), (0, .class_ 4), (0, u "java/lang/Object")] 2

/-- java/io/Serializable -/
def k4 : Class := { plain "java/io/Serializable" (some 0) with
  accessFlags := 1537
  interfaces := #[]
  cf := some (fileOf pool4 1 #[] #[] 1537 3 #[] #[])
  fields := #[]
  methods := #[]
  instanceTypes := #[]
  staticTypes := #[]
  resolved := Array.replicate 7 none
  statics := none }

def pool5 : Array CpInfo := pool [(2, .class_ 4), (1, u "java/lang/Enum"), (0, u "name"), (0, u "Ljava/lang/String;"), (2, u "ordinal"), (0, u "I"), (1, .class_ 14), (1, u "java/lang/Object"), (4, u "hash"), (86, .class_ 108), (1, u "java/lang/Enum$EnumDesc"), (2, .class_ 112), (0, u "java/lang/constant/Constable"), (0, .class_ 114), (0, u "java/lang/Comparable"), (0, .class_ 116), (0, u "java/io/Serializable")] 87

/-- java/lang/Enum -/
def k5 : Class := { plain "java/lang/Enum" (some 0) with
  accessFlags := 1057
  interfaces := #[2, 3, 4]
  cf := some (fileOf pool5 2 #[.nestMembers #[106]] #[] 1057 12 #[111, 113, 115] #[{ accessFlags := 18, nameIndex := 5, descriptorIndex := 6, attributes := #[] }, { accessFlags := 18, nameIndex := 9, descriptorIndex := 10, attributes := #[] }, { accessFlags := 2, nameIndex := 19, descriptorIndex := 10, attributes := #[] }])
  fields := #[{ name := "name", type := (.object "java/lang/String"), accessFlags := 18, slot := 0, constantValue := 0 }, { name := "ordinal", type := .int, accessFlags := 18, slot := 1, constantValue := 0 }, { name := "hash", type := .int, accessFlags := 2, slot := 2, constantValue := 0 }]
  methods := #[]
  instanceTypes := #[(.object "java/lang/String"), .int, .int]
  staticTypes := #[]
  resolved := Array.replicate 204 none
  statics := none }

def pool6 : Array CpInfo := pool [(1, .class_ 2), (0, u "com/example/satzbau/satzbau/core/Segment"), (0, .fieldref 1 4), (0, .nameAndType 5 6), (0, u "COMPLETE"), (0, u "Lcom/example/satzbau/satzbau/core/Segment;"), (0, .fieldref 1 8), (0, .nameAndType 9 6), (0, u "FIRST"), (0, .fieldref 1 11), (0, .nameAndType 12 6), (0, u "LAST"), (0, .fieldref 1 14), (0, .nameAndType 15 6), (0, u "MIDDLE"), (2, u "$VALUES"), (0, u "[Lcom/example/satzbau/satzbau/core/Segment;"), (6, .class_ 28), (1, u "java/lang/Enum"), (8, u "name"), (0, u "Ljava/lang/String;"), (2, u "BY_CODE"), (41, u "at"), (0, u "(II)Lcom/example/satzbau/satzbau/core/Segment;"), (1, u "startsRecord"), (0, u "()Z"), (0, u "endsRecord")] 22

def k6c0 : Code := { maxStack := 3, maxLocals := 3, code := prog_23_method_5_code, exceptionTable := #[], attributes := #[] }
def k6m0 : Method := { name := "at", desc := "(II)Lcom/example/satzbau/satzbau/core/Segment;", sig := { parameters := [.int, .int], returnType := some (.object "com/example/satzbau/satzbau/core/Segment") }, accessFlags := 8, code := some k6c0 }
def k6c1 : Code := { maxStack := 2, maxLocals := 1, code := prog_23_method_7_code, exceptionTable := #[], attributes := #[] }
def k6m1 : Method := { name := "startsRecord", desc := "()Z", sig := { parameters := [], returnType := some .boolean }, accessFlags := 0, code := some k6c1 }
def k6c2 : Code := { maxStack := 2, maxLocals := 1, code := prog_23_method_8_code, exceptionTable := #[], attributes := #[] }
def k6m2 : Method := { name := "endsRecord", desc := "()Z", sig := { parameters := [], returnType := some .boolean }, accessFlags := 0, code := some k6c2 }
/-- com/example/satzbau/satzbau/core/Segment -/
def k6 : Class := { plain "com/example/satzbau/satzbau/core/Segment" (some 5) with
  accessFlags := 16432
  interfaces := #[]
  cf := some (fileOf pool6 1 #[] #[{ accessFlags := 8, nameIndex := 83, descriptorIndex := 84, attributes := #[] }, { accessFlags := 0, nameIndex := 86, descriptorIndex := 87, attributes := #[] }, { accessFlags := 0, nameIndex := 88, descriptorIndex := 87, attributes := #[] }] 16432 26 #[] #[{ accessFlags := 16409, nameIndex := 5, descriptorIndex := 6, attributes := #[] }, { accessFlags := 16409, nameIndex := 9, descriptorIndex := 6, attributes := #[] }, { accessFlags := 16409, nameIndex := 12, descriptorIndex := 6, attributes := #[] }, { accessFlags := 16409, nameIndex := 15, descriptorIndex := 6, attributes := #[] }, { accessFlags := 26, nameIndex := 41, descriptorIndex := 19, attributes := #[] }, { accessFlags := 18, nameIndex := 37, descriptorIndex := 38, attributes := #[] }, { accessFlags := 4122, nameIndex := 18, descriptorIndex := 19, attributes := #[] }])
  fields := #[{ name := "COMPLETE", type := (.object "com/example/satzbau/satzbau/core/Segment"), accessFlags := 16409, slot := 0, constantValue := 0 }, { name := "FIRST", type := (.object "com/example/satzbau/satzbau/core/Segment"), accessFlags := 16409, slot := 1, constantValue := 0 }, { name := "LAST", type := (.object "com/example/satzbau/satzbau/core/Segment"), accessFlags := 16409, slot := 2, constantValue := 0 }, { name := "MIDDLE", type := (.object "com/example/satzbau/satzbau/core/Segment"), accessFlags := 16409, slot := 3, constantValue := 0 }, { name := "BY_CODE", type := (.array (.object "com/example/satzbau/satzbau/core/Segment")), accessFlags := 26, slot := 4, constantValue := 0 }, { name := "name", type := (.object "java/lang/String"), accessFlags := 18, slot := 3, constantValue := 0 }, { name := "$VALUES", type := (.array (.object "com/example/satzbau/satzbau/core/Segment")), accessFlags := 4122, slot := 5, constantValue := 0 }]
  methods := #[k6m0, k6m1, k6m2]
  instanceTypes := #[(.object "java/lang/String"), .int, .int, (.object "java/lang/String")]
  staticTypes := #[(.object "com/example/satzbau/satzbau/core/Segment"), (.object "com/example/satzbau/satzbau/core/Segment"), (.object "com/example/satzbau/satzbau/core/Segment"), (.object "com/example/satzbau/satzbau/core/Segment"), (.array (.object "com/example/satzbau/satzbau/core/Segment")), (.array (.object "com/example/satzbau/satzbau/core/Segment"))]
  resolved := Array.replicate 111 none
  statics := some 0 }

def pool7 : Array CpInfo := pool [(1, u "java/lang/Cloneable"), (0, .class_ 1), (0, u "java/lang/Object"), (0, .class_ 3)] 3

/-- java/lang/Cloneable -/
def k7 : Class := { plain "java/lang/Cloneable" (some 0) with
  accessFlags := 1537
  interfaces := #[]
  cf := some (fileOf pool7 2 #[] #[] 1537 4 #[] #[])
  fields := #[]
  methods := #[]
  instanceTypes := #[]
  staticTypes := #[]
  resolved := Array.replicate 8 none
  statics := none }

/-- the primitive byte -/
def k8 : Class := { plain "byte" none with kind := .primitive 'B', accessFlags := 0x411 }
/-- [B -/
def k9 : Class := { plain "[B" (some 0) with kind := .array 8 .byte, interfaces := #[7, 4], accessFlags := 1041 }

/-- the primitive int -/
def k10 : Class := { plain "int" none with kind := .primitive 'I', accessFlags := 0x411 }
/-- [I -/
def k11 : Class := { plain "[I" (some 0) with kind := .array 10 .int, interfaces := #[7, 4], accessFlags := 1041 }

def heap : Heap := #[{ cls := 6, slots := #[.ref 1, .ref 2, .ref 3, .ref 4, .null, .null], vm := .statics 6 },
  { cls := 6, slots := #[.null, .int 0, .int 0, .null], vm := .none },
  { cls := 6, slots := #[.null, .int 1, .int 0, .null], vm := .none },
  { cls := 6, slots := #[.null, .int 2, .int 0, .null], vm := .none },
  { cls := 6, slots := #[.null, .int 3, .int 0, .null], vm := .none }]
def classes : Array Class := #[k0, k1, k2, k3, k4, k5, k6, k7, k8, k9, k10, k11]
def interned : List (Array UInt16 × Addr) := []
def slotsUsed : Nat := 22
def theMethod : MethodId := ⟨1, 1⟩
def args0 : Array Value := #[.int 5, .int 5, .int 5]
def aboutOver (below : List Frame) : State where
  vm := { classes := classes, interned := interned.toArray }
  heap := heap
  slotsUsed := slotsUsed
  threads := #[{ frames := .invoking theMethod args0 :: below }]
def below0 : List Frame := [.native { method := ⟨0, 0⟩, args := #[] }]
def about1 : State := aboutOver below0
def p0 : Program := .bare "" "" ""
def e0 : Env := launch0.env 0 0 0
theorem w_frames : about1.frames = Frame.invoking theMethod args0 :: below0 := rfl
set_option maxRecDepth 65536 in
theorem w_args : argsFit about1.vm theMethod args0 = true := by decide +kernel
set_option maxRecDepth 65536 in
theorem w_heap : heapFits about1 = true := by decide +kernel
set_option maxRecDepth 65536 in
theorem w_runnable : about1.curStatus? = some .runnable := by decide +kernel
set_option maxRecDepth 65536 in
theorem w_alone : about1.alone = true := by decide +kernel
set_option maxRecDepth 65536 in
theorem w_named : about1.methodNamed? x = some theMethod := by decide +kernel
set_option maxRecDepth 65536 in
theorem w_hears : about1.hears theMethod below0 = true := by decide +kernel
set_option maxRecDepth 65536 in
theorem w_ripe : about1.ripe theMethod args0 below0 = true := by decide +kernel
theorem w_running : about1.status = .running := rfl
set_option maxRecDepth 65536 in
theorem w_room : about1.hasRoom e0.platform room_1 = true :=
  launch0.hasRoom_least _ room_1 (by decide +kernel) (by decide +kernel) (by decide +kernel) (by decide +kernel) (by decide +kernel) (by decide +kernel)
theorem allAtoms_all (ts : List Jvm.Cond) (a : Array Jvm.Value) (st : Jvm.State) : (allAtoms ts).before a st = ts.all (fun c => c.before a st) := by
  induction ts with
  | nil => rfl
  | cons c t ih =>
    show (Jvm.Cond.and c (allAtoms t)).before a st = _
    rw [Jvm.Cond.before_and, ih, List.all_cons]
def words1 : List Jvm.Cond := Jvm.Cond.code x code maxLocals ret :: tables_1
/-- a 'code' word, met by the world's own term for the bytes: nothing is compared byte by byte -/
theorem code_word {y : MethodName} {bytes : ByteArray} {mx : Nat} {rt : Option FieldType} {a : Array Value} {s : State} {m : MethodId} {meth : Method} {c : Code} (h1 : s.methodNamed? y = some m) (h2 : s.vm.method? m = some meth) (h3 : meth.code = some c) (h4 : c.code = bytes)
    (h5 : (c.maxLocals == mx && c.exceptionTable.isEmpty && decide (c.maxStack ≤ mostOperands) && decide (meth.sig.returnType = rt) && !meth.locks && decide (parseMethodDescriptor y.desc = some meth.sig)) = true) : (Jvm.Cond.code y bytes mx rt).before a s = true := by
  simp only [Bool.and_eq_true, beq_iff_eq, Bool.not_eq_true', decide_eq_true_eq] at h5
  obtain ⟨⟨⟨⟨⟨g1, g2⟩, g3⟩, g4⟩, g5⟩, g6⟩ := h5
  simp [Cond.before, Cond.holds, Cond.value, h1, h2, h3, h4, g1, g2, g3, g4, g5, g6]
def isCode : Jvm.Cond → Bool
  | .code _ _ _ _ => true
  | _ => false
theorem all_split {L : List Jvm.Cond} {P : Jvm.Cond → Bool} (h1 : L.all (fun c => isCode c || P c) = true) (h2 : ∀ c ∈ L.filter isCode, P c = true) : L.all P = true := by
  refine List.all_eq_true.mpr fun c hc => ?_
  have h := List.all_eq_true.mp h1 c hc
  rcases Bool.eq_false_or_eq_true (isCode c) with hi | hi
  · exact h2 c (List.mem_filter.mpr ⟨hc, hi⟩)
  · simpa [hi] using h
set_option maxRecDepth 65536 in
theorem w_c0 : (Jvm.Cond.code x code maxLocals ret).before args0 about1 = true := code_word (m := ⟨1, 1⟩) (meth := k1m1) (c := k1c1) (by decide +kernel) rfl rfl rfl (by decide +kernel)
set_option maxRecDepth 65536 in
theorem w_c1 : (Jvm.Cond.code ({ cls := "com/example/satzbau/satzbau/core/Segment", name := "at", desc := "(II)Lcom/example/satzbau/satzbau/core/Segment;" } : Jvm.MethodName) prog_23_method_5_code (3 : Nat) (Option.some (Jvm.ClassFile.FieldType.object "com/example/satzbau/satzbau/core/Segment"))).before args0 about1 = true := code_word (m := ⟨6, 0⟩) (meth := k6m0) (c := k6c0) (by decide +kernel) rfl rfl rfl (by decide +kernel)
set_option maxRecDepth 65536 in
theorem w_c2 : (Jvm.Cond.code ({ cls := "com/example/satzbau/satzbau/core/Segment", name := "startsRecord", desc := "()Z" } : Jvm.MethodName) prog_23_method_7_code (1 : Nat) (Option.some Jvm.ClassFile.FieldType.boolean)).before args0 about1 = true := code_word (m := ⟨6, 1⟩) (meth := k6m1) (c := k6c1) (by decide +kernel) rfl rfl rfl (by decide +kernel)
set_option maxRecDepth 65536 in
theorem w_c3 : (Jvm.Cond.code ({ cls := "com/example/satzbau/satzbau/core/Segment", name := "endsRecord", desc := "()Z" } : Jvm.MethodName) prog_23_method_8_code (1 : Nat) (Option.some Jvm.ClassFile.FieldType.boolean)).before args0 about1 = true := code_word (m := ⟨6, 2⟩) (meth := k6m2) (c := k6c2) (by decide +kernel) rfl rfl rfl (by decide +kernel)
def codes1 : List Jvm.Cond := [Jvm.Cond.code x code maxLocals ret, Jvm.Cond.code ({ cls := "com/example/satzbau/satzbau/core/Segment", name := "at", desc := "(II)Lcom/example/satzbau/satzbau/core/Segment;" } : Jvm.MethodName) prog_23_method_5_code (3 : Nat) (Option.some (Jvm.ClassFile.FieldType.object "com/example/satzbau/satzbau/core/Segment")), Jvm.Cond.code ({ cls := "com/example/satzbau/satzbau/core/Segment", name := "startsRecord", desc := "()Z" } : Jvm.MethodName) prog_23_method_7_code (1 : Nat) (Option.some Jvm.ClassFile.FieldType.boolean), Jvm.Cond.code ({ cls := "com/example/satzbau/satzbau/core/Segment", name := "endsRecord", desc := "()Z" } : Jvm.MethodName) prog_23_method_8_code (1 : Nat) (Option.some Jvm.ClassFile.FieldType.boolean)]
set_option maxRecDepth 65536 in
theorem codes_eq : words1.filter isCode = codes1 := rfl
theorem w_codes : ∀ c ∈ words1.filter isCode, c.before args0 about1 = true := by
  rw [codes_eq]
  intro c hc
  simp only [codes1, List.mem_cons, List.not_mem_nil, or_false] at hc
  rcases hc with rfl | rfl | rfl | rfl
  · exact w_c0
  · exact w_c1
  · exact w_c2
  · exact w_c3
set_option maxRecDepth 65536 in
theorem w_t1 : words1.all (fun c => isCode c || c.before args0 about1) = true := by decide +kernel
theorem w_tables : (allAtoms (Jvm.Cond.code x code maxLocals ret :: tables_1)).before args0 about1 = true := by
  rw [allAtoms_all]
  show words1.all (fun c => c.before args0 about1) = true
  refine all_split ?_ w_codes
  rw [w_t1]
set_option maxRecDepth 65536 in
theorem w_case : (Jvm.Cond.and given_1 narrow_1).before args0 about1 = true := by decide +kernel
theorem w_applies : (headSpec (Jvm.Cond.code x code maxLocals ret :: tables_1) room_1).applies x e0.platform about1 = true :=
  (Spec.applies_iff w_frames).mpr ⟨w_running, w_runnable, w_alone, w_named, w_hears, w_ripe, w_room, w_tables⟩
theorem atStart : AtStart classFile x code maxLocals ret World_1 tables_1 room_1 Calls_1 rest_1 Pre_1 launch0 p0 e0 about1 theMethod args0 below0 :=
  ⟨lists_1, trivial, launch0.admits_env _ _ _, launch0.least_env, fairChoices_fair.cas, fairChoices_fair.clock, w_frames, w_args, w_heap, w_applies, trivial, trivial, w_case⟩
end start1
theorem witness_1 : WitnessClaimed_1 := ⟨start1.p0, start1.e0, start1.about1, start1.theMethod, start1.args0, start1.below0, start1.atStart⟩
end Jvm.Pilot.@@N@@
