import JvmDerived
import JvmDerived.Pilot.@@N@@Statement
import JvmDerived.Pilot.@@N@@Code
set_option linter.unusedVariables false
set_option linter.unusedSimpArgs false
namespace Jvm.RoadKit
open Sem ClassFile Op Lib Jvm.Stand Jvm.Free Jvm.LawKit
section New
variable {p : Program} {l : Launch} {e : Env} {R : Room} {s : State} {m : MethodId} {args : Array Value} {below : List Frame} {meth : Method} {c : Code} {T : State} {locs : List Loc} {cells slots : Nat}
theorem retI (X : Stand p l e R s m args below meth c T locs cells slots) (hx : p.tables.exec = Jvm.exec) {pc : Nat} {Ls : Array Slot} {z : Int32} {rest : List Value} (hret : meth.sig.returnType = some .int) (hd : decode c.code pc = .ok (.ireturn, 1)) {fs : List Frame}
    (hl : ∀ (f : JFrame) (acts : List Action), f.method = m → f.locked = none → f.entered = [] → (doReturn e (T.setTop f) acts (some (.int z))).1 = T.setFrames fs) : Steps p.tables e below (T.setTop (mkF m pc Ls (.int z :: rest))) (T.setFrames fs) := by
  have hm' : T.vm.method? m = some meth := X.method'
  have hn : narrow .int (.int z) = .int z := rfl
  show Steps p.tables e below (T.setTop { method := m, pc := pc, locals := Ls, stack := _ :: rest, locked := none }) _
  jvm_step X.here [X.here.top, hx, hd, hm', hret, hn]
  first | (intro acts; rw [hl _ acts rfl rfl rfl]) | rw [hl _ _ rfl rfl rfl]
  exact Steps.refl _
end New
end Jvm.RoadKit
namespace Jvm.Pilot.@@N@@
open Jvm Jvm.ClassFile Sem Op Lib Jvm.Free Jvm.Stand Jvm.LawKit Jvm.RoadKit Bundle Jvm.Pilot.@@N@@.Jvm.D
/-- the run from a frame of this method ends in a return with Q -/
def Go (p : Program) (e : Env) (s : State) (below : List Frame) (kc ks : Nat) (Q : Option Value → Heap → List Loc → Prop) (T : State) (f : JFrame) : Prop :=
  ∃ s₂ o, Steps p.tables e below (T.setTop f) s₂ ∧ s₂.status = .running ∧ Ended s₂ below o ∧ ∃ v L, o = .returned v ∧ Q v s₂.heap L ∧ FrameEnd s o s₂ L kc ks
/-- what is known of the method that runs -/
def Cx (p : Program) (s : State) (m : MethodId) (meth : Method) (c : Code) (Z : State) (own nm : String) (code : ByteArray) (maxL : Nat) (ret : Option FieldType) : Prop :=
  p.tables.exec = Jvm.exec ∧ Z.Warmed39 s.vm ∧ c.code = code ∧ c.maxLocals = maxL ∧ s.vm.findClass own = some m.cls ∧ meth.name = nm ∧ meth.sig.returnType = ret ∧ meth.locks = false
/-- a contract -/
def Ctr (l : Launch) (Z : State) (y : MethodName) (bytes : ByteArray) (maxL : Nat) (ret : Option FieldType) (ws : List Jvm.Cond) (rm : Room) (kc ks : Nat) (as : Array Value) (h : Heap) (Q : Option Value → Heap → List Loc → Prop) : Prop :=
  MetFree l y (head1 (Jvm.Cond.code y bytes maxL ret :: ws) rm) (fun a U => a = as ∧ Z.Warmed39 U.vm ∧ U.heap = h) (fun _ _ _ _ _ => True) (fun _ U o U' => ∃ v L, o = .returned v ∧ Q v U'.heap L ∧ FrameEnd U o U' L kc ks)
def bi (P : Prop) [Decidable P] : Int32 := if P then 1 else 0
theorem bi_t {P : Prop} [Decidable P] (h : P) : bi P = 1 := if_pos h
theorem bi_f {P : Prop} [Decidable P] (h : ¬ P) : bi P = 0 := if_neg h
theorem bi_n {P : Prop} [Decidable P] (h : P) : ¬ bi P = 0 := by rw [bi_t h]; decide
theorem bi_1 {P : Prop} [Decidable P] : bi P = 1 ↔ P := by unfold bi; split <;> simp_all
theorem bi_0 {P : Prop} [Decidable P] : bi P = 0 ↔ ¬ P := by unfold bi; split <;> simp_all
theorem bi_eq {P P' : Prop} [Decidable P] [Decidable P'] : bi P = bi P' ↔ (P ↔ P') := by unfold bi; split <;> split <;> simp_all
theorem bi_congr {P P' : Prop} [Decidable P] [Decidable P'] (h : P ↔ P') : bi P = bi P' := bi_eq.mpr h
theorem bi_fits {P : Prop} [Decidable P] : fits .boolean (.int (bi P)) = true := by unfold bi; split <;> rfl
theorem bi_nar {P : Prop} [Decidable P] : nar .boolean (bi P) = bi P := by unfold bi; split <;> rfl
section Own
variable {p : Program} {l : Launch} {e : Env} {R : Room} {s : State} {m : MethodId} {args : Array Value} {below : List Frame} {meth : Method} {c : Code} {T : State} {locs : List Loc} {cells slots kc ks : Nat} {Q : Option Value → Heap → List Loc → Prop} {Z : State} {a0 : Array Value} {h : Heap}
theorem Go.step {T' : State} {f f' : JFrame} (st : ∀ t, Steps p.tables e below (T'.setTop f') t → Steps p.tables e below (T.setTop f) t) (k : Go p e s below kc ks Q T' f') : Go p e s below kc ks Q T f := by
  obtain ⟨s₂, o, h1, r⟩ := k; exact ⟨s₂, o, st _ h1, r⟩
theorem Go.mono {Q' : Option Value → Heap → List Loc → Prop} {f : JFrame} (k : Go p e s below kc ks Q T f) (h : ∀ v h L, Q v h L → Q' v h L) : Go p e s below kc ks Q' T f := by
  obtain ⟨s₂, o, h1, h2, h3, v, L, h4, h5, h6⟩ := k; exact ⟨s₂, o, h1, h2, h3, v, L, h4, h _ _ _ h5, h6⟩
theorem Ctr.mk {y : MethodName} {bytes : ByteArray} {maxL : Nat} {ret : Option FieldType} {ws : List Jvm.Cond} {rm : Room} {as : Array Value} (hp : plainFor y = true)
    (hgo : ∀ (p : Program) (e : Env) (s : State) (m : MethodId) (below : List Frame) (meth : Method) (c : Code) (s₁ : State), Stand p l e rm s m as below meth c s₁ [] 0 0 → Cx p s m meth c Z y.cls y.name bytes maxL ret → s₁.heap = h → Go p e s below kc ks Q s₁ (entryFrame m as maxL)) :
    Ctr l Z y bytes maxL ret ws rm kc ks as h Q := by
  refine MetFree.of_bodySF hp hisR ?_
  intro p e s m args below meth c s₁ Bd hml0 hP hK
  obtain ⟨rfl, hZ, hh⟩ := hP
  exact hgo p e s m below meth c s₁ (Stand.of_body Bd) ⟨Bd.exec, hZ, Bd.bytes, hml0, findClass_of_methodNamed Bd.named, (name_of_methodNamed Bd.named Bd.method).1, Bd.returns, Bd.notSynchronized⟩ (by rw [← hh, Bd.state]; rfl)
theorem go_cast {f f' : JFrame} (q : f = f') (k : Go p e s below kc ks Q T f') : Go p e s below kc ks Q T f := q ▸ k
theorem go_retI (X : Stand p l e R s m args below meth c T locs cells slots) (hx : p.tables.exec = Jvm.exec) (hret : meth.sig.returnType = some .int) (hlk : meth.locks = false) {pc : Nat} {Ls : Array Slot} {z : Int32} {rest : List Value} (hd : decode c.code pc = .ok (.ireturn, 1))
    (hQ : Q (some (.int z)) T.heap locs) (hc : cells ≤ kc) (hs : slots ≤ ks) : Go p e s below kc ks Q T (mkF m pc Ls (.int z :: rest)) := by
  obtain ⟨fs, hr, hrun, hended, hW, hsame⟩ := X.leave (v := some (.int z)) (fun h => by rw [hret] at h; cases h) hlk
  exact ⟨_, _, retI X hx hret hd hr, hrun, hended, _, _, rfl, hQ, ⟨_, rfl⟩, hW, hsame.mono hc hs⟩
theorem go_retN (X : Stand p l e R s m args below meth c T locs cells slots) (hx : p.tables.exec = Jvm.exec) {t : FieldType} (hret : meth.sig.returnType = some t) (ht : t = .boolean ∨ t = .byte ∨ t = .char ∨ t = .short) (hlk : meth.locks = false) {pc : Nat} {Ls : Array Slot} {z w : Int32} {rest : List Value} (hd : decode c.code pc = .ok (.ireturn, 1))
    (hz : nar t z = w) (hQ : Q (some (.int w)) T.heap locs) (hc : cells ≤ kc) (hs : slots ≤ ks) : Go p e s below kc ks Q T (mkF m pc Ls (.int z :: rest)) := by
  subst hz
  obtain ⟨fs, hr, hrun, hended, hW, hsame⟩ := X.leave (v := some (.int (nar t z))) (fun h => by rw [hret] at h; cases h) hlk
  exact ⟨_, _, retN X hx hret ht hd hr, hrun, hended, _, _, rfl, hQ, ⟨_, rfl⟩, hW, hsame.mono hc hs⟩
theorem go_retJ (X : Stand p l e R s m args below meth c T locs cells slots) (hx : p.tables.exec = Jvm.exec) (hret : meth.sig.returnType = some .long) (hlk : meth.locks = false) {pc : Nat} {Ls : Array Slot} {z : Int64} (hd : decode c.code pc = .ok (.lreturn, 1))
    (hQ : Q (some (.long z)) T.heap locs) (hc : cells ≤ kc) (hs : slots ≤ ks) : Go p e s below kc ks Q T (mkF m pc Ls [.long z]) := by
  obtain ⟨fs, hr, hrun, hended, hW, hsame⟩ := X.leave (v := some (.long z)) (fun h => by rw [hret] at h; cases h) hlk
  exact ⟨_, _, X.lreturnOut hx hret hd hr, hrun, hended, _, _, rfl, hQ, ⟨_, rfl⟩, hW, hsame.mono hc hs⟩
theorem go_retA (X : Stand p l e R s m args below meth c T locs cells slots) (hx : p.tables.exec = Jvm.exec) {t : FieldType} (hret : meth.sig.returnType = some t) (ht : t.isReference = true) (hlk : meth.locks = false) {pc : Nat} {Ls : Array Slot} {w : Value} {rest : List Value} (hw : w.isRef = true) (hd : decode c.code pc = .ok (.areturn, 1))
    (hQ : Q (some w) T.heap locs) (hc : cells ≤ kc) (hs : slots ≤ ks) : Go p e s below kc ks Q T (mkF m pc Ls (w :: rest)) := by
  obtain ⟨fs, hr, hrun, hended, hW, hsame⟩ := X.leave (v := some w) (fun h => by rw [hret] at h; cases h) hlk
  have hn : narrow t w = w := by cases t <;> first | rfl | simp [FieldType.isReference] at ht
  exact ⟨_, _, retOut X hx hret hn (Or.inr (Or.inr (Or.inr (Or.inr ⟨rfl, ht, hw⟩)))) hd hr, hrun, hended, _, _, rfl, hQ, ⟨_, rfl⟩, hW, hsame.mono hc hs⟩
theorem go_ret (X : Stand p l e R s m args below meth c T locs cells slots) (hx : p.tables.exec = Jvm.exec) (hret : meth.sig.returnType = none) (hlk : meth.locks = false) {pc : Nat} {Ls : Array Slot} (hd : decode c.code pc = .ok (.return_, 1))
    (hQ : Q none T.heap locs) (hc : cells ≤ kc) (hs : slots ≤ ks) : Go p e s below kc ks Q T (mkF m pc Ls []) := by
  obtain ⟨fs, hr, hrun, hended, hW, hsame⟩ := X.leave (v := none) (fun _ => rfl) hlk
  exact ⟨_, _, X.returnOut hx hret hd hr, hrun, hended, _, _, rfl, hQ, ⟨_, rfl⟩, hW, hsame.mono hc hs⟩
/-! calls by a contract -/
section Calls
variable {own : String} {index : Nat} {y : MethodName} {bytes : ByteArray} {maxL : Nat} {ret r : Option FieldType} {rm : Room} {Qc : Option Value → Heap → List Loc → Prop} {argsL rest : List Value} {ps : List FieldType} {pc W : Nat} {Ls : Array Slot} {a : Addr}
theorem c_static (X : Stand p l e R s m args below meth c T locs cells slots) (hx : p.tables.exec = Jvm.exec) (hZ : Z.Warmed39 s.vm) (hown : s.vm.findClass own = some m.cls)
    (w1 : (Jvm.Cond.methodLink own index y).before a0 Z = true) (w2 : (Jvm.Cond.static y).before a0 Z = true) (w3 : (Jvm.Cond.initialized y.cls).before a0 Z = true) (w4 : (Jvm.Cond.code y bytes maxL ret).before a0 Z = true) (hy : y.cls ≠ "java/lang/invoke/MethodHandle" ∧ y.cls ≠ "java/lang/invoke/VarHandle")
    (hC : Ctr l Z y bytes maxL ret [] rm rm.cells rm.slots argsL.toArray h Qc) (eT : T.heap = h) (hpd : parseMethodDescriptor y.desc = some ⟨ps, r⟩) (hlen : argsL.length = ps.length) (hsz : Ls.size = c.maxLocals) (hW : 2 * 0 + (rest.map fun v => v.category).sum ≤ W)
    (hf : rm.frames + 1 ≤ R.frames) (hl : W + (maxL + 11) + rm.locals ≤ R.locals) (hc : cells + rm.cells ≤ R.cells) (hs : slots + rm.slots ≤ R.slots) (hd : decode c.code pc = .ok (.invokestatic index, 3)) :
    ∃ (v : Option Value) (T' : State) (L : List Loc), Stand p l e R s m args below meth c T' (locs ++ L) (cells + rm.cells) (slots + rm.slots) ∧ Qc v T'.heap L ∧
      ∀ t, Steps p.tables e below (T'.setTop (mkF m (pc + 3) Ls (v.toList ++ rest))) t → Steps p.tables e below (T.setTop (mkF m pc Ls (argsL.reverse ++ rest))) t := by
  obtain ⟨v, _, ⟨T', L', k', n'⟩, -, X', ⟨L, hQ, rfl, rfl, rfl⟩, st⟩ := Jvm.LawKit.callS X hx (y := y) hown (mvT hZ w1) (mvT hZ w2) (mvT hZ w3) (mvT hZ w4) hy (backOf (W := W) hC hZ w4 w3 hf hl) (g := mkF m pc Ls (argsL.reverse ++ rest)) rfl hsz (argsL := argsL) (rest := rest) (lenOf hpd hlen) rfl hW hd (fun _ _ => ⟨rfl, eT, hc, hs⟩)
  exact ⟨v, T', L, X', hQ, st⟩
theorem c_init (X : Stand p l e R s m args below meth c T locs cells slots) (hx : p.tables.exec = Jvm.exec) (hZ : Z.Warmed39 s.vm) (hown : s.vm.findClass own = some m.cls)
    (w1 : (Jvm.Cond.methodLink own index y).before a0 Z = true) (w2 : (Jvm.Cond.instanceMethod y).before a0 Z = true) (w3 : (Jvm.Cond.initialized y.cls).before a0 Z = true) (w4 : (Jvm.Cond.code y bytes maxL none).before a0 Z = true) (hn : y.name = "<init>") (hy : y.cls ≠ "java/lang/invoke/MethodHandle" ∧ y.cls ≠ "java/lang/invoke/VarHandle")
    (hC : Ctr l Z y bytes maxL none [] rm rm.cells rm.slots (.ref a :: argsL).toArray h Qc) (eT : T.heap = h) (hpd : parseMethodDescriptor y.desc = some ⟨ps, r⟩) (hlen : argsL.length = ps.length) (hsz : Ls.size = c.maxLocals) (hW : 2 * 0 + (rest.map fun v => v.category).sum ≤ W)
    (hf : rm.frames + 1 ≤ R.frames) (hl : W + (maxL + 11) + rm.locals ≤ R.locals) (hc : cells + rm.cells ≤ R.cells) (hs : slots + rm.slots ≤ R.slots) (hd : decode c.code pc = .ok (.invokespecial index, 3)) :
    ∃ (v : Option Value) (T' : State) (L : List Loc), Stand p l e R s m args below meth c T' (locs ++ L) (cells + rm.cells) (slots + rm.slots) ∧ Qc v T'.heap L ∧
      ∀ t, Steps p.tables e below (T'.setTop (mkF m (pc + 3) Ls (v.toList ++ rest))) t → Steps p.tables e below (T.setTop (mkF m pc Ls (argsL.reverse ++ .ref a :: rest))) t := by
  obtain ⟨v, _, ⟨T', L', k', n'⟩, -, X', ⟨L, hQ, rfl, rfl, rfl⟩, st⟩ := X.specialBack hx (y := y) hn hown (mvT hZ w1) (mvT hZ w2) (mvT hZ w4) hy (backOf (W := W) hC hZ w4 w3 hf hl) (g := mkF m pc Ls (argsL.reverse ++ .ref a :: rest)) rfl hsz (Steps.refl _) (a := a) (argsL := argsL) (rest := rest) (lenOf hpd hlen) rfl hW hd (fun _ _ => ⟨rfl, eT, hc, hs⟩)
  exact ⟨v, T', L, X', hQ, fun t k => st.trans k⟩
theorem c_virt {y' : MethodName} {C : String} (X : Stand p l e R s m args below meth c T locs cells slots) (hx : p.tables.exec = Jvm.exec) (hZ : Z.Warmed39 s.vm) (hown : s.vm.findClass own = some m.cls)
    (w1 : (Jvm.Cond.methodLink own index y').before a0 Z = true) (wd : (Jvm.Cond.declares y').before a0 Z = true) (nf : NotFace s y') (ws : (Jvm.Cond.selects C y' y).before a0 Z = true) (w2 : (Jvm.Cond.instanceMethod y).before a0 Z = true) (w3 : (Jvm.Cond.initialized y.cls).before a0 Z = true) (w4 : (Jvm.Cond.code y bytes maxL ret).before a0 Z = true) (hy : y'.cls ≠ "java/lang/invoke/MethodHandle" ∧ y'.cls ≠ "java/lang/invoke/VarHandle")
    (hC : Ctr l Z y bytes maxL ret [] rm rm.cells rm.slots (.ref a :: argsL).toArray h Qc) (eT : T.heap = h) (E : Exa Z h a C) (hpd : parseMethodDescriptor y'.desc = some ⟨ps, r⟩) (hlen : argsL.length = ps.length) (hsz : Ls.size = c.maxLocals) (hW : 2 * 0 + (rest.map fun v => v.category).sum ≤ W)
    (hf : rm.frames + 1 ≤ R.frames) (hl : W + (maxL + 11) + rm.locals ≤ R.locals) (hc : cells + rm.cells ≤ R.cells) (hs : slots + rm.slots ≤ R.slots) (hd : decode c.code pc = .ok (.invokevirtual index, 3)) :
    ∃ (v : Option Value) (T' : State) (L : List Loc), Stand p l e R s m args below meth c T' (locs ++ L) (cells + rm.cells) (slots + rm.slots) ∧ Qc v T'.heap L ∧
      ∀ t, Steps p.tables e below (T'.setTop (mkF m (pc + 3) Ls (v.toList ++ rest))) t → Steps p.tables e below (T.setTop (mkF m pc Ls (argsL.reverse ++ .ref a :: rest))) t := by
  obtain ⟨cq, kq, qa, qb, qc⟩ := isOf hZ eT E
  obtain ⟨v, _, ⟨T', L', k', n'⟩, -, X', ⟨L, hQ, rfl, rfl, rfl⟩, st⟩ := X.virtualBack hx (y := y') (z := y) hown (mvT hZ w1) (mvT hZ wd) nf (mvT hZ ws) (mvT hZ w2) hy (backOf (W := W) hC hZ w4 w3 hf hl) qa qc (g := mkF m pc Ls (argsL.reverse ++ .ref a :: rest)) rfl hsz (Steps.refl _) (argsL := argsL) (rest := rest) (lenOf hpd hlen) rfl hW hd (fun _ _ => ⟨rfl, eT, hc, hs⟩)
  exact ⟨v, T', L, X', hQ, fun t k => st.trans k⟩
theorem own_nf {y' z : MethodName} {C : String} {as : Array Value} (ws : (Jvm.Cond.selects C y' z).before as s = true) (h : z.cls = y.cls) : NotFace s y := fun r0 h0 => by
  obtain ⟨_, _, m2, -, -, q3, -, kP, hkP, hkPi⟩ := Cond.selects_spec ws
  have e1 := findClass_of_methodNamed q3
  rw [h] at e1
  have e2 : m2.cls = r0.cls := Option.some.inj (e1.symm.trans (findClass_of_methodNamed h0))
  exact ⟨kP, e2 ▸ hkP, hkPi⟩
/-- a private method of an object, by invokevirtual: its class isn't an interface (nf) -/
theorem c_priv {C : String} (X : Stand p l e R s m args below meth c T locs cells slots) (hx : p.tables.exec = Jvm.exec) (hZ : Z.Warmed39 s.vm) (hown : s.vm.findClass own = some m.cls)
    (w1 : (Jvm.Cond.methodLink own index y).before a0 Z = true) (w2 : (Jvm.Cond.instanceMethod y).before a0 Z = true) (nf : NotFace s y) (wp : (Jvm.Cond.privateMethod y).before a0 Z = true) (w3 : (Jvm.Cond.initialized y.cls).before a0 Z = true) (w4 : (Jvm.Cond.code y bytes maxL ret).before a0 Z = true) (hy : y.cls ≠ "java/lang/invoke/MethodHandle" ∧ y.cls ≠ "java/lang/invoke/VarHandle")
    (hC : Ctr l Z y bytes maxL ret [] rm rm.cells rm.slots (.ref a :: argsL).toArray h Qc) (eT : T.heap = h) (E : Exa Z h a C) (hpd : parseMethodDescriptor y.desc = some ⟨ps, r⟩) (hlen : argsL.length = ps.length) (hsz : Ls.size = c.maxLocals) (hW : 2 * 0 + (rest.map fun v => v.category).sum ≤ W)
    (hf : rm.frames + 1 ≤ R.frames) (hl : W + (maxL + 11) + rm.locals ≤ R.locals) (hc : cells + rm.cells ≤ R.cells) (hs : slots + rm.slots ≤ R.slots) (hd : decode c.code pc = .ok (.invokevirtual index, 3)) :
    ∃ (v : Option Value) (T' : State) (L : List Loc), Stand p l e R s m args below meth c T' (locs ++ L) (cells + rm.cells) (slots + rm.slots) ∧ Qc v T'.heap L ∧
      ∀ t, Steps p.tables e below (T'.setTop (mkF m (pc + 3) Ls (v.toList ++ rest))) t → Steps p.tables e below (T.setTop (mkF m pc Ls (argsL.reverse ++ .ref a :: rest))) t := by
  obtain ⟨cq, qa, qb⟩ := E.cell
  obtain ⟨mk, methM, hnamed, hmethM, hstM, habM⟩ := Cond.instanceMethod_spec (mvT (args := args) hZ w2)
  obtain ⟨methM', cM, hmethM', -, -, -, -, -, -, hsigM⟩ := Cond.code_spec hnamed (mvT (args := args) hZ w4)
  cases hmethM.symm.trans hmethM'
  obtain ⟨kP, hkP, hkPi⟩ := nf mk hnamed
  have hsel : selectMethod e.platform s.vm cq.cls mk = .method mk := selectMethod_private hmethM ((Cond.privateMethod_at (mvP hZ wp (args := #[]))) mk methM hnamed hmethM)
  obtain ⟨vm₁, X₁, hst⟩ := X.invokevirtual hx hown (mvT hZ w1) hnamed hmethM hstM hkP hkPi hy (a := a) (cell := cq) (by rw [eT]; exact qa) qb hsel hmethM habM hkP hkPi (g := mkF m pc Ls (argsL.reverse ++ .ref a :: rest)) rfl (argsL := argsL) (rest := rest) (lenOf hpd hlen _ hsigM) rfl hd
  obtain ⟨v, ⟨T', L', k', n'⟩, X', ⟨L, hQ, rfl, rfl, rfl⟩, hgo⟩ := (backOf (W := W) (len := 3) hC hZ w4 w3 hf hl) m meth c ⟨T.setVm vm₁, locs, cells, slots⟩ (mkF m pc Ls rest) (.invokevirtual index) mk (.ref a :: argsL).toArray X₁ rfl hsz hd hW (X₁.named hnamed) ⟨rfl, eT, hc, hs⟩
  exact ⟨v, T', L, X', hQ, fun t k => ((hst _ fun acts => by rw [doInvoke_state]; exact Steps.refl _).trans hgo).trans k⟩
/-- invokevirtual of a method that a class above the one that the entry names declares -/
theorem c_virtUp {y' : MethodName} {C owner : String} (X : Stand p l e R s m args below meth c T locs cells slots) (hx : p.tables.exec = Jvm.exec) (hZ : Z.Warmed39 s.vm) (hown : s.vm.findClass own = some m.cls)
    (w1 : (Jvm.Cond.methodLink own index y').before a0 Z = true) (wm : (Jvm.Cond.sameMethod y'.cls owner y'.name y'.desc).before a0 Z = true) (wd : (Jvm.Cond.declares ⟨owner, y'.name, y'.desc⟩).before a0 Z = true) (ws : (Jvm.Cond.selects C y' y).before a0 Z = true) (w2 : (Jvm.Cond.instanceMethod y).before a0 Z = true) (w3 : (Jvm.Cond.initialized y.cls).before a0 Z = true) (w4 : (Jvm.Cond.code y bytes maxL ret).before a0 Z = true) (hy : owner ≠ "java/lang/invoke/MethodHandle" ∧ owner ≠ "java/lang/invoke/VarHandle")
    (hC : Ctr l Z y bytes maxL ret [] rm rm.cells rm.slots (.ref a :: argsL).toArray h Qc) (eT : T.heap = h) (E : Exa Z h a C) (hpd : parseMethodDescriptor y'.desc = some ⟨ps, r⟩) (hlen : argsL.length = ps.length) (hsz : Ls.size = c.maxLocals) (hW : 2 * 0 + (rest.map fun v => v.category).sum ≤ W)
    (hf : rm.frames + 1 ≤ R.frames) (hl : W + (maxL + 11) + rm.locals ≤ R.locals) (hc : cells + rm.cells ≤ R.cells) (hs : slots + rm.slots ≤ R.slots) (hd : decode c.code pc = .ok (.invokevirtual index, 3)) :
    ∃ (v : Option Value) (T' : State) (L : List Loc), Stand p l e R s m args below meth c T' (locs ++ L) (cells + rm.cells) (slots + rm.slots) ∧ Qc v T'.heap L ∧
      ∀ t, Steps p.tables e below (T'.setTop (mkF m (pc + 3) Ls (v.toList ++ rest))) t → Steps p.tables e below (T.setTop (mkF m pc Ls (argsL.reverse ++ .ref a :: rest))) t := by
  obtain ⟨cq, kq, qa, qb, qc⟩ := isOf hZ eT E
  obtain ⟨v, _, ⟨T', L', k', n'⟩, -, X', ⟨L, hQ, rfl, rfl, rfl⟩, st⟩ := X.virtualBackUp hx (x := y') (y := y) hown (mvT hZ w1) (mvT hZ wm) (mvT hZ wd) hy (mvT hZ ws) (mvT hZ w2) (backOf (W := W) hC hZ w4 w3 hf hl) qa qc (g := mkF m pc Ls (argsL.reverse ++ .ref a :: rest)) rfl hsz (Steps.refl _) (argsL := argsL) (rest := rest) (lenOf hpd hlen) rfl hW hd (fun _ _ => ⟨rfl, eT, hc, hs⟩)
  exact ⟨v, T', L, X', hQ, fun t k => st.trans k⟩
end Calls
end Own
/-! arrays by a function of the place -/
def upd (f : Nat → Value) (k : Nat) (v : Value) : Nat → Value := fun i => if i = k then v else f i
def lst (L : List Value) : Nat → Value := fun i => L.getD i .null
theorem upd_eq {f : Nat → Value} {k : Nat} {v : Value} : upd f k v k = v := if_pos rfl
theorem upd_ne {f : Nat → Value} {k i : Nat} {v : Value} (h : i ≠ k) : upd f k v i = f i := if_neg h
def AV (Z : State) (h : Heap) (a : Addr) (ty : FieldType) (n : Nat) (f : Nat → Value) : Prop := ∃ c : Cell, Arr Z h a c ty ∧ c.slots.size = n ∧ n < 2147483648 ∧ ∀ i, i < n → c.slots[i]? = some (f i)
section Arrays
variable {Z : State} {h h' : Heap} {a b : Addr} {ty : FieldType} {n k : Nat} {f g : Nat → Value} {v w : Value} {j : Int32} {ws : List Addr} {sl : Nat}
theorem AV.lt (A : AV Z h a ty n f) : a < h.size := by obtain ⟨c, A, -⟩ := A; exact A.lt
theorem AV.ext (A : AV Z h a ty n f) (E : Ext h h') : AV Z h' a ty n f := by obtain ⟨c, A, r⟩ := A; exact ⟨c, A.ext E, r⟩
theorem AV.other (A : AV Z h b ty n f) (W : Wr h h' a sl v) (q : b ≠ a) : AV Z h' b ty n f := by obtain ⟨c, A, r⟩ := A; exact ⟨c, A.other W q, r⟩
theorem AV.keep (A : AV Z h a ty n f) (K : Keep h h' ws) (q : a ∉ ws) : AV Z h' a ty n f := by obtain ⟨c, A, r⟩ := A; exact ⟨c, ⟨K.2.1 a c A.1 q, A.2⟩, r⟩
theorem AV.congr (A : AV Z h a ty n f) (q : ∀ i, i < n → f i = g i) : AV Z h a ty n g := by obtain ⟨c, A, r1, r2, r3⟩ := A; exact ⟨c, A, r1, r2, fun i hi => by rw [r3 i hi, q i hi]⟩
theorem AV.bound (A : AV Z h a ty n f) : n < 2147483648 := by obtain ⟨c, A, r1, r2, r3⟩ := A; exact r2
theorem clamp_of (hj : j.toInt = (k : Int)) : j.toNatClampNeg = k := by show j.toInt.toNat = k; rw [hj]; rfl
theorem in_of {c : Cell} (hj : j.toInt = (k : Int)) (hs : c.slots.size = n) (hk : k < n) : ¬ (j < 0 ∨ c.slots.size ≤ j.toNatClampNeg) := by
  rw [clamp_of hj, hs, Int32.lt_iff_toInt_lt, hj]; simp only [Int32.reduceToInt]; omega
theorem AV.new {cA : ClassId} {z : Int32} (A : Arr Z h a (newA cA ty z) ty) (hz : z.toInt = (n : Int)) : AV Z h a ty n (fun _ => defaultValue ty) := by
  have q := clamp_of hz
  have hb := Int32.toInt_lt z
  refine ⟨_, A, by rw [sz_new]; exact q, by omega, fun i hi => ?_⟩
  have hi' : i < z.toNatClampNeg := by rw [q]; exact hi
  simp [newA, hi']
theorem AV.at (A : AV Z h a ty n f) (hj : j.toInt = (k : Int)) (hk : k < n) : ∃ cl : Cell, Arr Z h a cl ty ∧ ¬ (j < 0 ∨ cl.slots.size ≤ j.toNatClampNeg) ∧ cl.slots[j.toNatClampNeg]? = some (f k) := by
  obtain ⟨c, A, r1, r2, r3⟩ := A
  exact ⟨c, A, in_of hj r1 hk, by rw [clamp_of hj]; exact r3 k hk⟩
theorem AV.set (A : AV Z h a ty n f) (hj : j.toInt = (k : Int)) (hk : k < n) (W : Wr h h' a j.toNatClampNeg v) : AV Z h' a ty n (upd f k v) := by
  obtain ⟨c, A, r1, r2, r3⟩ := A
  refine ⟨_, A.same W, by rw [sz_set]; exact r1, r2, fun i hi => ?_⟩
  rw [clamp_of hj]
  by_cases e : i = k
  · subst e; simp [Cell.setSlot, r1, hi, upd]
  · rw [upd_ne e, ← r3 i hi]; exact Array.getElem?_setIfInBounds_ne (Ne.symm e)
theorem AV.setL {L L' : List Value} (A : AV Z h a ty n (lst L)) (hj : j.toInt = (k : Int)) (hk : k < n) (W : Wr h h' a j.toNatClampNeg v) (hl : k < L.length) (e : L.set k v = L') : AV Z h' a ty n (lst L') := by
  subst e
  refine (A.set hj hk W).congr fun i hi => ?_
  by_cases q : i = k
  · subst q; simp [upd, lst, List.getD_eq_getElem?_getD, hl]
  · rw [upd_ne q]; simp [lst, List.getD_eq_getElem?_getD, List.getElem?_set_ne (Ne.symm q)]
theorem AV.newL {L : List Value} (A : AV Z h a ty n (fun _ => v)) (e : L = List.replicate n v) : AV Z h a ty n (lst L) := by
  subst e; refine A.congr fun i hi => ?_
  simp [lst, List.getD_eq_getElem?_getD, List.getElem?_replicate, hi]
theorem AV.len (A : AV Z h a ty n f) : ∃ cl : Cell, Arr Z h a cl ty ∧ cl.slots.size.toInt32 = Int32.ofNat n := by
  obtain ⟨c, A, r1, r2, r3⟩ := A; exact ⟨c, A, by rw [r1]⟩
theorem own_cls {cA : ClassId} {z : Int32} {ad : String} (A : Arr Z h a (newA cA ty z) ty) (E : Exa Z h a ad) : Z.vm.findClass ad = some cA := by
  obtain ⟨cell, k, e1, e2, -⟩ := E
  cases A.1.symm.trans e1
  exact e2
theorem own_sto {cA : ClassId} {cl : Cell} {ad C : String} {y : Addr} (A : Arr Z h a cl ty) (E : Exa Z h a ad) (hA : Z.vm.findClass ad = some cA) (O : Ovr Z cA C) (I : Ins Z h y C true) : Sto Z h a (.ref y) := by
  obtain ⟨cell, k, e1, e2, -⟩ := E
  cases A.1.symm.trans e1
  have q : cl.cls = cA := Option.some.inj (e2.symm.trans hA)
  exact Sto.of A (q ▸ O) I
theorem own_sta_keep {C n' d : String} (F : Sta Z h C n' d v) (K : Keep h h' []) : Sta Z h' C n' d v := by
  obtain ⟨cf, i, k, f, st, cell, h1, h2, h3, h4, h5, h6, h7⟩ := F
  exact ⟨cf, i, k, f, st, cell, h1, h2, h3, h4, K.2.1 _ _ h5 (fun q => nomatch q), h6, h7⟩
end Arrays
section ASteps
variable {p : Program} {l : Launch} {e : Env} {R : Room} {s : State} {m : MethodId} {args : Array Value} {below : List Frame} {meth : Method} {c : Code} {T : State} {locs : List Loc} {cells slots : Nat} {Z : State} {a0 : Array Value} {h : Heap} {a : Addr} {n k pc : Nat} {f : Nat → Value} {j : Int32} {Ls : Array Slot} {rest : List Value}
theorem a_iload (X : Stand p l e R s m args below meth c T locs cells slots) (hx : p.tables.exec = Jvm.exec) (hZ : Z.Warmed39 s.vm) (eT : T.heap = h) (A : AV Z h a .int n f) (hj : j.toInt = (k : Int)) (hk : k < n) {x : Int32} (hv : f k = .int x) (hd : decode c.code pc = .ok (.iaload, 1)) :
    ∀ t, Steps p.tables e below (T.setTop (mkF m (pc + 1) Ls (.int x :: rest))) t → Steps p.tables e below (T.setTop (mkF m pc Ls (.int j :: .ref a :: rest))) t := by
  obtain ⟨cl, A, hin, hat⟩ := A.at hj hk
  rw [hv] at hat
  exact X.iaload hx (j := j) (v := .int x) (by rw [eT]; exact A.1) (State.isArrayOf_alike hZ.alike A.2.1) A.2.2 hin hat (g := mkF m pc Ls (.int j :: .ref a :: rest)) rfl rfl hd
theorem a_cload (X : Stand p l e R s m args below meth c T locs cells slots) (hx : p.tables.exec = Jvm.exec) (hZ : Z.Warmed39 s.vm) (eT : T.heap = h) (A : AV Z h a .char n f) (hj : j.toInt = (k : Int)) (hk : k < n) {x : Int32} (hv : f k = .int x) (hd : decode c.code pc = .ok (.caload, 1)) :
    ∀ t, Steps p.tables e below (T.setTop (mkF m (pc + 1) Ls (.int x :: rest))) t → Steps p.tables e below (T.setTop (mkF m pc Ls (.int j :: .ref a :: rest))) t := by
  obtain ⟨cl, A, hin, hat⟩ := A.at hj hk
  rw [hv] at hat
  exact X.caload hx (j := j) (v := .int x) (by rw [eT]; exact A.1) (State.isArrayOf_alike hZ.alike A.2.1) A.2.2 hin hat (g := mkF m pc Ls (.int j :: .ref a :: rest)) rfl rfl hd
theorem a_bload (X : Stand p l e R s m args below meth c T locs cells slots) (hx : p.tables.exec = Jvm.exec) (hZ : Z.Warmed39 s.vm) (eT : T.heap = h) (A : AV Z h a .byte n f) (hj : j.toInt = (k : Int)) (hk : k < n) {x : Int32} (hv : f k = .int x) (hd : decode c.code pc = .ok (.baload, 1)) :
    ∀ t, Steps p.tables e below (T.setTop (mkF m (pc + 1) Ls (.int x :: rest))) t → Steps p.tables e below (T.setTop (mkF m pc Ls (.int j :: .ref a :: rest))) t := by
  obtain ⟨cl, A, hin, hat⟩ := A.at hj hk
  rw [hv] at hat
  exact X.baloadBytes hx (j := j) (v := .int x) (by rw [eT]; exact A.1) (State.isArrayOf_alike hZ.alike A.2.1) A.2.2 hin hat (g := mkF m pc Ls (.int j :: .ref a :: rest)) rfl rfl hd
theorem a_jload (X : Stand p l e R s m args below meth c T locs cells slots) (hx : p.tables.exec = Jvm.exec) (hZ : Z.Warmed39 s.vm) (eT : T.heap = h) (A : AV Z h a .long n f) (hj : j.toInt = (k : Int)) (hk : k < n) {x : Int64} (hv : f k = .long x) (hd : decode c.code pc = .ok (.laload, 1)) :
    ∀ t, Steps p.tables e below (T.setTop (mkF m (pc + 1) Ls (.long x :: rest))) t → Steps p.tables e below (T.setTop (mkF m pc Ls (.int j :: .ref a :: rest))) t := by
  obtain ⟨cl, A, hin, hat⟩ := A.at hj hk
  rw [hv] at hat
  exact X.laload hx (j := j) (v := .long x) (by rw [eT]; exact A.1) (State.isArrayOf_alike hZ.alike A.2.1) A.2.2 hin hat (g := mkF m pc Ls (.int j :: .ref a :: rest)) rfl rfl hd
theorem a_rload {ty : FieldType} (X : Stand p l e R s m args below meth c T locs cells slots) (hx : p.tables.exec = Jvm.exec) (hZ : Z.Warmed39 s.vm) (eT : T.heap = h) (A : AV Z h a ty n f) (ht : ty.isReference = true) (hj : j.toInt = (k : Int)) (hk : k < n) {v : Value} (hv : f k = v) (hd : decode c.code pc = .ok (.aaload, 1)) :
    ∀ t, Steps p.tables e below (T.setTop (mkF m (pc + 1) Ls (v :: rest))) t → Steps p.tables e below (T.setTop (mkF m pc Ls (.int j :: .ref a :: rest))) t := by
  obtain ⟨cl, A, hin, hat⟩ := A.at hj hk
  rw [hv] at hat
  exact X.aaload hx (j := j) (v := v) (by rw [eT]; exact A.1) (State.isArrayOf_alike hZ.alike A.2.1) ht A.2.2 hin hat (g := mkF m pc Ls (.int j :: .ref a :: rest)) rfl rfl hd
theorem a_len {ty : FieldType} (X : Stand p l e R s m args below meth c T locs cells slots) (hx : p.tables.exec = Jvm.exec) (hZ : Z.Warmed39 s.vm) (eT : T.heap = h) (A : AV Z h a ty n f) {z : Int32} (hz : z.toInt = (n : Int)) (hd : decode c.code pc = .ok (.arraylength, 1)) :
    ∀ t, Steps p.tables e below (T.setTop (mkF m (pc + 1) Ls (.int z :: rest))) t → Steps p.tables e below (T.setTop (mkF m pc Ls (.ref a :: rest))) t := by
  obtain ⟨cl, A, hin⟩ := A.len
  have hb := Int32.toInt_lt z
  have q : cl.slots.size.toInt32 = z := by rw [hin]; exact Int32.toInt_inj.mp (by rw [hz]; exact Int32.toInt_ofNat_of_lt (by omega))
  intro t k
  refine X.arraylength hx (by rw [eT]; exact A.1) (State.isArrayOf_alike hZ.alike A.2.1) (g := mkF m pc Ls (.ref a :: rest)) rfl rfl hd _ ?_
  rw [q]; exact k
end ASteps
theorem own_d (x : Int32) : ∃ n : Nat, n < 10 ∧ ((x &&& (2147483647 : Int32)) % (10 : Int32)) = Int32.ofNat n := by
  have h1 := c_mask x 2147483647 31 (by decide) (by decide)
  have h2 := (c_irem (x &&& 2147483647) 10 10 (by decide)).1
  refine ⟨((x &&& 2147483647) % 10).toInt.toNat, by omega, Int32.toInt_inj.mp ?_⟩
  rw [Int32.toInt_ofNat_of_lt (by omega)]; omega
theorem own_lt (i n : Nat) (h : i ≤ n) (hn : n < 10) : (Int32.ofNat i < Int32.ofNat n) ↔ i < n := by
  rw [Int32.lt_iff_toInt_lt, Int32.toInt_ofNat_of_lt (by omega), Int32.toInt_ofNat_of_lt (by omega)]; omega
theorem own_mul (i : Nat) : Int32.ofNat (10 ^ i) * (10 : Int32) = Int32.ofNat (10 ^ (i + 1)) := by
  rw [Nat.pow_succ, Int32.ofNat_mul]; rfl
theorem own_add (i : Nat) : Int32.ofNat i + (1 : Int32) = Int32.ofNat (i + 1) := by rw [Int32.ofNat_add]; rfl
theorem ef_rm1 (m : MethodId) (x0 : Int32) : entryFrame m #[(.int x0)] 3 = mkF m 0 #[.val (.int x0), .unset, .unset] [] := by first | (simp [entryFrame, mkF, argsToLocals, Value.category]; done) | rfl
theorem pn_0 : plainName "com/example/satzbau/satzbau/formats/qmf/QmfLayout" = true := by first | (simp [plainName, overriddenIn]; done) | decide +kernel
theorem d1_0 : decode prog_28_method_2_code 0 = .ok (.iconst 1, 1) := by decide +kernel
theorem d1_1 : decode prog_28_method_2_code 1 = .ok (.istore_n 1, 1) := by decide +kernel
theorem d1_2 : decode prog_28_method_2_code 2 = .ok (.iconst 0, 1) := by decide +kernel
theorem d1_3 : decode prog_28_method_2_code 3 = .ok (.istore_n 2, 1) := by decide +kernel
theorem d1_4 : decode prog_28_method_2_code 4 = .ok (.iload_n 2, 1) := by decide +kernel
theorem d1_5 : decode prog_28_method_2_code 5 = .ok (.iload_n 0, 1) := by decide +kernel
theorem d1_6 : decode prog_28_method_2_code 6 = .ok (.if_icmp .ge 14, 3) := by decide +kernel
theorem d1_20 : decode prog_28_method_2_code 20 = .ok (.iload_n 1, 1) := by decide +kernel
theorem d1_21 : decode prog_28_method_2_code 21 = .ok (.iconst 1, 1) := by decide +kernel
theorem d1_22 : decode prog_28_method_2_code 22 = .ok (.isub, 1) := by decide +kernel
theorem d1_23 : decode prog_28_method_2_code 23 = .ok (.ireturn, 1) := by decide +kernel
theorem d1_9 : decode prog_28_method_2_code 9 = .ok (.iload_n 1, 1) := by decide +kernel
theorem d1_10 : decode prog_28_method_2_code 10 = .ok (.bipush 10, 2) := by decide +kernel
theorem d1_12 : decode prog_28_method_2_code 12 = .ok (.imul, 1) := by decide +kernel
theorem d1_13 : decode prog_28_method_2_code 13 = .ok (.istore_n 1, 1) := by decide +kernel
theorem d1_14 : decode prog_28_method_2_code 14 = .ok (.iinc 2 1, 3) := by decide +kernel
theorem d1_17 : decode prog_28_method_2_code 17 = .ok (.goto (-13), 3) := by decide +kernel
set_option maxRecDepth 65536 in
set_option maxHeartbeats 40000000 in
theorem rm1 (l : Launch) (Z : State) (a0 : Array Value) (hw : ∀ d ∈ tables_1, d.before a0 Z = true) (ws : List Jvm.Cond) (n : Nat) (h0 : Heap) (n0 : Nat) (Z0 : n0 ≤ h0.size) (hn : n < 10) :
    Ctr l Z (⟨"com/example/satzbau/satzbau/formats/qmf/QmfLayout", "largest", "(I)I"⟩ : MethodName) prog_28_method_2_code 3 (some .int) ws ({ frames := 0, cells := 0, slots := 0, locals := 0 } : Room) 0 0 #[(.int (Int32.ofNat n))] h0 (fun v h L => v = some (.int (Int32.ofNat (10 ^ n) - (1 : Int32))) ∧ L = [] ∧ h = h0) := by
  refine Ctr.mk (plainFor_of_name pn_0) fun p e s m below meth c T0 X0 C e0 => go_cast (ef_rm1 m (Int32.ofNat n)) ?_
  have N0 := Fr.nil n0
  obtain ⟨hx, hZ, hby, hml, hown, hnm, hret, hlk⟩ := C
  show Go _ _ _ _ _ _ _ T0 (mkF m 0 #[.val (.int (Int32.ofNat n)), .unset, .unset] [])
  refine Go.step (fun t k => XS.iconst X0.here hx rfl (hb hby d1_0) k) ?_
  show Go _ _ _ _ _ _ _ T0 (mkF m 1 #[.val (.int (Int32.ofNat n)), .unset, .unset] [(.int (1 : Int32))])
  refine Go.step (fun t k => XS.istoreN X0.here hx rfl (hb hby d1_1) rfl (l' := #[.val (.int (Int32.ofNat n)), .val (.int (1 : Int32)), .unset]) rfl k) ?_
  show Go _ _ _ _ _ _ _ T0 (mkF m 2 #[.val (.int (Int32.ofNat n)), .val (.int (1 : Int32)), .unset] [])
  refine Go.step (fun t k => XS.iconst X0.here hx rfl (hb hby d1_2) k) ?_
  show Go _ _ _ _ _ _ _ T0 (mkF m 3 #[.val (.int (Int32.ofNat n)), .val (.int (1 : Int32)), .unset] [(.int (0 : Int32))])
  refine Go.step (fun t k => XS.istoreN X0.here hx rfl (hb hby d1_3) rfl (l' := #[.val (.int (Int32.ofNat n)), .val (.int (1 : Int32)), .val (.int (0 : Int32))]) rfl k) ?_
  show Go _ _ _ _ _ _ _ T0 (mkF m 4 #[.val (.int (Int32.ofNat n)), .val (.int (1 : Int32)), .val (.int (0 : Int32))] [])
  have lp : ∀ (k i : Nat), i + k = n → Go p e s below 0 0 (fun v h L => v = some (.int (Int32.ofNat (10 ^ n) - (1 : Int32))) ∧ L = [] ∧ h = h0) T0 (mkF m 4 #[.val (.int (Int32.ofNat n)), .val (.int (Int32.ofNat (10 ^ i))), .val (.int (Int32.ofNat i))] []) := by
    intro k
    induction k with
    | zero =>
      intro i hi
      refine Go.step (fun t k => XS.iloadN X0.here hx rfl (hb hby d1_4) rfl k) ?_
      show Go _ _ _ _ _ _ _ T0 (mkF m 5 #[.val (.int (Int32.ofNat n)), .val (.int (Int32.ofNat (10 ^ i))), .val (.int (Int32.ofNat i))] [(.int (Int32.ofNat i))])
      refine Go.step (fun t k => XS.iloadN X0.here hx rfl (hb hby d1_5) rfl k) ?_
      show Go _ _ _ _ _ _ _ T0 (mkF m 6 #[.val (.int (Int32.ofNat n)), .val (.int (Int32.ofNat (10 ^ i))), .val (.int (Int32.ofNat i))] [(.int (Int32.ofNat n)), (.int (Int32.ofNat i))])
      refine Go.step (fun t k => XS.icmpYes X0.here hx rfl (pc0 := 6) (pc' := 20) rfl (hb hby d1_6) rfl (flt (mt (own_lt i n (by omega) hn).mp (by omega))).2.1 (by decide) (by decide) k) ?_
      show Go _ _ _ _ _ _ _ T0 (mkF m 20 #[.val (.int (Int32.ofNat n)), .val (.int (Int32.ofNat (10 ^ i))), .val (.int (Int32.ofNat i))] [])
      refine Go.step (fun t k => XS.iloadN X0.here hx rfl (hb hby d1_20) rfl k) ?_
      show Go _ _ _ _ _ _ _ T0 (mkF m 21 #[.val (.int (Int32.ofNat n)), .val (.int (Int32.ofNat (10 ^ i))), .val (.int (Int32.ofNat i))] [(.int (Int32.ofNat (10 ^ i)))])
      refine Go.step (fun t k => XS.iconst X0.here hx rfl (hb hby d1_21) k) ?_
      show Go _ _ _ _ _ _ _ T0 (mkF m 22 #[.val (.int (Int32.ofNat n)), .val (.int (Int32.ofNat (10 ^ i))), .val (.int (Int32.ofNat i))] [(.int (1 : Int32)), (.int (Int32.ofNat (10 ^ i)))])
      refine Go.step (fun t k => XS.isub X0.here hx rfl (hb hby d1_22) rfl k) ?_
      show Go _ _ _ _ _ _ _ T0 (mkF m 23 #[.val (.int (Int32.ofNat n)), .val (.int (Int32.ofNat (10 ^ i))), .val (.int (Int32.ofNat i))] [(.int ((Int32.ofNat (10 ^ i)) - (1 : Int32)))])
      refine go_retI X0 hx hret hlk (hb hby d1_23) ?_ (by decide) (by decide)
      try rw [e0]
      exact ⟨by rw [show i = n by omega], rfl, rfl⟩
    | succ k ih =>
      intro i hi
      refine Go.step (fun t k => XS.iloadN X0.here hx rfl (hb hby d1_4) rfl k) ?_
      show Go _ _ _ _ _ _ _ T0 (mkF m 5 #[.val (.int (Int32.ofNat n)), .val (.int (Int32.ofNat (10 ^ i))), .val (.int (Int32.ofNat i))] [(.int (Int32.ofNat i))])
      refine Go.step (fun t k => XS.iloadN X0.here hx rfl (hb hby d1_5) rfl k) ?_
      show Go _ _ _ _ _ _ _ T0 (mkF m 6 #[.val (.int (Int32.ofNat n)), .val (.int (Int32.ofNat (10 ^ i))), .val (.int (Int32.ofNat i))] [(.int (Int32.ofNat n)), (.int (Int32.ofNat i))])
      refine Go.step (fun t k => XS.icmpNo X0.here hx rfl (hb hby d1_6) rfl (tlt ((own_lt i n (by omega) hn).mpr (by omega))).2.1 k) ?_
      show Go _ _ _ _ _ _ _ T0 (mkF m 9 #[.val (.int (Int32.ofNat n)), .val (.int (Int32.ofNat (10 ^ i))), .val (.int (Int32.ofNat i))] [])
      refine Go.step (fun t k => XS.iloadN X0.here hx rfl (hb hby d1_9) rfl k) ?_
      show Go _ _ _ _ _ _ _ T0 (mkF m 10 #[.val (.int (Int32.ofNat n)), .val (.int (Int32.ofNat (10 ^ i))), .val (.int (Int32.ofNat i))] [(.int (Int32.ofNat (10 ^ i)))])
      refine Go.step (fun t k => XS.bipush X0.here hx rfl (hb hby d1_10) k) ?_
      show Go _ _ _ _ _ _ _ T0 (mkF m 12 #[.val (.int (Int32.ofNat n)), .val (.int (Int32.ofNat (10 ^ i))), .val (.int (Int32.ofNat i))] [(.int (10 : Int32)), (.int (Int32.ofNat (10 ^ i)))])
      refine Go.step (fun t k => XS.imul X0.here hx rfl (hb hby d1_12) rfl k) ?_
      show Go _ _ _ _ _ _ _ T0 (mkF m 13 #[.val (.int (Int32.ofNat n)), .val (.int (Int32.ofNat (10 ^ i))), .val (.int (Int32.ofNat i))] [(.int ((Int32.ofNat (10 ^ i)) * (10 : Int32)))])
      refine Go.step (fun t k => XS.istoreN X0.here hx rfl (hb hby d1_13) rfl (l' := #[.val (.int (Int32.ofNat n)), .val (.int ((Int32.ofNat (10 ^ i)) * (10 : Int32))), .val (.int (Int32.ofNat i))]) rfl k) ?_
      show Go _ _ _ _ _ _ _ T0 (mkF m 14 #[.val (.int (Int32.ofNat n)), .val (.int ((Int32.ofNat (10 ^ i)) * (10 : Int32))), .val (.int (Int32.ofNat i))] [])
      refine Go.step (fun t k => XS.iinc X0.here hx rfl (hb hby d1_14) rfl (l' := #[.val (.int (Int32.ofNat n)), .val (.int ((Int32.ofNat (10 ^ i)) * (10 : Int32))), .val (.int ((Int32.ofNat i) + (1 : Int32)))]) rfl k) ?_
      show Go _ _ _ _ _ _ _ T0 (mkF m 17 #[.val (.int (Int32.ofNat n)), .val (.int ((Int32.ofNat (10 ^ i)) * (10 : Int32))), .val (.int ((Int32.ofNat i) + (1 : Int32)))] [])
      refine Go.step (fun t k => XS.goto X0.here hx rfl (pc0 := 17) (pc' := 4) rfl (hb hby d1_17) (by decide) (by decide) k) ?_
      show Go _ _ _ _ _ _ _ T0 (mkF m 4 #[.val (.int (Int32.ofNat n)), .val (.int ((Int32.ofNat (10 ^ i)) * (10 : Int32))), .val (.int ((Int32.ofNat i) + (1 : Int32)))] [])
      rw [own_mul, own_add]
      exact ih (i + 1) (by omega)
  exact lp n 0 (by omega)
theorem ef_rm0 (m : MethodId) (x0 : Int32) : entryFrame m #[(.int x0)] maxLocals = mkF m 0 #[.val (.int x0), .unset, .unset] [] := by first | (simp [entryFrame, mkF, argsToLocals, Value.category, maxLocals]; done) | rfl
theorem pn_1 : plainName "com/example/satzbau/satzbau/formats/qmf/QmfLayoutLargestPinLaw" = true := by first | (simp [plainName, overriddenIn]; done) | decide +kernel
theorem pd_0 : parseMethodDescriptor "(I)I" = some ⟨[.int], some .int⟩ := by decide +kernel
set_option maxRecDepth 65536 in
set_option maxHeartbeats 40000000 in
theorem rm0 (l : Launch) (Z : State) (a0 : Array Value) (hw : ∀ d ∈ tables_1, d.before a0 Z = true) (ws : List Jvm.Cond) (i0 : Int32) (h0 : Heap) (n0 : Nat) (Z0 : n0 ≤ h0.size)  :
    Ctr l Z x code maxLocals ret ws room_1 16 128 #[(.int i0)] h0 (fun v h L => v = some (.int (1 : Int32)) ∧ Fr n0 L) := by
  refine Ctr.mk (plainFor_of_name pn_1) fun p e s m below meth c T0 X0 C e0 => go_cast (ef_rm0 m i0) ?_
  have N0 := Fr.nil n0
  obtain ⟨hx, hZ, hby, hml, hown, hnm, hret, hlk⟩ := C
  show Go _ _ _ _ _ _ _ T0 (mkF m 0 #[.val (.int i0), .unset, .unset] [])
  refine Go.step (fun t k => XS.iloadN X0.here hx rfl (hb hby at_0) rfl k) ?_
  show Go _ _ _ _ _ _ _ T0 (mkF m 1 #[.val (.int i0), .unset, .unset] [(.int i0)])
  refine Go.step (X0.ldcInt hx hown (mvT hZ (hw _ (List.mem_of_getElem? (i := 0) rfl))) (g := (mkF m 1 #[.val (.int i0), .unset, .unset] [(.int i0)])) rfl (hb hby at_1)) ?_
  show Go _ _ _ _ _ _ _ T0 (mkF m 3 #[.val (.int i0), .unset, .unset] [(.int (2147483647 : Int32)), (.int i0)])
  refine Go.step (fun t k => XS.iand X0.here hx rfl (hb hby at_3) rfl k) ?_
  show Go _ _ _ _ _ _ _ T0 (mkF m 4 #[.val (.int i0), .unset, .unset] [(.int (i0 &&& (2147483647 : Int32)))])
  refine Go.step (fun t k => XS.bipush X0.here hx rfl (hb hby at_4) k) ?_
  show Go _ _ _ _ _ _ _ T0 (mkF m 6 #[.val (.int i0), .unset, .unset] [(.int (10 : Int32)), (.int (i0 &&& (2147483647 : Int32)))])
  refine Go.step (fun t k => iremM X0 hx rfl (hb hby at_6) rfl (by decide) k) ?_
  show Go _ _ _ _ _ _ _ T0 (mkF m 7 #[.val (.int i0), .unset, .unset] [(.int ((i0 &&& (2147483647 : Int32)) % (10 : Int32)))])
  refine Go.step (fun t k => XS.istoreN X0.here hx rfl (hb hby at_7) rfl (l' := #[.val (.int i0), .val (.int ((i0 &&& (2147483647 : Int32)) % (10 : Int32))), .unset]) rfl k) ?_
  show Go _ _ _ _ _ _ _ T0 (mkF m 8 #[.val (.int i0), .val (.int ((i0 &&& (2147483647 : Int32)) % (10 : Int32))), .unset] [])
  obtain ⟨n, hn, en⟩ := own_d i0
  rw [en]
  show Go _ _ _ _ _ _ _ T0 (mkF m 8 #[.val (.int i0), .val (.int (Int32.ofNat n)), .unset] [])
  refine Go.step (fun t k => XS.bipush X0.here hx rfl (hb hby at_8) k) ?_
  show Go _ _ _ _ _ _ _ T0 (mkF m 10 #[.val (.int i0), .val (.int (Int32.ofNat n)), .unset] [(.int (10 : Int32))])
  obtain ⟨T1, h1, k1, X1, e1, E1, A1, EA1, st1⟩ := newPE X0 hx hZ (hw _ (List.mem_of_getElem? (i := 1) rfl)) e0 (g := (mkF m 10 #[.val (.int i0), .val (.int (Int32.ofNat n)), .unset] [(.int (10 : Int32))])) rfl (hb hby at_10) rfl (by decide) (cap := 10) (by decide) (by decide) (by decide) (by decide) (ad := "[I") rfl
  obtain ⟨b1, g1⟩ : ∃ z, z = h0.size := ⟨_, rfl⟩
  rw [← g1] at A1 EA1 st1
  have gn_b1 : n0 ≤ b1 := Nat.le_trans Z0 (Nat.le_of_eq g1.symm)
  have Z1 : n0 ≤ h1.size := Nat.le_trans Z0 E1.1
  have V1 : AV Z h1 b1 .int 10 (lst [(.int (0 : Int32)), (.int (0 : Int32)), (.int (0 : Int32)), (.int (0 : Int32)), (.int (0 : Int32)), (.int (0 : Int32)), (.int (0 : Int32)), (.int (0 : Int32)), (.int (0 : Int32)), (.int (0 : Int32))]) := AV.newL (AV.new A1 (by decide)) rfl
  refine Go.step (st1) ?_
  show Go _ _ _ _ _ _ _ T1 (mkF m 12 #[.val (.int i0), .val (.int (Int32.ofNat n)), .unset] [(.ref b1)])
  refine Go.step (fun t k => XS.dup X1.here hx rfl (hb hby at_12) rfl rfl k) ?_
  show Go _ _ _ _ _ _ _ T1 (mkF m 13 #[.val (.int i0), .val (.int (Int32.ofNat n)), .unset] [(.ref b1), (.ref b1)])
  refine Go.step (fun t k => XS.iconst X1.here hx rfl (hb hby at_13) k) ?_
  show Go _ _ _ _ _ _ _ T1 (mkF m 14 #[.val (.int i0), .val (.int (Int32.ofNat n)), .unset] [(.int (0 : Int32)), (.ref b1), (.ref b1)])
  refine Go.step (fun t k => XS.iconst X1.here hx rfl (hb hby at_14) k) ?_
  show Go _ _ _ _ _ _ _ T1 (mkF m 15 #[.val (.int i0), .val (.int (Int32.ofNat n)), .unset] [(.int (0 : Int32)), (.int (0 : Int32)), (.ref b1), (.ref b1)])
  obtain ⟨cl2, Ar2, hin2, -⟩ := V1.at (j := (0 : Int32)) (k := 0) (by decide) (by decide)
  obtain ⟨T2, h2, X2, e2, W2, st2⟩ := stI X1 hx hZ e1 Ar2 (j := (0 : Int32)) hin2 (g := (mkF m 15 #[.val (.int i0), .val (.int (Int32.ofNat n)), .unset] [(.int (0 : Int32)), (.int (0 : Int32)), (.ref b1), (.ref b1)])) rfl rfl (hb hby at_15)
  have V2 : AV Z h2 b1 .int 10 (lst [(.int (0 : Int32)), (.int (0 : Int32)), (.int (0 : Int32)), (.int (0 : Int32)), (.int (0 : Int32)), (.int (0 : Int32)), (.int (0 : Int32)), (.int (0 : Int32)), (.int (0 : Int32)), (.int (0 : Int32))]) := AV.setL V1 (k := 0) (by decide) (by decide) W2 (by decide) rfl
  have N2 := Fr.snoc X2 N0 gn_b1
  have Z2 : n0 ≤ h2.size := Nat.le_trans Z1 (Keep.of_wr W2).1
  refine Go.step (st2) ?_
  show Go _ _ _ _ _ _ _ T2 (mkF m 16 #[.val (.int i0), .val (.int (Int32.ofNat n)), .unset] [(.ref b1)])
  refine Go.step (fun t k => XS.dup X2.here hx rfl (hb hby at_16) rfl rfl k) ?_
  show Go _ _ _ _ _ _ _ T2 (mkF m 17 #[.val (.int i0), .val (.int (Int32.ofNat n)), .unset] [(.ref b1), (.ref b1)])
  refine Go.step (fun t k => XS.iconst X2.here hx rfl (hb hby at_17) k) ?_
  show Go _ _ _ _ _ _ _ T2 (mkF m 18 #[.val (.int i0), .val (.int (Int32.ofNat n)), .unset] [(.int (1 : Int32)), (.ref b1), (.ref b1)])
  refine Go.step (fun t k => XS.bipush X2.here hx rfl (hb hby at_18) k) ?_
  show Go _ _ _ _ _ _ _ T2 (mkF m 20 #[.val (.int i0), .val (.int (Int32.ofNat n)), .unset] [(.int (9 : Int32)), (.int (1 : Int32)), (.ref b1), (.ref b1)])
  obtain ⟨cl3, Ar3, hin3, -⟩ := V2.at (j := (1 : Int32)) (k := 1) (by decide) (by decide)
  obtain ⟨T3, h3, X3, e3, W3, st3⟩ := stI X2 hx hZ e2 Ar3 (j := (1 : Int32)) hin3 (g := (mkF m 20 #[.val (.int i0), .val (.int (Int32.ofNat n)), .unset] [(.int (9 : Int32)), (.int (1 : Int32)), (.ref b1), (.ref b1)])) rfl rfl (hb hby at_20)
  have V3 : AV Z h3 b1 .int 10 (lst [(.int (0 : Int32)), (.int (9 : Int32)), (.int (0 : Int32)), (.int (0 : Int32)), (.int (0 : Int32)), (.int (0 : Int32)), (.int (0 : Int32)), (.int (0 : Int32)), (.int (0 : Int32)), (.int (0 : Int32))]) := AV.setL V2 (k := 1) (by decide) (by decide) W3 (by decide) rfl
  have N3 := Fr.snoc X3 N2 gn_b1
  have Z3 : n0 ≤ h3.size := Nat.le_trans Z2 (Keep.of_wr W3).1
  refine Go.step (st3) ?_
  show Go _ _ _ _ _ _ _ T3 (mkF m 21 #[.val (.int i0), .val (.int (Int32.ofNat n)), .unset] [(.ref b1)])
  refine Go.step (fun t k => XS.dup X3.here hx rfl (hb hby at_21) rfl rfl k) ?_
  show Go _ _ _ _ _ _ _ T3 (mkF m 22 #[.val (.int i0), .val (.int (Int32.ofNat n)), .unset] [(.ref b1), (.ref b1)])
  refine Go.step (fun t k => XS.iconst X3.here hx rfl (hb hby at_22) k) ?_
  show Go _ _ _ _ _ _ _ T3 (mkF m 23 #[.val (.int i0), .val (.int (Int32.ofNat n)), .unset] [(.int (2 : Int32)), (.ref b1), (.ref b1)])
  refine Go.step (fun t k => XS.bipush X3.here hx rfl (hb hby at_23) k) ?_
  show Go _ _ _ _ _ _ _ T3 (mkF m 25 #[.val (.int i0), .val (.int (Int32.ofNat n)), .unset] [(.int (99 : Int32)), (.int (2 : Int32)), (.ref b1), (.ref b1)])
  obtain ⟨cl4, Ar4, hin4, -⟩ := V3.at (j := (2 : Int32)) (k := 2) (by decide) (by decide)
  obtain ⟨T4, h4, X4, e4, W4, st4⟩ := stI X3 hx hZ e3 Ar4 (j := (2 : Int32)) hin4 (g := (mkF m 25 #[.val (.int i0), .val (.int (Int32.ofNat n)), .unset] [(.int (99 : Int32)), (.int (2 : Int32)), (.ref b1), (.ref b1)])) rfl rfl (hb hby at_25)
  have V4 : AV Z h4 b1 .int 10 (lst [(.int (0 : Int32)), (.int (9 : Int32)), (.int (99 : Int32)), (.int (0 : Int32)), (.int (0 : Int32)), (.int (0 : Int32)), (.int (0 : Int32)), (.int (0 : Int32)), (.int (0 : Int32)), (.int (0 : Int32))]) := AV.setL V3 (k := 2) (by decide) (by decide) W4 (by decide) rfl
  have N4 := Fr.snoc X4 N3 gn_b1
  have Z4 : n0 ≤ h4.size := Nat.le_trans Z3 (Keep.of_wr W4).1
  refine Go.step (st4) ?_
  show Go _ _ _ _ _ _ _ T4 (mkF m 26 #[.val (.int i0), .val (.int (Int32.ofNat n)), .unset] [(.ref b1)])
  refine Go.step (fun t k => XS.dup X4.here hx rfl (hb hby at_26) rfl rfl k) ?_
  show Go _ _ _ _ _ _ _ T4 (mkF m 27 #[.val (.int i0), .val (.int (Int32.ofNat n)), .unset] [(.ref b1), (.ref b1)])
  refine Go.step (fun t k => XS.iconst X4.here hx rfl (hb hby at_27) k) ?_
  show Go _ _ _ _ _ _ _ T4 (mkF m 28 #[.val (.int i0), .val (.int (Int32.ofNat n)), .unset] [(.int (3 : Int32)), (.ref b1), (.ref b1)])
  refine Go.step (fun t k => XS.sipush X4.here hx rfl (hb hby at_28) k) ?_
  show Go _ _ _ _ _ _ _ T4 (mkF m 31 #[.val (.int i0), .val (.int (Int32.ofNat n)), .unset] [(.int (999 : Int32)), (.int (3 : Int32)), (.ref b1), (.ref b1)])
  obtain ⟨cl5, Ar5, hin5, -⟩ := V4.at (j := (3 : Int32)) (k := 3) (by decide) (by decide)
  obtain ⟨T5, h5, X5, e5, W5, st5⟩ := stI X4 hx hZ e4 Ar5 (j := (3 : Int32)) hin5 (g := (mkF m 31 #[.val (.int i0), .val (.int (Int32.ofNat n)), .unset] [(.int (999 : Int32)), (.int (3 : Int32)), (.ref b1), (.ref b1)])) rfl rfl (hb hby at_31)
  have V5 : AV Z h5 b1 .int 10 (lst [(.int (0 : Int32)), (.int (9 : Int32)), (.int (99 : Int32)), (.int (999 : Int32)), (.int (0 : Int32)), (.int (0 : Int32)), (.int (0 : Int32)), (.int (0 : Int32)), (.int (0 : Int32)), (.int (0 : Int32))]) := AV.setL V4 (k := 3) (by decide) (by decide) W5 (by decide) rfl
  have N5 := Fr.snoc X5 N4 gn_b1
  have Z5 : n0 ≤ h5.size := Nat.le_trans Z4 (Keep.of_wr W5).1
  refine Go.step (st5) ?_
  show Go _ _ _ _ _ _ _ T5 (mkF m 32 #[.val (.int i0), .val (.int (Int32.ofNat n)), .unset] [(.ref b1)])
  refine Go.step (fun t k => XS.dup X5.here hx rfl (hb hby at_32) rfl rfl k) ?_
  show Go _ _ _ _ _ _ _ T5 (mkF m 33 #[.val (.int i0), .val (.int (Int32.ofNat n)), .unset] [(.ref b1), (.ref b1)])
  refine Go.step (fun t k => XS.iconst X5.here hx rfl (hb hby at_33) k) ?_
  show Go _ _ _ _ _ _ _ T5 (mkF m 34 #[.val (.int i0), .val (.int (Int32.ofNat n)), .unset] [(.int (4 : Int32)), (.ref b1), (.ref b1)])
  refine Go.step (fun t k => XS.sipush X5.here hx rfl (hb hby at_34) k) ?_
  show Go _ _ _ _ _ _ _ T5 (mkF m 37 #[.val (.int i0), .val (.int (Int32.ofNat n)), .unset] [(.int (9999 : Int32)), (.int (4 : Int32)), (.ref b1), (.ref b1)])
  obtain ⟨cl6, Ar6, hin6, -⟩ := V5.at (j := (4 : Int32)) (k := 4) (by decide) (by decide)
  obtain ⟨T6, h6, X6, e6, W6, st6⟩ := stI X5 hx hZ e5 Ar6 (j := (4 : Int32)) hin6 (g := (mkF m 37 #[.val (.int i0), .val (.int (Int32.ofNat n)), .unset] [(.int (9999 : Int32)), (.int (4 : Int32)), (.ref b1), (.ref b1)])) rfl rfl (hb hby at_37)
  have V6 : AV Z h6 b1 .int 10 (lst [(.int (0 : Int32)), (.int (9 : Int32)), (.int (99 : Int32)), (.int (999 : Int32)), (.int (9999 : Int32)), (.int (0 : Int32)), (.int (0 : Int32)), (.int (0 : Int32)), (.int (0 : Int32)), (.int (0 : Int32))]) := AV.setL V5 (k := 4) (by decide) (by decide) W6 (by decide) rfl
  have N6 := Fr.snoc X6 N5 gn_b1
  have Z6 : n0 ≤ h6.size := Nat.le_trans Z5 (Keep.of_wr W6).1
  refine Go.step (st6) ?_
  show Go _ _ _ _ _ _ _ T6 (mkF m 38 #[.val (.int i0), .val (.int (Int32.ofNat n)), .unset] [(.ref b1)])
  refine Go.step (fun t k => XS.dup X6.here hx rfl (hb hby at_38) rfl rfl k) ?_
  show Go _ _ _ _ _ _ _ T6 (mkF m 39 #[.val (.int i0), .val (.int (Int32.ofNat n)), .unset] [(.ref b1), (.ref b1)])
  refine Go.step (fun t k => XS.iconst X6.here hx rfl (hb hby at_39) k) ?_
  show Go _ _ _ _ _ _ _ T6 (mkF m 40 #[.val (.int i0), .val (.int (Int32.ofNat n)), .unset] [(.int (5 : Int32)), (.ref b1), (.ref b1)])
  refine Go.step (X6.ldcInt hx hown (mvT hZ (hw _ (List.mem_of_getElem? (i := 2) rfl))) (g := (mkF m 40 #[.val (.int i0), .val (.int (Int32.ofNat n)), .unset] [(.int (5 : Int32)), (.ref b1), (.ref b1)])) rfl (hb hby at_40)) ?_
  show Go _ _ _ _ _ _ _ T6 (mkF m 42 #[.val (.int i0), .val (.int (Int32.ofNat n)), .unset] [(.int (99999 : Int32)), (.int (5 : Int32)), (.ref b1), (.ref b1)])
  obtain ⟨cl7, Ar7, hin7, -⟩ := V6.at (j := (5 : Int32)) (k := 5) (by decide) (by decide)
  obtain ⟨T7, h7, X7, e7, W7, st7⟩ := stI X6 hx hZ e6 Ar7 (j := (5 : Int32)) hin7 (g := (mkF m 42 #[.val (.int i0), .val (.int (Int32.ofNat n)), .unset] [(.int (99999 : Int32)), (.int (5 : Int32)), (.ref b1), (.ref b1)])) rfl rfl (hb hby at_42)
  have V7 : AV Z h7 b1 .int 10 (lst [(.int (0 : Int32)), (.int (9 : Int32)), (.int (99 : Int32)), (.int (999 : Int32)), (.int (9999 : Int32)), (.int (99999 : Int32)), (.int (0 : Int32)), (.int (0 : Int32)), (.int (0 : Int32)), (.int (0 : Int32))]) := AV.setL V6 (k := 5) (by decide) (by decide) W7 (by decide) rfl
  have N7 := Fr.snoc X7 N6 gn_b1
  have Z7 : n0 ≤ h7.size := Nat.le_trans Z6 (Keep.of_wr W7).1
  refine Go.step (st7) ?_
  show Go _ _ _ _ _ _ _ T7 (mkF m 43 #[.val (.int i0), .val (.int (Int32.ofNat n)), .unset] [(.ref b1)])
  refine Go.step (fun t k => XS.dup X7.here hx rfl (hb hby at_43) rfl rfl k) ?_
  show Go _ _ _ _ _ _ _ T7 (mkF m 44 #[.val (.int i0), .val (.int (Int32.ofNat n)), .unset] [(.ref b1), (.ref b1)])
  refine Go.step (fun t k => XS.bipush X7.here hx rfl (hb hby at_44) k) ?_
  show Go _ _ _ _ _ _ _ T7 (mkF m 46 #[.val (.int i0), .val (.int (Int32.ofNat n)), .unset] [(.int (6 : Int32)), (.ref b1), (.ref b1)])
  refine Go.step (X7.ldcInt hx hown (mvT hZ (hw _ (List.mem_of_getElem? (i := 3) rfl))) (g := (mkF m 46 #[.val (.int i0), .val (.int (Int32.ofNat n)), .unset] [(.int (6 : Int32)), (.ref b1), (.ref b1)])) rfl (hb hby at_46)) ?_
  show Go _ _ _ _ _ _ _ T7 (mkF m 48 #[.val (.int i0), .val (.int (Int32.ofNat n)), .unset] [(.int (999999 : Int32)), (.int (6 : Int32)), (.ref b1), (.ref b1)])
  obtain ⟨cl8, Ar8, hin8, -⟩ := V7.at (j := (6 : Int32)) (k := 6) (by decide) (by decide)
  obtain ⟨T8, h8, X8, e8, W8, st8⟩ := stI X7 hx hZ e7 Ar8 (j := (6 : Int32)) hin8 (g := (mkF m 48 #[.val (.int i0), .val (.int (Int32.ofNat n)), .unset] [(.int (999999 : Int32)), (.int (6 : Int32)), (.ref b1), (.ref b1)])) rfl rfl (hb hby at_48)
  have V8 : AV Z h8 b1 .int 10 (lst [(.int (0 : Int32)), (.int (9 : Int32)), (.int (99 : Int32)), (.int (999 : Int32)), (.int (9999 : Int32)), (.int (99999 : Int32)), (.int (999999 : Int32)), (.int (0 : Int32)), (.int (0 : Int32)), (.int (0 : Int32))]) := AV.setL V7 (k := 6) (by decide) (by decide) W8 (by decide) rfl
  have N8 := Fr.snoc X8 N7 gn_b1
  have Z8 : n0 ≤ h8.size := Nat.le_trans Z7 (Keep.of_wr W8).1
  refine Go.step (st8) ?_
  show Go _ _ _ _ _ _ _ T8 (mkF m 49 #[.val (.int i0), .val (.int (Int32.ofNat n)), .unset] [(.ref b1)])
  refine Go.step (fun t k => XS.dup X8.here hx rfl (hb hby at_49) rfl rfl k) ?_
  show Go _ _ _ _ _ _ _ T8 (mkF m 50 #[.val (.int i0), .val (.int (Int32.ofNat n)), .unset] [(.ref b1), (.ref b1)])
  refine Go.step (fun t k => XS.bipush X8.here hx rfl (hb hby at_50) k) ?_
  show Go _ _ _ _ _ _ _ T8 (mkF m 52 #[.val (.int i0), .val (.int (Int32.ofNat n)), .unset] [(.int (7 : Int32)), (.ref b1), (.ref b1)])
  refine Go.step (X8.ldcInt hx hown (mvT hZ (hw _ (List.mem_of_getElem? (i := 4) rfl))) (g := (mkF m 52 #[.val (.int i0), .val (.int (Int32.ofNat n)), .unset] [(.int (7 : Int32)), (.ref b1), (.ref b1)])) rfl (hb hby at_52)) ?_
  show Go _ _ _ _ _ _ _ T8 (mkF m 54 #[.val (.int i0), .val (.int (Int32.ofNat n)), .unset] [(.int (9999999 : Int32)), (.int (7 : Int32)), (.ref b1), (.ref b1)])
  obtain ⟨cl9, Ar9, hin9, -⟩ := V8.at (j := (7 : Int32)) (k := 7) (by decide) (by decide)
  obtain ⟨T9, h9, X9, e9, W9, st9⟩ := stI X8 hx hZ e8 Ar9 (j := (7 : Int32)) hin9 (g := (mkF m 54 #[.val (.int i0), .val (.int (Int32.ofNat n)), .unset] [(.int (9999999 : Int32)), (.int (7 : Int32)), (.ref b1), (.ref b1)])) rfl rfl (hb hby at_54)
  have V9 : AV Z h9 b1 .int 10 (lst [(.int (0 : Int32)), (.int (9 : Int32)), (.int (99 : Int32)), (.int (999 : Int32)), (.int (9999 : Int32)), (.int (99999 : Int32)), (.int (999999 : Int32)), (.int (9999999 : Int32)), (.int (0 : Int32)), (.int (0 : Int32))]) := AV.setL V8 (k := 7) (by decide) (by decide) W9 (by decide) rfl
  have N9 := Fr.snoc X9 N8 gn_b1
  have Z9 : n0 ≤ h9.size := Nat.le_trans Z8 (Keep.of_wr W9).1
  refine Go.step (st9) ?_
  show Go _ _ _ _ _ _ _ T9 (mkF m 55 #[.val (.int i0), .val (.int (Int32.ofNat n)), .unset] [(.ref b1)])
  refine Go.step (fun t k => XS.dup X9.here hx rfl (hb hby at_55) rfl rfl k) ?_
  show Go _ _ _ _ _ _ _ T9 (mkF m 56 #[.val (.int i0), .val (.int (Int32.ofNat n)), .unset] [(.ref b1), (.ref b1)])
  refine Go.step (fun t k => XS.bipush X9.here hx rfl (hb hby at_56) k) ?_
  show Go _ _ _ _ _ _ _ T9 (mkF m 58 #[.val (.int i0), .val (.int (Int32.ofNat n)), .unset] [(.int (8 : Int32)), (.ref b1), (.ref b1)])
  refine Go.step (X9.ldcInt hx hown (mvT hZ (hw _ (List.mem_of_getElem? (i := 5) rfl))) (g := (mkF m 58 #[.val (.int i0), .val (.int (Int32.ofNat n)), .unset] [(.int (8 : Int32)), (.ref b1), (.ref b1)])) rfl (hb hby at_58)) ?_
  show Go _ _ _ _ _ _ _ T9 (mkF m 60 #[.val (.int i0), .val (.int (Int32.ofNat n)), .unset] [(.int (99999999 : Int32)), (.int (8 : Int32)), (.ref b1), (.ref b1)])
  obtain ⟨cl10, Ar10, hin10, -⟩ := V9.at (j := (8 : Int32)) (k := 8) (by decide) (by decide)
  obtain ⟨T10, h10, X10, e10, W10, st10⟩ := stI X9 hx hZ e9 Ar10 (j := (8 : Int32)) hin10 (g := (mkF m 60 #[.val (.int i0), .val (.int (Int32.ofNat n)), .unset] [(.int (99999999 : Int32)), (.int (8 : Int32)), (.ref b1), (.ref b1)])) rfl rfl (hb hby at_60)
  have V10 : AV Z h10 b1 .int 10 (lst [(.int (0 : Int32)), (.int (9 : Int32)), (.int (99 : Int32)), (.int (999 : Int32)), (.int (9999 : Int32)), (.int (99999 : Int32)), (.int (999999 : Int32)), (.int (9999999 : Int32)), (.int (99999999 : Int32)), (.int (0 : Int32))]) := AV.setL V9 (k := 8) (by decide) (by decide) W10 (by decide) rfl
  have N10 := Fr.snoc X10 N9 gn_b1
  have Z10 : n0 ≤ h10.size := Nat.le_trans Z9 (Keep.of_wr W10).1
  refine Go.step (st10) ?_
  show Go _ _ _ _ _ _ _ T10 (mkF m 61 #[.val (.int i0), .val (.int (Int32.ofNat n)), .unset] [(.ref b1)])
  refine Go.step (fun t k => XS.dup X10.here hx rfl (hb hby at_61) rfl rfl k) ?_
  show Go _ _ _ _ _ _ _ T10 (mkF m 62 #[.val (.int i0), .val (.int (Int32.ofNat n)), .unset] [(.ref b1), (.ref b1)])
  refine Go.step (fun t k => XS.bipush X10.here hx rfl (hb hby at_62) k) ?_
  show Go _ _ _ _ _ _ _ T10 (mkF m 64 #[.val (.int i0), .val (.int (Int32.ofNat n)), .unset] [(.int (9 : Int32)), (.ref b1), (.ref b1)])
  refine Go.step (X10.ldcInt hx hown (mvT hZ (hw _ (List.mem_of_getElem? (i := 6) rfl))) (g := (mkF m 64 #[.val (.int i0), .val (.int (Int32.ofNat n)), .unset] [(.int (9 : Int32)), (.ref b1), (.ref b1)])) rfl (hb hby at_64)) ?_
  show Go _ _ _ _ _ _ _ T10 (mkF m 66 #[.val (.int i0), .val (.int (Int32.ofNat n)), .unset] [(.int (999999999 : Int32)), (.int (9 : Int32)), (.ref b1), (.ref b1)])
  obtain ⟨cl11, Ar11, hin11, -⟩ := V10.at (j := (9 : Int32)) (k := 9) (by decide) (by decide)
  obtain ⟨T11, h11, X11, e11, W11, st11⟩ := stI X10 hx hZ e10 Ar11 (j := (9 : Int32)) hin11 (g := (mkF m 66 #[.val (.int i0), .val (.int (Int32.ofNat n)), .unset] [(.int (999999999 : Int32)), (.int (9 : Int32)), (.ref b1), (.ref b1)])) rfl rfl (hb hby at_66)
  have V11 : AV Z h11 b1 .int 10 (lst [(.int (0 : Int32)), (.int (9 : Int32)), (.int (99 : Int32)), (.int (999 : Int32)), (.int (9999 : Int32)), (.int (99999 : Int32)), (.int (999999 : Int32)), (.int (9999999 : Int32)), (.int (99999999 : Int32)), (.int (999999999 : Int32))]) := AV.setL V10 (k := 9) (by decide) (by decide) W11 (by decide) rfl
  have N11 := Fr.snoc X11 N10 gn_b1
  have Z11 : n0 ≤ h11.size := Nat.le_trans Z10 (Keep.of_wr W11).1
  refine Go.step (st11) ?_
  show Go _ _ _ _ _ _ _ T11 (mkF m 67 #[.val (.int i0), .val (.int (Int32.ofNat n)), .unset] [(.ref b1)])
  refine Go.step (fun t k => XS.astoreN X11.here hx rfl (hb hby at_67) rfl rfl (l' := #[.val (.int i0), .val (.int (Int32.ofNat n)), .val (.ref b1)]) rfl k) ?_
  show Go _ _ _ _ _ _ _ T11 (mkF m 68 #[.val (.int i0), .val (.int (Int32.ofNat n)), .val (.ref b1)] [])
  refine Go.step (fun t k => XS.iloadN X11.here hx rfl (hb hby at_68) rfl k) ?_
  show Go _ _ _ _ _ _ _ T11 (mkF m 69 #[.val (.int i0), .val (.int (Int32.ofNat n)), .val (.ref b1)] [(.int (Int32.ofNat n))])
  obtain ⟨v12, T12, L12, X12, q12, st12⟩ := c_static X11 hx hZ hown (y := (⟨"com/example/satzbau/satzbau/formats/qmf/QmfLayout", "largest", "(I)I"⟩ : MethodName)) (hw _ (List.mem_of_getElem? (i := 7) rfl)) (hw _ (List.mem_of_getElem? (i := 8) rfl)) (hw _ (List.mem_of_getElem? (i := 9) rfl)) (hw _ (List.mem_of_getElem? (i := 10) rfl)) (by decide) (argsL := [(.int (Int32.ofNat n))]) (rest := []) (rm1 l Z a0 hw [] n h11 n0 Z11 hn) e11 pd_0 rfl (by rw [hml]; rfl) (W := 0) (by show 2 * 0 + _ ≤ _; exact Nat.le_of_eq rfl) (by decide) (by decide) (by decide) (by decide) (hb hby at_69) (Ls := #[.val (.int i0), .val (.int (Int32.ofNat n)), .val (.ref b1)])
  obtain ⟨rfl, rfl, e12⟩ := q12
  have N12 := Fr.app N11 (Fr.nil n0)
  refine Go.step (st12) ?_
  show Go _ _ _ _ _ _ _ T12 (mkF m 72 #[.val (.int i0), .val (.int (Int32.ofNat n)), .val (.ref b1)] [(.int (Int32.ofNat (10 ^ n) - (1 : Int32)))])
  refine Go.step (fun t k => XS.aloadN X12.here hx rfl (hb hby at_72) rfl rfl k) ?_
  show Go _ _ _ _ _ _ _ T12 (mkF m 73 #[.val (.int i0), .val (.int (Int32.ofNat n)), .val (.ref b1)] [(.ref b1), (.int (Int32.ofNat (10 ^ n) - (1 : Int32)))])
  refine Go.step (fun t k => XS.iloadN X12.here hx rfl (hb hby at_73) rfl k) ?_
  show Go _ _ _ _ _ _ _ T12 (mkF m 74 #[.val (.int i0), .val (.int (Int32.ofNat n)), .val (.ref b1)] [(.int (Int32.ofNat n)), (.ref b1), (.int (Int32.ofNat (10 ^ n) - (1 : Int32)))])
  have hxv : lst [(.int (0 : Int32)), (.int (9 : Int32)), (.int (99 : Int32)), (.int (999 : Int32)), (.int (9999 : Int32)), (.int (99999 : Int32)), (.int (999999 : Int32)), (.int (9999999 : Int32)), (.int (99999999 : Int32)), (.int (999999999 : Int32))] n = .int (Int32.ofNat (10 ^ n) - (1 : Int32)) := by
    rcases (by omega : n = 0 ∨ n = 1 ∨ n = 2 ∨ n = 3 ∨ n = 4 ∨ n = 5 ∨ n = 6 ∨ n = 7 ∨ n = 8 ∨ n = 9) with rfl | rfl | rfl | rfl | rfl | rfl | rfl | rfl | rfl | rfl <;> rfl
  refine Go.step (a_iload X12 hx hZ e12 V11 (k := n) (Int32.toInt_ofNat_of_lt (by omega)) hn (x := (Int32.ofNat (10 ^ n) - (1 : Int32))) hxv (hb hby at_74)) ?_
  show Go _ _ _ _ _ _ _ T12 (mkF m 75 #[.val (.int i0), .val (.int (Int32.ofNat n)), .val (.ref b1)] [(.int (Int32.ofNat (10 ^ n) - (1 : Int32))), (.int (Int32.ofNat (10 ^ n) - (1 : Int32)))])
  refine Go.step (fun t k => XS.icmpNo X12.here hx rfl (hb hby at_75) rfl (teq rfl).2 k) ?_
  show Go _ _ _ _ _ _ _ T12 (mkF m 78 #[.val (.int i0), .val (.int (Int32.ofNat n)), .val (.ref b1)] [])
  refine Go.step (fun t k => XS.iconst X12.here hx rfl (hb hby at_78) k) ?_
  show Go _ _ _ _ _ _ _ T12 (mkF m 79 #[.val (.int i0), .val (.int (Int32.ofNat n)), .val (.ref b1)] [(.int (1 : Int32))])
  refine Go.step (fun t k => XS.goto X12.here hx rfl (pc0 := 79) (pc' := 83) rfl (hb hby at_79) (by decide) (by decide) k) ?_
  show Go _ _ _ _ _ _ _ T12 (mkF m 83 #[.val (.int i0), .val (.int (Int32.ofNat n)), .val (.ref b1)] [(.int (1 : Int32))])
  refine go_retN X12 hx (t := .boolean) hret (by simp) hlk (hb hby at_83) (w := (1 : Int32)) rfl ?_ (by decide) (by decide)
  try rw [e12]
  exact ⟨rfl, N12⟩
set_option maxRecDepth 65536 in
set_option maxHeartbeats 40000000 in
theorem comes_1 {Post : Tables → Env → Array Value → State → Outcome → State → Prop} (hpost : ∀ tb e args s v u, (limb_1_1.after args s (.returned v) u = true ∧ limb_1_2.after args s (.returned v) u = true ∧ True) → FrameEnd s (.returned v) u (Jvm.fieldLocs frame_1_writes args s ++ Jvm.arrayLocs frame_1_arrays args s ++ Jvm.staticLocs frame_1_statics s) 16 128 → Post tb e args s (.returned v) u) :
    ArmFor flags0 classFile x code maxLocals ret World_1 tables_1 room_1 Calls_1 rest_1 Pre_1 Post := by
  intro l hfl _ _ p e ha hc hk s m args below hf hA hF happ hP
  obtain ⟨hcalls, hrest, hpre⟩ := hP
  obtain ⟨-, -, -, hnamed, -, -, -, hat⟩ := (Spec.applies_iff hf).mp happ
  obtain ⟨hg, hn⟩ := and_e (Cond.before_iff.mp (show (Jvm.Cond.and given_1 narrow_1).before args s = true from hpre))
  obtain ⟨hcnt, hg1⟩ := and_e hg
  obtain ⟨w0, rfl⟩ : ∃ w0 : Value, args = #[w0] := by
    have hs : args.size = 1 := by simpa [Cond.value, given_1] using hcnt
    obtain ⟨L⟩ := args
    match L, hs with
    | [w0], _ => exact ⟨w0, rfl⟩
  have hw := fun d (hd : d ∈ tables_1) => atoms_spec (ws := Jvm.Cond.code x code maxLocals ret :: tables_1) hat d (List.mem_cons_of_mem _ hd)
  have hfit : Fit s := fun {y c} hc i hi => by
    obtain ⟨ha, rfl⟩ := Array.getElem?_eq_some_iff.mp hc
    have q := List.all_eq_true.mp ((Array.all_eq_true_iff_forall_mem.mp hF) _ (Array.getElem_mem ha)) i (List.mem_range.mpr hi)
    simpa [Array.getElem?_eq_getElem hi] using q
  obtain ⟨i0, ei0⟩ := is_v hg1
  obtain rfl : w0 = (.int i0) := Option.some.inj ei0
  obtain ⟨n, o, h1, h2, h3, _, L, rfl, ⟨rfl, N⟩, hq⟩ := rm0 l s _ hw tables_1 i0 s.heap s.heap.size (Nat.le_refl _)  p e ha hc hk s m _ below hf ((Spec.applies_iff_loose hf).mp happ).1 ⟨rfl, State.Warmed39.refl s, rfl⟩ trivial
  refine ⟨n, _, h1, h2, h3, hpost _ _ _ _ _ _ ⟨Cond.after_iff.mpr rfl, Cond.after_iff.mpr (eq_i res_at (Term.int_eval (1)) rfl), trivial⟩ ⟨hq.1, hq.2.1, (hq.2.2.sift fun y hy => Or.inr (N y hy)).mono (by decide) (by decide)⟩⟩
theorem main_1_1 : Claimed_1_1 := comes_1 fun _ _ _ _ _ _ h hF => ⟨h.1, hF⟩
theorem main_1_2 : Claimed_1_2 := comes_1 fun _ _ _ _ _ _ h hF => ⟨h.2.1, hF⟩
end Jvm.Pilot.@@N@@
namespace Jvm.Pilot.@@N@@
open Jvm Jvm.ClassFile Sem Op Lib Jvm.Free Jvm.Stand Jvm.Pilot.@@N@@.Jvm.D
/-! MADE BY PROGRAM (witnessworld.py) out of the Statement's table words and the real class files: 9 classes; the members and pool entries that the words name. The judged class is class 1, her method 1. -/
namespace start1
open Jvm.ClassFile
def u (s : String) : CpInfo := .utf8 (stringToUtf16 s)
/-- a pool by its gaps: so many unusable entries, then the entry; so many at the end -/
def gap : Nat → List CpInfo → List CpInfo
  | 0, r => r
  | n + 1, r => .unusable :: gap n r
def poolList (es : List (Nat × CpInfo)) (last : Nat) : List CpInfo := es.foldr (fun e r => gap e.1 (e.2 :: r)) (gap last [])
def pool (es : List (Nat × CpInfo)) (last : Nat) : Array CpInfo := ⟨poolList es last⟩
def fileOf (pool : Array CpInfo) (this : Nat) (attrs : Array Attribute := #[]) (ms : Array MethodInfo := #[]) (fl : Nat := 33) (sup : Nat := 0) (ifs : Array Nat := #[]) (fds : Array FieldInfo := #[]) : ClassFile where
  minorVersion := 0
  majorVersion := 65
  constantPool := pool
  accessFlags := fl
  thisClass := this
  superClass := sup
  interfaces := ifs
  fields := fds
  methods := ms
  attributes := attrs
def plain (name : String) (sup : Option ClassId) : Class where
  name := name
  kind := .ordinary
  loader := none
  accessFlags := 33
  super := sup
  interfaces := #[]
  cf := none
  fields := #[]
  methods := #[]
  instanceTypes := #[]
  staticTypes := #[]
  resolved := #[]
  callSites := []
  init := .initialized
  statics := none
  mirror := none

def pool0 : Array CpInfo := pool [(5, u "<init>"), (0, u "()V"), (1, .class_ 10), (1, u "java/lang/Object")] 113

def k0m0 : Method := { name := "<init>", desc := "()V", sig := { parameters := [], returnType := none }, accessFlags := 1, code := none }
/-- java/lang/Object -/
def k0 : Class := { plain "java/lang/Object" none with
  accessFlags := 33
  interfaces := #[]
  cf := some (fileOf pool0 8 #[] #[{ accessFlags := 1, nameIndex := 5, descriptorIndex := 6, attributes := #[] }] 33 0 #[] #[])
  fields := #[]
  methods := #[k0m0]
  instanceTypes := #[]
  staticTypes := #[]
  resolved := Array.replicate 124 none
  statics := none }

def pool1 : Array CpInfo := pool [(2, .class_ 4), (1, u "java/lang/Object"), (0, u "<init>"), (0, u "()V"), (0, .integer 2147483647), (0, .integer 99999), (0, .integer 999999), (0, .integer 9999999), (0, .integer 99999999), (0, .integer 999999999), (0, .methodref 14 15), (0, .class_ 16), (0, .nameAndType 17 18), (0, u "com/example/satzbau/satzbau/formats/qmf/QmfLayout"), (0, u "largest"), (0, u "(I)I"), (0, .class_ 20), (0, u "com/example/satzbau/satzbau/formats/qmf/QmfLayoutLargestPinLaw"), (2, u "law"), (0, u "(I)Z")] 5

def k1m0 : Method := { name := "<init>", desc := "()V", sig := { parameters := [], returnType := none }, accessFlags := 1, code := none }
def k1c1 : Code := { maxStack := 4, maxLocals := 3, code := code, exceptionTable := #[], attributes := #[] }
def k1m1 : Method := { name := "law", desc := "(I)Z", sig := { parameters := [.int], returnType := some .boolean }, accessFlags := 9, code := some k1c1 }
/-- com/example/satzbau/satzbau/formats/qmf/QmfLayoutLargestPinLaw -/
def k1 : Class := { plain "com/example/satzbau/satzbau/formats/qmf/QmfLayoutLargestPinLaw" (some 0) with
  accessFlags := 49
  interfaces := #[]
  cf := some (fileOf pool1 19 #[] #[{ accessFlags := 1, nameIndex := 5, descriptorIndex := 6, attributes := #[] }, { accessFlags := 9, nameIndex := 23, descriptorIndex := 24, attributes := #[] }] 49 2 #[] #[])
  fields := #[]
  methods := #[k1m0, k1m1]
  instanceTypes := #[]
  staticTypes := #[]
  resolved := Array.replicate 30 none
  statics := none }

def pool2 : Array CpInfo := pool [(2, .class_ 4), (1, u "java/lang/Object"), (0, u "<init>"), (0, u "()V"), (24, .class_ 32), (0, u "com/example/satzbau/satzbau/formats/qmf/QmfLayout"), (0, u "RECORD_TYPES"), (0, u "Ljava/lang/String;"), (3, u "NUMBER_DIGITS"), (0, u "I"), (1, u "COUNT_DIGITS"), (1, u "OPEN"), (0, u "C"), (1, u "CONTROL_LENGTH"), (1, u "ROW_WITHOUT_TABLE"), (2, u "FIELDS_DIFFER"), (2, u "BREAK_ONLY_IN_ENDING"), (4, u "largest"), (0, u "(I)I")] 21

def k2m0 : Method := { name := "<init>", desc := "()V", sig := { parameters := [], returnType := none }, accessFlags := 2, code := none }
def k2c1 : Code := { maxStack := 2, maxLocals := 3, code := prog_28_method_2_code, exceptionTable := #[], attributes := #[] }
def k2m1 : Method := { name := "largest", desc := "(I)I", sig := { parameters := [.int], returnType := some .int }, accessFlags := 8, code := some k2c1 }
/-- com/example/satzbau/satzbau/formats/qmf/QmfLayout -/
def k2 : Class := { plain "com/example/satzbau/satzbau/formats/qmf/QmfLayout" (some 0) with
  accessFlags := 48
  interfaces := #[]
  cf := some (fileOf pool2 31 #[] #[{ accessFlags := 2, nameIndex := 5, descriptorIndex := 6, attributes := #[] }, { accessFlags := 8, nameIndex := 59, descriptorIndex := 60, attributes := #[] }] 48 2 #[] #[{ accessFlags := 24, nameIndex := 33, descriptorIndex := 34, attributes := #[] }, { accessFlags := 24, nameIndex := 38, descriptorIndex := 39, attributes := #[] }, { accessFlags := 24, nameIndex := 41, descriptorIndex := 39, attributes := #[] }, { accessFlags := 24, nameIndex := 43, descriptorIndex := 44, attributes := #[] }, { accessFlags := 24, nameIndex := 46, descriptorIndex := 39, attributes := #[] }, { accessFlags := 24, nameIndex := 48, descriptorIndex := 34, attributes := #[] }, { accessFlags := 24, nameIndex := 51, descriptorIndex := 34, attributes := #[] }, { accessFlags := 24, nameIndex := 54, descriptorIndex := 34, attributes := #[] }])
  fields := #[{ name := "RECORD_TYPES", type := (.object "java/lang/String"), accessFlags := 24, slot := 0, constantValue := 0 }, { name := "NUMBER_DIGITS", type := .int, accessFlags := 24, slot := 1, constantValue := 0 }, { name := "COUNT_DIGITS", type := .int, accessFlags := 24, slot := 2, constantValue := 0 }, { name := "OPEN", type := .char, accessFlags := 24, slot := 3, constantValue := 0 }, { name := "CONTROL_LENGTH", type := .int, accessFlags := 24, slot := 4, constantValue := 0 }, { name := "ROW_WITHOUT_TABLE", type := (.object "java/lang/String"), accessFlags := 24, slot := 5, constantValue := 0 }, { name := "FIELDS_DIFFER", type := (.object "java/lang/String"), accessFlags := 24, slot := 6, constantValue := 0 }, { name := "BREAK_ONLY_IN_ENDING", type := (.object "java/lang/String"), accessFlags := 24, slot := 7, constantValue := 0 }]
  methods := #[k2m0, k2m1]
  instanceTypes := #[]
  staticTypes := #[(.object "java/lang/String"), .int, .int, .char, .int, (.object "java/lang/String"), (.object "java/lang/String"), (.object "java/lang/String")]
  resolved := Array.replicate 82 none
  statics := none }

def pool3 : Array CpInfo := pool [(1, u "java/lang/Cloneable"), (0, .class_ 1), (0, u "java/lang/Object"), (0, .class_ 3)] 3

/-- java/lang/Cloneable -/
def k3 : Class := { plain "java/lang/Cloneable" (some 0) with
  accessFlags := 1537
  interfaces := #[]
  cf := some (fileOf pool3 2 #[] #[] 1537 4 #[] #[])
  fields := #[]
  methods := #[]
  instanceTypes := #[]
  staticTypes := #[]
  resolved := Array.replicate 8 none
  statics := none }

def pool4 : Array CpInfo := pool [(1, u "java/io/Serializable"), (0, .class_ 1), (0, u "java/lang/Object"), (0, .class_ 3)] 3

/-- java/io/Serializable -/
def k4 : Class := { plain "java/io/Serializable" (some 0) with
  accessFlags := 1537
  interfaces := #[]
  cf := some (fileOf pool4 2 #[] #[] 1537 4 #[] #[])
  fields := #[]
  methods := #[]
  instanceTypes := #[]
  staticTypes := #[]
  resolved := Array.replicate 8 none
  statics := none }

/-- the primitive byte -/
def k5 : Class := { plain "byte" none with kind := .primitive 'B', accessFlags := 0x411 }
/-- [B -/
def k6 : Class := { plain "[B" (some 0) with kind := .array 5 .byte, interfaces := #[3, 4], accessFlags := 1041 }

/-- the primitive int -/
def k7 : Class := { plain "int" none with kind := .primitive 'I', accessFlags := 0x411 }
/-- [I -/
def k8 : Class := { plain "[I" (some 0) with kind := .array 7 .int, interfaces := #[3, 4], accessFlags := 1041 }

def heap : Heap := #[]
def classes : Array Class := #[k0, k1, k2, k3, k4, k5, k6, k7, k8]
def interned : List (Array UInt16 × Addr) := []
def slotsUsed : Nat := 0
def theMethod : MethodId := ⟨1, 1⟩
def args0 : Array Value := #[.int 5]
def aboutOver (below : List Frame) : State where
  vm := { classes := classes, interned := interned.toArray }
  heap := heap
  slotsUsed := slotsUsed
  threads := #[{ frames := .invoking theMethod args0 :: below }]
def below0 : List Frame := [.native { method := ⟨0, 0⟩, args := #[] }]
def about1 : State := aboutOver below0
def p0 : Program := .bare "" "" ""
def e0 : Env := launch0.env 0 0 0
theorem w_frames : about1.frames = Frame.invoking theMethod args0 :: below0 := rfl
set_option maxRecDepth 65536 in
theorem w_args : argsFit about1.vm theMethod args0 = true := by decide +kernel
set_option maxRecDepth 65536 in
theorem w_heap : heapFits about1 = true := by decide +kernel
set_option maxRecDepth 65536 in
theorem w_runnable : about1.curStatus? = some .runnable := by decide +kernel
set_option maxRecDepth 65536 in
theorem w_alone : about1.alone = true := by decide +kernel
set_option maxRecDepth 65536 in
theorem w_named : about1.methodNamed? x = some theMethod := by decide +kernel
set_option maxRecDepth 65536 in
theorem w_hears : about1.hears theMethod below0 = true := by decide +kernel
set_option maxRecDepth 65536 in
theorem w_ripe : about1.ripe theMethod args0 below0 = true := by decide +kernel
theorem w_running : about1.status = .running := rfl
set_option maxRecDepth 65536 in
theorem w_room : about1.hasRoom e0.platform room_1 = true :=
  launch0.hasRoom_least _ room_1 (by decide +kernel) (by decide +kernel) (by decide +kernel) (by decide +kernel) (by decide +kernel) (by decide +kernel)
theorem allAtoms_all (ts : List Jvm.Cond) (a : Array Jvm.Value) (st : Jvm.State) : (allAtoms ts).before a st = ts.all (fun c => c.before a st) := by
  induction ts with
  | nil => rfl
  | cons c t ih =>
    show (Jvm.Cond.and c (allAtoms t)).before a st = _
    rw [Jvm.Cond.before_and, ih, List.all_cons]
def words1 : List Jvm.Cond := Jvm.Cond.code x code maxLocals ret :: tables_1
/-- a 'code' word, met by the world's own term for the bytes: nothing is compared byte by byte -/
theorem code_word {y : MethodName} {bytes : ByteArray} {mx : Nat} {rt : Option FieldType} {a : Array Value} {s : State} {m : MethodId} {meth : Method} {c : Code} (h1 : s.methodNamed? y = some m) (h2 : s.vm.method? m = some meth) (h3 : meth.code = some c) (h4 : c.code = bytes)
    (h5 : (c.maxLocals == mx && c.exceptionTable.isEmpty && decide (c.maxStack ≤ mostOperands) && decide (meth.sig.returnType = rt) && !meth.locks && decide (parseMethodDescriptor y.desc = some meth.sig)) = true) : (Jvm.Cond.code y bytes mx rt).before a s = true := by
  simp only [Bool.and_eq_true, beq_iff_eq, Bool.not_eq_true', decide_eq_true_eq] at h5
  obtain ⟨⟨⟨⟨⟨g1, g2⟩, g3⟩, g4⟩, g5⟩, g6⟩ := h5
  simp [Cond.before, Cond.holds, Cond.value, h1, h2, h3, h4, g1, g2, g3, g4, g5, g6]
def isCode : Jvm.Cond → Bool
  | .code _ _ _ _ => true
  | _ => false
theorem all_split {L : List Jvm.Cond} {P : Jvm.Cond → Bool} (h1 : L.all (fun c => isCode c || P c) = true) (h2 : ∀ c ∈ L.filter isCode, P c = true) : L.all P = true := by
  refine List.all_eq_true.mpr fun c hc => ?_
  have h := List.all_eq_true.mp h1 c hc
  rcases Bool.eq_false_or_eq_true (isCode c) with hi | hi
  · exact h2 c (List.mem_filter.mpr ⟨hc, hi⟩)
  · simpa [hi] using h
set_option maxRecDepth 65536 in
theorem w_c0 : (Jvm.Cond.code x code maxLocals ret).before args0 about1 = true := code_word (m := ⟨1, 1⟩) (meth := k1m1) (c := k1c1) (by decide +kernel) rfl rfl rfl (by decide +kernel)
set_option maxRecDepth 65536 in
theorem w_c1 : (Jvm.Cond.code ({ cls := "com/example/satzbau/satzbau/formats/qmf/QmfLayout", name := "largest", desc := "(I)I" } : Jvm.MethodName) prog_28_method_2_code (3 : Nat) (Option.some Jvm.ClassFile.FieldType.int)).before args0 about1 = true := code_word (m := ⟨2, 1⟩) (meth := k2m1) (c := k2c1) (by decide +kernel) rfl rfl rfl (by decide +kernel)
def codes1 : List Jvm.Cond := [Jvm.Cond.code x code maxLocals ret, Jvm.Cond.code ({ cls := "com/example/satzbau/satzbau/formats/qmf/QmfLayout", name := "largest", desc := "(I)I" } : Jvm.MethodName) prog_28_method_2_code (3 : Nat) (Option.some Jvm.ClassFile.FieldType.int)]
set_option maxRecDepth 65536 in
theorem codes_eq : words1.filter isCode = codes1 := rfl
theorem w_codes : ∀ c ∈ words1.filter isCode, c.before args0 about1 = true := by
  rw [codes_eq]
  intro c hc
  simp only [codes1, List.mem_cons, List.not_mem_nil, or_false] at hc
  rcases hc with rfl | rfl
  · exact w_c0
  · exact w_c1
set_option maxRecDepth 65536 in
theorem w_t1 : words1.all (fun c => isCode c || c.before args0 about1) = true := by decide +kernel
theorem w_tables : (allAtoms (Jvm.Cond.code x code maxLocals ret :: tables_1)).before args0 about1 = true := by
  rw [allAtoms_all]
  show words1.all (fun c => c.before args0 about1) = true
  refine all_split ?_ w_codes
  rw [w_t1]
set_option maxRecDepth 65536 in
theorem w_case : (Jvm.Cond.and given_1 narrow_1).before args0 about1 = true := by decide +kernel
theorem w_applies : (headSpec (Jvm.Cond.code x code maxLocals ret :: tables_1) room_1).applies x e0.platform about1 = true :=
  (Spec.applies_iff w_frames).mpr ⟨w_running, w_runnable, w_alone, w_named, w_hears, w_ripe, w_room, w_tables⟩
theorem atStart : AtStart classFile x code maxLocals ret World_1 tables_1 room_1 Calls_1 rest_1 Pre_1 launch0 p0 e0 about1 theMethod args0 below0 :=
  ⟨lists_1, trivial, launch0.admits_env _ _ _, launch0.least_env, fairChoices_fair.cas, fairChoices_fair.clock, w_frames, w_args, w_heap, w_applies, trivial, trivial, w_case⟩
end start1
theorem witness_1 : WitnessClaimed_1 := ⟨start1.p0, start1.e0, start1.about1, start1.theMethod, start1.args0, start1.below0, start1.atStart⟩
end Jvm.Pilot.@@N@@
